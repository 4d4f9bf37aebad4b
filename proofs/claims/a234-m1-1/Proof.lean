import JvmDerived
import JvmDerived.Pilot.@@N@@Statement
import JvmDerived.Pilot.@@N@@Code
set_option linter.unusedVariables false
set_option linter.unusedSimpArgs false
namespace Jvm.RoadKit
open Sem ClassFile Op Lib Jvm.Stand Jvm.Free Jvm.LawKit
section New
variable {p : Program} {l : Launch} {e : Env} {R : Room} {s : State} {m : MethodId} {args : Array Value} {below : List Frame} {meth : Method} {c : Code} {T : State} {locs : List Loc} {cells slots : Nat}
theorem retI (X : Stand p l e R s m args below meth c T locs cells slots) (hx : p.tables.exec = Jvm.exec) {pc : Nat} {Ls : Array Slot} {z : Int32} {rest : List Value} (hret : meth.sig.returnType = some .int) (hd : decode c.code pc = .ok (.ireturn, 1)) {fs : List Frame}
    (hl : ∀ (f : JFrame) (acts : List Action), f.method = m → f.locked = none → f.entered = [] → (doReturn e (T.setTop f) acts (some (.int z))).1 = T.setFrames fs) : Steps p.tables e below (T.setTop (mkF m pc Ls (.int z :: rest))) (T.setFrames fs) := by
  have hm' : T.vm.method? m = some meth := X.method'
  have hn : narrow .int (.int z) = .int z := rfl
  show Steps p.tables e below (T.setTop { method := m, pc := pc, locals := Ls, stack := _ :: rest, locked := none }) _
  jvm_step X.here [X.here.top, hx, hd, hm', hret, hn]
  first | (intro acts; rw [hl _ acts rfl rfl rfl]) | rw [hl _ _ rfl rfl rfl]
  exact Steps.refl _
end New
end Jvm.RoadKit
namespace Jvm.Pilot.@@N@@
open Jvm Jvm.ClassFile Sem Op Lib Jvm.Free Jvm.Stand Jvm.LawKit Jvm.RoadKit Bundle Jvm.Pilot.@@N@@.Jvm.D
/-- a truth value as the machine holds it -/
def bi (P : Prop) [Decidable P] : Int32 := if P then 1 else 0
theorem bi_t {P : Prop} [Decidable P] (h : P) : bi P = 1 := if_pos h
theorem bi_f {P : Prop} [Decidable P] (h : ¬ P) : bi P = 0 := if_neg h
theorem bi_n {P : Prop} [Decidable P] (h : P) : ¬ (bi P = 0) := by rw [bi_t h]; decide
theorem bi_nar {P : Prop} [Decidable P] : nar .boolean (bi P) = bi P := by
  by_cases h : P
  · rw [bi_t h]; rfl
  · rw [bi_f h]; rfl
theorem bi_c {P Q : Prop} [Decidable P] [Decidable Q] (h : P ↔ Q) : bi P = bi Q := by
  by_cases k : P
  · rw [bi_t k, bi_t (h.mp k)]
  · rw [bi_f k, bi_f fun x => k (h.mpr x)]
theorem own_ext {h h' : Heap} (K : Keep h h' []) : Ext h h' := ⟨K.1, fun a c r => K.2.1 a c r nin0⟩
theorem own_staK {Z : State} {h h' : Heap} {C n d : String} {v : Value} {ws : List Addr} (F : Sta Z h C n d v) (K : Keep h h' ws) (r : ∀ x ∈ ws, ∃ D, Exa Z h x D) : Sta Z h' C n d v := by
  obtain ⟨cf, i, k, f, st, cell, h1, h2, h3, h4, h5, h6, h7⟩ := F
  refine ⟨cf, i, k, f, st, cell, h1, h2, h3, h4, K.2.1 _ _ h5 (fun u => ?_), h6, h7⟩
  obtain ⟨D, c2, k2, g1, g2, g3, g4, g5⟩ := r st u
  cases h5.symm.trans g1
  rw [h6] at g4; cases g4
theorem own_eqI {args : Array Value} {s : State} {t : Term} {n : Int32} (h : (Jvm.Cond.eq t (.int n)).value args s none s [] = some true) : t.eval args s none [] s = some (.int n) := by
  obtain ⟨x, y, h1, h2, k1, k2⟩ := cmp_v (Or.inl h)
  cases (Term.int_eval n).symm.trans h2
  obtain ⟨z, rfl⟩ := k2
  have u := gotT (show (Jvm.Cond.eq t (.int n)).value args s none s [] = some (decide (z = n)) from by simp [Cond.value, h1, Term.eval]) h
  rw [h1, u]
theorem own_eqL {args : Array Value} {s : State} {t : Term} {n : Int64} (h : (Jvm.Cond.eq t (.long n)).value args s none s [] = some true) : t.eval args s none [] s = some (.long n) := by
  obtain ⟨x, y, h1, h2, k1, k2⟩ := cmp_v (Or.inl h)
  cases (long_at n).symm.trans h2
  obtain ⟨z, rfl⟩ := k2
  have u := gotT (eq_L h1 (long_at n)) h
  rw [h1, u]
theorem own_r (x : Int32) : ((1 : Int32) + (x % (10 : Int32))).toInt64.toInt = 1 + (x % (10 : Int32)).toInt ∧ (0 ≤ x.toInt → (x % (10 : Int32)).toInt = x.toInt % 10) ∧ (x.toInt < 0 → (x % (10 : Int32)).toInt = -((-x.toInt) % 10)) := by
  have h1 := c_irem x 10 10 rfl
  have h2 := c_iadd 1 (x % 10)
  have h3 := rng32 ((1 : Int32) + (x % (10 : Int32)))
  have h4 := rng32 x
  have e1 : (1 : Int32).toInt = 1 := rfl
  rw [c_i2l]
  refine ⟨?_, h1.1, h1.2⟩
  rcases Int.lt_or_le x.toInt 0 with k | k
  · have := h1.2 k; omega
  · have := h1.1 k; omega
theorem own_d (x : Int32) : ((x.toInt64) - ((((1 : Int32) + (x % (10 : Int32))).toInt64) - (1 : Int64))).toInt = x.toInt - (x % (10 : Int32)).toInt := by
  have h0 := own_r x
  have h4 := rng32 x
  have h1 := c_lsub (((1 : Int32) + (x % (10 : Int32))).toInt64) (1 : Int64)
  have h2 := c_lsub (x.toInt64) ((((1 : Int32) + (x % (10 : Int32))).toInt64) - (1 : Int64))
  have h3 := rng64 ((((1 : Int32) + (x % (10 : Int32))).toInt64) - (1 : Int64))
  have h5 := rng64 ((x.toInt64) - ((((1 : Int32) + (x % (10 : Int32))).toInt64) - (1 : Int64)))
  have e1 : (1 : Int64).toInt = 1 := rfl
  have e2 := c_i2l x
  obtain ⟨r1, r2, r3⟩ := h0
  rcases Int.lt_or_le x.toInt 0 with k | k
  · have := r3 k; omega
  · have := r2 k; omega
theorem own_mod (x : Int32) (d : Int64) (hd : d = ((x.toInt64) - ((((1 : Int32) + (x % (10 : Int32))).toInt64) - (1 : Int64)))) : (d - (d / (10 : Int64)) * (10 : Int64)) = (0 : Int64) := by
  have h0 := own_r x
  have h1 := own_d x
  rw [← hd] at h1
  have h2 := c_lrem d 10 10 rfl
  obtain ⟨r1, r2, r3⟩ := h0
  apply Int64.toInt_inj.mp
  show _ = 0
  rcases Int.lt_or_le x.toInt 0 with k | k
  · have := r3 k
    rcases Int.lt_or_le d.toInt 0 with j | j
    · rw [h2.2 j]; omega
    · rw [h2.1 j]; omega
  · have := r2 k
    rw [h2.1 (by omega)]; omega
theorem own_lo (x : Int32) (h : ¬ x < (0 : Int32)) : ¬ ((((1 : Int32) + (x % (10 : Int32))).toInt64) < (1 : Int64)) ∧ ¬ ((10 : Int64) < (((1 : Int32) + (x % (10 : Int32))).toInt64)) := by
  obtain ⟨r1, r2, r3⟩ := own_r x
  rw [Int32.lt_iff_toInt_lt] at h
  have e0 : (0 : Int32).toInt = 0 := rfl
  have := r2 (by omega)
  have e1 : (1 : Int64).toInt = 1 := rfl
  have e2 : (10 : Int64).toInt = 10 := rfl
  rw [Int64.lt_iff_toInt_lt, Int64.lt_iff_toInt_lt]
  omega
theorem own_hi (x : Int32) (h : x < (0 : Int32)) : ¬ ((((1 : Int32) + (x % (10 : Int32))).toInt64) < (-8 : Int64)) ∧ ¬ ((1 : Int64) < (((1 : Int32) + (x % (10 : Int32))).toInt64)) := by
  obtain ⟨r1, r2, r3⟩ := own_r x
  rw [Int32.lt_iff_toInt_lt] at h
  have e0 : (0 : Int32).toInt = 0 := rfl
  have := r3 (by omega)
  have e1 : (1 : Int64).toInt = 1 := rfl
  have e2 : (-8 : Int64).toInt = -8 := rfl
  rw [Int64.lt_iff_toInt_lt, Int64.lt_iff_toInt_lt]
  omega
theorem d2_0 : decode jdk_37_method_2_code 0 = .ok (.aload_n 0, 1) := by decide +kernel
theorem d2_1 : decode jdk_37_method_2_code 1 = .ok (.getfield 7, 3) := by decide +kernel
theorem d2_4 : decode jdk_37_method_2_code 4 = .ok (.ireturn, 1) := by decide +kernel
theorem pn_2 : plainName "java/lang/Enum" = true := by first | (simp [plainName, overriddenIn]; done) | decide +kernel
theorem ef_rm20 (m : MethodId) (o0 : Addr) : entryFrame m #[(.ref o0)] 1 = mkF m 0 #[.val (.ref o0)] [] := by first | (simp [entryFrame, mkF, argsToLocals, Value.category]; done) | rfl
def Qrm20 (Z : State) (o0 : Addr) (h0 : Heap) (n0 : Nat) (v : Option Value) (h : Heap) (L : List Loc) : Prop := v = some (.int (0 : Int32)) ∧ Fr n0 L ∧ h = h0
set_option maxRecDepth 65536 in
set_option maxHeartbeats 40000000 in
theorem rm20 (l : Launch) (Z : State) (a0 : Array Value) (hw : ∀ d ∈ tables_1, d.before a0 Z = true) (ws : List Jvm.Cond) (o0 : Addr) (h0 : Heap) (n0 : Nat) (Z0 : n0 ≤ h0.size) (H0 : Fld Z h0 o0 "java/lang/Enum" "ordinal" "I" (.int (0 : Int32))) :
    MetFree l (⟨"java/lang/Enum", "ordinal", "()I"⟩ : MethodName) (head1 (Jvm.Cond.code (⟨"java/lang/Enum", "ordinal", "()I"⟩ : MethodName) jdk_37_method_2_code 1 (some .int) :: ws) ({ frames := 0, cells := 0, slots := 0, locals := 0 } : Room)) (fun a U => a = #[(.ref o0)] ∧ Z.Warmed39 U.vm ∧ U.heap = h0) (fun _ _ _ _ _ => True) (fun _ U o U' => ∃ v L, o = .returned v ∧ Qrm20 Z o0 h0 n0 v U'.heap L ∧ FrameEnd U o U' L ({ frames := 0, cells := 0, slots := 0, locals := 0 } : Room).cells ({ frames := 0, cells := 0, slots := 0, locals := 0 } : Room).slots) := by
  refine MetFree.of_bodySF (plainFor_of_name pn_2) hisR ?_
  intro p e s m args below meth c s₁ Bd hml0 hP hK
  obtain ⟨rfl, hZ, hh⟩ := hP
  have hx := Bd.exec
  have hby := Bd.bytes
  have hml : c.maxLocals = 1 := hml0
  have hown : s.vm.findClass "java/lang/Enum" = some m.cls := findClass_of_methodNamed Bd.named
  have hnm := (name_of_methodNamed Bd.named Bd.method).1
  have X0 : Stand p l e ({ frames := 0, cells := 0, slots := 0, locals := 0 } : Room) s m #[(.ref o0)] below meth c s₁ [] 0 0 := Stand.of_body Bd
  have e0 : s₁.heap = h0 := by rw [← hh, Bd.state]; rfl
  have N0 := Fr.nil n0
  have pre0 : ∀ t, Steps p.tables e below (s₁.setTop (mkF m 0 #[.val (.ref o0)] [])) t → Steps p.tables e below (s₁.setTop (entryFrame m #[(.ref o0)] 1)) t := fun t k => castTop (ef_rm20 m o0) k
  have z1 := H0.lt
  have KC0 : Keep h0 h0 [] := Keep.refl _ _
  obtain ⟨T2, X2, e2, st2⟩ := getF X0 hx hZ hown (host := "") (Or.inl (hw _ (List.mem_of_getElem? (i := 16) rfl))) Via.refl e0 H0 (g := (mkF m 1 #[.val (.ref o0)] [(.ref o0)])) rfl rfl (hb hby d2_1)
  obtain ⟨fs, hr, hrun, hended, hW, hsame⟩ := X2.leave (v := some (.int (0 : Int32))) (fun h => by rw [Bd.returns] at h; cases h)
  refine ⟨_, _, pre0 _ ?_, hrun, hended, _, _, rfl, ?_, ⟨_, rfl⟩, hW, hsame.mono (by decide) (by decide)⟩
  · show Steps p.tables e below (s₁.setTop (mkF m 0 #[.val (.ref o0)] [])) _
    refine XS.aloadN X0.here hx rfl (hb hby d2_0) rfl rfl ?_
    show Steps p.tables e below (s₁.setTop (mkF m 1 #[.val (.ref o0)] [(.ref o0)])) _
    refine st2 _ ?_
    show Steps p.tables e below (T2.setTop (mkF m 4 #[.val (.ref o0)] [(.int (0 : Int32))])) _
    exact retI X2 hx Bd.returns (hb hby d2_4) hr
  · show Qrm20 Z o0 h0 n0 _ T2.heap _
    rw [e2]
    exact ⟨rfl, N0, rfl⟩
theorem ef_rm21 (m : MethodId) (o0 : Addr) : entryFrame m #[(.ref o0)] 1 = mkF m 0 #[.val (.ref o0)] [] := by first | (simp [entryFrame, mkF, argsToLocals, Value.category]; done) | rfl
def Qrm21 (Z : State) (o0 : Addr) (h0 : Heap) (n0 : Nat) (v : Option Value) (h : Heap) (L : List Loc) : Prop := v = some (.int (1 : Int32)) ∧ Fr n0 L ∧ h = h0
set_option maxRecDepth 65536 in
set_option maxHeartbeats 40000000 in
theorem rm21 (l : Launch) (Z : State) (a0 : Array Value) (hw : ∀ d ∈ tables_1, d.before a0 Z = true) (ws : List Jvm.Cond) (o0 : Addr) (h0 : Heap) (n0 : Nat) (Z0 : n0 ≤ h0.size) (H0 : Fld Z h0 o0 "java/lang/Enum" "ordinal" "I" (.int (1 : Int32))) :
    MetFree l (⟨"java/lang/Enum", "ordinal", "()I"⟩ : MethodName) (head1 (Jvm.Cond.code (⟨"java/lang/Enum", "ordinal", "()I"⟩ : MethodName) jdk_37_method_2_code 1 (some .int) :: ws) ({ frames := 0, cells := 0, slots := 0, locals := 0 } : Room)) (fun a U => a = #[(.ref o0)] ∧ Z.Warmed39 U.vm ∧ U.heap = h0) (fun _ _ _ _ _ => True) (fun _ U o U' => ∃ v L, o = .returned v ∧ Qrm21 Z o0 h0 n0 v U'.heap L ∧ FrameEnd U o U' L ({ frames := 0, cells := 0, slots := 0, locals := 0 } : Room).cells ({ frames := 0, cells := 0, slots := 0, locals := 0 } : Room).slots) := by
  refine MetFree.of_bodySF (plainFor_of_name pn_2) hisR ?_
  intro p e s m args below meth c s₁ Bd hml0 hP hK
  obtain ⟨rfl, hZ, hh⟩ := hP
  have hx := Bd.exec
  have hby := Bd.bytes
  have hml : c.maxLocals = 1 := hml0
  have hown : s.vm.findClass "java/lang/Enum" = some m.cls := findClass_of_methodNamed Bd.named
  have hnm := (name_of_methodNamed Bd.named Bd.method).1
  have X0 : Stand p l e ({ frames := 0, cells := 0, slots := 0, locals := 0 } : Room) s m #[(.ref o0)] below meth c s₁ [] 0 0 := Stand.of_body Bd
  have e0 : s₁.heap = h0 := by rw [← hh, Bd.state]; rfl
  have N0 := Fr.nil n0
  have pre0 : ∀ t, Steps p.tables e below (s₁.setTop (mkF m 0 #[.val (.ref o0)] [])) t → Steps p.tables e below (s₁.setTop (entryFrame m #[(.ref o0)] 1)) t := fun t k => castTop (ef_rm21 m o0) k
  have z3 := H0.lt
  have KC0 : Keep h0 h0 [] := Keep.refl _ _
  obtain ⟨T4, X4, e4, st4⟩ := getF X0 hx hZ hown (host := "") (Or.inl (hw _ (List.mem_of_getElem? (i := 16) rfl))) Via.refl e0 H0 (g := (mkF m 1 #[.val (.ref o0)] [(.ref o0)])) rfl rfl (hb hby d2_1)
  obtain ⟨fs, hr, hrun, hended, hW, hsame⟩ := X4.leave (v := some (.int (1 : Int32))) (fun h => by rw [Bd.returns] at h; cases h)
  refine ⟨_, _, pre0 _ ?_, hrun, hended, _, _, rfl, ?_, ⟨_, rfl⟩, hW, hsame.mono (by decide) (by decide)⟩
  · show Steps p.tables e below (s₁.setTop (mkF m 0 #[.val (.ref o0)] [])) _
    refine XS.aloadN X0.here hx rfl (hb hby d2_0) rfl rfl ?_
    show Steps p.tables e below (s₁.setTop (mkF m 1 #[.val (.ref o0)] [(.ref o0)])) _
    refine st4 _ ?_
    show Steps p.tables e below (T4.setTop (mkF m 4 #[.val (.ref o0)] [(.int (1 : Int32))])) _
    exact retI X4 hx Bd.returns (hb hby d2_4) hr
  · show Qrm21 Z o0 h0 n0 _ T4.heap _
    rw [e4]
    exact ⟨rfl, N0, rfl⟩
theorem ef_rm22 (m : MethodId) (o0 : Addr) : entryFrame m #[(.ref o0)] 1 = mkF m 0 #[.val (.ref o0)] [] := by first | (simp [entryFrame, mkF, argsToLocals, Value.category]; done) | rfl
def Qrm22 (Z : State) (o0 : Addr) (h0 : Heap) (n0 : Nat) (v : Option Value) (h : Heap) (L : List Loc) : Prop := v = some (.int (2 : Int32)) ∧ Fr n0 L ∧ h = h0
set_option maxRecDepth 65536 in
set_option maxHeartbeats 40000000 in
theorem rm22 (l : Launch) (Z : State) (a0 : Array Value) (hw : ∀ d ∈ tables_1, d.before a0 Z = true) (ws : List Jvm.Cond) (o0 : Addr) (h0 : Heap) (n0 : Nat) (Z0 : n0 ≤ h0.size) (H0 : Fld Z h0 o0 "java/lang/Enum" "ordinal" "I" (.int (2 : Int32))) :
    MetFree l (⟨"java/lang/Enum", "ordinal", "()I"⟩ : MethodName) (head1 (Jvm.Cond.code (⟨"java/lang/Enum", "ordinal", "()I"⟩ : MethodName) jdk_37_method_2_code 1 (some .int) :: ws) ({ frames := 0, cells := 0, slots := 0, locals := 0 } : Room)) (fun a U => a = #[(.ref o0)] ∧ Z.Warmed39 U.vm ∧ U.heap = h0) (fun _ _ _ _ _ => True) (fun _ U o U' => ∃ v L, o = .returned v ∧ Qrm22 Z o0 h0 n0 v U'.heap L ∧ FrameEnd U o U' L ({ frames := 0, cells := 0, slots := 0, locals := 0 } : Room).cells ({ frames := 0, cells := 0, slots := 0, locals := 0 } : Room).slots) := by
  refine MetFree.of_bodySF (plainFor_of_name pn_2) hisR ?_
  intro p e s m args below meth c s₁ Bd hml0 hP hK
  obtain ⟨rfl, hZ, hh⟩ := hP
  have hx := Bd.exec
  have hby := Bd.bytes
  have hml : c.maxLocals = 1 := hml0
  have hown : s.vm.findClass "java/lang/Enum" = some m.cls := findClass_of_methodNamed Bd.named
  have hnm := (name_of_methodNamed Bd.named Bd.method).1
  have X0 : Stand p l e ({ frames := 0, cells := 0, slots := 0, locals := 0 } : Room) s m #[(.ref o0)] below meth c s₁ [] 0 0 := Stand.of_body Bd
  have e0 : s₁.heap = h0 := by rw [← hh, Bd.state]; rfl
  have N0 := Fr.nil n0
  have pre0 : ∀ t, Steps p.tables e below (s₁.setTop (mkF m 0 #[.val (.ref o0)] [])) t → Steps p.tables e below (s₁.setTop (entryFrame m #[(.ref o0)] 1)) t := fun t k => castTop (ef_rm22 m o0) k
  have z5 := H0.lt
  have KC0 : Keep h0 h0 [] := Keep.refl _ _
  obtain ⟨T6, X6, e6, st6⟩ := getF X0 hx hZ hown (host := "") (Or.inl (hw _ (List.mem_of_getElem? (i := 16) rfl))) Via.refl e0 H0 (g := (mkF m 1 #[.val (.ref o0)] [(.ref o0)])) rfl rfl (hb hby d2_1)
  obtain ⟨fs, hr, hrun, hended, hW, hsame⟩ := X6.leave (v := some (.int (2 : Int32))) (fun h => by rw [Bd.returns] at h; cases h)
  refine ⟨_, _, pre0 _ ?_, hrun, hended, _, _, rfl, ?_, ⟨_, rfl⟩, hW, hsame.mono (by decide) (by decide)⟩
  · show Steps p.tables e below (s₁.setTop (mkF m 0 #[.val (.ref o0)] [])) _
    refine XS.aloadN X0.here hx rfl (hb hby d2_0) rfl rfl ?_
    show Steps p.tables e below (s₁.setTop (mkF m 1 #[.val (.ref o0)] [(.ref o0)])) _
    refine st6 _ ?_
    show Steps p.tables e below (T6.setTop (mkF m 4 #[.val (.ref o0)] [(.int (2 : Int32))])) _
    exact retI X6 hx Bd.returns (hb hby d2_4) hr
  · show Qrm22 Z o0 h0 n0 _ T6.heap _
    rw [e6]
    exact ⟨rfl, N0, rfl⟩
theorem d1_0 : decode prog_9_method_4_code 0 = .ok (.aload_n 0, 1) := by decide +kernel
theorem d1_1 : decode prog_9_method_4_code 1 = .ok (.invokevirtual 32, 3) := by decide +kernel
theorem pd_0 : parseMethodDescriptor "()I" = some ⟨[], some .int⟩ := by decide +kernel
theorem d1_4 : decode prog_9_method_4_code 4 = .ok (.tableswitch 28 0 2 #[38, 48, 54], 28) := by decide +kernel
theorem d1_42 : decode prog_9_method_4_code 42 = .ok (.iconst 1, 1) := by decide +kernel
theorem d1_43 : decode prog_9_method_4_code 43 = .ok (.iload_n 1, 1) := by decide +kernel
theorem d1_44 : decode prog_9_method_4_code 44 = .ok (.bipush 10, 2) := by decide +kernel
theorem d1_46 : decode prog_9_method_4_code 46 = .ok (.irem, 1) := by decide +kernel
theorem d1_47 : decode prog_9_method_4_code 47 = .ok (.iadd, 1) := by decide +kernel
theorem d1_48 : decode prog_9_method_4_code 48 = .ok (.i2l, 1) := by decide +kernel
theorem d1_49 : decode prog_9_method_4_code 49 = .ok (.goto 12, 3) := by decide +kernel
theorem d1_61 : decode prog_9_method_4_code 61 = .ok (.lreturn, 1) := by decide +kernel
theorem pn_1 : plainName "com/example/delay_buckets/delaybuckets/Scenario" = true := by first | (simp [plainName, overriddenIn]; done) | decide +kernel
theorem ef_rm10 (m : MethodId) (o0 : Addr) (p1 : Int32) : entryFrame m #[(.ref o0), (.int p1)] 2 = mkF m 0 #[.val (.ref o0), .val (.int p1)] [] := by first | (simp [entryFrame, mkF, argsToLocals, Value.category]; done) | rfl
def Qrm10 (Z : State) (o0 : Addr) (p1 : Int32) (h0 : Heap) (n0 : Nat) (v : Option Value) (h : Heap) (L : List Loc) : Prop := v = some (.long (((1 : Int32) + (p1 % (10 : Int32))).toInt64)) ∧ Fr n0 L ∧ h = h0
set_option maxRecDepth 65536 in
set_option maxHeartbeats 40000000 in
theorem rm10 (l : Launch) (Z : State) (a0 : Array Value) (hw : ∀ d ∈ tables_1, d.before a0 Z = true) (ws : List Jvm.Cond) (o0 : Addr) (p1 : Int32) (h0 : Heap) (n0 : Nat) (Z0 : n0 ≤ h0.size) (H0 : Exa Z h0 o0 "com/example/delay_buckets/delaybuckets/Scenario") (H1 : Fld Z h0 o0 "java/lang/Enum" "ordinal" "I" (.int (0 : Int32))) :
    MetFree l (⟨"com/example/delay_buckets/delaybuckets/Scenario", "delaySeconds", "(I)J"⟩ : MethodName) (head1 (Jvm.Cond.code (⟨"com/example/delay_buckets/delaybuckets/Scenario", "delaySeconds", "(I)J"⟩ : MethodName) prog_9_method_4_code 2 (some .long) :: ws) ({ frames := 1, cells := 0, slots := 0, locals := 12 } : Room)) (fun a U => a = #[(.ref o0), (.int p1)] ∧ Z.Warmed39 U.vm ∧ U.heap = h0) (fun _ _ _ _ _ => True) (fun _ U o U' => ∃ v L, o = .returned v ∧ Qrm10 Z o0 p1 h0 n0 v U'.heap L ∧ FrameEnd U o U' L ({ frames := 1, cells := 0, slots := 0, locals := 12 } : Room).cells ({ frames := 1, cells := 0, slots := 0, locals := 12 } : Room).slots) := by
  refine MetFree.of_bodySF (plainFor_of_name pn_1) hisR ?_
  intro p e s m args below meth c s₁ Bd hml0 hP hK
  obtain ⟨rfl, hZ, hh⟩ := hP
  have hx := Bd.exec
  have hby := Bd.bytes
  have hml : c.maxLocals = 2 := hml0
  have hown : s.vm.findClass "com/example/delay_buckets/delaybuckets/Scenario" = some m.cls := findClass_of_methodNamed Bd.named
  have hnm := (name_of_methodNamed Bd.named Bd.method).1
  have X0 : Stand p l e ({ frames := 1, cells := 0, slots := 0, locals := 12 } : Room) s m #[(.ref o0), (.int p1)] below meth c s₁ [] 0 0 := Stand.of_body Bd
  have e0 : s₁.heap = h0 := by rw [← hh, Bd.state]; rfl
  have N0 := Fr.nil n0
  have pre0 : ∀ t, Steps p.tables e below (s₁.setTop (mkF m 0 #[.val (.ref o0), .val (.int p1)] [])) t → Steps p.tables e below (s₁.setTop (entryFrame m #[(.ref o0), (.int p1)] 2)) t := fun t k => castTop (ef_rm10 m o0 p1) k
  have z7 := H0.lt
  have z8 := H1.lt
  have KC0 : Keep h0 h0 [] := Keep.refl _ _
  obtain ⟨cq9, kq9, qa9, qb9, qc9⟩ := isOf hZ e0 H0
  obtain ⟨_, _, ⟨T9, L9, k9, n9⟩, -, X9, ⟨Lc9, hQ9, l9, y9, z9⟩, st9⟩ := X0.virtualBackUp hx (owner := "java/lang/Enum") (x := (⟨"com/example/delay_buckets/delaybuckets/Scenario", "ordinal", "()I"⟩ : MethodName)) (y := (⟨"java/lang/Enum", "ordinal", "()I"⟩ : MethodName)) hown (mvT hZ (hw _ (List.mem_of_getElem? (i := 9) rfl))) (mvT hZ (hw _ (List.mem_of_getElem? (i := 10) rfl))) (mvT hZ (hw _ (List.mem_of_getElem? (i := 11) rfl))) (by decide) (mvT hZ (hw _ (List.mem_of_getElem? (i := 13) rfl))) (mvT hZ (hw _ (List.mem_of_getElem? (i := 12) rfl))) (backOf (W := 0) (rm20 l Z a0 hw [] o0 h0 n0 (by omega) H1) hZ (hw _ (List.mem_of_getElem? (i := 15) rfl)) (hw _ (List.mem_of_getElem? (i := 14) rfl)) (by decide) (by decide)) qa9 qc9 (g := (mkF m 1 #[.val (.ref o0), .val (.int p1)] [(.ref o0)])) rfl (by rw [hml]; rfl) (Steps.refl _) (argsL := []) (rest := []) (lenOf pd_0 rfl) rfl (by show 2 * 0 + _ ≤ _; exact Nat.le_of_eq rfl) (hb hby d1_1) (fun _ _ => ⟨rfl, e0, (by decide : 0 + 0 ≤ _), (by decide : 0 + 0 ≤ _)⟩)
  dsimp only [Pt.U, Pt.locs, Pt.cells, Pt.slots] at X9 l9 y9 z9 st9 hQ9
  subst l9 y9 z9
  obtain ⟨rfl, N9q, e9⟩ := hQ9
  have N9 := Fr.app N0 N9q
  obtain ⟨fs, hr, hrun, hended, hW, hsame⟩ := X9.leave (v := some (.long (((1 : Int32) + (p1 % (10 : Int32))).toInt64))) (fun h => by rw [Bd.returns] at h; cases h)
  refine ⟨_, _, pre0 _ ?_, hrun, hended, _, _, rfl, ?_, ⟨_, rfl⟩, hW, hsame.mono (by decide) (by decide)⟩
  · show Steps p.tables e below (s₁.setTop (mkF m 0 #[.val (.ref o0), .val (.int p1)] [])) _
    refine XS.aloadN X0.here hx rfl (hb hby d1_0) rfl rfl ?_
    show Steps p.tables e below (s₁.setTop (mkF m 1 #[.val (.ref o0), .val (.int p1)] [(.ref o0)])) _
    refine st9.trans ?_
    show Steps p.tables e below (T9.setTop (mkF m 4 #[.val (.ref o0), .val (.int p1)] [(.int (0 : Int32))])) _
    refine XS.tswIn X9.here hx rfl (pc0 := 4) (pc' := 42) rfl (hb hby d1_4) rfl (by decide) (o := 38) (by decide) (by decide) (by decide) ?_
    show Steps p.tables e below (T9.setTop (mkF m 42 #[.val (.ref o0), .val (.int p1)] [])) _
    refine XS.iconst X9.here hx rfl (hb hby d1_42) ?_
    show Steps p.tables e below (T9.setTop (mkF m 43 #[.val (.ref o0), .val (.int p1)] [(.int (1 : Int32))])) _
    refine XS.iloadN X9.here hx rfl (hb hby d1_43) rfl ?_
    show Steps p.tables e below (T9.setTop (mkF m 44 #[.val (.ref o0), .val (.int p1)] [(.int p1), (.int (1 : Int32))])) _
    refine XS.bipush X9.here hx rfl (hb hby d1_44) ?_
    show Steps p.tables e below (T9.setTop (mkF m 46 #[.val (.ref o0), .val (.int p1)] [(.int (10 : Int32)), (.int p1), (.int (1 : Int32))])) _
    refine iremM (g := (mkF m 46 #[.val (.ref o0), .val (.int p1)] [(.int (10 : Int32)), (.int p1), (.int (1 : Int32))])) X9 hx rfl (hb hby d1_46) rfl (by decide) ?_
    show Steps p.tables e below (T9.setTop (mkF m 47 #[.val (.ref o0), .val (.int p1)] [(.int (p1 % (10 : Int32))), (.int (1 : Int32))])) _
    refine XS.iadd X9.here hx rfl (hb hby d1_47) rfl ?_
    show Steps p.tables e below (T9.setTop (mkF m 48 #[.val (.ref o0), .val (.int p1)] [(.int ((1 : Int32) + (p1 % (10 : Int32))))])) _
    refine XS.i2l X9.here hx rfl (hb hby d1_48) rfl ?_
    show Steps p.tables e below (T9.setTop (mkF m 49 #[.val (.ref o0), .val (.int p1)] [(.long (((1 : Int32) + (p1 % (10 : Int32))).toInt64))])) _
    refine XS.goto X9.here hx rfl (pc0 := 49) (pc' := 61) rfl (hb hby d1_49) (by decide) (by decide) ?_
    show Steps p.tables e below (T9.setTop (mkF m 61 #[.val (.ref o0), .val (.int p1)] [(.long (((1 : Int32) + (p1 % (10 : Int32))).toInt64))])) _
    jvm_step X9.here [X9.here.top, hx, (hb hby d1_61), X9.method', Bd.returns, narrow]
    first | (intro acts; rw [hr _ acts rfl rfl rfl]) | rw [hr _ _ rfl rfl rfl]
    exact Steps.refl _
  · show Qrm10 Z o0 p1 h0 n0 _ T9.heap _
    rw [e9]
    exact ⟨rfl, N9, rfl⟩
theorem d1_52 : decode prog_9_method_4_code 52 = .ok (.ldc2_w 41, 3) := by decide +kernel
theorem d1_55 : decode prog_9_method_4_code 55 = .ok (.goto 6, 3) := by decide +kernel
theorem ef_rm11 (m : MethodId) (o0 : Addr) (p1 : Int32) : entryFrame m #[(.ref o0), (.int p1)] 2 = mkF m 0 #[.val (.ref o0), .val (.int p1)] [] := by first | (simp [entryFrame, mkF, argsToLocals, Value.category]; done) | rfl
def Qrm11 (Z : State) (o0 : Addr) (p1 : Int32) (h0 : Heap) (n0 : Nat) (v : Option Value) (h : Heap) (L : List Loc) : Prop := v = some (.long (10 : Int64)) ∧ Fr n0 L ∧ h = h0
set_option maxRecDepth 65536 in
set_option maxHeartbeats 40000000 in
theorem rm11 (l : Launch) (Z : State) (a0 : Array Value) (hw : ∀ d ∈ tables_1, d.before a0 Z = true) (ws : List Jvm.Cond) (o0 : Addr) (p1 : Int32) (h0 : Heap) (n0 : Nat) (Z0 : n0 ≤ h0.size) (H0 : Exa Z h0 o0 "com/example/delay_buckets/delaybuckets/Scenario") (H1 : Fld Z h0 o0 "java/lang/Enum" "ordinal" "I" (.int (1 : Int32))) :
    MetFree l (⟨"com/example/delay_buckets/delaybuckets/Scenario", "delaySeconds", "(I)J"⟩ : MethodName) (head1 (Jvm.Cond.code (⟨"com/example/delay_buckets/delaybuckets/Scenario", "delaySeconds", "(I)J"⟩ : MethodName) prog_9_method_4_code 2 (some .long) :: ws) ({ frames := 1, cells := 0, slots := 0, locals := 12 } : Room)) (fun a U => a = #[(.ref o0), (.int p1)] ∧ Z.Warmed39 U.vm ∧ U.heap = h0) (fun _ _ _ _ _ => True) (fun _ U o U' => ∃ v L, o = .returned v ∧ Qrm11 Z o0 p1 h0 n0 v U'.heap L ∧ FrameEnd U o U' L ({ frames := 1, cells := 0, slots := 0, locals := 12 } : Room).cells ({ frames := 1, cells := 0, slots := 0, locals := 12 } : Room).slots) := by
  refine MetFree.of_bodySF (plainFor_of_name pn_1) hisR ?_
  intro p e s m args below meth c s₁ Bd hml0 hP hK
  obtain ⟨rfl, hZ, hh⟩ := hP
  have hx := Bd.exec
  have hby := Bd.bytes
  have hml : c.maxLocals = 2 := hml0
  have hown : s.vm.findClass "com/example/delay_buckets/delaybuckets/Scenario" = some m.cls := findClass_of_methodNamed Bd.named
  have hnm := (name_of_methodNamed Bd.named Bd.method).1
  have X0 : Stand p l e ({ frames := 1, cells := 0, slots := 0, locals := 12 } : Room) s m #[(.ref o0), (.int p1)] below meth c s₁ [] 0 0 := Stand.of_body Bd
  have e0 : s₁.heap = h0 := by rw [← hh, Bd.state]; rfl
  have N0 := Fr.nil n0
  have pre0 : ∀ t, Steps p.tables e below (s₁.setTop (mkF m 0 #[.val (.ref o0), .val (.int p1)] [])) t → Steps p.tables e below (s₁.setTop (entryFrame m #[(.ref o0), (.int p1)] 2)) t := fun t k => castTop (ef_rm11 m o0 p1) k
  have z10 := H0.lt
  have z11 := H1.lt
  have KC0 : Keep h0 h0 [] := Keep.refl _ _
  obtain ⟨cq12, kq12, qa12, qb12, qc12⟩ := isOf hZ e0 H0
  obtain ⟨_, _, ⟨T12, L12, k12, n12⟩, -, X12, ⟨Lc12, hQ12, l12, y12, z12⟩, st12⟩ := X0.virtualBackUp hx (owner := "java/lang/Enum") (x := (⟨"com/example/delay_buckets/delaybuckets/Scenario", "ordinal", "()I"⟩ : MethodName)) (y := (⟨"java/lang/Enum", "ordinal", "()I"⟩ : MethodName)) hown (mvT hZ (hw _ (List.mem_of_getElem? (i := 9) rfl))) (mvT hZ (hw _ (List.mem_of_getElem? (i := 10) rfl))) (mvT hZ (hw _ (List.mem_of_getElem? (i := 11) rfl))) (by decide) (mvT hZ (hw _ (List.mem_of_getElem? (i := 13) rfl))) (mvT hZ (hw _ (List.mem_of_getElem? (i := 12) rfl))) (backOf (W := 0) (rm21 l Z a0 hw [] o0 h0 n0 (by omega) H1) hZ (hw _ (List.mem_of_getElem? (i := 15) rfl)) (hw _ (List.mem_of_getElem? (i := 14) rfl)) (by decide) (by decide)) qa12 qc12 (g := (mkF m 1 #[.val (.ref o0), .val (.int p1)] [(.ref o0)])) rfl (by rw [hml]; rfl) (Steps.refl _) (argsL := []) (rest := []) (lenOf pd_0 rfl) rfl (by show 2 * 0 + _ ≤ _; exact Nat.le_of_eq rfl) (hb hby d1_1) (fun _ _ => ⟨rfl, e0, (by decide : 0 + 0 ≤ _), (by decide : 0 + 0 ≤ _)⟩)
  dsimp only [Pt.U, Pt.locs, Pt.cells, Pt.slots] at X12 l12 y12 z12 st12 hQ12
  subst l12 y12 z12
  obtain ⟨rfl, N12q, e12⟩ := hQ12
  have N12 := Fr.app N0 N12q
  obtain ⟨fs, hr, hrun, hended, hW, hsame⟩ := X12.leave (v := some (.long (10 : Int64))) (fun h => by rw [Bd.returns] at h; cases h)
  refine ⟨_, _, pre0 _ ?_, hrun, hended, _, _, rfl, ?_, ⟨_, rfl⟩, hW, hsame.mono (by decide) (by decide)⟩
  · show Steps p.tables e below (s₁.setTop (mkF m 0 #[.val (.ref o0), .val (.int p1)] [])) _
    refine XS.aloadN X0.here hx rfl (hb hby d1_0) rfl rfl ?_
    show Steps p.tables e below (s₁.setTop (mkF m 1 #[.val (.ref o0), .val (.int p1)] [(.ref o0)])) _
    refine st12.trans ?_
    show Steps p.tables e below (T12.setTop (mkF m 4 #[.val (.ref o0), .val (.int p1)] [(.int (1 : Int32))])) _
    refine XS.tswIn X12.here hx rfl (pc0 := 4) (pc' := 52) rfl (hb hby d1_4) rfl (by decide) (o := 48) (by decide) (by decide) (by decide) ?_
    show Steps p.tables e below (T12.setTop (mkF m 52 #[.val (.ref o0), .val (.int p1)] [])) _
    refine X12.ldc2Long hx hown (mvT hZ (hw _ (List.mem_of_getElem? (i := 25) rfl))) (g := (mkF m 52 #[.val (.ref o0), .val (.int p1)] [])) rfl (hb hby d1_52) _ ?_
    show Steps p.tables e below (T12.setTop (mkF m 55 #[.val (.ref o0), .val (.int p1)] [(.long (10 : Int64))])) _
    refine XS.goto X12.here hx rfl (pc0 := 55) (pc' := 61) rfl (hb hby d1_55) (by decide) (by decide) ?_
    show Steps p.tables e below (T12.setTop (mkF m 61 #[.val (.ref o0), .val (.int p1)] [(.long (10 : Int64))])) _
    jvm_step X12.here [X12.here.top, hx, (hb hby d1_61), X12.method', Bd.returns, narrow]
    first | (intro acts; rw [hr _ acts rfl rfl rfl]) | rw [hr _ _ rfl rfl rfl]
    exact Steps.refl _
  · show Qrm11 Z o0 p1 h0 n0 _ T12.heap _
    rw [e12]
    exact ⟨rfl, N12, rfl⟩
theorem d1_58 : decode prog_9_method_4_code 58 = .ok (.ldc2_w 43, 3) := by decide +kernel
theorem ef_rm12 (m : MethodId) (o0 : Addr) (p1 : Int32) : entryFrame m #[(.ref o0), (.int p1)] 2 = mkF m 0 #[.val (.ref o0), .val (.int p1)] [] := by first | (simp [entryFrame, mkF, argsToLocals, Value.category]; done) | rfl
def Qrm12 (Z : State) (o0 : Addr) (p1 : Int32) (h0 : Heap) (n0 : Nat) (v : Option Value) (h : Heap) (L : List Loc) : Prop := v = some (.long (3600 : Int64)) ∧ Fr n0 L ∧ h = h0
set_option maxRecDepth 65536 in
set_option maxHeartbeats 40000000 in
theorem rm12 (l : Launch) (Z : State) (a0 : Array Value) (hw : ∀ d ∈ tables_1, d.before a0 Z = true) (ws : List Jvm.Cond) (o0 : Addr) (p1 : Int32) (h0 : Heap) (n0 : Nat) (Z0 : n0 ≤ h0.size) (H0 : Exa Z h0 o0 "com/example/delay_buckets/delaybuckets/Scenario") (H1 : Fld Z h0 o0 "java/lang/Enum" "ordinal" "I" (.int (2 : Int32))) :
    MetFree l (⟨"com/example/delay_buckets/delaybuckets/Scenario", "delaySeconds", "(I)J"⟩ : MethodName) (head1 (Jvm.Cond.code (⟨"com/example/delay_buckets/delaybuckets/Scenario", "delaySeconds", "(I)J"⟩ : MethodName) prog_9_method_4_code 2 (some .long) :: ws) ({ frames := 1, cells := 0, slots := 0, locals := 12 } : Room)) (fun a U => a = #[(.ref o0), (.int p1)] ∧ Z.Warmed39 U.vm ∧ U.heap = h0) (fun _ _ _ _ _ => True) (fun _ U o U' => ∃ v L, o = .returned v ∧ Qrm12 Z o0 p1 h0 n0 v U'.heap L ∧ FrameEnd U o U' L ({ frames := 1, cells := 0, slots := 0, locals := 12 } : Room).cells ({ frames := 1, cells := 0, slots := 0, locals := 12 } : Room).slots) := by
  refine MetFree.of_bodySF (plainFor_of_name pn_1) hisR ?_
  intro p e s m args below meth c s₁ Bd hml0 hP hK
  obtain ⟨rfl, hZ, hh⟩ := hP
  have hx := Bd.exec
  have hby := Bd.bytes
  have hml : c.maxLocals = 2 := hml0
  have hown : s.vm.findClass "com/example/delay_buckets/delaybuckets/Scenario" = some m.cls := findClass_of_methodNamed Bd.named
  have hnm := (name_of_methodNamed Bd.named Bd.method).1
  have X0 : Stand p l e ({ frames := 1, cells := 0, slots := 0, locals := 12 } : Room) s m #[(.ref o0), (.int p1)] below meth c s₁ [] 0 0 := Stand.of_body Bd
  have e0 : s₁.heap = h0 := by rw [← hh, Bd.state]; rfl
  have N0 := Fr.nil n0
  have pre0 : ∀ t, Steps p.tables e below (s₁.setTop (mkF m 0 #[.val (.ref o0), .val (.int p1)] [])) t → Steps p.tables e below (s₁.setTop (entryFrame m #[(.ref o0), (.int p1)] 2)) t := fun t k => castTop (ef_rm12 m o0 p1) k
  have z13 := H0.lt
  have z14 := H1.lt
  have KC0 : Keep h0 h0 [] := Keep.refl _ _
  obtain ⟨cq15, kq15, qa15, qb15, qc15⟩ := isOf hZ e0 H0
  obtain ⟨_, _, ⟨T15, L15, k15, n15⟩, -, X15, ⟨Lc15, hQ15, l15, y15, z15⟩, st15⟩ := X0.virtualBackUp hx (owner := "java/lang/Enum") (x := (⟨"com/example/delay_buckets/delaybuckets/Scenario", "ordinal", "()I"⟩ : MethodName)) (y := (⟨"java/lang/Enum", "ordinal", "()I"⟩ : MethodName)) hown (mvT hZ (hw _ (List.mem_of_getElem? (i := 9) rfl))) (mvT hZ (hw _ (List.mem_of_getElem? (i := 10) rfl))) (mvT hZ (hw _ (List.mem_of_getElem? (i := 11) rfl))) (by decide) (mvT hZ (hw _ (List.mem_of_getElem? (i := 13) rfl))) (mvT hZ (hw _ (List.mem_of_getElem? (i := 12) rfl))) (backOf (W := 0) (rm22 l Z a0 hw [] o0 h0 n0 (by omega) H1) hZ (hw _ (List.mem_of_getElem? (i := 15) rfl)) (hw _ (List.mem_of_getElem? (i := 14) rfl)) (by decide) (by decide)) qa15 qc15 (g := (mkF m 1 #[.val (.ref o0), .val (.int p1)] [(.ref o0)])) rfl (by rw [hml]; rfl) (Steps.refl _) (argsL := []) (rest := []) (lenOf pd_0 rfl) rfl (by show 2 * 0 + _ ≤ _; exact Nat.le_of_eq rfl) (hb hby d1_1) (fun _ _ => ⟨rfl, e0, (by decide : 0 + 0 ≤ _), (by decide : 0 + 0 ≤ _)⟩)
  dsimp only [Pt.U, Pt.locs, Pt.cells, Pt.slots] at X15 l15 y15 z15 st15 hQ15
  subst l15 y15 z15
  obtain ⟨rfl, N15q, e15⟩ := hQ15
  have N15 := Fr.app N0 N15q
  obtain ⟨fs, hr, hrun, hended, hW, hsame⟩ := X15.leave (v := some (.long (3600 : Int64))) (fun h => by rw [Bd.returns] at h; cases h)
  refine ⟨_, _, pre0 _ ?_, hrun, hended, _, _, rfl, ?_, ⟨_, rfl⟩, hW, hsame.mono (by decide) (by decide)⟩
  · show Steps p.tables e below (s₁.setTop (mkF m 0 #[.val (.ref o0), .val (.int p1)] [])) _
    refine XS.aloadN X0.here hx rfl (hb hby d1_0) rfl rfl ?_
    show Steps p.tables e below (s₁.setTop (mkF m 1 #[.val (.ref o0), .val (.int p1)] [(.ref o0)])) _
    refine st15.trans ?_
    show Steps p.tables e below (T15.setTop (mkF m 4 #[.val (.ref o0), .val (.int p1)] [(.int (2 : Int32))])) _
    refine XS.tswIn X15.here hx rfl (pc0 := 4) (pc' := 58) rfl (hb hby d1_4) rfl (by decide) (o := 54) (by decide) (by decide) (by decide) ?_
    show Steps p.tables e below (T15.setTop (mkF m 58 #[.val (.ref o0), .val (.int p1)] [])) _
    refine X15.ldc2Long hx hown (mvT hZ (hw _ (List.mem_of_getElem? (i := 21) rfl))) (g := (mkF m 58 #[.val (.ref o0), .val (.int p1)] [])) rfl (hb hby d1_58) _ ?_
    show Steps p.tables e below (T15.setTop (mkF m 61 #[.val (.ref o0), .val (.int p1)] [(.long (3600 : Int64))])) _
    jvm_step X15.here [X15.here.top, hx, (hb hby d1_61), X15.method', Bd.returns, narrow]
    first | (intro acts; rw [hr _ acts rfl rfl rfl]) | rw [hr _ _ rfl rfl rfl]
    exact Steps.refl _
  · show Qrm12 Z o0 p1 h0 n0 _ T15.heap _
    rw [e15]
    exact ⟨rfl, N15, rfl⟩
theorem pd_1 : parseMethodDescriptor "(I)J" = some ⟨[.int], some .long⟩ := by decide +kernel
theorem pn_0 : plainName "com/example/delay_buckets/delaybuckets/ScenarioDelaySecondsPinLaw" = true := by first | (simp [plainName, overriddenIn]; done) | decide +kernel
theorem ef_rm0 (m : MethodId) (p0 : Int32) (p1 : Int32) : entryFrame m #[(.int p0), (.int p1)] maxLocals = mkF m 0 #[.val (.int p0), .val (.int p1), .unset, .unset, .unset, .unset, .unset, .unset, .unset] [] := by first | (simp [entryFrame, mkF, argsToLocals, Value.category, maxLocals]; done) | rfl
def Qrm0 (Z : State) (p0 : Int32) (p1 : Int32) (w0 : Addr) (w1 : Addr) (w2 : Addr) (h0 : Heap) (n0 : Nat) (v : Option Value) (h : Heap) (L : List Loc) : Prop := v = some (.int (1 : Int32)) ∧ Fr n0 L ∧ h = h0
set_option maxRecDepth 65536 in
set_option maxHeartbeats 40000000 in
theorem rm0 (l : Launch) (Z : State) (a0 : Array Value) (hw : ∀ d ∈ tables_1, d.before a0 Z = true) (ws : List Jvm.Cond) (p0 : Int32) (p1 : Int32) (w0 : Addr) (w1 : Addr) (w2 : Addr) (h0 : Heap) (n0 : Nat) (Z0 : n0 ≤ h0.size) (H0 : Sta Z h0 "com/example/delay_buckets/delaybuckets/Scenario" "SPREAD" "Lcom/example/delay_buckets/delaybuckets/Scenario;" (.ref w0)) (H1 : Exa Z h0 w0 "com/example/delay_buckets/delaybuckets/Scenario") (H2 : Fld Z h0 w0 "java/lang/Enum" "ordinal" "I" (.int (0 : Int32))) (H3 : Sta Z h0 "com/example/delay_buckets/delaybuckets/Scenario" "BURST" "Lcom/example/delay_buckets/delaybuckets/Scenario;" (.ref w1)) (H4 : Exa Z h0 w1 "com/example/delay_buckets/delaybuckets/Scenario") (H5 : Fld Z h0 w1 "java/lang/Enum" "ordinal" "I" (.int (1 : Int32))) (H6 : Sta Z h0 "com/example/delay_buckets/delaybuckets/Scenario" "HOLD" "Lcom/example/delay_buckets/delaybuckets/Scenario;" (.ref w2)) (H7 : Exa Z h0 w2 "com/example/delay_buckets/delaybuckets/Scenario") (H8 : Fld Z h0 w2 "java/lang/Enum" "ordinal" "I" (.int (2 : Int32))) :
    MetFree l x (head1 (Jvm.Cond.code x code maxLocals ret :: ws) room_1) (fun a U => a = #[(.int p0), (.int p1)] ∧ Z.Warmed39 U.vm ∧ U.heap = h0) (fun _ _ _ _ _ => True) (fun _ U o U' => ∃ v L, o = .returned v ∧ Qrm0 Z p0 p1 w0 w1 w2 h0 n0 v U'.heap L ∧ FrameEnd U o U' L room_1.cells room_1.slots) := by
  refine MetFree.of_bodySF (plainFor_of_name pn_0) hisR ?_
  intro p e s m args below meth c s₁ Bd hml0 hP hK
  obtain ⟨rfl, hZ, hh⟩ := hP
  have hx := Bd.exec
  have hby := Bd.bytes
  have hml : c.maxLocals = 9 := hml0
  have hown : s.vm.findClass "com/example/delay_buckets/delaybuckets/ScenarioDelaySecondsPinLaw" = some m.cls := findClass_of_methodNamed Bd.named
  have hnm := (name_of_methodNamed Bd.named Bd.method).1
  have X0 : Stand p l e room_1 s m #[(.int p0), (.int p1)] below meth c s₁ [] 0 0 := Stand.of_body Bd
  have e0 : s₁.heap = h0 := by rw [← hh, Bd.state]; rfl
  have N0 := Fr.nil n0
  have pre0 : ∀ t, Steps p.tables e below (s₁.setTop (mkF m 0 #[.val (.int p0), .val (.int p1), .unset, .unset, .unset, .unset, .unset, .unset, .unset] [])) t → Steps p.tables e below (s₁.setTop (entryFrame m #[(.int p0), (.int p1)] maxLocals)) t := fun t k => castTop (ef_rm0 m p0 p1) k
  have z16 := H1.lt
  have z17 := H2.lt
  have z18 := H4.lt
  have z19 := H5.lt
  have z20 := H7.lt
  have z21 := H8.lt
  have KC0 : Keep h0 h0 [] := Keep.refl _ _
  have pre22 : ∀ t, Steps p.tables e below (s₁.setTop (mkF m 9 #[.val (.int p0), .val (.int p1), .val (.int ((p0 &&& (2147483647 : Int32)) % (3 : Int32))), .unset, .unset, .unset, .unset, .unset, .unset] [(.int (1 : Int32)), (.int ((p0 &&& (2147483647 : Int32)) % (3 : Int32)))])) t → Steps p.tables e below (s₁.setTop (entryFrame m #[(.int p0), (.int p1)] maxLocals)) t := fun t k => by
    refine pre0 _ ?_
    show Steps p.tables e below (s₁.setTop (mkF m 0 #[.val (.int p0), .val (.int p1), .unset, .unset, .unset, .unset, .unset, .unset, .unset] [])) _
    refine XS.iloadN X0.here hx rfl (hb hby at_0) rfl ?_
    show Steps p.tables e below (s₁.setTop (mkF m 1 #[.val (.int p0), .val (.int p1), .unset, .unset, .unset, .unset, .unset, .unset, .unset] [(.int p0)])) _
    refine X0.ldcInt hx hown (mvT hZ (hw _ (List.mem_of_getElem? (i := 0) rfl))) (g := (mkF m 1 #[.val (.int p0), .val (.int p1), .unset, .unset, .unset, .unset, .unset, .unset, .unset] [(.int p0)])) rfl (hb hby at_1) _ ?_
    show Steps p.tables e below (s₁.setTop (mkF m 3 #[.val (.int p0), .val (.int p1), .unset, .unset, .unset, .unset, .unset, .unset, .unset] [(.int (2147483647 : Int32)), (.int p0)])) _
    refine XS.iand X0.here hx rfl (hb hby at_3) rfl ?_
    show Steps p.tables e below (s₁.setTop (mkF m 4 #[.val (.int p0), .val (.int p1), .unset, .unset, .unset, .unset, .unset, .unset, .unset] [(.int (p0 &&& (2147483647 : Int32)))])) _
    refine XS.iconst X0.here hx rfl (hb hby at_4) ?_
    show Steps p.tables e below (s₁.setTop (mkF m 5 #[.val (.int p0), .val (.int p1), .unset, .unset, .unset, .unset, .unset, .unset, .unset] [(.int (3 : Int32)), (.int (p0 &&& (2147483647 : Int32)))])) _
    refine iremM (g := (mkF m 5 #[.val (.int p0), .val (.int p1), .unset, .unset, .unset, .unset, .unset, .unset, .unset] [(.int (3 : Int32)), (.int (p0 &&& (2147483647 : Int32)))])) X0 hx rfl (hb hby at_5) rfl (by decide) ?_
    show Steps p.tables e below (s₁.setTop (mkF m 6 #[.val (.int p0), .val (.int p1), .unset, .unset, .unset, .unset, .unset, .unset, .unset] [(.int ((p0 &&& (2147483647 : Int32)) % (3 : Int32)))])) _
    refine XS.istoreN X0.here hx rfl (hb hby at_6) rfl (l' := #[.val (.int p0), .val (.int p1), .val (.int ((p0 &&& (2147483647 : Int32)) % (3 : Int32))), .unset, .unset, .unset, .unset, .unset, .unset]) rfl ?_
    show Steps p.tables e below (s₁.setTop (mkF m 7 #[.val (.int p0), .val (.int p1), .val (.int ((p0 &&& (2147483647 : Int32)) % (3 : Int32))), .unset, .unset, .unset, .unset, .unset, .unset] [])) _
    refine XS.iloadN X0.here hx rfl (hb hby at_7) rfl ?_
    show Steps p.tables e below (s₁.setTop (mkF m 8 #[.val (.int p0), .val (.int p1), .val (.int ((p0 &&& (2147483647 : Int32)) % (3 : Int32))), .unset, .unset, .unset, .unset, .unset, .unset] [(.int ((p0 &&& (2147483647 : Int32)) % (3 : Int32)))])) _
    refine XS.iconst X0.here hx rfl (hb hby at_8) ?_
    exact k
  by_cases hc23 : ((p0 &&& (2147483647 : Int32)) % (3 : Int32)) = (1 : Int32)
  · obtain ⟨T24, X24, e24, st24⟩ := getS2 X0 hx hZ hown (host := "") (Or.inl (hw _ (List.mem_of_getElem? (i := 23) rfl))) Via.refl e0 H3 (g := (mkF m 12 #[.val (.int p0), .val (.int p1), .val (.int ((p0 &&& (2147483647 : Int32)) % (3 : Int32))), .unset, .unset, .unset, .unset, .unset, .unset] [])) rfl (hb hby at_12)
    obtain ⟨cq25, kq25, qa25, qb25, qc25⟩ := isOf hZ e24 H4
    obtain ⟨_, _, ⟨T25, L25, k25, n25⟩, -, X25, ⟨Lc25, hQ25, l25, y25, z25⟩, st25⟩ := X24.virtualBack hx (y := (⟨"com/example/delay_buckets/delaybuckets/Scenario", "delaySeconds", "(I)J"⟩ : MethodName)) (z := (⟨"com/example/delay_buckets/delaybuckets/Scenario", "delaySeconds", "(I)J"⟩ : MethodName)) hown (mvT hZ (hw _ (List.mem_of_getElem? (i := 4) rfl))) (mvT hZ (hw _ (List.mem_of_getElem? (i := 5) rfl))) (notFace_of_selects (args := #[]) (mvT hZ (hw _ (List.mem_of_getElem? (i := 7) rfl)))) (mvT hZ (hw _ (List.mem_of_getElem? (i := 7) rfl))) (mvT hZ (hw _ (List.mem_of_getElem? (i := 6) rfl))) (by decide) (backOf (W := 0) (rm11 l Z a0 hw [] w1 p1 h0 n0 (by omega) H4 H5) hZ (hw _ (List.mem_of_getElem? (i := 8) rfl)) (hw _ (List.mem_of_getElem? (i := 2) rfl)) (by decide) (by decide)) qa25 qc25 (g := (mkF m 16 #[.val (.int p0), .val (.int p1), .val (.int ((p0 &&& (2147483647 : Int32)) % (3 : Int32))), .unset, .unset, .unset, .unset, .unset, .unset] [(.int p1), (.ref w1)])) rfl (by rw [hml]; rfl) (Steps.refl _) (argsL := [(.int p1)]) (rest := []) (lenOf pd_1 rfl) rfl (by show 2 * 0 + _ ≤ _; exact Nat.le_of_eq rfl) (hb hby at_16) (fun _ _ => ⟨rfl, e24, (by decide : 0 + 0 ≤ _), (by decide : 0 + 0 ≤ _)⟩)
    dsimp only [Pt.U, Pt.locs, Pt.cells, Pt.slots] at X25 l25 y25 z25 st25 hQ25
    subst l25 y25 z25
    obtain ⟨rfl, N25q, e25⟩ := hQ25
    have N25 := Fr.app N0 N25q
    obtain ⟨fs, hr, hrun, hended, hW, hsame⟩ := X25.leave (v := some (.int (1 : Int32))) (fun h => by rw [Bd.returns] at h; cases h)
    refine ⟨_, _, pre22 _ ?_, hrun, hended, _, _, rfl, ?_, ⟨_, rfl⟩, hW, hsame.mono (by decide) (by decide)⟩
    · show Steps p.tables e below (s₁.setTop (mkF m 9 #[.val (.int p0), .val (.int p1), .val (.int ((p0 &&& (2147483647 : Int32)) % (3 : Int32))), .unset, .unset, .unset, .unset, .unset, .unset] [(.int (1 : Int32)), (.int ((p0 &&& (2147483647 : Int32)) % (3 : Int32)))])) _
      refine XS.icmpNo X0.here hx rfl (hb hby at_9) rfl (teq (hc23 : ((p0 &&& (2147483647 : Int32)) % (3 : Int32)) = (1 : Int32))).2 ?_
      show Steps p.tables e below (s₁.setTop (mkF m 12 #[.val (.int p0), .val (.int p1), .val (.int ((p0 &&& (2147483647 : Int32)) % (3 : Int32))), .unset, .unset, .unset, .unset, .unset, .unset] [])) _
      refine st24 _ ?_
      show Steps p.tables e below (T24.setTop (mkF m 15 #[.val (.int p0), .val (.int p1), .val (.int ((p0 &&& (2147483647 : Int32)) % (3 : Int32))), .unset, .unset, .unset, .unset, .unset, .unset] [(.ref w1)])) _
      refine XS.iloadN X24.here hx rfl (hb hby at_15) rfl ?_
      show Steps p.tables e below (T24.setTop (mkF m 16 #[.val (.int p0), .val (.int p1), .val (.int ((p0 &&& (2147483647 : Int32)) % (3 : Int32))), .unset, .unset, .unset, .unset, .unset, .unset] [(.int p1), (.ref w1)])) _
      refine st25.trans ?_
      show Steps p.tables e below (T25.setTop (mkF m 19 #[.val (.int p0), .val (.int p1), .val (.int ((p0 &&& (2147483647 : Int32)) % (3 : Int32))), .unset, .unset, .unset, .unset, .unset, .unset] [(.long (10 : Int64))])) _
      refine X25.ldc2Long hx hown (mvT hZ (hw _ (List.mem_of_getElem? (i := 18) rfl))) (g := (mkF m 19 #[.val (.int p0), .val (.int p1), .val (.int ((p0 &&& (2147483647 : Int32)) % (3 : Int32))), .unset, .unset, .unset, .unset, .unset, .unset] [(.long (10 : Int64))])) rfl (hb hby at_19) _ ?_
      show Steps p.tables e below (T25.setTop (mkF m 22 #[.val (.int p0), .val (.int p1), .val (.int ((p0 &&& (2147483647 : Int32)) % (3 : Int32))), .unset, .unset, .unset, .unset, .unset, .unset] [(.long (10 : Int64)), (.long (10 : Int64))])) _
      refine XS.lcmp X25.here hx rfl (hb hby at_22) rfl ?_
      show Steps p.tables e below (T25.setTop (mkF m 23 #[.val (.int p0), .val (.int p1), .val (.int ((p0 &&& (2147483647 : Int32)) % (3 : Int32))), .unset, .unset, .unset, .unset, .unset, .unset] [(.int (lcmpW (10 : Int64) (10 : Int64)))])) _
      refine XS.ifNo X25.here hx rfl (hb hby at_23) rfl ((if0 _ _).trans (teq (((lw_eq (10 : Int64) (10 : Int64)).mpr (by decide : ((10 : Int64) = (10 : Int64)))) : (lcmpW (10 : Int64) (10 : Int64)) = (0 : Int32))).2) ?_
      show Steps p.tables e below (T25.setTop (mkF m 26 #[.val (.int p0), .val (.int p1), .val (.int ((p0 &&& (2147483647 : Int32)) % (3 : Int32))), .unset, .unset, .unset, .unset, .unset, .unset] [])) _
      refine XS.iconst X25.here hx rfl (hb hby at_26) ?_
      show Steps p.tables e below (T25.setTop (mkF m 27 #[.val (.int p0), .val (.int p1), .val (.int ((p0 &&& (2147483647 : Int32)) % (3 : Int32))), .unset, .unset, .unset, .unset, .unset, .unset] [(.int (1 : Int32))])) _
      refine XS.goto X25.here hx rfl (pc0 := 27) (pc' := 31) rfl (hb hby at_27) (by decide) (by decide) ?_
      show Steps p.tables e below (T25.setTop (mkF m 31 #[.val (.int p0), .val (.int p1), .val (.int ((p0 &&& (2147483647 : Int32)) % (3 : Int32))), .unset, .unset, .unset, .unset, .unset, .unset] [(.int (1 : Int32))])) _
      exact retN X25 hx (t := .boolean) Bd.returns (by simp) (hb hby at_31) hr
    · show Qrm0 Z p0 p1 w0 w1 w2 h0 n0 _ T25.heap _
      rw [e25]
      exact ⟨rfl, N25, rfl⟩
  · have pre26 : ∀ t, Steps p.tables e below (s₁.setTop (mkF m 34 #[.val (.int p0), .val (.int p1), .val (.int ((p0 &&& (2147483647 : Int32)) % (3 : Int32))), .unset, .unset, .unset, .unset, .unset, .unset] [(.int (2 : Int32)), (.int ((p0 &&& (2147483647 : Int32)) % (3 : Int32)))])) t → Steps p.tables e below (s₁.setTop (entryFrame m #[(.int p0), (.int p1)] maxLocals)) t := fun t k => by
      refine pre22 _ ?_
      show Steps p.tables e below (s₁.setTop (mkF m 9 #[.val (.int p0), .val (.int p1), .val (.int ((p0 &&& (2147483647 : Int32)) % (3 : Int32))), .unset, .unset, .unset, .unset, .unset, .unset] [(.int (1 : Int32)), (.int ((p0 &&& (2147483647 : Int32)) % (3 : Int32)))])) _
      refine XS.icmpYes X0.here hx rfl (pc0 := 9) (pc' := 32) rfl (hb hby at_9) rfl (feq (hc23 : ¬ (((p0 &&& (2147483647 : Int32)) % (3 : Int32)) = (1 : Int32)))).2 (by decide) (by decide) ?_
      show Steps p.tables e below (s₁.setTop (mkF m 32 #[.val (.int p0), .val (.int p1), .val (.int ((p0 &&& (2147483647 : Int32)) % (3 : Int32))), .unset, .unset, .unset, .unset, .unset, .unset] [])) _
      refine XS.iloadN X0.here hx rfl (hb hby at_32) rfl ?_
      show Steps p.tables e below (s₁.setTop (mkF m 33 #[.val (.int p0), .val (.int p1), .val (.int ((p0 &&& (2147483647 : Int32)) % (3 : Int32))), .unset, .unset, .unset, .unset, .unset, .unset] [(.int ((p0 &&& (2147483647 : Int32)) % (3 : Int32)))])) _
      refine XS.iconst X0.here hx rfl (hb hby at_33) ?_
      exact k
    by_cases hc27 : ((p0 &&& (2147483647 : Int32)) % (3 : Int32)) = (2 : Int32)
    · obtain ⟨T28, X28, e28, st28⟩ := getS2 X0 hx hZ hown (host := "") (Or.inl (hw _ (List.mem_of_getElem? (i := 19) rfl))) Via.refl e0 H6 (g := (mkF m 37 #[.val (.int p0), .val (.int p1), .val (.int ((p0 &&& (2147483647 : Int32)) % (3 : Int32))), .unset, .unset, .unset, .unset, .unset, .unset] [])) rfl (hb hby at_37)
      obtain ⟨cq29, kq29, qa29, qb29, qc29⟩ := isOf hZ e28 H7
      obtain ⟨_, _, ⟨T29, L29, k29, n29⟩, -, X29, ⟨Lc29, hQ29, l29, y29, z29⟩, st29⟩ := X28.virtualBack hx (y := (⟨"com/example/delay_buckets/delaybuckets/Scenario", "delaySeconds", "(I)J"⟩ : MethodName)) (z := (⟨"com/example/delay_buckets/delaybuckets/Scenario", "delaySeconds", "(I)J"⟩ : MethodName)) hown (mvT hZ (hw _ (List.mem_of_getElem? (i := 4) rfl))) (mvT hZ (hw _ (List.mem_of_getElem? (i := 5) rfl))) (notFace_of_selects (args := #[]) (mvT hZ (hw _ (List.mem_of_getElem? (i := 7) rfl)))) (mvT hZ (hw _ (List.mem_of_getElem? (i := 7) rfl))) (mvT hZ (hw _ (List.mem_of_getElem? (i := 6) rfl))) (by decide) (backOf (W := 0) (rm12 l Z a0 hw [] w2 p1 h0 n0 (by omega) H7 H8) hZ (hw _ (List.mem_of_getElem? (i := 8) rfl)) (hw _ (List.mem_of_getElem? (i := 2) rfl)) (by decide) (by decide)) qa29 qc29 (g := (mkF m 41 #[.val (.int p0), .val (.int p1), .val (.int ((p0 &&& (2147483647 : Int32)) % (3 : Int32))), .unset, .unset, .unset, .unset, .unset, .unset] [(.int p1), (.ref w2)])) rfl (by rw [hml]; rfl) (Steps.refl _) (argsL := [(.int p1)]) (rest := []) (lenOf pd_1 rfl) rfl (by show 2 * 0 + _ ≤ _; exact Nat.le_of_eq rfl) (hb hby at_41) (fun _ _ => ⟨rfl, e28, (by decide : 0 + 0 ≤ _), (by decide : 0 + 0 ≤ _)⟩)
      dsimp only [Pt.U, Pt.locs, Pt.cells, Pt.slots] at X29 l29 y29 z29 st29 hQ29
      subst l29 y29 z29
      obtain ⟨rfl, N29q, e29⟩ := hQ29
      have N29 := Fr.app N0 N29q
      obtain ⟨fs, hr, hrun, hended, hW, hsame⟩ := X29.leave (v := some (.int (1 : Int32))) (fun h => by rw [Bd.returns] at h; cases h)
      refine ⟨_, _, pre26 _ ?_, hrun, hended, _, _, rfl, ?_, ⟨_, rfl⟩, hW, hsame.mono (by decide) (by decide)⟩
      · show Steps p.tables e below (s₁.setTop (mkF m 34 #[.val (.int p0), .val (.int p1), .val (.int ((p0 &&& (2147483647 : Int32)) % (3 : Int32))), .unset, .unset, .unset, .unset, .unset, .unset] [(.int (2 : Int32)), (.int ((p0 &&& (2147483647 : Int32)) % (3 : Int32)))])) _
        refine XS.icmpNo X0.here hx rfl (hb hby at_34) rfl (teq (hc27 : ((p0 &&& (2147483647 : Int32)) % (3 : Int32)) = (2 : Int32))).2 ?_
        show Steps p.tables e below (s₁.setTop (mkF m 37 #[.val (.int p0), .val (.int p1), .val (.int ((p0 &&& (2147483647 : Int32)) % (3 : Int32))), .unset, .unset, .unset, .unset, .unset, .unset] [])) _
        refine st28 _ ?_
        show Steps p.tables e below (T28.setTop (mkF m 40 #[.val (.int p0), .val (.int p1), .val (.int ((p0 &&& (2147483647 : Int32)) % (3 : Int32))), .unset, .unset, .unset, .unset, .unset, .unset] [(.ref w2)])) _
        refine XS.iloadN X28.here hx rfl (hb hby at_40) rfl ?_
        show Steps p.tables e below (T28.setTop (mkF m 41 #[.val (.int p0), .val (.int p1), .val (.int ((p0 &&& (2147483647 : Int32)) % (3 : Int32))), .unset, .unset, .unset, .unset, .unset, .unset] [(.int p1), (.ref w2)])) _
        refine st29.trans ?_
        show Steps p.tables e below (T29.setTop (mkF m 44 #[.val (.int p0), .val (.int p1), .val (.int ((p0 &&& (2147483647 : Int32)) % (3 : Int32))), .unset, .unset, .unset, .unset, .unset, .unset] [(.long (3600 : Int64))])) _
        refine X29.ldc2Long hx hown (mvT hZ (hw _ (List.mem_of_getElem? (i := 22) rfl))) (g := (mkF m 44 #[.val (.int p0), .val (.int p1), .val (.int ((p0 &&& (2147483647 : Int32)) % (3 : Int32))), .unset, .unset, .unset, .unset, .unset, .unset] [(.long (3600 : Int64))])) rfl (hb hby at_44) _ ?_
        show Steps p.tables e below (T29.setTop (mkF m 47 #[.val (.int p0), .val (.int p1), .val (.int ((p0 &&& (2147483647 : Int32)) % (3 : Int32))), .unset, .unset, .unset, .unset, .unset, .unset] [(.long (3600 : Int64)), (.long (3600 : Int64))])) _
        refine XS.lcmp X29.here hx rfl (hb hby at_47) rfl ?_
        show Steps p.tables e below (T29.setTop (mkF m 48 #[.val (.int p0), .val (.int p1), .val (.int ((p0 &&& (2147483647 : Int32)) % (3 : Int32))), .unset, .unset, .unset, .unset, .unset, .unset] [(.int (lcmpW (3600 : Int64) (3600 : Int64)))])) _
        refine XS.ifNo X29.here hx rfl (hb hby at_48) rfl ((if0 _ _).trans (teq (((lw_eq (3600 : Int64) (3600 : Int64)).mpr (by decide : ((3600 : Int64) = (3600 : Int64)))) : (lcmpW (3600 : Int64) (3600 : Int64)) = (0 : Int32))).2) ?_
        show Steps p.tables e below (T29.setTop (mkF m 51 #[.val (.int p0), .val (.int p1), .val (.int ((p0 &&& (2147483647 : Int32)) % (3 : Int32))), .unset, .unset, .unset, .unset, .unset, .unset] [])) _
        refine XS.iconst X29.here hx rfl (hb hby at_51) ?_
        show Steps p.tables e below (T29.setTop (mkF m 52 #[.val (.int p0), .val (.int p1), .val (.int ((p0 &&& (2147483647 : Int32)) % (3 : Int32))), .unset, .unset, .unset, .unset, .unset, .unset] [(.int (1 : Int32))])) _
        refine XS.goto X29.here hx rfl (pc0 := 52) (pc' := 56) rfl (hb hby at_52) (by decide) (by decide) ?_
        show Steps p.tables e below (T29.setTop (mkF m 56 #[.val (.int p0), .val (.int p1), .val (.int ((p0 &&& (2147483647 : Int32)) % (3 : Int32))), .unset, .unset, .unset, .unset, .unset, .unset] [(.int (1 : Int32))])) _
        exact retN X29 hx (t := .boolean) Bd.returns (by simp) (hb hby at_56) hr
      · show Qrm0 Z p0 p1 w0 w1 w2 h0 n0 _ T29.heap _
        rw [e29]
        exact ⟨rfl, N29, rfl⟩
    · obtain ⟨T30, X30, e30, st30⟩ := getS2 X0 hx hZ hown (host := "") (Or.inl (hw _ (List.mem_of_getElem? (i := 1) rfl))) Via.refl e0 H0 (g := (mkF m 57 #[.val (.int p0), .val (.int p1), .val (.int ((p0 &&& (2147483647 : Int32)) % (3 : Int32))), .unset, .unset, .unset, .unset, .unset, .unset] [])) rfl (hb hby at_57)
      obtain ⟨cq31, kq31, qa31, qb31, qc31⟩ := isOf hZ e30 H1
      obtain ⟨_, _, ⟨T31, L31, k31, n31⟩, -, X31, ⟨Lc31, hQ31, l31, y31, z31⟩, st31⟩ := X30.virtualBack hx (y := (⟨"com/example/delay_buckets/delaybuckets/Scenario", "delaySeconds", "(I)J"⟩ : MethodName)) (z := (⟨"com/example/delay_buckets/delaybuckets/Scenario", "delaySeconds", "(I)J"⟩ : MethodName)) hown (mvT hZ (hw _ (List.mem_of_getElem? (i := 4) rfl))) (mvT hZ (hw _ (List.mem_of_getElem? (i := 5) rfl))) (notFace_of_selects (args := #[]) (mvT hZ (hw _ (List.mem_of_getElem? (i := 7) rfl)))) (mvT hZ (hw _ (List.mem_of_getElem? (i := 7) rfl))) (mvT hZ (hw _ (List.mem_of_getElem? (i := 6) rfl))) (by decide) (backOf (W := 0) (rm10 l Z a0 hw [] w0 p1 h0 n0 (by omega) H1 H2) hZ (hw _ (List.mem_of_getElem? (i := 8) rfl)) (hw _ (List.mem_of_getElem? (i := 2) rfl)) (by decide) (by decide)) qa31 qc31 (g := (mkF m 61 #[.val (.int p0), .val (.int p1), .val (.int ((p0 &&& (2147483647 : Int32)) % (3 : Int32))), .unset, .unset, .unset, .unset, .unset, .unset] [(.int p1), (.ref w0)])) rfl (by rw [hml]; rfl) (Steps.refl _) (argsL := [(.int p1)]) (rest := []) (lenOf pd_1 rfl) rfl (by show 2 * 0 + _ ≤ _; exact Nat.le_of_eq rfl) (hb hby at_61) (fun _ _ => ⟨rfl, e30, (by decide : 0 + 0 ≤ _), (by decide : 0 + 0 ≤ _)⟩)
      dsimp only [Pt.U, Pt.locs, Pt.cells, Pt.slots] at X31 l31 y31 z31 st31 hQ31
      subst l31 y31 z31
      obtain ⟨rfl, N31q, e31⟩ := hQ31
      have N31 := Fr.app N0 N31q
      have pre32 : ∀ t, Steps p.tables e below (T31.setTop (mkF m 92 #[.val (.int p0), .val (.int p1), .val (.int ((p0 &&& (2147483647 : Int32)) % (3 : Int32))), .val (.long (((1 : Int32) + (p1 % (10 : Int32))).toInt64)), .second, .val (.long ((p1.toInt64) - ((((1 : Int32) + (p1 % (10 : Int32))).toInt64) - (1 : Int64)))), .second, .val (.int (1 : Int32)), .unset] [(.int p1)])) t → Steps p.tables e below (s₁.setTop (entryFrame m #[(.int p0), (.int p1)] maxLocals)) t := fun t k => by
        refine pre26 _ ?_
        show Steps p.tables e below (s₁.setTop (mkF m 34 #[.val (.int p0), .val (.int p1), .val (.int ((p0 &&& (2147483647 : Int32)) % (3 : Int32))), .unset, .unset, .unset, .unset, .unset, .unset] [(.int (2 : Int32)), (.int ((p0 &&& (2147483647 : Int32)) % (3 : Int32)))])) _
        refine XS.icmpYes X0.here hx rfl (pc0 := 34) (pc' := 57) rfl (hb hby at_34) rfl (feq (hc27 : ¬ (((p0 &&& (2147483647 : Int32)) % (3 : Int32)) = (2 : Int32)))).2 (by decide) (by decide) ?_
        show Steps p.tables e below (s₁.setTop (mkF m 57 #[.val (.int p0), .val (.int p1), .val (.int ((p0 &&& (2147483647 : Int32)) % (3 : Int32))), .unset, .unset, .unset, .unset, .unset, .unset] [])) _
        refine st30 _ ?_
        show Steps p.tables e below (T30.setTop (mkF m 60 #[.val (.int p0), .val (.int p1), .val (.int ((p0 &&& (2147483647 : Int32)) % (3 : Int32))), .unset, .unset, .unset, .unset, .unset, .unset] [(.ref w0)])) _
        refine XS.iloadN X30.here hx rfl (hb hby at_60) rfl ?_
        show Steps p.tables e below (T30.setTop (mkF m 61 #[.val (.int p0), .val (.int p1), .val (.int ((p0 &&& (2147483647 : Int32)) % (3 : Int32))), .unset, .unset, .unset, .unset, .unset, .unset] [(.int p1), (.ref w0)])) _
        refine st31.trans ?_
        show Steps p.tables e below (T31.setTop (mkF m 64 #[.val (.int p0), .val (.int p1), .val (.int ((p0 &&& (2147483647 : Int32)) % (3 : Int32))), .unset, .unset, .unset, .unset, .unset, .unset] [(.long (((1 : Int32) + (p1 % (10 : Int32))).toInt64))])) _
        refine XS.lstoreN X31.here hx rfl (hb hby at_64) rfl (l' := #[.val (.int p0), .val (.int p1), .val (.int ((p0 &&& (2147483647 : Int32)) % (3 : Int32))), .val (.long (((1 : Int32) + (p1 % (10 : Int32))).toInt64)), .second, .unset, .unset, .unset, .unset]) rfl ?_
        show Steps p.tables e below (T31.setTop (mkF m 65 #[.val (.int p0), .val (.int p1), .val (.int ((p0 &&& (2147483647 : Int32)) % (3 : Int32))), .val (.long (((1 : Int32) + (p1 % (10 : Int32))).toInt64)), .second, .unset, .unset, .unset, .unset] [])) _
        refine XS.iloadN X31.here hx rfl (hb hby at_65) rfl ?_
        show Steps p.tables e below (T31.setTop (mkF m 66 #[.val (.int p0), .val (.int p1), .val (.int ((p0 &&& (2147483647 : Int32)) % (3 : Int32))), .val (.long (((1 : Int32) + (p1 % (10 : Int32))).toInt64)), .second, .unset, .unset, .unset, .unset] [(.int p1)])) _
        refine XS.i2l X31.here hx rfl (hb hby at_66) rfl ?_
        show Steps p.tables e below (T31.setTop (mkF m 67 #[.val (.int p0), .val (.int p1), .val (.int ((p0 &&& (2147483647 : Int32)) % (3 : Int32))), .val (.long (((1 : Int32) + (p1 % (10 : Int32))).toInt64)), .second, .unset, .unset, .unset, .unset] [(.long (p1.toInt64))])) _
        refine XS.lloadN X31.here hx rfl (hb hby at_67) rfl ?_
        show Steps p.tables e below (T31.setTop (mkF m 68 #[.val (.int p0), .val (.int p1), .val (.int ((p0 &&& (2147483647 : Int32)) % (3 : Int32))), .val (.long (((1 : Int32) + (p1 % (10 : Int32))).toInt64)), .second, .unset, .unset, .unset, .unset] [(.long (((1 : Int32) + (p1 % (10 : Int32))).toInt64)), (.long (p1.toInt64))])) _
        refine XS.lconst X31.here hx rfl (hb hby at_68) ?_
        show Steps p.tables e below (T31.setTop (mkF m 69 #[.val (.int p0), .val (.int p1), .val (.int ((p0 &&& (2147483647 : Int32)) % (3 : Int32))), .val (.long (((1 : Int32) + (p1 % (10 : Int32))).toInt64)), .second, .unset, .unset, .unset, .unset] [(.long (1 : Int64)), (.long (((1 : Int32) + (p1 % (10 : Int32))).toInt64)), (.long (p1.toInt64))])) _
        refine XS.lsub X31.here hx rfl (hb hby at_69) rfl ?_
        show Steps p.tables e below (T31.setTop (mkF m 70 #[.val (.int p0), .val (.int p1), .val (.int ((p0 &&& (2147483647 : Int32)) % (3 : Int32))), .val (.long (((1 : Int32) + (p1 % (10 : Int32))).toInt64)), .second, .unset, .unset, .unset, .unset] [(.long ((((1 : Int32) + (p1 % (10 : Int32))).toInt64) - (1 : Int64))), (.long (p1.toInt64))])) _
        refine XS.lsub X31.here hx rfl (hb hby at_70) rfl ?_
        show Steps p.tables e below (T31.setTop (mkF m 71 #[.val (.int p0), .val (.int p1), .val (.int ((p0 &&& (2147483647 : Int32)) % (3 : Int32))), .val (.long (((1 : Int32) + (p1 % (10 : Int32))).toInt64)), .second, .unset, .unset, .unset, .unset] [(.long ((p1.toInt64) - ((((1 : Int32) + (p1 % (10 : Int32))).toInt64) - (1 : Int64))))])) _
        refine XS.lstore X31.here hx rfl (hb hby at_71) rfl (l' := #[.val (.int p0), .val (.int p1), .val (.int ((p0 &&& (2147483647 : Int32)) % (3 : Int32))), .val (.long (((1 : Int32) + (p1 % (10 : Int32))).toInt64)), .second, .val (.long ((p1.toInt64) - ((((1 : Int32) + (p1 % (10 : Int32))).toInt64) - (1 : Int64)))), .second, .unset, .unset]) rfl ?_
        show Steps p.tables e below (T31.setTop (mkF m 73 #[.val (.int p0), .val (.int p1), .val (.int ((p0 &&& (2147483647 : Int32)) % (3 : Int32))), .val (.long (((1 : Int32) + (p1 % (10 : Int32))).toInt64)), .second, .val (.long ((p1.toInt64) - ((((1 : Int32) + (p1 % (10 : Int32))).toInt64) - (1 : Int64)))), .second, .unset, .unset] [])) _
        refine XS.lload X31.here hx rfl (hb hby at_73) rfl ?_
        show Steps p.tables e below (T31.setTop (mkF m 75 #[.val (.int p0), .val (.int p1), .val (.int ((p0 &&& (2147483647 : Int32)) % (3 : Int32))), .val (.long (((1 : Int32) + (p1 % (10 : Int32))).toInt64)), .second, .val (.long ((p1.toInt64) - ((((1 : Int32) + (p1 % (10 : Int32))).toInt64) - (1 : Int64)))), .second, .unset, .unset] [(.long ((p1.toInt64) - ((((1 : Int32) + (p1 % (10 : Int32))).toInt64) - (1 : Int64))))])) _
        refine X31.ldc2Long hx hown (mvT hZ (hw _ (List.mem_of_getElem? (i := 18) rfl))) (g := (mkF m 75 #[.val (.int p0), .val (.int p1), .val (.int ((p0 &&& (2147483647 : Int32)) % (3 : Int32))), .val (.long (((1 : Int32) + (p1 % (10 : Int32))).toInt64)), .second, .val (.long ((p1.toInt64) - ((((1 : Int32) + (p1 % (10 : Int32))).toInt64) - (1 : Int64)))), .second, .unset, .unset] [(.long ((p1.toInt64) - ((((1 : Int32) + (p1 % (10 : Int32))).toInt64) - (1 : Int64))))])) rfl (hb hby at_75) _ ?_
        show Steps p.tables e below (T31.setTop (mkF m 78 #[.val (.int p0), .val (.int p1), .val (.int ((p0 &&& (2147483647 : Int32)) % (3 : Int32))), .val (.long (((1 : Int32) + (p1 % (10 : Int32))).toInt64)), .second, .val (.long ((p1.toInt64) - ((((1 : Int32) + (p1 % (10 : Int32))).toInt64) - (1 : Int64)))), .second, .unset, .unset] [(.long (10 : Int64)), (.long ((p1.toInt64) - ((((1 : Int32) + (p1 % (10 : Int32))).toInt64) - (1 : Int64))))])) _
        refine XS.lrem X31.here hx rfl (hb hby at_78) rfl (by decide) ?_
        show Steps p.tables e below (T31.setTop (mkF m 79 #[.val (.int p0), .val (.int p1), .val (.int ((p0 &&& (2147483647 : Int32)) % (3 : Int32))), .val (.long (((1 : Int32) + (p1 % (10 : Int32))).toInt64)), .second, .val (.long ((p1.toInt64) - ((((1 : Int32) + (p1 % (10 : Int32))).toInt64) - (1 : Int64)))), .second, .unset, .unset] [(.long (((p1.toInt64) - ((((1 : Int32) + (p1 % (10 : Int32))).toInt64) - (1 : Int64))) - (((p1.toInt64) - ((((1 : Int32) + (p1 % (10 : Int32))).toInt64) - (1 : Int64))) / (10 : Int64)) * (10 : Int64)))])) _
        refine XS.lconst X31.here hx rfl (hb hby at_79) ?_
        show Steps p.tables e below (T31.setTop (mkF m 80 #[.val (.int p0), .val (.int p1), .val (.int ((p0 &&& (2147483647 : Int32)) % (3 : Int32))), .val (.long (((1 : Int32) + (p1 % (10 : Int32))).toInt64)), .second, .val (.long ((p1.toInt64) - ((((1 : Int32) + (p1 % (10 : Int32))).toInt64) - (1 : Int64)))), .second, .unset, .unset] [(.long (0 : Int64)), (.long (((p1.toInt64) - ((((1 : Int32) + (p1 % (10 : Int32))).toInt64) - (1 : Int64))) - (((p1.toInt64) - ((((1 : Int32) + (p1 % (10 : Int32))).toInt64) - (1 : Int64))) / (10 : Int64)) * (10 : Int64)))])) _
        refine XS.lcmp X31.here hx rfl (hb hby at_80) rfl ?_
        show Steps p.tables e below (T31.setTop (mkF m 81 #[.val (.int p0), .val (.int p1), .val (.int ((p0 &&& (2147483647 : Int32)) % (3 : Int32))), .val (.long (((1 : Int32) + (p1 % (10 : Int32))).toInt64)), .second, .val (.long ((p1.toInt64) - ((((1 : Int32) + (p1 % (10 : Int32))).toInt64) - (1 : Int64)))), .second, .unset, .unset] [(.int (lcmpW (((p1.toInt64) - ((((1 : Int32) + (p1 % (10 : Int32))).toInt64) - (1 : Int64))) - (((p1.toInt64) - ((((1 : Int32) + (p1 % (10 : Int32))).toInt64) - (1 : Int64))) / (10 : Int64)) * (10 : Int64)) (0 : Int64)))])) _
        refine XS.ifNo X31.here hx rfl (hb hby at_81) rfl ((if0 _ _).trans (teq (((lw_eq (((p1.toInt64) - ((((1 : Int32) + (p1 % (10 : Int32))).toInt64) - (1 : Int64))) - (((p1.toInt64) - ((((1 : Int32) + (p1 % (10 : Int32))).toInt64) - (1 : Int64))) / (10 : Int64)) * (10 : Int64)) (0 : Int64)).mpr (own_mod p1 _ rfl)) : (lcmpW (((p1.toInt64) - ((((1 : Int32) + (p1 % (10 : Int32))).toInt64) - (1 : Int64))) - (((p1.toInt64) - ((((1 : Int32) + (p1 % (10 : Int32))).toInt64) - (1 : Int64))) / (10 : Int64)) * (10 : Int64)) (0 : Int64)) = (0 : Int32))).2) ?_
        show Steps p.tables e below (T31.setTop (mkF m 84 #[.val (.int p0), .val (.int p1), .val (.int ((p0 &&& (2147483647 : Int32)) % (3 : Int32))), .val (.long (((1 : Int32) + (p1 % (10 : Int32))).toInt64)), .second, .val (.long ((p1.toInt64) - ((((1 : Int32) + (p1 % (10 : Int32))).toInt64) - (1 : Int64)))), .second, .unset, .unset] [])) _
        refine XS.iconst X31.here hx rfl (hb hby at_84) ?_
        show Steps p.tables e below (T31.setTop (mkF m 85 #[.val (.int p0), .val (.int p1), .val (.int ((p0 &&& (2147483647 : Int32)) % (3 : Int32))), .val (.long (((1 : Int32) + (p1 % (10 : Int32))).toInt64)), .second, .val (.long ((p1.toInt64) - ((((1 : Int32) + (p1 % (10 : Int32))).toInt64) - (1 : Int64)))), .second, .unset, .unset] [(.int (1 : Int32))])) _
        refine XS.goto X31.here hx rfl (pc0 := 85) (pc' := 89) rfl (hb hby at_85) (by decide) (by decide) ?_
        show Steps p.tables e below (T31.setTop (mkF m 89 #[.val (.int p0), .val (.int p1), .val (.int ((p0 &&& (2147483647 : Int32)) % (3 : Int32))), .val (.long (((1 : Int32) + (p1 % (10 : Int32))).toInt64)), .second, .val (.long ((p1.toInt64) - ((((1 : Int32) + (p1 % (10 : Int32))).toInt64) - (1 : Int64)))), .second, .unset, .unset] [(.int (1 : Int32))])) _
        refine XS.istore X31.here hx rfl (hb hby at_89) rfl (l' := #[.val (.int p0), .val (.int p1), .val (.int ((p0 &&& (2147483647 : Int32)) % (3 : Int32))), .val (.long (((1 : Int32) + (p1 % (10 : Int32))).toInt64)), .second, .val (.long ((p1.toInt64) - ((((1 : Int32) + (p1 % (10 : Int32))).toInt64) - (1 : Int64)))), .second, .val (.int (1 : Int32)), .unset]) rfl ?_
        show Steps p.tables e below (T31.setTop (mkF m 91 #[.val (.int p0), .val (.int p1), .val (.int ((p0 &&& (2147483647 : Int32)) % (3 : Int32))), .val (.long (((1 : Int32) + (p1 % (10 : Int32))).toInt64)), .second, .val (.long ((p1.toInt64) - ((((1 : Int32) + (p1 % (10 : Int32))).toInt64) - (1 : Int64)))), .second, .val (.int (1 : Int32)), .unset] [])) _
        refine XS.iloadN X31.here hx rfl (hb hby at_91) rfl ?_
        exact k
      by_cases hc33 : p1 < (0 : Int32)
      · obtain ⟨fs, hr, hrun, hended, hW, hsame⟩ := X31.leave (v := some (.int (1 : Int32))) (fun h => by rw [Bd.returns] at h; cases h)
        refine ⟨_, _, pre32 _ ?_, hrun, hended, _, _, rfl, ?_, ⟨_, rfl⟩, hW, hsame.mono (by decide) (by decide)⟩
        · show Steps p.tables e below (T31.setTop (mkF m 92 #[.val (.int p0), .val (.int p1), .val (.int ((p0 &&& (2147483647 : Int32)) % (3 : Int32))), .val (.long (((1 : Int32) + (p1 % (10 : Int32))).toInt64)), .second, .val (.long ((p1.toInt64) - ((((1 : Int32) + (p1 % (10 : Int32))).toInt64) - (1 : Int64)))), .second, .val (.int (1 : Int32)), .unset] [(.int p1)])) _
          refine XS.ifYes X31.here hx rfl (pc0 := 92) (pc' := 119) rfl (hb hby at_92) rfl ((if0 _ _).trans (tlt (hc33 : p1 < (0 : Int32))).1) (by decide) (by decide) ?_
          show Steps p.tables e below (T31.setTop (mkF m 119 #[.val (.int p0), .val (.int p1), .val (.int ((p0 &&& (2147483647 : Int32)) % (3 : Int32))), .val (.long (((1 : Int32) + (p1 % (10 : Int32))).toInt64)), .second, .val (.long ((p1.toInt64) - ((((1 : Int32) + (p1 % (10 : Int32))).toInt64) - (1 : Int64)))), .second, .val (.int (1 : Int32)), .unset] [])) _
          refine XS.lloadN X31.here hx rfl (hb hby at_119) rfl ?_
          show Steps p.tables e below (T31.setTop (mkF m 120 #[.val (.int p0), .val (.int p1), .val (.int ((p0 &&& (2147483647 : Int32)) % (3 : Int32))), .val (.long (((1 : Int32) + (p1 % (10 : Int32))).toInt64)), .second, .val (.long ((p1.toInt64) - ((((1 : Int32) + (p1 % (10 : Int32))).toInt64) - (1 : Int64)))), .second, .val (.int (1 : Int32)), .unset] [(.long (((1 : Int32) + (p1 % (10 : Int32))).toInt64))])) _
          refine X31.ldc2Long hx hown (mvT hZ (hw _ (List.mem_of_getElem? (i := 26) rfl))) (g := (mkF m 120 #[.val (.int p0), .val (.int p1), .val (.int ((p0 &&& (2147483647 : Int32)) % (3 : Int32))), .val (.long (((1 : Int32) + (p1 % (10 : Int32))).toInt64)), .second, .val (.long ((p1.toInt64) - ((((1 : Int32) + (p1 % (10 : Int32))).toInt64) - (1 : Int64)))), .second, .val (.int (1 : Int32)), .unset] [(.long (((1 : Int32) + (p1 % (10 : Int32))).toInt64))])) rfl (hb hby at_120) _ ?_
          show Steps p.tables e below (T31.setTop (mkF m 123 #[.val (.int p0), .val (.int p1), .val (.int ((p0 &&& (2147483647 : Int32)) % (3 : Int32))), .val (.long (((1 : Int32) + (p1 % (10 : Int32))).toInt64)), .second, .val (.long ((p1.toInt64) - ((((1 : Int32) + (p1 % (10 : Int32))).toInt64) - (1 : Int64)))), .second, .val (.int (1 : Int32)), .unset] [(.long (-8 : Int64)), (.long (((1 : Int32) + (p1 % (10 : Int32))).toInt64))])) _
          refine XS.lcmp X31.here hx rfl (hb hby at_123) rfl ?_
          show Steps p.tables e below (T31.setTop (mkF m 124 #[.val (.int p0), .val (.int p1), .val (.int ((p0 &&& (2147483647 : Int32)) % (3 : Int32))), .val (.long (((1 : Int32) + (p1 % (10 : Int32))).toInt64)), .second, .val (.long ((p1.toInt64) - ((((1 : Int32) + (p1 % (10 : Int32))).toInt64) - (1 : Int64)))), .second, .val (.int (1 : Int32)), .unset] [(.int (lcmpW (((1 : Int32) + (p1 % (10 : Int32))).toInt64) (-8 : Int64)))])) _
          refine XS.ifNo X31.here hx rfl (hb hby at_124) rfl ((if0 _ _).trans (flt ((fun k => (own_hi p1 hc33).1 ((lw_lt (((1 : Int32) + (p1 % (10 : Int32))).toInt64) (-8 : Int64)).mp k)) : ¬ ((lcmpW (((1 : Int32) + (p1 % (10 : Int32))).toInt64) (-8 : Int64)) < (0 : Int32)))).1) ?_
          show Steps p.tables e below (T31.setTop (mkF m 127 #[.val (.int p0), .val (.int p1), .val (.int ((p0 &&& (2147483647 : Int32)) % (3 : Int32))), .val (.long (((1 : Int32) + (p1 % (10 : Int32))).toInt64)), .second, .val (.long ((p1.toInt64) - ((((1 : Int32) + (p1 % (10 : Int32))).toInt64) - (1 : Int64)))), .second, .val (.int (1 : Int32)), .unset] [])) _
          refine XS.lloadN X31.here hx rfl (hb hby at_127) rfl ?_
          show Steps p.tables e below (T31.setTop (mkF m 128 #[.val (.int p0), .val (.int p1), .val (.int ((p0 &&& (2147483647 : Int32)) % (3 : Int32))), .val (.long (((1 : Int32) + (p1 % (10 : Int32))).toInt64)), .second, .val (.long ((p1.toInt64) - ((((1 : Int32) + (p1 % (10 : Int32))).toInt64) - (1 : Int64)))), .second, .val (.int (1 : Int32)), .unset] [(.long (((1 : Int32) + (p1 % (10 : Int32))).toInt64))])) _
          refine XS.lconst X31.here hx rfl (hb hby at_128) ?_
          show Steps p.tables e below (T31.setTop (mkF m 129 #[.val (.int p0), .val (.int p1), .val (.int ((p0 &&& (2147483647 : Int32)) % (3 : Int32))), .val (.long (((1 : Int32) + (p1 % (10 : Int32))).toInt64)), .second, .val (.long ((p1.toInt64) - ((((1 : Int32) + (p1 % (10 : Int32))).toInt64) - (1 : Int64)))), .second, .val (.int (1 : Int32)), .unset] [(.long (1 : Int64)), (.long (((1 : Int32) + (p1 % (10 : Int32))).toInt64))])) _
          refine XS.lcmp X31.here hx rfl (hb hby at_129) rfl ?_
          show Steps p.tables e below (T31.setTop (mkF m 130 #[.val (.int p0), .val (.int p1), .val (.int ((p0 &&& (2147483647 : Int32)) % (3 : Int32))), .val (.long (((1 : Int32) + (p1 % (10 : Int32))).toInt64)), .second, .val (.long ((p1.toInt64) - ((((1 : Int32) + (p1 % (10 : Int32))).toInt64) - (1 : Int64)))), .second, .val (.int (1 : Int32)), .unset] [(.int (lcmpW (((1 : Int32) + (p1 % (10 : Int32))).toInt64) (1 : Int64)))])) _
          refine XS.ifNo X31.here hx rfl (hb hby at_130) rfl ((if0 _ _).trans (flt ((fun k => (own_hi p1 hc33).2 ((lw_gt (((1 : Int32) + (p1 % (10 : Int32))).toInt64) (1 : Int64)).mp k)) : ¬ ((0 : Int32) < (lcmpW (((1 : Int32) + (p1 % (10 : Int32))).toInt64) (1 : Int64))))).2.2.1) ?_
          show Steps p.tables e below (T31.setTop (mkF m 133 #[.val (.int p0), .val (.int p1), .val (.int ((p0 &&& (2147483647 : Int32)) % (3 : Int32))), .val (.long (((1 : Int32) + (p1 % (10 : Int32))).toInt64)), .second, .val (.long ((p1.toInt64) - ((((1 : Int32) + (p1 % (10 : Int32))).toInt64) - (1 : Int64)))), .second, .val (.int (1 : Int32)), .unset] [])) _
          refine XS.iconst X31.here hx rfl (hb hby at_133) ?_
          show Steps p.tables e below (T31.setTop (mkF m 134 #[.val (.int p0), .val (.int p1), .val (.int ((p0 &&& (2147483647 : Int32)) % (3 : Int32))), .val (.long (((1 : Int32) + (p1 % (10 : Int32))).toInt64)), .second, .val (.long ((p1.toInt64) - ((((1 : Int32) + (p1 % (10 : Int32))).toInt64) - (1 : Int64)))), .second, .val (.int (1 : Int32)), .unset] [(.int (1 : Int32))])) _
          refine XS.goto X31.here hx rfl (pc0 := 134) (pc' := 138) rfl (hb hby at_134) (by decide) (by decide) ?_
          show Steps p.tables e below (T31.setTop (mkF m 138 #[.val (.int p0), .val (.int p1), .val (.int ((p0 &&& (2147483647 : Int32)) % (3 : Int32))), .val (.long (((1 : Int32) + (p1 % (10 : Int32))).toInt64)), .second, .val (.long ((p1.toInt64) - ((((1 : Int32) + (p1 % (10 : Int32))).toInt64) - (1 : Int64)))), .second, .val (.int (1 : Int32)), .unset] [(.int (1 : Int32))])) _
          refine XS.istore X31.here hx rfl (hb hby at_138) rfl (l' := #[.val (.int p0), .val (.int p1), .val (.int ((p0 &&& (2147483647 : Int32)) % (3 : Int32))), .val (.long (((1 : Int32) + (p1 % (10 : Int32))).toInt64)), .second, .val (.long ((p1.toInt64) - ((((1 : Int32) + (p1 % (10 : Int32))).toInt64) - (1 : Int64)))), .second, .val (.int (1 : Int32)), .val (.int (1 : Int32))]) rfl ?_
          show Steps p.tables e below (T31.setTop (mkF m 140 #[.val (.int p0), .val (.int p1), .val (.int ((p0 &&& (2147483647 : Int32)) % (3 : Int32))), .val (.long (((1 : Int32) + (p1 % (10 : Int32))).toInt64)), .second, .val (.long ((p1.toInt64) - ((((1 : Int32) + (p1 % (10 : Int32))).toInt64) - (1 : Int64)))), .second, .val (.int (1 : Int32)), .val (.int (1 : Int32))] [])) _
          refine XS.iload X31.here hx rfl (hb hby at_140) rfl ?_
          show Steps p.tables e below (T31.setTop (mkF m 142 #[.val (.int p0), .val (.int p1), .val (.int ((p0 &&& (2147483647 : Int32)) % (3 : Int32))), .val (.long (((1 : Int32) + (p1 % (10 : Int32))).toInt64)), .second, .val (.long ((p1.toInt64) - ((((1 : Int32) + (p1 % (10 : Int32))).toInt64) - (1 : Int64)))), .second, .val (.int (1 : Int32)), .val (.int (1 : Int32))] [(.int (1 : Int32))])) _
          refine XS.ifNo X31.here hx rfl (hb hby at_142) rfl ((if0 _ _).trans (feq (by decide : ¬ ((1 : Int32) = (0 : Int32)))).1) ?_
          show Steps p.tables e below (T31.setTop (mkF m 145 #[.val (.int p0), .val (.int p1), .val (.int ((p0 &&& (2147483647 : Int32)) % (3 : Int32))), .val (.long (((1 : Int32) + (p1 % (10 : Int32))).toInt64)), .second, .val (.long ((p1.toInt64) - ((((1 : Int32) + (p1 % (10 : Int32))).toInt64) - (1 : Int64)))), .second, .val (.int (1 : Int32)), .val (.int (1 : Int32))] [])) _
          refine XS.iload X31.here hx rfl (hb hby at_145) rfl ?_
          show Steps p.tables e below (T31.setTop (mkF m 147 #[.val (.int p0), .val (.int p1), .val (.int ((p0 &&& (2147483647 : Int32)) % (3 : Int32))), .val (.long (((1 : Int32) + (p1 % (10 : Int32))).toInt64)), .second, .val (.long ((p1.toInt64) - ((((1 : Int32) + (p1 % (10 : Int32))).toInt64) - (1 : Int64)))), .second, .val (.int (1 : Int32)), .val (.int (1 : Int32))] [(.int (1 : Int32))])) _
          refine XS.ifNo X31.here hx rfl (hb hby at_147) rfl ((if0 _ _).trans (feq (by decide : ¬ ((1 : Int32) = (0 : Int32)))).1) ?_
          show Steps p.tables e below (T31.setTop (mkF m 150 #[.val (.int p0), .val (.int p1), .val (.int ((p0 &&& (2147483647 : Int32)) % (3 : Int32))), .val (.long (((1 : Int32) + (p1 % (10 : Int32))).toInt64)), .second, .val (.long ((p1.toInt64) - ((((1 : Int32) + (p1 % (10 : Int32))).toInt64) - (1 : Int64)))), .second, .val (.int (1 : Int32)), .val (.int (1 : Int32))] [])) _
          refine XS.iconst X31.here hx rfl (hb hby at_150) ?_
          show Steps p.tables e below (T31.setTop (mkF m 151 #[.val (.int p0), .val (.int p1), .val (.int ((p0 &&& (2147483647 : Int32)) % (3 : Int32))), .val (.long (((1 : Int32) + (p1 % (10 : Int32))).toInt64)), .second, .val (.long ((p1.toInt64) - ((((1 : Int32) + (p1 % (10 : Int32))).toInt64) - (1 : Int64)))), .second, .val (.int (1 : Int32)), .val (.int (1 : Int32))] [(.int (1 : Int32))])) _
          refine XS.goto X31.here hx rfl (pc0 := 151) (pc' := 155) rfl (hb hby at_151) (by decide) (by decide) ?_
          show Steps p.tables e below (T31.setTop (mkF m 155 #[.val (.int p0), .val (.int p1), .val (.int ((p0 &&& (2147483647 : Int32)) % (3 : Int32))), .val (.long (((1 : Int32) + (p1 % (10 : Int32))).toInt64)), .second, .val (.long ((p1.toInt64) - ((((1 : Int32) + (p1 % (10 : Int32))).toInt64) - (1 : Int64)))), .second, .val (.int (1 : Int32)), .val (.int (1 : Int32))] [(.int (1 : Int32))])) _
          exact retN X31 hx (t := .boolean) Bd.returns (by simp) (hb hby at_155) hr
        · show Qrm0 Z p0 p1 w0 w1 w2 h0 n0 _ T31.heap _
          rw [e31]
          exact ⟨rfl, N31, rfl⟩
      · obtain ⟨fs, hr, hrun, hended, hW, hsame⟩ := X31.leave (v := some (.int (1 : Int32))) (fun h => by rw [Bd.returns] at h; cases h)
        refine ⟨_, _, pre32 _ ?_, hrun, hended, _, _, rfl, ?_, ⟨_, rfl⟩, hW, hsame.mono (by decide) (by decide)⟩
        · show Steps p.tables e below (T31.setTop (mkF m 92 #[.val (.int p0), .val (.int p1), .val (.int ((p0 &&& (2147483647 : Int32)) % (3 : Int32))), .val (.long (((1 : Int32) + (p1 % (10 : Int32))).toInt64)), .second, .val (.long ((p1.toInt64) - ((((1 : Int32) + (p1 % (10 : Int32))).toInt64) - (1 : Int64)))), .second, .val (.int (1 : Int32)), .unset] [(.int p1)])) _
          refine XS.ifNo X31.here hx rfl (hb hby at_92) rfl ((if0 _ _).trans (flt (hc33 : ¬ (p1 < (0 : Int32)))).1) ?_
          show Steps p.tables e below (T31.setTop (mkF m 95 #[.val (.int p0), .val (.int p1), .val (.int ((p0 &&& (2147483647 : Int32)) % (3 : Int32))), .val (.long (((1 : Int32) + (p1 % (10 : Int32))).toInt64)), .second, .val (.long ((p1.toInt64) - ((((1 : Int32) + (p1 % (10 : Int32))).toInt64) - (1 : Int64)))), .second, .val (.int (1 : Int32)), .unset] [])) _
          refine XS.lloadN X31.here hx rfl (hb hby at_95) rfl ?_
          show Steps p.tables e below (T31.setTop (mkF m 96 #[.val (.int p0), .val (.int p1), .val (.int ((p0 &&& (2147483647 : Int32)) % (3 : Int32))), .val (.long (((1 : Int32) + (p1 % (10 : Int32))).toInt64)), .second, .val (.long ((p1.toInt64) - ((((1 : Int32) + (p1 % (10 : Int32))).toInt64) - (1 : Int64)))), .second, .val (.int (1 : Int32)), .unset] [(.long (((1 : Int32) + (p1 % (10 : Int32))).toInt64))])) _
          refine XS.lconst X31.here hx rfl (hb hby at_96) ?_
          show Steps p.tables e below (T31.setTop (mkF m 97 #[.val (.int p0), .val (.int p1), .val (.int ((p0 &&& (2147483647 : Int32)) % (3 : Int32))), .val (.long (((1 : Int32) + (p1 % (10 : Int32))).toInt64)), .second, .val (.long ((p1.toInt64) - ((((1 : Int32) + (p1 % (10 : Int32))).toInt64) - (1 : Int64)))), .second, .val (.int (1 : Int32)), .unset] [(.long (1 : Int64)), (.long (((1 : Int32) + (p1 % (10 : Int32))).toInt64))])) _
          refine XS.lcmp X31.here hx rfl (hb hby at_97) rfl ?_
          show Steps p.tables e below (T31.setTop (mkF m 98 #[.val (.int p0), .val (.int p1), .val (.int ((p0 &&& (2147483647 : Int32)) % (3 : Int32))), .val (.long (((1 : Int32) + (p1 % (10 : Int32))).toInt64)), .second, .val (.long ((p1.toInt64) - ((((1 : Int32) + (p1 % (10 : Int32))).toInt64) - (1 : Int64)))), .second, .val (.int (1 : Int32)), .unset] [(.int (lcmpW (((1 : Int32) + (p1 % (10 : Int32))).toInt64) (1 : Int64)))])) _
          refine XS.ifNo X31.here hx rfl (hb hby at_98) rfl ((if0 _ _).trans (flt ((fun k => (own_lo p1 hc33).1 ((lw_lt (((1 : Int32) + (p1 % (10 : Int32))).toInt64) (1 : Int64)).mp k)) : ¬ ((lcmpW (((1 : Int32) + (p1 % (10 : Int32))).toInt64) (1 : Int64)) < (0 : Int32)))).1) ?_
          show Steps p.tables e below (T31.setTop (mkF m 101 #[.val (.int p0), .val (.int p1), .val (.int ((p0 &&& (2147483647 : Int32)) % (3 : Int32))), .val (.long (((1 : Int32) + (p1 % (10 : Int32))).toInt64)), .second, .val (.long ((p1.toInt64) - ((((1 : Int32) + (p1 % (10 : Int32))).toInt64) - (1 : Int64)))), .second, .val (.int (1 : Int32)), .unset] [])) _
          refine XS.lloadN X31.here hx rfl (hb hby at_101) rfl ?_
          show Steps p.tables e below (T31.setTop (mkF m 102 #[.val (.int p0), .val (.int p1), .val (.int ((p0 &&& (2147483647 : Int32)) % (3 : Int32))), .val (.long (((1 : Int32) + (p1 % (10 : Int32))).toInt64)), .second, .val (.long ((p1.toInt64) - ((((1 : Int32) + (p1 % (10 : Int32))).toInt64) - (1 : Int64)))), .second, .val (.int (1 : Int32)), .unset] [(.long (((1 : Int32) + (p1 % (10 : Int32))).toInt64))])) _
          refine X31.ldc2Long hx hown (mvT hZ (hw _ (List.mem_of_getElem? (i := 18) rfl))) (g := (mkF m 102 #[.val (.int p0), .val (.int p1), .val (.int ((p0 &&& (2147483647 : Int32)) % (3 : Int32))), .val (.long (((1 : Int32) + (p1 % (10 : Int32))).toInt64)), .second, .val (.long ((p1.toInt64) - ((((1 : Int32) + (p1 % (10 : Int32))).toInt64) - (1 : Int64)))), .second, .val (.int (1 : Int32)), .unset] [(.long (((1 : Int32) + (p1 % (10 : Int32))).toInt64))])) rfl (hb hby at_102) _ ?_
          show Steps p.tables e below (T31.setTop (mkF m 105 #[.val (.int p0), .val (.int p1), .val (.int ((p0 &&& (2147483647 : Int32)) % (3 : Int32))), .val (.long (((1 : Int32) + (p1 % (10 : Int32))).toInt64)), .second, .val (.long ((p1.toInt64) - ((((1 : Int32) + (p1 % (10 : Int32))).toInt64) - (1 : Int64)))), .second, .val (.int (1 : Int32)), .unset] [(.long (10 : Int64)), (.long (((1 : Int32) + (p1 % (10 : Int32))).toInt64))])) _
          refine XS.lcmp X31.here hx rfl (hb hby at_105) rfl ?_
          show Steps p.tables e below (T31.setTop (mkF m 106 #[.val (.int p0), .val (.int p1), .val (.int ((p0 &&& (2147483647 : Int32)) % (3 : Int32))), .val (.long (((1 : Int32) + (p1 % (10 : Int32))).toInt64)), .second, .val (.long ((p1.toInt64) - ((((1 : Int32) + (p1 % (10 : Int32))).toInt64) - (1 : Int64)))), .second, .val (.int (1 : Int32)), .unset] [(.int (lcmpW (((1 : Int32) + (p1 % (10 : Int32))).toInt64) (10 : Int64)))])) _
          refine XS.ifNo X31.here hx rfl (hb hby at_106) rfl ((if0 _ _).trans (flt ((fun k => (own_lo p1 hc33).2 ((lw_gt (((1 : Int32) + (p1 % (10 : Int32))).toInt64) (10 : Int64)).mp k)) : ¬ ((0 : Int32) < (lcmpW (((1 : Int32) + (p1 % (10 : Int32))).toInt64) (10 : Int64))))).2.2.1) ?_
          show Steps p.tables e below (T31.setTop (mkF m 109 #[.val (.int p0), .val (.int p1), .val (.int ((p0 &&& (2147483647 : Int32)) % (3 : Int32))), .val (.long (((1 : Int32) + (p1 % (10 : Int32))).toInt64)), .second, .val (.long ((p1.toInt64) - ((((1 : Int32) + (p1 % (10 : Int32))).toInt64) - (1 : Int64)))), .second, .val (.int (1 : Int32)), .unset] [])) _
          refine XS.iconst X31.here hx rfl (hb hby at_109) ?_
          show Steps p.tables e below (T31.setTop (mkF m 110 #[.val (.int p0), .val (.int p1), .val (.int ((p0 &&& (2147483647 : Int32)) % (3 : Int32))), .val (.long (((1 : Int32) + (p1 % (10 : Int32))).toInt64)), .second, .val (.long ((p1.toInt64) - ((((1 : Int32) + (p1 % (10 : Int32))).toInt64) - (1 : Int64)))), .second, .val (.int (1 : Int32)), .unset] [(.int (1 : Int32))])) _
          refine XS.goto X31.here hx rfl (pc0 := 110) (pc' := 114) rfl (hb hby at_110) (by decide) (by decide) ?_
          show Steps p.tables e below (T31.setTop (mkF m 114 #[.val (.int p0), .val (.int p1), .val (.int ((p0 &&& (2147483647 : Int32)) % (3 : Int32))), .val (.long (((1 : Int32) + (p1 % (10 : Int32))).toInt64)), .second, .val (.long ((p1.toInt64) - ((((1 : Int32) + (p1 % (10 : Int32))).toInt64) - (1 : Int64)))), .second, .val (.int (1 : Int32)), .unset] [(.int (1 : Int32))])) _
          refine XS.istore X31.here hx rfl (hb hby at_114) rfl (l' := #[.val (.int p0), .val (.int p1), .val (.int ((p0 &&& (2147483647 : Int32)) % (3 : Int32))), .val (.long (((1 : Int32) + (p1 % (10 : Int32))).toInt64)), .second, .val (.long ((p1.toInt64) - ((((1 : Int32) + (p1 % (10 : Int32))).toInt64) - (1 : Int64)))), .second, .val (.int (1 : Int32)), .val (.int (1 : Int32))]) rfl ?_
          show Steps p.tables e below (T31.setTop (mkF m 116 #[.val (.int p0), .val (.int p1), .val (.int ((p0 &&& (2147483647 : Int32)) % (3 : Int32))), .val (.long (((1 : Int32) + (p1 % (10 : Int32))).toInt64)), .second, .val (.long ((p1.toInt64) - ((((1 : Int32) + (p1 % (10 : Int32))).toInt64) - (1 : Int64)))), .second, .val (.int (1 : Int32)), .val (.int (1 : Int32))] [])) _
          refine XS.goto X31.here hx rfl (pc0 := 116) (pc' := 140) rfl (hb hby at_116) (by decide) (by decide) ?_
          show Steps p.tables e below (T31.setTop (mkF m 140 #[.val (.int p0), .val (.int p1), .val (.int ((p0 &&& (2147483647 : Int32)) % (3 : Int32))), .val (.long (((1 : Int32) + (p1 % (10 : Int32))).toInt64)), .second, .val (.long ((p1.toInt64) - ((((1 : Int32) + (p1 % (10 : Int32))).toInt64) - (1 : Int64)))), .second, .val (.int (1 : Int32)), .val (.int (1 : Int32))] [])) _
          refine XS.iload X31.here hx rfl (hb hby at_140) rfl ?_
          show Steps p.tables e below (T31.setTop (mkF m 142 #[.val (.int p0), .val (.int p1), .val (.int ((p0 &&& (2147483647 : Int32)) % (3 : Int32))), .val (.long (((1 : Int32) + (p1 % (10 : Int32))).toInt64)), .second, .val (.long ((p1.toInt64) - ((((1 : Int32) + (p1 % (10 : Int32))).toInt64) - (1 : Int64)))), .second, .val (.int (1 : Int32)), .val (.int (1 : Int32))] [(.int (1 : Int32))])) _
          refine XS.ifNo X31.here hx rfl (hb hby at_142) rfl ((if0 _ _).trans (feq (by decide : ¬ ((1 : Int32) = (0 : Int32)))).1) ?_
          show Steps p.tables e below (T31.setTop (mkF m 145 #[.val (.int p0), .val (.int p1), .val (.int ((p0 &&& (2147483647 : Int32)) % (3 : Int32))), .val (.long (((1 : Int32) + (p1 % (10 : Int32))).toInt64)), .second, .val (.long ((p1.toInt64) - ((((1 : Int32) + (p1 % (10 : Int32))).toInt64) - (1 : Int64)))), .second, .val (.int (1 : Int32)), .val (.int (1 : Int32))] [])) _
          refine XS.iload X31.here hx rfl (hb hby at_145) rfl ?_
          show Steps p.tables e below (T31.setTop (mkF m 147 #[.val (.int p0), .val (.int p1), .val (.int ((p0 &&& (2147483647 : Int32)) % (3 : Int32))), .val (.long (((1 : Int32) + (p1 % (10 : Int32))).toInt64)), .second, .val (.long ((p1.toInt64) - ((((1 : Int32) + (p1 % (10 : Int32))).toInt64) - (1 : Int64)))), .second, .val (.int (1 : Int32)), .val (.int (1 : Int32))] [(.int (1 : Int32))])) _
          refine XS.ifNo X31.here hx rfl (hb hby at_147) rfl ((if0 _ _).trans (feq (by decide : ¬ ((1 : Int32) = (0 : Int32)))).1) ?_
          show Steps p.tables e below (T31.setTop (mkF m 150 #[.val (.int p0), .val (.int p1), .val (.int ((p0 &&& (2147483647 : Int32)) % (3 : Int32))), .val (.long (((1 : Int32) + (p1 % (10 : Int32))).toInt64)), .second, .val (.long ((p1.toInt64) - ((((1 : Int32) + (p1 % (10 : Int32))).toInt64) - (1 : Int64)))), .second, .val (.int (1 : Int32)), .val (.int (1 : Int32))] [])) _
          refine XS.iconst X31.here hx rfl (hb hby at_150) ?_
          show Steps p.tables e below (T31.setTop (mkF m 151 #[.val (.int p0), .val (.int p1), .val (.int ((p0 &&& (2147483647 : Int32)) % (3 : Int32))), .val (.long (((1 : Int32) + (p1 % (10 : Int32))).toInt64)), .second, .val (.long ((p1.toInt64) - ((((1 : Int32) + (p1 % (10 : Int32))).toInt64) - (1 : Int64)))), .second, .val (.int (1 : Int32)), .val (.int (1 : Int32))] [(.int (1 : Int32))])) _
          refine XS.goto X31.here hx rfl (pc0 := 151) (pc' := 155) rfl (hb hby at_151) (by decide) (by decide) ?_
          show Steps p.tables e below (T31.setTop (mkF m 155 #[.val (.int p0), .val (.int p1), .val (.int ((p0 &&& (2147483647 : Int32)) % (3 : Int32))), .val (.long (((1 : Int32) + (p1 % (10 : Int32))).toInt64)), .second, .val (.long ((p1.toInt64) - ((((1 : Int32) + (p1 % (10 : Int32))).toInt64) - (1 : Int64)))), .second, .val (.int (1 : Int32)), .val (.int (1 : Int32))] [(.int (1 : Int32))])) _
          exact retN X31 hx (t := .boolean) Bd.returns (by simp) (hb hby at_155) hr
        · show Qrm0 Z p0 p1 w0 w1 w2 h0 n0 _ T31.heap _
          rw [e31]
          exact ⟨rfl, N31, rfl⟩
set_option maxRecDepth 65536 in
set_option maxHeartbeats 40000000 in
theorem comes_1 {Post : Tables → Env → Array Value → State → Outcome → State → Prop} (hpost : ∀ tb e args s v u, (limb_1_1.after args s (.returned v) u = true ∧ limb_1_2.after args s (.returned v) u = true ∧ True) → FrameEnd s (.returned v) u (Jvm.fieldLocs frame_1_writes args s ++ Jvm.arrayLocs frame_1_arrays args s ++ Jvm.staticLocs frame_1_statics s) 0 0 → Post tb e args s (.returned v) u) :
    ArmFor flags0 classFile x code maxLocals ret World_1 tables_1 room_1 Calls_1 rest_1 Pre_1 Post := by
  intro l hfl _ _ p e ha hc hk s m args below hf hA hF happ hP
  obtain ⟨hcalls, hrest, hpre⟩ := hP
  obtain ⟨-, -, -, hnamed, -, -, -, hat⟩ := (Spec.applies_iff hf).mp happ
  obtain ⟨hg, hn⟩ := and_e (Cond.before_iff.mp (show (Jvm.Cond.and given_1 narrow_1).before args s = true from hpre))
  obtain ⟨gg0, gr0⟩ := and_e hg
  obtain ⟨gg1, gg2⟩ := and_e gr0
  obtain ⟨w0, w1, rfl⟩ : ∃ w0 w1 : Value, args = #[w0, w1] := by
    have hs : args.size = 2 := by simpa [Cond.value, given_1] using gg0
    obtain ⟨L⟩ := args
    match L, hs with
    | [w0, w1], _ => exact ⟨w0, w1, rfl⟩
  have hw := fun d (hd : d ∈ tables_1) => atoms_spec (ws := Jvm.Cond.code x code maxLocals ret :: tables_1) hat d (List.mem_cons_of_mem _ hd)
  have hfit : Fit s := fun {y c} hc i hi => by
    obtain ⟨ha, rfl⟩ := Array.getElem?_eq_some_iff.mp hc
    have q := List.all_eq_true.mp ((Array.all_eq_true_iff_forall_mem.mp hF) _ (Array.getElem_mem ha)) i (List.mem_range.mpr hi)
    simpa [Array.getElem?_eq_getElem hi] using q
  obtain ⟨i0, ei0⟩ := is_v gg1
  obtain rfl : w0 = (.int i0) := Option.some.inj ei0
  obtain ⟨i1, ei1⟩ := is_v gg2
  obtain rfl : w1 = (.int i1) := Option.some.inj ei1
  unfold narrow_1 at hn
  obtain ⟨nw0, nr0⟩ := and_e hn
  obtain ⟨nw1, nr1⟩ := and_e nr0
  obtain ⟨nw2, nr2⟩ := and_e nr1
  obtain ⟨nw3, nr3⟩ := and_e nr2
  obtain ⟨nw4, nw5⟩ := and_e nr3
  obtain ⟨a_SPREAD, v_SPREAD⟩ := exa_v nw0
  have E_SPREAD := Exa.start v_SPREAD nw0
  have S_SPREAD := Sta.start v_SPREAD (Or.inr ⟨(hw _ (List.mem_of_getElem? (i := 2) rfl)), (hw _ (List.mem_of_getElem? (i := 3) rfl))⟩)
  have F_SPREAD_ordinal := Fld.start ((fld_at v_SPREAD).symm.trans (own_eqI nw1))
  obtain ⟨a_HOLD, v_HOLD⟩ := exa_v nw2
  have E_HOLD := Exa.start v_HOLD nw2
  have S_HOLD := Sta.start v_HOLD (Or.inr ⟨(hw _ (List.mem_of_getElem? (i := 2) rfl)), (hw _ (List.mem_of_getElem? (i := 20) rfl))⟩)
  have F_HOLD_ordinal := Fld.start ((fld_at v_HOLD).symm.trans (own_eqI nw3))
  obtain ⟨a_BURST, v_BURST⟩ := exa_v nw4
  have E_BURST := Exa.start v_BURST nw4
  have S_BURST := Sta.start v_BURST (Or.inr ⟨(hw _ (List.mem_of_getElem? (i := 2) rfl)), (hw _ (List.mem_of_getElem? (i := 24) rfl))⟩)
  have F_BURST_ordinal := Fld.start ((fld_at v_BURST).symm.trans (own_eqI nw5))
  obtain ⟨n, o, h1, h2, h3, _, L, rfl, ⟨rfl, N, -⟩, hq⟩ := rm0 l s _ hw tables_1 i0 i1 a_SPREAD a_BURST a_HOLD s.heap s.heap.size (Nat.le_refl _) S_SPREAD E_SPREAD F_SPREAD_ordinal S_BURST E_BURST F_BURST_ordinal S_HOLD E_HOLD F_HOLD_ordinal p e ha hc hk s m _ below hf ((Spec.applies_iff_loose hf).mp happ).1 ⟨rfl, State.Warmed39.refl s, rfl⟩ trivial
  exact ⟨n, _, h1, h2, h3, hpost _ _ _ _ _ _ ⟨Cond.after_iff.mpr rfl, Cond.after_iff.mpr (eq_i res_at (Term.int_eval (1)) rfl), trivial⟩ ⟨hq.1, hq.2.1, (hq.2.2.sift fun y hy => Or.inr (N y hy)).mono (by decide) (by decide)⟩⟩
theorem main_1_1 : Claimed_1_1 := comes_1 fun _ _ _ _ _ _ h hF => ⟨h.1, hF⟩
theorem main_1_2 : Claimed_1_2 := comes_1 fun _ _ _ _ _ _ h hF => ⟨h.2.1, hF⟩
end Jvm.Pilot.@@N@@
namespace Jvm.Pilot.@@N@@
open Jvm Jvm.ClassFile Sem Op Lib Jvm.Free Jvm.Stand Jvm.Pilot.@@N@@.Jvm.D
/-! MADE BY PROGRAM (witnessworld.py) out of the Statement's table words and the real class files: 10 classes; the members and pool entries that the words name. The judged class is class 1, her method 1. -/
namespace start1
open Jvm.ClassFile
def u (s : String) : CpInfo := .utf8 (stringToUtf16 s)
/-- a pool by its gaps: so many unusable entries, then the entry; so many at the end -/
def gap : Nat → List CpInfo → List CpInfo
  | 0, r => r
  | n + 1, r => .unusable :: gap n r
def poolList (es : List (Nat × CpInfo)) (last : Nat) : List CpInfo := es.foldr (fun e r => gap e.1 (e.2 :: r)) (gap last [])
def pool (es : List (Nat × CpInfo)) (last : Nat) : Array CpInfo := ⟨poolList es last⟩
def fileOf (pool : Array CpInfo) (this : Nat) (attrs : Array Attribute := #[]) (ms : Array MethodInfo := #[]) (fl : Nat := 33) (sup : Nat := 0) (ifs : Array Nat := #[]) (fds : Array FieldInfo := #[]) : ClassFile where
  minorVersion := 0
  majorVersion := 65
  constantPool := pool
  accessFlags := fl
  thisClass := this
  superClass := sup
  interfaces := ifs
  fields := fds
  methods := ms
  attributes := attrs
def plain (name : String) (sup : Option ClassId) : Class where
  name := name
  kind := .ordinary
  loader := none
  accessFlags := 33
  super := sup
  interfaces := #[]
  cf := none
  fields := #[]
  methods := #[]
  instanceTypes := #[]
  staticTypes := #[]
  resolved := #[]
  callSites := []
  init := .initialized
  statics := none
  mirror := none

def pool0 : Array CpInfo := pool [(5, u "<init>"), (0, u "()V"), (1, .class_ 10), (1, u "java/lang/Object")] 113

def k0m0 : Method := { name := "<init>", desc := "()V", sig := { parameters := [], returnType := none }, accessFlags := 1, code := none }
/-- java/lang/Object -/
def k0 : Class := { plain "java/lang/Object" none with
  accessFlags := 33
  interfaces := #[]
  cf := some (fileOf pool0 8 #[] #[{ accessFlags := 1, nameIndex := 5, descriptorIndex := 6, attributes := #[] }] 33 0 #[] #[])
  fields := #[]
  methods := #[k0m0]
  instanceTypes := #[]
  staticTypes := #[]
  resolved := Array.replicate 124 none
  statics := none }

def pool1 : Array CpInfo := pool [(2, .class_ 4), (1, u "java/lang/Object"), (0, u "<init>"), (0, u "()V"), (0, .integer 2147483647), (0, .fieldref 9 10), (0, .class_ 11), (0, .nameAndType 12 13), (0, u "com/example/delay_buckets/delaybuckets/Scenario"), (0, u "BURST"), (0, u "Lcom/example/delay_buckets/delaybuckets/Scenario;"), (0, .methodref 9 15), (0, .nameAndType 16 17), (0, u "delaySeconds"), (0, u "(I)J"), (0, .long 10), (1, .fieldref 9 21), (0, .nameAndType 22 13), (0, u "HOLD"), (0, .long 3600), (1, .fieldref 9 26), (0, .nameAndType 27 13), (0, u "SPREAD"), (0, .long 18446744073709551608), (1, .class_ 31), (0, u "com/example/delay_buckets/delaybuckets/ScenarioDelaySecondsPinLaw"), (2, u "law"), (0, u "(II)Z")] 3

def k1m0 : Method := { name := "<init>", desc := "()V", sig := { parameters := [], returnType := none }, accessFlags := 2, code := none }
def k1c1 : Code := { maxStack := 6, maxLocals := 9, code := code, exceptionTable := #[], attributes := #[] }
def k1m1 : Method := { name := "law", desc := "(II)Z", sig := { parameters := [.int, .int], returnType := some .boolean }, accessFlags := 9, code := some k1c1 }
/-- com/example/delay_buckets/delaybuckets/ScenarioDelaySecondsPinLaw -/
def k1 : Class := { plain "com/example/delay_buckets/delaybuckets/ScenarioDelaySecondsPinLaw" (some 0) with
  accessFlags := 49
  interfaces := #[]
  cf := some (fileOf pool1 30 #[] #[{ accessFlags := 2, nameIndex := 5, descriptorIndex := 6, attributes := #[] }, { accessFlags := 9, nameIndex := 34, descriptorIndex := 35, attributes := #[] }] 49 2 #[] #[])
  fields := #[]
  methods := #[k1m0, k1m1]
  instanceTypes := #[]
  staticTypes := #[]
  resolved := Array.replicate 39 none
  statics := none }

def pool2 : Array CpInfo := pool [(1, .class_ 2), (0, u "java/lang/constant/Constable"), (0, .class_ 4), (0, u "java/lang/Object")] 6

/-- java/lang/constant/Constable -/
def k2 : Class := { plain "java/lang/constant/Constable" (some 0) with
  accessFlags := 1537
  interfaces := #[]
  cf := some (fileOf pool2 1 #[] #[] 1537 3 #[] #[])
  fields := #[]
  methods := #[]
  instanceTypes := #[]
  staticTypes := #[]
  resolved := Array.replicate 11 none
  statics := none }

def pool3 : Array CpInfo := pool [(1, .class_ 2), (0, u "java/lang/Comparable"), (0, .class_ 4), (0, u "java/lang/Object")] 7

/-- java/lang/Comparable -/
def k3 : Class := { plain "java/lang/Comparable" (some 0) with
  accessFlags := 1537
  interfaces := #[]
  cf := some (fileOf pool3 1 #[] #[] 1537 3 #[] #[])
  fields := #[]
  methods := #[]
  instanceTypes := #[]
  staticTypes := #[]
  resolved := Array.replicate 12 none
  statics := none }

def pool4 : Array CpInfo := pool [(1, .class_ 2), (0, u "java/io/Serializable"), (0, .class_ 4), (0, u "java/lang/Object")] 2

/-- java/io/Serializable -/
def k4 : Class := { plain "java/io/Serializable" (some 0) with
  accessFlags := 1537
  interfaces := #[]
  cf := some (fileOf pool4 1 #[] #[] 1537 3 #[] #[])
  fields := #[]
  methods := #[]
  instanceTypes := #[]
  staticTypes := #[]
  resolved := Array.replicate 7 none
  statics := none }

def pool5 : Array CpInfo := pool [(2, .class_ 4), (1, u "java/lang/Enum"), (0, u "name"), (0, u "Ljava/lang/String;"), (0, .fieldref 2 8), (0, .nameAndType 9 10), (0, u "ordinal"), (0, u "I"), (1, .class_ 14), (1, u "java/lang/Object"), (4, u "hash"), (86, .class_ 108), (1, u "java/lang/Enum$EnumDesc"), (2, .class_ 112), (0, u "java/lang/constant/Constable"), (0, .class_ 114), (0, u "java/lang/Comparable"), (0, .class_ 116), (0, u "java/io/Serializable"), (9, u "()I")] 77

def k5c0 : Code := { maxStack := 1, maxLocals := 1, code := jdk_37_method_2_code, exceptionTable := #[], attributes := #[] }
def k5m0 : Method := { name := "ordinal", desc := "()I", sig := { parameters := [], returnType := some .int }, accessFlags := 17, code := some k5c0 }
/-- java/lang/Enum -/
def k5 : Class := { plain "java/lang/Enum" (some 0) with
  accessFlags := 1057
  interfaces := #[2, 3, 4]
  cf := some (fileOf pool5 2 #[.nestMembers #[106]] #[{ accessFlags := 17, nameIndex := 9, descriptorIndex := 126, attributes := #[] }] 1057 12 #[111, 113, 115] #[{ accessFlags := 18, nameIndex := 5, descriptorIndex := 6, attributes := #[] }, { accessFlags := 18, nameIndex := 9, descriptorIndex := 10, attributes := #[] }, { accessFlags := 2, nameIndex := 19, descriptorIndex := 10, attributes := #[] }])
  fields := #[{ name := "name", type := (.object "java/lang/String"), accessFlags := 18, slot := 0, constantValue := 0 }, { name := "ordinal", type := .int, accessFlags := 18, slot := 1, constantValue := 0 }, { name := "hash", type := .int, accessFlags := 2, slot := 2, constantValue := 0 }]
  methods := #[k5m0]
  instanceTypes := #[(.object "java/lang/String"), .int, .int]
  staticTypes := #[]
  resolved := Array.replicate 204 none
  statics := none }

def pool6 : Array CpInfo := pool [(1, .class_ 2), (0, u "com/example/delay_buckets/delaybuckets/Scenario"), (2, u "SPREAD"), (0, u "Lcom/example/delay_buckets/delaybuckets/Scenario;"), (2, u "BURST"), (2, u "HOLD"), (2, u "$VALUES"), (0, u "[Lcom/example/delay_buckets/delaybuckets/Scenario;"), (6, .class_ 25), (1, u "java/lang/Enum"), (6, .methodref 1 33), (0, .nameAndType 34 35), (0, u "ordinal"), (0, u "()I"), (5, .long 10), (1, .long 3600), (41, u "delaySeconds"), (0, u "(I)J")] 6

def k6c0 : Code := { maxStack := 4, maxLocals := 2, code := prog_9_method_4_code, exceptionTable := #[], attributes := #[] }
def k6m0 : Method := { name := "delaySeconds", desc := "(I)J", sig := { parameters := [.int], returnType := some .long }, accessFlags := 0, code := some k6c0 }
/-- com/example/delay_buckets/delaybuckets/Scenario -/
def k6 : Class := { plain "com/example/delay_buckets/delaybuckets/Scenario" (some 5) with
  accessFlags := 16432
  interfaces := #[]
  cf := some (fileOf pool6 1 #[] #[{ accessFlags := 0, nameIndex := 85, descriptorIndex := 86, attributes := #[] }] 16432 23 #[] #[{ accessFlags := 16409, nameIndex := 5, descriptorIndex := 6, attributes := #[] }, { accessFlags := 16409, nameIndex := 9, descriptorIndex := 6, attributes := #[] }, { accessFlags := 16409, nameIndex := 12, descriptorIndex := 6, attributes := #[] }, { accessFlags := 4122, nameIndex := 15, descriptorIndex := 16, attributes := #[] }])
  fields := #[{ name := "SPREAD", type := (.object "com/example/delay_buckets/delaybuckets/Scenario"), accessFlags := 16409, slot := 0, constantValue := 0 }, { name := "BURST", type := (.object "com/example/delay_buckets/delaybuckets/Scenario"), accessFlags := 16409, slot := 1, constantValue := 0 }, { name := "HOLD", type := (.object "com/example/delay_buckets/delaybuckets/Scenario"), accessFlags := 16409, slot := 2, constantValue := 0 }, { name := "$VALUES", type := (.array (.object "com/example/delay_buckets/delaybuckets/Scenario")), accessFlags := 4122, slot := 3, constantValue := 0 }]
  methods := #[k6m0]
  instanceTypes := #[(.object "java/lang/String"), .int, .int]
  staticTypes := #[(.object "com/example/delay_buckets/delaybuckets/Scenario"), (.object "com/example/delay_buckets/delaybuckets/Scenario"), (.object "com/example/delay_buckets/delaybuckets/Scenario"), (.array (.object "com/example/delay_buckets/delaybuckets/Scenario"))]
  resolved := Array.replicate 93 none
  statics := some 0 }

def pool7 : Array CpInfo := pool [(1, u "java/lang/Cloneable"), (0, .class_ 1), (0, u "java/lang/Object"), (0, .class_ 3)] 3

/-- java/lang/Cloneable -/
def k7 : Class := { plain "java/lang/Cloneable" (some 0) with
  accessFlags := 1537
  interfaces := #[]
  cf := some (fileOf pool7 2 #[] #[] 1537 4 #[] #[])
  fields := #[]
  methods := #[]
  instanceTypes := #[]
  staticTypes := #[]
  resolved := Array.replicate 8 none
  statics := none }

/-- the primitive byte -/
def k8 : Class := { plain "byte" none with kind := .primitive 'B', accessFlags := 0x411 }
/-- [B -/
def k9 : Class := { plain "[B" (some 0) with kind := .array 8 .byte, interfaces := #[7, 4], accessFlags := 1041 }

def heap : Heap := #[{ cls := 6, slots := #[.ref 1, .ref 2, .ref 3, .null], vm := .statics 6 },
  { cls := 6, slots := #[.null, .int 0, .int 0], vm := .none },
  { cls := 6, slots := #[.null, .int 1, .int 0], vm := .none },
  { cls := 6, slots := #[.null, .int 2, .int 0], vm := .none }]
def classes : Array Class := #[k0, k1, k2, k3, k4, k5, k6, k7, k8, k9]
def interned : List (Array UInt16 × Addr) := []
def slotsUsed : Nat := 13
def theMethod : MethodId := ⟨1, 1⟩
def args0 : Array Value := #[.int 5, .int 7]
def aboutOver (below : List Frame) : State where
  vm := { classes := classes, interned := interned.toArray }
  heap := heap
  slotsUsed := slotsUsed
  threads := #[{ frames := .invoking theMethod args0 :: below }]
def below0 : List Frame := [.native { method := ⟨0, 0⟩, args := #[] }]
def about1 : State := aboutOver below0
def p0 : Program := .bare "" "" ""
def e0 : Env := launch0.env 0 0 0
theorem w_frames : about1.frames = Frame.invoking theMethod args0 :: below0 := rfl
set_option maxRecDepth 65536 in
theorem w_args : argsFit about1.vm theMethod args0 = true := by decide +kernel
set_option maxRecDepth 65536 in
theorem w_heap : heapFits about1 = true := by decide +kernel
set_option maxRecDepth 65536 in
theorem w_runnable : about1.curStatus? = some .runnable := by decide +kernel
set_option maxRecDepth 65536 in
theorem w_alone : about1.alone = true := by decide +kernel
set_option maxRecDepth 65536 in
theorem w_named : about1.methodNamed? x = some theMethod := by decide +kernel
set_option maxRecDepth 65536 in
theorem w_hears : about1.hears theMethod below0 = true := by decide +kernel
set_option maxRecDepth 65536 in
theorem w_ripe : about1.ripe theMethod args0 below0 = true := by decide +kernel
theorem w_running : about1.status = .running := rfl
set_option maxRecDepth 65536 in
theorem w_room : about1.hasRoom e0.platform room_1 = true :=
  launch0.hasRoom_least _ room_1 (by decide +kernel) (by decide +kernel) (by decide +kernel) (by decide +kernel) (by decide +kernel) (by decide +kernel)
theorem allAtoms_all (ts : List Jvm.Cond) (a : Array Jvm.Value) (st : Jvm.State) : (allAtoms ts).before a st = ts.all (fun c => c.before a st) := by
  induction ts with
  | nil => rfl
  | cons c t ih =>
    show (Jvm.Cond.and c (allAtoms t)).before a st = _
    rw [Jvm.Cond.before_and, ih, List.all_cons]
def words1 : List Jvm.Cond := Jvm.Cond.code x code maxLocals ret :: tables_1
/-- a 'code' word, met by the world's own term for the bytes: nothing is compared byte by byte -/
theorem code_word {y : MethodName} {bytes : ByteArray} {mx : Nat} {rt : Option FieldType} {a : Array Value} {s : State} {m : MethodId} {meth : Method} {c : Code} (h1 : s.methodNamed? y = some m) (h2 : s.vm.method? m = some meth) (h3 : meth.code = some c) (h4 : c.code = bytes)
    (h5 : (c.maxLocals == mx && c.exceptionTable.isEmpty && decide (c.maxStack ≤ mostOperands) && decide (meth.sig.returnType = rt) && !meth.locks && decide (parseMethodDescriptor y.desc = some meth.sig)) = true) : (Jvm.Cond.code y bytes mx rt).before a s = true := by
  simp only [Bool.and_eq_true, beq_iff_eq, Bool.not_eq_true', decide_eq_true_eq] at h5
  obtain ⟨⟨⟨⟨⟨g1, g2⟩, g3⟩, g4⟩, g5⟩, g6⟩ := h5
  simp [Cond.before, Cond.holds, Cond.value, h1, h2, h3, h4, g1, g2, g3, g4, g5, g6]
def isCode : Jvm.Cond → Bool
  | .code _ _ _ _ => true
  | _ => false
theorem all_split {L : List Jvm.Cond} {P : Jvm.Cond → Bool} (h1 : L.all (fun c => isCode c || P c) = true) (h2 : ∀ c ∈ L.filter isCode, P c = true) : L.all P = true := by
  refine List.all_eq_true.mpr fun c hc => ?_
  have h := List.all_eq_true.mp h1 c hc
  rcases Bool.eq_false_or_eq_true (isCode c) with hi | hi
  · exact h2 c (List.mem_filter.mpr ⟨hc, hi⟩)
  · simpa [hi] using h
set_option maxRecDepth 65536 in
theorem w_c0 : (Jvm.Cond.code x code maxLocals ret).before args0 about1 = true := code_word (m := ⟨1, 1⟩) (meth := k1m1) (c := k1c1) (by decide +kernel) rfl rfl rfl (by decide +kernel)
set_option maxRecDepth 65536 in
theorem w_c1 : (Jvm.Cond.code ({ cls := "com/example/delay_buckets/delaybuckets/Scenario", name := "delaySeconds", desc := "(I)J" } : Jvm.MethodName) prog_9_method_4_code (2 : Nat) (Option.some Jvm.ClassFile.FieldType.long)).before args0 about1 = true := code_word (m := ⟨6, 0⟩) (meth := k6m0) (c := k6c0) (by decide +kernel) rfl rfl rfl (by decide +kernel)
set_option maxRecDepth 65536 in
theorem w_c2 : (Jvm.Cond.code ({ cls := "java/lang/Enum", name := "ordinal", desc := "()I" } : Jvm.MethodName) jdk_37_method_2_code (1 : Nat) (Option.some Jvm.ClassFile.FieldType.int)).before args0 about1 = true := code_word (m := ⟨5, 0⟩) (meth := k5m0) (c := k5c0) (by decide +kernel) rfl rfl rfl (by decide +kernel)
def codes1 : List Jvm.Cond := [Jvm.Cond.code x code maxLocals ret, Jvm.Cond.code ({ cls := "com/example/delay_buckets/delaybuckets/Scenario", name := "delaySeconds", desc := "(I)J" } : Jvm.MethodName) prog_9_method_4_code (2 : Nat) (Option.some Jvm.ClassFile.FieldType.long), Jvm.Cond.code ({ cls := "java/lang/Enum", name := "ordinal", desc := "()I" } : Jvm.MethodName) jdk_37_method_2_code (1 : Nat) (Option.some Jvm.ClassFile.FieldType.int)]
set_option maxRecDepth 65536 in
theorem codes_eq : words1.filter isCode = codes1 := rfl
theorem w_codes : ∀ c ∈ words1.filter isCode, c.before args0 about1 = true := by
  rw [codes_eq]
  intro c hc
  simp only [codes1, List.mem_cons, List.not_mem_nil, or_false] at hc
  rcases hc with rfl | rfl | rfl
  · exact w_c0
  · exact w_c1
  · exact w_c2
set_option maxRecDepth 65536 in
theorem w_t1 : (words1.take 24).all (fun c => isCode c || c.before args0 about1) = true := by decide +kernel
set_option maxRecDepth 65536 in
theorem w_t2 : (words1.drop 24).all (fun c => isCode c || c.before args0 about1) = true := by decide +kernel
theorem w_tables : (allAtoms (Jvm.Cond.code x code maxLocals ret :: tables_1)).before args0 about1 = true := by
  rw [allAtoms_all]
  show words1.all (fun c => c.before args0 about1) = true
  refine all_split ?_ w_codes
  rw [← List.take_append_drop 24 words1, List.all_append, w_t1, w_t2]
  rfl
set_option maxRecDepth 65536 in
theorem w_case : (Jvm.Cond.and given_1 narrow_1).before args0 about1 = true := by decide +kernel
theorem w_applies : (headSpec (Jvm.Cond.code x code maxLocals ret :: tables_1) room_1).applies x e0.platform about1 = true :=
  (Spec.applies_iff w_frames).mpr ⟨w_running, w_runnable, w_alone, w_named, w_hears, w_ripe, w_room, w_tables⟩
theorem atStart : AtStart classFile x code maxLocals ret World_1 tables_1 room_1 Calls_1 rest_1 Pre_1 launch0 p0 e0 about1 theMethod args0 below0 :=
  ⟨lists_1, trivial, launch0.admits_env _ _ _, launch0.least_env, fairChoices_fair.cas, fairChoices_fair.clock, w_frames, w_args, w_heap, w_applies, trivial, trivial, w_case⟩
end start1
theorem witness_1 : WitnessClaimed_1 := ⟨start1.p0, start1.e0, start1.about1, start1.theMethod, start1.args0, start1.below0, start1.atStart⟩
end Jvm.Pilot.@@N@@
