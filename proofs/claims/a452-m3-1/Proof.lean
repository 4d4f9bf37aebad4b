import JvmDerived
import JvmDerived.Pilot.@@N@@Statement
import JvmDerived.Pilot.@@N@@Code
set_option linter.unusedVariables false
set_option linter.unusedSimpArgs false
namespace Jvm.RoadKit
open Sem ClassFile Op Lib Jvm.Stand Jvm.Free Jvm.LawKit
section New
variable {p : Program} {l : Launch} {e : Env} {R : Room} {s : State} {m : MethodId} {args : Array Value} {below : List Frame} {meth : Method} {c : Code} {T : State} {locs : List Loc} {cells slots : Nat}
theorem retI (X : Stand p l e R s m args below meth c T locs cells slots) (hx : p.tables.exec = Jvm.exec) {pc : Nat} {Ls : Array Slot} {z : Int32} {rest : List Value} (hret : meth.sig.returnType = some .int) (hd : decode c.code pc = .ok (.ireturn, 1)) {fs : List Frame}
    (hl : ∀ (f : JFrame) (acts : List Action), f.method = m → f.locked = none → f.entered = [] → (doReturn e (T.setTop f) acts (some (.int z))).1 = T.setFrames fs) : Steps p.tables e below (T.setTop (mkF m pc Ls (.int z :: rest))) (T.setFrames fs) := by
  have hm' : T.vm.method? m = some meth := X.method'
  have hn : narrow .int (.int z) = .int z := rfl
  show Steps p.tables e below (T.setTop { method := m, pc := pc, locals := Ls, stack := _ :: rest, locked := none }) _
  jvm_step X.here [X.here.top, hx, hd, hm', hret, hn]
  first | (intro acts; rw [hl _ acts rfl rfl rfl]) | rw [hl _ _ rfl rfl rfl]
  exact Steps.refl _
end New
end Jvm.RoadKit
namespace Jvm.Pilot.@@N@@
open Jvm Jvm.ClassFile Sem Op Lib Jvm.Free Jvm.Stand Jvm.LawKit Jvm.RoadKit Bundle Jvm.Pilot.@@N@@.Jvm.D
/-- a truth value as the machine holds it -/
def bi (P : Prop) [Decidable P] : Int32 := if P then 1 else 0
theorem bi_t {P : Prop} [Decidable P] (h : P) : bi P = 1 := if_pos h
theorem bi_f {P : Prop} [Decidable P] (h : ¬ P) : bi P = 0 := if_neg h
theorem bi_n {P : Prop} [Decidable P] (h : P) : ¬ (bi P = 0) := by rw [bi_t h]; decide
theorem bi_nar {P : Prop} [Decidable P] : nar .boolean (bi P) = bi P := by
  by_cases h : P
  · rw [bi_t h]; rfl
  · rw [bi_f h]; rfl
theorem bi_c {P Q : Prop} [Decidable P] [Decidable Q] (h : P ↔ Q) : bi P = bi Q := by
  by_cases k : P
  · rw [bi_t k, bi_t (h.mp k)]
  · rw [bi_f k, bi_f fun x => k (h.mpr x)]
theorem own_ext {h h' : Heap} (K : Keep h h' []) : Ext h h' := ⟨K.1, fun a c r => K.2.1 a c r nin0⟩
theorem own_staK {Z : State} {h h' : Heap} {C n d : String} {v : Value} {ws : List Addr} (F : Sta Z h C n d v) (K : Keep h h' ws) (r : ∀ x ∈ ws, ∃ D, Exa Z h x D) : Sta Z h' C n d v := by
  obtain ⟨cf, i, k, f, st, cell, h1, h2, h3, h4, h5, h6, h7⟩ := F
  refine ⟨cf, i, k, f, st, cell, h1, h2, h3, h4, K.2.1 _ _ h5 (fun u => ?_), h6, h7⟩
  obtain ⟨D, c2, k2, g1, g2, g3, g4, g5⟩ := r st u
  cases h5.symm.trans g1
  rw [h6] at g4; cases g4
theorem own_eqI {args : Array Value} {s : State} {t : Term} {n : Int32} (h : (Jvm.Cond.eq t (.int n)).value args s none s [] = some true) : t.eval args s none [] s = some (.int n) := by
  obtain ⟨x, y, h1, h2, k1, k2⟩ := cmp_v (Or.inl h)
  cases (Term.int_eval n).symm.trans h2
  obtain ⟨z, rfl⟩ := k2
  have u := gotT (show (Jvm.Cond.eq t (.int n)).value args s none s [] = some (decide (z = n)) from by simp [Cond.value, h1, Term.eval]) h
  rw [h1, u]
theorem own_eqL {args : Array Value} {s : State} {t : Term} {n : Int64} (h : (Jvm.Cond.eq t (.long n)).value args s none s [] = some true) : t.eval args s none [] s = some (.long n) := by
  obtain ⟨x, y, h1, h2, k1, k2⟩ := cmp_v (Or.inl h)
  cases (long_at n).symm.trans h2
  obtain ⟨z, rfl⟩ := k2
  have u := gotT (eq_L h1 (long_at n)) h
  rw [h1, u]
theorem d1_0 : decode prog_21_method_2_code 0 = .ok (.iload_n 0, 1) := by decide +kernel
theorem d1_1 : decode prog_21_method_2_code 1 = .ok (.ifCond .eq 9, 3) := by decide +kernel
theorem d1_4 : decode prog_21_method_2_code 4 = .ok (.getstatic 34, 3) := by decide +kernel
theorem d1_7 : decode prog_21_method_2_code 7 = .ok (.goto 6, 3) := by decide +kernel
theorem d1_13 : decode prog_21_method_2_code 13 = .ok (.areturn, 1) := by decide +kernel
theorem pn_1 : plainName "com/example/nestor/nestor/core/Selection" = true := by first | (simp [plainName, overriddenIn]; done) | decide +kernel
theorem ef_rm1a (m : MethodId)  : entryFrame m #[(.int (1 : Int32))] 1 = mkF m 0 #[.val (.int (1 : Int32))] [] := by first | (simp [entryFrame, mkF, argsToLocals, Value.category]; done) | rfl
def Qrm1a (Z : State) (w : Addr) (h0 : Heap) (n0 : Nat) (v : Option Value) (h : Heap) (L : List Loc) : Prop := v = some (.ref w) ∧ Fr n0 L ∧ h = h0
set_option maxRecDepth 65536 in
set_option maxHeartbeats 40000000 in
theorem rm1a (l : Launch) (Z : State) (a0 : Array Value) (hw : ∀ d ∈ tables_1, d.before a0 Z = true) (ws : List Jvm.Cond) (w : Addr) (h0 : Heap) (n0 : Nat) (Z0 : n0 ≤ h0.size) (H0 : Sta Z h0 "com/example/nestor/nestor/core/Selection" "PICKED" "Lcom/example/nestor/nestor/core/Selection;" (.ref w)) :
    MetFree l (⟨"com/example/nestor/nestor/core/Selection", "of", "(Z)Lcom/example/nestor/nestor/core/Selection;"⟩ : MethodName) (head1 (Jvm.Cond.code (⟨"com/example/nestor/nestor/core/Selection", "of", "(Z)Lcom/example/nestor/nestor/core/Selection;"⟩ : MethodName) prog_21_method_2_code 1 (some (.object "com/example/nestor/nestor/core/Selection")) :: ws) ({ frames := 0, cells := 0, slots := 0, locals := 0 } : Room)) (fun a U => a = #[(.int (1 : Int32))] ∧ Z.Warmed39 U.vm ∧ U.heap = h0) (fun _ _ _ _ _ => True) (fun _ U o U' => ∃ v L, o = .returned v ∧ Qrm1a Z w h0 n0 v U'.heap L ∧ FrameEnd U o U' L ({ frames := 0, cells := 0, slots := 0, locals := 0 } : Room).cells ({ frames := 0, cells := 0, slots := 0, locals := 0 } : Room).slots) := by
  refine MetFree.of_bodySF (plainFor_of_name pn_1) hisR ?_
  intro p e s m args below meth c s₁ Bd hml0 hP hK
  obtain ⟨rfl, hZ, hh⟩ := hP
  have hx := Bd.exec
  have hby := Bd.bytes
  have hml : c.maxLocals = 1 := hml0
  have hown : s.vm.findClass "com/example/nestor/nestor/core/Selection" = some m.cls := findClass_of_methodNamed Bd.named
  have hnm := (name_of_methodNamed Bd.named Bd.method).1
  have X0 : Stand p l e ({ frames := 0, cells := 0, slots := 0, locals := 0 } : Room) s m #[(.int (1 : Int32))] below meth c s₁ [] 0 0 := Stand.of_body Bd
  have e0 : s₁.heap = h0 := by rw [← hh, Bd.state]; rfl
  have N0 := Fr.nil n0
  have pre0 : ∀ t, Steps p.tables e below (s₁.setTop (mkF m 0 #[.val (.int (1 : Int32))] [])) t → Steps p.tables e below (s₁.setTop (entryFrame m #[(.int (1 : Int32))] 1)) t := fun t k => castTop (ef_rm1a m) k
  have KC0 : Keep h0 h0 [] := Keep.refl _ _
  obtain ⟨T1, X1, e1, st1⟩ := getS2 X0 hx hZ hown (host := "") (Or.inl (hw _ (List.mem_of_getElem? (i := 14) rfl))) Via.refl e0 H0 (g := (mkF m 4 #[.val (.int (1 : Int32))] [])) rfl (hb hby d1_4)
  obtain ⟨fs, hr, hrun, hended, hW, hsame⟩ := X1.leave (v := some (.ref w)) (fun h => by rw [Bd.returns] at h; cases h)
  refine ⟨_, _, pre0 _ ?_, hrun, hended, _, _, rfl, ?_, ⟨_, rfl⟩, hW, hsame.mono (by decide) (by decide)⟩
  · show Steps p.tables e below (s₁.setTop (mkF m 0 #[.val (.int (1 : Int32))] [])) _
    refine XS.iloadN X0.here hx rfl (hb hby d1_0) rfl ?_
    show Steps p.tables e below (s₁.setTop (mkF m 1 #[.val (.int (1 : Int32))] [(.int (1 : Int32))])) _
    refine XS.ifNo X0.here hx rfl (hb hby d1_1) rfl ((if0 _ _).trans (feq (by decide : ¬ ((1 : Int32) = (0 : Int32)))).1) ?_
    show Steps p.tables e below (s₁.setTop (mkF m 4 #[.val (.int (1 : Int32))] [])) _
    refine st1 _ ?_
    show Steps p.tables e below (T1.setTop (mkF m 7 #[.val (.int (1 : Int32))] [(.ref w)])) _
    refine XS.goto X1.here hx rfl (pc0 := 7) (pc' := 13) rfl (hb hby d1_7) (by decide) (by decide) ?_
    show Steps p.tables e below (T1.setTop (mkF m 13 #[.val (.int (1 : Int32))] [(.ref w)])) _
    jvm_step X1.here [X1.here.top, hx, (hb hby d1_13), X1.method', Bd.returns, Value.isRef, FieldType.isReference]
    first | (intro acts; rw [hr _ acts rfl rfl rfl]) | rw [hr _ _ rfl rfl rfl]
    exact Steps.refl _
  · show Qrm1a Z w h0 n0 _ T1.heap _
    rw [e1]
    exact ⟨rfl, N0, rfl⟩
theorem d1_10 : decode prog_21_method_2_code 10 = .ok (.getstatic 38, 3) := by decide +kernel
theorem ef_rm1b (m : MethodId)  : entryFrame m #[(.int (0 : Int32))] 1 = mkF m 0 #[.val (.int (0 : Int32))] [] := by first | (simp [entryFrame, mkF, argsToLocals, Value.category]; done) | rfl
def Qrm1b (Z : State) (w : Addr) (h0 : Heap) (n0 : Nat) (v : Option Value) (h : Heap) (L : List Loc) : Prop := v = some (.ref w) ∧ Fr n0 L ∧ h = h0
set_option maxRecDepth 65536 in
set_option maxHeartbeats 40000000 in
theorem rm1b (l : Launch) (Z : State) (a0 : Array Value) (hw : ∀ d ∈ tables_1, d.before a0 Z = true) (ws : List Jvm.Cond) (w : Addr) (h0 : Heap) (n0 : Nat) (Z0 : n0 ≤ h0.size) (H0 : Sta Z h0 "com/example/nestor/nestor/core/Selection" "NOT_PICKED" "Lcom/example/nestor/nestor/core/Selection;" (.ref w)) :
    MetFree l (⟨"com/example/nestor/nestor/core/Selection", "of", "(Z)Lcom/example/nestor/nestor/core/Selection;"⟩ : MethodName) (head1 (Jvm.Cond.code (⟨"com/example/nestor/nestor/core/Selection", "of", "(Z)Lcom/example/nestor/nestor/core/Selection;"⟩ : MethodName) prog_21_method_2_code 1 (some (.object "com/example/nestor/nestor/core/Selection")) :: ws) ({ frames := 0, cells := 0, slots := 0, locals := 0 } : Room)) (fun a U => a = #[(.int (0 : Int32))] ∧ Z.Warmed39 U.vm ∧ U.heap = h0) (fun _ _ _ _ _ => True) (fun _ U o U' => ∃ v L, o = .returned v ∧ Qrm1b Z w h0 n0 v U'.heap L ∧ FrameEnd U o U' L ({ frames := 0, cells := 0, slots := 0, locals := 0 } : Room).cells ({ frames := 0, cells := 0, slots := 0, locals := 0 } : Room).slots) := by
  refine MetFree.of_bodySF (plainFor_of_name pn_1) hisR ?_
  intro p e s m args below meth c s₁ Bd hml0 hP hK
  obtain ⟨rfl, hZ, hh⟩ := hP
  have hx := Bd.exec
  have hby := Bd.bytes
  have hml : c.maxLocals = 1 := hml0
  have hown : s.vm.findClass "com/example/nestor/nestor/core/Selection" = some m.cls := findClass_of_methodNamed Bd.named
  have hnm := (name_of_methodNamed Bd.named Bd.method).1
  have X0 : Stand p l e ({ frames := 0, cells := 0, slots := 0, locals := 0 } : Room) s m #[(.int (0 : Int32))] below meth c s₁ [] 0 0 := Stand.of_body Bd
  have e0 : s₁.heap = h0 := by rw [← hh, Bd.state]; rfl
  have N0 := Fr.nil n0
  have pre0 : ∀ t, Steps p.tables e below (s₁.setTop (mkF m 0 #[.val (.int (0 : Int32))] [])) t → Steps p.tables e below (s₁.setTop (entryFrame m #[(.int (0 : Int32))] 1)) t := fun t k => castTop (ef_rm1b m) k
  have KC0 : Keep h0 h0 [] := Keep.refl _ _
  obtain ⟨T2, X2, e2, st2⟩ := getS2 X0 hx hZ hown (host := "") (Or.inl (hw _ (List.mem_of_getElem? (i := 4) rfl))) Via.refl e0 H0 (g := (mkF m 10 #[.val (.int (0 : Int32))] [])) rfl (hb hby d1_10)
  obtain ⟨fs, hr, hrun, hended, hW, hsame⟩ := X2.leave (v := some (.ref w)) (fun h => by rw [Bd.returns] at h; cases h)
  refine ⟨_, _, pre0 _ ?_, hrun, hended, _, _, rfl, ?_, ⟨_, rfl⟩, hW, hsame.mono (by decide) (by decide)⟩
  · show Steps p.tables e below (s₁.setTop (mkF m 0 #[.val (.int (0 : Int32))] [])) _
    refine XS.iloadN X0.here hx rfl (hb hby d1_0) rfl ?_
    show Steps p.tables e below (s₁.setTop (mkF m 1 #[.val (.int (0 : Int32))] [(.int (0 : Int32))])) _
    refine XS.ifYes X0.here hx rfl (pc0 := 1) (pc' := 10) rfl (hb hby d1_1) rfl ((if0 _ _).trans (teq (by decide : (0 : Int32) = (0 : Int32))).1) (by decide) (by decide) ?_
    show Steps p.tables e below (s₁.setTop (mkF m 10 #[.val (.int (0 : Int32))] [])) _
    refine st2 _ ?_
    show Steps p.tables e below (T2.setTop (mkF m 13 #[.val (.int (0 : Int32))] [(.ref w)])) _
    jvm_step X2.here [X2.here.top, hx, (hb hby d1_13), X2.method', Bd.returns, Value.isRef, FieldType.isReference]
    first | (intro acts; rw [hr _ acts rfl rfl rfl]) | rw [hr _ _ rfl rfl rfl]
    exact Steps.refl _
  · show Qrm1b Z w h0 n0 _ T2.heap _
    rw [e2]
    exact ⟨rfl, N0, rfl⟩
theorem d2_0 : decode prog_21_method_6_code 0 = .ok (.aload_n 0, 1) := by decide +kernel
theorem d2_1 : decode prog_21_method_6_code 1 = .ok (.getfield 24, 3) := by decide +kernel
theorem d2_4 : decode prog_21_method_6_code 4 = .ok (.ireturn, 1) := by decide +kernel
theorem ef_rm20 (m : MethodId) (o0 : Addr) : entryFrame m #[(.ref o0)] 1 = mkF m 0 #[.val (.ref o0)] [] := by first | (simp [entryFrame, mkF, argsToLocals, Value.category]; done) | rfl
def Qrm20 (Z : State) (o0 : Addr) (h0 : Heap) (n0 : Nat) (v : Option Value) (h : Heap) (L : List Loc) : Prop := v = some (.int (0 : Int32)) ∧ Fr n0 L ∧ h = h0
set_option maxRecDepth 65536 in
set_option maxHeartbeats 40000000 in
theorem rm20 (l : Launch) (Z : State) (a0 : Array Value) (hw : ∀ d ∈ tables_1, d.before a0 Z = true) (ws : List Jvm.Cond) (o0 : Addr) (h0 : Heap) (n0 : Nat) (Z0 : n0 ≤ h0.size) (H0 : Fld Z h0 o0 "com/example/nestor/nestor/core/Selection" "picked" "Z" (.int (0 : Int32))) :
    MetFree l (⟨"com/example/nestor/nestor/core/Selection", "picked", "()Z"⟩ : MethodName) (head1 (Jvm.Cond.code (⟨"com/example/nestor/nestor/core/Selection", "picked", "()Z"⟩ : MethodName) prog_21_method_6_code 1 (some .boolean) :: ws) ({ frames := 0, cells := 0, slots := 0, locals := 0 } : Room)) (fun a U => a = #[(.ref o0)] ∧ Z.Warmed39 U.vm ∧ U.heap = h0) (fun _ _ _ _ _ => True) (fun _ U o U' => ∃ v L, o = .returned v ∧ Qrm20 Z o0 h0 n0 v U'.heap L ∧ FrameEnd U o U' L ({ frames := 0, cells := 0, slots := 0, locals := 0 } : Room).cells ({ frames := 0, cells := 0, slots := 0, locals := 0 } : Room).slots) := by
  refine MetFree.of_bodySF (plainFor_of_name pn_1) hisR ?_
  intro p e s m args below meth c s₁ Bd hml0 hP hK
  obtain ⟨rfl, hZ, hh⟩ := hP
  have hx := Bd.exec
  have hby := Bd.bytes
  have hml : c.maxLocals = 1 := hml0
  have hown : s.vm.findClass "com/example/nestor/nestor/core/Selection" = some m.cls := findClass_of_methodNamed Bd.named
  have hnm := (name_of_methodNamed Bd.named Bd.method).1
  have X0 : Stand p l e ({ frames := 0, cells := 0, slots := 0, locals := 0 } : Room) s m #[(.ref o0)] below meth c s₁ [] 0 0 := Stand.of_body Bd
  have e0 : s₁.heap = h0 := by rw [← hh, Bd.state]; rfl
  have N0 := Fr.nil n0
  have pre0 : ∀ t, Steps p.tables e below (s₁.setTop (mkF m 0 #[.val (.ref o0)] [])) t → Steps p.tables e below (s₁.setTop (entryFrame m #[(.ref o0)] 1)) t := fun t k => castTop (ef_rm20 m o0) k
  have z3 := H0.lt
  have KC0 : Keep h0 h0 [] := Keep.refl _ _
  obtain ⟨T4, X4, e4, st4⟩ := getF X0 hx hZ hown (host := "") (Or.inl (hw _ (List.mem_of_getElem? (i := 12) rfl))) Via.refl e0 H0 (g := (mkF m 1 #[.val (.ref o0)] [(.ref o0)])) rfl rfl (hb hby d2_1)
  obtain ⟨fs, hr, hrun, hended, hW, hsame⟩ := X4.leave (v := some (.int (0 : Int32))) (fun h => by rw [Bd.returns] at h; cases h)
  refine ⟨_, _, pre0 _ ?_, hrun, hended, _, _, rfl, ?_, ⟨_, rfl⟩, hW, hsame.mono (by decide) (by decide)⟩
  · show Steps p.tables e below (s₁.setTop (mkF m 0 #[.val (.ref o0)] [])) _
    refine XS.aloadN X0.here hx rfl (hb hby d2_0) rfl rfl ?_
    show Steps p.tables e below (s₁.setTop (mkF m 1 #[.val (.ref o0)] [(.ref o0)])) _
    refine st4 _ ?_
    show Steps p.tables e below (T4.setTop (mkF m 4 #[.val (.ref o0)] [(.int (0 : Int32))])) _
    exact retN X4 hx (t := .boolean) Bd.returns (by simp) (hb hby d2_4) hr
  · show Qrm20 Z o0 h0 n0 _ T4.heap _
    rw [e4]
    exact ⟨rfl, N0, rfl⟩
theorem ef_rm21 (m : MethodId) (o0 : Addr) : entryFrame m #[(.ref o0)] 1 = mkF m 0 #[.val (.ref o0)] [] := by first | (simp [entryFrame, mkF, argsToLocals, Value.category]; done) | rfl
def Qrm21 (Z : State) (o0 : Addr) (h0 : Heap) (n0 : Nat) (v : Option Value) (h : Heap) (L : List Loc) : Prop := v = some (.int (1 : Int32)) ∧ Fr n0 L ∧ h = h0
set_option maxRecDepth 65536 in
set_option maxHeartbeats 40000000 in
theorem rm21 (l : Launch) (Z : State) (a0 : Array Value) (hw : ∀ d ∈ tables_1, d.before a0 Z = true) (ws : List Jvm.Cond) (o0 : Addr) (h0 : Heap) (n0 : Nat) (Z0 : n0 ≤ h0.size) (H0 : Fld Z h0 o0 "com/example/nestor/nestor/core/Selection" "picked" "Z" (.int (1 : Int32))) :
    MetFree l (⟨"com/example/nestor/nestor/core/Selection", "picked", "()Z"⟩ : MethodName) (head1 (Jvm.Cond.code (⟨"com/example/nestor/nestor/core/Selection", "picked", "()Z"⟩ : MethodName) prog_21_method_6_code 1 (some .boolean) :: ws) ({ frames := 0, cells := 0, slots := 0, locals := 0 } : Room)) (fun a U => a = #[(.ref o0)] ∧ Z.Warmed39 U.vm ∧ U.heap = h0) (fun _ _ _ _ _ => True) (fun _ U o U' => ∃ v L, o = .returned v ∧ Qrm21 Z o0 h0 n0 v U'.heap L ∧ FrameEnd U o U' L ({ frames := 0, cells := 0, slots := 0, locals := 0 } : Room).cells ({ frames := 0, cells := 0, slots := 0, locals := 0 } : Room).slots) := by
  refine MetFree.of_bodySF (plainFor_of_name pn_1) hisR ?_
  intro p e s m args below meth c s₁ Bd hml0 hP hK
  obtain ⟨rfl, hZ, hh⟩ := hP
  have hx := Bd.exec
  have hby := Bd.bytes
  have hml : c.maxLocals = 1 := hml0
  have hown : s.vm.findClass "com/example/nestor/nestor/core/Selection" = some m.cls := findClass_of_methodNamed Bd.named
  have hnm := (name_of_methodNamed Bd.named Bd.method).1
  have X0 : Stand p l e ({ frames := 0, cells := 0, slots := 0, locals := 0 } : Room) s m #[(.ref o0)] below meth c s₁ [] 0 0 := Stand.of_body Bd
  have e0 : s₁.heap = h0 := by rw [← hh, Bd.state]; rfl
  have N0 := Fr.nil n0
  have pre0 : ∀ t, Steps p.tables e below (s₁.setTop (mkF m 0 #[.val (.ref o0)] [])) t → Steps p.tables e below (s₁.setTop (entryFrame m #[(.ref o0)] 1)) t := fun t k => castTop (ef_rm21 m o0) k
  have z5 := H0.lt
  have KC0 : Keep h0 h0 [] := Keep.refl _ _
  obtain ⟨T6, X6, e6, st6⟩ := getF X0 hx hZ hown (host := "") (Or.inl (hw _ (List.mem_of_getElem? (i := 12) rfl))) Via.refl e0 H0 (g := (mkF m 1 #[.val (.ref o0)] [(.ref o0)])) rfl rfl (hb hby d2_1)
  obtain ⟨fs, hr, hrun, hended, hW, hsame⟩ := X6.leave (v := some (.int (1 : Int32))) (fun h => by rw [Bd.returns] at h; cases h)
  refine ⟨_, _, pre0 _ ?_, hrun, hended, _, _, rfl, ?_, ⟨_, rfl⟩, hW, hsame.mono (by decide) (by decide)⟩
  · show Steps p.tables e below (s₁.setTop (mkF m 0 #[.val (.ref o0)] [])) _
    refine XS.aloadN X0.here hx rfl (hb hby d2_0) rfl rfl ?_
    show Steps p.tables e below (s₁.setTop (mkF m 1 #[.val (.ref o0)] [(.ref o0)])) _
    refine st6 _ ?_
    show Steps p.tables e below (T6.setTop (mkF m 4 #[.val (.ref o0)] [(.int (1 : Int32))])) _
    exact retN X6 hx (t := .boolean) Bd.returns (by simp) (hb hby d2_4) hr
  · show Qrm21 Z o0 h0 n0 _ T6.heap _
    rw [e6]
    exact ⟨rfl, N0, rfl⟩
theorem pd_0 : parseMethodDescriptor "(Z)Lcom/example/nestor/nestor/core/Selection;" = some ⟨[.boolean], some (.object "com/example/nestor/nestor/core/Selection")⟩ := by decide +kernel
theorem pd_1 : parseMethodDescriptor "()Z" = some ⟨[], some .boolean⟩ := by decide +kernel
theorem pn_0 : plainName "com/example/nestor/nestor/core/SelectionOfPinLaw" = true := by first | (simp [plainName, overriddenIn]; done) | decide +kernel
theorem ef_rm0 (m : MethodId) (p0 : Int32) : entryFrame m #[(.int p0)] maxLocals = mkF m 0 #[.val (.int p0), .unset, .unset, .unset] [] := by first | (simp [entryFrame, mkF, argsToLocals, Value.category, maxLocals]; done) | rfl
def Qrm0 (Z : State) (p0 : Int32) (wP : Addr) (wN : Addr) (h0 : Heap) (n0 : Nat) (v : Option Value) (h : Heap) (L : List Loc) : Prop := v = some (.int (1 : Int32)) ∧ Fr n0 L ∧ h = h0
set_option maxRecDepth 65536 in
set_option maxHeartbeats 40000000 in
theorem rm0 (l : Launch) (Z : State) (a0 : Array Value) (hw : ∀ d ∈ tables_1, d.before a0 Z = true) (ws : List Jvm.Cond) (p0 : Int32) (wP : Addr) (wN : Addr) (h0 : Heap) (n0 : Nat) (Z0 : n0 ≤ h0.size) (H0 : Sta Z h0 "com/example/nestor/nestor/core/Selection" "PICKED" "Lcom/example/nestor/nestor/core/Selection;" (.ref wP)) (H1 : Sta Z h0 "com/example/nestor/nestor/core/Selection" "NOT_PICKED" "Lcom/example/nestor/nestor/core/Selection;" (.ref wN)) (H2 : Exa Z h0 wP "com/example/nestor/nestor/core/Selection") (H3 : Exa Z h0 wN "com/example/nestor/nestor/core/Selection") (H4 : Fld Z h0 wP "com/example/nestor/nestor/core/Selection" "picked" "Z" (.int (1 : Int32))) (H5 : Fld Z h0 wN "com/example/nestor/nestor/core/Selection" "picked" "Z" (.int (0 : Int32))) :
    MetFree l x (head1 (Jvm.Cond.code x code maxLocals ret :: ws) room_1) (fun a U => a = #[(.int p0)] ∧ Z.Warmed39 U.vm ∧ U.heap = h0) (fun _ _ _ _ _ => True) (fun _ U o U' => ∃ v L, o = .returned v ∧ Qrm0 Z p0 wP wN h0 n0 v U'.heap L ∧ FrameEnd U o U' L room_1.cells room_1.slots) := by
  refine MetFree.of_bodySF (plainFor_of_name pn_0) hisR ?_
  intro p e s m args below meth c s₁ Bd hml0 hP hK
  obtain ⟨rfl, hZ, hh⟩ := hP
  have hx := Bd.exec
  have hby := Bd.bytes
  have hml : c.maxLocals = 4 := hml0
  have hown : s.vm.findClass "com/example/nestor/nestor/core/SelectionOfPinLaw" = some m.cls := findClass_of_methodNamed Bd.named
  have hnm := (name_of_methodNamed Bd.named Bd.method).1
  have X0 : Stand p l e room_1 s m #[(.int p0)] below meth c s₁ [] 0 0 := Stand.of_body Bd
  have e0 : s₁.heap = h0 := by rw [← hh, Bd.state]; rfl
  have N0 := Fr.nil n0
  have pre0 : ∀ t, Steps p.tables e below (s₁.setTop (mkF m 0 #[.val (.int p0), .unset, .unset, .unset] [])) t → Steps p.tables e below (s₁.setTop (entryFrame m #[(.int p0)] maxLocals)) t := fun t k => castTop (ef_rm0 m p0) k
  have z7 := H2.lt
  have z8 := H3.lt
  have z9 := H4.lt
  have z10 := H5.lt
  have KC0 : Keep h0 h0 [] := Keep.refl _ _
  have pre11 : ∀ t, Steps p.tables e below (s₁.setTop (mkF m 3 #[.val (.int p0), .unset, .unset, .unset] [(.int (p0 &&& (1 : Int32)))])) t → Steps p.tables e below (s₁.setTop (entryFrame m #[(.int p0)] maxLocals)) t := fun t k => by
    refine pre0 _ ?_
    show Steps p.tables e below (s₁.setTop (mkF m 0 #[.val (.int p0), .unset, .unset, .unset] [])) _
    refine XS.iloadN X0.here hx rfl (hb hby at_0) rfl ?_
    show Steps p.tables e below (s₁.setTop (mkF m 1 #[.val (.int p0), .unset, .unset, .unset] [(.int p0)])) _
    refine XS.iconst X0.here hx rfl (hb hby at_1) ?_
    show Steps p.tables e below (s₁.setTop (mkF m 2 #[.val (.int p0), .unset, .unset, .unset] [(.int (1 : Int32)), (.int p0)])) _
    refine XS.iand X0.here hx rfl (hb hby at_2) rfl ?_
    exact k
  by_cases hc12 : (p0 &&& (1 : Int32)) = (0 : Int32)
  · obtain ⟨_, _, ⟨T13, L13, k13, n13⟩, -, X13, ⟨Lc13, hQ13, l13, y13, z13⟩, st13⟩ := Jvm.LawKit.callS X0 hx (y := (⟨"com/example/nestor/nestor/core/Selection", "of", "(Z)Lcom/example/nestor/nestor/core/Selection;"⟩ : MethodName)) hown (mvT hZ (hw _ (List.mem_of_getElem? (i := 0) rfl))) (mvT hZ (hw _ (List.mem_of_getElem? (i := 1) rfl))) (mvT hZ (hw _ (List.mem_of_getElem? (i := 2) rfl))) (mvT hZ (hw _ (List.mem_of_getElem? (i := 3) rfl))) (by decide) (backOf (W := 0) (rm1b l Z a0 hw [] wN h0 n0 (by omega) H1) hZ (hw _ (List.mem_of_getElem? (i := 3) rfl)) (hw _ (List.mem_of_getElem? (i := 2) rfl)) (by decide) (by decide)) (g := (mkF m 13 #[.val (.int p0), .val (.int (0 : Int32)), .unset, .unset] [(.int (0 : Int32))])) rfl (by rw [hml]; rfl) (argsL := [(.int (0 : Int32))]) (rest := []) (lenOf pd_0 rfl) rfl (by show 2 * 0 + _ ≤ _; exact Nat.le_of_eq rfl) (hb hby at_13) (fun _ _ => ⟨rfl, e0, (by decide : 0 + 0 ≤ _), (by decide : 0 + 0 ≤ _)⟩)
    dsimp only [Pt.U, Pt.locs, Pt.cells, Pt.slots] at X13 l13 y13 z13 st13 hQ13
    subst l13 y13 z13
    obtain ⟨rfl, N13q, e13⟩ := hQ13
    have N13 := Fr.app N0 N13q
    obtain ⟨T14, X14, e14, st14⟩ := getS2 X13 hx hZ hown (host := "") (Or.inl (hw _ (List.mem_of_getElem? (i := 6) rfl))) Via.refl e13 H1 (g := (mkF m 44 #[.val (.int p0), .val (.int (0 : Int32)), .val (.ref wN), .unset] [(.ref wN)])) rfl (hb hby at_44)
    obtain ⟨cq15, kq15, qa15, qb15, qc15⟩ := isOf hZ e14 H3
    obtain ⟨_, _, ⟨T15, L15, k15, n15⟩, -, X15, ⟨Lc15, hQ15, l15, y15, z15⟩, st15⟩ := X14.virtualBack hx (y := (⟨"com/example/nestor/nestor/core/Selection", "picked", "()Z"⟩ : MethodName)) (z := (⟨"com/example/nestor/nestor/core/Selection", "picked", "()Z"⟩ : MethodName)) hown (mvT hZ (hw _ (List.mem_of_getElem? (i := 7) rfl))) (mvT hZ (hw _ (List.mem_of_getElem? (i := 8) rfl))) (notFace_of_selects (args := #[]) (mvT hZ (hw _ (List.mem_of_getElem? (i := 10) rfl)))) (mvT hZ (hw _ (List.mem_of_getElem? (i := 10) rfl))) (mvT hZ (hw _ (List.mem_of_getElem? (i := 9) rfl))) (by decide) (backOf (W := 0) (rm20 l Z a0 hw [] wN h0 n0 (by omega) H5) hZ (hw _ (List.mem_of_getElem? (i := 11) rfl)) (hw _ (List.mem_of_getElem? (i := 2) rfl)) (by decide) (by decide)) qa15 qc15 (g := (mkF m 61 #[.val (.int p0), .val (.int (0 : Int32)), .val (.ref wN), .val (.int (1 : Int32))] [(.ref wN)])) rfl (by rw [hml]; rfl) (Steps.refl _) (argsL := []) (rest := []) (lenOf pd_1 rfl) rfl (by show 2 * 0 + _ ≤ _; exact Nat.le_of_eq rfl) (hb hby at_61) (fun _ _ => ⟨rfl, e14, (by decide : 0 + 0 ≤ _), (by decide : 0 + 0 ≤ _)⟩)
    dsimp only [Pt.U, Pt.locs, Pt.cells, Pt.slots] at X15 l15 y15 z15 st15 hQ15
    subst l15 y15 z15
    obtain ⟨rfl, N15q, e15⟩ := hQ15
    have N15 := Fr.app N13 N15q
    obtain ⟨fs, hr, hrun, hended, hW, hsame⟩ := X15.leave (v := some (.int (1 : Int32))) (fun h => by rw [Bd.returns] at h; cases h)
    refine ⟨_, _, pre11 _ ?_, hrun, hended, _, _, rfl, ?_, ⟨_, rfl⟩, hW, hsame.mono (by decide) (by decide)⟩
    · show Steps p.tables e below (s₁.setTop (mkF m 3 #[.val (.int p0), .unset, .unset, .unset] [(.int (p0 &&& (1 : Int32)))])) _
      refine XS.ifYes X0.here hx rfl (pc0 := 3) (pc' := 10) rfl (hb hby at_3) rfl ((if0 _ _).trans (teq (hc12 : (p0 &&& (1 : Int32)) = (0 : Int32))).1) (by decide) (by decide) ?_
      show Steps p.tables e below (s₁.setTop (mkF m 10 #[.val (.int p0), .unset, .unset, .unset] [])) _
      refine XS.iconst X0.here hx rfl (hb hby at_10) ?_
      show Steps p.tables e below (s₁.setTop (mkF m 11 #[.val (.int p0), .unset, .unset, .unset] [(.int (0 : Int32))])) _
      refine XS.istoreN X0.here hx rfl (hb hby at_11) rfl (l' := #[.val (.int p0), .val (.int (0 : Int32)), .unset, .unset]) rfl ?_
      show Steps p.tables e below (s₁.setTop (mkF m 12 #[.val (.int p0), .val (.int (0 : Int32)), .unset, .unset] [])) _
      refine XS.iloadN X0.here hx rfl (hb hby at_12) rfl ?_
      show Steps p.tables e below (s₁.setTop (mkF m 13 #[.val (.int p0), .val (.int (0 : Int32)), .unset, .unset] [(.int (0 : Int32))])) _
      refine st13 _ ?_
      show Steps p.tables e below (T13.setTop (mkF m 16 #[.val (.int p0), .val (.int (0 : Int32)), .unset, .unset] [(.ref wN)])) _
      refine XS.astoreN X13.here hx rfl (hb hby at_16) rfl rfl (l' := #[.val (.int p0), .val (.int (0 : Int32)), .val (.ref wN), .unset]) rfl ?_
      show Steps p.tables e below (T13.setTop (mkF m 17 #[.val (.int p0), .val (.int (0 : Int32)), .val (.ref wN), .unset] [])) _
      refine XS.aloadN X13.here hx rfl (hb hby at_17) rfl rfl ?_
      show Steps p.tables e below (T13.setTop (mkF m 18 #[.val (.int p0), .val (.int (0 : Int32)), .val (.ref wN), .unset] [(.ref wN)])) _
      refine XS.ifnonnullYes X13.here hx rfl (pc0 := 18) (pc' := 23) rfl (hb hby at_18) rfl (by decide) (by decide) ?_
      show Steps p.tables e below (T13.setTop (mkF m 23 #[.val (.int p0), .val (.int (0 : Int32)), .val (.ref wN), .unset] [])) _
      refine XS.iloadN X13.here hx rfl (hb hby at_23) rfl ?_
      show Steps p.tables e below (T13.setTop (mkF m 24 #[.val (.int p0), .val (.int (0 : Int32)), .val (.ref wN), .unset] [(.int (0 : Int32))])) _
      refine XS.ifYes X13.here hx rfl (pc0 := 24) (pc' := 43) rfl (hb hby at_24) rfl ((if0 _ _).trans (teq (by decide : (0 : Int32) = (0 : Int32))).1) (by decide) (by decide) ?_
      show Steps p.tables e below (T13.setTop (mkF m 43 #[.val (.int p0), .val (.int (0 : Int32)), .val (.ref wN), .unset] [])) _
      refine XS.aloadN X13.here hx rfl (hb hby at_43) rfl rfl ?_
      show Steps p.tables e below (T13.setTop (mkF m 44 #[.val (.int p0), .val (.int (0 : Int32)), .val (.ref wN), .unset] [(.ref wN)])) _
      refine st14 _ ?_
      show Steps p.tables e below (T14.setTop (mkF m 47 #[.val (.int p0), .val (.int (0 : Int32)), .val (.ref wN), .unset] [(.ref wN), (.ref wN)])) _
      refine Jvm.RoadKit.acmp (g := (mkF m 47 #[.val (.int p0), .val (.int (0 : Int32)), .val (.ref wN), .unset] [(.ref wN), (.ref wN)])) X14 hx rfl rfl rfl (pc0 := 47) (pc' := 50) (same := true) rfl (hb hby at_47) rfl (decide_eq_true rfl) (by decide) (by decide) ?_
      show Steps p.tables e below (T14.setTop (mkF m 50 #[.val (.int p0), .val (.int (0 : Int32)), .val (.ref wN), .unset] [])) _
      refine XS.iconst X14.here hx rfl (hb hby at_50) ?_
      show Steps p.tables e below (T14.setTop (mkF m 51 #[.val (.int p0), .val (.int (0 : Int32)), .val (.ref wN), .unset] [(.int (1 : Int32))])) _
      refine XS.goto X14.here hx rfl (pc0 := 51) (pc' := 55) rfl (hb hby at_51) (by decide) (by decide) ?_
      show Steps p.tables e below (T14.setTop (mkF m 55 #[.val (.int p0), .val (.int (0 : Int32)), .val (.ref wN), .unset] [(.int (1 : Int32))])) _
      refine XS.istoreN X14.here hx rfl (hb hby at_55) rfl (l' := #[.val (.int p0), .val (.int (0 : Int32)), .val (.ref wN), .val (.int (1 : Int32))]) rfl ?_
      show Steps p.tables e below (T14.setTop (mkF m 56 #[.val (.int p0), .val (.int (0 : Int32)), .val (.ref wN), .val (.int (1 : Int32))] [])) _
      refine XS.iloadN X14.here hx rfl (hb hby at_56) rfl ?_
      show Steps p.tables e below (T14.setTop (mkF m 57 #[.val (.int p0), .val (.int (0 : Int32)), .val (.ref wN), .val (.int (1 : Int32))] [(.int (1 : Int32))])) _
      refine XS.ifNo X14.here hx rfl (hb hby at_57) rfl ((if0 _ _).trans (feq (by decide : ¬ ((1 : Int32) = (0 : Int32)))).1) ?_
      show Steps p.tables e below (T14.setTop (mkF m 60 #[.val (.int p0), .val (.int (0 : Int32)), .val (.ref wN), .val (.int (1 : Int32))] [])) _
      refine XS.aloadN X14.here hx rfl (hb hby at_60) rfl rfl ?_
      show Steps p.tables e below (T14.setTop (mkF m 61 #[.val (.int p0), .val (.int (0 : Int32)), .val (.ref wN), .val (.int (1 : Int32))] [(.ref wN)])) _
      refine st15.trans ?_
      show Steps p.tables e below (T15.setTop (mkF m 64 #[.val (.int p0), .val (.int (0 : Int32)), .val (.ref wN), .val (.int (1 : Int32))] [(.int (0 : Int32))])) _
      refine XS.iloadN X15.here hx rfl (hb hby at_64) rfl ?_
      show Steps p.tables e below (T15.setTop (mkF m 65 #[.val (.int p0), .val (.int (0 : Int32)), .val (.ref wN), .val (.int (1 : Int32))] [(.int (0 : Int32)), (.int (0 : Int32))])) _
      refine XS.icmpNo X15.here hx rfl (hb hby at_65) rfl (teq (by decide : (0 : Int32) = (0 : Int32))).2 ?_
      show Steps p.tables e below (T15.setTop (mkF m 68 #[.val (.int p0), .val (.int (0 : Int32)), .val (.ref wN), .val (.int (1 : Int32))] [])) _
      refine XS.iconst X15.here hx rfl (hb hby at_68) ?_
      show Steps p.tables e below (T15.setTop (mkF m 69 #[.val (.int p0), .val (.int (0 : Int32)), .val (.ref wN), .val (.int (1 : Int32))] [(.int (1 : Int32))])) _
      refine XS.goto X15.here hx rfl (pc0 := 69) (pc' := 73) rfl (hb hby at_69) (by decide) (by decide) ?_
      show Steps p.tables e below (T15.setTop (mkF m 73 #[.val (.int p0), .val (.int (0 : Int32)), .val (.ref wN), .val (.int (1 : Int32))] [(.int (1 : Int32))])) _
      exact retN X15 hx (t := .boolean) Bd.returns (by simp) (hb hby at_73) hr
    · show Qrm0 Z p0 wP wN h0 n0 _ T15.heap _
      rw [e15]
      exact ⟨rfl, N15, rfl⟩
  · obtain ⟨_, _, ⟨T16, L16, k16, n16⟩, -, X16, ⟨Lc16, hQ16, l16, y16, z16⟩, st16⟩ := Jvm.LawKit.callS X0 hx (y := (⟨"com/example/nestor/nestor/core/Selection", "of", "(Z)Lcom/example/nestor/nestor/core/Selection;"⟩ : MethodName)) hown (mvT hZ (hw _ (List.mem_of_getElem? (i := 0) rfl))) (mvT hZ (hw _ (List.mem_of_getElem? (i := 1) rfl))) (mvT hZ (hw _ (List.mem_of_getElem? (i := 2) rfl))) (mvT hZ (hw _ (List.mem_of_getElem? (i := 3) rfl))) (by decide) (backOf (W := 0) (rm1a l Z a0 hw [] wP h0 n0 (by omega) H0) hZ (hw _ (List.mem_of_getElem? (i := 3) rfl)) (hw _ (List.mem_of_getElem? (i := 2) rfl)) (by decide) (by decide)) (g := (mkF m 13 #[.val (.int p0), .val (.int (1 : Int32)), .unset, .unset] [(.int (1 : Int32))])) rfl (by rw [hml]; rfl) (argsL := [(.int (1 : Int32))]) (rest := []) (lenOf pd_0 rfl) rfl (by show 2 * 0 + _ ≤ _; exact Nat.le_of_eq rfl) (hb hby at_13) (fun _ _ => ⟨rfl, e0, (by decide : 0 + 0 ≤ _), (by decide : 0 + 0 ≤ _)⟩)
    dsimp only [Pt.U, Pt.locs, Pt.cells, Pt.slots] at X16 l16 y16 z16 st16 hQ16
    subst l16 y16 z16
    obtain ⟨rfl, N16q, e16⟩ := hQ16
    have N16 := Fr.app N0 N16q
    obtain ⟨T17, X17, e17, st17⟩ := getS2 X16 hx hZ hown (host := "") (Or.inl (hw _ (List.mem_of_getElem? (i := 16) rfl))) Via.refl e16 H0 (g := (mkF m 28 #[.val (.int p0), .val (.int (1 : Int32)), .val (.ref wP), .unset] [(.ref wP)])) rfl (hb hby at_28)
    obtain ⟨cq18, kq18, qa18, qb18, qc18⟩ := isOf hZ e17 H2
    obtain ⟨_, _, ⟨T18, L18, k18, n18⟩, -, X18, ⟨Lc18, hQ18, l18, y18, z18⟩, st18⟩ := X17.virtualBack hx (y := (⟨"com/example/nestor/nestor/core/Selection", "picked", "()Z"⟩ : MethodName)) (z := (⟨"com/example/nestor/nestor/core/Selection", "picked", "()Z"⟩ : MethodName)) hown (mvT hZ (hw _ (List.mem_of_getElem? (i := 7) rfl))) (mvT hZ (hw _ (List.mem_of_getElem? (i := 8) rfl))) (notFace_of_selects (args := #[]) (mvT hZ (hw _ (List.mem_of_getElem? (i := 10) rfl)))) (mvT hZ (hw _ (List.mem_of_getElem? (i := 10) rfl))) (mvT hZ (hw _ (List.mem_of_getElem? (i := 9) rfl))) (by decide) (backOf (W := 0) (rm21 l Z a0 hw [] wP h0 n0 (by omega) H4) hZ (hw _ (List.mem_of_getElem? (i := 11) rfl)) (hw _ (List.mem_of_getElem? (i := 2) rfl)) (by decide) (by decide)) qa18 qc18 (g := (mkF m 61 #[.val (.int p0), .val (.int (1 : Int32)), .val (.ref wP), .val (.int (1 : Int32))] [(.ref wP)])) rfl (by rw [hml]; rfl) (Steps.refl _) (argsL := []) (rest := []) (lenOf pd_1 rfl) rfl (by show 2 * 0 + _ ≤ _; exact Nat.le_of_eq rfl) (hb hby at_61) (fun _ _ => ⟨rfl, e17, (by decide : 0 + 0 ≤ _), (by decide : 0 + 0 ≤ _)⟩)
    dsimp only [Pt.U, Pt.locs, Pt.cells, Pt.slots] at X18 l18 y18 z18 st18 hQ18
    subst l18 y18 z18
    obtain ⟨rfl, N18q, e18⟩ := hQ18
    have N18 := Fr.app N16 N18q
    obtain ⟨fs, hr, hrun, hended, hW, hsame⟩ := X18.leave (v := some (.int (1 : Int32))) (fun h => by rw [Bd.returns] at h; cases h)
    refine ⟨_, _, pre11 _ ?_, hrun, hended, _, _, rfl, ?_, ⟨_, rfl⟩, hW, hsame.mono (by decide) (by decide)⟩
    · show Steps p.tables e below (s₁.setTop (mkF m 3 #[.val (.int p0), .unset, .unset, .unset] [(.int (p0 &&& (1 : Int32)))])) _
      refine XS.ifNo X0.here hx rfl (hb hby at_3) rfl ((if0 _ _).trans (feq (hc12 : ¬ ((p0 &&& (1 : Int32)) = (0 : Int32)))).1) ?_
      show Steps p.tables e below (s₁.setTop (mkF m 6 #[.val (.int p0), .unset, .unset, .unset] [])) _
      refine XS.iconst X0.here hx rfl (hb hby at_6) ?_
      show Steps p.tables e below (s₁.setTop (mkF m 7 #[.val (.int p0), .unset, .unset, .unset] [(.int (1 : Int32))])) _
      refine XS.goto X0.here hx rfl (pc0 := 7) (pc' := 11) rfl (hb hby at_7) (by decide) (by decide) ?_
      show Steps p.tables e below (s₁.setTop (mkF m 11 #[.val (.int p0), .unset, .unset, .unset] [(.int (1 : Int32))])) _
      refine XS.istoreN X0.here hx rfl (hb hby at_11) rfl (l' := #[.val (.int p0), .val (.int (1 : Int32)), .unset, .unset]) rfl ?_
      show Steps p.tables e below (s₁.setTop (mkF m 12 #[.val (.int p0), .val (.int (1 : Int32)), .unset, .unset] [])) _
      refine XS.iloadN X0.here hx rfl (hb hby at_12) rfl ?_
      show Steps p.tables e below (s₁.setTop (mkF m 13 #[.val (.int p0), .val (.int (1 : Int32)), .unset, .unset] [(.int (1 : Int32))])) _
      refine st16 _ ?_
      show Steps p.tables e below (T16.setTop (mkF m 16 #[.val (.int p0), .val (.int (1 : Int32)), .unset, .unset] [(.ref wP)])) _
      refine XS.astoreN X16.here hx rfl (hb hby at_16) rfl rfl (l' := #[.val (.int p0), .val (.int (1 : Int32)), .val (.ref wP), .unset]) rfl ?_
      show Steps p.tables e below (T16.setTop (mkF m 17 #[.val (.int p0), .val (.int (1 : Int32)), .val (.ref wP), .unset] [])) _
      refine XS.aloadN X16.here hx rfl (hb hby at_17) rfl rfl ?_
      show Steps p.tables e below (T16.setTop (mkF m 18 #[.val (.int p0), .val (.int (1 : Int32)), .val (.ref wP), .unset] [(.ref wP)])) _
      refine XS.ifnonnullYes X16.here hx rfl (pc0 := 18) (pc' := 23) rfl (hb hby at_18) rfl (by decide) (by decide) ?_
      show Steps p.tables e below (T16.setTop (mkF m 23 #[.val (.int p0), .val (.int (1 : Int32)), .val (.ref wP), .unset] [])) _
      refine XS.iloadN X16.here hx rfl (hb hby at_23) rfl ?_
      show Steps p.tables e below (T16.setTop (mkF m 24 #[.val (.int p0), .val (.int (1 : Int32)), .val (.ref wP), .unset] [(.int (1 : Int32))])) _
      refine XS.ifNo X16.here hx rfl (hb hby at_24) rfl ((if0 _ _).trans (feq (by decide : ¬ ((1 : Int32) = (0 : Int32)))).1) ?_
      show Steps p.tables e below (T16.setTop (mkF m 27 #[.val (.int p0), .val (.int (1 : Int32)), .val (.ref wP), .unset] [])) _
      refine XS.aloadN X16.here hx rfl (hb hby at_27) rfl rfl ?_
      show Steps p.tables e below (T16.setTop (mkF m 28 #[.val (.int p0), .val (.int (1 : Int32)), .val (.ref wP), .unset] [(.ref wP)])) _
      refine st17 _ ?_
      show Steps p.tables e below (T17.setTop (mkF m 31 #[.val (.int p0), .val (.int (1 : Int32)), .val (.ref wP), .unset] [(.ref wP), (.ref wP)])) _
      refine Jvm.RoadKit.acmp (g := (mkF m 31 #[.val (.int p0), .val (.int (1 : Int32)), .val (.ref wP), .unset] [(.ref wP), (.ref wP)])) X17 hx rfl rfl rfl (pc0 := 31) (pc' := 34) (same := true) rfl (hb hby at_31) rfl (decide_eq_true rfl) (by decide) (by decide) ?_
      show Steps p.tables e below (T17.setTop (mkF m 34 #[.val (.int p0), .val (.int (1 : Int32)), .val (.ref wP), .unset] [])) _
      refine XS.iconst X17.here hx rfl (hb hby at_34) ?_
      show Steps p.tables e below (T17.setTop (mkF m 35 #[.val (.int p0), .val (.int (1 : Int32)), .val (.ref wP), .unset] [(.int (1 : Int32))])) _
      refine XS.goto X17.here hx rfl (pc0 := 35) (pc' := 39) rfl (hb hby at_35) (by decide) (by decide) ?_
      show Steps p.tables e below (T17.setTop (mkF m 39 #[.val (.int p0), .val (.int (1 : Int32)), .val (.ref wP), .unset] [(.int (1 : Int32))])) _
      refine XS.istoreN X17.here hx rfl (hb hby at_39) rfl (l' := #[.val (.int p0), .val (.int (1 : Int32)), .val (.ref wP), .val (.int (1 : Int32))]) rfl ?_
      show Steps p.tables e below (T17.setTop (mkF m 40 #[.val (.int p0), .val (.int (1 : Int32)), .val (.ref wP), .val (.int (1 : Int32))] [])) _
      refine XS.goto X17.here hx rfl (pc0 := 40) (pc' := 56) rfl (hb hby at_40) (by decide) (by decide) ?_
      show Steps p.tables e below (T17.setTop (mkF m 56 #[.val (.int p0), .val (.int (1 : Int32)), .val (.ref wP), .val (.int (1 : Int32))] [])) _
      refine XS.iloadN X17.here hx rfl (hb hby at_56) rfl ?_
      show Steps p.tables e below (T17.setTop (mkF m 57 #[.val (.int p0), .val (.int (1 : Int32)), .val (.ref wP), .val (.int (1 : Int32))] [(.int (1 : Int32))])) _
      refine XS.ifNo X17.here hx rfl (hb hby at_57) rfl ((if0 _ _).trans (feq (by decide : ¬ ((1 : Int32) = (0 : Int32)))).1) ?_
      show Steps p.tables e below (T17.setTop (mkF m 60 #[.val (.int p0), .val (.int (1 : Int32)), .val (.ref wP), .val (.int (1 : Int32))] [])) _
      refine XS.aloadN X17.here hx rfl (hb hby at_60) rfl rfl ?_
      show Steps p.tables e below (T17.setTop (mkF m 61 #[.val (.int p0), .val (.int (1 : Int32)), .val (.ref wP), .val (.int (1 : Int32))] [(.ref wP)])) _
      refine st18.trans ?_
      show Steps p.tables e below (T18.setTop (mkF m 64 #[.val (.int p0), .val (.int (1 : Int32)), .val (.ref wP), .val (.int (1 : Int32))] [(.int (1 : Int32))])) _
      refine XS.iloadN X18.here hx rfl (hb hby at_64) rfl ?_
      show Steps p.tables e below (T18.setTop (mkF m 65 #[.val (.int p0), .val (.int (1 : Int32)), .val (.ref wP), .val (.int (1 : Int32))] [(.int (1 : Int32)), (.int (1 : Int32))])) _
      refine XS.icmpNo X18.here hx rfl (hb hby at_65) rfl (teq (by decide : (1 : Int32) = (1 : Int32))).2 ?_
      show Steps p.tables e below (T18.setTop (mkF m 68 #[.val (.int p0), .val (.int (1 : Int32)), .val (.ref wP), .val (.int (1 : Int32))] [])) _
      refine XS.iconst X18.here hx rfl (hb hby at_68) ?_
      show Steps p.tables e below (T18.setTop (mkF m 69 #[.val (.int p0), .val (.int (1 : Int32)), .val (.ref wP), .val (.int (1 : Int32))] [(.int (1 : Int32))])) _
      refine XS.goto X18.here hx rfl (pc0 := 69) (pc' := 73) rfl (hb hby at_69) (by decide) (by decide) ?_
      show Steps p.tables e below (T18.setTop (mkF m 73 #[.val (.int p0), .val (.int (1 : Int32)), .val (.ref wP), .val (.int (1 : Int32))] [(.int (1 : Int32))])) _
      exact retN X18 hx (t := .boolean) Bd.returns (by simp) (hb hby at_73) hr
    · show Qrm0 Z p0 wP wN h0 n0 _ T18.heap _
      rw [e18]
      exact ⟨rfl, N18, rfl⟩
set_option maxRecDepth 65536 in
set_option maxHeartbeats 40000000 in
theorem comes_1 {Post : Tables → Env → Array Value → State → Outcome → State → Prop} (hpost : ∀ tb e args s v u, (limb_1_1.after args s (.returned v) u = true ∧ limb_1_2.after args s (.returned v) u = true ∧ True) → FrameEnd s (.returned v) u (Jvm.fieldLocs frame_1_writes args s ++ Jvm.arrayLocs frame_1_arrays args s ++ Jvm.staticLocs frame_1_statics s) 0 0 → Post tb e args s (.returned v) u) :
    ArmFor flags0 classFile x code maxLocals ret World_1 tables_1 room_1 Calls_1 rest_1 Pre_1 Post := by
  intro l hfl _ _ p e ha hc hk s m args below hf hA hF happ hP
  obtain ⟨hcalls, hrest, hpre⟩ := hP
  obtain ⟨-, -, -, hnamed, -, -, -, hat⟩ := (Spec.applies_iff hf).mp happ
  obtain ⟨hg, hn⟩ := and_e (Cond.before_iff.mp (show (Jvm.Cond.and given_1 narrow_1).before args s = true from hpre))
  obtain ⟨gg0, gg1⟩ := and_e hg
  obtain ⟨w0, rfl⟩ : ∃ w0 : Value, args = #[w0] := by
    have hs : args.size = 1 := by simpa [Cond.value, given_1] using gg0
    obtain ⟨L⟩ := args
    match L, hs with
    | [w0], _ => exact ⟨w0, rfl⟩
  have hw := fun d (hd : d ∈ tables_1) => atoms_spec (ws := Jvm.Cond.code x code maxLocals ret :: tables_1) hat d (List.mem_cons_of_mem _ hd)
  have hfit : Fit s := fun {y c} hc i hi => by
    obtain ⟨ha, rfl⟩ := Array.getElem?_eq_some_iff.mp hc
    have q := List.all_eq_true.mp ((Array.all_eq_true_iff_forall_mem.mp hF) _ (Array.getElem_mem ha)) i (List.mem_range.mpr hi)
    simpa [Array.getElem?_eq_getElem hi] using q
  obtain ⟨i0, ei0⟩ := is_v gg1
  obtain rfl : w0 = (.int i0) := Option.some.inj ei0
  unfold narrow_1 at hn
  obtain ⟨nw0, nr0⟩ := and_e hn
  obtain ⟨nw1, nr1⟩ := and_e nr0
  obtain ⟨nw2, nw3⟩ := and_e nr1
  obtain ⟨a_NOT_PICKED, v_NOT_PICKED⟩ := exa_v nw0
  have E_NOT_PICKED := Exa.start v_NOT_PICKED nw0
  have S_NOT_PICKED := Sta.start v_NOT_PICKED (Or.inr ⟨(hw _ (List.mem_of_getElem? (i := 2) rfl)), (hw _ (List.mem_of_getElem? (i := 5) rfl))⟩)
  have F_NOT_PICKED_picked := Fld.start ((fld_at v_NOT_PICKED).symm.trans (own_eqI nw1))
  obtain ⟨a_PICKED, v_PICKED⟩ := exa_v nw2
  have E_PICKED := Exa.start v_PICKED nw2
  have S_PICKED := Sta.start v_PICKED (Or.inr ⟨(hw _ (List.mem_of_getElem? (i := 2) rfl)), (hw _ (List.mem_of_getElem? (i := 15) rfl))⟩)
  have F_PICKED_picked := Fld.start ((fld_at v_PICKED).symm.trans (own_eqI nw3))
  obtain ⟨n, o, h1, h2, h3, _, L, rfl, ⟨rfl, N, -⟩, hq⟩ := rm0 l s _ hw tables_1 i0 a_PICKED a_NOT_PICKED s.heap s.heap.size (Nat.le_refl _) S_PICKED S_NOT_PICKED E_PICKED E_NOT_PICKED F_PICKED_picked F_NOT_PICKED_picked p e ha hc hk s m _ below hf ((Spec.applies_iff_loose hf).mp happ).1 ⟨rfl, State.Warmed39.refl s, rfl⟩ trivial
  exact ⟨n, _, h1, h2, h3, hpost _ _ _ _ _ _ ⟨Cond.after_iff.mpr rfl, Cond.after_iff.mpr (eq_i res_at (Term.int_eval (1)) rfl), trivial⟩ ⟨hq.1, hq.2.1, (hq.2.2.sift fun y hy => Or.inr (N y hy)).mono (by decide) (by decide)⟩⟩
theorem main_1_1 : Claimed_1_1 := comes_1 fun _ _ _ _ _ _ h hF => ⟨h.1, hF⟩
theorem main_1_2 : Claimed_1_2 := comes_1 fun _ _ _ _ _ _ h hF => ⟨h.2.1, hF⟩
end Jvm.Pilot.@@N@@
namespace Jvm.Pilot.@@N@@
open Jvm Jvm.ClassFile Sem Op Lib Jvm.Free Jvm.Stand Jvm.Pilot.@@N@@.Jvm.D
/-! MADE BY PROGRAM (witnessworld.py) out of the Statement's table words and the real class files: 10 classes; the members and pool entries that the words name. The judged class is class 1, her method 1. -/
namespace start1
open Jvm.ClassFile
def u (s : String) : CpInfo := .utf8 (stringToUtf16 s)
/-- a pool by its gaps: so many unusable entries, then the entry; so many at the end -/
def gap : Nat → List CpInfo → List CpInfo
  | 0, r => r
  | n + 1, r => .unusable :: gap n r
def poolList (es : List (Nat × CpInfo)) (last : Nat) : List CpInfo := es.foldr (fun e r => gap e.1 (e.2 :: r)) (gap last [])
def pool (es : List (Nat × CpInfo)) (last : Nat) : Array CpInfo := ⟨poolList es last⟩
def fileOf (pool : Array CpInfo) (this : Nat) (attrs : Array Attribute := #[]) (ms : Array MethodInfo := #[]) (fl : Nat := 33) (sup : Nat := 0) (ifs : Array Nat := #[]) (fds : Array FieldInfo := #[]) : ClassFile where
  minorVersion := 0
  majorVersion := 65
  constantPool := pool
  accessFlags := fl
  thisClass := this
  superClass := sup
  interfaces := ifs
  fields := fds
  methods := ms
  attributes := attrs
def plain (name : String) (sup : Option ClassId) : Class where
  name := name
  kind := .ordinary
  loader := none
  accessFlags := 33
  super := sup
  interfaces := #[]
  cf := none
  fields := #[]
  methods := #[]
  instanceTypes := #[]
  staticTypes := #[]
  resolved := #[]
  callSites := []
  init := .initialized
  statics := none
  mirror := none

def pool0 : Array CpInfo := pool [(5, u "<init>"), (0, u "()V"), (1, .class_ 10), (1, u "java/lang/Object")] 113

def k0m0 : Method := { name := "<init>", desc := "()V", sig := { parameters := [], returnType := none }, accessFlags := 1, code := none }
/-- java/lang/Object -/
def k0 : Class := { plain "java/lang/Object" none with
  accessFlags := 33
  interfaces := #[]
  cf := some (fileOf pool0 8 #[] #[{ accessFlags := 1, nameIndex := 5, descriptorIndex := 6, attributes := #[] }] 33 0 #[] #[])
  fields := #[]
  methods := #[k0m0]
  instanceTypes := #[]
  staticTypes := #[]
  resolved := Array.replicate 124 none
  statics := none }

def pool1 : Array CpInfo := pool [(2, .class_ 4), (1, u "java/lang/Object"), (0, u "<init>"), (0, u "()V"), (0, .methodref 8 9), (0, .class_ 10), (0, .nameAndType 11 12), (0, u "com/example/nestor/nestor/core/Selection"), (0, u "of"), (0, u "(Z)Lcom/example/nestor/nestor/core/Selection;"), (0, .fieldref 8 14), (0, .nameAndType 15 16), (0, u "PICKED"), (0, u "Lcom/example/nestor/nestor/core/Selection;"), (0, .fieldref 8 18), (0, .nameAndType 19 16), (0, u "NOT_PICKED"), (0, .methodref 8 21), (0, .nameAndType 22 23), (0, u "picked"), (0, u "()Z"), (0, .class_ 25), (0, u "com/example/nestor/nestor/core/SelectionOfPinLaw"), (2, u "law"), (0, u "(I)Z")] 3

def k1m0 : Method := { name := "<init>", desc := "()V", sig := { parameters := [], returnType := none }, accessFlags := 2, code := none }
def k1c1 : Code := { maxStack := 2, maxLocals := 4, code := code, exceptionTable := #[], attributes := #[] }
def k1m1 : Method := { name := "law", desc := "(I)Z", sig := { parameters := [.int], returnType := some .boolean }, accessFlags := 9, code := some k1c1 }
/-- com/example/nestor/nestor/core/SelectionOfPinLaw -/
def k1 : Class := { plain "com/example/nestor/nestor/core/SelectionOfPinLaw" (some 0) with
  accessFlags := 49
  interfaces := #[]
  cf := some (fileOf pool1 24 #[] #[{ accessFlags := 2, nameIndex := 5, descriptorIndex := 6, attributes := #[] }, { accessFlags := 9, nameIndex := 28, descriptorIndex := 29, attributes := #[] }] 49 2 #[] #[])
  fields := #[]
  methods := #[k1m0, k1m1]
  instanceTypes := #[]
  staticTypes := #[]
  resolved := Array.replicate 33 none
  statics := none }

def pool2 : Array CpInfo := pool [(2, .class_ 4), (1, u "java/lang/Object"), (0, u "<init>"), (0, u "()V"), (0, .class_ 8), (0, u "java/lang/Record")] 13

def k2m0 : Method := { name := "<init>", desc := "()V", sig := { parameters := [], returnType := none }, accessFlags := 4, code := none }
/-- java/lang/Record -/
def k2 : Class := { plain "java/lang/Record" (some 0) with
  accessFlags := 1057
  interfaces := #[]
  cf := some (fileOf pool2 7 #[] #[{ accessFlags := 4, nameIndex := 5, descriptorIndex := 6, attributes := #[] }] 1057 2 #[] #[])
  fields := #[]
  methods := #[k2m0]
  instanceTypes := #[]
  staticTypes := #[]
  resolved := Array.replicate 22 none
  statics := none }

def pool3 : Array CpInfo := pool [(2, .class_ 4), (1, u "java/lang/Record"), (11, u "()Z"), (7, .fieldref 25 26), (0, .class_ 27), (0, .nameAndType 28 29), (0, u "com/example/nestor/nestor/core/Selection"), (0, u "picked"), (0, u "Z"), (2, u "unknown"), (0, u "Ljava/util/Set;"), (0, .fieldref 25 35), (0, .nameAndType 36 37), (0, u "PICKED"), (0, u "Lcom/example/nestor/nestor/core/Selection;"), (0, .fieldref 25 39), (0, .nameAndType 40 37), (0, u "NOT_PICKED"), (14, u "of"), (11, u "(Z)Lcom/example/nestor/nestor/core/Selection;")] 26

def k3c0 : Code := { maxStack := 1, maxLocals := 1, code := prog_21_method_2_code, exceptionTable := #[], attributes := #[] }
def k3m0 : Method := { name := "of", desc := "(Z)Lcom/example/nestor/nestor/core/Selection;", sig := { parameters := [.boolean], returnType := some (.object "com/example/nestor/nestor/core/Selection") }, accessFlags := 9, code := some k3c0 }
def k3c1 : Code := { maxStack := 1, maxLocals := 1, code := prog_21_method_6_code, exceptionTable := #[], attributes := #[] }
def k3m1 : Method := { name := "picked", desc := "()Z", sig := { parameters := [], returnType := some .boolean }, accessFlags := 1, code := some k3c1 }
/-- com/example/nestor/nestor/core/Selection -/
def k3 : Class := { plain "com/example/nestor/nestor/core/Selection" (some 2) with
  accessFlags := 49
  interfaces := #[]
  cf := some (fileOf pool3 25 #[] #[{ accessFlags := 9, nameIndex := 55, descriptorIndex := 67, attributes := #[] }, { accessFlags := 1, nameIndex := 28, descriptorIndex := 16, attributes := #[] }] 49 2 #[] #[{ accessFlags := 18, nameIndex := 28, descriptorIndex := 29, attributes := #[] }, { accessFlags := 18, nameIndex := 32, descriptorIndex := 33, attributes := #[] }, { accessFlags := 25, nameIndex := 36, descriptorIndex := 37, attributes := #[] }, { accessFlags := 25, nameIndex := 40, descriptorIndex := 37, attributes := #[] }])
  fields := #[{ name := "picked", type := .boolean, accessFlags := 18, slot := 0, constantValue := 0 }, { name := "unknown", type := (.object "java/util/Set"), accessFlags := 18, slot := 1, constantValue := 0 }, { name := "PICKED", type := (.object "com/example/nestor/nestor/core/Selection"), accessFlags := 25, slot := 0, constantValue := 0 }, { name := "NOT_PICKED", type := (.object "com/example/nestor/nestor/core/Selection"), accessFlags := 25, slot := 1, constantValue := 0 }]
  methods := #[k3m0, k3m1]
  instanceTypes := #[.boolean, (.object "java/util/Set")]
  staticTypes := #[(.object "com/example/nestor/nestor/core/Selection"), (.object "com/example/nestor/nestor/core/Selection")]
  resolved := Array.replicate 94 none
  statics := some 0 }

def pool4 : Array CpInfo := pool [(1, u "java/lang/Cloneable"), (0, .class_ 1), (0, u "java/lang/Object"), (0, .class_ 3)] 3

/-- java/lang/Cloneable -/
def k4 : Class := { plain "java/lang/Cloneable" (some 0) with
  accessFlags := 1537
  interfaces := #[]
  cf := some (fileOf pool4 2 #[] #[] 1537 4 #[] #[])
  fields := #[]
  methods := #[]
  instanceTypes := #[]
  staticTypes := #[]
  resolved := Array.replicate 8 none
  statics := none }

def pool5 : Array CpInfo := pool [(1, u "java/io/Serializable"), (0, .class_ 1), (0, u "java/lang/Object"), (0, .class_ 3)] 3

/-- java/io/Serializable -/
def k5 : Class := { plain "java/io/Serializable" (some 0) with
  accessFlags := 1537
  interfaces := #[]
  cf := some (fileOf pool5 2 #[] #[] 1537 4 #[] #[])
  fields := #[]
  methods := #[]
  instanceTypes := #[]
  staticTypes := #[]
  resolved := Array.replicate 8 none
  statics := none }

/-- the primitive byte -/
def k6 : Class := { plain "byte" none with kind := .primitive 'B', accessFlags := 0x411 }
/-- [B -/
def k7 : Class := { plain "[B" (some 0) with kind := .array 6 .byte, interfaces := #[4, 5], accessFlags := 1041 }

/-- the primitive int -/
def k8 : Class := { plain "int" none with kind := .primitive 'I', accessFlags := 0x411 }
/-- [I -/
def k9 : Class := { plain "[I" (some 0) with kind := .array 8 .int, interfaces := #[4, 5], accessFlags := 1041 }

def heap : Heap := #[{ cls := 3, slots := #[.ref 1, .ref 2], vm := .statics 3 },
  { cls := 3, slots := #[.int 1, .null], vm := .none },
  { cls := 3, slots := #[.int 0, .null], vm := .none }]
def classes : Array Class := #[k0, k1, k2, k3, k4, k5, k6, k7, k8, k9]
def interned : List (Array UInt16 × Addr) := []
def slotsUsed : Nat := 6
def theMethod : MethodId := ⟨1, 1⟩
def args0 : Array Value := #[.int 5]
def aboutOver (below : List Frame) : State where
  vm := { classes := classes, interned := interned.toArray }
  heap := heap
  slotsUsed := slotsUsed
  threads := #[{ frames := .invoking theMethod args0 :: below }]
def below0 : List Frame := [.native { method := ⟨0, 0⟩, args := #[] }]
def about1 : State := aboutOver below0
def p0 : Program := .bare "" "" ""
def e0 : Env := launch0.env 0 0 0
theorem w_frames : about1.frames = Frame.invoking theMethod args0 :: below0 := rfl
set_option maxRecDepth 65536 in
theorem w_args : argsFit about1.vm theMethod args0 = true := by decide +kernel
set_option maxRecDepth 65536 in
theorem w_heap : heapFits about1 = true := by decide +kernel
set_option maxRecDepth 65536 in
theorem w_runnable : about1.curStatus? = some .runnable := by decide +kernel
set_option maxRecDepth 65536 in
theorem w_alone : about1.alone = true := by decide +kernel
set_option maxRecDepth 65536 in
theorem w_named : about1.methodNamed? x = some theMethod := by decide +kernel
set_option maxRecDepth 65536 in
theorem w_hears : about1.hears theMethod below0 = true := by decide +kernel
set_option maxRecDepth 65536 in
theorem w_ripe : about1.ripe theMethod args0 below0 = true := by decide +kernel
theorem w_running : about1.status = .running := rfl
set_option maxRecDepth 65536 in
theorem w_room : about1.hasRoom e0.platform room_1 = true :=
  launch0.hasRoom_least _ room_1 (by decide +kernel) (by decide +kernel) (by decide +kernel) (by decide +kernel) (by decide +kernel) (by decide +kernel)
theorem allAtoms_all (ts : List Jvm.Cond) (a : Array Jvm.Value) (st : Jvm.State) : (allAtoms ts).before a st = ts.all (fun c => c.before a st) := by
  induction ts with
  | nil => rfl
  | cons c t ih =>
    show (Jvm.Cond.and c (allAtoms t)).before a st = _
    rw [Jvm.Cond.before_and, ih, List.all_cons]
def words1 : List Jvm.Cond := Jvm.Cond.code x code maxLocals ret :: tables_1
/-- a 'code' word, met by the world's own term for the bytes: nothing is compared byte by byte -/
theorem code_word {y : MethodName} {bytes : ByteArray} {mx : Nat} {rt : Option FieldType} {a : Array Value} {s : State} {m : MethodId} {meth : Method} {c : Code} (h1 : s.methodNamed? y = some m) (h2 : s.vm.method? m = some meth) (h3 : meth.code = some c) (h4 : c.code = bytes)
    (h5 : (c.maxLocals == mx && c.exceptionTable.isEmpty && decide (c.maxStack ≤ mostOperands) && decide (meth.sig.returnType = rt) && !meth.locks && decide (parseMethodDescriptor y.desc = some meth.sig)) = true) : (Jvm.Cond.code y bytes mx rt).before a s = true := by
  simp only [Bool.and_eq_true, beq_iff_eq, Bool.not_eq_true', decide_eq_true_eq] at h5
  obtain ⟨⟨⟨⟨⟨g1, g2⟩, g3⟩, g4⟩, g5⟩, g6⟩ := h5
  simp [Cond.before, Cond.holds, Cond.value, h1, h2, h3, h4, g1, g2, g3, g4, g5, g6]
def isCode : Jvm.Cond → Bool
  | .code _ _ _ _ => true
  | _ => false
theorem all_split {L : List Jvm.Cond} {P : Jvm.Cond → Bool} (h1 : L.all (fun c => isCode c || P c) = true) (h2 : ∀ c ∈ L.filter isCode, P c = true) : L.all P = true := by
  refine List.all_eq_true.mpr fun c hc => ?_
  have h := List.all_eq_true.mp h1 c hc
  rcases Bool.eq_false_or_eq_true (isCode c) with hi | hi
  · exact h2 c (List.mem_filter.mpr ⟨hc, hi⟩)
  · simpa [hi] using h
set_option maxRecDepth 65536 in
theorem w_c0 : (Jvm.Cond.code x code maxLocals ret).before args0 about1 = true := code_word (m := ⟨1, 1⟩) (meth := k1m1) (c := k1c1) (by decide +kernel) rfl rfl rfl (by decide +kernel)
set_option maxRecDepth 65536 in
theorem w_c1 : (Jvm.Cond.code ({ cls := "com/example/nestor/nestor/core/Selection", name := "of", desc := "(Z)Lcom/example/nestor/nestor/core/Selection;" } : Jvm.MethodName) prog_21_method_2_code (1 : Nat) (Option.some (Jvm.ClassFile.FieldType.object "com/example/nestor/nestor/core/Selection"))).before args0 about1 = true := code_word (m := ⟨3, 0⟩) (meth := k3m0) (c := k3c0) (by decide +kernel) rfl rfl rfl (by decide +kernel)
set_option maxRecDepth 65536 in
theorem w_c2 : (Jvm.Cond.code ({ cls := "com/example/nestor/nestor/core/Selection", name := "picked", desc := "()Z" } : Jvm.MethodName) prog_21_method_6_code (1 : Nat) (Option.some Jvm.ClassFile.FieldType.boolean)).before args0 about1 = true := code_word (m := ⟨3, 1⟩) (meth := k3m1) (c := k3c1) (by decide +kernel) rfl rfl rfl (by decide +kernel)
def codes1 : List Jvm.Cond := [Jvm.Cond.code x code maxLocals ret, Jvm.Cond.code ({ cls := "com/example/nestor/nestor/core/Selection", name := "of", desc := "(Z)Lcom/example/nestor/nestor/core/Selection;" } : Jvm.MethodName) prog_21_method_2_code (1 : Nat) (Option.some (Jvm.ClassFile.FieldType.object "com/example/nestor/nestor/core/Selection")), Jvm.Cond.code ({ cls := "com/example/nestor/nestor/core/Selection", name := "picked", desc := "()Z" } : Jvm.MethodName) prog_21_method_6_code (1 : Nat) (Option.some Jvm.ClassFile.FieldType.boolean)]
set_option maxRecDepth 65536 in
theorem codes_eq : words1.filter isCode = codes1 := rfl
theorem w_codes : ∀ c ∈ words1.filter isCode, c.before args0 about1 = true := by
  rw [codes_eq]
  intro c hc
  simp only [codes1, List.mem_cons, List.not_mem_nil, or_false] at hc
  rcases hc with rfl | rfl | rfl
  · exact w_c0
  · exact w_c1
  · exact w_c2
set_option maxRecDepth 65536 in
theorem w_t1 : words1.all (fun c => isCode c || c.before args0 about1) = true := by decide +kernel
theorem w_tables : (allAtoms (Jvm.Cond.code x code maxLocals ret :: tables_1)).before args0 about1 = true := by
  rw [allAtoms_all]
  show words1.all (fun c => c.before args0 about1) = true
  refine all_split ?_ w_codes
  rw [w_t1]
set_option maxRecDepth 65536 in
theorem w_case : (Jvm.Cond.and given_1 narrow_1).before args0 about1 = true := by decide +kernel
theorem w_applies : (headSpec (Jvm.Cond.code x code maxLocals ret :: tables_1) room_1).applies x e0.platform about1 = true :=
  (Spec.applies_iff w_frames).mpr ⟨w_running, w_runnable, w_alone, w_named, w_hears, w_ripe, w_room, w_tables⟩
theorem atStart : AtStart classFile x code maxLocals ret World_1 tables_1 room_1 Calls_1 rest_1 Pre_1 launch0 p0 e0 about1 theMethod args0 below0 :=
  ⟨lists_1, trivial, launch0.admits_env _ _ _, launch0.least_env, fairChoices_fair.cas, fairChoices_fair.clock, w_frames, w_args, w_heap, w_applies, trivial, trivial, w_case⟩
end start1
theorem witness_1 : WitnessClaimed_1 := ⟨start1.p0, start1.e0, start1.about1, start1.theMethod, start1.args0, start1.below0, start1.atStart⟩
end Jvm.Pilot.@@N@@
