import JvmDerived
import JvmDerived.Pilot.@@N@@Statement
import JvmDerived.Pilot.@@N@@Code
set_option linter.unusedVariables false
set_option linter.unusedSimpArgs false
namespace Jvm.RoadKit
open Sem ClassFile Op Lib Jvm.Stand Jvm.Free Jvm.LawKit
section New
variable {p : Program} {l : Launch} {e : Env} {R : Room} {s : State} {m : MethodId} {args : Array Value} {below : List Frame} {meth : Method} {c : Code} {T : State} {locs : List Loc} {cells slots : Nat}
theorem retI (X : Stand p l e R s m args below meth c T locs cells slots) (hx : p.tables.exec = Jvm.exec) {pc : Nat} {Ls : Array Slot} {z : Int32} {rest : List Value} (hret : meth.sig.returnType = some .int) (hd : decode c.code pc = .ok (.ireturn, 1)) {fs : List Frame}
    (hl : ∀ (f : JFrame) (acts : List Action), f.method = m → f.locked = none → f.entered = [] → (doReturn e (T.setTop f) acts (some (.int z))).1 = T.setFrames fs) : Steps p.tables e below (T.setTop (mkF m pc Ls (.int z :: rest))) (T.setFrames fs) := by
  have hm' : T.vm.method? m = some meth := X.method'
  have hn : narrow .int (.int z) = .int z := rfl
  show Steps p.tables e below (T.setTop { method := m, pc := pc, locals := Ls, stack := _ :: rest, locked := none }) _
  jvm_step X.here [X.here.top, hx, hd, hm', hret, hn]
  first | (intro acts; rw [hl _ acts rfl rfl rfl]) | rw [hl _ _ rfl rfl rfl]
  exact Steps.refl _
end New
end Jvm.RoadKit
namespace Jvm.Pilot.@@N@@
open Jvm Jvm.ClassFile Sem Op Lib Jvm.Free Jvm.Stand Jvm.LawKit Jvm.RoadKit Bundle Jvm.Pilot.@@N@@.Jvm.D
/-- a truth value as the machine holds it -/
def bi (P : Prop) [Decidable P] : Int32 := if P then 1 else 0
theorem bi_t {P : Prop} [Decidable P] (h : P) : bi P = 1 := if_pos h
theorem bi_f {P : Prop} [Decidable P] (h : ¬ P) : bi P = 0 := if_neg h
theorem bi_n {P : Prop} [Decidable P] (h : P) : ¬ (bi P = 0) := by rw [bi_t h]; decide
theorem bi_nar {P : Prop} [Decidable P] : nar .boolean (bi P) = bi P := by
  by_cases h : P
  · rw [bi_t h]; rfl
  · rw [bi_f h]; rfl
theorem bi_c {P Q : Prop} [Decidable P] [Decidable Q] (h : P ↔ Q) : bi P = bi Q := by
  by_cases k : P
  · rw [bi_t k, bi_t (h.mp k)]
  · rw [bi_f k, bi_f fun x => k (h.mpr x)]
theorem own_ext {h h' : Heap} (K : Keep h h' []) : Ext h h' := ⟨K.1, fun a c r => K.2.1 a c r nin0⟩
theorem own_staK {Z : State} {h h' : Heap} {C n d : String} {v : Value} {ws : List Addr} (F : Sta Z h C n d v) (K : Keep h h' ws) (r : ∀ x ∈ ws, ∃ D, Exa Z h x D) : Sta Z h' C n d v := by
  obtain ⟨cf, i, k, f, st, cell, h1, h2, h3, h4, h5, h6, h7⟩ := F
  refine ⟨cf, i, k, f, st, cell, h1, h2, h3, h4, K.2.1 _ _ h5 (fun u => ?_), h6, h7⟩
  obtain ⟨D, c2, k2, g1, g2, g3, g4, g5⟩ := r st u
  cases h5.symm.trans g1
  rw [h6] at g4; cases g4
theorem own_eqI {args : Array Value} {s : State} {t : Term} {n : Int32} (h : (Jvm.Cond.eq t (.int n)).value args s none s [] = some true) : t.eval args s none [] s = some (.int n) := by
  obtain ⟨x, y, h1, h2, k1, k2⟩ := cmp_v (Or.inl h)
  cases (Term.int_eval n).symm.trans h2
  obtain ⟨z, rfl⟩ := k2
  have u := gotT (show (Jvm.Cond.eq t (.int n)).value args s none s [] = some (decide (z = n)) from by simp [Cond.value, h1, Term.eval]) h
  rw [h1, u]
theorem own_eqL {args : Array Value} {s : State} {t : Term} {n : Int64} (h : (Jvm.Cond.eq t (.long n)).value args s none s [] = some true) : t.eval args s none [] s = some (.long n) := by
  obtain ⟨x, y, h1, h2, k1, k2⟩ := cmp_v (Or.inl h)
  cases (long_at n).symm.trans h2
  obtain ⟨z, rfl⟩ := k2
  have u := gotT (eq_L h1 (long_at n)) h
  rw [h1, u]
theorem own_mod3 (x : Int32) : ((x &&& (2147483647 : Int32)) % (3 : Int32)) = (0 : Int32) ∨ ((x &&& (2147483647 : Int32)) % (3 : Int32)) = (1 : Int32) ∨ ((x &&& (2147483647 : Int32)) % (3 : Int32)) = (2 : Int32) := by
  have h0 := (c_and x 2147483647 (by decide)).1
  have h1 := (c_irem (x &&& 2147483647) 3 3 rfl).1 h0
  have e0 : (0 : Int32).toInt = 0 := rfl
  have e1 : (1 : Int32).toInt = 1 := rfl
  have e2 : (2 : Int32).toInt = 2 := rfl
  simp only [← Int32.toInt_inj, h1, e0, e1, e2]
  omega
theorem own_len {args : Array Value} {s : State} {t : Term} {n : Int32} {a : Addr} {cl : Cell} {ty : FieldType} (A : Arr s s.heap a cl ty) (ht : t.eval args s none [] s = some (.ref a)) (h : (Jvm.Cond.eq (.length t) (.int n)).value args s none s [] = some true) : cl.slots.size < 2 ^ 31 ∧ cl.slots.size.toInt32 = n := by
  have e := own_eqI h
  have u : s.arrayAt? a = some cl := A.fin (Vm.Alike.refl _)
  by_cases k : cl.slots.size < 2 ^ 31
  · rw [len_f ht u k] at e
    exact ⟨k, Value.int.inj (Option.some.inj e)⟩
  · simp [Term.eval, ht, u, k] at e
theorem own_el {args : Array Value} {s : State} {t u : Term} {j : Int32} {a b : Addr} {cl : Cell} {ty : FieldType} (A : Arr s s.heap a cl ty) (ht : t.eval args s none [] s = some (.ref a)) (hu : u.eval args s none [] s = some (.ref b)) (h : (Jvm.Cond.eq (.elem t (.int j)) u).value args s none s [] = some true) : cl.slots[j.toNatClampNeg]? = some (.ref b) := by
  obtain ⟨x, y, h1, h2, -, k2⟩ := cmp_v (Or.inl h)
  cases hu.symm.trans h2
  have r1 : x.isRef = true := k2.2
  have q := gotT (eq_R h1 h2 r1 rfl) h
  subst q
  exact (elem_in h1 ht (Term.int_eval j) A.1).2
theorem d2_0 : decode prog_12_method_1_code 0 = .ok (.getstatic 13, 3) := by decide +kernel
theorem d2_3 : decode prog_12_method_1_code 3 = .ok (.invokevirtual 17, 3) := by decide +kernel
theorem d2_6 : decode prog_12_method_1_code 6 = .ok (.checkcast 18, 3) := by decide +kernel
theorem d2_9 : decode prog_12_method_1_code 9 = .ok (.areturn, 1) := by decide +kernel
theorem pn_2 : plainName "com/example/declarant/declarant/hire/DpaeStatus" = true := by first | (simp [plainName, overriddenIn]; done) | decide +kernel
theorem ef_rm2 (m : MethodId)  : entryFrame m #[] 0 = mkF m 0 #[] [] := by first | (simp [entryFrame, mkF, argsToLocals, Value.category]; done) | rfl
def Qrm2 (Z : State) (va : Addr) (kk : ClassId) (w0 : Addr) (w1 : Addr) (w2 : Addr) (h0 : Heap) (n0 : Nat) (v : Option Value) (h : Heap) (L : List Loc) : Prop := ∃ r : Addr, v = some (.ref r) ∧ Fr n0 L ∧ Keep h0 h [] ∧ Arv Z h r kk (.object "com/example/declarant/declarant/hire/DpaeStatus") (3 : Int32) [(.ref w0), (.ref w1), (.ref w2)] .null
set_option maxRecDepth 65536 in
set_option maxHeartbeats 40000000 in
theorem rm2 (l : Launch) (Z : State) (a0 : Array Value) (hw : ∀ d ∈ tables_1, d.before a0 Z = true) (ws : List Jvm.Cond) (va : Addr) (kk : ClassId) (w0 : Addr) (w1 : Addr) (w2 : Addr) (h0 : Heap) (n0 : Nat) (Z0 : n0 ≤ h0.size) (H0 : Sta Z h0 "com/example/declarant/declarant/hire/DpaeStatus" "$VALUES" "[Lcom/example/declarant/declarant/hire/DpaeStatus;" (.ref va)) (H1 : Arv Z h0 va kk (.object "com/example/declarant/declarant/hire/DpaeStatus") (3 : Int32) [(.ref w0), (.ref w1), (.ref w2)] .null) (H2 : Exa Z h0 va "[Lcom/example/declarant/declarant/hire/DpaeStatus;") :
    MetFree l (⟨"com/example/declarant/declarant/hire/DpaeStatus", "values", "()[Lcom/example/declarant/declarant/hire/DpaeStatus;"⟩ : MethodName) (head1 (Jvm.Cond.code (⟨"com/example/declarant/declarant/hire/DpaeStatus", "values", "()[Lcom/example/declarant/declarant/hire/DpaeStatus;"⟩ : MethodName) prog_12_method_1_code 0 (some (.array (.object "com/example/declarant/declarant/hire/DpaeStatus"))) :: ws) ({ frames := 1, cells := 1, slots := 3, locals := 14 } : Room)) (fun a U => a = #[] ∧ Z.Warmed39 U.vm ∧ U.heap = h0) (fun _ _ _ _ _ => True) (fun _ U o U' => ∃ v L, o = .returned v ∧ Qrm2 Z va kk w0 w1 w2 h0 n0 v U'.heap L ∧ FrameEnd U o U' L ({ frames := 1, cells := 1, slots := 3, locals := 14 } : Room).cells ({ frames := 1, cells := 1, slots := 3, locals := 14 } : Room).slots) := by
  refine MetFree.of_bodySF (plainFor_of_name pn_2) hisR ?_
  intro p e s m args below meth c s₁ Bd hml0 hP hK
  obtain ⟨rfl, hZ, hh⟩ := hP
  have hx := Bd.exec
  have hby := Bd.bytes
  have hml : c.maxLocals = 0 := hml0
  have hown : s.vm.findClass "com/example/declarant/declarant/hire/DpaeStatus" = some m.cls := findClass_of_methodNamed Bd.named
  have hnm := (name_of_methodNamed Bd.named Bd.method).1
  have X0 : Stand p l e ({ frames := 1, cells := 1, slots := 3, locals := 14 } : Room) s m #[] below meth c s₁ [] 0 0 := Stand.of_body Bd
  have e0 : s₁.heap = h0 := by rw [← hh, Bd.state]; rfl
  have N0 := Fr.nil n0
  have pre0 : ∀ t, Steps p.tables e below (s₁.setTop (mkF m 0 #[] [])) t → Steps p.tables e below (s₁.setTop (entryFrame m #[] 0)) t := fun t k => castTop (ef_rm2 m) k
  have z1 := H1.lt
  have z2 := H2.lt
  have KC0 : Keep h0 h0 [] := Keep.refl _ _
  obtain ⟨T3, X3, e3, st3⟩ := getS2 X0 hx hZ hown (host := "") (Or.inl (hw _ (List.mem_of_getElem? (i := 8) rfl))) Via.refl e0 H0 (g := (mkF m 0 #[] [])) rfl (hb hby d2_0)
  obtain ⟨cl4, Ar4, q4, S4, N4', H4, G4⟩ := id H1
  obtain ⟨T5, h5, X5, e5, E5, A5, D5, st5⟩ := cloneA X3 hx hZ hown (hw _ (List.mem_of_getElem? (i := 10) rfl)) (hw _ (List.mem_of_getElem? (i := 11) rfl)) (hw _ (List.mem_of_getElem? (i := 15) rfl)) (hw _ (List.mem_of_getElem? (i := 13) rfl)) (hw _ (List.mem_of_getElem? (i := 14) rfl)) (hw _ (List.mem_of_getElem? (i := 16) rfl)) e3 Ar4 H2 (fitC_of Ar4 fun i hi v hv => by rw [H4 i hi] at hv; cases hv; exact G4 i hi) (g := (mkF m 3 #[] [(.ref va)])) rfl (by rw [hml]; rfl) rfl (hb hby d2_3) (by decide) (W := 0) (cap := 3) (by show 2 * 0 + _ ≤ _; exact Nat.le_of_eq rfl) (by decide) (by rw [S4]; decide) (by decide) (by decide)
  obtain ⟨b5, g5⟩ : ∃ z, z = h0.size := ⟨_, rfl⟩
  rw [← g5] at A5 D5 st5
  have z6 := E5.1
  have KC7 : Keep h0 h5 [] := KC0.ext E5
  have V5 : Arv Z h5 b5 kk (.object "com/example/declarant/declarant/hire/DpaeStatus") (3 : Int32) [(.ref w0), (.ref w1), (.ref w2)] .null := ⟨_, A5, q4, S4, N4', H4, G4⟩
  have z8 := V5.lt
  obtain ⟨T9, X9, e9, st9⟩ := castY X5 hx hZ hown (hw _ (List.mem_of_getElem? (i := 21) rfl)) e5 (Ins.self D5) (g := (mkF m 6 #[] [(.ref b5)])) rfl rfl (hb hby d2_6)
  obtain ⟨fs, hr, hrun, hended, hW, hsame⟩ := X9.leave (v := some (.ref b5)) (fun h => by rw [Bd.returns] at h; cases h)
  refine ⟨_, _, pre0 _ ?_, hrun, hended, _, _, rfl, ?_, ⟨_, rfl⟩, hW, hsame.mono (by decide) (by decide)⟩
  · show Steps p.tables e below (s₁.setTop (mkF m 0 #[] [])) _
    refine st3 _ ?_
    show Steps p.tables e below (T3.setTop (mkF m 3 #[] [(.ref va)])) _
    refine st5 _ ?_
    show Steps p.tables e below (T5.setTop (mkF m 6 #[] [(.ref b5)])) _
    refine st9 _ ?_
    show Steps p.tables e below (T9.setTop (mkF m 9 #[] [(.ref b5)])) _
    jvm_step X9.here [X9.here.top, hx, (hb hby d2_9), X9.method', Bd.returns, Value.isRef, FieldType.isReference]
    first | (intro acts; rw [hr _ acts rfl rfl rfl]) | rw [hr _ _ rfl rfl rfl]
    exact Steps.refl _
  · show Qrm2 Z va kk w0 w1 w2 h0 n0 _ T9.heap _
    rw [e9]
    exact ⟨b5, rfl, N0, KC7, V5⟩
theorem d1_0 : decode prog_12_method_6_code 0 = .ok (.invokestatic 40, 3) := by decide +kernel
theorem pd_0 : parseMethodDescriptor "()[Lcom/example/declarant/declarant/hire/DpaeStatus;" = some ⟨[], some (.array (.object "com/example/declarant/declarant/hire/DpaeStatus"))⟩ := by decide +kernel
theorem d1_3 : decode prog_12_method_6_code 3 = .ok (.astore_n 1, 1) := by decide +kernel
theorem d1_4 : decode prog_12_method_6_code 4 = .ok (.aload_n 1, 1) := by decide +kernel
theorem d1_5 : decode prog_12_method_6_code 5 = .ok (.arraylength, 1) := by decide +kernel
theorem d1_6 : decode prog_12_method_6_code 6 = .ok (.istore_n 2, 1) := by decide +kernel
theorem d1_7 : decode prog_12_method_6_code 7 = .ok (.iconst 0, 1) := by decide +kernel
theorem d1_8 : decode prog_12_method_6_code 8 = .ok (.istore_n 3, 1) := by decide +kernel
theorem d1_9 : decode prog_12_method_6_code 9 = .ok (.iload_n 3, 1) := by decide +kernel
theorem d1_10 : decode prog_12_method_6_code 10 = .ok (.iload_n 2, 1) := by decide +kernel
theorem d1_11 : decode prog_12_method_6_code 11 = .ok (.if_icmp .ge 26, 3) := by decide +kernel
theorem d1_14 : decode prog_12_method_6_code 14 = .ok (.aload_n 1, 1) := by decide +kernel
theorem d1_15 : decode prog_12_method_6_code 15 = .ok (.iload_n 3, 1) := by decide +kernel
theorem d1_16 : decode prog_12_method_6_code 16 = .ok (.aaload, 1) := by decide +kernel
theorem d1_17 : decode prog_12_method_6_code 17 = .ok (.astore 4, 2) := by decide +kernel
theorem d1_19 : decode prog_12_method_6_code 19 = .ok (.aload 4, 2) := by decide +kernel
theorem d1_21 : decode prog_12_method_6_code 21 = .ok (.getfield 32, 3) := by decide +kernel
theorem d1_24 : decode prog_12_method_6_code 24 = .ok (.iload_n 0, 1) := by decide +kernel
theorem d1_25 : decode prog_12_method_6_code 25 = .ok (.if_icmp .ne 6, 3) := by decide +kernel
theorem d1_28 : decode prog_12_method_6_code 28 = .ok (.aload 4, 2) := by decide +kernel
theorem d1_30 : decode prog_12_method_6_code 30 = .ok (.areturn, 1) := by decide +kernel
theorem ef_rm10 (m : MethodId)  : entryFrame m #[(.int (0 : Int32))] 5 = mkF m 0 #[.val (.int (0 : Int32)), .unset, .unset, .unset, .unset] [] := by first | (simp [entryFrame, mkF, argsToLocals, Value.category]; done) | rfl
def Qrm10 (Z : State) (va : Addr) (kk : ClassId) (w0 : Addr) (w1 : Addr) (w2 : Addr) (h0 : Heap) (n0 : Nat) (v : Option Value) (h : Heap) (L : List Loc) : Prop := v = some (.ref w0) ∧ Fr n0 L ∧ Keep h0 h []
set_option maxRecDepth 65536 in
set_option maxHeartbeats 40000000 in
theorem rm10 (l : Launch) (Z : State) (a0 : Array Value) (hw : ∀ d ∈ tables_1, d.before a0 Z = true) (ws : List Jvm.Cond) (va : Addr) (kk : ClassId) (w0 : Addr) (w1 : Addr) (w2 : Addr) (h0 : Heap) (n0 : Nat) (Z0 : n0 ≤ h0.size) (H0 : Sta Z h0 "com/example/declarant/declarant/hire/DpaeStatus" "$VALUES" "[Lcom/example/declarant/declarant/hire/DpaeStatus;" (.ref va)) (H1 : Arv Z h0 va kk (.object "com/example/declarant/declarant/hire/DpaeStatus") (3 : Int32) [(.ref w0), (.ref w1), (.ref w2)] .null) (H2 : Exa Z h0 va "[Lcom/example/declarant/declarant/hire/DpaeStatus;") (H3 : Fld Z h0 w0 "com/example/declarant/declarant/hire/DpaeStatus" "code" "I" (.int (0 : Int32))) (H4 : Fld Z h0 w1 "com/example/declarant/declarant/hire/DpaeStatus" "code" "I" (.int (1 : Int32))) (H5 : Fld Z h0 w2 "com/example/declarant/declarant/hire/DpaeStatus" "code" "I" (.int (2 : Int32))) :
    MetFree l (⟨"com/example/declarant/declarant/hire/DpaeStatus", "ofCode", "(I)Lcom/example/declarant/declarant/hire/DpaeStatus;"⟩ : MethodName) (head1 (Jvm.Cond.code (⟨"com/example/declarant/declarant/hire/DpaeStatus", "ofCode", "(I)Lcom/example/declarant/declarant/hire/DpaeStatus;"⟩ : MethodName) prog_12_method_6_code 5 (some (.object "com/example/declarant/declarant/hire/DpaeStatus")) :: ws) ({ frames := 2, cells := 1, slots := 3, locals := 25 } : Room)) (fun a U => a = #[(.int (0 : Int32))] ∧ Z.Warmed39 U.vm ∧ U.heap = h0) (fun _ _ _ _ _ => True) (fun _ U o U' => ∃ v L, o = .returned v ∧ Qrm10 Z va kk w0 w1 w2 h0 n0 v U'.heap L ∧ FrameEnd U o U' L ({ frames := 2, cells := 1, slots := 3, locals := 25 } : Room).cells ({ frames := 2, cells := 1, slots := 3, locals := 25 } : Room).slots) := by
  refine MetFree.of_bodySF (plainFor_of_name pn_2) hisR ?_
  intro p e s m args below meth c s₁ Bd hml0 hP hK
  obtain ⟨rfl, hZ, hh⟩ := hP
  have hx := Bd.exec
  have hby := Bd.bytes
  have hml : c.maxLocals = 5 := hml0
  have hown : s.vm.findClass "com/example/declarant/declarant/hire/DpaeStatus" = some m.cls := findClass_of_methodNamed Bd.named
  have hnm := (name_of_methodNamed Bd.named Bd.method).1
  have X0 : Stand p l e ({ frames := 2, cells := 1, slots := 3, locals := 25 } : Room) s m #[(.int (0 : Int32))] below meth c s₁ [] 0 0 := Stand.of_body Bd
  have e0 : s₁.heap = h0 := by rw [← hh, Bd.state]; rfl
  have N0 := Fr.nil n0
  have pre0 : ∀ t, Steps p.tables e below (s₁.setTop (mkF m 0 #[.val (.int (0 : Int32)), .unset, .unset, .unset, .unset] [])) t → Steps p.tables e below (s₁.setTop (entryFrame m #[(.int (0 : Int32))] 5)) t := fun t k => castTop (ef_rm10 m) k
  have z10 := H1.lt
  have z11 := H2.lt
  have z12 := H3.lt
  have z13 := H4.lt
  have z14 := H5.lt
  have KC0 : Keep h0 h0 [] := Keep.refl _ _
  obtain ⟨_, _, ⟨T15, L15, k15, n15⟩, -, X15, ⟨Lc15, hQ15, l15, y15, z15⟩, st15⟩ := Jvm.LawKit.callS X0 hx (y := (⟨"com/example/declarant/declarant/hire/DpaeStatus", "values", "()[Lcom/example/declarant/declarant/hire/DpaeStatus;"⟩ : MethodName)) hown (mvT hZ (hw _ (List.mem_of_getElem? (i := 5) rfl))) (mvT hZ (hw _ (List.mem_of_getElem? (i := 6) rfl))) (mvT hZ (hw _ (List.mem_of_getElem? (i := 3) rfl))) (mvT hZ (hw _ (List.mem_of_getElem? (i := 7) rfl))) (by decide) (backOf (W := 0) (rm2 l Z a0 hw [] va kk w0 w1 w2 h0 n0 (by omega) H0 H1 H2) hZ (hw _ (List.mem_of_getElem? (i := 7) rfl)) (hw _ (List.mem_of_getElem? (i := 3) rfl)) (by decide) (by decide)) (g := (mkF m 0 #[.val (.int (0 : Int32)), .unset, .unset, .unset, .unset] [])) rfl (by rw [hml]; rfl) (argsL := []) (rest := []) (lenOf pd_0 rfl) rfl (by show 2 * 0 + _ ≤ _; exact Nat.le_of_eq rfl) (hb hby d1_0) (fun _ _ => ⟨rfl, e0, (by decide : 0 + 1 ≤ _), (by decide : 0 + 3 ≤ _)⟩)
  dsimp only [Pt.U, Pt.locs, Pt.cells, Pt.slots] at X15 l15 y15 z15 st15 hQ15
  subst l15 y15 z15
  obtain ⟨r_15, rfl, N15q, K15, P15_0⟩ := hQ15
  have N15 := Fr.app N0 N15q
  have z16 := K15.1
  have KC17 : Keep h0 T15.heap [] := KC0.trans K15 all0
  have z18 := P15_0.lt
  obtain ⟨cl19, Ar19, q19, S19, N19', H19, G19⟩ := id P15_0
  obtain ⟨cl20, Ar20, q20, S20, N20', H20, G20⟩ := id P15_0
  have hin20 : ¬ ((0 : Int32) < 0 ∨ cl20.slots.size ≤ ((0 : Int32)).toNatClampNeg) := inb_of S20 ⟨by decide, by decide⟩
  have hat20 : cl20.slots[((0 : Int32)).toNatClampNeg]? = some (.ref w0) := H20.at hin20 rfl
  have Fc21 := (H3.keep K15 nin0)
  obtain ⟨T22, X22, e22, st22⟩ := getF X15 hx hZ hown (host := "") (Or.inl (hw _ (List.mem_of_getElem? (i := 23) rfl))) Via.refl rfl Fc21 (g := (mkF m 21 #[.val (.int (0 : Int32)), .val (.ref r_15), .val (.int (3 : Int32)), .val (.int (0 : Int32)), .val (.ref w0)] [(.ref w0)])) rfl rfl (hb hby d1_21)
  obtain ⟨fs, hr, hrun, hended, hW, hsame⟩ := X22.leave (v := some (.ref w0)) (fun h => by rw [Bd.returns] at h; cases h)
  refine ⟨_, _, pre0 _ ?_, hrun, hended, _, _, rfl, ?_, ⟨_, rfl⟩, hW, hsame.mono (by decide) (by decide)⟩
  · show Steps p.tables e below (s₁.setTop (mkF m 0 #[.val (.int (0 : Int32)), .unset, .unset, .unset, .unset] [])) _
    refine st15 _ ?_
    show Steps p.tables e below (T15.setTop (mkF m 3 #[.val (.int (0 : Int32)), .unset, .unset, .unset, .unset] [(.ref r_15)])) _
    refine XS.astoreN X15.here hx rfl (hb hby d1_3) rfl rfl (l' := #[.val (.int (0 : Int32)), .val (.ref r_15), .unset, .unset, .unset]) rfl ?_
    show Steps p.tables e below (T15.setTop (mkF m 4 #[.val (.int (0 : Int32)), .val (.ref r_15), .unset, .unset, .unset] [])) _
    refine XS.aloadN X15.here hx rfl (hb hby d1_4) rfl rfl ?_
    show Steps p.tables e below (T15.setTop (mkF m 5 #[.val (.int (0 : Int32)), .val (.ref r_15), .unset, .unset, .unset] [(.ref r_15)])) _
    refine X15.arraylength hx Ar19.1 (State.isArrayOf_alike hZ.alike Ar19.2.1) (g := (mkF m 5 #[.val (.int (0 : Int32)), .val (.ref r_15), .unset, .unset, .unset] [(.ref r_15)])) rfl rfl (hb hby d1_5) _ ?_
    rw [len_of S19 N19']
    show Steps p.tables e below (T15.setTop (mkF m 6 #[.val (.int (0 : Int32)), .val (.ref r_15), .unset, .unset, .unset] [(.int (3 : Int32))])) _
    refine XS.istoreN X15.here hx rfl (hb hby d1_6) rfl (l' := #[.val (.int (0 : Int32)), .val (.ref r_15), .val (.int (3 : Int32)), .unset, .unset]) rfl ?_
    show Steps p.tables e below (T15.setTop (mkF m 7 #[.val (.int (0 : Int32)), .val (.ref r_15), .val (.int (3 : Int32)), .unset, .unset] [])) _
    refine XS.iconst X15.here hx rfl (hb hby d1_7) ?_
    show Steps p.tables e below (T15.setTop (mkF m 8 #[.val (.int (0 : Int32)), .val (.ref r_15), .val (.int (3 : Int32)), .unset, .unset] [(.int (0 : Int32))])) _
    refine XS.istoreN X15.here hx rfl (hb hby d1_8) rfl (l' := #[.val (.int (0 : Int32)), .val (.ref r_15), .val (.int (3 : Int32)), .val (.int (0 : Int32)), .unset]) rfl ?_
    show Steps p.tables e below (T15.setTop (mkF m 9 #[.val (.int (0 : Int32)), .val (.ref r_15), .val (.int (3 : Int32)), .val (.int (0 : Int32)), .unset] [])) _
    refine XS.iloadN X15.here hx rfl (hb hby d1_9) rfl ?_
    show Steps p.tables e below (T15.setTop (mkF m 10 #[.val (.int (0 : Int32)), .val (.ref r_15), .val (.int (3 : Int32)), .val (.int (0 : Int32)), .unset] [(.int (0 : Int32))])) _
    refine XS.iloadN X15.here hx rfl (hb hby d1_10) rfl ?_
    show Steps p.tables e below (T15.setTop (mkF m 11 #[.val (.int (0 : Int32)), .val (.ref r_15), .val (.int (3 : Int32)), .val (.int (0 : Int32)), .unset] [(.int (3 : Int32)), (.int (0 : Int32))])) _
    refine XS.icmpNo X15.here hx rfl (hb hby d1_11) rfl (tlt (by decide : (0 : Int32) < (3 : Int32))).2.1 ?_
    show Steps p.tables e below (T15.setTop (mkF m 14 #[.val (.int (0 : Int32)), .val (.ref r_15), .val (.int (3 : Int32)), .val (.int (0 : Int32)), .unset] [])) _
    refine XS.aloadN X15.here hx rfl (hb hby d1_14) rfl rfl ?_
    show Steps p.tables e below (T15.setTop (mkF m 15 #[.val (.int (0 : Int32)), .val (.ref r_15), .val (.int (3 : Int32)), .val (.int (0 : Int32)), .unset] [(.ref r_15)])) _
    refine XS.iloadN X15.here hx rfl (hb hby d1_15) rfl ?_
    show Steps p.tables e below (T15.setTop (mkF m 16 #[.val (.int (0 : Int32)), .val (.ref r_15), .val (.int (3 : Int32)), .val (.int (0 : Int32)), .unset] [(.int (0 : Int32)), (.ref r_15)])) _
    refine X15.aaload hx (j := (0 : Int32)) (v := (.ref w0)) Ar20.1 (State.isArrayOf_alike hZ.alike Ar20.2.1) rfl Ar20.2.2 hin20 hat20 (g := (mkF m 16 #[.val (.int (0 : Int32)), .val (.ref r_15), .val (.int (3 : Int32)), .val (.int (0 : Int32)), .unset] [(.int (0 : Int32)), (.ref r_15)])) rfl rfl (hb hby d1_16) _ ?_
    show Steps p.tables e below (T15.setTop (mkF m 17 #[.val (.int (0 : Int32)), .val (.ref r_15), .val (.int (3 : Int32)), .val (.int (0 : Int32)), .unset] [(.ref w0)])) _
    refine XS.astore X15.here hx rfl (hb hby d1_17) rfl rfl (l' := #[.val (.int (0 : Int32)), .val (.ref r_15), .val (.int (3 : Int32)), .val (.int (0 : Int32)), .val (.ref w0)]) rfl ?_
    show Steps p.tables e below (T15.setTop (mkF m 19 #[.val (.int (0 : Int32)), .val (.ref r_15), .val (.int (3 : Int32)), .val (.int (0 : Int32)), .val (.ref w0)] [])) _
    refine XS.aload X15.here hx rfl (hb hby d1_19) rfl rfl ?_
    show Steps p.tables e below (T15.setTop (mkF m 21 #[.val (.int (0 : Int32)), .val (.ref r_15), .val (.int (3 : Int32)), .val (.int (0 : Int32)), .val (.ref w0)] [(.ref w0)])) _
    refine st22 _ ?_
    show Steps p.tables e below (T22.setTop (mkF m 24 #[.val (.int (0 : Int32)), .val (.ref r_15), .val (.int (3 : Int32)), .val (.int (0 : Int32)), .val (.ref w0)] [(.int (0 : Int32))])) _
    refine XS.iloadN X22.here hx rfl (hb hby d1_24) rfl ?_
    show Steps p.tables e below (T22.setTop (mkF m 25 #[.val (.int (0 : Int32)), .val (.ref r_15), .val (.int (3 : Int32)), .val (.int (0 : Int32)), .val (.ref w0)] [(.int (0 : Int32)), (.int (0 : Int32))])) _
    refine XS.icmpNo X22.here hx rfl (hb hby d1_25) rfl (teq (by decide : (0 : Int32) = (0 : Int32))).2 ?_
    show Steps p.tables e below (T22.setTop (mkF m 28 #[.val (.int (0 : Int32)), .val (.ref r_15), .val (.int (3 : Int32)), .val (.int (0 : Int32)), .val (.ref w0)] [])) _
    refine XS.aload X22.here hx rfl (hb hby d1_28) rfl rfl ?_
    show Steps p.tables e below (T22.setTop (mkF m 30 #[.val (.int (0 : Int32)), .val (.ref r_15), .val (.int (3 : Int32)), .val (.int (0 : Int32)), .val (.ref w0)] [(.ref w0)])) _
    jvm_step X22.here [X22.here.top, hx, (hb hby d1_30), X22.method', Bd.returns, Value.isRef, FieldType.isReference]
    first | (intro acts; rw [hr _ acts rfl rfl rfl]) | rw [hr _ _ rfl rfl rfl]
    exact Steps.refl _
  · show Qrm10 Z va kk w0 w1 w2 h0 n0 _ T22.heap _
    rw [e22]
    exact ⟨rfl, N15, KC17⟩
theorem d1_31 : decode prog_12_method_6_code 31 = .ok (.iinc 3 1, 3) := by decide +kernel
theorem d1_34 : decode prog_12_method_6_code 34 = .ok (.goto (-25), 3) := by decide +kernel
theorem ef_rm11 (m : MethodId)  : entryFrame m #[(.int (1 : Int32))] 5 = mkF m 0 #[.val (.int (1 : Int32)), .unset, .unset, .unset, .unset] [] := by first | (simp [entryFrame, mkF, argsToLocals, Value.category]; done) | rfl
def Qrm11 (Z : State) (va : Addr) (kk : ClassId) (w0 : Addr) (w1 : Addr) (w2 : Addr) (h0 : Heap) (n0 : Nat) (v : Option Value) (h : Heap) (L : List Loc) : Prop := v = some (.ref w1) ∧ Fr n0 L ∧ Keep h0 h []
set_option maxRecDepth 65536 in
set_option maxHeartbeats 40000000 in
theorem rm11 (l : Launch) (Z : State) (a0 : Array Value) (hw : ∀ d ∈ tables_1, d.before a0 Z = true) (ws : List Jvm.Cond) (va : Addr) (kk : ClassId) (w0 : Addr) (w1 : Addr) (w2 : Addr) (h0 : Heap) (n0 : Nat) (Z0 : n0 ≤ h0.size) (H0 : Sta Z h0 "com/example/declarant/declarant/hire/DpaeStatus" "$VALUES" "[Lcom/example/declarant/declarant/hire/DpaeStatus;" (.ref va)) (H1 : Arv Z h0 va kk (.object "com/example/declarant/declarant/hire/DpaeStatus") (3 : Int32) [(.ref w0), (.ref w1), (.ref w2)] .null) (H2 : Exa Z h0 va "[Lcom/example/declarant/declarant/hire/DpaeStatus;") (H3 : Fld Z h0 w0 "com/example/declarant/declarant/hire/DpaeStatus" "code" "I" (.int (0 : Int32))) (H4 : Fld Z h0 w1 "com/example/declarant/declarant/hire/DpaeStatus" "code" "I" (.int (1 : Int32))) (H5 : Fld Z h0 w2 "com/example/declarant/declarant/hire/DpaeStatus" "code" "I" (.int (2 : Int32))) :
    MetFree l (⟨"com/example/declarant/declarant/hire/DpaeStatus", "ofCode", "(I)Lcom/example/declarant/declarant/hire/DpaeStatus;"⟩ : MethodName) (head1 (Jvm.Cond.code (⟨"com/example/declarant/declarant/hire/DpaeStatus", "ofCode", "(I)Lcom/example/declarant/declarant/hire/DpaeStatus;"⟩ : MethodName) prog_12_method_6_code 5 (some (.object "com/example/declarant/declarant/hire/DpaeStatus")) :: ws) ({ frames := 2, cells := 1, slots := 3, locals := 25 } : Room)) (fun a U => a = #[(.int (1 : Int32))] ∧ Z.Warmed39 U.vm ∧ U.heap = h0) (fun _ _ _ _ _ => True) (fun _ U o U' => ∃ v L, o = .returned v ∧ Qrm11 Z va kk w0 w1 w2 h0 n0 v U'.heap L ∧ FrameEnd U o U' L ({ frames := 2, cells := 1, slots := 3, locals := 25 } : Room).cells ({ frames := 2, cells := 1, slots := 3, locals := 25 } : Room).slots) := by
  refine MetFree.of_bodySF (plainFor_of_name pn_2) hisR ?_
  intro p e s m args below meth c s₁ Bd hml0 hP hK
  obtain ⟨rfl, hZ, hh⟩ := hP
  have hx := Bd.exec
  have hby := Bd.bytes
  have hml : c.maxLocals = 5 := hml0
  have hown : s.vm.findClass "com/example/declarant/declarant/hire/DpaeStatus" = some m.cls := findClass_of_methodNamed Bd.named
  have hnm := (name_of_methodNamed Bd.named Bd.method).1
  have X0 : Stand p l e ({ frames := 2, cells := 1, slots := 3, locals := 25 } : Room) s m #[(.int (1 : Int32))] below meth c s₁ [] 0 0 := Stand.of_body Bd
  have e0 : s₁.heap = h0 := by rw [← hh, Bd.state]; rfl
  have N0 := Fr.nil n0
  have pre0 : ∀ t, Steps p.tables e below (s₁.setTop (mkF m 0 #[.val (.int (1 : Int32)), .unset, .unset, .unset, .unset] [])) t → Steps p.tables e below (s₁.setTop (entryFrame m #[(.int (1 : Int32))] 5)) t := fun t k => castTop (ef_rm11 m) k
  have z23 := H1.lt
  have z24 := H2.lt
  have z25 := H3.lt
  have z26 := H4.lt
  have z27 := H5.lt
  have KC0 : Keep h0 h0 [] := Keep.refl _ _
  obtain ⟨_, _, ⟨T28, L28, k28, n28⟩, -, X28, ⟨Lc28, hQ28, l28, y28, z28⟩, st28⟩ := Jvm.LawKit.callS X0 hx (y := (⟨"com/example/declarant/declarant/hire/DpaeStatus", "values", "()[Lcom/example/declarant/declarant/hire/DpaeStatus;"⟩ : MethodName)) hown (mvT hZ (hw _ (List.mem_of_getElem? (i := 5) rfl))) (mvT hZ (hw _ (List.mem_of_getElem? (i := 6) rfl))) (mvT hZ (hw _ (List.mem_of_getElem? (i := 3) rfl))) (mvT hZ (hw _ (List.mem_of_getElem? (i := 7) rfl))) (by decide) (backOf (W := 0) (rm2 l Z a0 hw [] va kk w0 w1 w2 h0 n0 (by omega) H0 H1 H2) hZ (hw _ (List.mem_of_getElem? (i := 7) rfl)) (hw _ (List.mem_of_getElem? (i := 3) rfl)) (by decide) (by decide)) (g := (mkF m 0 #[.val (.int (1 : Int32)), .unset, .unset, .unset, .unset] [])) rfl (by rw [hml]; rfl) (argsL := []) (rest := []) (lenOf pd_0 rfl) rfl (by show 2 * 0 + _ ≤ _; exact Nat.le_of_eq rfl) (hb hby d1_0) (fun _ _ => ⟨rfl, e0, (by decide : 0 + 1 ≤ _), (by decide : 0 + 3 ≤ _)⟩)
  dsimp only [Pt.U, Pt.locs, Pt.cells, Pt.slots] at X28 l28 y28 z28 st28 hQ28
  subst l28 y28 z28
  obtain ⟨r_28, rfl, N28q, K28, P28_0⟩ := hQ28
  have N28 := Fr.app N0 N28q
  have z29 := K28.1
  have KC30 : Keep h0 T28.heap [] := KC0.trans K28 all0
  have z31 := P28_0.lt
  obtain ⟨cl32, Ar32, q32, S32, N32', H32, G32⟩ := id P28_0
  obtain ⟨cl33, Ar33, q33, S33, N33', H33, G33⟩ := id P28_0
  have hin33 : ¬ ((0 : Int32) < 0 ∨ cl33.slots.size ≤ ((0 : Int32)).toNatClampNeg) := inb_of S33 ⟨by decide, by decide⟩
  have hat33 : cl33.slots[((0 : Int32)).toNatClampNeg]? = some (.ref w0) := H33.at hin33 rfl
  have Fc34 := (H3.keep K28 nin0)
  obtain ⟨T35, X35, e35, st35⟩ := getF X28 hx hZ hown (host := "") (Or.inl (hw _ (List.mem_of_getElem? (i := 23) rfl))) Via.refl rfl Fc34 (g := (mkF m 21 #[.val (.int (1 : Int32)), .val (.ref r_28), .val (.int (3 : Int32)), .val (.int (0 : Int32)), .val (.ref w0)] [(.ref w0)])) rfl rfl (hb hby d1_21)
  obtain ⟨cl36, Ar36, q36, S36, N36', H36, G36⟩ := id P28_0
  have hin36 : ¬ ((1 : Int32) < 0 ∨ cl36.slots.size ≤ ((1 : Int32)).toNatClampNeg) := inb_of S36 ⟨by decide, by decide⟩
  have hat36 : cl36.slots[((1 : Int32)).toNatClampNeg]? = some (.ref w1) := H36.at hin36 rfl
  have Fc37 := (H4.keep K28 nin0)
  obtain ⟨T38, X38, e38, st38⟩ := getF X35 hx hZ hown (host := "") (Or.inl (hw _ (List.mem_of_getElem? (i := 23) rfl))) Via.refl e35 Fc37 (g := (mkF m 21 #[.val (.int (1 : Int32)), .val (.ref r_28), .val (.int (3 : Int32)), .val (.int (1 : Int32)), .val (.ref w1)] [(.ref w1)])) rfl rfl (hb hby d1_21)
  obtain ⟨fs, hr, hrun, hended, hW, hsame⟩ := X38.leave (v := some (.ref w1)) (fun h => by rw [Bd.returns] at h; cases h)
  refine ⟨_, _, pre0 _ ?_, hrun, hended, _, _, rfl, ?_, ⟨_, rfl⟩, hW, hsame.mono (by decide) (by decide)⟩
  · show Steps p.tables e below (s₁.setTop (mkF m 0 #[.val (.int (1 : Int32)), .unset, .unset, .unset, .unset] [])) _
    refine st28 _ ?_
    show Steps p.tables e below (T28.setTop (mkF m 3 #[.val (.int (1 : Int32)), .unset, .unset, .unset, .unset] [(.ref r_28)])) _
    refine XS.astoreN X28.here hx rfl (hb hby d1_3) rfl rfl (l' := #[.val (.int (1 : Int32)), .val (.ref r_28), .unset, .unset, .unset]) rfl ?_
    show Steps p.tables e below (T28.setTop (mkF m 4 #[.val (.int (1 : Int32)), .val (.ref r_28), .unset, .unset, .unset] [])) _
    refine XS.aloadN X28.here hx rfl (hb hby d1_4) rfl rfl ?_
    show Steps p.tables e below (T28.setTop (mkF m 5 #[.val (.int (1 : Int32)), .val (.ref r_28), .unset, .unset, .unset] [(.ref r_28)])) _
    refine X28.arraylength hx Ar32.1 (State.isArrayOf_alike hZ.alike Ar32.2.1) (g := (mkF m 5 #[.val (.int (1 : Int32)), .val (.ref r_28), .unset, .unset, .unset] [(.ref r_28)])) rfl rfl (hb hby d1_5) _ ?_
    rw [len_of S32 N32']
    show Steps p.tables e below (T28.setTop (mkF m 6 #[.val (.int (1 : Int32)), .val (.ref r_28), .unset, .unset, .unset] [(.int (3 : Int32))])) _
    refine XS.istoreN X28.here hx rfl (hb hby d1_6) rfl (l' := #[.val (.int (1 : Int32)), .val (.ref r_28), .val (.int (3 : Int32)), .unset, .unset]) rfl ?_
    show Steps p.tables e below (T28.setTop (mkF m 7 #[.val (.int (1 : Int32)), .val (.ref r_28), .val (.int (3 : Int32)), .unset, .unset] [])) _
    refine XS.iconst X28.here hx rfl (hb hby d1_7) ?_
    show Steps p.tables e below (T28.setTop (mkF m 8 #[.val (.int (1 : Int32)), .val (.ref r_28), .val (.int (3 : Int32)), .unset, .unset] [(.int (0 : Int32))])) _
    refine XS.istoreN X28.here hx rfl (hb hby d1_8) rfl (l' := #[.val (.int (1 : Int32)), .val (.ref r_28), .val (.int (3 : Int32)), .val (.int (0 : Int32)), .unset]) rfl ?_
    show Steps p.tables e below (T28.setTop (mkF m 9 #[.val (.int (1 : Int32)), .val (.ref r_28), .val (.int (3 : Int32)), .val (.int (0 : Int32)), .unset] [])) _
    refine XS.iloadN X28.here hx rfl (hb hby d1_9) rfl ?_
    show Steps p.tables e below (T28.setTop (mkF m 10 #[.val (.int (1 : Int32)), .val (.ref r_28), .val (.int (3 : Int32)), .val (.int (0 : Int32)), .unset] [(.int (0 : Int32))])) _
    refine XS.iloadN X28.here hx rfl (hb hby d1_10) rfl ?_
    show Steps p.tables e below (T28.setTop (mkF m 11 #[.val (.int (1 : Int32)), .val (.ref r_28), .val (.int (3 : Int32)), .val (.int (0 : Int32)), .unset] [(.int (3 : Int32)), (.int (0 : Int32))])) _
    refine XS.icmpNo X28.here hx rfl (hb hby d1_11) rfl (tlt (by decide : (0 : Int32) < (3 : Int32))).2.1 ?_
    show Steps p.tables e below (T28.setTop (mkF m 14 #[.val (.int (1 : Int32)), .val (.ref r_28), .val (.int (3 : Int32)), .val (.int (0 : Int32)), .unset] [])) _
    refine XS.aloadN X28.here hx rfl (hb hby d1_14) rfl rfl ?_
    show Steps p.tables e below (T28.setTop (mkF m 15 #[.val (.int (1 : Int32)), .val (.ref r_28), .val (.int (3 : Int32)), .val (.int (0 : Int32)), .unset] [(.ref r_28)])) _
    refine XS.iloadN X28.here hx rfl (hb hby d1_15) rfl ?_
    show Steps p.tables e below (T28.setTop (mkF m 16 #[.val (.int (1 : Int32)), .val (.ref r_28), .val (.int (3 : Int32)), .val (.int (0 : Int32)), .unset] [(.int (0 : Int32)), (.ref r_28)])) _
    refine X28.aaload hx (j := (0 : Int32)) (v := (.ref w0)) Ar33.1 (State.isArrayOf_alike hZ.alike Ar33.2.1) rfl Ar33.2.2 hin33 hat33 (g := (mkF m 16 #[.val (.int (1 : Int32)), .val (.ref r_28), .val (.int (3 : Int32)), .val (.int (0 : Int32)), .unset] [(.int (0 : Int32)), (.ref r_28)])) rfl rfl (hb hby d1_16) _ ?_
    show Steps p.tables e below (T28.setTop (mkF m 17 #[.val (.int (1 : Int32)), .val (.ref r_28), .val (.int (3 : Int32)), .val (.int (0 : Int32)), .unset] [(.ref w0)])) _
    refine XS.astore X28.here hx rfl (hb hby d1_17) rfl rfl (l' := #[.val (.int (1 : Int32)), .val (.ref r_28), .val (.int (3 : Int32)), .val (.int (0 : Int32)), .val (.ref w0)]) rfl ?_
    show Steps p.tables e below (T28.setTop (mkF m 19 #[.val (.int (1 : Int32)), .val (.ref r_28), .val (.int (3 : Int32)), .val (.int (0 : Int32)), .val (.ref w0)] [])) _
    refine XS.aload X28.here hx rfl (hb hby d1_19) rfl rfl ?_
    show Steps p.tables e below (T28.setTop (mkF m 21 #[.val (.int (1 : Int32)), .val (.ref r_28), .val (.int (3 : Int32)), .val (.int (0 : Int32)), .val (.ref w0)] [(.ref w0)])) _
    refine st35 _ ?_
    show Steps p.tables e below (T35.setTop (mkF m 24 #[.val (.int (1 : Int32)), .val (.ref r_28), .val (.int (3 : Int32)), .val (.int (0 : Int32)), .val (.ref w0)] [(.int (0 : Int32))])) _
    refine XS.iloadN X35.here hx rfl (hb hby d1_24) rfl ?_
    show Steps p.tables e below (T35.setTop (mkF m 25 #[.val (.int (1 : Int32)), .val (.ref r_28), .val (.int (3 : Int32)), .val (.int (0 : Int32)), .val (.ref w0)] [(.int (1 : Int32)), (.int (0 : Int32))])) _
    refine XS.icmpYes X35.here hx rfl (pc0 := 25) (pc' := 31) rfl (hb hby d1_25) rfl (feq (by decide : ¬ ((0 : Int32) = (1 : Int32)))).2 (by decide) (by decide) ?_
    show Steps p.tables e below (T35.setTop (mkF m 31 #[.val (.int (1 : Int32)), .val (.ref r_28), .val (.int (3 : Int32)), .val (.int (0 : Int32)), .val (.ref w0)] [])) _
    refine XS.iinc X35.here hx rfl (hb hby d1_31) rfl (l' := #[.val (.int (1 : Int32)), .val (.ref r_28), .val (.int (3 : Int32)), .val (.int (1 : Int32)), .val (.ref w0)]) rfl ?_
    show Steps p.tables e below (T35.setTop (mkF m 34 #[.val (.int (1 : Int32)), .val (.ref r_28), .val (.int (3 : Int32)), .val (.int (1 : Int32)), .val (.ref w0)] [])) _
    refine XS.goto X35.here hx rfl (pc0 := 34) (pc' := 9) rfl (hb hby d1_34) (by decide) (by decide) ?_
    show Steps p.tables e below (T35.setTop (mkF m 9 #[.val (.int (1 : Int32)), .val (.ref r_28), .val (.int (3 : Int32)), .val (.int (1 : Int32)), .val (.ref w0)] [])) _
    refine XS.iloadN X35.here hx rfl (hb hby d1_9) rfl ?_
    show Steps p.tables e below (T35.setTop (mkF m 10 #[.val (.int (1 : Int32)), .val (.ref r_28), .val (.int (3 : Int32)), .val (.int (1 : Int32)), .val (.ref w0)] [(.int (1 : Int32))])) _
    refine XS.iloadN X35.here hx rfl (hb hby d1_10) rfl ?_
    show Steps p.tables e below (T35.setTop (mkF m 11 #[.val (.int (1 : Int32)), .val (.ref r_28), .val (.int (3 : Int32)), .val (.int (1 : Int32)), .val (.ref w0)] [(.int (3 : Int32)), (.int (1 : Int32))])) _
    refine XS.icmpNo X35.here hx rfl (hb hby d1_11) rfl (tlt (by decide : (1 : Int32) < (3 : Int32))).2.1 ?_
    show Steps p.tables e below (T35.setTop (mkF m 14 #[.val (.int (1 : Int32)), .val (.ref r_28), .val (.int (3 : Int32)), .val (.int (1 : Int32)), .val (.ref w0)] [])) _
    refine XS.aloadN X35.here hx rfl (hb hby d1_14) rfl rfl ?_
    show Steps p.tables e below (T35.setTop (mkF m 15 #[.val (.int (1 : Int32)), .val (.ref r_28), .val (.int (3 : Int32)), .val (.int (1 : Int32)), .val (.ref w0)] [(.ref r_28)])) _
    refine XS.iloadN X35.here hx rfl (hb hby d1_15) rfl ?_
    show Steps p.tables e below (T35.setTop (mkF m 16 #[.val (.int (1 : Int32)), .val (.ref r_28), .val (.int (3 : Int32)), .val (.int (1 : Int32)), .val (.ref w0)] [(.int (1 : Int32)), (.ref r_28)])) _
    refine X35.aaload hx (j := (1 : Int32)) (v := (.ref w1)) (by rw [e35]; exact Ar36.1) (State.isArrayOf_alike hZ.alike Ar36.2.1) rfl Ar36.2.2 hin36 hat36 (g := (mkF m 16 #[.val (.int (1 : Int32)), .val (.ref r_28), .val (.int (3 : Int32)), .val (.int (1 : Int32)), .val (.ref w0)] [(.int (1 : Int32)), (.ref r_28)])) rfl rfl (hb hby d1_16) _ ?_
    show Steps p.tables e below (T35.setTop (mkF m 17 #[.val (.int (1 : Int32)), .val (.ref r_28), .val (.int (3 : Int32)), .val (.int (1 : Int32)), .val (.ref w0)] [(.ref w1)])) _
    refine XS.astore X35.here hx rfl (hb hby d1_17) rfl rfl (l' := #[.val (.int (1 : Int32)), .val (.ref r_28), .val (.int (3 : Int32)), .val (.int (1 : Int32)), .val (.ref w1)]) rfl ?_
    show Steps p.tables e below (T35.setTop (mkF m 19 #[.val (.int (1 : Int32)), .val (.ref r_28), .val (.int (3 : Int32)), .val (.int (1 : Int32)), .val (.ref w1)] [])) _
    refine XS.aload X35.here hx rfl (hb hby d1_19) rfl rfl ?_
    show Steps p.tables e below (T35.setTop (mkF m 21 #[.val (.int (1 : Int32)), .val (.ref r_28), .val (.int (3 : Int32)), .val (.int (1 : Int32)), .val (.ref w1)] [(.ref w1)])) _
    refine st38 _ ?_
    show Steps p.tables e below (T38.setTop (mkF m 24 #[.val (.int (1 : Int32)), .val (.ref r_28), .val (.int (3 : Int32)), .val (.int (1 : Int32)), .val (.ref w1)] [(.int (1 : Int32))])) _
    refine XS.iloadN X38.here hx rfl (hb hby d1_24) rfl ?_
    show Steps p.tables e below (T38.setTop (mkF m 25 #[.val (.int (1 : Int32)), .val (.ref r_28), .val (.int (3 : Int32)), .val (.int (1 : Int32)), .val (.ref w1)] [(.int (1 : Int32)), (.int (1 : Int32))])) _
    refine XS.icmpNo X38.here hx rfl (hb hby d1_25) rfl (teq (by decide : (1 : Int32) = (1 : Int32))).2 ?_
    show Steps p.tables e below (T38.setTop (mkF m 28 #[.val (.int (1 : Int32)), .val (.ref r_28), .val (.int (3 : Int32)), .val (.int (1 : Int32)), .val (.ref w1)] [])) _
    refine XS.aload X38.here hx rfl (hb hby d1_28) rfl rfl ?_
    show Steps p.tables e below (T38.setTop (mkF m 30 #[.val (.int (1 : Int32)), .val (.ref r_28), .val (.int (3 : Int32)), .val (.int (1 : Int32)), .val (.ref w1)] [(.ref w1)])) _
    jvm_step X38.here [X38.here.top, hx, (hb hby d1_30), X38.method', Bd.returns, Value.isRef, FieldType.isReference]
    first | (intro acts; rw [hr _ acts rfl rfl rfl]) | rw [hr _ _ rfl rfl rfl]
    exact Steps.refl _
  · show Qrm11 Z va kk w0 w1 w2 h0 n0 _ T38.heap _
    rw [e38]
    exact ⟨rfl, N28, KC30⟩
theorem ef_rm12 (m : MethodId)  : entryFrame m #[(.int (2 : Int32))] 5 = mkF m 0 #[.val (.int (2 : Int32)), .unset, .unset, .unset, .unset] [] := by first | (simp [entryFrame, mkF, argsToLocals, Value.category]; done) | rfl
def Qrm12 (Z : State) (va : Addr) (kk : ClassId) (w0 : Addr) (w1 : Addr) (w2 : Addr) (h0 : Heap) (n0 : Nat) (v : Option Value) (h : Heap) (L : List Loc) : Prop := v = some (.ref w2) ∧ Fr n0 L ∧ Keep h0 h []
set_option maxRecDepth 65536 in
set_option maxHeartbeats 40000000 in
theorem rm12 (l : Launch) (Z : State) (a0 : Array Value) (hw : ∀ d ∈ tables_1, d.before a0 Z = true) (ws : List Jvm.Cond) (va : Addr) (kk : ClassId) (w0 : Addr) (w1 : Addr) (w2 : Addr) (h0 : Heap) (n0 : Nat) (Z0 : n0 ≤ h0.size) (H0 : Sta Z h0 "com/example/declarant/declarant/hire/DpaeStatus" "$VALUES" "[Lcom/example/declarant/declarant/hire/DpaeStatus;" (.ref va)) (H1 : Arv Z h0 va kk (.object "com/example/declarant/declarant/hire/DpaeStatus") (3 : Int32) [(.ref w0), (.ref w1), (.ref w2)] .null) (H2 : Exa Z h0 va "[Lcom/example/declarant/declarant/hire/DpaeStatus;") (H3 : Fld Z h0 w0 "com/example/declarant/declarant/hire/DpaeStatus" "code" "I" (.int (0 : Int32))) (H4 : Fld Z h0 w1 "com/example/declarant/declarant/hire/DpaeStatus" "code" "I" (.int (1 : Int32))) (H5 : Fld Z h0 w2 "com/example/declarant/declarant/hire/DpaeStatus" "code" "I" (.int (2 : Int32))) :
    MetFree l (⟨"com/example/declarant/declarant/hire/DpaeStatus", "ofCode", "(I)Lcom/example/declarant/declarant/hire/DpaeStatus;"⟩ : MethodName) (head1 (Jvm.Cond.code (⟨"com/example/declarant/declarant/hire/DpaeStatus", "ofCode", "(I)Lcom/example/declarant/declarant/hire/DpaeStatus;"⟩ : MethodName) prog_12_method_6_code 5 (some (.object "com/example/declarant/declarant/hire/DpaeStatus")) :: ws) ({ frames := 2, cells := 1, slots := 3, locals := 25 } : Room)) (fun a U => a = #[(.int (2 : Int32))] ∧ Z.Warmed39 U.vm ∧ U.heap = h0) (fun _ _ _ _ _ => True) (fun _ U o U' => ∃ v L, o = .returned v ∧ Qrm12 Z va kk w0 w1 w2 h0 n0 v U'.heap L ∧ FrameEnd U o U' L ({ frames := 2, cells := 1, slots := 3, locals := 25 } : Room).cells ({ frames := 2, cells := 1, slots := 3, locals := 25 } : Room).slots) := by
  refine MetFree.of_bodySF (plainFor_of_name pn_2) hisR ?_
  intro p e s m args below meth c s₁ Bd hml0 hP hK
  obtain ⟨rfl, hZ, hh⟩ := hP
  have hx := Bd.exec
  have hby := Bd.bytes
  have hml : c.maxLocals = 5 := hml0
  have hown : s.vm.findClass "com/example/declarant/declarant/hire/DpaeStatus" = some m.cls := findClass_of_methodNamed Bd.named
  have hnm := (name_of_methodNamed Bd.named Bd.method).1
  have X0 : Stand p l e ({ frames := 2, cells := 1, slots := 3, locals := 25 } : Room) s m #[(.int (2 : Int32))] below meth c s₁ [] 0 0 := Stand.of_body Bd
  have e0 : s₁.heap = h0 := by rw [← hh, Bd.state]; rfl
  have N0 := Fr.nil n0
  have pre0 : ∀ t, Steps p.tables e below (s₁.setTop (mkF m 0 #[.val (.int (2 : Int32)), .unset, .unset, .unset, .unset] [])) t → Steps p.tables e below (s₁.setTop (entryFrame m #[(.int (2 : Int32))] 5)) t := fun t k => castTop (ef_rm12 m) k
  have z39 := H1.lt
  have z40 := H2.lt
  have z41 := H3.lt
  have z42 := H4.lt
  have z43 := H5.lt
  have KC0 : Keep h0 h0 [] := Keep.refl _ _
  obtain ⟨_, _, ⟨T44, L44, k44, n44⟩, -, X44, ⟨Lc44, hQ44, l44, y44, z44⟩, st44⟩ := Jvm.LawKit.callS X0 hx (y := (⟨"com/example/declarant/declarant/hire/DpaeStatus", "values", "()[Lcom/example/declarant/declarant/hire/DpaeStatus;"⟩ : MethodName)) hown (mvT hZ (hw _ (List.mem_of_getElem? (i := 5) rfl))) (mvT hZ (hw _ (List.mem_of_getElem? (i := 6) rfl))) (mvT hZ (hw _ (List.mem_of_getElem? (i := 3) rfl))) (mvT hZ (hw _ (List.mem_of_getElem? (i := 7) rfl))) (by decide) (backOf (W := 0) (rm2 l Z a0 hw [] va kk w0 w1 w2 h0 n0 (by omega) H0 H1 H2) hZ (hw _ (List.mem_of_getElem? (i := 7) rfl)) (hw _ (List.mem_of_getElem? (i := 3) rfl)) (by decide) (by decide)) (g := (mkF m 0 #[.val (.int (2 : Int32)), .unset, .unset, .unset, .unset] [])) rfl (by rw [hml]; rfl) (argsL := []) (rest := []) (lenOf pd_0 rfl) rfl (by show 2 * 0 + _ ≤ _; exact Nat.le_of_eq rfl) (hb hby d1_0) (fun _ _ => ⟨rfl, e0, (by decide : 0 + 1 ≤ _), (by decide : 0 + 3 ≤ _)⟩)
  dsimp only [Pt.U, Pt.locs, Pt.cells, Pt.slots] at X44 l44 y44 z44 st44 hQ44
  subst l44 y44 z44
  obtain ⟨r_44, rfl, N44q, K44, P44_0⟩ := hQ44
  have N44 := Fr.app N0 N44q
  have z45 := K44.1
  have KC46 : Keep h0 T44.heap [] := KC0.trans K44 all0
  have z47 := P44_0.lt
  obtain ⟨cl48, Ar48, q48, S48, N48', H48, G48⟩ := id P44_0
  obtain ⟨cl49, Ar49, q49, S49, N49', H49, G49⟩ := id P44_0
  have hin49 : ¬ ((0 : Int32) < 0 ∨ cl49.slots.size ≤ ((0 : Int32)).toNatClampNeg) := inb_of S49 ⟨by decide, by decide⟩
  have hat49 : cl49.slots[((0 : Int32)).toNatClampNeg]? = some (.ref w0) := H49.at hin49 rfl
  have Fc50 := (H3.keep K44 nin0)
  obtain ⟨T51, X51, e51, st51⟩ := getF X44 hx hZ hown (host := "") (Or.inl (hw _ (List.mem_of_getElem? (i := 23) rfl))) Via.refl rfl Fc50 (g := (mkF m 21 #[.val (.int (2 : Int32)), .val (.ref r_44), .val (.int (3 : Int32)), .val (.int (0 : Int32)), .val (.ref w0)] [(.ref w0)])) rfl rfl (hb hby d1_21)
  obtain ⟨cl52, Ar52, q52, S52, N52', H52, G52⟩ := id P44_0
  have hin52 : ¬ ((1 : Int32) < 0 ∨ cl52.slots.size ≤ ((1 : Int32)).toNatClampNeg) := inb_of S52 ⟨by decide, by decide⟩
  have hat52 : cl52.slots[((1 : Int32)).toNatClampNeg]? = some (.ref w1) := H52.at hin52 rfl
  have Fc53 := (H4.keep K44 nin0)
  obtain ⟨T54, X54, e54, st54⟩ := getF X51 hx hZ hown (host := "") (Or.inl (hw _ (List.mem_of_getElem? (i := 23) rfl))) Via.refl e51 Fc53 (g := (mkF m 21 #[.val (.int (2 : Int32)), .val (.ref r_44), .val (.int (3 : Int32)), .val (.int (1 : Int32)), .val (.ref w1)] [(.ref w1)])) rfl rfl (hb hby d1_21)
  obtain ⟨cl55, Ar55, q55, S55, N55', H55, G55⟩ := id P44_0
  have hin55 : ¬ ((2 : Int32) < 0 ∨ cl55.slots.size ≤ ((2 : Int32)).toNatClampNeg) := inb_of S55 ⟨by decide, by decide⟩
  have hat55 : cl55.slots[((2 : Int32)).toNatClampNeg]? = some (.ref w2) := H55.at hin55 rfl
  have Fc56 := (H5.keep K44 nin0)
  obtain ⟨T57, X57, e57, st57⟩ := getF X54 hx hZ hown (host := "") (Or.inl (hw _ (List.mem_of_getElem? (i := 23) rfl))) Via.refl e54 Fc56 (g := (mkF m 21 #[.val (.int (2 : Int32)), .val (.ref r_44), .val (.int (3 : Int32)), .val (.int (2 : Int32)), .val (.ref w2)] [(.ref w2)])) rfl rfl (hb hby d1_21)
  obtain ⟨fs, hr, hrun, hended, hW, hsame⟩ := X57.leave (v := some (.ref w2)) (fun h => by rw [Bd.returns] at h; cases h)
  refine ⟨_, _, pre0 _ ?_, hrun, hended, _, _, rfl, ?_, ⟨_, rfl⟩, hW, hsame.mono (by decide) (by decide)⟩
  · show Steps p.tables e below (s₁.setTop (mkF m 0 #[.val (.int (2 : Int32)), .unset, .unset, .unset, .unset] [])) _
    refine st44 _ ?_
    show Steps p.tables e below (T44.setTop (mkF m 3 #[.val (.int (2 : Int32)), .unset, .unset, .unset, .unset] [(.ref r_44)])) _
    refine XS.astoreN X44.here hx rfl (hb hby d1_3) rfl rfl (l' := #[.val (.int (2 : Int32)), .val (.ref r_44), .unset, .unset, .unset]) rfl ?_
    show Steps p.tables e below (T44.setTop (mkF m 4 #[.val (.int (2 : Int32)), .val (.ref r_44), .unset, .unset, .unset] [])) _
    refine XS.aloadN X44.here hx rfl (hb hby d1_4) rfl rfl ?_
    show Steps p.tables e below (T44.setTop (mkF m 5 #[.val (.int (2 : Int32)), .val (.ref r_44), .unset, .unset, .unset] [(.ref r_44)])) _
    refine X44.arraylength hx Ar48.1 (State.isArrayOf_alike hZ.alike Ar48.2.1) (g := (mkF m 5 #[.val (.int (2 : Int32)), .val (.ref r_44), .unset, .unset, .unset] [(.ref r_44)])) rfl rfl (hb hby d1_5) _ ?_
    rw [len_of S48 N48']
    show Steps p.tables e below (T44.setTop (mkF m 6 #[.val (.int (2 : Int32)), .val (.ref r_44), .unset, .unset, .unset] [(.int (3 : Int32))])) _
    refine XS.istoreN X44.here hx rfl (hb hby d1_6) rfl (l' := #[.val (.int (2 : Int32)), .val (.ref r_44), .val (.int (3 : Int32)), .unset, .unset]) rfl ?_
    show Steps p.tables e below (T44.setTop (mkF m 7 #[.val (.int (2 : Int32)), .val (.ref r_44), .val (.int (3 : Int32)), .unset, .unset] [])) _
    refine XS.iconst X44.here hx rfl (hb hby d1_7) ?_
    show Steps p.tables e below (T44.setTop (mkF m 8 #[.val (.int (2 : Int32)), .val (.ref r_44), .val (.int (3 : Int32)), .unset, .unset] [(.int (0 : Int32))])) _
    refine XS.istoreN X44.here hx rfl (hb hby d1_8) rfl (l' := #[.val (.int (2 : Int32)), .val (.ref r_44), .val (.int (3 : Int32)), .val (.int (0 : Int32)), .unset]) rfl ?_
    show Steps p.tables e below (T44.setTop (mkF m 9 #[.val (.int (2 : Int32)), .val (.ref r_44), .val (.int (3 : Int32)), .val (.int (0 : Int32)), .unset] [])) _
    refine XS.iloadN X44.here hx rfl (hb hby d1_9) rfl ?_
    show Steps p.tables e below (T44.setTop (mkF m 10 #[.val (.int (2 : Int32)), .val (.ref r_44), .val (.int (3 : Int32)), .val (.int (0 : Int32)), .unset] [(.int (0 : Int32))])) _
    refine XS.iloadN X44.here hx rfl (hb hby d1_10) rfl ?_
    show Steps p.tables e below (T44.setTop (mkF m 11 #[.val (.int (2 : Int32)), .val (.ref r_44), .val (.int (3 : Int32)), .val (.int (0 : Int32)), .unset] [(.int (3 : Int32)), (.int (0 : Int32))])) _
    refine XS.icmpNo X44.here hx rfl (hb hby d1_11) rfl (tlt (by decide : (0 : Int32) < (3 : Int32))).2.1 ?_
    show Steps p.tables e below (T44.setTop (mkF m 14 #[.val (.int (2 : Int32)), .val (.ref r_44), .val (.int (3 : Int32)), .val (.int (0 : Int32)), .unset] [])) _
    refine XS.aloadN X44.here hx rfl (hb hby d1_14) rfl rfl ?_
    show Steps p.tables e below (T44.setTop (mkF m 15 #[.val (.int (2 : Int32)), .val (.ref r_44), .val (.int (3 : Int32)), .val (.int (0 : Int32)), .unset] [(.ref r_44)])) _
    refine XS.iloadN X44.here hx rfl (hb hby d1_15) rfl ?_
    show Steps p.tables e below (T44.setTop (mkF m 16 #[.val (.int (2 : Int32)), .val (.ref r_44), .val (.int (3 : Int32)), .val (.int (0 : Int32)), .unset] [(.int (0 : Int32)), (.ref r_44)])) _
    refine X44.aaload hx (j := (0 : Int32)) (v := (.ref w0)) Ar49.1 (State.isArrayOf_alike hZ.alike Ar49.2.1) rfl Ar49.2.2 hin49 hat49 (g := (mkF m 16 #[.val (.int (2 : Int32)), .val (.ref r_44), .val (.int (3 : Int32)), .val (.int (0 : Int32)), .unset] [(.int (0 : Int32)), (.ref r_44)])) rfl rfl (hb hby d1_16) _ ?_
    show Steps p.tables e below (T44.setTop (mkF m 17 #[.val (.int (2 : Int32)), .val (.ref r_44), .val (.int (3 : Int32)), .val (.int (0 : Int32)), .unset] [(.ref w0)])) _
    refine XS.astore X44.here hx rfl (hb hby d1_17) rfl rfl (l' := #[.val (.int (2 : Int32)), .val (.ref r_44), .val (.int (3 : Int32)), .val (.int (0 : Int32)), .val (.ref w0)]) rfl ?_
    show Steps p.tables e below (T44.setTop (mkF m 19 #[.val (.int (2 : Int32)), .val (.ref r_44), .val (.int (3 : Int32)), .val (.int (0 : Int32)), .val (.ref w0)] [])) _
    refine XS.aload X44.here hx rfl (hb hby d1_19) rfl rfl ?_
    show Steps p.tables e below (T44.setTop (mkF m 21 #[.val (.int (2 : Int32)), .val (.ref r_44), .val (.int (3 : Int32)), .val (.int (0 : Int32)), .val (.ref w0)] [(.ref w0)])) _
    refine st51 _ ?_
    show Steps p.tables e below (T51.setTop (mkF m 24 #[.val (.int (2 : Int32)), .val (.ref r_44), .val (.int (3 : Int32)), .val (.int (0 : Int32)), .val (.ref w0)] [(.int (0 : Int32))])) _
    refine XS.iloadN X51.here hx rfl (hb hby d1_24) rfl ?_
    show Steps p.tables e below (T51.setTop (mkF m 25 #[.val (.int (2 : Int32)), .val (.ref r_44), .val (.int (3 : Int32)), .val (.int (0 : Int32)), .val (.ref w0)] [(.int (2 : Int32)), (.int (0 : Int32))])) _
    refine XS.icmpYes X51.here hx rfl (pc0 := 25) (pc' := 31) rfl (hb hby d1_25) rfl (feq (by decide : ¬ ((0 : Int32) = (2 : Int32)))).2 (by decide) (by decide) ?_
    show Steps p.tables e below (T51.setTop (mkF m 31 #[.val (.int (2 : Int32)), .val (.ref r_44), .val (.int (3 : Int32)), .val (.int (0 : Int32)), .val (.ref w0)] [])) _
    refine XS.iinc X51.here hx rfl (hb hby d1_31) rfl (l' := #[.val (.int (2 : Int32)), .val (.ref r_44), .val (.int (3 : Int32)), .val (.int (1 : Int32)), .val (.ref w0)]) rfl ?_
    show Steps p.tables e below (T51.setTop (mkF m 34 #[.val (.int (2 : Int32)), .val (.ref r_44), .val (.int (3 : Int32)), .val (.int (1 : Int32)), .val (.ref w0)] [])) _
    refine XS.goto X51.here hx rfl (pc0 := 34) (pc' := 9) rfl (hb hby d1_34) (by decide) (by decide) ?_
    show Steps p.tables e below (T51.setTop (mkF m 9 #[.val (.int (2 : Int32)), .val (.ref r_44), .val (.int (3 : Int32)), .val (.int (1 : Int32)), .val (.ref w0)] [])) _
    refine XS.iloadN X51.here hx rfl (hb hby d1_9) rfl ?_
    show Steps p.tables e below (T51.setTop (mkF m 10 #[.val (.int (2 : Int32)), .val (.ref r_44), .val (.int (3 : Int32)), .val (.int (1 : Int32)), .val (.ref w0)] [(.int (1 : Int32))])) _
    refine XS.iloadN X51.here hx rfl (hb hby d1_10) rfl ?_
    show Steps p.tables e below (T51.setTop (mkF m 11 #[.val (.int (2 : Int32)), .val (.ref r_44), .val (.int (3 : Int32)), .val (.int (1 : Int32)), .val (.ref w0)] [(.int (3 : Int32)), (.int (1 : Int32))])) _
    refine XS.icmpNo X51.here hx rfl (hb hby d1_11) rfl (tlt (by decide : (1 : Int32) < (3 : Int32))).2.1 ?_
    show Steps p.tables e below (T51.setTop (mkF m 14 #[.val (.int (2 : Int32)), .val (.ref r_44), .val (.int (3 : Int32)), .val (.int (1 : Int32)), .val (.ref w0)] [])) _
    refine XS.aloadN X51.here hx rfl (hb hby d1_14) rfl rfl ?_
    show Steps p.tables e below (T51.setTop (mkF m 15 #[.val (.int (2 : Int32)), .val (.ref r_44), .val (.int (3 : Int32)), .val (.int (1 : Int32)), .val (.ref w0)] [(.ref r_44)])) _
    refine XS.iloadN X51.here hx rfl (hb hby d1_15) rfl ?_
    show Steps p.tables e below (T51.setTop (mkF m 16 #[.val (.int (2 : Int32)), .val (.ref r_44), .val (.int (3 : Int32)), .val (.int (1 : Int32)), .val (.ref w0)] [(.int (1 : Int32)), (.ref r_44)])) _
    refine X51.aaload hx (j := (1 : Int32)) (v := (.ref w1)) (by rw [e51]; exact Ar52.1) (State.isArrayOf_alike hZ.alike Ar52.2.1) rfl Ar52.2.2 hin52 hat52 (g := (mkF m 16 #[.val (.int (2 : Int32)), .val (.ref r_44), .val (.int (3 : Int32)), .val (.int (1 : Int32)), .val (.ref w0)] [(.int (1 : Int32)), (.ref r_44)])) rfl rfl (hb hby d1_16) _ ?_
    show Steps p.tables e below (T51.setTop (mkF m 17 #[.val (.int (2 : Int32)), .val (.ref r_44), .val (.int (3 : Int32)), .val (.int (1 : Int32)), .val (.ref w0)] [(.ref w1)])) _
    refine XS.astore X51.here hx rfl (hb hby d1_17) rfl rfl (l' := #[.val (.int (2 : Int32)), .val (.ref r_44), .val (.int (3 : Int32)), .val (.int (1 : Int32)), .val (.ref w1)]) rfl ?_
    show Steps p.tables e below (T51.setTop (mkF m 19 #[.val (.int (2 : Int32)), .val (.ref r_44), .val (.int (3 : Int32)), .val (.int (1 : Int32)), .val (.ref w1)] [])) _
    refine XS.aload X51.here hx rfl (hb hby d1_19) rfl rfl ?_
    show Steps p.tables e below (T51.setTop (mkF m 21 #[.val (.int (2 : Int32)), .val (.ref r_44), .val (.int (3 : Int32)), .val (.int (1 : Int32)), .val (.ref w1)] [(.ref w1)])) _
    refine st54 _ ?_
    show Steps p.tables e below (T54.setTop (mkF m 24 #[.val (.int (2 : Int32)), .val (.ref r_44), .val (.int (3 : Int32)), .val (.int (1 : Int32)), .val (.ref w1)] [(.int (1 : Int32))])) _
    refine XS.iloadN X54.here hx rfl (hb hby d1_24) rfl ?_
    show Steps p.tables e below (T54.setTop (mkF m 25 #[.val (.int (2 : Int32)), .val (.ref r_44), .val (.int (3 : Int32)), .val (.int (1 : Int32)), .val (.ref w1)] [(.int (2 : Int32)), (.int (1 : Int32))])) _
    refine XS.icmpYes X54.here hx rfl (pc0 := 25) (pc' := 31) rfl (hb hby d1_25) rfl (feq (by decide : ¬ ((1 : Int32) = (2 : Int32)))).2 (by decide) (by decide) ?_
    show Steps p.tables e below (T54.setTop (mkF m 31 #[.val (.int (2 : Int32)), .val (.ref r_44), .val (.int (3 : Int32)), .val (.int (1 : Int32)), .val (.ref w1)] [])) _
    refine XS.iinc X54.here hx rfl (hb hby d1_31) rfl (l' := #[.val (.int (2 : Int32)), .val (.ref r_44), .val (.int (3 : Int32)), .val (.int (2 : Int32)), .val (.ref w1)]) rfl ?_
    show Steps p.tables e below (T54.setTop (mkF m 34 #[.val (.int (2 : Int32)), .val (.ref r_44), .val (.int (3 : Int32)), .val (.int (2 : Int32)), .val (.ref w1)] [])) _
    refine XS.goto X54.here hx rfl (pc0 := 34) (pc' := 9) rfl (hb hby d1_34) (by decide) (by decide) ?_
    show Steps p.tables e below (T54.setTop (mkF m 9 #[.val (.int (2 : Int32)), .val (.ref r_44), .val (.int (3 : Int32)), .val (.int (2 : Int32)), .val (.ref w1)] [])) _
    refine XS.iloadN X54.here hx rfl (hb hby d1_9) rfl ?_
    show Steps p.tables e below (T54.setTop (mkF m 10 #[.val (.int (2 : Int32)), .val (.ref r_44), .val (.int (3 : Int32)), .val (.int (2 : Int32)), .val (.ref w1)] [(.int (2 : Int32))])) _
    refine XS.iloadN X54.here hx rfl (hb hby d1_10) rfl ?_
    show Steps p.tables e below (T54.setTop (mkF m 11 #[.val (.int (2 : Int32)), .val (.ref r_44), .val (.int (3 : Int32)), .val (.int (2 : Int32)), .val (.ref w1)] [(.int (3 : Int32)), (.int (2 : Int32))])) _
    refine XS.icmpNo X54.here hx rfl (hb hby d1_11) rfl (tlt (by decide : (2 : Int32) < (3 : Int32))).2.1 ?_
    show Steps p.tables e below (T54.setTop (mkF m 14 #[.val (.int (2 : Int32)), .val (.ref r_44), .val (.int (3 : Int32)), .val (.int (2 : Int32)), .val (.ref w1)] [])) _
    refine XS.aloadN X54.here hx rfl (hb hby d1_14) rfl rfl ?_
    show Steps p.tables e below (T54.setTop (mkF m 15 #[.val (.int (2 : Int32)), .val (.ref r_44), .val (.int (3 : Int32)), .val (.int (2 : Int32)), .val (.ref w1)] [(.ref r_44)])) _
    refine XS.iloadN X54.here hx rfl (hb hby d1_15) rfl ?_
    show Steps p.tables e below (T54.setTop (mkF m 16 #[.val (.int (2 : Int32)), .val (.ref r_44), .val (.int (3 : Int32)), .val (.int (2 : Int32)), .val (.ref w1)] [(.int (2 : Int32)), (.ref r_44)])) _
    refine X54.aaload hx (j := (2 : Int32)) (v := (.ref w2)) (by rw [e54]; exact Ar55.1) (State.isArrayOf_alike hZ.alike Ar55.2.1) rfl Ar55.2.2 hin55 hat55 (g := (mkF m 16 #[.val (.int (2 : Int32)), .val (.ref r_44), .val (.int (3 : Int32)), .val (.int (2 : Int32)), .val (.ref w1)] [(.int (2 : Int32)), (.ref r_44)])) rfl rfl (hb hby d1_16) _ ?_
    show Steps p.tables e below (T54.setTop (mkF m 17 #[.val (.int (2 : Int32)), .val (.ref r_44), .val (.int (3 : Int32)), .val (.int (2 : Int32)), .val (.ref w1)] [(.ref w2)])) _
    refine XS.astore X54.here hx rfl (hb hby d1_17) rfl rfl (l' := #[.val (.int (2 : Int32)), .val (.ref r_44), .val (.int (3 : Int32)), .val (.int (2 : Int32)), .val (.ref w2)]) rfl ?_
    show Steps p.tables e below (T54.setTop (mkF m 19 #[.val (.int (2 : Int32)), .val (.ref r_44), .val (.int (3 : Int32)), .val (.int (2 : Int32)), .val (.ref w2)] [])) _
    refine XS.aload X54.here hx rfl (hb hby d1_19) rfl rfl ?_
    show Steps p.tables e below (T54.setTop (mkF m 21 #[.val (.int (2 : Int32)), .val (.ref r_44), .val (.int (3 : Int32)), .val (.int (2 : Int32)), .val (.ref w2)] [(.ref w2)])) _
    refine st57 _ ?_
    show Steps p.tables e below (T57.setTop (mkF m 24 #[.val (.int (2 : Int32)), .val (.ref r_44), .val (.int (3 : Int32)), .val (.int (2 : Int32)), .val (.ref w2)] [(.int (2 : Int32))])) _
    refine XS.iloadN X57.here hx rfl (hb hby d1_24) rfl ?_
    show Steps p.tables e below (T57.setTop (mkF m 25 #[.val (.int (2 : Int32)), .val (.ref r_44), .val (.int (3 : Int32)), .val (.int (2 : Int32)), .val (.ref w2)] [(.int (2 : Int32)), (.int (2 : Int32))])) _
    refine XS.icmpNo X57.here hx rfl (hb hby d1_25) rfl (teq (by decide : (2 : Int32) = (2 : Int32))).2 ?_
    show Steps p.tables e below (T57.setTop (mkF m 28 #[.val (.int (2 : Int32)), .val (.ref r_44), .val (.int (3 : Int32)), .val (.int (2 : Int32)), .val (.ref w2)] [])) _
    refine XS.aload X57.here hx rfl (hb hby d1_28) rfl rfl ?_
    show Steps p.tables e below (T57.setTop (mkF m 30 #[.val (.int (2 : Int32)), .val (.ref r_44), .val (.int (3 : Int32)), .val (.int (2 : Int32)), .val (.ref w2)] [(.ref w2)])) _
    jvm_step X57.here [X57.here.top, hx, (hb hby d1_30), X57.method', Bd.returns, Value.isRef, FieldType.isReference]
    first | (intro acts; rw [hr _ acts rfl rfl rfl]) | rw [hr _ _ rfl rfl rfl]
    exact Steps.refl _
  · show Qrm12 Z va kk w0 w1 w2 h0 n0 _ T57.heap _
    rw [e57]
    exact ⟨rfl, N44, KC46⟩
theorem d3_0 : decode method_2_code 0 = .ok (.iload_n 0, 1) := by decide +kernel
theorem d3_1 : decode method_2_code 1 = .ok (.ifCond .ne 7, 3) := by decide +kernel
theorem d3_4 : decode method_2_code 4 = .ok (.getstatic 7, 3) := by decide +kernel
theorem d3_7 : decode method_2_code 7 = .ok (.areturn, 1) := by decide +kernel
theorem pn_3 : plainName "com/example/declarant/declarant/hire/DpaeStatusOfCodePinLaw" = true := by first | (simp [plainName, overriddenIn]; done) | decide +kernel
theorem ef_rm30 (m : MethodId)  : entryFrame m #[(.int (0 : Int32))] 1 = mkF m 0 #[.val (.int (0 : Int32))] [] := by first | (simp [entryFrame, mkF, argsToLocals, Value.category]; done) | rfl
def Qrm30 (Z : State) (w : Addr) (h0 : Heap) (n0 : Nat) (v : Option Value) (h : Heap) (L : List Loc) : Prop := v = some (.ref w) ∧ Fr n0 L ∧ h = h0
set_option maxRecDepth 65536 in
set_option maxHeartbeats 40000000 in
theorem rm30 (l : Launch) (Z : State) (a0 : Array Value) (hw : ∀ d ∈ tables_1, d.before a0 Z = true) (ws : List Jvm.Cond) (w : Addr) (h0 : Heap) (n0 : Nat) (Z0 : n0 ≤ h0.size) (H0 : Sta Z h0 "com/example/declarant/declarant/hire/DpaeStatus" "READY" "Lcom/example/declarant/declarant/hire/DpaeStatus;" (.ref w)) :
    MetFree l (⟨"com/example/declarant/declarant/hire/DpaeStatusOfCodePinLaw", "expected", "(I)Lcom/example/declarant/declarant/hire/DpaeStatus;"⟩ : MethodName) (head1 (Jvm.Cond.code (⟨"com/example/declarant/declarant/hire/DpaeStatusOfCodePinLaw", "expected", "(I)Lcom/example/declarant/declarant/hire/DpaeStatus;"⟩ : MethodName) method_2_code 1 (some (.object "com/example/declarant/declarant/hire/DpaeStatus")) :: ws) ({ frames := 0, cells := 0, slots := 0, locals := 0 } : Room)) (fun a U => a = #[(.int (0 : Int32))] ∧ Z.Warmed39 U.vm ∧ U.heap = h0) (fun _ _ _ _ _ => True) (fun _ U o U' => ∃ v L, o = .returned v ∧ Qrm30 Z w h0 n0 v U'.heap L ∧ FrameEnd U o U' L ({ frames := 0, cells := 0, slots := 0, locals := 0 } : Room).cells ({ frames := 0, cells := 0, slots := 0, locals := 0 } : Room).slots) := by
  refine MetFree.of_bodySF (plainFor_of_name pn_3) hisR ?_
  intro p e s m args below meth c s₁ Bd hml0 hP hK
  obtain ⟨rfl, hZ, hh⟩ := hP
  have hx := Bd.exec
  have hby := Bd.bytes
  have hml : c.maxLocals = 1 := hml0
  have hown : s.vm.findClass "com/example/declarant/declarant/hire/DpaeStatusOfCodePinLaw" = some m.cls := findClass_of_methodNamed Bd.named
  have hnm := (name_of_methodNamed Bd.named Bd.method).1
  have X0 : Stand p l e ({ frames := 0, cells := 0, slots := 0, locals := 0 } : Room) s m #[(.int (0 : Int32))] below meth c s₁ [] 0 0 := Stand.of_body Bd
  have e0 : s₁.heap = h0 := by rw [← hh, Bd.state]; rfl
  have N0 := Fr.nil n0
  have pre0 : ∀ t, Steps p.tables e below (s₁.setTop (mkF m 0 #[.val (.int (0 : Int32))] [])) t → Steps p.tables e below (s₁.setTop (entryFrame m #[(.int (0 : Int32))] 1)) t := fun t k => castTop (ef_rm30 m) k
  have KC0 : Keep h0 h0 [] := Keep.refl _ _
  obtain ⟨T58, X58, e58, st58⟩ := getS2 X0 hx hZ hown (host := "") (Or.inl (hw _ (List.mem_of_getElem? (i := 29) rfl))) Via.refl e0 H0 (g := (mkF m 4 #[.val (.int (0 : Int32))] [])) rfl (hb hby d3_4)
  obtain ⟨fs, hr, hrun, hended, hW, hsame⟩ := X58.leave (v := some (.ref w)) (fun h => by rw [Bd.returns] at h; cases h)
  refine ⟨_, _, pre0 _ ?_, hrun, hended, _, _, rfl, ?_, ⟨_, rfl⟩, hW, hsame.mono (by decide) (by decide)⟩
  · show Steps p.tables e below (s₁.setTop (mkF m 0 #[.val (.int (0 : Int32))] [])) _
    refine XS.iloadN X0.here hx rfl (hb hby d3_0) rfl ?_
    show Steps p.tables e below (s₁.setTop (mkF m 1 #[.val (.int (0 : Int32))] [(.int (0 : Int32))])) _
    refine XS.ifNo X0.here hx rfl (hb hby d3_1) rfl ((if0 _ _).trans (teq (by decide : (0 : Int32) = (0 : Int32))).2) ?_
    show Steps p.tables e below (s₁.setTop (mkF m 4 #[.val (.int (0 : Int32))] [])) _
    refine st58 _ ?_
    show Steps p.tables e below (T58.setTop (mkF m 7 #[.val (.int (0 : Int32))] [(.ref w)])) _
    jvm_step X58.here [X58.here.top, hx, (hb hby d3_7), X58.method', Bd.returns, Value.isRef, FieldType.isReference]
    first | (intro acts; rw [hr _ acts rfl rfl rfl]) | rw [hr _ _ rfl rfl rfl]
    exact Steps.refl _
  · show Qrm30 Z w h0 n0 _ T58.heap _
    rw [e58]
    exact ⟨rfl, N0, rfl⟩
theorem d3_8 : decode method_2_code 8 = .ok (.iload_n 0, 1) := by decide +kernel
theorem d3_9 : decode method_2_code 9 = .ok (.iconst 1, 1) := by decide +kernel
theorem d3_10 : decode method_2_code 10 = .ok (.if_icmp .ne 7, 3) := by decide +kernel
theorem d3_13 : decode method_2_code 13 = .ok (.getstatic 13, 3) := by decide +kernel
theorem d3_16 : decode method_2_code 16 = .ok (.areturn, 1) := by decide +kernel
theorem ef_rm31 (m : MethodId)  : entryFrame m #[(.int (1 : Int32))] 1 = mkF m 0 #[.val (.int (1 : Int32))] [] := by first | (simp [entryFrame, mkF, argsToLocals, Value.category]; done) | rfl
def Qrm31 (Z : State) (w : Addr) (h0 : Heap) (n0 : Nat) (v : Option Value) (h : Heap) (L : List Loc) : Prop := v = some (.ref w) ∧ Fr n0 L ∧ h = h0
set_option maxRecDepth 65536 in
set_option maxHeartbeats 40000000 in
theorem rm31 (l : Launch) (Z : State) (a0 : Array Value) (hw : ∀ d ∈ tables_1, d.before a0 Z = true) (ws : List Jvm.Cond) (w : Addr) (h0 : Heap) (n0 : Nat) (Z0 : n0 ≤ h0.size) (H0 : Sta Z h0 "com/example/declarant/declarant/hire/DpaeStatus" "SENT" "Lcom/example/declarant/declarant/hire/DpaeStatus;" (.ref w)) :
    MetFree l (⟨"com/example/declarant/declarant/hire/DpaeStatusOfCodePinLaw", "expected", "(I)Lcom/example/declarant/declarant/hire/DpaeStatus;"⟩ : MethodName) (head1 (Jvm.Cond.code (⟨"com/example/declarant/declarant/hire/DpaeStatusOfCodePinLaw", "expected", "(I)Lcom/example/declarant/declarant/hire/DpaeStatus;"⟩ : MethodName) method_2_code 1 (some (.object "com/example/declarant/declarant/hire/DpaeStatus")) :: ws) ({ frames := 0, cells := 0, slots := 0, locals := 0 } : Room)) (fun a U => a = #[(.int (1 : Int32))] ∧ Z.Warmed39 U.vm ∧ U.heap = h0) (fun _ _ _ _ _ => True) (fun _ U o U' => ∃ v L, o = .returned v ∧ Qrm31 Z w h0 n0 v U'.heap L ∧ FrameEnd U o U' L ({ frames := 0, cells := 0, slots := 0, locals := 0 } : Room).cells ({ frames := 0, cells := 0, slots := 0, locals := 0 } : Room).slots) := by
  refine MetFree.of_bodySF (plainFor_of_name pn_3) hisR ?_
  intro p e s m args below meth c s₁ Bd hml0 hP hK
  obtain ⟨rfl, hZ, hh⟩ := hP
  have hx := Bd.exec
  have hby := Bd.bytes
  have hml : c.maxLocals = 1 := hml0
  have hown : s.vm.findClass "com/example/declarant/declarant/hire/DpaeStatusOfCodePinLaw" = some m.cls := findClass_of_methodNamed Bd.named
  have hnm := (name_of_methodNamed Bd.named Bd.method).1
  have X0 : Stand p l e ({ frames := 0, cells := 0, slots := 0, locals := 0 } : Room) s m #[(.int (1 : Int32))] below meth c s₁ [] 0 0 := Stand.of_body Bd
  have e0 : s₁.heap = h0 := by rw [← hh, Bd.state]; rfl
  have N0 := Fr.nil n0
  have pre0 : ∀ t, Steps p.tables e below (s₁.setTop (mkF m 0 #[.val (.int (1 : Int32))] [])) t → Steps p.tables e below (s₁.setTop (entryFrame m #[(.int (1 : Int32))] 1)) t := fun t k => castTop (ef_rm31 m) k
  have KC0 : Keep h0 h0 [] := Keep.refl _ _
  obtain ⟨T59, X59, e59, st59⟩ := getS2 X0 hx hZ hown (host := "") (Or.inl (hw _ (List.mem_of_getElem? (i := 36) rfl))) Via.refl e0 H0 (g := (mkF m 13 #[.val (.int (1 : Int32))] [])) rfl (hb hby d3_13)
  obtain ⟨fs, hr, hrun, hended, hW, hsame⟩ := X59.leave (v := some (.ref w)) (fun h => by rw [Bd.returns] at h; cases h)
  refine ⟨_, _, pre0 _ ?_, hrun, hended, _, _, rfl, ?_, ⟨_, rfl⟩, hW, hsame.mono (by decide) (by decide)⟩
  · show Steps p.tables e below (s₁.setTop (mkF m 0 #[.val (.int (1 : Int32))] [])) _
    refine XS.iloadN X0.here hx rfl (hb hby d3_0) rfl ?_
    show Steps p.tables e below (s₁.setTop (mkF m 1 #[.val (.int (1 : Int32))] [(.int (1 : Int32))])) _
    refine XS.ifYes X0.here hx rfl (pc0 := 1) (pc' := 8) rfl (hb hby d3_1) rfl ((if0 _ _).trans (feq (by decide : ¬ ((1 : Int32) = (0 : Int32)))).2) (by decide) (by decide) ?_
    show Steps p.tables e below (s₁.setTop (mkF m 8 #[.val (.int (1 : Int32))] [])) _
    refine XS.iloadN X0.here hx rfl (hb hby d3_8) rfl ?_
    show Steps p.tables e below (s₁.setTop (mkF m 9 #[.val (.int (1 : Int32))] [(.int (1 : Int32))])) _
    refine XS.iconst X0.here hx rfl (hb hby d3_9) ?_
    show Steps p.tables e below (s₁.setTop (mkF m 10 #[.val (.int (1 : Int32))] [(.int (1 : Int32)), (.int (1 : Int32))])) _
    refine XS.icmpNo X0.here hx rfl (hb hby d3_10) rfl (teq (by decide : (1 : Int32) = (1 : Int32))).2 ?_
    show Steps p.tables e below (s₁.setTop (mkF m 13 #[.val (.int (1 : Int32))] [])) _
    refine st59 _ ?_
    show Steps p.tables e below (T59.setTop (mkF m 16 #[.val (.int (1 : Int32))] [(.ref w)])) _
    jvm_step X59.here [X59.here.top, hx, (hb hby d3_16), X59.method', Bd.returns, Value.isRef, FieldType.isReference]
    first | (intro acts; rw [hr _ acts rfl rfl rfl]) | rw [hr _ _ rfl rfl rfl]
    exact Steps.refl _
  · show Qrm31 Z w h0 n0 _ T59.heap _
    rw [e59]
    exact ⟨rfl, N0, rfl⟩
theorem d3_17 : decode method_2_code 17 = .ok (.getstatic 16, 3) := by decide +kernel
theorem d3_20 : decode method_2_code 20 = .ok (.areturn, 1) := by decide +kernel
theorem ef_rm32 (m : MethodId)  : entryFrame m #[(.int (2 : Int32))] 1 = mkF m 0 #[.val (.int (2 : Int32))] [] := by first | (simp [entryFrame, mkF, argsToLocals, Value.category]; done) | rfl
def Qrm32 (Z : State) (w : Addr) (h0 : Heap) (n0 : Nat) (v : Option Value) (h : Heap) (L : List Loc) : Prop := v = some (.ref w) ∧ Fr n0 L ∧ h = h0
set_option maxRecDepth 65536 in
set_option maxHeartbeats 40000000 in
theorem rm32 (l : Launch) (Z : State) (a0 : Array Value) (hw : ∀ d ∈ tables_1, d.before a0 Z = true) (ws : List Jvm.Cond) (w : Addr) (h0 : Heap) (n0 : Nat) (Z0 : n0 ≤ h0.size) (H0 : Sta Z h0 "com/example/declarant/declarant/hire/DpaeStatus" "ACKNOWLEDGED" "Lcom/example/declarant/declarant/hire/DpaeStatus;" (.ref w)) :
    MetFree l (⟨"com/example/declarant/declarant/hire/DpaeStatusOfCodePinLaw", "expected", "(I)Lcom/example/declarant/declarant/hire/DpaeStatus;"⟩ : MethodName) (head1 (Jvm.Cond.code (⟨"com/example/declarant/declarant/hire/DpaeStatusOfCodePinLaw", "expected", "(I)Lcom/example/declarant/declarant/hire/DpaeStatus;"⟩ : MethodName) method_2_code 1 (some (.object "com/example/declarant/declarant/hire/DpaeStatus")) :: ws) ({ frames := 0, cells := 0, slots := 0, locals := 0 } : Room)) (fun a U => a = #[(.int (2 : Int32))] ∧ Z.Warmed39 U.vm ∧ U.heap = h0) (fun _ _ _ _ _ => True) (fun _ U o U' => ∃ v L, o = .returned v ∧ Qrm32 Z w h0 n0 v U'.heap L ∧ FrameEnd U o U' L ({ frames := 0, cells := 0, slots := 0, locals := 0 } : Room).cells ({ frames := 0, cells := 0, slots := 0, locals := 0 } : Room).slots) := by
  refine MetFree.of_bodySF (plainFor_of_name pn_3) hisR ?_
  intro p e s m args below meth c s₁ Bd hml0 hP hK
  obtain ⟨rfl, hZ, hh⟩ := hP
  have hx := Bd.exec
  have hby := Bd.bytes
  have hml : c.maxLocals = 1 := hml0
  have hown : s.vm.findClass "com/example/declarant/declarant/hire/DpaeStatusOfCodePinLaw" = some m.cls := findClass_of_methodNamed Bd.named
  have hnm := (name_of_methodNamed Bd.named Bd.method).1
  have X0 : Stand p l e ({ frames := 0, cells := 0, slots := 0, locals := 0 } : Room) s m #[(.int (2 : Int32))] below meth c s₁ [] 0 0 := Stand.of_body Bd
  have e0 : s₁.heap = h0 := by rw [← hh, Bd.state]; rfl
  have N0 := Fr.nil n0
  have pre0 : ∀ t, Steps p.tables e below (s₁.setTop (mkF m 0 #[.val (.int (2 : Int32))] [])) t → Steps p.tables e below (s₁.setTop (entryFrame m #[(.int (2 : Int32))] 1)) t := fun t k => castTop (ef_rm32 m) k
  have KC0 : Keep h0 h0 [] := Keep.refl _ _
  obtain ⟨T60, X60, e60, st60⟩ := getS2 X0 hx hZ hown (host := "") (Or.inl (hw _ (List.mem_of_getElem? (i := 35) rfl))) Via.refl e0 H0 (g := (mkF m 17 #[.val (.int (2 : Int32))] [])) rfl (hb hby d3_17)
  obtain ⟨fs, hr, hrun, hended, hW, hsame⟩ := X60.leave (v := some (.ref w)) (fun h => by rw [Bd.returns] at h; cases h)
  refine ⟨_, _, pre0 _ ?_, hrun, hended, _, _, rfl, ?_, ⟨_, rfl⟩, hW, hsame.mono (by decide) (by decide)⟩
  · show Steps p.tables e below (s₁.setTop (mkF m 0 #[.val (.int (2 : Int32))] [])) _
    refine XS.iloadN X0.here hx rfl (hb hby d3_0) rfl ?_
    show Steps p.tables e below (s₁.setTop (mkF m 1 #[.val (.int (2 : Int32))] [(.int (2 : Int32))])) _
    refine XS.ifYes X0.here hx rfl (pc0 := 1) (pc' := 8) rfl (hb hby d3_1) rfl ((if0 _ _).trans (feq (by decide : ¬ ((2 : Int32) = (0 : Int32)))).2) (by decide) (by decide) ?_
    show Steps p.tables e below (s₁.setTop (mkF m 8 #[.val (.int (2 : Int32))] [])) _
    refine XS.iloadN X0.here hx rfl (hb hby d3_8) rfl ?_
    show Steps p.tables e below (s₁.setTop (mkF m 9 #[.val (.int (2 : Int32))] [(.int (2 : Int32))])) _
    refine XS.iconst X0.here hx rfl (hb hby d3_9) ?_
    show Steps p.tables e below (s₁.setTop (mkF m 10 #[.val (.int (2 : Int32))] [(.int (1 : Int32)), (.int (2 : Int32))])) _
    refine XS.icmpYes X0.here hx rfl (pc0 := 10) (pc' := 17) rfl (hb hby d3_10) rfl (feq (by decide : ¬ ((2 : Int32) = (1 : Int32)))).2 (by decide) (by decide) ?_
    show Steps p.tables e below (s₁.setTop (mkF m 17 #[.val (.int (2 : Int32))] [])) _
    refine st60 _ ?_
    show Steps p.tables e below (T60.setTop (mkF m 20 #[.val (.int (2 : Int32))] [(.ref w)])) _
    jvm_step X60.here [X60.here.top, hx, (hb hby d3_20), X60.method', Bd.returns, Value.isRef, FieldType.isReference]
    first | (intro acts; rw [hr _ acts rfl rfl rfl]) | rw [hr _ _ rfl rfl rfl]
    exact Steps.refl _
  · show Qrm32 Z w h0 n0 _ T60.heap _
    rw [e60]
    exact ⟨rfl, N0, rfl⟩
theorem d4_0 : decode prog_12_method_4_code 0 = .ok (.aload_n 0, 1) := by decide +kernel
theorem d4_1 : decode prog_12_method_4_code 1 = .ok (.getfield 32, 3) := by decide +kernel
theorem d4_4 : decode prog_12_method_4_code 4 = .ok (.ireturn, 1) := by decide +kernel
theorem ef_rm40 (m : MethodId) (o0 : Addr) : entryFrame m #[(.ref o0)] 1 = mkF m 0 #[.val (.ref o0)] [] := by first | (simp [entryFrame, mkF, argsToLocals, Value.category]; done) | rfl
def Qrm40 (Z : State) (o0 : Addr) (h0 : Heap) (n0 : Nat) (v : Option Value) (h : Heap) (L : List Loc) : Prop := v = some (.int (0 : Int32)) ∧ Fr n0 L ∧ h = h0
set_option maxRecDepth 65536 in
set_option maxHeartbeats 40000000 in
theorem rm40 (l : Launch) (Z : State) (a0 : Array Value) (hw : ∀ d ∈ tables_1, d.before a0 Z = true) (ws : List Jvm.Cond) (o0 : Addr) (h0 : Heap) (n0 : Nat) (Z0 : n0 ≤ h0.size) (H0 : Fld Z h0 o0 "com/example/declarant/declarant/hire/DpaeStatus" "code" "I" (.int (0 : Int32))) :
    MetFree l (⟨"com/example/declarant/declarant/hire/DpaeStatus", "code", "()I"⟩ : MethodName) (head1 (Jvm.Cond.code (⟨"com/example/declarant/declarant/hire/DpaeStatus", "code", "()I"⟩ : MethodName) prog_12_method_4_code 1 (some .int) :: ws) ({ frames := 0, cells := 0, slots := 0, locals := 0 } : Room)) (fun a U => a = #[(.ref o0)] ∧ Z.Warmed39 U.vm ∧ U.heap = h0) (fun _ _ _ _ _ => True) (fun _ U o U' => ∃ v L, o = .returned v ∧ Qrm40 Z o0 h0 n0 v U'.heap L ∧ FrameEnd U o U' L ({ frames := 0, cells := 0, slots := 0, locals := 0 } : Room).cells ({ frames := 0, cells := 0, slots := 0, locals := 0 } : Room).slots) := by
  refine MetFree.of_bodySF (plainFor_of_name pn_2) hisR ?_
  intro p e s m args below meth c s₁ Bd hml0 hP hK
  obtain ⟨rfl, hZ, hh⟩ := hP
  have hx := Bd.exec
  have hby := Bd.bytes
  have hml : c.maxLocals = 1 := hml0
  have hown : s.vm.findClass "com/example/declarant/declarant/hire/DpaeStatus" = some m.cls := findClass_of_methodNamed Bd.named
  have hnm := (name_of_methodNamed Bd.named Bd.method).1
  have X0 : Stand p l e ({ frames := 0, cells := 0, slots := 0, locals := 0 } : Room) s m #[(.ref o0)] below meth c s₁ [] 0 0 := Stand.of_body Bd
  have e0 : s₁.heap = h0 := by rw [← hh, Bd.state]; rfl
  have N0 := Fr.nil n0
  have pre0 : ∀ t, Steps p.tables e below (s₁.setTop (mkF m 0 #[.val (.ref o0)] [])) t → Steps p.tables e below (s₁.setTop (entryFrame m #[(.ref o0)] 1)) t := fun t k => castTop (ef_rm40 m o0) k
  have z61 := H0.lt
  have KC0 : Keep h0 h0 [] := Keep.refl _ _
  obtain ⟨T62, X62, e62, st62⟩ := getF X0 hx hZ hown (host := "") (Or.inl (hw _ (List.mem_of_getElem? (i := 23) rfl))) Via.refl e0 H0 (g := (mkF m 1 #[.val (.ref o0)] [(.ref o0)])) rfl rfl (hb hby d4_1)
  obtain ⟨fs, hr, hrun, hended, hW, hsame⟩ := X62.leave (v := some (.int (0 : Int32))) (fun h => by rw [Bd.returns] at h; cases h)
  refine ⟨_, _, pre0 _ ?_, hrun, hended, _, _, rfl, ?_, ⟨_, rfl⟩, hW, hsame.mono (by decide) (by decide)⟩
  · show Steps p.tables e below (s₁.setTop (mkF m 0 #[.val (.ref o0)] [])) _
    refine XS.aloadN X0.here hx rfl (hb hby d4_0) rfl rfl ?_
    show Steps p.tables e below (s₁.setTop (mkF m 1 #[.val (.ref o0)] [(.ref o0)])) _
    refine st62 _ ?_
    show Steps p.tables e below (T62.setTop (mkF m 4 #[.val (.ref o0)] [(.int (0 : Int32))])) _
    exact retI X62 hx Bd.returns (hb hby d4_4) hr
  · show Qrm40 Z o0 h0 n0 _ T62.heap _
    rw [e62]
    exact ⟨rfl, N0, rfl⟩
theorem ef_rm41 (m : MethodId) (o0 : Addr) : entryFrame m #[(.ref o0)] 1 = mkF m 0 #[.val (.ref o0)] [] := by first | (simp [entryFrame, mkF, argsToLocals, Value.category]; done) | rfl
def Qrm41 (Z : State) (o0 : Addr) (h0 : Heap) (n0 : Nat) (v : Option Value) (h : Heap) (L : List Loc) : Prop := v = some (.int (1 : Int32)) ∧ Fr n0 L ∧ h = h0
set_option maxRecDepth 65536 in
set_option maxHeartbeats 40000000 in
theorem rm41 (l : Launch) (Z : State) (a0 : Array Value) (hw : ∀ d ∈ tables_1, d.before a0 Z = true) (ws : List Jvm.Cond) (o0 : Addr) (h0 : Heap) (n0 : Nat) (Z0 : n0 ≤ h0.size) (H0 : Fld Z h0 o0 "com/example/declarant/declarant/hire/DpaeStatus" "code" "I" (.int (1 : Int32))) :
    MetFree l (⟨"com/example/declarant/declarant/hire/DpaeStatus", "code", "()I"⟩ : MethodName) (head1 (Jvm.Cond.code (⟨"com/example/declarant/declarant/hire/DpaeStatus", "code", "()I"⟩ : MethodName) prog_12_method_4_code 1 (some .int) :: ws) ({ frames := 0, cells := 0, slots := 0, locals := 0 } : Room)) (fun a U => a = #[(.ref o0)] ∧ Z.Warmed39 U.vm ∧ U.heap = h0) (fun _ _ _ _ _ => True) (fun _ U o U' => ∃ v L, o = .returned v ∧ Qrm41 Z o0 h0 n0 v U'.heap L ∧ FrameEnd U o U' L ({ frames := 0, cells := 0, slots := 0, locals := 0 } : Room).cells ({ frames := 0, cells := 0, slots := 0, locals := 0 } : Room).slots) := by
  refine MetFree.of_bodySF (plainFor_of_name pn_2) hisR ?_
  intro p e s m args below meth c s₁ Bd hml0 hP hK
  obtain ⟨rfl, hZ, hh⟩ := hP
  have hx := Bd.exec
  have hby := Bd.bytes
  have hml : c.maxLocals = 1 := hml0
  have hown : s.vm.findClass "com/example/declarant/declarant/hire/DpaeStatus" = some m.cls := findClass_of_methodNamed Bd.named
  have hnm := (name_of_methodNamed Bd.named Bd.method).1
  have X0 : Stand p l e ({ frames := 0, cells := 0, slots := 0, locals := 0 } : Room) s m #[(.ref o0)] below meth c s₁ [] 0 0 := Stand.of_body Bd
  have e0 : s₁.heap = h0 := by rw [← hh, Bd.state]; rfl
  have N0 := Fr.nil n0
  have pre0 : ∀ t, Steps p.tables e below (s₁.setTop (mkF m 0 #[.val (.ref o0)] [])) t → Steps p.tables e below (s₁.setTop (entryFrame m #[(.ref o0)] 1)) t := fun t k => castTop (ef_rm41 m o0) k
  have z63 := H0.lt
  have KC0 : Keep h0 h0 [] := Keep.refl _ _
  obtain ⟨T64, X64, e64, st64⟩ := getF X0 hx hZ hown (host := "") (Or.inl (hw _ (List.mem_of_getElem? (i := 23) rfl))) Via.refl e0 H0 (g := (mkF m 1 #[.val (.ref o0)] [(.ref o0)])) rfl rfl (hb hby d4_1)
  obtain ⟨fs, hr, hrun, hended, hW, hsame⟩ := X64.leave (v := some (.int (1 : Int32))) (fun h => by rw [Bd.returns] at h; cases h)
  refine ⟨_, _, pre0 _ ?_, hrun, hended, _, _, rfl, ?_, ⟨_, rfl⟩, hW, hsame.mono (by decide) (by decide)⟩
  · show Steps p.tables e below (s₁.setTop (mkF m 0 #[.val (.ref o0)] [])) _
    refine XS.aloadN X0.here hx rfl (hb hby d4_0) rfl rfl ?_
    show Steps p.tables e below (s₁.setTop (mkF m 1 #[.val (.ref o0)] [(.ref o0)])) _
    refine st64 _ ?_
    show Steps p.tables e below (T64.setTop (mkF m 4 #[.val (.ref o0)] [(.int (1 : Int32))])) _
    exact retI X64 hx Bd.returns (hb hby d4_4) hr
  · show Qrm41 Z o0 h0 n0 _ T64.heap _
    rw [e64]
    exact ⟨rfl, N0, rfl⟩
theorem ef_rm42 (m : MethodId) (o0 : Addr) : entryFrame m #[(.ref o0)] 1 = mkF m 0 #[.val (.ref o0)] [] := by first | (simp [entryFrame, mkF, argsToLocals, Value.category]; done) | rfl
def Qrm42 (Z : State) (o0 : Addr) (h0 : Heap) (n0 : Nat) (v : Option Value) (h : Heap) (L : List Loc) : Prop := v = some (.int (2 : Int32)) ∧ Fr n0 L ∧ h = h0
set_option maxRecDepth 65536 in
set_option maxHeartbeats 40000000 in
theorem rm42 (l : Launch) (Z : State) (a0 : Array Value) (hw : ∀ d ∈ tables_1, d.before a0 Z = true) (ws : List Jvm.Cond) (o0 : Addr) (h0 : Heap) (n0 : Nat) (Z0 : n0 ≤ h0.size) (H0 : Fld Z h0 o0 "com/example/declarant/declarant/hire/DpaeStatus" "code" "I" (.int (2 : Int32))) :
    MetFree l (⟨"com/example/declarant/declarant/hire/DpaeStatus", "code", "()I"⟩ : MethodName) (head1 (Jvm.Cond.code (⟨"com/example/declarant/declarant/hire/DpaeStatus", "code", "()I"⟩ : MethodName) prog_12_method_4_code 1 (some .int) :: ws) ({ frames := 0, cells := 0, slots := 0, locals := 0 } : Room)) (fun a U => a = #[(.ref o0)] ∧ Z.Warmed39 U.vm ∧ U.heap = h0) (fun _ _ _ _ _ => True) (fun _ U o U' => ∃ v L, o = .returned v ∧ Qrm42 Z o0 h0 n0 v U'.heap L ∧ FrameEnd U o U' L ({ frames := 0, cells := 0, slots := 0, locals := 0 } : Room).cells ({ frames := 0, cells := 0, slots := 0, locals := 0 } : Room).slots) := by
  refine MetFree.of_bodySF (plainFor_of_name pn_2) hisR ?_
  intro p e s m args below meth c s₁ Bd hml0 hP hK
  obtain ⟨rfl, hZ, hh⟩ := hP
  have hx := Bd.exec
  have hby := Bd.bytes
  have hml : c.maxLocals = 1 := hml0
  have hown : s.vm.findClass "com/example/declarant/declarant/hire/DpaeStatus" = some m.cls := findClass_of_methodNamed Bd.named
  have hnm := (name_of_methodNamed Bd.named Bd.method).1
  have X0 : Stand p l e ({ frames := 0, cells := 0, slots := 0, locals := 0 } : Room) s m #[(.ref o0)] below meth c s₁ [] 0 0 := Stand.of_body Bd
  have e0 : s₁.heap = h0 := by rw [← hh, Bd.state]; rfl
  have N0 := Fr.nil n0
  have pre0 : ∀ t, Steps p.tables e below (s₁.setTop (mkF m 0 #[.val (.ref o0)] [])) t → Steps p.tables e below (s₁.setTop (entryFrame m #[(.ref o0)] 1)) t := fun t k => castTop (ef_rm42 m o0) k
  have z65 := H0.lt
  have KC0 : Keep h0 h0 [] := Keep.refl _ _
  obtain ⟨T66, X66, e66, st66⟩ := getF X0 hx hZ hown (host := "") (Or.inl (hw _ (List.mem_of_getElem? (i := 23) rfl))) Via.refl e0 H0 (g := (mkF m 1 #[.val (.ref o0)] [(.ref o0)])) rfl rfl (hb hby d4_1)
  obtain ⟨fs, hr, hrun, hended, hW, hsame⟩ := X66.leave (v := some (.int (2 : Int32))) (fun h => by rw [Bd.returns] at h; cases h)
  refine ⟨_, _, pre0 _ ?_, hrun, hended, _, _, rfl, ?_, ⟨_, rfl⟩, hW, hsame.mono (by decide) (by decide)⟩
  · show Steps p.tables e below (s₁.setTop (mkF m 0 #[.val (.ref o0)] [])) _
    refine XS.aloadN X0.here hx rfl (hb hby d4_0) rfl rfl ?_
    show Steps p.tables e below (s₁.setTop (mkF m 1 #[.val (.ref o0)] [(.ref o0)])) _
    refine st66 _ ?_
    show Steps p.tables e below (T66.setTop (mkF m 4 #[.val (.ref o0)] [(.int (2 : Int32))])) _
    exact retI X66 hx Bd.returns (hb hby d4_4) hr
  · show Qrm42 Z o0 h0 n0 _ T66.heap _
    rw [e66]
    exact ⟨rfl, N0, rfl⟩
theorem pd_1 : parseMethodDescriptor "(I)Lcom/example/declarant/declarant/hire/DpaeStatus;" = some ⟨[.int], some (.object "com/example/declarant/declarant/hire/DpaeStatus")⟩ := by decide +kernel
theorem pd_2 : parseMethodDescriptor "()I" = some ⟨[], some .int⟩ := by decide +kernel
theorem ef_rm0 (m : MethodId) (p0 : Int32) : entryFrame m #[(.int p0)] maxLocals = mkF m 0 #[.val (.int p0), .unset, .unset] [] := by first | (simp [entryFrame, mkF, argsToLocals, Value.category, maxLocals]; done) | rfl
def Qrm0 (Z : State) (p0 : Int32) (va : Addr) (kk : ClassId) (w0 : Addr) (w1 : Addr) (w2 : Addr) (h0 : Heap) (n0 : Nat) (v : Option Value) (h : Heap) (L : List Loc) : Prop := v = some (.int (1 : Int32)) ∧ Fr n0 L ∧ Keep h0 h []
set_option maxRecDepth 65536 in
set_option maxHeartbeats 40000000 in
theorem rm0 (l : Launch) (Z : State) (a0 : Array Value) (hw : ∀ d ∈ tables_1, d.before a0 Z = true) (ws : List Jvm.Cond) (p0 : Int32) (va : Addr) (kk : ClassId) (w0 : Addr) (w1 : Addr) (w2 : Addr) (h0 : Heap) (n0 : Nat) (Z0 : n0 ≤ h0.size) (H0 : Sta Z h0 "com/example/declarant/declarant/hire/DpaeStatus" "$VALUES" "[Lcom/example/declarant/declarant/hire/DpaeStatus;" (.ref va)) (H1 : Arv Z h0 va kk (.object "com/example/declarant/declarant/hire/DpaeStatus") (3 : Int32) [(.ref w0), (.ref w1), (.ref w2)] .null) (H2 : Exa Z h0 va "[Lcom/example/declarant/declarant/hire/DpaeStatus;") (H3 : Fld Z h0 w0 "com/example/declarant/declarant/hire/DpaeStatus" "code" "I" (.int (0 : Int32))) (H4 : Fld Z h0 w1 "com/example/declarant/declarant/hire/DpaeStatus" "code" "I" (.int (1 : Int32))) (H5 : Fld Z h0 w2 "com/example/declarant/declarant/hire/DpaeStatus" "code" "I" (.int (2 : Int32))) (H6 : Sta Z h0 "com/example/declarant/declarant/hire/DpaeStatus" "READY" "Lcom/example/declarant/declarant/hire/DpaeStatus;" (.ref w0)) (H7 : Sta Z h0 "com/example/declarant/declarant/hire/DpaeStatus" "SENT" "Lcom/example/declarant/declarant/hire/DpaeStatus;" (.ref w1)) (H8 : Sta Z h0 "com/example/declarant/declarant/hire/DpaeStatus" "ACKNOWLEDGED" "Lcom/example/declarant/declarant/hire/DpaeStatus;" (.ref w2)) (H9 : Exa Z h0 w0 "com/example/declarant/declarant/hire/DpaeStatus") (H10 : Exa Z h0 w1 "com/example/declarant/declarant/hire/DpaeStatus") (H11 : Exa Z h0 w2 "com/example/declarant/declarant/hire/DpaeStatus") :
    MetFree l x (head1 (Jvm.Cond.code x code maxLocals ret :: ws) room_1) (fun a U => a = #[(.int p0)] ∧ Z.Warmed39 U.vm ∧ U.heap = h0) (fun _ _ _ _ _ => True) (fun _ U o U' => ∃ v L, o = .returned v ∧ Qrm0 Z p0 va kk w0 w1 w2 h0 n0 v U'.heap L ∧ FrameEnd U o U' L room_1.cells room_1.slots) := by
  refine MetFree.of_bodySF (plainFor_of_name pn_3) hisR ?_
  intro p e s m args below meth c s₁ Bd hml0 hP hK
  obtain ⟨rfl, hZ, hh⟩ := hP
  have hx := Bd.exec
  have hby := Bd.bytes
  have hml : c.maxLocals = 3 := hml0
  have hown : s.vm.findClass "com/example/declarant/declarant/hire/DpaeStatusOfCodePinLaw" = some m.cls := findClass_of_methodNamed Bd.named
  have hnm := (name_of_methodNamed Bd.named Bd.method).1
  have X0 : Stand p l e room_1 s m #[(.int p0)] below meth c s₁ [] 0 0 := Stand.of_body Bd
  have e0 : s₁.heap = h0 := by rw [← hh, Bd.state]; rfl
  have N0 := Fr.nil n0
  have pre0 : ∀ t, Steps p.tables e below (s₁.setTop (mkF m 0 #[.val (.int p0), .unset, .unset] [])) t → Steps p.tables e below (s₁.setTop (entryFrame m #[(.int p0)] maxLocals)) t := fun t k => castTop (ef_rm0 m p0) k
  have z67 := H1.lt
  have z68 := H2.lt
  have z69 := H3.lt
  have z70 := H4.lt
  have z71 := H5.lt
  have z72 := H9.lt
  have z73 := H10.lt
  have z74 := H11.lt
  have KC0 : Keep h0 h0 [] := Keep.refl _ _
  have pre75 : ∀ t, Steps p.tables e below (s₁.setTop (mkF m 7 #[.val (.int p0), .val (.int ((p0 &&& (2147483647 : Int32)) % (3 : Int32))), .unset] [])) t → Steps p.tables e below (s₁.setTop (entryFrame m #[(.int p0)] maxLocals)) t := fun t k => by
    refine pre0 _ ?_
    show Steps p.tables e below (s₁.setTop (mkF m 0 #[.val (.int p0), .unset, .unset] [])) _
    refine XS.iloadN X0.here hx rfl (hb hby at_0) rfl ?_
    show Steps p.tables e below (s₁.setTop (mkF m 1 #[.val (.int p0), .unset, .unset] [(.int p0)])) _
    refine X0.ldcInt hx hown (mvT hZ (hw _ (List.mem_of_getElem? (i := 0) rfl))) (g := (mkF m 1 #[.val (.int p0), .unset, .unset] [(.int p0)])) rfl (hb hby at_1) _ ?_
    show Steps p.tables e below (s₁.setTop (mkF m 3 #[.val (.int p0), .unset, .unset] [(.int (2147483647 : Int32)), (.int p0)])) _
    refine XS.iand X0.here hx rfl (hb hby at_3) rfl ?_
    show Steps p.tables e below (s₁.setTop (mkF m 4 #[.val (.int p0), .unset, .unset] [(.int (p0 &&& (2147483647 : Int32)))])) _
    refine XS.iconst X0.here hx rfl (hb hby at_4) ?_
    show Steps p.tables e below (s₁.setTop (mkF m 5 #[.val (.int p0), .unset, .unset] [(.int (3 : Int32)), (.int (p0 &&& (2147483647 : Int32)))])) _
    refine iremM (g := (mkF m 5 #[.val (.int p0), .unset, .unset] [(.int (3 : Int32)), (.int (p0 &&& (2147483647 : Int32)))])) X0 hx rfl (hb hby at_5) rfl (by decide) ?_
    show Steps p.tables e below (s₁.setTop (mkF m 6 #[.val (.int p0), .unset, .unset] [(.int ((p0 &&& (2147483647 : Int32)) % (3 : Int32)))])) _
    refine XS.istoreN X0.here hx rfl (hb hby at_6) rfl (l' := #[.val (.int p0), .val (.int ((p0 &&& (2147483647 : Int32)) % (3 : Int32))), .unset]) rfl ?_
    exact k
  rcases own_mod3 p0 with hv76 | hv76 | hv76
  · have pre77 : ∀ t, Steps p.tables e below (s₁.setTop (mkF m 7 #[.val (.int p0), .val (.int (0 : Int32)), .unset] [])) t → Steps p.tables e below (s₁.setTop (entryFrame m #[(.int p0)] maxLocals)) t := fun t k => pre75 t (by rw [hv76]; exact k)
    obtain ⟨_, _, ⟨T78, L78, k78, n78⟩, -, X78, ⟨Lc78, hQ78, l78, y78, z78⟩, st78⟩ := Jvm.LawKit.callS X0 hx (y := (⟨"com/example/declarant/declarant/hire/DpaeStatus", "ofCode", "(I)Lcom/example/declarant/declarant/hire/DpaeStatus;"⟩ : MethodName)) hown (mvT hZ (hw _ (List.mem_of_getElem? (i := 1) rfl))) (mvT hZ (hw _ (List.mem_of_getElem? (i := 2) rfl))) (mvT hZ (hw _ (List.mem_of_getElem? (i := 3) rfl))) (mvT hZ (hw _ (List.mem_of_getElem? (i := 4) rfl))) (by decide) (backOf (W := 0) (rm10 l Z a0 hw [] va kk w0 w1 w2 h0 n0 (by omega) H0 H1 H2 H3 H4 H5) hZ (hw _ (List.mem_of_getElem? (i := 4) rfl)) (hw _ (List.mem_of_getElem? (i := 3) rfl)) (by decide) (by decide)) (g := (mkF m 8 #[.val (.int p0), .val (.int (0 : Int32)), .unset] [(.int (0 : Int32))])) rfl (by rw [hml]; rfl) (argsL := [(.int (0 : Int32))]) (rest := []) (lenOf pd_1 rfl) rfl (by show 2 * 0 + _ ≤ _; exact Nat.le_of_eq rfl) (hb hby at_8) (fun _ _ => ⟨rfl, e0, (by decide : 0 + 1 ≤ _), (by decide : 0 + 3 ≤ _)⟩)
    dsimp only [Pt.U, Pt.locs, Pt.cells, Pt.slots] at X78 l78 y78 z78 st78 hQ78
    subst l78 y78 z78
    obtain ⟨rfl, N78q, K78⟩ := hQ78
    have N78 := Fr.app N0 N78q
    have z79 := K78.1
    have KC80 : Keep h0 T78.heap [] := KC0.trans K78 all0
    have Fc81 := (H6.ext (own_ext K78))
    obtain ⟨_, _, ⟨T82, L82, k82, n82⟩, -, X82, ⟨Lc82, hQ82, l82, y82, z82⟩, st82⟩ := Jvm.LawKit.callS X78 hx (y := (⟨"com/example/declarant/declarant/hire/DpaeStatusOfCodePinLaw", "expected", "(I)Lcom/example/declarant/declarant/hire/DpaeStatus;"⟩ : MethodName)) hown (mvT hZ (hw _ (List.mem_of_getElem? (i := 25) rfl))) (mvT hZ (hw _ (List.mem_of_getElem? (i := 26) rfl))) (mvT hZ (hw _ (List.mem_of_getElem? (i := 27) rfl))) (mvT hZ (hw _ (List.mem_of_getElem? (i := 28) rfl))) (by decide) (backOf (W := 1) (rm30 l Z a0 hw [] w0 T78.heap n0 (by omega) Fc81) hZ (hw _ (List.mem_of_getElem? (i := 28) rfl)) (hw _ (List.mem_of_getElem? (i := 27) rfl)) (by decide) (by decide)) (g := (mkF m 14 #[.val (.int p0), .val (.int (0 : Int32)), .val (.ref w0)] [(.int (0 : Int32)), (.ref w0)])) rfl (by rw [hml]; rfl) (argsL := [(.int (0 : Int32))]) (rest := [(.ref w0)]) (lenOf pd_1 rfl) rfl (by show 2 * 0 + _ ≤ _; exact Nat.le_of_eq rfl) (hb hby at_14) (fun _ _ => ⟨rfl, rfl, (by decide : 1 + 0 ≤ _), (by decide : 3 + 0 ≤ _)⟩)
    dsimp only [Pt.U, Pt.locs, Pt.cells, Pt.slots] at X82 l82 y82 z82 st82 hQ82
    subst l82 y82 z82
    obtain ⟨rfl, N82q, e82⟩ := hQ82
    have N82 := Fr.app N78 N82q
    have Fc83 := (H3.keep K78 nin0)
    have Fc85 := (H9.keep K78)
    obtain ⟨cq84, kq84, qa84, qb84, qc84⟩ := isOf hZ e82 Fc85
    obtain ⟨_, _, ⟨T84, L84, k84, n84⟩, -, X84, ⟨Lc84, hQ84, l84, y84, z84⟩, st84⟩ := X82.virtualBack hx (y := (⟨"com/example/declarant/declarant/hire/DpaeStatus", "code", "()I"⟩ : MethodName)) (z := (⟨"com/example/declarant/declarant/hire/DpaeStatus", "code", "()I"⟩ : MethodName)) hown (mvT hZ (hw _ (List.mem_of_getElem? (i := 30) rfl))) (mvT hZ (hw _ (List.mem_of_getElem? (i := 31) rfl))) (notFace_of_selects (args := #[]) (mvT hZ (hw _ (List.mem_of_getElem? (i := 33) rfl)))) (mvT hZ (hw _ (List.mem_of_getElem? (i := 33) rfl))) (mvT hZ (hw _ (List.mem_of_getElem? (i := 32) rfl))) (by decide) (backOf (W := 0) (rm40 l Z a0 hw [] w0 T78.heap n0 (by omega) Fc83) hZ (hw _ (List.mem_of_getElem? (i := 34) rfl)) (hw _ (List.mem_of_getElem? (i := 3) rfl)) (by decide) (by decide)) qa84 qc84 (g := (mkF m 21 #[.val (.int p0), .val (.int (0 : Int32)), .val (.ref w0)] [(.ref w0)])) rfl (by rw [hml]; rfl) (Steps.refl _) (argsL := []) (rest := []) (lenOf pd_2 rfl) rfl (by show 2 * 0 + _ ≤ _; exact Nat.le_of_eq rfl) (hb hby at_21) (fun _ _ => ⟨rfl, e82, (by decide : 1 + 0 ≤ _), (by decide : 3 + 0 ≤ _)⟩)
    dsimp only [Pt.U, Pt.locs, Pt.cells, Pt.slots] at X84 l84 y84 z84 st84 hQ84
    subst l84 y84 z84
    obtain ⟨rfl, N84q, e84⟩ := hQ84
    have N84 := Fr.app N82 N84q
    obtain ⟨fs, hr, hrun, hended, hW, hsame⟩ := X84.leave (v := some (.int (1 : Int32))) (fun h => by rw [Bd.returns] at h; cases h)
    refine ⟨_, _, pre77 _ ?_, hrun, hended, _, _, rfl, ?_, ⟨_, rfl⟩, hW, hsame.mono (by decide) (by decide)⟩
    · show Steps p.tables e below (s₁.setTop (mkF m 7 #[.val (.int p0), .val (.int (0 : Int32)), .unset] [])) _
      refine XS.iloadN X0.here hx rfl (hb hby at_7) rfl ?_
      show Steps p.tables e below (s₁.setTop (mkF m 8 #[.val (.int p0), .val (.int (0 : Int32)), .unset] [(.int (0 : Int32))])) _
      refine st78 _ ?_
      show Steps p.tables e below (T78.setTop (mkF m 11 #[.val (.int p0), .val (.int (0 : Int32)), .unset] [(.ref w0)])) _
      refine XS.astoreN X78.here hx rfl (hb hby at_11) rfl rfl (l' := #[.val (.int p0), .val (.int (0 : Int32)), .val (.ref w0)]) rfl ?_
      show Steps p.tables e below (T78.setTop (mkF m 12 #[.val (.int p0), .val (.int (0 : Int32)), .val (.ref w0)] [])) _
      refine XS.aloadN X78.here hx rfl (hb hby at_12) rfl rfl ?_
      show Steps p.tables e below (T78.setTop (mkF m 13 #[.val (.int p0), .val (.int (0 : Int32)), .val (.ref w0)] [(.ref w0)])) _
      refine XS.iloadN X78.here hx rfl (hb hby at_13) rfl ?_
      show Steps p.tables e below (T78.setTop (mkF m 14 #[.val (.int p0), .val (.int (0 : Int32)), .val (.ref w0)] [(.int (0 : Int32)), (.ref w0)])) _
      refine st82 _ ?_
      show Steps p.tables e below (T82.setTop (mkF m 17 #[.val (.int p0), .val (.int (0 : Int32)), .val (.ref w0)] [(.ref w0), (.ref w0)])) _
      refine Jvm.RoadKit.acmp (g := (mkF m 17 #[.val (.int p0), .val (.int (0 : Int32)), .val (.ref w0)] [(.ref w0), (.ref w0)])) X82 hx rfl rfl rfl (pc0 := 17) (pc' := 20) (same := true) rfl (hb hby at_17) rfl (decide_eq_true rfl) (by decide) (by decide) ?_
      show Steps p.tables e below (T82.setTop (mkF m 20 #[.val (.int p0), .val (.int (0 : Int32)), .val (.ref w0)] [])) _
      refine XS.aloadN X82.here hx rfl (hb hby at_20) rfl rfl ?_
      show Steps p.tables e below (T82.setTop (mkF m 21 #[.val (.int p0), .val (.int (0 : Int32)), .val (.ref w0)] [(.ref w0)])) _
      refine st84.trans ?_
      show Steps p.tables e below (T84.setTop (mkF m 24 #[.val (.int p0), .val (.int (0 : Int32)), .val (.ref w0)] [(.int (0 : Int32))])) _
      refine XS.iloadN X84.here hx rfl (hb hby at_24) rfl ?_
      show Steps p.tables e below (T84.setTop (mkF m 25 #[.val (.int p0), .val (.int (0 : Int32)), .val (.ref w0)] [(.int (0 : Int32)), (.int (0 : Int32))])) _
      refine XS.icmpNo X84.here hx rfl (hb hby at_25) rfl (teq (by decide : (0 : Int32) = (0 : Int32))).2 ?_
      show Steps p.tables e below (T84.setTop (mkF m 28 #[.val (.int p0), .val (.int (0 : Int32)), .val (.ref w0)] [])) _
      refine XS.iconst X84.here hx rfl (hb hby at_28) ?_
      show Steps p.tables e below (T84.setTop (mkF m 29 #[.val (.int p0), .val (.int (0 : Int32)), .val (.ref w0)] [(.int (1 : Int32))])) _
      refine XS.goto X84.here hx rfl (pc0 := 29) (pc' := 33) rfl (hb hby at_29) (by decide) (by decide) ?_
      show Steps p.tables e below (T84.setTop (mkF m 33 #[.val (.int p0), .val (.int (0 : Int32)), .val (.ref w0)] [(.int (1 : Int32))])) _
      exact retN X84 hx (t := .boolean) Bd.returns (by simp) (hb hby at_33) hr
    · show Qrm0 Z p0 va kk w0 w1 w2 h0 n0 _ T84.heap _
      rw [e84]
      exact ⟨rfl, N84, KC80⟩
  · have pre86 : ∀ t, Steps p.tables e below (s₁.setTop (mkF m 7 #[.val (.int p0), .val (.int (1 : Int32)), .unset] [])) t → Steps p.tables e below (s₁.setTop (entryFrame m #[(.int p0)] maxLocals)) t := fun t k => pre75 t (by rw [hv76]; exact k)
    obtain ⟨_, _, ⟨T87, L87, k87, n87⟩, -, X87, ⟨Lc87, hQ87, l87, y87, z87⟩, st87⟩ := Jvm.LawKit.callS X0 hx (y := (⟨"com/example/declarant/declarant/hire/DpaeStatus", "ofCode", "(I)Lcom/example/declarant/declarant/hire/DpaeStatus;"⟩ : MethodName)) hown (mvT hZ (hw _ (List.mem_of_getElem? (i := 1) rfl))) (mvT hZ (hw _ (List.mem_of_getElem? (i := 2) rfl))) (mvT hZ (hw _ (List.mem_of_getElem? (i := 3) rfl))) (mvT hZ (hw _ (List.mem_of_getElem? (i := 4) rfl))) (by decide) (backOf (W := 0) (rm11 l Z a0 hw [] va kk w0 w1 w2 h0 n0 (by omega) H0 H1 H2 H3 H4 H5) hZ (hw _ (List.mem_of_getElem? (i := 4) rfl)) (hw _ (List.mem_of_getElem? (i := 3) rfl)) (by decide) (by decide)) (g := (mkF m 8 #[.val (.int p0), .val (.int (1 : Int32)), .unset] [(.int (1 : Int32))])) rfl (by rw [hml]; rfl) (argsL := [(.int (1 : Int32))]) (rest := []) (lenOf pd_1 rfl) rfl (by show 2 * 0 + _ ≤ _; exact Nat.le_of_eq rfl) (hb hby at_8) (fun _ _ => ⟨rfl, e0, (by decide : 0 + 1 ≤ _), (by decide : 0 + 3 ≤ _)⟩)
    dsimp only [Pt.U, Pt.locs, Pt.cells, Pt.slots] at X87 l87 y87 z87 st87 hQ87
    subst l87 y87 z87
    obtain ⟨rfl, N87q, K87⟩ := hQ87
    have N87 := Fr.app N0 N87q
    have z88 := K87.1
    have KC89 : Keep h0 T87.heap [] := KC0.trans K87 all0
    have Fc90 := (H7.ext (own_ext K87))
    obtain ⟨_, _, ⟨T91, L91, k91, n91⟩, -, X91, ⟨Lc91, hQ91, l91, y91, z91⟩, st91⟩ := Jvm.LawKit.callS X87 hx (y := (⟨"com/example/declarant/declarant/hire/DpaeStatusOfCodePinLaw", "expected", "(I)Lcom/example/declarant/declarant/hire/DpaeStatus;"⟩ : MethodName)) hown (mvT hZ (hw _ (List.mem_of_getElem? (i := 25) rfl))) (mvT hZ (hw _ (List.mem_of_getElem? (i := 26) rfl))) (mvT hZ (hw _ (List.mem_of_getElem? (i := 27) rfl))) (mvT hZ (hw _ (List.mem_of_getElem? (i := 28) rfl))) (by decide) (backOf (W := 1) (rm31 l Z a0 hw [] w1 T87.heap n0 (by omega) Fc90) hZ (hw _ (List.mem_of_getElem? (i := 28) rfl)) (hw _ (List.mem_of_getElem? (i := 27) rfl)) (by decide) (by decide)) (g := (mkF m 14 #[.val (.int p0), .val (.int (1 : Int32)), .val (.ref w1)] [(.int (1 : Int32)), (.ref w1)])) rfl (by rw [hml]; rfl) (argsL := [(.int (1 : Int32))]) (rest := [(.ref w1)]) (lenOf pd_1 rfl) rfl (by show 2 * 0 + _ ≤ _; exact Nat.le_of_eq rfl) (hb hby at_14) (fun _ _ => ⟨rfl, rfl, (by decide : 1 + 0 ≤ _), (by decide : 3 + 0 ≤ _)⟩)
    dsimp only [Pt.U, Pt.locs, Pt.cells, Pt.slots] at X91 l91 y91 z91 st91 hQ91
    subst l91 y91 z91
    obtain ⟨rfl, N91q, e91⟩ := hQ91
    have N91 := Fr.app N87 N91q
    have Fc92 := (H4.keep K87 nin0)
    have Fc94 := (H10.keep K87)
    obtain ⟨cq93, kq93, qa93, qb93, qc93⟩ := isOf hZ e91 Fc94
    obtain ⟨_, _, ⟨T93, L93, k93, n93⟩, -, X93, ⟨Lc93, hQ93, l93, y93, z93⟩, st93⟩ := X91.virtualBack hx (y := (⟨"com/example/declarant/declarant/hire/DpaeStatus", "code", "()I"⟩ : MethodName)) (z := (⟨"com/example/declarant/declarant/hire/DpaeStatus", "code", "()I"⟩ : MethodName)) hown (mvT hZ (hw _ (List.mem_of_getElem? (i := 30) rfl))) (mvT hZ (hw _ (List.mem_of_getElem? (i := 31) rfl))) (notFace_of_selects (args := #[]) (mvT hZ (hw _ (List.mem_of_getElem? (i := 33) rfl)))) (mvT hZ (hw _ (List.mem_of_getElem? (i := 33) rfl))) (mvT hZ (hw _ (List.mem_of_getElem? (i := 32) rfl))) (by decide) (backOf (W := 0) (rm41 l Z a0 hw [] w1 T87.heap n0 (by omega) Fc92) hZ (hw _ (List.mem_of_getElem? (i := 34) rfl)) (hw _ (List.mem_of_getElem? (i := 3) rfl)) (by decide) (by decide)) qa93 qc93 (g := (mkF m 21 #[.val (.int p0), .val (.int (1 : Int32)), .val (.ref w1)] [(.ref w1)])) rfl (by rw [hml]; rfl) (Steps.refl _) (argsL := []) (rest := []) (lenOf pd_2 rfl) rfl (by show 2 * 0 + _ ≤ _; exact Nat.le_of_eq rfl) (hb hby at_21) (fun _ _ => ⟨rfl, e91, (by decide : 1 + 0 ≤ _), (by decide : 3 + 0 ≤ _)⟩)
    dsimp only [Pt.U, Pt.locs, Pt.cells, Pt.slots] at X93 l93 y93 z93 st93 hQ93
    subst l93 y93 z93
    obtain ⟨rfl, N93q, e93⟩ := hQ93
    have N93 := Fr.app N91 N93q
    obtain ⟨fs, hr, hrun, hended, hW, hsame⟩ := X93.leave (v := some (.int (1 : Int32))) (fun h => by rw [Bd.returns] at h; cases h)
    refine ⟨_, _, pre86 _ ?_, hrun, hended, _, _, rfl, ?_, ⟨_, rfl⟩, hW, hsame.mono (by decide) (by decide)⟩
    · show Steps p.tables e below (s₁.setTop (mkF m 7 #[.val (.int p0), .val (.int (1 : Int32)), .unset] [])) _
      refine XS.iloadN X0.here hx rfl (hb hby at_7) rfl ?_
      show Steps p.tables e below (s₁.setTop (mkF m 8 #[.val (.int p0), .val (.int (1 : Int32)), .unset] [(.int (1 : Int32))])) _
      refine st87 _ ?_
      show Steps p.tables e below (T87.setTop (mkF m 11 #[.val (.int p0), .val (.int (1 : Int32)), .unset] [(.ref w1)])) _
      refine XS.astoreN X87.here hx rfl (hb hby at_11) rfl rfl (l' := #[.val (.int p0), .val (.int (1 : Int32)), .val (.ref w1)]) rfl ?_
      show Steps p.tables e below (T87.setTop (mkF m 12 #[.val (.int p0), .val (.int (1 : Int32)), .val (.ref w1)] [])) _
      refine XS.aloadN X87.here hx rfl (hb hby at_12) rfl rfl ?_
      show Steps p.tables e below (T87.setTop (mkF m 13 #[.val (.int p0), .val (.int (1 : Int32)), .val (.ref w1)] [(.ref w1)])) _
      refine XS.iloadN X87.here hx rfl (hb hby at_13) rfl ?_
      show Steps p.tables e below (T87.setTop (mkF m 14 #[.val (.int p0), .val (.int (1 : Int32)), .val (.ref w1)] [(.int (1 : Int32)), (.ref w1)])) _
      refine st91 _ ?_
      show Steps p.tables e below (T91.setTop (mkF m 17 #[.val (.int p0), .val (.int (1 : Int32)), .val (.ref w1)] [(.ref w1), (.ref w1)])) _
      refine Jvm.RoadKit.acmp (g := (mkF m 17 #[.val (.int p0), .val (.int (1 : Int32)), .val (.ref w1)] [(.ref w1), (.ref w1)])) X91 hx rfl rfl rfl (pc0 := 17) (pc' := 20) (same := true) rfl (hb hby at_17) rfl (decide_eq_true rfl) (by decide) (by decide) ?_
      show Steps p.tables e below (T91.setTop (mkF m 20 #[.val (.int p0), .val (.int (1 : Int32)), .val (.ref w1)] [])) _
      refine XS.aloadN X91.here hx rfl (hb hby at_20) rfl rfl ?_
      show Steps p.tables e below (T91.setTop (mkF m 21 #[.val (.int p0), .val (.int (1 : Int32)), .val (.ref w1)] [(.ref w1)])) _
      refine st93.trans ?_
      show Steps p.tables e below (T93.setTop (mkF m 24 #[.val (.int p0), .val (.int (1 : Int32)), .val (.ref w1)] [(.int (1 : Int32))])) _
      refine XS.iloadN X93.here hx rfl (hb hby at_24) rfl ?_
      show Steps p.tables e below (T93.setTop (mkF m 25 #[.val (.int p0), .val (.int (1 : Int32)), .val (.ref w1)] [(.int (1 : Int32)), (.int (1 : Int32))])) _
      refine XS.icmpNo X93.here hx rfl (hb hby at_25) rfl (teq (by decide : (1 : Int32) = (1 : Int32))).2 ?_
      show Steps p.tables e below (T93.setTop (mkF m 28 #[.val (.int p0), .val (.int (1 : Int32)), .val (.ref w1)] [])) _
      refine XS.iconst X93.here hx rfl (hb hby at_28) ?_
      show Steps p.tables e below (T93.setTop (mkF m 29 #[.val (.int p0), .val (.int (1 : Int32)), .val (.ref w1)] [(.int (1 : Int32))])) _
      refine XS.goto X93.here hx rfl (pc0 := 29) (pc' := 33) rfl (hb hby at_29) (by decide) (by decide) ?_
      show Steps p.tables e below (T93.setTop (mkF m 33 #[.val (.int p0), .val (.int (1 : Int32)), .val (.ref w1)] [(.int (1 : Int32))])) _
      exact retN X93 hx (t := .boolean) Bd.returns (by simp) (hb hby at_33) hr
    · show Qrm0 Z p0 va kk w0 w1 w2 h0 n0 _ T93.heap _
      rw [e93]
      exact ⟨rfl, N93, KC89⟩
  · have pre95 : ∀ t, Steps p.tables e below (s₁.setTop (mkF m 7 #[.val (.int p0), .val (.int (2 : Int32)), .unset] [])) t → Steps p.tables e below (s₁.setTop (entryFrame m #[(.int p0)] maxLocals)) t := fun t k => pre75 t (by rw [hv76]; exact k)
    obtain ⟨_, _, ⟨T96, L96, k96, n96⟩, -, X96, ⟨Lc96, hQ96, l96, y96, z96⟩, st96⟩ := Jvm.LawKit.callS X0 hx (y := (⟨"com/example/declarant/declarant/hire/DpaeStatus", "ofCode", "(I)Lcom/example/declarant/declarant/hire/DpaeStatus;"⟩ : MethodName)) hown (mvT hZ (hw _ (List.mem_of_getElem? (i := 1) rfl))) (mvT hZ (hw _ (List.mem_of_getElem? (i := 2) rfl))) (mvT hZ (hw _ (List.mem_of_getElem? (i := 3) rfl))) (mvT hZ (hw _ (List.mem_of_getElem? (i := 4) rfl))) (by decide) (backOf (W := 0) (rm12 l Z a0 hw [] va kk w0 w1 w2 h0 n0 (by omega) H0 H1 H2 H3 H4 H5) hZ (hw _ (List.mem_of_getElem? (i := 4) rfl)) (hw _ (List.mem_of_getElem? (i := 3) rfl)) (by decide) (by decide)) (g := (mkF m 8 #[.val (.int p0), .val (.int (2 : Int32)), .unset] [(.int (2 : Int32))])) rfl (by rw [hml]; rfl) (argsL := [(.int (2 : Int32))]) (rest := []) (lenOf pd_1 rfl) rfl (by show 2 * 0 + _ ≤ _; exact Nat.le_of_eq rfl) (hb hby at_8) (fun _ _ => ⟨rfl, e0, (by decide : 0 + 1 ≤ _), (by decide : 0 + 3 ≤ _)⟩)
    dsimp only [Pt.U, Pt.locs, Pt.cells, Pt.slots] at X96 l96 y96 z96 st96 hQ96
    subst l96 y96 z96
    obtain ⟨rfl, N96q, K96⟩ := hQ96
    have N96 := Fr.app N0 N96q
    have z97 := K96.1
    have KC98 : Keep h0 T96.heap [] := KC0.trans K96 all0
    have Fc99 := (H8.ext (own_ext K96))
    obtain ⟨_, _, ⟨T100, L100, k100, n100⟩, -, X100, ⟨Lc100, hQ100, l100, y100, z100⟩, st100⟩ := Jvm.LawKit.callS X96 hx (y := (⟨"com/example/declarant/declarant/hire/DpaeStatusOfCodePinLaw", "expected", "(I)Lcom/example/declarant/declarant/hire/DpaeStatus;"⟩ : MethodName)) hown (mvT hZ (hw _ (List.mem_of_getElem? (i := 25) rfl))) (mvT hZ (hw _ (List.mem_of_getElem? (i := 26) rfl))) (mvT hZ (hw _ (List.mem_of_getElem? (i := 27) rfl))) (mvT hZ (hw _ (List.mem_of_getElem? (i := 28) rfl))) (by decide) (backOf (W := 1) (rm32 l Z a0 hw [] w2 T96.heap n0 (by omega) Fc99) hZ (hw _ (List.mem_of_getElem? (i := 28) rfl)) (hw _ (List.mem_of_getElem? (i := 27) rfl)) (by decide) (by decide)) (g := (mkF m 14 #[.val (.int p0), .val (.int (2 : Int32)), .val (.ref w2)] [(.int (2 : Int32)), (.ref w2)])) rfl (by rw [hml]; rfl) (argsL := [(.int (2 : Int32))]) (rest := [(.ref w2)]) (lenOf pd_1 rfl) rfl (by show 2 * 0 + _ ≤ _; exact Nat.le_of_eq rfl) (hb hby at_14) (fun _ _ => ⟨rfl, rfl, (by decide : 1 + 0 ≤ _), (by decide : 3 + 0 ≤ _)⟩)
    dsimp only [Pt.U, Pt.locs, Pt.cells, Pt.slots] at X100 l100 y100 z100 st100 hQ100
    subst l100 y100 z100
    obtain ⟨rfl, N100q, e100⟩ := hQ100
    have N100 := Fr.app N96 N100q
    have Fc101 := (H5.keep K96 nin0)
    have Fc103 := (H11.keep K96)
    obtain ⟨cq102, kq102, qa102, qb102, qc102⟩ := isOf hZ e100 Fc103
    obtain ⟨_, _, ⟨T102, L102, k102, n102⟩, -, X102, ⟨Lc102, hQ102, l102, y102, z102⟩, st102⟩ := X100.virtualBack hx (y := (⟨"com/example/declarant/declarant/hire/DpaeStatus", "code", "()I"⟩ : MethodName)) (z := (⟨"com/example/declarant/declarant/hire/DpaeStatus", "code", "()I"⟩ : MethodName)) hown (mvT hZ (hw _ (List.mem_of_getElem? (i := 30) rfl))) (mvT hZ (hw _ (List.mem_of_getElem? (i := 31) rfl))) (notFace_of_selects (args := #[]) (mvT hZ (hw _ (List.mem_of_getElem? (i := 33) rfl)))) (mvT hZ (hw _ (List.mem_of_getElem? (i := 33) rfl))) (mvT hZ (hw _ (List.mem_of_getElem? (i := 32) rfl))) (by decide) (backOf (W := 0) (rm42 l Z a0 hw [] w2 T96.heap n0 (by omega) Fc101) hZ (hw _ (List.mem_of_getElem? (i := 34) rfl)) (hw _ (List.mem_of_getElem? (i := 3) rfl)) (by decide) (by decide)) qa102 qc102 (g := (mkF m 21 #[.val (.int p0), .val (.int (2 : Int32)), .val (.ref w2)] [(.ref w2)])) rfl (by rw [hml]; rfl) (Steps.refl _) (argsL := []) (rest := []) (lenOf pd_2 rfl) rfl (by show 2 * 0 + _ ≤ _; exact Nat.le_of_eq rfl) (hb hby at_21) (fun _ _ => ⟨rfl, e100, (by decide : 1 + 0 ≤ _), (by decide : 3 + 0 ≤ _)⟩)
    dsimp only [Pt.U, Pt.locs, Pt.cells, Pt.slots] at X102 l102 y102 z102 st102 hQ102
    subst l102 y102 z102
    obtain ⟨rfl, N102q, e102⟩ := hQ102
    have N102 := Fr.app N100 N102q
    obtain ⟨fs, hr, hrun, hended, hW, hsame⟩ := X102.leave (v := some (.int (1 : Int32))) (fun h => by rw [Bd.returns] at h; cases h)
    refine ⟨_, _, pre95 _ ?_, hrun, hended, _, _, rfl, ?_, ⟨_, rfl⟩, hW, hsame.mono (by decide) (by decide)⟩
    · show Steps p.tables e below (s₁.setTop (mkF m 7 #[.val (.int p0), .val (.int (2 : Int32)), .unset] [])) _
      refine XS.iloadN X0.here hx rfl (hb hby at_7) rfl ?_
      show Steps p.tables e below (s₁.setTop (mkF m 8 #[.val (.int p0), .val (.int (2 : Int32)), .unset] [(.int (2 : Int32))])) _
      refine st96 _ ?_
      show Steps p.tables e below (T96.setTop (mkF m 11 #[.val (.int p0), .val (.int (2 : Int32)), .unset] [(.ref w2)])) _
      refine XS.astoreN X96.here hx rfl (hb hby at_11) rfl rfl (l' := #[.val (.int p0), .val (.int (2 : Int32)), .val (.ref w2)]) rfl ?_
      show Steps p.tables e below (T96.setTop (mkF m 12 #[.val (.int p0), .val (.int (2 : Int32)), .val (.ref w2)] [])) _
      refine XS.aloadN X96.here hx rfl (hb hby at_12) rfl rfl ?_
      show Steps p.tables e below (T96.setTop (mkF m 13 #[.val (.int p0), .val (.int (2 : Int32)), .val (.ref w2)] [(.ref w2)])) _
      refine XS.iloadN X96.here hx rfl (hb hby at_13) rfl ?_
      show Steps p.tables e below (T96.setTop (mkF m 14 #[.val (.int p0), .val (.int (2 : Int32)), .val (.ref w2)] [(.int (2 : Int32)), (.ref w2)])) _
      refine st100 _ ?_
      show Steps p.tables e below (T100.setTop (mkF m 17 #[.val (.int p0), .val (.int (2 : Int32)), .val (.ref w2)] [(.ref w2), (.ref w2)])) _
      refine Jvm.RoadKit.acmp (g := (mkF m 17 #[.val (.int p0), .val (.int (2 : Int32)), .val (.ref w2)] [(.ref w2), (.ref w2)])) X100 hx rfl rfl rfl (pc0 := 17) (pc' := 20) (same := true) rfl (hb hby at_17) rfl (decide_eq_true rfl) (by decide) (by decide) ?_
      show Steps p.tables e below (T100.setTop (mkF m 20 #[.val (.int p0), .val (.int (2 : Int32)), .val (.ref w2)] [])) _
      refine XS.aloadN X100.here hx rfl (hb hby at_20) rfl rfl ?_
      show Steps p.tables e below (T100.setTop (mkF m 21 #[.val (.int p0), .val (.int (2 : Int32)), .val (.ref w2)] [(.ref w2)])) _
      refine st102.trans ?_
      show Steps p.tables e below (T102.setTop (mkF m 24 #[.val (.int p0), .val (.int (2 : Int32)), .val (.ref w2)] [(.int (2 : Int32))])) _
      refine XS.iloadN X102.here hx rfl (hb hby at_24) rfl ?_
      show Steps p.tables e below (T102.setTop (mkF m 25 #[.val (.int p0), .val (.int (2 : Int32)), .val (.ref w2)] [(.int (2 : Int32)), (.int (2 : Int32))])) _
      refine XS.icmpNo X102.here hx rfl (hb hby at_25) rfl (teq (by decide : (2 : Int32) = (2 : Int32))).2 ?_
      show Steps p.tables e below (T102.setTop (mkF m 28 #[.val (.int p0), .val (.int (2 : Int32)), .val (.ref w2)] [])) _
      refine XS.iconst X102.here hx rfl (hb hby at_28) ?_
      show Steps p.tables e below (T102.setTop (mkF m 29 #[.val (.int p0), .val (.int (2 : Int32)), .val (.ref w2)] [(.int (1 : Int32))])) _
      refine XS.goto X102.here hx rfl (pc0 := 29) (pc' := 33) rfl (hb hby at_29) (by decide) (by decide) ?_
      show Steps p.tables e below (T102.setTop (mkF m 33 #[.val (.int p0), .val (.int (2 : Int32)), .val (.ref w2)] [(.int (1 : Int32))])) _
      exact retN X102 hx (t := .boolean) Bd.returns (by simp) (hb hby at_33) hr
    · show Qrm0 Z p0 va kk w0 w1 w2 h0 n0 _ T102.heap _
      rw [e102]
      exact ⟨rfl, N102, KC98⟩
set_option maxRecDepth 65536 in
set_option maxHeartbeats 40000000 in
theorem comes_1 {Post : Tables → Env → Array Value → State → Outcome → State → Prop} (hpost : ∀ tb e args s v u, (limb_1_1.after args s (.returned v) u = true ∧ limb_1_2.after args s (.returned v) u = true ∧ True) → FrameEnd s (.returned v) u (Jvm.fieldLocs frame_1_writes args s ++ Jvm.arrayLocs frame_1_arrays args s ++ Jvm.staticLocs frame_1_statics s) 16 128 → Post tb e args s (.returned v) u) :
    ArmFor flags0 classFile x code maxLocals ret World_1 tables_1 room_1 Calls_1 rest_1 Pre_1 Post := by
  intro l hfl _ _ p e ha hc hk s m args below hf hA hF happ hP
  obtain ⟨hcalls, hrest, hpre⟩ := hP
  obtain ⟨-, -, -, hnamed, -, -, -, hat⟩ := (Spec.applies_iff hf).mp happ
  obtain ⟨hg, hn⟩ := and_e (Cond.before_iff.mp (show (Jvm.Cond.and given_1 narrow_1).before args s = true from hpre))
  obtain ⟨gg0, gg1⟩ := and_e hg
  obtain ⟨w0, rfl⟩ : ∃ w0 : Value, args = #[w0] := by
    have hs : args.size = 1 := by simpa [Cond.value, given_1] using gg0
    obtain ⟨L⟩ := args
    match L, hs with
    | [w0], _ => exact ⟨w0, rfl⟩
  have hw := fun d (hd : d ∈ tables_1) => atoms_spec (ws := Jvm.Cond.code x code maxLocals ret :: tables_1) hat d (List.mem_cons_of_mem _ hd)
  have hfit : Fit s := fun {y c} hc i hi => by
    obtain ⟨ha, rfl⟩ := Array.getElem?_eq_some_iff.mp hc
    have q := List.all_eq_true.mp ((Array.all_eq_true_iff_forall_mem.mp hF) _ (Array.getElem_mem ha)) i (List.mem_range.mpr hi)
    simpa [Array.getElem?_eq_getElem hi] using q
  obtain ⟨i0, ei0⟩ := is_v gg1
  obtain rfl : w0 = (.int i0) := Option.some.inj ei0
  unfold narrow_1 at hn
  obtain ⟨nw0, nr0⟩ := and_e hn
  obtain ⟨nw1, nr1⟩ := and_e nr0
  obtain ⟨nw2, nr2⟩ := and_e nr1
  obtain ⟨nw3, nr3⟩ := and_e nr2
  obtain ⟨nw4, nr4⟩ := and_e nr3
  obtain ⟨nw5, nr5⟩ := and_e nr4
  obtain ⟨nw6, nr6⟩ := and_e nr5
  obtain ⟨nw7, nr7⟩ := and_e nr6
  obtain ⟨nw8, nr8⟩ := and_e nr7
  obtain ⟨nw9, nr9⟩ := and_e nr8
  obtain ⟨nw10, nw11⟩ := and_e nr9
  obtain ⟨a_READY, v_READY⟩ := exa_v nw3
  have E_READY := Exa.start v_READY nw3
  have S_READY := Sta.start v_READY (Or.inr ⟨(hw _ (List.mem_of_getElem? (i := 3) rfl)), (hw _ (List.mem_of_getElem? (i := 17) rfl))⟩)
  obtain ⟨a_SENT, v_SENT⟩ := exa_v nw5
  have E_SENT := Exa.start v_SENT nw5
  have S_SENT := Sta.start v_SENT (Or.inr ⟨(hw _ (List.mem_of_getElem? (i := 3) rfl)), (hw _ (List.mem_of_getElem? (i := 18) rfl))⟩)
  obtain ⟨a_ACKNOWLEDGED, v_ACKNOWLEDGED⟩ := exa_v nw7
  have E_ACKNOWLEDGED := Exa.start v_ACKNOWLEDGED nw7
  have S_ACKNOWLEDGED := Sta.start v_ACKNOWLEDGED (Or.inr ⟨(hw _ (List.mem_of_getElem? (i := 3) rfl)), (hw _ (List.mem_of_getElem? (i := 19) rfl))⟩)
  have F_READY_code := Fld.start ((fld_at v_READY).symm.trans (own_eqI nw9))
  have F_SENT_code := Fld.start ((fld_at v_SENT).symm.trans (own_eqI nw10))
  have F_ACKNOWLEDGED_code := Fld.start ((fld_at v_ACKNOWLEDGED).symm.trans (own_eqI nw11))
  obtain ⟨va, vva⟩ := arr_v nw0
  obtain ⟨cl, Ac⟩ := Arr.start vva nw0
  have Eva := Exa.start vva nw1
  have Sva := Sta.start vva (Or.inr ⟨(hw _ (List.mem_of_getElem? (i := 3) rfl)), (hw _ (List.mem_of_getElem? (i := 9) rfl))⟩)
  obtain ⟨l1, l2⟩ := own_len Ac vva nw2
  have Vva : Arv s s.heap va cl.cls (.object "com/example/declarant/declarant/hire/DpaeStatus") (3 : Int32) [(.ref a_READY), (.ref a_SENT), (.ref a_ACKNOWLEDGED)] .null := Arv.start hfit Ac l1 l2 (by decide) rfl ⟨own_el Ac vva v_READY nw4, own_el Ac vva v_SENT nw6, own_el Ac vva v_ACKNOWLEDGED nw8, trivial⟩
  obtain ⟨n, o, h1, h2, h3, _, L, rfl, ⟨rfl, N, -⟩, hq⟩ := rm0 l s _ hw tables_1 i0 va _ a_READY a_SENT a_ACKNOWLEDGED s.heap s.heap.size (Nat.le_refl _) Sva Vva Eva F_READY_code F_SENT_code F_ACKNOWLEDGED_code S_READY S_SENT S_ACKNOWLEDGED E_READY E_SENT E_ACKNOWLEDGED p e ha hc hk s m _ below hf ((Spec.applies_iff_loose hf).mp happ).1 ⟨rfl, State.Warmed39.refl s, rfl⟩ trivial
  exact ⟨n, _, h1, h2, h3, hpost _ _ _ _ _ _ ⟨Cond.after_iff.mpr rfl, Cond.after_iff.mpr (eq_i res_at (Term.int_eval (1)) rfl), trivial⟩ ⟨hq.1, hq.2.1, (hq.2.2.sift fun y hy => Or.inr (N y hy)).mono (by decide) (by decide)⟩⟩
theorem main_1_1 : Claimed_1_1 := comes_1 fun _ _ _ _ _ _ h hF => ⟨h.1, hF⟩
theorem main_1_2 : Claimed_1_2 := comes_1 fun _ _ _ _ _ _ h hF => ⟨h.2.1, hF⟩
end Jvm.Pilot.@@N@@
namespace Jvm.Pilot.@@N@@
open Jvm Jvm.ClassFile Sem Op Lib Jvm.Free Jvm.Stand Jvm.Pilot.@@N@@.Jvm.D
/-! MADE BY PROGRAM (witnessworld.py) out of the Statement's table words and the real class files: 13 classes; the members and pool entries that the words name. The judged class is class 1, her method 2. -/
namespace start1
open Jvm.ClassFile
def u (s : String) : CpInfo := .utf8 (stringToUtf16 s)
/-- a pool by its gaps: so many unusable entries, then the entry; so many at the end -/
def gap : Nat → List CpInfo → List CpInfo
  | 0, r => r
  | n + 1, r => .unusable :: gap n r
def poolList (es : List (Nat × CpInfo)) (last : Nat) : List CpInfo := es.foldr (fun e r => gap e.1 (e.2 :: r)) (gap last [])
def pool (es : List (Nat × CpInfo)) (last : Nat) : Array CpInfo := ⟨poolList es last⟩
def fileOf (pool : Array CpInfo) (this : Nat) (attrs : Array Attribute := #[]) (ms : Array MethodInfo := #[]) (fl : Nat := 33) (sup : Nat := 0) (ifs : Array Nat := #[]) (fds : Array FieldInfo := #[]) : ClassFile where
  minorVersion := 0
  majorVersion := 65
  constantPool := pool
  accessFlags := fl
  thisClass := this
  superClass := sup
  interfaces := ifs
  fields := fds
  methods := ms
  attributes := attrs
def plain (name : String) (sup : Option ClassId) : Class where
  name := name
  kind := .ordinary
  loader := none
  accessFlags := 33
  super := sup
  interfaces := #[]
  cf := none
  fields := #[]
  methods := #[]
  instanceTypes := #[]
  staticTypes := #[]
  resolved := #[]
  callSites := []
  init := .initialized
  statics := none
  mirror := none

def pool0 : Array CpInfo := pool [(5, u "<init>"), (0, u "()V"), (1, .class_ 10), (1, u "java/lang/Object"), (85, u "clone"), (0, u "()Ljava/lang/Object;")] 26

def k0m0 : Method := { name := "<init>", desc := "()V", sig := { parameters := [], returnType := none }, accessFlags := 1, code := none }
def k0m1 : Method := { name := "clone", desc := "()Ljava/lang/Object;", sig := { parameters := [], returnType := some (.object "java/lang/Object") }, accessFlags := 260, code := none }
/-- java/lang/Object -/
def k0 : Class := { plain "java/lang/Object" none with
  accessFlags := 33
  interfaces := #[]
  cf := some (fileOf pool0 8 #[] #[{ accessFlags := 1, nameIndex := 5, descriptorIndex := 6, attributes := #[] }, { accessFlags := 260, nameIndex := 96, descriptorIndex := 97, attributes := #[] }] 33 0 #[] #[])
  fields := #[]
  methods := #[k0m0, k0m1]
  instanceTypes := #[]
  staticTypes := #[]
  resolved := Array.replicate 124 none
  statics := none }

def pool1 : Array CpInfo := pool [(2, .class_ 4), (1, u "java/lang/Object"), (0, u "<init>"), (0, u "()V"), (0, .fieldref 8 9), (0, .class_ 10), (0, .nameAndType 11 12), (0, u "com/example/declarant/declarant/hire/DpaeStatus"), (0, u "READY"), (0, u "Lcom/example/declarant/declarant/hire/DpaeStatus;"), (0, .fieldref 8 14), (0, .nameAndType 15 12), (0, u "SENT"), (0, .fieldref 8 17), (0, .nameAndType 18 12), (0, u "ACKNOWLEDGED"), (0, .integer 2147483647), (0, .methodref 8 21), (0, .nameAndType 22 23), (0, u "ofCode"), (0, u "(I)Lcom/example/declarant/declarant/hire/DpaeStatus;"), (0, .methodref 25 26), (0, .class_ 27), (0, .nameAndType 28 23), (0, u "com/example/declarant/declarant/hire/DpaeStatusOfCodePinLaw"), (0, u "expected"), (0, .methodref 8 30), (0, .nameAndType 31 32), (0, u "code"), (0, u "()I"), (3, u "law"), (0, u "(I)Z")] 2

def k1m0 : Method := { name := "<init>", desc := "()V", sig := { parameters := [], returnType := none }, accessFlags := 2, code := none }
def k1c1 : Code := { maxStack := 2, maxLocals := 1, code := method_2_code, exceptionTable := #[], attributes := #[] }
def k1m1 : Method := { name := "expected", desc := "(I)Lcom/example/declarant/declarant/hire/DpaeStatus;", sig := { parameters := [.int], returnType := some (.object "com/example/declarant/declarant/hire/DpaeStatus") }, accessFlags := 10, code := some k1c1 }
def k1c2 : Code := { maxStack := 2, maxLocals := 3, code := code, exceptionTable := #[], attributes := #[] }
def k1m2 : Method := { name := "law", desc := "(I)Z", sig := { parameters := [.int], returnType := some .boolean }, accessFlags := 9, code := some k1c2 }
/-- com/example/declarant/declarant/hire/DpaeStatusOfCodePinLaw -/
def k1 : Class := { plain "com/example/declarant/declarant/hire/DpaeStatusOfCodePinLaw" (some 0) with
  accessFlags := 49
  interfaces := #[]
  cf := some (fileOf pool1 25 #[] #[{ accessFlags := 2, nameIndex := 5, descriptorIndex := 6, attributes := #[] }, { accessFlags := 10, nameIndex := 28, descriptorIndex := 23, attributes := #[] }, { accessFlags := 9, nameIndex := 36, descriptorIndex := 37, attributes := #[] }] 49 2 #[] #[])
  fields := #[]
  methods := #[k1m0, k1m1, k1m2]
  instanceTypes := #[]
  staticTypes := #[]
  resolved := Array.replicate 40 none
  statics := none }

def pool2 : Array CpInfo := pool [(1, .class_ 2), (0, u "java/lang/constant/Constable"), (0, .class_ 4), (0, u "java/lang/Object")] 6

/-- java/lang/constant/Constable -/
def k2 : Class := { plain "java/lang/constant/Constable" (some 0) with
  accessFlags := 1537
  interfaces := #[]
  cf := some (fileOf pool2 1 #[] #[] 1537 3 #[] #[])
  fields := #[]
  methods := #[]
  instanceTypes := #[]
  staticTypes := #[]
  resolved := Array.replicate 11 none
  statics := none }

def pool3 : Array CpInfo := pool [(1, .class_ 2), (0, u "java/lang/Comparable"), (0, .class_ 4), (0, u "java/lang/Object")] 7

/-- java/lang/Comparable -/
def k3 : Class := { plain "java/lang/Comparable" (some 0) with
  accessFlags := 1537
  interfaces := #[]
  cf := some (fileOf pool3 1 #[] #[] 1537 3 #[] #[])
  fields := #[]
  methods := #[]
  instanceTypes := #[]
  staticTypes := #[]
  resolved := Array.replicate 12 none
  statics := none }

def pool4 : Array CpInfo := pool [(1, .class_ 2), (0, u "java/io/Serializable"), (0, .class_ 4), (0, u "java/lang/Object")] 2

/-- java/io/Serializable -/
def k4 : Class := { plain "java/io/Serializable" (some 0) with
  accessFlags := 1537
  interfaces := #[]
  cf := some (fileOf pool4 1 #[] #[] 1537 3 #[] #[])
  fields := #[]
  methods := #[]
  instanceTypes := #[]
  staticTypes := #[]
  resolved := Array.replicate 7 none
  statics := none }

def pool5 : Array CpInfo := pool [(2, .class_ 4), (1, u "java/lang/Enum"), (0, u "name"), (0, u "Ljava/lang/String;"), (2, u "ordinal"), (0, u "I"), (1, .class_ 14), (1, u "java/lang/Object"), (4, u "hash"), (86, .class_ 108), (1, u "java/lang/Enum$EnumDesc"), (2, .class_ 112), (0, u "java/lang/constant/Constable"), (0, .class_ 114), (0, u "java/lang/Comparable"), (0, .class_ 116), (0, u "java/io/Serializable")] 87

/-- java/lang/Enum -/
def k5 : Class := { plain "java/lang/Enum" (some 0) with
  accessFlags := 1057
  interfaces := #[2, 3, 4]
  cf := some (fileOf pool5 2 #[.nestMembers #[106]] #[] 1057 12 #[111, 113, 115] #[{ accessFlags := 18, nameIndex := 5, descriptorIndex := 6, attributes := #[] }, { accessFlags := 18, nameIndex := 9, descriptorIndex := 10, attributes := #[] }, { accessFlags := 2, nameIndex := 19, descriptorIndex := 10, attributes := #[] }])
  fields := #[{ name := "name", type := (.object "java/lang/String"), accessFlags := 18, slot := 0, constantValue := 0 }, { name := "ordinal", type := .int, accessFlags := 18, slot := 1, constantValue := 0 }, { name := "hash", type := .int, accessFlags := 2, slot := 2, constantValue := 0 }]
  methods := #[]
  instanceTypes := #[(.object "java/lang/String"), .int, .int]
  staticTypes := #[]
  resolved := Array.replicate 204 none
  statics := none }

def pool6 : Array CpInfo := pool [(1, .class_ 2), (0, u "com/example/declarant/declarant/hire/DpaeStatus"), (2, u "READY"), (0, u "Lcom/example/declarant/declarant/hire/DpaeStatus;"), (2, u "SENT"), (2, u "ACKNOWLEDGED"), (0, .fieldref 1 14), (0, .nameAndType 15 16), (0, u "$VALUES"), (0, u "[Lcom/example/declarant/declarant/hire/DpaeStatus;"), (0, .methodref 18 19), (0, .class_ 16), (0, .nameAndType 20 21), (0, u "clone"), (0, u "()Ljava/lang/Object;"), (1, .class_ 25), (1, u "java/lang/Enum"), (6, .fieldref 1 33), (0, .nameAndType 34 35), (0, u "code"), (0, u "I"), (2, u "description"), (0, u "Ljava/lang/String;"), (0, .methodref 1 41), (0, .nameAndType 42 43), (0, u "values"), (0, u "()[Lcom/example/declarant/declarant/hire/DpaeStatus;"), (30, u "()I"), (1, u "ofCode"), (0, u "(I)Lcom/example/declarant/declarant/hire/DpaeStatus;")] 21

def k6c0 : Code := { maxStack := 1, maxLocals := 0, code := prog_12_method_1_code, exceptionTable := #[], attributes := #[] }
def k6m0 : Method := { name := "values", desc := "()[Lcom/example/declarant/declarant/hire/DpaeStatus;", sig := { parameters := [], returnType := some (.array (.object "com/example/declarant/declarant/hire/DpaeStatus")) }, accessFlags := 9, code := some k6c0 }
def k6c1 : Code := { maxStack := 1, maxLocals := 1, code := prog_12_method_4_code, exceptionTable := #[], attributes := #[] }
def k6m1 : Method := { name := "code", desc := "()I", sig := { parameters := [], returnType := some .int }, accessFlags := 1, code := some k6c1 }
def k6c2 : Code := { maxStack := 3, maxLocals := 5, code := prog_12_method_6_code, exceptionTable := #[], attributes := #[] }
def k6m2 : Method := { name := "ofCode", desc := "(I)Lcom/example/declarant/declarant/hire/DpaeStatus;", sig := { parameters := [.int], returnType := some (.object "com/example/declarant/declarant/hire/DpaeStatus") }, accessFlags := 9, code := some k6c2 }
/-- com/example/declarant/declarant/hire/DpaeStatus -/
def k6 : Class := { plain "com/example/declarant/declarant/hire/DpaeStatus" (some 5) with
  accessFlags := 16433
  interfaces := #[]
  cf := some (fileOf pool6 1 #[] #[{ accessFlags := 9, nameIndex := 42, descriptorIndex := 43, attributes := #[] }, { accessFlags := 1, nameIndex := 34, descriptorIndex := 74, attributes := #[] }, { accessFlags := 9, nameIndex := 76, descriptorIndex := 77, attributes := #[] }] 16433 23 #[] #[{ accessFlags := 16409, nameIndex := 5, descriptorIndex := 6, attributes := #[] }, { accessFlags := 16409, nameIndex := 9, descriptorIndex := 6, attributes := #[] }, { accessFlags := 16409, nameIndex := 12, descriptorIndex := 6, attributes := #[] }, { accessFlags := 18, nameIndex := 34, descriptorIndex := 35, attributes := #[] }, { accessFlags := 18, nameIndex := 38, descriptorIndex := 39, attributes := #[] }, { accessFlags := 4122, nameIndex := 15, descriptorIndex := 16, attributes := #[] }])
  fields := #[{ name := "READY", type := (.object "com/example/declarant/declarant/hire/DpaeStatus"), accessFlags := 16409, slot := 0, constantValue := 0 }, { name := "SENT", type := (.object "com/example/declarant/declarant/hire/DpaeStatus"), accessFlags := 16409, slot := 1, constantValue := 0 }, { name := "ACKNOWLEDGED", type := (.object "com/example/declarant/declarant/hire/DpaeStatus"), accessFlags := 16409, slot := 2, constantValue := 0 }, { name := "code", type := .int, accessFlags := 18, slot := 3, constantValue := 0 }, { name := "description", type := (.object "java/lang/String"), accessFlags := 18, slot := 4, constantValue := 0 }, { name := "$VALUES", type := (.array (.object "com/example/declarant/declarant/hire/DpaeStatus")), accessFlags := 4122, slot := 3, constantValue := 0 }]
  methods := #[k6m0, k6m1, k6m2]
  instanceTypes := #[(.object "java/lang/String"), .int, .int, .int, (.object "java/lang/String")]
  staticTypes := #[(.object "com/example/declarant/declarant/hire/DpaeStatus"), (.object "com/example/declarant/declarant/hire/DpaeStatus"), (.object "com/example/declarant/declarant/hire/DpaeStatus"), (.array (.object "com/example/declarant/declarant/hire/DpaeStatus"))]
  resolved := Array.replicate 99 none
  statics := some 0 }

def pool7 : Array CpInfo := pool [(1, .class_ 2), (0, u "java/lang/Cloneable"), (0, .class_ 4), (0, u "java/lang/Object")] 2

/-- java/lang/Cloneable -/
def k7 : Class := { plain "java/lang/Cloneable" (some 0) with
  accessFlags := 1537
  interfaces := #[]
  cf := some (fileOf pool7 1 #[] #[] 1537 3 #[] #[])
  fields := #[]
  methods := #[]
  instanceTypes := #[]
  staticTypes := #[]
  resolved := Array.replicate 7 none
  statics := none }

/-- the primitive byte -/
def k8 : Class := { plain "byte" none with kind := .primitive 'B', accessFlags := 0x411 }
/-- [B -/
def k9 : Class := { plain "[B" (some 0) with kind := .array 8 .byte, interfaces := #[7, 4], accessFlags := 1041 }

/-- the primitive int -/
def k10 : Class := { plain "int" none with kind := .primitive 'I', accessFlags := 0x411 }
/-- [I -/
def k11 : Class := { plain "[I" (some 0) with kind := .array 10 .int, interfaces := #[7, 4], accessFlags := 1041 }

/-- [Lcom/example/declarant/declarant/hire/DpaeStatus; -/
def k12 : Class := { plain "[Lcom/example/declarant/declarant/hire/DpaeStatus;" (some 0) with kind := .array 6 (.object "com/example/declarant/declarant/hire/DpaeStatus"), interfaces := #[7, 4], accessFlags := 1041 }

def heap : Heap := #[{ cls := 6, slots := #[.ref 2, .ref 3, .ref 4, .ref 1], vm := .statics 6 },
  { cls := 12, slots := #[.ref 2, .ref 3, .ref 4], vm := .none },
  { cls := 6, slots := #[.null, .int 0, .int 0, .int 0, .null], vm := .none },
  { cls := 6, slots := #[.null, .int 1, .int 0, .int 1, .null], vm := .none },
  { cls := 6, slots := #[.null, .int 2, .int 0, .int 2, .null], vm := .none }]
def classes : Array Class := #[k0, k1, k2, k3, k4, k5, k6, k7, k8, k9, k10, k11, k12]
def interned : List (Array UInt16 × Addr) := []
def slotsUsed : Nat := 22
def theMethod : MethodId := ⟨1, 2⟩
def args0 : Array Value := #[.int 5]
def aboutOver (below : List Frame) : State where
  vm := { classes := classes, interned := interned.toArray }
  heap := heap
  slotsUsed := slotsUsed
  threads := #[{ frames := .invoking theMethod args0 :: below }]
def below0 : List Frame := [.native { method := ⟨0, 0⟩, args := #[] }]
def about1 : State := aboutOver below0
def p0 : Program := .bare "" "" ""
def e0 : Env := launch0.env 0 0 0
theorem w_frames : about1.frames = Frame.invoking theMethod args0 :: below0 := rfl
set_option maxRecDepth 65536 in
theorem w_args : argsFit about1.vm theMethod args0 = true := by decide +kernel
set_option maxRecDepth 65536 in
theorem w_heap : heapFits about1 = true := by decide +kernel
set_option maxRecDepth 65536 in
theorem w_runnable : about1.curStatus? = some .runnable := by decide +kernel
set_option maxRecDepth 65536 in
theorem w_alone : about1.alone = true := by decide +kernel
set_option maxRecDepth 65536 in
theorem w_named : about1.methodNamed? x = some theMethod := by decide +kernel
set_option maxRecDepth 65536 in
theorem w_hears : about1.hears theMethod below0 = true := by decide +kernel
set_option maxRecDepth 65536 in
theorem w_ripe : about1.ripe theMethod args0 below0 = true := by decide +kernel
theorem w_running : about1.status = .running := rfl
set_option maxRecDepth 65536 in
theorem w_room : about1.hasRoom e0.platform room_1 = true :=
  launch0.hasRoom_least _ room_1 (by decide +kernel) (by decide +kernel) (by decide +kernel) (by decide +kernel) (by decide +kernel) (by decide +kernel)
theorem allAtoms_all (ts : List Jvm.Cond) (a : Array Jvm.Value) (st : Jvm.State) : (allAtoms ts).before a st = ts.all (fun c => c.before a st) := by
  induction ts with
  | nil => rfl
  | cons c t ih =>
    show (Jvm.Cond.and c (allAtoms t)).before a st = _
    rw [Jvm.Cond.before_and, ih, List.all_cons]
def words1 : List Jvm.Cond := Jvm.Cond.code x code maxLocals ret :: tables_1
/-- a 'code' word, met by the world's own term for the bytes: nothing is compared byte by byte -/
theorem code_word {y : MethodName} {bytes : ByteArray} {mx : Nat} {rt : Option FieldType} {a : Array Value} {s : State} {m : MethodId} {meth : Method} {c : Code} (h1 : s.methodNamed? y = some m) (h2 : s.vm.method? m = some meth) (h3 : meth.code = some c) (h4 : c.code = bytes)
    (h5 : (c.maxLocals == mx && c.exceptionTable.isEmpty && decide (c.maxStack ≤ mostOperands) && decide (meth.sig.returnType = rt) && !meth.locks && decide (parseMethodDescriptor y.desc = some meth.sig)) = true) : (Jvm.Cond.code y bytes mx rt).before a s = true := by
  simp only [Bool.and_eq_true, beq_iff_eq, Bool.not_eq_true', decide_eq_true_eq] at h5
  obtain ⟨⟨⟨⟨⟨g1, g2⟩, g3⟩, g4⟩, g5⟩, g6⟩ := h5
  simp [Cond.before, Cond.holds, Cond.value, h1, h2, h3, h4, g1, g2, g3, g4, g5, g6]
def isCode : Jvm.Cond → Bool
  | .code _ _ _ _ => true
  | _ => false
theorem all_split {L : List Jvm.Cond} {P : Jvm.Cond → Bool} (h1 : L.all (fun c => isCode c || P c) = true) (h2 : ∀ c ∈ L.filter isCode, P c = true) : L.all P = true := by
  refine List.all_eq_true.mpr fun c hc => ?_
  have h := List.all_eq_true.mp h1 c hc
  rcases Bool.eq_false_or_eq_true (isCode c) with hi | hi
  · exact h2 c (List.mem_filter.mpr ⟨hc, hi⟩)
  · simpa [hi] using h
set_option maxRecDepth 65536 in
theorem w_c0 : (Jvm.Cond.code x code maxLocals ret).before args0 about1 = true := code_word (m := ⟨1, 2⟩) (meth := k1m2) (c := k1c2) (by decide +kernel) rfl rfl rfl (by decide +kernel)
set_option maxRecDepth 65536 in
theorem w_c1 : (Jvm.Cond.code ({ cls := "com/example/declarant/declarant/hire/DpaeStatus", name := "ofCode", desc := "(I)Lcom/example/declarant/declarant/hire/DpaeStatus;" } : Jvm.MethodName) prog_12_method_6_code (5 : Nat) (Option.some (Jvm.ClassFile.FieldType.object "com/example/declarant/declarant/hire/DpaeStatus"))).before args0 about1 = true := code_word (m := ⟨6, 2⟩) (meth := k6m2) (c := k6c2) (by decide +kernel) rfl rfl rfl (by decide +kernel)
set_option maxRecDepth 65536 in
theorem w_c2 : (Jvm.Cond.code ({ cls := "com/example/declarant/declarant/hire/DpaeStatus", name := "values", desc := "()[Lcom/example/declarant/declarant/hire/DpaeStatus;" } : Jvm.MethodName) prog_12_method_1_code (0 : Nat) (Option.some (Jvm.ClassFile.FieldType.array (Jvm.ClassFile.FieldType.object "com/example/declarant/declarant/hire/DpaeStatus")))).before args0 about1 = true := code_word (m := ⟨6, 0⟩) (meth := k6m0) (c := k6c0) (by decide +kernel) rfl rfl rfl (by decide +kernel)
set_option maxRecDepth 65536 in
theorem w_c3 : (Jvm.Cond.code ({ cls := "com/example/declarant/declarant/hire/DpaeStatusOfCodePinLaw", name := "expected", desc := "(I)Lcom/example/declarant/declarant/hire/DpaeStatus;" } : Jvm.MethodName) method_2_code (1 : Nat) (Option.some (Jvm.ClassFile.FieldType.object "com/example/declarant/declarant/hire/DpaeStatus"))).before args0 about1 = true := code_word (m := ⟨1, 1⟩) (meth := k1m1) (c := k1c1) (by decide +kernel) rfl rfl rfl (by decide +kernel)
set_option maxRecDepth 65536 in
theorem w_c4 : (Jvm.Cond.code ({ cls := "com/example/declarant/declarant/hire/DpaeStatus", name := "code", desc := "()I" } : Jvm.MethodName) prog_12_method_4_code (1 : Nat) (Option.some Jvm.ClassFile.FieldType.int)).before args0 about1 = true := code_word (m := ⟨6, 1⟩) (meth := k6m1) (c := k6c1) (by decide +kernel) rfl rfl rfl (by decide +kernel)
def codes1 : List Jvm.Cond := [Jvm.Cond.code x code maxLocals ret, Jvm.Cond.code ({ cls := "com/example/declarant/declarant/hire/DpaeStatus", name := "ofCode", desc := "(I)Lcom/example/declarant/declarant/hire/DpaeStatus;" } : Jvm.MethodName) prog_12_method_6_code (5 : Nat) (Option.some (Jvm.ClassFile.FieldType.object "com/example/declarant/declarant/hire/DpaeStatus")), Jvm.Cond.code ({ cls := "com/example/declarant/declarant/hire/DpaeStatus", name := "values", desc := "()[Lcom/example/declarant/declarant/hire/DpaeStatus;" } : Jvm.MethodName) prog_12_method_1_code (0 : Nat) (Option.some (Jvm.ClassFile.FieldType.array (Jvm.ClassFile.FieldType.object "com/example/declarant/declarant/hire/DpaeStatus"))), Jvm.Cond.code ({ cls := "com/example/declarant/declarant/hire/DpaeStatusOfCodePinLaw", name := "expected", desc := "(I)Lcom/example/declarant/declarant/hire/DpaeStatus;" } : Jvm.MethodName) method_2_code (1 : Nat) (Option.some (Jvm.ClassFile.FieldType.object "com/example/declarant/declarant/hire/DpaeStatus")), Jvm.Cond.code ({ cls := "com/example/declarant/declarant/hire/DpaeStatus", name := "code", desc := "()I" } : Jvm.MethodName) prog_12_method_4_code (1 : Nat) (Option.some Jvm.ClassFile.FieldType.int)]
set_option maxRecDepth 65536 in
theorem codes_eq : words1.filter isCode = codes1 := rfl
theorem w_codes : ∀ c ∈ words1.filter isCode, c.before args0 about1 = true := by
  rw [codes_eq]
  intro c hc
  simp only [codes1, List.mem_cons, List.not_mem_nil, or_false] at hc
  rcases hc with rfl | rfl | rfl | rfl | rfl
  · exact w_c0
  · exact w_c1
  · exact w_c2
  · exact w_c3
  · exact w_c4
set_option maxRecDepth 65536 in
theorem w_t1 : (words1.take 24).all (fun c => isCode c || c.before args0 about1) = true := by decide +kernel
set_option maxRecDepth 65536 in
theorem w_t2 : (words1.drop 24).all (fun c => isCode c || c.before args0 about1) = true := by decide +kernel
theorem w_tables : (allAtoms (Jvm.Cond.code x code maxLocals ret :: tables_1)).before args0 about1 = true := by
  rw [allAtoms_all]
  show words1.all (fun c => c.before args0 about1) = true
  refine all_split ?_ w_codes
  rw [← List.take_append_drop 24 words1, List.all_append, w_t1, w_t2]
  rfl
set_option maxRecDepth 65536 in
theorem w_case : (Jvm.Cond.and given_1 narrow_1).before args0 about1 = true := by decide +kernel
theorem w_applies : (headSpec (Jvm.Cond.code x code maxLocals ret :: tables_1) room_1).applies x e0.platform about1 = true :=
  (Spec.applies_iff w_frames).mpr ⟨w_running, w_runnable, w_alone, w_named, w_hears, w_ripe, w_room, w_tables⟩
theorem atStart : AtStart classFile x code maxLocals ret World_1 tables_1 room_1 Calls_1 rest_1 Pre_1 launch0 p0 e0 about1 theMethod args0 below0 :=
  ⟨lists_1, trivial, launch0.admits_env _ _ _, launch0.least_env, fairChoices_fair.cas, fairChoices_fair.clock, w_frames, w_args, w_heap, w_applies, trivial, trivial, w_case⟩
end start1
theorem witness_1 : WitnessClaimed_1 := ⟨start1.p0, start1.e0, start1.about1, start1.theMethod, start1.args0, start1.below0, start1.atStart⟩
end Jvm.Pilot.@@N@@
