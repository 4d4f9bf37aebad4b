import JvmDerived
import JvmDerived.Pilot.@@N@@Statement
import JvmDerived.Pilot.@@N@@Code
set_option linter.unusedVariables false
set_option linter.unusedSimpArgs false
namespace Jvm.RoadKit
open Sem ClassFile Op Lib Jvm.Stand Jvm.Free Jvm.LawKit
section New
variable {p : Program} {l : Launch} {e : Env} {R : Room} {s : State} {m : MethodId} {args : Array Value} {below : List Frame} {meth : Method} {c : Code} {T : State} {locs : List Loc} {cells slots : Nat}
theorem retI (X : Stand p l e R s m args below meth c T locs cells slots) (hx : p.tables.exec = Jvm.exec) {pc : Nat} {Ls : Array Slot} {z : Int32} {rest : List Value} (hret : meth.sig.returnType = some .int) (hd : decode c.code pc = .ok (.ireturn, 1)) {fs : List Frame}
    (hl : ∀ (f : JFrame) (acts : List Action), f.method = m → f.locked = none → f.entered = [] → (doReturn e (T.setTop f) acts (some (.int z))).1 = T.setFrames fs) : Steps p.tables e below (T.setTop (mkF m pc Ls (.int z :: rest))) (T.setFrames fs) := by
  have hm' : T.vm.method? m = some meth := X.method'
  have hn : narrow .int (.int z) = .int z := rfl
  show Steps p.tables e below (T.setTop { method := m, pc := pc, locals := Ls, stack := _ :: rest, locked := none }) _
  jvm_step X.here [X.here.top, hx, hd, hm', hret, hn]
  first | (intro acts; rw [hl _ acts rfl rfl rfl]) | rw [hl _ _ rfl rfl rfl]
  exact Steps.refl _
end New
end Jvm.RoadKit
namespace Jvm.Pilot.@@N@@
open Jvm Jvm.ClassFile Sem Op Lib Jvm.Free Jvm.Stand Jvm.LawKit Jvm.RoadKit Bundle Jvm.Pilot.@@N@@.Jvm.D
/-- a truth value as the machine holds it -/
def bi (P : Prop) [Decidable P] : Int32 := if P then 1 else 0
theorem bi_t {P : Prop} [Decidable P] (h : P) : bi P = 1 := if_pos h
theorem bi_f {P : Prop} [Decidable P] (h : ¬ P) : bi P = 0 := if_neg h
theorem bi_n {P : Prop} [Decidable P] (h : P) : ¬ (bi P = 0) := by rw [bi_t h]; decide
theorem bi_nar {P : Prop} [Decidable P] : nar .boolean (bi P) = bi P := by
  by_cases h : P
  · rw [bi_t h]; rfl
  · rw [bi_f h]; rfl
theorem bi_c {P Q : Prop} [Decidable P] [Decidable Q] (h : P ↔ Q) : bi P = bi Q := by
  by_cases k : P
  · rw [bi_t k, bi_t (h.mp k)]
  · rw [bi_f k, bi_f fun x => k (h.mpr x)]
theorem own_ext {h h' : Heap} (K : Keep h h' []) : Ext h h' := ⟨K.1, fun a c r => K.2.1 a c r nin0⟩
theorem own_staK {Z : State} {h h' : Heap} {C n d : String} {v : Value} {ws : List Addr} (F : Sta Z h C n d v) (K : Keep h h' ws) (r : ∀ x ∈ ws, ∃ D, Exa Z h x D) : Sta Z h' C n d v := by
  obtain ⟨cf, i, k, f, st, cell, h1, h2, h3, h4, h5, h6, h7⟩ := F
  refine ⟨cf, i, k, f, st, cell, h1, h2, h3, h4, K.2.1 _ _ h5 (fun u => ?_), h6, h7⟩
  obtain ⟨D, c2, k2, g1, g2, g3, g4, g5⟩ := r st u
  cases h5.symm.trans g1
  rw [h6] at g4; cases g4
theorem own_eqI {args : Array Value} {s : State} {t : Term} {n : Int32} (h : (Jvm.Cond.eq t (.int n)).value args s none s [] = some true) : t.eval args s none [] s = some (.int n) := by
  obtain ⟨x, y, h1, h2, k1, k2⟩ := cmp_v (Or.inl h)
  cases (Term.int_eval n).symm.trans h2
  obtain ⟨z, rfl⟩ := k2
  have u := gotT (show (Jvm.Cond.eq t (.int n)).value args s none s [] = some (decide (z = n)) from by simp [Cond.value, h1, Term.eval]) h
  rw [h1, u]
theorem own_eqL {args : Array Value} {s : State} {t : Term} {n : Int64} (h : (Jvm.Cond.eq t (.long n)).value args s none s [] = some true) : t.eval args s none [] s = some (.long n) := by
  obtain ⟨x, y, h1, h2, k1, k2⟩ := cmp_v (Or.inl h)
  cases (long_at n).symm.trans h2
  obtain ⟨z, rfl⟩ := k2
  have u := gotT (eq_L h1 (long_at n)) h
  rw [h1, u]
theorem d2_0 : decode prog_9_method_1_code 0 = .ok (.aload_n 0, 1) := by decide +kernel
theorem d2_1 : decode prog_9_method_1_code 1 = .ok (.invokespecial 1, 3) := by decide +kernel
theorem d2_4 : decode prog_9_method_1_code 4 = .ok (.aload_n 0, 1) := by decide +kernel
theorem d2_5 : decode prog_9_method_1_code 5 = .ok (.iload_n 1, 1) := by decide +kernel
theorem d2_6 : decode prog_9_method_1_code 6 = .ok (.putfield 7, 3) := by decide +kernel
theorem d2_9 : decode prog_9_method_1_code 9 = .ok (.aload_n 0, 1) := by decide +kernel
theorem d2_10 : decode prog_9_method_1_code 10 = .ok (.iload_n 2, 1) := by decide +kernel
theorem d2_11 : decode prog_9_method_1_code 11 = .ok (.putfield 13, 3) := by decide +kernel
theorem d2_14 : decode prog_9_method_1_code 14 = .ok (.aload_n 0, 1) := by decide +kernel
theorem d2_15 : decode prog_9_method_1_code 15 = .ok (.aload_n 3, 1) := by decide +kernel
theorem d2_16 : decode prog_9_method_1_code 16 = .ok (.putfield 17, 3) := by decide +kernel
theorem d2_19 : decode prog_9_method_1_code 19 = .ok (.aload_n 0, 1) := by decide +kernel
theorem d2_20 : decode prog_9_method_1_code 20 = .ok (.lload 4, 2) := by decide +kernel
theorem d2_22 : decode prog_9_method_1_code 22 = .ok (.putfield 21, 3) := by decide +kernel
theorem d2_25 : decode prog_9_method_1_code 25 = .ok (.aload_n 0, 1) := by decide +kernel
theorem d2_26 : decode prog_9_method_1_code 26 = .ok (.iload 6, 2) := by decide +kernel
theorem d2_28 : decode prog_9_method_1_code 28 = .ok (.putfield 25, 3) := by decide +kernel
theorem d2_31 : decode prog_9_method_1_code 31 = .ok (.return_, 1) := by decide +kernel
theorem pn_2 : plainName "com/example/klepsydra/klepsydra/Decision" = true := by first | (simp [plainName, overriddenIn]; done) | decide +kernel
theorem ef_rm2a (m : MethodId) (o0 : Addr) (o3 : Addr) : entryFrame m #[(.ref o0), (.int (1 : Int32)), (.int (-1 : Int32)), (.ref o3), (.long (0 : Int64)), (.int (1 : Int32))] 7 = mkF m 0 #[.val (.ref o0), .val (.int (1 : Int32)), .val (.int (-1 : Int32)), .val (.ref o3), .val (.long (0 : Int64)), .second, .val (.int (1 : Int32))] [] := by first | (simp [entryFrame, mkF, argsToLocals, Value.category]; done) | rfl
def Qrm2a (Z : State) (o0 : Addr) (o3 : Addr) (h0 : Heap) (n0 : Nat) (v : Option Value) (h : Heap) (L : List Loc) : Prop := v = none ∧ Fr n0 L ∧ Keep h0 h [o0] ∧ Exa Z h o0 "com/example/klepsydra/klepsydra/Decision" ∧ Fld Z h o0 "com/example/klepsydra/klepsydra/Decision" "granted" "Z" (.int (1 : Int32)) ∧ Fld Z h o0 "com/example/klepsydra/klepsydra/Decision" "refusedBy" "I" (.int (-1 : Int32)) ∧ Fld Z h o0 "com/example/klepsydra/klepsydra/Decision" "retryAfter" "Ljava/time/Duration;" (.ref o3) ∧ Fld Z h o0 "com/example/klepsydra/klepsydra/Decision" "remaining" "J" (.long (0 : Int64)) ∧ Fld Z h o0 "com/example/klepsydra/klepsydra/Decision" "degraded" "Z" (.int (1 : Int32))
set_option maxRecDepth 65536 in
set_option maxHeartbeats 40000000 in
theorem rm2a (l : Launch) (Z : State) (a0 : Array Value) (hw : ∀ d ∈ tables_1, d.before a0 Z = true) (ws : List Jvm.Cond) (o0 : Addr) (o3 : Addr) (h0 : Heap) (n0 : Nat) (Z0 : n0 ≤ h0.size) (H0 : Exa Z h0 o0 "com/example/klepsydra/klepsydra/Decision") (H1 : Fld Z h0 o0 "com/example/klepsydra/klepsydra/Decision" "granted" "Z" (.int (0 : Int32))) (H2 : Fld Z h0 o0 "com/example/klepsydra/klepsydra/Decision" "refusedBy" "I" (.int (0 : Int32))) (H3 : Fld Z h0 o0 "com/example/klepsydra/klepsydra/Decision" "retryAfter" "Ljava/time/Duration;" .null) (H4 : Fld Z h0 o0 "com/example/klepsydra/klepsydra/Decision" "remaining" "J" (.long (0 : Int64))) (H5 : Fld Z h0 o0 "com/example/klepsydra/klepsydra/Decision" "degraded" "Z" (.int (0 : Int32))) (H6 : n0 ≤ o0) :
    MetFree l (⟨"com/example/klepsydra/klepsydra/Decision", "<init>", "(ZILjava/time/Duration;JZ)V"⟩ : MethodName) (head1 (Jvm.Cond.code (⟨"com/example/klepsydra/klepsydra/Decision", "<init>", "(ZILjava/time/Duration;JZ)V"⟩ : MethodName) prog_9_method_1_code 7 none :: ws) ({ frames := 1, cells := 0, slots := 0, locals := 12 } : Room)) (fun a U => a = #[(.ref o0), (.int (1 : Int32)), (.int (-1 : Int32)), (.ref o3), (.long (0 : Int64)), (.int (1 : Int32))] ∧ Z.Warmed39 U.vm ∧ U.heap = h0) (fun _ _ _ _ _ => True) (fun _ U o U' => ∃ v L, o = .returned v ∧ Qrm2a Z o0 o3 h0 n0 v U'.heap L ∧ FrameEnd U o U' L ({ frames := 1, cells := 0, slots := 0, locals := 12 } : Room).cells ({ frames := 1, cells := 0, slots := 0, locals := 12 } : Room).slots) := by
  refine MetFree.of_bodySF (plainFor_of_name pn_2) hisR ?_
  intro p e s m args below meth c s₁ Bd hml0 hP hK
  obtain ⟨rfl, hZ, hh⟩ := hP
  have hx := Bd.exec
  have hby := Bd.bytes
  have hml : c.maxLocals = 7 := hml0
  have hown : s.vm.findClass "com/example/klepsydra/klepsydra/Decision" = some m.cls := findClass_of_methodNamed Bd.named
  have hnm := (name_of_methodNamed Bd.named Bd.method).1
  have X0 : Stand p l e ({ frames := 1, cells := 0, slots := 0, locals := 12 } : Room) s m #[(.ref o0), (.int (1 : Int32)), (.int (-1 : Int32)), (.ref o3), (.long (0 : Int64)), (.int (1 : Int32))] below meth c s₁ [] 0 0 := Stand.of_body Bd
  have e0 : s₁.heap = h0 := by rw [← hh, Bd.state]; rfl
  have N0 := Fr.nil n0
  have pre0 : ∀ t, Steps p.tables e below (s₁.setTop (mkF m 0 #[.val (.ref o0), .val (.int (1 : Int32)), .val (.int (-1 : Int32)), .val (.ref o3), .val (.long (0 : Int64)), .second, .val (.int (1 : Int32))] [])) t → Steps p.tables e below (s₁.setTop (entryFrame m #[(.ref o0), (.int (1 : Int32)), (.int (-1 : Int32)), (.ref o3), (.long (0 : Int64)), (.int (1 : Int32))] 7)) t := fun t k => castTop (ef_rm2a m o0 o3) k
  have z1 := H0.lt
  have z2 := H1.lt
  have z3 := H2.lt
  have z4 := H3.lt
  have z5 := H4.lt
  have z6 := H5.lt
  have KC0 : Keep h0 h0 [o0] := Keep.refl _ _
  obtain ⟨T7, X7, e7, st7⟩ := initO X0 hx hZ hown (hw _ (List.mem_of_getElem? (i := 11) rfl)) (hw _ (List.mem_of_getElem? (i := 12) rfl)) (hw _ (List.mem_of_getElem? (i := 13) rfl)) e0 (g := (mkF m 1 #[.val (.ref o0), .val (.int (1 : Int32)), .val (.int (-1 : Int32)), .val (.ref o3), .val (.long (0 : Int64)), .second, .val (.int (1 : Int32))] [(.ref o0)])) rfl (by rw [hml]; rfl) rfl (hb hby d2_1) (by decide) (W := 0) (by show 2 * 0 + _ ≤ _; exact Nat.le_of_eq rfl) (by decide)
  obtain ⟨T8, h8, X8, e8, W8, st8⟩ := putFN X7 hx hZ hown (hw _ (List.mem_of_getElem? (i := 14) rfl)) Via.refl e7 H1 H0 (Or.inr ⟨(hw _ (List.mem_of_getElem? (i := 15) rfl)), rfl, hnm⟩) (hw _ (List.mem_of_getElem? (i := 5) rfl)) (ty := .boolean) (v' := (.int (1 : Int32))) (by decide) rfl (by decide) (g := (mkF m 6 #[.val (.ref o0), .val (.int (1 : Int32)), .val (.int (-1 : Int32)), .val (.ref o3), .val (.long (0 : Int64)), .second, .val (.int (1 : Int32))] [(.int (1 : Int32)), (.ref o0)])) rfl rfl (hb hby d2_6)
  have z9 := W8.size
  have N8 := Fr.snoc X8 N0 (by omega : n0 ≤ o0)
  have KC10 : Keep h0 h8 [o0] := KC0.wr W8 (Or.inl (List.mem_of_getElem? (i := 0) rfl))
  have Fw8 := H1.same W8
  have Fc11 := (H0.wr W8)
  have Fc12 := (H2.other W8 (Or.inr (slot_ne (Or.inr (hw _ (List.mem_of_getElem? (i := 17) rfl))) (Or.inr (hw _ (List.mem_of_getElem? (i := 15) rfl))) (by decide) (t := .int) (t' := .boolean) (by decide) (by decide))))
  obtain ⟨T13, h13, X13, e13, W13, st13⟩ := putF X8 hx hZ hown (host := "") (Or.inl (hw _ (List.mem_of_getElem? (i := 16) rfl))) Via.refl e8 Fc12 Fc11 (Or.inr ⟨(hw _ (List.mem_of_getElem? (i := 17) rfl)), rfl, hnm⟩) (hw _ (List.mem_of_getElem? (i := 5) rfl)) (ty := .int) (by decide) rfl rfl (g := (mkF m 11 #[.val (.ref o0), .val (.int (1 : Int32)), .val (.int (-1 : Int32)), .val (.ref o3), .val (.long (0 : Int64)), .second, .val (.int (1 : Int32))] [(.int (-1 : Int32)), (.ref o0)])) rfl rfl (hb hby d2_11)
  have z14 := W13.size
  have N13 := Fr.snoc X13 N8 (by omega : n0 ≤ o0)
  have KC15 : Keep h0 h13 [o0] := KC10.wr W13 (Or.inl (List.mem_of_getElem? (i := 0) rfl))
  have Fw13 := Fc12.same W13
  have Fc16 := (Fc11.wr W13)
  have Fc17 := ((H3.other W8 (Or.inr (slot_ne (Or.inr (hw _ (List.mem_of_getElem? (i := 19) rfl))) (Or.inr (hw _ (List.mem_of_getElem? (i := 15) rfl))) (by decide) (t := (.object "java/time/Duration")) (t' := .boolean) (by decide) (by decide)))).other W13 (Or.inr (slot_ne (Or.inr (hw _ (List.mem_of_getElem? (i := 19) rfl))) (Or.inr (hw _ (List.mem_of_getElem? (i := 17) rfl))) (by decide) (t := (.object "java/time/Duration")) (t' := .int) (by decide) (by decide))))
  obtain ⟨T18, h18, X18, e18, W18, st18⟩ := putF X13 hx hZ hown (host := "") (Or.inl (hw _ (List.mem_of_getElem? (i := 18) rfl))) Via.refl e13 Fc17 Fc16 (Or.inr ⟨(hw _ (List.mem_of_getElem? (i := 19) rfl)), rfl, hnm⟩) (hw _ (List.mem_of_getElem? (i := 5) rfl)) (ty := (.object "java/time/Duration")) (by decide) rfl rfl (g := (mkF m 16 #[.val (.ref o0), .val (.int (1 : Int32)), .val (.int (-1 : Int32)), .val (.ref o3), .val (.long (0 : Int64)), .second, .val (.int (1 : Int32))] [(.ref o3), (.ref o0)])) rfl rfl (hb hby d2_16)
  have z19 := W18.size
  have N18 := Fr.snoc X18 N13 (by omega : n0 ≤ o0)
  have KC20 : Keep h0 h18 [o0] := KC15.wr W18 (Or.inl (List.mem_of_getElem? (i := 0) rfl))
  have Fw18 := Fc17.same W18
  have Fc21 := (Fc16.wr W18)
  have Fc22 := (((H4.other W8 (Or.inr (slot_ne (Or.inr (hw _ (List.mem_of_getElem? (i := 21) rfl))) (Or.inr (hw _ (List.mem_of_getElem? (i := 15) rfl))) (by decide) (t := .long) (t' := .boolean) (by decide) (by decide)))).other W13 (Or.inr (slot_ne (Or.inr (hw _ (List.mem_of_getElem? (i := 21) rfl))) (Or.inr (hw _ (List.mem_of_getElem? (i := 17) rfl))) (by decide) (t := .long) (t' := .int) (by decide) (by decide)))).other W18 (Or.inr (slot_ne (Or.inr (hw _ (List.mem_of_getElem? (i := 21) rfl))) (Or.inr (hw _ (List.mem_of_getElem? (i := 19) rfl))) (by decide) (t := .long) (t' := (.object "java/time/Duration")) (by decide) (by decide))))
  obtain ⟨T23, h23, X23, e23, W23, st23⟩ := putF X18 hx hZ hown (host := "") (Or.inl (hw _ (List.mem_of_getElem? (i := 20) rfl))) Via.refl e18 Fc22 Fc21 (Or.inr ⟨(hw _ (List.mem_of_getElem? (i := 21) rfl)), rfl, hnm⟩) (hw _ (List.mem_of_getElem? (i := 5) rfl)) (ty := .long) (by decide) rfl rfl (g := (mkF m 22 #[.val (.ref o0), .val (.int (1 : Int32)), .val (.int (-1 : Int32)), .val (.ref o3), .val (.long (0 : Int64)), .second, .val (.int (1 : Int32))] [(.long (0 : Int64)), (.ref o0)])) rfl rfl (hb hby d2_22)
  have z24 := W23.size
  have N23 := Fr.snoc X23 N18 (by omega : n0 ≤ o0)
  have KC25 : Keep h0 h23 [o0] := KC20.wr W23 (Or.inl (List.mem_of_getElem? (i := 0) rfl))
  have Fw23 := Fc22.same W23
  have Fc26 := (Fc21.wr W23)
  have Fc27 := ((((H5.other W8 (Or.inr (slot_ne (Or.inr (hw _ (List.mem_of_getElem? (i := 23) rfl))) (Or.inr (hw _ (List.mem_of_getElem? (i := 15) rfl))) (by decide) (t := .boolean) (t' := .boolean) (by decide) (by decide)))).other W13 (Or.inr (slot_ne (Or.inr (hw _ (List.mem_of_getElem? (i := 23) rfl))) (Or.inr (hw _ (List.mem_of_getElem? (i := 17) rfl))) (by decide) (t := .boolean) (t' := .int) (by decide) (by decide)))).other W18 (Or.inr (slot_ne (Or.inr (hw _ (List.mem_of_getElem? (i := 23) rfl))) (Or.inr (hw _ (List.mem_of_getElem? (i := 19) rfl))) (by decide) (t := .boolean) (t' := (.object "java/time/Duration")) (by decide) (by decide)))).other W23 (Or.inr (slot_ne (Or.inr (hw _ (List.mem_of_getElem? (i := 23) rfl))) (Or.inr (hw _ (List.mem_of_getElem? (i := 21) rfl))) (by decide) (t := .boolean) (t' := .long) (by decide) (by decide))))
  obtain ⟨T28, h28, X28, e28, W28, st28⟩ := putFN X23 hx hZ hown (hw _ (List.mem_of_getElem? (i := 22) rfl)) Via.refl e23 Fc27 Fc26 (Or.inr ⟨(hw _ (List.mem_of_getElem? (i := 23) rfl)), rfl, hnm⟩) (hw _ (List.mem_of_getElem? (i := 5) rfl)) (ty := .boolean) (v' := (.int (1 : Int32))) (by decide) rfl (by decide) (g := (mkF m 28 #[.val (.ref o0), .val (.int (1 : Int32)), .val (.int (-1 : Int32)), .val (.ref o3), .val (.long (0 : Int64)), .second, .val (.int (1 : Int32))] [(.int (1 : Int32)), (.ref o0)])) rfl rfl (hb hby d2_28)
  have z29 := W28.size
  have N28 := Fr.snoc X28 N23 (by omega : n0 ≤ o0)
  have KC30 : Keep h0 h28 [o0] := KC25.wr W28 (Or.inl (List.mem_of_getElem? (i := 0) rfl))
  have Fw28 := Fc27.same W28
  obtain ⟨fs, hr, hrun, hended, hW, hsame⟩ := X28.leave (v := none) (fun _ => rfl)
  have Fc31 := (Fc26.wr W28)
  have Fc32 := ((((Fw8.other W13 (Or.inr (slot_ne (Or.inr (hw _ (List.mem_of_getElem? (i := 15) rfl))) (Or.inr (hw _ (List.mem_of_getElem? (i := 17) rfl))) (by decide) (t := .boolean) (t' := .int) (by decide) (by decide)))).other W18 (Or.inr (slot_ne (Or.inr (hw _ (List.mem_of_getElem? (i := 15) rfl))) (Or.inr (hw _ (List.mem_of_getElem? (i := 19) rfl))) (by decide) (t := .boolean) (t' := (.object "java/time/Duration")) (by decide) (by decide)))).other W23 (Or.inr (slot_ne (Or.inr (hw _ (List.mem_of_getElem? (i := 15) rfl))) (Or.inr (hw _ (List.mem_of_getElem? (i := 21) rfl))) (by decide) (t := .boolean) (t' := .long) (by decide) (by decide)))).other W28 (Or.inr (slot_ne (Or.inr (hw _ (List.mem_of_getElem? (i := 15) rfl))) (Or.inr (hw _ (List.mem_of_getElem? (i := 23) rfl))) (by decide) (t := .boolean) (t' := .boolean) (by decide) (by decide))))
  have Fc33 := (((Fw13.other W18 (Or.inr (slot_ne (Or.inr (hw _ (List.mem_of_getElem? (i := 17) rfl))) (Or.inr (hw _ (List.mem_of_getElem? (i := 19) rfl))) (by decide) (t := .int) (t' := (.object "java/time/Duration")) (by decide) (by decide)))).other W23 (Or.inr (slot_ne (Or.inr (hw _ (List.mem_of_getElem? (i := 17) rfl))) (Or.inr (hw _ (List.mem_of_getElem? (i := 21) rfl))) (by decide) (t := .int) (t' := .long) (by decide) (by decide)))).other W28 (Or.inr (slot_ne (Or.inr (hw _ (List.mem_of_getElem? (i := 17) rfl))) (Or.inr (hw _ (List.mem_of_getElem? (i := 23) rfl))) (by decide) (t := .int) (t' := .boolean) (by decide) (by decide))))
  have Fc34 := ((Fw18.other W23 (Or.inr (slot_ne (Or.inr (hw _ (List.mem_of_getElem? (i := 19) rfl))) (Or.inr (hw _ (List.mem_of_getElem? (i := 21) rfl))) (by decide) (t := (.object "java/time/Duration")) (t' := .long) (by decide) (by decide)))).other W28 (Or.inr (slot_ne (Or.inr (hw _ (List.mem_of_getElem? (i := 19) rfl))) (Or.inr (hw _ (List.mem_of_getElem? (i := 23) rfl))) (by decide) (t := (.object "java/time/Duration")) (t' := .boolean) (by decide) (by decide))))
  have Fc35 := (Fw23.other W28 (Or.inr (slot_ne (Or.inr (hw _ (List.mem_of_getElem? (i := 21) rfl))) (Or.inr (hw _ (List.mem_of_getElem? (i := 23) rfl))) (by decide) (t := .long) (t' := .boolean) (by decide) (by decide))))
  refine ⟨_, _, pre0 _ ?_, hrun, hended, _, _, rfl, ?_, ⟨_, rfl⟩, hW, hsame.mono (by decide) (by decide)⟩
  · show Steps p.tables e below (s₁.setTop (mkF m 0 #[.val (.ref o0), .val (.int (1 : Int32)), .val (.int (-1 : Int32)), .val (.ref o3), .val (.long (0 : Int64)), .second, .val (.int (1 : Int32))] [])) _
    refine XS.aloadN X0.here hx rfl (hb hby d2_0) rfl rfl ?_
    show Steps p.tables e below (s₁.setTop (mkF m 1 #[.val (.ref o0), .val (.int (1 : Int32)), .val (.int (-1 : Int32)), .val (.ref o3), .val (.long (0 : Int64)), .second, .val (.int (1 : Int32))] [(.ref o0)])) _
    refine st7 _ ?_
    show Steps p.tables e below (T7.setTop (mkF m 4 #[.val (.ref o0), .val (.int (1 : Int32)), .val (.int (-1 : Int32)), .val (.ref o3), .val (.long (0 : Int64)), .second, .val (.int (1 : Int32))] [])) _
    refine XS.aloadN X7.here hx rfl (hb hby d2_4) rfl rfl ?_
    show Steps p.tables e below (T7.setTop (mkF m 5 #[.val (.ref o0), .val (.int (1 : Int32)), .val (.int (-1 : Int32)), .val (.ref o3), .val (.long (0 : Int64)), .second, .val (.int (1 : Int32))] [(.ref o0)])) _
    refine XS.iloadN X7.here hx rfl (hb hby d2_5) rfl ?_
    show Steps p.tables e below (T7.setTop (mkF m 6 #[.val (.ref o0), .val (.int (1 : Int32)), .val (.int (-1 : Int32)), .val (.ref o3), .val (.long (0 : Int64)), .second, .val (.int (1 : Int32))] [(.int (1 : Int32)), (.ref o0)])) _
    refine st8 _ ?_
    show Steps p.tables e below (T8.setTop (mkF m 9 #[.val (.ref o0), .val (.int (1 : Int32)), .val (.int (-1 : Int32)), .val (.ref o3), .val (.long (0 : Int64)), .second, .val (.int (1 : Int32))] [])) _
    refine XS.aloadN X8.here hx rfl (hb hby d2_9) rfl rfl ?_
    show Steps p.tables e below (T8.setTop (mkF m 10 #[.val (.ref o0), .val (.int (1 : Int32)), .val (.int (-1 : Int32)), .val (.ref o3), .val (.long (0 : Int64)), .second, .val (.int (1 : Int32))] [(.ref o0)])) _
    refine XS.iloadN X8.here hx rfl (hb hby d2_10) rfl ?_
    show Steps p.tables e below (T8.setTop (mkF m 11 #[.val (.ref o0), .val (.int (1 : Int32)), .val (.int (-1 : Int32)), .val (.ref o3), .val (.long (0 : Int64)), .second, .val (.int (1 : Int32))] [(.int (-1 : Int32)), (.ref o0)])) _
    refine st13 _ ?_
    show Steps p.tables e below (T13.setTop (mkF m 14 #[.val (.ref o0), .val (.int (1 : Int32)), .val (.int (-1 : Int32)), .val (.ref o3), .val (.long (0 : Int64)), .second, .val (.int (1 : Int32))] [])) _
    refine XS.aloadN X13.here hx rfl (hb hby d2_14) rfl rfl ?_
    show Steps p.tables e below (T13.setTop (mkF m 15 #[.val (.ref o0), .val (.int (1 : Int32)), .val (.int (-1 : Int32)), .val (.ref o3), .val (.long (0 : Int64)), .second, .val (.int (1 : Int32))] [(.ref o0)])) _
    refine XS.aloadN X13.here hx rfl (hb hby d2_15) rfl rfl ?_
    show Steps p.tables e below (T13.setTop (mkF m 16 #[.val (.ref o0), .val (.int (1 : Int32)), .val (.int (-1 : Int32)), .val (.ref o3), .val (.long (0 : Int64)), .second, .val (.int (1 : Int32))] [(.ref o3), (.ref o0)])) _
    refine st18 _ ?_
    show Steps p.tables e below (T18.setTop (mkF m 19 #[.val (.ref o0), .val (.int (1 : Int32)), .val (.int (-1 : Int32)), .val (.ref o3), .val (.long (0 : Int64)), .second, .val (.int (1 : Int32))] [])) _
    refine XS.aloadN X18.here hx rfl (hb hby d2_19) rfl rfl ?_
    show Steps p.tables e below (T18.setTop (mkF m 20 #[.val (.ref o0), .val (.int (1 : Int32)), .val (.int (-1 : Int32)), .val (.ref o3), .val (.long (0 : Int64)), .second, .val (.int (1 : Int32))] [(.ref o0)])) _
    refine XS.lload X18.here hx rfl (hb hby d2_20) rfl ?_
    show Steps p.tables e below (T18.setTop (mkF m 22 #[.val (.ref o0), .val (.int (1 : Int32)), .val (.int (-1 : Int32)), .val (.ref o3), .val (.long (0 : Int64)), .second, .val (.int (1 : Int32))] [(.long (0 : Int64)), (.ref o0)])) _
    refine st23 _ ?_
    show Steps p.tables e below (T23.setTop (mkF m 25 #[.val (.ref o0), .val (.int (1 : Int32)), .val (.int (-1 : Int32)), .val (.ref o3), .val (.long (0 : Int64)), .second, .val (.int (1 : Int32))] [])) _
    refine XS.aloadN X23.here hx rfl (hb hby d2_25) rfl rfl ?_
    show Steps p.tables e below (T23.setTop (mkF m 26 #[.val (.ref o0), .val (.int (1 : Int32)), .val (.int (-1 : Int32)), .val (.ref o3), .val (.long (0 : Int64)), .second, .val (.int (1 : Int32))] [(.ref o0)])) _
    refine XS.iload X23.here hx rfl (hb hby d2_26) rfl ?_
    show Steps p.tables e below (T23.setTop (mkF m 28 #[.val (.ref o0), .val (.int (1 : Int32)), .val (.int (-1 : Int32)), .val (.ref o3), .val (.long (0 : Int64)), .second, .val (.int (1 : Int32))] [(.int (1 : Int32)), (.ref o0)])) _
    refine st28 _ ?_
    show Steps p.tables e below (T28.setTop (mkF m 31 #[.val (.ref o0), .val (.int (1 : Int32)), .val (.int (-1 : Int32)), .val (.ref o3), .val (.long (0 : Int64)), .second, .val (.int (1 : Int32))] [])) _
    exact X28.returnOut hx Bd.returns (hb hby d2_31) hr
  · show Qrm2a Z o0 o3 h0 n0 _ T28.heap _
    rw [e28]
    exact ⟨rfl, N28, KC30, Fc31, Fc32, Fc33, Fc34, Fc35, Fw28⟩
theorem ef_rm2b (m : MethodId) (o0 : Addr) (o3 : Addr) : entryFrame m #[(.ref o0), (.int (0 : Int32)), (.int (-1 : Int32)), (.ref o3), (.long (0 : Int64)), (.int (1 : Int32))] 7 = mkF m 0 #[.val (.ref o0), .val (.int (0 : Int32)), .val (.int (-1 : Int32)), .val (.ref o3), .val (.long (0 : Int64)), .second, .val (.int (1 : Int32))] [] := by first | (simp [entryFrame, mkF, argsToLocals, Value.category]; done) | rfl
def Qrm2b (Z : State) (o0 : Addr) (o3 : Addr) (h0 : Heap) (n0 : Nat) (v : Option Value) (h : Heap) (L : List Loc) : Prop := v = none ∧ Fr n0 L ∧ Keep h0 h [o0] ∧ Exa Z h o0 "com/example/klepsydra/klepsydra/Decision" ∧ Fld Z h o0 "com/example/klepsydra/klepsydra/Decision" "granted" "Z" (.int (0 : Int32)) ∧ Fld Z h o0 "com/example/klepsydra/klepsydra/Decision" "refusedBy" "I" (.int (-1 : Int32)) ∧ Fld Z h o0 "com/example/klepsydra/klepsydra/Decision" "retryAfter" "Ljava/time/Duration;" (.ref o3) ∧ Fld Z h o0 "com/example/klepsydra/klepsydra/Decision" "remaining" "J" (.long (0 : Int64)) ∧ Fld Z h o0 "com/example/klepsydra/klepsydra/Decision" "degraded" "Z" (.int (1 : Int32))
set_option maxRecDepth 65536 in
set_option maxHeartbeats 40000000 in
theorem rm2b (l : Launch) (Z : State) (a0 : Array Value) (hw : ∀ d ∈ tables_1, d.before a0 Z = true) (ws : List Jvm.Cond) (o0 : Addr) (o3 : Addr) (h0 : Heap) (n0 : Nat) (Z0 : n0 ≤ h0.size) (H0 : Exa Z h0 o0 "com/example/klepsydra/klepsydra/Decision") (H1 : Fld Z h0 o0 "com/example/klepsydra/klepsydra/Decision" "granted" "Z" (.int (0 : Int32))) (H2 : Fld Z h0 o0 "com/example/klepsydra/klepsydra/Decision" "refusedBy" "I" (.int (0 : Int32))) (H3 : Fld Z h0 o0 "com/example/klepsydra/klepsydra/Decision" "retryAfter" "Ljava/time/Duration;" .null) (H4 : Fld Z h0 o0 "com/example/klepsydra/klepsydra/Decision" "remaining" "J" (.long (0 : Int64))) (H5 : Fld Z h0 o0 "com/example/klepsydra/klepsydra/Decision" "degraded" "Z" (.int (0 : Int32))) (H6 : n0 ≤ o0) :
    MetFree l (⟨"com/example/klepsydra/klepsydra/Decision", "<init>", "(ZILjava/time/Duration;JZ)V"⟩ : MethodName) (head1 (Jvm.Cond.code (⟨"com/example/klepsydra/klepsydra/Decision", "<init>", "(ZILjava/time/Duration;JZ)V"⟩ : MethodName) prog_9_method_1_code 7 none :: ws) ({ frames := 1, cells := 0, slots := 0, locals := 12 } : Room)) (fun a U => a = #[(.ref o0), (.int (0 : Int32)), (.int (-1 : Int32)), (.ref o3), (.long (0 : Int64)), (.int (1 : Int32))] ∧ Z.Warmed39 U.vm ∧ U.heap = h0) (fun _ _ _ _ _ => True) (fun _ U o U' => ∃ v L, o = .returned v ∧ Qrm2b Z o0 o3 h0 n0 v U'.heap L ∧ FrameEnd U o U' L ({ frames := 1, cells := 0, slots := 0, locals := 12 } : Room).cells ({ frames := 1, cells := 0, slots := 0, locals := 12 } : Room).slots) := by
  refine MetFree.of_bodySF (plainFor_of_name pn_2) hisR ?_
  intro p e s m args below meth c s₁ Bd hml0 hP hK
  obtain ⟨rfl, hZ, hh⟩ := hP
  have hx := Bd.exec
  have hby := Bd.bytes
  have hml : c.maxLocals = 7 := hml0
  have hown : s.vm.findClass "com/example/klepsydra/klepsydra/Decision" = some m.cls := findClass_of_methodNamed Bd.named
  have hnm := (name_of_methodNamed Bd.named Bd.method).1
  have X0 : Stand p l e ({ frames := 1, cells := 0, slots := 0, locals := 12 } : Room) s m #[(.ref o0), (.int (0 : Int32)), (.int (-1 : Int32)), (.ref o3), (.long (0 : Int64)), (.int (1 : Int32))] below meth c s₁ [] 0 0 := Stand.of_body Bd
  have e0 : s₁.heap = h0 := by rw [← hh, Bd.state]; rfl
  have N0 := Fr.nil n0
  have pre0 : ∀ t, Steps p.tables e below (s₁.setTop (mkF m 0 #[.val (.ref o0), .val (.int (0 : Int32)), .val (.int (-1 : Int32)), .val (.ref o3), .val (.long (0 : Int64)), .second, .val (.int (1 : Int32))] [])) t → Steps p.tables e below (s₁.setTop (entryFrame m #[(.ref o0), (.int (0 : Int32)), (.int (-1 : Int32)), (.ref o3), (.long (0 : Int64)), (.int (1 : Int32))] 7)) t := fun t k => castTop (ef_rm2b m o0 o3) k
  have z36 := H0.lt
  have z37 := H1.lt
  have z38 := H2.lt
  have z39 := H3.lt
  have z40 := H4.lt
  have z41 := H5.lt
  have KC0 : Keep h0 h0 [o0] := Keep.refl _ _
  obtain ⟨T42, X42, e42, st42⟩ := initO X0 hx hZ hown (hw _ (List.mem_of_getElem? (i := 11) rfl)) (hw _ (List.mem_of_getElem? (i := 12) rfl)) (hw _ (List.mem_of_getElem? (i := 13) rfl)) e0 (g := (mkF m 1 #[.val (.ref o0), .val (.int (0 : Int32)), .val (.int (-1 : Int32)), .val (.ref o3), .val (.long (0 : Int64)), .second, .val (.int (1 : Int32))] [(.ref o0)])) rfl (by rw [hml]; rfl) rfl (hb hby d2_1) (by decide) (W := 0) (by show 2 * 0 + _ ≤ _; exact Nat.le_of_eq rfl) (by decide)
  obtain ⟨T43, h43, X43, e43, W43, st43⟩ := putFN X42 hx hZ hown (hw _ (List.mem_of_getElem? (i := 14) rfl)) Via.refl e42 H1 H0 (Or.inr ⟨(hw _ (List.mem_of_getElem? (i := 15) rfl)), rfl, hnm⟩) (hw _ (List.mem_of_getElem? (i := 5) rfl)) (ty := .boolean) (v' := (.int (0 : Int32))) (by decide) rfl (by decide) (g := (mkF m 6 #[.val (.ref o0), .val (.int (0 : Int32)), .val (.int (-1 : Int32)), .val (.ref o3), .val (.long (0 : Int64)), .second, .val (.int (1 : Int32))] [(.int (0 : Int32)), (.ref o0)])) rfl rfl (hb hby d2_6)
  have z44 := W43.size
  have N43 := Fr.snoc X43 N0 (by omega : n0 ≤ o0)
  have KC45 : Keep h0 h43 [o0] := KC0.wr W43 (Or.inl (List.mem_of_getElem? (i := 0) rfl))
  have Fw43 := H1.same W43
  have Fc46 := (H0.wr W43)
  have Fc47 := (H2.other W43 (Or.inr (slot_ne (Or.inr (hw _ (List.mem_of_getElem? (i := 17) rfl))) (Or.inr (hw _ (List.mem_of_getElem? (i := 15) rfl))) (by decide) (t := .int) (t' := .boolean) (by decide) (by decide))))
  obtain ⟨T48, h48, X48, e48, W48, st48⟩ := putF X43 hx hZ hown (host := "") (Or.inl (hw _ (List.mem_of_getElem? (i := 16) rfl))) Via.refl e43 Fc47 Fc46 (Or.inr ⟨(hw _ (List.mem_of_getElem? (i := 17) rfl)), rfl, hnm⟩) (hw _ (List.mem_of_getElem? (i := 5) rfl)) (ty := .int) (by decide) rfl rfl (g := (mkF m 11 #[.val (.ref o0), .val (.int (0 : Int32)), .val (.int (-1 : Int32)), .val (.ref o3), .val (.long (0 : Int64)), .second, .val (.int (1 : Int32))] [(.int (-1 : Int32)), (.ref o0)])) rfl rfl (hb hby d2_11)
  have z49 := W48.size
  have N48 := Fr.snoc X48 N43 (by omega : n0 ≤ o0)
  have KC50 : Keep h0 h48 [o0] := KC45.wr W48 (Or.inl (List.mem_of_getElem? (i := 0) rfl))
  have Fw48 := Fc47.same W48
  have Fc51 := (Fc46.wr W48)
  have Fc52 := ((H3.other W43 (Or.inr (slot_ne (Or.inr (hw _ (List.mem_of_getElem? (i := 19) rfl))) (Or.inr (hw _ (List.mem_of_getElem? (i := 15) rfl))) (by decide) (t := (.object "java/time/Duration")) (t' := .boolean) (by decide) (by decide)))).other W48 (Or.inr (slot_ne (Or.inr (hw _ (List.mem_of_getElem? (i := 19) rfl))) (Or.inr (hw _ (List.mem_of_getElem? (i := 17) rfl))) (by decide) (t := (.object "java/time/Duration")) (t' := .int) (by decide) (by decide))))
  obtain ⟨T53, h53, X53, e53, W53, st53⟩ := putF X48 hx hZ hown (host := "") (Or.inl (hw _ (List.mem_of_getElem? (i := 18) rfl))) Via.refl e48 Fc52 Fc51 (Or.inr ⟨(hw _ (List.mem_of_getElem? (i := 19) rfl)), rfl, hnm⟩) (hw _ (List.mem_of_getElem? (i := 5) rfl)) (ty := (.object "java/time/Duration")) (by decide) rfl rfl (g := (mkF m 16 #[.val (.ref o0), .val (.int (0 : Int32)), .val (.int (-1 : Int32)), .val (.ref o3), .val (.long (0 : Int64)), .second, .val (.int (1 : Int32))] [(.ref o3), (.ref o0)])) rfl rfl (hb hby d2_16)
  have z54 := W53.size
  have N53 := Fr.snoc X53 N48 (by omega : n0 ≤ o0)
  have KC55 : Keep h0 h53 [o0] := KC50.wr W53 (Or.inl (List.mem_of_getElem? (i := 0) rfl))
  have Fw53 := Fc52.same W53
  have Fc56 := (Fc51.wr W53)
  have Fc57 := (((H4.other W43 (Or.inr (slot_ne (Or.inr (hw _ (List.mem_of_getElem? (i := 21) rfl))) (Or.inr (hw _ (List.mem_of_getElem? (i := 15) rfl))) (by decide) (t := .long) (t' := .boolean) (by decide) (by decide)))).other W48 (Or.inr (slot_ne (Or.inr (hw _ (List.mem_of_getElem? (i := 21) rfl))) (Or.inr (hw _ (List.mem_of_getElem? (i := 17) rfl))) (by decide) (t := .long) (t' := .int) (by decide) (by decide)))).other W53 (Or.inr (slot_ne (Or.inr (hw _ (List.mem_of_getElem? (i := 21) rfl))) (Or.inr (hw _ (List.mem_of_getElem? (i := 19) rfl))) (by decide) (t := .long) (t' := (.object "java/time/Duration")) (by decide) (by decide))))
  obtain ⟨T58, h58, X58, e58, W58, st58⟩ := putF X53 hx hZ hown (host := "") (Or.inl (hw _ (List.mem_of_getElem? (i := 20) rfl))) Via.refl e53 Fc57 Fc56 (Or.inr ⟨(hw _ (List.mem_of_getElem? (i := 21) rfl)), rfl, hnm⟩) (hw _ (List.mem_of_getElem? (i := 5) rfl)) (ty := .long) (by decide) rfl rfl (g := (mkF m 22 #[.val (.ref o0), .val (.int (0 : Int32)), .val (.int (-1 : Int32)), .val (.ref o3), .val (.long (0 : Int64)), .second, .val (.int (1 : Int32))] [(.long (0 : Int64)), (.ref o0)])) rfl rfl (hb hby d2_22)
  have z59 := W58.size
  have N58 := Fr.snoc X58 N53 (by omega : n0 ≤ o0)
  have KC60 : Keep h0 h58 [o0] := KC55.wr W58 (Or.inl (List.mem_of_getElem? (i := 0) rfl))
  have Fw58 := Fc57.same W58
  have Fc61 := (Fc56.wr W58)
  have Fc62 := ((((H5.other W43 (Or.inr (slot_ne (Or.inr (hw _ (List.mem_of_getElem? (i := 23) rfl))) (Or.inr (hw _ (List.mem_of_getElem? (i := 15) rfl))) (by decide) (t := .boolean) (t' := .boolean) (by decide) (by decide)))).other W48 (Or.inr (slot_ne (Or.inr (hw _ (List.mem_of_getElem? (i := 23) rfl))) (Or.inr (hw _ (List.mem_of_getElem? (i := 17) rfl))) (by decide) (t := .boolean) (t' := .int) (by decide) (by decide)))).other W53 (Or.inr (slot_ne (Or.inr (hw _ (List.mem_of_getElem? (i := 23) rfl))) (Or.inr (hw _ (List.mem_of_getElem? (i := 19) rfl))) (by decide) (t := .boolean) (t' := (.object "java/time/Duration")) (by decide) (by decide)))).other W58 (Or.inr (slot_ne (Or.inr (hw _ (List.mem_of_getElem? (i := 23) rfl))) (Or.inr (hw _ (List.mem_of_getElem? (i := 21) rfl))) (by decide) (t := .boolean) (t' := .long) (by decide) (by decide))))
  obtain ⟨T63, h63, X63, e63, W63, st63⟩ := putFN X58 hx hZ hown (hw _ (List.mem_of_getElem? (i := 22) rfl)) Via.refl e58 Fc62 Fc61 (Or.inr ⟨(hw _ (List.mem_of_getElem? (i := 23) rfl)), rfl, hnm⟩) (hw _ (List.mem_of_getElem? (i := 5) rfl)) (ty := .boolean) (v' := (.int (1 : Int32))) (by decide) rfl (by decide) (g := (mkF m 28 #[.val (.ref o0), .val (.int (0 : Int32)), .val (.int (-1 : Int32)), .val (.ref o3), .val (.long (0 : Int64)), .second, .val (.int (1 : Int32))] [(.int (1 : Int32)), (.ref o0)])) rfl rfl (hb hby d2_28)
  have z64 := W63.size
  have N63 := Fr.snoc X63 N58 (by omega : n0 ≤ o0)
  have KC65 : Keep h0 h63 [o0] := KC60.wr W63 (Or.inl (List.mem_of_getElem? (i := 0) rfl))
  have Fw63 := Fc62.same W63
  obtain ⟨fs, hr, hrun, hended, hW, hsame⟩ := X63.leave (v := none) (fun _ => rfl)
  have Fc66 := (Fc61.wr W63)
  have Fc67 := ((((Fw43.other W48 (Or.inr (slot_ne (Or.inr (hw _ (List.mem_of_getElem? (i := 15) rfl))) (Or.inr (hw _ (List.mem_of_getElem? (i := 17) rfl))) (by decide) (t := .boolean) (t' := .int) (by decide) (by decide)))).other W53 (Or.inr (slot_ne (Or.inr (hw _ (List.mem_of_getElem? (i := 15) rfl))) (Or.inr (hw _ (List.mem_of_getElem? (i := 19) rfl))) (by decide) (t := .boolean) (t' := (.object "java/time/Duration")) (by decide) (by decide)))).other W58 (Or.inr (slot_ne (Or.inr (hw _ (List.mem_of_getElem? (i := 15) rfl))) (Or.inr (hw _ (List.mem_of_getElem? (i := 21) rfl))) (by decide) (t := .boolean) (t' := .long) (by decide) (by decide)))).other W63 (Or.inr (slot_ne (Or.inr (hw _ (List.mem_of_getElem? (i := 15) rfl))) (Or.inr (hw _ (List.mem_of_getElem? (i := 23) rfl))) (by decide) (t := .boolean) (t' := .boolean) (by decide) (by decide))))
  have Fc68 := (((Fw48.other W53 (Or.inr (slot_ne (Or.inr (hw _ (List.mem_of_getElem? (i := 17) rfl))) (Or.inr (hw _ (List.mem_of_getElem? (i := 19) rfl))) (by decide) (t := .int) (t' := (.object "java/time/Duration")) (by decide) (by decide)))).other W58 (Or.inr (slot_ne (Or.inr (hw _ (List.mem_of_getElem? (i := 17) rfl))) (Or.inr (hw _ (List.mem_of_getElem? (i := 21) rfl))) (by decide) (t := .int) (t' := .long) (by decide) (by decide)))).other W63 (Or.inr (slot_ne (Or.inr (hw _ (List.mem_of_getElem? (i := 17) rfl))) (Or.inr (hw _ (List.mem_of_getElem? (i := 23) rfl))) (by decide) (t := .int) (t' := .boolean) (by decide) (by decide))))
  have Fc69 := ((Fw53.other W58 (Or.inr (slot_ne (Or.inr (hw _ (List.mem_of_getElem? (i := 19) rfl))) (Or.inr (hw _ (List.mem_of_getElem? (i := 21) rfl))) (by decide) (t := (.object "java/time/Duration")) (t' := .long) (by decide) (by decide)))).other W63 (Or.inr (slot_ne (Or.inr (hw _ (List.mem_of_getElem? (i := 19) rfl))) (Or.inr (hw _ (List.mem_of_getElem? (i := 23) rfl))) (by decide) (t := (.object "java/time/Duration")) (t' := .boolean) (by decide) (by decide))))
  have Fc70 := (Fw58.other W63 (Or.inr (slot_ne (Or.inr (hw _ (List.mem_of_getElem? (i := 21) rfl))) (Or.inr (hw _ (List.mem_of_getElem? (i := 23) rfl))) (by decide) (t := .long) (t' := .boolean) (by decide) (by decide))))
  refine ⟨_, _, pre0 _ ?_, hrun, hended, _, _, rfl, ?_, ⟨_, rfl⟩, hW, hsame.mono (by decide) (by decide)⟩
  · show Steps p.tables e below (s₁.setTop (mkF m 0 #[.val (.ref o0), .val (.int (0 : Int32)), .val (.int (-1 : Int32)), .val (.ref o3), .val (.long (0 : Int64)), .second, .val (.int (1 : Int32))] [])) _
    refine XS.aloadN X0.here hx rfl (hb hby d2_0) rfl rfl ?_
    show Steps p.tables e below (s₁.setTop (mkF m 1 #[.val (.ref o0), .val (.int (0 : Int32)), .val (.int (-1 : Int32)), .val (.ref o3), .val (.long (0 : Int64)), .second, .val (.int (1 : Int32))] [(.ref o0)])) _
    refine st42 _ ?_
    show Steps p.tables e below (T42.setTop (mkF m 4 #[.val (.ref o0), .val (.int (0 : Int32)), .val (.int (-1 : Int32)), .val (.ref o3), .val (.long (0 : Int64)), .second, .val (.int (1 : Int32))] [])) _
    refine XS.aloadN X42.here hx rfl (hb hby d2_4) rfl rfl ?_
    show Steps p.tables e below (T42.setTop (mkF m 5 #[.val (.ref o0), .val (.int (0 : Int32)), .val (.int (-1 : Int32)), .val (.ref o3), .val (.long (0 : Int64)), .second, .val (.int (1 : Int32))] [(.ref o0)])) _
    refine XS.iloadN X42.here hx rfl (hb hby d2_5) rfl ?_
    show Steps p.tables e below (T42.setTop (mkF m 6 #[.val (.ref o0), .val (.int (0 : Int32)), .val (.int (-1 : Int32)), .val (.ref o3), .val (.long (0 : Int64)), .second, .val (.int (1 : Int32))] [(.int (0 : Int32)), (.ref o0)])) _
    refine st43 _ ?_
    show Steps p.tables e below (T43.setTop (mkF m 9 #[.val (.ref o0), .val (.int (0 : Int32)), .val (.int (-1 : Int32)), .val (.ref o3), .val (.long (0 : Int64)), .second, .val (.int (1 : Int32))] [])) _
    refine XS.aloadN X43.here hx rfl (hb hby d2_9) rfl rfl ?_
    show Steps p.tables e below (T43.setTop (mkF m 10 #[.val (.ref o0), .val (.int (0 : Int32)), .val (.int (-1 : Int32)), .val (.ref o3), .val (.long (0 : Int64)), .second, .val (.int (1 : Int32))] [(.ref o0)])) _
    refine XS.iloadN X43.here hx rfl (hb hby d2_10) rfl ?_
    show Steps p.tables e below (T43.setTop (mkF m 11 #[.val (.ref o0), .val (.int (0 : Int32)), .val (.int (-1 : Int32)), .val (.ref o3), .val (.long (0 : Int64)), .second, .val (.int (1 : Int32))] [(.int (-1 : Int32)), (.ref o0)])) _
    refine st48 _ ?_
    show Steps p.tables e below (T48.setTop (mkF m 14 #[.val (.ref o0), .val (.int (0 : Int32)), .val (.int (-1 : Int32)), .val (.ref o3), .val (.long (0 : Int64)), .second, .val (.int (1 : Int32))] [])) _
    refine XS.aloadN X48.here hx rfl (hb hby d2_14) rfl rfl ?_
    show Steps p.tables e below (T48.setTop (mkF m 15 #[.val (.ref o0), .val (.int (0 : Int32)), .val (.int (-1 : Int32)), .val (.ref o3), .val (.long (0 : Int64)), .second, .val (.int (1 : Int32))] [(.ref o0)])) _
    refine XS.aloadN X48.here hx rfl (hb hby d2_15) rfl rfl ?_
    show Steps p.tables e below (T48.setTop (mkF m 16 #[.val (.ref o0), .val (.int (0 : Int32)), .val (.int (-1 : Int32)), .val (.ref o3), .val (.long (0 : Int64)), .second, .val (.int (1 : Int32))] [(.ref o3), (.ref o0)])) _
    refine st53 _ ?_
    show Steps p.tables e below (T53.setTop (mkF m 19 #[.val (.ref o0), .val (.int (0 : Int32)), .val (.int (-1 : Int32)), .val (.ref o3), .val (.long (0 : Int64)), .second, .val (.int (1 : Int32))] [])) _
    refine XS.aloadN X53.here hx rfl (hb hby d2_19) rfl rfl ?_
    show Steps p.tables e below (T53.setTop (mkF m 20 #[.val (.ref o0), .val (.int (0 : Int32)), .val (.int (-1 : Int32)), .val (.ref o3), .val (.long (0 : Int64)), .second, .val (.int (1 : Int32))] [(.ref o0)])) _
    refine XS.lload X53.here hx rfl (hb hby d2_20) rfl ?_
    show Steps p.tables e below (T53.setTop (mkF m 22 #[.val (.ref o0), .val (.int (0 : Int32)), .val (.int (-1 : Int32)), .val (.ref o3), .val (.long (0 : Int64)), .second, .val (.int (1 : Int32))] [(.long (0 : Int64)), (.ref o0)])) _
    refine st58 _ ?_
    show Steps p.tables e below (T58.setTop (mkF m 25 #[.val (.ref o0), .val (.int (0 : Int32)), .val (.int (-1 : Int32)), .val (.ref o3), .val (.long (0 : Int64)), .second, .val (.int (1 : Int32))] [])) _
    refine XS.aloadN X58.here hx rfl (hb hby d2_25) rfl rfl ?_
    show Steps p.tables e below (T58.setTop (mkF m 26 #[.val (.ref o0), .val (.int (0 : Int32)), .val (.int (-1 : Int32)), .val (.ref o3), .val (.long (0 : Int64)), .second, .val (.int (1 : Int32))] [(.ref o0)])) _
    refine XS.iload X58.here hx rfl (hb hby d2_26) rfl ?_
    show Steps p.tables e below (T58.setTop (mkF m 28 #[.val (.ref o0), .val (.int (0 : Int32)), .val (.int (-1 : Int32)), .val (.ref o3), .val (.long (0 : Int64)), .second, .val (.int (1 : Int32))] [(.int (1 : Int32)), (.ref o0)])) _
    refine st63 _ ?_
    show Steps p.tables e below (T63.setTop (mkF m 31 #[.val (.ref o0), .val (.int (0 : Int32)), .val (.int (-1 : Int32)), .val (.ref o3), .val (.long (0 : Int64)), .second, .val (.int (1 : Int32))] [])) _
    exact X63.returnOut hx Bd.returns (hb hby d2_31) hr
  · show Qrm2b Z o0 o3 h0 n0 _ T63.heap _
    rw [e63]
    exact ⟨rfl, N63, KC65, Fc66, Fc67, Fc68, Fc69, Fc70, Fw63⟩
theorem ef_rm2c (m : MethodId) (o0 : Addr) (o3 : Addr) : entryFrame m #[(.ref o0), (.int (1 : Int32)), (.int (-1 : Int32)), (.ref o3), (.long (0 : Int64)), (.int (0 : Int32))] 7 = mkF m 0 #[.val (.ref o0), .val (.int (1 : Int32)), .val (.int (-1 : Int32)), .val (.ref o3), .val (.long (0 : Int64)), .second, .val (.int (0 : Int32))] [] := by first | (simp [entryFrame, mkF, argsToLocals, Value.category]; done) | rfl
def Qrm2c (Z : State) (o0 : Addr) (o3 : Addr) (h0 : Heap) (n0 : Nat) (v : Option Value) (h : Heap) (L : List Loc) : Prop := v = none ∧ Fr n0 L ∧ Keep h0 h [o0] ∧ Exa Z h o0 "com/example/klepsydra/klepsydra/Decision" ∧ Fld Z h o0 "com/example/klepsydra/klepsydra/Decision" "granted" "Z" (.int (1 : Int32)) ∧ Fld Z h o0 "com/example/klepsydra/klepsydra/Decision" "refusedBy" "I" (.int (-1 : Int32)) ∧ Fld Z h o0 "com/example/klepsydra/klepsydra/Decision" "retryAfter" "Ljava/time/Duration;" (.ref o3) ∧ Fld Z h o0 "com/example/klepsydra/klepsydra/Decision" "remaining" "J" (.long (0 : Int64)) ∧ Fld Z h o0 "com/example/klepsydra/klepsydra/Decision" "degraded" "Z" (.int (0 : Int32))
set_option maxRecDepth 65536 in
set_option maxHeartbeats 40000000 in
theorem rm2c (l : Launch) (Z : State) (a0 : Array Value) (hw : ∀ d ∈ tables_1, d.before a0 Z = true) (ws : List Jvm.Cond) (o0 : Addr) (o3 : Addr) (h0 : Heap) (n0 : Nat) (Z0 : n0 ≤ h0.size) (H0 : Exa Z h0 o0 "com/example/klepsydra/klepsydra/Decision") (H1 : Fld Z h0 o0 "com/example/klepsydra/klepsydra/Decision" "granted" "Z" (.int (0 : Int32))) (H2 : Fld Z h0 o0 "com/example/klepsydra/klepsydra/Decision" "refusedBy" "I" (.int (0 : Int32))) (H3 : Fld Z h0 o0 "com/example/klepsydra/klepsydra/Decision" "retryAfter" "Ljava/time/Duration;" .null) (H4 : Fld Z h0 o0 "com/example/klepsydra/klepsydra/Decision" "remaining" "J" (.long (0 : Int64))) (H5 : Fld Z h0 o0 "com/example/klepsydra/klepsydra/Decision" "degraded" "Z" (.int (0 : Int32))) (H6 : n0 ≤ o0) :
    MetFree l (⟨"com/example/klepsydra/klepsydra/Decision", "<init>", "(ZILjava/time/Duration;JZ)V"⟩ : MethodName) (head1 (Jvm.Cond.code (⟨"com/example/klepsydra/klepsydra/Decision", "<init>", "(ZILjava/time/Duration;JZ)V"⟩ : MethodName) prog_9_method_1_code 7 none :: ws) ({ frames := 1, cells := 0, slots := 0, locals := 12 } : Room)) (fun a U => a = #[(.ref o0), (.int (1 : Int32)), (.int (-1 : Int32)), (.ref o3), (.long (0 : Int64)), (.int (0 : Int32))] ∧ Z.Warmed39 U.vm ∧ U.heap = h0) (fun _ _ _ _ _ => True) (fun _ U o U' => ∃ v L, o = .returned v ∧ Qrm2c Z o0 o3 h0 n0 v U'.heap L ∧ FrameEnd U o U' L ({ frames := 1, cells := 0, slots := 0, locals := 12 } : Room).cells ({ frames := 1, cells := 0, slots := 0, locals := 12 } : Room).slots) := by
  refine MetFree.of_bodySF (plainFor_of_name pn_2) hisR ?_
  intro p e s m args below meth c s₁ Bd hml0 hP hK
  obtain ⟨rfl, hZ, hh⟩ := hP
  have hx := Bd.exec
  have hby := Bd.bytes
  have hml : c.maxLocals = 7 := hml0
  have hown : s.vm.findClass "com/example/klepsydra/klepsydra/Decision" = some m.cls := findClass_of_methodNamed Bd.named
  have hnm := (name_of_methodNamed Bd.named Bd.method).1
  have X0 : Stand p l e ({ frames := 1, cells := 0, slots := 0, locals := 12 } : Room) s m #[(.ref o0), (.int (1 : Int32)), (.int (-1 : Int32)), (.ref o3), (.long (0 : Int64)), (.int (0 : Int32))] below meth c s₁ [] 0 0 := Stand.of_body Bd
  have e0 : s₁.heap = h0 := by rw [← hh, Bd.state]; rfl
  have N0 := Fr.nil n0
  have pre0 : ∀ t, Steps p.tables e below (s₁.setTop (mkF m 0 #[.val (.ref o0), .val (.int (1 : Int32)), .val (.int (-1 : Int32)), .val (.ref o3), .val (.long (0 : Int64)), .second, .val (.int (0 : Int32))] [])) t → Steps p.tables e below (s₁.setTop (entryFrame m #[(.ref o0), (.int (1 : Int32)), (.int (-1 : Int32)), (.ref o3), (.long (0 : Int64)), (.int (0 : Int32))] 7)) t := fun t k => castTop (ef_rm2c m o0 o3) k
  have z71 := H0.lt
  have z72 := H1.lt
  have z73 := H2.lt
  have z74 := H3.lt
  have z75 := H4.lt
  have z76 := H5.lt
  have KC0 : Keep h0 h0 [o0] := Keep.refl _ _
  obtain ⟨T77, X77, e77, st77⟩ := initO X0 hx hZ hown (hw _ (List.mem_of_getElem? (i := 11) rfl)) (hw _ (List.mem_of_getElem? (i := 12) rfl)) (hw _ (List.mem_of_getElem? (i := 13) rfl)) e0 (g := (mkF m 1 #[.val (.ref o0), .val (.int (1 : Int32)), .val (.int (-1 : Int32)), .val (.ref o3), .val (.long (0 : Int64)), .second, .val (.int (0 : Int32))] [(.ref o0)])) rfl (by rw [hml]; rfl) rfl (hb hby d2_1) (by decide) (W := 0) (by show 2 * 0 + _ ≤ _; exact Nat.le_of_eq rfl) (by decide)
  obtain ⟨T78, h78, X78, e78, W78, st78⟩ := putFN X77 hx hZ hown (hw _ (List.mem_of_getElem? (i := 14) rfl)) Via.refl e77 H1 H0 (Or.inr ⟨(hw _ (List.mem_of_getElem? (i := 15) rfl)), rfl, hnm⟩) (hw _ (List.mem_of_getElem? (i := 5) rfl)) (ty := .boolean) (v' := (.int (1 : Int32))) (by decide) rfl (by decide) (g := (mkF m 6 #[.val (.ref o0), .val (.int (1 : Int32)), .val (.int (-1 : Int32)), .val (.ref o3), .val (.long (0 : Int64)), .second, .val (.int (0 : Int32))] [(.int (1 : Int32)), (.ref o0)])) rfl rfl (hb hby d2_6)
  have z79 := W78.size
  have N78 := Fr.snoc X78 N0 (by omega : n0 ≤ o0)
  have KC80 : Keep h0 h78 [o0] := KC0.wr W78 (Or.inl (List.mem_of_getElem? (i := 0) rfl))
  have Fw78 := H1.same W78
  have Fc81 := (H0.wr W78)
  have Fc82 := (H2.other W78 (Or.inr (slot_ne (Or.inr (hw _ (List.mem_of_getElem? (i := 17) rfl))) (Or.inr (hw _ (List.mem_of_getElem? (i := 15) rfl))) (by decide) (t := .int) (t' := .boolean) (by decide) (by decide))))
  obtain ⟨T83, h83, X83, e83, W83, st83⟩ := putF X78 hx hZ hown (host := "") (Or.inl (hw _ (List.mem_of_getElem? (i := 16) rfl))) Via.refl e78 Fc82 Fc81 (Or.inr ⟨(hw _ (List.mem_of_getElem? (i := 17) rfl)), rfl, hnm⟩) (hw _ (List.mem_of_getElem? (i := 5) rfl)) (ty := .int) (by decide) rfl rfl (g := (mkF m 11 #[.val (.ref o0), .val (.int (1 : Int32)), .val (.int (-1 : Int32)), .val (.ref o3), .val (.long (0 : Int64)), .second, .val (.int (0 : Int32))] [(.int (-1 : Int32)), (.ref o0)])) rfl rfl (hb hby d2_11)
  have z84 := W83.size
  have N83 := Fr.snoc X83 N78 (by omega : n0 ≤ o0)
  have KC85 : Keep h0 h83 [o0] := KC80.wr W83 (Or.inl (List.mem_of_getElem? (i := 0) rfl))
  have Fw83 := Fc82.same W83
  have Fc86 := (Fc81.wr W83)
  have Fc87 := ((H3.other W78 (Or.inr (slot_ne (Or.inr (hw _ (List.mem_of_getElem? (i := 19) rfl))) (Or.inr (hw _ (List.mem_of_getElem? (i := 15) rfl))) (by decide) (t := (.object "java/time/Duration")) (t' := .boolean) (by decide) (by decide)))).other W83 (Or.inr (slot_ne (Or.inr (hw _ (List.mem_of_getElem? (i := 19) rfl))) (Or.inr (hw _ (List.mem_of_getElem? (i := 17) rfl))) (by decide) (t := (.object "java/time/Duration")) (t' := .int) (by decide) (by decide))))
  obtain ⟨T88, h88, X88, e88, W88, st88⟩ := putF X83 hx hZ hown (host := "") (Or.inl (hw _ (List.mem_of_getElem? (i := 18) rfl))) Via.refl e83 Fc87 Fc86 (Or.inr ⟨(hw _ (List.mem_of_getElem? (i := 19) rfl)), rfl, hnm⟩) (hw _ (List.mem_of_getElem? (i := 5) rfl)) (ty := (.object "java/time/Duration")) (by decide) rfl rfl (g := (mkF m 16 #[.val (.ref o0), .val (.int (1 : Int32)), .val (.int (-1 : Int32)), .val (.ref o3), .val (.long (0 : Int64)), .second, .val (.int (0 : Int32))] [(.ref o3), (.ref o0)])) rfl rfl (hb hby d2_16)
  have z89 := W88.size
  have N88 := Fr.snoc X88 N83 (by omega : n0 ≤ o0)
  have KC90 : Keep h0 h88 [o0] := KC85.wr W88 (Or.inl (List.mem_of_getElem? (i := 0) rfl))
  have Fw88 := Fc87.same W88
  have Fc91 := (Fc86.wr W88)
  have Fc92 := (((H4.other W78 (Or.inr (slot_ne (Or.inr (hw _ (List.mem_of_getElem? (i := 21) rfl))) (Or.inr (hw _ (List.mem_of_getElem? (i := 15) rfl))) (by decide) (t := .long) (t' := .boolean) (by decide) (by decide)))).other W83 (Or.inr (slot_ne (Or.inr (hw _ (List.mem_of_getElem? (i := 21) rfl))) (Or.inr (hw _ (List.mem_of_getElem? (i := 17) rfl))) (by decide) (t := .long) (t' := .int) (by decide) (by decide)))).other W88 (Or.inr (slot_ne (Or.inr (hw _ (List.mem_of_getElem? (i := 21) rfl))) (Or.inr (hw _ (List.mem_of_getElem? (i := 19) rfl))) (by decide) (t := .long) (t' := (.object "java/time/Duration")) (by decide) (by decide))))
  obtain ⟨T93, h93, X93, e93, W93, st93⟩ := putF X88 hx hZ hown (host := "") (Or.inl (hw _ (List.mem_of_getElem? (i := 20) rfl))) Via.refl e88 Fc92 Fc91 (Or.inr ⟨(hw _ (List.mem_of_getElem? (i := 21) rfl)), rfl, hnm⟩) (hw _ (List.mem_of_getElem? (i := 5) rfl)) (ty := .long) (by decide) rfl rfl (g := (mkF m 22 #[.val (.ref o0), .val (.int (1 : Int32)), .val (.int (-1 : Int32)), .val (.ref o3), .val (.long (0 : Int64)), .second, .val (.int (0 : Int32))] [(.long (0 : Int64)), (.ref o0)])) rfl rfl (hb hby d2_22)
  have z94 := W93.size
  have N93 := Fr.snoc X93 N88 (by omega : n0 ≤ o0)
  have KC95 : Keep h0 h93 [o0] := KC90.wr W93 (Or.inl (List.mem_of_getElem? (i := 0) rfl))
  have Fw93 := Fc92.same W93
  have Fc96 := (Fc91.wr W93)
  have Fc97 := ((((H5.other W78 (Or.inr (slot_ne (Or.inr (hw _ (List.mem_of_getElem? (i := 23) rfl))) (Or.inr (hw _ (List.mem_of_getElem? (i := 15) rfl))) (by decide) (t := .boolean) (t' := .boolean) (by decide) (by decide)))).other W83 (Or.inr (slot_ne (Or.inr (hw _ (List.mem_of_getElem? (i := 23) rfl))) (Or.inr (hw _ (List.mem_of_getElem? (i := 17) rfl))) (by decide) (t := .boolean) (t' := .int) (by decide) (by decide)))).other W88 (Or.inr (slot_ne (Or.inr (hw _ (List.mem_of_getElem? (i := 23) rfl))) (Or.inr (hw _ (List.mem_of_getElem? (i := 19) rfl))) (by decide) (t := .boolean) (t' := (.object "java/time/Duration")) (by decide) (by decide)))).other W93 (Or.inr (slot_ne (Or.inr (hw _ (List.mem_of_getElem? (i := 23) rfl))) (Or.inr (hw _ (List.mem_of_getElem? (i := 21) rfl))) (by decide) (t := .boolean) (t' := .long) (by decide) (by decide))))
  obtain ⟨T98, h98, X98, e98, W98, st98⟩ := putFN X93 hx hZ hown (hw _ (List.mem_of_getElem? (i := 22) rfl)) Via.refl e93 Fc97 Fc96 (Or.inr ⟨(hw _ (List.mem_of_getElem? (i := 23) rfl)), rfl, hnm⟩) (hw _ (List.mem_of_getElem? (i := 5) rfl)) (ty := .boolean) (v' := (.int (0 : Int32))) (by decide) rfl (by decide) (g := (mkF m 28 #[.val (.ref o0), .val (.int (1 : Int32)), .val (.int (-1 : Int32)), .val (.ref o3), .val (.long (0 : Int64)), .second, .val (.int (0 : Int32))] [(.int (0 : Int32)), (.ref o0)])) rfl rfl (hb hby d2_28)
  have z99 := W98.size
  have N98 := Fr.snoc X98 N93 (by omega : n0 ≤ o0)
  have KC100 : Keep h0 h98 [o0] := KC95.wr W98 (Or.inl (List.mem_of_getElem? (i := 0) rfl))
  have Fw98 := Fc97.same W98
  obtain ⟨fs, hr, hrun, hended, hW, hsame⟩ := X98.leave (v := none) (fun _ => rfl)
  have Fc101 := (Fc96.wr W98)
  have Fc102 := ((((Fw78.other W83 (Or.inr (slot_ne (Or.inr (hw _ (List.mem_of_getElem? (i := 15) rfl))) (Or.inr (hw _ (List.mem_of_getElem? (i := 17) rfl))) (by decide) (t := .boolean) (t' := .int) (by decide) (by decide)))).other W88 (Or.inr (slot_ne (Or.inr (hw _ (List.mem_of_getElem? (i := 15) rfl))) (Or.inr (hw _ (List.mem_of_getElem? (i := 19) rfl))) (by decide) (t := .boolean) (t' := (.object "java/time/Duration")) (by decide) (by decide)))).other W93 (Or.inr (slot_ne (Or.inr (hw _ (List.mem_of_getElem? (i := 15) rfl))) (Or.inr (hw _ (List.mem_of_getElem? (i := 21) rfl))) (by decide) (t := .boolean) (t' := .long) (by decide) (by decide)))).other W98 (Or.inr (slot_ne (Or.inr (hw _ (List.mem_of_getElem? (i := 15) rfl))) (Or.inr (hw _ (List.mem_of_getElem? (i := 23) rfl))) (by decide) (t := .boolean) (t' := .boolean) (by decide) (by decide))))
  have Fc103 := (((Fw83.other W88 (Or.inr (slot_ne (Or.inr (hw _ (List.mem_of_getElem? (i := 17) rfl))) (Or.inr (hw _ (List.mem_of_getElem? (i := 19) rfl))) (by decide) (t := .int) (t' := (.object "java/time/Duration")) (by decide) (by decide)))).other W93 (Or.inr (slot_ne (Or.inr (hw _ (List.mem_of_getElem? (i := 17) rfl))) (Or.inr (hw _ (List.mem_of_getElem? (i := 21) rfl))) (by decide) (t := .int) (t' := .long) (by decide) (by decide)))).other W98 (Or.inr (slot_ne (Or.inr (hw _ (List.mem_of_getElem? (i := 17) rfl))) (Or.inr (hw _ (List.mem_of_getElem? (i := 23) rfl))) (by decide) (t := .int) (t' := .boolean) (by decide) (by decide))))
  have Fc104 := ((Fw88.other W93 (Or.inr (slot_ne (Or.inr (hw _ (List.mem_of_getElem? (i := 19) rfl))) (Or.inr (hw _ (List.mem_of_getElem? (i := 21) rfl))) (by decide) (t := (.object "java/time/Duration")) (t' := .long) (by decide) (by decide)))).other W98 (Or.inr (slot_ne (Or.inr (hw _ (List.mem_of_getElem? (i := 19) rfl))) (Or.inr (hw _ (List.mem_of_getElem? (i := 23) rfl))) (by decide) (t := (.object "java/time/Duration")) (t' := .boolean) (by decide) (by decide))))
  have Fc105 := (Fw93.other W98 (Or.inr (slot_ne (Or.inr (hw _ (List.mem_of_getElem? (i := 21) rfl))) (Or.inr (hw _ (List.mem_of_getElem? (i := 23) rfl))) (by decide) (t := .long) (t' := .boolean) (by decide) (by decide))))
  refine ⟨_, _, pre0 _ ?_, hrun, hended, _, _, rfl, ?_, ⟨_, rfl⟩, hW, hsame.mono (by decide) (by decide)⟩
  · show Steps p.tables e below (s₁.setTop (mkF m 0 #[.val (.ref o0), .val (.int (1 : Int32)), .val (.int (-1 : Int32)), .val (.ref o3), .val (.long (0 : Int64)), .second, .val (.int (0 : Int32))] [])) _
    refine XS.aloadN X0.here hx rfl (hb hby d2_0) rfl rfl ?_
    show Steps p.tables e below (s₁.setTop (mkF m 1 #[.val (.ref o0), .val (.int (1 : Int32)), .val (.int (-1 : Int32)), .val (.ref o3), .val (.long (0 : Int64)), .second, .val (.int (0 : Int32))] [(.ref o0)])) _
    refine st77 _ ?_
    show Steps p.tables e below (T77.setTop (mkF m 4 #[.val (.ref o0), .val (.int (1 : Int32)), .val (.int (-1 : Int32)), .val (.ref o3), .val (.long (0 : Int64)), .second, .val (.int (0 : Int32))] [])) _
    refine XS.aloadN X77.here hx rfl (hb hby d2_4) rfl rfl ?_
    show Steps p.tables e below (T77.setTop (mkF m 5 #[.val (.ref o0), .val (.int (1 : Int32)), .val (.int (-1 : Int32)), .val (.ref o3), .val (.long (0 : Int64)), .second, .val (.int (0 : Int32))] [(.ref o0)])) _
    refine XS.iloadN X77.here hx rfl (hb hby d2_5) rfl ?_
    show Steps p.tables e below (T77.setTop (mkF m 6 #[.val (.ref o0), .val (.int (1 : Int32)), .val (.int (-1 : Int32)), .val (.ref o3), .val (.long (0 : Int64)), .second, .val (.int (0 : Int32))] [(.int (1 : Int32)), (.ref o0)])) _
    refine st78 _ ?_
    show Steps p.tables e below (T78.setTop (mkF m 9 #[.val (.ref o0), .val (.int (1 : Int32)), .val (.int (-1 : Int32)), .val (.ref o3), .val (.long (0 : Int64)), .second, .val (.int (0 : Int32))] [])) _
    refine XS.aloadN X78.here hx rfl (hb hby d2_9) rfl rfl ?_
    show Steps p.tables e below (T78.setTop (mkF m 10 #[.val (.ref o0), .val (.int (1 : Int32)), .val (.int (-1 : Int32)), .val (.ref o3), .val (.long (0 : Int64)), .second, .val (.int (0 : Int32))] [(.ref o0)])) _
    refine XS.iloadN X78.here hx rfl (hb hby d2_10) rfl ?_
    show Steps p.tables e below (T78.setTop (mkF m 11 #[.val (.ref o0), .val (.int (1 : Int32)), .val (.int (-1 : Int32)), .val (.ref o3), .val (.long (0 : Int64)), .second, .val (.int (0 : Int32))] [(.int (-1 : Int32)), (.ref o0)])) _
    refine st83 _ ?_
    show Steps p.tables e below (T83.setTop (mkF m 14 #[.val (.ref o0), .val (.int (1 : Int32)), .val (.int (-1 : Int32)), .val (.ref o3), .val (.long (0 : Int64)), .second, .val (.int (0 : Int32))] [])) _
    refine XS.aloadN X83.here hx rfl (hb hby d2_14) rfl rfl ?_
    show Steps p.tables e below (T83.setTop (mkF m 15 #[.val (.ref o0), .val (.int (1 : Int32)), .val (.int (-1 : Int32)), .val (.ref o3), .val (.long (0 : Int64)), .second, .val (.int (0 : Int32))] [(.ref o0)])) _
    refine XS.aloadN X83.here hx rfl (hb hby d2_15) rfl rfl ?_
    show Steps p.tables e below (T83.setTop (mkF m 16 #[.val (.ref o0), .val (.int (1 : Int32)), .val (.int (-1 : Int32)), .val (.ref o3), .val (.long (0 : Int64)), .second, .val (.int (0 : Int32))] [(.ref o3), (.ref o0)])) _
    refine st88 _ ?_
    show Steps p.tables e below (T88.setTop (mkF m 19 #[.val (.ref o0), .val (.int (1 : Int32)), .val (.int (-1 : Int32)), .val (.ref o3), .val (.long (0 : Int64)), .second, .val (.int (0 : Int32))] [])) _
    refine XS.aloadN X88.here hx rfl (hb hby d2_19) rfl rfl ?_
    show Steps p.tables e below (T88.setTop (mkF m 20 #[.val (.ref o0), .val (.int (1 : Int32)), .val (.int (-1 : Int32)), .val (.ref o3), .val (.long (0 : Int64)), .second, .val (.int (0 : Int32))] [(.ref o0)])) _
    refine XS.lload X88.here hx rfl (hb hby d2_20) rfl ?_
    show Steps p.tables e below (T88.setTop (mkF m 22 #[.val (.ref o0), .val (.int (1 : Int32)), .val (.int (-1 : Int32)), .val (.ref o3), .val (.long (0 : Int64)), .second, .val (.int (0 : Int32))] [(.long (0 : Int64)), (.ref o0)])) _
    refine st93 _ ?_
    show Steps p.tables e below (T93.setTop (mkF m 25 #[.val (.ref o0), .val (.int (1 : Int32)), .val (.int (-1 : Int32)), .val (.ref o3), .val (.long (0 : Int64)), .second, .val (.int (0 : Int32))] [])) _
    refine XS.aloadN X93.here hx rfl (hb hby d2_25) rfl rfl ?_
    show Steps p.tables e below (T93.setTop (mkF m 26 #[.val (.ref o0), .val (.int (1 : Int32)), .val (.int (-1 : Int32)), .val (.ref o3), .val (.long (0 : Int64)), .second, .val (.int (0 : Int32))] [(.ref o0)])) _
    refine XS.iload X93.here hx rfl (hb hby d2_26) rfl ?_
    show Steps p.tables e below (T93.setTop (mkF m 28 #[.val (.ref o0), .val (.int (1 : Int32)), .val (.int (-1 : Int32)), .val (.ref o3), .val (.long (0 : Int64)), .second, .val (.int (0 : Int32))] [(.int (0 : Int32)), (.ref o0)])) _
    refine st98 _ ?_
    show Steps p.tables e below (T98.setTop (mkF m 31 #[.val (.ref o0), .val (.int (1 : Int32)), .val (.int (-1 : Int32)), .val (.ref o3), .val (.long (0 : Int64)), .second, .val (.int (0 : Int32))] [])) _
    exact X98.returnOut hx Bd.returns (hb hby d2_31) hr
  · show Qrm2c Z o0 o3 h0 n0 _ T98.heap _
    rw [e98]
    exact ⟨rfl, N98, KC100, Fc101, Fc102, Fc103, Fc104, Fc105, Fw98⟩
theorem d1_0 : decode prog_9_method_4_code 0 = .ok (.new 8, 3) := by decide +kernel
theorem d1_3 : decode prog_9_method_4_code 3 = .ok (.dup, 1) := by decide +kernel
theorem d1_4 : decode prog_9_method_4_code 4 = .ok (.iload_n 0, 1) := by decide +kernel
theorem d1_5 : decode prog_9_method_4_code 5 = .ok (.iconst (-1), 1) := by decide +kernel
theorem d1_6 : decode prog_9_method_4_code 6 = .ok (.getstatic 37, 3) := by decide +kernel
theorem d1_9 : decode prog_9_method_4_code 9 = .ok (.lconst 0, 1) := by decide +kernel
theorem d1_10 : decode prog_9_method_4_code 10 = .ok (.iconst 1, 1) := by decide +kernel
theorem d1_11 : decode prog_9_method_4_code 11 = .ok (.invokespecial 42, 3) := by decide +kernel
theorem pd_0 : parseMethodDescriptor "(ZILjava/time/Duration;JZ)V" = some ⟨[.boolean, .int, (.object "java/time/Duration"), .long, .boolean], none⟩ := by decide +kernel
theorem d1_14 : decode prog_9_method_4_code 14 = .ok (.areturn, 1) := by decide +kernel
theorem ef_rm11 (m : MethodId)  : entryFrame m #[(.int (1 : Int32))] 1 = mkF m 0 #[.val (.int (1 : Int32))] [] := by first | (simp [entryFrame, mkF, argsToLocals, Value.category]; done) | rfl
def Qrm11 (Z : State) (z : Addr) (h0 : Heap) (n0 : Nat) (v : Option Value) (h : Heap) (L : List Loc) : Prop := ∃ r : Addr, v = some (.ref r) ∧ Fr n0 L ∧ Keep h0 h [] ∧ Exa Z h r "com/example/klepsydra/klepsydra/Decision" ∧ Fld Z h r "com/example/klepsydra/klepsydra/Decision" "granted" "Z" (.int (1 : Int32)) ∧ Fld Z h r "com/example/klepsydra/klepsydra/Decision" "refusedBy" "I" (.int (-1 : Int32)) ∧ Fld Z h r "com/example/klepsydra/klepsydra/Decision" "retryAfter" "Ljava/time/Duration;" (.ref z) ∧ Fld Z h r "com/example/klepsydra/klepsydra/Decision" "remaining" "J" (.long (0 : Int64)) ∧ Fld Z h r "com/example/klepsydra/klepsydra/Decision" "degraded" "Z" (.int (1 : Int32)) ∧ (h0.size ≤ r)
set_option maxRecDepth 65536 in
set_option maxHeartbeats 40000000 in
theorem rm11 (l : Launch) (Z : State) (a0 : Array Value) (hw : ∀ d ∈ tables_1, d.before a0 Z = true) (ws : List Jvm.Cond) (z : Addr) (h0 : Heap) (n0 : Nat) (Z0 : n0 ≤ h0.size) (H0 : Sta Z h0 "java/time/Duration" "ZERO" "Ljava/time/Duration;" (.ref z)) :
    MetFree l (⟨"com/example/klepsydra/klepsydra/Decision", "degraded", "(Z)Lcom/example/klepsydra/klepsydra/Decision;"⟩ : MethodName) (head1 (Jvm.Cond.code (⟨"com/example/klepsydra/klepsydra/Decision", "degraded", "(Z)Lcom/example/klepsydra/klepsydra/Decision;"⟩ : MethodName) prog_9_method_4_code 1 (some (.object "com/example/klepsydra/klepsydra/Decision")) :: ws) ({ frames := 2, cells := 1, slots := 5, locals := 31 } : Room)) (fun a U => a = #[(.int (1 : Int32))] ∧ Z.Warmed39 U.vm ∧ U.heap = h0) (fun _ _ _ _ _ => True) (fun _ U o U' => ∃ v L, o = .returned v ∧ Qrm11 Z z h0 n0 v U'.heap L ∧ FrameEnd U o U' L ({ frames := 2, cells := 1, slots := 5, locals := 31 } : Room).cells ({ frames := 2, cells := 1, slots := 5, locals := 31 } : Room).slots) := by
  refine MetFree.of_bodySF (plainFor_of_name pn_2) hisR ?_
  intro p e s m args below meth c s₁ Bd hml0 hP hK
  obtain ⟨rfl, hZ, hh⟩ := hP
  have hx := Bd.exec
  have hby := Bd.bytes
  have hml : c.maxLocals = 1 := hml0
  have hown : s.vm.findClass "com/example/klepsydra/klepsydra/Decision" = some m.cls := findClass_of_methodNamed Bd.named
  have hnm := (name_of_methodNamed Bd.named Bd.method).1
  have X0 : Stand p l e ({ frames := 2, cells := 1, slots := 5, locals := 31 } : Room) s m #[(.int (1 : Int32))] below meth c s₁ [] 0 0 := Stand.of_body Bd
  have e0 : s₁.heap = h0 := by rw [← hh, Bd.state]; rfl
  have N0 := Fr.nil n0
  have pre0 : ∀ t, Steps p.tables e below (s₁.setTop (mkF m 0 #[.val (.int (1 : Int32))] [])) t → Steps p.tables e below (s₁.setTop (entryFrame m #[(.int (1 : Int32))] 1)) t := fun t k => castTop (ef_rm11 m) k
  have KC0 : Keep h0 h0 [] := Keep.refl _ _
  obtain ⟨T106, h106, X106, e106, E106, A106, D106, -, st106⟩ := newO X0 hx hZ hown (hw _ (List.mem_of_getElem? (i := 4) rfl)) (hw _ (List.mem_of_getElem? (i := 5) rfl)) (hw _ (List.mem_of_getElem? (i := 2) rfl)) e0 (g := (mkF m 0 #[.val (.int (1 : Int32))] [])) rfl (hb hby d1_0) (by decide) (by decide)
  obtain ⟨b106, g106⟩ : ∃ z, z = h0.size := ⟨_, rfl⟩
  rw [← g106] at A106 D106 st106
  have z107 := E106.1
  have KC108 : Keep h0 h106 [] := KC0.ext E106
  have z109 := A106.lt
  have F106_granted : Fld Z h106 b106 "com/example/klepsydra/klepsydra/Decision" "granted" "Z" (.int (0 : Int32)) := D106 (Or.inr (hw _ (List.mem_of_getElem? (i := 15) rfl))) (ty := .boolean) (by decide)
  have F106_refusedBy : Fld Z h106 b106 "com/example/klepsydra/klepsydra/Decision" "refusedBy" "I" (.int (0 : Int32)) := D106 (Or.inr (hw _ (List.mem_of_getElem? (i := 17) rfl))) (ty := .int) (by decide)
  have F106_retryAfter : Fld Z h106 b106 "com/example/klepsydra/klepsydra/Decision" "retryAfter" "Ljava/time/Duration;" .null := D106 (Or.inr (hw _ (List.mem_of_getElem? (i := 19) rfl))) (ty := (.object "java/time/Duration")) (by decide)
  have F106_remaining : Fld Z h106 b106 "com/example/klepsydra/klepsydra/Decision" "remaining" "J" (.long (0 : Int64)) := D106 (Or.inr (hw _ (List.mem_of_getElem? (i := 21) rfl))) (ty := .long) (by decide)
  have F106_degraded : Fld Z h106 b106 "com/example/klepsydra/klepsydra/Decision" "degraded" "Z" (.int (0 : Int32)) := D106 (Or.inr (hw _ (List.mem_of_getElem? (i := 23) rfl))) (ty := .boolean) (by decide)
  have Fc110 := (H0.ext E106)
  obtain ⟨T111, X111, e111, st111⟩ := getS2 X106 hx hZ hown (host := "") (Or.inl (hw _ (List.mem_of_getElem? (i := 6) rfl))) Via.refl e106 Fc110 (g := (mkF m 6 #[.val (.int (1 : Int32))] [(.int (-1 : Int32)), (.int (1 : Int32)), (.ref b106), (.ref b106)])) rfl (hb hby d1_6)
  obtain ⟨_, _, ⟨T112, L112, k112, n112⟩, -, X112, ⟨Lc112, hQ112, l112, y112, z112⟩, st112⟩ := X111.specialBack hx (y := (⟨"com/example/klepsydra/klepsydra/Decision", "<init>", "(ZILjava/time/Duration;JZ)V"⟩ : MethodName)) rfl hown (mvT hZ (hw _ (List.mem_of_getElem? (i := 8) rfl))) (mvT hZ (hw _ (List.mem_of_getElem? (i := 9) rfl))) (mvT hZ (hw _ (List.mem_of_getElem? (i := 10) rfl))) (by decide) (backOf (W := 1) (rm2a l Z a0 hw [] b106 z h106 n0 (by omega) A106 F106_granted F106_refusedBy F106_retryAfter F106_remaining F106_degraded (by omega : n0 ≤ b106)) hZ (hw _ (List.mem_of_getElem? (i := 10) rfl)) (hw _ (List.mem_of_getElem? (i := 2) rfl)) (by decide) (by decide)) (g := (mkF m 11 #[.val (.int (1 : Int32))] [(.int (1 : Int32)), (.long (0 : Int64)), (.ref z), (.int (-1 : Int32)), (.int (1 : Int32)), (.ref b106), (.ref b106)])) rfl (by rw [hml]; rfl) (Steps.refl _) (a := b106) (argsL := [(.int (1 : Int32)), (.int (-1 : Int32)), (.ref z), (.long (0 : Int64)), (.int (1 : Int32))]) (rest := [(.ref b106)]) (lenOf pd_0 rfl) rfl (by show 2 * 0 + _ ≤ _; exact Nat.le_of_eq rfl) (hb hby d1_11) (fun _ _ => ⟨rfl, e111, (by decide : 1 + 0 ≤ _), (by decide : 5 + 0 ≤ _)⟩)
  dsimp only [Pt.U, Pt.locs, Pt.cells, Pt.slots] at X112 l112 y112 z112 st112 hQ112
  subst l112 y112 z112
  obtain ⟨rfl, N112q, K112, P112_0, P112_1, P112_2, P112_3, P112_4, P112_5⟩ := hQ112
  have N112 := Fr.app N0 N112q
  have z113 := K112.1
  have KC114 : Keep h0 T112.heap [] := KC108.trans K112 (allS (Or.inr (by omega)) all0)
  have z115 := P112_0.lt
  have z116 := P112_1.lt
  have z117 := P112_2.lt
  have z118 := P112_3.lt
  have z119 := P112_4.lt
  have z120 := P112_5.lt
  obtain ⟨fs, hr, hrun, hended, hW, hsame⟩ := X112.leave (v := some (.ref b106)) (fun h => by rw [Bd.returns] at h; cases h)
  refine ⟨_, _, pre0 _ ?_, hrun, hended, _, _, rfl, ?_, ⟨_, rfl⟩, hW, hsame.mono (by decide) (by decide)⟩
  · show Steps p.tables e below (s₁.setTop (mkF m 0 #[.val (.int (1 : Int32))] [])) _
    refine st106 _ ?_
    show Steps p.tables e below (T106.setTop (mkF m 3 #[.val (.int (1 : Int32))] [(.ref b106)])) _
    refine XS.dup X106.here hx rfl (hb hby d1_3) rfl rfl ?_
    show Steps p.tables e below (T106.setTop (mkF m 4 #[.val (.int (1 : Int32))] [(.ref b106), (.ref b106)])) _
    refine XS.iloadN X106.here hx rfl (hb hby d1_4) rfl ?_
    show Steps p.tables e below (T106.setTop (mkF m 5 #[.val (.int (1 : Int32))] [(.int (1 : Int32)), (.ref b106), (.ref b106)])) _
    refine XS.iconst X106.here hx rfl (hb hby d1_5) ?_
    show Steps p.tables e below (T106.setTop (mkF m 6 #[.val (.int (1 : Int32))] [(.int (-1 : Int32)), (.int (1 : Int32)), (.ref b106), (.ref b106)])) _
    refine st111 _ ?_
    show Steps p.tables e below (T111.setTop (mkF m 9 #[.val (.int (1 : Int32))] [(.ref z), (.int (-1 : Int32)), (.int (1 : Int32)), (.ref b106), (.ref b106)])) _
    refine XS.lconst X111.here hx rfl (hb hby d1_9) ?_
    show Steps p.tables e below (T111.setTop (mkF m 10 #[.val (.int (1 : Int32))] [(.long (0 : Int64)), (.ref z), (.int (-1 : Int32)), (.int (1 : Int32)), (.ref b106), (.ref b106)])) _
    refine XS.iconst X111.here hx rfl (hb hby d1_10) ?_
    show Steps p.tables e below (T111.setTop (mkF m 11 #[.val (.int (1 : Int32))] [(.int (1 : Int32)), (.long (0 : Int64)), (.ref z), (.int (-1 : Int32)), (.int (1 : Int32)), (.ref b106), (.ref b106)])) _
    refine st112.trans ?_
    show Steps p.tables e below (T112.setTop (mkF m 14 #[.val (.int (1 : Int32))] [(.ref b106)])) _
    jvm_step X112.here [X112.here.top, hx, (hb hby d1_14), X112.method', Bd.returns, Value.isRef, FieldType.isReference]
    first | (intro acts; rw [hr _ acts rfl rfl rfl]) | rw [hr _ _ rfl rfl rfl]
    exact Steps.refl _
  · show Qrm11 Z z h0 n0 _ T112.heap _
    exact ⟨b106, rfl, N112, KC114, P112_0, P112_1, P112_2, P112_3, P112_4, P112_5, (by first | omega | decide | assumption : h0.size ≤ b106)⟩
theorem ef_rm10 (m : MethodId)  : entryFrame m #[(.int (0 : Int32))] 1 = mkF m 0 #[.val (.int (0 : Int32))] [] := by first | (simp [entryFrame, mkF, argsToLocals, Value.category]; done) | rfl
def Qrm10 (Z : State) (z : Addr) (h0 : Heap) (n0 : Nat) (v : Option Value) (h : Heap) (L : List Loc) : Prop := ∃ r : Addr, v = some (.ref r) ∧ Fr n0 L ∧ Keep h0 h [] ∧ Exa Z h r "com/example/klepsydra/klepsydra/Decision" ∧ Fld Z h r "com/example/klepsydra/klepsydra/Decision" "granted" "Z" (.int (0 : Int32)) ∧ Fld Z h r "com/example/klepsydra/klepsydra/Decision" "refusedBy" "I" (.int (-1 : Int32)) ∧ Fld Z h r "com/example/klepsydra/klepsydra/Decision" "retryAfter" "Ljava/time/Duration;" (.ref z) ∧ Fld Z h r "com/example/klepsydra/klepsydra/Decision" "remaining" "J" (.long (0 : Int64)) ∧ Fld Z h r "com/example/klepsydra/klepsydra/Decision" "degraded" "Z" (.int (1 : Int32)) ∧ (h0.size ≤ r)
set_option maxRecDepth 65536 in
set_option maxHeartbeats 40000000 in
theorem rm10 (l : Launch) (Z : State) (a0 : Array Value) (hw : ∀ d ∈ tables_1, d.before a0 Z = true) (ws : List Jvm.Cond) (z : Addr) (h0 : Heap) (n0 : Nat) (Z0 : n0 ≤ h0.size) (H0 : Sta Z h0 "java/time/Duration" "ZERO" "Ljava/time/Duration;" (.ref z)) :
    MetFree l (⟨"com/example/klepsydra/klepsydra/Decision", "degraded", "(Z)Lcom/example/klepsydra/klepsydra/Decision;"⟩ : MethodName) (head1 (Jvm.Cond.code (⟨"com/example/klepsydra/klepsydra/Decision", "degraded", "(Z)Lcom/example/klepsydra/klepsydra/Decision;"⟩ : MethodName) prog_9_method_4_code 1 (some (.object "com/example/klepsydra/klepsydra/Decision")) :: ws) ({ frames := 2, cells := 1, slots := 5, locals := 31 } : Room)) (fun a U => a = #[(.int (0 : Int32))] ∧ Z.Warmed39 U.vm ∧ U.heap = h0) (fun _ _ _ _ _ => True) (fun _ U o U' => ∃ v L, o = .returned v ∧ Qrm10 Z z h0 n0 v U'.heap L ∧ FrameEnd U o U' L ({ frames := 2, cells := 1, slots := 5, locals := 31 } : Room).cells ({ frames := 2, cells := 1, slots := 5, locals := 31 } : Room).slots) := by
  refine MetFree.of_bodySF (plainFor_of_name pn_2) hisR ?_
  intro p e s m args below meth c s₁ Bd hml0 hP hK
  obtain ⟨rfl, hZ, hh⟩ := hP
  have hx := Bd.exec
  have hby := Bd.bytes
  have hml : c.maxLocals = 1 := hml0
  have hown : s.vm.findClass "com/example/klepsydra/klepsydra/Decision" = some m.cls := findClass_of_methodNamed Bd.named
  have hnm := (name_of_methodNamed Bd.named Bd.method).1
  have X0 : Stand p l e ({ frames := 2, cells := 1, slots := 5, locals := 31 } : Room) s m #[(.int (0 : Int32))] below meth c s₁ [] 0 0 := Stand.of_body Bd
  have e0 : s₁.heap = h0 := by rw [← hh, Bd.state]; rfl
  have N0 := Fr.nil n0
  have pre0 : ∀ t, Steps p.tables e below (s₁.setTop (mkF m 0 #[.val (.int (0 : Int32))] [])) t → Steps p.tables e below (s₁.setTop (entryFrame m #[(.int (0 : Int32))] 1)) t := fun t k => castTop (ef_rm10 m) k
  have KC0 : Keep h0 h0 [] := Keep.refl _ _
  obtain ⟨T121, h121, X121, e121, E121, A121, D121, -, st121⟩ := newO X0 hx hZ hown (hw _ (List.mem_of_getElem? (i := 4) rfl)) (hw _ (List.mem_of_getElem? (i := 5) rfl)) (hw _ (List.mem_of_getElem? (i := 2) rfl)) e0 (g := (mkF m 0 #[.val (.int (0 : Int32))] [])) rfl (hb hby d1_0) (by decide) (by decide)
  obtain ⟨b121, g121⟩ : ∃ z, z = h0.size := ⟨_, rfl⟩
  rw [← g121] at A121 D121 st121
  have z122 := E121.1
  have KC123 : Keep h0 h121 [] := KC0.ext E121
  have z124 := A121.lt
  have F121_granted : Fld Z h121 b121 "com/example/klepsydra/klepsydra/Decision" "granted" "Z" (.int (0 : Int32)) := D121 (Or.inr (hw _ (List.mem_of_getElem? (i := 15) rfl))) (ty := .boolean) (by decide)
  have F121_refusedBy : Fld Z h121 b121 "com/example/klepsydra/klepsydra/Decision" "refusedBy" "I" (.int (0 : Int32)) := D121 (Or.inr (hw _ (List.mem_of_getElem? (i := 17) rfl))) (ty := .int) (by decide)
  have F121_retryAfter : Fld Z h121 b121 "com/example/klepsydra/klepsydra/Decision" "retryAfter" "Ljava/time/Duration;" .null := D121 (Or.inr (hw _ (List.mem_of_getElem? (i := 19) rfl))) (ty := (.object "java/time/Duration")) (by decide)
  have F121_remaining : Fld Z h121 b121 "com/example/klepsydra/klepsydra/Decision" "remaining" "J" (.long (0 : Int64)) := D121 (Or.inr (hw _ (List.mem_of_getElem? (i := 21) rfl))) (ty := .long) (by decide)
  have F121_degraded : Fld Z h121 b121 "com/example/klepsydra/klepsydra/Decision" "degraded" "Z" (.int (0 : Int32)) := D121 (Or.inr (hw _ (List.mem_of_getElem? (i := 23) rfl))) (ty := .boolean) (by decide)
  have Fc125 := (H0.ext E121)
  obtain ⟨T126, X126, e126, st126⟩ := getS2 X121 hx hZ hown (host := "") (Or.inl (hw _ (List.mem_of_getElem? (i := 6) rfl))) Via.refl e121 Fc125 (g := (mkF m 6 #[.val (.int (0 : Int32))] [(.int (-1 : Int32)), (.int (0 : Int32)), (.ref b121), (.ref b121)])) rfl (hb hby d1_6)
  obtain ⟨_, _, ⟨T127, L127, k127, n127⟩, -, X127, ⟨Lc127, hQ127, l127, y127, z127⟩, st127⟩ := X126.specialBack hx (y := (⟨"com/example/klepsydra/klepsydra/Decision", "<init>", "(ZILjava/time/Duration;JZ)V"⟩ : MethodName)) rfl hown (mvT hZ (hw _ (List.mem_of_getElem? (i := 8) rfl))) (mvT hZ (hw _ (List.mem_of_getElem? (i := 9) rfl))) (mvT hZ (hw _ (List.mem_of_getElem? (i := 10) rfl))) (by decide) (backOf (W := 1) (rm2b l Z a0 hw [] b121 z h121 n0 (by omega) A121 F121_granted F121_refusedBy F121_retryAfter F121_remaining F121_degraded (by omega : n0 ≤ b121)) hZ (hw _ (List.mem_of_getElem? (i := 10) rfl)) (hw _ (List.mem_of_getElem? (i := 2) rfl)) (by decide) (by decide)) (g := (mkF m 11 #[.val (.int (0 : Int32))] [(.int (1 : Int32)), (.long (0 : Int64)), (.ref z), (.int (-1 : Int32)), (.int (0 : Int32)), (.ref b121), (.ref b121)])) rfl (by rw [hml]; rfl) (Steps.refl _) (a := b121) (argsL := [(.int (0 : Int32)), (.int (-1 : Int32)), (.ref z), (.long (0 : Int64)), (.int (1 : Int32))]) (rest := [(.ref b121)]) (lenOf pd_0 rfl) rfl (by show 2 * 0 + _ ≤ _; exact Nat.le_of_eq rfl) (hb hby d1_11) (fun _ _ => ⟨rfl, e126, (by decide : 1 + 0 ≤ _), (by decide : 5 + 0 ≤ _)⟩)
  dsimp only [Pt.U, Pt.locs, Pt.cells, Pt.slots] at X127 l127 y127 z127 st127 hQ127
  subst l127 y127 z127
  obtain ⟨rfl, N127q, K127, P127_0, P127_1, P127_2, P127_3, P127_4, P127_5⟩ := hQ127
  have N127 := Fr.app N0 N127q
  have z128 := K127.1
  have KC129 : Keep h0 T127.heap [] := KC123.trans K127 (allS (Or.inr (by omega)) all0)
  have z130 := P127_0.lt
  have z131 := P127_1.lt
  have z132 := P127_2.lt
  have z133 := P127_3.lt
  have z134 := P127_4.lt
  have z135 := P127_5.lt
  obtain ⟨fs, hr, hrun, hended, hW, hsame⟩ := X127.leave (v := some (.ref b121)) (fun h => by rw [Bd.returns] at h; cases h)
  refine ⟨_, _, pre0 _ ?_, hrun, hended, _, _, rfl, ?_, ⟨_, rfl⟩, hW, hsame.mono (by decide) (by decide)⟩
  · show Steps p.tables e below (s₁.setTop (mkF m 0 #[.val (.int (0 : Int32))] [])) _
    refine st121 _ ?_
    show Steps p.tables e below (T121.setTop (mkF m 3 #[.val (.int (0 : Int32))] [(.ref b121)])) _
    refine XS.dup X121.here hx rfl (hb hby d1_3) rfl rfl ?_
    show Steps p.tables e below (T121.setTop (mkF m 4 #[.val (.int (0 : Int32))] [(.ref b121), (.ref b121)])) _
    refine XS.iloadN X121.here hx rfl (hb hby d1_4) rfl ?_
    show Steps p.tables e below (T121.setTop (mkF m 5 #[.val (.int (0 : Int32))] [(.int (0 : Int32)), (.ref b121), (.ref b121)])) _
    refine XS.iconst X121.here hx rfl (hb hby d1_5) ?_
    show Steps p.tables e below (T121.setTop (mkF m 6 #[.val (.int (0 : Int32))] [(.int (-1 : Int32)), (.int (0 : Int32)), (.ref b121), (.ref b121)])) _
    refine st126 _ ?_
    show Steps p.tables e below (T126.setTop (mkF m 9 #[.val (.int (0 : Int32))] [(.ref z), (.int (-1 : Int32)), (.int (0 : Int32)), (.ref b121), (.ref b121)])) _
    refine XS.lconst X126.here hx rfl (hb hby d1_9) ?_
    show Steps p.tables e below (T126.setTop (mkF m 10 #[.val (.int (0 : Int32))] [(.long (0 : Int64)), (.ref z), (.int (-1 : Int32)), (.int (0 : Int32)), (.ref b121), (.ref b121)])) _
    refine XS.iconst X126.here hx rfl (hb hby d1_10) ?_
    show Steps p.tables e below (T126.setTop (mkF m 11 #[.val (.int (0 : Int32))] [(.int (1 : Int32)), (.long (0 : Int64)), (.ref z), (.int (-1 : Int32)), (.int (0 : Int32)), (.ref b121), (.ref b121)])) _
    refine st127.trans ?_
    show Steps p.tables e below (T127.setTop (mkF m 14 #[.val (.int (0 : Int32))] [(.ref b121)])) _
    jvm_step X127.here [X127.here.top, hx, (hb hby d1_14), X127.method', Bd.returns, Value.isRef, FieldType.isReference]
    first | (intro acts; rw [hr _ acts rfl rfl rfl]) | rw [hr _ _ rfl rfl rfl]
    exact Steps.refl _
  · show Qrm10 Z z h0 n0 _ T127.heap _
    exact ⟨b121, rfl, N127, KC129, P127_0, P127_1, P127_2, P127_3, P127_4, P127_5, (by first | omega | decide | assumption : h0.size ≤ b121)⟩
theorem d4_0 : decode prog_9_method_2_code 0 = .ok (.lload_n 0, 1) := by decide +kernel
theorem d4_1 : decode prog_9_method_2_code 1 = .ok (.lconst 0, 1) := by decide +kernel
theorem d4_2 : decode prog_9_method_2_code 2 = .ok (.lcmp, 1) := by decide +kernel
theorem d4_3 : decode prog_9_method_2_code 3 = .ok (.ifCond .ge 17, 3) := by decide +kernel
theorem d4_20 : decode prog_9_method_2_code 20 = .ok (.new 8, 3) := by decide +kernel
theorem d4_23 : decode prog_9_method_2_code 23 = .ok (.dup, 1) := by decide +kernel
theorem d4_24 : decode prog_9_method_2_code 24 = .ok (.iconst 1, 1) := by decide +kernel
theorem d4_25 : decode prog_9_method_2_code 25 = .ok (.iconst (-1), 1) := by decide +kernel
theorem d4_26 : decode prog_9_method_2_code 26 = .ok (.getstatic 37, 3) := by decide +kernel
theorem d4_29 : decode prog_9_method_2_code 29 = .ok (.lload_n 0, 1) := by decide +kernel
theorem d4_30 : decode prog_9_method_2_code 30 = .ok (.iconst 0, 1) := by decide +kernel
theorem d4_31 : decode prog_9_method_2_code 31 = .ok (.invokespecial 42, 3) := by decide +kernel
theorem d4_34 : decode prog_9_method_2_code 34 = .ok (.areturn, 1) := by decide +kernel
theorem ef_rm4 (m : MethodId)  : entryFrame m #[(.long (0 : Int64))] 2 = mkF m 0 #[.val (.long (0 : Int64)), .second] [] := by first | (simp [entryFrame, mkF, argsToLocals, Value.category]; done) | rfl
def Qrm4 (Z : State) (z : Addr) (h0 : Heap) (n0 : Nat) (v : Option Value) (h : Heap) (L : List Loc) : Prop := ∃ r : Addr, v = some (.ref r) ∧ Fr n0 L ∧ Keep h0 h [] ∧ Exa Z h r "com/example/klepsydra/klepsydra/Decision" ∧ Fld Z h r "com/example/klepsydra/klepsydra/Decision" "granted" "Z" (.int (1 : Int32)) ∧ Fld Z h r "com/example/klepsydra/klepsydra/Decision" "refusedBy" "I" (.int (-1 : Int32)) ∧ Fld Z h r "com/example/klepsydra/klepsydra/Decision" "retryAfter" "Ljava/time/Duration;" (.ref z) ∧ Fld Z h r "com/example/klepsydra/klepsydra/Decision" "remaining" "J" (.long (0 : Int64)) ∧ Fld Z h r "com/example/klepsydra/klepsydra/Decision" "degraded" "Z" (.int (0 : Int32)) ∧ (h0.size ≤ r)
set_option maxRecDepth 65536 in
set_option maxHeartbeats 40000000 in
theorem rm4 (l : Launch) (Z : State) (a0 : Array Value) (hw : ∀ d ∈ tables_1, d.before a0 Z = true) (ws : List Jvm.Cond) (z : Addr) (h0 : Heap) (n0 : Nat) (Z0 : n0 ≤ h0.size) (H0 : Sta Z h0 "java/time/Duration" "ZERO" "Ljava/time/Duration;" (.ref z)) :
    MetFree l (⟨"com/example/klepsydra/klepsydra/Decision", "granted", "(J)Lcom/example/klepsydra/klepsydra/Decision;"⟩ : MethodName) (head1 (Jvm.Cond.code (⟨"com/example/klepsydra/klepsydra/Decision", "granted", "(J)Lcom/example/klepsydra/klepsydra/Decision;"⟩ : MethodName) prog_9_method_2_code 2 (some (.object "com/example/klepsydra/klepsydra/Decision")) :: ws) ({ frames := 2, cells := 1, slots := 5, locals := 31 } : Room)) (fun a U => a = #[(.long (0 : Int64))] ∧ Z.Warmed39 U.vm ∧ U.heap = h0) (fun _ _ _ _ _ => True) (fun _ U o U' => ∃ v L, o = .returned v ∧ Qrm4 Z z h0 n0 v U'.heap L ∧ FrameEnd U o U' L ({ frames := 2, cells := 1, slots := 5, locals := 31 } : Room).cells ({ frames := 2, cells := 1, slots := 5, locals := 31 } : Room).slots) := by
  refine MetFree.of_bodySF (plainFor_of_name pn_2) hisR ?_
  intro p e s m args below meth c s₁ Bd hml0 hP hK
  obtain ⟨rfl, hZ, hh⟩ := hP
  have hx := Bd.exec
  have hby := Bd.bytes
  have hml : c.maxLocals = 2 := hml0
  have hown : s.vm.findClass "com/example/klepsydra/klepsydra/Decision" = some m.cls := findClass_of_methodNamed Bd.named
  have hnm := (name_of_methodNamed Bd.named Bd.method).1
  have X0 : Stand p l e ({ frames := 2, cells := 1, slots := 5, locals := 31 } : Room) s m #[(.long (0 : Int64))] below meth c s₁ [] 0 0 := Stand.of_body Bd
  have e0 : s₁.heap = h0 := by rw [← hh, Bd.state]; rfl
  have N0 := Fr.nil n0
  have pre0 : ∀ t, Steps p.tables e below (s₁.setTop (mkF m 0 #[.val (.long (0 : Int64)), .second] [])) t → Steps p.tables e below (s₁.setTop (entryFrame m #[(.long (0 : Int64))] 2)) t := fun t k => castTop (ef_rm4 m) k
  have KC0 : Keep h0 h0 [] := Keep.refl _ _
  obtain ⟨T136, h136, X136, e136, E136, A136, D136, -, st136⟩ := newO X0 hx hZ hown (hw _ (List.mem_of_getElem? (i := 4) rfl)) (hw _ (List.mem_of_getElem? (i := 5) rfl)) (hw _ (List.mem_of_getElem? (i := 2) rfl)) e0 (g := (mkF m 20 #[.val (.long (0 : Int64)), .second] [])) rfl (hb hby d4_20) (by decide) (by decide)
  obtain ⟨b136, g136⟩ : ∃ z, z = h0.size := ⟨_, rfl⟩
  rw [← g136] at A136 D136 st136
  have z137 := E136.1
  have KC138 : Keep h0 h136 [] := KC0.ext E136
  have z139 := A136.lt
  have F136_granted : Fld Z h136 b136 "com/example/klepsydra/klepsydra/Decision" "granted" "Z" (.int (0 : Int32)) := D136 (Or.inr (hw _ (List.mem_of_getElem? (i := 15) rfl))) (ty := .boolean) (by decide)
  have F136_refusedBy : Fld Z h136 b136 "com/example/klepsydra/klepsydra/Decision" "refusedBy" "I" (.int (0 : Int32)) := D136 (Or.inr (hw _ (List.mem_of_getElem? (i := 17) rfl))) (ty := .int) (by decide)
  have F136_retryAfter : Fld Z h136 b136 "com/example/klepsydra/klepsydra/Decision" "retryAfter" "Ljava/time/Duration;" .null := D136 (Or.inr (hw _ (List.mem_of_getElem? (i := 19) rfl))) (ty := (.object "java/time/Duration")) (by decide)
  have F136_remaining : Fld Z h136 b136 "com/example/klepsydra/klepsydra/Decision" "remaining" "J" (.long (0 : Int64)) := D136 (Or.inr (hw _ (List.mem_of_getElem? (i := 21) rfl))) (ty := .long) (by decide)
  have F136_degraded : Fld Z h136 b136 "com/example/klepsydra/klepsydra/Decision" "degraded" "Z" (.int (0 : Int32)) := D136 (Or.inr (hw _ (List.mem_of_getElem? (i := 23) rfl))) (ty := .boolean) (by decide)
  have Fc140 := (H0.ext E136)
  obtain ⟨T141, X141, e141, st141⟩ := getS2 X136 hx hZ hown (host := "") (Or.inl (hw _ (List.mem_of_getElem? (i := 6) rfl))) Via.refl e136 Fc140 (g := (mkF m 26 #[.val (.long (0 : Int64)), .second] [(.int (-1 : Int32)), (.int (1 : Int32)), (.ref b136), (.ref b136)])) rfl (hb hby d4_26)
  obtain ⟨_, _, ⟨T142, L142, k142, n142⟩, -, X142, ⟨Lc142, hQ142, l142, y142, z142⟩, st142⟩ := X141.specialBack hx (y := (⟨"com/example/klepsydra/klepsydra/Decision", "<init>", "(ZILjava/time/Duration;JZ)V"⟩ : MethodName)) rfl hown (mvT hZ (hw _ (List.mem_of_getElem? (i := 8) rfl))) (mvT hZ (hw _ (List.mem_of_getElem? (i := 9) rfl))) (mvT hZ (hw _ (List.mem_of_getElem? (i := 10) rfl))) (by decide) (backOf (W := 1) (rm2c l Z a0 hw [] b136 z h136 n0 (by omega) A136 F136_granted F136_refusedBy F136_retryAfter F136_remaining F136_degraded (by omega : n0 ≤ b136)) hZ (hw _ (List.mem_of_getElem? (i := 10) rfl)) (hw _ (List.mem_of_getElem? (i := 2) rfl)) (by decide) (by decide)) (g := (mkF m 31 #[.val (.long (0 : Int64)), .second] [(.int (0 : Int32)), (.long (0 : Int64)), (.ref z), (.int (-1 : Int32)), (.int (1 : Int32)), (.ref b136), (.ref b136)])) rfl (by rw [hml]; rfl) (Steps.refl _) (a := b136) (argsL := [(.int (1 : Int32)), (.int (-1 : Int32)), (.ref z), (.long (0 : Int64)), (.int (0 : Int32))]) (rest := [(.ref b136)]) (lenOf pd_0 rfl) rfl (by show 2 * 0 + _ ≤ _; exact Nat.le_of_eq rfl) (hb hby d4_31) (fun _ _ => ⟨rfl, e141, (by decide : 1 + 0 ≤ _), (by decide : 5 + 0 ≤ _)⟩)
  dsimp only [Pt.U, Pt.locs, Pt.cells, Pt.slots] at X142 l142 y142 z142 st142 hQ142
  subst l142 y142 z142
  obtain ⟨rfl, N142q, K142, P142_0, P142_1, P142_2, P142_3, P142_4, P142_5⟩ := hQ142
  have N142 := Fr.app N0 N142q
  have z143 := K142.1
  have KC144 : Keep h0 T142.heap [] := KC138.trans K142 (allS (Or.inr (by omega)) all0)
  have z145 := P142_0.lt
  have z146 := P142_1.lt
  have z147 := P142_2.lt
  have z148 := P142_3.lt
  have z149 := P142_4.lt
  have z150 := P142_5.lt
  obtain ⟨fs, hr, hrun, hended, hW, hsame⟩ := X142.leave (v := some (.ref b136)) (fun h => by rw [Bd.returns] at h; cases h)
  refine ⟨_, _, pre0 _ ?_, hrun, hended, _, _, rfl, ?_, ⟨_, rfl⟩, hW, hsame.mono (by decide) (by decide)⟩
  · show Steps p.tables e below (s₁.setTop (mkF m 0 #[.val (.long (0 : Int64)), .second] [])) _
    refine XS.lloadN X0.here hx rfl (hb hby d4_0) rfl ?_
    show Steps p.tables e below (s₁.setTop (mkF m 1 #[.val (.long (0 : Int64)), .second] [(.long (0 : Int64))])) _
    refine XS.lconst X0.here hx rfl (hb hby d4_1) ?_
    show Steps p.tables e below (s₁.setTop (mkF m 2 #[.val (.long (0 : Int64)), .second] [(.long (0 : Int64)), (.long (0 : Int64))])) _
    refine XS.lcmp X0.here hx rfl (hb hby d4_2) rfl ?_
    show Steps p.tables e below (s₁.setTop (mkF m 3 #[.val (.long (0 : Int64)), .second] [(.int (lcmpW (0 : Int64) (0 : Int64)))])) _
    refine XS.ifYes X0.here hx rfl (pc0 := 3) (pc' := 20) rfl (hb hby d4_3) rfl ((if0 _ _).trans (flt ((fun k => (by decide : ¬ ((0 : Int64) < (0 : Int64))) ((lw_lt (0 : Int64) (0 : Int64)).mp k)) : ¬ ((lcmpW (0 : Int64) (0 : Int64)) < (0 : Int32)))).2.1) (by decide) (by decide) ?_
    show Steps p.tables e below (s₁.setTop (mkF m 20 #[.val (.long (0 : Int64)), .second] [])) _
    refine st136 _ ?_
    show Steps p.tables e below (T136.setTop (mkF m 23 #[.val (.long (0 : Int64)), .second] [(.ref b136)])) _
    refine XS.dup X136.here hx rfl (hb hby d4_23) rfl rfl ?_
    show Steps p.tables e below (T136.setTop (mkF m 24 #[.val (.long (0 : Int64)), .second] [(.ref b136), (.ref b136)])) _
    refine XS.iconst X136.here hx rfl (hb hby d4_24) ?_
    show Steps p.tables e below (T136.setTop (mkF m 25 #[.val (.long (0 : Int64)), .second] [(.int (1 : Int32)), (.ref b136), (.ref b136)])) _
    refine XS.iconst X136.here hx rfl (hb hby d4_25) ?_
    show Steps p.tables e below (T136.setTop (mkF m 26 #[.val (.long (0 : Int64)), .second] [(.int (-1 : Int32)), (.int (1 : Int32)), (.ref b136), (.ref b136)])) _
    refine st141 _ ?_
    show Steps p.tables e below (T141.setTop (mkF m 29 #[.val (.long (0 : Int64)), .second] [(.ref z), (.int (-1 : Int32)), (.int (1 : Int32)), (.ref b136), (.ref b136)])) _
    refine XS.lloadN X141.here hx rfl (hb hby d4_29) rfl ?_
    show Steps p.tables e below (T141.setTop (mkF m 30 #[.val (.long (0 : Int64)), .second] [(.long (0 : Int64)), (.ref z), (.int (-1 : Int32)), (.int (1 : Int32)), (.ref b136), (.ref b136)])) _
    refine XS.iconst X141.here hx rfl (hb hby d4_30) ?_
    show Steps p.tables e below (T141.setTop (mkF m 31 #[.val (.long (0 : Int64)), .second] [(.int (0 : Int32)), (.long (0 : Int64)), (.ref z), (.int (-1 : Int32)), (.int (1 : Int32)), (.ref b136), (.ref b136)])) _
    refine st142.trans ?_
    show Steps p.tables e below (T142.setTop (mkF m 34 #[.val (.long (0 : Int64)), .second] [(.ref b136)])) _
    jvm_step X142.here [X142.here.top, hx, (hb hby d4_34), X142.method', Bd.returns, Value.isRef, FieldType.isReference]
    first | (intro acts; rw [hr _ acts rfl rfl rfl]) | rw [hr _ _ rfl rfl rfl]
    exact Steps.refl _
  · show Qrm4 Z z h0 n0 _ T142.heap _
    exact ⟨b136, rfl, N142, KC144, P142_0, P142_1, P142_2, P142_3, P142_4, P142_5, (by first | omega | decide | assumption : h0.size ≤ b136)⟩
theorem d5_0 : decode prog_9_method_6_code 0 = .ok (.aload_n 0, 1) := by decide +kernel
theorem d5_1 : decode prog_9_method_6_code 1 = .ok (.getfield 7, 3) := by decide +kernel
theorem d5_4 : decode prog_9_method_6_code 4 = .ok (.ireturn, 1) := by decide +kernel
theorem ef_rm50 (m : MethodId) (o0 : Addr) : entryFrame m #[(.ref o0)] 1 = mkF m 0 #[.val (.ref o0)] [] := by first | (simp [entryFrame, mkF, argsToLocals, Value.category]; done) | rfl
def Qrm50 (Z : State) (o0 : Addr) (h0 : Heap) (n0 : Nat) (v : Option Value) (h : Heap) (L : List Loc) : Prop := v = some (.int (0 : Int32)) ∧ Fr n0 L ∧ h = h0
set_option maxRecDepth 65536 in
set_option maxHeartbeats 40000000 in
theorem rm50 (l : Launch) (Z : State) (a0 : Array Value) (hw : ∀ d ∈ tables_1, d.before a0 Z = true) (ws : List Jvm.Cond) (o0 : Addr) (h0 : Heap) (n0 : Nat) (Z0 : n0 ≤ h0.size) (H0 : Fld Z h0 o0 "com/example/klepsydra/klepsydra/Decision" "granted" "Z" (.int (0 : Int32))) :
    MetFree l (⟨"com/example/klepsydra/klepsydra/Decision", "granted", "()Z"⟩ : MethodName) (head1 (Jvm.Cond.code (⟨"com/example/klepsydra/klepsydra/Decision", "granted", "()Z"⟩ : MethodName) prog_9_method_6_code 1 (some .boolean) :: ws) ({ frames := 0, cells := 0, slots := 0, locals := 0 } : Room)) (fun a U => a = #[(.ref o0)] ∧ Z.Warmed39 U.vm ∧ U.heap = h0) (fun _ _ _ _ _ => True) (fun _ U o U' => ∃ v L, o = .returned v ∧ Qrm50 Z o0 h0 n0 v U'.heap L ∧ FrameEnd U o U' L ({ frames := 0, cells := 0, slots := 0, locals := 0 } : Room).cells ({ frames := 0, cells := 0, slots := 0, locals := 0 } : Room).slots) := by
  refine MetFree.of_bodySF (plainFor_of_name pn_2) hisR ?_
  intro p e s m args below meth c s₁ Bd hml0 hP hK
  obtain ⟨rfl, hZ, hh⟩ := hP
  have hx := Bd.exec
  have hby := Bd.bytes
  have hml : c.maxLocals = 1 := hml0
  have hown : s.vm.findClass "com/example/klepsydra/klepsydra/Decision" = some m.cls := findClass_of_methodNamed Bd.named
  have hnm := (name_of_methodNamed Bd.named Bd.method).1
  have X0 : Stand p l e ({ frames := 0, cells := 0, slots := 0, locals := 0 } : Room) s m #[(.ref o0)] below meth c s₁ [] 0 0 := Stand.of_body Bd
  have e0 : s₁.heap = h0 := by rw [← hh, Bd.state]; rfl
  have N0 := Fr.nil n0
  have pre0 : ∀ t, Steps p.tables e below (s₁.setTop (mkF m 0 #[.val (.ref o0)] [])) t → Steps p.tables e below (s₁.setTop (entryFrame m #[(.ref o0)] 1)) t := fun t k => castTop (ef_rm50 m o0) k
  have z151 := H0.lt
  have KC0 : Keep h0 h0 [] := Keep.refl _ _
  obtain ⟨T152, X152, e152, st152⟩ := getF X0 hx hZ hown (host := "") (Or.inl (hw _ (List.mem_of_getElem? (i := 14) rfl))) Via.refl e0 H0 (g := (mkF m 1 #[.val (.ref o0)] [(.ref o0)])) rfl rfl (hb hby d5_1)
  obtain ⟨fs, hr, hrun, hended, hW, hsame⟩ := X152.leave (v := some (.int (0 : Int32))) (fun h => by rw [Bd.returns] at h; cases h)
  refine ⟨_, _, pre0 _ ?_, hrun, hended, _, _, rfl, ?_, ⟨_, rfl⟩, hW, hsame.mono (by decide) (by decide)⟩
  · show Steps p.tables e below (s₁.setTop (mkF m 0 #[.val (.ref o0)] [])) _
    refine XS.aloadN X0.here hx rfl (hb hby d5_0) rfl rfl ?_
    show Steps p.tables e below (s₁.setTop (mkF m 1 #[.val (.ref o0)] [(.ref o0)])) _
    refine st152 _ ?_
    show Steps p.tables e below (T152.setTop (mkF m 4 #[.val (.ref o0)] [(.int (0 : Int32))])) _
    exact retN X152 hx (t := .boolean) Bd.returns (by simp) (hb hby d5_4) hr
  · show Qrm50 Z o0 h0 n0 _ T152.heap _
    rw [e152]
    exact ⟨rfl, N0, rfl⟩
theorem ef_rm51 (m : MethodId) (o0 : Addr) : entryFrame m #[(.ref o0)] 1 = mkF m 0 #[.val (.ref o0)] [] := by first | (simp [entryFrame, mkF, argsToLocals, Value.category]; done) | rfl
def Qrm51 (Z : State) (o0 : Addr) (h0 : Heap) (n0 : Nat) (v : Option Value) (h : Heap) (L : List Loc) : Prop := v = some (.int (1 : Int32)) ∧ Fr n0 L ∧ h = h0
set_option maxRecDepth 65536 in
set_option maxHeartbeats 40000000 in
theorem rm51 (l : Launch) (Z : State) (a0 : Array Value) (hw : ∀ d ∈ tables_1, d.before a0 Z = true) (ws : List Jvm.Cond) (o0 : Addr) (h0 : Heap) (n0 : Nat) (Z0 : n0 ≤ h0.size) (H0 : Fld Z h0 o0 "com/example/klepsydra/klepsydra/Decision" "granted" "Z" (.int (1 : Int32))) :
    MetFree l (⟨"com/example/klepsydra/klepsydra/Decision", "granted", "()Z"⟩ : MethodName) (head1 (Jvm.Cond.code (⟨"com/example/klepsydra/klepsydra/Decision", "granted", "()Z"⟩ : MethodName) prog_9_method_6_code 1 (some .boolean) :: ws) ({ frames := 0, cells := 0, slots := 0, locals := 0 } : Room)) (fun a U => a = #[(.ref o0)] ∧ Z.Warmed39 U.vm ∧ U.heap = h0) (fun _ _ _ _ _ => True) (fun _ U o U' => ∃ v L, o = .returned v ∧ Qrm51 Z o0 h0 n0 v U'.heap L ∧ FrameEnd U o U' L ({ frames := 0, cells := 0, slots := 0, locals := 0 } : Room).cells ({ frames := 0, cells := 0, slots := 0, locals := 0 } : Room).slots) := by
  refine MetFree.of_bodySF (plainFor_of_name pn_2) hisR ?_
  intro p e s m args below meth c s₁ Bd hml0 hP hK
  obtain ⟨rfl, hZ, hh⟩ := hP
  have hx := Bd.exec
  have hby := Bd.bytes
  have hml : c.maxLocals = 1 := hml0
  have hown : s.vm.findClass "com/example/klepsydra/klepsydra/Decision" = some m.cls := findClass_of_methodNamed Bd.named
  have hnm := (name_of_methodNamed Bd.named Bd.method).1
  have X0 : Stand p l e ({ frames := 0, cells := 0, slots := 0, locals := 0 } : Room) s m #[(.ref o0)] below meth c s₁ [] 0 0 := Stand.of_body Bd
  have e0 : s₁.heap = h0 := by rw [← hh, Bd.state]; rfl
  have N0 := Fr.nil n0
  have pre0 : ∀ t, Steps p.tables e below (s₁.setTop (mkF m 0 #[.val (.ref o0)] [])) t → Steps p.tables e below (s₁.setTop (entryFrame m #[(.ref o0)] 1)) t := fun t k => castTop (ef_rm51 m o0) k
  have z153 := H0.lt
  have KC0 : Keep h0 h0 [] := Keep.refl _ _
  obtain ⟨T154, X154, e154, st154⟩ := getF X0 hx hZ hown (host := "") (Or.inl (hw _ (List.mem_of_getElem? (i := 14) rfl))) Via.refl e0 H0 (g := (mkF m 1 #[.val (.ref o0)] [(.ref o0)])) rfl rfl (hb hby d5_1)
  obtain ⟨fs, hr, hrun, hended, hW, hsame⟩ := X154.leave (v := some (.int (1 : Int32))) (fun h => by rw [Bd.returns] at h; cases h)
  refine ⟨_, _, pre0 _ ?_, hrun, hended, _, _, rfl, ?_, ⟨_, rfl⟩, hW, hsame.mono (by decide) (by decide)⟩
  · show Steps p.tables e below (s₁.setTop (mkF m 0 #[.val (.ref o0)] [])) _
    refine XS.aloadN X0.here hx rfl (hb hby d5_0) rfl rfl ?_
    show Steps p.tables e below (s₁.setTop (mkF m 1 #[.val (.ref o0)] [(.ref o0)])) _
    refine st154 _ ?_
    show Steps p.tables e below (T154.setTop (mkF m 4 #[.val (.ref o0)] [(.int (1 : Int32))])) _
    exact retN X154 hx (t := .boolean) Bd.returns (by simp) (hb hby d5_4) hr
  · show Qrm51 Z o0 h0 n0 _ T154.heap _
    rw [e154]
    exact ⟨rfl, N0, rfl⟩
theorem d6_0 : decode prog_9_method_10_code 0 = .ok (.aload_n 0, 1) := by decide +kernel
theorem d6_1 : decode prog_9_method_10_code 1 = .ok (.getfield 25, 3) := by decide +kernel
theorem d6_4 : decode prog_9_method_10_code 4 = .ok (.ireturn, 1) := by decide +kernel
theorem ef_rm6 (m : MethodId) (o0 : Addr) : entryFrame m #[(.ref o0)] 1 = mkF m 0 #[.val (.ref o0)] [] := by first | (simp [entryFrame, mkF, argsToLocals, Value.category]; done) | rfl
def Qrm6 (Z : State) (o0 : Addr) (h0 : Heap) (n0 : Nat) (v : Option Value) (h : Heap) (L : List Loc) : Prop := v = some (.int (1 : Int32)) ∧ Fr n0 L ∧ h = h0
set_option maxRecDepth 65536 in
set_option maxHeartbeats 40000000 in
theorem rm6 (l : Launch) (Z : State) (a0 : Array Value) (hw : ∀ d ∈ tables_1, d.before a0 Z = true) (ws : List Jvm.Cond) (o0 : Addr) (h0 : Heap) (n0 : Nat) (Z0 : n0 ≤ h0.size) (H0 : Fld Z h0 o0 "com/example/klepsydra/klepsydra/Decision" "degraded" "Z" (.int (1 : Int32))) :
    MetFree l (⟨"com/example/klepsydra/klepsydra/Decision", "degraded", "()Z"⟩ : MethodName) (head1 (Jvm.Cond.code (⟨"com/example/klepsydra/klepsydra/Decision", "degraded", "()Z"⟩ : MethodName) prog_9_method_10_code 1 (some .boolean) :: ws) ({ frames := 0, cells := 0, slots := 0, locals := 0 } : Room)) (fun a U => a = #[(.ref o0)] ∧ Z.Warmed39 U.vm ∧ U.heap = h0) (fun _ _ _ _ _ => True) (fun _ U o U' => ∃ v L, o = .returned v ∧ Qrm6 Z o0 h0 n0 v U'.heap L ∧ FrameEnd U o U' L ({ frames := 0, cells := 0, slots := 0, locals := 0 } : Room).cells ({ frames := 0, cells := 0, slots := 0, locals := 0 } : Room).slots) := by
  refine MetFree.of_bodySF (plainFor_of_name pn_2) hisR ?_
  intro p e s m args below meth c s₁ Bd hml0 hP hK
  obtain ⟨rfl, hZ, hh⟩ := hP
  have hx := Bd.exec
  have hby := Bd.bytes
  have hml : c.maxLocals = 1 := hml0
  have hown : s.vm.findClass "com/example/klepsydra/klepsydra/Decision" = some m.cls := findClass_of_methodNamed Bd.named
  have hnm := (name_of_methodNamed Bd.named Bd.method).1
  have X0 : Stand p l e ({ frames := 0, cells := 0, slots := 0, locals := 0 } : Room) s m #[(.ref o0)] below meth c s₁ [] 0 0 := Stand.of_body Bd
  have e0 : s₁.heap = h0 := by rw [← hh, Bd.state]; rfl
  have N0 := Fr.nil n0
  have pre0 : ∀ t, Steps p.tables e below (s₁.setTop (mkF m 0 #[.val (.ref o0)] [])) t → Steps p.tables e below (s₁.setTop (entryFrame m #[(.ref o0)] 1)) t := fun t k => castTop (ef_rm6 m o0) k
  have z155 := H0.lt
  have KC0 : Keep h0 h0 [] := Keep.refl _ _
  obtain ⟨T156, X156, e156, st156⟩ := getF X0 hx hZ hown (host := "") (Or.inl (hw _ (List.mem_of_getElem? (i := 22) rfl))) Via.refl e0 H0 (g := (mkF m 1 #[.val (.ref o0)] [(.ref o0)])) rfl rfl (hb hby d6_1)
  obtain ⟨fs, hr, hrun, hended, hW, hsame⟩ := X156.leave (v := some (.int (1 : Int32))) (fun h => by rw [Bd.returns] at h; cases h)
  refine ⟨_, _, pre0 _ ?_, hrun, hended, _, _, rfl, ?_, ⟨_, rfl⟩, hW, hsame.mono (by decide) (by decide)⟩
  · show Steps p.tables e below (s₁.setTop (mkF m 0 #[.val (.ref o0)] [])) _
    refine XS.aloadN X0.here hx rfl (hb hby d6_0) rfl rfl ?_
    show Steps p.tables e below (s₁.setTop (mkF m 1 #[.val (.ref o0)] [(.ref o0)])) _
    refine st156 _ ?_
    show Steps p.tables e below (T156.setTop (mkF m 4 #[.val (.ref o0)] [(.int (1 : Int32))])) _
    exact retN X156 hx (t := .boolean) Bd.returns (by simp) (hb hby d6_4) hr
  · show Qrm6 Z o0 h0 n0 _ T156.heap _
    rw [e156]
    exact ⟨rfl, N0, rfl⟩
theorem d7_0 : decode prog_9_method_7_code 0 = .ok (.aload_n 0, 1) := by decide +kernel
theorem d7_1 : decode prog_9_method_7_code 1 = .ok (.getfield 13, 3) := by decide +kernel
theorem d7_4 : decode prog_9_method_7_code 4 = .ok (.ireturn, 1) := by decide +kernel
theorem ef_rm7 (m : MethodId) (o0 : Addr) : entryFrame m #[(.ref o0)] 1 = mkF m 0 #[.val (.ref o0)] [] := by first | (simp [entryFrame, mkF, argsToLocals, Value.category]; done) | rfl
def Qrm7 (Z : State) (o0 : Addr) (h0 : Heap) (n0 : Nat) (v : Option Value) (h : Heap) (L : List Loc) : Prop := v = some (.int (-1 : Int32)) ∧ Fr n0 L ∧ h = h0
set_option maxRecDepth 65536 in
set_option maxHeartbeats 40000000 in
theorem rm7 (l : Launch) (Z : State) (a0 : Array Value) (hw : ∀ d ∈ tables_1, d.before a0 Z = true) (ws : List Jvm.Cond) (o0 : Addr) (h0 : Heap) (n0 : Nat) (Z0 : n0 ≤ h0.size) (H0 : Fld Z h0 o0 "com/example/klepsydra/klepsydra/Decision" "refusedBy" "I" (.int (-1 : Int32))) :
    MetFree l (⟨"com/example/klepsydra/klepsydra/Decision", "refusedBy", "()I"⟩ : MethodName) (head1 (Jvm.Cond.code (⟨"com/example/klepsydra/klepsydra/Decision", "refusedBy", "()I"⟩ : MethodName) prog_9_method_7_code 1 (some .int) :: ws) ({ frames := 0, cells := 0, slots := 0, locals := 0 } : Room)) (fun a U => a = #[(.ref o0)] ∧ Z.Warmed39 U.vm ∧ U.heap = h0) (fun _ _ _ _ _ => True) (fun _ U o U' => ∃ v L, o = .returned v ∧ Qrm7 Z o0 h0 n0 v U'.heap L ∧ FrameEnd U o U' L ({ frames := 0, cells := 0, slots := 0, locals := 0 } : Room).cells ({ frames := 0, cells := 0, slots := 0, locals := 0 } : Room).slots) := by
  refine MetFree.of_bodySF (plainFor_of_name pn_2) hisR ?_
  intro p e s m args below meth c s₁ Bd hml0 hP hK
  obtain ⟨rfl, hZ, hh⟩ := hP
  have hx := Bd.exec
  have hby := Bd.bytes
  have hml : c.maxLocals = 1 := hml0
  have hown : s.vm.findClass "com/example/klepsydra/klepsydra/Decision" = some m.cls := findClass_of_methodNamed Bd.named
  have hnm := (name_of_methodNamed Bd.named Bd.method).1
  have X0 : Stand p l e ({ frames := 0, cells := 0, slots := 0, locals := 0 } : Room) s m #[(.ref o0)] below meth c s₁ [] 0 0 := Stand.of_body Bd
  have e0 : s₁.heap = h0 := by rw [← hh, Bd.state]; rfl
  have N0 := Fr.nil n0
  have pre0 : ∀ t, Steps p.tables e below (s₁.setTop (mkF m 0 #[.val (.ref o0)] [])) t → Steps p.tables e below (s₁.setTop (entryFrame m #[(.ref o0)] 1)) t := fun t k => castTop (ef_rm7 m o0) k
  have z157 := H0.lt
  have KC0 : Keep h0 h0 [] := Keep.refl _ _
  obtain ⟨T158, X158, e158, st158⟩ := getF X0 hx hZ hown (host := "") (Or.inl (hw _ (List.mem_of_getElem? (i := 16) rfl))) Via.refl e0 H0 (g := (mkF m 1 #[.val (.ref o0)] [(.ref o0)])) rfl rfl (hb hby d7_1)
  obtain ⟨fs, hr, hrun, hended, hW, hsame⟩ := X158.leave (v := some (.int (-1 : Int32))) (fun h => by rw [Bd.returns] at h; cases h)
  refine ⟨_, _, pre0 _ ?_, hrun, hended, _, _, rfl, ?_, ⟨_, rfl⟩, hW, hsame.mono (by decide) (by decide)⟩
  · show Steps p.tables e below (s₁.setTop (mkF m 0 #[.val (.ref o0)] [])) _
    refine XS.aloadN X0.here hx rfl (hb hby d7_0) rfl rfl ?_
    show Steps p.tables e below (s₁.setTop (mkF m 1 #[.val (.ref o0)] [(.ref o0)])) _
    refine st158 _ ?_
    show Steps p.tables e below (T158.setTop (mkF m 4 #[.val (.ref o0)] [(.int (-1 : Int32))])) _
    exact retI X158 hx Bd.returns (hb hby d7_4) hr
  · show Qrm7 Z o0 h0 n0 _ T158.heap _
    rw [e158]
    exact ⟨rfl, N0, rfl⟩
theorem d8_0 : decode prog_9_method_9_code 0 = .ok (.aload_n 0, 1) := by decide +kernel
theorem d8_1 : decode prog_9_method_9_code 1 = .ok (.getfield 21, 3) := by decide +kernel
theorem d8_4 : decode prog_9_method_9_code 4 = .ok (.lreturn, 1) := by decide +kernel
theorem ef_rm8 (m : MethodId) (o0 : Addr) : entryFrame m #[(.ref o0)] 1 = mkF m 0 #[.val (.ref o0)] [] := by first | (simp [entryFrame, mkF, argsToLocals, Value.category]; done) | rfl
def Qrm8 (Z : State) (o0 : Addr) (h0 : Heap) (n0 : Nat) (v : Option Value) (h : Heap) (L : List Loc) : Prop := v = some (.long (0 : Int64)) ∧ Fr n0 L ∧ h = h0
set_option maxRecDepth 65536 in
set_option maxHeartbeats 40000000 in
theorem rm8 (l : Launch) (Z : State) (a0 : Array Value) (hw : ∀ d ∈ tables_1, d.before a0 Z = true) (ws : List Jvm.Cond) (o0 : Addr) (h0 : Heap) (n0 : Nat) (Z0 : n0 ≤ h0.size) (H0 : Fld Z h0 o0 "com/example/klepsydra/klepsydra/Decision" "remaining" "J" (.long (0 : Int64))) :
    MetFree l (⟨"com/example/klepsydra/klepsydra/Decision", "remaining", "()J"⟩ : MethodName) (head1 (Jvm.Cond.code (⟨"com/example/klepsydra/klepsydra/Decision", "remaining", "()J"⟩ : MethodName) prog_9_method_9_code 1 (some .long) :: ws) ({ frames := 0, cells := 0, slots := 0, locals := 0 } : Room)) (fun a U => a = #[(.ref o0)] ∧ Z.Warmed39 U.vm ∧ U.heap = h0) (fun _ _ _ _ _ => True) (fun _ U o U' => ∃ v L, o = .returned v ∧ Qrm8 Z o0 h0 n0 v U'.heap L ∧ FrameEnd U o U' L ({ frames := 0, cells := 0, slots := 0, locals := 0 } : Room).cells ({ frames := 0, cells := 0, slots := 0, locals := 0 } : Room).slots) := by
  refine MetFree.of_bodySF (plainFor_of_name pn_2) hisR ?_
  intro p e s m args below meth c s₁ Bd hml0 hP hK
  obtain ⟨rfl, hZ, hh⟩ := hP
  have hx := Bd.exec
  have hby := Bd.bytes
  have hml : c.maxLocals = 1 := hml0
  have hown : s.vm.findClass "com/example/klepsydra/klepsydra/Decision" = some m.cls := findClass_of_methodNamed Bd.named
  have hnm := (name_of_methodNamed Bd.named Bd.method).1
  have X0 : Stand p l e ({ frames := 0, cells := 0, slots := 0, locals := 0 } : Room) s m #[(.ref o0)] below meth c s₁ [] 0 0 := Stand.of_body Bd
  have e0 : s₁.heap = h0 := by rw [← hh, Bd.state]; rfl
  have N0 := Fr.nil n0
  have pre0 : ∀ t, Steps p.tables e below (s₁.setTop (mkF m 0 #[.val (.ref o0)] [])) t → Steps p.tables e below (s₁.setTop (entryFrame m #[(.ref o0)] 1)) t := fun t k => castTop (ef_rm8 m o0) k
  have z159 := H0.lt
  have KC0 : Keep h0 h0 [] := Keep.refl _ _
  obtain ⟨T160, X160, e160, st160⟩ := getF X0 hx hZ hown (host := "") (Or.inl (hw _ (List.mem_of_getElem? (i := 20) rfl))) Via.refl e0 H0 (g := (mkF m 1 #[.val (.ref o0)] [(.ref o0)])) rfl rfl (hb hby d8_1)
  obtain ⟨fs, hr, hrun, hended, hW, hsame⟩ := X160.leave (v := some (.long (0 : Int64))) (fun h => by rw [Bd.returns] at h; cases h)
  refine ⟨_, _, pre0 _ ?_, hrun, hended, _, _, rfl, ?_, ⟨_, rfl⟩, hW, hsame.mono (by decide) (by decide)⟩
  · show Steps p.tables e below (s₁.setTop (mkF m 0 #[.val (.ref o0)] [])) _
    refine XS.aloadN X0.here hx rfl (hb hby d8_0) rfl rfl ?_
    show Steps p.tables e below (s₁.setTop (mkF m 1 #[.val (.ref o0)] [(.ref o0)])) _
    refine st160 _ ?_
    show Steps p.tables e below (T160.setTop (mkF m 4 #[.val (.ref o0)] [(.long (0 : Int64))])) _
    jvm_step X160.here [X160.here.top, hx, (hb hby d8_4), X160.method', Bd.returns, narrow]
    first | (intro acts; rw [hr _ acts rfl rfl rfl]) | rw [hr _ _ rfl rfl rfl]
    exact Steps.refl _
  · show Qrm8 Z o0 h0 n0 _ T160.heap _
    rw [e160]
    exact ⟨rfl, N0, rfl⟩
theorem d9_0 : decode prog_9_method_8_code 0 = .ok (.aload_n 0, 1) := by decide +kernel
theorem d9_1 : decode prog_9_method_8_code 1 = .ok (.getfield 17, 3) := by decide +kernel
theorem d9_4 : decode prog_9_method_8_code 4 = .ok (.areturn, 1) := by decide +kernel
theorem ef_rm9 (m : MethodId) (o0 : Addr) : entryFrame m #[(.ref o0)] 1 = mkF m 0 #[.val (.ref o0)] [] := by first | (simp [entryFrame, mkF, argsToLocals, Value.category]; done) | rfl
def Qrm9 (Z : State) (o0 : Addr) (z : Addr) (h0 : Heap) (n0 : Nat) (v : Option Value) (h : Heap) (L : List Loc) : Prop := v = some (.ref z) ∧ Fr n0 L ∧ h = h0
set_option maxRecDepth 65536 in
set_option maxHeartbeats 40000000 in
theorem rm9 (l : Launch) (Z : State) (a0 : Array Value) (hw : ∀ d ∈ tables_1, d.before a0 Z = true) (ws : List Jvm.Cond) (o0 : Addr) (z : Addr) (h0 : Heap) (n0 : Nat) (Z0 : n0 ≤ h0.size) (H0 : Fld Z h0 o0 "com/example/klepsydra/klepsydra/Decision" "retryAfter" "Ljava/time/Duration;" (.ref z)) :
    MetFree l (⟨"com/example/klepsydra/klepsydra/Decision", "retryAfter", "()Ljava/time/Duration;"⟩ : MethodName) (head1 (Jvm.Cond.code (⟨"com/example/klepsydra/klepsydra/Decision", "retryAfter", "()Ljava/time/Duration;"⟩ : MethodName) prog_9_method_8_code 1 (some (.object "java/time/Duration")) :: ws) ({ frames := 0, cells := 0, slots := 0, locals := 0 } : Room)) (fun a U => a = #[(.ref o0)] ∧ Z.Warmed39 U.vm ∧ U.heap = h0) (fun _ _ _ _ _ => True) (fun _ U o U' => ∃ v L, o = .returned v ∧ Qrm9 Z o0 z h0 n0 v U'.heap L ∧ FrameEnd U o U' L ({ frames := 0, cells := 0, slots := 0, locals := 0 } : Room).cells ({ frames := 0, cells := 0, slots := 0, locals := 0 } : Room).slots) := by
  refine MetFree.of_bodySF (plainFor_of_name pn_2) hisR ?_
  intro p e s m args below meth c s₁ Bd hml0 hP hK
  obtain ⟨rfl, hZ, hh⟩ := hP
  have hx := Bd.exec
  have hby := Bd.bytes
  have hml : c.maxLocals = 1 := hml0
  have hown : s.vm.findClass "com/example/klepsydra/klepsydra/Decision" = some m.cls := findClass_of_methodNamed Bd.named
  have hnm := (name_of_methodNamed Bd.named Bd.method).1
  have X0 : Stand p l e ({ frames := 0, cells := 0, slots := 0, locals := 0 } : Room) s m #[(.ref o0)] below meth c s₁ [] 0 0 := Stand.of_body Bd
  have e0 : s₁.heap = h0 := by rw [← hh, Bd.state]; rfl
  have N0 := Fr.nil n0
  have pre0 : ∀ t, Steps p.tables e below (s₁.setTop (mkF m 0 #[.val (.ref o0)] [])) t → Steps p.tables e below (s₁.setTop (entryFrame m #[(.ref o0)] 1)) t := fun t k => castTop (ef_rm9 m o0) k
  have z161 := H0.lt
  have KC0 : Keep h0 h0 [] := Keep.refl _ _
  obtain ⟨T162, X162, e162, st162⟩ := getF X0 hx hZ hown (host := "") (Or.inl (hw _ (List.mem_of_getElem? (i := 18) rfl))) Via.refl e0 H0 (g := (mkF m 1 #[.val (.ref o0)] [(.ref o0)])) rfl rfl (hb hby d9_1)
  obtain ⟨fs, hr, hrun, hended, hW, hsame⟩ := X162.leave (v := some (.ref z)) (fun h => by rw [Bd.returns] at h; cases h)
  refine ⟨_, _, pre0 _ ?_, hrun, hended, _, _, rfl, ?_, ⟨_, rfl⟩, hW, hsame.mono (by decide) (by decide)⟩
  · show Steps p.tables e below (s₁.setTop (mkF m 0 #[.val (.ref o0)] [])) _
    refine XS.aloadN X0.here hx rfl (hb hby d9_0) rfl rfl ?_
    show Steps p.tables e below (s₁.setTop (mkF m 1 #[.val (.ref o0)] [(.ref o0)])) _
    refine st162 _ ?_
    show Steps p.tables e below (T162.setTop (mkF m 4 #[.val (.ref o0)] [(.ref z)])) _
    jvm_step X162.here [X162.here.top, hx, (hb hby d9_4), X162.method', Bd.returns, Value.isRef, FieldType.isReference]
    first | (intro acts; rw [hr _ acts rfl rfl rfl]) | rw [hr _ _ rfl rfl rfl]
    exact Steps.refl _
  · show Qrm9 Z o0 z h0 n0 _ T162.heap _
    rw [e162]
    exact ⟨rfl, N0, rfl⟩
theorem pd_1 : parseMethodDescriptor "(Z)Lcom/example/klepsydra/klepsydra/Decision;" = some ⟨[.boolean], some (.object "com/example/klepsydra/klepsydra/Decision")⟩ := by decide +kernel
theorem pd_2 : parseMethodDescriptor "(J)Lcom/example/klepsydra/klepsydra/Decision;" = some ⟨[.long], some (.object "com/example/klepsydra/klepsydra/Decision")⟩ := by decide +kernel
theorem pd_3 : parseMethodDescriptor "()Z" = some ⟨[], some .boolean⟩ := by decide +kernel
theorem pd_4 : parseMethodDescriptor "()I" = some ⟨[], some .int⟩ := by decide +kernel
theorem pd_5 : parseMethodDescriptor "()J" = some ⟨[], some .long⟩ := by decide +kernel
theorem pd_6 : parseMethodDescriptor "()Ljava/time/Duration;" = some ⟨[], some (.object "java/time/Duration")⟩ := by decide +kernel
theorem pn_0 : plainName "com/example/klepsydra/klepsydra/DecisionDegradedPinLaw" = true := by first | (simp [plainName, overriddenIn]; done) | decide +kernel
theorem ef_rm0 (m : MethodId) (p0 : Int32) : entryFrame m #[(.int p0)] maxLocals = mkF m 0 #[.val (.int p0), .unset, .unset, .unset, .unset, .unset, .unset, .unset, .unset] [] := by first | (simp [entryFrame, mkF, argsToLocals, Value.category, maxLocals]; done) | rfl
def Qrm0 (Z : State) (p0 : Int32) (z : Addr) (h0 : Heap) (n0 : Nat) (v : Option Value) (h : Heap) (L : List Loc) : Prop := v = some (.int (1 : Int32)) ∧ Fr n0 L ∧ Keep h0 h []
set_option maxRecDepth 65536 in
set_option maxHeartbeats 40000000 in
theorem rm0 (l : Launch) (Z : State) (a0 : Array Value) (hw : ∀ d ∈ tables_1, d.before a0 Z = true) (ws : List Jvm.Cond) (p0 : Int32) (z : Addr) (h0 : Heap) (n0 : Nat) (Z0 : n0 ≤ h0.size) (H0 : Sta Z h0 "java/time/Duration" "ZERO" "Ljava/time/Duration;" (.ref z)) :
    MetFree l x (head1 (Jvm.Cond.code x code maxLocals ret :: ws) room_1) (fun a U => a = #[(.int p0)] ∧ Z.Warmed39 U.vm ∧ U.heap = h0) (fun _ _ _ _ _ => True) (fun _ U o U' => ∃ v L, o = .returned v ∧ Qrm0 Z p0 z h0 n0 v U'.heap L ∧ FrameEnd U o U' L room_1.cells room_1.slots) := by
  refine MetFree.of_bodySF (plainFor_of_name pn_0) hisR ?_
  intro p e s m args below meth c s₁ Bd hml0 hP hK
  obtain ⟨rfl, hZ, hh⟩ := hP
  have hx := Bd.exec
  have hby := Bd.bytes
  have hml : c.maxLocals = 9 := hml0
  have hown : s.vm.findClass "com/example/klepsydra/klepsydra/DecisionDegradedPinLaw" = some m.cls := findClass_of_methodNamed Bd.named
  have hnm := (name_of_methodNamed Bd.named Bd.method).1
  have X0 : Stand p l e room_1 s m #[(.int p0)] below meth c s₁ [] 0 0 := Stand.of_body Bd
  have e0 : s₁.heap = h0 := by rw [← hh, Bd.state]; rfl
  have N0 := Fr.nil n0
  have pre0 : ∀ t, Steps p.tables e below (s₁.setTop (mkF m 0 #[.val (.int p0), .unset, .unset, .unset, .unset, .unset, .unset, .unset, .unset] [])) t → Steps p.tables e below (s₁.setTop (entryFrame m #[(.int p0)] maxLocals)) t := fun t k => castTop (ef_rm0 m p0) k
  have KC0 : Keep h0 h0 [] := Keep.refl _ _
  have pre163 : ∀ t, Steps p.tables e below (s₁.setTop (mkF m 3 #[.val (.int p0), .unset, .unset, .unset, .unset, .unset, .unset, .unset, .unset] [(.int (p0 &&& (1 : Int32)))])) t → Steps p.tables e below (s₁.setTop (entryFrame m #[(.int p0)] maxLocals)) t := fun t k => by
    refine pre0 _ ?_
    show Steps p.tables e below (s₁.setTop (mkF m 0 #[.val (.int p0), .unset, .unset, .unset, .unset, .unset, .unset, .unset, .unset] [])) _
    refine XS.iloadN X0.here hx rfl (hb hby at_0) rfl ?_
    show Steps p.tables e below (s₁.setTop (mkF m 1 #[.val (.int p0), .unset, .unset, .unset, .unset, .unset, .unset, .unset, .unset] [(.int p0)])) _
    refine XS.iconst X0.here hx rfl (hb hby at_1) ?_
    show Steps p.tables e below (s₁.setTop (mkF m 2 #[.val (.int p0), .unset, .unset, .unset, .unset, .unset, .unset, .unset, .unset] [(.int (1 : Int32)), (.int p0)])) _
    refine XS.iand X0.here hx rfl (hb hby at_2) rfl ?_
    exact k
  by_cases hc164 : (p0 &&& (1 : Int32)) = (0 : Int32)
  · obtain ⟨_, _, ⟨T165, L165, k165, n165⟩, -, X165, ⟨Lc165, hQ165, l165, y165, z165⟩, st165⟩ := Jvm.LawKit.callS X0 hx (y := (⟨"com/example/klepsydra/klepsydra/Decision", "degraded", "(Z)Lcom/example/klepsydra/klepsydra/Decision;"⟩ : MethodName)) hown (mvT hZ (hw _ (List.mem_of_getElem? (i := 0) rfl))) (mvT hZ (hw _ (List.mem_of_getElem? (i := 1) rfl))) (mvT hZ (hw _ (List.mem_of_getElem? (i := 2) rfl))) (mvT hZ (hw _ (List.mem_of_getElem? (i := 3) rfl))) (by decide) (backOf (W := 0) (rm10 l Z a0 hw [] z h0 n0 (by omega) H0) hZ (hw _ (List.mem_of_getElem? (i := 3) rfl)) (hw _ (List.mem_of_getElem? (i := 2) rfl)) (by decide) (by decide)) (g := (mkF m 13 #[.val (.int p0), .val (.int (0 : Int32)), .unset, .unset, .unset, .unset, .unset, .unset, .unset] [(.int (0 : Int32))])) rfl (by rw [hml]; rfl) (argsL := [(.int (0 : Int32))]) (rest := []) (lenOf pd_1 rfl) rfl (by show 2 * 0 + _ ≤ _; exact Nat.le_of_eq rfl) (hb hby at_13) (fun _ _ => ⟨rfl, e0, (by decide : 0 + 1 ≤ _), (by decide : 0 + 5 ≤ _)⟩)
    dsimp only [Pt.U, Pt.locs, Pt.cells, Pt.slots] at X165 l165 y165 z165 st165 hQ165
    subst l165 y165 z165
    obtain ⟨r_165, rfl, N165q, K165, P165_0, P165_1, P165_2, P165_3, P165_4, P165_5, P165_6⟩ := hQ165
    have N165 := Fr.app N0 N165q
    have z166 := K165.1
    have KC167 : Keep h0 T165.heap [] := KC0.trans K165 all0
    have z168 := P165_0.lt
    have z169 := P165_1.lt
    have z170 := P165_2.lt
    have z171 := P165_3.lt
    have z172 := P165_4.lt
    have z173 := P165_5.lt
    have Fc174 := (H0.ext (own_ext K165))
    obtain ⟨_, _, ⟨T175, L175, k175, n175⟩, -, X175, ⟨Lc175, hQ175, l175, y175, z175⟩, st175⟩ := Jvm.LawKit.callS X165 hx (y := (⟨"com/example/klepsydra/klepsydra/Decision", "granted", "(J)Lcom/example/klepsydra/klepsydra/Decision;"⟩ : MethodName)) hown (mvT hZ (hw _ (List.mem_of_getElem? (i := 24) rfl))) (mvT hZ (hw _ (List.mem_of_getElem? (i := 25) rfl))) (mvT hZ (hw _ (List.mem_of_getElem? (i := 2) rfl))) (mvT hZ (hw _ (List.mem_of_getElem? (i := 26) rfl))) (by decide) (backOf (W := 0) (rm4 l Z a0 hw [] z T165.heap n0 (by omega) Fc174) hZ (hw _ (List.mem_of_getElem? (i := 26) rfl)) (hw _ (List.mem_of_getElem? (i := 2) rfl)) (by decide) (by decide)) (g := (mkF m 18 #[.val (.int p0), .val (.int (0 : Int32)), .val (.ref r_165), .unset, .unset, .unset, .unset, .unset, .unset] [(.long (0 : Int64))])) rfl (by rw [hml]; rfl) (argsL := [(.long (0 : Int64))]) (rest := []) (lenOf pd_2 rfl) rfl (by show 2 * 0 + _ ≤ _; exact Nat.le_of_eq rfl) (hb hby at_18) (fun _ _ => ⟨rfl, rfl, (by decide : 1 + 1 ≤ _), (by decide : 5 + 5 ≤ _)⟩)
    dsimp only [Pt.U, Pt.locs, Pt.cells, Pt.slots] at X175 l175 y175 z175 st175 hQ175
    subst l175 y175 z175
    obtain ⟨r_175, rfl, N175q, K175, P175_0, P175_1, P175_2, P175_3, P175_4, P175_5, P175_6⟩ := hQ175
    have N175 := Fr.app N165 N175q
    have z176 := K175.1
    have KC177 : Keep h0 T175.heap [] := KC167.trans K175 all0
    have z178 := P175_0.lt
    have z179 := P175_1.lt
    have z180 := P175_2.lt
    have z181 := P175_3.lt
    have z182 := P175_4.lt
    have z183 := P175_5.lt
    have Fc184 := (P165_1.keep K175 nin0)
    have Fc186 := (P165_0.keep K175)
    obtain ⟨cq185, kq185, qa185, qb185, qc185⟩ := isOf hZ rfl Fc186
    obtain ⟨_, _, ⟨T185, L185, k185, n185⟩, -, X185, ⟨Lc185, hQ185, l185, y185, z185⟩, st185⟩ := X175.virtualBack hx (y := (⟨"com/example/klepsydra/klepsydra/Decision", "granted", "()Z"⟩ : MethodName)) (z := (⟨"com/example/klepsydra/klepsydra/Decision", "granted", "()Z"⟩ : MethodName)) hown (mvT hZ (hw _ (List.mem_of_getElem? (i := 27) rfl))) (mvT hZ (hw _ (List.mem_of_getElem? (i := 28) rfl))) (notFace_of_selects (args := #[]) (mvT hZ (hw _ (List.mem_of_getElem? (i := 30) rfl)))) (mvT hZ (hw _ (List.mem_of_getElem? (i := 30) rfl))) (mvT hZ (hw _ (List.mem_of_getElem? (i := 29) rfl))) (by decide) (backOf (W := 0) (rm50 l Z a0 hw [] r_165 T175.heap n0 (by omega) Fc184) hZ (hw _ (List.mem_of_getElem? (i := 31) rfl)) (hw _ (List.mem_of_getElem? (i := 2) rfl)) (by decide) (by decide)) qa185 qc185 (g := (mkF m 23 #[.val (.int p0), .val (.int (0 : Int32)), .val (.ref r_165), .val (.ref r_175), .unset, .unset, .unset, .unset, .unset] [(.ref r_165)])) rfl (by rw [hml]; rfl) (Steps.refl _) (argsL := []) (rest := []) (lenOf pd_3 rfl) rfl (by show 2 * 0 + _ ≤ _; exact Nat.le_of_eq rfl) (hb hby at_23) (fun _ _ => ⟨rfl, rfl, (by decide : 2 + 0 ≤ _), (by decide : 10 + 0 ≤ _)⟩)
    dsimp only [Pt.U, Pt.locs, Pt.cells, Pt.slots] at X185 l185 y185 z185 st185 hQ185
    subst l185 y185 z185
    obtain ⟨rfl, N185q, e185⟩ := hQ185
    have N185 := Fr.app N175 N185q
    have Fc187 := (P165_5.keep K175 nin0)
    obtain ⟨cq188, kq188, qa188, qb188, qc188⟩ := isOf hZ e185 Fc186
    obtain ⟨_, _, ⟨T188, L188, k188, n188⟩, -, X188, ⟨Lc188, hQ188, l188, y188, z188⟩, st188⟩ := X185.virtualBack hx (y := (⟨"com/example/klepsydra/klepsydra/Decision", "degraded", "()Z"⟩ : MethodName)) (z := (⟨"com/example/klepsydra/klepsydra/Decision", "degraded", "()Z"⟩ : MethodName)) hown (mvT hZ (hw _ (List.mem_of_getElem? (i := 32) rfl))) (mvT hZ (hw _ (List.mem_of_getElem? (i := 33) rfl))) (notFace_of_selects (args := #[]) (mvT hZ (hw _ (List.mem_of_getElem? (i := 35) rfl)))) (mvT hZ (hw _ (List.mem_of_getElem? (i := 35) rfl))) (mvT hZ (hw _ (List.mem_of_getElem? (i := 34) rfl))) (by decide) (backOf (W := 0) (rm6 l Z a0 hw [] r_165 T175.heap n0 (by omega) Fc187) hZ (hw _ (List.mem_of_getElem? (i := 36) rfl)) (hw _ (List.mem_of_getElem? (i := 2) rfl)) (by decide) (by decide)) qa188 qc188 (g := (mkF m 38 #[.val (.int p0), .val (.int (0 : Int32)), .val (.ref r_165), .val (.ref r_175), .val (.int (1 : Int32)), .unset, .unset, .unset, .unset] [(.ref r_165)])) rfl (by rw [hml]; rfl) (Steps.refl _) (argsL := []) (rest := []) (lenOf pd_3 rfl) rfl (by show 2 * 0 + _ ≤ _; exact Nat.le_of_eq rfl) (hb hby at_38) (fun _ _ => ⟨rfl, e185, (by decide : 2 + 0 ≤ _), (by decide : 10 + 0 ≤ _)⟩)
    dsimp only [Pt.U, Pt.locs, Pt.cells, Pt.slots] at X188 l188 y188 z188 st188 hQ188
    subst l188 y188 z188
    obtain ⟨rfl, N188q, e188⟩ := hQ188
    have N188 := Fr.app N185 N188q
    have Fc189 := (P165_2.keep K175 nin0)
    obtain ⟨cq190, kq190, qa190, qb190, qc190⟩ := isOf hZ e188 Fc186
    obtain ⟨_, _, ⟨T190, L190, k190, n190⟩, -, X190, ⟨Lc190, hQ190, l190, y190, z190⟩, st190⟩ := X188.virtualBack hx (y := (⟨"com/example/klepsydra/klepsydra/Decision", "refusedBy", "()I"⟩ : MethodName)) (z := (⟨"com/example/klepsydra/klepsydra/Decision", "refusedBy", "()I"⟩ : MethodName)) hown (mvT hZ (hw _ (List.mem_of_getElem? (i := 37) rfl))) (mvT hZ (hw _ (List.mem_of_getElem? (i := 38) rfl))) (notFace_of_selects (args := #[]) (mvT hZ (hw _ (List.mem_of_getElem? (i := 40) rfl)))) (mvT hZ (hw _ (List.mem_of_getElem? (i := 40) rfl))) (mvT hZ (hw _ (List.mem_of_getElem? (i := 39) rfl))) (by decide) (backOf (W := 0) (rm7 l Z a0 hw [] r_165 T175.heap n0 (by omega) Fc189) hZ (hw _ (List.mem_of_getElem? (i := 41) rfl)) (hw _ (List.mem_of_getElem? (i := 2) rfl)) (by decide) (by decide)) qa190 qc190 (g := (mkF m 44 #[.val (.int p0), .val (.int (0 : Int32)), .val (.ref r_165), .val (.ref r_175), .val (.int (1 : Int32)), .val (.int (1 : Int32)), .unset, .unset, .unset] [(.ref r_165)])) rfl (by rw [hml]; rfl) (Steps.refl _) (argsL := []) (rest := []) (lenOf pd_4 rfl) rfl (by show 2 * 0 + _ ≤ _; exact Nat.le_of_eq rfl) (hb hby at_44) (fun _ _ => ⟨rfl, e188, (by decide : 2 + 0 ≤ _), (by decide : 10 + 0 ≤ _)⟩)
    dsimp only [Pt.U, Pt.locs, Pt.cells, Pt.slots] at X190 l190 y190 z190 st190 hQ190
    subst l190 y190 z190
    obtain ⟨rfl, N190q, e190⟩ := hQ190
    have N190 := Fr.app N188 N190q
    have Fc191 := (P165_4.keep K175 nin0)
    obtain ⟨cq192, kq192, qa192, qb192, qc192⟩ := isOf hZ e190 Fc186
    obtain ⟨_, _, ⟨T192, L192, k192, n192⟩, -, X192, ⟨Lc192, hQ192, l192, y192, z192⟩, st192⟩ := X190.virtualBack hx (y := (⟨"com/example/klepsydra/klepsydra/Decision", "remaining", "()J"⟩ : MethodName)) (z := (⟨"com/example/klepsydra/klepsydra/Decision", "remaining", "()J"⟩ : MethodName)) hown (mvT hZ (hw _ (List.mem_of_getElem? (i := 42) rfl))) (mvT hZ (hw _ (List.mem_of_getElem? (i := 43) rfl))) (notFace_of_selects (args := #[]) (mvT hZ (hw _ (List.mem_of_getElem? (i := 45) rfl)))) (mvT hZ (hw _ (List.mem_of_getElem? (i := 45) rfl))) (mvT hZ (hw _ (List.mem_of_getElem? (i := 44) rfl))) (by decide) (backOf (W := 0) (rm8 l Z a0 hw [] r_165 T175.heap n0 (by omega) Fc191) hZ (hw _ (List.mem_of_getElem? (i := 46) rfl)) (hw _ (List.mem_of_getElem? (i := 2) rfl)) (by decide) (by decide)) qa192 qc192 (g := (mkF m 59 #[.val (.int p0), .val (.int (0 : Int32)), .val (.ref r_165), .val (.ref r_175), .val (.int (1 : Int32)), .val (.int (1 : Int32)), .val (.int (1 : Int32)), .unset, .unset] [(.ref r_165)])) rfl (by rw [hml]; rfl) (Steps.refl _) (argsL := []) (rest := []) (lenOf pd_5 rfl) rfl (by show 2 * 0 + _ ≤ _; exact Nat.le_of_eq rfl) (hb hby at_59) (fun _ _ => ⟨rfl, e190, (by decide : 2 + 0 ≤ _), (by decide : 10 + 0 ≤ _)⟩)
    dsimp only [Pt.U, Pt.locs, Pt.cells, Pt.slots] at X192 l192 y192 z192 st192 hQ192
    subst l192 y192 z192
    obtain ⟨rfl, N192q, e192⟩ := hQ192
    have N192 := Fr.app N190 N192q
    have Fc193 := (P165_3.keep K175 nin0)
    obtain ⟨cq194, kq194, qa194, qb194, qc194⟩ := isOf hZ e192 Fc186
    obtain ⟨_, _, ⟨T194, L194, k194, n194⟩, -, X194, ⟨Lc194, hQ194, l194, y194, z194⟩, st194⟩ := X192.virtualBack hx (y := (⟨"com/example/klepsydra/klepsydra/Decision", "retryAfter", "()Ljava/time/Duration;"⟩ : MethodName)) (z := (⟨"com/example/klepsydra/klepsydra/Decision", "retryAfter", "()Ljava/time/Duration;"⟩ : MethodName)) hown (mvT hZ (hw _ (List.mem_of_getElem? (i := 47) rfl))) (mvT hZ (hw _ (List.mem_of_getElem? (i := 48) rfl))) (notFace_of_selects (args := #[]) (mvT hZ (hw _ (List.mem_of_getElem? (i := 50) rfl)))) (mvT hZ (hw _ (List.mem_of_getElem? (i := 50) rfl))) (mvT hZ (hw _ (List.mem_of_getElem? (i := 49) rfl))) (by decide) (backOf (W := 0) (rm9 l Z a0 hw [] r_165 z T175.heap n0 (by omega) Fc193) hZ (hw _ (List.mem_of_getElem? (i := 51) rfl)) (hw _ (List.mem_of_getElem? (i := 2) rfl)) (by decide) (by decide)) qa194 qc194 (g := (mkF m 75 #[.val (.int p0), .val (.int (0 : Int32)), .val (.ref r_165), .val (.ref r_175), .val (.int (1 : Int32)), .val (.int (1 : Int32)), .val (.int (1 : Int32)), .val (.int (1 : Int32)), .unset] [(.ref r_165)])) rfl (by rw [hml]; rfl) (Steps.refl _) (argsL := []) (rest := []) (lenOf pd_6 rfl) rfl (by show 2 * 0 + _ ≤ _; exact Nat.le_of_eq rfl) (hb hby at_75) (fun _ _ => ⟨rfl, e192, (by decide : 2 + 0 ≤ _), (by decide : 10 + 0 ≤ _)⟩)
    dsimp only [Pt.U, Pt.locs, Pt.cells, Pt.slots] at X194 l194 y194 z194 st194 hQ194
    subst l194 y194 z194
    obtain ⟨rfl, N194q, e194⟩ := hQ194
    have N194 := Fr.app N192 N194q
    obtain ⟨cq195, kq195, qa195, qb195, qc195⟩ := isOf hZ e194 P175_0
    obtain ⟨_, _, ⟨T195, L195, k195, n195⟩, -, X195, ⟨Lc195, hQ195, l195, y195, z195⟩, st195⟩ := X194.virtualBack hx (y := (⟨"com/example/klepsydra/klepsydra/Decision", "retryAfter", "()Ljava/time/Duration;"⟩ : MethodName)) (z := (⟨"com/example/klepsydra/klepsydra/Decision", "retryAfter", "()Ljava/time/Duration;"⟩ : MethodName)) hown (mvT hZ (hw _ (List.mem_of_getElem? (i := 47) rfl))) (mvT hZ (hw _ (List.mem_of_getElem? (i := 48) rfl))) (notFace_of_selects (args := #[]) (mvT hZ (hw _ (List.mem_of_getElem? (i := 50) rfl)))) (mvT hZ (hw _ (List.mem_of_getElem? (i := 50) rfl))) (mvT hZ (hw _ (List.mem_of_getElem? (i := 49) rfl))) (by decide) (backOf (W := 1) (rm9 l Z a0 hw [] r_175 z T175.heap n0 (by omega) P175_3) hZ (hw _ (List.mem_of_getElem? (i := 51) rfl)) (hw _ (List.mem_of_getElem? (i := 2) rfl)) (by decide) (by decide)) qa195 qc195 (g := (mkF m 79 #[.val (.int p0), .val (.int (0 : Int32)), .val (.ref r_165), .val (.ref r_175), .val (.int (1 : Int32)), .val (.int (1 : Int32)), .val (.int (1 : Int32)), .val (.int (1 : Int32)), .unset] [(.ref r_175), (.ref z)])) rfl (by rw [hml]; rfl) (Steps.refl _) (argsL := []) (rest := [(.ref z)]) (lenOf pd_6 rfl) rfl (by show 2 * 0 + _ ≤ _; exact Nat.le_of_eq rfl) (hb hby at_79) (fun _ _ => ⟨rfl, e194, (by decide : 2 + 0 ≤ _), (by decide : 10 + 0 ≤ _)⟩)
    dsimp only [Pt.U, Pt.locs, Pt.cells, Pt.slots] at X195 l195 y195 z195 st195 hQ195
    subst l195 y195 z195
    obtain ⟨rfl, N195q, e195⟩ := hQ195
    have N195 := Fr.app N194 N195q
    obtain ⟨fs, hr, hrun, hended, hW, hsame⟩ := X195.leave (v := some (.int (1 : Int32))) (fun h => by rw [Bd.returns] at h; cases h)
    refine ⟨_, _, pre163 _ ?_, hrun, hended, _, _, rfl, ?_, ⟨_, rfl⟩, hW, hsame.mono (by decide) (by decide)⟩
    · show Steps p.tables e below (s₁.setTop (mkF m 3 #[.val (.int p0), .unset, .unset, .unset, .unset, .unset, .unset, .unset, .unset] [(.int (p0 &&& (1 : Int32)))])) _
      refine XS.ifYes X0.here hx rfl (pc0 := 3) (pc' := 10) rfl (hb hby at_3) rfl ((if0 _ _).trans (teq (hc164 : (p0 &&& (1 : Int32)) = (0 : Int32))).1) (by decide) (by decide) ?_
      show Steps p.tables e below (s₁.setTop (mkF m 10 #[.val (.int p0), .unset, .unset, .unset, .unset, .unset, .unset, .unset, .unset] [])) _
      refine XS.iconst X0.here hx rfl (hb hby at_10) ?_
      show Steps p.tables e below (s₁.setTop (mkF m 11 #[.val (.int p0), .unset, .unset, .unset, .unset, .unset, .unset, .unset, .unset] [(.int (0 : Int32))])) _
      refine XS.istoreN X0.here hx rfl (hb hby at_11) rfl (l' := #[.val (.int p0), .val (.int (0 : Int32)), .unset, .unset, .unset, .unset, .unset, .unset, .unset]) rfl ?_
      show Steps p.tables e below (s₁.setTop (mkF m 12 #[.val (.int p0), .val (.int (0 : Int32)), .unset, .unset, .unset, .unset, .unset, .unset, .unset] [])) _
      refine XS.iloadN X0.here hx rfl (hb hby at_12) rfl ?_
      show Steps p.tables e below (s₁.setTop (mkF m 13 #[.val (.int p0), .val (.int (0 : Int32)), .unset, .unset, .unset, .unset, .unset, .unset, .unset] [(.int (0 : Int32))])) _
      refine st165 _ ?_
      show Steps p.tables e below (T165.setTop (mkF m 16 #[.val (.int p0), .val (.int (0 : Int32)), .unset, .unset, .unset, .unset, .unset, .unset, .unset] [(.ref r_165)])) _
      refine XS.astoreN X165.here hx rfl (hb hby at_16) rfl rfl (l' := #[.val (.int p0), .val (.int (0 : Int32)), .val (.ref r_165), .unset, .unset, .unset, .unset, .unset, .unset]) rfl ?_
      show Steps p.tables e below (T165.setTop (mkF m 17 #[.val (.int p0), .val (.int (0 : Int32)), .val (.ref r_165), .unset, .unset, .unset, .unset, .unset, .unset] [])) _
      refine XS.lconst X165.here hx rfl (hb hby at_17) ?_
      show Steps p.tables e below (T165.setTop (mkF m 18 #[.val (.int p0), .val (.int (0 : Int32)), .val (.ref r_165), .unset, .unset, .unset, .unset, .unset, .unset] [(.long (0 : Int64))])) _
      refine st175 _ ?_
      show Steps p.tables e below (T175.setTop (mkF m 21 #[.val (.int p0), .val (.int (0 : Int32)), .val (.ref r_165), .unset, .unset, .unset, .unset, .unset, .unset] [(.ref r_175)])) _
      refine XS.astoreN X175.here hx rfl (hb hby at_21) rfl rfl (l' := #[.val (.int p0), .val (.int (0 : Int32)), .val (.ref r_165), .val (.ref r_175), .unset, .unset, .unset, .unset, .unset]) rfl ?_
      show Steps p.tables e below (T175.setTop (mkF m 22 #[.val (.int p0), .val (.int (0 : Int32)), .val (.ref r_165), .val (.ref r_175), .unset, .unset, .unset, .unset, .unset] [])) _
      refine XS.aloadN X175.here hx rfl (hb hby at_22) rfl rfl ?_
      show Steps p.tables e below (T175.setTop (mkF m 23 #[.val (.int p0), .val (.int (0 : Int32)), .val (.ref r_165), .val (.ref r_175), .unset, .unset, .unset, .unset, .unset] [(.ref r_165)])) _
      refine st185.trans ?_
      show Steps p.tables e below (T185.setTop (mkF m 26 #[.val (.int p0), .val (.int (0 : Int32)), .val (.ref r_165), .val (.ref r_175), .unset, .unset, .unset, .unset, .unset] [(.int (0 : Int32))])) _
      refine XS.iloadN X185.here hx rfl (hb hby at_26) rfl ?_
      show Steps p.tables e below (T185.setTop (mkF m 27 #[.val (.int p0), .val (.int (0 : Int32)), .val (.ref r_165), .val (.ref r_175), .unset, .unset, .unset, .unset, .unset] [(.int (0 : Int32)), (.int (0 : Int32))])) _
      refine XS.icmpNo X185.here hx rfl (hb hby at_27) rfl (teq (by decide : (0 : Int32) = (0 : Int32))).2 ?_
      show Steps p.tables e below (T185.setTop (mkF m 30 #[.val (.int p0), .val (.int (0 : Int32)), .val (.ref r_165), .val (.ref r_175), .unset, .unset, .unset, .unset, .unset] [])) _
      refine XS.iconst X185.here hx rfl (hb hby at_30) ?_
      show Steps p.tables e below (T185.setTop (mkF m 31 #[.val (.int p0), .val (.int (0 : Int32)), .val (.ref r_165), .val (.ref r_175), .unset, .unset, .unset, .unset, .unset] [(.int (1 : Int32))])) _
      refine XS.goto X185.here hx rfl (pc0 := 31) (pc' := 35) rfl (hb hby at_31) (by decide) (by decide) ?_
      show Steps p.tables e below (T185.setTop (mkF m 35 #[.val (.int p0), .val (.int (0 : Int32)), .val (.ref r_165), .val (.ref r_175), .unset, .unset, .unset, .unset, .unset] [(.int (1 : Int32))])) _
      refine XS.istore X185.here hx rfl (hb hby at_35) rfl (l' := #[.val (.int p0), .val (.int (0 : Int32)), .val (.ref r_165), .val (.ref r_175), .val (.int (1 : Int32)), .unset, .unset, .unset, .unset]) rfl ?_
      show Steps p.tables e below (T185.setTop (mkF m 37 #[.val (.int p0), .val (.int (0 : Int32)), .val (.ref r_165), .val (.ref r_175), .val (.int (1 : Int32)), .unset, .unset, .unset, .unset] [])) _
      refine XS.aloadN X185.here hx rfl (hb hby at_37) rfl rfl ?_
      show Steps p.tables e below (T185.setTop (mkF m 38 #[.val (.int p0), .val (.int (0 : Int32)), .val (.ref r_165), .val (.ref r_175), .val (.int (1 : Int32)), .unset, .unset, .unset, .unset] [(.ref r_165)])) _
      refine st188.trans ?_
      show Steps p.tables e below (T188.setTop (mkF m 41 #[.val (.int p0), .val (.int (0 : Int32)), .val (.ref r_165), .val (.ref r_175), .val (.int (1 : Int32)), .unset, .unset, .unset, .unset] [(.int (1 : Int32))])) _
      refine XS.istore X188.here hx rfl (hb hby at_41) rfl (l' := #[.val (.int p0), .val (.int (0 : Int32)), .val (.ref r_165), .val (.ref r_175), .val (.int (1 : Int32)), .val (.int (1 : Int32)), .unset, .unset, .unset]) rfl ?_
      show Steps p.tables e below (T188.setTop (mkF m 43 #[.val (.int p0), .val (.int (0 : Int32)), .val (.ref r_165), .val (.ref r_175), .val (.int (1 : Int32)), .val (.int (1 : Int32)), .unset, .unset, .unset] [])) _
      refine XS.aloadN X188.here hx rfl (hb hby at_43) rfl rfl ?_
      show Steps p.tables e below (T188.setTop (mkF m 44 #[.val (.int p0), .val (.int (0 : Int32)), .val (.ref r_165), .val (.ref r_175), .val (.int (1 : Int32)), .val (.int (1 : Int32)), .unset, .unset, .unset] [(.ref r_165)])) _
      refine st190.trans ?_
      show Steps p.tables e below (T190.setTop (mkF m 47 #[.val (.int p0), .val (.int (0 : Int32)), .val (.ref r_165), .val (.ref r_175), .val (.int (1 : Int32)), .val (.int (1 : Int32)), .unset, .unset, .unset] [(.int (-1 : Int32))])) _
      refine XS.iconst X190.here hx rfl (hb hby at_47) ?_
      show Steps p.tables e below (T190.setTop (mkF m 48 #[.val (.int p0), .val (.int (0 : Int32)), .val (.ref r_165), .val (.ref r_175), .val (.int (1 : Int32)), .val (.int (1 : Int32)), .unset, .unset, .unset] [(.int (-1 : Int32)), (.int (-1 : Int32))])) _
      refine XS.icmpNo X190.here hx rfl (hb hby at_48) rfl (teq (by decide : (-1 : Int32) = (-1 : Int32))).2 ?_
      show Steps p.tables e below (T190.setTop (mkF m 51 #[.val (.int p0), .val (.int (0 : Int32)), .val (.ref r_165), .val (.ref r_175), .val (.int (1 : Int32)), .val (.int (1 : Int32)), .unset, .unset, .unset] [])) _
      refine XS.iconst X190.here hx rfl (hb hby at_51) ?_
      show Steps p.tables e below (T190.setTop (mkF m 52 #[.val (.int p0), .val (.int (0 : Int32)), .val (.ref r_165), .val (.ref r_175), .val (.int (1 : Int32)), .val (.int (1 : Int32)), .unset, .unset, .unset] [(.int (1 : Int32))])) _
      refine XS.goto X190.here hx rfl (pc0 := 52) (pc' := 56) rfl (hb hby at_52) (by decide) (by decide) ?_
      show Steps p.tables e below (T190.setTop (mkF m 56 #[.val (.int p0), .val (.int (0 : Int32)), .val (.ref r_165), .val (.ref r_175), .val (.int (1 : Int32)), .val (.int (1 : Int32)), .unset, .unset, .unset] [(.int (1 : Int32))])) _
      refine XS.istore X190.here hx rfl (hb hby at_56) rfl (l' := #[.val (.int p0), .val (.int (0 : Int32)), .val (.ref r_165), .val (.ref r_175), .val (.int (1 : Int32)), .val (.int (1 : Int32)), .val (.int (1 : Int32)), .unset, .unset]) rfl ?_
      show Steps p.tables e below (T190.setTop (mkF m 58 #[.val (.int p0), .val (.int (0 : Int32)), .val (.ref r_165), .val (.ref r_175), .val (.int (1 : Int32)), .val (.int (1 : Int32)), .val (.int (1 : Int32)), .unset, .unset] [])) _
      refine XS.aloadN X190.here hx rfl (hb hby at_58) rfl rfl ?_
      show Steps p.tables e below (T190.setTop (mkF m 59 #[.val (.int p0), .val (.int (0 : Int32)), .val (.ref r_165), .val (.ref r_175), .val (.int (1 : Int32)), .val (.int (1 : Int32)), .val (.int (1 : Int32)), .unset, .unset] [(.ref r_165)])) _
      refine st192.trans ?_
      show Steps p.tables e below (T192.setTop (mkF m 62 #[.val (.int p0), .val (.int (0 : Int32)), .val (.ref r_165), .val (.ref r_175), .val (.int (1 : Int32)), .val (.int (1 : Int32)), .val (.int (1 : Int32)), .unset, .unset] [(.long (0 : Int64))])) _
      refine XS.lconst X192.here hx rfl (hb hby at_62) ?_
      show Steps p.tables e below (T192.setTop (mkF m 63 #[.val (.int p0), .val (.int (0 : Int32)), .val (.ref r_165), .val (.ref r_175), .val (.int (1 : Int32)), .val (.int (1 : Int32)), .val (.int (1 : Int32)), .unset, .unset] [(.long (0 : Int64)), (.long (0 : Int64))])) _
      refine XS.lcmp X192.here hx rfl (hb hby at_63) rfl ?_
      show Steps p.tables e below (T192.setTop (mkF m 64 #[.val (.int p0), .val (.int (0 : Int32)), .val (.ref r_165), .val (.ref r_175), .val (.int (1 : Int32)), .val (.int (1 : Int32)), .val (.int (1 : Int32)), .unset, .unset] [(.int (lcmpW (0 : Int64) (0 : Int64)))])) _
      refine XS.ifNo X192.here hx rfl (hb hby at_64) rfl ((if0 _ _).trans (teq (((lw_eq (0 : Int64) (0 : Int64)).mpr (by decide : ((0 : Int64) = (0 : Int64)))) : (lcmpW (0 : Int64) (0 : Int64)) = (0 : Int32))).2) ?_
      show Steps p.tables e below (T192.setTop (mkF m 67 #[.val (.int p0), .val (.int (0 : Int32)), .val (.ref r_165), .val (.ref r_175), .val (.int (1 : Int32)), .val (.int (1 : Int32)), .val (.int (1 : Int32)), .unset, .unset] [])) _
      refine XS.iconst X192.here hx rfl (hb hby at_67) ?_
      show Steps p.tables e below (T192.setTop (mkF m 68 #[.val (.int p0), .val (.int (0 : Int32)), .val (.ref r_165), .val (.ref r_175), .val (.int (1 : Int32)), .val (.int (1 : Int32)), .val (.int (1 : Int32)), .unset, .unset] [(.int (1 : Int32))])) _
      refine XS.goto X192.here hx rfl (pc0 := 68) (pc' := 72) rfl (hb hby at_68) (by decide) (by decide) ?_
      show Steps p.tables e below (T192.setTop (mkF m 72 #[.val (.int p0), .val (.int (0 : Int32)), .val (.ref r_165), .val (.ref r_175), .val (.int (1 : Int32)), .val (.int (1 : Int32)), .val (.int (1 : Int32)), .unset, .unset] [(.int (1 : Int32))])) _
      refine XS.istore X192.here hx rfl (hb hby at_72) rfl (l' := #[.val (.int p0), .val (.int (0 : Int32)), .val (.ref r_165), .val (.ref r_175), .val (.int (1 : Int32)), .val (.int (1 : Int32)), .val (.int (1 : Int32)), .val (.int (1 : Int32)), .unset]) rfl ?_
      show Steps p.tables e below (T192.setTop (mkF m 74 #[.val (.int p0), .val (.int (0 : Int32)), .val (.ref r_165), .val (.ref r_175), .val (.int (1 : Int32)), .val (.int (1 : Int32)), .val (.int (1 : Int32)), .val (.int (1 : Int32)), .unset] [])) _
      refine XS.aloadN X192.here hx rfl (hb hby at_74) rfl rfl ?_
      show Steps p.tables e below (T192.setTop (mkF m 75 #[.val (.int p0), .val (.int (0 : Int32)), .val (.ref r_165), .val (.ref r_175), .val (.int (1 : Int32)), .val (.int (1 : Int32)), .val (.int (1 : Int32)), .val (.int (1 : Int32)), .unset] [(.ref r_165)])) _
      refine st194.trans ?_
      show Steps p.tables e below (T194.setTop (mkF m 78 #[.val (.int p0), .val (.int (0 : Int32)), .val (.ref r_165), .val (.ref r_175), .val (.int (1 : Int32)), .val (.int (1 : Int32)), .val (.int (1 : Int32)), .val (.int (1 : Int32)), .unset] [(.ref z)])) _
      refine XS.aloadN X194.here hx rfl (hb hby at_78) rfl rfl ?_
      show Steps p.tables e below (T194.setTop (mkF m 79 #[.val (.int p0), .val (.int (0 : Int32)), .val (.ref r_165), .val (.ref r_175), .val (.int (1 : Int32)), .val (.int (1 : Int32)), .val (.int (1 : Int32)), .val (.int (1 : Int32)), .unset] [(.ref r_175), (.ref z)])) _
      refine st195.trans ?_
      show Steps p.tables e below (T195.setTop (mkF m 82 #[.val (.int p0), .val (.int (0 : Int32)), .val (.ref r_165), .val (.ref r_175), .val (.int (1 : Int32)), .val (.int (1 : Int32)), .val (.int (1 : Int32)), .val (.int (1 : Int32)), .unset] [(.ref z), (.ref z)])) _
      refine Jvm.RoadKit.acmp (g := (mkF m 82 #[.val (.int p0), .val (.int (0 : Int32)), .val (.ref r_165), .val (.ref r_175), .val (.int (1 : Int32)), .val (.int (1 : Int32)), .val (.int (1 : Int32)), .val (.int (1 : Int32)), .unset] [(.ref z), (.ref z)])) X195 hx rfl rfl rfl (pc0 := 82) (pc' := 85) (same := true) rfl (hb hby at_82) rfl (decide_eq_true rfl) (by decide) (by decide) ?_
      show Steps p.tables e below (T195.setTop (mkF m 85 #[.val (.int p0), .val (.int (0 : Int32)), .val (.ref r_165), .val (.ref r_175), .val (.int (1 : Int32)), .val (.int (1 : Int32)), .val (.int (1 : Int32)), .val (.int (1 : Int32)), .unset] [])) _
      refine XS.iconst X195.here hx rfl (hb hby at_85) ?_
      show Steps p.tables e below (T195.setTop (mkF m 86 #[.val (.int p0), .val (.int (0 : Int32)), .val (.ref r_165), .val (.ref r_175), .val (.int (1 : Int32)), .val (.int (1 : Int32)), .val (.int (1 : Int32)), .val (.int (1 : Int32)), .unset] [(.int (1 : Int32))])) _
      refine XS.goto X195.here hx rfl (pc0 := 86) (pc' := 90) rfl (hb hby at_86) (by decide) (by decide) ?_
      show Steps p.tables e below (T195.setTop (mkF m 90 #[.val (.int p0), .val (.int (0 : Int32)), .val (.ref r_165), .val (.ref r_175), .val (.int (1 : Int32)), .val (.int (1 : Int32)), .val (.int (1 : Int32)), .val (.int (1 : Int32)), .unset] [(.int (1 : Int32))])) _
      refine XS.istore X195.here hx rfl (hb hby at_90) rfl (l' := #[.val (.int p0), .val (.int (0 : Int32)), .val (.ref r_165), .val (.ref r_175), .val (.int (1 : Int32)), .val (.int (1 : Int32)), .val (.int (1 : Int32)), .val (.int (1 : Int32)), .val (.int (1 : Int32))]) rfl ?_
      show Steps p.tables e below (T195.setTop (mkF m 92 #[.val (.int p0), .val (.int (0 : Int32)), .val (.ref r_165), .val (.ref r_175), .val (.int (1 : Int32)), .val (.int (1 : Int32)), .val (.int (1 : Int32)), .val (.int (1 : Int32)), .val (.int (1 : Int32))] [])) _
      refine XS.iload X195.here hx rfl (hb hby at_92) rfl ?_
      show Steps p.tables e below (T195.setTop (mkF m 94 #[.val (.int p0), .val (.int (0 : Int32)), .val (.ref r_165), .val (.ref r_175), .val (.int (1 : Int32)), .val (.int (1 : Int32)), .val (.int (1 : Int32)), .val (.int (1 : Int32)), .val (.int (1 : Int32))] [(.int (1 : Int32))])) _
      refine XS.ifNo X195.here hx rfl (hb hby at_94) rfl ((if0 _ _).trans (feq (by decide : ¬ ((1 : Int32) = (0 : Int32)))).1) ?_
      show Steps p.tables e below (T195.setTop (mkF m 97 #[.val (.int p0), .val (.int (0 : Int32)), .val (.ref r_165), .val (.ref r_175), .val (.int (1 : Int32)), .val (.int (1 : Int32)), .val (.int (1 : Int32)), .val (.int (1 : Int32)), .val (.int (1 : Int32))] [])) _
      refine XS.iload X195.here hx rfl (hb hby at_97) rfl ?_
      show Steps p.tables e below (T195.setTop (mkF m 99 #[.val (.int p0), .val (.int (0 : Int32)), .val (.ref r_165), .val (.ref r_175), .val (.int (1 : Int32)), .val (.int (1 : Int32)), .val (.int (1 : Int32)), .val (.int (1 : Int32)), .val (.int (1 : Int32))] [(.int (1 : Int32))])) _
      refine XS.ifNo X195.here hx rfl (hb hby at_99) rfl ((if0 _ _).trans (feq (by decide : ¬ ((1 : Int32) = (0 : Int32)))).1) ?_
      show Steps p.tables e below (T195.setTop (mkF m 102 #[.val (.int p0), .val (.int (0 : Int32)), .val (.ref r_165), .val (.ref r_175), .val (.int (1 : Int32)), .val (.int (1 : Int32)), .val (.int (1 : Int32)), .val (.int (1 : Int32)), .val (.int (1 : Int32))] [])) _
      refine XS.iload X195.here hx rfl (hb hby at_102) rfl ?_
      show Steps p.tables e below (T195.setTop (mkF m 104 #[.val (.int p0), .val (.int (0 : Int32)), .val (.ref r_165), .val (.ref r_175), .val (.int (1 : Int32)), .val (.int (1 : Int32)), .val (.int (1 : Int32)), .val (.int (1 : Int32)), .val (.int (1 : Int32))] [(.int (1 : Int32))])) _
      refine XS.ifNo X195.here hx rfl (hb hby at_104) rfl ((if0 _ _).trans (feq (by decide : ¬ ((1 : Int32) = (0 : Int32)))).1) ?_
      show Steps p.tables e below (T195.setTop (mkF m 107 #[.val (.int p0), .val (.int (0 : Int32)), .val (.ref r_165), .val (.ref r_175), .val (.int (1 : Int32)), .val (.int (1 : Int32)), .val (.int (1 : Int32)), .val (.int (1 : Int32)), .val (.int (1 : Int32))] [])) _
      refine XS.iload X195.here hx rfl (hb hby at_107) rfl ?_
      show Steps p.tables e below (T195.setTop (mkF m 109 #[.val (.int p0), .val (.int (0 : Int32)), .val (.ref r_165), .val (.ref r_175), .val (.int (1 : Int32)), .val (.int (1 : Int32)), .val (.int (1 : Int32)), .val (.int (1 : Int32)), .val (.int (1 : Int32))] [(.int (1 : Int32))])) _
      refine XS.ifNo X195.here hx rfl (hb hby at_109) rfl ((if0 _ _).trans (feq (by decide : ¬ ((1 : Int32) = (0 : Int32)))).1) ?_
      show Steps p.tables e below (T195.setTop (mkF m 112 #[.val (.int p0), .val (.int (0 : Int32)), .val (.ref r_165), .val (.ref r_175), .val (.int (1 : Int32)), .val (.int (1 : Int32)), .val (.int (1 : Int32)), .val (.int (1 : Int32)), .val (.int (1 : Int32))] [])) _
      refine XS.iload X195.here hx rfl (hb hby at_112) rfl ?_
      show Steps p.tables e below (T195.setTop (mkF m 114 #[.val (.int p0), .val (.int (0 : Int32)), .val (.ref r_165), .val (.ref r_175), .val (.int (1 : Int32)), .val (.int (1 : Int32)), .val (.int (1 : Int32)), .val (.int (1 : Int32)), .val (.int (1 : Int32))] [(.int (1 : Int32))])) _
      refine XS.ifNo X195.here hx rfl (hb hby at_114) rfl ((if0 _ _).trans (feq (by decide : ¬ ((1 : Int32) = (0 : Int32)))).1) ?_
      show Steps p.tables e below (T195.setTop (mkF m 117 #[.val (.int p0), .val (.int (0 : Int32)), .val (.ref r_165), .val (.ref r_175), .val (.int (1 : Int32)), .val (.int (1 : Int32)), .val (.int (1 : Int32)), .val (.int (1 : Int32)), .val (.int (1 : Int32))] [])) _
      refine XS.iconst X195.here hx rfl (hb hby at_117) ?_
      show Steps p.tables e below (T195.setTop (mkF m 118 #[.val (.int p0), .val (.int (0 : Int32)), .val (.ref r_165), .val (.ref r_175), .val (.int (1 : Int32)), .val (.int (1 : Int32)), .val (.int (1 : Int32)), .val (.int (1 : Int32)), .val (.int (1 : Int32))] [(.int (1 : Int32))])) _
      refine XS.goto X195.here hx rfl (pc0 := 118) (pc' := 122) rfl (hb hby at_118) (by decide) (by decide) ?_
      show Steps p.tables e below (T195.setTop (mkF m 122 #[.val (.int p0), .val (.int (0 : Int32)), .val (.ref r_165), .val (.ref r_175), .val (.int (1 : Int32)), .val (.int (1 : Int32)), .val (.int (1 : Int32)), .val (.int (1 : Int32)), .val (.int (1 : Int32))] [(.int (1 : Int32))])) _
      exact retN X195 hx (t := .boolean) Bd.returns (by simp) (hb hby at_122) hr
    · show Qrm0 Z p0 z h0 n0 _ T195.heap _
      rw [e195]
      exact ⟨rfl, N195, KC177⟩
  · obtain ⟨_, _, ⟨T196, L196, k196, n196⟩, -, X196, ⟨Lc196, hQ196, l196, y196, z196⟩, st196⟩ := Jvm.LawKit.callS X0 hx (y := (⟨"com/example/klepsydra/klepsydra/Decision", "degraded", "(Z)Lcom/example/klepsydra/klepsydra/Decision;"⟩ : MethodName)) hown (mvT hZ (hw _ (List.mem_of_getElem? (i := 0) rfl))) (mvT hZ (hw _ (List.mem_of_getElem? (i := 1) rfl))) (mvT hZ (hw _ (List.mem_of_getElem? (i := 2) rfl))) (mvT hZ (hw _ (List.mem_of_getElem? (i := 3) rfl))) (by decide) (backOf (W := 0) (rm11 l Z a0 hw [] z h0 n0 (by omega) H0) hZ (hw _ (List.mem_of_getElem? (i := 3) rfl)) (hw _ (List.mem_of_getElem? (i := 2) rfl)) (by decide) (by decide)) (g := (mkF m 13 #[.val (.int p0), .val (.int (1 : Int32)), .unset, .unset, .unset, .unset, .unset, .unset, .unset] [(.int (1 : Int32))])) rfl (by rw [hml]; rfl) (argsL := [(.int (1 : Int32))]) (rest := []) (lenOf pd_1 rfl) rfl (by show 2 * 0 + _ ≤ _; exact Nat.le_of_eq rfl) (hb hby at_13) (fun _ _ => ⟨rfl, e0, (by decide : 0 + 1 ≤ _), (by decide : 0 + 5 ≤ _)⟩)
    dsimp only [Pt.U, Pt.locs, Pt.cells, Pt.slots] at X196 l196 y196 z196 st196 hQ196
    subst l196 y196 z196
    obtain ⟨r_196, rfl, N196q, K196, P196_0, P196_1, P196_2, P196_3, P196_4, P196_5, P196_6⟩ := hQ196
    have N196 := Fr.app N0 N196q
    have z197 := K196.1
    have KC198 : Keep h0 T196.heap [] := KC0.trans K196 all0
    have z199 := P196_0.lt
    have z200 := P196_1.lt
    have z201 := P196_2.lt
    have z202 := P196_3.lt
    have z203 := P196_4.lt
    have z204 := P196_5.lt
    have Fc205 := (H0.ext (own_ext K196))
    obtain ⟨_, _, ⟨T206, L206, k206, n206⟩, -, X206, ⟨Lc206, hQ206, l206, y206, z206⟩, st206⟩ := Jvm.LawKit.callS X196 hx (y := (⟨"com/example/klepsydra/klepsydra/Decision", "granted", "(J)Lcom/example/klepsydra/klepsydra/Decision;"⟩ : MethodName)) hown (mvT hZ (hw _ (List.mem_of_getElem? (i := 24) rfl))) (mvT hZ (hw _ (List.mem_of_getElem? (i := 25) rfl))) (mvT hZ (hw _ (List.mem_of_getElem? (i := 2) rfl))) (mvT hZ (hw _ (List.mem_of_getElem? (i := 26) rfl))) (by decide) (backOf (W := 0) (rm4 l Z a0 hw [] z T196.heap n0 (by omega) Fc205) hZ (hw _ (List.mem_of_getElem? (i := 26) rfl)) (hw _ (List.mem_of_getElem? (i := 2) rfl)) (by decide) (by decide)) (g := (mkF m 18 #[.val (.int p0), .val (.int (1 : Int32)), .val (.ref r_196), .unset, .unset, .unset, .unset, .unset, .unset] [(.long (0 : Int64))])) rfl (by rw [hml]; rfl) (argsL := [(.long (0 : Int64))]) (rest := []) (lenOf pd_2 rfl) rfl (by show 2 * 0 + _ ≤ _; exact Nat.le_of_eq rfl) (hb hby at_18) (fun _ _ => ⟨rfl, rfl, (by decide : 1 + 1 ≤ _), (by decide : 5 + 5 ≤ _)⟩)
    dsimp only [Pt.U, Pt.locs, Pt.cells, Pt.slots] at X206 l206 y206 z206 st206 hQ206
    subst l206 y206 z206
    obtain ⟨r_206, rfl, N206q, K206, P206_0, P206_1, P206_2, P206_3, P206_4, P206_5, P206_6⟩ := hQ206
    have N206 := Fr.app N196 N206q
    have z207 := K206.1
    have KC208 : Keep h0 T206.heap [] := KC198.trans K206 all0
    have z209 := P206_0.lt
    have z210 := P206_1.lt
    have z211 := P206_2.lt
    have z212 := P206_3.lt
    have z213 := P206_4.lt
    have z214 := P206_5.lt
    have Fc215 := (P196_1.keep K206 nin0)
    have Fc217 := (P196_0.keep K206)
    obtain ⟨cq216, kq216, qa216, qb216, qc216⟩ := isOf hZ rfl Fc217
    obtain ⟨_, _, ⟨T216, L216, k216, n216⟩, -, X216, ⟨Lc216, hQ216, l216, y216, z216⟩, st216⟩ := X206.virtualBack hx (y := (⟨"com/example/klepsydra/klepsydra/Decision", "granted", "()Z"⟩ : MethodName)) (z := (⟨"com/example/klepsydra/klepsydra/Decision", "granted", "()Z"⟩ : MethodName)) hown (mvT hZ (hw _ (List.mem_of_getElem? (i := 27) rfl))) (mvT hZ (hw _ (List.mem_of_getElem? (i := 28) rfl))) (notFace_of_selects (args := #[]) (mvT hZ (hw _ (List.mem_of_getElem? (i := 30) rfl)))) (mvT hZ (hw _ (List.mem_of_getElem? (i := 30) rfl))) (mvT hZ (hw _ (List.mem_of_getElem? (i := 29) rfl))) (by decide) (backOf (W := 0) (rm51 l Z a0 hw [] r_196 T206.heap n0 (by omega) Fc215) hZ (hw _ (List.mem_of_getElem? (i := 31) rfl)) (hw _ (List.mem_of_getElem? (i := 2) rfl)) (by decide) (by decide)) qa216 qc216 (g := (mkF m 23 #[.val (.int p0), .val (.int (1 : Int32)), .val (.ref r_196), .val (.ref r_206), .unset, .unset, .unset, .unset, .unset] [(.ref r_196)])) rfl (by rw [hml]; rfl) (Steps.refl _) (argsL := []) (rest := []) (lenOf pd_3 rfl) rfl (by show 2 * 0 + _ ≤ _; exact Nat.le_of_eq rfl) (hb hby at_23) (fun _ _ => ⟨rfl, rfl, (by decide : 2 + 0 ≤ _), (by decide : 10 + 0 ≤ _)⟩)
    dsimp only [Pt.U, Pt.locs, Pt.cells, Pt.slots] at X216 l216 y216 z216 st216 hQ216
    subst l216 y216 z216
    obtain ⟨rfl, N216q, e216⟩ := hQ216
    have N216 := Fr.app N206 N216q
    have Fc218 := (P196_5.keep K206 nin0)
    obtain ⟨cq219, kq219, qa219, qb219, qc219⟩ := isOf hZ e216 Fc217
    obtain ⟨_, _, ⟨T219, L219, k219, n219⟩, -, X219, ⟨Lc219, hQ219, l219, y219, z219⟩, st219⟩ := X216.virtualBack hx (y := (⟨"com/example/klepsydra/klepsydra/Decision", "degraded", "()Z"⟩ : MethodName)) (z := (⟨"com/example/klepsydra/klepsydra/Decision", "degraded", "()Z"⟩ : MethodName)) hown (mvT hZ (hw _ (List.mem_of_getElem? (i := 32) rfl))) (mvT hZ (hw _ (List.mem_of_getElem? (i := 33) rfl))) (notFace_of_selects (args := #[]) (mvT hZ (hw _ (List.mem_of_getElem? (i := 35) rfl)))) (mvT hZ (hw _ (List.mem_of_getElem? (i := 35) rfl))) (mvT hZ (hw _ (List.mem_of_getElem? (i := 34) rfl))) (by decide) (backOf (W := 0) (rm6 l Z a0 hw [] r_196 T206.heap n0 (by omega) Fc218) hZ (hw _ (List.mem_of_getElem? (i := 36) rfl)) (hw _ (List.mem_of_getElem? (i := 2) rfl)) (by decide) (by decide)) qa219 qc219 (g := (mkF m 38 #[.val (.int p0), .val (.int (1 : Int32)), .val (.ref r_196), .val (.ref r_206), .val (.int (1 : Int32)), .unset, .unset, .unset, .unset] [(.ref r_196)])) rfl (by rw [hml]; rfl) (Steps.refl _) (argsL := []) (rest := []) (lenOf pd_3 rfl) rfl (by show 2 * 0 + _ ≤ _; exact Nat.le_of_eq rfl) (hb hby at_38) (fun _ _ => ⟨rfl, e216, (by decide : 2 + 0 ≤ _), (by decide : 10 + 0 ≤ _)⟩)
    dsimp only [Pt.U, Pt.locs, Pt.cells, Pt.slots] at X219 l219 y219 z219 st219 hQ219
    subst l219 y219 z219
    obtain ⟨rfl, N219q, e219⟩ := hQ219
    have N219 := Fr.app N216 N219q
    have Fc220 := (P196_2.keep K206 nin0)
    obtain ⟨cq221, kq221, qa221, qb221, qc221⟩ := isOf hZ e219 Fc217
    obtain ⟨_, _, ⟨T221, L221, k221, n221⟩, -, X221, ⟨Lc221, hQ221, l221, y221, z221⟩, st221⟩ := X219.virtualBack hx (y := (⟨"com/example/klepsydra/klepsydra/Decision", "refusedBy", "()I"⟩ : MethodName)) (z := (⟨"com/example/klepsydra/klepsydra/Decision", "refusedBy", "()I"⟩ : MethodName)) hown (mvT hZ (hw _ (List.mem_of_getElem? (i := 37) rfl))) (mvT hZ (hw _ (List.mem_of_getElem? (i := 38) rfl))) (notFace_of_selects (args := #[]) (mvT hZ (hw _ (List.mem_of_getElem? (i := 40) rfl)))) (mvT hZ (hw _ (List.mem_of_getElem? (i := 40) rfl))) (mvT hZ (hw _ (List.mem_of_getElem? (i := 39) rfl))) (by decide) (backOf (W := 0) (rm7 l Z a0 hw [] r_196 T206.heap n0 (by omega) Fc220) hZ (hw _ (List.mem_of_getElem? (i := 41) rfl)) (hw _ (List.mem_of_getElem? (i := 2) rfl)) (by decide) (by decide)) qa221 qc221 (g := (mkF m 44 #[.val (.int p0), .val (.int (1 : Int32)), .val (.ref r_196), .val (.ref r_206), .val (.int (1 : Int32)), .val (.int (1 : Int32)), .unset, .unset, .unset] [(.ref r_196)])) rfl (by rw [hml]; rfl) (Steps.refl _) (argsL := []) (rest := []) (lenOf pd_4 rfl) rfl (by show 2 * 0 + _ ≤ _; exact Nat.le_of_eq rfl) (hb hby at_44) (fun _ _ => ⟨rfl, e219, (by decide : 2 + 0 ≤ _), (by decide : 10 + 0 ≤ _)⟩)
    dsimp only [Pt.U, Pt.locs, Pt.cells, Pt.slots] at X221 l221 y221 z221 st221 hQ221
    subst l221 y221 z221
    obtain ⟨rfl, N221q, e221⟩ := hQ221
    have N221 := Fr.app N219 N221q
    have Fc222 := (P196_4.keep K206 nin0)
    obtain ⟨cq223, kq223, qa223, qb223, qc223⟩ := isOf hZ e221 Fc217
    obtain ⟨_, _, ⟨T223, L223, k223, n223⟩, -, X223, ⟨Lc223, hQ223, l223, y223, z223⟩, st223⟩ := X221.virtualBack hx (y := (⟨"com/example/klepsydra/klepsydra/Decision", "remaining", "()J"⟩ : MethodName)) (z := (⟨"com/example/klepsydra/klepsydra/Decision", "remaining", "()J"⟩ : MethodName)) hown (mvT hZ (hw _ (List.mem_of_getElem? (i := 42) rfl))) (mvT hZ (hw _ (List.mem_of_getElem? (i := 43) rfl))) (notFace_of_selects (args := #[]) (mvT hZ (hw _ (List.mem_of_getElem? (i := 45) rfl)))) (mvT hZ (hw _ (List.mem_of_getElem? (i := 45) rfl))) (mvT hZ (hw _ (List.mem_of_getElem? (i := 44) rfl))) (by decide) (backOf (W := 0) (rm8 l Z a0 hw [] r_196 T206.heap n0 (by omega) Fc222) hZ (hw _ (List.mem_of_getElem? (i := 46) rfl)) (hw _ (List.mem_of_getElem? (i := 2) rfl)) (by decide) (by decide)) qa223 qc223 (g := (mkF m 59 #[.val (.int p0), .val (.int (1 : Int32)), .val (.ref r_196), .val (.ref r_206), .val (.int (1 : Int32)), .val (.int (1 : Int32)), .val (.int (1 : Int32)), .unset, .unset] [(.ref r_196)])) rfl (by rw [hml]; rfl) (Steps.refl _) (argsL := []) (rest := []) (lenOf pd_5 rfl) rfl (by show 2 * 0 + _ ≤ _; exact Nat.le_of_eq rfl) (hb hby at_59) (fun _ _ => ⟨rfl, e221, (by decide : 2 + 0 ≤ _), (by decide : 10 + 0 ≤ _)⟩)
    dsimp only [Pt.U, Pt.locs, Pt.cells, Pt.slots] at X223 l223 y223 z223 st223 hQ223
    subst l223 y223 z223
    obtain ⟨rfl, N223q, e223⟩ := hQ223
    have N223 := Fr.app N221 N223q
    have Fc224 := (P196_3.keep K206 nin0)
    obtain ⟨cq225, kq225, qa225, qb225, qc225⟩ := isOf hZ e223 Fc217
    obtain ⟨_, _, ⟨T225, L225, k225, n225⟩, -, X225, ⟨Lc225, hQ225, l225, y225, z225⟩, st225⟩ := X223.virtualBack hx (y := (⟨"com/example/klepsydra/klepsydra/Decision", "retryAfter", "()Ljava/time/Duration;"⟩ : MethodName)) (z := (⟨"com/example/klepsydra/klepsydra/Decision", "retryAfter", "()Ljava/time/Duration;"⟩ : MethodName)) hown (mvT hZ (hw _ (List.mem_of_getElem? (i := 47) rfl))) (mvT hZ (hw _ (List.mem_of_getElem? (i := 48) rfl))) (notFace_of_selects (args := #[]) (mvT hZ (hw _ (List.mem_of_getElem? (i := 50) rfl)))) (mvT hZ (hw _ (List.mem_of_getElem? (i := 50) rfl))) (mvT hZ (hw _ (List.mem_of_getElem? (i := 49) rfl))) (by decide) (backOf (W := 0) (rm9 l Z a0 hw [] r_196 z T206.heap n0 (by omega) Fc224) hZ (hw _ (List.mem_of_getElem? (i := 51) rfl)) (hw _ (List.mem_of_getElem? (i := 2) rfl)) (by decide) (by decide)) qa225 qc225 (g := (mkF m 75 #[.val (.int p0), .val (.int (1 : Int32)), .val (.ref r_196), .val (.ref r_206), .val (.int (1 : Int32)), .val (.int (1 : Int32)), .val (.int (1 : Int32)), .val (.int (1 : Int32)), .unset] [(.ref r_196)])) rfl (by rw [hml]; rfl) (Steps.refl _) (argsL := []) (rest := []) (lenOf pd_6 rfl) rfl (by show 2 * 0 + _ ≤ _; exact Nat.le_of_eq rfl) (hb hby at_75) (fun _ _ => ⟨rfl, e223, (by decide : 2 + 0 ≤ _), (by decide : 10 + 0 ≤ _)⟩)
    dsimp only [Pt.U, Pt.locs, Pt.cells, Pt.slots] at X225 l225 y225 z225 st225 hQ225
    subst l225 y225 z225
    obtain ⟨rfl, N225q, e225⟩ := hQ225
    have N225 := Fr.app N223 N225q
    obtain ⟨cq226, kq226, qa226, qb226, qc226⟩ := isOf hZ e225 P206_0
    obtain ⟨_, _, ⟨T226, L226, k226, n226⟩, -, X226, ⟨Lc226, hQ226, l226, y226, z226⟩, st226⟩ := X225.virtualBack hx (y := (⟨"com/example/klepsydra/klepsydra/Decision", "retryAfter", "()Ljava/time/Duration;"⟩ : MethodName)) (z := (⟨"com/example/klepsydra/klepsydra/Decision", "retryAfter", "()Ljava/time/Duration;"⟩ : MethodName)) hown (mvT hZ (hw _ (List.mem_of_getElem? (i := 47) rfl))) (mvT hZ (hw _ (List.mem_of_getElem? (i := 48) rfl))) (notFace_of_selects (args := #[]) (mvT hZ (hw _ (List.mem_of_getElem? (i := 50) rfl)))) (mvT hZ (hw _ (List.mem_of_getElem? (i := 50) rfl))) (mvT hZ (hw _ (List.mem_of_getElem? (i := 49) rfl))) (by decide) (backOf (W := 1) (rm9 l Z a0 hw [] r_206 z T206.heap n0 (by omega) P206_3) hZ (hw _ (List.mem_of_getElem? (i := 51) rfl)) (hw _ (List.mem_of_getElem? (i := 2) rfl)) (by decide) (by decide)) qa226 qc226 (g := (mkF m 79 #[.val (.int p0), .val (.int (1 : Int32)), .val (.ref r_196), .val (.ref r_206), .val (.int (1 : Int32)), .val (.int (1 : Int32)), .val (.int (1 : Int32)), .val (.int (1 : Int32)), .unset] [(.ref r_206), (.ref z)])) rfl (by rw [hml]; rfl) (Steps.refl _) (argsL := []) (rest := [(.ref z)]) (lenOf pd_6 rfl) rfl (by show 2 * 0 + _ ≤ _; exact Nat.le_of_eq rfl) (hb hby at_79) (fun _ _ => ⟨rfl, e225, (by decide : 2 + 0 ≤ _), (by decide : 10 + 0 ≤ _)⟩)
    dsimp only [Pt.U, Pt.locs, Pt.cells, Pt.slots] at X226 l226 y226 z226 st226 hQ226
    subst l226 y226 z226
    obtain ⟨rfl, N226q, e226⟩ := hQ226
    have N226 := Fr.app N225 N226q
    obtain ⟨fs, hr, hrun, hended, hW, hsame⟩ := X226.leave (v := some (.int (1 : Int32))) (fun h => by rw [Bd.returns] at h; cases h)
    refine ⟨_, _, pre163 _ ?_, hrun, hended, _, _, rfl, ?_, ⟨_, rfl⟩, hW, hsame.mono (by decide) (by decide)⟩
    · show Steps p.tables e below (s₁.setTop (mkF m 3 #[.val (.int p0), .unset, .unset, .unset, .unset, .unset, .unset, .unset, .unset] [(.int (p0 &&& (1 : Int32)))])) _
      refine XS.ifNo X0.here hx rfl (hb hby at_3) rfl ((if0 _ _).trans (feq (hc164 : ¬ ((p0 &&& (1 : Int32)) = (0 : Int32)))).1) ?_
      show Steps p.tables e below (s₁.setTop (mkF m 6 #[.val (.int p0), .unset, .unset, .unset, .unset, .unset, .unset, .unset, .unset] [])) _
      refine XS.iconst X0.here hx rfl (hb hby at_6) ?_
      show Steps p.tables e below (s₁.setTop (mkF m 7 #[.val (.int p0), .unset, .unset, .unset, .unset, .unset, .unset, .unset, .unset] [(.int (1 : Int32))])) _
      refine XS.goto X0.here hx rfl (pc0 := 7) (pc' := 11) rfl (hb hby at_7) (by decide) (by decide) ?_
      show Steps p.tables e below (s₁.setTop (mkF m 11 #[.val (.int p0), .unset, .unset, .unset, .unset, .unset, .unset, .unset, .unset] [(.int (1 : Int32))])) _
      refine XS.istoreN X0.here hx rfl (hb hby at_11) rfl (l' := #[.val (.int p0), .val (.int (1 : Int32)), .unset, .unset, .unset, .unset, .unset, .unset, .unset]) rfl ?_
      show Steps p.tables e below (s₁.setTop (mkF m 12 #[.val (.int p0), .val (.int (1 : Int32)), .unset, .unset, .unset, .unset, .unset, .unset, .unset] [])) _
      refine XS.iloadN X0.here hx rfl (hb hby at_12) rfl ?_
      show Steps p.tables e below (s₁.setTop (mkF m 13 #[.val (.int p0), .val (.int (1 : Int32)), .unset, .unset, .unset, .unset, .unset, .unset, .unset] [(.int (1 : Int32))])) _
      refine st196 _ ?_
      show Steps p.tables e below (T196.setTop (mkF m 16 #[.val (.int p0), .val (.int (1 : Int32)), .unset, .unset, .unset, .unset, .unset, .unset, .unset] [(.ref r_196)])) _
      refine XS.astoreN X196.here hx rfl (hb hby at_16) rfl rfl (l' := #[.val (.int p0), .val (.int (1 : Int32)), .val (.ref r_196), .unset, .unset, .unset, .unset, .unset, .unset]) rfl ?_
      show Steps p.tables e below (T196.setTop (mkF m 17 #[.val (.int p0), .val (.int (1 : Int32)), .val (.ref r_196), .unset, .unset, .unset, .unset, .unset, .unset] [])) _
      refine XS.lconst X196.here hx rfl (hb hby at_17) ?_
      show Steps p.tables e below (T196.setTop (mkF m 18 #[.val (.int p0), .val (.int (1 : Int32)), .val (.ref r_196), .unset, .unset, .unset, .unset, .unset, .unset] [(.long (0 : Int64))])) _
      refine st206 _ ?_
      show Steps p.tables e below (T206.setTop (mkF m 21 #[.val (.int p0), .val (.int (1 : Int32)), .val (.ref r_196), .unset, .unset, .unset, .unset, .unset, .unset] [(.ref r_206)])) _
      refine XS.astoreN X206.here hx rfl (hb hby at_21) rfl rfl (l' := #[.val (.int p0), .val (.int (1 : Int32)), .val (.ref r_196), .val (.ref r_206), .unset, .unset, .unset, .unset, .unset]) rfl ?_
      show Steps p.tables e below (T206.setTop (mkF m 22 #[.val (.int p0), .val (.int (1 : Int32)), .val (.ref r_196), .val (.ref r_206), .unset, .unset, .unset, .unset, .unset] [])) _
      refine XS.aloadN X206.here hx rfl (hb hby at_22) rfl rfl ?_
      show Steps p.tables e below (T206.setTop (mkF m 23 #[.val (.int p0), .val (.int (1 : Int32)), .val (.ref r_196), .val (.ref r_206), .unset, .unset, .unset, .unset, .unset] [(.ref r_196)])) _
      refine st216.trans ?_
      show Steps p.tables e below (T216.setTop (mkF m 26 #[.val (.int p0), .val (.int (1 : Int32)), .val (.ref r_196), .val (.ref r_206), .unset, .unset, .unset, .unset, .unset] [(.int (1 : Int32))])) _
      refine XS.iloadN X216.here hx rfl (hb hby at_26) rfl ?_
      show Steps p.tables e below (T216.setTop (mkF m 27 #[.val (.int p0), .val (.int (1 : Int32)), .val (.ref r_196), .val (.ref r_206), .unset, .unset, .unset, .unset, .unset] [(.int (1 : Int32)), (.int (1 : Int32))])) _
      refine XS.icmpNo X216.here hx rfl (hb hby at_27) rfl (teq (by decide : (1 : Int32) = (1 : Int32))).2 ?_
      show Steps p.tables e below (T216.setTop (mkF m 30 #[.val (.int p0), .val (.int (1 : Int32)), .val (.ref r_196), .val (.ref r_206), .unset, .unset, .unset, .unset, .unset] [])) _
      refine XS.iconst X216.here hx rfl (hb hby at_30) ?_
      show Steps p.tables e below (T216.setTop (mkF m 31 #[.val (.int p0), .val (.int (1 : Int32)), .val (.ref r_196), .val (.ref r_206), .unset, .unset, .unset, .unset, .unset] [(.int (1 : Int32))])) _
      refine XS.goto X216.here hx rfl (pc0 := 31) (pc' := 35) rfl (hb hby at_31) (by decide) (by decide) ?_
      show Steps p.tables e below (T216.setTop (mkF m 35 #[.val (.int p0), .val (.int (1 : Int32)), .val (.ref r_196), .val (.ref r_206), .unset, .unset, .unset, .unset, .unset] [(.int (1 : Int32))])) _
      refine XS.istore X216.here hx rfl (hb hby at_35) rfl (l' := #[.val (.int p0), .val (.int (1 : Int32)), .val (.ref r_196), .val (.ref r_206), .val (.int (1 : Int32)), .unset, .unset, .unset, .unset]) rfl ?_
      show Steps p.tables e below (T216.setTop (mkF m 37 #[.val (.int p0), .val (.int (1 : Int32)), .val (.ref r_196), .val (.ref r_206), .val (.int (1 : Int32)), .unset, .unset, .unset, .unset] [])) _
      refine XS.aloadN X216.here hx rfl (hb hby at_37) rfl rfl ?_
      show Steps p.tables e below (T216.setTop (mkF m 38 #[.val (.int p0), .val (.int (1 : Int32)), .val (.ref r_196), .val (.ref r_206), .val (.int (1 : Int32)), .unset, .unset, .unset, .unset] [(.ref r_196)])) _
      refine st219.trans ?_
      show Steps p.tables e below (T219.setTop (mkF m 41 #[.val (.int p0), .val (.int (1 : Int32)), .val (.ref r_196), .val (.ref r_206), .val (.int (1 : Int32)), .unset, .unset, .unset, .unset] [(.int (1 : Int32))])) _
      refine XS.istore X219.here hx rfl (hb hby at_41) rfl (l' := #[.val (.int p0), .val (.int (1 : Int32)), .val (.ref r_196), .val (.ref r_206), .val (.int (1 : Int32)), .val (.int (1 : Int32)), .unset, .unset, .unset]) rfl ?_
      show Steps p.tables e below (T219.setTop (mkF m 43 #[.val (.int p0), .val (.int (1 : Int32)), .val (.ref r_196), .val (.ref r_206), .val (.int (1 : Int32)), .val (.int (1 : Int32)), .unset, .unset, .unset] [])) _
      refine XS.aloadN X219.here hx rfl (hb hby at_43) rfl rfl ?_
      show Steps p.tables e below (T219.setTop (mkF m 44 #[.val (.int p0), .val (.int (1 : Int32)), .val (.ref r_196), .val (.ref r_206), .val (.int (1 : Int32)), .val (.int (1 : Int32)), .unset, .unset, .unset] [(.ref r_196)])) _
      refine st221.trans ?_
      show Steps p.tables e below (T221.setTop (mkF m 47 #[.val (.int p0), .val (.int (1 : Int32)), .val (.ref r_196), .val (.ref r_206), .val (.int (1 : Int32)), .val (.int (1 : Int32)), .unset, .unset, .unset] [(.int (-1 : Int32))])) _
      refine XS.iconst X221.here hx rfl (hb hby at_47) ?_
      show Steps p.tables e below (T221.setTop (mkF m 48 #[.val (.int p0), .val (.int (1 : Int32)), .val (.ref r_196), .val (.ref r_206), .val (.int (1 : Int32)), .val (.int (1 : Int32)), .unset, .unset, .unset] [(.int (-1 : Int32)), (.int (-1 : Int32))])) _
      refine XS.icmpNo X221.here hx rfl (hb hby at_48) rfl (teq (by decide : (-1 : Int32) = (-1 : Int32))).2 ?_
      show Steps p.tables e below (T221.setTop (mkF m 51 #[.val (.int p0), .val (.int (1 : Int32)), .val (.ref r_196), .val (.ref r_206), .val (.int (1 : Int32)), .val (.int (1 : Int32)), .unset, .unset, .unset] [])) _
      refine XS.iconst X221.here hx rfl (hb hby at_51) ?_
      show Steps p.tables e below (T221.setTop (mkF m 52 #[.val (.int p0), .val (.int (1 : Int32)), .val (.ref r_196), .val (.ref r_206), .val (.int (1 : Int32)), .val (.int (1 : Int32)), .unset, .unset, .unset] [(.int (1 : Int32))])) _
      refine XS.goto X221.here hx rfl (pc0 := 52) (pc' := 56) rfl (hb hby at_52) (by decide) (by decide) ?_
      show Steps p.tables e below (T221.setTop (mkF m 56 #[.val (.int p0), .val (.int (1 : Int32)), .val (.ref r_196), .val (.ref r_206), .val (.int (1 : Int32)), .val (.int (1 : Int32)), .unset, .unset, .unset] [(.int (1 : Int32))])) _
      refine XS.istore X221.here hx rfl (hb hby at_56) rfl (l' := #[.val (.int p0), .val (.int (1 : Int32)), .val (.ref r_196), .val (.ref r_206), .val (.int (1 : Int32)), .val (.int (1 : Int32)), .val (.int (1 : Int32)), .unset, .unset]) rfl ?_
      show Steps p.tables e below (T221.setTop (mkF m 58 #[.val (.int p0), .val (.int (1 : Int32)), .val (.ref r_196), .val (.ref r_206), .val (.int (1 : Int32)), .val (.int (1 : Int32)), .val (.int (1 : Int32)), .unset, .unset] [])) _
      refine XS.aloadN X221.here hx rfl (hb hby at_58) rfl rfl ?_
      show Steps p.tables e below (T221.setTop (mkF m 59 #[.val (.int p0), .val (.int (1 : Int32)), .val (.ref r_196), .val (.ref r_206), .val (.int (1 : Int32)), .val (.int (1 : Int32)), .val (.int (1 : Int32)), .unset, .unset] [(.ref r_196)])) _
      refine st223.trans ?_
      show Steps p.tables e below (T223.setTop (mkF m 62 #[.val (.int p0), .val (.int (1 : Int32)), .val (.ref r_196), .val (.ref r_206), .val (.int (1 : Int32)), .val (.int (1 : Int32)), .val (.int (1 : Int32)), .unset, .unset] [(.long (0 : Int64))])) _
      refine XS.lconst X223.here hx rfl (hb hby at_62) ?_
      show Steps p.tables e below (T223.setTop (mkF m 63 #[.val (.int p0), .val (.int (1 : Int32)), .val (.ref r_196), .val (.ref r_206), .val (.int (1 : Int32)), .val (.int (1 : Int32)), .val (.int (1 : Int32)), .unset, .unset] [(.long (0 : Int64)), (.long (0 : Int64))])) _
      refine XS.lcmp X223.here hx rfl (hb hby at_63) rfl ?_
      show Steps p.tables e below (T223.setTop (mkF m 64 #[.val (.int p0), .val (.int (1 : Int32)), .val (.ref r_196), .val (.ref r_206), .val (.int (1 : Int32)), .val (.int (1 : Int32)), .val (.int (1 : Int32)), .unset, .unset] [(.int (lcmpW (0 : Int64) (0 : Int64)))])) _
      refine XS.ifNo X223.here hx rfl (hb hby at_64) rfl ((if0 _ _).trans (teq (((lw_eq (0 : Int64) (0 : Int64)).mpr (by decide : ((0 : Int64) = (0 : Int64)))) : (lcmpW (0 : Int64) (0 : Int64)) = (0 : Int32))).2) ?_
      show Steps p.tables e below (T223.setTop (mkF m 67 #[.val (.int p0), .val (.int (1 : Int32)), .val (.ref r_196), .val (.ref r_206), .val (.int (1 : Int32)), .val (.int (1 : Int32)), .val (.int (1 : Int32)), .unset, .unset] [])) _
      refine XS.iconst X223.here hx rfl (hb hby at_67) ?_
      show Steps p.tables e below (T223.setTop (mkF m 68 #[.val (.int p0), .val (.int (1 : Int32)), .val (.ref r_196), .val (.ref r_206), .val (.int (1 : Int32)), .val (.int (1 : Int32)), .val (.int (1 : Int32)), .unset, .unset] [(.int (1 : Int32))])) _
      refine XS.goto X223.here hx rfl (pc0 := 68) (pc' := 72) rfl (hb hby at_68) (by decide) (by decide) ?_
      show Steps p.tables e below (T223.setTop (mkF m 72 #[.val (.int p0), .val (.int (1 : Int32)), .val (.ref r_196), .val (.ref r_206), .val (.int (1 : Int32)), .val (.int (1 : Int32)), .val (.int (1 : Int32)), .unset, .unset] [(.int (1 : Int32))])) _
      refine XS.istore X223.here hx rfl (hb hby at_72) rfl (l' := #[.val (.int p0), .val (.int (1 : Int32)), .val (.ref r_196), .val (.ref r_206), .val (.int (1 : Int32)), .val (.int (1 : Int32)), .val (.int (1 : Int32)), .val (.int (1 : Int32)), .unset]) rfl ?_
      show Steps p.tables e below (T223.setTop (mkF m 74 #[.val (.int p0), .val (.int (1 : Int32)), .val (.ref r_196), .val (.ref r_206), .val (.int (1 : Int32)), .val (.int (1 : Int32)), .val (.int (1 : Int32)), .val (.int (1 : Int32)), .unset] [])) _
      refine XS.aloadN X223.here hx rfl (hb hby at_74) rfl rfl ?_
      show Steps p.tables e below (T223.setTop (mkF m 75 #[.val (.int p0), .val (.int (1 : Int32)), .val (.ref r_196), .val (.ref r_206), .val (.int (1 : Int32)), .val (.int (1 : Int32)), .val (.int (1 : Int32)), .val (.int (1 : Int32)), .unset] [(.ref r_196)])) _
      refine st225.trans ?_
      show Steps p.tables e below (T225.setTop (mkF m 78 #[.val (.int p0), .val (.int (1 : Int32)), .val (.ref r_196), .val (.ref r_206), .val (.int (1 : Int32)), .val (.int (1 : Int32)), .val (.int (1 : Int32)), .val (.int (1 : Int32)), .unset] [(.ref z)])) _
      refine XS.aloadN X225.here hx rfl (hb hby at_78) rfl rfl ?_
      show Steps p.tables e below (T225.setTop (mkF m 79 #[.val (.int p0), .val (.int (1 : Int32)), .val (.ref r_196), .val (.ref r_206), .val (.int (1 : Int32)), .val (.int (1 : Int32)), .val (.int (1 : Int32)), .val (.int (1 : Int32)), .unset] [(.ref r_206), (.ref z)])) _
      refine st226.trans ?_
      show Steps p.tables e below (T226.setTop (mkF m 82 #[.val (.int p0), .val (.int (1 : Int32)), .val (.ref r_196), .val (.ref r_206), .val (.int (1 : Int32)), .val (.int (1 : Int32)), .val (.int (1 : Int32)), .val (.int (1 : Int32)), .unset] [(.ref z), (.ref z)])) _
      refine Jvm.RoadKit.acmp (g := (mkF m 82 #[.val (.int p0), .val (.int (1 : Int32)), .val (.ref r_196), .val (.ref r_206), .val (.int (1 : Int32)), .val (.int (1 : Int32)), .val (.int (1 : Int32)), .val (.int (1 : Int32)), .unset] [(.ref z), (.ref z)])) X226 hx rfl rfl rfl (pc0 := 82) (pc' := 85) (same := true) rfl (hb hby at_82) rfl (decide_eq_true rfl) (by decide) (by decide) ?_
      show Steps p.tables e below (T226.setTop (mkF m 85 #[.val (.int p0), .val (.int (1 : Int32)), .val (.ref r_196), .val (.ref r_206), .val (.int (1 : Int32)), .val (.int (1 : Int32)), .val (.int (1 : Int32)), .val (.int (1 : Int32)), .unset] [])) _
      refine XS.iconst X226.here hx rfl (hb hby at_85) ?_
      show Steps p.tables e below (T226.setTop (mkF m 86 #[.val (.int p0), .val (.int (1 : Int32)), .val (.ref r_196), .val (.ref r_206), .val (.int (1 : Int32)), .val (.int (1 : Int32)), .val (.int (1 : Int32)), .val (.int (1 : Int32)), .unset] [(.int (1 : Int32))])) _
      refine XS.goto X226.here hx rfl (pc0 := 86) (pc' := 90) rfl (hb hby at_86) (by decide) (by decide) ?_
      show Steps p.tables e below (T226.setTop (mkF m 90 #[.val (.int p0), .val (.int (1 : Int32)), .val (.ref r_196), .val (.ref r_206), .val (.int (1 : Int32)), .val (.int (1 : Int32)), .val (.int (1 : Int32)), .val (.int (1 : Int32)), .unset] [(.int (1 : Int32))])) _
      refine XS.istore X226.here hx rfl (hb hby at_90) rfl (l' := #[.val (.int p0), .val (.int (1 : Int32)), .val (.ref r_196), .val (.ref r_206), .val (.int (1 : Int32)), .val (.int (1 : Int32)), .val (.int (1 : Int32)), .val (.int (1 : Int32)), .val (.int (1 : Int32))]) rfl ?_
      show Steps p.tables e below (T226.setTop (mkF m 92 #[.val (.int p0), .val (.int (1 : Int32)), .val (.ref r_196), .val (.ref r_206), .val (.int (1 : Int32)), .val (.int (1 : Int32)), .val (.int (1 : Int32)), .val (.int (1 : Int32)), .val (.int (1 : Int32))] [])) _
      refine XS.iload X226.here hx rfl (hb hby at_92) rfl ?_
      show Steps p.tables e below (T226.setTop (mkF m 94 #[.val (.int p0), .val (.int (1 : Int32)), .val (.ref r_196), .val (.ref r_206), .val (.int (1 : Int32)), .val (.int (1 : Int32)), .val (.int (1 : Int32)), .val (.int (1 : Int32)), .val (.int (1 : Int32))] [(.int (1 : Int32))])) _
      refine XS.ifNo X226.here hx rfl (hb hby at_94) rfl ((if0 _ _).trans (feq (by decide : ¬ ((1 : Int32) = (0 : Int32)))).1) ?_
      show Steps p.tables e below (T226.setTop (mkF m 97 #[.val (.int p0), .val (.int (1 : Int32)), .val (.ref r_196), .val (.ref r_206), .val (.int (1 : Int32)), .val (.int (1 : Int32)), .val (.int (1 : Int32)), .val (.int (1 : Int32)), .val (.int (1 : Int32))] [])) _
      refine XS.iload X226.here hx rfl (hb hby at_97) rfl ?_
      show Steps p.tables e below (T226.setTop (mkF m 99 #[.val (.int p0), .val (.int (1 : Int32)), .val (.ref r_196), .val (.ref r_206), .val (.int (1 : Int32)), .val (.int (1 : Int32)), .val (.int (1 : Int32)), .val (.int (1 : Int32)), .val (.int (1 : Int32))] [(.int (1 : Int32))])) _
      refine XS.ifNo X226.here hx rfl (hb hby at_99) rfl ((if0 _ _).trans (feq (by decide : ¬ ((1 : Int32) = (0 : Int32)))).1) ?_
      show Steps p.tables e below (T226.setTop (mkF m 102 #[.val (.int p0), .val (.int (1 : Int32)), .val (.ref r_196), .val (.ref r_206), .val (.int (1 : Int32)), .val (.int (1 : Int32)), .val (.int (1 : Int32)), .val (.int (1 : Int32)), .val (.int (1 : Int32))] [])) _
      refine XS.iload X226.here hx rfl (hb hby at_102) rfl ?_
      show Steps p.tables e below (T226.setTop (mkF m 104 #[.val (.int p0), .val (.int (1 : Int32)), .val (.ref r_196), .val (.ref r_206), .val (.int (1 : Int32)), .val (.int (1 : Int32)), .val (.int (1 : Int32)), .val (.int (1 : Int32)), .val (.int (1 : Int32))] [(.int (1 : Int32))])) _
      refine XS.ifNo X226.here hx rfl (hb hby at_104) rfl ((if0 _ _).trans (feq (by decide : ¬ ((1 : Int32) = (0 : Int32)))).1) ?_
      show Steps p.tables e below (T226.setTop (mkF m 107 #[.val (.int p0), .val (.int (1 : Int32)), .val (.ref r_196), .val (.ref r_206), .val (.int (1 : Int32)), .val (.int (1 : Int32)), .val (.int (1 : Int32)), .val (.int (1 : Int32)), .val (.int (1 : Int32))] [])) _
      refine XS.iload X226.here hx rfl (hb hby at_107) rfl ?_
      show Steps p.tables e below (T226.setTop (mkF m 109 #[.val (.int p0), .val (.int (1 : Int32)), .val (.ref r_196), .val (.ref r_206), .val (.int (1 : Int32)), .val (.int (1 : Int32)), .val (.int (1 : Int32)), .val (.int (1 : Int32)), .val (.int (1 : Int32))] [(.int (1 : Int32))])) _
      refine XS.ifNo X226.here hx rfl (hb hby at_109) rfl ((if0 _ _).trans (feq (by decide : ¬ ((1 : Int32) = (0 : Int32)))).1) ?_
      show Steps p.tables e below (T226.setTop (mkF m 112 #[.val (.int p0), .val (.int (1 : Int32)), .val (.ref r_196), .val (.ref r_206), .val (.int (1 : Int32)), .val (.int (1 : Int32)), .val (.int (1 : Int32)), .val (.int (1 : Int32)), .val (.int (1 : Int32))] [])) _
      refine XS.iload X226.here hx rfl (hb hby at_112) rfl ?_
      show Steps p.tables e below (T226.setTop (mkF m 114 #[.val (.int p0), .val (.int (1 : Int32)), .val (.ref r_196), .val (.ref r_206), .val (.int (1 : Int32)), .val (.int (1 : Int32)), .val (.int (1 : Int32)), .val (.int (1 : Int32)), .val (.int (1 : Int32))] [(.int (1 : Int32))])) _
      refine XS.ifNo X226.here hx rfl (hb hby at_114) rfl ((if0 _ _).trans (feq (by decide : ¬ ((1 : Int32) = (0 : Int32)))).1) ?_
      show Steps p.tables e below (T226.setTop (mkF m 117 #[.val (.int p0), .val (.int (1 : Int32)), .val (.ref r_196), .val (.ref r_206), .val (.int (1 : Int32)), .val (.int (1 : Int32)), .val (.int (1 : Int32)), .val (.int (1 : Int32)), .val (.int (1 : Int32))] [])) _
      refine XS.iconst X226.here hx rfl (hb hby at_117) ?_
      show Steps p.tables e below (T226.setTop (mkF m 118 #[.val (.int p0), .val (.int (1 : Int32)), .val (.ref r_196), .val (.ref r_206), .val (.int (1 : Int32)), .val (.int (1 : Int32)), .val (.int (1 : Int32)), .val (.int (1 : Int32)), .val (.int (1 : Int32))] [(.int (1 : Int32))])) _
      refine XS.goto X226.here hx rfl (pc0 := 118) (pc' := 122) rfl (hb hby at_118) (by decide) (by decide) ?_
      show Steps p.tables e below (T226.setTop (mkF m 122 #[.val (.int p0), .val (.int (1 : Int32)), .val (.ref r_196), .val (.ref r_206), .val (.int (1 : Int32)), .val (.int (1 : Int32)), .val (.int (1 : Int32)), .val (.int (1 : Int32)), .val (.int (1 : Int32))] [(.int (1 : Int32))])) _
      exact retN X226 hx (t := .boolean) Bd.returns (by simp) (hb hby at_122) hr
    · show Qrm0 Z p0 z h0 n0 _ T226.heap _
      rw [e226]
      exact ⟨rfl, N226, KC208⟩
set_option maxRecDepth 65536 in
set_option maxHeartbeats 40000000 in
theorem comes_1 {Post : Tables → Env → Array Value → State → Outcome → State → Prop} (hpost : ∀ tb e args s v u, (limb_1_1.after args s (.returned v) u = true ∧ limb_1_2.after args s (.returned v) u = true ∧ True) → FrameEnd s (.returned v) u (Jvm.fieldLocs frame_1_writes args s ++ Jvm.arrayLocs frame_1_arrays args s ++ Jvm.staticLocs frame_1_statics s) 16 128 → Post tb e args s (.returned v) u) :
    ArmFor flags0 classFile x code maxLocals ret World_1 tables_1 room_1 Calls_1 rest_1 Pre_1 Post := by
  intro l hfl _ _ p e ha hc hk s m args below hf hA hF happ hP
  obtain ⟨hcalls, hrest, hpre⟩ := hP
  obtain ⟨-, -, -, hnamed, -, -, -, hat⟩ := (Spec.applies_iff hf).mp happ
  obtain ⟨hg, hn⟩ := and_e (Cond.before_iff.mp (show (Jvm.Cond.and given_1 narrow_1).before args s = true from hpre))
  obtain ⟨gg0, gg1⟩ := and_e hg
  obtain ⟨w0, rfl⟩ : ∃ w0 : Value, args = #[w0] := by
    have hs : args.size = 1 := by simpa [Cond.value, given_1] using gg0
    obtain ⟨L⟩ := args
    match L, hs with
    | [w0], _ => exact ⟨w0, rfl⟩
  have hw := fun d (hd : d ∈ tables_1) => atoms_spec (ws := Jvm.Cond.code x code maxLocals ret :: tables_1) hat d (List.mem_cons_of_mem _ hd)
  have hfit : Fit s := fun {y c} hc i hi => by
    obtain ⟨ha, rfl⟩ := Array.getElem?_eq_some_iff.mp hc
    have q := List.all_eq_true.mp ((Array.all_eq_true_iff_forall_mem.mp hF) _ (Array.getElem_mem ha)) i (List.mem_range.mpr hi)
    simpa [Array.getElem?_eq_getElem hi] using q
  obtain ⟨hsets, hown0⟩ := atoms_of _ (rest_1_c_eq ▸ (show rest_1_c.before _ s = true from hrest))
  obtain ⟨i0, ei0⟩ := is_v gg1
  obtain rfl : w0 = (.int i0) := Option.some.inj ei0
  obtain ⟨a_ZERO, v_ZERO⟩ := exa_v (Cond.before_iff.mp (hsets _ (List.mem_of_getElem? (i := 2) rfl)))
  have E_ZERO := Exa.start v_ZERO (Cond.before_iff.mp (hsets _ (List.mem_of_getElem? (i := 2) rfl)))
  have S_ZERO := Sta.start v_ZERO (Or.inl (hsets _ (List.mem_of_getElem? (i := 1) rfl)))
  have F_ZERO_seconds := Fld.start ((fld_at v_ZERO).symm.trans (own_eqL (Cond.before_iff.mp (hsets _ (List.mem_of_getElem? (i := 3) rfl)))))
  have F_ZERO_nanos := Fld.start ((fld_at v_ZERO).symm.trans (own_eqI (Cond.before_iff.mp (hsets _ (List.mem_of_getElem? (i := 4) rfl)))))
  obtain ⟨n, o, h1, h2, h3, _, L, rfl, ⟨rfl, N, -⟩, hq⟩ := rm0 l s _ hw tables_1 i0 a_ZERO s.heap s.heap.size (Nat.le_refl _) S_ZERO p e ha hc hk s m _ below hf ((Spec.applies_iff_loose hf).mp happ).1 ⟨rfl, State.Warmed39.refl s, rfl⟩ trivial
  exact ⟨n, _, h1, h2, h3, hpost _ _ _ _ _ _ ⟨Cond.after_iff.mpr rfl, Cond.after_iff.mpr (eq_i res_at (Term.int_eval (1)) rfl), trivial⟩ ⟨hq.1, hq.2.1, (hq.2.2.sift fun y hy => Or.inr (N y hy)).mono (by decide) (by decide)⟩⟩
theorem main_1_1 : Claimed_1_1 := comes_1 fun _ _ _ _ _ _ h hF => ⟨h.1, hF⟩
theorem main_1_2 : Claimed_1_2 := comes_1 fun _ _ _ _ _ _ h hF => ⟨h.2.1, hF⟩
end Jvm.Pilot.@@N@@
namespace Jvm.Pilot.@@N@@
open Jvm Jvm.ClassFile Sem Op Lib Jvm.Free Jvm.Stand Jvm.Pilot.@@N@@.Jvm.D
/-! MADE BY PROGRAM (witnessworld.py) out of the Statement's table words and the real class files: 10 classes; the members and pool entries that the words name. The judged class is class 1, her method 1. -/
namespace start1
open Jvm.ClassFile
def u (s : String) : CpInfo := .utf8 (stringToUtf16 s)
/-- a pool by its gaps: so many unusable entries, then the entry; so many at the end -/
def gap : Nat → List CpInfo → List CpInfo
  | 0, r => r
  | n + 1, r => .unusable :: gap n r
def poolList (es : List (Nat × CpInfo)) (last : Nat) : List CpInfo := es.foldr (fun e r => gap e.1 (e.2 :: r)) (gap last [])
def pool (es : List (Nat × CpInfo)) (last : Nat) : Array CpInfo := ⟨poolList es last⟩
def fileOf (pool : Array CpInfo) (this : Nat) (attrs : Array Attribute := #[]) (ms : Array MethodInfo := #[]) (fl : Nat := 33) (sup : Nat := 0) (ifs : Array Nat := #[]) (fds : Array FieldInfo := #[]) : ClassFile where
  minorVersion := 0
  majorVersion := 65
  constantPool := pool
  accessFlags := fl
  thisClass := this
  superClass := sup
  interfaces := ifs
  fields := fds
  methods := ms
  attributes := attrs
def plain (name : String) (sup : Option ClassId) : Class where
  name := name
  kind := .ordinary
  loader := none
  accessFlags := 33
  super := sup
  interfaces := #[]
  cf := none
  fields := #[]
  methods := #[]
  instanceTypes := #[]
  staticTypes := #[]
  resolved := #[]
  callSites := []
  init := .initialized
  statics := none
  mirror := none

def pool0 : Array CpInfo := pool [(5, u "<init>"), (0, u "()V"), (1, .class_ 10), (1, u "java/lang/Object")] 113

def k0c0 : Code := { maxStack := 0, maxLocals := 1, code := object_method_1_code, exceptionTable := #[], attributes := #[] }
def k0m0 : Method := { name := "<init>", desc := "()V", sig := { parameters := [], returnType := none }, accessFlags := 1, code := some k0c0 }
/-- java/lang/Object -/
def k0 : Class := { plain "java/lang/Object" none with
  accessFlags := 33
  interfaces := #[]
  cf := some (fileOf pool0 8 #[] #[{ accessFlags := 1, nameIndex := 5, descriptorIndex := 6, attributes := #[] }] 33 0 #[] #[])
  fields := #[]
  methods := #[k0m0]
  instanceTypes := #[]
  staticTypes := #[]
  resolved := Array.replicate 124 none
  statics := none }

def pool1 : Array CpInfo := pool [(2, .class_ 4), (1, u "java/lang/Object"), (0, u "<init>"), (0, u "()V"), (0, .methodref 8 9), (0, .class_ 10), (0, .nameAndType 11 12), (0, u "com/example/klepsydra/klepsydra/Decision"), (0, u "degraded"), (0, u "(Z)Lcom/example/klepsydra/klepsydra/Decision;"), (0, .methodref 8 14), (0, .nameAndType 15 16), (0, u "granted"), (0, u "(J)Lcom/example/klepsydra/klepsydra/Decision;"), (0, .methodref 8 18), (0, .nameAndType 15 19), (0, u "()Z"), (0, .methodref 8 21), (0, .nameAndType 11 19), (0, .methodref 8 23), (0, .nameAndType 24 25), (0, u "refusedBy"), (0, u "()I"), (0, .methodref 8 27), (0, .nameAndType 28 29), (0, u "remaining"), (0, u "()J"), (0, .methodref 8 31), (0, .nameAndType 32 33), (0, u "retryAfter"), (0, u "()Ljava/time/Duration;"), (0, .class_ 35), (0, u "com/example/klepsydra/klepsydra/DecisionDegradedPinLaw"), (2, u "law"), (0, u "(I)Z")] 3

def k1m0 : Method := { name := "<init>", desc := "()V", sig := { parameters := [], returnType := none }, accessFlags := 2, code := none }
def k1c1 : Code := { maxStack := 4, maxLocals := 9, code := code, exceptionTable := #[], attributes := #[] }
def k1m1 : Method := { name := "law", desc := "(I)Z", sig := { parameters := [.int], returnType := some .boolean }, accessFlags := 9, code := some k1c1 }
/-- com/example/klepsydra/klepsydra/DecisionDegradedPinLaw -/
def k1 : Class := { plain "com/example/klepsydra/klepsydra/DecisionDegradedPinLaw" (some 0) with
  accessFlags := 49
  interfaces := #[]
  cf := some (fileOf pool1 34 #[] #[{ accessFlags := 2, nameIndex := 5, descriptorIndex := 6, attributes := #[] }, { accessFlags := 9, nameIndex := 38, descriptorIndex := 39, attributes := #[] }] 49 2 #[] #[])
  fields := #[]
  methods := #[k1m0, k1m1]
  instanceTypes := #[]
  staticTypes := #[]
  resolved := Array.replicate 43 none
  statics := none }

def pool2 : Array CpInfo := pool [(1, .methodref 2 3), (0, .class_ 4), (0, .nameAndType 5 6), (0, u "java/lang/Object"), (0, u "<init>"), (0, u "()V"), (0, .fieldref 8 9), (0, .class_ 10), (0, .nameAndType 11 12), (0, u "com/example/klepsydra/klepsydra/Decision"), (0, u "granted"), (0, u "Z"), (0, .fieldref 8 14), (0, .nameAndType 15 16), (0, u "refusedBy"), (0, u "I"), (0, .fieldref 8 18), (0, .nameAndType 19 20), (0, u "retryAfter"), (0, u "Ljava/time/Duration;"), (0, .fieldref 8 22), (0, .nameAndType 23 24), (0, u "remaining"), (0, u "J"), (0, .fieldref 8 26), (0, .nameAndType 27 12), (0, u "degraded"), (9, .fieldref 38 39), (0, .class_ 40), (0, .nameAndType 41 20), (0, u "java/time/Duration"), (0, u "ZERO"), (0, .methodref 8 43), (0, .nameAndType 5 44), (0, u "(ZILjava/time/Duration;JZ)V"), (6, u "()Z"), (32, u "NEVER"), (5, u "ONE_MILLISECOND"), (37, u "()Ljava/time/Duration;"), (6, u "(J)Lcom/example/klepsydra/klepsydra/Decision;"), (3, u "(Z)Lcom/example/klepsydra/klepsydra/Decision;"), (0, u "()I"), (0, u "()J")] 27

def k2c0 : Code := { maxStack := 3, maxLocals := 7, code := prog_9_method_1_code, exceptionTable := #[], attributes := #[] }
def k2m0 : Method := { name := "<init>", desc := "(ZILjava/time/Duration;JZ)V", sig := { parameters := [.boolean, .int, (.object "java/time/Duration"), .long, .boolean], returnType := none }, accessFlags := 2, code := some k2c0 }
def k2c1 : Code := { maxStack := 8, maxLocals := 2, code := prog_9_method_2_code, exceptionTable := #[], attributes := #[] }
def k2m1 : Method := { name := "granted", desc := "(J)Lcom/example/klepsydra/klepsydra/Decision;", sig := { parameters := [.long], returnType := some (.object "com/example/klepsydra/klepsydra/Decision") }, accessFlags := 8, code := some k2c1 }
def k2c2 : Code := { maxStack := 8, maxLocals := 1, code := prog_9_method_4_code, exceptionTable := #[], attributes := #[] }
def k2m2 : Method := { name := "degraded", desc := "(Z)Lcom/example/klepsydra/klepsydra/Decision;", sig := { parameters := [.boolean], returnType := some (.object "com/example/klepsydra/klepsydra/Decision") }, accessFlags := 8, code := some k2c2 }
def k2c3 : Code := { maxStack := 1, maxLocals := 1, code := prog_9_method_6_code, exceptionTable := #[], attributes := #[] }
def k2m3 : Method := { name := "granted", desc := "()Z", sig := { parameters := [], returnType := some .boolean }, accessFlags := 1, code := some k2c3 }
def k2c4 : Code := { maxStack := 1, maxLocals := 1, code := prog_9_method_7_code, exceptionTable := #[], attributes := #[] }
def k2m4 : Method := { name := "refusedBy", desc := "()I", sig := { parameters := [], returnType := some .int }, accessFlags := 1, code := some k2c4 }
def k2c5 : Code := { maxStack := 1, maxLocals := 1, code := prog_9_method_8_code, exceptionTable := #[], attributes := #[] }
def k2m5 : Method := { name := "retryAfter", desc := "()Ljava/time/Duration;", sig := { parameters := [], returnType := some (.object "java/time/Duration") }, accessFlags := 1, code := some k2c5 }
def k2c6 : Code := { maxStack := 2, maxLocals := 1, code := prog_9_method_9_code, exceptionTable := #[], attributes := #[] }
def k2m6 : Method := { name := "remaining", desc := "()J", sig := { parameters := [], returnType := some .long }, accessFlags := 1, code := some k2c6 }
def k2c7 : Code := { maxStack := 1, maxLocals := 1, code := prog_9_method_10_code, exceptionTable := #[], attributes := #[] }
def k2m7 : Method := { name := "degraded", desc := "()Z", sig := { parameters := [], returnType := some .boolean }, accessFlags := 1, code := some k2c7 }
/-- com/example/klepsydra/klepsydra/Decision -/
def k2 : Class := { plain "com/example/klepsydra/klepsydra/Decision" (some 0) with
  accessFlags := 49
  interfaces := #[]
  cf := some (fileOf pool2 8 #[] #[{ accessFlags := 2, nameIndex := 5, descriptorIndex := 44, attributes := #[] }, { accessFlags := 8, nameIndex := 11, descriptorIndex := 135, attributes := #[] }, { accessFlags := 8, nameIndex := 27, descriptorIndex := 139, attributes := #[] }, { accessFlags := 1, nameIndex := 11, descriptorIndex := 51, attributes := #[] }, { accessFlags := 1, nameIndex := 15, descriptorIndex := 140, attributes := #[] }, { accessFlags := 1, nameIndex := 19, descriptorIndex := 128, attributes := #[] }, { accessFlags := 1, nameIndex := 23, descriptorIndex := 141, attributes := #[] }, { accessFlags := 1, nameIndex := 27, descriptorIndex := 51, attributes := #[] }] 49 2 #[] #[{ accessFlags := 24, nameIndex := 84, descriptorIndex := 20, attributes := #[] }, { accessFlags := 26, nameIndex := 90, descriptorIndex := 20, attributes := #[] }, { accessFlags := 18, nameIndex := 11, descriptorIndex := 12, attributes := #[] }, { accessFlags := 18, nameIndex := 15, descriptorIndex := 16, attributes := #[] }, { accessFlags := 18, nameIndex := 19, descriptorIndex := 20, attributes := #[] }, { accessFlags := 18, nameIndex := 23, descriptorIndex := 24, attributes := #[] }, { accessFlags := 18, nameIndex := 27, descriptorIndex := 12, attributes := #[] }])
  fields := #[{ name := "NEVER", type := (.object "java/time/Duration"), accessFlags := 24, slot := 0, constantValue := 0 }, { name := "ONE_MILLISECOND", type := (.object "java/time/Duration"), accessFlags := 26, slot := 1, constantValue := 0 }, { name := "granted", type := .boolean, accessFlags := 18, slot := 0, constantValue := 0 }, { name := "refusedBy", type := .int, accessFlags := 18, slot := 1, constantValue := 0 }, { name := "retryAfter", type := (.object "java/time/Duration"), accessFlags := 18, slot := 2, constantValue := 0 }, { name := "remaining", type := .long, accessFlags := 18, slot := 3, constantValue := 0 }, { name := "degraded", type := .boolean, accessFlags := 18, slot := 4, constantValue := 0 }]
  methods := #[k2m0, k2m1, k2m2, k2m3, k2m4, k2m5, k2m6, k2m7]
  instanceTypes := #[.boolean, .int, (.object "java/time/Duration"), .long, .boolean]
  staticTypes := #[(.object "java/time/Duration"), (.object "java/time/Duration")]
  resolved := Array.replicate 169 none
  statics := none }

def pool3 : Array CpInfo := pool [(1, .class_ 2), (0, u "java/time/temporal/TemporalAmount"), (0, .class_ 4), (0, u "java/lang/Object")] 11

/-- java/time/temporal/TemporalAmount -/
def k3 : Class := { plain "java/time/temporal/TemporalAmount" (some 0) with
  accessFlags := 1537
  interfaces := #[]
  cf := some (fileOf pool3 1 #[] #[] 1537 3 #[] #[])
  fields := #[]
  methods := #[]
  instanceTypes := #[]
  staticTypes := #[]
  resolved := Array.replicate 16 none
  statics := none }

def pool4 : Array CpInfo := pool [(1, .class_ 2), (0, u "java/lang/Comparable"), (0, .class_ 4), (0, u "java/lang/Object")] 7

/-- java/lang/Comparable -/
def k4 : Class := { plain "java/lang/Comparable" (some 0) with
  accessFlags := 1537
  interfaces := #[]
  cf := some (fileOf pool4 1 #[] #[] 1537 3 #[] #[])
  fields := #[]
  methods := #[]
  instanceTypes := #[]
  staticTypes := #[]
  resolved := Array.replicate 12 none
  statics := none }

def pool5 : Array CpInfo := pool [(1, .class_ 2), (0, u "java/io/Serializable"), (0, .class_ 4), (0, u "java/lang/Object")] 2

/-- java/io/Serializable -/
def k5 : Class := { plain "java/io/Serializable" (some 0) with
  accessFlags := 1537
  interfaces := #[]
  cf := some (fileOf pool5 1 #[] #[] 1537 3 #[] #[])
  fields := #[]
  methods := #[]
  instanceTypes := #[]
  staticTypes := #[]
  resolved := Array.replicate 7 none
  statics := none }

def pool6 : Array CpInfo := pool [(11, .class_ 13), (1, u "java/time/Duration"), (20, u "ZERO"), (0, u "Ljava/time/Duration;"), (13, .class_ 51), (1, u "java/time/temporal/TemporalAmount"), (27, .class_ 81), (1, u "java/time/Duration$Lazy"), (35, u "seconds"), (101, .class_ 220), (0, u "java/lang/Object"), (2, u "J"), (2, u "nanos"), (0, u "I"), (11, .class_ 241), (1, u "java/time/Duration$DurationUnits"), (27, .class_ 271), (1, u "java/time/Duration$1"), (91, u "BI_NANOS_PER_SECOND"), (0, u "Ljava/math/BigInteger;"), (120, .class_ 486), (0, u "java/lang/Comparable"), (0, .class_ 488), (0, u "java/io/Serializable"), (0, u "serialVersionUID")] 166

/-- java/time/Duration -/
def k6 : Class := { plain "java/time/Duration" (some 0) with
  accessFlags := 49
  interfaces := #[3, 4, 5]
  cf := some (fileOf pool6 11 #[.nestMembers #[269, 239, 79]] #[] 49 219 #[49, 485, 487] #[{ accessFlags := 25, nameIndex := 34, descriptorIndex := 35, attributes := #[] }, { accessFlags := 26, nameIndex := 489, descriptorIndex := 223, attributes := #[] }, { accessFlags := 26, nameIndex := 363, descriptorIndex := 364, attributes := #[] }, { accessFlags := 18, nameIndex := 117, descriptorIndex := 223, attributes := #[] }, { accessFlags := 18, nameIndex := 226, descriptorIndex := 227, attributes := #[] }])
  fields := #[{ name := "ZERO", type := (.object "java/time/Duration"), accessFlags := 25, slot := 0, constantValue := 0 }, { name := "serialVersionUID", type := .long, accessFlags := 26, slot := 1, constantValue := 0 }, { name := "BI_NANOS_PER_SECOND", type := (.object "java/math/BigInteger"), accessFlags := 26, slot := 2, constantValue := 0 }, { name := "seconds", type := .long, accessFlags := 18, slot := 0, constantValue := 0 }, { name := "nanos", type := .int, accessFlags := 18, slot := 1, constantValue := 0 }]
  methods := #[]
  instanceTypes := #[.long, .int]
  staticTypes := #[(.object "java/time/Duration"), .long, (.object "java/math/BigInteger")]
  resolved := Array.replicate 656 none
  statics := some 0 }

def pool7 : Array CpInfo := pool [(1, u "java/lang/Cloneable"), (0, .class_ 1), (0, u "java/lang/Object"), (0, .class_ 3)] 3

/-- java/lang/Cloneable -/
def k7 : Class := { plain "java/lang/Cloneable" (some 0) with
  accessFlags := 1537
  interfaces := #[]
  cf := some (fileOf pool7 2 #[] #[] 1537 4 #[] #[])
  fields := #[]
  methods := #[]
  instanceTypes := #[]
  staticTypes := #[]
  resolved := Array.replicate 8 none
  statics := none }

/-- the primitive byte -/
def k8 : Class := { plain "byte" none with kind := .primitive 'B', accessFlags := 0x411 }
/-- [B -/
def k9 : Class := { plain "[B" (some 0) with kind := .array 8 .byte, interfaces := #[7, 5], accessFlags := 1041 }

def heap : Heap := #[{ cls := 6, slots := #[.ref 1, .long 0, .null], vm := .statics 6 },
  { cls := 6, slots := #[.long 0, .int 0], vm := .none }]
def classes : Array Class := #[k0, k1, k2, k3, k4, k5, k6, k7, k8, k9]
def interned : List (Array UInt16 × Addr) := []
def slotsUsed : Nat := 5
def theMethod : MethodId := ⟨1, 1⟩
def args0 : Array Value := #[.int 5]
def aboutOver (below : List Frame) : State where
  vm := { classes := classes, interned := interned.toArray }
  heap := heap
  slotsUsed := slotsUsed
  threads := #[{ frames := .invoking theMethod args0 :: below }]
def below0 : List Frame := [.native { method := ⟨0, 0⟩, args := #[] }]
def about1 : State := aboutOver below0
def p0 : Program := .bare "" "" ""
def e0 : Env := launch0.env 0 0 0
theorem w_frames : about1.frames = Frame.invoking theMethod args0 :: below0 := rfl
set_option maxRecDepth 65536 in
theorem w_args : argsFit about1.vm theMethod args0 = true := by decide +kernel
set_option maxRecDepth 65536 in
theorem w_heap : heapFits about1 = true := by decide +kernel
set_option maxRecDepth 65536 in
theorem w_runnable : about1.curStatus? = some .runnable := by decide +kernel
set_option maxRecDepth 65536 in
theorem w_alone : about1.alone = true := by decide +kernel
set_option maxRecDepth 65536 in
theorem w_named : about1.methodNamed? x = some theMethod := by decide +kernel
set_option maxRecDepth 65536 in
theorem w_hears : about1.hears theMethod below0 = true := by decide +kernel
set_option maxRecDepth 65536 in
theorem w_ripe : about1.ripe theMethod args0 below0 = true := by decide +kernel
theorem w_running : about1.status = .running := rfl
set_option maxRecDepth 65536 in
theorem w_room : about1.hasRoom e0.platform room_1 = true :=
  launch0.hasRoom_least _ room_1 (by decide +kernel) (by decide +kernel) (by decide +kernel) (by decide +kernel) (by decide +kernel) (by decide +kernel)
theorem allAtoms_all (ts : List Jvm.Cond) (a : Array Jvm.Value) (st : Jvm.State) : (allAtoms ts).before a st = ts.all (fun c => c.before a st) := by
  induction ts with
  | nil => rfl
  | cons c t ih =>
    show (Jvm.Cond.and c (allAtoms t)).before a st = _
    rw [Jvm.Cond.before_and, ih, List.all_cons]
def words1 : List Jvm.Cond := Jvm.Cond.code x code maxLocals ret :: tables_1
/-- a 'code' word, met by the world's own term for the bytes: nothing is compared byte by byte -/
theorem code_word {y : MethodName} {bytes : ByteArray} {mx : Nat} {rt : Option FieldType} {a : Array Value} {s : State} {m : MethodId} {meth : Method} {c : Code} (h1 : s.methodNamed? y = some m) (h2 : s.vm.method? m = some meth) (h3 : meth.code = some c) (h4 : c.code = bytes)
    (h5 : (c.maxLocals == mx && c.exceptionTable.isEmpty && decide (c.maxStack ≤ mostOperands) && decide (meth.sig.returnType = rt) && !meth.locks && decide (parseMethodDescriptor y.desc = some meth.sig)) = true) : (Jvm.Cond.code y bytes mx rt).before a s = true := by
  simp only [Bool.and_eq_true, beq_iff_eq, Bool.not_eq_true', decide_eq_true_eq] at h5
  obtain ⟨⟨⟨⟨⟨g1, g2⟩, g3⟩, g4⟩, g5⟩, g6⟩ := h5
  simp [Cond.before, Cond.holds, Cond.value, h1, h2, h3, h4, g1, g2, g3, g4, g5, g6]
def isCode : Jvm.Cond → Bool
  | .code _ _ _ _ => true
  | _ => false
theorem all_split {L : List Jvm.Cond} {P : Jvm.Cond → Bool} (h1 : L.all (fun c => isCode c || P c) = true) (h2 : ∀ c ∈ L.filter isCode, P c = true) : L.all P = true := by
  refine List.all_eq_true.mpr fun c hc => ?_
  have h := List.all_eq_true.mp h1 c hc
  rcases Bool.eq_false_or_eq_true (isCode c) with hi | hi
  · exact h2 c (List.mem_filter.mpr ⟨hc, hi⟩)
  · simpa [hi] using h
set_option maxRecDepth 65536 in
theorem w_c0 : (Jvm.Cond.code x code maxLocals ret).before args0 about1 = true := code_word (m := ⟨1, 1⟩) (meth := k1m1) (c := k1c1) (by decide +kernel) rfl rfl rfl (by decide +kernel)
set_option maxRecDepth 65536 in
theorem w_c1 : (Jvm.Cond.code ({ cls := "com/example/klepsydra/klepsydra/Decision", name := "degraded", desc := "(Z)Lcom/example/klepsydra/klepsydra/Decision;" } : Jvm.MethodName) prog_9_method_4_code (1 : Nat) (Option.some (Jvm.ClassFile.FieldType.object "com/example/klepsydra/klepsydra/Decision"))).before args0 about1 = true := code_word (m := ⟨2, 2⟩) (meth := k2m2) (c := k2c2) (by decide +kernel) rfl rfl rfl (by decide +kernel)
set_option maxRecDepth 65536 in
theorem w_c2 : (Jvm.Cond.code ({ cls := "com/example/klepsydra/klepsydra/Decision", name := "<init>", desc := "(ZILjava/time/Duration;JZ)V" } : Jvm.MethodName) prog_9_method_1_code (7 : Nat) (Option.none : Option Jvm.ClassFile.FieldType)).before args0 about1 = true := code_word (m := ⟨2, 0⟩) (meth := k2m0) (c := k2c0) (by decide +kernel) rfl rfl rfl (by decide +kernel)
set_option maxRecDepth 65536 in
theorem w_c3 : (Jvm.Cond.code ({ cls := "java/lang/Object", name := "<init>", desc := "()V" } : Jvm.MethodName) object_method_1_code (1 : Nat) (Option.none : Option Jvm.ClassFile.FieldType)).before args0 about1 = true := code_word (m := ⟨0, 0⟩) (meth := k0m0) (c := k0c0) (by decide +kernel) rfl rfl rfl (by decide +kernel)
set_option maxRecDepth 65536 in
theorem w_c4 : (Jvm.Cond.code ({ cls := "com/example/klepsydra/klepsydra/Decision", name := "granted", desc := "(J)Lcom/example/klepsydra/klepsydra/Decision;" } : Jvm.MethodName) prog_9_method_2_code (2 : Nat) (Option.some (Jvm.ClassFile.FieldType.object "com/example/klepsydra/klepsydra/Decision"))).before args0 about1 = true := code_word (m := ⟨2, 1⟩) (meth := k2m1) (c := k2c1) (by decide +kernel) rfl rfl rfl (by decide +kernel)
set_option maxRecDepth 65536 in
theorem w_c5 : (Jvm.Cond.code ({ cls := "com/example/klepsydra/klepsydra/Decision", name := "granted", desc := "()Z" } : Jvm.MethodName) prog_9_method_6_code (1 : Nat) (Option.some Jvm.ClassFile.FieldType.boolean)).before args0 about1 = true := code_word (m := ⟨2, 3⟩) (meth := k2m3) (c := k2c3) (by decide +kernel) rfl rfl rfl (by decide +kernel)
set_option maxRecDepth 65536 in
theorem w_c6 : (Jvm.Cond.code ({ cls := "com/example/klepsydra/klepsydra/Decision", name := "degraded", desc := "()Z" } : Jvm.MethodName) prog_9_method_10_code (1 : Nat) (Option.some Jvm.ClassFile.FieldType.boolean)).before args0 about1 = true := code_word (m := ⟨2, 7⟩) (meth := k2m7) (c := k2c7) (by decide +kernel) rfl rfl rfl (by decide +kernel)
set_option maxRecDepth 65536 in
theorem w_c7 : (Jvm.Cond.code ({ cls := "com/example/klepsydra/klepsydra/Decision", name := "refusedBy", desc := "()I" } : Jvm.MethodName) prog_9_method_7_code (1 : Nat) (Option.some Jvm.ClassFile.FieldType.int)).before args0 about1 = true := code_word (m := ⟨2, 4⟩) (meth := k2m4) (c := k2c4) (by decide +kernel) rfl rfl rfl (by decide +kernel)
set_option maxRecDepth 65536 in
theorem w_c8 : (Jvm.Cond.code ({ cls := "com/example/klepsydra/klepsydra/Decision", name := "remaining", desc := "()J" } : Jvm.MethodName) prog_9_method_9_code (1 : Nat) (Option.some Jvm.ClassFile.FieldType.long)).before args0 about1 = true := code_word (m := ⟨2, 6⟩) (meth := k2m6) (c := k2c6) (by decide +kernel) rfl rfl rfl (by decide +kernel)
set_option maxRecDepth 65536 in
theorem w_c9 : (Jvm.Cond.code ({ cls := "com/example/klepsydra/klepsydra/Decision", name := "retryAfter", desc := "()Ljava/time/Duration;" } : Jvm.MethodName) prog_9_method_8_code (1 : Nat) (Option.some (Jvm.ClassFile.FieldType.object "java/time/Duration"))).before args0 about1 = true := code_word (m := ⟨2, 5⟩) (meth := k2m5) (c := k2c5) (by decide +kernel) rfl rfl rfl (by decide +kernel)
def codes1 : List Jvm.Cond := [Jvm.Cond.code x code maxLocals ret, Jvm.Cond.code ({ cls := "com/example/klepsydra/klepsydra/Decision", name := "degraded", desc := "(Z)Lcom/example/klepsydra/klepsydra/Decision;" } : Jvm.MethodName) prog_9_method_4_code (1 : Nat) (Option.some (Jvm.ClassFile.FieldType.object "com/example/klepsydra/klepsydra/Decision")), Jvm.Cond.code ({ cls := "com/example/klepsydra/klepsydra/Decision", name := "<init>", desc := "(ZILjava/time/Duration;JZ)V" } : Jvm.MethodName) prog_9_method_1_code (7 : Nat) (Option.none : Option Jvm.ClassFile.FieldType), Jvm.Cond.code ({ cls := "java/lang/Object", name := "<init>", desc := "()V" } : Jvm.MethodName) object_method_1_code (1 : Nat) (Option.none : Option Jvm.ClassFile.FieldType), Jvm.Cond.code ({ cls := "com/example/klepsydra/klepsydra/Decision", name := "granted", desc := "(J)Lcom/example/klepsydra/klepsydra/Decision;" } : Jvm.MethodName) prog_9_method_2_code (2 : Nat) (Option.some (Jvm.ClassFile.FieldType.object "com/example/klepsydra/klepsydra/Decision")), Jvm.Cond.code ({ cls := "com/example/klepsydra/klepsydra/Decision", name := "granted", desc := "()Z" } : Jvm.MethodName) prog_9_method_6_code (1 : Nat) (Option.some Jvm.ClassFile.FieldType.boolean), Jvm.Cond.code ({ cls := "com/example/klepsydra/klepsydra/Decision", name := "degraded", desc := "()Z" } : Jvm.MethodName) prog_9_method_10_code (1 : Nat) (Option.some Jvm.ClassFile.FieldType.boolean), Jvm.Cond.code ({ cls := "com/example/klepsydra/klepsydra/Decision", name := "refusedBy", desc := "()I" } : Jvm.MethodName) prog_9_method_7_code (1 : Nat) (Option.some Jvm.ClassFile.FieldType.int), Jvm.Cond.code ({ cls := "com/example/klepsydra/klepsydra/Decision", name := "remaining", desc := "()J" } : Jvm.MethodName) prog_9_method_9_code (1 : Nat) (Option.some Jvm.ClassFile.FieldType.long), Jvm.Cond.code ({ cls := "com/example/klepsydra/klepsydra/Decision", name := "retryAfter", desc := "()Ljava/time/Duration;" } : Jvm.MethodName) prog_9_method_8_code (1 : Nat) (Option.some (Jvm.ClassFile.FieldType.object "java/time/Duration"))]
set_option maxRecDepth 65536 in
theorem codes_eq : words1.filter isCode = codes1 := rfl
theorem w_codes : ∀ c ∈ words1.filter isCode, c.before args0 about1 = true := by
  rw [codes_eq]
  intro c hc
  simp only [codes1, List.mem_cons, List.not_mem_nil, or_false] at hc
  rcases hc with rfl | rfl | rfl | rfl | rfl | rfl | rfl | rfl | rfl | rfl
  · exact w_c0
  · exact w_c1
  · exact w_c2
  · exact w_c3
  · exact w_c4
  · exact w_c5
  · exact w_c6
  · exact w_c7
  · exact w_c8
  · exact w_c9
set_option maxRecDepth 65536 in
theorem w_t1 : (words1.take 24).all (fun c => isCode c || c.before args0 about1) = true := by decide +kernel
set_option maxRecDepth 65536 in
theorem w_t2 : ((words1.drop 24).take 24).all (fun c => isCode c || c.before args0 about1) = true := by decide +kernel
set_option maxRecDepth 65536 in
theorem w_t3 : ((words1.drop 24).drop 24).all (fun c => isCode c || c.before args0 about1) = true := by decide +kernel
theorem w_tables : (allAtoms (Jvm.Cond.code x code maxLocals ret :: tables_1)).before args0 about1 = true := by
  rw [allAtoms_all]
  show words1.all (fun c => c.before args0 about1) = true
  refine all_split ?_ w_codes
  rw [← List.take_append_drop 24 words1, List.all_append, w_t1, ← List.take_append_drop 24 (words1.drop 24), List.all_append, w_t2, w_t3]
  rfl
set_option maxRecDepth 65536 in
theorem w_rest : rest_1_c.before args0 about1 = true := by decide +kernel
set_option maxRecDepth 65536 in
theorem w_case : (Jvm.Cond.and given_1 narrow_1).before args0 about1 = true := by decide +kernel
theorem w_applies : (headSpec (Jvm.Cond.code x code maxLocals ret :: tables_1) room_1).applies x e0.platform about1 = true :=
  (Spec.applies_iff w_frames).mpr ⟨w_running, w_runnable, w_alone, w_named, w_hears, w_ripe, w_room, w_tables⟩
theorem atStart : AtStart classFile x code maxLocals ret World_1 tables_1 room_1 Calls_1 rest_1 Pre_1 launch0 p0 e0 about1 theMethod args0 below0 :=
  ⟨lists_1, trivial, launch0.admits_env _ _ _, launch0.least_env, fairChoices_fair.cas, fairChoices_fair.clock, w_frames, w_args, w_heap, w_applies, trivial, w_rest, w_case⟩
end start1
theorem witness_1 : WitnessClaimed_1 := ⟨start1.p0, start1.e0, start1.about1, start1.theMethod, start1.args0, start1.below0, start1.atStart⟩
end Jvm.Pilot.@@N@@
