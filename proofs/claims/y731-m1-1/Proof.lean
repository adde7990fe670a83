import JvmDerived
import JvmDerived.Pilot.@@N@@Statement
import JvmDerived.Pilot.@@N@@Code
set_option linter.unusedVariables false
set_option linter.unusedSimpArgs false
@@BLOCK:NumsL.lean.txt@@
namespace Jvm.RoadKit
open Sem ClassFile Op Lib Jvm.Stand Jvm.Free Jvm.LawKit
section New
variable {p : Program} {l : Launch} {e : Env} {R : Room} {s : State} {m : MethodId} {args : Array Value} {below : List Frame} {meth : Method} {c : Code} {T : State} {locs : List Loc} {cells slots : Nat}
theorem retI (X : Stand p l e R s m args below meth c T locs cells slots) (hx : p.tables.exec = Jvm.exec) {pc : Nat} {Ls : Array Slot} {z : Int32} {rest : List Value} (hret : meth.sig.returnType = some .int) (hd : decode c.code pc = .ok (.ireturn, 1)) {fs : List Frame}
    (hl : ∀ (f : JFrame) (acts : List Action), f.method = m → f.locked = none → f.entered = [] → (doReturn e (T.setTop f) acts (some (.int z))).1 = T.setFrames fs) : Steps p.tables e below (T.setTop (mkF m pc Ls (.int z :: rest))) (T.setFrames fs) := by
  have hm' : T.vm.method? m = some meth := X.method'
  have hn : narrow .int (.int z) = .int z := rfl
  show Steps p.tables e below (T.setTop { method := m, pc := pc, locals := Ls, stack := _ :: rest, locked := none }) _
  jvm_step X.here [X.here.top, hx, hd, hm', hret, hn]
  first | (intro acts; rw [hl _ acts rfl rfl rfl]) | rw [hl _ _ rfl rfl rfl]
  exact Steps.refl _
end New
end Jvm.RoadKit
namespace Jvm.Pilot.@@N@@
open Jvm Jvm.ClassFile Sem Op Lib Jvm.Free Jvm.Stand Jvm.LawKit Jvm.RoadKit Bundle Jvm.Pilot.@@N@@.Jvm.D
theorem own_rem32 (x y : Int32) : (x - (x / y) * y).toInt = x.toInt.tmod y.toInt := by
  rw [Int32.toInt_sub, Int32.toInt_mul, Int32.toInt_div]
  simp only [Int.bmod_mul_bmod, Int.sub_bmod_bmod]
  rw [Int.tmod_def, Int.mul_comm y.toInt]
  have h := Int32.toInt_mod x y
  have h1 := (x % y).toInt_lt
  have h2 := (x % y).le_toInt
  rw [h, Int.tmod_def, Int.mul_comm y.toInt] at h1 h2
  exact Int.bmod_eq_of_le (by omega) (by omega)
theorem d1_0 : decode prog_8_method_1_code 0 = .ok (.aload_n 0, 1) := by decide +kernel
theorem d1_1 : decode prog_8_method_1_code 1 = .ok (.invokespecial 1, 3) := by decide +kernel
theorem d1_4 : decode prog_8_method_1_code 4 = .ok (.aload_n 0, 1) := by decide +kernel
theorem d1_5 : decode prog_8_method_1_code 5 = .ok (.iconst 4, 1) := by decide +kernel
theorem d1_6 : decode prog_8_method_1_code 6 = .ok (.newarray .int, 2) := by decide +kernel
theorem d1_8 : decode prog_8_method_1_code 8 = .ok (.putfield 7, 3) := by decide +kernel
theorem d1_11 : decode prog_8_method_1_code 11 = .ok (.return_, 1) := by decide +kernel
theorem pn_com_example_vellum_index_vellumindex_IntList : plainName "com/example/vellum_index/vellumindex/IntList" = true := by first | (simp [plainName, overriddenIn]; done) | decide +kernel
theorem ef_1 (m : MethodId) (o0 : Addr) : entryFrame m #[(.ref o0)] 1 = mkF m 0 #[.val (.ref o0)] [] := by first | (simp [entryFrame, mkF, argsToLocals, Value.category]; done) | rfl
def Q1 (Z : State) (o0 : Addr) (w0_size : Int32) (u1_values : Value) (h0 : Heap) (n0 : Nat) (v : Option Value) (h : Heap) (L : List Loc) : Prop := Fr n0 L ∧ ∃ (x1_0 : Addr) (k1_1 : ClassId), v = none ∧ h0.size ≤ x1_0 ∧ Keep h0 h [o0] ∧ Exa Z h o0 "com/example/vellum_index/vellumindex/IntList" ∧ Fld Z h o0 "com/example/vellum_index/vellumindex/IntList" "size" "I" (.int w0_size) ∧ Fld Z h o0 "com/example/vellum_index/vellumindex/IntList" "values" "[I" (.ref x1_0) ∧ Exa Z h x1_0 "[I" ∧ Arv Z h x1_0 k1_1 .int (4 : Int32) [(.int (0 : Int32)), (.int (0 : Int32)), (.int (0 : Int32)), (.int (0 : Int32))] (.int (0 : Int32))
set_option maxRecDepth 65536 in
set_option maxHeartbeats 40000000 in
theorem rm1 (l : Launch) (Z : State) (a0 : Array Value) (hw : ∀ d ∈ tables_1, d.before a0 Z = true) (ws : List Jvm.Cond) (o0 : Addr) (w0_size : Int32) (u1_values : Value) (h0 : Heap) (n0 : Nat) (Z0 : n0 ≤ h0.size) (E_o0 : Exa Z h0 o0 "com/example/vellum_index/vellumindex/IntList") (F_size_o0 : Fld Z h0 o0 "com/example/vellum_index/vellumindex/IntList" "size" "I" (.int w0_size)) (F_values_o0 : Fld Z h0 o0 "com/example/vellum_index/vellumindex/IntList" "values" "[I" u1_values) (g_o0 : n0 ≤ o0) :
    MetFree l (⟨"com/example/vellum_index/vellumindex/IntList", "<init>", "()V"⟩ : MethodName) (head1 (Jvm.Cond.code (⟨"com/example/vellum_index/vellumindex/IntList", "<init>", "()V"⟩ : MethodName) prog_8_method_1_code 1 none :: ws) ({ frames := 1, cells := 1, slots := 4, locals := 12 } : Room)) (fun a U => a = #[(.ref o0)] ∧ Z.Warmed39 U.vm ∧ U.heap = h0) (fun _ _ _ _ _ => True) (fun _ U o U' => ∃ v L, o = .returned v ∧ Q1 Z o0 w0_size u1_values h0 n0 v U'.heap L ∧ FrameEnd U o U' L ({ frames := 1, cells := 1, slots := 4, locals := 12 } : Room).cells ({ frames := 1, cells := 1, slots := 4, locals := 12 } : Room).slots) := by
  refine MetFree.of_bodySF (plainFor_of_name pn_com_example_vellum_index_vellumindex_IntList) hisR ?_
  intro p e s m args below meth c s₁ Bd hml0 hP hK
  obtain ⟨rfl, hZ, hh⟩ := hP
  have hx := Bd.exec
  have hby := Bd.bytes
  have hml : c.maxLocals = 1 := hml0
  have hown : s.vm.findClass "com/example/vellum_index/vellumindex/IntList" = some m.cls := findClass_of_methodNamed Bd.named
  have hnm := (name_of_methodNamed Bd.named Bd.method).1
  have hlk := BodyLoose.notSynchronized Bd
  have X0 : Stand p l e ({ frames := 1, cells := 1, slots := 4, locals := 12 } : Room) s m #[(.ref o0)] below meth c s₁ [] 0 0 := Stand.of_body Bd
  have e0 : s₁.heap = h0 := by rw [← hh, Bd.state]; rfl
  have N0 := Fr.nil n0
  have pre0 : ∀ t, Steps p.tables e below (s₁.setTop (mkF m 0 #[.val (.ref o0)] [])) t → Steps p.tables e below (s₁.setTop (entryFrame m #[(.ref o0)] 1)) t := fun t k => castTop (ef_1 m o0) k
  obtain ⟨T1, X1, e1, st1⟩ := initO X0 hx hZ hown (hw _ (List.mem_of_getElem? (i := 8) rfl)) (hw _ (List.mem_of_getElem? (i := 9) rfl)) (hw _ (List.mem_of_getElem? (i := 10) rfl)) e0 (g := (mkF m 1 #[.val (.ref o0)] [(.ref o0)])) rfl (by rw [hml]; rfl) rfl (hb hby d1_1) (by decide) (W := 0) (by show 2 * 0 + _ ≤ _; exact Nat.le_of_eq rfl) (by decide)
  obtain ⟨T2, h2, k2, X2, e2, E2, A2, EA2, st2⟩ := newPE X1 hx hZ (hw _ (List.mem_of_getElem? (i := 1) rfl)) e1 (g := (mkF m 6 #[.val (.ref o0)] [(.int (4 : Int32)), (.ref o0)])) rfl (hb hby d1_6) rfl (by decide) (cap := 4) (by decide) (by decide) (by decide) (by decide) (ad := "[I") rfl
  obtain ⟨b2, gz2⟩ : ∃ z, z = h0.size := ⟨_, rfl⟩
  rw [← gz2] at A2 EA2 st2
  have ne3 : o0 ≠ b2 := Nat.ne_of_lt (Nat.lt_of_lt_of_le E_o0.lt (Nat.le_of_eq gz2.symm))
  have g4 : n0 ≤ b2 := Nat.le_trans Z0 (Nat.le_of_eq gz2.symm)
  have sz5 : h0.size ≤ b2 := Nat.le_trans (Nat.le_refl h0.size) (Nat.le_of_eq gz2.symm)
  have z6 : n0 ≤ h2.size := Nat.le_trans Z0 E2.1
  have hs7 : h0.size ≤ h2.size := Nat.le_trans (Nat.le_refl h0.size) E2.1
  have V2 : Arv Z h2 b2 k2 .int (4 : Int32) [(.int (0 : Int32)), (.int (0 : Int32)), (.int (0 : Int32)), (.int (0 : Int32))] (.int (0 : Int32)) := (Arv.new A2 (by decide)).pad (pad_rep [] (.int (0 : Int32)) 4)
  have k8 := (F_values_o0.ext E2)
  have k9 := (E_o0.ext E2)
  obtain ⟨T10, h10, X10, e10, W10, st10⟩ := putF X2 hx hZ hown (host := "") (Or.inl (hw _ (List.mem_of_getElem? (i := 11) rfl))) Via.refl e2 k8 k9 (Or.inl (hw _ (List.mem_of_getElem? (i := 12) rfl))) (hw _ (List.mem_of_getElem? (i := 3) rfl)) (ty := (.array .int)) (by decide) rfl rfl (g := (mkF m 8 #[.val (.ref o0)] [(.ref b2), (.ref o0)])) rfl rfl (hb hby d1_8)
  have Fw10 := k8.same W10
  have N10 := Fr.snoc X10 N0 g_o0
  have z11 : n0 ≤ h10.size := Nat.le_trans z6 (Keep.of_wr W10).1
  have hs12 : h0.size ≤ h10.size := Nat.le_trans hs7 (Keep.of_wr W10).1
  obtain ⟨fs, hr, hrun, hended, hW, hsame⟩ := X10.leave (v := none) (fun _ => rfl) hlk
  refine ⟨_, _, pre0 _ ?_, hrun, hended, _, _, rfl, ?_, ⟨_, rfl⟩, hW, hsame.mono (by decide) (by decide)⟩
  · skip
    show Steps p.tables e below (s₁.setTop (mkF m 0 #[.val (.ref o0)] [])) _
    refine XS.aloadN X0.here hx rfl (hb hby d1_0) rfl rfl ?_
    show Steps p.tables e below (s₁.setTop (mkF m 1 #[.val (.ref o0)] [(.ref o0)])) _
    refine st1 _ ?_
    show Steps p.tables e below (T1.setTop (mkF m 4 #[.val (.ref o0)] [])) _
    refine XS.aloadN X1.here hx rfl (hb hby d1_4) rfl rfl ?_
    show Steps p.tables e below (T1.setTop (mkF m 5 #[.val (.ref o0)] [(.ref o0)])) _
    refine XT.iconstV X1.here hx rfl (4 : Int32) (hb hby d1_5) (by decide) ?_
    show Steps p.tables e below (T1.setTop (mkF m 6 #[.val (.ref o0)] [(.int (4 : Int32)), (.ref o0)])) _
    refine st2 _ ?_
    show Steps p.tables e below (T2.setTop (mkF m 8 #[.val (.ref o0)] [(.ref b2), (.ref o0)])) _
    refine st10 _ ?_
    show Steps p.tables e below (T10.setTop (mkF m 11 #[.val (.ref o0)] [])) _
    exact X10.returnOut hx Bd.returns (hb hby d1_11) hr
  · skip
    show Q1 Z o0 w0_size u1_values h0 n0 _ T10.heap _
    rw [e10]
    have k13 := (k9.wr W10)
    have k14 := ((F_size_o0.ext E2).other W10 (Or.inr (slot_ne (Or.inl (hw _ (List.mem_of_getElem? (i := 19) rfl))) (Or.inl (hw _ (List.mem_of_getElem? (i := 12) rfl))) (by decide) (t := .int) (t' := (.array .int)) (by decide) (by decide))))
    have k15 := (EA2.wr W10)
    have k16 := (V2.other W10 (Ne.symm ne3))
    exact ⟨N10, b2, k2, rfl, sz5, (((Keep.refl h0 [o0]).ext E2).wr W10 (Or.inl (List.mem_of_getElem? (i := 0) rfl))), k13, k14, Fw10, k15, k16⟩
theorem d7_0 : decode jdk_29_method_69_code 0 = .ok (.iload_n 0, 1) := by decide +kernel
theorem d7_1 : decode jdk_29_method_69_code 1 = .ok (.iload_n 1, 1) := by decide +kernel
theorem d7_2 : decode jdk_29_method_69_code 2 = .ok (.if_icmp .gt 7, 3) := by decide +kernel
theorem d7_5 : decode jdk_29_method_69_code 5 = .ok (.iload_n 0, 1) := by decide +kernel
theorem d7_6 : decode jdk_29_method_69_code 6 = .ok (.goto 4, 3) := by decide +kernel
theorem d7_9 : decode jdk_29_method_69_code 9 = .ok (.iload_n 1, 1) := by decide +kernel
theorem d7_10 : decode jdk_29_method_69_code 10 = .ok (.ireturn, 1) := by decide +kernel
theorem ef_7 (m : MethodId) (p0 : Int32) (p1 : Int32) : entryFrame m #[(.int p0), (.int p1)] 2 = mkF m 0 #[.val (.int p0), .val (.int p1)] [] := by first | (simp [entryFrame, mkF, argsToLocals, Value.category]; done) | rfl
def v7_1 (p0 : Int32) (p1 : Int32) : Int32 := (if p1 < p0 then p1 else p0)
def f7 (p0 : Int32) (p1 : Int32) : Int32 := (v7_1 p0 p1)
def Q7 (Z : State) (p0 : Int32) (p1 : Int32) (h0 : Heap) (n0 : Nat) (v : Option Value) (h : Heap) (L : List Loc) : Prop := Fr n0 L ∧ v = some (.int (f7 p0 p1)) ∧ h = h0
set_option maxRecDepth 65536 in
set_option maxHeartbeats 40000000 in
theorem rm7 (l : Launch) (Z : State) (a0 : Array Value) (hw : ∀ d ∈ tables_1, d.before a0 Z = true) (ws : List Jvm.Cond) (p0 : Int32) (p1 : Int32) (h0 : Heap) (n0 : Nat) (Z0 : n0 ≤ h0.size) :
    MetFree l (⟨"java/lang/Math", "min", "(II)I"⟩ : MethodName) (head1 (Jvm.Cond.code (⟨"java/lang/Math", "min", "(II)I"⟩ : MethodName) jdk_29_method_69_code 2 (some .int) :: ws) ({ frames := 0, cells := 0, slots := 0, locals := 0 } : Room)) (fun a U => a = #[(.int p0), (.int p1)] ∧ Z.Warmed39 U.vm ∧ U.heap = h0) (fun _ _ _ _ _ => True) (fun _ U o U' => ∃ v L, o = .returned v ∧ Q7 Z p0 p1 h0 n0 v U'.heap L ∧ FrameEnd U o U' L ({ frames := 0, cells := 0, slots := 0, locals := 0 } : Room).cells ({ frames := 0, cells := 0, slots := 0, locals := 0 } : Room).slots) := by
  refine MetFree.of_bodySF (Jvm.Free.JP.mathPlain rfl (by decide +kernel)) hisR ?_
  intro p e s m args below meth c s₁ Bd hml0 hP hK
  obtain ⟨rfl, hZ, hh⟩ := hP
  have hx := Bd.exec
  have hby := Bd.bytes
  have hml : c.maxLocals = 2 := hml0
  have hown : s.vm.findClass "java/lang/Math" = some m.cls := findClass_of_methodNamed Bd.named
  have hnm := (name_of_methodNamed Bd.named Bd.method).1
  have hlk := BodyLoose.notSynchronized Bd
  have X0 : Stand p l e ({ frames := 0, cells := 0, slots := 0, locals := 0 } : Room) s m #[(.int p0), (.int p1)] below meth c s₁ [] 0 0 := Stand.of_body Bd
  have e0 : s₁.heap = h0 := by rw [← hh, Bd.state]; rfl
  have N0 := Fr.nil n0
  have pre0 : ∀ t, Steps p.tables e below (s₁.setTop (mkF m 0 #[.val (.int p0), .val (.int p1)] [])) t → Steps p.tables e below (s₁.setTop (entryFrame m #[(.int p0), (.int p1)] 2)) t := fun t k => castTop (ef_7 m p0 p1) k
  have pre1 : ∀ t, Steps p.tables e below (s₁.setTop (mkF m 2 #[.val (.int p0), .val (.int p1)] [(.int p1), (.int p0)])) t → Steps p.tables e below (s₁.setTop (entryFrame m #[(.int p0), (.int p1)] 2)) t := by
    intro t k
    refine pre0 t ?_
    show Steps p.tables e below (s₁.setTop (mkF m 0 #[.val (.int p0), .val (.int p1)] [])) _
    refine XS.iloadN X0.here hx rfl (hb hby d7_0) rfl ?_
    show Steps p.tables e below (s₁.setTop (mkF m 1 #[.val (.int p0), .val (.int p1)] [(.int p0)])) _
    refine XS.iloadN X0.here hx rfl (hb hby d7_1) rfl ?_
    exact k
  clear pre0
  have pre3 : ∀ t, Steps p.tables e below (s₁.setTop (mkF m 10 #[.val (.int p0), .val (.int p1)] [(.int (v7_1 p0 p1))])) t → Steps p.tables e below (s₁.setTop (entryFrame m #[(.int p0), (.int p1)] 2)) t := by
    intro t k
    by_cases c2 : p1 < p0
    · skip
      rw [show (v7_1 p0 p1) = p1 from (if_pos c2)] at k
      refine pre1 t ?_
      show Steps p.tables e below (s₁.setTop (mkF m 2 #[.val (.int p0), .val (.int p1)] [(.int p1), (.int p0)])) _
      refine XS.icmpYes X0.here hx rfl (pc0 := 2) (pc' := 9) rfl (hb hby d7_2) rfl (XT.ii_gt_t c2) (by decide) (by decide) ?_
      show Steps p.tables e below (s₁.setTop (mkF m 9 #[.val (.int p0), .val (.int p1)] [])) _
      refine XS.iloadN X0.here hx rfl (hb hby d7_9) rfl ?_
      exact k
    · skip
      rw [show (v7_1 p0 p1) = p0 from (if_neg c2)] at k
      refine pre1 t ?_
      show Steps p.tables e below (s₁.setTop (mkF m 2 #[.val (.int p0), .val (.int p1)] [(.int p1), (.int p0)])) _
      refine XS.icmpNo X0.here hx rfl (hb hby d7_2) rfl (XT.ii_gt_f c2) ?_
      show Steps p.tables e below (s₁.setTop (mkF m 5 #[.val (.int p0), .val (.int p1)] [])) _
      refine XS.iloadN X0.here hx rfl (hb hby d7_5) rfl ?_
      show Steps p.tables e below (s₁.setTop (mkF m 6 #[.val (.int p0), .val (.int p1)] [(.int p0)])) _
      refine XS.goto X0.here hx rfl (pc0 := 6) (pc' := 10) rfl (hb hby d7_6) (by decide) (by decide) ?_
      exact k
  obtain ⟨fs, hr, hrun, hended, hW, hsame⟩ := X0.leave (v := some (.int (v7_1 p0 p1))) (fun h => by rw [Bd.returns] at h; cases h) hlk
  refine ⟨_, _, pre3 _ ?_, hrun, hended, _, _, rfl, ?_, ⟨_, rfl⟩, hW, hsame.mono (by decide) (by decide)⟩
  · skip
    show Steps p.tables e below (s₁.setTop (mkF m 10 #[.val (.int p0), .val (.int p1)] [(.int (v7_1 p0 p1))])) _
    exact retI X0 hx Bd.returns (hb hby d7_10) hr
  · skip
    show Q7 Z p0 p1 h0 n0 _ s₁.heap _
    rw [e0]
    exact ⟨N0, rfl, rfl⟩
theorem pd__II_I : parseMethodDescriptor "(II)I" = some ⟨[.int, .int], some .int⟩ := by decide +kernel
theorem d6_0 : decode jdk_65_method_123_code 0 = .ok (.iload_n 1, 1) := by decide +kernel
theorem d6_1 : decode jdk_65_method_123_code 1 = .ok (.aload_n 0, 1) := by decide +kernel
theorem d6_2 : decode jdk_65_method_123_code 2 = .ok (.arraylength, 1) := by decide +kernel
theorem d6_3 : decode jdk_65_method_123_code 3 = .ok (.if_icmp .ne 11, 3) := by decide +kernel
theorem d6_14 : decode jdk_65_method_123_code 14 = .ok (.iload_n 1, 1) := by decide +kernel
theorem d6_15 : decode jdk_65_method_123_code 15 = .ok (.newarray .int, 2) := by decide +kernel
theorem d6_17 : decode jdk_65_method_123_code 17 = .ok (.astore_n 2, 1) := by decide +kernel
theorem d6_18 : decode jdk_65_method_123_code 18 = .ok (.aload_n 0, 1) := by decide +kernel
theorem d6_19 : decode jdk_65_method_123_code 19 = .ok (.iconst 0, 1) := by decide +kernel
theorem d6_20 : decode jdk_65_method_123_code 20 = .ok (.aload_n 2, 1) := by decide +kernel
theorem d6_21 : decode jdk_65_method_123_code 21 = .ok (.iconst 0, 1) := by decide +kernel
theorem d6_22 : decode jdk_65_method_123_code 22 = .ok (.aload_n 0, 1) := by decide +kernel
theorem d6_23 : decode jdk_65_method_123_code 23 = .ok (.arraylength, 1) := by decide +kernel
theorem d6_24 : decode jdk_65_method_123_code 24 = .ok (.iload_n 1, 1) := by decide +kernel
theorem d6_25 : decode jdk_65_method_123_code 25 = .ok (.invokestatic 304, 3) := by decide +kernel
theorem d6_28 : decode jdk_65_method_123_code 28 = .ok (.invokestatic 150, 3) := by decide +kernel
theorem d6_31 : decode jdk_65_method_123_code 31 = .ok (.aload_n 2, 1) := by decide +kernel
theorem d6_32 : decode jdk_65_method_123_code 32 = .ok (.areturn, 1) := by decide +kernel
theorem pn_java_util_Arrays : plainName "java/util/Arrays" = true := by first | (simp [plainName, overriddenIn]; done) | decide +kernel
theorem ef_cp4_8 (m : MethodId) (o0 : Addr) : entryFrame m #[(.ref o0), (.int (8 : Int32))] 3 = mkF m 0 #[.val (.ref o0), .val (.int (8 : Int32)), .unset] [] := by first | (simp [entryFrame, mkF, argsToLocals, Value.category]; done) | rfl
def Qcp4_8 (Z : State) (o0 : Addr) (w10_e : Int32) (w11_e : Int32) (w12_e : Int32) (w13_e : Int32) (kA : ClassId) (h0 : Heap) (n0 : Nat) (v : Option Value) (h : Heap) (L : List Loc) : Prop := Fr n0 L ∧ ∃ (xcp4_8_0 : Addr) (kcp4_8_1 : ClassId), v = some (.ref xcp4_8_0) ∧ h0.size ≤ xcp4_8_0 ∧ Keep h0 h [] ∧ Exa Z h xcp4_8_0 "[I" ∧ Arv Z h xcp4_8_0 kcp4_8_1 .int (8 : Int32) [(.int w10_e), (.int w11_e), (.int w12_e), (.int w13_e), (.int (0 : Int32)), (.int (0 : Int32)), (.int (0 : Int32)), (.int (0 : Int32))] (.int (0 : Int32))
set_option maxRecDepth 65536 in
set_option maxHeartbeats 40000000 in
theorem rmcp4_8 (l : Launch) (Z : State) (a0 : Array Value) (hw : ∀ d ∈ tables_1, d.before a0 Z = true) (ws : List Jvm.Cond) (o0 : Addr) (w10_e : Int32) (w11_e : Int32) (w12_e : Int32) (w13_e : Int32) (kA : ClassId) (h0 : Heap) (n0 : Nat) (Z0 : n0 ≤ h0.size) (E_o0 : Exa Z h0 o0 "[I") (V_o0 : Arv Z h0 o0 kA .int (4 : Int32) [(.int w10_e), (.int w11_e), (.int w12_e), (.int w13_e)] (.int (0 : Int32))) :
    MetFree l (⟨"java/util/Arrays", "copyOf", "([II)[I"⟩ : MethodName) (head1 (Jvm.Cond.code (⟨"java/util/Arrays", "copyOf", "([II)[I"⟩ : MethodName) jdk_65_method_123_code 3 (some (.array .int)) :: ws) ({ frames := 1, cells := 1, slots := 8, locals := 18 } : Room)) (fun a U => a = #[(.ref o0), (.int (8 : Int32))] ∧ Z.Warmed39 U.vm ∧ U.heap = h0) (fun _ _ _ _ _ => True) (fun _ U o U' => ∃ v L, o = .returned v ∧ Qcp4_8 Z o0 w10_e w11_e w12_e w13_e kA h0 n0 v U'.heap L ∧ FrameEnd U o U' L ({ frames := 1, cells := 1, slots := 8, locals := 18 } : Room).cells ({ frames := 1, cells := 1, slots := 8, locals := 18 } : Room).slots) := by
  refine MetFree.of_bodySF (plainFor_of_name pn_java_util_Arrays) hisR ?_
  intro p e s m args below meth c s₁ Bd hml0 hP hK
  obtain ⟨rfl, hZ, hh⟩ := hP
  have hx := Bd.exec
  have hby := Bd.bytes
  have hml : c.maxLocals = 3 := hml0
  have hown : s.vm.findClass "java/util/Arrays" = some m.cls := findClass_of_methodNamed Bd.named
  have hnm := (name_of_methodNamed Bd.named Bd.method).1
  have hlk := BodyLoose.notSynchronized Bd
  have X0 : Stand p l e ({ frames := 1, cells := 1, slots := 8, locals := 18 } : Room) s m #[(.ref o0), (.int (8 : Int32))] below meth c s₁ [] 0 0 := Stand.of_body Bd
  have e0 : s₁.heap = h0 := by rw [← hh, Bd.state]; rfl
  have N0 := Fr.nil n0
  have pre0 : ∀ t, Steps p.tables e below (s₁.setTop (mkF m 0 #[.val (.ref o0), .val (.int (8 : Int32)), .unset] [])) t → Steps p.tables e below (s₁.setTop (entryFrame m #[(.ref o0), (.int (8 : Int32))] 3)) t := fun t k => castTop (ef_cp4_8 m o0) k
  obtain ⟨cl1, Ar1, qc1, S1, M1, Ha1, G1⟩ := id V_o0
  obtain ⟨T2, h2, k2, X2, e2, E2, A2, EA2, st2⟩ := newPE X0 hx hZ (hw _ (List.mem_of_getElem? (i := 1) rfl)) e0 (g := (mkF m 15 #[.val (.ref o0), .val (.int (8 : Int32)), .unset] [(.int (8 : Int32))])) rfl (hb hby d6_15) rfl (by decide) (cap := 8) (by decide) (by decide) (by decide) (by decide) (ad := "[I") rfl
  obtain ⟨b2, gz2⟩ : ∃ z, z = h0.size := ⟨_, rfl⟩
  rw [← gz2] at A2 EA2 st2
  have ne3 : o0 ≠ b2 := Nat.ne_of_lt (Nat.lt_of_lt_of_le E_o0.lt (Nat.le_of_eq gz2.symm))
  have g4 : n0 ≤ b2 := Nat.le_trans Z0 (Nat.le_of_eq gz2.symm)
  have sz5 : h0.size ≤ b2 := Nat.le_trans (Nat.le_refl h0.size) (Nat.le_of_eq gz2.symm)
  have z6 : n0 ≤ h2.size := Nat.le_trans Z0 E2.1
  have hs7 : h0.size ≤ h2.size := Nat.le_trans (Nat.le_refl h0.size) E2.1
  have V2 : Arv Z h2 b2 k2 .int (8 : Int32) [(.int (0 : Int32)), (.int (0 : Int32)), (.int (0 : Int32)), (.int (0 : Int32)), (.int (0 : Int32)), (.int (0 : Int32)), (.int (0 : Int32)), (.int (0 : Int32))] (.int (0 : Int32)) := (Arv.new A2 (by decide)).pad (pad_rep [] (.int (0 : Int32)) 8)
  have k8 := (V_o0.ext E2)
  obtain ⟨cl9, Ar9, qc9, S9, M9, Ha9, G9⟩ := id k8
  obtain ⟨vr10, _, ⟨T10, L10, k10, n10⟩, -, X10, ⟨Lc10, hQ10, l10, y10, z10⟩, st10⟩ := Jvm.LawKit.callS X2 hx (y := (⟨"java/lang/Math", "min", "(II)I"⟩ : MethodName)) hown (mvT hZ (hw _ (List.mem_of_getElem? (i := 34) rfl))) (mvT hZ (hw _ (List.mem_of_getElem? (i := 35) rfl))) (mvT hZ (hw _ (List.mem_of_getElem? (i := 36) rfl))) (mvT hZ (hw _ (List.mem_of_getElem? (i := 37) rfl))) (by decide) (backOf (W := 4) (rm7 l Z a0 hw [] (4 : Int32) (8 : Int32) h2 n0 z6) hZ (hw _ (List.mem_of_getElem? (i := 37) rfl)) (hw _ (List.mem_of_getElem? (i := 36) rfl)) (by decide) (by decide)) (g := (mkF m 25 #[.val (.ref o0), .val (.int (8 : Int32)), .val (.ref b2)] [(.int (8 : Int32)), (.int (4 : Int32)), (.int (0 : Int32)), (.ref b2), (.int (0 : Int32)), (.ref o0)])) rfl (by rw [hml]; rfl) (argsL := [(.int (4 : Int32)), (.int (8 : Int32))]) (rest := [(.int (0 : Int32)), (.ref b2), (.int (0 : Int32)), (.ref o0)]) (lenOf pd__II_I rfl) rfl (by show 2 * 0 + _ ≤ _; exact Nat.le_of_eq rfl) (hb hby d6_25) (fun _ _ => ⟨rfl, e2, (by decide : 1 + 0 ≤ _), (by decide : 8 + 0 ≤ _)⟩)
  dsimp only [Pt.U, Pt.locs, Pt.cells, Pt.slots] at X10 l10 y10 z10 st10 hQ10
  subst l10 y10 z10
  have N10q := (show _ ∧ _ ∧ _ from hQ10).1
  have hv10 := (show _ ∧ _ ∧ _ from hQ10).2.1
  have e10 := (show _ ∧ _ ∧ _ from hQ10).2.2
  clear hQ10
  subst hv10
  have N10 := Fr.app N0 N10q
  obtain ⟨T11, h11, L11, X11, e11, N11, K11, V11r, st11⟩ := cpA X10 hx hZ hown (hw _ (List.mem_of_getElem? (i := 38) rfl)) (hw _ (List.mem_of_getElem? (i := 41) rfl)) (hw _ (List.mem_of_getElem? (i := 39) rfl)) (hw _ (List.mem_of_getElem? (i := 40) rfl)) e10 k8 V2 (us := [(.int w10_e), (.int w11_e), (.int w12_e), (.int w13_e)]) (Or.inl ⟨rfl, rfl⟩) (by decide) (by decide) (by decide) (Nat.le_of_ble_eq_true rfl) (Nat.le_of_ble_eq_true rfl) rfl (Nat.le_of_ble_eq_true rfl) N10 g4 (g := (mkF m 28 #[.val (.ref o0), .val (.int (8 : Int32)), .val (.ref b2)] [(.int (4 : Int32)), (.int (0 : Int32)), (.ref b2), (.int (0 : Int32)), (.ref o0)])) rfl (by rw [hml]; rfl) rfl (hb hby d6_28) (by decide) (W := 0) (by show 2 * 0 + _ ≤ _; exact Nat.le_of_eq rfl) (by decide)
  have V11 : Arv Z h11 b2 k2 .int (8 : Int32) [(.int w10_e), (.int w11_e), (.int w12_e), (.int w13_e), (.int (0 : Int32)), (.int (0 : Int32)), (.int (0 : Int32)), (.int (0 : Int32))] (.int (0 : Int32)) := V11r
  have z12 : n0 ≤ h11.size := Nat.le_trans z6 K11.1
  have hs13 : h0.size ≤ h11.size := Nat.le_trans hs7 K11.1
  obtain ⟨fs, hr, hrun, hended, hW, hsame⟩ := X11.leave (v := some (.ref b2)) (fun h => by rw [Bd.returns] at h; cases h) hlk
  refine ⟨_, _, pre0 _ ?_, hrun, hended, _, _, rfl, ?_, ⟨_, rfl⟩, hW, hsame.mono (by decide) (by decide)⟩
  · skip
    show Steps p.tables e below (s₁.setTop (mkF m 0 #[.val (.ref o0), .val (.int (8 : Int32)), .unset] [])) _
    refine XS.iloadN X0.here hx rfl (hb hby d6_0) rfl ?_
    show Steps p.tables e below (s₁.setTop (mkF m 1 #[.val (.ref o0), .val (.int (8 : Int32)), .unset] [(.int (8 : Int32))])) _
    refine XS.aloadN X0.here hx rfl (hb hby d6_1) rfl rfl ?_
    show Steps p.tables e below (s₁.setTop (mkF m 2 #[.val (.ref o0), .val (.int (8 : Int32)), .unset] [(.ref o0), (.int (8 : Int32))])) _
    refine X0.arraylength hx (by rw [e0]; exact Ar1.1) (State.isArrayOf_alike hZ.alike Ar1.2.1) (g := (mkF m 2 #[.val (.ref o0), .val (.int (8 : Int32)), .unset] [(.ref o0), (.int (8 : Int32))])) rfl rfl (hb hby d6_2) _ ?_
    rw [len_of S1 M1]
    show Steps p.tables e below (s₁.setTop (mkF m 3 #[.val (.ref o0), .val (.int (8 : Int32)), .unset] [(.int (4 : Int32)), (.int (8 : Int32))])) _
    refine XS.icmpYes X0.here hx rfl (pc0 := 3) (pc' := 14) rfl (hb hby d6_3) rfl (XT.ii_ne_t (by decide)) (by decide) (by decide) ?_
    show Steps p.tables e below (s₁.setTop (mkF m 14 #[.val (.ref o0), .val (.int (8 : Int32)), .unset] [])) _
    refine XS.iloadN X0.here hx rfl (hb hby d6_14) rfl ?_
    show Steps p.tables e below (s₁.setTop (mkF m 15 #[.val (.ref o0), .val (.int (8 : Int32)), .unset] [(.int (8 : Int32))])) _
    refine st2 _ ?_
    show Steps p.tables e below (T2.setTop (mkF m 17 #[.val (.ref o0), .val (.int (8 : Int32)), .unset] [(.ref b2)])) _
    refine XS.astoreN X2.here hx rfl (hb hby d6_17) rfl rfl (l' := #[.val (.ref o0), .val (.int (8 : Int32)), .val (.ref b2)]) rfl ?_
    show Steps p.tables e below (T2.setTop (mkF m 18 #[.val (.ref o0), .val (.int (8 : Int32)), .val (.ref b2)] [])) _
    refine XS.aloadN X2.here hx rfl (hb hby d6_18) rfl rfl ?_
    show Steps p.tables e below (T2.setTop (mkF m 19 #[.val (.ref o0), .val (.int (8 : Int32)), .val (.ref b2)] [(.ref o0)])) _
    refine XT.iconstV X2.here hx rfl (0 : Int32) (hb hby d6_19) (by decide) ?_
    show Steps p.tables e below (T2.setTop (mkF m 20 #[.val (.ref o0), .val (.int (8 : Int32)), .val (.ref b2)] [(.int (0 : Int32)), (.ref o0)])) _
    refine XS.aloadN X2.here hx rfl (hb hby d6_20) rfl rfl ?_
    show Steps p.tables e below (T2.setTop (mkF m 21 #[.val (.ref o0), .val (.int (8 : Int32)), .val (.ref b2)] [(.ref b2), (.int (0 : Int32)), (.ref o0)])) _
    refine XT.iconstV X2.here hx rfl (0 : Int32) (hb hby d6_21) (by decide) ?_
    show Steps p.tables e below (T2.setTop (mkF m 22 #[.val (.ref o0), .val (.int (8 : Int32)), .val (.ref b2)] [(.int (0 : Int32)), (.ref b2), (.int (0 : Int32)), (.ref o0)])) _
    refine XS.aloadN X2.here hx rfl (hb hby d6_22) rfl rfl ?_
    show Steps p.tables e below (T2.setTop (mkF m 23 #[.val (.ref o0), .val (.int (8 : Int32)), .val (.ref b2)] [(.ref o0), (.int (0 : Int32)), (.ref b2), (.int (0 : Int32)), (.ref o0)])) _
    refine X2.arraylength hx (by rw [e2]; exact Ar9.1) (State.isArrayOf_alike hZ.alike Ar9.2.1) (g := (mkF m 23 #[.val (.ref o0), .val (.int (8 : Int32)), .val (.ref b2)] [(.ref o0), (.int (0 : Int32)), (.ref b2), (.int (0 : Int32)), (.ref o0)])) rfl rfl (hb hby d6_23) _ ?_
    rw [len_of S9 M9]
    show Steps p.tables e below (T2.setTop (mkF m 24 #[.val (.ref o0), .val (.int (8 : Int32)), .val (.ref b2)] [(.int (4 : Int32)), (.int (0 : Int32)), (.ref b2), (.int (0 : Int32)), (.ref o0)])) _
    refine XS.iloadN X2.here hx rfl (hb hby d6_24) rfl ?_
    show Steps p.tables e below (T2.setTop (mkF m 25 #[.val (.ref o0), .val (.int (8 : Int32)), .val (.ref b2)] [(.int (8 : Int32)), (.int (4 : Int32)), (.int (0 : Int32)), (.ref b2), (.int (0 : Int32)), (.ref o0)])) _
    refine st10 _ ?_
    show Steps p.tables e below (T10.setTop (mkF m 28 #[.val (.ref o0), .val (.int (8 : Int32)), .val (.ref b2)] [(.int (4 : Int32)), (.int (0 : Int32)), (.ref b2), (.int (0 : Int32)), (.ref o0)])) _
    refine st11 _ ?_
    show Steps p.tables e below (T11.setTop (mkF m 31 #[.val (.ref o0), .val (.int (8 : Int32)), .val (.ref b2)] [])) _
    refine XS.aloadN X11.here hx rfl (hb hby d6_31) rfl rfl ?_
    show Steps p.tables e below (T11.setTop (mkF m 32 #[.val (.ref o0), .val (.int (8 : Int32)), .val (.ref b2)] [(.ref b2)])) _
    exact X11.areturnOut hx rfl Bd.returns rfl (hb hby d6_32) hr
  · skip
    show Qcp4_8 Z o0 w10_e w11_e w12_e w13_e kA h0 n0 _ T11.heap _
    rw [e11]
    have k14 := (EA2.keep K11)
    exact ⟨N11, b2, k2, rfl, sz5, (((Keep.refl h0 []).ext E2).trans K11 (allS (Or.inr sz5) all0)), k14, V11⟩
theorem ef_cp8_16 (m : MethodId) (o0 : Addr) : entryFrame m #[(.ref o0), (.int (16 : Int32))] 3 = mkF m 0 #[.val (.ref o0), .val (.int (16 : Int32)), .unset] [] := by first | (simp [entryFrame, mkF, argsToLocals, Value.category]; done) | rfl
def Qcp8_16 (Z : State) (o0 : Addr) (w10_e : Int32) (w11_e : Int32) (w12_e : Int32) (w13_e : Int32) (w14_e : Int32) (w15_e : Int32) (w16_e : Int32) (w17_e : Int32) (kA : ClassId) (h0 : Heap) (n0 : Nat) (v : Option Value) (h : Heap) (L : List Loc) : Prop := Fr n0 L ∧ ∃ (xcp8_16_0 : Addr) (kcp8_16_1 : ClassId), v = some (.ref xcp8_16_0) ∧ h0.size ≤ xcp8_16_0 ∧ Keep h0 h [] ∧ Exa Z h xcp8_16_0 "[I" ∧ Arv Z h xcp8_16_0 kcp8_16_1 .int (16 : Int32) [(.int w10_e), (.int w11_e), (.int w12_e), (.int w13_e), (.int w14_e), (.int w15_e), (.int w16_e), (.int w17_e), (.int (0 : Int32)), (.int (0 : Int32)), (.int (0 : Int32)), (.int (0 : Int32)), (.int (0 : Int32)), (.int (0 : Int32)), (.int (0 : Int32)), (.int (0 : Int32))] (.int (0 : Int32))
set_option maxRecDepth 65536 in
set_option maxHeartbeats 40000000 in
theorem rmcp8_16 (l : Launch) (Z : State) (a0 : Array Value) (hw : ∀ d ∈ tables_1, d.before a0 Z = true) (ws : List Jvm.Cond) (o0 : Addr) (w10_e : Int32) (w11_e : Int32) (w12_e : Int32) (w13_e : Int32) (w14_e : Int32) (w15_e : Int32) (w16_e : Int32) (w17_e : Int32) (kA : ClassId) (h0 : Heap) (n0 : Nat) (Z0 : n0 ≤ h0.size) (E_o0 : Exa Z h0 o0 "[I") (V_o0 : Arv Z h0 o0 kA .int (8 : Int32) [(.int w10_e), (.int w11_e), (.int w12_e), (.int w13_e), (.int w14_e), (.int w15_e), (.int w16_e), (.int w17_e)] (.int (0 : Int32))) :
    MetFree l (⟨"java/util/Arrays", "copyOf", "([II)[I"⟩ : MethodName) (head1 (Jvm.Cond.code (⟨"java/util/Arrays", "copyOf", "([II)[I"⟩ : MethodName) jdk_65_method_123_code 3 (some (.array .int)) :: ws) ({ frames := 1, cells := 1, slots := 16, locals := 18 } : Room)) (fun a U => a = #[(.ref o0), (.int (16 : Int32))] ∧ Z.Warmed39 U.vm ∧ U.heap = h0) (fun _ _ _ _ _ => True) (fun _ U o U' => ∃ v L, o = .returned v ∧ Qcp8_16 Z o0 w10_e w11_e w12_e w13_e w14_e w15_e w16_e w17_e kA h0 n0 v U'.heap L ∧ FrameEnd U o U' L ({ frames := 1, cells := 1, slots := 16, locals := 18 } : Room).cells ({ frames := 1, cells := 1, slots := 16, locals := 18 } : Room).slots) := by
  refine MetFree.of_bodySF (plainFor_of_name pn_java_util_Arrays) hisR ?_
  intro p e s m args below meth c s₁ Bd hml0 hP hK
  obtain ⟨rfl, hZ, hh⟩ := hP
  have hx := Bd.exec
  have hby := Bd.bytes
  have hml : c.maxLocals = 3 := hml0
  have hown : s.vm.findClass "java/util/Arrays" = some m.cls := findClass_of_methodNamed Bd.named
  have hnm := (name_of_methodNamed Bd.named Bd.method).1
  have hlk := BodyLoose.notSynchronized Bd
  have X0 : Stand p l e ({ frames := 1, cells := 1, slots := 16, locals := 18 } : Room) s m #[(.ref o0), (.int (16 : Int32))] below meth c s₁ [] 0 0 := Stand.of_body Bd
  have e0 : s₁.heap = h0 := by rw [← hh, Bd.state]; rfl
  have N0 := Fr.nil n0
  have pre0 : ∀ t, Steps p.tables e below (s₁.setTop (mkF m 0 #[.val (.ref o0), .val (.int (16 : Int32)), .unset] [])) t → Steps p.tables e below (s₁.setTop (entryFrame m #[(.ref o0), (.int (16 : Int32))] 3)) t := fun t k => castTop (ef_cp8_16 m o0) k
  obtain ⟨cl1, Ar1, qc1, S1, M1, Ha1, G1⟩ := id V_o0
  obtain ⟨T2, h2, k2, X2, e2, E2, A2, EA2, st2⟩ := newPE X0 hx hZ (hw _ (List.mem_of_getElem? (i := 1) rfl)) e0 (g := (mkF m 15 #[.val (.ref o0), .val (.int (16 : Int32)), .unset] [(.int (16 : Int32))])) rfl (hb hby d6_15) rfl (by decide) (cap := 16) (by decide) (by decide) (by decide) (by decide) (ad := "[I") rfl
  obtain ⟨b2, gz2⟩ : ∃ z, z = h0.size := ⟨_, rfl⟩
  rw [← gz2] at A2 EA2 st2
  have ne3 : o0 ≠ b2 := Nat.ne_of_lt (Nat.lt_of_lt_of_le E_o0.lt (Nat.le_of_eq gz2.symm))
  have g4 : n0 ≤ b2 := Nat.le_trans Z0 (Nat.le_of_eq gz2.symm)
  have sz5 : h0.size ≤ b2 := Nat.le_trans (Nat.le_refl h0.size) (Nat.le_of_eq gz2.symm)
  have z6 : n0 ≤ h2.size := Nat.le_trans Z0 E2.1
  have hs7 : h0.size ≤ h2.size := Nat.le_trans (Nat.le_refl h0.size) E2.1
  have V2 : Arv Z h2 b2 k2 .int (16 : Int32) [(.int (0 : Int32)), (.int (0 : Int32)), (.int (0 : Int32)), (.int (0 : Int32)), (.int (0 : Int32)), (.int (0 : Int32)), (.int (0 : Int32)), (.int (0 : Int32)), (.int (0 : Int32)), (.int (0 : Int32)), (.int (0 : Int32)), (.int (0 : Int32)), (.int (0 : Int32)), (.int (0 : Int32)), (.int (0 : Int32)), (.int (0 : Int32))] (.int (0 : Int32)) := (Arv.new A2 (by decide)).pad (pad_rep [] (.int (0 : Int32)) 16)
  have k8 := (V_o0.ext E2)
  obtain ⟨cl9, Ar9, qc9, S9, M9, Ha9, G9⟩ := id k8
  obtain ⟨vr10, _, ⟨T10, L10, k10, n10⟩, -, X10, ⟨Lc10, hQ10, l10, y10, z10⟩, st10⟩ := Jvm.LawKit.callS X2 hx (y := (⟨"java/lang/Math", "min", "(II)I"⟩ : MethodName)) hown (mvT hZ (hw _ (List.mem_of_getElem? (i := 34) rfl))) (mvT hZ (hw _ (List.mem_of_getElem? (i := 35) rfl))) (mvT hZ (hw _ (List.mem_of_getElem? (i := 36) rfl))) (mvT hZ (hw _ (List.mem_of_getElem? (i := 37) rfl))) (by decide) (backOf (W := 4) (rm7 l Z a0 hw [] (8 : Int32) (16 : Int32) h2 n0 z6) hZ (hw _ (List.mem_of_getElem? (i := 37) rfl)) (hw _ (List.mem_of_getElem? (i := 36) rfl)) (by decide) (by decide)) (g := (mkF m 25 #[.val (.ref o0), .val (.int (16 : Int32)), .val (.ref b2)] [(.int (16 : Int32)), (.int (8 : Int32)), (.int (0 : Int32)), (.ref b2), (.int (0 : Int32)), (.ref o0)])) rfl (by rw [hml]; rfl) (argsL := [(.int (8 : Int32)), (.int (16 : Int32))]) (rest := [(.int (0 : Int32)), (.ref b2), (.int (0 : Int32)), (.ref o0)]) (lenOf pd__II_I rfl) rfl (by show 2 * 0 + _ ≤ _; exact Nat.le_of_eq rfl) (hb hby d6_25) (fun _ _ => ⟨rfl, e2, (by decide : 1 + 0 ≤ _), (by decide : 16 + 0 ≤ _)⟩)
  dsimp only [Pt.U, Pt.locs, Pt.cells, Pt.slots] at X10 l10 y10 z10 st10 hQ10
  subst l10 y10 z10
  have N10q := (show _ ∧ _ ∧ _ from hQ10).1
  have hv10 := (show _ ∧ _ ∧ _ from hQ10).2.1
  have e10 := (show _ ∧ _ ∧ _ from hQ10).2.2
  clear hQ10
  subst hv10
  have N10 := Fr.app N0 N10q
  obtain ⟨T11, h11, L11, X11, e11, N11, K11, V11r, st11⟩ := cpA X10 hx hZ hown (hw _ (List.mem_of_getElem? (i := 38) rfl)) (hw _ (List.mem_of_getElem? (i := 41) rfl)) (hw _ (List.mem_of_getElem? (i := 39) rfl)) (hw _ (List.mem_of_getElem? (i := 40) rfl)) e10 k8 V2 (us := [(.int w10_e), (.int w11_e), (.int w12_e), (.int w13_e), (.int w14_e), (.int w15_e), (.int w16_e), (.int w17_e)]) (Or.inl ⟨rfl, rfl⟩) (by decide) (by decide) (by decide) (Nat.le_of_ble_eq_true rfl) (Nat.le_of_ble_eq_true rfl) rfl (Nat.le_of_ble_eq_true rfl) N10 g4 (g := (mkF m 28 #[.val (.ref o0), .val (.int (16 : Int32)), .val (.ref b2)] [(.int (8 : Int32)), (.int (0 : Int32)), (.ref b2), (.int (0 : Int32)), (.ref o0)])) rfl (by rw [hml]; rfl) rfl (hb hby d6_28) (by decide) (W := 0) (by show 2 * 0 + _ ≤ _; exact Nat.le_of_eq rfl) (by decide)
  have V11 : Arv Z h11 b2 k2 .int (16 : Int32) [(.int w10_e), (.int w11_e), (.int w12_e), (.int w13_e), (.int w14_e), (.int w15_e), (.int w16_e), (.int w17_e), (.int (0 : Int32)), (.int (0 : Int32)), (.int (0 : Int32)), (.int (0 : Int32)), (.int (0 : Int32)), (.int (0 : Int32)), (.int (0 : Int32)), (.int (0 : Int32))] (.int (0 : Int32)) := V11r
  have z12 : n0 ≤ h11.size := Nat.le_trans z6 K11.1
  have hs13 : h0.size ≤ h11.size := Nat.le_trans hs7 K11.1
  obtain ⟨fs, hr, hrun, hended, hW, hsame⟩ := X11.leave (v := some (.ref b2)) (fun h => by rw [Bd.returns] at h; cases h) hlk
  refine ⟨_, _, pre0 _ ?_, hrun, hended, _, _, rfl, ?_, ⟨_, rfl⟩, hW, hsame.mono (by decide) (by decide)⟩
  · skip
    show Steps p.tables e below (s₁.setTop (mkF m 0 #[.val (.ref o0), .val (.int (16 : Int32)), .unset] [])) _
    refine XS.iloadN X0.here hx rfl (hb hby d6_0) rfl ?_
    show Steps p.tables e below (s₁.setTop (mkF m 1 #[.val (.ref o0), .val (.int (16 : Int32)), .unset] [(.int (16 : Int32))])) _
    refine XS.aloadN X0.here hx rfl (hb hby d6_1) rfl rfl ?_
    show Steps p.tables e below (s₁.setTop (mkF m 2 #[.val (.ref o0), .val (.int (16 : Int32)), .unset] [(.ref o0), (.int (16 : Int32))])) _
    refine X0.arraylength hx (by rw [e0]; exact Ar1.1) (State.isArrayOf_alike hZ.alike Ar1.2.1) (g := (mkF m 2 #[.val (.ref o0), .val (.int (16 : Int32)), .unset] [(.ref o0), (.int (16 : Int32))])) rfl rfl (hb hby d6_2) _ ?_
    rw [len_of S1 M1]
    show Steps p.tables e below (s₁.setTop (mkF m 3 #[.val (.ref o0), .val (.int (16 : Int32)), .unset] [(.int (8 : Int32)), (.int (16 : Int32))])) _
    refine XS.icmpYes X0.here hx rfl (pc0 := 3) (pc' := 14) rfl (hb hby d6_3) rfl (XT.ii_ne_t (by decide)) (by decide) (by decide) ?_
    show Steps p.tables e below (s₁.setTop (mkF m 14 #[.val (.ref o0), .val (.int (16 : Int32)), .unset] [])) _
    refine XS.iloadN X0.here hx rfl (hb hby d6_14) rfl ?_
    show Steps p.tables e below (s₁.setTop (mkF m 15 #[.val (.ref o0), .val (.int (16 : Int32)), .unset] [(.int (16 : Int32))])) _
    refine st2 _ ?_
    show Steps p.tables e below (T2.setTop (mkF m 17 #[.val (.ref o0), .val (.int (16 : Int32)), .unset] [(.ref b2)])) _
    refine XS.astoreN X2.here hx rfl (hb hby d6_17) rfl rfl (l' := #[.val (.ref o0), .val (.int (16 : Int32)), .val (.ref b2)]) rfl ?_
    show Steps p.tables e below (T2.setTop (mkF m 18 #[.val (.ref o0), .val (.int (16 : Int32)), .val (.ref b2)] [])) _
    refine XS.aloadN X2.here hx rfl (hb hby d6_18) rfl rfl ?_
    show Steps p.tables e below (T2.setTop (mkF m 19 #[.val (.ref o0), .val (.int (16 : Int32)), .val (.ref b2)] [(.ref o0)])) _
    refine XT.iconstV X2.here hx rfl (0 : Int32) (hb hby d6_19) (by decide) ?_
    show Steps p.tables e below (T2.setTop (mkF m 20 #[.val (.ref o0), .val (.int (16 : Int32)), .val (.ref b2)] [(.int (0 : Int32)), (.ref o0)])) _
    refine XS.aloadN X2.here hx rfl (hb hby d6_20) rfl rfl ?_
    show Steps p.tables e below (T2.setTop (mkF m 21 #[.val (.ref o0), .val (.int (16 : Int32)), .val (.ref b2)] [(.ref b2), (.int (0 : Int32)), (.ref o0)])) _
    refine XT.iconstV X2.here hx rfl (0 : Int32) (hb hby d6_21) (by decide) ?_
    show Steps p.tables e below (T2.setTop (mkF m 22 #[.val (.ref o0), .val (.int (16 : Int32)), .val (.ref b2)] [(.int (0 : Int32)), (.ref b2), (.int (0 : Int32)), (.ref o0)])) _
    refine XS.aloadN X2.here hx rfl (hb hby d6_22) rfl rfl ?_
    show Steps p.tables e below (T2.setTop (mkF m 23 #[.val (.ref o0), .val (.int (16 : Int32)), .val (.ref b2)] [(.ref o0), (.int (0 : Int32)), (.ref b2), (.int (0 : Int32)), (.ref o0)])) _
    refine X2.arraylength hx (by rw [e2]; exact Ar9.1) (State.isArrayOf_alike hZ.alike Ar9.2.1) (g := (mkF m 23 #[.val (.ref o0), .val (.int (16 : Int32)), .val (.ref b2)] [(.ref o0), (.int (0 : Int32)), (.ref b2), (.int (0 : Int32)), (.ref o0)])) rfl rfl (hb hby d6_23) _ ?_
    rw [len_of S9 M9]
    show Steps p.tables e below (T2.setTop (mkF m 24 #[.val (.ref o0), .val (.int (16 : Int32)), .val (.ref b2)] [(.int (8 : Int32)), (.int (0 : Int32)), (.ref b2), (.int (0 : Int32)), (.ref o0)])) _
    refine XS.iloadN X2.here hx rfl (hb hby d6_24) rfl ?_
    show Steps p.tables e below (T2.setTop (mkF m 25 #[.val (.ref o0), .val (.int (16 : Int32)), .val (.ref b2)] [(.int (16 : Int32)), (.int (8 : Int32)), (.int (0 : Int32)), (.ref b2), (.int (0 : Int32)), (.ref o0)])) _
    refine st10 _ ?_
    show Steps p.tables e below (T10.setTop (mkF m 28 #[.val (.ref o0), .val (.int (16 : Int32)), .val (.ref b2)] [(.int (8 : Int32)), (.int (0 : Int32)), (.ref b2), (.int (0 : Int32)), (.ref o0)])) _
    refine st11 _ ?_
    show Steps p.tables e below (T11.setTop (mkF m 31 #[.val (.ref o0), .val (.int (16 : Int32)), .val (.ref b2)] [])) _
    refine XS.aloadN X11.here hx rfl (hb hby d6_31) rfl rfl ?_
    show Steps p.tables e below (T11.setTop (mkF m 32 #[.val (.ref o0), .val (.int (16 : Int32)), .val (.ref b2)] [(.ref b2)])) _
    exact X11.areturnOut hx rfl Bd.returns rfl (hb hby d6_32) hr
  · skip
    show Qcp8_16 Z o0 w10_e w11_e w12_e w13_e w14_e w15_e w16_e w17_e kA h0 n0 _ T11.heap _
    rw [e11]
    have k14 := (EA2.keep K11)
    exact ⟨N11, b2, k2, rfl, sz5, (((Keep.refl h0 []).ext E2).trans K11 (allS (Or.inr sz5) all0)), k14, V11⟩
theorem ef_cp4_0 (m : MethodId) (o0 : Addr) : entryFrame m #[(.ref o0), (.int (0 : Int32))] 3 = mkF m 0 #[.val (.ref o0), .val (.int (0 : Int32)), .unset] [] := by first | (simp [entryFrame, mkF, argsToLocals, Value.category]; done) | rfl
def Qcp4_0 (Z : State) (o0 : Addr) (w10_e : Int32) (w11_e : Int32) (w12_e : Int32) (w13_e : Int32) (kA : ClassId) (h0 : Heap) (n0 : Nat) (v : Option Value) (h : Heap) (L : List Loc) : Prop := Fr n0 L ∧ ∃ (xcp4_0_0 : Addr) (kcp4_0_1 : ClassId), v = some (.ref xcp4_0_0) ∧ h0.size ≤ xcp4_0_0 ∧ Keep h0 h [] ∧ Exa Z h xcp4_0_0 "[I" ∧ Arv Z h xcp4_0_0 kcp4_0_1 .int (0 : Int32) [] (.int (0 : Int32))
set_option maxRecDepth 65536 in
set_option maxHeartbeats 40000000 in
theorem rmcp4_0 (l : Launch) (Z : State) (a0 : Array Value) (hw : ∀ d ∈ tables_1, d.before a0 Z = true) (ws : List Jvm.Cond) (o0 : Addr) (w10_e : Int32) (w11_e : Int32) (w12_e : Int32) (w13_e : Int32) (kA : ClassId) (h0 : Heap) (n0 : Nat) (Z0 : n0 ≤ h0.size) (E_o0 : Exa Z h0 o0 "[I") (V_o0 : Arv Z h0 o0 kA .int (4 : Int32) [(.int w10_e), (.int w11_e), (.int w12_e), (.int w13_e)] (.int (0 : Int32))) :
    MetFree l (⟨"java/util/Arrays", "copyOf", "([II)[I"⟩ : MethodName) (head1 (Jvm.Cond.code (⟨"java/util/Arrays", "copyOf", "([II)[I"⟩ : MethodName) jdk_65_method_123_code 3 (some (.array .int)) :: ws) ({ frames := 1, cells := 1, slots := 0, locals := 18 } : Room)) (fun a U => a = #[(.ref o0), (.int (0 : Int32))] ∧ Z.Warmed39 U.vm ∧ U.heap = h0) (fun _ _ _ _ _ => True) (fun _ U o U' => ∃ v L, o = .returned v ∧ Qcp4_0 Z o0 w10_e w11_e w12_e w13_e kA h0 n0 v U'.heap L ∧ FrameEnd U o U' L ({ frames := 1, cells := 1, slots := 0, locals := 18 } : Room).cells ({ frames := 1, cells := 1, slots := 0, locals := 18 } : Room).slots) := by
  refine MetFree.of_bodySF (plainFor_of_name pn_java_util_Arrays) hisR ?_
  intro p e s m args below meth c s₁ Bd hml0 hP hK
  obtain ⟨rfl, hZ, hh⟩ := hP
  have hx := Bd.exec
  have hby := Bd.bytes
  have hml : c.maxLocals = 3 := hml0
  have hown : s.vm.findClass "java/util/Arrays" = some m.cls := findClass_of_methodNamed Bd.named
  have hnm := (name_of_methodNamed Bd.named Bd.method).1
  have hlk := BodyLoose.notSynchronized Bd
  have X0 : Stand p l e ({ frames := 1, cells := 1, slots := 0, locals := 18 } : Room) s m #[(.ref o0), (.int (0 : Int32))] below meth c s₁ [] 0 0 := Stand.of_body Bd
  have e0 : s₁.heap = h0 := by rw [← hh, Bd.state]; rfl
  have N0 := Fr.nil n0
  have pre0 : ∀ t, Steps p.tables e below (s₁.setTop (mkF m 0 #[.val (.ref o0), .val (.int (0 : Int32)), .unset] [])) t → Steps p.tables e below (s₁.setTop (entryFrame m #[(.ref o0), (.int (0 : Int32))] 3)) t := fun t k => castTop (ef_cp4_0 m o0) k
  obtain ⟨cl1, Ar1, qc1, S1, M1, Ha1, G1⟩ := id V_o0
  obtain ⟨T2, h2, k2, X2, e2, E2, A2, EA2, st2⟩ := newPE X0 hx hZ (hw _ (List.mem_of_getElem? (i := 1) rfl)) e0 (g := (mkF m 15 #[.val (.ref o0), .val (.int (0 : Int32)), .unset] [(.int (0 : Int32))])) rfl (hb hby d6_15) rfl (by decide) (cap := 0) (by decide) (by decide) (by decide) (by decide) (ad := "[I") rfl
  obtain ⟨b2, gz2⟩ : ∃ z, z = h0.size := ⟨_, rfl⟩
  rw [← gz2] at A2 EA2 st2
  have ne3 : o0 ≠ b2 := Nat.ne_of_lt (Nat.lt_of_lt_of_le E_o0.lt (Nat.le_of_eq gz2.symm))
  have g4 : n0 ≤ b2 := Nat.le_trans Z0 (Nat.le_of_eq gz2.symm)
  have sz5 : h0.size ≤ b2 := Nat.le_trans (Nat.le_refl h0.size) (Nat.le_of_eq gz2.symm)
  have z6 : n0 ≤ h2.size := Nat.le_trans Z0 E2.1
  have hs7 : h0.size ≤ h2.size := Nat.le_trans (Nat.le_refl h0.size) E2.1
  have V2 : Arv Z h2 b2 k2 .int (0 : Int32) [] (.int (0 : Int32)) := (Arv.new A2 (by decide)).pad (pad_rep [] (.int (0 : Int32)) 0)
  have k8 := (V_o0.ext E2)
  obtain ⟨cl9, Ar9, qc9, S9, M9, Ha9, G9⟩ := id k8
  obtain ⟨vr10, _, ⟨T10, L10, k10, n10⟩, -, X10, ⟨Lc10, hQ10, l10, y10, z10⟩, st10⟩ := Jvm.LawKit.callS X2 hx (y := (⟨"java/lang/Math", "min", "(II)I"⟩ : MethodName)) hown (mvT hZ (hw _ (List.mem_of_getElem? (i := 34) rfl))) (mvT hZ (hw _ (List.mem_of_getElem? (i := 35) rfl))) (mvT hZ (hw _ (List.mem_of_getElem? (i := 36) rfl))) (mvT hZ (hw _ (List.mem_of_getElem? (i := 37) rfl))) (by decide) (backOf (W := 4) (rm7 l Z a0 hw [] (4 : Int32) (0 : Int32) h2 n0 z6) hZ (hw _ (List.mem_of_getElem? (i := 37) rfl)) (hw _ (List.mem_of_getElem? (i := 36) rfl)) (by decide) (by decide)) (g := (mkF m 25 #[.val (.ref o0), .val (.int (0 : Int32)), .val (.ref b2)] [(.int (0 : Int32)), (.int (4 : Int32)), (.int (0 : Int32)), (.ref b2), (.int (0 : Int32)), (.ref o0)])) rfl (by rw [hml]; rfl) (argsL := [(.int (4 : Int32)), (.int (0 : Int32))]) (rest := [(.int (0 : Int32)), (.ref b2), (.int (0 : Int32)), (.ref o0)]) (lenOf pd__II_I rfl) rfl (by show 2 * 0 + _ ≤ _; exact Nat.le_of_eq rfl) (hb hby d6_25) (fun _ _ => ⟨rfl, e2, (by decide : 1 + 0 ≤ _), (by decide : 0 + 0 ≤ _)⟩)
  dsimp only [Pt.U, Pt.locs, Pt.cells, Pt.slots] at X10 l10 y10 z10 st10 hQ10
  subst l10 y10 z10
  have N10q := (show _ ∧ _ ∧ _ from hQ10).1
  have hv10 := (show _ ∧ _ ∧ _ from hQ10).2.1
  have e10 := (show _ ∧ _ ∧ _ from hQ10).2.2
  clear hQ10
  subst hv10
  have N10 := Fr.app N0 N10q
  obtain ⟨T11, h11, L11, X11, e11, N11, K11, V11r, st11⟩ := cpA X10 hx hZ hown (hw _ (List.mem_of_getElem? (i := 38) rfl)) (hw _ (List.mem_of_getElem? (i := 41) rfl)) (hw _ (List.mem_of_getElem? (i := 39) rfl)) (hw _ (List.mem_of_getElem? (i := 40) rfl)) e10 k8 V2 (us := []) (Or.inl ⟨rfl, rfl⟩) (by decide) (by decide) (by decide) (Nat.le_of_ble_eq_true rfl) (Nat.le_of_ble_eq_true rfl) rfl (Nat.le_of_ble_eq_true rfl) N10 g4 (g := (mkF m 28 #[.val (.ref o0), .val (.int (0 : Int32)), .val (.ref b2)] [(.int (0 : Int32)), (.int (0 : Int32)), (.ref b2), (.int (0 : Int32)), (.ref o0)])) rfl (by rw [hml]; rfl) rfl (hb hby d6_28) (by decide) (W := 0) (by show 2 * 0 + _ ≤ _; exact Nat.le_of_eq rfl) (by decide)
  have V11 : Arv Z h11 b2 k2 .int (0 : Int32) [] (.int (0 : Int32)) := V11r
  have z12 : n0 ≤ h11.size := Nat.le_trans z6 K11.1
  have hs13 : h0.size ≤ h11.size := Nat.le_trans hs7 K11.1
  obtain ⟨fs, hr, hrun, hended, hW, hsame⟩ := X11.leave (v := some (.ref b2)) (fun h => by rw [Bd.returns] at h; cases h) hlk
  refine ⟨_, _, pre0 _ ?_, hrun, hended, _, _, rfl, ?_, ⟨_, rfl⟩, hW, hsame.mono (by decide) (by decide)⟩
  · skip
    show Steps p.tables e below (s₁.setTop (mkF m 0 #[.val (.ref o0), .val (.int (0 : Int32)), .unset] [])) _
    refine XS.iloadN X0.here hx rfl (hb hby d6_0) rfl ?_
    show Steps p.tables e below (s₁.setTop (mkF m 1 #[.val (.ref o0), .val (.int (0 : Int32)), .unset] [(.int (0 : Int32))])) _
    refine XS.aloadN X0.here hx rfl (hb hby d6_1) rfl rfl ?_
    show Steps p.tables e below (s₁.setTop (mkF m 2 #[.val (.ref o0), .val (.int (0 : Int32)), .unset] [(.ref o0), (.int (0 : Int32))])) _
    refine X0.arraylength hx (by rw [e0]; exact Ar1.1) (State.isArrayOf_alike hZ.alike Ar1.2.1) (g := (mkF m 2 #[.val (.ref o0), .val (.int (0 : Int32)), .unset] [(.ref o0), (.int (0 : Int32))])) rfl rfl (hb hby d6_2) _ ?_
    rw [len_of S1 M1]
    show Steps p.tables e below (s₁.setTop (mkF m 3 #[.val (.ref o0), .val (.int (0 : Int32)), .unset] [(.int (4 : Int32)), (.int (0 : Int32))])) _
    refine XS.icmpYes X0.here hx rfl (pc0 := 3) (pc' := 14) rfl (hb hby d6_3) rfl (XT.ii_ne_t (by decide)) (by decide) (by decide) ?_
    show Steps p.tables e below (s₁.setTop (mkF m 14 #[.val (.ref o0), .val (.int (0 : Int32)), .unset] [])) _
    refine XS.iloadN X0.here hx rfl (hb hby d6_14) rfl ?_
    show Steps p.tables e below (s₁.setTop (mkF m 15 #[.val (.ref o0), .val (.int (0 : Int32)), .unset] [(.int (0 : Int32))])) _
    refine st2 _ ?_
    show Steps p.tables e below (T2.setTop (mkF m 17 #[.val (.ref o0), .val (.int (0 : Int32)), .unset] [(.ref b2)])) _
    refine XS.astoreN X2.here hx rfl (hb hby d6_17) rfl rfl (l' := #[.val (.ref o0), .val (.int (0 : Int32)), .val (.ref b2)]) rfl ?_
    show Steps p.tables e below (T2.setTop (mkF m 18 #[.val (.ref o0), .val (.int (0 : Int32)), .val (.ref b2)] [])) _
    refine XS.aloadN X2.here hx rfl (hb hby d6_18) rfl rfl ?_
    show Steps p.tables e below (T2.setTop (mkF m 19 #[.val (.ref o0), .val (.int (0 : Int32)), .val (.ref b2)] [(.ref o0)])) _
    refine XT.iconstV X2.here hx rfl (0 : Int32) (hb hby d6_19) (by decide) ?_
    show Steps p.tables e below (T2.setTop (mkF m 20 #[.val (.ref o0), .val (.int (0 : Int32)), .val (.ref b2)] [(.int (0 : Int32)), (.ref o0)])) _
    refine XS.aloadN X2.here hx rfl (hb hby d6_20) rfl rfl ?_
    show Steps p.tables e below (T2.setTop (mkF m 21 #[.val (.ref o0), .val (.int (0 : Int32)), .val (.ref b2)] [(.ref b2), (.int (0 : Int32)), (.ref o0)])) _
    refine XT.iconstV X2.here hx rfl (0 : Int32) (hb hby d6_21) (by decide) ?_
    show Steps p.tables e below (T2.setTop (mkF m 22 #[.val (.ref o0), .val (.int (0 : Int32)), .val (.ref b2)] [(.int (0 : Int32)), (.ref b2), (.int (0 : Int32)), (.ref o0)])) _
    refine XS.aloadN X2.here hx rfl (hb hby d6_22) rfl rfl ?_
    show Steps p.tables e below (T2.setTop (mkF m 23 #[.val (.ref o0), .val (.int (0 : Int32)), .val (.ref b2)] [(.ref o0), (.int (0 : Int32)), (.ref b2), (.int (0 : Int32)), (.ref o0)])) _
    refine X2.arraylength hx (by rw [e2]; exact Ar9.1) (State.isArrayOf_alike hZ.alike Ar9.2.1) (g := (mkF m 23 #[.val (.ref o0), .val (.int (0 : Int32)), .val (.ref b2)] [(.ref o0), (.int (0 : Int32)), (.ref b2), (.int (0 : Int32)), (.ref o0)])) rfl rfl (hb hby d6_23) _ ?_
    rw [len_of S9 M9]
    show Steps p.tables e below (T2.setTop (mkF m 24 #[.val (.ref o0), .val (.int (0 : Int32)), .val (.ref b2)] [(.int (4 : Int32)), (.int (0 : Int32)), (.ref b2), (.int (0 : Int32)), (.ref o0)])) _
    refine XS.iloadN X2.here hx rfl (hb hby d6_24) rfl ?_
    show Steps p.tables e below (T2.setTop (mkF m 25 #[.val (.ref o0), .val (.int (0 : Int32)), .val (.ref b2)] [(.int (0 : Int32)), (.int (4 : Int32)), (.int (0 : Int32)), (.ref b2), (.int (0 : Int32)), (.ref o0)])) _
    refine st10 _ ?_
    show Steps p.tables e below (T10.setTop (mkF m 28 #[.val (.ref o0), .val (.int (0 : Int32)), .val (.ref b2)] [(.int (0 : Int32)), (.int (0 : Int32)), (.ref b2), (.int (0 : Int32)), (.ref o0)])) _
    refine st11 _ ?_
    show Steps p.tables e below (T11.setTop (mkF m 31 #[.val (.ref o0), .val (.int (0 : Int32)), .val (.ref b2)] [])) _
    refine XS.aloadN X11.here hx rfl (hb hby d6_31) rfl rfl ?_
    show Steps p.tables e below (T11.setTop (mkF m 32 #[.val (.ref o0), .val (.int (0 : Int32)), .val (.ref b2)] [(.ref b2)])) _
    exact X11.areturnOut hx rfl Bd.returns rfl (hb hby d6_32) hr
  · skip
    show Qcp4_0 Z o0 w10_e w11_e w12_e w13_e kA h0 n0 _ T11.heap _
    rw [e11]
    have k14 := (EA2.keep K11)
    exact ⟨N11, b2, k2, rfl, sz5, (((Keep.refl h0 []).ext E2).trans K11 (allS (Or.inr sz5) all0)), k14, V11⟩
theorem ef_cp4_1 (m : MethodId) (o0 : Addr) : entryFrame m #[(.ref o0), (.int (1 : Int32))] 3 = mkF m 0 #[.val (.ref o0), .val (.int (1 : Int32)), .unset] [] := by first | (simp [entryFrame, mkF, argsToLocals, Value.category]; done) | rfl
def Qcp4_1 (Z : State) (o0 : Addr) (w10_e : Int32) (w11_e : Int32) (w12_e : Int32) (w13_e : Int32) (kA : ClassId) (h0 : Heap) (n0 : Nat) (v : Option Value) (h : Heap) (L : List Loc) : Prop := Fr n0 L ∧ ∃ (xcp4_1_0 : Addr) (kcp4_1_1 : ClassId), v = some (.ref xcp4_1_0) ∧ h0.size ≤ xcp4_1_0 ∧ Keep h0 h [] ∧ Exa Z h xcp4_1_0 "[I" ∧ Arv Z h xcp4_1_0 kcp4_1_1 .int (1 : Int32) [(.int w10_e)] (.int (0 : Int32))
set_option maxRecDepth 65536 in
set_option maxHeartbeats 40000000 in
theorem rmcp4_1 (l : Launch) (Z : State) (a0 : Array Value) (hw : ∀ d ∈ tables_1, d.before a0 Z = true) (ws : List Jvm.Cond) (o0 : Addr) (w10_e : Int32) (w11_e : Int32) (w12_e : Int32) (w13_e : Int32) (kA : ClassId) (h0 : Heap) (n0 : Nat) (Z0 : n0 ≤ h0.size) (E_o0 : Exa Z h0 o0 "[I") (V_o0 : Arv Z h0 o0 kA .int (4 : Int32) [(.int w10_e), (.int w11_e), (.int w12_e), (.int w13_e)] (.int (0 : Int32))) :
    MetFree l (⟨"java/util/Arrays", "copyOf", "([II)[I"⟩ : MethodName) (head1 (Jvm.Cond.code (⟨"java/util/Arrays", "copyOf", "([II)[I"⟩ : MethodName) jdk_65_method_123_code 3 (some (.array .int)) :: ws) ({ frames := 1, cells := 1, slots := 1, locals := 18 } : Room)) (fun a U => a = #[(.ref o0), (.int (1 : Int32))] ∧ Z.Warmed39 U.vm ∧ U.heap = h0) (fun _ _ _ _ _ => True) (fun _ U o U' => ∃ v L, o = .returned v ∧ Qcp4_1 Z o0 w10_e w11_e w12_e w13_e kA h0 n0 v U'.heap L ∧ FrameEnd U o U' L ({ frames := 1, cells := 1, slots := 1, locals := 18 } : Room).cells ({ frames := 1, cells := 1, slots := 1, locals := 18 } : Room).slots) := by
  refine MetFree.of_bodySF (plainFor_of_name pn_java_util_Arrays) hisR ?_
  intro p e s m args below meth c s₁ Bd hml0 hP hK
  obtain ⟨rfl, hZ, hh⟩ := hP
  have hx := Bd.exec
  have hby := Bd.bytes
  have hml : c.maxLocals = 3 := hml0
  have hown : s.vm.findClass "java/util/Arrays" = some m.cls := findClass_of_methodNamed Bd.named
  have hnm := (name_of_methodNamed Bd.named Bd.method).1
  have hlk := BodyLoose.notSynchronized Bd
  have X0 : Stand p l e ({ frames := 1, cells := 1, slots := 1, locals := 18 } : Room) s m #[(.ref o0), (.int (1 : Int32))] below meth c s₁ [] 0 0 := Stand.of_body Bd
  have e0 : s₁.heap = h0 := by rw [← hh, Bd.state]; rfl
  have N0 := Fr.nil n0
  have pre0 : ∀ t, Steps p.tables e below (s₁.setTop (mkF m 0 #[.val (.ref o0), .val (.int (1 : Int32)), .unset] [])) t → Steps p.tables e below (s₁.setTop (entryFrame m #[(.ref o0), (.int (1 : Int32))] 3)) t := fun t k => castTop (ef_cp4_1 m o0) k
  obtain ⟨cl1, Ar1, qc1, S1, M1, Ha1, G1⟩ := id V_o0
  obtain ⟨T2, h2, k2, X2, e2, E2, A2, EA2, st2⟩ := newPE X0 hx hZ (hw _ (List.mem_of_getElem? (i := 1) rfl)) e0 (g := (mkF m 15 #[.val (.ref o0), .val (.int (1 : Int32)), .unset] [(.int (1 : Int32))])) rfl (hb hby d6_15) rfl (by decide) (cap := 1) (by decide) (by decide) (by decide) (by decide) (ad := "[I") rfl
  obtain ⟨b2, gz2⟩ : ∃ z, z = h0.size := ⟨_, rfl⟩
  rw [← gz2] at A2 EA2 st2
  have ne3 : o0 ≠ b2 := Nat.ne_of_lt (Nat.lt_of_lt_of_le E_o0.lt (Nat.le_of_eq gz2.symm))
  have g4 : n0 ≤ b2 := Nat.le_trans Z0 (Nat.le_of_eq gz2.symm)
  have sz5 : h0.size ≤ b2 := Nat.le_trans (Nat.le_refl h0.size) (Nat.le_of_eq gz2.symm)
  have z6 : n0 ≤ h2.size := Nat.le_trans Z0 E2.1
  have hs7 : h0.size ≤ h2.size := Nat.le_trans (Nat.le_refl h0.size) E2.1
  have V2 : Arv Z h2 b2 k2 .int (1 : Int32) [(.int (0 : Int32))] (.int (0 : Int32)) := (Arv.new A2 (by decide)).pad (pad_rep [] (.int (0 : Int32)) 1)
  have k8 := (V_o0.ext E2)
  obtain ⟨cl9, Ar9, qc9, S9, M9, Ha9, G9⟩ := id k8
  obtain ⟨vr10, _, ⟨T10, L10, k10, n10⟩, -, X10, ⟨Lc10, hQ10, l10, y10, z10⟩, st10⟩ := Jvm.LawKit.callS X2 hx (y := (⟨"java/lang/Math", "min", "(II)I"⟩ : MethodName)) hown (mvT hZ (hw _ (List.mem_of_getElem? (i := 34) rfl))) (mvT hZ (hw _ (List.mem_of_getElem? (i := 35) rfl))) (mvT hZ (hw _ (List.mem_of_getElem? (i := 36) rfl))) (mvT hZ (hw _ (List.mem_of_getElem? (i := 37) rfl))) (by decide) (backOf (W := 4) (rm7 l Z a0 hw [] (4 : Int32) (1 : Int32) h2 n0 z6) hZ (hw _ (List.mem_of_getElem? (i := 37) rfl)) (hw _ (List.mem_of_getElem? (i := 36) rfl)) (by decide) (by decide)) (g := (mkF m 25 #[.val (.ref o0), .val (.int (1 : Int32)), .val (.ref b2)] [(.int (1 : Int32)), (.int (4 : Int32)), (.int (0 : Int32)), (.ref b2), (.int (0 : Int32)), (.ref o0)])) rfl (by rw [hml]; rfl) (argsL := [(.int (4 : Int32)), (.int (1 : Int32))]) (rest := [(.int (0 : Int32)), (.ref b2), (.int (0 : Int32)), (.ref o0)]) (lenOf pd__II_I rfl) rfl (by show 2 * 0 + _ ≤ _; exact Nat.le_of_eq rfl) (hb hby d6_25) (fun _ _ => ⟨rfl, e2, (by decide : 1 + 0 ≤ _), (by decide : 1 + 0 ≤ _)⟩)
  dsimp only [Pt.U, Pt.locs, Pt.cells, Pt.slots] at X10 l10 y10 z10 st10 hQ10
  subst l10 y10 z10
  have N10q := (show _ ∧ _ ∧ _ from hQ10).1
  have hv10 := (show _ ∧ _ ∧ _ from hQ10).2.1
  have e10 := (show _ ∧ _ ∧ _ from hQ10).2.2
  clear hQ10
  subst hv10
  have N10 := Fr.app N0 N10q
  obtain ⟨T11, h11, L11, X11, e11, N11, K11, V11r, st11⟩ := cpA X10 hx hZ hown (hw _ (List.mem_of_getElem? (i := 38) rfl)) (hw _ (List.mem_of_getElem? (i := 41) rfl)) (hw _ (List.mem_of_getElem? (i := 39) rfl)) (hw _ (List.mem_of_getElem? (i := 40) rfl)) e10 k8 V2 (us := [(.int w10_e)]) (Or.inl ⟨rfl, rfl⟩) (by decide) (by decide) (by decide) (Nat.le_of_ble_eq_true rfl) (Nat.le_of_ble_eq_true rfl) rfl (Nat.le_of_ble_eq_true rfl) N10 g4 (g := (mkF m 28 #[.val (.ref o0), .val (.int (1 : Int32)), .val (.ref b2)] [(.int (1 : Int32)), (.int (0 : Int32)), (.ref b2), (.int (0 : Int32)), (.ref o0)])) rfl (by rw [hml]; rfl) rfl (hb hby d6_28) (by decide) (W := 0) (by show 2 * 0 + _ ≤ _; exact Nat.le_of_eq rfl) (by decide)
  have V11 : Arv Z h11 b2 k2 .int (1 : Int32) [(.int w10_e)] (.int (0 : Int32)) := V11r
  have z12 : n0 ≤ h11.size := Nat.le_trans z6 K11.1
  have hs13 : h0.size ≤ h11.size := Nat.le_trans hs7 K11.1
  obtain ⟨fs, hr, hrun, hended, hW, hsame⟩ := X11.leave (v := some (.ref b2)) (fun h => by rw [Bd.returns] at h; cases h) hlk
  refine ⟨_, _, pre0 _ ?_, hrun, hended, _, _, rfl, ?_, ⟨_, rfl⟩, hW, hsame.mono (by decide) (by decide)⟩
  · skip
    show Steps p.tables e below (s₁.setTop (mkF m 0 #[.val (.ref o0), .val (.int (1 : Int32)), .unset] [])) _
    refine XS.iloadN X0.here hx rfl (hb hby d6_0) rfl ?_
    show Steps p.tables e below (s₁.setTop (mkF m 1 #[.val (.ref o0), .val (.int (1 : Int32)), .unset] [(.int (1 : Int32))])) _
    refine XS.aloadN X0.here hx rfl (hb hby d6_1) rfl rfl ?_
    show Steps p.tables e below (s₁.setTop (mkF m 2 #[.val (.ref o0), .val (.int (1 : Int32)), .unset] [(.ref o0), (.int (1 : Int32))])) _
    refine X0.arraylength hx (by rw [e0]; exact Ar1.1) (State.isArrayOf_alike hZ.alike Ar1.2.1) (g := (mkF m 2 #[.val (.ref o0), .val (.int (1 : Int32)), .unset] [(.ref o0), (.int (1 : Int32))])) rfl rfl (hb hby d6_2) _ ?_
    rw [len_of S1 M1]
    show Steps p.tables e below (s₁.setTop (mkF m 3 #[.val (.ref o0), .val (.int (1 : Int32)), .unset] [(.int (4 : Int32)), (.int (1 : Int32))])) _
    refine XS.icmpYes X0.here hx rfl (pc0 := 3) (pc' := 14) rfl (hb hby d6_3) rfl (XT.ii_ne_t (by decide)) (by decide) (by decide) ?_
    show Steps p.tables e below (s₁.setTop (mkF m 14 #[.val (.ref o0), .val (.int (1 : Int32)), .unset] [])) _
    refine XS.iloadN X0.here hx rfl (hb hby d6_14) rfl ?_
    show Steps p.tables e below (s₁.setTop (mkF m 15 #[.val (.ref o0), .val (.int (1 : Int32)), .unset] [(.int (1 : Int32))])) _
    refine st2 _ ?_
    show Steps p.tables e below (T2.setTop (mkF m 17 #[.val (.ref o0), .val (.int (1 : Int32)), .unset] [(.ref b2)])) _
    refine XS.astoreN X2.here hx rfl (hb hby d6_17) rfl rfl (l' := #[.val (.ref o0), .val (.int (1 : Int32)), .val (.ref b2)]) rfl ?_
    show Steps p.tables e below (T2.setTop (mkF m 18 #[.val (.ref o0), .val (.int (1 : Int32)), .val (.ref b2)] [])) _
    refine XS.aloadN X2.here hx rfl (hb hby d6_18) rfl rfl ?_
    show Steps p.tables e below (T2.setTop (mkF m 19 #[.val (.ref o0), .val (.int (1 : Int32)), .val (.ref b2)] [(.ref o0)])) _
    refine XT.iconstV X2.here hx rfl (0 : Int32) (hb hby d6_19) (by decide) ?_
    show Steps p.tables e below (T2.setTop (mkF m 20 #[.val (.ref o0), .val (.int (1 : Int32)), .val (.ref b2)] [(.int (0 : Int32)), (.ref o0)])) _
    refine XS.aloadN X2.here hx rfl (hb hby d6_20) rfl rfl ?_
    show Steps p.tables e below (T2.setTop (mkF m 21 #[.val (.ref o0), .val (.int (1 : Int32)), .val (.ref b2)] [(.ref b2), (.int (0 : Int32)), (.ref o0)])) _
    refine XT.iconstV X2.here hx rfl (0 : Int32) (hb hby d6_21) (by decide) ?_
    show Steps p.tables e below (T2.setTop (mkF m 22 #[.val (.ref o0), .val (.int (1 : Int32)), .val (.ref b2)] [(.int (0 : Int32)), (.ref b2), (.int (0 : Int32)), (.ref o0)])) _
    refine XS.aloadN X2.here hx rfl (hb hby d6_22) rfl rfl ?_
    show Steps p.tables e below (T2.setTop (mkF m 23 #[.val (.ref o0), .val (.int (1 : Int32)), .val (.ref b2)] [(.ref o0), (.int (0 : Int32)), (.ref b2), (.int (0 : Int32)), (.ref o0)])) _
    refine X2.arraylength hx (by rw [e2]; exact Ar9.1) (State.isArrayOf_alike hZ.alike Ar9.2.1) (g := (mkF m 23 #[.val (.ref o0), .val (.int (1 : Int32)), .val (.ref b2)] [(.ref o0), (.int (0 : Int32)), (.ref b2), (.int (0 : Int32)), (.ref o0)])) rfl rfl (hb hby d6_23) _ ?_
    rw [len_of S9 M9]
    show Steps p.tables e below (T2.setTop (mkF m 24 #[.val (.ref o0), .val (.int (1 : Int32)), .val (.ref b2)] [(.int (4 : Int32)), (.int (0 : Int32)), (.ref b2), (.int (0 : Int32)), (.ref o0)])) _
    refine XS.iloadN X2.here hx rfl (hb hby d6_24) rfl ?_
    show Steps p.tables e below (T2.setTop (mkF m 25 #[.val (.ref o0), .val (.int (1 : Int32)), .val (.ref b2)] [(.int (1 : Int32)), (.int (4 : Int32)), (.int (0 : Int32)), (.ref b2), (.int (0 : Int32)), (.ref o0)])) _
    refine st10 _ ?_
    show Steps p.tables e below (T10.setTop (mkF m 28 #[.val (.ref o0), .val (.int (1 : Int32)), .val (.ref b2)] [(.int (1 : Int32)), (.int (0 : Int32)), (.ref b2), (.int (0 : Int32)), (.ref o0)])) _
    refine st11 _ ?_
    show Steps p.tables e below (T11.setTop (mkF m 31 #[.val (.ref o0), .val (.int (1 : Int32)), .val (.ref b2)] [])) _
    refine XS.aloadN X11.here hx rfl (hb hby d6_31) rfl rfl ?_
    show Steps p.tables e below (T11.setTop (mkF m 32 #[.val (.ref o0), .val (.int (1 : Int32)), .val (.ref b2)] [(.ref b2)])) _
    exact X11.areturnOut hx rfl Bd.returns rfl (hb hby d6_32) hr
  · skip
    show Qcp4_1 Z o0 w10_e w11_e w12_e w13_e kA h0 n0 _ T11.heap _
    rw [e11]
    have k14 := (EA2.keep K11)
    exact ⟨N11, b2, k2, rfl, sz5, (((Keep.refl h0 []).ext E2).trans K11 (allS (Or.inr sz5) all0)), k14, V11⟩
theorem ef_cp4_2 (m : MethodId) (o0 : Addr) : entryFrame m #[(.ref o0), (.int (2 : Int32))] 3 = mkF m 0 #[.val (.ref o0), .val (.int (2 : Int32)), .unset] [] := by first | (simp [entryFrame, mkF, argsToLocals, Value.category]; done) | rfl
def Qcp4_2 (Z : State) (o0 : Addr) (w10_e : Int32) (w11_e : Int32) (w12_e : Int32) (w13_e : Int32) (kA : ClassId) (h0 : Heap) (n0 : Nat) (v : Option Value) (h : Heap) (L : List Loc) : Prop := Fr n0 L ∧ ∃ (xcp4_2_0 : Addr) (kcp4_2_1 : ClassId), v = some (.ref xcp4_2_0) ∧ h0.size ≤ xcp4_2_0 ∧ Keep h0 h [] ∧ Exa Z h xcp4_2_0 "[I" ∧ Arv Z h xcp4_2_0 kcp4_2_1 .int (2 : Int32) [(.int w10_e), (.int w11_e)] (.int (0 : Int32))
set_option maxRecDepth 65536 in
set_option maxHeartbeats 40000000 in
theorem rmcp4_2 (l : Launch) (Z : State) (a0 : Array Value) (hw : ∀ d ∈ tables_1, d.before a0 Z = true) (ws : List Jvm.Cond) (o0 : Addr) (w10_e : Int32) (w11_e : Int32) (w12_e : Int32) (w13_e : Int32) (kA : ClassId) (h0 : Heap) (n0 : Nat) (Z0 : n0 ≤ h0.size) (E_o0 : Exa Z h0 o0 "[I") (V_o0 : Arv Z h0 o0 kA .int (4 : Int32) [(.int w10_e), (.int w11_e), (.int w12_e), (.int w13_e)] (.int (0 : Int32))) :
    MetFree l (⟨"java/util/Arrays", "copyOf", "([II)[I"⟩ : MethodName) (head1 (Jvm.Cond.code (⟨"java/util/Arrays", "copyOf", "([II)[I"⟩ : MethodName) jdk_65_method_123_code 3 (some (.array .int)) :: ws) ({ frames := 1, cells := 1, slots := 2, locals := 18 } : Room)) (fun a U => a = #[(.ref o0), (.int (2 : Int32))] ∧ Z.Warmed39 U.vm ∧ U.heap = h0) (fun _ _ _ _ _ => True) (fun _ U o U' => ∃ v L, o = .returned v ∧ Qcp4_2 Z o0 w10_e w11_e w12_e w13_e kA h0 n0 v U'.heap L ∧ FrameEnd U o U' L ({ frames := 1, cells := 1, slots := 2, locals := 18 } : Room).cells ({ frames := 1, cells := 1, slots := 2, locals := 18 } : Room).slots) := by
  refine MetFree.of_bodySF (plainFor_of_name pn_java_util_Arrays) hisR ?_
  intro p e s m args below meth c s₁ Bd hml0 hP hK
  obtain ⟨rfl, hZ, hh⟩ := hP
  have hx := Bd.exec
  have hby := Bd.bytes
  have hml : c.maxLocals = 3 := hml0
  have hown : s.vm.findClass "java/util/Arrays" = some m.cls := findClass_of_methodNamed Bd.named
  have hnm := (name_of_methodNamed Bd.named Bd.method).1
  have hlk := BodyLoose.notSynchronized Bd
  have X0 : Stand p l e ({ frames := 1, cells := 1, slots := 2, locals := 18 } : Room) s m #[(.ref o0), (.int (2 : Int32))] below meth c s₁ [] 0 0 := Stand.of_body Bd
  have e0 : s₁.heap = h0 := by rw [← hh, Bd.state]; rfl
  have N0 := Fr.nil n0
  have pre0 : ∀ t, Steps p.tables e below (s₁.setTop (mkF m 0 #[.val (.ref o0), .val (.int (2 : Int32)), .unset] [])) t → Steps p.tables e below (s₁.setTop (entryFrame m #[(.ref o0), (.int (2 : Int32))] 3)) t := fun t k => castTop (ef_cp4_2 m o0) k
  obtain ⟨cl1, Ar1, qc1, S1, M1, Ha1, G1⟩ := id V_o0
  obtain ⟨T2, h2, k2, X2, e2, E2, A2, EA2, st2⟩ := newPE X0 hx hZ (hw _ (List.mem_of_getElem? (i := 1) rfl)) e0 (g := (mkF m 15 #[.val (.ref o0), .val (.int (2 : Int32)), .unset] [(.int (2 : Int32))])) rfl (hb hby d6_15) rfl (by decide) (cap := 2) (by decide) (by decide) (by decide) (by decide) (ad := "[I") rfl
  obtain ⟨b2, gz2⟩ : ∃ z, z = h0.size := ⟨_, rfl⟩
  rw [← gz2] at A2 EA2 st2
  have ne3 : o0 ≠ b2 := Nat.ne_of_lt (Nat.lt_of_lt_of_le E_o0.lt (Nat.le_of_eq gz2.symm))
  have g4 : n0 ≤ b2 := Nat.le_trans Z0 (Nat.le_of_eq gz2.symm)
  have sz5 : h0.size ≤ b2 := Nat.le_trans (Nat.le_refl h0.size) (Nat.le_of_eq gz2.symm)
  have z6 : n0 ≤ h2.size := Nat.le_trans Z0 E2.1
  have hs7 : h0.size ≤ h2.size := Nat.le_trans (Nat.le_refl h0.size) E2.1
  have V2 : Arv Z h2 b2 k2 .int (2 : Int32) [(.int (0 : Int32)), (.int (0 : Int32))] (.int (0 : Int32)) := (Arv.new A2 (by decide)).pad (pad_rep [] (.int (0 : Int32)) 2)
  have k8 := (V_o0.ext E2)
  obtain ⟨cl9, Ar9, qc9, S9, M9, Ha9, G9⟩ := id k8
  obtain ⟨vr10, _, ⟨T10, L10, k10, n10⟩, -, X10, ⟨Lc10, hQ10, l10, y10, z10⟩, st10⟩ := Jvm.LawKit.callS X2 hx (y := (⟨"java/lang/Math", "min", "(II)I"⟩ : MethodName)) hown (mvT hZ (hw _ (List.mem_of_getElem? (i := 34) rfl))) (mvT hZ (hw _ (List.mem_of_getElem? (i := 35) rfl))) (mvT hZ (hw _ (List.mem_of_getElem? (i := 36) rfl))) (mvT hZ (hw _ (List.mem_of_getElem? (i := 37) rfl))) (by decide) (backOf (W := 4) (rm7 l Z a0 hw [] (4 : Int32) (2 : Int32) h2 n0 z6) hZ (hw _ (List.mem_of_getElem? (i := 37) rfl)) (hw _ (List.mem_of_getElem? (i := 36) rfl)) (by decide) (by decide)) (g := (mkF m 25 #[.val (.ref o0), .val (.int (2 : Int32)), .val (.ref b2)] [(.int (2 : Int32)), (.int (4 : Int32)), (.int (0 : Int32)), (.ref b2), (.int (0 : Int32)), (.ref o0)])) rfl (by rw [hml]; rfl) (argsL := [(.int (4 : Int32)), (.int (2 : Int32))]) (rest := [(.int (0 : Int32)), (.ref b2), (.int (0 : Int32)), (.ref o0)]) (lenOf pd__II_I rfl) rfl (by show 2 * 0 + _ ≤ _; exact Nat.le_of_eq rfl) (hb hby d6_25) (fun _ _ => ⟨rfl, e2, (by decide : 1 + 0 ≤ _), (by decide : 2 + 0 ≤ _)⟩)
  dsimp only [Pt.U, Pt.locs, Pt.cells, Pt.slots] at X10 l10 y10 z10 st10 hQ10
  subst l10 y10 z10
  have N10q := (show _ ∧ _ ∧ _ from hQ10).1
  have hv10 := (show _ ∧ _ ∧ _ from hQ10).2.1
  have e10 := (show _ ∧ _ ∧ _ from hQ10).2.2
  clear hQ10
  subst hv10
  have N10 := Fr.app N0 N10q
  obtain ⟨T11, h11, L11, X11, e11, N11, K11, V11r, st11⟩ := cpA X10 hx hZ hown (hw _ (List.mem_of_getElem? (i := 38) rfl)) (hw _ (List.mem_of_getElem? (i := 41) rfl)) (hw _ (List.mem_of_getElem? (i := 39) rfl)) (hw _ (List.mem_of_getElem? (i := 40) rfl)) e10 k8 V2 (us := [(.int w10_e), (.int w11_e)]) (Or.inl ⟨rfl, rfl⟩) (by decide) (by decide) (by decide) (Nat.le_of_ble_eq_true rfl) (Nat.le_of_ble_eq_true rfl) rfl (Nat.le_of_ble_eq_true rfl) N10 g4 (g := (mkF m 28 #[.val (.ref o0), .val (.int (2 : Int32)), .val (.ref b2)] [(.int (2 : Int32)), (.int (0 : Int32)), (.ref b2), (.int (0 : Int32)), (.ref o0)])) rfl (by rw [hml]; rfl) rfl (hb hby d6_28) (by decide) (W := 0) (by show 2 * 0 + _ ≤ _; exact Nat.le_of_eq rfl) (by decide)
  have V11 : Arv Z h11 b2 k2 .int (2 : Int32) [(.int w10_e), (.int w11_e)] (.int (0 : Int32)) := V11r
  have z12 : n0 ≤ h11.size := Nat.le_trans z6 K11.1
  have hs13 : h0.size ≤ h11.size := Nat.le_trans hs7 K11.1
  obtain ⟨fs, hr, hrun, hended, hW, hsame⟩ := X11.leave (v := some (.ref b2)) (fun h => by rw [Bd.returns] at h; cases h) hlk
  refine ⟨_, _, pre0 _ ?_, hrun, hended, _, _, rfl, ?_, ⟨_, rfl⟩, hW, hsame.mono (by decide) (by decide)⟩
  · skip
    show Steps p.tables e below (s₁.setTop (mkF m 0 #[.val (.ref o0), .val (.int (2 : Int32)), .unset] [])) _
    refine XS.iloadN X0.here hx rfl (hb hby d6_0) rfl ?_
    show Steps p.tables e below (s₁.setTop (mkF m 1 #[.val (.ref o0), .val (.int (2 : Int32)), .unset] [(.int (2 : Int32))])) _
    refine XS.aloadN X0.here hx rfl (hb hby d6_1) rfl rfl ?_
    show Steps p.tables e below (s₁.setTop (mkF m 2 #[.val (.ref o0), .val (.int (2 : Int32)), .unset] [(.ref o0), (.int (2 : Int32))])) _
    refine X0.arraylength hx (by rw [e0]; exact Ar1.1) (State.isArrayOf_alike hZ.alike Ar1.2.1) (g := (mkF m 2 #[.val (.ref o0), .val (.int (2 : Int32)), .unset] [(.ref o0), (.int (2 : Int32))])) rfl rfl (hb hby d6_2) _ ?_
    rw [len_of S1 M1]
    show Steps p.tables e below (s₁.setTop (mkF m 3 #[.val (.ref o0), .val (.int (2 : Int32)), .unset] [(.int (4 : Int32)), (.int (2 : Int32))])) _
    refine XS.icmpYes X0.here hx rfl (pc0 := 3) (pc' := 14) rfl (hb hby d6_3) rfl (XT.ii_ne_t (by decide)) (by decide) (by decide) ?_
    show Steps p.tables e below (s₁.setTop (mkF m 14 #[.val (.ref o0), .val (.int (2 : Int32)), .unset] [])) _
    refine XS.iloadN X0.here hx rfl (hb hby d6_14) rfl ?_
    show Steps p.tables e below (s₁.setTop (mkF m 15 #[.val (.ref o0), .val (.int (2 : Int32)), .unset] [(.int (2 : Int32))])) _
    refine st2 _ ?_
    show Steps p.tables e below (T2.setTop (mkF m 17 #[.val (.ref o0), .val (.int (2 : Int32)), .unset] [(.ref b2)])) _
    refine XS.astoreN X2.here hx rfl (hb hby d6_17) rfl rfl (l' := #[.val (.ref o0), .val (.int (2 : Int32)), .val (.ref b2)]) rfl ?_
    show Steps p.tables e below (T2.setTop (mkF m 18 #[.val (.ref o0), .val (.int (2 : Int32)), .val (.ref b2)] [])) _
    refine XS.aloadN X2.here hx rfl (hb hby d6_18) rfl rfl ?_
    show Steps p.tables e below (T2.setTop (mkF m 19 #[.val (.ref o0), .val (.int (2 : Int32)), .val (.ref b2)] [(.ref o0)])) _
    refine XT.iconstV X2.here hx rfl (0 : Int32) (hb hby d6_19) (by decide) ?_
    show Steps p.tables e below (T2.setTop (mkF m 20 #[.val (.ref o0), .val (.int (2 : Int32)), .val (.ref b2)] [(.int (0 : Int32)), (.ref o0)])) _
    refine XS.aloadN X2.here hx rfl (hb hby d6_20) rfl rfl ?_
    show Steps p.tables e below (T2.setTop (mkF m 21 #[.val (.ref o0), .val (.int (2 : Int32)), .val (.ref b2)] [(.ref b2), (.int (0 : Int32)), (.ref o0)])) _
    refine XT.iconstV X2.here hx rfl (0 : Int32) (hb hby d6_21) (by decide) ?_
    show Steps p.tables e below (T2.setTop (mkF m 22 #[.val (.ref o0), .val (.int (2 : Int32)), .val (.ref b2)] [(.int (0 : Int32)), (.ref b2), (.int (0 : Int32)), (.ref o0)])) _
    refine XS.aloadN X2.here hx rfl (hb hby d6_22) rfl rfl ?_
    show Steps p.tables e below (T2.setTop (mkF m 23 #[.val (.ref o0), .val (.int (2 : Int32)), .val (.ref b2)] [(.ref o0), (.int (0 : Int32)), (.ref b2), (.int (0 : Int32)), (.ref o0)])) _
    refine X2.arraylength hx (by rw [e2]; exact Ar9.1) (State.isArrayOf_alike hZ.alike Ar9.2.1) (g := (mkF m 23 #[.val (.ref o0), .val (.int (2 : Int32)), .val (.ref b2)] [(.ref o0), (.int (0 : Int32)), (.ref b2), (.int (0 : Int32)), (.ref o0)])) rfl rfl (hb hby d6_23) _ ?_
    rw [len_of S9 M9]
    show Steps p.tables e below (T2.setTop (mkF m 24 #[.val (.ref o0), .val (.int (2 : Int32)), .val (.ref b2)] [(.int (4 : Int32)), (.int (0 : Int32)), (.ref b2), (.int (0 : Int32)), (.ref o0)])) _
    refine XS.iloadN X2.here hx rfl (hb hby d6_24) rfl ?_
    show Steps p.tables e below (T2.setTop (mkF m 25 #[.val (.ref o0), .val (.int (2 : Int32)), .val (.ref b2)] [(.int (2 : Int32)), (.int (4 : Int32)), (.int (0 : Int32)), (.ref b2), (.int (0 : Int32)), (.ref o0)])) _
    refine st10 _ ?_
    show Steps p.tables e below (T10.setTop (mkF m 28 #[.val (.ref o0), .val (.int (2 : Int32)), .val (.ref b2)] [(.int (2 : Int32)), (.int (0 : Int32)), (.ref b2), (.int (0 : Int32)), (.ref o0)])) _
    refine st11 _ ?_
    show Steps p.tables e below (T11.setTop (mkF m 31 #[.val (.ref o0), .val (.int (2 : Int32)), .val (.ref b2)] [])) _
    refine XS.aloadN X11.here hx rfl (hb hby d6_31) rfl rfl ?_
    show Steps p.tables e below (T11.setTop (mkF m 32 #[.val (.ref o0), .val (.int (2 : Int32)), .val (.ref b2)] [(.ref b2)])) _
    exact X11.areturnOut hx rfl Bd.returns rfl (hb hby d6_32) hr
  · skip
    show Qcp4_2 Z o0 w10_e w11_e w12_e w13_e kA h0 n0 _ T11.heap _
    rw [e11]
    have k14 := (EA2.keep K11)
    exact ⟨N11, b2, k2, rfl, sz5, (((Keep.refl h0 []).ext E2).trans K11 (allS (Or.inr sz5) all0)), k14, V11⟩
theorem ef_cp4_3 (m : MethodId) (o0 : Addr) : entryFrame m #[(.ref o0), (.int (3 : Int32))] 3 = mkF m 0 #[.val (.ref o0), .val (.int (3 : Int32)), .unset] [] := by first | (simp [entryFrame, mkF, argsToLocals, Value.category]; done) | rfl
def Qcp4_3 (Z : State) (o0 : Addr) (w10_e : Int32) (w11_e : Int32) (w12_e : Int32) (w13_e : Int32) (kA : ClassId) (h0 : Heap) (n0 : Nat) (v : Option Value) (h : Heap) (L : List Loc) : Prop := Fr n0 L ∧ ∃ (xcp4_3_0 : Addr) (kcp4_3_1 : ClassId), v = some (.ref xcp4_3_0) ∧ h0.size ≤ xcp4_3_0 ∧ Keep h0 h [] ∧ Exa Z h xcp4_3_0 "[I" ∧ Arv Z h xcp4_3_0 kcp4_3_1 .int (3 : Int32) [(.int w10_e), (.int w11_e), (.int w12_e)] (.int (0 : Int32))
set_option maxRecDepth 65536 in
set_option maxHeartbeats 40000000 in
theorem rmcp4_3 (l : Launch) (Z : State) (a0 : Array Value) (hw : ∀ d ∈ tables_1, d.before a0 Z = true) (ws : List Jvm.Cond) (o0 : Addr) (w10_e : Int32) (w11_e : Int32) (w12_e : Int32) (w13_e : Int32) (kA : ClassId) (h0 : Heap) (n0 : Nat) (Z0 : n0 ≤ h0.size) (E_o0 : Exa Z h0 o0 "[I") (V_o0 : Arv Z h0 o0 kA .int (4 : Int32) [(.int w10_e), (.int w11_e), (.int w12_e), (.int w13_e)] (.int (0 : Int32))) :
    MetFree l (⟨"java/util/Arrays", "copyOf", "([II)[I"⟩ : MethodName) (head1 (Jvm.Cond.code (⟨"java/util/Arrays", "copyOf", "([II)[I"⟩ : MethodName) jdk_65_method_123_code 3 (some (.array .int)) :: ws) ({ frames := 1, cells := 1, slots := 3, locals := 18 } : Room)) (fun a U => a = #[(.ref o0), (.int (3 : Int32))] ∧ Z.Warmed39 U.vm ∧ U.heap = h0) (fun _ _ _ _ _ => True) (fun _ U o U' => ∃ v L, o = .returned v ∧ Qcp4_3 Z o0 w10_e w11_e w12_e w13_e kA h0 n0 v U'.heap L ∧ FrameEnd U o U' L ({ frames := 1, cells := 1, slots := 3, locals := 18 } : Room).cells ({ frames := 1, cells := 1, slots := 3, locals := 18 } : Room).slots) := by
  refine MetFree.of_bodySF (plainFor_of_name pn_java_util_Arrays) hisR ?_
  intro p e s m args below meth c s₁ Bd hml0 hP hK
  obtain ⟨rfl, hZ, hh⟩ := hP
  have hx := Bd.exec
  have hby := Bd.bytes
  have hml : c.maxLocals = 3 := hml0
  have hown : s.vm.findClass "java/util/Arrays" = some m.cls := findClass_of_methodNamed Bd.named
  have hnm := (name_of_methodNamed Bd.named Bd.method).1
  have hlk := BodyLoose.notSynchronized Bd
  have X0 : Stand p l e ({ frames := 1, cells := 1, slots := 3, locals := 18 } : Room) s m #[(.ref o0), (.int (3 : Int32))] below meth c s₁ [] 0 0 := Stand.of_body Bd
  have e0 : s₁.heap = h0 := by rw [← hh, Bd.state]; rfl
  have N0 := Fr.nil n0
  have pre0 : ∀ t, Steps p.tables e below (s₁.setTop (mkF m 0 #[.val (.ref o0), .val (.int (3 : Int32)), .unset] [])) t → Steps p.tables e below (s₁.setTop (entryFrame m #[(.ref o0), (.int (3 : Int32))] 3)) t := fun t k => castTop (ef_cp4_3 m o0) k
  obtain ⟨cl1, Ar1, qc1, S1, M1, Ha1, G1⟩ := id V_o0
  obtain ⟨T2, h2, k2, X2, e2, E2, A2, EA2, st2⟩ := newPE X0 hx hZ (hw _ (List.mem_of_getElem? (i := 1) rfl)) e0 (g := (mkF m 15 #[.val (.ref o0), .val (.int (3 : Int32)), .unset] [(.int (3 : Int32))])) rfl (hb hby d6_15) rfl (by decide) (cap := 3) (by decide) (by decide) (by decide) (by decide) (ad := "[I") rfl
  obtain ⟨b2, gz2⟩ : ∃ z, z = h0.size := ⟨_, rfl⟩
  rw [← gz2] at A2 EA2 st2
  have ne3 : o0 ≠ b2 := Nat.ne_of_lt (Nat.lt_of_lt_of_le E_o0.lt (Nat.le_of_eq gz2.symm))
  have g4 : n0 ≤ b2 := Nat.le_trans Z0 (Nat.le_of_eq gz2.symm)
  have sz5 : h0.size ≤ b2 := Nat.le_trans (Nat.le_refl h0.size) (Nat.le_of_eq gz2.symm)
  have z6 : n0 ≤ h2.size := Nat.le_trans Z0 E2.1
  have hs7 : h0.size ≤ h2.size := Nat.le_trans (Nat.le_refl h0.size) E2.1
  have V2 : Arv Z h2 b2 k2 .int (3 : Int32) [(.int (0 : Int32)), (.int (0 : Int32)), (.int (0 : Int32))] (.int (0 : Int32)) := (Arv.new A2 (by decide)).pad (pad_rep [] (.int (0 : Int32)) 3)
  have k8 := (V_o0.ext E2)
  obtain ⟨cl9, Ar9, qc9, S9, M9, Ha9, G9⟩ := id k8
  obtain ⟨vr10, _, ⟨T10, L10, k10, n10⟩, -, X10, ⟨Lc10, hQ10, l10, y10, z10⟩, st10⟩ := Jvm.LawKit.callS X2 hx (y := (⟨"java/lang/Math", "min", "(II)I"⟩ : MethodName)) hown (mvT hZ (hw _ (List.mem_of_getElem? (i := 34) rfl))) (mvT hZ (hw _ (List.mem_of_getElem? (i := 35) rfl))) (mvT hZ (hw _ (List.mem_of_getElem? (i := 36) rfl))) (mvT hZ (hw _ (List.mem_of_getElem? (i := 37) rfl))) (by decide) (backOf (W := 4) (rm7 l Z a0 hw [] (4 : Int32) (3 : Int32) h2 n0 z6) hZ (hw _ (List.mem_of_getElem? (i := 37) rfl)) (hw _ (List.mem_of_getElem? (i := 36) rfl)) (by decide) (by decide)) (g := (mkF m 25 #[.val (.ref o0), .val (.int (3 : Int32)), .val (.ref b2)] [(.int (3 : Int32)), (.int (4 : Int32)), (.int (0 : Int32)), (.ref b2), (.int (0 : Int32)), (.ref o0)])) rfl (by rw [hml]; rfl) (argsL := [(.int (4 : Int32)), (.int (3 : Int32))]) (rest := [(.int (0 : Int32)), (.ref b2), (.int (0 : Int32)), (.ref o0)]) (lenOf pd__II_I rfl) rfl (by show 2 * 0 + _ ≤ _; exact Nat.le_of_eq rfl) (hb hby d6_25) (fun _ _ => ⟨rfl, e2, (by decide : 1 + 0 ≤ _), (by decide : 3 + 0 ≤ _)⟩)
  dsimp only [Pt.U, Pt.locs, Pt.cells, Pt.slots] at X10 l10 y10 z10 st10 hQ10
  subst l10 y10 z10
  have N10q := (show _ ∧ _ ∧ _ from hQ10).1
  have hv10 := (show _ ∧ _ ∧ _ from hQ10).2.1
  have e10 := (show _ ∧ _ ∧ _ from hQ10).2.2
  clear hQ10
  subst hv10
  have N10 := Fr.app N0 N10q
  obtain ⟨T11, h11, L11, X11, e11, N11, K11, V11r, st11⟩ := cpA X10 hx hZ hown (hw _ (List.mem_of_getElem? (i := 38) rfl)) (hw _ (List.mem_of_getElem? (i := 41) rfl)) (hw _ (List.mem_of_getElem? (i := 39) rfl)) (hw _ (List.mem_of_getElem? (i := 40) rfl)) e10 k8 V2 (us := [(.int w10_e), (.int w11_e), (.int w12_e)]) (Or.inl ⟨rfl, rfl⟩) (by decide) (by decide) (by decide) (Nat.le_of_ble_eq_true rfl) (Nat.le_of_ble_eq_true rfl) rfl (Nat.le_of_ble_eq_true rfl) N10 g4 (g := (mkF m 28 #[.val (.ref o0), .val (.int (3 : Int32)), .val (.ref b2)] [(.int (3 : Int32)), (.int (0 : Int32)), (.ref b2), (.int (0 : Int32)), (.ref o0)])) rfl (by rw [hml]; rfl) rfl (hb hby d6_28) (by decide) (W := 0) (by show 2 * 0 + _ ≤ _; exact Nat.le_of_eq rfl) (by decide)
  have V11 : Arv Z h11 b2 k2 .int (3 : Int32) [(.int w10_e), (.int w11_e), (.int w12_e)] (.int (0 : Int32)) := V11r
  have z12 : n0 ≤ h11.size := Nat.le_trans z6 K11.1
  have hs13 : h0.size ≤ h11.size := Nat.le_trans hs7 K11.1
  obtain ⟨fs, hr, hrun, hended, hW, hsame⟩ := X11.leave (v := some (.ref b2)) (fun h => by rw [Bd.returns] at h; cases h) hlk
  refine ⟨_, _, pre0 _ ?_, hrun, hended, _, _, rfl, ?_, ⟨_, rfl⟩, hW, hsame.mono (by decide) (by decide)⟩
  · skip
    show Steps p.tables e below (s₁.setTop (mkF m 0 #[.val (.ref o0), .val (.int (3 : Int32)), .unset] [])) _
    refine XS.iloadN X0.here hx rfl (hb hby d6_0) rfl ?_
    show Steps p.tables e below (s₁.setTop (mkF m 1 #[.val (.ref o0), .val (.int (3 : Int32)), .unset] [(.int (3 : Int32))])) _
    refine XS.aloadN X0.here hx rfl (hb hby d6_1) rfl rfl ?_
    show Steps p.tables e below (s₁.setTop (mkF m 2 #[.val (.ref o0), .val (.int (3 : Int32)), .unset] [(.ref o0), (.int (3 : Int32))])) _
    refine X0.arraylength hx (by rw [e0]; exact Ar1.1) (State.isArrayOf_alike hZ.alike Ar1.2.1) (g := (mkF m 2 #[.val (.ref o0), .val (.int (3 : Int32)), .unset] [(.ref o0), (.int (3 : Int32))])) rfl rfl (hb hby d6_2) _ ?_
    rw [len_of S1 M1]
    show Steps p.tables e below (s₁.setTop (mkF m 3 #[.val (.ref o0), .val (.int (3 : Int32)), .unset] [(.int (4 : Int32)), (.int (3 : Int32))])) _
    refine XS.icmpYes X0.here hx rfl (pc0 := 3) (pc' := 14) rfl (hb hby d6_3) rfl (XT.ii_ne_t (by decide)) (by decide) (by decide) ?_
    show Steps p.tables e below (s₁.setTop (mkF m 14 #[.val (.ref o0), .val (.int (3 : Int32)), .unset] [])) _
    refine XS.iloadN X0.here hx rfl (hb hby d6_14) rfl ?_
    show Steps p.tables e below (s₁.setTop (mkF m 15 #[.val (.ref o0), .val (.int (3 : Int32)), .unset] [(.int (3 : Int32))])) _
    refine st2 _ ?_
    show Steps p.tables e below (T2.setTop (mkF m 17 #[.val (.ref o0), .val (.int (3 : Int32)), .unset] [(.ref b2)])) _
    refine XS.astoreN X2.here hx rfl (hb hby d6_17) rfl rfl (l' := #[.val (.ref o0), .val (.int (3 : Int32)), .val (.ref b2)]) rfl ?_
    show Steps p.tables e below (T2.setTop (mkF m 18 #[.val (.ref o0), .val (.int (3 : Int32)), .val (.ref b2)] [])) _
    refine XS.aloadN X2.here hx rfl (hb hby d6_18) rfl rfl ?_
    show Steps p.tables e below (T2.setTop (mkF m 19 #[.val (.ref o0), .val (.int (3 : Int32)), .val (.ref b2)] [(.ref o0)])) _
    refine XT.iconstV X2.here hx rfl (0 : Int32) (hb hby d6_19) (by decide) ?_
    show Steps p.tables e below (T2.setTop (mkF m 20 #[.val (.ref o0), .val (.int (3 : Int32)), .val (.ref b2)] [(.int (0 : Int32)), (.ref o0)])) _
    refine XS.aloadN X2.here hx rfl (hb hby d6_20) rfl rfl ?_
    show Steps p.tables e below (T2.setTop (mkF m 21 #[.val (.ref o0), .val (.int (3 : Int32)), .val (.ref b2)] [(.ref b2), (.int (0 : Int32)), (.ref o0)])) _
    refine XT.iconstV X2.here hx rfl (0 : Int32) (hb hby d6_21) (by decide) ?_
    show Steps p.tables e below (T2.setTop (mkF m 22 #[.val (.ref o0), .val (.int (3 : Int32)), .val (.ref b2)] [(.int (0 : Int32)), (.ref b2), (.int (0 : Int32)), (.ref o0)])) _
    refine XS.aloadN X2.here hx rfl (hb hby d6_22) rfl rfl ?_
    show Steps p.tables e below (T2.setTop (mkF m 23 #[.val (.ref o0), .val (.int (3 : Int32)), .val (.ref b2)] [(.ref o0), (.int (0 : Int32)), (.ref b2), (.int (0 : Int32)), (.ref o0)])) _
    refine X2.arraylength hx (by rw [e2]; exact Ar9.1) (State.isArrayOf_alike hZ.alike Ar9.2.1) (g := (mkF m 23 #[.val (.ref o0), .val (.int (3 : Int32)), .val (.ref b2)] [(.ref o0), (.int (0 : Int32)), (.ref b2), (.int (0 : Int32)), (.ref o0)])) rfl rfl (hb hby d6_23) _ ?_
    rw [len_of S9 M9]
    show Steps p.tables e below (T2.setTop (mkF m 24 #[.val (.ref o0), .val (.int (3 : Int32)), .val (.ref b2)] [(.int (4 : Int32)), (.int (0 : Int32)), (.ref b2), (.int (0 : Int32)), (.ref o0)])) _
    refine XS.iloadN X2.here hx rfl (hb hby d6_24) rfl ?_
    show Steps p.tables e below (T2.setTop (mkF m 25 #[.val (.ref o0), .val (.int (3 : Int32)), .val (.ref b2)] [(.int (3 : Int32)), (.int (4 : Int32)), (.int (0 : Int32)), (.ref b2), (.int (0 : Int32)), (.ref o0)])) _
    refine st10 _ ?_
    show Steps p.tables e below (T10.setTop (mkF m 28 #[.val (.ref o0), .val (.int (3 : Int32)), .val (.ref b2)] [(.int (3 : Int32)), (.int (0 : Int32)), (.ref b2), (.int (0 : Int32)), (.ref o0)])) _
    refine st11 _ ?_
    show Steps p.tables e below (T11.setTop (mkF m 31 #[.val (.ref o0), .val (.int (3 : Int32)), .val (.ref b2)] [])) _
    refine XS.aloadN X11.here hx rfl (hb hby d6_31) rfl rfl ?_
    show Steps p.tables e below (T11.setTop (mkF m 32 #[.val (.ref o0), .val (.int (3 : Int32)), .val (.ref b2)] [(.ref b2)])) _
    exact X11.areturnOut hx rfl Bd.returns rfl (hb hby d6_32) hr
  · skip
    show Qcp4_3 Z o0 w10_e w11_e w12_e w13_e kA h0 n0 _ T11.heap _
    rw [e11]
    have k14 := (EA2.keep K11)
    exact ⟨N11, b2, k2, rfl, sz5, (((Keep.refl h0 []).ext E2).trans K11 (allS (Or.inr sz5) all0)), k14, V11⟩
theorem d6_6 : decode jdk_65_method_123_code 6 = .ok (.aload_n 0, 1) := by decide +kernel
theorem d6_7 : decode jdk_65_method_123_code 7 = .ok (.invokevirtual 316, 3) := by decide +kernel
theorem d6_10 : decode jdk_65_method_123_code 10 = .ok (.checkcast 317, 3) := by decide +kernel
theorem d6_13 : decode jdk_65_method_123_code 13 = .ok (.areturn, 1) := by decide +kernel
theorem ef_cp4_4 (m : MethodId) (o0 : Addr) : entryFrame m #[(.ref o0), (.int (4 : Int32))] 3 = mkF m 0 #[.val (.ref o0), .val (.int (4 : Int32)), .unset] [] := by first | (simp [entryFrame, mkF, argsToLocals, Value.category]; done) | rfl
def Qcp4_4 (Z : State) (o0 : Addr) (w10_e : Int32) (w11_e : Int32) (w12_e : Int32) (w13_e : Int32) (kA : ClassId) (h0 : Heap) (n0 : Nat) (v : Option Value) (h : Heap) (L : List Loc) : Prop := Fr n0 L ∧ ∃ (xcp4_4_0 : Addr), v = some (.ref xcp4_4_0) ∧ h0.size ≤ xcp4_4_0 ∧ Keep h0 h [] ∧ Exa Z h xcp4_4_0 "[I" ∧ Arv Z h xcp4_4_0 kA .int (4 : Int32) [(.int w10_e), (.int w11_e), (.int w12_e), (.int w13_e)] (.int (0 : Int32))
set_option maxRecDepth 65536 in
set_option maxHeartbeats 40000000 in
theorem rmcp4_4 (l : Launch) (Z : State) (a0 : Array Value) (hw : ∀ d ∈ tables_1, d.before a0 Z = true) (ws : List Jvm.Cond) (o0 : Addr) (w10_e : Int32) (w11_e : Int32) (w12_e : Int32) (w13_e : Int32) (kA : ClassId) (h0 : Heap) (n0 : Nat) (Z0 : n0 ≤ h0.size) (E_o0 : Exa Z h0 o0 "[I") (V_o0 : Arv Z h0 o0 kA .int (4 : Int32) [(.int w10_e), (.int w11_e), (.int w12_e), (.int w13_e)] (.int (0 : Int32))) :
    MetFree l (⟨"java/util/Arrays", "copyOf", "([II)[I"⟩ : MethodName) (head1 (Jvm.Cond.code (⟨"java/util/Arrays", "copyOf", "([II)[I"⟩ : MethodName) jdk_65_method_123_code 3 (some (.array .int)) :: ws) ({ frames := 1, cells := 1, slots := 4, locals := 14 } : Room)) (fun a U => a = #[(.ref o0), (.int (4 : Int32))] ∧ Z.Warmed39 U.vm ∧ U.heap = h0) (fun _ _ _ _ _ => True) (fun _ U o U' => ∃ v L, o = .returned v ∧ Qcp4_4 Z o0 w10_e w11_e w12_e w13_e kA h0 n0 v U'.heap L ∧ FrameEnd U o U' L ({ frames := 1, cells := 1, slots := 4, locals := 14 } : Room).cells ({ frames := 1, cells := 1, slots := 4, locals := 14 } : Room).slots) := by
  refine MetFree.of_bodySF (plainFor_of_name pn_java_util_Arrays) hisR ?_
  intro p e s m args below meth c s₁ Bd hml0 hP hK
  obtain ⟨rfl, hZ, hh⟩ := hP
  have hx := Bd.exec
  have hby := Bd.bytes
  have hml : c.maxLocals = 3 := hml0
  have hown : s.vm.findClass "java/util/Arrays" = some m.cls := findClass_of_methodNamed Bd.named
  have hnm := (name_of_methodNamed Bd.named Bd.method).1
  have hlk := BodyLoose.notSynchronized Bd
  have X0 : Stand p l e ({ frames := 1, cells := 1, slots := 4, locals := 14 } : Room) s m #[(.ref o0), (.int (4 : Int32))] below meth c s₁ [] 0 0 := Stand.of_body Bd
  have e0 : s₁.heap = h0 := by rw [← hh, Bd.state]; rfl
  have N0 := Fr.nil n0
  have pre0 : ∀ t, Steps p.tables e below (s₁.setTop (mkF m 0 #[.val (.ref o0), .val (.int (4 : Int32)), .unset] [])) t → Steps p.tables e below (s₁.setTop (entryFrame m #[(.ref o0), (.int (4 : Int32))] 3)) t := fun t k => castTop (ef_cp4_4 m o0) k
  obtain ⟨cl1, Ar1, qc1, S1, M1, Ha1, G1⟩ := id V_o0
  obtain ⟨T2, h2, X2, e2, E2, V2r, EA2, st2⟩ := cloneH X0 hx hZ hown (hw _ (List.mem_of_getElem? (i := 42) rfl)) (hw _ (List.mem_of_getElem? (i := 43) rfl)) (hw _ (List.mem_of_getElem? (i := 47) rfl)) (hw _ (List.mem_of_getElem? (i := 45) rfl)) (hw _ (List.mem_of_getElem? (i := 46) rfl)) (hw _ (List.mem_of_getElem? (i := 48) rfl)) e0 (Arv.arh V_o0) E_o0 (g := (mkF m 7 #[.val (.ref o0), .val (.int (4 : Int32)), .unset] [(.ref o0)])) rfl (by rw [hml]; rfl) rfl (hb hby d6_7) (by decide) (W := 0) (cap := 4) (by show 2 * 0 + _ ≤ _; exact Nat.le_of_eq rfl) (by decide) (by decide) (by decide) (by decide)
  obtain ⟨b2, gz2⟩ : ∃ z, z = h0.size := ⟨_, rfl⟩
  rw [← gz2] at V2r EA2 st2
  have ne3 : o0 ≠ b2 := Nat.ne_of_lt (Nat.lt_of_lt_of_le E_o0.lt (Nat.le_of_eq gz2.symm))
  have g4 : n0 ≤ b2 := Nat.le_trans Z0 (Nat.le_of_eq gz2.symm)
  have sz5 : h0.size ≤ b2 := Nat.le_trans (Nat.le_refl h0.size) (Nat.le_of_eq gz2.symm)
  have z6 : n0 ≤ h2.size := Nat.le_trans Z0 E2.1
  have hs7 : h0.size ≤ h2.size := Nat.le_trans (Nat.le_refl h0.size) E2.1
  have V2 : Arv Z h2 b2 kA .int (4 : Int32) [(.int w10_e), (.int w11_e), (.int w12_e), (.int w13_e)] (.int (0 : Int32)) := V2r
  obtain ⟨T8, X8, e8, st8⟩ := castY X2 hx hZ hown (hw _ (List.mem_of_getElem? (i := 49) rfl)) e2 (Ins.self EA2) (g := (mkF m 10 #[.val (.ref o0), .val (.int (4 : Int32)), .unset] [(.ref b2)])) rfl rfl (hb hby d6_10)
  obtain ⟨fs, hr, hrun, hended, hW, hsame⟩ := X8.leave (v := some (.ref b2)) (fun h => by rw [Bd.returns] at h; cases h) hlk
  refine ⟨_, _, pre0 _ ?_, hrun, hended, _, _, rfl, ?_, ⟨_, rfl⟩, hW, hsame.mono (by decide) (by decide)⟩
  · skip
    show Steps p.tables e below (s₁.setTop (mkF m 0 #[.val (.ref o0), .val (.int (4 : Int32)), .unset] [])) _
    refine XS.iloadN X0.here hx rfl (hb hby d6_0) rfl ?_
    show Steps p.tables e below (s₁.setTop (mkF m 1 #[.val (.ref o0), .val (.int (4 : Int32)), .unset] [(.int (4 : Int32))])) _
    refine XS.aloadN X0.here hx rfl (hb hby d6_1) rfl rfl ?_
    show Steps p.tables e below (s₁.setTop (mkF m 2 #[.val (.ref o0), .val (.int (4 : Int32)), .unset] [(.ref o0), (.int (4 : Int32))])) _
    refine X0.arraylength hx (by rw [e0]; exact Ar1.1) (State.isArrayOf_alike hZ.alike Ar1.2.1) (g := (mkF m 2 #[.val (.ref o0), .val (.int (4 : Int32)), .unset] [(.ref o0), (.int (4 : Int32))])) rfl rfl (hb hby d6_2) _ ?_
    rw [len_of S1 M1]
    show Steps p.tables e below (s₁.setTop (mkF m 3 #[.val (.ref o0), .val (.int (4 : Int32)), .unset] [(.int (4 : Int32)), (.int (4 : Int32))])) _
    refine XS.icmpNo X0.here hx rfl (hb hby d6_3) rfl (XT.ii_ne_f (by decide)) ?_
    show Steps p.tables e below (s₁.setTop (mkF m 6 #[.val (.ref o0), .val (.int (4 : Int32)), .unset] [])) _
    refine XS.aloadN X0.here hx rfl (hb hby d6_6) rfl rfl ?_
    show Steps p.tables e below (s₁.setTop (mkF m 7 #[.val (.ref o0), .val (.int (4 : Int32)), .unset] [(.ref o0)])) _
    refine st2 _ ?_
    show Steps p.tables e below (T2.setTop (mkF m 10 #[.val (.ref o0), .val (.int (4 : Int32)), .unset] [(.ref b2)])) _
    refine st8 _ ?_
    show Steps p.tables e below (T8.setTop (mkF m 13 #[.val (.ref o0), .val (.int (4 : Int32)), .unset] [(.ref b2)])) _
    exact X8.areturnOut hx rfl Bd.returns rfl (hb hby d6_13) hr
  · skip
    show Qcp4_4 Z o0 w10_e w11_e w12_e w13_e kA h0 n0 _ T8.heap _
    rw [e8]
    exact ⟨N0, b2, rfl, sz5, ((Keep.refl h0 []).ext E2), EA2, V2⟩
theorem ef_cp8_5 (m : MethodId) (o0 : Addr) : entryFrame m #[(.ref o0), (.int (5 : Int32))] 3 = mkF m 0 #[.val (.ref o0), .val (.int (5 : Int32)), .unset] [] := by first | (simp [entryFrame, mkF, argsToLocals, Value.category]; done) | rfl
def Qcp8_5 (Z : State) (o0 : Addr) (w10_e : Int32) (w11_e : Int32) (w12_e : Int32) (w13_e : Int32) (w14_e : Int32) (w15_e : Int32) (w16_e : Int32) (w17_e : Int32) (kA : ClassId) (h0 : Heap) (n0 : Nat) (v : Option Value) (h : Heap) (L : List Loc) : Prop := Fr n0 L ∧ ∃ (xcp8_5_0 : Addr) (kcp8_5_1 : ClassId), v = some (.ref xcp8_5_0) ∧ h0.size ≤ xcp8_5_0 ∧ Keep h0 h [] ∧ Exa Z h xcp8_5_0 "[I" ∧ Arv Z h xcp8_5_0 kcp8_5_1 .int (5 : Int32) [(.int w10_e), (.int w11_e), (.int w12_e), (.int w13_e), (.int w14_e)] (.int (0 : Int32))
set_option maxRecDepth 65536 in
set_option maxHeartbeats 40000000 in
theorem rmcp8_5 (l : Launch) (Z : State) (a0 : Array Value) (hw : ∀ d ∈ tables_1, d.before a0 Z = true) (ws : List Jvm.Cond) (o0 : Addr) (w10_e : Int32) (w11_e : Int32) (w12_e : Int32) (w13_e : Int32) (w14_e : Int32) (w15_e : Int32) (w16_e : Int32) (w17_e : Int32) (kA : ClassId) (h0 : Heap) (n0 : Nat) (Z0 : n0 ≤ h0.size) (E_o0 : Exa Z h0 o0 "[I") (V_o0 : Arv Z h0 o0 kA .int (8 : Int32) [(.int w10_e), (.int w11_e), (.int w12_e), (.int w13_e), (.int w14_e), (.int w15_e), (.int w16_e), (.int w17_e)] (.int (0 : Int32))) :
    MetFree l (⟨"java/util/Arrays", "copyOf", "([II)[I"⟩ : MethodName) (head1 (Jvm.Cond.code (⟨"java/util/Arrays", "copyOf", "([II)[I"⟩ : MethodName) jdk_65_method_123_code 3 (some (.array .int)) :: ws) ({ frames := 1, cells := 1, slots := 5, locals := 18 } : Room)) (fun a U => a = #[(.ref o0), (.int (5 : Int32))] ∧ Z.Warmed39 U.vm ∧ U.heap = h0) (fun _ _ _ _ _ => True) (fun _ U o U' => ∃ v L, o = .returned v ∧ Qcp8_5 Z o0 w10_e w11_e w12_e w13_e w14_e w15_e w16_e w17_e kA h0 n0 v U'.heap L ∧ FrameEnd U o U' L ({ frames := 1, cells := 1, slots := 5, locals := 18 } : Room).cells ({ frames := 1, cells := 1, slots := 5, locals := 18 } : Room).slots) := by
  refine MetFree.of_bodySF (plainFor_of_name pn_java_util_Arrays) hisR ?_
  intro p e s m args below meth c s₁ Bd hml0 hP hK
  obtain ⟨rfl, hZ, hh⟩ := hP
  have hx := Bd.exec
  have hby := Bd.bytes
  have hml : c.maxLocals = 3 := hml0
  have hown : s.vm.findClass "java/util/Arrays" = some m.cls := findClass_of_methodNamed Bd.named
  have hnm := (name_of_methodNamed Bd.named Bd.method).1
  have hlk := BodyLoose.notSynchronized Bd
  have X0 : Stand p l e ({ frames := 1, cells := 1, slots := 5, locals := 18 } : Room) s m #[(.ref o0), (.int (5 : Int32))] below meth c s₁ [] 0 0 := Stand.of_body Bd
  have e0 : s₁.heap = h0 := by rw [← hh, Bd.state]; rfl
  have N0 := Fr.nil n0
  have pre0 : ∀ t, Steps p.tables e below (s₁.setTop (mkF m 0 #[.val (.ref o0), .val (.int (5 : Int32)), .unset] [])) t → Steps p.tables e below (s₁.setTop (entryFrame m #[(.ref o0), (.int (5 : Int32))] 3)) t := fun t k => castTop (ef_cp8_5 m o0) k
  obtain ⟨cl1, Ar1, qc1, S1, M1, Ha1, G1⟩ := id V_o0
  obtain ⟨T2, h2, k2, X2, e2, E2, A2, EA2, st2⟩ := newPE X0 hx hZ (hw _ (List.mem_of_getElem? (i := 1) rfl)) e0 (g := (mkF m 15 #[.val (.ref o0), .val (.int (5 : Int32)), .unset] [(.int (5 : Int32))])) rfl (hb hby d6_15) rfl (by decide) (cap := 5) (by decide) (by decide) (by decide) (by decide) (ad := "[I") rfl
  obtain ⟨b2, gz2⟩ : ∃ z, z = h0.size := ⟨_, rfl⟩
  rw [← gz2] at A2 EA2 st2
  have ne3 : o0 ≠ b2 := Nat.ne_of_lt (Nat.lt_of_lt_of_le E_o0.lt (Nat.le_of_eq gz2.symm))
  have g4 : n0 ≤ b2 := Nat.le_trans Z0 (Nat.le_of_eq gz2.symm)
  have sz5 : h0.size ≤ b2 := Nat.le_trans (Nat.le_refl h0.size) (Nat.le_of_eq gz2.symm)
  have z6 : n0 ≤ h2.size := Nat.le_trans Z0 E2.1
  have hs7 : h0.size ≤ h2.size := Nat.le_trans (Nat.le_refl h0.size) E2.1
  have V2 : Arv Z h2 b2 k2 .int (5 : Int32) [(.int (0 : Int32)), (.int (0 : Int32)), (.int (0 : Int32)), (.int (0 : Int32)), (.int (0 : Int32))] (.int (0 : Int32)) := (Arv.new A2 (by decide)).pad (pad_rep [] (.int (0 : Int32)) 5)
  have k8 := (V_o0.ext E2)
  obtain ⟨cl9, Ar9, qc9, S9, M9, Ha9, G9⟩ := id k8
  obtain ⟨vr10, _, ⟨T10, L10, k10, n10⟩, -, X10, ⟨Lc10, hQ10, l10, y10, z10⟩, st10⟩ := Jvm.LawKit.callS X2 hx (y := (⟨"java/lang/Math", "min", "(II)I"⟩ : MethodName)) hown (mvT hZ (hw _ (List.mem_of_getElem? (i := 34) rfl))) (mvT hZ (hw _ (List.mem_of_getElem? (i := 35) rfl))) (mvT hZ (hw _ (List.mem_of_getElem? (i := 36) rfl))) (mvT hZ (hw _ (List.mem_of_getElem? (i := 37) rfl))) (by decide) (backOf (W := 4) (rm7 l Z a0 hw [] (8 : Int32) (5 : Int32) h2 n0 z6) hZ (hw _ (List.mem_of_getElem? (i := 37) rfl)) (hw _ (List.mem_of_getElem? (i := 36) rfl)) (by decide) (by decide)) (g := (mkF m 25 #[.val (.ref o0), .val (.int (5 : Int32)), .val (.ref b2)] [(.int (5 : Int32)), (.int (8 : Int32)), (.int (0 : Int32)), (.ref b2), (.int (0 : Int32)), (.ref o0)])) rfl (by rw [hml]; rfl) (argsL := [(.int (8 : Int32)), (.int (5 : Int32))]) (rest := [(.int (0 : Int32)), (.ref b2), (.int (0 : Int32)), (.ref o0)]) (lenOf pd__II_I rfl) rfl (by show 2 * 0 + _ ≤ _; exact Nat.le_of_eq rfl) (hb hby d6_25) (fun _ _ => ⟨rfl, e2, (by decide : 1 + 0 ≤ _), (by decide : 5 + 0 ≤ _)⟩)
  dsimp only [Pt.U, Pt.locs, Pt.cells, Pt.slots] at X10 l10 y10 z10 st10 hQ10
  subst l10 y10 z10
  have N10q := (show _ ∧ _ ∧ _ from hQ10).1
  have hv10 := (show _ ∧ _ ∧ _ from hQ10).2.1
  have e10 := (show _ ∧ _ ∧ _ from hQ10).2.2
  clear hQ10
  subst hv10
  have N10 := Fr.app N0 N10q
  obtain ⟨T11, h11, L11, X11, e11, N11, K11, V11r, st11⟩ := cpA X10 hx hZ hown (hw _ (List.mem_of_getElem? (i := 38) rfl)) (hw _ (List.mem_of_getElem? (i := 41) rfl)) (hw _ (List.mem_of_getElem? (i := 39) rfl)) (hw _ (List.mem_of_getElem? (i := 40) rfl)) e10 k8 V2 (us := [(.int w10_e), (.int w11_e), (.int w12_e), (.int w13_e), (.int w14_e)]) (Or.inl ⟨rfl, rfl⟩) (by decide) (by decide) (by decide) (Nat.le_of_ble_eq_true rfl) (Nat.le_of_ble_eq_true rfl) rfl (Nat.le_of_ble_eq_true rfl) N10 g4 (g := (mkF m 28 #[.val (.ref o0), .val (.int (5 : Int32)), .val (.ref b2)] [(.int (5 : Int32)), (.int (0 : Int32)), (.ref b2), (.int (0 : Int32)), (.ref o0)])) rfl (by rw [hml]; rfl) rfl (hb hby d6_28) (by decide) (W := 0) (by show 2 * 0 + _ ≤ _; exact Nat.le_of_eq rfl) (by decide)
  have V11 : Arv Z h11 b2 k2 .int (5 : Int32) [(.int w10_e), (.int w11_e), (.int w12_e), (.int w13_e), (.int w14_e)] (.int (0 : Int32)) := V11r
  have z12 : n0 ≤ h11.size := Nat.le_trans z6 K11.1
  have hs13 : h0.size ≤ h11.size := Nat.le_trans hs7 K11.1
  obtain ⟨fs, hr, hrun, hended, hW, hsame⟩ := X11.leave (v := some (.ref b2)) (fun h => by rw [Bd.returns] at h; cases h) hlk
  refine ⟨_, _, pre0 _ ?_, hrun, hended, _, _, rfl, ?_, ⟨_, rfl⟩, hW, hsame.mono (by decide) (by decide)⟩
  · skip
    show Steps p.tables e below (s₁.setTop (mkF m 0 #[.val (.ref o0), .val (.int (5 : Int32)), .unset] [])) _
    refine XS.iloadN X0.here hx rfl (hb hby d6_0) rfl ?_
    show Steps p.tables e below (s₁.setTop (mkF m 1 #[.val (.ref o0), .val (.int (5 : Int32)), .unset] [(.int (5 : Int32))])) _
    refine XS.aloadN X0.here hx rfl (hb hby d6_1) rfl rfl ?_
    show Steps p.tables e below (s₁.setTop (mkF m 2 #[.val (.ref o0), .val (.int (5 : Int32)), .unset] [(.ref o0), (.int (5 : Int32))])) _
    refine X0.arraylength hx (by rw [e0]; exact Ar1.1) (State.isArrayOf_alike hZ.alike Ar1.2.1) (g := (mkF m 2 #[.val (.ref o0), .val (.int (5 : Int32)), .unset] [(.ref o0), (.int (5 : Int32))])) rfl rfl (hb hby d6_2) _ ?_
    rw [len_of S1 M1]
    show Steps p.tables e below (s₁.setTop (mkF m 3 #[.val (.ref o0), .val (.int (5 : Int32)), .unset] [(.int (8 : Int32)), (.int (5 : Int32))])) _
    refine XS.icmpYes X0.here hx rfl (pc0 := 3) (pc' := 14) rfl (hb hby d6_3) rfl (XT.ii_ne_t (by decide)) (by decide) (by decide) ?_
    show Steps p.tables e below (s₁.setTop (mkF m 14 #[.val (.ref o0), .val (.int (5 : Int32)), .unset] [])) _
    refine XS.iloadN X0.here hx rfl (hb hby d6_14) rfl ?_
    show Steps p.tables e below (s₁.setTop (mkF m 15 #[.val (.ref o0), .val (.int (5 : Int32)), .unset] [(.int (5 : Int32))])) _
    refine st2 _ ?_
    show Steps p.tables e below (T2.setTop (mkF m 17 #[.val (.ref o0), .val (.int (5 : Int32)), .unset] [(.ref b2)])) _
    refine XS.astoreN X2.here hx rfl (hb hby d6_17) rfl rfl (l' := #[.val (.ref o0), .val (.int (5 : Int32)), .val (.ref b2)]) rfl ?_
    show Steps p.tables e below (T2.setTop (mkF m 18 #[.val (.ref o0), .val (.int (5 : Int32)), .val (.ref b2)] [])) _
    refine XS.aloadN X2.here hx rfl (hb hby d6_18) rfl rfl ?_
    show Steps p.tables e below (T2.setTop (mkF m 19 #[.val (.ref o0), .val (.int (5 : Int32)), .val (.ref b2)] [(.ref o0)])) _
    refine XT.iconstV X2.here hx rfl (0 : Int32) (hb hby d6_19) (by decide) ?_
    show Steps p.tables e below (T2.setTop (mkF m 20 #[.val (.ref o0), .val (.int (5 : Int32)), .val (.ref b2)] [(.int (0 : Int32)), (.ref o0)])) _
    refine XS.aloadN X2.here hx rfl (hb hby d6_20) rfl rfl ?_
    show Steps p.tables e below (T2.setTop (mkF m 21 #[.val (.ref o0), .val (.int (5 : Int32)), .val (.ref b2)] [(.ref b2), (.int (0 : Int32)), (.ref o0)])) _
    refine XT.iconstV X2.here hx rfl (0 : Int32) (hb hby d6_21) (by decide) ?_
    show Steps p.tables e below (T2.setTop (mkF m 22 #[.val (.ref o0), .val (.int (5 : Int32)), .val (.ref b2)] [(.int (0 : Int32)), (.ref b2), (.int (0 : Int32)), (.ref o0)])) _
    refine XS.aloadN X2.here hx rfl (hb hby d6_22) rfl rfl ?_
    show Steps p.tables e below (T2.setTop (mkF m 23 #[.val (.ref o0), .val (.int (5 : Int32)), .val (.ref b2)] [(.ref o0), (.int (0 : Int32)), (.ref b2), (.int (0 : Int32)), (.ref o0)])) _
    refine X2.arraylength hx (by rw [e2]; exact Ar9.1) (State.isArrayOf_alike hZ.alike Ar9.2.1) (g := (mkF m 23 #[.val (.ref o0), .val (.int (5 : Int32)), .val (.ref b2)] [(.ref o0), (.int (0 : Int32)), (.ref b2), (.int (0 : Int32)), (.ref o0)])) rfl rfl (hb hby d6_23) _ ?_
    rw [len_of S9 M9]
    show Steps p.tables e below (T2.setTop (mkF m 24 #[.val (.ref o0), .val (.int (5 : Int32)), .val (.ref b2)] [(.int (8 : Int32)), (.int (0 : Int32)), (.ref b2), (.int (0 : Int32)), (.ref o0)])) _
    refine XS.iloadN X2.here hx rfl (hb hby d6_24) rfl ?_
    show Steps p.tables e below (T2.setTop (mkF m 25 #[.val (.ref o0), .val (.int (5 : Int32)), .val (.ref b2)] [(.int (5 : Int32)), (.int (8 : Int32)), (.int (0 : Int32)), (.ref b2), (.int (0 : Int32)), (.ref o0)])) _
    refine st10 _ ?_
    show Steps p.tables e below (T10.setTop (mkF m 28 #[.val (.ref o0), .val (.int (5 : Int32)), .val (.ref b2)] [(.int (5 : Int32)), (.int (0 : Int32)), (.ref b2), (.int (0 : Int32)), (.ref o0)])) _
    refine st11 _ ?_
    show Steps p.tables e below (T11.setTop (mkF m 31 #[.val (.ref o0), .val (.int (5 : Int32)), .val (.ref b2)] [])) _
    refine XS.aloadN X11.here hx rfl (hb hby d6_31) rfl rfl ?_
    show Steps p.tables e below (T11.setTop (mkF m 32 #[.val (.ref o0), .val (.int (5 : Int32)), .val (.ref b2)] [(.ref b2)])) _
    exact X11.areturnOut hx rfl Bd.returns rfl (hb hby d6_32) hr
  · skip
    show Qcp8_5 Z o0 w10_e w11_e w12_e w13_e w14_e w15_e w16_e w17_e kA h0 n0 _ T11.heap _
    rw [e11]
    have k14 := (EA2.keep K11)
    exact ⟨N11, b2, k2, rfl, sz5, (((Keep.refl h0 []).ext E2).trans K11 (allS (Or.inr sz5) all0)), k14, V11⟩
theorem ef_cp8_6 (m : MethodId) (o0 : Addr) : entryFrame m #[(.ref o0), (.int (6 : Int32))] 3 = mkF m 0 #[.val (.ref o0), .val (.int (6 : Int32)), .unset] [] := by first | (simp [entryFrame, mkF, argsToLocals, Value.category]; done) | rfl
def Qcp8_6 (Z : State) (o0 : Addr) (w10_e : Int32) (w11_e : Int32) (w12_e : Int32) (w13_e : Int32) (w14_e : Int32) (w15_e : Int32) (w16_e : Int32) (w17_e : Int32) (kA : ClassId) (h0 : Heap) (n0 : Nat) (v : Option Value) (h : Heap) (L : List Loc) : Prop := Fr n0 L ∧ ∃ (xcp8_6_0 : Addr) (kcp8_6_1 : ClassId), v = some (.ref xcp8_6_0) ∧ h0.size ≤ xcp8_6_0 ∧ Keep h0 h [] ∧ Exa Z h xcp8_6_0 "[I" ∧ Arv Z h xcp8_6_0 kcp8_6_1 .int (6 : Int32) [(.int w10_e), (.int w11_e), (.int w12_e), (.int w13_e), (.int w14_e), (.int w15_e)] (.int (0 : Int32))
set_option maxRecDepth 65536 in
set_option maxHeartbeats 40000000 in
theorem rmcp8_6 (l : Launch) (Z : State) (a0 : Array Value) (hw : ∀ d ∈ tables_1, d.before a0 Z = true) (ws : List Jvm.Cond) (o0 : Addr) (w10_e : Int32) (w11_e : Int32) (w12_e : Int32) (w13_e : Int32) (w14_e : Int32) (w15_e : Int32) (w16_e : Int32) (w17_e : Int32) (kA : ClassId) (h0 : Heap) (n0 : Nat) (Z0 : n0 ≤ h0.size) (E_o0 : Exa Z h0 o0 "[I") (V_o0 : Arv Z h0 o0 kA .int (8 : Int32) [(.int w10_e), (.int w11_e), (.int w12_e), (.int w13_e), (.int w14_e), (.int w15_e), (.int w16_e), (.int w17_e)] (.int (0 : Int32))) :
    MetFree l (⟨"java/util/Arrays", "copyOf", "([II)[I"⟩ : MethodName) (head1 (Jvm.Cond.code (⟨"java/util/Arrays", "copyOf", "([II)[I"⟩ : MethodName) jdk_65_method_123_code 3 (some (.array .int)) :: ws) ({ frames := 1, cells := 1, slots := 6, locals := 18 } : Room)) (fun a U => a = #[(.ref o0), (.int (6 : Int32))] ∧ Z.Warmed39 U.vm ∧ U.heap = h0) (fun _ _ _ _ _ => True) (fun _ U o U' => ∃ v L, o = .returned v ∧ Qcp8_6 Z o0 w10_e w11_e w12_e w13_e w14_e w15_e w16_e w17_e kA h0 n0 v U'.heap L ∧ FrameEnd U o U' L ({ frames := 1, cells := 1, slots := 6, locals := 18 } : Room).cells ({ frames := 1, cells := 1, slots := 6, locals := 18 } : Room).slots) := by
  refine MetFree.of_bodySF (plainFor_of_name pn_java_util_Arrays) hisR ?_
  intro p e s m args below meth c s₁ Bd hml0 hP hK
  obtain ⟨rfl, hZ, hh⟩ := hP
  have hx := Bd.exec
  have hby := Bd.bytes
  have hml : c.maxLocals = 3 := hml0
  have hown : s.vm.findClass "java/util/Arrays" = some m.cls := findClass_of_methodNamed Bd.named
  have hnm := (name_of_methodNamed Bd.named Bd.method).1
  have hlk := BodyLoose.notSynchronized Bd
  have X0 : Stand p l e ({ frames := 1, cells := 1, slots := 6, locals := 18 } : Room) s m #[(.ref o0), (.int (6 : Int32))] below meth c s₁ [] 0 0 := Stand.of_body Bd
  have e0 : s₁.heap = h0 := by rw [← hh, Bd.state]; rfl
  have N0 := Fr.nil n0
  have pre0 : ∀ t, Steps p.tables e below (s₁.setTop (mkF m 0 #[.val (.ref o0), .val (.int (6 : Int32)), .unset] [])) t → Steps p.tables e below (s₁.setTop (entryFrame m #[(.ref o0), (.int (6 : Int32))] 3)) t := fun t k => castTop (ef_cp8_6 m o0) k
  obtain ⟨cl1, Ar1, qc1, S1, M1, Ha1, G1⟩ := id V_o0
  obtain ⟨T2, h2, k2, X2, e2, E2, A2, EA2, st2⟩ := newPE X0 hx hZ (hw _ (List.mem_of_getElem? (i := 1) rfl)) e0 (g := (mkF m 15 #[.val (.ref o0), .val (.int (6 : Int32)), .unset] [(.int (6 : Int32))])) rfl (hb hby d6_15) rfl (by decide) (cap := 6) (by decide) (by decide) (by decide) (by decide) (ad := "[I") rfl
  obtain ⟨b2, gz2⟩ : ∃ z, z = h0.size := ⟨_, rfl⟩
  rw [← gz2] at A2 EA2 st2
  have ne3 : o0 ≠ b2 := Nat.ne_of_lt (Nat.lt_of_lt_of_le E_o0.lt (Nat.le_of_eq gz2.symm))
  have g4 : n0 ≤ b2 := Nat.le_trans Z0 (Nat.le_of_eq gz2.symm)
  have sz5 : h0.size ≤ b2 := Nat.le_trans (Nat.le_refl h0.size) (Nat.le_of_eq gz2.symm)
  have z6 : n0 ≤ h2.size := Nat.le_trans Z0 E2.1
  have hs7 : h0.size ≤ h2.size := Nat.le_trans (Nat.le_refl h0.size) E2.1
  have V2 : Arv Z h2 b2 k2 .int (6 : Int32) [(.int (0 : Int32)), (.int (0 : Int32)), (.int (0 : Int32)), (.int (0 : Int32)), (.int (0 : Int32)), (.int (0 : Int32))] (.int (0 : Int32)) := (Arv.new A2 (by decide)).pad (pad_rep [] (.int (0 : Int32)) 6)
  have k8 := (V_o0.ext E2)
  obtain ⟨cl9, Ar9, qc9, S9, M9, Ha9, G9⟩ := id k8
  obtain ⟨vr10, _, ⟨T10, L10, k10, n10⟩, -, X10, ⟨Lc10, hQ10, l10, y10, z10⟩, st10⟩ := Jvm.LawKit.callS X2 hx (y := (⟨"java/lang/Math", "min", "(II)I"⟩ : MethodName)) hown (mvT hZ (hw _ (List.mem_of_getElem? (i := 34) rfl))) (mvT hZ (hw _ (List.mem_of_getElem? (i := 35) rfl))) (mvT hZ (hw _ (List.mem_of_getElem? (i := 36) rfl))) (mvT hZ (hw _ (List.mem_of_getElem? (i := 37) rfl))) (by decide) (backOf (W := 4) (rm7 l Z a0 hw [] (8 : Int32) (6 : Int32) h2 n0 z6) hZ (hw _ (List.mem_of_getElem? (i := 37) rfl)) (hw _ (List.mem_of_getElem? (i := 36) rfl)) (by decide) (by decide)) (g := (mkF m 25 #[.val (.ref o0), .val (.int (6 : Int32)), .val (.ref b2)] [(.int (6 : Int32)), (.int (8 : Int32)), (.int (0 : Int32)), (.ref b2), (.int (0 : Int32)), (.ref o0)])) rfl (by rw [hml]; rfl) (argsL := [(.int (8 : Int32)), (.int (6 : Int32))]) (rest := [(.int (0 : Int32)), (.ref b2), (.int (0 : Int32)), (.ref o0)]) (lenOf pd__II_I rfl) rfl (by show 2 * 0 + _ ≤ _; exact Nat.le_of_eq rfl) (hb hby d6_25) (fun _ _ => ⟨rfl, e2, (by decide : 1 + 0 ≤ _), (by decide : 6 + 0 ≤ _)⟩)
  dsimp only [Pt.U, Pt.locs, Pt.cells, Pt.slots] at X10 l10 y10 z10 st10 hQ10
  subst l10 y10 z10
  have N10q := (show _ ∧ _ ∧ _ from hQ10).1
  have hv10 := (show _ ∧ _ ∧ _ from hQ10).2.1
  have e10 := (show _ ∧ _ ∧ _ from hQ10).2.2
  clear hQ10
  subst hv10
  have N10 := Fr.app N0 N10q
  obtain ⟨T11, h11, L11, X11, e11, N11, K11, V11r, st11⟩ := cpA X10 hx hZ hown (hw _ (List.mem_of_getElem? (i := 38) rfl)) (hw _ (List.mem_of_getElem? (i := 41) rfl)) (hw _ (List.mem_of_getElem? (i := 39) rfl)) (hw _ (List.mem_of_getElem? (i := 40) rfl)) e10 k8 V2 (us := [(.int w10_e), (.int w11_e), (.int w12_e), (.int w13_e), (.int w14_e), (.int w15_e)]) (Or.inl ⟨rfl, rfl⟩) (by decide) (by decide) (by decide) (Nat.le_of_ble_eq_true rfl) (Nat.le_of_ble_eq_true rfl) rfl (Nat.le_of_ble_eq_true rfl) N10 g4 (g := (mkF m 28 #[.val (.ref o0), .val (.int (6 : Int32)), .val (.ref b2)] [(.int (6 : Int32)), (.int (0 : Int32)), (.ref b2), (.int (0 : Int32)), (.ref o0)])) rfl (by rw [hml]; rfl) rfl (hb hby d6_28) (by decide) (W := 0) (by show 2 * 0 + _ ≤ _; exact Nat.le_of_eq rfl) (by decide)
  have V11 : Arv Z h11 b2 k2 .int (6 : Int32) [(.int w10_e), (.int w11_e), (.int w12_e), (.int w13_e), (.int w14_e), (.int w15_e)] (.int (0 : Int32)) := V11r
  have z12 : n0 ≤ h11.size := Nat.le_trans z6 K11.1
  have hs13 : h0.size ≤ h11.size := Nat.le_trans hs7 K11.1
  obtain ⟨fs, hr, hrun, hended, hW, hsame⟩ := X11.leave (v := some (.ref b2)) (fun h => by rw [Bd.returns] at h; cases h) hlk
  refine ⟨_, _, pre0 _ ?_, hrun, hended, _, _, rfl, ?_, ⟨_, rfl⟩, hW, hsame.mono (by decide) (by decide)⟩
  · skip
    show Steps p.tables e below (s₁.setTop (mkF m 0 #[.val (.ref o0), .val (.int (6 : Int32)), .unset] [])) _
    refine XS.iloadN X0.here hx rfl (hb hby d6_0) rfl ?_
    show Steps p.tables e below (s₁.setTop (mkF m 1 #[.val (.ref o0), .val (.int (6 : Int32)), .unset] [(.int (6 : Int32))])) _
    refine XS.aloadN X0.here hx rfl (hb hby d6_1) rfl rfl ?_
    show Steps p.tables e below (s₁.setTop (mkF m 2 #[.val (.ref o0), .val (.int (6 : Int32)), .unset] [(.ref o0), (.int (6 : Int32))])) _
    refine X0.arraylength hx (by rw [e0]; exact Ar1.1) (State.isArrayOf_alike hZ.alike Ar1.2.1) (g := (mkF m 2 #[.val (.ref o0), .val (.int (6 : Int32)), .unset] [(.ref o0), (.int (6 : Int32))])) rfl rfl (hb hby d6_2) _ ?_
    rw [len_of S1 M1]
    show Steps p.tables e below (s₁.setTop (mkF m 3 #[.val (.ref o0), .val (.int (6 : Int32)), .unset] [(.int (8 : Int32)), (.int (6 : Int32))])) _
    refine XS.icmpYes X0.here hx rfl (pc0 := 3) (pc' := 14) rfl (hb hby d6_3) rfl (XT.ii_ne_t (by decide)) (by decide) (by decide) ?_
    show Steps p.tables e below (s₁.setTop (mkF m 14 #[.val (.ref o0), .val (.int (6 : Int32)), .unset] [])) _
    refine XS.iloadN X0.here hx rfl (hb hby d6_14) rfl ?_
    show Steps p.tables e below (s₁.setTop (mkF m 15 #[.val (.ref o0), .val (.int (6 : Int32)), .unset] [(.int (6 : Int32))])) _
    refine st2 _ ?_
    show Steps p.tables e below (T2.setTop (mkF m 17 #[.val (.ref o0), .val (.int (6 : Int32)), .unset] [(.ref b2)])) _
    refine XS.astoreN X2.here hx rfl (hb hby d6_17) rfl rfl (l' := #[.val (.ref o0), .val (.int (6 : Int32)), .val (.ref b2)]) rfl ?_
    show Steps p.tables e below (T2.setTop (mkF m 18 #[.val (.ref o0), .val (.int (6 : Int32)), .val (.ref b2)] [])) _
    refine XS.aloadN X2.here hx rfl (hb hby d6_18) rfl rfl ?_
    show Steps p.tables e below (T2.setTop (mkF m 19 #[.val (.ref o0), .val (.int (6 : Int32)), .val (.ref b2)] [(.ref o0)])) _
    refine XT.iconstV X2.here hx rfl (0 : Int32) (hb hby d6_19) (by decide) ?_
    show Steps p.tables e below (T2.setTop (mkF m 20 #[.val (.ref o0), .val (.int (6 : Int32)), .val (.ref b2)] [(.int (0 : Int32)), (.ref o0)])) _
    refine XS.aloadN X2.here hx rfl (hb hby d6_20) rfl rfl ?_
    show Steps p.tables e below (T2.setTop (mkF m 21 #[.val (.ref o0), .val (.int (6 : Int32)), .val (.ref b2)] [(.ref b2), (.int (0 : Int32)), (.ref o0)])) _
    refine XT.iconstV X2.here hx rfl (0 : Int32) (hb hby d6_21) (by decide) ?_
    show Steps p.tables e below (T2.setTop (mkF m 22 #[.val (.ref o0), .val (.int (6 : Int32)), .val (.ref b2)] [(.int (0 : Int32)), (.ref b2), (.int (0 : Int32)), (.ref o0)])) _
    refine XS.aloadN X2.here hx rfl (hb hby d6_22) rfl rfl ?_
    show Steps p.tables e below (T2.setTop (mkF m 23 #[.val (.ref o0), .val (.int (6 : Int32)), .val (.ref b2)] [(.ref o0), (.int (0 : Int32)), (.ref b2), (.int (0 : Int32)), (.ref o0)])) _
    refine X2.arraylength hx (by rw [e2]; exact Ar9.1) (State.isArrayOf_alike hZ.alike Ar9.2.1) (g := (mkF m 23 #[.val (.ref o0), .val (.int (6 : Int32)), .val (.ref b2)] [(.ref o0), (.int (0 : Int32)), (.ref b2), (.int (0 : Int32)), (.ref o0)])) rfl rfl (hb hby d6_23) _ ?_
    rw [len_of S9 M9]
    show Steps p.tables e below (T2.setTop (mkF m 24 #[.val (.ref o0), .val (.int (6 : Int32)), .val (.ref b2)] [(.int (8 : Int32)), (.int (0 : Int32)), (.ref b2), (.int (0 : Int32)), (.ref o0)])) _
    refine XS.iloadN X2.here hx rfl (hb hby d6_24) rfl ?_
    show Steps p.tables e below (T2.setTop (mkF m 25 #[.val (.ref o0), .val (.int (6 : Int32)), .val (.ref b2)] [(.int (6 : Int32)), (.int (8 : Int32)), (.int (0 : Int32)), (.ref b2), (.int (0 : Int32)), (.ref o0)])) _
    refine st10 _ ?_
    show Steps p.tables e below (T10.setTop (mkF m 28 #[.val (.ref o0), .val (.int (6 : Int32)), .val (.ref b2)] [(.int (6 : Int32)), (.int (0 : Int32)), (.ref b2), (.int (0 : Int32)), (.ref o0)])) _
    refine st11 _ ?_
    show Steps p.tables e below (T11.setTop (mkF m 31 #[.val (.ref o0), .val (.int (6 : Int32)), .val (.ref b2)] [])) _
    refine XS.aloadN X11.here hx rfl (hb hby d6_31) rfl rfl ?_
    show Steps p.tables e below (T11.setTop (mkF m 32 #[.val (.ref o0), .val (.int (6 : Int32)), .val (.ref b2)] [(.ref b2)])) _
    exact X11.areturnOut hx rfl Bd.returns rfl (hb hby d6_32) hr
  · skip
    show Qcp8_6 Z o0 w10_e w11_e w12_e w13_e w14_e w15_e w16_e w17_e kA h0 n0 _ T11.heap _
    rw [e11]
    have k14 := (EA2.keep K11)
    exact ⟨N11, b2, k2, rfl, sz5, (((Keep.refl h0 []).ext E2).trans K11 (allS (Or.inr sz5) all0)), k14, V11⟩
theorem ef_cp8_7 (m : MethodId) (o0 : Addr) : entryFrame m #[(.ref o0), (.int (7 : Int32))] 3 = mkF m 0 #[.val (.ref o0), .val (.int (7 : Int32)), .unset] [] := by first | (simp [entryFrame, mkF, argsToLocals, Value.category]; done) | rfl
def Qcp8_7 (Z : State) (o0 : Addr) (w10_e : Int32) (w11_e : Int32) (w12_e : Int32) (w13_e : Int32) (w14_e : Int32) (w15_e : Int32) (w16_e : Int32) (w17_e : Int32) (kA : ClassId) (h0 : Heap) (n0 : Nat) (v : Option Value) (h : Heap) (L : List Loc) : Prop := Fr n0 L ∧ ∃ (xcp8_7_0 : Addr) (kcp8_7_1 : ClassId), v = some (.ref xcp8_7_0) ∧ h0.size ≤ xcp8_7_0 ∧ Keep h0 h [] ∧ Exa Z h xcp8_7_0 "[I" ∧ Arv Z h xcp8_7_0 kcp8_7_1 .int (7 : Int32) [(.int w10_e), (.int w11_e), (.int w12_e), (.int w13_e), (.int w14_e), (.int w15_e), (.int w16_e)] (.int (0 : Int32))
set_option maxRecDepth 65536 in
set_option maxHeartbeats 40000000 in
theorem rmcp8_7 (l : Launch) (Z : State) (a0 : Array Value) (hw : ∀ d ∈ tables_1, d.before a0 Z = true) (ws : List Jvm.Cond) (o0 : Addr) (w10_e : Int32) (w11_e : Int32) (w12_e : Int32) (w13_e : Int32) (w14_e : Int32) (w15_e : Int32) (w16_e : Int32) (w17_e : Int32) (kA : ClassId) (h0 : Heap) (n0 : Nat) (Z0 : n0 ≤ h0.size) (E_o0 : Exa Z h0 o0 "[I") (V_o0 : Arv Z h0 o0 kA .int (8 : Int32) [(.int w10_e), (.int w11_e), (.int w12_e), (.int w13_e), (.int w14_e), (.int w15_e), (.int w16_e), (.int w17_e)] (.int (0 : Int32))) :
    MetFree l (⟨"java/util/Arrays", "copyOf", "([II)[I"⟩ : MethodName) (head1 (Jvm.Cond.code (⟨"java/util/Arrays", "copyOf", "([II)[I"⟩ : MethodName) jdk_65_method_123_code 3 (some (.array .int)) :: ws) ({ frames := 1, cells := 1, slots := 7, locals := 18 } : Room)) (fun a U => a = #[(.ref o0), (.int (7 : Int32))] ∧ Z.Warmed39 U.vm ∧ U.heap = h0) (fun _ _ _ _ _ => True) (fun _ U o U' => ∃ v L, o = .returned v ∧ Qcp8_7 Z o0 w10_e w11_e w12_e w13_e w14_e w15_e w16_e w17_e kA h0 n0 v U'.heap L ∧ FrameEnd U o U' L ({ frames := 1, cells := 1, slots := 7, locals := 18 } : Room).cells ({ frames := 1, cells := 1, slots := 7, locals := 18 } : Room).slots) := by
  refine MetFree.of_bodySF (plainFor_of_name pn_java_util_Arrays) hisR ?_
  intro p e s m args below meth c s₁ Bd hml0 hP hK
  obtain ⟨rfl, hZ, hh⟩ := hP
  have hx := Bd.exec
  have hby := Bd.bytes
  have hml : c.maxLocals = 3 := hml0
  have hown : s.vm.findClass "java/util/Arrays" = some m.cls := findClass_of_methodNamed Bd.named
  have hnm := (name_of_methodNamed Bd.named Bd.method).1
  have hlk := BodyLoose.notSynchronized Bd
  have X0 : Stand p l e ({ frames := 1, cells := 1, slots := 7, locals := 18 } : Room) s m #[(.ref o0), (.int (7 : Int32))] below meth c s₁ [] 0 0 := Stand.of_body Bd
  have e0 : s₁.heap = h0 := by rw [← hh, Bd.state]; rfl
  have N0 := Fr.nil n0
  have pre0 : ∀ t, Steps p.tables e below (s₁.setTop (mkF m 0 #[.val (.ref o0), .val (.int (7 : Int32)), .unset] [])) t → Steps p.tables e below (s₁.setTop (entryFrame m #[(.ref o0), (.int (7 : Int32))] 3)) t := fun t k => castTop (ef_cp8_7 m o0) k
  obtain ⟨cl1, Ar1, qc1, S1, M1, Ha1, G1⟩ := id V_o0
  obtain ⟨T2, h2, k2, X2, e2, E2, A2, EA2, st2⟩ := newPE X0 hx hZ (hw _ (List.mem_of_getElem? (i := 1) rfl)) e0 (g := (mkF m 15 #[.val (.ref o0), .val (.int (7 : Int32)), .unset] [(.int (7 : Int32))])) rfl (hb hby d6_15) rfl (by decide) (cap := 7) (by decide) (by decide) (by decide) (by decide) (ad := "[I") rfl
  obtain ⟨b2, gz2⟩ : ∃ z, z = h0.size := ⟨_, rfl⟩
  rw [← gz2] at A2 EA2 st2
  have ne3 : o0 ≠ b2 := Nat.ne_of_lt (Nat.lt_of_lt_of_le E_o0.lt (Nat.le_of_eq gz2.symm))
  have g4 : n0 ≤ b2 := Nat.le_trans Z0 (Nat.le_of_eq gz2.symm)
  have sz5 : h0.size ≤ b2 := Nat.le_trans (Nat.le_refl h0.size) (Nat.le_of_eq gz2.symm)
  have z6 : n0 ≤ h2.size := Nat.le_trans Z0 E2.1
  have hs7 : h0.size ≤ h2.size := Nat.le_trans (Nat.le_refl h0.size) E2.1
  have V2 : Arv Z h2 b2 k2 .int (7 : Int32) [(.int (0 : Int32)), (.int (0 : Int32)), (.int (0 : Int32)), (.int (0 : Int32)), (.int (0 : Int32)), (.int (0 : Int32)), (.int (0 : Int32))] (.int (0 : Int32)) := (Arv.new A2 (by decide)).pad (pad_rep [] (.int (0 : Int32)) 7)
  have k8 := (V_o0.ext E2)
  obtain ⟨cl9, Ar9, qc9, S9, M9, Ha9, G9⟩ := id k8
  obtain ⟨vr10, _, ⟨T10, L10, k10, n10⟩, -, X10, ⟨Lc10, hQ10, l10, y10, z10⟩, st10⟩ := Jvm.LawKit.callS X2 hx (y := (⟨"java/lang/Math", "min", "(II)I"⟩ : MethodName)) hown (mvT hZ (hw _ (List.mem_of_getElem? (i := 34) rfl))) (mvT hZ (hw _ (List.mem_of_getElem? (i := 35) rfl))) (mvT hZ (hw _ (List.mem_of_getElem? (i := 36) rfl))) (mvT hZ (hw _ (List.mem_of_getElem? (i := 37) rfl))) (by decide) (backOf (W := 4) (rm7 l Z a0 hw [] (8 : Int32) (7 : Int32) h2 n0 z6) hZ (hw _ (List.mem_of_getElem? (i := 37) rfl)) (hw _ (List.mem_of_getElem? (i := 36) rfl)) (by decide) (by decide)) (g := (mkF m 25 #[.val (.ref o0), .val (.int (7 : Int32)), .val (.ref b2)] [(.int (7 : Int32)), (.int (8 : Int32)), (.int (0 : Int32)), (.ref b2), (.int (0 : Int32)), (.ref o0)])) rfl (by rw [hml]; rfl) (argsL := [(.int (8 : Int32)), (.int (7 : Int32))]) (rest := [(.int (0 : Int32)), (.ref b2), (.int (0 : Int32)), (.ref o0)]) (lenOf pd__II_I rfl) rfl (by show 2 * 0 + _ ≤ _; exact Nat.le_of_eq rfl) (hb hby d6_25) (fun _ _ => ⟨rfl, e2, (by decide : 1 + 0 ≤ _), (by decide : 7 + 0 ≤ _)⟩)
  dsimp only [Pt.U, Pt.locs, Pt.cells, Pt.slots] at X10 l10 y10 z10 st10 hQ10
  subst l10 y10 z10
  have N10q := (show _ ∧ _ ∧ _ from hQ10).1
  have hv10 := (show _ ∧ _ ∧ _ from hQ10).2.1
  have e10 := (show _ ∧ _ ∧ _ from hQ10).2.2
  clear hQ10
  subst hv10
  have N10 := Fr.app N0 N10q
  obtain ⟨T11, h11, L11, X11, e11, N11, K11, V11r, st11⟩ := cpA X10 hx hZ hown (hw _ (List.mem_of_getElem? (i := 38) rfl)) (hw _ (List.mem_of_getElem? (i := 41) rfl)) (hw _ (List.mem_of_getElem? (i := 39) rfl)) (hw _ (List.mem_of_getElem? (i := 40) rfl)) e10 k8 V2 (us := [(.int w10_e), (.int w11_e), (.int w12_e), (.int w13_e), (.int w14_e), (.int w15_e), (.int w16_e)]) (Or.inl ⟨rfl, rfl⟩) (by decide) (by decide) (by decide) (Nat.le_of_ble_eq_true rfl) (Nat.le_of_ble_eq_true rfl) rfl (Nat.le_of_ble_eq_true rfl) N10 g4 (g := (mkF m 28 #[.val (.ref o0), .val (.int (7 : Int32)), .val (.ref b2)] [(.int (7 : Int32)), (.int (0 : Int32)), (.ref b2), (.int (0 : Int32)), (.ref o0)])) rfl (by rw [hml]; rfl) rfl (hb hby d6_28) (by decide) (W := 0) (by show 2 * 0 + _ ≤ _; exact Nat.le_of_eq rfl) (by decide)
  have V11 : Arv Z h11 b2 k2 .int (7 : Int32) [(.int w10_e), (.int w11_e), (.int w12_e), (.int w13_e), (.int w14_e), (.int w15_e), (.int w16_e)] (.int (0 : Int32)) := V11r
  have z12 : n0 ≤ h11.size := Nat.le_trans z6 K11.1
  have hs13 : h0.size ≤ h11.size := Nat.le_trans hs7 K11.1
  obtain ⟨fs, hr, hrun, hended, hW, hsame⟩ := X11.leave (v := some (.ref b2)) (fun h => by rw [Bd.returns] at h; cases h) hlk
  refine ⟨_, _, pre0 _ ?_, hrun, hended, _, _, rfl, ?_, ⟨_, rfl⟩, hW, hsame.mono (by decide) (by decide)⟩
  · skip
    show Steps p.tables e below (s₁.setTop (mkF m 0 #[.val (.ref o0), .val (.int (7 : Int32)), .unset] [])) _
    refine XS.iloadN X0.here hx rfl (hb hby d6_0) rfl ?_
    show Steps p.tables e below (s₁.setTop (mkF m 1 #[.val (.ref o0), .val (.int (7 : Int32)), .unset] [(.int (7 : Int32))])) _
    refine XS.aloadN X0.here hx rfl (hb hby d6_1) rfl rfl ?_
    show Steps p.tables e below (s₁.setTop (mkF m 2 #[.val (.ref o0), .val (.int (7 : Int32)), .unset] [(.ref o0), (.int (7 : Int32))])) _
    refine X0.arraylength hx (by rw [e0]; exact Ar1.1) (State.isArrayOf_alike hZ.alike Ar1.2.1) (g := (mkF m 2 #[.val (.ref o0), .val (.int (7 : Int32)), .unset] [(.ref o0), (.int (7 : Int32))])) rfl rfl (hb hby d6_2) _ ?_
    rw [len_of S1 M1]
    show Steps p.tables e below (s₁.setTop (mkF m 3 #[.val (.ref o0), .val (.int (7 : Int32)), .unset] [(.int (8 : Int32)), (.int (7 : Int32))])) _
    refine XS.icmpYes X0.here hx rfl (pc0 := 3) (pc' := 14) rfl (hb hby d6_3) rfl (XT.ii_ne_t (by decide)) (by decide) (by decide) ?_
    show Steps p.tables e below (s₁.setTop (mkF m 14 #[.val (.ref o0), .val (.int (7 : Int32)), .unset] [])) _
    refine XS.iloadN X0.here hx rfl (hb hby d6_14) rfl ?_
    show Steps p.tables e below (s₁.setTop (mkF m 15 #[.val (.ref o0), .val (.int (7 : Int32)), .unset] [(.int (7 : Int32))])) _
    refine st2 _ ?_
    show Steps p.tables e below (T2.setTop (mkF m 17 #[.val (.ref o0), .val (.int (7 : Int32)), .unset] [(.ref b2)])) _
    refine XS.astoreN X2.here hx rfl (hb hby d6_17) rfl rfl (l' := #[.val (.ref o0), .val (.int (7 : Int32)), .val (.ref b2)]) rfl ?_
    show Steps p.tables e below (T2.setTop (mkF m 18 #[.val (.ref o0), .val (.int (7 : Int32)), .val (.ref b2)] [])) _
    refine XS.aloadN X2.here hx rfl (hb hby d6_18) rfl rfl ?_
    show Steps p.tables e below (T2.setTop (mkF m 19 #[.val (.ref o0), .val (.int (7 : Int32)), .val (.ref b2)] [(.ref o0)])) _
    refine XT.iconstV X2.here hx rfl (0 : Int32) (hb hby d6_19) (by decide) ?_
    show Steps p.tables e below (T2.setTop (mkF m 20 #[.val (.ref o0), .val (.int (7 : Int32)), .val (.ref b2)] [(.int (0 : Int32)), (.ref o0)])) _
    refine XS.aloadN X2.here hx rfl (hb hby d6_20) rfl rfl ?_
    show Steps p.tables e below (T2.setTop (mkF m 21 #[.val (.ref o0), .val (.int (7 : Int32)), .val (.ref b2)] [(.ref b2), (.int (0 : Int32)), (.ref o0)])) _
    refine XT.iconstV X2.here hx rfl (0 : Int32) (hb hby d6_21) (by decide) ?_
    show Steps p.tables e below (T2.setTop (mkF m 22 #[.val (.ref o0), .val (.int (7 : Int32)), .val (.ref b2)] [(.int (0 : Int32)), (.ref b2), (.int (0 : Int32)), (.ref o0)])) _
    refine XS.aloadN X2.here hx rfl (hb hby d6_22) rfl rfl ?_
    show Steps p.tables e below (T2.setTop (mkF m 23 #[.val (.ref o0), .val (.int (7 : Int32)), .val (.ref b2)] [(.ref o0), (.int (0 : Int32)), (.ref b2), (.int (0 : Int32)), (.ref o0)])) _
    refine X2.arraylength hx (by rw [e2]; exact Ar9.1) (State.isArrayOf_alike hZ.alike Ar9.2.1) (g := (mkF m 23 #[.val (.ref o0), .val (.int (7 : Int32)), .val (.ref b2)] [(.ref o0), (.int (0 : Int32)), (.ref b2), (.int (0 : Int32)), (.ref o0)])) rfl rfl (hb hby d6_23) _ ?_
    rw [len_of S9 M9]
    show Steps p.tables e below (T2.setTop (mkF m 24 #[.val (.ref o0), .val (.int (7 : Int32)), .val (.ref b2)] [(.int (8 : Int32)), (.int (0 : Int32)), (.ref b2), (.int (0 : Int32)), (.ref o0)])) _
    refine XS.iloadN X2.here hx rfl (hb hby d6_24) rfl ?_
    show Steps p.tables e below (T2.setTop (mkF m 25 #[.val (.ref o0), .val (.int (7 : Int32)), .val (.ref b2)] [(.int (7 : Int32)), (.int (8 : Int32)), (.int (0 : Int32)), (.ref b2), (.int (0 : Int32)), (.ref o0)])) _
    refine st10 _ ?_
    show Steps p.tables e below (T10.setTop (mkF m 28 #[.val (.ref o0), .val (.int (7 : Int32)), .val (.ref b2)] [(.int (7 : Int32)), (.int (0 : Int32)), (.ref b2), (.int (0 : Int32)), (.ref o0)])) _
    refine st11 _ ?_
    show Steps p.tables e below (T11.setTop (mkF m 31 #[.val (.ref o0), .val (.int (7 : Int32)), .val (.ref b2)] [])) _
    refine XS.aloadN X11.here hx rfl (hb hby d6_31) rfl rfl ?_
    show Steps p.tables e below (T11.setTop (mkF m 32 #[.val (.ref o0), .val (.int (7 : Int32)), .val (.ref b2)] [(.ref b2)])) _
    exact X11.areturnOut hx rfl Bd.returns rfl (hb hby d6_32) hr
  · skip
    show Qcp8_7 Z o0 w10_e w11_e w12_e w13_e w14_e w15_e w16_e w17_e kA h0 n0 _ T11.heap _
    rw [e11]
    have k14 := (EA2.keep K11)
    exact ⟨N11, b2, k2, rfl, sz5, (((Keep.refl h0 []).ext E2).trans K11 (allS (Or.inr sz5) all0)), k14, V11⟩
theorem ef_cp8_8 (m : MethodId) (o0 : Addr) : entryFrame m #[(.ref o0), (.int (8 : Int32))] 3 = mkF m 0 #[.val (.ref o0), .val (.int (8 : Int32)), .unset] [] := by first | (simp [entryFrame, mkF, argsToLocals, Value.category]; done) | rfl
def Qcp8_8 (Z : State) (o0 : Addr) (w10_e : Int32) (w11_e : Int32) (w12_e : Int32) (w13_e : Int32) (w14_e : Int32) (w15_e : Int32) (w16_e : Int32) (w17_e : Int32) (kA : ClassId) (h0 : Heap) (n0 : Nat) (v : Option Value) (h : Heap) (L : List Loc) : Prop := Fr n0 L ∧ ∃ (xcp8_8_0 : Addr), v = some (.ref xcp8_8_0) ∧ h0.size ≤ xcp8_8_0 ∧ Keep h0 h [] ∧ Exa Z h xcp8_8_0 "[I" ∧ Arv Z h xcp8_8_0 kA .int (8 : Int32) [(.int w10_e), (.int w11_e), (.int w12_e), (.int w13_e), (.int w14_e), (.int w15_e), (.int w16_e), (.int w17_e)] (.int (0 : Int32))
set_option maxRecDepth 65536 in
set_option maxHeartbeats 40000000 in
theorem rmcp8_8 (l : Launch) (Z : State) (a0 : Array Value) (hw : ∀ d ∈ tables_1, d.before a0 Z = true) (ws : List Jvm.Cond) (o0 : Addr) (w10_e : Int32) (w11_e : Int32) (w12_e : Int32) (w13_e : Int32) (w14_e : Int32) (w15_e : Int32) (w16_e : Int32) (w17_e : Int32) (kA : ClassId) (h0 : Heap) (n0 : Nat) (Z0 : n0 ≤ h0.size) (E_o0 : Exa Z h0 o0 "[I") (V_o0 : Arv Z h0 o0 kA .int (8 : Int32) [(.int w10_e), (.int w11_e), (.int w12_e), (.int w13_e), (.int w14_e), (.int w15_e), (.int w16_e), (.int w17_e)] (.int (0 : Int32))) :
    MetFree l (⟨"java/util/Arrays", "copyOf", "([II)[I"⟩ : MethodName) (head1 (Jvm.Cond.code (⟨"java/util/Arrays", "copyOf", "([II)[I"⟩ : MethodName) jdk_65_method_123_code 3 (some (.array .int)) :: ws) ({ frames := 1, cells := 1, slots := 8, locals := 14 } : Room)) (fun a U => a = #[(.ref o0), (.int (8 : Int32))] ∧ Z.Warmed39 U.vm ∧ U.heap = h0) (fun _ _ _ _ _ => True) (fun _ U o U' => ∃ v L, o = .returned v ∧ Qcp8_8 Z o0 w10_e w11_e w12_e w13_e w14_e w15_e w16_e w17_e kA h0 n0 v U'.heap L ∧ FrameEnd U o U' L ({ frames := 1, cells := 1, slots := 8, locals := 14 } : Room).cells ({ frames := 1, cells := 1, slots := 8, locals := 14 } : Room).slots) := by
  refine MetFree.of_bodySF (plainFor_of_name pn_java_util_Arrays) hisR ?_
  intro p e s m args below meth c s₁ Bd hml0 hP hK
  obtain ⟨rfl, hZ, hh⟩ := hP
  have hx := Bd.exec
  have hby := Bd.bytes
  have hml : c.maxLocals = 3 := hml0
  have hown : s.vm.findClass "java/util/Arrays" = some m.cls := findClass_of_methodNamed Bd.named
  have hnm := (name_of_methodNamed Bd.named Bd.method).1
  have hlk := BodyLoose.notSynchronized Bd
  have X0 : Stand p l e ({ frames := 1, cells := 1, slots := 8, locals := 14 } : Room) s m #[(.ref o0), (.int (8 : Int32))] below meth c s₁ [] 0 0 := Stand.of_body Bd
  have e0 : s₁.heap = h0 := by rw [← hh, Bd.state]; rfl
  have N0 := Fr.nil n0
  have pre0 : ∀ t, Steps p.tables e below (s₁.setTop (mkF m 0 #[.val (.ref o0), .val (.int (8 : Int32)), .unset] [])) t → Steps p.tables e below (s₁.setTop (entryFrame m #[(.ref o0), (.int (8 : Int32))] 3)) t := fun t k => castTop (ef_cp8_8 m o0) k
  obtain ⟨cl1, Ar1, qc1, S1, M1, Ha1, G1⟩ := id V_o0
  obtain ⟨T2, h2, X2, e2, E2, V2r, EA2, st2⟩ := cloneH X0 hx hZ hown (hw _ (List.mem_of_getElem? (i := 42) rfl)) (hw _ (List.mem_of_getElem? (i := 43) rfl)) (hw _ (List.mem_of_getElem? (i := 47) rfl)) (hw _ (List.mem_of_getElem? (i := 45) rfl)) (hw _ (List.mem_of_getElem? (i := 46) rfl)) (hw _ (List.mem_of_getElem? (i := 48) rfl)) e0 (Arv.arh V_o0) E_o0 (g := (mkF m 7 #[.val (.ref o0), .val (.int (8 : Int32)), .unset] [(.ref o0)])) rfl (by rw [hml]; rfl) rfl (hb hby d6_7) (by decide) (W := 0) (cap := 8) (by show 2 * 0 + _ ≤ _; exact Nat.le_of_eq rfl) (by decide) (by decide) (by decide) (by decide)
  obtain ⟨b2, gz2⟩ : ∃ z, z = h0.size := ⟨_, rfl⟩
  rw [← gz2] at V2r EA2 st2
  have ne3 : o0 ≠ b2 := Nat.ne_of_lt (Nat.lt_of_lt_of_le E_o0.lt (Nat.le_of_eq gz2.symm))
  have g4 : n0 ≤ b2 := Nat.le_trans Z0 (Nat.le_of_eq gz2.symm)
  have sz5 : h0.size ≤ b2 := Nat.le_trans (Nat.le_refl h0.size) (Nat.le_of_eq gz2.symm)
  have z6 : n0 ≤ h2.size := Nat.le_trans Z0 E2.1
  have hs7 : h0.size ≤ h2.size := Nat.le_trans (Nat.le_refl h0.size) E2.1
  have V2 : Arv Z h2 b2 kA .int (8 : Int32) [(.int w10_e), (.int w11_e), (.int w12_e), (.int w13_e), (.int w14_e), (.int w15_e), (.int w16_e), (.int w17_e)] (.int (0 : Int32)) := V2r
  obtain ⟨T8, X8, e8, st8⟩ := castY X2 hx hZ hown (hw _ (List.mem_of_getElem? (i := 49) rfl)) e2 (Ins.self EA2) (g := (mkF m 10 #[.val (.ref o0), .val (.int (8 : Int32)), .unset] [(.ref b2)])) rfl rfl (hb hby d6_10)
  obtain ⟨fs, hr, hrun, hended, hW, hsame⟩ := X8.leave (v := some (.ref b2)) (fun h => by rw [Bd.returns] at h; cases h) hlk
  refine ⟨_, _, pre0 _ ?_, hrun, hended, _, _, rfl, ?_, ⟨_, rfl⟩, hW, hsame.mono (by decide) (by decide)⟩
  · skip
    show Steps p.tables e below (s₁.setTop (mkF m 0 #[.val (.ref o0), .val (.int (8 : Int32)), .unset] [])) _
    refine XS.iloadN X0.here hx rfl (hb hby d6_0) rfl ?_
    show Steps p.tables e below (s₁.setTop (mkF m 1 #[.val (.ref o0), .val (.int (8 : Int32)), .unset] [(.int (8 : Int32))])) _
    refine XS.aloadN X0.here hx rfl (hb hby d6_1) rfl rfl ?_
    show Steps p.tables e below (s₁.setTop (mkF m 2 #[.val (.ref o0), .val (.int (8 : Int32)), .unset] [(.ref o0), (.int (8 : Int32))])) _
    refine X0.arraylength hx (by rw [e0]; exact Ar1.1) (State.isArrayOf_alike hZ.alike Ar1.2.1) (g := (mkF m 2 #[.val (.ref o0), .val (.int (8 : Int32)), .unset] [(.ref o0), (.int (8 : Int32))])) rfl rfl (hb hby d6_2) _ ?_
    rw [len_of S1 M1]
    show Steps p.tables e below (s₁.setTop (mkF m 3 #[.val (.ref o0), .val (.int (8 : Int32)), .unset] [(.int (8 : Int32)), (.int (8 : Int32))])) _
    refine XS.icmpNo X0.here hx rfl (hb hby d6_3) rfl (XT.ii_ne_f (by decide)) ?_
    show Steps p.tables e below (s₁.setTop (mkF m 6 #[.val (.ref o0), .val (.int (8 : Int32)), .unset] [])) _
    refine XS.aloadN X0.here hx rfl (hb hby d6_6) rfl rfl ?_
    show Steps p.tables e below (s₁.setTop (mkF m 7 #[.val (.ref o0), .val (.int (8 : Int32)), .unset] [(.ref o0)])) _
    refine st2 _ ?_
    show Steps p.tables e below (T2.setTop (mkF m 10 #[.val (.ref o0), .val (.int (8 : Int32)), .unset] [(.ref b2)])) _
    refine st8 _ ?_
    show Steps p.tables e below (T8.setTop (mkF m 13 #[.val (.ref o0), .val (.int (8 : Int32)), .unset] [(.ref b2)])) _
    exact X8.areturnOut hx rfl Bd.returns rfl (hb hby d6_13) hr
  · skip
    show Qcp8_8 Z o0 w10_e w11_e w12_e w13_e w14_e w15_e w16_e w17_e kA h0 n0 _ T8.heap _
    rw [e8]
    exact ⟨N0, b2, rfl, sz5, ((Keep.refl h0 []).ext E2), EA2, V2⟩
theorem ef_cp16_9 (m : MethodId) (o0 : Addr) : entryFrame m #[(.ref o0), (.int (9 : Int32))] 3 = mkF m 0 #[.val (.ref o0), .val (.int (9 : Int32)), .unset] [] := by first | (simp [entryFrame, mkF, argsToLocals, Value.category]; done) | rfl
def Qcp16_9 (Z : State) (o0 : Addr) (w10_e : Int32) (w11_e : Int32) (w12_e : Int32) (w13_e : Int32) (w14_e : Int32) (w15_e : Int32) (w16_e : Int32) (w17_e : Int32) (w18_e : Int32) (w19_e : Int32) (w20_e : Int32) (w21_e : Int32) (w22_e : Int32) (w23_e : Int32) (w24_e : Int32) (w25_e : Int32) (kA : ClassId) (h0 : Heap) (n0 : Nat) (v : Option Value) (h : Heap) (L : List Loc) : Prop := Fr n0 L ∧ ∃ (xcp16_9_0 : Addr) (kcp16_9_1 : ClassId), v = some (.ref xcp16_9_0) ∧ h0.size ≤ xcp16_9_0 ∧ Keep h0 h [] ∧ Exa Z h xcp16_9_0 "[I" ∧ Arv Z h xcp16_9_0 kcp16_9_1 .int (9 : Int32) [(.int w10_e), (.int w11_e), (.int w12_e), (.int w13_e), (.int w14_e), (.int w15_e), (.int w16_e), (.int w17_e), (.int w18_e)] (.int (0 : Int32))
set_option maxRecDepth 65536 in
set_option maxHeartbeats 40000000 in
theorem rmcp16_9 (l : Launch) (Z : State) (a0 : Array Value) (hw : ∀ d ∈ tables_1, d.before a0 Z = true) (ws : List Jvm.Cond) (o0 : Addr) (w10_e : Int32) (w11_e : Int32) (w12_e : Int32) (w13_e : Int32) (w14_e : Int32) (w15_e : Int32) (w16_e : Int32) (w17_e : Int32) (w18_e : Int32) (w19_e : Int32) (w20_e : Int32) (w21_e : Int32) (w22_e : Int32) (w23_e : Int32) (w24_e : Int32) (w25_e : Int32) (kA : ClassId) (h0 : Heap) (n0 : Nat) (Z0 : n0 ≤ h0.size) (E_o0 : Exa Z h0 o0 "[I") (V_o0 : Arv Z h0 o0 kA .int (16 : Int32) [(.int w10_e), (.int w11_e), (.int w12_e), (.int w13_e), (.int w14_e), (.int w15_e), (.int w16_e), (.int w17_e), (.int w18_e), (.int w19_e), (.int w20_e), (.int w21_e), (.int w22_e), (.int w23_e), (.int w24_e), (.int w25_e)] (.int (0 : Int32))) :
    MetFree l (⟨"java/util/Arrays", "copyOf", "([II)[I"⟩ : MethodName) (head1 (Jvm.Cond.code (⟨"java/util/Arrays", "copyOf", "([II)[I"⟩ : MethodName) jdk_65_method_123_code 3 (some (.array .int)) :: ws) ({ frames := 1, cells := 1, slots := 9, locals := 18 } : Room)) (fun a U => a = #[(.ref o0), (.int (9 : Int32))] ∧ Z.Warmed39 U.vm ∧ U.heap = h0) (fun _ _ _ _ _ => True) (fun _ U o U' => ∃ v L, o = .returned v ∧ Qcp16_9 Z o0 w10_e w11_e w12_e w13_e w14_e w15_e w16_e w17_e w18_e w19_e w20_e w21_e w22_e w23_e w24_e w25_e kA h0 n0 v U'.heap L ∧ FrameEnd U o U' L ({ frames := 1, cells := 1, slots := 9, locals := 18 } : Room).cells ({ frames := 1, cells := 1, slots := 9, locals := 18 } : Room).slots) := by
  refine MetFree.of_bodySF (plainFor_of_name pn_java_util_Arrays) hisR ?_
  intro p e s m args below meth c s₁ Bd hml0 hP hK
  obtain ⟨rfl, hZ, hh⟩ := hP
  have hx := Bd.exec
  have hby := Bd.bytes
  have hml : c.maxLocals = 3 := hml0
  have hown : s.vm.findClass "java/util/Arrays" = some m.cls := findClass_of_methodNamed Bd.named
  have hnm := (name_of_methodNamed Bd.named Bd.method).1
  have hlk := BodyLoose.notSynchronized Bd
  have X0 : Stand p l e ({ frames := 1, cells := 1, slots := 9, locals := 18 } : Room) s m #[(.ref o0), (.int (9 : Int32))] below meth c s₁ [] 0 0 := Stand.of_body Bd
  have e0 : s₁.heap = h0 := by rw [← hh, Bd.state]; rfl
  have N0 := Fr.nil n0
  have pre0 : ∀ t, Steps p.tables e below (s₁.setTop (mkF m 0 #[.val (.ref o0), .val (.int (9 : Int32)), .unset] [])) t → Steps p.tables e below (s₁.setTop (entryFrame m #[(.ref o0), (.int (9 : Int32))] 3)) t := fun t k => castTop (ef_cp16_9 m o0) k
  obtain ⟨cl1, Ar1, qc1, S1, M1, Ha1, G1⟩ := id V_o0
  obtain ⟨T2, h2, k2, X2, e2, E2, A2, EA2, st2⟩ := newPE X0 hx hZ (hw _ (List.mem_of_getElem? (i := 1) rfl)) e0 (g := (mkF m 15 #[.val (.ref o0), .val (.int (9 : Int32)), .unset] [(.int (9 : Int32))])) rfl (hb hby d6_15) rfl (by decide) (cap := 9) (by decide) (by decide) (by decide) (by decide) (ad := "[I") rfl
  obtain ⟨b2, gz2⟩ : ∃ z, z = h0.size := ⟨_, rfl⟩
  rw [← gz2] at A2 EA2 st2
  have ne3 : o0 ≠ b2 := Nat.ne_of_lt (Nat.lt_of_lt_of_le E_o0.lt (Nat.le_of_eq gz2.symm))
  have g4 : n0 ≤ b2 := Nat.le_trans Z0 (Nat.le_of_eq gz2.symm)
  have sz5 : h0.size ≤ b2 := Nat.le_trans (Nat.le_refl h0.size) (Nat.le_of_eq gz2.symm)
  have z6 : n0 ≤ h2.size := Nat.le_trans Z0 E2.1
  have hs7 : h0.size ≤ h2.size := Nat.le_trans (Nat.le_refl h0.size) E2.1
  have V2 : Arv Z h2 b2 k2 .int (9 : Int32) [(.int (0 : Int32)), (.int (0 : Int32)), (.int (0 : Int32)), (.int (0 : Int32)), (.int (0 : Int32)), (.int (0 : Int32)), (.int (0 : Int32)), (.int (0 : Int32)), (.int (0 : Int32))] (.int (0 : Int32)) := (Arv.new A2 (by decide)).pad (pad_rep [] (.int (0 : Int32)) 9)
  have k8 := (V_o0.ext E2)
  obtain ⟨cl9, Ar9, qc9, S9, M9, Ha9, G9⟩ := id k8
  obtain ⟨vr10, _, ⟨T10, L10, k10, n10⟩, -, X10, ⟨Lc10, hQ10, l10, y10, z10⟩, st10⟩ := Jvm.LawKit.callS X2 hx (y := (⟨"java/lang/Math", "min", "(II)I"⟩ : MethodName)) hown (mvT hZ (hw _ (List.mem_of_getElem? (i := 34) rfl))) (mvT hZ (hw _ (List.mem_of_getElem? (i := 35) rfl))) (mvT hZ (hw _ (List.mem_of_getElem? (i := 36) rfl))) (mvT hZ (hw _ (List.mem_of_getElem? (i := 37) rfl))) (by decide) (backOf (W := 4) (rm7 l Z a0 hw [] (16 : Int32) (9 : Int32) h2 n0 z6) hZ (hw _ (List.mem_of_getElem? (i := 37) rfl)) (hw _ (List.mem_of_getElem? (i := 36) rfl)) (by decide) (by decide)) (g := (mkF m 25 #[.val (.ref o0), .val (.int (9 : Int32)), .val (.ref b2)] [(.int (9 : Int32)), (.int (16 : Int32)), (.int (0 : Int32)), (.ref b2), (.int (0 : Int32)), (.ref o0)])) rfl (by rw [hml]; rfl) (argsL := [(.int (16 : Int32)), (.int (9 : Int32))]) (rest := [(.int (0 : Int32)), (.ref b2), (.int (0 : Int32)), (.ref o0)]) (lenOf pd__II_I rfl) rfl (by show 2 * 0 + _ ≤ _; exact Nat.le_of_eq rfl) (hb hby d6_25) (fun _ _ => ⟨rfl, e2, (by decide : 1 + 0 ≤ _), (by decide : 9 + 0 ≤ _)⟩)
  dsimp only [Pt.U, Pt.locs, Pt.cells, Pt.slots] at X10 l10 y10 z10 st10 hQ10
  subst l10 y10 z10
  have N10q := (show _ ∧ _ ∧ _ from hQ10).1
  have hv10 := (show _ ∧ _ ∧ _ from hQ10).2.1
  have e10 := (show _ ∧ _ ∧ _ from hQ10).2.2
  clear hQ10
  subst hv10
  have N10 := Fr.app N0 N10q
  obtain ⟨T11, h11, L11, X11, e11, N11, K11, V11r, st11⟩ := cpA X10 hx hZ hown (hw _ (List.mem_of_getElem? (i := 38) rfl)) (hw _ (List.mem_of_getElem? (i := 41) rfl)) (hw _ (List.mem_of_getElem? (i := 39) rfl)) (hw _ (List.mem_of_getElem? (i := 40) rfl)) e10 k8 V2 (us := [(.int w10_e), (.int w11_e), (.int w12_e), (.int w13_e), (.int w14_e), (.int w15_e), (.int w16_e), (.int w17_e), (.int w18_e)]) (Or.inl ⟨rfl, rfl⟩) (by decide) (by decide) (by decide) (Nat.le_of_ble_eq_true rfl) (Nat.le_of_ble_eq_true rfl) rfl (Nat.le_of_ble_eq_true rfl) N10 g4 (g := (mkF m 28 #[.val (.ref o0), .val (.int (9 : Int32)), .val (.ref b2)] [(.int (9 : Int32)), (.int (0 : Int32)), (.ref b2), (.int (0 : Int32)), (.ref o0)])) rfl (by rw [hml]; rfl) rfl (hb hby d6_28) (by decide) (W := 0) (by show 2 * 0 + _ ≤ _; exact Nat.le_of_eq rfl) (by decide)
  have V11 : Arv Z h11 b2 k2 .int (9 : Int32) [(.int w10_e), (.int w11_e), (.int w12_e), (.int w13_e), (.int w14_e), (.int w15_e), (.int w16_e), (.int w17_e), (.int w18_e)] (.int (0 : Int32)) := V11r
  have z12 : n0 ≤ h11.size := Nat.le_trans z6 K11.1
  have hs13 : h0.size ≤ h11.size := Nat.le_trans hs7 K11.1
  obtain ⟨fs, hr, hrun, hended, hW, hsame⟩ := X11.leave (v := some (.ref b2)) (fun h => by rw [Bd.returns] at h; cases h) hlk
  refine ⟨_, _, pre0 _ ?_, hrun, hended, _, _, rfl, ?_, ⟨_, rfl⟩, hW, hsame.mono (by decide) (by decide)⟩
  · skip
    show Steps p.tables e below (s₁.setTop (mkF m 0 #[.val (.ref o0), .val (.int (9 : Int32)), .unset] [])) _
    refine XS.iloadN X0.here hx rfl (hb hby d6_0) rfl ?_
    show Steps p.tables e below (s₁.setTop (mkF m 1 #[.val (.ref o0), .val (.int (9 : Int32)), .unset] [(.int (9 : Int32))])) _
    refine XS.aloadN X0.here hx rfl (hb hby d6_1) rfl rfl ?_
    show Steps p.tables e below (s₁.setTop (mkF m 2 #[.val (.ref o0), .val (.int (9 : Int32)), .unset] [(.ref o0), (.int (9 : Int32))])) _
    refine X0.arraylength hx (by rw [e0]; exact Ar1.1) (State.isArrayOf_alike hZ.alike Ar1.2.1) (g := (mkF m 2 #[.val (.ref o0), .val (.int (9 : Int32)), .unset] [(.ref o0), (.int (9 : Int32))])) rfl rfl (hb hby d6_2) _ ?_
    rw [len_of S1 M1]
    show Steps p.tables e below (s₁.setTop (mkF m 3 #[.val (.ref o0), .val (.int (9 : Int32)), .unset] [(.int (16 : Int32)), (.int (9 : Int32))])) _
    refine XS.icmpYes X0.here hx rfl (pc0 := 3) (pc' := 14) rfl (hb hby d6_3) rfl (XT.ii_ne_t (by decide)) (by decide) (by decide) ?_
    show Steps p.tables e below (s₁.setTop (mkF m 14 #[.val (.ref o0), .val (.int (9 : Int32)), .unset] [])) _
    refine XS.iloadN X0.here hx rfl (hb hby d6_14) rfl ?_
    show Steps p.tables e below (s₁.setTop (mkF m 15 #[.val (.ref o0), .val (.int (9 : Int32)), .unset] [(.int (9 : Int32))])) _
    refine st2 _ ?_
    show Steps p.tables e below (T2.setTop (mkF m 17 #[.val (.ref o0), .val (.int (9 : Int32)), .unset] [(.ref b2)])) _
    refine XS.astoreN X2.here hx rfl (hb hby d6_17) rfl rfl (l' := #[.val (.ref o0), .val (.int (9 : Int32)), .val (.ref b2)]) rfl ?_
    show Steps p.tables e below (T2.setTop (mkF m 18 #[.val (.ref o0), .val (.int (9 : Int32)), .val (.ref b2)] [])) _
    refine XS.aloadN X2.here hx rfl (hb hby d6_18) rfl rfl ?_
    show Steps p.tables e below (T2.setTop (mkF m 19 #[.val (.ref o0), .val (.int (9 : Int32)), .val (.ref b2)] [(.ref o0)])) _
    refine XT.iconstV X2.here hx rfl (0 : Int32) (hb hby d6_19) (by decide) ?_
    show Steps p.tables e below (T2.setTop (mkF m 20 #[.val (.ref o0), .val (.int (9 : Int32)), .val (.ref b2)] [(.int (0 : Int32)), (.ref o0)])) _
    refine XS.aloadN X2.here hx rfl (hb hby d6_20) rfl rfl ?_
    show Steps p.tables e below (T2.setTop (mkF m 21 #[.val (.ref o0), .val (.int (9 : Int32)), .val (.ref b2)] [(.ref b2), (.int (0 : Int32)), (.ref o0)])) _
    refine XT.iconstV X2.here hx rfl (0 : Int32) (hb hby d6_21) (by decide) ?_
    show Steps p.tables e below (T2.setTop (mkF m 22 #[.val (.ref o0), .val (.int (9 : Int32)), .val (.ref b2)] [(.int (0 : Int32)), (.ref b2), (.int (0 : Int32)), (.ref o0)])) _
    refine XS.aloadN X2.here hx rfl (hb hby d6_22) rfl rfl ?_
    show Steps p.tables e below (T2.setTop (mkF m 23 #[.val (.ref o0), .val (.int (9 : Int32)), .val (.ref b2)] [(.ref o0), (.int (0 : Int32)), (.ref b2), (.int (0 : Int32)), (.ref o0)])) _
    refine X2.arraylength hx (by rw [e2]; exact Ar9.1) (State.isArrayOf_alike hZ.alike Ar9.2.1) (g := (mkF m 23 #[.val (.ref o0), .val (.int (9 : Int32)), .val (.ref b2)] [(.ref o0), (.int (0 : Int32)), (.ref b2), (.int (0 : Int32)), (.ref o0)])) rfl rfl (hb hby d6_23) _ ?_
    rw [len_of S9 M9]
    show Steps p.tables e below (T2.setTop (mkF m 24 #[.val (.ref o0), .val (.int (9 : Int32)), .val (.ref b2)] [(.int (16 : Int32)), (.int (0 : Int32)), (.ref b2), (.int (0 : Int32)), (.ref o0)])) _
    refine XS.iloadN X2.here hx rfl (hb hby d6_24) rfl ?_
    show Steps p.tables e below (T2.setTop (mkF m 25 #[.val (.ref o0), .val (.int (9 : Int32)), .val (.ref b2)] [(.int (9 : Int32)), (.int (16 : Int32)), (.int (0 : Int32)), (.ref b2), (.int (0 : Int32)), (.ref o0)])) _
    refine st10 _ ?_
    show Steps p.tables e below (T10.setTop (mkF m 28 #[.val (.ref o0), .val (.int (9 : Int32)), .val (.ref b2)] [(.int (9 : Int32)), (.int (0 : Int32)), (.ref b2), (.int (0 : Int32)), (.ref o0)])) _
    refine st11 _ ?_
    show Steps p.tables e below (T11.setTop (mkF m 31 #[.val (.ref o0), .val (.int (9 : Int32)), .val (.ref b2)] [])) _
    refine XS.aloadN X11.here hx rfl (hb hby d6_31) rfl rfl ?_
    show Steps p.tables e below (T11.setTop (mkF m 32 #[.val (.ref o0), .val (.int (9 : Int32)), .val (.ref b2)] [(.ref b2)])) _
    exact X11.areturnOut hx rfl Bd.returns rfl (hb hby d6_32) hr
  · skip
    show Qcp16_9 Z o0 w10_e w11_e w12_e w13_e w14_e w15_e w16_e w17_e w18_e w19_e w20_e w21_e w22_e w23_e w24_e w25_e kA h0 n0 _ T11.heap _
    rw [e11]
    have k14 := (EA2.keep K11)
    exact ⟨N11, b2, k2, rfl, sz5, (((Keep.refl h0 []).ext E2).trans K11 (allS (Or.inr sz5) all0)), k14, V11⟩
theorem d3_0 : decode prog_8_method_2_code 0 = .ok (.aload_n 0, 1) := by decide +kernel
theorem d3_1 : decode prog_8_method_2_code 1 = .ok (.getfield 13, 3) := by decide +kernel
theorem d3_4 : decode prog_8_method_2_code 4 = .ok (.aload_n 0, 1) := by decide +kernel
theorem d3_5 : decode prog_8_method_2_code 5 = .ok (.getfield 7, 3) := by decide +kernel
theorem d3_8 : decode prog_8_method_2_code 8 = .ok (.arraylength, 1) := by decide +kernel
theorem d3_9 : decode prog_8_method_2_code 9 = .ok (.if_icmp .ne 20, 3) := by decide +kernel
theorem d3_29 : decode prog_8_method_2_code 29 = .ok (.aload_n 0, 1) := by decide +kernel
theorem d3_30 : decode prog_8_method_2_code 30 = .ok (.getfield 7, 3) := by decide +kernel
theorem d3_33 : decode prog_8_method_2_code 33 = .ok (.aload_n 0, 1) := by decide +kernel
theorem d3_34 : decode prog_8_method_2_code 34 = .ok (.dup, 1) := by decide +kernel
theorem d3_35 : decode prog_8_method_2_code 35 = .ok (.getfield 13, 3) := by decide +kernel
theorem d3_38 : decode prog_8_method_2_code 38 = .ok (.dup_x1, 1) := by decide +kernel
theorem d3_39 : decode prog_8_method_2_code 39 = .ok (.iconst 1, 1) := by decide +kernel
theorem d3_40 : decode prog_8_method_2_code 40 = .ok (.iadd, 1) := by decide +kernel
theorem d3_41 : decode prog_8_method_2_code 41 = .ok (.putfield 13, 3) := by decide +kernel
theorem d3_44 : decode prog_8_method_2_code 44 = .ok (.iload_n 1, 1) := by decide +kernel
theorem d3_45 : decode prog_8_method_2_code 45 = .ok (.iastore, 1) := by decide +kernel
theorem d3_46 : decode prog_8_method_2_code 46 = .ok (.return_, 1) := by decide +kernel
theorem ef_add0 (m : MethodId) (o0 : Addr) (p1 : Int32) : entryFrame m #[(.ref o0), (.int p1)] 2 = mkF m 0 #[.val (.ref o0), .val (.int p1)] [] := by first | (simp [entryFrame, mkF, argsToLocals, Value.category]; done) | rfl
def Qadd0 (Z : State) (o0 : Addr) (p1 : Int32) (w1_values : Addr) (w10_e : Int32) (w11_e : Int32) (w12_e : Int32) (w13_e : Int32) (kA : ClassId) (h0 : Heap) (n0 : Nat) (v : Option Value) (h : Heap) (L : List Loc) : Prop := Fr n0 L ∧ v = none ∧ Keep h0 h [o0, w1_values] ∧ Exa Z h o0 "com/example/vellum_index/vellumindex/IntList" ∧ Fld Z h o0 "com/example/vellum_index/vellumindex/IntList" "size" "I" (.int (1 : Int32)) ∧ Fld Z h o0 "com/example/vellum_index/vellumindex/IntList" "values" "[I" (.ref w1_values) ∧ Exa Z h w1_values "[I" ∧ Arv Z h w1_values kA .int (4 : Int32) [(.int p1), (.int w11_e), (.int w12_e), (.int w13_e)] (.int (0 : Int32))
set_option maxRecDepth 65536 in
set_option maxHeartbeats 40000000 in
theorem rmadd0 (l : Launch) (Z : State) (a0 : Array Value) (hw : ∀ d ∈ tables_1, d.before a0 Z = true) (ws : List Jvm.Cond) (o0 : Addr) (p1 : Int32) (w1_values : Addr) (w10_e : Int32) (w11_e : Int32) (w12_e : Int32) (w13_e : Int32) (kA : ClassId) (h0 : Heap) (n0 : Nat) (Z0 : n0 ≤ h0.size) (E_o0 : Exa Z h0 o0 "com/example/vellum_index/vellumindex/IntList") (F_size_o0 : Fld Z h0 o0 "com/example/vellum_index/vellumindex/IntList" "size" "I" (.int (0 : Int32))) (F_values_o0 : Fld Z h0 o0 "com/example/vellum_index/vellumindex/IntList" "values" "[I" (.ref w1_values)) (E_w1_values : Exa Z h0 w1_values "[I") (V_w1_values : Arv Z h0 w1_values kA .int (4 : Int32) [(.int w10_e), (.int w11_e), (.int w12_e), (.int w13_e)] (.int (0 : Int32))) (g_o0 : n0 ≤ o0) (ne_w1_values_o0 : w1_values ≠ o0) (g_w1_values : n0 ≤ w1_values) :
    MetFree l (⟨"com/example/vellum_index/vellumindex/IntList", "add", "(I)V"⟩ : MethodName) (head1 (Jvm.Cond.code (⟨"com/example/vellum_index/vellumindex/IntList", "add", "(I)V"⟩ : MethodName) prog_8_method_2_code 2 none :: ws) ({ frames := 0, cells := 0, slots := 0, locals := 0 } : Room)) (fun a U => a = #[(.ref o0), (.int p1)] ∧ Z.Warmed39 U.vm ∧ U.heap = h0) (fun _ _ _ _ _ => True) (fun _ U o U' => ∃ v L, o = .returned v ∧ Qadd0 Z o0 p1 w1_values w10_e w11_e w12_e w13_e kA h0 n0 v U'.heap L ∧ FrameEnd U o U' L ({ frames := 0, cells := 0, slots := 0, locals := 0 } : Room).cells ({ frames := 0, cells := 0, slots := 0, locals := 0 } : Room).slots) := by
  refine MetFree.of_bodySF (plainFor_of_name pn_com_example_vellum_index_vellumindex_IntList) hisR ?_
  intro p e s m args below meth c s₁ Bd hml0 hP hK
  obtain ⟨rfl, hZ, hh⟩ := hP
  have hx := Bd.exec
  have hby := Bd.bytes
  have hml : c.maxLocals = 2 := hml0
  have hown : s.vm.findClass "com/example/vellum_index/vellumindex/IntList" = some m.cls := findClass_of_methodNamed Bd.named
  have hnm := (name_of_methodNamed Bd.named Bd.method).1
  have hlk := BodyLoose.notSynchronized Bd
  have X0 : Stand p l e ({ frames := 0, cells := 0, slots := 0, locals := 0 } : Room) s m #[(.ref o0), (.int p1)] below meth c s₁ [] 0 0 := Stand.of_body Bd
  have e0 : s₁.heap = h0 := by rw [← hh, Bd.state]; rfl
  have N0 := Fr.nil n0
  have pre0 : ∀ t, Steps p.tables e below (s₁.setTop (mkF m 0 #[.val (.ref o0), .val (.int p1)] [])) t → Steps p.tables e below (s₁.setTop (entryFrame m #[(.ref o0), (.int p1)] 2)) t := fun t k => castTop (ef_add0 m o0 p1) k
  obtain ⟨T1, X1, e1, st1⟩ := getF X0 hx hZ hown (host := "") (Or.inl (hw _ (List.mem_of_getElem? (i := 18) rfl))) Via.refl e0 F_size_o0 (g := (mkF m 1 #[.val (.ref o0), .val (.int p1)] [(.ref o0)])) rfl rfl (hb hby d3_1)
  obtain ⟨T2, X2, e2, st2⟩ := getF X1 hx hZ hown (host := "") (Or.inl (hw _ (List.mem_of_getElem? (i := 11) rfl))) Via.refl e1 F_values_o0 (g := (mkF m 5 #[.val (.ref o0), .val (.int p1)] [(.ref o0), (.int (0 : Int32))])) rfl rfl (hb hby d3_5)
  obtain ⟨cl3, Ar3, qc3, S3, M3, Ha3, G3⟩ := id V_w1_values
  obtain ⟨T4, X4, e4, st4⟩ := getF X2 hx hZ hown (host := "") (Or.inl (hw _ (List.mem_of_getElem? (i := 11) rfl))) Via.refl e2 F_values_o0 (g := (mkF m 30 #[.val (.ref o0), .val (.int p1)] [(.ref o0)])) rfl rfl (hb hby d3_30)
  obtain ⟨T5, X5, e5, st5⟩ := getF X4 hx hZ hown (host := "") (Or.inl (hw _ (List.mem_of_getElem? (i := 18) rfl))) Via.refl e4 F_size_o0 (g := (mkF m 35 #[.val (.ref o0), .val (.int p1)] [(.ref o0), (.ref o0), (.ref w1_values)])) rfl rfl (hb hby d3_35)
  obtain ⟨T6, h6, X6, e6, W6, st6⟩ := putF X5 hx hZ hown (host := "") (Or.inl (hw _ (List.mem_of_getElem? (i := 18) rfl))) Via.refl e5 F_size_o0 E_o0 (Or.inl (hw _ (List.mem_of_getElem? (i := 19) rfl))) (hw _ (List.mem_of_getElem? (i := 3) rfl)) (ty := .int) (by decide) rfl rfl (g := (mkF m 41 #[.val (.ref o0), .val (.int p1)] [(.int (1 : Int32)), (.ref o0), (.int (0 : Int32)), (.ref w1_values)])) rfl rfl (hb hby d3_41)
  have Fw6 := F_size_o0.same W6
  have N6 := Fr.snoc X6 N0 g_o0
  have z7 : n0 ≤ h6.size := Nat.le_trans Z0 (Keep.of_wr W6).1
  have hs8 : h0.size ≤ h6.size := Nat.le_trans (Nat.le_refl h0.size) (Keep.of_wr W6).1
  have k9 := (V_w1_values.other W6 ne_w1_values_o0)
  obtain ⟨cl10, Ar10, qc10, S10, M10, Ha10, G10⟩ := id k9
  have hin11 : ¬ ((0 : Int32) < 0 ∨ cl10.slots.size ≤ ((0 : Int32)).toNatClampNeg) := inb_of S10 ⟨by decide, by decide⟩
  obtain ⟨T12, h12, X12, e12, W12, st12⟩ := stI X6 hx hZ e6 Ar10 (j := (0 : Int32)) hin11 (g := (mkF m 45 #[.val (.ref o0), .val (.int p1)] [(.int p1), (.int (0 : Int32)), (.ref w1_values)])) rfl rfl (hb hby d3_45)
  have V12 : Arv Z h12 w1_values kA .int (4 : Int32) [(.int p1), (.int w11_e), (.int w12_e), (.int w13_e)] (.int (0 : Int32)) := Arv.set Ar10 qc10 S10 M10 Ha10 G10 rfl W12 0 rfl (Nat.le_of_ble_eq_true rfl)
  have N12 := Fr.snoc X12 N6 g_w1_values
  have z13 : n0 ≤ h12.size := Nat.le_trans z7 (Keep.of_wr W12).1
  have hs14 : h0.size ≤ h12.size := Nat.le_trans hs8 (Keep.of_wr W12).1
  obtain ⟨fs, hr, hrun, hended, hW, hsame⟩ := X12.leave (v := none) (fun _ => rfl) hlk
  refine ⟨_, _, pre0 _ ?_, hrun, hended, _, _, rfl, ?_, ⟨_, rfl⟩, hW, hsame.mono (by decide) (by decide)⟩
  · skip
    show Steps p.tables e below (s₁.setTop (mkF m 0 #[.val (.ref o0), .val (.int p1)] [])) _
    refine XS.aloadN X0.here hx rfl (hb hby d3_0) rfl rfl ?_
    show Steps p.tables e below (s₁.setTop (mkF m 1 #[.val (.ref o0), .val (.int p1)] [(.ref o0)])) _
    refine st1 _ ?_
    show Steps p.tables e below (T1.setTop (mkF m 4 #[.val (.ref o0), .val (.int p1)] [(.int (0 : Int32))])) _
    refine XS.aloadN X1.here hx rfl (hb hby d3_4) rfl rfl ?_
    show Steps p.tables e below (T1.setTop (mkF m 5 #[.val (.ref o0), .val (.int p1)] [(.ref o0), (.int (0 : Int32))])) _
    refine st2 _ ?_
    show Steps p.tables e below (T2.setTop (mkF m 8 #[.val (.ref o0), .val (.int p1)] [(.ref w1_values), (.int (0 : Int32))])) _
    refine X2.arraylength hx (by rw [e2]; exact Ar3.1) (State.isArrayOf_alike hZ.alike Ar3.2.1) (g := (mkF m 8 #[.val (.ref o0), .val (.int p1)] [(.ref w1_values), (.int (0 : Int32))])) rfl rfl (hb hby d3_8) _ ?_
    rw [len_of S3 M3]
    show Steps p.tables e below (T2.setTop (mkF m 9 #[.val (.ref o0), .val (.int p1)] [(.int (4 : Int32)), (.int (0 : Int32))])) _
    refine XS.icmpYes X2.here hx rfl (pc0 := 9) (pc' := 29) rfl (hb hby d3_9) rfl (XT.ii_ne_t (by decide)) (by decide) (by decide) ?_
    show Steps p.tables e below (T2.setTop (mkF m 29 #[.val (.ref o0), .val (.int p1)] [])) _
    refine XS.aloadN X2.here hx rfl (hb hby d3_29) rfl rfl ?_
    show Steps p.tables e below (T2.setTop (mkF m 30 #[.val (.ref o0), .val (.int p1)] [(.ref o0)])) _
    refine st4 _ ?_
    show Steps p.tables e below (T4.setTop (mkF m 33 #[.val (.ref o0), .val (.int p1)] [(.ref w1_values)])) _
    refine XS.aloadN X4.here hx rfl (hb hby d3_33) rfl rfl ?_
    show Steps p.tables e below (T4.setTop (mkF m 34 #[.val (.ref o0), .val (.int p1)] [(.ref o0), (.ref w1_values)])) _
    refine XS.dup X4.here hx rfl (hb hby d3_34) rfl rfl ?_
    show Steps p.tables e below (T4.setTop (mkF m 35 #[.val (.ref o0), .val (.int p1)] [(.ref o0), (.ref o0), (.ref w1_values)])) _
    refine st5 _ ?_
    show Steps p.tables e below (T5.setTop (mkF m 38 #[.val (.ref o0), .val (.int p1)] [(.int (0 : Int32)), (.ref o0), (.ref w1_values)])) _
    refine XT.dupX1 X5.here hx rfl (hb hby d3_38) rfl rfl rfl ?_
    show Steps p.tables e below (T5.setTop (mkF m 39 #[.val (.ref o0), .val (.int p1)] [(.int (0 : Int32)), (.ref o0), (.int (0 : Int32)), (.ref w1_values)])) _
    refine XT.iconstV X5.here hx rfl (1 : Int32) (hb hby d3_39) (by decide) ?_
    show Steps p.tables e below (T5.setTop (mkF m 40 #[.val (.ref o0), .val (.int p1)] [(.int (1 : Int32)), (.int (0 : Int32)), (.ref o0), (.int (0 : Int32)), (.ref w1_values)])) _
    refine XS.iadd X5.here hx rfl (hb hby d3_40) rfl ?_
    show Steps p.tables e below (T5.setTop (mkF m 41 #[.val (.ref o0), .val (.int p1)] [(.int (1 : Int32)), (.ref o0), (.int (0 : Int32)), (.ref w1_values)])) _
    refine st6 _ ?_
    show Steps p.tables e below (T6.setTop (mkF m 44 #[.val (.ref o0), .val (.int p1)] [(.int (0 : Int32)), (.ref w1_values)])) _
    refine XS.iloadN X6.here hx rfl (hb hby d3_44) rfl ?_
    show Steps p.tables e below (T6.setTop (mkF m 45 #[.val (.ref o0), .val (.int p1)] [(.int p1), (.int (0 : Int32)), (.ref w1_values)])) _
    refine st12 _ ?_
    show Steps p.tables e below (T12.setTop (mkF m 46 #[.val (.ref o0), .val (.int p1)] [])) _
    exact X12.returnOut hx Bd.returns (hb hby d3_46) hr
  · skip
    show Qadd0 Z o0 p1 w1_values w10_e w11_e w12_e w13_e kA h0 n0 _ T12.heap _
    rw [e12]
    have k15 := ((E_o0.wr W6).wr W12)
    have k16 := (Fw6.other W12 (Or.inl (Ne.symm ne_w1_values_o0)))
    have k17 := ((F_values_o0.other W6 (Or.inr (slot_ne (Or.inl (hw _ (List.mem_of_getElem? (i := 12) rfl))) (Or.inl (hw _ (List.mem_of_getElem? (i := 19) rfl))) (by decide) (t := (.array .int)) (t' := .int) (by decide) (by decide)))).other W12 (Or.inl (Ne.symm ne_w1_values_o0)))
    have k18 := ((E_w1_values.wr W6).wr W12)
    exact ⟨N12, rfl, (((Keep.refl h0 [o0, w1_values]).wr W6 (Or.inl (List.mem_of_getElem? (i := 0) rfl))).wr W12 (Or.inl (List.mem_of_getElem? (i := 1) rfl))), k15, k16, k17, k18, V12⟩
theorem ef_add1 (m : MethodId) (o0 : Addr) (p1 : Int32) : entryFrame m #[(.ref o0), (.int p1)] 2 = mkF m 0 #[.val (.ref o0), .val (.int p1)] [] := by first | (simp [entryFrame, mkF, argsToLocals, Value.category]; done) | rfl
def Qadd1 (Z : State) (o0 : Addr) (p1 : Int32) (w1_values : Addr) (w10_e : Int32) (w11_e : Int32) (w12_e : Int32) (w13_e : Int32) (kA : ClassId) (h0 : Heap) (n0 : Nat) (v : Option Value) (h : Heap) (L : List Loc) : Prop := Fr n0 L ∧ v = none ∧ Keep h0 h [o0, w1_values] ∧ Exa Z h o0 "com/example/vellum_index/vellumindex/IntList" ∧ Fld Z h o0 "com/example/vellum_index/vellumindex/IntList" "size" "I" (.int (2 : Int32)) ∧ Fld Z h o0 "com/example/vellum_index/vellumindex/IntList" "values" "[I" (.ref w1_values) ∧ Exa Z h w1_values "[I" ∧ Arv Z h w1_values kA .int (4 : Int32) [(.int w10_e), (.int p1), (.int w12_e), (.int w13_e)] (.int (0 : Int32))
set_option maxRecDepth 65536 in
set_option maxHeartbeats 40000000 in
theorem rmadd1 (l : Launch) (Z : State) (a0 : Array Value) (hw : ∀ d ∈ tables_1, d.before a0 Z = true) (ws : List Jvm.Cond) (o0 : Addr) (p1 : Int32) (w1_values : Addr) (w10_e : Int32) (w11_e : Int32) (w12_e : Int32) (w13_e : Int32) (kA : ClassId) (h0 : Heap) (n0 : Nat) (Z0 : n0 ≤ h0.size) (E_o0 : Exa Z h0 o0 "com/example/vellum_index/vellumindex/IntList") (F_size_o0 : Fld Z h0 o0 "com/example/vellum_index/vellumindex/IntList" "size" "I" (.int (1 : Int32))) (F_values_o0 : Fld Z h0 o0 "com/example/vellum_index/vellumindex/IntList" "values" "[I" (.ref w1_values)) (E_w1_values : Exa Z h0 w1_values "[I") (V_w1_values : Arv Z h0 w1_values kA .int (4 : Int32) [(.int w10_e), (.int w11_e), (.int w12_e), (.int w13_e)] (.int (0 : Int32))) (g_o0 : n0 ≤ o0) (ne_w1_values_o0 : w1_values ≠ o0) (g_w1_values : n0 ≤ w1_values) :
    MetFree l (⟨"com/example/vellum_index/vellumindex/IntList", "add", "(I)V"⟩ : MethodName) (head1 (Jvm.Cond.code (⟨"com/example/vellum_index/vellumindex/IntList", "add", "(I)V"⟩ : MethodName) prog_8_method_2_code 2 none :: ws) ({ frames := 0, cells := 0, slots := 0, locals := 0 } : Room)) (fun a U => a = #[(.ref o0), (.int p1)] ∧ Z.Warmed39 U.vm ∧ U.heap = h0) (fun _ _ _ _ _ => True) (fun _ U o U' => ∃ v L, o = .returned v ∧ Qadd1 Z o0 p1 w1_values w10_e w11_e w12_e w13_e kA h0 n0 v U'.heap L ∧ FrameEnd U o U' L ({ frames := 0, cells := 0, slots := 0, locals := 0 } : Room).cells ({ frames := 0, cells := 0, slots := 0, locals := 0 } : Room).slots) := by
  refine MetFree.of_bodySF (plainFor_of_name pn_com_example_vellum_index_vellumindex_IntList) hisR ?_
  intro p e s m args below meth c s₁ Bd hml0 hP hK
  obtain ⟨rfl, hZ, hh⟩ := hP
  have hx := Bd.exec
  have hby := Bd.bytes
  have hml : c.maxLocals = 2 := hml0
  have hown : s.vm.findClass "com/example/vellum_index/vellumindex/IntList" = some m.cls := findClass_of_methodNamed Bd.named
  have hnm := (name_of_methodNamed Bd.named Bd.method).1
  have hlk := BodyLoose.notSynchronized Bd
  have X0 : Stand p l e ({ frames := 0, cells := 0, slots := 0, locals := 0 } : Room) s m #[(.ref o0), (.int p1)] below meth c s₁ [] 0 0 := Stand.of_body Bd
  have e0 : s₁.heap = h0 := by rw [← hh, Bd.state]; rfl
  have N0 := Fr.nil n0
  have pre0 : ∀ t, Steps p.tables e below (s₁.setTop (mkF m 0 #[.val (.ref o0), .val (.int p1)] [])) t → Steps p.tables e below (s₁.setTop (entryFrame m #[(.ref o0), (.int p1)] 2)) t := fun t k => castTop (ef_add1 m o0 p1) k
  obtain ⟨T1, X1, e1, st1⟩ := getF X0 hx hZ hown (host := "") (Or.inl (hw _ (List.mem_of_getElem? (i := 18) rfl))) Via.refl e0 F_size_o0 (g := (mkF m 1 #[.val (.ref o0), .val (.int p1)] [(.ref o0)])) rfl rfl (hb hby d3_1)
  obtain ⟨T2, X2, e2, st2⟩ := getF X1 hx hZ hown (host := "") (Or.inl (hw _ (List.mem_of_getElem? (i := 11) rfl))) Via.refl e1 F_values_o0 (g := (mkF m 5 #[.val (.ref o0), .val (.int p1)] [(.ref o0), (.int (1 : Int32))])) rfl rfl (hb hby d3_5)
  obtain ⟨cl3, Ar3, qc3, S3, M3, Ha3, G3⟩ := id V_w1_values
  obtain ⟨T4, X4, e4, st4⟩ := getF X2 hx hZ hown (host := "") (Or.inl (hw _ (List.mem_of_getElem? (i := 11) rfl))) Via.refl e2 F_values_o0 (g := (mkF m 30 #[.val (.ref o0), .val (.int p1)] [(.ref o0)])) rfl rfl (hb hby d3_30)
  obtain ⟨T5, X5, e5, st5⟩ := getF X4 hx hZ hown (host := "") (Or.inl (hw _ (List.mem_of_getElem? (i := 18) rfl))) Via.refl e4 F_size_o0 (g := (mkF m 35 #[.val (.ref o0), .val (.int p1)] [(.ref o0), (.ref o0), (.ref w1_values)])) rfl rfl (hb hby d3_35)
  obtain ⟨T6, h6, X6, e6, W6, st6⟩ := putF X5 hx hZ hown (host := "") (Or.inl (hw _ (List.mem_of_getElem? (i := 18) rfl))) Via.refl e5 F_size_o0 E_o0 (Or.inl (hw _ (List.mem_of_getElem? (i := 19) rfl))) (hw _ (List.mem_of_getElem? (i := 3) rfl)) (ty := .int) (by decide) rfl rfl (g := (mkF m 41 #[.val (.ref o0), .val (.int p1)] [(.int (2 : Int32)), (.ref o0), (.int (1 : Int32)), (.ref w1_values)])) rfl rfl (hb hby d3_41)
  have Fw6 := F_size_o0.same W6
  have N6 := Fr.snoc X6 N0 g_o0
  have z7 : n0 ≤ h6.size := Nat.le_trans Z0 (Keep.of_wr W6).1
  have hs8 : h0.size ≤ h6.size := Nat.le_trans (Nat.le_refl h0.size) (Keep.of_wr W6).1
  have k9 := (V_w1_values.other W6 ne_w1_values_o0)
  obtain ⟨cl10, Ar10, qc10, S10, M10, Ha10, G10⟩ := id k9
  have hin11 : ¬ ((1 : Int32) < 0 ∨ cl10.slots.size ≤ ((1 : Int32)).toNatClampNeg) := inb_of S10 ⟨by decide, by decide⟩
  obtain ⟨T12, h12, X12, e12, W12, st12⟩ := stI X6 hx hZ e6 Ar10 (j := (1 : Int32)) hin11 (g := (mkF m 45 #[.val (.ref o0), .val (.int p1)] [(.int p1), (.int (1 : Int32)), (.ref w1_values)])) rfl rfl (hb hby d3_45)
  have V12 : Arv Z h12 w1_values kA .int (4 : Int32) [(.int w10_e), (.int p1), (.int w12_e), (.int w13_e)] (.int (0 : Int32)) := Arv.set Ar10 qc10 S10 M10 Ha10 G10 rfl W12 1 rfl (Nat.le_of_ble_eq_true rfl)
  have N12 := Fr.snoc X12 N6 g_w1_values
  have z13 : n0 ≤ h12.size := Nat.le_trans z7 (Keep.of_wr W12).1
  have hs14 : h0.size ≤ h12.size := Nat.le_trans hs8 (Keep.of_wr W12).1
  obtain ⟨fs, hr, hrun, hended, hW, hsame⟩ := X12.leave (v := none) (fun _ => rfl) hlk
  refine ⟨_, _, pre0 _ ?_, hrun, hended, _, _, rfl, ?_, ⟨_, rfl⟩, hW, hsame.mono (by decide) (by decide)⟩
  · skip
    show Steps p.tables e below (s₁.setTop (mkF m 0 #[.val (.ref o0), .val (.int p1)] [])) _
    refine XS.aloadN X0.here hx rfl (hb hby d3_0) rfl rfl ?_
    show Steps p.tables e below (s₁.setTop (mkF m 1 #[.val (.ref o0), .val (.int p1)] [(.ref o0)])) _
    refine st1 _ ?_
    show Steps p.tables e below (T1.setTop (mkF m 4 #[.val (.ref o0), .val (.int p1)] [(.int (1 : Int32))])) _
    refine XS.aloadN X1.here hx rfl (hb hby d3_4) rfl rfl ?_
    show Steps p.tables e below (T1.setTop (mkF m 5 #[.val (.ref o0), .val (.int p1)] [(.ref o0), (.int (1 : Int32))])) _
    refine st2 _ ?_
    show Steps p.tables e below (T2.setTop (mkF m 8 #[.val (.ref o0), .val (.int p1)] [(.ref w1_values), (.int (1 : Int32))])) _
    refine X2.arraylength hx (by rw [e2]; exact Ar3.1) (State.isArrayOf_alike hZ.alike Ar3.2.1) (g := (mkF m 8 #[.val (.ref o0), .val (.int p1)] [(.ref w1_values), (.int (1 : Int32))])) rfl rfl (hb hby d3_8) _ ?_
    rw [len_of S3 M3]
    show Steps p.tables e below (T2.setTop (mkF m 9 #[.val (.ref o0), .val (.int p1)] [(.int (4 : Int32)), (.int (1 : Int32))])) _
    refine XS.icmpYes X2.here hx rfl (pc0 := 9) (pc' := 29) rfl (hb hby d3_9) rfl (XT.ii_ne_t (by decide)) (by decide) (by decide) ?_
    show Steps p.tables e below (T2.setTop (mkF m 29 #[.val (.ref o0), .val (.int p1)] [])) _
    refine XS.aloadN X2.here hx rfl (hb hby d3_29) rfl rfl ?_
    show Steps p.tables e below (T2.setTop (mkF m 30 #[.val (.ref o0), .val (.int p1)] [(.ref o0)])) _
    refine st4 _ ?_
    show Steps p.tables e below (T4.setTop (mkF m 33 #[.val (.ref o0), .val (.int p1)] [(.ref w1_values)])) _
    refine XS.aloadN X4.here hx rfl (hb hby d3_33) rfl rfl ?_
    show Steps p.tables e below (T4.setTop (mkF m 34 #[.val (.ref o0), .val (.int p1)] [(.ref o0), (.ref w1_values)])) _
    refine XS.dup X4.here hx rfl (hb hby d3_34) rfl rfl ?_
    show Steps p.tables e below (T4.setTop (mkF m 35 #[.val (.ref o0), .val (.int p1)] [(.ref o0), (.ref o0), (.ref w1_values)])) _
    refine st5 _ ?_
    show Steps p.tables e below (T5.setTop (mkF m 38 #[.val (.ref o0), .val (.int p1)] [(.int (1 : Int32)), (.ref o0), (.ref w1_values)])) _
    refine XT.dupX1 X5.here hx rfl (hb hby d3_38) rfl rfl rfl ?_
    show Steps p.tables e below (T5.setTop (mkF m 39 #[.val (.ref o0), .val (.int p1)] [(.int (1 : Int32)), (.ref o0), (.int (1 : Int32)), (.ref w1_values)])) _
    refine XT.iconstV X5.here hx rfl (1 : Int32) (hb hby d3_39) (by decide) ?_
    show Steps p.tables e below (T5.setTop (mkF m 40 #[.val (.ref o0), .val (.int p1)] [(.int (1 : Int32)), (.int (1 : Int32)), (.ref o0), (.int (1 : Int32)), (.ref w1_values)])) _
    refine XS.iadd X5.here hx rfl (hb hby d3_40) rfl ?_
    show Steps p.tables e below (T5.setTop (mkF m 41 #[.val (.ref o0), .val (.int p1)] [(.int (2 : Int32)), (.ref o0), (.int (1 : Int32)), (.ref w1_values)])) _
    refine st6 _ ?_
    show Steps p.tables e below (T6.setTop (mkF m 44 #[.val (.ref o0), .val (.int p1)] [(.int (1 : Int32)), (.ref w1_values)])) _
    refine XS.iloadN X6.here hx rfl (hb hby d3_44) rfl ?_
    show Steps p.tables e below (T6.setTop (mkF m 45 #[.val (.ref o0), .val (.int p1)] [(.int p1), (.int (1 : Int32)), (.ref w1_values)])) _
    refine st12 _ ?_
    show Steps p.tables e below (T12.setTop (mkF m 46 #[.val (.ref o0), .val (.int p1)] [])) _
    exact X12.returnOut hx Bd.returns (hb hby d3_46) hr
  · skip
    show Qadd1 Z o0 p1 w1_values w10_e w11_e w12_e w13_e kA h0 n0 _ T12.heap _
    rw [e12]
    have k15 := ((E_o0.wr W6).wr W12)
    have k16 := (Fw6.other W12 (Or.inl (Ne.symm ne_w1_values_o0)))
    have k17 := ((F_values_o0.other W6 (Or.inr (slot_ne (Or.inl (hw _ (List.mem_of_getElem? (i := 12) rfl))) (Or.inl (hw _ (List.mem_of_getElem? (i := 19) rfl))) (by decide) (t := (.array .int)) (t' := .int) (by decide) (by decide)))).other W12 (Or.inl (Ne.symm ne_w1_values_o0)))
    have k18 := ((E_w1_values.wr W6).wr W12)
    exact ⟨N12, rfl, (((Keep.refl h0 [o0, w1_values]).wr W6 (Or.inl (List.mem_of_getElem? (i := 0) rfl))).wr W12 (Or.inl (List.mem_of_getElem? (i := 1) rfl))), k15, k16, k17, k18, V12⟩
theorem ef_add2 (m : MethodId) (o0 : Addr) (p1 : Int32) : entryFrame m #[(.ref o0), (.int p1)] 2 = mkF m 0 #[.val (.ref o0), .val (.int p1)] [] := by first | (simp [entryFrame, mkF, argsToLocals, Value.category]; done) | rfl
def Qadd2 (Z : State) (o0 : Addr) (p1 : Int32) (w1_values : Addr) (w10_e : Int32) (w11_e : Int32) (w12_e : Int32) (w13_e : Int32) (kA : ClassId) (h0 : Heap) (n0 : Nat) (v : Option Value) (h : Heap) (L : List Loc) : Prop := Fr n0 L ∧ v = none ∧ Keep h0 h [o0, w1_values] ∧ Exa Z h o0 "com/example/vellum_index/vellumindex/IntList" ∧ Fld Z h o0 "com/example/vellum_index/vellumindex/IntList" "size" "I" (.int (3 : Int32)) ∧ Fld Z h o0 "com/example/vellum_index/vellumindex/IntList" "values" "[I" (.ref w1_values) ∧ Exa Z h w1_values "[I" ∧ Arv Z h w1_values kA .int (4 : Int32) [(.int w10_e), (.int w11_e), (.int p1), (.int w13_e)] (.int (0 : Int32))
set_option maxRecDepth 65536 in
set_option maxHeartbeats 40000000 in
theorem rmadd2 (l : Launch) (Z : State) (a0 : Array Value) (hw : ∀ d ∈ tables_1, d.before a0 Z = true) (ws : List Jvm.Cond) (o0 : Addr) (p1 : Int32) (w1_values : Addr) (w10_e : Int32) (w11_e : Int32) (w12_e : Int32) (w13_e : Int32) (kA : ClassId) (h0 : Heap) (n0 : Nat) (Z0 : n0 ≤ h0.size) (E_o0 : Exa Z h0 o0 "com/example/vellum_index/vellumindex/IntList") (F_size_o0 : Fld Z h0 o0 "com/example/vellum_index/vellumindex/IntList" "size" "I" (.int (2 : Int32))) (F_values_o0 : Fld Z h0 o0 "com/example/vellum_index/vellumindex/IntList" "values" "[I" (.ref w1_values)) (E_w1_values : Exa Z h0 w1_values "[I") (V_w1_values : Arv Z h0 w1_values kA .int (4 : Int32) [(.int w10_e), (.int w11_e), (.int w12_e), (.int w13_e)] (.int (0 : Int32))) (g_o0 : n0 ≤ o0) (ne_w1_values_o0 : w1_values ≠ o0) (g_w1_values : n0 ≤ w1_values) :
    MetFree l (⟨"com/example/vellum_index/vellumindex/IntList", "add", "(I)V"⟩ : MethodName) (head1 (Jvm.Cond.code (⟨"com/example/vellum_index/vellumindex/IntList", "add", "(I)V"⟩ : MethodName) prog_8_method_2_code 2 none :: ws) ({ frames := 0, cells := 0, slots := 0, locals := 0 } : Room)) (fun a U => a = #[(.ref o0), (.int p1)] ∧ Z.Warmed39 U.vm ∧ U.heap = h0) (fun _ _ _ _ _ => True) (fun _ U o U' => ∃ v L, o = .returned v ∧ Qadd2 Z o0 p1 w1_values w10_e w11_e w12_e w13_e kA h0 n0 v U'.heap L ∧ FrameEnd U o U' L ({ frames := 0, cells := 0, slots := 0, locals := 0 } : Room).cells ({ frames := 0, cells := 0, slots := 0, locals := 0 } : Room).slots) := by
  refine MetFree.of_bodySF (plainFor_of_name pn_com_example_vellum_index_vellumindex_IntList) hisR ?_
  intro p e s m args below meth c s₁ Bd hml0 hP hK
  obtain ⟨rfl, hZ, hh⟩ := hP
  have hx := Bd.exec
  have hby := Bd.bytes
  have hml : c.maxLocals = 2 := hml0
  have hown : s.vm.findClass "com/example/vellum_index/vellumindex/IntList" = some m.cls := findClass_of_methodNamed Bd.named
  have hnm := (name_of_methodNamed Bd.named Bd.method).1
  have hlk := BodyLoose.notSynchronized Bd
  have X0 : Stand p l e ({ frames := 0, cells := 0, slots := 0, locals := 0 } : Room) s m #[(.ref o0), (.int p1)] below meth c s₁ [] 0 0 := Stand.of_body Bd
  have e0 : s₁.heap = h0 := by rw [← hh, Bd.state]; rfl
  have N0 := Fr.nil n0
  have pre0 : ∀ t, Steps p.tables e below (s₁.setTop (mkF m 0 #[.val (.ref o0), .val (.int p1)] [])) t → Steps p.tables e below (s₁.setTop (entryFrame m #[(.ref o0), (.int p1)] 2)) t := fun t k => castTop (ef_add2 m o0 p1) k
  obtain ⟨T1, X1, e1, st1⟩ := getF X0 hx hZ hown (host := "") (Or.inl (hw _ (List.mem_of_getElem? (i := 18) rfl))) Via.refl e0 F_size_o0 (g := (mkF m 1 #[.val (.ref o0), .val (.int p1)] [(.ref o0)])) rfl rfl (hb hby d3_1)
  obtain ⟨T2, X2, e2, st2⟩ := getF X1 hx hZ hown (host := "") (Or.inl (hw _ (List.mem_of_getElem? (i := 11) rfl))) Via.refl e1 F_values_o0 (g := (mkF m 5 #[.val (.ref o0), .val (.int p1)] [(.ref o0), (.int (2 : Int32))])) rfl rfl (hb hby d3_5)
  obtain ⟨cl3, Ar3, qc3, S3, M3, Ha3, G3⟩ := id V_w1_values
  obtain ⟨T4, X4, e4, st4⟩ := getF X2 hx hZ hown (host := "") (Or.inl (hw _ (List.mem_of_getElem? (i := 11) rfl))) Via.refl e2 F_values_o0 (g := (mkF m 30 #[.val (.ref o0), .val (.int p1)] [(.ref o0)])) rfl rfl (hb hby d3_30)
  obtain ⟨T5, X5, e5, st5⟩ := getF X4 hx hZ hown (host := "") (Or.inl (hw _ (List.mem_of_getElem? (i := 18) rfl))) Via.refl e4 F_size_o0 (g := (mkF m 35 #[.val (.ref o0), .val (.int p1)] [(.ref o0), (.ref o0), (.ref w1_values)])) rfl rfl (hb hby d3_35)
  obtain ⟨T6, h6, X6, e6, W6, st6⟩ := putF X5 hx hZ hown (host := "") (Or.inl (hw _ (List.mem_of_getElem? (i := 18) rfl))) Via.refl e5 F_size_o0 E_o0 (Or.inl (hw _ (List.mem_of_getElem? (i := 19) rfl))) (hw _ (List.mem_of_getElem? (i := 3) rfl)) (ty := .int) (by decide) rfl rfl (g := (mkF m 41 #[.val (.ref o0), .val (.int p1)] [(.int (3 : Int32)), (.ref o0), (.int (2 : Int32)), (.ref w1_values)])) rfl rfl (hb hby d3_41)
  have Fw6 := F_size_o0.same W6
  have N6 := Fr.snoc X6 N0 g_o0
  have z7 : n0 ≤ h6.size := Nat.le_trans Z0 (Keep.of_wr W6).1
  have hs8 : h0.size ≤ h6.size := Nat.le_trans (Nat.le_refl h0.size) (Keep.of_wr W6).1
  have k9 := (V_w1_values.other W6 ne_w1_values_o0)
  obtain ⟨cl10, Ar10, qc10, S10, M10, Ha10, G10⟩ := id k9
  have hin11 : ¬ ((2 : Int32) < 0 ∨ cl10.slots.size ≤ ((2 : Int32)).toNatClampNeg) := inb_of S10 ⟨by decide, by decide⟩
  obtain ⟨T12, h12, X12, e12, W12, st12⟩ := stI X6 hx hZ e6 Ar10 (j := (2 : Int32)) hin11 (g := (mkF m 45 #[.val (.ref o0), .val (.int p1)] [(.int p1), (.int (2 : Int32)), (.ref w1_values)])) rfl rfl (hb hby d3_45)
  have V12 : Arv Z h12 w1_values kA .int (4 : Int32) [(.int w10_e), (.int w11_e), (.int p1), (.int w13_e)] (.int (0 : Int32)) := Arv.set Ar10 qc10 S10 M10 Ha10 G10 rfl W12 2 rfl (Nat.le_of_ble_eq_true rfl)
  have N12 := Fr.snoc X12 N6 g_w1_values
  have z13 : n0 ≤ h12.size := Nat.le_trans z7 (Keep.of_wr W12).1
  have hs14 : h0.size ≤ h12.size := Nat.le_trans hs8 (Keep.of_wr W12).1
  obtain ⟨fs, hr, hrun, hended, hW, hsame⟩ := X12.leave (v := none) (fun _ => rfl) hlk
  refine ⟨_, _, pre0 _ ?_, hrun, hended, _, _, rfl, ?_, ⟨_, rfl⟩, hW, hsame.mono (by decide) (by decide)⟩
  · skip
    show Steps p.tables e below (s₁.setTop (mkF m 0 #[.val (.ref o0), .val (.int p1)] [])) _
    refine XS.aloadN X0.here hx rfl (hb hby d3_0) rfl rfl ?_
    show Steps p.tables e below (s₁.setTop (mkF m 1 #[.val (.ref o0), .val (.int p1)] [(.ref o0)])) _
    refine st1 _ ?_
    show Steps p.tables e below (T1.setTop (mkF m 4 #[.val (.ref o0), .val (.int p1)] [(.int (2 : Int32))])) _
    refine XS.aloadN X1.here hx rfl (hb hby d3_4) rfl rfl ?_
    show Steps p.tables e below (T1.setTop (mkF m 5 #[.val (.ref o0), .val (.int p1)] [(.ref o0), (.int (2 : Int32))])) _
    refine st2 _ ?_
    show Steps p.tables e below (T2.setTop (mkF m 8 #[.val (.ref o0), .val (.int p1)] [(.ref w1_values), (.int (2 : Int32))])) _
    refine X2.arraylength hx (by rw [e2]; exact Ar3.1) (State.isArrayOf_alike hZ.alike Ar3.2.1) (g := (mkF m 8 #[.val (.ref o0), .val (.int p1)] [(.ref w1_values), (.int (2 : Int32))])) rfl rfl (hb hby d3_8) _ ?_
    rw [len_of S3 M3]
    show Steps p.tables e below (T2.setTop (mkF m 9 #[.val (.ref o0), .val (.int p1)] [(.int (4 : Int32)), (.int (2 : Int32))])) _
    refine XS.icmpYes X2.here hx rfl (pc0 := 9) (pc' := 29) rfl (hb hby d3_9) rfl (XT.ii_ne_t (by decide)) (by decide) (by decide) ?_
    show Steps p.tables e below (T2.setTop (mkF m 29 #[.val (.ref o0), .val (.int p1)] [])) _
    refine XS.aloadN X2.here hx rfl (hb hby d3_29) rfl rfl ?_
    show Steps p.tables e below (T2.setTop (mkF m 30 #[.val (.ref o0), .val (.int p1)] [(.ref o0)])) _
    refine st4 _ ?_
    show Steps p.tables e below (T4.setTop (mkF m 33 #[.val (.ref o0), .val (.int p1)] [(.ref w1_values)])) _
    refine XS.aloadN X4.here hx rfl (hb hby d3_33) rfl rfl ?_
    show Steps p.tables e below (T4.setTop (mkF m 34 #[.val (.ref o0), .val (.int p1)] [(.ref o0), (.ref w1_values)])) _
    refine XS.dup X4.here hx rfl (hb hby d3_34) rfl rfl ?_
    show Steps p.tables e below (T4.setTop (mkF m 35 #[.val (.ref o0), .val (.int p1)] [(.ref o0), (.ref o0), (.ref w1_values)])) _
    refine st5 _ ?_
    show Steps p.tables e below (T5.setTop (mkF m 38 #[.val (.ref o0), .val (.int p1)] [(.int (2 : Int32)), (.ref o0), (.ref w1_values)])) _
    refine XT.dupX1 X5.here hx rfl (hb hby d3_38) rfl rfl rfl ?_
    show Steps p.tables e below (T5.setTop (mkF m 39 #[.val (.ref o0), .val (.int p1)] [(.int (2 : Int32)), (.ref o0), (.int (2 : Int32)), (.ref w1_values)])) _
    refine XT.iconstV X5.here hx rfl (1 : Int32) (hb hby d3_39) (by decide) ?_
    show Steps p.tables e below (T5.setTop (mkF m 40 #[.val (.ref o0), .val (.int p1)] [(.int (1 : Int32)), (.int (2 : Int32)), (.ref o0), (.int (2 : Int32)), (.ref w1_values)])) _
    refine XS.iadd X5.here hx rfl (hb hby d3_40) rfl ?_
    show Steps p.tables e below (T5.setTop (mkF m 41 #[.val (.ref o0), .val (.int p1)] [(.int (3 : Int32)), (.ref o0), (.int (2 : Int32)), (.ref w1_values)])) _
    refine st6 _ ?_
    show Steps p.tables e below (T6.setTop (mkF m 44 #[.val (.ref o0), .val (.int p1)] [(.int (2 : Int32)), (.ref w1_values)])) _
    refine XS.iloadN X6.here hx rfl (hb hby d3_44) rfl ?_
    show Steps p.tables e below (T6.setTop (mkF m 45 #[.val (.ref o0), .val (.int p1)] [(.int p1), (.int (2 : Int32)), (.ref w1_values)])) _
    refine st12 _ ?_
    show Steps p.tables e below (T12.setTop (mkF m 46 #[.val (.ref o0), .val (.int p1)] [])) _
    exact X12.returnOut hx Bd.returns (hb hby d3_46) hr
  · skip
    show Qadd2 Z o0 p1 w1_values w10_e w11_e w12_e w13_e kA h0 n0 _ T12.heap _
    rw [e12]
    have k15 := ((E_o0.wr W6).wr W12)
    have k16 := (Fw6.other W12 (Or.inl (Ne.symm ne_w1_values_o0)))
    have k17 := ((F_values_o0.other W6 (Or.inr (slot_ne (Or.inl (hw _ (List.mem_of_getElem? (i := 12) rfl))) (Or.inl (hw _ (List.mem_of_getElem? (i := 19) rfl))) (by decide) (t := (.array .int)) (t' := .int) (by decide) (by decide)))).other W12 (Or.inl (Ne.symm ne_w1_values_o0)))
    have k18 := ((E_w1_values.wr W6).wr W12)
    exact ⟨N12, rfl, (((Keep.refl h0 [o0, w1_values]).wr W6 (Or.inl (List.mem_of_getElem? (i := 0) rfl))).wr W12 (Or.inl (List.mem_of_getElem? (i := 1) rfl))), k15, k16, k17, k18, V12⟩
theorem ef_add3 (m : MethodId) (o0 : Addr) (p1 : Int32) : entryFrame m #[(.ref o0), (.int p1)] 2 = mkF m 0 #[.val (.ref o0), .val (.int p1)] [] := by first | (simp [entryFrame, mkF, argsToLocals, Value.category]; done) | rfl
def Qadd3 (Z : State) (o0 : Addr) (p1 : Int32) (w1_values : Addr) (w10_e : Int32) (w11_e : Int32) (w12_e : Int32) (w13_e : Int32) (kA : ClassId) (h0 : Heap) (n0 : Nat) (v : Option Value) (h : Heap) (L : List Loc) : Prop := Fr n0 L ∧ v = none ∧ Keep h0 h [o0, w1_values] ∧ Exa Z h o0 "com/example/vellum_index/vellumindex/IntList" ∧ Fld Z h o0 "com/example/vellum_index/vellumindex/IntList" "size" "I" (.int (4 : Int32)) ∧ Fld Z h o0 "com/example/vellum_index/vellumindex/IntList" "values" "[I" (.ref w1_values) ∧ Exa Z h w1_values "[I" ∧ Arv Z h w1_values kA .int (4 : Int32) [(.int w10_e), (.int w11_e), (.int w12_e), (.int p1)] (.int (0 : Int32))
set_option maxRecDepth 65536 in
set_option maxHeartbeats 40000000 in
theorem rmadd3 (l : Launch) (Z : State) (a0 : Array Value) (hw : ∀ d ∈ tables_1, d.before a0 Z = true) (ws : List Jvm.Cond) (o0 : Addr) (p1 : Int32) (w1_values : Addr) (w10_e : Int32) (w11_e : Int32) (w12_e : Int32) (w13_e : Int32) (kA : ClassId) (h0 : Heap) (n0 : Nat) (Z0 : n0 ≤ h0.size) (E_o0 : Exa Z h0 o0 "com/example/vellum_index/vellumindex/IntList") (F_size_o0 : Fld Z h0 o0 "com/example/vellum_index/vellumindex/IntList" "size" "I" (.int (3 : Int32))) (F_values_o0 : Fld Z h0 o0 "com/example/vellum_index/vellumindex/IntList" "values" "[I" (.ref w1_values)) (E_w1_values : Exa Z h0 w1_values "[I") (V_w1_values : Arv Z h0 w1_values kA .int (4 : Int32) [(.int w10_e), (.int w11_e), (.int w12_e), (.int w13_e)] (.int (0 : Int32))) (g_o0 : n0 ≤ o0) (ne_w1_values_o0 : w1_values ≠ o0) (g_w1_values : n0 ≤ w1_values) :
    MetFree l (⟨"com/example/vellum_index/vellumindex/IntList", "add", "(I)V"⟩ : MethodName) (head1 (Jvm.Cond.code (⟨"com/example/vellum_index/vellumindex/IntList", "add", "(I)V"⟩ : MethodName) prog_8_method_2_code 2 none :: ws) ({ frames := 0, cells := 0, slots := 0, locals := 0 } : Room)) (fun a U => a = #[(.ref o0), (.int p1)] ∧ Z.Warmed39 U.vm ∧ U.heap = h0) (fun _ _ _ _ _ => True) (fun _ U o U' => ∃ v L, o = .returned v ∧ Qadd3 Z o0 p1 w1_values w10_e w11_e w12_e w13_e kA h0 n0 v U'.heap L ∧ FrameEnd U o U' L ({ frames := 0, cells := 0, slots := 0, locals := 0 } : Room).cells ({ frames := 0, cells := 0, slots := 0, locals := 0 } : Room).slots) := by
  refine MetFree.of_bodySF (plainFor_of_name pn_com_example_vellum_index_vellumindex_IntList) hisR ?_
  intro p e s m args below meth c s₁ Bd hml0 hP hK
  obtain ⟨rfl, hZ, hh⟩ := hP
  have hx := Bd.exec
  have hby := Bd.bytes
  have hml : c.maxLocals = 2 := hml0
  have hown : s.vm.findClass "com/example/vellum_index/vellumindex/IntList" = some m.cls := findClass_of_methodNamed Bd.named
  have hnm := (name_of_methodNamed Bd.named Bd.method).1
  have hlk := BodyLoose.notSynchronized Bd
  have X0 : Stand p l e ({ frames := 0, cells := 0, slots := 0, locals := 0 } : Room) s m #[(.ref o0), (.int p1)] below meth c s₁ [] 0 0 := Stand.of_body Bd
  have e0 : s₁.heap = h0 := by rw [← hh, Bd.state]; rfl
  have N0 := Fr.nil n0
  have pre0 : ∀ t, Steps p.tables e below (s₁.setTop (mkF m 0 #[.val (.ref o0), .val (.int p1)] [])) t → Steps p.tables e below (s₁.setTop (entryFrame m #[(.ref o0), (.int p1)] 2)) t := fun t k => castTop (ef_add3 m o0 p1) k
  obtain ⟨T1, X1, e1, st1⟩ := getF X0 hx hZ hown (host := "") (Or.inl (hw _ (List.mem_of_getElem? (i := 18) rfl))) Via.refl e0 F_size_o0 (g := (mkF m 1 #[.val (.ref o0), .val (.int p1)] [(.ref o0)])) rfl rfl (hb hby d3_1)
  obtain ⟨T2, X2, e2, st2⟩ := getF X1 hx hZ hown (host := "") (Or.inl (hw _ (List.mem_of_getElem? (i := 11) rfl))) Via.refl e1 F_values_o0 (g := (mkF m 5 #[.val (.ref o0), .val (.int p1)] [(.ref o0), (.int (3 : Int32))])) rfl rfl (hb hby d3_5)
  obtain ⟨cl3, Ar3, qc3, S3, M3, Ha3, G3⟩ := id V_w1_values
  obtain ⟨T4, X4, e4, st4⟩ := getF X2 hx hZ hown (host := "") (Or.inl (hw _ (List.mem_of_getElem? (i := 11) rfl))) Via.refl e2 F_values_o0 (g := (mkF m 30 #[.val (.ref o0), .val (.int p1)] [(.ref o0)])) rfl rfl (hb hby d3_30)
  obtain ⟨T5, X5, e5, st5⟩ := getF X4 hx hZ hown (host := "") (Or.inl (hw _ (List.mem_of_getElem? (i := 18) rfl))) Via.refl e4 F_size_o0 (g := (mkF m 35 #[.val (.ref o0), .val (.int p1)] [(.ref o0), (.ref o0), (.ref w1_values)])) rfl rfl (hb hby d3_35)
  obtain ⟨T6, h6, X6, e6, W6, st6⟩ := putF X5 hx hZ hown (host := "") (Or.inl (hw _ (List.mem_of_getElem? (i := 18) rfl))) Via.refl e5 F_size_o0 E_o0 (Or.inl (hw _ (List.mem_of_getElem? (i := 19) rfl))) (hw _ (List.mem_of_getElem? (i := 3) rfl)) (ty := .int) (by decide) rfl rfl (g := (mkF m 41 #[.val (.ref o0), .val (.int p1)] [(.int (4 : Int32)), (.ref o0), (.int (3 : Int32)), (.ref w1_values)])) rfl rfl (hb hby d3_41)
  have Fw6 := F_size_o0.same W6
  have N6 := Fr.snoc X6 N0 g_o0
  have z7 : n0 ≤ h6.size := Nat.le_trans Z0 (Keep.of_wr W6).1
  have hs8 : h0.size ≤ h6.size := Nat.le_trans (Nat.le_refl h0.size) (Keep.of_wr W6).1
  have k9 := (V_w1_values.other W6 ne_w1_values_o0)
  obtain ⟨cl10, Ar10, qc10, S10, M10, Ha10, G10⟩ := id k9
  have hin11 : ¬ ((3 : Int32) < 0 ∨ cl10.slots.size ≤ ((3 : Int32)).toNatClampNeg) := inb_of S10 ⟨by decide, by decide⟩
  obtain ⟨T12, h12, X12, e12, W12, st12⟩ := stI X6 hx hZ e6 Ar10 (j := (3 : Int32)) hin11 (g := (mkF m 45 #[.val (.ref o0), .val (.int p1)] [(.int p1), (.int (3 : Int32)), (.ref w1_values)])) rfl rfl (hb hby d3_45)
  have V12 : Arv Z h12 w1_values kA .int (4 : Int32) [(.int w10_e), (.int w11_e), (.int w12_e), (.int p1)] (.int (0 : Int32)) := Arv.set Ar10 qc10 S10 M10 Ha10 G10 rfl W12 3 rfl (Nat.le_of_ble_eq_true rfl)
  have N12 := Fr.snoc X12 N6 g_w1_values
  have z13 : n0 ≤ h12.size := Nat.le_trans z7 (Keep.of_wr W12).1
  have hs14 : h0.size ≤ h12.size := Nat.le_trans hs8 (Keep.of_wr W12).1
  obtain ⟨fs, hr, hrun, hended, hW, hsame⟩ := X12.leave (v := none) (fun _ => rfl) hlk
  refine ⟨_, _, pre0 _ ?_, hrun, hended, _, _, rfl, ?_, ⟨_, rfl⟩, hW, hsame.mono (by decide) (by decide)⟩
  · skip
    show Steps p.tables e below (s₁.setTop (mkF m 0 #[.val (.ref o0), .val (.int p1)] [])) _
    refine XS.aloadN X0.here hx rfl (hb hby d3_0) rfl rfl ?_
    show Steps p.tables e below (s₁.setTop (mkF m 1 #[.val (.ref o0), .val (.int p1)] [(.ref o0)])) _
    refine st1 _ ?_
    show Steps p.tables e below (T1.setTop (mkF m 4 #[.val (.ref o0), .val (.int p1)] [(.int (3 : Int32))])) _
    refine XS.aloadN X1.here hx rfl (hb hby d3_4) rfl rfl ?_
    show Steps p.tables e below (T1.setTop (mkF m 5 #[.val (.ref o0), .val (.int p1)] [(.ref o0), (.int (3 : Int32))])) _
    refine st2 _ ?_
    show Steps p.tables e below (T2.setTop (mkF m 8 #[.val (.ref o0), .val (.int p1)] [(.ref w1_values), (.int (3 : Int32))])) _
    refine X2.arraylength hx (by rw [e2]; exact Ar3.1) (State.isArrayOf_alike hZ.alike Ar3.2.1) (g := (mkF m 8 #[.val (.ref o0), .val (.int p1)] [(.ref w1_values), (.int (3 : Int32))])) rfl rfl (hb hby d3_8) _ ?_
    rw [len_of S3 M3]
    show Steps p.tables e below (T2.setTop (mkF m 9 #[.val (.ref o0), .val (.int p1)] [(.int (4 : Int32)), (.int (3 : Int32))])) _
    refine XS.icmpYes X2.here hx rfl (pc0 := 9) (pc' := 29) rfl (hb hby d3_9) rfl (XT.ii_ne_t (by decide)) (by decide) (by decide) ?_
    show Steps p.tables e below (T2.setTop (mkF m 29 #[.val (.ref o0), .val (.int p1)] [])) _
    refine XS.aloadN X2.here hx rfl (hb hby d3_29) rfl rfl ?_
    show Steps p.tables e below (T2.setTop (mkF m 30 #[.val (.ref o0), .val (.int p1)] [(.ref o0)])) _
    refine st4 _ ?_
    show Steps p.tables e below (T4.setTop (mkF m 33 #[.val (.ref o0), .val (.int p1)] [(.ref w1_values)])) _
    refine XS.aloadN X4.here hx rfl (hb hby d3_33) rfl rfl ?_
    show Steps p.tables e below (T4.setTop (mkF m 34 #[.val (.ref o0), .val (.int p1)] [(.ref o0), (.ref w1_values)])) _
    refine XS.dup X4.here hx rfl (hb hby d3_34) rfl rfl ?_
    show Steps p.tables e below (T4.setTop (mkF m 35 #[.val (.ref o0), .val (.int p1)] [(.ref o0), (.ref o0), (.ref w1_values)])) _
    refine st5 _ ?_
    show Steps p.tables e below (T5.setTop (mkF m 38 #[.val (.ref o0), .val (.int p1)] [(.int (3 : Int32)), (.ref o0), (.ref w1_values)])) _
    refine XT.dupX1 X5.here hx rfl (hb hby d3_38) rfl rfl rfl ?_
    show Steps p.tables e below (T5.setTop (mkF m 39 #[.val (.ref o0), .val (.int p1)] [(.int (3 : Int32)), (.ref o0), (.int (3 : Int32)), (.ref w1_values)])) _
    refine XT.iconstV X5.here hx rfl (1 : Int32) (hb hby d3_39) (by decide) ?_
    show Steps p.tables e below (T5.setTop (mkF m 40 #[.val (.ref o0), .val (.int p1)] [(.int (1 : Int32)), (.int (3 : Int32)), (.ref o0), (.int (3 : Int32)), (.ref w1_values)])) _
    refine XS.iadd X5.here hx rfl (hb hby d3_40) rfl ?_
    show Steps p.tables e below (T5.setTop (mkF m 41 #[.val (.ref o0), .val (.int p1)] [(.int (4 : Int32)), (.ref o0), (.int (3 : Int32)), (.ref w1_values)])) _
    refine st6 _ ?_
    show Steps p.tables e below (T6.setTop (mkF m 44 #[.val (.ref o0), .val (.int p1)] [(.int (3 : Int32)), (.ref w1_values)])) _
    refine XS.iloadN X6.here hx rfl (hb hby d3_44) rfl ?_
    show Steps p.tables e below (T6.setTop (mkF m 45 #[.val (.ref o0), .val (.int p1)] [(.int p1), (.int (3 : Int32)), (.ref w1_values)])) _
    refine st12 _ ?_
    show Steps p.tables e below (T12.setTop (mkF m 46 #[.val (.ref o0), .val (.int p1)] [])) _
    exact X12.returnOut hx Bd.returns (hb hby d3_46) hr
  · skip
    show Qadd3 Z o0 p1 w1_values w10_e w11_e w12_e w13_e kA h0 n0 _ T12.heap _
    rw [e12]
    have k15 := ((E_o0.wr W6).wr W12)
    have k16 := (Fw6.other W12 (Or.inl (Ne.symm ne_w1_values_o0)))
    have k17 := ((F_values_o0.other W6 (Or.inr (slot_ne (Or.inl (hw _ (List.mem_of_getElem? (i := 12) rfl))) (Or.inl (hw _ (List.mem_of_getElem? (i := 19) rfl))) (by decide) (t := (.array .int)) (t' := .int) (by decide) (by decide)))).other W12 (Or.inl (Ne.symm ne_w1_values_o0)))
    have k18 := ((E_w1_values.wr W6).wr W12)
    exact ⟨N12, rfl, (((Keep.refl h0 [o0, w1_values]).wr W6 (Or.inl (List.mem_of_getElem? (i := 0) rfl))).wr W12 (Or.inl (List.mem_of_getElem? (i := 1) rfl))), k15, k16, k17, k18, V12⟩
theorem pd___II__I : parseMethodDescriptor "([II)[I" = some ⟨[(.array .int), .int], some (.array .int)⟩ := by decide +kernel
theorem d3_12 : decode prog_8_method_2_code 12 = .ok (.aload_n 0, 1) := by decide +kernel
theorem d3_13 : decode prog_8_method_2_code 13 = .ok (.aload_n 0, 1) := by decide +kernel
theorem d3_14 : decode prog_8_method_2_code 14 = .ok (.getfield 7, 3) := by decide +kernel
theorem d3_17 : decode prog_8_method_2_code 17 = .ok (.iconst 2, 1) := by decide +kernel
theorem d3_18 : decode prog_8_method_2_code 18 = .ok (.aload_n 0, 1) := by decide +kernel
theorem d3_19 : decode prog_8_method_2_code 19 = .ok (.getfield 13, 3) := by decide +kernel
theorem d3_22 : decode prog_8_method_2_code 22 = .ok (.imul, 1) := by decide +kernel
theorem d3_23 : decode prog_8_method_2_code 23 = .ok (.invokestatic 17, 3) := by decide +kernel
theorem d3_26 : decode prog_8_method_2_code 26 = .ok (.putfield 7, 3) := by decide +kernel
theorem ef_add4 (m : MethodId) (o0 : Addr) (p1 : Int32) : entryFrame m #[(.ref o0), (.int p1)] 2 = mkF m 0 #[.val (.ref o0), .val (.int p1)] [] := by first | (simp [entryFrame, mkF, argsToLocals, Value.category]; done) | rfl
def Qadd4 (Z : State) (o0 : Addr) (p1 : Int32) (w1_values : Addr) (w10_e : Int32) (w11_e : Int32) (w12_e : Int32) (w13_e : Int32) (kA : ClassId) (h0 : Heap) (n0 : Nat) (v : Option Value) (h : Heap) (L : List Loc) : Prop := Fr n0 L ∧ ∃ (xadd4_0 : Addr) (kadd4_1 : ClassId), v = none ∧ h0.size ≤ xadd4_0 ∧ Keep h0 h [o0] ∧ Exa Z h o0 "com/example/vellum_index/vellumindex/IntList" ∧ Fld Z h o0 "com/example/vellum_index/vellumindex/IntList" "size" "I" (.int (5 : Int32)) ∧ Fld Z h o0 "com/example/vellum_index/vellumindex/IntList" "values" "[I" (.ref xadd4_0) ∧ Exa Z h xadd4_0 "[I" ∧ Arv Z h xadd4_0 kadd4_1 .int (8 : Int32) [(.int w10_e), (.int w11_e), (.int w12_e), (.int w13_e), (.int p1), (.int (0 : Int32)), (.int (0 : Int32)), (.int (0 : Int32))] (.int (0 : Int32))
set_option maxRecDepth 65536 in
set_option maxHeartbeats 40000000 in
theorem rmadd4 (l : Launch) (Z : State) (a0 : Array Value) (hw : ∀ d ∈ tables_1, d.before a0 Z = true) (ws : List Jvm.Cond) (o0 : Addr) (p1 : Int32) (w1_values : Addr) (w10_e : Int32) (w11_e : Int32) (w12_e : Int32) (w13_e : Int32) (kA : ClassId) (h0 : Heap) (n0 : Nat) (Z0 : n0 ≤ h0.size) (E_o0 : Exa Z h0 o0 "com/example/vellum_index/vellumindex/IntList") (F_size_o0 : Fld Z h0 o0 "com/example/vellum_index/vellumindex/IntList" "size" "I" (.int (4 : Int32))) (F_values_o0 : Fld Z h0 o0 "com/example/vellum_index/vellumindex/IntList" "values" "[I" (.ref w1_values)) (E_w1_values : Exa Z h0 w1_values "[I") (V_w1_values : Arv Z h0 w1_values kA .int (4 : Int32) [(.int w10_e), (.int w11_e), (.int w12_e), (.int w13_e)] (.int (0 : Int32))) (g_o0 : n0 ≤ o0) :
    MetFree l (⟨"com/example/vellum_index/vellumindex/IntList", "add", "(I)V"⟩ : MethodName) (head1 (Jvm.Cond.code (⟨"com/example/vellum_index/vellumindex/IntList", "add", "(I)V"⟩ : MethodName) prog_8_method_2_code 2 none :: ws) ({ frames := 2, cells := 1, slots := 8, locals := 33 } : Room)) (fun a U => a = #[(.ref o0), (.int p1)] ∧ Z.Warmed39 U.vm ∧ U.heap = h0) (fun _ _ _ _ _ => True) (fun _ U o U' => ∃ v L, o = .returned v ∧ Qadd4 Z o0 p1 w1_values w10_e w11_e w12_e w13_e kA h0 n0 v U'.heap L ∧ FrameEnd U o U' L ({ frames := 2, cells := 1, slots := 8, locals := 33 } : Room).cells ({ frames := 2, cells := 1, slots := 8, locals := 33 } : Room).slots) := by
  refine MetFree.of_bodySF (plainFor_of_name pn_com_example_vellum_index_vellumindex_IntList) hisR ?_
  intro p e s m args below meth c s₁ Bd hml0 hP hK
  obtain ⟨rfl, hZ, hh⟩ := hP
  have hx := Bd.exec
  have hby := Bd.bytes
  have hml : c.maxLocals = 2 := hml0
  have hown : s.vm.findClass "com/example/vellum_index/vellumindex/IntList" = some m.cls := findClass_of_methodNamed Bd.named
  have hnm := (name_of_methodNamed Bd.named Bd.method).1
  have hlk := BodyLoose.notSynchronized Bd
  have X0 : Stand p l e ({ frames := 2, cells := 1, slots := 8, locals := 33 } : Room) s m #[(.ref o0), (.int p1)] below meth c s₁ [] 0 0 := Stand.of_body Bd
  have e0 : s₁.heap = h0 := by rw [← hh, Bd.state]; rfl
  have N0 := Fr.nil n0
  have pre0 : ∀ t, Steps p.tables e below (s₁.setTop (mkF m 0 #[.val (.ref o0), .val (.int p1)] [])) t → Steps p.tables e below (s₁.setTop (entryFrame m #[(.ref o0), (.int p1)] 2)) t := fun t k => castTop (ef_add4 m o0 p1) k
  obtain ⟨T1, X1, e1, st1⟩ := getF X0 hx hZ hown (host := "") (Or.inl (hw _ (List.mem_of_getElem? (i := 18) rfl))) Via.refl e0 F_size_o0 (g := (mkF m 1 #[.val (.ref o0), .val (.int p1)] [(.ref o0)])) rfl rfl (hb hby d3_1)
  obtain ⟨T2, X2, e2, st2⟩ := getF X1 hx hZ hown (host := "") (Or.inl (hw _ (List.mem_of_getElem? (i := 11) rfl))) Via.refl e1 F_values_o0 (g := (mkF m 5 #[.val (.ref o0), .val (.int p1)] [(.ref o0), (.int (4 : Int32))])) rfl rfl (hb hby d3_5)
  obtain ⟨cl3, Ar3, qc3, S3, M3, Ha3, G3⟩ := id V_w1_values
  obtain ⟨T4, X4, e4, st4⟩ := getF X2 hx hZ hown (host := "") (Or.inl (hw _ (List.mem_of_getElem? (i := 11) rfl))) Via.refl e2 F_values_o0 (g := (mkF m 14 #[.val (.ref o0), .val (.int p1)] [(.ref o0), (.ref o0)])) rfl rfl (hb hby d3_14)
  obtain ⟨T5, X5, e5, st5⟩ := getF X4 hx hZ hown (host := "") (Or.inl (hw _ (List.mem_of_getElem? (i := 18) rfl))) Via.refl e4 F_size_o0 (g := (mkF m 19 #[.val (.ref o0), .val (.int p1)] [(.ref o0), (.int (2 : Int32)), (.ref w1_values), (.ref o0)])) rfl rfl (hb hby d3_19)
  obtain ⟨vr6, _, ⟨T6, L6, k6, n6⟩, -, X6, ⟨Lc6, hQ6, l6, y6, z6⟩, st6⟩ := Jvm.LawKit.callS X5 hx (y := (⟨"java/util/Arrays", "copyOf", "([II)[I"⟩ : MethodName)) hown (mvT hZ (hw _ (List.mem_of_getElem? (i := 30) rfl))) (mvT hZ (hw _ (List.mem_of_getElem? (i := 31) rfl))) (mvT hZ (hw _ (List.mem_of_getElem? (i := 32) rfl))) (mvT hZ (hw _ (List.mem_of_getElem? (i := 33) rfl))) (by decide) (backOf (W := 1) (rmcp4_8 l Z a0 hw [] w1_values w10_e w11_e w12_e w13_e kA h0 n0 Z0 E_w1_values V_w1_values) hZ (hw _ (List.mem_of_getElem? (i := 33) rfl)) (hw _ (List.mem_of_getElem? (i := 32) rfl)) (by decide) (by decide)) (g := (mkF m 23 #[.val (.ref o0), .val (.int p1)] [(.int (8 : Int32)), (.ref w1_values), (.ref o0)])) rfl (by rw [hml]; rfl) (argsL := [(.ref w1_values), (.int (8 : Int32))]) (rest := [(.ref o0)]) (lenOf pd___II__I rfl) rfl (by show 2 * 0 + _ ≤ _; exact Nat.le_of_eq rfl) (hb hby d3_23) (fun _ _ => ⟨rfl, e5, (by decide : 0 + 1 ≤ _), (by decide : 0 + 8 ≤ _)⟩)
  dsimp only [Pt.U, Pt.locs, Pt.cells, Pt.slots] at X6 l6 y6 z6 st6 hQ6
  subst l6 y6 z6
  have N6q := (show _ ∧ _ from hQ6).1
  have hq6 := (show _ ∧ _ from hQ6).2
  clear hQ6
  obtain ⟨xcp4_8_0_6, kcp4_8_1_6, hq6x⟩ := hq6
  have hv6 := hq6x.1
  have szxcp4_8_0_6 := hq6x.2.1
  have K6 := hq6x.2.2.1
  have po6_0 := hq6x.2.2.2.1
  have po6_1 := hq6x.2.2.2.2
  clear hq6x
  subst hv6
  have ne7 : o0 ≠ xcp4_8_0_6 := Nat.ne_of_lt (Nat.lt_of_lt_of_le E_o0.lt szxcp4_8_0_6)
  have ne8 : w1_values ≠ xcp4_8_0_6 := Nat.ne_of_lt (Nat.lt_of_lt_of_le E_w1_values.lt szxcp4_8_0_6)
  have g9 : n0 ≤ xcp4_8_0_6 := Nat.le_trans Z0 szxcp4_8_0_6
  have sz10 : h0.size ≤ xcp4_8_0_6 := Nat.le_trans (Nat.le_refl h0.size) szxcp4_8_0_6
  have z11 : n0 ≤ T6.heap.size := Nat.le_trans Z0 K6.1
  have hs12 : h0.size ≤ T6.heap.size := Nat.le_trans (Nat.le_refl h0.size) K6.1
  have N6 := Fr.app N0 N6q
  have k13 := (F_values_o0.keep K6 nin0)
  have k14 := (E_o0.keep K6)
  obtain ⟨T15, h15, X15, e15, W15, st15⟩ := putF X6 hx hZ hown (host := "") (Or.inl (hw _ (List.mem_of_getElem? (i := 11) rfl))) Via.refl rfl k13 k14 (Or.inl (hw _ (List.mem_of_getElem? (i := 12) rfl))) (hw _ (List.mem_of_getElem? (i := 3) rfl)) (ty := (.array .int)) (by decide) rfl rfl (g := (mkF m 26 #[.val (.ref o0), .val (.int p1)] [(.ref xcp4_8_0_6), (.ref o0)])) rfl rfl (hb hby d3_26)
  have Fw15 := k13.same W15
  have N15 := Fr.snoc X15 N6 g_o0
  have z16 : n0 ≤ h15.size := Nat.le_trans z11 (Keep.of_wr W15).1
  have hs17 : h0.size ≤ h15.size := Nat.le_trans hs12 (Keep.of_wr W15).1
  obtain ⟨T18, X18, e18, st18⟩ := getF X15 hx hZ hown (host := "") (Or.inl (hw _ (List.mem_of_getElem? (i := 11) rfl))) Via.refl e15 Fw15 (g := (mkF m 30 #[.val (.ref o0), .val (.int p1)] [(.ref o0)])) rfl rfl (hb hby d3_30)
  have k19 := ((F_size_o0.keep K6 nin0).other W15 (Or.inr (slot_ne (Or.inl (hw _ (List.mem_of_getElem? (i := 19) rfl))) (Or.inl (hw _ (List.mem_of_getElem? (i := 12) rfl))) (by decide) (t := .int) (t' := (.array .int)) (by decide) (by decide))))
  obtain ⟨T20, X20, e20, st20⟩ := getF X18 hx hZ hown (host := "") (Or.inl (hw _ (List.mem_of_getElem? (i := 18) rfl))) Via.refl e18 k19 (g := (mkF m 35 #[.val (.ref o0), .val (.int p1)] [(.ref o0), (.ref o0), (.ref xcp4_8_0_6)])) rfl rfl (hb hby d3_35)
  have k21 := (k14.wr W15)
  obtain ⟨T22, h22, X22, e22, W22, st22⟩ := putF X20 hx hZ hown (host := "") (Or.inl (hw _ (List.mem_of_getElem? (i := 18) rfl))) Via.refl e20 k19 k21 (Or.inl (hw _ (List.mem_of_getElem? (i := 19) rfl))) (hw _ (List.mem_of_getElem? (i := 3) rfl)) (ty := .int) (by decide) rfl rfl (g := (mkF m 41 #[.val (.ref o0), .val (.int p1)] [(.int (5 : Int32)), (.ref o0), (.int (4 : Int32)), (.ref xcp4_8_0_6)])) rfl rfl (hb hby d3_41)
  have Fw22 := k19.same W22
  have N22 := Fr.snoc X22 N15 g_o0
  have z23 : n0 ≤ h22.size := Nat.le_trans z16 (Keep.of_wr W22).1
  have hs24 : h0.size ≤ h22.size := Nat.le_trans hs17 (Keep.of_wr W22).1
  have k25 := ((po6_1.other W15 (Ne.symm ne7)).other W22 (Ne.symm ne7))
  obtain ⟨cl26, Ar26, qc26, S26, M26, Ha26, G26⟩ := id k25
  have hin27 : ¬ ((4 : Int32) < 0 ∨ cl26.slots.size ≤ ((4 : Int32)).toNatClampNeg) := inb_of S26 ⟨by decide, by decide⟩
  obtain ⟨T28, h28, X28, e28, W28, st28⟩ := stI X22 hx hZ e22 Ar26 (j := (4 : Int32)) hin27 (g := (mkF m 45 #[.val (.ref o0), .val (.int p1)] [(.int p1), (.int (4 : Int32)), (.ref xcp4_8_0_6)])) rfl rfl (hb hby d3_45)
  have V28 : Arv Z h28 xcp4_8_0_6 kcp4_8_1_6 .int (8 : Int32) [(.int w10_e), (.int w11_e), (.int w12_e), (.int w13_e), (.int p1), (.int (0 : Int32)), (.int (0 : Int32)), (.int (0 : Int32))] (.int (0 : Int32)) := Arv.set Ar26 qc26 S26 M26 Ha26 G26 rfl W28 4 rfl (Nat.le_of_ble_eq_true rfl)
  have N28 := Fr.snoc X28 N22 g9
  have z29 : n0 ≤ h28.size := Nat.le_trans z23 (Keep.of_wr W28).1
  have hs30 : h0.size ≤ h28.size := Nat.le_trans hs24 (Keep.of_wr W28).1
  obtain ⟨fs, hr, hrun, hended, hW, hsame⟩ := X28.leave (v := none) (fun _ => rfl) hlk
  refine ⟨_, _, pre0 _ ?_, hrun, hended, _, _, rfl, ?_, ⟨_, rfl⟩, hW, hsame.mono (by decide) (by decide)⟩
  · skip
    show Steps p.tables e below (s₁.setTop (mkF m 0 #[.val (.ref o0), .val (.int p1)] [])) _
    refine XS.aloadN X0.here hx rfl (hb hby d3_0) rfl rfl ?_
    show Steps p.tables e below (s₁.setTop (mkF m 1 #[.val (.ref o0), .val (.int p1)] [(.ref o0)])) _
    refine st1 _ ?_
    show Steps p.tables e below (T1.setTop (mkF m 4 #[.val (.ref o0), .val (.int p1)] [(.int (4 : Int32))])) _
    refine XS.aloadN X1.here hx rfl (hb hby d3_4) rfl rfl ?_
    show Steps p.tables e below (T1.setTop (mkF m 5 #[.val (.ref o0), .val (.int p1)] [(.ref o0), (.int (4 : Int32))])) _
    refine st2 _ ?_
    show Steps p.tables e below (T2.setTop (mkF m 8 #[.val (.ref o0), .val (.int p1)] [(.ref w1_values), (.int (4 : Int32))])) _
    refine X2.arraylength hx (by rw [e2]; exact Ar3.1) (State.isArrayOf_alike hZ.alike Ar3.2.1) (g := (mkF m 8 #[.val (.ref o0), .val (.int p1)] [(.ref w1_values), (.int (4 : Int32))])) rfl rfl (hb hby d3_8) _ ?_
    rw [len_of S3 M3]
    show Steps p.tables e below (T2.setTop (mkF m 9 #[.val (.ref o0), .val (.int p1)] [(.int (4 : Int32)), (.int (4 : Int32))])) _
    refine XS.icmpNo X2.here hx rfl (hb hby d3_9) rfl (XT.ii_ne_f (by decide)) ?_
    show Steps p.tables e below (T2.setTop (mkF m 12 #[.val (.ref o0), .val (.int p1)] [])) _
    refine XS.aloadN X2.here hx rfl (hb hby d3_12) rfl rfl ?_
    show Steps p.tables e below (T2.setTop (mkF m 13 #[.val (.ref o0), .val (.int p1)] [(.ref o0)])) _
    refine XS.aloadN X2.here hx rfl (hb hby d3_13) rfl rfl ?_
    show Steps p.tables e below (T2.setTop (mkF m 14 #[.val (.ref o0), .val (.int p1)] [(.ref o0), (.ref o0)])) _
    refine st4 _ ?_
    show Steps p.tables e below (T4.setTop (mkF m 17 #[.val (.ref o0), .val (.int p1)] [(.ref w1_values), (.ref o0)])) _
    refine XT.iconstV X4.here hx rfl (2 : Int32) (hb hby d3_17) (by decide) ?_
    show Steps p.tables e below (T4.setTop (mkF m 18 #[.val (.ref o0), .val (.int p1)] [(.int (2 : Int32)), (.ref w1_values), (.ref o0)])) _
    refine XS.aloadN X4.here hx rfl (hb hby d3_18) rfl rfl ?_
    show Steps p.tables e below (T4.setTop (mkF m 19 #[.val (.ref o0), .val (.int p1)] [(.ref o0), (.int (2 : Int32)), (.ref w1_values), (.ref o0)])) _
    refine st5 _ ?_
    show Steps p.tables e below (T5.setTop (mkF m 22 #[.val (.ref o0), .val (.int p1)] [(.int (4 : Int32)), (.int (2 : Int32)), (.ref w1_values), (.ref o0)])) _
    refine XS.imul X5.here hx rfl (hb hby d3_22) rfl ?_
    show Steps p.tables e below (T5.setTop (mkF m 23 #[.val (.ref o0), .val (.int p1)] [(.int (8 : Int32)), (.ref w1_values), (.ref o0)])) _
    refine st6 _ ?_
    show Steps p.tables e below (T6.setTop (mkF m 26 #[.val (.ref o0), .val (.int p1)] [(.ref xcp4_8_0_6), (.ref o0)])) _
    refine st15 _ ?_
    show Steps p.tables e below (T15.setTop (mkF m 29 #[.val (.ref o0), .val (.int p1)] [])) _
    refine XS.aloadN X15.here hx rfl (hb hby d3_29) rfl rfl ?_
    show Steps p.tables e below (T15.setTop (mkF m 30 #[.val (.ref o0), .val (.int p1)] [(.ref o0)])) _
    refine st18 _ ?_
    show Steps p.tables e below (T18.setTop (mkF m 33 #[.val (.ref o0), .val (.int p1)] [(.ref xcp4_8_0_6)])) _
    refine XS.aloadN X18.here hx rfl (hb hby d3_33) rfl rfl ?_
    show Steps p.tables e below (T18.setTop (mkF m 34 #[.val (.ref o0), .val (.int p1)] [(.ref o0), (.ref xcp4_8_0_6)])) _
    refine XS.dup X18.here hx rfl (hb hby d3_34) rfl rfl ?_
    show Steps p.tables e below (T18.setTop (mkF m 35 #[.val (.ref o0), .val (.int p1)] [(.ref o0), (.ref o0), (.ref xcp4_8_0_6)])) _
    refine st20 _ ?_
    show Steps p.tables e below (T20.setTop (mkF m 38 #[.val (.ref o0), .val (.int p1)] [(.int (4 : Int32)), (.ref o0), (.ref xcp4_8_0_6)])) _
    refine XT.dupX1 X20.here hx rfl (hb hby d3_38) rfl rfl rfl ?_
    show Steps p.tables e below (T20.setTop (mkF m 39 #[.val (.ref o0), .val (.int p1)] [(.int (4 : Int32)), (.ref o0), (.int (4 : Int32)), (.ref xcp4_8_0_6)])) _
    refine XT.iconstV X20.here hx rfl (1 : Int32) (hb hby d3_39) (by decide) ?_
    show Steps p.tables e below (T20.setTop (mkF m 40 #[.val (.ref o0), .val (.int p1)] [(.int (1 : Int32)), (.int (4 : Int32)), (.ref o0), (.int (4 : Int32)), (.ref xcp4_8_0_6)])) _
    refine XS.iadd X20.here hx rfl (hb hby d3_40) rfl ?_
    show Steps p.tables e below (T20.setTop (mkF m 41 #[.val (.ref o0), .val (.int p1)] [(.int (5 : Int32)), (.ref o0), (.int (4 : Int32)), (.ref xcp4_8_0_6)])) _
    refine st22 _ ?_
    show Steps p.tables e below (T22.setTop (mkF m 44 #[.val (.ref o0), .val (.int p1)] [(.int (4 : Int32)), (.ref xcp4_8_0_6)])) _
    refine XS.iloadN X22.here hx rfl (hb hby d3_44) rfl ?_
    show Steps p.tables e below (T22.setTop (mkF m 45 #[.val (.ref o0), .val (.int p1)] [(.int p1), (.int (4 : Int32)), (.ref xcp4_8_0_6)])) _
    refine st28 _ ?_
    show Steps p.tables e below (T28.setTop (mkF m 46 #[.val (.ref o0), .val (.int p1)] [])) _
    exact X28.returnOut hx Bd.returns (hb hby d3_46) hr
  · skip
    show Qadd4 Z o0 p1 w1_values w10_e w11_e w12_e w13_e kA h0 n0 _ T28.heap _
    rw [e28]
    have k31 := ((k21.wr W22).wr W28)
    have k32 := (Fw22.other W28 (Or.inl ne7))
    have k33 := ((Fw15.other W22 (Or.inr (slot_ne (Or.inl (hw _ (List.mem_of_getElem? (i := 12) rfl))) (Or.inl (hw _ (List.mem_of_getElem? (i := 19) rfl))) (by decide) (t := (.array .int)) (t' := .int) (by decide) (by decide)))).other W28 (Or.inl ne7))
    have k34 := (((po6_0.wr W15).wr W22).wr W28)
    exact ⟨N28, xcp4_8_0_6, kcp4_8_1_6, rfl, sz10, (((((Keep.refl h0 [o0]).trans K6 all0).wr W15 (Or.inl (List.mem_of_getElem? (i := 0) rfl))).wr W22 (Or.inl (List.mem_of_getElem? (i := 0) rfl))).wr W28 (Or.inr sz10)), k31, k32, k33, k34, V28⟩
theorem ef_add5 (m : MethodId) (o0 : Addr) (p1 : Int32) : entryFrame m #[(.ref o0), (.int p1)] 2 = mkF m 0 #[.val (.ref o0), .val (.int p1)] [] := by first | (simp [entryFrame, mkF, argsToLocals, Value.category]; done) | rfl
def Qadd5 (Z : State) (o0 : Addr) (p1 : Int32) (w1_values : Addr) (w10_e : Int32) (w11_e : Int32) (w12_e : Int32) (w13_e : Int32) (w14_e : Int32) (w15_e : Int32) (w16_e : Int32) (w17_e : Int32) (kA : ClassId) (h0 : Heap) (n0 : Nat) (v : Option Value) (h : Heap) (L : List Loc) : Prop := Fr n0 L ∧ v = none ∧ Keep h0 h [o0, w1_values] ∧ Exa Z h o0 "com/example/vellum_index/vellumindex/IntList" ∧ Fld Z h o0 "com/example/vellum_index/vellumindex/IntList" "size" "I" (.int (6 : Int32)) ∧ Fld Z h o0 "com/example/vellum_index/vellumindex/IntList" "values" "[I" (.ref w1_values) ∧ Exa Z h w1_values "[I" ∧ Arv Z h w1_values kA .int (8 : Int32) [(.int w10_e), (.int w11_e), (.int w12_e), (.int w13_e), (.int w14_e), (.int p1), (.int w16_e), (.int w17_e)] (.int (0 : Int32))
set_option maxRecDepth 65536 in
set_option maxHeartbeats 40000000 in
theorem rmadd5 (l : Launch) (Z : State) (a0 : Array Value) (hw : ∀ d ∈ tables_1, d.before a0 Z = true) (ws : List Jvm.Cond) (o0 : Addr) (p1 : Int32) (w1_values : Addr) (w10_e : Int32) (w11_e : Int32) (w12_e : Int32) (w13_e : Int32) (w14_e : Int32) (w15_e : Int32) (w16_e : Int32) (w17_e : Int32) (kA : ClassId) (h0 : Heap) (n0 : Nat) (Z0 : n0 ≤ h0.size) (E_o0 : Exa Z h0 o0 "com/example/vellum_index/vellumindex/IntList") (F_size_o0 : Fld Z h0 o0 "com/example/vellum_index/vellumindex/IntList" "size" "I" (.int (5 : Int32))) (F_values_o0 : Fld Z h0 o0 "com/example/vellum_index/vellumindex/IntList" "values" "[I" (.ref w1_values)) (E_w1_values : Exa Z h0 w1_values "[I") (V_w1_values : Arv Z h0 w1_values kA .int (8 : Int32) [(.int w10_e), (.int w11_e), (.int w12_e), (.int w13_e), (.int w14_e), (.int w15_e), (.int w16_e), (.int w17_e)] (.int (0 : Int32))) (g_o0 : n0 ≤ o0) (ne_w1_values_o0 : w1_values ≠ o0) (g_w1_values : n0 ≤ w1_values) :
    MetFree l (⟨"com/example/vellum_index/vellumindex/IntList", "add", "(I)V"⟩ : MethodName) (head1 (Jvm.Cond.code (⟨"com/example/vellum_index/vellumindex/IntList", "add", "(I)V"⟩ : MethodName) prog_8_method_2_code 2 none :: ws) ({ frames := 0, cells := 0, slots := 0, locals := 0 } : Room)) (fun a U => a = #[(.ref o0), (.int p1)] ∧ Z.Warmed39 U.vm ∧ U.heap = h0) (fun _ _ _ _ _ => True) (fun _ U o U' => ∃ v L, o = .returned v ∧ Qadd5 Z o0 p1 w1_values w10_e w11_e w12_e w13_e w14_e w15_e w16_e w17_e kA h0 n0 v U'.heap L ∧ FrameEnd U o U' L ({ frames := 0, cells := 0, slots := 0, locals := 0 } : Room).cells ({ frames := 0, cells := 0, slots := 0, locals := 0 } : Room).slots) := by
  refine MetFree.of_bodySF (plainFor_of_name pn_com_example_vellum_index_vellumindex_IntList) hisR ?_
  intro p e s m args below meth c s₁ Bd hml0 hP hK
  obtain ⟨rfl, hZ, hh⟩ := hP
  have hx := Bd.exec
  have hby := Bd.bytes
  have hml : c.maxLocals = 2 := hml0
  have hown : s.vm.findClass "com/example/vellum_index/vellumindex/IntList" = some m.cls := findClass_of_methodNamed Bd.named
  have hnm := (name_of_methodNamed Bd.named Bd.method).1
  have hlk := BodyLoose.notSynchronized Bd
  have X0 : Stand p l e ({ frames := 0, cells := 0, slots := 0, locals := 0 } : Room) s m #[(.ref o0), (.int p1)] below meth c s₁ [] 0 0 := Stand.of_body Bd
  have e0 : s₁.heap = h0 := by rw [← hh, Bd.state]; rfl
  have N0 := Fr.nil n0
  have pre0 : ∀ t, Steps p.tables e below (s₁.setTop (mkF m 0 #[.val (.ref o0), .val (.int p1)] [])) t → Steps p.tables e below (s₁.setTop (entryFrame m #[(.ref o0), (.int p1)] 2)) t := fun t k => castTop (ef_add5 m o0 p1) k
  obtain ⟨T1, X1, e1, st1⟩ := getF X0 hx hZ hown (host := "") (Or.inl (hw _ (List.mem_of_getElem? (i := 18) rfl))) Via.refl e0 F_size_o0 (g := (mkF m 1 #[.val (.ref o0), .val (.int p1)] [(.ref o0)])) rfl rfl (hb hby d3_1)
  obtain ⟨T2, X2, e2, st2⟩ := getF X1 hx hZ hown (host := "") (Or.inl (hw _ (List.mem_of_getElem? (i := 11) rfl))) Via.refl e1 F_values_o0 (g := (mkF m 5 #[.val (.ref o0), .val (.int p1)] [(.ref o0), (.int (5 : Int32))])) rfl rfl (hb hby d3_5)
  obtain ⟨cl3, Ar3, qc3, S3, M3, Ha3, G3⟩ := id V_w1_values
  obtain ⟨T4, X4, e4, st4⟩ := getF X2 hx hZ hown (host := "") (Or.inl (hw _ (List.mem_of_getElem? (i := 11) rfl))) Via.refl e2 F_values_o0 (g := (mkF m 30 #[.val (.ref o0), .val (.int p1)] [(.ref o0)])) rfl rfl (hb hby d3_30)
  obtain ⟨T5, X5, e5, st5⟩ := getF X4 hx hZ hown (host := "") (Or.inl (hw _ (List.mem_of_getElem? (i := 18) rfl))) Via.refl e4 F_size_o0 (g := (mkF m 35 #[.val (.ref o0), .val (.int p1)] [(.ref o0), (.ref o0), (.ref w1_values)])) rfl rfl (hb hby d3_35)
  obtain ⟨T6, h6, X6, e6, W6, st6⟩ := putF X5 hx hZ hown (host := "") (Or.inl (hw _ (List.mem_of_getElem? (i := 18) rfl))) Via.refl e5 F_size_o0 E_o0 (Or.inl (hw _ (List.mem_of_getElem? (i := 19) rfl))) (hw _ (List.mem_of_getElem? (i := 3) rfl)) (ty := .int) (by decide) rfl rfl (g := (mkF m 41 #[.val (.ref o0), .val (.int p1)] [(.int (6 : Int32)), (.ref o0), (.int (5 : Int32)), (.ref w1_values)])) rfl rfl (hb hby d3_41)
  have Fw6 := F_size_o0.same W6
  have N6 := Fr.snoc X6 N0 g_o0
  have z7 : n0 ≤ h6.size := Nat.le_trans Z0 (Keep.of_wr W6).1
  have hs8 : h0.size ≤ h6.size := Nat.le_trans (Nat.le_refl h0.size) (Keep.of_wr W6).1
  have k9 := (V_w1_values.other W6 ne_w1_values_o0)
  obtain ⟨cl10, Ar10, qc10, S10, M10, Ha10, G10⟩ := id k9
  have hin11 : ¬ ((5 : Int32) < 0 ∨ cl10.slots.size ≤ ((5 : Int32)).toNatClampNeg) := inb_of S10 ⟨by decide, by decide⟩
  obtain ⟨T12, h12, X12, e12, W12, st12⟩ := stI X6 hx hZ e6 Ar10 (j := (5 : Int32)) hin11 (g := (mkF m 45 #[.val (.ref o0), .val (.int p1)] [(.int p1), (.int (5 : Int32)), (.ref w1_values)])) rfl rfl (hb hby d3_45)
  have V12 : Arv Z h12 w1_values kA .int (8 : Int32) [(.int w10_e), (.int w11_e), (.int w12_e), (.int w13_e), (.int w14_e), (.int p1), (.int w16_e), (.int w17_e)] (.int (0 : Int32)) := Arv.set Ar10 qc10 S10 M10 Ha10 G10 rfl W12 5 rfl (Nat.le_of_ble_eq_true rfl)
  have N12 := Fr.snoc X12 N6 g_w1_values
  have z13 : n0 ≤ h12.size := Nat.le_trans z7 (Keep.of_wr W12).1
  have hs14 : h0.size ≤ h12.size := Nat.le_trans hs8 (Keep.of_wr W12).1
  obtain ⟨fs, hr, hrun, hended, hW, hsame⟩ := X12.leave (v := none) (fun _ => rfl) hlk
  refine ⟨_, _, pre0 _ ?_, hrun, hended, _, _, rfl, ?_, ⟨_, rfl⟩, hW, hsame.mono (by decide) (by decide)⟩
  · skip
    show Steps p.tables e below (s₁.setTop (mkF m 0 #[.val (.ref o0), .val (.int p1)] [])) _
    refine XS.aloadN X0.here hx rfl (hb hby d3_0) rfl rfl ?_
    show Steps p.tables e below (s₁.setTop (mkF m 1 #[.val (.ref o0), .val (.int p1)] [(.ref o0)])) _
    refine st1 _ ?_
    show Steps p.tables e below (T1.setTop (mkF m 4 #[.val (.ref o0), .val (.int p1)] [(.int (5 : Int32))])) _
    refine XS.aloadN X1.here hx rfl (hb hby d3_4) rfl rfl ?_
    show Steps p.tables e below (T1.setTop (mkF m 5 #[.val (.ref o0), .val (.int p1)] [(.ref o0), (.int (5 : Int32))])) _
    refine st2 _ ?_
    show Steps p.tables e below (T2.setTop (mkF m 8 #[.val (.ref o0), .val (.int p1)] [(.ref w1_values), (.int (5 : Int32))])) _
    refine X2.arraylength hx (by rw [e2]; exact Ar3.1) (State.isArrayOf_alike hZ.alike Ar3.2.1) (g := (mkF m 8 #[.val (.ref o0), .val (.int p1)] [(.ref w1_values), (.int (5 : Int32))])) rfl rfl (hb hby d3_8) _ ?_
    rw [len_of S3 M3]
    show Steps p.tables e below (T2.setTop (mkF m 9 #[.val (.ref o0), .val (.int p1)] [(.int (8 : Int32)), (.int (5 : Int32))])) _
    refine XS.icmpYes X2.here hx rfl (pc0 := 9) (pc' := 29) rfl (hb hby d3_9) rfl (XT.ii_ne_t (by decide)) (by decide) (by decide) ?_
    show Steps p.tables e below (T2.setTop (mkF m 29 #[.val (.ref o0), .val (.int p1)] [])) _
    refine XS.aloadN X2.here hx rfl (hb hby d3_29) rfl rfl ?_
    show Steps p.tables e below (T2.setTop (mkF m 30 #[.val (.ref o0), .val (.int p1)] [(.ref o0)])) _
    refine st4 _ ?_
    show Steps p.tables e below (T4.setTop (mkF m 33 #[.val (.ref o0), .val (.int p1)] [(.ref w1_values)])) _
    refine XS.aloadN X4.here hx rfl (hb hby d3_33) rfl rfl ?_
    show Steps p.tables e below (T4.setTop (mkF m 34 #[.val (.ref o0), .val (.int p1)] [(.ref o0), (.ref w1_values)])) _
    refine XS.dup X4.here hx rfl (hb hby d3_34) rfl rfl ?_
    show Steps p.tables e below (T4.setTop (mkF m 35 #[.val (.ref o0), .val (.int p1)] [(.ref o0), (.ref o0), (.ref w1_values)])) _
    refine st5 _ ?_
    show Steps p.tables e below (T5.setTop (mkF m 38 #[.val (.ref o0), .val (.int p1)] [(.int (5 : Int32)), (.ref o0), (.ref w1_values)])) _
    refine XT.dupX1 X5.here hx rfl (hb hby d3_38) rfl rfl rfl ?_
    show Steps p.tables e below (T5.setTop (mkF m 39 #[.val (.ref o0), .val (.int p1)] [(.int (5 : Int32)), (.ref o0), (.int (5 : Int32)), (.ref w1_values)])) _
    refine XT.iconstV X5.here hx rfl (1 : Int32) (hb hby d3_39) (by decide) ?_
    show Steps p.tables e below (T5.setTop (mkF m 40 #[.val (.ref o0), .val (.int p1)] [(.int (1 : Int32)), (.int (5 : Int32)), (.ref o0), (.int (5 : Int32)), (.ref w1_values)])) _
    refine XS.iadd X5.here hx rfl (hb hby d3_40) rfl ?_
    show Steps p.tables e below (T5.setTop (mkF m 41 #[.val (.ref o0), .val (.int p1)] [(.int (6 : Int32)), (.ref o0), (.int (5 : Int32)), (.ref w1_values)])) _
    refine st6 _ ?_
    show Steps p.tables e below (T6.setTop (mkF m 44 #[.val (.ref o0), .val (.int p1)] [(.int (5 : Int32)), (.ref w1_values)])) _
    refine XS.iloadN X6.here hx rfl (hb hby d3_44) rfl ?_
    show Steps p.tables e below (T6.setTop (mkF m 45 #[.val (.ref o0), .val (.int p1)] [(.int p1), (.int (5 : Int32)), (.ref w1_values)])) _
    refine st12 _ ?_
    show Steps p.tables e below (T12.setTop (mkF m 46 #[.val (.ref o0), .val (.int p1)] [])) _
    exact X12.returnOut hx Bd.returns (hb hby d3_46) hr
  · skip
    show Qadd5 Z o0 p1 w1_values w10_e w11_e w12_e w13_e w14_e w15_e w16_e w17_e kA h0 n0 _ T12.heap _
    rw [e12]
    have k15 := ((E_o0.wr W6).wr W12)
    have k16 := (Fw6.other W12 (Or.inl (Ne.symm ne_w1_values_o0)))
    have k17 := ((F_values_o0.other W6 (Or.inr (slot_ne (Or.inl (hw _ (List.mem_of_getElem? (i := 12) rfl))) (Or.inl (hw _ (List.mem_of_getElem? (i := 19) rfl))) (by decide) (t := (.array .int)) (t' := .int) (by decide) (by decide)))).other W12 (Or.inl (Ne.symm ne_w1_values_o0)))
    have k18 := ((E_w1_values.wr W6).wr W12)
    exact ⟨N12, rfl, (((Keep.refl h0 [o0, w1_values]).wr W6 (Or.inl (List.mem_of_getElem? (i := 0) rfl))).wr W12 (Or.inl (List.mem_of_getElem? (i := 1) rfl))), k15, k16, k17, k18, V12⟩
theorem ef_add6 (m : MethodId) (o0 : Addr) (p1 : Int32) : entryFrame m #[(.ref o0), (.int p1)] 2 = mkF m 0 #[.val (.ref o0), .val (.int p1)] [] := by first | (simp [entryFrame, mkF, argsToLocals, Value.category]; done) | rfl
def Qadd6 (Z : State) (o0 : Addr) (p1 : Int32) (w1_values : Addr) (w10_e : Int32) (w11_e : Int32) (w12_e : Int32) (w13_e : Int32) (w14_e : Int32) (w15_e : Int32) (w16_e : Int32) (w17_e : Int32) (kA : ClassId) (h0 : Heap) (n0 : Nat) (v : Option Value) (h : Heap) (L : List Loc) : Prop := Fr n0 L ∧ v = none ∧ Keep h0 h [o0, w1_values] ∧ Exa Z h o0 "com/example/vellum_index/vellumindex/IntList" ∧ Fld Z h o0 "com/example/vellum_index/vellumindex/IntList" "size" "I" (.int (7 : Int32)) ∧ Fld Z h o0 "com/example/vellum_index/vellumindex/IntList" "values" "[I" (.ref w1_values) ∧ Exa Z h w1_values "[I" ∧ Arv Z h w1_values kA .int (8 : Int32) [(.int w10_e), (.int w11_e), (.int w12_e), (.int w13_e), (.int w14_e), (.int w15_e), (.int p1), (.int w17_e)] (.int (0 : Int32))
set_option maxRecDepth 65536 in
set_option maxHeartbeats 40000000 in
theorem rmadd6 (l : Launch) (Z : State) (a0 : Array Value) (hw : ∀ d ∈ tables_1, d.before a0 Z = true) (ws : List Jvm.Cond) (o0 : Addr) (p1 : Int32) (w1_values : Addr) (w10_e : Int32) (w11_e : Int32) (w12_e : Int32) (w13_e : Int32) (w14_e : Int32) (w15_e : Int32) (w16_e : Int32) (w17_e : Int32) (kA : ClassId) (h0 : Heap) (n0 : Nat) (Z0 : n0 ≤ h0.size) (E_o0 : Exa Z h0 o0 "com/example/vellum_index/vellumindex/IntList") (F_size_o0 : Fld Z h0 o0 "com/example/vellum_index/vellumindex/IntList" "size" "I" (.int (6 : Int32))) (F_values_o0 : Fld Z h0 o0 "com/example/vellum_index/vellumindex/IntList" "values" "[I" (.ref w1_values)) (E_w1_values : Exa Z h0 w1_values "[I") (V_w1_values : Arv Z h0 w1_values kA .int (8 : Int32) [(.int w10_e), (.int w11_e), (.int w12_e), (.int w13_e), (.int w14_e), (.int w15_e), (.int w16_e), (.int w17_e)] (.int (0 : Int32))) (g_o0 : n0 ≤ o0) (ne_w1_values_o0 : w1_values ≠ o0) (g_w1_values : n0 ≤ w1_values) :
    MetFree l (⟨"com/example/vellum_index/vellumindex/IntList", "add", "(I)V"⟩ : MethodName) (head1 (Jvm.Cond.code (⟨"com/example/vellum_index/vellumindex/IntList", "add", "(I)V"⟩ : MethodName) prog_8_method_2_code 2 none :: ws) ({ frames := 0, cells := 0, slots := 0, locals := 0 } : Room)) (fun a U => a = #[(.ref o0), (.int p1)] ∧ Z.Warmed39 U.vm ∧ U.heap = h0) (fun _ _ _ _ _ => True) (fun _ U o U' => ∃ v L, o = .returned v ∧ Qadd6 Z o0 p1 w1_values w10_e w11_e w12_e w13_e w14_e w15_e w16_e w17_e kA h0 n0 v U'.heap L ∧ FrameEnd U o U' L ({ frames := 0, cells := 0, slots := 0, locals := 0 } : Room).cells ({ frames := 0, cells := 0, slots := 0, locals := 0 } : Room).slots) := by
  refine MetFree.of_bodySF (plainFor_of_name pn_com_example_vellum_index_vellumindex_IntList) hisR ?_
  intro p e s m args below meth c s₁ Bd hml0 hP hK
  obtain ⟨rfl, hZ, hh⟩ := hP
  have hx := Bd.exec
  have hby := Bd.bytes
  have hml : c.maxLocals = 2 := hml0
  have hown : s.vm.findClass "com/example/vellum_index/vellumindex/IntList" = some m.cls := findClass_of_methodNamed Bd.named
  have hnm := (name_of_methodNamed Bd.named Bd.method).1
  have hlk := BodyLoose.notSynchronized Bd
  have X0 : Stand p l e ({ frames := 0, cells := 0, slots := 0, locals := 0 } : Room) s m #[(.ref o0), (.int p1)] below meth c s₁ [] 0 0 := Stand.of_body Bd
  have e0 : s₁.heap = h0 := by rw [← hh, Bd.state]; rfl
  have N0 := Fr.nil n0
  have pre0 : ∀ t, Steps p.tables e below (s₁.setTop (mkF m 0 #[.val (.ref o0), .val (.int p1)] [])) t → Steps p.tables e below (s₁.setTop (entryFrame m #[(.ref o0), (.int p1)] 2)) t := fun t k => castTop (ef_add6 m o0 p1) k
  obtain ⟨T1, X1, e1, st1⟩ := getF X0 hx hZ hown (host := "") (Or.inl (hw _ (List.mem_of_getElem? (i := 18) rfl))) Via.refl e0 F_size_o0 (g := (mkF m 1 #[.val (.ref o0), .val (.int p1)] [(.ref o0)])) rfl rfl (hb hby d3_1)
  obtain ⟨T2, X2, e2, st2⟩ := getF X1 hx hZ hown (host := "") (Or.inl (hw _ (List.mem_of_getElem? (i := 11) rfl))) Via.refl e1 F_values_o0 (g := (mkF m 5 #[.val (.ref o0), .val (.int p1)] [(.ref o0), (.int (6 : Int32))])) rfl rfl (hb hby d3_5)
  obtain ⟨cl3, Ar3, qc3, S3, M3, Ha3, G3⟩ := id V_w1_values
  obtain ⟨T4, X4, e4, st4⟩ := getF X2 hx hZ hown (host := "") (Or.inl (hw _ (List.mem_of_getElem? (i := 11) rfl))) Via.refl e2 F_values_o0 (g := (mkF m 30 #[.val (.ref o0), .val (.int p1)] [(.ref o0)])) rfl rfl (hb hby d3_30)
  obtain ⟨T5, X5, e5, st5⟩ := getF X4 hx hZ hown (host := "") (Or.inl (hw _ (List.mem_of_getElem? (i := 18) rfl))) Via.refl e4 F_size_o0 (g := (mkF m 35 #[.val (.ref o0), .val (.int p1)] [(.ref o0), (.ref o0), (.ref w1_values)])) rfl rfl (hb hby d3_35)
  obtain ⟨T6, h6, X6, e6, W6, st6⟩ := putF X5 hx hZ hown (host := "") (Or.inl (hw _ (List.mem_of_getElem? (i := 18) rfl))) Via.refl e5 F_size_o0 E_o0 (Or.inl (hw _ (List.mem_of_getElem? (i := 19) rfl))) (hw _ (List.mem_of_getElem? (i := 3) rfl)) (ty := .int) (by decide) rfl rfl (g := (mkF m 41 #[.val (.ref o0), .val (.int p1)] [(.int (7 : Int32)), (.ref o0), (.int (6 : Int32)), (.ref w1_values)])) rfl rfl (hb hby d3_41)
  have Fw6 := F_size_o0.same W6
  have N6 := Fr.snoc X6 N0 g_o0
  have z7 : n0 ≤ h6.size := Nat.le_trans Z0 (Keep.of_wr W6).1
  have hs8 : h0.size ≤ h6.size := Nat.le_trans (Nat.le_refl h0.size) (Keep.of_wr W6).1
  have k9 := (V_w1_values.other W6 ne_w1_values_o0)
  obtain ⟨cl10, Ar10, qc10, S10, M10, Ha10, G10⟩ := id k9
  have hin11 : ¬ ((6 : Int32) < 0 ∨ cl10.slots.size ≤ ((6 : Int32)).toNatClampNeg) := inb_of S10 ⟨by decide, by decide⟩
  obtain ⟨T12, h12, X12, e12, W12, st12⟩ := stI X6 hx hZ e6 Ar10 (j := (6 : Int32)) hin11 (g := (mkF m 45 #[.val (.ref o0), .val (.int p1)] [(.int p1), (.int (6 : Int32)), (.ref w1_values)])) rfl rfl (hb hby d3_45)
  have V12 : Arv Z h12 w1_values kA .int (8 : Int32) [(.int w10_e), (.int w11_e), (.int w12_e), (.int w13_e), (.int w14_e), (.int w15_e), (.int p1), (.int w17_e)] (.int (0 : Int32)) := Arv.set Ar10 qc10 S10 M10 Ha10 G10 rfl W12 6 rfl (Nat.le_of_ble_eq_true rfl)
  have N12 := Fr.snoc X12 N6 g_w1_values
  have z13 : n0 ≤ h12.size := Nat.le_trans z7 (Keep.of_wr W12).1
  have hs14 : h0.size ≤ h12.size := Nat.le_trans hs8 (Keep.of_wr W12).1
  obtain ⟨fs, hr, hrun, hended, hW, hsame⟩ := X12.leave (v := none) (fun _ => rfl) hlk
  refine ⟨_, _, pre0 _ ?_, hrun, hended, _, _, rfl, ?_, ⟨_, rfl⟩, hW, hsame.mono (by decide) (by decide)⟩
  · skip
    show Steps p.tables e below (s₁.setTop (mkF m 0 #[.val (.ref o0), .val (.int p1)] [])) _
    refine XS.aloadN X0.here hx rfl (hb hby d3_0) rfl rfl ?_
    show Steps p.tables e below (s₁.setTop (mkF m 1 #[.val (.ref o0), .val (.int p1)] [(.ref o0)])) _
    refine st1 _ ?_
    show Steps p.tables e below (T1.setTop (mkF m 4 #[.val (.ref o0), .val (.int p1)] [(.int (6 : Int32))])) _
    refine XS.aloadN X1.here hx rfl (hb hby d3_4) rfl rfl ?_
    show Steps p.tables e below (T1.setTop (mkF m 5 #[.val (.ref o0), .val (.int p1)] [(.ref o0), (.int (6 : Int32))])) _
    refine st2 _ ?_
    show Steps p.tables e below (T2.setTop (mkF m 8 #[.val (.ref o0), .val (.int p1)] [(.ref w1_values), (.int (6 : Int32))])) _
    refine X2.arraylength hx (by rw [e2]; exact Ar3.1) (State.isArrayOf_alike hZ.alike Ar3.2.1) (g := (mkF m 8 #[.val (.ref o0), .val (.int p1)] [(.ref w1_values), (.int (6 : Int32))])) rfl rfl (hb hby d3_8) _ ?_
    rw [len_of S3 M3]
    show Steps p.tables e below (T2.setTop (mkF m 9 #[.val (.ref o0), .val (.int p1)] [(.int (8 : Int32)), (.int (6 : Int32))])) _
    refine XS.icmpYes X2.here hx rfl (pc0 := 9) (pc' := 29) rfl (hb hby d3_9) rfl (XT.ii_ne_t (by decide)) (by decide) (by decide) ?_
    show Steps p.tables e below (T2.setTop (mkF m 29 #[.val (.ref o0), .val (.int p1)] [])) _
    refine XS.aloadN X2.here hx rfl (hb hby d3_29) rfl rfl ?_
    show Steps p.tables e below (T2.setTop (mkF m 30 #[.val (.ref o0), .val (.int p1)] [(.ref o0)])) _
    refine st4 _ ?_
    show Steps p.tables e below (T4.setTop (mkF m 33 #[.val (.ref o0), .val (.int p1)] [(.ref w1_values)])) _
    refine XS.aloadN X4.here hx rfl (hb hby d3_33) rfl rfl ?_
    show Steps p.tables e below (T4.setTop (mkF m 34 #[.val (.ref o0), .val (.int p1)] [(.ref o0), (.ref w1_values)])) _
    refine XS.dup X4.here hx rfl (hb hby d3_34) rfl rfl ?_
    show Steps p.tables e below (T4.setTop (mkF m 35 #[.val (.ref o0), .val (.int p1)] [(.ref o0), (.ref o0), (.ref w1_values)])) _
    refine st5 _ ?_
    show Steps p.tables e below (T5.setTop (mkF m 38 #[.val (.ref o0), .val (.int p1)] [(.int (6 : Int32)), (.ref o0), (.ref w1_values)])) _
    refine XT.dupX1 X5.here hx rfl (hb hby d3_38) rfl rfl rfl ?_
    show Steps p.tables e below (T5.setTop (mkF m 39 #[.val (.ref o0), .val (.int p1)] [(.int (6 : Int32)), (.ref o0), (.int (6 : Int32)), (.ref w1_values)])) _
    refine XT.iconstV X5.here hx rfl (1 : Int32) (hb hby d3_39) (by decide) ?_
    show Steps p.tables e below (T5.setTop (mkF m 40 #[.val (.ref o0), .val (.int p1)] [(.int (1 : Int32)), (.int (6 : Int32)), (.ref o0), (.int (6 : Int32)), (.ref w1_values)])) _
    refine XS.iadd X5.here hx rfl (hb hby d3_40) rfl ?_
    show Steps p.tables e below (T5.setTop (mkF m 41 #[.val (.ref o0), .val (.int p1)] [(.int (7 : Int32)), (.ref o0), (.int (6 : Int32)), (.ref w1_values)])) _
    refine st6 _ ?_
    show Steps p.tables e below (T6.setTop (mkF m 44 #[.val (.ref o0), .val (.int p1)] [(.int (6 : Int32)), (.ref w1_values)])) _
    refine XS.iloadN X6.here hx rfl (hb hby d3_44) rfl ?_
    show Steps p.tables e below (T6.setTop (mkF m 45 #[.val (.ref o0), .val (.int p1)] [(.int p1), (.int (6 : Int32)), (.ref w1_values)])) _
    refine st12 _ ?_
    show Steps p.tables e below (T12.setTop (mkF m 46 #[.val (.ref o0), .val (.int p1)] [])) _
    exact X12.returnOut hx Bd.returns (hb hby d3_46) hr
  · skip
    show Qadd6 Z o0 p1 w1_values w10_e w11_e w12_e w13_e w14_e w15_e w16_e w17_e kA h0 n0 _ T12.heap _
    rw [e12]
    have k15 := ((E_o0.wr W6).wr W12)
    have k16 := (Fw6.other W12 (Or.inl (Ne.symm ne_w1_values_o0)))
    have k17 := ((F_values_o0.other W6 (Or.inr (slot_ne (Or.inl (hw _ (List.mem_of_getElem? (i := 12) rfl))) (Or.inl (hw _ (List.mem_of_getElem? (i := 19) rfl))) (by decide) (t := (.array .int)) (t' := .int) (by decide) (by decide)))).other W12 (Or.inl (Ne.symm ne_w1_values_o0)))
    have k18 := ((E_w1_values.wr W6).wr W12)
    exact ⟨N12, rfl, (((Keep.refl h0 [o0, w1_values]).wr W6 (Or.inl (List.mem_of_getElem? (i := 0) rfl))).wr W12 (Or.inl (List.mem_of_getElem? (i := 1) rfl))), k15, k16, k17, k18, V12⟩
theorem ef_add7 (m : MethodId) (o0 : Addr) (p1 : Int32) : entryFrame m #[(.ref o0), (.int p1)] 2 = mkF m 0 #[.val (.ref o0), .val (.int p1)] [] := by first | (simp [entryFrame, mkF, argsToLocals, Value.category]; done) | rfl
def Qadd7 (Z : State) (o0 : Addr) (p1 : Int32) (w1_values : Addr) (w10_e : Int32) (w11_e : Int32) (w12_e : Int32) (w13_e : Int32) (w14_e : Int32) (w15_e : Int32) (w16_e : Int32) (w17_e : Int32) (kA : ClassId) (h0 : Heap) (n0 : Nat) (v : Option Value) (h : Heap) (L : List Loc) : Prop := Fr n0 L ∧ v = none ∧ Keep h0 h [o0, w1_values] ∧ Exa Z h o0 "com/example/vellum_index/vellumindex/IntList" ∧ Fld Z h o0 "com/example/vellum_index/vellumindex/IntList" "size" "I" (.int (8 : Int32)) ∧ Fld Z h o0 "com/example/vellum_index/vellumindex/IntList" "values" "[I" (.ref w1_values) ∧ Exa Z h w1_values "[I" ∧ Arv Z h w1_values kA .int (8 : Int32) [(.int w10_e), (.int w11_e), (.int w12_e), (.int w13_e), (.int w14_e), (.int w15_e), (.int w16_e), (.int p1)] (.int (0 : Int32))
set_option maxRecDepth 65536 in
set_option maxHeartbeats 40000000 in
theorem rmadd7 (l : Launch) (Z : State) (a0 : Array Value) (hw : ∀ d ∈ tables_1, d.before a0 Z = true) (ws : List Jvm.Cond) (o0 : Addr) (p1 : Int32) (w1_values : Addr) (w10_e : Int32) (w11_e : Int32) (w12_e : Int32) (w13_e : Int32) (w14_e : Int32) (w15_e : Int32) (w16_e : Int32) (w17_e : Int32) (kA : ClassId) (h0 : Heap) (n0 : Nat) (Z0 : n0 ≤ h0.size) (E_o0 : Exa Z h0 o0 "com/example/vellum_index/vellumindex/IntList") (F_size_o0 : Fld Z h0 o0 "com/example/vellum_index/vellumindex/IntList" "size" "I" (.int (7 : Int32))) (F_values_o0 : Fld Z h0 o0 "com/example/vellum_index/vellumindex/IntList" "values" "[I" (.ref w1_values)) (E_w1_values : Exa Z h0 w1_values "[I") (V_w1_values : Arv Z h0 w1_values kA .int (8 : Int32) [(.int w10_e), (.int w11_e), (.int w12_e), (.int w13_e), (.int w14_e), (.int w15_e), (.int w16_e), (.int w17_e)] (.int (0 : Int32))) (g_o0 : n0 ≤ o0) (ne_w1_values_o0 : w1_values ≠ o0) (g_w1_values : n0 ≤ w1_values) :
    MetFree l (⟨"com/example/vellum_index/vellumindex/IntList", "add", "(I)V"⟩ : MethodName) (head1 (Jvm.Cond.code (⟨"com/example/vellum_index/vellumindex/IntList", "add", "(I)V"⟩ : MethodName) prog_8_method_2_code 2 none :: ws) ({ frames := 0, cells := 0, slots := 0, locals := 0 } : Room)) (fun a U => a = #[(.ref o0), (.int p1)] ∧ Z.Warmed39 U.vm ∧ U.heap = h0) (fun _ _ _ _ _ => True) (fun _ U o U' => ∃ v L, o = .returned v ∧ Qadd7 Z o0 p1 w1_values w10_e w11_e w12_e w13_e w14_e w15_e w16_e w17_e kA h0 n0 v U'.heap L ∧ FrameEnd U o U' L ({ frames := 0, cells := 0, slots := 0, locals := 0 } : Room).cells ({ frames := 0, cells := 0, slots := 0, locals := 0 } : Room).slots) := by
  refine MetFree.of_bodySF (plainFor_of_name pn_com_example_vellum_index_vellumindex_IntList) hisR ?_
  intro p e s m args below meth c s₁ Bd hml0 hP hK
  obtain ⟨rfl, hZ, hh⟩ := hP
  have hx := Bd.exec
  have hby := Bd.bytes
  have hml : c.maxLocals = 2 := hml0
  have hown : s.vm.findClass "com/example/vellum_index/vellumindex/IntList" = some m.cls := findClass_of_methodNamed Bd.named
  have hnm := (name_of_methodNamed Bd.named Bd.method).1
  have hlk := BodyLoose.notSynchronized Bd
  have X0 : Stand p l e ({ frames := 0, cells := 0, slots := 0, locals := 0 } : Room) s m #[(.ref o0), (.int p1)] below meth c s₁ [] 0 0 := Stand.of_body Bd
  have e0 : s₁.heap = h0 := by rw [← hh, Bd.state]; rfl
  have N0 := Fr.nil n0
  have pre0 : ∀ t, Steps p.tables e below (s₁.setTop (mkF m 0 #[.val (.ref o0), .val (.int p1)] [])) t → Steps p.tables e below (s₁.setTop (entryFrame m #[(.ref o0), (.int p1)] 2)) t := fun t k => castTop (ef_add7 m o0 p1) k
  obtain ⟨T1, X1, e1, st1⟩ := getF X0 hx hZ hown (host := "") (Or.inl (hw _ (List.mem_of_getElem? (i := 18) rfl))) Via.refl e0 F_size_o0 (g := (mkF m 1 #[.val (.ref o0), .val (.int p1)] [(.ref o0)])) rfl rfl (hb hby d3_1)
  obtain ⟨T2, X2, e2, st2⟩ := getF X1 hx hZ hown (host := "") (Or.inl (hw _ (List.mem_of_getElem? (i := 11) rfl))) Via.refl e1 F_values_o0 (g := (mkF m 5 #[.val (.ref o0), .val (.int p1)] [(.ref o0), (.int (7 : Int32))])) rfl rfl (hb hby d3_5)
  obtain ⟨cl3, Ar3, qc3, S3, M3, Ha3, G3⟩ := id V_w1_values
  obtain ⟨T4, X4, e4, st4⟩ := getF X2 hx hZ hown (host := "") (Or.inl (hw _ (List.mem_of_getElem? (i := 11) rfl))) Via.refl e2 F_values_o0 (g := (mkF m 30 #[.val (.ref o0), .val (.int p1)] [(.ref o0)])) rfl rfl (hb hby d3_30)
  obtain ⟨T5, X5, e5, st5⟩ := getF X4 hx hZ hown (host := "") (Or.inl (hw _ (List.mem_of_getElem? (i := 18) rfl))) Via.refl e4 F_size_o0 (g := (mkF m 35 #[.val (.ref o0), .val (.int p1)] [(.ref o0), (.ref o0), (.ref w1_values)])) rfl rfl (hb hby d3_35)
  obtain ⟨T6, h6, X6, e6, W6, st6⟩ := putF X5 hx hZ hown (host := "") (Or.inl (hw _ (List.mem_of_getElem? (i := 18) rfl))) Via.refl e5 F_size_o0 E_o0 (Or.inl (hw _ (List.mem_of_getElem? (i := 19) rfl))) (hw _ (List.mem_of_getElem? (i := 3) rfl)) (ty := .int) (by decide) rfl rfl (g := (mkF m 41 #[.val (.ref o0), .val (.int p1)] [(.int (8 : Int32)), (.ref o0), (.int (7 : Int32)), (.ref w1_values)])) rfl rfl (hb hby d3_41)
  have Fw6 := F_size_o0.same W6
  have N6 := Fr.snoc X6 N0 g_o0
  have z7 : n0 ≤ h6.size := Nat.le_trans Z0 (Keep.of_wr W6).1
  have hs8 : h0.size ≤ h6.size := Nat.le_trans (Nat.le_refl h0.size) (Keep.of_wr W6).1
  have k9 := (V_w1_values.other W6 ne_w1_values_o0)
  obtain ⟨cl10, Ar10, qc10, S10, M10, Ha10, G10⟩ := id k9
  have hin11 : ¬ ((7 : Int32) < 0 ∨ cl10.slots.size ≤ ((7 : Int32)).toNatClampNeg) := inb_of S10 ⟨by decide, by decide⟩
  obtain ⟨T12, h12, X12, e12, W12, st12⟩ := stI X6 hx hZ e6 Ar10 (j := (7 : Int32)) hin11 (g := (mkF m 45 #[.val (.ref o0), .val (.int p1)] [(.int p1), (.int (7 : Int32)), (.ref w1_values)])) rfl rfl (hb hby d3_45)
  have V12 : Arv Z h12 w1_values kA .int (8 : Int32) [(.int w10_e), (.int w11_e), (.int w12_e), (.int w13_e), (.int w14_e), (.int w15_e), (.int w16_e), (.int p1)] (.int (0 : Int32)) := Arv.set Ar10 qc10 S10 M10 Ha10 G10 rfl W12 7 rfl (Nat.le_of_ble_eq_true rfl)
  have N12 := Fr.snoc X12 N6 g_w1_values
  have z13 : n0 ≤ h12.size := Nat.le_trans z7 (Keep.of_wr W12).1
  have hs14 : h0.size ≤ h12.size := Nat.le_trans hs8 (Keep.of_wr W12).1
  obtain ⟨fs, hr, hrun, hended, hW, hsame⟩ := X12.leave (v := none) (fun _ => rfl) hlk
  refine ⟨_, _, pre0 _ ?_, hrun, hended, _, _, rfl, ?_, ⟨_, rfl⟩, hW, hsame.mono (by decide) (by decide)⟩
  · skip
    show Steps p.tables e below (s₁.setTop (mkF m 0 #[.val (.ref o0), .val (.int p1)] [])) _
    refine XS.aloadN X0.here hx rfl (hb hby d3_0) rfl rfl ?_
    show Steps p.tables e below (s₁.setTop (mkF m 1 #[.val (.ref o0), .val (.int p1)] [(.ref o0)])) _
    refine st1 _ ?_
    show Steps p.tables e below (T1.setTop (mkF m 4 #[.val (.ref o0), .val (.int p1)] [(.int (7 : Int32))])) _
    refine XS.aloadN X1.here hx rfl (hb hby d3_4) rfl rfl ?_
    show Steps p.tables e below (T1.setTop (mkF m 5 #[.val (.ref o0), .val (.int p1)] [(.ref o0), (.int (7 : Int32))])) _
    refine st2 _ ?_
    show Steps p.tables e below (T2.setTop (mkF m 8 #[.val (.ref o0), .val (.int p1)] [(.ref w1_values), (.int (7 : Int32))])) _
    refine X2.arraylength hx (by rw [e2]; exact Ar3.1) (State.isArrayOf_alike hZ.alike Ar3.2.1) (g := (mkF m 8 #[.val (.ref o0), .val (.int p1)] [(.ref w1_values), (.int (7 : Int32))])) rfl rfl (hb hby d3_8) _ ?_
    rw [len_of S3 M3]
    show Steps p.tables e below (T2.setTop (mkF m 9 #[.val (.ref o0), .val (.int p1)] [(.int (8 : Int32)), (.int (7 : Int32))])) _
    refine XS.icmpYes X2.here hx rfl (pc0 := 9) (pc' := 29) rfl (hb hby d3_9) rfl (XT.ii_ne_t (by decide)) (by decide) (by decide) ?_
    show Steps p.tables e below (T2.setTop (mkF m 29 #[.val (.ref o0), .val (.int p1)] [])) _
    refine XS.aloadN X2.here hx rfl (hb hby d3_29) rfl rfl ?_
    show Steps p.tables e below (T2.setTop (mkF m 30 #[.val (.ref o0), .val (.int p1)] [(.ref o0)])) _
    refine st4 _ ?_
    show Steps p.tables e below (T4.setTop (mkF m 33 #[.val (.ref o0), .val (.int p1)] [(.ref w1_values)])) _
    refine XS.aloadN X4.here hx rfl (hb hby d3_33) rfl rfl ?_
    show Steps p.tables e below (T4.setTop (mkF m 34 #[.val (.ref o0), .val (.int p1)] [(.ref o0), (.ref w1_values)])) _
    refine XS.dup X4.here hx rfl (hb hby d3_34) rfl rfl ?_
    show Steps p.tables e below (T4.setTop (mkF m 35 #[.val (.ref o0), .val (.int p1)] [(.ref o0), (.ref o0), (.ref w1_values)])) _
    refine st5 _ ?_
    show Steps p.tables e below (T5.setTop (mkF m 38 #[.val (.ref o0), .val (.int p1)] [(.int (7 : Int32)), (.ref o0), (.ref w1_values)])) _
    refine XT.dupX1 X5.here hx rfl (hb hby d3_38) rfl rfl rfl ?_
    show Steps p.tables e below (T5.setTop (mkF m 39 #[.val (.ref o0), .val (.int p1)] [(.int (7 : Int32)), (.ref o0), (.int (7 : Int32)), (.ref w1_values)])) _
    refine XT.iconstV X5.here hx rfl (1 : Int32) (hb hby d3_39) (by decide) ?_
    show Steps p.tables e below (T5.setTop (mkF m 40 #[.val (.ref o0), .val (.int p1)] [(.int (1 : Int32)), (.int (7 : Int32)), (.ref o0), (.int (7 : Int32)), (.ref w1_values)])) _
    refine XS.iadd X5.here hx rfl (hb hby d3_40) rfl ?_
    show Steps p.tables e below (T5.setTop (mkF m 41 #[.val (.ref o0), .val (.int p1)] [(.int (8 : Int32)), (.ref o0), (.int (7 : Int32)), (.ref w1_values)])) _
    refine st6 _ ?_
    show Steps p.tables e below (T6.setTop (mkF m 44 #[.val (.ref o0), .val (.int p1)] [(.int (7 : Int32)), (.ref w1_values)])) _
    refine XS.iloadN X6.here hx rfl (hb hby d3_44) rfl ?_
    show Steps p.tables e below (T6.setTop (mkF m 45 #[.val (.ref o0), .val (.int p1)] [(.int p1), (.int (7 : Int32)), (.ref w1_values)])) _
    refine st12 _ ?_
    show Steps p.tables e below (T12.setTop (mkF m 46 #[.val (.ref o0), .val (.int p1)] [])) _
    exact X12.returnOut hx Bd.returns (hb hby d3_46) hr
  · skip
    show Qadd7 Z o0 p1 w1_values w10_e w11_e w12_e w13_e w14_e w15_e w16_e w17_e kA h0 n0 _ T12.heap _
    rw [e12]
    have k15 := ((E_o0.wr W6).wr W12)
    have k16 := (Fw6.other W12 (Or.inl (Ne.symm ne_w1_values_o0)))
    have k17 := ((F_values_o0.other W6 (Or.inr (slot_ne (Or.inl (hw _ (List.mem_of_getElem? (i := 12) rfl))) (Or.inl (hw _ (List.mem_of_getElem? (i := 19) rfl))) (by decide) (t := (.array .int)) (t' := .int) (by decide) (by decide)))).other W12 (Or.inl (Ne.symm ne_w1_values_o0)))
    have k18 := ((E_w1_values.wr W6).wr W12)
    exact ⟨N12, rfl, (((Keep.refl h0 [o0, w1_values]).wr W6 (Or.inl (List.mem_of_getElem? (i := 0) rfl))).wr W12 (Or.inl (List.mem_of_getElem? (i := 1) rfl))), k15, k16, k17, k18, V12⟩
theorem ef_add8 (m : MethodId) (o0 : Addr) (p1 : Int32) : entryFrame m #[(.ref o0), (.int p1)] 2 = mkF m 0 #[.val (.ref o0), .val (.int p1)] [] := by first | (simp [entryFrame, mkF, argsToLocals, Value.category]; done) | rfl
def Qadd8 (Z : State) (o0 : Addr) (p1 : Int32) (w1_values : Addr) (w10_e : Int32) (w11_e : Int32) (w12_e : Int32) (w13_e : Int32) (w14_e : Int32) (w15_e : Int32) (w16_e : Int32) (w17_e : Int32) (kA : ClassId) (h0 : Heap) (n0 : Nat) (v : Option Value) (h : Heap) (L : List Loc) : Prop := Fr n0 L ∧ ∃ (xadd8_0 : Addr) (kadd8_1 : ClassId), v = none ∧ h0.size ≤ xadd8_0 ∧ Keep h0 h [o0] ∧ Exa Z h o0 "com/example/vellum_index/vellumindex/IntList" ∧ Fld Z h o0 "com/example/vellum_index/vellumindex/IntList" "size" "I" (.int (9 : Int32)) ∧ Fld Z h o0 "com/example/vellum_index/vellumindex/IntList" "values" "[I" (.ref xadd8_0) ∧ Exa Z h xadd8_0 "[I" ∧ Arv Z h xadd8_0 kadd8_1 .int (16 : Int32) [(.int w10_e), (.int w11_e), (.int w12_e), (.int w13_e), (.int w14_e), (.int w15_e), (.int w16_e), (.int w17_e), (.int p1), (.int (0 : Int32)), (.int (0 : Int32)), (.int (0 : Int32)), (.int (0 : Int32)), (.int (0 : Int32)), (.int (0 : Int32)), (.int (0 : Int32))] (.int (0 : Int32))
set_option maxRecDepth 65536 in
set_option maxHeartbeats 40000000 in
theorem rmadd8 (l : Launch) (Z : State) (a0 : Array Value) (hw : ∀ d ∈ tables_1, d.before a0 Z = true) (ws : List Jvm.Cond) (o0 : Addr) (p1 : Int32) (w1_values : Addr) (w10_e : Int32) (w11_e : Int32) (w12_e : Int32) (w13_e : Int32) (w14_e : Int32) (w15_e : Int32) (w16_e : Int32) (w17_e : Int32) (kA : ClassId) (h0 : Heap) (n0 : Nat) (Z0 : n0 ≤ h0.size) (E_o0 : Exa Z h0 o0 "com/example/vellum_index/vellumindex/IntList") (F_size_o0 : Fld Z h0 o0 "com/example/vellum_index/vellumindex/IntList" "size" "I" (.int (8 : Int32))) (F_values_o0 : Fld Z h0 o0 "com/example/vellum_index/vellumindex/IntList" "values" "[I" (.ref w1_values)) (E_w1_values : Exa Z h0 w1_values "[I") (V_w1_values : Arv Z h0 w1_values kA .int (8 : Int32) [(.int w10_e), (.int w11_e), (.int w12_e), (.int w13_e), (.int w14_e), (.int w15_e), (.int w16_e), (.int w17_e)] (.int (0 : Int32))) (g_o0 : n0 ≤ o0) :
    MetFree l (⟨"com/example/vellum_index/vellumindex/IntList", "add", "(I)V"⟩ : MethodName) (head1 (Jvm.Cond.code (⟨"com/example/vellum_index/vellumindex/IntList", "add", "(I)V"⟩ : MethodName) prog_8_method_2_code 2 none :: ws) ({ frames := 2, cells := 1, slots := 16, locals := 33 } : Room)) (fun a U => a = #[(.ref o0), (.int p1)] ∧ Z.Warmed39 U.vm ∧ U.heap = h0) (fun _ _ _ _ _ => True) (fun _ U o U' => ∃ v L, o = .returned v ∧ Qadd8 Z o0 p1 w1_values w10_e w11_e w12_e w13_e w14_e w15_e w16_e w17_e kA h0 n0 v U'.heap L ∧ FrameEnd U o U' L ({ frames := 2, cells := 1, slots := 16, locals := 33 } : Room).cells ({ frames := 2, cells := 1, slots := 16, locals := 33 } : Room).slots) := by
  refine MetFree.of_bodySF (plainFor_of_name pn_com_example_vellum_index_vellumindex_IntList) hisR ?_
  intro p e s m args below meth c s₁ Bd hml0 hP hK
  obtain ⟨rfl, hZ, hh⟩ := hP
  have hx := Bd.exec
  have hby := Bd.bytes
  have hml : c.maxLocals = 2 := hml0
  have hown : s.vm.findClass "com/example/vellum_index/vellumindex/IntList" = some m.cls := findClass_of_methodNamed Bd.named
  have hnm := (name_of_methodNamed Bd.named Bd.method).1
  have hlk := BodyLoose.notSynchronized Bd
  have X0 : Stand p l e ({ frames := 2, cells := 1, slots := 16, locals := 33 } : Room) s m #[(.ref o0), (.int p1)] below meth c s₁ [] 0 0 := Stand.of_body Bd
  have e0 : s₁.heap = h0 := by rw [← hh, Bd.state]; rfl
  have N0 := Fr.nil n0
  have pre0 : ∀ t, Steps p.tables e below (s₁.setTop (mkF m 0 #[.val (.ref o0), .val (.int p1)] [])) t → Steps p.tables e below (s₁.setTop (entryFrame m #[(.ref o0), (.int p1)] 2)) t := fun t k => castTop (ef_add8 m o0 p1) k
  obtain ⟨T1, X1, e1, st1⟩ := getF X0 hx hZ hown (host := "") (Or.inl (hw _ (List.mem_of_getElem? (i := 18) rfl))) Via.refl e0 F_size_o0 (g := (mkF m 1 #[.val (.ref o0), .val (.int p1)] [(.ref o0)])) rfl rfl (hb hby d3_1)
  obtain ⟨T2, X2, e2, st2⟩ := getF X1 hx hZ hown (host := "") (Or.inl (hw _ (List.mem_of_getElem? (i := 11) rfl))) Via.refl e1 F_values_o0 (g := (mkF m 5 #[.val (.ref o0), .val (.int p1)] [(.ref o0), (.int (8 : Int32))])) rfl rfl (hb hby d3_5)
  obtain ⟨cl3, Ar3, qc3, S3, M3, Ha3, G3⟩ := id V_w1_values
  obtain ⟨T4, X4, e4, st4⟩ := getF X2 hx hZ hown (host := "") (Or.inl (hw _ (List.mem_of_getElem? (i := 11) rfl))) Via.refl e2 F_values_o0 (g := (mkF m 14 #[.val (.ref o0), .val (.int p1)] [(.ref o0), (.ref o0)])) rfl rfl (hb hby d3_14)
  obtain ⟨T5, X5, e5, st5⟩ := getF X4 hx hZ hown (host := "") (Or.inl (hw _ (List.mem_of_getElem? (i := 18) rfl))) Via.refl e4 F_size_o0 (g := (mkF m 19 #[.val (.ref o0), .val (.int p1)] [(.ref o0), (.int (2 : Int32)), (.ref w1_values), (.ref o0)])) rfl rfl (hb hby d3_19)
  obtain ⟨vr6, _, ⟨T6, L6, k6, n6⟩, -, X6, ⟨Lc6, hQ6, l6, y6, z6⟩, st6⟩ := Jvm.LawKit.callS X5 hx (y := (⟨"java/util/Arrays", "copyOf", "([II)[I"⟩ : MethodName)) hown (mvT hZ (hw _ (List.mem_of_getElem? (i := 30) rfl))) (mvT hZ (hw _ (List.mem_of_getElem? (i := 31) rfl))) (mvT hZ (hw _ (List.mem_of_getElem? (i := 32) rfl))) (mvT hZ (hw _ (List.mem_of_getElem? (i := 33) rfl))) (by decide) (backOf (W := 1) (rmcp8_16 l Z a0 hw [] w1_values w10_e w11_e w12_e w13_e w14_e w15_e w16_e w17_e kA h0 n0 Z0 E_w1_values V_w1_values) hZ (hw _ (List.mem_of_getElem? (i := 33) rfl)) (hw _ (List.mem_of_getElem? (i := 32) rfl)) (by decide) (by decide)) (g := (mkF m 23 #[.val (.ref o0), .val (.int p1)] [(.int (16 : Int32)), (.ref w1_values), (.ref o0)])) rfl (by rw [hml]; rfl) (argsL := [(.ref w1_values), (.int (16 : Int32))]) (rest := [(.ref o0)]) (lenOf pd___II__I rfl) rfl (by show 2 * 0 + _ ≤ _; exact Nat.le_of_eq rfl) (hb hby d3_23) (fun _ _ => ⟨rfl, e5, (by decide : 0 + 1 ≤ _), (by decide : 0 + 16 ≤ _)⟩)
  dsimp only [Pt.U, Pt.locs, Pt.cells, Pt.slots] at X6 l6 y6 z6 st6 hQ6
  subst l6 y6 z6
  have N6q := (show _ ∧ _ from hQ6).1
  have hq6 := (show _ ∧ _ from hQ6).2
  clear hQ6
  obtain ⟨xcp8_16_0_6, kcp8_16_1_6, hq6x⟩ := hq6
  have hv6 := hq6x.1
  have szxcp8_16_0_6 := hq6x.2.1
  have K6 := hq6x.2.2.1
  have po6_0 := hq6x.2.2.2.1
  have po6_1 := hq6x.2.2.2.2
  clear hq6x
  subst hv6
  have ne7 : o0 ≠ xcp8_16_0_6 := Nat.ne_of_lt (Nat.lt_of_lt_of_le E_o0.lt szxcp8_16_0_6)
  have ne8 : w1_values ≠ xcp8_16_0_6 := Nat.ne_of_lt (Nat.lt_of_lt_of_le E_w1_values.lt szxcp8_16_0_6)
  have g9 : n0 ≤ xcp8_16_0_6 := Nat.le_trans Z0 szxcp8_16_0_6
  have sz10 : h0.size ≤ xcp8_16_0_6 := Nat.le_trans (Nat.le_refl h0.size) szxcp8_16_0_6
  have z11 : n0 ≤ T6.heap.size := Nat.le_trans Z0 K6.1
  have hs12 : h0.size ≤ T6.heap.size := Nat.le_trans (Nat.le_refl h0.size) K6.1
  have N6 := Fr.app N0 N6q
  have k13 := (F_values_o0.keep K6 nin0)
  have k14 := (E_o0.keep K6)
  obtain ⟨T15, h15, X15, e15, W15, st15⟩ := putF X6 hx hZ hown (host := "") (Or.inl (hw _ (List.mem_of_getElem? (i := 11) rfl))) Via.refl rfl k13 k14 (Or.inl (hw _ (List.mem_of_getElem? (i := 12) rfl))) (hw _ (List.mem_of_getElem? (i := 3) rfl)) (ty := (.array .int)) (by decide) rfl rfl (g := (mkF m 26 #[.val (.ref o0), .val (.int p1)] [(.ref xcp8_16_0_6), (.ref o0)])) rfl rfl (hb hby d3_26)
  have Fw15 := k13.same W15
  have N15 := Fr.snoc X15 N6 g_o0
  have z16 : n0 ≤ h15.size := Nat.le_trans z11 (Keep.of_wr W15).1
  have hs17 : h0.size ≤ h15.size := Nat.le_trans hs12 (Keep.of_wr W15).1
  obtain ⟨T18, X18, e18, st18⟩ := getF X15 hx hZ hown (host := "") (Or.inl (hw _ (List.mem_of_getElem? (i := 11) rfl))) Via.refl e15 Fw15 (g := (mkF m 30 #[.val (.ref o0), .val (.int p1)] [(.ref o0)])) rfl rfl (hb hby d3_30)
  have k19 := ((F_size_o0.keep K6 nin0).other W15 (Or.inr (slot_ne (Or.inl (hw _ (List.mem_of_getElem? (i := 19) rfl))) (Or.inl (hw _ (List.mem_of_getElem? (i := 12) rfl))) (by decide) (t := .int) (t' := (.array .int)) (by decide) (by decide))))
  obtain ⟨T20, X20, e20, st20⟩ := getF X18 hx hZ hown (host := "") (Or.inl (hw _ (List.mem_of_getElem? (i := 18) rfl))) Via.refl e18 k19 (g := (mkF m 35 #[.val (.ref o0), .val (.int p1)] [(.ref o0), (.ref o0), (.ref xcp8_16_0_6)])) rfl rfl (hb hby d3_35)
  have k21 := (k14.wr W15)
  obtain ⟨T22, h22, X22, e22, W22, st22⟩ := putF X20 hx hZ hown (host := "") (Or.inl (hw _ (List.mem_of_getElem? (i := 18) rfl))) Via.refl e20 k19 k21 (Or.inl (hw _ (List.mem_of_getElem? (i := 19) rfl))) (hw _ (List.mem_of_getElem? (i := 3) rfl)) (ty := .int) (by decide) rfl rfl (g := (mkF m 41 #[.val (.ref o0), .val (.int p1)] [(.int (9 : Int32)), (.ref o0), (.int (8 : Int32)), (.ref xcp8_16_0_6)])) rfl rfl (hb hby d3_41)
  have Fw22 := k19.same W22
  have N22 := Fr.snoc X22 N15 g_o0
  have z23 : n0 ≤ h22.size := Nat.le_trans z16 (Keep.of_wr W22).1
  have hs24 : h0.size ≤ h22.size := Nat.le_trans hs17 (Keep.of_wr W22).1
  have k25 := ((po6_1.other W15 (Ne.symm ne7)).other W22 (Ne.symm ne7))
  obtain ⟨cl26, Ar26, qc26, S26, M26, Ha26, G26⟩ := id k25
  have hin27 : ¬ ((8 : Int32) < 0 ∨ cl26.slots.size ≤ ((8 : Int32)).toNatClampNeg) := inb_of S26 ⟨by decide, by decide⟩
  obtain ⟨T28, h28, X28, e28, W28, st28⟩ := stI X22 hx hZ e22 Ar26 (j := (8 : Int32)) hin27 (g := (mkF m 45 #[.val (.ref o0), .val (.int p1)] [(.int p1), (.int (8 : Int32)), (.ref xcp8_16_0_6)])) rfl rfl (hb hby d3_45)
  have V28 : Arv Z h28 xcp8_16_0_6 kcp8_16_1_6 .int (16 : Int32) [(.int w10_e), (.int w11_e), (.int w12_e), (.int w13_e), (.int w14_e), (.int w15_e), (.int w16_e), (.int w17_e), (.int p1), (.int (0 : Int32)), (.int (0 : Int32)), (.int (0 : Int32)), (.int (0 : Int32)), (.int (0 : Int32)), (.int (0 : Int32)), (.int (0 : Int32))] (.int (0 : Int32)) := Arv.set Ar26 qc26 S26 M26 Ha26 G26 rfl W28 8 rfl (Nat.le_of_ble_eq_true rfl)
  have N28 := Fr.snoc X28 N22 g9
  have z29 : n0 ≤ h28.size := Nat.le_trans z23 (Keep.of_wr W28).1
  have hs30 : h0.size ≤ h28.size := Nat.le_trans hs24 (Keep.of_wr W28).1
  obtain ⟨fs, hr, hrun, hended, hW, hsame⟩ := X28.leave (v := none) (fun _ => rfl) hlk
  refine ⟨_, _, pre0 _ ?_, hrun, hended, _, _, rfl, ?_, ⟨_, rfl⟩, hW, hsame.mono (by decide) (by decide)⟩
  · skip
    show Steps p.tables e below (s₁.setTop (mkF m 0 #[.val (.ref o0), .val (.int p1)] [])) _
    refine XS.aloadN X0.here hx rfl (hb hby d3_0) rfl rfl ?_
    show Steps p.tables e below (s₁.setTop (mkF m 1 #[.val (.ref o0), .val (.int p1)] [(.ref o0)])) _
    refine st1 _ ?_
    show Steps p.tables e below (T1.setTop (mkF m 4 #[.val (.ref o0), .val (.int p1)] [(.int (8 : Int32))])) _
    refine XS.aloadN X1.here hx rfl (hb hby d3_4) rfl rfl ?_
    show Steps p.tables e below (T1.setTop (mkF m 5 #[.val (.ref o0), .val (.int p1)] [(.ref o0), (.int (8 : Int32))])) _
    refine st2 _ ?_
    show Steps p.tables e below (T2.setTop (mkF m 8 #[.val (.ref o0), .val (.int p1)] [(.ref w1_values), (.int (8 : Int32))])) _
    refine X2.arraylength hx (by rw [e2]; exact Ar3.1) (State.isArrayOf_alike hZ.alike Ar3.2.1) (g := (mkF m 8 #[.val (.ref o0), .val (.int p1)] [(.ref w1_values), (.int (8 : Int32))])) rfl rfl (hb hby d3_8) _ ?_
    rw [len_of S3 M3]
    show Steps p.tables e below (T2.setTop (mkF m 9 #[.val (.ref o0), .val (.int p1)] [(.int (8 : Int32)), (.int (8 : Int32))])) _
    refine XS.icmpNo X2.here hx rfl (hb hby d3_9) rfl (XT.ii_ne_f (by decide)) ?_
    show Steps p.tables e below (T2.setTop (mkF m 12 #[.val (.ref o0), .val (.int p1)] [])) _
    refine XS.aloadN X2.here hx rfl (hb hby d3_12) rfl rfl ?_
    show Steps p.tables e below (T2.setTop (mkF m 13 #[.val (.ref o0), .val (.int p1)] [(.ref o0)])) _
    refine XS.aloadN X2.here hx rfl (hb hby d3_13) rfl rfl ?_
    show Steps p.tables e below (T2.setTop (mkF m 14 #[.val (.ref o0), .val (.int p1)] [(.ref o0), (.ref o0)])) _
    refine st4 _ ?_
    show Steps p.tables e below (T4.setTop (mkF m 17 #[.val (.ref o0), .val (.int p1)] [(.ref w1_values), (.ref o0)])) _
    refine XT.iconstV X4.here hx rfl (2 : Int32) (hb hby d3_17) (by decide) ?_
    show Steps p.tables e below (T4.setTop (mkF m 18 #[.val (.ref o0), .val (.int p1)] [(.int (2 : Int32)), (.ref w1_values), (.ref o0)])) _
    refine XS.aloadN X4.here hx rfl (hb hby d3_18) rfl rfl ?_
    show Steps p.tables e below (T4.setTop (mkF m 19 #[.val (.ref o0), .val (.int p1)] [(.ref o0), (.int (2 : Int32)), (.ref w1_values), (.ref o0)])) _
    refine st5 _ ?_
    show Steps p.tables e below (T5.setTop (mkF m 22 #[.val (.ref o0), .val (.int p1)] [(.int (8 : Int32)), (.int (2 : Int32)), (.ref w1_values), (.ref o0)])) _
    refine XS.imul X5.here hx rfl (hb hby d3_22) rfl ?_
    show Steps p.tables e below (T5.setTop (mkF m 23 #[.val (.ref o0), .val (.int p1)] [(.int (16 : Int32)), (.ref w1_values), (.ref o0)])) _
    refine st6 _ ?_
    show Steps p.tables e below (T6.setTop (mkF m 26 #[.val (.ref o0), .val (.int p1)] [(.ref xcp8_16_0_6), (.ref o0)])) _
    refine st15 _ ?_
    show Steps p.tables e below (T15.setTop (mkF m 29 #[.val (.ref o0), .val (.int p1)] [])) _
    refine XS.aloadN X15.here hx rfl (hb hby d3_29) rfl rfl ?_
    show Steps p.tables e below (T15.setTop (mkF m 30 #[.val (.ref o0), .val (.int p1)] [(.ref o0)])) _
    refine st18 _ ?_
    show Steps p.tables e below (T18.setTop (mkF m 33 #[.val (.ref o0), .val (.int p1)] [(.ref xcp8_16_0_6)])) _
    refine XS.aloadN X18.here hx rfl (hb hby d3_33) rfl rfl ?_
    show Steps p.tables e below (T18.setTop (mkF m 34 #[.val (.ref o0), .val (.int p1)] [(.ref o0), (.ref xcp8_16_0_6)])) _
    refine XS.dup X18.here hx rfl (hb hby d3_34) rfl rfl ?_
    show Steps p.tables e below (T18.setTop (mkF m 35 #[.val (.ref o0), .val (.int p1)] [(.ref o0), (.ref o0), (.ref xcp8_16_0_6)])) _
    refine st20 _ ?_
    show Steps p.tables e below (T20.setTop (mkF m 38 #[.val (.ref o0), .val (.int p1)] [(.int (8 : Int32)), (.ref o0), (.ref xcp8_16_0_6)])) _
    refine XT.dupX1 X20.here hx rfl (hb hby d3_38) rfl rfl rfl ?_
    show Steps p.tables e below (T20.setTop (mkF m 39 #[.val (.ref o0), .val (.int p1)] [(.int (8 : Int32)), (.ref o0), (.int (8 : Int32)), (.ref xcp8_16_0_6)])) _
    refine XT.iconstV X20.here hx rfl (1 : Int32) (hb hby d3_39) (by decide) ?_
    show Steps p.tables e below (T20.setTop (mkF m 40 #[.val (.ref o0), .val (.int p1)] [(.int (1 : Int32)), (.int (8 : Int32)), (.ref o0), (.int (8 : Int32)), (.ref xcp8_16_0_6)])) _
    refine XS.iadd X20.here hx rfl (hb hby d3_40) rfl ?_
    show Steps p.tables e below (T20.setTop (mkF m 41 #[.val (.ref o0), .val (.int p1)] [(.int (9 : Int32)), (.ref o0), (.int (8 : Int32)), (.ref xcp8_16_0_6)])) _
    refine st22 _ ?_
    show Steps p.tables e below (T22.setTop (mkF m 44 #[.val (.ref o0), .val (.int p1)] [(.int (8 : Int32)), (.ref xcp8_16_0_6)])) _
    refine XS.iloadN X22.here hx rfl (hb hby d3_44) rfl ?_
    show Steps p.tables e below (T22.setTop (mkF m 45 #[.val (.ref o0), .val (.int p1)] [(.int p1), (.int (8 : Int32)), (.ref xcp8_16_0_6)])) _
    refine st28 _ ?_
    show Steps p.tables e below (T28.setTop (mkF m 46 #[.val (.ref o0), .val (.int p1)] [])) _
    exact X28.returnOut hx Bd.returns (hb hby d3_46) hr
  · skip
    show Qadd8 Z o0 p1 w1_values w10_e w11_e w12_e w13_e w14_e w15_e w16_e w17_e kA h0 n0 _ T28.heap _
    rw [e28]
    have k31 := ((k21.wr W22).wr W28)
    have k32 := (Fw22.other W28 (Or.inl ne7))
    have k33 := ((Fw15.other W22 (Or.inr (slot_ne (Or.inl (hw _ (List.mem_of_getElem? (i := 12) rfl))) (Or.inl (hw _ (List.mem_of_getElem? (i := 19) rfl))) (by decide) (t := (.array .int)) (t' := .int) (by decide) (by decide)))).other W28 (Or.inl ne7))
    have k34 := (((po6_0.wr W15).wr W22).wr W28)
    exact ⟨N28, xcp8_16_0_6, kcp8_16_1_6, rfl, sz10, (((((Keep.refl h0 [o0]).trans K6 all0).wr W15 (Or.inl (List.mem_of_getElem? (i := 0) rfl))).wr W22 (Or.inl (List.mem_of_getElem? (i := 0) rfl))).wr W28 (Or.inr sz10)), k31, k32, k33, k34, V28⟩
theorem d4_0 : decode prog_8_method_5_code 0 = .ok (.aload_n 0, 1) := by decide +kernel
theorem d4_1 : decode prog_8_method_5_code 1 = .ok (.getfield 13, 3) := by decide +kernel
theorem d4_4 : decode prog_8_method_5_code 4 = .ok (.ireturn, 1) := by decide +kernel
theorem ef_4 (m : MethodId) (o0 : Addr) : entryFrame m #[(.ref o0)] 1 = mkF m 0 #[.val (.ref o0)] [] := by first | (simp [entryFrame, mkF, argsToLocals, Value.category]; done) | rfl
def f4 (w0_size : Int32) : Int32 := w0_size
def Q4 (Z : State) (o0 : Addr) (w0_size : Int32) (h0 : Heap) (n0 : Nat) (v : Option Value) (h : Heap) (L : List Loc) : Prop := Fr n0 L ∧ v = some (.int (f4 w0_size)) ∧ h = h0
set_option maxRecDepth 65536 in
set_option maxHeartbeats 40000000 in
theorem rm4 (l : Launch) (Z : State) (a0 : Array Value) (hw : ∀ d ∈ tables_1, d.before a0 Z = true) (ws : List Jvm.Cond) (o0 : Addr) (w0_size : Int32) (h0 : Heap) (n0 : Nat) (Z0 : n0 ≤ h0.size) (F_size_o0 : Fld Z h0 o0 "com/example/vellum_index/vellumindex/IntList" "size" "I" (.int w0_size)) :
    MetFree l (⟨"com/example/vellum_index/vellumindex/IntList", "size", "()I"⟩ : MethodName) (head1 (Jvm.Cond.code (⟨"com/example/vellum_index/vellumindex/IntList", "size", "()I"⟩ : MethodName) prog_8_method_5_code 1 (some .int) :: ws) ({ frames := 0, cells := 0, slots := 0, locals := 0 } : Room)) (fun a U => a = #[(.ref o0)] ∧ Z.Warmed39 U.vm ∧ U.heap = h0) (fun _ _ _ _ _ => True) (fun _ U o U' => ∃ v L, o = .returned v ∧ Q4 Z o0 w0_size h0 n0 v U'.heap L ∧ FrameEnd U o U' L ({ frames := 0, cells := 0, slots := 0, locals := 0 } : Room).cells ({ frames := 0, cells := 0, slots := 0, locals := 0 } : Room).slots) := by
  refine MetFree.of_bodySF (plainFor_of_name pn_com_example_vellum_index_vellumindex_IntList) hisR ?_
  intro p e s m args below meth c s₁ Bd hml0 hP hK
  obtain ⟨rfl, hZ, hh⟩ := hP
  have hx := Bd.exec
  have hby := Bd.bytes
  have hml : c.maxLocals = 1 := hml0
  have hown : s.vm.findClass "com/example/vellum_index/vellumindex/IntList" = some m.cls := findClass_of_methodNamed Bd.named
  have hnm := (name_of_methodNamed Bd.named Bd.method).1
  have hlk := BodyLoose.notSynchronized Bd
  have X0 : Stand p l e ({ frames := 0, cells := 0, slots := 0, locals := 0 } : Room) s m #[(.ref o0)] below meth c s₁ [] 0 0 := Stand.of_body Bd
  have e0 : s₁.heap = h0 := by rw [← hh, Bd.state]; rfl
  have N0 := Fr.nil n0
  have pre0 : ∀ t, Steps p.tables e below (s₁.setTop (mkF m 0 #[.val (.ref o0)] [])) t → Steps p.tables e below (s₁.setTop (entryFrame m #[(.ref o0)] 1)) t := fun t k => castTop (ef_4 m o0) k
  obtain ⟨T1, X1, e1, st1⟩ := getF X0 hx hZ hown (host := "") (Or.inl (hw _ (List.mem_of_getElem? (i := 18) rfl))) Via.refl e0 F_size_o0 (g := (mkF m 1 #[.val (.ref o0)] [(.ref o0)])) rfl rfl (hb hby d4_1)
  obtain ⟨fs, hr, hrun, hended, hW, hsame⟩ := X1.leave (v := some (.int w0_size)) (fun h => by rw [Bd.returns] at h; cases h) hlk
  refine ⟨_, _, pre0 _ ?_, hrun, hended, _, _, rfl, ?_, ⟨_, rfl⟩, hW, hsame.mono (by decide) (by decide)⟩
  · skip
    show Steps p.tables e below (s₁.setTop (mkF m 0 #[.val (.ref o0)] [])) _
    refine XS.aloadN X0.here hx rfl (hb hby d4_0) rfl rfl ?_
    show Steps p.tables e below (s₁.setTop (mkF m 1 #[.val (.ref o0)] [(.ref o0)])) _
    refine st1 _ ?_
    show Steps p.tables e below (T1.setTop (mkF m 4 #[.val (.ref o0)] [(.int w0_size)])) _
    exact retI X1 hx Bd.returns (hb hby d4_4) hr
  · skip
    show Q4 Z o0 w0_size h0 n0 _ T1.heap _
    rw [e1]
    exact ⟨N0, rfl, rfl⟩
theorem d5_0 : decode prog_8_method_7_code 0 = .ok (.aload_n 0, 1) := by decide +kernel
theorem d5_1 : decode prog_8_method_7_code 1 = .ok (.getfield 7, 3) := by decide +kernel
theorem d5_4 : decode prog_8_method_7_code 4 = .ok (.aload_n 0, 1) := by decide +kernel
theorem d5_5 : decode prog_8_method_7_code 5 = .ok (.getfield 13, 3) := by decide +kernel
theorem d5_8 : decode prog_8_method_7_code 8 = .ok (.invokestatic 17, 3) := by decide +kernel
theorem d5_11 : decode prog_8_method_7_code 11 = .ok (.areturn, 1) := by decide +kernel
theorem ef_ta0 (m : MethodId) (o0 : Addr) : entryFrame m #[(.ref o0)] 1 = mkF m 0 #[.val (.ref o0)] [] := by first | (simp [entryFrame, mkF, argsToLocals, Value.category]; done) | rfl
def Qta0 (Z : State) (o0 : Addr) (w1_values : Addr) (w10_e : Int32) (w11_e : Int32) (w12_e : Int32) (w13_e : Int32) (kA : ClassId) (h0 : Heap) (n0 : Nat) (v : Option Value) (h : Heap) (L : List Loc) : Prop := Fr n0 L ∧ ∃ (xta0_0 : Addr) (kta0_1 : ClassId), v = some (.ref xta0_0) ∧ h0.size ≤ xta0_0 ∧ Keep h0 h [] ∧ Exa Z h xta0_0 "[I" ∧ Arv Z h xta0_0 kta0_1 .int (0 : Int32) [] (.int (0 : Int32))
set_option maxRecDepth 65536 in
set_option maxHeartbeats 40000000 in
theorem rmta0 (l : Launch) (Z : State) (a0 : Array Value) (hw : ∀ d ∈ tables_1, d.before a0 Z = true) (ws : List Jvm.Cond) (o0 : Addr) (w1_values : Addr) (w10_e : Int32) (w11_e : Int32) (w12_e : Int32) (w13_e : Int32) (kA : ClassId) (h0 : Heap) (n0 : Nat) (Z0 : n0 ≤ h0.size) (E_o0 : Exa Z h0 o0 "com/example/vellum_index/vellumindex/IntList") (F_size_o0 : Fld Z h0 o0 "com/example/vellum_index/vellumindex/IntList" "size" "I" (.int (0 : Int32))) (F_values_o0 : Fld Z h0 o0 "com/example/vellum_index/vellumindex/IntList" "values" "[I" (.ref w1_values)) (E_w1_values : Exa Z h0 w1_values "[I") (V_w1_values : Arv Z h0 w1_values kA .int (4 : Int32) [(.int w10_e), (.int w11_e), (.int w12_e), (.int w13_e)] (.int (0 : Int32))) :
    MetFree l (⟨"com/example/vellum_index/vellumindex/IntList", "toArray", "()[I"⟩ : MethodName) (head1 (Jvm.Cond.code (⟨"com/example/vellum_index/vellumindex/IntList", "toArray", "()[I"⟩ : MethodName) prog_8_method_7_code 1 (some (.array .int)) :: ws) ({ frames := 2, cells := 1, slots := 0, locals := 32 } : Room)) (fun a U => a = #[(.ref o0)] ∧ Z.Warmed39 U.vm ∧ U.heap = h0) (fun _ _ _ _ _ => True) (fun _ U o U' => ∃ v L, o = .returned v ∧ Qta0 Z o0 w1_values w10_e w11_e w12_e w13_e kA h0 n0 v U'.heap L ∧ FrameEnd U o U' L ({ frames := 2, cells := 1, slots := 0, locals := 32 } : Room).cells ({ frames := 2, cells := 1, slots := 0, locals := 32 } : Room).slots) := by
  refine MetFree.of_bodySF (plainFor_of_name pn_com_example_vellum_index_vellumindex_IntList) hisR ?_
  intro p e s m args below meth c s₁ Bd hml0 hP hK
  obtain ⟨rfl, hZ, hh⟩ := hP
  have hx := Bd.exec
  have hby := Bd.bytes
  have hml : c.maxLocals = 1 := hml0
  have hown : s.vm.findClass "com/example/vellum_index/vellumindex/IntList" = some m.cls := findClass_of_methodNamed Bd.named
  have hnm := (name_of_methodNamed Bd.named Bd.method).1
  have hlk := BodyLoose.notSynchronized Bd
  have X0 : Stand p l e ({ frames := 2, cells := 1, slots := 0, locals := 32 } : Room) s m #[(.ref o0)] below meth c s₁ [] 0 0 := Stand.of_body Bd
  have e0 : s₁.heap = h0 := by rw [← hh, Bd.state]; rfl
  have N0 := Fr.nil n0
  have pre0 : ∀ t, Steps p.tables e below (s₁.setTop (mkF m 0 #[.val (.ref o0)] [])) t → Steps p.tables e below (s₁.setTop (entryFrame m #[(.ref o0)] 1)) t := fun t k => castTop (ef_ta0 m o0) k
  obtain ⟨T1, X1, e1, st1⟩ := getF X0 hx hZ hown (host := "") (Or.inl (hw _ (List.mem_of_getElem? (i := 11) rfl))) Via.refl e0 F_values_o0 (g := (mkF m 1 #[.val (.ref o0)] [(.ref o0)])) rfl rfl (hb hby d5_1)
  obtain ⟨T2, X2, e2, st2⟩ := getF X1 hx hZ hown (host := "") (Or.inl (hw _ (List.mem_of_getElem? (i := 18) rfl))) Via.refl e1 F_size_o0 (g := (mkF m 5 #[.val (.ref o0)] [(.ref o0), (.ref w1_values)])) rfl rfl (hb hby d5_5)
  obtain ⟨vr3, _, ⟨T3, L3, k3, n3⟩, -, X3, ⟨Lc3, hQ3, l3, y3, z3⟩, st3⟩ := Jvm.LawKit.callS X2 hx (y := (⟨"java/util/Arrays", "copyOf", "([II)[I"⟩ : MethodName)) hown (mvT hZ (hw _ (List.mem_of_getElem? (i := 30) rfl))) (mvT hZ (hw _ (List.mem_of_getElem? (i := 31) rfl))) (mvT hZ (hw _ (List.mem_of_getElem? (i := 32) rfl))) (mvT hZ (hw _ (List.mem_of_getElem? (i := 33) rfl))) (by decide) (backOf (W := 0) (rmcp4_0 l Z a0 hw [] w1_values w10_e w11_e w12_e w13_e kA h0 n0 Z0 E_w1_values V_w1_values) hZ (hw _ (List.mem_of_getElem? (i := 33) rfl)) (hw _ (List.mem_of_getElem? (i := 32) rfl)) (by decide) (by decide)) (g := (mkF m 8 #[.val (.ref o0)] [(.int (0 : Int32)), (.ref w1_values)])) rfl (by rw [hml]; rfl) (argsL := [(.ref w1_values), (.int (0 : Int32))]) (rest := []) (lenOf pd___II__I rfl) rfl (by show 2 * 0 + _ ≤ _; exact Nat.le_of_eq rfl) (hb hby d5_8) (fun _ _ => ⟨rfl, e2, (by decide : 0 + 1 ≤ _), (by decide : 0 + 0 ≤ _)⟩)
  dsimp only [Pt.U, Pt.locs, Pt.cells, Pt.slots] at X3 l3 y3 z3 st3 hQ3
  subst l3 y3 z3
  have N3q := (show _ ∧ _ from hQ3).1
  have hq3 := (show _ ∧ _ from hQ3).2
  clear hQ3
  obtain ⟨xcp4_0_0_3, kcp4_0_1_3, hq3x⟩ := hq3
  have hv3 := hq3x.1
  have szxcp4_0_0_3 := hq3x.2.1
  have K3 := hq3x.2.2.1
  have po3_0 := hq3x.2.2.2.1
  have po3_1 := hq3x.2.2.2.2
  clear hq3x
  subst hv3
  have ne4 : o0 ≠ xcp4_0_0_3 := Nat.ne_of_lt (Nat.lt_of_lt_of_le E_o0.lt szxcp4_0_0_3)
  have ne5 : w1_values ≠ xcp4_0_0_3 := Nat.ne_of_lt (Nat.lt_of_lt_of_le E_w1_values.lt szxcp4_0_0_3)
  have g6 : n0 ≤ xcp4_0_0_3 := Nat.le_trans Z0 szxcp4_0_0_3
  have sz7 : h0.size ≤ xcp4_0_0_3 := Nat.le_trans (Nat.le_refl h0.size) szxcp4_0_0_3
  have z8 : n0 ≤ T3.heap.size := Nat.le_trans Z0 K3.1
  have hs9 : h0.size ≤ T3.heap.size := Nat.le_trans (Nat.le_refl h0.size) K3.1
  have N3 := Fr.app N0 N3q
  obtain ⟨fs, hr, hrun, hended, hW, hsame⟩ := X3.leave (v := some (.ref xcp4_0_0_3)) (fun h => by rw [Bd.returns] at h; cases h) hlk
  refine ⟨_, _, pre0 _ ?_, hrun, hended, _, _, rfl, ?_, ⟨_, rfl⟩, hW, hsame.mono (by decide) (by decide)⟩
  · skip
    show Steps p.tables e below (s₁.setTop (mkF m 0 #[.val (.ref o0)] [])) _
    refine XS.aloadN X0.here hx rfl (hb hby d5_0) rfl rfl ?_
    show Steps p.tables e below (s₁.setTop (mkF m 1 #[.val (.ref o0)] [(.ref o0)])) _
    refine st1 _ ?_
    show Steps p.tables e below (T1.setTop (mkF m 4 #[.val (.ref o0)] [(.ref w1_values)])) _
    refine XS.aloadN X1.here hx rfl (hb hby d5_4) rfl rfl ?_
    show Steps p.tables e below (T1.setTop (mkF m 5 #[.val (.ref o0)] [(.ref o0), (.ref w1_values)])) _
    refine st2 _ ?_
    show Steps p.tables e below (T2.setTop (mkF m 8 #[.val (.ref o0)] [(.int (0 : Int32)), (.ref w1_values)])) _
    refine st3 _ ?_
    show Steps p.tables e below (T3.setTop (mkF m 11 #[.val (.ref o0)] [(.ref xcp4_0_0_3)])) _
    exact X3.areturnOut hx rfl Bd.returns rfl (hb hby d5_11) hr
  · skip
    show Qta0 Z o0 w1_values w10_e w11_e w12_e w13_e kA h0 n0 _ T3.heap _
    exact ⟨N3, xcp4_0_0_3, kcp4_0_1_3, rfl, sz7, ((Keep.refl h0 []).trans K3 all0), po3_0, po3_1⟩
theorem ef_ta1 (m : MethodId) (o0 : Addr) : entryFrame m #[(.ref o0)] 1 = mkF m 0 #[.val (.ref o0)] [] := by first | (simp [entryFrame, mkF, argsToLocals, Value.category]; done) | rfl
def Qta1 (Z : State) (o0 : Addr) (w1_values : Addr) (w10_e : Int32) (w11_e : Int32) (w12_e : Int32) (w13_e : Int32) (kA : ClassId) (h0 : Heap) (n0 : Nat) (v : Option Value) (h : Heap) (L : List Loc) : Prop := Fr n0 L ∧ ∃ (xta1_0 : Addr) (kta1_1 : ClassId), v = some (.ref xta1_0) ∧ h0.size ≤ xta1_0 ∧ Keep h0 h [] ∧ Exa Z h xta1_0 "[I" ∧ Arv Z h xta1_0 kta1_1 .int (1 : Int32) [(.int w10_e)] (.int (0 : Int32))
set_option maxRecDepth 65536 in
set_option maxHeartbeats 40000000 in
theorem rmta1 (l : Launch) (Z : State) (a0 : Array Value) (hw : ∀ d ∈ tables_1, d.before a0 Z = true) (ws : List Jvm.Cond) (o0 : Addr) (w1_values : Addr) (w10_e : Int32) (w11_e : Int32) (w12_e : Int32) (w13_e : Int32) (kA : ClassId) (h0 : Heap) (n0 : Nat) (Z0 : n0 ≤ h0.size) (E_o0 : Exa Z h0 o0 "com/example/vellum_index/vellumindex/IntList") (F_size_o0 : Fld Z h0 o0 "com/example/vellum_index/vellumindex/IntList" "size" "I" (.int (1 : Int32))) (F_values_o0 : Fld Z h0 o0 "com/example/vellum_index/vellumindex/IntList" "values" "[I" (.ref w1_values)) (E_w1_values : Exa Z h0 w1_values "[I") (V_w1_values : Arv Z h0 w1_values kA .int (4 : Int32) [(.int w10_e), (.int w11_e), (.int w12_e), (.int w13_e)] (.int (0 : Int32))) :
    MetFree l (⟨"com/example/vellum_index/vellumindex/IntList", "toArray", "()[I"⟩ : MethodName) (head1 (Jvm.Cond.code (⟨"com/example/vellum_index/vellumindex/IntList", "toArray", "()[I"⟩ : MethodName) prog_8_method_7_code 1 (some (.array .int)) :: ws) ({ frames := 2, cells := 1, slots := 1, locals := 32 } : Room)) (fun a U => a = #[(.ref o0)] ∧ Z.Warmed39 U.vm ∧ U.heap = h0) (fun _ _ _ _ _ => True) (fun _ U o U' => ∃ v L, o = .returned v ∧ Qta1 Z o0 w1_values w10_e w11_e w12_e w13_e kA h0 n0 v U'.heap L ∧ FrameEnd U o U' L ({ frames := 2, cells := 1, slots := 1, locals := 32 } : Room).cells ({ frames := 2, cells := 1, slots := 1, locals := 32 } : Room).slots) := by
  refine MetFree.of_bodySF (plainFor_of_name pn_com_example_vellum_index_vellumindex_IntList) hisR ?_
  intro p e s m args below meth c s₁ Bd hml0 hP hK
  obtain ⟨rfl, hZ, hh⟩ := hP
  have hx := Bd.exec
  have hby := Bd.bytes
  have hml : c.maxLocals = 1 := hml0
  have hown : s.vm.findClass "com/example/vellum_index/vellumindex/IntList" = some m.cls := findClass_of_methodNamed Bd.named
  have hnm := (name_of_methodNamed Bd.named Bd.method).1
  have hlk := BodyLoose.notSynchronized Bd
  have X0 : Stand p l e ({ frames := 2, cells := 1, slots := 1, locals := 32 } : Room) s m #[(.ref o0)] below meth c s₁ [] 0 0 := Stand.of_body Bd
  have e0 : s₁.heap = h0 := by rw [← hh, Bd.state]; rfl
  have N0 := Fr.nil n0
  have pre0 : ∀ t, Steps p.tables e below (s₁.setTop (mkF m 0 #[.val (.ref o0)] [])) t → Steps p.tables e below (s₁.setTop (entryFrame m #[(.ref o0)] 1)) t := fun t k => castTop (ef_ta1 m o0) k
  obtain ⟨T1, X1, e1, st1⟩ := getF X0 hx hZ hown (host := "") (Or.inl (hw _ (List.mem_of_getElem? (i := 11) rfl))) Via.refl e0 F_values_o0 (g := (mkF m 1 #[.val (.ref o0)] [(.ref o0)])) rfl rfl (hb hby d5_1)
  obtain ⟨T2, X2, e2, st2⟩ := getF X1 hx hZ hown (host := "") (Or.inl (hw _ (List.mem_of_getElem? (i := 18) rfl))) Via.refl e1 F_size_o0 (g := (mkF m 5 #[.val (.ref o0)] [(.ref o0), (.ref w1_values)])) rfl rfl (hb hby d5_5)
  obtain ⟨vr3, _, ⟨T3, L3, k3, n3⟩, -, X3, ⟨Lc3, hQ3, l3, y3, z3⟩, st3⟩ := Jvm.LawKit.callS X2 hx (y := (⟨"java/util/Arrays", "copyOf", "([II)[I"⟩ : MethodName)) hown (mvT hZ (hw _ (List.mem_of_getElem? (i := 30) rfl))) (mvT hZ (hw _ (List.mem_of_getElem? (i := 31) rfl))) (mvT hZ (hw _ (List.mem_of_getElem? (i := 32) rfl))) (mvT hZ (hw _ (List.mem_of_getElem? (i := 33) rfl))) (by decide) (backOf (W := 0) (rmcp4_1 l Z a0 hw [] w1_values w10_e w11_e w12_e w13_e kA h0 n0 Z0 E_w1_values V_w1_values) hZ (hw _ (List.mem_of_getElem? (i := 33) rfl)) (hw _ (List.mem_of_getElem? (i := 32) rfl)) (by decide) (by decide)) (g := (mkF m 8 #[.val (.ref o0)] [(.int (1 : Int32)), (.ref w1_values)])) rfl (by rw [hml]; rfl) (argsL := [(.ref w1_values), (.int (1 : Int32))]) (rest := []) (lenOf pd___II__I rfl) rfl (by show 2 * 0 + _ ≤ _; exact Nat.le_of_eq rfl) (hb hby d5_8) (fun _ _ => ⟨rfl, e2, (by decide : 0 + 1 ≤ _), (by decide : 0 + 1 ≤ _)⟩)
  dsimp only [Pt.U, Pt.locs, Pt.cells, Pt.slots] at X3 l3 y3 z3 st3 hQ3
  subst l3 y3 z3
  have N3q := (show _ ∧ _ from hQ3).1
  have hq3 := (show _ ∧ _ from hQ3).2
  clear hQ3
  obtain ⟨xcp4_1_0_3, kcp4_1_1_3, hq3x⟩ := hq3
  have hv3 := hq3x.1
  have szxcp4_1_0_3 := hq3x.2.1
  have K3 := hq3x.2.2.1
  have po3_0 := hq3x.2.2.2.1
  have po3_1 := hq3x.2.2.2.2
  clear hq3x
  subst hv3
  have ne4 : o0 ≠ xcp4_1_0_3 := Nat.ne_of_lt (Nat.lt_of_lt_of_le E_o0.lt szxcp4_1_0_3)
  have ne5 : w1_values ≠ xcp4_1_0_3 := Nat.ne_of_lt (Nat.lt_of_lt_of_le E_w1_values.lt szxcp4_1_0_3)
  have g6 : n0 ≤ xcp4_1_0_3 := Nat.le_trans Z0 szxcp4_1_0_3
  have sz7 : h0.size ≤ xcp4_1_0_3 := Nat.le_trans (Nat.le_refl h0.size) szxcp4_1_0_3
  have z8 : n0 ≤ T3.heap.size := Nat.le_trans Z0 K3.1
  have hs9 : h0.size ≤ T3.heap.size := Nat.le_trans (Nat.le_refl h0.size) K3.1
  have N3 := Fr.app N0 N3q
  obtain ⟨fs, hr, hrun, hended, hW, hsame⟩ := X3.leave (v := some (.ref xcp4_1_0_3)) (fun h => by rw [Bd.returns] at h; cases h) hlk
  refine ⟨_, _, pre0 _ ?_, hrun, hended, _, _, rfl, ?_, ⟨_, rfl⟩, hW, hsame.mono (by decide) (by decide)⟩
  · skip
    show Steps p.tables e below (s₁.setTop (mkF m 0 #[.val (.ref o0)] [])) _
    refine XS.aloadN X0.here hx rfl (hb hby d5_0) rfl rfl ?_
    show Steps p.tables e below (s₁.setTop (mkF m 1 #[.val (.ref o0)] [(.ref o0)])) _
    refine st1 _ ?_
    show Steps p.tables e below (T1.setTop (mkF m 4 #[.val (.ref o0)] [(.ref w1_values)])) _
    refine XS.aloadN X1.here hx rfl (hb hby d5_4) rfl rfl ?_
    show Steps p.tables e below (T1.setTop (mkF m 5 #[.val (.ref o0)] [(.ref o0), (.ref w1_values)])) _
    refine st2 _ ?_
    show Steps p.tables e below (T2.setTop (mkF m 8 #[.val (.ref o0)] [(.int (1 : Int32)), (.ref w1_values)])) _
    refine st3 _ ?_
    show Steps p.tables e below (T3.setTop (mkF m 11 #[.val (.ref o0)] [(.ref xcp4_1_0_3)])) _
    exact X3.areturnOut hx rfl Bd.returns rfl (hb hby d5_11) hr
  · skip
    show Qta1 Z o0 w1_values w10_e w11_e w12_e w13_e kA h0 n0 _ T3.heap _
    exact ⟨N3, xcp4_1_0_3, kcp4_1_1_3, rfl, sz7, ((Keep.refl h0 []).trans K3 all0), po3_0, po3_1⟩
theorem ef_ta2 (m : MethodId) (o0 : Addr) : entryFrame m #[(.ref o0)] 1 = mkF m 0 #[.val (.ref o0)] [] := by first | (simp [entryFrame, mkF, argsToLocals, Value.category]; done) | rfl
def Qta2 (Z : State) (o0 : Addr) (w1_values : Addr) (w10_e : Int32) (w11_e : Int32) (w12_e : Int32) (w13_e : Int32) (kA : ClassId) (h0 : Heap) (n0 : Nat) (v : Option Value) (h : Heap) (L : List Loc) : Prop := Fr n0 L ∧ ∃ (xta2_0 : Addr) (kta2_1 : ClassId), v = some (.ref xta2_0) ∧ h0.size ≤ xta2_0 ∧ Keep h0 h [] ∧ Exa Z h xta2_0 "[I" ∧ Arv Z h xta2_0 kta2_1 .int (2 : Int32) [(.int w10_e), (.int w11_e)] (.int (0 : Int32))
set_option maxRecDepth 65536 in
set_option maxHeartbeats 40000000 in
theorem rmta2 (l : Launch) (Z : State) (a0 : Array Value) (hw : ∀ d ∈ tables_1, d.before a0 Z = true) (ws : List Jvm.Cond) (o0 : Addr) (w1_values : Addr) (w10_e : Int32) (w11_e : Int32) (w12_e : Int32) (w13_e : Int32) (kA : ClassId) (h0 : Heap) (n0 : Nat) (Z0 : n0 ≤ h0.size) (E_o0 : Exa Z h0 o0 "com/example/vellum_index/vellumindex/IntList") (F_size_o0 : Fld Z h0 o0 "com/example/vellum_index/vellumindex/IntList" "size" "I" (.int (2 : Int32))) (F_values_o0 : Fld Z h0 o0 "com/example/vellum_index/vellumindex/IntList" "values" "[I" (.ref w1_values)) (E_w1_values : Exa Z h0 w1_values "[I") (V_w1_values : Arv Z h0 w1_values kA .int (4 : Int32) [(.int w10_e), (.int w11_e), (.int w12_e), (.int w13_e)] (.int (0 : Int32))) :
    MetFree l (⟨"com/example/vellum_index/vellumindex/IntList", "toArray", "()[I"⟩ : MethodName) (head1 (Jvm.Cond.code (⟨"com/example/vellum_index/vellumindex/IntList", "toArray", "()[I"⟩ : MethodName) prog_8_method_7_code 1 (some (.array .int)) :: ws) ({ frames := 2, cells := 1, slots := 2, locals := 32 } : Room)) (fun a U => a = #[(.ref o0)] ∧ Z.Warmed39 U.vm ∧ U.heap = h0) (fun _ _ _ _ _ => True) (fun _ U o U' => ∃ v L, o = .returned v ∧ Qta2 Z o0 w1_values w10_e w11_e w12_e w13_e kA h0 n0 v U'.heap L ∧ FrameEnd U o U' L ({ frames := 2, cells := 1, slots := 2, locals := 32 } : Room).cells ({ frames := 2, cells := 1, slots := 2, locals := 32 } : Room).slots) := by
  refine MetFree.of_bodySF (plainFor_of_name pn_com_example_vellum_index_vellumindex_IntList) hisR ?_
  intro p e s m args below meth c s₁ Bd hml0 hP hK
  obtain ⟨rfl, hZ, hh⟩ := hP
  have hx := Bd.exec
  have hby := Bd.bytes
  have hml : c.maxLocals = 1 := hml0
  have hown : s.vm.findClass "com/example/vellum_index/vellumindex/IntList" = some m.cls := findClass_of_methodNamed Bd.named
  have hnm := (name_of_methodNamed Bd.named Bd.method).1
  have hlk := BodyLoose.notSynchronized Bd
  have X0 : Stand p l e ({ frames := 2, cells := 1, slots := 2, locals := 32 } : Room) s m #[(.ref o0)] below meth c s₁ [] 0 0 := Stand.of_body Bd
  have e0 : s₁.heap = h0 := by rw [← hh, Bd.state]; rfl
  have N0 := Fr.nil n0
  have pre0 : ∀ t, Steps p.tables e below (s₁.setTop (mkF m 0 #[.val (.ref o0)] [])) t → Steps p.tables e below (s₁.setTop (entryFrame m #[(.ref o0)] 1)) t := fun t k => castTop (ef_ta2 m o0) k
  obtain ⟨T1, X1, e1, st1⟩ := getF X0 hx hZ hown (host := "") (Or.inl (hw _ (List.mem_of_getElem? (i := 11) rfl))) Via.refl e0 F_values_o0 (g := (mkF m 1 #[.val (.ref o0)] [(.ref o0)])) rfl rfl (hb hby d5_1)
  obtain ⟨T2, X2, e2, st2⟩ := getF X1 hx hZ hown (host := "") (Or.inl (hw _ (List.mem_of_getElem? (i := 18) rfl))) Via.refl e1 F_size_o0 (g := (mkF m 5 #[.val (.ref o0)] [(.ref o0), (.ref w1_values)])) rfl rfl (hb hby d5_5)
  obtain ⟨vr3, _, ⟨T3, L3, k3, n3⟩, -, X3, ⟨Lc3, hQ3, l3, y3, z3⟩, st3⟩ := Jvm.LawKit.callS X2 hx (y := (⟨"java/util/Arrays", "copyOf", "([II)[I"⟩ : MethodName)) hown (mvT hZ (hw _ (List.mem_of_getElem? (i := 30) rfl))) (mvT hZ (hw _ (List.mem_of_getElem? (i := 31) rfl))) (mvT hZ (hw _ (List.mem_of_getElem? (i := 32) rfl))) (mvT hZ (hw _ (List.mem_of_getElem? (i := 33) rfl))) (by decide) (backOf (W := 0) (rmcp4_2 l Z a0 hw [] w1_values w10_e w11_e w12_e w13_e kA h0 n0 Z0 E_w1_values V_w1_values) hZ (hw _ (List.mem_of_getElem? (i := 33) rfl)) (hw _ (List.mem_of_getElem? (i := 32) rfl)) (by decide) (by decide)) (g := (mkF m 8 #[.val (.ref o0)] [(.int (2 : Int32)), (.ref w1_values)])) rfl (by rw [hml]; rfl) (argsL := [(.ref w1_values), (.int (2 : Int32))]) (rest := []) (lenOf pd___II__I rfl) rfl (by show 2 * 0 + _ ≤ _; exact Nat.le_of_eq rfl) (hb hby d5_8) (fun _ _ => ⟨rfl, e2, (by decide : 0 + 1 ≤ _), (by decide : 0 + 2 ≤ _)⟩)
  dsimp only [Pt.U, Pt.locs, Pt.cells, Pt.slots] at X3 l3 y3 z3 st3 hQ3
  subst l3 y3 z3
  have N3q := (show _ ∧ _ from hQ3).1
  have hq3 := (show _ ∧ _ from hQ3).2
  clear hQ3
  obtain ⟨xcp4_2_0_3, kcp4_2_1_3, hq3x⟩ := hq3
  have hv3 := hq3x.1
  have szxcp4_2_0_3 := hq3x.2.1
  have K3 := hq3x.2.2.1
  have po3_0 := hq3x.2.2.2.1
  have po3_1 := hq3x.2.2.2.2
  clear hq3x
  subst hv3
  have ne4 : o0 ≠ xcp4_2_0_3 := Nat.ne_of_lt (Nat.lt_of_lt_of_le E_o0.lt szxcp4_2_0_3)
  have ne5 : w1_values ≠ xcp4_2_0_3 := Nat.ne_of_lt (Nat.lt_of_lt_of_le E_w1_values.lt szxcp4_2_0_3)
  have g6 : n0 ≤ xcp4_2_0_3 := Nat.le_trans Z0 szxcp4_2_0_3
  have sz7 : h0.size ≤ xcp4_2_0_3 := Nat.le_trans (Nat.le_refl h0.size) szxcp4_2_0_3
  have z8 : n0 ≤ T3.heap.size := Nat.le_trans Z0 K3.1
  have hs9 : h0.size ≤ T3.heap.size := Nat.le_trans (Nat.le_refl h0.size) K3.1
  have N3 := Fr.app N0 N3q
  obtain ⟨fs, hr, hrun, hended, hW, hsame⟩ := X3.leave (v := some (.ref xcp4_2_0_3)) (fun h => by rw [Bd.returns] at h; cases h) hlk
  refine ⟨_, _, pre0 _ ?_, hrun, hended, _, _, rfl, ?_, ⟨_, rfl⟩, hW, hsame.mono (by decide) (by decide)⟩
  · skip
    show Steps p.tables e below (s₁.setTop (mkF m 0 #[.val (.ref o0)] [])) _
    refine XS.aloadN X0.here hx rfl (hb hby d5_0) rfl rfl ?_
    show Steps p.tables e below (s₁.setTop (mkF m 1 #[.val (.ref o0)] [(.ref o0)])) _
    refine st1 _ ?_
    show Steps p.tables e below (T1.setTop (mkF m 4 #[.val (.ref o0)] [(.ref w1_values)])) _
    refine XS.aloadN X1.here hx rfl (hb hby d5_4) rfl rfl ?_
    show Steps p.tables e below (T1.setTop (mkF m 5 #[.val (.ref o0)] [(.ref o0), (.ref w1_values)])) _
    refine st2 _ ?_
    show Steps p.tables e below (T2.setTop (mkF m 8 #[.val (.ref o0)] [(.int (2 : Int32)), (.ref w1_values)])) _
    refine st3 _ ?_
    show Steps p.tables e below (T3.setTop (mkF m 11 #[.val (.ref o0)] [(.ref xcp4_2_0_3)])) _
    exact X3.areturnOut hx rfl Bd.returns rfl (hb hby d5_11) hr
  · skip
    show Qta2 Z o0 w1_values w10_e w11_e w12_e w13_e kA h0 n0 _ T3.heap _
    exact ⟨N3, xcp4_2_0_3, kcp4_2_1_3, rfl, sz7, ((Keep.refl h0 []).trans K3 all0), po3_0, po3_1⟩
theorem ef_ta3 (m : MethodId) (o0 : Addr) : entryFrame m #[(.ref o0)] 1 = mkF m 0 #[.val (.ref o0)] [] := by first | (simp [entryFrame, mkF, argsToLocals, Value.category]; done) | rfl
def Qta3 (Z : State) (o0 : Addr) (w1_values : Addr) (w10_e : Int32) (w11_e : Int32) (w12_e : Int32) (w13_e : Int32) (kA : ClassId) (h0 : Heap) (n0 : Nat) (v : Option Value) (h : Heap) (L : List Loc) : Prop := Fr n0 L ∧ ∃ (xta3_0 : Addr) (kta3_1 : ClassId), v = some (.ref xta3_0) ∧ h0.size ≤ xta3_0 ∧ Keep h0 h [] ∧ Exa Z h xta3_0 "[I" ∧ Arv Z h xta3_0 kta3_1 .int (3 : Int32) [(.int w10_e), (.int w11_e), (.int w12_e)] (.int (0 : Int32))
set_option maxRecDepth 65536 in
set_option maxHeartbeats 40000000 in
theorem rmta3 (l : Launch) (Z : State) (a0 : Array Value) (hw : ∀ d ∈ tables_1, d.before a0 Z = true) (ws : List Jvm.Cond) (o0 : Addr) (w1_values : Addr) (w10_e : Int32) (w11_e : Int32) (w12_e : Int32) (w13_e : Int32) (kA : ClassId) (h0 : Heap) (n0 : Nat) (Z0 : n0 ≤ h0.size) (E_o0 : Exa Z h0 o0 "com/example/vellum_index/vellumindex/IntList") (F_size_o0 : Fld Z h0 o0 "com/example/vellum_index/vellumindex/IntList" "size" "I" (.int (3 : Int32))) (F_values_o0 : Fld Z h0 o0 "com/example/vellum_index/vellumindex/IntList" "values" "[I" (.ref w1_values)) (E_w1_values : Exa Z h0 w1_values "[I") (V_w1_values : Arv Z h0 w1_values kA .int (4 : Int32) [(.int w10_e), (.int w11_e), (.int w12_e), (.int w13_e)] (.int (0 : Int32))) :
    MetFree l (⟨"com/example/vellum_index/vellumindex/IntList", "toArray", "()[I"⟩ : MethodName) (head1 (Jvm.Cond.code (⟨"com/example/vellum_index/vellumindex/IntList", "toArray", "()[I"⟩ : MethodName) prog_8_method_7_code 1 (some (.array .int)) :: ws) ({ frames := 2, cells := 1, slots := 3, locals := 32 } : Room)) (fun a U => a = #[(.ref o0)] ∧ Z.Warmed39 U.vm ∧ U.heap = h0) (fun _ _ _ _ _ => True) (fun _ U o U' => ∃ v L, o = .returned v ∧ Qta3 Z o0 w1_values w10_e w11_e w12_e w13_e kA h0 n0 v U'.heap L ∧ FrameEnd U o U' L ({ frames := 2, cells := 1, slots := 3, locals := 32 } : Room).cells ({ frames := 2, cells := 1, slots := 3, locals := 32 } : Room).slots) := by
  refine MetFree.of_bodySF (plainFor_of_name pn_com_example_vellum_index_vellumindex_IntList) hisR ?_
  intro p e s m args below meth c s₁ Bd hml0 hP hK
  obtain ⟨rfl, hZ, hh⟩ := hP
  have hx := Bd.exec
  have hby := Bd.bytes
  have hml : c.maxLocals = 1 := hml0
  have hown : s.vm.findClass "com/example/vellum_index/vellumindex/IntList" = some m.cls := findClass_of_methodNamed Bd.named
  have hnm := (name_of_methodNamed Bd.named Bd.method).1
  have hlk := BodyLoose.notSynchronized Bd
  have X0 : Stand p l e ({ frames := 2, cells := 1, slots := 3, locals := 32 } : Room) s m #[(.ref o0)] below meth c s₁ [] 0 0 := Stand.of_body Bd
  have e0 : s₁.heap = h0 := by rw [← hh, Bd.state]; rfl
  have N0 := Fr.nil n0
  have pre0 : ∀ t, Steps p.tables e below (s₁.setTop (mkF m 0 #[.val (.ref o0)] [])) t → Steps p.tables e below (s₁.setTop (entryFrame m #[(.ref o0)] 1)) t := fun t k => castTop (ef_ta3 m o0) k
  obtain ⟨T1, X1, e1, st1⟩ := getF X0 hx hZ hown (host := "") (Or.inl (hw _ (List.mem_of_getElem? (i := 11) rfl))) Via.refl e0 F_values_o0 (g := (mkF m 1 #[.val (.ref o0)] [(.ref o0)])) rfl rfl (hb hby d5_1)
  obtain ⟨T2, X2, e2, st2⟩ := getF X1 hx hZ hown (host := "") (Or.inl (hw _ (List.mem_of_getElem? (i := 18) rfl))) Via.refl e1 F_size_o0 (g := (mkF m 5 #[.val (.ref o0)] [(.ref o0), (.ref w1_values)])) rfl rfl (hb hby d5_5)
  obtain ⟨vr3, _, ⟨T3, L3, k3, n3⟩, -, X3, ⟨Lc3, hQ3, l3, y3, z3⟩, st3⟩ := Jvm.LawKit.callS X2 hx (y := (⟨"java/util/Arrays", "copyOf", "([II)[I"⟩ : MethodName)) hown (mvT hZ (hw _ (List.mem_of_getElem? (i := 30) rfl))) (mvT hZ (hw _ (List.mem_of_getElem? (i := 31) rfl))) (mvT hZ (hw _ (List.mem_of_getElem? (i := 32) rfl))) (mvT hZ (hw _ (List.mem_of_getElem? (i := 33) rfl))) (by decide) (backOf (W := 0) (rmcp4_3 l Z a0 hw [] w1_values w10_e w11_e w12_e w13_e kA h0 n0 Z0 E_w1_values V_w1_values) hZ (hw _ (List.mem_of_getElem? (i := 33) rfl)) (hw _ (List.mem_of_getElem? (i := 32) rfl)) (by decide) (by decide)) (g := (mkF m 8 #[.val (.ref o0)] [(.int (3 : Int32)), (.ref w1_values)])) rfl (by rw [hml]; rfl) (argsL := [(.ref w1_values), (.int (3 : Int32))]) (rest := []) (lenOf pd___II__I rfl) rfl (by show 2 * 0 + _ ≤ _; exact Nat.le_of_eq rfl) (hb hby d5_8) (fun _ _ => ⟨rfl, e2, (by decide : 0 + 1 ≤ _), (by decide : 0 + 3 ≤ _)⟩)
  dsimp only [Pt.U, Pt.locs, Pt.cells, Pt.slots] at X3 l3 y3 z3 st3 hQ3
  subst l3 y3 z3
  have N3q := (show _ ∧ _ from hQ3).1
  have hq3 := (show _ ∧ _ from hQ3).2
  clear hQ3
  obtain ⟨xcp4_3_0_3, kcp4_3_1_3, hq3x⟩ := hq3
  have hv3 := hq3x.1
  have szxcp4_3_0_3 := hq3x.2.1
  have K3 := hq3x.2.2.1
  have po3_0 := hq3x.2.2.2.1
  have po3_1 := hq3x.2.2.2.2
  clear hq3x
  subst hv3
  have ne4 : o0 ≠ xcp4_3_0_3 := Nat.ne_of_lt (Nat.lt_of_lt_of_le E_o0.lt szxcp4_3_0_3)
  have ne5 : w1_values ≠ xcp4_3_0_3 := Nat.ne_of_lt (Nat.lt_of_lt_of_le E_w1_values.lt szxcp4_3_0_3)
  have g6 : n0 ≤ xcp4_3_0_3 := Nat.le_trans Z0 szxcp4_3_0_3
  have sz7 : h0.size ≤ xcp4_3_0_3 := Nat.le_trans (Nat.le_refl h0.size) szxcp4_3_0_3
  have z8 : n0 ≤ T3.heap.size := Nat.le_trans Z0 K3.1
  have hs9 : h0.size ≤ T3.heap.size := Nat.le_trans (Nat.le_refl h0.size) K3.1
  have N3 := Fr.app N0 N3q
  obtain ⟨fs, hr, hrun, hended, hW, hsame⟩ := X3.leave (v := some (.ref xcp4_3_0_3)) (fun h => by rw [Bd.returns] at h; cases h) hlk
  refine ⟨_, _, pre0 _ ?_, hrun, hended, _, _, rfl, ?_, ⟨_, rfl⟩, hW, hsame.mono (by decide) (by decide)⟩
  · skip
    show Steps p.tables e below (s₁.setTop (mkF m 0 #[.val (.ref o0)] [])) _
    refine XS.aloadN X0.here hx rfl (hb hby d5_0) rfl rfl ?_
    show Steps p.tables e below (s₁.setTop (mkF m 1 #[.val (.ref o0)] [(.ref o0)])) _
    refine st1 _ ?_
    show Steps p.tables e below (T1.setTop (mkF m 4 #[.val (.ref o0)] [(.ref w1_values)])) _
    refine XS.aloadN X1.here hx rfl (hb hby d5_4) rfl rfl ?_
    show Steps p.tables e below (T1.setTop (mkF m 5 #[.val (.ref o0)] [(.ref o0), (.ref w1_values)])) _
    refine st2 _ ?_
    show Steps p.tables e below (T2.setTop (mkF m 8 #[.val (.ref o0)] [(.int (3 : Int32)), (.ref w1_values)])) _
    refine st3 _ ?_
    show Steps p.tables e below (T3.setTop (mkF m 11 #[.val (.ref o0)] [(.ref xcp4_3_0_3)])) _
    exact X3.areturnOut hx rfl Bd.returns rfl (hb hby d5_11) hr
  · skip
    show Qta3 Z o0 w1_values w10_e w11_e w12_e w13_e kA h0 n0 _ T3.heap _
    exact ⟨N3, xcp4_3_0_3, kcp4_3_1_3, rfl, sz7, ((Keep.refl h0 []).trans K3 all0), po3_0, po3_1⟩
theorem ef_ta4 (m : MethodId) (o0 : Addr) : entryFrame m #[(.ref o0)] 1 = mkF m 0 #[.val (.ref o0)] [] := by first | (simp [entryFrame, mkF, argsToLocals, Value.category]; done) | rfl
def Qta4 (Z : State) (o0 : Addr) (w1_values : Addr) (w10_e : Int32) (w11_e : Int32) (w12_e : Int32) (w13_e : Int32) (kA : ClassId) (h0 : Heap) (n0 : Nat) (v : Option Value) (h : Heap) (L : List Loc) : Prop := Fr n0 L ∧ ∃ (xta4_0 : Addr), v = some (.ref xta4_0) ∧ h0.size ≤ xta4_0 ∧ Keep h0 h [] ∧ Exa Z h xta4_0 "[I" ∧ Arv Z h xta4_0 kA .int (4 : Int32) [(.int w10_e), (.int w11_e), (.int w12_e), (.int w13_e)] (.int (0 : Int32))
set_option maxRecDepth 65536 in
set_option maxHeartbeats 40000000 in
theorem rmta4 (l : Launch) (Z : State) (a0 : Array Value) (hw : ∀ d ∈ tables_1, d.before a0 Z = true) (ws : List Jvm.Cond) (o0 : Addr) (w1_values : Addr) (w10_e : Int32) (w11_e : Int32) (w12_e : Int32) (w13_e : Int32) (kA : ClassId) (h0 : Heap) (n0 : Nat) (Z0 : n0 ≤ h0.size) (E_o0 : Exa Z h0 o0 "com/example/vellum_index/vellumindex/IntList") (F_size_o0 : Fld Z h0 o0 "com/example/vellum_index/vellumindex/IntList" "size" "I" (.int (4 : Int32))) (F_values_o0 : Fld Z h0 o0 "com/example/vellum_index/vellumindex/IntList" "values" "[I" (.ref w1_values)) (E_w1_values : Exa Z h0 w1_values "[I") (V_w1_values : Arv Z h0 w1_values kA .int (4 : Int32) [(.int w10_e), (.int w11_e), (.int w12_e), (.int w13_e)] (.int (0 : Int32))) :
    MetFree l (⟨"com/example/vellum_index/vellumindex/IntList", "toArray", "()[I"⟩ : MethodName) (head1 (Jvm.Cond.code (⟨"com/example/vellum_index/vellumindex/IntList", "toArray", "()[I"⟩ : MethodName) prog_8_method_7_code 1 (some (.array .int)) :: ws) ({ frames := 2, cells := 1, slots := 4, locals := 28 } : Room)) (fun a U => a = #[(.ref o0)] ∧ Z.Warmed39 U.vm ∧ U.heap = h0) (fun _ _ _ _ _ => True) (fun _ U o U' => ∃ v L, o = .returned v ∧ Qta4 Z o0 w1_values w10_e w11_e w12_e w13_e kA h0 n0 v U'.heap L ∧ FrameEnd U o U' L ({ frames := 2, cells := 1, slots := 4, locals := 28 } : Room).cells ({ frames := 2, cells := 1, slots := 4, locals := 28 } : Room).slots) := by
  refine MetFree.of_bodySF (plainFor_of_name pn_com_example_vellum_index_vellumindex_IntList) hisR ?_
  intro p e s m args below meth c s₁ Bd hml0 hP hK
  obtain ⟨rfl, hZ, hh⟩ := hP
  have hx := Bd.exec
  have hby := Bd.bytes
  have hml : c.maxLocals = 1 := hml0
  have hown : s.vm.findClass "com/example/vellum_index/vellumindex/IntList" = some m.cls := findClass_of_methodNamed Bd.named
  have hnm := (name_of_methodNamed Bd.named Bd.method).1
  have hlk := BodyLoose.notSynchronized Bd
  have X0 : Stand p l e ({ frames := 2, cells := 1, slots := 4, locals := 28 } : Room) s m #[(.ref o0)] below meth c s₁ [] 0 0 := Stand.of_body Bd
  have e0 : s₁.heap = h0 := by rw [← hh, Bd.state]; rfl
  have N0 := Fr.nil n0
  have pre0 : ∀ t, Steps p.tables e below (s₁.setTop (mkF m 0 #[.val (.ref o0)] [])) t → Steps p.tables e below (s₁.setTop (entryFrame m #[(.ref o0)] 1)) t := fun t k => castTop (ef_ta4 m o0) k
  obtain ⟨T1, X1, e1, st1⟩ := getF X0 hx hZ hown (host := "") (Or.inl (hw _ (List.mem_of_getElem? (i := 11) rfl))) Via.refl e0 F_values_o0 (g := (mkF m 1 #[.val (.ref o0)] [(.ref o0)])) rfl rfl (hb hby d5_1)
  obtain ⟨T2, X2, e2, st2⟩ := getF X1 hx hZ hown (host := "") (Or.inl (hw _ (List.mem_of_getElem? (i := 18) rfl))) Via.refl e1 F_size_o0 (g := (mkF m 5 #[.val (.ref o0)] [(.ref o0), (.ref w1_values)])) rfl rfl (hb hby d5_5)
  obtain ⟨vr3, _, ⟨T3, L3, k3, n3⟩, -, X3, ⟨Lc3, hQ3, l3, y3, z3⟩, st3⟩ := Jvm.LawKit.callS X2 hx (y := (⟨"java/util/Arrays", "copyOf", "([II)[I"⟩ : MethodName)) hown (mvT hZ (hw _ (List.mem_of_getElem? (i := 30) rfl))) (mvT hZ (hw _ (List.mem_of_getElem? (i := 31) rfl))) (mvT hZ (hw _ (List.mem_of_getElem? (i := 32) rfl))) (mvT hZ (hw _ (List.mem_of_getElem? (i := 33) rfl))) (by decide) (backOf (W := 0) (rmcp4_4 l Z a0 hw [] w1_values w10_e w11_e w12_e w13_e kA h0 n0 Z0 E_w1_values V_w1_values) hZ (hw _ (List.mem_of_getElem? (i := 33) rfl)) (hw _ (List.mem_of_getElem? (i := 32) rfl)) (by decide) (by decide)) (g := (mkF m 8 #[.val (.ref o0)] [(.int (4 : Int32)), (.ref w1_values)])) rfl (by rw [hml]; rfl) (argsL := [(.ref w1_values), (.int (4 : Int32))]) (rest := []) (lenOf pd___II__I rfl) rfl (by show 2 * 0 + _ ≤ _; exact Nat.le_of_eq rfl) (hb hby d5_8) (fun _ _ => ⟨rfl, e2, (by decide : 0 + 1 ≤ _), (by decide : 0 + 4 ≤ _)⟩)
  dsimp only [Pt.U, Pt.locs, Pt.cells, Pt.slots] at X3 l3 y3 z3 st3 hQ3
  subst l3 y3 z3
  have N3q := (show _ ∧ _ from hQ3).1
  have hq3 := (show _ ∧ _ from hQ3).2
  clear hQ3
  obtain ⟨xcp4_4_0_3, hq3x⟩ := hq3
  have hv3 := hq3x.1
  have szxcp4_4_0_3 := hq3x.2.1
  have K3 := hq3x.2.2.1
  have po3_0 := hq3x.2.2.2.1
  have po3_1 := hq3x.2.2.2.2
  clear hq3x
  subst hv3
  have ne4 : o0 ≠ xcp4_4_0_3 := Nat.ne_of_lt (Nat.lt_of_lt_of_le E_o0.lt szxcp4_4_0_3)
  have ne5 : w1_values ≠ xcp4_4_0_3 := Nat.ne_of_lt (Nat.lt_of_lt_of_le E_w1_values.lt szxcp4_4_0_3)
  have g6 : n0 ≤ xcp4_4_0_3 := Nat.le_trans Z0 szxcp4_4_0_3
  have sz7 : h0.size ≤ xcp4_4_0_3 := Nat.le_trans (Nat.le_refl h0.size) szxcp4_4_0_3
  have z8 : n0 ≤ T3.heap.size := Nat.le_trans Z0 K3.1
  have hs9 : h0.size ≤ T3.heap.size := Nat.le_trans (Nat.le_refl h0.size) K3.1
  have N3 := Fr.app N0 N3q
  obtain ⟨fs, hr, hrun, hended, hW, hsame⟩ := X3.leave (v := some (.ref xcp4_4_0_3)) (fun h => by rw [Bd.returns] at h; cases h) hlk
  refine ⟨_, _, pre0 _ ?_, hrun, hended, _, _, rfl, ?_, ⟨_, rfl⟩, hW, hsame.mono (by decide) (by decide)⟩
  · skip
    show Steps p.tables e below (s₁.setTop (mkF m 0 #[.val (.ref o0)] [])) _
    refine XS.aloadN X0.here hx rfl (hb hby d5_0) rfl rfl ?_
    show Steps p.tables e below (s₁.setTop (mkF m 1 #[.val (.ref o0)] [(.ref o0)])) _
    refine st1 _ ?_
    show Steps p.tables e below (T1.setTop (mkF m 4 #[.val (.ref o0)] [(.ref w1_values)])) _
    refine XS.aloadN X1.here hx rfl (hb hby d5_4) rfl rfl ?_
    show Steps p.tables e below (T1.setTop (mkF m 5 #[.val (.ref o0)] [(.ref o0), (.ref w1_values)])) _
    refine st2 _ ?_
    show Steps p.tables e below (T2.setTop (mkF m 8 #[.val (.ref o0)] [(.int (4 : Int32)), (.ref w1_values)])) _
    refine st3 _ ?_
    show Steps p.tables e below (T3.setTop (mkF m 11 #[.val (.ref o0)] [(.ref xcp4_4_0_3)])) _
    exact X3.areturnOut hx rfl Bd.returns rfl (hb hby d5_11) hr
  · skip
    show Qta4 Z o0 w1_values w10_e w11_e w12_e w13_e kA h0 n0 _ T3.heap _
    exact ⟨N3, xcp4_4_0_3, rfl, sz7, ((Keep.refl h0 []).trans K3 all0), po3_0, po3_1⟩
theorem ef_ta5 (m : MethodId) (o0 : Addr) : entryFrame m #[(.ref o0)] 1 = mkF m 0 #[.val (.ref o0)] [] := by first | (simp [entryFrame, mkF, argsToLocals, Value.category]; done) | rfl
def Qta5 (Z : State) (o0 : Addr) (w1_values : Addr) (w10_e : Int32) (w11_e : Int32) (w12_e : Int32) (w13_e : Int32) (w14_e : Int32) (w15_e : Int32) (w16_e : Int32) (w17_e : Int32) (kA : ClassId) (h0 : Heap) (n0 : Nat) (v : Option Value) (h : Heap) (L : List Loc) : Prop := Fr n0 L ∧ ∃ (xta5_0 : Addr) (kta5_1 : ClassId), v = some (.ref xta5_0) ∧ h0.size ≤ xta5_0 ∧ Keep h0 h [] ∧ Exa Z h xta5_0 "[I" ∧ Arv Z h xta5_0 kta5_1 .int (5 : Int32) [(.int w10_e), (.int w11_e), (.int w12_e), (.int w13_e), (.int w14_e)] (.int (0 : Int32))
set_option maxRecDepth 65536 in
set_option maxHeartbeats 40000000 in
theorem rmta5 (l : Launch) (Z : State) (a0 : Array Value) (hw : ∀ d ∈ tables_1, d.before a0 Z = true) (ws : List Jvm.Cond) (o0 : Addr) (w1_values : Addr) (w10_e : Int32) (w11_e : Int32) (w12_e : Int32) (w13_e : Int32) (w14_e : Int32) (w15_e : Int32) (w16_e : Int32) (w17_e : Int32) (kA : ClassId) (h0 : Heap) (n0 : Nat) (Z0 : n0 ≤ h0.size) (E_o0 : Exa Z h0 o0 "com/example/vellum_index/vellumindex/IntList") (F_size_o0 : Fld Z h0 o0 "com/example/vellum_index/vellumindex/IntList" "size" "I" (.int (5 : Int32))) (F_values_o0 : Fld Z h0 o0 "com/example/vellum_index/vellumindex/IntList" "values" "[I" (.ref w1_values)) (E_w1_values : Exa Z h0 w1_values "[I") (V_w1_values : Arv Z h0 w1_values kA .int (8 : Int32) [(.int w10_e), (.int w11_e), (.int w12_e), (.int w13_e), (.int w14_e), (.int w15_e), (.int w16_e), (.int w17_e)] (.int (0 : Int32))) :
    MetFree l (⟨"com/example/vellum_index/vellumindex/IntList", "toArray", "()[I"⟩ : MethodName) (head1 (Jvm.Cond.code (⟨"com/example/vellum_index/vellumindex/IntList", "toArray", "()[I"⟩ : MethodName) prog_8_method_7_code 1 (some (.array .int)) :: ws) ({ frames := 2, cells := 1, slots := 5, locals := 32 } : Room)) (fun a U => a = #[(.ref o0)] ∧ Z.Warmed39 U.vm ∧ U.heap = h0) (fun _ _ _ _ _ => True) (fun _ U o U' => ∃ v L, o = .returned v ∧ Qta5 Z o0 w1_values w10_e w11_e w12_e w13_e w14_e w15_e w16_e w17_e kA h0 n0 v U'.heap L ∧ FrameEnd U o U' L ({ frames := 2, cells := 1, slots := 5, locals := 32 } : Room).cells ({ frames := 2, cells := 1, slots := 5, locals := 32 } : Room).slots) := by
  refine MetFree.of_bodySF (plainFor_of_name pn_com_example_vellum_index_vellumindex_IntList) hisR ?_
  intro p e s m args below meth c s₁ Bd hml0 hP hK
  obtain ⟨rfl, hZ, hh⟩ := hP
  have hx := Bd.exec
  have hby := Bd.bytes
  have hml : c.maxLocals = 1 := hml0
  have hown : s.vm.findClass "com/example/vellum_index/vellumindex/IntList" = some m.cls := findClass_of_methodNamed Bd.named
  have hnm := (name_of_methodNamed Bd.named Bd.method).1
  have hlk := BodyLoose.notSynchronized Bd
  have X0 : Stand p l e ({ frames := 2, cells := 1, slots := 5, locals := 32 } : Room) s m #[(.ref o0)] below meth c s₁ [] 0 0 := Stand.of_body Bd
  have e0 : s₁.heap = h0 := by rw [← hh, Bd.state]; rfl
  have N0 := Fr.nil n0
  have pre0 : ∀ t, Steps p.tables e below (s₁.setTop (mkF m 0 #[.val (.ref o0)] [])) t → Steps p.tables e below (s₁.setTop (entryFrame m #[(.ref o0)] 1)) t := fun t k => castTop (ef_ta5 m o0) k
  obtain ⟨T1, X1, e1, st1⟩ := getF X0 hx hZ hown (host := "") (Or.inl (hw _ (List.mem_of_getElem? (i := 11) rfl))) Via.refl e0 F_values_o0 (g := (mkF m 1 #[.val (.ref o0)] [(.ref o0)])) rfl rfl (hb hby d5_1)
  obtain ⟨T2, X2, e2, st2⟩ := getF X1 hx hZ hown (host := "") (Or.inl (hw _ (List.mem_of_getElem? (i := 18) rfl))) Via.refl e1 F_size_o0 (g := (mkF m 5 #[.val (.ref o0)] [(.ref o0), (.ref w1_values)])) rfl rfl (hb hby d5_5)
  obtain ⟨vr3, _, ⟨T3, L3, k3, n3⟩, -, X3, ⟨Lc3, hQ3, l3, y3, z3⟩, st3⟩ := Jvm.LawKit.callS X2 hx (y := (⟨"java/util/Arrays", "copyOf", "([II)[I"⟩ : MethodName)) hown (mvT hZ (hw _ (List.mem_of_getElem? (i := 30) rfl))) (mvT hZ (hw _ (List.mem_of_getElem? (i := 31) rfl))) (mvT hZ (hw _ (List.mem_of_getElem? (i := 32) rfl))) (mvT hZ (hw _ (List.mem_of_getElem? (i := 33) rfl))) (by decide) (backOf (W := 0) (rmcp8_5 l Z a0 hw [] w1_values w10_e w11_e w12_e w13_e w14_e w15_e w16_e w17_e kA h0 n0 Z0 E_w1_values V_w1_values) hZ (hw _ (List.mem_of_getElem? (i := 33) rfl)) (hw _ (List.mem_of_getElem? (i := 32) rfl)) (by decide) (by decide)) (g := (mkF m 8 #[.val (.ref o0)] [(.int (5 : Int32)), (.ref w1_values)])) rfl (by rw [hml]; rfl) (argsL := [(.ref w1_values), (.int (5 : Int32))]) (rest := []) (lenOf pd___II__I rfl) rfl (by show 2 * 0 + _ ≤ _; exact Nat.le_of_eq rfl) (hb hby d5_8) (fun _ _ => ⟨rfl, e2, (by decide : 0 + 1 ≤ _), (by decide : 0 + 5 ≤ _)⟩)
  dsimp only [Pt.U, Pt.locs, Pt.cells, Pt.slots] at X3 l3 y3 z3 st3 hQ3
  subst l3 y3 z3
  have N3q := (show _ ∧ _ from hQ3).1
  have hq3 := (show _ ∧ _ from hQ3).2
  clear hQ3
  obtain ⟨xcp8_5_0_3, kcp8_5_1_3, hq3x⟩ := hq3
  have hv3 := hq3x.1
  have szxcp8_5_0_3 := hq3x.2.1
  have K3 := hq3x.2.2.1
  have po3_0 := hq3x.2.2.2.1
  have po3_1 := hq3x.2.2.2.2
  clear hq3x
  subst hv3
  have ne4 : o0 ≠ xcp8_5_0_3 := Nat.ne_of_lt (Nat.lt_of_lt_of_le E_o0.lt szxcp8_5_0_3)
  have ne5 : w1_values ≠ xcp8_5_0_3 := Nat.ne_of_lt (Nat.lt_of_lt_of_le E_w1_values.lt szxcp8_5_0_3)
  have g6 : n0 ≤ xcp8_5_0_3 := Nat.le_trans Z0 szxcp8_5_0_3
  have sz7 : h0.size ≤ xcp8_5_0_3 := Nat.le_trans (Nat.le_refl h0.size) szxcp8_5_0_3
  have z8 : n0 ≤ T3.heap.size := Nat.le_trans Z0 K3.1
  have hs9 : h0.size ≤ T3.heap.size := Nat.le_trans (Nat.le_refl h0.size) K3.1
  have N3 := Fr.app N0 N3q
  obtain ⟨fs, hr, hrun, hended, hW, hsame⟩ := X3.leave (v := some (.ref xcp8_5_0_3)) (fun h => by rw [Bd.returns] at h; cases h) hlk
  refine ⟨_, _, pre0 _ ?_, hrun, hended, _, _, rfl, ?_, ⟨_, rfl⟩, hW, hsame.mono (by decide) (by decide)⟩
  · skip
    show Steps p.tables e below (s₁.setTop (mkF m 0 #[.val (.ref o0)] [])) _
    refine XS.aloadN X0.here hx rfl (hb hby d5_0) rfl rfl ?_
    show Steps p.tables e below (s₁.setTop (mkF m 1 #[.val (.ref o0)] [(.ref o0)])) _
    refine st1 _ ?_
    show Steps p.tables e below (T1.setTop (mkF m 4 #[.val (.ref o0)] [(.ref w1_values)])) _
    refine XS.aloadN X1.here hx rfl (hb hby d5_4) rfl rfl ?_
    show Steps p.tables e below (T1.setTop (mkF m 5 #[.val (.ref o0)] [(.ref o0), (.ref w1_values)])) _
    refine st2 _ ?_
    show Steps p.tables e below (T2.setTop (mkF m 8 #[.val (.ref o0)] [(.int (5 : Int32)), (.ref w1_values)])) _
    refine st3 _ ?_
    show Steps p.tables e below (T3.setTop (mkF m 11 #[.val (.ref o0)] [(.ref xcp8_5_0_3)])) _
    exact X3.areturnOut hx rfl Bd.returns rfl (hb hby d5_11) hr
  · skip
    show Qta5 Z o0 w1_values w10_e w11_e w12_e w13_e w14_e w15_e w16_e w17_e kA h0 n0 _ T3.heap _
    exact ⟨N3, xcp8_5_0_3, kcp8_5_1_3, rfl, sz7, ((Keep.refl h0 []).trans K3 all0), po3_0, po3_1⟩
theorem ef_ta6 (m : MethodId) (o0 : Addr) : entryFrame m #[(.ref o0)] 1 = mkF m 0 #[.val (.ref o0)] [] := by first | (simp [entryFrame, mkF, argsToLocals, Value.category]; done) | rfl
def Qta6 (Z : State) (o0 : Addr) (w1_values : Addr) (w10_e : Int32) (w11_e : Int32) (w12_e : Int32) (w13_e : Int32) (w14_e : Int32) (w15_e : Int32) (w16_e : Int32) (w17_e : Int32) (kA : ClassId) (h0 : Heap) (n0 : Nat) (v : Option Value) (h : Heap) (L : List Loc) : Prop := Fr n0 L ∧ ∃ (xta6_0 : Addr) (kta6_1 : ClassId), v = some (.ref xta6_0) ∧ h0.size ≤ xta6_0 ∧ Keep h0 h [] ∧ Exa Z h xta6_0 "[I" ∧ Arv Z h xta6_0 kta6_1 .int (6 : Int32) [(.int w10_e), (.int w11_e), (.int w12_e), (.int w13_e), (.int w14_e), (.int w15_e)] (.int (0 : Int32))
set_option maxRecDepth 65536 in
set_option maxHeartbeats 40000000 in
theorem rmta6 (l : Launch) (Z : State) (a0 : Array Value) (hw : ∀ d ∈ tables_1, d.before a0 Z = true) (ws : List Jvm.Cond) (o0 : Addr) (w1_values : Addr) (w10_e : Int32) (w11_e : Int32) (w12_e : Int32) (w13_e : Int32) (w14_e : Int32) (w15_e : Int32) (w16_e : Int32) (w17_e : Int32) (kA : ClassId) (h0 : Heap) (n0 : Nat) (Z0 : n0 ≤ h0.size) (E_o0 : Exa Z h0 o0 "com/example/vellum_index/vellumindex/IntList") (F_size_o0 : Fld Z h0 o0 "com/example/vellum_index/vellumindex/IntList" "size" "I" (.int (6 : Int32))) (F_values_o0 : Fld Z h0 o0 "com/example/vellum_index/vellumindex/IntList" "values" "[I" (.ref w1_values)) (E_w1_values : Exa Z h0 w1_values "[I") (V_w1_values : Arv Z h0 w1_values kA .int (8 : Int32) [(.int w10_e), (.int w11_e), (.int w12_e), (.int w13_e), (.int w14_e), (.int w15_e), (.int w16_e), (.int w17_e)] (.int (0 : Int32))) :
    MetFree l (⟨"com/example/vellum_index/vellumindex/IntList", "toArray", "()[I"⟩ : MethodName) (head1 (Jvm.Cond.code (⟨"com/example/vellum_index/vellumindex/IntList", "toArray", "()[I"⟩ : MethodName) prog_8_method_7_code 1 (some (.array .int)) :: ws) ({ frames := 2, cells := 1, slots := 6, locals := 32 } : Room)) (fun a U => a = #[(.ref o0)] ∧ Z.Warmed39 U.vm ∧ U.heap = h0) (fun _ _ _ _ _ => True) (fun _ U o U' => ∃ v L, o = .returned v ∧ Qta6 Z o0 w1_values w10_e w11_e w12_e w13_e w14_e w15_e w16_e w17_e kA h0 n0 v U'.heap L ∧ FrameEnd U o U' L ({ frames := 2, cells := 1, slots := 6, locals := 32 } : Room).cells ({ frames := 2, cells := 1, slots := 6, locals := 32 } : Room).slots) := by
  refine MetFree.of_bodySF (plainFor_of_name pn_com_example_vellum_index_vellumindex_IntList) hisR ?_
  intro p e s m args below meth c s₁ Bd hml0 hP hK
  obtain ⟨rfl, hZ, hh⟩ := hP
  have hx := Bd.exec
  have hby := Bd.bytes
  have hml : c.maxLocals = 1 := hml0
  have hown : s.vm.findClass "com/example/vellum_index/vellumindex/IntList" = some m.cls := findClass_of_methodNamed Bd.named
  have hnm := (name_of_methodNamed Bd.named Bd.method).1
  have hlk := BodyLoose.notSynchronized Bd
  have X0 : Stand p l e ({ frames := 2, cells := 1, slots := 6, locals := 32 } : Room) s m #[(.ref o0)] below meth c s₁ [] 0 0 := Stand.of_body Bd
  have e0 : s₁.heap = h0 := by rw [← hh, Bd.state]; rfl
  have N0 := Fr.nil n0
  have pre0 : ∀ t, Steps p.tables e below (s₁.setTop (mkF m 0 #[.val (.ref o0)] [])) t → Steps p.tables e below (s₁.setTop (entryFrame m #[(.ref o0)] 1)) t := fun t k => castTop (ef_ta6 m o0) k
  obtain ⟨T1, X1, e1, st1⟩ := getF X0 hx hZ hown (host := "") (Or.inl (hw _ (List.mem_of_getElem? (i := 11) rfl))) Via.refl e0 F_values_o0 (g := (mkF m 1 #[.val (.ref o0)] [(.ref o0)])) rfl rfl (hb hby d5_1)
  obtain ⟨T2, X2, e2, st2⟩ := getF X1 hx hZ hown (host := "") (Or.inl (hw _ (List.mem_of_getElem? (i := 18) rfl))) Via.refl e1 F_size_o0 (g := (mkF m 5 #[.val (.ref o0)] [(.ref o0), (.ref w1_values)])) rfl rfl (hb hby d5_5)
  obtain ⟨vr3, _, ⟨T3, L3, k3, n3⟩, -, X3, ⟨Lc3, hQ3, l3, y3, z3⟩, st3⟩ := Jvm.LawKit.callS X2 hx (y := (⟨"java/util/Arrays", "copyOf", "([II)[I"⟩ : MethodName)) hown (mvT hZ (hw _ (List.mem_of_getElem? (i := 30) rfl))) (mvT hZ (hw _ (List.mem_of_getElem? (i := 31) rfl))) (mvT hZ (hw _ (List.mem_of_getElem? (i := 32) rfl))) (mvT hZ (hw _ (List.mem_of_getElem? (i := 33) rfl))) (by decide) (backOf (W := 0) (rmcp8_6 l Z a0 hw [] w1_values w10_e w11_e w12_e w13_e w14_e w15_e w16_e w17_e kA h0 n0 Z0 E_w1_values V_w1_values) hZ (hw _ (List.mem_of_getElem? (i := 33) rfl)) (hw _ (List.mem_of_getElem? (i := 32) rfl)) (by decide) (by decide)) (g := (mkF m 8 #[.val (.ref o0)] [(.int (6 : Int32)), (.ref w1_values)])) rfl (by rw [hml]; rfl) (argsL := [(.ref w1_values), (.int (6 : Int32))]) (rest := []) (lenOf pd___II__I rfl) rfl (by show 2 * 0 + _ ≤ _; exact Nat.le_of_eq rfl) (hb hby d5_8) (fun _ _ => ⟨rfl, e2, (by decide : 0 + 1 ≤ _), (by decide : 0 + 6 ≤ _)⟩)
  dsimp only [Pt.U, Pt.locs, Pt.cells, Pt.slots] at X3 l3 y3 z3 st3 hQ3
  subst l3 y3 z3
  have N3q := (show _ ∧ _ from hQ3).1
  have hq3 := (show _ ∧ _ from hQ3).2
  clear hQ3
  obtain ⟨xcp8_6_0_3, kcp8_6_1_3, hq3x⟩ := hq3
  have hv3 := hq3x.1
  have szxcp8_6_0_3 := hq3x.2.1
  have K3 := hq3x.2.2.1
  have po3_0 := hq3x.2.2.2.1
  have po3_1 := hq3x.2.2.2.2
  clear hq3x
  subst hv3
  have ne4 : o0 ≠ xcp8_6_0_3 := Nat.ne_of_lt (Nat.lt_of_lt_of_le E_o0.lt szxcp8_6_0_3)
  have ne5 : w1_values ≠ xcp8_6_0_3 := Nat.ne_of_lt (Nat.lt_of_lt_of_le E_w1_values.lt szxcp8_6_0_3)
  have g6 : n0 ≤ xcp8_6_0_3 := Nat.le_trans Z0 szxcp8_6_0_3
  have sz7 : h0.size ≤ xcp8_6_0_3 := Nat.le_trans (Nat.le_refl h0.size) szxcp8_6_0_3
  have z8 : n0 ≤ T3.heap.size := Nat.le_trans Z0 K3.1
  have hs9 : h0.size ≤ T3.heap.size := Nat.le_trans (Nat.le_refl h0.size) K3.1
  have N3 := Fr.app N0 N3q
  obtain ⟨fs, hr, hrun, hended, hW, hsame⟩ := X3.leave (v := some (.ref xcp8_6_0_3)) (fun h => by rw [Bd.returns] at h; cases h) hlk
  refine ⟨_, _, pre0 _ ?_, hrun, hended, _, _, rfl, ?_, ⟨_, rfl⟩, hW, hsame.mono (by decide) (by decide)⟩
  · skip
    show Steps p.tables e below (s₁.setTop (mkF m 0 #[.val (.ref o0)] [])) _
    refine XS.aloadN X0.here hx rfl (hb hby d5_0) rfl rfl ?_
    show Steps p.tables e below (s₁.setTop (mkF m 1 #[.val (.ref o0)] [(.ref o0)])) _
    refine st1 _ ?_
    show Steps p.tables e below (T1.setTop (mkF m 4 #[.val (.ref o0)] [(.ref w1_values)])) _
    refine XS.aloadN X1.here hx rfl (hb hby d5_4) rfl rfl ?_
    show Steps p.tables e below (T1.setTop (mkF m 5 #[.val (.ref o0)] [(.ref o0), (.ref w1_values)])) _
    refine st2 _ ?_
    show Steps p.tables e below (T2.setTop (mkF m 8 #[.val (.ref o0)] [(.int (6 : Int32)), (.ref w1_values)])) _
    refine st3 _ ?_
    show Steps p.tables e below (T3.setTop (mkF m 11 #[.val (.ref o0)] [(.ref xcp8_6_0_3)])) _
    exact X3.areturnOut hx rfl Bd.returns rfl (hb hby d5_11) hr
  · skip
    show Qta6 Z o0 w1_values w10_e w11_e w12_e w13_e w14_e w15_e w16_e w17_e kA h0 n0 _ T3.heap _
    exact ⟨N3, xcp8_6_0_3, kcp8_6_1_3, rfl, sz7, ((Keep.refl h0 []).trans K3 all0), po3_0, po3_1⟩
theorem ef_ta7 (m : MethodId) (o0 : Addr) : entryFrame m #[(.ref o0)] 1 = mkF m 0 #[.val (.ref o0)] [] := by first | (simp [entryFrame, mkF, argsToLocals, Value.category]; done) | rfl
def Qta7 (Z : State) (o0 : Addr) (w1_values : Addr) (w10_e : Int32) (w11_e : Int32) (w12_e : Int32) (w13_e : Int32) (w14_e : Int32) (w15_e : Int32) (w16_e : Int32) (w17_e : Int32) (kA : ClassId) (h0 : Heap) (n0 : Nat) (v : Option Value) (h : Heap) (L : List Loc) : Prop := Fr n0 L ∧ ∃ (xta7_0 : Addr) (kta7_1 : ClassId), v = some (.ref xta7_0) ∧ h0.size ≤ xta7_0 ∧ Keep h0 h [] ∧ Exa Z h xta7_0 "[I" ∧ Arv Z h xta7_0 kta7_1 .int (7 : Int32) [(.int w10_e), (.int w11_e), (.int w12_e), (.int w13_e), (.int w14_e), (.int w15_e), (.int w16_e)] (.int (0 : Int32))
set_option maxRecDepth 65536 in
set_option maxHeartbeats 40000000 in
theorem rmta7 (l : Launch) (Z : State) (a0 : Array Value) (hw : ∀ d ∈ tables_1, d.before a0 Z = true) (ws : List Jvm.Cond) (o0 : Addr) (w1_values : Addr) (w10_e : Int32) (w11_e : Int32) (w12_e : Int32) (w13_e : Int32) (w14_e : Int32) (w15_e : Int32) (w16_e : Int32) (w17_e : Int32) (kA : ClassId) (h0 : Heap) (n0 : Nat) (Z0 : n0 ≤ h0.size) (E_o0 : Exa Z h0 o0 "com/example/vellum_index/vellumindex/IntList") (F_size_o0 : Fld Z h0 o0 "com/example/vellum_index/vellumindex/IntList" "size" "I" (.int (7 : Int32))) (F_values_o0 : Fld Z h0 o0 "com/example/vellum_index/vellumindex/IntList" "values" "[I" (.ref w1_values)) (E_w1_values : Exa Z h0 w1_values "[I") (V_w1_values : Arv Z h0 w1_values kA .int (8 : Int32) [(.int w10_e), (.int w11_e), (.int w12_e), (.int w13_e), (.int w14_e), (.int w15_e), (.int w16_e), (.int w17_e)] (.int (0 : Int32))) :
    MetFree l (⟨"com/example/vellum_index/vellumindex/IntList", "toArray", "()[I"⟩ : MethodName) (head1 (Jvm.Cond.code (⟨"com/example/vellum_index/vellumindex/IntList", "toArray", "()[I"⟩ : MethodName) prog_8_method_7_code 1 (some (.array .int)) :: ws) ({ frames := 2, cells := 1, slots := 7, locals := 32 } : Room)) (fun a U => a = #[(.ref o0)] ∧ Z.Warmed39 U.vm ∧ U.heap = h0) (fun _ _ _ _ _ => True) (fun _ U o U' => ∃ v L, o = .returned v ∧ Qta7 Z o0 w1_values w10_e w11_e w12_e w13_e w14_e w15_e w16_e w17_e kA h0 n0 v U'.heap L ∧ FrameEnd U o U' L ({ frames := 2, cells := 1, slots := 7, locals := 32 } : Room).cells ({ frames := 2, cells := 1, slots := 7, locals := 32 } : Room).slots) := by
  refine MetFree.of_bodySF (plainFor_of_name pn_com_example_vellum_index_vellumindex_IntList) hisR ?_
  intro p e s m args below meth c s₁ Bd hml0 hP hK
  obtain ⟨rfl, hZ, hh⟩ := hP
  have hx := Bd.exec
  have hby := Bd.bytes
  have hml : c.maxLocals = 1 := hml0
  have hown : s.vm.findClass "com/example/vellum_index/vellumindex/IntList" = some m.cls := findClass_of_methodNamed Bd.named
  have hnm := (name_of_methodNamed Bd.named Bd.method).1
  have hlk := BodyLoose.notSynchronized Bd
  have X0 : Stand p l e ({ frames := 2, cells := 1, slots := 7, locals := 32 } : Room) s m #[(.ref o0)] below meth c s₁ [] 0 0 := Stand.of_body Bd
  have e0 : s₁.heap = h0 := by rw [← hh, Bd.state]; rfl
  have N0 := Fr.nil n0
  have pre0 : ∀ t, Steps p.tables e below (s₁.setTop (mkF m 0 #[.val (.ref o0)] [])) t → Steps p.tables e below (s₁.setTop (entryFrame m #[(.ref o0)] 1)) t := fun t k => castTop (ef_ta7 m o0) k
  obtain ⟨T1, X1, e1, st1⟩ := getF X0 hx hZ hown (host := "") (Or.inl (hw _ (List.mem_of_getElem? (i := 11) rfl))) Via.refl e0 F_values_o0 (g := (mkF m 1 #[.val (.ref o0)] [(.ref o0)])) rfl rfl (hb hby d5_1)
  obtain ⟨T2, X2, e2, st2⟩ := getF X1 hx hZ hown (host := "") (Or.inl (hw _ (List.mem_of_getElem? (i := 18) rfl))) Via.refl e1 F_size_o0 (g := (mkF m 5 #[.val (.ref o0)] [(.ref o0), (.ref w1_values)])) rfl rfl (hb hby d5_5)
  obtain ⟨vr3, _, ⟨T3, L3, k3, n3⟩, -, X3, ⟨Lc3, hQ3, l3, y3, z3⟩, st3⟩ := Jvm.LawKit.callS X2 hx (y := (⟨"java/util/Arrays", "copyOf", "([II)[I"⟩ : MethodName)) hown (mvT hZ (hw _ (List.mem_of_getElem? (i := 30) rfl))) (mvT hZ (hw _ (List.mem_of_getElem? (i := 31) rfl))) (mvT hZ (hw _ (List.mem_of_getElem? (i := 32) rfl))) (mvT hZ (hw _ (List.mem_of_getElem? (i := 33) rfl))) (by decide) (backOf (W := 0) (rmcp8_7 l Z a0 hw [] w1_values w10_e w11_e w12_e w13_e w14_e w15_e w16_e w17_e kA h0 n0 Z0 E_w1_values V_w1_values) hZ (hw _ (List.mem_of_getElem? (i := 33) rfl)) (hw _ (List.mem_of_getElem? (i := 32) rfl)) (by decide) (by decide)) (g := (mkF m 8 #[.val (.ref o0)] [(.int (7 : Int32)), (.ref w1_values)])) rfl (by rw [hml]; rfl) (argsL := [(.ref w1_values), (.int (7 : Int32))]) (rest := []) (lenOf pd___II__I rfl) rfl (by show 2 * 0 + _ ≤ _; exact Nat.le_of_eq rfl) (hb hby d5_8) (fun _ _ => ⟨rfl, e2, (by decide : 0 + 1 ≤ _), (by decide : 0 + 7 ≤ _)⟩)
  dsimp only [Pt.U, Pt.locs, Pt.cells, Pt.slots] at X3 l3 y3 z3 st3 hQ3
  subst l3 y3 z3
  have N3q := (show _ ∧ _ from hQ3).1
  have hq3 := (show _ ∧ _ from hQ3).2
  clear hQ3
  obtain ⟨xcp8_7_0_3, kcp8_7_1_3, hq3x⟩ := hq3
  have hv3 := hq3x.1
  have szxcp8_7_0_3 := hq3x.2.1
  have K3 := hq3x.2.2.1
  have po3_0 := hq3x.2.2.2.1
  have po3_1 := hq3x.2.2.2.2
  clear hq3x
  subst hv3
  have ne4 : o0 ≠ xcp8_7_0_3 := Nat.ne_of_lt (Nat.lt_of_lt_of_le E_o0.lt szxcp8_7_0_3)
  have ne5 : w1_values ≠ xcp8_7_0_3 := Nat.ne_of_lt (Nat.lt_of_lt_of_le E_w1_values.lt szxcp8_7_0_3)
  have g6 : n0 ≤ xcp8_7_0_3 := Nat.le_trans Z0 szxcp8_7_0_3
  have sz7 : h0.size ≤ xcp8_7_0_3 := Nat.le_trans (Nat.le_refl h0.size) szxcp8_7_0_3
  have z8 : n0 ≤ T3.heap.size := Nat.le_trans Z0 K3.1
  have hs9 : h0.size ≤ T3.heap.size := Nat.le_trans (Nat.le_refl h0.size) K3.1
  have N3 := Fr.app N0 N3q
  obtain ⟨fs, hr, hrun, hended, hW, hsame⟩ := X3.leave (v := some (.ref xcp8_7_0_3)) (fun h => by rw [Bd.returns] at h; cases h) hlk
  refine ⟨_, _, pre0 _ ?_, hrun, hended, _, _, rfl, ?_, ⟨_, rfl⟩, hW, hsame.mono (by decide) (by decide)⟩
  · skip
    show Steps p.tables e below (s₁.setTop (mkF m 0 #[.val (.ref o0)] [])) _
    refine XS.aloadN X0.here hx rfl (hb hby d5_0) rfl rfl ?_
    show Steps p.tables e below (s₁.setTop (mkF m 1 #[.val (.ref o0)] [(.ref o0)])) _
    refine st1 _ ?_
    show Steps p.tables e below (T1.setTop (mkF m 4 #[.val (.ref o0)] [(.ref w1_values)])) _
    refine XS.aloadN X1.here hx rfl (hb hby d5_4) rfl rfl ?_
    show Steps p.tables e below (T1.setTop (mkF m 5 #[.val (.ref o0)] [(.ref o0), (.ref w1_values)])) _
    refine st2 _ ?_
    show Steps p.tables e below (T2.setTop (mkF m 8 #[.val (.ref o0)] [(.int (7 : Int32)), (.ref w1_values)])) _
    refine st3 _ ?_
    show Steps p.tables e below (T3.setTop (mkF m 11 #[.val (.ref o0)] [(.ref xcp8_7_0_3)])) _
    exact X3.areturnOut hx rfl Bd.returns rfl (hb hby d5_11) hr
  · skip
    show Qta7 Z o0 w1_values w10_e w11_e w12_e w13_e w14_e w15_e w16_e w17_e kA h0 n0 _ T3.heap _
    exact ⟨N3, xcp8_7_0_3, kcp8_7_1_3, rfl, sz7, ((Keep.refl h0 []).trans K3 all0), po3_0, po3_1⟩
theorem ef_ta8 (m : MethodId) (o0 : Addr) : entryFrame m #[(.ref o0)] 1 = mkF m 0 #[.val (.ref o0)] [] := by first | (simp [entryFrame, mkF, argsToLocals, Value.category]; done) | rfl
def Qta8 (Z : State) (o0 : Addr) (w1_values : Addr) (w10_e : Int32) (w11_e : Int32) (w12_e : Int32) (w13_e : Int32) (w14_e : Int32) (w15_e : Int32) (w16_e : Int32) (w17_e : Int32) (kA : ClassId) (h0 : Heap) (n0 : Nat) (v : Option Value) (h : Heap) (L : List Loc) : Prop := Fr n0 L ∧ ∃ (xta8_0 : Addr), v = some (.ref xta8_0) ∧ h0.size ≤ xta8_0 ∧ Keep h0 h [] ∧ Exa Z h xta8_0 "[I" ∧ Arv Z h xta8_0 kA .int (8 : Int32) [(.int w10_e), (.int w11_e), (.int w12_e), (.int w13_e), (.int w14_e), (.int w15_e), (.int w16_e), (.int w17_e)] (.int (0 : Int32))
set_option maxRecDepth 65536 in
set_option maxHeartbeats 40000000 in
theorem rmta8 (l : Launch) (Z : State) (a0 : Array Value) (hw : ∀ d ∈ tables_1, d.before a0 Z = true) (ws : List Jvm.Cond) (o0 : Addr) (w1_values : Addr) (w10_e : Int32) (w11_e : Int32) (w12_e : Int32) (w13_e : Int32) (w14_e : Int32) (w15_e : Int32) (w16_e : Int32) (w17_e : Int32) (kA : ClassId) (h0 : Heap) (n0 : Nat) (Z0 : n0 ≤ h0.size) (E_o0 : Exa Z h0 o0 "com/example/vellum_index/vellumindex/IntList") (F_size_o0 : Fld Z h0 o0 "com/example/vellum_index/vellumindex/IntList" "size" "I" (.int (8 : Int32))) (F_values_o0 : Fld Z h0 o0 "com/example/vellum_index/vellumindex/IntList" "values" "[I" (.ref w1_values)) (E_w1_values : Exa Z h0 w1_values "[I") (V_w1_values : Arv Z h0 w1_values kA .int (8 : Int32) [(.int w10_e), (.int w11_e), (.int w12_e), (.int w13_e), (.int w14_e), (.int w15_e), (.int w16_e), (.int w17_e)] (.int (0 : Int32))) :
    MetFree l (⟨"com/example/vellum_index/vellumindex/IntList", "toArray", "()[I"⟩ : MethodName) (head1 (Jvm.Cond.code (⟨"com/example/vellum_index/vellumindex/IntList", "toArray", "()[I"⟩ : MethodName) prog_8_method_7_code 1 (some (.array .int)) :: ws) ({ frames := 2, cells := 1, slots := 8, locals := 28 } : Room)) (fun a U => a = #[(.ref o0)] ∧ Z.Warmed39 U.vm ∧ U.heap = h0) (fun _ _ _ _ _ => True) (fun _ U o U' => ∃ v L, o = .returned v ∧ Qta8 Z o0 w1_values w10_e w11_e w12_e w13_e w14_e w15_e w16_e w17_e kA h0 n0 v U'.heap L ∧ FrameEnd U o U' L ({ frames := 2, cells := 1, slots := 8, locals := 28 } : Room).cells ({ frames := 2, cells := 1, slots := 8, locals := 28 } : Room).slots) := by
  refine MetFree.of_bodySF (plainFor_of_name pn_com_example_vellum_index_vellumindex_IntList) hisR ?_
  intro p e s m args below meth c s₁ Bd hml0 hP hK
  obtain ⟨rfl, hZ, hh⟩ := hP
  have hx := Bd.exec
  have hby := Bd.bytes
  have hml : c.maxLocals = 1 := hml0
  have hown : s.vm.findClass "com/example/vellum_index/vellumindex/IntList" = some m.cls := findClass_of_methodNamed Bd.named
  have hnm := (name_of_methodNamed Bd.named Bd.method).1
  have hlk := BodyLoose.notSynchronized Bd
  have X0 : Stand p l e ({ frames := 2, cells := 1, slots := 8, locals := 28 } : Room) s m #[(.ref o0)] below meth c s₁ [] 0 0 := Stand.of_body Bd
  have e0 : s₁.heap = h0 := by rw [← hh, Bd.state]; rfl
  have N0 := Fr.nil n0
  have pre0 : ∀ t, Steps p.tables e below (s₁.setTop (mkF m 0 #[.val (.ref o0)] [])) t → Steps p.tables e below (s₁.setTop (entryFrame m #[(.ref o0)] 1)) t := fun t k => castTop (ef_ta8 m o0) k
  obtain ⟨T1, X1, e1, st1⟩ := getF X0 hx hZ hown (host := "") (Or.inl (hw _ (List.mem_of_getElem? (i := 11) rfl))) Via.refl e0 F_values_o0 (g := (mkF m 1 #[.val (.ref o0)] [(.ref o0)])) rfl rfl (hb hby d5_1)
  obtain ⟨T2, X2, e2, st2⟩ := getF X1 hx hZ hown (host := "") (Or.inl (hw _ (List.mem_of_getElem? (i := 18) rfl))) Via.refl e1 F_size_o0 (g := (mkF m 5 #[.val (.ref o0)] [(.ref o0), (.ref w1_values)])) rfl rfl (hb hby d5_5)
  obtain ⟨vr3, _, ⟨T3, L3, k3, n3⟩, -, X3, ⟨Lc3, hQ3, l3, y3, z3⟩, st3⟩ := Jvm.LawKit.callS X2 hx (y := (⟨"java/util/Arrays", "copyOf", "([II)[I"⟩ : MethodName)) hown (mvT hZ (hw _ (List.mem_of_getElem? (i := 30) rfl))) (mvT hZ (hw _ (List.mem_of_getElem? (i := 31) rfl))) (mvT hZ (hw _ (List.mem_of_getElem? (i := 32) rfl))) (mvT hZ (hw _ (List.mem_of_getElem? (i := 33) rfl))) (by decide) (backOf (W := 0) (rmcp8_8 l Z a0 hw [] w1_values w10_e w11_e w12_e w13_e w14_e w15_e w16_e w17_e kA h0 n0 Z0 E_w1_values V_w1_values) hZ (hw _ (List.mem_of_getElem? (i := 33) rfl)) (hw _ (List.mem_of_getElem? (i := 32) rfl)) (by decide) (by decide)) (g := (mkF m 8 #[.val (.ref o0)] [(.int (8 : Int32)), (.ref w1_values)])) rfl (by rw [hml]; rfl) (argsL := [(.ref w1_values), (.int (8 : Int32))]) (rest := []) (lenOf pd___II__I rfl) rfl (by show 2 * 0 + _ ≤ _; exact Nat.le_of_eq rfl) (hb hby d5_8) (fun _ _ => ⟨rfl, e2, (by decide : 0 + 1 ≤ _), (by decide : 0 + 8 ≤ _)⟩)
  dsimp only [Pt.U, Pt.locs, Pt.cells, Pt.slots] at X3 l3 y3 z3 st3 hQ3
  subst l3 y3 z3
  have N3q := (show _ ∧ _ from hQ3).1
  have hq3 := (show _ ∧ _ from hQ3).2
  clear hQ3
  obtain ⟨xcp8_8_0_3, hq3x⟩ := hq3
  have hv3 := hq3x.1
  have szxcp8_8_0_3 := hq3x.2.1
  have K3 := hq3x.2.2.1
  have po3_0 := hq3x.2.2.2.1
  have po3_1 := hq3x.2.2.2.2
  clear hq3x
  subst hv3
  have ne4 : o0 ≠ xcp8_8_0_3 := Nat.ne_of_lt (Nat.lt_of_lt_of_le E_o0.lt szxcp8_8_0_3)
  have ne5 : w1_values ≠ xcp8_8_0_3 := Nat.ne_of_lt (Nat.lt_of_lt_of_le E_w1_values.lt szxcp8_8_0_3)
  have g6 : n0 ≤ xcp8_8_0_3 := Nat.le_trans Z0 szxcp8_8_0_3
  have sz7 : h0.size ≤ xcp8_8_0_3 := Nat.le_trans (Nat.le_refl h0.size) szxcp8_8_0_3
  have z8 : n0 ≤ T3.heap.size := Nat.le_trans Z0 K3.1
  have hs9 : h0.size ≤ T3.heap.size := Nat.le_trans (Nat.le_refl h0.size) K3.1
  have N3 := Fr.app N0 N3q
  obtain ⟨fs, hr, hrun, hended, hW, hsame⟩ := X3.leave (v := some (.ref xcp8_8_0_3)) (fun h => by rw [Bd.returns] at h; cases h) hlk
  refine ⟨_, _, pre0 _ ?_, hrun, hended, _, _, rfl, ?_, ⟨_, rfl⟩, hW, hsame.mono (by decide) (by decide)⟩
  · skip
    show Steps p.tables e below (s₁.setTop (mkF m 0 #[.val (.ref o0)] [])) _
    refine XS.aloadN X0.here hx rfl (hb hby d5_0) rfl rfl ?_
    show Steps p.tables e below (s₁.setTop (mkF m 1 #[.val (.ref o0)] [(.ref o0)])) _
    refine st1 _ ?_
    show Steps p.tables e below (T1.setTop (mkF m 4 #[.val (.ref o0)] [(.ref w1_values)])) _
    refine XS.aloadN X1.here hx rfl (hb hby d5_4) rfl rfl ?_
    show Steps p.tables e below (T1.setTop (mkF m 5 #[.val (.ref o0)] [(.ref o0), (.ref w1_values)])) _
    refine st2 _ ?_
    show Steps p.tables e below (T2.setTop (mkF m 8 #[.val (.ref o0)] [(.int (8 : Int32)), (.ref w1_values)])) _
    refine st3 _ ?_
    show Steps p.tables e below (T3.setTop (mkF m 11 #[.val (.ref o0)] [(.ref xcp8_8_0_3)])) _
    exact X3.areturnOut hx rfl Bd.returns rfl (hb hby d5_11) hr
  · skip
    show Qta8 Z o0 w1_values w10_e w11_e w12_e w13_e w14_e w15_e w16_e w17_e kA h0 n0 _ T3.heap _
    exact ⟨N3, xcp8_8_0_3, rfl, sz7, ((Keep.refl h0 []).trans K3 all0), po3_0, po3_1⟩
theorem ef_ta9 (m : MethodId) (o0 : Addr) : entryFrame m #[(.ref o0)] 1 = mkF m 0 #[.val (.ref o0)] [] := by first | (simp [entryFrame, mkF, argsToLocals, Value.category]; done) | rfl
def Qta9 (Z : State) (o0 : Addr) (w1_values : Addr) (w10_e : Int32) (w11_e : Int32) (w12_e : Int32) (w13_e : Int32) (w14_e : Int32) (w15_e : Int32) (w16_e : Int32) (w17_e : Int32) (w18_e : Int32) (w19_e : Int32) (w20_e : Int32) (w21_e : Int32) (w22_e : Int32) (w23_e : Int32) (w24_e : Int32) (w25_e : Int32) (kA : ClassId) (h0 : Heap) (n0 : Nat) (v : Option Value) (h : Heap) (L : List Loc) : Prop := Fr n0 L ∧ ∃ (xta9_0 : Addr) (kta9_1 : ClassId), v = some (.ref xta9_0) ∧ h0.size ≤ xta9_0 ∧ Keep h0 h [] ∧ Exa Z h xta9_0 "[I" ∧ Arv Z h xta9_0 kta9_1 .int (9 : Int32) [(.int w10_e), (.int w11_e), (.int w12_e), (.int w13_e), (.int w14_e), (.int w15_e), (.int w16_e), (.int w17_e), (.int w18_e)] (.int (0 : Int32))
set_option maxRecDepth 65536 in
set_option maxHeartbeats 40000000 in
theorem rmta9 (l : Launch) (Z : State) (a0 : Array Value) (hw : ∀ d ∈ tables_1, d.before a0 Z = true) (ws : List Jvm.Cond) (o0 : Addr) (w1_values : Addr) (w10_e : Int32) (w11_e : Int32) (w12_e : Int32) (w13_e : Int32) (w14_e : Int32) (w15_e : Int32) (w16_e : Int32) (w17_e : Int32) (w18_e : Int32) (w19_e : Int32) (w20_e : Int32) (w21_e : Int32) (w22_e : Int32) (w23_e : Int32) (w24_e : Int32) (w25_e : Int32) (kA : ClassId) (h0 : Heap) (n0 : Nat) (Z0 : n0 ≤ h0.size) (E_o0 : Exa Z h0 o0 "com/example/vellum_index/vellumindex/IntList") (F_size_o0 : Fld Z h0 o0 "com/example/vellum_index/vellumindex/IntList" "size" "I" (.int (9 : Int32))) (F_values_o0 : Fld Z h0 o0 "com/example/vellum_index/vellumindex/IntList" "values" "[I" (.ref w1_values)) (E_w1_values : Exa Z h0 w1_values "[I") (V_w1_values : Arv Z h0 w1_values kA .int (16 : Int32) [(.int w10_e), (.int w11_e), (.int w12_e), (.int w13_e), (.int w14_e), (.int w15_e), (.int w16_e), (.int w17_e), (.int w18_e), (.int w19_e), (.int w20_e), (.int w21_e), (.int w22_e), (.int w23_e), (.int w24_e), (.int w25_e)] (.int (0 : Int32))) :
    MetFree l (⟨"com/example/vellum_index/vellumindex/IntList", "toArray", "()[I"⟩ : MethodName) (head1 (Jvm.Cond.code (⟨"com/example/vellum_index/vellumindex/IntList", "toArray", "()[I"⟩ : MethodName) prog_8_method_7_code 1 (some (.array .int)) :: ws) ({ frames := 2, cells := 1, slots := 9, locals := 32 } : Room)) (fun a U => a = #[(.ref o0)] ∧ Z.Warmed39 U.vm ∧ U.heap = h0) (fun _ _ _ _ _ => True) (fun _ U o U' => ∃ v L, o = .returned v ∧ Qta9 Z o0 w1_values w10_e w11_e w12_e w13_e w14_e w15_e w16_e w17_e w18_e w19_e w20_e w21_e w22_e w23_e w24_e w25_e kA h0 n0 v U'.heap L ∧ FrameEnd U o U' L ({ frames := 2, cells := 1, slots := 9, locals := 32 } : Room).cells ({ frames := 2, cells := 1, slots := 9, locals := 32 } : Room).slots) := by
  refine MetFree.of_bodySF (plainFor_of_name pn_com_example_vellum_index_vellumindex_IntList) hisR ?_
  intro p e s m args below meth c s₁ Bd hml0 hP hK
  obtain ⟨rfl, hZ, hh⟩ := hP
  have hx := Bd.exec
  have hby := Bd.bytes
  have hml : c.maxLocals = 1 := hml0
  have hown : s.vm.findClass "com/example/vellum_index/vellumindex/IntList" = some m.cls := findClass_of_methodNamed Bd.named
  have hnm := (name_of_methodNamed Bd.named Bd.method).1
  have hlk := BodyLoose.notSynchronized Bd
  have X0 : Stand p l e ({ frames := 2, cells := 1, slots := 9, locals := 32 } : Room) s m #[(.ref o0)] below meth c s₁ [] 0 0 := Stand.of_body Bd
  have e0 : s₁.heap = h0 := by rw [← hh, Bd.state]; rfl
  have N0 := Fr.nil n0
  have pre0 : ∀ t, Steps p.tables e below (s₁.setTop (mkF m 0 #[.val (.ref o0)] [])) t → Steps p.tables e below (s₁.setTop (entryFrame m #[(.ref o0)] 1)) t := fun t k => castTop (ef_ta9 m o0) k
  obtain ⟨T1, X1, e1, st1⟩ := getF X0 hx hZ hown (host := "") (Or.inl (hw _ (List.mem_of_getElem? (i := 11) rfl))) Via.refl e0 F_values_o0 (g := (mkF m 1 #[.val (.ref o0)] [(.ref o0)])) rfl rfl (hb hby d5_1)
  obtain ⟨T2, X2, e2, st2⟩ := getF X1 hx hZ hown (host := "") (Or.inl (hw _ (List.mem_of_getElem? (i := 18) rfl))) Via.refl e1 F_size_o0 (g := (mkF m 5 #[.val (.ref o0)] [(.ref o0), (.ref w1_values)])) rfl rfl (hb hby d5_5)
  obtain ⟨vr3, _, ⟨T3, L3, k3, n3⟩, -, X3, ⟨Lc3, hQ3, l3, y3, z3⟩, st3⟩ := Jvm.LawKit.callS X2 hx (y := (⟨"java/util/Arrays", "copyOf", "([II)[I"⟩ : MethodName)) hown (mvT hZ (hw _ (List.mem_of_getElem? (i := 30) rfl))) (mvT hZ (hw _ (List.mem_of_getElem? (i := 31) rfl))) (mvT hZ (hw _ (List.mem_of_getElem? (i := 32) rfl))) (mvT hZ (hw _ (List.mem_of_getElem? (i := 33) rfl))) (by decide) (backOf (W := 0) (rmcp16_9 l Z a0 hw [] w1_values w10_e w11_e w12_e w13_e w14_e w15_e w16_e w17_e w18_e w19_e w20_e w21_e w22_e w23_e w24_e w25_e kA h0 n0 Z0 E_w1_values V_w1_values) hZ (hw _ (List.mem_of_getElem? (i := 33) rfl)) (hw _ (List.mem_of_getElem? (i := 32) rfl)) (by decide) (by decide)) (g := (mkF m 8 #[.val (.ref o0)] [(.int (9 : Int32)), (.ref w1_values)])) rfl (by rw [hml]; rfl) (argsL := [(.ref w1_values), (.int (9 : Int32))]) (rest := []) (lenOf pd___II__I rfl) rfl (by show 2 * 0 + _ ≤ _; exact Nat.le_of_eq rfl) (hb hby d5_8) (fun _ _ => ⟨rfl, e2, (by decide : 0 + 1 ≤ _), (by decide : 0 + 9 ≤ _)⟩)
  dsimp only [Pt.U, Pt.locs, Pt.cells, Pt.slots] at X3 l3 y3 z3 st3 hQ3
  subst l3 y3 z3
  have N3q := (show _ ∧ _ from hQ3).1
  have hq3 := (show _ ∧ _ from hQ3).2
  clear hQ3
  obtain ⟨xcp16_9_0_3, kcp16_9_1_3, hq3x⟩ := hq3
  have hv3 := hq3x.1
  have szxcp16_9_0_3 := hq3x.2.1
  have K3 := hq3x.2.2.1
  have po3_0 := hq3x.2.2.2.1
  have po3_1 := hq3x.2.2.2.2
  clear hq3x
  subst hv3
  have ne4 : o0 ≠ xcp16_9_0_3 := Nat.ne_of_lt (Nat.lt_of_lt_of_le E_o0.lt szxcp16_9_0_3)
  have ne5 : w1_values ≠ xcp16_9_0_3 := Nat.ne_of_lt (Nat.lt_of_lt_of_le E_w1_values.lt szxcp16_9_0_3)
  have g6 : n0 ≤ xcp16_9_0_3 := Nat.le_trans Z0 szxcp16_9_0_3
  have sz7 : h0.size ≤ xcp16_9_0_3 := Nat.le_trans (Nat.le_refl h0.size) szxcp16_9_0_3
  have z8 : n0 ≤ T3.heap.size := Nat.le_trans Z0 K3.1
  have hs9 : h0.size ≤ T3.heap.size := Nat.le_trans (Nat.le_refl h0.size) K3.1
  have N3 := Fr.app N0 N3q
  obtain ⟨fs, hr, hrun, hended, hW, hsame⟩ := X3.leave (v := some (.ref xcp16_9_0_3)) (fun h => by rw [Bd.returns] at h; cases h) hlk
  refine ⟨_, _, pre0 _ ?_, hrun, hended, _, _, rfl, ?_, ⟨_, rfl⟩, hW, hsame.mono (by decide) (by decide)⟩
  · skip
    show Steps p.tables e below (s₁.setTop (mkF m 0 #[.val (.ref o0)] [])) _
    refine XS.aloadN X0.here hx rfl (hb hby d5_0) rfl rfl ?_
    show Steps p.tables e below (s₁.setTop (mkF m 1 #[.val (.ref o0)] [(.ref o0)])) _
    refine st1 _ ?_
    show Steps p.tables e below (T1.setTop (mkF m 4 #[.val (.ref o0)] [(.ref w1_values)])) _
    refine XS.aloadN X1.here hx rfl (hb hby d5_4) rfl rfl ?_
    show Steps p.tables e below (T1.setTop (mkF m 5 #[.val (.ref o0)] [(.ref o0), (.ref w1_values)])) _
    refine st2 _ ?_
    show Steps p.tables e below (T2.setTop (mkF m 8 #[.val (.ref o0)] [(.int (9 : Int32)), (.ref w1_values)])) _
    refine st3 _ ?_
    show Steps p.tables e below (T3.setTop (mkF m 11 #[.val (.ref o0)] [(.ref xcp16_9_0_3)])) _
    exact X3.areturnOut hx rfl Bd.returns rfl (hb hby d5_11) hr
  · skip
    show Qta9 Z o0 w1_values w10_e w11_e w12_e w13_e w14_e w15_e w16_e w17_e w18_e w19_e w20_e w21_e w22_e w23_e w24_e w25_e kA h0 n0 _ T3.heap _
    exact ⟨N3, xcp16_9_0_3, kcp16_9_1_3, rfl, sz7, ((Keep.refl h0 []).trans K3 all0), po3_0, po3_1⟩
theorem pd___V : parseMethodDescriptor "()V" = some ⟨[], none⟩ := by decide +kernel
theorem pd__I_V : parseMethodDescriptor "(I)V" = some ⟨[.int], none⟩ := by decide +kernel
theorem pd___I : parseMethodDescriptor "()I" = some ⟨[], some .int⟩ := by decide +kernel
theorem pd____I : parseMethodDescriptor "()[I" = some ⟨[], some (.array .int)⟩ := by decide +kernel
theorem pn_com_example_vellum_index_vellumindex_IntListAddPinLaw : plainName "com/example/vellum_index/vellumindex/IntListAddPinLaw" = true := by first | (simp [plainName, overriddenIn]; done) | decide +kernel
theorem ef_0 (m : MethodId) (p0 : Int32) (p1 : Int32) (p2 : Int32) (p3 : Int32) (p4 : Int32) (p5 : Int32) : entryFrame m #[(.int p0), (.int p1), (.int p2), (.int p3), (.int p4), (.int p5)] maxLocals = mkF m 0 #[.val (.int p0), .val (.int p1), .val (.int p2), .val (.int p3), .val (.int p4), .val (.int p5), .unset, .unset, .unset, .unset] [] := by first | (simp [entryFrame, mkF, argsToLocals, Value.category, maxLocals]; done) | rfl
def v0_1 (p0 : Int32) (p1 : Int32) (p2 : Int32) (p3 : Int32) (p4 : Int32) (p5 : Int32) : Int32 := (p5 &&& (2147483647 : Int32))
def v0_2 (p0 : Int32) (p1 : Int32) (p2 : Int32) (p3 : Int32) (p4 : Int32) (p5 : Int32) : Int32 := ((v0_1 p0 p1 p2 p3 p4 p5) - ((v0_1 p0 p1 p2 p3 p4 p5) / (10 : Int32)) * (10 : Int32))
def v0_3 (p0 : Int32) (p1 : Int32) (p2 : Int32) (p3 : Int32) (p4 : Int32) (p5 : Int32) : Int32 := (p0 ^^^ (-1 : Int32))
def v0_4 (p0 : Int32) (p1 : Int32) (p2 : Int32) (p3 : Int32) (p4 : Int32) (p5 : Int32) : Int32 := (p1 ^^^ (-1 : Int32))
def v0_5 (p0 : Int32) (p1 : Int32) (p2 : Int32) (p3 : Int32) (p4 : Int32) (p5 : Int32) : Int32 := (p2 ^^^ (-1 : Int32))
def v0_6 (p0 : Int32) (p1 : Int32) (p2 : Int32) (p3 : Int32) (p4 : Int32) (p5 : Int32) : Int32 := (p3 ^^^ (-1 : Int32))
def v0_7 (p0 : Int32) (p1 : Int32) (p2 : Int32) (p3 : Int32) (p4 : Int32) (p5 : Int32) : Int32 := (f4 (9 : Int32))
def v0_8 (p0 : Int32) (p1 : Int32) (p2 : Int32) (p3 : Int32) (p4 : Int32) (p5 : Int32) : Int32 := (f4 (8 : Int32))
def v0_9 (p0 : Int32) (p1 : Int32) (p2 : Int32) (p3 : Int32) (p4 : Int32) (p5 : Int32) : Int32 := (f4 (7 : Int32))
def v0_10 (p0 : Int32) (p1 : Int32) (p2 : Int32) (p3 : Int32) (p4 : Int32) (p5 : Int32) : Int32 := (f4 (6 : Int32))
def v0_11 (p0 : Int32) (p1 : Int32) (p2 : Int32) (p3 : Int32) (p4 : Int32) (p5 : Int32) : Int32 := (f4 (5 : Int32))
def v0_12 (p0 : Int32) (p1 : Int32) (p2 : Int32) (p3 : Int32) (p4 : Int32) (p5 : Int32) : Int32 := (f4 (4 : Int32))
def v0_13 (p0 : Int32) (p1 : Int32) (p2 : Int32) (p3 : Int32) (p4 : Int32) (p5 : Int32) : Int32 := (f4 (3 : Int32))
def v0_14 (p0 : Int32) (p1 : Int32) (p2 : Int32) (p3 : Int32) (p4 : Int32) (p5 : Int32) : Int32 := (f4 (2 : Int32))
def v0_15 (p0 : Int32) (p1 : Int32) (p2 : Int32) (p3 : Int32) (p4 : Int32) (p5 : Int32) : Int32 := (f4 (1 : Int32))
def v0_16 (p0 : Int32) (p1 : Int32) (p2 : Int32) (p3 : Int32) (p4 : Int32) (p5 : Int32) : Int32 := (f4 (0 : Int32))
/-own-/
theorem own_mono {i j n : Int32} (h : ¬ (i < n)) (k : i.toInt ≤ j.toInt) : ¬ (j < n) := by
  rw [Int32.lt_iff_toInt_lt] at *; omega
theorem own_eqn {i j n : Int32} (h1 : i < n) (h2 : ¬ (j < n)) (k : j.toInt = i.toInt + 1) : n = j := by
  rw [Int32.lt_iff_toInt_lt] at *
  exact Int32.toInt_inj.mp (by omega)
section Own
variable (p0 p1 p2 p3 p4 p5 : Int32)
theorem own_n : 0 ≤ (v0_2 p0 p1 p2 p3 p4 p5).toInt ∧ (v0_2 p0 p1 p2 p3 p4 p5).toInt < 10 := by
  have e1 : (v0_1 p0 p1 p2 p3 p4 p5).toInt = p5.toInt % 2 ^ 31 := Jvm.Kit.i32_mask p5 2147483647 (k := 31) (by decide) (by decide)
  have c : (10 : Int32).toInt = 10 := by decide
  unfold v0_2
  rw [own_rem32, c, Int.tmod_eq_emod_of_nonneg (by omega)]
  omega
theorem own_eq0 (h : ¬ ((0 : Int32) < v0_2 p0 p1 p2 p3 p4 p5)) : v0_2 p0 p1 p2 p3 p4 p5 = (0 : Int32) := by
  have n := own_n p0 p1 p2 p3 p4 p5
  have c : (0 : Int32).toInt = 0 := by decide
  rw [Int32.lt_iff_toInt_lt, c] at h
  exact Int32.toInt_inj.mp (by rw [c]; omega)
theorem own_eq9 (h : (8 : Int32) < v0_2 p0 p1 p2 p3 p4 p5) : v0_2 p0 p1 p2 p3 p4 p5 = (9 : Int32) := by
  have n := own_n p0 p1 p2 p3 p4 p5
  have c : (8 : Int32).toInt = 8 := by decide
  have d : (9 : Int32).toInt = 9 := by decide
  rw [Int32.lt_iff_toInt_lt, c] at h
  exact Int32.toInt_inj.mp (by rw [d]; omega)
end Own
def Q0 (Z : State) (p0 : Int32) (p1 : Int32) (p2 : Int32) (p3 : Int32) (p4 : Int32) (p5 : Int32) (h0 : Heap) (n0 : Nat) (v : Option Value) (h : Heap) (L : List Loc) : Prop := v = some (.int (1 : Int32)) ∧ Fr n0 L
set_option maxRecDepth 65536 in
set_option maxHeartbeats 40000000 in
theorem rm0 (l : Launch) (Z : State) (a0 : Array Value) (hw : ∀ d ∈ tables_1, d.before a0 Z = true) (ws : List Jvm.Cond) (p0 : Int32) (p1 : Int32) (p2 : Int32) (p3 : Int32) (p4 : Int32) (p5 : Int32) (h0 : Heap) (n0 : Nat) (Z0 : n0 ≤ h0.size) :
    MetFree l x (head1 (Jvm.Cond.code x code maxLocals ret :: ws) room_1) (fun a U => a = #[(.int p0), (.int p1), (.int p2), (.int p3), (.int p4), (.int p5)] ∧ Z.Warmed39 U.vm ∧ U.heap = h0) (fun _ _ _ _ _ => True) (fun _ U o U' => ∃ v L, o = .returned v ∧ Q0 Z p0 p1 p2 p3 p4 p5 h0 n0 v U'.heap L ∧ FrameEnd U o U' L room_1.cells room_1.slots) := by
  refine MetFree.of_bodySF (plainFor_of_name pn_com_example_vellum_index_vellumindex_IntListAddPinLaw) hisR ?_
  intro p e s m args below meth c s₁ Bd hml0 hP hK
  obtain ⟨rfl, hZ, hh⟩ := hP
  have hx := Bd.exec
  have hby := Bd.bytes
  have hml : c.maxLocals = 10 := hml0
  have hown : s.vm.findClass "com/example/vellum_index/vellumindex/IntListAddPinLaw" = some m.cls := findClass_of_methodNamed Bd.named
  have hnm := (name_of_methodNamed Bd.named Bd.method).1
  have hlk := BodyLoose.notSynchronized Bd
  have X0 : Stand p l e room_1 s m #[(.int p0), (.int p1), (.int p2), (.int p3), (.int p4), (.int p5)] below meth c s₁ [] 0 0 := Stand.of_body Bd
  have e0 : s₁.heap = h0 := by rw [← hh, Bd.state]; rfl
  have N0 := Fr.nil n0
  have pre0 : ∀ t, Steps p.tables e below (s₁.setTop (mkF m 0 #[.val (.int p0), .val (.int p1), .val (.int p2), .val (.int p3), .val (.int p4), .val (.int p5), .unset, .unset, .unset, .unset] [])) t → Steps p.tables e below (s₁.setTop (entryFrame m #[(.int p0), (.int p1), (.int p2), (.int p3), (.int p4), (.int p5)] maxLocals)) t := fun t k => castTop (ef_0 m p0 p1 p2 p3 p4 p5) k
  obtain ⟨T1, h1, k1, X1, e1, E1, A1, EA1, st1⟩ := newPE X0 hx hZ (hw _ (List.mem_of_getElem? (i := 1) rfl)) e0 (g := (mkF m 12 #[.val (.int p0), .val (.int p1), .val (.int p2), .val (.int p3), .val (.int p4), .val (.int p5), .val (.int (v0_2 p0 p1 p2 p3 p4 p5)), .unset, .unset, .unset] [(.int (9 : Int32))])) rfl (hb hby at_12) rfl (by decide) (cap := 9) (by decide) (by decide) (by decide) (by decide) (ad := "[I") rfl
  obtain ⟨b1, gz1⟩ : ∃ z, z = h0.size := ⟨_, rfl⟩
  rw [← gz1] at A1 EA1 st1
  have g2 : n0 ≤ b1 := Nat.le_trans Z0 (Nat.le_of_eq gz1.symm)
  have sz3 : h0.size ≤ b1 := Nat.le_trans (Nat.le_refl h0.size) (Nat.le_of_eq gz1.symm)
  have z4 : n0 ≤ h1.size := Nat.le_trans Z0 E1.1
  have hs5 : h0.size ≤ h1.size := Nat.le_trans (Nat.le_refl h0.size) E1.1
  have V1 : Arv Z h1 b1 k1 .int (9 : Int32) [(.int (0 : Int32)), (.int (0 : Int32)), (.int (0 : Int32)), (.int (0 : Int32)), (.int (0 : Int32)), (.int (0 : Int32)), (.int (0 : Int32)), (.int (0 : Int32)), (.int (0 : Int32))] (.int (0 : Int32)) := (Arv.new A1 (by decide)).pad (pad_rep [] (.int (0 : Int32)) 9)
  obtain ⟨cl6, Ar6, qc6, S6, M6, Ha6, G6⟩ := id V1
  have hin7 : ¬ ((0 : Int32) < 0 ∨ cl6.slots.size ≤ ((0 : Int32)).toNatClampNeg) := inb_of S6 ⟨by decide, by decide⟩
  obtain ⟨T8, h8, X8, e8, W8, st8⟩ := stI X1 hx hZ e1 Ar6 (j := (0 : Int32)) hin7 (g := (mkF m 17 #[.val (.int p0), .val (.int p1), .val (.int p2), .val (.int p3), .val (.int p4), .val (.int p5), .val (.int (v0_2 p0 p1 p2 p3 p4 p5)), .unset, .unset, .unset] [(.int p0), (.int (0 : Int32)), (.ref b1), (.ref b1)])) rfl rfl (hb hby at_17)
  have V8 : Arv Z h8 b1 k1 .int (9 : Int32) [(.int p0), (.int (0 : Int32)), (.int (0 : Int32)), (.int (0 : Int32)), (.int (0 : Int32)), (.int (0 : Int32)), (.int (0 : Int32)), (.int (0 : Int32)), (.int (0 : Int32))] (.int (0 : Int32)) := Arv.set Ar6 qc6 S6 M6 Ha6 G6 rfl W8 0 rfl (Nat.le_of_ble_eq_true rfl)
  have N8 := Fr.snoc X8 N0 g2
  have z9 : n0 ≤ h8.size := Nat.le_trans z4 (Keep.of_wr W8).1
  have hs10 : h0.size ≤ h8.size := Nat.le_trans hs5 (Keep.of_wr W8).1
  obtain ⟨cl11, Ar11, qc11, S11, M11, Ha11, G11⟩ := id V8
  have hin12 : ¬ ((1 : Int32) < 0 ∨ cl11.slots.size ≤ ((1 : Int32)).toNatClampNeg) := inb_of S11 ⟨by decide, by decide⟩
  obtain ⟨T13, h13, X13, e13, W13, st13⟩ := stI X8 hx hZ e8 Ar11 (j := (1 : Int32)) hin12 (g := (mkF m 21 #[.val (.int p0), .val (.int p1), .val (.int p2), .val (.int p3), .val (.int p4), .val (.int p5), .val (.int (v0_2 p0 p1 p2 p3 p4 p5)), .unset, .unset, .unset] [(.int p1), (.int (1 : Int32)), (.ref b1), (.ref b1)])) rfl rfl (hb hby at_21)
  have V13 : Arv Z h13 b1 k1 .int (9 : Int32) [(.int p0), (.int p1), (.int (0 : Int32)), (.int (0 : Int32)), (.int (0 : Int32)), (.int (0 : Int32)), (.int (0 : Int32)), (.int (0 : Int32)), (.int (0 : Int32))] (.int (0 : Int32)) := Arv.set Ar11 qc11 S11 M11 Ha11 G11 rfl W13 1 rfl (Nat.le_of_ble_eq_true rfl)
  have N13 := Fr.snoc X13 N8 g2
  have z14 : n0 ≤ h13.size := Nat.le_trans z9 (Keep.of_wr W13).1
  have hs15 : h0.size ≤ h13.size := Nat.le_trans hs10 (Keep.of_wr W13).1
  obtain ⟨cl16, Ar16, qc16, S16, M16, Ha16, G16⟩ := id V13
  have hin17 : ¬ ((2 : Int32) < 0 ∨ cl16.slots.size ≤ ((2 : Int32)).toNatClampNeg) := inb_of S16 ⟨by decide, by decide⟩
  obtain ⟨T18, h18, X18, e18, W18, st18⟩ := stI X13 hx hZ e13 Ar16 (j := (2 : Int32)) hin17 (g := (mkF m 25 #[.val (.int p0), .val (.int p1), .val (.int p2), .val (.int p3), .val (.int p4), .val (.int p5), .val (.int (v0_2 p0 p1 p2 p3 p4 p5)), .unset, .unset, .unset] [(.int p2), (.int (2 : Int32)), (.ref b1), (.ref b1)])) rfl rfl (hb hby at_25)
  have V18 : Arv Z h18 b1 k1 .int (9 : Int32) [(.int p0), (.int p1), (.int p2), (.int (0 : Int32)), (.int (0 : Int32)), (.int (0 : Int32)), (.int (0 : Int32)), (.int (0 : Int32)), (.int (0 : Int32))] (.int (0 : Int32)) := Arv.set Ar16 qc16 S16 M16 Ha16 G16 rfl W18 2 rfl (Nat.le_of_ble_eq_true rfl)
  have N18 := Fr.snoc X18 N13 g2
  have z19 : n0 ≤ h18.size := Nat.le_trans z14 (Keep.of_wr W18).1
  have hs20 : h0.size ≤ h18.size := Nat.le_trans hs15 (Keep.of_wr W18).1
  obtain ⟨cl21, Ar21, qc21, S21, M21, Ha21, G21⟩ := id V18
  have hin22 : ¬ ((3 : Int32) < 0 ∨ cl21.slots.size ≤ ((3 : Int32)).toNatClampNeg) := inb_of S21 ⟨by decide, by decide⟩
  obtain ⟨T23, h23, X23, e23, W23, st23⟩ := stI X18 hx hZ e18 Ar21 (j := (3 : Int32)) hin22 (g := (mkF m 29 #[.val (.int p0), .val (.int p1), .val (.int p2), .val (.int p3), .val (.int p4), .val (.int p5), .val (.int (v0_2 p0 p1 p2 p3 p4 p5)), .unset, .unset, .unset] [(.int p3), (.int (3 : Int32)), (.ref b1), (.ref b1)])) rfl rfl (hb hby at_29)
  have V23 : Arv Z h23 b1 k1 .int (9 : Int32) [(.int p0), (.int p1), (.int p2), (.int p3), (.int (0 : Int32)), (.int (0 : Int32)), (.int (0 : Int32)), (.int (0 : Int32)), (.int (0 : Int32))] (.int (0 : Int32)) := Arv.set Ar21 qc21 S21 M21 Ha21 G21 rfl W23 3 rfl (Nat.le_of_ble_eq_true rfl)
  have N23 := Fr.snoc X23 N18 g2
  have z24 : n0 ≤ h23.size := Nat.le_trans z19 (Keep.of_wr W23).1
  have hs25 : h0.size ≤ h23.size := Nat.le_trans hs20 (Keep.of_wr W23).1
  obtain ⟨cl26, Ar26, qc26, S26, M26, Ha26, G26⟩ := id V23
  have hin27 : ¬ ((4 : Int32) < 0 ∨ cl26.slots.size ≤ ((4 : Int32)).toNatClampNeg) := inb_of S26 ⟨by decide, by decide⟩
  obtain ⟨T28, h28, X28, e28, W28, st28⟩ := stI X23 hx hZ e23 Ar26 (j := (4 : Int32)) hin27 (g := (mkF m 34 #[.val (.int p0), .val (.int p1), .val (.int p2), .val (.int p3), .val (.int p4), .val (.int p5), .val (.int (v0_2 p0 p1 p2 p3 p4 p5)), .unset, .unset, .unset] [(.int p4), (.int (4 : Int32)), (.ref b1), (.ref b1)])) rfl rfl (hb hby at_34)
  have V28 : Arv Z h28 b1 k1 .int (9 : Int32) [(.int p0), (.int p1), (.int p2), (.int p3), (.int p4), (.int (0 : Int32)), (.int (0 : Int32)), (.int (0 : Int32)), (.int (0 : Int32))] (.int (0 : Int32)) := Arv.set Ar26 qc26 S26 M26 Ha26 G26 rfl W28 4 rfl (Nat.le_of_ble_eq_true rfl)
  have N28 := Fr.snoc X28 N23 g2
  have z29 : n0 ≤ h28.size := Nat.le_trans z24 (Keep.of_wr W28).1
  have hs30 : h0.size ≤ h28.size := Nat.le_trans hs25 (Keep.of_wr W28).1
  obtain ⟨cl31, Ar31, qc31, S31, M31, Ha31, G31⟩ := id V28
  have hin32 : ¬ ((5 : Int32) < 0 ∨ cl31.slots.size ≤ ((5 : Int32)).toNatClampNeg) := inb_of S31 ⟨by decide, by decide⟩
  obtain ⟨T33, h33, X33, e33, W33, st33⟩ := stI X28 hx hZ e28 Ar31 (j := (5 : Int32)) hin32 (g := (mkF m 40 #[.val (.int p0), .val (.int p1), .val (.int p2), .val (.int p3), .val (.int p4), .val (.int p5), .val (.int (v0_2 p0 p1 p2 p3 p4 p5)), .unset, .unset, .unset] [(.int (p0 ^^^ (-1 : Int32))), (.int (5 : Int32)), (.ref b1), (.ref b1)])) rfl rfl (hb hby at_40)
  have V33 : Arv Z h33 b1 k1 .int (9 : Int32) [(.int p0), (.int p1), (.int p2), (.int p3), (.int p4), (.int (v0_3 p0 p1 p2 p3 p4 p5)), (.int (0 : Int32)), (.int (0 : Int32)), (.int (0 : Int32))] (.int (0 : Int32)) := Arv.set Ar31 qc31 S31 M31 Ha31 G31 rfl W33 5 rfl (Nat.le_of_ble_eq_true rfl)
  have N33 := Fr.snoc X33 N28 g2
  have z34 : n0 ≤ h33.size := Nat.le_trans z29 (Keep.of_wr W33).1
  have hs35 : h0.size ≤ h33.size := Nat.le_trans hs30 (Keep.of_wr W33).1
  obtain ⟨cl36, Ar36, qc36, S36, M36, Ha36, G36⟩ := id V33
  have hin37 : ¬ ((6 : Int32) < 0 ∨ cl36.slots.size ≤ ((6 : Int32)).toNatClampNeg) := inb_of S36 ⟨by decide, by decide⟩
  obtain ⟨T38, h38, X38, e38, W38, st38⟩ := stI X33 hx hZ e33 Ar36 (j := (6 : Int32)) hin37 (g := (mkF m 47 #[.val (.int p0), .val (.int p1), .val (.int p2), .val (.int p3), .val (.int p4), .val (.int p5), .val (.int (v0_2 p0 p1 p2 p3 p4 p5)), .unset, .unset, .unset] [(.int (p1 ^^^ (-1 : Int32))), (.int (6 : Int32)), (.ref b1), (.ref b1)])) rfl rfl (hb hby at_47)
  have V38 : Arv Z h38 b1 k1 .int (9 : Int32) [(.int p0), (.int p1), (.int p2), (.int p3), (.int p4), (.int (v0_3 p0 p1 p2 p3 p4 p5)), (.int (v0_4 p0 p1 p2 p3 p4 p5)), (.int (0 : Int32)), (.int (0 : Int32))] (.int (0 : Int32)) := Arv.set Ar36 qc36 S36 M36 Ha36 G36 rfl W38 6 rfl (Nat.le_of_ble_eq_true rfl)
  have N38 := Fr.snoc X38 N33 g2
  have z39 : n0 ≤ h38.size := Nat.le_trans z34 (Keep.of_wr W38).1
  have hs40 : h0.size ≤ h38.size := Nat.le_trans hs35 (Keep.of_wr W38).1
  obtain ⟨cl41, Ar41, qc41, S41, M41, Ha41, G41⟩ := id V38
  have hin42 : ¬ ((7 : Int32) < 0 ∨ cl41.slots.size ≤ ((7 : Int32)).toNatClampNeg) := inb_of S41 ⟨by decide, by decide⟩
  obtain ⟨T43, h43, X43, e43, W43, st43⟩ := stI X38 hx hZ e38 Ar41 (j := (7 : Int32)) hin42 (g := (mkF m 54 #[.val (.int p0), .val (.int p1), .val (.int p2), .val (.int p3), .val (.int p4), .val (.int p5), .val (.int (v0_2 p0 p1 p2 p3 p4 p5)), .unset, .unset, .unset] [(.int (p2 ^^^ (-1 : Int32))), (.int (7 : Int32)), (.ref b1), (.ref b1)])) rfl rfl (hb hby at_54)
  have V43 : Arv Z h43 b1 k1 .int (9 : Int32) [(.int p0), (.int p1), (.int p2), (.int p3), (.int p4), (.int (v0_3 p0 p1 p2 p3 p4 p5)), (.int (v0_4 p0 p1 p2 p3 p4 p5)), (.int (v0_5 p0 p1 p2 p3 p4 p5)), (.int (0 : Int32))] (.int (0 : Int32)) := Arv.set Ar41 qc41 S41 M41 Ha41 G41 rfl W43 7 rfl (Nat.le_of_ble_eq_true rfl)
  have N43 := Fr.snoc X43 N38 g2
  have z44 : n0 ≤ h43.size := Nat.le_trans z39 (Keep.of_wr W43).1
  have hs45 : h0.size ≤ h43.size := Nat.le_trans hs40 (Keep.of_wr W43).1
  obtain ⟨cl46, Ar46, qc46, S46, M46, Ha46, G46⟩ := id V43
  have hin47 : ¬ ((8 : Int32) < 0 ∨ cl46.slots.size ≤ ((8 : Int32)).toNatClampNeg) := inb_of S46 ⟨by decide, by decide⟩
  obtain ⟨T48, h48, X48, e48, W48, st48⟩ := stI X43 hx hZ e43 Ar46 (j := (8 : Int32)) hin47 (g := (mkF m 61 #[.val (.int p0), .val (.int p1), .val (.int p2), .val (.int p3), .val (.int p4), .val (.int p5), .val (.int (v0_2 p0 p1 p2 p3 p4 p5)), .unset, .unset, .unset] [(.int (p3 ^^^ (-1 : Int32))), (.int (8 : Int32)), (.ref b1), (.ref b1)])) rfl rfl (hb hby at_61)
  have V48 : Arv Z h48 b1 k1 .int (9 : Int32) [(.int p0), (.int p1), (.int p2), (.int p3), (.int p4), (.int (v0_3 p0 p1 p2 p3 p4 p5)), (.int (v0_4 p0 p1 p2 p3 p4 p5)), (.int (v0_5 p0 p1 p2 p3 p4 p5)), (.int (v0_6 p0 p1 p2 p3 p4 p5))] (.int (0 : Int32)) := Arv.set Ar46 qc46 S46 M46 Ha46 G46 rfl W48 8 rfl (Nat.le_of_ble_eq_true rfl)
  have N48 := Fr.snoc X48 N43 g2
  have z49 : n0 ≤ h48.size := Nat.le_trans z44 (Keep.of_wr W48).1
  have hs50 : h0.size ≤ h48.size := Nat.le_trans hs45 (Keep.of_wr W48).1
  obtain ⟨T51, h51, X51, e51, E51, A51, D51, -, st51⟩ := newO X48 hx hZ hown (hw _ (List.mem_of_getElem? (i := 2) rfl)) (hw _ (List.mem_of_getElem? (i := 3) rfl)) (hw _ (List.mem_of_getElem? (i := 4) rfl)) e48 (g := (mkF m 64 #[.val (.int p0), .val (.int p1), .val (.int p2), .val (.int p3), .val (.int p4), .val (.int p5), .val (.int (v0_2 p0 p1 p2 p3 p4 p5)), .val (.ref b1), .unset, .unset] [])) rfl (hb hby at_64) (by decide) (by decide)
  obtain ⟨b51, gz51⟩ : ∃ z, z = h48.size := ⟨_, rfl⟩
  rw [← gz51] at A51 D51 st51
  have k52 := (((((((((EA1.wr W8).wr W13).wr W18).wr W23).wr W28).wr W33).wr W38).wr W43).wr W48)
  have ne53 : b1 ≠ b51 := Nat.ne_of_lt (Nat.lt_of_lt_of_le k52.lt (Nat.le_of_eq gz51.symm))
  have g54 : n0 ≤ b51 := Nat.le_trans z49 (Nat.le_of_eq gz51.symm)
  have sz55 : h0.size ≤ b51 := Nat.le_trans hs50 (Nat.le_of_eq gz51.symm)
  have z56 : n0 ≤ h51.size := Nat.le_trans z49 E51.1
  have hs57 : h0.size ≤ h51.size := Nat.le_trans hs50 E51.1
  have F51_values : Fld Z h51 b51 "com/example/vellum_index/vellumindex/IntList" "values" "[I" .null := D51 (Or.inl (hw _ (List.mem_of_getElem? (i := 12) rfl))) (ty := (.array .int)) (by decide)
  have F51_size : Fld Z h51 b51 "com/example/vellum_index/vellumindex/IntList" "size" "I" (.int (0 : Int32)) := D51 (Or.inl (hw _ (List.mem_of_getElem? (i := 19) rfl))) (ty := .int) (by decide)
  obtain ⟨vr58, _, ⟨T58, L58, k58, n58⟩, -, X58, ⟨Lc58, hQ58, l58, y58, z58⟩, st58⟩ := X51.specialBack hx (y := (⟨"com/example/vellum_index/vellumindex/IntList", "<init>", "()V"⟩ : MethodName)) rfl hown (mvT hZ (hw _ (List.mem_of_getElem? (i := 5) rfl))) (mvT hZ (hw _ (List.mem_of_getElem? (i := 6) rfl))) (mvT hZ (hw _ (List.mem_of_getElem? (i := 7) rfl))) (by decide) (backOf (W := 1) (rm1 l Z a0 hw [] b51 (0 : Int32) .null h51 n0 z56 A51 F51_size F51_values g54) hZ (hw _ (List.mem_of_getElem? (i := 7) rfl)) (hw _ (List.mem_of_getElem? (i := 4) rfl)) (by decide) (by decide)) (g := (mkF m 68 #[.val (.int p0), .val (.int p1), .val (.int p2), .val (.int p3), .val (.int p4), .val (.int p5), .val (.int (v0_2 p0 p1 p2 p3 p4 p5)), .val (.ref b1), .unset, .unset] [(.ref b51), (.ref b51)])) rfl (by rw [hml]; rfl) (Steps.refl _) (a := b51) (argsL := []) (rest := [(.ref b51)]) (lenOf pd___V rfl) rfl (by show 2 * 0 + _ ≤ _; exact Nat.le_of_eq rfl) (hb hby at_68) (fun _ _ => ⟨rfl, e51, (by decide : 2 + 1 ≤ _), (by decide : 11 + 4 ≤ _)⟩)
  dsimp only [Pt.U, Pt.locs, Pt.cells, Pt.slots] at X58 l58 y58 z58 st58 hQ58
  subst l58 y58 z58
  have N58q := (show _ ∧ _ from hQ58).1
  have hq58 := (show _ ∧ _ from hQ58).2
  clear hQ58
  obtain ⟨x1_0_58, k1_1_58, hq58x⟩ := hq58
  have hv58 := hq58x.1
  have szx1_0_58 := hq58x.2.1
  have K58 := hq58x.2.2.1
  have po58_0 := hq58x.2.2.2.1
  have po58_1 := hq58x.2.2.2.2.1
  have po58_2 := hq58x.2.2.2.2.2.1
  have po58_3 := hq58x.2.2.2.2.2.2.1
  have po58_4 := hq58x.2.2.2.2.2.2.2
  clear hq58x
  subst hv58
  have k59 := (k52.ext E51)
  have ne60 : b1 ≠ x1_0_58 := Nat.ne_of_lt (Nat.lt_of_lt_of_le k59.lt szx1_0_58)
  have ne61 : b51 ≠ x1_0_58 := Nat.ne_of_lt (Nat.lt_of_lt_of_le A51.lt szx1_0_58)
  have g62 : n0 ≤ x1_0_58 := Nat.le_trans z56 szx1_0_58
  have sz63 : h0.size ≤ x1_0_58 := Nat.le_trans hs57 szx1_0_58
  have z64 : n0 ≤ T58.heap.size := Nat.le_trans z56 K58.1
  have hs65 : h0.size ≤ T58.heap.size := Nat.le_trans hs57 K58.1
  have N58 := Fr.app N48 N58q
  have pre66 : ∀ t, Steps p.tables e below (T58.setTop (mkF m 75 #[.val (.int p0), .val (.int p1), .val (.int p2), .val (.int p3), .val (.int p4), .val (.int p5), .val (.int (v0_2 p0 p1 p2 p3 p4 p5)), .val (.ref b1), .val (.ref b51), .unset] [(.int (v0_2 p0 p1 p2 p3 p4 p5))])) t → Steps p.tables e below (s₁.setTop (entryFrame m #[(.int p0), (.int p1), (.int p2), (.int p3), (.int p4), (.int p5)] maxLocals)) t := by
    intro t k
    refine pre0 t ?_
    show Steps p.tables e below (s₁.setTop (mkF m 0 #[.val (.int p0), .val (.int p1), .val (.int p2), .val (.int p3), .val (.int p4), .val (.int p5), .unset, .unset, .unset, .unset] [])) _
    refine XS.iload X0.here hx rfl (hb hby at_0) rfl ?_
    show Steps p.tables e below (s₁.setTop (mkF m 2 #[.val (.int p0), .val (.int p1), .val (.int p2), .val (.int p3), .val (.int p4), .val (.int p5), .unset, .unset, .unset, .unset] [(.int p5)])) _
    refine X0.ldcI hx hown (mvT hZ (hw _ (List.mem_of_getElem? (i := 0) rfl))) rfl (hb hby at_2) ?_
    show Steps p.tables e below (s₁.setTop (mkF m 4 #[.val (.int p0), .val (.int p1), .val (.int p2), .val (.int p3), .val (.int p4), .val (.int p5), .unset, .unset, .unset, .unset] [(.int (2147483647 : Int32)), (.int p5)])) _
    refine XS.iand X0.here hx rfl (hb hby at_4) rfl ?_
    show Steps p.tables e below (s₁.setTop (mkF m 5 #[.val (.int p0), .val (.int p1), .val (.int p2), .val (.int p3), .val (.int p4), .val (.int p5), .unset, .unset, .unset, .unset] [(.int (p5 &&& (2147483647 : Int32)))])) _
    refine XT.bipushV X0.here hx rfl (10 : Int32) (hb hby at_5) (by decide) ?_
    show Steps p.tables e below (s₁.setTop (mkF m 7 #[.val (.int p0), .val (.int p1), .val (.int p2), .val (.int p3), .val (.int p4), .val (.int p5), .unset, .unset, .unset, .unset] [(.int (10 : Int32)), (.int (p5 &&& (2147483647 : Int32)))])) _
    refine XS.irem X0.here hx rfl (hb hby at_7) rfl (by decide) ?_
    show Steps p.tables e below (s₁.setTop (mkF m 8 #[.val (.int p0), .val (.int p1), .val (.int p2), .val (.int p3), .val (.int p4), .val (.int p5), .unset, .unset, .unset, .unset] [(.int ((v0_1 p0 p1 p2 p3 p4 p5) - ((v0_1 p0 p1 p2 p3 p4 p5) / (10 : Int32)) * (10 : Int32)))])) _
    refine XS.istore X0.here hx rfl (hb hby at_8) rfl (l' := #[.val (.int p0), .val (.int p1), .val (.int p2), .val (.int p3), .val (.int p4), .val (.int p5), .val (.int (v0_2 p0 p1 p2 p3 p4 p5)), .unset, .unset, .unset]) rfl ?_
    show Steps p.tables e below (s₁.setTop (mkF m 10 #[.val (.int p0), .val (.int p1), .val (.int p2), .val (.int p3), .val (.int p4), .val (.int p5), .val (.int (v0_2 p0 p1 p2 p3 p4 p5)), .unset, .unset, .unset] [])) _
    refine XT.bipushV X0.here hx rfl (9 : Int32) (hb hby at_10) (by decide) ?_
    show Steps p.tables e below (s₁.setTop (mkF m 12 #[.val (.int p0), .val (.int p1), .val (.int p2), .val (.int p3), .val (.int p4), .val (.int p5), .val (.int (v0_2 p0 p1 p2 p3 p4 p5)), .unset, .unset, .unset] [(.int (9 : Int32))])) _
    refine st1 _ ?_
    show Steps p.tables e below (T1.setTop (mkF m 14 #[.val (.int p0), .val (.int p1), .val (.int p2), .val (.int p3), .val (.int p4), .val (.int p5), .val (.int (v0_2 p0 p1 p2 p3 p4 p5)), .unset, .unset, .unset] [(.ref b1)])) _
    refine XS.dup X1.here hx rfl (hb hby at_14) rfl rfl ?_
    show Steps p.tables e below (T1.setTop (mkF m 15 #[.val (.int p0), .val (.int p1), .val (.int p2), .val (.int p3), .val (.int p4), .val (.int p5), .val (.int (v0_2 p0 p1 p2 p3 p4 p5)), .unset, .unset, .unset] [(.ref b1), (.ref b1)])) _
    refine XT.iconstV X1.here hx rfl (0 : Int32) (hb hby at_15) (by decide) ?_
    show Steps p.tables e below (T1.setTop (mkF m 16 #[.val (.int p0), .val (.int p1), .val (.int p2), .val (.int p3), .val (.int p4), .val (.int p5), .val (.int (v0_2 p0 p1 p2 p3 p4 p5)), .unset, .unset, .unset] [(.int (0 : Int32)), (.ref b1), (.ref b1)])) _
    refine XS.iloadN X1.here hx rfl (hb hby at_16) rfl ?_
    show Steps p.tables e below (T1.setTop (mkF m 17 #[.val (.int p0), .val (.int p1), .val (.int p2), .val (.int p3), .val (.int p4), .val (.int p5), .val (.int (v0_2 p0 p1 p2 p3 p4 p5)), .unset, .unset, .unset] [(.int p0), (.int (0 : Int32)), (.ref b1), (.ref b1)])) _
    refine st8 _ ?_
    show Steps p.tables e below (T8.setTop (mkF m 18 #[.val (.int p0), .val (.int p1), .val (.int p2), .val (.int p3), .val (.int p4), .val (.int p5), .val (.int (v0_2 p0 p1 p2 p3 p4 p5)), .unset, .unset, .unset] [(.ref b1)])) _
    refine XS.dup X8.here hx rfl (hb hby at_18) rfl rfl ?_
    show Steps p.tables e below (T8.setTop (mkF m 19 #[.val (.int p0), .val (.int p1), .val (.int p2), .val (.int p3), .val (.int p4), .val (.int p5), .val (.int (v0_2 p0 p1 p2 p3 p4 p5)), .unset, .unset, .unset] [(.ref b1), (.ref b1)])) _
    refine XT.iconstV X8.here hx rfl (1 : Int32) (hb hby at_19) (by decide) ?_
    show Steps p.tables e below (T8.setTop (mkF m 20 #[.val (.int p0), .val (.int p1), .val (.int p2), .val (.int p3), .val (.int p4), .val (.int p5), .val (.int (v0_2 p0 p1 p2 p3 p4 p5)), .unset, .unset, .unset] [(.int (1 : Int32)), (.ref b1), (.ref b1)])) _
    refine XS.iloadN X8.here hx rfl (hb hby at_20) rfl ?_
    show Steps p.tables e below (T8.setTop (mkF m 21 #[.val (.int p0), .val (.int p1), .val (.int p2), .val (.int p3), .val (.int p4), .val (.int p5), .val (.int (v0_2 p0 p1 p2 p3 p4 p5)), .unset, .unset, .unset] [(.int p1), (.int (1 : Int32)), (.ref b1), (.ref b1)])) _
    refine st13 _ ?_
    show Steps p.tables e below (T13.setTop (mkF m 22 #[.val (.int p0), .val (.int p1), .val (.int p2), .val (.int p3), .val (.int p4), .val (.int p5), .val (.int (v0_2 p0 p1 p2 p3 p4 p5)), .unset, .unset, .unset] [(.ref b1)])) _
    refine XS.dup X13.here hx rfl (hb hby at_22) rfl rfl ?_
    show Steps p.tables e below (T13.setTop (mkF m 23 #[.val (.int p0), .val (.int p1), .val (.int p2), .val (.int p3), .val (.int p4), .val (.int p5), .val (.int (v0_2 p0 p1 p2 p3 p4 p5)), .unset, .unset, .unset] [(.ref b1), (.ref b1)])) _
    refine XT.iconstV X13.here hx rfl (2 : Int32) (hb hby at_23) (by decide) ?_
    show Steps p.tables e below (T13.setTop (mkF m 24 #[.val (.int p0), .val (.int p1), .val (.int p2), .val (.int p3), .val (.int p4), .val (.int p5), .val (.int (v0_2 p0 p1 p2 p3 p4 p5)), .unset, .unset, .unset] [(.int (2 : Int32)), (.ref b1), (.ref b1)])) _
    refine XS.iloadN X13.here hx rfl (hb hby at_24) rfl ?_
    show Steps p.tables e below (T13.setTop (mkF m 25 #[.val (.int p0), .val (.int p1), .val (.int p2), .val (.int p3), .val (.int p4), .val (.int p5), .val (.int (v0_2 p0 p1 p2 p3 p4 p5)), .unset, .unset, .unset] [(.int p2), (.int (2 : Int32)), (.ref b1), (.ref b1)])) _
    refine st18 _ ?_
    show Steps p.tables e below (T18.setTop (mkF m 26 #[.val (.int p0), .val (.int p1), .val (.int p2), .val (.int p3), .val (.int p4), .val (.int p5), .val (.int (v0_2 p0 p1 p2 p3 p4 p5)), .unset, .unset, .unset] [(.ref b1)])) _
    refine XS.dup X18.here hx rfl (hb hby at_26) rfl rfl ?_
    show Steps p.tables e below (T18.setTop (mkF m 27 #[.val (.int p0), .val (.int p1), .val (.int p2), .val (.int p3), .val (.int p4), .val (.int p5), .val (.int (v0_2 p0 p1 p2 p3 p4 p5)), .unset, .unset, .unset] [(.ref b1), (.ref b1)])) _
    refine XT.iconstV X18.here hx rfl (3 : Int32) (hb hby at_27) (by decide) ?_
    show Steps p.tables e below (T18.setTop (mkF m 28 #[.val (.int p0), .val (.int p1), .val (.int p2), .val (.int p3), .val (.int p4), .val (.int p5), .val (.int (v0_2 p0 p1 p2 p3 p4 p5)), .unset, .unset, .unset] [(.int (3 : Int32)), (.ref b1), (.ref b1)])) _
    refine XS.iloadN X18.here hx rfl (hb hby at_28) rfl ?_
    show Steps p.tables e below (T18.setTop (mkF m 29 #[.val (.int p0), .val (.int p1), .val (.int p2), .val (.int p3), .val (.int p4), .val (.int p5), .val (.int (v0_2 p0 p1 p2 p3 p4 p5)), .unset, .unset, .unset] [(.int p3), (.int (3 : Int32)), (.ref b1), (.ref b1)])) _
    refine st23 _ ?_
    show Steps p.tables e below (T23.setTop (mkF m 30 #[.val (.int p0), .val (.int p1), .val (.int p2), .val (.int p3), .val (.int p4), .val (.int p5), .val (.int (v0_2 p0 p1 p2 p3 p4 p5)), .unset, .unset, .unset] [(.ref b1)])) _
    refine XS.dup X23.here hx rfl (hb hby at_30) rfl rfl ?_
    show Steps p.tables e below (T23.setTop (mkF m 31 #[.val (.int p0), .val (.int p1), .val (.int p2), .val (.int p3), .val (.int p4), .val (.int p5), .val (.int (v0_2 p0 p1 p2 p3 p4 p5)), .unset, .unset, .unset] [(.ref b1), (.ref b1)])) _
    refine XT.iconstV X23.here hx rfl (4 : Int32) (hb hby at_31) (by decide) ?_
    show Steps p.tables e below (T23.setTop (mkF m 32 #[.val (.int p0), .val (.int p1), .val (.int p2), .val (.int p3), .val (.int p4), .val (.int p5), .val (.int (v0_2 p0 p1 p2 p3 p4 p5)), .unset, .unset, .unset] [(.int (4 : Int32)), (.ref b1), (.ref b1)])) _
    refine XS.iload X23.here hx rfl (hb hby at_32) rfl ?_
    show Steps p.tables e below (T23.setTop (mkF m 34 #[.val (.int p0), .val (.int p1), .val (.int p2), .val (.int p3), .val (.int p4), .val (.int p5), .val (.int (v0_2 p0 p1 p2 p3 p4 p5)), .unset, .unset, .unset] [(.int p4), (.int (4 : Int32)), (.ref b1), (.ref b1)])) _
    refine st28 _ ?_
    show Steps p.tables e below (T28.setTop (mkF m 35 #[.val (.int p0), .val (.int p1), .val (.int p2), .val (.int p3), .val (.int p4), .val (.int p5), .val (.int (v0_2 p0 p1 p2 p3 p4 p5)), .unset, .unset, .unset] [(.ref b1)])) _
    refine XS.dup X28.here hx rfl (hb hby at_35) rfl rfl ?_
    show Steps p.tables e below (T28.setTop (mkF m 36 #[.val (.int p0), .val (.int p1), .val (.int p2), .val (.int p3), .val (.int p4), .val (.int p5), .val (.int (v0_2 p0 p1 p2 p3 p4 p5)), .unset, .unset, .unset] [(.ref b1), (.ref b1)])) _
    refine XT.iconstV X28.here hx rfl (5 : Int32) (hb hby at_36) (by decide) ?_
    show Steps p.tables e below (T28.setTop (mkF m 37 #[.val (.int p0), .val (.int p1), .val (.int p2), .val (.int p3), .val (.int p4), .val (.int p5), .val (.int (v0_2 p0 p1 p2 p3 p4 p5)), .unset, .unset, .unset] [(.int (5 : Int32)), (.ref b1), (.ref b1)])) _
    refine XS.iloadN X28.here hx rfl (hb hby at_37) rfl ?_
    show Steps p.tables e below (T28.setTop (mkF m 38 #[.val (.int p0), .val (.int p1), .val (.int p2), .val (.int p3), .val (.int p4), .val (.int p5), .val (.int (v0_2 p0 p1 p2 p3 p4 p5)), .unset, .unset, .unset] [(.int p0), (.int (5 : Int32)), (.ref b1), (.ref b1)])) _
    refine XT.iconstV X28.here hx rfl (-1 : Int32) (hb hby at_38) (by decide) ?_
    show Steps p.tables e below (T28.setTop (mkF m 39 #[.val (.int p0), .val (.int p1), .val (.int p2), .val (.int p3), .val (.int p4), .val (.int p5), .val (.int (v0_2 p0 p1 p2 p3 p4 p5)), .unset, .unset, .unset] [(.int (-1 : Int32)), (.int p0), (.int (5 : Int32)), (.ref b1), (.ref b1)])) _
    refine XT.ixor X28.here hx rfl (hb hby at_39) rfl ?_
    show Steps p.tables e below (T28.setTop (mkF m 40 #[.val (.int p0), .val (.int p1), .val (.int p2), .val (.int p3), .val (.int p4), .val (.int p5), .val (.int (v0_2 p0 p1 p2 p3 p4 p5)), .unset, .unset, .unset] [(.int (p0 ^^^ (-1 : Int32))), (.int (5 : Int32)), (.ref b1), (.ref b1)])) _
    refine st33 _ ?_
    show Steps p.tables e below (T33.setTop (mkF m 41 #[.val (.int p0), .val (.int p1), .val (.int p2), .val (.int p3), .val (.int p4), .val (.int p5), .val (.int (v0_2 p0 p1 p2 p3 p4 p5)), .unset, .unset, .unset] [(.ref b1)])) _
    refine XS.dup X33.here hx rfl (hb hby at_41) rfl rfl ?_
    show Steps p.tables e below (T33.setTop (mkF m 42 #[.val (.int p0), .val (.int p1), .val (.int p2), .val (.int p3), .val (.int p4), .val (.int p5), .val (.int (v0_2 p0 p1 p2 p3 p4 p5)), .unset, .unset, .unset] [(.ref b1), (.ref b1)])) _
    refine XT.bipushV X33.here hx rfl (6 : Int32) (hb hby at_42) (by decide) ?_
    show Steps p.tables e below (T33.setTop (mkF m 44 #[.val (.int p0), .val (.int p1), .val (.int p2), .val (.int p3), .val (.int p4), .val (.int p5), .val (.int (v0_2 p0 p1 p2 p3 p4 p5)), .unset, .unset, .unset] [(.int (6 : Int32)), (.ref b1), (.ref b1)])) _
    refine XS.iloadN X33.here hx rfl (hb hby at_44) rfl ?_
    show Steps p.tables e below (T33.setTop (mkF m 45 #[.val (.int p0), .val (.int p1), .val (.int p2), .val (.int p3), .val (.int p4), .val (.int p5), .val (.int (v0_2 p0 p1 p2 p3 p4 p5)), .unset, .unset, .unset] [(.int p1), (.int (6 : Int32)), (.ref b1), (.ref b1)])) _
    refine XT.iconstV X33.here hx rfl (-1 : Int32) (hb hby at_45) (by decide) ?_
    show Steps p.tables e below (T33.setTop (mkF m 46 #[.val (.int p0), .val (.int p1), .val (.int p2), .val (.int p3), .val (.int p4), .val (.int p5), .val (.int (v0_2 p0 p1 p2 p3 p4 p5)), .unset, .unset, .unset] [(.int (-1 : Int32)), (.int p1), (.int (6 : Int32)), (.ref b1), (.ref b1)])) _
    refine XT.ixor X33.here hx rfl (hb hby at_46) rfl ?_
    show Steps p.tables e below (T33.setTop (mkF m 47 #[.val (.int p0), .val (.int p1), .val (.int p2), .val (.int p3), .val (.int p4), .val (.int p5), .val (.int (v0_2 p0 p1 p2 p3 p4 p5)), .unset, .unset, .unset] [(.int (p1 ^^^ (-1 : Int32))), (.int (6 : Int32)), (.ref b1), (.ref b1)])) _
    refine st38 _ ?_
    show Steps p.tables e below (T38.setTop (mkF m 48 #[.val (.int p0), .val (.int p1), .val (.int p2), .val (.int p3), .val (.int p4), .val (.int p5), .val (.int (v0_2 p0 p1 p2 p3 p4 p5)), .unset, .unset, .unset] [(.ref b1)])) _
    refine XS.dup X38.here hx rfl (hb hby at_48) rfl rfl ?_
    show Steps p.tables e below (T38.setTop (mkF m 49 #[.val (.int p0), .val (.int p1), .val (.int p2), .val (.int p3), .val (.int p4), .val (.int p5), .val (.int (v0_2 p0 p1 p2 p3 p4 p5)), .unset, .unset, .unset] [(.ref b1), (.ref b1)])) _
    refine XT.bipushV X38.here hx rfl (7 : Int32) (hb hby at_49) (by decide) ?_
    show Steps p.tables e below (T38.setTop (mkF m 51 #[.val (.int p0), .val (.int p1), .val (.int p2), .val (.int p3), .val (.int p4), .val (.int p5), .val (.int (v0_2 p0 p1 p2 p3 p4 p5)), .unset, .unset, .unset] [(.int (7 : Int32)), (.ref b1), (.ref b1)])) _
    refine XS.iloadN X38.here hx rfl (hb hby at_51) rfl ?_
    show Steps p.tables e below (T38.setTop (mkF m 52 #[.val (.int p0), .val (.int p1), .val (.int p2), .val (.int p3), .val (.int p4), .val (.int p5), .val (.int (v0_2 p0 p1 p2 p3 p4 p5)), .unset, .unset, .unset] [(.int p2), (.int (7 : Int32)), (.ref b1), (.ref b1)])) _
    refine XT.iconstV X38.here hx rfl (-1 : Int32) (hb hby at_52) (by decide) ?_
    show Steps p.tables e below (T38.setTop (mkF m 53 #[.val (.int p0), .val (.int p1), .val (.int p2), .val (.int p3), .val (.int p4), .val (.int p5), .val (.int (v0_2 p0 p1 p2 p3 p4 p5)), .unset, .unset, .unset] [(.int (-1 : Int32)), (.int p2), (.int (7 : Int32)), (.ref b1), (.ref b1)])) _
    refine XT.ixor X38.here hx rfl (hb hby at_53) rfl ?_
    show Steps p.tables e below (T38.setTop (mkF m 54 #[.val (.int p0), .val (.int p1), .val (.int p2), .val (.int p3), .val (.int p4), .val (.int p5), .val (.int (v0_2 p0 p1 p2 p3 p4 p5)), .unset, .unset, .unset] [(.int (p2 ^^^ (-1 : Int32))), (.int (7 : Int32)), (.ref b1), (.ref b1)])) _
    refine st43 _ ?_
    show Steps p.tables e below (T43.setTop (mkF m 55 #[.val (.int p0), .val (.int p1), .val (.int p2), .val (.int p3), .val (.int p4), .val (.int p5), .val (.int (v0_2 p0 p1 p2 p3 p4 p5)), .unset, .unset, .unset] [(.ref b1)])) _
    refine XS.dup X43.here hx rfl (hb hby at_55) rfl rfl ?_
    show Steps p.tables e below (T43.setTop (mkF m 56 #[.val (.int p0), .val (.int p1), .val (.int p2), .val (.int p3), .val (.int p4), .val (.int p5), .val (.int (v0_2 p0 p1 p2 p3 p4 p5)), .unset, .unset, .unset] [(.ref b1), (.ref b1)])) _
    refine XT.bipushV X43.here hx rfl (8 : Int32) (hb hby at_56) (by decide) ?_
    show Steps p.tables e below (T43.setTop (mkF m 58 #[.val (.int p0), .val (.int p1), .val (.int p2), .val (.int p3), .val (.int p4), .val (.int p5), .val (.int (v0_2 p0 p1 p2 p3 p4 p5)), .unset, .unset, .unset] [(.int (8 : Int32)), (.ref b1), (.ref b1)])) _
    refine XS.iloadN X43.here hx rfl (hb hby at_58) rfl ?_
    show Steps p.tables e below (T43.setTop (mkF m 59 #[.val (.int p0), .val (.int p1), .val (.int p2), .val (.int p3), .val (.int p4), .val (.int p5), .val (.int (v0_2 p0 p1 p2 p3 p4 p5)), .unset, .unset, .unset] [(.int p3), (.int (8 : Int32)), (.ref b1), (.ref b1)])) _
    refine XT.iconstV X43.here hx rfl (-1 : Int32) (hb hby at_59) (by decide) ?_
    show Steps p.tables e below (T43.setTop (mkF m 60 #[.val (.int p0), .val (.int p1), .val (.int p2), .val (.int p3), .val (.int p4), .val (.int p5), .val (.int (v0_2 p0 p1 p2 p3 p4 p5)), .unset, .unset, .unset] [(.int (-1 : Int32)), (.int p3), (.int (8 : Int32)), (.ref b1), (.ref b1)])) _
    refine XT.ixor X43.here hx rfl (hb hby at_60) rfl ?_
    show Steps p.tables e below (T43.setTop (mkF m 61 #[.val (.int p0), .val (.int p1), .val (.int p2), .val (.int p3), .val (.int p4), .val (.int p5), .val (.int (v0_2 p0 p1 p2 p3 p4 p5)), .unset, .unset, .unset] [(.int (p3 ^^^ (-1 : Int32))), (.int (8 : Int32)), (.ref b1), (.ref b1)])) _
    refine st48 _ ?_
    show Steps p.tables e below (T48.setTop (mkF m 62 #[.val (.int p0), .val (.int p1), .val (.int p2), .val (.int p3), .val (.int p4), .val (.int p5), .val (.int (v0_2 p0 p1 p2 p3 p4 p5)), .unset, .unset, .unset] [(.ref b1)])) _
    refine XS.astore X48.here hx rfl (hb hby at_62) rfl rfl (l' := #[.val (.int p0), .val (.int p1), .val (.int p2), .val (.int p3), .val (.int p4), .val (.int p5), .val (.int (v0_2 p0 p1 p2 p3 p4 p5)), .val (.ref b1), .unset, .unset]) rfl ?_
    show Steps p.tables e below (T48.setTop (mkF m 64 #[.val (.int p0), .val (.int p1), .val (.int p2), .val (.int p3), .val (.int p4), .val (.int p5), .val (.int (v0_2 p0 p1 p2 p3 p4 p5)), .val (.ref b1), .unset, .unset] [])) _
    refine st51 _ ?_
    show Steps p.tables e below (T51.setTop (mkF m 67 #[.val (.int p0), .val (.int p1), .val (.int p2), .val (.int p3), .val (.int p4), .val (.int p5), .val (.int (v0_2 p0 p1 p2 p3 p4 p5)), .val (.ref b1), .unset, .unset] [(.ref b51)])) _
    refine XS.dup X51.here hx rfl (hb hby at_67) rfl rfl ?_
    show Steps p.tables e below (T51.setTop (mkF m 68 #[.val (.int p0), .val (.int p1), .val (.int p2), .val (.int p3), .val (.int p4), .val (.int p5), .val (.int (v0_2 p0 p1 p2 p3 p4 p5)), .val (.ref b1), .unset, .unset] [(.ref b51), (.ref b51)])) _
    refine st58.trans ?_
    show Steps p.tables e below (T58.setTop (mkF m 71 #[.val (.int p0), .val (.int p1), .val (.int p2), .val (.int p3), .val (.int p4), .val (.int p5), .val (.int (v0_2 p0 p1 p2 p3 p4 p5)), .val (.ref b1), .unset, .unset] [(.ref b51)])) _
    refine XS.astore X58.here hx rfl (hb hby at_71) rfl rfl (l' := #[.val (.int p0), .val (.int p1), .val (.int p2), .val (.int p3), .val (.int p4), .val (.int p5), .val (.int (v0_2 p0 p1 p2 p3 p4 p5)), .val (.ref b1), .val (.ref b51), .unset]) rfl ?_
    show Steps p.tables e below (T58.setTop (mkF m 73 #[.val (.int p0), .val (.int p1), .val (.int p2), .val (.int p3), .val (.int p4), .val (.int p5), .val (.int (v0_2 p0 p1 p2 p3 p4 p5)), .val (.ref b1), .val (.ref b51), .unset] [])) _
    refine XS.iload X58.here hx rfl (hb hby at_73) rfl ?_
    exact k
  clear pre0 st1 st8 st13 st18 st23 st28 st33 st38 st43 st48 st51 st58
  by_cases c67 : (0 : Int32) < (v0_2 p0 p1 p2 p3 p4 p5)
  · skip
    have k68 := ((V48.ext E51).keep K58 (ninS ne53 nin0))
    obtain ⟨cl69, Ar69, qc69, S69, M69, Ha69, G69⟩ := id k68
    have hin70 : ¬ ((0 : Int32) < 0 ∨ cl69.slots.size ≤ ((0 : Int32)).toNatClampNeg) := inb_of S69 ⟨by decide, by decide⟩
    obtain ⟨cq71, kq71, q71a, q71b, q71c⟩ := isOf hZ rfl po58_0
    obtain ⟨vr71, _, ⟨T71, L71, k71, n71⟩, -, X71, ⟨Lc71, hQ71, l71, y71, z71⟩, st71⟩ := X58.virtualBack hx (y := (⟨"com/example/vellum_index/vellumindex/IntList", "add", "(I)V"⟩ : MethodName)) (z := (⟨"com/example/vellum_index/vellumindex/IntList", "add", "(I)V"⟩ : MethodName)) hown (mvT hZ (hw _ (List.mem_of_getElem? (i := 13) rfl))) (mvT hZ (hw _ (List.mem_of_getElem? (i := 14) rfl))) (notFace_of_selects (args := #[]) (mvT hZ (hw _ (List.mem_of_getElem? (i := 16) rfl)))) (mvT hZ (hw _ (List.mem_of_getElem? (i := 16) rfl))) (mvT hZ (hw _ (List.mem_of_getElem? (i := 15) rfl))) (by decide) (backOf (W := 0) (rmadd0 l Z a0 hw [] b51 p0 x1_0_58 (0 : Int32) (0 : Int32) (0 : Int32) (0 : Int32) k1_1_58 T58.heap n0 z64 po58_0 po58_1 po58_2 po58_3 po58_4 g54 (Ne.symm ne61) g62) hZ (hw _ (List.mem_of_getElem? (i := 17) rfl)) (hw _ (List.mem_of_getElem? (i := 4) rfl)) (by decide) (by decide)) q71a q71c (g := (mkF m 84 #[.val (.int p0), .val (.int p1), .val (.int p2), .val (.int p3), .val (.int p4), .val (.int p5), .val (.int (v0_2 p0 p1 p2 p3 p4 p5)), .val (.ref b1), .val (.ref b51), .unset] [(.int p0), (.ref b51)])) rfl (by rw [hml]; rfl) (Steps.refl _) (argsL := [(.int p0)]) (rest := []) (lenOf pd__I_V rfl) rfl (by show 2 * 0 + _ ≤ _; exact Nat.le_of_eq rfl) (hb hby at_84) (fun _ _ => ⟨rfl, rfl, (by decide : 3 + 0 ≤ _), (by decide : 15 + 0 ≤ _)⟩)
    dsimp only [Pt.U, Pt.locs, Pt.cells, Pt.slots] at X71 l71 y71 z71 st71 hQ71
    subst l71 y71 z71
    have N71q := (show _ ∧ _ from hQ71).1
    have hq71 := (show _ ∧ _ from hQ71).2
    clear hQ71
    have hv71 := hq71.1
    have K71 := hq71.2.1
    have po71_0 := hq71.2.2.1
    have po71_1 := hq71.2.2.2.1
    have po71_2 := hq71.2.2.2.2.1
    have po71_3 := hq71.2.2.2.2.2.1
    have po71_4 := hq71.2.2.2.2.2.2
    clear hq71
    subst hv71
    have z72 : n0 ≤ T71.heap.size := Nat.le_trans z64 K71.1
    have hs73 : h0.size ≤ T71.heap.size := Nat.le_trans hs65 K71.1
    have N71 := Fr.app N58 N71q
    have pre74 : ∀ t, Steps p.tables e below (T71.setTop (mkF m 90 #[.val (.int p0), .val (.int p1), .val (.int p2), .val (.int p3), .val (.int p4), .val (.int p5), .val (.int (v0_2 p0 p1 p2 p3 p4 p5)), .val (.ref b1), .val (.ref b51), .unset] [(.int (1 : Int32)), (.int (v0_2 p0 p1 p2 p3 p4 p5))])) t → Steps p.tables e below (s₁.setTop (entryFrame m #[(.int p0), (.int p1), (.int p2), (.int p3), (.int p4), (.int p5)] maxLocals)) t := by
      intro t k
      refine pre66 t ?_
      show Steps p.tables e below (T58.setTop (mkF m 75 #[.val (.int p0), .val (.int p1), .val (.int p2), .val (.int p3), .val (.int p4), .val (.int p5), .val (.int (v0_2 p0 p1 p2 p3 p4 p5)), .val (.ref b1), .val (.ref b51), .unset] [(.int (v0_2 p0 p1 p2 p3 p4 p5))])) _
      refine XS.ifNo X58.here hx rfl (hb hby at_75) rfl (XT.i0_le_f c67) ?_
      show Steps p.tables e below (T58.setTop (mkF m 78 #[.val (.int p0), .val (.int p1), .val (.int p2), .val (.int p3), .val (.int p4), .val (.int p5), .val (.int (v0_2 p0 p1 p2 p3 p4 p5)), .val (.ref b1), .val (.ref b51), .unset] [])) _
      refine XS.aload X58.here hx rfl (hb hby at_78) rfl rfl ?_
      show Steps p.tables e below (T58.setTop (mkF m 80 #[.val (.int p0), .val (.int p1), .val (.int p2), .val (.int p3), .val (.int p4), .val (.int p5), .val (.int (v0_2 p0 p1 p2 p3 p4 p5)), .val (.ref b1), .val (.ref b51), .unset] [(.ref b51)])) _
      refine XS.aload X58.here hx rfl (hb hby at_80) rfl rfl ?_
      show Steps p.tables e below (T58.setTop (mkF m 82 #[.val (.int p0), .val (.int p1), .val (.int p2), .val (.int p3), .val (.int p4), .val (.int p5), .val (.int (v0_2 p0 p1 p2 p3 p4 p5)), .val (.ref b1), .val (.ref b51), .unset] [(.ref b1), (.ref b51)])) _
      refine XT.iconstV X58.here hx rfl (0 : Int32) (hb hby at_82) (by decide) ?_
      show Steps p.tables e below (T58.setTop (mkF m 83 #[.val (.int p0), .val (.int p1), .val (.int p2), .val (.int p3), .val (.int p4), .val (.int p5), .val (.int (v0_2 p0 p1 p2 p3 p4 p5)), .val (.ref b1), .val (.ref b51), .unset] [(.int (0 : Int32)), (.ref b1), (.ref b51)])) _
      refine X58.iaload hx (j := (0 : Int32)) (v := (.int p0)) Ar69.1 (State.isArrayOf_alike hZ.alike Ar69.2.1) Ar69.2.2 hin70 (Has.at Ha69 hin70 rfl) (g := (mkF m 83 #[.val (.int p0), .val (.int p1), .val (.int p2), .val (.int p3), .val (.int p4), .val (.int p5), .val (.int (v0_2 p0 p1 p2 p3 p4 p5)), .val (.ref b1), .val (.ref b51), .unset] [(.int (0 : Int32)), (.ref b1), (.ref b51)])) rfl rfl (hb hby at_83) _ ?_
      show Steps p.tables e below (T58.setTop (mkF m 84 #[.val (.int p0), .val (.int p1), .val (.int p2), .val (.int p3), .val (.int p4), .val (.int p5), .val (.int (v0_2 p0 p1 p2 p3 p4 p5)), .val (.ref b1), .val (.ref b51), .unset] [(.int p0), (.ref b51)])) _
      refine st71.trans ?_
      show Steps p.tables e below (T71.setTop (mkF m 87 #[.val (.int p0), .val (.int p1), .val (.int p2), .val (.int p3), .val (.int p4), .val (.int p5), .val (.int (v0_2 p0 p1 p2 p3 p4 p5)), .val (.ref b1), .val (.ref b51), .unset] [])) _
      refine XS.iload X71.here hx rfl (hb hby at_87) rfl ?_
      show Steps p.tables e below (T71.setTop (mkF m 89 #[.val (.int p0), .val (.int p1), .val (.int p2), .val (.int p3), .val (.int p4), .val (.int p5), .val (.int (v0_2 p0 p1 p2 p3 p4 p5)), .val (.ref b1), .val (.ref b51), .unset] [(.int (v0_2 p0 p1 p2 p3 p4 p5))])) _
      refine XT.iconstV X71.here hx rfl (1 : Int32) (hb hby at_89) (by decide) ?_
      exact k
    clear pre66 st71
    by_cases c75 : (1 : Int32) < (v0_2 p0 p1 p2 p3 p4 p5)
    · skip
      have k76 := (k68.keep K71 (ninS ne53 (ninS ne60 nin0)))
      obtain ⟨cl77, Ar77, qc77, S77, M77, Ha77, G77⟩ := id k76
      have hin78 : ¬ ((1 : Int32) < 0 ∨ cl77.slots.size ≤ ((1 : Int32)).toNatClampNeg) := inb_of S77 ⟨by decide, by decide⟩
      obtain ⟨cq79, kq79, q79a, q79b, q79c⟩ := isOf hZ rfl po71_0
      obtain ⟨vr79, _, ⟨T79, L79, k79, n79⟩, -, X79, ⟨Lc79, hQ79, l79, y79, z79⟩, st79⟩ := X71.virtualBack hx (y := (⟨"com/example/vellum_index/vellumindex/IntList", "add", "(I)V"⟩ : MethodName)) (z := (⟨"com/example/vellum_index/vellumindex/IntList", "add", "(I)V"⟩ : MethodName)) hown (mvT hZ (hw _ (List.mem_of_getElem? (i := 13) rfl))) (mvT hZ (hw _ (List.mem_of_getElem? (i := 14) rfl))) (notFace_of_selects (args := #[]) (mvT hZ (hw _ (List.mem_of_getElem? (i := 16) rfl)))) (mvT hZ (hw _ (List.mem_of_getElem? (i := 16) rfl))) (mvT hZ (hw _ (List.mem_of_getElem? (i := 15) rfl))) (by decide) (backOf (W := 0) (rmadd1 l Z a0 hw [] b51 p1 x1_0_58 p0 (0 : Int32) (0 : Int32) (0 : Int32) k1_1_58 T71.heap n0 z72 po71_0 po71_1 po71_2 po71_3 po71_4 g54 (Ne.symm ne61) g62) hZ (hw _ (List.mem_of_getElem? (i := 17) rfl)) (hw _ (List.mem_of_getElem? (i := 4) rfl)) (by decide) (by decide)) q79a q79c (g := (mkF m 99 #[.val (.int p0), .val (.int p1), .val (.int p2), .val (.int p3), .val (.int p4), .val (.int p5), .val (.int (v0_2 p0 p1 p2 p3 p4 p5)), .val (.ref b1), .val (.ref b51), .unset] [(.int p1), (.ref b51)])) rfl (by rw [hml]; rfl) (Steps.refl _) (argsL := [(.int p1)]) (rest := []) (lenOf pd__I_V rfl) rfl (by show 2 * 0 + _ ≤ _; exact Nat.le_of_eq rfl) (hb hby at_99) (fun _ _ => ⟨rfl, rfl, (by decide : 3 + 0 ≤ _), (by decide : 15 + 0 ≤ _)⟩)
      dsimp only [Pt.U, Pt.locs, Pt.cells, Pt.slots] at X79 l79 y79 z79 st79 hQ79
      subst l79 y79 z79
      have N79q := (show _ ∧ _ from hQ79).1
      have hq79 := (show _ ∧ _ from hQ79).2
      clear hQ79
      have hv79 := hq79.1
      have K79 := hq79.2.1
      have po79_0 := hq79.2.2.1
      have po79_1 := hq79.2.2.2.1
      have po79_2 := hq79.2.2.2.2.1
      have po79_3 := hq79.2.2.2.2.2.1
      have po79_4 := hq79.2.2.2.2.2.2
      clear hq79
      subst hv79
      have z80 : n0 ≤ T79.heap.size := Nat.le_trans z72 K79.1
      have hs81 : h0.size ≤ T79.heap.size := Nat.le_trans hs73 K79.1
      have N79 := Fr.app N71 N79q
      have pre82 : ∀ t, Steps p.tables e below (T79.setTop (mkF m 105 #[.val (.int p0), .val (.int p1), .val (.int p2), .val (.int p3), .val (.int p4), .val (.int p5), .val (.int (v0_2 p0 p1 p2 p3 p4 p5)), .val (.ref b1), .val (.ref b51), .unset] [(.int (2 : Int32)), (.int (v0_2 p0 p1 p2 p3 p4 p5))])) t → Steps p.tables e below (s₁.setTop (entryFrame m #[(.int p0), (.int p1), (.int p2), (.int p3), (.int p4), (.int p5)] maxLocals)) t := by
        intro t k
        refine pre74 t ?_
        show Steps p.tables e below (T71.setTop (mkF m 90 #[.val (.int p0), .val (.int p1), .val (.int p2), .val (.int p3), .val (.int p4), .val (.int p5), .val (.int (v0_2 p0 p1 p2 p3 p4 p5)), .val (.ref b1), .val (.ref b51), .unset] [(.int (1 : Int32)), (.int (v0_2 p0 p1 p2 p3 p4 p5))])) _
        refine XS.icmpNo X71.here hx rfl (hb hby at_90) rfl (XT.ii_le_f c75) ?_
        show Steps p.tables e below (T71.setTop (mkF m 93 #[.val (.int p0), .val (.int p1), .val (.int p2), .val (.int p3), .val (.int p4), .val (.int p5), .val (.int (v0_2 p0 p1 p2 p3 p4 p5)), .val (.ref b1), .val (.ref b51), .unset] [])) _
        refine XS.aload X71.here hx rfl (hb hby at_93) rfl rfl ?_
        show Steps p.tables e below (T71.setTop (mkF m 95 #[.val (.int p0), .val (.int p1), .val (.int p2), .val (.int p3), .val (.int p4), .val (.int p5), .val (.int (v0_2 p0 p1 p2 p3 p4 p5)), .val (.ref b1), .val (.ref b51), .unset] [(.ref b51)])) _
        refine XS.aload X71.here hx rfl (hb hby at_95) rfl rfl ?_
        show Steps p.tables e below (T71.setTop (mkF m 97 #[.val (.int p0), .val (.int p1), .val (.int p2), .val (.int p3), .val (.int p4), .val (.int p5), .val (.int (v0_2 p0 p1 p2 p3 p4 p5)), .val (.ref b1), .val (.ref b51), .unset] [(.ref b1), (.ref b51)])) _
        refine XT.iconstV X71.here hx rfl (1 : Int32) (hb hby at_97) (by decide) ?_
        show Steps p.tables e below (T71.setTop (mkF m 98 #[.val (.int p0), .val (.int p1), .val (.int p2), .val (.int p3), .val (.int p4), .val (.int p5), .val (.int (v0_2 p0 p1 p2 p3 p4 p5)), .val (.ref b1), .val (.ref b51), .unset] [(.int (1 : Int32)), (.ref b1), (.ref b51)])) _
        refine X71.iaload hx (j := (1 : Int32)) (v := (.int p1)) Ar77.1 (State.isArrayOf_alike hZ.alike Ar77.2.1) Ar77.2.2 hin78 (Has.at Ha77 hin78 rfl) (g := (mkF m 98 #[.val (.int p0), .val (.int p1), .val (.int p2), .val (.int p3), .val (.int p4), .val (.int p5), .val (.int (v0_2 p0 p1 p2 p3 p4 p5)), .val (.ref b1), .val (.ref b51), .unset] [(.int (1 : Int32)), (.ref b1), (.ref b51)])) rfl rfl (hb hby at_98) _ ?_
        show Steps p.tables e below (T71.setTop (mkF m 99 #[.val (.int p0), .val (.int p1), .val (.int p2), .val (.int p3), .val (.int p4), .val (.int p5), .val (.int (v0_2 p0 p1 p2 p3 p4 p5)), .val (.ref b1), .val (.ref b51), .unset] [(.int p1), (.ref b51)])) _
        refine st79.trans ?_
        show Steps p.tables e below (T79.setTop (mkF m 102 #[.val (.int p0), .val (.int p1), .val (.int p2), .val (.int p3), .val (.int p4), .val (.int p5), .val (.int (v0_2 p0 p1 p2 p3 p4 p5)), .val (.ref b1), .val (.ref b51), .unset] [])) _
        refine XS.iload X79.here hx rfl (hb hby at_102) rfl ?_
        show Steps p.tables e below (T79.setTop (mkF m 104 #[.val (.int p0), .val (.int p1), .val (.int p2), .val (.int p3), .val (.int p4), .val (.int p5), .val (.int (v0_2 p0 p1 p2 p3 p4 p5)), .val (.ref b1), .val (.ref b51), .unset] [(.int (v0_2 p0 p1 p2 p3 p4 p5))])) _
        refine XT.iconstV X79.here hx rfl (2 : Int32) (hb hby at_104) (by decide) ?_
        exact k
      clear pre74 st79
      by_cases c83 : (2 : Int32) < (v0_2 p0 p1 p2 p3 p4 p5)
      · skip
        have k84 := (k76.keep K79 (ninS ne53 (ninS ne60 nin0)))
        obtain ⟨cl85, Ar85, qc85, S85, M85, Ha85, G85⟩ := id k84
        have hin86 : ¬ ((2 : Int32) < 0 ∨ cl85.slots.size ≤ ((2 : Int32)).toNatClampNeg) := inb_of S85 ⟨by decide, by decide⟩
        obtain ⟨cq87, kq87, q87a, q87b, q87c⟩ := isOf hZ rfl po79_0
        obtain ⟨vr87, _, ⟨T87, L87, k87, n87⟩, -, X87, ⟨Lc87, hQ87, l87, y87, z87⟩, st87⟩ := X79.virtualBack hx (y := (⟨"com/example/vellum_index/vellumindex/IntList", "add", "(I)V"⟩ : MethodName)) (z := (⟨"com/example/vellum_index/vellumindex/IntList", "add", "(I)V"⟩ : MethodName)) hown (mvT hZ (hw _ (List.mem_of_getElem? (i := 13) rfl))) (mvT hZ (hw _ (List.mem_of_getElem? (i := 14) rfl))) (notFace_of_selects (args := #[]) (mvT hZ (hw _ (List.mem_of_getElem? (i := 16) rfl)))) (mvT hZ (hw _ (List.mem_of_getElem? (i := 16) rfl))) (mvT hZ (hw _ (List.mem_of_getElem? (i := 15) rfl))) (by decide) (backOf (W := 0) (rmadd2 l Z a0 hw [] b51 p2 x1_0_58 p0 p1 (0 : Int32) (0 : Int32) k1_1_58 T79.heap n0 z80 po79_0 po79_1 po79_2 po79_3 po79_4 g54 (Ne.symm ne61) g62) hZ (hw _ (List.mem_of_getElem? (i := 17) rfl)) (hw _ (List.mem_of_getElem? (i := 4) rfl)) (by decide) (by decide)) q87a q87c (g := (mkF m 114 #[.val (.int p0), .val (.int p1), .val (.int p2), .val (.int p3), .val (.int p4), .val (.int p5), .val (.int (v0_2 p0 p1 p2 p3 p4 p5)), .val (.ref b1), .val (.ref b51), .unset] [(.int p2), (.ref b51)])) rfl (by rw [hml]; rfl) (Steps.refl _) (argsL := [(.int p2)]) (rest := []) (lenOf pd__I_V rfl) rfl (by show 2 * 0 + _ ≤ _; exact Nat.le_of_eq rfl) (hb hby at_114) (fun _ _ => ⟨rfl, rfl, (by decide : 3 + 0 ≤ _), (by decide : 15 + 0 ≤ _)⟩)
        dsimp only [Pt.U, Pt.locs, Pt.cells, Pt.slots] at X87 l87 y87 z87 st87 hQ87
        subst l87 y87 z87
        have N87q := (show _ ∧ _ from hQ87).1
        have hq87 := (show _ ∧ _ from hQ87).2
        clear hQ87
        have hv87 := hq87.1
        have K87 := hq87.2.1
        have po87_0 := hq87.2.2.1
        have po87_1 := hq87.2.2.2.1
        have po87_2 := hq87.2.2.2.2.1
        have po87_3 := hq87.2.2.2.2.2.1
        have po87_4 := hq87.2.2.2.2.2.2
        clear hq87
        subst hv87
        have z88 : n0 ≤ T87.heap.size := Nat.le_trans z80 K87.1
        have hs89 : h0.size ≤ T87.heap.size := Nat.le_trans hs81 K87.1
        have N87 := Fr.app N79 N87q
        have pre90 : ∀ t, Steps p.tables e below (T87.setTop (mkF m 120 #[.val (.int p0), .val (.int p1), .val (.int p2), .val (.int p3), .val (.int p4), .val (.int p5), .val (.int (v0_2 p0 p1 p2 p3 p4 p5)), .val (.ref b1), .val (.ref b51), .unset] [(.int (3 : Int32)), (.int (v0_2 p0 p1 p2 p3 p4 p5))])) t → Steps p.tables e below (s₁.setTop (entryFrame m #[(.int p0), (.int p1), (.int p2), (.int p3), (.int p4), (.int p5)] maxLocals)) t := by
          intro t k
          refine pre82 t ?_
          show Steps p.tables e below (T79.setTop (mkF m 105 #[.val (.int p0), .val (.int p1), .val (.int p2), .val (.int p3), .val (.int p4), .val (.int p5), .val (.int (v0_2 p0 p1 p2 p3 p4 p5)), .val (.ref b1), .val (.ref b51), .unset] [(.int (2 : Int32)), (.int (v0_2 p0 p1 p2 p3 p4 p5))])) _
          refine XS.icmpNo X79.here hx rfl (hb hby at_105) rfl (XT.ii_le_f c83) ?_
          show Steps p.tables e below (T79.setTop (mkF m 108 #[.val (.int p0), .val (.int p1), .val (.int p2), .val (.int p3), .val (.int p4), .val (.int p5), .val (.int (v0_2 p0 p1 p2 p3 p4 p5)), .val (.ref b1), .val (.ref b51), .unset] [])) _
          refine XS.aload X79.here hx rfl (hb hby at_108) rfl rfl ?_
          show Steps p.tables e below (T79.setTop (mkF m 110 #[.val (.int p0), .val (.int p1), .val (.int p2), .val (.int p3), .val (.int p4), .val (.int p5), .val (.int (v0_2 p0 p1 p2 p3 p4 p5)), .val (.ref b1), .val (.ref b51), .unset] [(.ref b51)])) _
          refine XS.aload X79.here hx rfl (hb hby at_110) rfl rfl ?_
          show Steps p.tables e below (T79.setTop (mkF m 112 #[.val (.int p0), .val (.int p1), .val (.int p2), .val (.int p3), .val (.int p4), .val (.int p5), .val (.int (v0_2 p0 p1 p2 p3 p4 p5)), .val (.ref b1), .val (.ref b51), .unset] [(.ref b1), (.ref b51)])) _
          refine XT.iconstV X79.here hx rfl (2 : Int32) (hb hby at_112) (by decide) ?_
          show Steps p.tables e below (T79.setTop (mkF m 113 #[.val (.int p0), .val (.int p1), .val (.int p2), .val (.int p3), .val (.int p4), .val (.int p5), .val (.int (v0_2 p0 p1 p2 p3 p4 p5)), .val (.ref b1), .val (.ref b51), .unset] [(.int (2 : Int32)), (.ref b1), (.ref b51)])) _
          refine X79.iaload hx (j := (2 : Int32)) (v := (.int p2)) Ar85.1 (State.isArrayOf_alike hZ.alike Ar85.2.1) Ar85.2.2 hin86 (Has.at Ha85 hin86 rfl) (g := (mkF m 113 #[.val (.int p0), .val (.int p1), .val (.int p2), .val (.int p3), .val (.int p4), .val (.int p5), .val (.int (v0_2 p0 p1 p2 p3 p4 p5)), .val (.ref b1), .val (.ref b51), .unset] [(.int (2 : Int32)), (.ref b1), (.ref b51)])) rfl rfl (hb hby at_113) _ ?_
          show Steps p.tables e below (T79.setTop (mkF m 114 #[.val (.int p0), .val (.int p1), .val (.int p2), .val (.int p3), .val (.int p4), .val (.int p5), .val (.int (v0_2 p0 p1 p2 p3 p4 p5)), .val (.ref b1), .val (.ref b51), .unset] [(.int p2), (.ref b51)])) _
          refine st87.trans ?_
          show Steps p.tables e below (T87.setTop (mkF m 117 #[.val (.int p0), .val (.int p1), .val (.int p2), .val (.int p3), .val (.int p4), .val (.int p5), .val (.int (v0_2 p0 p1 p2 p3 p4 p5)), .val (.ref b1), .val (.ref b51), .unset] [])) _
          refine XS.iload X87.here hx rfl (hb hby at_117) rfl ?_
          show Steps p.tables e below (T87.setTop (mkF m 119 #[.val (.int p0), .val (.int p1), .val (.int p2), .val (.int p3), .val (.int p4), .val (.int p5), .val (.int (v0_2 p0 p1 p2 p3 p4 p5)), .val (.ref b1), .val (.ref b51), .unset] [(.int (v0_2 p0 p1 p2 p3 p4 p5))])) _
          refine XT.iconstV X87.here hx rfl (3 : Int32) (hb hby at_119) (by decide) ?_
          exact k
        clear pre82 st87
        by_cases c91 : (3 : Int32) < (v0_2 p0 p1 p2 p3 p4 p5)
        · skip
          have k92 := (k84.keep K87 (ninS ne53 (ninS ne60 nin0)))
          obtain ⟨cl93, Ar93, qc93, S93, M93, Ha93, G93⟩ := id k92
          have hin94 : ¬ ((3 : Int32) < 0 ∨ cl93.slots.size ≤ ((3 : Int32)).toNatClampNeg) := inb_of S93 ⟨by decide, by decide⟩
          obtain ⟨cq95, kq95, q95a, q95b, q95c⟩ := isOf hZ rfl po87_0
          obtain ⟨vr95, _, ⟨T95, L95, k95, n95⟩, -, X95, ⟨Lc95, hQ95, l95, y95, z95⟩, st95⟩ := X87.virtualBack hx (y := (⟨"com/example/vellum_index/vellumindex/IntList", "add", "(I)V"⟩ : MethodName)) (z := (⟨"com/example/vellum_index/vellumindex/IntList", "add", "(I)V"⟩ : MethodName)) hown (mvT hZ (hw _ (List.mem_of_getElem? (i := 13) rfl))) (mvT hZ (hw _ (List.mem_of_getElem? (i := 14) rfl))) (notFace_of_selects (args := #[]) (mvT hZ (hw _ (List.mem_of_getElem? (i := 16) rfl)))) (mvT hZ (hw _ (List.mem_of_getElem? (i := 16) rfl))) (mvT hZ (hw _ (List.mem_of_getElem? (i := 15) rfl))) (by decide) (backOf (W := 0) (rmadd3 l Z a0 hw [] b51 p3 x1_0_58 p0 p1 p2 (0 : Int32) k1_1_58 T87.heap n0 z88 po87_0 po87_1 po87_2 po87_3 po87_4 g54 (Ne.symm ne61) g62) hZ (hw _ (List.mem_of_getElem? (i := 17) rfl)) (hw _ (List.mem_of_getElem? (i := 4) rfl)) (by decide) (by decide)) q95a q95c (g := (mkF m 129 #[.val (.int p0), .val (.int p1), .val (.int p2), .val (.int p3), .val (.int p4), .val (.int p5), .val (.int (v0_2 p0 p1 p2 p3 p4 p5)), .val (.ref b1), .val (.ref b51), .unset] [(.int p3), (.ref b51)])) rfl (by rw [hml]; rfl) (Steps.refl _) (argsL := [(.int p3)]) (rest := []) (lenOf pd__I_V rfl) rfl (by show 2 * 0 + _ ≤ _; exact Nat.le_of_eq rfl) (hb hby at_129) (fun _ _ => ⟨rfl, rfl, (by decide : 3 + 0 ≤ _), (by decide : 15 + 0 ≤ _)⟩)
          dsimp only [Pt.U, Pt.locs, Pt.cells, Pt.slots] at X95 l95 y95 z95 st95 hQ95
          subst l95 y95 z95
          have N95q := (show _ ∧ _ from hQ95).1
          have hq95 := (show _ ∧ _ from hQ95).2
          clear hQ95
          have hv95 := hq95.1
          have K95 := hq95.2.1
          have po95_0 := hq95.2.2.1
          have po95_1 := hq95.2.2.2.1
          have po95_2 := hq95.2.2.2.2.1
          have po95_3 := hq95.2.2.2.2.2.1
          have po95_4 := hq95.2.2.2.2.2.2
          clear hq95
          subst hv95
          have z96 : n0 ≤ T95.heap.size := Nat.le_trans z88 K95.1
          have hs97 : h0.size ≤ T95.heap.size := Nat.le_trans hs89 K95.1
          have N95 := Fr.app N87 N95q
          have pre98 : ∀ t, Steps p.tables e below (T95.setTop (mkF m 135 #[.val (.int p0), .val (.int p1), .val (.int p2), .val (.int p3), .val (.int p4), .val (.int p5), .val (.int (v0_2 p0 p1 p2 p3 p4 p5)), .val (.ref b1), .val (.ref b51), .unset] [(.int (4 : Int32)), (.int (v0_2 p0 p1 p2 p3 p4 p5))])) t → Steps p.tables e below (s₁.setTop (entryFrame m #[(.int p0), (.int p1), (.int p2), (.int p3), (.int p4), (.int p5)] maxLocals)) t := by
            intro t k
            refine pre90 t ?_
            show Steps p.tables e below (T87.setTop (mkF m 120 #[.val (.int p0), .val (.int p1), .val (.int p2), .val (.int p3), .val (.int p4), .val (.int p5), .val (.int (v0_2 p0 p1 p2 p3 p4 p5)), .val (.ref b1), .val (.ref b51), .unset] [(.int (3 : Int32)), (.int (v0_2 p0 p1 p2 p3 p4 p5))])) _
            refine XS.icmpNo X87.here hx rfl (hb hby at_120) rfl (XT.ii_le_f c91) ?_
            show Steps p.tables e below (T87.setTop (mkF m 123 #[.val (.int p0), .val (.int p1), .val (.int p2), .val (.int p3), .val (.int p4), .val (.int p5), .val (.int (v0_2 p0 p1 p2 p3 p4 p5)), .val (.ref b1), .val (.ref b51), .unset] [])) _
            refine XS.aload X87.here hx rfl (hb hby at_123) rfl rfl ?_
            show Steps p.tables e below (T87.setTop (mkF m 125 #[.val (.int p0), .val (.int p1), .val (.int p2), .val (.int p3), .val (.int p4), .val (.int p5), .val (.int (v0_2 p0 p1 p2 p3 p4 p5)), .val (.ref b1), .val (.ref b51), .unset] [(.ref b51)])) _
            refine XS.aload X87.here hx rfl (hb hby at_125) rfl rfl ?_
            show Steps p.tables e below (T87.setTop (mkF m 127 #[.val (.int p0), .val (.int p1), .val (.int p2), .val (.int p3), .val (.int p4), .val (.int p5), .val (.int (v0_2 p0 p1 p2 p3 p4 p5)), .val (.ref b1), .val (.ref b51), .unset] [(.ref b1), (.ref b51)])) _
            refine XT.iconstV X87.here hx rfl (3 : Int32) (hb hby at_127) (by decide) ?_
            show Steps p.tables e below (T87.setTop (mkF m 128 #[.val (.int p0), .val (.int p1), .val (.int p2), .val (.int p3), .val (.int p4), .val (.int p5), .val (.int (v0_2 p0 p1 p2 p3 p4 p5)), .val (.ref b1), .val (.ref b51), .unset] [(.int (3 : Int32)), (.ref b1), (.ref b51)])) _
            refine X87.iaload hx (j := (3 : Int32)) (v := (.int p3)) Ar93.1 (State.isArrayOf_alike hZ.alike Ar93.2.1) Ar93.2.2 hin94 (Has.at Ha93 hin94 rfl) (g := (mkF m 128 #[.val (.int p0), .val (.int p1), .val (.int p2), .val (.int p3), .val (.int p4), .val (.int p5), .val (.int (v0_2 p0 p1 p2 p3 p4 p5)), .val (.ref b1), .val (.ref b51), .unset] [(.int (3 : Int32)), (.ref b1), (.ref b51)])) rfl rfl (hb hby at_128) _ ?_
            show Steps p.tables e below (T87.setTop (mkF m 129 #[.val (.int p0), .val (.int p1), .val (.int p2), .val (.int p3), .val (.int p4), .val (.int p5), .val (.int (v0_2 p0 p1 p2 p3 p4 p5)), .val (.ref b1), .val (.ref b51), .unset] [(.int p3), (.ref b51)])) _
            refine st95.trans ?_
            show Steps p.tables e below (T95.setTop (mkF m 132 #[.val (.int p0), .val (.int p1), .val (.int p2), .val (.int p3), .val (.int p4), .val (.int p5), .val (.int (v0_2 p0 p1 p2 p3 p4 p5)), .val (.ref b1), .val (.ref b51), .unset] [])) _
            refine XS.iload X95.here hx rfl (hb hby at_132) rfl ?_
            show Steps p.tables e below (T95.setTop (mkF m 134 #[.val (.int p0), .val (.int p1), .val (.int p2), .val (.int p3), .val (.int p4), .val (.int p5), .val (.int (v0_2 p0 p1 p2 p3 p4 p5)), .val (.ref b1), .val (.ref b51), .unset] [(.int (v0_2 p0 p1 p2 p3 p4 p5))])) _
            refine XT.iconstV X95.here hx rfl (4 : Int32) (hb hby at_134) (by decide) ?_
            exact k
          clear pre90 st95
          by_cases c99 : (4 : Int32) < (v0_2 p0 p1 p2 p3 p4 p5)
          · skip
            have k100 := (k92.keep K95 (ninS ne53 (ninS ne60 nin0)))
            obtain ⟨cl101, Ar101, qc101, S101, M101, Ha101, G101⟩ := id k100
            have hin102 : ¬ ((4 : Int32) < 0 ∨ cl101.slots.size ≤ ((4 : Int32)).toNatClampNeg) := inb_of S101 ⟨by decide, by decide⟩
            obtain ⟨cq103, kq103, q103a, q103b, q103c⟩ := isOf hZ rfl po95_0
            obtain ⟨vr103, _, ⟨T103, L103, k103, n103⟩, -, X103, ⟨Lc103, hQ103, l103, y103, z103⟩, st103⟩ := X95.virtualBack hx (y := (⟨"com/example/vellum_index/vellumindex/IntList", "add", "(I)V"⟩ : MethodName)) (z := (⟨"com/example/vellum_index/vellumindex/IntList", "add", "(I)V"⟩ : MethodName)) hown (mvT hZ (hw _ (List.mem_of_getElem? (i := 13) rfl))) (mvT hZ (hw _ (List.mem_of_getElem? (i := 14) rfl))) (notFace_of_selects (args := #[]) (mvT hZ (hw _ (List.mem_of_getElem? (i := 16) rfl)))) (mvT hZ (hw _ (List.mem_of_getElem? (i := 16) rfl))) (mvT hZ (hw _ (List.mem_of_getElem? (i := 15) rfl))) (by decide) (backOf (W := 0) (rmadd4 l Z a0 hw [] b51 p4 x1_0_58 p0 p1 p2 p3 k1_1_58 T95.heap n0 z96 po95_0 po95_1 po95_2 po95_3 po95_4 g54) hZ (hw _ (List.mem_of_getElem? (i := 17) rfl)) (hw _ (List.mem_of_getElem? (i := 4) rfl)) (by decide) (by decide)) q103a q103c (g := (mkF m 144 #[.val (.int p0), .val (.int p1), .val (.int p2), .val (.int p3), .val (.int p4), .val (.int p5), .val (.int (v0_2 p0 p1 p2 p3 p4 p5)), .val (.ref b1), .val (.ref b51), .unset] [(.int p4), (.ref b51)])) rfl (by rw [hml]; rfl) (Steps.refl _) (argsL := [(.int p4)]) (rest := []) (lenOf pd__I_V rfl) rfl (by show 2 * 0 + _ ≤ _; exact Nat.le_of_eq rfl) (hb hby at_144) (fun _ _ => ⟨rfl, rfl, (by decide : 3 + 1 ≤ _), (by decide : 15 + 8 ≤ _)⟩)
            dsimp only [Pt.U, Pt.locs, Pt.cells, Pt.slots] at X103 l103 y103 z103 st103 hQ103
            subst l103 y103 z103
            have N103q := (show _ ∧ _ from hQ103).1
            have hq103 := (show _ ∧ _ from hQ103).2
            clear hQ103
            obtain ⟨xadd4_0_103, kadd4_1_103, hq103x⟩ := hq103
            have hv103 := hq103x.1
            have szxadd4_0_103 := hq103x.2.1
            have K103 := hq103x.2.2.1
            have po103_0 := hq103x.2.2.2.1
            have po103_1 := hq103x.2.2.2.2.1
            have po103_2 := hq103x.2.2.2.2.2.1
            have po103_3 := hq103x.2.2.2.2.2.2.1
            have po103_4 := hq103x.2.2.2.2.2.2.2
            clear hq103x
            subst hv103
            have k104 := (((((k59.keep K58).keep K71).keep K79).keep K87).keep K95)
            have ne105 : b1 ≠ xadd4_0_103 := Nat.ne_of_lt (Nat.lt_of_lt_of_le k104.lt szxadd4_0_103)
            have ne106 : b51 ≠ xadd4_0_103 := Nat.ne_of_lt (Nat.lt_of_lt_of_le po95_0.lt szxadd4_0_103)
            have ne107 : x1_0_58 ≠ xadd4_0_103 := Nat.ne_of_lt (Nat.lt_of_lt_of_le po95_3.lt szxadd4_0_103)
            have g108 : n0 ≤ xadd4_0_103 := Nat.le_trans z96 szxadd4_0_103
            have sz109 : h0.size ≤ xadd4_0_103 := Nat.le_trans hs97 szxadd4_0_103
            have z110 : n0 ≤ T103.heap.size := Nat.le_trans z96 K103.1
            have hs111 : h0.size ≤ T103.heap.size := Nat.le_trans hs97 K103.1
            have N103 := Fr.app N95 N103q
            have pre112 : ∀ t, Steps p.tables e below (T103.setTop (mkF m 150 #[.val (.int p0), .val (.int p1), .val (.int p2), .val (.int p3), .val (.int p4), .val (.int p5), .val (.int (v0_2 p0 p1 p2 p3 p4 p5)), .val (.ref b1), .val (.ref b51), .unset] [(.int (5 : Int32)), (.int (v0_2 p0 p1 p2 p3 p4 p5))])) t → Steps p.tables e below (s₁.setTop (entryFrame m #[(.int p0), (.int p1), (.int p2), (.int p3), (.int p4), (.int p5)] maxLocals)) t := by
              intro t k
              refine pre98 t ?_
              show Steps p.tables e below (T95.setTop (mkF m 135 #[.val (.int p0), .val (.int p1), .val (.int p2), .val (.int p3), .val (.int p4), .val (.int p5), .val (.int (v0_2 p0 p1 p2 p3 p4 p5)), .val (.ref b1), .val (.ref b51), .unset] [(.int (4 : Int32)), (.int (v0_2 p0 p1 p2 p3 p4 p5))])) _
              refine XS.icmpNo X95.here hx rfl (hb hby at_135) rfl (XT.ii_le_f c99) ?_
              show Steps p.tables e below (T95.setTop (mkF m 138 #[.val (.int p0), .val (.int p1), .val (.int p2), .val (.int p3), .val (.int p4), .val (.int p5), .val (.int (v0_2 p0 p1 p2 p3 p4 p5)), .val (.ref b1), .val (.ref b51), .unset] [])) _
              refine XS.aload X95.here hx rfl (hb hby at_138) rfl rfl ?_
              show Steps p.tables e below (T95.setTop (mkF m 140 #[.val (.int p0), .val (.int p1), .val (.int p2), .val (.int p3), .val (.int p4), .val (.int p5), .val (.int (v0_2 p0 p1 p2 p3 p4 p5)), .val (.ref b1), .val (.ref b51), .unset] [(.ref b51)])) _
              refine XS.aload X95.here hx rfl (hb hby at_140) rfl rfl ?_
              show Steps p.tables e below (T95.setTop (mkF m 142 #[.val (.int p0), .val (.int p1), .val (.int p2), .val (.int p3), .val (.int p4), .val (.int p5), .val (.int (v0_2 p0 p1 p2 p3 p4 p5)), .val (.ref b1), .val (.ref b51), .unset] [(.ref b1), (.ref b51)])) _
              refine XT.iconstV X95.here hx rfl (4 : Int32) (hb hby at_142) (by decide) ?_
              show Steps p.tables e below (T95.setTop (mkF m 143 #[.val (.int p0), .val (.int p1), .val (.int p2), .val (.int p3), .val (.int p4), .val (.int p5), .val (.int (v0_2 p0 p1 p2 p3 p4 p5)), .val (.ref b1), .val (.ref b51), .unset] [(.int (4 : Int32)), (.ref b1), (.ref b51)])) _
              refine X95.iaload hx (j := (4 : Int32)) (v := (.int p4)) Ar101.1 (State.isArrayOf_alike hZ.alike Ar101.2.1) Ar101.2.2 hin102 (Has.at Ha101 hin102 rfl) (g := (mkF m 143 #[.val (.int p0), .val (.int p1), .val (.int p2), .val (.int p3), .val (.int p4), .val (.int p5), .val (.int (v0_2 p0 p1 p2 p3 p4 p5)), .val (.ref b1), .val (.ref b51), .unset] [(.int (4 : Int32)), (.ref b1), (.ref b51)])) rfl rfl (hb hby at_143) _ ?_
              show Steps p.tables e below (T95.setTop (mkF m 144 #[.val (.int p0), .val (.int p1), .val (.int p2), .val (.int p3), .val (.int p4), .val (.int p5), .val (.int (v0_2 p0 p1 p2 p3 p4 p5)), .val (.ref b1), .val (.ref b51), .unset] [(.int p4), (.ref b51)])) _
              refine st103.trans ?_
              show Steps p.tables e below (T103.setTop (mkF m 147 #[.val (.int p0), .val (.int p1), .val (.int p2), .val (.int p3), .val (.int p4), .val (.int p5), .val (.int (v0_2 p0 p1 p2 p3 p4 p5)), .val (.ref b1), .val (.ref b51), .unset] [])) _
              refine XS.iload X103.here hx rfl (hb hby at_147) rfl ?_
              show Steps p.tables e below (T103.setTop (mkF m 149 #[.val (.int p0), .val (.int p1), .val (.int p2), .val (.int p3), .val (.int p4), .val (.int p5), .val (.int (v0_2 p0 p1 p2 p3 p4 p5)), .val (.ref b1), .val (.ref b51), .unset] [(.int (v0_2 p0 p1 p2 p3 p4 p5))])) _
              refine XT.iconstV X103.here hx rfl (5 : Int32) (hb hby at_149) (by decide) ?_
              exact k
            clear pre98 st103
            by_cases c113 : (5 : Int32) < (v0_2 p0 p1 p2 p3 p4 p5)
            · skip
              have k114 := (k100.keep K103 (ninS ne53 nin0))
              obtain ⟨cl115, Ar115, qc115, S115, M115, Ha115, G115⟩ := id k114
              have hin116 : ¬ ((5 : Int32) < 0 ∨ cl115.slots.size ≤ ((5 : Int32)).toNatClampNeg) := inb_of S115 ⟨by decide, by decide⟩
              obtain ⟨cq117, kq117, q117a, q117b, q117c⟩ := isOf hZ rfl po103_0
              obtain ⟨vr117, _, ⟨T117, L117, k117, n117⟩, -, X117, ⟨Lc117, hQ117, l117, y117, z117⟩, st117⟩ := X103.virtualBack hx (y := (⟨"com/example/vellum_index/vellumindex/IntList", "add", "(I)V"⟩ : MethodName)) (z := (⟨"com/example/vellum_index/vellumindex/IntList", "add", "(I)V"⟩ : MethodName)) hown (mvT hZ (hw _ (List.mem_of_getElem? (i := 13) rfl))) (mvT hZ (hw _ (List.mem_of_getElem? (i := 14) rfl))) (notFace_of_selects (args := #[]) (mvT hZ (hw _ (List.mem_of_getElem? (i := 16) rfl)))) (mvT hZ (hw _ (List.mem_of_getElem? (i := 16) rfl))) (mvT hZ (hw _ (List.mem_of_getElem? (i := 15) rfl))) (by decide) (backOf (W := 0) (rmadd5 l Z a0 hw [] b51 (v0_3 p0 p1 p2 p3 p4 p5) xadd4_0_103 p0 p1 p2 p3 p4 (0 : Int32) (0 : Int32) (0 : Int32) kadd4_1_103 T103.heap n0 z110 po103_0 po103_1 po103_2 po103_3 po103_4 g54 (Ne.symm ne106) g108) hZ (hw _ (List.mem_of_getElem? (i := 17) rfl)) (hw _ (List.mem_of_getElem? (i := 4) rfl)) (by decide) (by decide)) q117a q117c (g := (mkF m 159 #[.val (.int p0), .val (.int p1), .val (.int p2), .val (.int p3), .val (.int p4), .val (.int p5), .val (.int (v0_2 p0 p1 p2 p3 p4 p5)), .val (.ref b1), .val (.ref b51), .unset] [(.int (v0_3 p0 p1 p2 p3 p4 p5)), (.ref b51)])) rfl (by rw [hml]; rfl) (Steps.refl _) (argsL := [(.int (v0_3 p0 p1 p2 p3 p4 p5))]) (rest := []) (lenOf pd__I_V rfl) rfl (by show 2 * 0 + _ ≤ _; exact Nat.le_of_eq rfl) (hb hby at_159) (fun _ _ => ⟨rfl, rfl, (by decide : 4 + 0 ≤ _), (by decide : 23 + 0 ≤ _)⟩)
              dsimp only [Pt.U, Pt.locs, Pt.cells, Pt.slots] at X117 l117 y117 z117 st117 hQ117
              subst l117 y117 z117
              have N117q := (show _ ∧ _ from hQ117).1
              have hq117 := (show _ ∧ _ from hQ117).2
              clear hQ117
              have hv117 := hq117.1
              have K117 := hq117.2.1
              have po117_0 := hq117.2.2.1
              have po117_1 := hq117.2.2.2.1
              have po117_2 := hq117.2.2.2.2.1
              have po117_3 := hq117.2.2.2.2.2.1
              have po117_4 := hq117.2.2.2.2.2.2
              clear hq117
              subst hv117
              have z118 : n0 ≤ T117.heap.size := Nat.le_trans z110 K117.1
              have hs119 : h0.size ≤ T117.heap.size := Nat.le_trans hs111 K117.1
              have N117 := Fr.app N103 N117q
              have pre120 : ∀ t, Steps p.tables e below (T117.setTop (mkF m 166 #[.val (.int p0), .val (.int p1), .val (.int p2), .val (.int p3), .val (.int p4), .val (.int p5), .val (.int (v0_2 p0 p1 p2 p3 p4 p5)), .val (.ref b1), .val (.ref b51), .unset] [(.int (6 : Int32)), (.int (v0_2 p0 p1 p2 p3 p4 p5))])) t → Steps p.tables e below (s₁.setTop (entryFrame m #[(.int p0), (.int p1), (.int p2), (.int p3), (.int p4), (.int p5)] maxLocals)) t := by
                intro t k
                refine pre112 t ?_
                show Steps p.tables e below (T103.setTop (mkF m 150 #[.val (.int p0), .val (.int p1), .val (.int p2), .val (.int p3), .val (.int p4), .val (.int p5), .val (.int (v0_2 p0 p1 p2 p3 p4 p5)), .val (.ref b1), .val (.ref b51), .unset] [(.int (5 : Int32)), (.int (v0_2 p0 p1 p2 p3 p4 p5))])) _
                refine XS.icmpNo X103.here hx rfl (hb hby at_150) rfl (XT.ii_le_f c113) ?_
                show Steps p.tables e below (T103.setTop (mkF m 153 #[.val (.int p0), .val (.int p1), .val (.int p2), .val (.int p3), .val (.int p4), .val (.int p5), .val (.int (v0_2 p0 p1 p2 p3 p4 p5)), .val (.ref b1), .val (.ref b51), .unset] [])) _
                refine XS.aload X103.here hx rfl (hb hby at_153) rfl rfl ?_
                show Steps p.tables e below (T103.setTop (mkF m 155 #[.val (.int p0), .val (.int p1), .val (.int p2), .val (.int p3), .val (.int p4), .val (.int p5), .val (.int (v0_2 p0 p1 p2 p3 p4 p5)), .val (.ref b1), .val (.ref b51), .unset] [(.ref b51)])) _
                refine XS.aload X103.here hx rfl (hb hby at_155) rfl rfl ?_
                show Steps p.tables e below (T103.setTop (mkF m 157 #[.val (.int p0), .val (.int p1), .val (.int p2), .val (.int p3), .val (.int p4), .val (.int p5), .val (.int (v0_2 p0 p1 p2 p3 p4 p5)), .val (.ref b1), .val (.ref b51), .unset] [(.ref b1), (.ref b51)])) _
                refine XT.iconstV X103.here hx rfl (5 : Int32) (hb hby at_157) (by decide) ?_
                show Steps p.tables e below (T103.setTop (mkF m 158 #[.val (.int p0), .val (.int p1), .val (.int p2), .val (.int p3), .val (.int p4), .val (.int p5), .val (.int (v0_2 p0 p1 p2 p3 p4 p5)), .val (.ref b1), .val (.ref b51), .unset] [(.int (5 : Int32)), (.ref b1), (.ref b51)])) _
                refine X103.iaload hx (j := (5 : Int32)) (v := (.int (v0_3 p0 p1 p2 p3 p4 p5))) Ar115.1 (State.isArrayOf_alike hZ.alike Ar115.2.1) Ar115.2.2 hin116 (Has.at Ha115 hin116 rfl) (g := (mkF m 158 #[.val (.int p0), .val (.int p1), .val (.int p2), .val (.int p3), .val (.int p4), .val (.int p5), .val (.int (v0_2 p0 p1 p2 p3 p4 p5)), .val (.ref b1), .val (.ref b51), .unset] [(.int (5 : Int32)), (.ref b1), (.ref b51)])) rfl rfl (hb hby at_158) _ ?_
                show Steps p.tables e below (T103.setTop (mkF m 159 #[.val (.int p0), .val (.int p1), .val (.int p2), .val (.int p3), .val (.int p4), .val (.int p5), .val (.int (v0_2 p0 p1 p2 p3 p4 p5)), .val (.ref b1), .val (.ref b51), .unset] [(.int (v0_3 p0 p1 p2 p3 p4 p5)), (.ref b51)])) _
                refine st117.trans ?_
                show Steps p.tables e below (T117.setTop (mkF m 162 #[.val (.int p0), .val (.int p1), .val (.int p2), .val (.int p3), .val (.int p4), .val (.int p5), .val (.int (v0_2 p0 p1 p2 p3 p4 p5)), .val (.ref b1), .val (.ref b51), .unset] [])) _
                refine XS.iload X117.here hx rfl (hb hby at_162) rfl ?_
                show Steps p.tables e below (T117.setTop (mkF m 164 #[.val (.int p0), .val (.int p1), .val (.int p2), .val (.int p3), .val (.int p4), .val (.int p5), .val (.int (v0_2 p0 p1 p2 p3 p4 p5)), .val (.ref b1), .val (.ref b51), .unset] [(.int (v0_2 p0 p1 p2 p3 p4 p5))])) _
                refine XT.bipushV X117.here hx rfl (6 : Int32) (hb hby at_164) (by decide) ?_
                exact k
              clear pre112 st117
              by_cases c121 : (6 : Int32) < (v0_2 p0 p1 p2 p3 p4 p5)
              · skip
                have k122 := (k114.keep K117 (ninS ne53 (ninS ne105 nin0)))
                obtain ⟨cl123, Ar123, qc123, S123, M123, Ha123, G123⟩ := id k122
                have hin124 : ¬ ((6 : Int32) < 0 ∨ cl123.slots.size ≤ ((6 : Int32)).toNatClampNeg) := inb_of S123 ⟨by decide, by decide⟩
                obtain ⟨cq125, kq125, q125a, q125b, q125c⟩ := isOf hZ rfl po117_0
                obtain ⟨vr125, _, ⟨T125, L125, k125, n125⟩, -, X125, ⟨Lc125, hQ125, l125, y125, z125⟩, st125⟩ := X117.virtualBack hx (y := (⟨"com/example/vellum_index/vellumindex/IntList", "add", "(I)V"⟩ : MethodName)) (z := (⟨"com/example/vellum_index/vellumindex/IntList", "add", "(I)V"⟩ : MethodName)) hown (mvT hZ (hw _ (List.mem_of_getElem? (i := 13) rfl))) (mvT hZ (hw _ (List.mem_of_getElem? (i := 14) rfl))) (notFace_of_selects (args := #[]) (mvT hZ (hw _ (List.mem_of_getElem? (i := 16) rfl)))) (mvT hZ (hw _ (List.mem_of_getElem? (i := 16) rfl))) (mvT hZ (hw _ (List.mem_of_getElem? (i := 15) rfl))) (by decide) (backOf (W := 0) (rmadd6 l Z a0 hw [] b51 (v0_4 p0 p1 p2 p3 p4 p5) xadd4_0_103 p0 p1 p2 p3 p4 (v0_3 p0 p1 p2 p3 p4 p5) (0 : Int32) (0 : Int32) kadd4_1_103 T117.heap n0 z118 po117_0 po117_1 po117_2 po117_3 po117_4 g54 (Ne.symm ne106) g108) hZ (hw _ (List.mem_of_getElem? (i := 17) rfl)) (hw _ (List.mem_of_getElem? (i := 4) rfl)) (by decide) (by decide)) q125a q125c (g := (mkF m 176 #[.val (.int p0), .val (.int p1), .val (.int p2), .val (.int p3), .val (.int p4), .val (.int p5), .val (.int (v0_2 p0 p1 p2 p3 p4 p5)), .val (.ref b1), .val (.ref b51), .unset] [(.int (v0_4 p0 p1 p2 p3 p4 p5)), (.ref b51)])) rfl (by rw [hml]; rfl) (Steps.refl _) (argsL := [(.int (v0_4 p0 p1 p2 p3 p4 p5))]) (rest := []) (lenOf pd__I_V rfl) rfl (by show 2 * 0 + _ ≤ _; exact Nat.le_of_eq rfl) (hb hby at_176) (fun _ _ => ⟨rfl, rfl, (by decide : 4 + 0 ≤ _), (by decide : 23 + 0 ≤ _)⟩)
                dsimp only [Pt.U, Pt.locs, Pt.cells, Pt.slots] at X125 l125 y125 z125 st125 hQ125
                subst l125 y125 z125
                have N125q := (show _ ∧ _ from hQ125).1
                have hq125 := (show _ ∧ _ from hQ125).2
                clear hQ125
                have hv125 := hq125.1
                have K125 := hq125.2.1
                have po125_0 := hq125.2.2.1
                have po125_1 := hq125.2.2.2.1
                have po125_2 := hq125.2.2.2.2.1
                have po125_3 := hq125.2.2.2.2.2.1
                have po125_4 := hq125.2.2.2.2.2.2
                clear hq125
                subst hv125
                have z126 : n0 ≤ T125.heap.size := Nat.le_trans z118 K125.1
                have hs127 : h0.size ≤ T125.heap.size := Nat.le_trans hs119 K125.1
                have N125 := Fr.app N117 N125q
                have pre128 : ∀ t, Steps p.tables e below (T125.setTop (mkF m 183 #[.val (.int p0), .val (.int p1), .val (.int p2), .val (.int p3), .val (.int p4), .val (.int p5), .val (.int (v0_2 p0 p1 p2 p3 p4 p5)), .val (.ref b1), .val (.ref b51), .unset] [(.int (7 : Int32)), (.int (v0_2 p0 p1 p2 p3 p4 p5))])) t → Steps p.tables e below (s₁.setTop (entryFrame m #[(.int p0), (.int p1), (.int p2), (.int p3), (.int p4), (.int p5)] maxLocals)) t := by
                  intro t k
                  refine pre120 t ?_
                  show Steps p.tables e below (T117.setTop (mkF m 166 #[.val (.int p0), .val (.int p1), .val (.int p2), .val (.int p3), .val (.int p4), .val (.int p5), .val (.int (v0_2 p0 p1 p2 p3 p4 p5)), .val (.ref b1), .val (.ref b51), .unset] [(.int (6 : Int32)), (.int (v0_2 p0 p1 p2 p3 p4 p5))])) _
                  refine XS.icmpNo X117.here hx rfl (hb hby at_166) rfl (XT.ii_le_f c121) ?_
                  show Steps p.tables e below (T117.setTop (mkF m 169 #[.val (.int p0), .val (.int p1), .val (.int p2), .val (.int p3), .val (.int p4), .val (.int p5), .val (.int (v0_2 p0 p1 p2 p3 p4 p5)), .val (.ref b1), .val (.ref b51), .unset] [])) _
                  refine XS.aload X117.here hx rfl (hb hby at_169) rfl rfl ?_
                  show Steps p.tables e below (T117.setTop (mkF m 171 #[.val (.int p0), .val (.int p1), .val (.int p2), .val (.int p3), .val (.int p4), .val (.int p5), .val (.int (v0_2 p0 p1 p2 p3 p4 p5)), .val (.ref b1), .val (.ref b51), .unset] [(.ref b51)])) _
                  refine XS.aload X117.here hx rfl (hb hby at_171) rfl rfl ?_
                  show Steps p.tables e below (T117.setTop (mkF m 173 #[.val (.int p0), .val (.int p1), .val (.int p2), .val (.int p3), .val (.int p4), .val (.int p5), .val (.int (v0_2 p0 p1 p2 p3 p4 p5)), .val (.ref b1), .val (.ref b51), .unset] [(.ref b1), (.ref b51)])) _
                  refine XT.bipushV X117.here hx rfl (6 : Int32) (hb hby at_173) (by decide) ?_
                  show Steps p.tables e below (T117.setTop (mkF m 175 #[.val (.int p0), .val (.int p1), .val (.int p2), .val (.int p3), .val (.int p4), .val (.int p5), .val (.int (v0_2 p0 p1 p2 p3 p4 p5)), .val (.ref b1), .val (.ref b51), .unset] [(.int (6 : Int32)), (.ref b1), (.ref b51)])) _
                  refine X117.iaload hx (j := (6 : Int32)) (v := (.int (v0_4 p0 p1 p2 p3 p4 p5))) Ar123.1 (State.isArrayOf_alike hZ.alike Ar123.2.1) Ar123.2.2 hin124 (Has.at Ha123 hin124 rfl) (g := (mkF m 175 #[.val (.int p0), .val (.int p1), .val (.int p2), .val (.int p3), .val (.int p4), .val (.int p5), .val (.int (v0_2 p0 p1 p2 p3 p4 p5)), .val (.ref b1), .val (.ref b51), .unset] [(.int (6 : Int32)), (.ref b1), (.ref b51)])) rfl rfl (hb hby at_175) _ ?_
                  show Steps p.tables e below (T117.setTop (mkF m 176 #[.val (.int p0), .val (.int p1), .val (.int p2), .val (.int p3), .val (.int p4), .val (.int p5), .val (.int (v0_2 p0 p1 p2 p3 p4 p5)), .val (.ref b1), .val (.ref b51), .unset] [(.int (v0_4 p0 p1 p2 p3 p4 p5)), (.ref b51)])) _
                  refine st125.trans ?_
                  show Steps p.tables e below (T125.setTop (mkF m 179 #[.val (.int p0), .val (.int p1), .val (.int p2), .val (.int p3), .val (.int p4), .val (.int p5), .val (.int (v0_2 p0 p1 p2 p3 p4 p5)), .val (.ref b1), .val (.ref b51), .unset] [])) _
                  refine XS.iload X125.here hx rfl (hb hby at_179) rfl ?_
                  show Steps p.tables e below (T125.setTop (mkF m 181 #[.val (.int p0), .val (.int p1), .val (.int p2), .val (.int p3), .val (.int p4), .val (.int p5), .val (.int (v0_2 p0 p1 p2 p3 p4 p5)), .val (.ref b1), .val (.ref b51), .unset] [(.int (v0_2 p0 p1 p2 p3 p4 p5))])) _
                  refine XT.bipushV X125.here hx rfl (7 : Int32) (hb hby at_181) (by decide) ?_
                  exact k
                clear pre120 st125
                by_cases c129 : (7 : Int32) < (v0_2 p0 p1 p2 p3 p4 p5)
                · skip
                  have k130 := (k122.keep K125 (ninS ne53 (ninS ne105 nin0)))
                  obtain ⟨cl131, Ar131, qc131, S131, M131, Ha131, G131⟩ := id k130
                  have hin132 : ¬ ((7 : Int32) < 0 ∨ cl131.slots.size ≤ ((7 : Int32)).toNatClampNeg) := inb_of S131 ⟨by decide, by decide⟩
                  obtain ⟨cq133, kq133, q133a, q133b, q133c⟩ := isOf hZ rfl po125_0
                  obtain ⟨vr133, _, ⟨T133, L133, k133, n133⟩, -, X133, ⟨Lc133, hQ133, l133, y133, z133⟩, st133⟩ := X125.virtualBack hx (y := (⟨"com/example/vellum_index/vellumindex/IntList", "add", "(I)V"⟩ : MethodName)) (z := (⟨"com/example/vellum_index/vellumindex/IntList", "add", "(I)V"⟩ : MethodName)) hown (mvT hZ (hw _ (List.mem_of_getElem? (i := 13) rfl))) (mvT hZ (hw _ (List.mem_of_getElem? (i := 14) rfl))) (notFace_of_selects (args := #[]) (mvT hZ (hw _ (List.mem_of_getElem? (i := 16) rfl)))) (mvT hZ (hw _ (List.mem_of_getElem? (i := 16) rfl))) (mvT hZ (hw _ (List.mem_of_getElem? (i := 15) rfl))) (by decide) (backOf (W := 0) (rmadd7 l Z a0 hw [] b51 (v0_5 p0 p1 p2 p3 p4 p5) xadd4_0_103 p0 p1 p2 p3 p4 (v0_3 p0 p1 p2 p3 p4 p5) (v0_4 p0 p1 p2 p3 p4 p5) (0 : Int32) kadd4_1_103 T125.heap n0 z126 po125_0 po125_1 po125_2 po125_3 po125_4 g54 (Ne.symm ne106) g108) hZ (hw _ (List.mem_of_getElem? (i := 17) rfl)) (hw _ (List.mem_of_getElem? (i := 4) rfl)) (by decide) (by decide)) q133a q133c (g := (mkF m 193 #[.val (.int p0), .val (.int p1), .val (.int p2), .val (.int p3), .val (.int p4), .val (.int p5), .val (.int (v0_2 p0 p1 p2 p3 p4 p5)), .val (.ref b1), .val (.ref b51), .unset] [(.int (v0_5 p0 p1 p2 p3 p4 p5)), (.ref b51)])) rfl (by rw [hml]; rfl) (Steps.refl _) (argsL := [(.int (v0_5 p0 p1 p2 p3 p4 p5))]) (rest := []) (lenOf pd__I_V rfl) rfl (by show 2 * 0 + _ ≤ _; exact Nat.le_of_eq rfl) (hb hby at_193) (fun _ _ => ⟨rfl, rfl, (by decide : 4 + 0 ≤ _), (by decide : 23 + 0 ≤ _)⟩)
                  dsimp only [Pt.U, Pt.locs, Pt.cells, Pt.slots] at X133 l133 y133 z133 st133 hQ133
                  subst l133 y133 z133
                  have N133q := (show _ ∧ _ from hQ133).1
                  have hq133 := (show _ ∧ _ from hQ133).2
                  clear hQ133
                  have hv133 := hq133.1
                  have K133 := hq133.2.1
                  have po133_0 := hq133.2.2.1
                  have po133_1 := hq133.2.2.2.1
                  have po133_2 := hq133.2.2.2.2.1
                  have po133_3 := hq133.2.2.2.2.2.1
                  have po133_4 := hq133.2.2.2.2.2.2
                  clear hq133
                  subst hv133
                  have z134 : n0 ≤ T133.heap.size := Nat.le_trans z126 K133.1
                  have hs135 : h0.size ≤ T133.heap.size := Nat.le_trans hs127 K133.1
                  have N133 := Fr.app N125 N133q
                  have pre136 : ∀ t, Steps p.tables e below (T133.setTop (mkF m 200 #[.val (.int p0), .val (.int p1), .val (.int p2), .val (.int p3), .val (.int p4), .val (.int p5), .val (.int (v0_2 p0 p1 p2 p3 p4 p5)), .val (.ref b1), .val (.ref b51), .unset] [(.int (8 : Int32)), (.int (v0_2 p0 p1 p2 p3 p4 p5))])) t → Steps p.tables e below (s₁.setTop (entryFrame m #[(.int p0), (.int p1), (.int p2), (.int p3), (.int p4), (.int p5)] maxLocals)) t := by
                    intro t k
                    refine pre128 t ?_
                    show Steps p.tables e below (T125.setTop (mkF m 183 #[.val (.int p0), .val (.int p1), .val (.int p2), .val (.int p3), .val (.int p4), .val (.int p5), .val (.int (v0_2 p0 p1 p2 p3 p4 p5)), .val (.ref b1), .val (.ref b51), .unset] [(.int (7 : Int32)), (.int (v0_2 p0 p1 p2 p3 p4 p5))])) _
                    refine XS.icmpNo X125.here hx rfl (hb hby at_183) rfl (XT.ii_le_f c129) ?_
                    show Steps p.tables e below (T125.setTop (mkF m 186 #[.val (.int p0), .val (.int p1), .val (.int p2), .val (.int p3), .val (.int p4), .val (.int p5), .val (.int (v0_2 p0 p1 p2 p3 p4 p5)), .val (.ref b1), .val (.ref b51), .unset] [])) _
                    refine XS.aload X125.here hx rfl (hb hby at_186) rfl rfl ?_
                    show Steps p.tables e below (T125.setTop (mkF m 188 #[.val (.int p0), .val (.int p1), .val (.int p2), .val (.int p3), .val (.int p4), .val (.int p5), .val (.int (v0_2 p0 p1 p2 p3 p4 p5)), .val (.ref b1), .val (.ref b51), .unset] [(.ref b51)])) _
                    refine XS.aload X125.here hx rfl (hb hby at_188) rfl rfl ?_
                    show Steps p.tables e below (T125.setTop (mkF m 190 #[.val (.int p0), .val (.int p1), .val (.int p2), .val (.int p3), .val (.int p4), .val (.int p5), .val (.int (v0_2 p0 p1 p2 p3 p4 p5)), .val (.ref b1), .val (.ref b51), .unset] [(.ref b1), (.ref b51)])) _
                    refine XT.bipushV X125.here hx rfl (7 : Int32) (hb hby at_190) (by decide) ?_
                    show Steps p.tables e below (T125.setTop (mkF m 192 #[.val (.int p0), .val (.int p1), .val (.int p2), .val (.int p3), .val (.int p4), .val (.int p5), .val (.int (v0_2 p0 p1 p2 p3 p4 p5)), .val (.ref b1), .val (.ref b51), .unset] [(.int (7 : Int32)), (.ref b1), (.ref b51)])) _
                    refine X125.iaload hx (j := (7 : Int32)) (v := (.int (v0_5 p0 p1 p2 p3 p4 p5))) Ar131.1 (State.isArrayOf_alike hZ.alike Ar131.2.1) Ar131.2.2 hin132 (Has.at Ha131 hin132 rfl) (g := (mkF m 192 #[.val (.int p0), .val (.int p1), .val (.int p2), .val (.int p3), .val (.int p4), .val (.int p5), .val (.int (v0_2 p0 p1 p2 p3 p4 p5)), .val (.ref b1), .val (.ref b51), .unset] [(.int (7 : Int32)), (.ref b1), (.ref b51)])) rfl rfl (hb hby at_192) _ ?_
                    show Steps p.tables e below (T125.setTop (mkF m 193 #[.val (.int p0), .val (.int p1), .val (.int p2), .val (.int p3), .val (.int p4), .val (.int p5), .val (.int (v0_2 p0 p1 p2 p3 p4 p5)), .val (.ref b1), .val (.ref b51), .unset] [(.int (v0_5 p0 p1 p2 p3 p4 p5)), (.ref b51)])) _
                    refine st133.trans ?_
                    show Steps p.tables e below (T133.setTop (mkF m 196 #[.val (.int p0), .val (.int p1), .val (.int p2), .val (.int p3), .val (.int p4), .val (.int p5), .val (.int (v0_2 p0 p1 p2 p3 p4 p5)), .val (.ref b1), .val (.ref b51), .unset] [])) _
                    refine XS.iload X133.here hx rfl (hb hby at_196) rfl ?_
                    show Steps p.tables e below (T133.setTop (mkF m 198 #[.val (.int p0), .val (.int p1), .val (.int p2), .val (.int p3), .val (.int p4), .val (.int p5), .val (.int (v0_2 p0 p1 p2 p3 p4 p5)), .val (.ref b1), .val (.ref b51), .unset] [(.int (v0_2 p0 p1 p2 p3 p4 p5))])) _
                    refine XT.bipushV X133.here hx rfl (8 : Int32) (hb hby at_198) (by decide) ?_
                    exact k
                  clear pre128 st133
                  by_cases c137 : (8 : Int32) < (v0_2 p0 p1 p2 p3 p4 p5)
                  · skip
                    have k138 := (k130.keep K133 (ninS ne53 (ninS ne105 nin0)))
                    obtain ⟨cl139, Ar139, qc139, S139, M139, Ha139, G139⟩ := id k138
                    have hin140 : ¬ ((8 : Int32) < 0 ∨ cl139.slots.size ≤ ((8 : Int32)).toNatClampNeg) := inb_of S139 ⟨by decide, by decide⟩
                    obtain ⟨cq141, kq141, q141a, q141b, q141c⟩ := isOf hZ rfl po133_0
                    obtain ⟨vr141, _, ⟨T141, L141, k141, n141⟩, -, X141, ⟨Lc141, hQ141, l141, y141, z141⟩, st141⟩ := X133.virtualBack hx (y := (⟨"com/example/vellum_index/vellumindex/IntList", "add", "(I)V"⟩ : MethodName)) (z := (⟨"com/example/vellum_index/vellumindex/IntList", "add", "(I)V"⟩ : MethodName)) hown (mvT hZ (hw _ (List.mem_of_getElem? (i := 13) rfl))) (mvT hZ (hw _ (List.mem_of_getElem? (i := 14) rfl))) (notFace_of_selects (args := #[]) (mvT hZ (hw _ (List.mem_of_getElem? (i := 16) rfl)))) (mvT hZ (hw _ (List.mem_of_getElem? (i := 16) rfl))) (mvT hZ (hw _ (List.mem_of_getElem? (i := 15) rfl))) (by decide) (backOf (W := 0) (rmadd8 l Z a0 hw [] b51 (v0_6 p0 p1 p2 p3 p4 p5) xadd4_0_103 p0 p1 p2 p3 p4 (v0_3 p0 p1 p2 p3 p4 p5) (v0_4 p0 p1 p2 p3 p4 p5) (v0_5 p0 p1 p2 p3 p4 p5) kadd4_1_103 T133.heap n0 z134 po133_0 po133_1 po133_2 po133_3 po133_4 g54) hZ (hw _ (List.mem_of_getElem? (i := 17) rfl)) (hw _ (List.mem_of_getElem? (i := 4) rfl)) (by decide) (by decide)) q141a q141c (g := (mkF m 210 #[.val (.int p0), .val (.int p1), .val (.int p2), .val (.int p3), .val (.int p4), .val (.int p5), .val (.int (v0_2 p0 p1 p2 p3 p4 p5)), .val (.ref b1), .val (.ref b51), .unset] [(.int (v0_6 p0 p1 p2 p3 p4 p5)), (.ref b51)])) rfl (by rw [hml]; rfl) (Steps.refl _) (argsL := [(.int (v0_6 p0 p1 p2 p3 p4 p5))]) (rest := []) (lenOf pd__I_V rfl) rfl (by show 2 * 0 + _ ≤ _; exact Nat.le_of_eq rfl) (hb hby at_210) (fun _ _ => ⟨rfl, rfl, (by decide : 4 + 1 ≤ _), (by decide : 23 + 16 ≤ _)⟩)
                    dsimp only [Pt.U, Pt.locs, Pt.cells, Pt.slots] at X141 l141 y141 z141 st141 hQ141
                    subst l141 y141 z141
                    have N141q := (show _ ∧ _ from hQ141).1
                    have hq141 := (show _ ∧ _ from hQ141).2
                    clear hQ141
                    obtain ⟨xadd8_0_141, kadd8_1_141, hq141x⟩ := hq141
                    have hv141 := hq141x.1
                    have szxadd8_0_141 := hq141x.2.1
                    have K141 := hq141x.2.2.1
                    have po141_0 := hq141x.2.2.2.1
                    have po141_1 := hq141x.2.2.2.2.1
                    have po141_2 := hq141x.2.2.2.2.2.1
                    have po141_3 := hq141x.2.2.2.2.2.2.1
                    have po141_4 := hq141x.2.2.2.2.2.2.2
                    clear hq141x
                    subst hv141
                    have k142 := ((((k104.keep K103).keep K117).keep K125).keep K133)
                    have ne143 : b1 ≠ xadd8_0_141 := Nat.ne_of_lt (Nat.lt_of_lt_of_le k142.lt szxadd8_0_141)
                    have ne144 : b51 ≠ xadd8_0_141 := Nat.ne_of_lt (Nat.lt_of_lt_of_le po133_0.lt szxadd8_0_141)
                    have k145 := ((((po95_3.keep K103).keep K117).keep K125).keep K133)
                    have ne146 : x1_0_58 ≠ xadd8_0_141 := Nat.ne_of_lt (Nat.lt_of_lt_of_le k145.lt szxadd8_0_141)
                    have ne147 : xadd4_0_103 ≠ xadd8_0_141 := Nat.ne_of_lt (Nat.lt_of_lt_of_le po133_3.lt szxadd8_0_141)
                    have g148 : n0 ≤ xadd8_0_141 := Nat.le_trans z134 szxadd8_0_141
                    have sz149 : h0.size ≤ xadd8_0_141 := Nat.le_trans hs135 szxadd8_0_141
                    have z150 : n0 ≤ T141.heap.size := Nat.le_trans z134 K141.1
                    have hs151 : h0.size ≤ T141.heap.size := Nat.le_trans hs135 K141.1
                    have N141 := Fr.app N133 N141q
                    obtain ⟨cq152, kq152, q152a, q152b, q152c⟩ := isOf hZ rfl po141_0
                    obtain ⟨vr152, _, ⟨T152, L152, k152, n152⟩, -, X152, ⟨Lc152, hQ152, l152, y152, z152⟩, st152⟩ := X141.virtualBack hx (y := (⟨"com/example/vellum_index/vellumindex/IntList", "size", "()I"⟩ : MethodName)) (z := (⟨"com/example/vellum_index/vellumindex/IntList", "size", "()I"⟩ : MethodName)) hown (mvT hZ (hw _ (List.mem_of_getElem? (i := 20) rfl))) (mvT hZ (hw _ (List.mem_of_getElem? (i := 21) rfl))) (notFace_of_selects (args := #[]) (mvT hZ (hw _ (List.mem_of_getElem? (i := 23) rfl)))) (mvT hZ (hw _ (List.mem_of_getElem? (i := 23) rfl))) (mvT hZ (hw _ (List.mem_of_getElem? (i := 22) rfl))) (by decide) (backOf (W := 0) (rm4 l Z a0 hw [] b51 (9 : Int32) T141.heap n0 z150 po141_1) hZ (hw _ (List.mem_of_getElem? (i := 24) rfl)) (hw _ (List.mem_of_getElem? (i := 4) rfl)) (by decide) (by decide)) q152a q152c (g := (mkF m 215 #[.val (.int p0), .val (.int p1), .val (.int p2), .val (.int p3), .val (.int p4), .val (.int p5), .val (.int (v0_2 p0 p1 p2 p3 p4 p5)), .val (.ref b1), .val (.ref b51), .unset] [(.ref b51)])) rfl (by rw [hml]; rfl) (Steps.refl _) (argsL := []) (rest := []) (lenOf pd___I rfl) rfl (by show 2 * 0 + _ ≤ _; exact Nat.le_of_eq rfl) (hb hby at_215) (fun _ _ => ⟨rfl, rfl, (by decide : 5 + 0 ≤ _), (by decide : 39 + 0 ≤ _)⟩)
                    dsimp only [Pt.U, Pt.locs, Pt.cells, Pt.slots] at X152 l152 y152 z152 st152 hQ152
                    subst l152 y152 z152
                    have N152q := (show _ ∧ _ ∧ _ from hQ152).1
                    have hv152 := (show _ ∧ _ ∧ _ from hQ152).2.1
                    have e152 := (show _ ∧ _ ∧ _ from hQ152).2.2
                    clear hQ152
                    subst hv152
                    have N152 := Fr.app N141 N152q
                    obtain ⟨cq153, kq153, q153a, q153b, q153c⟩ := isOf hZ e152 po141_0
                    obtain ⟨vr153, _, ⟨T153, L153, k153, n153⟩, -, X153, ⟨Lc153, hQ153, l153, y153, z153⟩, st153⟩ := X152.virtualBack hx (y := (⟨"com/example/vellum_index/vellumindex/IntList", "toArray", "()[I"⟩ : MethodName)) (z := (⟨"com/example/vellum_index/vellumindex/IntList", "toArray", "()[I"⟩ : MethodName)) hown (mvT hZ (hw _ (List.mem_of_getElem? (i := 25) rfl))) (mvT hZ (hw _ (List.mem_of_getElem? (i := 26) rfl))) (notFace_of_selects (args := #[]) (mvT hZ (hw _ (List.mem_of_getElem? (i := 28) rfl)))) (mvT hZ (hw _ (List.mem_of_getElem? (i := 28) rfl))) (mvT hZ (hw _ (List.mem_of_getElem? (i := 27) rfl))) (by decide) (backOf (W := 0) (rmta9 l Z a0 hw [] b51 xadd8_0_141 p0 p1 p2 p3 p4 (v0_3 p0 p1 p2 p3 p4 p5) (v0_4 p0 p1 p2 p3 p4 p5) (v0_5 p0 p1 p2 p3 p4 p5) (v0_6 p0 p1 p2 p3 p4 p5) (0 : Int32) (0 : Int32) (0 : Int32) (0 : Int32) (0 : Int32) (0 : Int32) (0 : Int32) kadd8_1_141 T141.heap n0 z150 po141_0 po141_1 po141_2 po141_3 po141_4) hZ (hw _ (List.mem_of_getElem? (i := 29) rfl)) (hw _ (List.mem_of_getElem? (i := 4) rfl)) (by decide) (by decide)) q153a q153c (g := (mkF m 227 #[.val (.int p0), .val (.int p1), .val (.int p2), .val (.int p3), .val (.int p4), .val (.int p5), .val (.int (v0_2 p0 p1 p2 p3 p4 p5)), .val (.ref b1), .val (.ref b51), .unset] [(.ref b51)])) rfl (by rw [hml]; rfl) (Steps.refl _) (argsL := []) (rest := []) (lenOf pd____I rfl) rfl (by show 2 * 0 + _ ≤ _; exact Nat.le_of_eq rfl) (hb hby at_227) (fun _ _ => ⟨rfl, e152, (by decide : 5 + 1 ≤ _), (by decide : 39 + 9 ≤ _)⟩)
                    dsimp only [Pt.U, Pt.locs, Pt.cells, Pt.slots] at X153 l153 y153 z153 st153 hQ153
                    subst l153 y153 z153
                    have N153q := (show _ ∧ _ from hQ153).1
                    have hq153 := (show _ ∧ _ from hQ153).2
                    clear hQ153
                    obtain ⟨xta9_0_153, kta9_1_153, hq153x⟩ := hq153
                    have hv153 := hq153x.1
                    have szxta9_0_153 := hq153x.2.1
                    have K153 := hq153x.2.2.1
                    have po153_0 := hq153x.2.2.2.1
                    have po153_1 := hq153x.2.2.2.2
                    clear hq153x
                    subst hv153
                    have k154 := (k142.keep K141)
                    have ne155 : b1 ≠ xta9_0_153 := Nat.ne_of_lt (Nat.lt_of_lt_of_le k154.lt szxta9_0_153)
                    have ne156 : b51 ≠ xta9_0_153 := Nat.ne_of_lt (Nat.lt_of_lt_of_le po141_0.lt szxta9_0_153)
                    have k157 := (k145.keep K141)
                    have ne158 : x1_0_58 ≠ xta9_0_153 := Nat.ne_of_lt (Nat.lt_of_lt_of_le k157.lt szxta9_0_153)
                    have k159 := (po133_3.keep K141)
                    have ne160 : xadd4_0_103 ≠ xta9_0_153 := Nat.ne_of_lt (Nat.lt_of_lt_of_le k159.lt szxta9_0_153)
                    have ne161 : xadd8_0_141 ≠ xta9_0_153 := Nat.ne_of_lt (Nat.lt_of_lt_of_le po141_3.lt szxta9_0_153)
                    have g162 : n0 ≤ xta9_0_153 := Nat.le_trans z150 szxta9_0_153
                    have sz163 : h0.size ≤ xta9_0_153 := Nat.le_trans hs151 szxta9_0_153
                    have z164 : n0 ≤ T153.heap.size := Nat.le_trans z150 K153.1
                    have hs165 : h0.size ≤ T153.heap.size := Nat.le_trans hs151 K153.1
                    have N153 := Fr.app N152 N153q
                    obtain ⟨cl166, Ar166, qc166, S166, M166, Ha166, G166⟩ := id po153_1
                    have hin167 : ¬ ((0 : Int32) < 0 ∨ cl166.slots.size ≤ ((0 : Int32)).toNatClampNeg) := inb_of S166 ⟨by decide, by decide⟩
                    have k168 := ((k138.keep K141 (ninS ne53 nin0)).keep K153 nin0)
                    obtain ⟨cl169, Ar169, qc169, S169, M169, Ha169, G169⟩ := id k168
                    have hin170 : ¬ ((0 : Int32) < 0 ∨ cl169.slots.size ≤ ((0 : Int32)).toNatClampNeg) := inb_of S169 ⟨by decide, by decide⟩
                    have hin171 : ¬ ((1 : Int32) < 0 ∨ cl166.slots.size ≤ ((1 : Int32)).toNatClampNeg) := inb_of S166 ⟨by decide, by decide⟩
                    have hin172 : ¬ ((1 : Int32) < 0 ∨ cl169.slots.size ≤ ((1 : Int32)).toNatClampNeg) := inb_of S169 ⟨by decide, by decide⟩
                    have hin173 : ¬ ((2 : Int32) < 0 ∨ cl166.slots.size ≤ ((2 : Int32)).toNatClampNeg) := inb_of S166 ⟨by decide, by decide⟩
                    have hin174 : ¬ ((2 : Int32) < 0 ∨ cl169.slots.size ≤ ((2 : Int32)).toNatClampNeg) := inb_of S169 ⟨by decide, by decide⟩
                    have hin175 : ¬ ((3 : Int32) < 0 ∨ cl166.slots.size ≤ ((3 : Int32)).toNatClampNeg) := inb_of S166 ⟨by decide, by decide⟩
                    have hin176 : ¬ ((3 : Int32) < 0 ∨ cl169.slots.size ≤ ((3 : Int32)).toNatClampNeg) := inb_of S169 ⟨by decide, by decide⟩
                    have hin177 : ¬ ((4 : Int32) < 0 ∨ cl166.slots.size ≤ ((4 : Int32)).toNatClampNeg) := inb_of S166 ⟨by decide, by decide⟩
                    have hin178 : ¬ ((4 : Int32) < 0 ∨ cl169.slots.size ≤ ((4 : Int32)).toNatClampNeg) := inb_of S169 ⟨by decide, by decide⟩
                    have hin179 : ¬ ((5 : Int32) < 0 ∨ cl166.slots.size ≤ ((5 : Int32)).toNatClampNeg) := inb_of S166 ⟨by decide, by decide⟩
                    have hin180 : ¬ ((5 : Int32) < 0 ∨ cl169.slots.size ≤ ((5 : Int32)).toNatClampNeg) := inb_of S169 ⟨by decide, by decide⟩
                    have hin181 : ¬ ((6 : Int32) < 0 ∨ cl166.slots.size ≤ ((6 : Int32)).toNatClampNeg) := inb_of S166 ⟨by decide, by decide⟩
                    have hin182 : ¬ ((6 : Int32) < 0 ∨ cl169.slots.size ≤ ((6 : Int32)).toNatClampNeg) := inb_of S169 ⟨by decide, by decide⟩
                    have hin183 : ¬ ((7 : Int32) < 0 ∨ cl166.slots.size ≤ ((7 : Int32)).toNatClampNeg) := inb_of S166 ⟨by decide, by decide⟩
                    have hin184 : ¬ ((7 : Int32) < 0 ∨ cl169.slots.size ≤ ((7 : Int32)).toNatClampNeg) := inb_of S169 ⟨by decide, by decide⟩
                    have hin185 : ¬ ((8 : Int32) < 0 ∨ cl166.slots.size ≤ ((8 : Int32)).toNatClampNeg) := inb_of S166 ⟨by decide, by decide⟩
                    have hin186 : ¬ ((8 : Int32) < 0 ∨ cl169.slots.size ≤ ((8 : Int32)).toNatClampNeg) := inb_of S169 ⟨by decide, by decide⟩
                    obtain ⟨fs, hr, hrun, hended, hW, hsame⟩ := X153.leave (v := some (.int (1 : Int32))) (fun h => by rw [Bd.returns] at h; cases h) hlk
                    refine ⟨_, _, pre136 _ ?_, hrun, hended, _, _, rfl, ?_, ⟨_, rfl⟩, hW, hsame.mono (by decide) (by decide)⟩
                    · skip
                      show Steps p.tables e below (T133.setTop (mkF m 200 #[.val (.int p0), .val (.int p1), .val (.int p2), .val (.int p3), .val (.int p4), .val (.int p5), .val (.int (v0_2 p0 p1 p2 p3 p4 p5)), .val (.ref b1), .val (.ref b51), .unset] [(.int (8 : Int32)), (.int (v0_2 p0 p1 p2 p3 p4 p5))])) _
                      refine XS.icmpNo X133.here hx rfl (hb hby at_200) rfl (XT.ii_le_f c137) ?_
                      show Steps p.tables e below (T133.setTop (mkF m 203 #[.val (.int p0), .val (.int p1), .val (.int p2), .val (.int p3), .val (.int p4), .val (.int p5), .val (.int (v0_2 p0 p1 p2 p3 p4 p5)), .val (.ref b1), .val (.ref b51), .unset] [])) _
                      refine XS.aload X133.here hx rfl (hb hby at_203) rfl rfl ?_
                      show Steps p.tables e below (T133.setTop (mkF m 205 #[.val (.int p0), .val (.int p1), .val (.int p2), .val (.int p3), .val (.int p4), .val (.int p5), .val (.int (v0_2 p0 p1 p2 p3 p4 p5)), .val (.ref b1), .val (.ref b51), .unset] [(.ref b51)])) _
                      refine XS.aload X133.here hx rfl (hb hby at_205) rfl rfl ?_
                      show Steps p.tables e below (T133.setTop (mkF m 207 #[.val (.int p0), .val (.int p1), .val (.int p2), .val (.int p3), .val (.int p4), .val (.int p5), .val (.int (v0_2 p0 p1 p2 p3 p4 p5)), .val (.ref b1), .val (.ref b51), .unset] [(.ref b1), (.ref b51)])) _
                      refine XT.bipushV X133.here hx rfl (8 : Int32) (hb hby at_207) (by decide) ?_
                      show Steps p.tables e below (T133.setTop (mkF m 209 #[.val (.int p0), .val (.int p1), .val (.int p2), .val (.int p3), .val (.int p4), .val (.int p5), .val (.int (v0_2 p0 p1 p2 p3 p4 p5)), .val (.ref b1), .val (.ref b51), .unset] [(.int (8 : Int32)), (.ref b1), (.ref b51)])) _
                      refine X133.iaload hx (j := (8 : Int32)) (v := (.int (v0_6 p0 p1 p2 p3 p4 p5))) Ar139.1 (State.isArrayOf_alike hZ.alike Ar139.2.1) Ar139.2.2 hin140 (Has.at Ha139 hin140 rfl) (g := (mkF m 209 #[.val (.int p0), .val (.int p1), .val (.int p2), .val (.int p3), .val (.int p4), .val (.int p5), .val (.int (v0_2 p0 p1 p2 p3 p4 p5)), .val (.ref b1), .val (.ref b51), .unset] [(.int (8 : Int32)), (.ref b1), (.ref b51)])) rfl rfl (hb hby at_209) _ ?_
                      show Steps p.tables e below (T133.setTop (mkF m 210 #[.val (.int p0), .val (.int p1), .val (.int p2), .val (.int p3), .val (.int p4), .val (.int p5), .val (.int (v0_2 p0 p1 p2 p3 p4 p5)), .val (.ref b1), .val (.ref b51), .unset] [(.int (v0_6 p0 p1 p2 p3 p4 p5)), (.ref b51)])) _
                      refine st141.trans ?_
                      show Steps p.tables e below (T141.setTop (mkF m 213 #[.val (.int p0), .val (.int p1), .val (.int p2), .val (.int p3), .val (.int p4), .val (.int p5), .val (.int (v0_2 p0 p1 p2 p3 p4 p5)), .val (.ref b1), .val (.ref b51), .unset] [])) _
                      refine XS.aload X141.here hx rfl (hb hby at_213) rfl rfl ?_
                      show Steps p.tables e below (T141.setTop (mkF m 215 #[.val (.int p0), .val (.int p1), .val (.int p2), .val (.int p3), .val (.int p4), .val (.int p5), .val (.int (v0_2 p0 p1 p2 p3 p4 p5)), .val (.ref b1), .val (.ref b51), .unset] [(.ref b51)])) _
                      refine st152.trans ?_
                      show Steps p.tables e below (T152.setTop (mkF m 218 #[.val (.int p0), .val (.int p1), .val (.int p2), .val (.int p3), .val (.int p4), .val (.int p5), .val (.int (v0_2 p0 p1 p2 p3 p4 p5)), .val (.ref b1), .val (.ref b51), .unset] [(.int (f4 (9 : Int32)))])) _
                      refine XS.iload X152.here hx rfl (hb hby at_218) rfl ?_
                      show Steps p.tables e below (T152.setTop (mkF m 220 #[.val (.int p0), .val (.int p1), .val (.int p2), .val (.int p3), .val (.int p4), .val (.int p5), .val (.int (v0_2 p0 p1 p2 p3 p4 p5)), .val (.ref b1), .val (.ref b51), .unset] [(.int (v0_2 p0 p1 p2 p3 p4 p5)), (.int (f4 (9 : Int32)))])) _
                      refine XS.icmpYes X152.here hx rfl (pc0 := 220) (pc' := 225) rfl (hb hby at_220) rfl (XT.ii_eq_t ((own_eq9 p0 p1 p2 p3 p4 p5 c137)).symm) (by decide) (by decide) ?_
                      show Steps p.tables e below (T152.setTop (mkF m 225 #[.val (.int p0), .val (.int p1), .val (.int p2), .val (.int p3), .val (.int p4), .val (.int p5), .val (.int (v0_2 p0 p1 p2 p3 p4 p5)), .val (.ref b1), .val (.ref b51), .unset] [])) _
                      refine XS.aload X152.here hx rfl (hb hby at_225) rfl rfl ?_
                      show Steps p.tables e below (T152.setTop (mkF m 227 #[.val (.int p0), .val (.int p1), .val (.int p2), .val (.int p3), .val (.int p4), .val (.int p5), .val (.int (v0_2 p0 p1 p2 p3 p4 p5)), .val (.ref b1), .val (.ref b51), .unset] [(.ref b51)])) _
                      refine st153.trans ?_
                      show Steps p.tables e below (T153.setTop (mkF m 230 #[.val (.int p0), .val (.int p1), .val (.int p2), .val (.int p3), .val (.int p4), .val (.int p5), .val (.int (v0_2 p0 p1 p2 p3 p4 p5)), .val (.ref b1), .val (.ref b51), .unset] [(.ref xta9_0_153)])) _
                      refine XS.astore X153.here hx rfl (hb hby at_230) rfl rfl (l' := #[.val (.int p0), .val (.int p1), .val (.int p2), .val (.int p3), .val (.int p4), .val (.int p5), .val (.int (v0_2 p0 p1 p2 p3 p4 p5)), .val (.ref b1), .val (.ref b51), .val (.ref xta9_0_153)]) rfl ?_
                      show Steps p.tables e below (T153.setTop (mkF m 232 #[.val (.int p0), .val (.int p1), .val (.int p2), .val (.int p3), .val (.int p4), .val (.int p5), .val (.int (v0_2 p0 p1 p2 p3 p4 p5)), .val (.ref b1), .val (.ref b51), .val (.ref xta9_0_153)] [])) _
                      refine XS.aload X153.here hx rfl (hb hby at_232) rfl rfl ?_
                      show Steps p.tables e below (T153.setTop (mkF m 234 #[.val (.int p0), .val (.int p1), .val (.int p2), .val (.int p3), .val (.int p4), .val (.int p5), .val (.int (v0_2 p0 p1 p2 p3 p4 p5)), .val (.ref b1), .val (.ref b51), .val (.ref xta9_0_153)] [(.ref xta9_0_153)])) _
                      refine X153.arraylength hx Ar166.1 (State.isArrayOf_alike hZ.alike Ar166.2.1) (g := (mkF m 234 #[.val (.int p0), .val (.int p1), .val (.int p2), .val (.int p3), .val (.int p4), .val (.int p5), .val (.int (v0_2 p0 p1 p2 p3 p4 p5)), .val (.ref b1), .val (.ref b51), .val (.ref xta9_0_153)] [(.ref xta9_0_153)])) rfl rfl (hb hby at_234) _ ?_
                      rw [len_of S166 M166]
                      show Steps p.tables e below (T153.setTop (mkF m 235 #[.val (.int p0), .val (.int p1), .val (.int p2), .val (.int p3), .val (.int p4), .val (.int p5), .val (.int (v0_2 p0 p1 p2 p3 p4 p5)), .val (.ref b1), .val (.ref b51), .val (.ref xta9_0_153)] [(.int (9 : Int32))])) _
                      refine XS.iload X153.here hx rfl (hb hby at_235) rfl ?_
                      show Steps p.tables e below (T153.setTop (mkF m 237 #[.val (.int p0), .val (.int p1), .val (.int p2), .val (.int p3), .val (.int p4), .val (.int p5), .val (.int (v0_2 p0 p1 p2 p3 p4 p5)), .val (.ref b1), .val (.ref b51), .val (.ref xta9_0_153)] [(.int (v0_2 p0 p1 p2 p3 p4 p5)), (.int (9 : Int32))])) _
                      refine XS.icmpYes X153.here hx rfl (pc0 := 237) (pc' := 242) rfl (hb hby at_237) rfl (XT.ii_eq_t ((own_eq9 p0 p1 p2 p3 p4 p5 c137)).symm) (by decide) (by decide) ?_
                      show Steps p.tables e below (T153.setTop (mkF m 242 #[.val (.int p0), .val (.int p1), .val (.int p2), .val (.int p3), .val (.int p4), .val (.int p5), .val (.int (v0_2 p0 p1 p2 p3 p4 p5)), .val (.ref b1), .val (.ref b51), .val (.ref xta9_0_153)] [])) _
                      refine XS.iload X153.here hx rfl (hb hby at_242) rfl ?_
                      show Steps p.tables e below (T153.setTop (mkF m 244 #[.val (.int p0), .val (.int p1), .val (.int p2), .val (.int p3), .val (.int p4), .val (.int p5), .val (.int (v0_2 p0 p1 p2 p3 p4 p5)), .val (.ref b1), .val (.ref b51), .val (.ref xta9_0_153)] [(.int (v0_2 p0 p1 p2 p3 p4 p5))])) _
                      refine XS.ifNo X153.here hx rfl (hb hby at_244) rfl (XT.i0_le_f c67) ?_
                      show Steps p.tables e below (T153.setTop (mkF m 247 #[.val (.int p0), .val (.int p1), .val (.int p2), .val (.int p3), .val (.int p4), .val (.int p5), .val (.int (v0_2 p0 p1 p2 p3 p4 p5)), .val (.ref b1), .val (.ref b51), .val (.ref xta9_0_153)] [])) _
                      refine XS.aload X153.here hx rfl (hb hby at_247) rfl rfl ?_
                      show Steps p.tables e below (T153.setTop (mkF m 249 #[.val (.int p0), .val (.int p1), .val (.int p2), .val (.int p3), .val (.int p4), .val (.int p5), .val (.int (v0_2 p0 p1 p2 p3 p4 p5)), .val (.ref b1), .val (.ref b51), .val (.ref xta9_0_153)] [(.ref xta9_0_153)])) _
                      refine XT.iconstV X153.here hx rfl (0 : Int32) (hb hby at_249) (by decide) ?_
                      show Steps p.tables e below (T153.setTop (mkF m 250 #[.val (.int p0), .val (.int p1), .val (.int p2), .val (.int p3), .val (.int p4), .val (.int p5), .val (.int (v0_2 p0 p1 p2 p3 p4 p5)), .val (.ref b1), .val (.ref b51), .val (.ref xta9_0_153)] [(.int (0 : Int32)), (.ref xta9_0_153)])) _
                      refine X153.iaload hx (j := (0 : Int32)) (v := (.int p0)) Ar166.1 (State.isArrayOf_alike hZ.alike Ar166.2.1) Ar166.2.2 hin167 (Has.at Ha166 hin167 rfl) (g := (mkF m 250 #[.val (.int p0), .val (.int p1), .val (.int p2), .val (.int p3), .val (.int p4), .val (.int p5), .val (.int (v0_2 p0 p1 p2 p3 p4 p5)), .val (.ref b1), .val (.ref b51), .val (.ref xta9_0_153)] [(.int (0 : Int32)), (.ref xta9_0_153)])) rfl rfl (hb hby at_250) _ ?_
                      show Steps p.tables e below (T153.setTop (mkF m 251 #[.val (.int p0), .val (.int p1), .val (.int p2), .val (.int p3), .val (.int p4), .val (.int p5), .val (.int (v0_2 p0 p1 p2 p3 p4 p5)), .val (.ref b1), .val (.ref b51), .val (.ref xta9_0_153)] [(.int p0)])) _
                      refine XS.aload X153.here hx rfl (hb hby at_251) rfl rfl ?_
                      show Steps p.tables e below (T153.setTop (mkF m 253 #[.val (.int p0), .val (.int p1), .val (.int p2), .val (.int p3), .val (.int p4), .val (.int p5), .val (.int (v0_2 p0 p1 p2 p3 p4 p5)), .val (.ref b1), .val (.ref b51), .val (.ref xta9_0_153)] [(.ref b1), (.int p0)])) _
                      refine XT.iconstV X153.here hx rfl (0 : Int32) (hb hby at_253) (by decide) ?_
                      show Steps p.tables e below (T153.setTop (mkF m 254 #[.val (.int p0), .val (.int p1), .val (.int p2), .val (.int p3), .val (.int p4), .val (.int p5), .val (.int (v0_2 p0 p1 p2 p3 p4 p5)), .val (.ref b1), .val (.ref b51), .val (.ref xta9_0_153)] [(.int (0 : Int32)), (.ref b1), (.int p0)])) _
                      refine X153.iaload hx (j := (0 : Int32)) (v := (.int p0)) Ar169.1 (State.isArrayOf_alike hZ.alike Ar169.2.1) Ar169.2.2 hin170 (Has.at Ha169 hin170 rfl) (g := (mkF m 254 #[.val (.int p0), .val (.int p1), .val (.int p2), .val (.int p3), .val (.int p4), .val (.int p5), .val (.int (v0_2 p0 p1 p2 p3 p4 p5)), .val (.ref b1), .val (.ref b51), .val (.ref xta9_0_153)] [(.int (0 : Int32)), (.ref b1), (.int p0)])) rfl rfl (hb hby at_254) _ ?_
                      show Steps p.tables e below (T153.setTop (mkF m 255 #[.val (.int p0), .val (.int p1), .val (.int p2), .val (.int p3), .val (.int p4), .val (.int p5), .val (.int (v0_2 p0 p1 p2 p3 p4 p5)), .val (.ref b1), .val (.ref b51), .val (.ref xta9_0_153)] [(.int p0), (.int p0)])) _
                      refine XS.icmpYes X153.here hx rfl (pc0 := 255) (pc' := 260) rfl (hb hby at_255) rfl (XT.ii_eq_t (rfl : p0 = p0)) (by decide) (by decide) ?_
                      show Steps p.tables e below (T153.setTop (mkF m 260 #[.val (.int p0), .val (.int p1), .val (.int p2), .val (.int p3), .val (.int p4), .val (.int p5), .val (.int (v0_2 p0 p1 p2 p3 p4 p5)), .val (.ref b1), .val (.ref b51), .val (.ref xta9_0_153)] [])) _
                      refine XS.iload X153.here hx rfl (hb hby at_260) rfl ?_
                      show Steps p.tables e below (T153.setTop (mkF m 262 #[.val (.int p0), .val (.int p1), .val (.int p2), .val (.int p3), .val (.int p4), .val (.int p5), .val (.int (v0_2 p0 p1 p2 p3 p4 p5)), .val (.ref b1), .val (.ref b51), .val (.ref xta9_0_153)] [(.int (v0_2 p0 p1 p2 p3 p4 p5))])) _
                      refine XT.iconstV X153.here hx rfl (1 : Int32) (hb hby at_262) (by decide) ?_
                      show Steps p.tables e below (T153.setTop (mkF m 263 #[.val (.int p0), .val (.int p1), .val (.int p2), .val (.int p3), .val (.int p4), .val (.int p5), .val (.int (v0_2 p0 p1 p2 p3 p4 p5)), .val (.ref b1), .val (.ref b51), .val (.ref xta9_0_153)] [(.int (1 : Int32)), (.int (v0_2 p0 p1 p2 p3 p4 p5))])) _
                      refine XS.icmpNo X153.here hx rfl (hb hby at_263) rfl (XT.ii_le_f c75) ?_
                      show Steps p.tables e below (T153.setTop (mkF m 266 #[.val (.int p0), .val (.int p1), .val (.int p2), .val (.int p3), .val (.int p4), .val (.int p5), .val (.int (v0_2 p0 p1 p2 p3 p4 p5)), .val (.ref b1), .val (.ref b51), .val (.ref xta9_0_153)] [])) _
                      refine XS.aload X153.here hx rfl (hb hby at_266) rfl rfl ?_
                      show Steps p.tables e below (T153.setTop (mkF m 268 #[.val (.int p0), .val (.int p1), .val (.int p2), .val (.int p3), .val (.int p4), .val (.int p5), .val (.int (v0_2 p0 p1 p2 p3 p4 p5)), .val (.ref b1), .val (.ref b51), .val (.ref xta9_0_153)] [(.ref xta9_0_153)])) _
                      refine XT.iconstV X153.here hx rfl (1 : Int32) (hb hby at_268) (by decide) ?_
                      show Steps p.tables e below (T153.setTop (mkF m 269 #[.val (.int p0), .val (.int p1), .val (.int p2), .val (.int p3), .val (.int p4), .val (.int p5), .val (.int (v0_2 p0 p1 p2 p3 p4 p5)), .val (.ref b1), .val (.ref b51), .val (.ref xta9_0_153)] [(.int (1 : Int32)), (.ref xta9_0_153)])) _
                      refine X153.iaload hx (j := (1 : Int32)) (v := (.int p1)) Ar166.1 (State.isArrayOf_alike hZ.alike Ar166.2.1) Ar166.2.2 hin171 (Has.at Ha166 hin171 rfl) (g := (mkF m 269 #[.val (.int p0), .val (.int p1), .val (.int p2), .val (.int p3), .val (.int p4), .val (.int p5), .val (.int (v0_2 p0 p1 p2 p3 p4 p5)), .val (.ref b1), .val (.ref b51), .val (.ref xta9_0_153)] [(.int (1 : Int32)), (.ref xta9_0_153)])) rfl rfl (hb hby at_269) _ ?_
                      show Steps p.tables e below (T153.setTop (mkF m 270 #[.val (.int p0), .val (.int p1), .val (.int p2), .val (.int p3), .val (.int p4), .val (.int p5), .val (.int (v0_2 p0 p1 p2 p3 p4 p5)), .val (.ref b1), .val (.ref b51), .val (.ref xta9_0_153)] [(.int p1)])) _
                      refine XS.aload X153.here hx rfl (hb hby at_270) rfl rfl ?_
                      show Steps p.tables e below (T153.setTop (mkF m 272 #[.val (.int p0), .val (.int p1), .val (.int p2), .val (.int p3), .val (.int p4), .val (.int p5), .val (.int (v0_2 p0 p1 p2 p3 p4 p5)), .val (.ref b1), .val (.ref b51), .val (.ref xta9_0_153)] [(.ref b1), (.int p1)])) _
                      refine XT.iconstV X153.here hx rfl (1 : Int32) (hb hby at_272) (by decide) ?_
                      show Steps p.tables e below (T153.setTop (mkF m 273 #[.val (.int p0), .val (.int p1), .val (.int p2), .val (.int p3), .val (.int p4), .val (.int p5), .val (.int (v0_2 p0 p1 p2 p3 p4 p5)), .val (.ref b1), .val (.ref b51), .val (.ref xta9_0_153)] [(.int (1 : Int32)), (.ref b1), (.int p1)])) _
                      refine X153.iaload hx (j := (1 : Int32)) (v := (.int p1)) Ar169.1 (State.isArrayOf_alike hZ.alike Ar169.2.1) Ar169.2.2 hin172 (Has.at Ha169 hin172 rfl) (g := (mkF m 273 #[.val (.int p0), .val (.int p1), .val (.int p2), .val (.int p3), .val (.int p4), .val (.int p5), .val (.int (v0_2 p0 p1 p2 p3 p4 p5)), .val (.ref b1), .val (.ref b51), .val (.ref xta9_0_153)] [(.int (1 : Int32)), (.ref b1), (.int p1)])) rfl rfl (hb hby at_273) _ ?_
                      show Steps p.tables e below (T153.setTop (mkF m 274 #[.val (.int p0), .val (.int p1), .val (.int p2), .val (.int p3), .val (.int p4), .val (.int p5), .val (.int (v0_2 p0 p1 p2 p3 p4 p5)), .val (.ref b1), .val (.ref b51), .val (.ref xta9_0_153)] [(.int p1), (.int p1)])) _
                      refine XS.icmpYes X153.here hx rfl (pc0 := 274) (pc' := 279) rfl (hb hby at_274) rfl (XT.ii_eq_t (rfl : p1 = p1)) (by decide) (by decide) ?_
                      show Steps p.tables e below (T153.setTop (mkF m 279 #[.val (.int p0), .val (.int p1), .val (.int p2), .val (.int p3), .val (.int p4), .val (.int p5), .val (.int (v0_2 p0 p1 p2 p3 p4 p5)), .val (.ref b1), .val (.ref b51), .val (.ref xta9_0_153)] [])) _
                      refine XS.iload X153.here hx rfl (hb hby at_279) rfl ?_
                      show Steps p.tables e below (T153.setTop (mkF m 281 #[.val (.int p0), .val (.int p1), .val (.int p2), .val (.int p3), .val (.int p4), .val (.int p5), .val (.int (v0_2 p0 p1 p2 p3 p4 p5)), .val (.ref b1), .val (.ref b51), .val (.ref xta9_0_153)] [(.int (v0_2 p0 p1 p2 p3 p4 p5))])) _
                      refine XT.iconstV X153.here hx rfl (2 : Int32) (hb hby at_281) (by decide) ?_
                      show Steps p.tables e below (T153.setTop (mkF m 282 #[.val (.int p0), .val (.int p1), .val (.int p2), .val (.int p3), .val (.int p4), .val (.int p5), .val (.int (v0_2 p0 p1 p2 p3 p4 p5)), .val (.ref b1), .val (.ref b51), .val (.ref xta9_0_153)] [(.int (2 : Int32)), (.int (v0_2 p0 p1 p2 p3 p4 p5))])) _
                      refine XS.icmpNo X153.here hx rfl (hb hby at_282) rfl (XT.ii_le_f c83) ?_
                      show Steps p.tables e below (T153.setTop (mkF m 285 #[.val (.int p0), .val (.int p1), .val (.int p2), .val (.int p3), .val (.int p4), .val (.int p5), .val (.int (v0_2 p0 p1 p2 p3 p4 p5)), .val (.ref b1), .val (.ref b51), .val (.ref xta9_0_153)] [])) _
                      refine XS.aload X153.here hx rfl (hb hby at_285) rfl rfl ?_
                      show Steps p.tables e below (T153.setTop (mkF m 287 #[.val (.int p0), .val (.int p1), .val (.int p2), .val (.int p3), .val (.int p4), .val (.int p5), .val (.int (v0_2 p0 p1 p2 p3 p4 p5)), .val (.ref b1), .val (.ref b51), .val (.ref xta9_0_153)] [(.ref xta9_0_153)])) _
                      refine XT.iconstV X153.here hx rfl (2 : Int32) (hb hby at_287) (by decide) ?_
                      show Steps p.tables e below (T153.setTop (mkF m 288 #[.val (.int p0), .val (.int p1), .val (.int p2), .val (.int p3), .val (.int p4), .val (.int p5), .val (.int (v0_2 p0 p1 p2 p3 p4 p5)), .val (.ref b1), .val (.ref b51), .val (.ref xta9_0_153)] [(.int (2 : Int32)), (.ref xta9_0_153)])) _
                      refine X153.iaload hx (j := (2 : Int32)) (v := (.int p2)) Ar166.1 (State.isArrayOf_alike hZ.alike Ar166.2.1) Ar166.2.2 hin173 (Has.at Ha166 hin173 rfl) (g := (mkF m 288 #[.val (.int p0), .val (.int p1), .val (.int p2), .val (.int p3), .val (.int p4), .val (.int p5), .val (.int (v0_2 p0 p1 p2 p3 p4 p5)), .val (.ref b1), .val (.ref b51), .val (.ref xta9_0_153)] [(.int (2 : Int32)), (.ref xta9_0_153)])) rfl rfl (hb hby at_288) _ ?_
                      show Steps p.tables e below (T153.setTop (mkF m 289 #[.val (.int p0), .val (.int p1), .val (.int p2), .val (.int p3), .val (.int p4), .val (.int p5), .val (.int (v0_2 p0 p1 p2 p3 p4 p5)), .val (.ref b1), .val (.ref b51), .val (.ref xta9_0_153)] [(.int p2)])) _
                      refine XS.aload X153.here hx rfl (hb hby at_289) rfl rfl ?_
                      show Steps p.tables e below (T153.setTop (mkF m 291 #[.val (.int p0), .val (.int p1), .val (.int p2), .val (.int p3), .val (.int p4), .val (.int p5), .val (.int (v0_2 p0 p1 p2 p3 p4 p5)), .val (.ref b1), .val (.ref b51), .val (.ref xta9_0_153)] [(.ref b1), (.int p2)])) _
                      refine XT.iconstV X153.here hx rfl (2 : Int32) (hb hby at_291) (by decide) ?_
                      show Steps p.tables e below (T153.setTop (mkF m 292 #[.val (.int p0), .val (.int p1), .val (.int p2), .val (.int p3), .val (.int p4), .val (.int p5), .val (.int (v0_2 p0 p1 p2 p3 p4 p5)), .val (.ref b1), .val (.ref b51), .val (.ref xta9_0_153)] [(.int (2 : Int32)), (.ref b1), (.int p2)])) _
                      refine X153.iaload hx (j := (2 : Int32)) (v := (.int p2)) Ar169.1 (State.isArrayOf_alike hZ.alike Ar169.2.1) Ar169.2.2 hin174 (Has.at Ha169 hin174 rfl) (g := (mkF m 292 #[.val (.int p0), .val (.int p1), .val (.int p2), .val (.int p3), .val (.int p4), .val (.int p5), .val (.int (v0_2 p0 p1 p2 p3 p4 p5)), .val (.ref b1), .val (.ref b51), .val (.ref xta9_0_153)] [(.int (2 : Int32)), (.ref b1), (.int p2)])) rfl rfl (hb hby at_292) _ ?_
                      show Steps p.tables e below (T153.setTop (mkF m 293 #[.val (.int p0), .val (.int p1), .val (.int p2), .val (.int p3), .val (.int p4), .val (.int p5), .val (.int (v0_2 p0 p1 p2 p3 p4 p5)), .val (.ref b1), .val (.ref b51), .val (.ref xta9_0_153)] [(.int p2), (.int p2)])) _
                      refine XS.icmpYes X153.here hx rfl (pc0 := 293) (pc' := 298) rfl (hb hby at_293) rfl (XT.ii_eq_t (rfl : p2 = p2)) (by decide) (by decide) ?_
                      show Steps p.tables e below (T153.setTop (mkF m 298 #[.val (.int p0), .val (.int p1), .val (.int p2), .val (.int p3), .val (.int p4), .val (.int p5), .val (.int (v0_2 p0 p1 p2 p3 p4 p5)), .val (.ref b1), .val (.ref b51), .val (.ref xta9_0_153)] [])) _
                      refine XS.iload X153.here hx rfl (hb hby at_298) rfl ?_
                      show Steps p.tables e below (T153.setTop (mkF m 300 #[.val (.int p0), .val (.int p1), .val (.int p2), .val (.int p3), .val (.int p4), .val (.int p5), .val (.int (v0_2 p0 p1 p2 p3 p4 p5)), .val (.ref b1), .val (.ref b51), .val (.ref xta9_0_153)] [(.int (v0_2 p0 p1 p2 p3 p4 p5))])) _
                      refine XT.iconstV X153.here hx rfl (3 : Int32) (hb hby at_300) (by decide) ?_
                      show Steps p.tables e below (T153.setTop (mkF m 301 #[.val (.int p0), .val (.int p1), .val (.int p2), .val (.int p3), .val (.int p4), .val (.int p5), .val (.int (v0_2 p0 p1 p2 p3 p4 p5)), .val (.ref b1), .val (.ref b51), .val (.ref xta9_0_153)] [(.int (3 : Int32)), (.int (v0_2 p0 p1 p2 p3 p4 p5))])) _
                      refine XS.icmpNo X153.here hx rfl (hb hby at_301) rfl (XT.ii_le_f c91) ?_
                      show Steps p.tables e below (T153.setTop (mkF m 304 #[.val (.int p0), .val (.int p1), .val (.int p2), .val (.int p3), .val (.int p4), .val (.int p5), .val (.int (v0_2 p0 p1 p2 p3 p4 p5)), .val (.ref b1), .val (.ref b51), .val (.ref xta9_0_153)] [])) _
                      refine XS.aload X153.here hx rfl (hb hby at_304) rfl rfl ?_
                      show Steps p.tables e below (T153.setTop (mkF m 306 #[.val (.int p0), .val (.int p1), .val (.int p2), .val (.int p3), .val (.int p4), .val (.int p5), .val (.int (v0_2 p0 p1 p2 p3 p4 p5)), .val (.ref b1), .val (.ref b51), .val (.ref xta9_0_153)] [(.ref xta9_0_153)])) _
                      refine XT.iconstV X153.here hx rfl (3 : Int32) (hb hby at_306) (by decide) ?_
                      show Steps p.tables e below (T153.setTop (mkF m 307 #[.val (.int p0), .val (.int p1), .val (.int p2), .val (.int p3), .val (.int p4), .val (.int p5), .val (.int (v0_2 p0 p1 p2 p3 p4 p5)), .val (.ref b1), .val (.ref b51), .val (.ref xta9_0_153)] [(.int (3 : Int32)), (.ref xta9_0_153)])) _
                      refine X153.iaload hx (j := (3 : Int32)) (v := (.int p3)) Ar166.1 (State.isArrayOf_alike hZ.alike Ar166.2.1) Ar166.2.2 hin175 (Has.at Ha166 hin175 rfl) (g := (mkF m 307 #[.val (.int p0), .val (.int p1), .val (.int p2), .val (.int p3), .val (.int p4), .val (.int p5), .val (.int (v0_2 p0 p1 p2 p3 p4 p5)), .val (.ref b1), .val (.ref b51), .val (.ref xta9_0_153)] [(.int (3 : Int32)), (.ref xta9_0_153)])) rfl rfl (hb hby at_307) _ ?_
                      show Steps p.tables e below (T153.setTop (mkF m 308 #[.val (.int p0), .val (.int p1), .val (.int p2), .val (.int p3), .val (.int p4), .val (.int p5), .val (.int (v0_2 p0 p1 p2 p3 p4 p5)), .val (.ref b1), .val (.ref b51), .val (.ref xta9_0_153)] [(.int p3)])) _
                      refine XS.aload X153.here hx rfl (hb hby at_308) rfl rfl ?_
                      show Steps p.tables e below (T153.setTop (mkF m 310 #[.val (.int p0), .val (.int p1), .val (.int p2), .val (.int p3), .val (.int p4), .val (.int p5), .val (.int (v0_2 p0 p1 p2 p3 p4 p5)), .val (.ref b1), .val (.ref b51), .val (.ref xta9_0_153)] [(.ref b1), (.int p3)])) _
                      refine XT.iconstV X153.here hx rfl (3 : Int32) (hb hby at_310) (by decide) ?_
                      show Steps p.tables e below (T153.setTop (mkF m 311 #[.val (.int p0), .val (.int p1), .val (.int p2), .val (.int p3), .val (.int p4), .val (.int p5), .val (.int (v0_2 p0 p1 p2 p3 p4 p5)), .val (.ref b1), .val (.ref b51), .val (.ref xta9_0_153)] [(.int (3 : Int32)), (.ref b1), (.int p3)])) _
                      refine X153.iaload hx (j := (3 : Int32)) (v := (.int p3)) Ar169.1 (State.isArrayOf_alike hZ.alike Ar169.2.1) Ar169.2.2 hin176 (Has.at Ha169 hin176 rfl) (g := (mkF m 311 #[.val (.int p0), .val (.int p1), .val (.int p2), .val (.int p3), .val (.int p4), .val (.int p5), .val (.int (v0_2 p0 p1 p2 p3 p4 p5)), .val (.ref b1), .val (.ref b51), .val (.ref xta9_0_153)] [(.int (3 : Int32)), (.ref b1), (.int p3)])) rfl rfl (hb hby at_311) _ ?_
                      show Steps p.tables e below (T153.setTop (mkF m 312 #[.val (.int p0), .val (.int p1), .val (.int p2), .val (.int p3), .val (.int p4), .val (.int p5), .val (.int (v0_2 p0 p1 p2 p3 p4 p5)), .val (.ref b1), .val (.ref b51), .val (.ref xta9_0_153)] [(.int p3), (.int p3)])) _
                      refine XS.icmpYes X153.here hx rfl (pc0 := 312) (pc' := 317) rfl (hb hby at_312) rfl (XT.ii_eq_t (rfl : p3 = p3)) (by decide) (by decide) ?_
                      show Steps p.tables e below (T153.setTop (mkF m 317 #[.val (.int p0), .val (.int p1), .val (.int p2), .val (.int p3), .val (.int p4), .val (.int p5), .val (.int (v0_2 p0 p1 p2 p3 p4 p5)), .val (.ref b1), .val (.ref b51), .val (.ref xta9_0_153)] [])) _
                      refine XS.iload X153.here hx rfl (hb hby at_317) rfl ?_
                      show Steps p.tables e below (T153.setTop (mkF m 319 #[.val (.int p0), .val (.int p1), .val (.int p2), .val (.int p3), .val (.int p4), .val (.int p5), .val (.int (v0_2 p0 p1 p2 p3 p4 p5)), .val (.ref b1), .val (.ref b51), .val (.ref xta9_0_153)] [(.int (v0_2 p0 p1 p2 p3 p4 p5))])) _
                      refine XT.iconstV X153.here hx rfl (4 : Int32) (hb hby at_319) (by decide) ?_
                      show Steps p.tables e below (T153.setTop (mkF m 320 #[.val (.int p0), .val (.int p1), .val (.int p2), .val (.int p3), .val (.int p4), .val (.int p5), .val (.int (v0_2 p0 p1 p2 p3 p4 p5)), .val (.ref b1), .val (.ref b51), .val (.ref xta9_0_153)] [(.int (4 : Int32)), (.int (v0_2 p0 p1 p2 p3 p4 p5))])) _
                      refine XS.icmpNo X153.here hx rfl (hb hby at_320) rfl (XT.ii_le_f c99) ?_
                      show Steps p.tables e below (T153.setTop (mkF m 323 #[.val (.int p0), .val (.int p1), .val (.int p2), .val (.int p3), .val (.int p4), .val (.int p5), .val (.int (v0_2 p0 p1 p2 p3 p4 p5)), .val (.ref b1), .val (.ref b51), .val (.ref xta9_0_153)] [])) _
                      refine XS.aload X153.here hx rfl (hb hby at_323) rfl rfl ?_
                      show Steps p.tables e below (T153.setTop (mkF m 325 #[.val (.int p0), .val (.int p1), .val (.int p2), .val (.int p3), .val (.int p4), .val (.int p5), .val (.int (v0_2 p0 p1 p2 p3 p4 p5)), .val (.ref b1), .val (.ref b51), .val (.ref xta9_0_153)] [(.ref xta9_0_153)])) _
                      refine XT.iconstV X153.here hx rfl (4 : Int32) (hb hby at_325) (by decide) ?_
                      show Steps p.tables e below (T153.setTop (mkF m 326 #[.val (.int p0), .val (.int p1), .val (.int p2), .val (.int p3), .val (.int p4), .val (.int p5), .val (.int (v0_2 p0 p1 p2 p3 p4 p5)), .val (.ref b1), .val (.ref b51), .val (.ref xta9_0_153)] [(.int (4 : Int32)), (.ref xta9_0_153)])) _
                      refine X153.iaload hx (j := (4 : Int32)) (v := (.int p4)) Ar166.1 (State.isArrayOf_alike hZ.alike Ar166.2.1) Ar166.2.2 hin177 (Has.at Ha166 hin177 rfl) (g := (mkF m 326 #[.val (.int p0), .val (.int p1), .val (.int p2), .val (.int p3), .val (.int p4), .val (.int p5), .val (.int (v0_2 p0 p1 p2 p3 p4 p5)), .val (.ref b1), .val (.ref b51), .val (.ref xta9_0_153)] [(.int (4 : Int32)), (.ref xta9_0_153)])) rfl rfl (hb hby at_326) _ ?_
                      show Steps p.tables e below (T153.setTop (mkF m 327 #[.val (.int p0), .val (.int p1), .val (.int p2), .val (.int p3), .val (.int p4), .val (.int p5), .val (.int (v0_2 p0 p1 p2 p3 p4 p5)), .val (.ref b1), .val (.ref b51), .val (.ref xta9_0_153)] [(.int p4)])) _
                      refine XS.aload X153.here hx rfl (hb hby at_327) rfl rfl ?_
                      show Steps p.tables e below (T153.setTop (mkF m 329 #[.val (.int p0), .val (.int p1), .val (.int p2), .val (.int p3), .val (.int p4), .val (.int p5), .val (.int (v0_2 p0 p1 p2 p3 p4 p5)), .val (.ref b1), .val (.ref b51), .val (.ref xta9_0_153)] [(.ref b1), (.int p4)])) _
                      refine XT.iconstV X153.here hx rfl (4 : Int32) (hb hby at_329) (by decide) ?_
                      show Steps p.tables e below (T153.setTop (mkF m 330 #[.val (.int p0), .val (.int p1), .val (.int p2), .val (.int p3), .val (.int p4), .val (.int p5), .val (.int (v0_2 p0 p1 p2 p3 p4 p5)), .val (.ref b1), .val (.ref b51), .val (.ref xta9_0_153)] [(.int (4 : Int32)), (.ref b1), (.int p4)])) _
                      refine X153.iaload hx (j := (4 : Int32)) (v := (.int p4)) Ar169.1 (State.isArrayOf_alike hZ.alike Ar169.2.1) Ar169.2.2 hin178 (Has.at Ha169 hin178 rfl) (g := (mkF m 330 #[.val (.int p0), .val (.int p1), .val (.int p2), .val (.int p3), .val (.int p4), .val (.int p5), .val (.int (v0_2 p0 p1 p2 p3 p4 p5)), .val (.ref b1), .val (.ref b51), .val (.ref xta9_0_153)] [(.int (4 : Int32)), (.ref b1), (.int p4)])) rfl rfl (hb hby at_330) _ ?_
                      show Steps p.tables e below (T153.setTop (mkF m 331 #[.val (.int p0), .val (.int p1), .val (.int p2), .val (.int p3), .val (.int p4), .val (.int p5), .val (.int (v0_2 p0 p1 p2 p3 p4 p5)), .val (.ref b1), .val (.ref b51), .val (.ref xta9_0_153)] [(.int p4), (.int p4)])) _
                      refine XS.icmpYes X153.here hx rfl (pc0 := 331) (pc' := 336) rfl (hb hby at_331) rfl (XT.ii_eq_t (rfl : p4 = p4)) (by decide) (by decide) ?_
                      show Steps p.tables e below (T153.setTop (mkF m 336 #[.val (.int p0), .val (.int p1), .val (.int p2), .val (.int p3), .val (.int p4), .val (.int p5), .val (.int (v0_2 p0 p1 p2 p3 p4 p5)), .val (.ref b1), .val (.ref b51), .val (.ref xta9_0_153)] [])) _
                      refine XS.iload X153.here hx rfl (hb hby at_336) rfl ?_
                      show Steps p.tables e below (T153.setTop (mkF m 338 #[.val (.int p0), .val (.int p1), .val (.int p2), .val (.int p3), .val (.int p4), .val (.int p5), .val (.int (v0_2 p0 p1 p2 p3 p4 p5)), .val (.ref b1), .val (.ref b51), .val (.ref xta9_0_153)] [(.int (v0_2 p0 p1 p2 p3 p4 p5))])) _
                      refine XT.iconstV X153.here hx rfl (5 : Int32) (hb hby at_338) (by decide) ?_
                      show Steps p.tables e below (T153.setTop (mkF m 339 #[.val (.int p0), .val (.int p1), .val (.int p2), .val (.int p3), .val (.int p4), .val (.int p5), .val (.int (v0_2 p0 p1 p2 p3 p4 p5)), .val (.ref b1), .val (.ref b51), .val (.ref xta9_0_153)] [(.int (5 : Int32)), (.int (v0_2 p0 p1 p2 p3 p4 p5))])) _
                      refine XS.icmpNo X153.here hx rfl (hb hby at_339) rfl (XT.ii_le_f c113) ?_
                      show Steps p.tables e below (T153.setTop (mkF m 342 #[.val (.int p0), .val (.int p1), .val (.int p2), .val (.int p3), .val (.int p4), .val (.int p5), .val (.int (v0_2 p0 p1 p2 p3 p4 p5)), .val (.ref b1), .val (.ref b51), .val (.ref xta9_0_153)] [])) _
                      refine XS.aload X153.here hx rfl (hb hby at_342) rfl rfl ?_
                      show Steps p.tables e below (T153.setTop (mkF m 344 #[.val (.int p0), .val (.int p1), .val (.int p2), .val (.int p3), .val (.int p4), .val (.int p5), .val (.int (v0_2 p0 p1 p2 p3 p4 p5)), .val (.ref b1), .val (.ref b51), .val (.ref xta9_0_153)] [(.ref xta9_0_153)])) _
                      refine XT.iconstV X153.here hx rfl (5 : Int32) (hb hby at_344) (by decide) ?_
                      show Steps p.tables e below (T153.setTop (mkF m 345 #[.val (.int p0), .val (.int p1), .val (.int p2), .val (.int p3), .val (.int p4), .val (.int p5), .val (.int (v0_2 p0 p1 p2 p3 p4 p5)), .val (.ref b1), .val (.ref b51), .val (.ref xta9_0_153)] [(.int (5 : Int32)), (.ref xta9_0_153)])) _
                      refine X153.iaload hx (j := (5 : Int32)) (v := (.int (v0_3 p0 p1 p2 p3 p4 p5))) Ar166.1 (State.isArrayOf_alike hZ.alike Ar166.2.1) Ar166.2.2 hin179 (Has.at Ha166 hin179 rfl) (g := (mkF m 345 #[.val (.int p0), .val (.int p1), .val (.int p2), .val (.int p3), .val (.int p4), .val (.int p5), .val (.int (v0_2 p0 p1 p2 p3 p4 p5)), .val (.ref b1), .val (.ref b51), .val (.ref xta9_0_153)] [(.int (5 : Int32)), (.ref xta9_0_153)])) rfl rfl (hb hby at_345) _ ?_
                      show Steps p.tables e below (T153.setTop (mkF m 346 #[.val (.int p0), .val (.int p1), .val (.int p2), .val (.int p3), .val (.int p4), .val (.int p5), .val (.int (v0_2 p0 p1 p2 p3 p4 p5)), .val (.ref b1), .val (.ref b51), .val (.ref xta9_0_153)] [(.int (v0_3 p0 p1 p2 p3 p4 p5))])) _
                      refine XS.aload X153.here hx rfl (hb hby at_346) rfl rfl ?_
                      show Steps p.tables e below (T153.setTop (mkF m 348 #[.val (.int p0), .val (.int p1), .val (.int p2), .val (.int p3), .val (.int p4), .val (.int p5), .val (.int (v0_2 p0 p1 p2 p3 p4 p5)), .val (.ref b1), .val (.ref b51), .val (.ref xta9_0_153)] [(.ref b1), (.int (v0_3 p0 p1 p2 p3 p4 p5))])) _
                      refine XT.iconstV X153.here hx rfl (5 : Int32) (hb hby at_348) (by decide) ?_
                      show Steps p.tables e below (T153.setTop (mkF m 349 #[.val (.int p0), .val (.int p1), .val (.int p2), .val (.int p3), .val (.int p4), .val (.int p5), .val (.int (v0_2 p0 p1 p2 p3 p4 p5)), .val (.ref b1), .val (.ref b51), .val (.ref xta9_0_153)] [(.int (5 : Int32)), (.ref b1), (.int (v0_3 p0 p1 p2 p3 p4 p5))])) _
                      refine X153.iaload hx (j := (5 : Int32)) (v := (.int (v0_3 p0 p1 p2 p3 p4 p5))) Ar169.1 (State.isArrayOf_alike hZ.alike Ar169.2.1) Ar169.2.2 hin180 (Has.at Ha169 hin180 rfl) (g := (mkF m 349 #[.val (.int p0), .val (.int p1), .val (.int p2), .val (.int p3), .val (.int p4), .val (.int p5), .val (.int (v0_2 p0 p1 p2 p3 p4 p5)), .val (.ref b1), .val (.ref b51), .val (.ref xta9_0_153)] [(.int (5 : Int32)), (.ref b1), (.int (v0_3 p0 p1 p2 p3 p4 p5))])) rfl rfl (hb hby at_349) _ ?_
                      show Steps p.tables e below (T153.setTop (mkF m 350 #[.val (.int p0), .val (.int p1), .val (.int p2), .val (.int p3), .val (.int p4), .val (.int p5), .val (.int (v0_2 p0 p1 p2 p3 p4 p5)), .val (.ref b1), .val (.ref b51), .val (.ref xta9_0_153)] [(.int (v0_3 p0 p1 p2 p3 p4 p5)), (.int (v0_3 p0 p1 p2 p3 p4 p5))])) _
                      refine XS.icmpYes X153.here hx rfl (pc0 := 350) (pc' := 355) rfl (hb hby at_350) rfl (XT.ii_eq_t (rfl : (v0_3 p0 p1 p2 p3 p4 p5) = (v0_3 p0 p1 p2 p3 p4 p5))) (by decide) (by decide) ?_
                      show Steps p.tables e below (T153.setTop (mkF m 355 #[.val (.int p0), .val (.int p1), .val (.int p2), .val (.int p3), .val (.int p4), .val (.int p5), .val (.int (v0_2 p0 p1 p2 p3 p4 p5)), .val (.ref b1), .val (.ref b51), .val (.ref xta9_0_153)] [])) _
                      refine XS.iload X153.here hx rfl (hb hby at_355) rfl ?_
                      show Steps p.tables e below (T153.setTop (mkF m 357 #[.val (.int p0), .val (.int p1), .val (.int p2), .val (.int p3), .val (.int p4), .val (.int p5), .val (.int (v0_2 p0 p1 p2 p3 p4 p5)), .val (.ref b1), .val (.ref b51), .val (.ref xta9_0_153)] [(.int (v0_2 p0 p1 p2 p3 p4 p5))])) _
                      refine XT.bipushV X153.here hx rfl (6 : Int32) (hb hby at_357) (by decide) ?_
                      show Steps p.tables e below (T153.setTop (mkF m 359 #[.val (.int p0), .val (.int p1), .val (.int p2), .val (.int p3), .val (.int p4), .val (.int p5), .val (.int (v0_2 p0 p1 p2 p3 p4 p5)), .val (.ref b1), .val (.ref b51), .val (.ref xta9_0_153)] [(.int (6 : Int32)), (.int (v0_2 p0 p1 p2 p3 p4 p5))])) _
                      refine XS.icmpNo X153.here hx rfl (hb hby at_359) rfl (XT.ii_le_f c121) ?_
                      show Steps p.tables e below (T153.setTop (mkF m 362 #[.val (.int p0), .val (.int p1), .val (.int p2), .val (.int p3), .val (.int p4), .val (.int p5), .val (.int (v0_2 p0 p1 p2 p3 p4 p5)), .val (.ref b1), .val (.ref b51), .val (.ref xta9_0_153)] [])) _
                      refine XS.aload X153.here hx rfl (hb hby at_362) rfl rfl ?_
                      show Steps p.tables e below (T153.setTop (mkF m 364 #[.val (.int p0), .val (.int p1), .val (.int p2), .val (.int p3), .val (.int p4), .val (.int p5), .val (.int (v0_2 p0 p1 p2 p3 p4 p5)), .val (.ref b1), .val (.ref b51), .val (.ref xta9_0_153)] [(.ref xta9_0_153)])) _
                      refine XT.bipushV X153.here hx rfl (6 : Int32) (hb hby at_364) (by decide) ?_
                      show Steps p.tables e below (T153.setTop (mkF m 366 #[.val (.int p0), .val (.int p1), .val (.int p2), .val (.int p3), .val (.int p4), .val (.int p5), .val (.int (v0_2 p0 p1 p2 p3 p4 p5)), .val (.ref b1), .val (.ref b51), .val (.ref xta9_0_153)] [(.int (6 : Int32)), (.ref xta9_0_153)])) _
                      refine X153.iaload hx (j := (6 : Int32)) (v := (.int (v0_4 p0 p1 p2 p3 p4 p5))) Ar166.1 (State.isArrayOf_alike hZ.alike Ar166.2.1) Ar166.2.2 hin181 (Has.at Ha166 hin181 rfl) (g := (mkF m 366 #[.val (.int p0), .val (.int p1), .val (.int p2), .val (.int p3), .val (.int p4), .val (.int p5), .val (.int (v0_2 p0 p1 p2 p3 p4 p5)), .val (.ref b1), .val (.ref b51), .val (.ref xta9_0_153)] [(.int (6 : Int32)), (.ref xta9_0_153)])) rfl rfl (hb hby at_366) _ ?_
                      show Steps p.tables e below (T153.setTop (mkF m 367 #[.val (.int p0), .val (.int p1), .val (.int p2), .val (.int p3), .val (.int p4), .val (.int p5), .val (.int (v0_2 p0 p1 p2 p3 p4 p5)), .val (.ref b1), .val (.ref b51), .val (.ref xta9_0_153)] [(.int (v0_4 p0 p1 p2 p3 p4 p5))])) _
                      refine XS.aload X153.here hx rfl (hb hby at_367) rfl rfl ?_
                      show Steps p.tables e below (T153.setTop (mkF m 369 #[.val (.int p0), .val (.int p1), .val (.int p2), .val (.int p3), .val (.int p4), .val (.int p5), .val (.int (v0_2 p0 p1 p2 p3 p4 p5)), .val (.ref b1), .val (.ref b51), .val (.ref xta9_0_153)] [(.ref b1), (.int (v0_4 p0 p1 p2 p3 p4 p5))])) _
                      refine XT.bipushV X153.here hx rfl (6 : Int32) (hb hby at_369) (by decide) ?_
                      show Steps p.tables e below (T153.setTop (mkF m 371 #[.val (.int p0), .val (.int p1), .val (.int p2), .val (.int p3), .val (.int p4), .val (.int p5), .val (.int (v0_2 p0 p1 p2 p3 p4 p5)), .val (.ref b1), .val (.ref b51), .val (.ref xta9_0_153)] [(.int (6 : Int32)), (.ref b1), (.int (v0_4 p0 p1 p2 p3 p4 p5))])) _
                      refine X153.iaload hx (j := (6 : Int32)) (v := (.int (v0_4 p0 p1 p2 p3 p4 p5))) Ar169.1 (State.isArrayOf_alike hZ.alike Ar169.2.1) Ar169.2.2 hin182 (Has.at Ha169 hin182 rfl) (g := (mkF m 371 #[.val (.int p0), .val (.int p1), .val (.int p2), .val (.int p3), .val (.int p4), .val (.int p5), .val (.int (v0_2 p0 p1 p2 p3 p4 p5)), .val (.ref b1), .val (.ref b51), .val (.ref xta9_0_153)] [(.int (6 : Int32)), (.ref b1), (.int (v0_4 p0 p1 p2 p3 p4 p5))])) rfl rfl (hb hby at_371) _ ?_
                      show Steps p.tables e below (T153.setTop (mkF m 372 #[.val (.int p0), .val (.int p1), .val (.int p2), .val (.int p3), .val (.int p4), .val (.int p5), .val (.int (v0_2 p0 p1 p2 p3 p4 p5)), .val (.ref b1), .val (.ref b51), .val (.ref xta9_0_153)] [(.int (v0_4 p0 p1 p2 p3 p4 p5)), (.int (v0_4 p0 p1 p2 p3 p4 p5))])) _
                      refine XS.icmpYes X153.here hx rfl (pc0 := 372) (pc' := 377) rfl (hb hby at_372) rfl (XT.ii_eq_t (rfl : (v0_4 p0 p1 p2 p3 p4 p5) = (v0_4 p0 p1 p2 p3 p4 p5))) (by decide) (by decide) ?_
                      show Steps p.tables e below (T153.setTop (mkF m 377 #[.val (.int p0), .val (.int p1), .val (.int p2), .val (.int p3), .val (.int p4), .val (.int p5), .val (.int (v0_2 p0 p1 p2 p3 p4 p5)), .val (.ref b1), .val (.ref b51), .val (.ref xta9_0_153)] [])) _
                      refine XS.iload X153.here hx rfl (hb hby at_377) rfl ?_
                      show Steps p.tables e below (T153.setTop (mkF m 379 #[.val (.int p0), .val (.int p1), .val (.int p2), .val (.int p3), .val (.int p4), .val (.int p5), .val (.int (v0_2 p0 p1 p2 p3 p4 p5)), .val (.ref b1), .val (.ref b51), .val (.ref xta9_0_153)] [(.int (v0_2 p0 p1 p2 p3 p4 p5))])) _
                      refine XT.bipushV X153.here hx rfl (7 : Int32) (hb hby at_379) (by decide) ?_
                      show Steps p.tables e below (T153.setTop (mkF m 381 #[.val (.int p0), .val (.int p1), .val (.int p2), .val (.int p3), .val (.int p4), .val (.int p5), .val (.int (v0_2 p0 p1 p2 p3 p4 p5)), .val (.ref b1), .val (.ref b51), .val (.ref xta9_0_153)] [(.int (7 : Int32)), (.int (v0_2 p0 p1 p2 p3 p4 p5))])) _
                      refine XS.icmpNo X153.here hx rfl (hb hby at_381) rfl (XT.ii_le_f c129) ?_
                      show Steps p.tables e below (T153.setTop (mkF m 384 #[.val (.int p0), .val (.int p1), .val (.int p2), .val (.int p3), .val (.int p4), .val (.int p5), .val (.int (v0_2 p0 p1 p2 p3 p4 p5)), .val (.ref b1), .val (.ref b51), .val (.ref xta9_0_153)] [])) _
                      refine XS.aload X153.here hx rfl (hb hby at_384) rfl rfl ?_
                      show Steps p.tables e below (T153.setTop (mkF m 386 #[.val (.int p0), .val (.int p1), .val (.int p2), .val (.int p3), .val (.int p4), .val (.int p5), .val (.int (v0_2 p0 p1 p2 p3 p4 p5)), .val (.ref b1), .val (.ref b51), .val (.ref xta9_0_153)] [(.ref xta9_0_153)])) _
                      refine XT.bipushV X153.here hx rfl (7 : Int32) (hb hby at_386) (by decide) ?_
                      show Steps p.tables e below (T153.setTop (mkF m 388 #[.val (.int p0), .val (.int p1), .val (.int p2), .val (.int p3), .val (.int p4), .val (.int p5), .val (.int (v0_2 p0 p1 p2 p3 p4 p5)), .val (.ref b1), .val (.ref b51), .val (.ref xta9_0_153)] [(.int (7 : Int32)), (.ref xta9_0_153)])) _
                      refine X153.iaload hx (j := (7 : Int32)) (v := (.int (v0_5 p0 p1 p2 p3 p4 p5))) Ar166.1 (State.isArrayOf_alike hZ.alike Ar166.2.1) Ar166.2.2 hin183 (Has.at Ha166 hin183 rfl) (g := (mkF m 388 #[.val (.int p0), .val (.int p1), .val (.int p2), .val (.int p3), .val (.int p4), .val (.int p5), .val (.int (v0_2 p0 p1 p2 p3 p4 p5)), .val (.ref b1), .val (.ref b51), .val (.ref xta9_0_153)] [(.int (7 : Int32)), (.ref xta9_0_153)])) rfl rfl (hb hby at_388) _ ?_
                      show Steps p.tables e below (T153.setTop (mkF m 389 #[.val (.int p0), .val (.int p1), .val (.int p2), .val (.int p3), .val (.int p4), .val (.int p5), .val (.int (v0_2 p0 p1 p2 p3 p4 p5)), .val (.ref b1), .val (.ref b51), .val (.ref xta9_0_153)] [(.int (v0_5 p0 p1 p2 p3 p4 p5))])) _
                      refine XS.aload X153.here hx rfl (hb hby at_389) rfl rfl ?_
                      show Steps p.tables e below (T153.setTop (mkF m 391 #[.val (.int p0), .val (.int p1), .val (.int p2), .val (.int p3), .val (.int p4), .val (.int p5), .val (.int (v0_2 p0 p1 p2 p3 p4 p5)), .val (.ref b1), .val (.ref b51), .val (.ref xta9_0_153)] [(.ref b1), (.int (v0_5 p0 p1 p2 p3 p4 p5))])) _
                      refine XT.bipushV X153.here hx rfl (7 : Int32) (hb hby at_391) (by decide) ?_
                      show Steps p.tables e below (T153.setTop (mkF m 393 #[.val (.int p0), .val (.int p1), .val (.int p2), .val (.int p3), .val (.int p4), .val (.int p5), .val (.int (v0_2 p0 p1 p2 p3 p4 p5)), .val (.ref b1), .val (.ref b51), .val (.ref xta9_0_153)] [(.int (7 : Int32)), (.ref b1), (.int (v0_5 p0 p1 p2 p3 p4 p5))])) _
                      refine X153.iaload hx (j := (7 : Int32)) (v := (.int (v0_5 p0 p1 p2 p3 p4 p5))) Ar169.1 (State.isArrayOf_alike hZ.alike Ar169.2.1) Ar169.2.2 hin184 (Has.at Ha169 hin184 rfl) (g := (mkF m 393 #[.val (.int p0), .val (.int p1), .val (.int p2), .val (.int p3), .val (.int p4), .val (.int p5), .val (.int (v0_2 p0 p1 p2 p3 p4 p5)), .val (.ref b1), .val (.ref b51), .val (.ref xta9_0_153)] [(.int (7 : Int32)), (.ref b1), (.int (v0_5 p0 p1 p2 p3 p4 p5))])) rfl rfl (hb hby at_393) _ ?_
                      show Steps p.tables e below (T153.setTop (mkF m 394 #[.val (.int p0), .val (.int p1), .val (.int p2), .val (.int p3), .val (.int p4), .val (.int p5), .val (.int (v0_2 p0 p1 p2 p3 p4 p5)), .val (.ref b1), .val (.ref b51), .val (.ref xta9_0_153)] [(.int (v0_5 p0 p1 p2 p3 p4 p5)), (.int (v0_5 p0 p1 p2 p3 p4 p5))])) _
                      refine XS.icmpYes X153.here hx rfl (pc0 := 394) (pc' := 399) rfl (hb hby at_394) rfl (XT.ii_eq_t (rfl : (v0_5 p0 p1 p2 p3 p4 p5) = (v0_5 p0 p1 p2 p3 p4 p5))) (by decide) (by decide) ?_
                      show Steps p.tables e below (T153.setTop (mkF m 399 #[.val (.int p0), .val (.int p1), .val (.int p2), .val (.int p3), .val (.int p4), .val (.int p5), .val (.int (v0_2 p0 p1 p2 p3 p4 p5)), .val (.ref b1), .val (.ref b51), .val (.ref xta9_0_153)] [])) _
                      refine XS.iload X153.here hx rfl (hb hby at_399) rfl ?_
                      show Steps p.tables e below (T153.setTop (mkF m 401 #[.val (.int p0), .val (.int p1), .val (.int p2), .val (.int p3), .val (.int p4), .val (.int p5), .val (.int (v0_2 p0 p1 p2 p3 p4 p5)), .val (.ref b1), .val (.ref b51), .val (.ref xta9_0_153)] [(.int (v0_2 p0 p1 p2 p3 p4 p5))])) _
                      refine XT.bipushV X153.here hx rfl (8 : Int32) (hb hby at_401) (by decide) ?_
                      show Steps p.tables e below (T153.setTop (mkF m 403 #[.val (.int p0), .val (.int p1), .val (.int p2), .val (.int p3), .val (.int p4), .val (.int p5), .val (.int (v0_2 p0 p1 p2 p3 p4 p5)), .val (.ref b1), .val (.ref b51), .val (.ref xta9_0_153)] [(.int (8 : Int32)), (.int (v0_2 p0 p1 p2 p3 p4 p5))])) _
                      refine XS.icmpNo X153.here hx rfl (hb hby at_403) rfl (XT.ii_le_f c137) ?_
                      show Steps p.tables e below (T153.setTop (mkF m 406 #[.val (.int p0), .val (.int p1), .val (.int p2), .val (.int p3), .val (.int p4), .val (.int p5), .val (.int (v0_2 p0 p1 p2 p3 p4 p5)), .val (.ref b1), .val (.ref b51), .val (.ref xta9_0_153)] [])) _
                      refine XS.aload X153.here hx rfl (hb hby at_406) rfl rfl ?_
                      show Steps p.tables e below (T153.setTop (mkF m 408 #[.val (.int p0), .val (.int p1), .val (.int p2), .val (.int p3), .val (.int p4), .val (.int p5), .val (.int (v0_2 p0 p1 p2 p3 p4 p5)), .val (.ref b1), .val (.ref b51), .val (.ref xta9_0_153)] [(.ref xta9_0_153)])) _
                      refine XT.bipushV X153.here hx rfl (8 : Int32) (hb hby at_408) (by decide) ?_
                      show Steps p.tables e below (T153.setTop (mkF m 410 #[.val (.int p0), .val (.int p1), .val (.int p2), .val (.int p3), .val (.int p4), .val (.int p5), .val (.int (v0_2 p0 p1 p2 p3 p4 p5)), .val (.ref b1), .val (.ref b51), .val (.ref xta9_0_153)] [(.int (8 : Int32)), (.ref xta9_0_153)])) _
                      refine X153.iaload hx (j := (8 : Int32)) (v := (.int (v0_6 p0 p1 p2 p3 p4 p5))) Ar166.1 (State.isArrayOf_alike hZ.alike Ar166.2.1) Ar166.2.2 hin185 (Has.at Ha166 hin185 rfl) (g := (mkF m 410 #[.val (.int p0), .val (.int p1), .val (.int p2), .val (.int p3), .val (.int p4), .val (.int p5), .val (.int (v0_2 p0 p1 p2 p3 p4 p5)), .val (.ref b1), .val (.ref b51), .val (.ref xta9_0_153)] [(.int (8 : Int32)), (.ref xta9_0_153)])) rfl rfl (hb hby at_410) _ ?_
                      show Steps p.tables e below (T153.setTop (mkF m 411 #[.val (.int p0), .val (.int p1), .val (.int p2), .val (.int p3), .val (.int p4), .val (.int p5), .val (.int (v0_2 p0 p1 p2 p3 p4 p5)), .val (.ref b1), .val (.ref b51), .val (.ref xta9_0_153)] [(.int (v0_6 p0 p1 p2 p3 p4 p5))])) _
                      refine XS.aload X153.here hx rfl (hb hby at_411) rfl rfl ?_
                      show Steps p.tables e below (T153.setTop (mkF m 413 #[.val (.int p0), .val (.int p1), .val (.int p2), .val (.int p3), .val (.int p4), .val (.int p5), .val (.int (v0_2 p0 p1 p2 p3 p4 p5)), .val (.ref b1), .val (.ref b51), .val (.ref xta9_0_153)] [(.ref b1), (.int (v0_6 p0 p1 p2 p3 p4 p5))])) _
                      refine XT.bipushV X153.here hx rfl (8 : Int32) (hb hby at_413) (by decide) ?_
                      show Steps p.tables e below (T153.setTop (mkF m 415 #[.val (.int p0), .val (.int p1), .val (.int p2), .val (.int p3), .val (.int p4), .val (.int p5), .val (.int (v0_2 p0 p1 p2 p3 p4 p5)), .val (.ref b1), .val (.ref b51), .val (.ref xta9_0_153)] [(.int (8 : Int32)), (.ref b1), (.int (v0_6 p0 p1 p2 p3 p4 p5))])) _
                      refine X153.iaload hx (j := (8 : Int32)) (v := (.int (v0_6 p0 p1 p2 p3 p4 p5))) Ar169.1 (State.isArrayOf_alike hZ.alike Ar169.2.1) Ar169.2.2 hin186 (Has.at Ha169 hin186 rfl) (g := (mkF m 415 #[.val (.int p0), .val (.int p1), .val (.int p2), .val (.int p3), .val (.int p4), .val (.int p5), .val (.int (v0_2 p0 p1 p2 p3 p4 p5)), .val (.ref b1), .val (.ref b51), .val (.ref xta9_0_153)] [(.int (8 : Int32)), (.ref b1), (.int (v0_6 p0 p1 p2 p3 p4 p5))])) rfl rfl (hb hby at_415) _ ?_
                      show Steps p.tables e below (T153.setTop (mkF m 416 #[.val (.int p0), .val (.int p1), .val (.int p2), .val (.int p3), .val (.int p4), .val (.int p5), .val (.int (v0_2 p0 p1 p2 p3 p4 p5)), .val (.ref b1), .val (.ref b51), .val (.ref xta9_0_153)] [(.int (v0_6 p0 p1 p2 p3 p4 p5)), (.int (v0_6 p0 p1 p2 p3 p4 p5))])) _
                      refine XS.icmpYes X153.here hx rfl (pc0 := 416) (pc' := 421) rfl (hb hby at_416) rfl (XT.ii_eq_t (rfl : (v0_6 p0 p1 p2 p3 p4 p5) = (v0_6 p0 p1 p2 p3 p4 p5))) (by decide) (by decide) ?_
                      show Steps p.tables e below (T153.setTop (mkF m 421 #[.val (.int p0), .val (.int p1), .val (.int p2), .val (.int p3), .val (.int p4), .val (.int p5), .val (.int (v0_2 p0 p1 p2 p3 p4 p5)), .val (.ref b1), .val (.ref b51), .val (.ref xta9_0_153)] [])) _
                      refine XT.iconstV X153.here hx rfl (1 : Int32) (hb hby at_421) (by decide) ?_
                      show Steps p.tables e below (T153.setTop (mkF m 422 #[.val (.int p0), .val (.int p1), .val (.int p2), .val (.int p3), .val (.int p4), .val (.int p5), .val (.int (v0_2 p0 p1 p2 p3 p4 p5)), .val (.ref b1), .val (.ref b51), .val (.ref xta9_0_153)] [(.int (1 : Int32))])) _
                      exact retN X153 hx (t := .boolean) Bd.returns (by simp) (hb hby at_422) hr
                    · skip
                      show Q0 Z p0 p1 p2 p3 p4 p5 h0 n0 _ T153.heap _
                      exact ⟨rfl, N153⟩
                  · skip
                    obtain ⟨cq187, kq187, q187a, q187b, q187c⟩ := isOf hZ rfl po133_0
                    obtain ⟨vr187, _, ⟨T187, L187, k187, n187⟩, -, X187, ⟨Lc187, hQ187, l187, y187, z187⟩, st187⟩ := X133.virtualBack hx (y := (⟨"com/example/vellum_index/vellumindex/IntList", "size", "()I"⟩ : MethodName)) (z := (⟨"com/example/vellum_index/vellumindex/IntList", "size", "()I"⟩ : MethodName)) hown (mvT hZ (hw _ (List.mem_of_getElem? (i := 20) rfl))) (mvT hZ (hw _ (List.mem_of_getElem? (i := 21) rfl))) (notFace_of_selects (args := #[]) (mvT hZ (hw _ (List.mem_of_getElem? (i := 23) rfl)))) (mvT hZ (hw _ (List.mem_of_getElem? (i := 23) rfl))) (mvT hZ (hw _ (List.mem_of_getElem? (i := 22) rfl))) (by decide) (backOf (W := 0) (rm4 l Z a0 hw [] b51 (8 : Int32) T133.heap n0 z134 po133_1) hZ (hw _ (List.mem_of_getElem? (i := 24) rfl)) (hw _ (List.mem_of_getElem? (i := 4) rfl)) (by decide) (by decide)) q187a q187c (g := (mkF m 215 #[.val (.int p0), .val (.int p1), .val (.int p2), .val (.int p3), .val (.int p4), .val (.int p5), .val (.int (v0_2 p0 p1 p2 p3 p4 p5)), .val (.ref b1), .val (.ref b51), .unset] [(.ref b51)])) rfl (by rw [hml]; rfl) (Steps.refl _) (argsL := []) (rest := []) (lenOf pd___I rfl) rfl (by show 2 * 0 + _ ≤ _; exact Nat.le_of_eq rfl) (hb hby at_215) (fun _ _ => ⟨rfl, rfl, (by decide : 4 + 0 ≤ _), (by decide : 23 + 0 ≤ _)⟩)
                    dsimp only [Pt.U, Pt.locs, Pt.cells, Pt.slots] at X187 l187 y187 z187 st187 hQ187
                    subst l187 y187 z187
                    have N187q := (show _ ∧ _ ∧ _ from hQ187).1
                    have hv187 := (show _ ∧ _ ∧ _ from hQ187).2.1
                    have e187 := (show _ ∧ _ ∧ _ from hQ187).2.2
                    clear hQ187
                    subst hv187
                    have N187 := Fr.app N133 N187q
                    obtain ⟨cq188, kq188, q188a, q188b, q188c⟩ := isOf hZ e187 po133_0
                    obtain ⟨vr188, _, ⟨T188, L188, k188, n188⟩, -, X188, ⟨Lc188, hQ188, l188, y188, z188⟩, st188⟩ := X187.virtualBack hx (y := (⟨"com/example/vellum_index/vellumindex/IntList", "toArray", "()[I"⟩ : MethodName)) (z := (⟨"com/example/vellum_index/vellumindex/IntList", "toArray", "()[I"⟩ : MethodName)) hown (mvT hZ (hw _ (List.mem_of_getElem? (i := 25) rfl))) (mvT hZ (hw _ (List.mem_of_getElem? (i := 26) rfl))) (notFace_of_selects (args := #[]) (mvT hZ (hw _ (List.mem_of_getElem? (i := 28) rfl)))) (mvT hZ (hw _ (List.mem_of_getElem? (i := 28) rfl))) (mvT hZ (hw _ (List.mem_of_getElem? (i := 27) rfl))) (by decide) (backOf (W := 0) (rmta8 l Z a0 hw [] b51 xadd4_0_103 p0 p1 p2 p3 p4 (v0_3 p0 p1 p2 p3 p4 p5) (v0_4 p0 p1 p2 p3 p4 p5) (v0_5 p0 p1 p2 p3 p4 p5) kadd4_1_103 T133.heap n0 z134 po133_0 po133_1 po133_2 po133_3 po133_4) hZ (hw _ (List.mem_of_getElem? (i := 29) rfl)) (hw _ (List.mem_of_getElem? (i := 4) rfl)) (by decide) (by decide)) q188a q188c (g := (mkF m 227 #[.val (.int p0), .val (.int p1), .val (.int p2), .val (.int p3), .val (.int p4), .val (.int p5), .val (.int (v0_2 p0 p1 p2 p3 p4 p5)), .val (.ref b1), .val (.ref b51), .unset] [(.ref b51)])) rfl (by rw [hml]; rfl) (Steps.refl _) (argsL := []) (rest := []) (lenOf pd____I rfl) rfl (by show 2 * 0 + _ ≤ _; exact Nat.le_of_eq rfl) (hb hby at_227) (fun _ _ => ⟨rfl, e187, (by decide : 4 + 1 ≤ _), (by decide : 23 + 8 ≤ _)⟩)
                    dsimp only [Pt.U, Pt.locs, Pt.cells, Pt.slots] at X188 l188 y188 z188 st188 hQ188
                    subst l188 y188 z188
                    have N188q := (show _ ∧ _ from hQ188).1
                    have hq188 := (show _ ∧ _ from hQ188).2
                    clear hQ188
                    obtain ⟨xta8_0_188, hq188x⟩ := hq188
                    have hv188 := hq188x.1
                    have szxta8_0_188 := hq188x.2.1
                    have K188 := hq188x.2.2.1
                    have po188_0 := hq188x.2.2.2.1
                    have po188_1 := hq188x.2.2.2.2
                    clear hq188x
                    subst hv188
                    have k189 := ((((k104.keep K103).keep K117).keep K125).keep K133)
                    have ne190 : b1 ≠ xta8_0_188 := Nat.ne_of_lt (Nat.lt_of_lt_of_le k189.lt szxta8_0_188)
                    have ne191 : b51 ≠ xta8_0_188 := Nat.ne_of_lt (Nat.lt_of_lt_of_le po133_0.lt szxta8_0_188)
                    have k192 := ((((po95_3.keep K103).keep K117).keep K125).keep K133)
                    have ne193 : x1_0_58 ≠ xta8_0_188 := Nat.ne_of_lt (Nat.lt_of_lt_of_le k192.lt szxta8_0_188)
                    have ne194 : xadd4_0_103 ≠ xta8_0_188 := Nat.ne_of_lt (Nat.lt_of_lt_of_le po133_3.lt szxta8_0_188)
                    have g195 : n0 ≤ xta8_0_188 := Nat.le_trans z134 szxta8_0_188
                    have sz196 : h0.size ≤ xta8_0_188 := Nat.le_trans hs135 szxta8_0_188
                    have z197 : n0 ≤ T188.heap.size := Nat.le_trans z134 K188.1
                    have hs198 : h0.size ≤ T188.heap.size := Nat.le_trans hs135 K188.1
                    have N188 := Fr.app N187 N188q
                    obtain ⟨cl199, Ar199, qc199, S199, M199, Ha199, G199⟩ := id po188_1
                    have hin200 : ¬ ((0 : Int32) < 0 ∨ cl199.slots.size ≤ ((0 : Int32)).toNatClampNeg) := inb_of S199 ⟨by decide, by decide⟩
                    have k201 := ((k130.keep K133 (ninS ne53 (ninS ne105 nin0))).keep K188 nin0)
                    obtain ⟨cl202, Ar202, qc202, S202, M202, Ha202, G202⟩ := id k201
                    have hin203 : ¬ ((0 : Int32) < 0 ∨ cl202.slots.size ≤ ((0 : Int32)).toNatClampNeg) := inb_of S202 ⟨by decide, by decide⟩
                    have hin204 : ¬ ((1 : Int32) < 0 ∨ cl199.slots.size ≤ ((1 : Int32)).toNatClampNeg) := inb_of S199 ⟨by decide, by decide⟩
                    have hin205 : ¬ ((1 : Int32) < 0 ∨ cl202.slots.size ≤ ((1 : Int32)).toNatClampNeg) := inb_of S202 ⟨by decide, by decide⟩
                    have hin206 : ¬ ((2 : Int32) < 0 ∨ cl199.slots.size ≤ ((2 : Int32)).toNatClampNeg) := inb_of S199 ⟨by decide, by decide⟩
                    have hin207 : ¬ ((2 : Int32) < 0 ∨ cl202.slots.size ≤ ((2 : Int32)).toNatClampNeg) := inb_of S202 ⟨by decide, by decide⟩
                    have hin208 : ¬ ((3 : Int32) < 0 ∨ cl199.slots.size ≤ ((3 : Int32)).toNatClampNeg) := inb_of S199 ⟨by decide, by decide⟩
                    have hin209 : ¬ ((3 : Int32) < 0 ∨ cl202.slots.size ≤ ((3 : Int32)).toNatClampNeg) := inb_of S202 ⟨by decide, by decide⟩
                    have hin210 : ¬ ((4 : Int32) < 0 ∨ cl199.slots.size ≤ ((4 : Int32)).toNatClampNeg) := inb_of S199 ⟨by decide, by decide⟩
                    have hin211 : ¬ ((4 : Int32) < 0 ∨ cl202.slots.size ≤ ((4 : Int32)).toNatClampNeg) := inb_of S202 ⟨by decide, by decide⟩
                    have hin212 : ¬ ((5 : Int32) < 0 ∨ cl199.slots.size ≤ ((5 : Int32)).toNatClampNeg) := inb_of S199 ⟨by decide, by decide⟩
                    have hin213 : ¬ ((5 : Int32) < 0 ∨ cl202.slots.size ≤ ((5 : Int32)).toNatClampNeg) := inb_of S202 ⟨by decide, by decide⟩
                    have hin214 : ¬ ((6 : Int32) < 0 ∨ cl199.slots.size ≤ ((6 : Int32)).toNatClampNeg) := inb_of S199 ⟨by decide, by decide⟩
                    have hin215 : ¬ ((6 : Int32) < 0 ∨ cl202.slots.size ≤ ((6 : Int32)).toNatClampNeg) := inb_of S202 ⟨by decide, by decide⟩
                    have hin216 : ¬ ((7 : Int32) < 0 ∨ cl199.slots.size ≤ ((7 : Int32)).toNatClampNeg) := inb_of S199 ⟨by decide, by decide⟩
                    have hin217 : ¬ ((7 : Int32) < 0 ∨ cl202.slots.size ≤ ((7 : Int32)).toNatClampNeg) := inb_of S202 ⟨by decide, by decide⟩
                    obtain ⟨fs, hr, hrun, hended, hW, hsame⟩ := X188.leave (v := some (.int (1 : Int32))) (fun h => by rw [Bd.returns] at h; cases h) hlk
                    refine ⟨_, _, pre136 _ ?_, hrun, hended, _, _, rfl, ?_, ⟨_, rfl⟩, hW, hsame.mono (by decide) (by decide)⟩
                    · skip
                      show Steps p.tables e below (T133.setTop (mkF m 200 #[.val (.int p0), .val (.int p1), .val (.int p2), .val (.int p3), .val (.int p4), .val (.int p5), .val (.int (v0_2 p0 p1 p2 p3 p4 p5)), .val (.ref b1), .val (.ref b51), .unset] [(.int (8 : Int32)), (.int (v0_2 p0 p1 p2 p3 p4 p5))])) _
                      refine XS.icmpYes X133.here hx rfl (pc0 := 200) (pc' := 213) rfl (hb hby at_200) rfl (XT.ii_le_t c137) (by decide) (by decide) ?_
                      show Steps p.tables e below (T133.setTop (mkF m 213 #[.val (.int p0), .val (.int p1), .val (.int p2), .val (.int p3), .val (.int p4), .val (.int p5), .val (.int (v0_2 p0 p1 p2 p3 p4 p5)), .val (.ref b1), .val (.ref b51), .unset] [])) _
                      refine XS.aload X133.here hx rfl (hb hby at_213) rfl rfl ?_
                      show Steps p.tables e below (T133.setTop (mkF m 215 #[.val (.int p0), .val (.int p1), .val (.int p2), .val (.int p3), .val (.int p4), .val (.int p5), .val (.int (v0_2 p0 p1 p2 p3 p4 p5)), .val (.ref b1), .val (.ref b51), .unset] [(.ref b51)])) _
                      refine st187.trans ?_
                      show Steps p.tables e below (T187.setTop (mkF m 218 #[.val (.int p0), .val (.int p1), .val (.int p2), .val (.int p3), .val (.int p4), .val (.int p5), .val (.int (v0_2 p0 p1 p2 p3 p4 p5)), .val (.ref b1), .val (.ref b51), .unset] [(.int (f4 (8 : Int32)))])) _
                      refine XS.iload X187.here hx rfl (hb hby at_218) rfl ?_
                      show Steps p.tables e below (T187.setTop (mkF m 220 #[.val (.int p0), .val (.int p1), .val (.int p2), .val (.int p3), .val (.int p4), .val (.int p5), .val (.int (v0_2 p0 p1 p2 p3 p4 p5)), .val (.ref b1), .val (.ref b51), .unset] [(.int (v0_2 p0 p1 p2 p3 p4 p5)), (.int (f4 (8 : Int32)))])) _
                      refine XS.icmpYes X187.here hx rfl (pc0 := 220) (pc' := 225) rfl (hb hby at_220) rfl (XT.ii_eq_t ((own_eqn c129 c137 (by decide))).symm) (by decide) (by decide) ?_
                      show Steps p.tables e below (T187.setTop (mkF m 225 #[.val (.int p0), .val (.int p1), .val (.int p2), .val (.int p3), .val (.int p4), .val (.int p5), .val (.int (v0_2 p0 p1 p2 p3 p4 p5)), .val (.ref b1), .val (.ref b51), .unset] [])) _
                      refine XS.aload X187.here hx rfl (hb hby at_225) rfl rfl ?_
                      show Steps p.tables e below (T187.setTop (mkF m 227 #[.val (.int p0), .val (.int p1), .val (.int p2), .val (.int p3), .val (.int p4), .val (.int p5), .val (.int (v0_2 p0 p1 p2 p3 p4 p5)), .val (.ref b1), .val (.ref b51), .unset] [(.ref b51)])) _
                      refine st188.trans ?_
                      show Steps p.tables e below (T188.setTop (mkF m 230 #[.val (.int p0), .val (.int p1), .val (.int p2), .val (.int p3), .val (.int p4), .val (.int p5), .val (.int (v0_2 p0 p1 p2 p3 p4 p5)), .val (.ref b1), .val (.ref b51), .unset] [(.ref xta8_0_188)])) _
                      refine XS.astore X188.here hx rfl (hb hby at_230) rfl rfl (l' := #[.val (.int p0), .val (.int p1), .val (.int p2), .val (.int p3), .val (.int p4), .val (.int p5), .val (.int (v0_2 p0 p1 p2 p3 p4 p5)), .val (.ref b1), .val (.ref b51), .val (.ref xta8_0_188)]) rfl ?_
                      show Steps p.tables e below (T188.setTop (mkF m 232 #[.val (.int p0), .val (.int p1), .val (.int p2), .val (.int p3), .val (.int p4), .val (.int p5), .val (.int (v0_2 p0 p1 p2 p3 p4 p5)), .val (.ref b1), .val (.ref b51), .val (.ref xta8_0_188)] [])) _
                      refine XS.aload X188.here hx rfl (hb hby at_232) rfl rfl ?_
                      show Steps p.tables e below (T188.setTop (mkF m 234 #[.val (.int p0), .val (.int p1), .val (.int p2), .val (.int p3), .val (.int p4), .val (.int p5), .val (.int (v0_2 p0 p1 p2 p3 p4 p5)), .val (.ref b1), .val (.ref b51), .val (.ref xta8_0_188)] [(.ref xta8_0_188)])) _
                      refine X188.arraylength hx Ar199.1 (State.isArrayOf_alike hZ.alike Ar199.2.1) (g := (mkF m 234 #[.val (.int p0), .val (.int p1), .val (.int p2), .val (.int p3), .val (.int p4), .val (.int p5), .val (.int (v0_2 p0 p1 p2 p3 p4 p5)), .val (.ref b1), .val (.ref b51), .val (.ref xta8_0_188)] [(.ref xta8_0_188)])) rfl rfl (hb hby at_234) _ ?_
                      rw [len_of S199 M199]
                      show Steps p.tables e below (T188.setTop (mkF m 235 #[.val (.int p0), .val (.int p1), .val (.int p2), .val (.int p3), .val (.int p4), .val (.int p5), .val (.int (v0_2 p0 p1 p2 p3 p4 p5)), .val (.ref b1), .val (.ref b51), .val (.ref xta8_0_188)] [(.int (8 : Int32))])) _
                      refine XS.iload X188.here hx rfl (hb hby at_235) rfl ?_
                      show Steps p.tables e below (T188.setTop (mkF m 237 #[.val (.int p0), .val (.int p1), .val (.int p2), .val (.int p3), .val (.int p4), .val (.int p5), .val (.int (v0_2 p0 p1 p2 p3 p4 p5)), .val (.ref b1), .val (.ref b51), .val (.ref xta8_0_188)] [(.int (v0_2 p0 p1 p2 p3 p4 p5)), (.int (8 : Int32))])) _
                      refine XS.icmpYes X188.here hx rfl (pc0 := 237) (pc' := 242) rfl (hb hby at_237) rfl (XT.ii_eq_t ((own_eqn c129 c137 (by decide))).symm) (by decide) (by decide) ?_
                      show Steps p.tables e below (T188.setTop (mkF m 242 #[.val (.int p0), .val (.int p1), .val (.int p2), .val (.int p3), .val (.int p4), .val (.int p5), .val (.int (v0_2 p0 p1 p2 p3 p4 p5)), .val (.ref b1), .val (.ref b51), .val (.ref xta8_0_188)] [])) _
                      refine XS.iload X188.here hx rfl (hb hby at_242) rfl ?_
                      show Steps p.tables e below (T188.setTop (mkF m 244 #[.val (.int p0), .val (.int p1), .val (.int p2), .val (.int p3), .val (.int p4), .val (.int p5), .val (.int (v0_2 p0 p1 p2 p3 p4 p5)), .val (.ref b1), .val (.ref b51), .val (.ref xta8_0_188)] [(.int (v0_2 p0 p1 p2 p3 p4 p5))])) _
                      refine XS.ifNo X188.here hx rfl (hb hby at_244) rfl (XT.i0_le_f c67) ?_
                      show Steps p.tables e below (T188.setTop (mkF m 247 #[.val (.int p0), .val (.int p1), .val (.int p2), .val (.int p3), .val (.int p4), .val (.int p5), .val (.int (v0_2 p0 p1 p2 p3 p4 p5)), .val (.ref b1), .val (.ref b51), .val (.ref xta8_0_188)] [])) _
                      refine XS.aload X188.here hx rfl (hb hby at_247) rfl rfl ?_
                      show Steps p.tables e below (T188.setTop (mkF m 249 #[.val (.int p0), .val (.int p1), .val (.int p2), .val (.int p3), .val (.int p4), .val (.int p5), .val (.int (v0_2 p0 p1 p2 p3 p4 p5)), .val (.ref b1), .val (.ref b51), .val (.ref xta8_0_188)] [(.ref xta8_0_188)])) _
                      refine XT.iconstV X188.here hx rfl (0 : Int32) (hb hby at_249) (by decide) ?_
                      show Steps p.tables e below (T188.setTop (mkF m 250 #[.val (.int p0), .val (.int p1), .val (.int p2), .val (.int p3), .val (.int p4), .val (.int p5), .val (.int (v0_2 p0 p1 p2 p3 p4 p5)), .val (.ref b1), .val (.ref b51), .val (.ref xta8_0_188)] [(.int (0 : Int32)), (.ref xta8_0_188)])) _
                      refine X188.iaload hx (j := (0 : Int32)) (v := (.int p0)) Ar199.1 (State.isArrayOf_alike hZ.alike Ar199.2.1) Ar199.2.2 hin200 (Has.at Ha199 hin200 rfl) (g := (mkF m 250 #[.val (.int p0), .val (.int p1), .val (.int p2), .val (.int p3), .val (.int p4), .val (.int p5), .val (.int (v0_2 p0 p1 p2 p3 p4 p5)), .val (.ref b1), .val (.ref b51), .val (.ref xta8_0_188)] [(.int (0 : Int32)), (.ref xta8_0_188)])) rfl rfl (hb hby at_250) _ ?_
                      show Steps p.tables e below (T188.setTop (mkF m 251 #[.val (.int p0), .val (.int p1), .val (.int p2), .val (.int p3), .val (.int p4), .val (.int p5), .val (.int (v0_2 p0 p1 p2 p3 p4 p5)), .val (.ref b1), .val (.ref b51), .val (.ref xta8_0_188)] [(.int p0)])) _
                      refine XS.aload X188.here hx rfl (hb hby at_251) rfl rfl ?_
                      show Steps p.tables e below (T188.setTop (mkF m 253 #[.val (.int p0), .val (.int p1), .val (.int p2), .val (.int p3), .val (.int p4), .val (.int p5), .val (.int (v0_2 p0 p1 p2 p3 p4 p5)), .val (.ref b1), .val (.ref b51), .val (.ref xta8_0_188)] [(.ref b1), (.int p0)])) _
                      refine XT.iconstV X188.here hx rfl (0 : Int32) (hb hby at_253) (by decide) ?_
                      show Steps p.tables e below (T188.setTop (mkF m 254 #[.val (.int p0), .val (.int p1), .val (.int p2), .val (.int p3), .val (.int p4), .val (.int p5), .val (.int (v0_2 p0 p1 p2 p3 p4 p5)), .val (.ref b1), .val (.ref b51), .val (.ref xta8_0_188)] [(.int (0 : Int32)), (.ref b1), (.int p0)])) _
                      refine X188.iaload hx (j := (0 : Int32)) (v := (.int p0)) Ar202.1 (State.isArrayOf_alike hZ.alike Ar202.2.1) Ar202.2.2 hin203 (Has.at Ha202 hin203 rfl) (g := (mkF m 254 #[.val (.int p0), .val (.int p1), .val (.int p2), .val (.int p3), .val (.int p4), .val (.int p5), .val (.int (v0_2 p0 p1 p2 p3 p4 p5)), .val (.ref b1), .val (.ref b51), .val (.ref xta8_0_188)] [(.int (0 : Int32)), (.ref b1), (.int p0)])) rfl rfl (hb hby at_254) _ ?_
                      show Steps p.tables e below (T188.setTop (mkF m 255 #[.val (.int p0), .val (.int p1), .val (.int p2), .val (.int p3), .val (.int p4), .val (.int p5), .val (.int (v0_2 p0 p1 p2 p3 p4 p5)), .val (.ref b1), .val (.ref b51), .val (.ref xta8_0_188)] [(.int p0), (.int p0)])) _
                      refine XS.icmpYes X188.here hx rfl (pc0 := 255) (pc' := 260) rfl (hb hby at_255) rfl (XT.ii_eq_t (rfl : p0 = p0)) (by decide) (by decide) ?_
                      show Steps p.tables e below (T188.setTop (mkF m 260 #[.val (.int p0), .val (.int p1), .val (.int p2), .val (.int p3), .val (.int p4), .val (.int p5), .val (.int (v0_2 p0 p1 p2 p3 p4 p5)), .val (.ref b1), .val (.ref b51), .val (.ref xta8_0_188)] [])) _
                      refine XS.iload X188.here hx rfl (hb hby at_260) rfl ?_
                      show Steps p.tables e below (T188.setTop (mkF m 262 #[.val (.int p0), .val (.int p1), .val (.int p2), .val (.int p3), .val (.int p4), .val (.int p5), .val (.int (v0_2 p0 p1 p2 p3 p4 p5)), .val (.ref b1), .val (.ref b51), .val (.ref xta8_0_188)] [(.int (v0_2 p0 p1 p2 p3 p4 p5))])) _
                      refine XT.iconstV X188.here hx rfl (1 : Int32) (hb hby at_262) (by decide) ?_
                      show Steps p.tables e below (T188.setTop (mkF m 263 #[.val (.int p0), .val (.int p1), .val (.int p2), .val (.int p3), .val (.int p4), .val (.int p5), .val (.int (v0_2 p0 p1 p2 p3 p4 p5)), .val (.ref b1), .val (.ref b51), .val (.ref xta8_0_188)] [(.int (1 : Int32)), (.int (v0_2 p0 p1 p2 p3 p4 p5))])) _
                      refine XS.icmpNo X188.here hx rfl (hb hby at_263) rfl (XT.ii_le_f c75) ?_
                      show Steps p.tables e below (T188.setTop (mkF m 266 #[.val (.int p0), .val (.int p1), .val (.int p2), .val (.int p3), .val (.int p4), .val (.int p5), .val (.int (v0_2 p0 p1 p2 p3 p4 p5)), .val (.ref b1), .val (.ref b51), .val (.ref xta8_0_188)] [])) _
                      refine XS.aload X188.here hx rfl (hb hby at_266) rfl rfl ?_
                      show Steps p.tables e below (T188.setTop (mkF m 268 #[.val (.int p0), .val (.int p1), .val (.int p2), .val (.int p3), .val (.int p4), .val (.int p5), .val (.int (v0_2 p0 p1 p2 p3 p4 p5)), .val (.ref b1), .val (.ref b51), .val (.ref xta8_0_188)] [(.ref xta8_0_188)])) _
                      refine XT.iconstV X188.here hx rfl (1 : Int32) (hb hby at_268) (by decide) ?_
                      show Steps p.tables e below (T188.setTop (mkF m 269 #[.val (.int p0), .val (.int p1), .val (.int p2), .val (.int p3), .val (.int p4), .val (.int p5), .val (.int (v0_2 p0 p1 p2 p3 p4 p5)), .val (.ref b1), .val (.ref b51), .val (.ref xta8_0_188)] [(.int (1 : Int32)), (.ref xta8_0_188)])) _
                      refine X188.iaload hx (j := (1 : Int32)) (v := (.int p1)) Ar199.1 (State.isArrayOf_alike hZ.alike Ar199.2.1) Ar199.2.2 hin204 (Has.at Ha199 hin204 rfl) (g := (mkF m 269 #[.val (.int p0), .val (.int p1), .val (.int p2), .val (.int p3), .val (.int p4), .val (.int p5), .val (.int (v0_2 p0 p1 p2 p3 p4 p5)), .val (.ref b1), .val (.ref b51), .val (.ref xta8_0_188)] [(.int (1 : Int32)), (.ref xta8_0_188)])) rfl rfl (hb hby at_269) _ ?_
                      show Steps p.tables e below (T188.setTop (mkF m 270 #[.val (.int p0), .val (.int p1), .val (.int p2), .val (.int p3), .val (.int p4), .val (.int p5), .val (.int (v0_2 p0 p1 p2 p3 p4 p5)), .val (.ref b1), .val (.ref b51), .val (.ref xta8_0_188)] [(.int p1)])) _
                      refine XS.aload X188.here hx rfl (hb hby at_270) rfl rfl ?_
                      show Steps p.tables e below (T188.setTop (mkF m 272 #[.val (.int p0), .val (.int p1), .val (.int p2), .val (.int p3), .val (.int p4), .val (.int p5), .val (.int (v0_2 p0 p1 p2 p3 p4 p5)), .val (.ref b1), .val (.ref b51), .val (.ref xta8_0_188)] [(.ref b1), (.int p1)])) _
                      refine XT.iconstV X188.here hx rfl (1 : Int32) (hb hby at_272) (by decide) ?_
                      show Steps p.tables e below (T188.setTop (mkF m 273 #[.val (.int p0), .val (.int p1), .val (.int p2), .val (.int p3), .val (.int p4), .val (.int p5), .val (.int (v0_2 p0 p1 p2 p3 p4 p5)), .val (.ref b1), .val (.ref b51), .val (.ref xta8_0_188)] [(.int (1 : Int32)), (.ref b1), (.int p1)])) _
                      refine X188.iaload hx (j := (1 : Int32)) (v := (.int p1)) Ar202.1 (State.isArrayOf_alike hZ.alike Ar202.2.1) Ar202.2.2 hin205 (Has.at Ha202 hin205 rfl) (g := (mkF m 273 #[.val (.int p0), .val (.int p1), .val (.int p2), .val (.int p3), .val (.int p4), .val (.int p5), .val (.int (v0_2 p0 p1 p2 p3 p4 p5)), .val (.ref b1), .val (.ref b51), .val (.ref xta8_0_188)] [(.int (1 : Int32)), (.ref b1), (.int p1)])) rfl rfl (hb hby at_273) _ ?_
                      show Steps p.tables e below (T188.setTop (mkF m 274 #[.val (.int p0), .val (.int p1), .val (.int p2), .val (.int p3), .val (.int p4), .val (.int p5), .val (.int (v0_2 p0 p1 p2 p3 p4 p5)), .val (.ref b1), .val (.ref b51), .val (.ref xta8_0_188)] [(.int p1), (.int p1)])) _
                      refine XS.icmpYes X188.here hx rfl (pc0 := 274) (pc' := 279) rfl (hb hby at_274) rfl (XT.ii_eq_t (rfl : p1 = p1)) (by decide) (by decide) ?_
                      show Steps p.tables e below (T188.setTop (mkF m 279 #[.val (.int p0), .val (.int p1), .val (.int p2), .val (.int p3), .val (.int p4), .val (.int p5), .val (.int (v0_2 p0 p1 p2 p3 p4 p5)), .val (.ref b1), .val (.ref b51), .val (.ref xta8_0_188)] [])) _
                      refine XS.iload X188.here hx rfl (hb hby at_279) rfl ?_
                      show Steps p.tables e below (T188.setTop (mkF m 281 #[.val (.int p0), .val (.int p1), .val (.int p2), .val (.int p3), .val (.int p4), .val (.int p5), .val (.int (v0_2 p0 p1 p2 p3 p4 p5)), .val (.ref b1), .val (.ref b51), .val (.ref xta8_0_188)] [(.int (v0_2 p0 p1 p2 p3 p4 p5))])) _
                      refine XT.iconstV X188.here hx rfl (2 : Int32) (hb hby at_281) (by decide) ?_
                      show Steps p.tables e below (T188.setTop (mkF m 282 #[.val (.int p0), .val (.int p1), .val (.int p2), .val (.int p3), .val (.int p4), .val (.int p5), .val (.int (v0_2 p0 p1 p2 p3 p4 p5)), .val (.ref b1), .val (.ref b51), .val (.ref xta8_0_188)] [(.int (2 : Int32)), (.int (v0_2 p0 p1 p2 p3 p4 p5))])) _
                      refine XS.icmpNo X188.here hx rfl (hb hby at_282) rfl (XT.ii_le_f c83) ?_
                      show Steps p.tables e below (T188.setTop (mkF m 285 #[.val (.int p0), .val (.int p1), .val (.int p2), .val (.int p3), .val (.int p4), .val (.int p5), .val (.int (v0_2 p0 p1 p2 p3 p4 p5)), .val (.ref b1), .val (.ref b51), .val (.ref xta8_0_188)] [])) _
                      refine XS.aload X188.here hx rfl (hb hby at_285) rfl rfl ?_
                      show Steps p.tables e below (T188.setTop (mkF m 287 #[.val (.int p0), .val (.int p1), .val (.int p2), .val (.int p3), .val (.int p4), .val (.int p5), .val (.int (v0_2 p0 p1 p2 p3 p4 p5)), .val (.ref b1), .val (.ref b51), .val (.ref xta8_0_188)] [(.ref xta8_0_188)])) _
                      refine XT.iconstV X188.here hx rfl (2 : Int32) (hb hby at_287) (by decide) ?_
                      show Steps p.tables e below (T188.setTop (mkF m 288 #[.val (.int p0), .val (.int p1), .val (.int p2), .val (.int p3), .val (.int p4), .val (.int p5), .val (.int (v0_2 p0 p1 p2 p3 p4 p5)), .val (.ref b1), .val (.ref b51), .val (.ref xta8_0_188)] [(.int (2 : Int32)), (.ref xta8_0_188)])) _
                      refine X188.iaload hx (j := (2 : Int32)) (v := (.int p2)) Ar199.1 (State.isArrayOf_alike hZ.alike Ar199.2.1) Ar199.2.2 hin206 (Has.at Ha199 hin206 rfl) (g := (mkF m 288 #[.val (.int p0), .val (.int p1), .val (.int p2), .val (.int p3), .val (.int p4), .val (.int p5), .val (.int (v0_2 p0 p1 p2 p3 p4 p5)), .val (.ref b1), .val (.ref b51), .val (.ref xta8_0_188)] [(.int (2 : Int32)), (.ref xta8_0_188)])) rfl rfl (hb hby at_288) _ ?_
                      show Steps p.tables e below (T188.setTop (mkF m 289 #[.val (.int p0), .val (.int p1), .val (.int p2), .val (.int p3), .val (.int p4), .val (.int p5), .val (.int (v0_2 p0 p1 p2 p3 p4 p5)), .val (.ref b1), .val (.ref b51), .val (.ref xta8_0_188)] [(.int p2)])) _
                      refine XS.aload X188.here hx rfl (hb hby at_289) rfl rfl ?_
                      show Steps p.tables e below (T188.setTop (mkF m 291 #[.val (.int p0), .val (.int p1), .val (.int p2), .val (.int p3), .val (.int p4), .val (.int p5), .val (.int (v0_2 p0 p1 p2 p3 p4 p5)), .val (.ref b1), .val (.ref b51), .val (.ref xta8_0_188)] [(.ref b1), (.int p2)])) _
                      refine XT.iconstV X188.here hx rfl (2 : Int32) (hb hby at_291) (by decide) ?_
                      show Steps p.tables e below (T188.setTop (mkF m 292 #[.val (.int p0), .val (.int p1), .val (.int p2), .val (.int p3), .val (.int p4), .val (.int p5), .val (.int (v0_2 p0 p1 p2 p3 p4 p5)), .val (.ref b1), .val (.ref b51), .val (.ref xta8_0_188)] [(.int (2 : Int32)), (.ref b1), (.int p2)])) _
                      refine X188.iaload hx (j := (2 : Int32)) (v := (.int p2)) Ar202.1 (State.isArrayOf_alike hZ.alike Ar202.2.1) Ar202.2.2 hin207 (Has.at Ha202 hin207 rfl) (g := (mkF m 292 #[.val (.int p0), .val (.int p1), .val (.int p2), .val (.int p3), .val (.int p4), .val (.int p5), .val (.int (v0_2 p0 p1 p2 p3 p4 p5)), .val (.ref b1), .val (.ref b51), .val (.ref xta8_0_188)] [(.int (2 : Int32)), (.ref b1), (.int p2)])) rfl rfl (hb hby at_292) _ ?_
                      show Steps p.tables e below (T188.setTop (mkF m 293 #[.val (.int p0), .val (.int p1), .val (.int p2), .val (.int p3), .val (.int p4), .val (.int p5), .val (.int (v0_2 p0 p1 p2 p3 p4 p5)), .val (.ref b1), .val (.ref b51), .val (.ref xta8_0_188)] [(.int p2), (.int p2)])) _
                      refine XS.icmpYes X188.here hx rfl (pc0 := 293) (pc' := 298) rfl (hb hby at_293) rfl (XT.ii_eq_t (rfl : p2 = p2)) (by decide) (by decide) ?_
                      show Steps p.tables e below (T188.setTop (mkF m 298 #[.val (.int p0), .val (.int p1), .val (.int p2), .val (.int p3), .val (.int p4), .val (.int p5), .val (.int (v0_2 p0 p1 p2 p3 p4 p5)), .val (.ref b1), .val (.ref b51), .val (.ref xta8_0_188)] [])) _
                      refine XS.iload X188.here hx rfl (hb hby at_298) rfl ?_
                      show Steps p.tables e below (T188.setTop (mkF m 300 #[.val (.int p0), .val (.int p1), .val (.int p2), .val (.int p3), .val (.int p4), .val (.int p5), .val (.int (v0_2 p0 p1 p2 p3 p4 p5)), .val (.ref b1), .val (.ref b51), .val (.ref xta8_0_188)] [(.int (v0_2 p0 p1 p2 p3 p4 p5))])) _
                      refine XT.iconstV X188.here hx rfl (3 : Int32) (hb hby at_300) (by decide) ?_
                      show Steps p.tables e below (T188.setTop (mkF m 301 #[.val (.int p0), .val (.int p1), .val (.int p2), .val (.int p3), .val (.int p4), .val (.int p5), .val (.int (v0_2 p0 p1 p2 p3 p4 p5)), .val (.ref b1), .val (.ref b51), .val (.ref xta8_0_188)] [(.int (3 : Int32)), (.int (v0_2 p0 p1 p2 p3 p4 p5))])) _
                      refine XS.icmpNo X188.here hx rfl (hb hby at_301) rfl (XT.ii_le_f c91) ?_
                      show Steps p.tables e below (T188.setTop (mkF m 304 #[.val (.int p0), .val (.int p1), .val (.int p2), .val (.int p3), .val (.int p4), .val (.int p5), .val (.int (v0_2 p0 p1 p2 p3 p4 p5)), .val (.ref b1), .val (.ref b51), .val (.ref xta8_0_188)] [])) _
                      refine XS.aload X188.here hx rfl (hb hby at_304) rfl rfl ?_
                      show Steps p.tables e below (T188.setTop (mkF m 306 #[.val (.int p0), .val (.int p1), .val (.int p2), .val (.int p3), .val (.int p4), .val (.int p5), .val (.int (v0_2 p0 p1 p2 p3 p4 p5)), .val (.ref b1), .val (.ref b51), .val (.ref xta8_0_188)] [(.ref xta8_0_188)])) _
                      refine XT.iconstV X188.here hx rfl (3 : Int32) (hb hby at_306) (by decide) ?_
                      show Steps p.tables e below (T188.setTop (mkF m 307 #[.val (.int p0), .val (.int p1), .val (.int p2), .val (.int p3), .val (.int p4), .val (.int p5), .val (.int (v0_2 p0 p1 p2 p3 p4 p5)), .val (.ref b1), .val (.ref b51), .val (.ref xta8_0_188)] [(.int (3 : Int32)), (.ref xta8_0_188)])) _
                      refine X188.iaload hx (j := (3 : Int32)) (v := (.int p3)) Ar199.1 (State.isArrayOf_alike hZ.alike Ar199.2.1) Ar199.2.2 hin208 (Has.at Ha199 hin208 rfl) (g := (mkF m 307 #[.val (.int p0), .val (.int p1), .val (.int p2), .val (.int p3), .val (.int p4), .val (.int p5), .val (.int (v0_2 p0 p1 p2 p3 p4 p5)), .val (.ref b1), .val (.ref b51), .val (.ref xta8_0_188)] [(.int (3 : Int32)), (.ref xta8_0_188)])) rfl rfl (hb hby at_307) _ ?_
                      show Steps p.tables e below (T188.setTop (mkF m 308 #[.val (.int p0), .val (.int p1), .val (.int p2), .val (.int p3), .val (.int p4), .val (.int p5), .val (.int (v0_2 p0 p1 p2 p3 p4 p5)), .val (.ref b1), .val (.ref b51), .val (.ref xta8_0_188)] [(.int p3)])) _
                      refine XS.aload X188.here hx rfl (hb hby at_308) rfl rfl ?_
                      show Steps p.tables e below (T188.setTop (mkF m 310 #[.val (.int p0), .val (.int p1), .val (.int p2), .val (.int p3), .val (.int p4), .val (.int p5), .val (.int (v0_2 p0 p1 p2 p3 p4 p5)), .val (.ref b1), .val (.ref b51), .val (.ref xta8_0_188)] [(.ref b1), (.int p3)])) _
                      refine XT.iconstV X188.here hx rfl (3 : Int32) (hb hby at_310) (by decide) ?_
                      show Steps p.tables e below (T188.setTop (mkF m 311 #[.val (.int p0), .val (.int p1), .val (.int p2), .val (.int p3), .val (.int p4), .val (.int p5), .val (.int (v0_2 p0 p1 p2 p3 p4 p5)), .val (.ref b1), .val (.ref b51), .val (.ref xta8_0_188)] [(.int (3 : Int32)), (.ref b1), (.int p3)])) _
                      refine X188.iaload hx (j := (3 : Int32)) (v := (.int p3)) Ar202.1 (State.isArrayOf_alike hZ.alike Ar202.2.1) Ar202.2.2 hin209 (Has.at Ha202 hin209 rfl) (g := (mkF m 311 #[.val (.int p0), .val (.int p1), .val (.int p2), .val (.int p3), .val (.int p4), .val (.int p5), .val (.int (v0_2 p0 p1 p2 p3 p4 p5)), .val (.ref b1), .val (.ref b51), .val (.ref xta8_0_188)] [(.int (3 : Int32)), (.ref b1), (.int p3)])) rfl rfl (hb hby at_311) _ ?_
                      show Steps p.tables e below (T188.setTop (mkF m 312 #[.val (.int p0), .val (.int p1), .val (.int p2), .val (.int p3), .val (.int p4), .val (.int p5), .val (.int (v0_2 p0 p1 p2 p3 p4 p5)), .val (.ref b1), .val (.ref b51), .val (.ref xta8_0_188)] [(.int p3), (.int p3)])) _
                      refine XS.icmpYes X188.here hx rfl (pc0 := 312) (pc' := 317) rfl (hb hby at_312) rfl (XT.ii_eq_t (rfl : p3 = p3)) (by decide) (by decide) ?_
                      show Steps p.tables e below (T188.setTop (mkF m 317 #[.val (.int p0), .val (.int p1), .val (.int p2), .val (.int p3), .val (.int p4), .val (.int p5), .val (.int (v0_2 p0 p1 p2 p3 p4 p5)), .val (.ref b1), .val (.ref b51), .val (.ref xta8_0_188)] [])) _
                      refine XS.iload X188.here hx rfl (hb hby at_317) rfl ?_
                      show Steps p.tables e below (T188.setTop (mkF m 319 #[.val (.int p0), .val (.int p1), .val (.int p2), .val (.int p3), .val (.int p4), .val (.int p5), .val (.int (v0_2 p0 p1 p2 p3 p4 p5)), .val (.ref b1), .val (.ref b51), .val (.ref xta8_0_188)] [(.int (v0_2 p0 p1 p2 p3 p4 p5))])) _
                      refine XT.iconstV X188.here hx rfl (4 : Int32) (hb hby at_319) (by decide) ?_
                      show Steps p.tables e below (T188.setTop (mkF m 320 #[.val (.int p0), .val (.int p1), .val (.int p2), .val (.int p3), .val (.int p4), .val (.int p5), .val (.int (v0_2 p0 p1 p2 p3 p4 p5)), .val (.ref b1), .val (.ref b51), .val (.ref xta8_0_188)] [(.int (4 : Int32)), (.int (v0_2 p0 p1 p2 p3 p4 p5))])) _
                      refine XS.icmpNo X188.here hx rfl (hb hby at_320) rfl (XT.ii_le_f c99) ?_
                      show Steps p.tables e below (T188.setTop (mkF m 323 #[.val (.int p0), .val (.int p1), .val (.int p2), .val (.int p3), .val (.int p4), .val (.int p5), .val (.int (v0_2 p0 p1 p2 p3 p4 p5)), .val (.ref b1), .val (.ref b51), .val (.ref xta8_0_188)] [])) _
                      refine XS.aload X188.here hx rfl (hb hby at_323) rfl rfl ?_
                      show Steps p.tables e below (T188.setTop (mkF m 325 #[.val (.int p0), .val (.int p1), .val (.int p2), .val (.int p3), .val (.int p4), .val (.int p5), .val (.int (v0_2 p0 p1 p2 p3 p4 p5)), .val (.ref b1), .val (.ref b51), .val (.ref xta8_0_188)] [(.ref xta8_0_188)])) _
                      refine XT.iconstV X188.here hx rfl (4 : Int32) (hb hby at_325) (by decide) ?_
                      show Steps p.tables e below (T188.setTop (mkF m 326 #[.val (.int p0), .val (.int p1), .val (.int p2), .val (.int p3), .val (.int p4), .val (.int p5), .val (.int (v0_2 p0 p1 p2 p3 p4 p5)), .val (.ref b1), .val (.ref b51), .val (.ref xta8_0_188)] [(.int (4 : Int32)), (.ref xta8_0_188)])) _
                      refine X188.iaload hx (j := (4 : Int32)) (v := (.int p4)) Ar199.1 (State.isArrayOf_alike hZ.alike Ar199.2.1) Ar199.2.2 hin210 (Has.at Ha199 hin210 rfl) (g := (mkF m 326 #[.val (.int p0), .val (.int p1), .val (.int p2), .val (.int p3), .val (.int p4), .val (.int p5), .val (.int (v0_2 p0 p1 p2 p3 p4 p5)), .val (.ref b1), .val (.ref b51), .val (.ref xta8_0_188)] [(.int (4 : Int32)), (.ref xta8_0_188)])) rfl rfl (hb hby at_326) _ ?_
                      show Steps p.tables e below (T188.setTop (mkF m 327 #[.val (.int p0), .val (.int p1), .val (.int p2), .val (.int p3), .val (.int p4), .val (.int p5), .val (.int (v0_2 p0 p1 p2 p3 p4 p5)), .val (.ref b1), .val (.ref b51), .val (.ref xta8_0_188)] [(.int p4)])) _
                      refine XS.aload X188.here hx rfl (hb hby at_327) rfl rfl ?_
                      show Steps p.tables e below (T188.setTop (mkF m 329 #[.val (.int p0), .val (.int p1), .val (.int p2), .val (.int p3), .val (.int p4), .val (.int p5), .val (.int (v0_2 p0 p1 p2 p3 p4 p5)), .val (.ref b1), .val (.ref b51), .val (.ref xta8_0_188)] [(.ref b1), (.int p4)])) _
                      refine XT.iconstV X188.here hx rfl (4 : Int32) (hb hby at_329) (by decide) ?_
                      show Steps p.tables e below (T188.setTop (mkF m 330 #[.val (.int p0), .val (.int p1), .val (.int p2), .val (.int p3), .val (.int p4), .val (.int p5), .val (.int (v0_2 p0 p1 p2 p3 p4 p5)), .val (.ref b1), .val (.ref b51), .val (.ref xta8_0_188)] [(.int (4 : Int32)), (.ref b1), (.int p4)])) _
                      refine X188.iaload hx (j := (4 : Int32)) (v := (.int p4)) Ar202.1 (State.isArrayOf_alike hZ.alike Ar202.2.1) Ar202.2.2 hin211 (Has.at Ha202 hin211 rfl) (g := (mkF m 330 #[.val (.int p0), .val (.int p1), .val (.int p2), .val (.int p3), .val (.int p4), .val (.int p5), .val (.int (v0_2 p0 p1 p2 p3 p4 p5)), .val (.ref b1), .val (.ref b51), .val (.ref xta8_0_188)] [(.int (4 : Int32)), (.ref b1), (.int p4)])) rfl rfl (hb hby at_330) _ ?_
                      show Steps p.tables e below (T188.setTop (mkF m 331 #[.val (.int p0), .val (.int p1), .val (.int p2), .val (.int p3), .val (.int p4), .val (.int p5), .val (.int (v0_2 p0 p1 p2 p3 p4 p5)), .val (.ref b1), .val (.ref b51), .val (.ref xta8_0_188)] [(.int p4), (.int p4)])) _
                      refine XS.icmpYes X188.here hx rfl (pc0 := 331) (pc' := 336) rfl (hb hby at_331) rfl (XT.ii_eq_t (rfl : p4 = p4)) (by decide) (by decide) ?_
                      show Steps p.tables e below (T188.setTop (mkF m 336 #[.val (.int p0), .val (.int p1), .val (.int p2), .val (.int p3), .val (.int p4), .val (.int p5), .val (.int (v0_2 p0 p1 p2 p3 p4 p5)), .val (.ref b1), .val (.ref b51), .val (.ref xta8_0_188)] [])) _
                      refine XS.iload X188.here hx rfl (hb hby at_336) rfl ?_
                      show Steps p.tables e below (T188.setTop (mkF m 338 #[.val (.int p0), .val (.int p1), .val (.int p2), .val (.int p3), .val (.int p4), .val (.int p5), .val (.int (v0_2 p0 p1 p2 p3 p4 p5)), .val (.ref b1), .val (.ref b51), .val (.ref xta8_0_188)] [(.int (v0_2 p0 p1 p2 p3 p4 p5))])) _
                      refine XT.iconstV X188.here hx rfl (5 : Int32) (hb hby at_338) (by decide) ?_
                      show Steps p.tables e below (T188.setTop (mkF m 339 #[.val (.int p0), .val (.int p1), .val (.int p2), .val (.int p3), .val (.int p4), .val (.int p5), .val (.int (v0_2 p0 p1 p2 p3 p4 p5)), .val (.ref b1), .val (.ref b51), .val (.ref xta8_0_188)] [(.int (5 : Int32)), (.int (v0_2 p0 p1 p2 p3 p4 p5))])) _
                      refine XS.icmpNo X188.here hx rfl (hb hby at_339) rfl (XT.ii_le_f c113) ?_
                      show Steps p.tables e below (T188.setTop (mkF m 342 #[.val (.int p0), .val (.int p1), .val (.int p2), .val (.int p3), .val (.int p4), .val (.int p5), .val (.int (v0_2 p0 p1 p2 p3 p4 p5)), .val (.ref b1), .val (.ref b51), .val (.ref xta8_0_188)] [])) _
                      refine XS.aload X188.here hx rfl (hb hby at_342) rfl rfl ?_
                      show Steps p.tables e below (T188.setTop (mkF m 344 #[.val (.int p0), .val (.int p1), .val (.int p2), .val (.int p3), .val (.int p4), .val (.int p5), .val (.int (v0_2 p0 p1 p2 p3 p4 p5)), .val (.ref b1), .val (.ref b51), .val (.ref xta8_0_188)] [(.ref xta8_0_188)])) _
                      refine XT.iconstV X188.here hx rfl (5 : Int32) (hb hby at_344) (by decide) ?_
                      show Steps p.tables e below (T188.setTop (mkF m 345 #[.val (.int p0), .val (.int p1), .val (.int p2), .val (.int p3), .val (.int p4), .val (.int p5), .val (.int (v0_2 p0 p1 p2 p3 p4 p5)), .val (.ref b1), .val (.ref b51), .val (.ref xta8_0_188)] [(.int (5 : Int32)), (.ref xta8_0_188)])) _
                      refine X188.iaload hx (j := (5 : Int32)) (v := (.int (v0_3 p0 p1 p2 p3 p4 p5))) Ar199.1 (State.isArrayOf_alike hZ.alike Ar199.2.1) Ar199.2.2 hin212 (Has.at Ha199 hin212 rfl) (g := (mkF m 345 #[.val (.int p0), .val (.int p1), .val (.int p2), .val (.int p3), .val (.int p4), .val (.int p5), .val (.int (v0_2 p0 p1 p2 p3 p4 p5)), .val (.ref b1), .val (.ref b51), .val (.ref xta8_0_188)] [(.int (5 : Int32)), (.ref xta8_0_188)])) rfl rfl (hb hby at_345) _ ?_
                      show Steps p.tables e below (T188.setTop (mkF m 346 #[.val (.int p0), .val (.int p1), .val (.int p2), .val (.int p3), .val (.int p4), .val (.int p5), .val (.int (v0_2 p0 p1 p2 p3 p4 p5)), .val (.ref b1), .val (.ref b51), .val (.ref xta8_0_188)] [(.int (v0_3 p0 p1 p2 p3 p4 p5))])) _
                      refine XS.aload X188.here hx rfl (hb hby at_346) rfl rfl ?_
                      show Steps p.tables e below (T188.setTop (mkF m 348 #[.val (.int p0), .val (.int p1), .val (.int p2), .val (.int p3), .val (.int p4), .val (.int p5), .val (.int (v0_2 p0 p1 p2 p3 p4 p5)), .val (.ref b1), .val (.ref b51), .val (.ref xta8_0_188)] [(.ref b1), (.int (v0_3 p0 p1 p2 p3 p4 p5))])) _
                      refine XT.iconstV X188.here hx rfl (5 : Int32) (hb hby at_348) (by decide) ?_
                      show Steps p.tables e below (T188.setTop (mkF m 349 #[.val (.int p0), .val (.int p1), .val (.int p2), .val (.int p3), .val (.int p4), .val (.int p5), .val (.int (v0_2 p0 p1 p2 p3 p4 p5)), .val (.ref b1), .val (.ref b51), .val (.ref xta8_0_188)] [(.int (5 : Int32)), (.ref b1), (.int (v0_3 p0 p1 p2 p3 p4 p5))])) _
                      refine X188.iaload hx (j := (5 : Int32)) (v := (.int (v0_3 p0 p1 p2 p3 p4 p5))) Ar202.1 (State.isArrayOf_alike hZ.alike Ar202.2.1) Ar202.2.2 hin213 (Has.at Ha202 hin213 rfl) (g := (mkF m 349 #[.val (.int p0), .val (.int p1), .val (.int p2), .val (.int p3), .val (.int p4), .val (.int p5), .val (.int (v0_2 p0 p1 p2 p3 p4 p5)), .val (.ref b1), .val (.ref b51), .val (.ref xta8_0_188)] [(.int (5 : Int32)), (.ref b1), (.int (v0_3 p0 p1 p2 p3 p4 p5))])) rfl rfl (hb hby at_349) _ ?_
                      show Steps p.tables e below (T188.setTop (mkF m 350 #[.val (.int p0), .val (.int p1), .val (.int p2), .val (.int p3), .val (.int p4), .val (.int p5), .val (.int (v0_2 p0 p1 p2 p3 p4 p5)), .val (.ref b1), .val (.ref b51), .val (.ref xta8_0_188)] [(.int (v0_3 p0 p1 p2 p3 p4 p5)), (.int (v0_3 p0 p1 p2 p3 p4 p5))])) _
                      refine XS.icmpYes X188.here hx rfl (pc0 := 350) (pc' := 355) rfl (hb hby at_350) rfl (XT.ii_eq_t (rfl : (v0_3 p0 p1 p2 p3 p4 p5) = (v0_3 p0 p1 p2 p3 p4 p5))) (by decide) (by decide) ?_
                      show Steps p.tables e below (T188.setTop (mkF m 355 #[.val (.int p0), .val (.int p1), .val (.int p2), .val (.int p3), .val (.int p4), .val (.int p5), .val (.int (v0_2 p0 p1 p2 p3 p4 p5)), .val (.ref b1), .val (.ref b51), .val (.ref xta8_0_188)] [])) _
                      refine XS.iload X188.here hx rfl (hb hby at_355) rfl ?_
                      show Steps p.tables e below (T188.setTop (mkF m 357 #[.val (.int p0), .val (.int p1), .val (.int p2), .val (.int p3), .val (.int p4), .val (.int p5), .val (.int (v0_2 p0 p1 p2 p3 p4 p5)), .val (.ref b1), .val (.ref b51), .val (.ref xta8_0_188)] [(.int (v0_2 p0 p1 p2 p3 p4 p5))])) _
                      refine XT.bipushV X188.here hx rfl (6 : Int32) (hb hby at_357) (by decide) ?_
                      show Steps p.tables e below (T188.setTop (mkF m 359 #[.val (.int p0), .val (.int p1), .val (.int p2), .val (.int p3), .val (.int p4), .val (.int p5), .val (.int (v0_2 p0 p1 p2 p3 p4 p5)), .val (.ref b1), .val (.ref b51), .val (.ref xta8_0_188)] [(.int (6 : Int32)), (.int (v0_2 p0 p1 p2 p3 p4 p5))])) _
                      refine XS.icmpNo X188.here hx rfl (hb hby at_359) rfl (XT.ii_le_f c121) ?_
                      show Steps p.tables e below (T188.setTop (mkF m 362 #[.val (.int p0), .val (.int p1), .val (.int p2), .val (.int p3), .val (.int p4), .val (.int p5), .val (.int (v0_2 p0 p1 p2 p3 p4 p5)), .val (.ref b1), .val (.ref b51), .val (.ref xta8_0_188)] [])) _
                      refine XS.aload X188.here hx rfl (hb hby at_362) rfl rfl ?_
                      show Steps p.tables e below (T188.setTop (mkF m 364 #[.val (.int p0), .val (.int p1), .val (.int p2), .val (.int p3), .val (.int p4), .val (.int p5), .val (.int (v0_2 p0 p1 p2 p3 p4 p5)), .val (.ref b1), .val (.ref b51), .val (.ref xta8_0_188)] [(.ref xta8_0_188)])) _
                      refine XT.bipushV X188.here hx rfl (6 : Int32) (hb hby at_364) (by decide) ?_
                      show Steps p.tables e below (T188.setTop (mkF m 366 #[.val (.int p0), .val (.int p1), .val (.int p2), .val (.int p3), .val (.int p4), .val (.int p5), .val (.int (v0_2 p0 p1 p2 p3 p4 p5)), .val (.ref b1), .val (.ref b51), .val (.ref xta8_0_188)] [(.int (6 : Int32)), (.ref xta8_0_188)])) _
                      refine X188.iaload hx (j := (6 : Int32)) (v := (.int (v0_4 p0 p1 p2 p3 p4 p5))) Ar199.1 (State.isArrayOf_alike hZ.alike Ar199.2.1) Ar199.2.2 hin214 (Has.at Ha199 hin214 rfl) (g := (mkF m 366 #[.val (.int p0), .val (.int p1), .val (.int p2), .val (.int p3), .val (.int p4), .val (.int p5), .val (.int (v0_2 p0 p1 p2 p3 p4 p5)), .val (.ref b1), .val (.ref b51), .val (.ref xta8_0_188)] [(.int (6 : Int32)), (.ref xta8_0_188)])) rfl rfl (hb hby at_366) _ ?_
                      show Steps p.tables e below (T188.setTop (mkF m 367 #[.val (.int p0), .val (.int p1), .val (.int p2), .val (.int p3), .val (.int p4), .val (.int p5), .val (.int (v0_2 p0 p1 p2 p3 p4 p5)), .val (.ref b1), .val (.ref b51), .val (.ref xta8_0_188)] [(.int (v0_4 p0 p1 p2 p3 p4 p5))])) _
                      refine XS.aload X188.here hx rfl (hb hby at_367) rfl rfl ?_
                      show Steps p.tables e below (T188.setTop (mkF m 369 #[.val (.int p0), .val (.int p1), .val (.int p2), .val (.int p3), .val (.int p4), .val (.int p5), .val (.int (v0_2 p0 p1 p2 p3 p4 p5)), .val (.ref b1), .val (.ref b51), .val (.ref xta8_0_188)] [(.ref b1), (.int (v0_4 p0 p1 p2 p3 p4 p5))])) _
                      refine XT.bipushV X188.here hx rfl (6 : Int32) (hb hby at_369) (by decide) ?_
                      show Steps p.tables e below (T188.setTop (mkF m 371 #[.val (.int p0), .val (.int p1), .val (.int p2), .val (.int p3), .val (.int p4), .val (.int p5), .val (.int (v0_2 p0 p1 p2 p3 p4 p5)), .val (.ref b1), .val (.ref b51), .val (.ref xta8_0_188)] [(.int (6 : Int32)), (.ref b1), (.int (v0_4 p0 p1 p2 p3 p4 p5))])) _
                      refine X188.iaload hx (j := (6 : Int32)) (v := (.int (v0_4 p0 p1 p2 p3 p4 p5))) Ar202.1 (State.isArrayOf_alike hZ.alike Ar202.2.1) Ar202.2.2 hin215 (Has.at Ha202 hin215 rfl) (g := (mkF m 371 #[.val (.int p0), .val (.int p1), .val (.int p2), .val (.int p3), .val (.int p4), .val (.int p5), .val (.int (v0_2 p0 p1 p2 p3 p4 p5)), .val (.ref b1), .val (.ref b51), .val (.ref xta8_0_188)] [(.int (6 : Int32)), (.ref b1), (.int (v0_4 p0 p1 p2 p3 p4 p5))])) rfl rfl (hb hby at_371) _ ?_
                      show Steps p.tables e below (T188.setTop (mkF m 372 #[.val (.int p0), .val (.int p1), .val (.int p2), .val (.int p3), .val (.int p4), .val (.int p5), .val (.int (v0_2 p0 p1 p2 p3 p4 p5)), .val (.ref b1), .val (.ref b51), .val (.ref xta8_0_188)] [(.int (v0_4 p0 p1 p2 p3 p4 p5)), (.int (v0_4 p0 p1 p2 p3 p4 p5))])) _
                      refine XS.icmpYes X188.here hx rfl (pc0 := 372) (pc' := 377) rfl (hb hby at_372) rfl (XT.ii_eq_t (rfl : (v0_4 p0 p1 p2 p3 p4 p5) = (v0_4 p0 p1 p2 p3 p4 p5))) (by decide) (by decide) ?_
                      show Steps p.tables e below (T188.setTop (mkF m 377 #[.val (.int p0), .val (.int p1), .val (.int p2), .val (.int p3), .val (.int p4), .val (.int p5), .val (.int (v0_2 p0 p1 p2 p3 p4 p5)), .val (.ref b1), .val (.ref b51), .val (.ref xta8_0_188)] [])) _
                      refine XS.iload X188.here hx rfl (hb hby at_377) rfl ?_
                      show Steps p.tables e below (T188.setTop (mkF m 379 #[.val (.int p0), .val (.int p1), .val (.int p2), .val (.int p3), .val (.int p4), .val (.int p5), .val (.int (v0_2 p0 p1 p2 p3 p4 p5)), .val (.ref b1), .val (.ref b51), .val (.ref xta8_0_188)] [(.int (v0_2 p0 p1 p2 p3 p4 p5))])) _
                      refine XT.bipushV X188.here hx rfl (7 : Int32) (hb hby at_379) (by decide) ?_
                      show Steps p.tables e below (T188.setTop (mkF m 381 #[.val (.int p0), .val (.int p1), .val (.int p2), .val (.int p3), .val (.int p4), .val (.int p5), .val (.int (v0_2 p0 p1 p2 p3 p4 p5)), .val (.ref b1), .val (.ref b51), .val (.ref xta8_0_188)] [(.int (7 : Int32)), (.int (v0_2 p0 p1 p2 p3 p4 p5))])) _
                      refine XS.icmpNo X188.here hx rfl (hb hby at_381) rfl (XT.ii_le_f c129) ?_
                      show Steps p.tables e below (T188.setTop (mkF m 384 #[.val (.int p0), .val (.int p1), .val (.int p2), .val (.int p3), .val (.int p4), .val (.int p5), .val (.int (v0_2 p0 p1 p2 p3 p4 p5)), .val (.ref b1), .val (.ref b51), .val (.ref xta8_0_188)] [])) _
                      refine XS.aload X188.here hx rfl (hb hby at_384) rfl rfl ?_
                      show Steps p.tables e below (T188.setTop (mkF m 386 #[.val (.int p0), .val (.int p1), .val (.int p2), .val (.int p3), .val (.int p4), .val (.int p5), .val (.int (v0_2 p0 p1 p2 p3 p4 p5)), .val (.ref b1), .val (.ref b51), .val (.ref xta8_0_188)] [(.ref xta8_0_188)])) _
                      refine XT.bipushV X188.here hx rfl (7 : Int32) (hb hby at_386) (by decide) ?_
                      show Steps p.tables e below (T188.setTop (mkF m 388 #[.val (.int p0), .val (.int p1), .val (.int p2), .val (.int p3), .val (.int p4), .val (.int p5), .val (.int (v0_2 p0 p1 p2 p3 p4 p5)), .val (.ref b1), .val (.ref b51), .val (.ref xta8_0_188)] [(.int (7 : Int32)), (.ref xta8_0_188)])) _
                      refine X188.iaload hx (j := (7 : Int32)) (v := (.int (v0_5 p0 p1 p2 p3 p4 p5))) Ar199.1 (State.isArrayOf_alike hZ.alike Ar199.2.1) Ar199.2.2 hin216 (Has.at Ha199 hin216 rfl) (g := (mkF m 388 #[.val (.int p0), .val (.int p1), .val (.int p2), .val (.int p3), .val (.int p4), .val (.int p5), .val (.int (v0_2 p0 p1 p2 p3 p4 p5)), .val (.ref b1), .val (.ref b51), .val (.ref xta8_0_188)] [(.int (7 : Int32)), (.ref xta8_0_188)])) rfl rfl (hb hby at_388) _ ?_
                      show Steps p.tables e below (T188.setTop (mkF m 389 #[.val (.int p0), .val (.int p1), .val (.int p2), .val (.int p3), .val (.int p4), .val (.int p5), .val (.int (v0_2 p0 p1 p2 p3 p4 p5)), .val (.ref b1), .val (.ref b51), .val (.ref xta8_0_188)] [(.int (v0_5 p0 p1 p2 p3 p4 p5))])) _
                      refine XS.aload X188.here hx rfl (hb hby at_389) rfl rfl ?_
                      show Steps p.tables e below (T188.setTop (mkF m 391 #[.val (.int p0), .val (.int p1), .val (.int p2), .val (.int p3), .val (.int p4), .val (.int p5), .val (.int (v0_2 p0 p1 p2 p3 p4 p5)), .val (.ref b1), .val (.ref b51), .val (.ref xta8_0_188)] [(.ref b1), (.int (v0_5 p0 p1 p2 p3 p4 p5))])) _
                      refine XT.bipushV X188.here hx rfl (7 : Int32) (hb hby at_391) (by decide) ?_
                      show Steps p.tables e below (T188.setTop (mkF m 393 #[.val (.int p0), .val (.int p1), .val (.int p2), .val (.int p3), .val (.int p4), .val (.int p5), .val (.int (v0_2 p0 p1 p2 p3 p4 p5)), .val (.ref b1), .val (.ref b51), .val (.ref xta8_0_188)] [(.int (7 : Int32)), (.ref b1), (.int (v0_5 p0 p1 p2 p3 p4 p5))])) _
                      refine X188.iaload hx (j := (7 : Int32)) (v := (.int (v0_5 p0 p1 p2 p3 p4 p5))) Ar202.1 (State.isArrayOf_alike hZ.alike Ar202.2.1) Ar202.2.2 hin217 (Has.at Ha202 hin217 rfl) (g := (mkF m 393 #[.val (.int p0), .val (.int p1), .val (.int p2), .val (.int p3), .val (.int p4), .val (.int p5), .val (.int (v0_2 p0 p1 p2 p3 p4 p5)), .val (.ref b1), .val (.ref b51), .val (.ref xta8_0_188)] [(.int (7 : Int32)), (.ref b1), (.int (v0_5 p0 p1 p2 p3 p4 p5))])) rfl rfl (hb hby at_393) _ ?_
                      show Steps p.tables e below (T188.setTop (mkF m 394 #[.val (.int p0), .val (.int p1), .val (.int p2), .val (.int p3), .val (.int p4), .val (.int p5), .val (.int (v0_2 p0 p1 p2 p3 p4 p5)), .val (.ref b1), .val (.ref b51), .val (.ref xta8_0_188)] [(.int (v0_5 p0 p1 p2 p3 p4 p5)), (.int (v0_5 p0 p1 p2 p3 p4 p5))])) _
                      refine XS.icmpYes X188.here hx rfl (pc0 := 394) (pc' := 399) rfl (hb hby at_394) rfl (XT.ii_eq_t (rfl : (v0_5 p0 p1 p2 p3 p4 p5) = (v0_5 p0 p1 p2 p3 p4 p5))) (by decide) (by decide) ?_
                      show Steps p.tables e below (T188.setTop (mkF m 399 #[.val (.int p0), .val (.int p1), .val (.int p2), .val (.int p3), .val (.int p4), .val (.int p5), .val (.int (v0_2 p0 p1 p2 p3 p4 p5)), .val (.ref b1), .val (.ref b51), .val (.ref xta8_0_188)] [])) _
                      refine XS.iload X188.here hx rfl (hb hby at_399) rfl ?_
                      show Steps p.tables e below (T188.setTop (mkF m 401 #[.val (.int p0), .val (.int p1), .val (.int p2), .val (.int p3), .val (.int p4), .val (.int p5), .val (.int (v0_2 p0 p1 p2 p3 p4 p5)), .val (.ref b1), .val (.ref b51), .val (.ref xta8_0_188)] [(.int (v0_2 p0 p1 p2 p3 p4 p5))])) _
                      refine XT.bipushV X188.here hx rfl (8 : Int32) (hb hby at_401) (by decide) ?_
                      show Steps p.tables e below (T188.setTop (mkF m 403 #[.val (.int p0), .val (.int p1), .val (.int p2), .val (.int p3), .val (.int p4), .val (.int p5), .val (.int (v0_2 p0 p1 p2 p3 p4 p5)), .val (.ref b1), .val (.ref b51), .val (.ref xta8_0_188)] [(.int (8 : Int32)), (.int (v0_2 p0 p1 p2 p3 p4 p5))])) _
                      refine XS.icmpYes X188.here hx rfl (pc0 := 403) (pc' := 421) rfl (hb hby at_403) rfl (XT.ii_le_t c137) (by decide) (by decide) ?_
                      show Steps p.tables e below (T188.setTop (mkF m 421 #[.val (.int p0), .val (.int p1), .val (.int p2), .val (.int p3), .val (.int p4), .val (.int p5), .val (.int (v0_2 p0 p1 p2 p3 p4 p5)), .val (.ref b1), .val (.ref b51), .val (.ref xta8_0_188)] [])) _
                      refine XT.iconstV X188.here hx rfl (1 : Int32) (hb hby at_421) (by decide) ?_
                      show Steps p.tables e below (T188.setTop (mkF m 422 #[.val (.int p0), .val (.int p1), .val (.int p2), .val (.int p3), .val (.int p4), .val (.int p5), .val (.int (v0_2 p0 p1 p2 p3 p4 p5)), .val (.ref b1), .val (.ref b51), .val (.ref xta8_0_188)] [(.int (1 : Int32))])) _
                      exact retN X188 hx (t := .boolean) Bd.returns (by simp) (hb hby at_422) hr
                    · skip
                      show Q0 Z p0 p1 p2 p3 p4 p5 h0 n0 _ T188.heap _
                      exact ⟨rfl, N188⟩
                · skip
                  obtain ⟨cq218, kq218, q218a, q218b, q218c⟩ := isOf hZ rfl po125_0
                  obtain ⟨vr218, _, ⟨T218, L218, k218, n218⟩, -, X218, ⟨Lc218, hQ218, l218, y218, z218⟩, st218⟩ := X125.virtualBack hx (y := (⟨"com/example/vellum_index/vellumindex/IntList", "size", "()I"⟩ : MethodName)) (z := (⟨"com/example/vellum_index/vellumindex/IntList", "size", "()I"⟩ : MethodName)) hown (mvT hZ (hw _ (List.mem_of_getElem? (i := 20) rfl))) (mvT hZ (hw _ (List.mem_of_getElem? (i := 21) rfl))) (notFace_of_selects (args := #[]) (mvT hZ (hw _ (List.mem_of_getElem? (i := 23) rfl)))) (mvT hZ (hw _ (List.mem_of_getElem? (i := 23) rfl))) (mvT hZ (hw _ (List.mem_of_getElem? (i := 22) rfl))) (by decide) (backOf (W := 0) (rm4 l Z a0 hw [] b51 (7 : Int32) T125.heap n0 z126 po125_1) hZ (hw _ (List.mem_of_getElem? (i := 24) rfl)) (hw _ (List.mem_of_getElem? (i := 4) rfl)) (by decide) (by decide)) q218a q218c (g := (mkF m 215 #[.val (.int p0), .val (.int p1), .val (.int p2), .val (.int p3), .val (.int p4), .val (.int p5), .val (.int (v0_2 p0 p1 p2 p3 p4 p5)), .val (.ref b1), .val (.ref b51), .unset] [(.ref b51)])) rfl (by rw [hml]; rfl) (Steps.refl _) (argsL := []) (rest := []) (lenOf pd___I rfl) rfl (by show 2 * 0 + _ ≤ _; exact Nat.le_of_eq rfl) (hb hby at_215) (fun _ _ => ⟨rfl, rfl, (by decide : 4 + 0 ≤ _), (by decide : 23 + 0 ≤ _)⟩)
                  dsimp only [Pt.U, Pt.locs, Pt.cells, Pt.slots] at X218 l218 y218 z218 st218 hQ218
                  subst l218 y218 z218
                  have N218q := (show _ ∧ _ ∧ _ from hQ218).1
                  have hv218 := (show _ ∧ _ ∧ _ from hQ218).2.1
                  have e218 := (show _ ∧ _ ∧ _ from hQ218).2.2
                  clear hQ218
                  subst hv218
                  have N218 := Fr.app N125 N218q
                  obtain ⟨cq219, kq219, q219a, q219b, q219c⟩ := isOf hZ e218 po125_0
                  obtain ⟨vr219, _, ⟨T219, L219, k219, n219⟩, -, X219, ⟨Lc219, hQ219, l219, y219, z219⟩, st219⟩ := X218.virtualBack hx (y := (⟨"com/example/vellum_index/vellumindex/IntList", "toArray", "()[I"⟩ : MethodName)) (z := (⟨"com/example/vellum_index/vellumindex/IntList", "toArray", "()[I"⟩ : MethodName)) hown (mvT hZ (hw _ (List.mem_of_getElem? (i := 25) rfl))) (mvT hZ (hw _ (List.mem_of_getElem? (i := 26) rfl))) (notFace_of_selects (args := #[]) (mvT hZ (hw _ (List.mem_of_getElem? (i := 28) rfl)))) (mvT hZ (hw _ (List.mem_of_getElem? (i := 28) rfl))) (mvT hZ (hw _ (List.mem_of_getElem? (i := 27) rfl))) (by decide) (backOf (W := 0) (rmta7 l Z a0 hw [] b51 xadd4_0_103 p0 p1 p2 p3 p4 (v0_3 p0 p1 p2 p3 p4 p5) (v0_4 p0 p1 p2 p3 p4 p5) (0 : Int32) kadd4_1_103 T125.heap n0 z126 po125_0 po125_1 po125_2 po125_3 po125_4) hZ (hw _ (List.mem_of_getElem? (i := 29) rfl)) (hw _ (List.mem_of_getElem? (i := 4) rfl)) (by decide) (by decide)) q219a q219c (g := (mkF m 227 #[.val (.int p0), .val (.int p1), .val (.int p2), .val (.int p3), .val (.int p4), .val (.int p5), .val (.int (v0_2 p0 p1 p2 p3 p4 p5)), .val (.ref b1), .val (.ref b51), .unset] [(.ref b51)])) rfl (by rw [hml]; rfl) (Steps.refl _) (argsL := []) (rest := []) (lenOf pd____I rfl) rfl (by show 2 * 0 + _ ≤ _; exact Nat.le_of_eq rfl) (hb hby at_227) (fun _ _ => ⟨rfl, e218, (by decide : 4 + 1 ≤ _), (by decide : 23 + 7 ≤ _)⟩)
                  dsimp only [Pt.U, Pt.locs, Pt.cells, Pt.slots] at X219 l219 y219 z219 st219 hQ219
                  subst l219 y219 z219
                  have N219q := (show _ ∧ _ from hQ219).1
                  have hq219 := (show _ ∧ _ from hQ219).2
                  clear hQ219
                  obtain ⟨xta7_0_219, kta7_1_219, hq219x⟩ := hq219
                  have hv219 := hq219x.1
                  have szxta7_0_219 := hq219x.2.1
                  have K219 := hq219x.2.2.1
                  have po219_0 := hq219x.2.2.2.1
                  have po219_1 := hq219x.2.2.2.2
                  clear hq219x
                  subst hv219
                  have k220 := (((k104.keep K103).keep K117).keep K125)
                  have ne221 : b1 ≠ xta7_0_219 := Nat.ne_of_lt (Nat.lt_of_lt_of_le k220.lt szxta7_0_219)
                  have ne222 : b51 ≠ xta7_0_219 := Nat.ne_of_lt (Nat.lt_of_lt_of_le po125_0.lt szxta7_0_219)
                  have k223 := (((po95_3.keep K103).keep K117).keep K125)
                  have ne224 : x1_0_58 ≠ xta7_0_219 := Nat.ne_of_lt (Nat.lt_of_lt_of_le k223.lt szxta7_0_219)
                  have ne225 : xadd4_0_103 ≠ xta7_0_219 := Nat.ne_of_lt (Nat.lt_of_lt_of_le po125_3.lt szxta7_0_219)
                  have g226 : n0 ≤ xta7_0_219 := Nat.le_trans z126 szxta7_0_219
                  have sz227 : h0.size ≤ xta7_0_219 := Nat.le_trans hs127 szxta7_0_219
                  have z228 : n0 ≤ T219.heap.size := Nat.le_trans z126 K219.1
                  have hs229 : h0.size ≤ T219.heap.size := Nat.le_trans hs127 K219.1
                  have N219 := Fr.app N218 N219q
                  obtain ⟨cl230, Ar230, qc230, S230, M230, Ha230, G230⟩ := id po219_1
                  have hin231 : ¬ ((0 : Int32) < 0 ∨ cl230.slots.size ≤ ((0 : Int32)).toNatClampNeg) := inb_of S230 ⟨by decide, by decide⟩
                  have k232 := ((k122.keep K125 (ninS ne53 (ninS ne105 nin0))).keep K219 nin0)
                  obtain ⟨cl233, Ar233, qc233, S233, M233, Ha233, G233⟩ := id k232
                  have hin234 : ¬ ((0 : Int32) < 0 ∨ cl233.slots.size ≤ ((0 : Int32)).toNatClampNeg) := inb_of S233 ⟨by decide, by decide⟩
                  have hin235 : ¬ ((1 : Int32) < 0 ∨ cl230.slots.size ≤ ((1 : Int32)).toNatClampNeg) := inb_of S230 ⟨by decide, by decide⟩
                  have hin236 : ¬ ((1 : Int32) < 0 ∨ cl233.slots.size ≤ ((1 : Int32)).toNatClampNeg) := inb_of S233 ⟨by decide, by decide⟩
                  have hin237 : ¬ ((2 : Int32) < 0 ∨ cl230.slots.size ≤ ((2 : Int32)).toNatClampNeg) := inb_of S230 ⟨by decide, by decide⟩
                  have hin238 : ¬ ((2 : Int32) < 0 ∨ cl233.slots.size ≤ ((2 : Int32)).toNatClampNeg) := inb_of S233 ⟨by decide, by decide⟩
                  have hin239 : ¬ ((3 : Int32) < 0 ∨ cl230.slots.size ≤ ((3 : Int32)).toNatClampNeg) := inb_of S230 ⟨by decide, by decide⟩
                  have hin240 : ¬ ((3 : Int32) < 0 ∨ cl233.slots.size ≤ ((3 : Int32)).toNatClampNeg) := inb_of S233 ⟨by decide, by decide⟩
                  have hin241 : ¬ ((4 : Int32) < 0 ∨ cl230.slots.size ≤ ((4 : Int32)).toNatClampNeg) := inb_of S230 ⟨by decide, by decide⟩
                  have hin242 : ¬ ((4 : Int32) < 0 ∨ cl233.slots.size ≤ ((4 : Int32)).toNatClampNeg) := inb_of S233 ⟨by decide, by decide⟩
                  have hin243 : ¬ ((5 : Int32) < 0 ∨ cl230.slots.size ≤ ((5 : Int32)).toNatClampNeg) := inb_of S230 ⟨by decide, by decide⟩
                  have hin244 : ¬ ((5 : Int32) < 0 ∨ cl233.slots.size ≤ ((5 : Int32)).toNatClampNeg) := inb_of S233 ⟨by decide, by decide⟩
                  have hin245 : ¬ ((6 : Int32) < 0 ∨ cl230.slots.size ≤ ((6 : Int32)).toNatClampNeg) := inb_of S230 ⟨by decide, by decide⟩
                  have hin246 : ¬ ((6 : Int32) < 0 ∨ cl233.slots.size ≤ ((6 : Int32)).toNatClampNeg) := inb_of S233 ⟨by decide, by decide⟩
                  obtain ⟨fs, hr, hrun, hended, hW, hsame⟩ := X219.leave (v := some (.int (1 : Int32))) (fun h => by rw [Bd.returns] at h; cases h) hlk
                  refine ⟨_, _, pre128 _ ?_, hrun, hended, _, _, rfl, ?_, ⟨_, rfl⟩, hW, hsame.mono (by decide) (by decide)⟩
                  · skip
                    show Steps p.tables e below (T125.setTop (mkF m 183 #[.val (.int p0), .val (.int p1), .val (.int p2), .val (.int p3), .val (.int p4), .val (.int p5), .val (.int (v0_2 p0 p1 p2 p3 p4 p5)), .val (.ref b1), .val (.ref b51), .unset] [(.int (7 : Int32)), (.int (v0_2 p0 p1 p2 p3 p4 p5))])) _
                    refine XS.icmpYes X125.here hx rfl (pc0 := 183) (pc' := 196) rfl (hb hby at_183) rfl (XT.ii_le_t c129) (by decide) (by decide) ?_
                    show Steps p.tables e below (T125.setTop (mkF m 196 #[.val (.int p0), .val (.int p1), .val (.int p2), .val (.int p3), .val (.int p4), .val (.int p5), .val (.int (v0_2 p0 p1 p2 p3 p4 p5)), .val (.ref b1), .val (.ref b51), .unset] [])) _
                    refine XS.iload X125.here hx rfl (hb hby at_196) rfl ?_
                    show Steps p.tables e below (T125.setTop (mkF m 198 #[.val (.int p0), .val (.int p1), .val (.int p2), .val (.int p3), .val (.int p4), .val (.int p5), .val (.int (v0_2 p0 p1 p2 p3 p4 p5)), .val (.ref b1), .val (.ref b51), .unset] [(.int (v0_2 p0 p1 p2 p3 p4 p5))])) _
                    refine XT.bipushV X125.here hx rfl (8 : Int32) (hb hby at_198) (by decide) ?_
                    show Steps p.tables e below (T125.setTop (mkF m 200 #[.val (.int p0), .val (.int p1), .val (.int p2), .val (.int p3), .val (.int p4), .val (.int p5), .val (.int (v0_2 p0 p1 p2 p3 p4 p5)), .val (.ref b1), .val (.ref b51), .unset] [(.int (8 : Int32)), (.int (v0_2 p0 p1 p2 p3 p4 p5))])) _
                    refine XS.icmpYes X125.here hx rfl (pc0 := 200) (pc' := 213) rfl (hb hby at_200) rfl (XT.ii_le_t (own_mono c129 (by decide))) (by decide) (by decide) ?_
                    show Steps p.tables e below (T125.setTop (mkF m 213 #[.val (.int p0), .val (.int p1), .val (.int p2), .val (.int p3), .val (.int p4), .val (.int p5), .val (.int (v0_2 p0 p1 p2 p3 p4 p5)), .val (.ref b1), .val (.ref b51), .unset] [])) _
                    refine XS.aload X125.here hx rfl (hb hby at_213) rfl rfl ?_
                    show Steps p.tables e below (T125.setTop (mkF m 215 #[.val (.int p0), .val (.int p1), .val (.int p2), .val (.int p3), .val (.int p4), .val (.int p5), .val (.int (v0_2 p0 p1 p2 p3 p4 p5)), .val (.ref b1), .val (.ref b51), .unset] [(.ref b51)])) _
                    refine st218.trans ?_
                    show Steps p.tables e below (T218.setTop (mkF m 218 #[.val (.int p0), .val (.int p1), .val (.int p2), .val (.int p3), .val (.int p4), .val (.int p5), .val (.int (v0_2 p0 p1 p2 p3 p4 p5)), .val (.ref b1), .val (.ref b51), .unset] [(.int (f4 (7 : Int32)))])) _
                    refine XS.iload X218.here hx rfl (hb hby at_218) rfl ?_
                    show Steps p.tables e below (T218.setTop (mkF m 220 #[.val (.int p0), .val (.int p1), .val (.int p2), .val (.int p3), .val (.int p4), .val (.int p5), .val (.int (v0_2 p0 p1 p2 p3 p4 p5)), .val (.ref b1), .val (.ref b51), .unset] [(.int (v0_2 p0 p1 p2 p3 p4 p5)), (.int (f4 (7 : Int32)))])) _
                    refine XS.icmpYes X218.here hx rfl (pc0 := 220) (pc' := 225) rfl (hb hby at_220) rfl (XT.ii_eq_t ((own_eqn c121 c129 (by decide))).symm) (by decide) (by decide) ?_
                    show Steps p.tables e below (T218.setTop (mkF m 225 #[.val (.int p0), .val (.int p1), .val (.int p2), .val (.int p3), .val (.int p4), .val (.int p5), .val (.int (v0_2 p0 p1 p2 p3 p4 p5)), .val (.ref b1), .val (.ref b51), .unset] [])) _
                    refine XS.aload X218.here hx rfl (hb hby at_225) rfl rfl ?_
                    show Steps p.tables e below (T218.setTop (mkF m 227 #[.val (.int p0), .val (.int p1), .val (.int p2), .val (.int p3), .val (.int p4), .val (.int p5), .val (.int (v0_2 p0 p1 p2 p3 p4 p5)), .val (.ref b1), .val (.ref b51), .unset] [(.ref b51)])) _
                    refine st219.trans ?_
                    show Steps p.tables e below (T219.setTop (mkF m 230 #[.val (.int p0), .val (.int p1), .val (.int p2), .val (.int p3), .val (.int p4), .val (.int p5), .val (.int (v0_2 p0 p1 p2 p3 p4 p5)), .val (.ref b1), .val (.ref b51), .unset] [(.ref xta7_0_219)])) _
                    refine XS.astore X219.here hx rfl (hb hby at_230) rfl rfl (l' := #[.val (.int p0), .val (.int p1), .val (.int p2), .val (.int p3), .val (.int p4), .val (.int p5), .val (.int (v0_2 p0 p1 p2 p3 p4 p5)), .val (.ref b1), .val (.ref b51), .val (.ref xta7_0_219)]) rfl ?_
                    show Steps p.tables e below (T219.setTop (mkF m 232 #[.val (.int p0), .val (.int p1), .val (.int p2), .val (.int p3), .val (.int p4), .val (.int p5), .val (.int (v0_2 p0 p1 p2 p3 p4 p5)), .val (.ref b1), .val (.ref b51), .val (.ref xta7_0_219)] [])) _
                    refine XS.aload X219.here hx rfl (hb hby at_232) rfl rfl ?_
                    show Steps p.tables e below (T219.setTop (mkF m 234 #[.val (.int p0), .val (.int p1), .val (.int p2), .val (.int p3), .val (.int p4), .val (.int p5), .val (.int (v0_2 p0 p1 p2 p3 p4 p5)), .val (.ref b1), .val (.ref b51), .val (.ref xta7_0_219)] [(.ref xta7_0_219)])) _
                    refine X219.arraylength hx Ar230.1 (State.isArrayOf_alike hZ.alike Ar230.2.1) (g := (mkF m 234 #[.val (.int p0), .val (.int p1), .val (.int p2), .val (.int p3), .val (.int p4), .val (.int p5), .val (.int (v0_2 p0 p1 p2 p3 p4 p5)), .val (.ref b1), .val (.ref b51), .val (.ref xta7_0_219)] [(.ref xta7_0_219)])) rfl rfl (hb hby at_234) _ ?_
                    rw [len_of S230 M230]
                    show Steps p.tables e below (T219.setTop (mkF m 235 #[.val (.int p0), .val (.int p1), .val (.int p2), .val (.int p3), .val (.int p4), .val (.int p5), .val (.int (v0_2 p0 p1 p2 p3 p4 p5)), .val (.ref b1), .val (.ref b51), .val (.ref xta7_0_219)] [(.int (7 : Int32))])) _
                    refine XS.iload X219.here hx rfl (hb hby at_235) rfl ?_
                    show Steps p.tables e below (T219.setTop (mkF m 237 #[.val (.int p0), .val (.int p1), .val (.int p2), .val (.int p3), .val (.int p4), .val (.int p5), .val (.int (v0_2 p0 p1 p2 p3 p4 p5)), .val (.ref b1), .val (.ref b51), .val (.ref xta7_0_219)] [(.int (v0_2 p0 p1 p2 p3 p4 p5)), (.int (7 : Int32))])) _
                    refine XS.icmpYes X219.here hx rfl (pc0 := 237) (pc' := 242) rfl (hb hby at_237) rfl (XT.ii_eq_t ((own_eqn c121 c129 (by decide))).symm) (by decide) (by decide) ?_
                    show Steps p.tables e below (T219.setTop (mkF m 242 #[.val (.int p0), .val (.int p1), .val (.int p2), .val (.int p3), .val (.int p4), .val (.int p5), .val (.int (v0_2 p0 p1 p2 p3 p4 p5)), .val (.ref b1), .val (.ref b51), .val (.ref xta7_0_219)] [])) _
                    refine XS.iload X219.here hx rfl (hb hby at_242) rfl ?_
                    show Steps p.tables e below (T219.setTop (mkF m 244 #[.val (.int p0), .val (.int p1), .val (.int p2), .val (.int p3), .val (.int p4), .val (.int p5), .val (.int (v0_2 p0 p1 p2 p3 p4 p5)), .val (.ref b1), .val (.ref b51), .val (.ref xta7_0_219)] [(.int (v0_2 p0 p1 p2 p3 p4 p5))])) _
                    refine XS.ifNo X219.here hx rfl (hb hby at_244) rfl (XT.i0_le_f c67) ?_
                    show Steps p.tables e below (T219.setTop (mkF m 247 #[.val (.int p0), .val (.int p1), .val (.int p2), .val (.int p3), .val (.int p4), .val (.int p5), .val (.int (v0_2 p0 p1 p2 p3 p4 p5)), .val (.ref b1), .val (.ref b51), .val (.ref xta7_0_219)] [])) _
                    refine XS.aload X219.here hx rfl (hb hby at_247) rfl rfl ?_
                    show Steps p.tables e below (T219.setTop (mkF m 249 #[.val (.int p0), .val (.int p1), .val (.int p2), .val (.int p3), .val (.int p4), .val (.int p5), .val (.int (v0_2 p0 p1 p2 p3 p4 p5)), .val (.ref b1), .val (.ref b51), .val (.ref xta7_0_219)] [(.ref xta7_0_219)])) _
                    refine XT.iconstV X219.here hx rfl (0 : Int32) (hb hby at_249) (by decide) ?_
                    show Steps p.tables e below (T219.setTop (mkF m 250 #[.val (.int p0), .val (.int p1), .val (.int p2), .val (.int p3), .val (.int p4), .val (.int p5), .val (.int (v0_2 p0 p1 p2 p3 p4 p5)), .val (.ref b1), .val (.ref b51), .val (.ref xta7_0_219)] [(.int (0 : Int32)), (.ref xta7_0_219)])) _
                    refine X219.iaload hx (j := (0 : Int32)) (v := (.int p0)) Ar230.1 (State.isArrayOf_alike hZ.alike Ar230.2.1) Ar230.2.2 hin231 (Has.at Ha230 hin231 rfl) (g := (mkF m 250 #[.val (.int p0), .val (.int p1), .val (.int p2), .val (.int p3), .val (.int p4), .val (.int p5), .val (.int (v0_2 p0 p1 p2 p3 p4 p5)), .val (.ref b1), .val (.ref b51), .val (.ref xta7_0_219)] [(.int (0 : Int32)), (.ref xta7_0_219)])) rfl rfl (hb hby at_250) _ ?_
                    show Steps p.tables e below (T219.setTop (mkF m 251 #[.val (.int p0), .val (.int p1), .val (.int p2), .val (.int p3), .val (.int p4), .val (.int p5), .val (.int (v0_2 p0 p1 p2 p3 p4 p5)), .val (.ref b1), .val (.ref b51), .val (.ref xta7_0_219)] [(.int p0)])) _
                    refine XS.aload X219.here hx rfl (hb hby at_251) rfl rfl ?_
                    show Steps p.tables e below (T219.setTop (mkF m 253 #[.val (.int p0), .val (.int p1), .val (.int p2), .val (.int p3), .val (.int p4), .val (.int p5), .val (.int (v0_2 p0 p1 p2 p3 p4 p5)), .val (.ref b1), .val (.ref b51), .val (.ref xta7_0_219)] [(.ref b1), (.int p0)])) _
                    refine XT.iconstV X219.here hx rfl (0 : Int32) (hb hby at_253) (by decide) ?_
                    show Steps p.tables e below (T219.setTop (mkF m 254 #[.val (.int p0), .val (.int p1), .val (.int p2), .val (.int p3), .val (.int p4), .val (.int p5), .val (.int (v0_2 p0 p1 p2 p3 p4 p5)), .val (.ref b1), .val (.ref b51), .val (.ref xta7_0_219)] [(.int (0 : Int32)), (.ref b1), (.int p0)])) _
                    refine X219.iaload hx (j := (0 : Int32)) (v := (.int p0)) Ar233.1 (State.isArrayOf_alike hZ.alike Ar233.2.1) Ar233.2.2 hin234 (Has.at Ha233 hin234 rfl) (g := (mkF m 254 #[.val (.int p0), .val (.int p1), .val (.int p2), .val (.int p3), .val (.int p4), .val (.int p5), .val (.int (v0_2 p0 p1 p2 p3 p4 p5)), .val (.ref b1), .val (.ref b51), .val (.ref xta7_0_219)] [(.int (0 : Int32)), (.ref b1), (.int p0)])) rfl rfl (hb hby at_254) _ ?_
                    show Steps p.tables e below (T219.setTop (mkF m 255 #[.val (.int p0), .val (.int p1), .val (.int p2), .val (.int p3), .val (.int p4), .val (.int p5), .val (.int (v0_2 p0 p1 p2 p3 p4 p5)), .val (.ref b1), .val (.ref b51), .val (.ref xta7_0_219)] [(.int p0), (.int p0)])) _
                    refine XS.icmpYes X219.here hx rfl (pc0 := 255) (pc' := 260) rfl (hb hby at_255) rfl (XT.ii_eq_t (rfl : p0 = p0)) (by decide) (by decide) ?_
                    show Steps p.tables e below (T219.setTop (mkF m 260 #[.val (.int p0), .val (.int p1), .val (.int p2), .val (.int p3), .val (.int p4), .val (.int p5), .val (.int (v0_2 p0 p1 p2 p3 p4 p5)), .val (.ref b1), .val (.ref b51), .val (.ref xta7_0_219)] [])) _
                    refine XS.iload X219.here hx rfl (hb hby at_260) rfl ?_
                    show Steps p.tables e below (T219.setTop (mkF m 262 #[.val (.int p0), .val (.int p1), .val (.int p2), .val (.int p3), .val (.int p4), .val (.int p5), .val (.int (v0_2 p0 p1 p2 p3 p4 p5)), .val (.ref b1), .val (.ref b51), .val (.ref xta7_0_219)] [(.int (v0_2 p0 p1 p2 p3 p4 p5))])) _
                    refine XT.iconstV X219.here hx rfl (1 : Int32) (hb hby at_262) (by decide) ?_
                    show Steps p.tables e below (T219.setTop (mkF m 263 #[.val (.int p0), .val (.int p1), .val (.int p2), .val (.int p3), .val (.int p4), .val (.int p5), .val (.int (v0_2 p0 p1 p2 p3 p4 p5)), .val (.ref b1), .val (.ref b51), .val (.ref xta7_0_219)] [(.int (1 : Int32)), (.int (v0_2 p0 p1 p2 p3 p4 p5))])) _
                    refine XS.icmpNo X219.here hx rfl (hb hby at_263) rfl (XT.ii_le_f c75) ?_
                    show Steps p.tables e below (T219.setTop (mkF m 266 #[.val (.int p0), .val (.int p1), .val (.int p2), .val (.int p3), .val (.int p4), .val (.int p5), .val (.int (v0_2 p0 p1 p2 p3 p4 p5)), .val (.ref b1), .val (.ref b51), .val (.ref xta7_0_219)] [])) _
                    refine XS.aload X219.here hx rfl (hb hby at_266) rfl rfl ?_
                    show Steps p.tables e below (T219.setTop (mkF m 268 #[.val (.int p0), .val (.int p1), .val (.int p2), .val (.int p3), .val (.int p4), .val (.int p5), .val (.int (v0_2 p0 p1 p2 p3 p4 p5)), .val (.ref b1), .val (.ref b51), .val (.ref xta7_0_219)] [(.ref xta7_0_219)])) _
                    refine XT.iconstV X219.here hx rfl (1 : Int32) (hb hby at_268) (by decide) ?_
                    show Steps p.tables e below (T219.setTop (mkF m 269 #[.val (.int p0), .val (.int p1), .val (.int p2), .val (.int p3), .val (.int p4), .val (.int p5), .val (.int (v0_2 p0 p1 p2 p3 p4 p5)), .val (.ref b1), .val (.ref b51), .val (.ref xta7_0_219)] [(.int (1 : Int32)), (.ref xta7_0_219)])) _
                    refine X219.iaload hx (j := (1 : Int32)) (v := (.int p1)) Ar230.1 (State.isArrayOf_alike hZ.alike Ar230.2.1) Ar230.2.2 hin235 (Has.at Ha230 hin235 rfl) (g := (mkF m 269 #[.val (.int p0), .val (.int p1), .val (.int p2), .val (.int p3), .val (.int p4), .val (.int p5), .val (.int (v0_2 p0 p1 p2 p3 p4 p5)), .val (.ref b1), .val (.ref b51), .val (.ref xta7_0_219)] [(.int (1 : Int32)), (.ref xta7_0_219)])) rfl rfl (hb hby at_269) _ ?_
                    show Steps p.tables e below (T219.setTop (mkF m 270 #[.val (.int p0), .val (.int p1), .val (.int p2), .val (.int p3), .val (.int p4), .val (.int p5), .val (.int (v0_2 p0 p1 p2 p3 p4 p5)), .val (.ref b1), .val (.ref b51), .val (.ref xta7_0_219)] [(.int p1)])) _
                    refine XS.aload X219.here hx rfl (hb hby at_270) rfl rfl ?_
                    show Steps p.tables e below (T219.setTop (mkF m 272 #[.val (.int p0), .val (.int p1), .val (.int p2), .val (.int p3), .val (.int p4), .val (.int p5), .val (.int (v0_2 p0 p1 p2 p3 p4 p5)), .val (.ref b1), .val (.ref b51), .val (.ref xta7_0_219)] [(.ref b1), (.int p1)])) _
                    refine XT.iconstV X219.here hx rfl (1 : Int32) (hb hby at_272) (by decide) ?_
                    show Steps p.tables e below (T219.setTop (mkF m 273 #[.val (.int p0), .val (.int p1), .val (.int p2), .val (.int p3), .val (.int p4), .val (.int p5), .val (.int (v0_2 p0 p1 p2 p3 p4 p5)), .val (.ref b1), .val (.ref b51), .val (.ref xta7_0_219)] [(.int (1 : Int32)), (.ref b1), (.int p1)])) _
                    refine X219.iaload hx (j := (1 : Int32)) (v := (.int p1)) Ar233.1 (State.isArrayOf_alike hZ.alike Ar233.2.1) Ar233.2.2 hin236 (Has.at Ha233 hin236 rfl) (g := (mkF m 273 #[.val (.int p0), .val (.int p1), .val (.int p2), .val (.int p3), .val (.int p4), .val (.int p5), .val (.int (v0_2 p0 p1 p2 p3 p4 p5)), .val (.ref b1), .val (.ref b51), .val (.ref xta7_0_219)] [(.int (1 : Int32)), (.ref b1), (.int p1)])) rfl rfl (hb hby at_273) _ ?_
                    show Steps p.tables e below (T219.setTop (mkF m 274 #[.val (.int p0), .val (.int p1), .val (.int p2), .val (.int p3), .val (.int p4), .val (.int p5), .val (.int (v0_2 p0 p1 p2 p3 p4 p5)), .val (.ref b1), .val (.ref b51), .val (.ref xta7_0_219)] [(.int p1), (.int p1)])) _
                    refine XS.icmpYes X219.here hx rfl (pc0 := 274) (pc' := 279) rfl (hb hby at_274) rfl (XT.ii_eq_t (rfl : p1 = p1)) (by decide) (by decide) ?_
                    show Steps p.tables e below (T219.setTop (mkF m 279 #[.val (.int p0), .val (.int p1), .val (.int p2), .val (.int p3), .val (.int p4), .val (.int p5), .val (.int (v0_2 p0 p1 p2 p3 p4 p5)), .val (.ref b1), .val (.ref b51), .val (.ref xta7_0_219)] [])) _
                    refine XS.iload X219.here hx rfl (hb hby at_279) rfl ?_
                    show Steps p.tables e below (T219.setTop (mkF m 281 #[.val (.int p0), .val (.int p1), .val (.int p2), .val (.int p3), .val (.int p4), .val (.int p5), .val (.int (v0_2 p0 p1 p2 p3 p4 p5)), .val (.ref b1), .val (.ref b51), .val (.ref xta7_0_219)] [(.int (v0_2 p0 p1 p2 p3 p4 p5))])) _
                    refine XT.iconstV X219.here hx rfl (2 : Int32) (hb hby at_281) (by decide) ?_
                    show Steps p.tables e below (T219.setTop (mkF m 282 #[.val (.int p0), .val (.int p1), .val (.int p2), .val (.int p3), .val (.int p4), .val (.int p5), .val (.int (v0_2 p0 p1 p2 p3 p4 p5)), .val (.ref b1), .val (.ref b51), .val (.ref xta7_0_219)] [(.int (2 : Int32)), (.int (v0_2 p0 p1 p2 p3 p4 p5))])) _
                    refine XS.icmpNo X219.here hx rfl (hb hby at_282) rfl (XT.ii_le_f c83) ?_
                    show Steps p.tables e below (T219.setTop (mkF m 285 #[.val (.int p0), .val (.int p1), .val (.int p2), .val (.int p3), .val (.int p4), .val (.int p5), .val (.int (v0_2 p0 p1 p2 p3 p4 p5)), .val (.ref b1), .val (.ref b51), .val (.ref xta7_0_219)] [])) _
                    refine XS.aload X219.here hx rfl (hb hby at_285) rfl rfl ?_
                    show Steps p.tables e below (T219.setTop (mkF m 287 #[.val (.int p0), .val (.int p1), .val (.int p2), .val (.int p3), .val (.int p4), .val (.int p5), .val (.int (v0_2 p0 p1 p2 p3 p4 p5)), .val (.ref b1), .val (.ref b51), .val (.ref xta7_0_219)] [(.ref xta7_0_219)])) _
                    refine XT.iconstV X219.here hx rfl (2 : Int32) (hb hby at_287) (by decide) ?_
                    show Steps p.tables e below (T219.setTop (mkF m 288 #[.val (.int p0), .val (.int p1), .val (.int p2), .val (.int p3), .val (.int p4), .val (.int p5), .val (.int (v0_2 p0 p1 p2 p3 p4 p5)), .val (.ref b1), .val (.ref b51), .val (.ref xta7_0_219)] [(.int (2 : Int32)), (.ref xta7_0_219)])) _
                    refine X219.iaload hx (j := (2 : Int32)) (v := (.int p2)) Ar230.1 (State.isArrayOf_alike hZ.alike Ar230.2.1) Ar230.2.2 hin237 (Has.at Ha230 hin237 rfl) (g := (mkF m 288 #[.val (.int p0), .val (.int p1), .val (.int p2), .val (.int p3), .val (.int p4), .val (.int p5), .val (.int (v0_2 p0 p1 p2 p3 p4 p5)), .val (.ref b1), .val (.ref b51), .val (.ref xta7_0_219)] [(.int (2 : Int32)), (.ref xta7_0_219)])) rfl rfl (hb hby at_288) _ ?_
                    show Steps p.tables e below (T219.setTop (mkF m 289 #[.val (.int p0), .val (.int p1), .val (.int p2), .val (.int p3), .val (.int p4), .val (.int p5), .val (.int (v0_2 p0 p1 p2 p3 p4 p5)), .val (.ref b1), .val (.ref b51), .val (.ref xta7_0_219)] [(.int p2)])) _
                    refine XS.aload X219.here hx rfl (hb hby at_289) rfl rfl ?_
                    show Steps p.tables e below (T219.setTop (mkF m 291 #[.val (.int p0), .val (.int p1), .val (.int p2), .val (.int p3), .val (.int p4), .val (.int p5), .val (.int (v0_2 p0 p1 p2 p3 p4 p5)), .val (.ref b1), .val (.ref b51), .val (.ref xta7_0_219)] [(.ref b1), (.int p2)])) _
                    refine XT.iconstV X219.here hx rfl (2 : Int32) (hb hby at_291) (by decide) ?_
                    show Steps p.tables e below (T219.setTop (mkF m 292 #[.val (.int p0), .val (.int p1), .val (.int p2), .val (.int p3), .val (.int p4), .val (.int p5), .val (.int (v0_2 p0 p1 p2 p3 p4 p5)), .val (.ref b1), .val (.ref b51), .val (.ref xta7_0_219)] [(.int (2 : Int32)), (.ref b1), (.int p2)])) _
                    refine X219.iaload hx (j := (2 : Int32)) (v := (.int p2)) Ar233.1 (State.isArrayOf_alike hZ.alike Ar233.2.1) Ar233.2.2 hin238 (Has.at Ha233 hin238 rfl) (g := (mkF m 292 #[.val (.int p0), .val (.int p1), .val (.int p2), .val (.int p3), .val (.int p4), .val (.int p5), .val (.int (v0_2 p0 p1 p2 p3 p4 p5)), .val (.ref b1), .val (.ref b51), .val (.ref xta7_0_219)] [(.int (2 : Int32)), (.ref b1), (.int p2)])) rfl rfl (hb hby at_292) _ ?_
                    show Steps p.tables e below (T219.setTop (mkF m 293 #[.val (.int p0), .val (.int p1), .val (.int p2), .val (.int p3), .val (.int p4), .val (.int p5), .val (.int (v0_2 p0 p1 p2 p3 p4 p5)), .val (.ref b1), .val (.ref b51), .val (.ref xta7_0_219)] [(.int p2), (.int p2)])) _
                    refine XS.icmpYes X219.here hx rfl (pc0 := 293) (pc' := 298) rfl (hb hby at_293) rfl (XT.ii_eq_t (rfl : p2 = p2)) (by decide) (by decide) ?_
                    show Steps p.tables e below (T219.setTop (mkF m 298 #[.val (.int p0), .val (.int p1), .val (.int p2), .val (.int p3), .val (.int p4), .val (.int p5), .val (.int (v0_2 p0 p1 p2 p3 p4 p5)), .val (.ref b1), .val (.ref b51), .val (.ref xta7_0_219)] [])) _
                    refine XS.iload X219.here hx rfl (hb hby at_298) rfl ?_
                    show Steps p.tables e below (T219.setTop (mkF m 300 #[.val (.int p0), .val (.int p1), .val (.int p2), .val (.int p3), .val (.int p4), .val (.int p5), .val (.int (v0_2 p0 p1 p2 p3 p4 p5)), .val (.ref b1), .val (.ref b51), .val (.ref xta7_0_219)] [(.int (v0_2 p0 p1 p2 p3 p4 p5))])) _
                    refine XT.iconstV X219.here hx rfl (3 : Int32) (hb hby at_300) (by decide) ?_
                    show Steps p.tables e below (T219.setTop (mkF m 301 #[.val (.int p0), .val (.int p1), .val (.int p2), .val (.int p3), .val (.int p4), .val (.int p5), .val (.int (v0_2 p0 p1 p2 p3 p4 p5)), .val (.ref b1), .val (.ref b51), .val (.ref xta7_0_219)] [(.int (3 : Int32)), (.int (v0_2 p0 p1 p2 p3 p4 p5))])) _
                    refine XS.icmpNo X219.here hx rfl (hb hby at_301) rfl (XT.ii_le_f c91) ?_
                    show Steps p.tables e below (T219.setTop (mkF m 304 #[.val (.int p0), .val (.int p1), .val (.int p2), .val (.int p3), .val (.int p4), .val (.int p5), .val (.int (v0_2 p0 p1 p2 p3 p4 p5)), .val (.ref b1), .val (.ref b51), .val (.ref xta7_0_219)] [])) _
                    refine XS.aload X219.here hx rfl (hb hby at_304) rfl rfl ?_
                    show Steps p.tables e below (T219.setTop (mkF m 306 #[.val (.int p0), .val (.int p1), .val (.int p2), .val (.int p3), .val (.int p4), .val (.int p5), .val (.int (v0_2 p0 p1 p2 p3 p4 p5)), .val (.ref b1), .val (.ref b51), .val (.ref xta7_0_219)] [(.ref xta7_0_219)])) _
                    refine XT.iconstV X219.here hx rfl (3 : Int32) (hb hby at_306) (by decide) ?_
                    show Steps p.tables e below (T219.setTop (mkF m 307 #[.val (.int p0), .val (.int p1), .val (.int p2), .val (.int p3), .val (.int p4), .val (.int p5), .val (.int (v0_2 p0 p1 p2 p3 p4 p5)), .val (.ref b1), .val (.ref b51), .val (.ref xta7_0_219)] [(.int (3 : Int32)), (.ref xta7_0_219)])) _
                    refine X219.iaload hx (j := (3 : Int32)) (v := (.int p3)) Ar230.1 (State.isArrayOf_alike hZ.alike Ar230.2.1) Ar230.2.2 hin239 (Has.at Ha230 hin239 rfl) (g := (mkF m 307 #[.val (.int p0), .val (.int p1), .val (.int p2), .val (.int p3), .val (.int p4), .val (.int p5), .val (.int (v0_2 p0 p1 p2 p3 p4 p5)), .val (.ref b1), .val (.ref b51), .val (.ref xta7_0_219)] [(.int (3 : Int32)), (.ref xta7_0_219)])) rfl rfl (hb hby at_307) _ ?_
                    show Steps p.tables e below (T219.setTop (mkF m 308 #[.val (.int p0), .val (.int p1), .val (.int p2), .val (.int p3), .val (.int p4), .val (.int p5), .val (.int (v0_2 p0 p1 p2 p3 p4 p5)), .val (.ref b1), .val (.ref b51), .val (.ref xta7_0_219)] [(.int p3)])) _
                    refine XS.aload X219.here hx rfl (hb hby at_308) rfl rfl ?_
                    show Steps p.tables e below (T219.setTop (mkF m 310 #[.val (.int p0), .val (.int p1), .val (.int p2), .val (.int p3), .val (.int p4), .val (.int p5), .val (.int (v0_2 p0 p1 p2 p3 p4 p5)), .val (.ref b1), .val (.ref b51), .val (.ref xta7_0_219)] [(.ref b1), (.int p3)])) _
                    refine XT.iconstV X219.here hx rfl (3 : Int32) (hb hby at_310) (by decide) ?_
                    show Steps p.tables e below (T219.setTop (mkF m 311 #[.val (.int p0), .val (.int p1), .val (.int p2), .val (.int p3), .val (.int p4), .val (.int p5), .val (.int (v0_2 p0 p1 p2 p3 p4 p5)), .val (.ref b1), .val (.ref b51), .val (.ref xta7_0_219)] [(.int (3 : Int32)), (.ref b1), (.int p3)])) _
                    refine X219.iaload hx (j := (3 : Int32)) (v := (.int p3)) Ar233.1 (State.isArrayOf_alike hZ.alike Ar233.2.1) Ar233.2.2 hin240 (Has.at Ha233 hin240 rfl) (g := (mkF m 311 #[.val (.int p0), .val (.int p1), .val (.int p2), .val (.int p3), .val (.int p4), .val (.int p5), .val (.int (v0_2 p0 p1 p2 p3 p4 p5)), .val (.ref b1), .val (.ref b51), .val (.ref xta7_0_219)] [(.int (3 : Int32)), (.ref b1), (.int p3)])) rfl rfl (hb hby at_311) _ ?_
                    show Steps p.tables e below (T219.setTop (mkF m 312 #[.val (.int p0), .val (.int p1), .val (.int p2), .val (.int p3), .val (.int p4), .val (.int p5), .val (.int (v0_2 p0 p1 p2 p3 p4 p5)), .val (.ref b1), .val (.ref b51), .val (.ref xta7_0_219)] [(.int p3), (.int p3)])) _
                    refine XS.icmpYes X219.here hx rfl (pc0 := 312) (pc' := 317) rfl (hb hby at_312) rfl (XT.ii_eq_t (rfl : p3 = p3)) (by decide) (by decide) ?_
                    show Steps p.tables e below (T219.setTop (mkF m 317 #[.val (.int p0), .val (.int p1), .val (.int p2), .val (.int p3), .val (.int p4), .val (.int p5), .val (.int (v0_2 p0 p1 p2 p3 p4 p5)), .val (.ref b1), .val (.ref b51), .val (.ref xta7_0_219)] [])) _
                    refine XS.iload X219.here hx rfl (hb hby at_317) rfl ?_
                    show Steps p.tables e below (T219.setTop (mkF m 319 #[.val (.int p0), .val (.int p1), .val (.int p2), .val (.int p3), .val (.int p4), .val (.int p5), .val (.int (v0_2 p0 p1 p2 p3 p4 p5)), .val (.ref b1), .val (.ref b51), .val (.ref xta7_0_219)] [(.int (v0_2 p0 p1 p2 p3 p4 p5))])) _
                    refine XT.iconstV X219.here hx rfl (4 : Int32) (hb hby at_319) (by decide) ?_
                    show Steps p.tables e below (T219.setTop (mkF m 320 #[.val (.int p0), .val (.int p1), .val (.int p2), .val (.int p3), .val (.int p4), .val (.int p5), .val (.int (v0_2 p0 p1 p2 p3 p4 p5)), .val (.ref b1), .val (.ref b51), .val (.ref xta7_0_219)] [(.int (4 : Int32)), (.int (v0_2 p0 p1 p2 p3 p4 p5))])) _
                    refine XS.icmpNo X219.here hx rfl (hb hby at_320) rfl (XT.ii_le_f c99) ?_
                    show Steps p.tables e below (T219.setTop (mkF m 323 #[.val (.int p0), .val (.int p1), .val (.int p2), .val (.int p3), .val (.int p4), .val (.int p5), .val (.int (v0_2 p0 p1 p2 p3 p4 p5)), .val (.ref b1), .val (.ref b51), .val (.ref xta7_0_219)] [])) _
                    refine XS.aload X219.here hx rfl (hb hby at_323) rfl rfl ?_
                    show Steps p.tables e below (T219.setTop (mkF m 325 #[.val (.int p0), .val (.int p1), .val (.int p2), .val (.int p3), .val (.int p4), .val (.int p5), .val (.int (v0_2 p0 p1 p2 p3 p4 p5)), .val (.ref b1), .val (.ref b51), .val (.ref xta7_0_219)] [(.ref xta7_0_219)])) _
                    refine XT.iconstV X219.here hx rfl (4 : Int32) (hb hby at_325) (by decide) ?_
                    show Steps p.tables e below (T219.setTop (mkF m 326 #[.val (.int p0), .val (.int p1), .val (.int p2), .val (.int p3), .val (.int p4), .val (.int p5), .val (.int (v0_2 p0 p1 p2 p3 p4 p5)), .val (.ref b1), .val (.ref b51), .val (.ref xta7_0_219)] [(.int (4 : Int32)), (.ref xta7_0_219)])) _
                    refine X219.iaload hx (j := (4 : Int32)) (v := (.int p4)) Ar230.1 (State.isArrayOf_alike hZ.alike Ar230.2.1) Ar230.2.2 hin241 (Has.at Ha230 hin241 rfl) (g := (mkF m 326 #[.val (.int p0), .val (.int p1), .val (.int p2), .val (.int p3), .val (.int p4), .val (.int p5), .val (.int (v0_2 p0 p1 p2 p3 p4 p5)), .val (.ref b1), .val (.ref b51), .val (.ref xta7_0_219)] [(.int (4 : Int32)), (.ref xta7_0_219)])) rfl rfl (hb hby at_326) _ ?_
                    show Steps p.tables e below (T219.setTop (mkF m 327 #[.val (.int p0), .val (.int p1), .val (.int p2), .val (.int p3), .val (.int p4), .val (.int p5), .val (.int (v0_2 p0 p1 p2 p3 p4 p5)), .val (.ref b1), .val (.ref b51), .val (.ref xta7_0_219)] [(.int p4)])) _
                    refine XS.aload X219.here hx rfl (hb hby at_327) rfl rfl ?_
                    show Steps p.tables e below (T219.setTop (mkF m 329 #[.val (.int p0), .val (.int p1), .val (.int p2), .val (.int p3), .val (.int p4), .val (.int p5), .val (.int (v0_2 p0 p1 p2 p3 p4 p5)), .val (.ref b1), .val (.ref b51), .val (.ref xta7_0_219)] [(.ref b1), (.int p4)])) _
                    refine XT.iconstV X219.here hx rfl (4 : Int32) (hb hby at_329) (by decide) ?_
                    show Steps p.tables e below (T219.setTop (mkF m 330 #[.val (.int p0), .val (.int p1), .val (.int p2), .val (.int p3), .val (.int p4), .val (.int p5), .val (.int (v0_2 p0 p1 p2 p3 p4 p5)), .val (.ref b1), .val (.ref b51), .val (.ref xta7_0_219)] [(.int (4 : Int32)), (.ref b1), (.int p4)])) _
                    refine X219.iaload hx (j := (4 : Int32)) (v := (.int p4)) Ar233.1 (State.isArrayOf_alike hZ.alike Ar233.2.1) Ar233.2.2 hin242 (Has.at Ha233 hin242 rfl) (g := (mkF m 330 #[.val (.int p0), .val (.int p1), .val (.int p2), .val (.int p3), .val (.int p4), .val (.int p5), .val (.int (v0_2 p0 p1 p2 p3 p4 p5)), .val (.ref b1), .val (.ref b51), .val (.ref xta7_0_219)] [(.int (4 : Int32)), (.ref b1), (.int p4)])) rfl rfl (hb hby at_330) _ ?_
                    show Steps p.tables e below (T219.setTop (mkF m 331 #[.val (.int p0), .val (.int p1), .val (.int p2), .val (.int p3), .val (.int p4), .val (.int p5), .val (.int (v0_2 p0 p1 p2 p3 p4 p5)), .val (.ref b1), .val (.ref b51), .val (.ref xta7_0_219)] [(.int p4), (.int p4)])) _
                    refine XS.icmpYes X219.here hx rfl (pc0 := 331) (pc' := 336) rfl (hb hby at_331) rfl (XT.ii_eq_t (rfl : p4 = p4)) (by decide) (by decide) ?_
                    show Steps p.tables e below (T219.setTop (mkF m 336 #[.val (.int p0), .val (.int p1), .val (.int p2), .val (.int p3), .val (.int p4), .val (.int p5), .val (.int (v0_2 p0 p1 p2 p3 p4 p5)), .val (.ref b1), .val (.ref b51), .val (.ref xta7_0_219)] [])) _
                    refine XS.iload X219.here hx rfl (hb hby at_336) rfl ?_
                    show Steps p.tables e below (T219.setTop (mkF m 338 #[.val (.int p0), .val (.int p1), .val (.int p2), .val (.int p3), .val (.int p4), .val (.int p5), .val (.int (v0_2 p0 p1 p2 p3 p4 p5)), .val (.ref b1), .val (.ref b51), .val (.ref xta7_0_219)] [(.int (v0_2 p0 p1 p2 p3 p4 p5))])) _
                    refine XT.iconstV X219.here hx rfl (5 : Int32) (hb hby at_338) (by decide) ?_
                    show Steps p.tables e below (T219.setTop (mkF m 339 #[.val (.int p0), .val (.int p1), .val (.int p2), .val (.int p3), .val (.int p4), .val (.int p5), .val (.int (v0_2 p0 p1 p2 p3 p4 p5)), .val (.ref b1), .val (.ref b51), .val (.ref xta7_0_219)] [(.int (5 : Int32)), (.int (v0_2 p0 p1 p2 p3 p4 p5))])) _
                    refine XS.icmpNo X219.here hx rfl (hb hby at_339) rfl (XT.ii_le_f c113) ?_
                    show Steps p.tables e below (T219.setTop (mkF m 342 #[.val (.int p0), .val (.int p1), .val (.int p2), .val (.int p3), .val (.int p4), .val (.int p5), .val (.int (v0_2 p0 p1 p2 p3 p4 p5)), .val (.ref b1), .val (.ref b51), .val (.ref xta7_0_219)] [])) _
                    refine XS.aload X219.here hx rfl (hb hby at_342) rfl rfl ?_
                    show Steps p.tables e below (T219.setTop (mkF m 344 #[.val (.int p0), .val (.int p1), .val (.int p2), .val (.int p3), .val (.int p4), .val (.int p5), .val (.int (v0_2 p0 p1 p2 p3 p4 p5)), .val (.ref b1), .val (.ref b51), .val (.ref xta7_0_219)] [(.ref xta7_0_219)])) _
                    refine XT.iconstV X219.here hx rfl (5 : Int32) (hb hby at_344) (by decide) ?_
                    show Steps p.tables e below (T219.setTop (mkF m 345 #[.val (.int p0), .val (.int p1), .val (.int p2), .val (.int p3), .val (.int p4), .val (.int p5), .val (.int (v0_2 p0 p1 p2 p3 p4 p5)), .val (.ref b1), .val (.ref b51), .val (.ref xta7_0_219)] [(.int (5 : Int32)), (.ref xta7_0_219)])) _
                    refine X219.iaload hx (j := (5 : Int32)) (v := (.int (v0_3 p0 p1 p2 p3 p4 p5))) Ar230.1 (State.isArrayOf_alike hZ.alike Ar230.2.1) Ar230.2.2 hin243 (Has.at Ha230 hin243 rfl) (g := (mkF m 345 #[.val (.int p0), .val (.int p1), .val (.int p2), .val (.int p3), .val (.int p4), .val (.int p5), .val (.int (v0_2 p0 p1 p2 p3 p4 p5)), .val (.ref b1), .val (.ref b51), .val (.ref xta7_0_219)] [(.int (5 : Int32)), (.ref xta7_0_219)])) rfl rfl (hb hby at_345) _ ?_
                    show Steps p.tables e below (T219.setTop (mkF m 346 #[.val (.int p0), .val (.int p1), .val (.int p2), .val (.int p3), .val (.int p4), .val (.int p5), .val (.int (v0_2 p0 p1 p2 p3 p4 p5)), .val (.ref b1), .val (.ref b51), .val (.ref xta7_0_219)] [(.int (v0_3 p0 p1 p2 p3 p4 p5))])) _
                    refine XS.aload X219.here hx rfl (hb hby at_346) rfl rfl ?_
                    show Steps p.tables e below (T219.setTop (mkF m 348 #[.val (.int p0), .val (.int p1), .val (.int p2), .val (.int p3), .val (.int p4), .val (.int p5), .val (.int (v0_2 p0 p1 p2 p3 p4 p5)), .val (.ref b1), .val (.ref b51), .val (.ref xta7_0_219)] [(.ref b1), (.int (v0_3 p0 p1 p2 p3 p4 p5))])) _
                    refine XT.iconstV X219.here hx rfl (5 : Int32) (hb hby at_348) (by decide) ?_
                    show Steps p.tables e below (T219.setTop (mkF m 349 #[.val (.int p0), .val (.int p1), .val (.int p2), .val (.int p3), .val (.int p4), .val (.int p5), .val (.int (v0_2 p0 p1 p2 p3 p4 p5)), .val (.ref b1), .val (.ref b51), .val (.ref xta7_0_219)] [(.int (5 : Int32)), (.ref b1), (.int (v0_3 p0 p1 p2 p3 p4 p5))])) _
                    refine X219.iaload hx (j := (5 : Int32)) (v := (.int (v0_3 p0 p1 p2 p3 p4 p5))) Ar233.1 (State.isArrayOf_alike hZ.alike Ar233.2.1) Ar233.2.2 hin244 (Has.at Ha233 hin244 rfl) (g := (mkF m 349 #[.val (.int p0), .val (.int p1), .val (.int p2), .val (.int p3), .val (.int p4), .val (.int p5), .val (.int (v0_2 p0 p1 p2 p3 p4 p5)), .val (.ref b1), .val (.ref b51), .val (.ref xta7_0_219)] [(.int (5 : Int32)), (.ref b1), (.int (v0_3 p0 p1 p2 p3 p4 p5))])) rfl rfl (hb hby at_349) _ ?_
                    show Steps p.tables e below (T219.setTop (mkF m 350 #[.val (.int p0), .val (.int p1), .val (.int p2), .val (.int p3), .val (.int p4), .val (.int p5), .val (.int (v0_2 p0 p1 p2 p3 p4 p5)), .val (.ref b1), .val (.ref b51), .val (.ref xta7_0_219)] [(.int (v0_3 p0 p1 p2 p3 p4 p5)), (.int (v0_3 p0 p1 p2 p3 p4 p5))])) _
                    refine XS.icmpYes X219.here hx rfl (pc0 := 350) (pc' := 355) rfl (hb hby at_350) rfl (XT.ii_eq_t (rfl : (v0_3 p0 p1 p2 p3 p4 p5) = (v0_3 p0 p1 p2 p3 p4 p5))) (by decide) (by decide) ?_
                    show Steps p.tables e below (T219.setTop (mkF m 355 #[.val (.int p0), .val (.int p1), .val (.int p2), .val (.int p3), .val (.int p4), .val (.int p5), .val (.int (v0_2 p0 p1 p2 p3 p4 p5)), .val (.ref b1), .val (.ref b51), .val (.ref xta7_0_219)] [])) _
                    refine XS.iload X219.here hx rfl (hb hby at_355) rfl ?_
                    show Steps p.tables e below (T219.setTop (mkF m 357 #[.val (.int p0), .val (.int p1), .val (.int p2), .val (.int p3), .val (.int p4), .val (.int p5), .val (.int (v0_2 p0 p1 p2 p3 p4 p5)), .val (.ref b1), .val (.ref b51), .val (.ref xta7_0_219)] [(.int (v0_2 p0 p1 p2 p3 p4 p5))])) _
                    refine XT.bipushV X219.here hx rfl (6 : Int32) (hb hby at_357) (by decide) ?_
                    show Steps p.tables e below (T219.setTop (mkF m 359 #[.val (.int p0), .val (.int p1), .val (.int p2), .val (.int p3), .val (.int p4), .val (.int p5), .val (.int (v0_2 p0 p1 p2 p3 p4 p5)), .val (.ref b1), .val (.ref b51), .val (.ref xta7_0_219)] [(.int (6 : Int32)), (.int (v0_2 p0 p1 p2 p3 p4 p5))])) _
                    refine XS.icmpNo X219.here hx rfl (hb hby at_359) rfl (XT.ii_le_f c121) ?_
                    show Steps p.tables e below (T219.setTop (mkF m 362 #[.val (.int p0), .val (.int p1), .val (.int p2), .val (.int p3), .val (.int p4), .val (.int p5), .val (.int (v0_2 p0 p1 p2 p3 p4 p5)), .val (.ref b1), .val (.ref b51), .val (.ref xta7_0_219)] [])) _
                    refine XS.aload X219.here hx rfl (hb hby at_362) rfl rfl ?_
                    show Steps p.tables e below (T219.setTop (mkF m 364 #[.val (.int p0), .val (.int p1), .val (.int p2), .val (.int p3), .val (.int p4), .val (.int p5), .val (.int (v0_2 p0 p1 p2 p3 p4 p5)), .val (.ref b1), .val (.ref b51), .val (.ref xta7_0_219)] [(.ref xta7_0_219)])) _
                    refine XT.bipushV X219.here hx rfl (6 : Int32) (hb hby at_364) (by decide) ?_
                    show Steps p.tables e below (T219.setTop (mkF m 366 #[.val (.int p0), .val (.int p1), .val (.int p2), .val (.int p3), .val (.int p4), .val (.int p5), .val (.int (v0_2 p0 p1 p2 p3 p4 p5)), .val (.ref b1), .val (.ref b51), .val (.ref xta7_0_219)] [(.int (6 : Int32)), (.ref xta7_0_219)])) _
                    refine X219.iaload hx (j := (6 : Int32)) (v := (.int (v0_4 p0 p1 p2 p3 p4 p5))) Ar230.1 (State.isArrayOf_alike hZ.alike Ar230.2.1) Ar230.2.2 hin245 (Has.at Ha230 hin245 rfl) (g := (mkF m 366 #[.val (.int p0), .val (.int p1), .val (.int p2), .val (.int p3), .val (.int p4), .val (.int p5), .val (.int (v0_2 p0 p1 p2 p3 p4 p5)), .val (.ref b1), .val (.ref b51), .val (.ref xta7_0_219)] [(.int (6 : Int32)), (.ref xta7_0_219)])) rfl rfl (hb hby at_366) _ ?_
                    show Steps p.tables e below (T219.setTop (mkF m 367 #[.val (.int p0), .val (.int p1), .val (.int p2), .val (.int p3), .val (.int p4), .val (.int p5), .val (.int (v0_2 p0 p1 p2 p3 p4 p5)), .val (.ref b1), .val (.ref b51), .val (.ref xta7_0_219)] [(.int (v0_4 p0 p1 p2 p3 p4 p5))])) _
                    refine XS.aload X219.here hx rfl (hb hby at_367) rfl rfl ?_
                    show Steps p.tables e below (T219.setTop (mkF m 369 #[.val (.int p0), .val (.int p1), .val (.int p2), .val (.int p3), .val (.int p4), .val (.int p5), .val (.int (v0_2 p0 p1 p2 p3 p4 p5)), .val (.ref b1), .val (.ref b51), .val (.ref xta7_0_219)] [(.ref b1), (.int (v0_4 p0 p1 p2 p3 p4 p5))])) _
                    refine XT.bipushV X219.here hx rfl (6 : Int32) (hb hby at_369) (by decide) ?_
                    show Steps p.tables e below (T219.setTop (mkF m 371 #[.val (.int p0), .val (.int p1), .val (.int p2), .val (.int p3), .val (.int p4), .val (.int p5), .val (.int (v0_2 p0 p1 p2 p3 p4 p5)), .val (.ref b1), .val (.ref b51), .val (.ref xta7_0_219)] [(.int (6 : Int32)), (.ref b1), (.int (v0_4 p0 p1 p2 p3 p4 p5))])) _
                    refine X219.iaload hx (j := (6 : Int32)) (v := (.int (v0_4 p0 p1 p2 p3 p4 p5))) Ar233.1 (State.isArrayOf_alike hZ.alike Ar233.2.1) Ar233.2.2 hin246 (Has.at Ha233 hin246 rfl) (g := (mkF m 371 #[.val (.int p0), .val (.int p1), .val (.int p2), .val (.int p3), .val (.int p4), .val (.int p5), .val (.int (v0_2 p0 p1 p2 p3 p4 p5)), .val (.ref b1), .val (.ref b51), .val (.ref xta7_0_219)] [(.int (6 : Int32)), (.ref b1), (.int (v0_4 p0 p1 p2 p3 p4 p5))])) rfl rfl (hb hby at_371) _ ?_
                    show Steps p.tables e below (T219.setTop (mkF m 372 #[.val (.int p0), .val (.int p1), .val (.int p2), .val (.int p3), .val (.int p4), .val (.int p5), .val (.int (v0_2 p0 p1 p2 p3 p4 p5)), .val (.ref b1), .val (.ref b51), .val (.ref xta7_0_219)] [(.int (v0_4 p0 p1 p2 p3 p4 p5)), (.int (v0_4 p0 p1 p2 p3 p4 p5))])) _
                    refine XS.icmpYes X219.here hx rfl (pc0 := 372) (pc' := 377) rfl (hb hby at_372) rfl (XT.ii_eq_t (rfl : (v0_4 p0 p1 p2 p3 p4 p5) = (v0_4 p0 p1 p2 p3 p4 p5))) (by decide) (by decide) ?_
                    show Steps p.tables e below (T219.setTop (mkF m 377 #[.val (.int p0), .val (.int p1), .val (.int p2), .val (.int p3), .val (.int p4), .val (.int p5), .val (.int (v0_2 p0 p1 p2 p3 p4 p5)), .val (.ref b1), .val (.ref b51), .val (.ref xta7_0_219)] [])) _
                    refine XS.iload X219.here hx rfl (hb hby at_377) rfl ?_
                    show Steps p.tables e below (T219.setTop (mkF m 379 #[.val (.int p0), .val (.int p1), .val (.int p2), .val (.int p3), .val (.int p4), .val (.int p5), .val (.int (v0_2 p0 p1 p2 p3 p4 p5)), .val (.ref b1), .val (.ref b51), .val (.ref xta7_0_219)] [(.int (v0_2 p0 p1 p2 p3 p4 p5))])) _
                    refine XT.bipushV X219.here hx rfl (7 : Int32) (hb hby at_379) (by decide) ?_
                    show Steps p.tables e below (T219.setTop (mkF m 381 #[.val (.int p0), .val (.int p1), .val (.int p2), .val (.int p3), .val (.int p4), .val (.int p5), .val (.int (v0_2 p0 p1 p2 p3 p4 p5)), .val (.ref b1), .val (.ref b51), .val (.ref xta7_0_219)] [(.int (7 : Int32)), (.int (v0_2 p0 p1 p2 p3 p4 p5))])) _
                    refine XS.icmpYes X219.here hx rfl (pc0 := 381) (pc' := 399) rfl (hb hby at_381) rfl (XT.ii_le_t c129) (by decide) (by decide) ?_
                    show Steps p.tables e below (T219.setTop (mkF m 399 #[.val (.int p0), .val (.int p1), .val (.int p2), .val (.int p3), .val (.int p4), .val (.int p5), .val (.int (v0_2 p0 p1 p2 p3 p4 p5)), .val (.ref b1), .val (.ref b51), .val (.ref xta7_0_219)] [])) _
                    refine XS.iload X219.here hx rfl (hb hby at_399) rfl ?_
                    show Steps p.tables e below (T219.setTop (mkF m 401 #[.val (.int p0), .val (.int p1), .val (.int p2), .val (.int p3), .val (.int p4), .val (.int p5), .val (.int (v0_2 p0 p1 p2 p3 p4 p5)), .val (.ref b1), .val (.ref b51), .val (.ref xta7_0_219)] [(.int (v0_2 p0 p1 p2 p3 p4 p5))])) _
                    refine XT.bipushV X219.here hx rfl (8 : Int32) (hb hby at_401) (by decide) ?_
                    show Steps p.tables e below (T219.setTop (mkF m 403 #[.val (.int p0), .val (.int p1), .val (.int p2), .val (.int p3), .val (.int p4), .val (.int p5), .val (.int (v0_2 p0 p1 p2 p3 p4 p5)), .val (.ref b1), .val (.ref b51), .val (.ref xta7_0_219)] [(.int (8 : Int32)), (.int (v0_2 p0 p1 p2 p3 p4 p5))])) _
                    refine XS.icmpYes X219.here hx rfl (pc0 := 403) (pc' := 421) rfl (hb hby at_403) rfl (XT.ii_le_t (own_mono c129 (by decide))) (by decide) (by decide) ?_
                    show Steps p.tables e below (T219.setTop (mkF m 421 #[.val (.int p0), .val (.int p1), .val (.int p2), .val (.int p3), .val (.int p4), .val (.int p5), .val (.int (v0_2 p0 p1 p2 p3 p4 p5)), .val (.ref b1), .val (.ref b51), .val (.ref xta7_0_219)] [])) _
                    refine XT.iconstV X219.here hx rfl (1 : Int32) (hb hby at_421) (by decide) ?_
                    show Steps p.tables e below (T219.setTop (mkF m 422 #[.val (.int p0), .val (.int p1), .val (.int p2), .val (.int p3), .val (.int p4), .val (.int p5), .val (.int (v0_2 p0 p1 p2 p3 p4 p5)), .val (.ref b1), .val (.ref b51), .val (.ref xta7_0_219)] [(.int (1 : Int32))])) _
                    exact retN X219 hx (t := .boolean) Bd.returns (by simp) (hb hby at_422) hr
                  · skip
                    show Q0 Z p0 p1 p2 p3 p4 p5 h0 n0 _ T219.heap _
                    exact ⟨rfl, N219⟩
              · skip
                obtain ⟨cq247, kq247, q247a, q247b, q247c⟩ := isOf hZ rfl po117_0
                obtain ⟨vr247, _, ⟨T247, L247, k247, n247⟩, -, X247, ⟨Lc247, hQ247, l247, y247, z247⟩, st247⟩ := X117.virtualBack hx (y := (⟨"com/example/vellum_index/vellumindex/IntList", "size", "()I"⟩ : MethodName)) (z := (⟨"com/example/vellum_index/vellumindex/IntList", "size", "()I"⟩ : MethodName)) hown (mvT hZ (hw _ (List.mem_of_getElem? (i := 20) rfl))) (mvT hZ (hw _ (List.mem_of_getElem? (i := 21) rfl))) (notFace_of_selects (args := #[]) (mvT hZ (hw _ (List.mem_of_getElem? (i := 23) rfl)))) (mvT hZ (hw _ (List.mem_of_getElem? (i := 23) rfl))) (mvT hZ (hw _ (List.mem_of_getElem? (i := 22) rfl))) (by decide) (backOf (W := 0) (rm4 l Z a0 hw [] b51 (6 : Int32) T117.heap n0 z118 po117_1) hZ (hw _ (List.mem_of_getElem? (i := 24) rfl)) (hw _ (List.mem_of_getElem? (i := 4) rfl)) (by decide) (by decide)) q247a q247c (g := (mkF m 215 #[.val (.int p0), .val (.int p1), .val (.int p2), .val (.int p3), .val (.int p4), .val (.int p5), .val (.int (v0_2 p0 p1 p2 p3 p4 p5)), .val (.ref b1), .val (.ref b51), .unset] [(.ref b51)])) rfl (by rw [hml]; rfl) (Steps.refl _) (argsL := []) (rest := []) (lenOf pd___I rfl) rfl (by show 2 * 0 + _ ≤ _; exact Nat.le_of_eq rfl) (hb hby at_215) (fun _ _ => ⟨rfl, rfl, (by decide : 4 + 0 ≤ _), (by decide : 23 + 0 ≤ _)⟩)
                dsimp only [Pt.U, Pt.locs, Pt.cells, Pt.slots] at X247 l247 y247 z247 st247 hQ247
                subst l247 y247 z247
                have N247q := (show _ ∧ _ ∧ _ from hQ247).1
                have hv247 := (show _ ∧ _ ∧ _ from hQ247).2.1
                have e247 := (show _ ∧ _ ∧ _ from hQ247).2.2
                clear hQ247
                subst hv247
                have N247 := Fr.app N117 N247q
                obtain ⟨cq248, kq248, q248a, q248b, q248c⟩ := isOf hZ e247 po117_0
                obtain ⟨vr248, _, ⟨T248, L248, k248, n248⟩, -, X248, ⟨Lc248, hQ248, l248, y248, z248⟩, st248⟩ := X247.virtualBack hx (y := (⟨"com/example/vellum_index/vellumindex/IntList", "toArray", "()[I"⟩ : MethodName)) (z := (⟨"com/example/vellum_index/vellumindex/IntList", "toArray", "()[I"⟩ : MethodName)) hown (mvT hZ (hw _ (List.mem_of_getElem? (i := 25) rfl))) (mvT hZ (hw _ (List.mem_of_getElem? (i := 26) rfl))) (notFace_of_selects (args := #[]) (mvT hZ (hw _ (List.mem_of_getElem? (i := 28) rfl)))) (mvT hZ (hw _ (List.mem_of_getElem? (i := 28) rfl))) (mvT hZ (hw _ (List.mem_of_getElem? (i := 27) rfl))) (by decide) (backOf (W := 0) (rmta6 l Z a0 hw [] b51 xadd4_0_103 p0 p1 p2 p3 p4 (v0_3 p0 p1 p2 p3 p4 p5) (0 : Int32) (0 : Int32) kadd4_1_103 T117.heap n0 z118 po117_0 po117_1 po117_2 po117_3 po117_4) hZ (hw _ (List.mem_of_getElem? (i := 29) rfl)) (hw _ (List.mem_of_getElem? (i := 4) rfl)) (by decide) (by decide)) q248a q248c (g := (mkF m 227 #[.val (.int p0), .val (.int p1), .val (.int p2), .val (.int p3), .val (.int p4), .val (.int p5), .val (.int (v0_2 p0 p1 p2 p3 p4 p5)), .val (.ref b1), .val (.ref b51), .unset] [(.ref b51)])) rfl (by rw [hml]; rfl) (Steps.refl _) (argsL := []) (rest := []) (lenOf pd____I rfl) rfl (by show 2 * 0 + _ ≤ _; exact Nat.le_of_eq rfl) (hb hby at_227) (fun _ _ => ⟨rfl, e247, (by decide : 4 + 1 ≤ _), (by decide : 23 + 6 ≤ _)⟩)
                dsimp only [Pt.U, Pt.locs, Pt.cells, Pt.slots] at X248 l248 y248 z248 st248 hQ248
                subst l248 y248 z248
                have N248q := (show _ ∧ _ from hQ248).1
                have hq248 := (show _ ∧ _ from hQ248).2
                clear hQ248
                obtain ⟨xta6_0_248, kta6_1_248, hq248x⟩ := hq248
                have hv248 := hq248x.1
                have szxta6_0_248 := hq248x.2.1
                have K248 := hq248x.2.2.1
                have po248_0 := hq248x.2.2.2.1
                have po248_1 := hq248x.2.2.2.2
                clear hq248x
                subst hv248
                have k249 := ((k104.keep K103).keep K117)
                have ne250 : b1 ≠ xta6_0_248 := Nat.ne_of_lt (Nat.lt_of_lt_of_le k249.lt szxta6_0_248)
                have ne251 : b51 ≠ xta6_0_248 := Nat.ne_of_lt (Nat.lt_of_lt_of_le po117_0.lt szxta6_0_248)
                have k252 := ((po95_3.keep K103).keep K117)
                have ne253 : x1_0_58 ≠ xta6_0_248 := Nat.ne_of_lt (Nat.lt_of_lt_of_le k252.lt szxta6_0_248)
                have ne254 : xadd4_0_103 ≠ xta6_0_248 := Nat.ne_of_lt (Nat.lt_of_lt_of_le po117_3.lt szxta6_0_248)
                have g255 : n0 ≤ xta6_0_248 := Nat.le_trans z118 szxta6_0_248
                have sz256 : h0.size ≤ xta6_0_248 := Nat.le_trans hs119 szxta6_0_248
                have z257 : n0 ≤ T248.heap.size := Nat.le_trans z118 K248.1
                have hs258 : h0.size ≤ T248.heap.size := Nat.le_trans hs119 K248.1
                have N248 := Fr.app N247 N248q
                obtain ⟨cl259, Ar259, qc259, S259, M259, Ha259, G259⟩ := id po248_1
                have hin260 : ¬ ((0 : Int32) < 0 ∨ cl259.slots.size ≤ ((0 : Int32)).toNatClampNeg) := inb_of S259 ⟨by decide, by decide⟩
                have k261 := ((k114.keep K117 (ninS ne53 (ninS ne105 nin0))).keep K248 nin0)
                obtain ⟨cl262, Ar262, qc262, S262, M262, Ha262, G262⟩ := id k261
                have hin263 : ¬ ((0 : Int32) < 0 ∨ cl262.slots.size ≤ ((0 : Int32)).toNatClampNeg) := inb_of S262 ⟨by decide, by decide⟩
                have hin264 : ¬ ((1 : Int32) < 0 ∨ cl259.slots.size ≤ ((1 : Int32)).toNatClampNeg) := inb_of S259 ⟨by decide, by decide⟩
                have hin265 : ¬ ((1 : Int32) < 0 ∨ cl262.slots.size ≤ ((1 : Int32)).toNatClampNeg) := inb_of S262 ⟨by decide, by decide⟩
                have hin266 : ¬ ((2 : Int32) < 0 ∨ cl259.slots.size ≤ ((2 : Int32)).toNatClampNeg) := inb_of S259 ⟨by decide, by decide⟩
                have hin267 : ¬ ((2 : Int32) < 0 ∨ cl262.slots.size ≤ ((2 : Int32)).toNatClampNeg) := inb_of S262 ⟨by decide, by decide⟩
                have hin268 : ¬ ((3 : Int32) < 0 ∨ cl259.slots.size ≤ ((3 : Int32)).toNatClampNeg) := inb_of S259 ⟨by decide, by decide⟩
                have hin269 : ¬ ((3 : Int32) < 0 ∨ cl262.slots.size ≤ ((3 : Int32)).toNatClampNeg) := inb_of S262 ⟨by decide, by decide⟩
                have hin270 : ¬ ((4 : Int32) < 0 ∨ cl259.slots.size ≤ ((4 : Int32)).toNatClampNeg) := inb_of S259 ⟨by decide, by decide⟩
                have hin271 : ¬ ((4 : Int32) < 0 ∨ cl262.slots.size ≤ ((4 : Int32)).toNatClampNeg) := inb_of S262 ⟨by decide, by decide⟩
                have hin272 : ¬ ((5 : Int32) < 0 ∨ cl259.slots.size ≤ ((5 : Int32)).toNatClampNeg) := inb_of S259 ⟨by decide, by decide⟩
                have hin273 : ¬ ((5 : Int32) < 0 ∨ cl262.slots.size ≤ ((5 : Int32)).toNatClampNeg) := inb_of S262 ⟨by decide, by decide⟩
                obtain ⟨fs, hr, hrun, hended, hW, hsame⟩ := X248.leave (v := some (.int (1 : Int32))) (fun h => by rw [Bd.returns] at h; cases h) hlk
                refine ⟨_, _, pre120 _ ?_, hrun, hended, _, _, rfl, ?_, ⟨_, rfl⟩, hW, hsame.mono (by decide) (by decide)⟩
                · skip
                  show Steps p.tables e below (T117.setTop (mkF m 166 #[.val (.int p0), .val (.int p1), .val (.int p2), .val (.int p3), .val (.int p4), .val (.int p5), .val (.int (v0_2 p0 p1 p2 p3 p4 p5)), .val (.ref b1), .val (.ref b51), .unset] [(.int (6 : Int32)), (.int (v0_2 p0 p1 p2 p3 p4 p5))])) _
                  refine XS.icmpYes X117.here hx rfl (pc0 := 166) (pc' := 179) rfl (hb hby at_166) rfl (XT.ii_le_t c121) (by decide) (by decide) ?_
                  show Steps p.tables e below (T117.setTop (mkF m 179 #[.val (.int p0), .val (.int p1), .val (.int p2), .val (.int p3), .val (.int p4), .val (.int p5), .val (.int (v0_2 p0 p1 p2 p3 p4 p5)), .val (.ref b1), .val (.ref b51), .unset] [])) _
                  refine XS.iload X117.here hx rfl (hb hby at_179) rfl ?_
                  show Steps p.tables e below (T117.setTop (mkF m 181 #[.val (.int p0), .val (.int p1), .val (.int p2), .val (.int p3), .val (.int p4), .val (.int p5), .val (.int (v0_2 p0 p1 p2 p3 p4 p5)), .val (.ref b1), .val (.ref b51), .unset] [(.int (v0_2 p0 p1 p2 p3 p4 p5))])) _
                  refine XT.bipushV X117.here hx rfl (7 : Int32) (hb hby at_181) (by decide) ?_
                  show Steps p.tables e below (T117.setTop (mkF m 183 #[.val (.int p0), .val (.int p1), .val (.int p2), .val (.int p3), .val (.int p4), .val (.int p5), .val (.int (v0_2 p0 p1 p2 p3 p4 p5)), .val (.ref b1), .val (.ref b51), .unset] [(.int (7 : Int32)), (.int (v0_2 p0 p1 p2 p3 p4 p5))])) _
                  refine XS.icmpYes X117.here hx rfl (pc0 := 183) (pc' := 196) rfl (hb hby at_183) rfl (XT.ii_le_t (own_mono c121 (by decide))) (by decide) (by decide) ?_
                  show Steps p.tables e below (T117.setTop (mkF m 196 #[.val (.int p0), .val (.int p1), .val (.int p2), .val (.int p3), .val (.int p4), .val (.int p5), .val (.int (v0_2 p0 p1 p2 p3 p4 p5)), .val (.ref b1), .val (.ref b51), .unset] [])) _
                  refine XS.iload X117.here hx rfl (hb hby at_196) rfl ?_
                  show Steps p.tables e below (T117.setTop (mkF m 198 #[.val (.int p0), .val (.int p1), .val (.int p2), .val (.int p3), .val (.int p4), .val (.int p5), .val (.int (v0_2 p0 p1 p2 p3 p4 p5)), .val (.ref b1), .val (.ref b51), .unset] [(.int (v0_2 p0 p1 p2 p3 p4 p5))])) _
                  refine XT.bipushV X117.here hx rfl (8 : Int32) (hb hby at_198) (by decide) ?_
                  show Steps p.tables e below (T117.setTop (mkF m 200 #[.val (.int p0), .val (.int p1), .val (.int p2), .val (.int p3), .val (.int p4), .val (.int p5), .val (.int (v0_2 p0 p1 p2 p3 p4 p5)), .val (.ref b1), .val (.ref b51), .unset] [(.int (8 : Int32)), (.int (v0_2 p0 p1 p2 p3 p4 p5))])) _
                  refine XS.icmpYes X117.here hx rfl (pc0 := 200) (pc' := 213) rfl (hb hby at_200) rfl (XT.ii_le_t (own_mono c121 (by decide))) (by decide) (by decide) ?_
                  show Steps p.tables e below (T117.setTop (mkF m 213 #[.val (.int p0), .val (.int p1), .val (.int p2), .val (.int p3), .val (.int p4), .val (.int p5), .val (.int (v0_2 p0 p1 p2 p3 p4 p5)), .val (.ref b1), .val (.ref b51), .unset] [])) _
                  refine XS.aload X117.here hx rfl (hb hby at_213) rfl rfl ?_
                  show Steps p.tables e below (T117.setTop (mkF m 215 #[.val (.int p0), .val (.int p1), .val (.int p2), .val (.int p3), .val (.int p4), .val (.int p5), .val (.int (v0_2 p0 p1 p2 p3 p4 p5)), .val (.ref b1), .val (.ref b51), .unset] [(.ref b51)])) _
                  refine st247.trans ?_
                  show Steps p.tables e below (T247.setTop (mkF m 218 #[.val (.int p0), .val (.int p1), .val (.int p2), .val (.int p3), .val (.int p4), .val (.int p5), .val (.int (v0_2 p0 p1 p2 p3 p4 p5)), .val (.ref b1), .val (.ref b51), .unset] [(.int (f4 (6 : Int32)))])) _
                  refine XS.iload X247.here hx rfl (hb hby at_218) rfl ?_
                  show Steps p.tables e below (T247.setTop (mkF m 220 #[.val (.int p0), .val (.int p1), .val (.int p2), .val (.int p3), .val (.int p4), .val (.int p5), .val (.int (v0_2 p0 p1 p2 p3 p4 p5)), .val (.ref b1), .val (.ref b51), .unset] [(.int (v0_2 p0 p1 p2 p3 p4 p5)), (.int (f4 (6 : Int32)))])) _
                  refine XS.icmpYes X247.here hx rfl (pc0 := 220) (pc' := 225) rfl (hb hby at_220) rfl (XT.ii_eq_t ((own_eqn c113 c121 (by decide))).symm) (by decide) (by decide) ?_
                  show Steps p.tables e below (T247.setTop (mkF m 225 #[.val (.int p0), .val (.int p1), .val (.int p2), .val (.int p3), .val (.int p4), .val (.int p5), .val (.int (v0_2 p0 p1 p2 p3 p4 p5)), .val (.ref b1), .val (.ref b51), .unset] [])) _
                  refine XS.aload X247.here hx rfl (hb hby at_225) rfl rfl ?_
                  show Steps p.tables e below (T247.setTop (mkF m 227 #[.val (.int p0), .val (.int p1), .val (.int p2), .val (.int p3), .val (.int p4), .val (.int p5), .val (.int (v0_2 p0 p1 p2 p3 p4 p5)), .val (.ref b1), .val (.ref b51), .unset] [(.ref b51)])) _
                  refine st248.trans ?_
                  show Steps p.tables e below (T248.setTop (mkF m 230 #[.val (.int p0), .val (.int p1), .val (.int p2), .val (.int p3), .val (.int p4), .val (.int p5), .val (.int (v0_2 p0 p1 p2 p3 p4 p5)), .val (.ref b1), .val (.ref b51), .unset] [(.ref xta6_0_248)])) _
                  refine XS.astore X248.here hx rfl (hb hby at_230) rfl rfl (l' := #[.val (.int p0), .val (.int p1), .val (.int p2), .val (.int p3), .val (.int p4), .val (.int p5), .val (.int (v0_2 p0 p1 p2 p3 p4 p5)), .val (.ref b1), .val (.ref b51), .val (.ref xta6_0_248)]) rfl ?_
                  show Steps p.tables e below (T248.setTop (mkF m 232 #[.val (.int p0), .val (.int p1), .val (.int p2), .val (.int p3), .val (.int p4), .val (.int p5), .val (.int (v0_2 p0 p1 p2 p3 p4 p5)), .val (.ref b1), .val (.ref b51), .val (.ref xta6_0_248)] [])) _
                  refine XS.aload X248.here hx rfl (hb hby at_232) rfl rfl ?_
                  show Steps p.tables e below (T248.setTop (mkF m 234 #[.val (.int p0), .val (.int p1), .val (.int p2), .val (.int p3), .val (.int p4), .val (.int p5), .val (.int (v0_2 p0 p1 p2 p3 p4 p5)), .val (.ref b1), .val (.ref b51), .val (.ref xta6_0_248)] [(.ref xta6_0_248)])) _
                  refine X248.arraylength hx Ar259.1 (State.isArrayOf_alike hZ.alike Ar259.2.1) (g := (mkF m 234 #[.val (.int p0), .val (.int p1), .val (.int p2), .val (.int p3), .val (.int p4), .val (.int p5), .val (.int (v0_2 p0 p1 p2 p3 p4 p5)), .val (.ref b1), .val (.ref b51), .val (.ref xta6_0_248)] [(.ref xta6_0_248)])) rfl rfl (hb hby at_234) _ ?_
                  rw [len_of S259 M259]
                  show Steps p.tables e below (T248.setTop (mkF m 235 #[.val (.int p0), .val (.int p1), .val (.int p2), .val (.int p3), .val (.int p4), .val (.int p5), .val (.int (v0_2 p0 p1 p2 p3 p4 p5)), .val (.ref b1), .val (.ref b51), .val (.ref xta6_0_248)] [(.int (6 : Int32))])) _
                  refine XS.iload X248.here hx rfl (hb hby at_235) rfl ?_
                  show Steps p.tables e below (T248.setTop (mkF m 237 #[.val (.int p0), .val (.int p1), .val (.int p2), .val (.int p3), .val (.int p4), .val (.int p5), .val (.int (v0_2 p0 p1 p2 p3 p4 p5)), .val (.ref b1), .val (.ref b51), .val (.ref xta6_0_248)] [(.int (v0_2 p0 p1 p2 p3 p4 p5)), (.int (6 : Int32))])) _
                  refine XS.icmpYes X248.here hx rfl (pc0 := 237) (pc' := 242) rfl (hb hby at_237) rfl (XT.ii_eq_t ((own_eqn c113 c121 (by decide))).symm) (by decide) (by decide) ?_
                  show Steps p.tables e below (T248.setTop (mkF m 242 #[.val (.int p0), .val (.int p1), .val (.int p2), .val (.int p3), .val (.int p4), .val (.int p5), .val (.int (v0_2 p0 p1 p2 p3 p4 p5)), .val (.ref b1), .val (.ref b51), .val (.ref xta6_0_248)] [])) _
                  refine XS.iload X248.here hx rfl (hb hby at_242) rfl ?_
                  show Steps p.tables e below (T248.setTop (mkF m 244 #[.val (.int p0), .val (.int p1), .val (.int p2), .val (.int p3), .val (.int p4), .val (.int p5), .val (.int (v0_2 p0 p1 p2 p3 p4 p5)), .val (.ref b1), .val (.ref b51), .val (.ref xta6_0_248)] [(.int (v0_2 p0 p1 p2 p3 p4 p5))])) _
                  refine XS.ifNo X248.here hx rfl (hb hby at_244) rfl (XT.i0_le_f c67) ?_
                  show Steps p.tables e below (T248.setTop (mkF m 247 #[.val (.int p0), .val (.int p1), .val (.int p2), .val (.int p3), .val (.int p4), .val (.int p5), .val (.int (v0_2 p0 p1 p2 p3 p4 p5)), .val (.ref b1), .val (.ref b51), .val (.ref xta6_0_248)] [])) _
                  refine XS.aload X248.here hx rfl (hb hby at_247) rfl rfl ?_
                  show Steps p.tables e below (T248.setTop (mkF m 249 #[.val (.int p0), .val (.int p1), .val (.int p2), .val (.int p3), .val (.int p4), .val (.int p5), .val (.int (v0_2 p0 p1 p2 p3 p4 p5)), .val (.ref b1), .val (.ref b51), .val (.ref xta6_0_248)] [(.ref xta6_0_248)])) _
                  refine XT.iconstV X248.here hx rfl (0 : Int32) (hb hby at_249) (by decide) ?_
                  show Steps p.tables e below (T248.setTop (mkF m 250 #[.val (.int p0), .val (.int p1), .val (.int p2), .val (.int p3), .val (.int p4), .val (.int p5), .val (.int (v0_2 p0 p1 p2 p3 p4 p5)), .val (.ref b1), .val (.ref b51), .val (.ref xta6_0_248)] [(.int (0 : Int32)), (.ref xta6_0_248)])) _
                  refine X248.iaload hx (j := (0 : Int32)) (v := (.int p0)) Ar259.1 (State.isArrayOf_alike hZ.alike Ar259.2.1) Ar259.2.2 hin260 (Has.at Ha259 hin260 rfl) (g := (mkF m 250 #[.val (.int p0), .val (.int p1), .val (.int p2), .val (.int p3), .val (.int p4), .val (.int p5), .val (.int (v0_2 p0 p1 p2 p3 p4 p5)), .val (.ref b1), .val (.ref b51), .val (.ref xta6_0_248)] [(.int (0 : Int32)), (.ref xta6_0_248)])) rfl rfl (hb hby at_250) _ ?_
                  show Steps p.tables e below (T248.setTop (mkF m 251 #[.val (.int p0), .val (.int p1), .val (.int p2), .val (.int p3), .val (.int p4), .val (.int p5), .val (.int (v0_2 p0 p1 p2 p3 p4 p5)), .val (.ref b1), .val (.ref b51), .val (.ref xta6_0_248)] [(.int p0)])) _
                  refine XS.aload X248.here hx rfl (hb hby at_251) rfl rfl ?_
                  show Steps p.tables e below (T248.setTop (mkF m 253 #[.val (.int p0), .val (.int p1), .val (.int p2), .val (.int p3), .val (.int p4), .val (.int p5), .val (.int (v0_2 p0 p1 p2 p3 p4 p5)), .val (.ref b1), .val (.ref b51), .val (.ref xta6_0_248)] [(.ref b1), (.int p0)])) _
                  refine XT.iconstV X248.here hx rfl (0 : Int32) (hb hby at_253) (by decide) ?_
                  show Steps p.tables e below (T248.setTop (mkF m 254 #[.val (.int p0), .val (.int p1), .val (.int p2), .val (.int p3), .val (.int p4), .val (.int p5), .val (.int (v0_2 p0 p1 p2 p3 p4 p5)), .val (.ref b1), .val (.ref b51), .val (.ref xta6_0_248)] [(.int (0 : Int32)), (.ref b1), (.int p0)])) _
                  refine X248.iaload hx (j := (0 : Int32)) (v := (.int p0)) Ar262.1 (State.isArrayOf_alike hZ.alike Ar262.2.1) Ar262.2.2 hin263 (Has.at Ha262 hin263 rfl) (g := (mkF m 254 #[.val (.int p0), .val (.int p1), .val (.int p2), .val (.int p3), .val (.int p4), .val (.int p5), .val (.int (v0_2 p0 p1 p2 p3 p4 p5)), .val (.ref b1), .val (.ref b51), .val (.ref xta6_0_248)] [(.int (0 : Int32)), (.ref b1), (.int p0)])) rfl rfl (hb hby at_254) _ ?_
                  show Steps p.tables e below (T248.setTop (mkF m 255 #[.val (.int p0), .val (.int p1), .val (.int p2), .val (.int p3), .val (.int p4), .val (.int p5), .val (.int (v0_2 p0 p1 p2 p3 p4 p5)), .val (.ref b1), .val (.ref b51), .val (.ref xta6_0_248)] [(.int p0), (.int p0)])) _
                  refine XS.icmpYes X248.here hx rfl (pc0 := 255) (pc' := 260) rfl (hb hby at_255) rfl (XT.ii_eq_t (rfl : p0 = p0)) (by decide) (by decide) ?_
                  show Steps p.tables e below (T248.setTop (mkF m 260 #[.val (.int p0), .val (.int p1), .val (.int p2), .val (.int p3), .val (.int p4), .val (.int p5), .val (.int (v0_2 p0 p1 p2 p3 p4 p5)), .val (.ref b1), .val (.ref b51), .val (.ref xta6_0_248)] [])) _
                  refine XS.iload X248.here hx rfl (hb hby at_260) rfl ?_
                  show Steps p.tables e below (T248.setTop (mkF m 262 #[.val (.int p0), .val (.int p1), .val (.int p2), .val (.int p3), .val (.int p4), .val (.int p5), .val (.int (v0_2 p0 p1 p2 p3 p4 p5)), .val (.ref b1), .val (.ref b51), .val (.ref xta6_0_248)] [(.int (v0_2 p0 p1 p2 p3 p4 p5))])) _
                  refine XT.iconstV X248.here hx rfl (1 : Int32) (hb hby at_262) (by decide) ?_
                  show Steps p.tables e below (T248.setTop (mkF m 263 #[.val (.int p0), .val (.int p1), .val (.int p2), .val (.int p3), .val (.int p4), .val (.int p5), .val (.int (v0_2 p0 p1 p2 p3 p4 p5)), .val (.ref b1), .val (.ref b51), .val (.ref xta6_0_248)] [(.int (1 : Int32)), (.int (v0_2 p0 p1 p2 p3 p4 p5))])) _
                  refine XS.icmpNo X248.here hx rfl (hb hby at_263) rfl (XT.ii_le_f c75) ?_
                  show Steps p.tables e below (T248.setTop (mkF m 266 #[.val (.int p0), .val (.int p1), .val (.int p2), .val (.int p3), .val (.int p4), .val (.int p5), .val (.int (v0_2 p0 p1 p2 p3 p4 p5)), .val (.ref b1), .val (.ref b51), .val (.ref xta6_0_248)] [])) _
                  refine XS.aload X248.here hx rfl (hb hby at_266) rfl rfl ?_
                  show Steps p.tables e below (T248.setTop (mkF m 268 #[.val (.int p0), .val (.int p1), .val (.int p2), .val (.int p3), .val (.int p4), .val (.int p5), .val (.int (v0_2 p0 p1 p2 p3 p4 p5)), .val (.ref b1), .val (.ref b51), .val (.ref xta6_0_248)] [(.ref xta6_0_248)])) _
                  refine XT.iconstV X248.here hx rfl (1 : Int32) (hb hby at_268) (by decide) ?_
                  show Steps p.tables e below (T248.setTop (mkF m 269 #[.val (.int p0), .val (.int p1), .val (.int p2), .val (.int p3), .val (.int p4), .val (.int p5), .val (.int (v0_2 p0 p1 p2 p3 p4 p5)), .val (.ref b1), .val (.ref b51), .val (.ref xta6_0_248)] [(.int (1 : Int32)), (.ref xta6_0_248)])) _
                  refine X248.iaload hx (j := (1 : Int32)) (v := (.int p1)) Ar259.1 (State.isArrayOf_alike hZ.alike Ar259.2.1) Ar259.2.2 hin264 (Has.at Ha259 hin264 rfl) (g := (mkF m 269 #[.val (.int p0), .val (.int p1), .val (.int p2), .val (.int p3), .val (.int p4), .val (.int p5), .val (.int (v0_2 p0 p1 p2 p3 p4 p5)), .val (.ref b1), .val (.ref b51), .val (.ref xta6_0_248)] [(.int (1 : Int32)), (.ref xta6_0_248)])) rfl rfl (hb hby at_269) _ ?_
                  show Steps p.tables e below (T248.setTop (mkF m 270 #[.val (.int p0), .val (.int p1), .val (.int p2), .val (.int p3), .val (.int p4), .val (.int p5), .val (.int (v0_2 p0 p1 p2 p3 p4 p5)), .val (.ref b1), .val (.ref b51), .val (.ref xta6_0_248)] [(.int p1)])) _
                  refine XS.aload X248.here hx rfl (hb hby at_270) rfl rfl ?_
                  show Steps p.tables e below (T248.setTop (mkF m 272 #[.val (.int p0), .val (.int p1), .val (.int p2), .val (.int p3), .val (.int p4), .val (.int p5), .val (.int (v0_2 p0 p1 p2 p3 p4 p5)), .val (.ref b1), .val (.ref b51), .val (.ref xta6_0_248)] [(.ref b1), (.int p1)])) _
                  refine XT.iconstV X248.here hx rfl (1 : Int32) (hb hby at_272) (by decide) ?_
                  show Steps p.tables e below (T248.setTop (mkF m 273 #[.val (.int p0), .val (.int p1), .val (.int p2), .val (.int p3), .val (.int p4), .val (.int p5), .val (.int (v0_2 p0 p1 p2 p3 p4 p5)), .val (.ref b1), .val (.ref b51), .val (.ref xta6_0_248)] [(.int (1 : Int32)), (.ref b1), (.int p1)])) _
                  refine X248.iaload hx (j := (1 : Int32)) (v := (.int p1)) Ar262.1 (State.isArrayOf_alike hZ.alike Ar262.2.1) Ar262.2.2 hin265 (Has.at Ha262 hin265 rfl) (g := (mkF m 273 #[.val (.int p0), .val (.int p1), .val (.int p2), .val (.int p3), .val (.int p4), .val (.int p5), .val (.int (v0_2 p0 p1 p2 p3 p4 p5)), .val (.ref b1), .val (.ref b51), .val (.ref xta6_0_248)] [(.int (1 : Int32)), (.ref b1), (.int p1)])) rfl rfl (hb hby at_273) _ ?_
                  show Steps p.tables e below (T248.setTop (mkF m 274 #[.val (.int p0), .val (.int p1), .val (.int p2), .val (.int p3), .val (.int p4), .val (.int p5), .val (.int (v0_2 p0 p1 p2 p3 p4 p5)), .val (.ref b1), .val (.ref b51), .val (.ref xta6_0_248)] [(.int p1), (.int p1)])) _
                  refine XS.icmpYes X248.here hx rfl (pc0 := 274) (pc' := 279) rfl (hb hby at_274) rfl (XT.ii_eq_t (rfl : p1 = p1)) (by decide) (by decide) ?_
                  show Steps p.tables e below (T248.setTop (mkF m 279 #[.val (.int p0), .val (.int p1), .val (.int p2), .val (.int p3), .val (.int p4), .val (.int p5), .val (.int (v0_2 p0 p1 p2 p3 p4 p5)), .val (.ref b1), .val (.ref b51), .val (.ref xta6_0_248)] [])) _
                  refine XS.iload X248.here hx rfl (hb hby at_279) rfl ?_
                  show Steps p.tables e below (T248.setTop (mkF m 281 #[.val (.int p0), .val (.int p1), .val (.int p2), .val (.int p3), .val (.int p4), .val (.int p5), .val (.int (v0_2 p0 p1 p2 p3 p4 p5)), .val (.ref b1), .val (.ref b51), .val (.ref xta6_0_248)] [(.int (v0_2 p0 p1 p2 p3 p4 p5))])) _
                  refine XT.iconstV X248.here hx rfl (2 : Int32) (hb hby at_281) (by decide) ?_
                  show Steps p.tables e below (T248.setTop (mkF m 282 #[.val (.int p0), .val (.int p1), .val (.int p2), .val (.int p3), .val (.int p4), .val (.int p5), .val (.int (v0_2 p0 p1 p2 p3 p4 p5)), .val (.ref b1), .val (.ref b51), .val (.ref xta6_0_248)] [(.int (2 : Int32)), (.int (v0_2 p0 p1 p2 p3 p4 p5))])) _
                  refine XS.icmpNo X248.here hx rfl (hb hby at_282) rfl (XT.ii_le_f c83) ?_
                  show Steps p.tables e below (T248.setTop (mkF m 285 #[.val (.int p0), .val (.int p1), .val (.int p2), .val (.int p3), .val (.int p4), .val (.int p5), .val (.int (v0_2 p0 p1 p2 p3 p4 p5)), .val (.ref b1), .val (.ref b51), .val (.ref xta6_0_248)] [])) _
                  refine XS.aload X248.here hx rfl (hb hby at_285) rfl rfl ?_
                  show Steps p.tables e below (T248.setTop (mkF m 287 #[.val (.int p0), .val (.int p1), .val (.int p2), .val (.int p3), .val (.int p4), .val (.int p5), .val (.int (v0_2 p0 p1 p2 p3 p4 p5)), .val (.ref b1), .val (.ref b51), .val (.ref xta6_0_248)] [(.ref xta6_0_248)])) _
                  refine XT.iconstV X248.here hx rfl (2 : Int32) (hb hby at_287) (by decide) ?_
                  show Steps p.tables e below (T248.setTop (mkF m 288 #[.val (.int p0), .val (.int p1), .val (.int p2), .val (.int p3), .val (.int p4), .val (.int p5), .val (.int (v0_2 p0 p1 p2 p3 p4 p5)), .val (.ref b1), .val (.ref b51), .val (.ref xta6_0_248)] [(.int (2 : Int32)), (.ref xta6_0_248)])) _
                  refine X248.iaload hx (j := (2 : Int32)) (v := (.int p2)) Ar259.1 (State.isArrayOf_alike hZ.alike Ar259.2.1) Ar259.2.2 hin266 (Has.at Ha259 hin266 rfl) (g := (mkF m 288 #[.val (.int p0), .val (.int p1), .val (.int p2), .val (.int p3), .val (.int p4), .val (.int p5), .val (.int (v0_2 p0 p1 p2 p3 p4 p5)), .val (.ref b1), .val (.ref b51), .val (.ref xta6_0_248)] [(.int (2 : Int32)), (.ref xta6_0_248)])) rfl rfl (hb hby at_288) _ ?_
                  show Steps p.tables e below (T248.setTop (mkF m 289 #[.val (.int p0), .val (.int p1), .val (.int p2), .val (.int p3), .val (.int p4), .val (.int p5), .val (.int (v0_2 p0 p1 p2 p3 p4 p5)), .val (.ref b1), .val (.ref b51), .val (.ref xta6_0_248)] [(.int p2)])) _
                  refine XS.aload X248.here hx rfl (hb hby at_289) rfl rfl ?_
                  show Steps p.tables e below (T248.setTop (mkF m 291 #[.val (.int p0), .val (.int p1), .val (.int p2), .val (.int p3), .val (.int p4), .val (.int p5), .val (.int (v0_2 p0 p1 p2 p3 p4 p5)), .val (.ref b1), .val (.ref b51), .val (.ref xta6_0_248)] [(.ref b1), (.int p2)])) _
                  refine XT.iconstV X248.here hx rfl (2 : Int32) (hb hby at_291) (by decide) ?_
                  show Steps p.tables e below (T248.setTop (mkF m 292 #[.val (.int p0), .val (.int p1), .val (.int p2), .val (.int p3), .val (.int p4), .val (.int p5), .val (.int (v0_2 p0 p1 p2 p3 p4 p5)), .val (.ref b1), .val (.ref b51), .val (.ref xta6_0_248)] [(.int (2 : Int32)), (.ref b1), (.int p2)])) _
                  refine X248.iaload hx (j := (2 : Int32)) (v := (.int p2)) Ar262.1 (State.isArrayOf_alike hZ.alike Ar262.2.1) Ar262.2.2 hin267 (Has.at Ha262 hin267 rfl) (g := (mkF m 292 #[.val (.int p0), .val (.int p1), .val (.int p2), .val (.int p3), .val (.int p4), .val (.int p5), .val (.int (v0_2 p0 p1 p2 p3 p4 p5)), .val (.ref b1), .val (.ref b51), .val (.ref xta6_0_248)] [(.int (2 : Int32)), (.ref b1), (.int p2)])) rfl rfl (hb hby at_292) _ ?_
                  show Steps p.tables e below (T248.setTop (mkF m 293 #[.val (.int p0), .val (.int p1), .val (.int p2), .val (.int p3), .val (.int p4), .val (.int p5), .val (.int (v0_2 p0 p1 p2 p3 p4 p5)), .val (.ref b1), .val (.ref b51), .val (.ref xta6_0_248)] [(.int p2), (.int p2)])) _
                  refine XS.icmpYes X248.here hx rfl (pc0 := 293) (pc' := 298) rfl (hb hby at_293) rfl (XT.ii_eq_t (rfl : p2 = p2)) (by decide) (by decide) ?_
                  show Steps p.tables e below (T248.setTop (mkF m 298 #[.val (.int p0), .val (.int p1), .val (.int p2), .val (.int p3), .val (.int p4), .val (.int p5), .val (.int (v0_2 p0 p1 p2 p3 p4 p5)), .val (.ref b1), .val (.ref b51), .val (.ref xta6_0_248)] [])) _
                  refine XS.iload X248.here hx rfl (hb hby at_298) rfl ?_
                  show Steps p.tables e below (T248.setTop (mkF m 300 #[.val (.int p0), .val (.int p1), .val (.int p2), .val (.int p3), .val (.int p4), .val (.int p5), .val (.int (v0_2 p0 p1 p2 p3 p4 p5)), .val (.ref b1), .val (.ref b51), .val (.ref xta6_0_248)] [(.int (v0_2 p0 p1 p2 p3 p4 p5))])) _
                  refine XT.iconstV X248.here hx rfl (3 : Int32) (hb hby at_300) (by decide) ?_
                  show Steps p.tables e below (T248.setTop (mkF m 301 #[.val (.int p0), .val (.int p1), .val (.int p2), .val (.int p3), .val (.int p4), .val (.int p5), .val (.int (v0_2 p0 p1 p2 p3 p4 p5)), .val (.ref b1), .val (.ref b51), .val (.ref xta6_0_248)] [(.int (3 : Int32)), (.int (v0_2 p0 p1 p2 p3 p4 p5))])) _
                  refine XS.icmpNo X248.here hx rfl (hb hby at_301) rfl (XT.ii_le_f c91) ?_
                  show Steps p.tables e below (T248.setTop (mkF m 304 #[.val (.int p0), .val (.int p1), .val (.int p2), .val (.int p3), .val (.int p4), .val (.int p5), .val (.int (v0_2 p0 p1 p2 p3 p4 p5)), .val (.ref b1), .val (.ref b51), .val (.ref xta6_0_248)] [])) _
                  refine XS.aload X248.here hx rfl (hb hby at_304) rfl rfl ?_
                  show Steps p.tables e below (T248.setTop (mkF m 306 #[.val (.int p0), .val (.int p1), .val (.int p2), .val (.int p3), .val (.int p4), .val (.int p5), .val (.int (v0_2 p0 p1 p2 p3 p4 p5)), .val (.ref b1), .val (.ref b51), .val (.ref xta6_0_248)] [(.ref xta6_0_248)])) _
                  refine XT.iconstV X248.here hx rfl (3 : Int32) (hb hby at_306) (by decide) ?_
                  show Steps p.tables e below (T248.setTop (mkF m 307 #[.val (.int p0), .val (.int p1), .val (.int p2), .val (.int p3), .val (.int p4), .val (.int p5), .val (.int (v0_2 p0 p1 p2 p3 p4 p5)), .val (.ref b1), .val (.ref b51), .val (.ref xta6_0_248)] [(.int (3 : Int32)), (.ref xta6_0_248)])) _
                  refine X248.iaload hx (j := (3 : Int32)) (v := (.int p3)) Ar259.1 (State.isArrayOf_alike hZ.alike Ar259.2.1) Ar259.2.2 hin268 (Has.at Ha259 hin268 rfl) (g := (mkF m 307 #[.val (.int p0), .val (.int p1), .val (.int p2), .val (.int p3), .val (.int p4), .val (.int p5), .val (.int (v0_2 p0 p1 p2 p3 p4 p5)), .val (.ref b1), .val (.ref b51), .val (.ref xta6_0_248)] [(.int (3 : Int32)), (.ref xta6_0_248)])) rfl rfl (hb hby at_307) _ ?_
                  show Steps p.tables e below (T248.setTop (mkF m 308 #[.val (.int p0), .val (.int p1), .val (.int p2), .val (.int p3), .val (.int p4), .val (.int p5), .val (.int (v0_2 p0 p1 p2 p3 p4 p5)), .val (.ref b1), .val (.ref b51), .val (.ref xta6_0_248)] [(.int p3)])) _
                  refine XS.aload X248.here hx rfl (hb hby at_308) rfl rfl ?_
                  show Steps p.tables e below (T248.setTop (mkF m 310 #[.val (.int p0), .val (.int p1), .val (.int p2), .val (.int p3), .val (.int p4), .val (.int p5), .val (.int (v0_2 p0 p1 p2 p3 p4 p5)), .val (.ref b1), .val (.ref b51), .val (.ref xta6_0_248)] [(.ref b1), (.int p3)])) _
                  refine XT.iconstV X248.here hx rfl (3 : Int32) (hb hby at_310) (by decide) ?_
                  show Steps p.tables e below (T248.setTop (mkF m 311 #[.val (.int p0), .val (.int p1), .val (.int p2), .val (.int p3), .val (.int p4), .val (.int p5), .val (.int (v0_2 p0 p1 p2 p3 p4 p5)), .val (.ref b1), .val (.ref b51), .val (.ref xta6_0_248)] [(.int (3 : Int32)), (.ref b1), (.int p3)])) _
                  refine X248.iaload hx (j := (3 : Int32)) (v := (.int p3)) Ar262.1 (State.isArrayOf_alike hZ.alike Ar262.2.1) Ar262.2.2 hin269 (Has.at Ha262 hin269 rfl) (g := (mkF m 311 #[.val (.int p0), .val (.int p1), .val (.int p2), .val (.int p3), .val (.int p4), .val (.int p5), .val (.int (v0_2 p0 p1 p2 p3 p4 p5)), .val (.ref b1), .val (.ref b51), .val (.ref xta6_0_248)] [(.int (3 : Int32)), (.ref b1), (.int p3)])) rfl rfl (hb hby at_311) _ ?_
                  show Steps p.tables e below (T248.setTop (mkF m 312 #[.val (.int p0), .val (.int p1), .val (.int p2), .val (.int p3), .val (.int p4), .val (.int p5), .val (.int (v0_2 p0 p1 p2 p3 p4 p5)), .val (.ref b1), .val (.ref b51), .val (.ref xta6_0_248)] [(.int p3), (.int p3)])) _
                  refine XS.icmpYes X248.here hx rfl (pc0 := 312) (pc' := 317) rfl (hb hby at_312) rfl (XT.ii_eq_t (rfl : p3 = p3)) (by decide) (by decide) ?_
                  show Steps p.tables e below (T248.setTop (mkF m 317 #[.val (.int p0), .val (.int p1), .val (.int p2), .val (.int p3), .val (.int p4), .val (.int p5), .val (.int (v0_2 p0 p1 p2 p3 p4 p5)), .val (.ref b1), .val (.ref b51), .val (.ref xta6_0_248)] [])) _
                  refine XS.iload X248.here hx rfl (hb hby at_317) rfl ?_
                  show Steps p.tables e below (T248.setTop (mkF m 319 #[.val (.int p0), .val (.int p1), .val (.int p2), .val (.int p3), .val (.int p4), .val (.int p5), .val (.int (v0_2 p0 p1 p2 p3 p4 p5)), .val (.ref b1), .val (.ref b51), .val (.ref xta6_0_248)] [(.int (v0_2 p0 p1 p2 p3 p4 p5))])) _
                  refine XT.iconstV X248.here hx rfl (4 : Int32) (hb hby at_319) (by decide) ?_
                  show Steps p.tables e below (T248.setTop (mkF m 320 #[.val (.int p0), .val (.int p1), .val (.int p2), .val (.int p3), .val (.int p4), .val (.int p5), .val (.int (v0_2 p0 p1 p2 p3 p4 p5)), .val (.ref b1), .val (.ref b51), .val (.ref xta6_0_248)] [(.int (4 : Int32)), (.int (v0_2 p0 p1 p2 p3 p4 p5))])) _
                  refine XS.icmpNo X248.here hx rfl (hb hby at_320) rfl (XT.ii_le_f c99) ?_
                  show Steps p.tables e below (T248.setTop (mkF m 323 #[.val (.int p0), .val (.int p1), .val (.int p2), .val (.int p3), .val (.int p4), .val (.int p5), .val (.int (v0_2 p0 p1 p2 p3 p4 p5)), .val (.ref b1), .val (.ref b51), .val (.ref xta6_0_248)] [])) _
                  refine XS.aload X248.here hx rfl (hb hby at_323) rfl rfl ?_
                  show Steps p.tables e below (T248.setTop (mkF m 325 #[.val (.int p0), .val (.int p1), .val (.int p2), .val (.int p3), .val (.int p4), .val (.int p5), .val (.int (v0_2 p0 p1 p2 p3 p4 p5)), .val (.ref b1), .val (.ref b51), .val (.ref xta6_0_248)] [(.ref xta6_0_248)])) _
                  refine XT.iconstV X248.here hx rfl (4 : Int32) (hb hby at_325) (by decide) ?_
                  show Steps p.tables e below (T248.setTop (mkF m 326 #[.val (.int p0), .val (.int p1), .val (.int p2), .val (.int p3), .val (.int p4), .val (.int p5), .val (.int (v0_2 p0 p1 p2 p3 p4 p5)), .val (.ref b1), .val (.ref b51), .val (.ref xta6_0_248)] [(.int (4 : Int32)), (.ref xta6_0_248)])) _
                  refine X248.iaload hx (j := (4 : Int32)) (v := (.int p4)) Ar259.1 (State.isArrayOf_alike hZ.alike Ar259.2.1) Ar259.2.2 hin270 (Has.at Ha259 hin270 rfl) (g := (mkF m 326 #[.val (.int p0), .val (.int p1), .val (.int p2), .val (.int p3), .val (.int p4), .val (.int p5), .val (.int (v0_2 p0 p1 p2 p3 p4 p5)), .val (.ref b1), .val (.ref b51), .val (.ref xta6_0_248)] [(.int (4 : Int32)), (.ref xta6_0_248)])) rfl rfl (hb hby at_326) _ ?_
                  show Steps p.tables e below (T248.setTop (mkF m 327 #[.val (.int p0), .val (.int p1), .val (.int p2), .val (.int p3), .val (.int p4), .val (.int p5), .val (.int (v0_2 p0 p1 p2 p3 p4 p5)), .val (.ref b1), .val (.ref b51), .val (.ref xta6_0_248)] [(.int p4)])) _
                  refine XS.aload X248.here hx rfl (hb hby at_327) rfl rfl ?_
                  show Steps p.tables e below (T248.setTop (mkF m 329 #[.val (.int p0), .val (.int p1), .val (.int p2), .val (.int p3), .val (.int p4), .val (.int p5), .val (.int (v0_2 p0 p1 p2 p3 p4 p5)), .val (.ref b1), .val (.ref b51), .val (.ref xta6_0_248)] [(.ref b1), (.int p4)])) _
                  refine XT.iconstV X248.here hx rfl (4 : Int32) (hb hby at_329) (by decide) ?_
                  show Steps p.tables e below (T248.setTop (mkF m 330 #[.val (.int p0), .val (.int p1), .val (.int p2), .val (.int p3), .val (.int p4), .val (.int p5), .val (.int (v0_2 p0 p1 p2 p3 p4 p5)), .val (.ref b1), .val (.ref b51), .val (.ref xta6_0_248)] [(.int (4 : Int32)), (.ref b1), (.int p4)])) _
                  refine X248.iaload hx (j := (4 : Int32)) (v := (.int p4)) Ar262.1 (State.isArrayOf_alike hZ.alike Ar262.2.1) Ar262.2.2 hin271 (Has.at Ha262 hin271 rfl) (g := (mkF m 330 #[.val (.int p0), .val (.int p1), .val (.int p2), .val (.int p3), .val (.int p4), .val (.int p5), .val (.int (v0_2 p0 p1 p2 p3 p4 p5)), .val (.ref b1), .val (.ref b51), .val (.ref xta6_0_248)] [(.int (4 : Int32)), (.ref b1), (.int p4)])) rfl rfl (hb hby at_330) _ ?_
                  show Steps p.tables e below (T248.setTop (mkF m 331 #[.val (.int p0), .val (.int p1), .val (.int p2), .val (.int p3), .val (.int p4), .val (.int p5), .val (.int (v0_2 p0 p1 p2 p3 p4 p5)), .val (.ref b1), .val (.ref b51), .val (.ref xta6_0_248)] [(.int p4), (.int p4)])) _
                  refine XS.icmpYes X248.here hx rfl (pc0 := 331) (pc' := 336) rfl (hb hby at_331) rfl (XT.ii_eq_t (rfl : p4 = p4)) (by decide) (by decide) ?_
                  show Steps p.tables e below (T248.setTop (mkF m 336 #[.val (.int p0), .val (.int p1), .val (.int p2), .val (.int p3), .val (.int p4), .val (.int p5), .val (.int (v0_2 p0 p1 p2 p3 p4 p5)), .val (.ref b1), .val (.ref b51), .val (.ref xta6_0_248)] [])) _
                  refine XS.iload X248.here hx rfl (hb hby at_336) rfl ?_
                  show Steps p.tables e below (T248.setTop (mkF m 338 #[.val (.int p0), .val (.int p1), .val (.int p2), .val (.int p3), .val (.int p4), .val (.int p5), .val (.int (v0_2 p0 p1 p2 p3 p4 p5)), .val (.ref b1), .val (.ref b51), .val (.ref xta6_0_248)] [(.int (v0_2 p0 p1 p2 p3 p4 p5))])) _
                  refine XT.iconstV X248.here hx rfl (5 : Int32) (hb hby at_338) (by decide) ?_
                  show Steps p.tables e below (T248.setTop (mkF m 339 #[.val (.int p0), .val (.int p1), .val (.int p2), .val (.int p3), .val (.int p4), .val (.int p5), .val (.int (v0_2 p0 p1 p2 p3 p4 p5)), .val (.ref b1), .val (.ref b51), .val (.ref xta6_0_248)] [(.int (5 : Int32)), (.int (v0_2 p0 p1 p2 p3 p4 p5))])) _
                  refine XS.icmpNo X248.here hx rfl (hb hby at_339) rfl (XT.ii_le_f c113) ?_
                  show Steps p.tables e below (T248.setTop (mkF m 342 #[.val (.int p0), .val (.int p1), .val (.int p2), .val (.int p3), .val (.int p4), .val (.int p5), .val (.int (v0_2 p0 p1 p2 p3 p4 p5)), .val (.ref b1), .val (.ref b51), .val (.ref xta6_0_248)] [])) _
                  refine XS.aload X248.here hx rfl (hb hby at_342) rfl rfl ?_
                  show Steps p.tables e below (T248.setTop (mkF m 344 #[.val (.int p0), .val (.int p1), .val (.int p2), .val (.int p3), .val (.int p4), .val (.int p5), .val (.int (v0_2 p0 p1 p2 p3 p4 p5)), .val (.ref b1), .val (.ref b51), .val (.ref xta6_0_248)] [(.ref xta6_0_248)])) _
                  refine XT.iconstV X248.here hx rfl (5 : Int32) (hb hby at_344) (by decide) ?_
                  show Steps p.tables e below (T248.setTop (mkF m 345 #[.val (.int p0), .val (.int p1), .val (.int p2), .val (.int p3), .val (.int p4), .val (.int p5), .val (.int (v0_2 p0 p1 p2 p3 p4 p5)), .val (.ref b1), .val (.ref b51), .val (.ref xta6_0_248)] [(.int (5 : Int32)), (.ref xta6_0_248)])) _
                  refine X248.iaload hx (j := (5 : Int32)) (v := (.int (v0_3 p0 p1 p2 p3 p4 p5))) Ar259.1 (State.isArrayOf_alike hZ.alike Ar259.2.1) Ar259.2.2 hin272 (Has.at Ha259 hin272 rfl) (g := (mkF m 345 #[.val (.int p0), .val (.int p1), .val (.int p2), .val (.int p3), .val (.int p4), .val (.int p5), .val (.int (v0_2 p0 p1 p2 p3 p4 p5)), .val (.ref b1), .val (.ref b51), .val (.ref xta6_0_248)] [(.int (5 : Int32)), (.ref xta6_0_248)])) rfl rfl (hb hby at_345) _ ?_
                  show Steps p.tables e below (T248.setTop (mkF m 346 #[.val (.int p0), .val (.int p1), .val (.int p2), .val (.int p3), .val (.int p4), .val (.int p5), .val (.int (v0_2 p0 p1 p2 p3 p4 p5)), .val (.ref b1), .val (.ref b51), .val (.ref xta6_0_248)] [(.int (v0_3 p0 p1 p2 p3 p4 p5))])) _
                  refine XS.aload X248.here hx rfl (hb hby at_346) rfl rfl ?_
                  show Steps p.tables e below (T248.setTop (mkF m 348 #[.val (.int p0), .val (.int p1), .val (.int p2), .val (.int p3), .val (.int p4), .val (.int p5), .val (.int (v0_2 p0 p1 p2 p3 p4 p5)), .val (.ref b1), .val (.ref b51), .val (.ref xta6_0_248)] [(.ref b1), (.int (v0_3 p0 p1 p2 p3 p4 p5))])) _
                  refine XT.iconstV X248.here hx rfl (5 : Int32) (hb hby at_348) (by decide) ?_
                  show Steps p.tables e below (T248.setTop (mkF m 349 #[.val (.int p0), .val (.int p1), .val (.int p2), .val (.int p3), .val (.int p4), .val (.int p5), .val (.int (v0_2 p0 p1 p2 p3 p4 p5)), .val (.ref b1), .val (.ref b51), .val (.ref xta6_0_248)] [(.int (5 : Int32)), (.ref b1), (.int (v0_3 p0 p1 p2 p3 p4 p5))])) _
                  refine X248.iaload hx (j := (5 : Int32)) (v := (.int (v0_3 p0 p1 p2 p3 p4 p5))) Ar262.1 (State.isArrayOf_alike hZ.alike Ar262.2.1) Ar262.2.2 hin273 (Has.at Ha262 hin273 rfl) (g := (mkF m 349 #[.val (.int p0), .val (.int p1), .val (.int p2), .val (.int p3), .val (.int p4), .val (.int p5), .val (.int (v0_2 p0 p1 p2 p3 p4 p5)), .val (.ref b1), .val (.ref b51), .val (.ref xta6_0_248)] [(.int (5 : Int32)), (.ref b1), (.int (v0_3 p0 p1 p2 p3 p4 p5))])) rfl rfl (hb hby at_349) _ ?_
                  show Steps p.tables e below (T248.setTop (mkF m 350 #[.val (.int p0), .val (.int p1), .val (.int p2), .val (.int p3), .val (.int p4), .val (.int p5), .val (.int (v0_2 p0 p1 p2 p3 p4 p5)), .val (.ref b1), .val (.ref b51), .val (.ref xta6_0_248)] [(.int (v0_3 p0 p1 p2 p3 p4 p5)), (.int (v0_3 p0 p1 p2 p3 p4 p5))])) _
                  refine XS.icmpYes X248.here hx rfl (pc0 := 350) (pc' := 355) rfl (hb hby at_350) rfl (XT.ii_eq_t (rfl : (v0_3 p0 p1 p2 p3 p4 p5) = (v0_3 p0 p1 p2 p3 p4 p5))) (by decide) (by decide) ?_
                  show Steps p.tables e below (T248.setTop (mkF m 355 #[.val (.int p0), .val (.int p1), .val (.int p2), .val (.int p3), .val (.int p4), .val (.int p5), .val (.int (v0_2 p0 p1 p2 p3 p4 p5)), .val (.ref b1), .val (.ref b51), .val (.ref xta6_0_248)] [])) _
                  refine XS.iload X248.here hx rfl (hb hby at_355) rfl ?_
                  show Steps p.tables e below (T248.setTop (mkF m 357 #[.val (.int p0), .val (.int p1), .val (.int p2), .val (.int p3), .val (.int p4), .val (.int p5), .val (.int (v0_2 p0 p1 p2 p3 p4 p5)), .val (.ref b1), .val (.ref b51), .val (.ref xta6_0_248)] [(.int (v0_2 p0 p1 p2 p3 p4 p5))])) _
                  refine XT.bipushV X248.here hx rfl (6 : Int32) (hb hby at_357) (by decide) ?_
                  show Steps p.tables e below (T248.setTop (mkF m 359 #[.val (.int p0), .val (.int p1), .val (.int p2), .val (.int p3), .val (.int p4), .val (.int p5), .val (.int (v0_2 p0 p1 p2 p3 p4 p5)), .val (.ref b1), .val (.ref b51), .val (.ref xta6_0_248)] [(.int (6 : Int32)), (.int (v0_2 p0 p1 p2 p3 p4 p5))])) _
                  refine XS.icmpYes X248.here hx rfl (pc0 := 359) (pc' := 377) rfl (hb hby at_359) rfl (XT.ii_le_t c121) (by decide) (by decide) ?_
                  show Steps p.tables e below (T248.setTop (mkF m 377 #[.val (.int p0), .val (.int p1), .val (.int p2), .val (.int p3), .val (.int p4), .val (.int p5), .val (.int (v0_2 p0 p1 p2 p3 p4 p5)), .val (.ref b1), .val (.ref b51), .val (.ref xta6_0_248)] [])) _
                  refine XS.iload X248.here hx rfl (hb hby at_377) rfl ?_
                  show Steps p.tables e below (T248.setTop (mkF m 379 #[.val (.int p0), .val (.int p1), .val (.int p2), .val (.int p3), .val (.int p4), .val (.int p5), .val (.int (v0_2 p0 p1 p2 p3 p4 p5)), .val (.ref b1), .val (.ref b51), .val (.ref xta6_0_248)] [(.int (v0_2 p0 p1 p2 p3 p4 p5))])) _
                  refine XT.bipushV X248.here hx rfl (7 : Int32) (hb hby at_379) (by decide) ?_
                  show Steps p.tables e below (T248.setTop (mkF m 381 #[.val (.int p0), .val (.int p1), .val (.int p2), .val (.int p3), .val (.int p4), .val (.int p5), .val (.int (v0_2 p0 p1 p2 p3 p4 p5)), .val (.ref b1), .val (.ref b51), .val (.ref xta6_0_248)] [(.int (7 : Int32)), (.int (v0_2 p0 p1 p2 p3 p4 p5))])) _
                  refine XS.icmpYes X248.here hx rfl (pc0 := 381) (pc' := 399) rfl (hb hby at_381) rfl (XT.ii_le_t (own_mono c121 (by decide))) (by decide) (by decide) ?_
                  show Steps p.tables e below (T248.setTop (mkF m 399 #[.val (.int p0), .val (.int p1), .val (.int p2), .val (.int p3), .val (.int p4), .val (.int p5), .val (.int (v0_2 p0 p1 p2 p3 p4 p5)), .val (.ref b1), .val (.ref b51), .val (.ref xta6_0_248)] [])) _
                  refine XS.iload X248.here hx rfl (hb hby at_399) rfl ?_
                  show Steps p.tables e below (T248.setTop (mkF m 401 #[.val (.int p0), .val (.int p1), .val (.int p2), .val (.int p3), .val (.int p4), .val (.int p5), .val (.int (v0_2 p0 p1 p2 p3 p4 p5)), .val (.ref b1), .val (.ref b51), .val (.ref xta6_0_248)] [(.int (v0_2 p0 p1 p2 p3 p4 p5))])) _
                  refine XT.bipushV X248.here hx rfl (8 : Int32) (hb hby at_401) (by decide) ?_
                  show Steps p.tables e below (T248.setTop (mkF m 403 #[.val (.int p0), .val (.int p1), .val (.int p2), .val (.int p3), .val (.int p4), .val (.int p5), .val (.int (v0_2 p0 p1 p2 p3 p4 p5)), .val (.ref b1), .val (.ref b51), .val (.ref xta6_0_248)] [(.int (8 : Int32)), (.int (v0_2 p0 p1 p2 p3 p4 p5))])) _
                  refine XS.icmpYes X248.here hx rfl (pc0 := 403) (pc' := 421) rfl (hb hby at_403) rfl (XT.ii_le_t (own_mono c121 (by decide))) (by decide) (by decide) ?_
                  show Steps p.tables e below (T248.setTop (mkF m 421 #[.val (.int p0), .val (.int p1), .val (.int p2), .val (.int p3), .val (.int p4), .val (.int p5), .val (.int (v0_2 p0 p1 p2 p3 p4 p5)), .val (.ref b1), .val (.ref b51), .val (.ref xta6_0_248)] [])) _
                  refine XT.iconstV X248.here hx rfl (1 : Int32) (hb hby at_421) (by decide) ?_
                  show Steps p.tables e below (T248.setTop (mkF m 422 #[.val (.int p0), .val (.int p1), .val (.int p2), .val (.int p3), .val (.int p4), .val (.int p5), .val (.int (v0_2 p0 p1 p2 p3 p4 p5)), .val (.ref b1), .val (.ref b51), .val (.ref xta6_0_248)] [(.int (1 : Int32))])) _
                  exact retN X248 hx (t := .boolean) Bd.returns (by simp) (hb hby at_422) hr
                · skip
                  show Q0 Z p0 p1 p2 p3 p4 p5 h0 n0 _ T248.heap _
                  exact ⟨rfl, N248⟩
            · skip
              obtain ⟨cq274, kq274, q274a, q274b, q274c⟩ := isOf hZ rfl po103_0
              obtain ⟨vr274, _, ⟨T274, L274, k274, n274⟩, -, X274, ⟨Lc274, hQ274, l274, y274, z274⟩, st274⟩ := X103.virtualBack hx (y := (⟨"com/example/vellum_index/vellumindex/IntList", "size", "()I"⟩ : MethodName)) (z := (⟨"com/example/vellum_index/vellumindex/IntList", "size", "()I"⟩ : MethodName)) hown (mvT hZ (hw _ (List.mem_of_getElem? (i := 20) rfl))) (mvT hZ (hw _ (List.mem_of_getElem? (i := 21) rfl))) (notFace_of_selects (args := #[]) (mvT hZ (hw _ (List.mem_of_getElem? (i := 23) rfl)))) (mvT hZ (hw _ (List.mem_of_getElem? (i := 23) rfl))) (mvT hZ (hw _ (List.mem_of_getElem? (i := 22) rfl))) (by decide) (backOf (W := 0) (rm4 l Z a0 hw [] b51 (5 : Int32) T103.heap n0 z110 po103_1) hZ (hw _ (List.mem_of_getElem? (i := 24) rfl)) (hw _ (List.mem_of_getElem? (i := 4) rfl)) (by decide) (by decide)) q274a q274c (g := (mkF m 215 #[.val (.int p0), .val (.int p1), .val (.int p2), .val (.int p3), .val (.int p4), .val (.int p5), .val (.int (v0_2 p0 p1 p2 p3 p4 p5)), .val (.ref b1), .val (.ref b51), .unset] [(.ref b51)])) rfl (by rw [hml]; rfl) (Steps.refl _) (argsL := []) (rest := []) (lenOf pd___I rfl) rfl (by show 2 * 0 + _ ≤ _; exact Nat.le_of_eq rfl) (hb hby at_215) (fun _ _ => ⟨rfl, rfl, (by decide : 4 + 0 ≤ _), (by decide : 23 + 0 ≤ _)⟩)
              dsimp only [Pt.U, Pt.locs, Pt.cells, Pt.slots] at X274 l274 y274 z274 st274 hQ274
              subst l274 y274 z274
              have N274q := (show _ ∧ _ ∧ _ from hQ274).1
              have hv274 := (show _ ∧ _ ∧ _ from hQ274).2.1
              have e274 := (show _ ∧ _ ∧ _ from hQ274).2.2
              clear hQ274
              subst hv274
              have N274 := Fr.app N103 N274q
              obtain ⟨cq275, kq275, q275a, q275b, q275c⟩ := isOf hZ e274 po103_0
              obtain ⟨vr275, _, ⟨T275, L275, k275, n275⟩, -, X275, ⟨Lc275, hQ275, l275, y275, z275⟩, st275⟩ := X274.virtualBack hx (y := (⟨"com/example/vellum_index/vellumindex/IntList", "toArray", "()[I"⟩ : MethodName)) (z := (⟨"com/example/vellum_index/vellumindex/IntList", "toArray", "()[I"⟩ : MethodName)) hown (mvT hZ (hw _ (List.mem_of_getElem? (i := 25) rfl))) (mvT hZ (hw _ (List.mem_of_getElem? (i := 26) rfl))) (notFace_of_selects (args := #[]) (mvT hZ (hw _ (List.mem_of_getElem? (i := 28) rfl)))) (mvT hZ (hw _ (List.mem_of_getElem? (i := 28) rfl))) (mvT hZ (hw _ (List.mem_of_getElem? (i := 27) rfl))) (by decide) (backOf (W := 0) (rmta5 l Z a0 hw [] b51 xadd4_0_103 p0 p1 p2 p3 p4 (0 : Int32) (0 : Int32) (0 : Int32) kadd4_1_103 T103.heap n0 z110 po103_0 po103_1 po103_2 po103_3 po103_4) hZ (hw _ (List.mem_of_getElem? (i := 29) rfl)) (hw _ (List.mem_of_getElem? (i := 4) rfl)) (by decide) (by decide)) q275a q275c (g := (mkF m 227 #[.val (.int p0), .val (.int p1), .val (.int p2), .val (.int p3), .val (.int p4), .val (.int p5), .val (.int (v0_2 p0 p1 p2 p3 p4 p5)), .val (.ref b1), .val (.ref b51), .unset] [(.ref b51)])) rfl (by rw [hml]; rfl) (Steps.refl _) (argsL := []) (rest := []) (lenOf pd____I rfl) rfl (by show 2 * 0 + _ ≤ _; exact Nat.le_of_eq rfl) (hb hby at_227) (fun _ _ => ⟨rfl, e274, (by decide : 4 + 1 ≤ _), (by decide : 23 + 5 ≤ _)⟩)
              dsimp only [Pt.U, Pt.locs, Pt.cells, Pt.slots] at X275 l275 y275 z275 st275 hQ275
              subst l275 y275 z275
              have N275q := (show _ ∧ _ from hQ275).1
              have hq275 := (show _ ∧ _ from hQ275).2
              clear hQ275
              obtain ⟨xta5_0_275, kta5_1_275, hq275x⟩ := hq275
              have hv275 := hq275x.1
              have szxta5_0_275 := hq275x.2.1
              have K275 := hq275x.2.2.1
              have po275_0 := hq275x.2.2.2.1
              have po275_1 := hq275x.2.2.2.2
              clear hq275x
              subst hv275
              have k276 := (k104.keep K103)
              have ne277 : b1 ≠ xta5_0_275 := Nat.ne_of_lt (Nat.lt_of_lt_of_le k276.lt szxta5_0_275)
              have ne278 : b51 ≠ xta5_0_275 := Nat.ne_of_lt (Nat.lt_of_lt_of_le po103_0.lt szxta5_0_275)
              have k279 := (po95_3.keep K103)
              have ne280 : x1_0_58 ≠ xta5_0_275 := Nat.ne_of_lt (Nat.lt_of_lt_of_le k279.lt szxta5_0_275)
              have ne281 : xadd4_0_103 ≠ xta5_0_275 := Nat.ne_of_lt (Nat.lt_of_lt_of_le po103_3.lt szxta5_0_275)
              have g282 : n0 ≤ xta5_0_275 := Nat.le_trans z110 szxta5_0_275
              have sz283 : h0.size ≤ xta5_0_275 := Nat.le_trans hs111 szxta5_0_275
              have z284 : n0 ≤ T275.heap.size := Nat.le_trans z110 K275.1
              have hs285 : h0.size ≤ T275.heap.size := Nat.le_trans hs111 K275.1
              have N275 := Fr.app N274 N275q
              obtain ⟨cl286, Ar286, qc286, S286, M286, Ha286, G286⟩ := id po275_1
              have hin287 : ¬ ((0 : Int32) < 0 ∨ cl286.slots.size ≤ ((0 : Int32)).toNatClampNeg) := inb_of S286 ⟨by decide, by decide⟩
              have k288 := ((k100.keep K103 (ninS ne53 nin0)).keep K275 nin0)
              obtain ⟨cl289, Ar289, qc289, S289, M289, Ha289, G289⟩ := id k288
              have hin290 : ¬ ((0 : Int32) < 0 ∨ cl289.slots.size ≤ ((0 : Int32)).toNatClampNeg) := inb_of S289 ⟨by decide, by decide⟩
              have hin291 : ¬ ((1 : Int32) < 0 ∨ cl286.slots.size ≤ ((1 : Int32)).toNatClampNeg) := inb_of S286 ⟨by decide, by decide⟩
              have hin292 : ¬ ((1 : Int32) < 0 ∨ cl289.slots.size ≤ ((1 : Int32)).toNatClampNeg) := inb_of S289 ⟨by decide, by decide⟩
              have hin293 : ¬ ((2 : Int32) < 0 ∨ cl286.slots.size ≤ ((2 : Int32)).toNatClampNeg) := inb_of S286 ⟨by decide, by decide⟩
              have hin294 : ¬ ((2 : Int32) < 0 ∨ cl289.slots.size ≤ ((2 : Int32)).toNatClampNeg) := inb_of S289 ⟨by decide, by decide⟩
              have hin295 : ¬ ((3 : Int32) < 0 ∨ cl286.slots.size ≤ ((3 : Int32)).toNatClampNeg) := inb_of S286 ⟨by decide, by decide⟩
              have hin296 : ¬ ((3 : Int32) < 0 ∨ cl289.slots.size ≤ ((3 : Int32)).toNatClampNeg) := inb_of S289 ⟨by decide, by decide⟩
              have hin297 : ¬ ((4 : Int32) < 0 ∨ cl286.slots.size ≤ ((4 : Int32)).toNatClampNeg) := inb_of S286 ⟨by decide, by decide⟩
              have hin298 : ¬ ((4 : Int32) < 0 ∨ cl289.slots.size ≤ ((4 : Int32)).toNatClampNeg) := inb_of S289 ⟨by decide, by decide⟩
              obtain ⟨fs, hr, hrun, hended, hW, hsame⟩ := X275.leave (v := some (.int (1 : Int32))) (fun h => by rw [Bd.returns] at h; cases h) hlk
              refine ⟨_, _, pre112 _ ?_, hrun, hended, _, _, rfl, ?_, ⟨_, rfl⟩, hW, hsame.mono (by decide) (by decide)⟩
              · skip
                show Steps p.tables e below (T103.setTop (mkF m 150 #[.val (.int p0), .val (.int p1), .val (.int p2), .val (.int p3), .val (.int p4), .val (.int p5), .val (.int (v0_2 p0 p1 p2 p3 p4 p5)), .val (.ref b1), .val (.ref b51), .unset] [(.int (5 : Int32)), (.int (v0_2 p0 p1 p2 p3 p4 p5))])) _
                refine XS.icmpYes X103.here hx rfl (pc0 := 150) (pc' := 162) rfl (hb hby at_150) rfl (XT.ii_le_t c113) (by decide) (by decide) ?_
                show Steps p.tables e below (T103.setTop (mkF m 162 #[.val (.int p0), .val (.int p1), .val (.int p2), .val (.int p3), .val (.int p4), .val (.int p5), .val (.int (v0_2 p0 p1 p2 p3 p4 p5)), .val (.ref b1), .val (.ref b51), .unset] [])) _
                refine XS.iload X103.here hx rfl (hb hby at_162) rfl ?_
                show Steps p.tables e below (T103.setTop (mkF m 164 #[.val (.int p0), .val (.int p1), .val (.int p2), .val (.int p3), .val (.int p4), .val (.int p5), .val (.int (v0_2 p0 p1 p2 p3 p4 p5)), .val (.ref b1), .val (.ref b51), .unset] [(.int (v0_2 p0 p1 p2 p3 p4 p5))])) _
                refine XT.bipushV X103.here hx rfl (6 : Int32) (hb hby at_164) (by decide) ?_
                show Steps p.tables e below (T103.setTop (mkF m 166 #[.val (.int p0), .val (.int p1), .val (.int p2), .val (.int p3), .val (.int p4), .val (.int p5), .val (.int (v0_2 p0 p1 p2 p3 p4 p5)), .val (.ref b1), .val (.ref b51), .unset] [(.int (6 : Int32)), (.int (v0_2 p0 p1 p2 p3 p4 p5))])) _
                refine XS.icmpYes X103.here hx rfl (pc0 := 166) (pc' := 179) rfl (hb hby at_166) rfl (XT.ii_le_t (own_mono c113 (by decide))) (by decide) (by decide) ?_
                show Steps p.tables e below (T103.setTop (mkF m 179 #[.val (.int p0), .val (.int p1), .val (.int p2), .val (.int p3), .val (.int p4), .val (.int p5), .val (.int (v0_2 p0 p1 p2 p3 p4 p5)), .val (.ref b1), .val (.ref b51), .unset] [])) _
                refine XS.iload X103.here hx rfl (hb hby at_179) rfl ?_
                show Steps p.tables e below (T103.setTop (mkF m 181 #[.val (.int p0), .val (.int p1), .val (.int p2), .val (.int p3), .val (.int p4), .val (.int p5), .val (.int (v0_2 p0 p1 p2 p3 p4 p5)), .val (.ref b1), .val (.ref b51), .unset] [(.int (v0_2 p0 p1 p2 p3 p4 p5))])) _
                refine XT.bipushV X103.here hx rfl (7 : Int32) (hb hby at_181) (by decide) ?_
                show Steps p.tables e below (T103.setTop (mkF m 183 #[.val (.int p0), .val (.int p1), .val (.int p2), .val (.int p3), .val (.int p4), .val (.int p5), .val (.int (v0_2 p0 p1 p2 p3 p4 p5)), .val (.ref b1), .val (.ref b51), .unset] [(.int (7 : Int32)), (.int (v0_2 p0 p1 p2 p3 p4 p5))])) _
                refine XS.icmpYes X103.here hx rfl (pc0 := 183) (pc' := 196) rfl (hb hby at_183) rfl (XT.ii_le_t (own_mono c113 (by decide))) (by decide) (by decide) ?_
                show Steps p.tables e below (T103.setTop (mkF m 196 #[.val (.int p0), .val (.int p1), .val (.int p2), .val (.int p3), .val (.int p4), .val (.int p5), .val (.int (v0_2 p0 p1 p2 p3 p4 p5)), .val (.ref b1), .val (.ref b51), .unset] [])) _
                refine XS.iload X103.here hx rfl (hb hby at_196) rfl ?_
                show Steps p.tables e below (T103.setTop (mkF m 198 #[.val (.int p0), .val (.int p1), .val (.int p2), .val (.int p3), .val (.int p4), .val (.int p5), .val (.int (v0_2 p0 p1 p2 p3 p4 p5)), .val (.ref b1), .val (.ref b51), .unset] [(.int (v0_2 p0 p1 p2 p3 p4 p5))])) _
                refine XT.bipushV X103.here hx rfl (8 : Int32) (hb hby at_198) (by decide) ?_
                show Steps p.tables e below (T103.setTop (mkF m 200 #[.val (.int p0), .val (.int p1), .val (.int p2), .val (.int p3), .val (.int p4), .val (.int p5), .val (.int (v0_2 p0 p1 p2 p3 p4 p5)), .val (.ref b1), .val (.ref b51), .unset] [(.int (8 : Int32)), (.int (v0_2 p0 p1 p2 p3 p4 p5))])) _
                refine XS.icmpYes X103.here hx rfl (pc0 := 200) (pc' := 213) rfl (hb hby at_200) rfl (XT.ii_le_t (own_mono c113 (by decide))) (by decide) (by decide) ?_
                show Steps p.tables e below (T103.setTop (mkF m 213 #[.val (.int p0), .val (.int p1), .val (.int p2), .val (.int p3), .val (.int p4), .val (.int p5), .val (.int (v0_2 p0 p1 p2 p3 p4 p5)), .val (.ref b1), .val (.ref b51), .unset] [])) _
                refine XS.aload X103.here hx rfl (hb hby at_213) rfl rfl ?_
                show Steps p.tables e below (T103.setTop (mkF m 215 #[.val (.int p0), .val (.int p1), .val (.int p2), .val (.int p3), .val (.int p4), .val (.int p5), .val (.int (v0_2 p0 p1 p2 p3 p4 p5)), .val (.ref b1), .val (.ref b51), .unset] [(.ref b51)])) _
                refine st274.trans ?_
                show Steps p.tables e below (T274.setTop (mkF m 218 #[.val (.int p0), .val (.int p1), .val (.int p2), .val (.int p3), .val (.int p4), .val (.int p5), .val (.int (v0_2 p0 p1 p2 p3 p4 p5)), .val (.ref b1), .val (.ref b51), .unset] [(.int (f4 (5 : Int32)))])) _
                refine XS.iload X274.here hx rfl (hb hby at_218) rfl ?_
                show Steps p.tables e below (T274.setTop (mkF m 220 #[.val (.int p0), .val (.int p1), .val (.int p2), .val (.int p3), .val (.int p4), .val (.int p5), .val (.int (v0_2 p0 p1 p2 p3 p4 p5)), .val (.ref b1), .val (.ref b51), .unset] [(.int (v0_2 p0 p1 p2 p3 p4 p5)), (.int (f4 (5 : Int32)))])) _
                refine XS.icmpYes X274.here hx rfl (pc0 := 220) (pc' := 225) rfl (hb hby at_220) rfl (XT.ii_eq_t ((own_eqn c99 c113 (by decide))).symm) (by decide) (by decide) ?_
                show Steps p.tables e below (T274.setTop (mkF m 225 #[.val (.int p0), .val (.int p1), .val (.int p2), .val (.int p3), .val (.int p4), .val (.int p5), .val (.int (v0_2 p0 p1 p2 p3 p4 p5)), .val (.ref b1), .val (.ref b51), .unset] [])) _
                refine XS.aload X274.here hx rfl (hb hby at_225) rfl rfl ?_
                show Steps p.tables e below (T274.setTop (mkF m 227 #[.val (.int p0), .val (.int p1), .val (.int p2), .val (.int p3), .val (.int p4), .val (.int p5), .val (.int (v0_2 p0 p1 p2 p3 p4 p5)), .val (.ref b1), .val (.ref b51), .unset] [(.ref b51)])) _
                refine st275.trans ?_
                show Steps p.tables e below (T275.setTop (mkF m 230 #[.val (.int p0), .val (.int p1), .val (.int p2), .val (.int p3), .val (.int p4), .val (.int p5), .val (.int (v0_2 p0 p1 p2 p3 p4 p5)), .val (.ref b1), .val (.ref b51), .unset] [(.ref xta5_0_275)])) _
                refine XS.astore X275.here hx rfl (hb hby at_230) rfl rfl (l' := #[.val (.int p0), .val (.int p1), .val (.int p2), .val (.int p3), .val (.int p4), .val (.int p5), .val (.int (v0_2 p0 p1 p2 p3 p4 p5)), .val (.ref b1), .val (.ref b51), .val (.ref xta5_0_275)]) rfl ?_
                show Steps p.tables e below (T275.setTop (mkF m 232 #[.val (.int p0), .val (.int p1), .val (.int p2), .val (.int p3), .val (.int p4), .val (.int p5), .val (.int (v0_2 p0 p1 p2 p3 p4 p5)), .val (.ref b1), .val (.ref b51), .val (.ref xta5_0_275)] [])) _
                refine XS.aload X275.here hx rfl (hb hby at_232) rfl rfl ?_
                show Steps p.tables e below (T275.setTop (mkF m 234 #[.val (.int p0), .val (.int p1), .val (.int p2), .val (.int p3), .val (.int p4), .val (.int p5), .val (.int (v0_2 p0 p1 p2 p3 p4 p5)), .val (.ref b1), .val (.ref b51), .val (.ref xta5_0_275)] [(.ref xta5_0_275)])) _
                refine X275.arraylength hx Ar286.1 (State.isArrayOf_alike hZ.alike Ar286.2.1) (g := (mkF m 234 #[.val (.int p0), .val (.int p1), .val (.int p2), .val (.int p3), .val (.int p4), .val (.int p5), .val (.int (v0_2 p0 p1 p2 p3 p4 p5)), .val (.ref b1), .val (.ref b51), .val (.ref xta5_0_275)] [(.ref xta5_0_275)])) rfl rfl (hb hby at_234) _ ?_
                rw [len_of S286 M286]
                show Steps p.tables e below (T275.setTop (mkF m 235 #[.val (.int p0), .val (.int p1), .val (.int p2), .val (.int p3), .val (.int p4), .val (.int p5), .val (.int (v0_2 p0 p1 p2 p3 p4 p5)), .val (.ref b1), .val (.ref b51), .val (.ref xta5_0_275)] [(.int (5 : Int32))])) _
                refine XS.iload X275.here hx rfl (hb hby at_235) rfl ?_
                show Steps p.tables e below (T275.setTop (mkF m 237 #[.val (.int p0), .val (.int p1), .val (.int p2), .val (.int p3), .val (.int p4), .val (.int p5), .val (.int (v0_2 p0 p1 p2 p3 p4 p5)), .val (.ref b1), .val (.ref b51), .val (.ref xta5_0_275)] [(.int (v0_2 p0 p1 p2 p3 p4 p5)), (.int (5 : Int32))])) _
                refine XS.icmpYes X275.here hx rfl (pc0 := 237) (pc' := 242) rfl (hb hby at_237) rfl (XT.ii_eq_t ((own_eqn c99 c113 (by decide))).symm) (by decide) (by decide) ?_
                show Steps p.tables e below (T275.setTop (mkF m 242 #[.val (.int p0), .val (.int p1), .val (.int p2), .val (.int p3), .val (.int p4), .val (.int p5), .val (.int (v0_2 p0 p1 p2 p3 p4 p5)), .val (.ref b1), .val (.ref b51), .val (.ref xta5_0_275)] [])) _
                refine XS.iload X275.here hx rfl (hb hby at_242) rfl ?_
                show Steps p.tables e below (T275.setTop (mkF m 244 #[.val (.int p0), .val (.int p1), .val (.int p2), .val (.int p3), .val (.int p4), .val (.int p5), .val (.int (v0_2 p0 p1 p2 p3 p4 p5)), .val (.ref b1), .val (.ref b51), .val (.ref xta5_0_275)] [(.int (v0_2 p0 p1 p2 p3 p4 p5))])) _
                refine XS.ifNo X275.here hx rfl (hb hby at_244) rfl (XT.i0_le_f c67) ?_
                show Steps p.tables e below (T275.setTop (mkF m 247 #[.val (.int p0), .val (.int p1), .val (.int p2), .val (.int p3), .val (.int p4), .val (.int p5), .val (.int (v0_2 p0 p1 p2 p3 p4 p5)), .val (.ref b1), .val (.ref b51), .val (.ref xta5_0_275)] [])) _
                refine XS.aload X275.here hx rfl (hb hby at_247) rfl rfl ?_
                show Steps p.tables e below (T275.setTop (mkF m 249 #[.val (.int p0), .val (.int p1), .val (.int p2), .val (.int p3), .val (.int p4), .val (.int p5), .val (.int (v0_2 p0 p1 p2 p3 p4 p5)), .val (.ref b1), .val (.ref b51), .val (.ref xta5_0_275)] [(.ref xta5_0_275)])) _
                refine XT.iconstV X275.here hx rfl (0 : Int32) (hb hby at_249) (by decide) ?_
                show Steps p.tables e below (T275.setTop (mkF m 250 #[.val (.int p0), .val (.int p1), .val (.int p2), .val (.int p3), .val (.int p4), .val (.int p5), .val (.int (v0_2 p0 p1 p2 p3 p4 p5)), .val (.ref b1), .val (.ref b51), .val (.ref xta5_0_275)] [(.int (0 : Int32)), (.ref xta5_0_275)])) _
                refine X275.iaload hx (j := (0 : Int32)) (v := (.int p0)) Ar286.1 (State.isArrayOf_alike hZ.alike Ar286.2.1) Ar286.2.2 hin287 (Has.at Ha286 hin287 rfl) (g := (mkF m 250 #[.val (.int p0), .val (.int p1), .val (.int p2), .val (.int p3), .val (.int p4), .val (.int p5), .val (.int (v0_2 p0 p1 p2 p3 p4 p5)), .val (.ref b1), .val (.ref b51), .val (.ref xta5_0_275)] [(.int (0 : Int32)), (.ref xta5_0_275)])) rfl rfl (hb hby at_250) _ ?_
                show Steps p.tables e below (T275.setTop (mkF m 251 #[.val (.int p0), .val (.int p1), .val (.int p2), .val (.int p3), .val (.int p4), .val (.int p5), .val (.int (v0_2 p0 p1 p2 p3 p4 p5)), .val (.ref b1), .val (.ref b51), .val (.ref xta5_0_275)] [(.int p0)])) _
                refine XS.aload X275.here hx rfl (hb hby at_251) rfl rfl ?_
                show Steps p.tables e below (T275.setTop (mkF m 253 #[.val (.int p0), .val (.int p1), .val (.int p2), .val (.int p3), .val (.int p4), .val (.int p5), .val (.int (v0_2 p0 p1 p2 p3 p4 p5)), .val (.ref b1), .val (.ref b51), .val (.ref xta5_0_275)] [(.ref b1), (.int p0)])) _
                refine XT.iconstV X275.here hx rfl (0 : Int32) (hb hby at_253) (by decide) ?_
                show Steps p.tables e below (T275.setTop (mkF m 254 #[.val (.int p0), .val (.int p1), .val (.int p2), .val (.int p3), .val (.int p4), .val (.int p5), .val (.int (v0_2 p0 p1 p2 p3 p4 p5)), .val (.ref b1), .val (.ref b51), .val (.ref xta5_0_275)] [(.int (0 : Int32)), (.ref b1), (.int p0)])) _
                refine X275.iaload hx (j := (0 : Int32)) (v := (.int p0)) Ar289.1 (State.isArrayOf_alike hZ.alike Ar289.2.1) Ar289.2.2 hin290 (Has.at Ha289 hin290 rfl) (g := (mkF m 254 #[.val (.int p0), .val (.int p1), .val (.int p2), .val (.int p3), .val (.int p4), .val (.int p5), .val (.int (v0_2 p0 p1 p2 p3 p4 p5)), .val (.ref b1), .val (.ref b51), .val (.ref xta5_0_275)] [(.int (0 : Int32)), (.ref b1), (.int p0)])) rfl rfl (hb hby at_254) _ ?_
                show Steps p.tables e below (T275.setTop (mkF m 255 #[.val (.int p0), .val (.int p1), .val (.int p2), .val (.int p3), .val (.int p4), .val (.int p5), .val (.int (v0_2 p0 p1 p2 p3 p4 p5)), .val (.ref b1), .val (.ref b51), .val (.ref xta5_0_275)] [(.int p0), (.int p0)])) _
                refine XS.icmpYes X275.here hx rfl (pc0 := 255) (pc' := 260) rfl (hb hby at_255) rfl (XT.ii_eq_t (rfl : p0 = p0)) (by decide) (by decide) ?_
                show Steps p.tables e below (T275.setTop (mkF m 260 #[.val (.int p0), .val (.int p1), .val (.int p2), .val (.int p3), .val (.int p4), .val (.int p5), .val (.int (v0_2 p0 p1 p2 p3 p4 p5)), .val (.ref b1), .val (.ref b51), .val (.ref xta5_0_275)] [])) _
                refine XS.iload X275.here hx rfl (hb hby at_260) rfl ?_
                show Steps p.tables e below (T275.setTop (mkF m 262 #[.val (.int p0), .val (.int p1), .val (.int p2), .val (.int p3), .val (.int p4), .val (.int p5), .val (.int (v0_2 p0 p1 p2 p3 p4 p5)), .val (.ref b1), .val (.ref b51), .val (.ref xta5_0_275)] [(.int (v0_2 p0 p1 p2 p3 p4 p5))])) _
                refine XT.iconstV X275.here hx rfl (1 : Int32) (hb hby at_262) (by decide) ?_
                show Steps p.tables e below (T275.setTop (mkF m 263 #[.val (.int p0), .val (.int p1), .val (.int p2), .val (.int p3), .val (.int p4), .val (.int p5), .val (.int (v0_2 p0 p1 p2 p3 p4 p5)), .val (.ref b1), .val (.ref b51), .val (.ref xta5_0_275)] [(.int (1 : Int32)), (.int (v0_2 p0 p1 p2 p3 p4 p5))])) _
                refine XS.icmpNo X275.here hx rfl (hb hby at_263) rfl (XT.ii_le_f c75) ?_
                show Steps p.tables e below (T275.setTop (mkF m 266 #[.val (.int p0), .val (.int p1), .val (.int p2), .val (.int p3), .val (.int p4), .val (.int p5), .val (.int (v0_2 p0 p1 p2 p3 p4 p5)), .val (.ref b1), .val (.ref b51), .val (.ref xta5_0_275)] [])) _
                refine XS.aload X275.here hx rfl (hb hby at_266) rfl rfl ?_
                show Steps p.tables e below (T275.setTop (mkF m 268 #[.val (.int p0), .val (.int p1), .val (.int p2), .val (.int p3), .val (.int p4), .val (.int p5), .val (.int (v0_2 p0 p1 p2 p3 p4 p5)), .val (.ref b1), .val (.ref b51), .val (.ref xta5_0_275)] [(.ref xta5_0_275)])) _
                refine XT.iconstV X275.here hx rfl (1 : Int32) (hb hby at_268) (by decide) ?_
                show Steps p.tables e below (T275.setTop (mkF m 269 #[.val (.int p0), .val (.int p1), .val (.int p2), .val (.int p3), .val (.int p4), .val (.int p5), .val (.int (v0_2 p0 p1 p2 p3 p4 p5)), .val (.ref b1), .val (.ref b51), .val (.ref xta5_0_275)] [(.int (1 : Int32)), (.ref xta5_0_275)])) _
                refine X275.iaload hx (j := (1 : Int32)) (v := (.int p1)) Ar286.1 (State.isArrayOf_alike hZ.alike Ar286.2.1) Ar286.2.2 hin291 (Has.at Ha286 hin291 rfl) (g := (mkF m 269 #[.val (.int p0), .val (.int p1), .val (.int p2), .val (.int p3), .val (.int p4), .val (.int p5), .val (.int (v0_2 p0 p1 p2 p3 p4 p5)), .val (.ref b1), .val (.ref b51), .val (.ref xta5_0_275)] [(.int (1 : Int32)), (.ref xta5_0_275)])) rfl rfl (hb hby at_269) _ ?_
                show Steps p.tables e below (T275.setTop (mkF m 270 #[.val (.int p0), .val (.int p1), .val (.int p2), .val (.int p3), .val (.int p4), .val (.int p5), .val (.int (v0_2 p0 p1 p2 p3 p4 p5)), .val (.ref b1), .val (.ref b51), .val (.ref xta5_0_275)] [(.int p1)])) _
                refine XS.aload X275.here hx rfl (hb hby at_270) rfl rfl ?_
                show Steps p.tables e below (T275.setTop (mkF m 272 #[.val (.int p0), .val (.int p1), .val (.int p2), .val (.int p3), .val (.int p4), .val (.int p5), .val (.int (v0_2 p0 p1 p2 p3 p4 p5)), .val (.ref b1), .val (.ref b51), .val (.ref xta5_0_275)] [(.ref b1), (.int p1)])) _
                refine XT.iconstV X275.here hx rfl (1 : Int32) (hb hby at_272) (by decide) ?_
                show Steps p.tables e below (T275.setTop (mkF m 273 #[.val (.int p0), .val (.int p1), .val (.int p2), .val (.int p3), .val (.int p4), .val (.int p5), .val (.int (v0_2 p0 p1 p2 p3 p4 p5)), .val (.ref b1), .val (.ref b51), .val (.ref xta5_0_275)] [(.int (1 : Int32)), (.ref b1), (.int p1)])) _
                refine X275.iaload hx (j := (1 : Int32)) (v := (.int p1)) Ar289.1 (State.isArrayOf_alike hZ.alike Ar289.2.1) Ar289.2.2 hin292 (Has.at Ha289 hin292 rfl) (g := (mkF m 273 #[.val (.int p0), .val (.int p1), .val (.int p2), .val (.int p3), .val (.int p4), .val (.int p5), .val (.int (v0_2 p0 p1 p2 p3 p4 p5)), .val (.ref b1), .val (.ref b51), .val (.ref xta5_0_275)] [(.int (1 : Int32)), (.ref b1), (.int p1)])) rfl rfl (hb hby at_273) _ ?_
                show Steps p.tables e below (T275.setTop (mkF m 274 #[.val (.int p0), .val (.int p1), .val (.int p2), .val (.int p3), .val (.int p4), .val (.int p5), .val (.int (v0_2 p0 p1 p2 p3 p4 p5)), .val (.ref b1), .val (.ref b51), .val (.ref xta5_0_275)] [(.int p1), (.int p1)])) _
                refine XS.icmpYes X275.here hx rfl (pc0 := 274) (pc' := 279) rfl (hb hby at_274) rfl (XT.ii_eq_t (rfl : p1 = p1)) (by decide) (by decide) ?_
                show Steps p.tables e below (T275.setTop (mkF m 279 #[.val (.int p0), .val (.int p1), .val (.int p2), .val (.int p3), .val (.int p4), .val (.int p5), .val (.int (v0_2 p0 p1 p2 p3 p4 p5)), .val (.ref b1), .val (.ref b51), .val (.ref xta5_0_275)] [])) _
                refine XS.iload X275.here hx rfl (hb hby at_279) rfl ?_
                show Steps p.tables e below (T275.setTop (mkF m 281 #[.val (.int p0), .val (.int p1), .val (.int p2), .val (.int p3), .val (.int p4), .val (.int p5), .val (.int (v0_2 p0 p1 p2 p3 p4 p5)), .val (.ref b1), .val (.ref b51), .val (.ref xta5_0_275)] [(.int (v0_2 p0 p1 p2 p3 p4 p5))])) _
                refine XT.iconstV X275.here hx rfl (2 : Int32) (hb hby at_281) (by decide) ?_
                show Steps p.tables e below (T275.setTop (mkF m 282 #[.val (.int p0), .val (.int p1), .val (.int p2), .val (.int p3), .val (.int p4), .val (.int p5), .val (.int (v0_2 p0 p1 p2 p3 p4 p5)), .val (.ref b1), .val (.ref b51), .val (.ref xta5_0_275)] [(.int (2 : Int32)), (.int (v0_2 p0 p1 p2 p3 p4 p5))])) _
                refine XS.icmpNo X275.here hx rfl (hb hby at_282) rfl (XT.ii_le_f c83) ?_
                show Steps p.tables e below (T275.setTop (mkF m 285 #[.val (.int p0), .val (.int p1), .val (.int p2), .val (.int p3), .val (.int p4), .val (.int p5), .val (.int (v0_2 p0 p1 p2 p3 p4 p5)), .val (.ref b1), .val (.ref b51), .val (.ref xta5_0_275)] [])) _
                refine XS.aload X275.here hx rfl (hb hby at_285) rfl rfl ?_
                show Steps p.tables e below (T275.setTop (mkF m 287 #[.val (.int p0), .val (.int p1), .val (.int p2), .val (.int p3), .val (.int p4), .val (.int p5), .val (.int (v0_2 p0 p1 p2 p3 p4 p5)), .val (.ref b1), .val (.ref b51), .val (.ref xta5_0_275)] [(.ref xta5_0_275)])) _
                refine XT.iconstV X275.here hx rfl (2 : Int32) (hb hby at_287) (by decide) ?_
                show Steps p.tables e below (T275.setTop (mkF m 288 #[.val (.int p0), .val (.int p1), .val (.int p2), .val (.int p3), .val (.int p4), .val (.int p5), .val (.int (v0_2 p0 p1 p2 p3 p4 p5)), .val (.ref b1), .val (.ref b51), .val (.ref xta5_0_275)] [(.int (2 : Int32)), (.ref xta5_0_275)])) _
                refine X275.iaload hx (j := (2 : Int32)) (v := (.int p2)) Ar286.1 (State.isArrayOf_alike hZ.alike Ar286.2.1) Ar286.2.2 hin293 (Has.at Ha286 hin293 rfl) (g := (mkF m 288 #[.val (.int p0), .val (.int p1), .val (.int p2), .val (.int p3), .val (.int p4), .val (.int p5), .val (.int (v0_2 p0 p1 p2 p3 p4 p5)), .val (.ref b1), .val (.ref b51), .val (.ref xta5_0_275)] [(.int (2 : Int32)), (.ref xta5_0_275)])) rfl rfl (hb hby at_288) _ ?_
                show Steps p.tables e below (T275.setTop (mkF m 289 #[.val (.int p0), .val (.int p1), .val (.int p2), .val (.int p3), .val (.int p4), .val (.int p5), .val (.int (v0_2 p0 p1 p2 p3 p4 p5)), .val (.ref b1), .val (.ref b51), .val (.ref xta5_0_275)] [(.int p2)])) _
                refine XS.aload X275.here hx rfl (hb hby at_289) rfl rfl ?_
                show Steps p.tables e below (T275.setTop (mkF m 291 #[.val (.int p0), .val (.int p1), .val (.int p2), .val (.int p3), .val (.int p4), .val (.int p5), .val (.int (v0_2 p0 p1 p2 p3 p4 p5)), .val (.ref b1), .val (.ref b51), .val (.ref xta5_0_275)] [(.ref b1), (.int p2)])) _
                refine XT.iconstV X275.here hx rfl (2 : Int32) (hb hby at_291) (by decide) ?_
                show Steps p.tables e below (T275.setTop (mkF m 292 #[.val (.int p0), .val (.int p1), .val (.int p2), .val (.int p3), .val (.int p4), .val (.int p5), .val (.int (v0_2 p0 p1 p2 p3 p4 p5)), .val (.ref b1), .val (.ref b51), .val (.ref xta5_0_275)] [(.int (2 : Int32)), (.ref b1), (.int p2)])) _
                refine X275.iaload hx (j := (2 : Int32)) (v := (.int p2)) Ar289.1 (State.isArrayOf_alike hZ.alike Ar289.2.1) Ar289.2.2 hin294 (Has.at Ha289 hin294 rfl) (g := (mkF m 292 #[.val (.int p0), .val (.int p1), .val (.int p2), .val (.int p3), .val (.int p4), .val (.int p5), .val (.int (v0_2 p0 p1 p2 p3 p4 p5)), .val (.ref b1), .val (.ref b51), .val (.ref xta5_0_275)] [(.int (2 : Int32)), (.ref b1), (.int p2)])) rfl rfl (hb hby at_292) _ ?_
                show Steps p.tables e below (T275.setTop (mkF m 293 #[.val (.int p0), .val (.int p1), .val (.int p2), .val (.int p3), .val (.int p4), .val (.int p5), .val (.int (v0_2 p0 p1 p2 p3 p4 p5)), .val (.ref b1), .val (.ref b51), .val (.ref xta5_0_275)] [(.int p2), (.int p2)])) _
                refine XS.icmpYes X275.here hx rfl (pc0 := 293) (pc' := 298) rfl (hb hby at_293) rfl (XT.ii_eq_t (rfl : p2 = p2)) (by decide) (by decide) ?_
                show Steps p.tables e below (T275.setTop (mkF m 298 #[.val (.int p0), .val (.int p1), .val (.int p2), .val (.int p3), .val (.int p4), .val (.int p5), .val (.int (v0_2 p0 p1 p2 p3 p4 p5)), .val (.ref b1), .val (.ref b51), .val (.ref xta5_0_275)] [])) _
                refine XS.iload X275.here hx rfl (hb hby at_298) rfl ?_
                show Steps p.tables e below (T275.setTop (mkF m 300 #[.val (.int p0), .val (.int p1), .val (.int p2), .val (.int p3), .val (.int p4), .val (.int p5), .val (.int (v0_2 p0 p1 p2 p3 p4 p5)), .val (.ref b1), .val (.ref b51), .val (.ref xta5_0_275)] [(.int (v0_2 p0 p1 p2 p3 p4 p5))])) _
                refine XT.iconstV X275.here hx rfl (3 : Int32) (hb hby at_300) (by decide) ?_
                show Steps p.tables e below (T275.setTop (mkF m 301 #[.val (.int p0), .val (.int p1), .val (.int p2), .val (.int p3), .val (.int p4), .val (.int p5), .val (.int (v0_2 p0 p1 p2 p3 p4 p5)), .val (.ref b1), .val (.ref b51), .val (.ref xta5_0_275)] [(.int (3 : Int32)), (.int (v0_2 p0 p1 p2 p3 p4 p5))])) _
                refine XS.icmpNo X275.here hx rfl (hb hby at_301) rfl (XT.ii_le_f c91) ?_
                show Steps p.tables e below (T275.setTop (mkF m 304 #[.val (.int p0), .val (.int p1), .val (.int p2), .val (.int p3), .val (.int p4), .val (.int p5), .val (.int (v0_2 p0 p1 p2 p3 p4 p5)), .val (.ref b1), .val (.ref b51), .val (.ref xta5_0_275)] [])) _
                refine XS.aload X275.here hx rfl (hb hby at_304) rfl rfl ?_
                show Steps p.tables e below (T275.setTop (mkF m 306 #[.val (.int p0), .val (.int p1), .val (.int p2), .val (.int p3), .val (.int p4), .val (.int p5), .val (.int (v0_2 p0 p1 p2 p3 p4 p5)), .val (.ref b1), .val (.ref b51), .val (.ref xta5_0_275)] [(.ref xta5_0_275)])) _
                refine XT.iconstV X275.here hx rfl (3 : Int32) (hb hby at_306) (by decide) ?_
                show Steps p.tables e below (T275.setTop (mkF m 307 #[.val (.int p0), .val (.int p1), .val (.int p2), .val (.int p3), .val (.int p4), .val (.int p5), .val (.int (v0_2 p0 p1 p2 p3 p4 p5)), .val (.ref b1), .val (.ref b51), .val (.ref xta5_0_275)] [(.int (3 : Int32)), (.ref xta5_0_275)])) _
                refine X275.iaload hx (j := (3 : Int32)) (v := (.int p3)) Ar286.1 (State.isArrayOf_alike hZ.alike Ar286.2.1) Ar286.2.2 hin295 (Has.at Ha286 hin295 rfl) (g := (mkF m 307 #[.val (.int p0), .val (.int p1), .val (.int p2), .val (.int p3), .val (.int p4), .val (.int p5), .val (.int (v0_2 p0 p1 p2 p3 p4 p5)), .val (.ref b1), .val (.ref b51), .val (.ref xta5_0_275)] [(.int (3 : Int32)), (.ref xta5_0_275)])) rfl rfl (hb hby at_307) _ ?_
                show Steps p.tables e below (T275.setTop (mkF m 308 #[.val (.int p0), .val (.int p1), .val (.int p2), .val (.int p3), .val (.int p4), .val (.int p5), .val (.int (v0_2 p0 p1 p2 p3 p4 p5)), .val (.ref b1), .val (.ref b51), .val (.ref xta5_0_275)] [(.int p3)])) _
                refine XS.aload X275.here hx rfl (hb hby at_308) rfl rfl ?_
                show Steps p.tables e below (T275.setTop (mkF m 310 #[.val (.int p0), .val (.int p1), .val (.int p2), .val (.int p3), .val (.int p4), .val (.int p5), .val (.int (v0_2 p0 p1 p2 p3 p4 p5)), .val (.ref b1), .val (.ref b51), .val (.ref xta5_0_275)] [(.ref b1), (.int p3)])) _
                refine XT.iconstV X275.here hx rfl (3 : Int32) (hb hby at_310) (by decide) ?_
                show Steps p.tables e below (T275.setTop (mkF m 311 #[.val (.int p0), .val (.int p1), .val (.int p2), .val (.int p3), .val (.int p4), .val (.int p5), .val (.int (v0_2 p0 p1 p2 p3 p4 p5)), .val (.ref b1), .val (.ref b51), .val (.ref xta5_0_275)] [(.int (3 : Int32)), (.ref b1), (.int p3)])) _
                refine X275.iaload hx (j := (3 : Int32)) (v := (.int p3)) Ar289.1 (State.isArrayOf_alike hZ.alike Ar289.2.1) Ar289.2.2 hin296 (Has.at Ha289 hin296 rfl) (g := (mkF m 311 #[.val (.int p0), .val (.int p1), .val (.int p2), .val (.int p3), .val (.int p4), .val (.int p5), .val (.int (v0_2 p0 p1 p2 p3 p4 p5)), .val (.ref b1), .val (.ref b51), .val (.ref xta5_0_275)] [(.int (3 : Int32)), (.ref b1), (.int p3)])) rfl rfl (hb hby at_311) _ ?_
                show Steps p.tables e below (T275.setTop (mkF m 312 #[.val (.int p0), .val (.int p1), .val (.int p2), .val (.int p3), .val (.int p4), .val (.int p5), .val (.int (v0_2 p0 p1 p2 p3 p4 p5)), .val (.ref b1), .val (.ref b51), .val (.ref xta5_0_275)] [(.int p3), (.int p3)])) _
                refine XS.icmpYes X275.here hx rfl (pc0 := 312) (pc' := 317) rfl (hb hby at_312) rfl (XT.ii_eq_t (rfl : p3 = p3)) (by decide) (by decide) ?_
                show Steps p.tables e below (T275.setTop (mkF m 317 #[.val (.int p0), .val (.int p1), .val (.int p2), .val (.int p3), .val (.int p4), .val (.int p5), .val (.int (v0_2 p0 p1 p2 p3 p4 p5)), .val (.ref b1), .val (.ref b51), .val (.ref xta5_0_275)] [])) _
                refine XS.iload X275.here hx rfl (hb hby at_317) rfl ?_
                show Steps p.tables e below (T275.setTop (mkF m 319 #[.val (.int p0), .val (.int p1), .val (.int p2), .val (.int p3), .val (.int p4), .val (.int p5), .val (.int (v0_2 p0 p1 p2 p3 p4 p5)), .val (.ref b1), .val (.ref b51), .val (.ref xta5_0_275)] [(.int (v0_2 p0 p1 p2 p3 p4 p5))])) _
                refine XT.iconstV X275.here hx rfl (4 : Int32) (hb hby at_319) (by decide) ?_
                show Steps p.tables e below (T275.setTop (mkF m 320 #[.val (.int p0), .val (.int p1), .val (.int p2), .val (.int p3), .val (.int p4), .val (.int p5), .val (.int (v0_2 p0 p1 p2 p3 p4 p5)), .val (.ref b1), .val (.ref b51), .val (.ref xta5_0_275)] [(.int (4 : Int32)), (.int (v0_2 p0 p1 p2 p3 p4 p5))])) _
                refine XS.icmpNo X275.here hx rfl (hb hby at_320) rfl (XT.ii_le_f c99) ?_
                show Steps p.tables e below (T275.setTop (mkF m 323 #[.val (.int p0), .val (.int p1), .val (.int p2), .val (.int p3), .val (.int p4), .val (.int p5), .val (.int (v0_2 p0 p1 p2 p3 p4 p5)), .val (.ref b1), .val (.ref b51), .val (.ref xta5_0_275)] [])) _
                refine XS.aload X275.here hx rfl (hb hby at_323) rfl rfl ?_
                show Steps p.tables e below (T275.setTop (mkF m 325 #[.val (.int p0), .val (.int p1), .val (.int p2), .val (.int p3), .val (.int p4), .val (.int p5), .val (.int (v0_2 p0 p1 p2 p3 p4 p5)), .val (.ref b1), .val (.ref b51), .val (.ref xta5_0_275)] [(.ref xta5_0_275)])) _
                refine XT.iconstV X275.here hx rfl (4 : Int32) (hb hby at_325) (by decide) ?_
                show Steps p.tables e below (T275.setTop (mkF m 326 #[.val (.int p0), .val (.int p1), .val (.int p2), .val (.int p3), .val (.int p4), .val (.int p5), .val (.int (v0_2 p0 p1 p2 p3 p4 p5)), .val (.ref b1), .val (.ref b51), .val (.ref xta5_0_275)] [(.int (4 : Int32)), (.ref xta5_0_275)])) _
                refine X275.iaload hx (j := (4 : Int32)) (v := (.int p4)) Ar286.1 (State.isArrayOf_alike hZ.alike Ar286.2.1) Ar286.2.2 hin297 (Has.at Ha286 hin297 rfl) (g := (mkF m 326 #[.val (.int p0), .val (.int p1), .val (.int p2), .val (.int p3), .val (.int p4), .val (.int p5), .val (.int (v0_2 p0 p1 p2 p3 p4 p5)), .val (.ref b1), .val (.ref b51), .val (.ref xta5_0_275)] [(.int (4 : Int32)), (.ref xta5_0_275)])) rfl rfl (hb hby at_326) _ ?_
                show Steps p.tables e below (T275.setTop (mkF m 327 #[.val (.int p0), .val (.int p1), .val (.int p2), .val (.int p3), .val (.int p4), .val (.int p5), .val (.int (v0_2 p0 p1 p2 p3 p4 p5)), .val (.ref b1), .val (.ref b51), .val (.ref xta5_0_275)] [(.int p4)])) _
                refine XS.aload X275.here hx rfl (hb hby at_327) rfl rfl ?_
                show Steps p.tables e below (T275.setTop (mkF m 329 #[.val (.int p0), .val (.int p1), .val (.int p2), .val (.int p3), .val (.int p4), .val (.int p5), .val (.int (v0_2 p0 p1 p2 p3 p4 p5)), .val (.ref b1), .val (.ref b51), .val (.ref xta5_0_275)] [(.ref b1), (.int p4)])) _
                refine XT.iconstV X275.here hx rfl (4 : Int32) (hb hby at_329) (by decide) ?_
                show Steps p.tables e below (T275.setTop (mkF m 330 #[.val (.int p0), .val (.int p1), .val (.int p2), .val (.int p3), .val (.int p4), .val (.int p5), .val (.int (v0_2 p0 p1 p2 p3 p4 p5)), .val (.ref b1), .val (.ref b51), .val (.ref xta5_0_275)] [(.int (4 : Int32)), (.ref b1), (.int p4)])) _
                refine X275.iaload hx (j := (4 : Int32)) (v := (.int p4)) Ar289.1 (State.isArrayOf_alike hZ.alike Ar289.2.1) Ar289.2.2 hin298 (Has.at Ha289 hin298 rfl) (g := (mkF m 330 #[.val (.int p0), .val (.int p1), .val (.int p2), .val (.int p3), .val (.int p4), .val (.int p5), .val (.int (v0_2 p0 p1 p2 p3 p4 p5)), .val (.ref b1), .val (.ref b51), .val (.ref xta5_0_275)] [(.int (4 : Int32)), (.ref b1), (.int p4)])) rfl rfl (hb hby at_330) _ ?_
                show Steps p.tables e below (T275.setTop (mkF m 331 #[.val (.int p0), .val (.int p1), .val (.int p2), .val (.int p3), .val (.int p4), .val (.int p5), .val (.int (v0_2 p0 p1 p2 p3 p4 p5)), .val (.ref b1), .val (.ref b51), .val (.ref xta5_0_275)] [(.int p4), (.int p4)])) _
                refine XS.icmpYes X275.here hx rfl (pc0 := 331) (pc' := 336) rfl (hb hby at_331) rfl (XT.ii_eq_t (rfl : p4 = p4)) (by decide) (by decide) ?_
                show Steps p.tables e below (T275.setTop (mkF m 336 #[.val (.int p0), .val (.int p1), .val (.int p2), .val (.int p3), .val (.int p4), .val (.int p5), .val (.int (v0_2 p0 p1 p2 p3 p4 p5)), .val (.ref b1), .val (.ref b51), .val (.ref xta5_0_275)] [])) _
                refine XS.iload X275.here hx rfl (hb hby at_336) rfl ?_
                show Steps p.tables e below (T275.setTop (mkF m 338 #[.val (.int p0), .val (.int p1), .val (.int p2), .val (.int p3), .val (.int p4), .val (.int p5), .val (.int (v0_2 p0 p1 p2 p3 p4 p5)), .val (.ref b1), .val (.ref b51), .val (.ref xta5_0_275)] [(.int (v0_2 p0 p1 p2 p3 p4 p5))])) _
                refine XT.iconstV X275.here hx rfl (5 : Int32) (hb hby at_338) (by decide) ?_
                show Steps p.tables e below (T275.setTop (mkF m 339 #[.val (.int p0), .val (.int p1), .val (.int p2), .val (.int p3), .val (.int p4), .val (.int p5), .val (.int (v0_2 p0 p1 p2 p3 p4 p5)), .val (.ref b1), .val (.ref b51), .val (.ref xta5_0_275)] [(.int (5 : Int32)), (.int (v0_2 p0 p1 p2 p3 p4 p5))])) _
                refine XS.icmpYes X275.here hx rfl (pc0 := 339) (pc' := 355) rfl (hb hby at_339) rfl (XT.ii_le_t c113) (by decide) (by decide) ?_
                show Steps p.tables e below (T275.setTop (mkF m 355 #[.val (.int p0), .val (.int p1), .val (.int p2), .val (.int p3), .val (.int p4), .val (.int p5), .val (.int (v0_2 p0 p1 p2 p3 p4 p5)), .val (.ref b1), .val (.ref b51), .val (.ref xta5_0_275)] [])) _
                refine XS.iload X275.here hx rfl (hb hby at_355) rfl ?_
                show Steps p.tables e below (T275.setTop (mkF m 357 #[.val (.int p0), .val (.int p1), .val (.int p2), .val (.int p3), .val (.int p4), .val (.int p5), .val (.int (v0_2 p0 p1 p2 p3 p4 p5)), .val (.ref b1), .val (.ref b51), .val (.ref xta5_0_275)] [(.int (v0_2 p0 p1 p2 p3 p4 p5))])) _
                refine XT.bipushV X275.here hx rfl (6 : Int32) (hb hby at_357) (by decide) ?_
                show Steps p.tables e below (T275.setTop (mkF m 359 #[.val (.int p0), .val (.int p1), .val (.int p2), .val (.int p3), .val (.int p4), .val (.int p5), .val (.int (v0_2 p0 p1 p2 p3 p4 p5)), .val (.ref b1), .val (.ref b51), .val (.ref xta5_0_275)] [(.int (6 : Int32)), (.int (v0_2 p0 p1 p2 p3 p4 p5))])) _
                refine XS.icmpYes X275.here hx rfl (pc0 := 359) (pc' := 377) rfl (hb hby at_359) rfl (XT.ii_le_t (own_mono c113 (by decide))) (by decide) (by decide) ?_
                show Steps p.tables e below (T275.setTop (mkF m 377 #[.val (.int p0), .val (.int p1), .val (.int p2), .val (.int p3), .val (.int p4), .val (.int p5), .val (.int (v0_2 p0 p1 p2 p3 p4 p5)), .val (.ref b1), .val (.ref b51), .val (.ref xta5_0_275)] [])) _
                refine XS.iload X275.here hx rfl (hb hby at_377) rfl ?_
                show Steps p.tables e below (T275.setTop (mkF m 379 #[.val (.int p0), .val (.int p1), .val (.int p2), .val (.int p3), .val (.int p4), .val (.int p5), .val (.int (v0_2 p0 p1 p2 p3 p4 p5)), .val (.ref b1), .val (.ref b51), .val (.ref xta5_0_275)] [(.int (v0_2 p0 p1 p2 p3 p4 p5))])) _
                refine XT.bipushV X275.here hx rfl (7 : Int32) (hb hby at_379) (by decide) ?_
                show Steps p.tables e below (T275.setTop (mkF m 381 #[.val (.int p0), .val (.int p1), .val (.int p2), .val (.int p3), .val (.int p4), .val (.int p5), .val (.int (v0_2 p0 p1 p2 p3 p4 p5)), .val (.ref b1), .val (.ref b51), .val (.ref xta5_0_275)] [(.int (7 : Int32)), (.int (v0_2 p0 p1 p2 p3 p4 p5))])) _
                refine XS.icmpYes X275.here hx rfl (pc0 := 381) (pc' := 399) rfl (hb hby at_381) rfl (XT.ii_le_t (own_mono c113 (by decide))) (by decide) (by decide) ?_
                show Steps p.tables e below (T275.setTop (mkF m 399 #[.val (.int p0), .val (.int p1), .val (.int p2), .val (.int p3), .val (.int p4), .val (.int p5), .val (.int (v0_2 p0 p1 p2 p3 p4 p5)), .val (.ref b1), .val (.ref b51), .val (.ref xta5_0_275)] [])) _
                refine XS.iload X275.here hx rfl (hb hby at_399) rfl ?_
                show Steps p.tables e below (T275.setTop (mkF m 401 #[.val (.int p0), .val (.int p1), .val (.int p2), .val (.int p3), .val (.int p4), .val (.int p5), .val (.int (v0_2 p0 p1 p2 p3 p4 p5)), .val (.ref b1), .val (.ref b51), .val (.ref xta5_0_275)] [(.int (v0_2 p0 p1 p2 p3 p4 p5))])) _
                refine XT.bipushV X275.here hx rfl (8 : Int32) (hb hby at_401) (by decide) ?_
                show Steps p.tables e below (T275.setTop (mkF m 403 #[.val (.int p0), .val (.int p1), .val (.int p2), .val (.int p3), .val (.int p4), .val (.int p5), .val (.int (v0_2 p0 p1 p2 p3 p4 p5)), .val (.ref b1), .val (.ref b51), .val (.ref xta5_0_275)] [(.int (8 : Int32)), (.int (v0_2 p0 p1 p2 p3 p4 p5))])) _
                refine XS.icmpYes X275.here hx rfl (pc0 := 403) (pc' := 421) rfl (hb hby at_403) rfl (XT.ii_le_t (own_mono c113 (by decide))) (by decide) (by decide) ?_
                show Steps p.tables e below (T275.setTop (mkF m 421 #[.val (.int p0), .val (.int p1), .val (.int p2), .val (.int p3), .val (.int p4), .val (.int p5), .val (.int (v0_2 p0 p1 p2 p3 p4 p5)), .val (.ref b1), .val (.ref b51), .val (.ref xta5_0_275)] [])) _
                refine XT.iconstV X275.here hx rfl (1 : Int32) (hb hby at_421) (by decide) ?_
                show Steps p.tables e below (T275.setTop (mkF m 422 #[.val (.int p0), .val (.int p1), .val (.int p2), .val (.int p3), .val (.int p4), .val (.int p5), .val (.int (v0_2 p0 p1 p2 p3 p4 p5)), .val (.ref b1), .val (.ref b51), .val (.ref xta5_0_275)] [(.int (1 : Int32))])) _
                exact retN X275 hx (t := .boolean) Bd.returns (by simp) (hb hby at_422) hr
              · skip
                show Q0 Z p0 p1 p2 p3 p4 p5 h0 n0 _ T275.heap _
                exact ⟨rfl, N275⟩
          · skip
            obtain ⟨cq299, kq299, q299a, q299b, q299c⟩ := isOf hZ rfl po95_0
            obtain ⟨vr299, _, ⟨T299, L299, k299, n299⟩, -, X299, ⟨Lc299, hQ299, l299, y299, z299⟩, st299⟩ := X95.virtualBack hx (y := (⟨"com/example/vellum_index/vellumindex/IntList", "size", "()I"⟩ : MethodName)) (z := (⟨"com/example/vellum_index/vellumindex/IntList", "size", "()I"⟩ : MethodName)) hown (mvT hZ (hw _ (List.mem_of_getElem? (i := 20) rfl))) (mvT hZ (hw _ (List.mem_of_getElem? (i := 21) rfl))) (notFace_of_selects (args := #[]) (mvT hZ (hw _ (List.mem_of_getElem? (i := 23) rfl)))) (mvT hZ (hw _ (List.mem_of_getElem? (i := 23) rfl))) (mvT hZ (hw _ (List.mem_of_getElem? (i := 22) rfl))) (by decide) (backOf (W := 0) (rm4 l Z a0 hw [] b51 (4 : Int32) T95.heap n0 z96 po95_1) hZ (hw _ (List.mem_of_getElem? (i := 24) rfl)) (hw _ (List.mem_of_getElem? (i := 4) rfl)) (by decide) (by decide)) q299a q299c (g := (mkF m 215 #[.val (.int p0), .val (.int p1), .val (.int p2), .val (.int p3), .val (.int p4), .val (.int p5), .val (.int (v0_2 p0 p1 p2 p3 p4 p5)), .val (.ref b1), .val (.ref b51), .unset] [(.ref b51)])) rfl (by rw [hml]; rfl) (Steps.refl _) (argsL := []) (rest := []) (lenOf pd___I rfl) rfl (by show 2 * 0 + _ ≤ _; exact Nat.le_of_eq rfl) (hb hby at_215) (fun _ _ => ⟨rfl, rfl, (by decide : 3 + 0 ≤ _), (by decide : 15 + 0 ≤ _)⟩)
            dsimp only [Pt.U, Pt.locs, Pt.cells, Pt.slots] at X299 l299 y299 z299 st299 hQ299
            subst l299 y299 z299
            have N299q := (show _ ∧ _ ∧ _ from hQ299).1
            have hv299 := (show _ ∧ _ ∧ _ from hQ299).2.1
            have e299 := (show _ ∧ _ ∧ _ from hQ299).2.2
            clear hQ299
            subst hv299
            have N299 := Fr.app N95 N299q
            obtain ⟨cq300, kq300, q300a, q300b, q300c⟩ := isOf hZ e299 po95_0
            obtain ⟨vr300, _, ⟨T300, L300, k300, n300⟩, -, X300, ⟨Lc300, hQ300, l300, y300, z300⟩, st300⟩ := X299.virtualBack hx (y := (⟨"com/example/vellum_index/vellumindex/IntList", "toArray", "()[I"⟩ : MethodName)) (z := (⟨"com/example/vellum_index/vellumindex/IntList", "toArray", "()[I"⟩ : MethodName)) hown (mvT hZ (hw _ (List.mem_of_getElem? (i := 25) rfl))) (mvT hZ (hw _ (List.mem_of_getElem? (i := 26) rfl))) (notFace_of_selects (args := #[]) (mvT hZ (hw _ (List.mem_of_getElem? (i := 28) rfl)))) (mvT hZ (hw _ (List.mem_of_getElem? (i := 28) rfl))) (mvT hZ (hw _ (List.mem_of_getElem? (i := 27) rfl))) (by decide) (backOf (W := 0) (rmta4 l Z a0 hw [] b51 x1_0_58 p0 p1 p2 p3 k1_1_58 T95.heap n0 z96 po95_0 po95_1 po95_2 po95_3 po95_4) hZ (hw _ (List.mem_of_getElem? (i := 29) rfl)) (hw _ (List.mem_of_getElem? (i := 4) rfl)) (by decide) (by decide)) q300a q300c (g := (mkF m 227 #[.val (.int p0), .val (.int p1), .val (.int p2), .val (.int p3), .val (.int p4), .val (.int p5), .val (.int (v0_2 p0 p1 p2 p3 p4 p5)), .val (.ref b1), .val (.ref b51), .unset] [(.ref b51)])) rfl (by rw [hml]; rfl) (Steps.refl _) (argsL := []) (rest := []) (lenOf pd____I rfl) rfl (by show 2 * 0 + _ ≤ _; exact Nat.le_of_eq rfl) (hb hby at_227) (fun _ _ => ⟨rfl, e299, (by decide : 3 + 1 ≤ _), (by decide : 15 + 4 ≤ _)⟩)
            dsimp only [Pt.U, Pt.locs, Pt.cells, Pt.slots] at X300 l300 y300 z300 st300 hQ300
            subst l300 y300 z300
            have N300q := (show _ ∧ _ from hQ300).1
            have hq300 := (show _ ∧ _ from hQ300).2
            clear hQ300
            obtain ⟨xta4_0_300, hq300x⟩ := hq300
            have hv300 := hq300x.1
            have szxta4_0_300 := hq300x.2.1
            have K300 := hq300x.2.2.1
            have po300_0 := hq300x.2.2.2.1
            have po300_1 := hq300x.2.2.2.2
            clear hq300x
            subst hv300
            have k301 := (((((k59.keep K58).keep K71).keep K79).keep K87).keep K95)
            have ne302 : b1 ≠ xta4_0_300 := Nat.ne_of_lt (Nat.lt_of_lt_of_le k301.lt szxta4_0_300)
            have ne303 : b51 ≠ xta4_0_300 := Nat.ne_of_lt (Nat.lt_of_lt_of_le po95_0.lt szxta4_0_300)
            have ne304 : x1_0_58 ≠ xta4_0_300 := Nat.ne_of_lt (Nat.lt_of_lt_of_le po95_3.lt szxta4_0_300)
            have g305 : n0 ≤ xta4_0_300 := Nat.le_trans z96 szxta4_0_300
            have sz306 : h0.size ≤ xta4_0_300 := Nat.le_trans hs97 szxta4_0_300
            have z307 : n0 ≤ T300.heap.size := Nat.le_trans z96 K300.1
            have hs308 : h0.size ≤ T300.heap.size := Nat.le_trans hs97 K300.1
            have N300 := Fr.app N299 N300q
            obtain ⟨cl309, Ar309, qc309, S309, M309, Ha309, G309⟩ := id po300_1
            have hin310 : ¬ ((0 : Int32) < 0 ∨ cl309.slots.size ≤ ((0 : Int32)).toNatClampNeg) := inb_of S309 ⟨by decide, by decide⟩
            have k311 := ((k92.keep K95 (ninS ne53 (ninS ne60 nin0))).keep K300 nin0)
            obtain ⟨cl312, Ar312, qc312, S312, M312, Ha312, G312⟩ := id k311
            have hin313 : ¬ ((0 : Int32) < 0 ∨ cl312.slots.size ≤ ((0 : Int32)).toNatClampNeg) := inb_of S312 ⟨by decide, by decide⟩
            have hin314 : ¬ ((1 : Int32) < 0 ∨ cl309.slots.size ≤ ((1 : Int32)).toNatClampNeg) := inb_of S309 ⟨by decide, by decide⟩
            have hin315 : ¬ ((1 : Int32) < 0 ∨ cl312.slots.size ≤ ((1 : Int32)).toNatClampNeg) := inb_of S312 ⟨by decide, by decide⟩
            have hin316 : ¬ ((2 : Int32) < 0 ∨ cl309.slots.size ≤ ((2 : Int32)).toNatClampNeg) := inb_of S309 ⟨by decide, by decide⟩
            have hin317 : ¬ ((2 : Int32) < 0 ∨ cl312.slots.size ≤ ((2 : Int32)).toNatClampNeg) := inb_of S312 ⟨by decide, by decide⟩
            have hin318 : ¬ ((3 : Int32) < 0 ∨ cl309.slots.size ≤ ((3 : Int32)).toNatClampNeg) := inb_of S309 ⟨by decide, by decide⟩
            have hin319 : ¬ ((3 : Int32) < 0 ∨ cl312.slots.size ≤ ((3 : Int32)).toNatClampNeg) := inb_of S312 ⟨by decide, by decide⟩
            obtain ⟨fs, hr, hrun, hended, hW, hsame⟩ := X300.leave (v := some (.int (1 : Int32))) (fun h => by rw [Bd.returns] at h; cases h) hlk
            refine ⟨_, _, pre98 _ ?_, hrun, hended, _, _, rfl, ?_, ⟨_, rfl⟩, hW, hsame.mono (by decide) (by decide)⟩
            · skip
              show Steps p.tables e below (T95.setTop (mkF m 135 #[.val (.int p0), .val (.int p1), .val (.int p2), .val (.int p3), .val (.int p4), .val (.int p5), .val (.int (v0_2 p0 p1 p2 p3 p4 p5)), .val (.ref b1), .val (.ref b51), .unset] [(.int (4 : Int32)), (.int (v0_2 p0 p1 p2 p3 p4 p5))])) _
              refine XS.icmpYes X95.here hx rfl (pc0 := 135) (pc' := 147) rfl (hb hby at_135) rfl (XT.ii_le_t c99) (by decide) (by decide) ?_
              show Steps p.tables e below (T95.setTop (mkF m 147 #[.val (.int p0), .val (.int p1), .val (.int p2), .val (.int p3), .val (.int p4), .val (.int p5), .val (.int (v0_2 p0 p1 p2 p3 p4 p5)), .val (.ref b1), .val (.ref b51), .unset] [])) _
              refine XS.iload X95.here hx rfl (hb hby at_147) rfl ?_
              show Steps p.tables e below (T95.setTop (mkF m 149 #[.val (.int p0), .val (.int p1), .val (.int p2), .val (.int p3), .val (.int p4), .val (.int p5), .val (.int (v0_2 p0 p1 p2 p3 p4 p5)), .val (.ref b1), .val (.ref b51), .unset] [(.int (v0_2 p0 p1 p2 p3 p4 p5))])) _
              refine XT.iconstV X95.here hx rfl (5 : Int32) (hb hby at_149) (by decide) ?_
              show Steps p.tables e below (T95.setTop (mkF m 150 #[.val (.int p0), .val (.int p1), .val (.int p2), .val (.int p3), .val (.int p4), .val (.int p5), .val (.int (v0_2 p0 p1 p2 p3 p4 p5)), .val (.ref b1), .val (.ref b51), .unset] [(.int (5 : Int32)), (.int (v0_2 p0 p1 p2 p3 p4 p5))])) _
              refine XS.icmpYes X95.here hx rfl (pc0 := 150) (pc' := 162) rfl (hb hby at_150) rfl (XT.ii_le_t (own_mono c99 (by decide))) (by decide) (by decide) ?_
              show Steps p.tables e below (T95.setTop (mkF m 162 #[.val (.int p0), .val (.int p1), .val (.int p2), .val (.int p3), .val (.int p4), .val (.int p5), .val (.int (v0_2 p0 p1 p2 p3 p4 p5)), .val (.ref b1), .val (.ref b51), .unset] [])) _
              refine XS.iload X95.here hx rfl (hb hby at_162) rfl ?_
              show Steps p.tables e below (T95.setTop (mkF m 164 #[.val (.int p0), .val (.int p1), .val (.int p2), .val (.int p3), .val (.int p4), .val (.int p5), .val (.int (v0_2 p0 p1 p2 p3 p4 p5)), .val (.ref b1), .val (.ref b51), .unset] [(.int (v0_2 p0 p1 p2 p3 p4 p5))])) _
              refine XT.bipushV X95.here hx rfl (6 : Int32) (hb hby at_164) (by decide) ?_
              show Steps p.tables e below (T95.setTop (mkF m 166 #[.val (.int p0), .val (.int p1), .val (.int p2), .val (.int p3), .val (.int p4), .val (.int p5), .val (.int (v0_2 p0 p1 p2 p3 p4 p5)), .val (.ref b1), .val (.ref b51), .unset] [(.int (6 : Int32)), (.int (v0_2 p0 p1 p2 p3 p4 p5))])) _
              refine XS.icmpYes X95.here hx rfl (pc0 := 166) (pc' := 179) rfl (hb hby at_166) rfl (XT.ii_le_t (own_mono c99 (by decide))) (by decide) (by decide) ?_
              show Steps p.tables e below (T95.setTop (mkF m 179 #[.val (.int p0), .val (.int p1), .val (.int p2), .val (.int p3), .val (.int p4), .val (.int p5), .val (.int (v0_2 p0 p1 p2 p3 p4 p5)), .val (.ref b1), .val (.ref b51), .unset] [])) _
              refine XS.iload X95.here hx rfl (hb hby at_179) rfl ?_
              show Steps p.tables e below (T95.setTop (mkF m 181 #[.val (.int p0), .val (.int p1), .val (.int p2), .val (.int p3), .val (.int p4), .val (.int p5), .val (.int (v0_2 p0 p1 p2 p3 p4 p5)), .val (.ref b1), .val (.ref b51), .unset] [(.int (v0_2 p0 p1 p2 p3 p4 p5))])) _
              refine XT.bipushV X95.here hx rfl (7 : Int32) (hb hby at_181) (by decide) ?_
              show Steps p.tables e below (T95.setTop (mkF m 183 #[.val (.int p0), .val (.int p1), .val (.int p2), .val (.int p3), .val (.int p4), .val (.int p5), .val (.int (v0_2 p0 p1 p2 p3 p4 p5)), .val (.ref b1), .val (.ref b51), .unset] [(.int (7 : Int32)), (.int (v0_2 p0 p1 p2 p3 p4 p5))])) _
              refine XS.icmpYes X95.here hx rfl (pc0 := 183) (pc' := 196) rfl (hb hby at_183) rfl (XT.ii_le_t (own_mono c99 (by decide))) (by decide) (by decide) ?_
              show Steps p.tables e below (T95.setTop (mkF m 196 #[.val (.int p0), .val (.int p1), .val (.int p2), .val (.int p3), .val (.int p4), .val (.int p5), .val (.int (v0_2 p0 p1 p2 p3 p4 p5)), .val (.ref b1), .val (.ref b51), .unset] [])) _
              refine XS.iload X95.here hx rfl (hb hby at_196) rfl ?_
              show Steps p.tables e below (T95.setTop (mkF m 198 #[.val (.int p0), .val (.int p1), .val (.int p2), .val (.int p3), .val (.int p4), .val (.int p5), .val (.int (v0_2 p0 p1 p2 p3 p4 p5)), .val (.ref b1), .val (.ref b51), .unset] [(.int (v0_2 p0 p1 p2 p3 p4 p5))])) _
              refine XT.bipushV X95.here hx rfl (8 : Int32) (hb hby at_198) (by decide) ?_
              show Steps p.tables e below (T95.setTop (mkF m 200 #[.val (.int p0), .val (.int p1), .val (.int p2), .val (.int p3), .val (.int p4), .val (.int p5), .val (.int (v0_2 p0 p1 p2 p3 p4 p5)), .val (.ref b1), .val (.ref b51), .unset] [(.int (8 : Int32)), (.int (v0_2 p0 p1 p2 p3 p4 p5))])) _
              refine XS.icmpYes X95.here hx rfl (pc0 := 200) (pc' := 213) rfl (hb hby at_200) rfl (XT.ii_le_t (own_mono c99 (by decide))) (by decide) (by decide) ?_
              show Steps p.tables e below (T95.setTop (mkF m 213 #[.val (.int p0), .val (.int p1), .val (.int p2), .val (.int p3), .val (.int p4), .val (.int p5), .val (.int (v0_2 p0 p1 p2 p3 p4 p5)), .val (.ref b1), .val (.ref b51), .unset] [])) _
              refine XS.aload X95.here hx rfl (hb hby at_213) rfl rfl ?_
              show Steps p.tables e below (T95.setTop (mkF m 215 #[.val (.int p0), .val (.int p1), .val (.int p2), .val (.int p3), .val (.int p4), .val (.int p5), .val (.int (v0_2 p0 p1 p2 p3 p4 p5)), .val (.ref b1), .val (.ref b51), .unset] [(.ref b51)])) _
              refine st299.trans ?_
              show Steps p.tables e below (T299.setTop (mkF m 218 #[.val (.int p0), .val (.int p1), .val (.int p2), .val (.int p3), .val (.int p4), .val (.int p5), .val (.int (v0_2 p0 p1 p2 p3 p4 p5)), .val (.ref b1), .val (.ref b51), .unset] [(.int (f4 (4 : Int32)))])) _
              refine XS.iload X299.here hx rfl (hb hby at_218) rfl ?_
              show Steps p.tables e below (T299.setTop (mkF m 220 #[.val (.int p0), .val (.int p1), .val (.int p2), .val (.int p3), .val (.int p4), .val (.int p5), .val (.int (v0_2 p0 p1 p2 p3 p4 p5)), .val (.ref b1), .val (.ref b51), .unset] [(.int (v0_2 p0 p1 p2 p3 p4 p5)), (.int (f4 (4 : Int32)))])) _
              refine XS.icmpYes X299.here hx rfl (pc0 := 220) (pc' := 225) rfl (hb hby at_220) rfl (XT.ii_eq_t ((own_eqn c91 c99 (by decide))).symm) (by decide) (by decide) ?_
              show Steps p.tables e below (T299.setTop (mkF m 225 #[.val (.int p0), .val (.int p1), .val (.int p2), .val (.int p3), .val (.int p4), .val (.int p5), .val (.int (v0_2 p0 p1 p2 p3 p4 p5)), .val (.ref b1), .val (.ref b51), .unset] [])) _
              refine XS.aload X299.here hx rfl (hb hby at_225) rfl rfl ?_
              show Steps p.tables e below (T299.setTop (mkF m 227 #[.val (.int p0), .val (.int p1), .val (.int p2), .val (.int p3), .val (.int p4), .val (.int p5), .val (.int (v0_2 p0 p1 p2 p3 p4 p5)), .val (.ref b1), .val (.ref b51), .unset] [(.ref b51)])) _
              refine st300.trans ?_
              show Steps p.tables e below (T300.setTop (mkF m 230 #[.val (.int p0), .val (.int p1), .val (.int p2), .val (.int p3), .val (.int p4), .val (.int p5), .val (.int (v0_2 p0 p1 p2 p3 p4 p5)), .val (.ref b1), .val (.ref b51), .unset] [(.ref xta4_0_300)])) _
              refine XS.astore X300.here hx rfl (hb hby at_230) rfl rfl (l' := #[.val (.int p0), .val (.int p1), .val (.int p2), .val (.int p3), .val (.int p4), .val (.int p5), .val (.int (v0_2 p0 p1 p2 p3 p4 p5)), .val (.ref b1), .val (.ref b51), .val (.ref xta4_0_300)]) rfl ?_
              show Steps p.tables e below (T300.setTop (mkF m 232 #[.val (.int p0), .val (.int p1), .val (.int p2), .val (.int p3), .val (.int p4), .val (.int p5), .val (.int (v0_2 p0 p1 p2 p3 p4 p5)), .val (.ref b1), .val (.ref b51), .val (.ref xta4_0_300)] [])) _
              refine XS.aload X300.here hx rfl (hb hby at_232) rfl rfl ?_
              show Steps p.tables e below (T300.setTop (mkF m 234 #[.val (.int p0), .val (.int p1), .val (.int p2), .val (.int p3), .val (.int p4), .val (.int p5), .val (.int (v0_2 p0 p1 p2 p3 p4 p5)), .val (.ref b1), .val (.ref b51), .val (.ref xta4_0_300)] [(.ref xta4_0_300)])) _
              refine X300.arraylength hx Ar309.1 (State.isArrayOf_alike hZ.alike Ar309.2.1) (g := (mkF m 234 #[.val (.int p0), .val (.int p1), .val (.int p2), .val (.int p3), .val (.int p4), .val (.int p5), .val (.int (v0_2 p0 p1 p2 p3 p4 p5)), .val (.ref b1), .val (.ref b51), .val (.ref xta4_0_300)] [(.ref xta4_0_300)])) rfl rfl (hb hby at_234) _ ?_
              rw [len_of S309 M309]
              show Steps p.tables e below (T300.setTop (mkF m 235 #[.val (.int p0), .val (.int p1), .val (.int p2), .val (.int p3), .val (.int p4), .val (.int p5), .val (.int (v0_2 p0 p1 p2 p3 p4 p5)), .val (.ref b1), .val (.ref b51), .val (.ref xta4_0_300)] [(.int (4 : Int32))])) _
              refine XS.iload X300.here hx rfl (hb hby at_235) rfl ?_
              show Steps p.tables e below (T300.setTop (mkF m 237 #[.val (.int p0), .val (.int p1), .val (.int p2), .val (.int p3), .val (.int p4), .val (.int p5), .val (.int (v0_2 p0 p1 p2 p3 p4 p5)), .val (.ref b1), .val (.ref b51), .val (.ref xta4_0_300)] [(.int (v0_2 p0 p1 p2 p3 p4 p5)), (.int (4 : Int32))])) _
              refine XS.icmpYes X300.here hx rfl (pc0 := 237) (pc' := 242) rfl (hb hby at_237) rfl (XT.ii_eq_t ((own_eqn c91 c99 (by decide))).symm) (by decide) (by decide) ?_
              show Steps p.tables e below (T300.setTop (mkF m 242 #[.val (.int p0), .val (.int p1), .val (.int p2), .val (.int p3), .val (.int p4), .val (.int p5), .val (.int (v0_2 p0 p1 p2 p3 p4 p5)), .val (.ref b1), .val (.ref b51), .val (.ref xta4_0_300)] [])) _
              refine XS.iload X300.here hx rfl (hb hby at_242) rfl ?_
              show Steps p.tables e below (T300.setTop (mkF m 244 #[.val (.int p0), .val (.int p1), .val (.int p2), .val (.int p3), .val (.int p4), .val (.int p5), .val (.int (v0_2 p0 p1 p2 p3 p4 p5)), .val (.ref b1), .val (.ref b51), .val (.ref xta4_0_300)] [(.int (v0_2 p0 p1 p2 p3 p4 p5))])) _
              refine XS.ifNo X300.here hx rfl (hb hby at_244) rfl (XT.i0_le_f c67) ?_
              show Steps p.tables e below (T300.setTop (mkF m 247 #[.val (.int p0), .val (.int p1), .val (.int p2), .val (.int p3), .val (.int p4), .val (.int p5), .val (.int (v0_2 p0 p1 p2 p3 p4 p5)), .val (.ref b1), .val (.ref b51), .val (.ref xta4_0_300)] [])) _
              refine XS.aload X300.here hx rfl (hb hby at_247) rfl rfl ?_
              show Steps p.tables e below (T300.setTop (mkF m 249 #[.val (.int p0), .val (.int p1), .val (.int p2), .val (.int p3), .val (.int p4), .val (.int p5), .val (.int (v0_2 p0 p1 p2 p3 p4 p5)), .val (.ref b1), .val (.ref b51), .val (.ref xta4_0_300)] [(.ref xta4_0_300)])) _
              refine XT.iconstV X300.here hx rfl (0 : Int32) (hb hby at_249) (by decide) ?_
              show Steps p.tables e below (T300.setTop (mkF m 250 #[.val (.int p0), .val (.int p1), .val (.int p2), .val (.int p3), .val (.int p4), .val (.int p5), .val (.int (v0_2 p0 p1 p2 p3 p4 p5)), .val (.ref b1), .val (.ref b51), .val (.ref xta4_0_300)] [(.int (0 : Int32)), (.ref xta4_0_300)])) _
              refine X300.iaload hx (j := (0 : Int32)) (v := (.int p0)) Ar309.1 (State.isArrayOf_alike hZ.alike Ar309.2.1) Ar309.2.2 hin310 (Has.at Ha309 hin310 rfl) (g := (mkF m 250 #[.val (.int p0), .val (.int p1), .val (.int p2), .val (.int p3), .val (.int p4), .val (.int p5), .val (.int (v0_2 p0 p1 p2 p3 p4 p5)), .val (.ref b1), .val (.ref b51), .val (.ref xta4_0_300)] [(.int (0 : Int32)), (.ref xta4_0_300)])) rfl rfl (hb hby at_250) _ ?_
              show Steps p.tables e below (T300.setTop (mkF m 251 #[.val (.int p0), .val (.int p1), .val (.int p2), .val (.int p3), .val (.int p4), .val (.int p5), .val (.int (v0_2 p0 p1 p2 p3 p4 p5)), .val (.ref b1), .val (.ref b51), .val (.ref xta4_0_300)] [(.int p0)])) _
              refine XS.aload X300.here hx rfl (hb hby at_251) rfl rfl ?_
              show Steps p.tables e below (T300.setTop (mkF m 253 #[.val (.int p0), .val (.int p1), .val (.int p2), .val (.int p3), .val (.int p4), .val (.int p5), .val (.int (v0_2 p0 p1 p2 p3 p4 p5)), .val (.ref b1), .val (.ref b51), .val (.ref xta4_0_300)] [(.ref b1), (.int p0)])) _
              refine XT.iconstV X300.here hx rfl (0 : Int32) (hb hby at_253) (by decide) ?_
              show Steps p.tables e below (T300.setTop (mkF m 254 #[.val (.int p0), .val (.int p1), .val (.int p2), .val (.int p3), .val (.int p4), .val (.int p5), .val (.int (v0_2 p0 p1 p2 p3 p4 p5)), .val (.ref b1), .val (.ref b51), .val (.ref xta4_0_300)] [(.int (0 : Int32)), (.ref b1), (.int p0)])) _
              refine X300.iaload hx (j := (0 : Int32)) (v := (.int p0)) Ar312.1 (State.isArrayOf_alike hZ.alike Ar312.2.1) Ar312.2.2 hin313 (Has.at Ha312 hin313 rfl) (g := (mkF m 254 #[.val (.int p0), .val (.int p1), .val (.int p2), .val (.int p3), .val (.int p4), .val (.int p5), .val (.int (v0_2 p0 p1 p2 p3 p4 p5)), .val (.ref b1), .val (.ref b51), .val (.ref xta4_0_300)] [(.int (0 : Int32)), (.ref b1), (.int p0)])) rfl rfl (hb hby at_254) _ ?_
              show Steps p.tables e below (T300.setTop (mkF m 255 #[.val (.int p0), .val (.int p1), .val (.int p2), .val (.int p3), .val (.int p4), .val (.int p5), .val (.int (v0_2 p0 p1 p2 p3 p4 p5)), .val (.ref b1), .val (.ref b51), .val (.ref xta4_0_300)] [(.int p0), (.int p0)])) _
              refine XS.icmpYes X300.here hx rfl (pc0 := 255) (pc' := 260) rfl (hb hby at_255) rfl (XT.ii_eq_t (rfl : p0 = p0)) (by decide) (by decide) ?_
              show Steps p.tables e below (T300.setTop (mkF m 260 #[.val (.int p0), .val (.int p1), .val (.int p2), .val (.int p3), .val (.int p4), .val (.int p5), .val (.int (v0_2 p0 p1 p2 p3 p4 p5)), .val (.ref b1), .val (.ref b51), .val (.ref xta4_0_300)] [])) _
              refine XS.iload X300.here hx rfl (hb hby at_260) rfl ?_
              show Steps p.tables e below (T300.setTop (mkF m 262 #[.val (.int p0), .val (.int p1), .val (.int p2), .val (.int p3), .val (.int p4), .val (.int p5), .val (.int (v0_2 p0 p1 p2 p3 p4 p5)), .val (.ref b1), .val (.ref b51), .val (.ref xta4_0_300)] [(.int (v0_2 p0 p1 p2 p3 p4 p5))])) _
              refine XT.iconstV X300.here hx rfl (1 : Int32) (hb hby at_262) (by decide) ?_
              show Steps p.tables e below (T300.setTop (mkF m 263 #[.val (.int p0), .val (.int p1), .val (.int p2), .val (.int p3), .val (.int p4), .val (.int p5), .val (.int (v0_2 p0 p1 p2 p3 p4 p5)), .val (.ref b1), .val (.ref b51), .val (.ref xta4_0_300)] [(.int (1 : Int32)), (.int (v0_2 p0 p1 p2 p3 p4 p5))])) _
              refine XS.icmpNo X300.here hx rfl (hb hby at_263) rfl (XT.ii_le_f c75) ?_
              show Steps p.tables e below (T300.setTop (mkF m 266 #[.val (.int p0), .val (.int p1), .val (.int p2), .val (.int p3), .val (.int p4), .val (.int p5), .val (.int (v0_2 p0 p1 p2 p3 p4 p5)), .val (.ref b1), .val (.ref b51), .val (.ref xta4_0_300)] [])) _
              refine XS.aload X300.here hx rfl (hb hby at_266) rfl rfl ?_
              show Steps p.tables e below (T300.setTop (mkF m 268 #[.val (.int p0), .val (.int p1), .val (.int p2), .val (.int p3), .val (.int p4), .val (.int p5), .val (.int (v0_2 p0 p1 p2 p3 p4 p5)), .val (.ref b1), .val (.ref b51), .val (.ref xta4_0_300)] [(.ref xta4_0_300)])) _
              refine XT.iconstV X300.here hx rfl (1 : Int32) (hb hby at_268) (by decide) ?_
              show Steps p.tables e below (T300.setTop (mkF m 269 #[.val (.int p0), .val (.int p1), .val (.int p2), .val (.int p3), .val (.int p4), .val (.int p5), .val (.int (v0_2 p0 p1 p2 p3 p4 p5)), .val (.ref b1), .val (.ref b51), .val (.ref xta4_0_300)] [(.int (1 : Int32)), (.ref xta4_0_300)])) _
              refine X300.iaload hx (j := (1 : Int32)) (v := (.int p1)) Ar309.1 (State.isArrayOf_alike hZ.alike Ar309.2.1) Ar309.2.2 hin314 (Has.at Ha309 hin314 rfl) (g := (mkF m 269 #[.val (.int p0), .val (.int p1), .val (.int p2), .val (.int p3), .val (.int p4), .val (.int p5), .val (.int (v0_2 p0 p1 p2 p3 p4 p5)), .val (.ref b1), .val (.ref b51), .val (.ref xta4_0_300)] [(.int (1 : Int32)), (.ref xta4_0_300)])) rfl rfl (hb hby at_269) _ ?_
              show Steps p.tables e below (T300.setTop (mkF m 270 #[.val (.int p0), .val (.int p1), .val (.int p2), .val (.int p3), .val (.int p4), .val (.int p5), .val (.int (v0_2 p0 p1 p2 p3 p4 p5)), .val (.ref b1), .val (.ref b51), .val (.ref xta4_0_300)] [(.int p1)])) _
              refine XS.aload X300.here hx rfl (hb hby at_270) rfl rfl ?_
              show Steps p.tables e below (T300.setTop (mkF m 272 #[.val (.int p0), .val (.int p1), .val (.int p2), .val (.int p3), .val (.int p4), .val (.int p5), .val (.int (v0_2 p0 p1 p2 p3 p4 p5)), .val (.ref b1), .val (.ref b51), .val (.ref xta4_0_300)] [(.ref b1), (.int p1)])) _
              refine XT.iconstV X300.here hx rfl (1 : Int32) (hb hby at_272) (by decide) ?_
              show Steps p.tables e below (T300.setTop (mkF m 273 #[.val (.int p0), .val (.int p1), .val (.int p2), .val (.int p3), .val (.int p4), .val (.int p5), .val (.int (v0_2 p0 p1 p2 p3 p4 p5)), .val (.ref b1), .val (.ref b51), .val (.ref xta4_0_300)] [(.int (1 : Int32)), (.ref b1), (.int p1)])) _
              refine X300.iaload hx (j := (1 : Int32)) (v := (.int p1)) Ar312.1 (State.isArrayOf_alike hZ.alike Ar312.2.1) Ar312.2.2 hin315 (Has.at Ha312 hin315 rfl) (g := (mkF m 273 #[.val (.int p0), .val (.int p1), .val (.int p2), .val (.int p3), .val (.int p4), .val (.int p5), .val (.int (v0_2 p0 p1 p2 p3 p4 p5)), .val (.ref b1), .val (.ref b51), .val (.ref xta4_0_300)] [(.int (1 : Int32)), (.ref b1), (.int p1)])) rfl rfl (hb hby at_273) _ ?_
              show Steps p.tables e below (T300.setTop (mkF m 274 #[.val (.int p0), .val (.int p1), .val (.int p2), .val (.int p3), .val (.int p4), .val (.int p5), .val (.int (v0_2 p0 p1 p2 p3 p4 p5)), .val (.ref b1), .val (.ref b51), .val (.ref xta4_0_300)] [(.int p1), (.int p1)])) _
              refine XS.icmpYes X300.here hx rfl (pc0 := 274) (pc' := 279) rfl (hb hby at_274) rfl (XT.ii_eq_t (rfl : p1 = p1)) (by decide) (by decide) ?_
              show Steps p.tables e below (T300.setTop (mkF m 279 #[.val (.int p0), .val (.int p1), .val (.int p2), .val (.int p3), .val (.int p4), .val (.int p5), .val (.int (v0_2 p0 p1 p2 p3 p4 p5)), .val (.ref b1), .val (.ref b51), .val (.ref xta4_0_300)] [])) _
              refine XS.iload X300.here hx rfl (hb hby at_279) rfl ?_
              show Steps p.tables e below (T300.setTop (mkF m 281 #[.val (.int p0), .val (.int p1), .val (.int p2), .val (.int p3), .val (.int p4), .val (.int p5), .val (.int (v0_2 p0 p1 p2 p3 p4 p5)), .val (.ref b1), .val (.ref b51), .val (.ref xta4_0_300)] [(.int (v0_2 p0 p1 p2 p3 p4 p5))])) _
              refine XT.iconstV X300.here hx rfl (2 : Int32) (hb hby at_281) (by decide) ?_
              show Steps p.tables e below (T300.setTop (mkF m 282 #[.val (.int p0), .val (.int p1), .val (.int p2), .val (.int p3), .val (.int p4), .val (.int p5), .val (.int (v0_2 p0 p1 p2 p3 p4 p5)), .val (.ref b1), .val (.ref b51), .val (.ref xta4_0_300)] [(.int (2 : Int32)), (.int (v0_2 p0 p1 p2 p3 p4 p5))])) _
              refine XS.icmpNo X300.here hx rfl (hb hby at_282) rfl (XT.ii_le_f c83) ?_
              show Steps p.tables e below (T300.setTop (mkF m 285 #[.val (.int p0), .val (.int p1), .val (.int p2), .val (.int p3), .val (.int p4), .val (.int p5), .val (.int (v0_2 p0 p1 p2 p3 p4 p5)), .val (.ref b1), .val (.ref b51), .val (.ref xta4_0_300)] [])) _
              refine XS.aload X300.here hx rfl (hb hby at_285) rfl rfl ?_
              show Steps p.tables e below (T300.setTop (mkF m 287 #[.val (.int p0), .val (.int p1), .val (.int p2), .val (.int p3), .val (.int p4), .val (.int p5), .val (.int (v0_2 p0 p1 p2 p3 p4 p5)), .val (.ref b1), .val (.ref b51), .val (.ref xta4_0_300)] [(.ref xta4_0_300)])) _
              refine XT.iconstV X300.here hx rfl (2 : Int32) (hb hby at_287) (by decide) ?_
              show Steps p.tables e below (T300.setTop (mkF m 288 #[.val (.int p0), .val (.int p1), .val (.int p2), .val (.int p3), .val (.int p4), .val (.int p5), .val (.int (v0_2 p0 p1 p2 p3 p4 p5)), .val (.ref b1), .val (.ref b51), .val (.ref xta4_0_300)] [(.int (2 : Int32)), (.ref xta4_0_300)])) _
              refine X300.iaload hx (j := (2 : Int32)) (v := (.int p2)) Ar309.1 (State.isArrayOf_alike hZ.alike Ar309.2.1) Ar309.2.2 hin316 (Has.at Ha309 hin316 rfl) (g := (mkF m 288 #[.val (.int p0), .val (.int p1), .val (.int p2), .val (.int p3), .val (.int p4), .val (.int p5), .val (.int (v0_2 p0 p1 p2 p3 p4 p5)), .val (.ref b1), .val (.ref b51), .val (.ref xta4_0_300)] [(.int (2 : Int32)), (.ref xta4_0_300)])) rfl rfl (hb hby at_288) _ ?_
              show Steps p.tables e below (T300.setTop (mkF m 289 #[.val (.int p0), .val (.int p1), .val (.int p2), .val (.int p3), .val (.int p4), .val (.int p5), .val (.int (v0_2 p0 p1 p2 p3 p4 p5)), .val (.ref b1), .val (.ref b51), .val (.ref xta4_0_300)] [(.int p2)])) _
              refine XS.aload X300.here hx rfl (hb hby at_289) rfl rfl ?_
              show Steps p.tables e below (T300.setTop (mkF m 291 #[.val (.int p0), .val (.int p1), .val (.int p2), .val (.int p3), .val (.int p4), .val (.int p5), .val (.int (v0_2 p0 p1 p2 p3 p4 p5)), .val (.ref b1), .val (.ref b51), .val (.ref xta4_0_300)] [(.ref b1), (.int p2)])) _
              refine XT.iconstV X300.here hx rfl (2 : Int32) (hb hby at_291) (by decide) ?_
              show Steps p.tables e below (T300.setTop (mkF m 292 #[.val (.int p0), .val (.int p1), .val (.int p2), .val (.int p3), .val (.int p4), .val (.int p5), .val (.int (v0_2 p0 p1 p2 p3 p4 p5)), .val (.ref b1), .val (.ref b51), .val (.ref xta4_0_300)] [(.int (2 : Int32)), (.ref b1), (.int p2)])) _
              refine X300.iaload hx (j := (2 : Int32)) (v := (.int p2)) Ar312.1 (State.isArrayOf_alike hZ.alike Ar312.2.1) Ar312.2.2 hin317 (Has.at Ha312 hin317 rfl) (g := (mkF m 292 #[.val (.int p0), .val (.int p1), .val (.int p2), .val (.int p3), .val (.int p4), .val (.int p5), .val (.int (v0_2 p0 p1 p2 p3 p4 p5)), .val (.ref b1), .val (.ref b51), .val (.ref xta4_0_300)] [(.int (2 : Int32)), (.ref b1), (.int p2)])) rfl rfl (hb hby at_292) _ ?_
              show Steps p.tables e below (T300.setTop (mkF m 293 #[.val (.int p0), .val (.int p1), .val (.int p2), .val (.int p3), .val (.int p4), .val (.int p5), .val (.int (v0_2 p0 p1 p2 p3 p4 p5)), .val (.ref b1), .val (.ref b51), .val (.ref xta4_0_300)] [(.int p2), (.int p2)])) _
              refine XS.icmpYes X300.here hx rfl (pc0 := 293) (pc' := 298) rfl (hb hby at_293) rfl (XT.ii_eq_t (rfl : p2 = p2)) (by decide) (by decide) ?_
              show Steps p.tables e below (T300.setTop (mkF m 298 #[.val (.int p0), .val (.int p1), .val (.int p2), .val (.int p3), .val (.int p4), .val (.int p5), .val (.int (v0_2 p0 p1 p2 p3 p4 p5)), .val (.ref b1), .val (.ref b51), .val (.ref xta4_0_300)] [])) _
              refine XS.iload X300.here hx rfl (hb hby at_298) rfl ?_
              show Steps p.tables e below (T300.setTop (mkF m 300 #[.val (.int p0), .val (.int p1), .val (.int p2), .val (.int p3), .val (.int p4), .val (.int p5), .val (.int (v0_2 p0 p1 p2 p3 p4 p5)), .val (.ref b1), .val (.ref b51), .val (.ref xta4_0_300)] [(.int (v0_2 p0 p1 p2 p3 p4 p5))])) _
              refine XT.iconstV X300.here hx rfl (3 : Int32) (hb hby at_300) (by decide) ?_
              show Steps p.tables e below (T300.setTop (mkF m 301 #[.val (.int p0), .val (.int p1), .val (.int p2), .val (.int p3), .val (.int p4), .val (.int p5), .val (.int (v0_2 p0 p1 p2 p3 p4 p5)), .val (.ref b1), .val (.ref b51), .val (.ref xta4_0_300)] [(.int (3 : Int32)), (.int (v0_2 p0 p1 p2 p3 p4 p5))])) _
              refine XS.icmpNo X300.here hx rfl (hb hby at_301) rfl (XT.ii_le_f c91) ?_
              show Steps p.tables e below (T300.setTop (mkF m 304 #[.val (.int p0), .val (.int p1), .val (.int p2), .val (.int p3), .val (.int p4), .val (.int p5), .val (.int (v0_2 p0 p1 p2 p3 p4 p5)), .val (.ref b1), .val (.ref b51), .val (.ref xta4_0_300)] [])) _
              refine XS.aload X300.here hx rfl (hb hby at_304) rfl rfl ?_
              show Steps p.tables e below (T300.setTop (mkF m 306 #[.val (.int p0), .val (.int p1), .val (.int p2), .val (.int p3), .val (.int p4), .val (.int p5), .val (.int (v0_2 p0 p1 p2 p3 p4 p5)), .val (.ref b1), .val (.ref b51), .val (.ref xta4_0_300)] [(.ref xta4_0_300)])) _
              refine XT.iconstV X300.here hx rfl (3 : Int32) (hb hby at_306) (by decide) ?_
              show Steps p.tables e below (T300.setTop (mkF m 307 #[.val (.int p0), .val (.int p1), .val (.int p2), .val (.int p3), .val (.int p4), .val (.int p5), .val (.int (v0_2 p0 p1 p2 p3 p4 p5)), .val (.ref b1), .val (.ref b51), .val (.ref xta4_0_300)] [(.int (3 : Int32)), (.ref xta4_0_300)])) _
              refine X300.iaload hx (j := (3 : Int32)) (v := (.int p3)) Ar309.1 (State.isArrayOf_alike hZ.alike Ar309.2.1) Ar309.2.2 hin318 (Has.at Ha309 hin318 rfl) (g := (mkF m 307 #[.val (.int p0), .val (.int p1), .val (.int p2), .val (.int p3), .val (.int p4), .val (.int p5), .val (.int (v0_2 p0 p1 p2 p3 p4 p5)), .val (.ref b1), .val (.ref b51), .val (.ref xta4_0_300)] [(.int (3 : Int32)), (.ref xta4_0_300)])) rfl rfl (hb hby at_307) _ ?_
              show Steps p.tables e below (T300.setTop (mkF m 308 #[.val (.int p0), .val (.int p1), .val (.int p2), .val (.int p3), .val (.int p4), .val (.int p5), .val (.int (v0_2 p0 p1 p2 p3 p4 p5)), .val (.ref b1), .val (.ref b51), .val (.ref xta4_0_300)] [(.int p3)])) _
              refine XS.aload X300.here hx rfl (hb hby at_308) rfl rfl ?_
              show Steps p.tables e below (T300.setTop (mkF m 310 #[.val (.int p0), .val (.int p1), .val (.int p2), .val (.int p3), .val (.int p4), .val (.int p5), .val (.int (v0_2 p0 p1 p2 p3 p4 p5)), .val (.ref b1), .val (.ref b51), .val (.ref xta4_0_300)] [(.ref b1), (.int p3)])) _
              refine XT.iconstV X300.here hx rfl (3 : Int32) (hb hby at_310) (by decide) ?_
              show Steps p.tables e below (T300.setTop (mkF m 311 #[.val (.int p0), .val (.int p1), .val (.int p2), .val (.int p3), .val (.int p4), .val (.int p5), .val (.int (v0_2 p0 p1 p2 p3 p4 p5)), .val (.ref b1), .val (.ref b51), .val (.ref xta4_0_300)] [(.int (3 : Int32)), (.ref b1), (.int p3)])) _
              refine X300.iaload hx (j := (3 : Int32)) (v := (.int p3)) Ar312.1 (State.isArrayOf_alike hZ.alike Ar312.2.1) Ar312.2.2 hin319 (Has.at Ha312 hin319 rfl) (g := (mkF m 311 #[.val (.int p0), .val (.int p1), .val (.int p2), .val (.int p3), .val (.int p4), .val (.int p5), .val (.int (v0_2 p0 p1 p2 p3 p4 p5)), .val (.ref b1), .val (.ref b51), .val (.ref xta4_0_300)] [(.int (3 : Int32)), (.ref b1), (.int p3)])) rfl rfl (hb hby at_311) _ ?_
              show Steps p.tables e below (T300.setTop (mkF m 312 #[.val (.int p0), .val (.int p1), .val (.int p2), .val (.int p3), .val (.int p4), .val (.int p5), .val (.int (v0_2 p0 p1 p2 p3 p4 p5)), .val (.ref b1), .val (.ref b51), .val (.ref xta4_0_300)] [(.int p3), (.int p3)])) _
              refine XS.icmpYes X300.here hx rfl (pc0 := 312) (pc' := 317) rfl (hb hby at_312) rfl (XT.ii_eq_t (rfl : p3 = p3)) (by decide) (by decide) ?_
              show Steps p.tables e below (T300.setTop (mkF m 317 #[.val (.int p0), .val (.int p1), .val (.int p2), .val (.int p3), .val (.int p4), .val (.int p5), .val (.int (v0_2 p0 p1 p2 p3 p4 p5)), .val (.ref b1), .val (.ref b51), .val (.ref xta4_0_300)] [])) _
              refine XS.iload X300.here hx rfl (hb hby at_317) rfl ?_
              show Steps p.tables e below (T300.setTop (mkF m 319 #[.val (.int p0), .val (.int p1), .val (.int p2), .val (.int p3), .val (.int p4), .val (.int p5), .val (.int (v0_2 p0 p1 p2 p3 p4 p5)), .val (.ref b1), .val (.ref b51), .val (.ref xta4_0_300)] [(.int (v0_2 p0 p1 p2 p3 p4 p5))])) _
              refine XT.iconstV X300.here hx rfl (4 : Int32) (hb hby at_319) (by decide) ?_
              show Steps p.tables e below (T300.setTop (mkF m 320 #[.val (.int p0), .val (.int p1), .val (.int p2), .val (.int p3), .val (.int p4), .val (.int p5), .val (.int (v0_2 p0 p1 p2 p3 p4 p5)), .val (.ref b1), .val (.ref b51), .val (.ref xta4_0_300)] [(.int (4 : Int32)), (.int (v0_2 p0 p1 p2 p3 p4 p5))])) _
              refine XS.icmpYes X300.here hx rfl (pc0 := 320) (pc' := 336) rfl (hb hby at_320) rfl (XT.ii_le_t c99) (by decide) (by decide) ?_
              show Steps p.tables e below (T300.setTop (mkF m 336 #[.val (.int p0), .val (.int p1), .val (.int p2), .val (.int p3), .val (.int p4), .val (.int p5), .val (.int (v0_2 p0 p1 p2 p3 p4 p5)), .val (.ref b1), .val (.ref b51), .val (.ref xta4_0_300)] [])) _
              refine XS.iload X300.here hx rfl (hb hby at_336) rfl ?_
              show Steps p.tables e below (T300.setTop (mkF m 338 #[.val (.int p0), .val (.int p1), .val (.int p2), .val (.int p3), .val (.int p4), .val (.int p5), .val (.int (v0_2 p0 p1 p2 p3 p4 p5)), .val (.ref b1), .val (.ref b51), .val (.ref xta4_0_300)] [(.int (v0_2 p0 p1 p2 p3 p4 p5))])) _
              refine XT.iconstV X300.here hx rfl (5 : Int32) (hb hby at_338) (by decide) ?_
              show Steps p.tables e below (T300.setTop (mkF m 339 #[.val (.int p0), .val (.int p1), .val (.int p2), .val (.int p3), .val (.int p4), .val (.int p5), .val (.int (v0_2 p0 p1 p2 p3 p4 p5)), .val (.ref b1), .val (.ref b51), .val (.ref xta4_0_300)] [(.int (5 : Int32)), (.int (v0_2 p0 p1 p2 p3 p4 p5))])) _
              refine XS.icmpYes X300.here hx rfl (pc0 := 339) (pc' := 355) rfl (hb hby at_339) rfl (XT.ii_le_t (own_mono c99 (by decide))) (by decide) (by decide) ?_
              show Steps p.tables e below (T300.setTop (mkF m 355 #[.val (.int p0), .val (.int p1), .val (.int p2), .val (.int p3), .val (.int p4), .val (.int p5), .val (.int (v0_2 p0 p1 p2 p3 p4 p5)), .val (.ref b1), .val (.ref b51), .val (.ref xta4_0_300)] [])) _
              refine XS.iload X300.here hx rfl (hb hby at_355) rfl ?_
              show Steps p.tables e below (T300.setTop (mkF m 357 #[.val (.int p0), .val (.int p1), .val (.int p2), .val (.int p3), .val (.int p4), .val (.int p5), .val (.int (v0_2 p0 p1 p2 p3 p4 p5)), .val (.ref b1), .val (.ref b51), .val (.ref xta4_0_300)] [(.int (v0_2 p0 p1 p2 p3 p4 p5))])) _
              refine XT.bipushV X300.here hx rfl (6 : Int32) (hb hby at_357) (by decide) ?_
              show Steps p.tables e below (T300.setTop (mkF m 359 #[.val (.int p0), .val (.int p1), .val (.int p2), .val (.int p3), .val (.int p4), .val (.int p5), .val (.int (v0_2 p0 p1 p2 p3 p4 p5)), .val (.ref b1), .val (.ref b51), .val (.ref xta4_0_300)] [(.int (6 : Int32)), (.int (v0_2 p0 p1 p2 p3 p4 p5))])) _
              refine XS.icmpYes X300.here hx rfl (pc0 := 359) (pc' := 377) rfl (hb hby at_359) rfl (XT.ii_le_t (own_mono c99 (by decide))) (by decide) (by decide) ?_
              show Steps p.tables e below (T300.setTop (mkF m 377 #[.val (.int p0), .val (.int p1), .val (.int p2), .val (.int p3), .val (.int p4), .val (.int p5), .val (.int (v0_2 p0 p1 p2 p3 p4 p5)), .val (.ref b1), .val (.ref b51), .val (.ref xta4_0_300)] [])) _
              refine XS.iload X300.here hx rfl (hb hby at_377) rfl ?_
              show Steps p.tables e below (T300.setTop (mkF m 379 #[.val (.int p0), .val (.int p1), .val (.int p2), .val (.int p3), .val (.int p4), .val (.int p5), .val (.int (v0_2 p0 p1 p2 p3 p4 p5)), .val (.ref b1), .val (.ref b51), .val (.ref xta4_0_300)] [(.int (v0_2 p0 p1 p2 p3 p4 p5))])) _
              refine XT.bipushV X300.here hx rfl (7 : Int32) (hb hby at_379) (by decide) ?_
              show Steps p.tables e below (T300.setTop (mkF m 381 #[.val (.int p0), .val (.int p1), .val (.int p2), .val (.int p3), .val (.int p4), .val (.int p5), .val (.int (v0_2 p0 p1 p2 p3 p4 p5)), .val (.ref b1), .val (.ref b51), .val (.ref xta4_0_300)] [(.int (7 : Int32)), (.int (v0_2 p0 p1 p2 p3 p4 p5))])) _
              refine XS.icmpYes X300.here hx rfl (pc0 := 381) (pc' := 399) rfl (hb hby at_381) rfl (XT.ii_le_t (own_mono c99 (by decide))) (by decide) (by decide) ?_
              show Steps p.tables e below (T300.setTop (mkF m 399 #[.val (.int p0), .val (.int p1), .val (.int p2), .val (.int p3), .val (.int p4), .val (.int p5), .val (.int (v0_2 p0 p1 p2 p3 p4 p5)), .val (.ref b1), .val (.ref b51), .val (.ref xta4_0_300)] [])) _
              refine XS.iload X300.here hx rfl (hb hby at_399) rfl ?_
              show Steps p.tables e below (T300.setTop (mkF m 401 #[.val (.int p0), .val (.int p1), .val (.int p2), .val (.int p3), .val (.int p4), .val (.int p5), .val (.int (v0_2 p0 p1 p2 p3 p4 p5)), .val (.ref b1), .val (.ref b51), .val (.ref xta4_0_300)] [(.int (v0_2 p0 p1 p2 p3 p4 p5))])) _
              refine XT.bipushV X300.here hx rfl (8 : Int32) (hb hby at_401) (by decide) ?_
              show Steps p.tables e below (T300.setTop (mkF m 403 #[.val (.int p0), .val (.int p1), .val (.int p2), .val (.int p3), .val (.int p4), .val (.int p5), .val (.int (v0_2 p0 p1 p2 p3 p4 p5)), .val (.ref b1), .val (.ref b51), .val (.ref xta4_0_300)] [(.int (8 : Int32)), (.int (v0_2 p0 p1 p2 p3 p4 p5))])) _
              refine XS.icmpYes X300.here hx rfl (pc0 := 403) (pc' := 421) rfl (hb hby at_403) rfl (XT.ii_le_t (own_mono c99 (by decide))) (by decide) (by decide) ?_
              show Steps p.tables e below (T300.setTop (mkF m 421 #[.val (.int p0), .val (.int p1), .val (.int p2), .val (.int p3), .val (.int p4), .val (.int p5), .val (.int (v0_2 p0 p1 p2 p3 p4 p5)), .val (.ref b1), .val (.ref b51), .val (.ref xta4_0_300)] [])) _
              refine XT.iconstV X300.here hx rfl (1 : Int32) (hb hby at_421) (by decide) ?_
              show Steps p.tables e below (T300.setTop (mkF m 422 #[.val (.int p0), .val (.int p1), .val (.int p2), .val (.int p3), .val (.int p4), .val (.int p5), .val (.int (v0_2 p0 p1 p2 p3 p4 p5)), .val (.ref b1), .val (.ref b51), .val (.ref xta4_0_300)] [(.int (1 : Int32))])) _
              exact retN X300 hx (t := .boolean) Bd.returns (by simp) (hb hby at_422) hr
            · skip
              show Q0 Z p0 p1 p2 p3 p4 p5 h0 n0 _ T300.heap _
              exact ⟨rfl, N300⟩
        · skip
          obtain ⟨cq320, kq320, q320a, q320b, q320c⟩ := isOf hZ rfl po87_0
          obtain ⟨vr320, _, ⟨T320, L320, k320, n320⟩, -, X320, ⟨Lc320, hQ320, l320, y320, z320⟩, st320⟩ := X87.virtualBack hx (y := (⟨"com/example/vellum_index/vellumindex/IntList", "size", "()I"⟩ : MethodName)) (z := (⟨"com/example/vellum_index/vellumindex/IntList", "size", "()I"⟩ : MethodName)) hown (mvT hZ (hw _ (List.mem_of_getElem? (i := 20) rfl))) (mvT hZ (hw _ (List.mem_of_getElem? (i := 21) rfl))) (notFace_of_selects (args := #[]) (mvT hZ (hw _ (List.mem_of_getElem? (i := 23) rfl)))) (mvT hZ (hw _ (List.mem_of_getElem? (i := 23) rfl))) (mvT hZ (hw _ (List.mem_of_getElem? (i := 22) rfl))) (by decide) (backOf (W := 0) (rm4 l Z a0 hw [] b51 (3 : Int32) T87.heap n0 z88 po87_1) hZ (hw _ (List.mem_of_getElem? (i := 24) rfl)) (hw _ (List.mem_of_getElem? (i := 4) rfl)) (by decide) (by decide)) q320a q320c (g := (mkF m 215 #[.val (.int p0), .val (.int p1), .val (.int p2), .val (.int p3), .val (.int p4), .val (.int p5), .val (.int (v0_2 p0 p1 p2 p3 p4 p5)), .val (.ref b1), .val (.ref b51), .unset] [(.ref b51)])) rfl (by rw [hml]; rfl) (Steps.refl _) (argsL := []) (rest := []) (lenOf pd___I rfl) rfl (by show 2 * 0 + _ ≤ _; exact Nat.le_of_eq rfl) (hb hby at_215) (fun _ _ => ⟨rfl, rfl, (by decide : 3 + 0 ≤ _), (by decide : 15 + 0 ≤ _)⟩)
          dsimp only [Pt.U, Pt.locs, Pt.cells, Pt.slots] at X320 l320 y320 z320 st320 hQ320
          subst l320 y320 z320
          have N320q := (show _ ∧ _ ∧ _ from hQ320).1
          have hv320 := (show _ ∧ _ ∧ _ from hQ320).2.1
          have e320 := (show _ ∧ _ ∧ _ from hQ320).2.2
          clear hQ320
          subst hv320
          have N320 := Fr.app N87 N320q
          obtain ⟨cq321, kq321, q321a, q321b, q321c⟩ := isOf hZ e320 po87_0
          obtain ⟨vr321, _, ⟨T321, L321, k321, n321⟩, -, X321, ⟨Lc321, hQ321, l321, y321, z321⟩, st321⟩ := X320.virtualBack hx (y := (⟨"com/example/vellum_index/vellumindex/IntList", "toArray", "()[I"⟩ : MethodName)) (z := (⟨"com/example/vellum_index/vellumindex/IntList", "toArray", "()[I"⟩ : MethodName)) hown (mvT hZ (hw _ (List.mem_of_getElem? (i := 25) rfl))) (mvT hZ (hw _ (List.mem_of_getElem? (i := 26) rfl))) (notFace_of_selects (args := #[]) (mvT hZ (hw _ (List.mem_of_getElem? (i := 28) rfl)))) (mvT hZ (hw _ (List.mem_of_getElem? (i := 28) rfl))) (mvT hZ (hw _ (List.mem_of_getElem? (i := 27) rfl))) (by decide) (backOf (W := 0) (rmta3 l Z a0 hw [] b51 x1_0_58 p0 p1 p2 (0 : Int32) k1_1_58 T87.heap n0 z88 po87_0 po87_1 po87_2 po87_3 po87_4) hZ (hw _ (List.mem_of_getElem? (i := 29) rfl)) (hw _ (List.mem_of_getElem? (i := 4) rfl)) (by decide) (by decide)) q321a q321c (g := (mkF m 227 #[.val (.int p0), .val (.int p1), .val (.int p2), .val (.int p3), .val (.int p4), .val (.int p5), .val (.int (v0_2 p0 p1 p2 p3 p4 p5)), .val (.ref b1), .val (.ref b51), .unset] [(.ref b51)])) rfl (by rw [hml]; rfl) (Steps.refl _) (argsL := []) (rest := []) (lenOf pd____I rfl) rfl (by show 2 * 0 + _ ≤ _; exact Nat.le_of_eq rfl) (hb hby at_227) (fun _ _ => ⟨rfl, e320, (by decide : 3 + 1 ≤ _), (by decide : 15 + 3 ≤ _)⟩)
          dsimp only [Pt.U, Pt.locs, Pt.cells, Pt.slots] at X321 l321 y321 z321 st321 hQ321
          subst l321 y321 z321
          have N321q := (show _ ∧ _ from hQ321).1
          have hq321 := (show _ ∧ _ from hQ321).2
          clear hQ321
          obtain ⟨xta3_0_321, kta3_1_321, hq321x⟩ := hq321
          have hv321 := hq321x.1
          have szxta3_0_321 := hq321x.2.1
          have K321 := hq321x.2.2.1
          have po321_0 := hq321x.2.2.2.1
          have po321_1 := hq321x.2.2.2.2
          clear hq321x
          subst hv321
          have k322 := ((((k59.keep K58).keep K71).keep K79).keep K87)
          have ne323 : b1 ≠ xta3_0_321 := Nat.ne_of_lt (Nat.lt_of_lt_of_le k322.lt szxta3_0_321)
          have ne324 : b51 ≠ xta3_0_321 := Nat.ne_of_lt (Nat.lt_of_lt_of_le po87_0.lt szxta3_0_321)
          have ne325 : x1_0_58 ≠ xta3_0_321 := Nat.ne_of_lt (Nat.lt_of_lt_of_le po87_3.lt szxta3_0_321)
          have g326 : n0 ≤ xta3_0_321 := Nat.le_trans z88 szxta3_0_321
          have sz327 : h0.size ≤ xta3_0_321 := Nat.le_trans hs89 szxta3_0_321
          have z328 : n0 ≤ T321.heap.size := Nat.le_trans z88 K321.1
          have hs329 : h0.size ≤ T321.heap.size := Nat.le_trans hs89 K321.1
          have N321 := Fr.app N320 N321q
          obtain ⟨cl330, Ar330, qc330, S330, M330, Ha330, G330⟩ := id po321_1
          have hin331 : ¬ ((0 : Int32) < 0 ∨ cl330.slots.size ≤ ((0 : Int32)).toNatClampNeg) := inb_of S330 ⟨by decide, by decide⟩
          have k332 := ((k84.keep K87 (ninS ne53 (ninS ne60 nin0))).keep K321 nin0)
          obtain ⟨cl333, Ar333, qc333, S333, M333, Ha333, G333⟩ := id k332
          have hin334 : ¬ ((0 : Int32) < 0 ∨ cl333.slots.size ≤ ((0 : Int32)).toNatClampNeg) := inb_of S333 ⟨by decide, by decide⟩
          have hin335 : ¬ ((1 : Int32) < 0 ∨ cl330.slots.size ≤ ((1 : Int32)).toNatClampNeg) := inb_of S330 ⟨by decide, by decide⟩
          have hin336 : ¬ ((1 : Int32) < 0 ∨ cl333.slots.size ≤ ((1 : Int32)).toNatClampNeg) := inb_of S333 ⟨by decide, by decide⟩
          have hin337 : ¬ ((2 : Int32) < 0 ∨ cl330.slots.size ≤ ((2 : Int32)).toNatClampNeg) := inb_of S330 ⟨by decide, by decide⟩
          have hin338 : ¬ ((2 : Int32) < 0 ∨ cl333.slots.size ≤ ((2 : Int32)).toNatClampNeg) := inb_of S333 ⟨by decide, by decide⟩
          obtain ⟨fs, hr, hrun, hended, hW, hsame⟩ := X321.leave (v := some (.int (1 : Int32))) (fun h => by rw [Bd.returns] at h; cases h) hlk
          refine ⟨_, _, pre90 _ ?_, hrun, hended, _, _, rfl, ?_, ⟨_, rfl⟩, hW, hsame.mono (by decide) (by decide)⟩
          · skip
            show Steps p.tables e below (T87.setTop (mkF m 120 #[.val (.int p0), .val (.int p1), .val (.int p2), .val (.int p3), .val (.int p4), .val (.int p5), .val (.int (v0_2 p0 p1 p2 p3 p4 p5)), .val (.ref b1), .val (.ref b51), .unset] [(.int (3 : Int32)), (.int (v0_2 p0 p1 p2 p3 p4 p5))])) _
            refine XS.icmpYes X87.here hx rfl (pc0 := 120) (pc' := 132) rfl (hb hby at_120) rfl (XT.ii_le_t c91) (by decide) (by decide) ?_
            show Steps p.tables e below (T87.setTop (mkF m 132 #[.val (.int p0), .val (.int p1), .val (.int p2), .val (.int p3), .val (.int p4), .val (.int p5), .val (.int (v0_2 p0 p1 p2 p3 p4 p5)), .val (.ref b1), .val (.ref b51), .unset] [])) _
            refine XS.iload X87.here hx rfl (hb hby at_132) rfl ?_
            show Steps p.tables e below (T87.setTop (mkF m 134 #[.val (.int p0), .val (.int p1), .val (.int p2), .val (.int p3), .val (.int p4), .val (.int p5), .val (.int (v0_2 p0 p1 p2 p3 p4 p5)), .val (.ref b1), .val (.ref b51), .unset] [(.int (v0_2 p0 p1 p2 p3 p4 p5))])) _
            refine XT.iconstV X87.here hx rfl (4 : Int32) (hb hby at_134) (by decide) ?_
            show Steps p.tables e below (T87.setTop (mkF m 135 #[.val (.int p0), .val (.int p1), .val (.int p2), .val (.int p3), .val (.int p4), .val (.int p5), .val (.int (v0_2 p0 p1 p2 p3 p4 p5)), .val (.ref b1), .val (.ref b51), .unset] [(.int (4 : Int32)), (.int (v0_2 p0 p1 p2 p3 p4 p5))])) _
            refine XS.icmpYes X87.here hx rfl (pc0 := 135) (pc' := 147) rfl (hb hby at_135) rfl (XT.ii_le_t (own_mono c91 (by decide))) (by decide) (by decide) ?_
            show Steps p.tables e below (T87.setTop (mkF m 147 #[.val (.int p0), .val (.int p1), .val (.int p2), .val (.int p3), .val (.int p4), .val (.int p5), .val (.int (v0_2 p0 p1 p2 p3 p4 p5)), .val (.ref b1), .val (.ref b51), .unset] [])) _
            refine XS.iload X87.here hx rfl (hb hby at_147) rfl ?_
            show Steps p.tables e below (T87.setTop (mkF m 149 #[.val (.int p0), .val (.int p1), .val (.int p2), .val (.int p3), .val (.int p4), .val (.int p5), .val (.int (v0_2 p0 p1 p2 p3 p4 p5)), .val (.ref b1), .val (.ref b51), .unset] [(.int (v0_2 p0 p1 p2 p3 p4 p5))])) _
            refine XT.iconstV X87.here hx rfl (5 : Int32) (hb hby at_149) (by decide) ?_
            show Steps p.tables e below (T87.setTop (mkF m 150 #[.val (.int p0), .val (.int p1), .val (.int p2), .val (.int p3), .val (.int p4), .val (.int p5), .val (.int (v0_2 p0 p1 p2 p3 p4 p5)), .val (.ref b1), .val (.ref b51), .unset] [(.int (5 : Int32)), (.int (v0_2 p0 p1 p2 p3 p4 p5))])) _
            refine XS.icmpYes X87.here hx rfl (pc0 := 150) (pc' := 162) rfl (hb hby at_150) rfl (XT.ii_le_t (own_mono c91 (by decide))) (by decide) (by decide) ?_
            show Steps p.tables e below (T87.setTop (mkF m 162 #[.val (.int p0), .val (.int p1), .val (.int p2), .val (.int p3), .val (.int p4), .val (.int p5), .val (.int (v0_2 p0 p1 p2 p3 p4 p5)), .val (.ref b1), .val (.ref b51), .unset] [])) _
            refine XS.iload X87.here hx rfl (hb hby at_162) rfl ?_
            show Steps p.tables e below (T87.setTop (mkF m 164 #[.val (.int p0), .val (.int p1), .val (.int p2), .val (.int p3), .val (.int p4), .val (.int p5), .val (.int (v0_2 p0 p1 p2 p3 p4 p5)), .val (.ref b1), .val (.ref b51), .unset] [(.int (v0_2 p0 p1 p2 p3 p4 p5))])) _
            refine XT.bipushV X87.here hx rfl (6 : Int32) (hb hby at_164) (by decide) ?_
            show Steps p.tables e below (T87.setTop (mkF m 166 #[.val (.int p0), .val (.int p1), .val (.int p2), .val (.int p3), .val (.int p4), .val (.int p5), .val (.int (v0_2 p0 p1 p2 p3 p4 p5)), .val (.ref b1), .val (.ref b51), .unset] [(.int (6 : Int32)), (.int (v0_2 p0 p1 p2 p3 p4 p5))])) _
            refine XS.icmpYes X87.here hx rfl (pc0 := 166) (pc' := 179) rfl (hb hby at_166) rfl (XT.ii_le_t (own_mono c91 (by decide))) (by decide) (by decide) ?_
            show Steps p.tables e below (T87.setTop (mkF m 179 #[.val (.int p0), .val (.int p1), .val (.int p2), .val (.int p3), .val (.int p4), .val (.int p5), .val (.int (v0_2 p0 p1 p2 p3 p4 p5)), .val (.ref b1), .val (.ref b51), .unset] [])) _
            refine XS.iload X87.here hx rfl (hb hby at_179) rfl ?_
            show Steps p.tables e below (T87.setTop (mkF m 181 #[.val (.int p0), .val (.int p1), .val (.int p2), .val (.int p3), .val (.int p4), .val (.int p5), .val (.int (v0_2 p0 p1 p2 p3 p4 p5)), .val (.ref b1), .val (.ref b51), .unset] [(.int (v0_2 p0 p1 p2 p3 p4 p5))])) _
            refine XT.bipushV X87.here hx rfl (7 : Int32) (hb hby at_181) (by decide) ?_
            show Steps p.tables e below (T87.setTop (mkF m 183 #[.val (.int p0), .val (.int p1), .val (.int p2), .val (.int p3), .val (.int p4), .val (.int p5), .val (.int (v0_2 p0 p1 p2 p3 p4 p5)), .val (.ref b1), .val (.ref b51), .unset] [(.int (7 : Int32)), (.int (v0_2 p0 p1 p2 p3 p4 p5))])) _
            refine XS.icmpYes X87.here hx rfl (pc0 := 183) (pc' := 196) rfl (hb hby at_183) rfl (XT.ii_le_t (own_mono c91 (by decide))) (by decide) (by decide) ?_
            show Steps p.tables e below (T87.setTop (mkF m 196 #[.val (.int p0), .val (.int p1), .val (.int p2), .val (.int p3), .val (.int p4), .val (.int p5), .val (.int (v0_2 p0 p1 p2 p3 p4 p5)), .val (.ref b1), .val (.ref b51), .unset] [])) _
            refine XS.iload X87.here hx rfl (hb hby at_196) rfl ?_
            show Steps p.tables e below (T87.setTop (mkF m 198 #[.val (.int p0), .val (.int p1), .val (.int p2), .val (.int p3), .val (.int p4), .val (.int p5), .val (.int (v0_2 p0 p1 p2 p3 p4 p5)), .val (.ref b1), .val (.ref b51), .unset] [(.int (v0_2 p0 p1 p2 p3 p4 p5))])) _
            refine XT.bipushV X87.here hx rfl (8 : Int32) (hb hby at_198) (by decide) ?_
            show Steps p.tables e below (T87.setTop (mkF m 200 #[.val (.int p0), .val (.int p1), .val (.int p2), .val (.int p3), .val (.int p4), .val (.int p5), .val (.int (v0_2 p0 p1 p2 p3 p4 p5)), .val (.ref b1), .val (.ref b51), .unset] [(.int (8 : Int32)), (.int (v0_2 p0 p1 p2 p3 p4 p5))])) _
            refine XS.icmpYes X87.here hx rfl (pc0 := 200) (pc' := 213) rfl (hb hby at_200) rfl (XT.ii_le_t (own_mono c91 (by decide))) (by decide) (by decide) ?_
            show Steps p.tables e below (T87.setTop (mkF m 213 #[.val (.int p0), .val (.int p1), .val (.int p2), .val (.int p3), .val (.int p4), .val (.int p5), .val (.int (v0_2 p0 p1 p2 p3 p4 p5)), .val (.ref b1), .val (.ref b51), .unset] [])) _
            refine XS.aload X87.here hx rfl (hb hby at_213) rfl rfl ?_
            show Steps p.tables e below (T87.setTop (mkF m 215 #[.val (.int p0), .val (.int p1), .val (.int p2), .val (.int p3), .val (.int p4), .val (.int p5), .val (.int (v0_2 p0 p1 p2 p3 p4 p5)), .val (.ref b1), .val (.ref b51), .unset] [(.ref b51)])) _
            refine st320.trans ?_
            show Steps p.tables e below (T320.setTop (mkF m 218 #[.val (.int p0), .val (.int p1), .val (.int p2), .val (.int p3), .val (.int p4), .val (.int p5), .val (.int (v0_2 p0 p1 p2 p3 p4 p5)), .val (.ref b1), .val (.ref b51), .unset] [(.int (f4 (3 : Int32)))])) _
            refine XS.iload X320.here hx rfl (hb hby at_218) rfl ?_
            show Steps p.tables e below (T320.setTop (mkF m 220 #[.val (.int p0), .val (.int p1), .val (.int p2), .val (.int p3), .val (.int p4), .val (.int p5), .val (.int (v0_2 p0 p1 p2 p3 p4 p5)), .val (.ref b1), .val (.ref b51), .unset] [(.int (v0_2 p0 p1 p2 p3 p4 p5)), (.int (f4 (3 : Int32)))])) _
            refine XS.icmpYes X320.here hx rfl (pc0 := 220) (pc' := 225) rfl (hb hby at_220) rfl (XT.ii_eq_t ((own_eqn c83 c91 (by decide))).symm) (by decide) (by decide) ?_
            show Steps p.tables e below (T320.setTop (mkF m 225 #[.val (.int p0), .val (.int p1), .val (.int p2), .val (.int p3), .val (.int p4), .val (.int p5), .val (.int (v0_2 p0 p1 p2 p3 p4 p5)), .val (.ref b1), .val (.ref b51), .unset] [])) _
            refine XS.aload X320.here hx rfl (hb hby at_225) rfl rfl ?_
            show Steps p.tables e below (T320.setTop (mkF m 227 #[.val (.int p0), .val (.int p1), .val (.int p2), .val (.int p3), .val (.int p4), .val (.int p5), .val (.int (v0_2 p0 p1 p2 p3 p4 p5)), .val (.ref b1), .val (.ref b51), .unset] [(.ref b51)])) _
            refine st321.trans ?_
            show Steps p.tables e below (T321.setTop (mkF m 230 #[.val (.int p0), .val (.int p1), .val (.int p2), .val (.int p3), .val (.int p4), .val (.int p5), .val (.int (v0_2 p0 p1 p2 p3 p4 p5)), .val (.ref b1), .val (.ref b51), .unset] [(.ref xta3_0_321)])) _
            refine XS.astore X321.here hx rfl (hb hby at_230) rfl rfl (l' := #[.val (.int p0), .val (.int p1), .val (.int p2), .val (.int p3), .val (.int p4), .val (.int p5), .val (.int (v0_2 p0 p1 p2 p3 p4 p5)), .val (.ref b1), .val (.ref b51), .val (.ref xta3_0_321)]) rfl ?_
            show Steps p.tables e below (T321.setTop (mkF m 232 #[.val (.int p0), .val (.int p1), .val (.int p2), .val (.int p3), .val (.int p4), .val (.int p5), .val (.int (v0_2 p0 p1 p2 p3 p4 p5)), .val (.ref b1), .val (.ref b51), .val (.ref xta3_0_321)] [])) _
            refine XS.aload X321.here hx rfl (hb hby at_232) rfl rfl ?_
            show Steps p.tables e below (T321.setTop (mkF m 234 #[.val (.int p0), .val (.int p1), .val (.int p2), .val (.int p3), .val (.int p4), .val (.int p5), .val (.int (v0_2 p0 p1 p2 p3 p4 p5)), .val (.ref b1), .val (.ref b51), .val (.ref xta3_0_321)] [(.ref xta3_0_321)])) _
            refine X321.arraylength hx Ar330.1 (State.isArrayOf_alike hZ.alike Ar330.2.1) (g := (mkF m 234 #[.val (.int p0), .val (.int p1), .val (.int p2), .val (.int p3), .val (.int p4), .val (.int p5), .val (.int (v0_2 p0 p1 p2 p3 p4 p5)), .val (.ref b1), .val (.ref b51), .val (.ref xta3_0_321)] [(.ref xta3_0_321)])) rfl rfl (hb hby at_234) _ ?_
            rw [len_of S330 M330]
            show Steps p.tables e below (T321.setTop (mkF m 235 #[.val (.int p0), .val (.int p1), .val (.int p2), .val (.int p3), .val (.int p4), .val (.int p5), .val (.int (v0_2 p0 p1 p2 p3 p4 p5)), .val (.ref b1), .val (.ref b51), .val (.ref xta3_0_321)] [(.int (3 : Int32))])) _
            refine XS.iload X321.here hx rfl (hb hby at_235) rfl ?_
            show Steps p.tables e below (T321.setTop (mkF m 237 #[.val (.int p0), .val (.int p1), .val (.int p2), .val (.int p3), .val (.int p4), .val (.int p5), .val (.int (v0_2 p0 p1 p2 p3 p4 p5)), .val (.ref b1), .val (.ref b51), .val (.ref xta3_0_321)] [(.int (v0_2 p0 p1 p2 p3 p4 p5)), (.int (3 : Int32))])) _
            refine XS.icmpYes X321.here hx rfl (pc0 := 237) (pc' := 242) rfl (hb hby at_237) rfl (XT.ii_eq_t ((own_eqn c83 c91 (by decide))).symm) (by decide) (by decide) ?_
            show Steps p.tables e below (T321.setTop (mkF m 242 #[.val (.int p0), .val (.int p1), .val (.int p2), .val (.int p3), .val (.int p4), .val (.int p5), .val (.int (v0_2 p0 p1 p2 p3 p4 p5)), .val (.ref b1), .val (.ref b51), .val (.ref xta3_0_321)] [])) _
            refine XS.iload X321.here hx rfl (hb hby at_242) rfl ?_
            show Steps p.tables e below (T321.setTop (mkF m 244 #[.val (.int p0), .val (.int p1), .val (.int p2), .val (.int p3), .val (.int p4), .val (.int p5), .val (.int (v0_2 p0 p1 p2 p3 p4 p5)), .val (.ref b1), .val (.ref b51), .val (.ref xta3_0_321)] [(.int (v0_2 p0 p1 p2 p3 p4 p5))])) _
            refine XS.ifNo X321.here hx rfl (hb hby at_244) rfl (XT.i0_le_f c67) ?_
            show Steps p.tables e below (T321.setTop (mkF m 247 #[.val (.int p0), .val (.int p1), .val (.int p2), .val (.int p3), .val (.int p4), .val (.int p5), .val (.int (v0_2 p0 p1 p2 p3 p4 p5)), .val (.ref b1), .val (.ref b51), .val (.ref xta3_0_321)] [])) _
            refine XS.aload X321.here hx rfl (hb hby at_247) rfl rfl ?_
            show Steps p.tables e below (T321.setTop (mkF m 249 #[.val (.int p0), .val (.int p1), .val (.int p2), .val (.int p3), .val (.int p4), .val (.int p5), .val (.int (v0_2 p0 p1 p2 p3 p4 p5)), .val (.ref b1), .val (.ref b51), .val (.ref xta3_0_321)] [(.ref xta3_0_321)])) _
            refine XT.iconstV X321.here hx rfl (0 : Int32) (hb hby at_249) (by decide) ?_
            show Steps p.tables e below (T321.setTop (mkF m 250 #[.val (.int p0), .val (.int p1), .val (.int p2), .val (.int p3), .val (.int p4), .val (.int p5), .val (.int (v0_2 p0 p1 p2 p3 p4 p5)), .val (.ref b1), .val (.ref b51), .val (.ref xta3_0_321)] [(.int (0 : Int32)), (.ref xta3_0_321)])) _
            refine X321.iaload hx (j := (0 : Int32)) (v := (.int p0)) Ar330.1 (State.isArrayOf_alike hZ.alike Ar330.2.1) Ar330.2.2 hin331 (Has.at Ha330 hin331 rfl) (g := (mkF m 250 #[.val (.int p0), .val (.int p1), .val (.int p2), .val (.int p3), .val (.int p4), .val (.int p5), .val (.int (v0_2 p0 p1 p2 p3 p4 p5)), .val (.ref b1), .val (.ref b51), .val (.ref xta3_0_321)] [(.int (0 : Int32)), (.ref xta3_0_321)])) rfl rfl (hb hby at_250) _ ?_
            show Steps p.tables e below (T321.setTop (mkF m 251 #[.val (.int p0), .val (.int p1), .val (.int p2), .val (.int p3), .val (.int p4), .val (.int p5), .val (.int (v0_2 p0 p1 p2 p3 p4 p5)), .val (.ref b1), .val (.ref b51), .val (.ref xta3_0_321)] [(.int p0)])) _
            refine XS.aload X321.here hx rfl (hb hby at_251) rfl rfl ?_
            show Steps p.tables e below (T321.setTop (mkF m 253 #[.val (.int p0), .val (.int p1), .val (.int p2), .val (.int p3), .val (.int p4), .val (.int p5), .val (.int (v0_2 p0 p1 p2 p3 p4 p5)), .val (.ref b1), .val (.ref b51), .val (.ref xta3_0_321)] [(.ref b1), (.int p0)])) _
            refine XT.iconstV X321.here hx rfl (0 : Int32) (hb hby at_253) (by decide) ?_
            show Steps p.tables e below (T321.setTop (mkF m 254 #[.val (.int p0), .val (.int p1), .val (.int p2), .val (.int p3), .val (.int p4), .val (.int p5), .val (.int (v0_2 p0 p1 p2 p3 p4 p5)), .val (.ref b1), .val (.ref b51), .val (.ref xta3_0_321)] [(.int (0 : Int32)), (.ref b1), (.int p0)])) _
            refine X321.iaload hx (j := (0 : Int32)) (v := (.int p0)) Ar333.1 (State.isArrayOf_alike hZ.alike Ar333.2.1) Ar333.2.2 hin334 (Has.at Ha333 hin334 rfl) (g := (mkF m 254 #[.val (.int p0), .val (.int p1), .val (.int p2), .val (.int p3), .val (.int p4), .val (.int p5), .val (.int (v0_2 p0 p1 p2 p3 p4 p5)), .val (.ref b1), .val (.ref b51), .val (.ref xta3_0_321)] [(.int (0 : Int32)), (.ref b1), (.int p0)])) rfl rfl (hb hby at_254) _ ?_
            show Steps p.tables e below (T321.setTop (mkF m 255 #[.val (.int p0), .val (.int p1), .val (.int p2), .val (.int p3), .val (.int p4), .val (.int p5), .val (.int (v0_2 p0 p1 p2 p3 p4 p5)), .val (.ref b1), .val (.ref b51), .val (.ref xta3_0_321)] [(.int p0), (.int p0)])) _
            refine XS.icmpYes X321.here hx rfl (pc0 := 255) (pc' := 260) rfl (hb hby at_255) rfl (XT.ii_eq_t (rfl : p0 = p0)) (by decide) (by decide) ?_
            show Steps p.tables e below (T321.setTop (mkF m 260 #[.val (.int p0), .val (.int p1), .val (.int p2), .val (.int p3), .val (.int p4), .val (.int p5), .val (.int (v0_2 p0 p1 p2 p3 p4 p5)), .val (.ref b1), .val (.ref b51), .val (.ref xta3_0_321)] [])) _
            refine XS.iload X321.here hx rfl (hb hby at_260) rfl ?_
            show Steps p.tables e below (T321.setTop (mkF m 262 #[.val (.int p0), .val (.int p1), .val (.int p2), .val (.int p3), .val (.int p4), .val (.int p5), .val (.int (v0_2 p0 p1 p2 p3 p4 p5)), .val (.ref b1), .val (.ref b51), .val (.ref xta3_0_321)] [(.int (v0_2 p0 p1 p2 p3 p4 p5))])) _
            refine XT.iconstV X321.here hx rfl (1 : Int32) (hb hby at_262) (by decide) ?_
            show Steps p.tables e below (T321.setTop (mkF m 263 #[.val (.int p0), .val (.int p1), .val (.int p2), .val (.int p3), .val (.int p4), .val (.int p5), .val (.int (v0_2 p0 p1 p2 p3 p4 p5)), .val (.ref b1), .val (.ref b51), .val (.ref xta3_0_321)] [(.int (1 : Int32)), (.int (v0_2 p0 p1 p2 p3 p4 p5))])) _
            refine XS.icmpNo X321.here hx rfl (hb hby at_263) rfl (XT.ii_le_f c75) ?_
            show Steps p.tables e below (T321.setTop (mkF m 266 #[.val (.int p0), .val (.int p1), .val (.int p2), .val (.int p3), .val (.int p4), .val (.int p5), .val (.int (v0_2 p0 p1 p2 p3 p4 p5)), .val (.ref b1), .val (.ref b51), .val (.ref xta3_0_321)] [])) _
            refine XS.aload X321.here hx rfl (hb hby at_266) rfl rfl ?_
            show Steps p.tables e below (T321.setTop (mkF m 268 #[.val (.int p0), .val (.int p1), .val (.int p2), .val (.int p3), .val (.int p4), .val (.int p5), .val (.int (v0_2 p0 p1 p2 p3 p4 p5)), .val (.ref b1), .val (.ref b51), .val (.ref xta3_0_321)] [(.ref xta3_0_321)])) _
            refine XT.iconstV X321.here hx rfl (1 : Int32) (hb hby at_268) (by decide) ?_
            show Steps p.tables e below (T321.setTop (mkF m 269 #[.val (.int p0), .val (.int p1), .val (.int p2), .val (.int p3), .val (.int p4), .val (.int p5), .val (.int (v0_2 p0 p1 p2 p3 p4 p5)), .val (.ref b1), .val (.ref b51), .val (.ref xta3_0_321)] [(.int (1 : Int32)), (.ref xta3_0_321)])) _
            refine X321.iaload hx (j := (1 : Int32)) (v := (.int p1)) Ar330.1 (State.isArrayOf_alike hZ.alike Ar330.2.1) Ar330.2.2 hin335 (Has.at Ha330 hin335 rfl) (g := (mkF m 269 #[.val (.int p0), .val (.int p1), .val (.int p2), .val (.int p3), .val (.int p4), .val (.int p5), .val (.int (v0_2 p0 p1 p2 p3 p4 p5)), .val (.ref b1), .val (.ref b51), .val (.ref xta3_0_321)] [(.int (1 : Int32)), (.ref xta3_0_321)])) rfl rfl (hb hby at_269) _ ?_
            show Steps p.tables e below (T321.setTop (mkF m 270 #[.val (.int p0), .val (.int p1), .val (.int p2), .val (.int p3), .val (.int p4), .val (.int p5), .val (.int (v0_2 p0 p1 p2 p3 p4 p5)), .val (.ref b1), .val (.ref b51), .val (.ref xta3_0_321)] [(.int p1)])) _
            refine XS.aload X321.here hx rfl (hb hby at_270) rfl rfl ?_
            show Steps p.tables e below (T321.setTop (mkF m 272 #[.val (.int p0), .val (.int p1), .val (.int p2), .val (.int p3), .val (.int p4), .val (.int p5), .val (.int (v0_2 p0 p1 p2 p3 p4 p5)), .val (.ref b1), .val (.ref b51), .val (.ref xta3_0_321)] [(.ref b1), (.int p1)])) _
            refine XT.iconstV X321.here hx rfl (1 : Int32) (hb hby at_272) (by decide) ?_
            show Steps p.tables e below (T321.setTop (mkF m 273 #[.val (.int p0), .val (.int p1), .val (.int p2), .val (.int p3), .val (.int p4), .val (.int p5), .val (.int (v0_2 p0 p1 p2 p3 p4 p5)), .val (.ref b1), .val (.ref b51), .val (.ref xta3_0_321)] [(.int (1 : Int32)), (.ref b1), (.int p1)])) _
            refine X321.iaload hx (j := (1 : Int32)) (v := (.int p1)) Ar333.1 (State.isArrayOf_alike hZ.alike Ar333.2.1) Ar333.2.2 hin336 (Has.at Ha333 hin336 rfl) (g := (mkF m 273 #[.val (.int p0), .val (.int p1), .val (.int p2), .val (.int p3), .val (.int p4), .val (.int p5), .val (.int (v0_2 p0 p1 p2 p3 p4 p5)), .val (.ref b1), .val (.ref b51), .val (.ref xta3_0_321)] [(.int (1 : Int32)), (.ref b1), (.int p1)])) rfl rfl (hb hby at_273) _ ?_
            show Steps p.tables e below (T321.setTop (mkF m 274 #[.val (.int p0), .val (.int p1), .val (.int p2), .val (.int p3), .val (.int p4), .val (.int p5), .val (.int (v0_2 p0 p1 p2 p3 p4 p5)), .val (.ref b1), .val (.ref b51), .val (.ref xta3_0_321)] [(.int p1), (.int p1)])) _
            refine XS.icmpYes X321.here hx rfl (pc0 := 274) (pc' := 279) rfl (hb hby at_274) rfl (XT.ii_eq_t (rfl : p1 = p1)) (by decide) (by decide) ?_
            show Steps p.tables e below (T321.setTop (mkF m 279 #[.val (.int p0), .val (.int p1), .val (.int p2), .val (.int p3), .val (.int p4), .val (.int p5), .val (.int (v0_2 p0 p1 p2 p3 p4 p5)), .val (.ref b1), .val (.ref b51), .val (.ref xta3_0_321)] [])) _
            refine XS.iload X321.here hx rfl (hb hby at_279) rfl ?_
            show Steps p.tables e below (T321.setTop (mkF m 281 #[.val (.int p0), .val (.int p1), .val (.int p2), .val (.int p3), .val (.int p4), .val (.int p5), .val (.int (v0_2 p0 p1 p2 p3 p4 p5)), .val (.ref b1), .val (.ref b51), .val (.ref xta3_0_321)] [(.int (v0_2 p0 p1 p2 p3 p4 p5))])) _
            refine XT.iconstV X321.here hx rfl (2 : Int32) (hb hby at_281) (by decide) ?_
            show Steps p.tables e below (T321.setTop (mkF m 282 #[.val (.int p0), .val (.int p1), .val (.int p2), .val (.int p3), .val (.int p4), .val (.int p5), .val (.int (v0_2 p0 p1 p2 p3 p4 p5)), .val (.ref b1), .val (.ref b51), .val (.ref xta3_0_321)] [(.int (2 : Int32)), (.int (v0_2 p0 p1 p2 p3 p4 p5))])) _
            refine XS.icmpNo X321.here hx rfl (hb hby at_282) rfl (XT.ii_le_f c83) ?_
            show Steps p.tables e below (T321.setTop (mkF m 285 #[.val (.int p0), .val (.int p1), .val (.int p2), .val (.int p3), .val (.int p4), .val (.int p5), .val (.int (v0_2 p0 p1 p2 p3 p4 p5)), .val (.ref b1), .val (.ref b51), .val (.ref xta3_0_321)] [])) _
            refine XS.aload X321.here hx rfl (hb hby at_285) rfl rfl ?_
            show Steps p.tables e below (T321.setTop (mkF m 287 #[.val (.int p0), .val (.int p1), .val (.int p2), .val (.int p3), .val (.int p4), .val (.int p5), .val (.int (v0_2 p0 p1 p2 p3 p4 p5)), .val (.ref b1), .val (.ref b51), .val (.ref xta3_0_321)] [(.ref xta3_0_321)])) _
            refine XT.iconstV X321.here hx rfl (2 : Int32) (hb hby at_287) (by decide) ?_
            show Steps p.tables e below (T321.setTop (mkF m 288 #[.val (.int p0), .val (.int p1), .val (.int p2), .val (.int p3), .val (.int p4), .val (.int p5), .val (.int (v0_2 p0 p1 p2 p3 p4 p5)), .val (.ref b1), .val (.ref b51), .val (.ref xta3_0_321)] [(.int (2 : Int32)), (.ref xta3_0_321)])) _
            refine X321.iaload hx (j := (2 : Int32)) (v := (.int p2)) Ar330.1 (State.isArrayOf_alike hZ.alike Ar330.2.1) Ar330.2.2 hin337 (Has.at Ha330 hin337 rfl) (g := (mkF m 288 #[.val (.int p0), .val (.int p1), .val (.int p2), .val (.int p3), .val (.int p4), .val (.int p5), .val (.int (v0_2 p0 p1 p2 p3 p4 p5)), .val (.ref b1), .val (.ref b51), .val (.ref xta3_0_321)] [(.int (2 : Int32)), (.ref xta3_0_321)])) rfl rfl (hb hby at_288) _ ?_
            show Steps p.tables e below (T321.setTop (mkF m 289 #[.val (.int p0), .val (.int p1), .val (.int p2), .val (.int p3), .val (.int p4), .val (.int p5), .val (.int (v0_2 p0 p1 p2 p3 p4 p5)), .val (.ref b1), .val (.ref b51), .val (.ref xta3_0_321)] [(.int p2)])) _
            refine XS.aload X321.here hx rfl (hb hby at_289) rfl rfl ?_
            show Steps p.tables e below (T321.setTop (mkF m 291 #[.val (.int p0), .val (.int p1), .val (.int p2), .val (.int p3), .val (.int p4), .val (.int p5), .val (.int (v0_2 p0 p1 p2 p3 p4 p5)), .val (.ref b1), .val (.ref b51), .val (.ref xta3_0_321)] [(.ref b1), (.int p2)])) _
            refine XT.iconstV X321.here hx rfl (2 : Int32) (hb hby at_291) (by decide) ?_
            show Steps p.tables e below (T321.setTop (mkF m 292 #[.val (.int p0), .val (.int p1), .val (.int p2), .val (.int p3), .val (.int p4), .val (.int p5), .val (.int (v0_2 p0 p1 p2 p3 p4 p5)), .val (.ref b1), .val (.ref b51), .val (.ref xta3_0_321)] [(.int (2 : Int32)), (.ref b1), (.int p2)])) _
            refine X321.iaload hx (j := (2 : Int32)) (v := (.int p2)) Ar333.1 (State.isArrayOf_alike hZ.alike Ar333.2.1) Ar333.2.2 hin338 (Has.at Ha333 hin338 rfl) (g := (mkF m 292 #[.val (.int p0), .val (.int p1), .val (.int p2), .val (.int p3), .val (.int p4), .val (.int p5), .val (.int (v0_2 p0 p1 p2 p3 p4 p5)), .val (.ref b1), .val (.ref b51), .val (.ref xta3_0_321)] [(.int (2 : Int32)), (.ref b1), (.int p2)])) rfl rfl (hb hby at_292) _ ?_
            show Steps p.tables e below (T321.setTop (mkF m 293 #[.val (.int p0), .val (.int p1), .val (.int p2), .val (.int p3), .val (.int p4), .val (.int p5), .val (.int (v0_2 p0 p1 p2 p3 p4 p5)), .val (.ref b1), .val (.ref b51), .val (.ref xta3_0_321)] [(.int p2), (.int p2)])) _
            refine XS.icmpYes X321.here hx rfl (pc0 := 293) (pc' := 298) rfl (hb hby at_293) rfl (XT.ii_eq_t (rfl : p2 = p2)) (by decide) (by decide) ?_
            show Steps p.tables e below (T321.setTop (mkF m 298 #[.val (.int p0), .val (.int p1), .val (.int p2), .val (.int p3), .val (.int p4), .val (.int p5), .val (.int (v0_2 p0 p1 p2 p3 p4 p5)), .val (.ref b1), .val (.ref b51), .val (.ref xta3_0_321)] [])) _
            refine XS.iload X321.here hx rfl (hb hby at_298) rfl ?_
            show Steps p.tables e below (T321.setTop (mkF m 300 #[.val (.int p0), .val (.int p1), .val (.int p2), .val (.int p3), .val (.int p4), .val (.int p5), .val (.int (v0_2 p0 p1 p2 p3 p4 p5)), .val (.ref b1), .val (.ref b51), .val (.ref xta3_0_321)] [(.int (v0_2 p0 p1 p2 p3 p4 p5))])) _
            refine XT.iconstV X321.here hx rfl (3 : Int32) (hb hby at_300) (by decide) ?_
            show Steps p.tables e below (T321.setTop (mkF m 301 #[.val (.int p0), .val (.int p1), .val (.int p2), .val (.int p3), .val (.int p4), .val (.int p5), .val (.int (v0_2 p0 p1 p2 p3 p4 p5)), .val (.ref b1), .val (.ref b51), .val (.ref xta3_0_321)] [(.int (3 : Int32)), (.int (v0_2 p0 p1 p2 p3 p4 p5))])) _
            refine XS.icmpYes X321.here hx rfl (pc0 := 301) (pc' := 317) rfl (hb hby at_301) rfl (XT.ii_le_t c91) (by decide) (by decide) ?_
            show Steps p.tables e below (T321.setTop (mkF m 317 #[.val (.int p0), .val (.int p1), .val (.int p2), .val (.int p3), .val (.int p4), .val (.int p5), .val (.int (v0_2 p0 p1 p2 p3 p4 p5)), .val (.ref b1), .val (.ref b51), .val (.ref xta3_0_321)] [])) _
            refine XS.iload X321.here hx rfl (hb hby at_317) rfl ?_
            show Steps p.tables e below (T321.setTop (mkF m 319 #[.val (.int p0), .val (.int p1), .val (.int p2), .val (.int p3), .val (.int p4), .val (.int p5), .val (.int (v0_2 p0 p1 p2 p3 p4 p5)), .val (.ref b1), .val (.ref b51), .val (.ref xta3_0_321)] [(.int (v0_2 p0 p1 p2 p3 p4 p5))])) _
            refine XT.iconstV X321.here hx rfl (4 : Int32) (hb hby at_319) (by decide) ?_
            show Steps p.tables e below (T321.setTop (mkF m 320 #[.val (.int p0), .val (.int p1), .val (.int p2), .val (.int p3), .val (.int p4), .val (.int p5), .val (.int (v0_2 p0 p1 p2 p3 p4 p5)), .val (.ref b1), .val (.ref b51), .val (.ref xta3_0_321)] [(.int (4 : Int32)), (.int (v0_2 p0 p1 p2 p3 p4 p5))])) _
            refine XS.icmpYes X321.here hx rfl (pc0 := 320) (pc' := 336) rfl (hb hby at_320) rfl (XT.ii_le_t (own_mono c91 (by decide))) (by decide) (by decide) ?_
            show Steps p.tables e below (T321.setTop (mkF m 336 #[.val (.int p0), .val (.int p1), .val (.int p2), .val (.int p3), .val (.int p4), .val (.int p5), .val (.int (v0_2 p0 p1 p2 p3 p4 p5)), .val (.ref b1), .val (.ref b51), .val (.ref xta3_0_321)] [])) _
            refine XS.iload X321.here hx rfl (hb hby at_336) rfl ?_
            show Steps p.tables e below (T321.setTop (mkF m 338 #[.val (.int p0), .val (.int p1), .val (.int p2), .val (.int p3), .val (.int p4), .val (.int p5), .val (.int (v0_2 p0 p1 p2 p3 p4 p5)), .val (.ref b1), .val (.ref b51), .val (.ref xta3_0_321)] [(.int (v0_2 p0 p1 p2 p3 p4 p5))])) _
            refine XT.iconstV X321.here hx rfl (5 : Int32) (hb hby at_338) (by decide) ?_
            show Steps p.tables e below (T321.setTop (mkF m 339 #[.val (.int p0), .val (.int p1), .val (.int p2), .val (.int p3), .val (.int p4), .val (.int p5), .val (.int (v0_2 p0 p1 p2 p3 p4 p5)), .val (.ref b1), .val (.ref b51), .val (.ref xta3_0_321)] [(.int (5 : Int32)), (.int (v0_2 p0 p1 p2 p3 p4 p5))])) _
            refine XS.icmpYes X321.here hx rfl (pc0 := 339) (pc' := 355) rfl (hb hby at_339) rfl (XT.ii_le_t (own_mono c91 (by decide))) (by decide) (by decide) ?_
            show Steps p.tables e below (T321.setTop (mkF m 355 #[.val (.int p0), .val (.int p1), .val (.int p2), .val (.int p3), .val (.int p4), .val (.int p5), .val (.int (v0_2 p0 p1 p2 p3 p4 p5)), .val (.ref b1), .val (.ref b51), .val (.ref xta3_0_321)] [])) _
            refine XS.iload X321.here hx rfl (hb hby at_355) rfl ?_
            show Steps p.tables e below (T321.setTop (mkF m 357 #[.val (.int p0), .val (.int p1), .val (.int p2), .val (.int p3), .val (.int p4), .val (.int p5), .val (.int (v0_2 p0 p1 p2 p3 p4 p5)), .val (.ref b1), .val (.ref b51), .val (.ref xta3_0_321)] [(.int (v0_2 p0 p1 p2 p3 p4 p5))])) _
            refine XT.bipushV X321.here hx rfl (6 : Int32) (hb hby at_357) (by decide) ?_
            show Steps p.tables e below (T321.setTop (mkF m 359 #[.val (.int p0), .val (.int p1), .val (.int p2), .val (.int p3), .val (.int p4), .val (.int p5), .val (.int (v0_2 p0 p1 p2 p3 p4 p5)), .val (.ref b1), .val (.ref b51), .val (.ref xta3_0_321)] [(.int (6 : Int32)), (.int (v0_2 p0 p1 p2 p3 p4 p5))])) _
            refine XS.icmpYes X321.here hx rfl (pc0 := 359) (pc' := 377) rfl (hb hby at_359) rfl (XT.ii_le_t (own_mono c91 (by decide))) (by decide) (by decide) ?_
            show Steps p.tables e below (T321.setTop (mkF m 377 #[.val (.int p0), .val (.int p1), .val (.int p2), .val (.int p3), .val (.int p4), .val (.int p5), .val (.int (v0_2 p0 p1 p2 p3 p4 p5)), .val (.ref b1), .val (.ref b51), .val (.ref xta3_0_321)] [])) _
            refine XS.iload X321.here hx rfl (hb hby at_377) rfl ?_
            show Steps p.tables e below (T321.setTop (mkF m 379 #[.val (.int p0), .val (.int p1), .val (.int p2), .val (.int p3), .val (.int p4), .val (.int p5), .val (.int (v0_2 p0 p1 p2 p3 p4 p5)), .val (.ref b1), .val (.ref b51), .val (.ref xta3_0_321)] [(.int (v0_2 p0 p1 p2 p3 p4 p5))])) _
            refine XT.bipushV X321.here hx rfl (7 : Int32) (hb hby at_379) (by decide) ?_
            show Steps p.tables e below (T321.setTop (mkF m 381 #[.val (.int p0), .val (.int p1), .val (.int p2), .val (.int p3), .val (.int p4), .val (.int p5), .val (.int (v0_2 p0 p1 p2 p3 p4 p5)), .val (.ref b1), .val (.ref b51), .val (.ref xta3_0_321)] [(.int (7 : Int32)), (.int (v0_2 p0 p1 p2 p3 p4 p5))])) _
            refine XS.icmpYes X321.here hx rfl (pc0 := 381) (pc' := 399) rfl (hb hby at_381) rfl (XT.ii_le_t (own_mono c91 (by decide))) (by decide) (by decide) ?_
            show Steps p.tables e below (T321.setTop (mkF m 399 #[.val (.int p0), .val (.int p1), .val (.int p2), .val (.int p3), .val (.int p4), .val (.int p5), .val (.int (v0_2 p0 p1 p2 p3 p4 p5)), .val (.ref b1), .val (.ref b51), .val (.ref xta3_0_321)] [])) _
            refine XS.iload X321.here hx rfl (hb hby at_399) rfl ?_
            show Steps p.tables e below (T321.setTop (mkF m 401 #[.val (.int p0), .val (.int p1), .val (.int p2), .val (.int p3), .val (.int p4), .val (.int p5), .val (.int (v0_2 p0 p1 p2 p3 p4 p5)), .val (.ref b1), .val (.ref b51), .val (.ref xta3_0_321)] [(.int (v0_2 p0 p1 p2 p3 p4 p5))])) _
            refine XT.bipushV X321.here hx rfl (8 : Int32) (hb hby at_401) (by decide) ?_
            show Steps p.tables e below (T321.setTop (mkF m 403 #[.val (.int p0), .val (.int p1), .val (.int p2), .val (.int p3), .val (.int p4), .val (.int p5), .val (.int (v0_2 p0 p1 p2 p3 p4 p5)), .val (.ref b1), .val (.ref b51), .val (.ref xta3_0_321)] [(.int (8 : Int32)), (.int (v0_2 p0 p1 p2 p3 p4 p5))])) _
            refine XS.icmpYes X321.here hx rfl (pc0 := 403) (pc' := 421) rfl (hb hby at_403) rfl (XT.ii_le_t (own_mono c91 (by decide))) (by decide) (by decide) ?_
            show Steps p.tables e below (T321.setTop (mkF m 421 #[.val (.int p0), .val (.int p1), .val (.int p2), .val (.int p3), .val (.int p4), .val (.int p5), .val (.int (v0_2 p0 p1 p2 p3 p4 p5)), .val (.ref b1), .val (.ref b51), .val (.ref xta3_0_321)] [])) _
            refine XT.iconstV X321.here hx rfl (1 : Int32) (hb hby at_421) (by decide) ?_
            show Steps p.tables e below (T321.setTop (mkF m 422 #[.val (.int p0), .val (.int p1), .val (.int p2), .val (.int p3), .val (.int p4), .val (.int p5), .val (.int (v0_2 p0 p1 p2 p3 p4 p5)), .val (.ref b1), .val (.ref b51), .val (.ref xta3_0_321)] [(.int (1 : Int32))])) _
            exact retN X321 hx (t := .boolean) Bd.returns (by simp) (hb hby at_422) hr
          · skip
            show Q0 Z p0 p1 p2 p3 p4 p5 h0 n0 _ T321.heap _
            exact ⟨rfl, N321⟩
      · skip
        obtain ⟨cq339, kq339, q339a, q339b, q339c⟩ := isOf hZ rfl po79_0
        obtain ⟨vr339, _, ⟨T339, L339, k339, n339⟩, -, X339, ⟨Lc339, hQ339, l339, y339, z339⟩, st339⟩ := X79.virtualBack hx (y := (⟨"com/example/vellum_index/vellumindex/IntList", "size", "()I"⟩ : MethodName)) (z := (⟨"com/example/vellum_index/vellumindex/IntList", "size", "()I"⟩ : MethodName)) hown (mvT hZ (hw _ (List.mem_of_getElem? (i := 20) rfl))) (mvT hZ (hw _ (List.mem_of_getElem? (i := 21) rfl))) (notFace_of_selects (args := #[]) (mvT hZ (hw _ (List.mem_of_getElem? (i := 23) rfl)))) (mvT hZ (hw _ (List.mem_of_getElem? (i := 23) rfl))) (mvT hZ (hw _ (List.mem_of_getElem? (i := 22) rfl))) (by decide) (backOf (W := 0) (rm4 l Z a0 hw [] b51 (2 : Int32) T79.heap n0 z80 po79_1) hZ (hw _ (List.mem_of_getElem? (i := 24) rfl)) (hw _ (List.mem_of_getElem? (i := 4) rfl)) (by decide) (by decide)) q339a q339c (g := (mkF m 215 #[.val (.int p0), .val (.int p1), .val (.int p2), .val (.int p3), .val (.int p4), .val (.int p5), .val (.int (v0_2 p0 p1 p2 p3 p4 p5)), .val (.ref b1), .val (.ref b51), .unset] [(.ref b51)])) rfl (by rw [hml]; rfl) (Steps.refl _) (argsL := []) (rest := []) (lenOf pd___I rfl) rfl (by show 2 * 0 + _ ≤ _; exact Nat.le_of_eq rfl) (hb hby at_215) (fun _ _ => ⟨rfl, rfl, (by decide : 3 + 0 ≤ _), (by decide : 15 + 0 ≤ _)⟩)
        dsimp only [Pt.U, Pt.locs, Pt.cells, Pt.slots] at X339 l339 y339 z339 st339 hQ339
        subst l339 y339 z339
        have N339q := (show _ ∧ _ ∧ _ from hQ339).1
        have hv339 := (show _ ∧ _ ∧ _ from hQ339).2.1
        have e339 := (show _ ∧ _ ∧ _ from hQ339).2.2
        clear hQ339
        subst hv339
        have N339 := Fr.app N79 N339q
        obtain ⟨cq340, kq340, q340a, q340b, q340c⟩ := isOf hZ e339 po79_0
        obtain ⟨vr340, _, ⟨T340, L340, k340, n340⟩, -, X340, ⟨Lc340, hQ340, l340, y340, z340⟩, st340⟩ := X339.virtualBack hx (y := (⟨"com/example/vellum_index/vellumindex/IntList", "toArray", "()[I"⟩ : MethodName)) (z := (⟨"com/example/vellum_index/vellumindex/IntList", "toArray", "()[I"⟩ : MethodName)) hown (mvT hZ (hw _ (List.mem_of_getElem? (i := 25) rfl))) (mvT hZ (hw _ (List.mem_of_getElem? (i := 26) rfl))) (notFace_of_selects (args := #[]) (mvT hZ (hw _ (List.mem_of_getElem? (i := 28) rfl)))) (mvT hZ (hw _ (List.mem_of_getElem? (i := 28) rfl))) (mvT hZ (hw _ (List.mem_of_getElem? (i := 27) rfl))) (by decide) (backOf (W := 0) (rmta2 l Z a0 hw [] b51 x1_0_58 p0 p1 (0 : Int32) (0 : Int32) k1_1_58 T79.heap n0 z80 po79_0 po79_1 po79_2 po79_3 po79_4) hZ (hw _ (List.mem_of_getElem? (i := 29) rfl)) (hw _ (List.mem_of_getElem? (i := 4) rfl)) (by decide) (by decide)) q340a q340c (g := (mkF m 227 #[.val (.int p0), .val (.int p1), .val (.int p2), .val (.int p3), .val (.int p4), .val (.int p5), .val (.int (v0_2 p0 p1 p2 p3 p4 p5)), .val (.ref b1), .val (.ref b51), .unset] [(.ref b51)])) rfl (by rw [hml]; rfl) (Steps.refl _) (argsL := []) (rest := []) (lenOf pd____I rfl) rfl (by show 2 * 0 + _ ≤ _; exact Nat.le_of_eq rfl) (hb hby at_227) (fun _ _ => ⟨rfl, e339, (by decide : 3 + 1 ≤ _), (by decide : 15 + 2 ≤ _)⟩)
        dsimp only [Pt.U, Pt.locs, Pt.cells, Pt.slots] at X340 l340 y340 z340 st340 hQ340
        subst l340 y340 z340
        have N340q := (show _ ∧ _ from hQ340).1
        have hq340 := (show _ ∧ _ from hQ340).2
        clear hQ340
        obtain ⟨xta2_0_340, kta2_1_340, hq340x⟩ := hq340
        have hv340 := hq340x.1
        have szxta2_0_340 := hq340x.2.1
        have K340 := hq340x.2.2.1
        have po340_0 := hq340x.2.2.2.1
        have po340_1 := hq340x.2.2.2.2
        clear hq340x
        subst hv340
        have k341 := (((k59.keep K58).keep K71).keep K79)
        have ne342 : b1 ≠ xta2_0_340 := Nat.ne_of_lt (Nat.lt_of_lt_of_le k341.lt szxta2_0_340)
        have ne343 : b51 ≠ xta2_0_340 := Nat.ne_of_lt (Nat.lt_of_lt_of_le po79_0.lt szxta2_0_340)
        have ne344 : x1_0_58 ≠ xta2_0_340 := Nat.ne_of_lt (Nat.lt_of_lt_of_le po79_3.lt szxta2_0_340)
        have g345 : n0 ≤ xta2_0_340 := Nat.le_trans z80 szxta2_0_340
        have sz346 : h0.size ≤ xta2_0_340 := Nat.le_trans hs81 szxta2_0_340
        have z347 : n0 ≤ T340.heap.size := Nat.le_trans z80 K340.1
        have hs348 : h0.size ≤ T340.heap.size := Nat.le_trans hs81 K340.1
        have N340 := Fr.app N339 N340q
        obtain ⟨cl349, Ar349, qc349, S349, M349, Ha349, G349⟩ := id po340_1
        have hin350 : ¬ ((0 : Int32) < 0 ∨ cl349.slots.size ≤ ((0 : Int32)).toNatClampNeg) := inb_of S349 ⟨by decide, by decide⟩
        have k351 := ((k76.keep K79 (ninS ne53 (ninS ne60 nin0))).keep K340 nin0)
        obtain ⟨cl352, Ar352, qc352, S352, M352, Ha352, G352⟩ := id k351
        have hin353 : ¬ ((0 : Int32) < 0 ∨ cl352.slots.size ≤ ((0 : Int32)).toNatClampNeg) := inb_of S352 ⟨by decide, by decide⟩
        have hin354 : ¬ ((1 : Int32) < 0 ∨ cl349.slots.size ≤ ((1 : Int32)).toNatClampNeg) := inb_of S349 ⟨by decide, by decide⟩
        have hin355 : ¬ ((1 : Int32) < 0 ∨ cl352.slots.size ≤ ((1 : Int32)).toNatClampNeg) := inb_of S352 ⟨by decide, by decide⟩
        obtain ⟨fs, hr, hrun, hended, hW, hsame⟩ := X340.leave (v := some (.int (1 : Int32))) (fun h => by rw [Bd.returns] at h; cases h) hlk
        refine ⟨_, _, pre82 _ ?_, hrun, hended, _, _, rfl, ?_, ⟨_, rfl⟩, hW, hsame.mono (by decide) (by decide)⟩
        · skip
          show Steps p.tables e below (T79.setTop (mkF m 105 #[.val (.int p0), .val (.int p1), .val (.int p2), .val (.int p3), .val (.int p4), .val (.int p5), .val (.int (v0_2 p0 p1 p2 p3 p4 p5)), .val (.ref b1), .val (.ref b51), .unset] [(.int (2 : Int32)), (.int (v0_2 p0 p1 p2 p3 p4 p5))])) _
          refine XS.icmpYes X79.here hx rfl (pc0 := 105) (pc' := 117) rfl (hb hby at_105) rfl (XT.ii_le_t c83) (by decide) (by decide) ?_
          show Steps p.tables e below (T79.setTop (mkF m 117 #[.val (.int p0), .val (.int p1), .val (.int p2), .val (.int p3), .val (.int p4), .val (.int p5), .val (.int (v0_2 p0 p1 p2 p3 p4 p5)), .val (.ref b1), .val (.ref b51), .unset] [])) _
          refine XS.iload X79.here hx rfl (hb hby at_117) rfl ?_
          show Steps p.tables e below (T79.setTop (mkF m 119 #[.val (.int p0), .val (.int p1), .val (.int p2), .val (.int p3), .val (.int p4), .val (.int p5), .val (.int (v0_2 p0 p1 p2 p3 p4 p5)), .val (.ref b1), .val (.ref b51), .unset] [(.int (v0_2 p0 p1 p2 p3 p4 p5))])) _
          refine XT.iconstV X79.here hx rfl (3 : Int32) (hb hby at_119) (by decide) ?_
          show Steps p.tables e below (T79.setTop (mkF m 120 #[.val (.int p0), .val (.int p1), .val (.int p2), .val (.int p3), .val (.int p4), .val (.int p5), .val (.int (v0_2 p0 p1 p2 p3 p4 p5)), .val (.ref b1), .val (.ref b51), .unset] [(.int (3 : Int32)), (.int (v0_2 p0 p1 p2 p3 p4 p5))])) _
          refine XS.icmpYes X79.here hx rfl (pc0 := 120) (pc' := 132) rfl (hb hby at_120) rfl (XT.ii_le_t (own_mono c83 (by decide))) (by decide) (by decide) ?_
          show Steps p.tables e below (T79.setTop (mkF m 132 #[.val (.int p0), .val (.int p1), .val (.int p2), .val (.int p3), .val (.int p4), .val (.int p5), .val (.int (v0_2 p0 p1 p2 p3 p4 p5)), .val (.ref b1), .val (.ref b51), .unset] [])) _
          refine XS.iload X79.here hx rfl (hb hby at_132) rfl ?_
          show Steps p.tables e below (T79.setTop (mkF m 134 #[.val (.int p0), .val (.int p1), .val (.int p2), .val (.int p3), .val (.int p4), .val (.int p5), .val (.int (v0_2 p0 p1 p2 p3 p4 p5)), .val (.ref b1), .val (.ref b51), .unset] [(.int (v0_2 p0 p1 p2 p3 p4 p5))])) _
          refine XT.iconstV X79.here hx rfl (4 : Int32) (hb hby at_134) (by decide) ?_
          show Steps p.tables e below (T79.setTop (mkF m 135 #[.val (.int p0), .val (.int p1), .val (.int p2), .val (.int p3), .val (.int p4), .val (.int p5), .val (.int (v0_2 p0 p1 p2 p3 p4 p5)), .val (.ref b1), .val (.ref b51), .unset] [(.int (4 : Int32)), (.int (v0_2 p0 p1 p2 p3 p4 p5))])) _
          refine XS.icmpYes X79.here hx rfl (pc0 := 135) (pc' := 147) rfl (hb hby at_135) rfl (XT.ii_le_t (own_mono c83 (by decide))) (by decide) (by decide) ?_
          show Steps p.tables e below (T79.setTop (mkF m 147 #[.val (.int p0), .val (.int p1), .val (.int p2), .val (.int p3), .val (.int p4), .val (.int p5), .val (.int (v0_2 p0 p1 p2 p3 p4 p5)), .val (.ref b1), .val (.ref b51), .unset] [])) _
          refine XS.iload X79.here hx rfl (hb hby at_147) rfl ?_
          show Steps p.tables e below (T79.setTop (mkF m 149 #[.val (.int p0), .val (.int p1), .val (.int p2), .val (.int p3), .val (.int p4), .val (.int p5), .val (.int (v0_2 p0 p1 p2 p3 p4 p5)), .val (.ref b1), .val (.ref b51), .unset] [(.int (v0_2 p0 p1 p2 p3 p4 p5))])) _
          refine XT.iconstV X79.here hx rfl (5 : Int32) (hb hby at_149) (by decide) ?_
          show Steps p.tables e below (T79.setTop (mkF m 150 #[.val (.int p0), .val (.int p1), .val (.int p2), .val (.int p3), .val (.int p4), .val (.int p5), .val (.int (v0_2 p0 p1 p2 p3 p4 p5)), .val (.ref b1), .val (.ref b51), .unset] [(.int (5 : Int32)), (.int (v0_2 p0 p1 p2 p3 p4 p5))])) _
          refine XS.icmpYes X79.here hx rfl (pc0 := 150) (pc' := 162) rfl (hb hby at_150) rfl (XT.ii_le_t (own_mono c83 (by decide))) (by decide) (by decide) ?_
          show Steps p.tables e below (T79.setTop (mkF m 162 #[.val (.int p0), .val (.int p1), .val (.int p2), .val (.int p3), .val (.int p4), .val (.int p5), .val (.int (v0_2 p0 p1 p2 p3 p4 p5)), .val (.ref b1), .val (.ref b51), .unset] [])) _
          refine XS.iload X79.here hx rfl (hb hby at_162) rfl ?_
          show Steps p.tables e below (T79.setTop (mkF m 164 #[.val (.int p0), .val (.int p1), .val (.int p2), .val (.int p3), .val (.int p4), .val (.int p5), .val (.int (v0_2 p0 p1 p2 p3 p4 p5)), .val (.ref b1), .val (.ref b51), .unset] [(.int (v0_2 p0 p1 p2 p3 p4 p5))])) _
          refine XT.bipushV X79.here hx rfl (6 : Int32) (hb hby at_164) (by decide) ?_
          show Steps p.tables e below (T79.setTop (mkF m 166 #[.val (.int p0), .val (.int p1), .val (.int p2), .val (.int p3), .val (.int p4), .val (.int p5), .val (.int (v0_2 p0 p1 p2 p3 p4 p5)), .val (.ref b1), .val (.ref b51), .unset] [(.int (6 : Int32)), (.int (v0_2 p0 p1 p2 p3 p4 p5))])) _
          refine XS.icmpYes X79.here hx rfl (pc0 := 166) (pc' := 179) rfl (hb hby at_166) rfl (XT.ii_le_t (own_mono c83 (by decide))) (by decide) (by decide) ?_
          show Steps p.tables e below (T79.setTop (mkF m 179 #[.val (.int p0), .val (.int p1), .val (.int p2), .val (.int p3), .val (.int p4), .val (.int p5), .val (.int (v0_2 p0 p1 p2 p3 p4 p5)), .val (.ref b1), .val (.ref b51), .unset] [])) _
          refine XS.iload X79.here hx rfl (hb hby at_179) rfl ?_
          show Steps p.tables e below (T79.setTop (mkF m 181 #[.val (.int p0), .val (.int p1), .val (.int p2), .val (.int p3), .val (.int p4), .val (.int p5), .val (.int (v0_2 p0 p1 p2 p3 p4 p5)), .val (.ref b1), .val (.ref b51), .unset] [(.int (v0_2 p0 p1 p2 p3 p4 p5))])) _
          refine XT.bipushV X79.here hx rfl (7 : Int32) (hb hby at_181) (by decide) ?_
          show Steps p.tables e below (T79.setTop (mkF m 183 #[.val (.int p0), .val (.int p1), .val (.int p2), .val (.int p3), .val (.int p4), .val (.int p5), .val (.int (v0_2 p0 p1 p2 p3 p4 p5)), .val (.ref b1), .val (.ref b51), .unset] [(.int (7 : Int32)), (.int (v0_2 p0 p1 p2 p3 p4 p5))])) _
          refine XS.icmpYes X79.here hx rfl (pc0 := 183) (pc' := 196) rfl (hb hby at_183) rfl (XT.ii_le_t (own_mono c83 (by decide))) (by decide) (by decide) ?_
          show Steps p.tables e below (T79.setTop (mkF m 196 #[.val (.int p0), .val (.int p1), .val (.int p2), .val (.int p3), .val (.int p4), .val (.int p5), .val (.int (v0_2 p0 p1 p2 p3 p4 p5)), .val (.ref b1), .val (.ref b51), .unset] [])) _
          refine XS.iload X79.here hx rfl (hb hby at_196) rfl ?_
          show Steps p.tables e below (T79.setTop (mkF m 198 #[.val (.int p0), .val (.int p1), .val (.int p2), .val (.int p3), .val (.int p4), .val (.int p5), .val (.int (v0_2 p0 p1 p2 p3 p4 p5)), .val (.ref b1), .val (.ref b51), .unset] [(.int (v0_2 p0 p1 p2 p3 p4 p5))])) _
          refine XT.bipushV X79.here hx rfl (8 : Int32) (hb hby at_198) (by decide) ?_
          show Steps p.tables e below (T79.setTop (mkF m 200 #[.val (.int p0), .val (.int p1), .val (.int p2), .val (.int p3), .val (.int p4), .val (.int p5), .val (.int (v0_2 p0 p1 p2 p3 p4 p5)), .val (.ref b1), .val (.ref b51), .unset] [(.int (8 : Int32)), (.int (v0_2 p0 p1 p2 p3 p4 p5))])) _
          refine XS.icmpYes X79.here hx rfl (pc0 := 200) (pc' := 213) rfl (hb hby at_200) rfl (XT.ii_le_t (own_mono c83 (by decide))) (by decide) (by decide) ?_
          show Steps p.tables e below (T79.setTop (mkF m 213 #[.val (.int p0), .val (.int p1), .val (.int p2), .val (.int p3), .val (.int p4), .val (.int p5), .val (.int (v0_2 p0 p1 p2 p3 p4 p5)), .val (.ref b1), .val (.ref b51), .unset] [])) _
          refine XS.aload X79.here hx rfl (hb hby at_213) rfl rfl ?_
          show Steps p.tables e below (T79.setTop (mkF m 215 #[.val (.int p0), .val (.int p1), .val (.int p2), .val (.int p3), .val (.int p4), .val (.int p5), .val (.int (v0_2 p0 p1 p2 p3 p4 p5)), .val (.ref b1), .val (.ref b51), .unset] [(.ref b51)])) _
          refine st339.trans ?_
          show Steps p.tables e below (T339.setTop (mkF m 218 #[.val (.int p0), .val (.int p1), .val (.int p2), .val (.int p3), .val (.int p4), .val (.int p5), .val (.int (v0_2 p0 p1 p2 p3 p4 p5)), .val (.ref b1), .val (.ref b51), .unset] [(.int (f4 (2 : Int32)))])) _
          refine XS.iload X339.here hx rfl (hb hby at_218) rfl ?_
          show Steps p.tables e below (T339.setTop (mkF m 220 #[.val (.int p0), .val (.int p1), .val (.int p2), .val (.int p3), .val (.int p4), .val (.int p5), .val (.int (v0_2 p0 p1 p2 p3 p4 p5)), .val (.ref b1), .val (.ref b51), .unset] [(.int (v0_2 p0 p1 p2 p3 p4 p5)), (.int (f4 (2 : Int32)))])) _
          refine XS.icmpYes X339.here hx rfl (pc0 := 220) (pc' := 225) rfl (hb hby at_220) rfl (XT.ii_eq_t ((own_eqn c75 c83 (by decide))).symm) (by decide) (by decide) ?_
          show Steps p.tables e below (T339.setTop (mkF m 225 #[.val (.int p0), .val (.int p1), .val (.int p2), .val (.int p3), .val (.int p4), .val (.int p5), .val (.int (v0_2 p0 p1 p2 p3 p4 p5)), .val (.ref b1), .val (.ref b51), .unset] [])) _
          refine XS.aload X339.here hx rfl (hb hby at_225) rfl rfl ?_
          show Steps p.tables e below (T339.setTop (mkF m 227 #[.val (.int p0), .val (.int p1), .val (.int p2), .val (.int p3), .val (.int p4), .val (.int p5), .val (.int (v0_2 p0 p1 p2 p3 p4 p5)), .val (.ref b1), .val (.ref b51), .unset] [(.ref b51)])) _
          refine st340.trans ?_
          show Steps p.tables e below (T340.setTop (mkF m 230 #[.val (.int p0), .val (.int p1), .val (.int p2), .val (.int p3), .val (.int p4), .val (.int p5), .val (.int (v0_2 p0 p1 p2 p3 p4 p5)), .val (.ref b1), .val (.ref b51), .unset] [(.ref xta2_0_340)])) _
          refine XS.astore X340.here hx rfl (hb hby at_230) rfl rfl (l' := #[.val (.int p0), .val (.int p1), .val (.int p2), .val (.int p3), .val (.int p4), .val (.int p5), .val (.int (v0_2 p0 p1 p2 p3 p4 p5)), .val (.ref b1), .val (.ref b51), .val (.ref xta2_0_340)]) rfl ?_
          show Steps p.tables e below (T340.setTop (mkF m 232 #[.val (.int p0), .val (.int p1), .val (.int p2), .val (.int p3), .val (.int p4), .val (.int p5), .val (.int (v0_2 p0 p1 p2 p3 p4 p5)), .val (.ref b1), .val (.ref b51), .val (.ref xta2_0_340)] [])) _
          refine XS.aload X340.here hx rfl (hb hby at_232) rfl rfl ?_
          show Steps p.tables e below (T340.setTop (mkF m 234 #[.val (.int p0), .val (.int p1), .val (.int p2), .val (.int p3), .val (.int p4), .val (.int p5), .val (.int (v0_2 p0 p1 p2 p3 p4 p5)), .val (.ref b1), .val (.ref b51), .val (.ref xta2_0_340)] [(.ref xta2_0_340)])) _
          refine X340.arraylength hx Ar349.1 (State.isArrayOf_alike hZ.alike Ar349.2.1) (g := (mkF m 234 #[.val (.int p0), .val (.int p1), .val (.int p2), .val (.int p3), .val (.int p4), .val (.int p5), .val (.int (v0_2 p0 p1 p2 p3 p4 p5)), .val (.ref b1), .val (.ref b51), .val (.ref xta2_0_340)] [(.ref xta2_0_340)])) rfl rfl (hb hby at_234) _ ?_
          rw [len_of S349 M349]
          show Steps p.tables e below (T340.setTop (mkF m 235 #[.val (.int p0), .val (.int p1), .val (.int p2), .val (.int p3), .val (.int p4), .val (.int p5), .val (.int (v0_2 p0 p1 p2 p3 p4 p5)), .val (.ref b1), .val (.ref b51), .val (.ref xta2_0_340)] [(.int (2 : Int32))])) _
          refine XS.iload X340.here hx rfl (hb hby at_235) rfl ?_
          show Steps p.tables e below (T340.setTop (mkF m 237 #[.val (.int p0), .val (.int p1), .val (.int p2), .val (.int p3), .val (.int p4), .val (.int p5), .val (.int (v0_2 p0 p1 p2 p3 p4 p5)), .val (.ref b1), .val (.ref b51), .val (.ref xta2_0_340)] [(.int (v0_2 p0 p1 p2 p3 p4 p5)), (.int (2 : Int32))])) _
          refine XS.icmpYes X340.here hx rfl (pc0 := 237) (pc' := 242) rfl (hb hby at_237) rfl (XT.ii_eq_t ((own_eqn c75 c83 (by decide))).symm) (by decide) (by decide) ?_
          show Steps p.tables e below (T340.setTop (mkF m 242 #[.val (.int p0), .val (.int p1), .val (.int p2), .val (.int p3), .val (.int p4), .val (.int p5), .val (.int (v0_2 p0 p1 p2 p3 p4 p5)), .val (.ref b1), .val (.ref b51), .val (.ref xta2_0_340)] [])) _
          refine XS.iload X340.here hx rfl (hb hby at_242) rfl ?_
          show Steps p.tables e below (T340.setTop (mkF m 244 #[.val (.int p0), .val (.int p1), .val (.int p2), .val (.int p3), .val (.int p4), .val (.int p5), .val (.int (v0_2 p0 p1 p2 p3 p4 p5)), .val (.ref b1), .val (.ref b51), .val (.ref xta2_0_340)] [(.int (v0_2 p0 p1 p2 p3 p4 p5))])) _
          refine XS.ifNo X340.here hx rfl (hb hby at_244) rfl (XT.i0_le_f c67) ?_
          show Steps p.tables e below (T340.setTop (mkF m 247 #[.val (.int p0), .val (.int p1), .val (.int p2), .val (.int p3), .val (.int p4), .val (.int p5), .val (.int (v0_2 p0 p1 p2 p3 p4 p5)), .val (.ref b1), .val (.ref b51), .val (.ref xta2_0_340)] [])) _
          refine XS.aload X340.here hx rfl (hb hby at_247) rfl rfl ?_
          show Steps p.tables e below (T340.setTop (mkF m 249 #[.val (.int p0), .val (.int p1), .val (.int p2), .val (.int p3), .val (.int p4), .val (.int p5), .val (.int (v0_2 p0 p1 p2 p3 p4 p5)), .val (.ref b1), .val (.ref b51), .val (.ref xta2_0_340)] [(.ref xta2_0_340)])) _
          refine XT.iconstV X340.here hx rfl (0 : Int32) (hb hby at_249) (by decide) ?_
          show Steps p.tables e below (T340.setTop (mkF m 250 #[.val (.int p0), .val (.int p1), .val (.int p2), .val (.int p3), .val (.int p4), .val (.int p5), .val (.int (v0_2 p0 p1 p2 p3 p4 p5)), .val (.ref b1), .val (.ref b51), .val (.ref xta2_0_340)] [(.int (0 : Int32)), (.ref xta2_0_340)])) _
          refine X340.iaload hx (j := (0 : Int32)) (v := (.int p0)) Ar349.1 (State.isArrayOf_alike hZ.alike Ar349.2.1) Ar349.2.2 hin350 (Has.at Ha349 hin350 rfl) (g := (mkF m 250 #[.val (.int p0), .val (.int p1), .val (.int p2), .val (.int p3), .val (.int p4), .val (.int p5), .val (.int (v0_2 p0 p1 p2 p3 p4 p5)), .val (.ref b1), .val (.ref b51), .val (.ref xta2_0_340)] [(.int (0 : Int32)), (.ref xta2_0_340)])) rfl rfl (hb hby at_250) _ ?_
          show Steps p.tables e below (T340.setTop (mkF m 251 #[.val (.int p0), .val (.int p1), .val (.int p2), .val (.int p3), .val (.int p4), .val (.int p5), .val (.int (v0_2 p0 p1 p2 p3 p4 p5)), .val (.ref b1), .val (.ref b51), .val (.ref xta2_0_340)] [(.int p0)])) _
          refine XS.aload X340.here hx rfl (hb hby at_251) rfl rfl ?_
          show Steps p.tables e below (T340.setTop (mkF m 253 #[.val (.int p0), .val (.int p1), .val (.int p2), .val (.int p3), .val (.int p4), .val (.int p5), .val (.int (v0_2 p0 p1 p2 p3 p4 p5)), .val (.ref b1), .val (.ref b51), .val (.ref xta2_0_340)] [(.ref b1), (.int p0)])) _
          refine XT.iconstV X340.here hx rfl (0 : Int32) (hb hby at_253) (by decide) ?_
          show Steps p.tables e below (T340.setTop (mkF m 254 #[.val (.int p0), .val (.int p1), .val (.int p2), .val (.int p3), .val (.int p4), .val (.int p5), .val (.int (v0_2 p0 p1 p2 p3 p4 p5)), .val (.ref b1), .val (.ref b51), .val (.ref xta2_0_340)] [(.int (0 : Int32)), (.ref b1), (.int p0)])) _
          refine X340.iaload hx (j := (0 : Int32)) (v := (.int p0)) Ar352.1 (State.isArrayOf_alike hZ.alike Ar352.2.1) Ar352.2.2 hin353 (Has.at Ha352 hin353 rfl) (g := (mkF m 254 #[.val (.int p0), .val (.int p1), .val (.int p2), .val (.int p3), .val (.int p4), .val (.int p5), .val (.int (v0_2 p0 p1 p2 p3 p4 p5)), .val (.ref b1), .val (.ref b51), .val (.ref xta2_0_340)] [(.int (0 : Int32)), (.ref b1), (.int p0)])) rfl rfl (hb hby at_254) _ ?_
          show Steps p.tables e below (T340.setTop (mkF m 255 #[.val (.int p0), .val (.int p1), .val (.int p2), .val (.int p3), .val (.int p4), .val (.int p5), .val (.int (v0_2 p0 p1 p2 p3 p4 p5)), .val (.ref b1), .val (.ref b51), .val (.ref xta2_0_340)] [(.int p0), (.int p0)])) _
          refine XS.icmpYes X340.here hx rfl (pc0 := 255) (pc' := 260) rfl (hb hby at_255) rfl (XT.ii_eq_t (rfl : p0 = p0)) (by decide) (by decide) ?_
          show Steps p.tables e below (T340.setTop (mkF m 260 #[.val (.int p0), .val (.int p1), .val (.int p2), .val (.int p3), .val (.int p4), .val (.int p5), .val (.int (v0_2 p0 p1 p2 p3 p4 p5)), .val (.ref b1), .val (.ref b51), .val (.ref xta2_0_340)] [])) _
          refine XS.iload X340.here hx rfl (hb hby at_260) rfl ?_
          show Steps p.tables e below (T340.setTop (mkF m 262 #[.val (.int p0), .val (.int p1), .val (.int p2), .val (.int p3), .val (.int p4), .val (.int p5), .val (.int (v0_2 p0 p1 p2 p3 p4 p5)), .val (.ref b1), .val (.ref b51), .val (.ref xta2_0_340)] [(.int (v0_2 p0 p1 p2 p3 p4 p5))])) _
          refine XT.iconstV X340.here hx rfl (1 : Int32) (hb hby at_262) (by decide) ?_
          show Steps p.tables e below (T340.setTop (mkF m 263 #[.val (.int p0), .val (.int p1), .val (.int p2), .val (.int p3), .val (.int p4), .val (.int p5), .val (.int (v0_2 p0 p1 p2 p3 p4 p5)), .val (.ref b1), .val (.ref b51), .val (.ref xta2_0_340)] [(.int (1 : Int32)), (.int (v0_2 p0 p1 p2 p3 p4 p5))])) _
          refine XS.icmpNo X340.here hx rfl (hb hby at_263) rfl (XT.ii_le_f c75) ?_
          show Steps p.tables e below (T340.setTop (mkF m 266 #[.val (.int p0), .val (.int p1), .val (.int p2), .val (.int p3), .val (.int p4), .val (.int p5), .val (.int (v0_2 p0 p1 p2 p3 p4 p5)), .val (.ref b1), .val (.ref b51), .val (.ref xta2_0_340)] [])) _
          refine XS.aload X340.here hx rfl (hb hby at_266) rfl rfl ?_
          show Steps p.tables e below (T340.setTop (mkF m 268 #[.val (.int p0), .val (.int p1), .val (.int p2), .val (.int p3), .val (.int p4), .val (.int p5), .val (.int (v0_2 p0 p1 p2 p3 p4 p5)), .val (.ref b1), .val (.ref b51), .val (.ref xta2_0_340)] [(.ref xta2_0_340)])) _
          refine XT.iconstV X340.here hx rfl (1 : Int32) (hb hby at_268) (by decide) ?_
          show Steps p.tables e below (T340.setTop (mkF m 269 #[.val (.int p0), .val (.int p1), .val (.int p2), .val (.int p3), .val (.int p4), .val (.int p5), .val (.int (v0_2 p0 p1 p2 p3 p4 p5)), .val (.ref b1), .val (.ref b51), .val (.ref xta2_0_340)] [(.int (1 : Int32)), (.ref xta2_0_340)])) _
          refine X340.iaload hx (j := (1 : Int32)) (v := (.int p1)) Ar349.1 (State.isArrayOf_alike hZ.alike Ar349.2.1) Ar349.2.2 hin354 (Has.at Ha349 hin354 rfl) (g := (mkF m 269 #[.val (.int p0), .val (.int p1), .val (.int p2), .val (.int p3), .val (.int p4), .val (.int p5), .val (.int (v0_2 p0 p1 p2 p3 p4 p5)), .val (.ref b1), .val (.ref b51), .val (.ref xta2_0_340)] [(.int (1 : Int32)), (.ref xta2_0_340)])) rfl rfl (hb hby at_269) _ ?_
          show Steps p.tables e below (T340.setTop (mkF m 270 #[.val (.int p0), .val (.int p1), .val (.int p2), .val (.int p3), .val (.int p4), .val (.int p5), .val (.int (v0_2 p0 p1 p2 p3 p4 p5)), .val (.ref b1), .val (.ref b51), .val (.ref xta2_0_340)] [(.int p1)])) _
          refine XS.aload X340.here hx rfl (hb hby at_270) rfl rfl ?_
          show Steps p.tables e below (T340.setTop (mkF m 272 #[.val (.int p0), .val (.int p1), .val (.int p2), .val (.int p3), .val (.int p4), .val (.int p5), .val (.int (v0_2 p0 p1 p2 p3 p4 p5)), .val (.ref b1), .val (.ref b51), .val (.ref xta2_0_340)] [(.ref b1), (.int p1)])) _
          refine XT.iconstV X340.here hx rfl (1 : Int32) (hb hby at_272) (by decide) ?_
          show Steps p.tables e below (T340.setTop (mkF m 273 #[.val (.int p0), .val (.int p1), .val (.int p2), .val (.int p3), .val (.int p4), .val (.int p5), .val (.int (v0_2 p0 p1 p2 p3 p4 p5)), .val (.ref b1), .val (.ref b51), .val (.ref xta2_0_340)] [(.int (1 : Int32)), (.ref b1), (.int p1)])) _
          refine X340.iaload hx (j := (1 : Int32)) (v := (.int p1)) Ar352.1 (State.isArrayOf_alike hZ.alike Ar352.2.1) Ar352.2.2 hin355 (Has.at Ha352 hin355 rfl) (g := (mkF m 273 #[.val (.int p0), .val (.int p1), .val (.int p2), .val (.int p3), .val (.int p4), .val (.int p5), .val (.int (v0_2 p0 p1 p2 p3 p4 p5)), .val (.ref b1), .val (.ref b51), .val (.ref xta2_0_340)] [(.int (1 : Int32)), (.ref b1), (.int p1)])) rfl rfl (hb hby at_273) _ ?_
          show Steps p.tables e below (T340.setTop (mkF m 274 #[.val (.int p0), .val (.int p1), .val (.int p2), .val (.int p3), .val (.int p4), .val (.int p5), .val (.int (v0_2 p0 p1 p2 p3 p4 p5)), .val (.ref b1), .val (.ref b51), .val (.ref xta2_0_340)] [(.int p1), (.int p1)])) _
          refine XS.icmpYes X340.here hx rfl (pc0 := 274) (pc' := 279) rfl (hb hby at_274) rfl (XT.ii_eq_t (rfl : p1 = p1)) (by decide) (by decide) ?_
          show Steps p.tables e below (T340.setTop (mkF m 279 #[.val (.int p0), .val (.int p1), .val (.int p2), .val (.int p3), .val (.int p4), .val (.int p5), .val (.int (v0_2 p0 p1 p2 p3 p4 p5)), .val (.ref b1), .val (.ref b51), .val (.ref xta2_0_340)] [])) _
          refine XS.iload X340.here hx rfl (hb hby at_279) rfl ?_
          show Steps p.tables e below (T340.setTop (mkF m 281 #[.val (.int p0), .val (.int p1), .val (.int p2), .val (.int p3), .val (.int p4), .val (.int p5), .val (.int (v0_2 p0 p1 p2 p3 p4 p5)), .val (.ref b1), .val (.ref b51), .val (.ref xta2_0_340)] [(.int (v0_2 p0 p1 p2 p3 p4 p5))])) _
          refine XT.iconstV X340.here hx rfl (2 : Int32) (hb hby at_281) (by decide) ?_
          show Steps p.tables e below (T340.setTop (mkF m 282 #[.val (.int p0), .val (.int p1), .val (.int p2), .val (.int p3), .val (.int p4), .val (.int p5), .val (.int (v0_2 p0 p1 p2 p3 p4 p5)), .val (.ref b1), .val (.ref b51), .val (.ref xta2_0_340)] [(.int (2 : Int32)), (.int (v0_2 p0 p1 p2 p3 p4 p5))])) _
          refine XS.icmpYes X340.here hx rfl (pc0 := 282) (pc' := 298) rfl (hb hby at_282) rfl (XT.ii_le_t c83) (by decide) (by decide) ?_
          show Steps p.tables e below (T340.setTop (mkF m 298 #[.val (.int p0), .val (.int p1), .val (.int p2), .val (.int p3), .val (.int p4), .val (.int p5), .val (.int (v0_2 p0 p1 p2 p3 p4 p5)), .val (.ref b1), .val (.ref b51), .val (.ref xta2_0_340)] [])) _
          refine XS.iload X340.here hx rfl (hb hby at_298) rfl ?_
          show Steps p.tables e below (T340.setTop (mkF m 300 #[.val (.int p0), .val (.int p1), .val (.int p2), .val (.int p3), .val (.int p4), .val (.int p5), .val (.int (v0_2 p0 p1 p2 p3 p4 p5)), .val (.ref b1), .val (.ref b51), .val (.ref xta2_0_340)] [(.int (v0_2 p0 p1 p2 p3 p4 p5))])) _
          refine XT.iconstV X340.here hx rfl (3 : Int32) (hb hby at_300) (by decide) ?_
          show Steps p.tables e below (T340.setTop (mkF m 301 #[.val (.int p0), .val (.int p1), .val (.int p2), .val (.int p3), .val (.int p4), .val (.int p5), .val (.int (v0_2 p0 p1 p2 p3 p4 p5)), .val (.ref b1), .val (.ref b51), .val (.ref xta2_0_340)] [(.int (3 : Int32)), (.int (v0_2 p0 p1 p2 p3 p4 p5))])) _
          refine XS.icmpYes X340.here hx rfl (pc0 := 301) (pc' := 317) rfl (hb hby at_301) rfl (XT.ii_le_t (own_mono c83 (by decide))) (by decide) (by decide) ?_
          show Steps p.tables e below (T340.setTop (mkF m 317 #[.val (.int p0), .val (.int p1), .val (.int p2), .val (.int p3), .val (.int p4), .val (.int p5), .val (.int (v0_2 p0 p1 p2 p3 p4 p5)), .val (.ref b1), .val (.ref b51), .val (.ref xta2_0_340)] [])) _
          refine XS.iload X340.here hx rfl (hb hby at_317) rfl ?_
          show Steps p.tables e below (T340.setTop (mkF m 319 #[.val (.int p0), .val (.int p1), .val (.int p2), .val (.int p3), .val (.int p4), .val (.int p5), .val (.int (v0_2 p0 p1 p2 p3 p4 p5)), .val (.ref b1), .val (.ref b51), .val (.ref xta2_0_340)] [(.int (v0_2 p0 p1 p2 p3 p4 p5))])) _
          refine XT.iconstV X340.here hx rfl (4 : Int32) (hb hby at_319) (by decide) ?_
          show Steps p.tables e below (T340.setTop (mkF m 320 #[.val (.int p0), .val (.int p1), .val (.int p2), .val (.int p3), .val (.int p4), .val (.int p5), .val (.int (v0_2 p0 p1 p2 p3 p4 p5)), .val (.ref b1), .val (.ref b51), .val (.ref xta2_0_340)] [(.int (4 : Int32)), (.int (v0_2 p0 p1 p2 p3 p4 p5))])) _
          refine XS.icmpYes X340.here hx rfl (pc0 := 320) (pc' := 336) rfl (hb hby at_320) rfl (XT.ii_le_t (own_mono c83 (by decide))) (by decide) (by decide) ?_
          show Steps p.tables e below (T340.setTop (mkF m 336 #[.val (.int p0), .val (.int p1), .val (.int p2), .val (.int p3), .val (.int p4), .val (.int p5), .val (.int (v0_2 p0 p1 p2 p3 p4 p5)), .val (.ref b1), .val (.ref b51), .val (.ref xta2_0_340)] [])) _
          refine XS.iload X340.here hx rfl (hb hby at_336) rfl ?_
          show Steps p.tables e below (T340.setTop (mkF m 338 #[.val (.int p0), .val (.int p1), .val (.int p2), .val (.int p3), .val (.int p4), .val (.int p5), .val (.int (v0_2 p0 p1 p2 p3 p4 p5)), .val (.ref b1), .val (.ref b51), .val (.ref xta2_0_340)] [(.int (v0_2 p0 p1 p2 p3 p4 p5))])) _
          refine XT.iconstV X340.here hx rfl (5 : Int32) (hb hby at_338) (by decide) ?_
          show Steps p.tables e below (T340.setTop (mkF m 339 #[.val (.int p0), .val (.int p1), .val (.int p2), .val (.int p3), .val (.int p4), .val (.int p5), .val (.int (v0_2 p0 p1 p2 p3 p4 p5)), .val (.ref b1), .val (.ref b51), .val (.ref xta2_0_340)] [(.int (5 : Int32)), (.int (v0_2 p0 p1 p2 p3 p4 p5))])) _
          refine XS.icmpYes X340.here hx rfl (pc0 := 339) (pc' := 355) rfl (hb hby at_339) rfl (XT.ii_le_t (own_mono c83 (by decide))) (by decide) (by decide) ?_
          show Steps p.tables e below (T340.setTop (mkF m 355 #[.val (.int p0), .val (.int p1), .val (.int p2), .val (.int p3), .val (.int p4), .val (.int p5), .val (.int (v0_2 p0 p1 p2 p3 p4 p5)), .val (.ref b1), .val (.ref b51), .val (.ref xta2_0_340)] [])) _
          refine XS.iload X340.here hx rfl (hb hby at_355) rfl ?_
          show Steps p.tables e below (T340.setTop (mkF m 357 #[.val (.int p0), .val (.int p1), .val (.int p2), .val (.int p3), .val (.int p4), .val (.int p5), .val (.int (v0_2 p0 p1 p2 p3 p4 p5)), .val (.ref b1), .val (.ref b51), .val (.ref xta2_0_340)] [(.int (v0_2 p0 p1 p2 p3 p4 p5))])) _
          refine XT.bipushV X340.here hx rfl (6 : Int32) (hb hby at_357) (by decide) ?_
          show Steps p.tables e below (T340.setTop (mkF m 359 #[.val (.int p0), .val (.int p1), .val (.int p2), .val (.int p3), .val (.int p4), .val (.int p5), .val (.int (v0_2 p0 p1 p2 p3 p4 p5)), .val (.ref b1), .val (.ref b51), .val (.ref xta2_0_340)] [(.int (6 : Int32)), (.int (v0_2 p0 p1 p2 p3 p4 p5))])) _
          refine XS.icmpYes X340.here hx rfl (pc0 := 359) (pc' := 377) rfl (hb hby at_359) rfl (XT.ii_le_t (own_mono c83 (by decide))) (by decide) (by decide) ?_
          show Steps p.tables e below (T340.setTop (mkF m 377 #[.val (.int p0), .val (.int p1), .val (.int p2), .val (.int p3), .val (.int p4), .val (.int p5), .val (.int (v0_2 p0 p1 p2 p3 p4 p5)), .val (.ref b1), .val (.ref b51), .val (.ref xta2_0_340)] [])) _
          refine XS.iload X340.here hx rfl (hb hby at_377) rfl ?_
          show Steps p.tables e below (T340.setTop (mkF m 379 #[.val (.int p0), .val (.int p1), .val (.int p2), .val (.int p3), .val (.int p4), .val (.int p5), .val (.int (v0_2 p0 p1 p2 p3 p4 p5)), .val (.ref b1), .val (.ref b51), .val (.ref xta2_0_340)] [(.int (v0_2 p0 p1 p2 p3 p4 p5))])) _
          refine XT.bipushV X340.here hx rfl (7 : Int32) (hb hby at_379) (by decide) ?_
          show Steps p.tables e below (T340.setTop (mkF m 381 #[.val (.int p0), .val (.int p1), .val (.int p2), .val (.int p3), .val (.int p4), .val (.int p5), .val (.int (v0_2 p0 p1 p2 p3 p4 p5)), .val (.ref b1), .val (.ref b51), .val (.ref xta2_0_340)] [(.int (7 : Int32)), (.int (v0_2 p0 p1 p2 p3 p4 p5))])) _
          refine XS.icmpYes X340.here hx rfl (pc0 := 381) (pc' := 399) rfl (hb hby at_381) rfl (XT.ii_le_t (own_mono c83 (by decide))) (by decide) (by decide) ?_
          show Steps p.tables e below (T340.setTop (mkF m 399 #[.val (.int p0), .val (.int p1), .val (.int p2), .val (.int p3), .val (.int p4), .val (.int p5), .val (.int (v0_2 p0 p1 p2 p3 p4 p5)), .val (.ref b1), .val (.ref b51), .val (.ref xta2_0_340)] [])) _
          refine XS.iload X340.here hx rfl (hb hby at_399) rfl ?_
          show Steps p.tables e below (T340.setTop (mkF m 401 #[.val (.int p0), .val (.int p1), .val (.int p2), .val (.int p3), .val (.int p4), .val (.int p5), .val (.int (v0_2 p0 p1 p2 p3 p4 p5)), .val (.ref b1), .val (.ref b51), .val (.ref xta2_0_340)] [(.int (v0_2 p0 p1 p2 p3 p4 p5))])) _
          refine XT.bipushV X340.here hx rfl (8 : Int32) (hb hby at_401) (by decide) ?_
          show Steps p.tables e below (T340.setTop (mkF m 403 #[.val (.int p0), .val (.int p1), .val (.int p2), .val (.int p3), .val (.int p4), .val (.int p5), .val (.int (v0_2 p0 p1 p2 p3 p4 p5)), .val (.ref b1), .val (.ref b51), .val (.ref xta2_0_340)] [(.int (8 : Int32)), (.int (v0_2 p0 p1 p2 p3 p4 p5))])) _
          refine XS.icmpYes X340.here hx rfl (pc0 := 403) (pc' := 421) rfl (hb hby at_403) rfl (XT.ii_le_t (own_mono c83 (by decide))) (by decide) (by decide) ?_
          show Steps p.tables e below (T340.setTop (mkF m 421 #[.val (.int p0), .val (.int p1), .val (.int p2), .val (.int p3), .val (.int p4), .val (.int p5), .val (.int (v0_2 p0 p1 p2 p3 p4 p5)), .val (.ref b1), .val (.ref b51), .val (.ref xta2_0_340)] [])) _
          refine XT.iconstV X340.here hx rfl (1 : Int32) (hb hby at_421) (by decide) ?_
          show Steps p.tables e below (T340.setTop (mkF m 422 #[.val (.int p0), .val (.int p1), .val (.int p2), .val (.int p3), .val (.int p4), .val (.int p5), .val (.int (v0_2 p0 p1 p2 p3 p4 p5)), .val (.ref b1), .val (.ref b51), .val (.ref xta2_0_340)] [(.int (1 : Int32))])) _
          exact retN X340 hx (t := .boolean) Bd.returns (by simp) (hb hby at_422) hr
        · skip
          show Q0 Z p0 p1 p2 p3 p4 p5 h0 n0 _ T340.heap _
          exact ⟨rfl, N340⟩
    · skip
      obtain ⟨cq356, kq356, q356a, q356b, q356c⟩ := isOf hZ rfl po71_0
      obtain ⟨vr356, _, ⟨T356, L356, k356, n356⟩, -, X356, ⟨Lc356, hQ356, l356, y356, z356⟩, st356⟩ := X71.virtualBack hx (y := (⟨"com/example/vellum_index/vellumindex/IntList", "size", "()I"⟩ : MethodName)) (z := (⟨"com/example/vellum_index/vellumindex/IntList", "size", "()I"⟩ : MethodName)) hown (mvT hZ (hw _ (List.mem_of_getElem? (i := 20) rfl))) (mvT hZ (hw _ (List.mem_of_getElem? (i := 21) rfl))) (notFace_of_selects (args := #[]) (mvT hZ (hw _ (List.mem_of_getElem? (i := 23) rfl)))) (mvT hZ (hw _ (List.mem_of_getElem? (i := 23) rfl))) (mvT hZ (hw _ (List.mem_of_getElem? (i := 22) rfl))) (by decide) (backOf (W := 0) (rm4 l Z a0 hw [] b51 (1 : Int32) T71.heap n0 z72 po71_1) hZ (hw _ (List.mem_of_getElem? (i := 24) rfl)) (hw _ (List.mem_of_getElem? (i := 4) rfl)) (by decide) (by decide)) q356a q356c (g := (mkF m 215 #[.val (.int p0), .val (.int p1), .val (.int p2), .val (.int p3), .val (.int p4), .val (.int p5), .val (.int (v0_2 p0 p1 p2 p3 p4 p5)), .val (.ref b1), .val (.ref b51), .unset] [(.ref b51)])) rfl (by rw [hml]; rfl) (Steps.refl _) (argsL := []) (rest := []) (lenOf pd___I rfl) rfl (by show 2 * 0 + _ ≤ _; exact Nat.le_of_eq rfl) (hb hby at_215) (fun _ _ => ⟨rfl, rfl, (by decide : 3 + 0 ≤ _), (by decide : 15 + 0 ≤ _)⟩)
      dsimp only [Pt.U, Pt.locs, Pt.cells, Pt.slots] at X356 l356 y356 z356 st356 hQ356
      subst l356 y356 z356
      have N356q := (show _ ∧ _ ∧ _ from hQ356).1
      have hv356 := (show _ ∧ _ ∧ _ from hQ356).2.1
      have e356 := (show _ ∧ _ ∧ _ from hQ356).2.2
      clear hQ356
      subst hv356
      have N356 := Fr.app N71 N356q
      obtain ⟨cq357, kq357, q357a, q357b, q357c⟩ := isOf hZ e356 po71_0
      obtain ⟨vr357, _, ⟨T357, L357, k357, n357⟩, -, X357, ⟨Lc357, hQ357, l357, y357, z357⟩, st357⟩ := X356.virtualBack hx (y := (⟨"com/example/vellum_index/vellumindex/IntList", "toArray", "()[I"⟩ : MethodName)) (z := (⟨"com/example/vellum_index/vellumindex/IntList", "toArray", "()[I"⟩ : MethodName)) hown (mvT hZ (hw _ (List.mem_of_getElem? (i := 25) rfl))) (mvT hZ (hw _ (List.mem_of_getElem? (i := 26) rfl))) (notFace_of_selects (args := #[]) (mvT hZ (hw _ (List.mem_of_getElem? (i := 28) rfl)))) (mvT hZ (hw _ (List.mem_of_getElem? (i := 28) rfl))) (mvT hZ (hw _ (List.mem_of_getElem? (i := 27) rfl))) (by decide) (backOf (W := 0) (rmta1 l Z a0 hw [] b51 x1_0_58 p0 (0 : Int32) (0 : Int32) (0 : Int32) k1_1_58 T71.heap n0 z72 po71_0 po71_1 po71_2 po71_3 po71_4) hZ (hw _ (List.mem_of_getElem? (i := 29) rfl)) (hw _ (List.mem_of_getElem? (i := 4) rfl)) (by decide) (by decide)) q357a q357c (g := (mkF m 227 #[.val (.int p0), .val (.int p1), .val (.int p2), .val (.int p3), .val (.int p4), .val (.int p5), .val (.int (v0_2 p0 p1 p2 p3 p4 p5)), .val (.ref b1), .val (.ref b51), .unset] [(.ref b51)])) rfl (by rw [hml]; rfl) (Steps.refl _) (argsL := []) (rest := []) (lenOf pd____I rfl) rfl (by show 2 * 0 + _ ≤ _; exact Nat.le_of_eq rfl) (hb hby at_227) (fun _ _ => ⟨rfl, e356, (by decide : 3 + 1 ≤ _), (by decide : 15 + 1 ≤ _)⟩)
      dsimp only [Pt.U, Pt.locs, Pt.cells, Pt.slots] at X357 l357 y357 z357 st357 hQ357
      subst l357 y357 z357
      have N357q := (show _ ∧ _ from hQ357).1
      have hq357 := (show _ ∧ _ from hQ357).2
      clear hQ357
      obtain ⟨xta1_0_357, kta1_1_357, hq357x⟩ := hq357
      have hv357 := hq357x.1
      have szxta1_0_357 := hq357x.2.1
      have K357 := hq357x.2.2.1
      have po357_0 := hq357x.2.2.2.1
      have po357_1 := hq357x.2.2.2.2
      clear hq357x
      subst hv357
      have k358 := ((k59.keep K58).keep K71)
      have ne359 : b1 ≠ xta1_0_357 := Nat.ne_of_lt (Nat.lt_of_lt_of_le k358.lt szxta1_0_357)
      have ne360 : b51 ≠ xta1_0_357 := Nat.ne_of_lt (Nat.lt_of_lt_of_le po71_0.lt szxta1_0_357)
      have ne361 : x1_0_58 ≠ xta1_0_357 := Nat.ne_of_lt (Nat.lt_of_lt_of_le po71_3.lt szxta1_0_357)
      have g362 : n0 ≤ xta1_0_357 := Nat.le_trans z72 szxta1_0_357
      have sz363 : h0.size ≤ xta1_0_357 := Nat.le_trans hs73 szxta1_0_357
      have z364 : n0 ≤ T357.heap.size := Nat.le_trans z72 K357.1
      have hs365 : h0.size ≤ T357.heap.size := Nat.le_trans hs73 K357.1
      have N357 := Fr.app N356 N357q
      obtain ⟨cl366, Ar366, qc366, S366, M366, Ha366, G366⟩ := id po357_1
      have hin367 : ¬ ((0 : Int32) < 0 ∨ cl366.slots.size ≤ ((0 : Int32)).toNatClampNeg) := inb_of S366 ⟨by decide, by decide⟩
      have k368 := ((k68.keep K71 (ninS ne53 (ninS ne60 nin0))).keep K357 nin0)
      obtain ⟨cl369, Ar369, qc369, S369, M369, Ha369, G369⟩ := id k368
      have hin370 : ¬ ((0 : Int32) < 0 ∨ cl369.slots.size ≤ ((0 : Int32)).toNatClampNeg) := inb_of S369 ⟨by decide, by decide⟩
      obtain ⟨fs, hr, hrun, hended, hW, hsame⟩ := X357.leave (v := some (.int (1 : Int32))) (fun h => by rw [Bd.returns] at h; cases h) hlk
      refine ⟨_, _, pre74 _ ?_, hrun, hended, _, _, rfl, ?_, ⟨_, rfl⟩, hW, hsame.mono (by decide) (by decide)⟩
      · skip
        show Steps p.tables e below (T71.setTop (mkF m 90 #[.val (.int p0), .val (.int p1), .val (.int p2), .val (.int p3), .val (.int p4), .val (.int p5), .val (.int (v0_2 p0 p1 p2 p3 p4 p5)), .val (.ref b1), .val (.ref b51), .unset] [(.int (1 : Int32)), (.int (v0_2 p0 p1 p2 p3 p4 p5))])) _
        refine XS.icmpYes X71.here hx rfl (pc0 := 90) (pc' := 102) rfl (hb hby at_90) rfl (XT.ii_le_t c75) (by decide) (by decide) ?_
        show Steps p.tables e below (T71.setTop (mkF m 102 #[.val (.int p0), .val (.int p1), .val (.int p2), .val (.int p3), .val (.int p4), .val (.int p5), .val (.int (v0_2 p0 p1 p2 p3 p4 p5)), .val (.ref b1), .val (.ref b51), .unset] [])) _
        refine XS.iload X71.here hx rfl (hb hby at_102) rfl ?_
        show Steps p.tables e below (T71.setTop (mkF m 104 #[.val (.int p0), .val (.int p1), .val (.int p2), .val (.int p3), .val (.int p4), .val (.int p5), .val (.int (v0_2 p0 p1 p2 p3 p4 p5)), .val (.ref b1), .val (.ref b51), .unset] [(.int (v0_2 p0 p1 p2 p3 p4 p5))])) _
        refine XT.iconstV X71.here hx rfl (2 : Int32) (hb hby at_104) (by decide) ?_
        show Steps p.tables e below (T71.setTop (mkF m 105 #[.val (.int p0), .val (.int p1), .val (.int p2), .val (.int p3), .val (.int p4), .val (.int p5), .val (.int (v0_2 p0 p1 p2 p3 p4 p5)), .val (.ref b1), .val (.ref b51), .unset] [(.int (2 : Int32)), (.int (v0_2 p0 p1 p2 p3 p4 p5))])) _
        refine XS.icmpYes X71.here hx rfl (pc0 := 105) (pc' := 117) rfl (hb hby at_105) rfl (XT.ii_le_t (own_mono c75 (by decide))) (by decide) (by decide) ?_
        show Steps p.tables e below (T71.setTop (mkF m 117 #[.val (.int p0), .val (.int p1), .val (.int p2), .val (.int p3), .val (.int p4), .val (.int p5), .val (.int (v0_2 p0 p1 p2 p3 p4 p5)), .val (.ref b1), .val (.ref b51), .unset] [])) _
        refine XS.iload X71.here hx rfl (hb hby at_117) rfl ?_
        show Steps p.tables e below (T71.setTop (mkF m 119 #[.val (.int p0), .val (.int p1), .val (.int p2), .val (.int p3), .val (.int p4), .val (.int p5), .val (.int (v0_2 p0 p1 p2 p3 p4 p5)), .val (.ref b1), .val (.ref b51), .unset] [(.int (v0_2 p0 p1 p2 p3 p4 p5))])) _
        refine XT.iconstV X71.here hx rfl (3 : Int32) (hb hby at_119) (by decide) ?_
        show Steps p.tables e below (T71.setTop (mkF m 120 #[.val (.int p0), .val (.int p1), .val (.int p2), .val (.int p3), .val (.int p4), .val (.int p5), .val (.int (v0_2 p0 p1 p2 p3 p4 p5)), .val (.ref b1), .val (.ref b51), .unset] [(.int (3 : Int32)), (.int (v0_2 p0 p1 p2 p3 p4 p5))])) _
        refine XS.icmpYes X71.here hx rfl (pc0 := 120) (pc' := 132) rfl (hb hby at_120) rfl (XT.ii_le_t (own_mono c75 (by decide))) (by decide) (by decide) ?_
        show Steps p.tables e below (T71.setTop (mkF m 132 #[.val (.int p0), .val (.int p1), .val (.int p2), .val (.int p3), .val (.int p4), .val (.int p5), .val (.int (v0_2 p0 p1 p2 p3 p4 p5)), .val (.ref b1), .val (.ref b51), .unset] [])) _
        refine XS.iload X71.here hx rfl (hb hby at_132) rfl ?_
        show Steps p.tables e below (T71.setTop (mkF m 134 #[.val (.int p0), .val (.int p1), .val (.int p2), .val (.int p3), .val (.int p4), .val (.int p5), .val (.int (v0_2 p0 p1 p2 p3 p4 p5)), .val (.ref b1), .val (.ref b51), .unset] [(.int (v0_2 p0 p1 p2 p3 p4 p5))])) _
        refine XT.iconstV X71.here hx rfl (4 : Int32) (hb hby at_134) (by decide) ?_
        show Steps p.tables e below (T71.setTop (mkF m 135 #[.val (.int p0), .val (.int p1), .val (.int p2), .val (.int p3), .val (.int p4), .val (.int p5), .val (.int (v0_2 p0 p1 p2 p3 p4 p5)), .val (.ref b1), .val (.ref b51), .unset] [(.int (4 : Int32)), (.int (v0_2 p0 p1 p2 p3 p4 p5))])) _
        refine XS.icmpYes X71.here hx rfl (pc0 := 135) (pc' := 147) rfl (hb hby at_135) rfl (XT.ii_le_t (own_mono c75 (by decide))) (by decide) (by decide) ?_
        show Steps p.tables e below (T71.setTop (mkF m 147 #[.val (.int p0), .val (.int p1), .val (.int p2), .val (.int p3), .val (.int p4), .val (.int p5), .val (.int (v0_2 p0 p1 p2 p3 p4 p5)), .val (.ref b1), .val (.ref b51), .unset] [])) _
        refine XS.iload X71.here hx rfl (hb hby at_147) rfl ?_
        show Steps p.tables e below (T71.setTop (mkF m 149 #[.val (.int p0), .val (.int p1), .val (.int p2), .val (.int p3), .val (.int p4), .val (.int p5), .val (.int (v0_2 p0 p1 p2 p3 p4 p5)), .val (.ref b1), .val (.ref b51), .unset] [(.int (v0_2 p0 p1 p2 p3 p4 p5))])) _
        refine XT.iconstV X71.here hx rfl (5 : Int32) (hb hby at_149) (by decide) ?_
        show Steps p.tables e below (T71.setTop (mkF m 150 #[.val (.int p0), .val (.int p1), .val (.int p2), .val (.int p3), .val (.int p4), .val (.int p5), .val (.int (v0_2 p0 p1 p2 p3 p4 p5)), .val (.ref b1), .val (.ref b51), .unset] [(.int (5 : Int32)), (.int (v0_2 p0 p1 p2 p3 p4 p5))])) _
        refine XS.icmpYes X71.here hx rfl (pc0 := 150) (pc' := 162) rfl (hb hby at_150) rfl (XT.ii_le_t (own_mono c75 (by decide))) (by decide) (by decide) ?_
        show Steps p.tables e below (T71.setTop (mkF m 162 #[.val (.int p0), .val (.int p1), .val (.int p2), .val (.int p3), .val (.int p4), .val (.int p5), .val (.int (v0_2 p0 p1 p2 p3 p4 p5)), .val (.ref b1), .val (.ref b51), .unset] [])) _
        refine XS.iload X71.here hx rfl (hb hby at_162) rfl ?_
        show Steps p.tables e below (T71.setTop (mkF m 164 #[.val (.int p0), .val (.int p1), .val (.int p2), .val (.int p3), .val (.int p4), .val (.int p5), .val (.int (v0_2 p0 p1 p2 p3 p4 p5)), .val (.ref b1), .val (.ref b51), .unset] [(.int (v0_2 p0 p1 p2 p3 p4 p5))])) _
        refine XT.bipushV X71.here hx rfl (6 : Int32) (hb hby at_164) (by decide) ?_
        show Steps p.tables e below (T71.setTop (mkF m 166 #[.val (.int p0), .val (.int p1), .val (.int p2), .val (.int p3), .val (.int p4), .val (.int p5), .val (.int (v0_2 p0 p1 p2 p3 p4 p5)), .val (.ref b1), .val (.ref b51), .unset] [(.int (6 : Int32)), (.int (v0_2 p0 p1 p2 p3 p4 p5))])) _
        refine XS.icmpYes X71.here hx rfl (pc0 := 166) (pc' := 179) rfl (hb hby at_166) rfl (XT.ii_le_t (own_mono c75 (by decide))) (by decide) (by decide) ?_
        show Steps p.tables e below (T71.setTop (mkF m 179 #[.val (.int p0), .val (.int p1), .val (.int p2), .val (.int p3), .val (.int p4), .val (.int p5), .val (.int (v0_2 p0 p1 p2 p3 p4 p5)), .val (.ref b1), .val (.ref b51), .unset] [])) _
        refine XS.iload X71.here hx rfl (hb hby at_179) rfl ?_
        show Steps p.tables e below (T71.setTop (mkF m 181 #[.val (.int p0), .val (.int p1), .val (.int p2), .val (.int p3), .val (.int p4), .val (.int p5), .val (.int (v0_2 p0 p1 p2 p3 p4 p5)), .val (.ref b1), .val (.ref b51), .unset] [(.int (v0_2 p0 p1 p2 p3 p4 p5))])) _
        refine XT.bipushV X71.here hx rfl (7 : Int32) (hb hby at_181) (by decide) ?_
        show Steps p.tables e below (T71.setTop (mkF m 183 #[.val (.int p0), .val (.int p1), .val (.int p2), .val (.int p3), .val (.int p4), .val (.int p5), .val (.int (v0_2 p0 p1 p2 p3 p4 p5)), .val (.ref b1), .val (.ref b51), .unset] [(.int (7 : Int32)), (.int (v0_2 p0 p1 p2 p3 p4 p5))])) _
        refine XS.icmpYes X71.here hx rfl (pc0 := 183) (pc' := 196) rfl (hb hby at_183) rfl (XT.ii_le_t (own_mono c75 (by decide))) (by decide) (by decide) ?_
        show Steps p.tables e below (T71.setTop (mkF m 196 #[.val (.int p0), .val (.int p1), .val (.int p2), .val (.int p3), .val (.int p4), .val (.int p5), .val (.int (v0_2 p0 p1 p2 p3 p4 p5)), .val (.ref b1), .val (.ref b51), .unset] [])) _
        refine XS.iload X71.here hx rfl (hb hby at_196) rfl ?_
        show Steps p.tables e below (T71.setTop (mkF m 198 #[.val (.int p0), .val (.int p1), .val (.int p2), .val (.int p3), .val (.int p4), .val (.int p5), .val (.int (v0_2 p0 p1 p2 p3 p4 p5)), .val (.ref b1), .val (.ref b51), .unset] [(.int (v0_2 p0 p1 p2 p3 p4 p5))])) _
        refine XT.bipushV X71.here hx rfl (8 : Int32) (hb hby at_198) (by decide) ?_
        show Steps p.tables e below (T71.setTop (mkF m 200 #[.val (.int p0), .val (.int p1), .val (.int p2), .val (.int p3), .val (.int p4), .val (.int p5), .val (.int (v0_2 p0 p1 p2 p3 p4 p5)), .val (.ref b1), .val (.ref b51), .unset] [(.int (8 : Int32)), (.int (v0_2 p0 p1 p2 p3 p4 p5))])) _
        refine XS.icmpYes X71.here hx rfl (pc0 := 200) (pc' := 213) rfl (hb hby at_200) rfl (XT.ii_le_t (own_mono c75 (by decide))) (by decide) (by decide) ?_
        show Steps p.tables e below (T71.setTop (mkF m 213 #[.val (.int p0), .val (.int p1), .val (.int p2), .val (.int p3), .val (.int p4), .val (.int p5), .val (.int (v0_2 p0 p1 p2 p3 p4 p5)), .val (.ref b1), .val (.ref b51), .unset] [])) _
        refine XS.aload X71.here hx rfl (hb hby at_213) rfl rfl ?_
        show Steps p.tables e below (T71.setTop (mkF m 215 #[.val (.int p0), .val (.int p1), .val (.int p2), .val (.int p3), .val (.int p4), .val (.int p5), .val (.int (v0_2 p0 p1 p2 p3 p4 p5)), .val (.ref b1), .val (.ref b51), .unset] [(.ref b51)])) _
        refine st356.trans ?_
        show Steps p.tables e below (T356.setTop (mkF m 218 #[.val (.int p0), .val (.int p1), .val (.int p2), .val (.int p3), .val (.int p4), .val (.int p5), .val (.int (v0_2 p0 p1 p2 p3 p4 p5)), .val (.ref b1), .val (.ref b51), .unset] [(.int (f4 (1 : Int32)))])) _
        refine XS.iload X356.here hx rfl (hb hby at_218) rfl ?_
        show Steps p.tables e below (T356.setTop (mkF m 220 #[.val (.int p0), .val (.int p1), .val (.int p2), .val (.int p3), .val (.int p4), .val (.int p5), .val (.int (v0_2 p0 p1 p2 p3 p4 p5)), .val (.ref b1), .val (.ref b51), .unset] [(.int (v0_2 p0 p1 p2 p3 p4 p5)), (.int (f4 (1 : Int32)))])) _
        refine XS.icmpYes X356.here hx rfl (pc0 := 220) (pc' := 225) rfl (hb hby at_220) rfl (XT.ii_eq_t ((own_eqn c67 c75 (by decide))).symm) (by decide) (by decide) ?_
        show Steps p.tables e below (T356.setTop (mkF m 225 #[.val (.int p0), .val (.int p1), .val (.int p2), .val (.int p3), .val (.int p4), .val (.int p5), .val (.int (v0_2 p0 p1 p2 p3 p4 p5)), .val (.ref b1), .val (.ref b51), .unset] [])) _
        refine XS.aload X356.here hx rfl (hb hby at_225) rfl rfl ?_
        show Steps p.tables e below (T356.setTop (mkF m 227 #[.val (.int p0), .val (.int p1), .val (.int p2), .val (.int p3), .val (.int p4), .val (.int p5), .val (.int (v0_2 p0 p1 p2 p3 p4 p5)), .val (.ref b1), .val (.ref b51), .unset] [(.ref b51)])) _
        refine st357.trans ?_
        show Steps p.tables e below (T357.setTop (mkF m 230 #[.val (.int p0), .val (.int p1), .val (.int p2), .val (.int p3), .val (.int p4), .val (.int p5), .val (.int (v0_2 p0 p1 p2 p3 p4 p5)), .val (.ref b1), .val (.ref b51), .unset] [(.ref xta1_0_357)])) _
        refine XS.astore X357.here hx rfl (hb hby at_230) rfl rfl (l' := #[.val (.int p0), .val (.int p1), .val (.int p2), .val (.int p3), .val (.int p4), .val (.int p5), .val (.int (v0_2 p0 p1 p2 p3 p4 p5)), .val (.ref b1), .val (.ref b51), .val (.ref xta1_0_357)]) rfl ?_
        show Steps p.tables e below (T357.setTop (mkF m 232 #[.val (.int p0), .val (.int p1), .val (.int p2), .val (.int p3), .val (.int p4), .val (.int p5), .val (.int (v0_2 p0 p1 p2 p3 p4 p5)), .val (.ref b1), .val (.ref b51), .val (.ref xta1_0_357)] [])) _
        refine XS.aload X357.here hx rfl (hb hby at_232) rfl rfl ?_
        show Steps p.tables e below (T357.setTop (mkF m 234 #[.val (.int p0), .val (.int p1), .val (.int p2), .val (.int p3), .val (.int p4), .val (.int p5), .val (.int (v0_2 p0 p1 p2 p3 p4 p5)), .val (.ref b1), .val (.ref b51), .val (.ref xta1_0_357)] [(.ref xta1_0_357)])) _
        refine X357.arraylength hx Ar366.1 (State.isArrayOf_alike hZ.alike Ar366.2.1) (g := (mkF m 234 #[.val (.int p0), .val (.int p1), .val (.int p2), .val (.int p3), .val (.int p4), .val (.int p5), .val (.int (v0_2 p0 p1 p2 p3 p4 p5)), .val (.ref b1), .val (.ref b51), .val (.ref xta1_0_357)] [(.ref xta1_0_357)])) rfl rfl (hb hby at_234) _ ?_
        rw [len_of S366 M366]
        show Steps p.tables e below (T357.setTop (mkF m 235 #[.val (.int p0), .val (.int p1), .val (.int p2), .val (.int p3), .val (.int p4), .val (.int p5), .val (.int (v0_2 p0 p1 p2 p3 p4 p5)), .val (.ref b1), .val (.ref b51), .val (.ref xta1_0_357)] [(.int (1 : Int32))])) _
        refine XS.iload X357.here hx rfl (hb hby at_235) rfl ?_
        show Steps p.tables e below (T357.setTop (mkF m 237 #[.val (.int p0), .val (.int p1), .val (.int p2), .val (.int p3), .val (.int p4), .val (.int p5), .val (.int (v0_2 p0 p1 p2 p3 p4 p5)), .val (.ref b1), .val (.ref b51), .val (.ref xta1_0_357)] [(.int (v0_2 p0 p1 p2 p3 p4 p5)), (.int (1 : Int32))])) _
        refine XS.icmpYes X357.here hx rfl (pc0 := 237) (pc' := 242) rfl (hb hby at_237) rfl (XT.ii_eq_t ((own_eqn c67 c75 (by decide))).symm) (by decide) (by decide) ?_
        show Steps p.tables e below (T357.setTop (mkF m 242 #[.val (.int p0), .val (.int p1), .val (.int p2), .val (.int p3), .val (.int p4), .val (.int p5), .val (.int (v0_2 p0 p1 p2 p3 p4 p5)), .val (.ref b1), .val (.ref b51), .val (.ref xta1_0_357)] [])) _
        refine XS.iload X357.here hx rfl (hb hby at_242) rfl ?_
        show Steps p.tables e below (T357.setTop (mkF m 244 #[.val (.int p0), .val (.int p1), .val (.int p2), .val (.int p3), .val (.int p4), .val (.int p5), .val (.int (v0_2 p0 p1 p2 p3 p4 p5)), .val (.ref b1), .val (.ref b51), .val (.ref xta1_0_357)] [(.int (v0_2 p0 p1 p2 p3 p4 p5))])) _
        refine XS.ifNo X357.here hx rfl (hb hby at_244) rfl (XT.i0_le_f c67) ?_
        show Steps p.tables e below (T357.setTop (mkF m 247 #[.val (.int p0), .val (.int p1), .val (.int p2), .val (.int p3), .val (.int p4), .val (.int p5), .val (.int (v0_2 p0 p1 p2 p3 p4 p5)), .val (.ref b1), .val (.ref b51), .val (.ref xta1_0_357)] [])) _
        refine XS.aload X357.here hx rfl (hb hby at_247) rfl rfl ?_
        show Steps p.tables e below (T357.setTop (mkF m 249 #[.val (.int p0), .val (.int p1), .val (.int p2), .val (.int p3), .val (.int p4), .val (.int p5), .val (.int (v0_2 p0 p1 p2 p3 p4 p5)), .val (.ref b1), .val (.ref b51), .val (.ref xta1_0_357)] [(.ref xta1_0_357)])) _
        refine XT.iconstV X357.here hx rfl (0 : Int32) (hb hby at_249) (by decide) ?_
        show Steps p.tables e below (T357.setTop (mkF m 250 #[.val (.int p0), .val (.int p1), .val (.int p2), .val (.int p3), .val (.int p4), .val (.int p5), .val (.int (v0_2 p0 p1 p2 p3 p4 p5)), .val (.ref b1), .val (.ref b51), .val (.ref xta1_0_357)] [(.int (0 : Int32)), (.ref xta1_0_357)])) _
        refine X357.iaload hx (j := (0 : Int32)) (v := (.int p0)) Ar366.1 (State.isArrayOf_alike hZ.alike Ar366.2.1) Ar366.2.2 hin367 (Has.at Ha366 hin367 rfl) (g := (mkF m 250 #[.val (.int p0), .val (.int p1), .val (.int p2), .val (.int p3), .val (.int p4), .val (.int p5), .val (.int (v0_2 p0 p1 p2 p3 p4 p5)), .val (.ref b1), .val (.ref b51), .val (.ref xta1_0_357)] [(.int (0 : Int32)), (.ref xta1_0_357)])) rfl rfl (hb hby at_250) _ ?_
        show Steps p.tables e below (T357.setTop (mkF m 251 #[.val (.int p0), .val (.int p1), .val (.int p2), .val (.int p3), .val (.int p4), .val (.int p5), .val (.int (v0_2 p0 p1 p2 p3 p4 p5)), .val (.ref b1), .val (.ref b51), .val (.ref xta1_0_357)] [(.int p0)])) _
        refine XS.aload X357.here hx rfl (hb hby at_251) rfl rfl ?_
        show Steps p.tables e below (T357.setTop (mkF m 253 #[.val (.int p0), .val (.int p1), .val (.int p2), .val (.int p3), .val (.int p4), .val (.int p5), .val (.int (v0_2 p0 p1 p2 p3 p4 p5)), .val (.ref b1), .val (.ref b51), .val (.ref xta1_0_357)] [(.ref b1), (.int p0)])) _
        refine XT.iconstV X357.here hx rfl (0 : Int32) (hb hby at_253) (by decide) ?_
        show Steps p.tables e below (T357.setTop (mkF m 254 #[.val (.int p0), .val (.int p1), .val (.int p2), .val (.int p3), .val (.int p4), .val (.int p5), .val (.int (v0_2 p0 p1 p2 p3 p4 p5)), .val (.ref b1), .val (.ref b51), .val (.ref xta1_0_357)] [(.int (0 : Int32)), (.ref b1), (.int p0)])) _
        refine X357.iaload hx (j := (0 : Int32)) (v := (.int p0)) Ar369.1 (State.isArrayOf_alike hZ.alike Ar369.2.1) Ar369.2.2 hin370 (Has.at Ha369 hin370 rfl) (g := (mkF m 254 #[.val (.int p0), .val (.int p1), .val (.int p2), .val (.int p3), .val (.int p4), .val (.int p5), .val (.int (v0_2 p0 p1 p2 p3 p4 p5)), .val (.ref b1), .val (.ref b51), .val (.ref xta1_0_357)] [(.int (0 : Int32)), (.ref b1), (.int p0)])) rfl rfl (hb hby at_254) _ ?_
        show Steps p.tables e below (T357.setTop (mkF m 255 #[.val (.int p0), .val (.int p1), .val (.int p2), .val (.int p3), .val (.int p4), .val (.int p5), .val (.int (v0_2 p0 p1 p2 p3 p4 p5)), .val (.ref b1), .val (.ref b51), .val (.ref xta1_0_357)] [(.int p0), (.int p0)])) _
        refine XS.icmpYes X357.here hx rfl (pc0 := 255) (pc' := 260) rfl (hb hby at_255) rfl (XT.ii_eq_t (rfl : p0 = p0)) (by decide) (by decide) ?_
        show Steps p.tables e below (T357.setTop (mkF m 260 #[.val (.int p0), .val (.int p1), .val (.int p2), .val (.int p3), .val (.int p4), .val (.int p5), .val (.int (v0_2 p0 p1 p2 p3 p4 p5)), .val (.ref b1), .val (.ref b51), .val (.ref xta1_0_357)] [])) _
        refine XS.iload X357.here hx rfl (hb hby at_260) rfl ?_
        show Steps p.tables e below (T357.setTop (mkF m 262 #[.val (.int p0), .val (.int p1), .val (.int p2), .val (.int p3), .val (.int p4), .val (.int p5), .val (.int (v0_2 p0 p1 p2 p3 p4 p5)), .val (.ref b1), .val (.ref b51), .val (.ref xta1_0_357)] [(.int (v0_2 p0 p1 p2 p3 p4 p5))])) _
        refine XT.iconstV X357.here hx rfl (1 : Int32) (hb hby at_262) (by decide) ?_
        show Steps p.tables e below (T357.setTop (mkF m 263 #[.val (.int p0), .val (.int p1), .val (.int p2), .val (.int p3), .val (.int p4), .val (.int p5), .val (.int (v0_2 p0 p1 p2 p3 p4 p5)), .val (.ref b1), .val (.ref b51), .val (.ref xta1_0_357)] [(.int (1 : Int32)), (.int (v0_2 p0 p1 p2 p3 p4 p5))])) _
        refine XS.icmpYes X357.here hx rfl (pc0 := 263) (pc' := 279) rfl (hb hby at_263) rfl (XT.ii_le_t c75) (by decide) (by decide) ?_
        show Steps p.tables e below (T357.setTop (mkF m 279 #[.val (.int p0), .val (.int p1), .val (.int p2), .val (.int p3), .val (.int p4), .val (.int p5), .val (.int (v0_2 p0 p1 p2 p3 p4 p5)), .val (.ref b1), .val (.ref b51), .val (.ref xta1_0_357)] [])) _
        refine XS.iload X357.here hx rfl (hb hby at_279) rfl ?_
        show Steps p.tables e below (T357.setTop (mkF m 281 #[.val (.int p0), .val (.int p1), .val (.int p2), .val (.int p3), .val (.int p4), .val (.int p5), .val (.int (v0_2 p0 p1 p2 p3 p4 p5)), .val (.ref b1), .val (.ref b51), .val (.ref xta1_0_357)] [(.int (v0_2 p0 p1 p2 p3 p4 p5))])) _
        refine XT.iconstV X357.here hx rfl (2 : Int32) (hb hby at_281) (by decide) ?_
        show Steps p.tables e below (T357.setTop (mkF m 282 #[.val (.int p0), .val (.int p1), .val (.int p2), .val (.int p3), .val (.int p4), .val (.int p5), .val (.int (v0_2 p0 p1 p2 p3 p4 p5)), .val (.ref b1), .val (.ref b51), .val (.ref xta1_0_357)] [(.int (2 : Int32)), (.int (v0_2 p0 p1 p2 p3 p4 p5))])) _
        refine XS.icmpYes X357.here hx rfl (pc0 := 282) (pc' := 298) rfl (hb hby at_282) rfl (XT.ii_le_t (own_mono c75 (by decide))) (by decide) (by decide) ?_
        show Steps p.tables e below (T357.setTop (mkF m 298 #[.val (.int p0), .val (.int p1), .val (.int p2), .val (.int p3), .val (.int p4), .val (.int p5), .val (.int (v0_2 p0 p1 p2 p3 p4 p5)), .val (.ref b1), .val (.ref b51), .val (.ref xta1_0_357)] [])) _
        refine XS.iload X357.here hx rfl (hb hby at_298) rfl ?_
        show Steps p.tables e below (T357.setTop (mkF m 300 #[.val (.int p0), .val (.int p1), .val (.int p2), .val (.int p3), .val (.int p4), .val (.int p5), .val (.int (v0_2 p0 p1 p2 p3 p4 p5)), .val (.ref b1), .val (.ref b51), .val (.ref xta1_0_357)] [(.int (v0_2 p0 p1 p2 p3 p4 p5))])) _
        refine XT.iconstV X357.here hx rfl (3 : Int32) (hb hby at_300) (by decide) ?_
        show Steps p.tables e below (T357.setTop (mkF m 301 #[.val (.int p0), .val (.int p1), .val (.int p2), .val (.int p3), .val (.int p4), .val (.int p5), .val (.int (v0_2 p0 p1 p2 p3 p4 p5)), .val (.ref b1), .val (.ref b51), .val (.ref xta1_0_357)] [(.int (3 : Int32)), (.int (v0_2 p0 p1 p2 p3 p4 p5))])) _
        refine XS.icmpYes X357.here hx rfl (pc0 := 301) (pc' := 317) rfl (hb hby at_301) rfl (XT.ii_le_t (own_mono c75 (by decide))) (by decide) (by decide) ?_
        show Steps p.tables e below (T357.setTop (mkF m 317 #[.val (.int p0), .val (.int p1), .val (.int p2), .val (.int p3), .val (.int p4), .val (.int p5), .val (.int (v0_2 p0 p1 p2 p3 p4 p5)), .val (.ref b1), .val (.ref b51), .val (.ref xta1_0_357)] [])) _
        refine XS.iload X357.here hx rfl (hb hby at_317) rfl ?_
        show Steps p.tables e below (T357.setTop (mkF m 319 #[.val (.int p0), .val (.int p1), .val (.int p2), .val (.int p3), .val (.int p4), .val (.int p5), .val (.int (v0_2 p0 p1 p2 p3 p4 p5)), .val (.ref b1), .val (.ref b51), .val (.ref xta1_0_357)] [(.int (v0_2 p0 p1 p2 p3 p4 p5))])) _
        refine XT.iconstV X357.here hx rfl (4 : Int32) (hb hby at_319) (by decide) ?_
        show Steps p.tables e below (T357.setTop (mkF m 320 #[.val (.int p0), .val (.int p1), .val (.int p2), .val (.int p3), .val (.int p4), .val (.int p5), .val (.int (v0_2 p0 p1 p2 p3 p4 p5)), .val (.ref b1), .val (.ref b51), .val (.ref xta1_0_357)] [(.int (4 : Int32)), (.int (v0_2 p0 p1 p2 p3 p4 p5))])) _
        refine XS.icmpYes X357.here hx rfl (pc0 := 320) (pc' := 336) rfl (hb hby at_320) rfl (XT.ii_le_t (own_mono c75 (by decide))) (by decide) (by decide) ?_
        show Steps p.tables e below (T357.setTop (mkF m 336 #[.val (.int p0), .val (.int p1), .val (.int p2), .val (.int p3), .val (.int p4), .val (.int p5), .val (.int (v0_2 p0 p1 p2 p3 p4 p5)), .val (.ref b1), .val (.ref b51), .val (.ref xta1_0_357)] [])) _
        refine XS.iload X357.here hx rfl (hb hby at_336) rfl ?_
        show Steps p.tables e below (T357.setTop (mkF m 338 #[.val (.int p0), .val (.int p1), .val (.int p2), .val (.int p3), .val (.int p4), .val (.int p5), .val (.int (v0_2 p0 p1 p2 p3 p4 p5)), .val (.ref b1), .val (.ref b51), .val (.ref xta1_0_357)] [(.int (v0_2 p0 p1 p2 p3 p4 p5))])) _
        refine XT.iconstV X357.here hx rfl (5 : Int32) (hb hby at_338) (by decide) ?_
        show Steps p.tables e below (T357.setTop (mkF m 339 #[.val (.int p0), .val (.int p1), .val (.int p2), .val (.int p3), .val (.int p4), .val (.int p5), .val (.int (v0_2 p0 p1 p2 p3 p4 p5)), .val (.ref b1), .val (.ref b51), .val (.ref xta1_0_357)] [(.int (5 : Int32)), (.int (v0_2 p0 p1 p2 p3 p4 p5))])) _
        refine XS.icmpYes X357.here hx rfl (pc0 := 339) (pc' := 355) rfl (hb hby at_339) rfl (XT.ii_le_t (own_mono c75 (by decide))) (by decide) (by decide) ?_
        show Steps p.tables e below (T357.setTop (mkF m 355 #[.val (.int p0), .val (.int p1), .val (.int p2), .val (.int p3), .val (.int p4), .val (.int p5), .val (.int (v0_2 p0 p1 p2 p3 p4 p5)), .val (.ref b1), .val (.ref b51), .val (.ref xta1_0_357)] [])) _
        refine XS.iload X357.here hx rfl (hb hby at_355) rfl ?_
        show Steps p.tables e below (T357.setTop (mkF m 357 #[.val (.int p0), .val (.int p1), .val (.int p2), .val (.int p3), .val (.int p4), .val (.int p5), .val (.int (v0_2 p0 p1 p2 p3 p4 p5)), .val (.ref b1), .val (.ref b51), .val (.ref xta1_0_357)] [(.int (v0_2 p0 p1 p2 p3 p4 p5))])) _
        refine XT.bipushV X357.here hx rfl (6 : Int32) (hb hby at_357) (by decide) ?_
        show Steps p.tables e below (T357.setTop (mkF m 359 #[.val (.int p0), .val (.int p1), .val (.int p2), .val (.int p3), .val (.int p4), .val (.int p5), .val (.int (v0_2 p0 p1 p2 p3 p4 p5)), .val (.ref b1), .val (.ref b51), .val (.ref xta1_0_357)] [(.int (6 : Int32)), (.int (v0_2 p0 p1 p2 p3 p4 p5))])) _
        refine XS.icmpYes X357.here hx rfl (pc0 := 359) (pc' := 377) rfl (hb hby at_359) rfl (XT.ii_le_t (own_mono c75 (by decide))) (by decide) (by decide) ?_
        show Steps p.tables e below (T357.setTop (mkF m 377 #[.val (.int p0), .val (.int p1), .val (.int p2), .val (.int p3), .val (.int p4), .val (.int p5), .val (.int (v0_2 p0 p1 p2 p3 p4 p5)), .val (.ref b1), .val (.ref b51), .val (.ref xta1_0_357)] [])) _
        refine XS.iload X357.here hx rfl (hb hby at_377) rfl ?_
        show Steps p.tables e below (T357.setTop (mkF m 379 #[.val (.int p0), .val (.int p1), .val (.int p2), .val (.int p3), .val (.int p4), .val (.int p5), .val (.int (v0_2 p0 p1 p2 p3 p4 p5)), .val (.ref b1), .val (.ref b51), .val (.ref xta1_0_357)] [(.int (v0_2 p0 p1 p2 p3 p4 p5))])) _
        refine XT.bipushV X357.here hx rfl (7 : Int32) (hb hby at_379) (by decide) ?_
        show Steps p.tables e below (T357.setTop (mkF m 381 #[.val (.int p0), .val (.int p1), .val (.int p2), .val (.int p3), .val (.int p4), .val (.int p5), .val (.int (v0_2 p0 p1 p2 p3 p4 p5)), .val (.ref b1), .val (.ref b51), .val (.ref xta1_0_357)] [(.int (7 : Int32)), (.int (v0_2 p0 p1 p2 p3 p4 p5))])) _
        refine XS.icmpYes X357.here hx rfl (pc0 := 381) (pc' := 399) rfl (hb hby at_381) rfl (XT.ii_le_t (own_mono c75 (by decide))) (by decide) (by decide) ?_
        show Steps p.tables e below (T357.setTop (mkF m 399 #[.val (.int p0), .val (.int p1), .val (.int p2), .val (.int p3), .val (.int p4), .val (.int p5), .val (.int (v0_2 p0 p1 p2 p3 p4 p5)), .val (.ref b1), .val (.ref b51), .val (.ref xta1_0_357)] [])) _
        refine XS.iload X357.here hx rfl (hb hby at_399) rfl ?_
        show Steps p.tables e below (T357.setTop (mkF m 401 #[.val (.int p0), .val (.int p1), .val (.int p2), .val (.int p3), .val (.int p4), .val (.int p5), .val (.int (v0_2 p0 p1 p2 p3 p4 p5)), .val (.ref b1), .val (.ref b51), .val (.ref xta1_0_357)] [(.int (v0_2 p0 p1 p2 p3 p4 p5))])) _
        refine XT.bipushV X357.here hx rfl (8 : Int32) (hb hby at_401) (by decide) ?_
        show Steps p.tables e below (T357.setTop (mkF m 403 #[.val (.int p0), .val (.int p1), .val (.int p2), .val (.int p3), .val (.int p4), .val (.int p5), .val (.int (v0_2 p0 p1 p2 p3 p4 p5)), .val (.ref b1), .val (.ref b51), .val (.ref xta1_0_357)] [(.int (8 : Int32)), (.int (v0_2 p0 p1 p2 p3 p4 p5))])) _
        refine XS.icmpYes X357.here hx rfl (pc0 := 403) (pc' := 421) rfl (hb hby at_403) rfl (XT.ii_le_t (own_mono c75 (by decide))) (by decide) (by decide) ?_
        show Steps p.tables e below (T357.setTop (mkF m 421 #[.val (.int p0), .val (.int p1), .val (.int p2), .val (.int p3), .val (.int p4), .val (.int p5), .val (.int (v0_2 p0 p1 p2 p3 p4 p5)), .val (.ref b1), .val (.ref b51), .val (.ref xta1_0_357)] [])) _
        refine XT.iconstV X357.here hx rfl (1 : Int32) (hb hby at_421) (by decide) ?_
        show Steps p.tables e below (T357.setTop (mkF m 422 #[.val (.int p0), .val (.int p1), .val (.int p2), .val (.int p3), .val (.int p4), .val (.int p5), .val (.int (v0_2 p0 p1 p2 p3 p4 p5)), .val (.ref b1), .val (.ref b51), .val (.ref xta1_0_357)] [(.int (1 : Int32))])) _
        exact retN X357 hx (t := .boolean) Bd.returns (by simp) (hb hby at_422) hr
      · skip
        show Q0 Z p0 p1 p2 p3 p4 p5 h0 n0 _ T357.heap _
        exact ⟨rfl, N357⟩
  · skip
    obtain ⟨cq371, kq371, q371a, q371b, q371c⟩ := isOf hZ rfl po58_0
    obtain ⟨vr371, _, ⟨T371, L371, k371, n371⟩, -, X371, ⟨Lc371, hQ371, l371, y371, z371⟩, st371⟩ := X58.virtualBack hx (y := (⟨"com/example/vellum_index/vellumindex/IntList", "size", "()I"⟩ : MethodName)) (z := (⟨"com/example/vellum_index/vellumindex/IntList", "size", "()I"⟩ : MethodName)) hown (mvT hZ (hw _ (List.mem_of_getElem? (i := 20) rfl))) (mvT hZ (hw _ (List.mem_of_getElem? (i := 21) rfl))) (notFace_of_selects (args := #[]) (mvT hZ (hw _ (List.mem_of_getElem? (i := 23) rfl)))) (mvT hZ (hw _ (List.mem_of_getElem? (i := 23) rfl))) (mvT hZ (hw _ (List.mem_of_getElem? (i := 22) rfl))) (by decide) (backOf (W := 0) (rm4 l Z a0 hw [] b51 (0 : Int32) T58.heap n0 z64 po58_1) hZ (hw _ (List.mem_of_getElem? (i := 24) rfl)) (hw _ (List.mem_of_getElem? (i := 4) rfl)) (by decide) (by decide)) q371a q371c (g := (mkF m 215 #[.val (.int p0), .val (.int p1), .val (.int p2), .val (.int p3), .val (.int p4), .val (.int p5), .val (.int (v0_2 p0 p1 p2 p3 p4 p5)), .val (.ref b1), .val (.ref b51), .unset] [(.ref b51)])) rfl (by rw [hml]; rfl) (Steps.refl _) (argsL := []) (rest := []) (lenOf pd___I rfl) rfl (by show 2 * 0 + _ ≤ _; exact Nat.le_of_eq rfl) (hb hby at_215) (fun _ _ => ⟨rfl, rfl, (by decide : 3 + 0 ≤ _), (by decide : 15 + 0 ≤ _)⟩)
    dsimp only [Pt.U, Pt.locs, Pt.cells, Pt.slots] at X371 l371 y371 z371 st371 hQ371
    subst l371 y371 z371
    have N371q := (show _ ∧ _ ∧ _ from hQ371).1
    have hv371 := (show _ ∧ _ ∧ _ from hQ371).2.1
    have e371 := (show _ ∧ _ ∧ _ from hQ371).2.2
    clear hQ371
    subst hv371
    have N371 := Fr.app N58 N371q
    obtain ⟨cq372, kq372, q372a, q372b, q372c⟩ := isOf hZ e371 po58_0
    obtain ⟨vr372, _, ⟨T372, L372, k372, n372⟩, -, X372, ⟨Lc372, hQ372, l372, y372, z372⟩, st372⟩ := X371.virtualBack hx (y := (⟨"com/example/vellum_index/vellumindex/IntList", "toArray", "()[I"⟩ : MethodName)) (z := (⟨"com/example/vellum_index/vellumindex/IntList", "toArray", "()[I"⟩ : MethodName)) hown (mvT hZ (hw _ (List.mem_of_getElem? (i := 25) rfl))) (mvT hZ (hw _ (List.mem_of_getElem? (i := 26) rfl))) (notFace_of_selects (args := #[]) (mvT hZ (hw _ (List.mem_of_getElem? (i := 28) rfl)))) (mvT hZ (hw _ (List.mem_of_getElem? (i := 28) rfl))) (mvT hZ (hw _ (List.mem_of_getElem? (i := 27) rfl))) (by decide) (backOf (W := 0) (rmta0 l Z a0 hw [] b51 x1_0_58 (0 : Int32) (0 : Int32) (0 : Int32) (0 : Int32) k1_1_58 T58.heap n0 z64 po58_0 po58_1 po58_2 po58_3 po58_4) hZ (hw _ (List.mem_of_getElem? (i := 29) rfl)) (hw _ (List.mem_of_getElem? (i := 4) rfl)) (by decide) (by decide)) q372a q372c (g := (mkF m 227 #[.val (.int p0), .val (.int p1), .val (.int p2), .val (.int p3), .val (.int p4), .val (.int p5), .val (.int (v0_2 p0 p1 p2 p3 p4 p5)), .val (.ref b1), .val (.ref b51), .unset] [(.ref b51)])) rfl (by rw [hml]; rfl) (Steps.refl _) (argsL := []) (rest := []) (lenOf pd____I rfl) rfl (by show 2 * 0 + _ ≤ _; exact Nat.le_of_eq rfl) (hb hby at_227) (fun _ _ => ⟨rfl, e371, (by decide : 3 + 1 ≤ _), (by decide : 15 + 0 ≤ _)⟩)
    dsimp only [Pt.U, Pt.locs, Pt.cells, Pt.slots] at X372 l372 y372 z372 st372 hQ372
    subst l372 y372 z372
    have N372q := (show _ ∧ _ from hQ372).1
    have hq372 := (show _ ∧ _ from hQ372).2
    clear hQ372
    obtain ⟨xta0_0_372, kta0_1_372, hq372x⟩ := hq372
    have hv372 := hq372x.1
    have szxta0_0_372 := hq372x.2.1
    have K372 := hq372x.2.2.1
    have po372_0 := hq372x.2.2.2.1
    have po372_1 := hq372x.2.2.2.2
    clear hq372x
    subst hv372
    have k373 := (k59.keep K58)
    have ne374 : b1 ≠ xta0_0_372 := Nat.ne_of_lt (Nat.lt_of_lt_of_le k373.lt szxta0_0_372)
    have ne375 : b51 ≠ xta0_0_372 := Nat.ne_of_lt (Nat.lt_of_lt_of_le po58_0.lt szxta0_0_372)
    have ne376 : x1_0_58 ≠ xta0_0_372 := Nat.ne_of_lt (Nat.lt_of_lt_of_le po58_3.lt szxta0_0_372)
    have g377 : n0 ≤ xta0_0_372 := Nat.le_trans z64 szxta0_0_372
    have sz378 : h0.size ≤ xta0_0_372 := Nat.le_trans hs65 szxta0_0_372
    have z379 : n0 ≤ T372.heap.size := Nat.le_trans z64 K372.1
    have hs380 : h0.size ≤ T372.heap.size := Nat.le_trans hs65 K372.1
    have N372 := Fr.app N371 N372q
    obtain ⟨cl381, Ar381, qc381, S381, M381, Ha381, G381⟩ := id po372_1
    obtain ⟨fs, hr, hrun, hended, hW, hsame⟩ := X372.leave (v := some (.int (1 : Int32))) (fun h => by rw [Bd.returns] at h; cases h) hlk
    refine ⟨_, _, pre66 _ ?_, hrun, hended, _, _, rfl, ?_, ⟨_, rfl⟩, hW, hsame.mono (by decide) (by decide)⟩
    · skip
      show Steps p.tables e below (T58.setTop (mkF m 75 #[.val (.int p0), .val (.int p1), .val (.int p2), .val (.int p3), .val (.int p4), .val (.int p5), .val (.int (v0_2 p0 p1 p2 p3 p4 p5)), .val (.ref b1), .val (.ref b51), .unset] [(.int (v0_2 p0 p1 p2 p3 p4 p5))])) _
      refine XS.ifYes X58.here hx rfl (pc0 := 75) (pc' := 87) rfl (hb hby at_75) rfl (XT.i0_le_t c67) (by decide) (by decide) ?_
      show Steps p.tables e below (T58.setTop (mkF m 87 #[.val (.int p0), .val (.int p1), .val (.int p2), .val (.int p3), .val (.int p4), .val (.int p5), .val (.int (v0_2 p0 p1 p2 p3 p4 p5)), .val (.ref b1), .val (.ref b51), .unset] [])) _
      refine XS.iload X58.here hx rfl (hb hby at_87) rfl ?_
      show Steps p.tables e below (T58.setTop (mkF m 89 #[.val (.int p0), .val (.int p1), .val (.int p2), .val (.int p3), .val (.int p4), .val (.int p5), .val (.int (v0_2 p0 p1 p2 p3 p4 p5)), .val (.ref b1), .val (.ref b51), .unset] [(.int (v0_2 p0 p1 p2 p3 p4 p5))])) _
      refine XT.iconstV X58.here hx rfl (1 : Int32) (hb hby at_89) (by decide) ?_
      show Steps p.tables e below (T58.setTop (mkF m 90 #[.val (.int p0), .val (.int p1), .val (.int p2), .val (.int p3), .val (.int p4), .val (.int p5), .val (.int (v0_2 p0 p1 p2 p3 p4 p5)), .val (.ref b1), .val (.ref b51), .unset] [(.int (1 : Int32)), (.int (v0_2 p0 p1 p2 p3 p4 p5))])) _
      refine XS.icmpYes X58.here hx rfl (pc0 := 90) (pc' := 102) rfl (hb hby at_90) rfl (XT.ii_le_t (own_mono c67 (by decide))) (by decide) (by decide) ?_
      show Steps p.tables e below (T58.setTop (mkF m 102 #[.val (.int p0), .val (.int p1), .val (.int p2), .val (.int p3), .val (.int p4), .val (.int p5), .val (.int (v0_2 p0 p1 p2 p3 p4 p5)), .val (.ref b1), .val (.ref b51), .unset] [])) _
      refine XS.iload X58.here hx rfl (hb hby at_102) rfl ?_
      show Steps p.tables e below (T58.setTop (mkF m 104 #[.val (.int p0), .val (.int p1), .val (.int p2), .val (.int p3), .val (.int p4), .val (.int p5), .val (.int (v0_2 p0 p1 p2 p3 p4 p5)), .val (.ref b1), .val (.ref b51), .unset] [(.int (v0_2 p0 p1 p2 p3 p4 p5))])) _
      refine XT.iconstV X58.here hx rfl (2 : Int32) (hb hby at_104) (by decide) ?_
      show Steps p.tables e below (T58.setTop (mkF m 105 #[.val (.int p0), .val (.int p1), .val (.int p2), .val (.int p3), .val (.int p4), .val (.int p5), .val (.int (v0_2 p0 p1 p2 p3 p4 p5)), .val (.ref b1), .val (.ref b51), .unset] [(.int (2 : Int32)), (.int (v0_2 p0 p1 p2 p3 p4 p5))])) _
      refine XS.icmpYes X58.here hx rfl (pc0 := 105) (pc' := 117) rfl (hb hby at_105) rfl (XT.ii_le_t (own_mono c67 (by decide))) (by decide) (by decide) ?_
      show Steps p.tables e below (T58.setTop (mkF m 117 #[.val (.int p0), .val (.int p1), .val (.int p2), .val (.int p3), .val (.int p4), .val (.int p5), .val (.int (v0_2 p0 p1 p2 p3 p4 p5)), .val (.ref b1), .val (.ref b51), .unset] [])) _
      refine XS.iload X58.here hx rfl (hb hby at_117) rfl ?_
      show Steps p.tables e below (T58.setTop (mkF m 119 #[.val (.int p0), .val (.int p1), .val (.int p2), .val (.int p3), .val (.int p4), .val (.int p5), .val (.int (v0_2 p0 p1 p2 p3 p4 p5)), .val (.ref b1), .val (.ref b51), .unset] [(.int (v0_2 p0 p1 p2 p3 p4 p5))])) _
      refine XT.iconstV X58.here hx rfl (3 : Int32) (hb hby at_119) (by decide) ?_
      show Steps p.tables e below (T58.setTop (mkF m 120 #[.val (.int p0), .val (.int p1), .val (.int p2), .val (.int p3), .val (.int p4), .val (.int p5), .val (.int (v0_2 p0 p1 p2 p3 p4 p5)), .val (.ref b1), .val (.ref b51), .unset] [(.int (3 : Int32)), (.int (v0_2 p0 p1 p2 p3 p4 p5))])) _
      refine XS.icmpYes X58.here hx rfl (pc0 := 120) (pc' := 132) rfl (hb hby at_120) rfl (XT.ii_le_t (own_mono c67 (by decide))) (by decide) (by decide) ?_
      show Steps p.tables e below (T58.setTop (mkF m 132 #[.val (.int p0), .val (.int p1), .val (.int p2), .val (.int p3), .val (.int p4), .val (.int p5), .val (.int (v0_2 p0 p1 p2 p3 p4 p5)), .val (.ref b1), .val (.ref b51), .unset] [])) _
      refine XS.iload X58.here hx rfl (hb hby at_132) rfl ?_
      show Steps p.tables e below (T58.setTop (mkF m 134 #[.val (.int p0), .val (.int p1), .val (.int p2), .val (.int p3), .val (.int p4), .val (.int p5), .val (.int (v0_2 p0 p1 p2 p3 p4 p5)), .val (.ref b1), .val (.ref b51), .unset] [(.int (v0_2 p0 p1 p2 p3 p4 p5))])) _
      refine XT.iconstV X58.here hx rfl (4 : Int32) (hb hby at_134) (by decide) ?_
      show Steps p.tables e below (T58.setTop (mkF m 135 #[.val (.int p0), .val (.int p1), .val (.int p2), .val (.int p3), .val (.int p4), .val (.int p5), .val (.int (v0_2 p0 p1 p2 p3 p4 p5)), .val (.ref b1), .val (.ref b51), .unset] [(.int (4 : Int32)), (.int (v0_2 p0 p1 p2 p3 p4 p5))])) _
      refine XS.icmpYes X58.here hx rfl (pc0 := 135) (pc' := 147) rfl (hb hby at_135) rfl (XT.ii_le_t (own_mono c67 (by decide))) (by decide) (by decide) ?_
      show Steps p.tables e below (T58.setTop (mkF m 147 #[.val (.int p0), .val (.int p1), .val (.int p2), .val (.int p3), .val (.int p4), .val (.int p5), .val (.int (v0_2 p0 p1 p2 p3 p4 p5)), .val (.ref b1), .val (.ref b51), .unset] [])) _
      refine XS.iload X58.here hx rfl (hb hby at_147) rfl ?_
      show Steps p.tables e below (T58.setTop (mkF m 149 #[.val (.int p0), .val (.int p1), .val (.int p2), .val (.int p3), .val (.int p4), .val (.int p5), .val (.int (v0_2 p0 p1 p2 p3 p4 p5)), .val (.ref b1), .val (.ref b51), .unset] [(.int (v0_2 p0 p1 p2 p3 p4 p5))])) _
      refine XT.iconstV X58.here hx rfl (5 : Int32) (hb hby at_149) (by decide) ?_
      show Steps p.tables e below (T58.setTop (mkF m 150 #[.val (.int p0), .val (.int p1), .val (.int p2), .val (.int p3), .val (.int p4), .val (.int p5), .val (.int (v0_2 p0 p1 p2 p3 p4 p5)), .val (.ref b1), .val (.ref b51), .unset] [(.int (5 : Int32)), (.int (v0_2 p0 p1 p2 p3 p4 p5))])) _
      refine XS.icmpYes X58.here hx rfl (pc0 := 150) (pc' := 162) rfl (hb hby at_150) rfl (XT.ii_le_t (own_mono c67 (by decide))) (by decide) (by decide) ?_
      show Steps p.tables e below (T58.setTop (mkF m 162 #[.val (.int p0), .val (.int p1), .val (.int p2), .val (.int p3), .val (.int p4), .val (.int p5), .val (.int (v0_2 p0 p1 p2 p3 p4 p5)), .val (.ref b1), .val (.ref b51), .unset] [])) _
      refine XS.iload X58.here hx rfl (hb hby at_162) rfl ?_
      show Steps p.tables e below (T58.setTop (mkF m 164 #[.val (.int p0), .val (.int p1), .val (.int p2), .val (.int p3), .val (.int p4), .val (.int p5), .val (.int (v0_2 p0 p1 p2 p3 p4 p5)), .val (.ref b1), .val (.ref b51), .unset] [(.int (v0_2 p0 p1 p2 p3 p4 p5))])) _
      refine XT.bipushV X58.here hx rfl (6 : Int32) (hb hby at_164) (by decide) ?_
      show Steps p.tables e below (T58.setTop (mkF m 166 #[.val (.int p0), .val (.int p1), .val (.int p2), .val (.int p3), .val (.int p4), .val (.int p5), .val (.int (v0_2 p0 p1 p2 p3 p4 p5)), .val (.ref b1), .val (.ref b51), .unset] [(.int (6 : Int32)), (.int (v0_2 p0 p1 p2 p3 p4 p5))])) _
      refine XS.icmpYes X58.here hx rfl (pc0 := 166) (pc' := 179) rfl (hb hby at_166) rfl (XT.ii_le_t (own_mono c67 (by decide))) (by decide) (by decide) ?_
      show Steps p.tables e below (T58.setTop (mkF m 179 #[.val (.int p0), .val (.int p1), .val (.int p2), .val (.int p3), .val (.int p4), .val (.int p5), .val (.int (v0_2 p0 p1 p2 p3 p4 p5)), .val (.ref b1), .val (.ref b51), .unset] [])) _
      refine XS.iload X58.here hx rfl (hb hby at_179) rfl ?_
      show Steps p.tables e below (T58.setTop (mkF m 181 #[.val (.int p0), .val (.int p1), .val (.int p2), .val (.int p3), .val (.int p4), .val (.int p5), .val (.int (v0_2 p0 p1 p2 p3 p4 p5)), .val (.ref b1), .val (.ref b51), .unset] [(.int (v0_2 p0 p1 p2 p3 p4 p5))])) _
      refine XT.bipushV X58.here hx rfl (7 : Int32) (hb hby at_181) (by decide) ?_
      show Steps p.tables e below (T58.setTop (mkF m 183 #[.val (.int p0), .val (.int p1), .val (.int p2), .val (.int p3), .val (.int p4), .val (.int p5), .val (.int (v0_2 p0 p1 p2 p3 p4 p5)), .val (.ref b1), .val (.ref b51), .unset] [(.int (7 : Int32)), (.int (v0_2 p0 p1 p2 p3 p4 p5))])) _
      refine XS.icmpYes X58.here hx rfl (pc0 := 183) (pc' := 196) rfl (hb hby at_183) rfl (XT.ii_le_t (own_mono c67 (by decide))) (by decide) (by decide) ?_
      show Steps p.tables e below (T58.setTop (mkF m 196 #[.val (.int p0), .val (.int p1), .val (.int p2), .val (.int p3), .val (.int p4), .val (.int p5), .val (.int (v0_2 p0 p1 p2 p3 p4 p5)), .val (.ref b1), .val (.ref b51), .unset] [])) _
      refine XS.iload X58.here hx rfl (hb hby at_196) rfl ?_
      show Steps p.tables e below (T58.setTop (mkF m 198 #[.val (.int p0), .val (.int p1), .val (.int p2), .val (.int p3), .val (.int p4), .val (.int p5), .val (.int (v0_2 p0 p1 p2 p3 p4 p5)), .val (.ref b1), .val (.ref b51), .unset] [(.int (v0_2 p0 p1 p2 p3 p4 p5))])) _
      refine XT.bipushV X58.here hx rfl (8 : Int32) (hb hby at_198) (by decide) ?_
      show Steps p.tables e below (T58.setTop (mkF m 200 #[.val (.int p0), .val (.int p1), .val (.int p2), .val (.int p3), .val (.int p4), .val (.int p5), .val (.int (v0_2 p0 p1 p2 p3 p4 p5)), .val (.ref b1), .val (.ref b51), .unset] [(.int (8 : Int32)), (.int (v0_2 p0 p1 p2 p3 p4 p5))])) _
      refine XS.icmpYes X58.here hx rfl (pc0 := 200) (pc' := 213) rfl (hb hby at_200) rfl (XT.ii_le_t (own_mono c67 (by decide))) (by decide) (by decide) ?_
      show Steps p.tables e below (T58.setTop (mkF m 213 #[.val (.int p0), .val (.int p1), .val (.int p2), .val (.int p3), .val (.int p4), .val (.int p5), .val (.int (v0_2 p0 p1 p2 p3 p4 p5)), .val (.ref b1), .val (.ref b51), .unset] [])) _
      refine XS.aload X58.here hx rfl (hb hby at_213) rfl rfl ?_
      show Steps p.tables e below (T58.setTop (mkF m 215 #[.val (.int p0), .val (.int p1), .val (.int p2), .val (.int p3), .val (.int p4), .val (.int p5), .val (.int (v0_2 p0 p1 p2 p3 p4 p5)), .val (.ref b1), .val (.ref b51), .unset] [(.ref b51)])) _
      refine st371.trans ?_
      show Steps p.tables e below (T371.setTop (mkF m 218 #[.val (.int p0), .val (.int p1), .val (.int p2), .val (.int p3), .val (.int p4), .val (.int p5), .val (.int (v0_2 p0 p1 p2 p3 p4 p5)), .val (.ref b1), .val (.ref b51), .unset] [(.int (f4 (0 : Int32)))])) _
      refine XS.iload X371.here hx rfl (hb hby at_218) rfl ?_
      show Steps p.tables e below (T371.setTop (mkF m 220 #[.val (.int p0), .val (.int p1), .val (.int p2), .val (.int p3), .val (.int p4), .val (.int p5), .val (.int (v0_2 p0 p1 p2 p3 p4 p5)), .val (.ref b1), .val (.ref b51), .unset] [(.int (v0_2 p0 p1 p2 p3 p4 p5)), (.int (f4 (0 : Int32)))])) _
      refine XS.icmpYes X371.here hx rfl (pc0 := 220) (pc' := 225) rfl (hb hby at_220) rfl (XT.ii_eq_t ((own_eq0 p0 p1 p2 p3 p4 p5 c67)).symm) (by decide) (by decide) ?_
      show Steps p.tables e below (T371.setTop (mkF m 225 #[.val (.int p0), .val (.int p1), .val (.int p2), .val (.int p3), .val (.int p4), .val (.int p5), .val (.int (v0_2 p0 p1 p2 p3 p4 p5)), .val (.ref b1), .val (.ref b51), .unset] [])) _
      refine XS.aload X371.here hx rfl (hb hby at_225) rfl rfl ?_
      show Steps p.tables e below (T371.setTop (mkF m 227 #[.val (.int p0), .val (.int p1), .val (.int p2), .val (.int p3), .val (.int p4), .val (.int p5), .val (.int (v0_2 p0 p1 p2 p3 p4 p5)), .val (.ref b1), .val (.ref b51), .unset] [(.ref b51)])) _
      refine st372.trans ?_
      show Steps p.tables e below (T372.setTop (mkF m 230 #[.val (.int p0), .val (.int p1), .val (.int p2), .val (.int p3), .val (.int p4), .val (.int p5), .val (.int (v0_2 p0 p1 p2 p3 p4 p5)), .val (.ref b1), .val (.ref b51), .unset] [(.ref xta0_0_372)])) _
      refine XS.astore X372.here hx rfl (hb hby at_230) rfl rfl (l' := #[.val (.int p0), .val (.int p1), .val (.int p2), .val (.int p3), .val (.int p4), .val (.int p5), .val (.int (v0_2 p0 p1 p2 p3 p4 p5)), .val (.ref b1), .val (.ref b51), .val (.ref xta0_0_372)]) rfl ?_
      show Steps p.tables e below (T372.setTop (mkF m 232 #[.val (.int p0), .val (.int p1), .val (.int p2), .val (.int p3), .val (.int p4), .val (.int p5), .val (.int (v0_2 p0 p1 p2 p3 p4 p5)), .val (.ref b1), .val (.ref b51), .val (.ref xta0_0_372)] [])) _
      refine XS.aload X372.here hx rfl (hb hby at_232) rfl rfl ?_
      show Steps p.tables e below (T372.setTop (mkF m 234 #[.val (.int p0), .val (.int p1), .val (.int p2), .val (.int p3), .val (.int p4), .val (.int p5), .val (.int (v0_2 p0 p1 p2 p3 p4 p5)), .val (.ref b1), .val (.ref b51), .val (.ref xta0_0_372)] [(.ref xta0_0_372)])) _
      refine X372.arraylength hx Ar381.1 (State.isArrayOf_alike hZ.alike Ar381.2.1) (g := (mkF m 234 #[.val (.int p0), .val (.int p1), .val (.int p2), .val (.int p3), .val (.int p4), .val (.int p5), .val (.int (v0_2 p0 p1 p2 p3 p4 p5)), .val (.ref b1), .val (.ref b51), .val (.ref xta0_0_372)] [(.ref xta0_0_372)])) rfl rfl (hb hby at_234) _ ?_
      rw [len_of S381 M381]
      show Steps p.tables e below (T372.setTop (mkF m 235 #[.val (.int p0), .val (.int p1), .val (.int p2), .val (.int p3), .val (.int p4), .val (.int p5), .val (.int (v0_2 p0 p1 p2 p3 p4 p5)), .val (.ref b1), .val (.ref b51), .val (.ref xta0_0_372)] [(.int (0 : Int32))])) _
      refine XS.iload X372.here hx rfl (hb hby at_235) rfl ?_
      show Steps p.tables e below (T372.setTop (mkF m 237 #[.val (.int p0), .val (.int p1), .val (.int p2), .val (.int p3), .val (.int p4), .val (.int p5), .val (.int (v0_2 p0 p1 p2 p3 p4 p5)), .val (.ref b1), .val (.ref b51), .val (.ref xta0_0_372)] [(.int (v0_2 p0 p1 p2 p3 p4 p5)), (.int (0 : Int32))])) _
      refine XS.icmpYes X372.here hx rfl (pc0 := 237) (pc' := 242) rfl (hb hby at_237) rfl (XT.ii_eq_t ((own_eq0 p0 p1 p2 p3 p4 p5 c67)).symm) (by decide) (by decide) ?_
      show Steps p.tables e below (T372.setTop (mkF m 242 #[.val (.int p0), .val (.int p1), .val (.int p2), .val (.int p3), .val (.int p4), .val (.int p5), .val (.int (v0_2 p0 p1 p2 p3 p4 p5)), .val (.ref b1), .val (.ref b51), .val (.ref xta0_0_372)] [])) _
      refine XS.iload X372.here hx rfl (hb hby at_242) rfl ?_
      show Steps p.tables e below (T372.setTop (mkF m 244 #[.val (.int p0), .val (.int p1), .val (.int p2), .val (.int p3), .val (.int p4), .val (.int p5), .val (.int (v0_2 p0 p1 p2 p3 p4 p5)), .val (.ref b1), .val (.ref b51), .val (.ref xta0_0_372)] [(.int (v0_2 p0 p1 p2 p3 p4 p5))])) _
      refine XS.ifYes X372.here hx rfl (pc0 := 244) (pc' := 260) rfl (hb hby at_244) rfl (XT.i0_le_t c67) (by decide) (by decide) ?_
      show Steps p.tables e below (T372.setTop (mkF m 260 #[.val (.int p0), .val (.int p1), .val (.int p2), .val (.int p3), .val (.int p4), .val (.int p5), .val (.int (v0_2 p0 p1 p2 p3 p4 p5)), .val (.ref b1), .val (.ref b51), .val (.ref xta0_0_372)] [])) _
      refine XS.iload X372.here hx rfl (hb hby at_260) rfl ?_
      show Steps p.tables e below (T372.setTop (mkF m 262 #[.val (.int p0), .val (.int p1), .val (.int p2), .val (.int p3), .val (.int p4), .val (.int p5), .val (.int (v0_2 p0 p1 p2 p3 p4 p5)), .val (.ref b1), .val (.ref b51), .val (.ref xta0_0_372)] [(.int (v0_2 p0 p1 p2 p3 p4 p5))])) _
      refine XT.iconstV X372.here hx rfl (1 : Int32) (hb hby at_262) (by decide) ?_
      show Steps p.tables e below (T372.setTop (mkF m 263 #[.val (.int p0), .val (.int p1), .val (.int p2), .val (.int p3), .val (.int p4), .val (.int p5), .val (.int (v0_2 p0 p1 p2 p3 p4 p5)), .val (.ref b1), .val (.ref b51), .val (.ref xta0_0_372)] [(.int (1 : Int32)), (.int (v0_2 p0 p1 p2 p3 p4 p5))])) _
      refine XS.icmpYes X372.here hx rfl (pc0 := 263) (pc' := 279) rfl (hb hby at_263) rfl (XT.ii_le_t (own_mono c67 (by decide))) (by decide) (by decide) ?_
      show Steps p.tables e below (T372.setTop (mkF m 279 #[.val (.int p0), .val (.int p1), .val (.int p2), .val (.int p3), .val (.int p4), .val (.int p5), .val (.int (v0_2 p0 p1 p2 p3 p4 p5)), .val (.ref b1), .val (.ref b51), .val (.ref xta0_0_372)] [])) _
      refine XS.iload X372.here hx rfl (hb hby at_279) rfl ?_
      show Steps p.tables e below (T372.setTop (mkF m 281 #[.val (.int p0), .val (.int p1), .val (.int p2), .val (.int p3), .val (.int p4), .val (.int p5), .val (.int (v0_2 p0 p1 p2 p3 p4 p5)), .val (.ref b1), .val (.ref b51), .val (.ref xta0_0_372)] [(.int (v0_2 p0 p1 p2 p3 p4 p5))])) _
      refine XT.iconstV X372.here hx rfl (2 : Int32) (hb hby at_281) (by decide) ?_
      show Steps p.tables e below (T372.setTop (mkF m 282 #[.val (.int p0), .val (.int p1), .val (.int p2), .val (.int p3), .val (.int p4), .val (.int p5), .val (.int (v0_2 p0 p1 p2 p3 p4 p5)), .val (.ref b1), .val (.ref b51), .val (.ref xta0_0_372)] [(.int (2 : Int32)), (.int (v0_2 p0 p1 p2 p3 p4 p5))])) _
      refine XS.icmpYes X372.here hx rfl (pc0 := 282) (pc' := 298) rfl (hb hby at_282) rfl (XT.ii_le_t (own_mono c67 (by decide))) (by decide) (by decide) ?_
      show Steps p.tables e below (T372.setTop (mkF m 298 #[.val (.int p0), .val (.int p1), .val (.int p2), .val (.int p3), .val (.int p4), .val (.int p5), .val (.int (v0_2 p0 p1 p2 p3 p4 p5)), .val (.ref b1), .val (.ref b51), .val (.ref xta0_0_372)] [])) _
      refine XS.iload X372.here hx rfl (hb hby at_298) rfl ?_
      show Steps p.tables e below (T372.setTop (mkF m 300 #[.val (.int p0), .val (.int p1), .val (.int p2), .val (.int p3), .val (.int p4), .val (.int p5), .val (.int (v0_2 p0 p1 p2 p3 p4 p5)), .val (.ref b1), .val (.ref b51), .val (.ref xta0_0_372)] [(.int (v0_2 p0 p1 p2 p3 p4 p5))])) _
      refine XT.iconstV X372.here hx rfl (3 : Int32) (hb hby at_300) (by decide) ?_
      show Steps p.tables e below (T372.setTop (mkF m 301 #[.val (.int p0), .val (.int p1), .val (.int p2), .val (.int p3), .val (.int p4), .val (.int p5), .val (.int (v0_2 p0 p1 p2 p3 p4 p5)), .val (.ref b1), .val (.ref b51), .val (.ref xta0_0_372)] [(.int (3 : Int32)), (.int (v0_2 p0 p1 p2 p3 p4 p5))])) _
      refine XS.icmpYes X372.here hx rfl (pc0 := 301) (pc' := 317) rfl (hb hby at_301) rfl (XT.ii_le_t (own_mono c67 (by decide))) (by decide) (by decide) ?_
      show Steps p.tables e below (T372.setTop (mkF m 317 #[.val (.int p0), .val (.int p1), .val (.int p2), .val (.int p3), .val (.int p4), .val (.int p5), .val (.int (v0_2 p0 p1 p2 p3 p4 p5)), .val (.ref b1), .val (.ref b51), .val (.ref xta0_0_372)] [])) _
      refine XS.iload X372.here hx rfl (hb hby at_317) rfl ?_
      show Steps p.tables e below (T372.setTop (mkF m 319 #[.val (.int p0), .val (.int p1), .val (.int p2), .val (.int p3), .val (.int p4), .val (.int p5), .val (.int (v0_2 p0 p1 p2 p3 p4 p5)), .val (.ref b1), .val (.ref b51), .val (.ref xta0_0_372)] [(.int (v0_2 p0 p1 p2 p3 p4 p5))])) _
      refine XT.iconstV X372.here hx rfl (4 : Int32) (hb hby at_319) (by decide) ?_
      show Steps p.tables e below (T372.setTop (mkF m 320 #[.val (.int p0), .val (.int p1), .val (.int p2), .val (.int p3), .val (.int p4), .val (.int p5), .val (.int (v0_2 p0 p1 p2 p3 p4 p5)), .val (.ref b1), .val (.ref b51), .val (.ref xta0_0_372)] [(.int (4 : Int32)), (.int (v0_2 p0 p1 p2 p3 p4 p5))])) _
      refine XS.icmpYes X372.here hx rfl (pc0 := 320) (pc' := 336) rfl (hb hby at_320) rfl (XT.ii_le_t (own_mono c67 (by decide))) (by decide) (by decide) ?_
      show Steps p.tables e below (T372.setTop (mkF m 336 #[.val (.int p0), .val (.int p1), .val (.int p2), .val (.int p3), .val (.int p4), .val (.int p5), .val (.int (v0_2 p0 p1 p2 p3 p4 p5)), .val (.ref b1), .val (.ref b51), .val (.ref xta0_0_372)] [])) _
      refine XS.iload X372.here hx rfl (hb hby at_336) rfl ?_
      show Steps p.tables e below (T372.setTop (mkF m 338 #[.val (.int p0), .val (.int p1), .val (.int p2), .val (.int p3), .val (.int p4), .val (.int p5), .val (.int (v0_2 p0 p1 p2 p3 p4 p5)), .val (.ref b1), .val (.ref b51), .val (.ref xta0_0_372)] [(.int (v0_2 p0 p1 p2 p3 p4 p5))])) _
      refine XT.iconstV X372.here hx rfl (5 : Int32) (hb hby at_338) (by decide) ?_
      show Steps p.tables e below (T372.setTop (mkF m 339 #[.val (.int p0), .val (.int p1), .val (.int p2), .val (.int p3), .val (.int p4), .val (.int p5), .val (.int (v0_2 p0 p1 p2 p3 p4 p5)), .val (.ref b1), .val (.ref b51), .val (.ref xta0_0_372)] [(.int (5 : Int32)), (.int (v0_2 p0 p1 p2 p3 p4 p5))])) _
      refine XS.icmpYes X372.here hx rfl (pc0 := 339) (pc' := 355) rfl (hb hby at_339) rfl (XT.ii_le_t (own_mono c67 (by decide))) (by decide) (by decide) ?_
      show Steps p.tables e below (T372.setTop (mkF m 355 #[.val (.int p0), .val (.int p1), .val (.int p2), .val (.int p3), .val (.int p4), .val (.int p5), .val (.int (v0_2 p0 p1 p2 p3 p4 p5)), .val (.ref b1), .val (.ref b51), .val (.ref xta0_0_372)] [])) _
      refine XS.iload X372.here hx rfl (hb hby at_355) rfl ?_
      show Steps p.tables e below (T372.setTop (mkF m 357 #[.val (.int p0), .val (.int p1), .val (.int p2), .val (.int p3), .val (.int p4), .val (.int p5), .val (.int (v0_2 p0 p1 p2 p3 p4 p5)), .val (.ref b1), .val (.ref b51), .val (.ref xta0_0_372)] [(.int (v0_2 p0 p1 p2 p3 p4 p5))])) _
      refine XT.bipushV X372.here hx rfl (6 : Int32) (hb hby at_357) (by decide) ?_
      show Steps p.tables e below (T372.setTop (mkF m 359 #[.val (.int p0), .val (.int p1), .val (.int p2), .val (.int p3), .val (.int p4), .val (.int p5), .val (.int (v0_2 p0 p1 p2 p3 p4 p5)), .val (.ref b1), .val (.ref b51), .val (.ref xta0_0_372)] [(.int (6 : Int32)), (.int (v0_2 p0 p1 p2 p3 p4 p5))])) _
      refine XS.icmpYes X372.here hx rfl (pc0 := 359) (pc' := 377) rfl (hb hby at_359) rfl (XT.ii_le_t (own_mono c67 (by decide))) (by decide) (by decide) ?_
      show Steps p.tables e below (T372.setTop (mkF m 377 #[.val (.int p0), .val (.int p1), .val (.int p2), .val (.int p3), .val (.int p4), .val (.int p5), .val (.int (v0_2 p0 p1 p2 p3 p4 p5)), .val (.ref b1), .val (.ref b51), .val (.ref xta0_0_372)] [])) _
      refine XS.iload X372.here hx rfl (hb hby at_377) rfl ?_
      show Steps p.tables e below (T372.setTop (mkF m 379 #[.val (.int p0), .val (.int p1), .val (.int p2), .val (.int p3), .val (.int p4), .val (.int p5), .val (.int (v0_2 p0 p1 p2 p3 p4 p5)), .val (.ref b1), .val (.ref b51), .val (.ref xta0_0_372)] [(.int (v0_2 p0 p1 p2 p3 p4 p5))])) _
      refine XT.bipushV X372.here hx rfl (7 : Int32) (hb hby at_379) (by decide) ?_
      show Steps p.tables e below (T372.setTop (mkF m 381 #[.val (.int p0), .val (.int p1), .val (.int p2), .val (.int p3), .val (.int p4), .val (.int p5), .val (.int (v0_2 p0 p1 p2 p3 p4 p5)), .val (.ref b1), .val (.ref b51), .val (.ref xta0_0_372)] [(.int (7 : Int32)), (.int (v0_2 p0 p1 p2 p3 p4 p5))])) _
      refine XS.icmpYes X372.here hx rfl (pc0 := 381) (pc' := 399) rfl (hb hby at_381) rfl (XT.ii_le_t (own_mono c67 (by decide))) (by decide) (by decide) ?_
      show Steps p.tables e below (T372.setTop (mkF m 399 #[.val (.int p0), .val (.int p1), .val (.int p2), .val (.int p3), .val (.int p4), .val (.int p5), .val (.int (v0_2 p0 p1 p2 p3 p4 p5)), .val (.ref b1), .val (.ref b51), .val (.ref xta0_0_372)] [])) _
      refine XS.iload X372.here hx rfl (hb hby at_399) rfl ?_
      show Steps p.tables e below (T372.setTop (mkF m 401 #[.val (.int p0), .val (.int p1), .val (.int p2), .val (.int p3), .val (.int p4), .val (.int p5), .val (.int (v0_2 p0 p1 p2 p3 p4 p5)), .val (.ref b1), .val (.ref b51), .val (.ref xta0_0_372)] [(.int (v0_2 p0 p1 p2 p3 p4 p5))])) _
      refine XT.bipushV X372.here hx rfl (8 : Int32) (hb hby at_401) (by decide) ?_
      show Steps p.tables e below (T372.setTop (mkF m 403 #[.val (.int p0), .val (.int p1), .val (.int p2), .val (.int p3), .val (.int p4), .val (.int p5), .val (.int (v0_2 p0 p1 p2 p3 p4 p5)), .val (.ref b1), .val (.ref b51), .val (.ref xta0_0_372)] [(.int (8 : Int32)), (.int (v0_2 p0 p1 p2 p3 p4 p5))])) _
      refine XS.icmpYes X372.here hx rfl (pc0 := 403) (pc' := 421) rfl (hb hby at_403) rfl (XT.ii_le_t (own_mono c67 (by decide))) (by decide) (by decide) ?_
      show Steps p.tables e below (T372.setTop (mkF m 421 #[.val (.int p0), .val (.int p1), .val (.int p2), .val (.int p3), .val (.int p4), .val (.int p5), .val (.int (v0_2 p0 p1 p2 p3 p4 p5)), .val (.ref b1), .val (.ref b51), .val (.ref xta0_0_372)] [])) _
      refine XT.iconstV X372.here hx rfl (1 : Int32) (hb hby at_421) (by decide) ?_
      show Steps p.tables e below (T372.setTop (mkF m 422 #[.val (.int p0), .val (.int p1), .val (.int p2), .val (.int p3), .val (.int p4), .val (.int p5), .val (.int (v0_2 p0 p1 p2 p3 p4 p5)), .val (.ref b1), .val (.ref b51), .val (.ref xta0_0_372)] [(.int (1 : Int32))])) _
      exact retN X372 hx (t := .boolean) Bd.returns (by simp) (hb hby at_422) hr
    · skip
      show Q0 Z p0 p1 p2 p3 p4 p5 h0 n0 _ T372.heap _
      exact ⟨rfl, N372⟩
set_option maxRecDepth 65536 in
set_option maxHeartbeats 40000000 in
theorem comes_1 {Post : Tables → Env → Array Value → State → Outcome → State → Prop} (hpost : ∀ tb e args s v u, (limb_1_1.after args s (.returned v) u = true ∧ limb_1_2.after args s (.returned v) u = true ∧ True) → FrameEnd s (.returned v) u (Jvm.fieldLocs frame_1_writes args s ++ Jvm.arrayLocs frame_1_arrays args s ++ Jvm.staticLocs frame_1_statics s) 24 192 → Post tb e args s (.returned v) u) :
    ArmFor flags0 classFile x code maxLocals ret World_1 tables_1 room_1 Calls_1 rest_1 Pre_1 Post := by
  intro l hfl _ _ p e ha hc hk s m args below hf hA hF happ hP
  obtain ⟨hcalls, hrest, hpre⟩ := hP
  obtain ⟨-, -, -, hnamed, -, -, -, hat⟩ := (Spec.applies_iff hf).mp happ
  obtain ⟨hg, hn⟩ := and_e (Cond.before_iff.mp (show (Jvm.Cond.and given_1 narrow_1).before args s = true from hpre))
  obtain ⟨hcount, r0⟩ := and_e hg
  obtain ⟨ha0, r1⟩ := and_e r0
  obtain ⟨ha1, r2⟩ := and_e r1
  obtain ⟨ha2, r3⟩ := and_e r2
  obtain ⟨ha3, r4⟩ := and_e r3
  obtain ⟨ha4, r5⟩ := and_e r4
  obtain ⟨w0, w1, w2, w3, w4, w5, rfl⟩ : ∃ w0 w1 w2 w3 w4 w5 : Value, args = #[w0, w1, w2, w3, w4, w5] := by
    have hs : args.size = 6 := by simpa [Cond.value, given_1] using hcount
    obtain ⟨L⟩ := args
    match L, hs with
    | [w0, w1, w2, w3, w4, w5], _ => exact ⟨w0, w1, w2, w3, w4, w5, rfl⟩
  have hw := fun d (hd : d ∈ tables_1) => atoms_spec (ws := Jvm.Cond.code x code maxLocals ret :: tables_1) hat d (List.mem_cons_of_mem _ hd)
  have hfit : Fit s := fun {y c} hc i hi => by
    obtain ⟨ha, rfl⟩ := Array.getElem?_eq_some_iff.mp hc
    have q := List.all_eq_true.mp ((Array.all_eq_true_iff_forall_mem.mp hF) _ (Array.getElem_mem ha)) i (List.mem_range.mpr hi)
    simpa [Array.getElem?_eq_getElem hi] using q
  obtain ⟨i0, ei0⟩ := is_v ha0
  obtain rfl : w0 = (.int i0) := Option.some.inj ei0
  obtain ⟨i1, ei1⟩ := is_v ha1
  obtain rfl : w1 = (.int i1) := Option.some.inj ei1
  obtain ⟨i2, ei2⟩ := is_v ha2
  obtain rfl : w2 = (.int i2) := Option.some.inj ei2
  obtain ⟨i3, ei3⟩ := is_v ha3
  obtain rfl : w3 = (.int i3) := Option.some.inj ei3
  obtain ⟨i4, ei4⟩ := is_v ha4
  obtain rfl : w4 = (.int i4) := Option.some.inj ei4
  obtain ⟨i5, ei5⟩ := is_v r5
  obtain rfl : w5 = (.int i5) := Option.some.inj ei5
  obtain ⟨n, o, h1, h2, h3, _, L, rfl, ⟨rfl, N⟩, hq⟩ := rm0 l s _ hw tables_1 i0 i1 i2 i3 i4 i5 s.heap s.heap.size (Nat.le_refl _) p e ha hc hk s m _ below hf ((Spec.applies_iff_loose hf).mp happ).1 ⟨rfl, State.Warmed39.refl s, rfl⟩ trivial
  refine ⟨n, _, h1, h2, h3, hpost _ _ _ _ _ _ ⟨Cond.after_iff.mpr rfl, Cond.after_iff.mpr (eq_i res_at (Term.int_eval (1)) rfl), trivial⟩ ⟨hq.1, hq.2.1, (hq.2.2.sift fun y hy => Or.inr (N y hy)).mono (by decide) (by decide)⟩⟩
theorem main_1_1 : Claimed_1_1 := comes_1 fun _ _ _ _ _ _ h hF => ⟨h.1, hF⟩
theorem main_1_2 : Claimed_1_2 := comes_1 fun _ _ _ _ _ _ h hF => ⟨h.2.1, hF⟩
end Jvm.Pilot.@@N@@
namespace Jvm.Pilot.@@N@@
open Jvm Jvm.ClassFile Sem Op Lib Jvm.Free Jvm.Stand Jvm.Pilot.@@N@@.Jvm.D
/-! MADE BY PROGRAM (witnessworld.py) out of the Statement's table words and the real class files: 12 classes; the members and pool entries that the words name. The judged class is class 1, her method 1. -/
namespace start1
open Jvm.ClassFile
def u (s : String) : CpInfo := .utf8 (stringToUtf16 s)
/-- a pool by its gaps: so many unusable entries, then the entry; so many at the end -/
def gap : Nat → List CpInfo → List CpInfo
  | 0, r => r
  | n + 1, r => .unusable :: gap n r
def poolList (es : List (Nat × CpInfo)) (last : Nat) : List CpInfo := es.foldr (fun e r => gap e.1 (e.2 :: r)) (gap last [])
def pool (es : List (Nat × CpInfo)) (last : Nat) : Array CpInfo := ⟨poolList es last⟩
def fileOf (pool : Array CpInfo) (this : Nat) (attrs : Array Attribute := #[]) (ms : Array MethodInfo := #[]) (fl : Nat := 33) (sup : Nat := 0) (ifs : Array Nat := #[]) (fds : Array FieldInfo := #[]) : ClassFile where
  minorVersion := 0
  majorVersion := 65
  constantPool := pool
  accessFlags := fl
  thisClass := this
  superClass := sup
  interfaces := ifs
  fields := fds
  methods := ms
  attributes := attrs
def plain (name : String) (sup : Option ClassId) : Class where
  name := name
  kind := .ordinary
  loader := none
  accessFlags := 33
  super := sup
  interfaces := #[]
  cf := none
  fields := #[]
  methods := #[]
  instanceTypes := #[]
  staticTypes := #[]
  resolved := #[]
  callSites := []
  init := .initialized
  statics := none
  mirror := none

def pool0 : Array CpInfo := pool [(5, u "<init>"), (0, u "()V"), (1, .class_ 10), (1, u "java/lang/Object"), (85, u "clone"), (0, u "()Ljava/lang/Object;")] 26

def k0c0 : Code := { maxStack := 0, maxLocals := 1, code := object_method_1_code, exceptionTable := #[], attributes := #[] }
def k0m0 : Method := { name := "<init>", desc := "()V", sig := { parameters := [], returnType := none }, accessFlags := 1, code := some k0c0 }
def k0m1 : Method := { name := "clone", desc := "()Ljava/lang/Object;", sig := { parameters := [], returnType := some (.object "java/lang/Object") }, accessFlags := 260, code := none }
/-- java/lang/Object -/
def k0 : Class := { plain "java/lang/Object" none with
  accessFlags := 33
  interfaces := #[]
  cf := some (fileOf pool0 8 #[] #[{ accessFlags := 1, nameIndex := 5, descriptorIndex := 6, attributes := #[] }, { accessFlags := 260, nameIndex := 96, descriptorIndex := 97, attributes := #[] }] 33 0 #[] #[])
  fields := #[]
  methods := #[k0m0, k0m1]
  instanceTypes := #[]
  staticTypes := #[]
  resolved := Array.replicate 124 none
  statics := none }

def pool1 : Array CpInfo := pool [(2, .class_ 4), (0, .nameAndType 5 6), (0, u "java/lang/Object"), (0, u "<init>"), (0, u "()V"), (0, .integer 2147483647), (0, .class_ 9), (0, u "com/example/vellum_index/vellumindex/IntList"), (0, .methodref 8 3), (0, .methodref 8 12), (0, .nameAndType 13 14), (0, u "add"), (0, u "(I)V"), (0, .methodref 8 16), (0, .nameAndType 17 18), (0, u "size"), (0, u "()I"), (0, .methodref 8 20), (0, .nameAndType 21 22), (0, u "toArray"), (0, u "()[I"), (0, .class_ 24), (0, u "com/example/vellum_index/vellumindex/IntListAddPinLaw"), (2, u "law"), (0, u "(IIIIII)Z")] 5

def k1m0 : Method := { name := "<init>", desc := "()V", sig := { parameters := [], returnType := none }, accessFlags := 1, code := none }
def k1c1 : Code := { maxStack := 5, maxLocals := 10, code := code, exceptionTable := #[], attributes := #[] }
def k1m1 : Method := { name := "law", desc := "(IIIIII)Z", sig := { parameters := [.int, .int, .int, .int, .int, .int], returnType := some .boolean }, accessFlags := 9, code := some k1c1 }
/-- com/example/vellum_index/vellumindex/IntListAddPinLaw -/
def k1 : Class := { plain "com/example/vellum_index/vellumindex/IntListAddPinLaw" (some 0) with
  accessFlags := 49
  interfaces := #[]
  cf := some (fileOf pool1 23 #[] #[{ accessFlags := 1, nameIndex := 5, descriptorIndex := 6, attributes := #[] }, { accessFlags := 9, nameIndex := 27, descriptorIndex := 28, attributes := #[] }] 49 2 #[] #[])
  fields := #[]
  methods := #[k1m0, k1m1]
  instanceTypes := #[]
  staticTypes := #[]
  resolved := Array.replicate 34 none
  statics := none }

def pool2 : Array CpInfo := pool [(1, .methodref 2 3), (0, .class_ 4), (0, .nameAndType 5 6), (0, u "java/lang/Object"), (0, u "<init>"), (0, u "()V"), (0, .fieldref 8 9), (0, .class_ 10), (0, .nameAndType 11 12), (0, u "com/example/vellum_index/vellumindex/IntList"), (0, u "values"), (0, u "[I"), (0, .fieldref 8 14), (0, .nameAndType 15 16), (0, u "size"), (0, u "I"), (0, .methodref 18 19), (0, .class_ 20), (0, .nameAndType 21 22), (0, u "java/util/Arrays"), (0, u "copyOf"), (0, u "([II)[I"), (4, u "(I)V"), (2, u "add"), (5, u "()I"), (1, u "toArray"), (0, u "()[I")] 2

def k2c0 : Code := { maxStack := 2, maxLocals := 1, code := prog_8_method_1_code, exceptionTable := #[], attributes := #[] }
def k2m0 : Method := { name := "<init>", desc := "()V", sig := { parameters := [], returnType := none }, accessFlags := 0, code := some k2c0 }
def k2c1 : Code := { maxStack := 5, maxLocals := 2, code := prog_8_method_2_code, exceptionTable := #[], attributes := #[] }
def k2m1 : Method := { name := "add", desc := "(I)V", sig := { parameters := [.int], returnType := none }, accessFlags := 0, code := some k2c1 }
def k2c2 : Code := { maxStack := 1, maxLocals := 1, code := prog_8_method_5_code, exceptionTable := #[], attributes := #[] }
def k2m2 : Method := { name := "size", desc := "()I", sig := { parameters := [], returnType := some .int }, accessFlags := 0, code := some k2c2 }
def k2c3 : Code := { maxStack := 2, maxLocals := 1, code := prog_8_method_7_code, exceptionTable := #[], attributes := #[] }
def k2m3 : Method := { name := "toArray", desc := "()[I", sig := { parameters := [], returnType := some (.array .int) }, accessFlags := 0, code := some k2c3 }
/-- com/example/vellum_index/vellumindex/IntList -/
def k2 : Class := { plain "com/example/vellum_index/vellumindex/IntList" (some 0) with
  accessFlags := 48
  interfaces := #[]
  cf := some (fileOf pool2 8 #[] #[{ accessFlags := 0, nameIndex := 5, descriptorIndex := 6, attributes := #[] }, { accessFlags := 0, nameIndex := 30, descriptorIndex := 27, attributes := #[] }, { accessFlags := 0, nameIndex := 15, descriptorIndex := 36, attributes := #[] }, { accessFlags := 0, nameIndex := 38, descriptorIndex := 39, attributes := #[] }] 48 2 #[] #[{ accessFlags := 2, nameIndex := 11, descriptorIndex := 12, attributes := #[] }, { accessFlags := 2, nameIndex := 15, descriptorIndex := 16, attributes := #[] }])
  fields := #[{ name := "values", type := (.array .int), accessFlags := 2, slot := 0, constantValue := 0 }, { name := "size", type := .int, accessFlags := 2, slot := 1, constantValue := 0 }]
  methods := #[k2m0, k2m1, k2m2, k2m3]
  instanceTypes := #[(.array .int), .int]
  staticTypes := #[]
  resolved := Array.replicate 42 none
  statics := none }

def pool3 : Array CpInfo := pool [(2, .class_ 4), (1, u "java/lang/Object"), (0, u "<init>"), (0, u "()V"), (7, .class_ 16), (1, u "java/util/Arrays"), (57, .class_ 76), (1, u "java/util/Arrays$NaturalOrder"), (32, u "()Ljava/lang/Object;"), (3, .class_ 115), (1, u "java/util/Arrays$LegacyMergeSort"), (1, u "Z"), (10, .nameAndType 129 109), (0, u "clone"), (20, .methodref 151 152), (0, .class_ 153), (0, .nameAndType 154 155), (0, u "java/lang/System"), (0, u "arraycopy"), (0, u "(Ljava/lang/Object;ILjava/lang/Object;II)V"), (146, u "copyOf"), (1, .methodref 305 306), (0, .class_ 307), (0, .nameAndType 308 309), (0, u "java/lang/Math"), (0, u "min"), (0, u "(II)I"), (6, .methodref 317 128), (0, .class_ 318), (0, u "[I"), (56, .class_ 376), (0, u "java/util/Arrays$ArrayList"), (68, u "$assertionsDisabled"), (269, u "MIN_ARRAY_SORT_GRAN"), (0, u "I"), (2, u "INSERTIONSORT_THRESHOLD"), (151, u "([II)[I"), (103, .class_ 976), (0, u "java/util/Arrays$ArrayItr")] 52

def k3m0 : Method := { name := "<init>", desc := "()V", sig := { parameters := [], returnType := none }, accessFlags := 2, code := none }
def k3c1 : Code := { maxStack := 6, maxLocals := 3, code := jdk_65_method_123_code, exceptionTable := #[], attributes := #[] }
def k3m1 : Method := { name := "copyOf", desc := "([II)[I", sig := { parameters := [(.array .int), .int], returnType := some (.array .int) }, accessFlags := 9, code := some k3c1 }
/-- java/util/Arrays -/
def k3 : Class := { plain "java/util/Arrays" (some 0) with
  accessFlags := 49
  interfaces := #[]
  cf := some (fileOf pool3 14 #[.nestMembers #[975, 375, 113, 74]] #[{ accessFlags := 2, nameIndex := 5, descriptorIndex := 6, attributes := #[] }, { accessFlags := 9, nameIndex := 302, descriptorIndex := 871, attributes := #[] }] 49 2 #[] #[{ accessFlags := 26, nameIndex := 715, descriptorIndex := 716, attributes := #[] }, { accessFlags := 26, nameIndex := 719, descriptorIndex := 716, attributes := #[] }, { accessFlags := 4120, nameIndex := 445, descriptorIndex := 117, attributes := #[] }])
  fields := #[{ name := "MIN_ARRAY_SORT_GRAN", type := .int, accessFlags := 26, slot := 0, constantValue := 0 }, { name := "INSERTIONSORT_THRESHOLD", type := .int, accessFlags := 26, slot := 1, constantValue := 0 }, { name := "$assertionsDisabled", type := .boolean, accessFlags := 4120, slot := 2, constantValue := 0 }]
  methods := #[k3m0, k3m1]
  instanceTypes := #[]
  staticTypes := #[.int, .int, .boolean]
  resolved := Array.replicate 1029 none
  statics := none }

def pool4 : Array CpInfo := pool [(1, .class_ 2), (0, u "java/lang/Math"), (1, .class_ 6), (1, u "java/lang/Object"), (0, u "<init>"), (0, u "()V"), (89, .class_ 100), (1, u "java/lang/Math$RandomNumberGeneratorHolder"), (71, u "negativeZeroFloatBits"), (0, u "J"), (2, u "negativeZeroDoubleBits"), (24, u "min"), (43, u "$assertionsDisabled"), (0, u "Z"), (88, u "(II)I"), (2, u "twoToTheDoubleScaleDown"), (0, u "D"), (4, u "twoToTheDoubleScaleUp"), (9, u "E"), (3, u "PI"), (2, u "TAU"), (2, u "DEGREES_TO_RADIANS"), (0, u "RADIANS_TO_DEGREES")] 94

def k4m0 : Method := { name := "<init>", desc := "()V", sig := { parameters := [], returnType := none }, accessFlags := 2, code := none }
def k4c1 : Code := { maxStack := 2, maxLocals := 2, code := jdk_29_method_69_code, exceptionTable := #[], attributes := #[] }
def k4m1 : Method := { name := "min", desc := "(II)I", sig := { parameters := [.int, .int], returnType := some .int }, accessFlags := 9, code := some k4c1 }
/-- java/lang/Math -/
def k4 : Class := { plain "java/lang/Math" (some 0) with
  accessFlags := 49
  interfaces := #[]
  cf := some (fileOf pool4 1 #[.nestMembers #[98]] #[{ accessFlags := 2, nameIndex := 7, descriptorIndex := 8, attributes := #[] }, { accessFlags := 9, nameIndex := 201, descriptorIndex := 335, attributes := #[] }] 49 4 #[] #[{ accessFlags := 25, nameIndex := 354, descriptorIndex := 339, attributes := #[] }, { accessFlags := 25, nameIndex := 358, descriptorIndex := 339, attributes := #[] }, { accessFlags := 25, nameIndex := 361, descriptorIndex := 339, attributes := #[] }, { accessFlags := 26, nameIndex := 364, descriptorIndex := 339, attributes := #[] }, { accessFlags := 26, nameIndex := 365, descriptorIndex := 339, attributes := #[] }, { accessFlags := 26, nameIndex := 172, descriptorIndex := 173, attributes := #[] }, { accessFlags := 26, nameIndex := 176, descriptorIndex := 173, attributes := #[] }, { accessFlags := 8, nameIndex := 344, descriptorIndex := 339, attributes := #[] }, { accessFlags := 8, nameIndex := 338, descriptorIndex := 339, attributes := #[] }, { accessFlags := 4120, nameIndex := 245, descriptorIndex := 246, attributes := #[] }])
  fields := #[{ name := "E", type := .double, accessFlags := 25, slot := 0, constantValue := 0 }, { name := "PI", type := .double, accessFlags := 25, slot := 1, constantValue := 0 }, { name := "TAU", type := .double, accessFlags := 25, slot := 2, constantValue := 0 }, { name := "DEGREES_TO_RADIANS", type := .double, accessFlags := 26, slot := 3, constantValue := 0 }, { name := "RADIANS_TO_DEGREES", type := .double, accessFlags := 26, slot := 4, constantValue := 0 }, { name := "negativeZeroFloatBits", type := .long, accessFlags := 26, slot := 5, constantValue := 0 }, { name := "negativeZeroDoubleBits", type := .long, accessFlags := 26, slot := 6, constantValue := 0 }, { name := "twoToTheDoubleScaleUp", type := .double, accessFlags := 8, slot := 7, constantValue := 0 }, { name := "twoToTheDoubleScaleDown", type := .double, accessFlags := 8, slot := 8, constantValue := 0 }, { name := "$assertionsDisabled", type := .boolean, accessFlags := 4120, slot := 9, constantValue := 0 }]
  methods := #[k4m0, k4m1]
  instanceTypes := #[]
  staticTypes := #[.double, .double, .double, .double, .double, .long, .long, .double, .double, .boolean]
  resolved := Array.replicate 460 none
  statics := none }

def pool5 : Array CpInfo := pool [(2, .class_ 4), (1, u "java/lang/Object"), (0, u "<init>"), (0, u "()V"), (1, .class_ 10), (1, u "java/lang/System"), (0, u "allowSecurityManager"), (0, u "I"), (16, u "cons"), (0, u "Ljava/io/Console;"), (77, .class_ 110), (1, u "java/lang/System$CallersHolder"), (43, u "initialErrStream"), (0, u "Ljava/io/PrintStream;"), (19, u "security"), (0, u "Ljava/lang/SecurityManager;"), (31, .class_ 209), (0, u "java/lang/System$1"), (7, u "props"), (0, u "Ljava/util/Properties;"), (2, u "lineSeparator"), (0, u "Ljava/lang/String;"), (96, .class_ 321), (1, u "java/lang/System$LoggerFinder"), (5, .class_ 328), (0, u "java/lang/System$Logger"), (67, u "err"), (2, u "out"), (91, u "notSupportedJnuEncoding"), (15, u "in"), (17, u "initialIn"), (0, u "Ljava/io/InputStream;"), (35, u "bootLayer"), (0, u "Ljava/lang/ModuleLayer;"), (99, .class_ 664), (0, u "java/lang/System$2"), (9, u "NEVER"), (2, u "MAYBE"), (49, u "arraycopy"), (0, u "(Ljava/lang/Object;ILjava/lang/Object;II)V"), (72, .class_ 802), (0, u "java/lang/System$Logger$Level")] 31

def k5m0 : Method := { name := "<init>", desc := "()V", sig := { parameters := [], returnType := none }, accessFlags := 2, code := none }
def k5m1 : Method := { name := "arraycopy", desc := "(Ljava/lang/Object;ILjava/lang/Object;II)V", sig := { parameters := [(.object "java/lang/Object"), .int, (.object "java/lang/Object"), .int, .int], returnType := none }, accessFlags := 265, code := none }
/-- java/lang/System -/
def k5 : Class := { plain "java/lang/System" (some 0) with
  accessFlags := 49
  interfaces := #[]
  cf := some (fileOf pool5 8 #[.nestMembers #[319, 327, 801, 108, 663, 208]] #[{ accessFlags := 2, nameIndex := 5, descriptorIndex := 6, attributes := #[] }, { accessFlags := 265, nameIndex := 727, descriptorIndex := 728, attributes := #[] }] 49 2 #[] #[{ accessFlags := 25, nameIndex := 507, descriptorIndex := 526, attributes := #[] }, { accessFlags := 25, nameIndex := 399, descriptorIndex := 155, attributes := #[] }, { accessFlags := 25, nameIndex := 396, descriptorIndex := 155, attributes := #[] }, { accessFlags := 10, nameIndex := 525, descriptorIndex := 526, attributes := #[] }, { accessFlags := 26, nameIndex := 674, descriptorIndex := 12, attributes := #[] }, { accessFlags := 26, nameIndex := 677, descriptorIndex := 12, attributes := #[] }, { accessFlags := 10, nameIndex := 11, descriptorIndex := 12, attributes := #[] }, { accessFlags := 74, nameIndex := 175, descriptorIndex := 176, attributes := #[] }, { accessFlags := 10, nameIndex := 491, descriptorIndex := 222, attributes := #[] }, { accessFlags := 74, nameIndex := 29, descriptorIndex := 30, attributes := #[] }, { accessFlags := 74, nameIndex := 154, descriptorIndex := 155, attributes := #[] }, { accessFlags := 10, nameIndex := 217, descriptorIndex := 218, attributes := #[] }, { accessFlags := 10, nameIndex := 221, descriptorIndex := 222, attributes := #[] }, { accessFlags := 8, nameIndex := 562, descriptorIndex := 563, attributes := #[] }])
  fields := #[{ name := "in", type := (.object "java/io/InputStream"), accessFlags := 25, slot := 0, constantValue := 0 }, { name := "out", type := (.object "java/io/PrintStream"), accessFlags := 25, slot := 1, constantValue := 0 }, { name := "err", type := (.object "java/io/PrintStream"), accessFlags := 25, slot := 2, constantValue := 0 }, { name := "initialIn", type := (.object "java/io/InputStream"), accessFlags := 10, slot := 3, constantValue := 0 }, { name := "NEVER", type := .int, accessFlags := 26, slot := 4, constantValue := 0 }, { name := "MAYBE", type := .int, accessFlags := 26, slot := 5, constantValue := 0 }, { name := "allowSecurityManager", type := .int, accessFlags := 10, slot := 6, constantValue := 0 }, { name := "security", type := (.object "java/lang/SecurityManager"), accessFlags := 74, slot := 7, constantValue := 0 }, { name := "notSupportedJnuEncoding", type := (.object "java/lang/String"), accessFlags := 10, slot := 8, constantValue := 0 }, { name := "cons", type := (.object "java/io/Console"), accessFlags := 74, slot := 9, constantValue := 0 }, { name := "initialErrStream", type := (.object "java/io/PrintStream"), accessFlags := 74, slot := 10, constantValue := 0 }, { name := "props", type := (.object "java/util/Properties"), accessFlags := 10, slot := 11, constantValue := 0 }, { name := "lineSeparator", type := (.object "java/lang/String"), accessFlags := 10, slot := 12, constantValue := 0 }, { name := "bootLayer", type := (.object "java/lang/ModuleLayer"), accessFlags := 8, slot := 13, constantValue := 0 }]
  methods := #[k5m0, k5m1]
  instanceTypes := #[]
  staticTypes := #[(.object "java/io/InputStream"), (.object "java/io/PrintStream"), (.object "java/io/PrintStream"), (.object "java/io/InputStream"), .int, .int, .int, (.object "java/lang/SecurityManager"), (.object "java/lang/String"), (.object "java/io/Console"), (.object "java/io/PrintStream"), (.object "java/util/Properties"), (.object "java/lang/String"), (.object "java/lang/ModuleLayer")]
  resolved := Array.replicate 834 none
  statics := none }

def pool6 : Array CpInfo := pool [(1, .class_ 2), (0, u "java/lang/Cloneable"), (0, .class_ 4), (0, u "java/lang/Object")] 2

/-- java/lang/Cloneable -/
def k6 : Class := { plain "java/lang/Cloneable" (some 0) with
  accessFlags := 1537
  interfaces := #[]
  cf := some (fileOf pool6 1 #[] #[] 1537 3 #[] #[])
  fields := #[]
  methods := #[]
  instanceTypes := #[]
  staticTypes := #[]
  resolved := Array.replicate 7 none
  statics := none }

def pool7 : Array CpInfo := pool [(1, u "java/io/Serializable"), (0, .class_ 1), (0, u "java/lang/Object"), (0, .class_ 3)] 3

/-- java/io/Serializable -/
def k7 : Class := { plain "java/io/Serializable" (some 0) with
  accessFlags := 1537
  interfaces := #[]
  cf := some (fileOf pool7 2 #[] #[] 1537 4 #[] #[])
  fields := #[]
  methods := #[]
  instanceTypes := #[]
  staticTypes := #[]
  resolved := Array.replicate 8 none
  statics := none }

/-- the primitive byte -/
def k8 : Class := { plain "byte" none with kind := .primitive 'B', accessFlags := 0x411 }
/-- [B -/
def k9 : Class := { plain "[B" (some 0) with kind := .array 8 .byte, interfaces := #[6, 7], accessFlags := 1041 }

/-- the primitive int -/
def k10 : Class := { plain "int" none with kind := .primitive 'I', accessFlags := 0x411 }
/-- [I -/
def k11 : Class := { plain "[I" (some 0) with kind := .array 10 .int, interfaces := #[6, 7], accessFlags := 1041 }

def heap : Heap := #[]
def classes : Array Class := #[k0, k1, k2, k3, k4, k5, k6, k7, k8, k9, k10, k11]
def interned : List (Array UInt16 × Addr) := []
def slotsUsed : Nat := 0
def theMethod : MethodId := ⟨1, 1⟩
def args0 : Array Value := #[.int 5, .int 7, .int 9, .int 11, .int 1, .int 3]
def aboutOver (below : List Frame) : State where
  vm := { classes := classes, interned := interned.toArray }
  heap := heap
  slotsUsed := slotsUsed
  threads := #[{ frames := .invoking theMethod args0 :: below }]
def below0 : List Frame := [.native { method := ⟨0, 0⟩, args := #[] }]
def about1 : State := aboutOver below0
def p0 : Program := .bare "" "" ""
def e0 : Env := launch0.env 0 0 0
theorem w_frames : about1.frames = Frame.invoking theMethod args0 :: below0 := rfl
set_option maxRecDepth 65536 in
theorem w_args : argsFit about1.vm theMethod args0 = true := by decide +kernel
set_option maxRecDepth 65536 in
theorem w_heap : heapFits about1 = true := by decide +kernel
set_option maxRecDepth 65536 in
theorem w_runnable : about1.curStatus? = some .runnable := by decide +kernel
set_option maxRecDepth 65536 in
theorem w_alone : about1.alone = true := by decide +kernel
set_option maxRecDepth 65536 in
theorem w_named : about1.methodNamed? x = some theMethod := by decide +kernel
set_option maxRecDepth 65536 in
theorem w_hears : about1.hears theMethod below0 = true := by decide +kernel
set_option maxRecDepth 65536 in
theorem w_ripe : about1.ripe theMethod args0 below0 = true := by decide +kernel
theorem w_running : about1.status = .running := rfl
set_option maxRecDepth 65536 in
theorem w_room : about1.hasRoom e0.platform room_1 = true :=
  launch0.hasRoom_least _ room_1 (by decide +kernel) (by decide +kernel) (by decide +kernel) (by decide +kernel) (by decide +kernel) (by decide +kernel)
theorem allAtoms_all (ts : List Jvm.Cond) (a : Array Jvm.Value) (st : Jvm.State) : (allAtoms ts).before a st = ts.all (fun c => c.before a st) := by
  induction ts with
  | nil => rfl
  | cons c t ih =>
    show (Jvm.Cond.and c (allAtoms t)).before a st = _
    rw [Jvm.Cond.before_and, ih, List.all_cons]
def words1 : List Jvm.Cond := Jvm.Cond.code x code maxLocals ret :: tables_1
/-- a 'code' word, met by the world's own term for the bytes: nothing is compared byte by byte -/
theorem code_word {y : MethodName} {bytes : ByteArray} {mx : Nat} {rt : Option FieldType} {a : Array Value} {s : State} {m : MethodId} {meth : Method} {c : Code} (h1 : s.methodNamed? y = some m) (h2 : s.vm.method? m = some meth) (h3 : meth.code = some c) (h4 : c.code = bytes)
    (h5 : (c.maxLocals == mx && c.exceptionTable.isEmpty && decide (c.maxStack ≤ mostOperands) && decide (meth.sig.returnType = rt) && !meth.locks && decide (parseMethodDescriptor y.desc = some meth.sig)) = true) : (Jvm.Cond.code y bytes mx rt).before a s = true := by
  simp only [Bool.and_eq_true, beq_iff_eq, Bool.not_eq_true', decide_eq_true_eq] at h5
  obtain ⟨⟨⟨⟨⟨g1, g2⟩, g3⟩, g4⟩, g5⟩, g6⟩ := h5
  simp [Cond.before, Cond.holds, Cond.value, h1, h2, h3, h4, g1, g2, g3, g4, g5, g6]
def isCode : Jvm.Cond → Bool
  | .code _ _ _ _ => true
  | _ => false
theorem all_split {L : List Jvm.Cond} {P : Jvm.Cond → Bool} (h1 : L.all (fun c => isCode c || P c) = true) (h2 : ∀ c ∈ L.filter isCode, P c = true) : L.all P = true := by
  refine List.all_eq_true.mpr fun c hc => ?_
  have h := List.all_eq_true.mp h1 c hc
  rcases Bool.eq_false_or_eq_true (isCode c) with hi | hi
  · exact h2 c (List.mem_filter.mpr ⟨hc, hi⟩)
  · simpa [hi] using h
set_option maxRecDepth 65536 in
theorem w_c0 : (Jvm.Cond.code x code maxLocals ret).before args0 about1 = true := code_word (m := ⟨1, 1⟩) (meth := k1m1) (c := k1c1) (by decide +kernel) rfl rfl rfl (by decide +kernel)
set_option maxRecDepth 65536 in
theorem w_c1 : (Jvm.Cond.code ({ cls := "com/example/vellum_index/vellumindex/IntList", name := "<init>", desc := "()V" } : Jvm.MethodName) prog_8_method_1_code (1 : Nat) (Option.none : Option Jvm.ClassFile.FieldType)).before args0 about1 = true := code_word (m := ⟨2, 0⟩) (meth := k2m0) (c := k2c0) (by decide +kernel) rfl rfl rfl (by decide +kernel)
set_option maxRecDepth 65536 in
theorem w_c2 : (Jvm.Cond.code ({ cls := "java/lang/Object", name := "<init>", desc := "()V" } : Jvm.MethodName) object_method_1_code (1 : Nat) (Option.none : Option Jvm.ClassFile.FieldType)).before args0 about1 = true := code_word (m := ⟨0, 0⟩) (meth := k0m0) (c := k0c0) (by decide +kernel) rfl rfl rfl (by decide +kernel)
set_option maxRecDepth 65536 in
theorem w_c3 : (Jvm.Cond.code ({ cls := "com/example/vellum_index/vellumindex/IntList", name := "add", desc := "(I)V" } : Jvm.MethodName) prog_8_method_2_code (2 : Nat) (Option.none : Option Jvm.ClassFile.FieldType)).before args0 about1 = true := code_word (m := ⟨2, 1⟩) (meth := k2m1) (c := k2c1) (by decide +kernel) rfl rfl rfl (by decide +kernel)
set_option maxRecDepth 65536 in
theorem w_c4 : (Jvm.Cond.code ({ cls := "com/example/vellum_index/vellumindex/IntList", name := "size", desc := "()I" } : Jvm.MethodName) prog_8_method_5_code (1 : Nat) (Option.some Jvm.ClassFile.FieldType.int)).before args0 about1 = true := code_word (m := ⟨2, 2⟩) (meth := k2m2) (c := k2c2) (by decide +kernel) rfl rfl rfl (by decide +kernel)
set_option maxRecDepth 65536 in
theorem w_c5 : (Jvm.Cond.code ({ cls := "com/example/vellum_index/vellumindex/IntList", name := "toArray", desc := "()[I" } : Jvm.MethodName) prog_8_method_7_code (1 : Nat) (Option.some (Jvm.ClassFile.FieldType.array Jvm.ClassFile.FieldType.int))).before args0 about1 = true := code_word (m := ⟨2, 3⟩) (meth := k2m3) (c := k2c3) (by decide +kernel) rfl rfl rfl (by decide +kernel)
set_option maxRecDepth 65536 in
theorem w_c6 : (Jvm.Cond.code ({ cls := "java/util/Arrays", name := "copyOf", desc := "([II)[I" } : Jvm.MethodName) jdk_65_method_123_code (3 : Nat) (Option.some (Jvm.ClassFile.FieldType.array Jvm.ClassFile.FieldType.int))).before args0 about1 = true := code_word (m := ⟨3, 1⟩) (meth := k3m1) (c := k3c1) (by decide +kernel) rfl rfl rfl (by decide +kernel)
set_option maxRecDepth 65536 in
theorem w_c7 : (Jvm.Cond.code ({ cls := "java/lang/Math", name := "min", desc := "(II)I" } : Jvm.MethodName) jdk_29_method_69_code (2 : Nat) (Option.some Jvm.ClassFile.FieldType.int)).before args0 about1 = true := code_word (m := ⟨4, 1⟩) (meth := k4m1) (c := k4c1) (by decide +kernel) rfl rfl rfl (by decide +kernel)
def codes1 : List Jvm.Cond := [Jvm.Cond.code x code maxLocals ret, Jvm.Cond.code ({ cls := "com/example/vellum_index/vellumindex/IntList", name := "<init>", desc := "()V" } : Jvm.MethodName) prog_8_method_1_code (1 : Nat) (Option.none : Option Jvm.ClassFile.FieldType), Jvm.Cond.code ({ cls := "java/lang/Object", name := "<init>", desc := "()V" } : Jvm.MethodName) object_method_1_code (1 : Nat) (Option.none : Option Jvm.ClassFile.FieldType), Jvm.Cond.code ({ cls := "com/example/vellum_index/vellumindex/IntList", name := "add", desc := "(I)V" } : Jvm.MethodName) prog_8_method_2_code (2 : Nat) (Option.none : Option Jvm.ClassFile.FieldType), Jvm.Cond.code ({ cls := "com/example/vellum_index/vellumindex/IntList", name := "size", desc := "()I" } : Jvm.MethodName) prog_8_method_5_code (1 : Nat) (Option.some Jvm.ClassFile.FieldType.int), Jvm.Cond.code ({ cls := "com/example/vellum_index/vellumindex/IntList", name := "toArray", desc := "()[I" } : Jvm.MethodName) prog_8_method_7_code (1 : Nat) (Option.some (Jvm.ClassFile.FieldType.array Jvm.ClassFile.FieldType.int)), Jvm.Cond.code ({ cls := "java/util/Arrays", name := "copyOf", desc := "([II)[I" } : Jvm.MethodName) jdk_65_method_123_code (3 : Nat) (Option.some (Jvm.ClassFile.FieldType.array Jvm.ClassFile.FieldType.int)), Jvm.Cond.code ({ cls := "java/lang/Math", name := "min", desc := "(II)I" } : Jvm.MethodName) jdk_29_method_69_code (2 : Nat) (Option.some Jvm.ClassFile.FieldType.int)]
set_option maxRecDepth 65536 in
theorem codes_eq : words1.filter isCode = codes1 := rfl
theorem w_codes : ∀ c ∈ words1.filter isCode, c.before args0 about1 = true := by
  rw [codes_eq]
  intro c hc
  simp only [codes1, List.mem_cons, List.not_mem_nil, or_false] at hc
  rcases hc with rfl | rfl | rfl | rfl | rfl | rfl | rfl | rfl
  · exact w_c0
  · exact w_c1
  · exact w_c2
  · exact w_c3
  · exact w_c4
  · exact w_c5
  · exact w_c6
  · exact w_c7
set_option maxRecDepth 65536 in
theorem w_t1 : (words1.take 24).all (fun c => isCode c || c.before args0 about1) = true := by decide +kernel
set_option maxRecDepth 65536 in
theorem w_t2 : ((words1.drop 24).take 24).all (fun c => isCode c || c.before args0 about1) = true := by decide +kernel
set_option maxRecDepth 65536 in
theorem w_t3 : ((words1.drop 24).drop 24).all (fun c => isCode c || c.before args0 about1) = true := by decide +kernel
theorem w_tables : (allAtoms (Jvm.Cond.code x code maxLocals ret :: tables_1)).before args0 about1 = true := by
  rw [allAtoms_all]
  show words1.all (fun c => c.before args0 about1) = true
  refine all_split ?_ w_codes
  rw [← List.take_append_drop 24 words1, List.all_append, w_t1, ← List.take_append_drop 24 (words1.drop 24), List.all_append, w_t2, w_t3]
  rfl
set_option maxRecDepth 65536 in
theorem w_case : (Jvm.Cond.and given_1 narrow_1).before args0 about1 = true := by decide +kernel
theorem w_applies : (headSpec (Jvm.Cond.code x code maxLocals ret :: tables_1) room_1).applies x e0.platform about1 = true :=
  (Spec.applies_iff w_frames).mpr ⟨w_running, w_runnable, w_alone, w_named, w_hears, w_ripe, w_room, w_tables⟩
theorem atStart : AtStart classFile x code maxLocals ret World_1 tables_1 room_1 Calls_1 rest_1 Pre_1 launch0 p0 e0 about1 theMethod args0 below0 :=
  ⟨lists_1, trivial, launch0.admits_env _ _ _, launch0.least_env, fairChoices_fair.cas, fairChoices_fair.clock, w_frames, w_args, w_heap, w_applies, trivial, trivial, w_case⟩
end start1
theorem witness_1 : WitnessClaimed_1 := ⟨start1.p0, start1.e0, start1.about1, start1.theMethod, start1.args0, start1.below0, start1.atStart⟩
end Jvm.Pilot.@@N@@
