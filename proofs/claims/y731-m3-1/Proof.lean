import JvmDerived
import JvmDerived.Pilot.@@N@@Statement
import JvmDerived.Pilot.@@N@@Code
set_option linter.unusedVariables false
set_option linter.unusedSimpArgs false
@@BLOCK:NumsL.lean.txt@@
namespace Jvm.RoadKit
open Sem ClassFile Op Lib Jvm.Stand Jvm.Free Jvm.LawKit
section New
variable {p : Program} {l : Launch} {e : Env} {R : Room} {s : State} {m : MethodId} {args : Array Value} {below : List Frame} {meth : Method} {c : Code} {T : State} {locs : List Loc} {cells slots : Nat}
theorem retI (X : Stand p l e R s m args below meth c T locs cells slots) (hx : p.tables.exec = Jvm.exec) {pc : Nat} {Ls : Array Slot} {z : Int32} {rest : List Value} (hret : meth.sig.returnType = some .int) (hd : decode c.code pc = .ok (.ireturn, 1)) {fs : List Frame}
    (hl : ∀ (f : JFrame) (acts : List Action), f.method = m → f.locked = none → f.entered = [] → (doReturn e (T.setTop f) acts (some (.int z))).1 = T.setFrames fs) : Steps p.tables e below (T.setTop (mkF m pc Ls (.int z :: rest))) (T.setFrames fs) := by
  have hm' : T.vm.method? m = some meth := X.method'
  have hn : narrow .int (.int z) = .int z := rfl
  show Steps p.tables e below (T.setTop { method := m, pc := pc, locals := Ls, stack := _ :: rest, locked := none }) _
  jvm_step X.here [X.here.top, hx, hd, hm', hret, hn]
  first | (intro acts; rw [hl _ acts rfl rfl rfl]) | rw [hl _ _ rfl rfl rfl]
  exact Steps.refl _
end New
end Jvm.RoadKit
namespace Jvm.Pilot.@@N@@
open Jvm Jvm.ClassFile Sem Op Lib Jvm.Free Jvm.Stand Jvm.LawKit Jvm.RoadKit Bundle Jvm.Pilot.@@N@@.Jvm.D
theorem own_rem32 (x y : Int32) : (x - (x / y) * y).toInt = x.toInt.tmod y.toInt := by
  rw [Int32.toInt_sub, Int32.toInt_mul, Int32.toInt_div]
  simp only [Int.bmod_mul_bmod, Int.sub_bmod_bmod]
  rw [Int.tmod_def, Int.mul_comm y.toInt]
  have h := Int32.toInt_mod x y
  have h1 := (x % y).toInt_lt
  have h2 := (x % y).le_toInt
  rw [h, Int.tmod_def, Int.mul_comm y.toInt] at h1 h2
  exact Int.bmod_eq_of_le (by omega) (by omega)
/-own-/
def own_pick (k a0 a1 a2 a3 : Int32) : Int32 := if k = 0 then a0 else if k = 1 then a1 else if k = 2 then a2 else a3
def own_put (k j v a : Int32) : Int32 := if k = j then v else a
theorem own_four {k : Int32} (h0 : ¬ (k < (0 : Int32))) (h9 : k < (4 : Int32)) : k = 0 ∨ k = 1 ∨ k = 2 ∨ k = 3 := by
  have c0 : (0 : Int32).toInt = 0 := by decide
  have c9 : (4 : Int32).toInt = 4 := by decide
  rw [Int32.lt_iff_toInt_lt, c0] at h0
  rw [Int32.lt_iff_toInt_lt, c9] at h9
  have k0 : k.toInt = 0 ∨ k.toInt = 1 ∨ k.toInt = 2 ∨ k.toInt = 3 := by omega
  rcases k0 with q | q | q | q
  · exact Or.inl (Int32.toInt_inj.mp (by rw [q]; decide))
  · exact Or.inr (Or.inl (Int32.toInt_inj.mp (by rw [q]; decide)))
  · exact Or.inr (Or.inr (Or.inl (Int32.toInt_inj.mp (by rw [q]; decide))))
  · exact Or.inr (Or.inr (Or.inr (Int32.toInt_inj.mp (by rw [q]; decide))))
theorem own_get4 {k a0 a1 a2 a3 : Int32} (h0 : ¬ (k < (0 : Int32))) (h9 : k < (4 : Int32)) : ([.int a0, .int a1, .int a2, .int a3] : List Value).getD k.toNatClampNeg (.int (0 : Int32)) = .int (own_pick k a0 a1 a2 a3) := by
  rcases own_four h0 h9 with rfl | rfl | rfl | rfl <;> rfl
theorem own_set4 {k v a0 a1 a2 a3 : Int32} (h0 : ¬ (k < (0 : Int32))) (h9 : k < (4 : Int32)) : ([.int a0, .int a1, .int a2, .int a3] : List Value).set k.toNatClampNeg (.int v) = [.int (own_put k 0 v a0), .int (own_put k 1 v a1), .int (own_put k 2 v a2), .int (own_put k 3 v a3)] := by
  rcases own_four h0 h9 with rfl | rfl | rfl | rfl <;> rfl
theorem own_len4 {k a0 a1 a2 a3 : Int32} (h0 : ¬ (k < (0 : Int32))) (h9 : k < (4 : Int32)) : k.toNatClampNeg < ([.int a0, .int a1, .int a2, .int a3] : List Value).length := by
  rcases own_four h0 h9 with rfl | rfl | rfl | rfl <;> exact Nat.le_of_ble_eq_true rfl
theorem d1_0 : decode prog_8_method_1_code 0 = .ok (.aload_n 0, 1) := by decide +kernel
theorem d1_1 : decode prog_8_method_1_code 1 = .ok (.invokespecial 1, 3) := by decide +kernel
theorem d1_4 : decode prog_8_method_1_code 4 = .ok (.aload_n 0, 1) := by decide +kernel
theorem d1_5 : decode prog_8_method_1_code 5 = .ok (.iconst 4, 1) := by decide +kernel
theorem d1_6 : decode prog_8_method_1_code 6 = .ok (.newarray .int, 2) := by decide +kernel
theorem d1_8 : decode prog_8_method_1_code 8 = .ok (.putfield 7, 3) := by decide +kernel
theorem d1_11 : decode prog_8_method_1_code 11 = .ok (.return_, 1) := by decide +kernel
theorem pn_com_example_vellum_index_vellumindex_IntList : plainName "com/example/vellum_index/vellumindex/IntList" = true := by first | (simp [plainName, overriddenIn]; done) | decide +kernel
theorem ef_1 (m : MethodId) (o0 : Addr) : entryFrame m #[(.ref o0)] 1 = mkF m 0 #[.val (.ref o0)] [] := by first | (simp [entryFrame, mkF, argsToLocals, Value.category]; done) | rfl
def Q1 (Z : State) (o0 : Addr) (w0_size : Int32) (u1_values : Value) (h0 : Heap) (n0 : Nat) (v : Option Value) (h : Heap) (L : List Loc) : Prop := Fr n0 L ∧ ∃ (x1_0 : Addr) (k1_1 : ClassId), v = none ∧ h0.size ≤ x1_0 ∧ Keep h0 h [o0] ∧ Exa Z h o0 "com/example/vellum_index/vellumindex/IntList" ∧ Fld Z h o0 "com/example/vellum_index/vellumindex/IntList" "size" "I" (.int w0_size) ∧ Fld Z h o0 "com/example/vellum_index/vellumindex/IntList" "values" "[I" (.ref x1_0) ∧ Arv Z h x1_0 k1_1 .int (4 : Int32) [(.int (0 : Int32)), (.int (0 : Int32)), (.int (0 : Int32)), (.int (0 : Int32))] (.int (0 : Int32))
set_option maxRecDepth 65536 in
set_option maxHeartbeats 40000000 in
theorem rm1 (l : Launch) (Z : State) (a0 : Array Value) (hw : ∀ d ∈ tables_1, d.before a0 Z = true) (ws : List Jvm.Cond) (o0 : Addr) (w0_size : Int32) (u1_values : Value) (h0 : Heap) (n0 : Nat) (Z0 : n0 ≤ h0.size) (E_o0 : Exa Z h0 o0 "com/example/vellum_index/vellumindex/IntList") (F_size_o0 : Fld Z h0 o0 "com/example/vellum_index/vellumindex/IntList" "size" "I" (.int w0_size)) (F_values_o0 : Fld Z h0 o0 "com/example/vellum_index/vellumindex/IntList" "values" "[I" u1_values) (g_o0 : n0 ≤ o0) :
    MetFree l (⟨"com/example/vellum_index/vellumindex/IntList", "<init>", "()V"⟩ : MethodName) (head1 (Jvm.Cond.code (⟨"com/example/vellum_index/vellumindex/IntList", "<init>", "()V"⟩ : MethodName) prog_8_method_1_code 1 none :: ws) ({ frames := 1, cells := 1, slots := 4, locals := 12 } : Room)) (fun a U => a = #[(.ref o0)] ∧ Z.Warmed39 U.vm ∧ U.heap = h0) (fun _ _ _ _ _ => True) (fun _ U o U' => ∃ v L, o = .returned v ∧ Q1 Z o0 w0_size u1_values h0 n0 v U'.heap L ∧ FrameEnd U o U' L ({ frames := 1, cells := 1, slots := 4, locals := 12 } : Room).cells ({ frames := 1, cells := 1, slots := 4, locals := 12 } : Room).slots) := by
  refine MetFree.of_bodySF (plainFor_of_name pn_com_example_vellum_index_vellumindex_IntList) hisR ?_
  intro p e s m args below meth c s₁ Bd hml0 hP hK
  obtain ⟨rfl, hZ, hh⟩ := hP
  have hx := Bd.exec
  have hby := Bd.bytes
  have hml : c.maxLocals = 1 := hml0
  have hown : s.vm.findClass "com/example/vellum_index/vellumindex/IntList" = some m.cls := findClass_of_methodNamed Bd.named
  have hnm := (name_of_methodNamed Bd.named Bd.method).1
  have X0 : Stand p l e ({ frames := 1, cells := 1, slots := 4, locals := 12 } : Room) s m #[(.ref o0)] below meth c s₁ [] 0 0 := Stand.of_body Bd
  have e0 : s₁.heap = h0 := by rw [← hh, Bd.state]; rfl
  have N0 := Fr.nil n0
  have pre0 : ∀ t, Steps p.tables e below (s₁.setTop (mkF m 0 #[.val (.ref o0)] [])) t → Steps p.tables e below (s₁.setTop (entryFrame m #[(.ref o0)] 1)) t := fun t k => castTop (ef_1 m o0) k
  obtain ⟨T1, X1, e1, st1⟩ := initO X0 hx hZ hown (hw _ (List.mem_of_getElem? (i := 6) rfl)) (hw _ (List.mem_of_getElem? (i := 7) rfl)) (hw _ (List.mem_of_getElem? (i := 8) rfl)) e0 (g := (mkF m 1 #[.val (.ref o0)] [(.ref o0)])) rfl (by rw [hml]; rfl) rfl (hb hby d1_1) (by decide) (W := 0) (by show 2 * 0 + _ ≤ _; exact Nat.le_of_eq rfl) (by decide)
  obtain ⟨T2, h2, k2, X2, e2, E2, A2, st2⟩ := newP X1 hx hZ (hw _ (List.mem_of_getElem? (i := 9) rfl)) e1 (g := (mkF m 6 #[.val (.ref o0)] [(.int (4 : Int32)), (.ref o0)])) rfl (hb hby d1_6) rfl (by decide) (cap := 4) (by decide) (by decide) (by decide) (by decide)
  obtain ⟨b2, gz2⟩ : ∃ z, z = h0.size := ⟨_, rfl⟩
  rw [← gz2] at A2 st2
  have ne3 : o0 ≠ b2 := Nat.ne_of_lt (Nat.lt_of_lt_of_le E_o0.lt (Nat.le_of_eq gz2.symm))
  have g4 : n0 ≤ b2 := Nat.le_trans Z0 (Nat.le_of_eq gz2.symm)
  have sz5 : h0.size ≤ b2 := Nat.le_trans (Nat.le_refl h0.size) (Nat.le_of_eq gz2.symm)
  have z6 : n0 ≤ h2.size := Nat.le_trans Z0 E2.1
  have hs7 : h0.size ≤ h2.size := Nat.le_trans (Nat.le_refl h0.size) E2.1
  have V2 : Arv Z h2 b2 k2 .int (4 : Int32) [(.int (0 : Int32)), (.int (0 : Int32)), (.int (0 : Int32)), (.int (0 : Int32))] (.int (0 : Int32)) := (Arv.new A2 (by decide)).pad (pad_rep [] (.int (0 : Int32)) 4)
  have k8 := (F_values_o0.ext E2)
  have k9 := (E_o0.ext E2)
  obtain ⟨T10, h10, X10, e10, W10, st10⟩ := putF X2 hx hZ hown (host := "") (Or.inl (hw _ (List.mem_of_getElem? (i := 10) rfl))) Via.refl e2 k8 k9 (Or.inl (hw _ (List.mem_of_getElem? (i := 11) rfl))) (hw _ (List.mem_of_getElem? (i := 1) rfl)) (ty := (.array .int)) (by decide) rfl rfl (g := (mkF m 8 #[.val (.ref o0)] [(.ref b2), (.ref o0)])) rfl rfl (hb hby d1_8)
  have Fw10 := k8.same W10
  have N10 := Fr.snoc X10 N0 g_o0
  have z11 : n0 ≤ h10.size := Nat.le_trans z6 (Keep.of_wr W10).1
  have hs12 : h0.size ≤ h10.size := Nat.le_trans hs7 (Keep.of_wr W10).1
  obtain ⟨fs, hr, hrun, hended, hW, hsame⟩ := X10.leave (v := none) (fun _ => rfl)
  refine ⟨_, _, pre0 _ ?_, hrun, hended, _, _, rfl, ?_, ⟨_, rfl⟩, hW, hsame.mono (by decide) (by decide)⟩
  · skip
    show Steps p.tables e below (s₁.setTop (mkF m 0 #[.val (.ref o0)] [])) _
    refine XS.aloadN X0.here hx rfl (hb hby d1_0) rfl rfl ?_
    show Steps p.tables e below (s₁.setTop (mkF m 1 #[.val (.ref o0)] [(.ref o0)])) _
    refine st1 _ ?_
    show Steps p.tables e below (T1.setTop (mkF m 4 #[.val (.ref o0)] [])) _
    refine XS.aloadN X1.here hx rfl (hb hby d1_4) rfl rfl ?_
    show Steps p.tables e below (T1.setTop (mkF m 5 #[.val (.ref o0)] [(.ref o0)])) _
    refine XT.iconstV X1.here hx rfl (4 : Int32) (hb hby d1_5) (by decide) ?_
    show Steps p.tables e below (T1.setTop (mkF m 6 #[.val (.ref o0)] [(.int (4 : Int32)), (.ref o0)])) _
    refine st2 _ ?_
    show Steps p.tables e below (T2.setTop (mkF m 8 #[.val (.ref o0)] [(.ref b2), (.ref o0)])) _
    refine st10 _ ?_
    show Steps p.tables e below (T10.setTop (mkF m 11 #[.val (.ref o0)] [])) _
    exact X10.returnOut hx Bd.returns (hb hby d1_11) hr
  · skip
    show Q1 Z o0 w0_size u1_values h0 n0 _ T10.heap _
    rw [e10]
    have k13 := (k9.wr W10)
    have k14 := ((F_size_o0.ext E2).other W10 (Or.inr (slot_ne (Or.inl (hw _ (List.mem_of_getElem? (i := 18) rfl))) (Or.inl (hw _ (List.mem_of_getElem? (i := 11) rfl))) (by decide) (t := .int) (t' := (.array .int)) (by decide) (by decide))))
    have k15 := (V2.other W10 (Ne.symm ne3))
    exact ⟨N10, b2, k2, rfl, sz5, (((Keep.refl h0 [o0]).ext E2).wr W10 (Or.inl (List.mem_of_getElem? (i := 0) rfl))), k13, k14, Fw10, k15⟩
theorem d3_0 : decode prog_8_method_2_code 0 = .ok (.aload_n 0, 1) := by decide +kernel
theorem d3_1 : decode prog_8_method_2_code 1 = .ok (.getfield 13, 3) := by decide +kernel
theorem d3_4 : decode prog_8_method_2_code 4 = .ok (.aload_n 0, 1) := by decide +kernel
theorem d3_5 : decode prog_8_method_2_code 5 = .ok (.getfield 7, 3) := by decide +kernel
theorem d3_8 : decode prog_8_method_2_code 8 = .ok (.arraylength, 1) := by decide +kernel
theorem d3_9 : decode prog_8_method_2_code 9 = .ok (.if_icmp .ne 20, 3) := by decide +kernel
theorem d3_29 : decode prog_8_method_2_code 29 = .ok (.aload_n 0, 1) := by decide +kernel
theorem d3_30 : decode prog_8_method_2_code 30 = .ok (.getfield 7, 3) := by decide +kernel
theorem d3_33 : decode prog_8_method_2_code 33 = .ok (.aload_n 0, 1) := by decide +kernel
theorem d3_34 : decode prog_8_method_2_code 34 = .ok (.dup, 1) := by decide +kernel
theorem d3_35 : decode prog_8_method_2_code 35 = .ok (.getfield 13, 3) := by decide +kernel
theorem d3_38 : decode prog_8_method_2_code 38 = .ok (.dup_x1, 1) := by decide +kernel
theorem d3_39 : decode prog_8_method_2_code 39 = .ok (.iconst 1, 1) := by decide +kernel
theorem d3_40 : decode prog_8_method_2_code 40 = .ok (.iadd, 1) := by decide +kernel
theorem d3_41 : decode prog_8_method_2_code 41 = .ok (.putfield 13, 3) := by decide +kernel
theorem d3_44 : decode prog_8_method_2_code 44 = .ok (.iload_n 1, 1) := by decide +kernel
theorem d3_45 : decode prog_8_method_2_code 45 = .ok (.iastore, 1) := by decide +kernel
theorem d3_46 : decode prog_8_method_2_code 46 = .ok (.return_, 1) := by decide +kernel
theorem ef_add0 (m : MethodId) (o0 : Addr) (p1 : Int32) : entryFrame m #[(.ref o0), (.int p1)] 2 = mkF m 0 #[.val (.ref o0), .val (.int p1)] [] := by first | (simp [entryFrame, mkF, argsToLocals, Value.category]; done) | rfl
def Qadd0 (Z : State) (o0 : Addr) (p1 : Int32) (w1_values : Addr) (w10_e : Int32) (w11_e : Int32) (w12_e : Int32) (w13_e : Int32) (kA : ClassId) (h0 : Heap) (n0 : Nat) (v : Option Value) (h : Heap) (L : List Loc) : Prop := Fr n0 L ∧ v = none ∧ Keep h0 h [o0, w1_values] ∧ Exa Z h o0 "com/example/vellum_index/vellumindex/IntList" ∧ Fld Z h o0 "com/example/vellum_index/vellumindex/IntList" "size" "I" (.int (1 : Int32)) ∧ Fld Z h o0 "com/example/vellum_index/vellumindex/IntList" "values" "[I" (.ref w1_values) ∧ Arv Z h w1_values kA .int (4 : Int32) [(.int p1), (.int w11_e), (.int w12_e), (.int w13_e)] (.int (0 : Int32))
set_option maxRecDepth 65536 in
set_option maxHeartbeats 40000000 in
theorem rmadd0 (l : Launch) (Z : State) (a0 : Array Value) (hw : ∀ d ∈ tables_1, d.before a0 Z = true) (ws : List Jvm.Cond) (o0 : Addr) (p1 : Int32) (w1_values : Addr) (w10_e : Int32) (w11_e : Int32) (w12_e : Int32) (w13_e : Int32) (kA : ClassId) (h0 : Heap) (n0 : Nat) (Z0 : n0 ≤ h0.size) (E_o0 : Exa Z h0 o0 "com/example/vellum_index/vellumindex/IntList") (F_size_o0 : Fld Z h0 o0 "com/example/vellum_index/vellumindex/IntList" "size" "I" (.int (0 : Int32))) (F_values_o0 : Fld Z h0 o0 "com/example/vellum_index/vellumindex/IntList" "values" "[I" (.ref w1_values)) (V_w1_values : Arv Z h0 w1_values kA .int (4 : Int32) [(.int w10_e), (.int w11_e), (.int w12_e), (.int w13_e)] (.int (0 : Int32))) (g_o0 : n0 ≤ o0) (ne_w1_values_o0 : w1_values ≠ o0) (g_w1_values : n0 ≤ w1_values) :
    MetFree l (⟨"com/example/vellum_index/vellumindex/IntList", "add", "(I)V"⟩ : MethodName) (head1 (Jvm.Cond.code (⟨"com/example/vellum_index/vellumindex/IntList", "add", "(I)V"⟩ : MethodName) prog_8_method_2_code 2 none :: ws) ({ frames := 0, cells := 0, slots := 0, locals := 0 } : Room)) (fun a U => a = #[(.ref o0), (.int p1)] ∧ Z.Warmed39 U.vm ∧ U.heap = h0) (fun _ _ _ _ _ => True) (fun _ U o U' => ∃ v L, o = .returned v ∧ Qadd0 Z o0 p1 w1_values w10_e w11_e w12_e w13_e kA h0 n0 v U'.heap L ∧ FrameEnd U o U' L ({ frames := 0, cells := 0, slots := 0, locals := 0 } : Room).cells ({ frames := 0, cells := 0, slots := 0, locals := 0 } : Room).slots) := by
  refine MetFree.of_bodySF (plainFor_of_name pn_com_example_vellum_index_vellumindex_IntList) hisR ?_
  intro p e s m args below meth c s₁ Bd hml0 hP hK
  obtain ⟨rfl, hZ, hh⟩ := hP
  have hx := Bd.exec
  have hby := Bd.bytes
  have hml : c.maxLocals = 2 := hml0
  have hown : s.vm.findClass "com/example/vellum_index/vellumindex/IntList" = some m.cls := findClass_of_methodNamed Bd.named
  have hnm := (name_of_methodNamed Bd.named Bd.method).1
  have X0 : Stand p l e ({ frames := 0, cells := 0, slots := 0, locals := 0 } : Room) s m #[(.ref o0), (.int p1)] below meth c s₁ [] 0 0 := Stand.of_body Bd
  have e0 : s₁.heap = h0 := by rw [← hh, Bd.state]; rfl
  have N0 := Fr.nil n0
  have pre0 : ∀ t, Steps p.tables e below (s₁.setTop (mkF m 0 #[.val (.ref o0), .val (.int p1)] [])) t → Steps p.tables e below (s₁.setTop (entryFrame m #[(.ref o0), (.int p1)] 2)) t := fun t k => castTop (ef_add0 m o0 p1) k
  obtain ⟨T1, X1, e1, st1⟩ := getF X0 hx hZ hown (host := "") (Or.inl (hw _ (List.mem_of_getElem? (i := 17) rfl))) Via.refl e0 F_size_o0 (g := (mkF m 1 #[.val (.ref o0), .val (.int p1)] [(.ref o0)])) rfl rfl (hb hby d3_1)
  obtain ⟨T2, X2, e2, st2⟩ := getF X1 hx hZ hown (host := "") (Or.inl (hw _ (List.mem_of_getElem? (i := 10) rfl))) Via.refl e1 F_values_o0 (g := (mkF m 5 #[.val (.ref o0), .val (.int p1)] [(.ref o0), (.int (0 : Int32))])) rfl rfl (hb hby d3_5)
  obtain ⟨cl3, Ar3, qc3, S3, M3, Ha3, G3⟩ := id V_w1_values
  obtain ⟨T4, X4, e4, st4⟩ := getF X2 hx hZ hown (host := "") (Or.inl (hw _ (List.mem_of_getElem? (i := 10) rfl))) Via.refl e2 F_values_o0 (g := (mkF m 30 #[.val (.ref o0), .val (.int p1)] [(.ref o0)])) rfl rfl (hb hby d3_30)
  obtain ⟨T5, X5, e5, st5⟩ := getF X4 hx hZ hown (host := "") (Or.inl (hw _ (List.mem_of_getElem? (i := 17) rfl))) Via.refl e4 F_size_o0 (g := (mkF m 35 #[.val (.ref o0), .val (.int p1)] [(.ref o0), (.ref o0), (.ref w1_values)])) rfl rfl (hb hby d3_35)
  obtain ⟨T6, h6, X6, e6, W6, st6⟩ := putF X5 hx hZ hown (host := "") (Or.inl (hw _ (List.mem_of_getElem? (i := 17) rfl))) Via.refl e5 F_size_o0 E_o0 (Or.inl (hw _ (List.mem_of_getElem? (i := 18) rfl))) (hw _ (List.mem_of_getElem? (i := 1) rfl)) (ty := .int) (by decide) rfl rfl (g := (mkF m 41 #[.val (.ref o0), .val (.int p1)] [(.int (1 : Int32)), (.ref o0), (.int (0 : Int32)), (.ref w1_values)])) rfl rfl (hb hby d3_41)
  have Fw6 := F_size_o0.same W6
  have N6 := Fr.snoc X6 N0 g_o0
  have z7 : n0 ≤ h6.size := Nat.le_trans Z0 (Keep.of_wr W6).1
  have hs8 : h0.size ≤ h6.size := Nat.le_trans (Nat.le_refl h0.size) (Keep.of_wr W6).1
  have k9 := (V_w1_values.other W6 ne_w1_values_o0)
  obtain ⟨cl10, Ar10, qc10, S10, M10, Ha10, G10⟩ := id k9
  have hin11 : ¬ ((0 : Int32) < 0 ∨ cl10.slots.size ≤ ((0 : Int32)).toNatClampNeg) := inb_of S10 ⟨by decide, by decide⟩
  obtain ⟨T12, h12, X12, e12, W12, st12⟩ := stI X6 hx hZ e6 Ar10 (j := (0 : Int32)) hin11 (g := (mkF m 45 #[.val (.ref o0), .val (.int p1)] [(.int p1), (.int (0 : Int32)), (.ref w1_values)])) rfl rfl (hb hby d3_45)
  have V12 : Arv Z h12 w1_values kA .int (4 : Int32) [(.int p1), (.int w11_e), (.int w12_e), (.int w13_e)] (.int (0 : Int32)) := Arv.set Ar10 qc10 S10 M10 Ha10 G10 rfl W12 0 rfl (Nat.le_of_ble_eq_true rfl)
  have N12 := Fr.snoc X12 N6 g_w1_values
  have z13 : n0 ≤ h12.size := Nat.le_trans z7 (Keep.of_wr W12).1
  have hs14 : h0.size ≤ h12.size := Nat.le_trans hs8 (Keep.of_wr W12).1
  obtain ⟨fs, hr, hrun, hended, hW, hsame⟩ := X12.leave (v := none) (fun _ => rfl)
  refine ⟨_, _, pre0 _ ?_, hrun, hended, _, _, rfl, ?_, ⟨_, rfl⟩, hW, hsame.mono (by decide) (by decide)⟩
  · skip
    show Steps p.tables e below (s₁.setTop (mkF m 0 #[.val (.ref o0), .val (.int p1)] [])) _
    refine XS.aloadN X0.here hx rfl (hb hby d3_0) rfl rfl ?_
    show Steps p.tables e below (s₁.setTop (mkF m 1 #[.val (.ref o0), .val (.int p1)] [(.ref o0)])) _
    refine st1 _ ?_
    show Steps p.tables e below (T1.setTop (mkF m 4 #[.val (.ref o0), .val (.int p1)] [(.int (0 : Int32))])) _
    refine XS.aloadN X1.here hx rfl (hb hby d3_4) rfl rfl ?_
    show Steps p.tables e below (T1.setTop (mkF m 5 #[.val (.ref o0), .val (.int p1)] [(.ref o0), (.int (0 : Int32))])) _
    refine st2 _ ?_
    show Steps p.tables e below (T2.setTop (mkF m 8 #[.val (.ref o0), .val (.int p1)] [(.ref w1_values), (.int (0 : Int32))])) _
    refine X2.arraylength hx (by rw [e2]; exact Ar3.1) (State.isArrayOf_alike hZ.alike Ar3.2.1) (g := (mkF m 8 #[.val (.ref o0), .val (.int p1)] [(.ref w1_values), (.int (0 : Int32))])) rfl rfl (hb hby d3_8) _ ?_
    rw [len_of S3 M3]
    show Steps p.tables e below (T2.setTop (mkF m 9 #[.val (.ref o0), .val (.int p1)] [(.int (4 : Int32)), (.int (0 : Int32))])) _
    refine XS.icmpYes X2.here hx rfl (pc0 := 9) (pc' := 29) rfl (hb hby d3_9) rfl (XT.ii_ne_t (by decide)) (by decide) (by decide) ?_
    show Steps p.tables e below (T2.setTop (mkF m 29 #[.val (.ref o0), .val (.int p1)] [])) _
    refine XS.aloadN X2.here hx rfl (hb hby d3_29) rfl rfl ?_
    show Steps p.tables e below (T2.setTop (mkF m 30 #[.val (.ref o0), .val (.int p1)] [(.ref o0)])) _
    refine st4 _ ?_
    show Steps p.tables e below (T4.setTop (mkF m 33 #[.val (.ref o0), .val (.int p1)] [(.ref w1_values)])) _
    refine XS.aloadN X4.here hx rfl (hb hby d3_33) rfl rfl ?_
    show Steps p.tables e below (T4.setTop (mkF m 34 #[.val (.ref o0), .val (.int p1)] [(.ref o0), (.ref w1_values)])) _
    refine XS.dup X4.here hx rfl (hb hby d3_34) rfl rfl ?_
    show Steps p.tables e below (T4.setTop (mkF m 35 #[.val (.ref o0), .val (.int p1)] [(.ref o0), (.ref o0), (.ref w1_values)])) _
    refine st5 _ ?_
    show Steps p.tables e below (T5.setTop (mkF m 38 #[.val (.ref o0), .val (.int p1)] [(.int (0 : Int32)), (.ref o0), (.ref w1_values)])) _
    refine XT.dupX1 X5.here hx rfl (hb hby d3_38) rfl rfl rfl ?_
    show Steps p.tables e below (T5.setTop (mkF m 39 #[.val (.ref o0), .val (.int p1)] [(.int (0 : Int32)), (.ref o0), (.int (0 : Int32)), (.ref w1_values)])) _
    refine XT.iconstV X5.here hx rfl (1 : Int32) (hb hby d3_39) (by decide) ?_
    show Steps p.tables e below (T5.setTop (mkF m 40 #[.val (.ref o0), .val (.int p1)] [(.int (1 : Int32)), (.int (0 : Int32)), (.ref o0), (.int (0 : Int32)), (.ref w1_values)])) _
    refine XS.iadd X5.here hx rfl (hb hby d3_40) rfl ?_
    show Steps p.tables e below (T5.setTop (mkF m 41 #[.val (.ref o0), .val (.int p1)] [(.int (1 : Int32)), (.ref o0), (.int (0 : Int32)), (.ref w1_values)])) _
    refine st6 _ ?_
    show Steps p.tables e below (T6.setTop (mkF m 44 #[.val (.ref o0), .val (.int p1)] [(.int (0 : Int32)), (.ref w1_values)])) _
    refine XS.iloadN X6.here hx rfl (hb hby d3_44) rfl ?_
    show Steps p.tables e below (T6.setTop (mkF m 45 #[.val (.ref o0), .val (.int p1)] [(.int p1), (.int (0 : Int32)), (.ref w1_values)])) _
    refine st12 _ ?_
    show Steps p.tables e below (T12.setTop (mkF m 46 #[.val (.ref o0), .val (.int p1)] [])) _
    exact X12.returnOut hx Bd.returns (hb hby d3_46) hr
  · skip
    show Qadd0 Z o0 p1 w1_values w10_e w11_e w12_e w13_e kA h0 n0 _ T12.heap _
    rw [e12]
    have k15 := ((E_o0.wr W6).wr W12)
    have k16 := (Fw6.other W12 (Or.inl (Ne.symm ne_w1_values_o0)))
    have k17 := ((F_values_o0.other W6 (Or.inr (slot_ne (Or.inl (hw _ (List.mem_of_getElem? (i := 11) rfl))) (Or.inl (hw _ (List.mem_of_getElem? (i := 18) rfl))) (by decide) (t := (.array .int)) (t' := .int) (by decide) (by decide)))).other W12 (Or.inl (Ne.symm ne_w1_values_o0)))
    exact ⟨N12, rfl, (((Keep.refl h0 [o0, w1_values]).wr W6 (Or.inl (List.mem_of_getElem? (i := 0) rfl))).wr W12 (Or.inl (List.mem_of_getElem? (i := 1) rfl))), k15, k16, k17, V12⟩
theorem ef_add1 (m : MethodId) (o0 : Addr) (p1 : Int32) : entryFrame m #[(.ref o0), (.int p1)] 2 = mkF m 0 #[.val (.ref o0), .val (.int p1)] [] := by first | (simp [entryFrame, mkF, argsToLocals, Value.category]; done) | rfl
def Qadd1 (Z : State) (o0 : Addr) (p1 : Int32) (w1_values : Addr) (w10_e : Int32) (w11_e : Int32) (w12_e : Int32) (w13_e : Int32) (kA : ClassId) (h0 : Heap) (n0 : Nat) (v : Option Value) (h : Heap) (L : List Loc) : Prop := Fr n0 L ∧ v = none ∧ Keep h0 h [o0, w1_values] ∧ Exa Z h o0 "com/example/vellum_index/vellumindex/IntList" ∧ Fld Z h o0 "com/example/vellum_index/vellumindex/IntList" "size" "I" (.int (2 : Int32)) ∧ Fld Z h o0 "com/example/vellum_index/vellumindex/IntList" "values" "[I" (.ref w1_values) ∧ Arv Z h w1_values kA .int (4 : Int32) [(.int w10_e), (.int p1), (.int w12_e), (.int w13_e)] (.int (0 : Int32))
set_option maxRecDepth 65536 in
set_option maxHeartbeats 40000000 in
theorem rmadd1 (l : Launch) (Z : State) (a0 : Array Value) (hw : ∀ d ∈ tables_1, d.before a0 Z = true) (ws : List Jvm.Cond) (o0 : Addr) (p1 : Int32) (w1_values : Addr) (w10_e : Int32) (w11_e : Int32) (w12_e : Int32) (w13_e : Int32) (kA : ClassId) (h0 : Heap) (n0 : Nat) (Z0 : n0 ≤ h0.size) (E_o0 : Exa Z h0 o0 "com/example/vellum_index/vellumindex/IntList") (F_size_o0 : Fld Z h0 o0 "com/example/vellum_index/vellumindex/IntList" "size" "I" (.int (1 : Int32))) (F_values_o0 : Fld Z h0 o0 "com/example/vellum_index/vellumindex/IntList" "values" "[I" (.ref w1_values)) (V_w1_values : Arv Z h0 w1_values kA .int (4 : Int32) [(.int w10_e), (.int w11_e), (.int w12_e), (.int w13_e)] (.int (0 : Int32))) (g_o0 : n0 ≤ o0) (ne_w1_values_o0 : w1_values ≠ o0) (g_w1_values : n0 ≤ w1_values) :
    MetFree l (⟨"com/example/vellum_index/vellumindex/IntList", "add", "(I)V"⟩ : MethodName) (head1 (Jvm.Cond.code (⟨"com/example/vellum_index/vellumindex/IntList", "add", "(I)V"⟩ : MethodName) prog_8_method_2_code 2 none :: ws) ({ frames := 0, cells := 0, slots := 0, locals := 0 } : Room)) (fun a U => a = #[(.ref o0), (.int p1)] ∧ Z.Warmed39 U.vm ∧ U.heap = h0) (fun _ _ _ _ _ => True) (fun _ U o U' => ∃ v L, o = .returned v ∧ Qadd1 Z o0 p1 w1_values w10_e w11_e w12_e w13_e kA h0 n0 v U'.heap L ∧ FrameEnd U o U' L ({ frames := 0, cells := 0, slots := 0, locals := 0 } : Room).cells ({ frames := 0, cells := 0, slots := 0, locals := 0 } : Room).slots) := by
  refine MetFree.of_bodySF (plainFor_of_name pn_com_example_vellum_index_vellumindex_IntList) hisR ?_
  intro p e s m args below meth c s₁ Bd hml0 hP hK
  obtain ⟨rfl, hZ, hh⟩ := hP
  have hx := Bd.exec
  have hby := Bd.bytes
  have hml : c.maxLocals = 2 := hml0
  have hown : s.vm.findClass "com/example/vellum_index/vellumindex/IntList" = some m.cls := findClass_of_methodNamed Bd.named
  have hnm := (name_of_methodNamed Bd.named Bd.method).1
  have X0 : Stand p l e ({ frames := 0, cells := 0, slots := 0, locals := 0 } : Room) s m #[(.ref o0), (.int p1)] below meth c s₁ [] 0 0 := Stand.of_body Bd
  have e0 : s₁.heap = h0 := by rw [← hh, Bd.state]; rfl
  have N0 := Fr.nil n0
  have pre0 : ∀ t, Steps p.tables e below (s₁.setTop (mkF m 0 #[.val (.ref o0), .val (.int p1)] [])) t → Steps p.tables e below (s₁.setTop (entryFrame m #[(.ref o0), (.int p1)] 2)) t := fun t k => castTop (ef_add1 m o0 p1) k
  obtain ⟨T1, X1, e1, st1⟩ := getF X0 hx hZ hown (host := "") (Or.inl (hw _ (List.mem_of_getElem? (i := 17) rfl))) Via.refl e0 F_size_o0 (g := (mkF m 1 #[.val (.ref o0), .val (.int p1)] [(.ref o0)])) rfl rfl (hb hby d3_1)
  obtain ⟨T2, X2, e2, st2⟩ := getF X1 hx hZ hown (host := "") (Or.inl (hw _ (List.mem_of_getElem? (i := 10) rfl))) Via.refl e1 F_values_o0 (g := (mkF m 5 #[.val (.ref o0), .val (.int p1)] [(.ref o0), (.int (1 : Int32))])) rfl rfl (hb hby d3_5)
  obtain ⟨cl3, Ar3, qc3, S3, M3, Ha3, G3⟩ := id V_w1_values
  obtain ⟨T4, X4, e4, st4⟩ := getF X2 hx hZ hown (host := "") (Or.inl (hw _ (List.mem_of_getElem? (i := 10) rfl))) Via.refl e2 F_values_o0 (g := (mkF m 30 #[.val (.ref o0), .val (.int p1)] [(.ref o0)])) rfl rfl (hb hby d3_30)
  obtain ⟨T5, X5, e5, st5⟩ := getF X4 hx hZ hown (host := "") (Or.inl (hw _ (List.mem_of_getElem? (i := 17) rfl))) Via.refl e4 F_size_o0 (g := (mkF m 35 #[.val (.ref o0), .val (.int p1)] [(.ref o0), (.ref o0), (.ref w1_values)])) rfl rfl (hb hby d3_35)
  obtain ⟨T6, h6, X6, e6, W6, st6⟩ := putF X5 hx hZ hown (host := "") (Or.inl (hw _ (List.mem_of_getElem? (i := 17) rfl))) Via.refl e5 F_size_o0 E_o0 (Or.inl (hw _ (List.mem_of_getElem? (i := 18) rfl))) (hw _ (List.mem_of_getElem? (i := 1) rfl)) (ty := .int) (by decide) rfl rfl (g := (mkF m 41 #[.val (.ref o0), .val (.int p1)] [(.int (2 : Int32)), (.ref o0), (.int (1 : Int32)), (.ref w1_values)])) rfl rfl (hb hby d3_41)
  have Fw6 := F_size_o0.same W6
  have N6 := Fr.snoc X6 N0 g_o0
  have z7 : n0 ≤ h6.size := Nat.le_trans Z0 (Keep.of_wr W6).1
  have hs8 : h0.size ≤ h6.size := Nat.le_trans (Nat.le_refl h0.size) (Keep.of_wr W6).1
  have k9 := (V_w1_values.other W6 ne_w1_values_o0)
  obtain ⟨cl10, Ar10, qc10, S10, M10, Ha10, G10⟩ := id k9
  have hin11 : ¬ ((1 : Int32) < 0 ∨ cl10.slots.size ≤ ((1 : Int32)).toNatClampNeg) := inb_of S10 ⟨by decide, by decide⟩
  obtain ⟨T12, h12, X12, e12, W12, st12⟩ := stI X6 hx hZ e6 Ar10 (j := (1 : Int32)) hin11 (g := (mkF m 45 #[.val (.ref o0), .val (.int p1)] [(.int p1), (.int (1 : Int32)), (.ref w1_values)])) rfl rfl (hb hby d3_45)
  have V12 : Arv Z h12 w1_values kA .int (4 : Int32) [(.int w10_e), (.int p1), (.int w12_e), (.int w13_e)] (.int (0 : Int32)) := Arv.set Ar10 qc10 S10 M10 Ha10 G10 rfl W12 1 rfl (Nat.le_of_ble_eq_true rfl)
  have N12 := Fr.snoc X12 N6 g_w1_values
  have z13 : n0 ≤ h12.size := Nat.le_trans z7 (Keep.of_wr W12).1
  have hs14 : h0.size ≤ h12.size := Nat.le_trans hs8 (Keep.of_wr W12).1
  obtain ⟨fs, hr, hrun, hended, hW, hsame⟩ := X12.leave (v := none) (fun _ => rfl)
  refine ⟨_, _, pre0 _ ?_, hrun, hended, _, _, rfl, ?_, ⟨_, rfl⟩, hW, hsame.mono (by decide) (by decide)⟩
  · skip
    show Steps p.tables e below (s₁.setTop (mkF m 0 #[.val (.ref o0), .val (.int p1)] [])) _
    refine XS.aloadN X0.here hx rfl (hb hby d3_0) rfl rfl ?_
    show Steps p.tables e below (s₁.setTop (mkF m 1 #[.val (.ref o0), .val (.int p1)] [(.ref o0)])) _
    refine st1 _ ?_
    show Steps p.tables e below (T1.setTop (mkF m 4 #[.val (.ref o0), .val (.int p1)] [(.int (1 : Int32))])) _
    refine XS.aloadN X1.here hx rfl (hb hby d3_4) rfl rfl ?_
    show Steps p.tables e below (T1.setTop (mkF m 5 #[.val (.ref o0), .val (.int p1)] [(.ref o0), (.int (1 : Int32))])) _
    refine st2 _ ?_
    show Steps p.tables e below (T2.setTop (mkF m 8 #[.val (.ref o0), .val (.int p1)] [(.ref w1_values), (.int (1 : Int32))])) _
    refine X2.arraylength hx (by rw [e2]; exact Ar3.1) (State.isArrayOf_alike hZ.alike Ar3.2.1) (g := (mkF m 8 #[.val (.ref o0), .val (.int p1)] [(.ref w1_values), (.int (1 : Int32))])) rfl rfl (hb hby d3_8) _ ?_
    rw [len_of S3 M3]
    show Steps p.tables e below (T2.setTop (mkF m 9 #[.val (.ref o0), .val (.int p1)] [(.int (4 : Int32)), (.int (1 : Int32))])) _
    refine XS.icmpYes X2.here hx rfl (pc0 := 9) (pc' := 29) rfl (hb hby d3_9) rfl (XT.ii_ne_t (by decide)) (by decide) (by decide) ?_
    show Steps p.tables e below (T2.setTop (mkF m 29 #[.val (.ref o0), .val (.int p1)] [])) _
    refine XS.aloadN X2.here hx rfl (hb hby d3_29) rfl rfl ?_
    show Steps p.tables e below (T2.setTop (mkF m 30 #[.val (.ref o0), .val (.int p1)] [(.ref o0)])) _
    refine st4 _ ?_
    show Steps p.tables e below (T4.setTop (mkF m 33 #[.val (.ref o0), .val (.int p1)] [(.ref w1_values)])) _
    refine XS.aloadN X4.here hx rfl (hb hby d3_33) rfl rfl ?_
    show Steps p.tables e below (T4.setTop (mkF m 34 #[.val (.ref o0), .val (.int p1)] [(.ref o0), (.ref w1_values)])) _
    refine XS.dup X4.here hx rfl (hb hby d3_34) rfl rfl ?_
    show Steps p.tables e below (T4.setTop (mkF m 35 #[.val (.ref o0), .val (.int p1)] [(.ref o0), (.ref o0), (.ref w1_values)])) _
    refine st5 _ ?_
    show Steps p.tables e below (T5.setTop (mkF m 38 #[.val (.ref o0), .val (.int p1)] [(.int (1 : Int32)), (.ref o0), (.ref w1_values)])) _
    refine XT.dupX1 X5.here hx rfl (hb hby d3_38) rfl rfl rfl ?_
    show Steps p.tables e below (T5.setTop (mkF m 39 #[.val (.ref o0), .val (.int p1)] [(.int (1 : Int32)), (.ref o0), (.int (1 : Int32)), (.ref w1_values)])) _
    refine XT.iconstV X5.here hx rfl (1 : Int32) (hb hby d3_39) (by decide) ?_
    show Steps p.tables e below (T5.setTop (mkF m 40 #[.val (.ref o0), .val (.int p1)] [(.int (1 : Int32)), (.int (1 : Int32)), (.ref o0), (.int (1 : Int32)), (.ref w1_values)])) _
    refine XS.iadd X5.here hx rfl (hb hby d3_40) rfl ?_
    show Steps p.tables e below (T5.setTop (mkF m 41 #[.val (.ref o0), .val (.int p1)] [(.int (2 : Int32)), (.ref o0), (.int (1 : Int32)), (.ref w1_values)])) _
    refine st6 _ ?_
    show Steps p.tables e below (T6.setTop (mkF m 44 #[.val (.ref o0), .val (.int p1)] [(.int (1 : Int32)), (.ref w1_values)])) _
    refine XS.iloadN X6.here hx rfl (hb hby d3_44) rfl ?_
    show Steps p.tables e below (T6.setTop (mkF m 45 #[.val (.ref o0), .val (.int p1)] [(.int p1), (.int (1 : Int32)), (.ref w1_values)])) _
    refine st12 _ ?_
    show Steps p.tables e below (T12.setTop (mkF m 46 #[.val (.ref o0), .val (.int p1)] [])) _
    exact X12.returnOut hx Bd.returns (hb hby d3_46) hr
  · skip
    show Qadd1 Z o0 p1 w1_values w10_e w11_e w12_e w13_e kA h0 n0 _ T12.heap _
    rw [e12]
    have k15 := ((E_o0.wr W6).wr W12)
    have k16 := (Fw6.other W12 (Or.inl (Ne.symm ne_w1_values_o0)))
    have k17 := ((F_values_o0.other W6 (Or.inr (slot_ne (Or.inl (hw _ (List.mem_of_getElem? (i := 11) rfl))) (Or.inl (hw _ (List.mem_of_getElem? (i := 18) rfl))) (by decide) (t := (.array .int)) (t' := .int) (by decide) (by decide)))).other W12 (Or.inl (Ne.symm ne_w1_values_o0)))
    exact ⟨N12, rfl, (((Keep.refl h0 [o0, w1_values]).wr W6 (Or.inl (List.mem_of_getElem? (i := 0) rfl))).wr W12 (Or.inl (List.mem_of_getElem? (i := 1) rfl))), k15, k16, k17, V12⟩
theorem ef_add2 (m : MethodId) (o0 : Addr) (p1 : Int32) : entryFrame m #[(.ref o0), (.int p1)] 2 = mkF m 0 #[.val (.ref o0), .val (.int p1)] [] := by first | (simp [entryFrame, mkF, argsToLocals, Value.category]; done) | rfl
def Qadd2 (Z : State) (o0 : Addr) (p1 : Int32) (w1_values : Addr) (w10_e : Int32) (w11_e : Int32) (w12_e : Int32) (w13_e : Int32) (kA : ClassId) (h0 : Heap) (n0 : Nat) (v : Option Value) (h : Heap) (L : List Loc) : Prop := Fr n0 L ∧ v = none ∧ Keep h0 h [o0, w1_values] ∧ Exa Z h o0 "com/example/vellum_index/vellumindex/IntList" ∧ Fld Z h o0 "com/example/vellum_index/vellumindex/IntList" "size" "I" (.int (3 : Int32)) ∧ Fld Z h o0 "com/example/vellum_index/vellumindex/IntList" "values" "[I" (.ref w1_values) ∧ Arv Z h w1_values kA .int (4 : Int32) [(.int w10_e), (.int w11_e), (.int p1), (.int w13_e)] (.int (0 : Int32))
set_option maxRecDepth 65536 in
set_option maxHeartbeats 40000000 in
theorem rmadd2 (l : Launch) (Z : State) (a0 : Array Value) (hw : ∀ d ∈ tables_1, d.before a0 Z = true) (ws : List Jvm.Cond) (o0 : Addr) (p1 : Int32) (w1_values : Addr) (w10_e : Int32) (w11_e : Int32) (w12_e : Int32) (w13_e : Int32) (kA : ClassId) (h0 : Heap) (n0 : Nat) (Z0 : n0 ≤ h0.size) (E_o0 : Exa Z h0 o0 "com/example/vellum_index/vellumindex/IntList") (F_size_o0 : Fld Z h0 o0 "com/example/vellum_index/vellumindex/IntList" "size" "I" (.int (2 : Int32))) (F_values_o0 : Fld Z h0 o0 "com/example/vellum_index/vellumindex/IntList" "values" "[I" (.ref w1_values)) (V_w1_values : Arv Z h0 w1_values kA .int (4 : Int32) [(.int w10_e), (.int w11_e), (.int w12_e), (.int w13_e)] (.int (0 : Int32))) (g_o0 : n0 ≤ o0) (ne_w1_values_o0 : w1_values ≠ o0) (g_w1_values : n0 ≤ w1_values) :
    MetFree l (⟨"com/example/vellum_index/vellumindex/IntList", "add", "(I)V"⟩ : MethodName) (head1 (Jvm.Cond.code (⟨"com/example/vellum_index/vellumindex/IntList", "add", "(I)V"⟩ : MethodName) prog_8_method_2_code 2 none :: ws) ({ frames := 0, cells := 0, slots := 0, locals := 0 } : Room)) (fun a U => a = #[(.ref o0), (.int p1)] ∧ Z.Warmed39 U.vm ∧ U.heap = h0) (fun _ _ _ _ _ => True) (fun _ U o U' => ∃ v L, o = .returned v ∧ Qadd2 Z o0 p1 w1_values w10_e w11_e w12_e w13_e kA h0 n0 v U'.heap L ∧ FrameEnd U o U' L ({ frames := 0, cells := 0, slots := 0, locals := 0 } : Room).cells ({ frames := 0, cells := 0, slots := 0, locals := 0 } : Room).slots) := by
  refine MetFree.of_bodySF (plainFor_of_name pn_com_example_vellum_index_vellumindex_IntList) hisR ?_
  intro p e s m args below meth c s₁ Bd hml0 hP hK
  obtain ⟨rfl, hZ, hh⟩ := hP
  have hx := Bd.exec
  have hby := Bd.bytes
  have hml : c.maxLocals = 2 := hml0
  have hown : s.vm.findClass "com/example/vellum_index/vellumindex/IntList" = some m.cls := findClass_of_methodNamed Bd.named
  have hnm := (name_of_methodNamed Bd.named Bd.method).1
  have X0 : Stand p l e ({ frames := 0, cells := 0, slots := 0, locals := 0 } : Room) s m #[(.ref o0), (.int p1)] below meth c s₁ [] 0 0 := Stand.of_body Bd
  have e0 : s₁.heap = h0 := by rw [← hh, Bd.state]; rfl
  have N0 := Fr.nil n0
  have pre0 : ∀ t, Steps p.tables e below (s₁.setTop (mkF m 0 #[.val (.ref o0), .val (.int p1)] [])) t → Steps p.tables e below (s₁.setTop (entryFrame m #[(.ref o0), (.int p1)] 2)) t := fun t k => castTop (ef_add2 m o0 p1) k
  obtain ⟨T1, X1, e1, st1⟩ := getF X0 hx hZ hown (host := "") (Or.inl (hw _ (List.mem_of_getElem? (i := 17) rfl))) Via.refl e0 F_size_o0 (g := (mkF m 1 #[.val (.ref o0), .val (.int p1)] [(.ref o0)])) rfl rfl (hb hby d3_1)
  obtain ⟨T2, X2, e2, st2⟩ := getF X1 hx hZ hown (host := "") (Or.inl (hw _ (List.mem_of_getElem? (i := 10) rfl))) Via.refl e1 F_values_o0 (g := (mkF m 5 #[.val (.ref o0), .val (.int p1)] [(.ref o0), (.int (2 : Int32))])) rfl rfl (hb hby d3_5)
  obtain ⟨cl3, Ar3, qc3, S3, M3, Ha3, G3⟩ := id V_w1_values
  obtain ⟨T4, X4, e4, st4⟩ := getF X2 hx hZ hown (host := "") (Or.inl (hw _ (List.mem_of_getElem? (i := 10) rfl))) Via.refl e2 F_values_o0 (g := (mkF m 30 #[.val (.ref o0), .val (.int p1)] [(.ref o0)])) rfl rfl (hb hby d3_30)
  obtain ⟨T5, X5, e5, st5⟩ := getF X4 hx hZ hown (host := "") (Or.inl (hw _ (List.mem_of_getElem? (i := 17) rfl))) Via.refl e4 F_size_o0 (g := (mkF m 35 #[.val (.ref o0), .val (.int p1)] [(.ref o0), (.ref o0), (.ref w1_values)])) rfl rfl (hb hby d3_35)
  obtain ⟨T6, h6, X6, e6, W6, st6⟩ := putF X5 hx hZ hown (host := "") (Or.inl (hw _ (List.mem_of_getElem? (i := 17) rfl))) Via.refl e5 F_size_o0 E_o0 (Or.inl (hw _ (List.mem_of_getElem? (i := 18) rfl))) (hw _ (List.mem_of_getElem? (i := 1) rfl)) (ty := .int) (by decide) rfl rfl (g := (mkF m 41 #[.val (.ref o0), .val (.int p1)] [(.int (3 : Int32)), (.ref o0), (.int (2 : Int32)), (.ref w1_values)])) rfl rfl (hb hby d3_41)
  have Fw6 := F_size_o0.same W6
  have N6 := Fr.snoc X6 N0 g_o0
  have z7 : n0 ≤ h6.size := Nat.le_trans Z0 (Keep.of_wr W6).1
  have hs8 : h0.size ≤ h6.size := Nat.le_trans (Nat.le_refl h0.size) (Keep.of_wr W6).1
  have k9 := (V_w1_values.other W6 ne_w1_values_o0)
  obtain ⟨cl10, Ar10, qc10, S10, M10, Ha10, G10⟩ := id k9
  have hin11 : ¬ ((2 : Int32) < 0 ∨ cl10.slots.size ≤ ((2 : Int32)).toNatClampNeg) := inb_of S10 ⟨by decide, by decide⟩
  obtain ⟨T12, h12, X12, e12, W12, st12⟩ := stI X6 hx hZ e6 Ar10 (j := (2 : Int32)) hin11 (g := (mkF m 45 #[.val (.ref o0), .val (.int p1)] [(.int p1), (.int (2 : Int32)), (.ref w1_values)])) rfl rfl (hb hby d3_45)
  have V12 : Arv Z h12 w1_values kA .int (4 : Int32) [(.int w10_e), (.int w11_e), (.int p1), (.int w13_e)] (.int (0 : Int32)) := Arv.set Ar10 qc10 S10 M10 Ha10 G10 rfl W12 2 rfl (Nat.le_of_ble_eq_true rfl)
  have N12 := Fr.snoc X12 N6 g_w1_values
  have z13 : n0 ≤ h12.size := Nat.le_trans z7 (Keep.of_wr W12).1
  have hs14 : h0.size ≤ h12.size := Nat.le_trans hs8 (Keep.of_wr W12).1
  obtain ⟨fs, hr, hrun, hended, hW, hsame⟩ := X12.leave (v := none) (fun _ => rfl)
  refine ⟨_, _, pre0 _ ?_, hrun, hended, _, _, rfl, ?_, ⟨_, rfl⟩, hW, hsame.mono (by decide) (by decide)⟩
  · skip
    show Steps p.tables e below (s₁.setTop (mkF m 0 #[.val (.ref o0), .val (.int p1)] [])) _
    refine XS.aloadN X0.here hx rfl (hb hby d3_0) rfl rfl ?_
    show Steps p.tables e below (s₁.setTop (mkF m 1 #[.val (.ref o0), .val (.int p1)] [(.ref o0)])) _
    refine st1 _ ?_
    show Steps p.tables e below (T1.setTop (mkF m 4 #[.val (.ref o0), .val (.int p1)] [(.int (2 : Int32))])) _
    refine XS.aloadN X1.here hx rfl (hb hby d3_4) rfl rfl ?_
    show Steps p.tables e below (T1.setTop (mkF m 5 #[.val (.ref o0), .val (.int p1)] [(.ref o0), (.int (2 : Int32))])) _
    refine st2 _ ?_
    show Steps p.tables e below (T2.setTop (mkF m 8 #[.val (.ref o0), .val (.int p1)] [(.ref w1_values), (.int (2 : Int32))])) _
    refine X2.arraylength hx (by rw [e2]; exact Ar3.1) (State.isArrayOf_alike hZ.alike Ar3.2.1) (g := (mkF m 8 #[.val (.ref o0), .val (.int p1)] [(.ref w1_values), (.int (2 : Int32))])) rfl rfl (hb hby d3_8) _ ?_
    rw [len_of S3 M3]
    show Steps p.tables e below (T2.setTop (mkF m 9 #[.val (.ref o0), .val (.int p1)] [(.int (4 : Int32)), (.int (2 : Int32))])) _
    refine XS.icmpYes X2.here hx rfl (pc0 := 9) (pc' := 29) rfl (hb hby d3_9) rfl (XT.ii_ne_t (by decide)) (by decide) (by decide) ?_
    show Steps p.tables e below (T2.setTop (mkF m 29 #[.val (.ref o0), .val (.int p1)] [])) _
    refine XS.aloadN X2.here hx rfl (hb hby d3_29) rfl rfl ?_
    show Steps p.tables e below (T2.setTop (mkF m 30 #[.val (.ref o0), .val (.int p1)] [(.ref o0)])) _
    refine st4 _ ?_
    show Steps p.tables e below (T4.setTop (mkF m 33 #[.val (.ref o0), .val (.int p1)] [(.ref w1_values)])) _
    refine XS.aloadN X4.here hx rfl (hb hby d3_33) rfl rfl ?_
    show Steps p.tables e below (T4.setTop (mkF m 34 #[.val (.ref o0), .val (.int p1)] [(.ref o0), (.ref w1_values)])) _
    refine XS.dup X4.here hx rfl (hb hby d3_34) rfl rfl ?_
    show Steps p.tables e below (T4.setTop (mkF m 35 #[.val (.ref o0), .val (.int p1)] [(.ref o0), (.ref o0), (.ref w1_values)])) _
    refine st5 _ ?_
    show Steps p.tables e below (T5.setTop (mkF m 38 #[.val (.ref o0), .val (.int p1)] [(.int (2 : Int32)), (.ref o0), (.ref w1_values)])) _
    refine XT.dupX1 X5.here hx rfl (hb hby d3_38) rfl rfl rfl ?_
    show Steps p.tables e below (T5.setTop (mkF m 39 #[.val (.ref o0), .val (.int p1)] [(.int (2 : Int32)), (.ref o0), (.int (2 : Int32)), (.ref w1_values)])) _
    refine XT.iconstV X5.here hx rfl (1 : Int32) (hb hby d3_39) (by decide) ?_
    show Steps p.tables e below (T5.setTop (mkF m 40 #[.val (.ref o0), .val (.int p1)] [(.int (1 : Int32)), (.int (2 : Int32)), (.ref o0), (.int (2 : Int32)), (.ref w1_values)])) _
    refine XS.iadd X5.here hx rfl (hb hby d3_40) rfl ?_
    show Steps p.tables e below (T5.setTop (mkF m 41 #[.val (.ref o0), .val (.int p1)] [(.int (3 : Int32)), (.ref o0), (.int (2 : Int32)), (.ref w1_values)])) _
    refine st6 _ ?_
    show Steps p.tables e below (T6.setTop (mkF m 44 #[.val (.ref o0), .val (.int p1)] [(.int (2 : Int32)), (.ref w1_values)])) _
    refine XS.iloadN X6.here hx rfl (hb hby d3_44) rfl ?_
    show Steps p.tables e below (T6.setTop (mkF m 45 #[.val (.ref o0), .val (.int p1)] [(.int p1), (.int (2 : Int32)), (.ref w1_values)])) _
    refine st12 _ ?_
    show Steps p.tables e below (T12.setTop (mkF m 46 #[.val (.ref o0), .val (.int p1)] [])) _
    exact X12.returnOut hx Bd.returns (hb hby d3_46) hr
  · skip
    show Qadd2 Z o0 p1 w1_values w10_e w11_e w12_e w13_e kA h0 n0 _ T12.heap _
    rw [e12]
    have k15 := ((E_o0.wr W6).wr W12)
    have k16 := (Fw6.other W12 (Or.inl (Ne.symm ne_w1_values_o0)))
    have k17 := ((F_values_o0.other W6 (Or.inr (slot_ne (Or.inl (hw _ (List.mem_of_getElem? (i := 11) rfl))) (Or.inl (hw _ (List.mem_of_getElem? (i := 18) rfl))) (by decide) (t := (.array .int)) (t' := .int) (by decide) (by decide)))).other W12 (Or.inl (Ne.symm ne_w1_values_o0)))
    exact ⟨N12, rfl, (((Keep.refl h0 [o0, w1_values]).wr W6 (Or.inl (List.mem_of_getElem? (i := 0) rfl))).wr W12 (Or.inl (List.mem_of_getElem? (i := 1) rfl))), k15, k16, k17, V12⟩
theorem d4_0 : decode prog_8_method_4_code 0 = .ok (.iload_n 1, 1) := by decide +kernel
theorem d4_1 : decode prog_8_method_4_code 1 = .ok (.aload_n 0, 1) := by decide +kernel
theorem d4_2 : decode prog_8_method_4_code 2 = .ok (.getfield 13, 3) := by decide +kernel
theorem d4_5 : decode prog_8_method_4_code 5 = .ok (.if_icmp .lt 12, 3) := by decide +kernel
theorem d4_17 : decode prog_8_method_4_code 17 = .ok (.aload_n 0, 1) := by decide +kernel
theorem d4_18 : decode prog_8_method_4_code 18 = .ok (.getfield 7, 3) := by decide +kernel
theorem d4_21 : decode prog_8_method_4_code 21 = .ok (.iload_n 1, 1) := by decide +kernel
theorem d4_22 : decode prog_8_method_4_code 22 = .ok (.dup2, 1) := by decide +kernel
theorem d4_23 : decode prog_8_method_4_code 23 = .ok (.iaload, 1) := by decide +kernel
theorem d4_24 : decode prog_8_method_4_code 24 = .ok (.iload_n 2, 1) := by decide +kernel
theorem d4_25 : decode prog_8_method_4_code 25 = .ok (.iadd, 1) := by decide +kernel
theorem d4_26 : decode prog_8_method_4_code 26 = .ok (.iastore, 1) := by decide +kernel
theorem d4_27 : decode prog_8_method_4_code 27 = .ok (.return_, 1) := by decide +kernel
theorem ef_4 (m : MethodId) (o0 : Addr) (p1 : Int32) (p2 : Int32) : entryFrame m #[(.ref o0), (.int p1), (.int p2)] 3 = mkF m 0 #[.val (.ref o0), .val (.int p1), .val (.int p2)] [] := by first | (simp [entryFrame, mkF, argsToLocals, Value.category]; done) | rfl
def v4_1 (p1 : Int32) (p2 : Int32) (w10_e : Int32) (w11_e : Int32) (w12_e : Int32) (w13_e : Int32) : Int32 := ((own_pick p1 w10_e w11_e w12_e w13_e) + p2)
def v4_2 (p1 : Int32) (p2 : Int32) (w10_e : Int32) (w11_e : Int32) (w12_e : Int32) (w13_e : Int32) : Int32 := (own_put p1 (0 : Int32) (v4_1 p1 p2 w10_e w11_e w12_e w13_e) w10_e)
def v4_3 (p1 : Int32) (p2 : Int32) (w10_e : Int32) (w11_e : Int32) (w12_e : Int32) (w13_e : Int32) : Int32 := (own_put p1 (1 : Int32) (v4_1 p1 p2 w10_e w11_e w12_e w13_e) w11_e)
def v4_4 (p1 : Int32) (p2 : Int32) (w10_e : Int32) (w11_e : Int32) (w12_e : Int32) (w13_e : Int32) : Int32 := (own_put p1 (2 : Int32) (v4_1 p1 p2 w10_e w11_e w12_e w13_e) w12_e)
def v4_5 (p1 : Int32) (p2 : Int32) (w10_e : Int32) (w11_e : Int32) (w12_e : Int32) (w13_e : Int32) : Int32 := (own_put p1 (3 : Int32) (v4_1 p1 p2 w10_e w11_e w12_e w13_e) w13_e)
def Q4 (Z : State) (o0 : Addr) (p1 : Int32) (p2 : Int32) (w1_values : Addr) (w10_e : Int32) (w11_e : Int32) (w12_e : Int32) (w13_e : Int32) (kA : ClassId) (h0 : Heap) (n0 : Nat) (v : Option Value) (h : Heap) (L : List Loc) : Prop := Fr n0 L ∧ v = none ∧ Keep h0 h [w1_values] ∧ Arv Z h w1_values kA .int (4 : Int32) [(.int (v4_2 p1 p2 w10_e w11_e w12_e w13_e)), (.int (v4_3 p1 p2 w10_e w11_e w12_e w13_e)), (.int (v4_4 p1 p2 w10_e w11_e w12_e w13_e)), (.int (v4_5 p1 p2 w10_e w11_e w12_e w13_e))] (.int (0 : Int32))
set_option maxRecDepth 65536 in
set_option maxHeartbeats 40000000 in
theorem rm4 (l : Launch) (Z : State) (a0 : Array Value) (hw : ∀ d ∈ tables_1, d.before a0 Z = true) (ws : List Jvm.Cond) (o0 : Addr) (p1 : Int32) (p2 : Int32) (w1_values : Addr) (w10_e : Int32) (w11_e : Int32) (w12_e : Int32) (w13_e : Int32) (kA : ClassId) (h0 : Heap) (n0 : Nat) (Z0 : n0 ≤ h0.size) (E_o0 : Exa Z h0 o0 "com/example/vellum_index/vellumindex/IntList") (F_size_o0 : Fld Z h0 o0 "com/example/vellum_index/vellumindex/IntList" "size" "I" (.int (3 : Int32))) (F_values_o0 : Fld Z h0 o0 "com/example/vellum_index/vellumindex/IntList" "values" "[I" (.ref w1_values)) (V_w1_values : Arv Z h0 w1_values kA .int (4 : Int32) [(.int w10_e), (.int w11_e), (.int w12_e), (.int w13_e)] (.int (0 : Int32))) (hy0 : p1 < (3 : Int32)) (hy1 : ¬ (p1 < (0 : Int32))) (hy2 : p1 < (4 : Int32)) (g_w1_values : n0 ≤ w1_values) :
    MetFree l (⟨"com/example/vellum_index/vellumindex/IntList", "increment", "(II)V"⟩ : MethodName) (head1 (Jvm.Cond.code (⟨"com/example/vellum_index/vellumindex/IntList", "increment", "(II)V"⟩ : MethodName) prog_8_method_4_code 3 none :: ws) ({ frames := 0, cells := 0, slots := 0, locals := 0 } : Room)) (fun a U => a = #[(.ref o0), (.int p1), (.int p2)] ∧ Z.Warmed39 U.vm ∧ U.heap = h0) (fun _ _ _ _ _ => True) (fun _ U o U' => ∃ v L, o = .returned v ∧ Q4 Z o0 p1 p2 w1_values w10_e w11_e w12_e w13_e kA h0 n0 v U'.heap L ∧ FrameEnd U o U' L ({ frames := 0, cells := 0, slots := 0, locals := 0 } : Room).cells ({ frames := 0, cells := 0, slots := 0, locals := 0 } : Room).slots) := by
  refine MetFree.of_bodySF (plainFor_of_name pn_com_example_vellum_index_vellumindex_IntList) hisR ?_
  intro p e s m args below meth c s₁ Bd hml0 hP hK
  obtain ⟨rfl, hZ, hh⟩ := hP
  have hx := Bd.exec
  have hby := Bd.bytes
  have hml : c.maxLocals = 3 := hml0
  have hown : s.vm.findClass "com/example/vellum_index/vellumindex/IntList" = some m.cls := findClass_of_methodNamed Bd.named
  have hnm := (name_of_methodNamed Bd.named Bd.method).1
  have X0 : Stand p l e ({ frames := 0, cells := 0, slots := 0, locals := 0 } : Room) s m #[(.ref o0), (.int p1), (.int p2)] below meth c s₁ [] 0 0 := Stand.of_body Bd
  have e0 : s₁.heap = h0 := by rw [← hh, Bd.state]; rfl
  have N0 := Fr.nil n0
  have pre0 : ∀ t, Steps p.tables e below (s₁.setTop (mkF m 0 #[.val (.ref o0), .val (.int p1), .val (.int p2)] [])) t → Steps p.tables e below (s₁.setTop (entryFrame m #[(.ref o0), (.int p1), (.int p2)] 3)) t := fun t k => castTop (ef_4 m o0 p1 p2) k
  obtain ⟨T1, X1, e1, st1⟩ := getF X0 hx hZ hown (host := "") (Or.inl (hw _ (List.mem_of_getElem? (i := 17) rfl))) Via.refl e0 F_size_o0 (g := (mkF m 2 #[.val (.ref o0), .val (.int p1), .val (.int p2)] [(.ref o0), (.int p1)])) rfl rfl (hb hby d4_2)
  obtain ⟨T2, X2, e2, st2⟩ := getF X1 hx hZ hown (host := "") (Or.inl (hw _ (List.mem_of_getElem? (i := 10) rfl))) Via.refl e1 F_values_o0 (g := (mkF m 18 #[.val (.ref o0), .val (.int p1), .val (.int p2)] [(.ref o0)])) rfl rfl (hb hby d4_18)
  obtain ⟨cl3, Ar3, qc3, S3, M3, Ha3, G3⟩ := id V_w1_values
  have hin4 : ¬ (p1 < 0 ∨ cl3.slots.size ≤ (p1).toNatClampNeg) := inb_of S3 ⟨hy1, hy2⟩
  have hin5 : ¬ (p1 < 0 ∨ cl3.slots.size ≤ (p1).toNatClampNeg) := inb_of S3 ⟨hy1, hy2⟩
  obtain ⟨T6, h6, X6, e6, W6, st6⟩ := stI X2 hx hZ e2 Ar3 (j := p1) hin5 (g := (mkF m 26 #[.val (.ref o0), .val (.int p1), .val (.int p2)] [(.int ((own_pick p1 w10_e w11_e w12_e w13_e) + p2)), (.int p1), (.ref w1_values)])) rfl rfl (hb hby d4_26)
  have V6 : Arv Z h6 w1_values kA .int (4 : Int32) [(.int (v4_2 p1 p2 w10_e w11_e w12_e w13_e)), (.int (v4_3 p1 p2 w10_e w11_e w12_e w13_e)), (.int (v4_4 p1 p2 w10_e w11_e w12_e w13_e)), (.int (v4_5 p1 p2 w10_e w11_e w12_e w13_e))] (.int (0 : Int32)) := by
    have q := Arv.set Ar3 qc3 S3 M3 Ha3 G3 rfl W6 _ rfl (own_len4 hy1 hy2)
    rw [own_set4 hy1 hy2] at q
    exact q
  have N6 := Fr.snoc X6 N0 g_w1_values
  have z7 : n0 ≤ h6.size := Nat.le_trans Z0 (Keep.of_wr W6).1
  have hs8 : h0.size ≤ h6.size := Nat.le_trans (Nat.le_refl h0.size) (Keep.of_wr W6).1
  obtain ⟨fs, hr, hrun, hended, hW, hsame⟩ := X6.leave (v := none) (fun _ => rfl)
  refine ⟨_, _, pre0 _ ?_, hrun, hended, _, _, rfl, ?_, ⟨_, rfl⟩, hW, hsame.mono (by decide) (by decide)⟩
  · skip
    show Steps p.tables e below (s₁.setTop (mkF m 0 #[.val (.ref o0), .val (.int p1), .val (.int p2)] [])) _
    refine XS.iloadN X0.here hx rfl (hb hby d4_0) rfl ?_
    show Steps p.tables e below (s₁.setTop (mkF m 1 #[.val (.ref o0), .val (.int p1), .val (.int p2)] [(.int p1)])) _
    refine XS.aloadN X0.here hx rfl (hb hby d4_1) rfl rfl ?_
    show Steps p.tables e below (s₁.setTop (mkF m 2 #[.val (.ref o0), .val (.int p1), .val (.int p2)] [(.ref o0), (.int p1)])) _
    refine st1 _ ?_
    show Steps p.tables e below (T1.setTop (mkF m 5 #[.val (.ref o0), .val (.int p1), .val (.int p2)] [(.int (3 : Int32)), (.int p1)])) _
    refine XS.icmpYes X1.here hx rfl (pc0 := 5) (pc' := 17) rfl (hb hby d4_5) rfl (XT.ii_lt_t hy0) (by decide) (by decide) ?_
    show Steps p.tables e below (T1.setTop (mkF m 17 #[.val (.ref o0), .val (.int p1), .val (.int p2)] [])) _
    refine XS.aloadN X1.here hx rfl (hb hby d4_17) rfl rfl ?_
    show Steps p.tables e below (T1.setTop (mkF m 18 #[.val (.ref o0), .val (.int p1), .val (.int p2)] [(.ref o0)])) _
    refine st2 _ ?_
    show Steps p.tables e below (T2.setTop (mkF m 21 #[.val (.ref o0), .val (.int p1), .val (.int p2)] [(.ref w1_values)])) _
    refine XS.iloadN X2.here hx rfl (hb hby d4_21) rfl ?_
    show Steps p.tables e below (T2.setTop (mkF m 22 #[.val (.ref o0), .val (.int p1), .val (.int p2)] [(.int p1), (.ref w1_values)])) _
    refine XT.dup2 X2.here hx rfl (hb hby d4_22) rfl rfl rfl ?_
    show Steps p.tables e below (T2.setTop (mkF m 23 #[.val (.ref o0), .val (.int p1), .val (.int p2)] [(.int p1), (.ref w1_values), (.int p1), (.ref w1_values)])) _
    refine X2.iaload hx (j := p1) (v := (.int (own_pick p1 w10_e w11_e w12_e w13_e))) (by rw [e2]; exact Ar3.1) (State.isArrayOf_alike hZ.alike Ar3.2.1) Ar3.2.2 hin4 (Has.at Ha3 hin4 (own_get4 hy1 hy2)) (g := (mkF m 23 #[.val (.ref o0), .val (.int p1), .val (.int p2)] [(.int p1), (.ref w1_values), (.int p1), (.ref w1_values)])) rfl rfl (hb hby d4_23) _ ?_
    show Steps p.tables e below (T2.setTop (mkF m 24 #[.val (.ref o0), .val (.int p1), .val (.int p2)] [(.int (own_pick p1 w10_e w11_e w12_e w13_e)), (.int p1), (.ref w1_values)])) _
    refine XS.iloadN X2.here hx rfl (hb hby d4_24) rfl ?_
    show Steps p.tables e below (T2.setTop (mkF m 25 #[.val (.ref o0), .val (.int p1), .val (.int p2)] [(.int p2), (.int (own_pick p1 w10_e w11_e w12_e w13_e)), (.int p1), (.ref w1_values)])) _
    refine XS.iadd X2.here hx rfl (hb hby d4_25) rfl ?_
    show Steps p.tables e below (T2.setTop (mkF m 26 #[.val (.ref o0), .val (.int p1), .val (.int p2)] [(.int ((own_pick p1 w10_e w11_e w12_e w13_e) + p2)), (.int p1), (.ref w1_values)])) _
    refine st6 _ ?_
    show Steps p.tables e below (T6.setTop (mkF m 27 #[.val (.ref o0), .val (.int p1), .val (.int p2)] [])) _
    exact X6.returnOut hx Bd.returns (hb hby d4_27) hr
  · skip
    show Q4 Z o0 p1 p2 w1_values w10_e w11_e w12_e w13_e kA h0 n0 _ T6.heap _
    rw [e6]
    exact ⟨N6, rfl, ((Keep.refl h0 [w1_values]).wr W6 (Or.inl (List.mem_of_getElem? (i := 0) rfl))), V6⟩
theorem d5_0 : decode method_2_code 0 = .ok (.iload_n 0, 1) := by decide +kernel
theorem d5_1 : decode method_2_code 1 = .ok (.iload_n 1, 1) := by decide +kernel
theorem d5_2 : decode method_2_code 2 = .ok (.if_icmp .ne 7, 3) := by decide +kernel
theorem d5_5 : decode method_2_code 5 = .ok (.iload_n 2, 1) := by decide +kernel
theorem d5_6 : decode method_2_code 6 = .ok (.iload_n 3, 1) := by decide +kernel
theorem d5_7 : decode method_2_code 7 = .ok (.iadd, 1) := by decide +kernel
theorem d5_8 : decode method_2_code 8 = .ok (.ireturn, 1) := by decide +kernel
theorem d5_9 : decode method_2_code 9 = .ok (.iload_n 2, 1) := by decide +kernel
theorem d5_10 : decode method_2_code 10 = .ok (.ireturn, 1) := by decide +kernel
theorem pn_com_example_vellum_index_vellumindex_IntListIncrementPinLaw : plainName "com/example/vellum_index/vellumindex/IntListIncrementPinLaw" = true := by first | (simp [plainName, overriddenIn]; done) | decide +kernel
theorem ef_5 (m : MethodId) (p0 : Int32) (p1 : Int32) (p2 : Int32) (p3 : Int32) : entryFrame m #[(.int p0), (.int p1), (.int p2), (.int p3)] 4 = mkF m 0 #[.val (.int p0), .val (.int p1), .val (.int p2), .val (.int p3)] [] := by first | (simp [entryFrame, mkF, argsToLocals, Value.category]; done) | rfl
def f5 (p0 : Int32) (p1 : Int32) (p2 : Int32) (p3 : Int32) : Int32 := (if p0 = p1 then (p2 + p3) else p2)
def Q5 (Z : State) (p0 : Int32) (p1 : Int32) (p2 : Int32) (p3 : Int32) (h0 : Heap) (n0 : Nat) (v : Option Value) (h : Heap) (L : List Loc) : Prop := Fr n0 L ∧ v = some (.int (f5 p0 p1 p2 p3)) ∧ h = h0
set_option maxRecDepth 65536 in
set_option maxHeartbeats 40000000 in
theorem rm5 (l : Launch) (Z : State) (a0 : Array Value) (hw : ∀ d ∈ tables_1, d.before a0 Z = true) (ws : List Jvm.Cond) (p0 : Int32) (p1 : Int32) (p2 : Int32) (p3 : Int32) (h0 : Heap) (n0 : Nat) (Z0 : n0 ≤ h0.size) :
    MetFree l (⟨"com/example/vellum_index/vellumindex/IntListIncrementPinLaw", "expected", "(IIII)I"⟩ : MethodName) (head1 (Jvm.Cond.code (⟨"com/example/vellum_index/vellumindex/IntListIncrementPinLaw", "expected", "(IIII)I"⟩ : MethodName) method_2_code 4 (some .int) :: ws) ({ frames := 0, cells := 0, slots := 0, locals := 0 } : Room)) (fun a U => a = #[(.int p0), (.int p1), (.int p2), (.int p3)] ∧ Z.Warmed39 U.vm ∧ U.heap = h0) (fun _ _ _ _ _ => True) (fun _ U o U' => ∃ v L, o = .returned v ∧ Q5 Z p0 p1 p2 p3 h0 n0 v U'.heap L ∧ FrameEnd U o U' L ({ frames := 0, cells := 0, slots := 0, locals := 0 } : Room).cells ({ frames := 0, cells := 0, slots := 0, locals := 0 } : Room).slots) := by
  refine MetFree.of_bodySF (plainFor_of_name pn_com_example_vellum_index_vellumindex_IntListIncrementPinLaw) hisR ?_
  intro p e s m args below meth c s₁ Bd hml0 hP hK
  obtain ⟨rfl, hZ, hh⟩ := hP
  have hx := Bd.exec
  have hby := Bd.bytes
  have hml : c.maxLocals = 4 := hml0
  have hown : s.vm.findClass "com/example/vellum_index/vellumindex/IntListIncrementPinLaw" = some m.cls := findClass_of_methodNamed Bd.named
  have hnm := (name_of_methodNamed Bd.named Bd.method).1
  have X0 : Stand p l e ({ frames := 0, cells := 0, slots := 0, locals := 0 } : Room) s m #[(.int p0), (.int p1), (.int p2), (.int p3)] below meth c s₁ [] 0 0 := Stand.of_body Bd
  have e0 : s₁.heap = h0 := by rw [← hh, Bd.state]; rfl
  have N0 := Fr.nil n0
  have pre0 : ∀ t, Steps p.tables e below (s₁.setTop (mkF m 0 #[.val (.int p0), .val (.int p1), .val (.int p2), .val (.int p3)] [])) t → Steps p.tables e below (s₁.setTop (entryFrame m #[(.int p0), (.int p1), (.int p2), (.int p3)] 4)) t := fun t k => castTop (ef_5 m p0 p1 p2 p3) k
  have pre1 : ∀ t, Steps p.tables e below (s₁.setTop (mkF m 2 #[.val (.int p0), .val (.int p1), .val (.int p2), .val (.int p3)] [(.int p1), (.int p0)])) t → Steps p.tables e below (s₁.setTop (entryFrame m #[(.int p0), (.int p1), (.int p2), (.int p3)] 4)) t := by
    intro t k
    refine pre0 t ?_
    show Steps p.tables e below (s₁.setTop (mkF m 0 #[.val (.int p0), .val (.int p1), .val (.int p2), .val (.int p3)] [])) _
    refine XS.iloadN X0.here hx rfl (hb hby d5_0) rfl ?_
    show Steps p.tables e below (s₁.setTop (mkF m 1 #[.val (.int p0), .val (.int p1), .val (.int p2), .val (.int p3)] [(.int p0)])) _
    refine XS.iloadN X0.here hx rfl (hb hby d5_1) rfl ?_
    exact k
  by_cases c2 : p0 = p1
  · skip
    obtain ⟨fs, hr, hrun, hended, hW, hsame⟩ := X0.leave (v := some (.int (p2 + p3))) (fun h => by rw [Bd.returns] at h; cases h)
    refine ⟨_, _, pre1 _ ?_, hrun, hended, _, _, rfl, ?_, ⟨_, rfl⟩, hW, hsame.mono (by decide) (by decide)⟩
    · skip
      show Steps p.tables e below (s₁.setTop (mkF m 2 #[.val (.int p0), .val (.int p1), .val (.int p2), .val (.int p3)] [(.int p1), (.int p0)])) _
      refine XS.icmpNo X0.here hx rfl (hb hby d5_2) rfl (XT.ii_ne_f c2) ?_
      show Steps p.tables e below (s₁.setTop (mkF m 5 #[.val (.int p0), .val (.int p1), .val (.int p2), .val (.int p3)] [])) _
      refine XS.iloadN X0.here hx rfl (hb hby d5_5) rfl ?_
      show Steps p.tables e below (s₁.setTop (mkF m 6 #[.val (.int p0), .val (.int p1), .val (.int p2), .val (.int p3)] [(.int p2)])) _
      refine XS.iloadN X0.here hx rfl (hb hby d5_6) rfl ?_
      show Steps p.tables e below (s₁.setTop (mkF m 7 #[.val (.int p0), .val (.int p1), .val (.int p2), .val (.int p3)] [(.int p3), (.int p2)])) _
      refine XS.iadd X0.here hx rfl (hb hby d5_7) rfl ?_
      show Steps p.tables e below (s₁.setTop (mkF m 8 #[.val (.int p0), .val (.int p1), .val (.int p2), .val (.int p3)] [(.int (p2 + p3))])) _
      exact retI X0 hx Bd.returns (hb hby d5_8) hr
    · skip
      show Q5 Z p0 p1 p2 p3 h0 n0 _ s₁.heap _
      rw [e0]
      exact ⟨N0, (by rw [show (f5 p0 p1 p2 p3) = (p2 + p3) from (if_pos c2)]), rfl⟩
  · skip
    obtain ⟨fs, hr, hrun, hended, hW, hsame⟩ := X0.leave (v := some (.int p2)) (fun h => by rw [Bd.returns] at h; cases h)
    refine ⟨_, _, pre1 _ ?_, hrun, hended, _, _, rfl, ?_, ⟨_, rfl⟩, hW, hsame.mono (by decide) (by decide)⟩
    · skip
      show Steps p.tables e below (s₁.setTop (mkF m 2 #[.val (.int p0), .val (.int p1), .val (.int p2), .val (.int p3)] [(.int p1), (.int p0)])) _
      refine XS.icmpYes X0.here hx rfl (pc0 := 2) (pc' := 9) rfl (hb hby d5_2) rfl (XT.ii_ne_t c2) (by decide) (by decide) ?_
      show Steps p.tables e below (s₁.setTop (mkF m 9 #[.val (.int p0), .val (.int p1), .val (.int p2), .val (.int p3)] [])) _
      refine XS.iloadN X0.here hx rfl (hb hby d5_9) rfl ?_
      show Steps p.tables e below (s₁.setTop (mkF m 10 #[.val (.int p0), .val (.int p1), .val (.int p2), .val (.int p3)] [(.int p2)])) _
      exact retI X0 hx Bd.returns (hb hby d5_10) hr
    · skip
      show Q5 Z p0 p1 p2 p3 h0 n0 _ s₁.heap _
      rw [e0]
      exact ⟨N0, (by rw [show (f5 p0 p1 p2 p3) = p2 from (if_neg c2)]), rfl⟩
theorem d6_0 : decode prog_8_method_5_code 0 = .ok (.aload_n 0, 1) := by decide +kernel
theorem d6_1 : decode prog_8_method_5_code 1 = .ok (.getfield 13, 3) := by decide +kernel
theorem d6_4 : decode prog_8_method_5_code 4 = .ok (.ireturn, 1) := by decide +kernel
theorem ef_6 (m : MethodId) (o0 : Addr) : entryFrame m #[(.ref o0)] 1 = mkF m 0 #[.val (.ref o0)] [] := by first | (simp [entryFrame, mkF, argsToLocals, Value.category]; done) | rfl
def f6 (w0_size : Int32) : Int32 := w0_size
def Q6 (Z : State) (o0 : Addr) (w0_size : Int32) (h0 : Heap) (n0 : Nat) (v : Option Value) (h : Heap) (L : List Loc) : Prop := Fr n0 L ∧ v = some (.int (f6 w0_size)) ∧ h = h0
set_option maxRecDepth 65536 in
set_option maxHeartbeats 40000000 in
theorem rm6 (l : Launch) (Z : State) (a0 : Array Value) (hw : ∀ d ∈ tables_1, d.before a0 Z = true) (ws : List Jvm.Cond) (o0 : Addr) (w0_size : Int32) (h0 : Heap) (n0 : Nat) (Z0 : n0 ≤ h0.size) (F_size_o0 : Fld Z h0 o0 "com/example/vellum_index/vellumindex/IntList" "size" "I" (.int w0_size)) :
    MetFree l (⟨"com/example/vellum_index/vellumindex/IntList", "size", "()I"⟩ : MethodName) (head1 (Jvm.Cond.code (⟨"com/example/vellum_index/vellumindex/IntList", "size", "()I"⟩ : MethodName) prog_8_method_5_code 1 (some .int) :: ws) ({ frames := 0, cells := 0, slots := 0, locals := 0 } : Room)) (fun a U => a = #[(.ref o0)] ∧ Z.Warmed39 U.vm ∧ U.heap = h0) (fun _ _ _ _ _ => True) (fun _ U o U' => ∃ v L, o = .returned v ∧ Q6 Z o0 w0_size h0 n0 v U'.heap L ∧ FrameEnd U o U' L ({ frames := 0, cells := 0, slots := 0, locals := 0 } : Room).cells ({ frames := 0, cells := 0, slots := 0, locals := 0 } : Room).slots) := by
  refine MetFree.of_bodySF (plainFor_of_name pn_com_example_vellum_index_vellumindex_IntList) hisR ?_
  intro p e s m args below meth c s₁ Bd hml0 hP hK
  obtain ⟨rfl, hZ, hh⟩ := hP
  have hx := Bd.exec
  have hby := Bd.bytes
  have hml : c.maxLocals = 1 := hml0
  have hown : s.vm.findClass "com/example/vellum_index/vellumindex/IntList" = some m.cls := findClass_of_methodNamed Bd.named
  have hnm := (name_of_methodNamed Bd.named Bd.method).1
  have X0 : Stand p l e ({ frames := 0, cells := 0, slots := 0, locals := 0 } : Room) s m #[(.ref o0)] below meth c s₁ [] 0 0 := Stand.of_body Bd
  have e0 : s₁.heap = h0 := by rw [← hh, Bd.state]; rfl
  have N0 := Fr.nil n0
  have pre0 : ∀ t, Steps p.tables e below (s₁.setTop (mkF m 0 #[.val (.ref o0)] [])) t → Steps p.tables e below (s₁.setTop (entryFrame m #[(.ref o0)] 1)) t := fun t k => castTop (ef_6 m o0) k
  obtain ⟨T1, X1, e1, st1⟩ := getF X0 hx hZ hown (host := "") (Or.inl (hw _ (List.mem_of_getElem? (i := 17) rfl))) Via.refl e0 F_size_o0 (g := (mkF m 1 #[.val (.ref o0)] [(.ref o0)])) rfl rfl (hb hby d6_1)
  obtain ⟨fs, hr, hrun, hended, hW, hsame⟩ := X1.leave (v := some (.int w0_size)) (fun h => by rw [Bd.returns] at h; cases h)
  refine ⟨_, _, pre0 _ ?_, hrun, hended, _, _, rfl, ?_, ⟨_, rfl⟩, hW, hsame.mono (by decide) (by decide)⟩
  · skip
    show Steps p.tables e below (s₁.setTop (mkF m 0 #[.val (.ref o0)] [])) _
    refine XS.aloadN X0.here hx rfl (hb hby d6_0) rfl rfl ?_
    show Steps p.tables e below (s₁.setTop (mkF m 1 #[.val (.ref o0)] [(.ref o0)])) _
    refine st1 _ ?_
    show Steps p.tables e below (T1.setTop (mkF m 4 #[.val (.ref o0)] [(.int w0_size)])) _
    exact retI X1 hx Bd.returns (hb hby d6_4) hr
  · skip
    show Q6 Z o0 w0_size h0 n0 _ T1.heap _
    rw [e1]
    exact ⟨N0, rfl, rfl⟩
theorem d7_0 : decode prog_8_method_3_code 0 = .ok (.iload_n 1, 1) := by decide +kernel
theorem d7_1 : decode prog_8_method_3_code 1 = .ok (.aload_n 0, 1) := by decide +kernel
theorem d7_2 : decode prog_8_method_3_code 2 = .ok (.getfield 13, 3) := by decide +kernel
theorem d7_5 : decode prog_8_method_3_code 5 = .ok (.if_icmp .lt 12, 3) := by decide +kernel
theorem d7_17 : decode prog_8_method_3_code 17 = .ok (.aload_n 0, 1) := by decide +kernel
theorem d7_18 : decode prog_8_method_3_code 18 = .ok (.getfield 7, 3) := by decide +kernel
theorem d7_21 : decode prog_8_method_3_code 21 = .ok (.iload_n 1, 1) := by decide +kernel
theorem d7_22 : decode prog_8_method_3_code 22 = .ok (.iaload, 1) := by decide +kernel
theorem d7_23 : decode prog_8_method_3_code 23 = .ok (.ireturn, 1) := by decide +kernel
theorem ef_get0 (m : MethodId) (o0 : Addr) : entryFrame m #[(.ref o0), (.int (0 : Int32))] 2 = mkF m 0 #[.val (.ref o0), .val (.int (0 : Int32))] [] := by first | (simp [entryFrame, mkF, argsToLocals, Value.category]; done) | rfl
def fget0 (w10_e : Int32) (w11_e : Int32) (w12_e : Int32) (w13_e : Int32) : Int32 := w10_e
def Qget0 (Z : State) (o0 : Addr) (w1_values : Addr) (w10_e : Int32) (w11_e : Int32) (w12_e : Int32) (w13_e : Int32) (kA : ClassId) (h0 : Heap) (n0 : Nat) (v : Option Value) (h : Heap) (L : List Loc) : Prop := Fr n0 L ∧ v = some (.int (fget0 w10_e w11_e w12_e w13_e)) ∧ h = h0
set_option maxRecDepth 65536 in
set_option maxHeartbeats 40000000 in
theorem rmget0 (l : Launch) (Z : State) (a0 : Array Value) (hw : ∀ d ∈ tables_1, d.before a0 Z = true) (ws : List Jvm.Cond) (o0 : Addr) (w1_values : Addr) (w10_e : Int32) (w11_e : Int32) (w12_e : Int32) (w13_e : Int32) (kA : ClassId) (h0 : Heap) (n0 : Nat) (Z0 : n0 ≤ h0.size) (E_o0 : Exa Z h0 o0 "com/example/vellum_index/vellumindex/IntList") (F_size_o0 : Fld Z h0 o0 "com/example/vellum_index/vellumindex/IntList" "size" "I" (.int (3 : Int32))) (F_values_o0 : Fld Z h0 o0 "com/example/vellum_index/vellumindex/IntList" "values" "[I" (.ref w1_values)) (V_w1_values : Arv Z h0 w1_values kA .int (4 : Int32) [(.int w10_e), (.int w11_e), (.int w12_e), (.int w13_e)] (.int (0 : Int32))) :
    MetFree l (⟨"com/example/vellum_index/vellumindex/IntList", "get", "(I)I"⟩ : MethodName) (head1 (Jvm.Cond.code (⟨"com/example/vellum_index/vellumindex/IntList", "get", "(I)I"⟩ : MethodName) prog_8_method_3_code 2 (some .int) :: ws) ({ frames := 0, cells := 0, slots := 0, locals := 0 } : Room)) (fun a U => a = #[(.ref o0), (.int (0 : Int32))] ∧ Z.Warmed39 U.vm ∧ U.heap = h0) (fun _ _ _ _ _ => True) (fun _ U o U' => ∃ v L, o = .returned v ∧ Qget0 Z o0 w1_values w10_e w11_e w12_e w13_e kA h0 n0 v U'.heap L ∧ FrameEnd U o U' L ({ frames := 0, cells := 0, slots := 0, locals := 0 } : Room).cells ({ frames := 0, cells := 0, slots := 0, locals := 0 } : Room).slots) := by
  refine MetFree.of_bodySF (plainFor_of_name pn_com_example_vellum_index_vellumindex_IntList) hisR ?_
  intro p e s m args below meth c s₁ Bd hml0 hP hK
  obtain ⟨rfl, hZ, hh⟩ := hP
  have hx := Bd.exec
  have hby := Bd.bytes
  have hml : c.maxLocals = 2 := hml0
  have hown : s.vm.findClass "com/example/vellum_index/vellumindex/IntList" = some m.cls := findClass_of_methodNamed Bd.named
  have hnm := (name_of_methodNamed Bd.named Bd.method).1
  have X0 : Stand p l e ({ frames := 0, cells := 0, slots := 0, locals := 0 } : Room) s m #[(.ref o0), (.int (0 : Int32))] below meth c s₁ [] 0 0 := Stand.of_body Bd
  have e0 : s₁.heap = h0 := by rw [← hh, Bd.state]; rfl
  have N0 := Fr.nil n0
  have pre0 : ∀ t, Steps p.tables e below (s₁.setTop (mkF m 0 #[.val (.ref o0), .val (.int (0 : Int32))] [])) t → Steps p.tables e below (s₁.setTop (entryFrame m #[(.ref o0), (.int (0 : Int32))] 2)) t := fun t k => castTop (ef_get0 m o0) k
  obtain ⟨T1, X1, e1, st1⟩ := getF X0 hx hZ hown (host := "") (Or.inl (hw _ (List.mem_of_getElem? (i := 17) rfl))) Via.refl e0 F_size_o0 (g := (mkF m 2 #[.val (.ref o0), .val (.int (0 : Int32))] [(.ref o0), (.int (0 : Int32))])) rfl rfl (hb hby d7_2)
  obtain ⟨T2, X2, e2, st2⟩ := getF X1 hx hZ hown (host := "") (Or.inl (hw _ (List.mem_of_getElem? (i := 10) rfl))) Via.refl e1 F_values_o0 (g := (mkF m 18 #[.val (.ref o0), .val (.int (0 : Int32))] [(.ref o0)])) rfl rfl (hb hby d7_18)
  obtain ⟨cl3, Ar3, qc3, S3, M3, Ha3, G3⟩ := id V_w1_values
  have hin4 : ¬ ((0 : Int32) < 0 ∨ cl3.slots.size ≤ ((0 : Int32)).toNatClampNeg) := inb_of S3 ⟨by decide, by decide⟩
  obtain ⟨fs, hr, hrun, hended, hW, hsame⟩ := X2.leave (v := some (.int w10_e)) (fun h => by rw [Bd.returns] at h; cases h)
  refine ⟨_, _, pre0 _ ?_, hrun, hended, _, _, rfl, ?_, ⟨_, rfl⟩, hW, hsame.mono (by decide) (by decide)⟩
  · skip
    show Steps p.tables e below (s₁.setTop (mkF m 0 #[.val (.ref o0), .val (.int (0 : Int32))] [])) _
    refine XS.iloadN X0.here hx rfl (hb hby d7_0) rfl ?_
    show Steps p.tables e below (s₁.setTop (mkF m 1 #[.val (.ref o0), .val (.int (0 : Int32))] [(.int (0 : Int32))])) _
    refine XS.aloadN X0.here hx rfl (hb hby d7_1) rfl rfl ?_
    show Steps p.tables e below (s₁.setTop (mkF m 2 #[.val (.ref o0), .val (.int (0 : Int32))] [(.ref o0), (.int (0 : Int32))])) _
    refine st1 _ ?_
    show Steps p.tables e below (T1.setTop (mkF m 5 #[.val (.ref o0), .val (.int (0 : Int32))] [(.int (3 : Int32)), (.int (0 : Int32))])) _
    refine XS.icmpYes X1.here hx rfl (pc0 := 5) (pc' := 17) rfl (hb hby d7_5) rfl (XT.ii_lt_t (by decide)) (by decide) (by decide) ?_
    show Steps p.tables e below (T1.setTop (mkF m 17 #[.val (.ref o0), .val (.int (0 : Int32))] [])) _
    refine XS.aloadN X1.here hx rfl (hb hby d7_17) rfl rfl ?_
    show Steps p.tables e below (T1.setTop (mkF m 18 #[.val (.ref o0), .val (.int (0 : Int32))] [(.ref o0)])) _
    refine st2 _ ?_
    show Steps p.tables e below (T2.setTop (mkF m 21 #[.val (.ref o0), .val (.int (0 : Int32))] [(.ref w1_values)])) _
    refine XS.iloadN X2.here hx rfl (hb hby d7_21) rfl ?_
    show Steps p.tables e below (T2.setTop (mkF m 22 #[.val (.ref o0), .val (.int (0 : Int32))] [(.int (0 : Int32)), (.ref w1_values)])) _
    refine X2.iaload hx (j := (0 : Int32)) (v := (.int w10_e)) (by rw [e2]; exact Ar3.1) (State.isArrayOf_alike hZ.alike Ar3.2.1) Ar3.2.2 hin4 (Has.at Ha3 hin4 rfl) (g := (mkF m 22 #[.val (.ref o0), .val (.int (0 : Int32))] [(.int (0 : Int32)), (.ref w1_values)])) rfl rfl (hb hby d7_22) _ ?_
    show Steps p.tables e below (T2.setTop (mkF m 23 #[.val (.ref o0), .val (.int (0 : Int32))] [(.int w10_e)])) _
    exact retI X2 hx Bd.returns (hb hby d7_23) hr
  · skip
    show Qget0 Z o0 w1_values w10_e w11_e w12_e w13_e kA h0 n0 _ T2.heap _
    rw [e2]
    exact ⟨N0, rfl, rfl⟩
theorem ef_get1 (m : MethodId) (o0 : Addr) : entryFrame m #[(.ref o0), (.int (1 : Int32))] 2 = mkF m 0 #[.val (.ref o0), .val (.int (1 : Int32))] [] := by first | (simp [entryFrame, mkF, argsToLocals, Value.category]; done) | rfl
def fget1 (w10_e : Int32) (w11_e : Int32) (w12_e : Int32) (w13_e : Int32) : Int32 := w11_e
def Qget1 (Z : State) (o0 : Addr) (w1_values : Addr) (w10_e : Int32) (w11_e : Int32) (w12_e : Int32) (w13_e : Int32) (kA : ClassId) (h0 : Heap) (n0 : Nat) (v : Option Value) (h : Heap) (L : List Loc) : Prop := Fr n0 L ∧ v = some (.int (fget1 w10_e w11_e w12_e w13_e)) ∧ h = h0
set_option maxRecDepth 65536 in
set_option maxHeartbeats 40000000 in
theorem rmget1 (l : Launch) (Z : State) (a0 : Array Value) (hw : ∀ d ∈ tables_1, d.before a0 Z = true) (ws : List Jvm.Cond) (o0 : Addr) (w1_values : Addr) (w10_e : Int32) (w11_e : Int32) (w12_e : Int32) (w13_e : Int32) (kA : ClassId) (h0 : Heap) (n0 : Nat) (Z0 : n0 ≤ h0.size) (E_o0 : Exa Z h0 o0 "com/example/vellum_index/vellumindex/IntList") (F_size_o0 : Fld Z h0 o0 "com/example/vellum_index/vellumindex/IntList" "size" "I" (.int (3 : Int32))) (F_values_o0 : Fld Z h0 o0 "com/example/vellum_index/vellumindex/IntList" "values" "[I" (.ref w1_values)) (V_w1_values : Arv Z h0 w1_values kA .int (4 : Int32) [(.int w10_e), (.int w11_e), (.int w12_e), (.int w13_e)] (.int (0 : Int32))) :
    MetFree l (⟨"com/example/vellum_index/vellumindex/IntList", "get", "(I)I"⟩ : MethodName) (head1 (Jvm.Cond.code (⟨"com/example/vellum_index/vellumindex/IntList", "get", "(I)I"⟩ : MethodName) prog_8_method_3_code 2 (some .int) :: ws) ({ frames := 0, cells := 0, slots := 0, locals := 0 } : Room)) (fun a U => a = #[(.ref o0), (.int (1 : Int32))] ∧ Z.Warmed39 U.vm ∧ U.heap = h0) (fun _ _ _ _ _ => True) (fun _ U o U' => ∃ v L, o = .returned v ∧ Qget1 Z o0 w1_values w10_e w11_e w12_e w13_e kA h0 n0 v U'.heap L ∧ FrameEnd U o U' L ({ frames := 0, cells := 0, slots := 0, locals := 0 } : Room).cells ({ frames := 0, cells := 0, slots := 0, locals := 0 } : Room).slots) := by
  refine MetFree.of_bodySF (plainFor_of_name pn_com_example_vellum_index_vellumindex_IntList) hisR ?_
  intro p e s m args below meth c s₁ Bd hml0 hP hK
  obtain ⟨rfl, hZ, hh⟩ := hP
  have hx := Bd.exec
  have hby := Bd.bytes
  have hml : c.maxLocals = 2 := hml0
  have hown : s.vm.findClass "com/example/vellum_index/vellumindex/IntList" = some m.cls := findClass_of_methodNamed Bd.named
  have hnm := (name_of_methodNamed Bd.named Bd.method).1
  have X0 : Stand p l e ({ frames := 0, cells := 0, slots := 0, locals := 0 } : Room) s m #[(.ref o0), (.int (1 : Int32))] below meth c s₁ [] 0 0 := Stand.of_body Bd
  have e0 : s₁.heap = h0 := by rw [← hh, Bd.state]; rfl
  have N0 := Fr.nil n0
  have pre0 : ∀ t, Steps p.tables e below (s₁.setTop (mkF m 0 #[.val (.ref o0), .val (.int (1 : Int32))] [])) t → Steps p.tables e below (s₁.setTop (entryFrame m #[(.ref o0), (.int (1 : Int32))] 2)) t := fun t k => castTop (ef_get1 m o0) k
  obtain ⟨T1, X1, e1, st1⟩ := getF X0 hx hZ hown (host := "") (Or.inl (hw _ (List.mem_of_getElem? (i := 17) rfl))) Via.refl e0 F_size_o0 (g := (mkF m 2 #[.val (.ref o0), .val (.int (1 : Int32))] [(.ref o0), (.int (1 : Int32))])) rfl rfl (hb hby d7_2)
  obtain ⟨T2, X2, e2, st2⟩ := getF X1 hx hZ hown (host := "") (Or.inl (hw _ (List.mem_of_getElem? (i := 10) rfl))) Via.refl e1 F_values_o0 (g := (mkF m 18 #[.val (.ref o0), .val (.int (1 : Int32))] [(.ref o0)])) rfl rfl (hb hby d7_18)
  obtain ⟨cl3, Ar3, qc3, S3, M3, Ha3, G3⟩ := id V_w1_values
  have hin4 : ¬ ((1 : Int32) < 0 ∨ cl3.slots.size ≤ ((1 : Int32)).toNatClampNeg) := inb_of S3 ⟨by decide, by decide⟩
  obtain ⟨fs, hr, hrun, hended, hW, hsame⟩ := X2.leave (v := some (.int w11_e)) (fun h => by rw [Bd.returns] at h; cases h)
  refine ⟨_, _, pre0 _ ?_, hrun, hended, _, _, rfl, ?_, ⟨_, rfl⟩, hW, hsame.mono (by decide) (by decide)⟩
  · skip
    show Steps p.tables e below (s₁.setTop (mkF m 0 #[.val (.ref o0), .val (.int (1 : Int32))] [])) _
    refine XS.iloadN X0.here hx rfl (hb hby d7_0) rfl ?_
    show Steps p.tables e below (s₁.setTop (mkF m 1 #[.val (.ref o0), .val (.int (1 : Int32))] [(.int (1 : Int32))])) _
    refine XS.aloadN X0.here hx rfl (hb hby d7_1) rfl rfl ?_
    show Steps p.tables e below (s₁.setTop (mkF m 2 #[.val (.ref o0), .val (.int (1 : Int32))] [(.ref o0), (.int (1 : Int32))])) _
    refine st1 _ ?_
    show Steps p.tables e below (T1.setTop (mkF m 5 #[.val (.ref o0), .val (.int (1 : Int32))] [(.int (3 : Int32)), (.int (1 : Int32))])) _
    refine XS.icmpYes X1.here hx rfl (pc0 := 5) (pc' := 17) rfl (hb hby d7_5) rfl (XT.ii_lt_t (by decide)) (by decide) (by decide) ?_
    show Steps p.tables e below (T1.setTop (mkF m 17 #[.val (.ref o0), .val (.int (1 : Int32))] [])) _
    refine XS.aloadN X1.here hx rfl (hb hby d7_17) rfl rfl ?_
    show Steps p.tables e below (T1.setTop (mkF m 18 #[.val (.ref o0), .val (.int (1 : Int32))] [(.ref o0)])) _
    refine st2 _ ?_
    show Steps p.tables e below (T2.setTop (mkF m 21 #[.val (.ref o0), .val (.int (1 : Int32))] [(.ref w1_values)])) _
    refine XS.iloadN X2.here hx rfl (hb hby d7_21) rfl ?_
    show Steps p.tables e below (T2.setTop (mkF m 22 #[.val (.ref o0), .val (.int (1 : Int32))] [(.int (1 : Int32)), (.ref w1_values)])) _
    refine X2.iaload hx (j := (1 : Int32)) (v := (.int w11_e)) (by rw [e2]; exact Ar3.1) (State.isArrayOf_alike hZ.alike Ar3.2.1) Ar3.2.2 hin4 (Has.at Ha3 hin4 rfl) (g := (mkF m 22 #[.val (.ref o0), .val (.int (1 : Int32))] [(.int (1 : Int32)), (.ref w1_values)])) rfl rfl (hb hby d7_22) _ ?_
    show Steps p.tables e below (T2.setTop (mkF m 23 #[.val (.ref o0), .val (.int (1 : Int32))] [(.int w11_e)])) _
    exact retI X2 hx Bd.returns (hb hby d7_23) hr
  · skip
    show Qget1 Z o0 w1_values w10_e w11_e w12_e w13_e kA h0 n0 _ T2.heap _
    rw [e2]
    exact ⟨N0, rfl, rfl⟩
theorem ef_get2 (m : MethodId) (o0 : Addr) : entryFrame m #[(.ref o0), (.int (2 : Int32))] 2 = mkF m 0 #[.val (.ref o0), .val (.int (2 : Int32))] [] := by first | (simp [entryFrame, mkF, argsToLocals, Value.category]; done) | rfl
def fget2 (w10_e : Int32) (w11_e : Int32) (w12_e : Int32) (w13_e : Int32) : Int32 := w12_e
def Qget2 (Z : State) (o0 : Addr) (w1_values : Addr) (w10_e : Int32) (w11_e : Int32) (w12_e : Int32) (w13_e : Int32) (kA : ClassId) (h0 : Heap) (n0 : Nat) (v : Option Value) (h : Heap) (L : List Loc) : Prop := Fr n0 L ∧ v = some (.int (fget2 w10_e w11_e w12_e w13_e)) ∧ h = h0
set_option maxRecDepth 65536 in
set_option maxHeartbeats 40000000 in
theorem rmget2 (l : Launch) (Z : State) (a0 : Array Value) (hw : ∀ d ∈ tables_1, d.before a0 Z = true) (ws : List Jvm.Cond) (o0 : Addr) (w1_values : Addr) (w10_e : Int32) (w11_e : Int32) (w12_e : Int32) (w13_e : Int32) (kA : ClassId) (h0 : Heap) (n0 : Nat) (Z0 : n0 ≤ h0.size) (E_o0 : Exa Z h0 o0 "com/example/vellum_index/vellumindex/IntList") (F_size_o0 : Fld Z h0 o0 "com/example/vellum_index/vellumindex/IntList" "size" "I" (.int (3 : Int32))) (F_values_o0 : Fld Z h0 o0 "com/example/vellum_index/vellumindex/IntList" "values" "[I" (.ref w1_values)) (V_w1_values : Arv Z h0 w1_values kA .int (4 : Int32) [(.int w10_e), (.int w11_e), (.int w12_e), (.int w13_e)] (.int (0 : Int32))) :
    MetFree l (⟨"com/example/vellum_index/vellumindex/IntList", "get", "(I)I"⟩ : MethodName) (head1 (Jvm.Cond.code (⟨"com/example/vellum_index/vellumindex/IntList", "get", "(I)I"⟩ : MethodName) prog_8_method_3_code 2 (some .int) :: ws) ({ frames := 0, cells := 0, slots := 0, locals := 0 } : Room)) (fun a U => a = #[(.ref o0), (.int (2 : Int32))] ∧ Z.Warmed39 U.vm ∧ U.heap = h0) (fun _ _ _ _ _ => True) (fun _ U o U' => ∃ v L, o = .returned v ∧ Qget2 Z o0 w1_values w10_e w11_e w12_e w13_e kA h0 n0 v U'.heap L ∧ FrameEnd U o U' L ({ frames := 0, cells := 0, slots := 0, locals := 0 } : Room).cells ({ frames := 0, cells := 0, slots := 0, locals := 0 } : Room).slots) := by
  refine MetFree.of_bodySF (plainFor_of_name pn_com_example_vellum_index_vellumindex_IntList) hisR ?_
  intro p e s m args below meth c s₁ Bd hml0 hP hK
  obtain ⟨rfl, hZ, hh⟩ := hP
  have hx := Bd.exec
  have hby := Bd.bytes
  have hml : c.maxLocals = 2 := hml0
  have hown : s.vm.findClass "com/example/vellum_index/vellumindex/IntList" = some m.cls := findClass_of_methodNamed Bd.named
  have hnm := (name_of_methodNamed Bd.named Bd.method).1
  have X0 : Stand p l e ({ frames := 0, cells := 0, slots := 0, locals := 0 } : Room) s m #[(.ref o0), (.int (2 : Int32))] below meth c s₁ [] 0 0 := Stand.of_body Bd
  have e0 : s₁.heap = h0 := by rw [← hh, Bd.state]; rfl
  have N0 := Fr.nil n0
  have pre0 : ∀ t, Steps p.tables e below (s₁.setTop (mkF m 0 #[.val (.ref o0), .val (.int (2 : Int32))] [])) t → Steps p.tables e below (s₁.setTop (entryFrame m #[(.ref o0), (.int (2 : Int32))] 2)) t := fun t k => castTop (ef_get2 m o0) k
  obtain ⟨T1, X1, e1, st1⟩ := getF X0 hx hZ hown (host := "") (Or.inl (hw _ (List.mem_of_getElem? (i := 17) rfl))) Via.refl e0 F_size_o0 (g := (mkF m 2 #[.val (.ref o0), .val (.int (2 : Int32))] [(.ref o0), (.int (2 : Int32))])) rfl rfl (hb hby d7_2)
  obtain ⟨T2, X2, e2, st2⟩ := getF X1 hx hZ hown (host := "") (Or.inl (hw _ (List.mem_of_getElem? (i := 10) rfl))) Via.refl e1 F_values_o0 (g := (mkF m 18 #[.val (.ref o0), .val (.int (2 : Int32))] [(.ref o0)])) rfl rfl (hb hby d7_18)
  obtain ⟨cl3, Ar3, qc3, S3, M3, Ha3, G3⟩ := id V_w1_values
  have hin4 : ¬ ((2 : Int32) < 0 ∨ cl3.slots.size ≤ ((2 : Int32)).toNatClampNeg) := inb_of S3 ⟨by decide, by decide⟩
  obtain ⟨fs, hr, hrun, hended, hW, hsame⟩ := X2.leave (v := some (.int w12_e)) (fun h => by rw [Bd.returns] at h; cases h)
  refine ⟨_, _, pre0 _ ?_, hrun, hended, _, _, rfl, ?_, ⟨_, rfl⟩, hW, hsame.mono (by decide) (by decide)⟩
  · skip
    show Steps p.tables e below (s₁.setTop (mkF m 0 #[.val (.ref o0), .val (.int (2 : Int32))] [])) _
    refine XS.iloadN X0.here hx rfl (hb hby d7_0) rfl ?_
    show Steps p.tables e below (s₁.setTop (mkF m 1 #[.val (.ref o0), .val (.int (2 : Int32))] [(.int (2 : Int32))])) _
    refine XS.aloadN X0.here hx rfl (hb hby d7_1) rfl rfl ?_
    show Steps p.tables e below (s₁.setTop (mkF m 2 #[.val (.ref o0), .val (.int (2 : Int32))] [(.ref o0), (.int (2 : Int32))])) _
    refine st1 _ ?_
    show Steps p.tables e below (T1.setTop (mkF m 5 #[.val (.ref o0), .val (.int (2 : Int32))] [(.int (3 : Int32)), (.int (2 : Int32))])) _
    refine XS.icmpYes X1.here hx rfl (pc0 := 5) (pc' := 17) rfl (hb hby d7_5) rfl (XT.ii_lt_t (by decide)) (by decide) (by decide) ?_
    show Steps p.tables e below (T1.setTop (mkF m 17 #[.val (.ref o0), .val (.int (2 : Int32))] [])) _
    refine XS.aloadN X1.here hx rfl (hb hby d7_17) rfl rfl ?_
    show Steps p.tables e below (T1.setTop (mkF m 18 #[.val (.ref o0), .val (.int (2 : Int32))] [(.ref o0)])) _
    refine st2 _ ?_
    show Steps p.tables e below (T2.setTop (mkF m 21 #[.val (.ref o0), .val (.int (2 : Int32))] [(.ref w1_values)])) _
    refine XS.iloadN X2.here hx rfl (hb hby d7_21) rfl ?_
    show Steps p.tables e below (T2.setTop (mkF m 22 #[.val (.ref o0), .val (.int (2 : Int32))] [(.int (2 : Int32)), (.ref w1_values)])) _
    refine X2.iaload hx (j := (2 : Int32)) (v := (.int w12_e)) (by rw [e2]; exact Ar3.1) (State.isArrayOf_alike hZ.alike Ar3.2.1) Ar3.2.2 hin4 (Has.at Ha3 hin4 rfl) (g := (mkF m 22 #[.val (.ref o0), .val (.int (2 : Int32))] [(.int (2 : Int32)), (.ref w1_values)])) rfl rfl (hb hby d7_22) _ ?_
    show Steps p.tables e below (T2.setTop (mkF m 23 #[.val (.ref o0), .val (.int (2 : Int32))] [(.int w12_e)])) _
    exact retI X2 hx Bd.returns (hb hby d7_23) hr
  · skip
    show Qget2 Z o0 w1_values w10_e w11_e w12_e w13_e kA h0 n0 _ T2.heap _
    rw [e2]
    exact ⟨N0, rfl, rfl⟩
theorem pd___V : parseMethodDescriptor "()V" = some ⟨[], none⟩ := by decide +kernel
theorem pd__I_V : parseMethodDescriptor "(I)V" = some ⟨[.int], none⟩ := by decide +kernel
theorem pd__II_V : parseMethodDescriptor "(II)V" = some ⟨[.int, .int], none⟩ := by decide +kernel
theorem pd__IIII_I : parseMethodDescriptor "(IIII)I" = some ⟨[.int, .int, .int, .int], some .int⟩ := by decide +kernel
theorem pd___I : parseMethodDescriptor "()I" = some ⟨[], some .int⟩ := by decide +kernel
theorem pd__I_I : parseMethodDescriptor "(I)I" = some ⟨[.int], some .int⟩ := by decide +kernel
theorem ef_0 (m : MethodId) (p0 : Int32) (p1 : Int32) (p2 : Int32) (p3 : Int32) (p4 : Int32) : entryFrame m #[(.int p0), (.int p1), (.int p2), (.int p3), (.int p4)] maxLocals = mkF m 0 #[.val (.int p0), .val (.int p1), .val (.int p2), .val (.int p3), .val (.int p4), .unset, .unset, .unset, .unset, .unset] [] := by first | (simp [entryFrame, mkF, argsToLocals, Value.category, maxLocals]; done) | rfl
def v0_1 (p0 : Int32) (p1 : Int32) (p2 : Int32) (p3 : Int32) (p4 : Int32) : Int32 := (p3 &&& (2147483647 : Int32))
def v0_2 (p0 : Int32) (p1 : Int32) (p2 : Int32) (p3 : Int32) (p4 : Int32) : Int32 := ((v0_1 p0 p1 p2 p3 p4) - ((v0_1 p0 p1 p2 p3 p4) / (3 : Int32)) * (3 : Int32))
def v0_3 (p0 : Int32) (p1 : Int32) (p2 : Int32) (p3 : Int32) (p4 : Int32) : Int32 := (f5 (0 : Int32) (v0_2 p0 p1 p2 p3 p4) p0 p4)
def v0_4 (p0 : Int32) (p1 : Int32) (p2 : Int32) (p3 : Int32) (p4 : Int32) : Int32 := (f5 (1 : Int32) (v0_2 p0 p1 p2 p3 p4) p1 p4)
def v0_5 (p0 : Int32) (p1 : Int32) (p2 : Int32) (p3 : Int32) (p4 : Int32) : Int32 := (f5 (2 : Int32) (v0_2 p0 p1 p2 p3 p4) p2 p4)
def v0_6 (p0 : Int32) (p1 : Int32) (p2 : Int32) (p3 : Int32) (p4 : Int32) : Int32 := (f6 (3 : Int32))
def v0_7 (p0 : Int32) (p1 : Int32) (p2 : Int32) (p3 : Int32) (p4 : Int32) : Int32 := (fget0 (v4_2 (v0_2 p0 p1 p2 p3 p4) p4 p0 p1 p2 (0 : Int32)) (v4_3 (v0_2 p0 p1 p2 p3 p4) p4 p0 p1 p2 (0 : Int32)) (v4_4 (v0_2 p0 p1 p2 p3 p4) p4 p0 p1 p2 (0 : Int32)) (v4_5 (v0_2 p0 p1 p2 p3 p4) p4 p0 p1 p2 (0 : Int32)))
def v0_8 (p0 : Int32) (p1 : Int32) (p2 : Int32) (p3 : Int32) (p4 : Int32) : Int32 := (fget1 (v4_2 (v0_2 p0 p1 p2 p3 p4) p4 p0 p1 p2 (0 : Int32)) (v4_3 (v0_2 p0 p1 p2 p3 p4) p4 p0 p1 p2 (0 : Int32)) (v4_4 (v0_2 p0 p1 p2 p3 p4) p4 p0 p1 p2 (0 : Int32)) (v4_5 (v0_2 p0 p1 p2 p3 p4) p4 p0 p1 p2 (0 : Int32)))
def v0_9 (p0 : Int32) (p1 : Int32) (p2 : Int32) (p3 : Int32) (p4 : Int32) : Int32 := (fget2 (v4_2 (v0_2 p0 p1 p2 p3 p4) p4 p0 p1 p2 (0 : Int32)) (v4_3 (v0_2 p0 p1 p2 p3 p4) p4 p0 p1 p2 (0 : Int32)) (v4_4 (v0_2 p0 p1 p2 p3 p4) p4 p0 p1 p2 (0 : Int32)) (v4_5 (v0_2 p0 p1 p2 p3 p4) p4 p0 p1 p2 (0 : Int32)))
def v0_10 (p0 : Int32) (p1 : Int32) (p2 : Int32) (p3 : Int32) (p4 : Int32) : Int32 := (if (v0_6 p0 p1 p2 p3 p4) = (3 : Int32) then (if (v0_7 p0 p1 p2 p3 p4) = (v0_3 p0 p1 p2 p3 p4) then (if (v0_8 p0 p1 p2 p3 p4) = (v0_4 p0 p1 p2 p3 p4) then (if (v0_9 p0 p1 p2 p3 p4) = (v0_5 p0 p1 p2 p3 p4) then (1 : Int32) else (0 : Int32)) else (0 : Int32)) else (0 : Int32)) else (0 : Int32))
/-own-/
section Own
variable (p0 p1 p2 p3 p4 : Int32)
theorem own_k : 0 ≤ (v0_2 p0 p1 p2 p3 p4).toInt ∧ (v0_2 p0 p1 p2 p3 p4).toInt < 3 := by
  have e1 : (v0_1 p0 p1 p2 p3 p4).toInt = p3.toInt % 2 ^ 31 := Jvm.Kit.i32_mask p3 2147483647 (k := 31) (by decide) (by decide)
  have c : (3 : Int32).toInt = 3 := by decide
  unfold v0_2
  rw [own_rem32, c, Int.tmod_eq_emod_of_nonneg (by omega)]
  omega
theorem own_k0 : ¬ (v0_2 p0 p1 p2 p3 p4 < (0 : Int32)) := by
  have c0 : (0 : Int32).toInt = 0 := by decide
  have := own_k p0 p1 p2 p3 p4
  rw [Int32.lt_iff_toInt_lt, c0]; omega
theorem own_k3 : v0_2 p0 p1 p2 p3 p4 < (3 : Int32) := by
  have c0 : (3 : Int32).toInt = 3 := by decide
  have := own_k p0 p1 p2 p3 p4
  rw [Int32.lt_iff_toInt_lt, c0]; omega
theorem own_k4 : v0_2 p0 p1 p2 p3 p4 < (4 : Int32) := by
  have c0 : (4 : Int32).toInt = 4 := by decide
  have := own_k p0 p1 p2 p3 p4
  rw [Int32.lt_iff_toInt_lt, c0]; omega
theorem own_law : v0_10 p0 p1 p2 p3 p4 = (1 : Int32) := by
  have h3 := own_k3 p0 p1 p2 p3 p4
  have hk := own_four (own_k0 p0 p1 p2 p3 p4) (own_k4 p0 p1 p2 p3 p4)
  have e7 : v0_7 p0 p1 p2 p3 p4 = v0_3 p0 p1 p2 p3 p4 := by
    unfold v0_7 v0_3 fget0 v4_2 v4_1 f5
    rcases hk with k | k | k | k <;> rw [k] <;> first | rfl | (rw [k] at h3; exact absurd h3 (by decide))
  have e8 : v0_8 p0 p1 p2 p3 p4 = v0_4 p0 p1 p2 p3 p4 := by
    unfold v0_8 v0_4 fget1 v4_3 v4_1 f5
    rcases hk with k | k | k | k <;> rw [k] <;> first | rfl | (rw [k] at h3; exact absurd h3 (by decide))
  have e9 : v0_9 p0 p1 p2 p3 p4 = v0_5 p0 p1 p2 p3 p4 := by
    unfold v0_9 v0_5 fget2 v4_4 v4_1 f5
    rcases hk with k | k | k | k <;> rw [k] <;> first | rfl | (rw [k] at h3; exact absurd h3 (by decide))
  exact (if_pos rfl).trans ((if_pos e7).trans ((if_pos e8).trans (if_pos e9)))
end Own
def Q0 (Z : State) (p0 : Int32) (p1 : Int32) (p2 : Int32) (p3 : Int32) (p4 : Int32) (h0 : Heap) (n0 : Nat) (v : Option Value) (h : Heap) (L : List Loc) : Prop := v = some (.int (1 : Int32)) ∧ Fr n0 L
set_option maxRecDepth 65536 in
set_option maxHeartbeats 40000000 in
theorem rm0 (l : Launch) (Z : State) (a0 : Array Value) (hw : ∀ d ∈ tables_1, d.before a0 Z = true) (ws : List Jvm.Cond) (p0 : Int32) (p1 : Int32) (p2 : Int32) (p3 : Int32) (p4 : Int32) (h0 : Heap) (n0 : Nat) (Z0 : n0 ≤ h0.size) :
    MetFree l x (head1 (Jvm.Cond.code x code maxLocals ret :: ws) room_1) (fun a U => a = #[(.int p0), (.int p1), (.int p2), (.int p3), (.int p4)] ∧ Z.Warmed39 U.vm ∧ U.heap = h0) (fun _ _ _ _ _ => True) (fun _ U o U' => ∃ v L, o = .returned v ∧ Q0 Z p0 p1 p2 p3 p4 h0 n0 v U'.heap L ∧ FrameEnd U o U' L room_1.cells room_1.slots) := by
  refine MetFree.of_bodySF (plainFor_of_name pn_com_example_vellum_index_vellumindex_IntListIncrementPinLaw) hisR ?_
  intro p e s m args below meth c s₁ Bd hml0 hP hK
  obtain ⟨rfl, hZ, hh⟩ := hP
  have hx := Bd.exec
  have hby := Bd.bytes
  have hml : c.maxLocals = 10 := hml0
  have hown : s.vm.findClass "com/example/vellum_index/vellumindex/IntListIncrementPinLaw" = some m.cls := findClass_of_methodNamed Bd.named
  have hnm := (name_of_methodNamed Bd.named Bd.method).1
  have X0 : Stand p l e room_1 s m #[(.int p0), (.int p1), (.int p2), (.int p3), (.int p4)] below meth c s₁ [] 0 0 := Stand.of_body Bd
  have e0 : s₁.heap = h0 := by rw [← hh, Bd.state]; rfl
  have N0 := Fr.nil n0
  have pre0 : ∀ t, Steps p.tables e below (s₁.setTop (mkF m 0 #[.val (.int p0), .val (.int p1), .val (.int p2), .val (.int p3), .val (.int p4), .unset, .unset, .unset, .unset, .unset] [])) t → Steps p.tables e below (s₁.setTop (entryFrame m #[(.int p0), (.int p1), (.int p2), (.int p3), (.int p4)] maxLocals)) t := fun t k => castTop (ef_0 m p0 p1 p2 p3 p4) k
  obtain ⟨T1, h1, X1, e1, E1, A1, D1, -, st1⟩ := newO X0 hx hZ hown (hw _ (List.mem_of_getElem? (i := 0) rfl)) (hw _ (List.mem_of_getElem? (i := 1) rfl)) (hw _ (List.mem_of_getElem? (i := 2) rfl)) e0 (g := (mkF m 0 #[.val (.int p0), .val (.int p1), .val (.int p2), .val (.int p3), .val (.int p4), .unset, .unset, .unset, .unset, .unset] [])) rfl (hb hby at_0) (by decide) (by decide)
  obtain ⟨b1, gz1⟩ : ∃ z, z = h0.size := ⟨_, rfl⟩
  rw [← gz1] at A1 D1 st1
  have g2 : n0 ≤ b1 := Nat.le_trans Z0 (Nat.le_of_eq gz1.symm)
  have sz3 : h0.size ≤ b1 := Nat.le_trans (Nat.le_refl h0.size) (Nat.le_of_eq gz1.symm)
  have z4 : n0 ≤ h1.size := Nat.le_trans Z0 E1.1
  have hs5 : h0.size ≤ h1.size := Nat.le_trans (Nat.le_refl h0.size) E1.1
  have F1_values : Fld Z h1 b1 "com/example/vellum_index/vellumindex/IntList" "values" "[I" .null := D1 (Or.inl (hw _ (List.mem_of_getElem? (i := 11) rfl))) (ty := (.array .int)) (by decide)
  have F1_size : Fld Z h1 b1 "com/example/vellum_index/vellumindex/IntList" "size" "I" (.int (0 : Int32)) := D1 (Or.inl (hw _ (List.mem_of_getElem? (i := 18) rfl))) (ty := .int) (by decide)
  obtain ⟨_, _, ⟨T6, L6, k6, n6⟩, -, X6, ⟨Lc6, hQ6, l6, y6, z6⟩, st6⟩ := X1.specialBack hx (y := (⟨"com/example/vellum_index/vellumindex/IntList", "<init>", "()V"⟩ : MethodName)) rfl hown (mvT hZ (hw _ (List.mem_of_getElem? (i := 3) rfl))) (mvT hZ (hw _ (List.mem_of_getElem? (i := 4) rfl))) (mvT hZ (hw _ (List.mem_of_getElem? (i := 5) rfl))) (by decide) (backOf (W := 1) (rm1 l Z a0 hw [] b1 (0 : Int32) .null h1 n0 z4 A1 F1_size F1_values g2) hZ (hw _ (List.mem_of_getElem? (i := 5) rfl)) (hw _ (List.mem_of_getElem? (i := 2) rfl)) (by decide) (by decide)) (g := (mkF m 4 #[.val (.int p0), .val (.int p1), .val (.int p2), .val (.int p3), .val (.int p4), .unset, .unset, .unset, .unset, .unset] [(.ref b1), (.ref b1)])) rfl (by rw [hml]; rfl) (Steps.refl _) (a := b1) (argsL := []) (rest := [(.ref b1)]) (lenOf pd___V rfl) rfl (by show 2 * 0 + _ ≤ _; exact Nat.le_of_eq rfl) (hb hby at_4) (fun _ _ => ⟨rfl, e1, (by decide : 1 + 1 ≤ _), (by decide : 2 + 4 ≤ _)⟩)
  dsimp only [Pt.U, Pt.locs, Pt.cells, Pt.slots] at X6 l6 y6 z6 st6 hQ6
  subst l6 y6 z6
  obtain ⟨N6q, x1_0_6, k1_1_6, rfl, szx1_0_6, K6, po6_0, po6_1, po6_2, po6_3⟩ := hQ6
  have ne7 : b1 ≠ x1_0_6 := Nat.ne_of_lt (Nat.lt_of_lt_of_le A1.lt szx1_0_6)
  have g8 : n0 ≤ x1_0_6 := Nat.le_trans z4 szx1_0_6
  have sz9 : h0.size ≤ x1_0_6 := Nat.le_trans hs5 szx1_0_6
  have z10 : n0 ≤ T6.heap.size := Nat.le_trans z4 K6.1
  have hs11 : h0.size ≤ T6.heap.size := Nat.le_trans hs5 K6.1
  have N6 := Fr.app N0 N6q
  obtain ⟨cq12, kq12, q12a, q12b, q12c⟩ := isOf hZ rfl po6_0
  obtain ⟨_, _, ⟨T12, L12, k12, n12⟩, -, X12, ⟨Lc12, hQ12, l12, y12, z12⟩, st12⟩ := X6.virtualBack hx (y := (⟨"com/example/vellum_index/vellumindex/IntList", "add", "(I)V"⟩ : MethodName)) (z := (⟨"com/example/vellum_index/vellumindex/IntList", "add", "(I)V"⟩ : MethodName)) hown (mvT hZ (hw _ (List.mem_of_getElem? (i := 12) rfl))) (mvT hZ (hw _ (List.mem_of_getElem? (i := 13) rfl))) (notFace_of_selects (args := #[]) (mvT hZ (hw _ (List.mem_of_getElem? (i := 15) rfl)))) (mvT hZ (hw _ (List.mem_of_getElem? (i := 15) rfl))) (mvT hZ (hw _ (List.mem_of_getElem? (i := 14) rfl))) (by decide) (backOf (W := 0) (rmadd0 l Z a0 hw [] b1 p0 x1_0_6 (0 : Int32) (0 : Int32) (0 : Int32) (0 : Int32) k1_1_6 T6.heap n0 z10 po6_0 po6_1 po6_2 po6_3 g2 (Ne.symm ne7) g8) hZ (hw _ (List.mem_of_getElem? (i := 16) rfl)) (hw _ (List.mem_of_getElem? (i := 2) rfl)) (by decide) (by decide)) q12a q12c (g := (mkF m 12 #[.val (.int p0), .val (.int p1), .val (.int p2), .val (.int p3), .val (.int p4), .val (.ref b1), .unset, .unset, .unset, .unset] [(.int p0), (.ref b1)])) rfl (by rw [hml]; rfl) (Steps.refl _) (argsL := [(.int p0)]) (rest := []) (lenOf pd__I_V rfl) rfl (by show 2 * 0 + _ ≤ _; exact Nat.le_of_eq rfl) (hb hby at_12) (fun _ _ => ⟨rfl, rfl, (by decide : 2 + 0 ≤ _), (by decide : 6 + 0 ≤ _)⟩)
  dsimp only [Pt.U, Pt.locs, Pt.cells, Pt.slots] at X12 l12 y12 z12 st12 hQ12
  subst l12 y12 z12
  obtain ⟨N12q, rfl, K12, po12_0, po12_1, po12_2, po12_3⟩ := hQ12
  have z13 : n0 ≤ T12.heap.size := Nat.le_trans z10 K12.1
  have hs14 : h0.size ≤ T12.heap.size := Nat.le_trans hs11 K12.1
  have N12 := Fr.app N6 N12q
  obtain ⟨cq15, kq15, q15a, q15b, q15c⟩ := isOf hZ rfl po12_0
  obtain ⟨_, _, ⟨T15, L15, k15, n15⟩, -, X15, ⟨Lc15, hQ15, l15, y15, z15⟩, st15⟩ := X12.virtualBack hx (y := (⟨"com/example/vellum_index/vellumindex/IntList", "add", "(I)V"⟩ : MethodName)) (z := (⟨"com/example/vellum_index/vellumindex/IntList", "add", "(I)V"⟩ : MethodName)) hown (mvT hZ (hw _ (List.mem_of_getElem? (i := 12) rfl))) (mvT hZ (hw _ (List.mem_of_getElem? (i := 13) rfl))) (notFace_of_selects (args := #[]) (mvT hZ (hw _ (List.mem_of_getElem? (i := 15) rfl)))) (mvT hZ (hw _ (List.mem_of_getElem? (i := 15) rfl))) (mvT hZ (hw _ (List.mem_of_getElem? (i := 14) rfl))) (by decide) (backOf (W := 0) (rmadd1 l Z a0 hw [] b1 p1 x1_0_6 p0 (0 : Int32) (0 : Int32) (0 : Int32) k1_1_6 T12.heap n0 z13 po12_0 po12_1 po12_2 po12_3 g2 (Ne.symm ne7) g8) hZ (hw _ (List.mem_of_getElem? (i := 16) rfl)) (hw _ (List.mem_of_getElem? (i := 2) rfl)) (by decide) (by decide)) q15a q15c (g := (mkF m 18 #[.val (.int p0), .val (.int p1), .val (.int p2), .val (.int p3), .val (.int p4), .val (.ref b1), .unset, .unset, .unset, .unset] [(.int p1), (.ref b1)])) rfl (by rw [hml]; rfl) (Steps.refl _) (argsL := [(.int p1)]) (rest := []) (lenOf pd__I_V rfl) rfl (by show 2 * 0 + _ ≤ _; exact Nat.le_of_eq rfl) (hb hby at_18) (fun _ _ => ⟨rfl, rfl, (by decide : 2 + 0 ≤ _), (by decide : 6 + 0 ≤ _)⟩)
  dsimp only [Pt.U, Pt.locs, Pt.cells, Pt.slots] at X15 l15 y15 z15 st15 hQ15
  subst l15 y15 z15
  obtain ⟨N15q, rfl, K15, po15_0, po15_1, po15_2, po15_3⟩ := hQ15
  have z16 : n0 ≤ T15.heap.size := Nat.le_trans z13 K15.1
  have hs17 : h0.size ≤ T15.heap.size := Nat.le_trans hs14 K15.1
  have N15 := Fr.app N12 N15q
  obtain ⟨cq18, kq18, q18a, q18b, q18c⟩ := isOf hZ rfl po15_0
  obtain ⟨_, _, ⟨T18, L18, k18, n18⟩, -, X18, ⟨Lc18, hQ18, l18, y18, z18⟩, st18⟩ := X15.virtualBack hx (y := (⟨"com/example/vellum_index/vellumindex/IntList", "add", "(I)V"⟩ : MethodName)) (z := (⟨"com/example/vellum_index/vellumindex/IntList", "add", "(I)V"⟩ : MethodName)) hown (mvT hZ (hw _ (List.mem_of_getElem? (i := 12) rfl))) (mvT hZ (hw _ (List.mem_of_getElem? (i := 13) rfl))) (notFace_of_selects (args := #[]) (mvT hZ (hw _ (List.mem_of_getElem? (i := 15) rfl)))) (mvT hZ (hw _ (List.mem_of_getElem? (i := 15) rfl))) (mvT hZ (hw _ (List.mem_of_getElem? (i := 14) rfl))) (by decide) (backOf (W := 0) (rmadd2 l Z a0 hw [] b1 p2 x1_0_6 p0 p1 (0 : Int32) (0 : Int32) k1_1_6 T15.heap n0 z16 po15_0 po15_1 po15_2 po15_3 g2 (Ne.symm ne7) g8) hZ (hw _ (List.mem_of_getElem? (i := 16) rfl)) (hw _ (List.mem_of_getElem? (i := 2) rfl)) (by decide) (by decide)) q18a q18c (g := (mkF m 24 #[.val (.int p0), .val (.int p1), .val (.int p2), .val (.int p3), .val (.int p4), .val (.ref b1), .unset, .unset, .unset, .unset] [(.int p2), (.ref b1)])) rfl (by rw [hml]; rfl) (Steps.refl _) (argsL := [(.int p2)]) (rest := []) (lenOf pd__I_V rfl) rfl (by show 2 * 0 + _ ≤ _; exact Nat.le_of_eq rfl) (hb hby at_24) (fun _ _ => ⟨rfl, rfl, (by decide : 2 + 0 ≤ _), (by decide : 6 + 0 ≤ _)⟩)
  dsimp only [Pt.U, Pt.locs, Pt.cells, Pt.slots] at X18 l18 y18 z18 st18 hQ18
  subst l18 y18 z18
  obtain ⟨N18q, rfl, K18, po18_0, po18_1, po18_2, po18_3⟩ := hQ18
  have z19 : n0 ≤ T18.heap.size := Nat.le_trans z16 K18.1
  have hs20 : h0.size ≤ T18.heap.size := Nat.le_trans hs17 K18.1
  have N18 := Fr.app N15 N18q
  obtain ⟨cq21, kq21, q21a, q21b, q21c⟩ := isOf hZ rfl po18_0
  obtain ⟨_, _, ⟨T21, L21, k21, n21⟩, -, X21, ⟨Lc21, hQ21, l21, y21, z21⟩, st21⟩ := X18.virtualBack hx (y := (⟨"com/example/vellum_index/vellumindex/IntList", "increment", "(II)V"⟩ : MethodName)) (z := (⟨"com/example/vellum_index/vellumindex/IntList", "increment", "(II)V"⟩ : MethodName)) hown (mvT hZ (hw _ (List.mem_of_getElem? (i := 20) rfl))) (mvT hZ (hw _ (List.mem_of_getElem? (i := 21) rfl))) (notFace_of_selects (args := #[]) (mvT hZ (hw _ (List.mem_of_getElem? (i := 23) rfl)))) (mvT hZ (hw _ (List.mem_of_getElem? (i := 23) rfl))) (mvT hZ (hw _ (List.mem_of_getElem? (i := 22) rfl))) (by decide) (backOf (W := 0) (rm4 l Z a0 hw [] b1 (v0_2 p0 p1 p2 p3 p4) p4 x1_0_6 p0 p1 p2 (0 : Int32) k1_1_6 T18.heap n0 z19 po18_0 po18_1 po18_2 po18_3 (own_k3 p0 p1 p2 p3 p4) (own_k0 p0 p1 p2 p3 p4) (own_k4 p0 p1 p2 p3 p4) g8) hZ (hw _ (List.mem_of_getElem? (i := 24) rfl)) (hw _ (List.mem_of_getElem? (i := 2) rfl)) (by decide) (by decide)) q21a q21c (g := (mkF m 41 #[.val (.int p0), .val (.int p1), .val (.int p2), .val (.int p3), .val (.int p4), .val (.ref b1), .val (.int (v0_2 p0 p1 p2 p3 p4)), .unset, .unset, .unset] [(.int p4), (.int (v0_2 p0 p1 p2 p3 p4)), (.ref b1)])) rfl (by rw [hml]; rfl) (Steps.refl _) (argsL := [(.int (v0_2 p0 p1 p2 p3 p4)), (.int p4)]) (rest := []) (lenOf pd__II_V rfl) rfl (by show 2 * 0 + _ ≤ _; exact Nat.le_of_eq rfl) (hb hby at_41) (fun _ _ => ⟨rfl, rfl, (by decide : 2 + 0 ≤ _), (by decide : 6 + 0 ≤ _)⟩)
  dsimp only [Pt.U, Pt.locs, Pt.cells, Pt.slots] at X21 l21 y21 z21 st21 hQ21
  subst l21 y21 z21
  obtain ⟨N21q, rfl, K21, po21_0⟩ := hQ21
  have z22 : n0 ≤ T21.heap.size := Nat.le_trans z19 K21.1
  have hs23 : h0.size ≤ T21.heap.size := Nat.le_trans hs20 K21.1
  have N21 := Fr.app N18 N21q
  obtain ⟨_, _, ⟨T24, L24, k24, n24⟩, -, X24, ⟨Lc24, hQ24, l24, y24, z24⟩, st24⟩ := Jvm.LawKit.callS X21 hx (y := (⟨"com/example/vellum_index/vellumindex/IntListIncrementPinLaw", "expected", "(IIII)I"⟩ : MethodName)) hown (mvT hZ (hw _ (List.mem_of_getElem? (i := 25) rfl))) (mvT hZ (hw _ (List.mem_of_getElem? (i := 26) rfl))) (mvT hZ (hw _ (List.mem_of_getElem? (i := 27) rfl))) (mvT hZ (hw _ (List.mem_of_getElem? (i := 28) rfl))) (by decide) (backOf (W := 0) (rm5 l Z a0 hw [] (0 : Int32) (v0_2 p0 p1 p2 p3 p4) p0 p4 T21.heap n0 z22) hZ (hw _ (List.mem_of_getElem? (i := 28) rfl)) (hw _ (List.mem_of_getElem? (i := 27) rfl)) (by decide) (by decide)) (g := (mkF m 50 #[.val (.int p0), .val (.int p1), .val (.int p2), .val (.int p3), .val (.int p4), .val (.ref b1), .val (.int (v0_2 p0 p1 p2 p3 p4)), .unset, .unset, .unset] [(.int p4), (.int p0), (.int (v0_2 p0 p1 p2 p3 p4)), (.int (0 : Int32))])) rfl (by rw [hml]; rfl) (argsL := [(.int (0 : Int32)), (.int (v0_2 p0 p1 p2 p3 p4)), (.int p0), (.int p4)]) (rest := []) (lenOf pd__IIII_I rfl) rfl (by show 2 * 0 + _ ≤ _; exact Nat.le_of_eq rfl) (hb hby at_50) (fun _ _ => ⟨rfl, rfl, (by decide : 2 + 0 ≤ _), (by decide : 6 + 0 ≤ _)⟩)
  dsimp only [Pt.U, Pt.locs, Pt.cells, Pt.slots] at X24 l24 y24 z24 st24 hQ24
  subst l24 y24 z24
  obtain ⟨N24q, rfl, e24⟩ := hQ24
  have N24 := Fr.app N21 N24q
  obtain ⟨_, _, ⟨T25, L25, k25, n25⟩, -, X25, ⟨Lc25, hQ25, l25, y25, z25⟩, st25⟩ := Jvm.LawKit.callS X24 hx (y := (⟨"com/example/vellum_index/vellumindex/IntListIncrementPinLaw", "expected", "(IIII)I"⟩ : MethodName)) hown (mvT hZ (hw _ (List.mem_of_getElem? (i := 25) rfl))) (mvT hZ (hw _ (List.mem_of_getElem? (i := 26) rfl))) (mvT hZ (hw _ (List.mem_of_getElem? (i := 27) rfl))) (mvT hZ (hw _ (List.mem_of_getElem? (i := 28) rfl))) (by decide) (backOf (W := 0) (rm5 l Z a0 hw [] (1 : Int32) (v0_2 p0 p1 p2 p3 p4) p1 p4 T21.heap n0 z22) hZ (hw _ (List.mem_of_getElem? (i := 28) rfl)) (hw _ (List.mem_of_getElem? (i := 27) rfl)) (by decide) (by decide)) (g := (mkF m 61 #[.val (.int p0), .val (.int p1), .val (.int p2), .val (.int p3), .val (.int p4), .val (.ref b1), .val (.int (v0_2 p0 p1 p2 p3 p4)), .val (.int (v0_3 p0 p1 p2 p3 p4)), .unset, .unset] [(.int p4), (.int p1), (.int (v0_2 p0 p1 p2 p3 p4)), (.int (1 : Int32))])) rfl (by rw [hml]; rfl) (argsL := [(.int (1 : Int32)), (.int (v0_2 p0 p1 p2 p3 p4)), (.int p1), (.int p4)]) (rest := []) (lenOf pd__IIII_I rfl) rfl (by show 2 * 0 + _ ≤ _; exact Nat.le_of_eq rfl) (hb hby at_61) (fun _ _ => ⟨rfl, e24, (by decide : 2 + 0 ≤ _), (by decide : 6 + 0 ≤ _)⟩)
  dsimp only [Pt.U, Pt.locs, Pt.cells, Pt.slots] at X25 l25 y25 z25 st25 hQ25
  subst l25 y25 z25
  obtain ⟨N25q, rfl, e25⟩ := hQ25
  have N25 := Fr.app N24 N25q
  obtain ⟨_, _, ⟨T26, L26, k26, n26⟩, -, X26, ⟨Lc26, hQ26, l26, y26, z26⟩, st26⟩ := Jvm.LawKit.callS X25 hx (y := (⟨"com/example/vellum_index/vellumindex/IntListIncrementPinLaw", "expected", "(IIII)I"⟩ : MethodName)) hown (mvT hZ (hw _ (List.mem_of_getElem? (i := 25) rfl))) (mvT hZ (hw _ (List.mem_of_getElem? (i := 26) rfl))) (mvT hZ (hw _ (List.mem_of_getElem? (i := 27) rfl))) (mvT hZ (hw _ (List.mem_of_getElem? (i := 28) rfl))) (by decide) (backOf (W := 0) (rm5 l Z a0 hw [] (2 : Int32) (v0_2 p0 p1 p2 p3 p4) p2 p4 T21.heap n0 z22) hZ (hw _ (List.mem_of_getElem? (i := 28) rfl)) (hw _ (List.mem_of_getElem? (i := 27) rfl)) (by decide) (by decide)) (g := (mkF m 72 #[.val (.int p0), .val (.int p1), .val (.int p2), .val (.int p3), .val (.int p4), .val (.ref b1), .val (.int (v0_2 p0 p1 p2 p3 p4)), .val (.int (v0_3 p0 p1 p2 p3 p4)), .val (.int (v0_4 p0 p1 p2 p3 p4)), .unset] [(.int p4), (.int p2), (.int (v0_2 p0 p1 p2 p3 p4)), (.int (2 : Int32))])) rfl (by rw [hml]; rfl) (argsL := [(.int (2 : Int32)), (.int (v0_2 p0 p1 p2 p3 p4)), (.int p2), (.int p4)]) (rest := []) (lenOf pd__IIII_I rfl) rfl (by show 2 * 0 + _ ≤ _; exact Nat.le_of_eq rfl) (hb hby at_72) (fun _ _ => ⟨rfl, e25, (by decide : 2 + 0 ≤ _), (by decide : 6 + 0 ≤ _)⟩)
  dsimp only [Pt.U, Pt.locs, Pt.cells, Pt.slots] at X26 l26 y26 z26 st26 hQ26
  subst l26 y26 z26
  obtain ⟨N26q, rfl, e26⟩ := hQ26
  have N26 := Fr.app N25 N26q
  have k28 := (po18_1.keep K21 (ninS ne7 nin0))
  have k29 := (po18_0.keep K21)
  obtain ⟨cq27, kq27, q27a, q27b, q27c⟩ := isOf hZ e26 k29
  obtain ⟨_, _, ⟨T27, L27, k27, n27⟩, -, X27, ⟨Lc27, hQ27, l27, y27, z27⟩, st27⟩ := X26.virtualBack hx (y := (⟨"com/example/vellum_index/vellumindex/IntList", "size", "()I"⟩ : MethodName)) (z := (⟨"com/example/vellum_index/vellumindex/IntList", "size", "()I"⟩ : MethodName)) hown (mvT hZ (hw _ (List.mem_of_getElem? (i := 29) rfl))) (mvT hZ (hw _ (List.mem_of_getElem? (i := 30) rfl))) (notFace_of_selects (args := #[]) (mvT hZ (hw _ (List.mem_of_getElem? (i := 32) rfl)))) (mvT hZ (hw _ (List.mem_of_getElem? (i := 32) rfl))) (mvT hZ (hw _ (List.mem_of_getElem? (i := 31) rfl))) (by decide) (backOf (W := 0) (rm6 l Z a0 hw [] b1 (3 : Int32) T21.heap n0 z22 k28) hZ (hw _ (List.mem_of_getElem? (i := 33) rfl)) (hw _ (List.mem_of_getElem? (i := 2) rfl)) (by decide) (by decide)) q27a q27c (g := (mkF m 79 #[.val (.int p0), .val (.int p1), .val (.int p2), .val (.int p3), .val (.int p4), .val (.ref b1), .val (.int (v0_2 p0 p1 p2 p3 p4)), .val (.int (v0_3 p0 p1 p2 p3 p4)), .val (.int (v0_4 p0 p1 p2 p3 p4)), .val (.int (v0_5 p0 p1 p2 p3 p4))] [(.ref b1)])) rfl (by rw [hml]; rfl) (Steps.refl _) (argsL := []) (rest := []) (lenOf pd___I rfl) rfl (by show 2 * 0 + _ ≤ _; exact Nat.le_of_eq rfl) (hb hby at_79) (fun _ _ => ⟨rfl, e26, (by decide : 2 + 0 ≤ _), (by decide : 6 + 0 ≤ _)⟩)
  dsimp only [Pt.U, Pt.locs, Pt.cells, Pt.slots] at X27 l27 y27 z27 st27 hQ27
  subst l27 y27 z27
  obtain ⟨N27q, rfl, e27⟩ := hQ27
  have N27 := Fr.app N26 N27q
  have pre30 : ∀ t, Steps p.tables e below (T27.setTop (mkF m 83 #[.val (.int p0), .val (.int p1), .val (.int p2), .val (.int p3), .val (.int p4), .val (.ref b1), .val (.int (v0_2 p0 p1 p2 p3 p4)), .val (.int (v0_3 p0 p1 p2 p3 p4)), .val (.int (v0_4 p0 p1 p2 p3 p4)), .val (.int (v0_5 p0 p1 p2 p3 p4))] [(.int (3 : Int32)), (.int (f6 (3 : Int32)))])) t → Steps p.tables e below (s₁.setTop (entryFrame m #[(.int p0), (.int p1), (.int p2), (.int p3), (.int p4)] maxLocals)) t := by
    intro t k
    refine pre0 t ?_
    show Steps p.tables e below (s₁.setTop (mkF m 0 #[.val (.int p0), .val (.int p1), .val (.int p2), .val (.int p3), .val (.int p4), .unset, .unset, .unset, .unset, .unset] [])) _
    refine st1 _ ?_
    show Steps p.tables e below (T1.setTop (mkF m 3 #[.val (.int p0), .val (.int p1), .val (.int p2), .val (.int p3), .val (.int p4), .unset, .unset, .unset, .unset, .unset] [(.ref b1)])) _
    refine XS.dup X1.here hx rfl (hb hby at_3) rfl rfl ?_
    show Steps p.tables e below (T1.setTop (mkF m 4 #[.val (.int p0), .val (.int p1), .val (.int p2), .val (.int p3), .val (.int p4), .unset, .unset, .unset, .unset, .unset] [(.ref b1), (.ref b1)])) _
    refine st6.trans ?_
    show Steps p.tables e below (T6.setTop (mkF m 7 #[.val (.int p0), .val (.int p1), .val (.int p2), .val (.int p3), .val (.int p4), .unset, .unset, .unset, .unset, .unset] [(.ref b1)])) _
    refine XS.astore X6.here hx rfl (hb hby at_7) rfl rfl (l' := #[.val (.int p0), .val (.int p1), .val (.int p2), .val (.int p3), .val (.int p4), .val (.ref b1), .unset, .unset, .unset, .unset]) rfl ?_
    show Steps p.tables e below (T6.setTop (mkF m 9 #[.val (.int p0), .val (.int p1), .val (.int p2), .val (.int p3), .val (.int p4), .val (.ref b1), .unset, .unset, .unset, .unset] [])) _
    refine XS.aload X6.here hx rfl (hb hby at_9) rfl rfl ?_
    show Steps p.tables e below (T6.setTop (mkF m 11 #[.val (.int p0), .val (.int p1), .val (.int p2), .val (.int p3), .val (.int p4), .val (.ref b1), .unset, .unset, .unset, .unset] [(.ref b1)])) _
    refine XS.iloadN X6.here hx rfl (hb hby at_11) rfl ?_
    show Steps p.tables e below (T6.setTop (mkF m 12 #[.val (.int p0), .val (.int p1), .val (.int p2), .val (.int p3), .val (.int p4), .val (.ref b1), .unset, .unset, .unset, .unset] [(.int p0), (.ref b1)])) _
    refine st12.trans ?_
    show Steps p.tables e below (T12.setTop (mkF m 15 #[.val (.int p0), .val (.int p1), .val (.int p2), .val (.int p3), .val (.int p4), .val (.ref b1), .unset, .unset, .unset, .unset] [])) _
    refine XS.aload X12.here hx rfl (hb hby at_15) rfl rfl ?_
    show Steps p.tables e below (T12.setTop (mkF m 17 #[.val (.int p0), .val (.int p1), .val (.int p2), .val (.int p3), .val (.int p4), .val (.ref b1), .unset, .unset, .unset, .unset] [(.ref b1)])) _
    refine XS.iloadN X12.here hx rfl (hb hby at_17) rfl ?_
    show Steps p.tables e below (T12.setTop (mkF m 18 #[.val (.int p0), .val (.int p1), .val (.int p2), .val (.int p3), .val (.int p4), .val (.ref b1), .unset, .unset, .unset, .unset] [(.int p1), (.ref b1)])) _
    refine st15.trans ?_
    show Steps p.tables e below (T15.setTop (mkF m 21 #[.val (.int p0), .val (.int p1), .val (.int p2), .val (.int p3), .val (.int p4), .val (.ref b1), .unset, .unset, .unset, .unset] [])) _
    refine XS.aload X15.here hx rfl (hb hby at_21) rfl rfl ?_
    show Steps p.tables e below (T15.setTop (mkF m 23 #[.val (.int p0), .val (.int p1), .val (.int p2), .val (.int p3), .val (.int p4), .val (.ref b1), .unset, .unset, .unset, .unset] [(.ref b1)])) _
    refine XS.iloadN X15.here hx rfl (hb hby at_23) rfl ?_
    show Steps p.tables e below (T15.setTop (mkF m 24 #[.val (.int p0), .val (.int p1), .val (.int p2), .val (.int p3), .val (.int p4), .val (.ref b1), .unset, .unset, .unset, .unset] [(.int p2), (.ref b1)])) _
    refine st18.trans ?_
    show Steps p.tables e below (T18.setTop (mkF m 27 #[.val (.int p0), .val (.int p1), .val (.int p2), .val (.int p3), .val (.int p4), .val (.ref b1), .unset, .unset, .unset, .unset] [])) _
    refine XS.iloadN X18.here hx rfl (hb hby at_27) rfl ?_
    show Steps p.tables e below (T18.setTop (mkF m 28 #[.val (.int p0), .val (.int p1), .val (.int p2), .val (.int p3), .val (.int p4), .val (.ref b1), .unset, .unset, .unset, .unset] [(.int p3)])) _
    refine X18.ldcI hx hown (mvT hZ (hw _ (List.mem_of_getElem? (i := 19) rfl))) rfl (hb hby at_28) ?_
    show Steps p.tables e below (T18.setTop (mkF m 30 #[.val (.int p0), .val (.int p1), .val (.int p2), .val (.int p3), .val (.int p4), .val (.ref b1), .unset, .unset, .unset, .unset] [(.int (2147483647 : Int32)), (.int p3)])) _
    refine XS.iand X18.here hx rfl (hb hby at_30) rfl ?_
    show Steps p.tables e below (T18.setTop (mkF m 31 #[.val (.int p0), .val (.int p1), .val (.int p2), .val (.int p3), .val (.int p4), .val (.ref b1), .unset, .unset, .unset, .unset] [(.int (p3 &&& (2147483647 : Int32)))])) _
    refine XT.iconstV X18.here hx rfl (3 : Int32) (hb hby at_31) (by decide) ?_
    show Steps p.tables e below (T18.setTop (mkF m 32 #[.val (.int p0), .val (.int p1), .val (.int p2), .val (.int p3), .val (.int p4), .val (.ref b1), .unset, .unset, .unset, .unset] [(.int (3 : Int32)), (.int (p3 &&& (2147483647 : Int32)))])) _
    refine XS.irem X18.here hx rfl (hb hby at_32) rfl (by decide) ?_
    show Steps p.tables e below (T18.setTop (mkF m 33 #[.val (.int p0), .val (.int p1), .val (.int p2), .val (.int p3), .val (.int p4), .val (.ref b1), .unset, .unset, .unset, .unset] [(.int ((v0_1 p0 p1 p2 p3 p4) - ((v0_1 p0 p1 p2 p3 p4) / (3 : Int32)) * (3 : Int32)))])) _
    refine XS.istore X18.here hx rfl (hb hby at_33) rfl (l' := #[.val (.int p0), .val (.int p1), .val (.int p2), .val (.int p3), .val (.int p4), .val (.ref b1), .val (.int (v0_2 p0 p1 p2 p3 p4)), .unset, .unset, .unset]) rfl ?_
    show Steps p.tables e below (T18.setTop (mkF m 35 #[.val (.int p0), .val (.int p1), .val (.int p2), .val (.int p3), .val (.int p4), .val (.ref b1), .val (.int (v0_2 p0 p1 p2 p3 p4)), .unset, .unset, .unset] [])) _
    refine XS.aload X18.here hx rfl (hb hby at_35) rfl rfl ?_
    show Steps p.tables e below (T18.setTop (mkF m 37 #[.val (.int p0), .val (.int p1), .val (.int p2), .val (.int p3), .val (.int p4), .val (.ref b1), .val (.int (v0_2 p0 p1 p2 p3 p4)), .unset, .unset, .unset] [(.ref b1)])) _
    refine XS.iload X18.here hx rfl (hb hby at_37) rfl ?_
    show Steps p.tables e below (T18.setTop (mkF m 39 #[.val (.int p0), .val (.int p1), .val (.int p2), .val (.int p3), .val (.int p4), .val (.ref b1), .val (.int (v0_2 p0 p1 p2 p3 p4)), .unset, .unset, .unset] [(.int (v0_2 p0 p1 p2 p3 p4)), (.ref b1)])) _
    refine XS.iload X18.here hx rfl (hb hby at_39) rfl ?_
    show Steps p.tables e below (T18.setTop (mkF m 41 #[.val (.int p0), .val (.int p1), .val (.int p2), .val (.int p3), .val (.int p4), .val (.ref b1), .val (.int (v0_2 p0 p1 p2 p3 p4)), .unset, .unset, .unset] [(.int p4), (.int (v0_2 p0 p1 p2 p3 p4)), (.ref b1)])) _
    refine st21.trans ?_
    show Steps p.tables e below (T21.setTop (mkF m 44 #[.val (.int p0), .val (.int p1), .val (.int p2), .val (.int p3), .val (.int p4), .val (.ref b1), .val (.int (v0_2 p0 p1 p2 p3 p4)), .unset, .unset, .unset] [])) _
    refine XT.iconstV X21.here hx rfl (0 : Int32) (hb hby at_44) (by decide) ?_
    show Steps p.tables e below (T21.setTop (mkF m 45 #[.val (.int p0), .val (.int p1), .val (.int p2), .val (.int p3), .val (.int p4), .val (.ref b1), .val (.int (v0_2 p0 p1 p2 p3 p4)), .unset, .unset, .unset] [(.int (0 : Int32))])) _
    refine XS.iload X21.here hx rfl (hb hby at_45) rfl ?_
    show Steps p.tables e below (T21.setTop (mkF m 47 #[.val (.int p0), .val (.int p1), .val (.int p2), .val (.int p3), .val (.int p4), .val (.ref b1), .val (.int (v0_2 p0 p1 p2 p3 p4)), .unset, .unset, .unset] [(.int (v0_2 p0 p1 p2 p3 p4)), (.int (0 : Int32))])) _
    refine XS.iloadN X21.here hx rfl (hb hby at_47) rfl ?_
    show Steps p.tables e below (T21.setTop (mkF m 48 #[.val (.int p0), .val (.int p1), .val (.int p2), .val (.int p3), .val (.int p4), .val (.ref b1), .val (.int (v0_2 p0 p1 p2 p3 p4)), .unset, .unset, .unset] [(.int p0), (.int (v0_2 p0 p1 p2 p3 p4)), (.int (0 : Int32))])) _
    refine XS.iload X21.here hx rfl (hb hby at_48) rfl ?_
    show Steps p.tables e below (T21.setTop (mkF m 50 #[.val (.int p0), .val (.int p1), .val (.int p2), .val (.int p3), .val (.int p4), .val (.ref b1), .val (.int (v0_2 p0 p1 p2 p3 p4)), .unset, .unset, .unset] [(.int p4), (.int p0), (.int (v0_2 p0 p1 p2 p3 p4)), (.int (0 : Int32))])) _
    refine st24 _ ?_
    show Steps p.tables e below (T24.setTop (mkF m 53 #[.val (.int p0), .val (.int p1), .val (.int p2), .val (.int p3), .val (.int p4), .val (.ref b1), .val (.int (v0_2 p0 p1 p2 p3 p4)), .unset, .unset, .unset] [(.int (f5 (0 : Int32) (v0_2 p0 p1 p2 p3 p4) p0 p4))])) _
    refine XS.istore X24.here hx rfl (hb hby at_53) rfl (l' := #[.val (.int p0), .val (.int p1), .val (.int p2), .val (.int p3), .val (.int p4), .val (.ref b1), .val (.int (v0_2 p0 p1 p2 p3 p4)), .val (.int (v0_3 p0 p1 p2 p3 p4)), .unset, .unset]) rfl ?_
    show Steps p.tables e below (T24.setTop (mkF m 55 #[.val (.int p0), .val (.int p1), .val (.int p2), .val (.int p3), .val (.int p4), .val (.ref b1), .val (.int (v0_2 p0 p1 p2 p3 p4)), .val (.int (v0_3 p0 p1 p2 p3 p4)), .unset, .unset] [])) _
    refine XT.iconstV X24.here hx rfl (1 : Int32) (hb hby at_55) (by decide) ?_
    show Steps p.tables e below (T24.setTop (mkF m 56 #[.val (.int p0), .val (.int p1), .val (.int p2), .val (.int p3), .val (.int p4), .val (.ref b1), .val (.int (v0_2 p0 p1 p2 p3 p4)), .val (.int (v0_3 p0 p1 p2 p3 p4)), .unset, .unset] [(.int (1 : Int32))])) _
    refine XS.iload X24.here hx rfl (hb hby at_56) rfl ?_
    show Steps p.tables e below (T24.setTop (mkF m 58 #[.val (.int p0), .val (.int p1), .val (.int p2), .val (.int p3), .val (.int p4), .val (.ref b1), .val (.int (v0_2 p0 p1 p2 p3 p4)), .val (.int (v0_3 p0 p1 p2 p3 p4)), .unset, .unset] [(.int (v0_2 p0 p1 p2 p3 p4)), (.int (1 : Int32))])) _
    refine XS.iloadN X24.here hx rfl (hb hby at_58) rfl ?_
    show Steps p.tables e below (T24.setTop (mkF m 59 #[.val (.int p0), .val (.int p1), .val (.int p2), .val (.int p3), .val (.int p4), .val (.ref b1), .val (.int (v0_2 p0 p1 p2 p3 p4)), .val (.int (v0_3 p0 p1 p2 p3 p4)), .unset, .unset] [(.int p1), (.int (v0_2 p0 p1 p2 p3 p4)), (.int (1 : Int32))])) _
    refine XS.iload X24.here hx rfl (hb hby at_59) rfl ?_
    show Steps p.tables e below (T24.setTop (mkF m 61 #[.val (.int p0), .val (.int p1), .val (.int p2), .val (.int p3), .val (.int p4), .val (.ref b1), .val (.int (v0_2 p0 p1 p2 p3 p4)), .val (.int (v0_3 p0 p1 p2 p3 p4)), .unset, .unset] [(.int p4), (.int p1), (.int (v0_2 p0 p1 p2 p3 p4)), (.int (1 : Int32))])) _
    refine st25 _ ?_
    show Steps p.tables e below (T25.setTop (mkF m 64 #[.val (.int p0), .val (.int p1), .val (.int p2), .val (.int p3), .val (.int p4), .val (.ref b1), .val (.int (v0_2 p0 p1 p2 p3 p4)), .val (.int (v0_3 p0 p1 p2 p3 p4)), .unset, .unset] [(.int (f5 (1 : Int32) (v0_2 p0 p1 p2 p3 p4) p1 p4))])) _
    refine XS.istore X25.here hx rfl (hb hby at_64) rfl (l' := #[.val (.int p0), .val (.int p1), .val (.int p2), .val (.int p3), .val (.int p4), .val (.ref b1), .val (.int (v0_2 p0 p1 p2 p3 p4)), .val (.int (v0_3 p0 p1 p2 p3 p4)), .val (.int (v0_4 p0 p1 p2 p3 p4)), .unset]) rfl ?_
    show Steps p.tables e below (T25.setTop (mkF m 66 #[.val (.int p0), .val (.int p1), .val (.int p2), .val (.int p3), .val (.int p4), .val (.ref b1), .val (.int (v0_2 p0 p1 p2 p3 p4)), .val (.int (v0_3 p0 p1 p2 p3 p4)), .val (.int (v0_4 p0 p1 p2 p3 p4)), .unset] [])) _
    refine XT.iconstV X25.here hx rfl (2 : Int32) (hb hby at_66) (by decide) ?_
    show Steps p.tables e below (T25.setTop (mkF m 67 #[.val (.int p0), .val (.int p1), .val (.int p2), .val (.int p3), .val (.int p4), .val (.ref b1), .val (.int (v0_2 p0 p1 p2 p3 p4)), .val (.int (v0_3 p0 p1 p2 p3 p4)), .val (.int (v0_4 p0 p1 p2 p3 p4)), .unset] [(.int (2 : Int32))])) _
    refine XS.iload X25.here hx rfl (hb hby at_67) rfl ?_
    show Steps p.tables e below (T25.setTop (mkF m 69 #[.val (.int p0), .val (.int p1), .val (.int p2), .val (.int p3), .val (.int p4), .val (.ref b1), .val (.int (v0_2 p0 p1 p2 p3 p4)), .val (.int (v0_3 p0 p1 p2 p3 p4)), .val (.int (v0_4 p0 p1 p2 p3 p4)), .unset] [(.int (v0_2 p0 p1 p2 p3 p4)), (.int (2 : Int32))])) _
    refine XS.iloadN X25.here hx rfl (hb hby at_69) rfl ?_
    show Steps p.tables e below (T25.setTop (mkF m 70 #[.val (.int p0), .val (.int p1), .val (.int p2), .val (.int p3), .val (.int p4), .val (.ref b1), .val (.int (v0_2 p0 p1 p2 p3 p4)), .val (.int (v0_3 p0 p1 p2 p3 p4)), .val (.int (v0_4 p0 p1 p2 p3 p4)), .unset] [(.int p2), (.int (v0_2 p0 p1 p2 p3 p4)), (.int (2 : Int32))])) _
    refine XS.iload X25.here hx rfl (hb hby at_70) rfl ?_
    show Steps p.tables e below (T25.setTop (mkF m 72 #[.val (.int p0), .val (.int p1), .val (.int p2), .val (.int p3), .val (.int p4), .val (.ref b1), .val (.int (v0_2 p0 p1 p2 p3 p4)), .val (.int (v0_3 p0 p1 p2 p3 p4)), .val (.int (v0_4 p0 p1 p2 p3 p4)), .unset] [(.int p4), (.int p2), (.int (v0_2 p0 p1 p2 p3 p4)), (.int (2 : Int32))])) _
    refine st26 _ ?_
    show Steps p.tables e below (T26.setTop (mkF m 75 #[.val (.int p0), .val (.int p1), .val (.int p2), .val (.int p3), .val (.int p4), .val (.ref b1), .val (.int (v0_2 p0 p1 p2 p3 p4)), .val (.int (v0_3 p0 p1 p2 p3 p4)), .val (.int (v0_4 p0 p1 p2 p3 p4)), .unset] [(.int (f5 (2 : Int32) (v0_2 p0 p1 p2 p3 p4) p2 p4))])) _
    refine XS.istore X26.here hx rfl (hb hby at_75) rfl (l' := #[.val (.int p0), .val (.int p1), .val (.int p2), .val (.int p3), .val (.int p4), .val (.ref b1), .val (.int (v0_2 p0 p1 p2 p3 p4)), .val (.int (v0_3 p0 p1 p2 p3 p4)), .val (.int (v0_4 p0 p1 p2 p3 p4)), .val (.int (v0_5 p0 p1 p2 p3 p4))]) rfl ?_
    show Steps p.tables e below (T26.setTop (mkF m 77 #[.val (.int p0), .val (.int p1), .val (.int p2), .val (.int p3), .val (.int p4), .val (.ref b1), .val (.int (v0_2 p0 p1 p2 p3 p4)), .val (.int (v0_3 p0 p1 p2 p3 p4)), .val (.int (v0_4 p0 p1 p2 p3 p4)), .val (.int (v0_5 p0 p1 p2 p3 p4))] [])) _
    refine XS.aload X26.here hx rfl (hb hby at_77) rfl rfl ?_
    show Steps p.tables e below (T26.setTop (mkF m 79 #[.val (.int p0), .val (.int p1), .val (.int p2), .val (.int p3), .val (.int p4), .val (.ref b1), .val (.int (v0_2 p0 p1 p2 p3 p4)), .val (.int (v0_3 p0 p1 p2 p3 p4)), .val (.int (v0_4 p0 p1 p2 p3 p4)), .val (.int (v0_5 p0 p1 p2 p3 p4))] [(.ref b1)])) _
    refine st27.trans ?_
    show Steps p.tables e below (T27.setTop (mkF m 82 #[.val (.int p0), .val (.int p1), .val (.int p2), .val (.int p3), .val (.int p4), .val (.ref b1), .val (.int (v0_2 p0 p1 p2 p3 p4)), .val (.int (v0_3 p0 p1 p2 p3 p4)), .val (.int (v0_4 p0 p1 p2 p3 p4)), .val (.int (v0_5 p0 p1 p2 p3 p4))] [(.int (f6 (3 : Int32)))])) _
    refine XT.iconstV X27.here hx rfl (3 : Int32) (hb hby at_82) (by decide) ?_
    exact k
  obtain ⟨T42, L42, X42, e42, N42, pre42⟩ : ∃ (T' : State) (L' : List Loc), Stand p l e room_1 s m #[(.int p0), (.int p1), (.int p2), (.int p3), (.int p4)] below meth c T' L' 2 6 ∧ T'.heap = T21.heap ∧ Fr n0 L' ∧ ∀ t, Steps p.tables e below (T'.setTop (mkF m 124 #[.val (.int p0), .val (.int p1), .val (.int p2), .val (.int p3), .val (.int p4), .val (.ref b1), .val (.int (v0_2 p0 p1 p2 p3 p4)), .val (.int (v0_3 p0 p1 p2 p3 p4)), .val (.int (v0_4 p0 p1 p2 p3 p4)), .val (.int (v0_5 p0 p1 p2 p3 p4))] [(.int (v0_10 p0 p1 p2 p3 p4))])) t → Steps p.tables e below (s₁.setTop (entryFrame m #[(.int p0), (.int p1), (.int p2), (.int p3), (.int p4)] maxLocals)) t := by
    by_cases c31 : (v0_6 p0 p1 p2 p3 p4) = (3 : Int32)
    · skip
      have k33 := (po18_2.keep K21 (ninS ne7 nin0))
      obtain ⟨cq32, kq32, q32a, q32b, q32c⟩ := isOf hZ e27 k29
      obtain ⟨_, _, ⟨T32, L32, k32, n32⟩, -, X32, ⟨Lc32, hQ32, l32, y32, z32⟩, st32⟩ := X27.virtualBack hx (y := (⟨"com/example/vellum_index/vellumindex/IntList", "get", "(I)I"⟩ : MethodName)) (z := (⟨"com/example/vellum_index/vellumindex/IntList", "get", "(I)I"⟩ : MethodName)) hown (mvT hZ (hw _ (List.mem_of_getElem? (i := 34) rfl))) (mvT hZ (hw _ (List.mem_of_getElem? (i := 35) rfl))) (notFace_of_selects (args := #[]) (mvT hZ (hw _ (List.mem_of_getElem? (i := 37) rfl)))) (mvT hZ (hw _ (List.mem_of_getElem? (i := 37) rfl))) (mvT hZ (hw _ (List.mem_of_getElem? (i := 36) rfl))) (by decide) (backOf (W := 0) (rmget0 l Z a0 hw [] b1 x1_0_6 (v4_2 (v0_2 p0 p1 p2 p3 p4) p4 p0 p1 p2 (0 : Int32)) (v4_3 (v0_2 p0 p1 p2 p3 p4) p4 p0 p1 p2 (0 : Int32)) (v4_4 (v0_2 p0 p1 p2 p3 p4) p4 p0 p1 p2 (0 : Int32)) (v4_5 (v0_2 p0 p1 p2 p3 p4) p4 p0 p1 p2 (0 : Int32)) k1_1_6 T21.heap n0 z22 k29 k28 k33 po21_0) hZ (hw _ (List.mem_of_getElem? (i := 38) rfl)) (hw _ (List.mem_of_getElem? (i := 2) rfl)) (by decide) (by decide)) q32a q32c (g := (mkF m 89 #[.val (.int p0), .val (.int p1), .val (.int p2), .val (.int p3), .val (.int p4), .val (.ref b1), .val (.int (v0_2 p0 p1 p2 p3 p4)), .val (.int (v0_3 p0 p1 p2 p3 p4)), .val (.int (v0_4 p0 p1 p2 p3 p4)), .val (.int (v0_5 p0 p1 p2 p3 p4))] [(.int (0 : Int32)), (.ref b1)])) rfl (by rw [hml]; rfl) (Steps.refl _) (argsL := [(.int (0 : Int32))]) (rest := []) (lenOf pd__I_I rfl) rfl (by show 2 * 0 + _ ≤ _; exact Nat.le_of_eq rfl) (hb hby at_89) (fun _ _ => ⟨rfl, e27, (by decide : 2 + 0 ≤ _), (by decide : 6 + 0 ≤ _)⟩)
      dsimp only [Pt.U, Pt.locs, Pt.cells, Pt.slots] at X32 l32 y32 z32 st32 hQ32
      subst l32 y32 z32
      obtain ⟨N32q, rfl, e32⟩ := hQ32
      have N32 := Fr.app N27 N32q
      have pre34 : ∀ t, Steps p.tables e below (T32.setTop (mkF m 94 #[.val (.int p0), .val (.int p1), .val (.int p2), .val (.int p3), .val (.int p4), .val (.ref b1), .val (.int (v0_2 p0 p1 p2 p3 p4)), .val (.int (v0_3 p0 p1 p2 p3 p4)), .val (.int (v0_4 p0 p1 p2 p3 p4)), .val (.int (v0_5 p0 p1 p2 p3 p4))] [(.int (v0_3 p0 p1 p2 p3 p4)), (.int (fget0 (v4_2 (v0_2 p0 p1 p2 p3 p4) p4 p0 p1 p2 (0 : Int32)) (v4_3 (v0_2 p0 p1 p2 p3 p4) p4 p0 p1 p2 (0 : Int32)) (v4_4 (v0_2 p0 p1 p2 p3 p4) p4 p0 p1 p2 (0 : Int32)) (v4_5 (v0_2 p0 p1 p2 p3 p4) p4 p0 p1 p2 (0 : Int32))))])) t → Steps p.tables e below (s₁.setTop (entryFrame m #[(.int p0), (.int p1), (.int p2), (.int p3), (.int p4)] maxLocals)) t := by
        intro t k
        refine pre30 t ?_
        show Steps p.tables e below (T27.setTop (mkF m 83 #[.val (.int p0), .val (.int p1), .val (.int p2), .val (.int p3), .val (.int p4), .val (.ref b1), .val (.int (v0_2 p0 p1 p2 p3 p4)), .val (.int (v0_3 p0 p1 p2 p3 p4)), .val (.int (v0_4 p0 p1 p2 p3 p4)), .val (.int (v0_5 p0 p1 p2 p3 p4))] [(.int (3 : Int32)), (.int (f6 (3 : Int32)))])) _
        refine XS.icmpNo X27.here hx rfl (hb hby at_83) rfl (XT.ii_ne_f c31) ?_
        show Steps p.tables e below (T27.setTop (mkF m 86 #[.val (.int p0), .val (.int p1), .val (.int p2), .val (.int p3), .val (.int p4), .val (.ref b1), .val (.int (v0_2 p0 p1 p2 p3 p4)), .val (.int (v0_3 p0 p1 p2 p3 p4)), .val (.int (v0_4 p0 p1 p2 p3 p4)), .val (.int (v0_5 p0 p1 p2 p3 p4))] [])) _
        refine XS.aload X27.here hx rfl (hb hby at_86) rfl rfl ?_
        show Steps p.tables e below (T27.setTop (mkF m 88 #[.val (.int p0), .val (.int p1), .val (.int p2), .val (.int p3), .val (.int p4), .val (.ref b1), .val (.int (v0_2 p0 p1 p2 p3 p4)), .val (.int (v0_3 p0 p1 p2 p3 p4)), .val (.int (v0_4 p0 p1 p2 p3 p4)), .val (.int (v0_5 p0 p1 p2 p3 p4))] [(.ref b1)])) _
        refine XT.iconstV X27.here hx rfl (0 : Int32) (hb hby at_88) (by decide) ?_
        show Steps p.tables e below (T27.setTop (mkF m 89 #[.val (.int p0), .val (.int p1), .val (.int p2), .val (.int p3), .val (.int p4), .val (.ref b1), .val (.int (v0_2 p0 p1 p2 p3 p4)), .val (.int (v0_3 p0 p1 p2 p3 p4)), .val (.int (v0_4 p0 p1 p2 p3 p4)), .val (.int (v0_5 p0 p1 p2 p3 p4))] [(.int (0 : Int32)), (.ref b1)])) _
        refine st32.trans ?_
        show Steps p.tables e below (T32.setTop (mkF m 92 #[.val (.int p0), .val (.int p1), .val (.int p2), .val (.int p3), .val (.int p4), .val (.ref b1), .val (.int (v0_2 p0 p1 p2 p3 p4)), .val (.int (v0_3 p0 p1 p2 p3 p4)), .val (.int (v0_4 p0 p1 p2 p3 p4)), .val (.int (v0_5 p0 p1 p2 p3 p4))] [(.int (fget0 (v4_2 (v0_2 p0 p1 p2 p3 p4) p4 p0 p1 p2 (0 : Int32)) (v4_3 (v0_2 p0 p1 p2 p3 p4) p4 p0 p1 p2 (0 : Int32)) (v4_4 (v0_2 p0 p1 p2 p3 p4) p4 p0 p1 p2 (0 : Int32)) (v4_5 (v0_2 p0 p1 p2 p3 p4) p4 p0 p1 p2 (0 : Int32))))])) _
        refine XS.iload X32.here hx rfl (hb hby at_92) rfl ?_
        exact k
      by_cases c35 : (v0_7 p0 p1 p2 p3 p4) = (v0_3 p0 p1 p2 p3 p4)
      · skip
        obtain ⟨cq36, kq36, q36a, q36b, q36c⟩ := isOf hZ e32 k29
        obtain ⟨_, _, ⟨T36, L36, k36, n36⟩, -, X36, ⟨Lc36, hQ36, l36, y36, z36⟩, st36⟩ := X32.virtualBack hx (y := (⟨"com/example/vellum_index/vellumindex/IntList", "get", "(I)I"⟩ : MethodName)) (z := (⟨"com/example/vellum_index/vellumindex/IntList", "get", "(I)I"⟩ : MethodName)) hown (mvT hZ (hw _ (List.mem_of_getElem? (i := 34) rfl))) (mvT hZ (hw _ (List.mem_of_getElem? (i := 35) rfl))) (notFace_of_selects (args := #[]) (mvT hZ (hw _ (List.mem_of_getElem? (i := 37) rfl)))) (mvT hZ (hw _ (List.mem_of_getElem? (i := 37) rfl))) (mvT hZ (hw _ (List.mem_of_getElem? (i := 36) rfl))) (by decide) (backOf (W := 0) (rmget1 l Z a0 hw [] b1 x1_0_6 (v4_2 (v0_2 p0 p1 p2 p3 p4) p4 p0 p1 p2 (0 : Int32)) (v4_3 (v0_2 p0 p1 p2 p3 p4) p4 p0 p1 p2 (0 : Int32)) (v4_4 (v0_2 p0 p1 p2 p3 p4) p4 p0 p1 p2 (0 : Int32)) (v4_5 (v0_2 p0 p1 p2 p3 p4) p4 p0 p1 p2 (0 : Int32)) k1_1_6 T21.heap n0 z22 k29 k28 k33 po21_0) hZ (hw _ (List.mem_of_getElem? (i := 38) rfl)) (hw _ (List.mem_of_getElem? (i := 2) rfl)) (by decide) (by decide)) q36a q36c (g := (mkF m 100 #[.val (.int p0), .val (.int p1), .val (.int p2), .val (.int p3), .val (.int p4), .val (.ref b1), .val (.int (v0_2 p0 p1 p2 p3 p4)), .val (.int (v0_3 p0 p1 p2 p3 p4)), .val (.int (v0_4 p0 p1 p2 p3 p4)), .val (.int (v0_5 p0 p1 p2 p3 p4))] [(.int (1 : Int32)), (.ref b1)])) rfl (by rw [hml]; rfl) (Steps.refl _) (argsL := [(.int (1 : Int32))]) (rest := []) (lenOf pd__I_I rfl) rfl (by show 2 * 0 + _ ≤ _; exact Nat.le_of_eq rfl) (hb hby at_100) (fun _ _ => ⟨rfl, e32, (by decide : 2 + 0 ≤ _), (by decide : 6 + 0 ≤ _)⟩)
        dsimp only [Pt.U, Pt.locs, Pt.cells, Pt.slots] at X36 l36 y36 z36 st36 hQ36
        subst l36 y36 z36
        obtain ⟨N36q, rfl, e36⟩ := hQ36
        have N36 := Fr.app N32 N36q
        have pre37 : ∀ t, Steps p.tables e below (T36.setTop (mkF m 105 #[.val (.int p0), .val (.int p1), .val (.int p2), .val (.int p3), .val (.int p4), .val (.ref b1), .val (.int (v0_2 p0 p1 p2 p3 p4)), .val (.int (v0_3 p0 p1 p2 p3 p4)), .val (.int (v0_4 p0 p1 p2 p3 p4)), .val (.int (v0_5 p0 p1 p2 p3 p4))] [(.int (v0_4 p0 p1 p2 p3 p4)), (.int (fget1 (v4_2 (v0_2 p0 p1 p2 p3 p4) p4 p0 p1 p2 (0 : Int32)) (v4_3 (v0_2 p0 p1 p2 p3 p4) p4 p0 p1 p2 (0 : Int32)) (v4_4 (v0_2 p0 p1 p2 p3 p4) p4 p0 p1 p2 (0 : Int32)) (v4_5 (v0_2 p0 p1 p2 p3 p4) p4 p0 p1 p2 (0 : Int32))))])) t → Steps p.tables e below (s₁.setTop (entryFrame m #[(.int p0), (.int p1), (.int p2), (.int p3), (.int p4)] maxLocals)) t := by
          intro t k
          refine pre34 t ?_
          show Steps p.tables e below (T32.setTop (mkF m 94 #[.val (.int p0), .val (.int p1), .val (.int p2), .val (.int p3), .val (.int p4), .val (.ref b1), .val (.int (v0_2 p0 p1 p2 p3 p4)), .val (.int (v0_3 p0 p1 p2 p3 p4)), .val (.int (v0_4 p0 p1 p2 p3 p4)), .val (.int (v0_5 p0 p1 p2 p3 p4))] [(.int (v0_3 p0 p1 p2 p3 p4)), (.int (fget0 (v4_2 (v0_2 p0 p1 p2 p3 p4) p4 p0 p1 p2 (0 : Int32)) (v4_3 (v0_2 p0 p1 p2 p3 p4) p4 p0 p1 p2 (0 : Int32)) (v4_4 (v0_2 p0 p1 p2 p3 p4) p4 p0 p1 p2 (0 : Int32)) (v4_5 (v0_2 p0 p1 p2 p3 p4) p4 p0 p1 p2 (0 : Int32))))])) _
          refine XS.icmpNo X32.here hx rfl (hb hby at_94) rfl (XT.ii_ne_f c35) ?_
          show Steps p.tables e below (T32.setTop (mkF m 97 #[.val (.int p0), .val (.int p1), .val (.int p2), .val (.int p3), .val (.int p4), .val (.ref b1), .val (.int (v0_2 p0 p1 p2 p3 p4)), .val (.int (v0_3 p0 p1 p2 p3 p4)), .val (.int (v0_4 p0 p1 p2 p3 p4)), .val (.int (v0_5 p0 p1 p2 p3 p4))] [])) _
          refine XS.aload X32.here hx rfl (hb hby at_97) rfl rfl ?_
          show Steps p.tables e below (T32.setTop (mkF m 99 #[.val (.int p0), .val (.int p1), .val (.int p2), .val (.int p3), .val (.int p4), .val (.ref b1), .val (.int (v0_2 p0 p1 p2 p3 p4)), .val (.int (v0_3 p0 p1 p2 p3 p4)), .val (.int (v0_4 p0 p1 p2 p3 p4)), .val (.int (v0_5 p0 p1 p2 p3 p4))] [(.ref b1)])) _
          refine XT.iconstV X32.here hx rfl (1 : Int32) (hb hby at_99) (by decide) ?_
          show Steps p.tables e below (T32.setTop (mkF m 100 #[.val (.int p0), .val (.int p1), .val (.int p2), .val (.int p3), .val (.int p4), .val (.ref b1), .val (.int (v0_2 p0 p1 p2 p3 p4)), .val (.int (v0_3 p0 p1 p2 p3 p4)), .val (.int (v0_4 p0 p1 p2 p3 p4)), .val (.int (v0_5 p0 p1 p2 p3 p4))] [(.int (1 : Int32)), (.ref b1)])) _
          refine st36.trans ?_
          show Steps p.tables e below (T36.setTop (mkF m 103 #[.val (.int p0), .val (.int p1), .val (.int p2), .val (.int p3), .val (.int p4), .val (.ref b1), .val (.int (v0_2 p0 p1 p2 p3 p4)), .val (.int (v0_3 p0 p1 p2 p3 p4)), .val (.int (v0_4 p0 p1 p2 p3 p4)), .val (.int (v0_5 p0 p1 p2 p3 p4))] [(.int (fget1 (v4_2 (v0_2 p0 p1 p2 p3 p4) p4 p0 p1 p2 (0 : Int32)) (v4_3 (v0_2 p0 p1 p2 p3 p4) p4 p0 p1 p2 (0 : Int32)) (v4_4 (v0_2 p0 p1 p2 p3 p4) p4 p0 p1 p2 (0 : Int32)) (v4_5 (v0_2 p0 p1 p2 p3 p4) p4 p0 p1 p2 (0 : Int32))))])) _
          refine XS.iload X36.here hx rfl (hb hby at_103) rfl ?_
          exact k
        by_cases c38 : (v0_8 p0 p1 p2 p3 p4) = (v0_4 p0 p1 p2 p3 p4)
        · skip
          obtain ⟨cq39, kq39, q39a, q39b, q39c⟩ := isOf hZ e36 k29
          obtain ⟨_, _, ⟨T39, L39, k39, n39⟩, -, X39, ⟨Lc39, hQ39, l39, y39, z39⟩, st39⟩ := X36.virtualBack hx (y := (⟨"com/example/vellum_index/vellumindex/IntList", "get", "(I)I"⟩ : MethodName)) (z := (⟨"com/example/vellum_index/vellumindex/IntList", "get", "(I)I"⟩ : MethodName)) hown (mvT hZ (hw _ (List.mem_of_getElem? (i := 34) rfl))) (mvT hZ (hw _ (List.mem_of_getElem? (i := 35) rfl))) (notFace_of_selects (args := #[]) (mvT hZ (hw _ (List.mem_of_getElem? (i := 37) rfl)))) (mvT hZ (hw _ (List.mem_of_getElem? (i := 37) rfl))) (mvT hZ (hw _ (List.mem_of_getElem? (i := 36) rfl))) (by decide) (backOf (W := 0) (rmget2 l Z a0 hw [] b1 x1_0_6 (v4_2 (v0_2 p0 p1 p2 p3 p4) p4 p0 p1 p2 (0 : Int32)) (v4_3 (v0_2 p0 p1 p2 p3 p4) p4 p0 p1 p2 (0 : Int32)) (v4_4 (v0_2 p0 p1 p2 p3 p4) p4 p0 p1 p2 (0 : Int32)) (v4_5 (v0_2 p0 p1 p2 p3 p4) p4 p0 p1 p2 (0 : Int32)) k1_1_6 T21.heap n0 z22 k29 k28 k33 po21_0) hZ (hw _ (List.mem_of_getElem? (i := 38) rfl)) (hw _ (List.mem_of_getElem? (i := 2) rfl)) (by decide) (by decide)) q39a q39c (g := (mkF m 111 #[.val (.int p0), .val (.int p1), .val (.int p2), .val (.int p3), .val (.int p4), .val (.ref b1), .val (.int (v0_2 p0 p1 p2 p3 p4)), .val (.int (v0_3 p0 p1 p2 p3 p4)), .val (.int (v0_4 p0 p1 p2 p3 p4)), .val (.int (v0_5 p0 p1 p2 p3 p4))] [(.int (2 : Int32)), (.ref b1)])) rfl (by rw [hml]; rfl) (Steps.refl _) (argsL := [(.int (2 : Int32))]) (rest := []) (lenOf pd__I_I rfl) rfl (by show 2 * 0 + _ ≤ _; exact Nat.le_of_eq rfl) (hb hby at_111) (fun _ _ => ⟨rfl, e36, (by decide : 2 + 0 ≤ _), (by decide : 6 + 0 ≤ _)⟩)
          dsimp only [Pt.U, Pt.locs, Pt.cells, Pt.slots] at X39 l39 y39 z39 st39 hQ39
          subst l39 y39 z39
          obtain ⟨N39q, rfl, e39⟩ := hQ39
          have N39 := Fr.app N36 N39q
          have pre40 : ∀ t, Steps p.tables e below (T39.setTop (mkF m 116 #[.val (.int p0), .val (.int p1), .val (.int p2), .val (.int p3), .val (.int p4), .val (.ref b1), .val (.int (v0_2 p0 p1 p2 p3 p4)), .val (.int (v0_3 p0 p1 p2 p3 p4)), .val (.int (v0_4 p0 p1 p2 p3 p4)), .val (.int (v0_5 p0 p1 p2 p3 p4))] [(.int (v0_5 p0 p1 p2 p3 p4)), (.int (fget2 (v4_2 (v0_2 p0 p1 p2 p3 p4) p4 p0 p1 p2 (0 : Int32)) (v4_3 (v0_2 p0 p1 p2 p3 p4) p4 p0 p1 p2 (0 : Int32)) (v4_4 (v0_2 p0 p1 p2 p3 p4) p4 p0 p1 p2 (0 : Int32)) (v4_5 (v0_2 p0 p1 p2 p3 p4) p4 p0 p1 p2 (0 : Int32))))])) t → Steps p.tables e below (s₁.setTop (entryFrame m #[(.int p0), (.int p1), (.int p2), (.int p3), (.int p4)] maxLocals)) t := by
            intro t k
            refine pre37 t ?_
            show Steps p.tables e below (T36.setTop (mkF m 105 #[.val (.int p0), .val (.int p1), .val (.int p2), .val (.int p3), .val (.int p4), .val (.ref b1), .val (.int (v0_2 p0 p1 p2 p3 p4)), .val (.int (v0_3 p0 p1 p2 p3 p4)), .val (.int (v0_4 p0 p1 p2 p3 p4)), .val (.int (v0_5 p0 p1 p2 p3 p4))] [(.int (v0_4 p0 p1 p2 p3 p4)), (.int (fget1 (v4_2 (v0_2 p0 p1 p2 p3 p4) p4 p0 p1 p2 (0 : Int32)) (v4_3 (v0_2 p0 p1 p2 p3 p4) p4 p0 p1 p2 (0 : Int32)) (v4_4 (v0_2 p0 p1 p2 p3 p4) p4 p0 p1 p2 (0 : Int32)) (v4_5 (v0_2 p0 p1 p2 p3 p4) p4 p0 p1 p2 (0 : Int32))))])) _
            refine XS.icmpNo X36.here hx rfl (hb hby at_105) rfl (XT.ii_ne_f c38) ?_
            show Steps p.tables e below (T36.setTop (mkF m 108 #[.val (.int p0), .val (.int p1), .val (.int p2), .val (.int p3), .val (.int p4), .val (.ref b1), .val (.int (v0_2 p0 p1 p2 p3 p4)), .val (.int (v0_3 p0 p1 p2 p3 p4)), .val (.int (v0_4 p0 p1 p2 p3 p4)), .val (.int (v0_5 p0 p1 p2 p3 p4))] [])) _
            refine XS.aload X36.here hx rfl (hb hby at_108) rfl rfl ?_
            show Steps p.tables e below (T36.setTop (mkF m 110 #[.val (.int p0), .val (.int p1), .val (.int p2), .val (.int p3), .val (.int p4), .val (.ref b1), .val (.int (v0_2 p0 p1 p2 p3 p4)), .val (.int (v0_3 p0 p1 p2 p3 p4)), .val (.int (v0_4 p0 p1 p2 p3 p4)), .val (.int (v0_5 p0 p1 p2 p3 p4))] [(.ref b1)])) _
            refine XT.iconstV X36.here hx rfl (2 : Int32) (hb hby at_110) (by decide) ?_
            show Steps p.tables e below (T36.setTop (mkF m 111 #[.val (.int p0), .val (.int p1), .val (.int p2), .val (.int p3), .val (.int p4), .val (.ref b1), .val (.int (v0_2 p0 p1 p2 p3 p4)), .val (.int (v0_3 p0 p1 p2 p3 p4)), .val (.int (v0_4 p0 p1 p2 p3 p4)), .val (.int (v0_5 p0 p1 p2 p3 p4))] [(.int (2 : Int32)), (.ref b1)])) _
            refine st39.trans ?_
            show Steps p.tables e below (T39.setTop (mkF m 114 #[.val (.int p0), .val (.int p1), .val (.int p2), .val (.int p3), .val (.int p4), .val (.ref b1), .val (.int (v0_2 p0 p1 p2 p3 p4)), .val (.int (v0_3 p0 p1 p2 p3 p4)), .val (.int (v0_4 p0 p1 p2 p3 p4)), .val (.int (v0_5 p0 p1 p2 p3 p4))] [(.int (fget2 (v4_2 (v0_2 p0 p1 p2 p3 p4) p4 p0 p1 p2 (0 : Int32)) (v4_3 (v0_2 p0 p1 p2 p3 p4) p4 p0 p1 p2 (0 : Int32)) (v4_4 (v0_2 p0 p1 p2 p3 p4) p4 p0 p1 p2 (0 : Int32)) (v4_5 (v0_2 p0 p1 p2 p3 p4) p4 p0 p1 p2 (0 : Int32))))])) _
            refine XS.iload X39.here hx rfl (hb hby at_114) rfl ?_
            exact k
          by_cases c41 : (v0_9 p0 p1 p2 p3 p4) = (v0_5 p0 p1 p2 p3 p4)
          · skip
            refine ⟨T39, _, X39, e39, N39, fun t k => ?_⟩
            rw [show (v0_10 p0 p1 p2 p3 p4) = (1 : Int32) from ((((if_pos c31).trans (if_pos c35)).trans (if_pos c38)).trans (if_pos c41))] at k
            refine pre40 t ?_
            show Steps p.tables e below (T39.setTop (mkF m 116 #[.val (.int p0), .val (.int p1), .val (.int p2), .val (.int p3), .val (.int p4), .val (.ref b1), .val (.int (v0_2 p0 p1 p2 p3 p4)), .val (.int (v0_3 p0 p1 p2 p3 p4)), .val (.int (v0_4 p0 p1 p2 p3 p4)), .val (.int (v0_5 p0 p1 p2 p3 p4))] [(.int (v0_5 p0 p1 p2 p3 p4)), (.int (fget2 (v4_2 (v0_2 p0 p1 p2 p3 p4) p4 p0 p1 p2 (0 : Int32)) (v4_3 (v0_2 p0 p1 p2 p3 p4) p4 p0 p1 p2 (0 : Int32)) (v4_4 (v0_2 p0 p1 p2 p3 p4) p4 p0 p1 p2 (0 : Int32)) (v4_5 (v0_2 p0 p1 p2 p3 p4) p4 p0 p1 p2 (0 : Int32))))])) _
            refine XS.icmpNo X39.here hx rfl (hb hby at_116) rfl (XT.ii_ne_f c41) ?_
            show Steps p.tables e below (T39.setTop (mkF m 119 #[.val (.int p0), .val (.int p1), .val (.int p2), .val (.int p3), .val (.int p4), .val (.ref b1), .val (.int (v0_2 p0 p1 p2 p3 p4)), .val (.int (v0_3 p0 p1 p2 p3 p4)), .val (.int (v0_4 p0 p1 p2 p3 p4)), .val (.int (v0_5 p0 p1 p2 p3 p4))] [])) _
            refine XT.iconstV X39.here hx rfl (1 : Int32) (hb hby at_119) (by decide) ?_
            show Steps p.tables e below (T39.setTop (mkF m 120 #[.val (.int p0), .val (.int p1), .val (.int p2), .val (.int p3), .val (.int p4), .val (.ref b1), .val (.int (v0_2 p0 p1 p2 p3 p4)), .val (.int (v0_3 p0 p1 p2 p3 p4)), .val (.int (v0_4 p0 p1 p2 p3 p4)), .val (.int (v0_5 p0 p1 p2 p3 p4))] [(.int (1 : Int32))])) _
            refine XS.goto X39.here hx rfl (pc0 := 120) (pc' := 124) rfl (hb hby at_120) (by decide) (by decide) ?_
            exact k
          · skip
            refine ⟨T39, _, X39, e39, N39, fun t k => ?_⟩
            rw [show (v0_10 p0 p1 p2 p3 p4) = (0 : Int32) from ((((if_pos c31).trans (if_pos c35)).trans (if_pos c38)).trans (if_neg c41))] at k
            refine pre40 t ?_
            show Steps p.tables e below (T39.setTop (mkF m 116 #[.val (.int p0), .val (.int p1), .val (.int p2), .val (.int p3), .val (.int p4), .val (.ref b1), .val (.int (v0_2 p0 p1 p2 p3 p4)), .val (.int (v0_3 p0 p1 p2 p3 p4)), .val (.int (v0_4 p0 p1 p2 p3 p4)), .val (.int (v0_5 p0 p1 p2 p3 p4))] [(.int (v0_5 p0 p1 p2 p3 p4)), (.int (fget2 (v4_2 (v0_2 p0 p1 p2 p3 p4) p4 p0 p1 p2 (0 : Int32)) (v4_3 (v0_2 p0 p1 p2 p3 p4) p4 p0 p1 p2 (0 : Int32)) (v4_4 (v0_2 p0 p1 p2 p3 p4) p4 p0 p1 p2 (0 : Int32)) (v4_5 (v0_2 p0 p1 p2 p3 p4) p4 p0 p1 p2 (0 : Int32))))])) _
            refine XS.icmpYes X39.here hx rfl (pc0 := 116) (pc' := 123) rfl (hb hby at_116) rfl (XT.ii_ne_t c41) (by decide) (by decide) ?_
            show Steps p.tables e below (T39.setTop (mkF m 123 #[.val (.int p0), .val (.int p1), .val (.int p2), .val (.int p3), .val (.int p4), .val (.ref b1), .val (.int (v0_2 p0 p1 p2 p3 p4)), .val (.int (v0_3 p0 p1 p2 p3 p4)), .val (.int (v0_4 p0 p1 p2 p3 p4)), .val (.int (v0_5 p0 p1 p2 p3 p4))] [])) _
            refine XT.iconstV X39.here hx rfl (0 : Int32) (hb hby at_123) (by decide) ?_
            exact k
        · skip
          refine ⟨T36, _, X36, e36, N36, fun t k => ?_⟩
          rw [show (v0_10 p0 p1 p2 p3 p4) = (0 : Int32) from (((if_pos c31).trans (if_pos c35)).trans (if_neg c38))] at k
          refine pre37 t ?_
          show Steps p.tables e below (T36.setTop (mkF m 105 #[.val (.int p0), .val (.int p1), .val (.int p2), .val (.int p3), .val (.int p4), .val (.ref b1), .val (.int (v0_2 p0 p1 p2 p3 p4)), .val (.int (v0_3 p0 p1 p2 p3 p4)), .val (.int (v0_4 p0 p1 p2 p3 p4)), .val (.int (v0_5 p0 p1 p2 p3 p4))] [(.int (v0_4 p0 p1 p2 p3 p4)), (.int (fget1 (v4_2 (v0_2 p0 p1 p2 p3 p4) p4 p0 p1 p2 (0 : Int32)) (v4_3 (v0_2 p0 p1 p2 p3 p4) p4 p0 p1 p2 (0 : Int32)) (v4_4 (v0_2 p0 p1 p2 p3 p4) p4 p0 p1 p2 (0 : Int32)) (v4_5 (v0_2 p0 p1 p2 p3 p4) p4 p0 p1 p2 (0 : Int32))))])) _
          refine XS.icmpYes X36.here hx rfl (pc0 := 105) (pc' := 123) rfl (hb hby at_105) rfl (XT.ii_ne_t c38) (by decide) (by decide) ?_
          show Steps p.tables e below (T36.setTop (mkF m 123 #[.val (.int p0), .val (.int p1), .val (.int p2), .val (.int p3), .val (.int p4), .val (.ref b1), .val (.int (v0_2 p0 p1 p2 p3 p4)), .val (.int (v0_3 p0 p1 p2 p3 p4)), .val (.int (v0_4 p0 p1 p2 p3 p4)), .val (.int (v0_5 p0 p1 p2 p3 p4))] [])) _
          refine XT.iconstV X36.here hx rfl (0 : Int32) (hb hby at_123) (by decide) ?_
          exact k
      · skip
        refine ⟨T32, _, X32, e32, N32, fun t k => ?_⟩
        rw [show (v0_10 p0 p1 p2 p3 p4) = (0 : Int32) from ((if_pos c31).trans (if_neg c35))] at k
        refine pre34 t ?_
        show Steps p.tables e below (T32.setTop (mkF m 94 #[.val (.int p0), .val (.int p1), .val (.int p2), .val (.int p3), .val (.int p4), .val (.ref b1), .val (.int (v0_2 p0 p1 p2 p3 p4)), .val (.int (v0_3 p0 p1 p2 p3 p4)), .val (.int (v0_4 p0 p1 p2 p3 p4)), .val (.int (v0_5 p0 p1 p2 p3 p4))] [(.int (v0_3 p0 p1 p2 p3 p4)), (.int (fget0 (v4_2 (v0_2 p0 p1 p2 p3 p4) p4 p0 p1 p2 (0 : Int32)) (v4_3 (v0_2 p0 p1 p2 p3 p4) p4 p0 p1 p2 (0 : Int32)) (v4_4 (v0_2 p0 p1 p2 p3 p4) p4 p0 p1 p2 (0 : Int32)) (v4_5 (v0_2 p0 p1 p2 p3 p4) p4 p0 p1 p2 (0 : Int32))))])) _
        refine XS.icmpYes X32.here hx rfl (pc0 := 94) (pc' := 123) rfl (hb hby at_94) rfl (XT.ii_ne_t c35) (by decide) (by decide) ?_
        show Steps p.tables e below (T32.setTop (mkF m 123 #[.val (.int p0), .val (.int p1), .val (.int p2), .val (.int p3), .val (.int p4), .val (.ref b1), .val (.int (v0_2 p0 p1 p2 p3 p4)), .val (.int (v0_3 p0 p1 p2 p3 p4)), .val (.int (v0_4 p0 p1 p2 p3 p4)), .val (.int (v0_5 p0 p1 p2 p3 p4))] [])) _
        refine XT.iconstV X32.here hx rfl (0 : Int32) (hb hby at_123) (by decide) ?_
        exact k
    · skip
      refine ⟨T27, _, X27, e27, N27, fun t k => ?_⟩
      rw [show (v0_10 p0 p1 p2 p3 p4) = (0 : Int32) from (if_neg c31)] at k
      refine pre30 t ?_
      show Steps p.tables e below (T27.setTop (mkF m 83 #[.val (.int p0), .val (.int p1), .val (.int p2), .val (.int p3), .val (.int p4), .val (.ref b1), .val (.int (v0_2 p0 p1 p2 p3 p4)), .val (.int (v0_3 p0 p1 p2 p3 p4)), .val (.int (v0_4 p0 p1 p2 p3 p4)), .val (.int (v0_5 p0 p1 p2 p3 p4))] [(.int (3 : Int32)), (.int (f6 (3 : Int32)))])) _
      refine XS.icmpYes X27.here hx rfl (pc0 := 83) (pc' := 123) rfl (hb hby at_83) rfl (XT.ii_ne_t c31) (by decide) (by decide) ?_
      show Steps p.tables e below (T27.setTop (mkF m 123 #[.val (.int p0), .val (.int p1), .val (.int p2), .val (.int p3), .val (.int p4), .val (.ref b1), .val (.int (v0_2 p0 p1 p2 p3 p4)), .val (.int (v0_3 p0 p1 p2 p3 p4)), .val (.int (v0_4 p0 p1 p2 p3 p4)), .val (.int (v0_5 p0 p1 p2 p3 p4))] [])) _
      refine XT.iconstV X27.here hx rfl (0 : Int32) (hb hby at_123) (by decide) ?_
      exact k
  have hv43 : (v0_10 p0 p1 p2 p3 p4) = (1 : Int32) := own_law p0 p1 p2 p3 p4
  obtain ⟨fs, hr, hrun, hended, hW, hsame⟩ := X42.leave (v := some (.int (1 : Int32))) (fun h => by rw [Bd.returns] at h; cases h)
  refine ⟨_, _, pre42 _ ?_, hrun, hended, _, _, rfl, ?_, ⟨_, rfl⟩, hW, hsame.mono (by decide) (by decide)⟩
  · skip
    show Steps p.tables e below (T42.setTop (mkF m 124 #[.val (.int p0), .val (.int p1), .val (.int p2), .val (.int p3), .val (.int p4), .val (.ref b1), .val (.int (v0_2 p0 p1 p2 p3 p4)), .val (.int (v0_3 p0 p1 p2 p3 p4)), .val (.int (v0_4 p0 p1 p2 p3 p4)), .val (.int (v0_5 p0 p1 p2 p3 p4))] [(.int (v0_10 p0 p1 p2 p3 p4))])) _
    rw [hv43]
    exact retN X42 hx (t := .boolean) Bd.returns (by simp) (hb hby at_124) hr
  · skip
    show Q0 Z p0 p1 p2 p3 p4 h0 n0 _ T42.heap _
    rw [e42]
    exact ⟨rfl, N42⟩
set_option maxRecDepth 65536 in
set_option maxHeartbeats 40000000 in
theorem comes_1 {Post : Tables → Env → Array Value → State → Outcome → State → Prop} (hpost : ∀ tb e args s v u, (limb_1_1.after args s (.returned v) u = true ∧ limb_1_2.after args s (.returned v) u = true ∧ True) → FrameEnd s (.returned v) u (Jvm.fieldLocs frame_1_writes args s ++ Jvm.arrayLocs frame_1_arrays args s ++ Jvm.staticLocs frame_1_statics s) 16 128 → Post tb e args s (.returned v) u) :
    ArmFor flags0 classFile x code maxLocals ret World_1 tables_1 room_1 Calls_1 rest_1 Pre_1 Post := by
  intro l hfl _ _ p e ha hc hk s m args below hf hA hF happ hP
  obtain ⟨hcalls, hrest, hpre⟩ := hP
  obtain ⟨-, -, -, hnamed, -, -, -, hat⟩ := (Spec.applies_iff hf).mp happ
  obtain ⟨hg, hn⟩ := and_e (Cond.before_iff.mp (show (Jvm.Cond.and given_1 narrow_1).before args s = true from hpre))
  obtain ⟨hcount, r0⟩ := and_e hg
  obtain ⟨ha0, r1⟩ := and_e r0
  obtain ⟨ha1, r2⟩ := and_e r1
  obtain ⟨ha2, r3⟩ := and_e r2
  obtain ⟨ha3, r4⟩ := and_e r3
  obtain ⟨w0, w1, w2, w3, w4, rfl⟩ : ∃ w0 w1 w2 w3 w4 : Value, args = #[w0, w1, w2, w3, w4] := by
    have hs : args.size = 5 := by simpa [Cond.value, given_1] using hcount
    obtain ⟨L⟩ := args
    match L, hs with
    | [w0, w1, w2, w3, w4], _ => exact ⟨w0, w1, w2, w3, w4, rfl⟩
  have hw := fun d (hd : d ∈ tables_1) => atoms_spec (ws := Jvm.Cond.code x code maxLocals ret :: tables_1) hat d (List.mem_cons_of_mem _ hd)
  have hfit : Fit s := fun {y c} hc i hi => by
    obtain ⟨ha, rfl⟩ := Array.getElem?_eq_some_iff.mp hc
    have q := List.all_eq_true.mp ((Array.all_eq_true_iff_forall_mem.mp hF) _ (Array.getElem_mem ha)) i (List.mem_range.mpr hi)
    simpa [Array.getElem?_eq_getElem hi] using q
  obtain ⟨i0, ei0⟩ := is_v ha0
  obtain rfl : w0 = (.int i0) := Option.some.inj ei0
  obtain ⟨i1, ei1⟩ := is_v ha1
  obtain rfl : w1 = (.int i1) := Option.some.inj ei1
  obtain ⟨i2, ei2⟩ := is_v ha2
  obtain rfl : w2 = (.int i2) := Option.some.inj ei2
  obtain ⟨i3, ei3⟩ := is_v ha3
  obtain rfl : w3 = (.int i3) := Option.some.inj ei3
  obtain ⟨i4, ei4⟩ := is_v r4
  obtain rfl : w4 = (.int i4) := Option.some.inj ei4
  obtain ⟨n, o, h1, h2, h3, _, L, rfl, ⟨rfl, N⟩, hq⟩ := rm0 l s _ hw tables_1 i0 i1 i2 i3 i4 s.heap s.heap.size (Nat.le_refl _) p e ha hc hk s m _ below hf ((Spec.applies_iff_loose hf).mp happ).1 ⟨rfl, State.Warmed39.refl s, rfl⟩ trivial
  refine ⟨n, _, h1, h2, h3, hpost _ _ _ _ _ _ ⟨Cond.after_iff.mpr rfl, Cond.after_iff.mpr (eq_i res_at (Term.int_eval (1)) rfl), trivial⟩ ⟨hq.1, hq.2.1, (hq.2.2.sift fun y hy => Or.inr (N y hy)).mono (by decide) (by decide)⟩⟩
theorem main_1_1 : Claimed_1_1 := comes_1 fun _ _ _ _ _ _ h hF => ⟨h.1, hF⟩
theorem main_1_2 : Claimed_1_2 := comes_1 fun _ _ _ _ _ _ h hF => ⟨h.2.1, hF⟩
end Jvm.Pilot.@@N@@
namespace Jvm.Pilot.@@N@@
open Jvm Jvm.ClassFile Sem Op Lib Jvm.Free Jvm.Stand Jvm.Pilot.@@N@@.Jvm.D
/-! MADE BY PROGRAM (witnessworld.py) out of the Statement's table words and the real class files: 9 classes; the members and pool entries that the words name. The judged class is class 1, her method 2. -/
namespace start1
open Jvm.ClassFile
def u (s : String) : CpInfo := .utf8 (stringToUtf16 s)
/-- a pool by its gaps: so many unusable entries, then the entry; so many at the end -/
def gap : Nat → List CpInfo → List CpInfo
  | 0, r => r
  | n + 1, r => .unusable :: gap n r
def poolList (es : List (Nat × CpInfo)) (last : Nat) : List CpInfo := es.foldr (fun e r => gap e.1 (e.2 :: r)) (gap last [])
def pool (es : List (Nat × CpInfo)) (last : Nat) : Array CpInfo := ⟨poolList es last⟩
def fileOf (pool : Array CpInfo) (this : Nat) (attrs : Array Attribute := #[]) (ms : Array MethodInfo := #[]) (fl : Nat := 33) (sup : Nat := 0) (ifs : Array Nat := #[]) (fds : Array FieldInfo := #[]) : ClassFile where
  minorVersion := 0
  majorVersion := 65
  constantPool := pool
  accessFlags := fl
  thisClass := this
  superClass := sup
  interfaces := ifs
  fields := fds
  methods := ms
  attributes := attrs
def plain (name : String) (sup : Option ClassId) : Class where
  name := name
  kind := .ordinary
  loader := none
  accessFlags := 33
  super := sup
  interfaces := #[]
  cf := none
  fields := #[]
  methods := #[]
  instanceTypes := #[]
  staticTypes := #[]
  resolved := #[]
  callSites := []
  init := .initialized
  statics := none
  mirror := none

def pool0 : Array CpInfo := pool [(5, u "<init>"), (0, u "()V"), (1, .class_ 10), (1, u "java/lang/Object")] 113

def k0c0 : Code := { maxStack := 0, maxLocals := 1, code := object_method_1_code, exceptionTable := #[], attributes := #[] }
def k0m0 : Method := { name := "<init>", desc := "()V", sig := { parameters := [], returnType := none }, accessFlags := 1, code := some k0c0 }
/-- java/lang/Object -/
def k0 : Class := { plain "java/lang/Object" none with
  accessFlags := 33
  interfaces := #[]
  cf := some (fileOf pool0 8 #[] #[{ accessFlags := 1, nameIndex := 5, descriptorIndex := 6, attributes := #[] }] 33 0 #[] #[])
  fields := #[]
  methods := #[k0m0]
  instanceTypes := #[]
  staticTypes := #[]
  resolved := Array.replicate 124 none
  statics := none }

def pool1 : Array CpInfo := pool [(2, .class_ 4), (0, .nameAndType 5 6), (0, u "java/lang/Object"), (0, u "<init>"), (0, u "()V"), (0, .class_ 8), (0, u "com/example/vellum_index/vellumindex/IntList"), (0, .methodref 7 3), (0, .methodref 7 11), (0, .nameAndType 12 13), (0, u "add"), (0, u "(I)V"), (0, .integer 2147483647), (0, .methodref 7 16), (0, .nameAndType 17 18), (0, u "increment"), (0, u "(II)V"), (0, .methodref 20 21), (0, .class_ 22), (0, .nameAndType 23 24), (0, u "com/example/vellum_index/vellumindex/IntListIncrementPinLaw"), (0, u "expected"), (0, u "(IIII)I"), (0, .methodref 7 26), (0, .nameAndType 27 28), (0, u "size"), (0, u "()I"), (0, .methodref 7 30), (0, .nameAndType 31 32), (0, u "get"), (0, u "(I)I"), (3, u "law"), (0, u "(IIIII)Z")] 2

def k1m0 : Method := { name := "<init>", desc := "()V", sig := { parameters := [], returnType := none }, accessFlags := 1, code := none }
def k1c1 : Code := { maxStack := 2, maxLocals := 4, code := method_2_code, exceptionTable := #[], attributes := #[] }
def k1m1 : Method := { name := "expected", desc := "(IIII)I", sig := { parameters := [.int, .int, .int, .int], returnType := some .int }, accessFlags := 10, code := some k1c1 }
def k1c2 : Code := { maxStack := 4, maxLocals := 10, code := code, exceptionTable := #[], attributes := #[] }
def k1m2 : Method := { name := "law", desc := "(IIIII)Z", sig := { parameters := [.int, .int, .int, .int, .int], returnType := some .boolean }, accessFlags := 9, code := some k1c2 }
/-- com/example/vellum_index/vellumindex/IntListIncrementPinLaw -/
def k1 : Class := { plain "com/example/vellum_index/vellumindex/IntListIncrementPinLaw" (some 0) with
  accessFlags := 49
  interfaces := #[]
  cf := some (fileOf pool1 20 #[] #[{ accessFlags := 1, nameIndex := 5, descriptorIndex := 6, attributes := #[] }, { accessFlags := 10, nameIndex := 23, descriptorIndex := 24, attributes := #[] }, { accessFlags := 9, nameIndex := 36, descriptorIndex := 37, attributes := #[] }] 49 2 #[] #[])
  fields := #[]
  methods := #[k1m0, k1m1, k1m2]
  instanceTypes := #[]
  staticTypes := #[]
  resolved := Array.replicate 40 none
  statics := none }

def pool2 : Array CpInfo := pool [(1, .methodref 2 3), (0, .class_ 4), (0, .nameAndType 5 6), (0, u "java/lang/Object"), (0, u "<init>"), (0, u "()V"), (0, .fieldref 8 9), (0, .class_ 10), (0, .nameAndType 11 12), (0, u "com/example/vellum_index/vellumindex/IntList"), (0, u "values"), (0, u "[I"), (0, .fieldref 8 14), (0, .nameAndType 15 16), (0, u "size"), (0, u "I"), (10, u "(I)V"), (2, u "add"), (1, u "get"), (0, u "(I)I"), (0, u "increment"), (0, u "(II)V"), (0, u "()I")] 5

def k2c0 : Code := { maxStack := 2, maxLocals := 1, code := prog_8_method_1_code, exceptionTable := #[], attributes := #[] }
def k2m0 : Method := { name := "<init>", desc := "()V", sig := { parameters := [], returnType := none }, accessFlags := 0, code := some k2c0 }
def k2c1 : Code := { maxStack := 5, maxLocals := 2, code := prog_8_method_2_code, exceptionTable := #[], attributes := #[] }
def k2m1 : Method := { name := "add", desc := "(I)V", sig := { parameters := [.int], returnType := none }, accessFlags := 0, code := some k2c1 }
def k2c2 : Code := { maxStack := 3, maxLocals := 2, code := prog_8_method_3_code, exceptionTable := #[], attributes := #[] }
def k2m2 : Method := { name := "get", desc := "(I)I", sig := { parameters := [.int], returnType := some .int }, accessFlags := 0, code := some k2c2 }
def k2c3 : Code := { maxStack := 4, maxLocals := 3, code := prog_8_method_4_code, exceptionTable := #[], attributes := #[] }
def k2m3 : Method := { name := "increment", desc := "(II)V", sig := { parameters := [.int, .int], returnType := none }, accessFlags := 0, code := some k2c3 }
def k2c4 : Code := { maxStack := 1, maxLocals := 1, code := prog_8_method_5_code, exceptionTable := #[], attributes := #[] }
def k2m4 : Method := { name := "size", desc := "()I", sig := { parameters := [], returnType := some .int }, accessFlags := 0, code := some k2c4 }
/-- com/example/vellum_index/vellumindex/IntList -/
def k2 : Class := { plain "com/example/vellum_index/vellumindex/IntList" (some 0) with
  accessFlags := 48
  interfaces := #[]
  cf := some (fileOf pool2 8 #[] #[{ accessFlags := 0, nameIndex := 5, descriptorIndex := 6, attributes := #[] }, { accessFlags := 0, nameIndex := 30, descriptorIndex := 27, attributes := #[] }, { accessFlags := 0, nameIndex := 32, descriptorIndex := 33, attributes := #[] }, { accessFlags := 0, nameIndex := 34, descriptorIndex := 35, attributes := #[] }, { accessFlags := 0, nameIndex := 15, descriptorIndex := 36, attributes := #[] }] 48 2 #[] #[{ accessFlags := 2, nameIndex := 11, descriptorIndex := 12, attributes := #[] }, { accessFlags := 2, nameIndex := 15, descriptorIndex := 16, attributes := #[] }])
  fields := #[{ name := "values", type := (.array .int), accessFlags := 2, slot := 0, constantValue := 0 }, { name := "size", type := .int, accessFlags := 2, slot := 1, constantValue := 0 }]
  methods := #[k2m0, k2m1, k2m2, k2m3, k2m4]
  instanceTypes := #[(.array .int), .int]
  staticTypes := #[]
  resolved := Array.replicate 42 none
  statics := none }

def pool3 : Array CpInfo := pool [(1, u "java/lang/Cloneable"), (0, .class_ 1), (0, u "java/lang/Object"), (0, .class_ 3)] 3

/-- java/lang/Cloneable -/
def k3 : Class := { plain "java/lang/Cloneable" (some 0) with
  accessFlags := 1537
  interfaces := #[]
  cf := some (fileOf pool3 2 #[] #[] 1537 4 #[] #[])
  fields := #[]
  methods := #[]
  instanceTypes := #[]
  staticTypes := #[]
  resolved := Array.replicate 8 none
  statics := none }

def pool4 : Array CpInfo := pool [(1, u "java/io/Serializable"), (0, .class_ 1), (0, u "java/lang/Object"), (0, .class_ 3)] 3

/-- java/io/Serializable -/
def k4 : Class := { plain "java/io/Serializable" (some 0) with
  accessFlags := 1537
  interfaces := #[]
  cf := some (fileOf pool4 2 #[] #[] 1537 4 #[] #[])
  fields := #[]
  methods := #[]
  instanceTypes := #[]
  staticTypes := #[]
  resolved := Array.replicate 8 none
  statics := none }

/-- the primitive byte -/
def k5 : Class := { plain "byte" none with kind := .primitive 'B', accessFlags := 0x411 }
/-- [B -/
def k6 : Class := { plain "[B" (some 0) with kind := .array 5 .byte, interfaces := #[3, 4], accessFlags := 1041 }

/-- the primitive int -/
def k7 : Class := { plain "int" none with kind := .primitive 'I', accessFlags := 0x411 }
/-- [I -/
def k8 : Class := { plain "[I" (some 0) with kind := .array 7 .int, interfaces := #[3, 4], accessFlags := 1041 }

def heap : Heap := #[]
def classes : Array Class := #[k0, k1, k2, k3, k4, k5, k6, k7, k8]
def interned : List (Array UInt16 × Addr) := []
def slotsUsed : Nat := 0
def theMethod : MethodId := ⟨1, 2⟩
def args0 : Array Value := #[.int 5, .int 7, .int 9, .int 11, .int 1]
def aboutOver (below : List Frame) : State where
  vm := { classes := classes, interned := interned.toArray }
  heap := heap
  slotsUsed := slotsUsed
  threads := #[{ frames := .invoking theMethod args0 :: below }]
def below0 : List Frame := [.native { method := ⟨0, 0⟩, args := #[] }]
def about1 : State := aboutOver below0
def p0 : Program := .bare "" "" ""
def e0 : Env := launch0.env 0 0 0
theorem w_frames : about1.frames = Frame.invoking theMethod args0 :: below0 := rfl
set_option maxRecDepth 65536 in
theorem w_args : argsFit about1.vm theMethod args0 = true := by decide +kernel
set_option maxRecDepth 65536 in
theorem w_heap : heapFits about1 = true := by decide +kernel
set_option maxRecDepth 65536 in
theorem w_runnable : about1.curStatus? = some .runnable := by decide +kernel
set_option maxRecDepth 65536 in
theorem w_alone : about1.alone = true := by decide +kernel
set_option maxRecDepth 65536 in
theorem w_named : about1.methodNamed? x = some theMethod := by decide +kernel
set_option maxRecDepth 65536 in
theorem w_hears : about1.hears theMethod below0 = true := by decide +kernel
set_option maxRecDepth 65536 in
theorem w_ripe : about1.ripe theMethod args0 below0 = true := by decide +kernel
theorem w_running : about1.status = .running := rfl
set_option maxRecDepth 65536 in
theorem w_room : about1.hasRoom e0.platform room_1 = true :=
  launch0.hasRoom_least _ room_1 (by decide +kernel) (by decide +kernel) (by decide +kernel) (by decide +kernel) (by decide +kernel) (by decide +kernel)
theorem allAtoms_all (ts : List Jvm.Cond) (a : Array Jvm.Value) (st : Jvm.State) : (allAtoms ts).before a st = ts.all (fun c => c.before a st) := by
  induction ts with
  | nil => rfl
  | cons c t ih =>
    show (Jvm.Cond.and c (allAtoms t)).before a st = _
    rw [Jvm.Cond.before_and, ih, List.all_cons]
def words1 : List Jvm.Cond := Jvm.Cond.code x code maxLocals ret :: tables_1
/-- a 'code' word, met by the world's own term for the bytes: nothing is compared byte by byte -/
theorem code_word {y : MethodName} {bytes : ByteArray} {mx : Nat} {rt : Option FieldType} {a : Array Value} {s : State} {m : MethodId} {meth : Method} {c : Code} (h1 : s.methodNamed? y = some m) (h2 : s.vm.method? m = some meth) (h3 : meth.code = some c) (h4 : c.code = bytes)
    (h5 : (c.maxLocals == mx && c.exceptionTable.isEmpty && decide (c.maxStack ≤ mostOperands) && decide (meth.sig.returnType = rt) && !meth.locks && decide (parseMethodDescriptor y.desc = some meth.sig)) = true) : (Jvm.Cond.code y bytes mx rt).before a s = true := by
  simp only [Bool.and_eq_true, beq_iff_eq, Bool.not_eq_true', decide_eq_true_eq] at h5
  obtain ⟨⟨⟨⟨⟨g1, g2⟩, g3⟩, g4⟩, g5⟩, g6⟩ := h5
  simp [Cond.before, Cond.holds, Cond.value, h1, h2, h3, h4, g1, g2, g3, g4, g5, g6]
def isCode : Jvm.Cond → Bool
  | .code _ _ _ _ => true
  | _ => false
theorem all_split {L : List Jvm.Cond} {P : Jvm.Cond → Bool} (h1 : L.all (fun c => isCode c || P c) = true) (h2 : ∀ c ∈ L.filter isCode, P c = true) : L.all P = true := by
  refine List.all_eq_true.mpr fun c hc => ?_
  have h := List.all_eq_true.mp h1 c hc
  rcases Bool.eq_false_or_eq_true (isCode c) with hi | hi
  · exact h2 c (List.mem_filter.mpr ⟨hc, hi⟩)
  · simpa [hi] using h
set_option maxRecDepth 65536 in
theorem w_c0 : (Jvm.Cond.code x code maxLocals ret).before args0 about1 = true := code_word (m := ⟨1, 2⟩) (meth := k1m2) (c := k1c2) (by decide +kernel) rfl rfl rfl (by decide +kernel)
set_option maxRecDepth 65536 in
theorem w_c1 : (Jvm.Cond.code ({ cls := "com/example/vellum_index/vellumindex/IntList", name := "<init>", desc := "()V" } : Jvm.MethodName) prog_8_method_1_code (1 : Nat) (Option.none : Option Jvm.ClassFile.FieldType)).before args0 about1 = true := code_word (m := ⟨2, 0⟩) (meth := k2m0) (c := k2c0) (by decide +kernel) rfl rfl rfl (by decide +kernel)
set_option maxRecDepth 65536 in
theorem w_c2 : (Jvm.Cond.code ({ cls := "java/lang/Object", name := "<init>", desc := "()V" } : Jvm.MethodName) object_method_1_code (1 : Nat) (Option.none : Option Jvm.ClassFile.FieldType)).before args0 about1 = true := code_word (m := ⟨0, 0⟩) (meth := k0m0) (c := k0c0) (by decide +kernel) rfl rfl rfl (by decide +kernel)
set_option maxRecDepth 65536 in
theorem w_c3 : (Jvm.Cond.code ({ cls := "com/example/vellum_index/vellumindex/IntList", name := "add", desc := "(I)V" } : Jvm.MethodName) prog_8_method_2_code (2 : Nat) (Option.none : Option Jvm.ClassFile.FieldType)).before args0 about1 = true := code_word (m := ⟨2, 1⟩) (meth := k2m1) (c := k2c1) (by decide +kernel) rfl rfl rfl (by decide +kernel)
set_option maxRecDepth 65536 in
theorem w_c4 : (Jvm.Cond.code ({ cls := "com/example/vellum_index/vellumindex/IntList", name := "increment", desc := "(II)V" } : Jvm.MethodName) prog_8_method_4_code (3 : Nat) (Option.none : Option Jvm.ClassFile.FieldType)).before args0 about1 = true := code_word (m := ⟨2, 3⟩) (meth := k2m3) (c := k2c3) (by decide +kernel) rfl rfl rfl (by decide +kernel)
set_option maxRecDepth 65536 in
theorem w_c5 : (Jvm.Cond.code ({ cls := "com/example/vellum_index/vellumindex/IntListIncrementPinLaw", name := "expected", desc := "(IIII)I" } : Jvm.MethodName) method_2_code (4 : Nat) (Option.some Jvm.ClassFile.FieldType.int)).before args0 about1 = true := code_word (m := ⟨1, 1⟩) (meth := k1m1) (c := k1c1) (by decide +kernel) rfl rfl rfl (by decide +kernel)
set_option maxRecDepth 65536 in
theorem w_c6 : (Jvm.Cond.code ({ cls := "com/example/vellum_index/vellumindex/IntList", name := "size", desc := "()I" } : Jvm.MethodName) prog_8_method_5_code (1 : Nat) (Option.some Jvm.ClassFile.FieldType.int)).before args0 about1 = true := code_word (m := ⟨2, 4⟩) (meth := k2m4) (c := k2c4) (by decide +kernel) rfl rfl rfl (by decide +kernel)
set_option maxRecDepth 65536 in
theorem w_c7 : (Jvm.Cond.code ({ cls := "com/example/vellum_index/vellumindex/IntList", name := "get", desc := "(I)I" } : Jvm.MethodName) prog_8_method_3_code (2 : Nat) (Option.some Jvm.ClassFile.FieldType.int)).before args0 about1 = true := code_word (m := ⟨2, 2⟩) (meth := k2m2) (c := k2c2) (by decide +kernel) rfl rfl rfl (by decide +kernel)
def codes1 : List Jvm.Cond := [Jvm.Cond.code x code maxLocals ret, Jvm.Cond.code ({ cls := "com/example/vellum_index/vellumindex/IntList", name := "<init>", desc := "()V" } : Jvm.MethodName) prog_8_method_1_code (1 : Nat) (Option.none : Option Jvm.ClassFile.FieldType), Jvm.Cond.code ({ cls := "java/lang/Object", name := "<init>", desc := "()V" } : Jvm.MethodName) object_method_1_code (1 : Nat) (Option.none : Option Jvm.ClassFile.FieldType), Jvm.Cond.code ({ cls := "com/example/vellum_index/vellumindex/IntList", name := "add", desc := "(I)V" } : Jvm.MethodName) prog_8_method_2_code (2 : Nat) (Option.none : Option Jvm.ClassFile.FieldType), Jvm.Cond.code ({ cls := "com/example/vellum_index/vellumindex/IntList", name := "increment", desc := "(II)V" } : Jvm.MethodName) prog_8_method_4_code (3 : Nat) (Option.none : Option Jvm.ClassFile.FieldType), Jvm.Cond.code ({ cls := "com/example/vellum_index/vellumindex/IntListIncrementPinLaw", name := "expected", desc := "(IIII)I" } : Jvm.MethodName) method_2_code (4 : Nat) (Option.some Jvm.ClassFile.FieldType.int), Jvm.Cond.code ({ cls := "com/example/vellum_index/vellumindex/IntList", name := "size", desc := "()I" } : Jvm.MethodName) prog_8_method_5_code (1 : Nat) (Option.some Jvm.ClassFile.FieldType.int), Jvm.Cond.code ({ cls := "com/example/vellum_index/vellumindex/IntList", name := "get", desc := "(I)I" } : Jvm.MethodName) prog_8_method_3_code (2 : Nat) (Option.some Jvm.ClassFile.FieldType.int)]
set_option maxRecDepth 65536 in
theorem codes_eq : words1.filter isCode = codes1 := rfl
theorem w_codes : ∀ c ∈ words1.filter isCode, c.before args0 about1 = true := by
  rw [codes_eq]
  intro c hc
  simp only [codes1, List.mem_cons, List.not_mem_nil, or_false] at hc
  rcases hc with rfl | rfl | rfl | rfl | rfl | rfl | rfl | rfl
  · exact w_c0
  · exact w_c1
  · exact w_c2
  · exact w_c3
  · exact w_c4
  · exact w_c5
  · exact w_c6
  · exact w_c7
set_option maxRecDepth 65536 in
theorem w_t1 : (words1.take 24).all (fun c => isCode c || c.before args0 about1) = true := by decide +kernel
set_option maxRecDepth 65536 in
theorem w_t2 : (words1.drop 24).all (fun c => isCode c || c.before args0 about1) = true := by decide +kernel
theorem w_tables : (allAtoms (Jvm.Cond.code x code maxLocals ret :: tables_1)).before args0 about1 = true := by
  rw [allAtoms_all]
  show words1.all (fun c => c.before args0 about1) = true
  refine all_split ?_ w_codes
  rw [← List.take_append_drop 24 words1, List.all_append, w_t1, w_t2]
  rfl
set_option maxRecDepth 65536 in
theorem w_case : (Jvm.Cond.and given_1 narrow_1).before args0 about1 = true := by decide +kernel
theorem w_applies : (headSpec (Jvm.Cond.code x code maxLocals ret :: tables_1) room_1).applies x e0.platform about1 = true :=
  (Spec.applies_iff w_frames).mpr ⟨w_running, w_runnable, w_alone, w_named, w_hears, w_ripe, w_room, w_tables⟩
theorem atStart : AtStart classFile x code maxLocals ret World_1 tables_1 room_1 Calls_1 rest_1 Pre_1 launch0 p0 e0 about1 theMethod args0 below0 :=
  ⟨lists_1, trivial, launch0.admits_env _ _ _, launch0.least_env, fairChoices_fair.cas, fairChoices_fair.clock, w_frames, w_args, w_heap, w_applies, trivial, trivial, w_case⟩
end start1
theorem witness_1 : WitnessClaimed_1 := ⟨start1.p0, start1.e0, start1.about1, start1.theMethod, start1.args0, start1.below0, start1.atStart⟩
end Jvm.Pilot.@@N@@
