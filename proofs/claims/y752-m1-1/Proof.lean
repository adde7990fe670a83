import JvmDerived
import JvmDerived.Pilot.@@N@@Statement
import JvmDerived.Pilot.@@N@@Code
set_option linter.unusedVariables false
set_option linter.unusedSimpArgs false
@@BLOCK:NumsL.lean.txt@@
namespace Jvm.RoadKit
open Sem ClassFile Op Lib Jvm.Stand Jvm.Free Jvm.LawKit
section New
variable {p : Program} {l : Launch} {e : Env} {R : Room} {s : State} {m : MethodId} {args : Array Value} {below : List Frame} {meth : Method} {c : Code} {T : State} {locs : List Loc} {cells slots : Nat}
theorem retI (X : Stand p l e R s m args below meth c T locs cells slots) (hx : p.tables.exec = Jvm.exec) {pc : Nat} {Ls : Array Slot} {z : Int32} {rest : List Value} (hret : meth.sig.returnType = some .int) (hd : decode c.code pc = .ok (.ireturn, 1)) {fs : List Frame}
    (hl : ∀ (f : JFrame) (acts : List Action), f.method = m → f.locked = none → f.entered = [] → (doReturn e (T.setTop f) acts (some (.int z))).1 = T.setFrames fs) : Steps p.tables e below (T.setTop (mkF m pc Ls (.int z :: rest))) (T.setFrames fs) := by
  have hm' : T.vm.method? m = some meth := X.method'
  have hn : narrow .int (.int z) = .int z := rfl
  show Steps p.tables e below (T.setTop { method := m, pc := pc, locals := Ls, stack := _ :: rest, locked := none }) _
  jvm_step X.here [X.here.top, hx, hd, hm', hret, hn]
  first | (intro acts; rw [hl _ acts rfl rfl rfl]) | rw [hl _ _ rfl rfl rfl]
  exact Steps.refl _
theorem own_stand {L1 L2 : List Loc} {c1 c2 n1 n2 : Nat} (X : Stand p l e R s m args below meth c T L1 c1 n1) (h1 : L1 = L2) (h2 : c1 = c2) (h3 : n1 = n2) : Stand p l e R s m args below meth c T L2 c2 n2 := by
  subst h1 h2 h3
  exact X
end New
end Jvm.RoadKit
namespace Jvm.Pilot.@@N@@
open Jvm Jvm.ClassFile Sem Op Lib Jvm.Free Jvm.Stand Jvm.LawKit Jvm.RoadKit Bundle Jvm.Pilot.@@N@@.Jvm.D
theorem own_rem32 (x y : Int32) : (x - (x / y) * y).toInt = x.toInt.tmod y.toInt := by
  rw [Int32.toInt_sub, Int32.toInt_mul, Int32.toInt_div]
  simp only [Int.bmod_mul_bmod, Int.sub_bmod_bmod]
  rw [Int.tmod_def, Int.mul_comm y.toInt]
  have h := Int32.toInt_mod x y
  have h1 := (x % y).toInt_lt
  have h2 := (x % y).le_toInt
  rw [h, Int.tmod_def, Int.mul_comm y.toInt] at h1 h2
  exact Int.bmod_eq_of_le (by omega) (by omega)
/-own-/
def own_pick (k a0 a1 a2 a3 a4 a5 a6 a7 a8 : Int32) : Int32 := if k = 0 then a0 else if k = 1 then a1 else if k = 2 then a2 else if k = 3 then a3 else if k = 4 then a4 else if k = 5 then a5 else if k = 6 then a6 else if k = 7 then a7 else a8
def own_put (k j v a : Int32) : Int32 := if k = j then v else a
theorem own_nine {k : Int32} (h0 : ¬ (k < (0 : Int32))) (h9 : k < (9 : Int32)) : k = 0 ∨ k = 1 ∨ k = 2 ∨ k = 3 ∨ k = 4 ∨ k = 5 ∨ k = 6 ∨ k = 7 ∨ k = 8 := by
  have c0 : (0 : Int32).toInt = 0 := by decide
  have c9 : (9 : Int32).toInt = 9 := by decide
  rw [Int32.lt_iff_toInt_lt, c0] at h0
  rw [Int32.lt_iff_toInt_lt, c9] at h9
  have k0 : k.toInt = 0 ∨ k.toInt = 1 ∨ k.toInt = 2 ∨ k.toInt = 3 ∨ k.toInt = 4 ∨ k.toInt = 5 ∨ k.toInt = 6 ∨ k.toInt = 7 ∨ k.toInt = 8 := by omega
  rcases k0 with q | q | q | q | q | q | q | q | q
  · exact Or.inl (Int32.toInt_inj.mp (by rw [q]; decide))
  · exact Or.inr (Or.inl (Int32.toInt_inj.mp (by rw [q]; decide)))
  · exact Or.inr (Or.inr (Or.inl (Int32.toInt_inj.mp (by rw [q]; decide))))
  · exact Or.inr (Or.inr (Or.inr (Or.inl (Int32.toInt_inj.mp (by rw [q]; decide)))))
  · exact Or.inr (Or.inr (Or.inr (Or.inr (Or.inl (Int32.toInt_inj.mp (by rw [q]; decide))))))
  · exact Or.inr (Or.inr (Or.inr (Or.inr (Or.inr (Or.inl (Int32.toInt_inj.mp (by rw [q]; decide)))))))
  · exact Or.inr (Or.inr (Or.inr (Or.inr (Or.inr (Or.inr (Or.inl (Int32.toInt_inj.mp (by rw [q]; decide))))))))
  · exact Or.inr (Or.inr (Or.inr (Or.inr (Or.inr (Or.inr (Or.inr (Or.inl (Int32.toInt_inj.mp (by rw [q]; decide)))))))))
  · exact Or.inr (Or.inr (Or.inr (Or.inr (Or.inr (Or.inr (Or.inr (Or.inr (Int32.toInt_inj.mp (by rw [q]; decide)))))))))
theorem own_get9 {k a0 a1 a2 a3 a4 a5 a6 a7 a8 : Int32} (h0 : ¬ (k < (0 : Int32))) (h9 : k < (9 : Int32)) : ([.int a0, .int a1, .int a2, .int a3, .int a4, .int a5, .int a6, .int a7, .int a8] : List Value).getD k.toNatClampNeg (.int (0 : Int32)) = .int (own_pick k a0 a1 a2 a3 a4 a5 a6 a7 a8) := by
  rcases own_nine h0 h9 with rfl | rfl | rfl | rfl | rfl | rfl | rfl | rfl | rfl <;> rfl
theorem own_set9 {k v a0 a1 a2 a3 a4 a5 a6 a7 a8 : Int32} (h0 : ¬ (k < (0 : Int32))) (h9 : k < (9 : Int32)) : ([.int a0, .int a1, .int a2, .int a3, .int a4, .int a5, .int a6, .int a7, .int a8] : List Value).set k.toNatClampNeg (.int v) = [.int (own_put k 0 v a0), .int (own_put k 1 v a1), .int (own_put k 2 v a2), .int (own_put k 3 v a3), .int (own_put k 4 v a4), .int (own_put k 5 v a5), .int (own_put k 6 v a6), .int (own_put k 7 v a7), .int (own_put k 8 v a8)] := by
  rcases own_nine h0 h9 with rfl | rfl | rfl | rfl | rfl | rfl | rfl | rfl | rfl <;> rfl
theorem own_len9 {k a0 a1 a2 a3 a4 a5 a6 a7 a8 : Int32} (h0 : ¬ (k < (0 : Int32))) (h9 : k < (9 : Int32)) : k.toNatClampNeg < ([.int a0, .int a1, .int a2, .int a3, .int a4, .int a5, .int a6, .int a7, .int a8] : List Value).length := by
  rcases own_nine h0 h9 with rfl | rfl | rfl | rfl | rfl | rfl | rfl | rfl | rfl <;> exact Nat.le_of_ble_eq_true rfl
theorem d2_0 : decode jdk_30_method_1_code 0 = .ok (.aload_n 0, 1) := by decide +kernel
theorem d2_1 : decode jdk_30_method_1_code 1 = .ok (.invokespecial 1, 3) := by decide +kernel
theorem d2_4 : decode jdk_30_method_1_code 4 = .ok (.return_, 1) := by decide +kernel
theorem pn_java_lang_Record : plainName "java/lang/Record" = true := by first | (simp [plainName, overriddenIn]; done) | decide +kernel
theorem ef_2 (m : MethodId) (o0 : Addr) : entryFrame m #[(.ref o0)] 1 = mkF m 0 #[.val (.ref o0)] [] := by first | (simp [entryFrame, mkF, argsToLocals, Value.category]; done) | rfl
def Q2 (Z : State) (o0 : Addr) (h0 : Heap) (n0 : Nat) (v : Option Value) (h : Heap) (L : List Loc) : Prop := Fr n0 L ∧ v = none ∧ h = h0
set_option maxRecDepth 65536 in
set_option maxHeartbeats 40000000 in
theorem rm2 (l : Launch) (Z : State) (a0 : Array Value) (hw : ∀ d ∈ tables_1, d.before a0 Z = true) (ws : List Jvm.Cond) (o0 : Addr) (h0 : Heap) (n0 : Nat) (Z0 : n0 ≤ h0.size) :
    MetFree l (⟨"java/lang/Record", "<init>", "()V"⟩ : MethodName) (head1 (Jvm.Cond.code (⟨"java/lang/Record", "<init>", "()V"⟩ : MethodName) jdk_30_method_1_code 1 none :: ws) ({ frames := 1, cells := 0, slots := 0, locals := 12 } : Room)) (fun a U => a = #[(.ref o0)] ∧ Z.Warmed39 U.vm ∧ U.heap = h0) (fun _ _ _ _ _ => True) (fun _ U o U' => ∃ v L, o = .returned v ∧ Q2 Z o0 h0 n0 v U'.heap L ∧ FrameEnd U o U' L ({ frames := 1, cells := 0, slots := 0, locals := 12 } : Room).cells ({ frames := 1, cells := 0, slots := 0, locals := 12 } : Room).slots) := by
  refine MetFree.of_bodySF (plainFor_of_name pn_java_lang_Record) hisR ?_
  intro p e s m args below meth c s₁ Bd hml0 hP hK
  obtain ⟨rfl, hZ, hh⟩ := hP
  have hx := Bd.exec
  have hby := Bd.bytes
  have hml : c.maxLocals = 1 := hml0
  have hown : s.vm.findClass "java/lang/Record" = some m.cls := findClass_of_methodNamed Bd.named
  have hnm := (name_of_methodNamed Bd.named Bd.method).1
  have hlk := BodyLoose.notSynchronized Bd
  have X0 : Stand p l e ({ frames := 1, cells := 0, slots := 0, locals := 12 } : Room) s m #[(.ref o0)] below meth c s₁ [] 0 0 := Stand.of_body Bd
  have e0 : s₁.heap = h0 := by rw [← hh, Bd.state]; rfl
  have N0 := Fr.nil n0
  have pre0 : ∀ t, Steps p.tables e below (s₁.setTop (mkF m 0 #[.val (.ref o0)] [])) t → Steps p.tables e below (s₁.setTop (entryFrame m #[(.ref o0)] 1)) t := fun t k => castTop (ef_2 m o0) k
  obtain ⟨T1, X1, e1, st1⟩ := initO X0 hx hZ hown (hw _ (List.mem_of_getElem? (i := 13) rfl)) (hw _ (List.mem_of_getElem? (i := 14) rfl)) (hw _ (List.mem_of_getElem? (i := 15) rfl)) e0 (g := (mkF m 1 #[.val (.ref o0)] [(.ref o0)])) rfl (by rw [hml]; rfl) rfl (hb hby d2_1) (by decide) (W := 0) (by show 2 * 0 + _ ≤ _; exact Nat.le_of_eq rfl) (by decide)
  obtain ⟨fs, hr, hrun, hended, hW, hsame⟩ := X1.leave (v := none) (fun _ => rfl) hlk
  refine ⟨_, _, pre0 _ ?_, hrun, hended, _, _, rfl, ?_, ⟨_, rfl⟩, hW, hsame.mono (by decide) (by decide)⟩
  · skip
    show Steps p.tables e below (s₁.setTop (mkF m 0 #[.val (.ref o0)] [])) _
    refine XS.aloadN X0.here hx rfl (hb hby d2_0) rfl rfl ?_
    show Steps p.tables e below (s₁.setTop (mkF m 1 #[.val (.ref o0)] [(.ref o0)])) _
    refine st1 _ ?_
    show Steps p.tables e below (T1.setTop (mkF m 4 #[.val (.ref o0)] [])) _
    exact X1.returnOut hx Bd.returns (hb hby d2_4) hr
  · skip
    show Q2 Z o0 h0 n0 _ T1.heap _
    rw [e1]
    exact ⟨N0, rfl, rfl⟩
theorem pd___V : parseMethodDescriptor "()V" = some ⟨[], none⟩ := by decide +kernel
theorem d1_0 : decode prog_123_method_1_code 0 = .ok (.aload_n 0, 1) := by decide +kernel
theorem d1_1 : decode prog_123_method_1_code 1 = .ok (.invokespecial 1, 3) := by decide +kernel
theorem d1_4 : decode prog_123_method_1_code 4 = .ok (.aload_n 0, 1) := by decide +kernel
theorem d1_5 : decode prog_123_method_1_code 5 = .ok (.iload_n 1, 1) := by decide +kernel
theorem d1_6 : decode prog_123_method_1_code 6 = .ok (.putfield 7, 3) := by decide +kernel
theorem d1_9 : decode prog_123_method_1_code 9 = .ok (.aload_n 0, 1) := by decide +kernel
theorem d1_10 : decode prog_123_method_1_code 10 = .ok (.iload_n 2, 1) := by decide +kernel
theorem d1_11 : decode prog_123_method_1_code 11 = .ok (.putfield 13, 3) := by decide +kernel
theorem d1_14 : decode prog_123_method_1_code 14 = .ok (.aload_n 0, 1) := by decide +kernel
theorem d1_15 : decode prog_123_method_1_code 15 = .ok (.iload_n 3, 1) := by decide +kernel
theorem d1_16 : decode prog_123_method_1_code 16 = .ok (.putfield 16, 3) := by decide +kernel
theorem d1_19 : decode prog_123_method_1_code 19 = .ok (.aload_n 0, 1) := by decide +kernel
theorem d1_20 : decode prog_123_method_1_code 20 = .ok (.iload 4, 2) := by decide +kernel
theorem d1_22 : decode prog_123_method_1_code 22 = .ok (.putfield 19, 3) := by decide +kernel
theorem d1_25 : decode prog_123_method_1_code 25 = .ok (.aload_n 0, 1) := by decide +kernel
theorem d1_26 : decode prog_123_method_1_code 26 = .ok (.iload 5, 2) := by decide +kernel
theorem d1_28 : decode prog_123_method_1_code 28 = .ok (.putfield 22, 3) := by decide +kernel
theorem d1_31 : decode prog_123_method_1_code 31 = .ok (.aload_n 0, 1) := by decide +kernel
theorem d1_32 : decode prog_123_method_1_code 32 = .ok (.iload 6, 2) := by decide +kernel
theorem d1_34 : decode prog_123_method_1_code 34 = .ok (.putfield 25, 3) := by decide +kernel
theorem d1_37 : decode prog_123_method_1_code 37 = .ok (.aload_n 0, 1) := by decide +kernel
theorem d1_38 : decode prog_123_method_1_code 38 = .ok (.iload 7, 2) := by decide +kernel
theorem d1_40 : decode prog_123_method_1_code 40 = .ok (.putfield 28, 3) := by decide +kernel
theorem d1_43 : decode prog_123_method_1_code 43 = .ok (.aload_n 0, 1) := by decide +kernel
theorem d1_44 : decode prog_123_method_1_code 44 = .ok (.iload 8, 2) := by decide +kernel
theorem d1_46 : decode prog_123_method_1_code 46 = .ok (.putfield 31, 3) := by decide +kernel
theorem d1_49 : decode prog_123_method_1_code 49 = .ok (.aload_n 0, 1) := by decide +kernel
theorem d1_50 : decode prog_123_method_1_code 50 = .ok (.iload 9, 2) := by decide +kernel
theorem d1_52 : decode prog_123_method_1_code 52 = .ok (.putfield 34, 3) := by decide +kernel
theorem d1_55 : decode prog_123_method_1_code 55 = .ok (.return_, 1) := by decide +kernel
theorem pn_com_example_ashlar_ashlar_worktree_StatData : plainName "com/example/ashlar/ashlar/worktree/StatData" = true := by first | (simp [plainName, overriddenIn]; done) | decide +kernel
theorem ef_1 (m : MethodId) (o0 : Addr) (p1 : Int32) (p2 : Int32) (p3 : Int32) (p4 : Int32) (p5 : Int32) (p6 : Int32) (p7 : Int32) (p8 : Int32) (p9 : Int32) : entryFrame m #[(.ref o0), (.int p1), (.int p2), (.int p3), (.int p4), (.int p5), (.int p6), (.int p7), (.int p8), (.int p9)] 10 = mkF m 0 #[.val (.ref o0), .val (.int p1), .val (.int p2), .val (.int p3), .val (.int p4), .val (.int p5), .val (.int p6), .val (.int p7), .val (.int p8), .val (.int p9)] [] := by first | (simp [entryFrame, mkF, argsToLocals, Value.category]; done) | rfl
def Q1 (Z : State) (o0 : Addr) (p1 : Int32) (p2 : Int32) (p3 : Int32) (p4 : Int32) (p5 : Int32) (p6 : Int32) (p7 : Int32) (p8 : Int32) (p9 : Int32) (u0_ctimeSeconds : Value) (u1_ctimeNanos : Value) (u2_mtimeSeconds : Value) (u3_mtimeNanos : Value) (u4_device : Value) (u5_inode : Value) (u6_uid : Value) (u7_gid : Value) (u8_size : Value) (h0 : Heap) (n0 : Nat) (v : Option Value) (h : Heap) (L : List Loc) : Prop := Fr n0 L ∧ v = none ∧ Keep h0 h [o0] ∧ Exa Z h o0 "com/example/ashlar/ashlar/worktree/StatData" ∧ Fld Z h o0 "com/example/ashlar/ashlar/worktree/StatData" "ctimeSeconds" "I" (.int p1) ∧ Fld Z h o0 "com/example/ashlar/ashlar/worktree/StatData" "ctimeNanos" "I" (.int p2) ∧ Fld Z h o0 "com/example/ashlar/ashlar/worktree/StatData" "mtimeSeconds" "I" (.int p3) ∧ Fld Z h o0 "com/example/ashlar/ashlar/worktree/StatData" "mtimeNanos" "I" (.int p4) ∧ Fld Z h o0 "com/example/ashlar/ashlar/worktree/StatData" "device" "I" (.int p5) ∧ Fld Z h o0 "com/example/ashlar/ashlar/worktree/StatData" "inode" "I" (.int p6) ∧ Fld Z h o0 "com/example/ashlar/ashlar/worktree/StatData" "uid" "I" (.int p7) ∧ Fld Z h o0 "com/example/ashlar/ashlar/worktree/StatData" "gid" "I" (.int p8) ∧ Fld Z h o0 "com/example/ashlar/ashlar/worktree/StatData" "size" "I" (.int p9)
set_option maxRecDepth 65536 in
set_option maxHeartbeats 40000000 in
theorem rm1 (l : Launch) (Z : State) (a0 : Array Value) (hw : ∀ d ∈ tables_1, d.before a0 Z = true) (ws : List Jvm.Cond) (o0 : Addr) (p1 : Int32) (p2 : Int32) (p3 : Int32) (p4 : Int32) (p5 : Int32) (p6 : Int32) (p7 : Int32) (p8 : Int32) (p9 : Int32) (u0_ctimeSeconds : Value) (u1_ctimeNanos : Value) (u2_mtimeSeconds : Value) (u3_mtimeNanos : Value) (u4_device : Value) (u5_inode : Value) (u6_uid : Value) (u7_gid : Value) (u8_size : Value) (h0 : Heap) (n0 : Nat) (Z0 : n0 ≤ h0.size) (E_o0 : Exa Z h0 o0 "com/example/ashlar/ashlar/worktree/StatData") (F_ctimeSeconds_o0 : Fld Z h0 o0 "com/example/ashlar/ashlar/worktree/StatData" "ctimeSeconds" "I" u0_ctimeSeconds) (g_o0 : n0 ≤ o0) (F_ctimeNanos_o0 : Fld Z h0 o0 "com/example/ashlar/ashlar/worktree/StatData" "ctimeNanos" "I" u1_ctimeNanos) (F_mtimeSeconds_o0 : Fld Z h0 o0 "com/example/ashlar/ashlar/worktree/StatData" "mtimeSeconds" "I" u2_mtimeSeconds) (F_mtimeNanos_o0 : Fld Z h0 o0 "com/example/ashlar/ashlar/worktree/StatData" "mtimeNanos" "I" u3_mtimeNanos) (F_device_o0 : Fld Z h0 o0 "com/example/ashlar/ashlar/worktree/StatData" "device" "I" u4_device) (F_inode_o0 : Fld Z h0 o0 "com/example/ashlar/ashlar/worktree/StatData" "inode" "I" u5_inode) (F_uid_o0 : Fld Z h0 o0 "com/example/ashlar/ashlar/worktree/StatData" "uid" "I" u6_uid) (F_gid_o0 : Fld Z h0 o0 "com/example/ashlar/ashlar/worktree/StatData" "gid" "I" u7_gid) (F_size_o0 : Fld Z h0 o0 "com/example/ashlar/ashlar/worktree/StatData" "size" "I" u8_size) :
    MetFree l (⟨"com/example/ashlar/ashlar/worktree/StatData", "<init>", "(IIIIIIIII)V"⟩ : MethodName) (head1 (Jvm.Cond.code (⟨"com/example/ashlar/ashlar/worktree/StatData", "<init>", "(IIIIIIIII)V"⟩ : MethodName) prog_123_method_1_code 10 none :: ws) ({ frames := 2, cells := 0, slots := 0, locals := 24 } : Room)) (fun a U => a = #[(.ref o0), (.int p1), (.int p2), (.int p3), (.int p4), (.int p5), (.int p6), (.int p7), (.int p8), (.int p9)] ∧ Z.Warmed39 U.vm ∧ U.heap = h0) (fun _ _ _ _ _ => True) (fun _ U o U' => ∃ v L, o = .returned v ∧ Q1 Z o0 p1 p2 p3 p4 p5 p6 p7 p8 p9 u0_ctimeSeconds u1_ctimeNanos u2_mtimeSeconds u3_mtimeNanos u4_device u5_inode u6_uid u7_gid u8_size h0 n0 v U'.heap L ∧ FrameEnd U o U' L ({ frames := 2, cells := 0, slots := 0, locals := 24 } : Room).cells ({ frames := 2, cells := 0, slots := 0, locals := 24 } : Room).slots) := by
  refine MetFree.of_bodySF (plainFor_of_name pn_com_example_ashlar_ashlar_worktree_StatData) hisR ?_
  intro p e s m args below meth c s₁ Bd hml0 hP hK
  obtain ⟨rfl, hZ, hh⟩ := hP
  have hx := Bd.exec
  have hby := Bd.bytes
  have hml : c.maxLocals = 10 := hml0
  have hown : s.vm.findClass "com/example/ashlar/ashlar/worktree/StatData" = some m.cls := findClass_of_methodNamed Bd.named
  have hnm := (name_of_methodNamed Bd.named Bd.method).1
  have hlk := BodyLoose.notSynchronized Bd
  have X0 : Stand p l e ({ frames := 2, cells := 0, slots := 0, locals := 24 } : Room) s m #[(.ref o0), (.int p1), (.int p2), (.int p3), (.int p4), (.int p5), (.int p6), (.int p7), (.int p8), (.int p9)] below meth c s₁ [] 0 0 := Stand.of_body Bd
  have e0 : s₁.heap = h0 := by rw [← hh, Bd.state]; rfl
  have N0 := Fr.nil n0
  have pre0 : ∀ t, Steps p.tables e below (s₁.setTop (mkF m 0 #[.val (.ref o0), .val (.int p1), .val (.int p2), .val (.int p3), .val (.int p4), .val (.int p5), .val (.int p6), .val (.int p7), .val (.int p8), .val (.int p9)] [])) t → Steps p.tables e below (s₁.setTop (entryFrame m #[(.ref o0), (.int p1), (.int p2), (.int p3), (.int p4), (.int p5), (.int p6), (.int p7), (.int p8), (.int p9)] 10)) t := fun t k => castTop (ef_1 m o0 p1 p2 p3 p4 p5 p6 p7 p8 p9) k
  obtain ⟨vr1, _, ⟨T1, L1, k1, n1⟩, -, X1, ⟨Lc1, hQ1, l1, y1, z1⟩, st1⟩ := X0.specialBack hx (y := (⟨"java/lang/Record", "<init>", "()V"⟩ : MethodName)) rfl hown (mvT hZ (hw _ (List.mem_of_getElem? (i := 8) rfl))) (mvT hZ (hw _ (List.mem_of_getElem? (i := 9) rfl))) (mvT hZ (hw _ (List.mem_of_getElem? (i := 12) rfl))) (by decide) (backOf (W := 0) (rm2 l Z a0 hw [] o0 h0 n0 Z0) hZ (hw _ (List.mem_of_getElem? (i := 12) rfl)) (hw _ (List.mem_of_getElem? (i := 11) rfl)) (by decide) (by decide)) (g := (mkF m 1 #[.val (.ref o0), .val (.int p1), .val (.int p2), .val (.int p3), .val (.int p4), .val (.int p5), .val (.int p6), .val (.int p7), .val (.int p8), .val (.int p9)] [(.ref o0)])) rfl (by rw [hml]; rfl) (Steps.refl _) (a := o0) (argsL := []) (rest := []) (lenOf pd___V rfl) rfl (by show 2 * 0 + _ ≤ _; exact Nat.le_of_eq rfl) (hb hby d1_1) (fun _ _ => ⟨rfl, e0, (by decide : 0 + 0 ≤ _), (by decide : 0 + 0 ≤ _)⟩)
  dsimp only [Pt.U, Pt.locs, Pt.cells, Pt.slots] at X1 l1 y1 z1 st1 hQ1
  replace X1 := own_stand X1 l1 y1 z1
  clear l1 y1 z1
  have N1q := (show _ ∧ _ ∧ _ from hQ1).1
  have hv1 := (show _ ∧ _ ∧ _ from hQ1).2.1
  have e1 := (show _ ∧ _ ∧ _ from hQ1).2.2
  clear hQ1
  subst hv1
  have N1 := Fr.app N0 N1q
  obtain ⟨T2, h2, X2, e2, W2, st2⟩ := putF X1 hx hZ hown (host := "") (Or.inl (hw _ (List.mem_of_getElem? (i := 16) rfl))) Via.refl e1 F_ctimeSeconds_o0 E_o0 (Or.inr ⟨(hw _ (List.mem_of_getElem? (i := 17) rfl)), rfl, hnm⟩) (hw _ (List.mem_of_getElem? (i := 3) rfl)) (ty := .int) (by decide) rfl rfl (g := (mkF m 6 #[.val (.ref o0), .val (.int p1), .val (.int p2), .val (.int p3), .val (.int p4), .val (.int p5), .val (.int p6), .val (.int p7), .val (.int p8), .val (.int p9)] [(.int p1), (.ref o0)])) rfl rfl (hb hby d1_6)
  have Fw2 := F_ctimeSeconds_o0.same W2
  have N2 := Fr.snoc X2 N1 g_o0
  have z3 : n0 ≤ h2.size := Nat.le_trans Z0 (Keep.of_wr W2).1
  have hs4 : h0.size ≤ h2.size := Nat.le_trans (Nat.le_refl h0.size) (Keep.of_wr W2).1
  have k5 := (F_ctimeNanos_o0.other W2 (Or.inr (slot_ne (Or.inr (hw _ (List.mem_of_getElem? (i := 19) rfl))) (Or.inr (hw _ (List.mem_of_getElem? (i := 17) rfl))) (by decide) (t := .int) (t' := .int) (by decide) (by decide))))
  have k6 := (E_o0.wr W2)
  obtain ⟨T7, h7, X7, e7, W7, st7⟩ := putF X2 hx hZ hown (host := "") (Or.inl (hw _ (List.mem_of_getElem? (i := 18) rfl))) Via.refl e2 k5 k6 (Or.inr ⟨(hw _ (List.mem_of_getElem? (i := 19) rfl)), rfl, hnm⟩) (hw _ (List.mem_of_getElem? (i := 3) rfl)) (ty := .int) (by decide) rfl rfl (g := (mkF m 11 #[.val (.ref o0), .val (.int p1), .val (.int p2), .val (.int p3), .val (.int p4), .val (.int p5), .val (.int p6), .val (.int p7), .val (.int p8), .val (.int p9)] [(.int p2), (.ref o0)])) rfl rfl (hb hby d1_11)
  have Fw7 := k5.same W7
  have N7 := Fr.snoc X7 N2 g_o0
  have z8 : n0 ≤ h7.size := Nat.le_trans z3 (Keep.of_wr W7).1
  have hs9 : h0.size ≤ h7.size := Nat.le_trans hs4 (Keep.of_wr W7).1
  have k10 := ((F_mtimeSeconds_o0.other W2 (Or.inr (slot_ne (Or.inr (hw _ (List.mem_of_getElem? (i := 21) rfl))) (Or.inr (hw _ (List.mem_of_getElem? (i := 17) rfl))) (by decide) (t := .int) (t' := .int) (by decide) (by decide)))).other W7 (Or.inr (slot_ne (Or.inr (hw _ (List.mem_of_getElem? (i := 21) rfl))) (Or.inr (hw _ (List.mem_of_getElem? (i := 19) rfl))) (by decide) (t := .int) (t' := .int) (by decide) (by decide))))
  have k11 := (k6.wr W7)
  obtain ⟨T12, h12, X12, e12, W12, st12⟩ := putF X7 hx hZ hown (host := "") (Or.inl (hw _ (List.mem_of_getElem? (i := 20) rfl))) Via.refl e7 k10 k11 (Or.inr ⟨(hw _ (List.mem_of_getElem? (i := 21) rfl)), rfl, hnm⟩) (hw _ (List.mem_of_getElem? (i := 3) rfl)) (ty := .int) (by decide) rfl rfl (g := (mkF m 16 #[.val (.ref o0), .val (.int p1), .val (.int p2), .val (.int p3), .val (.int p4), .val (.int p5), .val (.int p6), .val (.int p7), .val (.int p8), .val (.int p9)] [(.int p3), (.ref o0)])) rfl rfl (hb hby d1_16)
  have Fw12 := k10.same W12
  have N12 := Fr.snoc X12 N7 g_o0
  have z13 : n0 ≤ h12.size := Nat.le_trans z8 (Keep.of_wr W12).1
  have hs14 : h0.size ≤ h12.size := Nat.le_trans hs9 (Keep.of_wr W12).1
  have k15 := (((F_mtimeNanos_o0.other W2 (Or.inr (slot_ne (Or.inr (hw _ (List.mem_of_getElem? (i := 23) rfl))) (Or.inr (hw _ (List.mem_of_getElem? (i := 17) rfl))) (by decide) (t := .int) (t' := .int) (by decide) (by decide)))).other W7 (Or.inr (slot_ne (Or.inr (hw _ (List.mem_of_getElem? (i := 23) rfl))) (Or.inr (hw _ (List.mem_of_getElem? (i := 19) rfl))) (by decide) (t := .int) (t' := .int) (by decide) (by decide)))).other W12 (Or.inr (slot_ne (Or.inr (hw _ (List.mem_of_getElem? (i := 23) rfl))) (Or.inr (hw _ (List.mem_of_getElem? (i := 21) rfl))) (by decide) (t := .int) (t' := .int) (by decide) (by decide))))
  have k16 := (k11.wr W12)
  obtain ⟨T17, h17, X17, e17, W17, st17⟩ := putF X12 hx hZ hown (host := "") (Or.inl (hw _ (List.mem_of_getElem? (i := 22) rfl))) Via.refl e12 k15 k16 (Or.inr ⟨(hw _ (List.mem_of_getElem? (i := 23) rfl)), rfl, hnm⟩) (hw _ (List.mem_of_getElem? (i := 3) rfl)) (ty := .int) (by decide) rfl rfl (g := (mkF m 22 #[.val (.ref o0), .val (.int p1), .val (.int p2), .val (.int p3), .val (.int p4), .val (.int p5), .val (.int p6), .val (.int p7), .val (.int p8), .val (.int p9)] [(.int p4), (.ref o0)])) rfl rfl (hb hby d1_22)
  have Fw17 := k15.same W17
  have N17 := Fr.snoc X17 N12 g_o0
  have z18 : n0 ≤ h17.size := Nat.le_trans z13 (Keep.of_wr W17).1
  have hs19 : h0.size ≤ h17.size := Nat.le_trans hs14 (Keep.of_wr W17).1
  have k20 := ((((F_device_o0.other W2 (Or.inr (slot_ne (Or.inr (hw _ (List.mem_of_getElem? (i := 25) rfl))) (Or.inr (hw _ (List.mem_of_getElem? (i := 17) rfl))) (by decide) (t := .int) (t' := .int) (by decide) (by decide)))).other W7 (Or.inr (slot_ne (Or.inr (hw _ (List.mem_of_getElem? (i := 25) rfl))) (Or.inr (hw _ (List.mem_of_getElem? (i := 19) rfl))) (by decide) (t := .int) (t' := .int) (by decide) (by decide)))).other W12 (Or.inr (slot_ne (Or.inr (hw _ (List.mem_of_getElem? (i := 25) rfl))) (Or.inr (hw _ (List.mem_of_getElem? (i := 21) rfl))) (by decide) (t := .int) (t' := .int) (by decide) (by decide)))).other W17 (Or.inr (slot_ne (Or.inr (hw _ (List.mem_of_getElem? (i := 25) rfl))) (Or.inr (hw _ (List.mem_of_getElem? (i := 23) rfl))) (by decide) (t := .int) (t' := .int) (by decide) (by decide))))
  have k21 := (k16.wr W17)
  obtain ⟨T22, h22, X22, e22, W22, st22⟩ := putF X17 hx hZ hown (host := "") (Or.inl (hw _ (List.mem_of_getElem? (i := 24) rfl))) Via.refl e17 k20 k21 (Or.inr ⟨(hw _ (List.mem_of_getElem? (i := 25) rfl)), rfl, hnm⟩) (hw _ (List.mem_of_getElem? (i := 3) rfl)) (ty := .int) (by decide) rfl rfl (g := (mkF m 28 #[.val (.ref o0), .val (.int p1), .val (.int p2), .val (.int p3), .val (.int p4), .val (.int p5), .val (.int p6), .val (.int p7), .val (.int p8), .val (.int p9)] [(.int p5), (.ref o0)])) rfl rfl (hb hby d1_28)
  have Fw22 := k20.same W22
  have N22 := Fr.snoc X22 N17 g_o0
  have z23 : n0 ≤ h22.size := Nat.le_trans z18 (Keep.of_wr W22).1
  have hs24 : h0.size ≤ h22.size := Nat.le_trans hs19 (Keep.of_wr W22).1
  have k25 := (((((F_inode_o0.other W2 (Or.inr (slot_ne (Or.inr (hw _ (List.mem_of_getElem? (i := 27) rfl))) (Or.inr (hw _ (List.mem_of_getElem? (i := 17) rfl))) (by decide) (t := .int) (t' := .int) (by decide) (by decide)))).other W7 (Or.inr (slot_ne (Or.inr (hw _ (List.mem_of_getElem? (i := 27) rfl))) (Or.inr (hw _ (List.mem_of_getElem? (i := 19) rfl))) (by decide) (t := .int) (t' := .int) (by decide) (by decide)))).other W12 (Or.inr (slot_ne (Or.inr (hw _ (List.mem_of_getElem? (i := 27) rfl))) (Or.inr (hw _ (List.mem_of_getElem? (i := 21) rfl))) (by decide) (t := .int) (t' := .int) (by decide) (by decide)))).other W17 (Or.inr (slot_ne (Or.inr (hw _ (List.mem_of_getElem? (i := 27) rfl))) (Or.inr (hw _ (List.mem_of_getElem? (i := 23) rfl))) (by decide) (t := .int) (t' := .int) (by decide) (by decide)))).other W22 (Or.inr (slot_ne (Or.inr (hw _ (List.mem_of_getElem? (i := 27) rfl))) (Or.inr (hw _ (List.mem_of_getElem? (i := 25) rfl))) (by decide) (t := .int) (t' := .int) (by decide) (by decide))))
  have k26 := (k21.wr W22)
  obtain ⟨T27, h27, X27, e27, W27, st27⟩ := putF X22 hx hZ hown (host := "") (Or.inl (hw _ (List.mem_of_getElem? (i := 26) rfl))) Via.refl e22 k25 k26 (Or.inr ⟨(hw _ (List.mem_of_getElem? (i := 27) rfl)), rfl, hnm⟩) (hw _ (List.mem_of_getElem? (i := 3) rfl)) (ty := .int) (by decide) rfl rfl (g := (mkF m 34 #[.val (.ref o0), .val (.int p1), .val (.int p2), .val (.int p3), .val (.int p4), .val (.int p5), .val (.int p6), .val (.int p7), .val (.int p8), .val (.int p9)] [(.int p6), (.ref o0)])) rfl rfl (hb hby d1_34)
  have Fw27 := k25.same W27
  have N27 := Fr.snoc X27 N22 g_o0
  have z28 : n0 ≤ h27.size := Nat.le_trans z23 (Keep.of_wr W27).1
  have hs29 : h0.size ≤ h27.size := Nat.le_trans hs24 (Keep.of_wr W27).1
  have k30 := ((((((F_uid_o0.other W2 (Or.inr (slot_ne (Or.inr (hw _ (List.mem_of_getElem? (i := 29) rfl))) (Or.inr (hw _ (List.mem_of_getElem? (i := 17) rfl))) (by decide) (t := .int) (t' := .int) (by decide) (by decide)))).other W7 (Or.inr (slot_ne (Or.inr (hw _ (List.mem_of_getElem? (i := 29) rfl))) (Or.inr (hw _ (List.mem_of_getElem? (i := 19) rfl))) (by decide) (t := .int) (t' := .int) (by decide) (by decide)))).other W12 (Or.inr (slot_ne (Or.inr (hw _ (List.mem_of_getElem? (i := 29) rfl))) (Or.inr (hw _ (List.mem_of_getElem? (i := 21) rfl))) (by decide) (t := .int) (t' := .int) (by decide) (by decide)))).other W17 (Or.inr (slot_ne (Or.inr (hw _ (List.mem_of_getElem? (i := 29) rfl))) (Or.inr (hw _ (List.mem_of_getElem? (i := 23) rfl))) (by decide) (t := .int) (t' := .int) (by decide) (by decide)))).other W22 (Or.inr (slot_ne (Or.inr (hw _ (List.mem_of_getElem? (i := 29) rfl))) (Or.inr (hw _ (List.mem_of_getElem? (i := 25) rfl))) (by decide) (t := .int) (t' := .int) (by decide) (by decide)))).other W27 (Or.inr (slot_ne (Or.inr (hw _ (List.mem_of_getElem? (i := 29) rfl))) (Or.inr (hw _ (List.mem_of_getElem? (i := 27) rfl))) (by decide) (t := .int) (t' := .int) (by decide) (by decide))))
  have k31 := (k26.wr W27)
  obtain ⟨T32, h32, X32, e32, W32, st32⟩ := putF X27 hx hZ hown (host := "") (Or.inl (hw _ (List.mem_of_getElem? (i := 28) rfl))) Via.refl e27 k30 k31 (Or.inr ⟨(hw _ (List.mem_of_getElem? (i := 29) rfl)), rfl, hnm⟩) (hw _ (List.mem_of_getElem? (i := 3) rfl)) (ty := .int) (by decide) rfl rfl (g := (mkF m 40 #[.val (.ref o0), .val (.int p1), .val (.int p2), .val (.int p3), .val (.int p4), .val (.int p5), .val (.int p6), .val (.int p7), .val (.int p8), .val (.int p9)] [(.int p7), (.ref o0)])) rfl rfl (hb hby d1_40)
  have Fw32 := k30.same W32
  have N32 := Fr.snoc X32 N27 g_o0
  have z33 : n0 ≤ h32.size := Nat.le_trans z28 (Keep.of_wr W32).1
  have hs34 : h0.size ≤ h32.size := Nat.le_trans hs29 (Keep.of_wr W32).1
  have k35 := (((((((F_gid_o0.other W2 (Or.inr (slot_ne (Or.inr (hw _ (List.mem_of_getElem? (i := 31) rfl))) (Or.inr (hw _ (List.mem_of_getElem? (i := 17) rfl))) (by decide) (t := .int) (t' := .int) (by decide) (by decide)))).other W7 (Or.inr (slot_ne (Or.inr (hw _ (List.mem_of_getElem? (i := 31) rfl))) (Or.inr (hw _ (List.mem_of_getElem? (i := 19) rfl))) (by decide) (t := .int) (t' := .int) (by decide) (by decide)))).other W12 (Or.inr (slot_ne (Or.inr (hw _ (List.mem_of_getElem? (i := 31) rfl))) (Or.inr (hw _ (List.mem_of_getElem? (i := 21) rfl))) (by decide) (t := .int) (t' := .int) (by decide) (by decide)))).other W17 (Or.inr (slot_ne (Or.inr (hw _ (List.mem_of_getElem? (i := 31) rfl))) (Or.inr (hw _ (List.mem_of_getElem? (i := 23) rfl))) (by decide) (t := .int) (t' := .int) (by decide) (by decide)))).other W22 (Or.inr (slot_ne (Or.inr (hw _ (List.mem_of_getElem? (i := 31) rfl))) (Or.inr (hw _ (List.mem_of_getElem? (i := 25) rfl))) (by decide) (t := .int) (t' := .int) (by decide) (by decide)))).other W27 (Or.inr (slot_ne (Or.inr (hw _ (List.mem_of_getElem? (i := 31) rfl))) (Or.inr (hw _ (List.mem_of_getElem? (i := 27) rfl))) (by decide) (t := .int) (t' := .int) (by decide) (by decide)))).other W32 (Or.inr (slot_ne (Or.inr (hw _ (List.mem_of_getElem? (i := 31) rfl))) (Or.inr (hw _ (List.mem_of_getElem? (i := 29) rfl))) (by decide) (t := .int) (t' := .int) (by decide) (by decide))))
  have k36 := (k31.wr W32)
  obtain ⟨T37, h37, X37, e37, W37, st37⟩ := putF X32 hx hZ hown (host := "") (Or.inl (hw _ (List.mem_of_getElem? (i := 30) rfl))) Via.refl e32 k35 k36 (Or.inr ⟨(hw _ (List.mem_of_getElem? (i := 31) rfl)), rfl, hnm⟩) (hw _ (List.mem_of_getElem? (i := 3) rfl)) (ty := .int) (by decide) rfl rfl (g := (mkF m 46 #[.val (.ref o0), .val (.int p1), .val (.int p2), .val (.int p3), .val (.int p4), .val (.int p5), .val (.int p6), .val (.int p7), .val (.int p8), .val (.int p9)] [(.int p8), (.ref o0)])) rfl rfl (hb hby d1_46)
  have Fw37 := k35.same W37
  have N37 := Fr.snoc X37 N32 g_o0
  have z38 : n0 ≤ h37.size := Nat.le_trans z33 (Keep.of_wr W37).1
  have hs39 : h0.size ≤ h37.size := Nat.le_trans hs34 (Keep.of_wr W37).1
  have k40 := ((((((((F_size_o0.other W2 (Or.inr (slot_ne (Or.inr (hw _ (List.mem_of_getElem? (i := 33) rfl))) (Or.inr (hw _ (List.mem_of_getElem? (i := 17) rfl))) (by decide) (t := .int) (t' := .int) (by decide) (by decide)))).other W7 (Or.inr (slot_ne (Or.inr (hw _ (List.mem_of_getElem? (i := 33) rfl))) (Or.inr (hw _ (List.mem_of_getElem? (i := 19) rfl))) (by decide) (t := .int) (t' := .int) (by decide) (by decide)))).other W12 (Or.inr (slot_ne (Or.inr (hw _ (List.mem_of_getElem? (i := 33) rfl))) (Or.inr (hw _ (List.mem_of_getElem? (i := 21) rfl))) (by decide) (t := .int) (t' := .int) (by decide) (by decide)))).other W17 (Or.inr (slot_ne (Or.inr (hw _ (List.mem_of_getElem? (i := 33) rfl))) (Or.inr (hw _ (List.mem_of_getElem? (i := 23) rfl))) (by decide) (t := .int) (t' := .int) (by decide) (by decide)))).other W22 (Or.inr (slot_ne (Or.inr (hw _ (List.mem_of_getElem? (i := 33) rfl))) (Or.inr (hw _ (List.mem_of_getElem? (i := 25) rfl))) (by decide) (t := .int) (t' := .int) (by decide) (by decide)))).other W27 (Or.inr (slot_ne (Or.inr (hw _ (List.mem_of_getElem? (i := 33) rfl))) (Or.inr (hw _ (List.mem_of_getElem? (i := 27) rfl))) (by decide) (t := .int) (t' := .int) (by decide) (by decide)))).other W32 (Or.inr (slot_ne (Or.inr (hw _ (List.mem_of_getElem? (i := 33) rfl))) (Or.inr (hw _ (List.mem_of_getElem? (i := 29) rfl))) (by decide) (t := .int) (t' := .int) (by decide) (by decide)))).other W37 (Or.inr (slot_ne (Or.inr (hw _ (List.mem_of_getElem? (i := 33) rfl))) (Or.inr (hw _ (List.mem_of_getElem? (i := 31) rfl))) (by decide) (t := .int) (t' := .int) (by decide) (by decide))))
  have k41 := (k36.wr W37)
  obtain ⟨T42, h42, X42, e42, W42, st42⟩ := putF X37 hx hZ hown (host := "") (Or.inl (hw _ (List.mem_of_getElem? (i := 32) rfl))) Via.refl e37 k40 k41 (Or.inr ⟨(hw _ (List.mem_of_getElem? (i := 33) rfl)), rfl, hnm⟩) (hw _ (List.mem_of_getElem? (i := 3) rfl)) (ty := .int) (by decide) rfl rfl (g := (mkF m 52 #[.val (.ref o0), .val (.int p1), .val (.int p2), .val (.int p3), .val (.int p4), .val (.int p5), .val (.int p6), .val (.int p7), .val (.int p8), .val (.int p9)] [(.int p9), (.ref o0)])) rfl rfl (hb hby d1_52)
  have Fw42 := k40.same W42
  have N42 := Fr.snoc X42 N37 g_o0
  have z43 : n0 ≤ h42.size := Nat.le_trans z38 (Keep.of_wr W42).1
  have hs44 : h0.size ≤ h42.size := Nat.le_trans hs39 (Keep.of_wr W42).1
  obtain ⟨fs, hr, hrun, hended, hW, hsame⟩ := X42.leave (v := none) (fun _ => rfl) hlk
  refine ⟨_, _, pre0 _ ?_, hrun, hended, _, _, rfl, ?_, ⟨_, rfl⟩, hW, hsame.mono (by decide) (by decide)⟩
  · skip
    show Steps p.tables e below (s₁.setTop (mkF m 0 #[.val (.ref o0), .val (.int p1), .val (.int p2), .val (.int p3), .val (.int p4), .val (.int p5), .val (.int p6), .val (.int p7), .val (.int p8), .val (.int p9)] [])) _
    refine XS.aloadN X0.here hx rfl (hb hby d1_0) rfl rfl ?_
    show Steps p.tables e below (s₁.setTop (mkF m 1 #[.val (.ref o0), .val (.int p1), .val (.int p2), .val (.int p3), .val (.int p4), .val (.int p5), .val (.int p6), .val (.int p7), .val (.int p8), .val (.int p9)] [(.ref o0)])) _
    refine st1.trans ?_
    show Steps p.tables e below (T1.setTop (mkF m 4 #[.val (.ref o0), .val (.int p1), .val (.int p2), .val (.int p3), .val (.int p4), .val (.int p5), .val (.int p6), .val (.int p7), .val (.int p8), .val (.int p9)] [])) _
    refine XS.aloadN X1.here hx rfl (hb hby d1_4) rfl rfl ?_
    show Steps p.tables e below (T1.setTop (mkF m 5 #[.val (.ref o0), .val (.int p1), .val (.int p2), .val (.int p3), .val (.int p4), .val (.int p5), .val (.int p6), .val (.int p7), .val (.int p8), .val (.int p9)] [(.ref o0)])) _
    refine XS.iloadN X1.here hx rfl (hb hby d1_5) rfl ?_
    show Steps p.tables e below (T1.setTop (mkF m 6 #[.val (.ref o0), .val (.int p1), .val (.int p2), .val (.int p3), .val (.int p4), .val (.int p5), .val (.int p6), .val (.int p7), .val (.int p8), .val (.int p9)] [(.int p1), (.ref o0)])) _
    refine st2 _ ?_
    show Steps p.tables e below (T2.setTop (mkF m 9 #[.val (.ref o0), .val (.int p1), .val (.int p2), .val (.int p3), .val (.int p4), .val (.int p5), .val (.int p6), .val (.int p7), .val (.int p8), .val (.int p9)] [])) _
    refine XS.aloadN X2.here hx rfl (hb hby d1_9) rfl rfl ?_
    show Steps p.tables e below (T2.setTop (mkF m 10 #[.val (.ref o0), .val (.int p1), .val (.int p2), .val (.int p3), .val (.int p4), .val (.int p5), .val (.int p6), .val (.int p7), .val (.int p8), .val (.int p9)] [(.ref o0)])) _
    refine XS.iloadN X2.here hx rfl (hb hby d1_10) rfl ?_
    show Steps p.tables e below (T2.setTop (mkF m 11 #[.val (.ref o0), .val (.int p1), .val (.int p2), .val (.int p3), .val (.int p4), .val (.int p5), .val (.int p6), .val (.int p7), .val (.int p8), .val (.int p9)] [(.int p2), (.ref o0)])) _
    refine st7 _ ?_
    show Steps p.tables e below (T7.setTop (mkF m 14 #[.val (.ref o0), .val (.int p1), .val (.int p2), .val (.int p3), .val (.int p4), .val (.int p5), .val (.int p6), .val (.int p7), .val (.int p8), .val (.int p9)] [])) _
    refine XS.aloadN X7.here hx rfl (hb hby d1_14) rfl rfl ?_
    show Steps p.tables e below (T7.setTop (mkF m 15 #[.val (.ref o0), .val (.int p1), .val (.int p2), .val (.int p3), .val (.int p4), .val (.int p5), .val (.int p6), .val (.int p7), .val (.int p8), .val (.int p9)] [(.ref o0)])) _
    refine XS.iloadN X7.here hx rfl (hb hby d1_15) rfl ?_
    show Steps p.tables e below (T7.setTop (mkF m 16 #[.val (.ref o0), .val (.int p1), .val (.int p2), .val (.int p3), .val (.int p4), .val (.int p5), .val (.int p6), .val (.int p7), .val (.int p8), .val (.int p9)] [(.int p3), (.ref o0)])) _
    refine st12 _ ?_
    show Steps p.tables e below (T12.setTop (mkF m 19 #[.val (.ref o0), .val (.int p1), .val (.int p2), .val (.int p3), .val (.int p4), .val (.int p5), .val (.int p6), .val (.int p7), .val (.int p8), .val (.int p9)] [])) _
    refine XS.aloadN X12.here hx rfl (hb hby d1_19) rfl rfl ?_
    show Steps p.tables e below (T12.setTop (mkF m 20 #[.val (.ref o0), .val (.int p1), .val (.int p2), .val (.int p3), .val (.int p4), .val (.int p5), .val (.int p6), .val (.int p7), .val (.int p8), .val (.int p9)] [(.ref o0)])) _
    refine XS.iload X12.here hx rfl (hb hby d1_20) rfl ?_
    show Steps p.tables e below (T12.setTop (mkF m 22 #[.val (.ref o0), .val (.int p1), .val (.int p2), .val (.int p3), .val (.int p4), .val (.int p5), .val (.int p6), .val (.int p7), .val (.int p8), .val (.int p9)] [(.int p4), (.ref o0)])) _
    refine st17 _ ?_
    show Steps p.tables e below (T17.setTop (mkF m 25 #[.val (.ref o0), .val (.int p1), .val (.int p2), .val (.int p3), .val (.int p4), .val (.int p5), .val (.int p6), .val (.int p7), .val (.int p8), .val (.int p9)] [])) _
    refine XS.aloadN X17.here hx rfl (hb hby d1_25) rfl rfl ?_
    show Steps p.tables e below (T17.setTop (mkF m 26 #[.val (.ref o0), .val (.int p1), .val (.int p2), .val (.int p3), .val (.int p4), .val (.int p5), .val (.int p6), .val (.int p7), .val (.int p8), .val (.int p9)] [(.ref o0)])) _
    refine XS.iload X17.here hx rfl (hb hby d1_26) rfl ?_
    show Steps p.tables e below (T17.setTop (mkF m 28 #[.val (.ref o0), .val (.int p1), .val (.int p2), .val (.int p3), .val (.int p4), .val (.int p5), .val (.int p6), .val (.int p7), .val (.int p8), .val (.int p9)] [(.int p5), (.ref o0)])) _
    refine st22 _ ?_
    show Steps p.tables e below (T22.setTop (mkF m 31 #[.val (.ref o0), .val (.int p1), .val (.int p2), .val (.int p3), .val (.int p4), .val (.int p5), .val (.int p6), .val (.int p7), .val (.int p8), .val (.int p9)] [])) _
    refine XS.aloadN X22.here hx rfl (hb hby d1_31) rfl rfl ?_
    show Steps p.tables e below (T22.setTop (mkF m 32 #[.val (.ref o0), .val (.int p1), .val (.int p2), .val (.int p3), .val (.int p4), .val (.int p5), .val (.int p6), .val (.int p7), .val (.int p8), .val (.int p9)] [(.ref o0)])) _
    refine XS.iload X22.here hx rfl (hb hby d1_32) rfl ?_
    show Steps p.tables e below (T22.setTop (mkF m 34 #[.val (.ref o0), .val (.int p1), .val (.int p2), .val (.int p3), .val (.int p4), .val (.int p5), .val (.int p6), .val (.int p7), .val (.int p8), .val (.int p9)] [(.int p6), (.ref o0)])) _
    refine st27 _ ?_
    show Steps p.tables e below (T27.setTop (mkF m 37 #[.val (.ref o0), .val (.int p1), .val (.int p2), .val (.int p3), .val (.int p4), .val (.int p5), .val (.int p6), .val (.int p7), .val (.int p8), .val (.int p9)] [])) _
    refine XS.aloadN X27.here hx rfl (hb hby d1_37) rfl rfl ?_
    show Steps p.tables e below (T27.setTop (mkF m 38 #[.val (.ref o0), .val (.int p1), .val (.int p2), .val (.int p3), .val (.int p4), .val (.int p5), .val (.int p6), .val (.int p7), .val (.int p8), .val (.int p9)] [(.ref o0)])) _
    refine XS.iload X27.here hx rfl (hb hby d1_38) rfl ?_
    show Steps p.tables e below (T27.setTop (mkF m 40 #[.val (.ref o0), .val (.int p1), .val (.int p2), .val (.int p3), .val (.int p4), .val (.int p5), .val (.int p6), .val (.int p7), .val (.int p8), .val (.int p9)] [(.int p7), (.ref o0)])) _
    refine st32 _ ?_
    show Steps p.tables e below (T32.setTop (mkF m 43 #[.val (.ref o0), .val (.int p1), .val (.int p2), .val (.int p3), .val (.int p4), .val (.int p5), .val (.int p6), .val (.int p7), .val (.int p8), .val (.int p9)] [])) _
    refine XS.aloadN X32.here hx rfl (hb hby d1_43) rfl rfl ?_
    show Steps p.tables e below (T32.setTop (mkF m 44 #[.val (.ref o0), .val (.int p1), .val (.int p2), .val (.int p3), .val (.int p4), .val (.int p5), .val (.int p6), .val (.int p7), .val (.int p8), .val (.int p9)] [(.ref o0)])) _
    refine XS.iload X32.here hx rfl (hb hby d1_44) rfl ?_
    show Steps p.tables e below (T32.setTop (mkF m 46 #[.val (.ref o0), .val (.int p1), .val (.int p2), .val (.int p3), .val (.int p4), .val (.int p5), .val (.int p6), .val (.int p7), .val (.int p8), .val (.int p9)] [(.int p8), (.ref o0)])) _
    refine st37 _ ?_
    show Steps p.tables e below (T37.setTop (mkF m 49 #[.val (.ref o0), .val (.int p1), .val (.int p2), .val (.int p3), .val (.int p4), .val (.int p5), .val (.int p6), .val (.int p7), .val (.int p8), .val (.int p9)] [])) _
    refine XS.aloadN X37.here hx rfl (hb hby d1_49) rfl rfl ?_
    show Steps p.tables e below (T37.setTop (mkF m 50 #[.val (.ref o0), .val (.int p1), .val (.int p2), .val (.int p3), .val (.int p4), .val (.int p5), .val (.int p6), .val (.int p7), .val (.int p8), .val (.int p9)] [(.ref o0)])) _
    refine XS.iload X37.here hx rfl (hb hby d1_50) rfl ?_
    show Steps p.tables e below (T37.setTop (mkF m 52 #[.val (.ref o0), .val (.int p1), .val (.int p2), .val (.int p3), .val (.int p4), .val (.int p5), .val (.int p6), .val (.int p7), .val (.int p8), .val (.int p9)] [(.int p9), (.ref o0)])) _
    refine st42 _ ?_
    show Steps p.tables e below (T42.setTop (mkF m 55 #[.val (.ref o0), .val (.int p1), .val (.int p2), .val (.int p3), .val (.int p4), .val (.int p5), .val (.int p6), .val (.int p7), .val (.int p8), .val (.int p9)] [])) _
    exact X42.returnOut hx Bd.returns (hb hby d1_55) hr
  · skip
    show Q1 Z o0 p1 p2 p3 p4 p5 p6 p7 p8 p9 u0_ctimeSeconds u1_ctimeNanos u2_mtimeSeconds u3_mtimeNanos u4_device u5_inode u6_uid u7_gid u8_size h0 n0 _ T42.heap _
    rw [e42]
    have k45 := (k41.wr W42)
    have k46 := ((((((((Fw2.other W7 (Or.inr (slot_ne (Or.inr (hw _ (List.mem_of_getElem? (i := 17) rfl))) (Or.inr (hw _ (List.mem_of_getElem? (i := 19) rfl))) (by decide) (t := .int) (t' := .int) (by decide) (by decide)))).other W12 (Or.inr (slot_ne (Or.inr (hw _ (List.mem_of_getElem? (i := 17) rfl))) (Or.inr (hw _ (List.mem_of_getElem? (i := 21) rfl))) (by decide) (t := .int) (t' := .int) (by decide) (by decide)))).other W17 (Or.inr (slot_ne (Or.inr (hw _ (List.mem_of_getElem? (i := 17) rfl))) (Or.inr (hw _ (List.mem_of_getElem? (i := 23) rfl))) (by decide) (t := .int) (t' := .int) (by decide) (by decide)))).other W22 (Or.inr (slot_ne (Or.inr (hw _ (List.mem_of_getElem? (i := 17) rfl))) (Or.inr (hw _ (List.mem_of_getElem? (i := 25) rfl))) (by decide) (t := .int) (t' := .int) (by decide) (by decide)))).other W27 (Or.inr (slot_ne (Or.inr (hw _ (List.mem_of_getElem? (i := 17) rfl))) (Or.inr (hw _ (List.mem_of_getElem? (i := 27) rfl))) (by decide) (t := .int) (t' := .int) (by decide) (by decide)))).other W32 (Or.inr (slot_ne (Or.inr (hw _ (List.mem_of_getElem? (i := 17) rfl))) (Or.inr (hw _ (List.mem_of_getElem? (i := 29) rfl))) (by decide) (t := .int) (t' := .int) (by decide) (by decide)))).other W37 (Or.inr (slot_ne (Or.inr (hw _ (List.mem_of_getElem? (i := 17) rfl))) (Or.inr (hw _ (List.mem_of_getElem? (i := 31) rfl))) (by decide) (t := .int) (t' := .int) (by decide) (by decide)))).other W42 (Or.inr (slot_ne (Or.inr (hw _ (List.mem_of_getElem? (i := 17) rfl))) (Or.inr (hw _ (List.mem_of_getElem? (i := 33) rfl))) (by decide) (t := .int) (t' := .int) (by decide) (by decide))))
    have k47 := (((((((Fw7.other W12 (Or.inr (slot_ne (Or.inr (hw _ (List.mem_of_getElem? (i := 19) rfl))) (Or.inr (hw _ (List.mem_of_getElem? (i := 21) rfl))) (by decide) (t := .int) (t' := .int) (by decide) (by decide)))).other W17 (Or.inr (slot_ne (Or.inr (hw _ (List.mem_of_getElem? (i := 19) rfl))) (Or.inr (hw _ (List.mem_of_getElem? (i := 23) rfl))) (by decide) (t := .int) (t' := .int) (by decide) (by decide)))).other W22 (Or.inr (slot_ne (Or.inr (hw _ (List.mem_of_getElem? (i := 19) rfl))) (Or.inr (hw _ (List.mem_of_getElem? (i := 25) rfl))) (by decide) (t := .int) (t' := .int) (by decide) (by decide)))).other W27 (Or.inr (slot_ne (Or.inr (hw _ (List.mem_of_getElem? (i := 19) rfl))) (Or.inr (hw _ (List.mem_of_getElem? (i := 27) rfl))) (by decide) (t := .int) (t' := .int) (by decide) (by decide)))).other W32 (Or.inr (slot_ne (Or.inr (hw _ (List.mem_of_getElem? (i := 19) rfl))) (Or.inr (hw _ (List.mem_of_getElem? (i := 29) rfl))) (by decide) (t := .int) (t' := .int) (by decide) (by decide)))).other W37 (Or.inr (slot_ne (Or.inr (hw _ (List.mem_of_getElem? (i := 19) rfl))) (Or.inr (hw _ (List.mem_of_getElem? (i := 31) rfl))) (by decide) (t := .int) (t' := .int) (by decide) (by decide)))).other W42 (Or.inr (slot_ne (Or.inr (hw _ (List.mem_of_getElem? (i := 19) rfl))) (Or.inr (hw _ (List.mem_of_getElem? (i := 33) rfl))) (by decide) (t := .int) (t' := .int) (by decide) (by decide))))
    have k48 := ((((((Fw12.other W17 (Or.inr (slot_ne (Or.inr (hw _ (List.mem_of_getElem? (i := 21) rfl))) (Or.inr (hw _ (List.mem_of_getElem? (i := 23) rfl))) (by decide) (t := .int) (t' := .int) (by decide) (by decide)))).other W22 (Or.inr (slot_ne (Or.inr (hw _ (List.mem_of_getElem? (i := 21) rfl))) (Or.inr (hw _ (List.mem_of_getElem? (i := 25) rfl))) (by decide) (t := .int) (t' := .int) (by decide) (by decide)))).other W27 (Or.inr (slot_ne (Or.inr (hw _ (List.mem_of_getElem? (i := 21) rfl))) (Or.inr (hw _ (List.mem_of_getElem? (i := 27) rfl))) (by decide) (t := .int) (t' := .int) (by decide) (by decide)))).other W32 (Or.inr (slot_ne (Or.inr (hw _ (List.mem_of_getElem? (i := 21) rfl))) (Or.inr (hw _ (List.mem_of_getElem? (i := 29) rfl))) (by decide) (t := .int) (t' := .int) (by decide) (by decide)))).other W37 (Or.inr (slot_ne (Or.inr (hw _ (List.mem_of_getElem? (i := 21) rfl))) (Or.inr (hw _ (List.mem_of_getElem? (i := 31) rfl))) (by decide) (t := .int) (t' := .int) (by decide) (by decide)))).other W42 (Or.inr (slot_ne (Or.inr (hw _ (List.mem_of_getElem? (i := 21) rfl))) (Or.inr (hw _ (List.mem_of_getElem? (i := 33) rfl))) (by decide) (t := .int) (t' := .int) (by decide) (by decide))))
    have k49 := (((((Fw17.other W22 (Or.inr (slot_ne (Or.inr (hw _ (List.mem_of_getElem? (i := 23) rfl))) (Or.inr (hw _ (List.mem_of_getElem? (i := 25) rfl))) (by decide) (t := .int) (t' := .int) (by decide) (by decide)))).other W27 (Or.inr (slot_ne (Or.inr (hw _ (List.mem_of_getElem? (i := 23) rfl))) (Or.inr (hw _ (List.mem_of_getElem? (i := 27) rfl))) (by decide) (t := .int) (t' := .int) (by decide) (by decide)))).other W32 (Or.inr (slot_ne (Or.inr (hw _ (List.mem_of_getElem? (i := 23) rfl))) (Or.inr (hw _ (List.mem_of_getElem? (i := 29) rfl))) (by decide) (t := .int) (t' := .int) (by decide) (by decide)))).other W37 (Or.inr (slot_ne (Or.inr (hw _ (List.mem_of_getElem? (i := 23) rfl))) (Or.inr (hw _ (List.mem_of_getElem? (i := 31) rfl))) (by decide) (t := .int) (t' := .int) (by decide) (by decide)))).other W42 (Or.inr (slot_ne (Or.inr (hw _ (List.mem_of_getElem? (i := 23) rfl))) (Or.inr (hw _ (List.mem_of_getElem? (i := 33) rfl))) (by decide) (t := .int) (t' := .int) (by decide) (by decide))))
    have k50 := ((((Fw22.other W27 (Or.inr (slot_ne (Or.inr (hw _ (List.mem_of_getElem? (i := 25) rfl))) (Or.inr (hw _ (List.mem_of_getElem? (i := 27) rfl))) (by decide) (t := .int) (t' := .int) (by decide) (by decide)))).other W32 (Or.inr (slot_ne (Or.inr (hw _ (List.mem_of_getElem? (i := 25) rfl))) (Or.inr (hw _ (List.mem_of_getElem? (i := 29) rfl))) (by decide) (t := .int) (t' := .int) (by decide) (by decide)))).other W37 (Or.inr (slot_ne (Or.inr (hw _ (List.mem_of_getElem? (i := 25) rfl))) (Or.inr (hw _ (List.mem_of_getElem? (i := 31) rfl))) (by decide) (t := .int) (t' := .int) (by decide) (by decide)))).other W42 (Or.inr (slot_ne (Or.inr (hw _ (List.mem_of_getElem? (i := 25) rfl))) (Or.inr (hw _ (List.mem_of_getElem? (i := 33) rfl))) (by decide) (t := .int) (t' := .int) (by decide) (by decide))))
    have k51 := (((Fw27.other W32 (Or.inr (slot_ne (Or.inr (hw _ (List.mem_of_getElem? (i := 27) rfl))) (Or.inr (hw _ (List.mem_of_getElem? (i := 29) rfl))) (by decide) (t := .int) (t' := .int) (by decide) (by decide)))).other W37 (Or.inr (slot_ne (Or.inr (hw _ (List.mem_of_getElem? (i := 27) rfl))) (Or.inr (hw _ (List.mem_of_getElem? (i := 31) rfl))) (by decide) (t := .int) (t' := .int) (by decide) (by decide)))).other W42 (Or.inr (slot_ne (Or.inr (hw _ (List.mem_of_getElem? (i := 27) rfl))) (Or.inr (hw _ (List.mem_of_getElem? (i := 33) rfl))) (by decide) (t := .int) (t' := .int) (by decide) (by decide))))
    have k52 := ((Fw32.other W37 (Or.inr (slot_ne (Or.inr (hw _ (List.mem_of_getElem? (i := 29) rfl))) (Or.inr (hw _ (List.mem_of_getElem? (i := 31) rfl))) (by decide) (t := .int) (t' := .int) (by decide) (by decide)))).other W42 (Or.inr (slot_ne (Or.inr (hw _ (List.mem_of_getElem? (i := 29) rfl))) (Or.inr (hw _ (List.mem_of_getElem? (i := 33) rfl))) (by decide) (t := .int) (t' := .int) (by decide) (by decide))))
    have k53 := (Fw37.other W42 (Or.inr (slot_ne (Or.inr (hw _ (List.mem_of_getElem? (i := 31) rfl))) (Or.inr (hw _ (List.mem_of_getElem? (i := 33) rfl))) (by decide) (t := .int) (t' := .int) (by decide) (by decide))))
    exact ⟨N42, rfl, ((((((((((Keep.refl h0 [o0]).wr W2 (Or.inl (List.mem_of_getElem? (i := 0) rfl))).wr W7 (Or.inl (List.mem_of_getElem? (i := 0) rfl))).wr W12 (Or.inl (List.mem_of_getElem? (i := 0) rfl))).wr W17 (Or.inl (List.mem_of_getElem? (i := 0) rfl))).wr W22 (Or.inl (List.mem_of_getElem? (i := 0) rfl))).wr W27 (Or.inl (List.mem_of_getElem? (i := 0) rfl))).wr W32 (Or.inl (List.mem_of_getElem? (i := 0) rfl))).wr W37 (Or.inl (List.mem_of_getElem? (i := 0) rfl))).wr W42 (Or.inl (List.mem_of_getElem? (i := 0) rfl))), k45, k46, k47, k48, k49, k50, k51, k52, k53, Fw42⟩
theorem d4_0 : decode prog_123_method_3_code 0 = .ok (.aload_n 0, 1) := by decide +kernel
theorem d4_1 : decode prog_123_method_3_code 1 = .ok (.getfield 7, 3) := by decide +kernel
theorem d4_4 : decode prog_123_method_3_code 4 = .ok (.aload_n 1, 1) := by decide +kernel
theorem d4_5 : decode prog_123_method_3_code 5 = .ok (.getfield 7, 3) := by decide +kernel
theorem d4_8 : decode prog_123_method_3_code 8 = .ok (.if_icmp .ne 62, 3) := by decide +kernel
theorem d4_11 : decode prog_123_method_3_code 11 = .ok (.aload_n 0, 1) := by decide +kernel
theorem d4_12 : decode prog_123_method_3_code 12 = .ok (.getfield 16, 3) := by decide +kernel
theorem d4_15 : decode prog_123_method_3_code 15 = .ok (.aload_n 1, 1) := by decide +kernel
theorem d4_16 : decode prog_123_method_3_code 16 = .ok (.getfield 16, 3) := by decide +kernel
theorem d4_19 : decode prog_123_method_3_code 19 = .ok (.if_icmp .ne 51, 3) := by decide +kernel
theorem d4_22 : decode prog_123_method_3_code 22 = .ok (.aload_n 0, 1) := by decide +kernel
theorem d4_23 : decode prog_123_method_3_code 23 = .ok (.getfield 25, 3) := by decide +kernel
theorem d4_26 : decode prog_123_method_3_code 26 = .ok (.aload_n 1, 1) := by decide +kernel
theorem d4_27 : decode prog_123_method_3_code 27 = .ok (.getfield 25, 3) := by decide +kernel
theorem d4_30 : decode prog_123_method_3_code 30 = .ok (.if_icmp .ne 40, 3) := by decide +kernel
theorem d4_33 : decode prog_123_method_3_code 33 = .ok (.aload_n 0, 1) := by decide +kernel
theorem d4_34 : decode prog_123_method_3_code 34 = .ok (.getfield 28, 3) := by decide +kernel
theorem d4_37 : decode prog_123_method_3_code 37 = .ok (.aload_n 1, 1) := by decide +kernel
theorem d4_38 : decode prog_123_method_3_code 38 = .ok (.getfield 28, 3) := by decide +kernel
theorem d4_41 : decode prog_123_method_3_code 41 = .ok (.if_icmp .ne 29, 3) := by decide +kernel
theorem d4_44 : decode prog_123_method_3_code 44 = .ok (.aload_n 0, 1) := by decide +kernel
theorem d4_45 : decode prog_123_method_3_code 45 = .ok (.getfield 31, 3) := by decide +kernel
theorem d4_48 : decode prog_123_method_3_code 48 = .ok (.aload_n 1, 1) := by decide +kernel
theorem d4_49 : decode prog_123_method_3_code 49 = .ok (.getfield 31, 3) := by decide +kernel
theorem d4_52 : decode prog_123_method_3_code 52 = .ok (.if_icmp .ne 18, 3) := by decide +kernel
theorem d4_55 : decode prog_123_method_3_code 55 = .ok (.aload_n 0, 1) := by decide +kernel
theorem d4_56 : decode prog_123_method_3_code 56 = .ok (.getfield 34, 3) := by decide +kernel
theorem d4_59 : decode prog_123_method_3_code 59 = .ok (.aload_n 1, 1) := by decide +kernel
theorem d4_60 : decode prog_123_method_3_code 60 = .ok (.getfield 34, 3) := by decide +kernel
theorem d4_63 : decode prog_123_method_3_code 63 = .ok (.if_icmp .ne 7, 3) := by decide +kernel
theorem d4_66 : decode prog_123_method_3_code 66 = .ok (.iconst 1, 1) := by decide +kernel
theorem d4_67 : decode prog_123_method_3_code 67 = .ok (.goto 4, 3) := by decide +kernel
theorem d4_70 : decode prog_123_method_3_code 70 = .ok (.iconst 0, 1) := by decide +kernel
theorem d4_71 : decode prog_123_method_3_code 71 = .ok (.ireturn, 1) := by decide +kernel
theorem ef_4 (m : MethodId) (o0 : Addr) (o1 : Addr) : entryFrame m #[(.ref o0), (.ref o1)] 2 = mkF m 0 #[.val (.ref o0), .val (.ref o1)] [] := by first | (simp [entryFrame, mkF, argsToLocals, Value.category]; done) | rfl
def v4_1 (w0_ctimeSeconds : Int32) (w1_ctimeSeconds : Int32) (w2_mtimeSeconds : Int32) (w3_mtimeSeconds : Int32) (w4_inode : Int32) (w5_inode : Int32) (w6_uid : Int32) (w7_uid : Int32) (w8_gid : Int32) (w9_gid : Int32) (w10_size : Int32) (w11_size : Int32) : Int32 := (if w0_ctimeSeconds = w1_ctimeSeconds then (if w2_mtimeSeconds = w3_mtimeSeconds then (if w4_inode = w5_inode then (if w6_uid = w7_uid then (if w8_gid = w9_gid then (if w10_size = w11_size then (1 : Int32) else (0 : Int32)) else (0 : Int32)) else (0 : Int32)) else (0 : Int32)) else (0 : Int32)) else (0 : Int32))
def f4 (w0_ctimeSeconds : Int32) (w1_ctimeSeconds : Int32) (w2_mtimeSeconds : Int32) (w3_mtimeSeconds : Int32) (w4_inode : Int32) (w5_inode : Int32) (w6_uid : Int32) (w7_uid : Int32) (w8_gid : Int32) (w9_gid : Int32) (w10_size : Int32) (w11_size : Int32) : Int32 := (nar .boolean (v4_1 w0_ctimeSeconds w1_ctimeSeconds w2_mtimeSeconds w3_mtimeSeconds w4_inode w5_inode w6_uid w7_uid w8_gid w9_gid w10_size w11_size))
def Q4 (Z : State) (o0 : Addr) (o1 : Addr) (w0_ctimeSeconds : Int32) (w1_ctimeSeconds : Int32) (w2_mtimeSeconds : Int32) (w3_mtimeSeconds : Int32) (w4_inode : Int32) (w5_inode : Int32) (w6_uid : Int32) (w7_uid : Int32) (w8_gid : Int32) (w9_gid : Int32) (w10_size : Int32) (w11_size : Int32) (h0 : Heap) (n0 : Nat) (v : Option Value) (h : Heap) (L : List Loc) : Prop := Fr n0 L ∧ v = some (.int (f4 w0_ctimeSeconds w1_ctimeSeconds w2_mtimeSeconds w3_mtimeSeconds w4_inode w5_inode w6_uid w7_uid w8_gid w9_gid w10_size w11_size)) ∧ h = h0
set_option maxRecDepth 65536 in
set_option maxHeartbeats 40000000 in
theorem rm4 (l : Launch) (Z : State) (a0 : Array Value) (hw : ∀ d ∈ tables_1, d.before a0 Z = true) (ws : List Jvm.Cond) (o0 : Addr) (o1 : Addr) (w0_ctimeSeconds : Int32) (w1_ctimeSeconds : Int32) (w2_mtimeSeconds : Int32) (w3_mtimeSeconds : Int32) (w4_inode : Int32) (w5_inode : Int32) (w6_uid : Int32) (w7_uid : Int32) (w8_gid : Int32) (w9_gid : Int32) (w10_size : Int32) (w11_size : Int32) (h0 : Heap) (n0 : Nat) (Z0 : n0 ≤ h0.size) (F_ctimeSeconds_o0 : Fld Z h0 o0 "com/example/ashlar/ashlar/worktree/StatData" "ctimeSeconds" "I" (.int w0_ctimeSeconds)) (F_ctimeSeconds_o1 : Fld Z h0 o1 "com/example/ashlar/ashlar/worktree/StatData" "ctimeSeconds" "I" (.int w1_ctimeSeconds)) (F_mtimeSeconds_o0 : Fld Z h0 o0 "com/example/ashlar/ashlar/worktree/StatData" "mtimeSeconds" "I" (.int w2_mtimeSeconds)) (F_mtimeSeconds_o1 : Fld Z h0 o1 "com/example/ashlar/ashlar/worktree/StatData" "mtimeSeconds" "I" (.int w3_mtimeSeconds)) (F_inode_o0 : Fld Z h0 o0 "com/example/ashlar/ashlar/worktree/StatData" "inode" "I" (.int w4_inode)) (F_inode_o1 : Fld Z h0 o1 "com/example/ashlar/ashlar/worktree/StatData" "inode" "I" (.int w5_inode)) (F_uid_o0 : Fld Z h0 o0 "com/example/ashlar/ashlar/worktree/StatData" "uid" "I" (.int w6_uid)) (F_uid_o1 : Fld Z h0 o1 "com/example/ashlar/ashlar/worktree/StatData" "uid" "I" (.int w7_uid)) (F_gid_o0 : Fld Z h0 o0 "com/example/ashlar/ashlar/worktree/StatData" "gid" "I" (.int w8_gid)) (F_gid_o1 : Fld Z h0 o1 "com/example/ashlar/ashlar/worktree/StatData" "gid" "I" (.int w9_gid)) (F_size_o0 : Fld Z h0 o0 "com/example/ashlar/ashlar/worktree/StatData" "size" "I" (.int w10_size)) (F_size_o1 : Fld Z h0 o1 "com/example/ashlar/ashlar/worktree/StatData" "size" "I" (.int w11_size)) :
    MetFree l (⟨"com/example/ashlar/ashlar/worktree/StatData", "matches", "(Lcom/example/ashlar/ashlar/worktree/StatData;)Z"⟩ : MethodName) (head1 (Jvm.Cond.code (⟨"com/example/ashlar/ashlar/worktree/StatData", "matches", "(Lcom/example/ashlar/ashlar/worktree/StatData;)Z"⟩ : MethodName) prog_123_method_3_code 2 (some .boolean) :: ws) ({ frames := 0, cells := 0, slots := 0, locals := 0 } : Room)) (fun a U => a = #[(.ref o0), (.ref o1)] ∧ Z.Warmed39 U.vm ∧ U.heap = h0) (fun _ _ _ _ _ => True) (fun _ U o U' => ∃ v L, o = .returned v ∧ Q4 Z o0 o1 w0_ctimeSeconds w1_ctimeSeconds w2_mtimeSeconds w3_mtimeSeconds w4_inode w5_inode w6_uid w7_uid w8_gid w9_gid w10_size w11_size h0 n0 v U'.heap L ∧ FrameEnd U o U' L ({ frames := 0, cells := 0, slots := 0, locals := 0 } : Room).cells ({ frames := 0, cells := 0, slots := 0, locals := 0 } : Room).slots) := by
  refine MetFree.of_bodySF (plainFor_of_name pn_com_example_ashlar_ashlar_worktree_StatData) hisR ?_
  intro p e s m args below meth c s₁ Bd hml0 hP hK
  obtain ⟨rfl, hZ, hh⟩ := hP
  have hx := Bd.exec
  have hby := Bd.bytes
  have hml : c.maxLocals = 2 := hml0
  have hown : s.vm.findClass "com/example/ashlar/ashlar/worktree/StatData" = some m.cls := findClass_of_methodNamed Bd.named
  have hnm := (name_of_methodNamed Bd.named Bd.method).1
  have hlk := BodyLoose.notSynchronized Bd
  have X0 : Stand p l e ({ frames := 0, cells := 0, slots := 0, locals := 0 } : Room) s m #[(.ref o0), (.ref o1)] below meth c s₁ [] 0 0 := Stand.of_body Bd
  have e0 : s₁.heap = h0 := by rw [← hh, Bd.state]; rfl
  have N0 := Fr.nil n0
  have pre0 : ∀ t, Steps p.tables e below (s₁.setTop (mkF m 0 #[.val (.ref o0), .val (.ref o1)] [])) t → Steps p.tables e below (s₁.setTop (entryFrame m #[(.ref o0), (.ref o1)] 2)) t := fun t k => castTop (ef_4 m o0 o1) k
  obtain ⟨T1, X1, e1, st1⟩ := getF X0 hx hZ hown (host := "") (Or.inl (hw _ (List.mem_of_getElem? (i := 16) rfl))) Via.refl e0 F_ctimeSeconds_o0 (g := (mkF m 1 #[.val (.ref o0), .val (.ref o1)] [(.ref o0)])) rfl rfl (hb hby d4_1)
  obtain ⟨T2, X2, e2, st2⟩ := getF X1 hx hZ hown (host := "") (Or.inl (hw _ (List.mem_of_getElem? (i := 16) rfl))) Via.refl e1 F_ctimeSeconds_o1 (g := (mkF m 5 #[.val (.ref o0), .val (.ref o1)] [(.ref o1), (.int w0_ctimeSeconds)])) rfl rfl (hb hby d4_5)
  have pre3 : ∀ t, Steps p.tables e below (T2.setTop (mkF m 8 #[.val (.ref o0), .val (.ref o1)] [(.int w1_ctimeSeconds), (.int w0_ctimeSeconds)])) t → Steps p.tables e below (s₁.setTop (entryFrame m #[(.ref o0), (.ref o1)] 2)) t := by
    intro t k
    refine pre0 t ?_
    show Steps p.tables e below (s₁.setTop (mkF m 0 #[.val (.ref o0), .val (.ref o1)] [])) _
    refine XS.aloadN X0.here hx rfl (hb hby d4_0) rfl rfl ?_
    show Steps p.tables e below (s₁.setTop (mkF m 1 #[.val (.ref o0), .val (.ref o1)] [(.ref o0)])) _
    refine st1 _ ?_
    show Steps p.tables e below (T1.setTop (mkF m 4 #[.val (.ref o0), .val (.ref o1)] [(.int w0_ctimeSeconds)])) _
    refine XS.aloadN X1.here hx rfl (hb hby d4_4) rfl rfl ?_
    show Steps p.tables e below (T1.setTop (mkF m 5 #[.val (.ref o0), .val (.ref o1)] [(.ref o1), (.int w0_ctimeSeconds)])) _
    refine st2 _ ?_
    exact k
  clear pre0 st1 st2
  obtain ⟨T25, L25, X25, e25, N25, pre25⟩ : ∃ (T' : State) (L' : List Loc), Stand p l e ({ frames := 0, cells := 0, slots := 0, locals := 0 } : Room) s m #[(.ref o0), (.ref o1)] below meth c T' L' 0 0 ∧ T'.heap = h0 ∧ Fr n0 L' ∧ ∀ t, Steps p.tables e below (T'.setTop (mkF m 71 #[.val (.ref o0), .val (.ref o1)] [(.int (v4_1 w0_ctimeSeconds w1_ctimeSeconds w2_mtimeSeconds w3_mtimeSeconds w4_inode w5_inode w6_uid w7_uid w8_gid w9_gid w10_size w11_size))])) t → Steps p.tables e below (s₁.setTop (entryFrame m #[(.ref o0), (.ref o1)] 2)) t := by
    by_cases c4 : w0_ctimeSeconds = w1_ctimeSeconds
    · skip
      obtain ⟨T5, X5, e5, st5⟩ := getF X2 hx hZ hown (host := "") (Or.inl (hw _ (List.mem_of_getElem? (i := 20) rfl))) Via.refl e2 F_mtimeSeconds_o0 (g := (mkF m 12 #[.val (.ref o0), .val (.ref o1)] [(.ref o0)])) rfl rfl (hb hby d4_12)
      obtain ⟨T6, X6, e6, st6⟩ := getF X5 hx hZ hown (host := "") (Or.inl (hw _ (List.mem_of_getElem? (i := 20) rfl))) Via.refl e5 F_mtimeSeconds_o1 (g := (mkF m 16 #[.val (.ref o0), .val (.ref o1)] [(.ref o1), (.int w2_mtimeSeconds)])) rfl rfl (hb hby d4_16)
      have pre7 : ∀ t, Steps p.tables e below (T6.setTop (mkF m 19 #[.val (.ref o0), .val (.ref o1)] [(.int w3_mtimeSeconds), (.int w2_mtimeSeconds)])) t → Steps p.tables e below (s₁.setTop (entryFrame m #[(.ref o0), (.ref o1)] 2)) t := by
        intro t k
        refine pre3 t ?_
        show Steps p.tables e below (T2.setTop (mkF m 8 #[.val (.ref o0), .val (.ref o1)] [(.int w1_ctimeSeconds), (.int w0_ctimeSeconds)])) _
        refine XS.icmpNo X2.here hx rfl (hb hby d4_8) rfl (XT.ii_ne_f c4) ?_
        show Steps p.tables e below (T2.setTop (mkF m 11 #[.val (.ref o0), .val (.ref o1)] [])) _
        refine XS.aloadN X2.here hx rfl (hb hby d4_11) rfl rfl ?_
        show Steps p.tables e below (T2.setTop (mkF m 12 #[.val (.ref o0), .val (.ref o1)] [(.ref o0)])) _
        refine st5 _ ?_
        show Steps p.tables e below (T5.setTop (mkF m 15 #[.val (.ref o0), .val (.ref o1)] [(.int w2_mtimeSeconds)])) _
        refine XS.aloadN X5.here hx rfl (hb hby d4_15) rfl rfl ?_
        show Steps p.tables e below (T5.setTop (mkF m 16 #[.val (.ref o0), .val (.ref o1)] [(.ref o1), (.int w2_mtimeSeconds)])) _
        refine st6 _ ?_
        exact k
      clear pre3 st5 st6
      by_cases c8 : w2_mtimeSeconds = w3_mtimeSeconds
      · skip
        obtain ⟨T9, X9, e9, st9⟩ := getF X6 hx hZ hown (host := "") (Or.inl (hw _ (List.mem_of_getElem? (i := 26) rfl))) Via.refl e6 F_inode_o0 (g := (mkF m 23 #[.val (.ref o0), .val (.ref o1)] [(.ref o0)])) rfl rfl (hb hby d4_23)
        obtain ⟨T10, X10, e10, st10⟩ := getF X9 hx hZ hown (host := "") (Or.inl (hw _ (List.mem_of_getElem? (i := 26) rfl))) Via.refl e9 F_inode_o1 (g := (mkF m 27 #[.val (.ref o0), .val (.ref o1)] [(.ref o1), (.int w4_inode)])) rfl rfl (hb hby d4_27)
        have pre11 : ∀ t, Steps p.tables e below (T10.setTop (mkF m 30 #[.val (.ref o0), .val (.ref o1)] [(.int w5_inode), (.int w4_inode)])) t → Steps p.tables e below (s₁.setTop (entryFrame m #[(.ref o0), (.ref o1)] 2)) t := by
          intro t k
          refine pre7 t ?_
          show Steps p.tables e below (T6.setTop (mkF m 19 #[.val (.ref o0), .val (.ref o1)] [(.int w3_mtimeSeconds), (.int w2_mtimeSeconds)])) _
          refine XS.icmpNo X6.here hx rfl (hb hby d4_19) rfl (XT.ii_ne_f c8) ?_
          show Steps p.tables e below (T6.setTop (mkF m 22 #[.val (.ref o0), .val (.ref o1)] [])) _
          refine XS.aloadN X6.here hx rfl (hb hby d4_22) rfl rfl ?_
          show Steps p.tables e below (T6.setTop (mkF m 23 #[.val (.ref o0), .val (.ref o1)] [(.ref o0)])) _
          refine st9 _ ?_
          show Steps p.tables e below (T9.setTop (mkF m 26 #[.val (.ref o0), .val (.ref o1)] [(.int w4_inode)])) _
          refine XS.aloadN X9.here hx rfl (hb hby d4_26) rfl rfl ?_
          show Steps p.tables e below (T9.setTop (mkF m 27 #[.val (.ref o0), .val (.ref o1)] [(.ref o1), (.int w4_inode)])) _
          refine st10 _ ?_
          exact k
        clear pre7 st9 st10
        by_cases c12 : w4_inode = w5_inode
        · skip
          obtain ⟨T13, X13, e13, st13⟩ := getF X10 hx hZ hown (host := "") (Or.inl (hw _ (List.mem_of_getElem? (i := 28) rfl))) Via.refl e10 F_uid_o0 (g := (mkF m 34 #[.val (.ref o0), .val (.ref o1)] [(.ref o0)])) rfl rfl (hb hby d4_34)
          obtain ⟨T14, X14, e14, st14⟩ := getF X13 hx hZ hown (host := "") (Or.inl (hw _ (List.mem_of_getElem? (i := 28) rfl))) Via.refl e13 F_uid_o1 (g := (mkF m 38 #[.val (.ref o0), .val (.ref o1)] [(.ref o1), (.int w6_uid)])) rfl rfl (hb hby d4_38)
          have pre15 : ∀ t, Steps p.tables e below (T14.setTop (mkF m 41 #[.val (.ref o0), .val (.ref o1)] [(.int w7_uid), (.int w6_uid)])) t → Steps p.tables e below (s₁.setTop (entryFrame m #[(.ref o0), (.ref o1)] 2)) t := by
            intro t k
            refine pre11 t ?_
            show Steps p.tables e below (T10.setTop (mkF m 30 #[.val (.ref o0), .val (.ref o1)] [(.int w5_inode), (.int w4_inode)])) _
            refine XS.icmpNo X10.here hx rfl (hb hby d4_30) rfl (XT.ii_ne_f c12) ?_
            show Steps p.tables e below (T10.setTop (mkF m 33 #[.val (.ref o0), .val (.ref o1)] [])) _
            refine XS.aloadN X10.here hx rfl (hb hby d4_33) rfl rfl ?_
            show Steps p.tables e below (T10.setTop (mkF m 34 #[.val (.ref o0), .val (.ref o1)] [(.ref o0)])) _
            refine st13 _ ?_
            show Steps p.tables e below (T13.setTop (mkF m 37 #[.val (.ref o0), .val (.ref o1)] [(.int w6_uid)])) _
            refine XS.aloadN X13.here hx rfl (hb hby d4_37) rfl rfl ?_
            show Steps p.tables e below (T13.setTop (mkF m 38 #[.val (.ref o0), .val (.ref o1)] [(.ref o1), (.int w6_uid)])) _
            refine st14 _ ?_
            exact k
          clear pre11 st13 st14
          by_cases c16 : w6_uid = w7_uid
          · skip
            obtain ⟨T17, X17, e17, st17⟩ := getF X14 hx hZ hown (host := "") (Or.inl (hw _ (List.mem_of_getElem? (i := 30) rfl))) Via.refl e14 F_gid_o0 (g := (mkF m 45 #[.val (.ref o0), .val (.ref o1)] [(.ref o0)])) rfl rfl (hb hby d4_45)
            obtain ⟨T18, X18, e18, st18⟩ := getF X17 hx hZ hown (host := "") (Or.inl (hw _ (List.mem_of_getElem? (i := 30) rfl))) Via.refl e17 F_gid_o1 (g := (mkF m 49 #[.val (.ref o0), .val (.ref o1)] [(.ref o1), (.int w8_gid)])) rfl rfl (hb hby d4_49)
            have pre19 : ∀ t, Steps p.tables e below (T18.setTop (mkF m 52 #[.val (.ref o0), .val (.ref o1)] [(.int w9_gid), (.int w8_gid)])) t → Steps p.tables e below (s₁.setTop (entryFrame m #[(.ref o0), (.ref o1)] 2)) t := by
              intro t k
              refine pre15 t ?_
              show Steps p.tables e below (T14.setTop (mkF m 41 #[.val (.ref o0), .val (.ref o1)] [(.int w7_uid), (.int w6_uid)])) _
              refine XS.icmpNo X14.here hx rfl (hb hby d4_41) rfl (XT.ii_ne_f c16) ?_
              show Steps p.tables e below (T14.setTop (mkF m 44 #[.val (.ref o0), .val (.ref o1)] [])) _
              refine XS.aloadN X14.here hx rfl (hb hby d4_44) rfl rfl ?_
              show Steps p.tables e below (T14.setTop (mkF m 45 #[.val (.ref o0), .val (.ref o1)] [(.ref o0)])) _
              refine st17 _ ?_
              show Steps p.tables e below (T17.setTop (mkF m 48 #[.val (.ref o0), .val (.ref o1)] [(.int w8_gid)])) _
              refine XS.aloadN X17.here hx rfl (hb hby d4_48) rfl rfl ?_
              show Steps p.tables e below (T17.setTop (mkF m 49 #[.val (.ref o0), .val (.ref o1)] [(.ref o1), (.int w8_gid)])) _
              refine st18 _ ?_
              exact k
            clear pre15 st17 st18
            by_cases c20 : w8_gid = w9_gid
            · skip
              obtain ⟨T21, X21, e21, st21⟩ := getF X18 hx hZ hown (host := "") (Or.inl (hw _ (List.mem_of_getElem? (i := 32) rfl))) Via.refl e18 F_size_o0 (g := (mkF m 56 #[.val (.ref o0), .val (.ref o1)] [(.ref o0)])) rfl rfl (hb hby d4_56)
              obtain ⟨T22, X22, e22, st22⟩ := getF X21 hx hZ hown (host := "") (Or.inl (hw _ (List.mem_of_getElem? (i := 32) rfl))) Via.refl e21 F_size_o1 (g := (mkF m 60 #[.val (.ref o0), .val (.ref o1)] [(.ref o1), (.int w10_size)])) rfl rfl (hb hby d4_60)
              have pre23 : ∀ t, Steps p.tables e below (T22.setTop (mkF m 63 #[.val (.ref o0), .val (.ref o1)] [(.int w11_size), (.int w10_size)])) t → Steps p.tables e below (s₁.setTop (entryFrame m #[(.ref o0), (.ref o1)] 2)) t := by
                intro t k
                refine pre19 t ?_
                show Steps p.tables e below (T18.setTop (mkF m 52 #[.val (.ref o0), .val (.ref o1)] [(.int w9_gid), (.int w8_gid)])) _
                refine XS.icmpNo X18.here hx rfl (hb hby d4_52) rfl (XT.ii_ne_f c20) ?_
                show Steps p.tables e below (T18.setTop (mkF m 55 #[.val (.ref o0), .val (.ref o1)] [])) _
                refine XS.aloadN X18.here hx rfl (hb hby d4_55) rfl rfl ?_
                show Steps p.tables e below (T18.setTop (mkF m 56 #[.val (.ref o0), .val (.ref o1)] [(.ref o0)])) _
                refine st21 _ ?_
                show Steps p.tables e below (T21.setTop (mkF m 59 #[.val (.ref o0), .val (.ref o1)] [(.int w10_size)])) _
                refine XS.aloadN X21.here hx rfl (hb hby d4_59) rfl rfl ?_
                show Steps p.tables e below (T21.setTop (mkF m 60 #[.val (.ref o0), .val (.ref o1)] [(.ref o1), (.int w10_size)])) _
                refine st22 _ ?_
                exact k
              clear pre19 st21 st22
              by_cases c24 : w10_size = w11_size
              · skip
                refine ⟨T22, _, X22, e22, N0, fun t k => ?_⟩
                rw [show (v4_1 w0_ctimeSeconds w1_ctimeSeconds w2_mtimeSeconds w3_mtimeSeconds w4_inode w5_inode w6_uid w7_uid w8_gid w9_gid w10_size w11_size) = (1 : Int32) from ((((((if_pos c4).trans (if_pos c8)).trans (if_pos c12)).trans (if_pos c16)).trans (if_pos c20)).trans (if_pos c24))] at k
                refine pre23 t ?_
                show Steps p.tables e below (T22.setTop (mkF m 63 #[.val (.ref o0), .val (.ref o1)] [(.int w11_size), (.int w10_size)])) _
                refine XS.icmpNo X22.here hx rfl (hb hby d4_63) rfl (XT.ii_ne_f c24) ?_
                show Steps p.tables e below (T22.setTop (mkF m 66 #[.val (.ref o0), .val (.ref o1)] [])) _
                refine XT.iconstV X22.here hx rfl (1 : Int32) (hb hby d4_66) (by decide) ?_
                show Steps p.tables e below (T22.setTop (mkF m 67 #[.val (.ref o0), .val (.ref o1)] [(.int (1 : Int32))])) _
                refine XS.goto X22.here hx rfl (pc0 := 67) (pc' := 71) rfl (hb hby d4_67) (by decide) (by decide) ?_
                exact k
              · skip
                refine ⟨T22, _, X22, e22, N0, fun t k => ?_⟩
                rw [show (v4_1 w0_ctimeSeconds w1_ctimeSeconds w2_mtimeSeconds w3_mtimeSeconds w4_inode w5_inode w6_uid w7_uid w8_gid w9_gid w10_size w11_size) = (0 : Int32) from ((((((if_pos c4).trans (if_pos c8)).trans (if_pos c12)).trans (if_pos c16)).trans (if_pos c20)).trans (if_neg c24))] at k
                refine pre23 t ?_
                show Steps p.tables e below (T22.setTop (mkF m 63 #[.val (.ref o0), .val (.ref o1)] [(.int w11_size), (.int w10_size)])) _
                refine XS.icmpYes X22.here hx rfl (pc0 := 63) (pc' := 70) rfl (hb hby d4_63) rfl (XT.ii_ne_t c24) (by decide) (by decide) ?_
                show Steps p.tables e below (T22.setTop (mkF m 70 #[.val (.ref o0), .val (.ref o1)] [])) _
                refine XT.iconstV X22.here hx rfl (0 : Int32) (hb hby d4_70) (by decide) ?_
                exact k
            · skip
              refine ⟨T18, _, X18, e18, N0, fun t k => ?_⟩
              rw [show (v4_1 w0_ctimeSeconds w1_ctimeSeconds w2_mtimeSeconds w3_mtimeSeconds w4_inode w5_inode w6_uid w7_uid w8_gid w9_gid w10_size w11_size) = (0 : Int32) from (((((if_pos c4).trans (if_pos c8)).trans (if_pos c12)).trans (if_pos c16)).trans (if_neg c20))] at k
              refine pre19 t ?_
              show Steps p.tables e below (T18.setTop (mkF m 52 #[.val (.ref o0), .val (.ref o1)] [(.int w9_gid), (.int w8_gid)])) _
              refine XS.icmpYes X18.here hx rfl (pc0 := 52) (pc' := 70) rfl (hb hby d4_52) rfl (XT.ii_ne_t c20) (by decide) (by decide) ?_
              show Steps p.tables e below (T18.setTop (mkF m 70 #[.val (.ref o0), .val (.ref o1)] [])) _
              refine XT.iconstV X18.here hx rfl (0 : Int32) (hb hby d4_70) (by decide) ?_
              exact k
          · skip
            refine ⟨T14, _, X14, e14, N0, fun t k => ?_⟩
            rw [show (v4_1 w0_ctimeSeconds w1_ctimeSeconds w2_mtimeSeconds w3_mtimeSeconds w4_inode w5_inode w6_uid w7_uid w8_gid w9_gid w10_size w11_size) = (0 : Int32) from ((((if_pos c4).trans (if_pos c8)).trans (if_pos c12)).trans (if_neg c16))] at k
            refine pre15 t ?_
            show Steps p.tables e below (T14.setTop (mkF m 41 #[.val (.ref o0), .val (.ref o1)] [(.int w7_uid), (.int w6_uid)])) _
            refine XS.icmpYes X14.here hx rfl (pc0 := 41) (pc' := 70) rfl (hb hby d4_41) rfl (XT.ii_ne_t c16) (by decide) (by decide) ?_
            show Steps p.tables e below (T14.setTop (mkF m 70 #[.val (.ref o0), .val (.ref o1)] [])) _
            refine XT.iconstV X14.here hx rfl (0 : Int32) (hb hby d4_70) (by decide) ?_
            exact k
        · skip
          refine ⟨T10, _, X10, e10, N0, fun t k => ?_⟩
          rw [show (v4_1 w0_ctimeSeconds w1_ctimeSeconds w2_mtimeSeconds w3_mtimeSeconds w4_inode w5_inode w6_uid w7_uid w8_gid w9_gid w10_size w11_size) = (0 : Int32) from (((if_pos c4).trans (if_pos c8)).trans (if_neg c12))] at k
          refine pre11 t ?_
          show Steps p.tables e below (T10.setTop (mkF m 30 #[.val (.ref o0), .val (.ref o1)] [(.int w5_inode), (.int w4_inode)])) _
          refine XS.icmpYes X10.here hx rfl (pc0 := 30) (pc' := 70) rfl (hb hby d4_30) rfl (XT.ii_ne_t c12) (by decide) (by decide) ?_
          show Steps p.tables e below (T10.setTop (mkF m 70 #[.val (.ref o0), .val (.ref o1)] [])) _
          refine XT.iconstV X10.here hx rfl (0 : Int32) (hb hby d4_70) (by decide) ?_
          exact k
      · skip
        refine ⟨T6, _, X6, e6, N0, fun t k => ?_⟩
        rw [show (v4_1 w0_ctimeSeconds w1_ctimeSeconds w2_mtimeSeconds w3_mtimeSeconds w4_inode w5_inode w6_uid w7_uid w8_gid w9_gid w10_size w11_size) = (0 : Int32) from ((if_pos c4).trans (if_neg c8))] at k
        refine pre7 t ?_
        show Steps p.tables e below (T6.setTop (mkF m 19 #[.val (.ref o0), .val (.ref o1)] [(.int w3_mtimeSeconds), (.int w2_mtimeSeconds)])) _
        refine XS.icmpYes X6.here hx rfl (pc0 := 19) (pc' := 70) rfl (hb hby d4_19) rfl (XT.ii_ne_t c8) (by decide) (by decide) ?_
        show Steps p.tables e below (T6.setTop (mkF m 70 #[.val (.ref o0), .val (.ref o1)] [])) _
        refine XT.iconstV X6.here hx rfl (0 : Int32) (hb hby d4_70) (by decide) ?_
        exact k
    · skip
      refine ⟨T2, _, X2, e2, N0, fun t k => ?_⟩
      rw [show (v4_1 w0_ctimeSeconds w1_ctimeSeconds w2_mtimeSeconds w3_mtimeSeconds w4_inode w5_inode w6_uid w7_uid w8_gid w9_gid w10_size w11_size) = (0 : Int32) from (if_neg c4)] at k
      refine pre3 t ?_
      show Steps p.tables e below (T2.setTop (mkF m 8 #[.val (.ref o0), .val (.ref o1)] [(.int w1_ctimeSeconds), (.int w0_ctimeSeconds)])) _
      refine XS.icmpYes X2.here hx rfl (pc0 := 8) (pc' := 70) rfl (hb hby d4_8) rfl (XT.ii_ne_t c4) (by decide) (by decide) ?_
      show Steps p.tables e below (T2.setTop (mkF m 70 #[.val (.ref o0), .val (.ref o1)] [])) _
      refine XT.iconstV X2.here hx rfl (0 : Int32) (hb hby d4_70) (by decide) ?_
      exact k
  obtain ⟨fs, hr, hrun, hended, hW, hsame⟩ := X25.leave (v := some (.int (nar .boolean (v4_1 w0_ctimeSeconds w1_ctimeSeconds w2_mtimeSeconds w3_mtimeSeconds w4_inode w5_inode w6_uid w7_uid w8_gid w9_gid w10_size w11_size)))) (fun h => by rw [Bd.returns] at h; cases h) hlk
  refine ⟨_, _, pre25 _ ?_, hrun, hended, _, _, rfl, ?_, ⟨_, rfl⟩, hW, hsame.mono (by decide) (by decide)⟩
  · skip
    show Steps p.tables e below (T25.setTop (mkF m 71 #[.val (.ref o0), .val (.ref o1)] [(.int (v4_1 w0_ctimeSeconds w1_ctimeSeconds w2_mtimeSeconds w3_mtimeSeconds w4_inode w5_inode w6_uid w7_uid w8_gid w9_gid w10_size w11_size))])) _
    exact retN X25 hx (t := .boolean) Bd.returns (by simp) (hb hby d4_71) hr
  · skip
    show Q4 Z o0 o1 w0_ctimeSeconds w1_ctimeSeconds w2_mtimeSeconds w3_mtimeSeconds w4_inode w5_inode w6_uid w7_uid w8_gid w9_gid w10_size w11_size h0 n0 _ T25.heap _
    rw [e25]
    exact ⟨N25, rfl, rfl⟩
theorem pd__IIIIIIIII_V : parseMethodDescriptor "(IIIIIIIII)V" = some ⟨[.int, .int, .int, .int, .int, .int, .int, .int, .int], none⟩ := by decide +kernel
theorem pd__Lcom_example_ashlar_ashlar_worktree_StatData__Z : parseMethodDescriptor "(Lcom/example/ashlar/ashlar/worktree/StatData;)Z" = some ⟨[(.object "com/example/ashlar/ashlar/worktree/StatData")], some .boolean⟩ := by decide +kernel
theorem pn_com_example_ashlar_ashlar_worktree_StatDataMatchesPinLaw : plainName "com/example/ashlar/ashlar/worktree/StatDataMatchesPinLaw" = true := by first | (simp [plainName, overriddenIn]; done) | decide +kernel
theorem ef_0 (m : MethodId) (p0 : Int32) (p1 : Int32) (p2 : Int32) (p3 : Int32) (p4 : Int32) (p5 : Int32) : entryFrame m #[(.int p0), (.int p1), (.int p2), (.int p3), (.int p4), (.int p5)] maxLocals = mkF m 0 #[.val (.int p0), .val (.int p1), .val (.int p2), .val (.int p3), .val (.int p4), .val (.int p5), .unset, .unset, .unset, .unset, .unset, .unset, .unset] [] := by first | (simp [entryFrame, mkF, argsToLocals, Value.category, maxLocals]; done) | rfl
def v0_1 (p0 : Int32) (p1 : Int32) (p2 : Int32) (p3 : Int32) (p4 : Int32) (p5 : Int32) : Int32 := (p3 &&& (2147483647 : Int32))
def v0_2 (p0 : Int32) (p1 : Int32) (p2 : Int32) (p3 : Int32) (p4 : Int32) (p5 : Int32) : Int32 := ((v0_1 p0 p1 p2 p3 p4 p5) - ((v0_1 p0 p1 p2 p3 p4 p5) / (9 : Int32)) * (9 : Int32))
def v0_3 (p0 : Int32) (p1 : Int32) (p2 : Int32) (p3 : Int32) (p4 : Int32) (p5 : Int32) : Int32 := (p0 + p1)
def v0_4 (p0 : Int32) (p1 : Int32) (p2 : Int32) (p3 : Int32) (p4 : Int32) (p5 : Int32) : Int32 := (p1 + p2)
def v0_5 (p0 : Int32) (p1 : Int32) (p2 : Int32) (p3 : Int32) (p4 : Int32) (p5 : Int32) : Int32 := (p2 + p0)
def v0_6 (p0 : Int32) (p1 : Int32) (p2 : Int32) (p3 : Int32) (p4 : Int32) (p5 : Int32) : Int32 := (p0 ^^^ p1)
def v0_7 (p0 : Int32) (p1 : Int32) (p2 : Int32) (p3 : Int32) (p4 : Int32) (p5 : Int32) : Int32 := (p1 ^^^ p2)
def v0_8 (p0 : Int32) (p1 : Int32) (p2 : Int32) (p3 : Int32) (p4 : Int32) (p5 : Int32) : Int32 := (p0 - p2)
def v0_9 (p0 : Int32) (p1 : Int32) (p2 : Int32) (p3 : Int32) (p4 : Int32) (p5 : Int32) : Int32 := ((own_pick (v0_2 p0 p1 p2 p3 p4 p5) p0 p1 p2 (v0_3 p0 p1 p2 p3 p4 p5) (v0_4 p0 p1 p2 p3 p4 p5) (v0_5 p0 p1 p2 p3 p4 p5) (v0_6 p0 p1 p2 p3 p4 p5) (v0_7 p0 p1 p2 p3 p4 p5) (v0_8 p0 p1 p2 p3 p4 p5)) + p4)
def v0_10 (p0 : Int32) (p1 : Int32) (p2 : Int32) (p3 : Int32) (p4 : Int32) (p5 : Int32) : Int32 := (own_put (v0_2 p0 p1 p2 p3 p4 p5) (0 : Int32) (v0_9 p0 p1 p2 p3 p4 p5) p0)
def v0_11 (p0 : Int32) (p1 : Int32) (p2 : Int32) (p3 : Int32) (p4 : Int32) (p5 : Int32) : Int32 := (own_put (v0_2 p0 p1 p2 p3 p4 p5) (1 : Int32) (v0_9 p0 p1 p2 p3 p4 p5) p1)
def v0_12 (p0 : Int32) (p1 : Int32) (p2 : Int32) (p3 : Int32) (p4 : Int32) (p5 : Int32) : Int32 := (own_put (v0_2 p0 p1 p2 p3 p4 p5) (2 : Int32) (v0_9 p0 p1 p2 p3 p4 p5) p2)
def v0_13 (p0 : Int32) (p1 : Int32) (p2 : Int32) (p3 : Int32) (p4 : Int32) (p5 : Int32) : Int32 := (own_put (v0_2 p0 p1 p2 p3 p4 p5) (3 : Int32) (v0_9 p0 p1 p2 p3 p4 p5) (v0_3 p0 p1 p2 p3 p4 p5))
def v0_14 (p0 : Int32) (p1 : Int32) (p2 : Int32) (p3 : Int32) (p4 : Int32) (p5 : Int32) : Int32 := (own_put (v0_2 p0 p1 p2 p3 p4 p5) (4 : Int32) (v0_9 p0 p1 p2 p3 p4 p5) (v0_4 p0 p1 p2 p3 p4 p5))
def v0_15 (p0 : Int32) (p1 : Int32) (p2 : Int32) (p3 : Int32) (p4 : Int32) (p5 : Int32) : Int32 := (own_put (v0_2 p0 p1 p2 p3 p4 p5) (5 : Int32) (v0_9 p0 p1 p2 p3 p4 p5) (v0_5 p0 p1 p2 p3 p4 p5))
def v0_16 (p0 : Int32) (p1 : Int32) (p2 : Int32) (p3 : Int32) (p4 : Int32) (p5 : Int32) : Int32 := (own_put (v0_2 p0 p1 p2 p3 p4 p5) (6 : Int32) (v0_9 p0 p1 p2 p3 p4 p5) (v0_6 p0 p1 p2 p3 p4 p5))
def v0_17 (p0 : Int32) (p1 : Int32) (p2 : Int32) (p3 : Int32) (p4 : Int32) (p5 : Int32) : Int32 := (own_put (v0_2 p0 p1 p2 p3 p4 p5) (7 : Int32) (v0_9 p0 p1 p2 p3 p4 p5) (v0_7 p0 p1 p2 p3 p4 p5))
def v0_18 (p0 : Int32) (p1 : Int32) (p2 : Int32) (p3 : Int32) (p4 : Int32) (p5 : Int32) : Int32 := (own_put (v0_2 p0 p1 p2 p3 p4 p5) (8 : Int32) (v0_9 p0 p1 p2 p3 p4 p5) (v0_8 p0 p1 p2 p3 p4 p5))
def v0_19 (p0 : Int32) (p1 : Int32) (p2 : Int32) (p3 : Int32) (p4 : Int32) (p5 : Int32) : Int32 := (p5 &&& (1 : Int32))
def v0_20 (p0 : Int32) (p1 : Int32) (p2 : Int32) (p3 : Int32) (p4 : Int32) (p5 : Int32) : Int32 := (if (v0_2 p0 p1 p2 p3 p4 p5) = (1 : Int32) then (1 : Int32) else (if (v0_2 p0 p1 p2 p3 p4 p5) = (3 : Int32) then (1 : Int32) else (if (v0_2 p0 p1 p2 p3 p4 p5) = (4 : Int32) then (1 : Int32) else (0 : Int32))))
def v0_21 (p0 : Int32) (p1 : Int32) (p2 : Int32) (p3 : Int32) (p4 : Int32) (p5 : Int32) : Int32 := (if p4 = (0 : Int32) then (1 : Int32) else (if (v0_20 p0 p1 p2 p3 p4 p5) = (0 : Int32) then (0 : Int32) else (1 : Int32)))
def v0_22 (p0 : Int32) (p1 : Int32) (p2 : Int32) (p3 : Int32) (p4 : Int32) (p5 : Int32) : Int32 := (f4 p0 (v0_10 p0 p1 p2 p3 p4 p5) p2 (v0_12 p0 p1 p2 p3 p4 p5) (v0_5 p0 p1 p2 p3 p4 p5) (v0_15 p0 p1 p2 p3 p4 p5) (v0_6 p0 p1 p2 p3 p4 p5) (v0_16 p0 p1 p2 p3 p4 p5) (v0_7 p0 p1 p2 p3 p4 p5) (v0_17 p0 p1 p2 p3 p4 p5) (v0_8 p0 p1 p2 p3 p4 p5) (v0_18 p0 p1 p2 p3 p4 p5))
def v0_23 (p0 : Int32) (p1 : Int32) (p2 : Int32) (p3 : Int32) (p4 : Int32) (p5 : Int32) : Int32 := (f4 (v0_10 p0 p1 p2 p3 p4 p5) p0 (v0_12 p0 p1 p2 p3 p4 p5) p2 (v0_15 p0 p1 p2 p3 p4 p5) (v0_5 p0 p1 p2 p3 p4 p5) (v0_16 p0 p1 p2 p3 p4 p5) (v0_6 p0 p1 p2 p3 p4 p5) (v0_17 p0 p1 p2 p3 p4 p5) (v0_7 p0 p1 p2 p3 p4 p5) (v0_18 p0 p1 p2 p3 p4 p5) (v0_8 p0 p1 p2 p3 p4 p5))
def v0_24 (p0 : Int32) (p1 : Int32) (p2 : Int32) (p3 : Int32) (p4 : Int32) (p5 : Int32) : Int32 := (if (v0_22 p0 p1 p2 p3 p4 p5) = (v0_21 p0 p1 p2 p3 p4 p5) then (if (v0_23 p0 p1 p2 p3 p4 p5) = (v0_21 p0 p1 p2 p3 p4 p5) then (1 : Int32) else (0 : Int32)) else (0 : Int32))
def v0_25 (p0 : Int32) (p1 : Int32) (p2 : Int32) (p3 : Int32) (p4 : Int32) (p5 : Int32) : Int32 := ((v0_11 p0 p1 p2 p3 p4 p5) + p5)
def v0_26 (p0 : Int32) (p1 : Int32) (p2 : Int32) (p3 : Int32) (p4 : Int32) (p5 : Int32) : Int32 := ((v0_13 p0 p1 p2 p3 p4 p5) ^^^ p5)
def v0_27 (p0 : Int32) (p1 : Int32) (p2 : Int32) (p3 : Int32) (p4 : Int32) (p5 : Int32) : Int32 := ((v0_14 p0 p1 p2 p3 p4 p5) - p5)
def v0_28 (p0 : Int32) (p1 : Int32) (p2 : Int32) (p3 : Int32) (p4 : Int32) (p5 : Int32) : Int32 := (if (v0_2 p0 p1 p2 p3 p4 p5) = (1 : Int32) then (1 : Int32) else (if (v0_2 p0 p1 p2 p3 p4 p5) = (3 : Int32) then (1 : Int32) else (if (v0_2 p0 p1 p2 p3 p4 p5) = (4 : Int32) then (1 : Int32) else (0 : Int32))))
def v0_29 (p0 : Int32) (p1 : Int32) (p2 : Int32) (p3 : Int32) (p4 : Int32) (p5 : Int32) : Int32 := (if p4 = (0 : Int32) then (1 : Int32) else (if (v0_28 p0 p1 p2 p3 p4 p5) = (0 : Int32) then (0 : Int32) else (1 : Int32)))
def v0_30 (p0 : Int32) (p1 : Int32) (p2 : Int32) (p3 : Int32) (p4 : Int32) (p5 : Int32) : Int32 := (f4 p0 (v0_10 p0 p1 p2 p3 p4 p5) p2 (v0_12 p0 p1 p2 p3 p4 p5) (v0_5 p0 p1 p2 p3 p4 p5) (v0_15 p0 p1 p2 p3 p4 p5) (v0_6 p0 p1 p2 p3 p4 p5) (v0_16 p0 p1 p2 p3 p4 p5) (v0_7 p0 p1 p2 p3 p4 p5) (v0_17 p0 p1 p2 p3 p4 p5) (v0_8 p0 p1 p2 p3 p4 p5) (v0_18 p0 p1 p2 p3 p4 p5))
def v0_31 (p0 : Int32) (p1 : Int32) (p2 : Int32) (p3 : Int32) (p4 : Int32) (p5 : Int32) : Int32 := (f4 (v0_10 p0 p1 p2 p3 p4 p5) p0 (v0_12 p0 p1 p2 p3 p4 p5) p2 (v0_15 p0 p1 p2 p3 p4 p5) (v0_5 p0 p1 p2 p3 p4 p5) (v0_16 p0 p1 p2 p3 p4 p5) (v0_6 p0 p1 p2 p3 p4 p5) (v0_17 p0 p1 p2 p3 p4 p5) (v0_7 p0 p1 p2 p3 p4 p5) (v0_18 p0 p1 p2 p3 p4 p5) (v0_8 p0 p1 p2 p3 p4 p5))
def v0_32 (p0 : Int32) (p1 : Int32) (p2 : Int32) (p3 : Int32) (p4 : Int32) (p5 : Int32) : Int32 := (if (v0_30 p0 p1 p2 p3 p4 p5) = (v0_29 p0 p1 p2 p3 p4 p5) then (if (v0_31 p0 p1 p2 p3 p4 p5) = (v0_29 p0 p1 p2 p3 p4 p5) then (1 : Int32) else (0 : Int32)) else (0 : Int32))
/-own-/
section Own
variable (p0 p1 p2 p3 p4 p5 : Int32)
theorem own_k : 0 ≤ (v0_2 p0 p1 p2 p3 p4 p5).toInt ∧ (v0_2 p0 p1 p2 p3 p4 p5).toInt < 9 := by
  have e1 : (v0_1 p0 p1 p2 p3 p4 p5).toInt = p3.toInt % 2 ^ 31 := Jvm.Kit.i32_mask p3 2147483647 (k := 31) (by decide) (by decide)
  have c : (9 : Int32).toInt = 9 := by decide
  unfold v0_2
  rw [own_rem32, c, Int.tmod_eq_emod_of_nonneg (by omega)]
  omega
theorem own_k0 : ¬ (v0_2 p0 p1 p2 p3 p4 p5 < (0 : Int32)) := by
  have c0 : (0 : Int32).toInt = 0 := by decide
  have := own_k p0 p1 p2 p3 p4 p5
  rw [Int32.lt_iff_toInt_lt, c0]; omega
theorem own_k9 : v0_2 p0 p1 p2 p3 p4 p5 < (9 : Int32) := by
  have c0 : (9 : Int32).toInt = 9 := by decide
  have := own_k p0 p1 p2 p3 p4 p5
  rw [Int32.lt_iff_toInt_lt, c0]; omega
end Own
theorem own_f4 (a a' b b' c c' d d' e e' g g' : Int32) : f4 a a' b b' c c' d d' e e' g g' = if a = a' ∧ b = b' ∧ c = c' ∧ d = d' ∧ e = e' ∧ g = g' then 1 else 0 := by
  have z : nar .boolean (0 : Int32) = 0 := by decide
  have o : nar .boolean (1 : Int32) = 1 := by decide
  unfold f4 v4_1
  by_cases h1 : a = a'
  · by_cases h2 : b = b'
    · by_cases h3 : c = c'
      · by_cases h4 : d = d'
        · by_cases h5 : e = e'
          · by_cases h6 : g = g'
            · simp [h1, h2, h3, h4, h5, h6, o]
            · simp [h1, h2, h3, h4, h5, h6, z]
          · simp [h1, h2, h3, h4, h5, z]
        · simp [h1, h2, h3, h4, z]
      · simp [h1, h2, h3, z]
    · simp [h1, h2, z]
  · simp [h1, z]
theorem own_add0 {a d : Int32} (h : d ≠ 0) : a ≠ a + d := by
  intro q
  apply h
  have := congrArg (fun z => z - a) q
  simp only [Int32.sub_self] at this
  rw [Int32.add_comm, Int32.add_sub_cancel] at this
  exact this.symm
def own_exp (k d : Int32) : Int32 := if d = 0 then 1 else if (if k = 1 then 1 else if k = 3 then 1 else if k = 4 then (1 : Int32) else 0) = 0 then 0 else 1
theorem own_core (k a0 a1 a2 a3 a4 a5 a6 a7 a8 d : Int32) (h0 : ¬ (k < (0 : Int32))) (h9 : k < (9 : Int32)) :
    let v := own_pick k a0 a1 a2 a3 a4 a5 a6 a7 a8 + d
    f4 a0 (own_put k 0 v a0) a2 (own_put k 2 v a2) a5 (own_put k 5 v a5) a6 (own_put k 6 v a6) a7 (own_put k 7 v a7) a8 (own_put k 8 v a8) = own_exp k d ∧
    f4 (own_put k 0 v a0) a0 (own_put k 2 v a2) a2 (own_put k 5 v a5) a5 (own_put k 6 v a6) a6 (own_put k 7 v a7) a7 (own_put k 8 v a8) a8 = own_exp k d := by
  intro v
  simp only [own_f4]
  by_cases hd : d = 0
  · have e : v = own_pick k a0 a1 a2 a3 a4 a5 a6 a7 a8 := by simp [v, hd]
    rw [e]
    rcases own_nine h0 h9 with rfl | rfl | rfl | rfl | rfl | rfl | rfl | rfl | rfl <;> simp [own_put, own_pick, own_exp, hd]
  · have n := fun a => own_add0 (a := a) hd
    have m := fun a => (own_add0 (a := a) hd).symm
    rcases own_nine h0 h9 with rfl | rfl | rfl | rfl | rfl | rfl | rfl | rfl | rfl <;> simp [v, own_put, own_pick, own_exp, hd]
section Own2
variable (p0 p1 p2 p3 p4 p5 : Int32)
theorem own_v0_24 (c : v0_19 p0 p1 p2 p3 p4 p5 = (0 : Int32)) : v0_24 p0 p1 p2 p3 p4 p5 = (1 : Int32) := by
  obtain ⟨a, b⟩ := own_core (v0_2 p0 p1 p2 p3 p4 p5) p0 p1 p2 (p0 + p1) (p1 + p2) (p2 + p0) (p0 ^^^ p1) (p1 ^^^ p2) (p0 - p2) p4 (own_k0 p0 p1 p2 p3 p4 p5) (own_k9 p0 p1 p2 p3 p4 p5)
  exact (if_pos a).trans (if_pos b)
theorem own_v0_32 (c : ¬ v0_19 p0 p1 p2 p3 p4 p5 = (0 : Int32)) : v0_32 p0 p1 p2 p3 p4 p5 = (1 : Int32) := by
  obtain ⟨a, b⟩ := own_core (v0_2 p0 p1 p2 p3 p4 p5) p0 p1 p2 (p0 + p1) (p1 + p2) (p2 + p0) (p0 ^^^ p1) (p1 ^^^ p2) (p0 - p2) p4 (own_k0 p0 p1 p2 p3 p4 p5) (own_k9 p0 p1 p2 p3 p4 p5)
  exact (if_pos a).trans (if_pos b)
end Own2
def Q0 (Z : State) (p0 : Int32) (p1 : Int32) (p2 : Int32) (p3 : Int32) (p4 : Int32) (p5 : Int32) (h0 : Heap) (n0 : Nat) (v : Option Value) (h : Heap) (L : List Loc) : Prop := v = some (.int (1 : Int32)) ∧ Fr n0 L
set_option maxRecDepth 65536 in
set_option maxHeartbeats 40000000 in
theorem rm0 (l : Launch) (Z : State) (a0 : Array Value) (hw : ∀ d ∈ tables_1, d.before a0 Z = true) (ws : List Jvm.Cond) (p0 : Int32) (p1 : Int32) (p2 : Int32) (p3 : Int32) (p4 : Int32) (p5 : Int32) (h0 : Heap) (n0 : Nat) (Z0 : n0 ≤ h0.size) :
    MetFree l x (head1 (Jvm.Cond.code x code maxLocals ret :: ws) room_1) (fun a U => a = #[(.int p0), (.int p1), (.int p2), (.int p3), (.int p4), (.int p5)] ∧ Z.Warmed39 U.vm ∧ U.heap = h0) (fun _ _ _ _ _ => True) (fun _ U o U' => ∃ v L, o = .returned v ∧ Q0 Z p0 p1 p2 p3 p4 p5 h0 n0 v U'.heap L ∧ FrameEnd U o U' L room_1.cells room_1.slots) := by
  refine MetFree.of_bodySF (plainFor_of_name pn_com_example_ashlar_ashlar_worktree_StatDataMatchesPinLaw) hisR ?_
  intro p e s m args below meth c s₁ Bd hml0 hP hK
  obtain ⟨rfl, hZ, hh⟩ := hP
  have hx := Bd.exec
  have hby := Bd.bytes
  have hml : c.maxLocals = 13 := hml0
  have hown : s.vm.findClass "com/example/ashlar/ashlar/worktree/StatDataMatchesPinLaw" = some m.cls := findClass_of_methodNamed Bd.named
  have hnm := (name_of_methodNamed Bd.named Bd.method).1
  have hlk := BodyLoose.notSynchronized Bd
  have X0 : Stand p l e room_1 s m #[(.int p0), (.int p1), (.int p2), (.int p3), (.int p4), (.int p5)] below meth c s₁ [] 0 0 := Stand.of_body Bd
  have e0 : s₁.heap = h0 := by rw [← hh, Bd.state]; rfl
  have N0 := Fr.nil n0
  have pre0 : ∀ t, Steps p.tables e below (s₁.setTop (mkF m 0 #[.val (.int p0), .val (.int p1), .val (.int p2), .val (.int p3), .val (.int p4), .val (.int p5), .unset, .unset, .unset, .unset, .unset, .unset, .unset] [])) t → Steps p.tables e below (s₁.setTop (entryFrame m #[(.int p0), (.int p1), (.int p2), (.int p3), (.int p4), (.int p5)] maxLocals)) t := fun t k => castTop (ef_0 m p0 p1 p2 p3 p4 p5) k
  obtain ⟨T1, h1, k1, X1, e1, E1, A1, EA1, st1⟩ := newPE X0 hx hZ (hw _ (List.mem_of_getElem? (i := 1) rfl)) e0 (g := (mkF m 11 #[.val (.int p0), .val (.int p1), .val (.int p2), .val (.int p3), .val (.int p4), .val (.int p5), .val (.int (v0_2 p0 p1 p2 p3 p4 p5)), .unset, .unset, .unset, .unset, .unset, .unset] [(.int (9 : Int32))])) rfl (hb hby at_11) rfl (by decide) (cap := 9) (by decide) (by decide) (by decide) (by decide) (ad := "[I") rfl
  obtain ⟨b1, gz1⟩ : ∃ z, z = h0.size := ⟨_, rfl⟩
  rw [← gz1] at A1 EA1 st1
  have g2 : n0 ≤ b1 := Nat.le_trans Z0 (Nat.le_of_eq gz1.symm)
  have sz3 : h0.size ≤ b1 := Nat.le_trans (Nat.le_refl h0.size) (Nat.le_of_eq gz1.symm)
  have z4 : n0 ≤ h1.size := Nat.le_trans Z0 E1.1
  have hs5 : h0.size ≤ h1.size := Nat.le_trans (Nat.le_refl h0.size) E1.1
  have V1 : Arv Z h1 b1 k1 .int (9 : Int32) [(.int (0 : Int32)), (.int (0 : Int32)), (.int (0 : Int32)), (.int (0 : Int32)), (.int (0 : Int32)), (.int (0 : Int32)), (.int (0 : Int32)), (.int (0 : Int32)), (.int (0 : Int32))] (.int (0 : Int32)) := (Arv.new A1 (by decide)).pad (pad_rep [] (.int (0 : Int32)) 9)
  obtain ⟨cl6, Ar6, qc6, S6, M6, Ha6, G6⟩ := id V1
  have hin7 : ¬ ((0 : Int32) < 0 ∨ cl6.slots.size ≤ ((0 : Int32)).toNatClampNeg) := inb_of S6 ⟨by decide, by decide⟩
  obtain ⟨T8, h8, X8, e8, W8, st8⟩ := stI X1 hx hZ e1 Ar6 (j := (0 : Int32)) hin7 (g := (mkF m 16 #[.val (.int p0), .val (.int p1), .val (.int p2), .val (.int p3), .val (.int p4), .val (.int p5), .val (.int (v0_2 p0 p1 p2 p3 p4 p5)), .unset, .unset, .unset, .unset, .unset, .unset] [(.int p0), (.int (0 : Int32)), (.ref b1), (.ref b1)])) rfl rfl (hb hby at_16)
  have V8 : Arv Z h8 b1 k1 .int (9 : Int32) [(.int p0), (.int (0 : Int32)), (.int (0 : Int32)), (.int (0 : Int32)), (.int (0 : Int32)), (.int (0 : Int32)), (.int (0 : Int32)), (.int (0 : Int32)), (.int (0 : Int32))] (.int (0 : Int32)) := Arv.set Ar6 qc6 S6 M6 Ha6 G6 rfl W8 0 rfl (Nat.le_of_ble_eq_true rfl)
  have N8 := Fr.snoc X8 N0 g2
  have z9 : n0 ≤ h8.size := Nat.le_trans z4 (Keep.of_wr W8).1
  have hs10 : h0.size ≤ h8.size := Nat.le_trans hs5 (Keep.of_wr W8).1
  obtain ⟨cl11, Ar11, qc11, S11, M11, Ha11, G11⟩ := id V8
  have hin12 : ¬ ((1 : Int32) < 0 ∨ cl11.slots.size ≤ ((1 : Int32)).toNatClampNeg) := inb_of S11 ⟨by decide, by decide⟩
  obtain ⟨T13, h13, X13, e13, W13, st13⟩ := stI X8 hx hZ e8 Ar11 (j := (1 : Int32)) hin12 (g := (mkF m 20 #[.val (.int p0), .val (.int p1), .val (.int p2), .val (.int p3), .val (.int p4), .val (.int p5), .val (.int (v0_2 p0 p1 p2 p3 p4 p5)), .unset, .unset, .unset, .unset, .unset, .unset] [(.int p1), (.int (1 : Int32)), (.ref b1), (.ref b1)])) rfl rfl (hb hby at_20)
  have V13 : Arv Z h13 b1 k1 .int (9 : Int32) [(.int p0), (.int p1), (.int (0 : Int32)), (.int (0 : Int32)), (.int (0 : Int32)), (.int (0 : Int32)), (.int (0 : Int32)), (.int (0 : Int32)), (.int (0 : Int32))] (.int (0 : Int32)) := Arv.set Ar11 qc11 S11 M11 Ha11 G11 rfl W13 1 rfl (Nat.le_of_ble_eq_true rfl)
  have N13 := Fr.snoc X13 N8 g2
  have z14 : n0 ≤ h13.size := Nat.le_trans z9 (Keep.of_wr W13).1
  have hs15 : h0.size ≤ h13.size := Nat.le_trans hs10 (Keep.of_wr W13).1
  obtain ⟨cl16, Ar16, qc16, S16, M16, Ha16, G16⟩ := id V13
  have hin17 : ¬ ((2 : Int32) < 0 ∨ cl16.slots.size ≤ ((2 : Int32)).toNatClampNeg) := inb_of S16 ⟨by decide, by decide⟩
  obtain ⟨T18, h18, X18, e18, W18, st18⟩ := stI X13 hx hZ e13 Ar16 (j := (2 : Int32)) hin17 (g := (mkF m 24 #[.val (.int p0), .val (.int p1), .val (.int p2), .val (.int p3), .val (.int p4), .val (.int p5), .val (.int (v0_2 p0 p1 p2 p3 p4 p5)), .unset, .unset, .unset, .unset, .unset, .unset] [(.int p2), (.int (2 : Int32)), (.ref b1), (.ref b1)])) rfl rfl (hb hby at_24)
  have V18 : Arv Z h18 b1 k1 .int (9 : Int32) [(.int p0), (.int p1), (.int p2), (.int (0 : Int32)), (.int (0 : Int32)), (.int (0 : Int32)), (.int (0 : Int32)), (.int (0 : Int32)), (.int (0 : Int32))] (.int (0 : Int32)) := Arv.set Ar16 qc16 S16 M16 Ha16 G16 rfl W18 2 rfl (Nat.le_of_ble_eq_true rfl)
  have N18 := Fr.snoc X18 N13 g2
  have z19 : n0 ≤ h18.size := Nat.le_trans z14 (Keep.of_wr W18).1
  have hs20 : h0.size ≤ h18.size := Nat.le_trans hs15 (Keep.of_wr W18).1
  obtain ⟨cl21, Ar21, qc21, S21, M21, Ha21, G21⟩ := id V18
  have hin22 : ¬ ((3 : Int32) < 0 ∨ cl21.slots.size ≤ ((3 : Int32)).toNatClampNeg) := inb_of S21 ⟨by decide, by decide⟩
  obtain ⟨T23, h23, X23, e23, W23, st23⟩ := stI X18 hx hZ e18 Ar21 (j := (3 : Int32)) hin22 (g := (mkF m 30 #[.val (.int p0), .val (.int p1), .val (.int p2), .val (.int p3), .val (.int p4), .val (.int p5), .val (.int (v0_2 p0 p1 p2 p3 p4 p5)), .unset, .unset, .unset, .unset, .unset, .unset] [(.int (p0 + p1)), (.int (3 : Int32)), (.ref b1), (.ref b1)])) rfl rfl (hb hby at_30)
  have V23 : Arv Z h23 b1 k1 .int (9 : Int32) [(.int p0), (.int p1), (.int p2), (.int (v0_3 p0 p1 p2 p3 p4 p5)), (.int (0 : Int32)), (.int (0 : Int32)), (.int (0 : Int32)), (.int (0 : Int32)), (.int (0 : Int32))] (.int (0 : Int32)) := Arv.set Ar21 qc21 S21 M21 Ha21 G21 rfl W23 3 rfl (Nat.le_of_ble_eq_true rfl)
  have N23 := Fr.snoc X23 N18 g2
  have z24 : n0 ≤ h23.size := Nat.le_trans z19 (Keep.of_wr W23).1
  have hs25 : h0.size ≤ h23.size := Nat.le_trans hs20 (Keep.of_wr W23).1
  obtain ⟨cl26, Ar26, qc26, S26, M26, Ha26, G26⟩ := id V23
  have hin27 : ¬ ((4 : Int32) < 0 ∨ cl26.slots.size ≤ ((4 : Int32)).toNatClampNeg) := inb_of S26 ⟨by decide, by decide⟩
  obtain ⟨T28, h28, X28, e28, W28, st28⟩ := stI X23 hx hZ e23 Ar26 (j := (4 : Int32)) hin27 (g := (mkF m 36 #[.val (.int p0), .val (.int p1), .val (.int p2), .val (.int p3), .val (.int p4), .val (.int p5), .val (.int (v0_2 p0 p1 p2 p3 p4 p5)), .unset, .unset, .unset, .unset, .unset, .unset] [(.int (p1 + p2)), (.int (4 : Int32)), (.ref b1), (.ref b1)])) rfl rfl (hb hby at_36)
  have V28 : Arv Z h28 b1 k1 .int (9 : Int32) [(.int p0), (.int p1), (.int p2), (.int (v0_3 p0 p1 p2 p3 p4 p5)), (.int (v0_4 p0 p1 p2 p3 p4 p5)), (.int (0 : Int32)), (.int (0 : Int32)), (.int (0 : Int32)), (.int (0 : Int32))] (.int (0 : Int32)) := Arv.set Ar26 qc26 S26 M26 Ha26 G26 rfl W28 4 rfl (Nat.le_of_ble_eq_true rfl)
  have N28 := Fr.snoc X28 N23 g2
  have z29 : n0 ≤ h28.size := Nat.le_trans z24 (Keep.of_wr W28).1
  have hs30 : h0.size ≤ h28.size := Nat.le_trans hs25 (Keep.of_wr W28).1
  obtain ⟨cl31, Ar31, qc31, S31, M31, Ha31, G31⟩ := id V28
  have hin32 : ¬ ((5 : Int32) < 0 ∨ cl31.slots.size ≤ ((5 : Int32)).toNatClampNeg) := inb_of S31 ⟨by decide, by decide⟩
  obtain ⟨T33, h33, X33, e33, W33, st33⟩ := stI X28 hx hZ e28 Ar31 (j := (5 : Int32)) hin32 (g := (mkF m 42 #[.val (.int p0), .val (.int p1), .val (.int p2), .val (.int p3), .val (.int p4), .val (.int p5), .val (.int (v0_2 p0 p1 p2 p3 p4 p5)), .unset, .unset, .unset, .unset, .unset, .unset] [(.int (p2 + p0)), (.int (5 : Int32)), (.ref b1), (.ref b1)])) rfl rfl (hb hby at_42)
  have V33 : Arv Z h33 b1 k1 .int (9 : Int32) [(.int p0), (.int p1), (.int p2), (.int (v0_3 p0 p1 p2 p3 p4 p5)), (.int (v0_4 p0 p1 p2 p3 p4 p5)), (.int (v0_5 p0 p1 p2 p3 p4 p5)), (.int (0 : Int32)), (.int (0 : Int32)), (.int (0 : Int32))] (.int (0 : Int32)) := Arv.set Ar31 qc31 S31 M31 Ha31 G31 rfl W33 5 rfl (Nat.le_of_ble_eq_true rfl)
  have N33 := Fr.snoc X33 N28 g2
  have z34 : n0 ≤ h33.size := Nat.le_trans z29 (Keep.of_wr W33).1
  have hs35 : h0.size ≤ h33.size := Nat.le_trans hs30 (Keep.of_wr W33).1
  obtain ⟨cl36, Ar36, qc36, S36, M36, Ha36, G36⟩ := id V33
  have hin37 : ¬ ((6 : Int32) < 0 ∨ cl36.slots.size ≤ ((6 : Int32)).toNatClampNeg) := inb_of S36 ⟨by decide, by decide⟩
  obtain ⟨T38, h38, X38, e38, W38, st38⟩ := stI X33 hx hZ e33 Ar36 (j := (6 : Int32)) hin37 (g := (mkF m 49 #[.val (.int p0), .val (.int p1), .val (.int p2), .val (.int p3), .val (.int p4), .val (.int p5), .val (.int (v0_2 p0 p1 p2 p3 p4 p5)), .unset, .unset, .unset, .unset, .unset, .unset] [(.int (p0 ^^^ p1)), (.int (6 : Int32)), (.ref b1), (.ref b1)])) rfl rfl (hb hby at_49)
  have V38 : Arv Z h38 b1 k1 .int (9 : Int32) [(.int p0), (.int p1), (.int p2), (.int (v0_3 p0 p1 p2 p3 p4 p5)), (.int (v0_4 p0 p1 p2 p3 p4 p5)), (.int (v0_5 p0 p1 p2 p3 p4 p5)), (.int (v0_6 p0 p1 p2 p3 p4 p5)), (.int (0 : Int32)), (.int (0 : Int32))] (.int (0 : Int32)) := Arv.set Ar36 qc36 S36 M36 Ha36 G36 rfl W38 6 rfl (Nat.le_of_ble_eq_true rfl)
  have N38 := Fr.snoc X38 N33 g2
  have z39 : n0 ≤ h38.size := Nat.le_trans z34 (Keep.of_wr W38).1
  have hs40 : h0.size ≤ h38.size := Nat.le_trans hs35 (Keep.of_wr W38).1
  obtain ⟨cl41, Ar41, qc41, S41, M41, Ha41, G41⟩ := id V38
  have hin42 : ¬ ((7 : Int32) < 0 ∨ cl41.slots.size ≤ ((7 : Int32)).toNatClampNeg) := inb_of S41 ⟨by decide, by decide⟩
  obtain ⟨T43, h43, X43, e43, W43, st43⟩ := stI X38 hx hZ e38 Ar41 (j := (7 : Int32)) hin42 (g := (mkF m 56 #[.val (.int p0), .val (.int p1), .val (.int p2), .val (.int p3), .val (.int p4), .val (.int p5), .val (.int (v0_2 p0 p1 p2 p3 p4 p5)), .unset, .unset, .unset, .unset, .unset, .unset] [(.int (p1 ^^^ p2)), (.int (7 : Int32)), (.ref b1), (.ref b1)])) rfl rfl (hb hby at_56)
  have V43 : Arv Z h43 b1 k1 .int (9 : Int32) [(.int p0), (.int p1), (.int p2), (.int (v0_3 p0 p1 p2 p3 p4 p5)), (.int (v0_4 p0 p1 p2 p3 p4 p5)), (.int (v0_5 p0 p1 p2 p3 p4 p5)), (.int (v0_6 p0 p1 p2 p3 p4 p5)), (.int (v0_7 p0 p1 p2 p3 p4 p5)), (.int (0 : Int32))] (.int (0 : Int32)) := Arv.set Ar41 qc41 S41 M41 Ha41 G41 rfl W43 7 rfl (Nat.le_of_ble_eq_true rfl)
  have N43 := Fr.snoc X43 N38 g2
  have z44 : n0 ≤ h43.size := Nat.le_trans z39 (Keep.of_wr W43).1
  have hs45 : h0.size ≤ h43.size := Nat.le_trans hs40 (Keep.of_wr W43).1
  obtain ⟨cl46, Ar46, qc46, S46, M46, Ha46, G46⟩ := id V43
  have hin47 : ¬ ((8 : Int32) < 0 ∨ cl46.slots.size ≤ ((8 : Int32)).toNatClampNeg) := inb_of S46 ⟨by decide, by decide⟩
  obtain ⟨T48, h48, X48, e48, W48, st48⟩ := stI X43 hx hZ e43 Ar46 (j := (8 : Int32)) hin47 (g := (mkF m 63 #[.val (.int p0), .val (.int p1), .val (.int p2), .val (.int p3), .val (.int p4), .val (.int p5), .val (.int (v0_2 p0 p1 p2 p3 p4 p5)), .unset, .unset, .unset, .unset, .unset, .unset] [(.int (p0 - p2)), (.int (8 : Int32)), (.ref b1), (.ref b1)])) rfl rfl (hb hby at_63)
  have V48 : Arv Z h48 b1 k1 .int (9 : Int32) [(.int p0), (.int p1), (.int p2), (.int (v0_3 p0 p1 p2 p3 p4 p5)), (.int (v0_4 p0 p1 p2 p3 p4 p5)), (.int (v0_5 p0 p1 p2 p3 p4 p5)), (.int (v0_6 p0 p1 p2 p3 p4 p5)), (.int (v0_7 p0 p1 p2 p3 p4 p5)), (.int (v0_8 p0 p1 p2 p3 p4 p5))] (.int (0 : Int32)) := Arv.set Ar46 qc46 S46 M46 Ha46 G46 rfl W48 8 rfl (Nat.le_of_ble_eq_true rfl)
  have N48 := Fr.snoc X48 N43 g2
  have z49 : n0 ≤ h48.size := Nat.le_trans z44 (Keep.of_wr W48).1
  have hs50 : h0.size ≤ h48.size := Nat.le_trans hs45 (Keep.of_wr W48).1
  obtain ⟨T51, h51, k51, X51, e51, E51, A51, EA51, st51⟩ := newPE X48 hx hZ (hw _ (List.mem_of_getElem? (i := 1) rfl)) e48 (g := (mkF m 68 #[.val (.int p0), .val (.int p1), .val (.int p2), .val (.int p3), .val (.int p4), .val (.int p5), .val (.int (v0_2 p0 p1 p2 p3 p4 p5)), .val (.ref b1), .unset, .unset, .unset, .unset, .unset] [(.int (9 : Int32))])) rfl (hb hby at_68) rfl (by decide) (cap := 9) (by decide) (by decide) (by decide) (by decide) (ad := "[I") rfl
  obtain ⟨b51, gz51⟩ : ∃ z, z = h48.size := ⟨_, rfl⟩
  rw [← gz51] at A51 EA51 st51
  have k52 := (((((((((EA1.wr W8).wr W13).wr W18).wr W23).wr W28).wr W33).wr W38).wr W43).wr W48)
  have ne53 : b1 ≠ b51 := Nat.ne_of_lt (Nat.lt_of_lt_of_le k52.lt (Nat.le_of_eq gz51.symm))
  have g54 : n0 ≤ b51 := Nat.le_trans z49 (Nat.le_of_eq gz51.symm)
  have sz55 : h0.size ≤ b51 := Nat.le_trans hs50 (Nat.le_of_eq gz51.symm)
  have z56 : n0 ≤ h51.size := Nat.le_trans z49 E51.1
  have hs57 : h0.size ≤ h51.size := Nat.le_trans hs50 E51.1
  have V51 : Arv Z h51 b51 k51 .int (9 : Int32) [(.int (0 : Int32)), (.int (0 : Int32)), (.int (0 : Int32)), (.int (0 : Int32)), (.int (0 : Int32)), (.int (0 : Int32)), (.int (0 : Int32)), (.int (0 : Int32)), (.int (0 : Int32))] (.int (0 : Int32)) := (Arv.new A51 (by decide)).pad (pad_rep [] (.int (0 : Int32)) 9)
  have k58 := (V48.ext E51)
  obtain ⟨cl59, Ar59, qc59, S59, M59, Ha59, G59⟩ := id k58
  have hin60 : ¬ ((0 : Int32) < 0 ∨ cl59.slots.size ≤ ((0 : Int32)).toNatClampNeg) := inb_of S59 ⟨by decide, by decide⟩
  obtain ⟨cl61, Ar61, qc61, S61, M61, Ha61, G61⟩ := id V51
  have hin62 : ¬ ((0 : Int32) < 0 ∨ cl61.slots.size ≤ ((0 : Int32)).toNatClampNeg) := inb_of S61 ⟨by decide, by decide⟩
  obtain ⟨T63, h63, X63, e63, W63, st63⟩ := stI X51 hx hZ e51 Ar61 (j := (0 : Int32)) hin62 (g := (mkF m 76 #[.val (.int p0), .val (.int p1), .val (.int p2), .val (.int p3), .val (.int p4), .val (.int p5), .val (.int (v0_2 p0 p1 p2 p3 p4 p5)), .val (.ref b1), .unset, .unset, .unset, .unset, .unset] [(.int p0), (.int (0 : Int32)), (.ref b51), (.ref b51)])) rfl rfl (hb hby at_76)
  have V63 : Arv Z h63 b51 k51 .int (9 : Int32) [(.int p0), (.int (0 : Int32)), (.int (0 : Int32)), (.int (0 : Int32)), (.int (0 : Int32)), (.int (0 : Int32)), (.int (0 : Int32)), (.int (0 : Int32)), (.int (0 : Int32))] (.int (0 : Int32)) := Arv.set Ar61 qc61 S61 M61 Ha61 G61 rfl W63 0 rfl (Nat.le_of_ble_eq_true rfl)
  have N63 := Fr.snoc X63 N48 g54
  have z64 : n0 ≤ h63.size := Nat.le_trans z56 (Keep.of_wr W63).1
  have hs65 : h0.size ≤ h63.size := Nat.le_trans hs57 (Keep.of_wr W63).1
  have k66 := (k58.other W63 ne53)
  obtain ⟨cl67, Ar67, qc67, S67, M67, Ha67, G67⟩ := id k66
  have hin68 : ¬ ((1 : Int32) < 0 ∨ cl67.slots.size ≤ ((1 : Int32)).toNatClampNeg) := inb_of S67 ⟨by decide, by decide⟩
  obtain ⟨cl69, Ar69, qc69, S69, M69, Ha69, G69⟩ := id V63
  have hin70 : ¬ ((1 : Int32) < 0 ∨ cl69.slots.size ≤ ((1 : Int32)).toNatClampNeg) := inb_of S69 ⟨by decide, by decide⟩
  obtain ⟨T71, h71, X71, e71, W71, st71⟩ := stI X63 hx hZ e63 Ar69 (j := (1 : Int32)) hin70 (g := (mkF m 83 #[.val (.int p0), .val (.int p1), .val (.int p2), .val (.int p3), .val (.int p4), .val (.int p5), .val (.int (v0_2 p0 p1 p2 p3 p4 p5)), .val (.ref b1), .unset, .unset, .unset, .unset, .unset] [(.int p1), (.int (1 : Int32)), (.ref b51), (.ref b51)])) rfl rfl (hb hby at_83)
  have V71 : Arv Z h71 b51 k51 .int (9 : Int32) [(.int p0), (.int p1), (.int (0 : Int32)), (.int (0 : Int32)), (.int (0 : Int32)), (.int (0 : Int32)), (.int (0 : Int32)), (.int (0 : Int32)), (.int (0 : Int32))] (.int (0 : Int32)) := Arv.set Ar69 qc69 S69 M69 Ha69 G69 rfl W71 1 rfl (Nat.le_of_ble_eq_true rfl)
  have N71 := Fr.snoc X71 N63 g54
  have z72 : n0 ≤ h71.size := Nat.le_trans z64 (Keep.of_wr W71).1
  have hs73 : h0.size ≤ h71.size := Nat.le_trans hs65 (Keep.of_wr W71).1
  have k74 := (k66.other W71 ne53)
  obtain ⟨cl75, Ar75, qc75, S75, M75, Ha75, G75⟩ := id k74
  have hin76 : ¬ ((2 : Int32) < 0 ∨ cl75.slots.size ≤ ((2 : Int32)).toNatClampNeg) := inb_of S75 ⟨by decide, by decide⟩
  obtain ⟨cl77, Ar77, qc77, S77, M77, Ha77, G77⟩ := id V71
  have hin78 : ¬ ((2 : Int32) < 0 ∨ cl77.slots.size ≤ ((2 : Int32)).toNatClampNeg) := inb_of S77 ⟨by decide, by decide⟩
  obtain ⟨T79, h79, X79, e79, W79, st79⟩ := stI X71 hx hZ e71 Ar77 (j := (2 : Int32)) hin78 (g := (mkF m 90 #[.val (.int p0), .val (.int p1), .val (.int p2), .val (.int p3), .val (.int p4), .val (.int p5), .val (.int (v0_2 p0 p1 p2 p3 p4 p5)), .val (.ref b1), .unset, .unset, .unset, .unset, .unset] [(.int p2), (.int (2 : Int32)), (.ref b51), (.ref b51)])) rfl rfl (hb hby at_90)
  have V79 : Arv Z h79 b51 k51 .int (9 : Int32) [(.int p0), (.int p1), (.int p2), (.int (0 : Int32)), (.int (0 : Int32)), (.int (0 : Int32)), (.int (0 : Int32)), (.int (0 : Int32)), (.int (0 : Int32))] (.int (0 : Int32)) := Arv.set Ar77 qc77 S77 M77 Ha77 G77 rfl W79 2 rfl (Nat.le_of_ble_eq_true rfl)
  have N79 := Fr.snoc X79 N71 g54
  have z80 : n0 ≤ h79.size := Nat.le_trans z72 (Keep.of_wr W79).1
  have hs81 : h0.size ≤ h79.size := Nat.le_trans hs73 (Keep.of_wr W79).1
  have k82 := (k74.other W79 ne53)
  obtain ⟨cl83, Ar83, qc83, S83, M83, Ha83, G83⟩ := id k82
  have hin84 : ¬ ((3 : Int32) < 0 ∨ cl83.slots.size ≤ ((3 : Int32)).toNatClampNeg) := inb_of S83 ⟨by decide, by decide⟩
  obtain ⟨cl85, Ar85, qc85, S85, M85, Ha85, G85⟩ := id V79
  have hin86 : ¬ ((3 : Int32) < 0 ∨ cl85.slots.size ≤ ((3 : Int32)).toNatClampNeg) := inb_of S85 ⟨by decide, by decide⟩
  obtain ⟨T87, h87, X87, e87, W87, st87⟩ := stI X79 hx hZ e79 Ar85 (j := (3 : Int32)) hin86 (g := (mkF m 97 #[.val (.int p0), .val (.int p1), .val (.int p2), .val (.int p3), .val (.int p4), .val (.int p5), .val (.int (v0_2 p0 p1 p2 p3 p4 p5)), .val (.ref b1), .unset, .unset, .unset, .unset, .unset] [(.int (v0_3 p0 p1 p2 p3 p4 p5)), (.int (3 : Int32)), (.ref b51), (.ref b51)])) rfl rfl (hb hby at_97)
  have V87 : Arv Z h87 b51 k51 .int (9 : Int32) [(.int p0), (.int p1), (.int p2), (.int (v0_3 p0 p1 p2 p3 p4 p5)), (.int (0 : Int32)), (.int (0 : Int32)), (.int (0 : Int32)), (.int (0 : Int32)), (.int (0 : Int32))] (.int (0 : Int32)) := Arv.set Ar85 qc85 S85 M85 Ha85 G85 rfl W87 3 rfl (Nat.le_of_ble_eq_true rfl)
  have N87 := Fr.snoc X87 N79 g54
  have z88 : n0 ≤ h87.size := Nat.le_trans z80 (Keep.of_wr W87).1
  have hs89 : h0.size ≤ h87.size := Nat.le_trans hs81 (Keep.of_wr W87).1
  have k90 := (k82.other W87 ne53)
  obtain ⟨cl91, Ar91, qc91, S91, M91, Ha91, G91⟩ := id k90
  have hin92 : ¬ ((4 : Int32) < 0 ∨ cl91.slots.size ≤ ((4 : Int32)).toNatClampNeg) := inb_of S91 ⟨by decide, by decide⟩
  obtain ⟨cl93, Ar93, qc93, S93, M93, Ha93, G93⟩ := id V87
  have hin94 : ¬ ((4 : Int32) < 0 ∨ cl93.slots.size ≤ ((4 : Int32)).toNatClampNeg) := inb_of S93 ⟨by decide, by decide⟩
  obtain ⟨T95, h95, X95, e95, W95, st95⟩ := stI X87 hx hZ e87 Ar93 (j := (4 : Int32)) hin94 (g := (mkF m 104 #[.val (.int p0), .val (.int p1), .val (.int p2), .val (.int p3), .val (.int p4), .val (.int p5), .val (.int (v0_2 p0 p1 p2 p3 p4 p5)), .val (.ref b1), .unset, .unset, .unset, .unset, .unset] [(.int (v0_4 p0 p1 p2 p3 p4 p5)), (.int (4 : Int32)), (.ref b51), (.ref b51)])) rfl rfl (hb hby at_104)
  have V95 : Arv Z h95 b51 k51 .int (9 : Int32) [(.int p0), (.int p1), (.int p2), (.int (v0_3 p0 p1 p2 p3 p4 p5)), (.int (v0_4 p0 p1 p2 p3 p4 p5)), (.int (0 : Int32)), (.int (0 : Int32)), (.int (0 : Int32)), (.int (0 : Int32))] (.int (0 : Int32)) := Arv.set Ar93 qc93 S93 M93 Ha93 G93 rfl W95 4 rfl (Nat.le_of_ble_eq_true rfl)
  have N95 := Fr.snoc X95 N87 g54
  have z96 : n0 ≤ h95.size := Nat.le_trans z88 (Keep.of_wr W95).1
  have hs97 : h0.size ≤ h95.size := Nat.le_trans hs89 (Keep.of_wr W95).1
  have k98 := (k90.other W95 ne53)
  obtain ⟨cl99, Ar99, qc99, S99, M99, Ha99, G99⟩ := id k98
  have hin100 : ¬ ((5 : Int32) < 0 ∨ cl99.slots.size ≤ ((5 : Int32)).toNatClampNeg) := inb_of S99 ⟨by decide, by decide⟩
  obtain ⟨cl101, Ar101, qc101, S101, M101, Ha101, G101⟩ := id V95
  have hin102 : ¬ ((5 : Int32) < 0 ∨ cl101.slots.size ≤ ((5 : Int32)).toNatClampNeg) := inb_of S101 ⟨by decide, by decide⟩
  obtain ⟨T103, h103, X103, e103, W103, st103⟩ := stI X95 hx hZ e95 Ar101 (j := (5 : Int32)) hin102 (g := (mkF m 111 #[.val (.int p0), .val (.int p1), .val (.int p2), .val (.int p3), .val (.int p4), .val (.int p5), .val (.int (v0_2 p0 p1 p2 p3 p4 p5)), .val (.ref b1), .unset, .unset, .unset, .unset, .unset] [(.int (v0_5 p0 p1 p2 p3 p4 p5)), (.int (5 : Int32)), (.ref b51), (.ref b51)])) rfl rfl (hb hby at_111)
  have V103 : Arv Z h103 b51 k51 .int (9 : Int32) [(.int p0), (.int p1), (.int p2), (.int (v0_3 p0 p1 p2 p3 p4 p5)), (.int (v0_4 p0 p1 p2 p3 p4 p5)), (.int (v0_5 p0 p1 p2 p3 p4 p5)), (.int (0 : Int32)), (.int (0 : Int32)), (.int (0 : Int32))] (.int (0 : Int32)) := Arv.set Ar101 qc101 S101 M101 Ha101 G101 rfl W103 5 rfl (Nat.le_of_ble_eq_true rfl)
  have N103 := Fr.snoc X103 N95 g54
  have z104 : n0 ≤ h103.size := Nat.le_trans z96 (Keep.of_wr W103).1
  have hs105 : h0.size ≤ h103.size := Nat.le_trans hs97 (Keep.of_wr W103).1
  have k106 := (k98.other W103 ne53)
  obtain ⟨cl107, Ar107, qc107, S107, M107, Ha107, G107⟩ := id k106
  have hin108 : ¬ ((6 : Int32) < 0 ∨ cl107.slots.size ≤ ((6 : Int32)).toNatClampNeg) := inb_of S107 ⟨by decide, by decide⟩
  obtain ⟨cl109, Ar109, qc109, S109, M109, Ha109, G109⟩ := id V103
  have hin110 : ¬ ((6 : Int32) < 0 ∨ cl109.slots.size ≤ ((6 : Int32)).toNatClampNeg) := inb_of S109 ⟨by decide, by decide⟩
  obtain ⟨T111, h111, X111, e111, W111, st111⟩ := stI X103 hx hZ e103 Ar109 (j := (6 : Int32)) hin110 (g := (mkF m 120 #[.val (.int p0), .val (.int p1), .val (.int p2), .val (.int p3), .val (.int p4), .val (.int p5), .val (.int (v0_2 p0 p1 p2 p3 p4 p5)), .val (.ref b1), .unset, .unset, .unset, .unset, .unset] [(.int (v0_6 p0 p1 p2 p3 p4 p5)), (.int (6 : Int32)), (.ref b51), (.ref b51)])) rfl rfl (hb hby at_120)
  have V111 : Arv Z h111 b51 k51 .int (9 : Int32) [(.int p0), (.int p1), (.int p2), (.int (v0_3 p0 p1 p2 p3 p4 p5)), (.int (v0_4 p0 p1 p2 p3 p4 p5)), (.int (v0_5 p0 p1 p2 p3 p4 p5)), (.int (v0_6 p0 p1 p2 p3 p4 p5)), (.int (0 : Int32)), (.int (0 : Int32))] (.int (0 : Int32)) := Arv.set Ar109 qc109 S109 M109 Ha109 G109 rfl W111 6 rfl (Nat.le_of_ble_eq_true rfl)
  have N111 := Fr.snoc X111 N103 g54
  have z112 : n0 ≤ h111.size := Nat.le_trans z104 (Keep.of_wr W111).1
  have hs113 : h0.size ≤ h111.size := Nat.le_trans hs105 (Keep.of_wr W111).1
  have k114 := (k106.other W111 ne53)
  obtain ⟨cl115, Ar115, qc115, S115, M115, Ha115, G115⟩ := id k114
  have hin116 : ¬ ((7 : Int32) < 0 ∨ cl115.slots.size ≤ ((7 : Int32)).toNatClampNeg) := inb_of S115 ⟨by decide, by decide⟩
  obtain ⟨cl117, Ar117, qc117, S117, M117, Ha117, G117⟩ := id V111
  have hin118 : ¬ ((7 : Int32) < 0 ∨ cl117.slots.size ≤ ((7 : Int32)).toNatClampNeg) := inb_of S117 ⟨by decide, by decide⟩
  obtain ⟨T119, h119, X119, e119, W119, st119⟩ := stI X111 hx hZ e111 Ar117 (j := (7 : Int32)) hin118 (g := (mkF m 129 #[.val (.int p0), .val (.int p1), .val (.int p2), .val (.int p3), .val (.int p4), .val (.int p5), .val (.int (v0_2 p0 p1 p2 p3 p4 p5)), .val (.ref b1), .unset, .unset, .unset, .unset, .unset] [(.int (v0_7 p0 p1 p2 p3 p4 p5)), (.int (7 : Int32)), (.ref b51), (.ref b51)])) rfl rfl (hb hby at_129)
  have V119 : Arv Z h119 b51 k51 .int (9 : Int32) [(.int p0), (.int p1), (.int p2), (.int (v0_3 p0 p1 p2 p3 p4 p5)), (.int (v0_4 p0 p1 p2 p3 p4 p5)), (.int (v0_5 p0 p1 p2 p3 p4 p5)), (.int (v0_6 p0 p1 p2 p3 p4 p5)), (.int (v0_7 p0 p1 p2 p3 p4 p5)), (.int (0 : Int32))] (.int (0 : Int32)) := Arv.set Ar117 qc117 S117 M117 Ha117 G117 rfl W119 7 rfl (Nat.le_of_ble_eq_true rfl)
  have N119 := Fr.snoc X119 N111 g54
  have z120 : n0 ≤ h119.size := Nat.le_trans z112 (Keep.of_wr W119).1
  have hs121 : h0.size ≤ h119.size := Nat.le_trans hs113 (Keep.of_wr W119).1
  have k122 := (k114.other W119 ne53)
  obtain ⟨cl123, Ar123, qc123, S123, M123, Ha123, G123⟩ := id k122
  have hin124 : ¬ ((8 : Int32) < 0 ∨ cl123.slots.size ≤ ((8 : Int32)).toNatClampNeg) := inb_of S123 ⟨by decide, by decide⟩
  obtain ⟨cl125, Ar125, qc125, S125, M125, Ha125, G125⟩ := id V119
  have hin126 : ¬ ((8 : Int32) < 0 ∨ cl125.slots.size ≤ ((8 : Int32)).toNatClampNeg) := inb_of S125 ⟨by decide, by decide⟩
  obtain ⟨T127, h127, X127, e127, W127, st127⟩ := stI X119 hx hZ e119 Ar125 (j := (8 : Int32)) hin126 (g := (mkF m 138 #[.val (.int p0), .val (.int p1), .val (.int p2), .val (.int p3), .val (.int p4), .val (.int p5), .val (.int (v0_2 p0 p1 p2 p3 p4 p5)), .val (.ref b1), .unset, .unset, .unset, .unset, .unset] [(.int (v0_8 p0 p1 p2 p3 p4 p5)), (.int (8 : Int32)), (.ref b51), (.ref b51)])) rfl rfl (hb hby at_138)
  have V127 : Arv Z h127 b51 k51 .int (9 : Int32) [(.int p0), (.int p1), (.int p2), (.int (v0_3 p0 p1 p2 p3 p4 p5)), (.int (v0_4 p0 p1 p2 p3 p4 p5)), (.int (v0_5 p0 p1 p2 p3 p4 p5)), (.int (v0_6 p0 p1 p2 p3 p4 p5)), (.int (v0_7 p0 p1 p2 p3 p4 p5)), (.int (v0_8 p0 p1 p2 p3 p4 p5))] (.int (0 : Int32)) := Arv.set Ar125 qc125 S125 M125 Ha125 G125 rfl W127 8 rfl (Nat.le_of_ble_eq_true rfl)
  have N127 := Fr.snoc X127 N119 g54
  have z128 : n0 ≤ h127.size := Nat.le_trans z120 (Keep.of_wr W127).1
  have hs129 : h0.size ≤ h127.size := Nat.le_trans hs121 (Keep.of_wr W127).1
  obtain ⟨cl130, Ar130, qc130, S130, M130, Ha130, G130⟩ := id V127
  have hin131 : ¬ ((v0_2 p0 p1 p2 p3 p4 p5) < 0 ∨ cl130.slots.size ≤ ((v0_2 p0 p1 p2 p3 p4 p5)).toNatClampNeg) := inb_of S130 ⟨(own_k0 p0 p1 p2 p3 p4 p5), (own_k9 p0 p1 p2 p3 p4 p5)⟩
  have hin132 : ¬ ((v0_2 p0 p1 p2 p3 p4 p5) < 0 ∨ cl130.slots.size ≤ ((v0_2 p0 p1 p2 p3 p4 p5)).toNatClampNeg) := inb_of S130 ⟨(own_k0 p0 p1 p2 p3 p4 p5), (own_k9 p0 p1 p2 p3 p4 p5)⟩
  obtain ⟨T133, h133, X133, e133, W133, st133⟩ := stI X127 hx hZ e127 Ar130 (j := (v0_2 p0 p1 p2 p3 p4 p5)) hin132 (g := (mkF m 153 #[.val (.int p0), .val (.int p1), .val (.int p2), .val (.int p3), .val (.int p4), .val (.int p5), .val (.int (v0_2 p0 p1 p2 p3 p4 p5)), .val (.ref b1), .val (.ref b51), .unset, .unset, .unset, .unset] [(.int ((own_pick (v0_2 p0 p1 p2 p3 p4 p5) p0 p1 p2 (v0_3 p0 p1 p2 p3 p4 p5) (v0_4 p0 p1 p2 p3 p4 p5) (v0_5 p0 p1 p2 p3 p4 p5) (v0_6 p0 p1 p2 p3 p4 p5) (v0_7 p0 p1 p2 p3 p4 p5) (v0_8 p0 p1 p2 p3 p4 p5)) + p4)), (.int (v0_2 p0 p1 p2 p3 p4 p5)), (.ref b51)])) rfl rfl (hb hby at_153)
  have V133 : Arv Z h133 b51 k51 .int (9 : Int32) [(.int (v0_10 p0 p1 p2 p3 p4 p5)), (.int (v0_11 p0 p1 p2 p3 p4 p5)), (.int (v0_12 p0 p1 p2 p3 p4 p5)), (.int (v0_13 p0 p1 p2 p3 p4 p5)), (.int (v0_14 p0 p1 p2 p3 p4 p5)), (.int (v0_15 p0 p1 p2 p3 p4 p5)), (.int (v0_16 p0 p1 p2 p3 p4 p5)), (.int (v0_17 p0 p1 p2 p3 p4 p5)), (.int (v0_18 p0 p1 p2 p3 p4 p5))] (.int (0 : Int32)) := by
    have q := Arv.set Ar130 qc130 S130 M130 Ha130 G130 rfl W133 _ rfl (own_len9 (own_k0 p0 p1 p2 p3 p4 p5) (own_k9 p0 p1 p2 p3 p4 p5))
    rw [own_set9 (own_k0 p0 p1 p2 p3 p4 p5) (own_k9 p0 p1 p2 p3 p4 p5)] at q
    exact q
  have N133 := Fr.snoc X133 N127 g54
  have z134 : n0 ≤ h133.size := Nat.le_trans z128 (Keep.of_wr W133).1
  have hs135 : h0.size ≤ h133.size := Nat.le_trans hs129 (Keep.of_wr W133).1
  have pre136 : ∀ t, Steps p.tables e below (T133.setTop (mkF m 158 #[.val (.int p0), .val (.int p1), .val (.int p2), .val (.int p3), .val (.int p4), .val (.int p5), .val (.int (v0_2 p0 p1 p2 p3 p4 p5)), .val (.ref b1), .val (.ref b51), .unset, .unset, .unset, .unset] [(.int (p5 &&& (1 : Int32)))])) t → Steps p.tables e below (s₁.setTop (entryFrame m #[(.int p0), (.int p1), (.int p2), (.int p3), (.int p4), (.int p5)] maxLocals)) t := by
    intro t k
    refine pre0 t ?_
    show Steps p.tables e below (s₁.setTop (mkF m 0 #[.val (.int p0), .val (.int p1), .val (.int p2), .val (.int p3), .val (.int p4), .val (.int p5), .unset, .unset, .unset, .unset, .unset, .unset, .unset] [])) _
    refine XS.iloadN X0.here hx rfl (hb hby at_0) rfl ?_
    show Steps p.tables e below (s₁.setTop (mkF m 1 #[.val (.int p0), .val (.int p1), .val (.int p2), .val (.int p3), .val (.int p4), .val (.int p5), .unset, .unset, .unset, .unset, .unset, .unset, .unset] [(.int p3)])) _
    refine X0.ldcI hx hown (mvT hZ (hw _ (List.mem_of_getElem? (i := 0) rfl))) rfl (hb hby at_1) ?_
    show Steps p.tables e below (s₁.setTop (mkF m 3 #[.val (.int p0), .val (.int p1), .val (.int p2), .val (.int p3), .val (.int p4), .val (.int p5), .unset, .unset, .unset, .unset, .unset, .unset, .unset] [(.int (2147483647 : Int32)), (.int p3)])) _
    refine XS.iand X0.here hx rfl (hb hby at_3) rfl ?_
    show Steps p.tables e below (s₁.setTop (mkF m 4 #[.val (.int p0), .val (.int p1), .val (.int p2), .val (.int p3), .val (.int p4), .val (.int p5), .unset, .unset, .unset, .unset, .unset, .unset, .unset] [(.int (p3 &&& (2147483647 : Int32)))])) _
    refine XT.bipushV X0.here hx rfl (9 : Int32) (hb hby at_4) (by decide) ?_
    show Steps p.tables e below (s₁.setTop (mkF m 6 #[.val (.int p0), .val (.int p1), .val (.int p2), .val (.int p3), .val (.int p4), .val (.int p5), .unset, .unset, .unset, .unset, .unset, .unset, .unset] [(.int (9 : Int32)), (.int (p3 &&& (2147483647 : Int32)))])) _
    refine XS.irem X0.here hx rfl (hb hby at_6) rfl (by decide) ?_
    show Steps p.tables e below (s₁.setTop (mkF m 7 #[.val (.int p0), .val (.int p1), .val (.int p2), .val (.int p3), .val (.int p4), .val (.int p5), .unset, .unset, .unset, .unset, .unset, .unset, .unset] [(.int ((v0_1 p0 p1 p2 p3 p4 p5) - ((v0_1 p0 p1 p2 p3 p4 p5) / (9 : Int32)) * (9 : Int32)))])) _
    refine XS.istore X0.here hx rfl (hb hby at_7) rfl (l' := #[.val (.int p0), .val (.int p1), .val (.int p2), .val (.int p3), .val (.int p4), .val (.int p5), .val (.int (v0_2 p0 p1 p2 p3 p4 p5)), .unset, .unset, .unset, .unset, .unset, .unset]) rfl ?_
    show Steps p.tables e below (s₁.setTop (mkF m 9 #[.val (.int p0), .val (.int p1), .val (.int p2), .val (.int p3), .val (.int p4), .val (.int p5), .val (.int (v0_2 p0 p1 p2 p3 p4 p5)), .unset, .unset, .unset, .unset, .unset, .unset] [])) _
    refine XT.bipushV X0.here hx rfl (9 : Int32) (hb hby at_9) (by decide) ?_
    show Steps p.tables e below (s₁.setTop (mkF m 11 #[.val (.int p0), .val (.int p1), .val (.int p2), .val (.int p3), .val (.int p4), .val (.int p5), .val (.int (v0_2 p0 p1 p2 p3 p4 p5)), .unset, .unset, .unset, .unset, .unset, .unset] [(.int (9 : Int32))])) _
    refine st1 _ ?_
    show Steps p.tables e below (T1.setTop (mkF m 13 #[.val (.int p0), .val (.int p1), .val (.int p2), .val (.int p3), .val (.int p4), .val (.int p5), .val (.int (v0_2 p0 p1 p2 p3 p4 p5)), .unset, .unset, .unset, .unset, .unset, .unset] [(.ref b1)])) _
    refine XS.dup X1.here hx rfl (hb hby at_13) rfl rfl ?_
    show Steps p.tables e below (T1.setTop (mkF m 14 #[.val (.int p0), .val (.int p1), .val (.int p2), .val (.int p3), .val (.int p4), .val (.int p5), .val (.int (v0_2 p0 p1 p2 p3 p4 p5)), .unset, .unset, .unset, .unset, .unset, .unset] [(.ref b1), (.ref b1)])) _
    refine XT.iconstV X1.here hx rfl (0 : Int32) (hb hby at_14) (by decide) ?_
    show Steps p.tables e below (T1.setTop (mkF m 15 #[.val (.int p0), .val (.int p1), .val (.int p2), .val (.int p3), .val (.int p4), .val (.int p5), .val (.int (v0_2 p0 p1 p2 p3 p4 p5)), .unset, .unset, .unset, .unset, .unset, .unset] [(.int (0 : Int32)), (.ref b1), (.ref b1)])) _
    refine XS.iloadN X1.here hx rfl (hb hby at_15) rfl ?_
    show Steps p.tables e below (T1.setTop (mkF m 16 #[.val (.int p0), .val (.int p1), .val (.int p2), .val (.int p3), .val (.int p4), .val (.int p5), .val (.int (v0_2 p0 p1 p2 p3 p4 p5)), .unset, .unset, .unset, .unset, .unset, .unset] [(.int p0), (.int (0 : Int32)), (.ref b1), (.ref b1)])) _
    refine st8 _ ?_
    show Steps p.tables e below (T8.setTop (mkF m 17 #[.val (.int p0), .val (.int p1), .val (.int p2), .val (.int p3), .val (.int p4), .val (.int p5), .val (.int (v0_2 p0 p1 p2 p3 p4 p5)), .unset, .unset, .unset, .unset, .unset, .unset] [(.ref b1)])) _
    refine XS.dup X8.here hx rfl (hb hby at_17) rfl rfl ?_
    show Steps p.tables e below (T8.setTop (mkF m 18 #[.val (.int p0), .val (.int p1), .val (.int p2), .val (.int p3), .val (.int p4), .val (.int p5), .val (.int (v0_2 p0 p1 p2 p3 p4 p5)), .unset, .unset, .unset, .unset, .unset, .unset] [(.ref b1), (.ref b1)])) _
    refine XT.iconstV X8.here hx rfl (1 : Int32) (hb hby at_18) (by decide) ?_
    show Steps p.tables e below (T8.setTop (mkF m 19 #[.val (.int p0), .val (.int p1), .val (.int p2), .val (.int p3), .val (.int p4), .val (.int p5), .val (.int (v0_2 p0 p1 p2 p3 p4 p5)), .unset, .unset, .unset, .unset, .unset, .unset] [(.int (1 : Int32)), (.ref b1), (.ref b1)])) _
    refine XS.iloadN X8.here hx rfl (hb hby at_19) rfl ?_
    show Steps p.tables e below (T8.setTop (mkF m 20 #[.val (.int p0), .val (.int p1), .val (.int p2), .val (.int p3), .val (.int p4), .val (.int p5), .val (.int (v0_2 p0 p1 p2 p3 p4 p5)), .unset, .unset, .unset, .unset, .unset, .unset] [(.int p1), (.int (1 : Int32)), (.ref b1), (.ref b1)])) _
    refine st13 _ ?_
    show Steps p.tables e below (T13.setTop (mkF m 21 #[.val (.int p0), .val (.int p1), .val (.int p2), .val (.int p3), .val (.int p4), .val (.int p5), .val (.int (v0_2 p0 p1 p2 p3 p4 p5)), .unset, .unset, .unset, .unset, .unset, .unset] [(.ref b1)])) _
    refine XS.dup X13.here hx rfl (hb hby at_21) rfl rfl ?_
    show Steps p.tables e below (T13.setTop (mkF m 22 #[.val (.int p0), .val (.int p1), .val (.int p2), .val (.int p3), .val (.int p4), .val (.int p5), .val (.int (v0_2 p0 p1 p2 p3 p4 p5)), .unset, .unset, .unset, .unset, .unset, .unset] [(.ref b1), (.ref b1)])) _
    refine XT.iconstV X13.here hx rfl (2 : Int32) (hb hby at_22) (by decide) ?_
    show Steps p.tables e below (T13.setTop (mkF m 23 #[.val (.int p0), .val (.int p1), .val (.int p2), .val (.int p3), .val (.int p4), .val (.int p5), .val (.int (v0_2 p0 p1 p2 p3 p4 p5)), .unset, .unset, .unset, .unset, .unset, .unset] [(.int (2 : Int32)), (.ref b1), (.ref b1)])) _
    refine XS.iloadN X13.here hx rfl (hb hby at_23) rfl ?_
    show Steps p.tables e below (T13.setTop (mkF m 24 #[.val (.int p0), .val (.int p1), .val (.int p2), .val (.int p3), .val (.int p4), .val (.int p5), .val (.int (v0_2 p0 p1 p2 p3 p4 p5)), .unset, .unset, .unset, .unset, .unset, .unset] [(.int p2), (.int (2 : Int32)), (.ref b1), (.ref b1)])) _
    refine st18 _ ?_
    show Steps p.tables e below (T18.setTop (mkF m 25 #[.val (.int p0), .val (.int p1), .val (.int p2), .val (.int p3), .val (.int p4), .val (.int p5), .val (.int (v0_2 p0 p1 p2 p3 p4 p5)), .unset, .unset, .unset, .unset, .unset, .unset] [(.ref b1)])) _
    refine XS.dup X18.here hx rfl (hb hby at_25) rfl rfl ?_
    show Steps p.tables e below (T18.setTop (mkF m 26 #[.val (.int p0), .val (.int p1), .val (.int p2), .val (.int p3), .val (.int p4), .val (.int p5), .val (.int (v0_2 p0 p1 p2 p3 p4 p5)), .unset, .unset, .unset, .unset, .unset, .unset] [(.ref b1), (.ref b1)])) _
    refine XT.iconstV X18.here hx rfl (3 : Int32) (hb hby at_26) (by decide) ?_
    show Steps p.tables e below (T18.setTop (mkF m 27 #[.val (.int p0), .val (.int p1), .val (.int p2), .val (.int p3), .val (.int p4), .val (.int p5), .val (.int (v0_2 p0 p1 p2 p3 p4 p5)), .unset, .unset, .unset, .unset, .unset, .unset] [(.int (3 : Int32)), (.ref b1), (.ref b1)])) _
    refine XS.iloadN X18.here hx rfl (hb hby at_27) rfl ?_
    show Steps p.tables e below (T18.setTop (mkF m 28 #[.val (.int p0), .val (.int p1), .val (.int p2), .val (.int p3), .val (.int p4), .val (.int p5), .val (.int (v0_2 p0 p1 p2 p3 p4 p5)), .unset, .unset, .unset, .unset, .unset, .unset] [(.int p0), (.int (3 : Int32)), (.ref b1), (.ref b1)])) _
    refine XS.iloadN X18.here hx rfl (hb hby at_28) rfl ?_
    show Steps p.tables e below (T18.setTop (mkF m 29 #[.val (.int p0), .val (.int p1), .val (.int p2), .val (.int p3), .val (.int p4), .val (.int p5), .val (.int (v0_2 p0 p1 p2 p3 p4 p5)), .unset, .unset, .unset, .unset, .unset, .unset] [(.int p1), (.int p0), (.int (3 : Int32)), (.ref b1), (.ref b1)])) _
    refine XS.iadd X18.here hx rfl (hb hby at_29) rfl ?_
    show Steps p.tables e below (T18.setTop (mkF m 30 #[.val (.int p0), .val (.int p1), .val (.int p2), .val (.int p3), .val (.int p4), .val (.int p5), .val (.int (v0_2 p0 p1 p2 p3 p4 p5)), .unset, .unset, .unset, .unset, .unset, .unset] [(.int (p0 + p1)), (.int (3 : Int32)), (.ref b1), (.ref b1)])) _
    refine st23 _ ?_
    show Steps p.tables e below (T23.setTop (mkF m 31 #[.val (.int p0), .val (.int p1), .val (.int p2), .val (.int p3), .val (.int p4), .val (.int p5), .val (.int (v0_2 p0 p1 p2 p3 p4 p5)), .unset, .unset, .unset, .unset, .unset, .unset] [(.ref b1)])) _
    refine XS.dup X23.here hx rfl (hb hby at_31) rfl rfl ?_
    show Steps p.tables e below (T23.setTop (mkF m 32 #[.val (.int p0), .val (.int p1), .val (.int p2), .val (.int p3), .val (.int p4), .val (.int p5), .val (.int (v0_2 p0 p1 p2 p3 p4 p5)), .unset, .unset, .unset, .unset, .unset, .unset] [(.ref b1), (.ref b1)])) _
    refine XT.iconstV X23.here hx rfl (4 : Int32) (hb hby at_32) (by decide) ?_
    show Steps p.tables e below (T23.setTop (mkF m 33 #[.val (.int p0), .val (.int p1), .val (.int p2), .val (.int p3), .val (.int p4), .val (.int p5), .val (.int (v0_2 p0 p1 p2 p3 p4 p5)), .unset, .unset, .unset, .unset, .unset, .unset] [(.int (4 : Int32)), (.ref b1), (.ref b1)])) _
    refine XS.iloadN X23.here hx rfl (hb hby at_33) rfl ?_
    show Steps p.tables e below (T23.setTop (mkF m 34 #[.val (.int p0), .val (.int p1), .val (.int p2), .val (.int p3), .val (.int p4), .val (.int p5), .val (.int (v0_2 p0 p1 p2 p3 p4 p5)), .unset, .unset, .unset, .unset, .unset, .unset] [(.int p1), (.int (4 : Int32)), (.ref b1), (.ref b1)])) _
    refine XS.iloadN X23.here hx rfl (hb hby at_34) rfl ?_
    show Steps p.tables e below (T23.setTop (mkF m 35 #[.val (.int p0), .val (.int p1), .val (.int p2), .val (.int p3), .val (.int p4), .val (.int p5), .val (.int (v0_2 p0 p1 p2 p3 p4 p5)), .unset, .unset, .unset, .unset, .unset, .unset] [(.int p2), (.int p1), (.int (4 : Int32)), (.ref b1), (.ref b1)])) _
    refine XS.iadd X23.here hx rfl (hb hby at_35) rfl ?_
    show Steps p.tables e below (T23.setTop (mkF m 36 #[.val (.int p0), .val (.int p1), .val (.int p2), .val (.int p3), .val (.int p4), .val (.int p5), .val (.int (v0_2 p0 p1 p2 p3 p4 p5)), .unset, .unset, .unset, .unset, .unset, .unset] [(.int (p1 + p2)), (.int (4 : Int32)), (.ref b1), (.ref b1)])) _
    refine st28 _ ?_
    show Steps p.tables e below (T28.setTop (mkF m 37 #[.val (.int p0), .val (.int p1), .val (.int p2), .val (.int p3), .val (.int p4), .val (.int p5), .val (.int (v0_2 p0 p1 p2 p3 p4 p5)), .unset, .unset, .unset, .unset, .unset, .unset] [(.ref b1)])) _
    refine XS.dup X28.here hx rfl (hb hby at_37) rfl rfl ?_
    show Steps p.tables e below (T28.setTop (mkF m 38 #[.val (.int p0), .val (.int p1), .val (.int p2), .val (.int p3), .val (.int p4), .val (.int p5), .val (.int (v0_2 p0 p1 p2 p3 p4 p5)), .unset, .unset, .unset, .unset, .unset, .unset] [(.ref b1), (.ref b1)])) _
    refine XT.iconstV X28.here hx rfl (5 : Int32) (hb hby at_38) (by decide) ?_
    show Steps p.tables e below (T28.setTop (mkF m 39 #[.val (.int p0), .val (.int p1), .val (.int p2), .val (.int p3), .val (.int p4), .val (.int p5), .val (.int (v0_2 p0 p1 p2 p3 p4 p5)), .unset, .unset, .unset, .unset, .unset, .unset] [(.int (5 : Int32)), (.ref b1), (.ref b1)])) _
    refine XS.iloadN X28.here hx rfl (hb hby at_39) rfl ?_
    show Steps p.tables e below (T28.setTop (mkF m 40 #[.val (.int p0), .val (.int p1), .val (.int p2), .val (.int p3), .val (.int p4), .val (.int p5), .val (.int (v0_2 p0 p1 p2 p3 p4 p5)), .unset, .unset, .unset, .unset, .unset, .unset] [(.int p2), (.int (5 : Int32)), (.ref b1), (.ref b1)])) _
    refine XS.iloadN X28.here hx rfl (hb hby at_40) rfl ?_
    show Steps p.tables e below (T28.setTop (mkF m 41 #[.val (.int p0), .val (.int p1), .val (.int p2), .val (.int p3), .val (.int p4), .val (.int p5), .val (.int (v0_2 p0 p1 p2 p3 p4 p5)), .unset, .unset, .unset, .unset, .unset, .unset] [(.int p0), (.int p2), (.int (5 : Int32)), (.ref b1), (.ref b1)])) _
    refine XS.iadd X28.here hx rfl (hb hby at_41) rfl ?_
    show Steps p.tables e below (T28.setTop (mkF m 42 #[.val (.int p0), .val (.int p1), .val (.int p2), .val (.int p3), .val (.int p4), .val (.int p5), .val (.int (v0_2 p0 p1 p2 p3 p4 p5)), .unset, .unset, .unset, .unset, .unset, .unset] [(.int (p2 + p0)), (.int (5 : Int32)), (.ref b1), (.ref b1)])) _
    refine st33 _ ?_
    show Steps p.tables e below (T33.setTop (mkF m 43 #[.val (.int p0), .val (.int p1), .val (.int p2), .val (.int p3), .val (.int p4), .val (.int p5), .val (.int (v0_2 p0 p1 p2 p3 p4 p5)), .unset, .unset, .unset, .unset, .unset, .unset] [(.ref b1)])) _
    refine XS.dup X33.here hx rfl (hb hby at_43) rfl rfl ?_
    show Steps p.tables e below (T33.setTop (mkF m 44 #[.val (.int p0), .val (.int p1), .val (.int p2), .val (.int p3), .val (.int p4), .val (.int p5), .val (.int (v0_2 p0 p1 p2 p3 p4 p5)), .unset, .unset, .unset, .unset, .unset, .unset] [(.ref b1), (.ref b1)])) _
    refine XT.bipushV X33.here hx rfl (6 : Int32) (hb hby at_44) (by decide) ?_
    show Steps p.tables e below (T33.setTop (mkF m 46 #[.val (.int p0), .val (.int p1), .val (.int p2), .val (.int p3), .val (.int p4), .val (.int p5), .val (.int (v0_2 p0 p1 p2 p3 p4 p5)), .unset, .unset, .unset, .unset, .unset, .unset] [(.int (6 : Int32)), (.ref b1), (.ref b1)])) _
    refine XS.iloadN X33.here hx rfl (hb hby at_46) rfl ?_
    show Steps p.tables e below (T33.setTop (mkF m 47 #[.val (.int p0), .val (.int p1), .val (.int p2), .val (.int p3), .val (.int p4), .val (.int p5), .val (.int (v0_2 p0 p1 p2 p3 p4 p5)), .unset, .unset, .unset, .unset, .unset, .unset] [(.int p0), (.int (6 : Int32)), (.ref b1), (.ref b1)])) _
    refine XS.iloadN X33.here hx rfl (hb hby at_47) rfl ?_
    show Steps p.tables e below (T33.setTop (mkF m 48 #[.val (.int p0), .val (.int p1), .val (.int p2), .val (.int p3), .val (.int p4), .val (.int p5), .val (.int (v0_2 p0 p1 p2 p3 p4 p5)), .unset, .unset, .unset, .unset, .unset, .unset] [(.int p1), (.int p0), (.int (6 : Int32)), (.ref b1), (.ref b1)])) _
    refine XT.ixor X33.here hx rfl (hb hby at_48) rfl ?_
    show Steps p.tables e below (T33.setTop (mkF m 49 #[.val (.int p0), .val (.int p1), .val (.int p2), .val (.int p3), .val (.int p4), .val (.int p5), .val (.int (v0_2 p0 p1 p2 p3 p4 p5)), .unset, .unset, .unset, .unset, .unset, .unset] [(.int (p0 ^^^ p1)), (.int (6 : Int32)), (.ref b1), (.ref b1)])) _
    refine st38 _ ?_
    show Steps p.tables e below (T38.setTop (mkF m 50 #[.val (.int p0), .val (.int p1), .val (.int p2), .val (.int p3), .val (.int p4), .val (.int p5), .val (.int (v0_2 p0 p1 p2 p3 p4 p5)), .unset, .unset, .unset, .unset, .unset, .unset] [(.ref b1)])) _
    refine XS.dup X38.here hx rfl (hb hby at_50) rfl rfl ?_
    show Steps p.tables e below (T38.setTop (mkF m 51 #[.val (.int p0), .val (.int p1), .val (.int p2), .val (.int p3), .val (.int p4), .val (.int p5), .val (.int (v0_2 p0 p1 p2 p3 p4 p5)), .unset, .unset, .unset, .unset, .unset, .unset] [(.ref b1), (.ref b1)])) _
    refine XT.bipushV X38.here hx rfl (7 : Int32) (hb hby at_51) (by decide) ?_
    show Steps p.tables e below (T38.setTop (mkF m 53 #[.val (.int p0), .val (.int p1), .val (.int p2), .val (.int p3), .val (.int p4), .val (.int p5), .val (.int (v0_2 p0 p1 p2 p3 p4 p5)), .unset, .unset, .unset, .unset, .unset, .unset] [(.int (7 : Int32)), (.ref b1), (.ref b1)])) _
    refine XS.iloadN X38.here hx rfl (hb hby at_53) rfl ?_
    show Steps p.tables e below (T38.setTop (mkF m 54 #[.val (.int p0), .val (.int p1), .val (.int p2), .val (.int p3), .val (.int p4), .val (.int p5), .val (.int (v0_2 p0 p1 p2 p3 p4 p5)), .unset, .unset, .unset, .unset, .unset, .unset] [(.int p1), (.int (7 : Int32)), (.ref b1), (.ref b1)])) _
    refine XS.iloadN X38.here hx rfl (hb hby at_54) rfl ?_
    show Steps p.tables e below (T38.setTop (mkF m 55 #[.val (.int p0), .val (.int p1), .val (.int p2), .val (.int p3), .val (.int p4), .val (.int p5), .val (.int (v0_2 p0 p1 p2 p3 p4 p5)), .unset, .unset, .unset, .unset, .unset, .unset] [(.int p2), (.int p1), (.int (7 : Int32)), (.ref b1), (.ref b1)])) _
    refine XT.ixor X38.here hx rfl (hb hby at_55) rfl ?_
    show Steps p.tables e below (T38.setTop (mkF m 56 #[.val (.int p0), .val (.int p1), .val (.int p2), .val (.int p3), .val (.int p4), .val (.int p5), .val (.int (v0_2 p0 p1 p2 p3 p4 p5)), .unset, .unset, .unset, .unset, .unset, .unset] [(.int (p1 ^^^ p2)), (.int (7 : Int32)), (.ref b1), (.ref b1)])) _
    refine st43 _ ?_
    show Steps p.tables e below (T43.setTop (mkF m 57 #[.val (.int p0), .val (.int p1), .val (.int p2), .val (.int p3), .val (.int p4), .val (.int p5), .val (.int (v0_2 p0 p1 p2 p3 p4 p5)), .unset, .unset, .unset, .unset, .unset, .unset] [(.ref b1)])) _
    refine XS.dup X43.here hx rfl (hb hby at_57) rfl rfl ?_
    show Steps p.tables e below (T43.setTop (mkF m 58 #[.val (.int p0), .val (.int p1), .val (.int p2), .val (.int p3), .val (.int p4), .val (.int p5), .val (.int (v0_2 p0 p1 p2 p3 p4 p5)), .unset, .unset, .unset, .unset, .unset, .unset] [(.ref b1), (.ref b1)])) _
    refine XT.bipushV X43.here hx rfl (8 : Int32) (hb hby at_58) (by decide) ?_
    show Steps p.tables e below (T43.setTop (mkF m 60 #[.val (.int p0), .val (.int p1), .val (.int p2), .val (.int p3), .val (.int p4), .val (.int p5), .val (.int (v0_2 p0 p1 p2 p3 p4 p5)), .unset, .unset, .unset, .unset, .unset, .unset] [(.int (8 : Int32)), (.ref b1), (.ref b1)])) _
    refine XS.iloadN X43.here hx rfl (hb hby at_60) rfl ?_
    show Steps p.tables e below (T43.setTop (mkF m 61 #[.val (.int p0), .val (.int p1), .val (.int p2), .val (.int p3), .val (.int p4), .val (.int p5), .val (.int (v0_2 p0 p1 p2 p3 p4 p5)), .unset, .unset, .unset, .unset, .unset, .unset] [(.int p0), (.int (8 : Int32)), (.ref b1), (.ref b1)])) _
    refine XS.iloadN X43.here hx rfl (hb hby at_61) rfl ?_
    show Steps p.tables e below (T43.setTop (mkF m 62 #[.val (.int p0), .val (.int p1), .val (.int p2), .val (.int p3), .val (.int p4), .val (.int p5), .val (.int (v0_2 p0 p1 p2 p3 p4 p5)), .unset, .unset, .unset, .unset, .unset, .unset] [(.int p2), (.int p0), (.int (8 : Int32)), (.ref b1), (.ref b1)])) _
    refine XS.isub X43.here hx rfl (hb hby at_62) rfl ?_
    show Steps p.tables e below (T43.setTop (mkF m 63 #[.val (.int p0), .val (.int p1), .val (.int p2), .val (.int p3), .val (.int p4), .val (.int p5), .val (.int (v0_2 p0 p1 p2 p3 p4 p5)), .unset, .unset, .unset, .unset, .unset, .unset] [(.int (p0 - p2)), (.int (8 : Int32)), (.ref b1), (.ref b1)])) _
    refine st48 _ ?_
    show Steps p.tables e below (T48.setTop (mkF m 64 #[.val (.int p0), .val (.int p1), .val (.int p2), .val (.int p3), .val (.int p4), .val (.int p5), .val (.int (v0_2 p0 p1 p2 p3 p4 p5)), .unset, .unset, .unset, .unset, .unset, .unset] [(.ref b1)])) _
    refine XS.astore X48.here hx rfl (hb hby at_64) rfl rfl (l' := #[.val (.int p0), .val (.int p1), .val (.int p2), .val (.int p3), .val (.int p4), .val (.int p5), .val (.int (v0_2 p0 p1 p2 p3 p4 p5)), .val (.ref b1), .unset, .unset, .unset, .unset, .unset]) rfl ?_
    show Steps p.tables e below (T48.setTop (mkF m 66 #[.val (.int p0), .val (.int p1), .val (.int p2), .val (.int p3), .val (.int p4), .val (.int p5), .val (.int (v0_2 p0 p1 p2 p3 p4 p5)), .val (.ref b1), .unset, .unset, .unset, .unset, .unset] [])) _
    refine XT.bipushV X48.here hx rfl (9 : Int32) (hb hby at_66) (by decide) ?_
    show Steps p.tables e below (T48.setTop (mkF m 68 #[.val (.int p0), .val (.int p1), .val (.int p2), .val (.int p3), .val (.int p4), .val (.int p5), .val (.int (v0_2 p0 p1 p2 p3 p4 p5)), .val (.ref b1), .unset, .unset, .unset, .unset, .unset] [(.int (9 : Int32))])) _
    refine st51 _ ?_
    show Steps p.tables e below (T51.setTop (mkF m 70 #[.val (.int p0), .val (.int p1), .val (.int p2), .val (.int p3), .val (.int p4), .val (.int p5), .val (.int (v0_2 p0 p1 p2 p3 p4 p5)), .val (.ref b1), .unset, .unset, .unset, .unset, .unset] [(.ref b51)])) _
    refine XS.dup X51.here hx rfl (hb hby at_70) rfl rfl ?_
    show Steps p.tables e below (T51.setTop (mkF m 71 #[.val (.int p0), .val (.int p1), .val (.int p2), .val (.int p3), .val (.int p4), .val (.int p5), .val (.int (v0_2 p0 p1 p2 p3 p4 p5)), .val (.ref b1), .unset, .unset, .unset, .unset, .unset] [(.ref b51), (.ref b51)])) _
    refine XT.iconstV X51.here hx rfl (0 : Int32) (hb hby at_71) (by decide) ?_
    show Steps p.tables e below (T51.setTop (mkF m 72 #[.val (.int p0), .val (.int p1), .val (.int p2), .val (.int p3), .val (.int p4), .val (.int p5), .val (.int (v0_2 p0 p1 p2 p3 p4 p5)), .val (.ref b1), .unset, .unset, .unset, .unset, .unset] [(.int (0 : Int32)), (.ref b51), (.ref b51)])) _
    refine XS.aload X51.here hx rfl (hb hby at_72) rfl rfl ?_
    show Steps p.tables e below (T51.setTop (mkF m 74 #[.val (.int p0), .val (.int p1), .val (.int p2), .val (.int p3), .val (.int p4), .val (.int p5), .val (.int (v0_2 p0 p1 p2 p3 p4 p5)), .val (.ref b1), .unset, .unset, .unset, .unset, .unset] [(.ref b1), (.int (0 : Int32)), (.ref b51), (.ref b51)])) _
    refine XT.iconstV X51.here hx rfl (0 : Int32) (hb hby at_74) (by decide) ?_
    show Steps p.tables e below (T51.setTop (mkF m 75 #[.val (.int p0), .val (.int p1), .val (.int p2), .val (.int p3), .val (.int p4), .val (.int p5), .val (.int (v0_2 p0 p1 p2 p3 p4 p5)), .val (.ref b1), .unset, .unset, .unset, .unset, .unset] [(.int (0 : Int32)), (.ref b1), (.int (0 : Int32)), (.ref b51), (.ref b51)])) _
    refine X51.iaload hx (j := (0 : Int32)) (v := (.int p0)) (by rw [e51]; exact Ar59.1) (State.isArrayOf_alike hZ.alike Ar59.2.1) Ar59.2.2 hin60 (Has.at Ha59 hin60 rfl) (g := (mkF m 75 #[.val (.int p0), .val (.int p1), .val (.int p2), .val (.int p3), .val (.int p4), .val (.int p5), .val (.int (v0_2 p0 p1 p2 p3 p4 p5)), .val (.ref b1), .unset, .unset, .unset, .unset, .unset] [(.int (0 : Int32)), (.ref b1), (.int (0 : Int32)), (.ref b51), (.ref b51)])) rfl rfl (hb hby at_75) _ ?_
    show Steps p.tables e below (T51.setTop (mkF m 76 #[.val (.int p0), .val (.int p1), .val (.int p2), .val (.int p3), .val (.int p4), .val (.int p5), .val (.int (v0_2 p0 p1 p2 p3 p4 p5)), .val (.ref b1), .unset, .unset, .unset, .unset, .unset] [(.int p0), (.int (0 : Int32)), (.ref b51), (.ref b51)])) _
    refine st63 _ ?_
    show Steps p.tables e below (T63.setTop (mkF m 77 #[.val (.int p0), .val (.int p1), .val (.int p2), .val (.int p3), .val (.int p4), .val (.int p5), .val (.int (v0_2 p0 p1 p2 p3 p4 p5)), .val (.ref b1), .unset, .unset, .unset, .unset, .unset] [(.ref b51)])) _
    refine XS.dup X63.here hx rfl (hb hby at_77) rfl rfl ?_
    show Steps p.tables e below (T63.setTop (mkF m 78 #[.val (.int p0), .val (.int p1), .val (.int p2), .val (.int p3), .val (.int p4), .val (.int p5), .val (.int (v0_2 p0 p1 p2 p3 p4 p5)), .val (.ref b1), .unset, .unset, .unset, .unset, .unset] [(.ref b51), (.ref b51)])) _
    refine XT.iconstV X63.here hx rfl (1 : Int32) (hb hby at_78) (by decide) ?_
    show Steps p.tables e below (T63.setTop (mkF m 79 #[.val (.int p0), .val (.int p1), .val (.int p2), .val (.int p3), .val (.int p4), .val (.int p5), .val (.int (v0_2 p0 p1 p2 p3 p4 p5)), .val (.ref b1), .unset, .unset, .unset, .unset, .unset] [(.int (1 : Int32)), (.ref b51), (.ref b51)])) _
    refine XS.aload X63.here hx rfl (hb hby at_79) rfl rfl ?_
    show Steps p.tables e below (T63.setTop (mkF m 81 #[.val (.int p0), .val (.int p1), .val (.int p2), .val (.int p3), .val (.int p4), .val (.int p5), .val (.int (v0_2 p0 p1 p2 p3 p4 p5)), .val (.ref b1), .unset, .unset, .unset, .unset, .unset] [(.ref b1), (.int (1 : Int32)), (.ref b51), (.ref b51)])) _
    refine XT.iconstV X63.here hx rfl (1 : Int32) (hb hby at_81) (by decide) ?_
    show Steps p.tables e below (T63.setTop (mkF m 82 #[.val (.int p0), .val (.int p1), .val (.int p2), .val (.int p3), .val (.int p4), .val (.int p5), .val (.int (v0_2 p0 p1 p2 p3 p4 p5)), .val (.ref b1), .unset, .unset, .unset, .unset, .unset] [(.int (1 : Int32)), (.ref b1), (.int (1 : Int32)), (.ref b51), (.ref b51)])) _
    refine X63.iaload hx (j := (1 : Int32)) (v := (.int p1)) (by rw [e63]; exact Ar67.1) (State.isArrayOf_alike hZ.alike Ar67.2.1) Ar67.2.2 hin68 (Has.at Ha67 hin68 rfl) (g := (mkF m 82 #[.val (.int p0), .val (.int p1), .val (.int p2), .val (.int p3), .val (.int p4), .val (.int p5), .val (.int (v0_2 p0 p1 p2 p3 p4 p5)), .val (.ref b1), .unset, .unset, .unset, .unset, .unset] [(.int (1 : Int32)), (.ref b1), (.int (1 : Int32)), (.ref b51), (.ref b51)])) rfl rfl (hb hby at_82) _ ?_
    show Steps p.tables e below (T63.setTop (mkF m 83 #[.val (.int p0), .val (.int p1), .val (.int p2), .val (.int p3), .val (.int p4), .val (.int p5), .val (.int (v0_2 p0 p1 p2 p3 p4 p5)), .val (.ref b1), .unset, .unset, .unset, .unset, .unset] [(.int p1), (.int (1 : Int32)), (.ref b51), (.ref b51)])) _
    refine st71 _ ?_
    show Steps p.tables e below (T71.setTop (mkF m 84 #[.val (.int p0), .val (.int p1), .val (.int p2), .val (.int p3), .val (.int p4), .val (.int p5), .val (.int (v0_2 p0 p1 p2 p3 p4 p5)), .val (.ref b1), .unset, .unset, .unset, .unset, .unset] [(.ref b51)])) _
    refine XS.dup X71.here hx rfl (hb hby at_84) rfl rfl ?_
    show Steps p.tables e below (T71.setTop (mkF m 85 #[.val (.int p0), .val (.int p1), .val (.int p2), .val (.int p3), .val (.int p4), .val (.int p5), .val (.int (v0_2 p0 p1 p2 p3 p4 p5)), .val (.ref b1), .unset, .unset, .unset, .unset, .unset] [(.ref b51), (.ref b51)])) _
    refine XT.iconstV X71.here hx rfl (2 : Int32) (hb hby at_85) (by decide) ?_
    show Steps p.tables e below (T71.setTop (mkF m 86 #[.val (.int p0), .val (.int p1), .val (.int p2), .val (.int p3), .val (.int p4), .val (.int p5), .val (.int (v0_2 p0 p1 p2 p3 p4 p5)), .val (.ref b1), .unset, .unset, .unset, .unset, .unset] [(.int (2 : Int32)), (.ref b51), (.ref b51)])) _
    refine XS.aload X71.here hx rfl (hb hby at_86) rfl rfl ?_
    show Steps p.tables e below (T71.setTop (mkF m 88 #[.val (.int p0), .val (.int p1), .val (.int p2), .val (.int p3), .val (.int p4), .val (.int p5), .val (.int (v0_2 p0 p1 p2 p3 p4 p5)), .val (.ref b1), .unset, .unset, .unset, .unset, .unset] [(.ref b1), (.int (2 : Int32)), (.ref b51), (.ref b51)])) _
    refine XT.iconstV X71.here hx rfl (2 : Int32) (hb hby at_88) (by decide) ?_
    show Steps p.tables e below (T71.setTop (mkF m 89 #[.val (.int p0), .val (.int p1), .val (.int p2), .val (.int p3), .val (.int p4), .val (.int p5), .val (.int (v0_2 p0 p1 p2 p3 p4 p5)), .val (.ref b1), .unset, .unset, .unset, .unset, .unset] [(.int (2 : Int32)), (.ref b1), (.int (2 : Int32)), (.ref b51), (.ref b51)])) _
    refine X71.iaload hx (j := (2 : Int32)) (v := (.int p2)) (by rw [e71]; exact Ar75.1) (State.isArrayOf_alike hZ.alike Ar75.2.1) Ar75.2.2 hin76 (Has.at Ha75 hin76 rfl) (g := (mkF m 89 #[.val (.int p0), .val (.int p1), .val (.int p2), .val (.int p3), .val (.int p4), .val (.int p5), .val (.int (v0_2 p0 p1 p2 p3 p4 p5)), .val (.ref b1), .unset, .unset, .unset, .unset, .unset] [(.int (2 : Int32)), (.ref b1), (.int (2 : Int32)), (.ref b51), (.ref b51)])) rfl rfl (hb hby at_89) _ ?_
    show Steps p.tables e below (T71.setTop (mkF m 90 #[.val (.int p0), .val (.int p1), .val (.int p2), .val (.int p3), .val (.int p4), .val (.int p5), .val (.int (v0_2 p0 p1 p2 p3 p4 p5)), .val (.ref b1), .unset, .unset, .unset, .unset, .unset] [(.int p2), (.int (2 : Int32)), (.ref b51), (.ref b51)])) _
    refine st79 _ ?_
    show Steps p.tables e below (T79.setTop (mkF m 91 #[.val (.int p0), .val (.int p1), .val (.int p2), .val (.int p3), .val (.int p4), .val (.int p5), .val (.int (v0_2 p0 p1 p2 p3 p4 p5)), .val (.ref b1), .unset, .unset, .unset, .unset, .unset] [(.ref b51)])) _
    refine XS.dup X79.here hx rfl (hb hby at_91) rfl rfl ?_
    show Steps p.tables e below (T79.setTop (mkF m 92 #[.val (.int p0), .val (.int p1), .val (.int p2), .val (.int p3), .val (.int p4), .val (.int p5), .val (.int (v0_2 p0 p1 p2 p3 p4 p5)), .val (.ref b1), .unset, .unset, .unset, .unset, .unset] [(.ref b51), (.ref b51)])) _
    refine XT.iconstV X79.here hx rfl (3 : Int32) (hb hby at_92) (by decide) ?_
    show Steps p.tables e below (T79.setTop (mkF m 93 #[.val (.int p0), .val (.int p1), .val (.int p2), .val (.int p3), .val (.int p4), .val (.int p5), .val (.int (v0_2 p0 p1 p2 p3 p4 p5)), .val (.ref b1), .unset, .unset, .unset, .unset, .unset] [(.int (3 : Int32)), (.ref b51), (.ref b51)])) _
    refine XS.aload X79.here hx rfl (hb hby at_93) rfl rfl ?_
    show Steps p.tables e below (T79.setTop (mkF m 95 #[.val (.int p0), .val (.int p1), .val (.int p2), .val (.int p3), .val (.int p4), .val (.int p5), .val (.int (v0_2 p0 p1 p2 p3 p4 p5)), .val (.ref b1), .unset, .unset, .unset, .unset, .unset] [(.ref b1), (.int (3 : Int32)), (.ref b51), (.ref b51)])) _
    refine XT.iconstV X79.here hx rfl (3 : Int32) (hb hby at_95) (by decide) ?_
    show Steps p.tables e below (T79.setTop (mkF m 96 #[.val (.int p0), .val (.int p1), .val (.int p2), .val (.int p3), .val (.int p4), .val (.int p5), .val (.int (v0_2 p0 p1 p2 p3 p4 p5)), .val (.ref b1), .unset, .unset, .unset, .unset, .unset] [(.int (3 : Int32)), (.ref b1), (.int (3 : Int32)), (.ref b51), (.ref b51)])) _
    refine X79.iaload hx (j := (3 : Int32)) (v := (.int (v0_3 p0 p1 p2 p3 p4 p5))) (by rw [e79]; exact Ar83.1) (State.isArrayOf_alike hZ.alike Ar83.2.1) Ar83.2.2 hin84 (Has.at Ha83 hin84 rfl) (g := (mkF m 96 #[.val (.int p0), .val (.int p1), .val (.int p2), .val (.int p3), .val (.int p4), .val (.int p5), .val (.int (v0_2 p0 p1 p2 p3 p4 p5)), .val (.ref b1), .unset, .unset, .unset, .unset, .unset] [(.int (3 : Int32)), (.ref b1), (.int (3 : Int32)), (.ref b51), (.ref b51)])) rfl rfl (hb hby at_96) _ ?_
    show Steps p.tables e below (T79.setTop (mkF m 97 #[.val (.int p0), .val (.int p1), .val (.int p2), .val (.int p3), .val (.int p4), .val (.int p5), .val (.int (v0_2 p0 p1 p2 p3 p4 p5)), .val (.ref b1), .unset, .unset, .unset, .unset, .unset] [(.int (v0_3 p0 p1 p2 p3 p4 p5)), (.int (3 : Int32)), (.ref b51), (.ref b51)])) _
    refine st87 _ ?_
    show Steps p.tables e below (T87.setTop (mkF m 98 #[.val (.int p0), .val (.int p1), .val (.int p2), .val (.int p3), .val (.int p4), .val (.int p5), .val (.int (v0_2 p0 p1 p2 p3 p4 p5)), .val (.ref b1), .unset, .unset, .unset, .unset, .unset] [(.ref b51)])) _
    refine XS.dup X87.here hx rfl (hb hby at_98) rfl rfl ?_
    show Steps p.tables e below (T87.setTop (mkF m 99 #[.val (.int p0), .val (.int p1), .val (.int p2), .val (.int p3), .val (.int p4), .val (.int p5), .val (.int (v0_2 p0 p1 p2 p3 p4 p5)), .val (.ref b1), .unset, .unset, .unset, .unset, .unset] [(.ref b51), (.ref b51)])) _
    refine XT.iconstV X87.here hx rfl (4 : Int32) (hb hby at_99) (by decide) ?_
    show Steps p.tables e below (T87.setTop (mkF m 100 #[.val (.int p0), .val (.int p1), .val (.int p2), .val (.int p3), .val (.int p4), .val (.int p5), .val (.int (v0_2 p0 p1 p2 p3 p4 p5)), .val (.ref b1), .unset, .unset, .unset, .unset, .unset] [(.int (4 : Int32)), (.ref b51), (.ref b51)])) _
    refine XS.aload X87.here hx rfl (hb hby at_100) rfl rfl ?_
    show Steps p.tables e below (T87.setTop (mkF m 102 #[.val (.int p0), .val (.int p1), .val (.int p2), .val (.int p3), .val (.int p4), .val (.int p5), .val (.int (v0_2 p0 p1 p2 p3 p4 p5)), .val (.ref b1), .unset, .unset, .unset, .unset, .unset] [(.ref b1), (.int (4 : Int32)), (.ref b51), (.ref b51)])) _
    refine XT.iconstV X87.here hx rfl (4 : Int32) (hb hby at_102) (by decide) ?_
    show Steps p.tables e below (T87.setTop (mkF m 103 #[.val (.int p0), .val (.int p1), .val (.int p2), .val (.int p3), .val (.int p4), .val (.int p5), .val (.int (v0_2 p0 p1 p2 p3 p4 p5)), .val (.ref b1), .unset, .unset, .unset, .unset, .unset] [(.int (4 : Int32)), (.ref b1), (.int (4 : Int32)), (.ref b51), (.ref b51)])) _
    refine X87.iaload hx (j := (4 : Int32)) (v := (.int (v0_4 p0 p1 p2 p3 p4 p5))) (by rw [e87]; exact Ar91.1) (State.isArrayOf_alike hZ.alike Ar91.2.1) Ar91.2.2 hin92 (Has.at Ha91 hin92 rfl) (g := (mkF m 103 #[.val (.int p0), .val (.int p1), .val (.int p2), .val (.int p3), .val (.int p4), .val (.int p5), .val (.int (v0_2 p0 p1 p2 p3 p4 p5)), .val (.ref b1), .unset, .unset, .unset, .unset, .unset] [(.int (4 : Int32)), (.ref b1), (.int (4 : Int32)), (.ref b51), (.ref b51)])) rfl rfl (hb hby at_103) _ ?_
    show Steps p.tables e below (T87.setTop (mkF m 104 #[.val (.int p0), .val (.int p1), .val (.int p2), .val (.int p3), .val (.int p4), .val (.int p5), .val (.int (v0_2 p0 p1 p2 p3 p4 p5)), .val (.ref b1), .unset, .unset, .unset, .unset, .unset] [(.int (v0_4 p0 p1 p2 p3 p4 p5)), (.int (4 : Int32)), (.ref b51), (.ref b51)])) _
    refine st95 _ ?_
    show Steps p.tables e below (T95.setTop (mkF m 105 #[.val (.int p0), .val (.int p1), .val (.int p2), .val (.int p3), .val (.int p4), .val (.int p5), .val (.int (v0_2 p0 p1 p2 p3 p4 p5)), .val (.ref b1), .unset, .unset, .unset, .unset, .unset] [(.ref b51)])) _
    refine XS.dup X95.here hx rfl (hb hby at_105) rfl rfl ?_
    show Steps p.tables e below (T95.setTop (mkF m 106 #[.val (.int p0), .val (.int p1), .val (.int p2), .val (.int p3), .val (.int p4), .val (.int p5), .val (.int (v0_2 p0 p1 p2 p3 p4 p5)), .val (.ref b1), .unset, .unset, .unset, .unset, .unset] [(.ref b51), (.ref b51)])) _
    refine XT.iconstV X95.here hx rfl (5 : Int32) (hb hby at_106) (by decide) ?_
    show Steps p.tables e below (T95.setTop (mkF m 107 #[.val (.int p0), .val (.int p1), .val (.int p2), .val (.int p3), .val (.int p4), .val (.int p5), .val (.int (v0_2 p0 p1 p2 p3 p4 p5)), .val (.ref b1), .unset, .unset, .unset, .unset, .unset] [(.int (5 : Int32)), (.ref b51), (.ref b51)])) _
    refine XS.aload X95.here hx rfl (hb hby at_107) rfl rfl ?_
    show Steps p.tables e below (T95.setTop (mkF m 109 #[.val (.int p0), .val (.int p1), .val (.int p2), .val (.int p3), .val (.int p4), .val (.int p5), .val (.int (v0_2 p0 p1 p2 p3 p4 p5)), .val (.ref b1), .unset, .unset, .unset, .unset, .unset] [(.ref b1), (.int (5 : Int32)), (.ref b51), (.ref b51)])) _
    refine XT.iconstV X95.here hx rfl (5 : Int32) (hb hby at_109) (by decide) ?_
    show Steps p.tables e below (T95.setTop (mkF m 110 #[.val (.int p0), .val (.int p1), .val (.int p2), .val (.int p3), .val (.int p4), .val (.int p5), .val (.int (v0_2 p0 p1 p2 p3 p4 p5)), .val (.ref b1), .unset, .unset, .unset, .unset, .unset] [(.int (5 : Int32)), (.ref b1), (.int (5 : Int32)), (.ref b51), (.ref b51)])) _
    refine X95.iaload hx (j := (5 : Int32)) (v := (.int (v0_5 p0 p1 p2 p3 p4 p5))) (by rw [e95]; exact Ar99.1) (State.isArrayOf_alike hZ.alike Ar99.2.1) Ar99.2.2 hin100 (Has.at Ha99 hin100 rfl) (g := (mkF m 110 #[.val (.int p0), .val (.int p1), .val (.int p2), .val (.int p3), .val (.int p4), .val (.int p5), .val (.int (v0_2 p0 p1 p2 p3 p4 p5)), .val (.ref b1), .unset, .unset, .unset, .unset, .unset] [(.int (5 : Int32)), (.ref b1), (.int (5 : Int32)), (.ref b51), (.ref b51)])) rfl rfl (hb hby at_110) _ ?_
    show Steps p.tables e below (T95.setTop (mkF m 111 #[.val (.int p0), .val (.int p1), .val (.int p2), .val (.int p3), .val (.int p4), .val (.int p5), .val (.int (v0_2 p0 p1 p2 p3 p4 p5)), .val (.ref b1), .unset, .unset, .unset, .unset, .unset] [(.int (v0_5 p0 p1 p2 p3 p4 p5)), (.int (5 : Int32)), (.ref b51), (.ref b51)])) _
    refine st103 _ ?_
    show Steps p.tables e below (T103.setTop (mkF m 112 #[.val (.int p0), .val (.int p1), .val (.int p2), .val (.int p3), .val (.int p4), .val (.int p5), .val (.int (v0_2 p0 p1 p2 p3 p4 p5)), .val (.ref b1), .unset, .unset, .unset, .unset, .unset] [(.ref b51)])) _
    refine XS.dup X103.here hx rfl (hb hby at_112) rfl rfl ?_
    show Steps p.tables e below (T103.setTop (mkF m 113 #[.val (.int p0), .val (.int p1), .val (.int p2), .val (.int p3), .val (.int p4), .val (.int p5), .val (.int (v0_2 p0 p1 p2 p3 p4 p5)), .val (.ref b1), .unset, .unset, .unset, .unset, .unset] [(.ref b51), (.ref b51)])) _
    refine XT.bipushV X103.here hx rfl (6 : Int32) (hb hby at_113) (by decide) ?_
    show Steps p.tables e below (T103.setTop (mkF m 115 #[.val (.int p0), .val (.int p1), .val (.int p2), .val (.int p3), .val (.int p4), .val (.int p5), .val (.int (v0_2 p0 p1 p2 p3 p4 p5)), .val (.ref b1), .unset, .unset, .unset, .unset, .unset] [(.int (6 : Int32)), (.ref b51), (.ref b51)])) _
    refine XS.aload X103.here hx rfl (hb hby at_115) rfl rfl ?_
    show Steps p.tables e below (T103.setTop (mkF m 117 #[.val (.int p0), .val (.int p1), .val (.int p2), .val (.int p3), .val (.int p4), .val (.int p5), .val (.int (v0_2 p0 p1 p2 p3 p4 p5)), .val (.ref b1), .unset, .unset, .unset, .unset, .unset] [(.ref b1), (.int (6 : Int32)), (.ref b51), (.ref b51)])) _
    refine XT.bipushV X103.here hx rfl (6 : Int32) (hb hby at_117) (by decide) ?_
    show Steps p.tables e below (T103.setTop (mkF m 119 #[.val (.int p0), .val (.int p1), .val (.int p2), .val (.int p3), .val (.int p4), .val (.int p5), .val (.int (v0_2 p0 p1 p2 p3 p4 p5)), .val (.ref b1), .unset, .unset, .unset, .unset, .unset] [(.int (6 : Int32)), (.ref b1), (.int (6 : Int32)), (.ref b51), (.ref b51)])) _
    refine X103.iaload hx (j := (6 : Int32)) (v := (.int (v0_6 p0 p1 p2 p3 p4 p5))) (by rw [e103]; exact Ar107.1) (State.isArrayOf_alike hZ.alike Ar107.2.1) Ar107.2.2 hin108 (Has.at Ha107 hin108 rfl) (g := (mkF m 119 #[.val (.int p0), .val (.int p1), .val (.int p2), .val (.int p3), .val (.int p4), .val (.int p5), .val (.int (v0_2 p0 p1 p2 p3 p4 p5)), .val (.ref b1), .unset, .unset, .unset, .unset, .unset] [(.int (6 : Int32)), (.ref b1), (.int (6 : Int32)), (.ref b51), (.ref b51)])) rfl rfl (hb hby at_119) _ ?_
    show Steps p.tables e below (T103.setTop (mkF m 120 #[.val (.int p0), .val (.int p1), .val (.int p2), .val (.int p3), .val (.int p4), .val (.int p5), .val (.int (v0_2 p0 p1 p2 p3 p4 p5)), .val (.ref b1), .unset, .unset, .unset, .unset, .unset] [(.int (v0_6 p0 p1 p2 p3 p4 p5)), (.int (6 : Int32)), (.ref b51), (.ref b51)])) _
    refine st111 _ ?_
    show Steps p.tables e below (T111.setTop (mkF m 121 #[.val (.int p0), .val (.int p1), .val (.int p2), .val (.int p3), .val (.int p4), .val (.int p5), .val (.int (v0_2 p0 p1 p2 p3 p4 p5)), .val (.ref b1), .unset, .unset, .unset, .unset, .unset] [(.ref b51)])) _
    refine XS.dup X111.here hx rfl (hb hby at_121) rfl rfl ?_
    show Steps p.tables e below (T111.setTop (mkF m 122 #[.val (.int p0), .val (.int p1), .val (.int p2), .val (.int p3), .val (.int p4), .val (.int p5), .val (.int (v0_2 p0 p1 p2 p3 p4 p5)), .val (.ref b1), .unset, .unset, .unset, .unset, .unset] [(.ref b51), (.ref b51)])) _
    refine XT.bipushV X111.here hx rfl (7 : Int32) (hb hby at_122) (by decide) ?_
    show Steps p.tables e below (T111.setTop (mkF m 124 #[.val (.int p0), .val (.int p1), .val (.int p2), .val (.int p3), .val (.int p4), .val (.int p5), .val (.int (v0_2 p0 p1 p2 p3 p4 p5)), .val (.ref b1), .unset, .unset, .unset, .unset, .unset] [(.int (7 : Int32)), (.ref b51), (.ref b51)])) _
    refine XS.aload X111.here hx rfl (hb hby at_124) rfl rfl ?_
    show Steps p.tables e below (T111.setTop (mkF m 126 #[.val (.int p0), .val (.int p1), .val (.int p2), .val (.int p3), .val (.int p4), .val (.int p5), .val (.int (v0_2 p0 p1 p2 p3 p4 p5)), .val (.ref b1), .unset, .unset, .unset, .unset, .unset] [(.ref b1), (.int (7 : Int32)), (.ref b51), (.ref b51)])) _
    refine XT.bipushV X111.here hx rfl (7 : Int32) (hb hby at_126) (by decide) ?_
    show Steps p.tables e below (T111.setTop (mkF m 128 #[.val (.int p0), .val (.int p1), .val (.int p2), .val (.int p3), .val (.int p4), .val (.int p5), .val (.int (v0_2 p0 p1 p2 p3 p4 p5)), .val (.ref b1), .unset, .unset, .unset, .unset, .unset] [(.int (7 : Int32)), (.ref b1), (.int (7 : Int32)), (.ref b51), (.ref b51)])) _
    refine X111.iaload hx (j := (7 : Int32)) (v := (.int (v0_7 p0 p1 p2 p3 p4 p5))) (by rw [e111]; exact Ar115.1) (State.isArrayOf_alike hZ.alike Ar115.2.1) Ar115.2.2 hin116 (Has.at Ha115 hin116 rfl) (g := (mkF m 128 #[.val (.int p0), .val (.int p1), .val (.int p2), .val (.int p3), .val (.int p4), .val (.int p5), .val (.int (v0_2 p0 p1 p2 p3 p4 p5)), .val (.ref b1), .unset, .unset, .unset, .unset, .unset] [(.int (7 : Int32)), (.ref b1), (.int (7 : Int32)), (.ref b51), (.ref b51)])) rfl rfl (hb hby at_128) _ ?_
    show Steps p.tables e below (T111.setTop (mkF m 129 #[.val (.int p0), .val (.int p1), .val (.int p2), .val (.int p3), .val (.int p4), .val (.int p5), .val (.int (v0_2 p0 p1 p2 p3 p4 p5)), .val (.ref b1), .unset, .unset, .unset, .unset, .unset] [(.int (v0_7 p0 p1 p2 p3 p4 p5)), (.int (7 : Int32)), (.ref b51), (.ref b51)])) _
    refine st119 _ ?_
    show Steps p.tables e below (T119.setTop (mkF m 130 #[.val (.int p0), .val (.int p1), .val (.int p2), .val (.int p3), .val (.int p4), .val (.int p5), .val (.int (v0_2 p0 p1 p2 p3 p4 p5)), .val (.ref b1), .unset, .unset, .unset, .unset, .unset] [(.ref b51)])) _
    refine XS.dup X119.here hx rfl (hb hby at_130) rfl rfl ?_
    show Steps p.tables e below (T119.setTop (mkF m 131 #[.val (.int p0), .val (.int p1), .val (.int p2), .val (.int p3), .val (.int p4), .val (.int p5), .val (.int (v0_2 p0 p1 p2 p3 p4 p5)), .val (.ref b1), .unset, .unset, .unset, .unset, .unset] [(.ref b51), (.ref b51)])) _
    refine XT.bipushV X119.here hx rfl (8 : Int32) (hb hby at_131) (by decide) ?_
    show Steps p.tables e below (T119.setTop (mkF m 133 #[.val (.int p0), .val (.int p1), .val (.int p2), .val (.int p3), .val (.int p4), .val (.int p5), .val (.int (v0_2 p0 p1 p2 p3 p4 p5)), .val (.ref b1), .unset, .unset, .unset, .unset, .unset] [(.int (8 : Int32)), (.ref b51), (.ref b51)])) _
    refine XS.aload X119.here hx rfl (hb hby at_133) rfl rfl ?_
    show Steps p.tables e below (T119.setTop (mkF m 135 #[.val (.int p0), .val (.int p1), .val (.int p2), .val (.int p3), .val (.int p4), .val (.int p5), .val (.int (v0_2 p0 p1 p2 p3 p4 p5)), .val (.ref b1), .unset, .unset, .unset, .unset, .unset] [(.ref b1), (.int (8 : Int32)), (.ref b51), (.ref b51)])) _
    refine XT.bipushV X119.here hx rfl (8 : Int32) (hb hby at_135) (by decide) ?_
    show Steps p.tables e below (T119.setTop (mkF m 137 #[.val (.int p0), .val (.int p1), .val (.int p2), .val (.int p3), .val (.int p4), .val (.int p5), .val (.int (v0_2 p0 p1 p2 p3 p4 p5)), .val (.ref b1), .unset, .unset, .unset, .unset, .unset] [(.int (8 : Int32)), (.ref b1), (.int (8 : Int32)), (.ref b51), (.ref b51)])) _
    refine X119.iaload hx (j := (8 : Int32)) (v := (.int (v0_8 p0 p1 p2 p3 p4 p5))) (by rw [e119]; exact Ar123.1) (State.isArrayOf_alike hZ.alike Ar123.2.1) Ar123.2.2 hin124 (Has.at Ha123 hin124 rfl) (g := (mkF m 137 #[.val (.int p0), .val (.int p1), .val (.int p2), .val (.int p3), .val (.int p4), .val (.int p5), .val (.int (v0_2 p0 p1 p2 p3 p4 p5)), .val (.ref b1), .unset, .unset, .unset, .unset, .unset] [(.int (8 : Int32)), (.ref b1), (.int (8 : Int32)), (.ref b51), (.ref b51)])) rfl rfl (hb hby at_137) _ ?_
    show Steps p.tables e below (T119.setTop (mkF m 138 #[.val (.int p0), .val (.int p1), .val (.int p2), .val (.int p3), .val (.int p4), .val (.int p5), .val (.int (v0_2 p0 p1 p2 p3 p4 p5)), .val (.ref b1), .unset, .unset, .unset, .unset, .unset] [(.int (v0_8 p0 p1 p2 p3 p4 p5)), (.int (8 : Int32)), (.ref b51), (.ref b51)])) _
    refine st127 _ ?_
    show Steps p.tables e below (T127.setTop (mkF m 139 #[.val (.int p0), .val (.int p1), .val (.int p2), .val (.int p3), .val (.int p4), .val (.int p5), .val (.int (v0_2 p0 p1 p2 p3 p4 p5)), .val (.ref b1), .unset, .unset, .unset, .unset, .unset] [(.ref b51)])) _
    refine XS.astore X127.here hx rfl (hb hby at_139) rfl rfl (l' := #[.val (.int p0), .val (.int p1), .val (.int p2), .val (.int p3), .val (.int p4), .val (.int p5), .val (.int (v0_2 p0 p1 p2 p3 p4 p5)), .val (.ref b1), .val (.ref b51), .unset, .unset, .unset, .unset]) rfl ?_
    show Steps p.tables e below (T127.setTop (mkF m 141 #[.val (.int p0), .val (.int p1), .val (.int p2), .val (.int p3), .val (.int p4), .val (.int p5), .val (.int (v0_2 p0 p1 p2 p3 p4 p5)), .val (.ref b1), .val (.ref b51), .unset, .unset, .unset, .unset] [])) _
    refine XS.aload X127.here hx rfl (hb hby at_141) rfl rfl ?_
    show Steps p.tables e below (T127.setTop (mkF m 143 #[.val (.int p0), .val (.int p1), .val (.int p2), .val (.int p3), .val (.int p4), .val (.int p5), .val (.int (v0_2 p0 p1 p2 p3 p4 p5)), .val (.ref b1), .val (.ref b51), .unset, .unset, .unset, .unset] [(.ref b51)])) _
    refine XS.iload X127.here hx rfl (hb hby at_143) rfl ?_
    show Steps p.tables e below (T127.setTop (mkF m 145 #[.val (.int p0), .val (.int p1), .val (.int p2), .val (.int p3), .val (.int p4), .val (.int p5), .val (.int (v0_2 p0 p1 p2 p3 p4 p5)), .val (.ref b1), .val (.ref b51), .unset, .unset, .unset, .unset] [(.int (v0_2 p0 p1 p2 p3 p4 p5)), (.ref b51)])) _
    refine XS.aload X127.here hx rfl (hb hby at_145) rfl rfl ?_
    show Steps p.tables e below (T127.setTop (mkF m 147 #[.val (.int p0), .val (.int p1), .val (.int p2), .val (.int p3), .val (.int p4), .val (.int p5), .val (.int (v0_2 p0 p1 p2 p3 p4 p5)), .val (.ref b1), .val (.ref b51), .unset, .unset, .unset, .unset] [(.ref b51), (.int (v0_2 p0 p1 p2 p3 p4 p5)), (.ref b51)])) _
    refine XS.iload X127.here hx rfl (hb hby at_147) rfl ?_
    show Steps p.tables e below (T127.setTop (mkF m 149 #[.val (.int p0), .val (.int p1), .val (.int p2), .val (.int p3), .val (.int p4), .val (.int p5), .val (.int (v0_2 p0 p1 p2 p3 p4 p5)), .val (.ref b1), .val (.ref b51), .unset, .unset, .unset, .unset] [(.int (v0_2 p0 p1 p2 p3 p4 p5)), (.ref b51), (.int (v0_2 p0 p1 p2 p3 p4 p5)), (.ref b51)])) _
    refine X127.iaload hx (j := (v0_2 p0 p1 p2 p3 p4 p5)) (v := (.int (own_pick (v0_2 p0 p1 p2 p3 p4 p5) p0 p1 p2 (v0_3 p0 p1 p2 p3 p4 p5) (v0_4 p0 p1 p2 p3 p4 p5) (v0_5 p0 p1 p2 p3 p4 p5) (v0_6 p0 p1 p2 p3 p4 p5) (v0_7 p0 p1 p2 p3 p4 p5) (v0_8 p0 p1 p2 p3 p4 p5)))) (by rw [e127]; exact Ar130.1) (State.isArrayOf_alike hZ.alike Ar130.2.1) Ar130.2.2 hin131 (Has.at Ha130 hin131 (own_get9 (own_k0 p0 p1 p2 p3 p4 p5) (own_k9 p0 p1 p2 p3 p4 p5))) (g := (mkF m 149 #[.val (.int p0), .val (.int p1), .val (.int p2), .val (.int p3), .val (.int p4), .val (.int p5), .val (.int (v0_2 p0 p1 p2 p3 p4 p5)), .val (.ref b1), .val (.ref b51), .unset, .unset, .unset, .unset] [(.int (v0_2 p0 p1 p2 p3 p4 p5)), (.ref b51), (.int (v0_2 p0 p1 p2 p3 p4 p5)), (.ref b51)])) rfl rfl (hb hby at_149) _ ?_
    show Steps p.tables e below (T127.setTop (mkF m 150 #[.val (.int p0), .val (.int p1), .val (.int p2), .val (.int p3), .val (.int p4), .val (.int p5), .val (.int (v0_2 p0 p1 p2 p3 p4 p5)), .val (.ref b1), .val (.ref b51), .unset, .unset, .unset, .unset] [(.int (own_pick (v0_2 p0 p1 p2 p3 p4 p5) p0 p1 p2 (v0_3 p0 p1 p2 p3 p4 p5) (v0_4 p0 p1 p2 p3 p4 p5) (v0_5 p0 p1 p2 p3 p4 p5) (v0_6 p0 p1 p2 p3 p4 p5) (v0_7 p0 p1 p2 p3 p4 p5) (v0_8 p0 p1 p2 p3 p4 p5))), (.int (v0_2 p0 p1 p2 p3 p4 p5)), (.ref b51)])) _
    refine XS.iload X127.here hx rfl (hb hby at_150) rfl ?_
    show Steps p.tables e below (T127.setTop (mkF m 152 #[.val (.int p0), .val (.int p1), .val (.int p2), .val (.int p3), .val (.int p4), .val (.int p5), .val (.int (v0_2 p0 p1 p2 p3 p4 p5)), .val (.ref b1), .val (.ref b51), .unset, .unset, .unset, .unset] [(.int p4), (.int (own_pick (v0_2 p0 p1 p2 p3 p4 p5) p0 p1 p2 (v0_3 p0 p1 p2 p3 p4 p5) (v0_4 p0 p1 p2 p3 p4 p5) (v0_5 p0 p1 p2 p3 p4 p5) (v0_6 p0 p1 p2 p3 p4 p5) (v0_7 p0 p1 p2 p3 p4 p5) (v0_8 p0 p1 p2 p3 p4 p5))), (.int (v0_2 p0 p1 p2 p3 p4 p5)), (.ref b51)])) _
    refine XS.iadd X127.here hx rfl (hb hby at_152) rfl ?_
    show Steps p.tables e below (T127.setTop (mkF m 153 #[.val (.int p0), .val (.int p1), .val (.int p2), .val (.int p3), .val (.int p4), .val (.int p5), .val (.int (v0_2 p0 p1 p2 p3 p4 p5)), .val (.ref b1), .val (.ref b51), .unset, .unset, .unset, .unset] [(.int ((own_pick (v0_2 p0 p1 p2 p3 p4 p5) p0 p1 p2 (v0_3 p0 p1 p2 p3 p4 p5) (v0_4 p0 p1 p2 p3 p4 p5) (v0_5 p0 p1 p2 p3 p4 p5) (v0_6 p0 p1 p2 p3 p4 p5) (v0_7 p0 p1 p2 p3 p4 p5) (v0_8 p0 p1 p2 p3 p4 p5)) + p4)), (.int (v0_2 p0 p1 p2 p3 p4 p5)), (.ref b51)])) _
    refine st133 _ ?_
    show Steps p.tables e below (T133.setTop (mkF m 154 #[.val (.int p0), .val (.int p1), .val (.int p2), .val (.int p3), .val (.int p4), .val (.int p5), .val (.int (v0_2 p0 p1 p2 p3 p4 p5)), .val (.ref b1), .val (.ref b51), .unset, .unset, .unset, .unset] [])) _
    refine XS.iload X133.here hx rfl (hb hby at_154) rfl ?_
    show Steps p.tables e below (T133.setTop (mkF m 156 #[.val (.int p0), .val (.int p1), .val (.int p2), .val (.int p3), .val (.int p4), .val (.int p5), .val (.int (v0_2 p0 p1 p2 p3 p4 p5)), .val (.ref b1), .val (.ref b51), .unset, .unset, .unset, .unset] [(.int p5)])) _
    refine XT.iconstV X133.here hx rfl (1 : Int32) (hb hby at_156) (by decide) ?_
    show Steps p.tables e below (T133.setTop (mkF m 157 #[.val (.int p0), .val (.int p1), .val (.int p2), .val (.int p3), .val (.int p4), .val (.int p5), .val (.int (v0_2 p0 p1 p2 p3 p4 p5)), .val (.ref b1), .val (.ref b51), .unset, .unset, .unset, .unset] [(.int (1 : Int32)), (.int p5)])) _
    refine XS.iand X133.here hx rfl (hb hby at_157) rfl ?_
    exact k
  clear pre0 st1 st8 st13 st18 st23 st28 st33 st38 st43 st48 st51 st63 st71 st79 st87 st95 st103 st111 st119 st127 st133
  by_cases c137 : (v0_19 p0 p1 p2 p3 p4 p5) = (0 : Int32)
  · skip
    obtain ⟨T138, h138, X138, e138, E138, A138, D138, -, st138⟩ := newO X133 hx hZ hown (hw _ (List.mem_of_getElem? (i := 2) rfl)) (hw _ (List.mem_of_getElem? (i := 3) rfl)) (hw _ (List.mem_of_getElem? (i := 4) rfl)) e133 (g := (mkF m 194 #[.val (.int p0), .val (.int p1), .val (.int p2), .val (.int p3), .val (.int p4), .val (.int p5), .val (.int (v0_2 p0 p1 p2 p3 p4 p5)), .val (.ref b1), .val (.ref b51), .unset, .unset, .unset, .unset] [])) rfl (hb hby at_194) (by decide) (by decide)
    obtain ⟨b138, gz138⟩ : ∃ z, z = h133.size := ⟨_, rfl⟩
    rw [← gz138] at A138 D138 st138
    have k139 := (((((((((((k52.ext E51).wr W63).wr W71).wr W79).wr W87).wr W95).wr W103).wr W111).wr W119).wr W127).wr W133)
    have ne140 : b1 ≠ b138 := Nat.ne_of_lt (Nat.lt_of_lt_of_le k139.lt (Nat.le_of_eq gz138.symm))
    have k141 := ((((((((((EA51.wr W63).wr W71).wr W79).wr W87).wr W95).wr W103).wr W111).wr W119).wr W127).wr W133)
    have ne142 : b51 ≠ b138 := Nat.ne_of_lt (Nat.lt_of_lt_of_le k141.lt (Nat.le_of_eq gz138.symm))
    have g143 : n0 ≤ b138 := Nat.le_trans z134 (Nat.le_of_eq gz138.symm)
    have sz144 : h0.size ≤ b138 := Nat.le_trans hs135 (Nat.le_of_eq gz138.symm)
    have z145 : n0 ≤ h138.size := Nat.le_trans z134 E138.1
    have hs146 : h0.size ≤ h138.size := Nat.le_trans hs135 E138.1
    have F138_ctimeSeconds : Fld Z h138 b138 "com/example/ashlar/ashlar/worktree/StatData" "ctimeSeconds" "I" (.int (0 : Int32)) := D138 (Or.inr (hw _ (List.mem_of_getElem? (i := 17) rfl))) (ty := .int) (by decide)
    have F138_ctimeNanos : Fld Z h138 b138 "com/example/ashlar/ashlar/worktree/StatData" "ctimeNanos" "I" (.int (0 : Int32)) := D138 (Or.inr (hw _ (List.mem_of_getElem? (i := 19) rfl))) (ty := .int) (by decide)
    have F138_mtimeSeconds : Fld Z h138 b138 "com/example/ashlar/ashlar/worktree/StatData" "mtimeSeconds" "I" (.int (0 : Int32)) := D138 (Or.inr (hw _ (List.mem_of_getElem? (i := 21) rfl))) (ty := .int) (by decide)
    have F138_mtimeNanos : Fld Z h138 b138 "com/example/ashlar/ashlar/worktree/StatData" "mtimeNanos" "I" (.int (0 : Int32)) := D138 (Or.inr (hw _ (List.mem_of_getElem? (i := 23) rfl))) (ty := .int) (by decide)
    have F138_device : Fld Z h138 b138 "com/example/ashlar/ashlar/worktree/StatData" "device" "I" (.int (0 : Int32)) := D138 (Or.inr (hw _ (List.mem_of_getElem? (i := 25) rfl))) (ty := .int) (by decide)
    have F138_inode : Fld Z h138 b138 "com/example/ashlar/ashlar/worktree/StatData" "inode" "I" (.int (0 : Int32)) := D138 (Or.inr (hw _ (List.mem_of_getElem? (i := 27) rfl))) (ty := .int) (by decide)
    have F138_uid : Fld Z h138 b138 "com/example/ashlar/ashlar/worktree/StatData" "uid" "I" (.int (0 : Int32)) := D138 (Or.inr (hw _ (List.mem_of_getElem? (i := 29) rfl))) (ty := .int) (by decide)
    have F138_gid : Fld Z h138 b138 "com/example/ashlar/ashlar/worktree/StatData" "gid" "I" (.int (0 : Int32)) := D138 (Or.inr (hw _ (List.mem_of_getElem? (i := 31) rfl))) (ty := .int) (by decide)
    have F138_size : Fld Z h138 b138 "com/example/ashlar/ashlar/worktree/StatData" "size" "I" (.int (0 : Int32)) := D138 (Or.inr (hw _ (List.mem_of_getElem? (i := 33) rfl))) (ty := .int) (by decide)
    have k147 := (((k122.other W127 ne53).other W133 ne53).ext E138)
    obtain ⟨cl148, Ar148, qc148, S148, M148, Ha148, G148⟩ := id k147
    have hin149 : ¬ ((0 : Int32) < 0 ∨ cl148.slots.size ≤ ((0 : Int32)).toNatClampNeg) := inb_of S148 ⟨by decide, by decide⟩
    have hin150 : ¬ ((1 : Int32) < 0 ∨ cl148.slots.size ≤ ((1 : Int32)).toNatClampNeg) := inb_of S148 ⟨by decide, by decide⟩
    have hin151 : ¬ ((2 : Int32) < 0 ∨ cl148.slots.size ≤ ((2 : Int32)).toNatClampNeg) := inb_of S148 ⟨by decide, by decide⟩
    have hin152 : ¬ ((3 : Int32) < 0 ∨ cl148.slots.size ≤ ((3 : Int32)).toNatClampNeg) := inb_of S148 ⟨by decide, by decide⟩
    have hin153 : ¬ ((4 : Int32) < 0 ∨ cl148.slots.size ≤ ((4 : Int32)).toNatClampNeg) := inb_of S148 ⟨by decide, by decide⟩
    have hin154 : ¬ ((5 : Int32) < 0 ∨ cl148.slots.size ≤ ((5 : Int32)).toNatClampNeg) := inb_of S148 ⟨by decide, by decide⟩
    have hin155 : ¬ ((6 : Int32) < 0 ∨ cl148.slots.size ≤ ((6 : Int32)).toNatClampNeg) := inb_of S148 ⟨by decide, by decide⟩
    have hin156 : ¬ ((7 : Int32) < 0 ∨ cl148.slots.size ≤ ((7 : Int32)).toNatClampNeg) := inb_of S148 ⟨by decide, by decide⟩
    have hin157 : ¬ ((8 : Int32) < 0 ∨ cl148.slots.size ≤ ((8 : Int32)).toNatClampNeg) := inb_of S148 ⟨by decide, by decide⟩
    obtain ⟨vr158, _, ⟨T158, L158, k158, n158⟩, -, X158, ⟨Lc158, hQ158, l158, y158, z158⟩, st158⟩ := X138.specialBack hx (y := (⟨"com/example/ashlar/ashlar/worktree/StatData", "<init>", "(IIIIIIIII)V"⟩ : MethodName)) rfl hown (mvT hZ (hw _ (List.mem_of_getElem? (i := 5) rfl))) (mvT hZ (hw _ (List.mem_of_getElem? (i := 6) rfl))) (mvT hZ (hw _ (List.mem_of_getElem? (i := 7) rfl))) (by decide) (backOf (W := 1) (rm1 l Z a0 hw [] b138 p0 p1 p2 (v0_3 p0 p1 p2 p3 p4 p5) (v0_4 p0 p1 p2 p3 p4 p5) (v0_5 p0 p1 p2 p3 p4 p5) (v0_6 p0 p1 p2 p3 p4 p5) (v0_7 p0 p1 p2 p3 p4 p5) (v0_8 p0 p1 p2 p3 p4 p5) (.int (0 : Int32)) (.int (0 : Int32)) (.int (0 : Int32)) (.int (0 : Int32)) (.int (0 : Int32)) (.int (0 : Int32)) (.int (0 : Int32)) (.int (0 : Int32)) (.int (0 : Int32)) h138 n0 z145 A138 F138_ctimeSeconds g143 F138_ctimeNanos F138_mtimeSeconds F138_mtimeNanos F138_device F138_inode F138_uid F138_gid F138_size) hZ (hw _ (List.mem_of_getElem? (i := 7) rfl)) (hw _ (List.mem_of_getElem? (i := 4) rfl)) (by decide) (by decide)) (g := (mkF m 237 #[.val (.int p0), .val (.int p1), .val (.int p2), .val (.int p3), .val (.int p4), .val (.int p5), .val (.int (v0_2 p0 p1 p2 p3 p4 p5)), .val (.ref b1), .val (.ref b51), .unset, .unset, .unset, .unset] [(.int (v0_8 p0 p1 p2 p3 p4 p5)), (.int (v0_7 p0 p1 p2 p3 p4 p5)), (.int (v0_6 p0 p1 p2 p3 p4 p5)), (.int (v0_5 p0 p1 p2 p3 p4 p5)), (.int (v0_4 p0 p1 p2 p3 p4 p5)), (.int (v0_3 p0 p1 p2 p3 p4 p5)), (.int p2), (.int p1), (.int p0), (.ref b138), (.ref b138)])) rfl (by rw [hml]; rfl) (Steps.refl _) (a := b138) (argsL := [(.int p0), (.int p1), (.int p2), (.int (v0_3 p0 p1 p2 p3 p4 p5)), (.int (v0_4 p0 p1 p2 p3 p4 p5)), (.int (v0_5 p0 p1 p2 p3 p4 p5)), (.int (v0_6 p0 p1 p2 p3 p4 p5)), (.int (v0_7 p0 p1 p2 p3 p4 p5)), (.int (v0_8 p0 p1 p2 p3 p4 p5))]) (rest := [(.ref b138)]) (lenOf pd__IIIIIIIII_V rfl) rfl (by show 2 * 0 + _ ≤ _; exact Nat.le_of_eq rfl) (hb hby at_237) (fun _ _ => ⟨rfl, e138, (by decide : 3 + 0 ≤ _), (by decide : 27 + 0 ≤ _)⟩)
    dsimp only [Pt.U, Pt.locs, Pt.cells, Pt.slots] at X158 l158 y158 z158 st158 hQ158
    replace X158 := own_stand X158 l158 y158 z158
    clear l158 y158 z158
    have N158q := (show _ ∧ _ from hQ158).1
    have hq158 := (show _ ∧ _ from hQ158).2
    clear hQ158
    have hv158 := hq158.1
    have K158 := hq158.2.1
    have po158_0 := hq158.2.2.1
    have po158_1 := hq158.2.2.2.1
    have po158_2 := hq158.2.2.2.2.1
    have po158_3 := hq158.2.2.2.2.2.1
    have po158_4 := hq158.2.2.2.2.2.2.1
    have po158_5 := hq158.2.2.2.2.2.2.2.1
    have po158_6 := hq158.2.2.2.2.2.2.2.2.1
    have po158_7 := hq158.2.2.2.2.2.2.2.2.2.1
    have po158_8 := hq158.2.2.2.2.2.2.2.2.2.2.1
    have po158_9 := hq158.2.2.2.2.2.2.2.2.2.2.2
    clear hq158
    subst hv158
    have z159 : n0 ≤ T158.heap.size := Nat.le_trans z145 K158.1
    have hs160 : h0.size ≤ T158.heap.size := Nat.le_trans hs146 K158.1
    have N158 := Fr.app N133 N158q
    obtain ⟨T161, h161, X161, e161, E161, A161, D161, -, st161⟩ := newO X158 hx hZ hown (hw _ (List.mem_of_getElem? (i := 2) rfl)) (hw _ (List.mem_of_getElem? (i := 3) rfl)) (hw _ (List.mem_of_getElem? (i := 4) rfl)) rfl (g := (mkF m 242 #[.val (.int p0), .val (.int p1), .val (.int p2), .val (.int p3), .val (.int p4), .val (.int p5), .val (.int (v0_2 p0 p1 p2 p3 p4 p5)), .val (.ref b1), .val (.ref b51), .val (.ref b138), .unset, .unset, .unset] [])) rfl (hb hby at_242) (by decide) (by decide)
    obtain ⟨b161, gz161⟩ : ∃ z, z = T158.heap.size := ⟨_, rfl⟩
    rw [← gz161] at A161 D161 st161
    have k162 := ((k139.ext E138).keep K158)
    have ne163 : b1 ≠ b161 := Nat.ne_of_lt (Nat.lt_of_lt_of_le k162.lt (Nat.le_of_eq gz161.symm))
    have k164 := ((k141.ext E138).keep K158)
    have ne165 : b51 ≠ b161 := Nat.ne_of_lt (Nat.lt_of_lt_of_le k164.lt (Nat.le_of_eq gz161.symm))
    have ne166 : b138 ≠ b161 := Nat.ne_of_lt (Nat.lt_of_lt_of_le po158_0.lt (Nat.le_of_eq gz161.symm))
    have g167 : n0 ≤ b161 := Nat.le_trans z159 (Nat.le_of_eq gz161.symm)
    have sz168 : h0.size ≤ b161 := Nat.le_trans hs160 (Nat.le_of_eq gz161.symm)
    have z169 : n0 ≤ h161.size := Nat.le_trans z159 E161.1
    have hs170 : h0.size ≤ h161.size := Nat.le_trans hs160 E161.1
    have F161_ctimeSeconds : Fld Z h161 b161 "com/example/ashlar/ashlar/worktree/StatData" "ctimeSeconds" "I" (.int (0 : Int32)) := D161 (Or.inr (hw _ (List.mem_of_getElem? (i := 17) rfl))) (ty := .int) (by decide)
    have F161_ctimeNanos : Fld Z h161 b161 "com/example/ashlar/ashlar/worktree/StatData" "ctimeNanos" "I" (.int (0 : Int32)) := D161 (Or.inr (hw _ (List.mem_of_getElem? (i := 19) rfl))) (ty := .int) (by decide)
    have F161_mtimeSeconds : Fld Z h161 b161 "com/example/ashlar/ashlar/worktree/StatData" "mtimeSeconds" "I" (.int (0 : Int32)) := D161 (Or.inr (hw _ (List.mem_of_getElem? (i := 21) rfl))) (ty := .int) (by decide)
    have F161_mtimeNanos : Fld Z h161 b161 "com/example/ashlar/ashlar/worktree/StatData" "mtimeNanos" "I" (.int (0 : Int32)) := D161 (Or.inr (hw _ (List.mem_of_getElem? (i := 23) rfl))) (ty := .int) (by decide)
    have F161_device : Fld Z h161 b161 "com/example/ashlar/ashlar/worktree/StatData" "device" "I" (.int (0 : Int32)) := D161 (Or.inr (hw _ (List.mem_of_getElem? (i := 25) rfl))) (ty := .int) (by decide)
    have F161_inode : Fld Z h161 b161 "com/example/ashlar/ashlar/worktree/StatData" "inode" "I" (.int (0 : Int32)) := D161 (Or.inr (hw _ (List.mem_of_getElem? (i := 27) rfl))) (ty := .int) (by decide)
    have F161_uid : Fld Z h161 b161 "com/example/ashlar/ashlar/worktree/StatData" "uid" "I" (.int (0 : Int32)) := D161 (Or.inr (hw _ (List.mem_of_getElem? (i := 29) rfl))) (ty := .int) (by decide)
    have F161_gid : Fld Z h161 b161 "com/example/ashlar/ashlar/worktree/StatData" "gid" "I" (.int (0 : Int32)) := D161 (Or.inr (hw _ (List.mem_of_getElem? (i := 31) rfl))) (ty := .int) (by decide)
    have F161_size : Fld Z h161 b161 "com/example/ashlar/ashlar/worktree/StatData" "size" "I" (.int (0 : Int32)) := D161 (Or.inr (hw _ (List.mem_of_getElem? (i := 33) rfl))) (ty := .int) (by decide)
    have k171 := (((V133.ext E138).keep K158 (ninS ne142 nin0)).ext E161)
    obtain ⟨cl172, Ar172, qc172, S172, M172, Ha172, G172⟩ := id k171
    have hin173 : ¬ ((0 : Int32) < 0 ∨ cl172.slots.size ≤ ((0 : Int32)).toNatClampNeg) := inb_of S172 ⟨by decide, by decide⟩
    have hin174 : ¬ ((1 : Int32) < 0 ∨ cl172.slots.size ≤ ((1 : Int32)).toNatClampNeg) := inb_of S172 ⟨by decide, by decide⟩
    have hin175 : ¬ ((2 : Int32) < 0 ∨ cl172.slots.size ≤ ((2 : Int32)).toNatClampNeg) := inb_of S172 ⟨by decide, by decide⟩
    have hin176 : ¬ ((3 : Int32) < 0 ∨ cl172.slots.size ≤ ((3 : Int32)).toNatClampNeg) := inb_of S172 ⟨by decide, by decide⟩
    have hin177 : ¬ ((4 : Int32) < 0 ∨ cl172.slots.size ≤ ((4 : Int32)).toNatClampNeg) := inb_of S172 ⟨by decide, by decide⟩
    have hin178 : ¬ ((5 : Int32) < 0 ∨ cl172.slots.size ≤ ((5 : Int32)).toNatClampNeg) := inb_of S172 ⟨by decide, by decide⟩
    have hin179 : ¬ ((6 : Int32) < 0 ∨ cl172.slots.size ≤ ((6 : Int32)).toNatClampNeg) := inb_of S172 ⟨by decide, by decide⟩
    have hin180 : ¬ ((7 : Int32) < 0 ∨ cl172.slots.size ≤ ((7 : Int32)).toNatClampNeg) := inb_of S172 ⟨by decide, by decide⟩
    have hin181 : ¬ ((8 : Int32) < 0 ∨ cl172.slots.size ≤ ((8 : Int32)).toNatClampNeg) := inb_of S172 ⟨by decide, by decide⟩
    obtain ⟨vr182, _, ⟨T182, L182, k182, n182⟩, -, X182, ⟨Lc182, hQ182, l182, y182, z182⟩, st182⟩ := X161.specialBack hx (y := (⟨"com/example/ashlar/ashlar/worktree/StatData", "<init>", "(IIIIIIIII)V"⟩ : MethodName)) rfl hown (mvT hZ (hw _ (List.mem_of_getElem? (i := 5) rfl))) (mvT hZ (hw _ (List.mem_of_getElem? (i := 6) rfl))) (mvT hZ (hw _ (List.mem_of_getElem? (i := 7) rfl))) (by decide) (backOf (W := 1) (rm1 l Z a0 hw [] b161 (v0_10 p0 p1 p2 p3 p4 p5) (v0_11 p0 p1 p2 p3 p4 p5) (v0_12 p0 p1 p2 p3 p4 p5) (v0_13 p0 p1 p2 p3 p4 p5) (v0_14 p0 p1 p2 p3 p4 p5) (v0_15 p0 p1 p2 p3 p4 p5) (v0_16 p0 p1 p2 p3 p4 p5) (v0_17 p0 p1 p2 p3 p4 p5) (v0_18 p0 p1 p2 p3 p4 p5) (.int (0 : Int32)) (.int (0 : Int32)) (.int (0 : Int32)) (.int (0 : Int32)) (.int (0 : Int32)) (.int (0 : Int32)) (.int (0 : Int32)) (.int (0 : Int32)) (.int (0 : Int32)) h161 n0 z169 A161 F161_ctimeSeconds g167 F161_ctimeNanos F161_mtimeSeconds F161_mtimeNanos F161_device F161_inode F161_uid F161_gid F161_size) hZ (hw _ (List.mem_of_getElem? (i := 7) rfl)) (hw _ (List.mem_of_getElem? (i := 4) rfl)) (by decide) (by decide)) (g := (mkF m 285 #[.val (.int p0), .val (.int p1), .val (.int p2), .val (.int p3), .val (.int p4), .val (.int p5), .val (.int (v0_2 p0 p1 p2 p3 p4 p5)), .val (.ref b1), .val (.ref b51), .val (.ref b138), .unset, .unset, .unset] [(.int (v0_18 p0 p1 p2 p3 p4 p5)), (.int (v0_17 p0 p1 p2 p3 p4 p5)), (.int (v0_16 p0 p1 p2 p3 p4 p5)), (.int (v0_15 p0 p1 p2 p3 p4 p5)), (.int (v0_14 p0 p1 p2 p3 p4 p5)), (.int (v0_13 p0 p1 p2 p3 p4 p5)), (.int (v0_12 p0 p1 p2 p3 p4 p5)), (.int (v0_11 p0 p1 p2 p3 p4 p5)), (.int (v0_10 p0 p1 p2 p3 p4 p5)), (.ref b161), (.ref b161)])) rfl (by rw [hml]; rfl) (Steps.refl _) (a := b161) (argsL := [(.int (v0_10 p0 p1 p2 p3 p4 p5)), (.int (v0_11 p0 p1 p2 p3 p4 p5)), (.int (v0_12 p0 p1 p2 p3 p4 p5)), (.int (v0_13 p0 p1 p2 p3 p4 p5)), (.int (v0_14 p0 p1 p2 p3 p4 p5)), (.int (v0_15 p0 p1 p2 p3 p4 p5)), (.int (v0_16 p0 p1 p2 p3 p4 p5)), (.int (v0_17 p0 p1 p2 p3 p4 p5)), (.int (v0_18 p0 p1 p2 p3 p4 p5))]) (rest := [(.ref b161)]) (lenOf pd__IIIIIIIII_V rfl) rfl (by show 2 * 0 + _ ≤ _; exact Nat.le_of_eq rfl) (hb hby at_285) (fun _ _ => ⟨rfl, e161, (by decide : 4 + 0 ≤ _), (by decide : 36 + 0 ≤ _)⟩)
    dsimp only [Pt.U, Pt.locs, Pt.cells, Pt.slots] at X182 l182 y182 z182 st182 hQ182
    replace X182 := own_stand X182 l182 y182 z182
    clear l182 y182 z182
    have N182q := (show _ ∧ _ from hQ182).1
    have hq182 := (show _ ∧ _ from hQ182).2
    clear hQ182
    have hv182 := hq182.1
    have K182 := hq182.2.1
    have po182_0 := hq182.2.2.1
    have po182_1 := hq182.2.2.2.1
    have po182_2 := hq182.2.2.2.2.1
    have po182_3 := hq182.2.2.2.2.2.1
    have po182_4 := hq182.2.2.2.2.2.2.1
    have po182_5 := hq182.2.2.2.2.2.2.2.1
    have po182_6 := hq182.2.2.2.2.2.2.2.2.1
    have po182_7 := hq182.2.2.2.2.2.2.2.2.2.1
    have po182_8 := hq182.2.2.2.2.2.2.2.2.2.2.1
    have po182_9 := hq182.2.2.2.2.2.2.2.2.2.2.2
    clear hq182
    subst hv182
    have z183 : n0 ≤ T182.heap.size := Nat.le_trans z169 K182.1
    have hs184 : h0.size ≤ T182.heap.size := Nat.le_trans hs170 K182.1
    have N182 := Fr.app N158 N182q
    have pre185 : ∀ t, Steps p.tables e below (T182.setTop (mkF m 293 #[.val (.int p0), .val (.int p1), .val (.int p2), .val (.int p3), .val (.int p4), .val (.int p5), .val (.int (v0_2 p0 p1 p2 p3 p4 p5)), .val (.ref b1), .val (.ref b51), .val (.ref b138), .val (.ref b161), .unset, .unset] [(.int (1 : Int32)), (.int (v0_2 p0 p1 p2 p3 p4 p5))])) t → Steps p.tables e below (s₁.setTop (entryFrame m #[(.int p0), (.int p1), (.int p2), (.int p3), (.int p4), (.int p5)] maxLocals)) t := by
      intro t k
      refine pre136 t ?_
      show Steps p.tables e below (T133.setTop (mkF m 158 #[.val (.int p0), .val (.int p1), .val (.int p2), .val (.int p3), .val (.int p4), .val (.int p5), .val (.int (v0_2 p0 p1 p2 p3 p4 p5)), .val (.ref b1), .val (.ref b51), .unset, .unset, .unset, .unset] [(.int (p5 &&& (1 : Int32)))])) _
      refine XS.ifYes X133.here hx rfl (pc0 := 158) (pc' := 194) rfl (hb hby at_158) rfl (XT.i0_eq_t c137) (by decide) (by decide) ?_
      show Steps p.tables e below (T133.setTop (mkF m 194 #[.val (.int p0), .val (.int p1), .val (.int p2), .val (.int p3), .val (.int p4), .val (.int p5), .val (.int (v0_2 p0 p1 p2 p3 p4 p5)), .val (.ref b1), .val (.ref b51), .unset, .unset, .unset, .unset] [])) _
      refine st138 _ ?_
      show Steps p.tables e below (T138.setTop (mkF m 197 #[.val (.int p0), .val (.int p1), .val (.int p2), .val (.int p3), .val (.int p4), .val (.int p5), .val (.int (v0_2 p0 p1 p2 p3 p4 p5)), .val (.ref b1), .val (.ref b51), .unset, .unset, .unset, .unset] [(.ref b138)])) _
      refine XS.dup X138.here hx rfl (hb hby at_197) rfl rfl ?_
      show Steps p.tables e below (T138.setTop (mkF m 198 #[.val (.int p0), .val (.int p1), .val (.int p2), .val (.int p3), .val (.int p4), .val (.int p5), .val (.int (v0_2 p0 p1 p2 p3 p4 p5)), .val (.ref b1), .val (.ref b51), .unset, .unset, .unset, .unset] [(.ref b138), (.ref b138)])) _
      refine XS.aload X138.here hx rfl (hb hby at_198) rfl rfl ?_
      show Steps p.tables e below (T138.setTop (mkF m 200 #[.val (.int p0), .val (.int p1), .val (.int p2), .val (.int p3), .val (.int p4), .val (.int p5), .val (.int (v0_2 p0 p1 p2 p3 p4 p5)), .val (.ref b1), .val (.ref b51), .unset, .unset, .unset, .unset] [(.ref b1), (.ref b138), (.ref b138)])) _
      refine XT.iconstV X138.here hx rfl (0 : Int32) (hb hby at_200) (by decide) ?_
      show Steps p.tables e below (T138.setTop (mkF m 201 #[.val (.int p0), .val (.int p1), .val (.int p2), .val (.int p3), .val (.int p4), .val (.int p5), .val (.int (v0_2 p0 p1 p2 p3 p4 p5)), .val (.ref b1), .val (.ref b51), .unset, .unset, .unset, .unset] [(.int (0 : Int32)), (.ref b1), (.ref b138), (.ref b138)])) _
      refine X138.iaload hx (j := (0 : Int32)) (v := (.int p0)) (by rw [e138]; exact Ar148.1) (State.isArrayOf_alike hZ.alike Ar148.2.1) Ar148.2.2 hin149 (Has.at Ha148 hin149 rfl) (g := (mkF m 201 #[.val (.int p0), .val (.int p1), .val (.int p2), .val (.int p3), .val (.int p4), .val (.int p5), .val (.int (v0_2 p0 p1 p2 p3 p4 p5)), .val (.ref b1), .val (.ref b51), .unset, .unset, .unset, .unset] [(.int (0 : Int32)), (.ref b1), (.ref b138), (.ref b138)])) rfl rfl (hb hby at_201) _ ?_
      show Steps p.tables e below (T138.setTop (mkF m 202 #[.val (.int p0), .val (.int p1), .val (.int p2), .val (.int p3), .val (.int p4), .val (.int p5), .val (.int (v0_2 p0 p1 p2 p3 p4 p5)), .val (.ref b1), .val (.ref b51), .unset, .unset, .unset, .unset] [(.int p0), (.ref b138), (.ref b138)])) _
      refine XS.aload X138.here hx rfl (hb hby at_202) rfl rfl ?_
      show Steps p.tables e below (T138.setTop (mkF m 204 #[.val (.int p0), .val (.int p1), .val (.int p2), .val (.int p3), .val (.int p4), .val (.int p5), .val (.int (v0_2 p0 p1 p2 p3 p4 p5)), .val (.ref b1), .val (.ref b51), .unset, .unset, .unset, .unset] [(.ref b1), (.int p0), (.ref b138), (.ref b138)])) _
      refine XT.iconstV X138.here hx rfl (1 : Int32) (hb hby at_204) (by decide) ?_
      show Steps p.tables e below (T138.setTop (mkF m 205 #[.val (.int p0), .val (.int p1), .val (.int p2), .val (.int p3), .val (.int p4), .val (.int p5), .val (.int (v0_2 p0 p1 p2 p3 p4 p5)), .val (.ref b1), .val (.ref b51), .unset, .unset, .unset, .unset] [(.int (1 : Int32)), (.ref b1), (.int p0), (.ref b138), (.ref b138)])) _
      refine X138.iaload hx (j := (1 : Int32)) (v := (.int p1)) (by rw [e138]; exact Ar148.1) (State.isArrayOf_alike hZ.alike Ar148.2.1) Ar148.2.2 hin150 (Has.at Ha148 hin150 rfl) (g := (mkF m 205 #[.val (.int p0), .val (.int p1), .val (.int p2), .val (.int p3), .val (.int p4), .val (.int p5), .val (.int (v0_2 p0 p1 p2 p3 p4 p5)), .val (.ref b1), .val (.ref b51), .unset, .unset, .unset, .unset] [(.int (1 : Int32)), (.ref b1), (.int p0), (.ref b138), (.ref b138)])) rfl rfl (hb hby at_205) _ ?_
      show Steps p.tables e below (T138.setTop (mkF m 206 #[.val (.int p0), .val (.int p1), .val (.int p2), .val (.int p3), .val (.int p4), .val (.int p5), .val (.int (v0_2 p0 p1 p2 p3 p4 p5)), .val (.ref b1), .val (.ref b51), .unset, .unset, .unset, .unset] [(.int p1), (.int p0), (.ref b138), (.ref b138)])) _
      refine XS.aload X138.here hx rfl (hb hby at_206) rfl rfl ?_
      show Steps p.tables e below (T138.setTop (mkF m 208 #[.val (.int p0), .val (.int p1), .val (.int p2), .val (.int p3), .val (.int p4), .val (.int p5), .val (.int (v0_2 p0 p1 p2 p3 p4 p5)), .val (.ref b1), .val (.ref b51), .unset, .unset, .unset, .unset] [(.ref b1), (.int p1), (.int p0), (.ref b138), (.ref b138)])) _
      refine XT.iconstV X138.here hx rfl (2 : Int32) (hb hby at_208) (by decide) ?_
      show Steps p.tables e below (T138.setTop (mkF m 209 #[.val (.int p0), .val (.int p1), .val (.int p2), .val (.int p3), .val (.int p4), .val (.int p5), .val (.int (v0_2 p0 p1 p2 p3 p4 p5)), .val (.ref b1), .val (.ref b51), .unset, .unset, .unset, .unset] [(.int (2 : Int32)), (.ref b1), (.int p1), (.int p0), (.ref b138), (.ref b138)])) _
      refine X138.iaload hx (j := (2 : Int32)) (v := (.int p2)) (by rw [e138]; exact Ar148.1) (State.isArrayOf_alike hZ.alike Ar148.2.1) Ar148.2.2 hin151 (Has.at Ha148 hin151 rfl) (g := (mkF m 209 #[.val (.int p0), .val (.int p1), .val (.int p2), .val (.int p3), .val (.int p4), .val (.int p5), .val (.int (v0_2 p0 p1 p2 p3 p4 p5)), .val (.ref b1), .val (.ref b51), .unset, .unset, .unset, .unset] [(.int (2 : Int32)), (.ref b1), (.int p1), (.int p0), (.ref b138), (.ref b138)])) rfl rfl (hb hby at_209) _ ?_
      show Steps p.tables e below (T138.setTop (mkF m 210 #[.val (.int p0), .val (.int p1), .val (.int p2), .val (.int p3), .val (.int p4), .val (.int p5), .val (.int (v0_2 p0 p1 p2 p3 p4 p5)), .val (.ref b1), .val (.ref b51), .unset, .unset, .unset, .unset] [(.int p2), (.int p1), (.int p0), (.ref b138), (.ref b138)])) _
      refine XS.aload X138.here hx rfl (hb hby at_210) rfl rfl ?_
      show Steps p.tables e below (T138.setTop (mkF m 212 #[.val (.int p0), .val (.int p1), .val (.int p2), .val (.int p3), .val (.int p4), .val (.int p5), .val (.int (v0_2 p0 p1 p2 p3 p4 p5)), .val (.ref b1), .val (.ref b51), .unset, .unset, .unset, .unset] [(.ref b1), (.int p2), (.int p1), (.int p0), (.ref b138), (.ref b138)])) _
      refine XT.iconstV X138.here hx rfl (3 : Int32) (hb hby at_212) (by decide) ?_
      show Steps p.tables e below (T138.setTop (mkF m 213 #[.val (.int p0), .val (.int p1), .val (.int p2), .val (.int p3), .val (.int p4), .val (.int p5), .val (.int (v0_2 p0 p1 p2 p3 p4 p5)), .val (.ref b1), .val (.ref b51), .unset, .unset, .unset, .unset] [(.int (3 : Int32)), (.ref b1), (.int p2), (.int p1), (.int p0), (.ref b138), (.ref b138)])) _
      refine X138.iaload hx (j := (3 : Int32)) (v := (.int (v0_3 p0 p1 p2 p3 p4 p5))) (by rw [e138]; exact Ar148.1) (State.isArrayOf_alike hZ.alike Ar148.2.1) Ar148.2.2 hin152 (Has.at Ha148 hin152 rfl) (g := (mkF m 213 #[.val (.int p0), .val (.int p1), .val (.int p2), .val (.int p3), .val (.int p4), .val (.int p5), .val (.int (v0_2 p0 p1 p2 p3 p4 p5)), .val (.ref b1), .val (.ref b51), .unset, .unset, .unset, .unset] [(.int (3 : Int32)), (.ref b1), (.int p2), (.int p1), (.int p0), (.ref b138), (.ref b138)])) rfl rfl (hb hby at_213) _ ?_
      show Steps p.tables e below (T138.setTop (mkF m 214 #[.val (.int p0), .val (.int p1), .val (.int p2), .val (.int p3), .val (.int p4), .val (.int p5), .val (.int (v0_2 p0 p1 p2 p3 p4 p5)), .val (.ref b1), .val (.ref b51), .unset, .unset, .unset, .unset] [(.int (v0_3 p0 p1 p2 p3 p4 p5)), (.int p2), (.int p1), (.int p0), (.ref b138), (.ref b138)])) _
      refine XS.aload X138.here hx rfl (hb hby at_214) rfl rfl ?_
      show Steps p.tables e below (T138.setTop (mkF m 216 #[.val (.int p0), .val (.int p1), .val (.int p2), .val (.int p3), .val (.int p4), .val (.int p5), .val (.int (v0_2 p0 p1 p2 p3 p4 p5)), .val (.ref b1), .val (.ref b51), .unset, .unset, .unset, .unset] [(.ref b1), (.int (v0_3 p0 p1 p2 p3 p4 p5)), (.int p2), (.int p1), (.int p0), (.ref b138), (.ref b138)])) _
      refine XT.iconstV X138.here hx rfl (4 : Int32) (hb hby at_216) (by decide) ?_
      show Steps p.tables e below (T138.setTop (mkF m 217 #[.val (.int p0), .val (.int p1), .val (.int p2), .val (.int p3), .val (.int p4), .val (.int p5), .val (.int (v0_2 p0 p1 p2 p3 p4 p5)), .val (.ref b1), .val (.ref b51), .unset, .unset, .unset, .unset] [(.int (4 : Int32)), (.ref b1), (.int (v0_3 p0 p1 p2 p3 p4 p5)), (.int p2), (.int p1), (.int p0), (.ref b138), (.ref b138)])) _
      refine X138.iaload hx (j := (4 : Int32)) (v := (.int (v0_4 p0 p1 p2 p3 p4 p5))) (by rw [e138]; exact Ar148.1) (State.isArrayOf_alike hZ.alike Ar148.2.1) Ar148.2.2 hin153 (Has.at Ha148 hin153 rfl) (g := (mkF m 217 #[.val (.int p0), .val (.int p1), .val (.int p2), .val (.int p3), .val (.int p4), .val (.int p5), .val (.int (v0_2 p0 p1 p2 p3 p4 p5)), .val (.ref b1), .val (.ref b51), .unset, .unset, .unset, .unset] [(.int (4 : Int32)), (.ref b1), (.int (v0_3 p0 p1 p2 p3 p4 p5)), (.int p2), (.int p1), (.int p0), (.ref b138), (.ref b138)])) rfl rfl (hb hby at_217) _ ?_
      show Steps p.tables e below (T138.setTop (mkF m 218 #[.val (.int p0), .val (.int p1), .val (.int p2), .val (.int p3), .val (.int p4), .val (.int p5), .val (.int (v0_2 p0 p1 p2 p3 p4 p5)), .val (.ref b1), .val (.ref b51), .unset, .unset, .unset, .unset] [(.int (v0_4 p0 p1 p2 p3 p4 p5)), (.int (v0_3 p0 p1 p2 p3 p4 p5)), (.int p2), (.int p1), (.int p0), (.ref b138), (.ref b138)])) _
      refine XS.aload X138.here hx rfl (hb hby at_218) rfl rfl ?_
      show Steps p.tables e below (T138.setTop (mkF m 220 #[.val (.int p0), .val (.int p1), .val (.int p2), .val (.int p3), .val (.int p4), .val (.int p5), .val (.int (v0_2 p0 p1 p2 p3 p4 p5)), .val (.ref b1), .val (.ref b51), .unset, .unset, .unset, .unset] [(.ref b1), (.int (v0_4 p0 p1 p2 p3 p4 p5)), (.int (v0_3 p0 p1 p2 p3 p4 p5)), (.int p2), (.int p1), (.int p0), (.ref b138), (.ref b138)])) _
      refine XT.iconstV X138.here hx rfl (5 : Int32) (hb hby at_220) (by decide) ?_
      show Steps p.tables e below (T138.setTop (mkF m 221 #[.val (.int p0), .val (.int p1), .val (.int p2), .val (.int p3), .val (.int p4), .val (.int p5), .val (.int (v0_2 p0 p1 p2 p3 p4 p5)), .val (.ref b1), .val (.ref b51), .unset, .unset, .unset, .unset] [(.int (5 : Int32)), (.ref b1), (.int (v0_4 p0 p1 p2 p3 p4 p5)), (.int (v0_3 p0 p1 p2 p3 p4 p5)), (.int p2), (.int p1), (.int p0), (.ref b138), (.ref b138)])) _
      refine X138.iaload hx (j := (5 : Int32)) (v := (.int (v0_5 p0 p1 p2 p3 p4 p5))) (by rw [e138]; exact Ar148.1) (State.isArrayOf_alike hZ.alike Ar148.2.1) Ar148.2.2 hin154 (Has.at Ha148 hin154 rfl) (g := (mkF m 221 #[.val (.int p0), .val (.int p1), .val (.int p2), .val (.int p3), .val (.int p4), .val (.int p5), .val (.int (v0_2 p0 p1 p2 p3 p4 p5)), .val (.ref b1), .val (.ref b51), .unset, .unset, .unset, .unset] [(.int (5 : Int32)), (.ref b1), (.int (v0_4 p0 p1 p2 p3 p4 p5)), (.int (v0_3 p0 p1 p2 p3 p4 p5)), (.int p2), (.int p1), (.int p0), (.ref b138), (.ref b138)])) rfl rfl (hb hby at_221) _ ?_
      show Steps p.tables e below (T138.setTop (mkF m 222 #[.val (.int p0), .val (.int p1), .val (.int p2), .val (.int p3), .val (.int p4), .val (.int p5), .val (.int (v0_2 p0 p1 p2 p3 p4 p5)), .val (.ref b1), .val (.ref b51), .unset, .unset, .unset, .unset] [(.int (v0_5 p0 p1 p2 p3 p4 p5)), (.int (v0_4 p0 p1 p2 p3 p4 p5)), (.int (v0_3 p0 p1 p2 p3 p4 p5)), (.int p2), (.int p1), (.int p0), (.ref b138), (.ref b138)])) _
      refine XS.aload X138.here hx rfl (hb hby at_222) rfl rfl ?_
      show Steps p.tables e below (T138.setTop (mkF m 224 #[.val (.int p0), .val (.int p1), .val (.int p2), .val (.int p3), .val (.int p4), .val (.int p5), .val (.int (v0_2 p0 p1 p2 p3 p4 p5)), .val (.ref b1), .val (.ref b51), .unset, .unset, .unset, .unset] [(.ref b1), (.int (v0_5 p0 p1 p2 p3 p4 p5)), (.int (v0_4 p0 p1 p2 p3 p4 p5)), (.int (v0_3 p0 p1 p2 p3 p4 p5)), (.int p2), (.int p1), (.int p0), (.ref b138), (.ref b138)])) _
      refine XT.bipushV X138.here hx rfl (6 : Int32) (hb hby at_224) (by decide) ?_
      show Steps p.tables e below (T138.setTop (mkF m 226 #[.val (.int p0), .val (.int p1), .val (.int p2), .val (.int p3), .val (.int p4), .val (.int p5), .val (.int (v0_2 p0 p1 p2 p3 p4 p5)), .val (.ref b1), .val (.ref b51), .unset, .unset, .unset, .unset] [(.int (6 : Int32)), (.ref b1), (.int (v0_5 p0 p1 p2 p3 p4 p5)), (.int (v0_4 p0 p1 p2 p3 p4 p5)), (.int (v0_3 p0 p1 p2 p3 p4 p5)), (.int p2), (.int p1), (.int p0), (.ref b138), (.ref b138)])) _
      refine X138.iaload hx (j := (6 : Int32)) (v := (.int (v0_6 p0 p1 p2 p3 p4 p5))) (by rw [e138]; exact Ar148.1) (State.isArrayOf_alike hZ.alike Ar148.2.1) Ar148.2.2 hin155 (Has.at Ha148 hin155 rfl) (g := (mkF m 226 #[.val (.int p0), .val (.int p1), .val (.int p2), .val (.int p3), .val (.int p4), .val (.int p5), .val (.int (v0_2 p0 p1 p2 p3 p4 p5)), .val (.ref b1), .val (.ref b51), .unset, .unset, .unset, .unset] [(.int (6 : Int32)), (.ref b1), (.int (v0_5 p0 p1 p2 p3 p4 p5)), (.int (v0_4 p0 p1 p2 p3 p4 p5)), (.int (v0_3 p0 p1 p2 p3 p4 p5)), (.int p2), (.int p1), (.int p0), (.ref b138), (.ref b138)])) rfl rfl (hb hby at_226) _ ?_
      show Steps p.tables e below (T138.setTop (mkF m 227 #[.val (.int p0), .val (.int p1), .val (.int p2), .val (.int p3), .val (.int p4), .val (.int p5), .val (.int (v0_2 p0 p1 p2 p3 p4 p5)), .val (.ref b1), .val (.ref b51), .unset, .unset, .unset, .unset] [(.int (v0_6 p0 p1 p2 p3 p4 p5)), (.int (v0_5 p0 p1 p2 p3 p4 p5)), (.int (v0_4 p0 p1 p2 p3 p4 p5)), (.int (v0_3 p0 p1 p2 p3 p4 p5)), (.int p2), (.int p1), (.int p0), (.ref b138), (.ref b138)])) _
      refine XS.aload X138.here hx rfl (hb hby at_227) rfl rfl ?_
      show Steps p.tables e below (T138.setTop (mkF m 229 #[.val (.int p0), .val (.int p1), .val (.int p2), .val (.int p3), .val (.int p4), .val (.int p5), .val (.int (v0_2 p0 p1 p2 p3 p4 p5)), .val (.ref b1), .val (.ref b51), .unset, .unset, .unset, .unset] [(.ref b1), (.int (v0_6 p0 p1 p2 p3 p4 p5)), (.int (v0_5 p0 p1 p2 p3 p4 p5)), (.int (v0_4 p0 p1 p2 p3 p4 p5)), (.int (v0_3 p0 p1 p2 p3 p4 p5)), (.int p2), (.int p1), (.int p0), (.ref b138), (.ref b138)])) _
      refine XT.bipushV X138.here hx rfl (7 : Int32) (hb hby at_229) (by decide) ?_
      show Steps p.tables e below (T138.setTop (mkF m 231 #[.val (.int p0), .val (.int p1), .val (.int p2), .val (.int p3), .val (.int p4), .val (.int p5), .val (.int (v0_2 p0 p1 p2 p3 p4 p5)), .val (.ref b1), .val (.ref b51), .unset, .unset, .unset, .unset] [(.int (7 : Int32)), (.ref b1), (.int (v0_6 p0 p1 p2 p3 p4 p5)), (.int (v0_5 p0 p1 p2 p3 p4 p5)), (.int (v0_4 p0 p1 p2 p3 p4 p5)), (.int (v0_3 p0 p1 p2 p3 p4 p5)), (.int p2), (.int p1), (.int p0), (.ref b138), (.ref b138)])) _
      refine X138.iaload hx (j := (7 : Int32)) (v := (.int (v0_7 p0 p1 p2 p3 p4 p5))) (by rw [e138]; exact Ar148.1) (State.isArrayOf_alike hZ.alike Ar148.2.1) Ar148.2.2 hin156 (Has.at Ha148 hin156 rfl) (g := (mkF m 231 #[.val (.int p0), .val (.int p1), .val (.int p2), .val (.int p3), .val (.int p4), .val (.int p5), .val (.int (v0_2 p0 p1 p2 p3 p4 p5)), .val (.ref b1), .val (.ref b51), .unset, .unset, .unset, .unset] [(.int (7 : Int32)), (.ref b1), (.int (v0_6 p0 p1 p2 p3 p4 p5)), (.int (v0_5 p0 p1 p2 p3 p4 p5)), (.int (v0_4 p0 p1 p2 p3 p4 p5)), (.int (v0_3 p0 p1 p2 p3 p4 p5)), (.int p2), (.int p1), (.int p0), (.ref b138), (.ref b138)])) rfl rfl (hb hby at_231) _ ?_
      show Steps p.tables e below (T138.setTop (mkF m 232 #[.val (.int p0), .val (.int p1), .val (.int p2), .val (.int p3), .val (.int p4), .val (.int p5), .val (.int (v0_2 p0 p1 p2 p3 p4 p5)), .val (.ref b1), .val (.ref b51), .unset, .unset, .unset, .unset] [(.int (v0_7 p0 p1 p2 p3 p4 p5)), (.int (v0_6 p0 p1 p2 p3 p4 p5)), (.int (v0_5 p0 p1 p2 p3 p4 p5)), (.int (v0_4 p0 p1 p2 p3 p4 p5)), (.int (v0_3 p0 p1 p2 p3 p4 p5)), (.int p2), (.int p1), (.int p0), (.ref b138), (.ref b138)])) _
      refine XS.aload X138.here hx rfl (hb hby at_232) rfl rfl ?_
      show Steps p.tables e below (T138.setTop (mkF m 234 #[.val (.int p0), .val (.int p1), .val (.int p2), .val (.int p3), .val (.int p4), .val (.int p5), .val (.int (v0_2 p0 p1 p2 p3 p4 p5)), .val (.ref b1), .val (.ref b51), .unset, .unset, .unset, .unset] [(.ref b1), (.int (v0_7 p0 p1 p2 p3 p4 p5)), (.int (v0_6 p0 p1 p2 p3 p4 p5)), (.int (v0_5 p0 p1 p2 p3 p4 p5)), (.int (v0_4 p0 p1 p2 p3 p4 p5)), (.int (v0_3 p0 p1 p2 p3 p4 p5)), (.int p2), (.int p1), (.int p0), (.ref b138), (.ref b138)])) _
      refine XT.bipushV X138.here hx rfl (8 : Int32) (hb hby at_234) (by decide) ?_
      show Steps p.tables e below (T138.setTop (mkF m 236 #[.val (.int p0), .val (.int p1), .val (.int p2), .val (.int p3), .val (.int p4), .val (.int p5), .val (.int (v0_2 p0 p1 p2 p3 p4 p5)), .val (.ref b1), .val (.ref b51), .unset, .unset, .unset, .unset] [(.int (8 : Int32)), (.ref b1), (.int (v0_7 p0 p1 p2 p3 p4 p5)), (.int (v0_6 p0 p1 p2 p3 p4 p5)), (.int (v0_5 p0 p1 p2 p3 p4 p5)), (.int (v0_4 p0 p1 p2 p3 p4 p5)), (.int (v0_3 p0 p1 p2 p3 p4 p5)), (.int p2), (.int p1), (.int p0), (.ref b138), (.ref b138)])) _
      refine X138.iaload hx (j := (8 : Int32)) (v := (.int (v0_8 p0 p1 p2 p3 p4 p5))) (by rw [e138]; exact Ar148.1) (State.isArrayOf_alike hZ.alike Ar148.2.1) Ar148.2.2 hin157 (Has.at Ha148 hin157 rfl) (g := (mkF m 236 #[.val (.int p0), .val (.int p1), .val (.int p2), .val (.int p3), .val (.int p4), .val (.int p5), .val (.int (v0_2 p0 p1 p2 p3 p4 p5)), .val (.ref b1), .val (.ref b51), .unset, .unset, .unset, .unset] [(.int (8 : Int32)), (.ref b1), (.int (v0_7 p0 p1 p2 p3 p4 p5)), (.int (v0_6 p0 p1 p2 p3 p4 p5)), (.int (v0_5 p0 p1 p2 p3 p4 p5)), (.int (v0_4 p0 p1 p2 p3 p4 p5)), (.int (v0_3 p0 p1 p2 p3 p4 p5)), (.int p2), (.int p1), (.int p0), (.ref b138), (.ref b138)])) rfl rfl (hb hby at_236) _ ?_
      show Steps p.tables e below (T138.setTop (mkF m 237 #[.val (.int p0), .val (.int p1), .val (.int p2), .val (.int p3), .val (.int p4), .val (.int p5), .val (.int (v0_2 p0 p1 p2 p3 p4 p5)), .val (.ref b1), .val (.ref b51), .unset, .unset, .unset, .unset] [(.int (v0_8 p0 p1 p2 p3 p4 p5)), (.int (v0_7 p0 p1 p2 p3 p4 p5)), (.int (v0_6 p0 p1 p2 p3 p4 p5)), (.int (v0_5 p0 p1 p2 p3 p4 p5)), (.int (v0_4 p0 p1 p2 p3 p4 p5)), (.int (v0_3 p0 p1 p2 p3 p4 p5)), (.int p2), (.int p1), (.int p0), (.ref b138), (.ref b138)])) _
      refine st158.trans ?_
      show Steps p.tables e below (T158.setTop (mkF m 240 #[.val (.int p0), .val (.int p1), .val (.int p2), .val (.int p3), .val (.int p4), .val (.int p5), .val (.int (v0_2 p0 p1 p2 p3 p4 p5)), .val (.ref b1), .val (.ref b51), .unset, .unset, .unset, .unset] [(.ref b138)])) _
      refine XS.astore X158.here hx rfl (hb hby at_240) rfl rfl (l' := #[.val (.int p0), .val (.int p1), .val (.int p2), .val (.int p3), .val (.int p4), .val (.int p5), .val (.int (v0_2 p0 p1 p2 p3 p4 p5)), .val (.ref b1), .val (.ref b51), .val (.ref b138), .unset, .unset, .unset]) rfl ?_
      show Steps p.tables e below (T158.setTop (mkF m 242 #[.val (.int p0), .val (.int p1), .val (.int p2), .val (.int p3), .val (.int p4), .val (.int p5), .val (.int (v0_2 p0 p1 p2 p3 p4 p5)), .val (.ref b1), .val (.ref b51), .val (.ref b138), .unset, .unset, .unset] [])) _
      refine st161 _ ?_
      show Steps p.tables e below (T161.setTop (mkF m 245 #[.val (.int p0), .val (.int p1), .val (.int p2), .val (.int p3), .val (.int p4), .val (.int p5), .val (.int (v0_2 p0 p1 p2 p3 p4 p5)), .val (.ref b1), .val (.ref b51), .val (.ref b138), .unset, .unset, .unset] [(.ref b161)])) _
      refine XS.dup X161.here hx rfl (hb hby at_245) rfl rfl ?_
      show Steps p.tables e below (T161.setTop (mkF m 246 #[.val (.int p0), .val (.int p1), .val (.int p2), .val (.int p3), .val (.int p4), .val (.int p5), .val (.int (v0_2 p0 p1 p2 p3 p4 p5)), .val (.ref b1), .val (.ref b51), .val (.ref b138), .unset, .unset, .unset] [(.ref b161), (.ref b161)])) _
      refine XS.aload X161.here hx rfl (hb hby at_246) rfl rfl ?_
      show Steps p.tables e below (T161.setTop (mkF m 248 #[.val (.int p0), .val (.int p1), .val (.int p2), .val (.int p3), .val (.int p4), .val (.int p5), .val (.int (v0_2 p0 p1 p2 p3 p4 p5)), .val (.ref b1), .val (.ref b51), .val (.ref b138), .unset, .unset, .unset] [(.ref b51), (.ref b161), (.ref b161)])) _
      refine XT.iconstV X161.here hx rfl (0 : Int32) (hb hby at_248) (by decide) ?_
      show Steps p.tables e below (T161.setTop (mkF m 249 #[.val (.int p0), .val (.int p1), .val (.int p2), .val (.int p3), .val (.int p4), .val (.int p5), .val (.int (v0_2 p0 p1 p2 p3 p4 p5)), .val (.ref b1), .val (.ref b51), .val (.ref b138), .unset, .unset, .unset] [(.int (0 : Int32)), (.ref b51), (.ref b161), (.ref b161)])) _
      refine X161.iaload hx (j := (0 : Int32)) (v := (.int (v0_10 p0 p1 p2 p3 p4 p5))) (by rw [e161]; exact Ar172.1) (State.isArrayOf_alike hZ.alike Ar172.2.1) Ar172.2.2 hin173 (Has.at Ha172 hin173 rfl) (g := (mkF m 249 #[.val (.int p0), .val (.int p1), .val (.int p2), .val (.int p3), .val (.int p4), .val (.int p5), .val (.int (v0_2 p0 p1 p2 p3 p4 p5)), .val (.ref b1), .val (.ref b51), .val (.ref b138), .unset, .unset, .unset] [(.int (0 : Int32)), (.ref b51), (.ref b161), (.ref b161)])) rfl rfl (hb hby at_249) _ ?_
      show Steps p.tables e below (T161.setTop (mkF m 250 #[.val (.int p0), .val (.int p1), .val (.int p2), .val (.int p3), .val (.int p4), .val (.int p5), .val (.int (v0_2 p0 p1 p2 p3 p4 p5)), .val (.ref b1), .val (.ref b51), .val (.ref b138), .unset, .unset, .unset] [(.int (v0_10 p0 p1 p2 p3 p4 p5)), (.ref b161), (.ref b161)])) _
      refine XS.aload X161.here hx rfl (hb hby at_250) rfl rfl ?_
      show Steps p.tables e below (T161.setTop (mkF m 252 #[.val (.int p0), .val (.int p1), .val (.int p2), .val (.int p3), .val (.int p4), .val (.int p5), .val (.int (v0_2 p0 p1 p2 p3 p4 p5)), .val (.ref b1), .val (.ref b51), .val (.ref b138), .unset, .unset, .unset] [(.ref b51), (.int (v0_10 p0 p1 p2 p3 p4 p5)), (.ref b161), (.ref b161)])) _
      refine XT.iconstV X161.here hx rfl (1 : Int32) (hb hby at_252) (by decide) ?_
      show Steps p.tables e below (T161.setTop (mkF m 253 #[.val (.int p0), .val (.int p1), .val (.int p2), .val (.int p3), .val (.int p4), .val (.int p5), .val (.int (v0_2 p0 p1 p2 p3 p4 p5)), .val (.ref b1), .val (.ref b51), .val (.ref b138), .unset, .unset, .unset] [(.int (1 : Int32)), (.ref b51), (.int (v0_10 p0 p1 p2 p3 p4 p5)), (.ref b161), (.ref b161)])) _
      refine X161.iaload hx (j := (1 : Int32)) (v := (.int (v0_11 p0 p1 p2 p3 p4 p5))) (by rw [e161]; exact Ar172.1) (State.isArrayOf_alike hZ.alike Ar172.2.1) Ar172.2.2 hin174 (Has.at Ha172 hin174 rfl) (g := (mkF m 253 #[.val (.int p0), .val (.int p1), .val (.int p2), .val (.int p3), .val (.int p4), .val (.int p5), .val (.int (v0_2 p0 p1 p2 p3 p4 p5)), .val (.ref b1), .val (.ref b51), .val (.ref b138), .unset, .unset, .unset] [(.int (1 : Int32)), (.ref b51), (.int (v0_10 p0 p1 p2 p3 p4 p5)), (.ref b161), (.ref b161)])) rfl rfl (hb hby at_253) _ ?_
      show Steps p.tables e below (T161.setTop (mkF m 254 #[.val (.int p0), .val (.int p1), .val (.int p2), .val (.int p3), .val (.int p4), .val (.int p5), .val (.int (v0_2 p0 p1 p2 p3 p4 p5)), .val (.ref b1), .val (.ref b51), .val (.ref b138), .unset, .unset, .unset] [(.int (v0_11 p0 p1 p2 p3 p4 p5)), (.int (v0_10 p0 p1 p2 p3 p4 p5)), (.ref b161), (.ref b161)])) _
      refine XS.aload X161.here hx rfl (hb hby at_254) rfl rfl ?_
      show Steps p.tables e below (T161.setTop (mkF m 256 #[.val (.int p0), .val (.int p1), .val (.int p2), .val (.int p3), .val (.int p4), .val (.int p5), .val (.int (v0_2 p0 p1 p2 p3 p4 p5)), .val (.ref b1), .val (.ref b51), .val (.ref b138), .unset, .unset, .unset] [(.ref b51), (.int (v0_11 p0 p1 p2 p3 p4 p5)), (.int (v0_10 p0 p1 p2 p3 p4 p5)), (.ref b161), (.ref b161)])) _
      refine XT.iconstV X161.here hx rfl (2 : Int32) (hb hby at_256) (by decide) ?_
      show Steps p.tables e below (T161.setTop (mkF m 257 #[.val (.int p0), .val (.int p1), .val (.int p2), .val (.int p3), .val (.int p4), .val (.int p5), .val (.int (v0_2 p0 p1 p2 p3 p4 p5)), .val (.ref b1), .val (.ref b51), .val (.ref b138), .unset, .unset, .unset] [(.int (2 : Int32)), (.ref b51), (.int (v0_11 p0 p1 p2 p3 p4 p5)), (.int (v0_10 p0 p1 p2 p3 p4 p5)), (.ref b161), (.ref b161)])) _
      refine X161.iaload hx (j := (2 : Int32)) (v := (.int (v0_12 p0 p1 p2 p3 p4 p5))) (by rw [e161]; exact Ar172.1) (State.isArrayOf_alike hZ.alike Ar172.2.1) Ar172.2.2 hin175 (Has.at Ha172 hin175 rfl) (g := (mkF m 257 #[.val (.int p0), .val (.int p1), .val (.int p2), .val (.int p3), .val (.int p4), .val (.int p5), .val (.int (v0_2 p0 p1 p2 p3 p4 p5)), .val (.ref b1), .val (.ref b51), .val (.ref b138), .unset, .unset, .unset] [(.int (2 : Int32)), (.ref b51), (.int (v0_11 p0 p1 p2 p3 p4 p5)), (.int (v0_10 p0 p1 p2 p3 p4 p5)), (.ref b161), (.ref b161)])) rfl rfl (hb hby at_257) _ ?_
      show Steps p.tables e below (T161.setTop (mkF m 258 #[.val (.int p0), .val (.int p1), .val (.int p2), .val (.int p3), .val (.int p4), .val (.int p5), .val (.int (v0_2 p0 p1 p2 p3 p4 p5)), .val (.ref b1), .val (.ref b51), .val (.ref b138), .unset, .unset, .unset] [(.int (v0_12 p0 p1 p2 p3 p4 p5)), (.int (v0_11 p0 p1 p2 p3 p4 p5)), (.int (v0_10 p0 p1 p2 p3 p4 p5)), (.ref b161), (.ref b161)])) _
      refine XS.aload X161.here hx rfl (hb hby at_258) rfl rfl ?_
      show Steps p.tables e below (T161.setTop (mkF m 260 #[.val (.int p0), .val (.int p1), .val (.int p2), .val (.int p3), .val (.int p4), .val (.int p5), .val (.int (v0_2 p0 p1 p2 p3 p4 p5)), .val (.ref b1), .val (.ref b51), .val (.ref b138), .unset, .unset, .unset] [(.ref b51), (.int (v0_12 p0 p1 p2 p3 p4 p5)), (.int (v0_11 p0 p1 p2 p3 p4 p5)), (.int (v0_10 p0 p1 p2 p3 p4 p5)), (.ref b161), (.ref b161)])) _
      refine XT.iconstV X161.here hx rfl (3 : Int32) (hb hby at_260) (by decide) ?_
      show Steps p.tables e below (T161.setTop (mkF m 261 #[.val (.int p0), .val (.int p1), .val (.int p2), .val (.int p3), .val (.int p4), .val (.int p5), .val (.int (v0_2 p0 p1 p2 p3 p4 p5)), .val (.ref b1), .val (.ref b51), .val (.ref b138), .unset, .unset, .unset] [(.int (3 : Int32)), (.ref b51), (.int (v0_12 p0 p1 p2 p3 p4 p5)), (.int (v0_11 p0 p1 p2 p3 p4 p5)), (.int (v0_10 p0 p1 p2 p3 p4 p5)), (.ref b161), (.ref b161)])) _
      refine X161.iaload hx (j := (3 : Int32)) (v := (.int (v0_13 p0 p1 p2 p3 p4 p5))) (by rw [e161]; exact Ar172.1) (State.isArrayOf_alike hZ.alike Ar172.2.1) Ar172.2.2 hin176 (Has.at Ha172 hin176 rfl) (g := (mkF m 261 #[.val (.int p0), .val (.int p1), .val (.int p2), .val (.int p3), .val (.int p4), .val (.int p5), .val (.int (v0_2 p0 p1 p2 p3 p4 p5)), .val (.ref b1), .val (.ref b51), .val (.ref b138), .unset, .unset, .unset] [(.int (3 : Int32)), (.ref b51), (.int (v0_12 p0 p1 p2 p3 p4 p5)), (.int (v0_11 p0 p1 p2 p3 p4 p5)), (.int (v0_10 p0 p1 p2 p3 p4 p5)), (.ref b161), (.ref b161)])) rfl rfl (hb hby at_261) _ ?_
      show Steps p.tables e below (T161.setTop (mkF m 262 #[.val (.int p0), .val (.int p1), .val (.int p2), .val (.int p3), .val (.int p4), .val (.int p5), .val (.int (v0_2 p0 p1 p2 p3 p4 p5)), .val (.ref b1), .val (.ref b51), .val (.ref b138), .unset, .unset, .unset] [(.int (v0_13 p0 p1 p2 p3 p4 p5)), (.int (v0_12 p0 p1 p2 p3 p4 p5)), (.int (v0_11 p0 p1 p2 p3 p4 p5)), (.int (v0_10 p0 p1 p2 p3 p4 p5)), (.ref b161), (.ref b161)])) _
      refine XS.aload X161.here hx rfl (hb hby at_262) rfl rfl ?_
      show Steps p.tables e below (T161.setTop (mkF m 264 #[.val (.int p0), .val (.int p1), .val (.int p2), .val (.int p3), .val (.int p4), .val (.int p5), .val (.int (v0_2 p0 p1 p2 p3 p4 p5)), .val (.ref b1), .val (.ref b51), .val (.ref b138), .unset, .unset, .unset] [(.ref b51), (.int (v0_13 p0 p1 p2 p3 p4 p5)), (.int (v0_12 p0 p1 p2 p3 p4 p5)), (.int (v0_11 p0 p1 p2 p3 p4 p5)), (.int (v0_10 p0 p1 p2 p3 p4 p5)), (.ref b161), (.ref b161)])) _
      refine XT.iconstV X161.here hx rfl (4 : Int32) (hb hby at_264) (by decide) ?_
      show Steps p.tables e below (T161.setTop (mkF m 265 #[.val (.int p0), .val (.int p1), .val (.int p2), .val (.int p3), .val (.int p4), .val (.int p5), .val (.int (v0_2 p0 p1 p2 p3 p4 p5)), .val (.ref b1), .val (.ref b51), .val (.ref b138), .unset, .unset, .unset] [(.int (4 : Int32)), (.ref b51), (.int (v0_13 p0 p1 p2 p3 p4 p5)), (.int (v0_12 p0 p1 p2 p3 p4 p5)), (.int (v0_11 p0 p1 p2 p3 p4 p5)), (.int (v0_10 p0 p1 p2 p3 p4 p5)), (.ref b161), (.ref b161)])) _
      refine X161.iaload hx (j := (4 : Int32)) (v := (.int (v0_14 p0 p1 p2 p3 p4 p5))) (by rw [e161]; exact Ar172.1) (State.isArrayOf_alike hZ.alike Ar172.2.1) Ar172.2.2 hin177 (Has.at Ha172 hin177 rfl) (g := (mkF m 265 #[.val (.int p0), .val (.int p1), .val (.int p2), .val (.int p3), .val (.int p4), .val (.int p5), .val (.int (v0_2 p0 p1 p2 p3 p4 p5)), .val (.ref b1), .val (.ref b51), .val (.ref b138), .unset, .unset, .unset] [(.int (4 : Int32)), (.ref b51), (.int (v0_13 p0 p1 p2 p3 p4 p5)), (.int (v0_12 p0 p1 p2 p3 p4 p5)), (.int (v0_11 p0 p1 p2 p3 p4 p5)), (.int (v0_10 p0 p1 p2 p3 p4 p5)), (.ref b161), (.ref b161)])) rfl rfl (hb hby at_265) _ ?_
      show Steps p.tables e below (T161.setTop (mkF m 266 #[.val (.int p0), .val (.int p1), .val (.int p2), .val (.int p3), .val (.int p4), .val (.int p5), .val (.int (v0_2 p0 p1 p2 p3 p4 p5)), .val (.ref b1), .val (.ref b51), .val (.ref b138), .unset, .unset, .unset] [(.int (v0_14 p0 p1 p2 p3 p4 p5)), (.int (v0_13 p0 p1 p2 p3 p4 p5)), (.int (v0_12 p0 p1 p2 p3 p4 p5)), (.int (v0_11 p0 p1 p2 p3 p4 p5)), (.int (v0_10 p0 p1 p2 p3 p4 p5)), (.ref b161), (.ref b161)])) _
      refine XS.aload X161.here hx rfl (hb hby at_266) rfl rfl ?_
      show Steps p.tables e below (T161.setTop (mkF m 268 #[.val (.int p0), .val (.int p1), .val (.int p2), .val (.int p3), .val (.int p4), .val (.int p5), .val (.int (v0_2 p0 p1 p2 p3 p4 p5)), .val (.ref b1), .val (.ref b51), .val (.ref b138), .unset, .unset, .unset] [(.ref b51), (.int (v0_14 p0 p1 p2 p3 p4 p5)), (.int (v0_13 p0 p1 p2 p3 p4 p5)), (.int (v0_12 p0 p1 p2 p3 p4 p5)), (.int (v0_11 p0 p1 p2 p3 p4 p5)), (.int (v0_10 p0 p1 p2 p3 p4 p5)), (.ref b161), (.ref b161)])) _
      refine XT.iconstV X161.here hx rfl (5 : Int32) (hb hby at_268) (by decide) ?_
      show Steps p.tables e below (T161.setTop (mkF m 269 #[.val (.int p0), .val (.int p1), .val (.int p2), .val (.int p3), .val (.int p4), .val (.int p5), .val (.int (v0_2 p0 p1 p2 p3 p4 p5)), .val (.ref b1), .val (.ref b51), .val (.ref b138), .unset, .unset, .unset] [(.int (5 : Int32)), (.ref b51), (.int (v0_14 p0 p1 p2 p3 p4 p5)), (.int (v0_13 p0 p1 p2 p3 p4 p5)), (.int (v0_12 p0 p1 p2 p3 p4 p5)), (.int (v0_11 p0 p1 p2 p3 p4 p5)), (.int (v0_10 p0 p1 p2 p3 p4 p5)), (.ref b161), (.ref b161)])) _
      refine X161.iaload hx (j := (5 : Int32)) (v := (.int (v0_15 p0 p1 p2 p3 p4 p5))) (by rw [e161]; exact Ar172.1) (State.isArrayOf_alike hZ.alike Ar172.2.1) Ar172.2.2 hin178 (Has.at Ha172 hin178 rfl) (g := (mkF m 269 #[.val (.int p0), .val (.int p1), .val (.int p2), .val (.int p3), .val (.int p4), .val (.int p5), .val (.int (v0_2 p0 p1 p2 p3 p4 p5)), .val (.ref b1), .val (.ref b51), .val (.ref b138), .unset, .unset, .unset] [(.int (5 : Int32)), (.ref b51), (.int (v0_14 p0 p1 p2 p3 p4 p5)), (.int (v0_13 p0 p1 p2 p3 p4 p5)), (.int (v0_12 p0 p1 p2 p3 p4 p5)), (.int (v0_11 p0 p1 p2 p3 p4 p5)), (.int (v0_10 p0 p1 p2 p3 p4 p5)), (.ref b161), (.ref b161)])) rfl rfl (hb hby at_269) _ ?_
      show Steps p.tables e below (T161.setTop (mkF m 270 #[.val (.int p0), .val (.int p1), .val (.int p2), .val (.int p3), .val (.int p4), .val (.int p5), .val (.int (v0_2 p0 p1 p2 p3 p4 p5)), .val (.ref b1), .val (.ref b51), .val (.ref b138), .unset, .unset, .unset] [(.int (v0_15 p0 p1 p2 p3 p4 p5)), (.int (v0_14 p0 p1 p2 p3 p4 p5)), (.int (v0_13 p0 p1 p2 p3 p4 p5)), (.int (v0_12 p0 p1 p2 p3 p4 p5)), (.int (v0_11 p0 p1 p2 p3 p4 p5)), (.int (v0_10 p0 p1 p2 p3 p4 p5)), (.ref b161), (.ref b161)])) _
      refine XS.aload X161.here hx rfl (hb hby at_270) rfl rfl ?_
      show Steps p.tables e below (T161.setTop (mkF m 272 #[.val (.int p0), .val (.int p1), .val (.int p2), .val (.int p3), .val (.int p4), .val (.int p5), .val (.int (v0_2 p0 p1 p2 p3 p4 p5)), .val (.ref b1), .val (.ref b51), .val (.ref b138), .unset, .unset, .unset] [(.ref b51), (.int (v0_15 p0 p1 p2 p3 p4 p5)), (.int (v0_14 p0 p1 p2 p3 p4 p5)), (.int (v0_13 p0 p1 p2 p3 p4 p5)), (.int (v0_12 p0 p1 p2 p3 p4 p5)), (.int (v0_11 p0 p1 p2 p3 p4 p5)), (.int (v0_10 p0 p1 p2 p3 p4 p5)), (.ref b161), (.ref b161)])) _
      refine XT.bipushV X161.here hx rfl (6 : Int32) (hb hby at_272) (by decide) ?_
      show Steps p.tables e below (T161.setTop (mkF m 274 #[.val (.int p0), .val (.int p1), .val (.int p2), .val (.int p3), .val (.int p4), .val (.int p5), .val (.int (v0_2 p0 p1 p2 p3 p4 p5)), .val (.ref b1), .val (.ref b51), .val (.ref b138), .unset, .unset, .unset] [(.int (6 : Int32)), (.ref b51), (.int (v0_15 p0 p1 p2 p3 p4 p5)), (.int (v0_14 p0 p1 p2 p3 p4 p5)), (.int (v0_13 p0 p1 p2 p3 p4 p5)), (.int (v0_12 p0 p1 p2 p3 p4 p5)), (.int (v0_11 p0 p1 p2 p3 p4 p5)), (.int (v0_10 p0 p1 p2 p3 p4 p5)), (.ref b161), (.ref b161)])) _
      refine X161.iaload hx (j := (6 : Int32)) (v := (.int (v0_16 p0 p1 p2 p3 p4 p5))) (by rw [e161]; exact Ar172.1) (State.isArrayOf_alike hZ.alike Ar172.2.1) Ar172.2.2 hin179 (Has.at Ha172 hin179 rfl) (g := (mkF m 274 #[.val (.int p0), .val (.int p1), .val (.int p2), .val (.int p3), .val (.int p4), .val (.int p5), .val (.int (v0_2 p0 p1 p2 p3 p4 p5)), .val (.ref b1), .val (.ref b51), .val (.ref b138), .unset, .unset, .unset] [(.int (6 : Int32)), (.ref b51), (.int (v0_15 p0 p1 p2 p3 p4 p5)), (.int (v0_14 p0 p1 p2 p3 p4 p5)), (.int (v0_13 p0 p1 p2 p3 p4 p5)), (.int (v0_12 p0 p1 p2 p3 p4 p5)), (.int (v0_11 p0 p1 p2 p3 p4 p5)), (.int (v0_10 p0 p1 p2 p3 p4 p5)), (.ref b161), (.ref b161)])) rfl rfl (hb hby at_274) _ ?_
      show Steps p.tables e below (T161.setTop (mkF m 275 #[.val (.int p0), .val (.int p1), .val (.int p2), .val (.int p3), .val (.int p4), .val (.int p5), .val (.int (v0_2 p0 p1 p2 p3 p4 p5)), .val (.ref b1), .val (.ref b51), .val (.ref b138), .unset, .unset, .unset] [(.int (v0_16 p0 p1 p2 p3 p4 p5)), (.int (v0_15 p0 p1 p2 p3 p4 p5)), (.int (v0_14 p0 p1 p2 p3 p4 p5)), (.int (v0_13 p0 p1 p2 p3 p4 p5)), (.int (v0_12 p0 p1 p2 p3 p4 p5)), (.int (v0_11 p0 p1 p2 p3 p4 p5)), (.int (v0_10 p0 p1 p2 p3 p4 p5)), (.ref b161), (.ref b161)])) _
      refine XS.aload X161.here hx rfl (hb hby at_275) rfl rfl ?_
      show Steps p.tables e below (T161.setTop (mkF m 277 #[.val (.int p0), .val (.int p1), .val (.int p2), .val (.int p3), .val (.int p4), .val (.int p5), .val (.int (v0_2 p0 p1 p2 p3 p4 p5)), .val (.ref b1), .val (.ref b51), .val (.ref b138), .unset, .unset, .unset] [(.ref b51), (.int (v0_16 p0 p1 p2 p3 p4 p5)), (.int (v0_15 p0 p1 p2 p3 p4 p5)), (.int (v0_14 p0 p1 p2 p3 p4 p5)), (.int (v0_13 p0 p1 p2 p3 p4 p5)), (.int (v0_12 p0 p1 p2 p3 p4 p5)), (.int (v0_11 p0 p1 p2 p3 p4 p5)), (.int (v0_10 p0 p1 p2 p3 p4 p5)), (.ref b161), (.ref b161)])) _
      refine XT.bipushV X161.here hx rfl (7 : Int32) (hb hby at_277) (by decide) ?_
      show Steps p.tables e below (T161.setTop (mkF m 279 #[.val (.int p0), .val (.int p1), .val (.int p2), .val (.int p3), .val (.int p4), .val (.int p5), .val (.int (v0_2 p0 p1 p2 p3 p4 p5)), .val (.ref b1), .val (.ref b51), .val (.ref b138), .unset, .unset, .unset] [(.int (7 : Int32)), (.ref b51), (.int (v0_16 p0 p1 p2 p3 p4 p5)), (.int (v0_15 p0 p1 p2 p3 p4 p5)), (.int (v0_14 p0 p1 p2 p3 p4 p5)), (.int (v0_13 p0 p1 p2 p3 p4 p5)), (.int (v0_12 p0 p1 p2 p3 p4 p5)), (.int (v0_11 p0 p1 p2 p3 p4 p5)), (.int (v0_10 p0 p1 p2 p3 p4 p5)), (.ref b161), (.ref b161)])) _
      refine X161.iaload hx (j := (7 : Int32)) (v := (.int (v0_17 p0 p1 p2 p3 p4 p5))) (by rw [e161]; exact Ar172.1) (State.isArrayOf_alike hZ.alike Ar172.2.1) Ar172.2.2 hin180 (Has.at Ha172 hin180 rfl) (g := (mkF m 279 #[.val (.int p0), .val (.int p1), .val (.int p2), .val (.int p3), .val (.int p4), .val (.int p5), .val (.int (v0_2 p0 p1 p2 p3 p4 p5)), .val (.ref b1), .val (.ref b51), .val (.ref b138), .unset, .unset, .unset] [(.int (7 : Int32)), (.ref b51), (.int (v0_16 p0 p1 p2 p3 p4 p5)), (.int (v0_15 p0 p1 p2 p3 p4 p5)), (.int (v0_14 p0 p1 p2 p3 p4 p5)), (.int (v0_13 p0 p1 p2 p3 p4 p5)), (.int (v0_12 p0 p1 p2 p3 p4 p5)), (.int (v0_11 p0 p1 p2 p3 p4 p5)), (.int (v0_10 p0 p1 p2 p3 p4 p5)), (.ref b161), (.ref b161)])) rfl rfl (hb hby at_279) _ ?_
      show Steps p.tables e below (T161.setTop (mkF m 280 #[.val (.int p0), .val (.int p1), .val (.int p2), .val (.int p3), .val (.int p4), .val (.int p5), .val (.int (v0_2 p0 p1 p2 p3 p4 p5)), .val (.ref b1), .val (.ref b51), .val (.ref b138), .unset, .unset, .unset] [(.int (v0_17 p0 p1 p2 p3 p4 p5)), (.int (v0_16 p0 p1 p2 p3 p4 p5)), (.int (v0_15 p0 p1 p2 p3 p4 p5)), (.int (v0_14 p0 p1 p2 p3 p4 p5)), (.int (v0_13 p0 p1 p2 p3 p4 p5)), (.int (v0_12 p0 p1 p2 p3 p4 p5)), (.int (v0_11 p0 p1 p2 p3 p4 p5)), (.int (v0_10 p0 p1 p2 p3 p4 p5)), (.ref b161), (.ref b161)])) _
      refine XS.aload X161.here hx rfl (hb hby at_280) rfl rfl ?_
      show Steps p.tables e below (T161.setTop (mkF m 282 #[.val (.int p0), .val (.int p1), .val (.int p2), .val (.int p3), .val (.int p4), .val (.int p5), .val (.int (v0_2 p0 p1 p2 p3 p4 p5)), .val (.ref b1), .val (.ref b51), .val (.ref b138), .unset, .unset, .unset] [(.ref b51), (.int (v0_17 p0 p1 p2 p3 p4 p5)), (.int (v0_16 p0 p1 p2 p3 p4 p5)), (.int (v0_15 p0 p1 p2 p3 p4 p5)), (.int (v0_14 p0 p1 p2 p3 p4 p5)), (.int (v0_13 p0 p1 p2 p3 p4 p5)), (.int (v0_12 p0 p1 p2 p3 p4 p5)), (.int (v0_11 p0 p1 p2 p3 p4 p5)), (.int (v0_10 p0 p1 p2 p3 p4 p5)), (.ref b161), (.ref b161)])) _
      refine XT.bipushV X161.here hx rfl (8 : Int32) (hb hby at_282) (by decide) ?_
      show Steps p.tables e below (T161.setTop (mkF m 284 #[.val (.int p0), .val (.int p1), .val (.int p2), .val (.int p3), .val (.int p4), .val (.int p5), .val (.int (v0_2 p0 p1 p2 p3 p4 p5)), .val (.ref b1), .val (.ref b51), .val (.ref b138), .unset, .unset, .unset] [(.int (8 : Int32)), (.ref b51), (.int (v0_17 p0 p1 p2 p3 p4 p5)), (.int (v0_16 p0 p1 p2 p3 p4 p5)), (.int (v0_15 p0 p1 p2 p3 p4 p5)), (.int (v0_14 p0 p1 p2 p3 p4 p5)), (.int (v0_13 p0 p1 p2 p3 p4 p5)), (.int (v0_12 p0 p1 p2 p3 p4 p5)), (.int (v0_11 p0 p1 p2 p3 p4 p5)), (.int (v0_10 p0 p1 p2 p3 p4 p5)), (.ref b161), (.ref b161)])) _
      refine X161.iaload hx (j := (8 : Int32)) (v := (.int (v0_18 p0 p1 p2 p3 p4 p5))) (by rw [e161]; exact Ar172.1) (State.isArrayOf_alike hZ.alike Ar172.2.1) Ar172.2.2 hin181 (Has.at Ha172 hin181 rfl) (g := (mkF m 284 #[.val (.int p0), .val (.int p1), .val (.int p2), .val (.int p3), .val (.int p4), .val (.int p5), .val (.int (v0_2 p0 p1 p2 p3 p4 p5)), .val (.ref b1), .val (.ref b51), .val (.ref b138), .unset, .unset, .unset] [(.int (8 : Int32)), (.ref b51), (.int (v0_17 p0 p1 p2 p3 p4 p5)), (.int (v0_16 p0 p1 p2 p3 p4 p5)), (.int (v0_15 p0 p1 p2 p3 p4 p5)), (.int (v0_14 p0 p1 p2 p3 p4 p5)), (.int (v0_13 p0 p1 p2 p3 p4 p5)), (.int (v0_12 p0 p1 p2 p3 p4 p5)), (.int (v0_11 p0 p1 p2 p3 p4 p5)), (.int (v0_10 p0 p1 p2 p3 p4 p5)), (.ref b161), (.ref b161)])) rfl rfl (hb hby at_284) _ ?_
      show Steps p.tables e below (T161.setTop (mkF m 285 #[.val (.int p0), .val (.int p1), .val (.int p2), .val (.int p3), .val (.int p4), .val (.int p5), .val (.int (v0_2 p0 p1 p2 p3 p4 p5)), .val (.ref b1), .val (.ref b51), .val (.ref b138), .unset, .unset, .unset] [(.int (v0_18 p0 p1 p2 p3 p4 p5)), (.int (v0_17 p0 p1 p2 p3 p4 p5)), (.int (v0_16 p0 p1 p2 p3 p4 p5)), (.int (v0_15 p0 p1 p2 p3 p4 p5)), (.int (v0_14 p0 p1 p2 p3 p4 p5)), (.int (v0_13 p0 p1 p2 p3 p4 p5)), (.int (v0_12 p0 p1 p2 p3 p4 p5)), (.int (v0_11 p0 p1 p2 p3 p4 p5)), (.int (v0_10 p0 p1 p2 p3 p4 p5)), (.ref b161), (.ref b161)])) _
      refine st182.trans ?_
      show Steps p.tables e below (T182.setTop (mkF m 288 #[.val (.int p0), .val (.int p1), .val (.int p2), .val (.int p3), .val (.int p4), .val (.int p5), .val (.int (v0_2 p0 p1 p2 p3 p4 p5)), .val (.ref b1), .val (.ref b51), .val (.ref b138), .unset, .unset, .unset] [(.ref b161)])) _
      refine XS.astore X182.here hx rfl (hb hby at_288) rfl rfl (l' := #[.val (.int p0), .val (.int p1), .val (.int p2), .val (.int p3), .val (.int p4), .val (.int p5), .val (.int (v0_2 p0 p1 p2 p3 p4 p5)), .val (.ref b1), .val (.ref b51), .val (.ref b138), .val (.ref b161), .unset, .unset]) rfl ?_
      show Steps p.tables e below (T182.setTop (mkF m 290 #[.val (.int p0), .val (.int p1), .val (.int p2), .val (.int p3), .val (.int p4), .val (.int p5), .val (.int (v0_2 p0 p1 p2 p3 p4 p5)), .val (.ref b1), .val (.ref b51), .val (.ref b138), .val (.ref b161), .unset, .unset] [])) _
      refine XS.iload X182.here hx rfl (hb hby at_290) rfl ?_
      show Steps p.tables e below (T182.setTop (mkF m 292 #[.val (.int p0), .val (.int p1), .val (.int p2), .val (.int p3), .val (.int p4), .val (.int p5), .val (.int (v0_2 p0 p1 p2 p3 p4 p5)), .val (.ref b1), .val (.ref b51), .val (.ref b138), .val (.ref b161), .unset, .unset] [(.int (v0_2 p0 p1 p2 p3 p4 p5))])) _
      refine XT.iconstV X182.here hx rfl (1 : Int32) (hb hby at_292) (by decide) ?_
      exact k
    clear pre136 st138 st158 st161 st182
    have pre191 : ∀ t, Steps p.tables e below (T182.setTop (mkF m 313 #[.val (.int p0), .val (.int p1), .val (.int p2), .val (.int p3), .val (.int p4), .val (.int p5), .val (.int (v0_2 p0 p1 p2 p3 p4 p5)), .val (.ref b1), .val (.ref b51), .val (.ref b138), .val (.ref b161), .unset, .unset] [(.int (v0_20 p0 p1 p2 p3 p4 p5))])) t → Steps p.tables e below (s₁.setTop (entryFrame m #[(.int p0), (.int p1), (.int p2), (.int p3), (.int p4), (.int p5)] maxLocals)) t := by
      intro t k
      by_cases c186 : (v0_2 p0 p1 p2 p3 p4 p5) = (1 : Int32)
      · skip
        rw [show (v0_20 p0 p1 p2 p3 p4 p5) = (1 : Int32) from (if_pos c186)] at k
        refine pre185 t ?_
        show Steps p.tables e below (T182.setTop (mkF m 293 #[.val (.int p0), .val (.int p1), .val (.int p2), .val (.int p3), .val (.int p4), .val (.int p5), .val (.int (v0_2 p0 p1 p2 p3 p4 p5)), .val (.ref b1), .val (.ref b51), .val (.ref b138), .val (.ref b161), .unset, .unset] [(.int (1 : Int32)), (.int (v0_2 p0 p1 p2 p3 p4 p5))])) _
        refine XS.icmpYes X182.here hx rfl (pc0 := 293) (pc' := 308) rfl (hb hby at_293) rfl (XT.ii_eq_t c186) (by decide) (by decide) ?_
        show Steps p.tables e below (T182.setTop (mkF m 308 #[.val (.int p0), .val (.int p1), .val (.int p2), .val (.int p3), .val (.int p4), .val (.int p5), .val (.int (v0_2 p0 p1 p2 p3 p4 p5)), .val (.ref b1), .val (.ref b51), .val (.ref b138), .val (.ref b161), .unset, .unset] [])) _
        refine XT.iconstV X182.here hx rfl (1 : Int32) (hb hby at_308) (by decide) ?_
        show Steps p.tables e below (T182.setTop (mkF m 309 #[.val (.int p0), .val (.int p1), .val (.int p2), .val (.int p3), .val (.int p4), .val (.int p5), .val (.int (v0_2 p0 p1 p2 p3 p4 p5)), .val (.ref b1), .val (.ref b51), .val (.ref b138), .val (.ref b161), .unset, .unset] [(.int (1 : Int32))])) _
        refine XS.goto X182.here hx rfl (pc0 := 309) (pc' := 313) rfl (hb hby at_309) (by decide) (by decide) ?_
        exact k
      · skip
        have pre187 : ∀ t, Steps p.tables e below (T182.setTop (mkF m 299 #[.val (.int p0), .val (.int p1), .val (.int p2), .val (.int p3), .val (.int p4), .val (.int p5), .val (.int (v0_2 p0 p1 p2 p3 p4 p5)), .val (.ref b1), .val (.ref b51), .val (.ref b138), .val (.ref b161), .unset, .unset] [(.int (3 : Int32)), (.int (v0_2 p0 p1 p2 p3 p4 p5))])) t → Steps p.tables e below (s₁.setTop (entryFrame m #[(.int p0), (.int p1), (.int p2), (.int p3), (.int p4), (.int p5)] maxLocals)) t := by
          intro t k
          refine pre185 t ?_
          show Steps p.tables e below (T182.setTop (mkF m 293 #[.val (.int p0), .val (.int p1), .val (.int p2), .val (.int p3), .val (.int p4), .val (.int p5), .val (.int (v0_2 p0 p1 p2 p3 p4 p5)), .val (.ref b1), .val (.ref b51), .val (.ref b138), .val (.ref b161), .unset, .unset] [(.int (1 : Int32)), (.int (v0_2 p0 p1 p2 p3 p4 p5))])) _
          refine XS.icmpNo X182.here hx rfl (hb hby at_293) rfl (XT.ii_eq_f c186) ?_
          show Steps p.tables e below (T182.setTop (mkF m 296 #[.val (.int p0), .val (.int p1), .val (.int p2), .val (.int p3), .val (.int p4), .val (.int p5), .val (.int (v0_2 p0 p1 p2 p3 p4 p5)), .val (.ref b1), .val (.ref b51), .val (.ref b138), .val (.ref b161), .unset, .unset] [])) _
          refine XS.iload X182.here hx rfl (hb hby at_296) rfl ?_
          show Steps p.tables e below (T182.setTop (mkF m 298 #[.val (.int p0), .val (.int p1), .val (.int p2), .val (.int p3), .val (.int p4), .val (.int p5), .val (.int (v0_2 p0 p1 p2 p3 p4 p5)), .val (.ref b1), .val (.ref b51), .val (.ref b138), .val (.ref b161), .unset, .unset] [(.int (v0_2 p0 p1 p2 p3 p4 p5))])) _
          refine XT.iconstV X182.here hx rfl (3 : Int32) (hb hby at_298) (by decide) ?_
          exact k
        clear pre185
        by_cases c188 : (v0_2 p0 p1 p2 p3 p4 p5) = (3 : Int32)
        · skip
          rw [show (v0_20 p0 p1 p2 p3 p4 p5) = (1 : Int32) from ((if_neg c186).trans (if_pos c188))] at k
          refine pre187 t ?_
          show Steps p.tables e below (T182.setTop (mkF m 299 #[.val (.int p0), .val (.int p1), .val (.int p2), .val (.int p3), .val (.int p4), .val (.int p5), .val (.int (v0_2 p0 p1 p2 p3 p4 p5)), .val (.ref b1), .val (.ref b51), .val (.ref b138), .val (.ref b161), .unset, .unset] [(.int (3 : Int32)), (.int (v0_2 p0 p1 p2 p3 p4 p5))])) _
          refine XS.icmpYes X182.here hx rfl (pc0 := 299) (pc' := 308) rfl (hb hby at_299) rfl (XT.ii_eq_t c188) (by decide) (by decide) ?_
          show Steps p.tables e below (T182.setTop (mkF m 308 #[.val (.int p0), .val (.int p1), .val (.int p2), .val (.int p3), .val (.int p4), .val (.int p5), .val (.int (v0_2 p0 p1 p2 p3 p4 p5)), .val (.ref b1), .val (.ref b51), .val (.ref b138), .val (.ref b161), .unset, .unset] [])) _
          refine XT.iconstV X182.here hx rfl (1 : Int32) (hb hby at_308) (by decide) ?_
          show Steps p.tables e below (T182.setTop (mkF m 309 #[.val (.int p0), .val (.int p1), .val (.int p2), .val (.int p3), .val (.int p4), .val (.int p5), .val (.int (v0_2 p0 p1 p2 p3 p4 p5)), .val (.ref b1), .val (.ref b51), .val (.ref b138), .val (.ref b161), .unset, .unset] [(.int (1 : Int32))])) _
          refine XS.goto X182.here hx rfl (pc0 := 309) (pc' := 313) rfl (hb hby at_309) (by decide) (by decide) ?_
          exact k
        · skip
          have pre189 : ∀ t, Steps p.tables e below (T182.setTop (mkF m 305 #[.val (.int p0), .val (.int p1), .val (.int p2), .val (.int p3), .val (.int p4), .val (.int p5), .val (.int (v0_2 p0 p1 p2 p3 p4 p5)), .val (.ref b1), .val (.ref b51), .val (.ref b138), .val (.ref b161), .unset, .unset] [(.int (4 : Int32)), (.int (v0_2 p0 p1 p2 p3 p4 p5))])) t → Steps p.tables e below (s₁.setTop (entryFrame m #[(.int p0), (.int p1), (.int p2), (.int p3), (.int p4), (.int p5)] maxLocals)) t := by
            intro t k
            refine pre187 t ?_
            show Steps p.tables e below (T182.setTop (mkF m 299 #[.val (.int p0), .val (.int p1), .val (.int p2), .val (.int p3), .val (.int p4), .val (.int p5), .val (.int (v0_2 p0 p1 p2 p3 p4 p5)), .val (.ref b1), .val (.ref b51), .val (.ref b138), .val (.ref b161), .unset, .unset] [(.int (3 : Int32)), (.int (v0_2 p0 p1 p2 p3 p4 p5))])) _
            refine XS.icmpNo X182.here hx rfl (hb hby at_299) rfl (XT.ii_eq_f c188) ?_
            show Steps p.tables e below (T182.setTop (mkF m 302 #[.val (.int p0), .val (.int p1), .val (.int p2), .val (.int p3), .val (.int p4), .val (.int p5), .val (.int (v0_2 p0 p1 p2 p3 p4 p5)), .val (.ref b1), .val (.ref b51), .val (.ref b138), .val (.ref b161), .unset, .unset] [])) _
            refine XS.iload X182.here hx rfl (hb hby at_302) rfl ?_
            show Steps p.tables e below (T182.setTop (mkF m 304 #[.val (.int p0), .val (.int p1), .val (.int p2), .val (.int p3), .val (.int p4), .val (.int p5), .val (.int (v0_2 p0 p1 p2 p3 p4 p5)), .val (.ref b1), .val (.ref b51), .val (.ref b138), .val (.ref b161), .unset, .unset] [(.int (v0_2 p0 p1 p2 p3 p4 p5))])) _
            refine XT.iconstV X182.here hx rfl (4 : Int32) (hb hby at_304) (by decide) ?_
            exact k
          clear pre187
          by_cases c190 : (v0_2 p0 p1 p2 p3 p4 p5) = (4 : Int32)
          · skip
            rw [show (v0_20 p0 p1 p2 p3 p4 p5) = (1 : Int32) from (((if_neg c186).trans (if_neg c188)).trans (if_pos c190))] at k
            refine pre189 t ?_
            show Steps p.tables e below (T182.setTop (mkF m 305 #[.val (.int p0), .val (.int p1), .val (.int p2), .val (.int p3), .val (.int p4), .val (.int p5), .val (.int (v0_2 p0 p1 p2 p3 p4 p5)), .val (.ref b1), .val (.ref b51), .val (.ref b138), .val (.ref b161), .unset, .unset] [(.int (4 : Int32)), (.int (v0_2 p0 p1 p2 p3 p4 p5))])) _
            refine XS.icmpNo X182.here hx rfl (hb hby at_305) rfl (XT.ii_ne_f c190) ?_
            show Steps p.tables e below (T182.setTop (mkF m 308 #[.val (.int p0), .val (.int p1), .val (.int p2), .val (.int p3), .val (.int p4), .val (.int p5), .val (.int (v0_2 p0 p1 p2 p3 p4 p5)), .val (.ref b1), .val (.ref b51), .val (.ref b138), .val (.ref b161), .unset, .unset] [])) _
            refine XT.iconstV X182.here hx rfl (1 : Int32) (hb hby at_308) (by decide) ?_
            show Steps p.tables e below (T182.setTop (mkF m 309 #[.val (.int p0), .val (.int p1), .val (.int p2), .val (.int p3), .val (.int p4), .val (.int p5), .val (.int (v0_2 p0 p1 p2 p3 p4 p5)), .val (.ref b1), .val (.ref b51), .val (.ref b138), .val (.ref b161), .unset, .unset] [(.int (1 : Int32))])) _
            refine XS.goto X182.here hx rfl (pc0 := 309) (pc' := 313) rfl (hb hby at_309) (by decide) (by decide) ?_
            exact k
          · skip
            rw [show (v0_20 p0 p1 p2 p3 p4 p5) = (0 : Int32) from (((if_neg c186).trans (if_neg c188)).trans (if_neg c190))] at k
            refine pre189 t ?_
            show Steps p.tables e below (T182.setTop (mkF m 305 #[.val (.int p0), .val (.int p1), .val (.int p2), .val (.int p3), .val (.int p4), .val (.int p5), .val (.int (v0_2 p0 p1 p2 p3 p4 p5)), .val (.ref b1), .val (.ref b51), .val (.ref b138), .val (.ref b161), .unset, .unset] [(.int (4 : Int32)), (.int (v0_2 p0 p1 p2 p3 p4 p5))])) _
            refine XS.icmpYes X182.here hx rfl (pc0 := 305) (pc' := 312) rfl (hb hby at_305) rfl (XT.ii_ne_t c190) (by decide) (by decide) ?_
            show Steps p.tables e below (T182.setTop (mkF m 312 #[.val (.int p0), .val (.int p1), .val (.int p2), .val (.int p3), .val (.int p4), .val (.int p5), .val (.int (v0_2 p0 p1 p2 p3 p4 p5)), .val (.ref b1), .val (.ref b51), .val (.ref b138), .val (.ref b161), .unset, .unset] [])) _
            refine XT.iconstV X182.here hx rfl (0 : Int32) (hb hby at_312) (by decide) ?_
            exact k
    have pre192 : ∀ t, Steps p.tables e below (T182.setTop (mkF m 317 #[.val (.int p0), .val (.int p1), .val (.int p2), .val (.int p3), .val (.int p4), .val (.int p5), .val (.int (v0_2 p0 p1 p2 p3 p4 p5)), .val (.ref b1), .val (.ref b51), .val (.ref b138), .val (.ref b161), .val (.int (v0_20 p0 p1 p2 p3 p4 p5)), .unset] [(.int p4)])) t → Steps p.tables e below (s₁.setTop (entryFrame m #[(.int p0), (.int p1), (.int p2), (.int p3), (.int p4), (.int p5)] maxLocals)) t := by
      intro t k
      refine pre191 t ?_
      show Steps p.tables e below (T182.setTop (mkF m 313 #[.val (.int p0), .val (.int p1), .val (.int p2), .val (.int p3), .val (.int p4), .val (.int p5), .val (.int (v0_2 p0 p1 p2 p3 p4 p5)), .val (.ref b1), .val (.ref b51), .val (.ref b138), .val (.ref b161), .unset, .unset] [(.int (v0_20 p0 p1 p2 p3 p4 p5))])) _
      refine XS.istore X182.here hx rfl (hb hby at_313) rfl (l' := #[.val (.int p0), .val (.int p1), .val (.int p2), .val (.int p3), .val (.int p4), .val (.int p5), .val (.int (v0_2 p0 p1 p2 p3 p4 p5)), .val (.ref b1), .val (.ref b51), .val (.ref b138), .val (.ref b161), .val (.int (v0_20 p0 p1 p2 p3 p4 p5)), .unset]) rfl ?_
      show Steps p.tables e below (T182.setTop (mkF m 315 #[.val (.int p0), .val (.int p1), .val (.int p2), .val (.int p3), .val (.int p4), .val (.int p5), .val (.int (v0_2 p0 p1 p2 p3 p4 p5)), .val (.ref b1), .val (.ref b51), .val (.ref b138), .val (.ref b161), .val (.int (v0_20 p0 p1 p2 p3 p4 p5)), .unset] [])) _
      refine XS.iload X182.here hx rfl (hb hby at_315) rfl ?_
      exact k
    clear pre191
    have pre196 : ∀ t, Steps p.tables e below (T182.setTop (mkF m 330 #[.val (.int p0), .val (.int p1), .val (.int p2), .val (.int p3), .val (.int p4), .val (.int p5), .val (.int (v0_2 p0 p1 p2 p3 p4 p5)), .val (.ref b1), .val (.ref b51), .val (.ref b138), .val (.ref b161), .val (.int (v0_20 p0 p1 p2 p3 p4 p5)), .unset] [(.int (v0_21 p0 p1 p2 p3 p4 p5))])) t → Steps p.tables e below (s₁.setTop (entryFrame m #[(.int p0), (.int p1), (.int p2), (.int p3), (.int p4), (.int p5)] maxLocals)) t := by
      intro t k
      by_cases c193 : p4 = (0 : Int32)
      · skip
        rw [show (v0_21 p0 p1 p2 p3 p4 p5) = (1 : Int32) from (if_pos c193)] at k
        refine pre192 t ?_
        show Steps p.tables e below (T182.setTop (mkF m 317 #[.val (.int p0), .val (.int p1), .val (.int p2), .val (.int p3), .val (.int p4), .val (.int p5), .val (.int (v0_2 p0 p1 p2 p3 p4 p5)), .val (.ref b1), .val (.ref b51), .val (.ref b138), .val (.ref b161), .val (.int (v0_20 p0 p1 p2 p3 p4 p5)), .unset] [(.int p4)])) _
        refine XS.ifYes X182.here hx rfl (pc0 := 317) (pc' := 325) rfl (hb hby at_317) rfl (XT.i0_eq_t c193) (by decide) (by decide) ?_
        show Steps p.tables e below (T182.setTop (mkF m 325 #[.val (.int p0), .val (.int p1), .val (.int p2), .val (.int p3), .val (.int p4), .val (.int p5), .val (.int (v0_2 p0 p1 p2 p3 p4 p5)), .val (.ref b1), .val (.ref b51), .val (.ref b138), .val (.ref b161), .val (.int (v0_20 p0 p1 p2 p3 p4 p5)), .unset] [])) _
        refine XT.iconstV X182.here hx rfl (1 : Int32) (hb hby at_325) (by decide) ?_
        show Steps p.tables e below (T182.setTop (mkF m 326 #[.val (.int p0), .val (.int p1), .val (.int p2), .val (.int p3), .val (.int p4), .val (.int p5), .val (.int (v0_2 p0 p1 p2 p3 p4 p5)), .val (.ref b1), .val (.ref b51), .val (.ref b138), .val (.ref b161), .val (.int (v0_20 p0 p1 p2 p3 p4 p5)), .unset] [(.int (1 : Int32))])) _
        refine XS.goto X182.here hx rfl (pc0 := 326) (pc' := 330) rfl (hb hby at_326) (by decide) (by decide) ?_
        exact k
      · skip
        have pre194 : ∀ t, Steps p.tables e below (T182.setTop (mkF m 322 #[.val (.int p0), .val (.int p1), .val (.int p2), .val (.int p3), .val (.int p4), .val (.int p5), .val (.int (v0_2 p0 p1 p2 p3 p4 p5)), .val (.ref b1), .val (.ref b51), .val (.ref b138), .val (.ref b161), .val (.int (v0_20 p0 p1 p2 p3 p4 p5)), .unset] [(.int (v0_20 p0 p1 p2 p3 p4 p5))])) t → Steps p.tables e below (s₁.setTop (entryFrame m #[(.int p0), (.int p1), (.int p2), (.int p3), (.int p4), (.int p5)] maxLocals)) t := by
          intro t k
          refine pre192 t ?_
          show Steps p.tables e below (T182.setTop (mkF m 317 #[.val (.int p0), .val (.int p1), .val (.int p2), .val (.int p3), .val (.int p4), .val (.int p5), .val (.int (v0_2 p0 p1 p2 p3 p4 p5)), .val (.ref b1), .val (.ref b51), .val (.ref b138), .val (.ref b161), .val (.int (v0_20 p0 p1 p2 p3 p4 p5)), .unset] [(.int p4)])) _
          refine XS.ifNo X182.here hx rfl (hb hby at_317) rfl (XT.i0_eq_f c193) ?_
          show Steps p.tables e below (T182.setTop (mkF m 320 #[.val (.int p0), .val (.int p1), .val (.int p2), .val (.int p3), .val (.int p4), .val (.int p5), .val (.int (v0_2 p0 p1 p2 p3 p4 p5)), .val (.ref b1), .val (.ref b51), .val (.ref b138), .val (.ref b161), .val (.int (v0_20 p0 p1 p2 p3 p4 p5)), .unset] [])) _
          refine XS.iload X182.here hx rfl (hb hby at_320) rfl ?_
          exact k
        clear pre192
        by_cases c195 : (v0_20 p0 p1 p2 p3 p4 p5) = (0 : Int32)
        · skip
          rw [show (v0_21 p0 p1 p2 p3 p4 p5) = (0 : Int32) from ((if_neg c193).trans (if_pos c195))] at k
          refine pre194 t ?_
          show Steps p.tables e below (T182.setTop (mkF m 322 #[.val (.int p0), .val (.int p1), .val (.int p2), .val (.int p3), .val (.int p4), .val (.int p5), .val (.int (v0_2 p0 p1 p2 p3 p4 p5)), .val (.ref b1), .val (.ref b51), .val (.ref b138), .val (.ref b161), .val (.int (v0_20 p0 p1 p2 p3 p4 p5)), .unset] [(.int (v0_20 p0 p1 p2 p3 p4 p5))])) _
          refine XS.ifYes X182.here hx rfl (pc0 := 322) (pc' := 329) rfl (hb hby at_322) rfl (XT.i0_eq_t c195) (by decide) (by decide) ?_
          show Steps p.tables e below (T182.setTop (mkF m 329 #[.val (.int p0), .val (.int p1), .val (.int p2), .val (.int p3), .val (.int p4), .val (.int p5), .val (.int (v0_2 p0 p1 p2 p3 p4 p5)), .val (.ref b1), .val (.ref b51), .val (.ref b138), .val (.ref b161), .val (.int (v0_20 p0 p1 p2 p3 p4 p5)), .unset] [])) _
          refine XT.iconstV X182.here hx rfl (0 : Int32) (hb hby at_329) (by decide) ?_
          exact k
        · skip
          rw [show (v0_21 p0 p1 p2 p3 p4 p5) = (1 : Int32) from ((if_neg c193).trans (if_neg c195))] at k
          refine pre194 t ?_
          show Steps p.tables e below (T182.setTop (mkF m 322 #[.val (.int p0), .val (.int p1), .val (.int p2), .val (.int p3), .val (.int p4), .val (.int p5), .val (.int (v0_2 p0 p1 p2 p3 p4 p5)), .val (.ref b1), .val (.ref b51), .val (.ref b138), .val (.ref b161), .val (.int (v0_20 p0 p1 p2 p3 p4 p5)), .unset] [(.int (v0_20 p0 p1 p2 p3 p4 p5))])) _
          refine XS.ifNo X182.here hx rfl (hb hby at_322) rfl (XT.i0_eq_f c195) ?_
          show Steps p.tables e below (T182.setTop (mkF m 325 #[.val (.int p0), .val (.int p1), .val (.int p2), .val (.int p3), .val (.int p4), .val (.int p5), .val (.int (v0_2 p0 p1 p2 p3 p4 p5)), .val (.ref b1), .val (.ref b51), .val (.ref b138), .val (.ref b161), .val (.int (v0_20 p0 p1 p2 p3 p4 p5)), .unset] [])) _
          refine XT.iconstV X182.here hx rfl (1 : Int32) (hb hby at_325) (by decide) ?_
          show Steps p.tables e below (T182.setTop (mkF m 326 #[.val (.int p0), .val (.int p1), .val (.int p2), .val (.int p3), .val (.int p4), .val (.int p5), .val (.int (v0_2 p0 p1 p2 p3 p4 p5)), .val (.ref b1), .val (.ref b51), .val (.ref b138), .val (.ref b161), .val (.int (v0_20 p0 p1 p2 p3 p4 p5)), .unset] [(.int (1 : Int32))])) _
          refine XS.goto X182.here hx rfl (pc0 := 326) (pc' := 330) rfl (hb hby at_326) (by decide) (by decide) ?_
          exact k
    have k198 := ((po158_1.ext E161).keep K182 (ninS ne166 nin0))
    have k199 := ((po158_3.ext E161).keep K182 (ninS ne166 nin0))
    have k200 := ((po158_6.ext E161).keep K182 (ninS ne166 nin0))
    have k201 := ((po158_7.ext E161).keep K182 (ninS ne166 nin0))
    have k202 := ((po158_8.ext E161).keep K182 (ninS ne166 nin0))
    have k203 := ((po158_9.ext E161).keep K182 (ninS ne166 nin0))
    have k204 := ((po158_0.ext E161).keep K182)
    obtain ⟨cq197, kq197, q197a, q197b, q197c⟩ := isOf hZ rfl k204
    obtain ⟨vr197, _, ⟨T197, L197, k197, n197⟩, -, X197, ⟨Lc197, hQ197, l197, y197, z197⟩, st197⟩ := X182.virtualBack hx (y := (⟨"com/example/ashlar/ashlar/worktree/StatData", "matches", "(Lcom/example/ashlar/ashlar/worktree/StatData;)Z"⟩ : MethodName)) (z := (⟨"com/example/ashlar/ashlar/worktree/StatData", "matches", "(Lcom/example/ashlar/ashlar/worktree/StatData;)Z"⟩ : MethodName)) hown (mvT hZ (hw _ (List.mem_of_getElem? (i := 34) rfl))) (mvT hZ (hw _ (List.mem_of_getElem? (i := 35) rfl))) (notFace_of_selects (args := #[]) (mvT hZ (hw _ (List.mem_of_getElem? (i := 37) rfl)))) (mvT hZ (hw _ (List.mem_of_getElem? (i := 37) rfl))) (mvT hZ (hw _ (List.mem_of_getElem? (i := 36) rfl))) (by decide) (backOf (W := 0) (rm4 l Z a0 hw [] b138 b161 p0 (v0_10 p0 p1 p2 p3 p4 p5) p2 (v0_12 p0 p1 p2 p3 p4 p5) (v0_5 p0 p1 p2 p3 p4 p5) (v0_15 p0 p1 p2 p3 p4 p5) (v0_6 p0 p1 p2 p3 p4 p5) (v0_16 p0 p1 p2 p3 p4 p5) (v0_7 p0 p1 p2 p3 p4 p5) (v0_17 p0 p1 p2 p3 p4 p5) (v0_8 p0 p1 p2 p3 p4 p5) (v0_18 p0 p1 p2 p3 p4 p5) T182.heap n0 z183 k198 po182_1 k199 po182_3 k200 po182_6 k201 po182_7 k202 po182_8 k203 po182_9) hZ (hw _ (List.mem_of_getElem? (i := 38) rfl)) (hw _ (List.mem_of_getElem? (i := 4) rfl)) (by decide) (by decide)) q197a q197c (g := (mkF m 336 #[.val (.int p0), .val (.int p1), .val (.int p2), .val (.int p3), .val (.int p4), .val (.int p5), .val (.int (v0_2 p0 p1 p2 p3 p4 p5)), .val (.ref b1), .val (.ref b51), .val (.ref b138), .val (.ref b161), .val (.int (v0_20 p0 p1 p2 p3 p4 p5)), .val (.int (v0_21 p0 p1 p2 p3 p4 p5))] [(.ref b161), (.ref b138)])) rfl (by rw [hml]; rfl) (Steps.refl _) (argsL := [(.ref b161)]) (rest := []) (lenOf pd__Lcom_example_ashlar_ashlar_worktree_StatData__Z rfl) rfl (by show 2 * 0 + _ ≤ _; exact Nat.le_of_eq rfl) (hb hby at_336) (fun _ _ => ⟨rfl, rfl, (by decide : 4 + 0 ≤ _), (by decide : 36 + 0 ≤ _)⟩)
    dsimp only [Pt.U, Pt.locs, Pt.cells, Pt.slots] at X197 l197 y197 z197 st197 hQ197
    replace X197 := own_stand X197 l197 y197 z197
    clear l197 y197 z197
    have N197q := (show _ ∧ _ ∧ _ from hQ197).1
    have hv197 := (show _ ∧ _ ∧ _ from hQ197).2.1
    have e197 := (show _ ∧ _ ∧ _ from hQ197).2.2
    clear hQ197
    subst hv197
    have N197 := Fr.app N182 N197q
    have pre205 : ∀ t, Steps p.tables e below (T197.setTop (mkF m 341 #[.val (.int p0), .val (.int p1), .val (.int p2), .val (.int p3), .val (.int p4), .val (.int p5), .val (.int (v0_2 p0 p1 p2 p3 p4 p5)), .val (.ref b1), .val (.ref b51), .val (.ref b138), .val (.ref b161), .val (.int (v0_20 p0 p1 p2 p3 p4 p5)), .val (.int (v0_21 p0 p1 p2 p3 p4 p5))] [(.int (v0_21 p0 p1 p2 p3 p4 p5)), (.int (f4 p0 (v0_10 p0 p1 p2 p3 p4 p5) p2 (v0_12 p0 p1 p2 p3 p4 p5) (v0_5 p0 p1 p2 p3 p4 p5) (v0_15 p0 p1 p2 p3 p4 p5) (v0_6 p0 p1 p2 p3 p4 p5) (v0_16 p0 p1 p2 p3 p4 p5) (v0_7 p0 p1 p2 p3 p4 p5) (v0_17 p0 p1 p2 p3 p4 p5) (v0_8 p0 p1 p2 p3 p4 p5) (v0_18 p0 p1 p2 p3 p4 p5)))])) t → Steps p.tables e below (s₁.setTop (entryFrame m #[(.int p0), (.int p1), (.int p2), (.int p3), (.int p4), (.int p5)] maxLocals)) t := by
      intro t k
      refine pre196 t ?_
      show Steps p.tables e below (T182.setTop (mkF m 330 #[.val (.int p0), .val (.int p1), .val (.int p2), .val (.int p3), .val (.int p4), .val (.int p5), .val (.int (v0_2 p0 p1 p2 p3 p4 p5)), .val (.ref b1), .val (.ref b51), .val (.ref b138), .val (.ref b161), .val (.int (v0_20 p0 p1 p2 p3 p4 p5)), .unset] [(.int (v0_21 p0 p1 p2 p3 p4 p5))])) _
      refine XS.istore X182.here hx rfl (hb hby at_330) rfl (l' := #[.val (.int p0), .val (.int p1), .val (.int p2), .val (.int p3), .val (.int p4), .val (.int p5), .val (.int (v0_2 p0 p1 p2 p3 p4 p5)), .val (.ref b1), .val (.ref b51), .val (.ref b138), .val (.ref b161), .val (.int (v0_20 p0 p1 p2 p3 p4 p5)), .val (.int (v0_21 p0 p1 p2 p3 p4 p5))]) rfl ?_
      show Steps p.tables e below (T182.setTop (mkF m 332 #[.val (.int p0), .val (.int p1), .val (.int p2), .val (.int p3), .val (.int p4), .val (.int p5), .val (.int (v0_2 p0 p1 p2 p3 p4 p5)), .val (.ref b1), .val (.ref b51), .val (.ref b138), .val (.ref b161), .val (.int (v0_20 p0 p1 p2 p3 p4 p5)), .val (.int (v0_21 p0 p1 p2 p3 p4 p5))] [])) _
      refine XS.aload X182.here hx rfl (hb hby at_332) rfl rfl ?_
      show Steps p.tables e below (T182.setTop (mkF m 334 #[.val (.int p0), .val (.int p1), .val (.int p2), .val (.int p3), .val (.int p4), .val (.int p5), .val (.int (v0_2 p0 p1 p2 p3 p4 p5)), .val (.ref b1), .val (.ref b51), .val (.ref b138), .val (.ref b161), .val (.int (v0_20 p0 p1 p2 p3 p4 p5)), .val (.int (v0_21 p0 p1 p2 p3 p4 p5))] [(.ref b138)])) _
      refine XS.aload X182.here hx rfl (hb hby at_334) rfl rfl ?_
      show Steps p.tables e below (T182.setTop (mkF m 336 #[.val (.int p0), .val (.int p1), .val (.int p2), .val (.int p3), .val (.int p4), .val (.int p5), .val (.int (v0_2 p0 p1 p2 p3 p4 p5)), .val (.ref b1), .val (.ref b51), .val (.ref b138), .val (.ref b161), .val (.int (v0_20 p0 p1 p2 p3 p4 p5)), .val (.int (v0_21 p0 p1 p2 p3 p4 p5))] [(.ref b161), (.ref b138)])) _
      refine st197.trans ?_
      show Steps p.tables e below (T197.setTop (mkF m 339 #[.val (.int p0), .val (.int p1), .val (.int p2), .val (.int p3), .val (.int p4), .val (.int p5), .val (.int (v0_2 p0 p1 p2 p3 p4 p5)), .val (.ref b1), .val (.ref b51), .val (.ref b138), .val (.ref b161), .val (.int (v0_20 p0 p1 p2 p3 p4 p5)), .val (.int (v0_21 p0 p1 p2 p3 p4 p5))] [(.int (f4 p0 (v0_10 p0 p1 p2 p3 p4 p5) p2 (v0_12 p0 p1 p2 p3 p4 p5) (v0_5 p0 p1 p2 p3 p4 p5) (v0_15 p0 p1 p2 p3 p4 p5) (v0_6 p0 p1 p2 p3 p4 p5) (v0_16 p0 p1 p2 p3 p4 p5) (v0_7 p0 p1 p2 p3 p4 p5) (v0_17 p0 p1 p2 p3 p4 p5) (v0_8 p0 p1 p2 p3 p4 p5) (v0_18 p0 p1 p2 p3 p4 p5)))])) _
      refine XS.iload X197.here hx rfl (hb hby at_339) rfl ?_
      exact k
    clear pre196 st197
    obtain ⟨T210, L210, X210, e210, N210, pre210⟩ : ∃ (T' : State) (L' : List Loc), Stand p l e room_1 s m #[(.int p0), (.int p1), (.int p2), (.int p3), (.int p4), (.int p5)] below meth c T' L' 4 36 ∧ T'.heap = T182.heap ∧ Fr n0 L' ∧ ∀ t, Steps p.tables e below (T'.setTop (mkF m 361 #[.val (.int p0), .val (.int p1), .val (.int p2), .val (.int p3), .val (.int p4), .val (.int p5), .val (.int (v0_2 p0 p1 p2 p3 p4 p5)), .val (.ref b1), .val (.ref b51), .val (.ref b138), .val (.ref b161), .val (.int (v0_20 p0 p1 p2 p3 p4 p5)), .val (.int (v0_21 p0 p1 p2 p3 p4 p5))] [(.int (v0_24 p0 p1 p2 p3 p4 p5))])) t → Steps p.tables e below (s₁.setTop (entryFrame m #[(.int p0), (.int p1), (.int p2), (.int p3), (.int p4), (.int p5)] maxLocals)) t := by
      by_cases c206 : (v0_22 p0 p1 p2 p3 p4 p5) = (v0_21 p0 p1 p2 p3 p4 p5)
      · skip
        obtain ⟨cq207, kq207, q207a, q207b, q207c⟩ := isOf hZ e197 po182_0
        obtain ⟨vr207, _, ⟨T207, L207, k207, n207⟩, -, X207, ⟨Lc207, hQ207, l207, y207, z207⟩, st207⟩ := X197.virtualBack hx (y := (⟨"com/example/ashlar/ashlar/worktree/StatData", "matches", "(Lcom/example/ashlar/ashlar/worktree/StatData;)Z"⟩ : MethodName)) (z := (⟨"com/example/ashlar/ashlar/worktree/StatData", "matches", "(Lcom/example/ashlar/ashlar/worktree/StatData;)Z"⟩ : MethodName)) hown (mvT hZ (hw _ (List.mem_of_getElem? (i := 34) rfl))) (mvT hZ (hw _ (List.mem_of_getElem? (i := 35) rfl))) (notFace_of_selects (args := #[]) (mvT hZ (hw _ (List.mem_of_getElem? (i := 37) rfl)))) (mvT hZ (hw _ (List.mem_of_getElem? (i := 37) rfl))) (mvT hZ (hw _ (List.mem_of_getElem? (i := 36) rfl))) (by decide) (backOf (W := 0) (rm4 l Z a0 hw [] b161 b138 (v0_10 p0 p1 p2 p3 p4 p5) p0 (v0_12 p0 p1 p2 p3 p4 p5) p2 (v0_15 p0 p1 p2 p3 p4 p5) (v0_5 p0 p1 p2 p3 p4 p5) (v0_16 p0 p1 p2 p3 p4 p5) (v0_6 p0 p1 p2 p3 p4 p5) (v0_17 p0 p1 p2 p3 p4 p5) (v0_7 p0 p1 p2 p3 p4 p5) (v0_18 p0 p1 p2 p3 p4 p5) (v0_8 p0 p1 p2 p3 p4 p5) T182.heap n0 z183 po182_1 k198 po182_3 k199 po182_6 k200 po182_7 k201 po182_8 k202 po182_9 k203) hZ (hw _ (List.mem_of_getElem? (i := 38) rfl)) (hw _ (List.mem_of_getElem? (i := 4) rfl)) (by decide) (by decide)) q207a q207c (g := (mkF m 348 #[.val (.int p0), .val (.int p1), .val (.int p2), .val (.int p3), .val (.int p4), .val (.int p5), .val (.int (v0_2 p0 p1 p2 p3 p4 p5)), .val (.ref b1), .val (.ref b51), .val (.ref b138), .val (.ref b161), .val (.int (v0_20 p0 p1 p2 p3 p4 p5)), .val (.int (v0_21 p0 p1 p2 p3 p4 p5))] [(.ref b138), (.ref b161)])) rfl (by rw [hml]; rfl) (Steps.refl _) (argsL := [(.ref b138)]) (rest := []) (lenOf pd__Lcom_example_ashlar_ashlar_worktree_StatData__Z rfl) rfl (by show 2 * 0 + _ ≤ _; exact Nat.le_of_eq rfl) (hb hby at_348) (fun _ _ => ⟨rfl, e197, (by decide : 4 + 0 ≤ _), (by decide : 36 + 0 ≤ _)⟩)
        dsimp only [Pt.U, Pt.locs, Pt.cells, Pt.slots] at X207 l207 y207 z207 st207 hQ207
        replace X207 := own_stand X207 l207 y207 z207
        clear l207 y207 z207
        have N207q := (show _ ∧ _ ∧ _ from hQ207).1
        have hv207 := (show _ ∧ _ ∧ _ from hQ207).2.1
        have e207 := (show _ ∧ _ ∧ _ from hQ207).2.2
        clear hQ207
        subst hv207
        have N207 := Fr.app N197 N207q
        have pre208 : ∀ t, Steps p.tables e below (T207.setTop (mkF m 353 #[.val (.int p0), .val (.int p1), .val (.int p2), .val (.int p3), .val (.int p4), .val (.int p5), .val (.int (v0_2 p0 p1 p2 p3 p4 p5)), .val (.ref b1), .val (.ref b51), .val (.ref b138), .val (.ref b161), .val (.int (v0_20 p0 p1 p2 p3 p4 p5)), .val (.int (v0_21 p0 p1 p2 p3 p4 p5))] [(.int (v0_21 p0 p1 p2 p3 p4 p5)), (.int (f4 (v0_10 p0 p1 p2 p3 p4 p5) p0 (v0_12 p0 p1 p2 p3 p4 p5) p2 (v0_15 p0 p1 p2 p3 p4 p5) (v0_5 p0 p1 p2 p3 p4 p5) (v0_16 p0 p1 p2 p3 p4 p5) (v0_6 p0 p1 p2 p3 p4 p5) (v0_17 p0 p1 p2 p3 p4 p5) (v0_7 p0 p1 p2 p3 p4 p5) (v0_18 p0 p1 p2 p3 p4 p5) (v0_8 p0 p1 p2 p3 p4 p5)))])) t → Steps p.tables e below (s₁.setTop (entryFrame m #[(.int p0), (.int p1), (.int p2), (.int p3), (.int p4), (.int p5)] maxLocals)) t := by
          intro t k
          refine pre205 t ?_
          show Steps p.tables e below (T197.setTop (mkF m 341 #[.val (.int p0), .val (.int p1), .val (.int p2), .val (.int p3), .val (.int p4), .val (.int p5), .val (.int (v0_2 p0 p1 p2 p3 p4 p5)), .val (.ref b1), .val (.ref b51), .val (.ref b138), .val (.ref b161), .val (.int (v0_20 p0 p1 p2 p3 p4 p5)), .val (.int (v0_21 p0 p1 p2 p3 p4 p5))] [(.int (v0_21 p0 p1 p2 p3 p4 p5)), (.int (f4 p0 (v0_10 p0 p1 p2 p3 p4 p5) p2 (v0_12 p0 p1 p2 p3 p4 p5) (v0_5 p0 p1 p2 p3 p4 p5) (v0_15 p0 p1 p2 p3 p4 p5) (v0_6 p0 p1 p2 p3 p4 p5) (v0_16 p0 p1 p2 p3 p4 p5) (v0_7 p0 p1 p2 p3 p4 p5) (v0_17 p0 p1 p2 p3 p4 p5) (v0_8 p0 p1 p2 p3 p4 p5) (v0_18 p0 p1 p2 p3 p4 p5)))])) _
          refine XS.icmpNo X197.here hx rfl (hb hby at_341) rfl (XT.ii_ne_f c206) ?_
          show Steps p.tables e below (T197.setTop (mkF m 344 #[.val (.int p0), .val (.int p1), .val (.int p2), .val (.int p3), .val (.int p4), .val (.int p5), .val (.int (v0_2 p0 p1 p2 p3 p4 p5)), .val (.ref b1), .val (.ref b51), .val (.ref b138), .val (.ref b161), .val (.int (v0_20 p0 p1 p2 p3 p4 p5)), .val (.int (v0_21 p0 p1 p2 p3 p4 p5))] [])) _
          refine XS.aload X197.here hx rfl (hb hby at_344) rfl rfl ?_
          show Steps p.tables e below (T197.setTop (mkF m 346 #[.val (.int p0), .val (.int p1), .val (.int p2), .val (.int p3), .val (.int p4), .val (.int p5), .val (.int (v0_2 p0 p1 p2 p3 p4 p5)), .val (.ref b1), .val (.ref b51), .val (.ref b138), .val (.ref b161), .val (.int (v0_20 p0 p1 p2 p3 p4 p5)), .val (.int (v0_21 p0 p1 p2 p3 p4 p5))] [(.ref b161)])) _
          refine XS.aload X197.here hx rfl (hb hby at_346) rfl rfl ?_
          show Steps p.tables e below (T197.setTop (mkF m 348 #[.val (.int p0), .val (.int p1), .val (.int p2), .val (.int p3), .val (.int p4), .val (.int p5), .val (.int (v0_2 p0 p1 p2 p3 p4 p5)), .val (.ref b1), .val (.ref b51), .val (.ref b138), .val (.ref b161), .val (.int (v0_20 p0 p1 p2 p3 p4 p5)), .val (.int (v0_21 p0 p1 p2 p3 p4 p5))] [(.ref b138), (.ref b161)])) _
          refine st207.trans ?_
          show Steps p.tables e below (T207.setTop (mkF m 351 #[.val (.int p0), .val (.int p1), .val (.int p2), .val (.int p3), .val (.int p4), .val (.int p5), .val (.int (v0_2 p0 p1 p2 p3 p4 p5)), .val (.ref b1), .val (.ref b51), .val (.ref b138), .val (.ref b161), .val (.int (v0_20 p0 p1 p2 p3 p4 p5)), .val (.int (v0_21 p0 p1 p2 p3 p4 p5))] [(.int (f4 (v0_10 p0 p1 p2 p3 p4 p5) p0 (v0_12 p0 p1 p2 p3 p4 p5) p2 (v0_15 p0 p1 p2 p3 p4 p5) (v0_5 p0 p1 p2 p3 p4 p5) (v0_16 p0 p1 p2 p3 p4 p5) (v0_6 p0 p1 p2 p3 p4 p5) (v0_17 p0 p1 p2 p3 p4 p5) (v0_7 p0 p1 p2 p3 p4 p5) (v0_18 p0 p1 p2 p3 p4 p5) (v0_8 p0 p1 p2 p3 p4 p5)))])) _
          refine XS.iload X207.here hx rfl (hb hby at_351) rfl ?_
          exact k
        clear pre205 st207
        by_cases c209 : (v0_23 p0 p1 p2 p3 p4 p5) = (v0_21 p0 p1 p2 p3 p4 p5)
        · skip
          refine ⟨T207, _, X207, e207, N207, fun t k => ?_⟩
          rw [show (v0_24 p0 p1 p2 p3 p4 p5) = (1 : Int32) from ((if_pos c206).trans (if_pos c209))] at k
          refine pre208 t ?_
          show Steps p.tables e below (T207.setTop (mkF m 353 #[.val (.int p0), .val (.int p1), .val (.int p2), .val (.int p3), .val (.int p4), .val (.int p5), .val (.int (v0_2 p0 p1 p2 p3 p4 p5)), .val (.ref b1), .val (.ref b51), .val (.ref b138), .val (.ref b161), .val (.int (v0_20 p0 p1 p2 p3 p4 p5)), .val (.int (v0_21 p0 p1 p2 p3 p4 p5))] [(.int (v0_21 p0 p1 p2 p3 p4 p5)), (.int (f4 (v0_10 p0 p1 p2 p3 p4 p5) p0 (v0_12 p0 p1 p2 p3 p4 p5) p2 (v0_15 p0 p1 p2 p3 p4 p5) (v0_5 p0 p1 p2 p3 p4 p5) (v0_16 p0 p1 p2 p3 p4 p5) (v0_6 p0 p1 p2 p3 p4 p5) (v0_17 p0 p1 p2 p3 p4 p5) (v0_7 p0 p1 p2 p3 p4 p5) (v0_18 p0 p1 p2 p3 p4 p5) (v0_8 p0 p1 p2 p3 p4 p5)))])) _
          refine XS.icmpNo X207.here hx rfl (hb hby at_353) rfl (XT.ii_ne_f c209) ?_
          show Steps p.tables e below (T207.setTop (mkF m 356 #[.val (.int p0), .val (.int p1), .val (.int p2), .val (.int p3), .val (.int p4), .val (.int p5), .val (.int (v0_2 p0 p1 p2 p3 p4 p5)), .val (.ref b1), .val (.ref b51), .val (.ref b138), .val (.ref b161), .val (.int (v0_20 p0 p1 p2 p3 p4 p5)), .val (.int (v0_21 p0 p1 p2 p3 p4 p5))] [])) _
          refine XT.iconstV X207.here hx rfl (1 : Int32) (hb hby at_356) (by decide) ?_
          show Steps p.tables e below (T207.setTop (mkF m 357 #[.val (.int p0), .val (.int p1), .val (.int p2), .val (.int p3), .val (.int p4), .val (.int p5), .val (.int (v0_2 p0 p1 p2 p3 p4 p5)), .val (.ref b1), .val (.ref b51), .val (.ref b138), .val (.ref b161), .val (.int (v0_20 p0 p1 p2 p3 p4 p5)), .val (.int (v0_21 p0 p1 p2 p3 p4 p5))] [(.int (1 : Int32))])) _
          refine XS.goto X207.here hx rfl (pc0 := 357) (pc' := 361) rfl (hb hby at_357) (by decide) (by decide) ?_
          exact k
        · skip
          refine ⟨T207, _, X207, e207, N207, fun t k => ?_⟩
          rw [show (v0_24 p0 p1 p2 p3 p4 p5) = (0 : Int32) from ((if_pos c206).trans (if_neg c209))] at k
          refine pre208 t ?_
          show Steps p.tables e below (T207.setTop (mkF m 353 #[.val (.int p0), .val (.int p1), .val (.int p2), .val (.int p3), .val (.int p4), .val (.int p5), .val (.int (v0_2 p0 p1 p2 p3 p4 p5)), .val (.ref b1), .val (.ref b51), .val (.ref b138), .val (.ref b161), .val (.int (v0_20 p0 p1 p2 p3 p4 p5)), .val (.int (v0_21 p0 p1 p2 p3 p4 p5))] [(.int (v0_21 p0 p1 p2 p3 p4 p5)), (.int (f4 (v0_10 p0 p1 p2 p3 p4 p5) p0 (v0_12 p0 p1 p2 p3 p4 p5) p2 (v0_15 p0 p1 p2 p3 p4 p5) (v0_5 p0 p1 p2 p3 p4 p5) (v0_16 p0 p1 p2 p3 p4 p5) (v0_6 p0 p1 p2 p3 p4 p5) (v0_17 p0 p1 p2 p3 p4 p5) (v0_7 p0 p1 p2 p3 p4 p5) (v0_18 p0 p1 p2 p3 p4 p5) (v0_8 p0 p1 p2 p3 p4 p5)))])) _
          refine XS.icmpYes X207.here hx rfl (pc0 := 353) (pc' := 360) rfl (hb hby at_353) rfl (XT.ii_ne_t c209) (by decide) (by decide) ?_
          show Steps p.tables e below (T207.setTop (mkF m 360 #[.val (.int p0), .val (.int p1), .val (.int p2), .val (.int p3), .val (.int p4), .val (.int p5), .val (.int (v0_2 p0 p1 p2 p3 p4 p5)), .val (.ref b1), .val (.ref b51), .val (.ref b138), .val (.ref b161), .val (.int (v0_20 p0 p1 p2 p3 p4 p5)), .val (.int (v0_21 p0 p1 p2 p3 p4 p5))] [])) _
          refine XT.iconstV X207.here hx rfl (0 : Int32) (hb hby at_360) (by decide) ?_
          exact k
      · skip
        refine ⟨T197, _, X197, e197, N197, fun t k => ?_⟩
        rw [show (v0_24 p0 p1 p2 p3 p4 p5) = (0 : Int32) from (if_neg c206)] at k
        refine pre205 t ?_
        show Steps p.tables e below (T197.setTop (mkF m 341 #[.val (.int p0), .val (.int p1), .val (.int p2), .val (.int p3), .val (.int p4), .val (.int p5), .val (.int (v0_2 p0 p1 p2 p3 p4 p5)), .val (.ref b1), .val (.ref b51), .val (.ref b138), .val (.ref b161), .val (.int (v0_20 p0 p1 p2 p3 p4 p5)), .val (.int (v0_21 p0 p1 p2 p3 p4 p5))] [(.int (v0_21 p0 p1 p2 p3 p4 p5)), (.int (f4 p0 (v0_10 p0 p1 p2 p3 p4 p5) p2 (v0_12 p0 p1 p2 p3 p4 p5) (v0_5 p0 p1 p2 p3 p4 p5) (v0_15 p0 p1 p2 p3 p4 p5) (v0_6 p0 p1 p2 p3 p4 p5) (v0_16 p0 p1 p2 p3 p4 p5) (v0_7 p0 p1 p2 p3 p4 p5) (v0_17 p0 p1 p2 p3 p4 p5) (v0_8 p0 p1 p2 p3 p4 p5) (v0_18 p0 p1 p2 p3 p4 p5)))])) _
        refine XS.icmpYes X197.here hx rfl (pc0 := 341) (pc' := 360) rfl (hb hby at_341) rfl (XT.ii_ne_t c206) (by decide) (by decide) ?_
        show Steps p.tables e below (T197.setTop (mkF m 360 #[.val (.int p0), .val (.int p1), .val (.int p2), .val (.int p3), .val (.int p4), .val (.int p5), .val (.int (v0_2 p0 p1 p2 p3 p4 p5)), .val (.ref b1), .val (.ref b51), .val (.ref b138), .val (.ref b161), .val (.int (v0_20 p0 p1 p2 p3 p4 p5)), .val (.int (v0_21 p0 p1 p2 p3 p4 p5))] [])) _
        refine XT.iconstV X197.here hx rfl (0 : Int32) (hb hby at_360) (by decide) ?_
        exact k
    have hv211 : (v0_24 p0 p1 p2 p3 p4 p5) = (1 : Int32) := own_v0_24 p0 p1 p2 p3 p4 p5 c137
    obtain ⟨fs, hr, hrun, hended, hW, hsame⟩ := X210.leave (v := some (.int (1 : Int32))) (fun h => by rw [Bd.returns] at h; cases h) hlk
    refine ⟨_, _, pre210 _ ?_, hrun, hended, _, _, rfl, ?_, ⟨_, rfl⟩, hW, hsame.mono (by decide) (by decide)⟩
    · skip
      show Steps p.tables e below (T210.setTop (mkF m 361 #[.val (.int p0), .val (.int p1), .val (.int p2), .val (.int p3), .val (.int p4), .val (.int p5), .val (.int (v0_2 p0 p1 p2 p3 p4 p5)), .val (.ref b1), .val (.ref b51), .val (.ref b138), .val (.ref b161), .val (.int (v0_20 p0 p1 p2 p3 p4 p5)), .val (.int (v0_21 p0 p1 p2 p3 p4 p5))] [(.int (v0_24 p0 p1 p2 p3 p4 p5))])) _
      rw [hv211]
      exact retN X210 hx (t := .boolean) Bd.returns (by simp) (hb hby at_361) hr
    · skip
      show Q0 Z p0 p1 p2 p3 p4 p5 h0 n0 _ T210.heap _
      rw [e210]
      exact ⟨rfl, N210⟩
  · skip
    obtain ⟨cl212, Ar212, qc212, S212, M212, Ha212, G212⟩ := id V133
    have hin213 : ¬ ((1 : Int32) < 0 ∨ cl212.slots.size ≤ ((1 : Int32)).toNatClampNeg) := inb_of S212 ⟨by decide, by decide⟩
    have hin214 : ¬ ((1 : Int32) < 0 ∨ cl212.slots.size ≤ ((1 : Int32)).toNatClampNeg) := inb_of S212 ⟨by decide, by decide⟩
    obtain ⟨T215, h215, X215, e215, W215, st215⟩ := stI X133 hx hZ e133 Ar212 (j := (1 : Int32)) hin214 (g := (mkF m 171 #[.val (.int p0), .val (.int p1), .val (.int p2), .val (.int p3), .val (.int p4), .val (.int p5), .val (.int (v0_2 p0 p1 p2 p3 p4 p5)), .val (.ref b1), .val (.ref b51), .unset, .unset, .unset, .unset] [(.int ((v0_11 p0 p1 p2 p3 p4 p5) + p5)), (.int (1 : Int32)), (.ref b51)])) rfl rfl (hb hby at_171)
    have V215 : Arv Z h215 b51 k51 .int (9 : Int32) [(.int (v0_10 p0 p1 p2 p3 p4 p5)), (.int (v0_25 p0 p1 p2 p3 p4 p5)), (.int (v0_12 p0 p1 p2 p3 p4 p5)), (.int (v0_13 p0 p1 p2 p3 p4 p5)), (.int (v0_14 p0 p1 p2 p3 p4 p5)), (.int (v0_15 p0 p1 p2 p3 p4 p5)), (.int (v0_16 p0 p1 p2 p3 p4 p5)), (.int (v0_17 p0 p1 p2 p3 p4 p5)), (.int (v0_18 p0 p1 p2 p3 p4 p5))] (.int (0 : Int32)) := Arv.set Ar212 qc212 S212 M212 Ha212 G212 rfl W215 1 rfl (Nat.le_of_ble_eq_true rfl)
    have N215 := Fr.snoc X215 N133 g54
    have z216 : n0 ≤ h215.size := Nat.le_trans z134 (Keep.of_wr W215).1
    have hs217 : h0.size ≤ h215.size := Nat.le_trans hs135 (Keep.of_wr W215).1
    obtain ⟨cl218, Ar218, qc218, S218, M218, Ha218, G218⟩ := id V215
    have hin219 : ¬ ((3 : Int32) < 0 ∨ cl218.slots.size ≤ ((3 : Int32)).toNatClampNeg) := inb_of S218 ⟨by decide, by decide⟩
    have hin220 : ¬ ((3 : Int32) < 0 ∨ cl218.slots.size ≤ ((3 : Int32)).toNatClampNeg) := inb_of S218 ⟨by decide, by decide⟩
    obtain ⟨T221, h221, X221, e221, W221, st221⟩ := stI X215 hx hZ e215 Ar218 (j := (3 : Int32)) hin220 (g := (mkF m 182 #[.val (.int p0), .val (.int p1), .val (.int p2), .val (.int p3), .val (.int p4), .val (.int p5), .val (.int (v0_2 p0 p1 p2 p3 p4 p5)), .val (.ref b1), .val (.ref b51), .unset, .unset, .unset, .unset] [(.int ((v0_13 p0 p1 p2 p3 p4 p5) ^^^ p5)), (.int (3 : Int32)), (.ref b51)])) rfl rfl (hb hby at_182)
    have V221 : Arv Z h221 b51 k51 .int (9 : Int32) [(.int (v0_10 p0 p1 p2 p3 p4 p5)), (.int (v0_25 p0 p1 p2 p3 p4 p5)), (.int (v0_12 p0 p1 p2 p3 p4 p5)), (.int (v0_26 p0 p1 p2 p3 p4 p5)), (.int (v0_14 p0 p1 p2 p3 p4 p5)), (.int (v0_15 p0 p1 p2 p3 p4 p5)), (.int (v0_16 p0 p1 p2 p3 p4 p5)), (.int (v0_17 p0 p1 p2 p3 p4 p5)), (.int (v0_18 p0 p1 p2 p3 p4 p5))] (.int (0 : Int32)) := Arv.set Ar218 qc218 S218 M218 Ha218 G218 rfl W221 3 rfl (Nat.le_of_ble_eq_true rfl)
    have N221 := Fr.snoc X221 N215 g54
    have z222 : n0 ≤ h221.size := Nat.le_trans z216 (Keep.of_wr W221).1
    have hs223 : h0.size ≤ h221.size := Nat.le_trans hs217 (Keep.of_wr W221).1
    obtain ⟨cl224, Ar224, qc224, S224, M224, Ha224, G224⟩ := id V221
    have hin225 : ¬ ((4 : Int32) < 0 ∨ cl224.slots.size ≤ ((4 : Int32)).toNatClampNeg) := inb_of S224 ⟨by decide, by decide⟩
    have hin226 : ¬ ((4 : Int32) < 0 ∨ cl224.slots.size ≤ ((4 : Int32)).toNatClampNeg) := inb_of S224 ⟨by decide, by decide⟩
    obtain ⟨T227, h227, X227, e227, W227, st227⟩ := stI X221 hx hZ e221 Ar224 (j := (4 : Int32)) hin226 (g := (mkF m 193 #[.val (.int p0), .val (.int p1), .val (.int p2), .val (.int p3), .val (.int p4), .val (.int p5), .val (.int (v0_2 p0 p1 p2 p3 p4 p5)), .val (.ref b1), .val (.ref b51), .unset, .unset, .unset, .unset] [(.int ((v0_14 p0 p1 p2 p3 p4 p5) - p5)), (.int (4 : Int32)), (.ref b51)])) rfl rfl (hb hby at_193)
    have V227 : Arv Z h227 b51 k51 .int (9 : Int32) [(.int (v0_10 p0 p1 p2 p3 p4 p5)), (.int (v0_25 p0 p1 p2 p3 p4 p5)), (.int (v0_12 p0 p1 p2 p3 p4 p5)), (.int (v0_26 p0 p1 p2 p3 p4 p5)), (.int (v0_27 p0 p1 p2 p3 p4 p5)), (.int (v0_15 p0 p1 p2 p3 p4 p5)), (.int (v0_16 p0 p1 p2 p3 p4 p5)), (.int (v0_17 p0 p1 p2 p3 p4 p5)), (.int (v0_18 p0 p1 p2 p3 p4 p5))] (.int (0 : Int32)) := Arv.set Ar224 qc224 S224 M224 Ha224 G224 rfl W227 4 rfl (Nat.le_of_ble_eq_true rfl)
    have N227 := Fr.snoc X227 N221 g54
    have z228 : n0 ≤ h227.size := Nat.le_trans z222 (Keep.of_wr W227).1
    have hs229 : h0.size ≤ h227.size := Nat.le_trans hs223 (Keep.of_wr W227).1
    obtain ⟨T230, h230, X230, e230, E230, A230, D230, -, st230⟩ := newO X227 hx hZ hown (hw _ (List.mem_of_getElem? (i := 2) rfl)) (hw _ (List.mem_of_getElem? (i := 3) rfl)) (hw _ (List.mem_of_getElem? (i := 4) rfl)) e227 (g := (mkF m 194 #[.val (.int p0), .val (.int p1), .val (.int p2), .val (.int p3), .val (.int p4), .val (.int p5), .val (.int (v0_2 p0 p1 p2 p3 p4 p5)), .val (.ref b1), .val (.ref b51), .unset, .unset, .unset, .unset] [])) rfl (hb hby at_194) (by decide) (by decide)
    obtain ⟨b230, gz230⟩ : ∃ z, z = h227.size := ⟨_, rfl⟩
    rw [← gz230] at A230 D230 st230
    have k231 := ((((((((((((((k52.ext E51).wr W63).wr W71).wr W79).wr W87).wr W95).wr W103).wr W111).wr W119).wr W127).wr W133).wr W215).wr W221).wr W227)
    have ne232 : b1 ≠ b230 := Nat.ne_of_lt (Nat.lt_of_lt_of_le k231.lt (Nat.le_of_eq gz230.symm))
    have k233 := (((((((((((((EA51.wr W63).wr W71).wr W79).wr W87).wr W95).wr W103).wr W111).wr W119).wr W127).wr W133).wr W215).wr W221).wr W227)
    have ne234 : b51 ≠ b230 := Nat.ne_of_lt (Nat.lt_of_lt_of_le k233.lt (Nat.le_of_eq gz230.symm))
    have g235 : n0 ≤ b230 := Nat.le_trans z228 (Nat.le_of_eq gz230.symm)
    have sz236 : h0.size ≤ b230 := Nat.le_trans hs229 (Nat.le_of_eq gz230.symm)
    have z237 : n0 ≤ h230.size := Nat.le_trans z228 E230.1
    have hs238 : h0.size ≤ h230.size := Nat.le_trans hs229 E230.1
    have F230_ctimeSeconds : Fld Z h230 b230 "com/example/ashlar/ashlar/worktree/StatData" "ctimeSeconds" "I" (.int (0 : Int32)) := D230 (Or.inr (hw _ (List.mem_of_getElem? (i := 17) rfl))) (ty := .int) (by decide)
    have F230_ctimeNanos : Fld Z h230 b230 "com/example/ashlar/ashlar/worktree/StatData" "ctimeNanos" "I" (.int (0 : Int32)) := D230 (Or.inr (hw _ (List.mem_of_getElem? (i := 19) rfl))) (ty := .int) (by decide)
    have F230_mtimeSeconds : Fld Z h230 b230 "com/example/ashlar/ashlar/worktree/StatData" "mtimeSeconds" "I" (.int (0 : Int32)) := D230 (Or.inr (hw _ (List.mem_of_getElem? (i := 21) rfl))) (ty := .int) (by decide)
    have F230_mtimeNanos : Fld Z h230 b230 "com/example/ashlar/ashlar/worktree/StatData" "mtimeNanos" "I" (.int (0 : Int32)) := D230 (Or.inr (hw _ (List.mem_of_getElem? (i := 23) rfl))) (ty := .int) (by decide)
    have F230_device : Fld Z h230 b230 "com/example/ashlar/ashlar/worktree/StatData" "device" "I" (.int (0 : Int32)) := D230 (Or.inr (hw _ (List.mem_of_getElem? (i := 25) rfl))) (ty := .int) (by decide)
    have F230_inode : Fld Z h230 b230 "com/example/ashlar/ashlar/worktree/StatData" "inode" "I" (.int (0 : Int32)) := D230 (Or.inr (hw _ (List.mem_of_getElem? (i := 27) rfl))) (ty := .int) (by decide)
    have F230_uid : Fld Z h230 b230 "com/example/ashlar/ashlar/worktree/StatData" "uid" "I" (.int (0 : Int32)) := D230 (Or.inr (hw _ (List.mem_of_getElem? (i := 29) rfl))) (ty := .int) (by decide)
    have F230_gid : Fld Z h230 b230 "com/example/ashlar/ashlar/worktree/StatData" "gid" "I" (.int (0 : Int32)) := D230 (Or.inr (hw _ (List.mem_of_getElem? (i := 31) rfl))) (ty := .int) (by decide)
    have F230_size : Fld Z h230 b230 "com/example/ashlar/ashlar/worktree/StatData" "size" "I" (.int (0 : Int32)) := D230 (Or.inr (hw _ (List.mem_of_getElem? (i := 33) rfl))) (ty := .int) (by decide)
    have k239 := ((((((k122.other W127 ne53).other W133 ne53).other W215 ne53).other W221 ne53).other W227 ne53).ext E230)
    obtain ⟨cl240, Ar240, qc240, S240, M240, Ha240, G240⟩ := id k239
    have hin241 : ¬ ((0 : Int32) < 0 ∨ cl240.slots.size ≤ ((0 : Int32)).toNatClampNeg) := inb_of S240 ⟨by decide, by decide⟩
    have hin242 : ¬ ((1 : Int32) < 0 ∨ cl240.slots.size ≤ ((1 : Int32)).toNatClampNeg) := inb_of S240 ⟨by decide, by decide⟩
    have hin243 : ¬ ((2 : Int32) < 0 ∨ cl240.slots.size ≤ ((2 : Int32)).toNatClampNeg) := inb_of S240 ⟨by decide, by decide⟩
    have hin244 : ¬ ((3 : Int32) < 0 ∨ cl240.slots.size ≤ ((3 : Int32)).toNatClampNeg) := inb_of S240 ⟨by decide, by decide⟩
    have hin245 : ¬ ((4 : Int32) < 0 ∨ cl240.slots.size ≤ ((4 : Int32)).toNatClampNeg) := inb_of S240 ⟨by decide, by decide⟩
    have hin246 : ¬ ((5 : Int32) < 0 ∨ cl240.slots.size ≤ ((5 : Int32)).toNatClampNeg) := inb_of S240 ⟨by decide, by decide⟩
    have hin247 : ¬ ((6 : Int32) < 0 ∨ cl240.slots.size ≤ ((6 : Int32)).toNatClampNeg) := inb_of S240 ⟨by decide, by decide⟩
    have hin248 : ¬ ((7 : Int32) < 0 ∨ cl240.slots.size ≤ ((7 : Int32)).toNatClampNeg) := inb_of S240 ⟨by decide, by decide⟩
    have hin249 : ¬ ((8 : Int32) < 0 ∨ cl240.slots.size ≤ ((8 : Int32)).toNatClampNeg) := inb_of S240 ⟨by decide, by decide⟩
    obtain ⟨vr250, _, ⟨T250, L250, k250, n250⟩, -, X250, ⟨Lc250, hQ250, l250, y250, z250⟩, st250⟩ := X230.specialBack hx (y := (⟨"com/example/ashlar/ashlar/worktree/StatData", "<init>", "(IIIIIIIII)V"⟩ : MethodName)) rfl hown (mvT hZ (hw _ (List.mem_of_getElem? (i := 5) rfl))) (mvT hZ (hw _ (List.mem_of_getElem? (i := 6) rfl))) (mvT hZ (hw _ (List.mem_of_getElem? (i := 7) rfl))) (by decide) (backOf (W := 1) (rm1 l Z a0 hw [] b230 p0 p1 p2 (v0_3 p0 p1 p2 p3 p4 p5) (v0_4 p0 p1 p2 p3 p4 p5) (v0_5 p0 p1 p2 p3 p4 p5) (v0_6 p0 p1 p2 p3 p4 p5) (v0_7 p0 p1 p2 p3 p4 p5) (v0_8 p0 p1 p2 p3 p4 p5) (.int (0 : Int32)) (.int (0 : Int32)) (.int (0 : Int32)) (.int (0 : Int32)) (.int (0 : Int32)) (.int (0 : Int32)) (.int (0 : Int32)) (.int (0 : Int32)) (.int (0 : Int32)) h230 n0 z237 A230 F230_ctimeSeconds g235 F230_ctimeNanos F230_mtimeSeconds F230_mtimeNanos F230_device F230_inode F230_uid F230_gid F230_size) hZ (hw _ (List.mem_of_getElem? (i := 7) rfl)) (hw _ (List.mem_of_getElem? (i := 4) rfl)) (by decide) (by decide)) (g := (mkF m 237 #[.val (.int p0), .val (.int p1), .val (.int p2), .val (.int p3), .val (.int p4), .val (.int p5), .val (.int (v0_2 p0 p1 p2 p3 p4 p5)), .val (.ref b1), .val (.ref b51), .unset, .unset, .unset, .unset] [(.int (v0_8 p0 p1 p2 p3 p4 p5)), (.int (v0_7 p0 p1 p2 p3 p4 p5)), (.int (v0_6 p0 p1 p2 p3 p4 p5)), (.int (v0_5 p0 p1 p2 p3 p4 p5)), (.int (v0_4 p0 p1 p2 p3 p4 p5)), (.int (v0_3 p0 p1 p2 p3 p4 p5)), (.int p2), (.int p1), (.int p0), (.ref b230), (.ref b230)])) rfl (by rw [hml]; rfl) (Steps.refl _) (a := b230) (argsL := [(.int p0), (.int p1), (.int p2), (.int (v0_3 p0 p1 p2 p3 p4 p5)), (.int (v0_4 p0 p1 p2 p3 p4 p5)), (.int (v0_5 p0 p1 p2 p3 p4 p5)), (.int (v0_6 p0 p1 p2 p3 p4 p5)), (.int (v0_7 p0 p1 p2 p3 p4 p5)), (.int (v0_8 p0 p1 p2 p3 p4 p5))]) (rest := [(.ref b230)]) (lenOf pd__IIIIIIIII_V rfl) rfl (by show 2 * 0 + _ ≤ _; exact Nat.le_of_eq rfl) (hb hby at_237) (fun _ _ => ⟨rfl, e230, (by decide : 3 + 0 ≤ _), (by decide : 27 + 0 ≤ _)⟩)
    dsimp only [Pt.U, Pt.locs, Pt.cells, Pt.slots] at X250 l250 y250 z250 st250 hQ250
    replace X250 := own_stand X250 l250 y250 z250
    clear l250 y250 z250
    have N250q := (show _ ∧ _ from hQ250).1
    have hq250 := (show _ ∧ _ from hQ250).2
    clear hQ250
    have hv250 := hq250.1
    have K250 := hq250.2.1
    have po250_0 := hq250.2.2.1
    have po250_1 := hq250.2.2.2.1
    have po250_2 := hq250.2.2.2.2.1
    have po250_3 := hq250.2.2.2.2.2.1
    have po250_4 := hq250.2.2.2.2.2.2.1
    have po250_5 := hq250.2.2.2.2.2.2.2.1
    have po250_6 := hq250.2.2.2.2.2.2.2.2.1
    have po250_7 := hq250.2.2.2.2.2.2.2.2.2.1
    have po250_8 := hq250.2.2.2.2.2.2.2.2.2.2.1
    have po250_9 := hq250.2.2.2.2.2.2.2.2.2.2.2
    clear hq250
    subst hv250
    have z251 : n0 ≤ T250.heap.size := Nat.le_trans z237 K250.1
    have hs252 : h0.size ≤ T250.heap.size := Nat.le_trans hs238 K250.1
    have N250 := Fr.app N227 N250q
    obtain ⟨T253, h253, X253, e253, E253, A253, D253, -, st253⟩ := newO X250 hx hZ hown (hw _ (List.mem_of_getElem? (i := 2) rfl)) (hw _ (List.mem_of_getElem? (i := 3) rfl)) (hw _ (List.mem_of_getElem? (i := 4) rfl)) rfl (g := (mkF m 242 #[.val (.int p0), .val (.int p1), .val (.int p2), .val (.int p3), .val (.int p4), .val (.int p5), .val (.int (v0_2 p0 p1 p2 p3 p4 p5)), .val (.ref b1), .val (.ref b51), .val (.ref b230), .unset, .unset, .unset] [])) rfl (hb hby at_242) (by decide) (by decide)
    obtain ⟨b253, gz253⟩ : ∃ z, z = T250.heap.size := ⟨_, rfl⟩
    rw [← gz253] at A253 D253 st253
    have k254 := ((k231.ext E230).keep K250)
    have ne255 : b1 ≠ b253 := Nat.ne_of_lt (Nat.lt_of_lt_of_le k254.lt (Nat.le_of_eq gz253.symm))
    have k256 := ((k233.ext E230).keep K250)
    have ne257 : b51 ≠ b253 := Nat.ne_of_lt (Nat.lt_of_lt_of_le k256.lt (Nat.le_of_eq gz253.symm))
    have ne258 : b230 ≠ b253 := Nat.ne_of_lt (Nat.lt_of_lt_of_le po250_0.lt (Nat.le_of_eq gz253.symm))
    have g259 : n0 ≤ b253 := Nat.le_trans z251 (Nat.le_of_eq gz253.symm)
    have sz260 : h0.size ≤ b253 := Nat.le_trans hs252 (Nat.le_of_eq gz253.symm)
    have z261 : n0 ≤ h253.size := Nat.le_trans z251 E253.1
    have hs262 : h0.size ≤ h253.size := Nat.le_trans hs252 E253.1
    have F253_ctimeSeconds : Fld Z h253 b253 "com/example/ashlar/ashlar/worktree/StatData" "ctimeSeconds" "I" (.int (0 : Int32)) := D253 (Or.inr (hw _ (List.mem_of_getElem? (i := 17) rfl))) (ty := .int) (by decide)
    have F253_ctimeNanos : Fld Z h253 b253 "com/example/ashlar/ashlar/worktree/StatData" "ctimeNanos" "I" (.int (0 : Int32)) := D253 (Or.inr (hw _ (List.mem_of_getElem? (i := 19) rfl))) (ty := .int) (by decide)
    have F253_mtimeSeconds : Fld Z h253 b253 "com/example/ashlar/ashlar/worktree/StatData" "mtimeSeconds" "I" (.int (0 : Int32)) := D253 (Or.inr (hw _ (List.mem_of_getElem? (i := 21) rfl))) (ty := .int) (by decide)
    have F253_mtimeNanos : Fld Z h253 b253 "com/example/ashlar/ashlar/worktree/StatData" "mtimeNanos" "I" (.int (0 : Int32)) := D253 (Or.inr (hw _ (List.mem_of_getElem? (i := 23) rfl))) (ty := .int) (by decide)
    have F253_device : Fld Z h253 b253 "com/example/ashlar/ashlar/worktree/StatData" "device" "I" (.int (0 : Int32)) := D253 (Or.inr (hw _ (List.mem_of_getElem? (i := 25) rfl))) (ty := .int) (by decide)
    have F253_inode : Fld Z h253 b253 "com/example/ashlar/ashlar/worktree/StatData" "inode" "I" (.int (0 : Int32)) := D253 (Or.inr (hw _ (List.mem_of_getElem? (i := 27) rfl))) (ty := .int) (by decide)
    have F253_uid : Fld Z h253 b253 "com/example/ashlar/ashlar/worktree/StatData" "uid" "I" (.int (0 : Int32)) := D253 (Or.inr (hw _ (List.mem_of_getElem? (i := 29) rfl))) (ty := .int) (by decide)
    have F253_gid : Fld Z h253 b253 "com/example/ashlar/ashlar/worktree/StatData" "gid" "I" (.int (0 : Int32)) := D253 (Or.inr (hw _ (List.mem_of_getElem? (i := 31) rfl))) (ty := .int) (by decide)
    have F253_size : Fld Z h253 b253 "com/example/ashlar/ashlar/worktree/StatData" "size" "I" (.int (0 : Int32)) := D253 (Or.inr (hw _ (List.mem_of_getElem? (i := 33) rfl))) (ty := .int) (by decide)
    have k263 := (((V227.ext E230).keep K250 (ninS ne234 nin0)).ext E253)
    obtain ⟨cl264, Ar264, qc264, S264, M264, Ha264, G264⟩ := id k263
    have hin265 : ¬ ((0 : Int32) < 0 ∨ cl264.slots.size ≤ ((0 : Int32)).toNatClampNeg) := inb_of S264 ⟨by decide, by decide⟩
    have hin266 : ¬ ((1 : Int32) < 0 ∨ cl264.slots.size ≤ ((1 : Int32)).toNatClampNeg) := inb_of S264 ⟨by decide, by decide⟩
    have hin267 : ¬ ((2 : Int32) < 0 ∨ cl264.slots.size ≤ ((2 : Int32)).toNatClampNeg) := inb_of S264 ⟨by decide, by decide⟩
    have hin268 : ¬ ((3 : Int32) < 0 ∨ cl264.slots.size ≤ ((3 : Int32)).toNatClampNeg) := inb_of S264 ⟨by decide, by decide⟩
    have hin269 : ¬ ((4 : Int32) < 0 ∨ cl264.slots.size ≤ ((4 : Int32)).toNatClampNeg) := inb_of S264 ⟨by decide, by decide⟩
    have hin270 : ¬ ((5 : Int32) < 0 ∨ cl264.slots.size ≤ ((5 : Int32)).toNatClampNeg) := inb_of S264 ⟨by decide, by decide⟩
    have hin271 : ¬ ((6 : Int32) < 0 ∨ cl264.slots.size ≤ ((6 : Int32)).toNatClampNeg) := inb_of S264 ⟨by decide, by decide⟩
    have hin272 : ¬ ((7 : Int32) < 0 ∨ cl264.slots.size ≤ ((7 : Int32)).toNatClampNeg) := inb_of S264 ⟨by decide, by decide⟩
    have hin273 : ¬ ((8 : Int32) < 0 ∨ cl264.slots.size ≤ ((8 : Int32)).toNatClampNeg) := inb_of S264 ⟨by decide, by decide⟩
    obtain ⟨vr274, _, ⟨T274, L274, k274, n274⟩, -, X274, ⟨Lc274, hQ274, l274, y274, z274⟩, st274⟩ := X253.specialBack hx (y := (⟨"com/example/ashlar/ashlar/worktree/StatData", "<init>", "(IIIIIIIII)V"⟩ : MethodName)) rfl hown (mvT hZ (hw _ (List.mem_of_getElem? (i := 5) rfl))) (mvT hZ (hw _ (List.mem_of_getElem? (i := 6) rfl))) (mvT hZ (hw _ (List.mem_of_getElem? (i := 7) rfl))) (by decide) (backOf (W := 1) (rm1 l Z a0 hw [] b253 (v0_10 p0 p1 p2 p3 p4 p5) (v0_25 p0 p1 p2 p3 p4 p5) (v0_12 p0 p1 p2 p3 p4 p5) (v0_26 p0 p1 p2 p3 p4 p5) (v0_27 p0 p1 p2 p3 p4 p5) (v0_15 p0 p1 p2 p3 p4 p5) (v0_16 p0 p1 p2 p3 p4 p5) (v0_17 p0 p1 p2 p3 p4 p5) (v0_18 p0 p1 p2 p3 p4 p5) (.int (0 : Int32)) (.int (0 : Int32)) (.int (0 : Int32)) (.int (0 : Int32)) (.int (0 : Int32)) (.int (0 : Int32)) (.int (0 : Int32)) (.int (0 : Int32)) (.int (0 : Int32)) h253 n0 z261 A253 F253_ctimeSeconds g259 F253_ctimeNanos F253_mtimeSeconds F253_mtimeNanos F253_device F253_inode F253_uid F253_gid F253_size) hZ (hw _ (List.mem_of_getElem? (i := 7) rfl)) (hw _ (List.mem_of_getElem? (i := 4) rfl)) (by decide) (by decide)) (g := (mkF m 285 #[.val (.int p0), .val (.int p1), .val (.int p2), .val (.int p3), .val (.int p4), .val (.int p5), .val (.int (v0_2 p0 p1 p2 p3 p4 p5)), .val (.ref b1), .val (.ref b51), .val (.ref b230), .unset, .unset, .unset] [(.int (v0_18 p0 p1 p2 p3 p4 p5)), (.int (v0_17 p0 p1 p2 p3 p4 p5)), (.int (v0_16 p0 p1 p2 p3 p4 p5)), (.int (v0_15 p0 p1 p2 p3 p4 p5)), (.int (v0_27 p0 p1 p2 p3 p4 p5)), (.int (v0_26 p0 p1 p2 p3 p4 p5)), (.int (v0_12 p0 p1 p2 p3 p4 p5)), (.int (v0_25 p0 p1 p2 p3 p4 p5)), (.int (v0_10 p0 p1 p2 p3 p4 p5)), (.ref b253), (.ref b253)])) rfl (by rw [hml]; rfl) (Steps.refl _) (a := b253) (argsL := [(.int (v0_10 p0 p1 p2 p3 p4 p5)), (.int (v0_25 p0 p1 p2 p3 p4 p5)), (.int (v0_12 p0 p1 p2 p3 p4 p5)), (.int (v0_26 p0 p1 p2 p3 p4 p5)), (.int (v0_27 p0 p1 p2 p3 p4 p5)), (.int (v0_15 p0 p1 p2 p3 p4 p5)), (.int (v0_16 p0 p1 p2 p3 p4 p5)), (.int (v0_17 p0 p1 p2 p3 p4 p5)), (.int (v0_18 p0 p1 p2 p3 p4 p5))]) (rest := [(.ref b253)]) (lenOf pd__IIIIIIIII_V rfl) rfl (by show 2 * 0 + _ ≤ _; exact Nat.le_of_eq rfl) (hb hby at_285) (fun _ _ => ⟨rfl, e253, (by decide : 4 + 0 ≤ _), (by decide : 36 + 0 ≤ _)⟩)
    dsimp only [Pt.U, Pt.locs, Pt.cells, Pt.slots] at X274 l274 y274 z274 st274 hQ274
    replace X274 := own_stand X274 l274 y274 z274
    clear l274 y274 z274
    have N274q := (show _ ∧ _ from hQ274).1
    have hq274 := (show _ ∧ _ from hQ274).2
    clear hQ274
    have hv274 := hq274.1
    have K274 := hq274.2.1
    have po274_0 := hq274.2.2.1
    have po274_1 := hq274.2.2.2.1
    have po274_2 := hq274.2.2.2.2.1
    have po274_3 := hq274.2.2.2.2.2.1
    have po274_4 := hq274.2.2.2.2.2.2.1
    have po274_5 := hq274.2.2.2.2.2.2.2.1
    have po274_6 := hq274.2.2.2.2.2.2.2.2.1
    have po274_7 := hq274.2.2.2.2.2.2.2.2.2.1
    have po274_8 := hq274.2.2.2.2.2.2.2.2.2.2.1
    have po274_9 := hq274.2.2.2.2.2.2.2.2.2.2.2
    clear hq274
    subst hv274
    have z275 : n0 ≤ T274.heap.size := Nat.le_trans z261 K274.1
    have hs276 : h0.size ≤ T274.heap.size := Nat.le_trans hs262 K274.1
    have N274 := Fr.app N250 N274q
    have pre277 : ∀ t, Steps p.tables e below (T274.setTop (mkF m 293 #[.val (.int p0), .val (.int p1), .val (.int p2), .val (.int p3), .val (.int p4), .val (.int p5), .val (.int (v0_2 p0 p1 p2 p3 p4 p5)), .val (.ref b1), .val (.ref b51), .val (.ref b230), .val (.ref b253), .unset, .unset] [(.int (1 : Int32)), (.int (v0_2 p0 p1 p2 p3 p4 p5))])) t → Steps p.tables e below (s₁.setTop (entryFrame m #[(.int p0), (.int p1), (.int p2), (.int p3), (.int p4), (.int p5)] maxLocals)) t := by
      intro t k
      refine pre136 t ?_
      show Steps p.tables e below (T133.setTop (mkF m 158 #[.val (.int p0), .val (.int p1), .val (.int p2), .val (.int p3), .val (.int p4), .val (.int p5), .val (.int (v0_2 p0 p1 p2 p3 p4 p5)), .val (.ref b1), .val (.ref b51), .unset, .unset, .unset, .unset] [(.int (p5 &&& (1 : Int32)))])) _
      refine XS.ifNo X133.here hx rfl (hb hby at_158) rfl (XT.i0_eq_f c137) ?_
      show Steps p.tables e below (T133.setTop (mkF m 161 #[.val (.int p0), .val (.int p1), .val (.int p2), .val (.int p3), .val (.int p4), .val (.int p5), .val (.int (v0_2 p0 p1 p2 p3 p4 p5)), .val (.ref b1), .val (.ref b51), .unset, .unset, .unset, .unset] [])) _
      refine XS.aload X133.here hx rfl (hb hby at_161) rfl rfl ?_
      show Steps p.tables e below (T133.setTop (mkF m 163 #[.val (.int p0), .val (.int p1), .val (.int p2), .val (.int p3), .val (.int p4), .val (.int p5), .val (.int (v0_2 p0 p1 p2 p3 p4 p5)), .val (.ref b1), .val (.ref b51), .unset, .unset, .unset, .unset] [(.ref b51)])) _
      refine XT.iconstV X133.here hx rfl (1 : Int32) (hb hby at_163) (by decide) ?_
      show Steps p.tables e below (T133.setTop (mkF m 164 #[.val (.int p0), .val (.int p1), .val (.int p2), .val (.int p3), .val (.int p4), .val (.int p5), .val (.int (v0_2 p0 p1 p2 p3 p4 p5)), .val (.ref b1), .val (.ref b51), .unset, .unset, .unset, .unset] [(.int (1 : Int32)), (.ref b51)])) _
      refine XS.aload X133.here hx rfl (hb hby at_164) rfl rfl ?_
      show Steps p.tables e below (T133.setTop (mkF m 166 #[.val (.int p0), .val (.int p1), .val (.int p2), .val (.int p3), .val (.int p4), .val (.int p5), .val (.int (v0_2 p0 p1 p2 p3 p4 p5)), .val (.ref b1), .val (.ref b51), .unset, .unset, .unset, .unset] [(.ref b51), (.int (1 : Int32)), (.ref b51)])) _
      refine XT.iconstV X133.here hx rfl (1 : Int32) (hb hby at_166) (by decide) ?_
      show Steps p.tables e below (T133.setTop (mkF m 167 #[.val (.int p0), .val (.int p1), .val (.int p2), .val (.int p3), .val (.int p4), .val (.int p5), .val (.int (v0_2 p0 p1 p2 p3 p4 p5)), .val (.ref b1), .val (.ref b51), .unset, .unset, .unset, .unset] [(.int (1 : Int32)), (.ref b51), (.int (1 : Int32)), (.ref b51)])) _
      refine X133.iaload hx (j := (1 : Int32)) (v := (.int (v0_11 p0 p1 p2 p3 p4 p5))) (by rw [e133]; exact Ar212.1) (State.isArrayOf_alike hZ.alike Ar212.2.1) Ar212.2.2 hin213 (Has.at Ha212 hin213 rfl) (g := (mkF m 167 #[.val (.int p0), .val (.int p1), .val (.int p2), .val (.int p3), .val (.int p4), .val (.int p5), .val (.int (v0_2 p0 p1 p2 p3 p4 p5)), .val (.ref b1), .val (.ref b51), .unset, .unset, .unset, .unset] [(.int (1 : Int32)), (.ref b51), (.int (1 : Int32)), (.ref b51)])) rfl rfl (hb hby at_167) _ ?_
      show Steps p.tables e below (T133.setTop (mkF m 168 #[.val (.int p0), .val (.int p1), .val (.int p2), .val (.int p3), .val (.int p4), .val (.int p5), .val (.int (v0_2 p0 p1 p2 p3 p4 p5)), .val (.ref b1), .val (.ref b51), .unset, .unset, .unset, .unset] [(.int (v0_11 p0 p1 p2 p3 p4 p5)), (.int (1 : Int32)), (.ref b51)])) _
      refine XS.iload X133.here hx rfl (hb hby at_168) rfl ?_
      show Steps p.tables e below (T133.setTop (mkF m 170 #[.val (.int p0), .val (.int p1), .val (.int p2), .val (.int p3), .val (.int p4), .val (.int p5), .val (.int (v0_2 p0 p1 p2 p3 p4 p5)), .val (.ref b1), .val (.ref b51), .unset, .unset, .unset, .unset] [(.int p5), (.int (v0_11 p0 p1 p2 p3 p4 p5)), (.int (1 : Int32)), (.ref b51)])) _
      refine XS.iadd X133.here hx rfl (hb hby at_170) rfl ?_
      show Steps p.tables e below (T133.setTop (mkF m 171 #[.val (.int p0), .val (.int p1), .val (.int p2), .val (.int p3), .val (.int p4), .val (.int p5), .val (.int (v0_2 p0 p1 p2 p3 p4 p5)), .val (.ref b1), .val (.ref b51), .unset, .unset, .unset, .unset] [(.int ((v0_11 p0 p1 p2 p3 p4 p5) + p5)), (.int (1 : Int32)), (.ref b51)])) _
      refine st215 _ ?_
      show Steps p.tables e below (T215.setTop (mkF m 172 #[.val (.int p0), .val (.int p1), .val (.int p2), .val (.int p3), .val (.int p4), .val (.int p5), .val (.int (v0_2 p0 p1 p2 p3 p4 p5)), .val (.ref b1), .val (.ref b51), .unset, .unset, .unset, .unset] [])) _
      refine XS.aload X215.here hx rfl (hb hby at_172) rfl rfl ?_
      show Steps p.tables e below (T215.setTop (mkF m 174 #[.val (.int p0), .val (.int p1), .val (.int p2), .val (.int p3), .val (.int p4), .val (.int p5), .val (.int (v0_2 p0 p1 p2 p3 p4 p5)), .val (.ref b1), .val (.ref b51), .unset, .unset, .unset, .unset] [(.ref b51)])) _
      refine XT.iconstV X215.here hx rfl (3 : Int32) (hb hby at_174) (by decide) ?_
      show Steps p.tables e below (T215.setTop (mkF m 175 #[.val (.int p0), .val (.int p1), .val (.int p2), .val (.int p3), .val (.int p4), .val (.int p5), .val (.int (v0_2 p0 p1 p2 p3 p4 p5)), .val (.ref b1), .val (.ref b51), .unset, .unset, .unset, .unset] [(.int (3 : Int32)), (.ref b51)])) _
      refine XS.aload X215.here hx rfl (hb hby at_175) rfl rfl ?_
      show Steps p.tables e below (T215.setTop (mkF m 177 #[.val (.int p0), .val (.int p1), .val (.int p2), .val (.int p3), .val (.int p4), .val (.int p5), .val (.int (v0_2 p0 p1 p2 p3 p4 p5)), .val (.ref b1), .val (.ref b51), .unset, .unset, .unset, .unset] [(.ref b51), (.int (3 : Int32)), (.ref b51)])) _
      refine XT.iconstV X215.here hx rfl (3 : Int32) (hb hby at_177) (by decide) ?_
      show Steps p.tables e below (T215.setTop (mkF m 178 #[.val (.int p0), .val (.int p1), .val (.int p2), .val (.int p3), .val (.int p4), .val (.int p5), .val (.int (v0_2 p0 p1 p2 p3 p4 p5)), .val (.ref b1), .val (.ref b51), .unset, .unset, .unset, .unset] [(.int (3 : Int32)), (.ref b51), (.int (3 : Int32)), (.ref b51)])) _
      refine X215.iaload hx (j := (3 : Int32)) (v := (.int (v0_13 p0 p1 p2 p3 p4 p5))) (by rw [e215]; exact Ar218.1) (State.isArrayOf_alike hZ.alike Ar218.2.1) Ar218.2.2 hin219 (Has.at Ha218 hin219 rfl) (g := (mkF m 178 #[.val (.int p0), .val (.int p1), .val (.int p2), .val (.int p3), .val (.int p4), .val (.int p5), .val (.int (v0_2 p0 p1 p2 p3 p4 p5)), .val (.ref b1), .val (.ref b51), .unset, .unset, .unset, .unset] [(.int (3 : Int32)), (.ref b51), (.int (3 : Int32)), (.ref b51)])) rfl rfl (hb hby at_178) _ ?_
      show Steps p.tables e below (T215.setTop (mkF m 179 #[.val (.int p0), .val (.int p1), .val (.int p2), .val (.int p3), .val (.int p4), .val (.int p5), .val (.int (v0_2 p0 p1 p2 p3 p4 p5)), .val (.ref b1), .val (.ref b51), .unset, .unset, .unset, .unset] [(.int (v0_13 p0 p1 p2 p3 p4 p5)), (.int (3 : Int32)), (.ref b51)])) _
      refine XS.iload X215.here hx rfl (hb hby at_179) rfl ?_
      show Steps p.tables e below (T215.setTop (mkF m 181 #[.val (.int p0), .val (.int p1), .val (.int p2), .val (.int p3), .val (.int p4), .val (.int p5), .val (.int (v0_2 p0 p1 p2 p3 p4 p5)), .val (.ref b1), .val (.ref b51), .unset, .unset, .unset, .unset] [(.int p5), (.int (v0_13 p0 p1 p2 p3 p4 p5)), (.int (3 : Int32)), (.ref b51)])) _
      refine XT.ixor X215.here hx rfl (hb hby at_181) rfl ?_
      show Steps p.tables e below (T215.setTop (mkF m 182 #[.val (.int p0), .val (.int p1), .val (.int p2), .val (.int p3), .val (.int p4), .val (.int p5), .val (.int (v0_2 p0 p1 p2 p3 p4 p5)), .val (.ref b1), .val (.ref b51), .unset, .unset, .unset, .unset] [(.int ((v0_13 p0 p1 p2 p3 p4 p5) ^^^ p5)), (.int (3 : Int32)), (.ref b51)])) _
      refine st221 _ ?_
      show Steps p.tables e below (T221.setTop (mkF m 183 #[.val (.int p0), .val (.int p1), .val (.int p2), .val (.int p3), .val (.int p4), .val (.int p5), .val (.int (v0_2 p0 p1 p2 p3 p4 p5)), .val (.ref b1), .val (.ref b51), .unset, .unset, .unset, .unset] [])) _
      refine XS.aload X221.here hx rfl (hb hby at_183) rfl rfl ?_
      show Steps p.tables e below (T221.setTop (mkF m 185 #[.val (.int p0), .val (.int p1), .val (.int p2), .val (.int p3), .val (.int p4), .val (.int p5), .val (.int (v0_2 p0 p1 p2 p3 p4 p5)), .val (.ref b1), .val (.ref b51), .unset, .unset, .unset, .unset] [(.ref b51)])) _
      refine XT.iconstV X221.here hx rfl (4 : Int32) (hb hby at_185) (by decide) ?_
      show Steps p.tables e below (T221.setTop (mkF m 186 #[.val (.int p0), .val (.int p1), .val (.int p2), .val (.int p3), .val (.int p4), .val (.int p5), .val (.int (v0_2 p0 p1 p2 p3 p4 p5)), .val (.ref b1), .val (.ref b51), .unset, .unset, .unset, .unset] [(.int (4 : Int32)), (.ref b51)])) _
      refine XS.aload X221.here hx rfl (hb hby at_186) rfl rfl ?_
      show Steps p.tables e below (T221.setTop (mkF m 188 #[.val (.int p0), .val (.int p1), .val (.int p2), .val (.int p3), .val (.int p4), .val (.int p5), .val (.int (v0_2 p0 p1 p2 p3 p4 p5)), .val (.ref b1), .val (.ref b51), .unset, .unset, .unset, .unset] [(.ref b51), (.int (4 : Int32)), (.ref b51)])) _
      refine XT.iconstV X221.here hx rfl (4 : Int32) (hb hby at_188) (by decide) ?_
      show Steps p.tables e below (T221.setTop (mkF m 189 #[.val (.int p0), .val (.int p1), .val (.int p2), .val (.int p3), .val (.int p4), .val (.int p5), .val (.int (v0_2 p0 p1 p2 p3 p4 p5)), .val (.ref b1), .val (.ref b51), .unset, .unset, .unset, .unset] [(.int (4 : Int32)), (.ref b51), (.int (4 : Int32)), (.ref b51)])) _
      refine X221.iaload hx (j := (4 : Int32)) (v := (.int (v0_14 p0 p1 p2 p3 p4 p5))) (by rw [e221]; exact Ar224.1) (State.isArrayOf_alike hZ.alike Ar224.2.1) Ar224.2.2 hin225 (Has.at Ha224 hin225 rfl) (g := (mkF m 189 #[.val (.int p0), .val (.int p1), .val (.int p2), .val (.int p3), .val (.int p4), .val (.int p5), .val (.int (v0_2 p0 p1 p2 p3 p4 p5)), .val (.ref b1), .val (.ref b51), .unset, .unset, .unset, .unset] [(.int (4 : Int32)), (.ref b51), (.int (4 : Int32)), (.ref b51)])) rfl rfl (hb hby at_189) _ ?_
      show Steps p.tables e below (T221.setTop (mkF m 190 #[.val (.int p0), .val (.int p1), .val (.int p2), .val (.int p3), .val (.int p4), .val (.int p5), .val (.int (v0_2 p0 p1 p2 p3 p4 p5)), .val (.ref b1), .val (.ref b51), .unset, .unset, .unset, .unset] [(.int (v0_14 p0 p1 p2 p3 p4 p5)), (.int (4 : Int32)), (.ref b51)])) _
      refine XS.iload X221.here hx rfl (hb hby at_190) rfl ?_
      show Steps p.tables e below (T221.setTop (mkF m 192 #[.val (.int p0), .val (.int p1), .val (.int p2), .val (.int p3), .val (.int p4), .val (.int p5), .val (.int (v0_2 p0 p1 p2 p3 p4 p5)), .val (.ref b1), .val (.ref b51), .unset, .unset, .unset, .unset] [(.int p5), (.int (v0_14 p0 p1 p2 p3 p4 p5)), (.int (4 : Int32)), (.ref b51)])) _
      refine XS.isub X221.here hx rfl (hb hby at_192) rfl ?_
      show Steps p.tables e below (T221.setTop (mkF m 193 #[.val (.int p0), .val (.int p1), .val (.int p2), .val (.int p3), .val (.int p4), .val (.int p5), .val (.int (v0_2 p0 p1 p2 p3 p4 p5)), .val (.ref b1), .val (.ref b51), .unset, .unset, .unset, .unset] [(.int ((v0_14 p0 p1 p2 p3 p4 p5) - p5)), (.int (4 : Int32)), (.ref b51)])) _
      refine st227 _ ?_
      show Steps p.tables e below (T227.setTop (mkF m 194 #[.val (.int p0), .val (.int p1), .val (.int p2), .val (.int p3), .val (.int p4), .val (.int p5), .val (.int (v0_2 p0 p1 p2 p3 p4 p5)), .val (.ref b1), .val (.ref b51), .unset, .unset, .unset, .unset] [])) _
      refine st230 _ ?_
      show Steps p.tables e below (T230.setTop (mkF m 197 #[.val (.int p0), .val (.int p1), .val (.int p2), .val (.int p3), .val (.int p4), .val (.int p5), .val (.int (v0_2 p0 p1 p2 p3 p4 p5)), .val (.ref b1), .val (.ref b51), .unset, .unset, .unset, .unset] [(.ref b230)])) _
      refine XS.dup X230.here hx rfl (hb hby at_197) rfl rfl ?_
      show Steps p.tables e below (T230.setTop (mkF m 198 #[.val (.int p0), .val (.int p1), .val (.int p2), .val (.int p3), .val (.int p4), .val (.int p5), .val (.int (v0_2 p0 p1 p2 p3 p4 p5)), .val (.ref b1), .val (.ref b51), .unset, .unset, .unset, .unset] [(.ref b230), (.ref b230)])) _
      refine XS.aload X230.here hx rfl (hb hby at_198) rfl rfl ?_
      show Steps p.tables e below (T230.setTop (mkF m 200 #[.val (.int p0), .val (.int p1), .val (.int p2), .val (.int p3), .val (.int p4), .val (.int p5), .val (.int (v0_2 p0 p1 p2 p3 p4 p5)), .val (.ref b1), .val (.ref b51), .unset, .unset, .unset, .unset] [(.ref b1), (.ref b230), (.ref b230)])) _
      refine XT.iconstV X230.here hx rfl (0 : Int32) (hb hby at_200) (by decide) ?_
      show Steps p.tables e below (T230.setTop (mkF m 201 #[.val (.int p0), .val (.int p1), .val (.int p2), .val (.int p3), .val (.int p4), .val (.int p5), .val (.int (v0_2 p0 p1 p2 p3 p4 p5)), .val (.ref b1), .val (.ref b51), .unset, .unset, .unset, .unset] [(.int (0 : Int32)), (.ref b1), (.ref b230), (.ref b230)])) _
      refine X230.iaload hx (j := (0 : Int32)) (v := (.int p0)) (by rw [e230]; exact Ar240.1) (State.isArrayOf_alike hZ.alike Ar240.2.1) Ar240.2.2 hin241 (Has.at Ha240 hin241 rfl) (g := (mkF m 201 #[.val (.int p0), .val (.int p1), .val (.int p2), .val (.int p3), .val (.int p4), .val (.int p5), .val (.int (v0_2 p0 p1 p2 p3 p4 p5)), .val (.ref b1), .val (.ref b51), .unset, .unset, .unset, .unset] [(.int (0 : Int32)), (.ref b1), (.ref b230), (.ref b230)])) rfl rfl (hb hby at_201) _ ?_
      show Steps p.tables e below (T230.setTop (mkF m 202 #[.val (.int p0), .val (.int p1), .val (.int p2), .val (.int p3), .val (.int p4), .val (.int p5), .val (.int (v0_2 p0 p1 p2 p3 p4 p5)), .val (.ref b1), .val (.ref b51), .unset, .unset, .unset, .unset] [(.int p0), (.ref b230), (.ref b230)])) _
      refine XS.aload X230.here hx rfl (hb hby at_202) rfl rfl ?_
      show Steps p.tables e below (T230.setTop (mkF m 204 #[.val (.int p0), .val (.int p1), .val (.int p2), .val (.int p3), .val (.int p4), .val (.int p5), .val (.int (v0_2 p0 p1 p2 p3 p4 p5)), .val (.ref b1), .val (.ref b51), .unset, .unset, .unset, .unset] [(.ref b1), (.int p0), (.ref b230), (.ref b230)])) _
      refine XT.iconstV X230.here hx rfl (1 : Int32) (hb hby at_204) (by decide) ?_
      show Steps p.tables e below (T230.setTop (mkF m 205 #[.val (.int p0), .val (.int p1), .val (.int p2), .val (.int p3), .val (.int p4), .val (.int p5), .val (.int (v0_2 p0 p1 p2 p3 p4 p5)), .val (.ref b1), .val (.ref b51), .unset, .unset, .unset, .unset] [(.int (1 : Int32)), (.ref b1), (.int p0), (.ref b230), (.ref b230)])) _
      refine X230.iaload hx (j := (1 : Int32)) (v := (.int p1)) (by rw [e230]; exact Ar240.1) (State.isArrayOf_alike hZ.alike Ar240.2.1) Ar240.2.2 hin242 (Has.at Ha240 hin242 rfl) (g := (mkF m 205 #[.val (.int p0), .val (.int p1), .val (.int p2), .val (.int p3), .val (.int p4), .val (.int p5), .val (.int (v0_2 p0 p1 p2 p3 p4 p5)), .val (.ref b1), .val (.ref b51), .unset, .unset, .unset, .unset] [(.int (1 : Int32)), (.ref b1), (.int p0), (.ref b230), (.ref b230)])) rfl rfl (hb hby at_205) _ ?_
      show Steps p.tables e below (T230.setTop (mkF m 206 #[.val (.int p0), .val (.int p1), .val (.int p2), .val (.int p3), .val (.int p4), .val (.int p5), .val (.int (v0_2 p0 p1 p2 p3 p4 p5)), .val (.ref b1), .val (.ref b51), .unset, .unset, .unset, .unset] [(.int p1), (.int p0), (.ref b230), (.ref b230)])) _
      refine XS.aload X230.here hx rfl (hb hby at_206) rfl rfl ?_
      show Steps p.tables e below (T230.setTop (mkF m 208 #[.val (.int p0), .val (.int p1), .val (.int p2), .val (.int p3), .val (.int p4), .val (.int p5), .val (.int (v0_2 p0 p1 p2 p3 p4 p5)), .val (.ref b1), .val (.ref b51), .unset, .unset, .unset, .unset] [(.ref b1), (.int p1), (.int p0), (.ref b230), (.ref b230)])) _
      refine XT.iconstV X230.here hx rfl (2 : Int32) (hb hby at_208) (by decide) ?_
      show Steps p.tables e below (T230.setTop (mkF m 209 #[.val (.int p0), .val (.int p1), .val (.int p2), .val (.int p3), .val (.int p4), .val (.int p5), .val (.int (v0_2 p0 p1 p2 p3 p4 p5)), .val (.ref b1), .val (.ref b51), .unset, .unset, .unset, .unset] [(.int (2 : Int32)), (.ref b1), (.int p1), (.int p0), (.ref b230), (.ref b230)])) _
      refine X230.iaload hx (j := (2 : Int32)) (v := (.int p2)) (by rw [e230]; exact Ar240.1) (State.isArrayOf_alike hZ.alike Ar240.2.1) Ar240.2.2 hin243 (Has.at Ha240 hin243 rfl) (g := (mkF m 209 #[.val (.int p0), .val (.int p1), .val (.int p2), .val (.int p3), .val (.int p4), .val (.int p5), .val (.int (v0_2 p0 p1 p2 p3 p4 p5)), .val (.ref b1), .val (.ref b51), .unset, .unset, .unset, .unset] [(.int (2 : Int32)), (.ref b1), (.int p1), (.int p0), (.ref b230), (.ref b230)])) rfl rfl (hb hby at_209) _ ?_
      show Steps p.tables e below (T230.setTop (mkF m 210 #[.val (.int p0), .val (.int p1), .val (.int p2), .val (.int p3), .val (.int p4), .val (.int p5), .val (.int (v0_2 p0 p1 p2 p3 p4 p5)), .val (.ref b1), .val (.ref b51), .unset, .unset, .unset, .unset] [(.int p2), (.int p1), (.int p0), (.ref b230), (.ref b230)])) _
      refine XS.aload X230.here hx rfl (hb hby at_210) rfl rfl ?_
      show Steps p.tables e below (T230.setTop (mkF m 212 #[.val (.int p0), .val (.int p1), .val (.int p2), .val (.int p3), .val (.int p4), .val (.int p5), .val (.int (v0_2 p0 p1 p2 p3 p4 p5)), .val (.ref b1), .val (.ref b51), .unset, .unset, .unset, .unset] [(.ref b1), (.int p2), (.int p1), (.int p0), (.ref b230), (.ref b230)])) _
      refine XT.iconstV X230.here hx rfl (3 : Int32) (hb hby at_212) (by decide) ?_
      show Steps p.tables e below (T230.setTop (mkF m 213 #[.val (.int p0), .val (.int p1), .val (.int p2), .val (.int p3), .val (.int p4), .val (.int p5), .val (.int (v0_2 p0 p1 p2 p3 p4 p5)), .val (.ref b1), .val (.ref b51), .unset, .unset, .unset, .unset] [(.int (3 : Int32)), (.ref b1), (.int p2), (.int p1), (.int p0), (.ref b230), (.ref b230)])) _
      refine X230.iaload hx (j := (3 : Int32)) (v := (.int (v0_3 p0 p1 p2 p3 p4 p5))) (by rw [e230]; exact Ar240.1) (State.isArrayOf_alike hZ.alike Ar240.2.1) Ar240.2.2 hin244 (Has.at Ha240 hin244 rfl) (g := (mkF m 213 #[.val (.int p0), .val (.int p1), .val (.int p2), .val (.int p3), .val (.int p4), .val (.int p5), .val (.int (v0_2 p0 p1 p2 p3 p4 p5)), .val (.ref b1), .val (.ref b51), .unset, .unset, .unset, .unset] [(.int (3 : Int32)), (.ref b1), (.int p2), (.int p1), (.int p0), (.ref b230), (.ref b230)])) rfl rfl (hb hby at_213) _ ?_
      show Steps p.tables e below (T230.setTop (mkF m 214 #[.val (.int p0), .val (.int p1), .val (.int p2), .val (.int p3), .val (.int p4), .val (.int p5), .val (.int (v0_2 p0 p1 p2 p3 p4 p5)), .val (.ref b1), .val (.ref b51), .unset, .unset, .unset, .unset] [(.int (v0_3 p0 p1 p2 p3 p4 p5)), (.int p2), (.int p1), (.int p0), (.ref b230), (.ref b230)])) _
      refine XS.aload X230.here hx rfl (hb hby at_214) rfl rfl ?_
      show Steps p.tables e below (T230.setTop (mkF m 216 #[.val (.int p0), .val (.int p1), .val (.int p2), .val (.int p3), .val (.int p4), .val (.int p5), .val (.int (v0_2 p0 p1 p2 p3 p4 p5)), .val (.ref b1), .val (.ref b51), .unset, .unset, .unset, .unset] [(.ref b1), (.int (v0_3 p0 p1 p2 p3 p4 p5)), (.int p2), (.int p1), (.int p0), (.ref b230), (.ref b230)])) _
      refine XT.iconstV X230.here hx rfl (4 : Int32) (hb hby at_216) (by decide) ?_
      show Steps p.tables e below (T230.setTop (mkF m 217 #[.val (.int p0), .val (.int p1), .val (.int p2), .val (.int p3), .val (.int p4), .val (.int p5), .val (.int (v0_2 p0 p1 p2 p3 p4 p5)), .val (.ref b1), .val (.ref b51), .unset, .unset, .unset, .unset] [(.int (4 : Int32)), (.ref b1), (.int (v0_3 p0 p1 p2 p3 p4 p5)), (.int p2), (.int p1), (.int p0), (.ref b230), (.ref b230)])) _
      refine X230.iaload hx (j := (4 : Int32)) (v := (.int (v0_4 p0 p1 p2 p3 p4 p5))) (by rw [e230]; exact Ar240.1) (State.isArrayOf_alike hZ.alike Ar240.2.1) Ar240.2.2 hin245 (Has.at Ha240 hin245 rfl) (g := (mkF m 217 #[.val (.int p0), .val (.int p1), .val (.int p2), .val (.int p3), .val (.int p4), .val (.int p5), .val (.int (v0_2 p0 p1 p2 p3 p4 p5)), .val (.ref b1), .val (.ref b51), .unset, .unset, .unset, .unset] [(.int (4 : Int32)), (.ref b1), (.int (v0_3 p0 p1 p2 p3 p4 p5)), (.int p2), (.int p1), (.int p0), (.ref b230), (.ref b230)])) rfl rfl (hb hby at_217) _ ?_
      show Steps p.tables e below (T230.setTop (mkF m 218 #[.val (.int p0), .val (.int p1), .val (.int p2), .val (.int p3), .val (.int p4), .val (.int p5), .val (.int (v0_2 p0 p1 p2 p3 p4 p5)), .val (.ref b1), .val (.ref b51), .unset, .unset, .unset, .unset] [(.int (v0_4 p0 p1 p2 p3 p4 p5)), (.int (v0_3 p0 p1 p2 p3 p4 p5)), (.int p2), (.int p1), (.int p0), (.ref b230), (.ref b230)])) _
      refine XS.aload X230.here hx rfl (hb hby at_218) rfl rfl ?_
      show Steps p.tables e below (T230.setTop (mkF m 220 #[.val (.int p0), .val (.int p1), .val (.int p2), .val (.int p3), .val (.int p4), .val (.int p5), .val (.int (v0_2 p0 p1 p2 p3 p4 p5)), .val (.ref b1), .val (.ref b51), .unset, .unset, .unset, .unset] [(.ref b1), (.int (v0_4 p0 p1 p2 p3 p4 p5)), (.int (v0_3 p0 p1 p2 p3 p4 p5)), (.int p2), (.int p1), (.int p0), (.ref b230), (.ref b230)])) _
      refine XT.iconstV X230.here hx rfl (5 : Int32) (hb hby at_220) (by decide) ?_
      show Steps p.tables e below (T230.setTop (mkF m 221 #[.val (.int p0), .val (.int p1), .val (.int p2), .val (.int p3), .val (.int p4), .val (.int p5), .val (.int (v0_2 p0 p1 p2 p3 p4 p5)), .val (.ref b1), .val (.ref b51), .unset, .unset, .unset, .unset] [(.int (5 : Int32)), (.ref b1), (.int (v0_4 p0 p1 p2 p3 p4 p5)), (.int (v0_3 p0 p1 p2 p3 p4 p5)), (.int p2), (.int p1), (.int p0), (.ref b230), (.ref b230)])) _
      refine X230.iaload hx (j := (5 : Int32)) (v := (.int (v0_5 p0 p1 p2 p3 p4 p5))) (by rw [e230]; exact Ar240.1) (State.isArrayOf_alike hZ.alike Ar240.2.1) Ar240.2.2 hin246 (Has.at Ha240 hin246 rfl) (g := (mkF m 221 #[.val (.int p0), .val (.int p1), .val (.int p2), .val (.int p3), .val (.int p4), .val (.int p5), .val (.int (v0_2 p0 p1 p2 p3 p4 p5)), .val (.ref b1), .val (.ref b51), .unset, .unset, .unset, .unset] [(.int (5 : Int32)), (.ref b1), (.int (v0_4 p0 p1 p2 p3 p4 p5)), (.int (v0_3 p0 p1 p2 p3 p4 p5)), (.int p2), (.int p1), (.int p0), (.ref b230), (.ref b230)])) rfl rfl (hb hby at_221) _ ?_
      show Steps p.tables e below (T230.setTop (mkF m 222 #[.val (.int p0), .val (.int p1), .val (.int p2), .val (.int p3), .val (.int p4), .val (.int p5), .val (.int (v0_2 p0 p1 p2 p3 p4 p5)), .val (.ref b1), .val (.ref b51), .unset, .unset, .unset, .unset] [(.int (v0_5 p0 p1 p2 p3 p4 p5)), (.int (v0_4 p0 p1 p2 p3 p4 p5)), (.int (v0_3 p0 p1 p2 p3 p4 p5)), (.int p2), (.int p1), (.int p0), (.ref b230), (.ref b230)])) _
      refine XS.aload X230.here hx rfl (hb hby at_222) rfl rfl ?_
      show Steps p.tables e below (T230.setTop (mkF m 224 #[.val (.int p0), .val (.int p1), .val (.int p2), .val (.int p3), .val (.int p4), .val (.int p5), .val (.int (v0_2 p0 p1 p2 p3 p4 p5)), .val (.ref b1), .val (.ref b51), .unset, .unset, .unset, .unset] [(.ref b1), (.int (v0_5 p0 p1 p2 p3 p4 p5)), (.int (v0_4 p0 p1 p2 p3 p4 p5)), (.int (v0_3 p0 p1 p2 p3 p4 p5)), (.int p2), (.int p1), (.int p0), (.ref b230), (.ref b230)])) _
      refine XT.bipushV X230.here hx rfl (6 : Int32) (hb hby at_224) (by decide) ?_
      show Steps p.tables e below (T230.setTop (mkF m 226 #[.val (.int p0), .val (.int p1), .val (.int p2), .val (.int p3), .val (.int p4), .val (.int p5), .val (.int (v0_2 p0 p1 p2 p3 p4 p5)), .val (.ref b1), .val (.ref b51), .unset, .unset, .unset, .unset] [(.int (6 : Int32)), (.ref b1), (.int (v0_5 p0 p1 p2 p3 p4 p5)), (.int (v0_4 p0 p1 p2 p3 p4 p5)), (.int (v0_3 p0 p1 p2 p3 p4 p5)), (.int p2), (.int p1), (.int p0), (.ref b230), (.ref b230)])) _
      refine X230.iaload hx (j := (6 : Int32)) (v := (.int (v0_6 p0 p1 p2 p3 p4 p5))) (by rw [e230]; exact Ar240.1) (State.isArrayOf_alike hZ.alike Ar240.2.1) Ar240.2.2 hin247 (Has.at Ha240 hin247 rfl) (g := (mkF m 226 #[.val (.int p0), .val (.int p1), .val (.int p2), .val (.int p3), .val (.int p4), .val (.int p5), .val (.int (v0_2 p0 p1 p2 p3 p4 p5)), .val (.ref b1), .val (.ref b51), .unset, .unset, .unset, .unset] [(.int (6 : Int32)), (.ref b1), (.int (v0_5 p0 p1 p2 p3 p4 p5)), (.int (v0_4 p0 p1 p2 p3 p4 p5)), (.int (v0_3 p0 p1 p2 p3 p4 p5)), (.int p2), (.int p1), (.int p0), (.ref b230), (.ref b230)])) rfl rfl (hb hby at_226) _ ?_
      show Steps p.tables e below (T230.setTop (mkF m 227 #[.val (.int p0), .val (.int p1), .val (.int p2), .val (.int p3), .val (.int p4), .val (.int p5), .val (.int (v0_2 p0 p1 p2 p3 p4 p5)), .val (.ref b1), .val (.ref b51), .unset, .unset, .unset, .unset] [(.int (v0_6 p0 p1 p2 p3 p4 p5)), (.int (v0_5 p0 p1 p2 p3 p4 p5)), (.int (v0_4 p0 p1 p2 p3 p4 p5)), (.int (v0_3 p0 p1 p2 p3 p4 p5)), (.int p2), (.int p1), (.int p0), (.ref b230), (.ref b230)])) _
      refine XS.aload X230.here hx rfl (hb hby at_227) rfl rfl ?_
      show Steps p.tables e below (T230.setTop (mkF m 229 #[.val (.int p0), .val (.int p1), .val (.int p2), .val (.int p3), .val (.int p4), .val (.int p5), .val (.int (v0_2 p0 p1 p2 p3 p4 p5)), .val (.ref b1), .val (.ref b51), .unset, .unset, .unset, .unset] [(.ref b1), (.int (v0_6 p0 p1 p2 p3 p4 p5)), (.int (v0_5 p0 p1 p2 p3 p4 p5)), (.int (v0_4 p0 p1 p2 p3 p4 p5)), (.int (v0_3 p0 p1 p2 p3 p4 p5)), (.int p2), (.int p1), (.int p0), (.ref b230), (.ref b230)])) _
      refine XT.bipushV X230.here hx rfl (7 : Int32) (hb hby at_229) (by decide) ?_
      show Steps p.tables e below (T230.setTop (mkF m 231 #[.val (.int p0), .val (.int p1), .val (.int p2), .val (.int p3), .val (.int p4), .val (.int p5), .val (.int (v0_2 p0 p1 p2 p3 p4 p5)), .val (.ref b1), .val (.ref b51), .unset, .unset, .unset, .unset] [(.int (7 : Int32)), (.ref b1), (.int (v0_6 p0 p1 p2 p3 p4 p5)), (.int (v0_5 p0 p1 p2 p3 p4 p5)), (.int (v0_4 p0 p1 p2 p3 p4 p5)), (.int (v0_3 p0 p1 p2 p3 p4 p5)), (.int p2), (.int p1), (.int p0), (.ref b230), (.ref b230)])) _
      refine X230.iaload hx (j := (7 : Int32)) (v := (.int (v0_7 p0 p1 p2 p3 p4 p5))) (by rw [e230]; exact Ar240.1) (State.isArrayOf_alike hZ.alike Ar240.2.1) Ar240.2.2 hin248 (Has.at Ha240 hin248 rfl) (g := (mkF m 231 #[.val (.int p0), .val (.int p1), .val (.int p2), .val (.int p3), .val (.int p4), .val (.int p5), .val (.int (v0_2 p0 p1 p2 p3 p4 p5)), .val (.ref b1), .val (.ref b51), .unset, .unset, .unset, .unset] [(.int (7 : Int32)), (.ref b1), (.int (v0_6 p0 p1 p2 p3 p4 p5)), (.int (v0_5 p0 p1 p2 p3 p4 p5)), (.int (v0_4 p0 p1 p2 p3 p4 p5)), (.int (v0_3 p0 p1 p2 p3 p4 p5)), (.int p2), (.int p1), (.int p0), (.ref b230), (.ref b230)])) rfl rfl (hb hby at_231) _ ?_
      show Steps p.tables e below (T230.setTop (mkF m 232 #[.val (.int p0), .val (.int p1), .val (.int p2), .val (.int p3), .val (.int p4), .val (.int p5), .val (.int (v0_2 p0 p1 p2 p3 p4 p5)), .val (.ref b1), .val (.ref b51), .unset, .unset, .unset, .unset] [(.int (v0_7 p0 p1 p2 p3 p4 p5)), (.int (v0_6 p0 p1 p2 p3 p4 p5)), (.int (v0_5 p0 p1 p2 p3 p4 p5)), (.int (v0_4 p0 p1 p2 p3 p4 p5)), (.int (v0_3 p0 p1 p2 p3 p4 p5)), (.int p2), (.int p1), (.int p0), (.ref b230), (.ref b230)])) _
      refine XS.aload X230.here hx rfl (hb hby at_232) rfl rfl ?_
      show Steps p.tables e below (T230.setTop (mkF m 234 #[.val (.int p0), .val (.int p1), .val (.int p2), .val (.int p3), .val (.int p4), .val (.int p5), .val (.int (v0_2 p0 p1 p2 p3 p4 p5)), .val (.ref b1), .val (.ref b51), .unset, .unset, .unset, .unset] [(.ref b1), (.int (v0_7 p0 p1 p2 p3 p4 p5)), (.int (v0_6 p0 p1 p2 p3 p4 p5)), (.int (v0_5 p0 p1 p2 p3 p4 p5)), (.int (v0_4 p0 p1 p2 p3 p4 p5)), (.int (v0_3 p0 p1 p2 p3 p4 p5)), (.int p2), (.int p1), (.int p0), (.ref b230), (.ref b230)])) _
      refine XT.bipushV X230.here hx rfl (8 : Int32) (hb hby at_234) (by decide) ?_
      show Steps p.tables e below (T230.setTop (mkF m 236 #[.val (.int p0), .val (.int p1), .val (.int p2), .val (.int p3), .val (.int p4), .val (.int p5), .val (.int (v0_2 p0 p1 p2 p3 p4 p5)), .val (.ref b1), .val (.ref b51), .unset, .unset, .unset, .unset] [(.int (8 : Int32)), (.ref b1), (.int (v0_7 p0 p1 p2 p3 p4 p5)), (.int (v0_6 p0 p1 p2 p3 p4 p5)), (.int (v0_5 p0 p1 p2 p3 p4 p5)), (.int (v0_4 p0 p1 p2 p3 p4 p5)), (.int (v0_3 p0 p1 p2 p3 p4 p5)), (.int p2), (.int p1), (.int p0), (.ref b230), (.ref b230)])) _
      refine X230.iaload hx (j := (8 : Int32)) (v := (.int (v0_8 p0 p1 p2 p3 p4 p5))) (by rw [e230]; exact Ar240.1) (State.isArrayOf_alike hZ.alike Ar240.2.1) Ar240.2.2 hin249 (Has.at Ha240 hin249 rfl) (g := (mkF m 236 #[.val (.int p0), .val (.int p1), .val (.int p2), .val (.int p3), .val (.int p4), .val (.int p5), .val (.int (v0_2 p0 p1 p2 p3 p4 p5)), .val (.ref b1), .val (.ref b51), .unset, .unset, .unset, .unset] [(.int (8 : Int32)), (.ref b1), (.int (v0_7 p0 p1 p2 p3 p4 p5)), (.int (v0_6 p0 p1 p2 p3 p4 p5)), (.int (v0_5 p0 p1 p2 p3 p4 p5)), (.int (v0_4 p0 p1 p2 p3 p4 p5)), (.int (v0_3 p0 p1 p2 p3 p4 p5)), (.int p2), (.int p1), (.int p0), (.ref b230), (.ref b230)])) rfl rfl (hb hby at_236) _ ?_
      show Steps p.tables e below (T230.setTop (mkF m 237 #[.val (.int p0), .val (.int p1), .val (.int p2), .val (.int p3), .val (.int p4), .val (.int p5), .val (.int (v0_2 p0 p1 p2 p3 p4 p5)), .val (.ref b1), .val (.ref b51), .unset, .unset, .unset, .unset] [(.int (v0_8 p0 p1 p2 p3 p4 p5)), (.int (v0_7 p0 p1 p2 p3 p4 p5)), (.int (v0_6 p0 p1 p2 p3 p4 p5)), (.int (v0_5 p0 p1 p2 p3 p4 p5)), (.int (v0_4 p0 p1 p2 p3 p4 p5)), (.int (v0_3 p0 p1 p2 p3 p4 p5)), (.int p2), (.int p1), (.int p0), (.ref b230), (.ref b230)])) _
      refine st250.trans ?_
      show Steps p.tables e below (T250.setTop (mkF m 240 #[.val (.int p0), .val (.int p1), .val (.int p2), .val (.int p3), .val (.int p4), .val (.int p5), .val (.int (v0_2 p0 p1 p2 p3 p4 p5)), .val (.ref b1), .val (.ref b51), .unset, .unset, .unset, .unset] [(.ref b230)])) _
      refine XS.astore X250.here hx rfl (hb hby at_240) rfl rfl (l' := #[.val (.int p0), .val (.int p1), .val (.int p2), .val (.int p3), .val (.int p4), .val (.int p5), .val (.int (v0_2 p0 p1 p2 p3 p4 p5)), .val (.ref b1), .val (.ref b51), .val (.ref b230), .unset, .unset, .unset]) rfl ?_
      show Steps p.tables e below (T250.setTop (mkF m 242 #[.val (.int p0), .val (.int p1), .val (.int p2), .val (.int p3), .val (.int p4), .val (.int p5), .val (.int (v0_2 p0 p1 p2 p3 p4 p5)), .val (.ref b1), .val (.ref b51), .val (.ref b230), .unset, .unset, .unset] [])) _
      refine st253 _ ?_
      show Steps p.tables e below (T253.setTop (mkF m 245 #[.val (.int p0), .val (.int p1), .val (.int p2), .val (.int p3), .val (.int p4), .val (.int p5), .val (.int (v0_2 p0 p1 p2 p3 p4 p5)), .val (.ref b1), .val (.ref b51), .val (.ref b230), .unset, .unset, .unset] [(.ref b253)])) _
      refine XS.dup X253.here hx rfl (hb hby at_245) rfl rfl ?_
      show Steps p.tables e below (T253.setTop (mkF m 246 #[.val (.int p0), .val (.int p1), .val (.int p2), .val (.int p3), .val (.int p4), .val (.int p5), .val (.int (v0_2 p0 p1 p2 p3 p4 p5)), .val (.ref b1), .val (.ref b51), .val (.ref b230), .unset, .unset, .unset] [(.ref b253), (.ref b253)])) _
      refine XS.aload X253.here hx rfl (hb hby at_246) rfl rfl ?_
      show Steps p.tables e below (T253.setTop (mkF m 248 #[.val (.int p0), .val (.int p1), .val (.int p2), .val (.int p3), .val (.int p4), .val (.int p5), .val (.int (v0_2 p0 p1 p2 p3 p4 p5)), .val (.ref b1), .val (.ref b51), .val (.ref b230), .unset, .unset, .unset] [(.ref b51), (.ref b253), (.ref b253)])) _
      refine XT.iconstV X253.here hx rfl (0 : Int32) (hb hby at_248) (by decide) ?_
      show Steps p.tables e below (T253.setTop (mkF m 249 #[.val (.int p0), .val (.int p1), .val (.int p2), .val (.int p3), .val (.int p4), .val (.int p5), .val (.int (v0_2 p0 p1 p2 p3 p4 p5)), .val (.ref b1), .val (.ref b51), .val (.ref b230), .unset, .unset, .unset] [(.int (0 : Int32)), (.ref b51), (.ref b253), (.ref b253)])) _
      refine X253.iaload hx (j := (0 : Int32)) (v := (.int (v0_10 p0 p1 p2 p3 p4 p5))) (by rw [e253]; exact Ar264.1) (State.isArrayOf_alike hZ.alike Ar264.2.1) Ar264.2.2 hin265 (Has.at Ha264 hin265 rfl) (g := (mkF m 249 #[.val (.int p0), .val (.int p1), .val (.int p2), .val (.int p3), .val (.int p4), .val (.int p5), .val (.int (v0_2 p0 p1 p2 p3 p4 p5)), .val (.ref b1), .val (.ref b51), .val (.ref b230), .unset, .unset, .unset] [(.int (0 : Int32)), (.ref b51), (.ref b253), (.ref b253)])) rfl rfl (hb hby at_249) _ ?_
      show Steps p.tables e below (T253.setTop (mkF m 250 #[.val (.int p0), .val (.int p1), .val (.int p2), .val (.int p3), .val (.int p4), .val (.int p5), .val (.int (v0_2 p0 p1 p2 p3 p4 p5)), .val (.ref b1), .val (.ref b51), .val (.ref b230), .unset, .unset, .unset] [(.int (v0_10 p0 p1 p2 p3 p4 p5)), (.ref b253), (.ref b253)])) _
      refine XS.aload X253.here hx rfl (hb hby at_250) rfl rfl ?_
      show Steps p.tables e below (T253.setTop (mkF m 252 #[.val (.int p0), .val (.int p1), .val (.int p2), .val (.int p3), .val (.int p4), .val (.int p5), .val (.int (v0_2 p0 p1 p2 p3 p4 p5)), .val (.ref b1), .val (.ref b51), .val (.ref b230), .unset, .unset, .unset] [(.ref b51), (.int (v0_10 p0 p1 p2 p3 p4 p5)), (.ref b253), (.ref b253)])) _
      refine XT.iconstV X253.here hx rfl (1 : Int32) (hb hby at_252) (by decide) ?_
      show Steps p.tables e below (T253.setTop (mkF m 253 #[.val (.int p0), .val (.int p1), .val (.int p2), .val (.int p3), .val (.int p4), .val (.int p5), .val (.int (v0_2 p0 p1 p2 p3 p4 p5)), .val (.ref b1), .val (.ref b51), .val (.ref b230), .unset, .unset, .unset] [(.int (1 : Int32)), (.ref b51), (.int (v0_10 p0 p1 p2 p3 p4 p5)), (.ref b253), (.ref b253)])) _
      refine X253.iaload hx (j := (1 : Int32)) (v := (.int (v0_25 p0 p1 p2 p3 p4 p5))) (by rw [e253]; exact Ar264.1) (State.isArrayOf_alike hZ.alike Ar264.2.1) Ar264.2.2 hin266 (Has.at Ha264 hin266 rfl) (g := (mkF m 253 #[.val (.int p0), .val (.int p1), .val (.int p2), .val (.int p3), .val (.int p4), .val (.int p5), .val (.int (v0_2 p0 p1 p2 p3 p4 p5)), .val (.ref b1), .val (.ref b51), .val (.ref b230), .unset, .unset, .unset] [(.int (1 : Int32)), (.ref b51), (.int (v0_10 p0 p1 p2 p3 p4 p5)), (.ref b253), (.ref b253)])) rfl rfl (hb hby at_253) _ ?_
      show Steps p.tables e below (T253.setTop (mkF m 254 #[.val (.int p0), .val (.int p1), .val (.int p2), .val (.int p3), .val (.int p4), .val (.int p5), .val (.int (v0_2 p0 p1 p2 p3 p4 p5)), .val (.ref b1), .val (.ref b51), .val (.ref b230), .unset, .unset, .unset] [(.int (v0_25 p0 p1 p2 p3 p4 p5)), (.int (v0_10 p0 p1 p2 p3 p4 p5)), (.ref b253), (.ref b253)])) _
      refine XS.aload X253.here hx rfl (hb hby at_254) rfl rfl ?_
      show Steps p.tables e below (T253.setTop (mkF m 256 #[.val (.int p0), .val (.int p1), .val (.int p2), .val (.int p3), .val (.int p4), .val (.int p5), .val (.int (v0_2 p0 p1 p2 p3 p4 p5)), .val (.ref b1), .val (.ref b51), .val (.ref b230), .unset, .unset, .unset] [(.ref b51), (.int (v0_25 p0 p1 p2 p3 p4 p5)), (.int (v0_10 p0 p1 p2 p3 p4 p5)), (.ref b253), (.ref b253)])) _
      refine XT.iconstV X253.here hx rfl (2 : Int32) (hb hby at_256) (by decide) ?_
      show Steps p.tables e below (T253.setTop (mkF m 257 #[.val (.int p0), .val (.int p1), .val (.int p2), .val (.int p3), .val (.int p4), .val (.int p5), .val (.int (v0_2 p0 p1 p2 p3 p4 p5)), .val (.ref b1), .val (.ref b51), .val (.ref b230), .unset, .unset, .unset] [(.int (2 : Int32)), (.ref b51), (.int (v0_25 p0 p1 p2 p3 p4 p5)), (.int (v0_10 p0 p1 p2 p3 p4 p5)), (.ref b253), (.ref b253)])) _
      refine X253.iaload hx (j := (2 : Int32)) (v := (.int (v0_12 p0 p1 p2 p3 p4 p5))) (by rw [e253]; exact Ar264.1) (State.isArrayOf_alike hZ.alike Ar264.2.1) Ar264.2.2 hin267 (Has.at Ha264 hin267 rfl) (g := (mkF m 257 #[.val (.int p0), .val (.int p1), .val (.int p2), .val (.int p3), .val (.int p4), .val (.int p5), .val (.int (v0_2 p0 p1 p2 p3 p4 p5)), .val (.ref b1), .val (.ref b51), .val (.ref b230), .unset, .unset, .unset] [(.int (2 : Int32)), (.ref b51), (.int (v0_25 p0 p1 p2 p3 p4 p5)), (.int (v0_10 p0 p1 p2 p3 p4 p5)), (.ref b253), (.ref b253)])) rfl rfl (hb hby at_257) _ ?_
      show Steps p.tables e below (T253.setTop (mkF m 258 #[.val (.int p0), .val (.int p1), .val (.int p2), .val (.int p3), .val (.int p4), .val (.int p5), .val (.int (v0_2 p0 p1 p2 p3 p4 p5)), .val (.ref b1), .val (.ref b51), .val (.ref b230), .unset, .unset, .unset] [(.int (v0_12 p0 p1 p2 p3 p4 p5)), (.int (v0_25 p0 p1 p2 p3 p4 p5)), (.int (v0_10 p0 p1 p2 p3 p4 p5)), (.ref b253), (.ref b253)])) _
      refine XS.aload X253.here hx rfl (hb hby at_258) rfl rfl ?_
      show Steps p.tables e below (T253.setTop (mkF m 260 #[.val (.int p0), .val (.int p1), .val (.int p2), .val (.int p3), .val (.int p4), .val (.int p5), .val (.int (v0_2 p0 p1 p2 p3 p4 p5)), .val (.ref b1), .val (.ref b51), .val (.ref b230), .unset, .unset, .unset] [(.ref b51), (.int (v0_12 p0 p1 p2 p3 p4 p5)), (.int (v0_25 p0 p1 p2 p3 p4 p5)), (.int (v0_10 p0 p1 p2 p3 p4 p5)), (.ref b253), (.ref b253)])) _
      refine XT.iconstV X253.here hx rfl (3 : Int32) (hb hby at_260) (by decide) ?_
      show Steps p.tables e below (T253.setTop (mkF m 261 #[.val (.int p0), .val (.int p1), .val (.int p2), .val (.int p3), .val (.int p4), .val (.int p5), .val (.int (v0_2 p0 p1 p2 p3 p4 p5)), .val (.ref b1), .val (.ref b51), .val (.ref b230), .unset, .unset, .unset] [(.int (3 : Int32)), (.ref b51), (.int (v0_12 p0 p1 p2 p3 p4 p5)), (.int (v0_25 p0 p1 p2 p3 p4 p5)), (.int (v0_10 p0 p1 p2 p3 p4 p5)), (.ref b253), (.ref b253)])) _
      refine X253.iaload hx (j := (3 : Int32)) (v := (.int (v0_26 p0 p1 p2 p3 p4 p5))) (by rw [e253]; exact Ar264.1) (State.isArrayOf_alike hZ.alike Ar264.2.1) Ar264.2.2 hin268 (Has.at Ha264 hin268 rfl) (g := (mkF m 261 #[.val (.int p0), .val (.int p1), .val (.int p2), .val (.int p3), .val (.int p4), .val (.int p5), .val (.int (v0_2 p0 p1 p2 p3 p4 p5)), .val (.ref b1), .val (.ref b51), .val (.ref b230), .unset, .unset, .unset] [(.int (3 : Int32)), (.ref b51), (.int (v0_12 p0 p1 p2 p3 p4 p5)), (.int (v0_25 p0 p1 p2 p3 p4 p5)), (.int (v0_10 p0 p1 p2 p3 p4 p5)), (.ref b253), (.ref b253)])) rfl rfl (hb hby at_261) _ ?_
      show Steps p.tables e below (T253.setTop (mkF m 262 #[.val (.int p0), .val (.int p1), .val (.int p2), .val (.int p3), .val (.int p4), .val (.int p5), .val (.int (v0_2 p0 p1 p2 p3 p4 p5)), .val (.ref b1), .val (.ref b51), .val (.ref b230), .unset, .unset, .unset] [(.int (v0_26 p0 p1 p2 p3 p4 p5)), (.int (v0_12 p0 p1 p2 p3 p4 p5)), (.int (v0_25 p0 p1 p2 p3 p4 p5)), (.int (v0_10 p0 p1 p2 p3 p4 p5)), (.ref b253), (.ref b253)])) _
      refine XS.aload X253.here hx rfl (hb hby at_262) rfl rfl ?_
      show Steps p.tables e below (T253.setTop (mkF m 264 #[.val (.int p0), .val (.int p1), .val (.int p2), .val (.int p3), .val (.int p4), .val (.int p5), .val (.int (v0_2 p0 p1 p2 p3 p4 p5)), .val (.ref b1), .val (.ref b51), .val (.ref b230), .unset, .unset, .unset] [(.ref b51), (.int (v0_26 p0 p1 p2 p3 p4 p5)), (.int (v0_12 p0 p1 p2 p3 p4 p5)), (.int (v0_25 p0 p1 p2 p3 p4 p5)), (.int (v0_10 p0 p1 p2 p3 p4 p5)), (.ref b253), (.ref b253)])) _
      refine XT.iconstV X253.here hx rfl (4 : Int32) (hb hby at_264) (by decide) ?_
      show Steps p.tables e below (T253.setTop (mkF m 265 #[.val (.int p0), .val (.int p1), .val (.int p2), .val (.int p3), .val (.int p4), .val (.int p5), .val (.int (v0_2 p0 p1 p2 p3 p4 p5)), .val (.ref b1), .val (.ref b51), .val (.ref b230), .unset, .unset, .unset] [(.int (4 : Int32)), (.ref b51), (.int (v0_26 p0 p1 p2 p3 p4 p5)), (.int (v0_12 p0 p1 p2 p3 p4 p5)), (.int (v0_25 p0 p1 p2 p3 p4 p5)), (.int (v0_10 p0 p1 p2 p3 p4 p5)), (.ref b253), (.ref b253)])) _
      refine X253.iaload hx (j := (4 : Int32)) (v := (.int (v0_27 p0 p1 p2 p3 p4 p5))) (by rw [e253]; exact Ar264.1) (State.isArrayOf_alike hZ.alike Ar264.2.1) Ar264.2.2 hin269 (Has.at Ha264 hin269 rfl) (g := (mkF m 265 #[.val (.int p0), .val (.int p1), .val (.int p2), .val (.int p3), .val (.int p4), .val (.int p5), .val (.int (v0_2 p0 p1 p2 p3 p4 p5)), .val (.ref b1), .val (.ref b51), .val (.ref b230), .unset, .unset, .unset] [(.int (4 : Int32)), (.ref b51), (.int (v0_26 p0 p1 p2 p3 p4 p5)), (.int (v0_12 p0 p1 p2 p3 p4 p5)), (.int (v0_25 p0 p1 p2 p3 p4 p5)), (.int (v0_10 p0 p1 p2 p3 p4 p5)), (.ref b253), (.ref b253)])) rfl rfl (hb hby at_265) _ ?_
      show Steps p.tables e below (T253.setTop (mkF m 266 #[.val (.int p0), .val (.int p1), .val (.int p2), .val (.int p3), .val (.int p4), .val (.int p5), .val (.int (v0_2 p0 p1 p2 p3 p4 p5)), .val (.ref b1), .val (.ref b51), .val (.ref b230), .unset, .unset, .unset] [(.int (v0_27 p0 p1 p2 p3 p4 p5)), (.int (v0_26 p0 p1 p2 p3 p4 p5)), (.int (v0_12 p0 p1 p2 p3 p4 p5)), (.int (v0_25 p0 p1 p2 p3 p4 p5)), (.int (v0_10 p0 p1 p2 p3 p4 p5)), (.ref b253), (.ref b253)])) _
      refine XS.aload X253.here hx rfl (hb hby at_266) rfl rfl ?_
      show Steps p.tables e below (T253.setTop (mkF m 268 #[.val (.int p0), .val (.int p1), .val (.int p2), .val (.int p3), .val (.int p4), .val (.int p5), .val (.int (v0_2 p0 p1 p2 p3 p4 p5)), .val (.ref b1), .val (.ref b51), .val (.ref b230), .unset, .unset, .unset] [(.ref b51), (.int (v0_27 p0 p1 p2 p3 p4 p5)), (.int (v0_26 p0 p1 p2 p3 p4 p5)), (.int (v0_12 p0 p1 p2 p3 p4 p5)), (.int (v0_25 p0 p1 p2 p3 p4 p5)), (.int (v0_10 p0 p1 p2 p3 p4 p5)), (.ref b253), (.ref b253)])) _
      refine XT.iconstV X253.here hx rfl (5 : Int32) (hb hby at_268) (by decide) ?_
      show Steps p.tables e below (T253.setTop (mkF m 269 #[.val (.int p0), .val (.int p1), .val (.int p2), .val (.int p3), .val (.int p4), .val (.int p5), .val (.int (v0_2 p0 p1 p2 p3 p4 p5)), .val (.ref b1), .val (.ref b51), .val (.ref b230), .unset, .unset, .unset] [(.int (5 : Int32)), (.ref b51), (.int (v0_27 p0 p1 p2 p3 p4 p5)), (.int (v0_26 p0 p1 p2 p3 p4 p5)), (.int (v0_12 p0 p1 p2 p3 p4 p5)), (.int (v0_25 p0 p1 p2 p3 p4 p5)), (.int (v0_10 p0 p1 p2 p3 p4 p5)), (.ref b253), (.ref b253)])) _
      refine X253.iaload hx (j := (5 : Int32)) (v := (.int (v0_15 p0 p1 p2 p3 p4 p5))) (by rw [e253]; exact Ar264.1) (State.isArrayOf_alike hZ.alike Ar264.2.1) Ar264.2.2 hin270 (Has.at Ha264 hin270 rfl) (g := (mkF m 269 #[.val (.int p0), .val (.int p1), .val (.int p2), .val (.int p3), .val (.int p4), .val (.int p5), .val (.int (v0_2 p0 p1 p2 p3 p4 p5)), .val (.ref b1), .val (.ref b51), .val (.ref b230), .unset, .unset, .unset] [(.int (5 : Int32)), (.ref b51), (.int (v0_27 p0 p1 p2 p3 p4 p5)), (.int (v0_26 p0 p1 p2 p3 p4 p5)), (.int (v0_12 p0 p1 p2 p3 p4 p5)), (.int (v0_25 p0 p1 p2 p3 p4 p5)), (.int (v0_10 p0 p1 p2 p3 p4 p5)), (.ref b253), (.ref b253)])) rfl rfl (hb hby at_269) _ ?_
      show Steps p.tables e below (T253.setTop (mkF m 270 #[.val (.int p0), .val (.int p1), .val (.int p2), .val (.int p3), .val (.int p4), .val (.int p5), .val (.int (v0_2 p0 p1 p2 p3 p4 p5)), .val (.ref b1), .val (.ref b51), .val (.ref b230), .unset, .unset, .unset] [(.int (v0_15 p0 p1 p2 p3 p4 p5)), (.int (v0_27 p0 p1 p2 p3 p4 p5)), (.int (v0_26 p0 p1 p2 p3 p4 p5)), (.int (v0_12 p0 p1 p2 p3 p4 p5)), (.int (v0_25 p0 p1 p2 p3 p4 p5)), (.int (v0_10 p0 p1 p2 p3 p4 p5)), (.ref b253), (.ref b253)])) _
      refine XS.aload X253.here hx rfl (hb hby at_270) rfl rfl ?_
      show Steps p.tables e below (T253.setTop (mkF m 272 #[.val (.int p0), .val (.int p1), .val (.int p2), .val (.int p3), .val (.int p4), .val (.int p5), .val (.int (v0_2 p0 p1 p2 p3 p4 p5)), .val (.ref b1), .val (.ref b51), .val (.ref b230), .unset, .unset, .unset] [(.ref b51), (.int (v0_15 p0 p1 p2 p3 p4 p5)), (.int (v0_27 p0 p1 p2 p3 p4 p5)), (.int (v0_26 p0 p1 p2 p3 p4 p5)), (.int (v0_12 p0 p1 p2 p3 p4 p5)), (.int (v0_25 p0 p1 p2 p3 p4 p5)), (.int (v0_10 p0 p1 p2 p3 p4 p5)), (.ref b253), (.ref b253)])) _
      refine XT.bipushV X253.here hx rfl (6 : Int32) (hb hby at_272) (by decide) ?_
      show Steps p.tables e below (T253.setTop (mkF m 274 #[.val (.int p0), .val (.int p1), .val (.int p2), .val (.int p3), .val (.int p4), .val (.int p5), .val (.int (v0_2 p0 p1 p2 p3 p4 p5)), .val (.ref b1), .val (.ref b51), .val (.ref b230), .unset, .unset, .unset] [(.int (6 : Int32)), (.ref b51), (.int (v0_15 p0 p1 p2 p3 p4 p5)), (.int (v0_27 p0 p1 p2 p3 p4 p5)), (.int (v0_26 p0 p1 p2 p3 p4 p5)), (.int (v0_12 p0 p1 p2 p3 p4 p5)), (.int (v0_25 p0 p1 p2 p3 p4 p5)), (.int (v0_10 p0 p1 p2 p3 p4 p5)), (.ref b253), (.ref b253)])) _
      refine X253.iaload hx (j := (6 : Int32)) (v := (.int (v0_16 p0 p1 p2 p3 p4 p5))) (by rw [e253]; exact Ar264.1) (State.isArrayOf_alike hZ.alike Ar264.2.1) Ar264.2.2 hin271 (Has.at Ha264 hin271 rfl) (g := (mkF m 274 #[.val (.int p0), .val (.int p1), .val (.int p2), .val (.int p3), .val (.int p4), .val (.int p5), .val (.int (v0_2 p0 p1 p2 p3 p4 p5)), .val (.ref b1), .val (.ref b51), .val (.ref b230), .unset, .unset, .unset] [(.int (6 : Int32)), (.ref b51), (.int (v0_15 p0 p1 p2 p3 p4 p5)), (.int (v0_27 p0 p1 p2 p3 p4 p5)), (.int (v0_26 p0 p1 p2 p3 p4 p5)), (.int (v0_12 p0 p1 p2 p3 p4 p5)), (.int (v0_25 p0 p1 p2 p3 p4 p5)), (.int (v0_10 p0 p1 p2 p3 p4 p5)), (.ref b253), (.ref b253)])) rfl rfl (hb hby at_274) _ ?_
      show Steps p.tables e below (T253.setTop (mkF m 275 #[.val (.int p0), .val (.int p1), .val (.int p2), .val (.int p3), .val (.int p4), .val (.int p5), .val (.int (v0_2 p0 p1 p2 p3 p4 p5)), .val (.ref b1), .val (.ref b51), .val (.ref b230), .unset, .unset, .unset] [(.int (v0_16 p0 p1 p2 p3 p4 p5)), (.int (v0_15 p0 p1 p2 p3 p4 p5)), (.int (v0_27 p0 p1 p2 p3 p4 p5)), (.int (v0_26 p0 p1 p2 p3 p4 p5)), (.int (v0_12 p0 p1 p2 p3 p4 p5)), (.int (v0_25 p0 p1 p2 p3 p4 p5)), (.int (v0_10 p0 p1 p2 p3 p4 p5)), (.ref b253), (.ref b253)])) _
      refine XS.aload X253.here hx rfl (hb hby at_275) rfl rfl ?_
      show Steps p.tables e below (T253.setTop (mkF m 277 #[.val (.int p0), .val (.int p1), .val (.int p2), .val (.int p3), .val (.int p4), .val (.int p5), .val (.int (v0_2 p0 p1 p2 p3 p4 p5)), .val (.ref b1), .val (.ref b51), .val (.ref b230), .unset, .unset, .unset] [(.ref b51), (.int (v0_16 p0 p1 p2 p3 p4 p5)), (.int (v0_15 p0 p1 p2 p3 p4 p5)), (.int (v0_27 p0 p1 p2 p3 p4 p5)), (.int (v0_26 p0 p1 p2 p3 p4 p5)), (.int (v0_12 p0 p1 p2 p3 p4 p5)), (.int (v0_25 p0 p1 p2 p3 p4 p5)), (.int (v0_10 p0 p1 p2 p3 p4 p5)), (.ref b253), (.ref b253)])) _
      refine XT.bipushV X253.here hx rfl (7 : Int32) (hb hby at_277) (by decide) ?_
      show Steps p.tables e below (T253.setTop (mkF m 279 #[.val (.int p0), .val (.int p1), .val (.int p2), .val (.int p3), .val (.int p4), .val (.int p5), .val (.int (v0_2 p0 p1 p2 p3 p4 p5)), .val (.ref b1), .val (.ref b51), .val (.ref b230), .unset, .unset, .unset] [(.int (7 : Int32)), (.ref b51), (.int (v0_16 p0 p1 p2 p3 p4 p5)), (.int (v0_15 p0 p1 p2 p3 p4 p5)), (.int (v0_27 p0 p1 p2 p3 p4 p5)), (.int (v0_26 p0 p1 p2 p3 p4 p5)), (.int (v0_12 p0 p1 p2 p3 p4 p5)), (.int (v0_25 p0 p1 p2 p3 p4 p5)), (.int (v0_10 p0 p1 p2 p3 p4 p5)), (.ref b253), (.ref b253)])) _
      refine X253.iaload hx (j := (7 : Int32)) (v := (.int (v0_17 p0 p1 p2 p3 p4 p5))) (by rw [e253]; exact Ar264.1) (State.isArrayOf_alike hZ.alike Ar264.2.1) Ar264.2.2 hin272 (Has.at Ha264 hin272 rfl) (g := (mkF m 279 #[.val (.int p0), .val (.int p1), .val (.int p2), .val (.int p3), .val (.int p4), .val (.int p5), .val (.int (v0_2 p0 p1 p2 p3 p4 p5)), .val (.ref b1), .val (.ref b51), .val (.ref b230), .unset, .unset, .unset] [(.int (7 : Int32)), (.ref b51), (.int (v0_16 p0 p1 p2 p3 p4 p5)), (.int (v0_15 p0 p1 p2 p3 p4 p5)), (.int (v0_27 p0 p1 p2 p3 p4 p5)), (.int (v0_26 p0 p1 p2 p3 p4 p5)), (.int (v0_12 p0 p1 p2 p3 p4 p5)), (.int (v0_25 p0 p1 p2 p3 p4 p5)), (.int (v0_10 p0 p1 p2 p3 p4 p5)), (.ref b253), (.ref b253)])) rfl rfl (hb hby at_279) _ ?_
      show Steps p.tables e below (T253.setTop (mkF m 280 #[.val (.int p0), .val (.int p1), .val (.int p2), .val (.int p3), .val (.int p4), .val (.int p5), .val (.int (v0_2 p0 p1 p2 p3 p4 p5)), .val (.ref b1), .val (.ref b51), .val (.ref b230), .unset, .unset, .unset] [(.int (v0_17 p0 p1 p2 p3 p4 p5)), (.int (v0_16 p0 p1 p2 p3 p4 p5)), (.int (v0_15 p0 p1 p2 p3 p4 p5)), (.int (v0_27 p0 p1 p2 p3 p4 p5)), (.int (v0_26 p0 p1 p2 p3 p4 p5)), (.int (v0_12 p0 p1 p2 p3 p4 p5)), (.int (v0_25 p0 p1 p2 p3 p4 p5)), (.int (v0_10 p0 p1 p2 p3 p4 p5)), (.ref b253), (.ref b253)])) _
      refine XS.aload X253.here hx rfl (hb hby at_280) rfl rfl ?_
      show Steps p.tables e below (T253.setTop (mkF m 282 #[.val (.int p0), .val (.int p1), .val (.int p2), .val (.int p3), .val (.int p4), .val (.int p5), .val (.int (v0_2 p0 p1 p2 p3 p4 p5)), .val (.ref b1), .val (.ref b51), .val (.ref b230), .unset, .unset, .unset] [(.ref b51), (.int (v0_17 p0 p1 p2 p3 p4 p5)), (.int (v0_16 p0 p1 p2 p3 p4 p5)), (.int (v0_15 p0 p1 p2 p3 p4 p5)), (.int (v0_27 p0 p1 p2 p3 p4 p5)), (.int (v0_26 p0 p1 p2 p3 p4 p5)), (.int (v0_12 p0 p1 p2 p3 p4 p5)), (.int (v0_25 p0 p1 p2 p3 p4 p5)), (.int (v0_10 p0 p1 p2 p3 p4 p5)), (.ref b253), (.ref b253)])) _
      refine XT.bipushV X253.here hx rfl (8 : Int32) (hb hby at_282) (by decide) ?_
      show Steps p.tables e below (T253.setTop (mkF m 284 #[.val (.int p0), .val (.int p1), .val (.int p2), .val (.int p3), .val (.int p4), .val (.int p5), .val (.int (v0_2 p0 p1 p2 p3 p4 p5)), .val (.ref b1), .val (.ref b51), .val (.ref b230), .unset, .unset, .unset] [(.int (8 : Int32)), (.ref b51), (.int (v0_17 p0 p1 p2 p3 p4 p5)), (.int (v0_16 p0 p1 p2 p3 p4 p5)), (.int (v0_15 p0 p1 p2 p3 p4 p5)), (.int (v0_27 p0 p1 p2 p3 p4 p5)), (.int (v0_26 p0 p1 p2 p3 p4 p5)), (.int (v0_12 p0 p1 p2 p3 p4 p5)), (.int (v0_25 p0 p1 p2 p3 p4 p5)), (.int (v0_10 p0 p1 p2 p3 p4 p5)), (.ref b253), (.ref b253)])) _
      refine X253.iaload hx (j := (8 : Int32)) (v := (.int (v0_18 p0 p1 p2 p3 p4 p5))) (by rw [e253]; exact Ar264.1) (State.isArrayOf_alike hZ.alike Ar264.2.1) Ar264.2.2 hin273 (Has.at Ha264 hin273 rfl) (g := (mkF m 284 #[.val (.int p0), .val (.int p1), .val (.int p2), .val (.int p3), .val (.int p4), .val (.int p5), .val (.int (v0_2 p0 p1 p2 p3 p4 p5)), .val (.ref b1), .val (.ref b51), .val (.ref b230), .unset, .unset, .unset] [(.int (8 : Int32)), (.ref b51), (.int (v0_17 p0 p1 p2 p3 p4 p5)), (.int (v0_16 p0 p1 p2 p3 p4 p5)), (.int (v0_15 p0 p1 p2 p3 p4 p5)), (.int (v0_27 p0 p1 p2 p3 p4 p5)), (.int (v0_26 p0 p1 p2 p3 p4 p5)), (.int (v0_12 p0 p1 p2 p3 p4 p5)), (.int (v0_25 p0 p1 p2 p3 p4 p5)), (.int (v0_10 p0 p1 p2 p3 p4 p5)), (.ref b253), (.ref b253)])) rfl rfl (hb hby at_284) _ ?_
      show Steps p.tables e below (T253.setTop (mkF m 285 #[.val (.int p0), .val (.int p1), .val (.int p2), .val (.int p3), .val (.int p4), .val (.int p5), .val (.int (v0_2 p0 p1 p2 p3 p4 p5)), .val (.ref b1), .val (.ref b51), .val (.ref b230), .unset, .unset, .unset] [(.int (v0_18 p0 p1 p2 p3 p4 p5)), (.int (v0_17 p0 p1 p2 p3 p4 p5)), (.int (v0_16 p0 p1 p2 p3 p4 p5)), (.int (v0_15 p0 p1 p2 p3 p4 p5)), (.int (v0_27 p0 p1 p2 p3 p4 p5)), (.int (v0_26 p0 p1 p2 p3 p4 p5)), (.int (v0_12 p0 p1 p2 p3 p4 p5)), (.int (v0_25 p0 p1 p2 p3 p4 p5)), (.int (v0_10 p0 p1 p2 p3 p4 p5)), (.ref b253), (.ref b253)])) _
      refine st274.trans ?_
      show Steps p.tables e below (T274.setTop (mkF m 288 #[.val (.int p0), .val (.int p1), .val (.int p2), .val (.int p3), .val (.int p4), .val (.int p5), .val (.int (v0_2 p0 p1 p2 p3 p4 p5)), .val (.ref b1), .val (.ref b51), .val (.ref b230), .unset, .unset, .unset] [(.ref b253)])) _
      refine XS.astore X274.here hx rfl (hb hby at_288) rfl rfl (l' := #[.val (.int p0), .val (.int p1), .val (.int p2), .val (.int p3), .val (.int p4), .val (.int p5), .val (.int (v0_2 p0 p1 p2 p3 p4 p5)), .val (.ref b1), .val (.ref b51), .val (.ref b230), .val (.ref b253), .unset, .unset]) rfl ?_
      show Steps p.tables e below (T274.setTop (mkF m 290 #[.val (.int p0), .val (.int p1), .val (.int p2), .val (.int p3), .val (.int p4), .val (.int p5), .val (.int (v0_2 p0 p1 p2 p3 p4 p5)), .val (.ref b1), .val (.ref b51), .val (.ref b230), .val (.ref b253), .unset, .unset] [])) _
      refine XS.iload X274.here hx rfl (hb hby at_290) rfl ?_
      show Steps p.tables e below (T274.setTop (mkF m 292 #[.val (.int p0), .val (.int p1), .val (.int p2), .val (.int p3), .val (.int p4), .val (.int p5), .val (.int (v0_2 p0 p1 p2 p3 p4 p5)), .val (.ref b1), .val (.ref b51), .val (.ref b230), .val (.ref b253), .unset, .unset] [(.int (v0_2 p0 p1 p2 p3 p4 p5))])) _
      refine XT.iconstV X274.here hx rfl (1 : Int32) (hb hby at_292) (by decide) ?_
      exact k
    clear pre136 st215 st221 st227 st230 st250 st253 st274
    have pre283 : ∀ t, Steps p.tables e below (T274.setTop (mkF m 313 #[.val (.int p0), .val (.int p1), .val (.int p2), .val (.int p3), .val (.int p4), .val (.int p5), .val (.int (v0_2 p0 p1 p2 p3 p4 p5)), .val (.ref b1), .val (.ref b51), .val (.ref b230), .val (.ref b253), .unset, .unset] [(.int (v0_28 p0 p1 p2 p3 p4 p5))])) t → Steps p.tables e below (s₁.setTop (entryFrame m #[(.int p0), (.int p1), (.int p2), (.int p3), (.int p4), (.int p5)] maxLocals)) t := by
      intro t k
      by_cases c278 : (v0_2 p0 p1 p2 p3 p4 p5) = (1 : Int32)
      · skip
        rw [show (v0_28 p0 p1 p2 p3 p4 p5) = (1 : Int32) from (if_pos c278)] at k
        refine pre277 t ?_
        show Steps p.tables e below (T274.setTop (mkF m 293 #[.val (.int p0), .val (.int p1), .val (.int p2), .val (.int p3), .val (.int p4), .val (.int p5), .val (.int (v0_2 p0 p1 p2 p3 p4 p5)), .val (.ref b1), .val (.ref b51), .val (.ref b230), .val (.ref b253), .unset, .unset] [(.int (1 : Int32)), (.int (v0_2 p0 p1 p2 p3 p4 p5))])) _
        refine XS.icmpYes X274.here hx rfl (pc0 := 293) (pc' := 308) rfl (hb hby at_293) rfl (XT.ii_eq_t c278) (by decide) (by decide) ?_
        show Steps p.tables e below (T274.setTop (mkF m 308 #[.val (.int p0), .val (.int p1), .val (.int p2), .val (.int p3), .val (.int p4), .val (.int p5), .val (.int (v0_2 p0 p1 p2 p3 p4 p5)), .val (.ref b1), .val (.ref b51), .val (.ref b230), .val (.ref b253), .unset, .unset] [])) _
        refine XT.iconstV X274.here hx rfl (1 : Int32) (hb hby at_308) (by decide) ?_
        show Steps p.tables e below (T274.setTop (mkF m 309 #[.val (.int p0), .val (.int p1), .val (.int p2), .val (.int p3), .val (.int p4), .val (.int p5), .val (.int (v0_2 p0 p1 p2 p3 p4 p5)), .val (.ref b1), .val (.ref b51), .val (.ref b230), .val (.ref b253), .unset, .unset] [(.int (1 : Int32))])) _
        refine XS.goto X274.here hx rfl (pc0 := 309) (pc' := 313) rfl (hb hby at_309) (by decide) (by decide) ?_
        exact k
      · skip
        have pre279 : ∀ t, Steps p.tables e below (T274.setTop (mkF m 299 #[.val (.int p0), .val (.int p1), .val (.int p2), .val (.int p3), .val (.int p4), .val (.int p5), .val (.int (v0_2 p0 p1 p2 p3 p4 p5)), .val (.ref b1), .val (.ref b51), .val (.ref b230), .val (.ref b253), .unset, .unset] [(.int (3 : Int32)), (.int (v0_2 p0 p1 p2 p3 p4 p5))])) t → Steps p.tables e below (s₁.setTop (entryFrame m #[(.int p0), (.int p1), (.int p2), (.int p3), (.int p4), (.int p5)] maxLocals)) t := by
          intro t k
          refine pre277 t ?_
          show Steps p.tables e below (T274.setTop (mkF m 293 #[.val (.int p0), .val (.int p1), .val (.int p2), .val (.int p3), .val (.int p4), .val (.int p5), .val (.int (v0_2 p0 p1 p2 p3 p4 p5)), .val (.ref b1), .val (.ref b51), .val (.ref b230), .val (.ref b253), .unset, .unset] [(.int (1 : Int32)), (.int (v0_2 p0 p1 p2 p3 p4 p5))])) _
          refine XS.icmpNo X274.here hx rfl (hb hby at_293) rfl (XT.ii_eq_f c278) ?_
          show Steps p.tables e below (T274.setTop (mkF m 296 #[.val (.int p0), .val (.int p1), .val (.int p2), .val (.int p3), .val (.int p4), .val (.int p5), .val (.int (v0_2 p0 p1 p2 p3 p4 p5)), .val (.ref b1), .val (.ref b51), .val (.ref b230), .val (.ref b253), .unset, .unset] [])) _
          refine XS.iload X274.here hx rfl (hb hby at_296) rfl ?_
          show Steps p.tables e below (T274.setTop (mkF m 298 #[.val (.int p0), .val (.int p1), .val (.int p2), .val (.int p3), .val (.int p4), .val (.int p5), .val (.int (v0_2 p0 p1 p2 p3 p4 p5)), .val (.ref b1), .val (.ref b51), .val (.ref b230), .val (.ref b253), .unset, .unset] [(.int (v0_2 p0 p1 p2 p3 p4 p5))])) _
          refine XT.iconstV X274.here hx rfl (3 : Int32) (hb hby at_298) (by decide) ?_
          exact k
        clear pre277
        by_cases c280 : (v0_2 p0 p1 p2 p3 p4 p5) = (3 : Int32)
        · skip
          rw [show (v0_28 p0 p1 p2 p3 p4 p5) = (1 : Int32) from ((if_neg c278).trans (if_pos c280))] at k
          refine pre279 t ?_
          show Steps p.tables e below (T274.setTop (mkF m 299 #[.val (.int p0), .val (.int p1), .val (.int p2), .val (.int p3), .val (.int p4), .val (.int p5), .val (.int (v0_2 p0 p1 p2 p3 p4 p5)), .val (.ref b1), .val (.ref b51), .val (.ref b230), .val (.ref b253), .unset, .unset] [(.int (3 : Int32)), (.int (v0_2 p0 p1 p2 p3 p4 p5))])) _
          refine XS.icmpYes X274.here hx rfl (pc0 := 299) (pc' := 308) rfl (hb hby at_299) rfl (XT.ii_eq_t c280) (by decide) (by decide) ?_
          show Steps p.tables e below (T274.setTop (mkF m 308 #[.val (.int p0), .val (.int p1), .val (.int p2), .val (.int p3), .val (.int p4), .val (.int p5), .val (.int (v0_2 p0 p1 p2 p3 p4 p5)), .val (.ref b1), .val (.ref b51), .val (.ref b230), .val (.ref b253), .unset, .unset] [])) _
          refine XT.iconstV X274.here hx rfl (1 : Int32) (hb hby at_308) (by decide) ?_
          show Steps p.tables e below (T274.setTop (mkF m 309 #[.val (.int p0), .val (.int p1), .val (.int p2), .val (.int p3), .val (.int p4), .val (.int p5), .val (.int (v0_2 p0 p1 p2 p3 p4 p5)), .val (.ref b1), .val (.ref b51), .val (.ref b230), .val (.ref b253), .unset, .unset] [(.int (1 : Int32))])) _
          refine XS.goto X274.here hx rfl (pc0 := 309) (pc' := 313) rfl (hb hby at_309) (by decide) (by decide) ?_
          exact k
        · skip
          have pre281 : ∀ t, Steps p.tables e below (T274.setTop (mkF m 305 #[.val (.int p0), .val (.int p1), .val (.int p2), .val (.int p3), .val (.int p4), .val (.int p5), .val (.int (v0_2 p0 p1 p2 p3 p4 p5)), .val (.ref b1), .val (.ref b51), .val (.ref b230), .val (.ref b253), .unset, .unset] [(.int (4 : Int32)), (.int (v0_2 p0 p1 p2 p3 p4 p5))])) t → Steps p.tables e below (s₁.setTop (entryFrame m #[(.int p0), (.int p1), (.int p2), (.int p3), (.int p4), (.int p5)] maxLocals)) t := by
            intro t k
            refine pre279 t ?_
            show Steps p.tables e below (T274.setTop (mkF m 299 #[.val (.int p0), .val (.int p1), .val (.int p2), .val (.int p3), .val (.int p4), .val (.int p5), .val (.int (v0_2 p0 p1 p2 p3 p4 p5)), .val (.ref b1), .val (.ref b51), .val (.ref b230), .val (.ref b253), .unset, .unset] [(.int (3 : Int32)), (.int (v0_2 p0 p1 p2 p3 p4 p5))])) _
            refine XS.icmpNo X274.here hx rfl (hb hby at_299) rfl (XT.ii_eq_f c280) ?_
            show Steps p.tables e below (T274.setTop (mkF m 302 #[.val (.int p0), .val (.int p1), .val (.int p2), .val (.int p3), .val (.int p4), .val (.int p5), .val (.int (v0_2 p0 p1 p2 p3 p4 p5)), .val (.ref b1), .val (.ref b51), .val (.ref b230), .val (.ref b253), .unset, .unset] [])) _
            refine XS.iload X274.here hx rfl (hb hby at_302) rfl ?_
            show Steps p.tables e below (T274.setTop (mkF m 304 #[.val (.int p0), .val (.int p1), .val (.int p2), .val (.int p3), .val (.int p4), .val (.int p5), .val (.int (v0_2 p0 p1 p2 p3 p4 p5)), .val (.ref b1), .val (.ref b51), .val (.ref b230), .val (.ref b253), .unset, .unset] [(.int (v0_2 p0 p1 p2 p3 p4 p5))])) _
            refine XT.iconstV X274.here hx rfl (4 : Int32) (hb hby at_304) (by decide) ?_
            exact k
          clear pre279
          by_cases c282 : (v0_2 p0 p1 p2 p3 p4 p5) = (4 : Int32)
          · skip
            rw [show (v0_28 p0 p1 p2 p3 p4 p5) = (1 : Int32) from (((if_neg c278).trans (if_neg c280)).trans (if_pos c282))] at k
            refine pre281 t ?_
            show Steps p.tables e below (T274.setTop (mkF m 305 #[.val (.int p0), .val (.int p1), .val (.int p2), .val (.int p3), .val (.int p4), .val (.int p5), .val (.int (v0_2 p0 p1 p2 p3 p4 p5)), .val (.ref b1), .val (.ref b51), .val (.ref b230), .val (.ref b253), .unset, .unset] [(.int (4 : Int32)), (.int (v0_2 p0 p1 p2 p3 p4 p5))])) _
            refine XS.icmpNo X274.here hx rfl (hb hby at_305) rfl (XT.ii_ne_f c282) ?_
            show Steps p.tables e below (T274.setTop (mkF m 308 #[.val (.int p0), .val (.int p1), .val (.int p2), .val (.int p3), .val (.int p4), .val (.int p5), .val (.int (v0_2 p0 p1 p2 p3 p4 p5)), .val (.ref b1), .val (.ref b51), .val (.ref b230), .val (.ref b253), .unset, .unset] [])) _
            refine XT.iconstV X274.here hx rfl (1 : Int32) (hb hby at_308) (by decide) ?_
            show Steps p.tables e below (T274.setTop (mkF m 309 #[.val (.int p0), .val (.int p1), .val (.int p2), .val (.int p3), .val (.int p4), .val (.int p5), .val (.int (v0_2 p0 p1 p2 p3 p4 p5)), .val (.ref b1), .val (.ref b51), .val (.ref b230), .val (.ref b253), .unset, .unset] [(.int (1 : Int32))])) _
            refine XS.goto X274.here hx rfl (pc0 := 309) (pc' := 313) rfl (hb hby at_309) (by decide) (by decide) ?_
            exact k
          · skip
            rw [show (v0_28 p0 p1 p2 p3 p4 p5) = (0 : Int32) from (((if_neg c278).trans (if_neg c280)).trans (if_neg c282))] at k
            refine pre281 t ?_
            show Steps p.tables e below (T274.setTop (mkF m 305 #[.val (.int p0), .val (.int p1), .val (.int p2), .val (.int p3), .val (.int p4), .val (.int p5), .val (.int (v0_2 p0 p1 p2 p3 p4 p5)), .val (.ref b1), .val (.ref b51), .val (.ref b230), .val (.ref b253), .unset, .unset] [(.int (4 : Int32)), (.int (v0_2 p0 p1 p2 p3 p4 p5))])) _
            refine XS.icmpYes X274.here hx rfl (pc0 := 305) (pc' := 312) rfl (hb hby at_305) rfl (XT.ii_ne_t c282) (by decide) (by decide) ?_
            show Steps p.tables e below (T274.setTop (mkF m 312 #[.val (.int p0), .val (.int p1), .val (.int p2), .val (.int p3), .val (.int p4), .val (.int p5), .val (.int (v0_2 p0 p1 p2 p3 p4 p5)), .val (.ref b1), .val (.ref b51), .val (.ref b230), .val (.ref b253), .unset, .unset] [])) _
            refine XT.iconstV X274.here hx rfl (0 : Int32) (hb hby at_312) (by decide) ?_
            exact k
    have pre284 : ∀ t, Steps p.tables e below (T274.setTop (mkF m 317 #[.val (.int p0), .val (.int p1), .val (.int p2), .val (.int p3), .val (.int p4), .val (.int p5), .val (.int (v0_2 p0 p1 p2 p3 p4 p5)), .val (.ref b1), .val (.ref b51), .val (.ref b230), .val (.ref b253), .val (.int (v0_28 p0 p1 p2 p3 p4 p5)), .unset] [(.int p4)])) t → Steps p.tables e below (s₁.setTop (entryFrame m #[(.int p0), (.int p1), (.int p2), (.int p3), (.int p4), (.int p5)] maxLocals)) t := by
      intro t k
      refine pre283 t ?_
      show Steps p.tables e below (T274.setTop (mkF m 313 #[.val (.int p0), .val (.int p1), .val (.int p2), .val (.int p3), .val (.int p4), .val (.int p5), .val (.int (v0_2 p0 p1 p2 p3 p4 p5)), .val (.ref b1), .val (.ref b51), .val (.ref b230), .val (.ref b253), .unset, .unset] [(.int (v0_28 p0 p1 p2 p3 p4 p5))])) _
      refine XS.istore X274.here hx rfl (hb hby at_313) rfl (l' := #[.val (.int p0), .val (.int p1), .val (.int p2), .val (.int p3), .val (.int p4), .val (.int p5), .val (.int (v0_2 p0 p1 p2 p3 p4 p5)), .val (.ref b1), .val (.ref b51), .val (.ref b230), .val (.ref b253), .val (.int (v0_28 p0 p1 p2 p3 p4 p5)), .unset]) rfl ?_
      show Steps p.tables e below (T274.setTop (mkF m 315 #[.val (.int p0), .val (.int p1), .val (.int p2), .val (.int p3), .val (.int p4), .val (.int p5), .val (.int (v0_2 p0 p1 p2 p3 p4 p5)), .val (.ref b1), .val (.ref b51), .val (.ref b230), .val (.ref b253), .val (.int (v0_28 p0 p1 p2 p3 p4 p5)), .unset] [])) _
      refine XS.iload X274.here hx rfl (hb hby at_315) rfl ?_
      exact k
    clear pre283
    have pre288 : ∀ t, Steps p.tables e below (T274.setTop (mkF m 330 #[.val (.int p0), .val (.int p1), .val (.int p2), .val (.int p3), .val (.int p4), .val (.int p5), .val (.int (v0_2 p0 p1 p2 p3 p4 p5)), .val (.ref b1), .val (.ref b51), .val (.ref b230), .val (.ref b253), .val (.int (v0_28 p0 p1 p2 p3 p4 p5)), .unset] [(.int (v0_29 p0 p1 p2 p3 p4 p5))])) t → Steps p.tables e below (s₁.setTop (entryFrame m #[(.int p0), (.int p1), (.int p2), (.int p3), (.int p4), (.int p5)] maxLocals)) t := by
      intro t k
      by_cases c285 : p4 = (0 : Int32)
      · skip
        rw [show (v0_29 p0 p1 p2 p3 p4 p5) = (1 : Int32) from (if_pos c285)] at k
        refine pre284 t ?_
        show Steps p.tables e below (T274.setTop (mkF m 317 #[.val (.int p0), .val (.int p1), .val (.int p2), .val (.int p3), .val (.int p4), .val (.int p5), .val (.int (v0_2 p0 p1 p2 p3 p4 p5)), .val (.ref b1), .val (.ref b51), .val (.ref b230), .val (.ref b253), .val (.int (v0_28 p0 p1 p2 p3 p4 p5)), .unset] [(.int p4)])) _
        refine XS.ifYes X274.here hx rfl (pc0 := 317) (pc' := 325) rfl (hb hby at_317) rfl (XT.i0_eq_t c285) (by decide) (by decide) ?_
        show Steps p.tables e below (T274.setTop (mkF m 325 #[.val (.int p0), .val (.int p1), .val (.int p2), .val (.int p3), .val (.int p4), .val (.int p5), .val (.int (v0_2 p0 p1 p2 p3 p4 p5)), .val (.ref b1), .val (.ref b51), .val (.ref b230), .val (.ref b253), .val (.int (v0_28 p0 p1 p2 p3 p4 p5)), .unset] [])) _
        refine XT.iconstV X274.here hx rfl (1 : Int32) (hb hby at_325) (by decide) ?_
        show Steps p.tables e below (T274.setTop (mkF m 326 #[.val (.int p0), .val (.int p1), .val (.int p2), .val (.int p3), .val (.int p4), .val (.int p5), .val (.int (v0_2 p0 p1 p2 p3 p4 p5)), .val (.ref b1), .val (.ref b51), .val (.ref b230), .val (.ref b253), .val (.int (v0_28 p0 p1 p2 p3 p4 p5)), .unset] [(.int (1 : Int32))])) _
        refine XS.goto X274.here hx rfl (pc0 := 326) (pc' := 330) rfl (hb hby at_326) (by decide) (by decide) ?_
        exact k
      · skip
        have pre286 : ∀ t, Steps p.tables e below (T274.setTop (mkF m 322 #[.val (.int p0), .val (.int p1), .val (.int p2), .val (.int p3), .val (.int p4), .val (.int p5), .val (.int (v0_2 p0 p1 p2 p3 p4 p5)), .val (.ref b1), .val (.ref b51), .val (.ref b230), .val (.ref b253), .val (.int (v0_28 p0 p1 p2 p3 p4 p5)), .unset] [(.int (v0_28 p0 p1 p2 p3 p4 p5))])) t → Steps p.tables e below (s₁.setTop (entryFrame m #[(.int p0), (.int p1), (.int p2), (.int p3), (.int p4), (.int p5)] maxLocals)) t := by
          intro t k
          refine pre284 t ?_
          show Steps p.tables e below (T274.setTop (mkF m 317 #[.val (.int p0), .val (.int p1), .val (.int p2), .val (.int p3), .val (.int p4), .val (.int p5), .val (.int (v0_2 p0 p1 p2 p3 p4 p5)), .val (.ref b1), .val (.ref b51), .val (.ref b230), .val (.ref b253), .val (.int (v0_28 p0 p1 p2 p3 p4 p5)), .unset] [(.int p4)])) _
          refine XS.ifNo X274.here hx rfl (hb hby at_317) rfl (XT.i0_eq_f c285) ?_
          show Steps p.tables e below (T274.setTop (mkF m 320 #[.val (.int p0), .val (.int p1), .val (.int p2), .val (.int p3), .val (.int p4), .val (.int p5), .val (.int (v0_2 p0 p1 p2 p3 p4 p5)), .val (.ref b1), .val (.ref b51), .val (.ref b230), .val (.ref b253), .val (.int (v0_28 p0 p1 p2 p3 p4 p5)), .unset] [])) _
          refine XS.iload X274.here hx rfl (hb hby at_320) rfl ?_
          exact k
        clear pre284
        by_cases c287 : (v0_28 p0 p1 p2 p3 p4 p5) = (0 : Int32)
        · skip
          rw [show (v0_29 p0 p1 p2 p3 p4 p5) = (0 : Int32) from ((if_neg c285).trans (if_pos c287))] at k
          refine pre286 t ?_
          show Steps p.tables e below (T274.setTop (mkF m 322 #[.val (.int p0), .val (.int p1), .val (.int p2), .val (.int p3), .val (.int p4), .val (.int p5), .val (.int (v0_2 p0 p1 p2 p3 p4 p5)), .val (.ref b1), .val (.ref b51), .val (.ref b230), .val (.ref b253), .val (.int (v0_28 p0 p1 p2 p3 p4 p5)), .unset] [(.int (v0_28 p0 p1 p2 p3 p4 p5))])) _
          refine XS.ifYes X274.here hx rfl (pc0 := 322) (pc' := 329) rfl (hb hby at_322) rfl (XT.i0_eq_t c287) (by decide) (by decide) ?_
          show Steps p.tables e below (T274.setTop (mkF m 329 #[.val (.int p0), .val (.int p1), .val (.int p2), .val (.int p3), .val (.int p4), .val (.int p5), .val (.int (v0_2 p0 p1 p2 p3 p4 p5)), .val (.ref b1), .val (.ref b51), .val (.ref b230), .val (.ref b253), .val (.int (v0_28 p0 p1 p2 p3 p4 p5)), .unset] [])) _
          refine XT.iconstV X274.here hx rfl (0 : Int32) (hb hby at_329) (by decide) ?_
          exact k
        · skip
          rw [show (v0_29 p0 p1 p2 p3 p4 p5) = (1 : Int32) from ((if_neg c285).trans (if_neg c287))] at k
          refine pre286 t ?_
          show Steps p.tables e below (T274.setTop (mkF m 322 #[.val (.int p0), .val (.int p1), .val (.int p2), .val (.int p3), .val (.int p4), .val (.int p5), .val (.int (v0_2 p0 p1 p2 p3 p4 p5)), .val (.ref b1), .val (.ref b51), .val (.ref b230), .val (.ref b253), .val (.int (v0_28 p0 p1 p2 p3 p4 p5)), .unset] [(.int (v0_28 p0 p1 p2 p3 p4 p5))])) _
          refine XS.ifNo X274.here hx rfl (hb hby at_322) rfl (XT.i0_eq_f c287) ?_
          show Steps p.tables e below (T274.setTop (mkF m 325 #[.val (.int p0), .val (.int p1), .val (.int p2), .val (.int p3), .val (.int p4), .val (.int p5), .val (.int (v0_2 p0 p1 p2 p3 p4 p5)), .val (.ref b1), .val (.ref b51), .val (.ref b230), .val (.ref b253), .val (.int (v0_28 p0 p1 p2 p3 p4 p5)), .unset] [])) _
          refine XT.iconstV X274.here hx rfl (1 : Int32) (hb hby at_325) (by decide) ?_
          show Steps p.tables e below (T274.setTop (mkF m 326 #[.val (.int p0), .val (.int p1), .val (.int p2), .val (.int p3), .val (.int p4), .val (.int p5), .val (.int (v0_2 p0 p1 p2 p3 p4 p5)), .val (.ref b1), .val (.ref b51), .val (.ref b230), .val (.ref b253), .val (.int (v0_28 p0 p1 p2 p3 p4 p5)), .unset] [(.int (1 : Int32))])) _
          refine XS.goto X274.here hx rfl (pc0 := 326) (pc' := 330) rfl (hb hby at_326) (by decide) (by decide) ?_
          exact k
    have k290 := ((po250_1.ext E253).keep K274 (ninS ne258 nin0))
    have k291 := ((po250_3.ext E253).keep K274 (ninS ne258 nin0))
    have k292 := ((po250_6.ext E253).keep K274 (ninS ne258 nin0))
    have k293 := ((po250_7.ext E253).keep K274 (ninS ne258 nin0))
    have k294 := ((po250_8.ext E253).keep K274 (ninS ne258 nin0))
    have k295 := ((po250_9.ext E253).keep K274 (ninS ne258 nin0))
    have k296 := ((po250_0.ext E253).keep K274)
    obtain ⟨cq289, kq289, q289a, q289b, q289c⟩ := isOf hZ rfl k296
    obtain ⟨vr289, _, ⟨T289, L289, k289, n289⟩, -, X289, ⟨Lc289, hQ289, l289, y289, z289⟩, st289⟩ := X274.virtualBack hx (y := (⟨"com/example/ashlar/ashlar/worktree/StatData", "matches", "(Lcom/example/ashlar/ashlar/worktree/StatData;)Z"⟩ : MethodName)) (z := (⟨"com/example/ashlar/ashlar/worktree/StatData", "matches", "(Lcom/example/ashlar/ashlar/worktree/StatData;)Z"⟩ : MethodName)) hown (mvT hZ (hw _ (List.mem_of_getElem? (i := 34) rfl))) (mvT hZ (hw _ (List.mem_of_getElem? (i := 35) rfl))) (notFace_of_selects (args := #[]) (mvT hZ (hw _ (List.mem_of_getElem? (i := 37) rfl)))) (mvT hZ (hw _ (List.mem_of_getElem? (i := 37) rfl))) (mvT hZ (hw _ (List.mem_of_getElem? (i := 36) rfl))) (by decide) (backOf (W := 0) (rm4 l Z a0 hw [] b230 b253 p0 (v0_10 p0 p1 p2 p3 p4 p5) p2 (v0_12 p0 p1 p2 p3 p4 p5) (v0_5 p0 p1 p2 p3 p4 p5) (v0_15 p0 p1 p2 p3 p4 p5) (v0_6 p0 p1 p2 p3 p4 p5) (v0_16 p0 p1 p2 p3 p4 p5) (v0_7 p0 p1 p2 p3 p4 p5) (v0_17 p0 p1 p2 p3 p4 p5) (v0_8 p0 p1 p2 p3 p4 p5) (v0_18 p0 p1 p2 p3 p4 p5) T274.heap n0 z275 k290 po274_1 k291 po274_3 k292 po274_6 k293 po274_7 k294 po274_8 k295 po274_9) hZ (hw _ (List.mem_of_getElem? (i := 38) rfl)) (hw _ (List.mem_of_getElem? (i := 4) rfl)) (by decide) (by decide)) q289a q289c (g := (mkF m 336 #[.val (.int p0), .val (.int p1), .val (.int p2), .val (.int p3), .val (.int p4), .val (.int p5), .val (.int (v0_2 p0 p1 p2 p3 p4 p5)), .val (.ref b1), .val (.ref b51), .val (.ref b230), .val (.ref b253), .val (.int (v0_28 p0 p1 p2 p3 p4 p5)), .val (.int (v0_29 p0 p1 p2 p3 p4 p5))] [(.ref b253), (.ref b230)])) rfl (by rw [hml]; rfl) (Steps.refl _) (argsL := [(.ref b253)]) (rest := []) (lenOf pd__Lcom_example_ashlar_ashlar_worktree_StatData__Z rfl) rfl (by show 2 * 0 + _ ≤ _; exact Nat.le_of_eq rfl) (hb hby at_336) (fun _ _ => ⟨rfl, rfl, (by decide : 4 + 0 ≤ _), (by decide : 36 + 0 ≤ _)⟩)
    dsimp only [Pt.U, Pt.locs, Pt.cells, Pt.slots] at X289 l289 y289 z289 st289 hQ289
    replace X289 := own_stand X289 l289 y289 z289
    clear l289 y289 z289
    have N289q := (show _ ∧ _ ∧ _ from hQ289).1
    have hv289 := (show _ ∧ _ ∧ _ from hQ289).2.1
    have e289 := (show _ ∧ _ ∧ _ from hQ289).2.2
    clear hQ289
    subst hv289
    have N289 := Fr.app N274 N289q
    have pre297 : ∀ t, Steps p.tables e below (T289.setTop (mkF m 341 #[.val (.int p0), .val (.int p1), .val (.int p2), .val (.int p3), .val (.int p4), .val (.int p5), .val (.int (v0_2 p0 p1 p2 p3 p4 p5)), .val (.ref b1), .val (.ref b51), .val (.ref b230), .val (.ref b253), .val (.int (v0_28 p0 p1 p2 p3 p4 p5)), .val (.int (v0_29 p0 p1 p2 p3 p4 p5))] [(.int (v0_29 p0 p1 p2 p3 p4 p5)), (.int (f4 p0 (v0_10 p0 p1 p2 p3 p4 p5) p2 (v0_12 p0 p1 p2 p3 p4 p5) (v0_5 p0 p1 p2 p3 p4 p5) (v0_15 p0 p1 p2 p3 p4 p5) (v0_6 p0 p1 p2 p3 p4 p5) (v0_16 p0 p1 p2 p3 p4 p5) (v0_7 p0 p1 p2 p3 p4 p5) (v0_17 p0 p1 p2 p3 p4 p5) (v0_8 p0 p1 p2 p3 p4 p5) (v0_18 p0 p1 p2 p3 p4 p5)))])) t → Steps p.tables e below (s₁.setTop (entryFrame m #[(.int p0), (.int p1), (.int p2), (.int p3), (.int p4), (.int p5)] maxLocals)) t := by
      intro t k
      refine pre288 t ?_
      show Steps p.tables e below (T274.setTop (mkF m 330 #[.val (.int p0), .val (.int p1), .val (.int p2), .val (.int p3), .val (.int p4), .val (.int p5), .val (.int (v0_2 p0 p1 p2 p3 p4 p5)), .val (.ref b1), .val (.ref b51), .val (.ref b230), .val (.ref b253), .val (.int (v0_28 p0 p1 p2 p3 p4 p5)), .unset] [(.int (v0_29 p0 p1 p2 p3 p4 p5))])) _
      refine XS.istore X274.here hx rfl (hb hby at_330) rfl (l' := #[.val (.int p0), .val (.int p1), .val (.int p2), .val (.int p3), .val (.int p4), .val (.int p5), .val (.int (v0_2 p0 p1 p2 p3 p4 p5)), .val (.ref b1), .val (.ref b51), .val (.ref b230), .val (.ref b253), .val (.int (v0_28 p0 p1 p2 p3 p4 p5)), .val (.int (v0_29 p0 p1 p2 p3 p4 p5))]) rfl ?_
      show Steps p.tables e below (T274.setTop (mkF m 332 #[.val (.int p0), .val (.int p1), .val (.int p2), .val (.int p3), .val (.int p4), .val (.int p5), .val (.int (v0_2 p0 p1 p2 p3 p4 p5)), .val (.ref b1), .val (.ref b51), .val (.ref b230), .val (.ref b253), .val (.int (v0_28 p0 p1 p2 p3 p4 p5)), .val (.int (v0_29 p0 p1 p2 p3 p4 p5))] [])) _
      refine XS.aload X274.here hx rfl (hb hby at_332) rfl rfl ?_
      show Steps p.tables e below (T274.setTop (mkF m 334 #[.val (.int p0), .val (.int p1), .val (.int p2), .val (.int p3), .val (.int p4), .val (.int p5), .val (.int (v0_2 p0 p1 p2 p3 p4 p5)), .val (.ref b1), .val (.ref b51), .val (.ref b230), .val (.ref b253), .val (.int (v0_28 p0 p1 p2 p3 p4 p5)), .val (.int (v0_29 p0 p1 p2 p3 p4 p5))] [(.ref b230)])) _
      refine XS.aload X274.here hx rfl (hb hby at_334) rfl rfl ?_
      show Steps p.tables e below (T274.setTop (mkF m 336 #[.val (.int p0), .val (.int p1), .val (.int p2), .val (.int p3), .val (.int p4), .val (.int p5), .val (.int (v0_2 p0 p1 p2 p3 p4 p5)), .val (.ref b1), .val (.ref b51), .val (.ref b230), .val (.ref b253), .val (.int (v0_28 p0 p1 p2 p3 p4 p5)), .val (.int (v0_29 p0 p1 p2 p3 p4 p5))] [(.ref b253), (.ref b230)])) _
      refine st289.trans ?_
      show Steps p.tables e below (T289.setTop (mkF m 339 #[.val (.int p0), .val (.int p1), .val (.int p2), .val (.int p3), .val (.int p4), .val (.int p5), .val (.int (v0_2 p0 p1 p2 p3 p4 p5)), .val (.ref b1), .val (.ref b51), .val (.ref b230), .val (.ref b253), .val (.int (v0_28 p0 p1 p2 p3 p4 p5)), .val (.int (v0_29 p0 p1 p2 p3 p4 p5))] [(.int (f4 p0 (v0_10 p0 p1 p2 p3 p4 p5) p2 (v0_12 p0 p1 p2 p3 p4 p5) (v0_5 p0 p1 p2 p3 p4 p5) (v0_15 p0 p1 p2 p3 p4 p5) (v0_6 p0 p1 p2 p3 p4 p5) (v0_16 p0 p1 p2 p3 p4 p5) (v0_7 p0 p1 p2 p3 p4 p5) (v0_17 p0 p1 p2 p3 p4 p5) (v0_8 p0 p1 p2 p3 p4 p5) (v0_18 p0 p1 p2 p3 p4 p5)))])) _
      refine XS.iload X289.here hx rfl (hb hby at_339) rfl ?_
      exact k
    clear pre288 st289
    obtain ⟨T302, L302, X302, e302, N302, pre302⟩ : ∃ (T' : State) (L' : List Loc), Stand p l e room_1 s m #[(.int p0), (.int p1), (.int p2), (.int p3), (.int p4), (.int p5)] below meth c T' L' 4 36 ∧ T'.heap = T274.heap ∧ Fr n0 L' ∧ ∀ t, Steps p.tables e below (T'.setTop (mkF m 361 #[.val (.int p0), .val (.int p1), .val (.int p2), .val (.int p3), .val (.int p4), .val (.int p5), .val (.int (v0_2 p0 p1 p2 p3 p4 p5)), .val (.ref b1), .val (.ref b51), .val (.ref b230), .val (.ref b253), .val (.int (v0_28 p0 p1 p2 p3 p4 p5)), .val (.int (v0_29 p0 p1 p2 p3 p4 p5))] [(.int (v0_32 p0 p1 p2 p3 p4 p5))])) t → Steps p.tables e below (s₁.setTop (entryFrame m #[(.int p0), (.int p1), (.int p2), (.int p3), (.int p4), (.int p5)] maxLocals)) t := by
      by_cases c298 : (v0_30 p0 p1 p2 p3 p4 p5) = (v0_29 p0 p1 p2 p3 p4 p5)
      · skip
        obtain ⟨cq299, kq299, q299a, q299b, q299c⟩ := isOf hZ e289 po274_0
        obtain ⟨vr299, _, ⟨T299, L299, k299, n299⟩, -, X299, ⟨Lc299, hQ299, l299, y299, z299⟩, st299⟩ := X289.virtualBack hx (y := (⟨"com/example/ashlar/ashlar/worktree/StatData", "matches", "(Lcom/example/ashlar/ashlar/worktree/StatData;)Z"⟩ : MethodName)) (z := (⟨"com/example/ashlar/ashlar/worktree/StatData", "matches", "(Lcom/example/ashlar/ashlar/worktree/StatData;)Z"⟩ : MethodName)) hown (mvT hZ (hw _ (List.mem_of_getElem? (i := 34) rfl))) (mvT hZ (hw _ (List.mem_of_getElem? (i := 35) rfl))) (notFace_of_selects (args := #[]) (mvT hZ (hw _ (List.mem_of_getElem? (i := 37) rfl)))) (mvT hZ (hw _ (List.mem_of_getElem? (i := 37) rfl))) (mvT hZ (hw _ (List.mem_of_getElem? (i := 36) rfl))) (by decide) (backOf (W := 0) (rm4 l Z a0 hw [] b253 b230 (v0_10 p0 p1 p2 p3 p4 p5) p0 (v0_12 p0 p1 p2 p3 p4 p5) p2 (v0_15 p0 p1 p2 p3 p4 p5) (v0_5 p0 p1 p2 p3 p4 p5) (v0_16 p0 p1 p2 p3 p4 p5) (v0_6 p0 p1 p2 p3 p4 p5) (v0_17 p0 p1 p2 p3 p4 p5) (v0_7 p0 p1 p2 p3 p4 p5) (v0_18 p0 p1 p2 p3 p4 p5) (v0_8 p0 p1 p2 p3 p4 p5) T274.heap n0 z275 po274_1 k290 po274_3 k291 po274_6 k292 po274_7 k293 po274_8 k294 po274_9 k295) hZ (hw _ (List.mem_of_getElem? (i := 38) rfl)) (hw _ (List.mem_of_getElem? (i := 4) rfl)) (by decide) (by decide)) q299a q299c (g := (mkF m 348 #[.val (.int p0), .val (.int p1), .val (.int p2), .val (.int p3), .val (.int p4), .val (.int p5), .val (.int (v0_2 p0 p1 p2 p3 p4 p5)), .val (.ref b1), .val (.ref b51), .val (.ref b230), .val (.ref b253), .val (.int (v0_28 p0 p1 p2 p3 p4 p5)), .val (.int (v0_29 p0 p1 p2 p3 p4 p5))] [(.ref b230), (.ref b253)])) rfl (by rw [hml]; rfl) (Steps.refl _) (argsL := [(.ref b230)]) (rest := []) (lenOf pd__Lcom_example_ashlar_ashlar_worktree_StatData__Z rfl) rfl (by show 2 * 0 + _ ≤ _; exact Nat.le_of_eq rfl) (hb hby at_348) (fun _ _ => ⟨rfl, e289, (by decide : 4 + 0 ≤ _), (by decide : 36 + 0 ≤ _)⟩)
        dsimp only [Pt.U, Pt.locs, Pt.cells, Pt.slots] at X299 l299 y299 z299 st299 hQ299
        replace X299 := own_stand X299 l299 y299 z299
        clear l299 y299 z299
        have N299q := (show _ ∧ _ ∧ _ from hQ299).1
        have hv299 := (show _ ∧ _ ∧ _ from hQ299).2.1
        have e299 := (show _ ∧ _ ∧ _ from hQ299).2.2
        clear hQ299
        subst hv299
        have N299 := Fr.app N289 N299q
        have pre300 : ∀ t, Steps p.tables e below (T299.setTop (mkF m 353 #[.val (.int p0), .val (.int p1), .val (.int p2), .val (.int p3), .val (.int p4), .val (.int p5), .val (.int (v0_2 p0 p1 p2 p3 p4 p5)), .val (.ref b1), .val (.ref b51), .val (.ref b230), .val (.ref b253), .val (.int (v0_28 p0 p1 p2 p3 p4 p5)), .val (.int (v0_29 p0 p1 p2 p3 p4 p5))] [(.int (v0_29 p0 p1 p2 p3 p4 p5)), (.int (f4 (v0_10 p0 p1 p2 p3 p4 p5) p0 (v0_12 p0 p1 p2 p3 p4 p5) p2 (v0_15 p0 p1 p2 p3 p4 p5) (v0_5 p0 p1 p2 p3 p4 p5) (v0_16 p0 p1 p2 p3 p4 p5) (v0_6 p0 p1 p2 p3 p4 p5) (v0_17 p0 p1 p2 p3 p4 p5) (v0_7 p0 p1 p2 p3 p4 p5) (v0_18 p0 p1 p2 p3 p4 p5) (v0_8 p0 p1 p2 p3 p4 p5)))])) t → Steps p.tables e below (s₁.setTop (entryFrame m #[(.int p0), (.int p1), (.int p2), (.int p3), (.int p4), (.int p5)] maxLocals)) t := by
          intro t k
          refine pre297 t ?_
          show Steps p.tables e below (T289.setTop (mkF m 341 #[.val (.int p0), .val (.int p1), .val (.int p2), .val (.int p3), .val (.int p4), .val (.int p5), .val (.int (v0_2 p0 p1 p2 p3 p4 p5)), .val (.ref b1), .val (.ref b51), .val (.ref b230), .val (.ref b253), .val (.int (v0_28 p0 p1 p2 p3 p4 p5)), .val (.int (v0_29 p0 p1 p2 p3 p4 p5))] [(.int (v0_29 p0 p1 p2 p3 p4 p5)), (.int (f4 p0 (v0_10 p0 p1 p2 p3 p4 p5) p2 (v0_12 p0 p1 p2 p3 p4 p5) (v0_5 p0 p1 p2 p3 p4 p5) (v0_15 p0 p1 p2 p3 p4 p5) (v0_6 p0 p1 p2 p3 p4 p5) (v0_16 p0 p1 p2 p3 p4 p5) (v0_7 p0 p1 p2 p3 p4 p5) (v0_17 p0 p1 p2 p3 p4 p5) (v0_8 p0 p1 p2 p3 p4 p5) (v0_18 p0 p1 p2 p3 p4 p5)))])) _
          refine XS.icmpNo X289.here hx rfl (hb hby at_341) rfl (XT.ii_ne_f c298) ?_
          show Steps p.tables e below (T289.setTop (mkF m 344 #[.val (.int p0), .val (.int p1), .val (.int p2), .val (.int p3), .val (.int p4), .val (.int p5), .val (.int (v0_2 p0 p1 p2 p3 p4 p5)), .val (.ref b1), .val (.ref b51), .val (.ref b230), .val (.ref b253), .val (.int (v0_28 p0 p1 p2 p3 p4 p5)), .val (.int (v0_29 p0 p1 p2 p3 p4 p5))] [])) _
          refine XS.aload X289.here hx rfl (hb hby at_344) rfl rfl ?_
          show Steps p.tables e below (T289.setTop (mkF m 346 #[.val (.int p0), .val (.int p1), .val (.int p2), .val (.int p3), .val (.int p4), .val (.int p5), .val (.int (v0_2 p0 p1 p2 p3 p4 p5)), .val (.ref b1), .val (.ref b51), .val (.ref b230), .val (.ref b253), .val (.int (v0_28 p0 p1 p2 p3 p4 p5)), .val (.int (v0_29 p0 p1 p2 p3 p4 p5))] [(.ref b253)])) _
          refine XS.aload X289.here hx rfl (hb hby at_346) rfl rfl ?_
          show Steps p.tables e below (T289.setTop (mkF m 348 #[.val (.int p0), .val (.int p1), .val (.int p2), .val (.int p3), .val (.int p4), .val (.int p5), .val (.int (v0_2 p0 p1 p2 p3 p4 p5)), .val (.ref b1), .val (.ref b51), .val (.ref b230), .val (.ref b253), .val (.int (v0_28 p0 p1 p2 p3 p4 p5)), .val (.int (v0_29 p0 p1 p2 p3 p4 p5))] [(.ref b230), (.ref b253)])) _
          refine st299.trans ?_
          show Steps p.tables e below (T299.setTop (mkF m 351 #[.val (.int p0), .val (.int p1), .val (.int p2), .val (.int p3), .val (.int p4), .val (.int p5), .val (.int (v0_2 p0 p1 p2 p3 p4 p5)), .val (.ref b1), .val (.ref b51), .val (.ref b230), .val (.ref b253), .val (.int (v0_28 p0 p1 p2 p3 p4 p5)), .val (.int (v0_29 p0 p1 p2 p3 p4 p5))] [(.int (f4 (v0_10 p0 p1 p2 p3 p4 p5) p0 (v0_12 p0 p1 p2 p3 p4 p5) p2 (v0_15 p0 p1 p2 p3 p4 p5) (v0_5 p0 p1 p2 p3 p4 p5) (v0_16 p0 p1 p2 p3 p4 p5) (v0_6 p0 p1 p2 p3 p4 p5) (v0_17 p0 p1 p2 p3 p4 p5) (v0_7 p0 p1 p2 p3 p4 p5) (v0_18 p0 p1 p2 p3 p4 p5) (v0_8 p0 p1 p2 p3 p4 p5)))])) _
          refine XS.iload X299.here hx rfl (hb hby at_351) rfl ?_
          exact k
        clear pre297 st299
        by_cases c301 : (v0_31 p0 p1 p2 p3 p4 p5) = (v0_29 p0 p1 p2 p3 p4 p5)
        · skip
          refine ⟨T299, _, X299, e299, N299, fun t k => ?_⟩
          rw [show (v0_32 p0 p1 p2 p3 p4 p5) = (1 : Int32) from ((if_pos c298).trans (if_pos c301))] at k
          refine pre300 t ?_
          show Steps p.tables e below (T299.setTop (mkF m 353 #[.val (.int p0), .val (.int p1), .val (.int p2), .val (.int p3), .val (.int p4), .val (.int p5), .val (.int (v0_2 p0 p1 p2 p3 p4 p5)), .val (.ref b1), .val (.ref b51), .val (.ref b230), .val (.ref b253), .val (.int (v0_28 p0 p1 p2 p3 p4 p5)), .val (.int (v0_29 p0 p1 p2 p3 p4 p5))] [(.int (v0_29 p0 p1 p2 p3 p4 p5)), (.int (f4 (v0_10 p0 p1 p2 p3 p4 p5) p0 (v0_12 p0 p1 p2 p3 p4 p5) p2 (v0_15 p0 p1 p2 p3 p4 p5) (v0_5 p0 p1 p2 p3 p4 p5) (v0_16 p0 p1 p2 p3 p4 p5) (v0_6 p0 p1 p2 p3 p4 p5) (v0_17 p0 p1 p2 p3 p4 p5) (v0_7 p0 p1 p2 p3 p4 p5) (v0_18 p0 p1 p2 p3 p4 p5) (v0_8 p0 p1 p2 p3 p4 p5)))])) _
          refine XS.icmpNo X299.here hx rfl (hb hby at_353) rfl (XT.ii_ne_f c301) ?_
          show Steps p.tables e below (T299.setTop (mkF m 356 #[.val (.int p0), .val (.int p1), .val (.int p2), .val (.int p3), .val (.int p4), .val (.int p5), .val (.int (v0_2 p0 p1 p2 p3 p4 p5)), .val (.ref b1), .val (.ref b51), .val (.ref b230), .val (.ref b253), .val (.int (v0_28 p0 p1 p2 p3 p4 p5)), .val (.int (v0_29 p0 p1 p2 p3 p4 p5))] [])) _
          refine XT.iconstV X299.here hx rfl (1 : Int32) (hb hby at_356) (by decide) ?_
          show Steps p.tables e below (T299.setTop (mkF m 357 #[.val (.int p0), .val (.int p1), .val (.int p2), .val (.int p3), .val (.int p4), .val (.int p5), .val (.int (v0_2 p0 p1 p2 p3 p4 p5)), .val (.ref b1), .val (.ref b51), .val (.ref b230), .val (.ref b253), .val (.int (v0_28 p0 p1 p2 p3 p4 p5)), .val (.int (v0_29 p0 p1 p2 p3 p4 p5))] [(.int (1 : Int32))])) _
          refine XS.goto X299.here hx rfl (pc0 := 357) (pc' := 361) rfl (hb hby at_357) (by decide) (by decide) ?_
          exact k
        · skip
          refine ⟨T299, _, X299, e299, N299, fun t k => ?_⟩
          rw [show (v0_32 p0 p1 p2 p3 p4 p5) = (0 : Int32) from ((if_pos c298).trans (if_neg c301))] at k
          refine pre300 t ?_
          show Steps p.tables e below (T299.setTop (mkF m 353 #[.val (.int p0), .val (.int p1), .val (.int p2), .val (.int p3), .val (.int p4), .val (.int p5), .val (.int (v0_2 p0 p1 p2 p3 p4 p5)), .val (.ref b1), .val (.ref b51), .val (.ref b230), .val (.ref b253), .val (.int (v0_28 p0 p1 p2 p3 p4 p5)), .val (.int (v0_29 p0 p1 p2 p3 p4 p5))] [(.int (v0_29 p0 p1 p2 p3 p4 p5)), (.int (f4 (v0_10 p0 p1 p2 p3 p4 p5) p0 (v0_12 p0 p1 p2 p3 p4 p5) p2 (v0_15 p0 p1 p2 p3 p4 p5) (v0_5 p0 p1 p2 p3 p4 p5) (v0_16 p0 p1 p2 p3 p4 p5) (v0_6 p0 p1 p2 p3 p4 p5) (v0_17 p0 p1 p2 p3 p4 p5) (v0_7 p0 p1 p2 p3 p4 p5) (v0_18 p0 p1 p2 p3 p4 p5) (v0_8 p0 p1 p2 p3 p4 p5)))])) _
          refine XS.icmpYes X299.here hx rfl (pc0 := 353) (pc' := 360) rfl (hb hby at_353) rfl (XT.ii_ne_t c301) (by decide) (by decide) ?_
          show Steps p.tables e below (T299.setTop (mkF m 360 #[.val (.int p0), .val (.int p1), .val (.int p2), .val (.int p3), .val (.int p4), .val (.int p5), .val (.int (v0_2 p0 p1 p2 p3 p4 p5)), .val (.ref b1), .val (.ref b51), .val (.ref b230), .val (.ref b253), .val (.int (v0_28 p0 p1 p2 p3 p4 p5)), .val (.int (v0_29 p0 p1 p2 p3 p4 p5))] [])) _
          refine XT.iconstV X299.here hx rfl (0 : Int32) (hb hby at_360) (by decide) ?_
          exact k
      · skip
        refine ⟨T289, _, X289, e289, N289, fun t k => ?_⟩
        rw [show (v0_32 p0 p1 p2 p3 p4 p5) = (0 : Int32) from (if_neg c298)] at k
        refine pre297 t ?_
        show Steps p.tables e below (T289.setTop (mkF m 341 #[.val (.int p0), .val (.int p1), .val (.int p2), .val (.int p3), .val (.int p4), .val (.int p5), .val (.int (v0_2 p0 p1 p2 p3 p4 p5)), .val (.ref b1), .val (.ref b51), .val (.ref b230), .val (.ref b253), .val (.int (v0_28 p0 p1 p2 p3 p4 p5)), .val (.int (v0_29 p0 p1 p2 p3 p4 p5))] [(.int (v0_29 p0 p1 p2 p3 p4 p5)), (.int (f4 p0 (v0_10 p0 p1 p2 p3 p4 p5) p2 (v0_12 p0 p1 p2 p3 p4 p5) (v0_5 p0 p1 p2 p3 p4 p5) (v0_15 p0 p1 p2 p3 p4 p5) (v0_6 p0 p1 p2 p3 p4 p5) (v0_16 p0 p1 p2 p3 p4 p5) (v0_7 p0 p1 p2 p3 p4 p5) (v0_17 p0 p1 p2 p3 p4 p5) (v0_8 p0 p1 p2 p3 p4 p5) (v0_18 p0 p1 p2 p3 p4 p5)))])) _
        refine XS.icmpYes X289.here hx rfl (pc0 := 341) (pc' := 360) rfl (hb hby at_341) rfl (XT.ii_ne_t c298) (by decide) (by decide) ?_
        show Steps p.tables e below (T289.setTop (mkF m 360 #[.val (.int p0), .val (.int p1), .val (.int p2), .val (.int p3), .val (.int p4), .val (.int p5), .val (.int (v0_2 p0 p1 p2 p3 p4 p5)), .val (.ref b1), .val (.ref b51), .val (.ref b230), .val (.ref b253), .val (.int (v0_28 p0 p1 p2 p3 p4 p5)), .val (.int (v0_29 p0 p1 p2 p3 p4 p5))] [])) _
        refine XT.iconstV X289.here hx rfl (0 : Int32) (hb hby at_360) (by decide) ?_
        exact k
    have hv303 : (v0_32 p0 p1 p2 p3 p4 p5) = (1 : Int32) := own_v0_32 p0 p1 p2 p3 p4 p5 c137
    obtain ⟨fs, hr, hrun, hended, hW, hsame⟩ := X302.leave (v := some (.int (1 : Int32))) (fun h => by rw [Bd.returns] at h; cases h) hlk
    refine ⟨_, _, pre302 _ ?_, hrun, hended, _, _, rfl, ?_, ⟨_, rfl⟩, hW, hsame.mono (by decide) (by decide)⟩
    · skip
      show Steps p.tables e below (T302.setTop (mkF m 361 #[.val (.int p0), .val (.int p1), .val (.int p2), .val (.int p3), .val (.int p4), .val (.int p5), .val (.int (v0_2 p0 p1 p2 p3 p4 p5)), .val (.ref b1), .val (.ref b51), .val (.ref b230), .val (.ref b253), .val (.int (v0_28 p0 p1 p2 p3 p4 p5)), .val (.int (v0_29 p0 p1 p2 p3 p4 p5))] [(.int (v0_32 p0 p1 p2 p3 p4 p5))])) _
      rw [hv303]
      exact retN X302 hx (t := .boolean) Bd.returns (by simp) (hb hby at_361) hr
    · skip
      show Q0 Z p0 p1 p2 p3 p4 p5 h0 n0 _ T302.heap _
      rw [e302]
      exact ⟨rfl, N302⟩
set_option maxRecDepth 65536 in
set_option maxHeartbeats 40000000 in
theorem comes_1 {Post : Tables → Env → Array Value → State → Outcome → State → Prop} (hpost : ∀ tb e args s v u, (limb_1_1.after args s (.returned v) u = true ∧ limb_1_2.after args s (.returned v) u = true ∧ True) → FrameEnd s (.returned v) u (Jvm.fieldLocs frame_1_writes args s ++ Jvm.arrayLocs frame_1_arrays args s ++ Jvm.staticLocs frame_1_statics s) 16 192 → Post tb e args s (.returned v) u) :
    ArmFor flags0 classFile x code maxLocals ret World_1 tables_1 room_1 Calls_1 rest_1 Pre_1 Post := by
  intro l hfl _ _ p e ha hc hk s m args below hf hA hF happ hP
  obtain ⟨hcalls, hrest, hpre⟩ := hP
  obtain ⟨-, -, -, hnamed, -, -, -, hat⟩ := (Spec.applies_iff hf).mp happ
  obtain ⟨hg, hn⟩ := and_e (Cond.before_iff.mp (show (Jvm.Cond.and given_1 narrow_1).before args s = true from hpre))
  obtain ⟨hcount, r0⟩ := and_e hg
  obtain ⟨ha0, r1⟩ := and_e r0
  obtain ⟨ha1, r2⟩ := and_e r1
  obtain ⟨ha2, r3⟩ := and_e r2
  obtain ⟨ha3, r4⟩ := and_e r3
  obtain ⟨ha4, r5⟩ := and_e r4
  obtain ⟨w0, w1, w2, w3, w4, w5, rfl⟩ : ∃ w0 w1 w2 w3 w4 w5 : Value, args = #[w0, w1, w2, w3, w4, w5] := by
    have hs : args.size = 6 := by simpa [Cond.value, given_1] using hcount
    obtain ⟨L⟩ := args
    match L, hs with
    | [w0, w1, w2, w3, w4, w5], _ => exact ⟨w0, w1, w2, w3, w4, w5, rfl⟩
  have hw := fun d (hd : d ∈ tables_1) => atoms_spec (ws := Jvm.Cond.code x code maxLocals ret :: tables_1) hat d (List.mem_cons_of_mem _ hd)
  have hfit : Fit s := fun {y c} hc i hi => by
    obtain ⟨ha, rfl⟩ := Array.getElem?_eq_some_iff.mp hc
    have q := List.all_eq_true.mp ((Array.all_eq_true_iff_forall_mem.mp hF) _ (Array.getElem_mem ha)) i (List.mem_range.mpr hi)
    simpa [Array.getElem?_eq_getElem hi] using q
  obtain ⟨i0, ei0⟩ := is_v ha0
  obtain rfl : w0 = (.int i0) := Option.some.inj ei0
  obtain ⟨i1, ei1⟩ := is_v ha1
  obtain rfl : w1 = (.int i1) := Option.some.inj ei1
  obtain ⟨i2, ei2⟩ := is_v ha2
  obtain rfl : w2 = (.int i2) := Option.some.inj ei2
  obtain ⟨i3, ei3⟩ := is_v ha3
  obtain rfl : w3 = (.int i3) := Option.some.inj ei3
  obtain ⟨i4, ei4⟩ := is_v ha4
  obtain rfl : w4 = (.int i4) := Option.some.inj ei4
  obtain ⟨i5, ei5⟩ := is_v r5
  obtain rfl : w5 = (.int i5) := Option.some.inj ei5
  obtain ⟨n, o, h1, h2, h3, _, L, rfl, ⟨rfl, N⟩, hq⟩ := rm0 l s _ hw tables_1 i0 i1 i2 i3 i4 i5 s.heap s.heap.size (Nat.le_refl _) p e ha hc hk s m _ below hf ((Spec.applies_iff_loose hf).mp happ).1 ⟨rfl, State.Warmed39.refl s, rfl⟩ trivial
  refine ⟨n, _, h1, h2, h3, hpost _ _ _ _ _ _ ⟨Cond.after_iff.mpr rfl, Cond.after_iff.mpr (eq_i res_at (Term.int_eval (1)) rfl), trivial⟩ ⟨hq.1, hq.2.1, (hq.2.2.sift fun y hy => Or.inr (N y hy)).mono (by decide) (by decide)⟩⟩
theorem main_1_1 : Claimed_1_1 := comes_1 fun _ _ _ _ _ _ h hF => ⟨h.1, hF⟩
theorem main_1_2 : Claimed_1_2 := comes_1 fun _ _ _ _ _ _ h hF => ⟨h.2.1, hF⟩
end Jvm.Pilot.@@N@@
namespace Jvm.Pilot.@@N@@
open Jvm Jvm.ClassFile Sem Op Lib Jvm.Free Jvm.Stand Jvm.Pilot.@@N@@.Jvm.D
/-! MADE BY PROGRAM (witnessworld.py) out of the Statement's table words and the real class files: 10 classes; the members and pool entries that the words name. The judged class is class 1, her method 1. -/
namespace start1
open Jvm.ClassFile
def u (s : String) : CpInfo := .utf8 (stringToUtf16 s)
/-- a pool by its gaps: so many unusable entries, then the entry; so many at the end -/
def gap : Nat → List CpInfo → List CpInfo
  | 0, r => r
  | n + 1, r => .unusable :: gap n r
def poolList (es : List (Nat × CpInfo)) (last : Nat) : List CpInfo := es.foldr (fun e r => gap e.1 (e.2 :: r)) (gap last [])
def pool (es : List (Nat × CpInfo)) (last : Nat) : Array CpInfo := ⟨poolList es last⟩
def fileOf (pool : Array CpInfo) (this : Nat) (attrs : Array Attribute := #[]) (ms : Array MethodInfo := #[]) (fl : Nat := 33) (sup : Nat := 0) (ifs : Array Nat := #[]) (fds : Array FieldInfo := #[]) : ClassFile where
  minorVersion := 0
  majorVersion := 65
  constantPool := pool
  accessFlags := fl
  thisClass := this
  superClass := sup
  interfaces := ifs
  fields := fds
  methods := ms
  attributes := attrs
def plain (name : String) (sup : Option ClassId) : Class where
  name := name
  kind := .ordinary
  loader := none
  accessFlags := 33
  super := sup
  interfaces := #[]
  cf := none
  fields := #[]
  methods := #[]
  instanceTypes := #[]
  staticTypes := #[]
  resolved := #[]
  callSites := []
  init := .initialized
  statics := none
  mirror := none

def pool0 : Array CpInfo := pool [(5, u "<init>"), (0, u "()V"), (1, .class_ 10), (1, u "java/lang/Object")] 113

def k0c0 : Code := { maxStack := 0, maxLocals := 1, code := object_method_1_code, exceptionTable := #[], attributes := #[] }
def k0m0 : Method := { name := "<init>", desc := "()V", sig := { parameters := [], returnType := none }, accessFlags := 1, code := some k0c0 }
/-- java/lang/Object -/
def k0 : Class := { plain "java/lang/Object" none with
  accessFlags := 33
  interfaces := #[]
  cf := some (fileOf pool0 8 #[] #[{ accessFlags := 1, nameIndex := 5, descriptorIndex := 6, attributes := #[] }] 33 0 #[] #[])
  fields := #[]
  methods := #[k0m0]
  instanceTypes := #[]
  staticTypes := #[]
  resolved := Array.replicate 124 none
  statics := none }

def pool1 : Array CpInfo := pool [(2, .class_ 4), (1, u "java/lang/Object"), (0, u "<init>"), (0, u "()V"), (0, .integer 2147483647), (0, .class_ 9), (0, u "com/example/ashlar/ashlar/worktree/StatData"), (0, .methodref 8 11), (0, .nameAndType 5 12), (0, u "(IIIIIIIII)V"), (0, .methodref 8 14), (0, .nameAndType 15 16), (0, u "matches"), (0, u "(Lcom/example/ashlar/ashlar/worktree/StatData;)Z"), (0, .class_ 18), (0, u "com/example/ashlar/ashlar/worktree/StatDataMatchesPinLaw"), (2, u "law"), (0, u "(IIIIII)Z")] 5

def k1m0 : Method := { name := "<init>", desc := "()V", sig := { parameters := [], returnType := none }, accessFlags := 1, code := none }
def k1c1 : Code := { maxStack := 12, maxLocals := 13, code := code, exceptionTable := #[], attributes := #[] }
def k1m1 : Method := { name := "law", desc := "(IIIIII)Z", sig := { parameters := [.int, .int, .int, .int, .int, .int], returnType := some .boolean }, accessFlags := 9, code := some k1c1 }
/-- com/example/ashlar/ashlar/worktree/StatDataMatchesPinLaw -/
def k1 : Class := { plain "com/example/ashlar/ashlar/worktree/StatDataMatchesPinLaw" (some 0) with
  accessFlags := 49
  interfaces := #[]
  cf := some (fileOf pool1 17 #[] #[{ accessFlags := 1, nameIndex := 5, descriptorIndex := 6, attributes := #[] }, { accessFlags := 9, nameIndex := 21, descriptorIndex := 22, attributes := #[] }] 49 2 #[] #[])
  fields := #[]
  methods := #[k1m0, k1m1]
  instanceTypes := #[]
  staticTypes := #[]
  resolved := Array.replicate 28 none
  statics := none }

def pool2 : Array CpInfo := pool [(1, .methodref 2 3), (0, .class_ 4), (0, .nameAndType 5 6), (0, u "java/lang/Object"), (0, u "<init>"), (0, u "()V"), (0, .class_ 8), (0, u "java/lang/Record")] 13

def k2c0 : Code := { maxStack := 1, maxLocals := 1, code := jdk_30_method_1_code, exceptionTable := #[], attributes := #[] }
def k2m0 : Method := { name := "<init>", desc := "()V", sig := { parameters := [], returnType := none }, accessFlags := 4, code := some k2c0 }
/-- java/lang/Record -/
def k2 : Class := { plain "java/lang/Record" (some 0) with
  accessFlags := 1057
  interfaces := #[]
  cf := some (fileOf pool2 7 #[] #[{ accessFlags := 4, nameIndex := 5, descriptorIndex := 6, attributes := #[] }] 1057 2 #[] #[])
  fields := #[]
  methods := #[k2m0]
  instanceTypes := #[]
  staticTypes := #[]
  resolved := Array.replicate 22 none
  statics := none }

def pool3 : Array CpInfo := pool [(1, .methodref 2 3), (0, .class_ 4), (0, .nameAndType 5 6), (0, u "java/lang/Record"), (0, u "<init>"), (0, u "()V"), (0, .fieldref 8 9), (0, .class_ 10), (0, .nameAndType 11 12), (0, u "com/example/ashlar/ashlar/worktree/StatData"), (0, u "ctimeSeconds"), (0, u "I"), (0, .fieldref 8 14), (0, .nameAndType 15 12), (0, u "ctimeNanos"), (0, .fieldref 8 17), (0, .nameAndType 18 12), (0, u "mtimeSeconds"), (0, .fieldref 8 20), (0, .nameAndType 21 12), (0, u "mtimeNanos"), (0, .fieldref 8 23), (0, .nameAndType 24 12), (0, u "device"), (0, .fieldref 8 26), (0, .nameAndType 27 12), (0, u "inode"), (0, .fieldref 8 29), (0, .nameAndType 30 12), (0, u "uid"), (0, .fieldref 8 32), (0, .nameAndType 33 12), (0, u "gid"), (0, .fieldref 8 35), (0, .nameAndType 36 12), (0, u "size"), (31, u "(IIIIIIIII)V"), (17, u "matches"), (0, u "(Lcom/example/ashlar/ashlar/worktree/StatData;)Z")] 33

def k3c0 : Code := { maxStack := 2, maxLocals := 10, code := prog_123_method_1_code, exceptionTable := #[], attributes := #[] }
def k3m0 : Method := { name := "<init>", desc := "(IIIIIIIII)V", sig := { parameters := [.int, .int, .int, .int, .int, .int, .int, .int, .int], returnType := none }, accessFlags := 1, code := some k3c0 }
def k3c1 : Code := { maxStack := 2, maxLocals := 2, code := prog_123_method_3_code, exceptionTable := #[], attributes := #[] }
def k3m1 : Method := { name := "matches", desc := "(Lcom/example/ashlar/ashlar/worktree/StatData;)Z", sig := { parameters := [(.object "com/example/ashlar/ashlar/worktree/StatData")], returnType := some .boolean }, accessFlags := 0, code := some k3c1 }
/-- com/example/ashlar/ashlar/worktree/StatData -/
def k3 : Class := { plain "com/example/ashlar/ashlar/worktree/StatData" (some 2) with
  accessFlags := 49
  interfaces := #[]
  cf := some (fileOf pool3 8 #[] #[{ accessFlags := 1, nameIndex := 5, descriptorIndex := 68, attributes := #[] }, { accessFlags := 0, nameIndex := 86, descriptorIndex := 87, attributes := #[] }] 49 2 #[] #[{ accessFlags := 18, nameIndex := 11, descriptorIndex := 12, attributes := #[] }, { accessFlags := 18, nameIndex := 15, descriptorIndex := 12, attributes := #[] }, { accessFlags := 18, nameIndex := 18, descriptorIndex := 12, attributes := #[] }, { accessFlags := 18, nameIndex := 21, descriptorIndex := 12, attributes := #[] }, { accessFlags := 18, nameIndex := 24, descriptorIndex := 12, attributes := #[] }, { accessFlags := 18, nameIndex := 27, descriptorIndex := 12, attributes := #[] }, { accessFlags := 18, nameIndex := 30, descriptorIndex := 12, attributes := #[] }, { accessFlags := 18, nameIndex := 33, descriptorIndex := 12, attributes := #[] }, { accessFlags := 18, nameIndex := 36, descriptorIndex := 12, attributes := #[] }])
  fields := #[{ name := "ctimeSeconds", type := .int, accessFlags := 18, slot := 0, constantValue := 0 }, { name := "ctimeNanos", type := .int, accessFlags := 18, slot := 1, constantValue := 0 }, { name := "mtimeSeconds", type := .int, accessFlags := 18, slot := 2, constantValue := 0 }, { name := "mtimeNanos", type := .int, accessFlags := 18, slot := 3, constantValue := 0 }, { name := "device", type := .int, accessFlags := 18, slot := 4, constantValue := 0 }, { name := "inode", type := .int, accessFlags := 18, slot := 5, constantValue := 0 }, { name := "uid", type := .int, accessFlags := 18, slot := 6, constantValue := 0 }, { name := "gid", type := .int, accessFlags := 18, slot := 7, constantValue := 0 }, { name := "size", type := .int, accessFlags := 18, slot := 8, constantValue := 0 }]
  methods := #[k3m0, k3m1]
  instanceTypes := #[.int, .int, .int, .int, .int, .int, .int, .int, .int]
  staticTypes := #[]
  resolved := Array.replicate 121 none
  statics := none }

def pool4 : Array CpInfo := pool [(1, u "java/lang/Cloneable"), (0, .class_ 1), (0, u "java/lang/Object"), (0, .class_ 3)] 3

/-- java/lang/Cloneable -/
def k4 : Class := { plain "java/lang/Cloneable" (some 0) with
  accessFlags := 1537
  interfaces := #[]
  cf := some (fileOf pool4 2 #[] #[] 1537 4 #[] #[])
  fields := #[]
  methods := #[]
  instanceTypes := #[]
  staticTypes := #[]
  resolved := Array.replicate 8 none
  statics := none }

def pool5 : Array CpInfo := pool [(1, u "java/io/Serializable"), (0, .class_ 1), (0, u "java/lang/Object"), (0, .class_ 3)] 3

/-- java/io/Serializable -/
def k5 : Class := { plain "java/io/Serializable" (some 0) with
  accessFlags := 1537
  interfaces := #[]
  cf := some (fileOf pool5 2 #[] #[] 1537 4 #[] #[])
  fields := #[]
  methods := #[]
  instanceTypes := #[]
  staticTypes := #[]
  resolved := Array.replicate 8 none
  statics := none }

/-- the primitive byte -/
def k6 : Class := { plain "byte" none with kind := .primitive 'B', accessFlags := 0x411 }
/-- [B -/
def k7 : Class := { plain "[B" (some 0) with kind := .array 6 .byte, interfaces := #[4, 5], accessFlags := 1041 }

/-- the primitive int -/
def k8 : Class := { plain "int" none with kind := .primitive 'I', accessFlags := 0x411 }
/-- [I -/
def k9 : Class := { plain "[I" (some 0) with kind := .array 8 .int, interfaces := #[4, 5], accessFlags := 1041 }

def heap : Heap := #[]
def classes : Array Class := #[k0, k1, k2, k3, k4, k5, k6, k7, k8, k9]
def interned : List (Array UInt16 × Addr) := []
def slotsUsed : Nat := 0
def theMethod : MethodId := ⟨1, 1⟩
def args0 : Array Value := #[.int 5, .int 7, .int 9, .int 11, .int 1, .int 3]
def aboutOver (below : List Frame) : State where
  vm := { classes := classes, interned := interned.toArray }
  heap := heap
  slotsUsed := slotsUsed
  threads := #[{ frames := .invoking theMethod args0 :: below }]
def below0 : List Frame := [.native { method := ⟨0, 0⟩, args := #[] }]
def about1 : State := aboutOver below0
def p0 : Program := .bare "" "" ""
def e0 : Env := launch0.env 0 0 0
theorem w_frames : about1.frames = Frame.invoking theMethod args0 :: below0 := rfl
set_option maxRecDepth 65536 in
theorem w_args : argsFit about1.vm theMethod args0 = true := by decide +kernel
set_option maxRecDepth 65536 in
theorem w_heap : heapFits about1 = true := by decide +kernel
set_option maxRecDepth 65536 in
theorem w_runnable : about1.curStatus? = some .runnable := by decide +kernel
set_option maxRecDepth 65536 in
theorem w_alone : about1.alone = true := by decide +kernel
set_option maxRecDepth 65536 in
theorem w_named : about1.methodNamed? x = some theMethod := by decide +kernel
set_option maxRecDepth 65536 in
theorem w_hears : about1.hears theMethod below0 = true := by decide +kernel
set_option maxRecDepth 65536 in
theorem w_ripe : about1.ripe theMethod args0 below0 = true := by decide +kernel
theorem w_running : about1.status = .running := rfl
set_option maxRecDepth 65536 in
theorem w_room : about1.hasRoom e0.platform room_1 = true :=
  launch0.hasRoom_least _ room_1 (by decide +kernel) (by decide +kernel) (by decide +kernel) (by decide +kernel) (by decide +kernel) (by decide +kernel)
theorem allAtoms_all (ts : List Jvm.Cond) (a : Array Jvm.Value) (st : Jvm.State) : (allAtoms ts).before a st = ts.all (fun c => c.before a st) := by
  induction ts with
  | nil => rfl
  | cons c t ih =>
    show (Jvm.Cond.and c (allAtoms t)).before a st = _
    rw [Jvm.Cond.before_and, ih, List.all_cons]
def words1 : List Jvm.Cond := Jvm.Cond.code x code maxLocals ret :: tables_1
/-- a 'code' word, met by the world's own term for the bytes: nothing is compared byte by byte -/
theorem code_word {y : MethodName} {bytes : ByteArray} {mx : Nat} {rt : Option FieldType} {a : Array Value} {s : State} {m : MethodId} {meth : Method} {c : Code} (h1 : s.methodNamed? y = some m) (h2 : s.vm.method? m = some meth) (h3 : meth.code = some c) (h4 : c.code = bytes)
    (h5 : (c.maxLocals == mx && c.exceptionTable.isEmpty && decide (c.maxStack ≤ mostOperands) && decide (meth.sig.returnType = rt) && !meth.locks && decide (parseMethodDescriptor y.desc = some meth.sig)) = true) : (Jvm.Cond.code y bytes mx rt).before a s = true := by
  simp only [Bool.and_eq_true, beq_iff_eq, Bool.not_eq_true', decide_eq_true_eq] at h5
  obtain ⟨⟨⟨⟨⟨g1, g2⟩, g3⟩, g4⟩, g5⟩, g6⟩ := h5
  simp [Cond.before, Cond.holds, Cond.value, h1, h2, h3, h4, g1, g2, g3, g4, g5, g6]
def isCode : Jvm.Cond → Bool
  | .code _ _ _ _ => true
  | _ => false
theorem all_split {L : List Jvm.Cond} {P : Jvm.Cond → Bool} (h1 : L.all (fun c => isCode c || P c) = true) (h2 : ∀ c ∈ L.filter isCode, P c = true) : L.all P = true := by
  refine List.all_eq_true.mpr fun c hc => ?_
  have h := List.all_eq_true.mp h1 c hc
  rcases Bool.eq_false_or_eq_true (isCode c) with hi | hi
  · exact h2 c (List.mem_filter.mpr ⟨hc, hi⟩)
  · simpa [hi] using h
set_option maxRecDepth 65536 in
theorem w_c0 : (Jvm.Cond.code x code maxLocals ret).before args0 about1 = true := code_word (m := ⟨1, 1⟩) (meth := k1m1) (c := k1c1) (by decide +kernel) rfl rfl rfl (by decide +kernel)
set_option maxRecDepth 65536 in
theorem w_c1 : (Jvm.Cond.code ({ cls := "com/example/ashlar/ashlar/worktree/StatData", name := "<init>", desc := "(IIIIIIIII)V" } : Jvm.MethodName) prog_123_method_1_code (10 : Nat) (Option.none : Option Jvm.ClassFile.FieldType)).before args0 about1 = true := code_word (m := ⟨3, 0⟩) (meth := k3m0) (c := k3c0) (by decide +kernel) rfl rfl rfl (by decide +kernel)
set_option maxRecDepth 65536 in
theorem w_c2 : (Jvm.Cond.code ({ cls := "java/lang/Record", name := "<init>", desc := "()V" } : Jvm.MethodName) jdk_30_method_1_code (1 : Nat) (Option.none : Option Jvm.ClassFile.FieldType)).before args0 about1 = true := code_word (m := ⟨2, 0⟩) (meth := k2m0) (c := k2c0) (by decide +kernel) rfl rfl rfl (by decide +kernel)
set_option maxRecDepth 65536 in
theorem w_c3 : (Jvm.Cond.code ({ cls := "java/lang/Object", name := "<init>", desc := "()V" } : Jvm.MethodName) object_method_1_code (1 : Nat) (Option.none : Option Jvm.ClassFile.FieldType)).before args0 about1 = true := code_word (m := ⟨0, 0⟩) (meth := k0m0) (c := k0c0) (by decide +kernel) rfl rfl rfl (by decide +kernel)
set_option maxRecDepth 65536 in
theorem w_c4 : (Jvm.Cond.code ({ cls := "com/example/ashlar/ashlar/worktree/StatData", name := "matches", desc := "(Lcom/example/ashlar/ashlar/worktree/StatData;)Z" } : Jvm.MethodName) prog_123_method_3_code (2 : Nat) (Option.some Jvm.ClassFile.FieldType.boolean)).before args0 about1 = true := code_word (m := ⟨3, 1⟩) (meth := k3m1) (c := k3c1) (by decide +kernel) rfl rfl rfl (by decide +kernel)
def codes1 : List Jvm.Cond := [Jvm.Cond.code x code maxLocals ret, Jvm.Cond.code ({ cls := "com/example/ashlar/ashlar/worktree/StatData", name := "<init>", desc := "(IIIIIIIII)V" } : Jvm.MethodName) prog_123_method_1_code (10 : Nat) (Option.none : Option Jvm.ClassFile.FieldType), Jvm.Cond.code ({ cls := "java/lang/Record", name := "<init>", desc := "()V" } : Jvm.MethodName) jdk_30_method_1_code (1 : Nat) (Option.none : Option Jvm.ClassFile.FieldType), Jvm.Cond.code ({ cls := "java/lang/Object", name := "<init>", desc := "()V" } : Jvm.MethodName) object_method_1_code (1 : Nat) (Option.none : Option Jvm.ClassFile.FieldType), Jvm.Cond.code ({ cls := "com/example/ashlar/ashlar/worktree/StatData", name := "matches", desc := "(Lcom/example/ashlar/ashlar/worktree/StatData;)Z" } : Jvm.MethodName) prog_123_method_3_code (2 : Nat) (Option.some Jvm.ClassFile.FieldType.boolean)]
set_option maxRecDepth 65536 in
theorem codes_eq : words1.filter isCode = codes1 := rfl
theorem w_codes : ∀ c ∈ words1.filter isCode, c.before args0 about1 = true := by
  rw [codes_eq]
  intro c hc
  simp only [codes1, List.mem_cons, List.not_mem_nil, or_false] at hc
  rcases hc with rfl | rfl | rfl | rfl | rfl
  · exact w_c0
  · exact w_c1
  · exact w_c2
  · exact w_c3
  · exact w_c4
set_option maxRecDepth 65536 in
theorem w_t1 : (words1.take 24).all (fun c => isCode c || c.before args0 about1) = true := by decide +kernel
set_option maxRecDepth 65536 in
theorem w_t2 : (words1.drop 24).all (fun c => isCode c || c.before args0 about1) = true := by decide +kernel
theorem w_tables : (allAtoms (Jvm.Cond.code x code maxLocals ret :: tables_1)).before args0 about1 = true := by
  rw [allAtoms_all]
  show words1.all (fun c => c.before args0 about1) = true
  refine all_split ?_ w_codes
  rw [← List.take_append_drop 24 words1, List.all_append, w_t1, w_t2]
  rfl
set_option maxRecDepth 65536 in
theorem w_case : (Jvm.Cond.and given_1 narrow_1).before args0 about1 = true := by decide +kernel
theorem w_applies : (headSpec (Jvm.Cond.code x code maxLocals ret :: tables_1) room_1).applies x e0.platform about1 = true :=
  (Spec.applies_iff w_frames).mpr ⟨w_running, w_runnable, w_alone, w_named, w_hears, w_ripe, w_room, w_tables⟩
theorem atStart : AtStart classFile x code maxLocals ret World_1 tables_1 room_1 Calls_1 rest_1 Pre_1 launch0 p0 e0 about1 theMethod args0 below0 :=
  ⟨lists_1, trivial, launch0.admits_env _ _ _, launch0.least_env, fairChoices_fair.cas, fairChoices_fair.clock, w_frames, w_args, w_heap, w_applies, trivial, trivial, w_case⟩
end start1
theorem witness_1 : WitnessClaimed_1 := ⟨start1.p0, start1.e0, start1.about1, start1.theMethod, start1.args0, start1.below0, start1.atStart⟩
end Jvm.Pilot.@@N@@
