import JvmDerived
import JvmDerived.Pilot.@@N@@Statement
import JvmDerived.Pilot.@@N@@Code
set_option linter.unusedVariables false
set_option linter.unusedSimpArgs false
@@BLOCK:NumsL.lean.txt@@
namespace Jvm.RoadKit
open Sem ClassFile Op Lib Jvm.Stand Jvm.Free Jvm.LawKit
section New
variable {p : Program} {l : Launch} {e : Env} {R : Room} {s : State} {m : MethodId} {args : Array Value} {below : List Frame} {meth : Method} {c : Code} {T : State} {locs : List Loc} {cells slots : Nat}
theorem retI (X : Stand p l e R s m args below meth c T locs cells slots) (hx : p.tables.exec = Jvm.exec) {pc : Nat} {Ls : Array Slot} {z : Int32} {rest : List Value} (hret : meth.sig.returnType = some .int) (hd : decode c.code pc = .ok (.ireturn, 1)) {fs : List Frame}
    (hl : ∀ (f : JFrame) (acts : List Action), f.method = m → f.locked = none → f.entered = [] → (doReturn e (T.setTop f) acts (some (.int z))).1 = T.setFrames fs) : Steps p.tables e below (T.setTop (mkF m pc Ls (.int z :: rest))) (T.setFrames fs) := by
  have hm' : T.vm.method? m = some meth := X.method'
  have hn : narrow .int (.int z) = .int z := rfl
  show Steps p.tables e below (T.setTop { method := m, pc := pc, locals := Ls, stack := _ :: rest, locked := none }) _
  jvm_step X.here [X.here.top, hx, hd, hm', hret, hn]
  first | (intro acts; rw [hl _ acts rfl rfl rfl]) | rw [hl _ _ rfl rfl rfl]
  exact Steps.refl _
end New
end Jvm.RoadKit
namespace Jvm.Pilot.@@N@@
open Jvm Jvm.ClassFile Sem Op Lib Jvm.Free Jvm.Stand Jvm.LawKit Jvm.RoadKit Bundle Jvm.Pilot.@@N@@.Jvm.D
theorem own_rem32 (x y : Int32) : (x - (x / y) * y).toInt = x.toInt.tmod y.toInt := by
  rw [Int32.toInt_sub, Int32.toInt_mul, Int32.toInt_div]
  simp only [Int.bmod_mul_bmod, Int.sub_bmod_bmod]
  rw [Int.tmod_def, Int.mul_comm y.toInt]
  have h := Int32.toInt_mod x y
  have h1 := (x % y).toInt_lt
  have h2 := (x % y).le_toInt
  rw [h, Int.tmod_def, Int.mul_comm y.toInt] at h1 h2
  exact Int.bmod_eq_of_le (by omega) (by omega)
theorem own_eq_ref {a b : Term} {args : Array Value} {s : State} {r : Addr} (h : (Cond.eq a b).value args s none s [] = some true) (hb : b.eval args s none [] s = some (.ref r)) : a.eval args s none [] s = some (.ref r) := by
  obtain ⟨x, y, h1, h2, k1, k2⟩ := cmp_v (Or.inl h)
  rw [hb] at h2
  obtain rfl := Option.some.inj h2
  have hx : x.isRef = true := by
    rcases (show (Value.ref r).isRef = true ∧ x.isRef = true from k2) with ⟨-, q⟩; exact q
  have q := eq_R h1 hb hx rfl
  rw [h] at q
  have : x = .ref r := by simpa using (Option.some.inj q).symm
  rw [h1, this]
theorem own_slot {t j : Term} {args : Array Value} {s : State} {x : Addr} {cl : Cell} {v : Value} {k : Int32} (h : (Term.elem t j).eval args s none [] s = some v) (ht : t.eval args s none [] s = some (.ref x)) (hj : j.eval args s none [] s = some (.int k)) (hc : s.heap[x]? = some cl) : cl.slots[k.toNatClampNeg]? = some v := (elem_in h ht hj hc).2
theorem own_len {t : Term} {args : Array Value} {s : State} {x : Addr} {cl : Cell} {k : Int32} (h : (Term.length t).eval args s none [] s = some (.int k)) (ht : t.eval args s none [] s = some (.ref x)) (hc : s.heap[x]? = some cl) : cl.slots.size.toInt32 = k ∧ cl.slots.size < 2 ^ 31 := by
  obtain ⟨a, c, e1, e2, e3⟩ := Term.length_spec h
  rw [ht] at e1
  obtain rfl := Value.ref.inj (Option.some.inj e1)
  have e4 := (State.arrayAt?_spec e2).1
  rw [hc] at e4
  obtain rfl := Option.some.inj e4
  refine ⟨(Value.int.inj e3).symm, ?_⟩
  by_cases q : cl.slots.size < 2 ^ 31
  · exact q
  · exfalso
    simp [Term.eval, ht, e2, q] at h
theorem d2_0 : decode jdk_30_method_1_code 0 = .ok (.aload_n 0, 1) := by decide +kernel
theorem d2_1 : decode jdk_30_method_1_code 1 = .ok (.invokespecial 1, 3) := by decide +kernel
theorem d2_4 : decode jdk_30_method_1_code 4 = .ok (.return_, 1) := by decide +kernel
theorem pn_java_lang_Record : plainName "java/lang/Record" = true := by first | (simp [plainName, overriddenIn]; done) | decide +kernel
theorem ef_2 (m : MethodId) (o0 : Addr) : entryFrame m #[(.ref o0)] 1 = mkF m 0 #[.val (.ref o0)] [] := by first | (simp [entryFrame, mkF, argsToLocals, Value.category]; done) | rfl
def Q2 (Z : State) (o0 : Addr) (h0 : Heap) (n0 : Nat) (v : Option Value) (h : Heap) (L : List Loc) : Prop := Fr n0 L ∧ v = none ∧ h = h0
set_option maxRecDepth 65536 in
set_option maxHeartbeats 40000000 in
theorem rm2 (l : Launch) (Z : State) (a0 : Array Value) (hw : ∀ d ∈ tables_1, d.before a0 Z = true) (ws : List Jvm.Cond) (o0 : Addr) (h0 : Heap) (n0 : Nat) (Z0 : n0 ≤ h0.size) :
    MetFree l (⟨"java/lang/Record", "<init>", "()V"⟩ : MethodName) (head1 (Jvm.Cond.code (⟨"java/lang/Record", "<init>", "()V"⟩ : MethodName) jdk_30_method_1_code 1 none :: ws) ({ frames := 1, cells := 0, slots := 0, locals := 12 } : Room)) (fun a U => a = #[(.ref o0)] ∧ Z.Warmed39 U.vm ∧ U.heap = h0) (fun _ _ _ _ _ => True) (fun _ U o U' => ∃ v L, o = .returned v ∧ Q2 Z o0 h0 n0 v U'.heap L ∧ FrameEnd U o U' L ({ frames := 1, cells := 0, slots := 0, locals := 12 } : Room).cells ({ frames := 1, cells := 0, slots := 0, locals := 12 } : Room).slots) := by
  refine MetFree.of_bodySF (plainFor_of_name pn_java_lang_Record) hisR ?_
  intro p e s m args below meth c s₁ Bd hml0 hP hK
  obtain ⟨rfl, hZ, hh⟩ := hP
  have hx := Bd.exec
  have hby := Bd.bytes
  have hml : c.maxLocals = 1 := hml0
  have hown : s.vm.findClass "java/lang/Record" = some m.cls := findClass_of_methodNamed Bd.named
  have hnm := (name_of_methodNamed Bd.named Bd.method).1
  have X0 : Stand p l e ({ frames := 1, cells := 0, slots := 0, locals := 12 } : Room) s m #[(.ref o0)] below meth c s₁ [] 0 0 := Stand.of_body Bd
  have e0 : s₁.heap = h0 := by rw [← hh, Bd.state]; rfl
  have N0 := Fr.nil n0
  have pre0 : ∀ t, Steps p.tables e below (s₁.setTop (mkF m 0 #[.val (.ref o0)] [])) t → Steps p.tables e below (s₁.setTop (entryFrame m #[(.ref o0)] 1)) t := fun t k => castTop (ef_2 m o0) k
  obtain ⟨T1, X1, e1, st1⟩ := initO X0 hx hZ hown (hw _ (List.mem_of_getElem? (i := 11) rfl)) (hw _ (List.mem_of_getElem? (i := 12) rfl)) (hw _ (List.mem_of_getElem? (i := 13) rfl)) e0 (g := (mkF m 1 #[.val (.ref o0)] [(.ref o0)])) rfl (by rw [hml]; rfl) rfl (hb hby d2_1) (by decide) (W := 0) (by show 2 * 0 + _ ≤ _; exact Nat.le_of_eq rfl) (by decide)
  obtain ⟨fs, hr, hrun, hended, hW, hsame⟩ := X1.leave (v := none) (fun _ => rfl)
  refine ⟨_, _, pre0 _ ?_, hrun, hended, _, _, rfl, ?_, ⟨_, rfl⟩, hW, hsame.mono (by decide) (by decide)⟩
  · skip
    show Steps p.tables e below (s₁.setTop (mkF m 0 #[.val (.ref o0)] [])) _
    refine XS.aloadN X0.here hx rfl (hb hby d2_0) rfl rfl ?_
    show Steps p.tables e below (s₁.setTop (mkF m 1 #[.val (.ref o0)] [(.ref o0)])) _
    refine st1 _ ?_
    show Steps p.tables e below (T1.setTop (mkF m 4 #[.val (.ref o0)] [])) _
    exact X1.returnOut hx Bd.returns (hb hby d2_4) hr
  · skip
    show Q2 Z o0 h0 n0 _ T1.heap _
    rw [e1]
    exact ⟨N0, rfl, rfl⟩
theorem pd___V : parseMethodDescriptor "()V" = some ⟨[], none⟩ := by decide +kernel
theorem d1_0 : decode prog_65_method_1_code 0 = .ok (.aload_n 0, 1) := by decide +kernel
theorem d1_1 : decode prog_65_method_1_code 1 = .ok (.invokespecial 1, 3) := by decide +kernel
theorem d1_4 : decode prog_65_method_1_code 4 = .ok (.aload_n 0, 1) := by decide +kernel
theorem d1_5 : decode prog_65_method_1_code 5 = .ok (.iload_n 1, 1) := by decide +kernel
theorem d1_6 : decode prog_65_method_1_code 6 = .ok (.putfield 7, 3) := by decide +kernel
theorem d1_9 : decode prog_65_method_1_code 9 = .ok (.aload_n 0, 1) := by decide +kernel
theorem d1_10 : decode prog_65_method_1_code 10 = .ok (.lload_n 2, 1) := by decide +kernel
theorem d1_11 : decode prog_65_method_1_code 11 = .ok (.putfield 13, 3) := by decide +kernel
theorem d1_14 : decode prog_65_method_1_code 14 = .ok (.return_, 1) := by decide +kernel
theorem pn_com_example_ashlar_ashlar_pack_EntryHeader : plainName "com/example/ashlar/ashlar/pack/EntryHeader" = true := by first | (simp [plainName, overriddenIn]; done) | decide +kernel
theorem ef_1 (m : MethodId) (o0 : Addr) (p1 : Int32) (q2 : Int64) : entryFrame m #[(.ref o0), (.int p1), (.long q2)] 4 = mkF m 0 #[.val (.ref o0), .val (.int p1), .val (.long q2), .second] [] := by first | (simp [entryFrame, mkF, argsToLocals, Value.category]; done) | rfl
def Q1 (Z : State) (o0 : Addr) (p1 : Int32) (q2 : Int64) (u0_code : Value) (u1_size : Value) (h0 : Heap) (n0 : Nat) (v : Option Value) (h : Heap) (L : List Loc) : Prop := Fr n0 L ∧ v = none ∧ Keep h0 h [o0] ∧ Exa Z h o0 "com/example/ashlar/ashlar/pack/EntryHeader" ∧ Fld Z h o0 "com/example/ashlar/ashlar/pack/EntryHeader" "code" "I" (.int p1) ∧ Fld Z h o0 "com/example/ashlar/ashlar/pack/EntryHeader" "size" "J" (.long q2)
set_option maxRecDepth 65536 in
set_option maxHeartbeats 40000000 in
theorem rm1 (l : Launch) (Z : State) (a0 : Array Value) (hw : ∀ d ∈ tables_1, d.before a0 Z = true) (ws : List Jvm.Cond) (o0 : Addr) (p1 : Int32) (q2 : Int64) (u0_code : Value) (u1_size : Value) (h0 : Heap) (n0 : Nat) (Z0 : n0 ≤ h0.size) (E_o0 : Exa Z h0 o0 "com/example/ashlar/ashlar/pack/EntryHeader") (F_code_o0 : Fld Z h0 o0 "com/example/ashlar/ashlar/pack/EntryHeader" "code" "I" u0_code) (g_o0 : n0 ≤ o0) (F_size_o0 : Fld Z h0 o0 "com/example/ashlar/ashlar/pack/EntryHeader" "size" "J" u1_size) :
    MetFree l (⟨"com/example/ashlar/ashlar/pack/EntryHeader", "<init>", "(IJ)V"⟩ : MethodName) (head1 (Jvm.Cond.code (⟨"com/example/ashlar/ashlar/pack/EntryHeader", "<init>", "(IJ)V"⟩ : MethodName) prog_65_method_1_code 4 none :: ws) ({ frames := 2, cells := 0, slots := 0, locals := 24 } : Room)) (fun a U => a = #[(.ref o0), (.int p1), (.long q2)] ∧ Z.Warmed39 U.vm ∧ U.heap = h0) (fun _ _ _ _ _ => True) (fun _ U o U' => ∃ v L, o = .returned v ∧ Q1 Z o0 p1 q2 u0_code u1_size h0 n0 v U'.heap L ∧ FrameEnd U o U' L ({ frames := 2, cells := 0, slots := 0, locals := 24 } : Room).cells ({ frames := 2, cells := 0, slots := 0, locals := 24 } : Room).slots) := by
  refine MetFree.of_bodySF (plainFor_of_name pn_com_example_ashlar_ashlar_pack_EntryHeader) hisR ?_
  intro p e s m args below meth c s₁ Bd hml0 hP hK
  obtain ⟨rfl, hZ, hh⟩ := hP
  have hx := Bd.exec
  have hby := Bd.bytes
  have hml : c.maxLocals = 4 := hml0
  have hown : s.vm.findClass "com/example/ashlar/ashlar/pack/EntryHeader" = some m.cls := findClass_of_methodNamed Bd.named
  have hnm := (name_of_methodNamed Bd.named Bd.method).1
  have X0 : Stand p l e ({ frames := 2, cells := 0, slots := 0, locals := 24 } : Room) s m #[(.ref o0), (.int p1), (.long q2)] below meth c s₁ [] 0 0 := Stand.of_body Bd
  have e0 : s₁.heap = h0 := by rw [← hh, Bd.state]; rfl
  have N0 := Fr.nil n0
  have pre0 : ∀ t, Steps p.tables e below (s₁.setTop (mkF m 0 #[.val (.ref o0), .val (.int p1), .val (.long q2), .second] [])) t → Steps p.tables e below (s₁.setTop (entryFrame m #[(.ref o0), (.int p1), (.long q2)] 4)) t := fun t k => castTop (ef_1 m o0 p1 q2) k
  obtain ⟨_, _, ⟨T1, L1, k1, n1⟩, -, X1, ⟨Lc1, hQ1, l1, y1, z1⟩, st1⟩ := X0.specialBack hx (y := (⟨"java/lang/Record", "<init>", "()V"⟩ : MethodName)) rfl hown (mvT hZ (hw _ (List.mem_of_getElem? (i := 6) rfl))) (mvT hZ (hw _ (List.mem_of_getElem? (i := 7) rfl))) (mvT hZ (hw _ (List.mem_of_getElem? (i := 10) rfl))) (by decide) (backOf (W := 0) (rm2 l Z a0 hw [] o0 h0 n0 Z0) hZ (hw _ (List.mem_of_getElem? (i := 10) rfl)) (hw _ (List.mem_of_getElem? (i := 9) rfl)) (by decide) (by decide)) (g := (mkF m 1 #[.val (.ref o0), .val (.int p1), .val (.long q2), .second] [(.ref o0)])) rfl (by rw [hml]; rfl) (Steps.refl _) (a := o0) (argsL := []) (rest := []) (lenOf pd___V rfl) rfl (by show 2 * 0 + _ ≤ _; exact Nat.le_of_eq rfl) (hb hby d1_1) (fun _ _ => ⟨rfl, e0, (by decide : 0 + 0 ≤ _), (by decide : 0 + 0 ≤ _)⟩)
  dsimp only [Pt.U, Pt.locs, Pt.cells, Pt.slots] at X1 l1 y1 z1 st1 hQ1
  subst l1 y1 z1
  obtain ⟨N1q, rfl, e1⟩ := hQ1
  have N1 := Fr.app N0 N1q
  obtain ⟨T2, h2, X2, e2, W2, st2⟩ := putF X1 hx hZ hown (host := "") (Or.inl (hw _ (List.mem_of_getElem? (i := 14) rfl))) Via.refl e1 F_code_o0 E_o0 (Or.inr ⟨(hw _ (List.mem_of_getElem? (i := 15) rfl)), rfl, hnm⟩) (hw _ (List.mem_of_getElem? (i := 1) rfl)) (ty := .int) (by decide) rfl rfl (g := (mkF m 6 #[.val (.ref o0), .val (.int p1), .val (.long q2), .second] [(.int p1), (.ref o0)])) rfl rfl (hb hby d1_6)
  have Fw2 := F_code_o0.same W2
  have N2 := Fr.snoc X2 N1 g_o0
  have z3 : n0 ≤ h2.size := Nat.le_trans Z0 (Keep.of_wr W2).1
  have hs4 : h0.size ≤ h2.size := Nat.le_trans (Nat.le_refl h0.size) (Keep.of_wr W2).1
  have k5 := (F_size_o0.other W2 (Or.inr (slot_ne (Or.inr (hw _ (List.mem_of_getElem? (i := 17) rfl))) (Or.inr (hw _ (List.mem_of_getElem? (i := 15) rfl))) (by decide) (t := .long) (t' := .int) (by decide) (by decide))))
  have k6 := (E_o0.wr W2)
  obtain ⟨T7, h7, X7, e7, W7, st7⟩ := putF X2 hx hZ hown (host := "") (Or.inl (hw _ (List.mem_of_getElem? (i := 16) rfl))) Via.refl e2 k5 k6 (Or.inr ⟨(hw _ (List.mem_of_getElem? (i := 17) rfl)), rfl, hnm⟩) (hw _ (List.mem_of_getElem? (i := 1) rfl)) (ty := .long) (by decide) rfl rfl (g := (mkF m 11 #[.val (.ref o0), .val (.int p1), .val (.long q2), .second] [(.long q2), (.ref o0)])) rfl rfl (hb hby d1_11)
  have Fw7 := k5.same W7
  have N7 := Fr.snoc X7 N2 g_o0
  have z8 : n0 ≤ h7.size := Nat.le_trans z3 (Keep.of_wr W7).1
  have hs9 : h0.size ≤ h7.size := Nat.le_trans hs4 (Keep.of_wr W7).1
  obtain ⟨fs, hr, hrun, hended, hW, hsame⟩ := X7.leave (v := none) (fun _ => rfl)
  refine ⟨_, _, pre0 _ ?_, hrun, hended, _, _, rfl, ?_, ⟨_, rfl⟩, hW, hsame.mono (by decide) (by decide)⟩
  · skip
    show Steps p.tables e below (s₁.setTop (mkF m 0 #[.val (.ref o0), .val (.int p1), .val (.long q2), .second] [])) _
    refine XS.aloadN X0.here hx rfl (hb hby d1_0) rfl rfl ?_
    show Steps p.tables e below (s₁.setTop (mkF m 1 #[.val (.ref o0), .val (.int p1), .val (.long q2), .second] [(.ref o0)])) _
    refine st1.trans ?_
    show Steps p.tables e below (T1.setTop (mkF m 4 #[.val (.ref o0), .val (.int p1), .val (.long q2), .second] [])) _
    refine XS.aloadN X1.here hx rfl (hb hby d1_4) rfl rfl ?_
    show Steps p.tables e below (T1.setTop (mkF m 5 #[.val (.ref o0), .val (.int p1), .val (.long q2), .second] [(.ref o0)])) _
    refine XS.iloadN X1.here hx rfl (hb hby d1_5) rfl ?_
    show Steps p.tables e below (T1.setTop (mkF m 6 #[.val (.ref o0), .val (.int p1), .val (.long q2), .second] [(.int p1), (.ref o0)])) _
    refine st2 _ ?_
    show Steps p.tables e below (T2.setTop (mkF m 9 #[.val (.ref o0), .val (.int p1), .val (.long q2), .second] [])) _
    refine XS.aloadN X2.here hx rfl (hb hby d1_9) rfl rfl ?_
    show Steps p.tables e below (T2.setTop (mkF m 10 #[.val (.ref o0), .val (.int p1), .val (.long q2), .second] [(.ref o0)])) _
    refine XT.lloadN X2.here hx rfl (hb hby d1_10) rfl ?_
    show Steps p.tables e below (T2.setTop (mkF m 11 #[.val (.ref o0), .val (.int p1), .val (.long q2), .second] [(.long q2), (.ref o0)])) _
    refine st7 _ ?_
    show Steps p.tables e below (T7.setTop (mkF m 14 #[.val (.ref o0), .val (.int p1), .val (.long q2), .second] [])) _
    exact X7.returnOut hx Bd.returns (hb hby d1_14) hr
  · skip
    show Q1 Z o0 p1 q2 u0_code u1_size h0 n0 _ T7.heap _
    rw [e7]
    have k10 := (k6.wr W7)
    have k11 := (Fw2.other W7 (Or.inr (slot_ne (Or.inr (hw _ (List.mem_of_getElem? (i := 15) rfl))) (Or.inr (hw _ (List.mem_of_getElem? (i := 17) rfl))) (by decide) (t := .int) (t' := .long) (by decide) (by decide))))
    exact ⟨N7, rfl, (((Keep.refl h0 [o0]).wr W2 (Or.inl (List.mem_of_getElem? (i := 0) rfl))).wr W7 (Or.inl (List.mem_of_getElem? (i := 0) rfl))), k10, k11, Fw7⟩
theorem d4_0 : decode prog_65_method_3_code 0 = .ok (.aload_n 0, 1) := by decide +kernel
theorem d4_1 : decode prog_65_method_3_code 1 = .ok (.getfield 7, 3) := by decide +kernel
theorem d4_4 : decode prog_65_method_3_code 4 = .ok (.getstatic 17, 3) := by decide +kernel
theorem d4_7 : decode prog_65_method_3_code 7 = .ok (.arraylength, 1) := by decide +kernel
theorem d4_8 : decode prog_65_method_3_code 8 = .ok (.if_icmp .ge 14, 3) := by decide +kernel
theorem d4_11 : decode prog_65_method_3_code 11 = .ok (.getstatic 17, 3) := by decide +kernel
theorem d4_14 : decode prog_65_method_3_code 14 = .ok (.aload_n 0, 1) := by decide +kernel
theorem d4_15 : decode prog_65_method_3_code 15 = .ok (.getfield 7, 3) := by decide +kernel
theorem d4_18 : decode prog_65_method_3_code 18 = .ok (.aaload, 1) := by decide +kernel
theorem d4_19 : decode prog_65_method_3_code 19 = .ok (.goto 4, 3) := by decide +kernel
theorem d4_23 : decode prog_65_method_3_code 23 = .ok (.areturn, 1) := by decide +kernel
theorem ef_ot0 (m : MethodId) (o0 : Addr) : entryFrame m #[(.ref o0)] 1 = mkF m 0 #[.val (.ref o0)] [] := by first | (simp [entryFrame, mkF, argsToLocals, Value.category]; done) | rfl
def Qot0 (Z : State) (o0 : Addr) (w0_code : Int32) (w9_TYPES : Addr) (w1_COMMIT : Addr) (w2_TREE : Addr) (w3_BLOB : Addr) (w4_TAG : Addr) (kA : ClassId) (h0 : Heap) (n0 : Nat) (v : Option Value) (h : Heap) (L : List Loc) : Prop := Fr n0 L ∧ v = some .null ∧ h = h0
set_option maxRecDepth 65536 in
set_option maxHeartbeats 40000000 in
theorem rmot0 (l : Launch) (Z : State) (a0 : Array Value) (hw : ∀ d ∈ tables_1, d.before a0 Z = true) (ws : List Jvm.Cond) (o0 : Addr) (w0_code : Int32) (w9_TYPES : Addr) (w1_COMMIT : Addr) (w2_TREE : Addr) (w3_BLOB : Addr) (w4_TAG : Addr) (kA : ClassId) (h0 : Heap) (n0 : Nat) (Z0 : n0 ≤ h0.size) (F_code_o0 : Fld Z h0 o0 "com/example/ashlar/ashlar/pack/EntryHeader" "code" "I" (.int w0_code)) (S_TYPES : Sta Z h0 "com/example/ashlar/ashlar/pack/EntryHeader" "TYPES" "[Lcom/example/ashlar/ashlar/ObjectType;" (.ref w9_TYPES)) (V_w9_TYPES : Arv Z h0 w9_TYPES kA (.object "com/example/ashlar/ashlar/ObjectType") (5 : Int32) [.null, (.ref w1_COMMIT), (.ref w2_TREE), (.ref w3_BLOB), (.ref w4_TAG)] .null) (hk : w0_code = (0 : Int32)) :
    MetFree l (⟨"com/example/ashlar/ashlar/pack/EntryHeader", "objectType", "()Lcom/example/ashlar/ashlar/ObjectType;"⟩ : MethodName) (head1 (Jvm.Cond.code (⟨"com/example/ashlar/ashlar/pack/EntryHeader", "objectType", "()Lcom/example/ashlar/ashlar/ObjectType;"⟩ : MethodName) prog_65_method_3_code 1 (some (.object "com/example/ashlar/ashlar/ObjectType")) :: ws) ({ frames := 0, cells := 0, slots := 0, locals := 0 } : Room)) (fun a U => a = #[(.ref o0)] ∧ Z.Warmed39 U.vm ∧ U.heap = h0) (fun _ _ _ _ _ => True) (fun _ U o U' => ∃ v L, o = .returned v ∧ Qot0 Z o0 w0_code w9_TYPES w1_COMMIT w2_TREE w3_BLOB w4_TAG kA h0 n0 v U'.heap L ∧ FrameEnd U o U' L ({ frames := 0, cells := 0, slots := 0, locals := 0 } : Room).cells ({ frames := 0, cells := 0, slots := 0, locals := 0 } : Room).slots) := by
  refine MetFree.of_bodySF (plainFor_of_name pn_com_example_ashlar_ashlar_pack_EntryHeader) hisR ?_
  intro p e s m args below meth c s₁ Bd hml0 hP hK
  obtain ⟨rfl, hZ, hh⟩ := hP
  have hx := Bd.exec
  have hby := Bd.bytes
  have hml : c.maxLocals = 1 := hml0
  have hown : s.vm.findClass "com/example/ashlar/ashlar/pack/EntryHeader" = some m.cls := findClass_of_methodNamed Bd.named
  have hnm := (name_of_methodNamed Bd.named Bd.method).1
  have X0 : Stand p l e ({ frames := 0, cells := 0, slots := 0, locals := 0 } : Room) s m #[(.ref o0)] below meth c s₁ [] 0 0 := Stand.of_body Bd
  have e0 : s₁.heap = h0 := by rw [← hh, Bd.state]; rfl
  have N0 := Fr.nil n0
  have pre0 : ∀ t, Steps p.tables e below (s₁.setTop (mkF m 0 #[.val (.ref o0)] [])) t → Steps p.tables e below (s₁.setTop (entryFrame m #[(.ref o0)] 1)) t := fun t k => castTop (ef_ot0 m o0) k
  obtain ⟨T1, X1, e1, st1⟩ := getF X0 hx hZ hown (host := "") (Or.inl (hw _ (List.mem_of_getElem? (i := 14) rfl))) Via.refl e0 F_code_o0 (g := (mkF m 1 #[.val (.ref o0)] [(.ref o0)])) rfl rfl (hb hby d4_1)
  obtain ⟨T2, X2, e2, st2⟩ := getS2 X1 hx hZ hown (host := "") (Or.inl (hw _ (List.mem_of_getElem? (i := 23) rfl))) Via.refl e1 S_TYPES (g := (mkF m 4 #[.val (.ref o0)] [(.int w0_code)])) rfl (hb hby d4_4)
  obtain ⟨cl3, Ar3, qc3, S3, M3, Ha3, G3⟩ := id V_w9_TYPES
  obtain ⟨T4, X4, e4, st4⟩ := getS2 X2 hx hZ hown (host := "") (Or.inl (hw _ (List.mem_of_getElem? (i := 23) rfl))) Via.refl e2 S_TYPES (g := (mkF m 11 #[.val (.ref o0)] [])) rfl (hb hby d4_11)
  obtain ⟨T5, X5, e5, st5⟩ := getF X4 hx hZ hown (host := "") (Or.inl (hw _ (List.mem_of_getElem? (i := 14) rfl))) Via.refl e4 F_code_o0 (g := (mkF m 15 #[.val (.ref o0)] [(.ref o0), (.ref w9_TYPES)])) rfl rfl (hb hby d4_15)
  have hin6 : ¬ (w0_code < 0 ∨ cl3.slots.size ≤ (w0_code).toNatClampNeg) := inb_of S3 ⟨(by rw [hk]; decide), (by rw [hk]; decide)⟩
  obtain ⟨fs, hr, hrun, hended, hW, hsame⟩ := X5.leave (v := some .null) (fun h => by rw [Bd.returns] at h; cases h)
  refine ⟨_, _, pre0 _ ?_, hrun, hended, _, _, rfl, ?_, ⟨_, rfl⟩, hW, hsame.mono (by decide) (by decide)⟩
  · skip
    show Steps p.tables e below (s₁.setTop (mkF m 0 #[.val (.ref o0)] [])) _
    refine XS.aloadN X0.here hx rfl (hb hby d4_0) rfl rfl ?_
    show Steps p.tables e below (s₁.setTop (mkF m 1 #[.val (.ref o0)] [(.ref o0)])) _
    refine st1 _ ?_
    show Steps p.tables e below (T1.setTop (mkF m 4 #[.val (.ref o0)] [(.int w0_code)])) _
    refine st2 _ ?_
    show Steps p.tables e below (T2.setTop (mkF m 7 #[.val (.ref o0)] [(.ref w9_TYPES), (.int w0_code)])) _
    refine X2.arraylength hx (by rw [e2]; exact Ar3.1) (State.isArrayOf_alike hZ.alike Ar3.2.1) (g := (mkF m 7 #[.val (.ref o0)] [(.ref w9_TYPES), (.int w0_code)])) rfl rfl (hb hby d4_7) _ ?_
    rw [len_of S3 M3]
    show Steps p.tables e below (T2.setTop (mkF m 8 #[.val (.ref o0)] [(.int (5 : Int32)), (.int w0_code)])) _
    refine XS.icmpNo X2.here hx rfl (hb hby d4_8) rfl (XT.ii_ge_f (by rw [hk]; decide)) ?_
    show Steps p.tables e below (T2.setTop (mkF m 11 #[.val (.ref o0)] [])) _
    refine st4 _ ?_
    show Steps p.tables e below (T4.setTop (mkF m 14 #[.val (.ref o0)] [(.ref w9_TYPES)])) _
    refine XS.aloadN X4.here hx rfl (hb hby d4_14) rfl rfl ?_
    show Steps p.tables e below (T4.setTop (mkF m 15 #[.val (.ref o0)] [(.ref o0), (.ref w9_TYPES)])) _
    refine st5 _ ?_
    show Steps p.tables e below (T5.setTop (mkF m 18 #[.val (.ref o0)] [(.int w0_code), (.ref w9_TYPES)])) _
    refine X5.aaload hx (j := w0_code) (v := .null) (by rw [e5]; exact Ar3.1) (State.isArrayOf_alike hZ.alike Ar3.2.1) rfl Ar3.2.2 hin6 (Has.at Ha3 hin6 (by rw [hk]; rfl)) (g := (mkF m 18 #[.val (.ref o0)] [(.int w0_code), (.ref w9_TYPES)])) rfl rfl (hb hby d4_18) _ ?_
    show Steps p.tables e below (T5.setTop (mkF m 19 #[.val (.ref o0)] [.null])) _
    refine XS.goto X5.here hx rfl (pc0 := 19) (pc' := 23) rfl (hb hby d4_19) (by decide) (by decide) ?_
    show Steps p.tables e below (T5.setTop (mkF m 23 #[.val (.ref o0)] [.null])) _
    exact X5.areturnOut hx rfl Bd.returns rfl (hb hby d4_23) hr
  · skip
    show Qot0 Z o0 w0_code w9_TYPES w1_COMMIT w2_TREE w3_BLOB w4_TAG kA h0 n0 _ T5.heap _
    rw [e5]
    exact ⟨N0, rfl, rfl⟩
theorem ef_ot1 (m : MethodId) (o0 : Addr) : entryFrame m #[(.ref o0)] 1 = mkF m 0 #[.val (.ref o0)] [] := by first | (simp [entryFrame, mkF, argsToLocals, Value.category]; done) | rfl
def Qot1 (Z : State) (o0 : Addr) (w0_code : Int32) (w9_TYPES : Addr) (w1_COMMIT : Addr) (w2_TREE : Addr) (w3_BLOB : Addr) (w4_TAG : Addr) (kA : ClassId) (h0 : Heap) (n0 : Nat) (v : Option Value) (h : Heap) (L : List Loc) : Prop := Fr n0 L ∧ v = some (.ref w1_COMMIT) ∧ h = h0
set_option maxRecDepth 65536 in
set_option maxHeartbeats 40000000 in
theorem rmot1 (l : Launch) (Z : State) (a0 : Array Value) (hw : ∀ d ∈ tables_1, d.before a0 Z = true) (ws : List Jvm.Cond) (o0 : Addr) (w0_code : Int32) (w9_TYPES : Addr) (w1_COMMIT : Addr) (w2_TREE : Addr) (w3_BLOB : Addr) (w4_TAG : Addr) (kA : ClassId) (h0 : Heap) (n0 : Nat) (Z0 : n0 ≤ h0.size) (F_code_o0 : Fld Z h0 o0 "com/example/ashlar/ashlar/pack/EntryHeader" "code" "I" (.int w0_code)) (S_TYPES : Sta Z h0 "com/example/ashlar/ashlar/pack/EntryHeader" "TYPES" "[Lcom/example/ashlar/ashlar/ObjectType;" (.ref w9_TYPES)) (V_w9_TYPES : Arv Z h0 w9_TYPES kA (.object "com/example/ashlar/ashlar/ObjectType") (5 : Int32) [.null, (.ref w1_COMMIT), (.ref w2_TREE), (.ref w3_BLOB), (.ref w4_TAG)] .null) (hk : w0_code = (1 : Int32)) :
    MetFree l (⟨"com/example/ashlar/ashlar/pack/EntryHeader", "objectType", "()Lcom/example/ashlar/ashlar/ObjectType;"⟩ : MethodName) (head1 (Jvm.Cond.code (⟨"com/example/ashlar/ashlar/pack/EntryHeader", "objectType", "()Lcom/example/ashlar/ashlar/ObjectType;"⟩ : MethodName) prog_65_method_3_code 1 (some (.object "com/example/ashlar/ashlar/ObjectType")) :: ws) ({ frames := 0, cells := 0, slots := 0, locals := 0 } : Room)) (fun a U => a = #[(.ref o0)] ∧ Z.Warmed39 U.vm ∧ U.heap = h0) (fun _ _ _ _ _ => True) (fun _ U o U' => ∃ v L, o = .returned v ∧ Qot1 Z o0 w0_code w9_TYPES w1_COMMIT w2_TREE w3_BLOB w4_TAG kA h0 n0 v U'.heap L ∧ FrameEnd U o U' L ({ frames := 0, cells := 0, slots := 0, locals := 0 } : Room).cells ({ frames := 0, cells := 0, slots := 0, locals := 0 } : Room).slots) := by
  refine MetFree.of_bodySF (plainFor_of_name pn_com_example_ashlar_ashlar_pack_EntryHeader) hisR ?_
  intro p e s m args below meth c s₁ Bd hml0 hP hK
  obtain ⟨rfl, hZ, hh⟩ := hP
  have hx := Bd.exec
  have hby := Bd.bytes
  have hml : c.maxLocals = 1 := hml0
  have hown : s.vm.findClass "com/example/ashlar/ashlar/pack/EntryHeader" = some m.cls := findClass_of_methodNamed Bd.named
  have hnm := (name_of_methodNamed Bd.named Bd.method).1
  have X0 : Stand p l e ({ frames := 0, cells := 0, slots := 0, locals := 0 } : Room) s m #[(.ref o0)] below meth c s₁ [] 0 0 := Stand.of_body Bd
  have e0 : s₁.heap = h0 := by rw [← hh, Bd.state]; rfl
  have N0 := Fr.nil n0
  have pre0 : ∀ t, Steps p.tables e below (s₁.setTop (mkF m 0 #[.val (.ref o0)] [])) t → Steps p.tables e below (s₁.setTop (entryFrame m #[(.ref o0)] 1)) t := fun t k => castTop (ef_ot1 m o0) k
  obtain ⟨T1, X1, e1, st1⟩ := getF X0 hx hZ hown (host := "") (Or.inl (hw _ (List.mem_of_getElem? (i := 14) rfl))) Via.refl e0 F_code_o0 (g := (mkF m 1 #[.val (.ref o0)] [(.ref o0)])) rfl rfl (hb hby d4_1)
  obtain ⟨T2, X2, e2, st2⟩ := getS2 X1 hx hZ hown (host := "") (Or.inl (hw _ (List.mem_of_getElem? (i := 23) rfl))) Via.refl e1 S_TYPES (g := (mkF m 4 #[.val (.ref o0)] [(.int w0_code)])) rfl (hb hby d4_4)
  obtain ⟨cl3, Ar3, qc3, S3, M3, Ha3, G3⟩ := id V_w9_TYPES
  obtain ⟨T4, X4, e4, st4⟩ := getS2 X2 hx hZ hown (host := "") (Or.inl (hw _ (List.mem_of_getElem? (i := 23) rfl))) Via.refl e2 S_TYPES (g := (mkF m 11 #[.val (.ref o0)] [])) rfl (hb hby d4_11)
  obtain ⟨T5, X5, e5, st5⟩ := getF X4 hx hZ hown (host := "") (Or.inl (hw _ (List.mem_of_getElem? (i := 14) rfl))) Via.refl e4 F_code_o0 (g := (mkF m 15 #[.val (.ref o0)] [(.ref o0), (.ref w9_TYPES)])) rfl rfl (hb hby d4_15)
  have hin6 : ¬ (w0_code < 0 ∨ cl3.slots.size ≤ (w0_code).toNatClampNeg) := inb_of S3 ⟨(by rw [hk]; decide), (by rw [hk]; decide)⟩
  obtain ⟨fs, hr, hrun, hended, hW, hsame⟩ := X5.leave (v := some (.ref w1_COMMIT)) (fun h => by rw [Bd.returns] at h; cases h)
  refine ⟨_, _, pre0 _ ?_, hrun, hended, _, _, rfl, ?_, ⟨_, rfl⟩, hW, hsame.mono (by decide) (by decide)⟩
  · skip
    show Steps p.tables e below (s₁.setTop (mkF m 0 #[.val (.ref o0)] [])) _
    refine XS.aloadN X0.here hx rfl (hb hby d4_0) rfl rfl ?_
    show Steps p.tables e below (s₁.setTop (mkF m 1 #[.val (.ref o0)] [(.ref o0)])) _
    refine st1 _ ?_
    show Steps p.tables e below (T1.setTop (mkF m 4 #[.val (.ref o0)] [(.int w0_code)])) _
    refine st2 _ ?_
    show Steps p.tables e below (T2.setTop (mkF m 7 #[.val (.ref o0)] [(.ref w9_TYPES), (.int w0_code)])) _
    refine X2.arraylength hx (by rw [e2]; exact Ar3.1) (State.isArrayOf_alike hZ.alike Ar3.2.1) (g := (mkF m 7 #[.val (.ref o0)] [(.ref w9_TYPES), (.int w0_code)])) rfl rfl (hb hby d4_7) _ ?_
    rw [len_of S3 M3]
    show Steps p.tables e below (T2.setTop (mkF m 8 #[.val (.ref o0)] [(.int (5 : Int32)), (.int w0_code)])) _
    refine XS.icmpNo X2.here hx rfl (hb hby d4_8) rfl (XT.ii_ge_f (by rw [hk]; decide)) ?_
    show Steps p.tables e below (T2.setTop (mkF m 11 #[.val (.ref o0)] [])) _
    refine st4 _ ?_
    show Steps p.tables e below (T4.setTop (mkF m 14 #[.val (.ref o0)] [(.ref w9_TYPES)])) _
    refine XS.aloadN X4.here hx rfl (hb hby d4_14) rfl rfl ?_
    show Steps p.tables e below (T4.setTop (mkF m 15 #[.val (.ref o0)] [(.ref o0), (.ref w9_TYPES)])) _
    refine st5 _ ?_
    show Steps p.tables e below (T5.setTop (mkF m 18 #[.val (.ref o0)] [(.int w0_code), (.ref w9_TYPES)])) _
    refine X5.aaload hx (j := w0_code) (v := (.ref w1_COMMIT)) (by rw [e5]; exact Ar3.1) (State.isArrayOf_alike hZ.alike Ar3.2.1) rfl Ar3.2.2 hin6 (Has.at Ha3 hin6 (by rw [hk]; rfl)) (g := (mkF m 18 #[.val (.ref o0)] [(.int w0_code), (.ref w9_TYPES)])) rfl rfl (hb hby d4_18) _ ?_
    show Steps p.tables e below (T5.setTop (mkF m 19 #[.val (.ref o0)] [(.ref w1_COMMIT)])) _
    refine XS.goto X5.here hx rfl (pc0 := 19) (pc' := 23) rfl (hb hby d4_19) (by decide) (by decide) ?_
    show Steps p.tables e below (T5.setTop (mkF m 23 #[.val (.ref o0)] [(.ref w1_COMMIT)])) _
    exact X5.areturnOut hx rfl Bd.returns rfl (hb hby d4_23) hr
  · skip
    show Qot1 Z o0 w0_code w9_TYPES w1_COMMIT w2_TREE w3_BLOB w4_TAG kA h0 n0 _ T5.heap _
    rw [e5]
    exact ⟨N0, rfl, rfl⟩
theorem ef_ot2 (m : MethodId) (o0 : Addr) : entryFrame m #[(.ref o0)] 1 = mkF m 0 #[.val (.ref o0)] [] := by first | (simp [entryFrame, mkF, argsToLocals, Value.category]; done) | rfl
def Qot2 (Z : State) (o0 : Addr) (w0_code : Int32) (w9_TYPES : Addr) (w1_COMMIT : Addr) (w2_TREE : Addr) (w3_BLOB : Addr) (w4_TAG : Addr) (kA : ClassId) (h0 : Heap) (n0 : Nat) (v : Option Value) (h : Heap) (L : List Loc) : Prop := Fr n0 L ∧ v = some (.ref w2_TREE) ∧ h = h0
set_option maxRecDepth 65536 in
set_option maxHeartbeats 40000000 in
theorem rmot2 (l : Launch) (Z : State) (a0 : Array Value) (hw : ∀ d ∈ tables_1, d.before a0 Z = true) (ws : List Jvm.Cond) (o0 : Addr) (w0_code : Int32) (w9_TYPES : Addr) (w1_COMMIT : Addr) (w2_TREE : Addr) (w3_BLOB : Addr) (w4_TAG : Addr) (kA : ClassId) (h0 : Heap) (n0 : Nat) (Z0 : n0 ≤ h0.size) (F_code_o0 : Fld Z h0 o0 "com/example/ashlar/ashlar/pack/EntryHeader" "code" "I" (.int w0_code)) (S_TYPES : Sta Z h0 "com/example/ashlar/ashlar/pack/EntryHeader" "TYPES" "[Lcom/example/ashlar/ashlar/ObjectType;" (.ref w9_TYPES)) (V_w9_TYPES : Arv Z h0 w9_TYPES kA (.object "com/example/ashlar/ashlar/ObjectType") (5 : Int32) [.null, (.ref w1_COMMIT), (.ref w2_TREE), (.ref w3_BLOB), (.ref w4_TAG)] .null) (hk : w0_code = (2 : Int32)) :
    MetFree l (⟨"com/example/ashlar/ashlar/pack/EntryHeader", "objectType", "()Lcom/example/ashlar/ashlar/ObjectType;"⟩ : MethodName) (head1 (Jvm.Cond.code (⟨"com/example/ashlar/ashlar/pack/EntryHeader", "objectType", "()Lcom/example/ashlar/ashlar/ObjectType;"⟩ : MethodName) prog_65_method_3_code 1 (some (.object "com/example/ashlar/ashlar/ObjectType")) :: ws) ({ frames := 0, cells := 0, slots := 0, locals := 0 } : Room)) (fun a U => a = #[(.ref o0)] ∧ Z.Warmed39 U.vm ∧ U.heap = h0) (fun _ _ _ _ _ => True) (fun _ U o U' => ∃ v L, o = .returned v ∧ Qot2 Z o0 w0_code w9_TYPES w1_COMMIT w2_TREE w3_BLOB w4_TAG kA h0 n0 v U'.heap L ∧ FrameEnd U o U' L ({ frames := 0, cells := 0, slots := 0, locals := 0 } : Room).cells ({ frames := 0, cells := 0, slots := 0, locals := 0 } : Room).slots) := by
  refine MetFree.of_bodySF (plainFor_of_name pn_com_example_ashlar_ashlar_pack_EntryHeader) hisR ?_
  intro p e s m args below meth c s₁ Bd hml0 hP hK
  obtain ⟨rfl, hZ, hh⟩ := hP
  have hx := Bd.exec
  have hby := Bd.bytes
  have hml : c.maxLocals = 1 := hml0
  have hown : s.vm.findClass "com/example/ashlar/ashlar/pack/EntryHeader" = some m.cls := findClass_of_methodNamed Bd.named
  have hnm := (name_of_methodNamed Bd.named Bd.method).1
  have X0 : Stand p l e ({ frames := 0, cells := 0, slots := 0, locals := 0 } : Room) s m #[(.ref o0)] below meth c s₁ [] 0 0 := Stand.of_body Bd
  have e0 : s₁.heap = h0 := by rw [← hh, Bd.state]; rfl
  have N0 := Fr.nil n0
  have pre0 : ∀ t, Steps p.tables e below (s₁.setTop (mkF m 0 #[.val (.ref o0)] [])) t → Steps p.tables e below (s₁.setTop (entryFrame m #[(.ref o0)] 1)) t := fun t k => castTop (ef_ot2 m o0) k
  obtain ⟨T1, X1, e1, st1⟩ := getF X0 hx hZ hown (host := "") (Or.inl (hw _ (List.mem_of_getElem? (i := 14) rfl))) Via.refl e0 F_code_o0 (g := (mkF m 1 #[.val (.ref o0)] [(.ref o0)])) rfl rfl (hb hby d4_1)
  obtain ⟨T2, X2, e2, st2⟩ := getS2 X1 hx hZ hown (host := "") (Or.inl (hw _ (List.mem_of_getElem? (i := 23) rfl))) Via.refl e1 S_TYPES (g := (mkF m 4 #[.val (.ref o0)] [(.int w0_code)])) rfl (hb hby d4_4)
  obtain ⟨cl3, Ar3, qc3, S3, M3, Ha3, G3⟩ := id V_w9_TYPES
  obtain ⟨T4, X4, e4, st4⟩ := getS2 X2 hx hZ hown (host := "") (Or.inl (hw _ (List.mem_of_getElem? (i := 23) rfl))) Via.refl e2 S_TYPES (g := (mkF m 11 #[.val (.ref o0)] [])) rfl (hb hby d4_11)
  obtain ⟨T5, X5, e5, st5⟩ := getF X4 hx hZ hown (host := "") (Or.inl (hw _ (List.mem_of_getElem? (i := 14) rfl))) Via.refl e4 F_code_o0 (g := (mkF m 15 #[.val (.ref o0)] [(.ref o0), (.ref w9_TYPES)])) rfl rfl (hb hby d4_15)
  have hin6 : ¬ (w0_code < 0 ∨ cl3.slots.size ≤ (w0_code).toNatClampNeg) := inb_of S3 ⟨(by rw [hk]; decide), (by rw [hk]; decide)⟩
  obtain ⟨fs, hr, hrun, hended, hW, hsame⟩ := X5.leave (v := some (.ref w2_TREE)) (fun h => by rw [Bd.returns] at h; cases h)
  refine ⟨_, _, pre0 _ ?_, hrun, hended, _, _, rfl, ?_, ⟨_, rfl⟩, hW, hsame.mono (by decide) (by decide)⟩
  · skip
    show Steps p.tables e below (s₁.setTop (mkF m 0 #[.val (.ref o0)] [])) _
    refine XS.aloadN X0.here hx rfl (hb hby d4_0) rfl rfl ?_
    show Steps p.tables e below (s₁.setTop (mkF m 1 #[.val (.ref o0)] [(.ref o0)])) _
    refine st1 _ ?_
    show Steps p.tables e below (T1.setTop (mkF m 4 #[.val (.ref o0)] [(.int w0_code)])) _
    refine st2 _ ?_
    show Steps p.tables e below (T2.setTop (mkF m 7 #[.val (.ref o0)] [(.ref w9_TYPES), (.int w0_code)])) _
    refine X2.arraylength hx (by rw [e2]; exact Ar3.1) (State.isArrayOf_alike hZ.alike Ar3.2.1) (g := (mkF m 7 #[.val (.ref o0)] [(.ref w9_TYPES), (.int w0_code)])) rfl rfl (hb hby d4_7) _ ?_
    rw [len_of S3 M3]
    show Steps p.tables e below (T2.setTop (mkF m 8 #[.val (.ref o0)] [(.int (5 : Int32)), (.int w0_code)])) _
    refine XS.icmpNo X2.here hx rfl (hb hby d4_8) rfl (XT.ii_ge_f (by rw [hk]; decide)) ?_
    show Steps p.tables e below (T2.setTop (mkF m 11 #[.val (.ref o0)] [])) _
    refine st4 _ ?_
    show Steps p.tables e below (T4.setTop (mkF m 14 #[.val (.ref o0)] [(.ref w9_TYPES)])) _
    refine XS.aloadN X4.here hx rfl (hb hby d4_14) rfl rfl ?_
    show Steps p.tables e below (T4.setTop (mkF m 15 #[.val (.ref o0)] [(.ref o0), (.ref w9_TYPES)])) _
    refine st5 _ ?_
    show Steps p.tables e below (T5.setTop (mkF m 18 #[.val (.ref o0)] [(.int w0_code), (.ref w9_TYPES)])) _
    refine X5.aaload hx (j := w0_code) (v := (.ref w2_TREE)) (by rw [e5]; exact Ar3.1) (State.isArrayOf_alike hZ.alike Ar3.2.1) rfl Ar3.2.2 hin6 (Has.at Ha3 hin6 (by rw [hk]; rfl)) (g := (mkF m 18 #[.val (.ref o0)] [(.int w0_code), (.ref w9_TYPES)])) rfl rfl (hb hby d4_18) _ ?_
    show Steps p.tables e below (T5.setTop (mkF m 19 #[.val (.ref o0)] [(.ref w2_TREE)])) _
    refine XS.goto X5.here hx rfl (pc0 := 19) (pc' := 23) rfl (hb hby d4_19) (by decide) (by decide) ?_
    show Steps p.tables e below (T5.setTop (mkF m 23 #[.val (.ref o0)] [(.ref w2_TREE)])) _
    exact X5.areturnOut hx rfl Bd.returns rfl (hb hby d4_23) hr
  · skip
    show Qot2 Z o0 w0_code w9_TYPES w1_COMMIT w2_TREE w3_BLOB w4_TAG kA h0 n0 _ T5.heap _
    rw [e5]
    exact ⟨N0, rfl, rfl⟩
theorem ef_ot3 (m : MethodId) (o0 : Addr) : entryFrame m #[(.ref o0)] 1 = mkF m 0 #[.val (.ref o0)] [] := by first | (simp [entryFrame, mkF, argsToLocals, Value.category]; done) | rfl
def Qot3 (Z : State) (o0 : Addr) (w0_code : Int32) (w9_TYPES : Addr) (w1_COMMIT : Addr) (w2_TREE : Addr) (w3_BLOB : Addr) (w4_TAG : Addr) (kA : ClassId) (h0 : Heap) (n0 : Nat) (v : Option Value) (h : Heap) (L : List Loc) : Prop := Fr n0 L ∧ v = some (.ref w3_BLOB) ∧ h = h0
set_option maxRecDepth 65536 in
set_option maxHeartbeats 40000000 in
theorem rmot3 (l : Launch) (Z : State) (a0 : Array Value) (hw : ∀ d ∈ tables_1, d.before a0 Z = true) (ws : List Jvm.Cond) (o0 : Addr) (w0_code : Int32) (w9_TYPES : Addr) (w1_COMMIT : Addr) (w2_TREE : Addr) (w3_BLOB : Addr) (w4_TAG : Addr) (kA : ClassId) (h0 : Heap) (n0 : Nat) (Z0 : n0 ≤ h0.size) (F_code_o0 : Fld Z h0 o0 "com/example/ashlar/ashlar/pack/EntryHeader" "code" "I" (.int w0_code)) (S_TYPES : Sta Z h0 "com/example/ashlar/ashlar/pack/EntryHeader" "TYPES" "[Lcom/example/ashlar/ashlar/ObjectType;" (.ref w9_TYPES)) (V_w9_TYPES : Arv Z h0 w9_TYPES kA (.object "com/example/ashlar/ashlar/ObjectType") (5 : Int32) [.null, (.ref w1_COMMIT), (.ref w2_TREE), (.ref w3_BLOB), (.ref w4_TAG)] .null) (hk : w0_code = (3 : Int32)) :
    MetFree l (⟨"com/example/ashlar/ashlar/pack/EntryHeader", "objectType", "()Lcom/example/ashlar/ashlar/ObjectType;"⟩ : MethodName) (head1 (Jvm.Cond.code (⟨"com/example/ashlar/ashlar/pack/EntryHeader", "objectType", "()Lcom/example/ashlar/ashlar/ObjectType;"⟩ : MethodName) prog_65_method_3_code 1 (some (.object "com/example/ashlar/ashlar/ObjectType")) :: ws) ({ frames := 0, cells := 0, slots := 0, locals := 0 } : Room)) (fun a U => a = #[(.ref o0)] ∧ Z.Warmed39 U.vm ∧ U.heap = h0) (fun _ _ _ _ _ => True) (fun _ U o U' => ∃ v L, o = .returned v ∧ Qot3 Z o0 w0_code w9_TYPES w1_COMMIT w2_TREE w3_BLOB w4_TAG kA h0 n0 v U'.heap L ∧ FrameEnd U o U' L ({ frames := 0, cells := 0, slots := 0, locals := 0 } : Room).cells ({ frames := 0, cells := 0, slots := 0, locals := 0 } : Room).slots) := by
  refine MetFree.of_bodySF (plainFor_of_name pn_com_example_ashlar_ashlar_pack_EntryHeader) hisR ?_
  intro p e s m args below meth c s₁ Bd hml0 hP hK
  obtain ⟨rfl, hZ, hh⟩ := hP
  have hx := Bd.exec
  have hby := Bd.bytes
  have hml : c.maxLocals = 1 := hml0
  have hown : s.vm.findClass "com/example/ashlar/ashlar/pack/EntryHeader" = some m.cls := findClass_of_methodNamed Bd.named
  have hnm := (name_of_methodNamed Bd.named Bd.method).1
  have X0 : Stand p l e ({ frames := 0, cells := 0, slots := 0, locals := 0 } : Room) s m #[(.ref o0)] below meth c s₁ [] 0 0 := Stand.of_body Bd
  have e0 : s₁.heap = h0 := by rw [← hh, Bd.state]; rfl
  have N0 := Fr.nil n0
  have pre0 : ∀ t, Steps p.tables e below (s₁.setTop (mkF m 0 #[.val (.ref o0)] [])) t → Steps p.tables e below (s₁.setTop (entryFrame m #[(.ref o0)] 1)) t := fun t k => castTop (ef_ot3 m o0) k
  obtain ⟨T1, X1, e1, st1⟩ := getF X0 hx hZ hown (host := "") (Or.inl (hw _ (List.mem_of_getElem? (i := 14) rfl))) Via.refl e0 F_code_o0 (g := (mkF m 1 #[.val (.ref o0)] [(.ref o0)])) rfl rfl (hb hby d4_1)
  obtain ⟨T2, X2, e2, st2⟩ := getS2 X1 hx hZ hown (host := "") (Or.inl (hw _ (List.mem_of_getElem? (i := 23) rfl))) Via.refl e1 S_TYPES (g := (mkF m 4 #[.val (.ref o0)] [(.int w0_code)])) rfl (hb hby d4_4)
  obtain ⟨cl3, Ar3, qc3, S3, M3, Ha3, G3⟩ := id V_w9_TYPES
  obtain ⟨T4, X4, e4, st4⟩ := getS2 X2 hx hZ hown (host := "") (Or.inl (hw _ (List.mem_of_getElem? (i := 23) rfl))) Via.refl e2 S_TYPES (g := (mkF m 11 #[.val (.ref o0)] [])) rfl (hb hby d4_11)
  obtain ⟨T5, X5, e5, st5⟩ := getF X4 hx hZ hown (host := "") (Or.inl (hw _ (List.mem_of_getElem? (i := 14) rfl))) Via.refl e4 F_code_o0 (g := (mkF m 15 #[.val (.ref o0)] [(.ref o0), (.ref w9_TYPES)])) rfl rfl (hb hby d4_15)
  have hin6 : ¬ (w0_code < 0 ∨ cl3.slots.size ≤ (w0_code).toNatClampNeg) := inb_of S3 ⟨(by rw [hk]; decide), (by rw [hk]; decide)⟩
  obtain ⟨fs, hr, hrun, hended, hW, hsame⟩ := X5.leave (v := some (.ref w3_BLOB)) (fun h => by rw [Bd.returns] at h; cases h)
  refine ⟨_, _, pre0 _ ?_, hrun, hended, _, _, rfl, ?_, ⟨_, rfl⟩, hW, hsame.mono (by decide) (by decide)⟩
  · skip
    show Steps p.tables e below (s₁.setTop (mkF m 0 #[.val (.ref o0)] [])) _
    refine XS.aloadN X0.here hx rfl (hb hby d4_0) rfl rfl ?_
    show Steps p.tables e below (s₁.setTop (mkF m 1 #[.val (.ref o0)] [(.ref o0)])) _
    refine st1 _ ?_
    show Steps p.tables e below (T1.setTop (mkF m 4 #[.val (.ref o0)] [(.int w0_code)])) _
    refine st2 _ ?_
    show Steps p.tables e below (T2.setTop (mkF m 7 #[.val (.ref o0)] [(.ref w9_TYPES), (.int w0_code)])) _
    refine X2.arraylength hx (by rw [e2]; exact Ar3.1) (State.isArrayOf_alike hZ.alike Ar3.2.1) (g := (mkF m 7 #[.val (.ref o0)] [(.ref w9_TYPES), (.int w0_code)])) rfl rfl (hb hby d4_7) _ ?_
    rw [len_of S3 M3]
    show Steps p.tables e below (T2.setTop (mkF m 8 #[.val (.ref o0)] [(.int (5 : Int32)), (.int w0_code)])) _
    refine XS.icmpNo X2.here hx rfl (hb hby d4_8) rfl (XT.ii_ge_f (by rw [hk]; decide)) ?_
    show Steps p.tables e below (T2.setTop (mkF m 11 #[.val (.ref o0)] [])) _
    refine st4 _ ?_
    show Steps p.tables e below (T4.setTop (mkF m 14 #[.val (.ref o0)] [(.ref w9_TYPES)])) _
    refine XS.aloadN X4.here hx rfl (hb hby d4_14) rfl rfl ?_
    show Steps p.tables e below (T4.setTop (mkF m 15 #[.val (.ref o0)] [(.ref o0), (.ref w9_TYPES)])) _
    refine st5 _ ?_
    show Steps p.tables e below (T5.setTop (mkF m 18 #[.val (.ref o0)] [(.int w0_code), (.ref w9_TYPES)])) _
    refine X5.aaload hx (j := w0_code) (v := (.ref w3_BLOB)) (by rw [e5]; exact Ar3.1) (State.isArrayOf_alike hZ.alike Ar3.2.1) rfl Ar3.2.2 hin6 (Has.at Ha3 hin6 (by rw [hk]; rfl)) (g := (mkF m 18 #[.val (.ref o0)] [(.int w0_code), (.ref w9_TYPES)])) rfl rfl (hb hby d4_18) _ ?_
    show Steps p.tables e below (T5.setTop (mkF m 19 #[.val (.ref o0)] [(.ref w3_BLOB)])) _
    refine XS.goto X5.here hx rfl (pc0 := 19) (pc' := 23) rfl (hb hby d4_19) (by decide) (by decide) ?_
    show Steps p.tables e below (T5.setTop (mkF m 23 #[.val (.ref o0)] [(.ref w3_BLOB)])) _
    exact X5.areturnOut hx rfl Bd.returns rfl (hb hby d4_23) hr
  · skip
    show Qot3 Z o0 w0_code w9_TYPES w1_COMMIT w2_TREE w3_BLOB w4_TAG kA h0 n0 _ T5.heap _
    rw [e5]
    exact ⟨N0, rfl, rfl⟩
theorem ef_ot4 (m : MethodId) (o0 : Addr) : entryFrame m #[(.ref o0)] 1 = mkF m 0 #[.val (.ref o0)] [] := by first | (simp [entryFrame, mkF, argsToLocals, Value.category]; done) | rfl
def Qot4 (Z : State) (o0 : Addr) (w0_code : Int32) (w9_TYPES : Addr) (w1_COMMIT : Addr) (w2_TREE : Addr) (w3_BLOB : Addr) (w4_TAG : Addr) (kA : ClassId) (h0 : Heap) (n0 : Nat) (v : Option Value) (h : Heap) (L : List Loc) : Prop := Fr n0 L ∧ v = some (.ref w4_TAG) ∧ h = h0
set_option maxRecDepth 65536 in
set_option maxHeartbeats 40000000 in
theorem rmot4 (l : Launch) (Z : State) (a0 : Array Value) (hw : ∀ d ∈ tables_1, d.before a0 Z = true) (ws : List Jvm.Cond) (o0 : Addr) (w0_code : Int32) (w9_TYPES : Addr) (w1_COMMIT : Addr) (w2_TREE : Addr) (w3_BLOB : Addr) (w4_TAG : Addr) (kA : ClassId) (h0 : Heap) (n0 : Nat) (Z0 : n0 ≤ h0.size) (F_code_o0 : Fld Z h0 o0 "com/example/ashlar/ashlar/pack/EntryHeader" "code" "I" (.int w0_code)) (S_TYPES : Sta Z h0 "com/example/ashlar/ashlar/pack/EntryHeader" "TYPES" "[Lcom/example/ashlar/ashlar/ObjectType;" (.ref w9_TYPES)) (V_w9_TYPES : Arv Z h0 w9_TYPES kA (.object "com/example/ashlar/ashlar/ObjectType") (5 : Int32) [.null, (.ref w1_COMMIT), (.ref w2_TREE), (.ref w3_BLOB), (.ref w4_TAG)] .null) (hk : w0_code = (4 : Int32)) :
    MetFree l (⟨"com/example/ashlar/ashlar/pack/EntryHeader", "objectType", "()Lcom/example/ashlar/ashlar/ObjectType;"⟩ : MethodName) (head1 (Jvm.Cond.code (⟨"com/example/ashlar/ashlar/pack/EntryHeader", "objectType", "()Lcom/example/ashlar/ashlar/ObjectType;"⟩ : MethodName) prog_65_method_3_code 1 (some (.object "com/example/ashlar/ashlar/ObjectType")) :: ws) ({ frames := 0, cells := 0, slots := 0, locals := 0 } : Room)) (fun a U => a = #[(.ref o0)] ∧ Z.Warmed39 U.vm ∧ U.heap = h0) (fun _ _ _ _ _ => True) (fun _ U o U' => ∃ v L, o = .returned v ∧ Qot4 Z o0 w0_code w9_TYPES w1_COMMIT w2_TREE w3_BLOB w4_TAG kA h0 n0 v U'.heap L ∧ FrameEnd U o U' L ({ frames := 0, cells := 0, slots := 0, locals := 0 } : Room).cells ({ frames := 0, cells := 0, slots := 0, locals := 0 } : Room).slots) := by
  refine MetFree.of_bodySF (plainFor_of_name pn_com_example_ashlar_ashlar_pack_EntryHeader) hisR ?_
  intro p e s m args below meth c s₁ Bd hml0 hP hK
  obtain ⟨rfl, hZ, hh⟩ := hP
  have hx := Bd.exec
  have hby := Bd.bytes
  have hml : c.maxLocals = 1 := hml0
  have hown : s.vm.findClass "com/example/ashlar/ashlar/pack/EntryHeader" = some m.cls := findClass_of_methodNamed Bd.named
  have hnm := (name_of_methodNamed Bd.named Bd.method).1
  have X0 : Stand p l e ({ frames := 0, cells := 0, slots := 0, locals := 0 } : Room) s m #[(.ref o0)] below meth c s₁ [] 0 0 := Stand.of_body Bd
  have e0 : s₁.heap = h0 := by rw [← hh, Bd.state]; rfl
  have N0 := Fr.nil n0
  have pre0 : ∀ t, Steps p.tables e below (s₁.setTop (mkF m 0 #[.val (.ref o0)] [])) t → Steps p.tables e below (s₁.setTop (entryFrame m #[(.ref o0)] 1)) t := fun t k => castTop (ef_ot4 m o0) k
  obtain ⟨T1, X1, e1, st1⟩ := getF X0 hx hZ hown (host := "") (Or.inl (hw _ (List.mem_of_getElem? (i := 14) rfl))) Via.refl e0 F_code_o0 (g := (mkF m 1 #[.val (.ref o0)] [(.ref o0)])) rfl rfl (hb hby d4_1)
  obtain ⟨T2, X2, e2, st2⟩ := getS2 X1 hx hZ hown (host := "") (Or.inl (hw _ (List.mem_of_getElem? (i := 23) rfl))) Via.refl e1 S_TYPES (g := (mkF m 4 #[.val (.ref o0)] [(.int w0_code)])) rfl (hb hby d4_4)
  obtain ⟨cl3, Ar3, qc3, S3, M3, Ha3, G3⟩ := id V_w9_TYPES
  obtain ⟨T4, X4, e4, st4⟩ := getS2 X2 hx hZ hown (host := "") (Or.inl (hw _ (List.mem_of_getElem? (i := 23) rfl))) Via.refl e2 S_TYPES (g := (mkF m 11 #[.val (.ref o0)] [])) rfl (hb hby d4_11)
  obtain ⟨T5, X5, e5, st5⟩ := getF X4 hx hZ hown (host := "") (Or.inl (hw _ (List.mem_of_getElem? (i := 14) rfl))) Via.refl e4 F_code_o0 (g := (mkF m 15 #[.val (.ref o0)] [(.ref o0), (.ref w9_TYPES)])) rfl rfl (hb hby d4_15)
  have hin6 : ¬ (w0_code < 0 ∨ cl3.slots.size ≤ (w0_code).toNatClampNeg) := inb_of S3 ⟨(by rw [hk]; decide), (by rw [hk]; decide)⟩
  obtain ⟨fs, hr, hrun, hended, hW, hsame⟩ := X5.leave (v := some (.ref w4_TAG)) (fun h => by rw [Bd.returns] at h; cases h)
  refine ⟨_, _, pre0 _ ?_, hrun, hended, _, _, rfl, ?_, ⟨_, rfl⟩, hW, hsame.mono (by decide) (by decide)⟩
  · skip
    show Steps p.tables e below (s₁.setTop (mkF m 0 #[.val (.ref o0)] [])) _
    refine XS.aloadN X0.here hx rfl (hb hby d4_0) rfl rfl ?_
    show Steps p.tables e below (s₁.setTop (mkF m 1 #[.val (.ref o0)] [(.ref o0)])) _
    refine st1 _ ?_
    show Steps p.tables e below (T1.setTop (mkF m 4 #[.val (.ref o0)] [(.int w0_code)])) _
    refine st2 _ ?_
    show Steps p.tables e below (T2.setTop (mkF m 7 #[.val (.ref o0)] [(.ref w9_TYPES), (.int w0_code)])) _
    refine X2.arraylength hx (by rw [e2]; exact Ar3.1) (State.isArrayOf_alike hZ.alike Ar3.2.1) (g := (mkF m 7 #[.val (.ref o0)] [(.ref w9_TYPES), (.int w0_code)])) rfl rfl (hb hby d4_7) _ ?_
    rw [len_of S3 M3]
    show Steps p.tables e below (T2.setTop (mkF m 8 #[.val (.ref o0)] [(.int (5 : Int32)), (.int w0_code)])) _
    refine XS.icmpNo X2.here hx rfl (hb hby d4_8) rfl (XT.ii_ge_f (by rw [hk]; decide)) ?_
    show Steps p.tables e below (T2.setTop (mkF m 11 #[.val (.ref o0)] [])) _
    refine st4 _ ?_
    show Steps p.tables e below (T4.setTop (mkF m 14 #[.val (.ref o0)] [(.ref w9_TYPES)])) _
    refine XS.aloadN X4.here hx rfl (hb hby d4_14) rfl rfl ?_
    show Steps p.tables e below (T4.setTop (mkF m 15 #[.val (.ref o0)] [(.ref o0), (.ref w9_TYPES)])) _
    refine st5 _ ?_
    show Steps p.tables e below (T5.setTop (mkF m 18 #[.val (.ref o0)] [(.int w0_code), (.ref w9_TYPES)])) _
    refine X5.aaload hx (j := w0_code) (v := (.ref w4_TAG)) (by rw [e5]; exact Ar3.1) (State.isArrayOf_alike hZ.alike Ar3.2.1) rfl Ar3.2.2 hin6 (Has.at Ha3 hin6 (by rw [hk]; rfl)) (g := (mkF m 18 #[.val (.ref o0)] [(.int w0_code), (.ref w9_TYPES)])) rfl rfl (hb hby d4_18) _ ?_
    show Steps p.tables e below (T5.setTop (mkF m 19 #[.val (.ref o0)] [(.ref w4_TAG)])) _
    refine XS.goto X5.here hx rfl (pc0 := 19) (pc' := 23) rfl (hb hby d4_19) (by decide) (by decide) ?_
    show Steps p.tables e below (T5.setTop (mkF m 23 #[.val (.ref o0)] [(.ref w4_TAG)])) _
    exact X5.areturnOut hx rfl Bd.returns rfl (hb hby d4_23) hr
  · skip
    show Qot4 Z o0 w0_code w9_TYPES w1_COMMIT w2_TREE w3_BLOB w4_TAG kA h0 n0 _ T5.heap _
    rw [e5]
    exact ⟨N0, rfl, rfl⟩
theorem d4_22 : decode prog_65_method_3_code 22 = .ok (.aconst_null, 1) := by decide +kernel
theorem ef_ot5 (m : MethodId) (o0 : Addr) : entryFrame m #[(.ref o0)] 1 = mkF m 0 #[.val (.ref o0)] [] := by first | (simp [entryFrame, mkF, argsToLocals, Value.category]; done) | rfl
def Qot5 (Z : State) (o0 : Addr) (w0_code : Int32) (w9_TYPES : Addr) (w1_COMMIT : Addr) (w2_TREE : Addr) (w3_BLOB : Addr) (w4_TAG : Addr) (kA : ClassId) (h0 : Heap) (n0 : Nat) (v : Option Value) (h : Heap) (L : List Loc) : Prop := Fr n0 L ∧ v = some .null ∧ h = h0
set_option maxRecDepth 65536 in
set_option maxHeartbeats 40000000 in
theorem rmot5 (l : Launch) (Z : State) (a0 : Array Value) (hw : ∀ d ∈ tables_1, d.before a0 Z = true) (ws : List Jvm.Cond) (o0 : Addr) (w0_code : Int32) (w9_TYPES : Addr) (w1_COMMIT : Addr) (w2_TREE : Addr) (w3_BLOB : Addr) (w4_TAG : Addr) (kA : ClassId) (h0 : Heap) (n0 : Nat) (Z0 : n0 ≤ h0.size) (F_code_o0 : Fld Z h0 o0 "com/example/ashlar/ashlar/pack/EntryHeader" "code" "I" (.int w0_code)) (S_TYPES : Sta Z h0 "com/example/ashlar/ashlar/pack/EntryHeader" "TYPES" "[Lcom/example/ashlar/ashlar/ObjectType;" (.ref w9_TYPES)) (V_w9_TYPES : Arv Z h0 w9_TYPES kA (.object "com/example/ashlar/ashlar/ObjectType") (5 : Int32) [.null, (.ref w1_COMMIT), (.ref w2_TREE), (.ref w3_BLOB), (.ref w4_TAG)] .null) (hy0 : ¬ (w0_code < (5 : Int32))) :
    MetFree l (⟨"com/example/ashlar/ashlar/pack/EntryHeader", "objectType", "()Lcom/example/ashlar/ashlar/ObjectType;"⟩ : MethodName) (head1 (Jvm.Cond.code (⟨"com/example/ashlar/ashlar/pack/EntryHeader", "objectType", "()Lcom/example/ashlar/ashlar/ObjectType;"⟩ : MethodName) prog_65_method_3_code 1 (some (.object "com/example/ashlar/ashlar/ObjectType")) :: ws) ({ frames := 0, cells := 0, slots := 0, locals := 0 } : Room)) (fun a U => a = #[(.ref o0)] ∧ Z.Warmed39 U.vm ∧ U.heap = h0) (fun _ _ _ _ _ => True) (fun _ U o U' => ∃ v L, o = .returned v ∧ Qot5 Z o0 w0_code w9_TYPES w1_COMMIT w2_TREE w3_BLOB w4_TAG kA h0 n0 v U'.heap L ∧ FrameEnd U o U' L ({ frames := 0, cells := 0, slots := 0, locals := 0 } : Room).cells ({ frames := 0, cells := 0, slots := 0, locals := 0 } : Room).slots) := by
  refine MetFree.of_bodySF (plainFor_of_name pn_com_example_ashlar_ashlar_pack_EntryHeader) hisR ?_
  intro p e s m args below meth c s₁ Bd hml0 hP hK
  obtain ⟨rfl, hZ, hh⟩ := hP
  have hx := Bd.exec
  have hby := Bd.bytes
  have hml : c.maxLocals = 1 := hml0
  have hown : s.vm.findClass "com/example/ashlar/ashlar/pack/EntryHeader" = some m.cls := findClass_of_methodNamed Bd.named
  have hnm := (name_of_methodNamed Bd.named Bd.method).1
  have X0 : Stand p l e ({ frames := 0, cells := 0, slots := 0, locals := 0 } : Room) s m #[(.ref o0)] below meth c s₁ [] 0 0 := Stand.of_body Bd
  have e0 : s₁.heap = h0 := by rw [← hh, Bd.state]; rfl
  have N0 := Fr.nil n0
  have pre0 : ∀ t, Steps p.tables e below (s₁.setTop (mkF m 0 #[.val (.ref o0)] [])) t → Steps p.tables e below (s₁.setTop (entryFrame m #[(.ref o0)] 1)) t := fun t k => castTop (ef_ot5 m o0) k
  obtain ⟨T1, X1, e1, st1⟩ := getF X0 hx hZ hown (host := "") (Or.inl (hw _ (List.mem_of_getElem? (i := 14) rfl))) Via.refl e0 F_code_o0 (g := (mkF m 1 #[.val (.ref o0)] [(.ref o0)])) rfl rfl (hb hby d4_1)
  obtain ⟨T2, X2, e2, st2⟩ := getS2 X1 hx hZ hown (host := "") (Or.inl (hw _ (List.mem_of_getElem? (i := 23) rfl))) Via.refl e1 S_TYPES (g := (mkF m 4 #[.val (.ref o0)] [(.int w0_code)])) rfl (hb hby d4_4)
  obtain ⟨cl3, Ar3, qc3, S3, M3, Ha3, G3⟩ := id V_w9_TYPES
  obtain ⟨fs, hr, hrun, hended, hW, hsame⟩ := X2.leave (v := some .null) (fun h => by rw [Bd.returns] at h; cases h)
  refine ⟨_, _, pre0 _ ?_, hrun, hended, _, _, rfl, ?_, ⟨_, rfl⟩, hW, hsame.mono (by decide) (by decide)⟩
  · skip
    show Steps p.tables e below (s₁.setTop (mkF m 0 #[.val (.ref o0)] [])) _
    refine XS.aloadN X0.here hx rfl (hb hby d4_0) rfl rfl ?_
    show Steps p.tables e below (s₁.setTop (mkF m 1 #[.val (.ref o0)] [(.ref o0)])) _
    refine st1 _ ?_
    show Steps p.tables e below (T1.setTop (mkF m 4 #[.val (.ref o0)] [(.int w0_code)])) _
    refine st2 _ ?_
    show Steps p.tables e below (T2.setTop (mkF m 7 #[.val (.ref o0)] [(.ref w9_TYPES), (.int w0_code)])) _
    refine X2.arraylength hx (by rw [e2]; exact Ar3.1) (State.isArrayOf_alike hZ.alike Ar3.2.1) (g := (mkF m 7 #[.val (.ref o0)] [(.ref w9_TYPES), (.int w0_code)])) rfl rfl (hb hby d4_7) _ ?_
    rw [len_of S3 M3]
    show Steps p.tables e below (T2.setTop (mkF m 8 #[.val (.ref o0)] [(.int (5 : Int32)), (.int w0_code)])) _
    refine XS.icmpYes X2.here hx rfl (pc0 := 8) (pc' := 22) rfl (hb hby d4_8) rfl (XT.ii_ge_t hy0) (by decide) (by decide) ?_
    show Steps p.tables e below (T2.setTop (mkF m 22 #[.val (.ref o0)] [])) _
    refine XS.aconstNull X2.here hx rfl (hb hby d4_22) ?_
    show Steps p.tables e below (T2.setTop (mkF m 23 #[.val (.ref o0)] [.null])) _
    exact X2.areturnOut hx rfl Bd.returns rfl (hb hby d4_23) hr
  · skip
    show Qot5 Z o0 w0_code w9_TYPES w1_COMMIT w2_TREE w3_BLOB w4_TAG kA h0 n0 _ T2.heap _
    rw [e2]
    exact ⟨N0, rfl, rfl⟩
theorem d5_0 : decode method_3_code 0 = .ok (.iload_n 0, 1) := by decide +kernel
theorem d5_1 : decode method_3_code 1 = .ok (.iconst 1, 1) := by decide +kernel
theorem d5_2 : decode method_3_code 2 = .ok (.if_icmp .ne 7, 3) := by decide +kernel
theorem d5_5 : decode method_3_code 5 = .ok (.getstatic 23, 3) := by decide +kernel
theorem d5_8 : decode method_3_code 8 = .ok (.areturn, 1) := by decide +kernel
theorem pn_com_example_ashlar_ashlar_pack_EntryHeaderObjectTypePinLaw : plainName "com/example/ashlar/ashlar/pack/EntryHeaderObjectTypePinLaw" = true := by first | (simp [plainName, overriddenIn]; done) | decide +kernel
theorem ef_ex1 (m : MethodId) (p0 : Int32) : entryFrame m #[(.int p0)] 1 = mkF m 0 #[.val (.int p0)] [] := by first | (simp [entryFrame, mkF, argsToLocals, Value.category]; done) | rfl
def Qex1 (Z : State) (p0 : Int32) (w0_COMMIT : Addr) (h0 : Heap) (n0 : Nat) (v : Option Value) (h : Heap) (L : List Loc) : Prop := Fr n0 L ∧ v = some (.ref w0_COMMIT) ∧ h = h0
set_option maxRecDepth 65536 in
set_option maxHeartbeats 40000000 in
theorem rmex1 (l : Launch) (Z : State) (a0 : Array Value) (hw : ∀ d ∈ tables_1, d.before a0 Z = true) (ws : List Jvm.Cond) (p0 : Int32) (w0_COMMIT : Addr) (h0 : Heap) (n0 : Nat) (Z0 : n0 ≤ h0.size) (hy0 : p0 = (1 : Int32)) (S_COMMIT : Sta Z h0 "com/example/ashlar/ashlar/ObjectType" "COMMIT" "Lcom/example/ashlar/ashlar/ObjectType;" (.ref w0_COMMIT)) :
    MetFree l (⟨"com/example/ashlar/ashlar/pack/EntryHeaderObjectTypePinLaw", "expected", "(I)Lcom/example/ashlar/ashlar/ObjectType;"⟩ : MethodName) (head1 (Jvm.Cond.code (⟨"com/example/ashlar/ashlar/pack/EntryHeaderObjectTypePinLaw", "expected", "(I)Lcom/example/ashlar/ashlar/ObjectType;"⟩ : MethodName) method_3_code 1 (some (.object "com/example/ashlar/ashlar/ObjectType")) :: ws) ({ frames := 0, cells := 0, slots := 0, locals := 0 } : Room)) (fun a U => a = #[(.int p0)] ∧ Z.Warmed39 U.vm ∧ U.heap = h0) (fun _ _ _ _ _ => True) (fun _ U o U' => ∃ v L, o = .returned v ∧ Qex1 Z p0 w0_COMMIT h0 n0 v U'.heap L ∧ FrameEnd U o U' L ({ frames := 0, cells := 0, slots := 0, locals := 0 } : Room).cells ({ frames := 0, cells := 0, slots := 0, locals := 0 } : Room).slots) := by
  refine MetFree.of_bodySF (plainFor_of_name pn_com_example_ashlar_ashlar_pack_EntryHeaderObjectTypePinLaw) hisR ?_
  intro p e s m args below meth c s₁ Bd hml0 hP hK
  obtain ⟨rfl, hZ, hh⟩ := hP
  have hx := Bd.exec
  have hby := Bd.bytes
  have hml : c.maxLocals = 1 := hml0
  have hown : s.vm.findClass "com/example/ashlar/ashlar/pack/EntryHeaderObjectTypePinLaw" = some m.cls := findClass_of_methodNamed Bd.named
  have hnm := (name_of_methodNamed Bd.named Bd.method).1
  have X0 : Stand p l e ({ frames := 0, cells := 0, slots := 0, locals := 0 } : Room) s m #[(.int p0)] below meth c s₁ [] 0 0 := Stand.of_body Bd
  have e0 : s₁.heap = h0 := by rw [← hh, Bd.state]; rfl
  have N0 := Fr.nil n0
  have pre0 : ∀ t, Steps p.tables e below (s₁.setTop (mkF m 0 #[.val (.int p0)] [])) t → Steps p.tables e below (s₁.setTop (entryFrame m #[(.int p0)] 1)) t := fun t k => castTop (ef_ex1 m p0) k
  obtain ⟨T1, X1, e1, st1⟩ := getS2 X0 hx hZ hown (host := "") (Or.inl (hw _ (List.mem_of_getElem? (i := 32) rfl))) Via.refl e0 S_COMMIT (g := (mkF m 5 #[.val (.int p0)] [])) rfl (hb hby d5_5)
  obtain ⟨fs, hr, hrun, hended, hW, hsame⟩ := X1.leave (v := some (.ref w0_COMMIT)) (fun h => by rw [Bd.returns] at h; cases h)
  refine ⟨_, _, pre0 _ ?_, hrun, hended, _, _, rfl, ?_, ⟨_, rfl⟩, hW, hsame.mono (by decide) (by decide)⟩
  · skip
    show Steps p.tables e below (s₁.setTop (mkF m 0 #[.val (.int p0)] [])) _
    refine XS.iloadN X0.here hx rfl (hb hby d5_0) rfl ?_
    show Steps p.tables e below (s₁.setTop (mkF m 1 #[.val (.int p0)] [(.int p0)])) _
    refine XT.iconstV X0.here hx rfl (1 : Int32) (hb hby d5_1) (by decide) ?_
    show Steps p.tables e below (s₁.setTop (mkF m 2 #[.val (.int p0)] [(.int (1 : Int32)), (.int p0)])) _
    refine XS.icmpNo X0.here hx rfl (hb hby d5_2) rfl (XT.ii_ne_f hy0) ?_
    show Steps p.tables e below (s₁.setTop (mkF m 5 #[.val (.int p0)] [])) _
    refine st1 _ ?_
    show Steps p.tables e below (T1.setTop (mkF m 8 #[.val (.int p0)] [(.ref w0_COMMIT)])) _
    exact X1.areturnOut hx rfl Bd.returns rfl (hb hby d5_8) hr
  · skip
    show Qex1 Z p0 w0_COMMIT h0 n0 _ T1.heap _
    rw [e1]
    exact ⟨N0, rfl, rfl⟩
theorem d5_9 : decode method_3_code 9 = .ok (.iload_n 0, 1) := by decide +kernel
theorem d5_10 : decode method_3_code 10 = .ok (.iconst 2, 1) := by decide +kernel
theorem d5_11 : decode method_3_code 11 = .ok (.if_icmp .ne 7, 3) := by decide +kernel
theorem d5_14 : decode method_3_code 14 = .ok (.getstatic 29, 3) := by decide +kernel
theorem d5_17 : decode method_3_code 17 = .ok (.areturn, 1) := by decide +kernel
theorem ef_ex2 (m : MethodId) (p0 : Int32) : entryFrame m #[(.int p0)] 1 = mkF m 0 #[.val (.int p0)] [] := by first | (simp [entryFrame, mkF, argsToLocals, Value.category]; done) | rfl
def Qex2 (Z : State) (p0 : Int32) (w0_TREE : Addr) (h0 : Heap) (n0 : Nat) (v : Option Value) (h : Heap) (L : List Loc) : Prop := Fr n0 L ∧ v = some (.ref w0_TREE) ∧ h = h0
set_option maxRecDepth 65536 in
set_option maxHeartbeats 40000000 in
theorem rmex2 (l : Launch) (Z : State) (a0 : Array Value) (hw : ∀ d ∈ tables_1, d.before a0 Z = true) (ws : List Jvm.Cond) (p0 : Int32) (w0_TREE : Addr) (h0 : Heap) (n0 : Nat) (Z0 : n0 ≤ h0.size) (hy0 : ¬ (p0 = (1 : Int32))) (hy1 : p0 = (2 : Int32)) (S_TREE : Sta Z h0 "com/example/ashlar/ashlar/ObjectType" "TREE" "Lcom/example/ashlar/ashlar/ObjectType;" (.ref w0_TREE)) :
    MetFree l (⟨"com/example/ashlar/ashlar/pack/EntryHeaderObjectTypePinLaw", "expected", "(I)Lcom/example/ashlar/ashlar/ObjectType;"⟩ : MethodName) (head1 (Jvm.Cond.code (⟨"com/example/ashlar/ashlar/pack/EntryHeaderObjectTypePinLaw", "expected", "(I)Lcom/example/ashlar/ashlar/ObjectType;"⟩ : MethodName) method_3_code 1 (some (.object "com/example/ashlar/ashlar/ObjectType")) :: ws) ({ frames := 0, cells := 0, slots := 0, locals := 0 } : Room)) (fun a U => a = #[(.int p0)] ∧ Z.Warmed39 U.vm ∧ U.heap = h0) (fun _ _ _ _ _ => True) (fun _ U o U' => ∃ v L, o = .returned v ∧ Qex2 Z p0 w0_TREE h0 n0 v U'.heap L ∧ FrameEnd U o U' L ({ frames := 0, cells := 0, slots := 0, locals := 0 } : Room).cells ({ frames := 0, cells := 0, slots := 0, locals := 0 } : Room).slots) := by
  refine MetFree.of_bodySF (plainFor_of_name pn_com_example_ashlar_ashlar_pack_EntryHeaderObjectTypePinLaw) hisR ?_
  intro p e s m args below meth c s₁ Bd hml0 hP hK
  obtain ⟨rfl, hZ, hh⟩ := hP
  have hx := Bd.exec
  have hby := Bd.bytes
  have hml : c.maxLocals = 1 := hml0
  have hown : s.vm.findClass "com/example/ashlar/ashlar/pack/EntryHeaderObjectTypePinLaw" = some m.cls := findClass_of_methodNamed Bd.named
  have hnm := (name_of_methodNamed Bd.named Bd.method).1
  have X0 : Stand p l e ({ frames := 0, cells := 0, slots := 0, locals := 0 } : Room) s m #[(.int p0)] below meth c s₁ [] 0 0 := Stand.of_body Bd
  have e0 : s₁.heap = h0 := by rw [← hh, Bd.state]; rfl
  have N0 := Fr.nil n0
  have pre0 : ∀ t, Steps p.tables e below (s₁.setTop (mkF m 0 #[.val (.int p0)] [])) t → Steps p.tables e below (s₁.setTop (entryFrame m #[(.int p0)] 1)) t := fun t k => castTop (ef_ex2 m p0) k
  obtain ⟨T1, X1, e1, st1⟩ := getS2 X0 hx hZ hown (host := "") (Or.inl (hw _ (List.mem_of_getElem? (i := 36) rfl))) Via.refl e0 S_TREE (g := (mkF m 14 #[.val (.int p0)] [])) rfl (hb hby d5_14)
  obtain ⟨fs, hr, hrun, hended, hW, hsame⟩ := X1.leave (v := some (.ref w0_TREE)) (fun h => by rw [Bd.returns] at h; cases h)
  refine ⟨_, _, pre0 _ ?_, hrun, hended, _, _, rfl, ?_, ⟨_, rfl⟩, hW, hsame.mono (by decide) (by decide)⟩
  · skip
    show Steps p.tables e below (s₁.setTop (mkF m 0 #[.val (.int p0)] [])) _
    refine XS.iloadN X0.here hx rfl (hb hby d5_0) rfl ?_
    show Steps p.tables e below (s₁.setTop (mkF m 1 #[.val (.int p0)] [(.int p0)])) _
    refine XT.iconstV X0.here hx rfl (1 : Int32) (hb hby d5_1) (by decide) ?_
    show Steps p.tables e below (s₁.setTop (mkF m 2 #[.val (.int p0)] [(.int (1 : Int32)), (.int p0)])) _
    refine XS.icmpYes X0.here hx rfl (pc0 := 2) (pc' := 9) rfl (hb hby d5_2) rfl (XT.ii_ne_t hy0) (by decide) (by decide) ?_
    show Steps p.tables e below (s₁.setTop (mkF m 9 #[.val (.int p0)] [])) _
    refine XS.iloadN X0.here hx rfl (hb hby d5_9) rfl ?_
    show Steps p.tables e below (s₁.setTop (mkF m 10 #[.val (.int p0)] [(.int p0)])) _
    refine XT.iconstV X0.here hx rfl (2 : Int32) (hb hby d5_10) (by decide) ?_
    show Steps p.tables e below (s₁.setTop (mkF m 11 #[.val (.int p0)] [(.int (2 : Int32)), (.int p0)])) _
    refine XS.icmpNo X0.here hx rfl (hb hby d5_11) rfl (XT.ii_ne_f hy1) ?_
    show Steps p.tables e below (s₁.setTop (mkF m 14 #[.val (.int p0)] [])) _
    refine st1 _ ?_
    show Steps p.tables e below (T1.setTop (mkF m 17 #[.val (.int p0)] [(.ref w0_TREE)])) _
    exact X1.areturnOut hx rfl Bd.returns rfl (hb hby d5_17) hr
  · skip
    show Qex2 Z p0 w0_TREE h0 n0 _ T1.heap _
    rw [e1]
    exact ⟨N0, rfl, rfl⟩
theorem d5_18 : decode method_3_code 18 = .ok (.iload_n 0, 1) := by decide +kernel
theorem d5_19 : decode method_3_code 19 = .ok (.iconst 3, 1) := by decide +kernel
theorem d5_20 : decode method_3_code 20 = .ok (.if_icmp .ne 7, 3) := by decide +kernel
theorem d5_23 : decode method_3_code 23 = .ok (.getstatic 32, 3) := by decide +kernel
theorem d5_26 : decode method_3_code 26 = .ok (.areturn, 1) := by decide +kernel
theorem ef_ex3 (m : MethodId) (p0 : Int32) : entryFrame m #[(.int p0)] 1 = mkF m 0 #[.val (.int p0)] [] := by first | (simp [entryFrame, mkF, argsToLocals, Value.category]; done) | rfl
def Qex3 (Z : State) (p0 : Int32) (w0_BLOB : Addr) (h0 : Heap) (n0 : Nat) (v : Option Value) (h : Heap) (L : List Loc) : Prop := Fr n0 L ∧ v = some (.ref w0_BLOB) ∧ h = h0
set_option maxRecDepth 65536 in
set_option maxHeartbeats 40000000 in
theorem rmex3 (l : Launch) (Z : State) (a0 : Array Value) (hw : ∀ d ∈ tables_1, d.before a0 Z = true) (ws : List Jvm.Cond) (p0 : Int32) (w0_BLOB : Addr) (h0 : Heap) (n0 : Nat) (Z0 : n0 ≤ h0.size) (hy0 : ¬ (p0 = (1 : Int32))) (hy1 : ¬ (p0 = (2 : Int32))) (hy2 : p0 = (3 : Int32)) (S_BLOB : Sta Z h0 "com/example/ashlar/ashlar/ObjectType" "BLOB" "Lcom/example/ashlar/ashlar/ObjectType;" (.ref w0_BLOB)) :
    MetFree l (⟨"com/example/ashlar/ashlar/pack/EntryHeaderObjectTypePinLaw", "expected", "(I)Lcom/example/ashlar/ashlar/ObjectType;"⟩ : MethodName) (head1 (Jvm.Cond.code (⟨"com/example/ashlar/ashlar/pack/EntryHeaderObjectTypePinLaw", "expected", "(I)Lcom/example/ashlar/ashlar/ObjectType;"⟩ : MethodName) method_3_code 1 (some (.object "com/example/ashlar/ashlar/ObjectType")) :: ws) ({ frames := 0, cells := 0, slots := 0, locals := 0 } : Room)) (fun a U => a = #[(.int p0)] ∧ Z.Warmed39 U.vm ∧ U.heap = h0) (fun _ _ _ _ _ => True) (fun _ U o U' => ∃ v L, o = .returned v ∧ Qex3 Z p0 w0_BLOB h0 n0 v U'.heap L ∧ FrameEnd U o U' L ({ frames := 0, cells := 0, slots := 0, locals := 0 } : Room).cells ({ frames := 0, cells := 0, slots := 0, locals := 0 } : Room).slots) := by
  refine MetFree.of_bodySF (plainFor_of_name pn_com_example_ashlar_ashlar_pack_EntryHeaderObjectTypePinLaw) hisR ?_
  intro p e s m args below meth c s₁ Bd hml0 hP hK
  obtain ⟨rfl, hZ, hh⟩ := hP
  have hx := Bd.exec
  have hby := Bd.bytes
  have hml : c.maxLocals = 1 := hml0
  have hown : s.vm.findClass "com/example/ashlar/ashlar/pack/EntryHeaderObjectTypePinLaw" = some m.cls := findClass_of_methodNamed Bd.named
  have hnm := (name_of_methodNamed Bd.named Bd.method).1
  have X0 : Stand p l e ({ frames := 0, cells := 0, slots := 0, locals := 0 } : Room) s m #[(.int p0)] below meth c s₁ [] 0 0 := Stand.of_body Bd
  have e0 : s₁.heap = h0 := by rw [← hh, Bd.state]; rfl
  have N0 := Fr.nil n0
  have pre0 : ∀ t, Steps p.tables e below (s₁.setTop (mkF m 0 #[.val (.int p0)] [])) t → Steps p.tables e below (s₁.setTop (entryFrame m #[(.int p0)] 1)) t := fun t k => castTop (ef_ex3 m p0) k
  obtain ⟨T1, X1, e1, st1⟩ := getS2 X0 hx hZ hown (host := "") (Or.inl (hw _ (List.mem_of_getElem? (i := 34) rfl))) Via.refl e0 S_BLOB (g := (mkF m 23 #[.val (.int p0)] [])) rfl (hb hby d5_23)
  obtain ⟨fs, hr, hrun, hended, hW, hsame⟩ := X1.leave (v := some (.ref w0_BLOB)) (fun h => by rw [Bd.returns] at h; cases h)
  refine ⟨_, _, pre0 _ ?_, hrun, hended, _, _, rfl, ?_, ⟨_, rfl⟩, hW, hsame.mono (by decide) (by decide)⟩
  · skip
    show Steps p.tables e below (s₁.setTop (mkF m 0 #[.val (.int p0)] [])) _
    refine XS.iloadN X0.here hx rfl (hb hby d5_0) rfl ?_
    show Steps p.tables e below (s₁.setTop (mkF m 1 #[.val (.int p0)] [(.int p0)])) _
    refine XT.iconstV X0.here hx rfl (1 : Int32) (hb hby d5_1) (by decide) ?_
    show Steps p.tables e below (s₁.setTop (mkF m 2 #[.val (.int p0)] [(.int (1 : Int32)), (.int p0)])) _
    refine XS.icmpYes X0.here hx rfl (pc0 := 2) (pc' := 9) rfl (hb hby d5_2) rfl (XT.ii_ne_t hy0) (by decide) (by decide) ?_
    show Steps p.tables e below (s₁.setTop (mkF m 9 #[.val (.int p0)] [])) _
    refine XS.iloadN X0.here hx rfl (hb hby d5_9) rfl ?_
    show Steps p.tables e below (s₁.setTop (mkF m 10 #[.val (.int p0)] [(.int p0)])) _
    refine XT.iconstV X0.here hx rfl (2 : Int32) (hb hby d5_10) (by decide) ?_
    show Steps p.tables e below (s₁.setTop (mkF m 11 #[.val (.int p0)] [(.int (2 : Int32)), (.int p0)])) _
    refine XS.icmpYes X0.here hx rfl (pc0 := 11) (pc' := 18) rfl (hb hby d5_11) rfl (XT.ii_ne_t hy1) (by decide) (by decide) ?_
    show Steps p.tables e below (s₁.setTop (mkF m 18 #[.val (.int p0)] [])) _
    refine XS.iloadN X0.here hx rfl (hb hby d5_18) rfl ?_
    show Steps p.tables e below (s₁.setTop (mkF m 19 #[.val (.int p0)] [(.int p0)])) _
    refine XT.iconstV X0.here hx rfl (3 : Int32) (hb hby d5_19) (by decide) ?_
    show Steps p.tables e below (s₁.setTop (mkF m 20 #[.val (.int p0)] [(.int (3 : Int32)), (.int p0)])) _
    refine XS.icmpNo X0.here hx rfl (hb hby d5_20) rfl (XT.ii_ne_f hy2) ?_
    show Steps p.tables e below (s₁.setTop (mkF m 23 #[.val (.int p0)] [])) _
    refine st1 _ ?_
    show Steps p.tables e below (T1.setTop (mkF m 26 #[.val (.int p0)] [(.ref w0_BLOB)])) _
    exact X1.areturnOut hx rfl Bd.returns rfl (hb hby d5_26) hr
  · skip
    show Qex3 Z p0 w0_BLOB h0 n0 _ T1.heap _
    rw [e1]
    exact ⟨N0, rfl, rfl⟩
theorem d5_27 : decode method_3_code 27 = .ok (.iload_n 0, 1) := by decide +kernel
theorem d5_28 : decode method_3_code 28 = .ok (.iconst 4, 1) := by decide +kernel
theorem d5_29 : decode method_3_code 29 = .ok (.if_icmp .ne 7, 3) := by decide +kernel
theorem d5_32 : decode method_3_code 32 = .ok (.getstatic 35, 3) := by decide +kernel
theorem d5_35 : decode method_3_code 35 = .ok (.areturn, 1) := by decide +kernel
theorem ef_ex4 (m : MethodId) (p0 : Int32) : entryFrame m #[(.int p0)] 1 = mkF m 0 #[.val (.int p0)] [] := by first | (simp [entryFrame, mkF, argsToLocals, Value.category]; done) | rfl
def Qex4 (Z : State) (p0 : Int32) (w0_TAG : Addr) (h0 : Heap) (n0 : Nat) (v : Option Value) (h : Heap) (L : List Loc) : Prop := Fr n0 L ∧ v = some (.ref w0_TAG) ∧ h = h0
set_option maxRecDepth 65536 in
set_option maxHeartbeats 40000000 in
theorem rmex4 (l : Launch) (Z : State) (a0 : Array Value) (hw : ∀ d ∈ tables_1, d.before a0 Z = true) (ws : List Jvm.Cond) (p0 : Int32) (w0_TAG : Addr) (h0 : Heap) (n0 : Nat) (Z0 : n0 ≤ h0.size) (hy0 : ¬ (p0 = (1 : Int32))) (hy1 : ¬ (p0 = (2 : Int32))) (hy2 : ¬ (p0 = (3 : Int32))) (hy3 : p0 = (4 : Int32)) (S_TAG : Sta Z h0 "com/example/ashlar/ashlar/ObjectType" "TAG" "Lcom/example/ashlar/ashlar/ObjectType;" (.ref w0_TAG)) :
    MetFree l (⟨"com/example/ashlar/ashlar/pack/EntryHeaderObjectTypePinLaw", "expected", "(I)Lcom/example/ashlar/ashlar/ObjectType;"⟩ : MethodName) (head1 (Jvm.Cond.code (⟨"com/example/ashlar/ashlar/pack/EntryHeaderObjectTypePinLaw", "expected", "(I)Lcom/example/ashlar/ashlar/ObjectType;"⟩ : MethodName) method_3_code 1 (some (.object "com/example/ashlar/ashlar/ObjectType")) :: ws) ({ frames := 0, cells := 0, slots := 0, locals := 0 } : Room)) (fun a U => a = #[(.int p0)] ∧ Z.Warmed39 U.vm ∧ U.heap = h0) (fun _ _ _ _ _ => True) (fun _ U o U' => ∃ v L, o = .returned v ∧ Qex4 Z p0 w0_TAG h0 n0 v U'.heap L ∧ FrameEnd U o U' L ({ frames := 0, cells := 0, slots := 0, locals := 0 } : Room).cells ({ frames := 0, cells := 0, slots := 0, locals := 0 } : Room).slots) := by
  refine MetFree.of_bodySF (plainFor_of_name pn_com_example_ashlar_ashlar_pack_EntryHeaderObjectTypePinLaw) hisR ?_
  intro p e s m args below meth c s₁ Bd hml0 hP hK
  obtain ⟨rfl, hZ, hh⟩ := hP
  have hx := Bd.exec
  have hby := Bd.bytes
  have hml : c.maxLocals = 1 := hml0
  have hown : s.vm.findClass "com/example/ashlar/ashlar/pack/EntryHeaderObjectTypePinLaw" = some m.cls := findClass_of_methodNamed Bd.named
  have hnm := (name_of_methodNamed Bd.named Bd.method).1
  have X0 : Stand p l e ({ frames := 0, cells := 0, slots := 0, locals := 0 } : Room) s m #[(.int p0)] below meth c s₁ [] 0 0 := Stand.of_body Bd
  have e0 : s₁.heap = h0 := by rw [← hh, Bd.state]; rfl
  have N0 := Fr.nil n0
  have pre0 : ∀ t, Steps p.tables e below (s₁.setTop (mkF m 0 #[.val (.int p0)] [])) t → Steps p.tables e below (s₁.setTop (entryFrame m #[(.int p0)] 1)) t := fun t k => castTop (ef_ex4 m p0) k
  obtain ⟨T1, X1, e1, st1⟩ := getS2 X0 hx hZ hown (host := "") (Or.inl (hw _ (List.mem_of_getElem? (i := 38) rfl))) Via.refl e0 S_TAG (g := (mkF m 32 #[.val (.int p0)] [])) rfl (hb hby d5_32)
  obtain ⟨fs, hr, hrun, hended, hW, hsame⟩ := X1.leave (v := some (.ref w0_TAG)) (fun h => by rw [Bd.returns] at h; cases h)
  refine ⟨_, _, pre0 _ ?_, hrun, hended, _, _, rfl, ?_, ⟨_, rfl⟩, hW, hsame.mono (by decide) (by decide)⟩
  · skip
    show Steps p.tables e below (s₁.setTop (mkF m 0 #[.val (.int p0)] [])) _
    refine XS.iloadN X0.here hx rfl (hb hby d5_0) rfl ?_
    show Steps p.tables e below (s₁.setTop (mkF m 1 #[.val (.int p0)] [(.int p0)])) _
    refine XT.iconstV X0.here hx rfl (1 : Int32) (hb hby d5_1) (by decide) ?_
    show Steps p.tables e below (s₁.setTop (mkF m 2 #[.val (.int p0)] [(.int (1 : Int32)), (.int p0)])) _
    refine XS.icmpYes X0.here hx rfl (pc0 := 2) (pc' := 9) rfl (hb hby d5_2) rfl (XT.ii_ne_t hy0) (by decide) (by decide) ?_
    show Steps p.tables e below (s₁.setTop (mkF m 9 #[.val (.int p0)] [])) _
    refine XS.iloadN X0.here hx rfl (hb hby d5_9) rfl ?_
    show Steps p.tables e below (s₁.setTop (mkF m 10 #[.val (.int p0)] [(.int p0)])) _
    refine XT.iconstV X0.here hx rfl (2 : Int32) (hb hby d5_10) (by decide) ?_
    show Steps p.tables e below (s₁.setTop (mkF m 11 #[.val (.int p0)] [(.int (2 : Int32)), (.int p0)])) _
    refine XS.icmpYes X0.here hx rfl (pc0 := 11) (pc' := 18) rfl (hb hby d5_11) rfl (XT.ii_ne_t hy1) (by decide) (by decide) ?_
    show Steps p.tables e below (s₁.setTop (mkF m 18 #[.val (.int p0)] [])) _
    refine XS.iloadN X0.here hx rfl (hb hby d5_18) rfl ?_
    show Steps p.tables e below (s₁.setTop (mkF m 19 #[.val (.int p0)] [(.int p0)])) _
    refine XT.iconstV X0.here hx rfl (3 : Int32) (hb hby d5_19) (by decide) ?_
    show Steps p.tables e below (s₁.setTop (mkF m 20 #[.val (.int p0)] [(.int (3 : Int32)), (.int p0)])) _
    refine XS.icmpYes X0.here hx rfl (pc0 := 20) (pc' := 27) rfl (hb hby d5_20) rfl (XT.ii_ne_t hy2) (by decide) (by decide) ?_
    show Steps p.tables e below (s₁.setTop (mkF m 27 #[.val (.int p0)] [])) _
    refine XS.iloadN X0.here hx rfl (hb hby d5_27) rfl ?_
    show Steps p.tables e below (s₁.setTop (mkF m 28 #[.val (.int p0)] [(.int p0)])) _
    refine XT.iconstV X0.here hx rfl (4 : Int32) (hb hby d5_28) (by decide) ?_
    show Steps p.tables e below (s₁.setTop (mkF m 29 #[.val (.int p0)] [(.int (4 : Int32)), (.int p0)])) _
    refine XS.icmpNo X0.here hx rfl (hb hby d5_29) rfl (XT.ii_ne_f hy3) ?_
    show Steps p.tables e below (s₁.setTop (mkF m 32 #[.val (.int p0)] [])) _
    refine st1 _ ?_
    show Steps p.tables e below (T1.setTop (mkF m 35 #[.val (.int p0)] [(.ref w0_TAG)])) _
    exact X1.areturnOut hx rfl Bd.returns rfl (hb hby d5_35) hr
  · skip
    show Qex4 Z p0 w0_TAG h0 n0 _ T1.heap _
    rw [e1]
    exact ⟨N0, rfl, rfl⟩
theorem d5_36 : decode method_3_code 36 = .ok (.aconst_null, 1) := by decide +kernel
theorem d5_37 : decode method_3_code 37 = .ok (.areturn, 1) := by decide +kernel
theorem ef_ex0 (m : MethodId) (p0 : Int32) : entryFrame m #[(.int p0)] 1 = mkF m 0 #[.val (.int p0)] [] := by first | (simp [entryFrame, mkF, argsToLocals, Value.category]; done) | rfl
def Qex0 (Z : State) (p0 : Int32) (h0 : Heap) (n0 : Nat) (v : Option Value) (h : Heap) (L : List Loc) : Prop := Fr n0 L ∧ v = some .null ∧ h = h0
set_option maxRecDepth 65536 in
set_option maxHeartbeats 40000000 in
theorem rmex0 (l : Launch) (Z : State) (a0 : Array Value) (hw : ∀ d ∈ tables_1, d.before a0 Z = true) (ws : List Jvm.Cond) (p0 : Int32) (h0 : Heap) (n0 : Nat) (Z0 : n0 ≤ h0.size) (hy0 : ¬ (p0 = (1 : Int32))) (hy1 : ¬ (p0 = (2 : Int32))) (hy2 : ¬ (p0 = (3 : Int32))) (hy3 : ¬ (p0 = (4 : Int32))) :
    MetFree l (⟨"com/example/ashlar/ashlar/pack/EntryHeaderObjectTypePinLaw", "expected", "(I)Lcom/example/ashlar/ashlar/ObjectType;"⟩ : MethodName) (head1 (Jvm.Cond.code (⟨"com/example/ashlar/ashlar/pack/EntryHeaderObjectTypePinLaw", "expected", "(I)Lcom/example/ashlar/ashlar/ObjectType;"⟩ : MethodName) method_3_code 1 (some (.object "com/example/ashlar/ashlar/ObjectType")) :: ws) ({ frames := 0, cells := 0, slots := 0, locals := 0 } : Room)) (fun a U => a = #[(.int p0)] ∧ Z.Warmed39 U.vm ∧ U.heap = h0) (fun _ _ _ _ _ => True) (fun _ U o U' => ∃ v L, o = .returned v ∧ Qex0 Z p0 h0 n0 v U'.heap L ∧ FrameEnd U o U' L ({ frames := 0, cells := 0, slots := 0, locals := 0 } : Room).cells ({ frames := 0, cells := 0, slots := 0, locals := 0 } : Room).slots) := by
  refine MetFree.of_bodySF (plainFor_of_name pn_com_example_ashlar_ashlar_pack_EntryHeaderObjectTypePinLaw) hisR ?_
  intro p e s m args below meth c s₁ Bd hml0 hP hK
  obtain ⟨rfl, hZ, hh⟩ := hP
  have hx := Bd.exec
  have hby := Bd.bytes
  have hml : c.maxLocals = 1 := hml0
  have hown : s.vm.findClass "com/example/ashlar/ashlar/pack/EntryHeaderObjectTypePinLaw" = some m.cls := findClass_of_methodNamed Bd.named
  have hnm := (name_of_methodNamed Bd.named Bd.method).1
  have X0 : Stand p l e ({ frames := 0, cells := 0, slots := 0, locals := 0 } : Room) s m #[(.int p0)] below meth c s₁ [] 0 0 := Stand.of_body Bd
  have e0 : s₁.heap = h0 := by rw [← hh, Bd.state]; rfl
  have N0 := Fr.nil n0
  have pre0 : ∀ t, Steps p.tables e below (s₁.setTop (mkF m 0 #[.val (.int p0)] [])) t → Steps p.tables e below (s₁.setTop (entryFrame m #[(.int p0)] 1)) t := fun t k => castTop (ef_ex0 m p0) k
  obtain ⟨fs, hr, hrun, hended, hW, hsame⟩ := X0.leave (v := some .null) (fun h => by rw [Bd.returns] at h; cases h)
  refine ⟨_, _, pre0 _ ?_, hrun, hended, _, _, rfl, ?_, ⟨_, rfl⟩, hW, hsame.mono (by decide) (by decide)⟩
  · skip
    show Steps p.tables e below (s₁.setTop (mkF m 0 #[.val (.int p0)] [])) _
    refine XS.iloadN X0.here hx rfl (hb hby d5_0) rfl ?_
    show Steps p.tables e below (s₁.setTop (mkF m 1 #[.val (.int p0)] [(.int p0)])) _
    refine XT.iconstV X0.here hx rfl (1 : Int32) (hb hby d5_1) (by decide) ?_
    show Steps p.tables e below (s₁.setTop (mkF m 2 #[.val (.int p0)] [(.int (1 : Int32)), (.int p0)])) _
    refine XS.icmpYes X0.here hx rfl (pc0 := 2) (pc' := 9) rfl (hb hby d5_2) rfl (XT.ii_ne_t hy0) (by decide) (by decide) ?_
    show Steps p.tables e below (s₁.setTop (mkF m 9 #[.val (.int p0)] [])) _
    refine XS.iloadN X0.here hx rfl (hb hby d5_9) rfl ?_
    show Steps p.tables e below (s₁.setTop (mkF m 10 #[.val (.int p0)] [(.int p0)])) _
    refine XT.iconstV X0.here hx rfl (2 : Int32) (hb hby d5_10) (by decide) ?_
    show Steps p.tables e below (s₁.setTop (mkF m 11 #[.val (.int p0)] [(.int (2 : Int32)), (.int p0)])) _
    refine XS.icmpYes X0.here hx rfl (pc0 := 11) (pc' := 18) rfl (hb hby d5_11) rfl (XT.ii_ne_t hy1) (by decide) (by decide) ?_
    show Steps p.tables e below (s₁.setTop (mkF m 18 #[.val (.int p0)] [])) _
    refine XS.iloadN X0.here hx rfl (hb hby d5_18) rfl ?_
    show Steps p.tables e below (s₁.setTop (mkF m 19 #[.val (.int p0)] [(.int p0)])) _
    refine XT.iconstV X0.here hx rfl (3 : Int32) (hb hby d5_19) (by decide) ?_
    show Steps p.tables e below (s₁.setTop (mkF m 20 #[.val (.int p0)] [(.int (3 : Int32)), (.int p0)])) _
    refine XS.icmpYes X0.here hx rfl (pc0 := 20) (pc' := 27) rfl (hb hby d5_20) rfl (XT.ii_ne_t hy2) (by decide) (by decide) ?_
    show Steps p.tables e below (s₁.setTop (mkF m 27 #[.val (.int p0)] [])) _
    refine XS.iloadN X0.here hx rfl (hb hby d5_27) rfl ?_
    show Steps p.tables e below (s₁.setTop (mkF m 28 #[.val (.int p0)] [(.int p0)])) _
    refine XT.iconstV X0.here hx rfl (4 : Int32) (hb hby d5_28) (by decide) ?_
    show Steps p.tables e below (s₁.setTop (mkF m 29 #[.val (.int p0)] [(.int (4 : Int32)), (.int p0)])) _
    refine XS.icmpYes X0.here hx rfl (pc0 := 29) (pc' := 36) rfl (hb hby d5_29) rfl (XT.ii_ne_t hy3) (by decide) (by decide) ?_
    show Steps p.tables e below (s₁.setTop (mkF m 36 #[.val (.int p0)] [])) _
    refine XS.aconstNull X0.here hx rfl (hb hby d5_36) ?_
    show Steps p.tables e below (s₁.setTop (mkF m 37 #[.val (.int p0)] [.null])) _
    exact X0.areturnOut hx rfl Bd.returns rfl (hb hby d5_37) hr
  · skip
    show Qex0 Z p0 h0 n0 _ s₁.heap _
    rw [e0]
    exact ⟨N0, rfl, rfl⟩
theorem pd__IJ_V : parseMethodDescriptor "(IJ)V" = some ⟨[.int, .long], none⟩ := by decide +kernel
theorem pd___Lcom_example_ashlar_ashlar_ObjectType_ : parseMethodDescriptor "()Lcom/example/ashlar/ashlar/ObjectType;" = some ⟨[], some (.object "com/example/ashlar/ashlar/ObjectType")⟩ := by decide +kernel
theorem pd__I_Lcom_example_ashlar_ashlar_ObjectType_ : parseMethodDescriptor "(I)Lcom/example/ashlar/ashlar/ObjectType;" = some ⟨[.int], some (.object "com/example/ashlar/ashlar/ObjectType")⟩ := by decide +kernel
theorem ef_0 (m : MethodId) (p0 : Int32) (q1 : Int64) (p2 : Int32) : entryFrame m #[(.int p0), (.long q1), (.int p2)] maxLocals = mkF m 0 #[.val (.int p0), .val (.long q1), .second, .val (.int p2), .unset, .unset] [] := by first | (simp [entryFrame, mkF, argsToLocals, Value.category, maxLocals]; done) | rfl
def v0_1 (p0 : Int32) (q1 : Int64) (p2 : Int32) : Int32 := (p2 &&& (1 : Int32))
def v0_2 (p0 : Int32) (q1 : Int64) (p2 : Int32) : Int32 := (if (v0_1 p0 q1 p2) = (0 : Int32) then (p0 &&& (2147483647 : Int32)) else (p0 &&& (7 : Int32)))
/-own-/
theorem own_ge5 (p0 : Int32) (q1 : Int64) (p2 : Int32) (h1 : ¬ v0_2 p0 q1 p2 = (1 : Int32)) (h2 : ¬ v0_2 p0 q1 p2 = (2 : Int32)) (h3 : ¬ v0_2 p0 q1 p2 = (3 : Int32)) (h4 : ¬ v0_2 p0 q1 p2 = (4 : Int32)) (h0 : ¬ v0_2 p0 q1 p2 = (0 : Int32)) : ¬ (v0_2 p0 q1 p2 < (5 : Int32)) := by
  have c5 : (5 : Int32).toInt = 5 := by decide
  have hn : 0 ≤ (v0_2 p0 q1 p2).toInt := by
    unfold v0_2
    by_cases c : v0_1 p0 q1 p2 = 0
    · rw [if_pos c]
      have : (p0 &&& (2147483647 : Int32)).toInt = p0.toInt % 2 ^ 31 := Jvm.Kit.i32_mask p0 2147483647 (k := 31) (by decide) (by decide)
      omega
    · rw [if_neg c]
      have : (p0 &&& (7 : Int32)).toInt = p0.toInt % 2 ^ 3 := Jvm.Kit.i32_mask p0 7 (k := 3) (by decide) (by decide)
      omega
  rw [Int32.lt_iff_toInt_lt, c5]
  generalize v0_2 p0 q1 p2 = k at *
  intro h
  have k0 : k.toInt = 0 ∨ k.toInt = 1 ∨ k.toInt = 2 ∨ k.toInt = 3 ∨ k.toInt = 4 := by omega
  rcases k0 with q | q | q | q | q
  · exact h0 (Int32.toInt_inj.mp (by rw [q]; decide))
  · exact h1 (Int32.toInt_inj.mp (by rw [q]; decide))
  · exact h2 (Int32.toInt_inj.mp (by rw [q]; decide))
  · exact h3 (Int32.toInt_inj.mp (by rw [q]; decide))
  · exact h4 (Int32.toInt_inj.mp (by rw [q]; decide))
def Q0 (Z : State) (p0 : Int32) (q1 : Int64) (p2 : Int32) (w1_COMMIT : Addr) (w2_TREE : Addr) (w3_BLOB : Addr) (w4_TAG : Addr) (w9_TYPES : Addr) (kA : ClassId) (h0 : Heap) (n0 : Nat) (v : Option Value) (h : Heap) (L : List Loc) : Prop := v = some (.int (1 : Int32)) ∧ Fr n0 L
set_option maxRecDepth 65536 in
set_option maxHeartbeats 40000000 in
theorem rm0 (l : Launch) (Z : State) (a0 : Array Value) (hw : ∀ d ∈ tables_1, d.before a0 Z = true) (ws : List Jvm.Cond) (p0 : Int32) (q1 : Int64) (p2 : Int32) (w1_COMMIT : Addr) (w2_TREE : Addr) (w3_BLOB : Addr) (w4_TAG : Addr) (w9_TYPES : Addr) (kA : ClassId) (h0 : Heap) (n0 : Nat) (Z0 : n0 ≤ h0.size) (O0 : Old Z n0 h0) (S_COMMIT : Sta Z Z.heap "com/example/ashlar/ashlar/ObjectType" "COMMIT" "Lcom/example/ashlar/ashlar/ObjectType;" (.ref w1_COMMIT)) (S_TREE : Sta Z Z.heap "com/example/ashlar/ashlar/ObjectType" "TREE" "Lcom/example/ashlar/ashlar/ObjectType;" (.ref w2_TREE)) (S_BLOB : Sta Z Z.heap "com/example/ashlar/ashlar/ObjectType" "BLOB" "Lcom/example/ashlar/ashlar/ObjectType;" (.ref w3_BLOB)) (S_TAG : Sta Z Z.heap "com/example/ashlar/ashlar/ObjectType" "TAG" "Lcom/example/ashlar/ashlar/ObjectType;" (.ref w4_TAG)) (S_TYPES : Sta Z Z.heap "com/example/ashlar/ashlar/pack/EntryHeader" "TYPES" "[Lcom/example/ashlar/ashlar/ObjectType;" (.ref w9_TYPES)) (V_w9_TYPES : Arv Z h0 w9_TYPES kA (.object "com/example/ashlar/ashlar/ObjectType") (5 : Int32) [.null, (.ref w1_COMMIT), (.ref w2_TREE), (.ref w3_BLOB), (.ref w4_TAG)] .null) :
    MetFree l x (head1 (Jvm.Cond.code x code maxLocals ret :: ws) room_1) (fun a U => a = #[(.int p0), (.long q1), (.int p2)] ∧ Z.Warmed39 U.vm ∧ U.heap = h0) (fun _ _ _ _ _ => True) (fun _ U o U' => ∃ v L, o = .returned v ∧ Q0 Z p0 q1 p2 w1_COMMIT w2_TREE w3_BLOB w4_TAG w9_TYPES kA h0 n0 v U'.heap L ∧ FrameEnd U o U' L room_1.cells room_1.slots) := by
  refine MetFree.of_bodySF (plainFor_of_name pn_com_example_ashlar_ashlar_pack_EntryHeaderObjectTypePinLaw) hisR ?_
  intro p e s m args below meth c s₁ Bd hml0 hP hK
  obtain ⟨rfl, hZ, hh⟩ := hP
  have hx := Bd.exec
  have hby := Bd.bytes
  have hml : c.maxLocals = 6 := hml0
  have hown : s.vm.findClass "com/example/ashlar/ashlar/pack/EntryHeaderObjectTypePinLaw" = some m.cls := findClass_of_methodNamed Bd.named
  have hnm := (name_of_methodNamed Bd.named Bd.method).1
  have X0 : Stand p l e room_1 s m #[(.int p0), (.long q1), (.int p2)] below meth c s₁ [] 0 0 := Stand.of_body Bd
  have e0 : s₁.heap = h0 := by rw [← hh, Bd.state]; rfl
  have N0 := Fr.nil n0
  have pre0 : ∀ t, Steps p.tables e below (s₁.setTop (mkF m 0 #[.val (.int p0), .val (.long q1), .second, .val (.int p2), .unset, .unset] [])) t → Steps p.tables e below (s₁.setTop (entryFrame m #[(.int p0), (.long q1), (.int p2)] maxLocals)) t := fun t k => castTop (ef_0 m p0 q1 p2) k
  have pre1 : ∀ t, Steps p.tables e below (s₁.setTop (mkF m 3 #[.val (.int p0), .val (.long q1), .second, .val (.int p2), .unset, .unset] [(.int (p2 &&& (1 : Int32)))])) t → Steps p.tables e below (s₁.setTop (entryFrame m #[(.int p0), (.long q1), (.int p2)] maxLocals)) t := by
    intro t k
    refine pre0 t ?_
    show Steps p.tables e below (s₁.setTop (mkF m 0 #[.val (.int p0), .val (.long q1), .second, .val (.int p2), .unset, .unset] [])) _
    refine XS.iloadN X0.here hx rfl (hb hby at_0) rfl ?_
    show Steps p.tables e below (s₁.setTop (mkF m 1 #[.val (.int p0), .val (.long q1), .second, .val (.int p2), .unset, .unset] [(.int p2)])) _
    refine XT.iconstV X0.here hx rfl (1 : Int32) (hb hby at_1) (by decide) ?_
    show Steps p.tables e below (s₁.setTop (mkF m 2 #[.val (.int p0), .val (.long q1), .second, .val (.int p2), .unset, .unset] [(.int (1 : Int32)), (.int p2)])) _
    refine XS.iand X0.here hx rfl (hb hby at_2) rfl ?_
    exact k
  have pre3 : ∀ t, Steps p.tables e below (s₁.setTop (mkF m 17 #[.val (.int p0), .val (.long q1), .second, .val (.int p2), .unset, .unset] [(.int (v0_2 p0 q1 p2))])) t → Steps p.tables e below (s₁.setTop (entryFrame m #[(.int p0), (.long q1), (.int p2)] maxLocals)) t := by
    intro t k
    by_cases c2 : (v0_1 p0 q1 p2) = (0 : Int32)
    · skip
      rw [show (v0_2 p0 q1 p2) = (p0 &&& (2147483647 : Int32)) from (if_pos c2)] at k
      refine pre1 t ?_
      show Steps p.tables e below (s₁.setTop (mkF m 3 #[.val (.int p0), .val (.long q1), .second, .val (.int p2), .unset, .unset] [(.int (p2 &&& (1 : Int32)))])) _
      refine XS.ifYes X0.here hx rfl (pc0 := 3) (pc' := 13) rfl (hb hby at_3) rfl (XT.i0_eq_t c2) (by decide) (by decide) ?_
      show Steps p.tables e below (s₁.setTop (mkF m 13 #[.val (.int p0), .val (.long q1), .second, .val (.int p2), .unset, .unset] [])) _
      refine XS.iloadN X0.here hx rfl (hb hby at_13) rfl ?_
      show Steps p.tables e below (s₁.setTop (mkF m 14 #[.val (.int p0), .val (.long q1), .second, .val (.int p2), .unset, .unset] [(.int p0)])) _
      refine X0.ldcI hx hown (mvT hZ (hw _ (List.mem_of_getElem? (i := 29) rfl))) rfl (hb hby at_14) ?_
      show Steps p.tables e below (s₁.setTop (mkF m 16 #[.val (.int p0), .val (.long q1), .second, .val (.int p2), .unset, .unset] [(.int (2147483647 : Int32)), (.int p0)])) _
      refine XS.iand X0.here hx rfl (hb hby at_16) rfl ?_
      exact k
    · skip
      rw [show (v0_2 p0 q1 p2) = (p0 &&& (7 : Int32)) from (if_neg c2)] at k
      refine pre1 t ?_
      show Steps p.tables e below (s₁.setTop (mkF m 3 #[.val (.int p0), .val (.long q1), .second, .val (.int p2), .unset, .unset] [(.int (p2 &&& (1 : Int32)))])) _
      refine XS.ifNo X0.here hx rfl (hb hby at_3) rfl (XT.i0_eq_f c2) ?_
      show Steps p.tables e below (s₁.setTop (mkF m 6 #[.val (.int p0), .val (.long q1), .second, .val (.int p2), .unset, .unset] [])) _
      refine XS.iloadN X0.here hx rfl (hb hby at_6) rfl ?_
      show Steps p.tables e below (s₁.setTop (mkF m 7 #[.val (.int p0), .val (.long q1), .second, .val (.int p2), .unset, .unset] [(.int p0)])) _
      refine XT.bipushV X0.here hx rfl (7 : Int32) (hb hby at_7) (by decide) ?_
      show Steps p.tables e below (s₁.setTop (mkF m 9 #[.val (.int p0), .val (.long q1), .second, .val (.int p2), .unset, .unset] [(.int (7 : Int32)), (.int p0)])) _
      refine XS.iand X0.here hx rfl (hb hby at_9) rfl ?_
      show Steps p.tables e below (s₁.setTop (mkF m 10 #[.val (.int p0), .val (.long q1), .second, .val (.int p2), .unset, .unset] [(.int (p0 &&& (7 : Int32)))])) _
      refine XS.goto X0.here hx rfl (pc0 := 10) (pc' := 17) rfl (hb hby at_10) (by decide) (by decide) ?_
      exact k
  have pre4 : ∀ t, Steps p.tables e below (s₁.setTop (mkF m 19 #[.val (.int p0), .val (.long q1), .second, .val (.int p2), .val (.int (v0_2 p0 q1 p2)), .unset] [])) t → Steps p.tables e below (s₁.setTop (entryFrame m #[(.int p0), (.long q1), (.int p2)] maxLocals)) t := by
    intro t k
    refine pre3 t ?_
    show Steps p.tables e below (s₁.setTop (mkF m 17 #[.val (.int p0), .val (.long q1), .second, .val (.int p2), .unset, .unset] [(.int (v0_2 p0 q1 p2))])) _
    refine XS.istore X0.here hx rfl (hb hby at_17) rfl (l' := #[.val (.int p0), .val (.long q1), .second, .val (.int p2), .val (.int (v0_2 p0 q1 p2)), .unset]) rfl ?_
    exact k
  by_cases c5 : (v0_2 p0 q1 p2) = (1 : Int32)
  · skip
    obtain ⟨T6, h6, X6, e6, E6, A6, D6, -, st6⟩ := newO X0 hx hZ hown (hw _ (List.mem_of_getElem? (i := 0) rfl)) (hw _ (List.mem_of_getElem? (i := 1) rfl)) (hw _ (List.mem_of_getElem? (i := 2) rfl)) e0 (g := (mkF m 19 #[.val (.int p0), .val (.long q1), .second, .val (.int p2), .val (.int (v0_2 p0 q1 p2)), .unset] [])) rfl (hb hby at_19) (by decide) (by decide)
    obtain ⟨b6, gz6⟩ : ∃ z, z = h0.size := ⟨_, rfl⟩
    rw [← gz6] at A6 D6 st6
    have ne7 : w9_TYPES ≠ b6 := Nat.ne_of_lt (Nat.lt_of_lt_of_le V_w9_TYPES.lt (Nat.le_of_eq gz6.symm))
    have g8 : n0 ≤ b6 := Nat.le_trans Z0 (Nat.le_of_eq gz6.symm)
    have sz9 : h0.size ≤ b6 := Nat.le_trans (Nat.le_refl h0.size) (Nat.le_of_eq gz6.symm)
    have z10 : n0 ≤ h6.size := Nat.le_trans Z0 E6.1
    have hs11 : h0.size ≤ h6.size := Nat.le_trans (Nat.le_refl h0.size) E6.1
    have F6_code : Fld Z h6 b6 "com/example/ashlar/ashlar/pack/EntryHeader" "code" "I" (.int (0 : Int32)) := D6 (Or.inr (hw _ (List.mem_of_getElem? (i := 15) rfl))) (ty := .int) (by decide)
    have F6_size : Fld Z h6 b6 "com/example/ashlar/ashlar/pack/EntryHeader" "size" "J" (.long (0 : Int64)) := D6 (Or.inr (hw _ (List.mem_of_getElem? (i := 17) rfl))) (ty := .long) (by decide)
    obtain ⟨_, _, ⟨T12, L12, k12, n12⟩, -, X12, ⟨Lc12, hQ12, l12, y12, z12⟩, st12⟩ := X6.specialBack hx (y := (⟨"com/example/ashlar/ashlar/pack/EntryHeader", "<init>", "(IJ)V"⟩ : MethodName)) rfl hown (mvT hZ (hw _ (List.mem_of_getElem? (i := 3) rfl))) (mvT hZ (hw _ (List.mem_of_getElem? (i := 4) rfl))) (mvT hZ (hw _ (List.mem_of_getElem? (i := 5) rfl))) (by decide) (backOf (W := 1) (rm1 l Z a0 hw [] b6 (v0_2 p0 q1 p2) q1 (.int (0 : Int32)) (.long (0 : Int64)) h6 n0 z10 A6 F6_code g8 F6_size) hZ (hw _ (List.mem_of_getElem? (i := 5) rfl)) (hw _ (List.mem_of_getElem? (i := 2) rfl)) (by decide) (by decide)) (g := (mkF m 26 #[.val (.int p0), .val (.long q1), .second, .val (.int p2), .val (.int (v0_2 p0 q1 p2)), .unset] [(.long q1), (.int (v0_2 p0 q1 p2)), (.ref b6), (.ref b6)])) rfl (by rw [hml]; rfl) (Steps.refl _) (a := b6) (argsL := [(.int (v0_2 p0 q1 p2)), (.long q1)]) (rest := [(.ref b6)]) (lenOf pd__IJ_V rfl) rfl (by show 2 * 0 + _ ≤ _; exact Nat.le_of_eq rfl) (hb hby at_26) (fun _ _ => ⟨rfl, e6, (by decide : 1 + 0 ≤ _), (by decide : 2 + 0 ≤ _)⟩)
    dsimp only [Pt.U, Pt.locs, Pt.cells, Pt.slots] at X12 l12 y12 z12 st12 hQ12
    subst l12 y12 z12
    obtain ⟨N12q, rfl, K12, po12_0, po12_1, po12_2⟩ := hQ12
    have z13 : n0 ≤ T12.heap.size := Nat.le_trans z10 K12.1
    have hs14 : h0.size ≤ T12.heap.size := Nat.le_trans hs11 K12.1
    have N12 := Fr.app N0 N12q
    have O16 := ((O0.ext E6).keep K12 (allS g8 all0))
    have k17 := ((V_w9_TYPES.ext E6).keep K12 (ninS ne7 nin0))
    obtain ⟨cq15, kq15, q15a, q15b, q15c⟩ := isOf hZ rfl po12_0
    obtain ⟨_, _, ⟨T15, L15, k15, n15⟩, -, X15, ⟨Lc15, hQ15, l15, y15, z15⟩, st15⟩ := X12.virtualBack hx (y := (⟨"com/example/ashlar/ashlar/pack/EntryHeader", "objectType", "()Lcom/example/ashlar/ashlar/ObjectType;"⟩ : MethodName)) (z := (⟨"com/example/ashlar/ashlar/pack/EntryHeader", "objectType", "()Lcom/example/ashlar/ashlar/ObjectType;"⟩ : MethodName)) hown (mvT hZ (hw _ (List.mem_of_getElem? (i := 18) rfl))) (mvT hZ (hw _ (List.mem_of_getElem? (i := 19) rfl))) (notFace_of_selects (args := #[]) (mvT hZ (hw _ (List.mem_of_getElem? (i := 21) rfl)))) (mvT hZ (hw _ (List.mem_of_getElem? (i := 21) rfl))) (mvT hZ (hw _ (List.mem_of_getElem? (i := 20) rfl))) (by decide) (backOf (W := 0) (rmot1 l Z a0 hw [] b6 (v0_2 p0 q1 p2) w9_TYPES w1_COMMIT w2_TREE w3_BLOB w4_TAG kA T12.heap n0 z13 po12_1 (Sta.ext O16.2 S_TYPES) k17 c5) hZ (hw _ (List.mem_of_getElem? (i := 22) rfl)) (hw _ (List.mem_of_getElem? (i := 2) rfl)) (by decide) (by decide)) q15a q15c (g := (mkF m 29 #[.val (.int p0), .val (.long q1), .second, .val (.int p2), .val (.int (v0_2 p0 q1 p2)), .unset] [(.ref b6)])) rfl (by rw [hml]; rfl) (Steps.refl _) (argsL := []) (rest := []) (lenOf pd___Lcom_example_ashlar_ashlar_ObjectType_ rfl) rfl (by show 2 * 0 + _ ≤ _; exact Nat.le_of_eq rfl) (hb hby at_29) (fun _ _ => ⟨rfl, rfl, (by decide : 1 + 0 ≤ _), (by decide : 2 + 0 ≤ _)⟩)
    dsimp only [Pt.U, Pt.locs, Pt.cells, Pt.slots] at X15 l15 y15 z15 st15 hQ15
    subst l15 y15 z15
    obtain ⟨N15q, rfl, e15⟩ := hQ15
    have N15 := Fr.app N12 N15q
    obtain ⟨_, _, ⟨T18, L18, k18, n18⟩, -, X18, ⟨Lc18, hQ18, l18, y18, z18⟩, st18⟩ := Jvm.LawKit.callS X15 hx (y := (⟨"com/example/ashlar/ashlar/pack/EntryHeaderObjectTypePinLaw", "expected", "(I)Lcom/example/ashlar/ashlar/ObjectType;"⟩ : MethodName)) hown (mvT hZ (hw _ (List.mem_of_getElem? (i := 25) rfl))) (mvT hZ (hw _ (List.mem_of_getElem? (i := 26) rfl))) (mvT hZ (hw _ (List.mem_of_getElem? (i := 27) rfl))) (mvT hZ (hw _ (List.mem_of_getElem? (i := 28) rfl))) (by decide) (backOf (W := 1) (rmex1 l Z a0 hw [] (v0_2 p0 q1 p2) w1_COMMIT T12.heap n0 z13 c5 (Sta.ext O16.2 S_COMMIT)) hZ (hw _ (List.mem_of_getElem? (i := 28) rfl)) (hw _ (List.mem_of_getElem? (i := 27) rfl)) (by decide) (by decide)) (g := (mkF m 38 #[.val (.int p0), .val (.long q1), .second, .val (.int p2), .val (.int (v0_2 p0 q1 p2)), .val (.ref w1_COMMIT)] [(.int (v0_2 p0 q1 p2)), (.ref w1_COMMIT)])) rfl (by rw [hml]; rfl) (argsL := [(.int (v0_2 p0 q1 p2))]) (rest := [(.ref w1_COMMIT)]) (lenOf pd__I_Lcom_example_ashlar_ashlar_ObjectType_ rfl) rfl (by show 2 * 0 + _ ≤ _; exact Nat.le_of_eq rfl) (hb hby at_38) (fun _ _ => ⟨rfl, e15, (by decide : 1 + 0 ≤ _), (by decide : 2 + 0 ≤ _)⟩)
    dsimp only [Pt.U, Pt.locs, Pt.cells, Pt.slots] at X18 l18 y18 z18 st18 hQ18
    subst l18 y18 z18
    obtain ⟨N18q, rfl, e18⟩ := hQ18
    have N18 := Fr.app N15 N18q
    obtain ⟨fs, hr, hrun, hended, hW, hsame⟩ := X18.leave (v := some (.int (1 : Int32))) (fun h => by rw [Bd.returns] at h; cases h)
    refine ⟨_, _, pre4 _ ?_, hrun, hended, _, _, rfl, ?_, ⟨_, rfl⟩, hW, hsame.mono (by decide) (by decide)⟩
    · skip
      show Steps p.tables e below (s₁.setTop (mkF m 19 #[.val (.int p0), .val (.long q1), .second, .val (.int p2), .val (.int (v0_2 p0 q1 p2)), .unset] [])) _
      refine st6 _ ?_
      show Steps p.tables e below (T6.setTop (mkF m 22 #[.val (.int p0), .val (.long q1), .second, .val (.int p2), .val (.int (v0_2 p0 q1 p2)), .unset] [(.ref b6)])) _
      refine XS.dup X6.here hx rfl (hb hby at_22) rfl rfl ?_
      show Steps p.tables e below (T6.setTop (mkF m 23 #[.val (.int p0), .val (.long q1), .second, .val (.int p2), .val (.int (v0_2 p0 q1 p2)), .unset] [(.ref b6), (.ref b6)])) _
      refine XS.iload X6.here hx rfl (hb hby at_23) rfl ?_
      show Steps p.tables e below (T6.setTop (mkF m 25 #[.val (.int p0), .val (.long q1), .second, .val (.int p2), .val (.int (v0_2 p0 q1 p2)), .unset] [(.int (v0_2 p0 q1 p2)), (.ref b6), (.ref b6)])) _
      refine XT.lloadN X6.here hx rfl (hb hby at_25) rfl ?_
      show Steps p.tables e below (T6.setTop (mkF m 26 #[.val (.int p0), .val (.long q1), .second, .val (.int p2), .val (.int (v0_2 p0 q1 p2)), .unset] [(.long q1), (.int (v0_2 p0 q1 p2)), (.ref b6), (.ref b6)])) _
      refine st12.trans ?_
      show Steps p.tables e below (T12.setTop (mkF m 29 #[.val (.int p0), .val (.long q1), .second, .val (.int p2), .val (.int (v0_2 p0 q1 p2)), .unset] [(.ref b6)])) _
      refine st15.trans ?_
      show Steps p.tables e below (T15.setTop (mkF m 32 #[.val (.int p0), .val (.long q1), .second, .val (.int p2), .val (.int (v0_2 p0 q1 p2)), .unset] [(.ref w1_COMMIT)])) _
      refine XS.astore X15.here hx rfl (hb hby at_32) rfl rfl (l' := #[.val (.int p0), .val (.long q1), .second, .val (.int p2), .val (.int (v0_2 p0 q1 p2)), .val (.ref w1_COMMIT)]) rfl ?_
      show Steps p.tables e below (T15.setTop (mkF m 34 #[.val (.int p0), .val (.long q1), .second, .val (.int p2), .val (.int (v0_2 p0 q1 p2)), .val (.ref w1_COMMIT)] [])) _
      refine XS.aload X15.here hx rfl (hb hby at_34) rfl rfl ?_
      show Steps p.tables e below (T15.setTop (mkF m 36 #[.val (.int p0), .val (.long q1), .second, .val (.int p2), .val (.int (v0_2 p0 q1 p2)), .val (.ref w1_COMMIT)] [(.ref w1_COMMIT)])) _
      refine XS.iload X15.here hx rfl (hb hby at_36) rfl ?_
      show Steps p.tables e below (T15.setTop (mkF m 38 #[.val (.int p0), .val (.long q1), .second, .val (.int p2), .val (.int (v0_2 p0 q1 p2)), .val (.ref w1_COMMIT)] [(.int (v0_2 p0 q1 p2)), (.ref w1_COMMIT)])) _
      refine st18 _ ?_
      show Steps p.tables e below (T18.setTop (mkF m 41 #[.val (.int p0), .val (.long q1), .second, .val (.int p2), .val (.int (v0_2 p0 q1 p2)), .val (.ref w1_COMMIT)] [(.ref w1_COMMIT), (.ref w1_COMMIT)])) _
      refine XT.acmpNo X18.here hx rfl (hb hby at_41) rfl rfl rfl (XT.aa_ne_f rfl) ?_
      show Steps p.tables e below (T18.setTop (mkF m 44 #[.val (.int p0), .val (.long q1), .second, .val (.int p2), .val (.int (v0_2 p0 q1 p2)), .val (.ref w1_COMMIT)] [])) _
      refine XT.iconstV X18.here hx rfl (1 : Int32) (hb hby at_44) (by decide) ?_
      show Steps p.tables e below (T18.setTop (mkF m 45 #[.val (.int p0), .val (.long q1), .second, .val (.int p2), .val (.int (v0_2 p0 q1 p2)), .val (.ref w1_COMMIT)] [(.int (1 : Int32))])) _
      refine XS.goto X18.here hx rfl (pc0 := 45) (pc' := 49) rfl (hb hby at_45) (by decide) (by decide) ?_
      show Steps p.tables e below (T18.setTop (mkF m 49 #[.val (.int p0), .val (.long q1), .second, .val (.int p2), .val (.int (v0_2 p0 q1 p2)), .val (.ref w1_COMMIT)] [(.int (1 : Int32))])) _
      exact retN X18 hx (t := .boolean) Bd.returns (by simp) (hb hby at_49) hr
    · skip
      show Q0 Z p0 q1 p2 w1_COMMIT w2_TREE w3_BLOB w4_TAG w9_TYPES kA h0 n0 _ T18.heap _
      rw [e18]
      exact ⟨rfl, N18⟩
  · skip
    by_cases c19 : (v0_2 p0 q1 p2) = (2 : Int32)
    · skip
      obtain ⟨T20, h20, X20, e20, E20, A20, D20, -, st20⟩ := newO X0 hx hZ hown (hw _ (List.mem_of_getElem? (i := 0) rfl)) (hw _ (List.mem_of_getElem? (i := 1) rfl)) (hw _ (List.mem_of_getElem? (i := 2) rfl)) e0 (g := (mkF m 19 #[.val (.int p0), .val (.long q1), .second, .val (.int p2), .val (.int (v0_2 p0 q1 p2)), .unset] [])) rfl (hb hby at_19) (by decide) (by decide)
      obtain ⟨b20, gz20⟩ : ∃ z, z = h0.size := ⟨_, rfl⟩
      rw [← gz20] at A20 D20 st20
      have ne21 : w9_TYPES ≠ b20 := Nat.ne_of_lt (Nat.lt_of_lt_of_le V_w9_TYPES.lt (Nat.le_of_eq gz20.symm))
      have g22 : n0 ≤ b20 := Nat.le_trans Z0 (Nat.le_of_eq gz20.symm)
      have sz23 : h0.size ≤ b20 := Nat.le_trans (Nat.le_refl h0.size) (Nat.le_of_eq gz20.symm)
      have z24 : n0 ≤ h20.size := Nat.le_trans Z0 E20.1
      have hs25 : h0.size ≤ h20.size := Nat.le_trans (Nat.le_refl h0.size) E20.1
      have F20_code : Fld Z h20 b20 "com/example/ashlar/ashlar/pack/EntryHeader" "code" "I" (.int (0 : Int32)) := D20 (Or.inr (hw _ (List.mem_of_getElem? (i := 15) rfl))) (ty := .int) (by decide)
      have F20_size : Fld Z h20 b20 "com/example/ashlar/ashlar/pack/EntryHeader" "size" "J" (.long (0 : Int64)) := D20 (Or.inr (hw _ (List.mem_of_getElem? (i := 17) rfl))) (ty := .long) (by decide)
      obtain ⟨_, _, ⟨T26, L26, k26, n26⟩, -, X26, ⟨Lc26, hQ26, l26, y26, z26⟩, st26⟩ := X20.specialBack hx (y := (⟨"com/example/ashlar/ashlar/pack/EntryHeader", "<init>", "(IJ)V"⟩ : MethodName)) rfl hown (mvT hZ (hw _ (List.mem_of_getElem? (i := 3) rfl))) (mvT hZ (hw _ (List.mem_of_getElem? (i := 4) rfl))) (mvT hZ (hw _ (List.mem_of_getElem? (i := 5) rfl))) (by decide) (backOf (W := 1) (rm1 l Z a0 hw [] b20 (v0_2 p0 q1 p2) q1 (.int (0 : Int32)) (.long (0 : Int64)) h20 n0 z24 A20 F20_code g22 F20_size) hZ (hw _ (List.mem_of_getElem? (i := 5) rfl)) (hw _ (List.mem_of_getElem? (i := 2) rfl)) (by decide) (by decide)) (g := (mkF m 26 #[.val (.int p0), .val (.long q1), .second, .val (.int p2), .val (.int (v0_2 p0 q1 p2)), .unset] [(.long q1), (.int (v0_2 p0 q1 p2)), (.ref b20), (.ref b20)])) rfl (by rw [hml]; rfl) (Steps.refl _) (a := b20) (argsL := [(.int (v0_2 p0 q1 p2)), (.long q1)]) (rest := [(.ref b20)]) (lenOf pd__IJ_V rfl) rfl (by show 2 * 0 + _ ≤ _; exact Nat.le_of_eq rfl) (hb hby at_26) (fun _ _ => ⟨rfl, e20, (by decide : 1 + 0 ≤ _), (by decide : 2 + 0 ≤ _)⟩)
      dsimp only [Pt.U, Pt.locs, Pt.cells, Pt.slots] at X26 l26 y26 z26 st26 hQ26
      subst l26 y26 z26
      obtain ⟨N26q, rfl, K26, po26_0, po26_1, po26_2⟩ := hQ26
      have z27 : n0 ≤ T26.heap.size := Nat.le_trans z24 K26.1
      have hs28 : h0.size ≤ T26.heap.size := Nat.le_trans hs25 K26.1
      have N26 := Fr.app N0 N26q
      have O30 := ((O0.ext E20).keep K26 (allS g22 all0))
      have k31 := ((V_w9_TYPES.ext E20).keep K26 (ninS ne21 nin0))
      obtain ⟨cq29, kq29, q29a, q29b, q29c⟩ := isOf hZ rfl po26_0
      obtain ⟨_, _, ⟨T29, L29, k29, n29⟩, -, X29, ⟨Lc29, hQ29, l29, y29, z29⟩, st29⟩ := X26.virtualBack hx (y := (⟨"com/example/ashlar/ashlar/pack/EntryHeader", "objectType", "()Lcom/example/ashlar/ashlar/ObjectType;"⟩ : MethodName)) (z := (⟨"com/example/ashlar/ashlar/pack/EntryHeader", "objectType", "()Lcom/example/ashlar/ashlar/ObjectType;"⟩ : MethodName)) hown (mvT hZ (hw _ (List.mem_of_getElem? (i := 18) rfl))) (mvT hZ (hw _ (List.mem_of_getElem? (i := 19) rfl))) (notFace_of_selects (args := #[]) (mvT hZ (hw _ (List.mem_of_getElem? (i := 21) rfl)))) (mvT hZ (hw _ (List.mem_of_getElem? (i := 21) rfl))) (mvT hZ (hw _ (List.mem_of_getElem? (i := 20) rfl))) (by decide) (backOf (W := 0) (rmot2 l Z a0 hw [] b20 (v0_2 p0 q1 p2) w9_TYPES w1_COMMIT w2_TREE w3_BLOB w4_TAG kA T26.heap n0 z27 po26_1 (Sta.ext O30.2 S_TYPES) k31 c19) hZ (hw _ (List.mem_of_getElem? (i := 22) rfl)) (hw _ (List.mem_of_getElem? (i := 2) rfl)) (by decide) (by decide)) q29a q29c (g := (mkF m 29 #[.val (.int p0), .val (.long q1), .second, .val (.int p2), .val (.int (v0_2 p0 q1 p2)), .unset] [(.ref b20)])) rfl (by rw [hml]; rfl) (Steps.refl _) (argsL := []) (rest := []) (lenOf pd___Lcom_example_ashlar_ashlar_ObjectType_ rfl) rfl (by show 2 * 0 + _ ≤ _; exact Nat.le_of_eq rfl) (hb hby at_29) (fun _ _ => ⟨rfl, rfl, (by decide : 1 + 0 ≤ _), (by decide : 2 + 0 ≤ _)⟩)
      dsimp only [Pt.U, Pt.locs, Pt.cells, Pt.slots] at X29 l29 y29 z29 st29 hQ29
      subst l29 y29 z29
      obtain ⟨N29q, rfl, e29⟩ := hQ29
      have N29 := Fr.app N26 N29q
      obtain ⟨_, _, ⟨T32, L32, k32, n32⟩, -, X32, ⟨Lc32, hQ32, l32, y32, z32⟩, st32⟩ := Jvm.LawKit.callS X29 hx (y := (⟨"com/example/ashlar/ashlar/pack/EntryHeaderObjectTypePinLaw", "expected", "(I)Lcom/example/ashlar/ashlar/ObjectType;"⟩ : MethodName)) hown (mvT hZ (hw _ (List.mem_of_getElem? (i := 25) rfl))) (mvT hZ (hw _ (List.mem_of_getElem? (i := 26) rfl))) (mvT hZ (hw _ (List.mem_of_getElem? (i := 27) rfl))) (mvT hZ (hw _ (List.mem_of_getElem? (i := 28) rfl))) (by decide) (backOf (W := 1) (rmex2 l Z a0 hw [] (v0_2 p0 q1 p2) w2_TREE T26.heap n0 z27 c5 c19 (Sta.ext O30.2 S_TREE)) hZ (hw _ (List.mem_of_getElem? (i := 28) rfl)) (hw _ (List.mem_of_getElem? (i := 27) rfl)) (by decide) (by decide)) (g := (mkF m 38 #[.val (.int p0), .val (.long q1), .second, .val (.int p2), .val (.int (v0_2 p0 q1 p2)), .val (.ref w2_TREE)] [(.int (v0_2 p0 q1 p2)), (.ref w2_TREE)])) rfl (by rw [hml]; rfl) (argsL := [(.int (v0_2 p0 q1 p2))]) (rest := [(.ref w2_TREE)]) (lenOf pd__I_Lcom_example_ashlar_ashlar_ObjectType_ rfl) rfl (by show 2 * 0 + _ ≤ _; exact Nat.le_of_eq rfl) (hb hby at_38) (fun _ _ => ⟨rfl, e29, (by decide : 1 + 0 ≤ _), (by decide : 2 + 0 ≤ _)⟩)
      dsimp only [Pt.U, Pt.locs, Pt.cells, Pt.slots] at X32 l32 y32 z32 st32 hQ32
      subst l32 y32 z32
      obtain ⟨N32q, rfl, e32⟩ := hQ32
      have N32 := Fr.app N29 N32q
      obtain ⟨fs, hr, hrun, hended, hW, hsame⟩ := X32.leave (v := some (.int (1 : Int32))) (fun h => by rw [Bd.returns] at h; cases h)
      refine ⟨_, _, pre4 _ ?_, hrun, hended, _, _, rfl, ?_, ⟨_, rfl⟩, hW, hsame.mono (by decide) (by decide)⟩
      · skip
        show Steps p.tables e below (s₁.setTop (mkF m 19 #[.val (.int p0), .val (.long q1), .second, .val (.int p2), .val (.int (v0_2 p0 q1 p2)), .unset] [])) _
        refine st20 _ ?_
        show Steps p.tables e below (T20.setTop (mkF m 22 #[.val (.int p0), .val (.long q1), .second, .val (.int p2), .val (.int (v0_2 p0 q1 p2)), .unset] [(.ref b20)])) _
        refine XS.dup X20.here hx rfl (hb hby at_22) rfl rfl ?_
        show Steps p.tables e below (T20.setTop (mkF m 23 #[.val (.int p0), .val (.long q1), .second, .val (.int p2), .val (.int (v0_2 p0 q1 p2)), .unset] [(.ref b20), (.ref b20)])) _
        refine XS.iload X20.here hx rfl (hb hby at_23) rfl ?_
        show Steps p.tables e below (T20.setTop (mkF m 25 #[.val (.int p0), .val (.long q1), .second, .val (.int p2), .val (.int (v0_2 p0 q1 p2)), .unset] [(.int (v0_2 p0 q1 p2)), (.ref b20), (.ref b20)])) _
        refine XT.lloadN X20.here hx rfl (hb hby at_25) rfl ?_
        show Steps p.tables e below (T20.setTop (mkF m 26 #[.val (.int p0), .val (.long q1), .second, .val (.int p2), .val (.int (v0_2 p0 q1 p2)), .unset] [(.long q1), (.int (v0_2 p0 q1 p2)), (.ref b20), (.ref b20)])) _
        refine st26.trans ?_
        show Steps p.tables e below (T26.setTop (mkF m 29 #[.val (.int p0), .val (.long q1), .second, .val (.int p2), .val (.int (v0_2 p0 q1 p2)), .unset] [(.ref b20)])) _
        refine st29.trans ?_
        show Steps p.tables e below (T29.setTop (mkF m 32 #[.val (.int p0), .val (.long q1), .second, .val (.int p2), .val (.int (v0_2 p0 q1 p2)), .unset] [(.ref w2_TREE)])) _
        refine XS.astore X29.here hx rfl (hb hby at_32) rfl rfl (l' := #[.val (.int p0), .val (.long q1), .second, .val (.int p2), .val (.int (v0_2 p0 q1 p2)), .val (.ref w2_TREE)]) rfl ?_
        show Steps p.tables e below (T29.setTop (mkF m 34 #[.val (.int p0), .val (.long q1), .second, .val (.int p2), .val (.int (v0_2 p0 q1 p2)), .val (.ref w2_TREE)] [])) _
        refine XS.aload X29.here hx rfl (hb hby at_34) rfl rfl ?_
        show Steps p.tables e below (T29.setTop (mkF m 36 #[.val (.int p0), .val (.long q1), .second, .val (.int p2), .val (.int (v0_2 p0 q1 p2)), .val (.ref w2_TREE)] [(.ref w2_TREE)])) _
        refine XS.iload X29.here hx rfl (hb hby at_36) rfl ?_
        show Steps p.tables e below (T29.setTop (mkF m 38 #[.val (.int p0), .val (.long q1), .second, .val (.int p2), .val (.int (v0_2 p0 q1 p2)), .val (.ref w2_TREE)] [(.int (v0_2 p0 q1 p2)), (.ref w2_TREE)])) _
        refine st32 _ ?_
        show Steps p.tables e below (T32.setTop (mkF m 41 #[.val (.int p0), .val (.long q1), .second, .val (.int p2), .val (.int (v0_2 p0 q1 p2)), .val (.ref w2_TREE)] [(.ref w2_TREE), (.ref w2_TREE)])) _
        refine XT.acmpNo X32.here hx rfl (hb hby at_41) rfl rfl rfl (XT.aa_ne_f rfl) ?_
        show Steps p.tables e below (T32.setTop (mkF m 44 #[.val (.int p0), .val (.long q1), .second, .val (.int p2), .val (.int (v0_2 p0 q1 p2)), .val (.ref w2_TREE)] [])) _
        refine XT.iconstV X32.here hx rfl (1 : Int32) (hb hby at_44) (by decide) ?_
        show Steps p.tables e below (T32.setTop (mkF m 45 #[.val (.int p0), .val (.long q1), .second, .val (.int p2), .val (.int (v0_2 p0 q1 p2)), .val (.ref w2_TREE)] [(.int (1 : Int32))])) _
        refine XS.goto X32.here hx rfl (pc0 := 45) (pc' := 49) rfl (hb hby at_45) (by decide) (by decide) ?_
        show Steps p.tables e below (T32.setTop (mkF m 49 #[.val (.int p0), .val (.long q1), .second, .val (.int p2), .val (.int (v0_2 p0 q1 p2)), .val (.ref w2_TREE)] [(.int (1 : Int32))])) _
        exact retN X32 hx (t := .boolean) Bd.returns (by simp) (hb hby at_49) hr
      · skip
        show Q0 Z p0 q1 p2 w1_COMMIT w2_TREE w3_BLOB w4_TAG w9_TYPES kA h0 n0 _ T32.heap _
        rw [e32]
        exact ⟨rfl, N32⟩
    · skip
      by_cases c33 : (v0_2 p0 q1 p2) = (3 : Int32)
      · skip
        obtain ⟨T34, h34, X34, e34, E34, A34, D34, -, st34⟩ := newO X0 hx hZ hown (hw _ (List.mem_of_getElem? (i := 0) rfl)) (hw _ (List.mem_of_getElem? (i := 1) rfl)) (hw _ (List.mem_of_getElem? (i := 2) rfl)) e0 (g := (mkF m 19 #[.val (.int p0), .val (.long q1), .second, .val (.int p2), .val (.int (v0_2 p0 q1 p2)), .unset] [])) rfl (hb hby at_19) (by decide) (by decide)
        obtain ⟨b34, gz34⟩ : ∃ z, z = h0.size := ⟨_, rfl⟩
        rw [← gz34] at A34 D34 st34
        have ne35 : w9_TYPES ≠ b34 := Nat.ne_of_lt (Nat.lt_of_lt_of_le V_w9_TYPES.lt (Nat.le_of_eq gz34.symm))
        have g36 : n0 ≤ b34 := Nat.le_trans Z0 (Nat.le_of_eq gz34.symm)
        have sz37 : h0.size ≤ b34 := Nat.le_trans (Nat.le_refl h0.size) (Nat.le_of_eq gz34.symm)
        have z38 : n0 ≤ h34.size := Nat.le_trans Z0 E34.1
        have hs39 : h0.size ≤ h34.size := Nat.le_trans (Nat.le_refl h0.size) E34.1
        have F34_code : Fld Z h34 b34 "com/example/ashlar/ashlar/pack/EntryHeader" "code" "I" (.int (0 : Int32)) := D34 (Or.inr (hw _ (List.mem_of_getElem? (i := 15) rfl))) (ty := .int) (by decide)
        have F34_size : Fld Z h34 b34 "com/example/ashlar/ashlar/pack/EntryHeader" "size" "J" (.long (0 : Int64)) := D34 (Or.inr (hw _ (List.mem_of_getElem? (i := 17) rfl))) (ty := .long) (by decide)
        obtain ⟨_, _, ⟨T40, L40, k40, n40⟩, -, X40, ⟨Lc40, hQ40, l40, y40, z40⟩, st40⟩ := X34.specialBack hx (y := (⟨"com/example/ashlar/ashlar/pack/EntryHeader", "<init>", "(IJ)V"⟩ : MethodName)) rfl hown (mvT hZ (hw _ (List.mem_of_getElem? (i := 3) rfl))) (mvT hZ (hw _ (List.mem_of_getElem? (i := 4) rfl))) (mvT hZ (hw _ (List.mem_of_getElem? (i := 5) rfl))) (by decide) (backOf (W := 1) (rm1 l Z a0 hw [] b34 (v0_2 p0 q1 p2) q1 (.int (0 : Int32)) (.long (0 : Int64)) h34 n0 z38 A34 F34_code g36 F34_size) hZ (hw _ (List.mem_of_getElem? (i := 5) rfl)) (hw _ (List.mem_of_getElem? (i := 2) rfl)) (by decide) (by decide)) (g := (mkF m 26 #[.val (.int p0), .val (.long q1), .second, .val (.int p2), .val (.int (v0_2 p0 q1 p2)), .unset] [(.long q1), (.int (v0_2 p0 q1 p2)), (.ref b34), (.ref b34)])) rfl (by rw [hml]; rfl) (Steps.refl _) (a := b34) (argsL := [(.int (v0_2 p0 q1 p2)), (.long q1)]) (rest := [(.ref b34)]) (lenOf pd__IJ_V rfl) rfl (by show 2 * 0 + _ ≤ _; exact Nat.le_of_eq rfl) (hb hby at_26) (fun _ _ => ⟨rfl, e34, (by decide : 1 + 0 ≤ _), (by decide : 2 + 0 ≤ _)⟩)
        dsimp only [Pt.U, Pt.locs, Pt.cells, Pt.slots] at X40 l40 y40 z40 st40 hQ40
        subst l40 y40 z40
        obtain ⟨N40q, rfl, K40, po40_0, po40_1, po40_2⟩ := hQ40
        have z41 : n0 ≤ T40.heap.size := Nat.le_trans z38 K40.1
        have hs42 : h0.size ≤ T40.heap.size := Nat.le_trans hs39 K40.1
        have N40 := Fr.app N0 N40q
        have O44 := ((O0.ext E34).keep K40 (allS g36 all0))
        have k45 := ((V_w9_TYPES.ext E34).keep K40 (ninS ne35 nin0))
        obtain ⟨cq43, kq43, q43a, q43b, q43c⟩ := isOf hZ rfl po40_0
        obtain ⟨_, _, ⟨T43, L43, k43, n43⟩, -, X43, ⟨Lc43, hQ43, l43, y43, z43⟩, st43⟩ := X40.virtualBack hx (y := (⟨"com/example/ashlar/ashlar/pack/EntryHeader", "objectType", "()Lcom/example/ashlar/ashlar/ObjectType;"⟩ : MethodName)) (z := (⟨"com/example/ashlar/ashlar/pack/EntryHeader", "objectType", "()Lcom/example/ashlar/ashlar/ObjectType;"⟩ : MethodName)) hown (mvT hZ (hw _ (List.mem_of_getElem? (i := 18) rfl))) (mvT hZ (hw _ (List.mem_of_getElem? (i := 19) rfl))) (notFace_of_selects (args := #[]) (mvT hZ (hw _ (List.mem_of_getElem? (i := 21) rfl)))) (mvT hZ (hw _ (List.mem_of_getElem? (i := 21) rfl))) (mvT hZ (hw _ (List.mem_of_getElem? (i := 20) rfl))) (by decide) (backOf (W := 0) (rmot3 l Z a0 hw [] b34 (v0_2 p0 q1 p2) w9_TYPES w1_COMMIT w2_TREE w3_BLOB w4_TAG kA T40.heap n0 z41 po40_1 (Sta.ext O44.2 S_TYPES) k45 c33) hZ (hw _ (List.mem_of_getElem? (i := 22) rfl)) (hw _ (List.mem_of_getElem? (i := 2) rfl)) (by decide) (by decide)) q43a q43c (g := (mkF m 29 #[.val (.int p0), .val (.long q1), .second, .val (.int p2), .val (.int (v0_2 p0 q1 p2)), .unset] [(.ref b34)])) rfl (by rw [hml]; rfl) (Steps.refl _) (argsL := []) (rest := []) (lenOf pd___Lcom_example_ashlar_ashlar_ObjectType_ rfl) rfl (by show 2 * 0 + _ ≤ _; exact Nat.le_of_eq rfl) (hb hby at_29) (fun _ _ => ⟨rfl, rfl, (by decide : 1 + 0 ≤ _), (by decide : 2 + 0 ≤ _)⟩)
        dsimp only [Pt.U, Pt.locs, Pt.cells, Pt.slots] at X43 l43 y43 z43 st43 hQ43
        subst l43 y43 z43
        obtain ⟨N43q, rfl, e43⟩ := hQ43
        have N43 := Fr.app N40 N43q
        obtain ⟨_, _, ⟨T46, L46, k46, n46⟩, -, X46, ⟨Lc46, hQ46, l46, y46, z46⟩, st46⟩ := Jvm.LawKit.callS X43 hx (y := (⟨"com/example/ashlar/ashlar/pack/EntryHeaderObjectTypePinLaw", "expected", "(I)Lcom/example/ashlar/ashlar/ObjectType;"⟩ : MethodName)) hown (mvT hZ (hw _ (List.mem_of_getElem? (i := 25) rfl))) (mvT hZ (hw _ (List.mem_of_getElem? (i := 26) rfl))) (mvT hZ (hw _ (List.mem_of_getElem? (i := 27) rfl))) (mvT hZ (hw _ (List.mem_of_getElem? (i := 28) rfl))) (by decide) (backOf (W := 1) (rmex3 l Z a0 hw [] (v0_2 p0 q1 p2) w3_BLOB T40.heap n0 z41 c5 c19 c33 (Sta.ext O44.2 S_BLOB)) hZ (hw _ (List.mem_of_getElem? (i := 28) rfl)) (hw _ (List.mem_of_getElem? (i := 27) rfl)) (by decide) (by decide)) (g := (mkF m 38 #[.val (.int p0), .val (.long q1), .second, .val (.int p2), .val (.int (v0_2 p0 q1 p2)), .val (.ref w3_BLOB)] [(.int (v0_2 p0 q1 p2)), (.ref w3_BLOB)])) rfl (by rw [hml]; rfl) (argsL := [(.int (v0_2 p0 q1 p2))]) (rest := [(.ref w3_BLOB)]) (lenOf pd__I_Lcom_example_ashlar_ashlar_ObjectType_ rfl) rfl (by show 2 * 0 + _ ≤ _; exact Nat.le_of_eq rfl) (hb hby at_38) (fun _ _ => ⟨rfl, e43, (by decide : 1 + 0 ≤ _), (by decide : 2 + 0 ≤ _)⟩)
        dsimp only [Pt.U, Pt.locs, Pt.cells, Pt.slots] at X46 l46 y46 z46 st46 hQ46
        subst l46 y46 z46
        obtain ⟨N46q, rfl, e46⟩ := hQ46
        have N46 := Fr.app N43 N46q
        obtain ⟨fs, hr, hrun, hended, hW, hsame⟩ := X46.leave (v := some (.int (1 : Int32))) (fun h => by rw [Bd.returns] at h; cases h)
        refine ⟨_, _, pre4 _ ?_, hrun, hended, _, _, rfl, ?_, ⟨_, rfl⟩, hW, hsame.mono (by decide) (by decide)⟩
        · skip
          show Steps p.tables e below (s₁.setTop (mkF m 19 #[.val (.int p0), .val (.long q1), .second, .val (.int p2), .val (.int (v0_2 p0 q1 p2)), .unset] [])) _
          refine st34 _ ?_
          show Steps p.tables e below (T34.setTop (mkF m 22 #[.val (.int p0), .val (.long q1), .second, .val (.int p2), .val (.int (v0_2 p0 q1 p2)), .unset] [(.ref b34)])) _
          refine XS.dup X34.here hx rfl (hb hby at_22) rfl rfl ?_
          show Steps p.tables e below (T34.setTop (mkF m 23 #[.val (.int p0), .val (.long q1), .second, .val (.int p2), .val (.int (v0_2 p0 q1 p2)), .unset] [(.ref b34), (.ref b34)])) _
          refine XS.iload X34.here hx rfl (hb hby at_23) rfl ?_
          show Steps p.tables e below (T34.setTop (mkF m 25 #[.val (.int p0), .val (.long q1), .second, .val (.int p2), .val (.int (v0_2 p0 q1 p2)), .unset] [(.int (v0_2 p0 q1 p2)), (.ref b34), (.ref b34)])) _
          refine XT.lloadN X34.here hx rfl (hb hby at_25) rfl ?_
          show Steps p.tables e below (T34.setTop (mkF m 26 #[.val (.int p0), .val (.long q1), .second, .val (.int p2), .val (.int (v0_2 p0 q1 p2)), .unset] [(.long q1), (.int (v0_2 p0 q1 p2)), (.ref b34), (.ref b34)])) _
          refine st40.trans ?_
          show Steps p.tables e below (T40.setTop (mkF m 29 #[.val (.int p0), .val (.long q1), .second, .val (.int p2), .val (.int (v0_2 p0 q1 p2)), .unset] [(.ref b34)])) _
          refine st43.trans ?_
          show Steps p.tables e below (T43.setTop (mkF m 32 #[.val (.int p0), .val (.long q1), .second, .val (.int p2), .val (.int (v0_2 p0 q1 p2)), .unset] [(.ref w3_BLOB)])) _
          refine XS.astore X43.here hx rfl (hb hby at_32) rfl rfl (l' := #[.val (.int p0), .val (.long q1), .second, .val (.int p2), .val (.int (v0_2 p0 q1 p2)), .val (.ref w3_BLOB)]) rfl ?_
          show Steps p.tables e below (T43.setTop (mkF m 34 #[.val (.int p0), .val (.long q1), .second, .val (.int p2), .val (.int (v0_2 p0 q1 p2)), .val (.ref w3_BLOB)] [])) _
          refine XS.aload X43.here hx rfl (hb hby at_34) rfl rfl ?_
          show Steps p.tables e below (T43.setTop (mkF m 36 #[.val (.int p0), .val (.long q1), .second, .val (.int p2), .val (.int (v0_2 p0 q1 p2)), .val (.ref w3_BLOB)] [(.ref w3_BLOB)])) _
          refine XS.iload X43.here hx rfl (hb hby at_36) rfl ?_
          show Steps p.tables e below (T43.setTop (mkF m 38 #[.val (.int p0), .val (.long q1), .second, .val (.int p2), .val (.int (v0_2 p0 q1 p2)), .val (.ref w3_BLOB)] [(.int (v0_2 p0 q1 p2)), (.ref w3_BLOB)])) _
          refine st46 _ ?_
          show Steps p.tables e below (T46.setTop (mkF m 41 #[.val (.int p0), .val (.long q1), .second, .val (.int p2), .val (.int (v0_2 p0 q1 p2)), .val (.ref w3_BLOB)] [(.ref w3_BLOB), (.ref w3_BLOB)])) _
          refine XT.acmpNo X46.here hx rfl (hb hby at_41) rfl rfl rfl (XT.aa_ne_f rfl) ?_
          show Steps p.tables e below (T46.setTop (mkF m 44 #[.val (.int p0), .val (.long q1), .second, .val (.int p2), .val (.int (v0_2 p0 q1 p2)), .val (.ref w3_BLOB)] [])) _
          refine XT.iconstV X46.here hx rfl (1 : Int32) (hb hby at_44) (by decide) ?_
          show Steps p.tables e below (T46.setTop (mkF m 45 #[.val (.int p0), .val (.long q1), .second, .val (.int p2), .val (.int (v0_2 p0 q1 p2)), .val (.ref w3_BLOB)] [(.int (1 : Int32))])) _
          refine XS.goto X46.here hx rfl (pc0 := 45) (pc' := 49) rfl (hb hby at_45) (by decide) (by decide) ?_
          show Steps p.tables e below (T46.setTop (mkF m 49 #[.val (.int p0), .val (.long q1), .second, .val (.int p2), .val (.int (v0_2 p0 q1 p2)), .val (.ref w3_BLOB)] [(.int (1 : Int32))])) _
          exact retN X46 hx (t := .boolean) Bd.returns (by simp) (hb hby at_49) hr
        · skip
          show Q0 Z p0 q1 p2 w1_COMMIT w2_TREE w3_BLOB w4_TAG w9_TYPES kA h0 n0 _ T46.heap _
          rw [e46]
          exact ⟨rfl, N46⟩
      · skip
        by_cases c47 : (v0_2 p0 q1 p2) = (4 : Int32)
        · skip
          obtain ⟨T48, h48, X48, e48, E48, A48, D48, -, st48⟩ := newO X0 hx hZ hown (hw _ (List.mem_of_getElem? (i := 0) rfl)) (hw _ (List.mem_of_getElem? (i := 1) rfl)) (hw _ (List.mem_of_getElem? (i := 2) rfl)) e0 (g := (mkF m 19 #[.val (.int p0), .val (.long q1), .second, .val (.int p2), .val (.int (v0_2 p0 q1 p2)), .unset] [])) rfl (hb hby at_19) (by decide) (by decide)
          obtain ⟨b48, gz48⟩ : ∃ z, z = h0.size := ⟨_, rfl⟩
          rw [← gz48] at A48 D48 st48
          have ne49 : w9_TYPES ≠ b48 := Nat.ne_of_lt (Nat.lt_of_lt_of_le V_w9_TYPES.lt (Nat.le_of_eq gz48.symm))
          have g50 : n0 ≤ b48 := Nat.le_trans Z0 (Nat.le_of_eq gz48.symm)
          have sz51 : h0.size ≤ b48 := Nat.le_trans (Nat.le_refl h0.size) (Nat.le_of_eq gz48.symm)
          have z52 : n0 ≤ h48.size := Nat.le_trans Z0 E48.1
          have hs53 : h0.size ≤ h48.size := Nat.le_trans (Nat.le_refl h0.size) E48.1
          have F48_code : Fld Z h48 b48 "com/example/ashlar/ashlar/pack/EntryHeader" "code" "I" (.int (0 : Int32)) := D48 (Or.inr (hw _ (List.mem_of_getElem? (i := 15) rfl))) (ty := .int) (by decide)
          have F48_size : Fld Z h48 b48 "com/example/ashlar/ashlar/pack/EntryHeader" "size" "J" (.long (0 : Int64)) := D48 (Or.inr (hw _ (List.mem_of_getElem? (i := 17) rfl))) (ty := .long) (by decide)
          obtain ⟨_, _, ⟨T54, L54, k54, n54⟩, -, X54, ⟨Lc54, hQ54, l54, y54, z54⟩, st54⟩ := X48.specialBack hx (y := (⟨"com/example/ashlar/ashlar/pack/EntryHeader", "<init>", "(IJ)V"⟩ : MethodName)) rfl hown (mvT hZ (hw _ (List.mem_of_getElem? (i := 3) rfl))) (mvT hZ (hw _ (List.mem_of_getElem? (i := 4) rfl))) (mvT hZ (hw _ (List.mem_of_getElem? (i := 5) rfl))) (by decide) (backOf (W := 1) (rm1 l Z a0 hw [] b48 (v0_2 p0 q1 p2) q1 (.int (0 : Int32)) (.long (0 : Int64)) h48 n0 z52 A48 F48_code g50 F48_size) hZ (hw _ (List.mem_of_getElem? (i := 5) rfl)) (hw _ (List.mem_of_getElem? (i := 2) rfl)) (by decide) (by decide)) (g := (mkF m 26 #[.val (.int p0), .val (.long q1), .second, .val (.int p2), .val (.int (v0_2 p0 q1 p2)), .unset] [(.long q1), (.int (v0_2 p0 q1 p2)), (.ref b48), (.ref b48)])) rfl (by rw [hml]; rfl) (Steps.refl _) (a := b48) (argsL := [(.int (v0_2 p0 q1 p2)), (.long q1)]) (rest := [(.ref b48)]) (lenOf pd__IJ_V rfl) rfl (by show 2 * 0 + _ ≤ _; exact Nat.le_of_eq rfl) (hb hby at_26) (fun _ _ => ⟨rfl, e48, (by decide : 1 + 0 ≤ _), (by decide : 2 + 0 ≤ _)⟩)
          dsimp only [Pt.U, Pt.locs, Pt.cells, Pt.slots] at X54 l54 y54 z54 st54 hQ54
          subst l54 y54 z54
          obtain ⟨N54q, rfl, K54, po54_0, po54_1, po54_2⟩ := hQ54
          have z55 : n0 ≤ T54.heap.size := Nat.le_trans z52 K54.1
          have hs56 : h0.size ≤ T54.heap.size := Nat.le_trans hs53 K54.1
          have N54 := Fr.app N0 N54q
          have O58 := ((O0.ext E48).keep K54 (allS g50 all0))
          have k59 := ((V_w9_TYPES.ext E48).keep K54 (ninS ne49 nin0))
          obtain ⟨cq57, kq57, q57a, q57b, q57c⟩ := isOf hZ rfl po54_0
          obtain ⟨_, _, ⟨T57, L57, k57, n57⟩, -, X57, ⟨Lc57, hQ57, l57, y57, z57⟩, st57⟩ := X54.virtualBack hx (y := (⟨"com/example/ashlar/ashlar/pack/EntryHeader", "objectType", "()Lcom/example/ashlar/ashlar/ObjectType;"⟩ : MethodName)) (z := (⟨"com/example/ashlar/ashlar/pack/EntryHeader", "objectType", "()Lcom/example/ashlar/ashlar/ObjectType;"⟩ : MethodName)) hown (mvT hZ (hw _ (List.mem_of_getElem? (i := 18) rfl))) (mvT hZ (hw _ (List.mem_of_getElem? (i := 19) rfl))) (notFace_of_selects (args := #[]) (mvT hZ (hw _ (List.mem_of_getElem? (i := 21) rfl)))) (mvT hZ (hw _ (List.mem_of_getElem? (i := 21) rfl))) (mvT hZ (hw _ (List.mem_of_getElem? (i := 20) rfl))) (by decide) (backOf (W := 0) (rmot4 l Z a0 hw [] b48 (v0_2 p0 q1 p2) w9_TYPES w1_COMMIT w2_TREE w3_BLOB w4_TAG kA T54.heap n0 z55 po54_1 (Sta.ext O58.2 S_TYPES) k59 c47) hZ (hw _ (List.mem_of_getElem? (i := 22) rfl)) (hw _ (List.mem_of_getElem? (i := 2) rfl)) (by decide) (by decide)) q57a q57c (g := (mkF m 29 #[.val (.int p0), .val (.long q1), .second, .val (.int p2), .val (.int (v0_2 p0 q1 p2)), .unset] [(.ref b48)])) rfl (by rw [hml]; rfl) (Steps.refl _) (argsL := []) (rest := []) (lenOf pd___Lcom_example_ashlar_ashlar_ObjectType_ rfl) rfl (by show 2 * 0 + _ ≤ _; exact Nat.le_of_eq rfl) (hb hby at_29) (fun _ _ => ⟨rfl, rfl, (by decide : 1 + 0 ≤ _), (by decide : 2 + 0 ≤ _)⟩)
          dsimp only [Pt.U, Pt.locs, Pt.cells, Pt.slots] at X57 l57 y57 z57 st57 hQ57
          subst l57 y57 z57
          obtain ⟨N57q, rfl, e57⟩ := hQ57
          have N57 := Fr.app N54 N57q
          obtain ⟨_, _, ⟨T60, L60, k60, n60⟩, -, X60, ⟨Lc60, hQ60, l60, y60, z60⟩, st60⟩ := Jvm.LawKit.callS X57 hx (y := (⟨"com/example/ashlar/ashlar/pack/EntryHeaderObjectTypePinLaw", "expected", "(I)Lcom/example/ashlar/ashlar/ObjectType;"⟩ : MethodName)) hown (mvT hZ (hw _ (List.mem_of_getElem? (i := 25) rfl))) (mvT hZ (hw _ (List.mem_of_getElem? (i := 26) rfl))) (mvT hZ (hw _ (List.mem_of_getElem? (i := 27) rfl))) (mvT hZ (hw _ (List.mem_of_getElem? (i := 28) rfl))) (by decide) (backOf (W := 1) (rmex4 l Z a0 hw [] (v0_2 p0 q1 p2) w4_TAG T54.heap n0 z55 c5 c19 c33 c47 (Sta.ext O58.2 S_TAG)) hZ (hw _ (List.mem_of_getElem? (i := 28) rfl)) (hw _ (List.mem_of_getElem? (i := 27) rfl)) (by decide) (by decide)) (g := (mkF m 38 #[.val (.int p0), .val (.long q1), .second, .val (.int p2), .val (.int (v0_2 p0 q1 p2)), .val (.ref w4_TAG)] [(.int (v0_2 p0 q1 p2)), (.ref w4_TAG)])) rfl (by rw [hml]; rfl) (argsL := [(.int (v0_2 p0 q1 p2))]) (rest := [(.ref w4_TAG)]) (lenOf pd__I_Lcom_example_ashlar_ashlar_ObjectType_ rfl) rfl (by show 2 * 0 + _ ≤ _; exact Nat.le_of_eq rfl) (hb hby at_38) (fun _ _ => ⟨rfl, e57, (by decide : 1 + 0 ≤ _), (by decide : 2 + 0 ≤ _)⟩)
          dsimp only [Pt.U, Pt.locs, Pt.cells, Pt.slots] at X60 l60 y60 z60 st60 hQ60
          subst l60 y60 z60
          obtain ⟨N60q, rfl, e60⟩ := hQ60
          have N60 := Fr.app N57 N60q
          obtain ⟨fs, hr, hrun, hended, hW, hsame⟩ := X60.leave (v := some (.int (1 : Int32))) (fun h => by rw [Bd.returns] at h; cases h)
          refine ⟨_, _, pre4 _ ?_, hrun, hended, _, _, rfl, ?_, ⟨_, rfl⟩, hW, hsame.mono (by decide) (by decide)⟩
          · skip
            show Steps p.tables e below (s₁.setTop (mkF m 19 #[.val (.int p0), .val (.long q1), .second, .val (.int p2), .val (.int (v0_2 p0 q1 p2)), .unset] [])) _
            refine st48 _ ?_
            show Steps p.tables e below (T48.setTop (mkF m 22 #[.val (.int p0), .val (.long q1), .second, .val (.int p2), .val (.int (v0_2 p0 q1 p2)), .unset] [(.ref b48)])) _
            refine XS.dup X48.here hx rfl (hb hby at_22) rfl rfl ?_
            show Steps p.tables e below (T48.setTop (mkF m 23 #[.val (.int p0), .val (.long q1), .second, .val (.int p2), .val (.int (v0_2 p0 q1 p2)), .unset] [(.ref b48), (.ref b48)])) _
            refine XS.iload X48.here hx rfl (hb hby at_23) rfl ?_
            show Steps p.tables e below (T48.setTop (mkF m 25 #[.val (.int p0), .val (.long q1), .second, .val (.int p2), .val (.int (v0_2 p0 q1 p2)), .unset] [(.int (v0_2 p0 q1 p2)), (.ref b48), (.ref b48)])) _
            refine XT.lloadN X48.here hx rfl (hb hby at_25) rfl ?_
            show Steps p.tables e below (T48.setTop (mkF m 26 #[.val (.int p0), .val (.long q1), .second, .val (.int p2), .val (.int (v0_2 p0 q1 p2)), .unset] [(.long q1), (.int (v0_2 p0 q1 p2)), (.ref b48), (.ref b48)])) _
            refine st54.trans ?_
            show Steps p.tables e below (T54.setTop (mkF m 29 #[.val (.int p0), .val (.long q1), .second, .val (.int p2), .val (.int (v0_2 p0 q1 p2)), .unset] [(.ref b48)])) _
            refine st57.trans ?_
            show Steps p.tables e below (T57.setTop (mkF m 32 #[.val (.int p0), .val (.long q1), .second, .val (.int p2), .val (.int (v0_2 p0 q1 p2)), .unset] [(.ref w4_TAG)])) _
            refine XS.astore X57.here hx rfl (hb hby at_32) rfl rfl (l' := #[.val (.int p0), .val (.long q1), .second, .val (.int p2), .val (.int (v0_2 p0 q1 p2)), .val (.ref w4_TAG)]) rfl ?_
            show Steps p.tables e below (T57.setTop (mkF m 34 #[.val (.int p0), .val (.long q1), .second, .val (.int p2), .val (.int (v0_2 p0 q1 p2)), .val (.ref w4_TAG)] [])) _
            refine XS.aload X57.here hx rfl (hb hby at_34) rfl rfl ?_
            show Steps p.tables e below (T57.setTop (mkF m 36 #[.val (.int p0), .val (.long q1), .second, .val (.int p2), .val (.int (v0_2 p0 q1 p2)), .val (.ref w4_TAG)] [(.ref w4_TAG)])) _
            refine XS.iload X57.here hx rfl (hb hby at_36) rfl ?_
            show Steps p.tables e below (T57.setTop (mkF m 38 #[.val (.int p0), .val (.long q1), .second, .val (.int p2), .val (.int (v0_2 p0 q1 p2)), .val (.ref w4_TAG)] [(.int (v0_2 p0 q1 p2)), (.ref w4_TAG)])) _
            refine st60 _ ?_
            show Steps p.tables e below (T60.setTop (mkF m 41 #[.val (.int p0), .val (.long q1), .second, .val (.int p2), .val (.int (v0_2 p0 q1 p2)), .val (.ref w4_TAG)] [(.ref w4_TAG), (.ref w4_TAG)])) _
            refine XT.acmpNo X60.here hx rfl (hb hby at_41) rfl rfl rfl (XT.aa_ne_f rfl) ?_
            show Steps p.tables e below (T60.setTop (mkF m 44 #[.val (.int p0), .val (.long q1), .second, .val (.int p2), .val (.int (v0_2 p0 q1 p2)), .val (.ref w4_TAG)] [])) _
            refine XT.iconstV X60.here hx rfl (1 : Int32) (hb hby at_44) (by decide) ?_
            show Steps p.tables e below (T60.setTop (mkF m 45 #[.val (.int p0), .val (.long q1), .second, .val (.int p2), .val (.int (v0_2 p0 q1 p2)), .val (.ref w4_TAG)] [(.int (1 : Int32))])) _
            refine XS.goto X60.here hx rfl (pc0 := 45) (pc' := 49) rfl (hb hby at_45) (by decide) (by decide) ?_
            show Steps p.tables e below (T60.setTop (mkF m 49 #[.val (.int p0), .val (.long q1), .second, .val (.int p2), .val (.int (v0_2 p0 q1 p2)), .val (.ref w4_TAG)] [(.int (1 : Int32))])) _
            exact retN X60 hx (t := .boolean) Bd.returns (by simp) (hb hby at_49) hr
          · skip
            show Q0 Z p0 q1 p2 w1_COMMIT w2_TREE w3_BLOB w4_TAG w9_TYPES kA h0 n0 _ T60.heap _
            rw [e60]
            exact ⟨rfl, N60⟩
        · skip
          by_cases c61 : (v0_2 p0 q1 p2) = (0 : Int32)
          · skip
            obtain ⟨T62, h62, X62, e62, E62, A62, D62, -, st62⟩ := newO X0 hx hZ hown (hw _ (List.mem_of_getElem? (i := 0) rfl)) (hw _ (List.mem_of_getElem? (i := 1) rfl)) (hw _ (List.mem_of_getElem? (i := 2) rfl)) e0 (g := (mkF m 19 #[.val (.int p0), .val (.long q1), .second, .val (.int p2), .val (.int (v0_2 p0 q1 p2)), .unset] [])) rfl (hb hby at_19) (by decide) (by decide)
            obtain ⟨b62, gz62⟩ : ∃ z, z = h0.size := ⟨_, rfl⟩
            rw [← gz62] at A62 D62 st62
            have ne63 : w9_TYPES ≠ b62 := Nat.ne_of_lt (Nat.lt_of_lt_of_le V_w9_TYPES.lt (Nat.le_of_eq gz62.symm))
            have g64 : n0 ≤ b62 := Nat.le_trans Z0 (Nat.le_of_eq gz62.symm)
            have sz65 : h0.size ≤ b62 := Nat.le_trans (Nat.le_refl h0.size) (Nat.le_of_eq gz62.symm)
            have z66 : n0 ≤ h62.size := Nat.le_trans Z0 E62.1
            have hs67 : h0.size ≤ h62.size := Nat.le_trans (Nat.le_refl h0.size) E62.1
            have F62_code : Fld Z h62 b62 "com/example/ashlar/ashlar/pack/EntryHeader" "code" "I" (.int (0 : Int32)) := D62 (Or.inr (hw _ (List.mem_of_getElem? (i := 15) rfl))) (ty := .int) (by decide)
            have F62_size : Fld Z h62 b62 "com/example/ashlar/ashlar/pack/EntryHeader" "size" "J" (.long (0 : Int64)) := D62 (Or.inr (hw _ (List.mem_of_getElem? (i := 17) rfl))) (ty := .long) (by decide)
            obtain ⟨_, _, ⟨T68, L68, k68, n68⟩, -, X68, ⟨Lc68, hQ68, l68, y68, z68⟩, st68⟩ := X62.specialBack hx (y := (⟨"com/example/ashlar/ashlar/pack/EntryHeader", "<init>", "(IJ)V"⟩ : MethodName)) rfl hown (mvT hZ (hw _ (List.mem_of_getElem? (i := 3) rfl))) (mvT hZ (hw _ (List.mem_of_getElem? (i := 4) rfl))) (mvT hZ (hw _ (List.mem_of_getElem? (i := 5) rfl))) (by decide) (backOf (W := 1) (rm1 l Z a0 hw [] b62 (v0_2 p0 q1 p2) q1 (.int (0 : Int32)) (.long (0 : Int64)) h62 n0 z66 A62 F62_code g64 F62_size) hZ (hw _ (List.mem_of_getElem? (i := 5) rfl)) (hw _ (List.mem_of_getElem? (i := 2) rfl)) (by decide) (by decide)) (g := (mkF m 26 #[.val (.int p0), .val (.long q1), .second, .val (.int p2), .val (.int (v0_2 p0 q1 p2)), .unset] [(.long q1), (.int (v0_2 p0 q1 p2)), (.ref b62), (.ref b62)])) rfl (by rw [hml]; rfl) (Steps.refl _) (a := b62) (argsL := [(.int (v0_2 p0 q1 p2)), (.long q1)]) (rest := [(.ref b62)]) (lenOf pd__IJ_V rfl) rfl (by show 2 * 0 + _ ≤ _; exact Nat.le_of_eq rfl) (hb hby at_26) (fun _ _ => ⟨rfl, e62, (by decide : 1 + 0 ≤ _), (by decide : 2 + 0 ≤ _)⟩)
            dsimp only [Pt.U, Pt.locs, Pt.cells, Pt.slots] at X68 l68 y68 z68 st68 hQ68
            subst l68 y68 z68
            obtain ⟨N68q, rfl, K68, po68_0, po68_1, po68_2⟩ := hQ68
            have z69 : n0 ≤ T68.heap.size := Nat.le_trans z66 K68.1
            have hs70 : h0.size ≤ T68.heap.size := Nat.le_trans hs67 K68.1
            have N68 := Fr.app N0 N68q
            have O72 := ((O0.ext E62).keep K68 (allS g64 all0))
            have k73 := ((V_w9_TYPES.ext E62).keep K68 (ninS ne63 nin0))
            obtain ⟨cq71, kq71, q71a, q71b, q71c⟩ := isOf hZ rfl po68_0
            obtain ⟨_, _, ⟨T71, L71, k71, n71⟩, -, X71, ⟨Lc71, hQ71, l71, y71, z71⟩, st71⟩ := X68.virtualBack hx (y := (⟨"com/example/ashlar/ashlar/pack/EntryHeader", "objectType", "()Lcom/example/ashlar/ashlar/ObjectType;"⟩ : MethodName)) (z := (⟨"com/example/ashlar/ashlar/pack/EntryHeader", "objectType", "()Lcom/example/ashlar/ashlar/ObjectType;"⟩ : MethodName)) hown (mvT hZ (hw _ (List.mem_of_getElem? (i := 18) rfl))) (mvT hZ (hw _ (List.mem_of_getElem? (i := 19) rfl))) (notFace_of_selects (args := #[]) (mvT hZ (hw _ (List.mem_of_getElem? (i := 21) rfl)))) (mvT hZ (hw _ (List.mem_of_getElem? (i := 21) rfl))) (mvT hZ (hw _ (List.mem_of_getElem? (i := 20) rfl))) (by decide) (backOf (W := 0) (rmot0 l Z a0 hw [] b62 (v0_2 p0 q1 p2) w9_TYPES w1_COMMIT w2_TREE w3_BLOB w4_TAG kA T68.heap n0 z69 po68_1 (Sta.ext O72.2 S_TYPES) k73 c61) hZ (hw _ (List.mem_of_getElem? (i := 22) rfl)) (hw _ (List.mem_of_getElem? (i := 2) rfl)) (by decide) (by decide)) q71a q71c (g := (mkF m 29 #[.val (.int p0), .val (.long q1), .second, .val (.int p2), .val (.int (v0_2 p0 q1 p2)), .unset] [(.ref b62)])) rfl (by rw [hml]; rfl) (Steps.refl _) (argsL := []) (rest := []) (lenOf pd___Lcom_example_ashlar_ashlar_ObjectType_ rfl) rfl (by show 2 * 0 + _ ≤ _; exact Nat.le_of_eq rfl) (hb hby at_29) (fun _ _ => ⟨rfl, rfl, (by decide : 1 + 0 ≤ _), (by decide : 2 + 0 ≤ _)⟩)
            dsimp only [Pt.U, Pt.locs, Pt.cells, Pt.slots] at X71 l71 y71 z71 st71 hQ71
            subst l71 y71 z71
            obtain ⟨N71q, rfl, e71⟩ := hQ71
            have N71 := Fr.app N68 N71q
            obtain ⟨_, _, ⟨T74, L74, k74, n74⟩, -, X74, ⟨Lc74, hQ74, l74, y74, z74⟩, st74⟩ := Jvm.LawKit.callS X71 hx (y := (⟨"com/example/ashlar/ashlar/pack/EntryHeaderObjectTypePinLaw", "expected", "(I)Lcom/example/ashlar/ashlar/ObjectType;"⟩ : MethodName)) hown (mvT hZ (hw _ (List.mem_of_getElem? (i := 25) rfl))) (mvT hZ (hw _ (List.mem_of_getElem? (i := 26) rfl))) (mvT hZ (hw _ (List.mem_of_getElem? (i := 27) rfl))) (mvT hZ (hw _ (List.mem_of_getElem? (i := 28) rfl))) (by decide) (backOf (W := 1) (rmex0 l Z a0 hw [] (v0_2 p0 q1 p2) T68.heap n0 z69 c5 c19 c33 c47) hZ (hw _ (List.mem_of_getElem? (i := 28) rfl)) (hw _ (List.mem_of_getElem? (i := 27) rfl)) (by decide) (by decide)) (g := (mkF m 38 #[.val (.int p0), .val (.long q1), .second, .val (.int p2), .val (.int (v0_2 p0 q1 p2)), .val .null] [(.int (v0_2 p0 q1 p2)), .null])) rfl (by rw [hml]; rfl) (argsL := [(.int (v0_2 p0 q1 p2))]) (rest := [.null]) (lenOf pd__I_Lcom_example_ashlar_ashlar_ObjectType_ rfl) rfl (by show 2 * 0 + _ ≤ _; exact Nat.le_of_eq rfl) (hb hby at_38) (fun _ _ => ⟨rfl, e71, (by decide : 1 + 0 ≤ _), (by decide : 2 + 0 ≤ _)⟩)
            dsimp only [Pt.U, Pt.locs, Pt.cells, Pt.slots] at X74 l74 y74 z74 st74 hQ74
            subst l74 y74 z74
            obtain ⟨N74q, rfl, e74⟩ := hQ74
            have N74 := Fr.app N71 N74q
            obtain ⟨fs, hr, hrun, hended, hW, hsame⟩ := X74.leave (v := some (.int (1 : Int32))) (fun h => by rw [Bd.returns] at h; cases h)
            refine ⟨_, _, pre4 _ ?_, hrun, hended, _, _, rfl, ?_, ⟨_, rfl⟩, hW, hsame.mono (by decide) (by decide)⟩
            · skip
              show Steps p.tables e below (s₁.setTop (mkF m 19 #[.val (.int p0), .val (.long q1), .second, .val (.int p2), .val (.int (v0_2 p0 q1 p2)), .unset] [])) _
              refine st62 _ ?_
              show Steps p.tables e below (T62.setTop (mkF m 22 #[.val (.int p0), .val (.long q1), .second, .val (.int p2), .val (.int (v0_2 p0 q1 p2)), .unset] [(.ref b62)])) _
              refine XS.dup X62.here hx rfl (hb hby at_22) rfl rfl ?_
              show Steps p.tables e below (T62.setTop (mkF m 23 #[.val (.int p0), .val (.long q1), .second, .val (.int p2), .val (.int (v0_2 p0 q1 p2)), .unset] [(.ref b62), (.ref b62)])) _
              refine XS.iload X62.here hx rfl (hb hby at_23) rfl ?_
              show Steps p.tables e below (T62.setTop (mkF m 25 #[.val (.int p0), .val (.long q1), .second, .val (.int p2), .val (.int (v0_2 p0 q1 p2)), .unset] [(.int (v0_2 p0 q1 p2)), (.ref b62), (.ref b62)])) _
              refine XT.lloadN X62.here hx rfl (hb hby at_25) rfl ?_
              show Steps p.tables e below (T62.setTop (mkF m 26 #[.val (.int p0), .val (.long q1), .second, .val (.int p2), .val (.int (v0_2 p0 q1 p2)), .unset] [(.long q1), (.int (v0_2 p0 q1 p2)), (.ref b62), (.ref b62)])) _
              refine st68.trans ?_
              show Steps p.tables e below (T68.setTop (mkF m 29 #[.val (.int p0), .val (.long q1), .second, .val (.int p2), .val (.int (v0_2 p0 q1 p2)), .unset] [(.ref b62)])) _
              refine st71.trans ?_
              show Steps p.tables e below (T71.setTop (mkF m 32 #[.val (.int p0), .val (.long q1), .second, .val (.int p2), .val (.int (v0_2 p0 q1 p2)), .unset] [.null])) _
              refine XS.astore X71.here hx rfl (hb hby at_32) rfl rfl (l' := #[.val (.int p0), .val (.long q1), .second, .val (.int p2), .val (.int (v0_2 p0 q1 p2)), .val .null]) rfl ?_
              show Steps p.tables e below (T71.setTop (mkF m 34 #[.val (.int p0), .val (.long q1), .second, .val (.int p2), .val (.int (v0_2 p0 q1 p2)), .val .null] [])) _
              refine XS.aload X71.here hx rfl (hb hby at_34) rfl rfl ?_
              show Steps p.tables e below (T71.setTop (mkF m 36 #[.val (.int p0), .val (.long q1), .second, .val (.int p2), .val (.int (v0_2 p0 q1 p2)), .val .null] [.null])) _
              refine XS.iload X71.here hx rfl (hb hby at_36) rfl ?_
              show Steps p.tables e below (T71.setTop (mkF m 38 #[.val (.int p0), .val (.long q1), .second, .val (.int p2), .val (.int (v0_2 p0 q1 p2)), .val .null] [(.int (v0_2 p0 q1 p2)), .null])) _
              refine st74 _ ?_
              show Steps p.tables e below (T74.setTop (mkF m 41 #[.val (.int p0), .val (.long q1), .second, .val (.int p2), .val (.int (v0_2 p0 q1 p2)), .val .null] [.null, .null])) _
              refine XT.acmpNo X74.here hx rfl (hb hby at_41) rfl rfl rfl (XT.aa_ne_f rfl) ?_
              show Steps p.tables e below (T74.setTop (mkF m 44 #[.val (.int p0), .val (.long q1), .second, .val (.int p2), .val (.int (v0_2 p0 q1 p2)), .val .null] [])) _
              refine XT.iconstV X74.here hx rfl (1 : Int32) (hb hby at_44) (by decide) ?_
              show Steps p.tables e below (T74.setTop (mkF m 45 #[.val (.int p0), .val (.long q1), .second, .val (.int p2), .val (.int (v0_2 p0 q1 p2)), .val .null] [(.int (1 : Int32))])) _
              refine XS.goto X74.here hx rfl (pc0 := 45) (pc' := 49) rfl (hb hby at_45) (by decide) (by decide) ?_
              show Steps p.tables e below (T74.setTop (mkF m 49 #[.val (.int p0), .val (.long q1), .second, .val (.int p2), .val (.int (v0_2 p0 q1 p2)), .val .null] [(.int (1 : Int32))])) _
              exact retN X74 hx (t := .boolean) Bd.returns (by simp) (hb hby at_49) hr
            · skip
              show Q0 Z p0 q1 p2 w1_COMMIT w2_TREE w3_BLOB w4_TAG w9_TYPES kA h0 n0 _ T74.heap _
              rw [e74]
              exact ⟨rfl, N74⟩
          · skip
            obtain ⟨T75, h75, X75, e75, E75, A75, D75, -, st75⟩ := newO X0 hx hZ hown (hw _ (List.mem_of_getElem? (i := 0) rfl)) (hw _ (List.mem_of_getElem? (i := 1) rfl)) (hw _ (List.mem_of_getElem? (i := 2) rfl)) e0 (g := (mkF m 19 #[.val (.int p0), .val (.long q1), .second, .val (.int p2), .val (.int (v0_2 p0 q1 p2)), .unset] [])) rfl (hb hby at_19) (by decide) (by decide)
            obtain ⟨b75, gz75⟩ : ∃ z, z = h0.size := ⟨_, rfl⟩
            rw [← gz75] at A75 D75 st75
            have ne76 : w9_TYPES ≠ b75 := Nat.ne_of_lt (Nat.lt_of_lt_of_le V_w9_TYPES.lt (Nat.le_of_eq gz75.symm))
            have g77 : n0 ≤ b75 := Nat.le_trans Z0 (Nat.le_of_eq gz75.symm)
            have sz78 : h0.size ≤ b75 := Nat.le_trans (Nat.le_refl h0.size) (Nat.le_of_eq gz75.symm)
            have z79 : n0 ≤ h75.size := Nat.le_trans Z0 E75.1
            have hs80 : h0.size ≤ h75.size := Nat.le_trans (Nat.le_refl h0.size) E75.1
            have F75_code : Fld Z h75 b75 "com/example/ashlar/ashlar/pack/EntryHeader" "code" "I" (.int (0 : Int32)) := D75 (Or.inr (hw _ (List.mem_of_getElem? (i := 15) rfl))) (ty := .int) (by decide)
            have F75_size : Fld Z h75 b75 "com/example/ashlar/ashlar/pack/EntryHeader" "size" "J" (.long (0 : Int64)) := D75 (Or.inr (hw _ (List.mem_of_getElem? (i := 17) rfl))) (ty := .long) (by decide)
            obtain ⟨_, _, ⟨T81, L81, k81, n81⟩, -, X81, ⟨Lc81, hQ81, l81, y81, z81⟩, st81⟩ := X75.specialBack hx (y := (⟨"com/example/ashlar/ashlar/pack/EntryHeader", "<init>", "(IJ)V"⟩ : MethodName)) rfl hown (mvT hZ (hw _ (List.mem_of_getElem? (i := 3) rfl))) (mvT hZ (hw _ (List.mem_of_getElem? (i := 4) rfl))) (mvT hZ (hw _ (List.mem_of_getElem? (i := 5) rfl))) (by decide) (backOf (W := 1) (rm1 l Z a0 hw [] b75 (v0_2 p0 q1 p2) q1 (.int (0 : Int32)) (.long (0 : Int64)) h75 n0 z79 A75 F75_code g77 F75_size) hZ (hw _ (List.mem_of_getElem? (i := 5) rfl)) (hw _ (List.mem_of_getElem? (i := 2) rfl)) (by decide) (by decide)) (g := (mkF m 26 #[.val (.int p0), .val (.long q1), .second, .val (.int p2), .val (.int (v0_2 p0 q1 p2)), .unset] [(.long q1), (.int (v0_2 p0 q1 p2)), (.ref b75), (.ref b75)])) rfl (by rw [hml]; rfl) (Steps.refl _) (a := b75) (argsL := [(.int (v0_2 p0 q1 p2)), (.long q1)]) (rest := [(.ref b75)]) (lenOf pd__IJ_V rfl) rfl (by show 2 * 0 + _ ≤ _; exact Nat.le_of_eq rfl) (hb hby at_26) (fun _ _ => ⟨rfl, e75, (by decide : 1 + 0 ≤ _), (by decide : 2 + 0 ≤ _)⟩)
            dsimp only [Pt.U, Pt.locs, Pt.cells, Pt.slots] at X81 l81 y81 z81 st81 hQ81
            subst l81 y81 z81
            obtain ⟨N81q, rfl, K81, po81_0, po81_1, po81_2⟩ := hQ81
            have z82 : n0 ≤ T81.heap.size := Nat.le_trans z79 K81.1
            have hs83 : h0.size ≤ T81.heap.size := Nat.le_trans hs80 K81.1
            have N81 := Fr.app N0 N81q
            have O85 := ((O0.ext E75).keep K81 (allS g77 all0))
            have k86 := ((V_w9_TYPES.ext E75).keep K81 (ninS ne76 nin0))
            obtain ⟨cq84, kq84, q84a, q84b, q84c⟩ := isOf hZ rfl po81_0
            obtain ⟨_, _, ⟨T84, L84, k84, n84⟩, -, X84, ⟨Lc84, hQ84, l84, y84, z84⟩, st84⟩ := X81.virtualBack hx (y := (⟨"com/example/ashlar/ashlar/pack/EntryHeader", "objectType", "()Lcom/example/ashlar/ashlar/ObjectType;"⟩ : MethodName)) (z := (⟨"com/example/ashlar/ashlar/pack/EntryHeader", "objectType", "()Lcom/example/ashlar/ashlar/ObjectType;"⟩ : MethodName)) hown (mvT hZ (hw _ (List.mem_of_getElem? (i := 18) rfl))) (mvT hZ (hw _ (List.mem_of_getElem? (i := 19) rfl))) (notFace_of_selects (args := #[]) (mvT hZ (hw _ (List.mem_of_getElem? (i := 21) rfl)))) (mvT hZ (hw _ (List.mem_of_getElem? (i := 21) rfl))) (mvT hZ (hw _ (List.mem_of_getElem? (i := 20) rfl))) (by decide) (backOf (W := 0) (rmot5 l Z a0 hw [] b75 (v0_2 p0 q1 p2) w9_TYPES w1_COMMIT w2_TREE w3_BLOB w4_TAG kA T81.heap n0 z82 po81_1 (Sta.ext O85.2 S_TYPES) k86 (own_ge5 p0 q1 p2 c5 c19 c33 c47 c61)) hZ (hw _ (List.mem_of_getElem? (i := 22) rfl)) (hw _ (List.mem_of_getElem? (i := 2) rfl)) (by decide) (by decide)) q84a q84c (g := (mkF m 29 #[.val (.int p0), .val (.long q1), .second, .val (.int p2), .val (.int (v0_2 p0 q1 p2)), .unset] [(.ref b75)])) rfl (by rw [hml]; rfl) (Steps.refl _) (argsL := []) (rest := []) (lenOf pd___Lcom_example_ashlar_ashlar_ObjectType_ rfl) rfl (by show 2 * 0 + _ ≤ _; exact Nat.le_of_eq rfl) (hb hby at_29) (fun _ _ => ⟨rfl, rfl, (by decide : 1 + 0 ≤ _), (by decide : 2 + 0 ≤ _)⟩)
            dsimp only [Pt.U, Pt.locs, Pt.cells, Pt.slots] at X84 l84 y84 z84 st84 hQ84
            subst l84 y84 z84
            obtain ⟨N84q, rfl, e84⟩ := hQ84
            have N84 := Fr.app N81 N84q
            obtain ⟨_, _, ⟨T87, L87, k87, n87⟩, -, X87, ⟨Lc87, hQ87, l87, y87, z87⟩, st87⟩ := Jvm.LawKit.callS X84 hx (y := (⟨"com/example/ashlar/ashlar/pack/EntryHeaderObjectTypePinLaw", "expected", "(I)Lcom/example/ashlar/ashlar/ObjectType;"⟩ : MethodName)) hown (mvT hZ (hw _ (List.mem_of_getElem? (i := 25) rfl))) (mvT hZ (hw _ (List.mem_of_getElem? (i := 26) rfl))) (mvT hZ (hw _ (List.mem_of_getElem? (i := 27) rfl))) (mvT hZ (hw _ (List.mem_of_getElem? (i := 28) rfl))) (by decide) (backOf (W := 1) (rmex0 l Z a0 hw [] (v0_2 p0 q1 p2) T81.heap n0 z82 c5 c19 c33 c47) hZ (hw _ (List.mem_of_getElem? (i := 28) rfl)) (hw _ (List.mem_of_getElem? (i := 27) rfl)) (by decide) (by decide)) (g := (mkF m 38 #[.val (.int p0), .val (.long q1), .second, .val (.int p2), .val (.int (v0_2 p0 q1 p2)), .val .null] [(.int (v0_2 p0 q1 p2)), .null])) rfl (by rw [hml]; rfl) (argsL := [(.int (v0_2 p0 q1 p2))]) (rest := [.null]) (lenOf pd__I_Lcom_example_ashlar_ashlar_ObjectType_ rfl) rfl (by show 2 * 0 + _ ≤ _; exact Nat.le_of_eq rfl) (hb hby at_38) (fun _ _ => ⟨rfl, e84, (by decide : 1 + 0 ≤ _), (by decide : 2 + 0 ≤ _)⟩)
            dsimp only [Pt.U, Pt.locs, Pt.cells, Pt.slots] at X87 l87 y87 z87 st87 hQ87
            subst l87 y87 z87
            obtain ⟨N87q, rfl, e87⟩ := hQ87
            have N87 := Fr.app N84 N87q
            obtain ⟨fs, hr, hrun, hended, hW, hsame⟩ := X87.leave (v := some (.int (1 : Int32))) (fun h => by rw [Bd.returns] at h; cases h)
            refine ⟨_, _, pre4 _ ?_, hrun, hended, _, _, rfl, ?_, ⟨_, rfl⟩, hW, hsame.mono (by decide) (by decide)⟩
            · skip
              show Steps p.tables e below (s₁.setTop (mkF m 19 #[.val (.int p0), .val (.long q1), .second, .val (.int p2), .val (.int (v0_2 p0 q1 p2)), .unset] [])) _
              refine st75 _ ?_
              show Steps p.tables e below (T75.setTop (mkF m 22 #[.val (.int p0), .val (.long q1), .second, .val (.int p2), .val (.int (v0_2 p0 q1 p2)), .unset] [(.ref b75)])) _
              refine XS.dup X75.here hx rfl (hb hby at_22) rfl rfl ?_
              show Steps p.tables e below (T75.setTop (mkF m 23 #[.val (.int p0), .val (.long q1), .second, .val (.int p2), .val (.int (v0_2 p0 q1 p2)), .unset] [(.ref b75), (.ref b75)])) _
              refine XS.iload X75.here hx rfl (hb hby at_23) rfl ?_
              show Steps p.tables e below (T75.setTop (mkF m 25 #[.val (.int p0), .val (.long q1), .second, .val (.int p2), .val (.int (v0_2 p0 q1 p2)), .unset] [(.int (v0_2 p0 q1 p2)), (.ref b75), (.ref b75)])) _
              refine XT.lloadN X75.here hx rfl (hb hby at_25) rfl ?_
              show Steps p.tables e below (T75.setTop (mkF m 26 #[.val (.int p0), .val (.long q1), .second, .val (.int p2), .val (.int (v0_2 p0 q1 p2)), .unset] [(.long q1), (.int (v0_2 p0 q1 p2)), (.ref b75), (.ref b75)])) _
              refine st81.trans ?_
              show Steps p.tables e below (T81.setTop (mkF m 29 #[.val (.int p0), .val (.long q1), .second, .val (.int p2), .val (.int (v0_2 p0 q1 p2)), .unset] [(.ref b75)])) _
              refine st84.trans ?_
              show Steps p.tables e below (T84.setTop (mkF m 32 #[.val (.int p0), .val (.long q1), .second, .val (.int p2), .val (.int (v0_2 p0 q1 p2)), .unset] [.null])) _
              refine XS.astore X84.here hx rfl (hb hby at_32) rfl rfl (l' := #[.val (.int p0), .val (.long q1), .second, .val (.int p2), .val (.int (v0_2 p0 q1 p2)), .val .null]) rfl ?_
              show Steps p.tables e below (T84.setTop (mkF m 34 #[.val (.int p0), .val (.long q1), .second, .val (.int p2), .val (.int (v0_2 p0 q1 p2)), .val .null] [])) _
              refine XS.aload X84.here hx rfl (hb hby at_34) rfl rfl ?_
              show Steps p.tables e below (T84.setTop (mkF m 36 #[.val (.int p0), .val (.long q1), .second, .val (.int p2), .val (.int (v0_2 p0 q1 p2)), .val .null] [.null])) _
              refine XS.iload X84.here hx rfl (hb hby at_36) rfl ?_
              show Steps p.tables e below (T84.setTop (mkF m 38 #[.val (.int p0), .val (.long q1), .second, .val (.int p2), .val (.int (v0_2 p0 q1 p2)), .val .null] [(.int (v0_2 p0 q1 p2)), .null])) _
              refine st87 _ ?_
              show Steps p.tables e below (T87.setTop (mkF m 41 #[.val (.int p0), .val (.long q1), .second, .val (.int p2), .val (.int (v0_2 p0 q1 p2)), .val .null] [.null, .null])) _
              refine XT.acmpNo X87.here hx rfl (hb hby at_41) rfl rfl rfl (XT.aa_ne_f rfl) ?_
              show Steps p.tables e below (T87.setTop (mkF m 44 #[.val (.int p0), .val (.long q1), .second, .val (.int p2), .val (.int (v0_2 p0 q1 p2)), .val .null] [])) _
              refine XT.iconstV X87.here hx rfl (1 : Int32) (hb hby at_44) (by decide) ?_
              show Steps p.tables e below (T87.setTop (mkF m 45 #[.val (.int p0), .val (.long q1), .second, .val (.int p2), .val (.int (v0_2 p0 q1 p2)), .val .null] [(.int (1 : Int32))])) _
              refine XS.goto X87.here hx rfl (pc0 := 45) (pc' := 49) rfl (hb hby at_45) (by decide) (by decide) ?_
              show Steps p.tables e below (T87.setTop (mkF m 49 #[.val (.int p0), .val (.long q1), .second, .val (.int p2), .val (.int (v0_2 p0 q1 p2)), .val .null] [(.int (1 : Int32))])) _
              exact retN X87 hx (t := .boolean) Bd.returns (by simp) (hb hby at_49) hr
            · skip
              show Q0 Z p0 q1 p2 w1_COMMIT w2_TREE w3_BLOB w4_TAG w9_TYPES kA h0 n0 _ T87.heap _
              rw [e87]
              exact ⟨rfl, N87⟩
set_option maxRecDepth 65536 in
set_option maxHeartbeats 40000000 in
theorem comes_1 {Post : Tables → Env → Array Value → State → Outcome → State → Prop} (hpost : ∀ tb e args s v u, (limb_1_1.after args s (.returned v) u = true ∧ limb_1_2.after args s (.returned v) u = true ∧ True) → FrameEnd s (.returned v) u (Jvm.fieldLocs frame_1_writes args s ++ Jvm.arrayLocs frame_1_arrays args s ++ Jvm.staticLocs frame_1_statics s) 16 128 → Post tb e args s (.returned v) u) :
    ArmFor flags0 classFile x code maxLocals ret World_1 tables_1 room_1 Calls_1 rest_1 Pre_1 Post := by
  intro l hfl _ _ p e ha hc hk s m args below hf hA hF happ hP
  obtain ⟨hcalls, hrest, hpre⟩ := hP
  obtain ⟨-, -, -, hnamed, -, -, -, hat⟩ := (Spec.applies_iff hf).mp happ
  obtain ⟨hg, hn⟩ := and_e (Cond.before_iff.mp (show (Jvm.Cond.and given_1 narrow_1).before args s = true from hpre))
  obtain ⟨hcount, r0⟩ := and_e hg
  obtain ⟨ha0, r1⟩ := and_e r0
  obtain ⟨ha1, r2⟩ := and_e r1
  obtain ⟨w0, w1, w2, rfl⟩ : ∃ w0 w1 w2 : Value, args = #[w0, w1, w2] := by
    have hs : args.size = 3 := by simpa [Cond.value, given_1] using hcount
    obtain ⟨L⟩ := args
    match L, hs with
    | [w0, w1, w2], _ => exact ⟨w0, w1, w2, rfl⟩
  have hw := fun d (hd : d ∈ tables_1) => atoms_spec (ws := Jvm.Cond.code x code maxLocals ret :: tables_1) hat d (List.mem_cons_of_mem _ hd)
  have hfit : Fit s := fun {y c} hc i hi => by
    obtain ⟨ha, rfl⟩ := Array.getElem?_eq_some_iff.mp hc
    have q := List.all_eq_true.mp ((Array.all_eq_true_iff_forall_mem.mp hF) _ (Array.getElem_mem ha)) i (List.mem_range.mpr hi)
    simpa [Array.getElem?_eq_getElem hi] using q
  obtain ⟨i0, ei0⟩ := is_v ha0
  obtain rfl : w0 = (.int i0) := Option.some.inj ei0
  obtain ⟨i1, ei1⟩ := isL_v ha1
  obtain rfl : w1 = (.long i1) := Option.some.inj ei1
  obtain ⟨i2, ei2⟩ := is_v r2
  obtain rfl : w2 = (.int i2) := Option.some.inj ei2
  obtain ⟨hArr, n1⟩ := and_e hn
  obtain ⟨hLen, n2⟩ := and_e n1
  obtain ⟨hE0, n3⟩ := and_e n2
  obtain ⟨hC, n4⟩ := and_e n3
  obtain ⟨hE1, n5⟩ := and_e n4
  obtain ⟨hB, n6⟩ := and_e n5
  obtain ⟨hE3, n7⟩ := and_e n6
  obtain ⟨hT, n8⟩ := and_e n7
  obtain ⟨hE2, n9⟩ := and_e n8
  obtain ⟨hG, hE4⟩ := and_e n9
  obtain ⟨aT, eT⟩ := arr_v hArr
  obtain ⟨clT, AT⟩ := Arr.start eT hArr
  obtain ⟨aCx, eCx⟩ := exa_v hC
  obtain ⟨aTx, eTx⟩ := exa_v hT
  obtain ⟨aBx, eBx⟩ := exa_v hB
  obtain ⟨aGx, eGx⟩ := exa_v hG
  have hlen := own_len (Jvm.Free.NT.SwA.eq_int (Cond.before_iff.mpr hLen)) eT AT.1
  have s0 := own_slot (null_v hE0) eT rfl AT.1
  have s1 := own_slot (own_eq_ref hE1 eCx) eT rfl AT.1
  have s2 := own_slot (own_eq_ref hE2 eTx) eT rfl AT.1
  have s3 := own_slot (own_eq_ref hE3 eBx) eT rfl AT.1
  have s4 := own_slot (own_eq_ref hE4 eGx) eT rfl AT.1
  have VT : Arv s s.heap aT clT.cls (.object "com/example/ashlar/ashlar/ObjectType") (5 : Int32) [.null, .ref aCx, .ref aTx, .ref aBx, .ref aGx] .null := Arv.start hfit AT hlen.2 hlen.1 (by decide) rfl ⟨s0, s1, s2, s3, s4, trivial⟩
  have SC := Sta.start eCx (Or.inr ⟨hw _ (List.mem_of_getElem? (i := 30) rfl), hw _ (List.mem_of_getElem? (i := 31) rfl)⟩)
  have S_T := Sta.start eTx (Or.inr ⟨hw _ (List.mem_of_getElem? (i := 30) rfl), hw _ (List.mem_of_getElem? (i := 35) rfl)⟩)
  have SB := Sta.start eBx (Or.inr ⟨hw _ (List.mem_of_getElem? (i := 30) rfl), hw _ (List.mem_of_getElem? (i := 33) rfl)⟩)
  have SG := Sta.start eGx (Or.inr ⟨hw _ (List.mem_of_getElem? (i := 30) rfl), hw _ (List.mem_of_getElem? (i := 37) rfl)⟩)
  have ST := Sta.start eT (Or.inr ⟨hw _ (List.mem_of_getElem? (i := 2) rfl), hw _ (List.mem_of_getElem? (i := 24) rfl)⟩)
  obtain ⟨n, o, h1, h2, h3, _, L, rfl, ⟨rfl, N⟩, hq⟩ := rm0 l s _ hw tables_1 i0 i1 i2 aCx aTx aBx aGx aT clT.cls s.heap s.heap.size (Nat.le_refl _) (Old.start s) SC S_T SB SG ST VT p e ha hc hk s m _ below hf ((Spec.applies_iff_loose hf).mp happ).1 ⟨rfl, State.Warmed39.refl s, rfl⟩ trivial
  refine ⟨n, _, h1, h2, h3, hpost _ _ _ _ _ _ ⟨Cond.after_iff.mpr rfl, Cond.after_iff.mpr (eq_i res_at (Term.int_eval (1)) rfl), trivial⟩ ⟨hq.1, hq.2.1, (hq.2.2.sift fun y hy => Or.inr (N y hy)).mono (by decide) (by decide)⟩⟩
theorem main_1_1 : Claimed_1_1 := comes_1 fun _ _ _ _ _ _ h hF => ⟨h.1, hF⟩
theorem main_1_2 : Claimed_1_2 := comes_1 fun _ _ _ _ _ _ h hF => ⟨h.2.1, hF⟩
end Jvm.Pilot.@@N@@
namespace Jvm.Pilot.@@N@@
open Jvm Jvm.ClassFile Sem Op Lib Jvm.Free Jvm.Stand Jvm.Pilot.@@N@@.Jvm.D
/-! MADE BY PROGRAM (witnessworld.py) out of the Statement's table words and the real class files: 15 classes; the members and pool entries that the words name. The judged class is class 1, her method 1. -/
namespace start1
open Jvm.ClassFile
def u (s : String) : CpInfo := .utf8 (stringToUtf16 s)
/-- a pool by its gaps: so many unusable entries, then the entry; so many at the end -/
def gap : Nat → List CpInfo → List CpInfo
  | 0, r => r
  | n + 1, r => .unusable :: gap n r
def poolList (es : List (Nat × CpInfo)) (last : Nat) : List CpInfo := es.foldr (fun e r => gap e.1 (e.2 :: r)) (gap last [])
def pool (es : List (Nat × CpInfo)) (last : Nat) : Array CpInfo := ⟨poolList es last⟩
def fileOf (pool : Array CpInfo) (this : Nat) (attrs : Array Attribute := #[]) (ms : Array MethodInfo := #[]) (fl : Nat := 33) (sup : Nat := 0) (ifs : Array Nat := #[]) (fds : Array FieldInfo := #[]) : ClassFile where
  minorVersion := 0
  majorVersion := 65
  constantPool := pool
  accessFlags := fl
  thisClass := this
  superClass := sup
  interfaces := ifs
  fields := fds
  methods := ms
  attributes := attrs
def plain (name : String) (sup : Option ClassId) : Class where
  name := name
  kind := .ordinary
  loader := none
  accessFlags := 33
  super := sup
  interfaces := #[]
  cf := none
  fields := #[]
  methods := #[]
  instanceTypes := #[]
  staticTypes := #[]
  resolved := #[]
  callSites := []
  init := .initialized
  statics := none
  mirror := none

def pool0 : Array CpInfo := pool [(5, u "<init>"), (0, u "()V"), (1, .class_ 10), (1, u "java/lang/Object")] 113

def k0c0 : Code := { maxStack := 0, maxLocals := 1, code := object_method_1_code, exceptionTable := #[], attributes := #[] }
def k0m0 : Method := { name := "<init>", desc := "()V", sig := { parameters := [], returnType := none }, accessFlags := 1, code := some k0c0 }
/-- java/lang/Object -/
def k0 : Class := { plain "java/lang/Object" none with
  accessFlags := 33
  interfaces := #[]
  cf := some (fileOf pool0 8 #[] #[{ accessFlags := 1, nameIndex := 5, descriptorIndex := 6, attributes := #[] }] 33 0 #[] #[])
  fields := #[]
  methods := #[k0m0]
  instanceTypes := #[]
  staticTypes := #[]
  resolved := Array.replicate 124 none
  statics := none }

def pool1 : Array CpInfo := pool [(2, .class_ 4), (1, u "java/lang/Object"), (0, u "<init>"), (0, u "()V"), (0, .integer 2147483647), (0, .class_ 9), (0, u "com/example/ashlar/ashlar/pack/EntryHeader"), (0, .methodref 8 11), (0, .nameAndType 5 12), (0, u "(IJ)V"), (0, .methodref 8 14), (0, .nameAndType 15 16), (0, u "objectType"), (0, u "()Lcom/example/ashlar/ashlar/ObjectType;"), (0, .methodref 18 19), (0, .class_ 20), (0, .nameAndType 21 22), (0, u "com/example/ashlar/ashlar/pack/EntryHeaderObjectTypePinLaw"), (0, u "expected"), (0, u "(I)Lcom/example/ashlar/ashlar/ObjectType;"), (0, .fieldref 24 25), (0, .class_ 26), (0, .nameAndType 27 28), (0, u "com/example/ashlar/ashlar/ObjectType"), (0, u "COMMIT"), (0, u "Lcom/example/ashlar/ashlar/ObjectType;"), (0, .fieldref 24 30), (0, .nameAndType 31 28), (0, u "TREE"), (0, .fieldref 24 33), (0, .nameAndType 34 28), (0, u "BLOB"), (0, .fieldref 24 36), (0, .nameAndType 37 28), (0, u "TAG"), (2, u "law"), (0, u "(IJI)Z")] 3

def k1m0 : Method := { name := "<init>", desc := "()V", sig := { parameters := [], returnType := none }, accessFlags := 1, code := none }
def k1c1 : Code := { maxStack := 5, maxLocals := 6, code := code, exceptionTable := #[], attributes := #[] }
def k1m1 : Method := { name := "law", desc := "(IJI)Z", sig := { parameters := [.int, .long, .int], returnType := some .boolean }, accessFlags := 9, code := some k1c1 }
def k1c2 : Code := { maxStack := 2, maxLocals := 1, code := method_3_code, exceptionTable := #[], attributes := #[] }
def k1m2 : Method := { name := "expected", desc := "(I)Lcom/example/ashlar/ashlar/ObjectType;", sig := { parameters := [.int], returnType := some (.object "com/example/ashlar/ashlar/ObjectType") }, accessFlags := 10, code := some k1c2 }
/-- com/example/ashlar/ashlar/pack/EntryHeaderObjectTypePinLaw -/
def k1 : Class := { plain "com/example/ashlar/ashlar/pack/EntryHeaderObjectTypePinLaw" (some 0) with
  accessFlags := 49
  interfaces := #[]
  cf := some (fileOf pool1 18 #[] #[{ accessFlags := 1, nameIndex := 5, descriptorIndex := 6, attributes := #[] }, { accessFlags := 9, nameIndex := 40, descriptorIndex := 41, attributes := #[] }, { accessFlags := 10, nameIndex := 21, descriptorIndex := 22, attributes := #[] }] 49 2 #[] #[])
  fields := #[]
  methods := #[k1m0, k1m1, k1m2]
  instanceTypes := #[]
  staticTypes := #[]
  resolved := Array.replicate 45 none
  statics := none }

def pool2 : Array CpInfo := pool [(1, .methodref 2 3), (0, .class_ 4), (0, .nameAndType 5 6), (0, u "java/lang/Object"), (0, u "<init>"), (0, u "()V"), (0, .class_ 8), (0, u "java/lang/Record")] 13

def k2c0 : Code := { maxStack := 1, maxLocals := 1, code := jdk_30_method_1_code, exceptionTable := #[], attributes := #[] }
def k2m0 : Method := { name := "<init>", desc := "()V", sig := { parameters := [], returnType := none }, accessFlags := 4, code := some k2c0 }
/-- java/lang/Record -/
def k2 : Class := { plain "java/lang/Record" (some 0) with
  accessFlags := 1057
  interfaces := #[]
  cf := some (fileOf pool2 7 #[] #[{ accessFlags := 4, nameIndex := 5, descriptorIndex := 6, attributes := #[] }] 1057 2 #[] #[])
  fields := #[]
  methods := #[k2m0]
  instanceTypes := #[]
  staticTypes := #[]
  resolved := Array.replicate 22 none
  statics := none }

def pool3 : Array CpInfo := pool [(1, .methodref 2 3), (0, .class_ 4), (0, .nameAndType 5 6), (0, u "java/lang/Record"), (0, u "<init>"), (0, u "()V"), (0, .fieldref 8 9), (0, .class_ 10), (0, .nameAndType 11 12), (0, u "com/example/ashlar/ashlar/pack/EntryHeader"), (0, u "code"), (0, u "I"), (0, .fieldref 8 14), (0, .nameAndType 15 16), (0, u "size"), (0, u "J"), (0, .fieldref 8 18), (0, .nameAndType 19 20), (0, u "TYPES"), (0, u "[Lcom/example/ashlar/ashlar/ObjectType;"), (14, u "(IJ)V"), (35, u "OFS_DELTA"), (2, u "REF_DELTA"), (1, u "MAX_LENGTH"), (6, u "objectType"), (0, u "()Lcom/example/ashlar/ashlar/ObjectType;")] 31

def k3c0 : Code := { maxStack := 3, maxLocals := 4, code := prog_65_method_1_code, exceptionTable := #[], attributes := #[] }
def k3m0 : Method := { name := "<init>", desc := "(IJ)V", sig := { parameters := [.int, .long], returnType := none }, accessFlags := 0, code := some k3c0 }
def k3c1 : Code := { maxStack := 2, maxLocals := 1, code := prog_65_method_3_code, exceptionTable := #[], attributes := #[] }
def k3m1 : Method := { name := "objectType", desc := "()Lcom/example/ashlar/ashlar/ObjectType;", sig := { parameters := [], returnType := some (.object "com/example/ashlar/ashlar/ObjectType") }, accessFlags := 0, code := some k3c1 }
/-- com/example/ashlar/ashlar/pack/EntryHeader -/
def k3 : Class := { plain "com/example/ashlar/ashlar/pack/EntryHeader" (some 2) with
  accessFlags := 48
  interfaces := #[]
  cf := some (fileOf pool3 8 #[] #[{ accessFlags := 0, nameIndex := 5, descriptorIndex := 35, attributes := #[] }, { accessFlags := 0, nameIndex := 83, descriptorIndex := 84, attributes := #[] }] 48 2 #[] #[{ accessFlags := 18, nameIndex := 11, descriptorIndex := 12, attributes := #[] }, { accessFlags := 18, nameIndex := 15, descriptorIndex := 16, attributes := #[] }, { accessFlags := 24, nameIndex := 71, descriptorIndex := 12, attributes := #[] }, { accessFlags := 24, nameIndex := 74, descriptorIndex := 12, attributes := #[] }, { accessFlags := 26, nameIndex := 19, descriptorIndex := 20, attributes := #[] }, { accessFlags := 26, nameIndex := 76, descriptorIndex := 12, attributes := #[] }])
  fields := #[{ name := "code", type := .int, accessFlags := 18, slot := 0, constantValue := 0 }, { name := "size", type := .long, accessFlags := 18, slot := 1, constantValue := 0 }, { name := "OFS_DELTA", type := .int, accessFlags := 24, slot := 0, constantValue := 0 }, { name := "REF_DELTA", type := .int, accessFlags := 24, slot := 1, constantValue := 0 }, { name := "TYPES", type := (.array (.object "com/example/ashlar/ashlar/ObjectType")), accessFlags := 26, slot := 2, constantValue := 0 }, { name := "MAX_LENGTH", type := .int, accessFlags := 26, slot := 3, constantValue := 0 }]
  methods := #[k3m0, k3m1]
  instanceTypes := #[.int, .long]
  staticTypes := #[.int, .int, (.array (.object "com/example/ashlar/ashlar/ObjectType")), .int]
  resolved := Array.replicate 116 none
  statics := some 0 }

def pool4 : Array CpInfo := pool [(1, .class_ 2), (0, u "java/lang/constant/Constable"), (0, .class_ 4), (0, u "java/lang/Object")] 6

/-- java/lang/constant/Constable -/
def k4 : Class := { plain "java/lang/constant/Constable" (some 0) with
  accessFlags := 1537
  interfaces := #[]
  cf := some (fileOf pool4 1 #[] #[] 1537 3 #[] #[])
  fields := #[]
  methods := #[]
  instanceTypes := #[]
  staticTypes := #[]
  resolved := Array.replicate 11 none
  statics := none }

def pool5 : Array CpInfo := pool [(1, .class_ 2), (0, u "java/lang/Comparable"), (0, .class_ 4), (0, u "java/lang/Object")] 7

/-- java/lang/Comparable -/
def k5 : Class := { plain "java/lang/Comparable" (some 0) with
  accessFlags := 1537
  interfaces := #[]
  cf := some (fileOf pool5 1 #[] #[] 1537 3 #[] #[])
  fields := #[]
  methods := #[]
  instanceTypes := #[]
  staticTypes := #[]
  resolved := Array.replicate 12 none
  statics := none }

def pool6 : Array CpInfo := pool [(1, .class_ 2), (0, u "java/io/Serializable"), (0, .class_ 4), (0, u "java/lang/Object")] 2

/-- java/io/Serializable -/
def k6 : Class := { plain "java/io/Serializable" (some 0) with
  accessFlags := 1537
  interfaces := #[]
  cf := some (fileOf pool6 1 #[] #[] 1537 3 #[] #[])
  fields := #[]
  methods := #[]
  instanceTypes := #[]
  staticTypes := #[]
  resolved := Array.replicate 7 none
  statics := none }

def pool7 : Array CpInfo := pool [(2, .class_ 4), (1, u "java/lang/Enum"), (0, u "name"), (0, u "Ljava/lang/String;"), (2, u "ordinal"), (0, u "I"), (1, .class_ 14), (1, u "java/lang/Object"), (4, u "hash"), (86, .class_ 108), (1, u "java/lang/Enum$EnumDesc"), (2, .class_ 112), (0, u "java/lang/constant/Constable"), (0, .class_ 114), (0, u "java/lang/Comparable"), (0, .class_ 116), (0, u "java/io/Serializable")] 87

/-- java/lang/Enum -/
def k7 : Class := { plain "java/lang/Enum" (some 0) with
  accessFlags := 1057
  interfaces := #[4, 5, 6]
  cf := some (fileOf pool7 2 #[.nestMembers #[106]] #[] 1057 12 #[111, 113, 115] #[{ accessFlags := 18, nameIndex := 5, descriptorIndex := 6, attributes := #[] }, { accessFlags := 18, nameIndex := 9, descriptorIndex := 10, attributes := #[] }, { accessFlags := 2, nameIndex := 19, descriptorIndex := 10, attributes := #[] }])
  fields := #[{ name := "name", type := (.object "java/lang/String"), accessFlags := 18, slot := 0, constantValue := 0 }, { name := "ordinal", type := .int, accessFlags := 18, slot := 1, constantValue := 0 }, { name := "hash", type := .int, accessFlags := 2, slot := 2, constantValue := 0 }]
  methods := #[]
  instanceTypes := #[(.object "java/lang/String"), .int, .int]
  staticTypes := #[]
  resolved := Array.replicate 204 none
  statics := none }

def pool8 : Array CpInfo := pool [(1, .class_ 2), (0, u "com/example/ashlar/ashlar/ObjectType"), (2, u "BLOB"), (0, u "Lcom/example/ashlar/ashlar/ObjectType;"), (2, u "TREE"), (2, u "COMMIT"), (2, u "TAG"), (2, u "$VALUES"), (0, u "[Lcom/example/ashlar/ashlar/ObjectType;"), (6, .class_ 28), (1, u "java/lang/Enum"), (8, u "_typeName"), (0, u "Ljava/lang/String;")] 67

/-- com/example/ashlar/ashlar/ObjectType -/
def k8 : Class := { plain "com/example/ashlar/ashlar/ObjectType" (some 7) with
  accessFlags := 16433
  interfaces := #[]
  cf := some (fileOf pool8 1 #[] #[] 16433 26 #[] #[{ accessFlags := 16409, nameIndex := 5, descriptorIndex := 6, attributes := #[] }, { accessFlags := 16409, nameIndex := 9, descriptorIndex := 6, attributes := #[] }, { accessFlags := 16409, nameIndex := 12, descriptorIndex := 6, attributes := #[] }, { accessFlags := 16409, nameIndex := 15, descriptorIndex := 6, attributes := #[] }, { accessFlags := 18, nameIndex := 37, descriptorIndex := 38, attributes := #[] }, { accessFlags := 4122, nameIndex := 18, descriptorIndex := 19, attributes := #[] }])
  fields := #[{ name := "BLOB", type := (.object "com/example/ashlar/ashlar/ObjectType"), accessFlags := 16409, slot := 0, constantValue := 0 }, { name := "TREE", type := (.object "com/example/ashlar/ashlar/ObjectType"), accessFlags := 16409, slot := 1, constantValue := 0 }, { name := "COMMIT", type := (.object "com/example/ashlar/ashlar/ObjectType"), accessFlags := 16409, slot := 2, constantValue := 0 }, { name := "TAG", type := (.object "com/example/ashlar/ashlar/ObjectType"), accessFlags := 16409, slot := 3, constantValue := 0 }, { name := "_typeName", type := (.object "java/lang/String"), accessFlags := 18, slot := 3, constantValue := 0 }, { name := "$VALUES", type := (.array (.object "com/example/ashlar/ashlar/ObjectType")), accessFlags := 4122, slot := 4, constantValue := 0 }]
  methods := #[]
  instanceTypes := #[(.object "java/lang/String"), .int, .int, (.object "java/lang/String")]
  staticTypes := #[(.object "com/example/ashlar/ashlar/ObjectType"), (.object "com/example/ashlar/ashlar/ObjectType"), (.object "com/example/ashlar/ashlar/ObjectType"), (.object "com/example/ashlar/ashlar/ObjectType"), (.array (.object "com/example/ashlar/ashlar/ObjectType"))]
  resolved := Array.replicate 106 none
  statics := some 1 }

def pool9 : Array CpInfo := pool [(1, u "java/lang/Cloneable"), (0, .class_ 1), (0, u "java/lang/Object"), (0, .class_ 3)] 3

/-- java/lang/Cloneable -/
def k9 : Class := { plain "java/lang/Cloneable" (some 0) with
  accessFlags := 1537
  interfaces := #[]
  cf := some (fileOf pool9 2 #[] #[] 1537 4 #[] #[])
  fields := #[]
  methods := #[]
  instanceTypes := #[]
  staticTypes := #[]
  resolved := Array.replicate 8 none
  statics := none }

/-- the primitive byte -/
def k10 : Class := { plain "byte" none with kind := .primitive 'B', accessFlags := 0x411 }
/-- [B -/
def k11 : Class := { plain "[B" (some 0) with kind := .array 10 .byte, interfaces := #[9, 6], accessFlags := 1041 }

/-- the primitive int -/
def k12 : Class := { plain "int" none with kind := .primitive 'I', accessFlags := 0x411 }
/-- [I -/
def k13 : Class := { plain "[I" (some 0) with kind := .array 12 .int, interfaces := #[9, 6], accessFlags := 1041 }

/-- [Lcom/example/ashlar/ashlar/ObjectType; -/
def k14 : Class := { plain "[Lcom/example/ashlar/ashlar/ObjectType;" (some 0) with kind := .array 8 (.object "com/example/ashlar/ashlar/ObjectType"), interfaces := #[9, 6], accessFlags := 1041 }

def heap : Heap := #[{ cls := 3, slots := #[.int 0, .int 0, .ref 2, .int 0], vm := .statics 3 },
  { cls := 8, slots := #[.ref 5, .ref 4, .ref 3, .ref 6, .null], vm := .statics 8 },
  { cls := 14, slots := #[.null, .ref 3, .ref 4, .ref 5, .ref 6], vm := .none },
  { cls := 8, slots := #[.null, .int 0, .int 0, .null], vm := .none },
  { cls := 8, slots := #[.null, .int 1, .int 0, .null], vm := .none },
  { cls := 8, slots := #[.null, .int 2, .int 0, .null], vm := .none },
  { cls := 8, slots := #[.null, .int 3, .int 0, .null], vm := .none }]
def classes : Array Class := #[k0, k1, k2, k3, k4, k5, k6, k7, k8, k9, k10, k11, k12, k13, k14]
def interned : List (Array UInt16 × Addr) := []
def slotsUsed : Nat := 30
def theMethod : MethodId := ⟨1, 1⟩
def args0 : Array Value := #[.int 5, .long 7, .int 9]
def aboutOver (below : List Frame) : State where
  vm := { classes := classes, interned := interned.toArray }
  heap := heap
  slotsUsed := slotsUsed
  threads := #[{ frames := .invoking theMethod args0 :: below }]
def below0 : List Frame := [.native { method := ⟨0, 0⟩, args := #[] }]
def about1 : State := aboutOver below0
def p0 : Program := .bare "" "" ""
def e0 : Env := launch0.env 0 0 0
theorem w_frames : about1.frames = Frame.invoking theMethod args0 :: below0 := rfl
set_option maxRecDepth 65536 in
theorem w_args : argsFit about1.vm theMethod args0 = true := by decide +kernel
set_option maxRecDepth 65536 in
theorem w_heap : heapFits about1 = true := by decide +kernel
set_option maxRecDepth 65536 in
theorem w_runnable : about1.curStatus? = some .runnable := by decide +kernel
set_option maxRecDepth 65536 in
theorem w_alone : about1.alone = true := by decide +kernel
set_option maxRecDepth 65536 in
theorem w_named : about1.methodNamed? x = some theMethod := by decide +kernel
set_option maxRecDepth 65536 in
theorem w_hears : about1.hears theMethod below0 = true := by decide +kernel
set_option maxRecDepth 65536 in
theorem w_ripe : about1.ripe theMethod args0 below0 = true := by decide +kernel
theorem w_running : about1.status = .running := rfl
set_option maxRecDepth 65536 in
theorem w_room : about1.hasRoom e0.platform room_1 = true :=
  launch0.hasRoom_least _ room_1 (by decide +kernel) (by decide +kernel) (by decide +kernel) (by decide +kernel) (by decide +kernel) (by decide +kernel)
theorem allAtoms_all (ts : List Jvm.Cond) (a : Array Jvm.Value) (st : Jvm.State) : (allAtoms ts).before a st = ts.all (fun c => c.before a st) := by
  induction ts with
  | nil => rfl
  | cons c t ih =>
    show (Jvm.Cond.and c (allAtoms t)).before a st = _
    rw [Jvm.Cond.before_and, ih, List.all_cons]
def words1 : List Jvm.Cond := Jvm.Cond.code x code maxLocals ret :: tables_1
/-- a 'code' word, met by the world's own term for the bytes: nothing is compared byte by byte -/
theorem code_word {y : MethodName} {bytes : ByteArray} {mx : Nat} {rt : Option FieldType} {a : Array Value} {s : State} {m : MethodId} {meth : Method} {c : Code} (h1 : s.methodNamed? y = some m) (h2 : s.vm.method? m = some meth) (h3 : meth.code = some c) (h4 : c.code = bytes)
    (h5 : (c.maxLocals == mx && c.exceptionTable.isEmpty && decide (c.maxStack ≤ mostOperands) && decide (meth.sig.returnType = rt) && !meth.locks && decide (parseMethodDescriptor y.desc = some meth.sig)) = true) : (Jvm.Cond.code y bytes mx rt).before a s = true := by
  simp only [Bool.and_eq_true, beq_iff_eq, Bool.not_eq_true', decide_eq_true_eq] at h5
  obtain ⟨⟨⟨⟨⟨g1, g2⟩, g3⟩, g4⟩, g5⟩, g6⟩ := h5
  simp [Cond.before, Cond.holds, Cond.value, h1, h2, h3, h4, g1, g2, g3, g4, g5, g6]
def isCode : Jvm.Cond → Bool
  | .code _ _ _ _ => true
  | _ => false
theorem all_split {L : List Jvm.Cond} {P : Jvm.Cond → Bool} (h1 : L.all (fun c => isCode c || P c) = true) (h2 : ∀ c ∈ L.filter isCode, P c = true) : L.all P = true := by
  refine List.all_eq_true.mpr fun c hc => ?_
  have h := List.all_eq_true.mp h1 c hc
  rcases Bool.eq_false_or_eq_true (isCode c) with hi | hi
  · exact h2 c (List.mem_filter.mpr ⟨hc, hi⟩)
  · simpa [hi] using h
set_option maxRecDepth 65536 in
theorem w_c0 : (Jvm.Cond.code x code maxLocals ret).before args0 about1 = true := code_word (m := ⟨1, 1⟩) (meth := k1m1) (c := k1c1) (by decide +kernel) rfl rfl rfl (by decide +kernel)
set_option maxRecDepth 65536 in
theorem w_c1 : (Jvm.Cond.code ({ cls := "com/example/ashlar/ashlar/pack/EntryHeader", name := "<init>", desc := "(IJ)V" } : Jvm.MethodName) prog_65_method_1_code (4 : Nat) (Option.none : Option Jvm.ClassFile.FieldType)).before args0 about1 = true := code_word (m := ⟨3, 0⟩) (meth := k3m0) (c := k3c0) (by decide +kernel) rfl rfl rfl (by decide +kernel)
set_option maxRecDepth 65536 in
theorem w_c2 : (Jvm.Cond.code ({ cls := "java/lang/Record", name := "<init>", desc := "()V" } : Jvm.MethodName) jdk_30_method_1_code (1 : Nat) (Option.none : Option Jvm.ClassFile.FieldType)).before args0 about1 = true := code_word (m := ⟨2, 0⟩) (meth := k2m0) (c := k2c0) (by decide +kernel) rfl rfl rfl (by decide +kernel)
set_option maxRecDepth 65536 in
theorem w_c3 : (Jvm.Cond.code ({ cls := "java/lang/Object", name := "<init>", desc := "()V" } : Jvm.MethodName) object_method_1_code (1 : Nat) (Option.none : Option Jvm.ClassFile.FieldType)).before args0 about1 = true := code_word (m := ⟨0, 0⟩) (meth := k0m0) (c := k0c0) (by decide +kernel) rfl rfl rfl (by decide +kernel)
set_option maxRecDepth 65536 in
theorem w_c4 : (Jvm.Cond.code ({ cls := "com/example/ashlar/ashlar/pack/EntryHeader", name := "objectType", desc := "()Lcom/example/ashlar/ashlar/ObjectType;" } : Jvm.MethodName) prog_65_method_3_code (1 : Nat) (Option.some (Jvm.ClassFile.FieldType.object "com/example/ashlar/ashlar/ObjectType"))).before args0 about1 = true := code_word (m := ⟨3, 1⟩) (meth := k3m1) (c := k3c1) (by decide +kernel) rfl rfl rfl (by decide +kernel)
set_option maxRecDepth 65536 in
theorem w_c5 : (Jvm.Cond.code ({ cls := "com/example/ashlar/ashlar/pack/EntryHeaderObjectTypePinLaw", name := "expected", desc := "(I)Lcom/example/ashlar/ashlar/ObjectType;" } : Jvm.MethodName) method_3_code (1 : Nat) (Option.some (Jvm.ClassFile.FieldType.object "com/example/ashlar/ashlar/ObjectType"))).before args0 about1 = true := code_word (m := ⟨1, 2⟩) (meth := k1m2) (c := k1c2) (by decide +kernel) rfl rfl rfl (by decide +kernel)
def codes1 : List Jvm.Cond := [Jvm.Cond.code x code maxLocals ret, Jvm.Cond.code ({ cls := "com/example/ashlar/ashlar/pack/EntryHeader", name := "<init>", desc := "(IJ)V" } : Jvm.MethodName) prog_65_method_1_code (4 : Nat) (Option.none : Option Jvm.ClassFile.FieldType), Jvm.Cond.code ({ cls := "java/lang/Record", name := "<init>", desc := "()V" } : Jvm.MethodName) jdk_30_method_1_code (1 : Nat) (Option.none : Option Jvm.ClassFile.FieldType), Jvm.Cond.code ({ cls := "java/lang/Object", name := "<init>", desc := "()V" } : Jvm.MethodName) object_method_1_code (1 : Nat) (Option.none : Option Jvm.ClassFile.FieldType), Jvm.Cond.code ({ cls := "com/example/ashlar/ashlar/pack/EntryHeader", name := "objectType", desc := "()Lcom/example/ashlar/ashlar/ObjectType;" } : Jvm.MethodName) prog_65_method_3_code (1 : Nat) (Option.some (Jvm.ClassFile.FieldType.object "com/example/ashlar/ashlar/ObjectType")), Jvm.Cond.code ({ cls := "com/example/ashlar/ashlar/pack/EntryHeaderObjectTypePinLaw", name := "expected", desc := "(I)Lcom/example/ashlar/ashlar/ObjectType;" } : Jvm.MethodName) method_3_code (1 : Nat) (Option.some (Jvm.ClassFile.FieldType.object "com/example/ashlar/ashlar/ObjectType"))]
set_option maxRecDepth 65536 in
theorem codes_eq : words1.filter isCode = codes1 := rfl
theorem w_codes : ∀ c ∈ words1.filter isCode, c.before args0 about1 = true := by
  rw [codes_eq]
  intro c hc
  simp only [codes1, List.mem_cons, List.not_mem_nil, or_false] at hc
  rcases hc with rfl | rfl | rfl | rfl | rfl | rfl
  · exact w_c0
  · exact w_c1
  · exact w_c2
  · exact w_c3
  · exact w_c4
  · exact w_c5
set_option maxRecDepth 65536 in
theorem w_t1 : (words1.take 24).all (fun c => isCode c || c.before args0 about1) = true := by decide +kernel
set_option maxRecDepth 65536 in
theorem w_t2 : (words1.drop 24).all (fun c => isCode c || c.before args0 about1) = true := by decide +kernel
theorem w_tables : (allAtoms (Jvm.Cond.code x code maxLocals ret :: tables_1)).before args0 about1 = true := by
  rw [allAtoms_all]
  show words1.all (fun c => c.before args0 about1) = true
  refine all_split ?_ w_codes
  rw [← List.take_append_drop 24 words1, List.all_append, w_t1, w_t2]
  rfl
set_option maxRecDepth 65536 in
theorem w_case : (Jvm.Cond.and given_1 narrow_1).before args0 about1 = true := by decide +kernel
theorem w_applies : (headSpec (Jvm.Cond.code x code maxLocals ret :: tables_1) room_1).applies x e0.platform about1 = true :=
  (Spec.applies_iff w_frames).mpr ⟨w_running, w_runnable, w_alone, w_named, w_hears, w_ripe, w_room, w_tables⟩
theorem atStart : AtStart classFile x code maxLocals ret World_1 tables_1 room_1 Calls_1 rest_1 Pre_1 launch0 p0 e0 about1 theMethod args0 below0 :=
  ⟨lists_1, trivial, launch0.admits_env _ _ _, launch0.least_env, fairChoices_fair.cas, fairChoices_fair.clock, w_frames, w_args, w_heap, w_applies, trivial, trivial, w_case⟩
end start1
theorem witness_1 : WitnessClaimed_1 := ⟨start1.p0, start1.e0, start1.about1, start1.theMethod, start1.args0, start1.below0, start1.atStart⟩
end Jvm.Pilot.@@N@@
