import JvmDerived
import JvmDerived.Pilot.@@N@@Statement
import JvmDerived.Pilot.@@N@@Code
set_option linter.unusedVariables false
set_option linter.unusedSimpArgs false
@@BLOCK:NumsL.lean.txt@@
namespace Jvm.RoadKit
open Sem ClassFile Op Lib Jvm.Stand Jvm.Free Jvm.LawKit
section New
variable {p : Program} {l : Launch} {e : Env} {R : Room} {s : State} {m : MethodId} {args : Array Value} {below : List Frame} {meth : Method} {c : Code} {T : State} {locs : List Loc} {cells slots : Nat}
theorem retI (X : Stand p l e R s m args below meth c T locs cells slots) (hx : p.tables.exec = Jvm.exec) {pc : Nat} {Ls : Array Slot} {z : Int32} {rest : List Value} (hret : meth.sig.returnType = some .int) (hd : decode c.code pc = .ok (.ireturn, 1)) {fs : List Frame}
    (hl : ∀ (f : JFrame) (acts : List Action), f.method = m → f.locked = none → f.entered = [] → (doReturn e (T.setTop f) acts (some (.int z))).1 = T.setFrames fs) : Steps p.tables e below (T.setTop (mkF m pc Ls (.int z :: rest))) (T.setFrames fs) := by
  have hm' : T.vm.method? m = some meth := X.method'
  have hn : narrow .int (.int z) = .int z := rfl
  show Steps p.tables e below (T.setTop { method := m, pc := pc, locals := Ls, stack := _ :: rest, locked := none }) _
  jvm_step X.here [X.here.top, hx, hd, hm', hret, hn]
  first | (intro acts; rw [hl _ acts rfl rfl rfl]) | rw [hl _ _ rfl rfl rfl]
  exact Steps.refl _
end New
end Jvm.RoadKit
namespace Jvm.Pilot.@@N@@
open Jvm Jvm.ClassFile Sem Op Lib Jvm.Free Jvm.Stand Jvm.LawKit Jvm.RoadKit Bundle Jvm.Pilot.@@N@@.Jvm.D
theorem own_rem32 (x y : Int32) : (x - (x / y) * y).toInt = x.toInt.tmod y.toInt := by
  rw [Int32.toInt_sub, Int32.toInt_mul, Int32.toInt_div]
  simp only [Int.bmod_mul_bmod, Int.sub_bmod_bmod]
  rw [Int.tmod_def, Int.mul_comm y.toInt]
  have h := Int32.toInt_mod x y
  have h1 := (x % y).toInt_lt
  have h2 := (x % y).le_toInt
  rw [h, Int.tmod_def, Int.mul_comm y.toInt] at h1 h2
  exact Int.bmod_eq_of_le (by omega) (by omega)
theorem own_nosub {Z : State} {a0 : Array Value} {C O K : String} {n : Nat} (wO : (Cond.noSuperclass O).before a0 Z = true) (wC : (Cond.superclass C O).before a0 Z = true) (wi : (Cond.instantiable K n).before a0 Z = true) (h1 : O ≠ K) (h2 : C ≠ K) : ∃ c t, Z.vm.findClass C = some c ∧ Z.vm.findClass K = some t ∧ Z.vm.assignable c t = false := by
  obtain ⟨t, kt, g1, g2, g3, g4, -, -⟩ := Cond.instantiable_spec wi
  obtain ⟨o, ko, o1, o2, o3, -, -⟩ := Cond.noSuperclass_spec wO
  have ne := ids_ne o1 g1 h1
  have n1 : NS Z O K := ⟨o, t, o1, g1, fun fuel => by
    cases fuel with
    | zero => rfl
    | succ f => simp [Vm.isSubclassAux, ne, o2, o3]⟩
  obtain ⟨c, t', q0, q1, n3⟩ := NS.step wC n1 h2
  cases g1.symm.trans q1
  obtain ⟨p, k, kp, a1, a2, a3, a4, a5, -, a7⟩ := Cond.superclass_spec q0 wC
  have ne2 := ids_ne q0 g1 h2
  have gi : kt.isInterface = false := by
    cases hq : kt.isInterface with
    | false => rfl
    | true => rw [hq] at g4; simp at g4
  refine ⟨c, t, q0, g1, ?_⟩
  show Z.vm.assignableAux (255 + 1) c t = false
  simp [Vm.assignableAux, ne2, a2, g2, a5, g3, gi, Vm.isSubclass, n3]
theorem own_ne_int {t : Term} {k v : Int32} {args : Array Value} {s : State} (h : (Cond.not (Cond.eq t (.int k))).before args s = true) (ht : t.eval args s none [] s = some (.int v)) : ¬ (v = k) := fun q => by
  have a := not_v (Cond.before_iff.mp h)
  have b : (Cond.eq t (.int k)).value args s none s [] = some true := eq_i ht (Term.int_eval k) (by rw [q])
  rw [b] at a
  cases a
theorem d1_0 : decode jdk_29_method_65_code 0 = .ok (.iload_n 0, 1) := by decide +kernel
theorem d1_1 : decode jdk_29_method_65_code 1 = .ok (.iload_n 1, 1) := by decide +kernel
theorem d1_2 : decode jdk_29_method_65_code 2 = .ok (.if_icmp .lt 7, 3) := by decide +kernel
theorem d1_5 : decode jdk_29_method_65_code 5 = .ok (.iload_n 0, 1) := by decide +kernel
theorem d1_6 : decode jdk_29_method_65_code 6 = .ok (.goto 4, 3) := by decide +kernel
theorem d1_9 : decode jdk_29_method_65_code 9 = .ok (.iload_n 1, 1) := by decide +kernel
theorem d1_10 : decode jdk_29_method_65_code 10 = .ok (.ireturn, 1) := by decide +kernel
theorem ef_1 (m : MethodId) (p0 : Int32) (p1 : Int32) : entryFrame m #[(.int p0), (.int p1)] 2 = mkF m 0 #[.val (.int p0), .val (.int p1)] [] := by first | (simp [entryFrame, mkF, argsToLocals, Value.category]; done) | rfl
def v1_1 (p0 : Int32) (p1 : Int32) : Int32 := (if p0 < p1 then p1 else p0)
def f1 (p0 : Int32) (p1 : Int32) : Int32 := (v1_1 p0 p1)
def Q1 (Z : State) (p0 : Int32) (p1 : Int32) (h0 : Heap) (n0 : Nat) (v : Option Value) (h : Heap) (L : List Loc) : Prop := Fr n0 L ∧ v = some (.int (f1 p0 p1)) ∧ h = h0
set_option maxRecDepth 65536 in
set_option maxHeartbeats 40000000 in
theorem rm1 (l : Launch) (Z : State) (a0 : Array Value) (hw : ∀ d ∈ tables_1, d.before a0 Z = true) (ws : List Jvm.Cond) (p0 : Int32) (p1 : Int32) (h0 : Heap) (n0 : Nat) (Z0 : n0 ≤ h0.size) :
    MetFree l (⟨"java/lang/Math", "max", "(II)I"⟩ : MethodName) (head1 (Jvm.Cond.code (⟨"java/lang/Math", "max", "(II)I"⟩ : MethodName) jdk_29_method_65_code 2 (some .int) :: ws) ({ frames := 0, cells := 0, slots := 0, locals := 0 } : Room)) (fun a U => a = #[(.int p0), (.int p1)] ∧ Z.Warmed39 U.vm ∧ U.heap = h0) (fun _ _ _ _ _ => True) (fun _ U o U' => ∃ v L, o = .returned v ∧ Q1 Z p0 p1 h0 n0 v U'.heap L ∧ FrameEnd U o U' L ({ frames := 0, cells := 0, slots := 0, locals := 0 } : Room).cells ({ frames := 0, cells := 0, slots := 0, locals := 0 } : Room).slots) := by
  refine MetFree.of_bodySF (Jvm.Free.JP.mathPlain rfl (by decide +kernel)) hisR ?_
  intro p e s m args below meth c s₁ Bd hml0 hP hK
  obtain ⟨rfl, hZ, hh⟩ := hP
  have hx := Bd.exec
  have hby := Bd.bytes
  have hml : c.maxLocals = 2 := hml0
  have hown : s.vm.findClass "java/lang/Math" = some m.cls := findClass_of_methodNamed Bd.named
  have hnm := (name_of_methodNamed Bd.named Bd.method).1
  have hlk := BodyLoose.notSynchronized Bd
  have X0 : Stand p l e ({ frames := 0, cells := 0, slots := 0, locals := 0 } : Room) s m #[(.int p0), (.int p1)] below meth c s₁ [] 0 0 := Stand.of_body Bd
  have e0 : s₁.heap = h0 := by rw [← hh, Bd.state]; rfl
  have N0 := Fr.nil n0
  have pre0 : ∀ t, Steps p.tables e below (s₁.setTop (mkF m 0 #[.val (.int p0), .val (.int p1)] [])) t → Steps p.tables e below (s₁.setTop (entryFrame m #[(.int p0), (.int p1)] 2)) t := fun t k => castTop (ef_1 m p0 p1) k
  have pre1 : ∀ t, Steps p.tables e below (s₁.setTop (mkF m 2 #[.val (.int p0), .val (.int p1)] [(.int p1), (.int p0)])) t → Steps p.tables e below (s₁.setTop (entryFrame m #[(.int p0), (.int p1)] 2)) t := by
    intro t k
    refine pre0 t ?_
    show Steps p.tables e below (s₁.setTop (mkF m 0 #[.val (.int p0), .val (.int p1)] [])) _
    refine XS.iloadN X0.here hx rfl (hb hby d1_0) rfl ?_
    show Steps p.tables e below (s₁.setTop (mkF m 1 #[.val (.int p0), .val (.int p1)] [(.int p0)])) _
    refine XS.iloadN X0.here hx rfl (hb hby d1_1) rfl ?_
    exact k
  have pre3 : ∀ t, Steps p.tables e below (s₁.setTop (mkF m 10 #[.val (.int p0), .val (.int p1)] [(.int (v1_1 p0 p1))])) t → Steps p.tables e below (s₁.setTop (entryFrame m #[(.int p0), (.int p1)] 2)) t := by
    intro t k
    by_cases c2 : p0 < p1
    · skip
      rw [show (v1_1 p0 p1) = p1 from (if_pos c2)] at k
      refine pre1 t ?_
      show Steps p.tables e below (s₁.setTop (mkF m 2 #[.val (.int p0), .val (.int p1)] [(.int p1), (.int p0)])) _
      refine XS.icmpYes X0.here hx rfl (pc0 := 2) (pc' := 9) rfl (hb hby d1_2) rfl (XT.ii_lt_t c2) (by decide) (by decide) ?_
      show Steps p.tables e below (s₁.setTop (mkF m 9 #[.val (.int p0), .val (.int p1)] [])) _
      refine XS.iloadN X0.here hx rfl (hb hby d1_9) rfl ?_
      exact k
    · skip
      rw [show (v1_1 p0 p1) = p0 from (if_neg c2)] at k
      refine pre1 t ?_
      show Steps p.tables e below (s₁.setTop (mkF m 2 #[.val (.int p0), .val (.int p1)] [(.int p1), (.int p0)])) _
      refine XS.icmpNo X0.here hx rfl (hb hby d1_2) rfl (XT.ii_lt_f c2) ?_
      show Steps p.tables e below (s₁.setTop (mkF m 5 #[.val (.int p0), .val (.int p1)] [])) _
      refine XS.iloadN X0.here hx rfl (hb hby d1_5) rfl ?_
      show Steps p.tables e below (s₁.setTop (mkF m 6 #[.val (.int p0), .val (.int p1)] [(.int p0)])) _
      refine XS.goto X0.here hx rfl (pc0 := 6) (pc' := 10) rfl (hb hby d1_6) (by decide) (by decide) ?_
      exact k
  obtain ⟨fs, hr, hrun, hended, hW, hsame⟩ := X0.leave (v := some (.int (v1_1 p0 p1))) (fun h => by rw [Bd.returns] at h; cases h) hlk
  refine ⟨_, _, pre3 _ ?_, hrun, hended, _, _, rfl, ?_, ⟨_, rfl⟩, hW, hsame.mono (by decide) (by decide)⟩
  · skip
    show Steps p.tables e below (s₁.setTop (mkF m 10 #[.val (.int p0), .val (.int p1)] [(.int (v1_1 p0 p1))])) _
    exact retI X0 hx Bd.returns (hb hby d1_10) hr
  · skip
    show Q1 Z p0 p1 h0 n0 _ s₁.heap _
    rw [e0]
    exact ⟨N0, rfl, rfl⟩
theorem d2_0 : decode prog_26_method_1_code 0 = .ok (.aload_n 0, 1) := by decide +kernel
theorem d2_1 : decode prog_26_method_1_code 1 = .ok (.invokespecial 1, 3) := by decide +kernel
theorem d2_4 : decode prog_26_method_1_code 4 = .ok (.iload_n 1, 1) := by decide +kernel
theorem d2_5 : decode prog_26_method_1_code 5 = .ok (.ifCond .lt 8, 3) := by decide +kernel
theorem d2_8 : decode prog_26_method_1_code 8 = .ok (.iload 4, 2) := by decide +kernel
theorem d2_10 : decode prog_26_method_1_code 10 = .ok (.ifCond .ge 19, 3) := by decide +kernel
theorem d2_29 : decode prog_26_method_1_code 29 = .ok (.iload_n 2, 1) := by decide +kernel
theorem d2_30 : decode prog_26_method_1_code 30 = .ok (.iconst 1, 1) := by decide +kernel
theorem d2_31 : decode prog_26_method_1_code 31 = .ok (.if_icmp .lt 9, 3) := by decide +kernel
theorem d2_34 : decode prog_26_method_1_code 34 = .ok (.iload 5, 2) := by decide +kernel
theorem d2_36 : decode prog_26_method_1_code 36 = .ok (.iconst 1, 1) := by decide +kernel
theorem d2_37 : decode prog_26_method_1_code 37 = .ok (.if_icmp .ge 19, 3) := by decide +kernel
theorem d2_56 : decode prog_26_method_1_code 56 = .ok (.aload_n 0, 1) := by decide +kernel
theorem d2_57 : decode prog_26_method_1_code 57 = .ok (.iload_n 1, 1) := by decide +kernel
theorem d2_58 : decode prog_26_method_1_code 58 = .ok (.putfield 17, 3) := by decide +kernel
theorem d2_61 : decode prog_26_method_1_code 61 = .ok (.aload_n 0, 1) := by decide +kernel
theorem d2_62 : decode prog_26_method_1_code 62 = .ok (.iload_n 2, 1) := by decide +kernel
theorem d2_63 : decode prog_26_method_1_code 63 = .ok (.putfield 23, 3) := by decide +kernel
theorem d2_66 : decode prog_26_method_1_code 66 = .ok (.aload_n 0, 1) := by decide +kernel
theorem d2_67 : decode prog_26_method_1_code 67 = .ok (.iload_n 3, 1) := by decide +kernel
theorem d2_68 : decode prog_26_method_1_code 68 = .ok (.putfield 26, 3) := by decide +kernel
theorem d2_71 : decode prog_26_method_1_code 71 = .ok (.aload_n 0, 1) := by decide +kernel
theorem d2_72 : decode prog_26_method_1_code 72 = .ok (.iload 4, 2) := by decide +kernel
theorem d2_74 : decode prog_26_method_1_code 74 = .ok (.putfield 29, 3) := by decide +kernel
theorem d2_77 : decode prog_26_method_1_code 77 = .ok (.aload_n 0, 1) := by decide +kernel
theorem d2_78 : decode prog_26_method_1_code 78 = .ok (.iload 5, 2) := by decide +kernel
theorem d2_80 : decode prog_26_method_1_code 80 = .ok (.putfield 32, 3) := by decide +kernel
theorem d2_83 : decode prog_26_method_1_code 83 = .ok (.return_, 1) := by decide +kernel
theorem pn_com_example_vannus_vannus_Passage : plainName "com/example/vannus/vannus/Passage" = true := by first | (simp [plainName, overriddenIn]; done) | decide +kernel
theorem ef_2 (m : MethodId) (o0 : Addr) (p1 : Int32) (p2 : Int32) (p3 : Int32) (p4 : Int32) (p5 : Int32) : entryFrame m #[(.ref o0), (.int p1), (.int p2), (.int p3), (.int p4), (.int p5)] 6 = mkF m 0 #[.val (.ref o0), .val (.int p1), .val (.int p2), .val (.int p3), .val (.int p4), .val (.int p5)] [] := by first | (simp [entryFrame, mkF, argsToLocals, Value.category]; done) | rfl
def Q2 (Z : State) (o0 : Addr) (p1 : Int32) (p2 : Int32) (p3 : Int32) (p4 : Int32) (p5 : Int32) (u0_start : Value) (u1_length : Value) (u2_source : Value) (u3_sourceStart : Value) (u4_sourceLength : Value) (h0 : Heap) (n0 : Nat) (v : Option Value) (h : Heap) (L : List Loc) : Prop := Fr n0 L ∧ v = none ∧ Keep h0 h [o0] ∧ Exa Z h o0 "com/example/vannus/vannus/Passage" ∧ Fld Z h o0 "com/example/vannus/vannus/Passage" "start" "I" (.int p1) ∧ Fld Z h o0 "com/example/vannus/vannus/Passage" "length" "I" (.int p2) ∧ Fld Z h o0 "com/example/vannus/vannus/Passage" "source" "I" (.int p3) ∧ Fld Z h o0 "com/example/vannus/vannus/Passage" "sourceStart" "I" (.int p4) ∧ Fld Z h o0 "com/example/vannus/vannus/Passage" "sourceLength" "I" (.int p5)
set_option maxRecDepth 65536 in
set_option maxHeartbeats 40000000 in
theorem rm2 (l : Launch) (Z : State) (a0 : Array Value) (hw : ∀ d ∈ tables_1, d.before a0 Z = true) (ws : List Jvm.Cond) (o0 : Addr) (p1 : Int32) (p2 : Int32) (p3 : Int32) (p4 : Int32) (p5 : Int32) (u0_start : Value) (u1_length : Value) (u2_source : Value) (u3_sourceStart : Value) (u4_sourceLength : Value) (h0 : Heap) (n0 : Nat) (Z0 : n0 ≤ h0.size) (hy0 : ¬ (p1 < (0 : Int32))) (hy1 : ¬ (p4 < (0 : Int32))) (hy2 : ¬ (p2 < (1 : Int32))) (hy3 : ¬ (p5 < (1 : Int32))) (E_o0 : Exa Z h0 o0 "com/example/vannus/vannus/Passage") (F_start_o0 : Fld Z h0 o0 "com/example/vannus/vannus/Passage" "start" "I" u0_start) (g_o0 : n0 ≤ o0) (F_length_o0 : Fld Z h0 o0 "com/example/vannus/vannus/Passage" "length" "I" u1_length) (F_source_o0 : Fld Z h0 o0 "com/example/vannus/vannus/Passage" "source" "I" u2_source) (F_sourceStart_o0 : Fld Z h0 o0 "com/example/vannus/vannus/Passage" "sourceStart" "I" u3_sourceStart) (F_sourceLength_o0 : Fld Z h0 o0 "com/example/vannus/vannus/Passage" "sourceLength" "I" u4_sourceLength) :
    MetFree l (⟨"com/example/vannus/vannus/Passage", "<init>", "(IIIII)V"⟩ : MethodName) (head1 (Jvm.Cond.code (⟨"com/example/vannus/vannus/Passage", "<init>", "(IIIII)V"⟩ : MethodName) prog_26_method_1_code 6 none :: ws) ({ frames := 1, cells := 0, slots := 0, locals := 12 } : Room)) (fun a U => a = #[(.ref o0), (.int p1), (.int p2), (.int p3), (.int p4), (.int p5)] ∧ Z.Warmed39 U.vm ∧ U.heap = h0) (fun _ _ _ _ _ => True) (fun _ U o U' => ∃ v L, o = .returned v ∧ Q2 Z o0 p1 p2 p3 p4 p5 u0_start u1_length u2_source u3_sourceStart u4_sourceLength h0 n0 v U'.heap L ∧ FrameEnd U o U' L ({ frames := 1, cells := 0, slots := 0, locals := 12 } : Room).cells ({ frames := 1, cells := 0, slots := 0, locals := 12 } : Room).slots) := by
  refine MetFree.of_bodySF (plainFor_of_name pn_com_example_vannus_vannus_Passage) hisR ?_
  intro p e s m args below meth c s₁ Bd hml0 hP hK
  obtain ⟨rfl, hZ, hh⟩ := hP
  have hx := Bd.exec
  have hby := Bd.bytes
  have hml : c.maxLocals = 6 := hml0
  have hown : s.vm.findClass "com/example/vannus/vannus/Passage" = some m.cls := findClass_of_methodNamed Bd.named
  have hnm := (name_of_methodNamed Bd.named Bd.method).1
  have hlk := BodyLoose.notSynchronized Bd
  have X0 : Stand p l e ({ frames := 1, cells := 0, slots := 0, locals := 12 } : Room) s m #[(.ref o0), (.int p1), (.int p2), (.int p3), (.int p4), (.int p5)] below meth c s₁ [] 0 0 := Stand.of_body Bd
  have e0 : s₁.heap = h0 := by rw [← hh, Bd.state]; rfl
  have N0 := Fr.nil n0
  have pre0 : ∀ t, Steps p.tables e below (s₁.setTop (mkF m 0 #[.val (.ref o0), .val (.int p1), .val (.int p2), .val (.int p3), .val (.int p4), .val (.int p5)] [])) t → Steps p.tables e below (s₁.setTop (entryFrame m #[(.ref o0), (.int p1), (.int p2), (.int p3), (.int p4), (.int p5)] 6)) t := fun t k => castTop (ef_2 m o0 p1 p2 p3 p4 p5) k
  obtain ⟨T1, X1, e1, st1⟩ := initO X0 hx hZ hown (hw _ (List.mem_of_getElem? (i := 11) rfl)) (hw _ (List.mem_of_getElem? (i := 12) rfl)) (hw _ (List.mem_of_getElem? (i := 13) rfl)) e0 (g := (mkF m 1 #[.val (.ref o0), .val (.int p1), .val (.int p2), .val (.int p3), .val (.int p4), .val (.int p5)] [(.ref o0)])) rfl (by rw [hml]; rfl) rfl (hb hby d2_1) (by decide) (W := 0) (by show 2 * 0 + _ ≤ _; exact Nat.le_of_eq rfl) (by decide)
  obtain ⟨T2, h2, X2, e2, W2, st2⟩ := putF X1 hx hZ hown (host := "") (Or.inl (hw _ (List.mem_of_getElem? (i := 14) rfl))) Via.refl e1 F_start_o0 E_o0 (Or.inr ⟨(hw _ (List.mem_of_getElem? (i := 15) rfl)), rfl, hnm⟩) (hw _ (List.mem_of_getElem? (i := 6) rfl)) (ty := .int) (by decide) rfl rfl (g := (mkF m 58 #[.val (.ref o0), .val (.int p1), .val (.int p2), .val (.int p3), .val (.int p4), .val (.int p5)] [(.int p1), (.ref o0)])) rfl rfl (hb hby d2_58)
  have Fw2 := F_start_o0.same W2
  have N2 := Fr.snoc X2 N0 g_o0
  have z3 : n0 ≤ h2.size := Nat.le_trans Z0 (Keep.of_wr W2).1
  have hs4 : h0.size ≤ h2.size := Nat.le_trans (Nat.le_refl h0.size) (Keep.of_wr W2).1
  have k5 := (F_length_o0.other W2 (Or.inr (slot_ne (Or.inr (hw _ (List.mem_of_getElem? (i := 17) rfl))) (Or.inr (hw _ (List.mem_of_getElem? (i := 15) rfl))) (by decide) (t := .int) (t' := .int) (by decide) (by decide))))
  have k6 := (E_o0.wr W2)
  obtain ⟨T7, h7, X7, e7, W7, st7⟩ := putF X2 hx hZ hown (host := "") (Or.inl (hw _ (List.mem_of_getElem? (i := 16) rfl))) Via.refl e2 k5 k6 (Or.inr ⟨(hw _ (List.mem_of_getElem? (i := 17) rfl)), rfl, hnm⟩) (hw _ (List.mem_of_getElem? (i := 6) rfl)) (ty := .int) (by decide) rfl rfl (g := (mkF m 63 #[.val (.ref o0), .val (.int p1), .val (.int p2), .val (.int p3), .val (.int p4), .val (.int p5)] [(.int p2), (.ref o0)])) rfl rfl (hb hby d2_63)
  have Fw7 := k5.same W7
  have N7 := Fr.snoc X7 N2 g_o0
  have z8 : n0 ≤ h7.size := Nat.le_trans z3 (Keep.of_wr W7).1
  have hs9 : h0.size ≤ h7.size := Nat.le_trans hs4 (Keep.of_wr W7).1
  have k10 := ((F_source_o0.other W2 (Or.inr (slot_ne (Or.inr (hw _ (List.mem_of_getElem? (i := 19) rfl))) (Or.inr (hw _ (List.mem_of_getElem? (i := 15) rfl))) (by decide) (t := .int) (t' := .int) (by decide) (by decide)))).other W7 (Or.inr (slot_ne (Or.inr (hw _ (List.mem_of_getElem? (i := 19) rfl))) (Or.inr (hw _ (List.mem_of_getElem? (i := 17) rfl))) (by decide) (t := .int) (t' := .int) (by decide) (by decide))))
  have k11 := (k6.wr W7)
  obtain ⟨T12, h12, X12, e12, W12, st12⟩ := putF X7 hx hZ hown (host := "") (Or.inl (hw _ (List.mem_of_getElem? (i := 18) rfl))) Via.refl e7 k10 k11 (Or.inr ⟨(hw _ (List.mem_of_getElem? (i := 19) rfl)), rfl, hnm⟩) (hw _ (List.mem_of_getElem? (i := 6) rfl)) (ty := .int) (by decide) rfl rfl (g := (mkF m 68 #[.val (.ref o0), .val (.int p1), .val (.int p2), .val (.int p3), .val (.int p4), .val (.int p5)] [(.int p3), (.ref o0)])) rfl rfl (hb hby d2_68)
  have Fw12 := k10.same W12
  have N12 := Fr.snoc X12 N7 g_o0
  have z13 : n0 ≤ h12.size := Nat.le_trans z8 (Keep.of_wr W12).1
  have hs14 : h0.size ≤ h12.size := Nat.le_trans hs9 (Keep.of_wr W12).1
  have k15 := (((F_sourceStart_o0.other W2 (Or.inr (slot_ne (Or.inr (hw _ (List.mem_of_getElem? (i := 21) rfl))) (Or.inr (hw _ (List.mem_of_getElem? (i := 15) rfl))) (by decide) (t := .int) (t' := .int) (by decide) (by decide)))).other W7 (Or.inr (slot_ne (Or.inr (hw _ (List.mem_of_getElem? (i := 21) rfl))) (Or.inr (hw _ (List.mem_of_getElem? (i := 17) rfl))) (by decide) (t := .int) (t' := .int) (by decide) (by decide)))).other W12 (Or.inr (slot_ne (Or.inr (hw _ (List.mem_of_getElem? (i := 21) rfl))) (Or.inr (hw _ (List.mem_of_getElem? (i := 19) rfl))) (by decide) (t := .int) (t' := .int) (by decide) (by decide))))
  have k16 := (k11.wr W12)
  obtain ⟨T17, h17, X17, e17, W17, st17⟩ := putF X12 hx hZ hown (host := "") (Or.inl (hw _ (List.mem_of_getElem? (i := 20) rfl))) Via.refl e12 k15 k16 (Or.inr ⟨(hw _ (List.mem_of_getElem? (i := 21) rfl)), rfl, hnm⟩) (hw _ (List.mem_of_getElem? (i := 6) rfl)) (ty := .int) (by decide) rfl rfl (g := (mkF m 74 #[.val (.ref o0), .val (.int p1), .val (.int p2), .val (.int p3), .val (.int p4), .val (.int p5)] [(.int p4), (.ref o0)])) rfl rfl (hb hby d2_74)
  have Fw17 := k15.same W17
  have N17 := Fr.snoc X17 N12 g_o0
  have z18 : n0 ≤ h17.size := Nat.le_trans z13 (Keep.of_wr W17).1
  have hs19 : h0.size ≤ h17.size := Nat.le_trans hs14 (Keep.of_wr W17).1
  have k20 := ((((F_sourceLength_o0.other W2 (Or.inr (slot_ne (Or.inr (hw _ (List.mem_of_getElem? (i := 23) rfl))) (Or.inr (hw _ (List.mem_of_getElem? (i := 15) rfl))) (by decide) (t := .int) (t' := .int) (by decide) (by decide)))).other W7 (Or.inr (slot_ne (Or.inr (hw _ (List.mem_of_getElem? (i := 23) rfl))) (Or.inr (hw _ (List.mem_of_getElem? (i := 17) rfl))) (by decide) (t := .int) (t' := .int) (by decide) (by decide)))).other W12 (Or.inr (slot_ne (Or.inr (hw _ (List.mem_of_getElem? (i := 23) rfl))) (Or.inr (hw _ (List.mem_of_getElem? (i := 19) rfl))) (by decide) (t := .int) (t' := .int) (by decide) (by decide)))).other W17 (Or.inr (slot_ne (Or.inr (hw _ (List.mem_of_getElem? (i := 23) rfl))) (Or.inr (hw _ (List.mem_of_getElem? (i := 21) rfl))) (by decide) (t := .int) (t' := .int) (by decide) (by decide))))
  have k21 := (k16.wr W17)
  obtain ⟨T22, h22, X22, e22, W22, st22⟩ := putF X17 hx hZ hown (host := "") (Or.inl (hw _ (List.mem_of_getElem? (i := 22) rfl))) Via.refl e17 k20 k21 (Or.inr ⟨(hw _ (List.mem_of_getElem? (i := 23) rfl)), rfl, hnm⟩) (hw _ (List.mem_of_getElem? (i := 6) rfl)) (ty := .int) (by decide) rfl rfl (g := (mkF m 80 #[.val (.ref o0), .val (.int p1), .val (.int p2), .val (.int p3), .val (.int p4), .val (.int p5)] [(.int p5), (.ref o0)])) rfl rfl (hb hby d2_80)
  have Fw22 := k20.same W22
  have N22 := Fr.snoc X22 N17 g_o0
  have z23 : n0 ≤ h22.size := Nat.le_trans z18 (Keep.of_wr W22).1
  have hs24 : h0.size ≤ h22.size := Nat.le_trans hs19 (Keep.of_wr W22).1
  obtain ⟨fs, hr, hrun, hended, hW, hsame⟩ := X22.leave (v := none) (fun _ => rfl) hlk
  refine ⟨_, _, pre0 _ ?_, hrun, hended, _, _, rfl, ?_, ⟨_, rfl⟩, hW, hsame.mono (by decide) (by decide)⟩
  · skip
    show Steps p.tables e below (s₁.setTop (mkF m 0 #[.val (.ref o0), .val (.int p1), .val (.int p2), .val (.int p3), .val (.int p4), .val (.int p5)] [])) _
    refine XS.aloadN X0.here hx rfl (hb hby d2_0) rfl rfl ?_
    show Steps p.tables e below (s₁.setTop (mkF m 1 #[.val (.ref o0), .val (.int p1), .val (.int p2), .val (.int p3), .val (.int p4), .val (.int p5)] [(.ref o0)])) _
    refine st1 _ ?_
    show Steps p.tables e below (T1.setTop (mkF m 4 #[.val (.ref o0), .val (.int p1), .val (.int p2), .val (.int p3), .val (.int p4), .val (.int p5)] [])) _
    refine XS.iloadN X1.here hx rfl (hb hby d2_4) rfl ?_
    show Steps p.tables e below (T1.setTop (mkF m 5 #[.val (.ref o0), .val (.int p1), .val (.int p2), .val (.int p3), .val (.int p4), .val (.int p5)] [(.int p1)])) _
    refine XS.ifNo X1.here hx rfl (hb hby d2_5) rfl (XT.i0_lt_f hy0) ?_
    show Steps p.tables e below (T1.setTop (mkF m 8 #[.val (.ref o0), .val (.int p1), .val (.int p2), .val (.int p3), .val (.int p4), .val (.int p5)] [])) _
    refine XS.iload X1.here hx rfl (hb hby d2_8) rfl ?_
    show Steps p.tables e below (T1.setTop (mkF m 10 #[.val (.ref o0), .val (.int p1), .val (.int p2), .val (.int p3), .val (.int p4), .val (.int p5)] [(.int p4)])) _
    refine XS.ifYes X1.here hx rfl (pc0 := 10) (pc' := 29) rfl (hb hby d2_10) rfl (XT.i0_ge_t hy1) (by decide) (by decide) ?_
    show Steps p.tables e below (T1.setTop (mkF m 29 #[.val (.ref o0), .val (.int p1), .val (.int p2), .val (.int p3), .val (.int p4), .val (.int p5)] [])) _
    refine XS.iloadN X1.here hx rfl (hb hby d2_29) rfl ?_
    show Steps p.tables e below (T1.setTop (mkF m 30 #[.val (.ref o0), .val (.int p1), .val (.int p2), .val (.int p3), .val (.int p4), .val (.int p5)] [(.int p2)])) _
    refine XT.iconstV X1.here hx rfl (1 : Int32) (hb hby d2_30) (by decide) ?_
    show Steps p.tables e below (T1.setTop (mkF m 31 #[.val (.ref o0), .val (.int p1), .val (.int p2), .val (.int p3), .val (.int p4), .val (.int p5)] [(.int (1 : Int32)), (.int p2)])) _
    refine XS.icmpNo X1.here hx rfl (hb hby d2_31) rfl (XT.ii_lt_f hy2) ?_
    show Steps p.tables e below (T1.setTop (mkF m 34 #[.val (.ref o0), .val (.int p1), .val (.int p2), .val (.int p3), .val (.int p4), .val (.int p5)] [])) _
    refine XS.iload X1.here hx rfl (hb hby d2_34) rfl ?_
    show Steps p.tables e below (T1.setTop (mkF m 36 #[.val (.ref o0), .val (.int p1), .val (.int p2), .val (.int p3), .val (.int p4), .val (.int p5)] [(.int p5)])) _
    refine XT.iconstV X1.here hx rfl (1 : Int32) (hb hby d2_36) (by decide) ?_
    show Steps p.tables e below (T1.setTop (mkF m 37 #[.val (.ref o0), .val (.int p1), .val (.int p2), .val (.int p3), .val (.int p4), .val (.int p5)] [(.int (1 : Int32)), (.int p5)])) _
    refine XS.icmpYes X1.here hx rfl (pc0 := 37) (pc' := 56) rfl (hb hby d2_37) rfl (XT.ii_ge_t hy3) (by decide) (by decide) ?_
    show Steps p.tables e below (T1.setTop (mkF m 56 #[.val (.ref o0), .val (.int p1), .val (.int p2), .val (.int p3), .val (.int p4), .val (.int p5)] [])) _
    refine XS.aloadN X1.here hx rfl (hb hby d2_56) rfl rfl ?_
    show Steps p.tables e below (T1.setTop (mkF m 57 #[.val (.ref o0), .val (.int p1), .val (.int p2), .val (.int p3), .val (.int p4), .val (.int p5)] [(.ref o0)])) _
    refine XS.iloadN X1.here hx rfl (hb hby d2_57) rfl ?_
    show Steps p.tables e below (T1.setTop (mkF m 58 #[.val (.ref o0), .val (.int p1), .val (.int p2), .val (.int p3), .val (.int p4), .val (.int p5)] [(.int p1), (.ref o0)])) _
    refine st2 _ ?_
    show Steps p.tables e below (T2.setTop (mkF m 61 #[.val (.ref o0), .val (.int p1), .val (.int p2), .val (.int p3), .val (.int p4), .val (.int p5)] [])) _
    refine XS.aloadN X2.here hx rfl (hb hby d2_61) rfl rfl ?_
    show Steps p.tables e below (T2.setTop (mkF m 62 #[.val (.ref o0), .val (.int p1), .val (.int p2), .val (.int p3), .val (.int p4), .val (.int p5)] [(.ref o0)])) _
    refine XS.iloadN X2.here hx rfl (hb hby d2_62) rfl ?_
    show Steps p.tables e below (T2.setTop (mkF m 63 #[.val (.ref o0), .val (.int p1), .val (.int p2), .val (.int p3), .val (.int p4), .val (.int p5)] [(.int p2), (.ref o0)])) _
    refine st7 _ ?_
    show Steps p.tables e below (T7.setTop (mkF m 66 #[.val (.ref o0), .val (.int p1), .val (.int p2), .val (.int p3), .val (.int p4), .val (.int p5)] [])) _
    refine XS.aloadN X7.here hx rfl (hb hby d2_66) rfl rfl ?_
    show Steps p.tables e below (T7.setTop (mkF m 67 #[.val (.ref o0), .val (.int p1), .val (.int p2), .val (.int p3), .val (.int p4), .val (.int p5)] [(.ref o0)])) _
    refine XS.iloadN X7.here hx rfl (hb hby d2_67) rfl ?_
    show Steps p.tables e below (T7.setTop (mkF m 68 #[.val (.ref o0), .val (.int p1), .val (.int p2), .val (.int p3), .val (.int p4), .val (.int p5)] [(.int p3), (.ref o0)])) _
    refine st12 _ ?_
    show Steps p.tables e below (T12.setTop (mkF m 71 #[.val (.ref o0), .val (.int p1), .val (.int p2), .val (.int p3), .val (.int p4), .val (.int p5)] [])) _
    refine XS.aloadN X12.here hx rfl (hb hby d2_71) rfl rfl ?_
    show Steps p.tables e below (T12.setTop (mkF m 72 #[.val (.ref o0), .val (.int p1), .val (.int p2), .val (.int p3), .val (.int p4), .val (.int p5)] [(.ref o0)])) _
    refine XS.iload X12.here hx rfl (hb hby d2_72) rfl ?_
    show Steps p.tables e below (T12.setTop (mkF m 74 #[.val (.ref o0), .val (.int p1), .val (.int p2), .val (.int p3), .val (.int p4), .val (.int p5)] [(.int p4), (.ref o0)])) _
    refine st17 _ ?_
    show Steps p.tables e below (T17.setTop (mkF m 77 #[.val (.ref o0), .val (.int p1), .val (.int p2), .val (.int p3), .val (.int p4), .val (.int p5)] [])) _
    refine XS.aloadN X17.here hx rfl (hb hby d2_77) rfl rfl ?_
    show Steps p.tables e below (T17.setTop (mkF m 78 #[.val (.ref o0), .val (.int p1), .val (.int p2), .val (.int p3), .val (.int p4), .val (.int p5)] [(.ref o0)])) _
    refine XS.iload X17.here hx rfl (hb hby d2_78) rfl ?_
    show Steps p.tables e below (T17.setTop (mkF m 80 #[.val (.ref o0), .val (.int p1), .val (.int p2), .val (.int p3), .val (.int p4), .val (.int p5)] [(.int p5), (.ref o0)])) _
    refine st22 _ ?_
    show Steps p.tables e below (T22.setTop (mkF m 83 #[.val (.ref o0), .val (.int p1), .val (.int p2), .val (.int p3), .val (.int p4), .val (.int p5)] [])) _
    exact X22.returnOut hx Bd.returns (hb hby d2_83) hr
  · skip
    show Q2 Z o0 p1 p2 p3 p4 p5 u0_start u1_length u2_source u3_sourceStart u4_sourceLength h0 n0 _ T22.heap _
    rw [e22]
    have k25 := (k21.wr W22)
    have k26 := ((((Fw2.other W7 (Or.inr (slot_ne (Or.inr (hw _ (List.mem_of_getElem? (i := 15) rfl))) (Or.inr (hw _ (List.mem_of_getElem? (i := 17) rfl))) (by decide) (t := .int) (t' := .int) (by decide) (by decide)))).other W12 (Or.inr (slot_ne (Or.inr (hw _ (List.mem_of_getElem? (i := 15) rfl))) (Or.inr (hw _ (List.mem_of_getElem? (i := 19) rfl))) (by decide) (t := .int) (t' := .int) (by decide) (by decide)))).other W17 (Or.inr (slot_ne (Or.inr (hw _ (List.mem_of_getElem? (i := 15) rfl))) (Or.inr (hw _ (List.mem_of_getElem? (i := 21) rfl))) (by decide) (t := .int) (t' := .int) (by decide) (by decide)))).other W22 (Or.inr (slot_ne (Or.inr (hw _ (List.mem_of_getElem? (i := 15) rfl))) (Or.inr (hw _ (List.mem_of_getElem? (i := 23) rfl))) (by decide) (t := .int) (t' := .int) (by decide) (by decide))))
    have k27 := (((Fw7.other W12 (Or.inr (slot_ne (Or.inr (hw _ (List.mem_of_getElem? (i := 17) rfl))) (Or.inr (hw _ (List.mem_of_getElem? (i := 19) rfl))) (by decide) (t := .int) (t' := .int) (by decide) (by decide)))).other W17 (Or.inr (slot_ne (Or.inr (hw _ (List.mem_of_getElem? (i := 17) rfl))) (Or.inr (hw _ (List.mem_of_getElem? (i := 21) rfl))) (by decide) (t := .int) (t' := .int) (by decide) (by decide)))).other W22 (Or.inr (slot_ne (Or.inr (hw _ (List.mem_of_getElem? (i := 17) rfl))) (Or.inr (hw _ (List.mem_of_getElem? (i := 23) rfl))) (by decide) (t := .int) (t' := .int) (by decide) (by decide))))
    have k28 := ((Fw12.other W17 (Or.inr (slot_ne (Or.inr (hw _ (List.mem_of_getElem? (i := 19) rfl))) (Or.inr (hw _ (List.mem_of_getElem? (i := 21) rfl))) (by decide) (t := .int) (t' := .int) (by decide) (by decide)))).other W22 (Or.inr (slot_ne (Or.inr (hw _ (List.mem_of_getElem? (i := 19) rfl))) (Or.inr (hw _ (List.mem_of_getElem? (i := 23) rfl))) (by decide) (t := .int) (t' := .int) (by decide) (by decide))))
    have k29 := (Fw17.other W22 (Or.inr (slot_ne (Or.inr (hw _ (List.mem_of_getElem? (i := 21) rfl))) (Or.inr (hw _ (List.mem_of_getElem? (i := 23) rfl))) (by decide) (t := .int) (t' := .int) (by decide) (by decide))))
    exact ⟨N22, rfl, ((((((Keep.refl h0 [o0]).wr W2 (Or.inl (List.mem_of_getElem? (i := 0) rfl))).wr W7 (Or.inl (List.mem_of_getElem? (i := 0) rfl))).wr W12 (Or.inl (List.mem_of_getElem? (i := 0) rfl))).wr W17 (Or.inl (List.mem_of_getElem? (i := 0) rfl))).wr W22 (Or.inl (List.mem_of_getElem? (i := 0) rfl))), k25, k26, k27, k28, k29, Fw22⟩
theorem d4_0 : decode prog_26_method_9_code 0 = .ok (.aload_n 1, 1) := by decide +kernel
theorem d4_1 : decode prog_26_method_9_code 1 = .ok (.instanceof 18, 3) := by decide +kernel
theorem d4_4 : decode prog_26_method_9_code 4 = .ok (.ifCond .eq 67, 3) := by decide +kernel
theorem d4_7 : decode prog_26_method_9_code 7 = .ok (.aload_n 1, 1) := by decide +kernel
theorem d4_8 : decode prog_26_method_9_code 8 = .ok (.checkcast 18, 3) := by decide +kernel
theorem d4_11 : decode prog_26_method_9_code 11 = .ok (.astore_n 2, 1) := by decide +kernel
theorem d4_12 : decode prog_26_method_9_code 12 = .ok (.aload_n 0, 1) := by decide +kernel
theorem d4_13 : decode prog_26_method_9_code 13 = .ok (.getfield 17, 3) := by decide +kernel
theorem d4_16 : decode prog_26_method_9_code 16 = .ok (.aload_n 2, 1) := by decide +kernel
theorem d4_17 : decode prog_26_method_9_code 17 = .ok (.getfield 17, 3) := by decide +kernel
theorem d4_20 : decode prog_26_method_9_code 20 = .ok (.if_icmp .ne 51, 3) := by decide +kernel
theorem d4_23 : decode prog_26_method_9_code 23 = .ok (.aload_n 0, 1) := by decide +kernel
theorem d4_24 : decode prog_26_method_9_code 24 = .ok (.getfield 23, 3) := by decide +kernel
theorem d4_27 : decode prog_26_method_9_code 27 = .ok (.aload_n 2, 1) := by decide +kernel
theorem d4_28 : decode prog_26_method_9_code 28 = .ok (.getfield 23, 3) := by decide +kernel
theorem d4_31 : decode prog_26_method_9_code 31 = .ok (.if_icmp .ne 40, 3) := by decide +kernel
theorem d4_34 : decode prog_26_method_9_code 34 = .ok (.aload_n 0, 1) := by decide +kernel
theorem d4_35 : decode prog_26_method_9_code 35 = .ok (.getfield 26, 3) := by decide +kernel
theorem d4_38 : decode prog_26_method_9_code 38 = .ok (.aload_n 2, 1) := by decide +kernel
theorem d4_39 : decode prog_26_method_9_code 39 = .ok (.getfield 26, 3) := by decide +kernel
theorem d4_42 : decode prog_26_method_9_code 42 = .ok (.if_icmp .ne 29, 3) := by decide +kernel
theorem d4_45 : decode prog_26_method_9_code 45 = .ok (.aload_n 0, 1) := by decide +kernel
theorem d4_46 : decode prog_26_method_9_code 46 = .ok (.getfield 29, 3) := by decide +kernel
theorem d4_49 : decode prog_26_method_9_code 49 = .ok (.aload_n 2, 1) := by decide +kernel
theorem d4_50 : decode prog_26_method_9_code 50 = .ok (.getfield 29, 3) := by decide +kernel
theorem d4_53 : decode prog_26_method_9_code 53 = .ok (.if_icmp .ne 18, 3) := by decide +kernel
theorem d4_56 : decode prog_26_method_9_code 56 = .ok (.aload_n 0, 1) := by decide +kernel
theorem d4_57 : decode prog_26_method_9_code 57 = .ok (.getfield 32, 3) := by decide +kernel
theorem d4_60 : decode prog_26_method_9_code 60 = .ok (.aload_n 2, 1) := by decide +kernel
theorem d4_61 : decode prog_26_method_9_code 61 = .ok (.getfield 32, 3) := by decide +kernel
theorem d4_64 : decode prog_26_method_9_code 64 = .ok (.if_icmp .ne 7, 3) := by decide +kernel
theorem d4_67 : decode prog_26_method_9_code 67 = .ok (.iconst 1, 1) := by decide +kernel
theorem d4_68 : decode prog_26_method_9_code 68 = .ok (.goto 4, 3) := by decide +kernel
theorem d4_71 : decode prog_26_method_9_code 71 = .ok (.iconst 0, 1) := by decide +kernel
theorem d4_72 : decode prog_26_method_9_code 72 = .ok (.ireturn, 1) := by decide +kernel
theorem ef_4 (m : MethodId) (o0 : Addr) (o1 : Addr) : entryFrame m #[(.ref o0), (.ref o1)] 3 = mkF m 0 #[.val (.ref o0), .val (.ref o1), .unset] [] := by first | (simp [entryFrame, mkF, argsToLocals, Value.category]; done) | rfl
def v4_1 (w0_start : Int32) (w1_start : Int32) (w2_length : Int32) (w3_length : Int32) (w4_source : Int32) (w5_source : Int32) (w6_sourceStart : Int32) (w7_sourceStart : Int32) (w8_sourceLength : Int32) (w9_sourceLength : Int32) : Int32 := (if w0_start = w1_start then (if w2_length = w3_length then (if w4_source = w5_source then (if w6_sourceStart = w7_sourceStart then (if w8_sourceLength = w9_sourceLength then (1 : Int32) else (0 : Int32)) else (0 : Int32)) else (0 : Int32)) else (0 : Int32)) else (0 : Int32))
def f4 (w0_start : Int32) (w1_start : Int32) (w2_length : Int32) (w3_length : Int32) (w4_source : Int32) (w5_source : Int32) (w6_sourceStart : Int32) (w7_sourceStart : Int32) (w8_sourceLength : Int32) (w9_sourceLength : Int32) : Int32 := (nar .boolean (v4_1 w0_start w1_start w2_length w3_length w4_source w5_source w6_sourceStart w7_sourceStart w8_sourceLength w9_sourceLength))
def Q4 (Z : State) (o0 : Addr) (o1 : Addr) (w0_start : Int32) (w1_start : Int32) (w2_length : Int32) (w3_length : Int32) (w4_source : Int32) (w5_source : Int32) (w6_sourceStart : Int32) (w7_sourceStart : Int32) (w8_sourceLength : Int32) (w9_sourceLength : Int32) (h0 : Heap) (n0 : Nat) (v : Option Value) (h : Heap) (L : List Loc) : Prop := Fr n0 L ∧ v = some (.int (f4 w0_start w1_start w2_length w3_length w4_source w5_source w6_sourceStart w7_sourceStart w8_sourceLength w9_sourceLength)) ∧ h = h0
set_option maxRecDepth 65536 in
set_option maxHeartbeats 40000000 in
theorem rm4 (l : Launch) (Z : State) (a0 : Array Value) (hw : ∀ d ∈ tables_1, d.before a0 Z = true) (ws : List Jvm.Cond) (o0 : Addr) (o1 : Addr) (w0_start : Int32) (w1_start : Int32) (w2_length : Int32) (w3_length : Int32) (w4_source : Int32) (w5_source : Int32) (w6_sourceStart : Int32) (w7_sourceStart : Int32) (w8_sourceLength : Int32) (w9_sourceLength : Int32) (h0 : Heap) (n0 : Nat) (Z0 : n0 ≤ h0.size) (E_o1 : Exa Z h0 o1 "com/example/vannus/vannus/Passage") (F_start_o0 : Fld Z h0 o0 "com/example/vannus/vannus/Passage" "start" "I" (.int w0_start)) (F_start_o1 : Fld Z h0 o1 "com/example/vannus/vannus/Passage" "start" "I" (.int w1_start)) (F_length_o0 : Fld Z h0 o0 "com/example/vannus/vannus/Passage" "length" "I" (.int w2_length)) (F_length_o1 : Fld Z h0 o1 "com/example/vannus/vannus/Passage" "length" "I" (.int w3_length)) (F_source_o0 : Fld Z h0 o0 "com/example/vannus/vannus/Passage" "source" "I" (.int w4_source)) (F_source_o1 : Fld Z h0 o1 "com/example/vannus/vannus/Passage" "source" "I" (.int w5_source)) (F_sourceStart_o0 : Fld Z h0 o0 "com/example/vannus/vannus/Passage" "sourceStart" "I" (.int w6_sourceStart)) (F_sourceStart_o1 : Fld Z h0 o1 "com/example/vannus/vannus/Passage" "sourceStart" "I" (.int w7_sourceStart)) (F_sourceLength_o0 : Fld Z h0 o0 "com/example/vannus/vannus/Passage" "sourceLength" "I" (.int w8_sourceLength)) (F_sourceLength_o1 : Fld Z h0 o1 "com/example/vannus/vannus/Passage" "sourceLength" "I" (.int w9_sourceLength)) :
    MetFree l (⟨"com/example/vannus/vannus/Passage", "equals", "(Ljava/lang/Object;)Z"⟩ : MethodName) (head1 (Jvm.Cond.code (⟨"com/example/vannus/vannus/Passage", "equals", "(Ljava/lang/Object;)Z"⟩ : MethodName) prog_26_method_9_code 3 (some .boolean) :: ws) ({ frames := 0, cells := 0, slots := 0, locals := 0 } : Room)) (fun a U => a = #[(.ref o0), (.ref o1)] ∧ Z.Warmed39 U.vm ∧ U.heap = h0) (fun _ _ _ _ _ => True) (fun _ U o U' => ∃ v L, o = .returned v ∧ Q4 Z o0 o1 w0_start w1_start w2_length w3_length w4_source w5_source w6_sourceStart w7_sourceStart w8_sourceLength w9_sourceLength h0 n0 v U'.heap L ∧ FrameEnd U o U' L ({ frames := 0, cells := 0, slots := 0, locals := 0 } : Room).cells ({ frames := 0, cells := 0, slots := 0, locals := 0 } : Room).slots) := by
  refine MetFree.of_bodySF (plainFor_of_name pn_com_example_vannus_vannus_Passage) hisR ?_
  intro p e s m args below meth c s₁ Bd hml0 hP hK
  obtain ⟨rfl, hZ, hh⟩ := hP
  have hx := Bd.exec
  have hby := Bd.bytes
  have hml : c.maxLocals = 3 := hml0
  have hown : s.vm.findClass "com/example/vannus/vannus/Passage" = some m.cls := findClass_of_methodNamed Bd.named
  have hnm := (name_of_methodNamed Bd.named Bd.method).1
  have hlk := BodyLoose.notSynchronized Bd
  have X0 : Stand p l e ({ frames := 0, cells := 0, slots := 0, locals := 0 } : Room) s m #[(.ref o0), (.ref o1)] below meth c s₁ [] 0 0 := Stand.of_body Bd
  have e0 : s₁.heap = h0 := by rw [← hh, Bd.state]; rfl
  have N0 := Fr.nil n0
  have pre0 : ∀ t, Steps p.tables e below (s₁.setTop (mkF m 0 #[.val (.ref o0), .val (.ref o1), .unset] [])) t → Steps p.tables e below (s₁.setTop (entryFrame m #[(.ref o0), (.ref o1)] 3)) t := fun t k => castTop (ef_4 m o0 o1) k
  obtain ⟨T1, X1, e1, st1⟩ := instY X0 hx hZ hown (hw _ (List.mem_of_getElem? (i := 29) rfl)) e0 (Ins.self E_o1) (g := (mkF m 1 #[.val (.ref o0), .val (.ref o1), .unset] [(.ref o1)])) rfl rfl (hb hby d4_1)
  obtain ⟨T2, X2, e2, st2⟩ := castY X1 hx hZ hown (hw _ (List.mem_of_getElem? (i := 29) rfl)) e1 (Ins.self E_o1) (g := (mkF m 8 #[.val (.ref o0), .val (.ref o1), .unset] [(.ref o1)])) rfl rfl (hb hby d4_8)
  obtain ⟨T3, X3, e3, st3⟩ := getF X2 hx hZ hown (host := "") (Or.inl (hw _ (List.mem_of_getElem? (i := 14) rfl))) Via.refl e2 F_start_o0 (g := (mkF m 13 #[.val (.ref o0), .val (.ref o1), .val (.ref o1)] [(.ref o0)])) rfl rfl (hb hby d4_13)
  obtain ⟨T4, X4, e4, st4⟩ := getF X3 hx hZ hown (host := "") (Or.inl (hw _ (List.mem_of_getElem? (i := 14) rfl))) Via.refl e3 F_start_o1 (g := (mkF m 17 #[.val (.ref o0), .val (.ref o1), .val (.ref o1)] [(.ref o1), (.int w0_start)])) rfl rfl (hb hby d4_17)
  have pre5 : ∀ t, Steps p.tables e below (T4.setTop (mkF m 20 #[.val (.ref o0), .val (.ref o1), .val (.ref o1)] [(.int w1_start), (.int w0_start)])) t → Steps p.tables e below (s₁.setTop (entryFrame m #[(.ref o0), (.ref o1)] 3)) t := by
    intro t k
    refine pre0 t ?_
    show Steps p.tables e below (s₁.setTop (mkF m 0 #[.val (.ref o0), .val (.ref o1), .unset] [])) _
    refine XS.aloadN X0.here hx rfl (hb hby d4_0) rfl rfl ?_
    show Steps p.tables e below (s₁.setTop (mkF m 1 #[.val (.ref o0), .val (.ref o1), .unset] [(.ref o1)])) _
    refine st1 _ ?_
    show Steps p.tables e below (T1.setTop (mkF m 4 #[.val (.ref o0), .val (.ref o1), .unset] [(.int (1 : Int32))])) _
    refine XS.ifNo X1.here hx rfl (hb hby d4_4) rfl (XT.i0_eq_f (by decide)) ?_
    show Steps p.tables e below (T1.setTop (mkF m 7 #[.val (.ref o0), .val (.ref o1), .unset] [])) _
    refine XS.aloadN X1.here hx rfl (hb hby d4_7) rfl rfl ?_
    show Steps p.tables e below (T1.setTop (mkF m 8 #[.val (.ref o0), .val (.ref o1), .unset] [(.ref o1)])) _
    refine st2 _ ?_
    show Steps p.tables e below (T2.setTop (mkF m 11 #[.val (.ref o0), .val (.ref o1), .unset] [(.ref o1)])) _
    refine XS.astoreN X2.here hx rfl (hb hby d4_11) rfl rfl (l' := #[.val (.ref o0), .val (.ref o1), .val (.ref o1)]) rfl ?_
    show Steps p.tables e below (T2.setTop (mkF m 12 #[.val (.ref o0), .val (.ref o1), .val (.ref o1)] [])) _
    refine XS.aloadN X2.here hx rfl (hb hby d4_12) rfl rfl ?_
    show Steps p.tables e below (T2.setTop (mkF m 13 #[.val (.ref o0), .val (.ref o1), .val (.ref o1)] [(.ref o0)])) _
    refine st3 _ ?_
    show Steps p.tables e below (T3.setTop (mkF m 16 #[.val (.ref o0), .val (.ref o1), .val (.ref o1)] [(.int w0_start)])) _
    refine XS.aloadN X3.here hx rfl (hb hby d4_16) rfl rfl ?_
    show Steps p.tables e below (T3.setTop (mkF m 17 #[.val (.ref o0), .val (.ref o1), .val (.ref o1)] [(.ref o1), (.int w0_start)])) _
    refine st4 _ ?_
    exact k
  obtain ⟨T23, L23, X23, e23, N23, pre23⟩ : ∃ (T' : State) (L' : List Loc), Stand p l e ({ frames := 0, cells := 0, slots := 0, locals := 0 } : Room) s m #[(.ref o0), (.ref o1)] below meth c T' L' 0 0 ∧ T'.heap = h0 ∧ Fr n0 L' ∧ ∀ t, Steps p.tables e below (T'.setTop (mkF m 72 #[.val (.ref o0), .val (.ref o1), .val (.ref o1)] [(.int (v4_1 w0_start w1_start w2_length w3_length w4_source w5_source w6_sourceStart w7_sourceStart w8_sourceLength w9_sourceLength))])) t → Steps p.tables e below (s₁.setTop (entryFrame m #[(.ref o0), (.ref o1)] 3)) t := by
    by_cases c6 : w0_start = w1_start
    · skip
      obtain ⟨T7, X7, e7, st7⟩ := getF X4 hx hZ hown (host := "") (Or.inl (hw _ (List.mem_of_getElem? (i := 16) rfl))) Via.refl e4 F_length_o0 (g := (mkF m 24 #[.val (.ref o0), .val (.ref o1), .val (.ref o1)] [(.ref o0)])) rfl rfl (hb hby d4_24)
      obtain ⟨T8, X8, e8, st8⟩ := getF X7 hx hZ hown (host := "") (Or.inl (hw _ (List.mem_of_getElem? (i := 16) rfl))) Via.refl e7 F_length_o1 (g := (mkF m 28 #[.val (.ref o0), .val (.ref o1), .val (.ref o1)] [(.ref o1), (.int w2_length)])) rfl rfl (hb hby d4_28)
      have pre9 : ∀ t, Steps p.tables e below (T8.setTop (mkF m 31 #[.val (.ref o0), .val (.ref o1), .val (.ref o1)] [(.int w3_length), (.int w2_length)])) t → Steps p.tables e below (s₁.setTop (entryFrame m #[(.ref o0), (.ref o1)] 3)) t := by
        intro t k
        refine pre5 t ?_
        show Steps p.tables e below (T4.setTop (mkF m 20 #[.val (.ref o0), .val (.ref o1), .val (.ref o1)] [(.int w1_start), (.int w0_start)])) _
        refine XS.icmpNo X4.here hx rfl (hb hby d4_20) rfl (XT.ii_ne_f c6) ?_
        show Steps p.tables e below (T4.setTop (mkF m 23 #[.val (.ref o0), .val (.ref o1), .val (.ref o1)] [])) _
        refine XS.aloadN X4.here hx rfl (hb hby d4_23) rfl rfl ?_
        show Steps p.tables e below (T4.setTop (mkF m 24 #[.val (.ref o0), .val (.ref o1), .val (.ref o1)] [(.ref o0)])) _
        refine st7 _ ?_
        show Steps p.tables e below (T7.setTop (mkF m 27 #[.val (.ref o0), .val (.ref o1), .val (.ref o1)] [(.int w2_length)])) _
        refine XS.aloadN X7.here hx rfl (hb hby d4_27) rfl rfl ?_
        show Steps p.tables e below (T7.setTop (mkF m 28 #[.val (.ref o0), .val (.ref o1), .val (.ref o1)] [(.ref o1), (.int w2_length)])) _
        refine st8 _ ?_
        exact k
      by_cases c10 : w2_length = w3_length
      · skip
        obtain ⟨T11, X11, e11, st11⟩ := getF X8 hx hZ hown (host := "") (Or.inl (hw _ (List.mem_of_getElem? (i := 18) rfl))) Via.refl e8 F_source_o0 (g := (mkF m 35 #[.val (.ref o0), .val (.ref o1), .val (.ref o1)] [(.ref o0)])) rfl rfl (hb hby d4_35)
        obtain ⟨T12, X12, e12, st12⟩ := getF X11 hx hZ hown (host := "") (Or.inl (hw _ (List.mem_of_getElem? (i := 18) rfl))) Via.refl e11 F_source_o1 (g := (mkF m 39 #[.val (.ref o0), .val (.ref o1), .val (.ref o1)] [(.ref o1), (.int w4_source)])) rfl rfl (hb hby d4_39)
        have pre13 : ∀ t, Steps p.tables e below (T12.setTop (mkF m 42 #[.val (.ref o0), .val (.ref o1), .val (.ref o1)] [(.int w5_source), (.int w4_source)])) t → Steps p.tables e below (s₁.setTop (entryFrame m #[(.ref o0), (.ref o1)] 3)) t := by
          intro t k
          refine pre9 t ?_
          show Steps p.tables e below (T8.setTop (mkF m 31 #[.val (.ref o0), .val (.ref o1), .val (.ref o1)] [(.int w3_length), (.int w2_length)])) _
          refine XS.icmpNo X8.here hx rfl (hb hby d4_31) rfl (XT.ii_ne_f c10) ?_
          show Steps p.tables e below (T8.setTop (mkF m 34 #[.val (.ref o0), .val (.ref o1), .val (.ref o1)] [])) _
          refine XS.aloadN X8.here hx rfl (hb hby d4_34) rfl rfl ?_
          show Steps p.tables e below (T8.setTop (mkF m 35 #[.val (.ref o0), .val (.ref o1), .val (.ref o1)] [(.ref o0)])) _
          refine st11 _ ?_
          show Steps p.tables e below (T11.setTop (mkF m 38 #[.val (.ref o0), .val (.ref o1), .val (.ref o1)] [(.int w4_source)])) _
          refine XS.aloadN X11.here hx rfl (hb hby d4_38) rfl rfl ?_
          show Steps p.tables e below (T11.setTop (mkF m 39 #[.val (.ref o0), .val (.ref o1), .val (.ref o1)] [(.ref o1), (.int w4_source)])) _
          refine st12 _ ?_
          exact k
        by_cases c14 : w4_source = w5_source
        · skip
          obtain ⟨T15, X15, e15, st15⟩ := getF X12 hx hZ hown (host := "") (Or.inl (hw _ (List.mem_of_getElem? (i := 20) rfl))) Via.refl e12 F_sourceStart_o0 (g := (mkF m 46 #[.val (.ref o0), .val (.ref o1), .val (.ref o1)] [(.ref o0)])) rfl rfl (hb hby d4_46)
          obtain ⟨T16, X16, e16, st16⟩ := getF X15 hx hZ hown (host := "") (Or.inl (hw _ (List.mem_of_getElem? (i := 20) rfl))) Via.refl e15 F_sourceStart_o1 (g := (mkF m 50 #[.val (.ref o0), .val (.ref o1), .val (.ref o1)] [(.ref o1), (.int w6_sourceStart)])) rfl rfl (hb hby d4_50)
          have pre17 : ∀ t, Steps p.tables e below (T16.setTop (mkF m 53 #[.val (.ref o0), .val (.ref o1), .val (.ref o1)] [(.int w7_sourceStart), (.int w6_sourceStart)])) t → Steps p.tables e below (s₁.setTop (entryFrame m #[(.ref o0), (.ref o1)] 3)) t := by
            intro t k
            refine pre13 t ?_
            show Steps p.tables e below (T12.setTop (mkF m 42 #[.val (.ref o0), .val (.ref o1), .val (.ref o1)] [(.int w5_source), (.int w4_source)])) _
            refine XS.icmpNo X12.here hx rfl (hb hby d4_42) rfl (XT.ii_ne_f c14) ?_
            show Steps p.tables e below (T12.setTop (mkF m 45 #[.val (.ref o0), .val (.ref o1), .val (.ref o1)] [])) _
            refine XS.aloadN X12.here hx rfl (hb hby d4_45) rfl rfl ?_
            show Steps p.tables e below (T12.setTop (mkF m 46 #[.val (.ref o0), .val (.ref o1), .val (.ref o1)] [(.ref o0)])) _
            refine st15 _ ?_
            show Steps p.tables e below (T15.setTop (mkF m 49 #[.val (.ref o0), .val (.ref o1), .val (.ref o1)] [(.int w6_sourceStart)])) _
            refine XS.aloadN X15.here hx rfl (hb hby d4_49) rfl rfl ?_
            show Steps p.tables e below (T15.setTop (mkF m 50 #[.val (.ref o0), .val (.ref o1), .val (.ref o1)] [(.ref o1), (.int w6_sourceStart)])) _
            refine st16 _ ?_
            exact k
          by_cases c18 : w6_sourceStart = w7_sourceStart
          · skip
            obtain ⟨T19, X19, e19, st19⟩ := getF X16 hx hZ hown (host := "") (Or.inl (hw _ (List.mem_of_getElem? (i := 22) rfl))) Via.refl e16 F_sourceLength_o0 (g := (mkF m 57 #[.val (.ref o0), .val (.ref o1), .val (.ref o1)] [(.ref o0)])) rfl rfl (hb hby d4_57)
            obtain ⟨T20, X20, e20, st20⟩ := getF X19 hx hZ hown (host := "") (Or.inl (hw _ (List.mem_of_getElem? (i := 22) rfl))) Via.refl e19 F_sourceLength_o1 (g := (mkF m 61 #[.val (.ref o0), .val (.ref o1), .val (.ref o1)] [(.ref o1), (.int w8_sourceLength)])) rfl rfl (hb hby d4_61)
            have pre21 : ∀ t, Steps p.tables e below (T20.setTop (mkF m 64 #[.val (.ref o0), .val (.ref o1), .val (.ref o1)] [(.int w9_sourceLength), (.int w8_sourceLength)])) t → Steps p.tables e below (s₁.setTop (entryFrame m #[(.ref o0), (.ref o1)] 3)) t := by
              intro t k
              refine pre17 t ?_
              show Steps p.tables e below (T16.setTop (mkF m 53 #[.val (.ref o0), .val (.ref o1), .val (.ref o1)] [(.int w7_sourceStart), (.int w6_sourceStart)])) _
              refine XS.icmpNo X16.here hx rfl (hb hby d4_53) rfl (XT.ii_ne_f c18) ?_
              show Steps p.tables e below (T16.setTop (mkF m 56 #[.val (.ref o0), .val (.ref o1), .val (.ref o1)] [])) _
              refine XS.aloadN X16.here hx rfl (hb hby d4_56) rfl rfl ?_
              show Steps p.tables e below (T16.setTop (mkF m 57 #[.val (.ref o0), .val (.ref o1), .val (.ref o1)] [(.ref o0)])) _
              refine st19 _ ?_
              show Steps p.tables e below (T19.setTop (mkF m 60 #[.val (.ref o0), .val (.ref o1), .val (.ref o1)] [(.int w8_sourceLength)])) _
              refine XS.aloadN X19.here hx rfl (hb hby d4_60) rfl rfl ?_
              show Steps p.tables e below (T19.setTop (mkF m 61 #[.val (.ref o0), .val (.ref o1), .val (.ref o1)] [(.ref o1), (.int w8_sourceLength)])) _
              refine st20 _ ?_
              exact k
            by_cases c22 : w8_sourceLength = w9_sourceLength
            · skip
              refine ⟨T20, _, X20, e20, N0, fun t k => ?_⟩
              rw [show (v4_1 w0_start w1_start w2_length w3_length w4_source w5_source w6_sourceStart w7_sourceStart w8_sourceLength w9_sourceLength) = (1 : Int32) from (((((if_pos c6).trans (if_pos c10)).trans (if_pos c14)).trans (if_pos c18)).trans (if_pos c22))] at k
              refine pre21 t ?_
              show Steps p.tables e below (T20.setTop (mkF m 64 #[.val (.ref o0), .val (.ref o1), .val (.ref o1)] [(.int w9_sourceLength), (.int w8_sourceLength)])) _
              refine XS.icmpNo X20.here hx rfl (hb hby d4_64) rfl (XT.ii_ne_f c22) ?_
              show Steps p.tables e below (T20.setTop (mkF m 67 #[.val (.ref o0), .val (.ref o1), .val (.ref o1)] [])) _
              refine XT.iconstV X20.here hx rfl (1 : Int32) (hb hby d4_67) (by decide) ?_
              show Steps p.tables e below (T20.setTop (mkF m 68 #[.val (.ref o0), .val (.ref o1), .val (.ref o1)] [(.int (1 : Int32))])) _
              refine XS.goto X20.here hx rfl (pc0 := 68) (pc' := 72) rfl (hb hby d4_68) (by decide) (by decide) ?_
              exact k
            · skip
              refine ⟨T20, _, X20, e20, N0, fun t k => ?_⟩
              rw [show (v4_1 w0_start w1_start w2_length w3_length w4_source w5_source w6_sourceStart w7_sourceStart w8_sourceLength w9_sourceLength) = (0 : Int32) from (((((if_pos c6).trans (if_pos c10)).trans (if_pos c14)).trans (if_pos c18)).trans (if_neg c22))] at k
              refine pre21 t ?_
              show Steps p.tables e below (T20.setTop (mkF m 64 #[.val (.ref o0), .val (.ref o1), .val (.ref o1)] [(.int w9_sourceLength), (.int w8_sourceLength)])) _
              refine XS.icmpYes X20.here hx rfl (pc0 := 64) (pc' := 71) rfl (hb hby d4_64) rfl (XT.ii_ne_t c22) (by decide) (by decide) ?_
              show Steps p.tables e below (T20.setTop (mkF m 71 #[.val (.ref o0), .val (.ref o1), .val (.ref o1)] [])) _
              refine XT.iconstV X20.here hx rfl (0 : Int32) (hb hby d4_71) (by decide) ?_
              exact k
          · skip
            refine ⟨T16, _, X16, e16, N0, fun t k => ?_⟩
            rw [show (v4_1 w0_start w1_start w2_length w3_length w4_source w5_source w6_sourceStart w7_sourceStart w8_sourceLength w9_sourceLength) = (0 : Int32) from ((((if_pos c6).trans (if_pos c10)).trans (if_pos c14)).trans (if_neg c18))] at k
            refine pre17 t ?_
            show Steps p.tables e below (T16.setTop (mkF m 53 #[.val (.ref o0), .val (.ref o1), .val (.ref o1)] [(.int w7_sourceStart), (.int w6_sourceStart)])) _
            refine XS.icmpYes X16.here hx rfl (pc0 := 53) (pc' := 71) rfl (hb hby d4_53) rfl (XT.ii_ne_t c18) (by decide) (by decide) ?_
            show Steps p.tables e below (T16.setTop (mkF m 71 #[.val (.ref o0), .val (.ref o1), .val (.ref o1)] [])) _
            refine XT.iconstV X16.here hx rfl (0 : Int32) (hb hby d4_71) (by decide) ?_
            exact k
        · skip
          refine ⟨T12, _, X12, e12, N0, fun t k => ?_⟩
          rw [show (v4_1 w0_start w1_start w2_length w3_length w4_source w5_source w6_sourceStart w7_sourceStart w8_sourceLength w9_sourceLength) = (0 : Int32) from (((if_pos c6).trans (if_pos c10)).trans (if_neg c14))] at k
          refine pre13 t ?_
          show Steps p.tables e below (T12.setTop (mkF m 42 #[.val (.ref o0), .val (.ref o1), .val (.ref o1)] [(.int w5_source), (.int w4_source)])) _
          refine XS.icmpYes X12.here hx rfl (pc0 := 42) (pc' := 71) rfl (hb hby d4_42) rfl (XT.ii_ne_t c14) (by decide) (by decide) ?_
          show Steps p.tables e below (T12.setTop (mkF m 71 #[.val (.ref o0), .val (.ref o1), .val (.ref o1)] [])) _
          refine XT.iconstV X12.here hx rfl (0 : Int32) (hb hby d4_71) (by decide) ?_
          exact k
      · skip
        refine ⟨T8, _, X8, e8, N0, fun t k => ?_⟩
        rw [show (v4_1 w0_start w1_start w2_length w3_length w4_source w5_source w6_sourceStart w7_sourceStart w8_sourceLength w9_sourceLength) = (0 : Int32) from ((if_pos c6).trans (if_neg c10))] at k
        refine pre9 t ?_
        show Steps p.tables e below (T8.setTop (mkF m 31 #[.val (.ref o0), .val (.ref o1), .val (.ref o1)] [(.int w3_length), (.int w2_length)])) _
        refine XS.icmpYes X8.here hx rfl (pc0 := 31) (pc' := 71) rfl (hb hby d4_31) rfl (XT.ii_ne_t c10) (by decide) (by decide) ?_
        show Steps p.tables e below (T8.setTop (mkF m 71 #[.val (.ref o0), .val (.ref o1), .val (.ref o1)] [])) _
        refine XT.iconstV X8.here hx rfl (0 : Int32) (hb hby d4_71) (by decide) ?_
        exact k
    · skip
      refine ⟨T4, _, X4, e4, N0, fun t k => ?_⟩
      rw [show (v4_1 w0_start w1_start w2_length w3_length w4_source w5_source w6_sourceStart w7_sourceStart w8_sourceLength w9_sourceLength) = (0 : Int32) from (if_neg c6)] at k
      refine pre5 t ?_
      show Steps p.tables e below (T4.setTop (mkF m 20 #[.val (.ref o0), .val (.ref o1), .val (.ref o1)] [(.int w1_start), (.int w0_start)])) _
      refine XS.icmpYes X4.here hx rfl (pc0 := 20) (pc' := 71) rfl (hb hby d4_20) rfl (XT.ii_ne_t c6) (by decide) (by decide) ?_
      show Steps p.tables e below (T4.setTop (mkF m 71 #[.val (.ref o0), .val (.ref o1), .val (.ref o1)] [])) _
      refine XT.iconstV X4.here hx rfl (0 : Int32) (hb hby d4_71) (by decide) ?_
      exact k
  obtain ⟨fs, hr, hrun, hended, hW, hsame⟩ := X23.leave (v := some (.int (nar .boolean (v4_1 w0_start w1_start w2_length w3_length w4_source w5_source w6_sourceStart w7_sourceStart w8_sourceLength w9_sourceLength)))) (fun h => by rw [Bd.returns] at h; cases h) hlk
  refine ⟨_, _, pre23 _ ?_, hrun, hended, _, _, rfl, ?_, ⟨_, rfl⟩, hW, hsame.mono (by decide) (by decide)⟩
  · skip
    show Steps p.tables e below (T23.setTop (mkF m 72 #[.val (.ref o0), .val (.ref o1), .val (.ref o1)] [(.int (v4_1 w0_start w1_start w2_length w3_length w4_source w5_source w6_sourceStart w7_sourceStart w8_sourceLength w9_sourceLength))])) _
    exact retN X23 hx (t := .boolean) Bd.returns (by simp) (hb hby d4_72) hr
  · skip
    show Q4 Z o0 o1 w0_start w1_start w2_length w3_length w4_source w5_source w6_sourceStart w7_sourceStart w8_sourceLength w9_sourceLength h0 n0 _ T23.heap _
    rw [e23]
    exact ⟨N23, rfl, rfl⟩
theorem ef_eqN (m : MethodId) (o0 : Addr) : entryFrame m #[(.ref o0), .null] 3 = mkF m 0 #[.val (.ref o0), .val .null, .unset] [] := by first | (simp [entryFrame, mkF, argsToLocals, Value.category]; done) | rfl
def feqN : Int32 := (0 : Int32)
def QeqN (Z : State) (o0 : Addr) (h0 : Heap) (n0 : Nat) (v : Option Value) (h : Heap) (L : List Loc) : Prop := Fr n0 L ∧ v = some (.int feqN) ∧ h = h0
set_option maxRecDepth 65536 in
set_option maxHeartbeats 40000000 in
theorem rmeqN (l : Launch) (Z : State) (a0 : Array Value) (hw : ∀ d ∈ tables_1, d.before a0 Z = true) (ws : List Jvm.Cond) (o0 : Addr) (h0 : Heap) (n0 : Nat) (Z0 : n0 ≤ h0.size) :
    MetFree l (⟨"com/example/vannus/vannus/Passage", "equals", "(Ljava/lang/Object;)Z"⟩ : MethodName) (head1 (Jvm.Cond.code (⟨"com/example/vannus/vannus/Passage", "equals", "(Ljava/lang/Object;)Z"⟩ : MethodName) prog_26_method_9_code 3 (some .boolean) :: ws) ({ frames := 0, cells := 0, slots := 0, locals := 0 } : Room)) (fun a U => a = #[(.ref o0), .null] ∧ Z.Warmed39 U.vm ∧ U.heap = h0) (fun _ _ _ _ _ => True) (fun _ U o U' => ∃ v L, o = .returned v ∧ QeqN Z o0 h0 n0 v U'.heap L ∧ FrameEnd U o U' L ({ frames := 0, cells := 0, slots := 0, locals := 0 } : Room).cells ({ frames := 0, cells := 0, slots := 0, locals := 0 } : Room).slots) := by
  refine MetFree.of_bodySF (plainFor_of_name pn_com_example_vannus_vannus_Passage) hisR ?_
  intro p e s m args below meth c s₁ Bd hml0 hP hK
  obtain ⟨rfl, hZ, hh⟩ := hP
  have hx := Bd.exec
  have hby := Bd.bytes
  have hml : c.maxLocals = 3 := hml0
  have hown : s.vm.findClass "com/example/vannus/vannus/Passage" = some m.cls := findClass_of_methodNamed Bd.named
  have hnm := (name_of_methodNamed Bd.named Bd.method).1
  have hlk := BodyLoose.notSynchronized Bd
  have X0 : Stand p l e ({ frames := 0, cells := 0, slots := 0, locals := 0 } : Room) s m #[(.ref o0), .null] below meth c s₁ [] 0 0 := Stand.of_body Bd
  have e0 : s₁.heap = h0 := by rw [← hh, Bd.state]; rfl
  have N0 := Fr.nil n0
  have pre0 : ∀ t, Steps p.tables e below (s₁.setTop (mkF m 0 #[.val (.ref o0), .val .null, .unset] [])) t → Steps p.tables e below (s₁.setTop (entryFrame m #[(.ref o0), .null] 3)) t := fun t k => castTop (ef_eqN m o0) k
  obtain ⟨fs, hr, hrun, hended, hW, hsame⟩ := X0.leave (v := some (.int (0 : Int32))) (fun h => by rw [Bd.returns] at h; cases h) hlk
  refine ⟨_, _, pre0 _ ?_, hrun, hended, _, _, rfl, ?_, ⟨_, rfl⟩, hW, hsame.mono (by decide) (by decide)⟩
  · skip
    show Steps p.tables e below (s₁.setTop (mkF m 0 #[.val (.ref o0), .val .null, .unset] [])) _
    refine XS.aloadN X0.here hx rfl (hb hby d4_0) rfl rfl ?_
    show Steps p.tables e below (s₁.setTop (mkF m 1 #[.val (.ref o0), .val .null, .unset] [.null])) _
    refine X0.instanceofNull hx (g := (mkF m 1 #[.val (.ref o0), .val .null, .unset] [.null])) rfl rfl (hb hby d4_1) _ ?_
    show Steps p.tables e below (s₁.setTop (mkF m 4 #[.val (.ref o0), .val .null, .unset] [(.int (0 : Int32))])) _
    refine XS.ifYes X0.here hx rfl (pc0 := 4) (pc' := 71) rfl (hb hby d4_4) rfl (XT.i0_eq_t (by decide)) (by decide) (by decide) ?_
    show Steps p.tables e below (s₁.setTop (mkF m 71 #[.val (.ref o0), .val .null, .unset] [])) _
    refine XT.iconstV X0.here hx rfl (0 : Int32) (hb hby d4_71) (by decide) ?_
    show Steps p.tables e below (s₁.setTop (mkF m 72 #[.val (.ref o0), .val .null, .unset] [(.int (0 : Int32))])) _
    exact retN X0 hx (t := .boolean) Bd.returns (by simp) (hb hby d4_72) hr
  · skip
    show QeqN Z o0 h0 n0 _ s₁.heap _
    rw [e0]
    exact ⟨N0, rfl, rfl⟩
theorem ef_eqS (m : MethodId) (o0 : Addr) (o1 : Addr) : entryFrame m #[(.ref o0), (.ref o1)] 3 = mkF m 0 #[.val (.ref o0), .val (.ref o1), .unset] [] := by first | (simp [entryFrame, mkF, argsToLocals, Value.category]; done) | rfl
def feqS : Int32 := (0 : Int32)
def QeqS (Z : State) (o0 : Addr) (o1 : Addr) (h0 : Heap) (n0 : Nat) (v : Option Value) (h : Heap) (L : List Loc) : Prop := Fr n0 L ∧ v = some (.int feqS) ∧ h = h0
set_option maxRecDepth 65536 in
set_option maxHeartbeats 40000000 in
theorem rmeqS (l : Launch) (Z : State) (a0 : Array Value) (hw : ∀ d ∈ tables_1, d.before a0 Z = true) (ws : List Jvm.Cond) (o0 : Addr) (o1 : Addr) (h0 : Heap) (n0 : Nat) (Z0 : n0 ≤ h0.size) (E_o1 : Exa Z h0 o1 "java/lang/String") :
    MetFree l (⟨"com/example/vannus/vannus/Passage", "equals", "(Ljava/lang/Object;)Z"⟩ : MethodName) (head1 (Jvm.Cond.code (⟨"com/example/vannus/vannus/Passage", "equals", "(Ljava/lang/Object;)Z"⟩ : MethodName) prog_26_method_9_code 3 (some .boolean) :: ws) ({ frames := 0, cells := 0, slots := 0, locals := 0 } : Room)) (fun a U => a = #[(.ref o0), (.ref o1)] ∧ Z.Warmed39 U.vm ∧ U.heap = h0) (fun _ _ _ _ _ => True) (fun _ U o U' => ∃ v L, o = .returned v ∧ QeqS Z o0 o1 h0 n0 v U'.heap L ∧ FrameEnd U o U' L ({ frames := 0, cells := 0, slots := 0, locals := 0 } : Room).cells ({ frames := 0, cells := 0, slots := 0, locals := 0 } : Room).slots) := by
  refine MetFree.of_bodySF (plainFor_of_name pn_com_example_vannus_vannus_Passage) hisR ?_
  intro p e s m args below meth c s₁ Bd hml0 hP hK
  obtain ⟨rfl, hZ, hh⟩ := hP
  have hx := Bd.exec
  have hby := Bd.bytes
  have hml : c.maxLocals = 3 := hml0
  have hown : s.vm.findClass "com/example/vannus/vannus/Passage" = some m.cls := findClass_of_methodNamed Bd.named
  have hnm := (name_of_methodNamed Bd.named Bd.method).1
  have hlk := BodyLoose.notSynchronized Bd
  have X0 : Stand p l e ({ frames := 0, cells := 0, slots := 0, locals := 0 } : Room) s m #[(.ref o0), (.ref o1)] below meth c s₁ [] 0 0 := Stand.of_body Bd
  have e0 : s₁.heap = h0 := by rw [← hh, Bd.state]; rfl
  have N0 := Fr.nil n0
  have pre0 : ∀ t, Steps p.tables e below (s₁.setTop (mkF m 0 #[.val (.ref o0), .val (.ref o1), .unset] [])) t → Steps p.tables e below (s₁.setTop (entryFrame m #[(.ref o0), (.ref o1)] 3)) t := fun t k => castTop (ef_eqS m o0 o1) k
  obtain ⟨T1, X1, e1, st1⟩ := instNo X0 hx hZ hown (hw _ (List.mem_of_getElem? (i := 29) rfl)) e0 E_o1 (own_nosub (hw _ (List.mem_of_getElem? (i := 56) rfl)) (hw _ (List.mem_of_getElem? (i := 55) rfl)) (hw _ (List.mem_of_getElem? (i := 6) rfl)) (by decide) (by decide)) (g := (mkF m 1 #[.val (.ref o0), .val (.ref o1), .unset] [(.ref o1)])) rfl rfl (hb hby d4_1)
  obtain ⟨fs, hr, hrun, hended, hW, hsame⟩ := X1.leave (v := some (.int (0 : Int32))) (fun h => by rw [Bd.returns] at h; cases h) hlk
  refine ⟨_, _, pre0 _ ?_, hrun, hended, _, _, rfl, ?_, ⟨_, rfl⟩, hW, hsame.mono (by decide) (by decide)⟩
  · skip
    show Steps p.tables e below (s₁.setTop (mkF m 0 #[.val (.ref o0), .val (.ref o1), .unset] [])) _
    refine XS.aloadN X0.here hx rfl (hb hby d4_0) rfl rfl ?_
    show Steps p.tables e below (s₁.setTop (mkF m 1 #[.val (.ref o0), .val (.ref o1), .unset] [(.ref o1)])) _
    refine st1 _ ?_
    show Steps p.tables e below (T1.setTop (mkF m 4 #[.val (.ref o0), .val (.ref o1), .unset] [(.int (0 : Int32))])) _
    refine XS.ifYes X1.here hx rfl (pc0 := 4) (pc' := 71) rfl (hb hby d4_4) rfl (XT.i0_eq_t (by decide)) (by decide) (by decide) ?_
    show Steps p.tables e below (T1.setTop (mkF m 71 #[.val (.ref o0), .val (.ref o1), .unset] [])) _
    refine XT.iconstV X1.here hx rfl (0 : Int32) (hb hby d4_71) (by decide) ?_
    show Steps p.tables e below (T1.setTop (mkF m 72 #[.val (.ref o0), .val (.ref o1), .unset] [(.int (0 : Int32))])) _
    exact retN X1 hx (t := .boolean) Bd.returns (by simp) (hb hby d4_72) hr
  · skip
    show QeqS Z o0 o1 h0 n0 _ T1.heap _
    rw [e1]
    exact ⟨N0, rfl, rfl⟩
theorem d6_0 : decode jdk_43_method_3_code 0 = .ok (.iload_n 0, 1) := by decide +kernel
theorem d6_1 : decode jdk_43_method_3_code 1 = .ok (.sipush 255, 3) := by decide +kernel
theorem d6_4 : decode jdk_43_method_3_code 4 = .ok (.if_icmp .gt 7, 3) := by decide +kernel
theorem d6_7 : decode jdk_43_method_3_code 7 = .ok (.iconst 1, 1) := by decide +kernel
theorem d6_8 : decode jdk_43_method_3_code 8 = .ok (.goto 4, 3) := by decide +kernel
theorem d6_11 : decode jdk_43_method_3_code 11 = .ok (.iconst 0, 1) := by decide +kernel
theorem d6_12 : decode jdk_43_method_3_code 12 = .ok (.ireturn, 1) := by decide +kernel
theorem pn_java_lang_StringLatin1 : plainName "java/lang/StringLatin1" = true := by first | (simp [plainName, overriddenIn]; done) | decide +kernel
theorem ef_6 (m : MethodId) (p0 : Int32) : entryFrame m #[(.int p0)] 1 = mkF m 0 #[.val (.int p0)] [] := by first | (simp [entryFrame, mkF, argsToLocals, Value.category]; done) | rfl
def v6_1 (p0 : Int32) : Int32 := (if (255 : Int32) < p0 then (0 : Int32) else (1 : Int32))
def f6 (p0 : Int32) : Int32 := (nar .boolean (v6_1 p0))
def Q6 (Z : State) (p0 : Int32) (h0 : Heap) (n0 : Nat) (v : Option Value) (h : Heap) (L : List Loc) : Prop := Fr n0 L ∧ v = some (.int (f6 p0)) ∧ h = h0
set_option maxRecDepth 65536 in
set_option maxHeartbeats 40000000 in
theorem rm6 (l : Launch) (Z : State) (a0 : Array Value) (hw : ∀ d ∈ tables_1, d.before a0 Z = true) (ws : List Jvm.Cond) (p0 : Int32) (h0 : Heap) (n0 : Nat) (Z0 : n0 ≤ h0.size) :
    MetFree l (⟨"java/lang/StringLatin1", "canEncode", "(C)Z"⟩ : MethodName) (head1 (Jvm.Cond.code (⟨"java/lang/StringLatin1", "canEncode", "(C)Z"⟩ : MethodName) jdk_43_method_3_code 1 (some .boolean) :: ws) ({ frames := 0, cells := 0, slots := 0, locals := 0 } : Room)) (fun a U => a = #[(.int p0)] ∧ Z.Warmed39 U.vm ∧ U.heap = h0) (fun _ _ _ _ _ => True) (fun _ U o U' => ∃ v L, o = .returned v ∧ Q6 Z p0 h0 n0 v U'.heap L ∧ FrameEnd U o U' L ({ frames := 0, cells := 0, slots := 0, locals := 0 } : Room).cells ({ frames := 0, cells := 0, slots := 0, locals := 0 } : Room).slots) := by
  refine MetFree.of_bodySF (plainFor_of_name pn_java_lang_StringLatin1) hisR ?_
  intro p e s m args below meth c s₁ Bd hml0 hP hK
  obtain ⟨rfl, hZ, hh⟩ := hP
  have hx := Bd.exec
  have hby := Bd.bytes
  have hml : c.maxLocals = 1 := hml0
  have hown : s.vm.findClass "java/lang/StringLatin1" = some m.cls := findClass_of_methodNamed Bd.named
  have hnm := (name_of_methodNamed Bd.named Bd.method).1
  have hlk := BodyLoose.notSynchronized Bd
  have X0 : Stand p l e ({ frames := 0, cells := 0, slots := 0, locals := 0 } : Room) s m #[(.int p0)] below meth c s₁ [] 0 0 := Stand.of_body Bd
  have e0 : s₁.heap = h0 := by rw [← hh, Bd.state]; rfl
  have N0 := Fr.nil n0
  have pre0 : ∀ t, Steps p.tables e below (s₁.setTop (mkF m 0 #[.val (.int p0)] [])) t → Steps p.tables e below (s₁.setTop (entryFrame m #[(.int p0)] 1)) t := fun t k => castTop (ef_6 m p0) k
  have pre1 : ∀ t, Steps p.tables e below (s₁.setTop (mkF m 4 #[.val (.int p0)] [(.int (255 : Int32)), (.int p0)])) t → Steps p.tables e below (s₁.setTop (entryFrame m #[(.int p0)] 1)) t := by
    intro t k
    refine pre0 t ?_
    show Steps p.tables e below (s₁.setTop (mkF m 0 #[.val (.int p0)] [])) _
    refine XS.iloadN X0.here hx rfl (hb hby d6_0) rfl ?_
    show Steps p.tables e below (s₁.setTop (mkF m 1 #[.val (.int p0)] [(.int p0)])) _
    refine XT.sipushV X0.here hx rfl (255 : Int32) (hb hby d6_1) (by decide) ?_
    exact k
  have pre3 : ∀ t, Steps p.tables e below (s₁.setTop (mkF m 12 #[.val (.int p0)] [(.int (v6_1 p0))])) t → Steps p.tables e below (s₁.setTop (entryFrame m #[(.int p0)] 1)) t := by
    intro t k
    by_cases c2 : (255 : Int32) < p0
    · skip
      rw [show (v6_1 p0) = (0 : Int32) from (if_pos c2)] at k
      refine pre1 t ?_
      show Steps p.tables e below (s₁.setTop (mkF m 4 #[.val (.int p0)] [(.int (255 : Int32)), (.int p0)])) _
      refine XS.icmpYes X0.here hx rfl (pc0 := 4) (pc' := 11) rfl (hb hby d6_4) rfl (XT.ii_gt_t c2) (by decide) (by decide) ?_
      show Steps p.tables e below (s₁.setTop (mkF m 11 #[.val (.int p0)] [])) _
      refine XT.iconstV X0.here hx rfl (0 : Int32) (hb hby d6_11) (by decide) ?_
      exact k
    · skip
      rw [show (v6_1 p0) = (1 : Int32) from (if_neg c2)] at k
      refine pre1 t ?_
      show Steps p.tables e below (s₁.setTop (mkF m 4 #[.val (.int p0)] [(.int (255 : Int32)), (.int p0)])) _
      refine XS.icmpNo X0.here hx rfl (hb hby d6_4) rfl (XT.ii_gt_f c2) ?_
      show Steps p.tables e below (s₁.setTop (mkF m 7 #[.val (.int p0)] [])) _
      refine XT.iconstV X0.here hx rfl (1 : Int32) (hb hby d6_7) (by decide) ?_
      show Steps p.tables e below (s₁.setTop (mkF m 8 #[.val (.int p0)] [(.int (1 : Int32))])) _
      refine XS.goto X0.here hx rfl (pc0 := 8) (pc' := 12) rfl (hb hby d6_8) (by decide) (by decide) ?_
      exact k
  obtain ⟨fs, hr, hrun, hended, hW, hsame⟩ := X0.leave (v := some (.int (nar .boolean (v6_1 p0)))) (fun h => by rw [Bd.returns] at h; cases h) hlk
  refine ⟨_, _, pre3 _ ?_, hrun, hended, _, _, rfl, ?_, ⟨_, rfl⟩, hW, hsame.mono (by decide) (by decide)⟩
  · skip
    show Steps p.tables e below (s₁.setTop (mkF m 12 #[.val (.int p0)] [(.int (v6_1 p0))])) _
    exact retN X0 hx (t := .boolean) Bd.returns (by simp) (hb hby d6_12) hr
  · skip
    show Q6 Z p0 h0 n0 _ s₁.heap _
    rw [e0]
    exact ⟨N0, rfl, rfl⟩
theorem d7_0 : decode jdk_43_method_46_code 0 = .ok (.iconst 1, 1) := by decide +kernel
theorem d7_1 : decode jdk_43_method_46_code 1 = .ok (.newarray .byte, 2) := by decide +kernel
theorem d7_3 : decode jdk_43_method_46_code 3 = .ok (.dup, 1) := by decide +kernel
theorem d7_4 : decode jdk_43_method_46_code 4 = .ok (.iconst 0, 1) := by decide +kernel
theorem d7_5 : decode jdk_43_method_46_code 5 = .ok (.iload_n 0, 1) := by decide +kernel
theorem d7_6 : decode jdk_43_method_46_code 6 = .ok (.i2b, 1) := by decide +kernel
theorem d7_7 : decode jdk_43_method_46_code 7 = .ok (.bastore, 1) := by decide +kernel
theorem d7_8 : decode jdk_43_method_46_code 8 = .ok (.areturn, 1) := by decide +kernel
theorem ef_7 (m : MethodId) (p0 : Int32) : entryFrame m #[(.int p0)] 1 = mkF m 0 #[.val (.int p0)] [] := by first | (simp [entryFrame, mkF, argsToLocals, Value.category]; done) | rfl
def Q7 (Z : State) (p0 : Int32) (h0 : Heap) (n0 : Nat) (v : Option Value) (h : Heap) (L : List Loc) : Prop := Fr n0 L ∧ ∃ (x7_0 : Addr) (k7_1 : ClassId), v = some (.ref x7_0) ∧ h0.size ≤ x7_0 ∧ Keep h0 h [] ∧ Arv Z h x7_0 k7_1 .byte (1 : Int32) [(.int (nar .byte (p0.toInt8.toInt32)))] (.int (0 : Int32))
set_option maxRecDepth 65536 in
set_option maxHeartbeats 40000000 in
theorem rm7 (l : Launch) (Z : State) (a0 : Array Value) (hw : ∀ d ∈ tables_1, d.before a0 Z = true) (ws : List Jvm.Cond) (p0 : Int32) (h0 : Heap) (n0 : Nat) (Z0 : n0 ≤ h0.size) :
    MetFree l (⟨"java/lang/StringLatin1", "toBytes", "(C)[B"⟩ : MethodName) (head1 (Jvm.Cond.code (⟨"java/lang/StringLatin1", "toBytes", "(C)[B"⟩ : MethodName) jdk_43_method_46_code 1 (some (.array .byte)) :: ws) ({ frames := 0, cells := 1, slots := 1, locals := 0 } : Room)) (fun a U => a = #[(.int p0)] ∧ Z.Warmed39 U.vm ∧ U.heap = h0) (fun _ _ _ _ _ => True) (fun _ U o U' => ∃ v L, o = .returned v ∧ Q7 Z p0 h0 n0 v U'.heap L ∧ FrameEnd U o U' L ({ frames := 0, cells := 1, slots := 1, locals := 0 } : Room).cells ({ frames := 0, cells := 1, slots := 1, locals := 0 } : Room).slots) := by
  refine MetFree.of_bodySF (plainFor_of_name pn_java_lang_StringLatin1) hisR ?_
  intro p e s m args below meth c s₁ Bd hml0 hP hK
  obtain ⟨rfl, hZ, hh⟩ := hP
  have hx := Bd.exec
  have hby := Bd.bytes
  have hml : c.maxLocals = 1 := hml0
  have hown : s.vm.findClass "java/lang/StringLatin1" = some m.cls := findClass_of_methodNamed Bd.named
  have hnm := (name_of_methodNamed Bd.named Bd.method).1
  have hlk := BodyLoose.notSynchronized Bd
  have X0 : Stand p l e ({ frames := 0, cells := 1, slots := 1, locals := 0 } : Room) s m #[(.int p0)] below meth c s₁ [] 0 0 := Stand.of_body Bd
  have e0 : s₁.heap = h0 := by rw [← hh, Bd.state]; rfl
  have N0 := Fr.nil n0
  have pre0 : ∀ t, Steps p.tables e below (s₁.setTop (mkF m 0 #[.val (.int p0)] [])) t → Steps p.tables e below (s₁.setTop (entryFrame m #[(.int p0)] 1)) t := fun t k => castTop (ef_7 m p0) k
  obtain ⟨T1, h1, k1, X1, e1, E1, A1, st1⟩ := newP X0 hx hZ (hw _ (List.mem_of_getElem? (i := 45) rfl)) e0 (g := (mkF m 1 #[.val (.int p0)] [(.int (1 : Int32))])) rfl (hb hby d7_1) rfl (by decide) (cap := 1) (by decide) (by decide) (by decide) (by decide)
  obtain ⟨b1, gz1⟩ : ∃ z, z = h0.size := ⟨_, rfl⟩
  rw [← gz1] at A1 st1
  have g2 : n0 ≤ b1 := Nat.le_trans Z0 (Nat.le_of_eq gz1.symm)
  have sz3 : h0.size ≤ b1 := Nat.le_trans (Nat.le_refl h0.size) (Nat.le_of_eq gz1.symm)
  have z4 : n0 ≤ h1.size := Nat.le_trans Z0 E1.1
  have hs5 : h0.size ≤ h1.size := Nat.le_trans (Nat.le_refl h0.size) E1.1
  have V1 : Arv Z h1 b1 k1 .byte (1 : Int32) [(.int (0 : Int32))] (.int (0 : Int32)) := (Arv.new A1 (by decide)).pad (pad_rep [] (.int (0 : Int32)) 1)
  obtain ⟨cl6, Ar6, qc6, S6, M6, Ha6, G6⟩ := id V1
  have hin7 : ¬ ((0 : Int32) < 0 ∨ cl6.slots.size ≤ ((0 : Int32)).toNatClampNeg) := inb_of S6 ⟨by decide, by decide⟩
  obtain ⟨T8, h8, X8, e8, W8, st8⟩ := stB X1 hx hZ e1 Ar6 (j := (0 : Int32)) hin7 (g := (mkF m 7 #[.val (.int p0)] [(.int (p0.toInt8.toInt32)), (.int (0 : Int32)), (.ref b1), (.ref b1)])) rfl rfl (hb hby d7_7)
  have V8 : Arv Z h8 b1 k1 .byte (1 : Int32) [(.int (nar .byte (p0.toInt8.toInt32)))] (.int (0 : Int32)) := Arv.set Ar6 qc6 S6 M6 Ha6 G6 (fits_nar_byte (p0.toInt8.toInt32)) W8 0 rfl (Nat.le_of_ble_eq_true rfl)
  have N8 := Fr.snoc X8 N0 g2
  have z9 : n0 ≤ h8.size := Nat.le_trans z4 (Keep.of_wr W8).1
  have hs10 : h0.size ≤ h8.size := Nat.le_trans hs5 (Keep.of_wr W8).1
  obtain ⟨fs, hr, hrun, hended, hW, hsame⟩ := X8.leave (v := some (.ref b1)) (fun h => by rw [Bd.returns] at h; cases h) hlk
  refine ⟨_, _, pre0 _ ?_, hrun, hended, _, _, rfl, ?_, ⟨_, rfl⟩, hW, hsame.mono (by decide) (by decide)⟩
  · skip
    show Steps p.tables e below (s₁.setTop (mkF m 0 #[.val (.int p0)] [])) _
    refine XT.iconstV X0.here hx rfl (1 : Int32) (hb hby d7_0) (by decide) ?_
    show Steps p.tables e below (s₁.setTop (mkF m 1 #[.val (.int p0)] [(.int (1 : Int32))])) _
    refine st1 _ ?_
    show Steps p.tables e below (T1.setTop (mkF m 3 #[.val (.int p0)] [(.ref b1)])) _
    refine XS.dup X1.here hx rfl (hb hby d7_3) rfl rfl ?_
    show Steps p.tables e below (T1.setTop (mkF m 4 #[.val (.int p0)] [(.ref b1), (.ref b1)])) _
    refine XT.iconstV X1.here hx rfl (0 : Int32) (hb hby d7_4) (by decide) ?_
    show Steps p.tables e below (T1.setTop (mkF m 5 #[.val (.int p0)] [(.int (0 : Int32)), (.ref b1), (.ref b1)])) _
    refine XS.iloadN X1.here hx rfl (hb hby d7_5) rfl ?_
    show Steps p.tables e below (T1.setTop (mkF m 6 #[.val (.int p0)] [(.int p0), (.int (0 : Int32)), (.ref b1), (.ref b1)])) _
    refine XT.i2b X1.here hx rfl (hb hby d7_6) rfl ?_
    show Steps p.tables e below (T1.setTop (mkF m 7 #[.val (.int p0)] [(.int (p0.toInt8.toInt32)), (.int (0 : Int32)), (.ref b1), (.ref b1)])) _
    refine st8 _ ?_
    show Steps p.tables e below (T8.setTop (mkF m 8 #[.val (.int p0)] [(.ref b1)])) _
    exact X8.areturnOut hx rfl Bd.returns rfl (hb hby d7_8) hr
  · skip
    show Q7 Z p0 h0 n0 _ T8.heap _
    rw [e8]
    exact ⟨N8, b1, k1, rfl, sz3, (((Keep.refl h0 []).ext E1).wr W8 (Or.inr sz3)), V8⟩
theorem d8_0 : decode jdk_42_method_151_code 0 = .ok (.aload_n 0, 1) := by decide +kernel
theorem d8_1 : decode jdk_42_method_151_code 1 = .ok (.invokespecial 1, 3) := by decide +kernel
theorem d8_4 : decode jdk_42_method_151_code 4 = .ok (.aload_n 0, 1) := by decide +kernel
theorem d8_5 : decode jdk_42_method_151_code 5 = .ok (.aload_n 1, 1) := by decide +kernel
theorem d8_6 : decode jdk_42_method_151_code 6 = .ok (.putfield 9, 3) := by decide +kernel
theorem d8_9 : decode jdk_42_method_151_code 9 = .ok (.aload_n 0, 1) := by decide +kernel
theorem d8_10 : decode jdk_42_method_151_code 10 = .ok (.iload_n 2, 1) := by decide +kernel
theorem d8_11 : decode jdk_42_method_151_code 11 = .ok (.putfield 15, 3) := by decide +kernel
theorem d8_14 : decode jdk_42_method_151_code 14 = .ok (.return_, 1) := by decide +kernel
theorem pn_java_lang_String : plainName "java/lang/String" = true := by first | (simp [plainName, overriddenIn]; done) | decide +kernel
theorem ef_8 (m : MethodId) (o0 : Addr) (o1 : Addr) (p2 : Int32) : entryFrame m #[(.ref o0), (.ref o1), (.int p2)] 3 = mkF m 0 #[.val (.ref o0), .val (.ref o1), .val (.int p2)] [] := by first | (simp [entryFrame, mkF, argsToLocals, Value.category]; done) | rfl
def Q8 (Z : State) (o0 : Addr) (o1 : Addr) (p2 : Int32) (u0_value : Value) (u1_coder : Value) (h0 : Heap) (n0 : Nat) (v : Option Value) (h : Heap) (L : List Loc) : Prop := Fr n0 L ∧ v = none ∧ Keep h0 h [o0] ∧ Exa Z h o0 "java/lang/String" ∧ Fld Z h o0 "java/lang/String" "value" "[B" (.ref o1) ∧ Fld Z h o0 "java/lang/String" "coder" "B" (.int (nar .byte p2))
set_option maxRecDepth 65536 in
set_option maxHeartbeats 40000000 in
theorem rm8 (l : Launch) (Z : State) (a0 : Array Value) (hw : ∀ d ∈ tables_1, d.before a0 Z = true) (ws : List Jvm.Cond) (o0 : Addr) (o1 : Addr) (p2 : Int32) (u0_value : Value) (u1_coder : Value) (h0 : Heap) (n0 : Nat) (Z0 : n0 ≤ h0.size) (E_o0 : Exa Z h0 o0 "java/lang/String") (F_value_o0 : Fld Z h0 o0 "java/lang/String" "value" "[B" u0_value) (g_o0 : n0 ≤ o0) (F_coder_o0 : Fld Z h0 o0 "java/lang/String" "coder" "B" u1_coder) :
    MetFree l (⟨"java/lang/String", "<init>", "([BB)V"⟩ : MethodName) (head1 (Jvm.Cond.code (⟨"java/lang/String", "<init>", "([BB)V"⟩ : MethodName) jdk_42_method_151_code 3 none :: ws) ({ frames := 1, cells := 0, slots := 0, locals := 12 } : Room)) (fun a U => a = #[(.ref o0), (.ref o1), (.int p2)] ∧ Z.Warmed39 U.vm ∧ U.heap = h0) (fun _ _ _ _ _ => True) (fun _ U o U' => ∃ v L, o = .returned v ∧ Q8 Z o0 o1 p2 u0_value u1_coder h0 n0 v U'.heap L ∧ FrameEnd U o U' L ({ frames := 1, cells := 0, slots := 0, locals := 12 } : Room).cells ({ frames := 1, cells := 0, slots := 0, locals := 12 } : Room).slots) := by
  refine MetFree.of_bodySF (plainFor_of_name pn_java_lang_String) hisR ?_
  intro p e s m args below meth c s₁ Bd hml0 hP hK
  obtain ⟨rfl, hZ, hh⟩ := hP
  have hx := Bd.exec
  have hby := Bd.bytes
  have hml : c.maxLocals = 3 := hml0
  have hown : s.vm.findClass "java/lang/String" = some m.cls := findClass_of_methodNamed Bd.named
  have hnm := (name_of_methodNamed Bd.named Bd.method).1
  have hlk := BodyLoose.notSynchronized Bd
  have X0 : Stand p l e ({ frames := 1, cells := 0, slots := 0, locals := 12 } : Room) s m #[(.ref o0), (.ref o1), (.int p2)] below meth c s₁ [] 0 0 := Stand.of_body Bd
  have e0 : s₁.heap = h0 := by rw [← hh, Bd.state]; rfl
  have N0 := Fr.nil n0
  have pre0 : ∀ t, Steps p.tables e below (s₁.setTop (mkF m 0 #[.val (.ref o0), .val (.ref o1), .val (.int p2)] [])) t → Steps p.tables e below (s₁.setTop (entryFrame m #[(.ref o0), (.ref o1), (.int p2)] 3)) t := fun t k => castTop (ef_8 m o0 o1 p2) k
  obtain ⟨T1, X1, e1, st1⟩ := initO X0 hx hZ hown (hw _ (List.mem_of_getElem? (i := 50) rfl)) (hw _ (List.mem_of_getElem? (i := 12) rfl)) (hw _ (List.mem_of_getElem? (i := 13) rfl)) e0 (g := (mkF m 1 #[.val (.ref o0), .val (.ref o1), .val (.int p2)] [(.ref o0)])) rfl (by rw [hml]; rfl) rfl (hb hby d8_1) (by decide) (W := 0) (by show 2 * 0 + _ ≤ _; exact Nat.le_of_eq rfl) (by decide)
  obtain ⟨T2, h2, X2, e2, W2, st2⟩ := putF X1 hx hZ hown (host := "") (Or.inl (hw _ (List.mem_of_getElem? (i := 51) rfl))) Via.refl e1 F_value_o0 E_o0 (Or.inr ⟨(hw _ (List.mem_of_getElem? (i := 52) rfl)), rfl, hnm⟩) (hw _ (List.mem_of_getElem? (i := 41) rfl)) (ty := (.array .byte)) (by decide) rfl rfl (g := (mkF m 6 #[.val (.ref o0), .val (.ref o1), .val (.int p2)] [(.ref o1), (.ref o0)])) rfl rfl (hb hby d8_6)
  have Fw2 := F_value_o0.same W2
  have N2 := Fr.snoc X2 N0 g_o0
  have z3 : n0 ≤ h2.size := Nat.le_trans Z0 (Keep.of_wr W2).1
  have hs4 : h0.size ≤ h2.size := Nat.le_trans (Nat.le_refl h0.size) (Keep.of_wr W2).1
  have k5 := (F_coder_o0.other W2 (Or.inr (slot_ne (Or.inr (hw _ (List.mem_of_getElem? (i := 54) rfl))) (Or.inr (hw _ (List.mem_of_getElem? (i := 52) rfl))) (by decide) (t := .byte) (t' := (.array .byte)) (by decide) (by decide))))
  have k6 := (E_o0.wr W2)
  obtain ⟨T7, h7, X7, e7, W7, st7⟩ := putFN X2 hx hZ hown (hw _ (List.mem_of_getElem? (i := 53) rfl)) Via.refl e2 k5 k6 (Or.inr ⟨(hw _ (List.mem_of_getElem? (i := 54) rfl)), rfl, hnm⟩) (hw _ (List.mem_of_getElem? (i := 41) rfl)) (ty := .byte) (v' := (.int (nar .byte p2))) (by decide) rfl (fits_nar_byte p2) (g := (mkF m 11 #[.val (.ref o0), .val (.ref o1), .val (.int p2)] [(.int p2), (.ref o0)])) rfl rfl (hb hby d8_11)
  have Fw7 := k5.same W7
  have N7 := Fr.snoc X7 N2 g_o0
  have z8 : n0 ≤ h7.size := Nat.le_trans z3 (Keep.of_wr W7).1
  have hs9 : h0.size ≤ h7.size := Nat.le_trans hs4 (Keep.of_wr W7).1
  obtain ⟨fs, hr, hrun, hended, hW, hsame⟩ := X7.leave (v := none) (fun _ => rfl) hlk
  refine ⟨_, _, pre0 _ ?_, hrun, hended, _, _, rfl, ?_, ⟨_, rfl⟩, hW, hsame.mono (by decide) (by decide)⟩
  · skip
    show Steps p.tables e below (s₁.setTop (mkF m 0 #[.val (.ref o0), .val (.ref o1), .val (.int p2)] [])) _
    refine XS.aloadN X0.here hx rfl (hb hby d8_0) rfl rfl ?_
    show Steps p.tables e below (s₁.setTop (mkF m 1 #[.val (.ref o0), .val (.ref o1), .val (.int p2)] [(.ref o0)])) _
    refine st1 _ ?_
    show Steps p.tables e below (T1.setTop (mkF m 4 #[.val (.ref o0), .val (.ref o1), .val (.int p2)] [])) _
    refine XS.aloadN X1.here hx rfl (hb hby d8_4) rfl rfl ?_
    show Steps p.tables e below (T1.setTop (mkF m 5 #[.val (.ref o0), .val (.ref o1), .val (.int p2)] [(.ref o0)])) _
    refine XS.aloadN X1.here hx rfl (hb hby d8_5) rfl rfl ?_
    show Steps p.tables e below (T1.setTop (mkF m 6 #[.val (.ref o0), .val (.ref o1), .val (.int p2)] [(.ref o1), (.ref o0)])) _
    refine st2 _ ?_
    show Steps p.tables e below (T2.setTop (mkF m 9 #[.val (.ref o0), .val (.ref o1), .val (.int p2)] [])) _
    refine XS.aloadN X2.here hx rfl (hb hby d8_9) rfl rfl ?_
    show Steps p.tables e below (T2.setTop (mkF m 10 #[.val (.ref o0), .val (.ref o1), .val (.int p2)] [(.ref o0)])) _
    refine XS.iloadN X2.here hx rfl (hb hby d8_10) rfl ?_
    show Steps p.tables e below (T2.setTop (mkF m 11 #[.val (.ref o0), .val (.ref o1), .val (.int p2)] [(.int p2), (.ref o0)])) _
    refine st7 _ ?_
    show Steps p.tables e below (T7.setTop (mkF m 14 #[.val (.ref o0), .val (.ref o1), .val (.int p2)] [])) _
    exact X7.returnOut hx Bd.returns (hb hby d8_14) hr
  · skip
    show Q8 Z o0 o1 p2 u0_value u1_coder h0 n0 _ T7.heap _
    rw [e7]
    have k10 := (k6.wr W7)
    have k11 := (Fw2.other W7 (Or.inr (slot_ne (Or.inr (hw _ (List.mem_of_getElem? (i := 52) rfl))) (Or.inr (hw _ (List.mem_of_getElem? (i := 54) rfl))) (by decide) (t := (.array .byte)) (t' := .byte) (by decide) (by decide))))
    exact ⟨N7, rfl, (((Keep.refl h0 [o0]).wr W2 (Or.inl (List.mem_of_getElem? (i := 0) rfl))).wr W7 (Or.inl (List.mem_of_getElem? (i := 0) rfl))), k10, k11, Fw7⟩
theorem pd__C_Z : parseMethodDescriptor "(C)Z" = some ⟨[.char], some .boolean⟩ := by decide +kernel
theorem pd__C__B : parseMethodDescriptor "(C)[B" = some ⟨[.char], some (.array .byte)⟩ := by decide +kernel
theorem pd___BB_V : parseMethodDescriptor "([BB)V" = some ⟨[(.array .byte), .byte], none⟩ := by decide +kernel
theorem d5_0 : decode jdk_42_method_139_code 0 = .ok (.getstatic 38, 3) := by decide +kernel
theorem d5_3 : decode jdk_42_method_139_code 3 = .ok (.ifCond .eq 23, 3) := by decide +kernel
theorem d5_6 : decode jdk_42_method_139_code 6 = .ok (.iload_n 0, 1) := by decide +kernel
theorem d5_7 : decode jdk_42_method_139_code 7 = .ok (.invokestatic 1015, 3) := by decide +kernel
theorem d5_10 : decode jdk_42_method_139_code 10 = .ok (.ifCond .eq 16, 3) := by decide +kernel
theorem d5_13 : decode jdk_42_method_139_code 13 = .ok (.new 10, 3) := by decide +kernel
theorem d5_16 : decode jdk_42_method_139_code 16 = .ok (.dup, 1) := by decide +kernel
theorem d5_17 : decode jdk_42_method_139_code 17 = .ok (.iload_n 0, 1) := by decide +kernel
theorem d5_18 : decode jdk_42_method_139_code 18 = .ok (.invokestatic 1018, 3) := by decide +kernel
theorem d5_21 : decode jdk_42_method_139_code 21 = .ok (.iconst 0, 1) := by decide +kernel
theorem d5_22 : decode jdk_42_method_139_code 22 = .ok (.invokespecial 209, 3) := by decide +kernel
theorem d5_25 : decode jdk_42_method_139_code 25 = .ok (.areturn, 1) := by decide +kernel
theorem ef_5 (m : MethodId) (p0 : Int32) : entryFrame m #[(.int p0)] 1 = mkF m 0 #[.val (.int p0)] [] := by first | (simp [entryFrame, mkF, argsToLocals, Value.category]; done) | rfl
def v5_1 (p0 : Int32) (w0_COMPACT_STRINGS : Int32) : Int32 := (f6 p0)
def Q5 (Z : State) (p0 : Int32) (w0_COMPACT_STRINGS : Int32) (h0 : Heap) (n0 : Nat) (v : Option Value) (h : Heap) (L : List Loc) : Prop := Fr n0 L ∧ ∃ (x5_0 : Addr) (x5_1 : Addr) (k5_2 : ClassId), v = some (.ref x5_0) ∧ h0.size ≤ x5_0 ∧ h0.size ≤ x5_1 ∧ x5_0 ≠ x5_1 ∧ Keep h0 h [] ∧ Exa Z h x5_0 "java/lang/String" ∧ Fld Z h x5_0 "java/lang/String" "value" "[B" (.ref x5_1) ∧ Fld Z h x5_0 "java/lang/String" "coder" "B" (.int (nar .byte (0 : Int32))) ∧ Arv Z h x5_1 k5_2 .byte (1 : Int32) [(.int (nar .byte (p0.toInt8.toInt32)))] (.int (0 : Int32))
set_option maxRecDepth 65536 in
set_option maxHeartbeats 40000000 in
theorem rm5 (l : Launch) (Z : State) (a0 : Array Value) (hw : ∀ d ∈ tables_1, d.before a0 Z = true) (ws : List Jvm.Cond) (p0 : Int32) (w0_COMPACT_STRINGS : Int32) (h0 : Heap) (n0 : Nat) (Z0 : n0 ≤ h0.size) (S_COMPACT_STRINGS : Sta Z h0 "java/lang/String" "COMPACT_STRINGS" "Z" (.int w0_COMPACT_STRINGS)) (hy0 : ¬ (w0_COMPACT_STRINGS = (0 : Int32))) (hy1 : ¬ ((v5_1 p0 w0_COMPACT_STRINGS) = (0 : Int32))) :
    MetFree l (⟨"java/lang/String", "valueOf", "(C)Ljava/lang/String;"⟩ : MethodName) (head1 (Jvm.Cond.code (⟨"java/lang/String", "valueOf", "(C)Ljava/lang/String;"⟩ : MethodName) jdk_42_method_139_code 1 (some (.object "java/lang/String")) :: ws) ({ frames := 2, cells := 2, slots := 5, locals := 27 } : Room)) (fun a U => a = #[(.int p0)] ∧ Z.Warmed39 U.vm ∧ U.heap = h0) (fun _ _ _ _ _ => True) (fun _ U o U' => ∃ v L, o = .returned v ∧ Q5 Z p0 w0_COMPACT_STRINGS h0 n0 v U'.heap L ∧ FrameEnd U o U' L ({ frames := 2, cells := 2, slots := 5, locals := 27 } : Room).cells ({ frames := 2, cells := 2, slots := 5, locals := 27 } : Room).slots) := by
  refine MetFree.of_bodySF (plainFor_of_name pn_java_lang_String) hisR ?_
  intro p e s m args below meth c s₁ Bd hml0 hP hK
  obtain ⟨rfl, hZ, hh⟩ := hP
  have hx := Bd.exec
  have hby := Bd.bytes
  have hml : c.maxLocals = 1 := hml0
  have hown : s.vm.findClass "java/lang/String" = some m.cls := findClass_of_methodNamed Bd.named
  have hnm := (name_of_methodNamed Bd.named Bd.method).1
  have hlk := BodyLoose.notSynchronized Bd
  have X0 : Stand p l e ({ frames := 2, cells := 2, slots := 5, locals := 27 } : Room) s m #[(.int p0)] below meth c s₁ [] 0 0 := Stand.of_body Bd
  have e0 : s₁.heap = h0 := by rw [← hh, Bd.state]; rfl
  have N0 := Fr.nil n0
  have pre0 : ∀ t, Steps p.tables e below (s₁.setTop (mkF m 0 #[.val (.int p0)] [])) t → Steps p.tables e below (s₁.setTop (entryFrame m #[(.int p0)] 1)) t := fun t k => castTop (ef_5 m p0) k
  obtain ⟨T1, X1, e1, st1⟩ := getS2 X0 hx hZ hown (host := "") (Or.inl (hw _ (List.mem_of_getElem? (i := 35) rfl))) Via.refl e0 S_COMPACT_STRINGS (g := (mkF m 0 #[.val (.int p0)] [])) rfl (hb hby d5_0)
  obtain ⟨_, _, ⟨T2, L2, k2, n2⟩, -, X2, ⟨Lc2, hQ2, l2, y2, z2⟩, st2⟩ := Jvm.LawKit.callS X1 hx (y := (⟨"java/lang/StringLatin1", "canEncode", "(C)Z"⟩ : MethodName)) hown (mvT hZ (hw _ (List.mem_of_getElem? (i := 36) rfl))) (mvT hZ (hw _ (List.mem_of_getElem? (i := 37) rfl))) (mvT hZ (hw _ (List.mem_of_getElem? (i := 38) rfl))) (mvT hZ (hw _ (List.mem_of_getElem? (i := 39) rfl))) (by decide) (backOf (W := 0) (rm6 l Z a0 hw [] p0 h0 n0 Z0) hZ (hw _ (List.mem_of_getElem? (i := 39) rfl)) (hw _ (List.mem_of_getElem? (i := 38) rfl)) (by decide) (by decide)) (g := (mkF m 7 #[.val (.int p0)] [(.int p0)])) rfl (by rw [hml]; rfl) (argsL := [(.int p0)]) (rest := []) (lenOf pd__C_Z rfl) rfl (by show 2 * 0 + _ ≤ _; exact Nat.le_of_eq rfl) (hb hby d5_7) (fun _ _ => ⟨rfl, e1, (by decide : 0 + 0 ≤ _), (by decide : 0 + 0 ≤ _)⟩)
  dsimp only [Pt.U, Pt.locs, Pt.cells, Pt.slots] at X2 l2 y2 z2 st2 hQ2
  subst l2 y2 z2
  obtain ⟨N2q, rfl, e2⟩ := hQ2
  have N2 := Fr.app N0 N2q
  obtain ⟨T3, h3, X3, e3, E3, A3, D3, -, st3⟩ := newO X2 hx hZ hown (hw _ (List.mem_of_getElem? (i := 40) rfl)) (hw _ (List.mem_of_getElem? (i := 41) rfl)) (hw _ (List.mem_of_getElem? (i := 33) rfl)) e2 (g := (mkF m 13 #[.val (.int p0)] [])) rfl (hb hby d5_13) (by decide) (by decide)
  obtain ⟨b3, gz3⟩ : ∃ z, z = h0.size := ⟨_, rfl⟩
  rw [← gz3] at A3 D3 st3
  have g4 : n0 ≤ b3 := Nat.le_trans Z0 (Nat.le_of_eq gz3.symm)
  have sz5 : h0.size ≤ b3 := Nat.le_trans (Nat.le_refl h0.size) (Nat.le_of_eq gz3.symm)
  have z6 : n0 ≤ h3.size := Nat.le_trans Z0 E3.1
  have hs7 : h0.size ≤ h3.size := Nat.le_trans (Nat.le_refl h0.size) E3.1
  have F3_value : Fld Z h3 b3 "java/lang/String" "value" "[B" .null := D3 (Or.inr (hw _ (List.mem_of_getElem? (i := 52) rfl))) (ty := (.array .byte)) (by decide)
  have F3_coder : Fld Z h3 b3 "java/lang/String" "coder" "B" (.int (0 : Int32)) := D3 (Or.inr (hw _ (List.mem_of_getElem? (i := 54) rfl))) (ty := .byte) (by decide)
  obtain ⟨_, _, ⟨T8, L8, k8, n8⟩, -, X8, ⟨Lc8, hQ8, l8, y8, z8⟩, st8⟩ := Jvm.LawKit.callS X3 hx (y := (⟨"java/lang/StringLatin1", "toBytes", "(C)[B"⟩ : MethodName)) hown (mvT hZ (hw _ (List.mem_of_getElem? (i := 42) rfl))) (mvT hZ (hw _ (List.mem_of_getElem? (i := 43) rfl))) (mvT hZ (hw _ (List.mem_of_getElem? (i := 38) rfl))) (mvT hZ (hw _ (List.mem_of_getElem? (i := 44) rfl))) (by decide) (backOf (W := 2) (rm7 l Z a0 hw [] p0 h3 n0 z6) hZ (hw _ (List.mem_of_getElem? (i := 44) rfl)) (hw _ (List.mem_of_getElem? (i := 38) rfl)) (by decide) (by decide)) (g := (mkF m 18 #[.val (.int p0)] [(.int p0), (.ref b3), (.ref b3)])) rfl (by rw [hml]; rfl) (argsL := [(.int p0)]) (rest := [(.ref b3), (.ref b3)]) (lenOf pd__C__B rfl) rfl (by show 2 * 0 + _ ≤ _; exact Nat.le_of_eq rfl) (hb hby d5_18) (fun _ _ => ⟨rfl, e3, (by decide : 1 + 1 ≤ _), (by decide : 4 + 1 ≤ _)⟩)
  dsimp only [Pt.U, Pt.locs, Pt.cells, Pt.slots] at X8 l8 y8 z8 st8 hQ8
  subst l8 y8 z8
  obtain ⟨N8q, x7_0_8, k7_1_8, rfl, szx7_0_8, K8, po8_0⟩ := hQ8
  have ne9 : b3 ≠ x7_0_8 := Nat.ne_of_lt (Nat.lt_of_lt_of_le A3.lt szx7_0_8)
  have g10 : n0 ≤ x7_0_8 := Nat.le_trans z6 szx7_0_8
  have sz11 : h0.size ≤ x7_0_8 := Nat.le_trans hs7 szx7_0_8
  have z12 : n0 ≤ T8.heap.size := Nat.le_trans z6 K8.1
  have hs13 : h0.size ≤ T8.heap.size := Nat.le_trans hs7 K8.1
  have N8 := Fr.app N2 N8q
  have k15 := (A3.keep K8)
  have k16 := (F3_value.keep K8 nin0)
  have k17 := (F3_coder.keep K8 nin0)
  obtain ⟨_, _, ⟨T14, L14, k14, n14⟩, -, X14, ⟨Lc14, hQ14, l14, y14, z14⟩, st14⟩ := X8.specialBack hx (y := (⟨"java/lang/String", "<init>", "([BB)V"⟩ : MethodName)) rfl hown (mvT hZ (hw _ (List.mem_of_getElem? (i := 46) rfl))) (mvT hZ (hw _ (List.mem_of_getElem? (i := 47) rfl))) (mvT hZ (hw _ (List.mem_of_getElem? (i := 49) rfl))) (by decide) (backOf (W := 1) (rm8 l Z a0 hw [] b3 x7_0_8 (0 : Int32) .null (.int (0 : Int32)) T8.heap n0 z12 k15 k16 g4 k17) hZ (hw _ (List.mem_of_getElem? (i := 49) rfl)) (hw _ (List.mem_of_getElem? (i := 33) rfl)) (by decide) (by decide)) (g := (mkF m 22 #[.val (.int p0)] [(.int (0 : Int32)), (.ref x7_0_8), (.ref b3), (.ref b3)])) rfl (by rw [hml]; rfl) (Steps.refl _) (a := b3) (argsL := [(.ref x7_0_8), (.int (0 : Int32))]) (rest := [(.ref b3)]) (lenOf pd___BB_V rfl) rfl (by show 2 * 0 + _ ≤ _; exact Nat.le_of_eq rfl) (hb hby d5_22) (fun _ _ => ⟨rfl, rfl, (by decide : 2 + 0 ≤ _), (by decide : 5 + 0 ≤ _)⟩)
  dsimp only [Pt.U, Pt.locs, Pt.cells, Pt.slots] at X14 l14 y14 z14 st14 hQ14
  subst l14 y14 z14
  obtain ⟨N14q, rfl, K14, po14_0, po14_1, po14_2⟩ := hQ14
  have z18 : n0 ≤ T14.heap.size := Nat.le_trans z12 K14.1
  have hs19 : h0.size ≤ T14.heap.size := Nat.le_trans hs13 K14.1
  have N14 := Fr.app N8 N14q
  obtain ⟨fs, hr, hrun, hended, hW, hsame⟩ := X14.leave (v := some (.ref b3)) (fun h => by rw [Bd.returns] at h; cases h) hlk
  refine ⟨_, _, pre0 _ ?_, hrun, hended, _, _, rfl, ?_, ⟨_, rfl⟩, hW, hsame.mono (by decide) (by decide)⟩
  · skip
    show Steps p.tables e below (s₁.setTop (mkF m 0 #[.val (.int p0)] [])) _
    refine st1 _ ?_
    show Steps p.tables e below (T1.setTop (mkF m 3 #[.val (.int p0)] [(.int w0_COMPACT_STRINGS)])) _
    refine XS.ifNo X1.here hx rfl (hb hby d5_3) rfl (XT.i0_eq_f hy0) ?_
    show Steps p.tables e below (T1.setTop (mkF m 6 #[.val (.int p0)] [])) _
    refine XS.iloadN X1.here hx rfl (hb hby d5_6) rfl ?_
    show Steps p.tables e below (T1.setTop (mkF m 7 #[.val (.int p0)] [(.int p0)])) _
    refine st2 _ ?_
    show Steps p.tables e below (T2.setTop (mkF m 10 #[.val (.int p0)] [(.int (f6 p0))])) _
    refine XS.ifNo X2.here hx rfl (hb hby d5_10) rfl (XT.i0_eq_f hy1) ?_
    show Steps p.tables e below (T2.setTop (mkF m 13 #[.val (.int p0)] [])) _
    refine st3 _ ?_
    show Steps p.tables e below (T3.setTop (mkF m 16 #[.val (.int p0)] [(.ref b3)])) _
    refine XS.dup X3.here hx rfl (hb hby d5_16) rfl rfl ?_
    show Steps p.tables e below (T3.setTop (mkF m 17 #[.val (.int p0)] [(.ref b3), (.ref b3)])) _
    refine XS.iloadN X3.here hx rfl (hb hby d5_17) rfl ?_
    show Steps p.tables e below (T3.setTop (mkF m 18 #[.val (.int p0)] [(.int p0), (.ref b3), (.ref b3)])) _
    refine st8 _ ?_
    show Steps p.tables e below (T8.setTop (mkF m 21 #[.val (.int p0)] [(.ref x7_0_8), (.ref b3), (.ref b3)])) _
    refine XT.iconstV X8.here hx rfl (0 : Int32) (hb hby d5_21) (by decide) ?_
    show Steps p.tables e below (T8.setTop (mkF m 22 #[.val (.int p0)] [(.int (0 : Int32)), (.ref x7_0_8), (.ref b3), (.ref b3)])) _
    refine st14.trans ?_
    show Steps p.tables e below (T14.setTop (mkF m 25 #[.val (.int p0)] [(.ref b3)])) _
    exact X14.areturnOut hx rfl Bd.returns rfl (hb hby d5_25) hr
  · skip
    show Q5 Z p0 w0_COMPACT_STRINGS h0 n0 _ T14.heap _
    have k20 := (po8_0.keep K14 (ninS (Ne.symm ne9) nin0))
    exact ⟨N14, b3, x7_0_8, k7_1_8, rfl, sz5, sz11, ne9, ((((Keep.refl h0 []).ext E3).trans K8 all0).trans K14 (allS (Or.inr sz5) all0)), po14_0, po14_1, po14_2, k20⟩
theorem pd__II_I : parseMethodDescriptor "(II)I" = some ⟨[.int, .int], some .int⟩ := by decide +kernel
theorem pd__IIIII_V : parseMethodDescriptor "(IIIII)V" = some ⟨[.int, .int, .int, .int, .int], none⟩ := by decide +kernel
theorem pd__Ljava_lang_Object__Z : parseMethodDescriptor "(Ljava/lang/Object;)Z" = some ⟨[(.object "java/lang/Object")], some .boolean⟩ := by decide +kernel
theorem pd__C_Ljava_lang_String_ : parseMethodDescriptor "(C)Ljava/lang/String;" = some ⟨[.char], some (.object "java/lang/String")⟩ := by decide +kernel
theorem pn_com_example_vannus_vannus_PassageEqualsPinLaw : plainName "com/example/vannus/vannus/PassageEqualsPinLaw" = true := by first | (simp [plainName, overriddenIn]; done) | decide +kernel
theorem ef_0 (m : MethodId) (p0 : Int32) (p1 : Int32) (p2 : Int32) (p3 : Int32) (p4 : Int32) (p5 : Int32) : entryFrame m #[(.int p0), (.int p1), (.int p2), (.int p3), (.int p4), (.int p5)] maxLocals = mkF m 0 #[.val (.int p0), .val (.int p1), .val (.int p2), .val (.int p3), .val (.int p4), .val (.int p5), .unset, .unset, .unset, .unset, .unset, .unset, .unset, .unset, .unset, .unset, .unset, .unset, .unset, .unset, .unset, .unset] [] := by first | (simp [entryFrame, mkF, argsToLocals, Value.category, maxLocals]; done) | rfl
def v0_1 (p0 : Int32) (p1 : Int32) (p2 : Int32) (p3 : Int32) (p4 : Int32) (p5 : Int32) (w0_COMPACT_STRINGS : Int32) : Int32 := (p0 &&& (2147483647 : Int32))
def v0_2 (p0 : Int32) (p1 : Int32) (p2 : Int32) (p3 : Int32) (p4 : Int32) (p5 : Int32) (w0_COMPACT_STRINGS : Int32) : Int32 := (p1 &&& (2147483647 : Int32))
def v0_3 (p0 : Int32) (p1 : Int32) (p2 : Int32) (p3 : Int32) (p4 : Int32) (p5 : Int32) (w0_COMPACT_STRINGS : Int32) : Int32 := (f1 (1 : Int32) (v0_2 p0 p1 p2 p3 p4 p5 w0_COMPACT_STRINGS))
def v0_4 (p0 : Int32) (p1 : Int32) (p2 : Int32) (p3 : Int32) (p4 : Int32) (p5 : Int32) (w0_COMPACT_STRINGS : Int32) : Int32 := (p3 &&& (2147483647 : Int32))
def v0_5 (p0 : Int32) (p1 : Int32) (p2 : Int32) (p3 : Int32) (p4 : Int32) (p5 : Int32) (w0_COMPACT_STRINGS : Int32) : Int32 := (p4 &&& (2147483647 : Int32))
def v0_6 (p0 : Int32) (p1 : Int32) (p2 : Int32) (p3 : Int32) (p4 : Int32) (p5 : Int32) (w0_COMPACT_STRINGS : Int32) : Int32 := (f1 (1 : Int32) (v0_5 p0 p1 p2 p3 p4 p5 w0_COMPACT_STRINGS))
def v0_7 (p0 : Int32) (p1 : Int32) (p2 : Int32) (p3 : Int32) (p4 : Int32) (p5 : Int32) (w0_COMPACT_STRINGS : Int32) : Int32 := (p5 &&& (7 : Int32))
def v0_8 (p0 : Int32) (p1 : Int32) (p2 : Int32) (p3 : Int32) (p4 : Int32) (p5 : Int32) (w0_COMPACT_STRINGS : Int32) : Int32 := (p5 >>> ((3 : Int32) &&& 31))
def v0_9 (p0 : Int32) (p1 : Int32) (p2 : Int32) (p3 : Int32) (p4 : Int32) (p5 : Int32) (w0_COMPACT_STRINGS : Int32) : Int32 := (((v0_1 p0 p1 p2 p3 p4 p5 w0_COMPACT_STRINGS) ^^^ (v0_8 p0 p1 p2 p3 p4 p5 w0_COMPACT_STRINGS)) &&& (2147483647 : Int32))
def v0_10 (p0 : Int32) (p1 : Int32) (p2 : Int32) (p3 : Int32) (p4 : Int32) (p5 : Int32) (w0_COMPACT_STRINGS : Int32) : Int32 := (((v0_3 p0 p1 p2 p3 p4 p5 w0_COMPACT_STRINGS) ^^^ (v0_8 p0 p1 p2 p3 p4 p5 w0_COMPACT_STRINGS)) &&& (2147483647 : Int32))
def v0_11 (p0 : Int32) (p1 : Int32) (p2 : Int32) (p3 : Int32) (p4 : Int32) (p5 : Int32) (w0_COMPACT_STRINGS : Int32) : Int32 := (f1 (1 : Int32) (v0_10 p0 p1 p2 p3 p4 p5 w0_COMPACT_STRINGS))
def v0_12 (p0 : Int32) (p1 : Int32) (p2 : Int32) (p3 : Int32) (p4 : Int32) (p5 : Int32) (w0_COMPACT_STRINGS : Int32) : Int32 := (p2 ^^^ (v0_8 p0 p1 p2 p3 p4 p5 w0_COMPACT_STRINGS))
def v0_13 (p0 : Int32) (p1 : Int32) (p2 : Int32) (p3 : Int32) (p4 : Int32) (p5 : Int32) (w0_COMPACT_STRINGS : Int32) : Int32 := (((v0_4 p0 p1 p2 p3 p4 p5 w0_COMPACT_STRINGS) ^^^ (v0_8 p0 p1 p2 p3 p4 p5 w0_COMPACT_STRINGS)) &&& (2147483647 : Int32))
def v0_14 (p0 : Int32) (p1 : Int32) (p2 : Int32) (p3 : Int32) (p4 : Int32) (p5 : Int32) (w0_COMPACT_STRINGS : Int32) : Int32 := (((v0_6 p0 p1 p2 p3 p4 p5 w0_COMPACT_STRINGS) ^^^ (v0_8 p0 p1 p2 p3 p4 p5 w0_COMPACT_STRINGS)) &&& (2147483647 : Int32))
def v0_15 (p0 : Int32) (p1 : Int32) (p2 : Int32) (p3 : Int32) (p4 : Int32) (p5 : Int32) (w0_COMPACT_STRINGS : Int32) : Int32 := (f1 (1 : Int32) (v0_14 p0 p1 p2 p3 p4 p5 w0_COMPACT_STRINGS))
def v0_16 (p0 : Int32) (p1 : Int32) (p2 : Int32) (p3 : Int32) (p4 : Int32) (p5 : Int32) (w0_COMPACT_STRINGS : Int32) : Int32 := (if (v0_7 p0 p1 p2 p3 p4 p5 w0_COMPACT_STRINGS) = (0 : Int32) then (v0_9 p0 p1 p2 p3 p4 p5 w0_COMPACT_STRINGS) else (if (v0_7 p0 p1 p2 p3 p4 p5 w0_COMPACT_STRINGS) = (1 : Int32) then (v0_1 p0 p1 p2 p3 p4 p5 w0_COMPACT_STRINGS) else (if (v0_7 p0 p1 p2 p3 p4 p5 w0_COMPACT_STRINGS) = (2 : Int32) then (v0_1 p0 p1 p2 p3 p4 p5 w0_COMPACT_STRINGS) else (if (v0_7 p0 p1 p2 p3 p4 p5 w0_COMPACT_STRINGS) = (3 : Int32) then (v0_1 p0 p1 p2 p3 p4 p5 w0_COMPACT_STRINGS) else (if (v0_7 p0 p1 p2 p3 p4 p5 w0_COMPACT_STRINGS) = (4 : Int32) then (v0_1 p0 p1 p2 p3 p4 p5 w0_COMPACT_STRINGS) else (v0_1 p0 p1 p2 p3 p4 p5 w0_COMPACT_STRINGS))))))
def v0_17 (p0 : Int32) (p1 : Int32) (p2 : Int32) (p3 : Int32) (p4 : Int32) (p5 : Int32) (w0_COMPACT_STRINGS : Int32) : Int32 := (if (v0_7 p0 p1 p2 p3 p4 p5 w0_COMPACT_STRINGS) = (0 : Int32) then (v0_3 p0 p1 p2 p3 p4 p5 w0_COMPACT_STRINGS) else (if (v0_7 p0 p1 p2 p3 p4 p5 w0_COMPACT_STRINGS) = (1 : Int32) then (v0_11 p0 p1 p2 p3 p4 p5 w0_COMPACT_STRINGS) else (if (v0_7 p0 p1 p2 p3 p4 p5 w0_COMPACT_STRINGS) = (2 : Int32) then (v0_3 p0 p1 p2 p3 p4 p5 w0_COMPACT_STRINGS) else (if (v0_7 p0 p1 p2 p3 p4 p5 w0_COMPACT_STRINGS) = (3 : Int32) then (v0_3 p0 p1 p2 p3 p4 p5 w0_COMPACT_STRINGS) else (if (v0_7 p0 p1 p2 p3 p4 p5 w0_COMPACT_STRINGS) = (4 : Int32) then (v0_3 p0 p1 p2 p3 p4 p5 w0_COMPACT_STRINGS) else (v0_3 p0 p1 p2 p3 p4 p5 w0_COMPACT_STRINGS))))))
def v0_18 (p0 : Int32) (p1 : Int32) (p2 : Int32) (p3 : Int32) (p4 : Int32) (p5 : Int32) (w0_COMPACT_STRINGS : Int32) : Int32 := (if (v0_7 p0 p1 p2 p3 p4 p5 w0_COMPACT_STRINGS) = (0 : Int32) then p2 else (if (v0_7 p0 p1 p2 p3 p4 p5 w0_COMPACT_STRINGS) = (1 : Int32) then p2 else (if (v0_7 p0 p1 p2 p3 p4 p5 w0_COMPACT_STRINGS) = (2 : Int32) then (v0_12 p0 p1 p2 p3 p4 p5 w0_COMPACT_STRINGS) else (if (v0_7 p0 p1 p2 p3 p4 p5 w0_COMPACT_STRINGS) = (3 : Int32) then p2 else (if (v0_7 p0 p1 p2 p3 p4 p5 w0_COMPACT_STRINGS) = (4 : Int32) then p2 else p2)))))
def v0_19 (p0 : Int32) (p1 : Int32) (p2 : Int32) (p3 : Int32) (p4 : Int32) (p5 : Int32) (w0_COMPACT_STRINGS : Int32) : Int32 := (if (v0_7 p0 p1 p2 p3 p4 p5 w0_COMPACT_STRINGS) = (0 : Int32) then (v0_4 p0 p1 p2 p3 p4 p5 w0_COMPACT_STRINGS) else (if (v0_7 p0 p1 p2 p3 p4 p5 w0_COMPACT_STRINGS) = (1 : Int32) then (v0_4 p0 p1 p2 p3 p4 p5 w0_COMPACT_STRINGS) else (if (v0_7 p0 p1 p2 p3 p4 p5 w0_COMPACT_STRINGS) = (2 : Int32) then (v0_4 p0 p1 p2 p3 p4 p5 w0_COMPACT_STRINGS) else (if (v0_7 p0 p1 p2 p3 p4 p5 w0_COMPACT_STRINGS) = (3 : Int32) then (v0_13 p0 p1 p2 p3 p4 p5 w0_COMPACT_STRINGS) else (if (v0_7 p0 p1 p2 p3 p4 p5 w0_COMPACT_STRINGS) = (4 : Int32) then (v0_4 p0 p1 p2 p3 p4 p5 w0_COMPACT_STRINGS) else (v0_4 p0 p1 p2 p3 p4 p5 w0_COMPACT_STRINGS))))))
def v0_20 (p0 : Int32) (p1 : Int32) (p2 : Int32) (p3 : Int32) (p4 : Int32) (p5 : Int32) (w0_COMPACT_STRINGS : Int32) : Int32 := (if (v0_7 p0 p1 p2 p3 p4 p5 w0_COMPACT_STRINGS) = (0 : Int32) then (v0_6 p0 p1 p2 p3 p4 p5 w0_COMPACT_STRINGS) else (if (v0_7 p0 p1 p2 p3 p4 p5 w0_COMPACT_STRINGS) = (1 : Int32) then (v0_6 p0 p1 p2 p3 p4 p5 w0_COMPACT_STRINGS) else (if (v0_7 p0 p1 p2 p3 p4 p5 w0_COMPACT_STRINGS) = (2 : Int32) then (v0_6 p0 p1 p2 p3 p4 p5 w0_COMPACT_STRINGS) else (if (v0_7 p0 p1 p2 p3 p4 p5 w0_COMPACT_STRINGS) = (3 : Int32) then (v0_6 p0 p1 p2 p3 p4 p5 w0_COMPACT_STRINGS) else (if (v0_7 p0 p1 p2 p3 p4 p5 w0_COMPACT_STRINGS) = (4 : Int32) then (v0_15 p0 p1 p2 p3 p4 p5 w0_COMPACT_STRINGS) else (v0_6 p0 p1 p2 p3 p4 p5 w0_COMPACT_STRINGS))))))
def v0_21 (p0 : Int32) (p1 : Int32) (p2 : Int32) (p3 : Int32) (p4 : Int32) (p5 : Int32) (w0_COMPACT_STRINGS : Int32) : Int32 := (if (v0_1 p0 p1 p2 p3 p4 p5 w0_COMPACT_STRINGS) = (v0_16 p0 p1 p2 p3 p4 p5 w0_COMPACT_STRINGS) then (if (v0_3 p0 p1 p2 p3 p4 p5 w0_COMPACT_STRINGS) = (v0_17 p0 p1 p2 p3 p4 p5 w0_COMPACT_STRINGS) then (if p2 = (v0_18 p0 p1 p2 p3 p4 p5 w0_COMPACT_STRINGS) then (if (v0_4 p0 p1 p2 p3 p4 p5 w0_COMPACT_STRINGS) = (v0_19 p0 p1 p2 p3 p4 p5 w0_COMPACT_STRINGS) then (if (v0_6 p0 p1 p2 p3 p4 p5 w0_COMPACT_STRINGS) = (v0_20 p0 p1 p2 p3 p4 p5 w0_COMPACT_STRINGS) then (1 : Int32) else (0 : Int32)) else (0 : Int32)) else (0 : Int32)) else (0 : Int32)) else (0 : Int32))
def v0_22 (p0 : Int32) (p1 : Int32) (p2 : Int32) (p3 : Int32) (p4 : Int32) (p5 : Int32) (w0_COMPACT_STRINGS : Int32) : Int32 := (f4 (v0_1 p0 p1 p2 p3 p4 p5 w0_COMPACT_STRINGS) (v0_1 p0 p1 p2 p3 p4 p5 w0_COMPACT_STRINGS) (v0_3 p0 p1 p2 p3 p4 p5 w0_COMPACT_STRINGS) (v0_3 p0 p1 p2 p3 p4 p5 w0_COMPACT_STRINGS) p2 p2 (v0_4 p0 p1 p2 p3 p4 p5 w0_COMPACT_STRINGS) (v0_4 p0 p1 p2 p3 p4 p5 w0_COMPACT_STRINGS) (v0_6 p0 p1 p2 p3 p4 p5 w0_COMPACT_STRINGS) (v0_6 p0 p1 p2 p3 p4 p5 w0_COMPACT_STRINGS))
def v0_23 (p0 : Int32) (p1 : Int32) (p2 : Int32) (p3 : Int32) (p4 : Int32) (p5 : Int32) (w0_COMPACT_STRINGS : Int32) : Int32 := (if feqN = (0 : Int32) then (if (v0_22 p0 p1 p2 p3 p4 p5 w0_COMPACT_STRINGS) = (0 : Int32) then (0 : Int32) else (1 : Int32)) else (0 : Int32))
def v0_24 (p0 : Int32) (p1 : Int32) (p2 : Int32) (p3 : Int32) (p4 : Int32) (p5 : Int32) (w0_COMPACT_STRINGS : Int32) : Int32 := (((v0_8 p0 p1 p2 p3 p4 p5 w0_COMPACT_STRINGS) &&& (255 : Int32)).toUInt32.toUInt16.toUInt32.toInt32)
def v0_25 (p0 : Int32) (p1 : Int32) (p2 : Int32) (p3 : Int32) (p4 : Int32) (p5 : Int32) (w0_COMPACT_STRINGS : Int32) : Int32 := (f4 (v0_1 p0 p1 p2 p3 p4 p5 w0_COMPACT_STRINGS) (v0_1 p0 p1 p2 p3 p4 p5 w0_COMPACT_STRINGS) (v0_3 p0 p1 p2 p3 p4 p5 w0_COMPACT_STRINGS) (v0_3 p0 p1 p2 p3 p4 p5 w0_COMPACT_STRINGS) p2 p2 (v0_4 p0 p1 p2 p3 p4 p5 w0_COMPACT_STRINGS) (v0_4 p0 p1 p2 p3 p4 p5 w0_COMPACT_STRINGS) (v0_6 p0 p1 p2 p3 p4 p5 w0_COMPACT_STRINGS) (v0_6 p0 p1 p2 p3 p4 p5 w0_COMPACT_STRINGS))
def v0_26 (p0 : Int32) (p1 : Int32) (p2 : Int32) (p3 : Int32) (p4 : Int32) (p5 : Int32) (w0_COMPACT_STRINGS : Int32) : Int32 := (if feqS = (0 : Int32) then (if (v0_25 p0 p1 p2 p3 p4 p5 w0_COMPACT_STRINGS) = (0 : Int32) then (0 : Int32) else (1 : Int32)) else (0 : Int32))
def v0_27 (p0 : Int32) (p1 : Int32) (p2 : Int32) (p3 : Int32) (p4 : Int32) (p5 : Int32) (w0_COMPACT_STRINGS : Int32) : Int32 := (f4 (v0_1 p0 p1 p2 p3 p4 p5 w0_COMPACT_STRINGS) (v0_16 p0 p1 p2 p3 p4 p5 w0_COMPACT_STRINGS) (v0_3 p0 p1 p2 p3 p4 p5 w0_COMPACT_STRINGS) (v0_17 p0 p1 p2 p3 p4 p5 w0_COMPACT_STRINGS) p2 (v0_18 p0 p1 p2 p3 p4 p5 w0_COMPACT_STRINGS) (v0_4 p0 p1 p2 p3 p4 p5 w0_COMPACT_STRINGS) (v0_19 p0 p1 p2 p3 p4 p5 w0_COMPACT_STRINGS) (v0_6 p0 p1 p2 p3 p4 p5 w0_COMPACT_STRINGS) (v0_20 p0 p1 p2 p3 p4 p5 w0_COMPACT_STRINGS))
def v0_28 (p0 : Int32) (p1 : Int32) (p2 : Int32) (p3 : Int32) (p4 : Int32) (p5 : Int32) (w0_COMPACT_STRINGS : Int32) : Int32 := (f4 (v0_16 p0 p1 p2 p3 p4 p5 w0_COMPACT_STRINGS) (v0_1 p0 p1 p2 p3 p4 p5 w0_COMPACT_STRINGS) (v0_17 p0 p1 p2 p3 p4 p5 w0_COMPACT_STRINGS) (v0_3 p0 p1 p2 p3 p4 p5 w0_COMPACT_STRINGS) (v0_18 p0 p1 p2 p3 p4 p5 w0_COMPACT_STRINGS) p2 (v0_19 p0 p1 p2 p3 p4 p5 w0_COMPACT_STRINGS) (v0_4 p0 p1 p2 p3 p4 p5 w0_COMPACT_STRINGS) (v0_20 p0 p1 p2 p3 p4 p5 w0_COMPACT_STRINGS) (v0_6 p0 p1 p2 p3 p4 p5 w0_COMPACT_STRINGS))
def v0_29 (p0 : Int32) (p1 : Int32) (p2 : Int32) (p3 : Int32) (p4 : Int32) (p5 : Int32) (w0_COMPACT_STRINGS : Int32) : Int32 := (f4 (v0_1 p0 p1 p2 p3 p4 p5 w0_COMPACT_STRINGS) (v0_1 p0 p1 p2 p3 p4 p5 w0_COMPACT_STRINGS) (v0_3 p0 p1 p2 p3 p4 p5 w0_COMPACT_STRINGS) (v0_3 p0 p1 p2 p3 p4 p5 w0_COMPACT_STRINGS) p2 p2 (v0_4 p0 p1 p2 p3 p4 p5 w0_COMPACT_STRINGS) (v0_4 p0 p1 p2 p3 p4 p5 w0_COMPACT_STRINGS) (v0_6 p0 p1 p2 p3 p4 p5 w0_COMPACT_STRINGS) (v0_6 p0 p1 p2 p3 p4 p5 w0_COMPACT_STRINGS))
def v0_30 (p0 : Int32) (p1 : Int32) (p2 : Int32) (p3 : Int32) (p4 : Int32) (p5 : Int32) (w0_COMPACT_STRINGS : Int32) : Int32 := (if (v0_27 p0 p1 p2 p3 p4 p5 w0_COMPACT_STRINGS) = (v0_21 p0 p1 p2 p3 p4 p5 w0_COMPACT_STRINGS) then (if (v0_28 p0 p1 p2 p3 p4 p5 w0_COMPACT_STRINGS) = (v0_21 p0 p1 p2 p3 p4 p5 w0_COMPACT_STRINGS) then (if (v0_29 p0 p1 p2 p3 p4 p5 w0_COMPACT_STRINGS) = (0 : Int32) then (0 : Int32) else (1 : Int32)) else (0 : Int32)) else (0 : Int32))
/-own-/
theorem own_mask31 (x : Int32) : 0 ≤ (x &&& (2147483647 : Int32)).toInt := by
  have e1 : (x &&& (2147483647 : Int32)).toInt = x.toInt % 2 ^ 31 := Jvm.Kit.i32_mask x 2147483647 (k := 31) (by decide) (by decide)
  omega
theorem own_lt0 {x : Int32} (h : 0 ≤ x.toInt) : ¬ (x < (0 : Int32)) := by
  have c : (0 : Int32).toInt = 0 := by decide
  rw [Int32.lt_iff_toInt_lt, c]; omega
theorem own_max1 (x : Int32) : ¬ (f1 (1 : Int32) x < (1 : Int32)) := by
  have c1 : (1 : Int32).toInt = 1 := by decide
  unfold f1 v1_1
  by_cases h : (1 : Int32) < x
  · rw [if_pos h]; rw [Int32.lt_iff_toInt_lt] at *; omega
  · rw [if_neg h]; decide
theorem own_f4 (a a' b b' c c' d d' e e' : Int32) : f4 a a' b b' c c' d d' e e' = if a = a' ∧ b = b' ∧ c = c' ∧ d = d' ∧ e = e' then 1 else 0 := by
  have z : nar .boolean (0 : Int32) = 0 := by decide
  have o : nar .boolean (1 : Int32) = 1 := by decide
  unfold f4 v4_1
  by_cases h1 : a = a'
  · by_cases h2 : b = b'
    · by_cases h3 : c = c'
      · by_cases h4 : d = d'
        · by_cases h5 : e = e'
          · simp [h1, h2, h3, h4, h5, o]
          · simp [h1, h2, h3, h4, h5, z]
        · simp [h1, h2, h3, h4, z]
      · simp [h1, h2, h3, z]
    · simp [h1, h2, z]
  · simp [h1, z]
theorem own_tree (a a' b b' c c' d d' e e' : Int32) : (if a = a' then (if b = b' then (if c = c' then (if d = d' then (if e = e' then (1 : Int32) else (0 : Int32)) else (0 : Int32)) else (0 : Int32)) else (0 : Int32)) else (0 : Int32)) = if a = a' ∧ b = b' ∧ c = c' ∧ d = d' ∧ e = e' then 1 else 0 := by
  by_cases h1 : a = a'
  · by_cases h2 : b = b'
    · by_cases h3 : c = c'
      · by_cases h4 : d = d'
        · by_cases h5 : e = e'
          · simp [h1, h2, h3, h4, h5]
          · simp [h1, h2, h3, h4, h5]
        · simp [h1, h2, h3, h4]
      · simp [h1, h2, h3]
    · simp [h1, h2]
  · simp [h1]
theorem own_self (a b c d e : Int32) : f4 a a b b c c d d e e = 1 := by
  rw [own_f4]; exact if_pos ⟨rfl, rfl, rfl, rfl, rfl⟩
section Own
variable (p0 p1 p2 p3 p4 p5 w0 : Int32)
theorem own_H1_0 : ¬ (v0_1 p0 p1 p2 p3 p4 p5 w0 < (0 : Int32)) := own_lt0 (own_mask31 p0)
theorem own_H4_0 : ¬ (v0_4 p0 p1 p2 p3 p4 p5 w0 < (0 : Int32)) := own_lt0 (own_mask31 p3)
theorem own_H3_1 : ¬ (v0_3 p0 p1 p2 p3 p4 p5 w0 < (1 : Int32)) := own_max1 _
theorem own_H6_1 : ¬ (v0_6 p0 p1 p2 p3 p4 p5 w0 < (1 : Int32)) := own_max1 _
theorem own_H16_0 : ¬ (v0_16 p0 p1 p2 p3 p4 p5 w0 < (0 : Int32)) := by
  have a := own_H1_0 p0 p1 p2 p3 p4 p5 w0
  have b : ¬ (v0_9 p0 p1 p2 p3 p4 p5 w0 < (0 : Int32)) := own_lt0 (own_mask31 _)
  unfold v0_16; repeat' split
  all_goals first | exact a | exact b
theorem own_H19_0 : ¬ (v0_19 p0 p1 p2 p3 p4 p5 w0 < (0 : Int32)) := by
  have a := own_H4_0 p0 p1 p2 p3 p4 p5 w0
  have b : ¬ (v0_13 p0 p1 p2 p3 p4 p5 w0 < (0 : Int32)) := own_lt0 (own_mask31 _)
  unfold v0_19; repeat' split
  all_goals first | exact a | exact b
theorem own_H17_1 : ¬ (v0_17 p0 p1 p2 p3 p4 p5 w0 < (1 : Int32)) := by
  have a := own_H3_1 p0 p1 p2 p3 p4 p5 w0
  have b : ¬ (v0_11 p0 p1 p2 p3 p4 p5 w0 < (1 : Int32)) := own_max1 _
  unfold v0_17; repeat' split
  all_goals first | exact a | exact b
theorem own_H20_1 : ¬ (v0_20 p0 p1 p2 p3 p4 p5 w0 < (1 : Int32)) := by
  have a := own_H6_1 p0 p1 p2 p3 p4 p5 w0
  have b : ¬ (v0_15 p0 p1 p2 p3 p4 p5 w0 < (1 : Int32)) := own_max1 _
  unfold v0_20; repeat' split
  all_goals first | exact a | exact b
theorem own_char (x : Int32) : ((x &&& (255 : Int32)).toUInt32.toUInt16.toUInt32.toInt32).toInt ≤ 255 := by
  have e : (x &&& (255 : Int32)).toUInt32.toUInt16.toUInt32.toInt32 = x &&& (255 : Int32) := by
    apply Int32.toBitVec_inj.mp
    show ((x.toBitVec &&& 255#32).setWidth 16).setWidth 32 = x.toBitVec &&& 255#32
    apply BitVec.eq_of_toNat_eq
    have m : (x.toBitVec &&& 255#32).toNat < 256 := by
      rw [BitVec.toNat_and]; exact Nat.lt_of_le_of_lt (Nat.and_le_right) (by decide)
    rw [BitVec.toNat_setWidth, BitVec.toNat_setWidth, Nat.mod_eq_of_lt (a := (x.toBitVec &&& 255#32).toNat) (Nat.lt_trans m (by decide)), Nat.mod_eq_of_lt (Nat.lt_trans m (by decide))]
  rw [e]
  have : (x &&& (255 : Int32)).toInt = x.toInt % 2 ^ 8 := Jvm.Kit.i32_mask x 255 (k := 8) (by decide) (by decide)
  omega
theorem own_enc : ¬ (v5_1 (v0_24 p0 p1 p2 p3 p4 p5 w0) w0 = (0 : Int32)) := by
  have h : ¬ ((255 : Int32) < v0_24 p0 p1 p2 p3 p4 p5 w0) := by
    have c : (255 : Int32).toInt = 255 := by decide
    have := own_char (v0_8 p0 p1 p2 p3 p4 p5 w0)
    rw [Int32.lt_iff_toInt_lt, c]
    exact Int.not_lt.mpr this
  have e : v5_1 (v0_24 p0 p1 p2 p3 p4 p5 w0) w0 = 1 := by
    unfold v5_1 f6 v6_1
    rw [if_neg h]; decide
  rw [e]; decide
theorem own_v0_23 (c : v0_7 p0 p1 p2 p3 p4 p5 w0 = (6 : Int32)) : v0_23 p0 p1 p2 p3 p4 p5 w0 = (1 : Int32) := by
  refine (if_pos rfl).trans (if_neg ?_)
  rw [show v0_22 p0 p1 p2 p3 p4 p5 w0 = 1 from own_self _ _ _ _ _]; decide
theorem own_v0_26 (c : ¬ v0_7 p0 p1 p2 p3 p4 p5 w0 = (6 : Int32)) (d : v0_7 p0 p1 p2 p3 p4 p5 w0 = (7 : Int32)) : v0_26 p0 p1 p2 p3 p4 p5 w0 = (1 : Int32) := by
  refine (if_pos rfl).trans (if_neg ?_)
  rw [show v0_25 p0 p1 p2 p3 p4 p5 w0 = 1 from own_self _ _ _ _ _]; decide
theorem own_v0_30 (c : ¬ v0_7 p0 p1 p2 p3 p4 p5 w0 = (6 : Int32)) (d : ¬ v0_7 p0 p1 p2 p3 p4 p5 w0 = (7 : Int32)) : v0_30 p0 p1 p2 p3 p4 p5 w0 = (1 : Int32) := by
  have t : v0_21 p0 p1 p2 p3 p4 p5 w0 = _ := own_tree _ _ _ _ _ _ _ _ _ _
  refine (if_pos ?_).trans ((if_pos ?_).trans (if_neg ?_))
  · rw [t]; exact own_f4 _ _ _ _ _ _ _ _ _ _
  · rw [t]
    unfold v0_28
    rw [own_f4]
    simp only [eq_comm]
  · rw [show v0_29 p0 p1 p2 p3 p4 p5 w0 = 1 from own_self _ _ _ _ _]; decide
end Own
def Q0 (Z : State) (p0 : Int32) (p1 : Int32) (p2 : Int32) (p3 : Int32) (p4 : Int32) (p5 : Int32) (w0_COMPACT_STRINGS : Int32) (h0 : Heap) (n0 : Nat) (v : Option Value) (h : Heap) (L : List Loc) : Prop := v = some (.int (1 : Int32)) ∧ Fr n0 L
set_option maxRecDepth 65536 in
set_option maxHeartbeats 40000000 in
theorem rm0 (l : Launch) (Z : State) (a0 : Array Value) (hw : ∀ d ∈ tables_1, d.before a0 Z = true) (ws : List Jvm.Cond) (p0 : Int32) (p1 : Int32) (p2 : Int32) (p3 : Int32) (p4 : Int32) (p5 : Int32) (w0_COMPACT_STRINGS : Int32) (h0 : Heap) (n0 : Nat) (Z0 : n0 ≤ h0.size) (O0 : Old Z n0 h0) (S_COMPACT_STRINGS : Sta Z Z.heap "java/lang/String" "COMPACT_STRINGS" "Z" (.int w0_COMPACT_STRINGS)) (hcs : ¬ (w0_COMPACT_STRINGS = (0 : Int32))) :
    MetFree l x (head1 (Jvm.Cond.code x code maxLocals ret :: ws) room_1) (fun a U => a = #[(.int p0), (.int p1), (.int p2), (.int p3), (.int p4), (.int p5)] ∧ Z.Warmed39 U.vm ∧ U.heap = h0) (fun _ _ _ _ _ => True) (fun _ U o U' => ∃ v L, o = .returned v ∧ Q0 Z p0 p1 p2 p3 p4 p5 w0_COMPACT_STRINGS h0 n0 v U'.heap L ∧ FrameEnd U o U' L room_1.cells room_1.slots) := by
  refine MetFree.of_bodySF (plainFor_of_name pn_com_example_vannus_vannus_PassageEqualsPinLaw) hisR ?_
  intro p e s m args below meth c s₁ Bd hml0 hP hK
  obtain ⟨rfl, hZ, hh⟩ := hP
  have hx := Bd.exec
  have hby := Bd.bytes
  have hml : c.maxLocals = 22 := hml0
  have hown : s.vm.findClass "com/example/vannus/vannus/PassageEqualsPinLaw" = some m.cls := findClass_of_methodNamed Bd.named
  have hnm := (name_of_methodNamed Bd.named Bd.method).1
  have hlk := BodyLoose.notSynchronized Bd
  have X0 : Stand p l e room_1 s m #[(.int p0), (.int p1), (.int p2), (.int p3), (.int p4), (.int p5)] below meth c s₁ [] 0 0 := Stand.of_body Bd
  have e0 : s₁.heap = h0 := by rw [← hh, Bd.state]; rfl
  have N0 := Fr.nil n0
  have pre0 : ∀ t, Steps p.tables e below (s₁.setTop (mkF m 0 #[.val (.int p0), .val (.int p1), .val (.int p2), .val (.int p3), .val (.int p4), .val (.int p5), .unset, .unset, .unset, .unset, .unset, .unset, .unset, .unset, .unset, .unset, .unset, .unset, .unset, .unset, .unset, .unset] [])) t → Steps p.tables e below (s₁.setTop (entryFrame m #[(.int p0), (.int p1), (.int p2), (.int p3), (.int p4), (.int p5)] maxLocals)) t := fun t k => castTop (ef_0 m p0 p1 p2 p3 p4 p5) k
  obtain ⟨_, _, ⟨T1, L1, k1, n1⟩, -, X1, ⟨Lc1, hQ1, l1, y1, z1⟩, st1⟩ := Jvm.LawKit.callS X0 hx (y := (⟨"java/lang/Math", "max", "(II)I"⟩ : MethodName)) hown (mvT hZ (hw _ (List.mem_of_getElem? (i := 1) rfl))) (mvT hZ (hw _ (List.mem_of_getElem? (i := 2) rfl))) (mvT hZ (hw _ (List.mem_of_getElem? (i := 3) rfl))) (mvT hZ (hw _ (List.mem_of_getElem? (i := 4) rfl))) (by decide) (backOf (W := 0) (rm1 l Z a0 hw [] (1 : Int32) (v0_2 p0 p1 p2 p3 p4 p5 w0_COMPACT_STRINGS) h0 n0 Z0) hZ (hw _ (List.mem_of_getElem? (i := 4) rfl)) (hw _ (List.mem_of_getElem? (i := 3) rfl)) (by decide) (by decide)) (g := (mkF m 11 #[.val (.int p0), .val (.int p1), .val (.int p2), .val (.int p3), .val (.int p4), .val (.int p5), .val (.int (v0_1 p0 p1 p2 p3 p4 p5 w0_COMPACT_STRINGS)), .unset, .unset, .unset, .unset, .unset, .unset, .unset, .unset, .unset, .unset, .unset, .unset, .unset, .unset, .unset] [(.int (v0_2 p0 p1 p2 p3 p4 p5 w0_COMPACT_STRINGS)), (.int (1 : Int32))])) rfl (by rw [hml]; rfl) (argsL := [(.int (1 : Int32)), (.int (v0_2 p0 p1 p2 p3 p4 p5 w0_COMPACT_STRINGS))]) (rest := []) (lenOf pd__II_I rfl) rfl (by show 2 * 0 + _ ≤ _; exact Nat.le_of_eq rfl) (hb hby at_11) (fun _ _ => ⟨rfl, e0, (by decide : 0 + 0 ≤ _), (by decide : 0 + 0 ≤ _)⟩)
  dsimp only [Pt.U, Pt.locs, Pt.cells, Pt.slots] at X1 l1 y1 z1 st1 hQ1
  subst l1 y1 z1
  obtain ⟨N1q, rfl, e1⟩ := hQ1
  have N1 := Fr.app N0 N1q
  obtain ⟨_, _, ⟨T2, L2, k2, n2⟩, -, X2, ⟨Lc2, hQ2, l2, y2, z2⟩, st2⟩ := Jvm.LawKit.callS X1 hx (y := (⟨"java/lang/Math", "max", "(II)I"⟩ : MethodName)) hown (mvT hZ (hw _ (List.mem_of_getElem? (i := 1) rfl))) (mvT hZ (hw _ (List.mem_of_getElem? (i := 2) rfl))) (mvT hZ (hw _ (List.mem_of_getElem? (i := 3) rfl))) (mvT hZ (hw _ (List.mem_of_getElem? (i := 4) rfl))) (by decide) (backOf (W := 0) (rm1 l Z a0 hw [] (1 : Int32) (v0_5 p0 p1 p2 p3 p4 p5 w0_COMPACT_STRINGS) h0 n0 Z0) hZ (hw _ (List.mem_of_getElem? (i := 4) rfl)) (hw _ (List.mem_of_getElem? (i := 3) rfl)) (by decide) (by decide)) (g := (mkF m 28 #[.val (.int p0), .val (.int p1), .val (.int p2), .val (.int p3), .val (.int p4), .val (.int p5), .val (.int (v0_1 p0 p1 p2 p3 p4 p5 w0_COMPACT_STRINGS)), .val (.int (v0_3 p0 p1 p2 p3 p4 p5 w0_COMPACT_STRINGS)), .val (.int (v0_4 p0 p1 p2 p3 p4 p5 w0_COMPACT_STRINGS)), .unset, .unset, .unset, .unset, .unset, .unset, .unset, .unset, .unset, .unset, .unset, .unset, .unset] [(.int (v0_5 p0 p1 p2 p3 p4 p5 w0_COMPACT_STRINGS)), (.int (1 : Int32))])) rfl (by rw [hml]; rfl) (argsL := [(.int (1 : Int32)), (.int (v0_5 p0 p1 p2 p3 p4 p5 w0_COMPACT_STRINGS))]) (rest := []) (lenOf pd__II_I rfl) rfl (by show 2 * 0 + _ ≤ _; exact Nat.le_of_eq rfl) (hb hby at_28) (fun _ _ => ⟨rfl, e1, (by decide : 0 + 0 ≤ _), (by decide : 0 + 0 ≤ _)⟩)
  dsimp only [Pt.U, Pt.locs, Pt.cells, Pt.slots] at X2 l2 y2 z2 st2 hQ2
  subst l2 y2 z2
  obtain ⟨N2q, rfl, e2⟩ := hQ2
  have N2 := Fr.app N1 N2q
  have pre3 : ∀ t, Steps p.tables e below (T2.setTop (mkF m 67 #[.val (.int p0), .val (.int p1), .val (.int p2), .val (.int p3), .val (.int p4), .val (.int p5), .val (.int (v0_1 p0 p1 p2 p3 p4 p5 w0_COMPACT_STRINGS)), .val (.int (v0_3 p0 p1 p2 p3 p4 p5 w0_COMPACT_STRINGS)), .val (.int (v0_4 p0 p1 p2 p3 p4 p5 w0_COMPACT_STRINGS)), .val (.int (v0_6 p0 p1 p2 p3 p4 p5 w0_COMPACT_STRINGS)), .val (.int (v0_7 p0 p1 p2 p3 p4 p5 w0_COMPACT_STRINGS)), .val (.int (v0_8 p0 p1 p2 p3 p4 p5 w0_COMPACT_STRINGS)), .val (.int (v0_1 p0 p1 p2 p3 p4 p5 w0_COMPACT_STRINGS)), .val (.int (v0_3 p0 p1 p2 p3 p4 p5 w0_COMPACT_STRINGS)), .val (.int p2), .val (.int (v0_4 p0 p1 p2 p3 p4 p5 w0_COMPACT_STRINGS)), .val (.int (v0_6 p0 p1 p2 p3 p4 p5 w0_COMPACT_STRINGS)), .unset, .unset, .unset, .unset, .unset] [(.int (v0_7 p0 p1 p2 p3 p4 p5 w0_COMPACT_STRINGS))])) t → Steps p.tables e below (s₁.setTop (entryFrame m #[(.int p0), (.int p1), (.int p2), (.int p3), (.int p4), (.int p5)] maxLocals)) t := by
    intro t k
    refine pre0 t ?_
    show Steps p.tables e below (s₁.setTop (mkF m 0 #[.val (.int p0), .val (.int p1), .val (.int p2), .val (.int p3), .val (.int p4), .val (.int p5), .unset, .unset, .unset, .unset, .unset, .unset, .unset, .unset, .unset, .unset, .unset, .unset, .unset, .unset, .unset, .unset] [])) _
    refine XS.iloadN X0.here hx rfl (hb hby at_0) rfl ?_
    show Steps p.tables e below (s₁.setTop (mkF m 1 #[.val (.int p0), .val (.int p1), .val (.int p2), .val (.int p3), .val (.int p4), .val (.int p5), .unset, .unset, .unset, .unset, .unset, .unset, .unset, .unset, .unset, .unset, .unset, .unset, .unset, .unset, .unset, .unset] [(.int p0)])) _
    refine X0.ldcI hx hown (mvT hZ (hw _ (List.mem_of_getElem? (i := 0) rfl))) rfl (hb hby at_1) ?_
    show Steps p.tables e below (s₁.setTop (mkF m 3 #[.val (.int p0), .val (.int p1), .val (.int p2), .val (.int p3), .val (.int p4), .val (.int p5), .unset, .unset, .unset, .unset, .unset, .unset, .unset, .unset, .unset, .unset, .unset, .unset, .unset, .unset, .unset, .unset] [(.int (2147483647 : Int32)), (.int p0)])) _
    refine XS.iand X0.here hx rfl (hb hby at_3) rfl ?_
    show Steps p.tables e below (s₁.setTop (mkF m 4 #[.val (.int p0), .val (.int p1), .val (.int p2), .val (.int p3), .val (.int p4), .val (.int p5), .unset, .unset, .unset, .unset, .unset, .unset, .unset, .unset, .unset, .unset, .unset, .unset, .unset, .unset, .unset, .unset] [(.int (p0 &&& (2147483647 : Int32)))])) _
    refine XS.istore X0.here hx rfl (hb hby at_4) rfl (l' := #[.val (.int p0), .val (.int p1), .val (.int p2), .val (.int p3), .val (.int p4), .val (.int p5), .val (.int (v0_1 p0 p1 p2 p3 p4 p5 w0_COMPACT_STRINGS)), .unset, .unset, .unset, .unset, .unset, .unset, .unset, .unset, .unset, .unset, .unset, .unset, .unset, .unset, .unset]) rfl ?_
    show Steps p.tables e below (s₁.setTop (mkF m 6 #[.val (.int p0), .val (.int p1), .val (.int p2), .val (.int p3), .val (.int p4), .val (.int p5), .val (.int (v0_1 p0 p1 p2 p3 p4 p5 w0_COMPACT_STRINGS)), .unset, .unset, .unset, .unset, .unset, .unset, .unset, .unset, .unset, .unset, .unset, .unset, .unset, .unset, .unset] [])) _
    refine XT.iconstV X0.here hx rfl (1 : Int32) (hb hby at_6) (by decide) ?_
    show Steps p.tables e below (s₁.setTop (mkF m 7 #[.val (.int p0), .val (.int p1), .val (.int p2), .val (.int p3), .val (.int p4), .val (.int p5), .val (.int (v0_1 p0 p1 p2 p3 p4 p5 w0_COMPACT_STRINGS)), .unset, .unset, .unset, .unset, .unset, .unset, .unset, .unset, .unset, .unset, .unset, .unset, .unset, .unset, .unset] [(.int (1 : Int32))])) _
    refine XS.iloadN X0.here hx rfl (hb hby at_7) rfl ?_
    show Steps p.tables e below (s₁.setTop (mkF m 8 #[.val (.int p0), .val (.int p1), .val (.int p2), .val (.int p3), .val (.int p4), .val (.int p5), .val (.int (v0_1 p0 p1 p2 p3 p4 p5 w0_COMPACT_STRINGS)), .unset, .unset, .unset, .unset, .unset, .unset, .unset, .unset, .unset, .unset, .unset, .unset, .unset, .unset, .unset] [(.int p1), (.int (1 : Int32))])) _
    refine X0.ldcI hx hown (mvT hZ (hw _ (List.mem_of_getElem? (i := 0) rfl))) rfl (hb hby at_8) ?_
    show Steps p.tables e below (s₁.setTop (mkF m 10 #[.val (.int p0), .val (.int p1), .val (.int p2), .val (.int p3), .val (.int p4), .val (.int p5), .val (.int (v0_1 p0 p1 p2 p3 p4 p5 w0_COMPACT_STRINGS)), .unset, .unset, .unset, .unset, .unset, .unset, .unset, .unset, .unset, .unset, .unset, .unset, .unset, .unset, .unset] [(.int (2147483647 : Int32)), (.int p1), (.int (1 : Int32))])) _
    refine XS.iand X0.here hx rfl (hb hby at_10) rfl ?_
    show Steps p.tables e below (s₁.setTop (mkF m 11 #[.val (.int p0), .val (.int p1), .val (.int p2), .val (.int p3), .val (.int p4), .val (.int p5), .val (.int (v0_1 p0 p1 p2 p3 p4 p5 w0_COMPACT_STRINGS)), .unset, .unset, .unset, .unset, .unset, .unset, .unset, .unset, .unset, .unset, .unset, .unset, .unset, .unset, .unset] [(.int (p1 &&& (2147483647 : Int32))), (.int (1 : Int32))])) _
    refine st1 _ ?_
    show Steps p.tables e below (T1.setTop (mkF m 14 #[.val (.int p0), .val (.int p1), .val (.int p2), .val (.int p3), .val (.int p4), .val (.int p5), .val (.int (v0_1 p0 p1 p2 p3 p4 p5 w0_COMPACT_STRINGS)), .unset, .unset, .unset, .unset, .unset, .unset, .unset, .unset, .unset, .unset, .unset, .unset, .unset, .unset, .unset] [(.int (f1 (1 : Int32) (v0_2 p0 p1 p2 p3 p4 p5 w0_COMPACT_STRINGS)))])) _
    refine XS.istore X1.here hx rfl (hb hby at_14) rfl (l' := #[.val (.int p0), .val (.int p1), .val (.int p2), .val (.int p3), .val (.int p4), .val (.int p5), .val (.int (v0_1 p0 p1 p2 p3 p4 p5 w0_COMPACT_STRINGS)), .val (.int (v0_3 p0 p1 p2 p3 p4 p5 w0_COMPACT_STRINGS)), .unset, .unset, .unset, .unset, .unset, .unset, .unset, .unset, .unset, .unset, .unset, .unset, .unset, .unset]) rfl ?_
    show Steps p.tables e below (T1.setTop (mkF m 16 #[.val (.int p0), .val (.int p1), .val (.int p2), .val (.int p3), .val (.int p4), .val (.int p5), .val (.int (v0_1 p0 p1 p2 p3 p4 p5 w0_COMPACT_STRINGS)), .val (.int (v0_3 p0 p1 p2 p3 p4 p5 w0_COMPACT_STRINGS)), .unset, .unset, .unset, .unset, .unset, .unset, .unset, .unset, .unset, .unset, .unset, .unset, .unset, .unset] [])) _
    refine XS.iloadN X1.here hx rfl (hb hby at_16) rfl ?_
    show Steps p.tables e below (T1.setTop (mkF m 17 #[.val (.int p0), .val (.int p1), .val (.int p2), .val (.int p3), .val (.int p4), .val (.int p5), .val (.int (v0_1 p0 p1 p2 p3 p4 p5 w0_COMPACT_STRINGS)), .val (.int (v0_3 p0 p1 p2 p3 p4 p5 w0_COMPACT_STRINGS)), .unset, .unset, .unset, .unset, .unset, .unset, .unset, .unset, .unset, .unset, .unset, .unset, .unset, .unset] [(.int p3)])) _
    refine X1.ldcI hx hown (mvT hZ (hw _ (List.mem_of_getElem? (i := 0) rfl))) rfl (hb hby at_17) ?_
    show Steps p.tables e below (T1.setTop (mkF m 19 #[.val (.int p0), .val (.int p1), .val (.int p2), .val (.int p3), .val (.int p4), .val (.int p5), .val (.int (v0_1 p0 p1 p2 p3 p4 p5 w0_COMPACT_STRINGS)), .val (.int (v0_3 p0 p1 p2 p3 p4 p5 w0_COMPACT_STRINGS)), .unset, .unset, .unset, .unset, .unset, .unset, .unset, .unset, .unset, .unset, .unset, .unset, .unset, .unset] [(.int (2147483647 : Int32)), (.int p3)])) _
    refine XS.iand X1.here hx rfl (hb hby at_19) rfl ?_
    show Steps p.tables e below (T1.setTop (mkF m 20 #[.val (.int p0), .val (.int p1), .val (.int p2), .val (.int p3), .val (.int p4), .val (.int p5), .val (.int (v0_1 p0 p1 p2 p3 p4 p5 w0_COMPACT_STRINGS)), .val (.int (v0_3 p0 p1 p2 p3 p4 p5 w0_COMPACT_STRINGS)), .unset, .unset, .unset, .unset, .unset, .unset, .unset, .unset, .unset, .unset, .unset, .unset, .unset, .unset] [(.int (p3 &&& (2147483647 : Int32)))])) _
    refine XS.istore X1.here hx rfl (hb hby at_20) rfl (l' := #[.val (.int p0), .val (.int p1), .val (.int p2), .val (.int p3), .val (.int p4), .val (.int p5), .val (.int (v0_1 p0 p1 p2 p3 p4 p5 w0_COMPACT_STRINGS)), .val (.int (v0_3 p0 p1 p2 p3 p4 p5 w0_COMPACT_STRINGS)), .val (.int (v0_4 p0 p1 p2 p3 p4 p5 w0_COMPACT_STRINGS)), .unset, .unset, .unset, .unset, .unset, .unset, .unset, .unset, .unset, .unset, .unset, .unset, .unset]) rfl ?_
    show Steps p.tables e below (T1.setTop (mkF m 22 #[.val (.int p0), .val (.int p1), .val (.int p2), .val (.int p3), .val (.int p4), .val (.int p5), .val (.int (v0_1 p0 p1 p2 p3 p4 p5 w0_COMPACT_STRINGS)), .val (.int (v0_3 p0 p1 p2 p3 p4 p5 w0_COMPACT_STRINGS)), .val (.int (v0_4 p0 p1 p2 p3 p4 p5 w0_COMPACT_STRINGS)), .unset, .unset, .unset, .unset, .unset, .unset, .unset, .unset, .unset, .unset, .unset, .unset, .unset] [])) _
    refine XT.iconstV X1.here hx rfl (1 : Int32) (hb hby at_22) (by decide) ?_
    show Steps p.tables e below (T1.setTop (mkF m 23 #[.val (.int p0), .val (.int p1), .val (.int p2), .val (.int p3), .val (.int p4), .val (.int p5), .val (.int (v0_1 p0 p1 p2 p3 p4 p5 w0_COMPACT_STRINGS)), .val (.int (v0_3 p0 p1 p2 p3 p4 p5 w0_COMPACT_STRINGS)), .val (.int (v0_4 p0 p1 p2 p3 p4 p5 w0_COMPACT_STRINGS)), .unset, .unset, .unset, .unset, .unset, .unset, .unset, .unset, .unset, .unset, .unset, .unset, .unset] [(.int (1 : Int32))])) _
    refine XS.iload X1.here hx rfl (hb hby at_23) rfl ?_
    show Steps p.tables e below (T1.setTop (mkF m 25 #[.val (.int p0), .val (.int p1), .val (.int p2), .val (.int p3), .val (.int p4), .val (.int p5), .val (.int (v0_1 p0 p1 p2 p3 p4 p5 w0_COMPACT_STRINGS)), .val (.int (v0_3 p0 p1 p2 p3 p4 p5 w0_COMPACT_STRINGS)), .val (.int (v0_4 p0 p1 p2 p3 p4 p5 w0_COMPACT_STRINGS)), .unset, .unset, .unset, .unset, .unset, .unset, .unset, .unset, .unset, .unset, .unset, .unset, .unset] [(.int p4), (.int (1 : Int32))])) _
    refine X1.ldcI hx hown (mvT hZ (hw _ (List.mem_of_getElem? (i := 0) rfl))) rfl (hb hby at_25) ?_
    show Steps p.tables e below (T1.setTop (mkF m 27 #[.val (.int p0), .val (.int p1), .val (.int p2), .val (.int p3), .val (.int p4), .val (.int p5), .val (.int (v0_1 p0 p1 p2 p3 p4 p5 w0_COMPACT_STRINGS)), .val (.int (v0_3 p0 p1 p2 p3 p4 p5 w0_COMPACT_STRINGS)), .val (.int (v0_4 p0 p1 p2 p3 p4 p5 w0_COMPACT_STRINGS)), .unset, .unset, .unset, .unset, .unset, .unset, .unset, .unset, .unset, .unset, .unset, .unset, .unset] [(.int (2147483647 : Int32)), (.int p4), (.int (1 : Int32))])) _
    refine XS.iand X1.here hx rfl (hb hby at_27) rfl ?_
    show Steps p.tables e below (T1.setTop (mkF m 28 #[.val (.int p0), .val (.int p1), .val (.int p2), .val (.int p3), .val (.int p4), .val (.int p5), .val (.int (v0_1 p0 p1 p2 p3 p4 p5 w0_COMPACT_STRINGS)), .val (.int (v0_3 p0 p1 p2 p3 p4 p5 w0_COMPACT_STRINGS)), .val (.int (v0_4 p0 p1 p2 p3 p4 p5 w0_COMPACT_STRINGS)), .unset, .unset, .unset, .unset, .unset, .unset, .unset, .unset, .unset, .unset, .unset, .unset, .unset] [(.int (p4 &&& (2147483647 : Int32))), (.int (1 : Int32))])) _
    refine st2 _ ?_
    show Steps p.tables e below (T2.setTop (mkF m 31 #[.val (.int p0), .val (.int p1), .val (.int p2), .val (.int p3), .val (.int p4), .val (.int p5), .val (.int (v0_1 p0 p1 p2 p3 p4 p5 w0_COMPACT_STRINGS)), .val (.int (v0_3 p0 p1 p2 p3 p4 p5 w0_COMPACT_STRINGS)), .val (.int (v0_4 p0 p1 p2 p3 p4 p5 w0_COMPACT_STRINGS)), .unset, .unset, .unset, .unset, .unset, .unset, .unset, .unset, .unset, .unset, .unset, .unset, .unset] [(.int (f1 (1 : Int32) (v0_5 p0 p1 p2 p3 p4 p5 w0_COMPACT_STRINGS)))])) _
    refine XS.istore X2.here hx rfl (hb hby at_31) rfl (l' := #[.val (.int p0), .val (.int p1), .val (.int p2), .val (.int p3), .val (.int p4), .val (.int p5), .val (.int (v0_1 p0 p1 p2 p3 p4 p5 w0_COMPACT_STRINGS)), .val (.int (v0_3 p0 p1 p2 p3 p4 p5 w0_COMPACT_STRINGS)), .val (.int (v0_4 p0 p1 p2 p3 p4 p5 w0_COMPACT_STRINGS)), .val (.int (v0_6 p0 p1 p2 p3 p4 p5 w0_COMPACT_STRINGS)), .unset, .unset, .unset, .unset, .unset, .unset, .unset, .unset, .unset, .unset, .unset, .unset]) rfl ?_
    show Steps p.tables e below (T2.setTop (mkF m 33 #[.val (.int p0), .val (.int p1), .val (.int p2), .val (.int p3), .val (.int p4), .val (.int p5), .val (.int (v0_1 p0 p1 p2 p3 p4 p5 w0_COMPACT_STRINGS)), .val (.int (v0_3 p0 p1 p2 p3 p4 p5 w0_COMPACT_STRINGS)), .val (.int (v0_4 p0 p1 p2 p3 p4 p5 w0_COMPACT_STRINGS)), .val (.int (v0_6 p0 p1 p2 p3 p4 p5 w0_COMPACT_STRINGS)), .unset, .unset, .unset, .unset, .unset, .unset, .unset, .unset, .unset, .unset, .unset, .unset] [])) _
    refine XS.iload X2.here hx rfl (hb hby at_33) rfl ?_
    show Steps p.tables e below (T2.setTop (mkF m 35 #[.val (.int p0), .val (.int p1), .val (.int p2), .val (.int p3), .val (.int p4), .val (.int p5), .val (.int (v0_1 p0 p1 p2 p3 p4 p5 w0_COMPACT_STRINGS)), .val (.int (v0_3 p0 p1 p2 p3 p4 p5 w0_COMPACT_STRINGS)), .val (.int (v0_4 p0 p1 p2 p3 p4 p5 w0_COMPACT_STRINGS)), .val (.int (v0_6 p0 p1 p2 p3 p4 p5 w0_COMPACT_STRINGS)), .unset, .unset, .unset, .unset, .unset, .unset, .unset, .unset, .unset, .unset, .unset, .unset] [(.int p5)])) _
    refine XT.bipushV X2.here hx rfl (7 : Int32) (hb hby at_35) (by decide) ?_
    show Steps p.tables e below (T2.setTop (mkF m 37 #[.val (.int p0), .val (.int p1), .val (.int p2), .val (.int p3), .val (.int p4), .val (.int p5), .val (.int (v0_1 p0 p1 p2 p3 p4 p5 w0_COMPACT_STRINGS)), .val (.int (v0_3 p0 p1 p2 p3 p4 p5 w0_COMPACT_STRINGS)), .val (.int (v0_4 p0 p1 p2 p3 p4 p5 w0_COMPACT_STRINGS)), .val (.int (v0_6 p0 p1 p2 p3 p4 p5 w0_COMPACT_STRINGS)), .unset, .unset, .unset, .unset, .unset, .unset, .unset, .unset, .unset, .unset, .unset, .unset] [(.int (7 : Int32)), (.int p5)])) _
    refine XS.iand X2.here hx rfl (hb hby at_37) rfl ?_
    show Steps p.tables e below (T2.setTop (mkF m 38 #[.val (.int p0), .val (.int p1), .val (.int p2), .val (.int p3), .val (.int p4), .val (.int p5), .val (.int (v0_1 p0 p1 p2 p3 p4 p5 w0_COMPACT_STRINGS)), .val (.int (v0_3 p0 p1 p2 p3 p4 p5 w0_COMPACT_STRINGS)), .val (.int (v0_4 p0 p1 p2 p3 p4 p5 w0_COMPACT_STRINGS)), .val (.int (v0_6 p0 p1 p2 p3 p4 p5 w0_COMPACT_STRINGS)), .unset, .unset, .unset, .unset, .unset, .unset, .unset, .unset, .unset, .unset, .unset, .unset] [(.int (p5 &&& (7 : Int32)))])) _
    refine XS.istore X2.here hx rfl (hb hby at_38) rfl (l' := #[.val (.int p0), .val (.int p1), .val (.int p2), .val (.int p3), .val (.int p4), .val (.int p5), .val (.int (v0_1 p0 p1 p2 p3 p4 p5 w0_COMPACT_STRINGS)), .val (.int (v0_3 p0 p1 p2 p3 p4 p5 w0_COMPACT_STRINGS)), .val (.int (v0_4 p0 p1 p2 p3 p4 p5 w0_COMPACT_STRINGS)), .val (.int (v0_6 p0 p1 p2 p3 p4 p5 w0_COMPACT_STRINGS)), .val (.int (v0_7 p0 p1 p2 p3 p4 p5 w0_COMPACT_STRINGS)), .unset, .unset, .unset, .unset, .unset, .unset, .unset, .unset, .unset, .unset, .unset]) rfl ?_
    show Steps p.tables e below (T2.setTop (mkF m 40 #[.val (.int p0), .val (.int p1), .val (.int p2), .val (.int p3), .val (.int p4), .val (.int p5), .val (.int (v0_1 p0 p1 p2 p3 p4 p5 w0_COMPACT_STRINGS)), .val (.int (v0_3 p0 p1 p2 p3 p4 p5 w0_COMPACT_STRINGS)), .val (.int (v0_4 p0 p1 p2 p3 p4 p5 w0_COMPACT_STRINGS)), .val (.int (v0_6 p0 p1 p2 p3 p4 p5 w0_COMPACT_STRINGS)), .val (.int (v0_7 p0 p1 p2 p3 p4 p5 w0_COMPACT_STRINGS)), .unset, .unset, .unset, .unset, .unset, .unset, .unset, .unset, .unset, .unset, .unset] [])) _
    refine XS.iload X2.here hx rfl (hb hby at_40) rfl ?_
    show Steps p.tables e below (T2.setTop (mkF m 42 #[.val (.int p0), .val (.int p1), .val (.int p2), .val (.int p3), .val (.int p4), .val (.int p5), .val (.int (v0_1 p0 p1 p2 p3 p4 p5 w0_COMPACT_STRINGS)), .val (.int (v0_3 p0 p1 p2 p3 p4 p5 w0_COMPACT_STRINGS)), .val (.int (v0_4 p0 p1 p2 p3 p4 p5 w0_COMPACT_STRINGS)), .val (.int (v0_6 p0 p1 p2 p3 p4 p5 w0_COMPACT_STRINGS)), .val (.int (v0_7 p0 p1 p2 p3 p4 p5 w0_COMPACT_STRINGS)), .unset, .unset, .unset, .unset, .unset, .unset, .unset, .unset, .unset, .unset, .unset] [(.int p5)])) _
    refine XT.iconstV X2.here hx rfl (3 : Int32) (hb hby at_42) (by decide) ?_
    show Steps p.tables e below (T2.setTop (mkF m 43 #[.val (.int p0), .val (.int p1), .val (.int p2), .val (.int p3), .val (.int p4), .val (.int p5), .val (.int (v0_1 p0 p1 p2 p3 p4 p5 w0_COMPACT_STRINGS)), .val (.int (v0_3 p0 p1 p2 p3 p4 p5 w0_COMPACT_STRINGS)), .val (.int (v0_4 p0 p1 p2 p3 p4 p5 w0_COMPACT_STRINGS)), .val (.int (v0_6 p0 p1 p2 p3 p4 p5 w0_COMPACT_STRINGS)), .val (.int (v0_7 p0 p1 p2 p3 p4 p5 w0_COMPACT_STRINGS)), .unset, .unset, .unset, .unset, .unset, .unset, .unset, .unset, .unset, .unset, .unset] [(.int (3 : Int32)), (.int p5)])) _
    refine XT.ishr X2.here hx rfl (hb hby at_43) rfl ?_
    show Steps p.tables e below (T2.setTop (mkF m 44 #[.val (.int p0), .val (.int p1), .val (.int p2), .val (.int p3), .val (.int p4), .val (.int p5), .val (.int (v0_1 p0 p1 p2 p3 p4 p5 w0_COMPACT_STRINGS)), .val (.int (v0_3 p0 p1 p2 p3 p4 p5 w0_COMPACT_STRINGS)), .val (.int (v0_4 p0 p1 p2 p3 p4 p5 w0_COMPACT_STRINGS)), .val (.int (v0_6 p0 p1 p2 p3 p4 p5 w0_COMPACT_STRINGS)), .val (.int (v0_7 p0 p1 p2 p3 p4 p5 w0_COMPACT_STRINGS)), .unset, .unset, .unset, .unset, .unset, .unset, .unset, .unset, .unset, .unset, .unset] [(.int (p5 >>> ((3 : Int32) &&& 31)))])) _
    refine XS.istore X2.here hx rfl (hb hby at_44) rfl (l' := #[.val (.int p0), .val (.int p1), .val (.int p2), .val (.int p3), .val (.int p4), .val (.int p5), .val (.int (v0_1 p0 p1 p2 p3 p4 p5 w0_COMPACT_STRINGS)), .val (.int (v0_3 p0 p1 p2 p3 p4 p5 w0_COMPACT_STRINGS)), .val (.int (v0_4 p0 p1 p2 p3 p4 p5 w0_COMPACT_STRINGS)), .val (.int (v0_6 p0 p1 p2 p3 p4 p5 w0_COMPACT_STRINGS)), .val (.int (v0_7 p0 p1 p2 p3 p4 p5 w0_COMPACT_STRINGS)), .val (.int (v0_8 p0 p1 p2 p3 p4 p5 w0_COMPACT_STRINGS)), .unset, .unset, .unset, .unset, .unset, .unset, .unset, .unset, .unset, .unset]) rfl ?_
    show Steps p.tables e below (T2.setTop (mkF m 46 #[.val (.int p0), .val (.int p1), .val (.int p2), .val (.int p3), .val (.int p4), .val (.int p5), .val (.int (v0_1 p0 p1 p2 p3 p4 p5 w0_COMPACT_STRINGS)), .val (.int (v0_3 p0 p1 p2 p3 p4 p5 w0_COMPACT_STRINGS)), .val (.int (v0_4 p0 p1 p2 p3 p4 p5 w0_COMPACT_STRINGS)), .val (.int (v0_6 p0 p1 p2 p3 p4 p5 w0_COMPACT_STRINGS)), .val (.int (v0_7 p0 p1 p2 p3 p4 p5 w0_COMPACT_STRINGS)), .val (.int (v0_8 p0 p1 p2 p3 p4 p5 w0_COMPACT_STRINGS)), .unset, .unset, .unset, .unset, .unset, .unset, .unset, .unset, .unset, .unset] [])) _
    refine XS.iload X2.here hx rfl (hb hby at_46) rfl ?_
    show Steps p.tables e below (T2.setTop (mkF m 48 #[.val (.int p0), .val (.int p1), .val (.int p2), .val (.int p3), .val (.int p4), .val (.int p5), .val (.int (v0_1 p0 p1 p2 p3 p4 p5 w0_COMPACT_STRINGS)), .val (.int (v0_3 p0 p1 p2 p3 p4 p5 w0_COMPACT_STRINGS)), .val (.int (v0_4 p0 p1 p2 p3 p4 p5 w0_COMPACT_STRINGS)), .val (.int (v0_6 p0 p1 p2 p3 p4 p5 w0_COMPACT_STRINGS)), .val (.int (v0_7 p0 p1 p2 p3 p4 p5 w0_COMPACT_STRINGS)), .val (.int (v0_8 p0 p1 p2 p3 p4 p5 w0_COMPACT_STRINGS)), .unset, .unset, .unset, .unset, .unset, .unset, .unset, .unset, .unset, .unset] [(.int (v0_1 p0 p1 p2 p3 p4 p5 w0_COMPACT_STRINGS))])) _
    refine XS.istore X2.here hx rfl (hb hby at_48) rfl (l' := #[.val (.int p0), .val (.int p1), .val (.int p2), .val (.int p3), .val (.int p4), .val (.int p5), .val (.int (v0_1 p0 p1 p2 p3 p4 p5 w0_COMPACT_STRINGS)), .val (.int (v0_3 p0 p1 p2 p3 p4 p5 w0_COMPACT_STRINGS)), .val (.int (v0_4 p0 p1 p2 p3 p4 p5 w0_COMPACT_STRINGS)), .val (.int (v0_6 p0 p1 p2 p3 p4 p5 w0_COMPACT_STRINGS)), .val (.int (v0_7 p0 p1 p2 p3 p4 p5 w0_COMPACT_STRINGS)), .val (.int (v0_8 p0 p1 p2 p3 p4 p5 w0_COMPACT_STRINGS)), .val (.int (v0_1 p0 p1 p2 p3 p4 p5 w0_COMPACT_STRINGS)), .unset, .unset, .unset, .unset, .unset, .unset, .unset, .unset, .unset]) rfl ?_
    show Steps p.tables e below (T2.setTop (mkF m 50 #[.val (.int p0), .val (.int p1), .val (.int p2), .val (.int p3), .val (.int p4), .val (.int p5), .val (.int (v0_1 p0 p1 p2 p3 p4 p5 w0_COMPACT_STRINGS)), .val (.int (v0_3 p0 p1 p2 p3 p4 p5 w0_COMPACT_STRINGS)), .val (.int (v0_4 p0 p1 p2 p3 p4 p5 w0_COMPACT_STRINGS)), .val (.int (v0_6 p0 p1 p2 p3 p4 p5 w0_COMPACT_STRINGS)), .val (.int (v0_7 p0 p1 p2 p3 p4 p5 w0_COMPACT_STRINGS)), .val (.int (v0_8 p0 p1 p2 p3 p4 p5 w0_COMPACT_STRINGS)), .val (.int (v0_1 p0 p1 p2 p3 p4 p5 w0_COMPACT_STRINGS)), .unset, .unset, .unset, .unset, .unset, .unset, .unset, .unset, .unset] [])) _
    refine XS.iload X2.here hx rfl (hb hby at_50) rfl ?_
    show Steps p.tables e below (T2.setTop (mkF m 52 #[.val (.int p0), .val (.int p1), .val (.int p2), .val (.int p3), .val (.int p4), .val (.int p5), .val (.int (v0_1 p0 p1 p2 p3 p4 p5 w0_COMPACT_STRINGS)), .val (.int (v0_3 p0 p1 p2 p3 p4 p5 w0_COMPACT_STRINGS)), .val (.int (v0_4 p0 p1 p2 p3 p4 p5 w0_COMPACT_STRINGS)), .val (.int (v0_6 p0 p1 p2 p3 p4 p5 w0_COMPACT_STRINGS)), .val (.int (v0_7 p0 p1 p2 p3 p4 p5 w0_COMPACT_STRINGS)), .val (.int (v0_8 p0 p1 p2 p3 p4 p5 w0_COMPACT_STRINGS)), .val (.int (v0_1 p0 p1 p2 p3 p4 p5 w0_COMPACT_STRINGS)), .unset, .unset, .unset, .unset, .unset, .unset, .unset, .unset, .unset] [(.int (v0_3 p0 p1 p2 p3 p4 p5 w0_COMPACT_STRINGS))])) _
    refine XS.istore X2.here hx rfl (hb hby at_52) rfl (l' := #[.val (.int p0), .val (.int p1), .val (.int p2), .val (.int p3), .val (.int p4), .val (.int p5), .val (.int (v0_1 p0 p1 p2 p3 p4 p5 w0_COMPACT_STRINGS)), .val (.int (v0_3 p0 p1 p2 p3 p4 p5 w0_COMPACT_STRINGS)), .val (.int (v0_4 p0 p1 p2 p3 p4 p5 w0_COMPACT_STRINGS)), .val (.int (v0_6 p0 p1 p2 p3 p4 p5 w0_COMPACT_STRINGS)), .val (.int (v0_7 p0 p1 p2 p3 p4 p5 w0_COMPACT_STRINGS)), .val (.int (v0_8 p0 p1 p2 p3 p4 p5 w0_COMPACT_STRINGS)), .val (.int (v0_1 p0 p1 p2 p3 p4 p5 w0_COMPACT_STRINGS)), .val (.int (v0_3 p0 p1 p2 p3 p4 p5 w0_COMPACT_STRINGS)), .unset, .unset, .unset, .unset, .unset, .unset, .unset, .unset]) rfl ?_
    show Steps p.tables e below (T2.setTop (mkF m 54 #[.val (.int p0), .val (.int p1), .val (.int p2), .val (.int p3), .val (.int p4), .val (.int p5), .val (.int (v0_1 p0 p1 p2 p3 p4 p5 w0_COMPACT_STRINGS)), .val (.int (v0_3 p0 p1 p2 p3 p4 p5 w0_COMPACT_STRINGS)), .val (.int (v0_4 p0 p1 p2 p3 p4 p5 w0_COMPACT_STRINGS)), .val (.int (v0_6 p0 p1 p2 p3 p4 p5 w0_COMPACT_STRINGS)), .val (.int (v0_7 p0 p1 p2 p3 p4 p5 w0_COMPACT_STRINGS)), .val (.int (v0_8 p0 p1 p2 p3 p4 p5 w0_COMPACT_STRINGS)), .val (.int (v0_1 p0 p1 p2 p3 p4 p5 w0_COMPACT_STRINGS)), .val (.int (v0_3 p0 p1 p2 p3 p4 p5 w0_COMPACT_STRINGS)), .unset, .unset, .unset, .unset, .unset, .unset, .unset, .unset] [])) _
    refine XS.iloadN X2.here hx rfl (hb hby at_54) rfl ?_
    show Steps p.tables e below (T2.setTop (mkF m 55 #[.val (.int p0), .val (.int p1), .val (.int p2), .val (.int p3), .val (.int p4), .val (.int p5), .val (.int (v0_1 p0 p1 p2 p3 p4 p5 w0_COMPACT_STRINGS)), .val (.int (v0_3 p0 p1 p2 p3 p4 p5 w0_COMPACT_STRINGS)), .val (.int (v0_4 p0 p1 p2 p3 p4 p5 w0_COMPACT_STRINGS)), .val (.int (v0_6 p0 p1 p2 p3 p4 p5 w0_COMPACT_STRINGS)), .val (.int (v0_7 p0 p1 p2 p3 p4 p5 w0_COMPACT_STRINGS)), .val (.int (v0_8 p0 p1 p2 p3 p4 p5 w0_COMPACT_STRINGS)), .val (.int (v0_1 p0 p1 p2 p3 p4 p5 w0_COMPACT_STRINGS)), .val (.int (v0_3 p0 p1 p2 p3 p4 p5 w0_COMPACT_STRINGS)), .unset, .unset, .unset, .unset, .unset, .unset, .unset, .unset] [(.int p2)])) _
    refine XS.istore X2.here hx rfl (hb hby at_55) rfl (l' := #[.val (.int p0), .val (.int p1), .val (.int p2), .val (.int p3), .val (.int p4), .val (.int p5), .val (.int (v0_1 p0 p1 p2 p3 p4 p5 w0_COMPACT_STRINGS)), .val (.int (v0_3 p0 p1 p2 p3 p4 p5 w0_COMPACT_STRINGS)), .val (.int (v0_4 p0 p1 p2 p3 p4 p5 w0_COMPACT_STRINGS)), .val (.int (v0_6 p0 p1 p2 p3 p4 p5 w0_COMPACT_STRINGS)), .val (.int (v0_7 p0 p1 p2 p3 p4 p5 w0_COMPACT_STRINGS)), .val (.int (v0_8 p0 p1 p2 p3 p4 p5 w0_COMPACT_STRINGS)), .val (.int (v0_1 p0 p1 p2 p3 p4 p5 w0_COMPACT_STRINGS)), .val (.int (v0_3 p0 p1 p2 p3 p4 p5 w0_COMPACT_STRINGS)), .val (.int p2), .unset, .unset, .unset, .unset, .unset, .unset, .unset]) rfl ?_
    show Steps p.tables e below (T2.setTop (mkF m 57 #[.val (.int p0), .val (.int p1), .val (.int p2), .val (.int p3), .val (.int p4), .val (.int p5), .val (.int (v0_1 p0 p1 p2 p3 p4 p5 w0_COMPACT_STRINGS)), .val (.int (v0_3 p0 p1 p2 p3 p4 p5 w0_COMPACT_STRINGS)), .val (.int (v0_4 p0 p1 p2 p3 p4 p5 w0_COMPACT_STRINGS)), .val (.int (v0_6 p0 p1 p2 p3 p4 p5 w0_COMPACT_STRINGS)), .val (.int (v0_7 p0 p1 p2 p3 p4 p5 w0_COMPACT_STRINGS)), .val (.int (v0_8 p0 p1 p2 p3 p4 p5 w0_COMPACT_STRINGS)), .val (.int (v0_1 p0 p1 p2 p3 p4 p5 w0_COMPACT_STRINGS)), .val (.int (v0_3 p0 p1 p2 p3 p4 p5 w0_COMPACT_STRINGS)), .val (.int p2), .unset, .unset, .unset, .unset, .unset, .unset, .unset] [])) _
    refine XS.iload X2.here hx rfl (hb hby at_57) rfl ?_
    show Steps p.tables e below (T2.setTop (mkF m 59 #[.val (.int p0), .val (.int p1), .val (.int p2), .val (.int p3), .val (.int p4), .val (.int p5), .val (.int (v0_1 p0 p1 p2 p3 p4 p5 w0_COMPACT_STRINGS)), .val (.int (v0_3 p0 p1 p2 p3 p4 p5 w0_COMPACT_STRINGS)), .val (.int (v0_4 p0 p1 p2 p3 p4 p5 w0_COMPACT_STRINGS)), .val (.int (v0_6 p0 p1 p2 p3 p4 p5 w0_COMPACT_STRINGS)), .val (.int (v0_7 p0 p1 p2 p3 p4 p5 w0_COMPACT_STRINGS)), .val (.int (v0_8 p0 p1 p2 p3 p4 p5 w0_COMPACT_STRINGS)), .val (.int (v0_1 p0 p1 p2 p3 p4 p5 w0_COMPACT_STRINGS)), .val (.int (v0_3 p0 p1 p2 p3 p4 p5 w0_COMPACT_STRINGS)), .val (.int p2), .unset, .unset, .unset, .unset, .unset, .unset, .unset] [(.int (v0_4 p0 p1 p2 p3 p4 p5 w0_COMPACT_STRINGS))])) _
    refine XS.istore X2.here hx rfl (hb hby at_59) rfl (l' := #[.val (.int p0), .val (.int p1), .val (.int p2), .val (.int p3), .val (.int p4), .val (.int p5), .val (.int (v0_1 p0 p1 p2 p3 p4 p5 w0_COMPACT_STRINGS)), .val (.int (v0_3 p0 p1 p2 p3 p4 p5 w0_COMPACT_STRINGS)), .val (.int (v0_4 p0 p1 p2 p3 p4 p5 w0_COMPACT_STRINGS)), .val (.int (v0_6 p0 p1 p2 p3 p4 p5 w0_COMPACT_STRINGS)), .val (.int (v0_7 p0 p1 p2 p3 p4 p5 w0_COMPACT_STRINGS)), .val (.int (v0_8 p0 p1 p2 p3 p4 p5 w0_COMPACT_STRINGS)), .val (.int (v0_1 p0 p1 p2 p3 p4 p5 w0_COMPACT_STRINGS)), .val (.int (v0_3 p0 p1 p2 p3 p4 p5 w0_COMPACT_STRINGS)), .val (.int p2), .val (.int (v0_4 p0 p1 p2 p3 p4 p5 w0_COMPACT_STRINGS)), .unset, .unset, .unset, .unset, .unset, .unset]) rfl ?_
    show Steps p.tables e below (T2.setTop (mkF m 61 #[.val (.int p0), .val (.int p1), .val (.int p2), .val (.int p3), .val (.int p4), .val (.int p5), .val (.int (v0_1 p0 p1 p2 p3 p4 p5 w0_COMPACT_STRINGS)), .val (.int (v0_3 p0 p1 p2 p3 p4 p5 w0_COMPACT_STRINGS)), .val (.int (v0_4 p0 p1 p2 p3 p4 p5 w0_COMPACT_STRINGS)), .val (.int (v0_6 p0 p1 p2 p3 p4 p5 w0_COMPACT_STRINGS)), .val (.int (v0_7 p0 p1 p2 p3 p4 p5 w0_COMPACT_STRINGS)), .val (.int (v0_8 p0 p1 p2 p3 p4 p5 w0_COMPACT_STRINGS)), .val (.int (v0_1 p0 p1 p2 p3 p4 p5 w0_COMPACT_STRINGS)), .val (.int (v0_3 p0 p1 p2 p3 p4 p5 w0_COMPACT_STRINGS)), .val (.int p2), .val (.int (v0_4 p0 p1 p2 p3 p4 p5 w0_COMPACT_STRINGS)), .unset, .unset, .unset, .unset, .unset, .unset] [])) _
    refine XS.iload X2.here hx rfl (hb hby at_61) rfl ?_
    show Steps p.tables e below (T2.setTop (mkF m 63 #[.val (.int p0), .val (.int p1), .val (.int p2), .val (.int p3), .val (.int p4), .val (.int p5), .val (.int (v0_1 p0 p1 p2 p3 p4 p5 w0_COMPACT_STRINGS)), .val (.int (v0_3 p0 p1 p2 p3 p4 p5 w0_COMPACT_STRINGS)), .val (.int (v0_4 p0 p1 p2 p3 p4 p5 w0_COMPACT_STRINGS)), .val (.int (v0_6 p0 p1 p2 p3 p4 p5 w0_COMPACT_STRINGS)), .val (.int (v0_7 p0 p1 p2 p3 p4 p5 w0_COMPACT_STRINGS)), .val (.int (v0_8 p0 p1 p2 p3 p4 p5 w0_COMPACT_STRINGS)), .val (.int (v0_1 p0 p1 p2 p3 p4 p5 w0_COMPACT_STRINGS)), .val (.int (v0_3 p0 p1 p2 p3 p4 p5 w0_COMPACT_STRINGS)), .val (.int p2), .val (.int (v0_4 p0 p1 p2 p3 p4 p5 w0_COMPACT_STRINGS)), .unset, .unset, .unset, .unset, .unset, .unset] [(.int (v0_6 p0 p1 p2 p3 p4 p5 w0_COMPACT_STRINGS))])) _
    refine XS.istore X2.here hx rfl (hb hby at_63) rfl (l' := #[.val (.int p0), .val (.int p1), .val (.int p2), .val (.int p3), .val (.int p4), .val (.int p5), .val (.int (v0_1 p0 p1 p2 p3 p4 p5 w0_COMPACT_STRINGS)), .val (.int (v0_3 p0 p1 p2 p3 p4 p5 w0_COMPACT_STRINGS)), .val (.int (v0_4 p0 p1 p2 p3 p4 p5 w0_COMPACT_STRINGS)), .val (.int (v0_6 p0 p1 p2 p3 p4 p5 w0_COMPACT_STRINGS)), .val (.int (v0_7 p0 p1 p2 p3 p4 p5 w0_COMPACT_STRINGS)), .val (.int (v0_8 p0 p1 p2 p3 p4 p5 w0_COMPACT_STRINGS)), .val (.int (v0_1 p0 p1 p2 p3 p4 p5 w0_COMPACT_STRINGS)), .val (.int (v0_3 p0 p1 p2 p3 p4 p5 w0_COMPACT_STRINGS)), .val (.int p2), .val (.int (v0_4 p0 p1 p2 p3 p4 p5 w0_COMPACT_STRINGS)), .val (.int (v0_6 p0 p1 p2 p3 p4 p5 w0_COMPACT_STRINGS)), .unset, .unset, .unset, .unset, .unset]) rfl ?_
    show Steps p.tables e below (T2.setTop (mkF m 65 #[.val (.int p0), .val (.int p1), .val (.int p2), .val (.int p3), .val (.int p4), .val (.int p5), .val (.int (v0_1 p0 p1 p2 p3 p4 p5 w0_COMPACT_STRINGS)), .val (.int (v0_3 p0 p1 p2 p3 p4 p5 w0_COMPACT_STRINGS)), .val (.int (v0_4 p0 p1 p2 p3 p4 p5 w0_COMPACT_STRINGS)), .val (.int (v0_6 p0 p1 p2 p3 p4 p5 w0_COMPACT_STRINGS)), .val (.int (v0_7 p0 p1 p2 p3 p4 p5 w0_COMPACT_STRINGS)), .val (.int (v0_8 p0 p1 p2 p3 p4 p5 w0_COMPACT_STRINGS)), .val (.int (v0_1 p0 p1 p2 p3 p4 p5 w0_COMPACT_STRINGS)), .val (.int (v0_3 p0 p1 p2 p3 p4 p5 w0_COMPACT_STRINGS)), .val (.int p2), .val (.int (v0_4 p0 p1 p2 p3 p4 p5 w0_COMPACT_STRINGS)), .val (.int (v0_6 p0 p1 p2 p3 p4 p5 w0_COMPACT_STRINGS)), .unset, .unset, .unset, .unset, .unset] [])) _
    refine XS.iload X2.here hx rfl (hb hby at_65) rfl ?_
    exact k
  obtain ⟨T15, L15, X15, e15, N15, pre15⟩ : ∃ (T' : State) (L' : List Loc), Stand p l e room_1 s m #[(.int p0), (.int p1), (.int p2), (.int p3), (.int p4), (.int p5)] below meth c T' L' 0 0 ∧ T'.heap = h0 ∧ Fr n0 L' ∧ ∀ t, Steps p.tables e below (T'.setTop (mkF m 160 #[.val (.int p0), .val (.int p1), .val (.int p2), .val (.int p3), .val (.int p4), .val (.int p5), .val (.int (v0_1 p0 p1 p2 p3 p4 p5 w0_COMPACT_STRINGS)), .val (.int (v0_3 p0 p1 p2 p3 p4 p5 w0_COMPACT_STRINGS)), .val (.int (v0_4 p0 p1 p2 p3 p4 p5 w0_COMPACT_STRINGS)), .val (.int (v0_6 p0 p1 p2 p3 p4 p5 w0_COMPACT_STRINGS)), .val (.int (v0_7 p0 p1 p2 p3 p4 p5 w0_COMPACT_STRINGS)), .val (.int (v0_8 p0 p1 p2 p3 p4 p5 w0_COMPACT_STRINGS)), .val (.int (v0_16 p0 p1 p2 p3 p4 p5 w0_COMPACT_STRINGS)), .val (.int (v0_17 p0 p1 p2 p3 p4 p5 w0_COMPACT_STRINGS)), .val (.int (v0_18 p0 p1 p2 p3 p4 p5 w0_COMPACT_STRINGS)), .val (.int (v0_19 p0 p1 p2 p3 p4 p5 w0_COMPACT_STRINGS)), .val (.int (v0_20 p0 p1 p2 p3 p4 p5 w0_COMPACT_STRINGS)), .unset, .unset, .unset, .unset, .unset] [])) t → Steps p.tables e below (s₁.setTop (entryFrame m #[(.int p0), (.int p1), (.int p2), (.int p3), (.int p4), (.int p5)] maxLocals)) t := by
    by_cases c4 : (v0_7 p0 p1 p2 p3 p4 p5 w0_COMPACT_STRINGS) = (0 : Int32)
    · skip
      refine ⟨T2, _, X2, e2, N2, fun t k => ?_⟩
      rw [show (v0_16 p0 p1 p2 p3 p4 p5 w0_COMPACT_STRINGS) = (v0_9 p0 p1 p2 p3 p4 p5 w0_COMPACT_STRINGS) from (if_pos c4)] at k
      rw [show (v0_17 p0 p1 p2 p3 p4 p5 w0_COMPACT_STRINGS) = (v0_3 p0 p1 p2 p3 p4 p5 w0_COMPACT_STRINGS) from (if_pos c4)] at k
      rw [show (v0_18 p0 p1 p2 p3 p4 p5 w0_COMPACT_STRINGS) = p2 from (if_pos c4)] at k
      rw [show (v0_19 p0 p1 p2 p3 p4 p5 w0_COMPACT_STRINGS) = (v0_4 p0 p1 p2 p3 p4 p5 w0_COMPACT_STRINGS) from (if_pos c4)] at k
      rw [show (v0_20 p0 p1 p2 p3 p4 p5 w0_COMPACT_STRINGS) = (v0_6 p0 p1 p2 p3 p4 p5 w0_COMPACT_STRINGS) from (if_pos c4)] at k
      refine pre3 t ?_
      show Steps p.tables e below (T2.setTop (mkF m 67 #[.val (.int p0), .val (.int p1), .val (.int p2), .val (.int p3), .val (.int p4), .val (.int p5), .val (.int (v0_1 p0 p1 p2 p3 p4 p5 w0_COMPACT_STRINGS)), .val (.int (v0_3 p0 p1 p2 p3 p4 p5 w0_COMPACT_STRINGS)), .val (.int (v0_4 p0 p1 p2 p3 p4 p5 w0_COMPACT_STRINGS)), .val (.int (v0_6 p0 p1 p2 p3 p4 p5 w0_COMPACT_STRINGS)), .val (.int (v0_7 p0 p1 p2 p3 p4 p5 w0_COMPACT_STRINGS)), .val (.int (v0_8 p0 p1 p2 p3 p4 p5 w0_COMPACT_STRINGS)), .val (.int (v0_1 p0 p1 p2 p3 p4 p5 w0_COMPACT_STRINGS)), .val (.int (v0_3 p0 p1 p2 p3 p4 p5 w0_COMPACT_STRINGS)), .val (.int p2), .val (.int (v0_4 p0 p1 p2 p3 p4 p5 w0_COMPACT_STRINGS)), .val (.int (v0_6 p0 p1 p2 p3 p4 p5 w0_COMPACT_STRINGS)), .unset, .unset, .unset, .unset, .unset] [(.int (v0_7 p0 p1 p2 p3 p4 p5 w0_COMPACT_STRINGS))])) _
      refine XS.ifNo X2.here hx rfl (hb hby at_67) rfl (XT.i0_ne_f c4) ?_
      show Steps p.tables e below (T2.setTop (mkF m 70 #[.val (.int p0), .val (.int p1), .val (.int p2), .val (.int p3), .val (.int p4), .val (.int p5), .val (.int (v0_1 p0 p1 p2 p3 p4 p5 w0_COMPACT_STRINGS)), .val (.int (v0_3 p0 p1 p2 p3 p4 p5 w0_COMPACT_STRINGS)), .val (.int (v0_4 p0 p1 p2 p3 p4 p5 w0_COMPACT_STRINGS)), .val (.int (v0_6 p0 p1 p2 p3 p4 p5 w0_COMPACT_STRINGS)), .val (.int (v0_7 p0 p1 p2 p3 p4 p5 w0_COMPACT_STRINGS)), .val (.int (v0_8 p0 p1 p2 p3 p4 p5 w0_COMPACT_STRINGS)), .val (.int (v0_1 p0 p1 p2 p3 p4 p5 w0_COMPACT_STRINGS)), .val (.int (v0_3 p0 p1 p2 p3 p4 p5 w0_COMPACT_STRINGS)), .val (.int p2), .val (.int (v0_4 p0 p1 p2 p3 p4 p5 w0_COMPACT_STRINGS)), .val (.int (v0_6 p0 p1 p2 p3 p4 p5 w0_COMPACT_STRINGS)), .unset, .unset, .unset, .unset, .unset] [])) _
      refine XS.iload X2.here hx rfl (hb hby at_70) rfl ?_
      show Steps p.tables e below (T2.setTop (mkF m 72 #[.val (.int p0), .val (.int p1), .val (.int p2), .val (.int p3), .val (.int p4), .val (.int p5), .val (.int (v0_1 p0 p1 p2 p3 p4 p5 w0_COMPACT_STRINGS)), .val (.int (v0_3 p0 p1 p2 p3 p4 p5 w0_COMPACT_STRINGS)), .val (.int (v0_4 p0 p1 p2 p3 p4 p5 w0_COMPACT_STRINGS)), .val (.int (v0_6 p0 p1 p2 p3 p4 p5 w0_COMPACT_STRINGS)), .val (.int (v0_7 p0 p1 p2 p3 p4 p5 w0_COMPACT_STRINGS)), .val (.int (v0_8 p0 p1 p2 p3 p4 p5 w0_COMPACT_STRINGS)), .val (.int (v0_1 p0 p1 p2 p3 p4 p5 w0_COMPACT_STRINGS)), .val (.int (v0_3 p0 p1 p2 p3 p4 p5 w0_COMPACT_STRINGS)), .val (.int p2), .val (.int (v0_4 p0 p1 p2 p3 p4 p5 w0_COMPACT_STRINGS)), .val (.int (v0_6 p0 p1 p2 p3 p4 p5 w0_COMPACT_STRINGS)), .unset, .unset, .unset, .unset, .unset] [(.int (v0_1 p0 p1 p2 p3 p4 p5 w0_COMPACT_STRINGS))])) _
      refine XS.iload X2.here hx rfl (hb hby at_72) rfl ?_
      show Steps p.tables e below (T2.setTop (mkF m 74 #[.val (.int p0), .val (.int p1), .val (.int p2), .val (.int p3), .val (.int p4), .val (.int p5), .val (.int (v0_1 p0 p1 p2 p3 p4 p5 w0_COMPACT_STRINGS)), .val (.int (v0_3 p0 p1 p2 p3 p4 p5 w0_COMPACT_STRINGS)), .val (.int (v0_4 p0 p1 p2 p3 p4 p5 w0_COMPACT_STRINGS)), .val (.int (v0_6 p0 p1 p2 p3 p4 p5 w0_COMPACT_STRINGS)), .val (.int (v0_7 p0 p1 p2 p3 p4 p5 w0_COMPACT_STRINGS)), .val (.int (v0_8 p0 p1 p2 p3 p4 p5 w0_COMPACT_STRINGS)), .val (.int (v0_1 p0 p1 p2 p3 p4 p5 w0_COMPACT_STRINGS)), .val (.int (v0_3 p0 p1 p2 p3 p4 p5 w0_COMPACT_STRINGS)), .val (.int p2), .val (.int (v0_4 p0 p1 p2 p3 p4 p5 w0_COMPACT_STRINGS)), .val (.int (v0_6 p0 p1 p2 p3 p4 p5 w0_COMPACT_STRINGS)), .unset, .unset, .unset, .unset, .unset] [(.int (v0_8 p0 p1 p2 p3 p4 p5 w0_COMPACT_STRINGS)), (.int (v0_1 p0 p1 p2 p3 p4 p5 w0_COMPACT_STRINGS))])) _
      refine XT.ixor X2.here hx rfl (hb hby at_74) rfl ?_
      show Steps p.tables e below (T2.setTop (mkF m 75 #[.val (.int p0), .val (.int p1), .val (.int p2), .val (.int p3), .val (.int p4), .val (.int p5), .val (.int (v0_1 p0 p1 p2 p3 p4 p5 w0_COMPACT_STRINGS)), .val (.int (v0_3 p0 p1 p2 p3 p4 p5 w0_COMPACT_STRINGS)), .val (.int (v0_4 p0 p1 p2 p3 p4 p5 w0_COMPACT_STRINGS)), .val (.int (v0_6 p0 p1 p2 p3 p4 p5 w0_COMPACT_STRINGS)), .val (.int (v0_7 p0 p1 p2 p3 p4 p5 w0_COMPACT_STRINGS)), .val (.int (v0_8 p0 p1 p2 p3 p4 p5 w0_COMPACT_STRINGS)), .val (.int (v0_1 p0 p1 p2 p3 p4 p5 w0_COMPACT_STRINGS)), .val (.int (v0_3 p0 p1 p2 p3 p4 p5 w0_COMPACT_STRINGS)), .val (.int p2), .val (.int (v0_4 p0 p1 p2 p3 p4 p5 w0_COMPACT_STRINGS)), .val (.int (v0_6 p0 p1 p2 p3 p4 p5 w0_COMPACT_STRINGS)), .unset, .unset, .unset, .unset, .unset] [(.int ((v0_1 p0 p1 p2 p3 p4 p5 w0_COMPACT_STRINGS) ^^^ (v0_8 p0 p1 p2 p3 p4 p5 w0_COMPACT_STRINGS)))])) _
      refine X2.ldcI hx hown (mvT hZ (hw _ (List.mem_of_getElem? (i := 0) rfl))) rfl (hb hby at_75) ?_
      show Steps p.tables e below (T2.setTop (mkF m 77 #[.val (.int p0), .val (.int p1), .val (.int p2), .val (.int p3), .val (.int p4), .val (.int p5), .val (.int (v0_1 p0 p1 p2 p3 p4 p5 w0_COMPACT_STRINGS)), .val (.int (v0_3 p0 p1 p2 p3 p4 p5 w0_COMPACT_STRINGS)), .val (.int (v0_4 p0 p1 p2 p3 p4 p5 w0_COMPACT_STRINGS)), .val (.int (v0_6 p0 p1 p2 p3 p4 p5 w0_COMPACT_STRINGS)), .val (.int (v0_7 p0 p1 p2 p3 p4 p5 w0_COMPACT_STRINGS)), .val (.int (v0_8 p0 p1 p2 p3 p4 p5 w0_COMPACT_STRINGS)), .val (.int (v0_1 p0 p1 p2 p3 p4 p5 w0_COMPACT_STRINGS)), .val (.int (v0_3 p0 p1 p2 p3 p4 p5 w0_COMPACT_STRINGS)), .val (.int p2), .val (.int (v0_4 p0 p1 p2 p3 p4 p5 w0_COMPACT_STRINGS)), .val (.int (v0_6 p0 p1 p2 p3 p4 p5 w0_COMPACT_STRINGS)), .unset, .unset, .unset, .unset, .unset] [(.int (2147483647 : Int32)), (.int ((v0_1 p0 p1 p2 p3 p4 p5 w0_COMPACT_STRINGS) ^^^ (v0_8 p0 p1 p2 p3 p4 p5 w0_COMPACT_STRINGS)))])) _
      refine XS.iand X2.here hx rfl (hb hby at_77) rfl ?_
      show Steps p.tables e below (T2.setTop (mkF m 78 #[.val (.int p0), .val (.int p1), .val (.int p2), .val (.int p3), .val (.int p4), .val (.int p5), .val (.int (v0_1 p0 p1 p2 p3 p4 p5 w0_COMPACT_STRINGS)), .val (.int (v0_3 p0 p1 p2 p3 p4 p5 w0_COMPACT_STRINGS)), .val (.int (v0_4 p0 p1 p2 p3 p4 p5 w0_COMPACT_STRINGS)), .val (.int (v0_6 p0 p1 p2 p3 p4 p5 w0_COMPACT_STRINGS)), .val (.int (v0_7 p0 p1 p2 p3 p4 p5 w0_COMPACT_STRINGS)), .val (.int (v0_8 p0 p1 p2 p3 p4 p5 w0_COMPACT_STRINGS)), .val (.int (v0_1 p0 p1 p2 p3 p4 p5 w0_COMPACT_STRINGS)), .val (.int (v0_3 p0 p1 p2 p3 p4 p5 w0_COMPACT_STRINGS)), .val (.int p2), .val (.int (v0_4 p0 p1 p2 p3 p4 p5 w0_COMPACT_STRINGS)), .val (.int (v0_6 p0 p1 p2 p3 p4 p5 w0_COMPACT_STRINGS)), .unset, .unset, .unset, .unset, .unset] [(.int (((v0_1 p0 p1 p2 p3 p4 p5 w0_COMPACT_STRINGS) ^^^ (v0_8 p0 p1 p2 p3 p4 p5 w0_COMPACT_STRINGS)) &&& (2147483647 : Int32)))])) _
      refine XS.istore X2.here hx rfl (hb hby at_78) rfl (l' := #[.val (.int p0), .val (.int p1), .val (.int p2), .val (.int p3), .val (.int p4), .val (.int p5), .val (.int (v0_1 p0 p1 p2 p3 p4 p5 w0_COMPACT_STRINGS)), .val (.int (v0_3 p0 p1 p2 p3 p4 p5 w0_COMPACT_STRINGS)), .val (.int (v0_4 p0 p1 p2 p3 p4 p5 w0_COMPACT_STRINGS)), .val (.int (v0_6 p0 p1 p2 p3 p4 p5 w0_COMPACT_STRINGS)), .val (.int (v0_7 p0 p1 p2 p3 p4 p5 w0_COMPACT_STRINGS)), .val (.int (v0_8 p0 p1 p2 p3 p4 p5 w0_COMPACT_STRINGS)), .val (.int (v0_9 p0 p1 p2 p3 p4 p5 w0_COMPACT_STRINGS)), .val (.int (v0_3 p0 p1 p2 p3 p4 p5 w0_COMPACT_STRINGS)), .val (.int p2), .val (.int (v0_4 p0 p1 p2 p3 p4 p5 w0_COMPACT_STRINGS)), .val (.int (v0_6 p0 p1 p2 p3 p4 p5 w0_COMPACT_STRINGS)), .unset, .unset, .unset, .unset, .unset]) rfl ?_
      show Steps p.tables e below (T2.setTop (mkF m 80 #[.val (.int p0), .val (.int p1), .val (.int p2), .val (.int p3), .val (.int p4), .val (.int p5), .val (.int (v0_1 p0 p1 p2 p3 p4 p5 w0_COMPACT_STRINGS)), .val (.int (v0_3 p0 p1 p2 p3 p4 p5 w0_COMPACT_STRINGS)), .val (.int (v0_4 p0 p1 p2 p3 p4 p5 w0_COMPACT_STRINGS)), .val (.int (v0_6 p0 p1 p2 p3 p4 p5 w0_COMPACT_STRINGS)), .val (.int (v0_7 p0 p1 p2 p3 p4 p5 w0_COMPACT_STRINGS)), .val (.int (v0_8 p0 p1 p2 p3 p4 p5 w0_COMPACT_STRINGS)), .val (.int (v0_9 p0 p1 p2 p3 p4 p5 w0_COMPACT_STRINGS)), .val (.int (v0_3 p0 p1 p2 p3 p4 p5 w0_COMPACT_STRINGS)), .val (.int p2), .val (.int (v0_4 p0 p1 p2 p3 p4 p5 w0_COMPACT_STRINGS)), .val (.int (v0_6 p0 p1 p2 p3 p4 p5 w0_COMPACT_STRINGS)), .unset, .unset, .unset, .unset, .unset] [])) _
      refine XS.goto X2.here hx rfl (pc0 := 80) (pc' := 160) rfl (hb hby at_80) (by decide) (by decide) ?_
      exact k
    · skip
      have pre5 : ∀ t, Steps p.tables e below (T2.setTop (mkF m 86 #[.val (.int p0), .val (.int p1), .val (.int p2), .val (.int p3), .val (.int p4), .val (.int p5), .val (.int (v0_1 p0 p1 p2 p3 p4 p5 w0_COMPACT_STRINGS)), .val (.int (v0_3 p0 p1 p2 p3 p4 p5 w0_COMPACT_STRINGS)), .val (.int (v0_4 p0 p1 p2 p3 p4 p5 w0_COMPACT_STRINGS)), .val (.int (v0_6 p0 p1 p2 p3 p4 p5 w0_COMPACT_STRINGS)), .val (.int (v0_7 p0 p1 p2 p3 p4 p5 w0_COMPACT_STRINGS)), .val (.int (v0_8 p0 p1 p2 p3 p4 p5 w0_COMPACT_STRINGS)), .val (.int (v0_1 p0 p1 p2 p3 p4 p5 w0_COMPACT_STRINGS)), .val (.int (v0_3 p0 p1 p2 p3 p4 p5 w0_COMPACT_STRINGS)), .val (.int p2), .val (.int (v0_4 p0 p1 p2 p3 p4 p5 w0_COMPACT_STRINGS)), .val (.int (v0_6 p0 p1 p2 p3 p4 p5 w0_COMPACT_STRINGS)), .unset, .unset, .unset, .unset, .unset] [(.int (1 : Int32)), (.int (v0_7 p0 p1 p2 p3 p4 p5 w0_COMPACT_STRINGS))])) t → Steps p.tables e below (s₁.setTop (entryFrame m #[(.int p0), (.int p1), (.int p2), (.int p3), (.int p4), (.int p5)] maxLocals)) t := by
        intro t k
        refine pre3 t ?_
        show Steps p.tables e below (T2.setTop (mkF m 67 #[.val (.int p0), .val (.int p1), .val (.int p2), .val (.int p3), .val (.int p4), .val (.int p5), .val (.int (v0_1 p0 p1 p2 p3 p4 p5 w0_COMPACT_STRINGS)), .val (.int (v0_3 p0 p1 p2 p3 p4 p5 w0_COMPACT_STRINGS)), .val (.int (v0_4 p0 p1 p2 p3 p4 p5 w0_COMPACT_STRINGS)), .val (.int (v0_6 p0 p1 p2 p3 p4 p5 w0_COMPACT_STRINGS)), .val (.int (v0_7 p0 p1 p2 p3 p4 p5 w0_COMPACT_STRINGS)), .val (.int (v0_8 p0 p1 p2 p3 p4 p5 w0_COMPACT_STRINGS)), .val (.int (v0_1 p0 p1 p2 p3 p4 p5 w0_COMPACT_STRINGS)), .val (.int (v0_3 p0 p1 p2 p3 p4 p5 w0_COMPACT_STRINGS)), .val (.int p2), .val (.int (v0_4 p0 p1 p2 p3 p4 p5 w0_COMPACT_STRINGS)), .val (.int (v0_6 p0 p1 p2 p3 p4 p5 w0_COMPACT_STRINGS)), .unset, .unset, .unset, .unset, .unset] [(.int (v0_7 p0 p1 p2 p3 p4 p5 w0_COMPACT_STRINGS))])) _
        refine XS.ifYes X2.here hx rfl (pc0 := 67) (pc' := 83) rfl (hb hby at_67) rfl (XT.i0_ne_t c4) (by decide) (by decide) ?_
        show Steps p.tables e below (T2.setTop (mkF m 83 #[.val (.int p0), .val (.int p1), .val (.int p2), .val (.int p3), .val (.int p4), .val (.int p5), .val (.int (v0_1 p0 p1 p2 p3 p4 p5 w0_COMPACT_STRINGS)), .val (.int (v0_3 p0 p1 p2 p3 p4 p5 w0_COMPACT_STRINGS)), .val (.int (v0_4 p0 p1 p2 p3 p4 p5 w0_COMPACT_STRINGS)), .val (.int (v0_6 p0 p1 p2 p3 p4 p5 w0_COMPACT_STRINGS)), .val (.int (v0_7 p0 p1 p2 p3 p4 p5 w0_COMPACT_STRINGS)), .val (.int (v0_8 p0 p1 p2 p3 p4 p5 w0_COMPACT_STRINGS)), .val (.int (v0_1 p0 p1 p2 p3 p4 p5 w0_COMPACT_STRINGS)), .val (.int (v0_3 p0 p1 p2 p3 p4 p5 w0_COMPACT_STRINGS)), .val (.int p2), .val (.int (v0_4 p0 p1 p2 p3 p4 p5 w0_COMPACT_STRINGS)), .val (.int (v0_6 p0 p1 p2 p3 p4 p5 w0_COMPACT_STRINGS)), .unset, .unset, .unset, .unset, .unset] [])) _
        refine XS.iload X2.here hx rfl (hb hby at_83) rfl ?_
        show Steps p.tables e below (T2.setTop (mkF m 85 #[.val (.int p0), .val (.int p1), .val (.int p2), .val (.int p3), .val (.int p4), .val (.int p5), .val (.int (v0_1 p0 p1 p2 p3 p4 p5 w0_COMPACT_STRINGS)), .val (.int (v0_3 p0 p1 p2 p3 p4 p5 w0_COMPACT_STRINGS)), .val (.int (v0_4 p0 p1 p2 p3 p4 p5 w0_COMPACT_STRINGS)), .val (.int (v0_6 p0 p1 p2 p3 p4 p5 w0_COMPACT_STRINGS)), .val (.int (v0_7 p0 p1 p2 p3 p4 p5 w0_COMPACT_STRINGS)), .val (.int (v0_8 p0 p1 p2 p3 p4 p5 w0_COMPACT_STRINGS)), .val (.int (v0_1 p0 p1 p2 p3 p4 p5 w0_COMPACT_STRINGS)), .val (.int (v0_3 p0 p1 p2 p3 p4 p5 w0_COMPACT_STRINGS)), .val (.int p2), .val (.int (v0_4 p0 p1 p2 p3 p4 p5 w0_COMPACT_STRINGS)), .val (.int (v0_6 p0 p1 p2 p3 p4 p5 w0_COMPACT_STRINGS)), .unset, .unset, .unset, .unset, .unset] [(.int (v0_7 p0 p1 p2 p3 p4 p5 w0_COMPACT_STRINGS))])) _
        refine XT.iconstV X2.here hx rfl (1 : Int32) (hb hby at_85) (by decide) ?_
        exact k
      by_cases c6 : (v0_7 p0 p1 p2 p3 p4 p5 w0_COMPACT_STRINGS) = (1 : Int32)
      · skip
        obtain ⟨_, _, ⟨T7, L7, k7, n7⟩, -, X7, ⟨Lc7, hQ7, l7, y7, z7⟩, st7⟩ := Jvm.LawKit.callS X2 hx (y := (⟨"java/lang/Math", "max", "(II)I"⟩ : MethodName)) hown (mvT hZ (hw _ (List.mem_of_getElem? (i := 1) rfl))) (mvT hZ (hw _ (List.mem_of_getElem? (i := 2) rfl))) (mvT hZ (hw _ (List.mem_of_getElem? (i := 3) rfl))) (mvT hZ (hw _ (List.mem_of_getElem? (i := 4) rfl))) (by decide) (backOf (W := 0) (rm1 l Z a0 hw [] (1 : Int32) (v0_10 p0 p1 p2 p3 p4 p5 w0_COMPACT_STRINGS) h0 n0 Z0) hZ (hw _ (List.mem_of_getElem? (i := 4) rfl)) (hw _ (List.mem_of_getElem? (i := 3) rfl)) (by decide) (by decide)) (g := (mkF m 98 #[.val (.int p0), .val (.int p1), .val (.int p2), .val (.int p3), .val (.int p4), .val (.int p5), .val (.int (v0_1 p0 p1 p2 p3 p4 p5 w0_COMPACT_STRINGS)), .val (.int (v0_3 p0 p1 p2 p3 p4 p5 w0_COMPACT_STRINGS)), .val (.int (v0_4 p0 p1 p2 p3 p4 p5 w0_COMPACT_STRINGS)), .val (.int (v0_6 p0 p1 p2 p3 p4 p5 w0_COMPACT_STRINGS)), .val (.int (v0_7 p0 p1 p2 p3 p4 p5 w0_COMPACT_STRINGS)), .val (.int (v0_8 p0 p1 p2 p3 p4 p5 w0_COMPACT_STRINGS)), .val (.int (v0_1 p0 p1 p2 p3 p4 p5 w0_COMPACT_STRINGS)), .val (.int (v0_3 p0 p1 p2 p3 p4 p5 w0_COMPACT_STRINGS)), .val (.int p2), .val (.int (v0_4 p0 p1 p2 p3 p4 p5 w0_COMPACT_STRINGS)), .val (.int (v0_6 p0 p1 p2 p3 p4 p5 w0_COMPACT_STRINGS)), .unset, .unset, .unset, .unset, .unset] [(.int (v0_10 p0 p1 p2 p3 p4 p5 w0_COMPACT_STRINGS)), (.int (1 : Int32))])) rfl (by rw [hml]; rfl) (argsL := [(.int (1 : Int32)), (.int (v0_10 p0 p1 p2 p3 p4 p5 w0_COMPACT_STRINGS))]) (rest := []) (lenOf pd__II_I rfl) rfl (by show 2 * 0 + _ ≤ _; exact Nat.le_of_eq rfl) (hb hby at_98) (fun _ _ => ⟨rfl, e2, (by decide : 0 + 0 ≤ _), (by decide : 0 + 0 ≤ _)⟩)
        dsimp only [Pt.U, Pt.locs, Pt.cells, Pt.slots] at X7 l7 y7 z7 st7 hQ7
        subst l7 y7 z7
        obtain ⟨N7q, rfl, e7⟩ := hQ7
        have N7 := Fr.app N2 N7q
        refine ⟨T7, _, X7, e7, N7, fun t k => ?_⟩
        rw [show (v0_16 p0 p1 p2 p3 p4 p5 w0_COMPACT_STRINGS) = (v0_1 p0 p1 p2 p3 p4 p5 w0_COMPACT_STRINGS) from ((if_neg c4).trans (if_pos c6))] at k
        rw [show (v0_17 p0 p1 p2 p3 p4 p5 w0_COMPACT_STRINGS) = (v0_11 p0 p1 p2 p3 p4 p5 w0_COMPACT_STRINGS) from ((if_neg c4).trans (if_pos c6))] at k
        rw [show (v0_18 p0 p1 p2 p3 p4 p5 w0_COMPACT_STRINGS) = p2 from ((if_neg c4).trans (if_pos c6))] at k
        rw [show (v0_19 p0 p1 p2 p3 p4 p5 w0_COMPACT_STRINGS) = (v0_4 p0 p1 p2 p3 p4 p5 w0_COMPACT_STRINGS) from ((if_neg c4).trans (if_pos c6))] at k
        rw [show (v0_20 p0 p1 p2 p3 p4 p5 w0_COMPACT_STRINGS) = (v0_6 p0 p1 p2 p3 p4 p5 w0_COMPACT_STRINGS) from ((if_neg c4).trans (if_pos c6))] at k
        refine pre5 t ?_
        show Steps p.tables e below (T2.setTop (mkF m 86 #[.val (.int p0), .val (.int p1), .val (.int p2), .val (.int p3), .val (.int p4), .val (.int p5), .val (.int (v0_1 p0 p1 p2 p3 p4 p5 w0_COMPACT_STRINGS)), .val (.int (v0_3 p0 p1 p2 p3 p4 p5 w0_COMPACT_STRINGS)), .val (.int (v0_4 p0 p1 p2 p3 p4 p5 w0_COMPACT_STRINGS)), .val (.int (v0_6 p0 p1 p2 p3 p4 p5 w0_COMPACT_STRINGS)), .val (.int (v0_7 p0 p1 p2 p3 p4 p5 w0_COMPACT_STRINGS)), .val (.int (v0_8 p0 p1 p2 p3 p4 p5 w0_COMPACT_STRINGS)), .val (.int (v0_1 p0 p1 p2 p3 p4 p5 w0_COMPACT_STRINGS)), .val (.int (v0_3 p0 p1 p2 p3 p4 p5 w0_COMPACT_STRINGS)), .val (.int p2), .val (.int (v0_4 p0 p1 p2 p3 p4 p5 w0_COMPACT_STRINGS)), .val (.int (v0_6 p0 p1 p2 p3 p4 p5 w0_COMPACT_STRINGS)), .unset, .unset, .unset, .unset, .unset] [(.int (1 : Int32)), (.int (v0_7 p0 p1 p2 p3 p4 p5 w0_COMPACT_STRINGS))])) _
        refine XS.icmpNo X2.here hx rfl (hb hby at_86) rfl (XT.ii_ne_f c6) ?_
        show Steps p.tables e below (T2.setTop (mkF m 89 #[.val (.int p0), .val (.int p1), .val (.int p2), .val (.int p3), .val (.int p4), .val (.int p5), .val (.int (v0_1 p0 p1 p2 p3 p4 p5 w0_COMPACT_STRINGS)), .val (.int (v0_3 p0 p1 p2 p3 p4 p5 w0_COMPACT_STRINGS)), .val (.int (v0_4 p0 p1 p2 p3 p4 p5 w0_COMPACT_STRINGS)), .val (.int (v0_6 p0 p1 p2 p3 p4 p5 w0_COMPACT_STRINGS)), .val (.int (v0_7 p0 p1 p2 p3 p4 p5 w0_COMPACT_STRINGS)), .val (.int (v0_8 p0 p1 p2 p3 p4 p5 w0_COMPACT_STRINGS)), .val (.int (v0_1 p0 p1 p2 p3 p4 p5 w0_COMPACT_STRINGS)), .val (.int (v0_3 p0 p1 p2 p3 p4 p5 w0_COMPACT_STRINGS)), .val (.int p2), .val (.int (v0_4 p0 p1 p2 p3 p4 p5 w0_COMPACT_STRINGS)), .val (.int (v0_6 p0 p1 p2 p3 p4 p5 w0_COMPACT_STRINGS)), .unset, .unset, .unset, .unset, .unset] [])) _
        refine XT.iconstV X2.here hx rfl (1 : Int32) (hb hby at_89) (by decide) ?_
        show Steps p.tables e below (T2.setTop (mkF m 90 #[.val (.int p0), .val (.int p1), .val (.int p2), .val (.int p3), .val (.int p4), .val (.int p5), .val (.int (v0_1 p0 p1 p2 p3 p4 p5 w0_COMPACT_STRINGS)), .val (.int (v0_3 p0 p1 p2 p3 p4 p5 w0_COMPACT_STRINGS)), .val (.int (v0_4 p0 p1 p2 p3 p4 p5 w0_COMPACT_STRINGS)), .val (.int (v0_6 p0 p1 p2 p3 p4 p5 w0_COMPACT_STRINGS)), .val (.int (v0_7 p0 p1 p2 p3 p4 p5 w0_COMPACT_STRINGS)), .val (.int (v0_8 p0 p1 p2 p3 p4 p5 w0_COMPACT_STRINGS)), .val (.int (v0_1 p0 p1 p2 p3 p4 p5 w0_COMPACT_STRINGS)), .val (.int (v0_3 p0 p1 p2 p3 p4 p5 w0_COMPACT_STRINGS)), .val (.int p2), .val (.int (v0_4 p0 p1 p2 p3 p4 p5 w0_COMPACT_STRINGS)), .val (.int (v0_6 p0 p1 p2 p3 p4 p5 w0_COMPACT_STRINGS)), .unset, .unset, .unset, .unset, .unset] [(.int (1 : Int32))])) _
        refine XS.iload X2.here hx rfl (hb hby at_90) rfl ?_
        show Steps p.tables e below (T2.setTop (mkF m 92 #[.val (.int p0), .val (.int p1), .val (.int p2), .val (.int p3), .val (.int p4), .val (.int p5), .val (.int (v0_1 p0 p1 p2 p3 p4 p5 w0_COMPACT_STRINGS)), .val (.int (v0_3 p0 p1 p2 p3 p4 p5 w0_COMPACT_STRINGS)), .val (.int (v0_4 p0 p1 p2 p3 p4 p5 w0_COMPACT_STRINGS)), .val (.int (v0_6 p0 p1 p2 p3 p4 p5 w0_COMPACT_STRINGS)), .val (.int (v0_7 p0 p1 p2 p3 p4 p5 w0_COMPACT_STRINGS)), .val (.int (v0_8 p0 p1 p2 p3 p4 p5 w0_COMPACT_STRINGS)), .val (.int (v0_1 p0 p1 p2 p3 p4 p5 w0_COMPACT_STRINGS)), .val (.int (v0_3 p0 p1 p2 p3 p4 p5 w0_COMPACT_STRINGS)), .val (.int p2), .val (.int (v0_4 p0 p1 p2 p3 p4 p5 w0_COMPACT_STRINGS)), .val (.int (v0_6 p0 p1 p2 p3 p4 p5 w0_COMPACT_STRINGS)), .unset, .unset, .unset, .unset, .unset] [(.int (v0_3 p0 p1 p2 p3 p4 p5 w0_COMPACT_STRINGS)), (.int (1 : Int32))])) _
        refine XS.iload X2.here hx rfl (hb hby at_92) rfl ?_
        show Steps p.tables e below (T2.setTop (mkF m 94 #[.val (.int p0), .val (.int p1), .val (.int p2), .val (.int p3), .val (.int p4), .val (.int p5), .val (.int (v0_1 p0 p1 p2 p3 p4 p5 w0_COMPACT_STRINGS)), .val (.int (v0_3 p0 p1 p2 p3 p4 p5 w0_COMPACT_STRINGS)), .val (.int (v0_4 p0 p1 p2 p3 p4 p5 w0_COMPACT_STRINGS)), .val (.int (v0_6 p0 p1 p2 p3 p4 p5 w0_COMPACT_STRINGS)), .val (.int (v0_7 p0 p1 p2 p3 p4 p5 w0_COMPACT_STRINGS)), .val (.int (v0_8 p0 p1 p2 p3 p4 p5 w0_COMPACT_STRINGS)), .val (.int (v0_1 p0 p1 p2 p3 p4 p5 w0_COMPACT_STRINGS)), .val (.int (v0_3 p0 p1 p2 p3 p4 p5 w0_COMPACT_STRINGS)), .val (.int p2), .val (.int (v0_4 p0 p1 p2 p3 p4 p5 w0_COMPACT_STRINGS)), .val (.int (v0_6 p0 p1 p2 p3 p4 p5 w0_COMPACT_STRINGS)), .unset, .unset, .unset, .unset, .unset] [(.int (v0_8 p0 p1 p2 p3 p4 p5 w0_COMPACT_STRINGS)), (.int (v0_3 p0 p1 p2 p3 p4 p5 w0_COMPACT_STRINGS)), (.int (1 : Int32))])) _
        refine XT.ixor X2.here hx rfl (hb hby at_94) rfl ?_
        show Steps p.tables e below (T2.setTop (mkF m 95 #[.val (.int p0), .val (.int p1), .val (.int p2), .val (.int p3), .val (.int p4), .val (.int p5), .val (.int (v0_1 p0 p1 p2 p3 p4 p5 w0_COMPACT_STRINGS)), .val (.int (v0_3 p0 p1 p2 p3 p4 p5 w0_COMPACT_STRINGS)), .val (.int (v0_4 p0 p1 p2 p3 p4 p5 w0_COMPACT_STRINGS)), .val (.int (v0_6 p0 p1 p2 p3 p4 p5 w0_COMPACT_STRINGS)), .val (.int (v0_7 p0 p1 p2 p3 p4 p5 w0_COMPACT_STRINGS)), .val (.int (v0_8 p0 p1 p2 p3 p4 p5 w0_COMPACT_STRINGS)), .val (.int (v0_1 p0 p1 p2 p3 p4 p5 w0_COMPACT_STRINGS)), .val (.int (v0_3 p0 p1 p2 p3 p4 p5 w0_COMPACT_STRINGS)), .val (.int p2), .val (.int (v0_4 p0 p1 p2 p3 p4 p5 w0_COMPACT_STRINGS)), .val (.int (v0_6 p0 p1 p2 p3 p4 p5 w0_COMPACT_STRINGS)), .unset, .unset, .unset, .unset, .unset] [(.int ((v0_3 p0 p1 p2 p3 p4 p5 w0_COMPACT_STRINGS) ^^^ (v0_8 p0 p1 p2 p3 p4 p5 w0_COMPACT_STRINGS))), (.int (1 : Int32))])) _
        refine X2.ldcI hx hown (mvT hZ (hw _ (List.mem_of_getElem? (i := 0) rfl))) rfl (hb hby at_95) ?_
        show Steps p.tables e below (T2.setTop (mkF m 97 #[.val (.int p0), .val (.int p1), .val (.int p2), .val (.int p3), .val (.int p4), .val (.int p5), .val (.int (v0_1 p0 p1 p2 p3 p4 p5 w0_COMPACT_STRINGS)), .val (.int (v0_3 p0 p1 p2 p3 p4 p5 w0_COMPACT_STRINGS)), .val (.int (v0_4 p0 p1 p2 p3 p4 p5 w0_COMPACT_STRINGS)), .val (.int (v0_6 p0 p1 p2 p3 p4 p5 w0_COMPACT_STRINGS)), .val (.int (v0_7 p0 p1 p2 p3 p4 p5 w0_COMPACT_STRINGS)), .val (.int (v0_8 p0 p1 p2 p3 p4 p5 w0_COMPACT_STRINGS)), .val (.int (v0_1 p0 p1 p2 p3 p4 p5 w0_COMPACT_STRINGS)), .val (.int (v0_3 p0 p1 p2 p3 p4 p5 w0_COMPACT_STRINGS)), .val (.int p2), .val (.int (v0_4 p0 p1 p2 p3 p4 p5 w0_COMPACT_STRINGS)), .val (.int (v0_6 p0 p1 p2 p3 p4 p5 w0_COMPACT_STRINGS)), .unset, .unset, .unset, .unset, .unset] [(.int (2147483647 : Int32)), (.int ((v0_3 p0 p1 p2 p3 p4 p5 w0_COMPACT_STRINGS) ^^^ (v0_8 p0 p1 p2 p3 p4 p5 w0_COMPACT_STRINGS))), (.int (1 : Int32))])) _
        refine XS.iand X2.here hx rfl (hb hby at_97) rfl ?_
        show Steps p.tables e below (T2.setTop (mkF m 98 #[.val (.int p0), .val (.int p1), .val (.int p2), .val (.int p3), .val (.int p4), .val (.int p5), .val (.int (v0_1 p0 p1 p2 p3 p4 p5 w0_COMPACT_STRINGS)), .val (.int (v0_3 p0 p1 p2 p3 p4 p5 w0_COMPACT_STRINGS)), .val (.int (v0_4 p0 p1 p2 p3 p4 p5 w0_COMPACT_STRINGS)), .val (.int (v0_6 p0 p1 p2 p3 p4 p5 w0_COMPACT_STRINGS)), .val (.int (v0_7 p0 p1 p2 p3 p4 p5 w0_COMPACT_STRINGS)), .val (.int (v0_8 p0 p1 p2 p3 p4 p5 w0_COMPACT_STRINGS)), .val (.int (v0_1 p0 p1 p2 p3 p4 p5 w0_COMPACT_STRINGS)), .val (.int (v0_3 p0 p1 p2 p3 p4 p5 w0_COMPACT_STRINGS)), .val (.int p2), .val (.int (v0_4 p0 p1 p2 p3 p4 p5 w0_COMPACT_STRINGS)), .val (.int (v0_6 p0 p1 p2 p3 p4 p5 w0_COMPACT_STRINGS)), .unset, .unset, .unset, .unset, .unset] [(.int (((v0_3 p0 p1 p2 p3 p4 p5 w0_COMPACT_STRINGS) ^^^ (v0_8 p0 p1 p2 p3 p4 p5 w0_COMPACT_STRINGS)) &&& (2147483647 : Int32))), (.int (1 : Int32))])) _
        refine st7 _ ?_
        show Steps p.tables e below (T7.setTop (mkF m 101 #[.val (.int p0), .val (.int p1), .val (.int p2), .val (.int p3), .val (.int p4), .val (.int p5), .val (.int (v0_1 p0 p1 p2 p3 p4 p5 w0_COMPACT_STRINGS)), .val (.int (v0_3 p0 p1 p2 p3 p4 p5 w0_COMPACT_STRINGS)), .val (.int (v0_4 p0 p1 p2 p3 p4 p5 w0_COMPACT_STRINGS)), .val (.int (v0_6 p0 p1 p2 p3 p4 p5 w0_COMPACT_STRINGS)), .val (.int (v0_7 p0 p1 p2 p3 p4 p5 w0_COMPACT_STRINGS)), .val (.int (v0_8 p0 p1 p2 p3 p4 p5 w0_COMPACT_STRINGS)), .val (.int (v0_1 p0 p1 p2 p3 p4 p5 w0_COMPACT_STRINGS)), .val (.int (v0_3 p0 p1 p2 p3 p4 p5 w0_COMPACT_STRINGS)), .val (.int p2), .val (.int (v0_4 p0 p1 p2 p3 p4 p5 w0_COMPACT_STRINGS)), .val (.int (v0_6 p0 p1 p2 p3 p4 p5 w0_COMPACT_STRINGS)), .unset, .unset, .unset, .unset, .unset] [(.int (f1 (1 : Int32) (v0_10 p0 p1 p2 p3 p4 p5 w0_COMPACT_STRINGS)))])) _
        refine XS.istore X7.here hx rfl (hb hby at_101) rfl (l' := #[.val (.int p0), .val (.int p1), .val (.int p2), .val (.int p3), .val (.int p4), .val (.int p5), .val (.int (v0_1 p0 p1 p2 p3 p4 p5 w0_COMPACT_STRINGS)), .val (.int (v0_3 p0 p1 p2 p3 p4 p5 w0_COMPACT_STRINGS)), .val (.int (v0_4 p0 p1 p2 p3 p4 p5 w0_COMPACT_STRINGS)), .val (.int (v0_6 p0 p1 p2 p3 p4 p5 w0_COMPACT_STRINGS)), .val (.int (v0_7 p0 p1 p2 p3 p4 p5 w0_COMPACT_STRINGS)), .val (.int (v0_8 p0 p1 p2 p3 p4 p5 w0_COMPACT_STRINGS)), .val (.int (v0_1 p0 p1 p2 p3 p4 p5 w0_COMPACT_STRINGS)), .val (.int (v0_11 p0 p1 p2 p3 p4 p5 w0_COMPACT_STRINGS)), .val (.int p2), .val (.int (v0_4 p0 p1 p2 p3 p4 p5 w0_COMPACT_STRINGS)), .val (.int (v0_6 p0 p1 p2 p3 p4 p5 w0_COMPACT_STRINGS)), .unset, .unset, .unset, .unset, .unset]) rfl ?_
        show Steps p.tables e below (T7.setTop (mkF m 103 #[.val (.int p0), .val (.int p1), .val (.int p2), .val (.int p3), .val (.int p4), .val (.int p5), .val (.int (v0_1 p0 p1 p2 p3 p4 p5 w0_COMPACT_STRINGS)), .val (.int (v0_3 p0 p1 p2 p3 p4 p5 w0_COMPACT_STRINGS)), .val (.int (v0_4 p0 p1 p2 p3 p4 p5 w0_COMPACT_STRINGS)), .val (.int (v0_6 p0 p1 p2 p3 p4 p5 w0_COMPACT_STRINGS)), .val (.int (v0_7 p0 p1 p2 p3 p4 p5 w0_COMPACT_STRINGS)), .val (.int (v0_8 p0 p1 p2 p3 p4 p5 w0_COMPACT_STRINGS)), .val (.int (v0_1 p0 p1 p2 p3 p4 p5 w0_COMPACT_STRINGS)), .val (.int (v0_11 p0 p1 p2 p3 p4 p5 w0_COMPACT_STRINGS)), .val (.int p2), .val (.int (v0_4 p0 p1 p2 p3 p4 p5 w0_COMPACT_STRINGS)), .val (.int (v0_6 p0 p1 p2 p3 p4 p5 w0_COMPACT_STRINGS)), .unset, .unset, .unset, .unset, .unset] [])) _
        refine XS.goto X7.here hx rfl (pc0 := 103) (pc' := 160) rfl (hb hby at_103) (by decide) (by decide) ?_
        exact k
      · skip
        have pre8 : ∀ t, Steps p.tables e below (T2.setTop (mkF m 109 #[.val (.int p0), .val (.int p1), .val (.int p2), .val (.int p3), .val (.int p4), .val (.int p5), .val (.int (v0_1 p0 p1 p2 p3 p4 p5 w0_COMPACT_STRINGS)), .val (.int (v0_3 p0 p1 p2 p3 p4 p5 w0_COMPACT_STRINGS)), .val (.int (v0_4 p0 p1 p2 p3 p4 p5 w0_COMPACT_STRINGS)), .val (.int (v0_6 p0 p1 p2 p3 p4 p5 w0_COMPACT_STRINGS)), .val (.int (v0_7 p0 p1 p2 p3 p4 p5 w0_COMPACT_STRINGS)), .val (.int (v0_8 p0 p1 p2 p3 p4 p5 w0_COMPACT_STRINGS)), .val (.int (v0_1 p0 p1 p2 p3 p4 p5 w0_COMPACT_STRINGS)), .val (.int (v0_3 p0 p1 p2 p3 p4 p5 w0_COMPACT_STRINGS)), .val (.int p2), .val (.int (v0_4 p0 p1 p2 p3 p4 p5 w0_COMPACT_STRINGS)), .val (.int (v0_6 p0 p1 p2 p3 p4 p5 w0_COMPACT_STRINGS)), .unset, .unset, .unset, .unset, .unset] [(.int (2 : Int32)), (.int (v0_7 p0 p1 p2 p3 p4 p5 w0_COMPACT_STRINGS))])) t → Steps p.tables e below (s₁.setTop (entryFrame m #[(.int p0), (.int p1), (.int p2), (.int p3), (.int p4), (.int p5)] maxLocals)) t := by
          intro t k
          refine pre5 t ?_
          show Steps p.tables e below (T2.setTop (mkF m 86 #[.val (.int p0), .val (.int p1), .val (.int p2), .val (.int p3), .val (.int p4), .val (.int p5), .val (.int (v0_1 p0 p1 p2 p3 p4 p5 w0_COMPACT_STRINGS)), .val (.int (v0_3 p0 p1 p2 p3 p4 p5 w0_COMPACT_STRINGS)), .val (.int (v0_4 p0 p1 p2 p3 p4 p5 w0_COMPACT_STRINGS)), .val (.int (v0_6 p0 p1 p2 p3 p4 p5 w0_COMPACT_STRINGS)), .val (.int (v0_7 p0 p1 p2 p3 p4 p5 w0_COMPACT_STRINGS)), .val (.int (v0_8 p0 p1 p2 p3 p4 p5 w0_COMPACT_STRINGS)), .val (.int (v0_1 p0 p1 p2 p3 p4 p5 w0_COMPACT_STRINGS)), .val (.int (v0_3 p0 p1 p2 p3 p4 p5 w0_COMPACT_STRINGS)), .val (.int p2), .val (.int (v0_4 p0 p1 p2 p3 p4 p5 w0_COMPACT_STRINGS)), .val (.int (v0_6 p0 p1 p2 p3 p4 p5 w0_COMPACT_STRINGS)), .unset, .unset, .unset, .unset, .unset] [(.int (1 : Int32)), (.int (v0_7 p0 p1 p2 p3 p4 p5 w0_COMPACT_STRINGS))])) _
          refine XS.icmpYes X2.here hx rfl (pc0 := 86) (pc' := 106) rfl (hb hby at_86) rfl (XT.ii_ne_t c6) (by decide) (by decide) ?_
          show Steps p.tables e below (T2.setTop (mkF m 106 #[.val (.int p0), .val (.int p1), .val (.int p2), .val (.int p3), .val (.int p4), .val (.int p5), .val (.int (v0_1 p0 p1 p2 p3 p4 p5 w0_COMPACT_STRINGS)), .val (.int (v0_3 p0 p1 p2 p3 p4 p5 w0_COMPACT_STRINGS)), .val (.int (v0_4 p0 p1 p2 p3 p4 p5 w0_COMPACT_STRINGS)), .val (.int (v0_6 p0 p1 p2 p3 p4 p5 w0_COMPACT_STRINGS)), .val (.int (v0_7 p0 p1 p2 p3 p4 p5 w0_COMPACT_STRINGS)), .val (.int (v0_8 p0 p1 p2 p3 p4 p5 w0_COMPACT_STRINGS)), .val (.int (v0_1 p0 p1 p2 p3 p4 p5 w0_COMPACT_STRINGS)), .val (.int (v0_3 p0 p1 p2 p3 p4 p5 w0_COMPACT_STRINGS)), .val (.int p2), .val (.int (v0_4 p0 p1 p2 p3 p4 p5 w0_COMPACT_STRINGS)), .val (.int (v0_6 p0 p1 p2 p3 p4 p5 w0_COMPACT_STRINGS)), .unset, .unset, .unset, .unset, .unset] [])) _
          refine XS.iload X2.here hx rfl (hb hby at_106) rfl ?_
          show Steps p.tables e below (T2.setTop (mkF m 108 #[.val (.int p0), .val (.int p1), .val (.int p2), .val (.int p3), .val (.int p4), .val (.int p5), .val (.int (v0_1 p0 p1 p2 p3 p4 p5 w0_COMPACT_STRINGS)), .val (.int (v0_3 p0 p1 p2 p3 p4 p5 w0_COMPACT_STRINGS)), .val (.int (v0_4 p0 p1 p2 p3 p4 p5 w0_COMPACT_STRINGS)), .val (.int (v0_6 p0 p1 p2 p3 p4 p5 w0_COMPACT_STRINGS)), .val (.int (v0_7 p0 p1 p2 p3 p4 p5 w0_COMPACT_STRINGS)), .val (.int (v0_8 p0 p1 p2 p3 p4 p5 w0_COMPACT_STRINGS)), .val (.int (v0_1 p0 p1 p2 p3 p4 p5 w0_COMPACT_STRINGS)), .val (.int (v0_3 p0 p1 p2 p3 p4 p5 w0_COMPACT_STRINGS)), .val (.int p2), .val (.int (v0_4 p0 p1 p2 p3 p4 p5 w0_COMPACT_STRINGS)), .val (.int (v0_6 p0 p1 p2 p3 p4 p5 w0_COMPACT_STRINGS)), .unset, .unset, .unset, .unset, .unset] [(.int (v0_7 p0 p1 p2 p3 p4 p5 w0_COMPACT_STRINGS))])) _
          refine XT.iconstV X2.here hx rfl (2 : Int32) (hb hby at_108) (by decide) ?_
          exact k
        by_cases c9 : (v0_7 p0 p1 p2 p3 p4 p5 w0_COMPACT_STRINGS) = (2 : Int32)
        · skip
          refine ⟨T2, _, X2, e2, N2, fun t k => ?_⟩
          rw [show (v0_16 p0 p1 p2 p3 p4 p5 w0_COMPACT_STRINGS) = (v0_1 p0 p1 p2 p3 p4 p5 w0_COMPACT_STRINGS) from (((if_neg c4).trans (if_neg c6)).trans (if_pos c9))] at k
          rw [show (v0_17 p0 p1 p2 p3 p4 p5 w0_COMPACT_STRINGS) = (v0_3 p0 p1 p2 p3 p4 p5 w0_COMPACT_STRINGS) from (((if_neg c4).trans (if_neg c6)).trans (if_pos c9))] at k
          rw [show (v0_18 p0 p1 p2 p3 p4 p5 w0_COMPACT_STRINGS) = (v0_12 p0 p1 p2 p3 p4 p5 w0_COMPACT_STRINGS) from (((if_neg c4).trans (if_neg c6)).trans (if_pos c9))] at k
          rw [show (v0_19 p0 p1 p2 p3 p4 p5 w0_COMPACT_STRINGS) = (v0_4 p0 p1 p2 p3 p4 p5 w0_COMPACT_STRINGS) from (((if_neg c4).trans (if_neg c6)).trans (if_pos c9))] at k
          rw [show (v0_20 p0 p1 p2 p3 p4 p5 w0_COMPACT_STRINGS) = (v0_6 p0 p1 p2 p3 p4 p5 w0_COMPACT_STRINGS) from (((if_neg c4).trans (if_neg c6)).trans (if_pos c9))] at k
          refine pre8 t ?_
          show Steps p.tables e below (T2.setTop (mkF m 109 #[.val (.int p0), .val (.int p1), .val (.int p2), .val (.int p3), .val (.int p4), .val (.int p5), .val (.int (v0_1 p0 p1 p2 p3 p4 p5 w0_COMPACT_STRINGS)), .val (.int (v0_3 p0 p1 p2 p3 p4 p5 w0_COMPACT_STRINGS)), .val (.int (v0_4 p0 p1 p2 p3 p4 p5 w0_COMPACT_STRINGS)), .val (.int (v0_6 p0 p1 p2 p3 p4 p5 w0_COMPACT_STRINGS)), .val (.int (v0_7 p0 p1 p2 p3 p4 p5 w0_COMPACT_STRINGS)), .val (.int (v0_8 p0 p1 p2 p3 p4 p5 w0_COMPACT_STRINGS)), .val (.int (v0_1 p0 p1 p2 p3 p4 p5 w0_COMPACT_STRINGS)), .val (.int (v0_3 p0 p1 p2 p3 p4 p5 w0_COMPACT_STRINGS)), .val (.int p2), .val (.int (v0_4 p0 p1 p2 p3 p4 p5 w0_COMPACT_STRINGS)), .val (.int (v0_6 p0 p1 p2 p3 p4 p5 w0_COMPACT_STRINGS)), .unset, .unset, .unset, .unset, .unset] [(.int (2 : Int32)), (.int (v0_7 p0 p1 p2 p3 p4 p5 w0_COMPACT_STRINGS))])) _
          refine XS.icmpNo X2.here hx rfl (hb hby at_109) rfl (XT.ii_ne_f c9) ?_
          show Steps p.tables e below (T2.setTop (mkF m 112 #[.val (.int p0), .val (.int p1), .val (.int p2), .val (.int p3), .val (.int p4), .val (.int p5), .val (.int (v0_1 p0 p1 p2 p3 p4 p5 w0_COMPACT_STRINGS)), .val (.int (v0_3 p0 p1 p2 p3 p4 p5 w0_COMPACT_STRINGS)), .val (.int (v0_4 p0 p1 p2 p3 p4 p5 w0_COMPACT_STRINGS)), .val (.int (v0_6 p0 p1 p2 p3 p4 p5 w0_COMPACT_STRINGS)), .val (.int (v0_7 p0 p1 p2 p3 p4 p5 w0_COMPACT_STRINGS)), .val (.int (v0_8 p0 p1 p2 p3 p4 p5 w0_COMPACT_STRINGS)), .val (.int (v0_1 p0 p1 p2 p3 p4 p5 w0_COMPACT_STRINGS)), .val (.int (v0_3 p0 p1 p2 p3 p4 p5 w0_COMPACT_STRINGS)), .val (.int p2), .val (.int (v0_4 p0 p1 p2 p3 p4 p5 w0_COMPACT_STRINGS)), .val (.int (v0_6 p0 p1 p2 p3 p4 p5 w0_COMPACT_STRINGS)), .unset, .unset, .unset, .unset, .unset] [])) _
          refine XS.iloadN X2.here hx rfl (hb hby at_112) rfl ?_
          show Steps p.tables e below (T2.setTop (mkF m 113 #[.val (.int p0), .val (.int p1), .val (.int p2), .val (.int p3), .val (.int p4), .val (.int p5), .val (.int (v0_1 p0 p1 p2 p3 p4 p5 w0_COMPACT_STRINGS)), .val (.int (v0_3 p0 p1 p2 p3 p4 p5 w0_COMPACT_STRINGS)), .val (.int (v0_4 p0 p1 p2 p3 p4 p5 w0_COMPACT_STRINGS)), .val (.int (v0_6 p0 p1 p2 p3 p4 p5 w0_COMPACT_STRINGS)), .val (.int (v0_7 p0 p1 p2 p3 p4 p5 w0_COMPACT_STRINGS)), .val (.int (v0_8 p0 p1 p2 p3 p4 p5 w0_COMPACT_STRINGS)), .val (.int (v0_1 p0 p1 p2 p3 p4 p5 w0_COMPACT_STRINGS)), .val (.int (v0_3 p0 p1 p2 p3 p4 p5 w0_COMPACT_STRINGS)), .val (.int p2), .val (.int (v0_4 p0 p1 p2 p3 p4 p5 w0_COMPACT_STRINGS)), .val (.int (v0_6 p0 p1 p2 p3 p4 p5 w0_COMPACT_STRINGS)), .unset, .unset, .unset, .unset, .unset] [(.int p2)])) _
          refine XS.iload X2.here hx rfl (hb hby at_113) rfl ?_
          show Steps p.tables e below (T2.setTop (mkF m 115 #[.val (.int p0), .val (.int p1), .val (.int p2), .val (.int p3), .val (.int p4), .val (.int p5), .val (.int (v0_1 p0 p1 p2 p3 p4 p5 w0_COMPACT_STRINGS)), .val (.int (v0_3 p0 p1 p2 p3 p4 p5 w0_COMPACT_STRINGS)), .val (.int (v0_4 p0 p1 p2 p3 p4 p5 w0_COMPACT_STRINGS)), .val (.int (v0_6 p0 p1 p2 p3 p4 p5 w0_COMPACT_STRINGS)), .val (.int (v0_7 p0 p1 p2 p3 p4 p5 w0_COMPACT_STRINGS)), .val (.int (v0_8 p0 p1 p2 p3 p4 p5 w0_COMPACT_STRINGS)), .val (.int (v0_1 p0 p1 p2 p3 p4 p5 w0_COMPACT_STRINGS)), .val (.int (v0_3 p0 p1 p2 p3 p4 p5 w0_COMPACT_STRINGS)), .val (.int p2), .val (.int (v0_4 p0 p1 p2 p3 p4 p5 w0_COMPACT_STRINGS)), .val (.int (v0_6 p0 p1 p2 p3 p4 p5 w0_COMPACT_STRINGS)), .unset, .unset, .unset, .unset, .unset] [(.int (v0_8 p0 p1 p2 p3 p4 p5 w0_COMPACT_STRINGS)), (.int p2)])) _
          refine XT.ixor X2.here hx rfl (hb hby at_115) rfl ?_
          show Steps p.tables e below (T2.setTop (mkF m 116 #[.val (.int p0), .val (.int p1), .val (.int p2), .val (.int p3), .val (.int p4), .val (.int p5), .val (.int (v0_1 p0 p1 p2 p3 p4 p5 w0_COMPACT_STRINGS)), .val (.int (v0_3 p0 p1 p2 p3 p4 p5 w0_COMPACT_STRINGS)), .val (.int (v0_4 p0 p1 p2 p3 p4 p5 w0_COMPACT_STRINGS)), .val (.int (v0_6 p0 p1 p2 p3 p4 p5 w0_COMPACT_STRINGS)), .val (.int (v0_7 p0 p1 p2 p3 p4 p5 w0_COMPACT_STRINGS)), .val (.int (v0_8 p0 p1 p2 p3 p4 p5 w0_COMPACT_STRINGS)), .val (.int (v0_1 p0 p1 p2 p3 p4 p5 w0_COMPACT_STRINGS)), .val (.int (v0_3 p0 p1 p2 p3 p4 p5 w0_COMPACT_STRINGS)), .val (.int p2), .val (.int (v0_4 p0 p1 p2 p3 p4 p5 w0_COMPACT_STRINGS)), .val (.int (v0_6 p0 p1 p2 p3 p4 p5 w0_COMPACT_STRINGS)), .unset, .unset, .unset, .unset, .unset] [(.int (p2 ^^^ (v0_8 p0 p1 p2 p3 p4 p5 w0_COMPACT_STRINGS)))])) _
          refine XS.istore X2.here hx rfl (hb hby at_116) rfl (l' := #[.val (.int p0), .val (.int p1), .val (.int p2), .val (.int p3), .val (.int p4), .val (.int p5), .val (.int (v0_1 p0 p1 p2 p3 p4 p5 w0_COMPACT_STRINGS)), .val (.int (v0_3 p0 p1 p2 p3 p4 p5 w0_COMPACT_STRINGS)), .val (.int (v0_4 p0 p1 p2 p3 p4 p5 w0_COMPACT_STRINGS)), .val (.int (v0_6 p0 p1 p2 p3 p4 p5 w0_COMPACT_STRINGS)), .val (.int (v0_7 p0 p1 p2 p3 p4 p5 w0_COMPACT_STRINGS)), .val (.int (v0_8 p0 p1 p2 p3 p4 p5 w0_COMPACT_STRINGS)), .val (.int (v0_1 p0 p1 p2 p3 p4 p5 w0_COMPACT_STRINGS)), .val (.int (v0_3 p0 p1 p2 p3 p4 p5 w0_COMPACT_STRINGS)), .val (.int (v0_12 p0 p1 p2 p3 p4 p5 w0_COMPACT_STRINGS)), .val (.int (v0_4 p0 p1 p2 p3 p4 p5 w0_COMPACT_STRINGS)), .val (.int (v0_6 p0 p1 p2 p3 p4 p5 w0_COMPACT_STRINGS)), .unset, .unset, .unset, .unset, .unset]) rfl ?_
          show Steps p.tables e below (T2.setTop (mkF m 118 #[.val (.int p0), .val (.int p1), .val (.int p2), .val (.int p3), .val (.int p4), .val (.int p5), .val (.int (v0_1 p0 p1 p2 p3 p4 p5 w0_COMPACT_STRINGS)), .val (.int (v0_3 p0 p1 p2 p3 p4 p5 w0_COMPACT_STRINGS)), .val (.int (v0_4 p0 p1 p2 p3 p4 p5 w0_COMPACT_STRINGS)), .val (.int (v0_6 p0 p1 p2 p3 p4 p5 w0_COMPACT_STRINGS)), .val (.int (v0_7 p0 p1 p2 p3 p4 p5 w0_COMPACT_STRINGS)), .val (.int (v0_8 p0 p1 p2 p3 p4 p5 w0_COMPACT_STRINGS)), .val (.int (v0_1 p0 p1 p2 p3 p4 p5 w0_COMPACT_STRINGS)), .val (.int (v0_3 p0 p1 p2 p3 p4 p5 w0_COMPACT_STRINGS)), .val (.int (v0_12 p0 p1 p2 p3 p4 p5 w0_COMPACT_STRINGS)), .val (.int (v0_4 p0 p1 p2 p3 p4 p5 w0_COMPACT_STRINGS)), .val (.int (v0_6 p0 p1 p2 p3 p4 p5 w0_COMPACT_STRINGS)), .unset, .unset, .unset, .unset, .unset] [])) _
          refine XS.goto X2.here hx rfl (pc0 := 118) (pc' := 160) rfl (hb hby at_118) (by decide) (by decide) ?_
          exact k
        · skip
          have pre10 : ∀ t, Steps p.tables e below (T2.setTop (mkF m 124 #[.val (.int p0), .val (.int p1), .val (.int p2), .val (.int p3), .val (.int p4), .val (.int p5), .val (.int (v0_1 p0 p1 p2 p3 p4 p5 w0_COMPACT_STRINGS)), .val (.int (v0_3 p0 p1 p2 p3 p4 p5 w0_COMPACT_STRINGS)), .val (.int (v0_4 p0 p1 p2 p3 p4 p5 w0_COMPACT_STRINGS)), .val (.int (v0_6 p0 p1 p2 p3 p4 p5 w0_COMPACT_STRINGS)), .val (.int (v0_7 p0 p1 p2 p3 p4 p5 w0_COMPACT_STRINGS)), .val (.int (v0_8 p0 p1 p2 p3 p4 p5 w0_COMPACT_STRINGS)), .val (.int (v0_1 p0 p1 p2 p3 p4 p5 w0_COMPACT_STRINGS)), .val (.int (v0_3 p0 p1 p2 p3 p4 p5 w0_COMPACT_STRINGS)), .val (.int p2), .val (.int (v0_4 p0 p1 p2 p3 p4 p5 w0_COMPACT_STRINGS)), .val (.int (v0_6 p0 p1 p2 p3 p4 p5 w0_COMPACT_STRINGS)), .unset, .unset, .unset, .unset, .unset] [(.int (3 : Int32)), (.int (v0_7 p0 p1 p2 p3 p4 p5 w0_COMPACT_STRINGS))])) t → Steps p.tables e below (s₁.setTop (entryFrame m #[(.int p0), (.int p1), (.int p2), (.int p3), (.int p4), (.int p5)] maxLocals)) t := by
            intro t k
            refine pre8 t ?_
            show Steps p.tables e below (T2.setTop (mkF m 109 #[.val (.int p0), .val (.int p1), .val (.int p2), .val (.int p3), .val (.int p4), .val (.int p5), .val (.int (v0_1 p0 p1 p2 p3 p4 p5 w0_COMPACT_STRINGS)), .val (.int (v0_3 p0 p1 p2 p3 p4 p5 w0_COMPACT_STRINGS)), .val (.int (v0_4 p0 p1 p2 p3 p4 p5 w0_COMPACT_STRINGS)), .val (.int (v0_6 p0 p1 p2 p3 p4 p5 w0_COMPACT_STRINGS)), .val (.int (v0_7 p0 p1 p2 p3 p4 p5 w0_COMPACT_STRINGS)), .val (.int (v0_8 p0 p1 p2 p3 p4 p5 w0_COMPACT_STRINGS)), .val (.int (v0_1 p0 p1 p2 p3 p4 p5 w0_COMPACT_STRINGS)), .val (.int (v0_3 p0 p1 p2 p3 p4 p5 w0_COMPACT_STRINGS)), .val (.int p2), .val (.int (v0_4 p0 p1 p2 p3 p4 p5 w0_COMPACT_STRINGS)), .val (.int (v0_6 p0 p1 p2 p3 p4 p5 w0_COMPACT_STRINGS)), .unset, .unset, .unset, .unset, .unset] [(.int (2 : Int32)), (.int (v0_7 p0 p1 p2 p3 p4 p5 w0_COMPACT_STRINGS))])) _
            refine XS.icmpYes X2.here hx rfl (pc0 := 109) (pc' := 121) rfl (hb hby at_109) rfl (XT.ii_ne_t c9) (by decide) (by decide) ?_
            show Steps p.tables e below (T2.setTop (mkF m 121 #[.val (.int p0), .val (.int p1), .val (.int p2), .val (.int p3), .val (.int p4), .val (.int p5), .val (.int (v0_1 p0 p1 p2 p3 p4 p5 w0_COMPACT_STRINGS)), .val (.int (v0_3 p0 p1 p2 p3 p4 p5 w0_COMPACT_STRINGS)), .val (.int (v0_4 p0 p1 p2 p3 p4 p5 w0_COMPACT_STRINGS)), .val (.int (v0_6 p0 p1 p2 p3 p4 p5 w0_COMPACT_STRINGS)), .val (.int (v0_7 p0 p1 p2 p3 p4 p5 w0_COMPACT_STRINGS)), .val (.int (v0_8 p0 p1 p2 p3 p4 p5 w0_COMPACT_STRINGS)), .val (.int (v0_1 p0 p1 p2 p3 p4 p5 w0_COMPACT_STRINGS)), .val (.int (v0_3 p0 p1 p2 p3 p4 p5 w0_COMPACT_STRINGS)), .val (.int p2), .val (.int (v0_4 p0 p1 p2 p3 p4 p5 w0_COMPACT_STRINGS)), .val (.int (v0_6 p0 p1 p2 p3 p4 p5 w0_COMPACT_STRINGS)), .unset, .unset, .unset, .unset, .unset] [])) _
            refine XS.iload X2.here hx rfl (hb hby at_121) rfl ?_
            show Steps p.tables e below (T2.setTop (mkF m 123 #[.val (.int p0), .val (.int p1), .val (.int p2), .val (.int p3), .val (.int p4), .val (.int p5), .val (.int (v0_1 p0 p1 p2 p3 p4 p5 w0_COMPACT_STRINGS)), .val (.int (v0_3 p0 p1 p2 p3 p4 p5 w0_COMPACT_STRINGS)), .val (.int (v0_4 p0 p1 p2 p3 p4 p5 w0_COMPACT_STRINGS)), .val (.int (v0_6 p0 p1 p2 p3 p4 p5 w0_COMPACT_STRINGS)), .val (.int (v0_7 p0 p1 p2 p3 p4 p5 w0_COMPACT_STRINGS)), .val (.int (v0_8 p0 p1 p2 p3 p4 p5 w0_COMPACT_STRINGS)), .val (.int (v0_1 p0 p1 p2 p3 p4 p5 w0_COMPACT_STRINGS)), .val (.int (v0_3 p0 p1 p2 p3 p4 p5 w0_COMPACT_STRINGS)), .val (.int p2), .val (.int (v0_4 p0 p1 p2 p3 p4 p5 w0_COMPACT_STRINGS)), .val (.int (v0_6 p0 p1 p2 p3 p4 p5 w0_COMPACT_STRINGS)), .unset, .unset, .unset, .unset, .unset] [(.int (v0_7 p0 p1 p2 p3 p4 p5 w0_COMPACT_STRINGS))])) _
            refine XT.iconstV X2.here hx rfl (3 : Int32) (hb hby at_123) (by decide) ?_
            exact k
          by_cases c11 : (v0_7 p0 p1 p2 p3 p4 p5 w0_COMPACT_STRINGS) = (3 : Int32)
          · skip
            refine ⟨T2, _, X2, e2, N2, fun t k => ?_⟩
            rw [show (v0_16 p0 p1 p2 p3 p4 p5 w0_COMPACT_STRINGS) = (v0_1 p0 p1 p2 p3 p4 p5 w0_COMPACT_STRINGS) from ((((if_neg c4).trans (if_neg c6)).trans (if_neg c9)).trans (if_pos c11))] at k
            rw [show (v0_17 p0 p1 p2 p3 p4 p5 w0_COMPACT_STRINGS) = (v0_3 p0 p1 p2 p3 p4 p5 w0_COMPACT_STRINGS) from ((((if_neg c4).trans (if_neg c6)).trans (if_neg c9)).trans (if_pos c11))] at k
            rw [show (v0_18 p0 p1 p2 p3 p4 p5 w0_COMPACT_STRINGS) = p2 from ((((if_neg c4).trans (if_neg c6)).trans (if_neg c9)).trans (if_pos c11))] at k
            rw [show (v0_19 p0 p1 p2 p3 p4 p5 w0_COMPACT_STRINGS) = (v0_13 p0 p1 p2 p3 p4 p5 w0_COMPACT_STRINGS) from ((((if_neg c4).trans (if_neg c6)).trans (if_neg c9)).trans (if_pos c11))] at k
            rw [show (v0_20 p0 p1 p2 p3 p4 p5 w0_COMPACT_STRINGS) = (v0_6 p0 p1 p2 p3 p4 p5 w0_COMPACT_STRINGS) from ((((if_neg c4).trans (if_neg c6)).trans (if_neg c9)).trans (if_pos c11))] at k
            refine pre10 t ?_
            show Steps p.tables e below (T2.setTop (mkF m 124 #[.val (.int p0), .val (.int p1), .val (.int p2), .val (.int p3), .val (.int p4), .val (.int p5), .val (.int (v0_1 p0 p1 p2 p3 p4 p5 w0_COMPACT_STRINGS)), .val (.int (v0_3 p0 p1 p2 p3 p4 p5 w0_COMPACT_STRINGS)), .val (.int (v0_4 p0 p1 p2 p3 p4 p5 w0_COMPACT_STRINGS)), .val (.int (v0_6 p0 p1 p2 p3 p4 p5 w0_COMPACT_STRINGS)), .val (.int (v0_7 p0 p1 p2 p3 p4 p5 w0_COMPACT_STRINGS)), .val (.int (v0_8 p0 p1 p2 p3 p4 p5 w0_COMPACT_STRINGS)), .val (.int (v0_1 p0 p1 p2 p3 p4 p5 w0_COMPACT_STRINGS)), .val (.int (v0_3 p0 p1 p2 p3 p4 p5 w0_COMPACT_STRINGS)), .val (.int p2), .val (.int (v0_4 p0 p1 p2 p3 p4 p5 w0_COMPACT_STRINGS)), .val (.int (v0_6 p0 p1 p2 p3 p4 p5 w0_COMPACT_STRINGS)), .unset, .unset, .unset, .unset, .unset] [(.int (3 : Int32)), (.int (v0_7 p0 p1 p2 p3 p4 p5 w0_COMPACT_STRINGS))])) _
            refine XS.icmpNo X2.here hx rfl (hb hby at_124) rfl (XT.ii_ne_f c11) ?_
            show Steps p.tables e below (T2.setTop (mkF m 127 #[.val (.int p0), .val (.int p1), .val (.int p2), .val (.int p3), .val (.int p4), .val (.int p5), .val (.int (v0_1 p0 p1 p2 p3 p4 p5 w0_COMPACT_STRINGS)), .val (.int (v0_3 p0 p1 p2 p3 p4 p5 w0_COMPACT_STRINGS)), .val (.int (v0_4 p0 p1 p2 p3 p4 p5 w0_COMPACT_STRINGS)), .val (.int (v0_6 p0 p1 p2 p3 p4 p5 w0_COMPACT_STRINGS)), .val (.int (v0_7 p0 p1 p2 p3 p4 p5 w0_COMPACT_STRINGS)), .val (.int (v0_8 p0 p1 p2 p3 p4 p5 w0_COMPACT_STRINGS)), .val (.int (v0_1 p0 p1 p2 p3 p4 p5 w0_COMPACT_STRINGS)), .val (.int (v0_3 p0 p1 p2 p3 p4 p5 w0_COMPACT_STRINGS)), .val (.int p2), .val (.int (v0_4 p0 p1 p2 p3 p4 p5 w0_COMPACT_STRINGS)), .val (.int (v0_6 p0 p1 p2 p3 p4 p5 w0_COMPACT_STRINGS)), .unset, .unset, .unset, .unset, .unset] [])) _
            refine XS.iload X2.here hx rfl (hb hby at_127) rfl ?_
            show Steps p.tables e below (T2.setTop (mkF m 129 #[.val (.int p0), .val (.int p1), .val (.int p2), .val (.int p3), .val (.int p4), .val (.int p5), .val (.int (v0_1 p0 p1 p2 p3 p4 p5 w0_COMPACT_STRINGS)), .val (.int (v0_3 p0 p1 p2 p3 p4 p5 w0_COMPACT_STRINGS)), .val (.int (v0_4 p0 p1 p2 p3 p4 p5 w0_COMPACT_STRINGS)), .val (.int (v0_6 p0 p1 p2 p3 p4 p5 w0_COMPACT_STRINGS)), .val (.int (v0_7 p0 p1 p2 p3 p4 p5 w0_COMPACT_STRINGS)), .val (.int (v0_8 p0 p1 p2 p3 p4 p5 w0_COMPACT_STRINGS)), .val (.int (v0_1 p0 p1 p2 p3 p4 p5 w0_COMPACT_STRINGS)), .val (.int (v0_3 p0 p1 p2 p3 p4 p5 w0_COMPACT_STRINGS)), .val (.int p2), .val (.int (v0_4 p0 p1 p2 p3 p4 p5 w0_COMPACT_STRINGS)), .val (.int (v0_6 p0 p1 p2 p3 p4 p5 w0_COMPACT_STRINGS)), .unset, .unset, .unset, .unset, .unset] [(.int (v0_4 p0 p1 p2 p3 p4 p5 w0_COMPACT_STRINGS))])) _
            refine XS.iload X2.here hx rfl (hb hby at_129) rfl ?_
            show Steps p.tables e below (T2.setTop (mkF m 131 #[.val (.int p0), .val (.int p1), .val (.int p2), .val (.int p3), .val (.int p4), .val (.int p5), .val (.int (v0_1 p0 p1 p2 p3 p4 p5 w0_COMPACT_STRINGS)), .val (.int (v0_3 p0 p1 p2 p3 p4 p5 w0_COMPACT_STRINGS)), .val (.int (v0_4 p0 p1 p2 p3 p4 p5 w0_COMPACT_STRINGS)), .val (.int (v0_6 p0 p1 p2 p3 p4 p5 w0_COMPACT_STRINGS)), .val (.int (v0_7 p0 p1 p2 p3 p4 p5 w0_COMPACT_STRINGS)), .val (.int (v0_8 p0 p1 p2 p3 p4 p5 w0_COMPACT_STRINGS)), .val (.int (v0_1 p0 p1 p2 p3 p4 p5 w0_COMPACT_STRINGS)), .val (.int (v0_3 p0 p1 p2 p3 p4 p5 w0_COMPACT_STRINGS)), .val (.int p2), .val (.int (v0_4 p0 p1 p2 p3 p4 p5 w0_COMPACT_STRINGS)), .val (.int (v0_6 p0 p1 p2 p3 p4 p5 w0_COMPACT_STRINGS)), .unset, .unset, .unset, .unset, .unset] [(.int (v0_8 p0 p1 p2 p3 p4 p5 w0_COMPACT_STRINGS)), (.int (v0_4 p0 p1 p2 p3 p4 p5 w0_COMPACT_STRINGS))])) _
            refine XT.ixor X2.here hx rfl (hb hby at_131) rfl ?_
            show Steps p.tables e below (T2.setTop (mkF m 132 #[.val (.int p0), .val (.int p1), .val (.int p2), .val (.int p3), .val (.int p4), .val (.int p5), .val (.int (v0_1 p0 p1 p2 p3 p4 p5 w0_COMPACT_STRINGS)), .val (.int (v0_3 p0 p1 p2 p3 p4 p5 w0_COMPACT_STRINGS)), .val (.int (v0_4 p0 p1 p2 p3 p4 p5 w0_COMPACT_STRINGS)), .val (.int (v0_6 p0 p1 p2 p3 p4 p5 w0_COMPACT_STRINGS)), .val (.int (v0_7 p0 p1 p2 p3 p4 p5 w0_COMPACT_STRINGS)), .val (.int (v0_8 p0 p1 p2 p3 p4 p5 w0_COMPACT_STRINGS)), .val (.int (v0_1 p0 p1 p2 p3 p4 p5 w0_COMPACT_STRINGS)), .val (.int (v0_3 p0 p1 p2 p3 p4 p5 w0_COMPACT_STRINGS)), .val (.int p2), .val (.int (v0_4 p0 p1 p2 p3 p4 p5 w0_COMPACT_STRINGS)), .val (.int (v0_6 p0 p1 p2 p3 p4 p5 w0_COMPACT_STRINGS)), .unset, .unset, .unset, .unset, .unset] [(.int ((v0_4 p0 p1 p2 p3 p4 p5 w0_COMPACT_STRINGS) ^^^ (v0_8 p0 p1 p2 p3 p4 p5 w0_COMPACT_STRINGS)))])) _
            refine X2.ldcI hx hown (mvT hZ (hw _ (List.mem_of_getElem? (i := 0) rfl))) rfl (hb hby at_132) ?_
            show Steps p.tables e below (T2.setTop (mkF m 134 #[.val (.int p0), .val (.int p1), .val (.int p2), .val (.int p3), .val (.int p4), .val (.int p5), .val (.int (v0_1 p0 p1 p2 p3 p4 p5 w0_COMPACT_STRINGS)), .val (.int (v0_3 p0 p1 p2 p3 p4 p5 w0_COMPACT_STRINGS)), .val (.int (v0_4 p0 p1 p2 p3 p4 p5 w0_COMPACT_STRINGS)), .val (.int (v0_6 p0 p1 p2 p3 p4 p5 w0_COMPACT_STRINGS)), .val (.int (v0_7 p0 p1 p2 p3 p4 p5 w0_COMPACT_STRINGS)), .val (.int (v0_8 p0 p1 p2 p3 p4 p5 w0_COMPACT_STRINGS)), .val (.int (v0_1 p0 p1 p2 p3 p4 p5 w0_COMPACT_STRINGS)), .val (.int (v0_3 p0 p1 p2 p3 p4 p5 w0_COMPACT_STRINGS)), .val (.int p2), .val (.int (v0_4 p0 p1 p2 p3 p4 p5 w0_COMPACT_STRINGS)), .val (.int (v0_6 p0 p1 p2 p3 p4 p5 w0_COMPACT_STRINGS)), .unset, .unset, .unset, .unset, .unset] [(.int (2147483647 : Int32)), (.int ((v0_4 p0 p1 p2 p3 p4 p5 w0_COMPACT_STRINGS) ^^^ (v0_8 p0 p1 p2 p3 p4 p5 w0_COMPACT_STRINGS)))])) _
            refine XS.iand X2.here hx rfl (hb hby at_134) rfl ?_
            show Steps p.tables e below (T2.setTop (mkF m 135 #[.val (.int p0), .val (.int p1), .val (.int p2), .val (.int p3), .val (.int p4), .val (.int p5), .val (.int (v0_1 p0 p1 p2 p3 p4 p5 w0_COMPACT_STRINGS)), .val (.int (v0_3 p0 p1 p2 p3 p4 p5 w0_COMPACT_STRINGS)), .val (.int (v0_4 p0 p1 p2 p3 p4 p5 w0_COMPACT_STRINGS)), .val (.int (v0_6 p0 p1 p2 p3 p4 p5 w0_COMPACT_STRINGS)), .val (.int (v0_7 p0 p1 p2 p3 p4 p5 w0_COMPACT_STRINGS)), .val (.int (v0_8 p0 p1 p2 p3 p4 p5 w0_COMPACT_STRINGS)), .val (.int (v0_1 p0 p1 p2 p3 p4 p5 w0_COMPACT_STRINGS)), .val (.int (v0_3 p0 p1 p2 p3 p4 p5 w0_COMPACT_STRINGS)), .val (.int p2), .val (.int (v0_4 p0 p1 p2 p3 p4 p5 w0_COMPACT_STRINGS)), .val (.int (v0_6 p0 p1 p2 p3 p4 p5 w0_COMPACT_STRINGS)), .unset, .unset, .unset, .unset, .unset] [(.int (((v0_4 p0 p1 p2 p3 p4 p5 w0_COMPACT_STRINGS) ^^^ (v0_8 p0 p1 p2 p3 p4 p5 w0_COMPACT_STRINGS)) &&& (2147483647 : Int32)))])) _
            refine XS.istore X2.here hx rfl (hb hby at_135) rfl (l' := #[.val (.int p0), .val (.int p1), .val (.int p2), .val (.int p3), .val (.int p4), .val (.int p5), .val (.int (v0_1 p0 p1 p2 p3 p4 p5 w0_COMPACT_STRINGS)), .val (.int (v0_3 p0 p1 p2 p3 p4 p5 w0_COMPACT_STRINGS)), .val (.int (v0_4 p0 p1 p2 p3 p4 p5 w0_COMPACT_STRINGS)), .val (.int (v0_6 p0 p1 p2 p3 p4 p5 w0_COMPACT_STRINGS)), .val (.int (v0_7 p0 p1 p2 p3 p4 p5 w0_COMPACT_STRINGS)), .val (.int (v0_8 p0 p1 p2 p3 p4 p5 w0_COMPACT_STRINGS)), .val (.int (v0_1 p0 p1 p2 p3 p4 p5 w0_COMPACT_STRINGS)), .val (.int (v0_3 p0 p1 p2 p3 p4 p5 w0_COMPACT_STRINGS)), .val (.int p2), .val (.int (v0_13 p0 p1 p2 p3 p4 p5 w0_COMPACT_STRINGS)), .val (.int (v0_6 p0 p1 p2 p3 p4 p5 w0_COMPACT_STRINGS)), .unset, .unset, .unset, .unset, .unset]) rfl ?_
            show Steps p.tables e below (T2.setTop (mkF m 137 #[.val (.int p0), .val (.int p1), .val (.int p2), .val (.int p3), .val (.int p4), .val (.int p5), .val (.int (v0_1 p0 p1 p2 p3 p4 p5 w0_COMPACT_STRINGS)), .val (.int (v0_3 p0 p1 p2 p3 p4 p5 w0_COMPACT_STRINGS)), .val (.int (v0_4 p0 p1 p2 p3 p4 p5 w0_COMPACT_STRINGS)), .val (.int (v0_6 p0 p1 p2 p3 p4 p5 w0_COMPACT_STRINGS)), .val (.int (v0_7 p0 p1 p2 p3 p4 p5 w0_COMPACT_STRINGS)), .val (.int (v0_8 p0 p1 p2 p3 p4 p5 w0_COMPACT_STRINGS)), .val (.int (v0_1 p0 p1 p2 p3 p4 p5 w0_COMPACT_STRINGS)), .val (.int (v0_3 p0 p1 p2 p3 p4 p5 w0_COMPACT_STRINGS)), .val (.int p2), .val (.int (v0_13 p0 p1 p2 p3 p4 p5 w0_COMPACT_STRINGS)), .val (.int (v0_6 p0 p1 p2 p3 p4 p5 w0_COMPACT_STRINGS)), .unset, .unset, .unset, .unset, .unset] [])) _
            refine XS.goto X2.here hx rfl (pc0 := 137) (pc' := 160) rfl (hb hby at_137) (by decide) (by decide) ?_
            exact k
          · skip
            have pre12 : ∀ t, Steps p.tables e below (T2.setTop (mkF m 143 #[.val (.int p0), .val (.int p1), .val (.int p2), .val (.int p3), .val (.int p4), .val (.int p5), .val (.int (v0_1 p0 p1 p2 p3 p4 p5 w0_COMPACT_STRINGS)), .val (.int (v0_3 p0 p1 p2 p3 p4 p5 w0_COMPACT_STRINGS)), .val (.int (v0_4 p0 p1 p2 p3 p4 p5 w0_COMPACT_STRINGS)), .val (.int (v0_6 p0 p1 p2 p3 p4 p5 w0_COMPACT_STRINGS)), .val (.int (v0_7 p0 p1 p2 p3 p4 p5 w0_COMPACT_STRINGS)), .val (.int (v0_8 p0 p1 p2 p3 p4 p5 w0_COMPACT_STRINGS)), .val (.int (v0_1 p0 p1 p2 p3 p4 p5 w0_COMPACT_STRINGS)), .val (.int (v0_3 p0 p1 p2 p3 p4 p5 w0_COMPACT_STRINGS)), .val (.int p2), .val (.int (v0_4 p0 p1 p2 p3 p4 p5 w0_COMPACT_STRINGS)), .val (.int (v0_6 p0 p1 p2 p3 p4 p5 w0_COMPACT_STRINGS)), .unset, .unset, .unset, .unset, .unset] [(.int (4 : Int32)), (.int (v0_7 p0 p1 p2 p3 p4 p5 w0_COMPACT_STRINGS))])) t → Steps p.tables e below (s₁.setTop (entryFrame m #[(.int p0), (.int p1), (.int p2), (.int p3), (.int p4), (.int p5)] maxLocals)) t := by
              intro t k
              refine pre10 t ?_
              show Steps p.tables e below (T2.setTop (mkF m 124 #[.val (.int p0), .val (.int p1), .val (.int p2), .val (.int p3), .val (.int p4), .val (.int p5), .val (.int (v0_1 p0 p1 p2 p3 p4 p5 w0_COMPACT_STRINGS)), .val (.int (v0_3 p0 p1 p2 p3 p4 p5 w0_COMPACT_STRINGS)), .val (.int (v0_4 p0 p1 p2 p3 p4 p5 w0_COMPACT_STRINGS)), .val (.int (v0_6 p0 p1 p2 p3 p4 p5 w0_COMPACT_STRINGS)), .val (.int (v0_7 p0 p1 p2 p3 p4 p5 w0_COMPACT_STRINGS)), .val (.int (v0_8 p0 p1 p2 p3 p4 p5 w0_COMPACT_STRINGS)), .val (.int (v0_1 p0 p1 p2 p3 p4 p5 w0_COMPACT_STRINGS)), .val (.int (v0_3 p0 p1 p2 p3 p4 p5 w0_COMPACT_STRINGS)), .val (.int p2), .val (.int (v0_4 p0 p1 p2 p3 p4 p5 w0_COMPACT_STRINGS)), .val (.int (v0_6 p0 p1 p2 p3 p4 p5 w0_COMPACT_STRINGS)), .unset, .unset, .unset, .unset, .unset] [(.int (3 : Int32)), (.int (v0_7 p0 p1 p2 p3 p4 p5 w0_COMPACT_STRINGS))])) _
              refine XS.icmpYes X2.here hx rfl (pc0 := 124) (pc' := 140) rfl (hb hby at_124) rfl (XT.ii_ne_t c11) (by decide) (by decide) ?_
              show Steps p.tables e below (T2.setTop (mkF m 140 #[.val (.int p0), .val (.int p1), .val (.int p2), .val (.int p3), .val (.int p4), .val (.int p5), .val (.int (v0_1 p0 p1 p2 p3 p4 p5 w0_COMPACT_STRINGS)), .val (.int (v0_3 p0 p1 p2 p3 p4 p5 w0_COMPACT_STRINGS)), .val (.int (v0_4 p0 p1 p2 p3 p4 p5 w0_COMPACT_STRINGS)), .val (.int (v0_6 p0 p1 p2 p3 p4 p5 w0_COMPACT_STRINGS)), .val (.int (v0_7 p0 p1 p2 p3 p4 p5 w0_COMPACT_STRINGS)), .val (.int (v0_8 p0 p1 p2 p3 p4 p5 w0_COMPACT_STRINGS)), .val (.int (v0_1 p0 p1 p2 p3 p4 p5 w0_COMPACT_STRINGS)), .val (.int (v0_3 p0 p1 p2 p3 p4 p5 w0_COMPACT_STRINGS)), .val (.int p2), .val (.int (v0_4 p0 p1 p2 p3 p4 p5 w0_COMPACT_STRINGS)), .val (.int (v0_6 p0 p1 p2 p3 p4 p5 w0_COMPACT_STRINGS)), .unset, .unset, .unset, .unset, .unset] [])) _
              refine XS.iload X2.here hx rfl (hb hby at_140) rfl ?_
              show Steps p.tables e below (T2.setTop (mkF m 142 #[.val (.int p0), .val (.int p1), .val (.int p2), .val (.int p3), .val (.int p4), .val (.int p5), .val (.int (v0_1 p0 p1 p2 p3 p4 p5 w0_COMPACT_STRINGS)), .val (.int (v0_3 p0 p1 p2 p3 p4 p5 w0_COMPACT_STRINGS)), .val (.int (v0_4 p0 p1 p2 p3 p4 p5 w0_COMPACT_STRINGS)), .val (.int (v0_6 p0 p1 p2 p3 p4 p5 w0_COMPACT_STRINGS)), .val (.int (v0_7 p0 p1 p2 p3 p4 p5 w0_COMPACT_STRINGS)), .val (.int (v0_8 p0 p1 p2 p3 p4 p5 w0_COMPACT_STRINGS)), .val (.int (v0_1 p0 p1 p2 p3 p4 p5 w0_COMPACT_STRINGS)), .val (.int (v0_3 p0 p1 p2 p3 p4 p5 w0_COMPACT_STRINGS)), .val (.int p2), .val (.int (v0_4 p0 p1 p2 p3 p4 p5 w0_COMPACT_STRINGS)), .val (.int (v0_6 p0 p1 p2 p3 p4 p5 w0_COMPACT_STRINGS)), .unset, .unset, .unset, .unset, .unset] [(.int (v0_7 p0 p1 p2 p3 p4 p5 w0_COMPACT_STRINGS))])) _
              refine XT.iconstV X2.here hx rfl (4 : Int32) (hb hby at_142) (by decide) ?_
              exact k
            by_cases c13 : (v0_7 p0 p1 p2 p3 p4 p5 w0_COMPACT_STRINGS) = (4 : Int32)
            · skip
              obtain ⟨_, _, ⟨T14, L14, k14, n14⟩, -, X14, ⟨Lc14, hQ14, l14, y14, z14⟩, st14⟩ := Jvm.LawKit.callS X2 hx (y := (⟨"java/lang/Math", "max", "(II)I"⟩ : MethodName)) hown (mvT hZ (hw _ (List.mem_of_getElem? (i := 1) rfl))) (mvT hZ (hw _ (List.mem_of_getElem? (i := 2) rfl))) (mvT hZ (hw _ (List.mem_of_getElem? (i := 3) rfl))) (mvT hZ (hw _ (List.mem_of_getElem? (i := 4) rfl))) (by decide) (backOf (W := 0) (rm1 l Z a0 hw [] (1 : Int32) (v0_14 p0 p1 p2 p3 p4 p5 w0_COMPACT_STRINGS) h0 n0 Z0) hZ (hw _ (List.mem_of_getElem? (i := 4) rfl)) (hw _ (List.mem_of_getElem? (i := 3) rfl)) (by decide) (by decide)) (g := (mkF m 155 #[.val (.int p0), .val (.int p1), .val (.int p2), .val (.int p3), .val (.int p4), .val (.int p5), .val (.int (v0_1 p0 p1 p2 p3 p4 p5 w0_COMPACT_STRINGS)), .val (.int (v0_3 p0 p1 p2 p3 p4 p5 w0_COMPACT_STRINGS)), .val (.int (v0_4 p0 p1 p2 p3 p4 p5 w0_COMPACT_STRINGS)), .val (.int (v0_6 p0 p1 p2 p3 p4 p5 w0_COMPACT_STRINGS)), .val (.int (v0_7 p0 p1 p2 p3 p4 p5 w0_COMPACT_STRINGS)), .val (.int (v0_8 p0 p1 p2 p3 p4 p5 w0_COMPACT_STRINGS)), .val (.int (v0_1 p0 p1 p2 p3 p4 p5 w0_COMPACT_STRINGS)), .val (.int (v0_3 p0 p1 p2 p3 p4 p5 w0_COMPACT_STRINGS)), .val (.int p2), .val (.int (v0_4 p0 p1 p2 p3 p4 p5 w0_COMPACT_STRINGS)), .val (.int (v0_6 p0 p1 p2 p3 p4 p5 w0_COMPACT_STRINGS)), .unset, .unset, .unset, .unset, .unset] [(.int (v0_14 p0 p1 p2 p3 p4 p5 w0_COMPACT_STRINGS)), (.int (1 : Int32))])) rfl (by rw [hml]; rfl) (argsL := [(.int (1 : Int32)), (.int (v0_14 p0 p1 p2 p3 p4 p5 w0_COMPACT_STRINGS))]) (rest := []) (lenOf pd__II_I rfl) rfl (by show 2 * 0 + _ ≤ _; exact Nat.le_of_eq rfl) (hb hby at_155) (fun _ _ => ⟨rfl, e2, (by decide : 0 + 0 ≤ _), (by decide : 0 + 0 ≤ _)⟩)
              dsimp only [Pt.U, Pt.locs, Pt.cells, Pt.slots] at X14 l14 y14 z14 st14 hQ14
              subst l14 y14 z14
              obtain ⟨N14q, rfl, e14⟩ := hQ14
              have N14 := Fr.app N2 N14q
              refine ⟨T14, _, X14, e14, N14, fun t k => ?_⟩
              rw [show (v0_16 p0 p1 p2 p3 p4 p5 w0_COMPACT_STRINGS) = (v0_1 p0 p1 p2 p3 p4 p5 w0_COMPACT_STRINGS) from (((((if_neg c4).trans (if_neg c6)).trans (if_neg c9)).trans (if_neg c11)).trans (if_pos c13))] at k
              rw [show (v0_17 p0 p1 p2 p3 p4 p5 w0_COMPACT_STRINGS) = (v0_3 p0 p1 p2 p3 p4 p5 w0_COMPACT_STRINGS) from (((((if_neg c4).trans (if_neg c6)).trans (if_neg c9)).trans (if_neg c11)).trans (if_pos c13))] at k
              rw [show (v0_18 p0 p1 p2 p3 p4 p5 w0_COMPACT_STRINGS) = p2 from (((((if_neg c4).trans (if_neg c6)).trans (if_neg c9)).trans (if_neg c11)).trans (if_pos c13))] at k
              rw [show (v0_19 p0 p1 p2 p3 p4 p5 w0_COMPACT_STRINGS) = (v0_4 p0 p1 p2 p3 p4 p5 w0_COMPACT_STRINGS) from (((((if_neg c4).trans (if_neg c6)).trans (if_neg c9)).trans (if_neg c11)).trans (if_pos c13))] at k
              rw [show (v0_20 p0 p1 p2 p3 p4 p5 w0_COMPACT_STRINGS) = (v0_15 p0 p1 p2 p3 p4 p5 w0_COMPACT_STRINGS) from (((((if_neg c4).trans (if_neg c6)).trans (if_neg c9)).trans (if_neg c11)).trans (if_pos c13))] at k
              refine pre12 t ?_
              show Steps p.tables e below (T2.setTop (mkF m 143 #[.val (.int p0), .val (.int p1), .val (.int p2), .val (.int p3), .val (.int p4), .val (.int p5), .val (.int (v0_1 p0 p1 p2 p3 p4 p5 w0_COMPACT_STRINGS)), .val (.int (v0_3 p0 p1 p2 p3 p4 p5 w0_COMPACT_STRINGS)), .val (.int (v0_4 p0 p1 p2 p3 p4 p5 w0_COMPACT_STRINGS)), .val (.int (v0_6 p0 p1 p2 p3 p4 p5 w0_COMPACT_STRINGS)), .val (.int (v0_7 p0 p1 p2 p3 p4 p5 w0_COMPACT_STRINGS)), .val (.int (v0_8 p0 p1 p2 p3 p4 p5 w0_COMPACT_STRINGS)), .val (.int (v0_1 p0 p1 p2 p3 p4 p5 w0_COMPACT_STRINGS)), .val (.int (v0_3 p0 p1 p2 p3 p4 p5 w0_COMPACT_STRINGS)), .val (.int p2), .val (.int (v0_4 p0 p1 p2 p3 p4 p5 w0_COMPACT_STRINGS)), .val (.int (v0_6 p0 p1 p2 p3 p4 p5 w0_COMPACT_STRINGS)), .unset, .unset, .unset, .unset, .unset] [(.int (4 : Int32)), (.int (v0_7 p0 p1 p2 p3 p4 p5 w0_COMPACT_STRINGS))])) _
              refine XS.icmpNo X2.here hx rfl (hb hby at_143) rfl (XT.ii_ne_f c13) ?_
              show Steps p.tables e below (T2.setTop (mkF m 146 #[.val (.int p0), .val (.int p1), .val (.int p2), .val (.int p3), .val (.int p4), .val (.int p5), .val (.int (v0_1 p0 p1 p2 p3 p4 p5 w0_COMPACT_STRINGS)), .val (.int (v0_3 p0 p1 p2 p3 p4 p5 w0_COMPACT_STRINGS)), .val (.int (v0_4 p0 p1 p2 p3 p4 p5 w0_COMPACT_STRINGS)), .val (.int (v0_6 p0 p1 p2 p3 p4 p5 w0_COMPACT_STRINGS)), .val (.int (v0_7 p0 p1 p2 p3 p4 p5 w0_COMPACT_STRINGS)), .val (.int (v0_8 p0 p1 p2 p3 p4 p5 w0_COMPACT_STRINGS)), .val (.int (v0_1 p0 p1 p2 p3 p4 p5 w0_COMPACT_STRINGS)), .val (.int (v0_3 p0 p1 p2 p3 p4 p5 w0_COMPACT_STRINGS)), .val (.int p2), .val (.int (v0_4 p0 p1 p2 p3 p4 p5 w0_COMPACT_STRINGS)), .val (.int (v0_6 p0 p1 p2 p3 p4 p5 w0_COMPACT_STRINGS)), .unset, .unset, .unset, .unset, .unset] [])) _
              refine XT.iconstV X2.here hx rfl (1 : Int32) (hb hby at_146) (by decide) ?_
              show Steps p.tables e below (T2.setTop (mkF m 147 #[.val (.int p0), .val (.int p1), .val (.int p2), .val (.int p3), .val (.int p4), .val (.int p5), .val (.int (v0_1 p0 p1 p2 p3 p4 p5 w0_COMPACT_STRINGS)), .val (.int (v0_3 p0 p1 p2 p3 p4 p5 w0_COMPACT_STRINGS)), .val (.int (v0_4 p0 p1 p2 p3 p4 p5 w0_COMPACT_STRINGS)), .val (.int (v0_6 p0 p1 p2 p3 p4 p5 w0_COMPACT_STRINGS)), .val (.int (v0_7 p0 p1 p2 p3 p4 p5 w0_COMPACT_STRINGS)), .val (.int (v0_8 p0 p1 p2 p3 p4 p5 w0_COMPACT_STRINGS)), .val (.int (v0_1 p0 p1 p2 p3 p4 p5 w0_COMPACT_STRINGS)), .val (.int (v0_3 p0 p1 p2 p3 p4 p5 w0_COMPACT_STRINGS)), .val (.int p2), .val (.int (v0_4 p0 p1 p2 p3 p4 p5 w0_COMPACT_STRINGS)), .val (.int (v0_6 p0 p1 p2 p3 p4 p5 w0_COMPACT_STRINGS)), .unset, .unset, .unset, .unset, .unset] [(.int (1 : Int32))])) _
              refine XS.iload X2.here hx rfl (hb hby at_147) rfl ?_
              show Steps p.tables e below (T2.setTop (mkF m 149 #[.val (.int p0), .val (.int p1), .val (.int p2), .val (.int p3), .val (.int p4), .val (.int p5), .val (.int (v0_1 p0 p1 p2 p3 p4 p5 w0_COMPACT_STRINGS)), .val (.int (v0_3 p0 p1 p2 p3 p4 p5 w0_COMPACT_STRINGS)), .val (.int (v0_4 p0 p1 p2 p3 p4 p5 w0_COMPACT_STRINGS)), .val (.int (v0_6 p0 p1 p2 p3 p4 p5 w0_COMPACT_STRINGS)), .val (.int (v0_7 p0 p1 p2 p3 p4 p5 w0_COMPACT_STRINGS)), .val (.int (v0_8 p0 p1 p2 p3 p4 p5 w0_COMPACT_STRINGS)), .val (.int (v0_1 p0 p1 p2 p3 p4 p5 w0_COMPACT_STRINGS)), .val (.int (v0_3 p0 p1 p2 p3 p4 p5 w0_COMPACT_STRINGS)), .val (.int p2), .val (.int (v0_4 p0 p1 p2 p3 p4 p5 w0_COMPACT_STRINGS)), .val (.int (v0_6 p0 p1 p2 p3 p4 p5 w0_COMPACT_STRINGS)), .unset, .unset, .unset, .unset, .unset] [(.int (v0_6 p0 p1 p2 p3 p4 p5 w0_COMPACT_STRINGS)), (.int (1 : Int32))])) _
              refine XS.iload X2.here hx rfl (hb hby at_149) rfl ?_
              show Steps p.tables e below (T2.setTop (mkF m 151 #[.val (.int p0), .val (.int p1), .val (.int p2), .val (.int p3), .val (.int p4), .val (.int p5), .val (.int (v0_1 p0 p1 p2 p3 p4 p5 w0_COMPACT_STRINGS)), .val (.int (v0_3 p0 p1 p2 p3 p4 p5 w0_COMPACT_STRINGS)), .val (.int (v0_4 p0 p1 p2 p3 p4 p5 w0_COMPACT_STRINGS)), .val (.int (v0_6 p0 p1 p2 p3 p4 p5 w0_COMPACT_STRINGS)), .val (.int (v0_7 p0 p1 p2 p3 p4 p5 w0_COMPACT_STRINGS)), .val (.int (v0_8 p0 p1 p2 p3 p4 p5 w0_COMPACT_STRINGS)), .val (.int (v0_1 p0 p1 p2 p3 p4 p5 w0_COMPACT_STRINGS)), .val (.int (v0_3 p0 p1 p2 p3 p4 p5 w0_COMPACT_STRINGS)), .val (.int p2), .val (.int (v0_4 p0 p1 p2 p3 p4 p5 w0_COMPACT_STRINGS)), .val (.int (v0_6 p0 p1 p2 p3 p4 p5 w0_COMPACT_STRINGS)), .unset, .unset, .unset, .unset, .unset] [(.int (v0_8 p0 p1 p2 p3 p4 p5 w0_COMPACT_STRINGS)), (.int (v0_6 p0 p1 p2 p3 p4 p5 w0_COMPACT_STRINGS)), (.int (1 : Int32))])) _
              refine XT.ixor X2.here hx rfl (hb hby at_151) rfl ?_
              show Steps p.tables e below (T2.setTop (mkF m 152 #[.val (.int p0), .val (.int p1), .val (.int p2), .val (.int p3), .val (.int p4), .val (.int p5), .val (.int (v0_1 p0 p1 p2 p3 p4 p5 w0_COMPACT_STRINGS)), .val (.int (v0_3 p0 p1 p2 p3 p4 p5 w0_COMPACT_STRINGS)), .val (.int (v0_4 p0 p1 p2 p3 p4 p5 w0_COMPACT_STRINGS)), .val (.int (v0_6 p0 p1 p2 p3 p4 p5 w0_COMPACT_STRINGS)), .val (.int (v0_7 p0 p1 p2 p3 p4 p5 w0_COMPACT_STRINGS)), .val (.int (v0_8 p0 p1 p2 p3 p4 p5 w0_COMPACT_STRINGS)), .val (.int (v0_1 p0 p1 p2 p3 p4 p5 w0_COMPACT_STRINGS)), .val (.int (v0_3 p0 p1 p2 p3 p4 p5 w0_COMPACT_STRINGS)), .val (.int p2), .val (.int (v0_4 p0 p1 p2 p3 p4 p5 w0_COMPACT_STRINGS)), .val (.int (v0_6 p0 p1 p2 p3 p4 p5 w0_COMPACT_STRINGS)), .unset, .unset, .unset, .unset, .unset] [(.int ((v0_6 p0 p1 p2 p3 p4 p5 w0_COMPACT_STRINGS) ^^^ (v0_8 p0 p1 p2 p3 p4 p5 w0_COMPACT_STRINGS))), (.int (1 : Int32))])) _
              refine X2.ldcI hx hown (mvT hZ (hw _ (List.mem_of_getElem? (i := 0) rfl))) rfl (hb hby at_152) ?_
              show Steps p.tables e below (T2.setTop (mkF m 154 #[.val (.int p0), .val (.int p1), .val (.int p2), .val (.int p3), .val (.int p4), .val (.int p5), .val (.int (v0_1 p0 p1 p2 p3 p4 p5 w0_COMPACT_STRINGS)), .val (.int (v0_3 p0 p1 p2 p3 p4 p5 w0_COMPACT_STRINGS)), .val (.int (v0_4 p0 p1 p2 p3 p4 p5 w0_COMPACT_STRINGS)), .val (.int (v0_6 p0 p1 p2 p3 p4 p5 w0_COMPACT_STRINGS)), .val (.int (v0_7 p0 p1 p2 p3 p4 p5 w0_COMPACT_STRINGS)), .val (.int (v0_8 p0 p1 p2 p3 p4 p5 w0_COMPACT_STRINGS)), .val (.int (v0_1 p0 p1 p2 p3 p4 p5 w0_COMPACT_STRINGS)), .val (.int (v0_3 p0 p1 p2 p3 p4 p5 w0_COMPACT_STRINGS)), .val (.int p2), .val (.int (v0_4 p0 p1 p2 p3 p4 p5 w0_COMPACT_STRINGS)), .val (.int (v0_6 p0 p1 p2 p3 p4 p5 w0_COMPACT_STRINGS)), .unset, .unset, .unset, .unset, .unset] [(.int (2147483647 : Int32)), (.int ((v0_6 p0 p1 p2 p3 p4 p5 w0_COMPACT_STRINGS) ^^^ (v0_8 p0 p1 p2 p3 p4 p5 w0_COMPACT_STRINGS))), (.int (1 : Int32))])) _
              refine XS.iand X2.here hx rfl (hb hby at_154) rfl ?_
              show Steps p.tables e below (T2.setTop (mkF m 155 #[.val (.int p0), .val (.int p1), .val (.int p2), .val (.int p3), .val (.int p4), .val (.int p5), .val (.int (v0_1 p0 p1 p2 p3 p4 p5 w0_COMPACT_STRINGS)), .val (.int (v0_3 p0 p1 p2 p3 p4 p5 w0_COMPACT_STRINGS)), .val (.int (v0_4 p0 p1 p2 p3 p4 p5 w0_COMPACT_STRINGS)), .val (.int (v0_6 p0 p1 p2 p3 p4 p5 w0_COMPACT_STRINGS)), .val (.int (v0_7 p0 p1 p2 p3 p4 p5 w0_COMPACT_STRINGS)), .val (.int (v0_8 p0 p1 p2 p3 p4 p5 w0_COMPACT_STRINGS)), .val (.int (v0_1 p0 p1 p2 p3 p4 p5 w0_COMPACT_STRINGS)), .val (.int (v0_3 p0 p1 p2 p3 p4 p5 w0_COMPACT_STRINGS)), .val (.int p2), .val (.int (v0_4 p0 p1 p2 p3 p4 p5 w0_COMPACT_STRINGS)), .val (.int (v0_6 p0 p1 p2 p3 p4 p5 w0_COMPACT_STRINGS)), .unset, .unset, .unset, .unset, .unset] [(.int (((v0_6 p0 p1 p2 p3 p4 p5 w0_COMPACT_STRINGS) ^^^ (v0_8 p0 p1 p2 p3 p4 p5 w0_COMPACT_STRINGS)) &&& (2147483647 : Int32))), (.int (1 : Int32))])) _
              refine st14 _ ?_
              show Steps p.tables e below (T14.setTop (mkF m 158 #[.val (.int p0), .val (.int p1), .val (.int p2), .val (.int p3), .val (.int p4), .val (.int p5), .val (.int (v0_1 p0 p1 p2 p3 p4 p5 w0_COMPACT_STRINGS)), .val (.int (v0_3 p0 p1 p2 p3 p4 p5 w0_COMPACT_STRINGS)), .val (.int (v0_4 p0 p1 p2 p3 p4 p5 w0_COMPACT_STRINGS)), .val (.int (v0_6 p0 p1 p2 p3 p4 p5 w0_COMPACT_STRINGS)), .val (.int (v0_7 p0 p1 p2 p3 p4 p5 w0_COMPACT_STRINGS)), .val (.int (v0_8 p0 p1 p2 p3 p4 p5 w0_COMPACT_STRINGS)), .val (.int (v0_1 p0 p1 p2 p3 p4 p5 w0_COMPACT_STRINGS)), .val (.int (v0_3 p0 p1 p2 p3 p4 p5 w0_COMPACT_STRINGS)), .val (.int p2), .val (.int (v0_4 p0 p1 p2 p3 p4 p5 w0_COMPACT_STRINGS)), .val (.int (v0_6 p0 p1 p2 p3 p4 p5 w0_COMPACT_STRINGS)), .unset, .unset, .unset, .unset, .unset] [(.int (f1 (1 : Int32) (v0_14 p0 p1 p2 p3 p4 p5 w0_COMPACT_STRINGS)))])) _
              refine XS.istore X14.here hx rfl (hb hby at_158) rfl (l' := #[.val (.int p0), .val (.int p1), .val (.int p2), .val (.int p3), .val (.int p4), .val (.int p5), .val (.int (v0_1 p0 p1 p2 p3 p4 p5 w0_COMPACT_STRINGS)), .val (.int (v0_3 p0 p1 p2 p3 p4 p5 w0_COMPACT_STRINGS)), .val (.int (v0_4 p0 p1 p2 p3 p4 p5 w0_COMPACT_STRINGS)), .val (.int (v0_6 p0 p1 p2 p3 p4 p5 w0_COMPACT_STRINGS)), .val (.int (v0_7 p0 p1 p2 p3 p4 p5 w0_COMPACT_STRINGS)), .val (.int (v0_8 p0 p1 p2 p3 p4 p5 w0_COMPACT_STRINGS)), .val (.int (v0_1 p0 p1 p2 p3 p4 p5 w0_COMPACT_STRINGS)), .val (.int (v0_3 p0 p1 p2 p3 p4 p5 w0_COMPACT_STRINGS)), .val (.int p2), .val (.int (v0_4 p0 p1 p2 p3 p4 p5 w0_COMPACT_STRINGS)), .val (.int (v0_15 p0 p1 p2 p3 p4 p5 w0_COMPACT_STRINGS)), .unset, .unset, .unset, .unset, .unset]) rfl ?_
              exact k
            · skip
              refine ⟨T2, _, X2, e2, N2, fun t k => ?_⟩
              rw [show (v0_16 p0 p1 p2 p3 p4 p5 w0_COMPACT_STRINGS) = (v0_1 p0 p1 p2 p3 p4 p5 w0_COMPACT_STRINGS) from (((((if_neg c4).trans (if_neg c6)).trans (if_neg c9)).trans (if_neg c11)).trans (if_neg c13))] at k
              rw [show (v0_17 p0 p1 p2 p3 p4 p5 w0_COMPACT_STRINGS) = (v0_3 p0 p1 p2 p3 p4 p5 w0_COMPACT_STRINGS) from (((((if_neg c4).trans (if_neg c6)).trans (if_neg c9)).trans (if_neg c11)).trans (if_neg c13))] at k
              rw [show (v0_18 p0 p1 p2 p3 p4 p5 w0_COMPACT_STRINGS) = p2 from (((((if_neg c4).trans (if_neg c6)).trans (if_neg c9)).trans (if_neg c11)).trans (if_neg c13))] at k
              rw [show (v0_19 p0 p1 p2 p3 p4 p5 w0_COMPACT_STRINGS) = (v0_4 p0 p1 p2 p3 p4 p5 w0_COMPACT_STRINGS) from (((((if_neg c4).trans (if_neg c6)).trans (if_neg c9)).trans (if_neg c11)).trans (if_neg c13))] at k
              rw [show (v0_20 p0 p1 p2 p3 p4 p5 w0_COMPACT_STRINGS) = (v0_6 p0 p1 p2 p3 p4 p5 w0_COMPACT_STRINGS) from (((((if_neg c4).trans (if_neg c6)).trans (if_neg c9)).trans (if_neg c11)).trans (if_neg c13))] at k
              refine pre12 t ?_
              show Steps p.tables e below (T2.setTop (mkF m 143 #[.val (.int p0), .val (.int p1), .val (.int p2), .val (.int p3), .val (.int p4), .val (.int p5), .val (.int (v0_1 p0 p1 p2 p3 p4 p5 w0_COMPACT_STRINGS)), .val (.int (v0_3 p0 p1 p2 p3 p4 p5 w0_COMPACT_STRINGS)), .val (.int (v0_4 p0 p1 p2 p3 p4 p5 w0_COMPACT_STRINGS)), .val (.int (v0_6 p0 p1 p2 p3 p4 p5 w0_COMPACT_STRINGS)), .val (.int (v0_7 p0 p1 p2 p3 p4 p5 w0_COMPACT_STRINGS)), .val (.int (v0_8 p0 p1 p2 p3 p4 p5 w0_COMPACT_STRINGS)), .val (.int (v0_1 p0 p1 p2 p3 p4 p5 w0_COMPACT_STRINGS)), .val (.int (v0_3 p0 p1 p2 p3 p4 p5 w0_COMPACT_STRINGS)), .val (.int p2), .val (.int (v0_4 p0 p1 p2 p3 p4 p5 w0_COMPACT_STRINGS)), .val (.int (v0_6 p0 p1 p2 p3 p4 p5 w0_COMPACT_STRINGS)), .unset, .unset, .unset, .unset, .unset] [(.int (4 : Int32)), (.int (v0_7 p0 p1 p2 p3 p4 p5 w0_COMPACT_STRINGS))])) _
              refine XS.icmpYes X2.here hx rfl (pc0 := 143) (pc' := 160) rfl (hb hby at_143) rfl (XT.ii_ne_t c13) (by decide) (by decide) ?_
              exact k
  obtain ⟨T16, h16, X16, e16, E16, A16, D16, -, st16⟩ := newO X15 hx hZ hown (hw _ (List.mem_of_getElem? (i := 5) rfl)) (hw _ (List.mem_of_getElem? (i := 6) rfl)) (hw _ (List.mem_of_getElem? (i := 7) rfl)) e15 (g := (mkF m 160 #[.val (.int p0), .val (.int p1), .val (.int p2), .val (.int p3), .val (.int p4), .val (.int p5), .val (.int (v0_1 p0 p1 p2 p3 p4 p5 w0_COMPACT_STRINGS)), .val (.int (v0_3 p0 p1 p2 p3 p4 p5 w0_COMPACT_STRINGS)), .val (.int (v0_4 p0 p1 p2 p3 p4 p5 w0_COMPACT_STRINGS)), .val (.int (v0_6 p0 p1 p2 p3 p4 p5 w0_COMPACT_STRINGS)), .val (.int (v0_7 p0 p1 p2 p3 p4 p5 w0_COMPACT_STRINGS)), .val (.int (v0_8 p0 p1 p2 p3 p4 p5 w0_COMPACT_STRINGS)), .val (.int (v0_16 p0 p1 p2 p3 p4 p5 w0_COMPACT_STRINGS)), .val (.int (v0_17 p0 p1 p2 p3 p4 p5 w0_COMPACT_STRINGS)), .val (.int (v0_18 p0 p1 p2 p3 p4 p5 w0_COMPACT_STRINGS)), .val (.int (v0_19 p0 p1 p2 p3 p4 p5 w0_COMPACT_STRINGS)), .val (.int (v0_20 p0 p1 p2 p3 p4 p5 w0_COMPACT_STRINGS)), .unset, .unset, .unset, .unset, .unset] [])) rfl (hb hby at_160) (by decide) (by decide)
  obtain ⟨b16, gz16⟩ : ∃ z, z = h0.size := ⟨_, rfl⟩
  rw [← gz16] at A16 D16 st16
  have g17 : n0 ≤ b16 := Nat.le_trans Z0 (Nat.le_of_eq gz16.symm)
  have sz18 : h0.size ≤ b16 := Nat.le_trans (Nat.le_refl h0.size) (Nat.le_of_eq gz16.symm)
  have z19 : n0 ≤ h16.size := Nat.le_trans Z0 E16.1
  have hs20 : h0.size ≤ h16.size := Nat.le_trans (Nat.le_refl h0.size) E16.1
  have F16_start : Fld Z h16 b16 "com/example/vannus/vannus/Passage" "start" "I" (.int (0 : Int32)) := D16 (Or.inr (hw _ (List.mem_of_getElem? (i := 15) rfl))) (ty := .int) (by decide)
  have F16_length : Fld Z h16 b16 "com/example/vannus/vannus/Passage" "length" "I" (.int (0 : Int32)) := D16 (Or.inr (hw _ (List.mem_of_getElem? (i := 17) rfl))) (ty := .int) (by decide)
  have F16_source : Fld Z h16 b16 "com/example/vannus/vannus/Passage" "source" "I" (.int (0 : Int32)) := D16 (Or.inr (hw _ (List.mem_of_getElem? (i := 19) rfl))) (ty := .int) (by decide)
  have F16_sourceStart : Fld Z h16 b16 "com/example/vannus/vannus/Passage" "sourceStart" "I" (.int (0 : Int32)) := D16 (Or.inr (hw _ (List.mem_of_getElem? (i := 21) rfl))) (ty := .int) (by decide)
  have F16_sourceLength : Fld Z h16 b16 "com/example/vannus/vannus/Passage" "sourceLength" "I" (.int (0 : Int32)) := D16 (Or.inr (hw _ (List.mem_of_getElem? (i := 23) rfl))) (ty := .int) (by decide)
  obtain ⟨_, _, ⟨T21, L21, k21, n21⟩, -, X21, ⟨Lc21, hQ21, l21, y21, z21⟩, st21⟩ := X16.specialBack hx (y := (⟨"com/example/vannus/vannus/Passage", "<init>", "(IIIII)V"⟩ : MethodName)) rfl hown (mvT hZ (hw _ (List.mem_of_getElem? (i := 8) rfl))) (mvT hZ (hw _ (List.mem_of_getElem? (i := 9) rfl))) (mvT hZ (hw _ (List.mem_of_getElem? (i := 10) rfl))) (by decide) (backOf (W := 1) (rm2 l Z a0 hw [] b16 (v0_1 p0 p1 p2 p3 p4 p5 w0_COMPACT_STRINGS) (v0_3 p0 p1 p2 p3 p4 p5 w0_COMPACT_STRINGS) p2 (v0_4 p0 p1 p2 p3 p4 p5 w0_COMPACT_STRINGS) (v0_6 p0 p1 p2 p3 p4 p5 w0_COMPACT_STRINGS) (.int (0 : Int32)) (.int (0 : Int32)) (.int (0 : Int32)) (.int (0 : Int32)) (.int (0 : Int32)) h16 n0 z19 (own_H1_0 p0 p1 p2 p3 p4 p5 w0_COMPACT_STRINGS) (own_H4_0 p0 p1 p2 p3 p4 p5 w0_COMPACT_STRINGS) (own_H3_1 p0 p1 p2 p3 p4 p5 w0_COMPACT_STRINGS) (own_H6_1 p0 p1 p2 p3 p4 p5 w0_COMPACT_STRINGS) A16 F16_start g17 F16_length F16_source F16_sourceStart F16_sourceLength) hZ (hw _ (List.mem_of_getElem? (i := 10) rfl)) (hw _ (List.mem_of_getElem? (i := 7) rfl)) (by decide) (by decide)) (g := (mkF m 173 #[.val (.int p0), .val (.int p1), .val (.int p2), .val (.int p3), .val (.int p4), .val (.int p5), .val (.int (v0_1 p0 p1 p2 p3 p4 p5 w0_COMPACT_STRINGS)), .val (.int (v0_3 p0 p1 p2 p3 p4 p5 w0_COMPACT_STRINGS)), .val (.int (v0_4 p0 p1 p2 p3 p4 p5 w0_COMPACT_STRINGS)), .val (.int (v0_6 p0 p1 p2 p3 p4 p5 w0_COMPACT_STRINGS)), .val (.int (v0_7 p0 p1 p2 p3 p4 p5 w0_COMPACT_STRINGS)), .val (.int (v0_8 p0 p1 p2 p3 p4 p5 w0_COMPACT_STRINGS)), .val (.int (v0_16 p0 p1 p2 p3 p4 p5 w0_COMPACT_STRINGS)), .val (.int (v0_17 p0 p1 p2 p3 p4 p5 w0_COMPACT_STRINGS)), .val (.int (v0_18 p0 p1 p2 p3 p4 p5 w0_COMPACT_STRINGS)), .val (.int (v0_19 p0 p1 p2 p3 p4 p5 w0_COMPACT_STRINGS)), .val (.int (v0_20 p0 p1 p2 p3 p4 p5 w0_COMPACT_STRINGS)), .unset, .unset, .unset, .unset, .unset] [(.int (v0_6 p0 p1 p2 p3 p4 p5 w0_COMPACT_STRINGS)), (.int (v0_4 p0 p1 p2 p3 p4 p5 w0_COMPACT_STRINGS)), (.int p2), (.int (v0_3 p0 p1 p2 p3 p4 p5 w0_COMPACT_STRINGS)), (.int (v0_1 p0 p1 p2 p3 p4 p5 w0_COMPACT_STRINGS)), (.ref b16), (.ref b16)])) rfl (by rw [hml]; rfl) (Steps.refl _) (a := b16) (argsL := [(.int (v0_1 p0 p1 p2 p3 p4 p5 w0_COMPACT_STRINGS)), (.int (v0_3 p0 p1 p2 p3 p4 p5 w0_COMPACT_STRINGS)), (.int p2), (.int (v0_4 p0 p1 p2 p3 p4 p5 w0_COMPACT_STRINGS)), (.int (v0_6 p0 p1 p2 p3 p4 p5 w0_COMPACT_STRINGS))]) (rest := [(.ref b16)]) (lenOf pd__IIIII_V rfl) rfl (by show 2 * 0 + _ ≤ _; exact Nat.le_of_eq rfl) (hb hby at_173) (fun _ _ => ⟨rfl, e16, (by decide : 1 + 0 ≤ _), (by decide : 5 + 0 ≤ _)⟩)
  dsimp only [Pt.U, Pt.locs, Pt.cells, Pt.slots] at X21 l21 y21 z21 st21 hQ21
  subst l21 y21 z21
  obtain ⟨N21q, rfl, K21, po21_0, po21_1, po21_2, po21_3, po21_4, po21_5⟩ := hQ21
  have z22 : n0 ≤ T21.heap.size := Nat.le_trans z19 K21.1
  have hs23 : h0.size ≤ T21.heap.size := Nat.le_trans hs20 K21.1
  have N21 := Fr.app N15 N21q
  obtain ⟨T24, h24, X24, e24, E24, A24, D24, -, st24⟩ := newO X21 hx hZ hown (hw _ (List.mem_of_getElem? (i := 5) rfl)) (hw _ (List.mem_of_getElem? (i := 6) rfl)) (hw _ (List.mem_of_getElem? (i := 7) rfl)) rfl (g := (mkF m 178 #[.val (.int p0), .val (.int p1), .val (.int p2), .val (.int p3), .val (.int p4), .val (.int p5), .val (.int (v0_1 p0 p1 p2 p3 p4 p5 w0_COMPACT_STRINGS)), .val (.int (v0_3 p0 p1 p2 p3 p4 p5 w0_COMPACT_STRINGS)), .val (.int (v0_4 p0 p1 p2 p3 p4 p5 w0_COMPACT_STRINGS)), .val (.int (v0_6 p0 p1 p2 p3 p4 p5 w0_COMPACT_STRINGS)), .val (.int (v0_7 p0 p1 p2 p3 p4 p5 w0_COMPACT_STRINGS)), .val (.int (v0_8 p0 p1 p2 p3 p4 p5 w0_COMPACT_STRINGS)), .val (.int (v0_16 p0 p1 p2 p3 p4 p5 w0_COMPACT_STRINGS)), .val (.int (v0_17 p0 p1 p2 p3 p4 p5 w0_COMPACT_STRINGS)), .val (.int (v0_18 p0 p1 p2 p3 p4 p5 w0_COMPACT_STRINGS)), .val (.int (v0_19 p0 p1 p2 p3 p4 p5 w0_COMPACT_STRINGS)), .val (.int (v0_20 p0 p1 p2 p3 p4 p5 w0_COMPACT_STRINGS)), .val (.ref b16), .unset, .unset, .unset, .unset] [])) rfl (hb hby at_178) (by decide) (by decide)
  obtain ⟨b24, gz24⟩ : ∃ z, z = T21.heap.size := ⟨_, rfl⟩
  rw [← gz24] at A24 D24 st24
  have ne25 : b16 ≠ b24 := Nat.ne_of_lt (Nat.lt_of_lt_of_le po21_0.lt (Nat.le_of_eq gz24.symm))
  have g26 : n0 ≤ b24 := Nat.le_trans z22 (Nat.le_of_eq gz24.symm)
  have sz27 : h0.size ≤ b24 := Nat.le_trans hs23 (Nat.le_of_eq gz24.symm)
  have z28 : n0 ≤ h24.size := Nat.le_trans z22 E24.1
  have hs29 : h0.size ≤ h24.size := Nat.le_trans hs23 E24.1
  have F24_start : Fld Z h24 b24 "com/example/vannus/vannus/Passage" "start" "I" (.int (0 : Int32)) := D24 (Or.inr (hw _ (List.mem_of_getElem? (i := 15) rfl))) (ty := .int) (by decide)
  have F24_length : Fld Z h24 b24 "com/example/vannus/vannus/Passage" "length" "I" (.int (0 : Int32)) := D24 (Or.inr (hw _ (List.mem_of_getElem? (i := 17) rfl))) (ty := .int) (by decide)
  have F24_source : Fld Z h24 b24 "com/example/vannus/vannus/Passage" "source" "I" (.int (0 : Int32)) := D24 (Or.inr (hw _ (List.mem_of_getElem? (i := 19) rfl))) (ty := .int) (by decide)
  have F24_sourceStart : Fld Z h24 b24 "com/example/vannus/vannus/Passage" "sourceStart" "I" (.int (0 : Int32)) := D24 (Or.inr (hw _ (List.mem_of_getElem? (i := 21) rfl))) (ty := .int) (by decide)
  have F24_sourceLength : Fld Z h24 b24 "com/example/vannus/vannus/Passage" "sourceLength" "I" (.int (0 : Int32)) := D24 (Or.inr (hw _ (List.mem_of_getElem? (i := 23) rfl))) (ty := .int) (by decide)
  obtain ⟨_, _, ⟨T30, L30, k30, n30⟩, -, X30, ⟨Lc30, hQ30, l30, y30, z30⟩, st30⟩ := X24.specialBack hx (y := (⟨"com/example/vannus/vannus/Passage", "<init>", "(IIIII)V"⟩ : MethodName)) rfl hown (mvT hZ (hw _ (List.mem_of_getElem? (i := 8) rfl))) (mvT hZ (hw _ (List.mem_of_getElem? (i := 9) rfl))) (mvT hZ (hw _ (List.mem_of_getElem? (i := 10) rfl))) (by decide) (backOf (W := 1) (rm2 l Z a0 hw [] b24 (v0_16 p0 p1 p2 p3 p4 p5 w0_COMPACT_STRINGS) (v0_17 p0 p1 p2 p3 p4 p5 w0_COMPACT_STRINGS) (v0_18 p0 p1 p2 p3 p4 p5 w0_COMPACT_STRINGS) (v0_19 p0 p1 p2 p3 p4 p5 w0_COMPACT_STRINGS) (v0_20 p0 p1 p2 p3 p4 p5 w0_COMPACT_STRINGS) (.int (0 : Int32)) (.int (0 : Int32)) (.int (0 : Int32)) (.int (0 : Int32)) (.int (0 : Int32)) h24 n0 z28 (own_H16_0 p0 p1 p2 p3 p4 p5 w0_COMPACT_STRINGS) (own_H19_0 p0 p1 p2 p3 p4 p5 w0_COMPACT_STRINGS) (own_H17_1 p0 p1 p2 p3 p4 p5 w0_COMPACT_STRINGS) (own_H20_1 p0 p1 p2 p3 p4 p5 w0_COMPACT_STRINGS) A24 F24_start g26 F24_length F24_source F24_sourceStart F24_sourceLength) hZ (hw _ (List.mem_of_getElem? (i := 10) rfl)) (hw _ (List.mem_of_getElem? (i := 7) rfl)) (by decide) (by decide)) (g := (mkF m 192 #[.val (.int p0), .val (.int p1), .val (.int p2), .val (.int p3), .val (.int p4), .val (.int p5), .val (.int (v0_1 p0 p1 p2 p3 p4 p5 w0_COMPACT_STRINGS)), .val (.int (v0_3 p0 p1 p2 p3 p4 p5 w0_COMPACT_STRINGS)), .val (.int (v0_4 p0 p1 p2 p3 p4 p5 w0_COMPACT_STRINGS)), .val (.int (v0_6 p0 p1 p2 p3 p4 p5 w0_COMPACT_STRINGS)), .val (.int (v0_7 p0 p1 p2 p3 p4 p5 w0_COMPACT_STRINGS)), .val (.int (v0_8 p0 p1 p2 p3 p4 p5 w0_COMPACT_STRINGS)), .val (.int (v0_16 p0 p1 p2 p3 p4 p5 w0_COMPACT_STRINGS)), .val (.int (v0_17 p0 p1 p2 p3 p4 p5 w0_COMPACT_STRINGS)), .val (.int (v0_18 p0 p1 p2 p3 p4 p5 w0_COMPACT_STRINGS)), .val (.int (v0_19 p0 p1 p2 p3 p4 p5 w0_COMPACT_STRINGS)), .val (.int (v0_20 p0 p1 p2 p3 p4 p5 w0_COMPACT_STRINGS)), .val (.ref b16), .unset, .unset, .unset, .unset] [(.int (v0_20 p0 p1 p2 p3 p4 p5 w0_COMPACT_STRINGS)), (.int (v0_19 p0 p1 p2 p3 p4 p5 w0_COMPACT_STRINGS)), (.int (v0_18 p0 p1 p2 p3 p4 p5 w0_COMPACT_STRINGS)), (.int (v0_17 p0 p1 p2 p3 p4 p5 w0_COMPACT_STRINGS)), (.int (v0_16 p0 p1 p2 p3 p4 p5 w0_COMPACT_STRINGS)), (.ref b24), (.ref b24)])) rfl (by rw [hml]; rfl) (Steps.refl _) (a := b24) (argsL := [(.int (v0_16 p0 p1 p2 p3 p4 p5 w0_COMPACT_STRINGS)), (.int (v0_17 p0 p1 p2 p3 p4 p5 w0_COMPACT_STRINGS)), (.int (v0_18 p0 p1 p2 p3 p4 p5 w0_COMPACT_STRINGS)), (.int (v0_19 p0 p1 p2 p3 p4 p5 w0_COMPACT_STRINGS)), (.int (v0_20 p0 p1 p2 p3 p4 p5 w0_COMPACT_STRINGS))]) (rest := [(.ref b24)]) (lenOf pd__IIIII_V rfl) rfl (by show 2 * 0 + _ ≤ _; exact Nat.le_of_eq rfl) (hb hby at_192) (fun _ _ => ⟨rfl, e24, (by decide : 2 + 0 ≤ _), (by decide : 10 + 0 ≤ _)⟩)
  dsimp only [Pt.U, Pt.locs, Pt.cells, Pt.slots] at X30 l30 y30 z30 st30 hQ30
  subst l30 y30 z30
  obtain ⟨N30q, rfl, K30, po30_0, po30_1, po30_2, po30_3, po30_4, po30_5⟩ := hQ30
  have z31 : n0 ≤ T30.heap.size := Nat.le_trans z28 K30.1
  have hs32 : h0.size ≤ T30.heap.size := Nat.le_trans hs29 K30.1
  have N30 := Fr.app N21 N30q
  have pre33 : ∀ t, Steps p.tables e below (T30.setTop (mkF m 201 #[.val (.int p0), .val (.int p1), .val (.int p2), .val (.int p3), .val (.int p4), .val (.int p5), .val (.int (v0_1 p0 p1 p2 p3 p4 p5 w0_COMPACT_STRINGS)), .val (.int (v0_3 p0 p1 p2 p3 p4 p5 w0_COMPACT_STRINGS)), .val (.int (v0_4 p0 p1 p2 p3 p4 p5 w0_COMPACT_STRINGS)), .val (.int (v0_6 p0 p1 p2 p3 p4 p5 w0_COMPACT_STRINGS)), .val (.int (v0_7 p0 p1 p2 p3 p4 p5 w0_COMPACT_STRINGS)), .val (.int (v0_8 p0 p1 p2 p3 p4 p5 w0_COMPACT_STRINGS)), .val (.int (v0_16 p0 p1 p2 p3 p4 p5 w0_COMPACT_STRINGS)), .val (.int (v0_17 p0 p1 p2 p3 p4 p5 w0_COMPACT_STRINGS)), .val (.int (v0_18 p0 p1 p2 p3 p4 p5 w0_COMPACT_STRINGS)), .val (.int (v0_19 p0 p1 p2 p3 p4 p5 w0_COMPACT_STRINGS)), .val (.int (v0_20 p0 p1 p2 p3 p4 p5 w0_COMPACT_STRINGS)), .val (.ref b16), .val (.ref b24), .unset, .unset, .unset] [(.int (v0_16 p0 p1 p2 p3 p4 p5 w0_COMPACT_STRINGS)), (.int (v0_1 p0 p1 p2 p3 p4 p5 w0_COMPACT_STRINGS))])) t → Steps p.tables e below (s₁.setTop (entryFrame m #[(.int p0), (.int p1), (.int p2), (.int p3), (.int p4), (.int p5)] maxLocals)) t := by
    intro t k
    refine pre15 t ?_
    show Steps p.tables e below (T15.setTop (mkF m 160 #[.val (.int p0), .val (.int p1), .val (.int p2), .val (.int p3), .val (.int p4), .val (.int p5), .val (.int (v0_1 p0 p1 p2 p3 p4 p5 w0_COMPACT_STRINGS)), .val (.int (v0_3 p0 p1 p2 p3 p4 p5 w0_COMPACT_STRINGS)), .val (.int (v0_4 p0 p1 p2 p3 p4 p5 w0_COMPACT_STRINGS)), .val (.int (v0_6 p0 p1 p2 p3 p4 p5 w0_COMPACT_STRINGS)), .val (.int (v0_7 p0 p1 p2 p3 p4 p5 w0_COMPACT_STRINGS)), .val (.int (v0_8 p0 p1 p2 p3 p4 p5 w0_COMPACT_STRINGS)), .val (.int (v0_16 p0 p1 p2 p3 p4 p5 w0_COMPACT_STRINGS)), .val (.int (v0_17 p0 p1 p2 p3 p4 p5 w0_COMPACT_STRINGS)), .val (.int (v0_18 p0 p1 p2 p3 p4 p5 w0_COMPACT_STRINGS)), .val (.int (v0_19 p0 p1 p2 p3 p4 p5 w0_COMPACT_STRINGS)), .val (.int (v0_20 p0 p1 p2 p3 p4 p5 w0_COMPACT_STRINGS)), .unset, .unset, .unset, .unset, .unset] [])) _
    refine st16 _ ?_
    show Steps p.tables e below (T16.setTop (mkF m 163 #[.val (.int p0), .val (.int p1), .val (.int p2), .val (.int p3), .val (.int p4), .val (.int p5), .val (.int (v0_1 p0 p1 p2 p3 p4 p5 w0_COMPACT_STRINGS)), .val (.int (v0_3 p0 p1 p2 p3 p4 p5 w0_COMPACT_STRINGS)), .val (.int (v0_4 p0 p1 p2 p3 p4 p5 w0_COMPACT_STRINGS)), .val (.int (v0_6 p0 p1 p2 p3 p4 p5 w0_COMPACT_STRINGS)), .val (.int (v0_7 p0 p1 p2 p3 p4 p5 w0_COMPACT_STRINGS)), .val (.int (v0_8 p0 p1 p2 p3 p4 p5 w0_COMPACT_STRINGS)), .val (.int (v0_16 p0 p1 p2 p3 p4 p5 w0_COMPACT_STRINGS)), .val (.int (v0_17 p0 p1 p2 p3 p4 p5 w0_COMPACT_STRINGS)), .val (.int (v0_18 p0 p1 p2 p3 p4 p5 w0_COMPACT_STRINGS)), .val (.int (v0_19 p0 p1 p2 p3 p4 p5 w0_COMPACT_STRINGS)), .val (.int (v0_20 p0 p1 p2 p3 p4 p5 w0_COMPACT_STRINGS)), .unset, .unset, .unset, .unset, .unset] [(.ref b16)])) _
    refine XS.dup X16.here hx rfl (hb hby at_163) rfl rfl ?_
    show Steps p.tables e below (T16.setTop (mkF m 164 #[.val (.int p0), .val (.int p1), .val (.int p2), .val (.int p3), .val (.int p4), .val (.int p5), .val (.int (v0_1 p0 p1 p2 p3 p4 p5 w0_COMPACT_STRINGS)), .val (.int (v0_3 p0 p1 p2 p3 p4 p5 w0_COMPACT_STRINGS)), .val (.int (v0_4 p0 p1 p2 p3 p4 p5 w0_COMPACT_STRINGS)), .val (.int (v0_6 p0 p1 p2 p3 p4 p5 w0_COMPACT_STRINGS)), .val (.int (v0_7 p0 p1 p2 p3 p4 p5 w0_COMPACT_STRINGS)), .val (.int (v0_8 p0 p1 p2 p3 p4 p5 w0_COMPACT_STRINGS)), .val (.int (v0_16 p0 p1 p2 p3 p4 p5 w0_COMPACT_STRINGS)), .val (.int (v0_17 p0 p1 p2 p3 p4 p5 w0_COMPACT_STRINGS)), .val (.int (v0_18 p0 p1 p2 p3 p4 p5 w0_COMPACT_STRINGS)), .val (.int (v0_19 p0 p1 p2 p3 p4 p5 w0_COMPACT_STRINGS)), .val (.int (v0_20 p0 p1 p2 p3 p4 p5 w0_COMPACT_STRINGS)), .unset, .unset, .unset, .unset, .unset] [(.ref b16), (.ref b16)])) _
    refine XS.iload X16.here hx rfl (hb hby at_164) rfl ?_
    show Steps p.tables e below (T16.setTop (mkF m 166 #[.val (.int p0), .val (.int p1), .val (.int p2), .val (.int p3), .val (.int p4), .val (.int p5), .val (.int (v0_1 p0 p1 p2 p3 p4 p5 w0_COMPACT_STRINGS)), .val (.int (v0_3 p0 p1 p2 p3 p4 p5 w0_COMPACT_STRINGS)), .val (.int (v0_4 p0 p1 p2 p3 p4 p5 w0_COMPACT_STRINGS)), .val (.int (v0_6 p0 p1 p2 p3 p4 p5 w0_COMPACT_STRINGS)), .val (.int (v0_7 p0 p1 p2 p3 p4 p5 w0_COMPACT_STRINGS)), .val (.int (v0_8 p0 p1 p2 p3 p4 p5 w0_COMPACT_STRINGS)), .val (.int (v0_16 p0 p1 p2 p3 p4 p5 w0_COMPACT_STRINGS)), .val (.int (v0_17 p0 p1 p2 p3 p4 p5 w0_COMPACT_STRINGS)), .val (.int (v0_18 p0 p1 p2 p3 p4 p5 w0_COMPACT_STRINGS)), .val (.int (v0_19 p0 p1 p2 p3 p4 p5 w0_COMPACT_STRINGS)), .val (.int (v0_20 p0 p1 p2 p3 p4 p5 w0_COMPACT_STRINGS)), .unset, .unset, .unset, .unset, .unset] [(.int (v0_1 p0 p1 p2 p3 p4 p5 w0_COMPACT_STRINGS)), (.ref b16), (.ref b16)])) _
    refine XS.iload X16.here hx rfl (hb hby at_166) rfl ?_
    show Steps p.tables e below (T16.setTop (mkF m 168 #[.val (.int p0), .val (.int p1), .val (.int p2), .val (.int p3), .val (.int p4), .val (.int p5), .val (.int (v0_1 p0 p1 p2 p3 p4 p5 w0_COMPACT_STRINGS)), .val (.int (v0_3 p0 p1 p2 p3 p4 p5 w0_COMPACT_STRINGS)), .val (.int (v0_4 p0 p1 p2 p3 p4 p5 w0_COMPACT_STRINGS)), .val (.int (v0_6 p0 p1 p2 p3 p4 p5 w0_COMPACT_STRINGS)), .val (.int (v0_7 p0 p1 p2 p3 p4 p5 w0_COMPACT_STRINGS)), .val (.int (v0_8 p0 p1 p2 p3 p4 p5 w0_COMPACT_STRINGS)), .val (.int (v0_16 p0 p1 p2 p3 p4 p5 w0_COMPACT_STRINGS)), .val (.int (v0_17 p0 p1 p2 p3 p4 p5 w0_COMPACT_STRINGS)), .val (.int (v0_18 p0 p1 p2 p3 p4 p5 w0_COMPACT_STRINGS)), .val (.int (v0_19 p0 p1 p2 p3 p4 p5 w0_COMPACT_STRINGS)), .val (.int (v0_20 p0 p1 p2 p3 p4 p5 w0_COMPACT_STRINGS)), .unset, .unset, .unset, .unset, .unset] [(.int (v0_3 p0 p1 p2 p3 p4 p5 w0_COMPACT_STRINGS)), (.int (v0_1 p0 p1 p2 p3 p4 p5 w0_COMPACT_STRINGS)), (.ref b16), (.ref b16)])) _
    refine XS.iloadN X16.here hx rfl (hb hby at_168) rfl ?_
    show Steps p.tables e below (T16.setTop (mkF m 169 #[.val (.int p0), .val (.int p1), .val (.int p2), .val (.int p3), .val (.int p4), .val (.int p5), .val (.int (v0_1 p0 p1 p2 p3 p4 p5 w0_COMPACT_STRINGS)), .val (.int (v0_3 p0 p1 p2 p3 p4 p5 w0_COMPACT_STRINGS)), .val (.int (v0_4 p0 p1 p2 p3 p4 p5 w0_COMPACT_STRINGS)), .val (.int (v0_6 p0 p1 p2 p3 p4 p5 w0_COMPACT_STRINGS)), .val (.int (v0_7 p0 p1 p2 p3 p4 p5 w0_COMPACT_STRINGS)), .val (.int (v0_8 p0 p1 p2 p3 p4 p5 w0_COMPACT_STRINGS)), .val (.int (v0_16 p0 p1 p2 p3 p4 p5 w0_COMPACT_STRINGS)), .val (.int (v0_17 p0 p1 p2 p3 p4 p5 w0_COMPACT_STRINGS)), .val (.int (v0_18 p0 p1 p2 p3 p4 p5 w0_COMPACT_STRINGS)), .val (.int (v0_19 p0 p1 p2 p3 p4 p5 w0_COMPACT_STRINGS)), .val (.int (v0_20 p0 p1 p2 p3 p4 p5 w0_COMPACT_STRINGS)), .unset, .unset, .unset, .unset, .unset] [(.int p2), (.int (v0_3 p0 p1 p2 p3 p4 p5 w0_COMPACT_STRINGS)), (.int (v0_1 p0 p1 p2 p3 p4 p5 w0_COMPACT_STRINGS)), (.ref b16), (.ref b16)])) _
    refine XS.iload X16.here hx rfl (hb hby at_169) rfl ?_
    show Steps p.tables e below (T16.setTop (mkF m 171 #[.val (.int p0), .val (.int p1), .val (.int p2), .val (.int p3), .val (.int p4), .val (.int p5), .val (.int (v0_1 p0 p1 p2 p3 p4 p5 w0_COMPACT_STRINGS)), .val (.int (v0_3 p0 p1 p2 p3 p4 p5 w0_COMPACT_STRINGS)), .val (.int (v0_4 p0 p1 p2 p3 p4 p5 w0_COMPACT_STRINGS)), .val (.int (v0_6 p0 p1 p2 p3 p4 p5 w0_COMPACT_STRINGS)), .val (.int (v0_7 p0 p1 p2 p3 p4 p5 w0_COMPACT_STRINGS)), .val (.int (v0_8 p0 p1 p2 p3 p4 p5 w0_COMPACT_STRINGS)), .val (.int (v0_16 p0 p1 p2 p3 p4 p5 w0_COMPACT_STRINGS)), .val (.int (v0_17 p0 p1 p2 p3 p4 p5 w0_COMPACT_STRINGS)), .val (.int (v0_18 p0 p1 p2 p3 p4 p5 w0_COMPACT_STRINGS)), .val (.int (v0_19 p0 p1 p2 p3 p4 p5 w0_COMPACT_STRINGS)), .val (.int (v0_20 p0 p1 p2 p3 p4 p5 w0_COMPACT_STRINGS)), .unset, .unset, .unset, .unset, .unset] [(.int (v0_4 p0 p1 p2 p3 p4 p5 w0_COMPACT_STRINGS)), (.int p2), (.int (v0_3 p0 p1 p2 p3 p4 p5 w0_COMPACT_STRINGS)), (.int (v0_1 p0 p1 p2 p3 p4 p5 w0_COMPACT_STRINGS)), (.ref b16), (.ref b16)])) _
    refine XS.iload X16.here hx rfl (hb hby at_171) rfl ?_
    show Steps p.tables e below (T16.setTop (mkF m 173 #[.val (.int p0), .val (.int p1), .val (.int p2), .val (.int p3), .val (.int p4), .val (.int p5), .val (.int (v0_1 p0 p1 p2 p3 p4 p5 w0_COMPACT_STRINGS)), .val (.int (v0_3 p0 p1 p2 p3 p4 p5 w0_COMPACT_STRINGS)), .val (.int (v0_4 p0 p1 p2 p3 p4 p5 w0_COMPACT_STRINGS)), .val (.int (v0_6 p0 p1 p2 p3 p4 p5 w0_COMPACT_STRINGS)), .val (.int (v0_7 p0 p1 p2 p3 p4 p5 w0_COMPACT_STRINGS)), .val (.int (v0_8 p0 p1 p2 p3 p4 p5 w0_COMPACT_STRINGS)), .val (.int (v0_16 p0 p1 p2 p3 p4 p5 w0_COMPACT_STRINGS)), .val (.int (v0_17 p0 p1 p2 p3 p4 p5 w0_COMPACT_STRINGS)), .val (.int (v0_18 p0 p1 p2 p3 p4 p5 w0_COMPACT_STRINGS)), .val (.int (v0_19 p0 p1 p2 p3 p4 p5 w0_COMPACT_STRINGS)), .val (.int (v0_20 p0 p1 p2 p3 p4 p5 w0_COMPACT_STRINGS)), .unset, .unset, .unset, .unset, .unset] [(.int (v0_6 p0 p1 p2 p3 p4 p5 w0_COMPACT_STRINGS)), (.int (v0_4 p0 p1 p2 p3 p4 p5 w0_COMPACT_STRINGS)), (.int p2), (.int (v0_3 p0 p1 p2 p3 p4 p5 w0_COMPACT_STRINGS)), (.int (v0_1 p0 p1 p2 p3 p4 p5 w0_COMPACT_STRINGS)), (.ref b16), (.ref b16)])) _
    refine st21.trans ?_
    show Steps p.tables e below (T21.setTop (mkF m 176 #[.val (.int p0), .val (.int p1), .val (.int p2), .val (.int p3), .val (.int p4), .val (.int p5), .val (.int (v0_1 p0 p1 p2 p3 p4 p5 w0_COMPACT_STRINGS)), .val (.int (v0_3 p0 p1 p2 p3 p4 p5 w0_COMPACT_STRINGS)), .val (.int (v0_4 p0 p1 p2 p3 p4 p5 w0_COMPACT_STRINGS)), .val (.int (v0_6 p0 p1 p2 p3 p4 p5 w0_COMPACT_STRINGS)), .val (.int (v0_7 p0 p1 p2 p3 p4 p5 w0_COMPACT_STRINGS)), .val (.int (v0_8 p0 p1 p2 p3 p4 p5 w0_COMPACT_STRINGS)), .val (.int (v0_16 p0 p1 p2 p3 p4 p5 w0_COMPACT_STRINGS)), .val (.int (v0_17 p0 p1 p2 p3 p4 p5 w0_COMPACT_STRINGS)), .val (.int (v0_18 p0 p1 p2 p3 p4 p5 w0_COMPACT_STRINGS)), .val (.int (v0_19 p0 p1 p2 p3 p4 p5 w0_COMPACT_STRINGS)), .val (.int (v0_20 p0 p1 p2 p3 p4 p5 w0_COMPACT_STRINGS)), .unset, .unset, .unset, .unset, .unset] [(.ref b16)])) _
    refine XS.astore X21.here hx rfl (hb hby at_176) rfl rfl (l' := #[.val (.int p0), .val (.int p1), .val (.int p2), .val (.int p3), .val (.int p4), .val (.int p5), .val (.int (v0_1 p0 p1 p2 p3 p4 p5 w0_COMPACT_STRINGS)), .val (.int (v0_3 p0 p1 p2 p3 p4 p5 w0_COMPACT_STRINGS)), .val (.int (v0_4 p0 p1 p2 p3 p4 p5 w0_COMPACT_STRINGS)), .val (.int (v0_6 p0 p1 p2 p3 p4 p5 w0_COMPACT_STRINGS)), .val (.int (v0_7 p0 p1 p2 p3 p4 p5 w0_COMPACT_STRINGS)), .val (.int (v0_8 p0 p1 p2 p3 p4 p5 w0_COMPACT_STRINGS)), .val (.int (v0_16 p0 p1 p2 p3 p4 p5 w0_COMPACT_STRINGS)), .val (.int (v0_17 p0 p1 p2 p3 p4 p5 w0_COMPACT_STRINGS)), .val (.int (v0_18 p0 p1 p2 p3 p4 p5 w0_COMPACT_STRINGS)), .val (.int (v0_19 p0 p1 p2 p3 p4 p5 w0_COMPACT_STRINGS)), .val (.int (v0_20 p0 p1 p2 p3 p4 p5 w0_COMPACT_STRINGS)), .val (.ref b16), .unset, .unset, .unset, .unset]) rfl ?_
    show Steps p.tables e below (T21.setTop (mkF m 178 #[.val (.int p0), .val (.int p1), .val (.int p2), .val (.int p3), .val (.int p4), .val (.int p5), .val (.int (v0_1 p0 p1 p2 p3 p4 p5 w0_COMPACT_STRINGS)), .val (.int (v0_3 p0 p1 p2 p3 p4 p5 w0_COMPACT_STRINGS)), .val (.int (v0_4 p0 p1 p2 p3 p4 p5 w0_COMPACT_STRINGS)), .val (.int (v0_6 p0 p1 p2 p3 p4 p5 w0_COMPACT_STRINGS)), .val (.int (v0_7 p0 p1 p2 p3 p4 p5 w0_COMPACT_STRINGS)), .val (.int (v0_8 p0 p1 p2 p3 p4 p5 w0_COMPACT_STRINGS)), .val (.int (v0_16 p0 p1 p2 p3 p4 p5 w0_COMPACT_STRINGS)), .val (.int (v0_17 p0 p1 p2 p3 p4 p5 w0_COMPACT_STRINGS)), .val (.int (v0_18 p0 p1 p2 p3 p4 p5 w0_COMPACT_STRINGS)), .val (.int (v0_19 p0 p1 p2 p3 p4 p5 w0_COMPACT_STRINGS)), .val (.int (v0_20 p0 p1 p2 p3 p4 p5 w0_COMPACT_STRINGS)), .val (.ref b16), .unset, .unset, .unset, .unset] [])) _
    refine st24 _ ?_
    show Steps p.tables e below (T24.setTop (mkF m 181 #[.val (.int p0), .val (.int p1), .val (.int p2), .val (.int p3), .val (.int p4), .val (.int p5), .val (.int (v0_1 p0 p1 p2 p3 p4 p5 w0_COMPACT_STRINGS)), .val (.int (v0_3 p0 p1 p2 p3 p4 p5 w0_COMPACT_STRINGS)), .val (.int (v0_4 p0 p1 p2 p3 p4 p5 w0_COMPACT_STRINGS)), .val (.int (v0_6 p0 p1 p2 p3 p4 p5 w0_COMPACT_STRINGS)), .val (.int (v0_7 p0 p1 p2 p3 p4 p5 w0_COMPACT_STRINGS)), .val (.int (v0_8 p0 p1 p2 p3 p4 p5 w0_COMPACT_STRINGS)), .val (.int (v0_16 p0 p1 p2 p3 p4 p5 w0_COMPACT_STRINGS)), .val (.int (v0_17 p0 p1 p2 p3 p4 p5 w0_COMPACT_STRINGS)), .val (.int (v0_18 p0 p1 p2 p3 p4 p5 w0_COMPACT_STRINGS)), .val (.int (v0_19 p0 p1 p2 p3 p4 p5 w0_COMPACT_STRINGS)), .val (.int (v0_20 p0 p1 p2 p3 p4 p5 w0_COMPACT_STRINGS)), .val (.ref b16), .unset, .unset, .unset, .unset] [(.ref b24)])) _
    refine XS.dup X24.here hx rfl (hb hby at_181) rfl rfl ?_
    show Steps p.tables e below (T24.setTop (mkF m 182 #[.val (.int p0), .val (.int p1), .val (.int p2), .val (.int p3), .val (.int p4), .val (.int p5), .val (.int (v0_1 p0 p1 p2 p3 p4 p5 w0_COMPACT_STRINGS)), .val (.int (v0_3 p0 p1 p2 p3 p4 p5 w0_COMPACT_STRINGS)), .val (.int (v0_4 p0 p1 p2 p3 p4 p5 w0_COMPACT_STRINGS)), .val (.int (v0_6 p0 p1 p2 p3 p4 p5 w0_COMPACT_STRINGS)), .val (.int (v0_7 p0 p1 p2 p3 p4 p5 w0_COMPACT_STRINGS)), .val (.int (v0_8 p0 p1 p2 p3 p4 p5 w0_COMPACT_STRINGS)), .val (.int (v0_16 p0 p1 p2 p3 p4 p5 w0_COMPACT_STRINGS)), .val (.int (v0_17 p0 p1 p2 p3 p4 p5 w0_COMPACT_STRINGS)), .val (.int (v0_18 p0 p1 p2 p3 p4 p5 w0_COMPACT_STRINGS)), .val (.int (v0_19 p0 p1 p2 p3 p4 p5 w0_COMPACT_STRINGS)), .val (.int (v0_20 p0 p1 p2 p3 p4 p5 w0_COMPACT_STRINGS)), .val (.ref b16), .unset, .unset, .unset, .unset] [(.ref b24), (.ref b24)])) _
    refine XS.iload X24.here hx rfl (hb hby at_182) rfl ?_
    show Steps p.tables e below (T24.setTop (mkF m 184 #[.val (.int p0), .val (.int p1), .val (.int p2), .val (.int p3), .val (.int p4), .val (.int p5), .val (.int (v0_1 p0 p1 p2 p3 p4 p5 w0_COMPACT_STRINGS)), .val (.int (v0_3 p0 p1 p2 p3 p4 p5 w0_COMPACT_STRINGS)), .val (.int (v0_4 p0 p1 p2 p3 p4 p5 w0_COMPACT_STRINGS)), .val (.int (v0_6 p0 p1 p2 p3 p4 p5 w0_COMPACT_STRINGS)), .val (.int (v0_7 p0 p1 p2 p3 p4 p5 w0_COMPACT_STRINGS)), .val (.int (v0_8 p0 p1 p2 p3 p4 p5 w0_COMPACT_STRINGS)), .val (.int (v0_16 p0 p1 p2 p3 p4 p5 w0_COMPACT_STRINGS)), .val (.int (v0_17 p0 p1 p2 p3 p4 p5 w0_COMPACT_STRINGS)), .val (.int (v0_18 p0 p1 p2 p3 p4 p5 w0_COMPACT_STRINGS)), .val (.int (v0_19 p0 p1 p2 p3 p4 p5 w0_COMPACT_STRINGS)), .val (.int (v0_20 p0 p1 p2 p3 p4 p5 w0_COMPACT_STRINGS)), .val (.ref b16), .unset, .unset, .unset, .unset] [(.int (v0_16 p0 p1 p2 p3 p4 p5 w0_COMPACT_STRINGS)), (.ref b24), (.ref b24)])) _
    refine XS.iload X24.here hx rfl (hb hby at_184) rfl ?_
    show Steps p.tables e below (T24.setTop (mkF m 186 #[.val (.int p0), .val (.int p1), .val (.int p2), .val (.int p3), .val (.int p4), .val (.int p5), .val (.int (v0_1 p0 p1 p2 p3 p4 p5 w0_COMPACT_STRINGS)), .val (.int (v0_3 p0 p1 p2 p3 p4 p5 w0_COMPACT_STRINGS)), .val (.int (v0_4 p0 p1 p2 p3 p4 p5 w0_COMPACT_STRINGS)), .val (.int (v0_6 p0 p1 p2 p3 p4 p5 w0_COMPACT_STRINGS)), .val (.int (v0_7 p0 p1 p2 p3 p4 p5 w0_COMPACT_STRINGS)), .val (.int (v0_8 p0 p1 p2 p3 p4 p5 w0_COMPACT_STRINGS)), .val (.int (v0_16 p0 p1 p2 p3 p4 p5 w0_COMPACT_STRINGS)), .val (.int (v0_17 p0 p1 p2 p3 p4 p5 w0_COMPACT_STRINGS)), .val (.int (v0_18 p0 p1 p2 p3 p4 p5 w0_COMPACT_STRINGS)), .val (.int (v0_19 p0 p1 p2 p3 p4 p5 w0_COMPACT_STRINGS)), .val (.int (v0_20 p0 p1 p2 p3 p4 p5 w0_COMPACT_STRINGS)), .val (.ref b16), .unset, .unset, .unset, .unset] [(.int (v0_17 p0 p1 p2 p3 p4 p5 w0_COMPACT_STRINGS)), (.int (v0_16 p0 p1 p2 p3 p4 p5 w0_COMPACT_STRINGS)), (.ref b24), (.ref b24)])) _
    refine XS.iload X24.here hx rfl (hb hby at_186) rfl ?_
    show Steps p.tables e below (T24.setTop (mkF m 188 #[.val (.int p0), .val (.int p1), .val (.int p2), .val (.int p3), .val (.int p4), .val (.int p5), .val (.int (v0_1 p0 p1 p2 p3 p4 p5 w0_COMPACT_STRINGS)), .val (.int (v0_3 p0 p1 p2 p3 p4 p5 w0_COMPACT_STRINGS)), .val (.int (v0_4 p0 p1 p2 p3 p4 p5 w0_COMPACT_STRINGS)), .val (.int (v0_6 p0 p1 p2 p3 p4 p5 w0_COMPACT_STRINGS)), .val (.int (v0_7 p0 p1 p2 p3 p4 p5 w0_COMPACT_STRINGS)), .val (.int (v0_8 p0 p1 p2 p3 p4 p5 w0_COMPACT_STRINGS)), .val (.int (v0_16 p0 p1 p2 p3 p4 p5 w0_COMPACT_STRINGS)), .val (.int (v0_17 p0 p1 p2 p3 p4 p5 w0_COMPACT_STRINGS)), .val (.int (v0_18 p0 p1 p2 p3 p4 p5 w0_COMPACT_STRINGS)), .val (.int (v0_19 p0 p1 p2 p3 p4 p5 w0_COMPACT_STRINGS)), .val (.int (v0_20 p0 p1 p2 p3 p4 p5 w0_COMPACT_STRINGS)), .val (.ref b16), .unset, .unset, .unset, .unset] [(.int (v0_18 p0 p1 p2 p3 p4 p5 w0_COMPACT_STRINGS)), (.int (v0_17 p0 p1 p2 p3 p4 p5 w0_COMPACT_STRINGS)), (.int (v0_16 p0 p1 p2 p3 p4 p5 w0_COMPACT_STRINGS)), (.ref b24), (.ref b24)])) _
    refine XS.iload X24.here hx rfl (hb hby at_188) rfl ?_
    show Steps p.tables e below (T24.setTop (mkF m 190 #[.val (.int p0), .val (.int p1), .val (.int p2), .val (.int p3), .val (.int p4), .val (.int p5), .val (.int (v0_1 p0 p1 p2 p3 p4 p5 w0_COMPACT_STRINGS)), .val (.int (v0_3 p0 p1 p2 p3 p4 p5 w0_COMPACT_STRINGS)), .val (.int (v0_4 p0 p1 p2 p3 p4 p5 w0_COMPACT_STRINGS)), .val (.int (v0_6 p0 p1 p2 p3 p4 p5 w0_COMPACT_STRINGS)), .val (.int (v0_7 p0 p1 p2 p3 p4 p5 w0_COMPACT_STRINGS)), .val (.int (v0_8 p0 p1 p2 p3 p4 p5 w0_COMPACT_STRINGS)), .val (.int (v0_16 p0 p1 p2 p3 p4 p5 w0_COMPACT_STRINGS)), .val (.int (v0_17 p0 p1 p2 p3 p4 p5 w0_COMPACT_STRINGS)), .val (.int (v0_18 p0 p1 p2 p3 p4 p5 w0_COMPACT_STRINGS)), .val (.int (v0_19 p0 p1 p2 p3 p4 p5 w0_COMPACT_STRINGS)), .val (.int (v0_20 p0 p1 p2 p3 p4 p5 w0_COMPACT_STRINGS)), .val (.ref b16), .unset, .unset, .unset, .unset] [(.int (v0_19 p0 p1 p2 p3 p4 p5 w0_COMPACT_STRINGS)), (.int (v0_18 p0 p1 p2 p3 p4 p5 w0_COMPACT_STRINGS)), (.int (v0_17 p0 p1 p2 p3 p4 p5 w0_COMPACT_STRINGS)), (.int (v0_16 p0 p1 p2 p3 p4 p5 w0_COMPACT_STRINGS)), (.ref b24), (.ref b24)])) _
    refine XS.iload X24.here hx rfl (hb hby at_190) rfl ?_
    show Steps p.tables e below (T24.setTop (mkF m 192 #[.val (.int p0), .val (.int p1), .val (.int p2), .val (.int p3), .val (.int p4), .val (.int p5), .val (.int (v0_1 p0 p1 p2 p3 p4 p5 w0_COMPACT_STRINGS)), .val (.int (v0_3 p0 p1 p2 p3 p4 p5 w0_COMPACT_STRINGS)), .val (.int (v0_4 p0 p1 p2 p3 p4 p5 w0_COMPACT_STRINGS)), .val (.int (v0_6 p0 p1 p2 p3 p4 p5 w0_COMPACT_STRINGS)), .val (.int (v0_7 p0 p1 p2 p3 p4 p5 w0_COMPACT_STRINGS)), .val (.int (v0_8 p0 p1 p2 p3 p4 p5 w0_COMPACT_STRINGS)), .val (.int (v0_16 p0 p1 p2 p3 p4 p5 w0_COMPACT_STRINGS)), .val (.int (v0_17 p0 p1 p2 p3 p4 p5 w0_COMPACT_STRINGS)), .val (.int (v0_18 p0 p1 p2 p3 p4 p5 w0_COMPACT_STRINGS)), .val (.int (v0_19 p0 p1 p2 p3 p4 p5 w0_COMPACT_STRINGS)), .val (.int (v0_20 p0 p1 p2 p3 p4 p5 w0_COMPACT_STRINGS)), .val (.ref b16), .unset, .unset, .unset, .unset] [(.int (v0_20 p0 p1 p2 p3 p4 p5 w0_COMPACT_STRINGS)), (.int (v0_19 p0 p1 p2 p3 p4 p5 w0_COMPACT_STRINGS)), (.int (v0_18 p0 p1 p2 p3 p4 p5 w0_COMPACT_STRINGS)), (.int (v0_17 p0 p1 p2 p3 p4 p5 w0_COMPACT_STRINGS)), (.int (v0_16 p0 p1 p2 p3 p4 p5 w0_COMPACT_STRINGS)), (.ref b24), (.ref b24)])) _
    refine st30.trans ?_
    show Steps p.tables e below (T30.setTop (mkF m 195 #[.val (.int p0), .val (.int p1), .val (.int p2), .val (.int p3), .val (.int p4), .val (.int p5), .val (.int (v0_1 p0 p1 p2 p3 p4 p5 w0_COMPACT_STRINGS)), .val (.int (v0_3 p0 p1 p2 p3 p4 p5 w0_COMPACT_STRINGS)), .val (.int (v0_4 p0 p1 p2 p3 p4 p5 w0_COMPACT_STRINGS)), .val (.int (v0_6 p0 p1 p2 p3 p4 p5 w0_COMPACT_STRINGS)), .val (.int (v0_7 p0 p1 p2 p3 p4 p5 w0_COMPACT_STRINGS)), .val (.int (v0_8 p0 p1 p2 p3 p4 p5 w0_COMPACT_STRINGS)), .val (.int (v0_16 p0 p1 p2 p3 p4 p5 w0_COMPACT_STRINGS)), .val (.int (v0_17 p0 p1 p2 p3 p4 p5 w0_COMPACT_STRINGS)), .val (.int (v0_18 p0 p1 p2 p3 p4 p5 w0_COMPACT_STRINGS)), .val (.int (v0_19 p0 p1 p2 p3 p4 p5 w0_COMPACT_STRINGS)), .val (.int (v0_20 p0 p1 p2 p3 p4 p5 w0_COMPACT_STRINGS)), .val (.ref b16), .unset, .unset, .unset, .unset] [(.ref b24)])) _
    refine XS.astore X30.here hx rfl (hb hby at_195) rfl rfl (l' := #[.val (.int p0), .val (.int p1), .val (.int p2), .val (.int p3), .val (.int p4), .val (.int p5), .val (.int (v0_1 p0 p1 p2 p3 p4 p5 w0_COMPACT_STRINGS)), .val (.int (v0_3 p0 p1 p2 p3 p4 p5 w0_COMPACT_STRINGS)), .val (.int (v0_4 p0 p1 p2 p3 p4 p5 w0_COMPACT_STRINGS)), .val (.int (v0_6 p0 p1 p2 p3 p4 p5 w0_COMPACT_STRINGS)), .val (.int (v0_7 p0 p1 p2 p3 p4 p5 w0_COMPACT_STRINGS)), .val (.int (v0_8 p0 p1 p2 p3 p4 p5 w0_COMPACT_STRINGS)), .val (.int (v0_16 p0 p1 p2 p3 p4 p5 w0_COMPACT_STRINGS)), .val (.int (v0_17 p0 p1 p2 p3 p4 p5 w0_COMPACT_STRINGS)), .val (.int (v0_18 p0 p1 p2 p3 p4 p5 w0_COMPACT_STRINGS)), .val (.int (v0_19 p0 p1 p2 p3 p4 p5 w0_COMPACT_STRINGS)), .val (.int (v0_20 p0 p1 p2 p3 p4 p5 w0_COMPACT_STRINGS)), .val (.ref b16), .val (.ref b24), .unset, .unset, .unset]) rfl ?_
    show Steps p.tables e below (T30.setTop (mkF m 197 #[.val (.int p0), .val (.int p1), .val (.int p2), .val (.int p3), .val (.int p4), .val (.int p5), .val (.int (v0_1 p0 p1 p2 p3 p4 p5 w0_COMPACT_STRINGS)), .val (.int (v0_3 p0 p1 p2 p3 p4 p5 w0_COMPACT_STRINGS)), .val (.int (v0_4 p0 p1 p2 p3 p4 p5 w0_COMPACT_STRINGS)), .val (.int (v0_6 p0 p1 p2 p3 p4 p5 w0_COMPACT_STRINGS)), .val (.int (v0_7 p0 p1 p2 p3 p4 p5 w0_COMPACT_STRINGS)), .val (.int (v0_8 p0 p1 p2 p3 p4 p5 w0_COMPACT_STRINGS)), .val (.int (v0_16 p0 p1 p2 p3 p4 p5 w0_COMPACT_STRINGS)), .val (.int (v0_17 p0 p1 p2 p3 p4 p5 w0_COMPACT_STRINGS)), .val (.int (v0_18 p0 p1 p2 p3 p4 p5 w0_COMPACT_STRINGS)), .val (.int (v0_19 p0 p1 p2 p3 p4 p5 w0_COMPACT_STRINGS)), .val (.int (v0_20 p0 p1 p2 p3 p4 p5 w0_COMPACT_STRINGS)), .val (.ref b16), .val (.ref b24), .unset, .unset, .unset] [])) _
    refine XS.iload X30.here hx rfl (hb hby at_197) rfl ?_
    show Steps p.tables e below (T30.setTop (mkF m 199 #[.val (.int p0), .val (.int p1), .val (.int p2), .val (.int p3), .val (.int p4), .val (.int p5), .val (.int (v0_1 p0 p1 p2 p3 p4 p5 w0_COMPACT_STRINGS)), .val (.int (v0_3 p0 p1 p2 p3 p4 p5 w0_COMPACT_STRINGS)), .val (.int (v0_4 p0 p1 p2 p3 p4 p5 w0_COMPACT_STRINGS)), .val (.int (v0_6 p0 p1 p2 p3 p4 p5 w0_COMPACT_STRINGS)), .val (.int (v0_7 p0 p1 p2 p3 p4 p5 w0_COMPACT_STRINGS)), .val (.int (v0_8 p0 p1 p2 p3 p4 p5 w0_COMPACT_STRINGS)), .val (.int (v0_16 p0 p1 p2 p3 p4 p5 w0_COMPACT_STRINGS)), .val (.int (v0_17 p0 p1 p2 p3 p4 p5 w0_COMPACT_STRINGS)), .val (.int (v0_18 p0 p1 p2 p3 p4 p5 w0_COMPACT_STRINGS)), .val (.int (v0_19 p0 p1 p2 p3 p4 p5 w0_COMPACT_STRINGS)), .val (.int (v0_20 p0 p1 p2 p3 p4 p5 w0_COMPACT_STRINGS)), .val (.ref b16), .val (.ref b24), .unset, .unset, .unset] [(.int (v0_1 p0 p1 p2 p3 p4 p5 w0_COMPACT_STRINGS))])) _
    refine XS.iload X30.here hx rfl (hb hby at_199) rfl ?_
    exact k
  have pre43 : ∀ t, Steps p.tables e below (T30.setTop (mkF m 236 #[.val (.int p0), .val (.int p1), .val (.int p2), .val (.int p3), .val (.int p4), .val (.int p5), .val (.int (v0_1 p0 p1 p2 p3 p4 p5 w0_COMPACT_STRINGS)), .val (.int (v0_3 p0 p1 p2 p3 p4 p5 w0_COMPACT_STRINGS)), .val (.int (v0_4 p0 p1 p2 p3 p4 p5 w0_COMPACT_STRINGS)), .val (.int (v0_6 p0 p1 p2 p3 p4 p5 w0_COMPACT_STRINGS)), .val (.int (v0_7 p0 p1 p2 p3 p4 p5 w0_COMPACT_STRINGS)), .val (.int (v0_8 p0 p1 p2 p3 p4 p5 w0_COMPACT_STRINGS)), .val (.int (v0_16 p0 p1 p2 p3 p4 p5 w0_COMPACT_STRINGS)), .val (.int (v0_17 p0 p1 p2 p3 p4 p5 w0_COMPACT_STRINGS)), .val (.int (v0_18 p0 p1 p2 p3 p4 p5 w0_COMPACT_STRINGS)), .val (.int (v0_19 p0 p1 p2 p3 p4 p5 w0_COMPACT_STRINGS)), .val (.int (v0_20 p0 p1 p2 p3 p4 p5 w0_COMPACT_STRINGS)), .val (.ref b16), .val (.ref b24), .unset, .unset, .unset] [(.int (v0_21 p0 p1 p2 p3 p4 p5 w0_COMPACT_STRINGS))])) t → Steps p.tables e below (s₁.setTop (entryFrame m #[(.int p0), (.int p1), (.int p2), (.int p3), (.int p4), (.int p5)] maxLocals)) t := by
    intro t k
    by_cases c34 : (v0_1 p0 p1 p2 p3 p4 p5 w0_COMPACT_STRINGS) = (v0_16 p0 p1 p2 p3 p4 p5 w0_COMPACT_STRINGS)
    · skip
      have pre35 : ∀ t, Steps p.tables e below (T30.setTop (mkF m 208 #[.val (.int p0), .val (.int p1), .val (.int p2), .val (.int p3), .val (.int p4), .val (.int p5), .val (.int (v0_1 p0 p1 p2 p3 p4 p5 w0_COMPACT_STRINGS)), .val (.int (v0_3 p0 p1 p2 p3 p4 p5 w0_COMPACT_STRINGS)), .val (.int (v0_4 p0 p1 p2 p3 p4 p5 w0_COMPACT_STRINGS)), .val (.int (v0_6 p0 p1 p2 p3 p4 p5 w0_COMPACT_STRINGS)), .val (.int (v0_7 p0 p1 p2 p3 p4 p5 w0_COMPACT_STRINGS)), .val (.int (v0_8 p0 p1 p2 p3 p4 p5 w0_COMPACT_STRINGS)), .val (.int (v0_16 p0 p1 p2 p3 p4 p5 w0_COMPACT_STRINGS)), .val (.int (v0_17 p0 p1 p2 p3 p4 p5 w0_COMPACT_STRINGS)), .val (.int (v0_18 p0 p1 p2 p3 p4 p5 w0_COMPACT_STRINGS)), .val (.int (v0_19 p0 p1 p2 p3 p4 p5 w0_COMPACT_STRINGS)), .val (.int (v0_20 p0 p1 p2 p3 p4 p5 w0_COMPACT_STRINGS)), .val (.ref b16), .val (.ref b24), .unset, .unset, .unset] [(.int (v0_17 p0 p1 p2 p3 p4 p5 w0_COMPACT_STRINGS)), (.int (v0_3 p0 p1 p2 p3 p4 p5 w0_COMPACT_STRINGS))])) t → Steps p.tables e below (s₁.setTop (entryFrame m #[(.int p0), (.int p1), (.int p2), (.int p3), (.int p4), (.int p5)] maxLocals)) t := by
        intro t k
        refine pre33 t ?_
        show Steps p.tables e below (T30.setTop (mkF m 201 #[.val (.int p0), .val (.int p1), .val (.int p2), .val (.int p3), .val (.int p4), .val (.int p5), .val (.int (v0_1 p0 p1 p2 p3 p4 p5 w0_COMPACT_STRINGS)), .val (.int (v0_3 p0 p1 p2 p3 p4 p5 w0_COMPACT_STRINGS)), .val (.int (v0_4 p0 p1 p2 p3 p4 p5 w0_COMPACT_STRINGS)), .val (.int (v0_6 p0 p1 p2 p3 p4 p5 w0_COMPACT_STRINGS)), .val (.int (v0_7 p0 p1 p2 p3 p4 p5 w0_COMPACT_STRINGS)), .val (.int (v0_8 p0 p1 p2 p3 p4 p5 w0_COMPACT_STRINGS)), .val (.int (v0_16 p0 p1 p2 p3 p4 p5 w0_COMPACT_STRINGS)), .val (.int (v0_17 p0 p1 p2 p3 p4 p5 w0_COMPACT_STRINGS)), .val (.int (v0_18 p0 p1 p2 p3 p4 p5 w0_COMPACT_STRINGS)), .val (.int (v0_19 p0 p1 p2 p3 p4 p5 w0_COMPACT_STRINGS)), .val (.int (v0_20 p0 p1 p2 p3 p4 p5 w0_COMPACT_STRINGS)), .val (.ref b16), .val (.ref b24), .unset, .unset, .unset] [(.int (v0_16 p0 p1 p2 p3 p4 p5 w0_COMPACT_STRINGS)), (.int (v0_1 p0 p1 p2 p3 p4 p5 w0_COMPACT_STRINGS))])) _
        refine XS.icmpNo X30.here hx rfl (hb hby at_201) rfl (XT.ii_ne_f c34) ?_
        show Steps p.tables e below (T30.setTop (mkF m 204 #[.val (.int p0), .val (.int p1), .val (.int p2), .val (.int p3), .val (.int p4), .val (.int p5), .val (.int (v0_1 p0 p1 p2 p3 p4 p5 w0_COMPACT_STRINGS)), .val (.int (v0_3 p0 p1 p2 p3 p4 p5 w0_COMPACT_STRINGS)), .val (.int (v0_4 p0 p1 p2 p3 p4 p5 w0_COMPACT_STRINGS)), .val (.int (v0_6 p0 p1 p2 p3 p4 p5 w0_COMPACT_STRINGS)), .val (.int (v0_7 p0 p1 p2 p3 p4 p5 w0_COMPACT_STRINGS)), .val (.int (v0_8 p0 p1 p2 p3 p4 p5 w0_COMPACT_STRINGS)), .val (.int (v0_16 p0 p1 p2 p3 p4 p5 w0_COMPACT_STRINGS)), .val (.int (v0_17 p0 p1 p2 p3 p4 p5 w0_COMPACT_STRINGS)), .val (.int (v0_18 p0 p1 p2 p3 p4 p5 w0_COMPACT_STRINGS)), .val (.int (v0_19 p0 p1 p2 p3 p4 p5 w0_COMPACT_STRINGS)), .val (.int (v0_20 p0 p1 p2 p3 p4 p5 w0_COMPACT_STRINGS)), .val (.ref b16), .val (.ref b24), .unset, .unset, .unset] [])) _
        refine XS.iload X30.here hx rfl (hb hby at_204) rfl ?_
        show Steps p.tables e below (T30.setTop (mkF m 206 #[.val (.int p0), .val (.int p1), .val (.int p2), .val (.int p3), .val (.int p4), .val (.int p5), .val (.int (v0_1 p0 p1 p2 p3 p4 p5 w0_COMPACT_STRINGS)), .val (.int (v0_3 p0 p1 p2 p3 p4 p5 w0_COMPACT_STRINGS)), .val (.int (v0_4 p0 p1 p2 p3 p4 p5 w0_COMPACT_STRINGS)), .val (.int (v0_6 p0 p1 p2 p3 p4 p5 w0_COMPACT_STRINGS)), .val (.int (v0_7 p0 p1 p2 p3 p4 p5 w0_COMPACT_STRINGS)), .val (.int (v0_8 p0 p1 p2 p3 p4 p5 w0_COMPACT_STRINGS)), .val (.int (v0_16 p0 p1 p2 p3 p4 p5 w0_COMPACT_STRINGS)), .val (.int (v0_17 p0 p1 p2 p3 p4 p5 w0_COMPACT_STRINGS)), .val (.int (v0_18 p0 p1 p2 p3 p4 p5 w0_COMPACT_STRINGS)), .val (.int (v0_19 p0 p1 p2 p3 p4 p5 w0_COMPACT_STRINGS)), .val (.int (v0_20 p0 p1 p2 p3 p4 p5 w0_COMPACT_STRINGS)), .val (.ref b16), .val (.ref b24), .unset, .unset, .unset] [(.int (v0_3 p0 p1 p2 p3 p4 p5 w0_COMPACT_STRINGS))])) _
        refine XS.iload X30.here hx rfl (hb hby at_206) rfl ?_
        exact k
      by_cases c36 : (v0_3 p0 p1 p2 p3 p4 p5 w0_COMPACT_STRINGS) = (v0_17 p0 p1 p2 p3 p4 p5 w0_COMPACT_STRINGS)
      · skip
        have pre37 : ∀ t, Steps p.tables e below (T30.setTop (mkF m 214 #[.val (.int p0), .val (.int p1), .val (.int p2), .val (.int p3), .val (.int p4), .val (.int p5), .val (.int (v0_1 p0 p1 p2 p3 p4 p5 w0_COMPACT_STRINGS)), .val (.int (v0_3 p0 p1 p2 p3 p4 p5 w0_COMPACT_STRINGS)), .val (.int (v0_4 p0 p1 p2 p3 p4 p5 w0_COMPACT_STRINGS)), .val (.int (v0_6 p0 p1 p2 p3 p4 p5 w0_COMPACT_STRINGS)), .val (.int (v0_7 p0 p1 p2 p3 p4 p5 w0_COMPACT_STRINGS)), .val (.int (v0_8 p0 p1 p2 p3 p4 p5 w0_COMPACT_STRINGS)), .val (.int (v0_16 p0 p1 p2 p3 p4 p5 w0_COMPACT_STRINGS)), .val (.int (v0_17 p0 p1 p2 p3 p4 p5 w0_COMPACT_STRINGS)), .val (.int (v0_18 p0 p1 p2 p3 p4 p5 w0_COMPACT_STRINGS)), .val (.int (v0_19 p0 p1 p2 p3 p4 p5 w0_COMPACT_STRINGS)), .val (.int (v0_20 p0 p1 p2 p3 p4 p5 w0_COMPACT_STRINGS)), .val (.ref b16), .val (.ref b24), .unset, .unset, .unset] [(.int (v0_18 p0 p1 p2 p3 p4 p5 w0_COMPACT_STRINGS)), (.int p2)])) t → Steps p.tables e below (s₁.setTop (entryFrame m #[(.int p0), (.int p1), (.int p2), (.int p3), (.int p4), (.int p5)] maxLocals)) t := by
          intro t k
          refine pre35 t ?_
          show Steps p.tables e below (T30.setTop (mkF m 208 #[.val (.int p0), .val (.int p1), .val (.int p2), .val (.int p3), .val (.int p4), .val (.int p5), .val (.int (v0_1 p0 p1 p2 p3 p4 p5 w0_COMPACT_STRINGS)), .val (.int (v0_3 p0 p1 p2 p3 p4 p5 w0_COMPACT_STRINGS)), .val (.int (v0_4 p0 p1 p2 p3 p4 p5 w0_COMPACT_STRINGS)), .val (.int (v0_6 p0 p1 p2 p3 p4 p5 w0_COMPACT_STRINGS)), .val (.int (v0_7 p0 p1 p2 p3 p4 p5 w0_COMPACT_STRINGS)), .val (.int (v0_8 p0 p1 p2 p3 p4 p5 w0_COMPACT_STRINGS)), .val (.int (v0_16 p0 p1 p2 p3 p4 p5 w0_COMPACT_STRINGS)), .val (.int (v0_17 p0 p1 p2 p3 p4 p5 w0_COMPACT_STRINGS)), .val (.int (v0_18 p0 p1 p2 p3 p4 p5 w0_COMPACT_STRINGS)), .val (.int (v0_19 p0 p1 p2 p3 p4 p5 w0_COMPACT_STRINGS)), .val (.int (v0_20 p0 p1 p2 p3 p4 p5 w0_COMPACT_STRINGS)), .val (.ref b16), .val (.ref b24), .unset, .unset, .unset] [(.int (v0_17 p0 p1 p2 p3 p4 p5 w0_COMPACT_STRINGS)), (.int (v0_3 p0 p1 p2 p3 p4 p5 w0_COMPACT_STRINGS))])) _
          refine XS.icmpNo X30.here hx rfl (hb hby at_208) rfl (XT.ii_ne_f c36) ?_
          show Steps p.tables e below (T30.setTop (mkF m 211 #[.val (.int p0), .val (.int p1), .val (.int p2), .val (.int p3), .val (.int p4), .val (.int p5), .val (.int (v0_1 p0 p1 p2 p3 p4 p5 w0_COMPACT_STRINGS)), .val (.int (v0_3 p0 p1 p2 p3 p4 p5 w0_COMPACT_STRINGS)), .val (.int (v0_4 p0 p1 p2 p3 p4 p5 w0_COMPACT_STRINGS)), .val (.int (v0_6 p0 p1 p2 p3 p4 p5 w0_COMPACT_STRINGS)), .val (.int (v0_7 p0 p1 p2 p3 p4 p5 w0_COMPACT_STRINGS)), .val (.int (v0_8 p0 p1 p2 p3 p4 p5 w0_COMPACT_STRINGS)), .val (.int (v0_16 p0 p1 p2 p3 p4 p5 w0_COMPACT_STRINGS)), .val (.int (v0_17 p0 p1 p2 p3 p4 p5 w0_COMPACT_STRINGS)), .val (.int (v0_18 p0 p1 p2 p3 p4 p5 w0_COMPACT_STRINGS)), .val (.int (v0_19 p0 p1 p2 p3 p4 p5 w0_COMPACT_STRINGS)), .val (.int (v0_20 p0 p1 p2 p3 p4 p5 w0_COMPACT_STRINGS)), .val (.ref b16), .val (.ref b24), .unset, .unset, .unset] [])) _
          refine XS.iloadN X30.here hx rfl (hb hby at_211) rfl ?_
          show Steps p.tables e below (T30.setTop (mkF m 212 #[.val (.int p0), .val (.int p1), .val (.int p2), .val (.int p3), .val (.int p4), .val (.int p5), .val (.int (v0_1 p0 p1 p2 p3 p4 p5 w0_COMPACT_STRINGS)), .val (.int (v0_3 p0 p1 p2 p3 p4 p5 w0_COMPACT_STRINGS)), .val (.int (v0_4 p0 p1 p2 p3 p4 p5 w0_COMPACT_STRINGS)), .val (.int (v0_6 p0 p1 p2 p3 p4 p5 w0_COMPACT_STRINGS)), .val (.int (v0_7 p0 p1 p2 p3 p4 p5 w0_COMPACT_STRINGS)), .val (.int (v0_8 p0 p1 p2 p3 p4 p5 w0_COMPACT_STRINGS)), .val (.int (v0_16 p0 p1 p2 p3 p4 p5 w0_COMPACT_STRINGS)), .val (.int (v0_17 p0 p1 p2 p3 p4 p5 w0_COMPACT_STRINGS)), .val (.int (v0_18 p0 p1 p2 p3 p4 p5 w0_COMPACT_STRINGS)), .val (.int (v0_19 p0 p1 p2 p3 p4 p5 w0_COMPACT_STRINGS)), .val (.int (v0_20 p0 p1 p2 p3 p4 p5 w0_COMPACT_STRINGS)), .val (.ref b16), .val (.ref b24), .unset, .unset, .unset] [(.int p2)])) _
          refine XS.iload X30.here hx rfl (hb hby at_212) rfl ?_
          exact k
        by_cases c38 : p2 = (v0_18 p0 p1 p2 p3 p4 p5 w0_COMPACT_STRINGS)
        · skip
          have pre39 : ∀ t, Steps p.tables e below (T30.setTop (mkF m 221 #[.val (.int p0), .val (.int p1), .val (.int p2), .val (.int p3), .val (.int p4), .val (.int p5), .val (.int (v0_1 p0 p1 p2 p3 p4 p5 w0_COMPACT_STRINGS)), .val (.int (v0_3 p0 p1 p2 p3 p4 p5 w0_COMPACT_STRINGS)), .val (.int (v0_4 p0 p1 p2 p3 p4 p5 w0_COMPACT_STRINGS)), .val (.int (v0_6 p0 p1 p2 p3 p4 p5 w0_COMPACT_STRINGS)), .val (.int (v0_7 p0 p1 p2 p3 p4 p5 w0_COMPACT_STRINGS)), .val (.int (v0_8 p0 p1 p2 p3 p4 p5 w0_COMPACT_STRINGS)), .val (.int (v0_16 p0 p1 p2 p3 p4 p5 w0_COMPACT_STRINGS)), .val (.int (v0_17 p0 p1 p2 p3 p4 p5 w0_COMPACT_STRINGS)), .val (.int (v0_18 p0 p1 p2 p3 p4 p5 w0_COMPACT_STRINGS)), .val (.int (v0_19 p0 p1 p2 p3 p4 p5 w0_COMPACT_STRINGS)), .val (.int (v0_20 p0 p1 p2 p3 p4 p5 w0_COMPACT_STRINGS)), .val (.ref b16), .val (.ref b24), .unset, .unset, .unset] [(.int (v0_19 p0 p1 p2 p3 p4 p5 w0_COMPACT_STRINGS)), (.int (v0_4 p0 p1 p2 p3 p4 p5 w0_COMPACT_STRINGS))])) t → Steps p.tables e below (s₁.setTop (entryFrame m #[(.int p0), (.int p1), (.int p2), (.int p3), (.int p4), (.int p5)] maxLocals)) t := by
            intro t k
            refine pre37 t ?_
            show Steps p.tables e below (T30.setTop (mkF m 214 #[.val (.int p0), .val (.int p1), .val (.int p2), .val (.int p3), .val (.int p4), .val (.int p5), .val (.int (v0_1 p0 p1 p2 p3 p4 p5 w0_COMPACT_STRINGS)), .val (.int (v0_3 p0 p1 p2 p3 p4 p5 w0_COMPACT_STRINGS)), .val (.int (v0_4 p0 p1 p2 p3 p4 p5 w0_COMPACT_STRINGS)), .val (.int (v0_6 p0 p1 p2 p3 p4 p5 w0_COMPACT_STRINGS)), .val (.int (v0_7 p0 p1 p2 p3 p4 p5 w0_COMPACT_STRINGS)), .val (.int (v0_8 p0 p1 p2 p3 p4 p5 w0_COMPACT_STRINGS)), .val (.int (v0_16 p0 p1 p2 p3 p4 p5 w0_COMPACT_STRINGS)), .val (.int (v0_17 p0 p1 p2 p3 p4 p5 w0_COMPACT_STRINGS)), .val (.int (v0_18 p0 p1 p2 p3 p4 p5 w0_COMPACT_STRINGS)), .val (.int (v0_19 p0 p1 p2 p3 p4 p5 w0_COMPACT_STRINGS)), .val (.int (v0_20 p0 p1 p2 p3 p4 p5 w0_COMPACT_STRINGS)), .val (.ref b16), .val (.ref b24), .unset, .unset, .unset] [(.int (v0_18 p0 p1 p2 p3 p4 p5 w0_COMPACT_STRINGS)), (.int p2)])) _
            refine XS.icmpNo X30.here hx rfl (hb hby at_214) rfl (XT.ii_ne_f c38) ?_
            show Steps p.tables e below (T30.setTop (mkF m 217 #[.val (.int p0), .val (.int p1), .val (.int p2), .val (.int p3), .val (.int p4), .val (.int p5), .val (.int (v0_1 p0 p1 p2 p3 p4 p5 w0_COMPACT_STRINGS)), .val (.int (v0_3 p0 p1 p2 p3 p4 p5 w0_COMPACT_STRINGS)), .val (.int (v0_4 p0 p1 p2 p3 p4 p5 w0_COMPACT_STRINGS)), .val (.int (v0_6 p0 p1 p2 p3 p4 p5 w0_COMPACT_STRINGS)), .val (.int (v0_7 p0 p1 p2 p3 p4 p5 w0_COMPACT_STRINGS)), .val (.int (v0_8 p0 p1 p2 p3 p4 p5 w0_COMPACT_STRINGS)), .val (.int (v0_16 p0 p1 p2 p3 p4 p5 w0_COMPACT_STRINGS)), .val (.int (v0_17 p0 p1 p2 p3 p4 p5 w0_COMPACT_STRINGS)), .val (.int (v0_18 p0 p1 p2 p3 p4 p5 w0_COMPACT_STRINGS)), .val (.int (v0_19 p0 p1 p2 p3 p4 p5 w0_COMPACT_STRINGS)), .val (.int (v0_20 p0 p1 p2 p3 p4 p5 w0_COMPACT_STRINGS)), .val (.ref b16), .val (.ref b24), .unset, .unset, .unset] [])) _
            refine XS.iload X30.here hx rfl (hb hby at_217) rfl ?_
            show Steps p.tables e below (T30.setTop (mkF m 219 #[.val (.int p0), .val (.int p1), .val (.int p2), .val (.int p3), .val (.int p4), .val (.int p5), .val (.int (v0_1 p0 p1 p2 p3 p4 p5 w0_COMPACT_STRINGS)), .val (.int (v0_3 p0 p1 p2 p3 p4 p5 w0_COMPACT_STRINGS)), .val (.int (v0_4 p0 p1 p2 p3 p4 p5 w0_COMPACT_STRINGS)), .val (.int (v0_6 p0 p1 p2 p3 p4 p5 w0_COMPACT_STRINGS)), .val (.int (v0_7 p0 p1 p2 p3 p4 p5 w0_COMPACT_STRINGS)), .val (.int (v0_8 p0 p1 p2 p3 p4 p5 w0_COMPACT_STRINGS)), .val (.int (v0_16 p0 p1 p2 p3 p4 p5 w0_COMPACT_STRINGS)), .val (.int (v0_17 p0 p1 p2 p3 p4 p5 w0_COMPACT_STRINGS)), .val (.int (v0_18 p0 p1 p2 p3 p4 p5 w0_COMPACT_STRINGS)), .val (.int (v0_19 p0 p1 p2 p3 p4 p5 w0_COMPACT_STRINGS)), .val (.int (v0_20 p0 p1 p2 p3 p4 p5 w0_COMPACT_STRINGS)), .val (.ref b16), .val (.ref b24), .unset, .unset, .unset] [(.int (v0_4 p0 p1 p2 p3 p4 p5 w0_COMPACT_STRINGS))])) _
            refine XS.iload X30.here hx rfl (hb hby at_219) rfl ?_
            exact k
          by_cases c40 : (v0_4 p0 p1 p2 p3 p4 p5 w0_COMPACT_STRINGS) = (v0_19 p0 p1 p2 p3 p4 p5 w0_COMPACT_STRINGS)
          · skip
            have pre41 : ∀ t, Steps p.tables e below (T30.setTop (mkF m 228 #[.val (.int p0), .val (.int p1), .val (.int p2), .val (.int p3), .val (.int p4), .val (.int p5), .val (.int (v0_1 p0 p1 p2 p3 p4 p5 w0_COMPACT_STRINGS)), .val (.int (v0_3 p0 p1 p2 p3 p4 p5 w0_COMPACT_STRINGS)), .val (.int (v0_4 p0 p1 p2 p3 p4 p5 w0_COMPACT_STRINGS)), .val (.int (v0_6 p0 p1 p2 p3 p4 p5 w0_COMPACT_STRINGS)), .val (.int (v0_7 p0 p1 p2 p3 p4 p5 w0_COMPACT_STRINGS)), .val (.int (v0_8 p0 p1 p2 p3 p4 p5 w0_COMPACT_STRINGS)), .val (.int (v0_16 p0 p1 p2 p3 p4 p5 w0_COMPACT_STRINGS)), .val (.int (v0_17 p0 p1 p2 p3 p4 p5 w0_COMPACT_STRINGS)), .val (.int (v0_18 p0 p1 p2 p3 p4 p5 w0_COMPACT_STRINGS)), .val (.int (v0_19 p0 p1 p2 p3 p4 p5 w0_COMPACT_STRINGS)), .val (.int (v0_20 p0 p1 p2 p3 p4 p5 w0_COMPACT_STRINGS)), .val (.ref b16), .val (.ref b24), .unset, .unset, .unset] [(.int (v0_20 p0 p1 p2 p3 p4 p5 w0_COMPACT_STRINGS)), (.int (v0_6 p0 p1 p2 p3 p4 p5 w0_COMPACT_STRINGS))])) t → Steps p.tables e below (s₁.setTop (entryFrame m #[(.int p0), (.int p1), (.int p2), (.int p3), (.int p4), (.int p5)] maxLocals)) t := by
              intro t k
              refine pre39 t ?_
              show Steps p.tables e below (T30.setTop (mkF m 221 #[.val (.int p0), .val (.int p1), .val (.int p2), .val (.int p3), .val (.int p4), .val (.int p5), .val (.int (v0_1 p0 p1 p2 p3 p4 p5 w0_COMPACT_STRINGS)), .val (.int (v0_3 p0 p1 p2 p3 p4 p5 w0_COMPACT_STRINGS)), .val (.int (v0_4 p0 p1 p2 p3 p4 p5 w0_COMPACT_STRINGS)), .val (.int (v0_6 p0 p1 p2 p3 p4 p5 w0_COMPACT_STRINGS)), .val (.int (v0_7 p0 p1 p2 p3 p4 p5 w0_COMPACT_STRINGS)), .val (.int (v0_8 p0 p1 p2 p3 p4 p5 w0_COMPACT_STRINGS)), .val (.int (v0_16 p0 p1 p2 p3 p4 p5 w0_COMPACT_STRINGS)), .val (.int (v0_17 p0 p1 p2 p3 p4 p5 w0_COMPACT_STRINGS)), .val (.int (v0_18 p0 p1 p2 p3 p4 p5 w0_COMPACT_STRINGS)), .val (.int (v0_19 p0 p1 p2 p3 p4 p5 w0_COMPACT_STRINGS)), .val (.int (v0_20 p0 p1 p2 p3 p4 p5 w0_COMPACT_STRINGS)), .val (.ref b16), .val (.ref b24), .unset, .unset, .unset] [(.int (v0_19 p0 p1 p2 p3 p4 p5 w0_COMPACT_STRINGS)), (.int (v0_4 p0 p1 p2 p3 p4 p5 w0_COMPACT_STRINGS))])) _
              refine XS.icmpNo X30.here hx rfl (hb hby at_221) rfl (XT.ii_ne_f c40) ?_
              show Steps p.tables e below (T30.setTop (mkF m 224 #[.val (.int p0), .val (.int p1), .val (.int p2), .val (.int p3), .val (.int p4), .val (.int p5), .val (.int (v0_1 p0 p1 p2 p3 p4 p5 w0_COMPACT_STRINGS)), .val (.int (v0_3 p0 p1 p2 p3 p4 p5 w0_COMPACT_STRINGS)), .val (.int (v0_4 p0 p1 p2 p3 p4 p5 w0_COMPACT_STRINGS)), .val (.int (v0_6 p0 p1 p2 p3 p4 p5 w0_COMPACT_STRINGS)), .val (.int (v0_7 p0 p1 p2 p3 p4 p5 w0_COMPACT_STRINGS)), .val (.int (v0_8 p0 p1 p2 p3 p4 p5 w0_COMPACT_STRINGS)), .val (.int (v0_16 p0 p1 p2 p3 p4 p5 w0_COMPACT_STRINGS)), .val (.int (v0_17 p0 p1 p2 p3 p4 p5 w0_COMPACT_STRINGS)), .val (.int (v0_18 p0 p1 p2 p3 p4 p5 w0_COMPACT_STRINGS)), .val (.int (v0_19 p0 p1 p2 p3 p4 p5 w0_COMPACT_STRINGS)), .val (.int (v0_20 p0 p1 p2 p3 p4 p5 w0_COMPACT_STRINGS)), .val (.ref b16), .val (.ref b24), .unset, .unset, .unset] [])) _
              refine XS.iload X30.here hx rfl (hb hby at_224) rfl ?_
              show Steps p.tables e below (T30.setTop (mkF m 226 #[.val (.int p0), .val (.int p1), .val (.int p2), .val (.int p3), .val (.int p4), .val (.int p5), .val (.int (v0_1 p0 p1 p2 p3 p4 p5 w0_COMPACT_STRINGS)), .val (.int (v0_3 p0 p1 p2 p3 p4 p5 w0_COMPACT_STRINGS)), .val (.int (v0_4 p0 p1 p2 p3 p4 p5 w0_COMPACT_STRINGS)), .val (.int (v0_6 p0 p1 p2 p3 p4 p5 w0_COMPACT_STRINGS)), .val (.int (v0_7 p0 p1 p2 p3 p4 p5 w0_COMPACT_STRINGS)), .val (.int (v0_8 p0 p1 p2 p3 p4 p5 w0_COMPACT_STRINGS)), .val (.int (v0_16 p0 p1 p2 p3 p4 p5 w0_COMPACT_STRINGS)), .val (.int (v0_17 p0 p1 p2 p3 p4 p5 w0_COMPACT_STRINGS)), .val (.int (v0_18 p0 p1 p2 p3 p4 p5 w0_COMPACT_STRINGS)), .val (.int (v0_19 p0 p1 p2 p3 p4 p5 w0_COMPACT_STRINGS)), .val (.int (v0_20 p0 p1 p2 p3 p4 p5 w0_COMPACT_STRINGS)), .val (.ref b16), .val (.ref b24), .unset, .unset, .unset] [(.int (v0_6 p0 p1 p2 p3 p4 p5 w0_COMPACT_STRINGS))])) _
              refine XS.iload X30.here hx rfl (hb hby at_226) rfl ?_
              exact k
            by_cases c42 : (v0_6 p0 p1 p2 p3 p4 p5 w0_COMPACT_STRINGS) = (v0_20 p0 p1 p2 p3 p4 p5 w0_COMPACT_STRINGS)
            · skip
              rw [show (v0_21 p0 p1 p2 p3 p4 p5 w0_COMPACT_STRINGS) = (1 : Int32) from (((((if_pos c34).trans (if_pos c36)).trans (if_pos c38)).trans (if_pos c40)).trans (if_pos c42))] at k
              refine pre41 t ?_
              show Steps p.tables e below (T30.setTop (mkF m 228 #[.val (.int p0), .val (.int p1), .val (.int p2), .val (.int p3), .val (.int p4), .val (.int p5), .val (.int (v0_1 p0 p1 p2 p3 p4 p5 w0_COMPACT_STRINGS)), .val (.int (v0_3 p0 p1 p2 p3 p4 p5 w0_COMPACT_STRINGS)), .val (.int (v0_4 p0 p1 p2 p3 p4 p5 w0_COMPACT_STRINGS)), .val (.int (v0_6 p0 p1 p2 p3 p4 p5 w0_COMPACT_STRINGS)), .val (.int (v0_7 p0 p1 p2 p3 p4 p5 w0_COMPACT_STRINGS)), .val (.int (v0_8 p0 p1 p2 p3 p4 p5 w0_COMPACT_STRINGS)), .val (.int (v0_16 p0 p1 p2 p3 p4 p5 w0_COMPACT_STRINGS)), .val (.int (v0_17 p0 p1 p2 p3 p4 p5 w0_COMPACT_STRINGS)), .val (.int (v0_18 p0 p1 p2 p3 p4 p5 w0_COMPACT_STRINGS)), .val (.int (v0_19 p0 p1 p2 p3 p4 p5 w0_COMPACT_STRINGS)), .val (.int (v0_20 p0 p1 p2 p3 p4 p5 w0_COMPACT_STRINGS)), .val (.ref b16), .val (.ref b24), .unset, .unset, .unset] [(.int (v0_20 p0 p1 p2 p3 p4 p5 w0_COMPACT_STRINGS)), (.int (v0_6 p0 p1 p2 p3 p4 p5 w0_COMPACT_STRINGS))])) _
              refine XS.icmpNo X30.here hx rfl (hb hby at_228) rfl (XT.ii_ne_f c42) ?_
              show Steps p.tables e below (T30.setTop (mkF m 231 #[.val (.int p0), .val (.int p1), .val (.int p2), .val (.int p3), .val (.int p4), .val (.int p5), .val (.int (v0_1 p0 p1 p2 p3 p4 p5 w0_COMPACT_STRINGS)), .val (.int (v0_3 p0 p1 p2 p3 p4 p5 w0_COMPACT_STRINGS)), .val (.int (v0_4 p0 p1 p2 p3 p4 p5 w0_COMPACT_STRINGS)), .val (.int (v0_6 p0 p1 p2 p3 p4 p5 w0_COMPACT_STRINGS)), .val (.int (v0_7 p0 p1 p2 p3 p4 p5 w0_COMPACT_STRINGS)), .val (.int (v0_8 p0 p1 p2 p3 p4 p5 w0_COMPACT_STRINGS)), .val (.int (v0_16 p0 p1 p2 p3 p4 p5 w0_COMPACT_STRINGS)), .val (.int (v0_17 p0 p1 p2 p3 p4 p5 w0_COMPACT_STRINGS)), .val (.int (v0_18 p0 p1 p2 p3 p4 p5 w0_COMPACT_STRINGS)), .val (.int (v0_19 p0 p1 p2 p3 p4 p5 w0_COMPACT_STRINGS)), .val (.int (v0_20 p0 p1 p2 p3 p4 p5 w0_COMPACT_STRINGS)), .val (.ref b16), .val (.ref b24), .unset, .unset, .unset] [])) _
              refine XT.iconstV X30.here hx rfl (1 : Int32) (hb hby at_231) (by decide) ?_
              show Steps p.tables e below (T30.setTop (mkF m 232 #[.val (.int p0), .val (.int p1), .val (.int p2), .val (.int p3), .val (.int p4), .val (.int p5), .val (.int (v0_1 p0 p1 p2 p3 p4 p5 w0_COMPACT_STRINGS)), .val (.int (v0_3 p0 p1 p2 p3 p4 p5 w0_COMPACT_STRINGS)), .val (.int (v0_4 p0 p1 p2 p3 p4 p5 w0_COMPACT_STRINGS)), .val (.int (v0_6 p0 p1 p2 p3 p4 p5 w0_COMPACT_STRINGS)), .val (.int (v0_7 p0 p1 p2 p3 p4 p5 w0_COMPACT_STRINGS)), .val (.int (v0_8 p0 p1 p2 p3 p4 p5 w0_COMPACT_STRINGS)), .val (.int (v0_16 p0 p1 p2 p3 p4 p5 w0_COMPACT_STRINGS)), .val (.int (v0_17 p0 p1 p2 p3 p4 p5 w0_COMPACT_STRINGS)), .val (.int (v0_18 p0 p1 p2 p3 p4 p5 w0_COMPACT_STRINGS)), .val (.int (v0_19 p0 p1 p2 p3 p4 p5 w0_COMPACT_STRINGS)), .val (.int (v0_20 p0 p1 p2 p3 p4 p5 w0_COMPACT_STRINGS)), .val (.ref b16), .val (.ref b24), .unset, .unset, .unset] [(.int (1 : Int32))])) _
              refine XS.goto X30.here hx rfl (pc0 := 232) (pc' := 236) rfl (hb hby at_232) (by decide) (by decide) ?_
              exact k
            · skip
              rw [show (v0_21 p0 p1 p2 p3 p4 p5 w0_COMPACT_STRINGS) = (0 : Int32) from (((((if_pos c34).trans (if_pos c36)).trans (if_pos c38)).trans (if_pos c40)).trans (if_neg c42))] at k
              refine pre41 t ?_
              show Steps p.tables e below (T30.setTop (mkF m 228 #[.val (.int p0), .val (.int p1), .val (.int p2), .val (.int p3), .val (.int p4), .val (.int p5), .val (.int (v0_1 p0 p1 p2 p3 p4 p5 w0_COMPACT_STRINGS)), .val (.int (v0_3 p0 p1 p2 p3 p4 p5 w0_COMPACT_STRINGS)), .val (.int (v0_4 p0 p1 p2 p3 p4 p5 w0_COMPACT_STRINGS)), .val (.int (v0_6 p0 p1 p2 p3 p4 p5 w0_COMPACT_STRINGS)), .val (.int (v0_7 p0 p1 p2 p3 p4 p5 w0_COMPACT_STRINGS)), .val (.int (v0_8 p0 p1 p2 p3 p4 p5 w0_COMPACT_STRINGS)), .val (.int (v0_16 p0 p1 p2 p3 p4 p5 w0_COMPACT_STRINGS)), .val (.int (v0_17 p0 p1 p2 p3 p4 p5 w0_COMPACT_STRINGS)), .val (.int (v0_18 p0 p1 p2 p3 p4 p5 w0_COMPACT_STRINGS)), .val (.int (v0_19 p0 p1 p2 p3 p4 p5 w0_COMPACT_STRINGS)), .val (.int (v0_20 p0 p1 p2 p3 p4 p5 w0_COMPACT_STRINGS)), .val (.ref b16), .val (.ref b24), .unset, .unset, .unset] [(.int (v0_20 p0 p1 p2 p3 p4 p5 w0_COMPACT_STRINGS)), (.int (v0_6 p0 p1 p2 p3 p4 p5 w0_COMPACT_STRINGS))])) _
              refine XS.icmpYes X30.here hx rfl (pc0 := 228) (pc' := 235) rfl (hb hby at_228) rfl (XT.ii_ne_t c42) (by decide) (by decide) ?_
              show Steps p.tables e below (T30.setTop (mkF m 235 #[.val (.int p0), .val (.int p1), .val (.int p2), .val (.int p3), .val (.int p4), .val (.int p5), .val (.int (v0_1 p0 p1 p2 p3 p4 p5 w0_COMPACT_STRINGS)), .val (.int (v0_3 p0 p1 p2 p3 p4 p5 w0_COMPACT_STRINGS)), .val (.int (v0_4 p0 p1 p2 p3 p4 p5 w0_COMPACT_STRINGS)), .val (.int (v0_6 p0 p1 p2 p3 p4 p5 w0_COMPACT_STRINGS)), .val (.int (v0_7 p0 p1 p2 p3 p4 p5 w0_COMPACT_STRINGS)), .val (.int (v0_8 p0 p1 p2 p3 p4 p5 w0_COMPACT_STRINGS)), .val (.int (v0_16 p0 p1 p2 p3 p4 p5 w0_COMPACT_STRINGS)), .val (.int (v0_17 p0 p1 p2 p3 p4 p5 w0_COMPACT_STRINGS)), .val (.int (v0_18 p0 p1 p2 p3 p4 p5 w0_COMPACT_STRINGS)), .val (.int (v0_19 p0 p1 p2 p3 p4 p5 w0_COMPACT_STRINGS)), .val (.int (v0_20 p0 p1 p2 p3 p4 p5 w0_COMPACT_STRINGS)), .val (.ref b16), .val (.ref b24), .unset, .unset, .unset] [])) _
              refine XT.iconstV X30.here hx rfl (0 : Int32) (hb hby at_235) (by decide) ?_
              exact k
          · skip
            rw [show (v0_21 p0 p1 p2 p3 p4 p5 w0_COMPACT_STRINGS) = (0 : Int32) from ((((if_pos c34).trans (if_pos c36)).trans (if_pos c38)).trans (if_neg c40))] at k
            refine pre39 t ?_
            show Steps p.tables e below (T30.setTop (mkF m 221 #[.val (.int p0), .val (.int p1), .val (.int p2), .val (.int p3), .val (.int p4), .val (.int p5), .val (.int (v0_1 p0 p1 p2 p3 p4 p5 w0_COMPACT_STRINGS)), .val (.int (v0_3 p0 p1 p2 p3 p4 p5 w0_COMPACT_STRINGS)), .val (.int (v0_4 p0 p1 p2 p3 p4 p5 w0_COMPACT_STRINGS)), .val (.int (v0_6 p0 p1 p2 p3 p4 p5 w0_COMPACT_STRINGS)), .val (.int (v0_7 p0 p1 p2 p3 p4 p5 w0_COMPACT_STRINGS)), .val (.int (v0_8 p0 p1 p2 p3 p4 p5 w0_COMPACT_STRINGS)), .val (.int (v0_16 p0 p1 p2 p3 p4 p5 w0_COMPACT_STRINGS)), .val (.int (v0_17 p0 p1 p2 p3 p4 p5 w0_COMPACT_STRINGS)), .val (.int (v0_18 p0 p1 p2 p3 p4 p5 w0_COMPACT_STRINGS)), .val (.int (v0_19 p0 p1 p2 p3 p4 p5 w0_COMPACT_STRINGS)), .val (.int (v0_20 p0 p1 p2 p3 p4 p5 w0_COMPACT_STRINGS)), .val (.ref b16), .val (.ref b24), .unset, .unset, .unset] [(.int (v0_19 p0 p1 p2 p3 p4 p5 w0_COMPACT_STRINGS)), (.int (v0_4 p0 p1 p2 p3 p4 p5 w0_COMPACT_STRINGS))])) _
            refine XS.icmpYes X30.here hx rfl (pc0 := 221) (pc' := 235) rfl (hb hby at_221) rfl (XT.ii_ne_t c40) (by decide) (by decide) ?_
            show Steps p.tables e below (T30.setTop (mkF m 235 #[.val (.int p0), .val (.int p1), .val (.int p2), .val (.int p3), .val (.int p4), .val (.int p5), .val (.int (v0_1 p0 p1 p2 p3 p4 p5 w0_COMPACT_STRINGS)), .val (.int (v0_3 p0 p1 p2 p3 p4 p5 w0_COMPACT_STRINGS)), .val (.int (v0_4 p0 p1 p2 p3 p4 p5 w0_COMPACT_STRINGS)), .val (.int (v0_6 p0 p1 p2 p3 p4 p5 w0_COMPACT_STRINGS)), .val (.int (v0_7 p0 p1 p2 p3 p4 p5 w0_COMPACT_STRINGS)), .val (.int (v0_8 p0 p1 p2 p3 p4 p5 w0_COMPACT_STRINGS)), .val (.int (v0_16 p0 p1 p2 p3 p4 p5 w0_COMPACT_STRINGS)), .val (.int (v0_17 p0 p1 p2 p3 p4 p5 w0_COMPACT_STRINGS)), .val (.int (v0_18 p0 p1 p2 p3 p4 p5 w0_COMPACT_STRINGS)), .val (.int (v0_19 p0 p1 p2 p3 p4 p5 w0_COMPACT_STRINGS)), .val (.int (v0_20 p0 p1 p2 p3 p4 p5 w0_COMPACT_STRINGS)), .val (.ref b16), .val (.ref b24), .unset, .unset, .unset] [])) _
            refine XT.iconstV X30.here hx rfl (0 : Int32) (hb hby at_235) (by decide) ?_
            exact k
        · skip
          rw [show (v0_21 p0 p1 p2 p3 p4 p5 w0_COMPACT_STRINGS) = (0 : Int32) from (((if_pos c34).trans (if_pos c36)).trans (if_neg c38))] at k
          refine pre37 t ?_
          show Steps p.tables e below (T30.setTop (mkF m 214 #[.val (.int p0), .val (.int p1), .val (.int p2), .val (.int p3), .val (.int p4), .val (.int p5), .val (.int (v0_1 p0 p1 p2 p3 p4 p5 w0_COMPACT_STRINGS)), .val (.int (v0_3 p0 p1 p2 p3 p4 p5 w0_COMPACT_STRINGS)), .val (.int (v0_4 p0 p1 p2 p3 p4 p5 w0_COMPACT_STRINGS)), .val (.int (v0_6 p0 p1 p2 p3 p4 p5 w0_COMPACT_STRINGS)), .val (.int (v0_7 p0 p1 p2 p3 p4 p5 w0_COMPACT_STRINGS)), .val (.int (v0_8 p0 p1 p2 p3 p4 p5 w0_COMPACT_STRINGS)), .val (.int (v0_16 p0 p1 p2 p3 p4 p5 w0_COMPACT_STRINGS)), .val (.int (v0_17 p0 p1 p2 p3 p4 p5 w0_COMPACT_STRINGS)), .val (.int (v0_18 p0 p1 p2 p3 p4 p5 w0_COMPACT_STRINGS)), .val (.int (v0_19 p0 p1 p2 p3 p4 p5 w0_COMPACT_STRINGS)), .val (.int (v0_20 p0 p1 p2 p3 p4 p5 w0_COMPACT_STRINGS)), .val (.ref b16), .val (.ref b24), .unset, .unset, .unset] [(.int (v0_18 p0 p1 p2 p3 p4 p5 w0_COMPACT_STRINGS)), (.int p2)])) _
          refine XS.icmpYes X30.here hx rfl (pc0 := 214) (pc' := 235) rfl (hb hby at_214) rfl (XT.ii_ne_t c38) (by decide) (by decide) ?_
          show Steps p.tables e below (T30.setTop (mkF m 235 #[.val (.int p0), .val (.int p1), .val (.int p2), .val (.int p3), .val (.int p4), .val (.int p5), .val (.int (v0_1 p0 p1 p2 p3 p4 p5 w0_COMPACT_STRINGS)), .val (.int (v0_3 p0 p1 p2 p3 p4 p5 w0_COMPACT_STRINGS)), .val (.int (v0_4 p0 p1 p2 p3 p4 p5 w0_COMPACT_STRINGS)), .val (.int (v0_6 p0 p1 p2 p3 p4 p5 w0_COMPACT_STRINGS)), .val (.int (v0_7 p0 p1 p2 p3 p4 p5 w0_COMPACT_STRINGS)), .val (.int (v0_8 p0 p1 p2 p3 p4 p5 w0_COMPACT_STRINGS)), .val (.int (v0_16 p0 p1 p2 p3 p4 p5 w0_COMPACT_STRINGS)), .val (.int (v0_17 p0 p1 p2 p3 p4 p5 w0_COMPACT_STRINGS)), .val (.int (v0_18 p0 p1 p2 p3 p4 p5 w0_COMPACT_STRINGS)), .val (.int (v0_19 p0 p1 p2 p3 p4 p5 w0_COMPACT_STRINGS)), .val (.int (v0_20 p0 p1 p2 p3 p4 p5 w0_COMPACT_STRINGS)), .val (.ref b16), .val (.ref b24), .unset, .unset, .unset] [])) _
          refine XT.iconstV X30.here hx rfl (0 : Int32) (hb hby at_235) (by decide) ?_
          exact k
      · skip
        rw [show (v0_21 p0 p1 p2 p3 p4 p5 w0_COMPACT_STRINGS) = (0 : Int32) from ((if_pos c34).trans (if_neg c36))] at k
        refine pre35 t ?_
        show Steps p.tables e below (T30.setTop (mkF m 208 #[.val (.int p0), .val (.int p1), .val (.int p2), .val (.int p3), .val (.int p4), .val (.int p5), .val (.int (v0_1 p0 p1 p2 p3 p4 p5 w0_COMPACT_STRINGS)), .val (.int (v0_3 p0 p1 p2 p3 p4 p5 w0_COMPACT_STRINGS)), .val (.int (v0_4 p0 p1 p2 p3 p4 p5 w0_COMPACT_STRINGS)), .val (.int (v0_6 p0 p1 p2 p3 p4 p5 w0_COMPACT_STRINGS)), .val (.int (v0_7 p0 p1 p2 p3 p4 p5 w0_COMPACT_STRINGS)), .val (.int (v0_8 p0 p1 p2 p3 p4 p5 w0_COMPACT_STRINGS)), .val (.int (v0_16 p0 p1 p2 p3 p4 p5 w0_COMPACT_STRINGS)), .val (.int (v0_17 p0 p1 p2 p3 p4 p5 w0_COMPACT_STRINGS)), .val (.int (v0_18 p0 p1 p2 p3 p4 p5 w0_COMPACT_STRINGS)), .val (.int (v0_19 p0 p1 p2 p3 p4 p5 w0_COMPACT_STRINGS)), .val (.int (v0_20 p0 p1 p2 p3 p4 p5 w0_COMPACT_STRINGS)), .val (.ref b16), .val (.ref b24), .unset, .unset, .unset] [(.int (v0_17 p0 p1 p2 p3 p4 p5 w0_COMPACT_STRINGS)), (.int (v0_3 p0 p1 p2 p3 p4 p5 w0_COMPACT_STRINGS))])) _
        refine XS.icmpYes X30.here hx rfl (pc0 := 208) (pc' := 235) rfl (hb hby at_208) rfl (XT.ii_ne_t c36) (by decide) (by decide) ?_
        show Steps p.tables e below (T30.setTop (mkF m 235 #[.val (.int p0), .val (.int p1), .val (.int p2), .val (.int p3), .val (.int p4), .val (.int p5), .val (.int (v0_1 p0 p1 p2 p3 p4 p5 w0_COMPACT_STRINGS)), .val (.int (v0_3 p0 p1 p2 p3 p4 p5 w0_COMPACT_STRINGS)), .val (.int (v0_4 p0 p1 p2 p3 p4 p5 w0_COMPACT_STRINGS)), .val (.int (v0_6 p0 p1 p2 p3 p4 p5 w0_COMPACT_STRINGS)), .val (.int (v0_7 p0 p1 p2 p3 p4 p5 w0_COMPACT_STRINGS)), .val (.int (v0_8 p0 p1 p2 p3 p4 p5 w0_COMPACT_STRINGS)), .val (.int (v0_16 p0 p1 p2 p3 p4 p5 w0_COMPACT_STRINGS)), .val (.int (v0_17 p0 p1 p2 p3 p4 p5 w0_COMPACT_STRINGS)), .val (.int (v0_18 p0 p1 p2 p3 p4 p5 w0_COMPACT_STRINGS)), .val (.int (v0_19 p0 p1 p2 p3 p4 p5 w0_COMPACT_STRINGS)), .val (.int (v0_20 p0 p1 p2 p3 p4 p5 w0_COMPACT_STRINGS)), .val (.ref b16), .val (.ref b24), .unset, .unset, .unset] [])) _
        refine XT.iconstV X30.here hx rfl (0 : Int32) (hb hby at_235) (by decide) ?_
        exact k
    · skip
      rw [show (v0_21 p0 p1 p2 p3 p4 p5 w0_COMPACT_STRINGS) = (0 : Int32) from (if_neg c34)] at k
      refine pre33 t ?_
      show Steps p.tables e below (T30.setTop (mkF m 201 #[.val (.int p0), .val (.int p1), .val (.int p2), .val (.int p3), .val (.int p4), .val (.int p5), .val (.int (v0_1 p0 p1 p2 p3 p4 p5 w0_COMPACT_STRINGS)), .val (.int (v0_3 p0 p1 p2 p3 p4 p5 w0_COMPACT_STRINGS)), .val (.int (v0_4 p0 p1 p2 p3 p4 p5 w0_COMPACT_STRINGS)), .val (.int (v0_6 p0 p1 p2 p3 p4 p5 w0_COMPACT_STRINGS)), .val (.int (v0_7 p0 p1 p2 p3 p4 p5 w0_COMPACT_STRINGS)), .val (.int (v0_8 p0 p1 p2 p3 p4 p5 w0_COMPACT_STRINGS)), .val (.int (v0_16 p0 p1 p2 p3 p4 p5 w0_COMPACT_STRINGS)), .val (.int (v0_17 p0 p1 p2 p3 p4 p5 w0_COMPACT_STRINGS)), .val (.int (v0_18 p0 p1 p2 p3 p4 p5 w0_COMPACT_STRINGS)), .val (.int (v0_19 p0 p1 p2 p3 p4 p5 w0_COMPACT_STRINGS)), .val (.int (v0_20 p0 p1 p2 p3 p4 p5 w0_COMPACT_STRINGS)), .val (.ref b16), .val (.ref b24), .unset, .unset, .unset] [(.int (v0_16 p0 p1 p2 p3 p4 p5 w0_COMPACT_STRINGS)), (.int (v0_1 p0 p1 p2 p3 p4 p5 w0_COMPACT_STRINGS))])) _
      refine XS.icmpYes X30.here hx rfl (pc0 := 201) (pc' := 235) rfl (hb hby at_201) rfl (XT.ii_ne_t c34) (by decide) (by decide) ?_
      show Steps p.tables e below (T30.setTop (mkF m 235 #[.val (.int p0), .val (.int p1), .val (.int p2), .val (.int p3), .val (.int p4), .val (.int p5), .val (.int (v0_1 p0 p1 p2 p3 p4 p5 w0_COMPACT_STRINGS)), .val (.int (v0_3 p0 p1 p2 p3 p4 p5 w0_COMPACT_STRINGS)), .val (.int (v0_4 p0 p1 p2 p3 p4 p5 w0_COMPACT_STRINGS)), .val (.int (v0_6 p0 p1 p2 p3 p4 p5 w0_COMPACT_STRINGS)), .val (.int (v0_7 p0 p1 p2 p3 p4 p5 w0_COMPACT_STRINGS)), .val (.int (v0_8 p0 p1 p2 p3 p4 p5 w0_COMPACT_STRINGS)), .val (.int (v0_16 p0 p1 p2 p3 p4 p5 w0_COMPACT_STRINGS)), .val (.int (v0_17 p0 p1 p2 p3 p4 p5 w0_COMPACT_STRINGS)), .val (.int (v0_18 p0 p1 p2 p3 p4 p5 w0_COMPACT_STRINGS)), .val (.int (v0_19 p0 p1 p2 p3 p4 p5 w0_COMPACT_STRINGS)), .val (.int (v0_20 p0 p1 p2 p3 p4 p5 w0_COMPACT_STRINGS)), .val (.ref b16), .val (.ref b24), .unset, .unset, .unset] [])) _
      refine XT.iconstV X30.here hx rfl (0 : Int32) (hb hby at_235) (by decide) ?_
      exact k
  have pre44 : ∀ t, Steps p.tables e below (T30.setTop (mkF m 242 #[.val (.int p0), .val (.int p1), .val (.int p2), .val (.int p3), .val (.int p4), .val (.int p5), .val (.int (v0_1 p0 p1 p2 p3 p4 p5 w0_COMPACT_STRINGS)), .val (.int (v0_3 p0 p1 p2 p3 p4 p5 w0_COMPACT_STRINGS)), .val (.int (v0_4 p0 p1 p2 p3 p4 p5 w0_COMPACT_STRINGS)), .val (.int (v0_6 p0 p1 p2 p3 p4 p5 w0_COMPACT_STRINGS)), .val (.int (v0_7 p0 p1 p2 p3 p4 p5 w0_COMPACT_STRINGS)), .val (.int (v0_8 p0 p1 p2 p3 p4 p5 w0_COMPACT_STRINGS)), .val (.int (v0_16 p0 p1 p2 p3 p4 p5 w0_COMPACT_STRINGS)), .val (.int (v0_17 p0 p1 p2 p3 p4 p5 w0_COMPACT_STRINGS)), .val (.int (v0_18 p0 p1 p2 p3 p4 p5 w0_COMPACT_STRINGS)), .val (.int (v0_19 p0 p1 p2 p3 p4 p5 w0_COMPACT_STRINGS)), .val (.int (v0_20 p0 p1 p2 p3 p4 p5 w0_COMPACT_STRINGS)), .val (.ref b16), .val (.ref b24), .val (.int (v0_21 p0 p1 p2 p3 p4 p5 w0_COMPACT_STRINGS)), .unset, .unset] [(.int (6 : Int32)), (.int (v0_7 p0 p1 p2 p3 p4 p5 w0_COMPACT_STRINGS))])) t → Steps p.tables e below (s₁.setTop (entryFrame m #[(.int p0), (.int p1), (.int p2), (.int p3), (.int p4), (.int p5)] maxLocals)) t := by
    intro t k
    refine pre43 t ?_
    show Steps p.tables e below (T30.setTop (mkF m 236 #[.val (.int p0), .val (.int p1), .val (.int p2), .val (.int p3), .val (.int p4), .val (.int p5), .val (.int (v0_1 p0 p1 p2 p3 p4 p5 w0_COMPACT_STRINGS)), .val (.int (v0_3 p0 p1 p2 p3 p4 p5 w0_COMPACT_STRINGS)), .val (.int (v0_4 p0 p1 p2 p3 p4 p5 w0_COMPACT_STRINGS)), .val (.int (v0_6 p0 p1 p2 p3 p4 p5 w0_COMPACT_STRINGS)), .val (.int (v0_7 p0 p1 p2 p3 p4 p5 w0_COMPACT_STRINGS)), .val (.int (v0_8 p0 p1 p2 p3 p4 p5 w0_COMPACT_STRINGS)), .val (.int (v0_16 p0 p1 p2 p3 p4 p5 w0_COMPACT_STRINGS)), .val (.int (v0_17 p0 p1 p2 p3 p4 p5 w0_COMPACT_STRINGS)), .val (.int (v0_18 p0 p1 p2 p3 p4 p5 w0_COMPACT_STRINGS)), .val (.int (v0_19 p0 p1 p2 p3 p4 p5 w0_COMPACT_STRINGS)), .val (.int (v0_20 p0 p1 p2 p3 p4 p5 w0_COMPACT_STRINGS)), .val (.ref b16), .val (.ref b24), .unset, .unset, .unset] [(.int (v0_21 p0 p1 p2 p3 p4 p5 w0_COMPACT_STRINGS))])) _
    refine XS.istore X30.here hx rfl (hb hby at_236) rfl (l' := #[.val (.int p0), .val (.int p1), .val (.int p2), .val (.int p3), .val (.int p4), .val (.int p5), .val (.int (v0_1 p0 p1 p2 p3 p4 p5 w0_COMPACT_STRINGS)), .val (.int (v0_3 p0 p1 p2 p3 p4 p5 w0_COMPACT_STRINGS)), .val (.int (v0_4 p0 p1 p2 p3 p4 p5 w0_COMPACT_STRINGS)), .val (.int (v0_6 p0 p1 p2 p3 p4 p5 w0_COMPACT_STRINGS)), .val (.int (v0_7 p0 p1 p2 p3 p4 p5 w0_COMPACT_STRINGS)), .val (.int (v0_8 p0 p1 p2 p3 p4 p5 w0_COMPACT_STRINGS)), .val (.int (v0_16 p0 p1 p2 p3 p4 p5 w0_COMPACT_STRINGS)), .val (.int (v0_17 p0 p1 p2 p3 p4 p5 w0_COMPACT_STRINGS)), .val (.int (v0_18 p0 p1 p2 p3 p4 p5 w0_COMPACT_STRINGS)), .val (.int (v0_19 p0 p1 p2 p3 p4 p5 w0_COMPACT_STRINGS)), .val (.int (v0_20 p0 p1 p2 p3 p4 p5 w0_COMPACT_STRINGS)), .val (.ref b16), .val (.ref b24), .val (.int (v0_21 p0 p1 p2 p3 p4 p5 w0_COMPACT_STRINGS)), .unset, .unset]) rfl ?_
    show Steps p.tables e below (T30.setTop (mkF m 238 #[.val (.int p0), .val (.int p1), .val (.int p2), .val (.int p3), .val (.int p4), .val (.int p5), .val (.int (v0_1 p0 p1 p2 p3 p4 p5 w0_COMPACT_STRINGS)), .val (.int (v0_3 p0 p1 p2 p3 p4 p5 w0_COMPACT_STRINGS)), .val (.int (v0_4 p0 p1 p2 p3 p4 p5 w0_COMPACT_STRINGS)), .val (.int (v0_6 p0 p1 p2 p3 p4 p5 w0_COMPACT_STRINGS)), .val (.int (v0_7 p0 p1 p2 p3 p4 p5 w0_COMPACT_STRINGS)), .val (.int (v0_8 p0 p1 p2 p3 p4 p5 w0_COMPACT_STRINGS)), .val (.int (v0_16 p0 p1 p2 p3 p4 p5 w0_COMPACT_STRINGS)), .val (.int (v0_17 p0 p1 p2 p3 p4 p5 w0_COMPACT_STRINGS)), .val (.int (v0_18 p0 p1 p2 p3 p4 p5 w0_COMPACT_STRINGS)), .val (.int (v0_19 p0 p1 p2 p3 p4 p5 w0_COMPACT_STRINGS)), .val (.int (v0_20 p0 p1 p2 p3 p4 p5 w0_COMPACT_STRINGS)), .val (.ref b16), .val (.ref b24), .val (.int (v0_21 p0 p1 p2 p3 p4 p5 w0_COMPACT_STRINGS)), .unset, .unset] [])) _
    refine XS.iload X30.here hx rfl (hb hby at_238) rfl ?_
    show Steps p.tables e below (T30.setTop (mkF m 240 #[.val (.int p0), .val (.int p1), .val (.int p2), .val (.int p3), .val (.int p4), .val (.int p5), .val (.int (v0_1 p0 p1 p2 p3 p4 p5 w0_COMPACT_STRINGS)), .val (.int (v0_3 p0 p1 p2 p3 p4 p5 w0_COMPACT_STRINGS)), .val (.int (v0_4 p0 p1 p2 p3 p4 p5 w0_COMPACT_STRINGS)), .val (.int (v0_6 p0 p1 p2 p3 p4 p5 w0_COMPACT_STRINGS)), .val (.int (v0_7 p0 p1 p2 p3 p4 p5 w0_COMPACT_STRINGS)), .val (.int (v0_8 p0 p1 p2 p3 p4 p5 w0_COMPACT_STRINGS)), .val (.int (v0_16 p0 p1 p2 p3 p4 p5 w0_COMPACT_STRINGS)), .val (.int (v0_17 p0 p1 p2 p3 p4 p5 w0_COMPACT_STRINGS)), .val (.int (v0_18 p0 p1 p2 p3 p4 p5 w0_COMPACT_STRINGS)), .val (.int (v0_19 p0 p1 p2 p3 p4 p5 w0_COMPACT_STRINGS)), .val (.int (v0_20 p0 p1 p2 p3 p4 p5 w0_COMPACT_STRINGS)), .val (.ref b16), .val (.ref b24), .val (.int (v0_21 p0 p1 p2 p3 p4 p5 w0_COMPACT_STRINGS)), .unset, .unset] [(.int (v0_7 p0 p1 p2 p3 p4 p5 w0_COMPACT_STRINGS))])) _
    refine XT.bipushV X30.here hx rfl (6 : Int32) (hb hby at_240) (by decide) ?_
    exact k
  by_cases c45 : (v0_7 p0 p1 p2 p3 p4 p5 w0_COMPACT_STRINGS) = (6 : Int32)
  · skip
    have k47 := ((po21_0.ext E24).keep K30)
    obtain ⟨cq46, kq46, q46a, q46b, q46c⟩ := isOf hZ rfl k47
    obtain ⟨_, _, ⟨T46, L46, k46, n46⟩, -, X46, ⟨Lc46, hQ46, l46, y46, z46⟩, st46⟩ := X30.virtualBack hx (y := (⟨"com/example/vannus/vannus/Passage", "equals", "(Ljava/lang/Object;)Z"⟩ : MethodName)) (z := (⟨"com/example/vannus/vannus/Passage", "equals", "(Ljava/lang/Object;)Z"⟩ : MethodName)) hown (mvT hZ (hw _ (List.mem_of_getElem? (i := 24) rfl))) (mvT hZ (hw _ (List.mem_of_getElem? (i := 25) rfl))) (notFace_of_selects (args := #[]) (mvT hZ (hw _ (List.mem_of_getElem? (i := 27) rfl)))) (mvT hZ (hw _ (List.mem_of_getElem? (i := 27) rfl))) (mvT hZ (hw _ (List.mem_of_getElem? (i := 26) rfl))) (by decide) (backOf (W := 0) (rmeqN l Z a0 hw [] b16 T30.heap n0 z31) hZ (hw _ (List.mem_of_getElem? (i := 28) rfl)) (hw _ (List.mem_of_getElem? (i := 7) rfl)) (by decide) (by decide)) q46a q46c (g := (mkF m 248 #[.val (.int p0), .val (.int p1), .val (.int p2), .val (.int p3), .val (.int p4), .val (.int p5), .val (.int (v0_1 p0 p1 p2 p3 p4 p5 w0_COMPACT_STRINGS)), .val (.int (v0_3 p0 p1 p2 p3 p4 p5 w0_COMPACT_STRINGS)), .val (.int (v0_4 p0 p1 p2 p3 p4 p5 w0_COMPACT_STRINGS)), .val (.int (v0_6 p0 p1 p2 p3 p4 p5 w0_COMPACT_STRINGS)), .val (.int (v0_7 p0 p1 p2 p3 p4 p5 w0_COMPACT_STRINGS)), .val (.int (v0_8 p0 p1 p2 p3 p4 p5 w0_COMPACT_STRINGS)), .val (.int (v0_16 p0 p1 p2 p3 p4 p5 w0_COMPACT_STRINGS)), .val (.int (v0_17 p0 p1 p2 p3 p4 p5 w0_COMPACT_STRINGS)), .val (.int (v0_18 p0 p1 p2 p3 p4 p5 w0_COMPACT_STRINGS)), .val (.int (v0_19 p0 p1 p2 p3 p4 p5 w0_COMPACT_STRINGS)), .val (.int (v0_20 p0 p1 p2 p3 p4 p5 w0_COMPACT_STRINGS)), .val (.ref b16), .val (.ref b24), .val (.int (v0_21 p0 p1 p2 p3 p4 p5 w0_COMPACT_STRINGS)), .unset, .unset] [.null, (.ref b16)])) rfl (by rw [hml]; rfl) (Steps.refl _) (argsL := [.null]) (rest := []) (lenOf pd__Ljava_lang_Object__Z rfl) rfl (by show 2 * 0 + _ ≤ _; exact Nat.le_of_eq rfl) (hb hby at_248) (fun _ _ => ⟨rfl, rfl, (by decide : 2 + 0 ≤ _), (by decide : 10 + 0 ≤ _)⟩)
    dsimp only [Pt.U, Pt.locs, Pt.cells, Pt.slots] at X46 l46 y46 z46 st46 hQ46
    subst l46 y46 z46
    obtain ⟨N46q, rfl, e46⟩ := hQ46
    have N46 := Fr.app N30 N46q
    have pre48 : ∀ t, Steps p.tables e below (T46.setTop (mkF m 251 #[.val (.int p0), .val (.int p1), .val (.int p2), .val (.int p3), .val (.int p4), .val (.int p5), .val (.int (v0_1 p0 p1 p2 p3 p4 p5 w0_COMPACT_STRINGS)), .val (.int (v0_3 p0 p1 p2 p3 p4 p5 w0_COMPACT_STRINGS)), .val (.int (v0_4 p0 p1 p2 p3 p4 p5 w0_COMPACT_STRINGS)), .val (.int (v0_6 p0 p1 p2 p3 p4 p5 w0_COMPACT_STRINGS)), .val (.int (v0_7 p0 p1 p2 p3 p4 p5 w0_COMPACT_STRINGS)), .val (.int (v0_8 p0 p1 p2 p3 p4 p5 w0_COMPACT_STRINGS)), .val (.int (v0_16 p0 p1 p2 p3 p4 p5 w0_COMPACT_STRINGS)), .val (.int (v0_17 p0 p1 p2 p3 p4 p5 w0_COMPACT_STRINGS)), .val (.int (v0_18 p0 p1 p2 p3 p4 p5 w0_COMPACT_STRINGS)), .val (.int (v0_19 p0 p1 p2 p3 p4 p5 w0_COMPACT_STRINGS)), .val (.int (v0_20 p0 p1 p2 p3 p4 p5 w0_COMPACT_STRINGS)), .val (.ref b16), .val (.ref b24), .val (.int (v0_21 p0 p1 p2 p3 p4 p5 w0_COMPACT_STRINGS)), .unset, .unset] [(.int feqN)])) t → Steps p.tables e below (s₁.setTop (entryFrame m #[(.int p0), (.int p1), (.int p2), (.int p3), (.int p4), (.int p5)] maxLocals)) t := by
      intro t k
      refine pre44 t ?_
      show Steps p.tables e below (T30.setTop (mkF m 242 #[.val (.int p0), .val (.int p1), .val (.int p2), .val (.int p3), .val (.int p4), .val (.int p5), .val (.int (v0_1 p0 p1 p2 p3 p4 p5 w0_COMPACT_STRINGS)), .val (.int (v0_3 p0 p1 p2 p3 p4 p5 w0_COMPACT_STRINGS)), .val (.int (v0_4 p0 p1 p2 p3 p4 p5 w0_COMPACT_STRINGS)), .val (.int (v0_6 p0 p1 p2 p3 p4 p5 w0_COMPACT_STRINGS)), .val (.int (v0_7 p0 p1 p2 p3 p4 p5 w0_COMPACT_STRINGS)), .val (.int (v0_8 p0 p1 p2 p3 p4 p5 w0_COMPACT_STRINGS)), .val (.int (v0_16 p0 p1 p2 p3 p4 p5 w0_COMPACT_STRINGS)), .val (.int (v0_17 p0 p1 p2 p3 p4 p5 w0_COMPACT_STRINGS)), .val (.int (v0_18 p0 p1 p2 p3 p4 p5 w0_COMPACT_STRINGS)), .val (.int (v0_19 p0 p1 p2 p3 p4 p5 w0_COMPACT_STRINGS)), .val (.int (v0_20 p0 p1 p2 p3 p4 p5 w0_COMPACT_STRINGS)), .val (.ref b16), .val (.ref b24), .val (.int (v0_21 p0 p1 p2 p3 p4 p5 w0_COMPACT_STRINGS)), .unset, .unset] [(.int (6 : Int32)), (.int (v0_7 p0 p1 p2 p3 p4 p5 w0_COMPACT_STRINGS))])) _
      refine XS.icmpNo X30.here hx rfl (hb hby at_242) rfl (XT.ii_ne_f c45) ?_
      show Steps p.tables e below (T30.setTop (mkF m 245 #[.val (.int p0), .val (.int p1), .val (.int p2), .val (.int p3), .val (.int p4), .val (.int p5), .val (.int (v0_1 p0 p1 p2 p3 p4 p5 w0_COMPACT_STRINGS)), .val (.int (v0_3 p0 p1 p2 p3 p4 p5 w0_COMPACT_STRINGS)), .val (.int (v0_4 p0 p1 p2 p3 p4 p5 w0_COMPACT_STRINGS)), .val (.int (v0_6 p0 p1 p2 p3 p4 p5 w0_COMPACT_STRINGS)), .val (.int (v0_7 p0 p1 p2 p3 p4 p5 w0_COMPACT_STRINGS)), .val (.int (v0_8 p0 p1 p2 p3 p4 p5 w0_COMPACT_STRINGS)), .val (.int (v0_16 p0 p1 p2 p3 p4 p5 w0_COMPACT_STRINGS)), .val (.int (v0_17 p0 p1 p2 p3 p4 p5 w0_COMPACT_STRINGS)), .val (.int (v0_18 p0 p1 p2 p3 p4 p5 w0_COMPACT_STRINGS)), .val (.int (v0_19 p0 p1 p2 p3 p4 p5 w0_COMPACT_STRINGS)), .val (.int (v0_20 p0 p1 p2 p3 p4 p5 w0_COMPACT_STRINGS)), .val (.ref b16), .val (.ref b24), .val (.int (v0_21 p0 p1 p2 p3 p4 p5 w0_COMPACT_STRINGS)), .unset, .unset] [])) _
      refine XS.aload X30.here hx rfl (hb hby at_245) rfl rfl ?_
      show Steps p.tables e below (T30.setTop (mkF m 247 #[.val (.int p0), .val (.int p1), .val (.int p2), .val (.int p3), .val (.int p4), .val (.int p5), .val (.int (v0_1 p0 p1 p2 p3 p4 p5 w0_COMPACT_STRINGS)), .val (.int (v0_3 p0 p1 p2 p3 p4 p5 w0_COMPACT_STRINGS)), .val (.int (v0_4 p0 p1 p2 p3 p4 p5 w0_COMPACT_STRINGS)), .val (.int (v0_6 p0 p1 p2 p3 p4 p5 w0_COMPACT_STRINGS)), .val (.int (v0_7 p0 p1 p2 p3 p4 p5 w0_COMPACT_STRINGS)), .val (.int (v0_8 p0 p1 p2 p3 p4 p5 w0_COMPACT_STRINGS)), .val (.int (v0_16 p0 p1 p2 p3 p4 p5 w0_COMPACT_STRINGS)), .val (.int (v0_17 p0 p1 p2 p3 p4 p5 w0_COMPACT_STRINGS)), .val (.int (v0_18 p0 p1 p2 p3 p4 p5 w0_COMPACT_STRINGS)), .val (.int (v0_19 p0 p1 p2 p3 p4 p5 w0_COMPACT_STRINGS)), .val (.int (v0_20 p0 p1 p2 p3 p4 p5 w0_COMPACT_STRINGS)), .val (.ref b16), .val (.ref b24), .val (.int (v0_21 p0 p1 p2 p3 p4 p5 w0_COMPACT_STRINGS)), .unset, .unset] [(.ref b16)])) _
      refine XS.aconstNull X30.here hx rfl (hb hby at_247) ?_
      show Steps p.tables e below (T30.setTop (mkF m 248 #[.val (.int p0), .val (.int p1), .val (.int p2), .val (.int p3), .val (.int p4), .val (.int p5), .val (.int (v0_1 p0 p1 p2 p3 p4 p5 w0_COMPACT_STRINGS)), .val (.int (v0_3 p0 p1 p2 p3 p4 p5 w0_COMPACT_STRINGS)), .val (.int (v0_4 p0 p1 p2 p3 p4 p5 w0_COMPACT_STRINGS)), .val (.int (v0_6 p0 p1 p2 p3 p4 p5 w0_COMPACT_STRINGS)), .val (.int (v0_7 p0 p1 p2 p3 p4 p5 w0_COMPACT_STRINGS)), .val (.int (v0_8 p0 p1 p2 p3 p4 p5 w0_COMPACT_STRINGS)), .val (.int (v0_16 p0 p1 p2 p3 p4 p5 w0_COMPACT_STRINGS)), .val (.int (v0_17 p0 p1 p2 p3 p4 p5 w0_COMPACT_STRINGS)), .val (.int (v0_18 p0 p1 p2 p3 p4 p5 w0_COMPACT_STRINGS)), .val (.int (v0_19 p0 p1 p2 p3 p4 p5 w0_COMPACT_STRINGS)), .val (.int (v0_20 p0 p1 p2 p3 p4 p5 w0_COMPACT_STRINGS)), .val (.ref b16), .val (.ref b24), .val (.int (v0_21 p0 p1 p2 p3 p4 p5 w0_COMPACT_STRINGS)), .unset, .unset] [.null, (.ref b16)])) _
      refine st46.trans ?_
      exact k
    obtain ⟨T58, L58, X58, e58, N58, pre58⟩ : ∃ (T' : State) (L' : List Loc), Stand p l e room_1 s m #[(.int p0), (.int p1), (.int p2), (.int p3), (.int p4), (.int p5)] below meth c T' L' 2 10 ∧ T'.heap = T30.heap ∧ Fr n0 L' ∧ ∀ t, Steps p.tables e below (T'.setTop (mkF m 269 #[.val (.int p0), .val (.int p1), .val (.int p2), .val (.int p3), .val (.int p4), .val (.int p5), .val (.int (v0_1 p0 p1 p2 p3 p4 p5 w0_COMPACT_STRINGS)), .val (.int (v0_3 p0 p1 p2 p3 p4 p5 w0_COMPACT_STRINGS)), .val (.int (v0_4 p0 p1 p2 p3 p4 p5 w0_COMPACT_STRINGS)), .val (.int (v0_6 p0 p1 p2 p3 p4 p5 w0_COMPACT_STRINGS)), .val (.int (v0_7 p0 p1 p2 p3 p4 p5 w0_COMPACT_STRINGS)), .val (.int (v0_8 p0 p1 p2 p3 p4 p5 w0_COMPACT_STRINGS)), .val (.int (v0_16 p0 p1 p2 p3 p4 p5 w0_COMPACT_STRINGS)), .val (.int (v0_17 p0 p1 p2 p3 p4 p5 w0_COMPACT_STRINGS)), .val (.int (v0_18 p0 p1 p2 p3 p4 p5 w0_COMPACT_STRINGS)), .val (.int (v0_19 p0 p1 p2 p3 p4 p5 w0_COMPACT_STRINGS)), .val (.int (v0_20 p0 p1 p2 p3 p4 p5 w0_COMPACT_STRINGS)), .val (.ref b16), .val (.ref b24), .val (.int (v0_21 p0 p1 p2 p3 p4 p5 w0_COMPACT_STRINGS)), .unset, .unset] [(.int (v0_23 p0 p1 p2 p3 p4 p5 w0_COMPACT_STRINGS))])) t → Steps p.tables e below (s₁.setTop (entryFrame m #[(.int p0), (.int p1), (.int p2), (.int p3), (.int p4), (.int p5)] maxLocals)) t := by
      by_cases c49 : feqN = (0 : Int32)
      · skip
        have k51 := ((po21_1.ext E24).keep K30 (ninS ne25 nin0))
        have k52 := ((po21_2.ext E24).keep K30 (ninS ne25 nin0))
        have k53 := ((po21_3.ext E24).keep K30 (ninS ne25 nin0))
        have k54 := ((po21_4.ext E24).keep K30 (ninS ne25 nin0))
        have k55 := ((po21_5.ext E24).keep K30 (ninS ne25 nin0))
        obtain ⟨cq50, kq50, q50a, q50b, q50c⟩ := isOf hZ e46 k47
        obtain ⟨_, _, ⟨T50, L50, k50, n50⟩, -, X50, ⟨Lc50, hQ50, l50, y50, z50⟩, st50⟩ := X46.virtualBack hx (y := (⟨"com/example/vannus/vannus/Passage", "equals", "(Ljava/lang/Object;)Z"⟩ : MethodName)) (z := (⟨"com/example/vannus/vannus/Passage", "equals", "(Ljava/lang/Object;)Z"⟩ : MethodName)) hown (mvT hZ (hw _ (List.mem_of_getElem? (i := 24) rfl))) (mvT hZ (hw _ (List.mem_of_getElem? (i := 25) rfl))) (notFace_of_selects (args := #[]) (mvT hZ (hw _ (List.mem_of_getElem? (i := 27) rfl)))) (mvT hZ (hw _ (List.mem_of_getElem? (i := 27) rfl))) (mvT hZ (hw _ (List.mem_of_getElem? (i := 26) rfl))) (by decide) (backOf (W := 0) (rm4 l Z a0 hw [] b16 b16 (v0_1 p0 p1 p2 p3 p4 p5 w0_COMPACT_STRINGS) (v0_1 p0 p1 p2 p3 p4 p5 w0_COMPACT_STRINGS) (v0_3 p0 p1 p2 p3 p4 p5 w0_COMPACT_STRINGS) (v0_3 p0 p1 p2 p3 p4 p5 w0_COMPACT_STRINGS) p2 p2 (v0_4 p0 p1 p2 p3 p4 p5 w0_COMPACT_STRINGS) (v0_4 p0 p1 p2 p3 p4 p5 w0_COMPACT_STRINGS) (v0_6 p0 p1 p2 p3 p4 p5 w0_COMPACT_STRINGS) (v0_6 p0 p1 p2 p3 p4 p5 w0_COMPACT_STRINGS) T30.heap n0 z31 k47 k51 k51 k52 k52 k53 k53 k54 k54 k55 k55) hZ (hw _ (List.mem_of_getElem? (i := 28) rfl)) (hw _ (List.mem_of_getElem? (i := 7) rfl)) (by decide) (by decide)) q50a q50c (g := (mkF m 258 #[.val (.int p0), .val (.int p1), .val (.int p2), .val (.int p3), .val (.int p4), .val (.int p5), .val (.int (v0_1 p0 p1 p2 p3 p4 p5 w0_COMPACT_STRINGS)), .val (.int (v0_3 p0 p1 p2 p3 p4 p5 w0_COMPACT_STRINGS)), .val (.int (v0_4 p0 p1 p2 p3 p4 p5 w0_COMPACT_STRINGS)), .val (.int (v0_6 p0 p1 p2 p3 p4 p5 w0_COMPACT_STRINGS)), .val (.int (v0_7 p0 p1 p2 p3 p4 p5 w0_COMPACT_STRINGS)), .val (.int (v0_8 p0 p1 p2 p3 p4 p5 w0_COMPACT_STRINGS)), .val (.int (v0_16 p0 p1 p2 p3 p4 p5 w0_COMPACT_STRINGS)), .val (.int (v0_17 p0 p1 p2 p3 p4 p5 w0_COMPACT_STRINGS)), .val (.int (v0_18 p0 p1 p2 p3 p4 p5 w0_COMPACT_STRINGS)), .val (.int (v0_19 p0 p1 p2 p3 p4 p5 w0_COMPACT_STRINGS)), .val (.int (v0_20 p0 p1 p2 p3 p4 p5 w0_COMPACT_STRINGS)), .val (.ref b16), .val (.ref b24), .val (.int (v0_21 p0 p1 p2 p3 p4 p5 w0_COMPACT_STRINGS)), .unset, .unset] [(.ref b16), (.ref b16)])) rfl (by rw [hml]; rfl) (Steps.refl _) (argsL := [(.ref b16)]) (rest := []) (lenOf pd__Ljava_lang_Object__Z rfl) rfl (by show 2 * 0 + _ ≤ _; exact Nat.le_of_eq rfl) (hb hby at_258) (fun _ _ => ⟨rfl, e46, (by decide : 2 + 0 ≤ _), (by decide : 10 + 0 ≤ _)⟩)
        dsimp only [Pt.U, Pt.locs, Pt.cells, Pt.slots] at X50 l50 y50 z50 st50 hQ50
        subst l50 y50 z50
        obtain ⟨N50q, rfl, e50⟩ := hQ50
        have N50 := Fr.app N46 N50q
        have pre56 : ∀ t, Steps p.tables e below (T50.setTop (mkF m 261 #[.val (.int p0), .val (.int p1), .val (.int p2), .val (.int p3), .val (.int p4), .val (.int p5), .val (.int (v0_1 p0 p1 p2 p3 p4 p5 w0_COMPACT_STRINGS)), .val (.int (v0_3 p0 p1 p2 p3 p4 p5 w0_COMPACT_STRINGS)), .val (.int (v0_4 p0 p1 p2 p3 p4 p5 w0_COMPACT_STRINGS)), .val (.int (v0_6 p0 p1 p2 p3 p4 p5 w0_COMPACT_STRINGS)), .val (.int (v0_7 p0 p1 p2 p3 p4 p5 w0_COMPACT_STRINGS)), .val (.int (v0_8 p0 p1 p2 p3 p4 p5 w0_COMPACT_STRINGS)), .val (.int (v0_16 p0 p1 p2 p3 p4 p5 w0_COMPACT_STRINGS)), .val (.int (v0_17 p0 p1 p2 p3 p4 p5 w0_COMPACT_STRINGS)), .val (.int (v0_18 p0 p1 p2 p3 p4 p5 w0_COMPACT_STRINGS)), .val (.int (v0_19 p0 p1 p2 p3 p4 p5 w0_COMPACT_STRINGS)), .val (.int (v0_20 p0 p1 p2 p3 p4 p5 w0_COMPACT_STRINGS)), .val (.ref b16), .val (.ref b24), .val (.int (v0_21 p0 p1 p2 p3 p4 p5 w0_COMPACT_STRINGS)), .unset, .unset] [(.int (f4 (v0_1 p0 p1 p2 p3 p4 p5 w0_COMPACT_STRINGS) (v0_1 p0 p1 p2 p3 p4 p5 w0_COMPACT_STRINGS) (v0_3 p0 p1 p2 p3 p4 p5 w0_COMPACT_STRINGS) (v0_3 p0 p1 p2 p3 p4 p5 w0_COMPACT_STRINGS) p2 p2 (v0_4 p0 p1 p2 p3 p4 p5 w0_COMPACT_STRINGS) (v0_4 p0 p1 p2 p3 p4 p5 w0_COMPACT_STRINGS) (v0_6 p0 p1 p2 p3 p4 p5 w0_COMPACT_STRINGS) (v0_6 p0 p1 p2 p3 p4 p5 w0_COMPACT_STRINGS)))])) t → Steps p.tables e below (s₁.setTop (entryFrame m #[(.int p0), (.int p1), (.int p2), (.int p3), (.int p4), (.int p5)] maxLocals)) t := by
          intro t k
          refine pre48 t ?_
          show Steps p.tables e below (T46.setTop (mkF m 251 #[.val (.int p0), .val (.int p1), .val (.int p2), .val (.int p3), .val (.int p4), .val (.int p5), .val (.int (v0_1 p0 p1 p2 p3 p4 p5 w0_COMPACT_STRINGS)), .val (.int (v0_3 p0 p1 p2 p3 p4 p5 w0_COMPACT_STRINGS)), .val (.int (v0_4 p0 p1 p2 p3 p4 p5 w0_COMPACT_STRINGS)), .val (.int (v0_6 p0 p1 p2 p3 p4 p5 w0_COMPACT_STRINGS)), .val (.int (v0_7 p0 p1 p2 p3 p4 p5 w0_COMPACT_STRINGS)), .val (.int (v0_8 p0 p1 p2 p3 p4 p5 w0_COMPACT_STRINGS)), .val (.int (v0_16 p0 p1 p2 p3 p4 p5 w0_COMPACT_STRINGS)), .val (.int (v0_17 p0 p1 p2 p3 p4 p5 w0_COMPACT_STRINGS)), .val (.int (v0_18 p0 p1 p2 p3 p4 p5 w0_COMPACT_STRINGS)), .val (.int (v0_19 p0 p1 p2 p3 p4 p5 w0_COMPACT_STRINGS)), .val (.int (v0_20 p0 p1 p2 p3 p4 p5 w0_COMPACT_STRINGS)), .val (.ref b16), .val (.ref b24), .val (.int (v0_21 p0 p1 p2 p3 p4 p5 w0_COMPACT_STRINGS)), .unset, .unset] [(.int feqN)])) _
          refine XS.ifNo X46.here hx rfl (hb hby at_251) rfl (XT.i0_ne_f c49) ?_
          show Steps p.tables e below (T46.setTop (mkF m 254 #[.val (.int p0), .val (.int p1), .val (.int p2), .val (.int p3), .val (.int p4), .val (.int p5), .val (.int (v0_1 p0 p1 p2 p3 p4 p5 w0_COMPACT_STRINGS)), .val (.int (v0_3 p0 p1 p2 p3 p4 p5 w0_COMPACT_STRINGS)), .val (.int (v0_4 p0 p1 p2 p3 p4 p5 w0_COMPACT_STRINGS)), .val (.int (v0_6 p0 p1 p2 p3 p4 p5 w0_COMPACT_STRINGS)), .val (.int (v0_7 p0 p1 p2 p3 p4 p5 w0_COMPACT_STRINGS)), .val (.int (v0_8 p0 p1 p2 p3 p4 p5 w0_COMPACT_STRINGS)), .val (.int (v0_16 p0 p1 p2 p3 p4 p5 w0_COMPACT_STRINGS)), .val (.int (v0_17 p0 p1 p2 p3 p4 p5 w0_COMPACT_STRINGS)), .val (.int (v0_18 p0 p1 p2 p3 p4 p5 w0_COMPACT_STRINGS)), .val (.int (v0_19 p0 p1 p2 p3 p4 p5 w0_COMPACT_STRINGS)), .val (.int (v0_20 p0 p1 p2 p3 p4 p5 w0_COMPACT_STRINGS)), .val (.ref b16), .val (.ref b24), .val (.int (v0_21 p0 p1 p2 p3 p4 p5 w0_COMPACT_STRINGS)), .unset, .unset] [])) _
          refine XS.aload X46.here hx rfl (hb hby at_254) rfl rfl ?_
          show Steps p.tables e below (T46.setTop (mkF m 256 #[.val (.int p0), .val (.int p1), .val (.int p2), .val (.int p3), .val (.int p4), .val (.int p5), .val (.int (v0_1 p0 p1 p2 p3 p4 p5 w0_COMPACT_STRINGS)), .val (.int (v0_3 p0 p1 p2 p3 p4 p5 w0_COMPACT_STRINGS)), .val (.int (v0_4 p0 p1 p2 p3 p4 p5 w0_COMPACT_STRINGS)), .val (.int (v0_6 p0 p1 p2 p3 p4 p5 w0_COMPACT_STRINGS)), .val (.int (v0_7 p0 p1 p2 p3 p4 p5 w0_COMPACT_STRINGS)), .val (.int (v0_8 p0 p1 p2 p3 p4 p5 w0_COMPACT_STRINGS)), .val (.int (v0_16 p0 p1 p2 p3 p4 p5 w0_COMPACT_STRINGS)), .val (.int (v0_17 p0 p1 p2 p3 p4 p5 w0_COMPACT_STRINGS)), .val (.int (v0_18 p0 p1 p2 p3 p4 p5 w0_COMPACT_STRINGS)), .val (.int (v0_19 p0 p1 p2 p3 p4 p5 w0_COMPACT_STRINGS)), .val (.int (v0_20 p0 p1 p2 p3 p4 p5 w0_COMPACT_STRINGS)), .val (.ref b16), .val (.ref b24), .val (.int (v0_21 p0 p1 p2 p3 p4 p5 w0_COMPACT_STRINGS)), .unset, .unset] [(.ref b16)])) _
          refine XS.aload X46.here hx rfl (hb hby at_256) rfl rfl ?_
          show Steps p.tables e below (T46.setTop (mkF m 258 #[.val (.int p0), .val (.int p1), .val (.int p2), .val (.int p3), .val (.int p4), .val (.int p5), .val (.int (v0_1 p0 p1 p2 p3 p4 p5 w0_COMPACT_STRINGS)), .val (.int (v0_3 p0 p1 p2 p3 p4 p5 w0_COMPACT_STRINGS)), .val (.int (v0_4 p0 p1 p2 p3 p4 p5 w0_COMPACT_STRINGS)), .val (.int (v0_6 p0 p1 p2 p3 p4 p5 w0_COMPACT_STRINGS)), .val (.int (v0_7 p0 p1 p2 p3 p4 p5 w0_COMPACT_STRINGS)), .val (.int (v0_8 p0 p1 p2 p3 p4 p5 w0_COMPACT_STRINGS)), .val (.int (v0_16 p0 p1 p2 p3 p4 p5 w0_COMPACT_STRINGS)), .val (.int (v0_17 p0 p1 p2 p3 p4 p5 w0_COMPACT_STRINGS)), .val (.int (v0_18 p0 p1 p2 p3 p4 p5 w0_COMPACT_STRINGS)), .val (.int (v0_19 p0 p1 p2 p3 p4 p5 w0_COMPACT_STRINGS)), .val (.int (v0_20 p0 p1 p2 p3 p4 p5 w0_COMPACT_STRINGS)), .val (.ref b16), .val (.ref b24), .val (.int (v0_21 p0 p1 p2 p3 p4 p5 w0_COMPACT_STRINGS)), .unset, .unset] [(.ref b16), (.ref b16)])) _
          refine st50.trans ?_
          exact k
        by_cases c57 : (v0_22 p0 p1 p2 p3 p4 p5 w0_COMPACT_STRINGS) = (0 : Int32)
        · skip
          refine ⟨T50, _, X50, e50, N50, fun t k => ?_⟩
          rw [show (v0_23 p0 p1 p2 p3 p4 p5 w0_COMPACT_STRINGS) = (0 : Int32) from ((if_pos c49).trans (if_pos c57))] at k
          refine pre56 t ?_
          show Steps p.tables e below (T50.setTop (mkF m 261 #[.val (.int p0), .val (.int p1), .val (.int p2), .val (.int p3), .val (.int p4), .val (.int p5), .val (.int (v0_1 p0 p1 p2 p3 p4 p5 w0_COMPACT_STRINGS)), .val (.int (v0_3 p0 p1 p2 p3 p4 p5 w0_COMPACT_STRINGS)), .val (.int (v0_4 p0 p1 p2 p3 p4 p5 w0_COMPACT_STRINGS)), .val (.int (v0_6 p0 p1 p2 p3 p4 p5 w0_COMPACT_STRINGS)), .val (.int (v0_7 p0 p1 p2 p3 p4 p5 w0_COMPACT_STRINGS)), .val (.int (v0_8 p0 p1 p2 p3 p4 p5 w0_COMPACT_STRINGS)), .val (.int (v0_16 p0 p1 p2 p3 p4 p5 w0_COMPACT_STRINGS)), .val (.int (v0_17 p0 p1 p2 p3 p4 p5 w0_COMPACT_STRINGS)), .val (.int (v0_18 p0 p1 p2 p3 p4 p5 w0_COMPACT_STRINGS)), .val (.int (v0_19 p0 p1 p2 p3 p4 p5 w0_COMPACT_STRINGS)), .val (.int (v0_20 p0 p1 p2 p3 p4 p5 w0_COMPACT_STRINGS)), .val (.ref b16), .val (.ref b24), .val (.int (v0_21 p0 p1 p2 p3 p4 p5 w0_COMPACT_STRINGS)), .unset, .unset] [(.int (f4 (v0_1 p0 p1 p2 p3 p4 p5 w0_COMPACT_STRINGS) (v0_1 p0 p1 p2 p3 p4 p5 w0_COMPACT_STRINGS) (v0_3 p0 p1 p2 p3 p4 p5 w0_COMPACT_STRINGS) (v0_3 p0 p1 p2 p3 p4 p5 w0_COMPACT_STRINGS) p2 p2 (v0_4 p0 p1 p2 p3 p4 p5 w0_COMPACT_STRINGS) (v0_4 p0 p1 p2 p3 p4 p5 w0_COMPACT_STRINGS) (v0_6 p0 p1 p2 p3 p4 p5 w0_COMPACT_STRINGS) (v0_6 p0 p1 p2 p3 p4 p5 w0_COMPACT_STRINGS)))])) _
          refine XS.ifYes X50.here hx rfl (pc0 := 261) (pc' := 268) rfl (hb hby at_261) rfl (XT.i0_eq_t c57) (by decide) (by decide) ?_
          show Steps p.tables e below (T50.setTop (mkF m 268 #[.val (.int p0), .val (.int p1), .val (.int p2), .val (.int p3), .val (.int p4), .val (.int p5), .val (.int (v0_1 p0 p1 p2 p3 p4 p5 w0_COMPACT_STRINGS)), .val (.int (v0_3 p0 p1 p2 p3 p4 p5 w0_COMPACT_STRINGS)), .val (.int (v0_4 p0 p1 p2 p3 p4 p5 w0_COMPACT_STRINGS)), .val (.int (v0_6 p0 p1 p2 p3 p4 p5 w0_COMPACT_STRINGS)), .val (.int (v0_7 p0 p1 p2 p3 p4 p5 w0_COMPACT_STRINGS)), .val (.int (v0_8 p0 p1 p2 p3 p4 p5 w0_COMPACT_STRINGS)), .val (.int (v0_16 p0 p1 p2 p3 p4 p5 w0_COMPACT_STRINGS)), .val (.int (v0_17 p0 p1 p2 p3 p4 p5 w0_COMPACT_STRINGS)), .val (.int (v0_18 p0 p1 p2 p3 p4 p5 w0_COMPACT_STRINGS)), .val (.int (v0_19 p0 p1 p2 p3 p4 p5 w0_COMPACT_STRINGS)), .val (.int (v0_20 p0 p1 p2 p3 p4 p5 w0_COMPACT_STRINGS)), .val (.ref b16), .val (.ref b24), .val (.int (v0_21 p0 p1 p2 p3 p4 p5 w0_COMPACT_STRINGS)), .unset, .unset] [])) _
          refine XT.iconstV X50.here hx rfl (0 : Int32) (hb hby at_268) (by decide) ?_
          exact k
        · skip
          refine ⟨T50, _, X50, e50, N50, fun t k => ?_⟩
          rw [show (v0_23 p0 p1 p2 p3 p4 p5 w0_COMPACT_STRINGS) = (1 : Int32) from ((if_pos c49).trans (if_neg c57))] at k
          refine pre56 t ?_
          show Steps p.tables e below (T50.setTop (mkF m 261 #[.val (.int p0), .val (.int p1), .val (.int p2), .val (.int p3), .val (.int p4), .val (.int p5), .val (.int (v0_1 p0 p1 p2 p3 p4 p5 w0_COMPACT_STRINGS)), .val (.int (v0_3 p0 p1 p2 p3 p4 p5 w0_COMPACT_STRINGS)), .val (.int (v0_4 p0 p1 p2 p3 p4 p5 w0_COMPACT_STRINGS)), .val (.int (v0_6 p0 p1 p2 p3 p4 p5 w0_COMPACT_STRINGS)), .val (.int (v0_7 p0 p1 p2 p3 p4 p5 w0_COMPACT_STRINGS)), .val (.int (v0_8 p0 p1 p2 p3 p4 p5 w0_COMPACT_STRINGS)), .val (.int (v0_16 p0 p1 p2 p3 p4 p5 w0_COMPACT_STRINGS)), .val (.int (v0_17 p0 p1 p2 p3 p4 p5 w0_COMPACT_STRINGS)), .val (.int (v0_18 p0 p1 p2 p3 p4 p5 w0_COMPACT_STRINGS)), .val (.int (v0_19 p0 p1 p2 p3 p4 p5 w0_COMPACT_STRINGS)), .val (.int (v0_20 p0 p1 p2 p3 p4 p5 w0_COMPACT_STRINGS)), .val (.ref b16), .val (.ref b24), .val (.int (v0_21 p0 p1 p2 p3 p4 p5 w0_COMPACT_STRINGS)), .unset, .unset] [(.int (f4 (v0_1 p0 p1 p2 p3 p4 p5 w0_COMPACT_STRINGS) (v0_1 p0 p1 p2 p3 p4 p5 w0_COMPACT_STRINGS) (v0_3 p0 p1 p2 p3 p4 p5 w0_COMPACT_STRINGS) (v0_3 p0 p1 p2 p3 p4 p5 w0_COMPACT_STRINGS) p2 p2 (v0_4 p0 p1 p2 p3 p4 p5 w0_COMPACT_STRINGS) (v0_4 p0 p1 p2 p3 p4 p5 w0_COMPACT_STRINGS) (v0_6 p0 p1 p2 p3 p4 p5 w0_COMPACT_STRINGS) (v0_6 p0 p1 p2 p3 p4 p5 w0_COMPACT_STRINGS)))])) _
          refine XS.ifNo X50.here hx rfl (hb hby at_261) rfl (XT.i0_eq_f c57) ?_
          show Steps p.tables e below (T50.setTop (mkF m 264 #[.val (.int p0), .val (.int p1), .val (.int p2), .val (.int p3), .val (.int p4), .val (.int p5), .val (.int (v0_1 p0 p1 p2 p3 p4 p5 w0_COMPACT_STRINGS)), .val (.int (v0_3 p0 p1 p2 p3 p4 p5 w0_COMPACT_STRINGS)), .val (.int (v0_4 p0 p1 p2 p3 p4 p5 w0_COMPACT_STRINGS)), .val (.int (v0_6 p0 p1 p2 p3 p4 p5 w0_COMPACT_STRINGS)), .val (.int (v0_7 p0 p1 p2 p3 p4 p5 w0_COMPACT_STRINGS)), .val (.int (v0_8 p0 p1 p2 p3 p4 p5 w0_COMPACT_STRINGS)), .val (.int (v0_16 p0 p1 p2 p3 p4 p5 w0_COMPACT_STRINGS)), .val (.int (v0_17 p0 p1 p2 p3 p4 p5 w0_COMPACT_STRINGS)), .val (.int (v0_18 p0 p1 p2 p3 p4 p5 w0_COMPACT_STRINGS)), .val (.int (v0_19 p0 p1 p2 p3 p4 p5 w0_COMPACT_STRINGS)), .val (.int (v0_20 p0 p1 p2 p3 p4 p5 w0_COMPACT_STRINGS)), .val (.ref b16), .val (.ref b24), .val (.int (v0_21 p0 p1 p2 p3 p4 p5 w0_COMPACT_STRINGS)), .unset, .unset] [])) _
          refine XT.iconstV X50.here hx rfl (1 : Int32) (hb hby at_264) (by decide) ?_
          show Steps p.tables e below (T50.setTop (mkF m 265 #[.val (.int p0), .val (.int p1), .val (.int p2), .val (.int p3), .val (.int p4), .val (.int p5), .val (.int (v0_1 p0 p1 p2 p3 p4 p5 w0_COMPACT_STRINGS)), .val (.int (v0_3 p0 p1 p2 p3 p4 p5 w0_COMPACT_STRINGS)), .val (.int (v0_4 p0 p1 p2 p3 p4 p5 w0_COMPACT_STRINGS)), .val (.int (v0_6 p0 p1 p2 p3 p4 p5 w0_COMPACT_STRINGS)), .val (.int (v0_7 p0 p1 p2 p3 p4 p5 w0_COMPACT_STRINGS)), .val (.int (v0_8 p0 p1 p2 p3 p4 p5 w0_COMPACT_STRINGS)), .val (.int (v0_16 p0 p1 p2 p3 p4 p5 w0_COMPACT_STRINGS)), .val (.int (v0_17 p0 p1 p2 p3 p4 p5 w0_COMPACT_STRINGS)), .val (.int (v0_18 p0 p1 p2 p3 p4 p5 w0_COMPACT_STRINGS)), .val (.int (v0_19 p0 p1 p2 p3 p4 p5 w0_COMPACT_STRINGS)), .val (.int (v0_20 p0 p1 p2 p3 p4 p5 w0_COMPACT_STRINGS)), .val (.ref b16), .val (.ref b24), .val (.int (v0_21 p0 p1 p2 p3 p4 p5 w0_COMPACT_STRINGS)), .unset, .unset] [(.int (1 : Int32))])) _
          refine XS.goto X50.here hx rfl (pc0 := 265) (pc' := 269) rfl (hb hby at_265) (by decide) (by decide) ?_
          exact k
      · skip
        refine ⟨T46, _, X46, e46, N46, fun t k => ?_⟩
        rw [show (v0_23 p0 p1 p2 p3 p4 p5 w0_COMPACT_STRINGS) = (0 : Int32) from (if_neg c49)] at k
        refine pre48 t ?_
        show Steps p.tables e below (T46.setTop (mkF m 251 #[.val (.int p0), .val (.int p1), .val (.int p2), .val (.int p3), .val (.int p4), .val (.int p5), .val (.int (v0_1 p0 p1 p2 p3 p4 p5 w0_COMPACT_STRINGS)), .val (.int (v0_3 p0 p1 p2 p3 p4 p5 w0_COMPACT_STRINGS)), .val (.int (v0_4 p0 p1 p2 p3 p4 p5 w0_COMPACT_STRINGS)), .val (.int (v0_6 p0 p1 p2 p3 p4 p5 w0_COMPACT_STRINGS)), .val (.int (v0_7 p0 p1 p2 p3 p4 p5 w0_COMPACT_STRINGS)), .val (.int (v0_8 p0 p1 p2 p3 p4 p5 w0_COMPACT_STRINGS)), .val (.int (v0_16 p0 p1 p2 p3 p4 p5 w0_COMPACT_STRINGS)), .val (.int (v0_17 p0 p1 p2 p3 p4 p5 w0_COMPACT_STRINGS)), .val (.int (v0_18 p0 p1 p2 p3 p4 p5 w0_COMPACT_STRINGS)), .val (.int (v0_19 p0 p1 p2 p3 p4 p5 w0_COMPACT_STRINGS)), .val (.int (v0_20 p0 p1 p2 p3 p4 p5 w0_COMPACT_STRINGS)), .val (.ref b16), .val (.ref b24), .val (.int (v0_21 p0 p1 p2 p3 p4 p5 w0_COMPACT_STRINGS)), .unset, .unset] [(.int feqN)])) _
        refine XS.ifYes X46.here hx rfl (pc0 := 251) (pc' := 268) rfl (hb hby at_251) rfl (XT.i0_ne_t c49) (by decide) (by decide) ?_
        show Steps p.tables e below (T46.setTop (mkF m 268 #[.val (.int p0), .val (.int p1), .val (.int p2), .val (.int p3), .val (.int p4), .val (.int p5), .val (.int (v0_1 p0 p1 p2 p3 p4 p5 w0_COMPACT_STRINGS)), .val (.int (v0_3 p0 p1 p2 p3 p4 p5 w0_COMPACT_STRINGS)), .val (.int (v0_4 p0 p1 p2 p3 p4 p5 w0_COMPACT_STRINGS)), .val (.int (v0_6 p0 p1 p2 p3 p4 p5 w0_COMPACT_STRINGS)), .val (.int (v0_7 p0 p1 p2 p3 p4 p5 w0_COMPACT_STRINGS)), .val (.int (v0_8 p0 p1 p2 p3 p4 p5 w0_COMPACT_STRINGS)), .val (.int (v0_16 p0 p1 p2 p3 p4 p5 w0_COMPACT_STRINGS)), .val (.int (v0_17 p0 p1 p2 p3 p4 p5 w0_COMPACT_STRINGS)), .val (.int (v0_18 p0 p1 p2 p3 p4 p5 w0_COMPACT_STRINGS)), .val (.int (v0_19 p0 p1 p2 p3 p4 p5 w0_COMPACT_STRINGS)), .val (.int (v0_20 p0 p1 p2 p3 p4 p5 w0_COMPACT_STRINGS)), .val (.ref b16), .val (.ref b24), .val (.int (v0_21 p0 p1 p2 p3 p4 p5 w0_COMPACT_STRINGS)), .unset, .unset] [])) _
        refine XT.iconstV X46.here hx rfl (0 : Int32) (hb hby at_268) (by decide) ?_
        exact k
    have hv59 : (v0_23 p0 p1 p2 p3 p4 p5 w0_COMPACT_STRINGS) = (1 : Int32) := own_v0_23 p0 p1 p2 p3 p4 p5 w0_COMPACT_STRINGS c45
    obtain ⟨fs, hr, hrun, hended, hW, hsame⟩ := X58.leave (v := some (.int (1 : Int32))) (fun h => by rw [Bd.returns] at h; cases h) hlk
    refine ⟨_, _, pre58 _ ?_, hrun, hended, _, _, rfl, ?_, ⟨_, rfl⟩, hW, hsame.mono (by decide) (by decide)⟩
    · skip
      show Steps p.tables e below (T58.setTop (mkF m 269 #[.val (.int p0), .val (.int p1), .val (.int p2), .val (.int p3), .val (.int p4), .val (.int p5), .val (.int (v0_1 p0 p1 p2 p3 p4 p5 w0_COMPACT_STRINGS)), .val (.int (v0_3 p0 p1 p2 p3 p4 p5 w0_COMPACT_STRINGS)), .val (.int (v0_4 p0 p1 p2 p3 p4 p5 w0_COMPACT_STRINGS)), .val (.int (v0_6 p0 p1 p2 p3 p4 p5 w0_COMPACT_STRINGS)), .val (.int (v0_7 p0 p1 p2 p3 p4 p5 w0_COMPACT_STRINGS)), .val (.int (v0_8 p0 p1 p2 p3 p4 p5 w0_COMPACT_STRINGS)), .val (.int (v0_16 p0 p1 p2 p3 p4 p5 w0_COMPACT_STRINGS)), .val (.int (v0_17 p0 p1 p2 p3 p4 p5 w0_COMPACT_STRINGS)), .val (.int (v0_18 p0 p1 p2 p3 p4 p5 w0_COMPACT_STRINGS)), .val (.int (v0_19 p0 p1 p2 p3 p4 p5 w0_COMPACT_STRINGS)), .val (.int (v0_20 p0 p1 p2 p3 p4 p5 w0_COMPACT_STRINGS)), .val (.ref b16), .val (.ref b24), .val (.int (v0_21 p0 p1 p2 p3 p4 p5 w0_COMPACT_STRINGS)), .unset, .unset] [(.int (v0_23 p0 p1 p2 p3 p4 p5 w0_COMPACT_STRINGS))])) _
      rw [hv59]
      exact retN X58 hx (t := .boolean) Bd.returns (by simp) (hb hby at_269) hr
    · skip
      show Q0 Z p0 p1 p2 p3 p4 p5 w0_COMPACT_STRINGS h0 n0 _ T58.heap _
      rw [e58]
      exact ⟨rfl, N58⟩
  · skip
    have pre60 : ∀ t, Steps p.tables e below (T30.setTop (mkF m 274 #[.val (.int p0), .val (.int p1), .val (.int p2), .val (.int p3), .val (.int p4), .val (.int p5), .val (.int (v0_1 p0 p1 p2 p3 p4 p5 w0_COMPACT_STRINGS)), .val (.int (v0_3 p0 p1 p2 p3 p4 p5 w0_COMPACT_STRINGS)), .val (.int (v0_4 p0 p1 p2 p3 p4 p5 w0_COMPACT_STRINGS)), .val (.int (v0_6 p0 p1 p2 p3 p4 p5 w0_COMPACT_STRINGS)), .val (.int (v0_7 p0 p1 p2 p3 p4 p5 w0_COMPACT_STRINGS)), .val (.int (v0_8 p0 p1 p2 p3 p4 p5 w0_COMPACT_STRINGS)), .val (.int (v0_16 p0 p1 p2 p3 p4 p5 w0_COMPACT_STRINGS)), .val (.int (v0_17 p0 p1 p2 p3 p4 p5 w0_COMPACT_STRINGS)), .val (.int (v0_18 p0 p1 p2 p3 p4 p5 w0_COMPACT_STRINGS)), .val (.int (v0_19 p0 p1 p2 p3 p4 p5 w0_COMPACT_STRINGS)), .val (.int (v0_20 p0 p1 p2 p3 p4 p5 w0_COMPACT_STRINGS)), .val (.ref b16), .val (.ref b24), .val (.int (v0_21 p0 p1 p2 p3 p4 p5 w0_COMPACT_STRINGS)), .unset, .unset] [(.int (7 : Int32)), (.int (v0_7 p0 p1 p2 p3 p4 p5 w0_COMPACT_STRINGS))])) t → Steps p.tables e below (s₁.setTop (entryFrame m #[(.int p0), (.int p1), (.int p2), (.int p3), (.int p4), (.int p5)] maxLocals)) t := by
      intro t k
      refine pre44 t ?_
      show Steps p.tables e below (T30.setTop (mkF m 242 #[.val (.int p0), .val (.int p1), .val (.int p2), .val (.int p3), .val (.int p4), .val (.int p5), .val (.int (v0_1 p0 p1 p2 p3 p4 p5 w0_COMPACT_STRINGS)), .val (.int (v0_3 p0 p1 p2 p3 p4 p5 w0_COMPACT_STRINGS)), .val (.int (v0_4 p0 p1 p2 p3 p4 p5 w0_COMPACT_STRINGS)), .val (.int (v0_6 p0 p1 p2 p3 p4 p5 w0_COMPACT_STRINGS)), .val (.int (v0_7 p0 p1 p2 p3 p4 p5 w0_COMPACT_STRINGS)), .val (.int (v0_8 p0 p1 p2 p3 p4 p5 w0_COMPACT_STRINGS)), .val (.int (v0_16 p0 p1 p2 p3 p4 p5 w0_COMPACT_STRINGS)), .val (.int (v0_17 p0 p1 p2 p3 p4 p5 w0_COMPACT_STRINGS)), .val (.int (v0_18 p0 p1 p2 p3 p4 p5 w0_COMPACT_STRINGS)), .val (.int (v0_19 p0 p1 p2 p3 p4 p5 w0_COMPACT_STRINGS)), .val (.int (v0_20 p0 p1 p2 p3 p4 p5 w0_COMPACT_STRINGS)), .val (.ref b16), .val (.ref b24), .val (.int (v0_21 p0 p1 p2 p3 p4 p5 w0_COMPACT_STRINGS)), .unset, .unset] [(.int (6 : Int32)), (.int (v0_7 p0 p1 p2 p3 p4 p5 w0_COMPACT_STRINGS))])) _
      refine XS.icmpYes X30.here hx rfl (pc0 := 242) (pc' := 270) rfl (hb hby at_242) rfl (XT.ii_ne_t c45) (by decide) (by decide) ?_
      show Steps p.tables e below (T30.setTop (mkF m 270 #[.val (.int p0), .val (.int p1), .val (.int p2), .val (.int p3), .val (.int p4), .val (.int p5), .val (.int (v0_1 p0 p1 p2 p3 p4 p5 w0_COMPACT_STRINGS)), .val (.int (v0_3 p0 p1 p2 p3 p4 p5 w0_COMPACT_STRINGS)), .val (.int (v0_4 p0 p1 p2 p3 p4 p5 w0_COMPACT_STRINGS)), .val (.int (v0_6 p0 p1 p2 p3 p4 p5 w0_COMPACT_STRINGS)), .val (.int (v0_7 p0 p1 p2 p3 p4 p5 w0_COMPACT_STRINGS)), .val (.int (v0_8 p0 p1 p2 p3 p4 p5 w0_COMPACT_STRINGS)), .val (.int (v0_16 p0 p1 p2 p3 p4 p5 w0_COMPACT_STRINGS)), .val (.int (v0_17 p0 p1 p2 p3 p4 p5 w0_COMPACT_STRINGS)), .val (.int (v0_18 p0 p1 p2 p3 p4 p5 w0_COMPACT_STRINGS)), .val (.int (v0_19 p0 p1 p2 p3 p4 p5 w0_COMPACT_STRINGS)), .val (.int (v0_20 p0 p1 p2 p3 p4 p5 w0_COMPACT_STRINGS)), .val (.ref b16), .val (.ref b24), .val (.int (v0_21 p0 p1 p2 p3 p4 p5 w0_COMPACT_STRINGS)), .unset, .unset] [])) _
      refine XS.iload X30.here hx rfl (hb hby at_270) rfl ?_
      show Steps p.tables e below (T30.setTop (mkF m 272 #[.val (.int p0), .val (.int p1), .val (.int p2), .val (.int p3), .val (.int p4), .val (.int p5), .val (.int (v0_1 p0 p1 p2 p3 p4 p5 w0_COMPACT_STRINGS)), .val (.int (v0_3 p0 p1 p2 p3 p4 p5 w0_COMPACT_STRINGS)), .val (.int (v0_4 p0 p1 p2 p3 p4 p5 w0_COMPACT_STRINGS)), .val (.int (v0_6 p0 p1 p2 p3 p4 p5 w0_COMPACT_STRINGS)), .val (.int (v0_7 p0 p1 p2 p3 p4 p5 w0_COMPACT_STRINGS)), .val (.int (v0_8 p0 p1 p2 p3 p4 p5 w0_COMPACT_STRINGS)), .val (.int (v0_16 p0 p1 p2 p3 p4 p5 w0_COMPACT_STRINGS)), .val (.int (v0_17 p0 p1 p2 p3 p4 p5 w0_COMPACT_STRINGS)), .val (.int (v0_18 p0 p1 p2 p3 p4 p5 w0_COMPACT_STRINGS)), .val (.int (v0_19 p0 p1 p2 p3 p4 p5 w0_COMPACT_STRINGS)), .val (.int (v0_20 p0 p1 p2 p3 p4 p5 w0_COMPACT_STRINGS)), .val (.ref b16), .val (.ref b24), .val (.int (v0_21 p0 p1 p2 p3 p4 p5 w0_COMPACT_STRINGS)), .unset, .unset] [(.int (v0_7 p0 p1 p2 p3 p4 p5 w0_COMPACT_STRINGS))])) _
      refine XT.bipushV X30.here hx rfl (7 : Int32) (hb hby at_272) (by decide) ?_
      exact k
    by_cases c61 : (v0_7 p0 p1 p2 p3 p4 p5 w0_COMPACT_STRINGS) = (7 : Int32)
    · skip
      have O63 := ((((O0.ext E16).keep K21 (allS g17 all0)).ext E24).keep K30 (allS g26 all0))
      obtain ⟨_, _, ⟨T62, L62, k62, n62⟩, -, X62, ⟨Lc62, hQ62, l62, y62, z62⟩, st62⟩ := Jvm.LawKit.callS X30 hx (y := (⟨"java/lang/String", "valueOf", "(C)Ljava/lang/String;"⟩ : MethodName)) hown (mvT hZ (hw _ (List.mem_of_getElem? (i := 31) rfl))) (mvT hZ (hw _ (List.mem_of_getElem? (i := 32) rfl))) (mvT hZ (hw _ (List.mem_of_getElem? (i := 33) rfl))) (mvT hZ (hw _ (List.mem_of_getElem? (i := 34) rfl))) (by decide) (backOf (W := 0) (rm5 l Z a0 hw [] (v0_24 p0 p1 p2 p3 p4 p5 w0_COMPACT_STRINGS) w0_COMPACT_STRINGS T30.heap n0 z31 (Sta.ext O63.2 S_COMPACT_STRINGS) hcs (own_enc p0 p1 p2 p3 p4 p5 w0_COMPACT_STRINGS)) hZ (hw _ (List.mem_of_getElem? (i := 34) rfl)) (hw _ (List.mem_of_getElem? (i := 33) rfl)) (by decide) (by decide)) (g := (mkF m 284 #[.val (.int p0), .val (.int p1), .val (.int p2), .val (.int p3), .val (.int p4), .val (.int p5), .val (.int (v0_1 p0 p1 p2 p3 p4 p5 w0_COMPACT_STRINGS)), .val (.int (v0_3 p0 p1 p2 p3 p4 p5 w0_COMPACT_STRINGS)), .val (.int (v0_4 p0 p1 p2 p3 p4 p5 w0_COMPACT_STRINGS)), .val (.int (v0_6 p0 p1 p2 p3 p4 p5 w0_COMPACT_STRINGS)), .val (.int (v0_7 p0 p1 p2 p3 p4 p5 w0_COMPACT_STRINGS)), .val (.int (v0_8 p0 p1 p2 p3 p4 p5 w0_COMPACT_STRINGS)), .val (.int (v0_16 p0 p1 p2 p3 p4 p5 w0_COMPACT_STRINGS)), .val (.int (v0_17 p0 p1 p2 p3 p4 p5 w0_COMPACT_STRINGS)), .val (.int (v0_18 p0 p1 p2 p3 p4 p5 w0_COMPACT_STRINGS)), .val (.int (v0_19 p0 p1 p2 p3 p4 p5 w0_COMPACT_STRINGS)), .val (.int (v0_20 p0 p1 p2 p3 p4 p5 w0_COMPACT_STRINGS)), .val (.ref b16), .val (.ref b24), .val (.int (v0_21 p0 p1 p2 p3 p4 p5 w0_COMPACT_STRINGS)), .unset, .unset] [(.int (v0_24 p0 p1 p2 p3 p4 p5 w0_COMPACT_STRINGS))])) rfl (by rw [hml]; rfl) (argsL := [(.int (v0_24 p0 p1 p2 p3 p4 p5 w0_COMPACT_STRINGS))]) (rest := []) (lenOf pd__C_Ljava_lang_String_ rfl) rfl (by show 2 * 0 + _ ≤ _; exact Nat.le_of_eq rfl) (hb hby at_284) (fun _ _ => ⟨rfl, rfl, (by decide : 2 + 2 ≤ _), (by decide : 10 + 5 ≤ _)⟩)
      dsimp only [Pt.U, Pt.locs, Pt.cells, Pt.slots] at X62 l62 y62 z62 st62 hQ62
      subst l62 y62 z62
      obtain ⟨N62q, x5_0_62, x5_1_62, k5_2_62, rfl, szx5_0_62, szx5_1_62, nex5_0_x5_1_62, K62, po62_0, po62_1, po62_2, po62_3⟩ := hQ62
      have k64 := ((po21_0.ext E24).keep K30)
      have ne65 : b16 ≠ x5_0_62 := Nat.ne_of_lt (Nat.lt_of_lt_of_le k64.lt szx5_0_62)
      have ne66 : b24 ≠ x5_0_62 := Nat.ne_of_lt (Nat.lt_of_lt_of_le po30_0.lt szx5_0_62)
      have g67 : n0 ≤ x5_0_62 := Nat.le_trans z31 szx5_0_62
      have sz68 : h0.size ≤ x5_0_62 := Nat.le_trans hs32 szx5_0_62
      have ne69 : b16 ≠ x5_1_62 := Nat.ne_of_lt (Nat.lt_of_lt_of_le k64.lt szx5_1_62)
      have ne70 : b24 ≠ x5_1_62 := Nat.ne_of_lt (Nat.lt_of_lt_of_le po30_0.lt szx5_1_62)
      have g71 : n0 ≤ x5_1_62 := Nat.le_trans z31 szx5_1_62
      have sz72 : h0.size ≤ x5_1_62 := Nat.le_trans hs32 szx5_1_62
      have z73 : n0 ≤ T62.heap.size := Nat.le_trans z31 K62.1
      have hs74 : h0.size ≤ T62.heap.size := Nat.le_trans hs32 K62.1
      have N62 := Fr.app N30 N62q
      have k76 := (k64.keep K62)
      obtain ⟨cq75, kq75, q75a, q75b, q75c⟩ := isOf hZ rfl k76
      obtain ⟨_, _, ⟨T75, L75, k75, n75⟩, -, X75, ⟨Lc75, hQ75, l75, y75, z75⟩, st75⟩ := X62.virtualBack hx (y := (⟨"com/example/vannus/vannus/Passage", "equals", "(Ljava/lang/Object;)Z"⟩ : MethodName)) (z := (⟨"com/example/vannus/vannus/Passage", "equals", "(Ljava/lang/Object;)Z"⟩ : MethodName)) hown (mvT hZ (hw _ (List.mem_of_getElem? (i := 24) rfl))) (mvT hZ (hw _ (List.mem_of_getElem? (i := 25) rfl))) (notFace_of_selects (args := #[]) (mvT hZ (hw _ (List.mem_of_getElem? (i := 27) rfl)))) (mvT hZ (hw _ (List.mem_of_getElem? (i := 27) rfl))) (mvT hZ (hw _ (List.mem_of_getElem? (i := 26) rfl))) (by decide) (backOf (W := 0) (rmeqS l Z a0 hw [] b16 x5_0_62 T62.heap n0 z73 po62_0) hZ (hw _ (List.mem_of_getElem? (i := 28) rfl)) (hw _ (List.mem_of_getElem? (i := 7) rfl)) (by decide) (by decide)) q75a q75c (g := (mkF m 293 #[.val (.int p0), .val (.int p1), .val (.int p2), .val (.int p3), .val (.int p4), .val (.int p5), .val (.int (v0_1 p0 p1 p2 p3 p4 p5 w0_COMPACT_STRINGS)), .val (.int (v0_3 p0 p1 p2 p3 p4 p5 w0_COMPACT_STRINGS)), .val (.int (v0_4 p0 p1 p2 p3 p4 p5 w0_COMPACT_STRINGS)), .val (.int (v0_6 p0 p1 p2 p3 p4 p5 w0_COMPACT_STRINGS)), .val (.int (v0_7 p0 p1 p2 p3 p4 p5 w0_COMPACT_STRINGS)), .val (.int (v0_8 p0 p1 p2 p3 p4 p5 w0_COMPACT_STRINGS)), .val (.int (v0_16 p0 p1 p2 p3 p4 p5 w0_COMPACT_STRINGS)), .val (.int (v0_17 p0 p1 p2 p3 p4 p5 w0_COMPACT_STRINGS)), .val (.int (v0_18 p0 p1 p2 p3 p4 p5 w0_COMPACT_STRINGS)), .val (.int (v0_19 p0 p1 p2 p3 p4 p5 w0_COMPACT_STRINGS)), .val (.int (v0_20 p0 p1 p2 p3 p4 p5 w0_COMPACT_STRINGS)), .val (.ref b16), .val (.ref b24), .val (.int (v0_21 p0 p1 p2 p3 p4 p5 w0_COMPACT_STRINGS)), .val (.ref x5_0_62), .unset] [(.ref x5_0_62), (.ref b16)])) rfl (by rw [hml]; rfl) (Steps.refl _) (argsL := [(.ref x5_0_62)]) (rest := []) (lenOf pd__Ljava_lang_Object__Z rfl) rfl (by show 2 * 0 + _ ≤ _; exact Nat.le_of_eq rfl) (hb hby at_293) (fun _ _ => ⟨rfl, rfl, (by decide : 4 + 0 ≤ _), (by decide : 15 + 0 ≤ _)⟩)
      dsimp only [Pt.U, Pt.locs, Pt.cells, Pt.slots] at X75 l75 y75 z75 st75 hQ75
      subst l75 y75 z75
      obtain ⟨N75q, rfl, e75⟩ := hQ75
      have N75 := Fr.app N62 N75q
      have pre77 : ∀ t, Steps p.tables e below (T75.setTop (mkF m 296 #[.val (.int p0), .val (.int p1), .val (.int p2), .val (.int p3), .val (.int p4), .val (.int p5), .val (.int (v0_1 p0 p1 p2 p3 p4 p5 w0_COMPACT_STRINGS)), .val (.int (v0_3 p0 p1 p2 p3 p4 p5 w0_COMPACT_STRINGS)), .val (.int (v0_4 p0 p1 p2 p3 p4 p5 w0_COMPACT_STRINGS)), .val (.int (v0_6 p0 p1 p2 p3 p4 p5 w0_COMPACT_STRINGS)), .val (.int (v0_7 p0 p1 p2 p3 p4 p5 w0_COMPACT_STRINGS)), .val (.int (v0_8 p0 p1 p2 p3 p4 p5 w0_COMPACT_STRINGS)), .val (.int (v0_16 p0 p1 p2 p3 p4 p5 w0_COMPACT_STRINGS)), .val (.int (v0_17 p0 p1 p2 p3 p4 p5 w0_COMPACT_STRINGS)), .val (.int (v0_18 p0 p1 p2 p3 p4 p5 w0_COMPACT_STRINGS)), .val (.int (v0_19 p0 p1 p2 p3 p4 p5 w0_COMPACT_STRINGS)), .val (.int (v0_20 p0 p1 p2 p3 p4 p5 w0_COMPACT_STRINGS)), .val (.ref b16), .val (.ref b24), .val (.int (v0_21 p0 p1 p2 p3 p4 p5 w0_COMPACT_STRINGS)), .val (.ref x5_0_62), .unset] [(.int feqS)])) t → Steps p.tables e below (s₁.setTop (entryFrame m #[(.int p0), (.int p1), (.int p2), (.int p3), (.int p4), (.int p5)] maxLocals)) t := by
        intro t k
        refine pre60 t ?_
        show Steps p.tables e below (T30.setTop (mkF m 274 #[.val (.int p0), .val (.int p1), .val (.int p2), .val (.int p3), .val (.int p4), .val (.int p5), .val (.int (v0_1 p0 p1 p2 p3 p4 p5 w0_COMPACT_STRINGS)), .val (.int (v0_3 p0 p1 p2 p3 p4 p5 w0_COMPACT_STRINGS)), .val (.int (v0_4 p0 p1 p2 p3 p4 p5 w0_COMPACT_STRINGS)), .val (.int (v0_6 p0 p1 p2 p3 p4 p5 w0_COMPACT_STRINGS)), .val (.int (v0_7 p0 p1 p2 p3 p4 p5 w0_COMPACT_STRINGS)), .val (.int (v0_8 p0 p1 p2 p3 p4 p5 w0_COMPACT_STRINGS)), .val (.int (v0_16 p0 p1 p2 p3 p4 p5 w0_COMPACT_STRINGS)), .val (.int (v0_17 p0 p1 p2 p3 p4 p5 w0_COMPACT_STRINGS)), .val (.int (v0_18 p0 p1 p2 p3 p4 p5 w0_COMPACT_STRINGS)), .val (.int (v0_19 p0 p1 p2 p3 p4 p5 w0_COMPACT_STRINGS)), .val (.int (v0_20 p0 p1 p2 p3 p4 p5 w0_COMPACT_STRINGS)), .val (.ref b16), .val (.ref b24), .val (.int (v0_21 p0 p1 p2 p3 p4 p5 w0_COMPACT_STRINGS)), .unset, .unset] [(.int (7 : Int32)), (.int (v0_7 p0 p1 p2 p3 p4 p5 w0_COMPACT_STRINGS))])) _
        refine XS.icmpNo X30.here hx rfl (hb hby at_274) rfl (XT.ii_ne_f c61) ?_
        show Steps p.tables e below (T30.setTop (mkF m 277 #[.val (.int p0), .val (.int p1), .val (.int p2), .val (.int p3), .val (.int p4), .val (.int p5), .val (.int (v0_1 p0 p1 p2 p3 p4 p5 w0_COMPACT_STRINGS)), .val (.int (v0_3 p0 p1 p2 p3 p4 p5 w0_COMPACT_STRINGS)), .val (.int (v0_4 p0 p1 p2 p3 p4 p5 w0_COMPACT_STRINGS)), .val (.int (v0_6 p0 p1 p2 p3 p4 p5 w0_COMPACT_STRINGS)), .val (.int (v0_7 p0 p1 p2 p3 p4 p5 w0_COMPACT_STRINGS)), .val (.int (v0_8 p0 p1 p2 p3 p4 p5 w0_COMPACT_STRINGS)), .val (.int (v0_16 p0 p1 p2 p3 p4 p5 w0_COMPACT_STRINGS)), .val (.int (v0_17 p0 p1 p2 p3 p4 p5 w0_COMPACT_STRINGS)), .val (.int (v0_18 p0 p1 p2 p3 p4 p5 w0_COMPACT_STRINGS)), .val (.int (v0_19 p0 p1 p2 p3 p4 p5 w0_COMPACT_STRINGS)), .val (.int (v0_20 p0 p1 p2 p3 p4 p5 w0_COMPACT_STRINGS)), .val (.ref b16), .val (.ref b24), .val (.int (v0_21 p0 p1 p2 p3 p4 p5 w0_COMPACT_STRINGS)), .unset, .unset] [])) _
        refine XS.iload X30.here hx rfl (hb hby at_277) rfl ?_
        show Steps p.tables e below (T30.setTop (mkF m 279 #[.val (.int p0), .val (.int p1), .val (.int p2), .val (.int p3), .val (.int p4), .val (.int p5), .val (.int (v0_1 p0 p1 p2 p3 p4 p5 w0_COMPACT_STRINGS)), .val (.int (v0_3 p0 p1 p2 p3 p4 p5 w0_COMPACT_STRINGS)), .val (.int (v0_4 p0 p1 p2 p3 p4 p5 w0_COMPACT_STRINGS)), .val (.int (v0_6 p0 p1 p2 p3 p4 p5 w0_COMPACT_STRINGS)), .val (.int (v0_7 p0 p1 p2 p3 p4 p5 w0_COMPACT_STRINGS)), .val (.int (v0_8 p0 p1 p2 p3 p4 p5 w0_COMPACT_STRINGS)), .val (.int (v0_16 p0 p1 p2 p3 p4 p5 w0_COMPACT_STRINGS)), .val (.int (v0_17 p0 p1 p2 p3 p4 p5 w0_COMPACT_STRINGS)), .val (.int (v0_18 p0 p1 p2 p3 p4 p5 w0_COMPACT_STRINGS)), .val (.int (v0_19 p0 p1 p2 p3 p4 p5 w0_COMPACT_STRINGS)), .val (.int (v0_20 p0 p1 p2 p3 p4 p5 w0_COMPACT_STRINGS)), .val (.ref b16), .val (.ref b24), .val (.int (v0_21 p0 p1 p2 p3 p4 p5 w0_COMPACT_STRINGS)), .unset, .unset] [(.int (v0_8 p0 p1 p2 p3 p4 p5 w0_COMPACT_STRINGS))])) _
        refine XT.sipushV X30.here hx rfl (255 : Int32) (hb hby at_279) (by decide) ?_
        show Steps p.tables e below (T30.setTop (mkF m 282 #[.val (.int p0), .val (.int p1), .val (.int p2), .val (.int p3), .val (.int p4), .val (.int p5), .val (.int (v0_1 p0 p1 p2 p3 p4 p5 w0_COMPACT_STRINGS)), .val (.int (v0_3 p0 p1 p2 p3 p4 p5 w0_COMPACT_STRINGS)), .val (.int (v0_4 p0 p1 p2 p3 p4 p5 w0_COMPACT_STRINGS)), .val (.int (v0_6 p0 p1 p2 p3 p4 p5 w0_COMPACT_STRINGS)), .val (.int (v0_7 p0 p1 p2 p3 p4 p5 w0_COMPACT_STRINGS)), .val (.int (v0_8 p0 p1 p2 p3 p4 p5 w0_COMPACT_STRINGS)), .val (.int (v0_16 p0 p1 p2 p3 p4 p5 w0_COMPACT_STRINGS)), .val (.int (v0_17 p0 p1 p2 p3 p4 p5 w0_COMPACT_STRINGS)), .val (.int (v0_18 p0 p1 p2 p3 p4 p5 w0_COMPACT_STRINGS)), .val (.int (v0_19 p0 p1 p2 p3 p4 p5 w0_COMPACT_STRINGS)), .val (.int (v0_20 p0 p1 p2 p3 p4 p5 w0_COMPACT_STRINGS)), .val (.ref b16), .val (.ref b24), .val (.int (v0_21 p0 p1 p2 p3 p4 p5 w0_COMPACT_STRINGS)), .unset, .unset] [(.int (255 : Int32)), (.int (v0_8 p0 p1 p2 p3 p4 p5 w0_COMPACT_STRINGS))])) _
        refine XS.iand X30.here hx rfl (hb hby at_282) rfl ?_
        show Steps p.tables e below (T30.setTop (mkF m 283 #[.val (.int p0), .val (.int p1), .val (.int p2), .val (.int p3), .val (.int p4), .val (.int p5), .val (.int (v0_1 p0 p1 p2 p3 p4 p5 w0_COMPACT_STRINGS)), .val (.int (v0_3 p0 p1 p2 p3 p4 p5 w0_COMPACT_STRINGS)), .val (.int (v0_4 p0 p1 p2 p3 p4 p5 w0_COMPACT_STRINGS)), .val (.int (v0_6 p0 p1 p2 p3 p4 p5 w0_COMPACT_STRINGS)), .val (.int (v0_7 p0 p1 p2 p3 p4 p5 w0_COMPACT_STRINGS)), .val (.int (v0_8 p0 p1 p2 p3 p4 p5 w0_COMPACT_STRINGS)), .val (.int (v0_16 p0 p1 p2 p3 p4 p5 w0_COMPACT_STRINGS)), .val (.int (v0_17 p0 p1 p2 p3 p4 p5 w0_COMPACT_STRINGS)), .val (.int (v0_18 p0 p1 p2 p3 p4 p5 w0_COMPACT_STRINGS)), .val (.int (v0_19 p0 p1 p2 p3 p4 p5 w0_COMPACT_STRINGS)), .val (.int (v0_20 p0 p1 p2 p3 p4 p5 w0_COMPACT_STRINGS)), .val (.ref b16), .val (.ref b24), .val (.int (v0_21 p0 p1 p2 p3 p4 p5 w0_COMPACT_STRINGS)), .unset, .unset] [(.int ((v0_8 p0 p1 p2 p3 p4 p5 w0_COMPACT_STRINGS) &&& (255 : Int32)))])) _
        refine XT.i2c X30.here hx rfl (hb hby at_283) rfl ?_
        show Steps p.tables e below (T30.setTop (mkF m 284 #[.val (.int p0), .val (.int p1), .val (.int p2), .val (.int p3), .val (.int p4), .val (.int p5), .val (.int (v0_1 p0 p1 p2 p3 p4 p5 w0_COMPACT_STRINGS)), .val (.int (v0_3 p0 p1 p2 p3 p4 p5 w0_COMPACT_STRINGS)), .val (.int (v0_4 p0 p1 p2 p3 p4 p5 w0_COMPACT_STRINGS)), .val (.int (v0_6 p0 p1 p2 p3 p4 p5 w0_COMPACT_STRINGS)), .val (.int (v0_7 p0 p1 p2 p3 p4 p5 w0_COMPACT_STRINGS)), .val (.int (v0_8 p0 p1 p2 p3 p4 p5 w0_COMPACT_STRINGS)), .val (.int (v0_16 p0 p1 p2 p3 p4 p5 w0_COMPACT_STRINGS)), .val (.int (v0_17 p0 p1 p2 p3 p4 p5 w0_COMPACT_STRINGS)), .val (.int (v0_18 p0 p1 p2 p3 p4 p5 w0_COMPACT_STRINGS)), .val (.int (v0_19 p0 p1 p2 p3 p4 p5 w0_COMPACT_STRINGS)), .val (.int (v0_20 p0 p1 p2 p3 p4 p5 w0_COMPACT_STRINGS)), .val (.ref b16), .val (.ref b24), .val (.int (v0_21 p0 p1 p2 p3 p4 p5 w0_COMPACT_STRINGS)), .unset, .unset] [(.int (((v0_8 p0 p1 p2 p3 p4 p5 w0_COMPACT_STRINGS) &&& (255 : Int32)).toUInt32.toUInt16.toUInt32.toInt32))])) _
        refine st62 _ ?_
        show Steps p.tables e below (T62.setTop (mkF m 287 #[.val (.int p0), .val (.int p1), .val (.int p2), .val (.int p3), .val (.int p4), .val (.int p5), .val (.int (v0_1 p0 p1 p2 p3 p4 p5 w0_COMPACT_STRINGS)), .val (.int (v0_3 p0 p1 p2 p3 p4 p5 w0_COMPACT_STRINGS)), .val (.int (v0_4 p0 p1 p2 p3 p4 p5 w0_COMPACT_STRINGS)), .val (.int (v0_6 p0 p1 p2 p3 p4 p5 w0_COMPACT_STRINGS)), .val (.int (v0_7 p0 p1 p2 p3 p4 p5 w0_COMPACT_STRINGS)), .val (.int (v0_8 p0 p1 p2 p3 p4 p5 w0_COMPACT_STRINGS)), .val (.int (v0_16 p0 p1 p2 p3 p4 p5 w0_COMPACT_STRINGS)), .val (.int (v0_17 p0 p1 p2 p3 p4 p5 w0_COMPACT_STRINGS)), .val (.int (v0_18 p0 p1 p2 p3 p4 p5 w0_COMPACT_STRINGS)), .val (.int (v0_19 p0 p1 p2 p3 p4 p5 w0_COMPACT_STRINGS)), .val (.int (v0_20 p0 p1 p2 p3 p4 p5 w0_COMPACT_STRINGS)), .val (.ref b16), .val (.ref b24), .val (.int (v0_21 p0 p1 p2 p3 p4 p5 w0_COMPACT_STRINGS)), .unset, .unset] [(.ref x5_0_62)])) _
        refine XS.astore X62.here hx rfl (hb hby at_287) rfl rfl (l' := #[.val (.int p0), .val (.int p1), .val (.int p2), .val (.int p3), .val (.int p4), .val (.int p5), .val (.int (v0_1 p0 p1 p2 p3 p4 p5 w0_COMPACT_STRINGS)), .val (.int (v0_3 p0 p1 p2 p3 p4 p5 w0_COMPACT_STRINGS)), .val (.int (v0_4 p0 p1 p2 p3 p4 p5 w0_COMPACT_STRINGS)), .val (.int (v0_6 p0 p1 p2 p3 p4 p5 w0_COMPACT_STRINGS)), .val (.int (v0_7 p0 p1 p2 p3 p4 p5 w0_COMPACT_STRINGS)), .val (.int (v0_8 p0 p1 p2 p3 p4 p5 w0_COMPACT_STRINGS)), .val (.int (v0_16 p0 p1 p2 p3 p4 p5 w0_COMPACT_STRINGS)), .val (.int (v0_17 p0 p1 p2 p3 p4 p5 w0_COMPACT_STRINGS)), .val (.int (v0_18 p0 p1 p2 p3 p4 p5 w0_COMPACT_STRINGS)), .val (.int (v0_19 p0 p1 p2 p3 p4 p5 w0_COMPACT_STRINGS)), .val (.int (v0_20 p0 p1 p2 p3 p4 p5 w0_COMPACT_STRINGS)), .val (.ref b16), .val (.ref b24), .val (.int (v0_21 p0 p1 p2 p3 p4 p5 w0_COMPACT_STRINGS)), .val (.ref x5_0_62), .unset]) rfl ?_
        show Steps p.tables e below (T62.setTop (mkF m 289 #[.val (.int p0), .val (.int p1), .val (.int p2), .val (.int p3), .val (.int p4), .val (.int p5), .val (.int (v0_1 p0 p1 p2 p3 p4 p5 w0_COMPACT_STRINGS)), .val (.int (v0_3 p0 p1 p2 p3 p4 p5 w0_COMPACT_STRINGS)), .val (.int (v0_4 p0 p1 p2 p3 p4 p5 w0_COMPACT_STRINGS)), .val (.int (v0_6 p0 p1 p2 p3 p4 p5 w0_COMPACT_STRINGS)), .val (.int (v0_7 p0 p1 p2 p3 p4 p5 w0_COMPACT_STRINGS)), .val (.int (v0_8 p0 p1 p2 p3 p4 p5 w0_COMPACT_STRINGS)), .val (.int (v0_16 p0 p1 p2 p3 p4 p5 w0_COMPACT_STRINGS)), .val (.int (v0_17 p0 p1 p2 p3 p4 p5 w0_COMPACT_STRINGS)), .val (.int (v0_18 p0 p1 p2 p3 p4 p5 w0_COMPACT_STRINGS)), .val (.int (v0_19 p0 p1 p2 p3 p4 p5 w0_COMPACT_STRINGS)), .val (.int (v0_20 p0 p1 p2 p3 p4 p5 w0_COMPACT_STRINGS)), .val (.ref b16), .val (.ref b24), .val (.int (v0_21 p0 p1 p2 p3 p4 p5 w0_COMPACT_STRINGS)), .val (.ref x5_0_62), .unset] [])) _
        refine XS.aload X62.here hx rfl (hb hby at_289) rfl rfl ?_
        show Steps p.tables e below (T62.setTop (mkF m 291 #[.val (.int p0), .val (.int p1), .val (.int p2), .val (.int p3), .val (.int p4), .val (.int p5), .val (.int (v0_1 p0 p1 p2 p3 p4 p5 w0_COMPACT_STRINGS)), .val (.int (v0_3 p0 p1 p2 p3 p4 p5 w0_COMPACT_STRINGS)), .val (.int (v0_4 p0 p1 p2 p3 p4 p5 w0_COMPACT_STRINGS)), .val (.int (v0_6 p0 p1 p2 p3 p4 p5 w0_COMPACT_STRINGS)), .val (.int (v0_7 p0 p1 p2 p3 p4 p5 w0_COMPACT_STRINGS)), .val (.int (v0_8 p0 p1 p2 p3 p4 p5 w0_COMPACT_STRINGS)), .val (.int (v0_16 p0 p1 p2 p3 p4 p5 w0_COMPACT_STRINGS)), .val (.int (v0_17 p0 p1 p2 p3 p4 p5 w0_COMPACT_STRINGS)), .val (.int (v0_18 p0 p1 p2 p3 p4 p5 w0_COMPACT_STRINGS)), .val (.int (v0_19 p0 p1 p2 p3 p4 p5 w0_COMPACT_STRINGS)), .val (.int (v0_20 p0 p1 p2 p3 p4 p5 w0_COMPACT_STRINGS)), .val (.ref b16), .val (.ref b24), .val (.int (v0_21 p0 p1 p2 p3 p4 p5 w0_COMPACT_STRINGS)), .val (.ref x5_0_62), .unset] [(.ref b16)])) _
        refine XS.aload X62.here hx rfl (hb hby at_291) rfl rfl ?_
        show Steps p.tables e below (T62.setTop (mkF m 293 #[.val (.int p0), .val (.int p1), .val (.int p2), .val (.int p3), .val (.int p4), .val (.int p5), .val (.int (v0_1 p0 p1 p2 p3 p4 p5 w0_COMPACT_STRINGS)), .val (.int (v0_3 p0 p1 p2 p3 p4 p5 w0_COMPACT_STRINGS)), .val (.int (v0_4 p0 p1 p2 p3 p4 p5 w0_COMPACT_STRINGS)), .val (.int (v0_6 p0 p1 p2 p3 p4 p5 w0_COMPACT_STRINGS)), .val (.int (v0_7 p0 p1 p2 p3 p4 p5 w0_COMPACT_STRINGS)), .val (.int (v0_8 p0 p1 p2 p3 p4 p5 w0_COMPACT_STRINGS)), .val (.int (v0_16 p0 p1 p2 p3 p4 p5 w0_COMPACT_STRINGS)), .val (.int (v0_17 p0 p1 p2 p3 p4 p5 w0_COMPACT_STRINGS)), .val (.int (v0_18 p0 p1 p2 p3 p4 p5 w0_COMPACT_STRINGS)), .val (.int (v0_19 p0 p1 p2 p3 p4 p5 w0_COMPACT_STRINGS)), .val (.int (v0_20 p0 p1 p2 p3 p4 p5 w0_COMPACT_STRINGS)), .val (.ref b16), .val (.ref b24), .val (.int (v0_21 p0 p1 p2 p3 p4 p5 w0_COMPACT_STRINGS)), .val (.ref x5_0_62), .unset] [(.ref x5_0_62), (.ref b16)])) _
        refine st75.trans ?_
        exact k
      obtain ⟨T87, L87, X87, e87, N87, pre87⟩ : ∃ (T' : State) (L' : List Loc), Stand p l e room_1 s m #[(.int p0), (.int p1), (.int p2), (.int p3), (.int p4), (.int p5)] below meth c T' L' 4 15 ∧ T'.heap = T62.heap ∧ Fr n0 L' ∧ ∀ t, Steps p.tables e below (T'.setTop (mkF m 314 #[.val (.int p0), .val (.int p1), .val (.int p2), .val (.int p3), .val (.int p4), .val (.int p5), .val (.int (v0_1 p0 p1 p2 p3 p4 p5 w0_COMPACT_STRINGS)), .val (.int (v0_3 p0 p1 p2 p3 p4 p5 w0_COMPACT_STRINGS)), .val (.int (v0_4 p0 p1 p2 p3 p4 p5 w0_COMPACT_STRINGS)), .val (.int (v0_6 p0 p1 p2 p3 p4 p5 w0_COMPACT_STRINGS)), .val (.int (v0_7 p0 p1 p2 p3 p4 p5 w0_COMPACT_STRINGS)), .val (.int (v0_8 p0 p1 p2 p3 p4 p5 w0_COMPACT_STRINGS)), .val (.int (v0_16 p0 p1 p2 p3 p4 p5 w0_COMPACT_STRINGS)), .val (.int (v0_17 p0 p1 p2 p3 p4 p5 w0_COMPACT_STRINGS)), .val (.int (v0_18 p0 p1 p2 p3 p4 p5 w0_COMPACT_STRINGS)), .val (.int (v0_19 p0 p1 p2 p3 p4 p5 w0_COMPACT_STRINGS)), .val (.int (v0_20 p0 p1 p2 p3 p4 p5 w0_COMPACT_STRINGS)), .val (.ref b16), .val (.ref b24), .val (.int (v0_21 p0 p1 p2 p3 p4 p5 w0_COMPACT_STRINGS)), .val (.ref x5_0_62), .unset] [(.int (v0_26 p0 p1 p2 p3 p4 p5 w0_COMPACT_STRINGS))])) t → Steps p.tables e below (s₁.setTop (entryFrame m #[(.int p0), (.int p1), (.int p2), (.int p3), (.int p4), (.int p5)] maxLocals)) t := by
        by_cases c78 : feqS = (0 : Int32)
        · skip
          have k80 := (((po21_1.ext E24).keep K30 (ninS ne25 nin0)).keep K62 nin0)
          have k81 := (((po21_2.ext E24).keep K30 (ninS ne25 nin0)).keep K62 nin0)
          have k82 := (((po21_3.ext E24).keep K30 (ninS ne25 nin0)).keep K62 nin0)
          have k83 := (((po21_4.ext E24).keep K30 (ninS ne25 nin0)).keep K62 nin0)
          have k84 := (((po21_5.ext E24).keep K30 (ninS ne25 nin0)).keep K62 nin0)
          obtain ⟨cq79, kq79, q79a, q79b, q79c⟩ := isOf hZ e75 k76
          obtain ⟨_, _, ⟨T79, L79, k79, n79⟩, -, X79, ⟨Lc79, hQ79, l79, y79, z79⟩, st79⟩ := X75.virtualBack hx (y := (⟨"com/example/vannus/vannus/Passage", "equals", "(Ljava/lang/Object;)Z"⟩ : MethodName)) (z := (⟨"com/example/vannus/vannus/Passage", "equals", "(Ljava/lang/Object;)Z"⟩ : MethodName)) hown (mvT hZ (hw _ (List.mem_of_getElem? (i := 24) rfl))) (mvT hZ (hw _ (List.mem_of_getElem? (i := 25) rfl))) (notFace_of_selects (args := #[]) (mvT hZ (hw _ (List.mem_of_getElem? (i := 27) rfl)))) (mvT hZ (hw _ (List.mem_of_getElem? (i := 27) rfl))) (mvT hZ (hw _ (List.mem_of_getElem? (i := 26) rfl))) (by decide) (backOf (W := 0) (rm4 l Z a0 hw [] b16 b16 (v0_1 p0 p1 p2 p3 p4 p5 w0_COMPACT_STRINGS) (v0_1 p0 p1 p2 p3 p4 p5 w0_COMPACT_STRINGS) (v0_3 p0 p1 p2 p3 p4 p5 w0_COMPACT_STRINGS) (v0_3 p0 p1 p2 p3 p4 p5 w0_COMPACT_STRINGS) p2 p2 (v0_4 p0 p1 p2 p3 p4 p5 w0_COMPACT_STRINGS) (v0_4 p0 p1 p2 p3 p4 p5 w0_COMPACT_STRINGS) (v0_6 p0 p1 p2 p3 p4 p5 w0_COMPACT_STRINGS) (v0_6 p0 p1 p2 p3 p4 p5 w0_COMPACT_STRINGS) T62.heap n0 z73 k76 k80 k80 k81 k81 k82 k82 k83 k83 k84 k84) hZ (hw _ (List.mem_of_getElem? (i := 28) rfl)) (hw _ (List.mem_of_getElem? (i := 7) rfl)) (by decide) (by decide)) q79a q79c (g := (mkF m 303 #[.val (.int p0), .val (.int p1), .val (.int p2), .val (.int p3), .val (.int p4), .val (.int p5), .val (.int (v0_1 p0 p1 p2 p3 p4 p5 w0_COMPACT_STRINGS)), .val (.int (v0_3 p0 p1 p2 p3 p4 p5 w0_COMPACT_STRINGS)), .val (.int (v0_4 p0 p1 p2 p3 p4 p5 w0_COMPACT_STRINGS)), .val (.int (v0_6 p0 p1 p2 p3 p4 p5 w0_COMPACT_STRINGS)), .val (.int (v0_7 p0 p1 p2 p3 p4 p5 w0_COMPACT_STRINGS)), .val (.int (v0_8 p0 p1 p2 p3 p4 p5 w0_COMPACT_STRINGS)), .val (.int (v0_16 p0 p1 p2 p3 p4 p5 w0_COMPACT_STRINGS)), .val (.int (v0_17 p0 p1 p2 p3 p4 p5 w0_COMPACT_STRINGS)), .val (.int (v0_18 p0 p1 p2 p3 p4 p5 w0_COMPACT_STRINGS)), .val (.int (v0_19 p0 p1 p2 p3 p4 p5 w0_COMPACT_STRINGS)), .val (.int (v0_20 p0 p1 p2 p3 p4 p5 w0_COMPACT_STRINGS)), .val (.ref b16), .val (.ref b24), .val (.int (v0_21 p0 p1 p2 p3 p4 p5 w0_COMPACT_STRINGS)), .val (.ref x5_0_62), .unset] [(.ref b16), (.ref b16)])) rfl (by rw [hml]; rfl) (Steps.refl _) (argsL := [(.ref b16)]) (rest := []) (lenOf pd__Ljava_lang_Object__Z rfl) rfl (by show 2 * 0 + _ ≤ _; exact Nat.le_of_eq rfl) (hb hby at_303) (fun _ _ => ⟨rfl, e75, (by decide : 4 + 0 ≤ _), (by decide : 15 + 0 ≤ _)⟩)
          dsimp only [Pt.U, Pt.locs, Pt.cells, Pt.slots] at X79 l79 y79 z79 st79 hQ79
          subst l79 y79 z79
          obtain ⟨N79q, rfl, e79⟩ := hQ79
          have N79 := Fr.app N75 N79q
          have pre85 : ∀ t, Steps p.tables e below (T79.setTop (mkF m 306 #[.val (.int p0), .val (.int p1), .val (.int p2), .val (.int p3), .val (.int p4), .val (.int p5), .val (.int (v0_1 p0 p1 p2 p3 p4 p5 w0_COMPACT_STRINGS)), .val (.int (v0_3 p0 p1 p2 p3 p4 p5 w0_COMPACT_STRINGS)), .val (.int (v0_4 p0 p1 p2 p3 p4 p5 w0_COMPACT_STRINGS)), .val (.int (v0_6 p0 p1 p2 p3 p4 p5 w0_COMPACT_STRINGS)), .val (.int (v0_7 p0 p1 p2 p3 p4 p5 w0_COMPACT_STRINGS)), .val (.int (v0_8 p0 p1 p2 p3 p4 p5 w0_COMPACT_STRINGS)), .val (.int (v0_16 p0 p1 p2 p3 p4 p5 w0_COMPACT_STRINGS)), .val (.int (v0_17 p0 p1 p2 p3 p4 p5 w0_COMPACT_STRINGS)), .val (.int (v0_18 p0 p1 p2 p3 p4 p5 w0_COMPACT_STRINGS)), .val (.int (v0_19 p0 p1 p2 p3 p4 p5 w0_COMPACT_STRINGS)), .val (.int (v0_20 p0 p1 p2 p3 p4 p5 w0_COMPACT_STRINGS)), .val (.ref b16), .val (.ref b24), .val (.int (v0_21 p0 p1 p2 p3 p4 p5 w0_COMPACT_STRINGS)), .val (.ref x5_0_62), .unset] [(.int (f4 (v0_1 p0 p1 p2 p3 p4 p5 w0_COMPACT_STRINGS) (v0_1 p0 p1 p2 p3 p4 p5 w0_COMPACT_STRINGS) (v0_3 p0 p1 p2 p3 p4 p5 w0_COMPACT_STRINGS) (v0_3 p0 p1 p2 p3 p4 p5 w0_COMPACT_STRINGS) p2 p2 (v0_4 p0 p1 p2 p3 p4 p5 w0_COMPACT_STRINGS) (v0_4 p0 p1 p2 p3 p4 p5 w0_COMPACT_STRINGS) (v0_6 p0 p1 p2 p3 p4 p5 w0_COMPACT_STRINGS) (v0_6 p0 p1 p2 p3 p4 p5 w0_COMPACT_STRINGS)))])) t → Steps p.tables e below (s₁.setTop (entryFrame m #[(.int p0), (.int p1), (.int p2), (.int p3), (.int p4), (.int p5)] maxLocals)) t := by
            intro t k
            refine pre77 t ?_
            show Steps p.tables e below (T75.setTop (mkF m 296 #[.val (.int p0), .val (.int p1), .val (.int p2), .val (.int p3), .val (.int p4), .val (.int p5), .val (.int (v0_1 p0 p1 p2 p3 p4 p5 w0_COMPACT_STRINGS)), .val (.int (v0_3 p0 p1 p2 p3 p4 p5 w0_COMPACT_STRINGS)), .val (.int (v0_4 p0 p1 p2 p3 p4 p5 w0_COMPACT_STRINGS)), .val (.int (v0_6 p0 p1 p2 p3 p4 p5 w0_COMPACT_STRINGS)), .val (.int (v0_7 p0 p1 p2 p3 p4 p5 w0_COMPACT_STRINGS)), .val (.int (v0_8 p0 p1 p2 p3 p4 p5 w0_COMPACT_STRINGS)), .val (.int (v0_16 p0 p1 p2 p3 p4 p5 w0_COMPACT_STRINGS)), .val (.int (v0_17 p0 p1 p2 p3 p4 p5 w0_COMPACT_STRINGS)), .val (.int (v0_18 p0 p1 p2 p3 p4 p5 w0_COMPACT_STRINGS)), .val (.int (v0_19 p0 p1 p2 p3 p4 p5 w0_COMPACT_STRINGS)), .val (.int (v0_20 p0 p1 p2 p3 p4 p5 w0_COMPACT_STRINGS)), .val (.ref b16), .val (.ref b24), .val (.int (v0_21 p0 p1 p2 p3 p4 p5 w0_COMPACT_STRINGS)), .val (.ref x5_0_62), .unset] [(.int feqS)])) _
            refine XS.ifNo X75.here hx rfl (hb hby at_296) rfl (XT.i0_ne_f c78) ?_
            show Steps p.tables e below (T75.setTop (mkF m 299 #[.val (.int p0), .val (.int p1), .val (.int p2), .val (.int p3), .val (.int p4), .val (.int p5), .val (.int (v0_1 p0 p1 p2 p3 p4 p5 w0_COMPACT_STRINGS)), .val (.int (v0_3 p0 p1 p2 p3 p4 p5 w0_COMPACT_STRINGS)), .val (.int (v0_4 p0 p1 p2 p3 p4 p5 w0_COMPACT_STRINGS)), .val (.int (v0_6 p0 p1 p2 p3 p4 p5 w0_COMPACT_STRINGS)), .val (.int (v0_7 p0 p1 p2 p3 p4 p5 w0_COMPACT_STRINGS)), .val (.int (v0_8 p0 p1 p2 p3 p4 p5 w0_COMPACT_STRINGS)), .val (.int (v0_16 p0 p1 p2 p3 p4 p5 w0_COMPACT_STRINGS)), .val (.int (v0_17 p0 p1 p2 p3 p4 p5 w0_COMPACT_STRINGS)), .val (.int (v0_18 p0 p1 p2 p3 p4 p5 w0_COMPACT_STRINGS)), .val (.int (v0_19 p0 p1 p2 p3 p4 p5 w0_COMPACT_STRINGS)), .val (.int (v0_20 p0 p1 p2 p3 p4 p5 w0_COMPACT_STRINGS)), .val (.ref b16), .val (.ref b24), .val (.int (v0_21 p0 p1 p2 p3 p4 p5 w0_COMPACT_STRINGS)), .val (.ref x5_0_62), .unset] [])) _
            refine XS.aload X75.here hx rfl (hb hby at_299) rfl rfl ?_
            show Steps p.tables e below (T75.setTop (mkF m 301 #[.val (.int p0), .val (.int p1), .val (.int p2), .val (.int p3), .val (.int p4), .val (.int p5), .val (.int (v0_1 p0 p1 p2 p3 p4 p5 w0_COMPACT_STRINGS)), .val (.int (v0_3 p0 p1 p2 p3 p4 p5 w0_COMPACT_STRINGS)), .val (.int (v0_4 p0 p1 p2 p3 p4 p5 w0_COMPACT_STRINGS)), .val (.int (v0_6 p0 p1 p2 p3 p4 p5 w0_COMPACT_STRINGS)), .val (.int (v0_7 p0 p1 p2 p3 p4 p5 w0_COMPACT_STRINGS)), .val (.int (v0_8 p0 p1 p2 p3 p4 p5 w0_COMPACT_STRINGS)), .val (.int (v0_16 p0 p1 p2 p3 p4 p5 w0_COMPACT_STRINGS)), .val (.int (v0_17 p0 p1 p2 p3 p4 p5 w0_COMPACT_STRINGS)), .val (.int (v0_18 p0 p1 p2 p3 p4 p5 w0_COMPACT_STRINGS)), .val (.int (v0_19 p0 p1 p2 p3 p4 p5 w0_COMPACT_STRINGS)), .val (.int (v0_20 p0 p1 p2 p3 p4 p5 w0_COMPACT_STRINGS)), .val (.ref b16), .val (.ref b24), .val (.int (v0_21 p0 p1 p2 p3 p4 p5 w0_COMPACT_STRINGS)), .val (.ref x5_0_62), .unset] [(.ref b16)])) _
            refine XS.aload X75.here hx rfl (hb hby at_301) rfl rfl ?_
            show Steps p.tables e below (T75.setTop (mkF m 303 #[.val (.int p0), .val (.int p1), .val (.int p2), .val (.int p3), .val (.int p4), .val (.int p5), .val (.int (v0_1 p0 p1 p2 p3 p4 p5 w0_COMPACT_STRINGS)), .val (.int (v0_3 p0 p1 p2 p3 p4 p5 w0_COMPACT_STRINGS)), .val (.int (v0_4 p0 p1 p2 p3 p4 p5 w0_COMPACT_STRINGS)), .val (.int (v0_6 p0 p1 p2 p3 p4 p5 w0_COMPACT_STRINGS)), .val (.int (v0_7 p0 p1 p2 p3 p4 p5 w0_COMPACT_STRINGS)), .val (.int (v0_8 p0 p1 p2 p3 p4 p5 w0_COMPACT_STRINGS)), .val (.int (v0_16 p0 p1 p2 p3 p4 p5 w0_COMPACT_STRINGS)), .val (.int (v0_17 p0 p1 p2 p3 p4 p5 w0_COMPACT_STRINGS)), .val (.int (v0_18 p0 p1 p2 p3 p4 p5 w0_COMPACT_STRINGS)), .val (.int (v0_19 p0 p1 p2 p3 p4 p5 w0_COMPACT_STRINGS)), .val (.int (v0_20 p0 p1 p2 p3 p4 p5 w0_COMPACT_STRINGS)), .val (.ref b16), .val (.ref b24), .val (.int (v0_21 p0 p1 p2 p3 p4 p5 w0_COMPACT_STRINGS)), .val (.ref x5_0_62), .unset] [(.ref b16), (.ref b16)])) _
            refine st79.trans ?_
            exact k
          by_cases c86 : (v0_25 p0 p1 p2 p3 p4 p5 w0_COMPACT_STRINGS) = (0 : Int32)
          · skip
            refine ⟨T79, _, X79, e79, N79, fun t k => ?_⟩
            rw [show (v0_26 p0 p1 p2 p3 p4 p5 w0_COMPACT_STRINGS) = (0 : Int32) from ((if_pos c78).trans (if_pos c86))] at k
            refine pre85 t ?_
            show Steps p.tables e below (T79.setTop (mkF m 306 #[.val (.int p0), .val (.int p1), .val (.int p2), .val (.int p3), .val (.int p4), .val (.int p5), .val (.int (v0_1 p0 p1 p2 p3 p4 p5 w0_COMPACT_STRINGS)), .val (.int (v0_3 p0 p1 p2 p3 p4 p5 w0_COMPACT_STRINGS)), .val (.int (v0_4 p0 p1 p2 p3 p4 p5 w0_COMPACT_STRINGS)), .val (.int (v0_6 p0 p1 p2 p3 p4 p5 w0_COMPACT_STRINGS)), .val (.int (v0_7 p0 p1 p2 p3 p4 p5 w0_COMPACT_STRINGS)), .val (.int (v0_8 p0 p1 p2 p3 p4 p5 w0_COMPACT_STRINGS)), .val (.int (v0_16 p0 p1 p2 p3 p4 p5 w0_COMPACT_STRINGS)), .val (.int (v0_17 p0 p1 p2 p3 p4 p5 w0_COMPACT_STRINGS)), .val (.int (v0_18 p0 p1 p2 p3 p4 p5 w0_COMPACT_STRINGS)), .val (.int (v0_19 p0 p1 p2 p3 p4 p5 w0_COMPACT_STRINGS)), .val (.int (v0_20 p0 p1 p2 p3 p4 p5 w0_COMPACT_STRINGS)), .val (.ref b16), .val (.ref b24), .val (.int (v0_21 p0 p1 p2 p3 p4 p5 w0_COMPACT_STRINGS)), .val (.ref x5_0_62), .unset] [(.int (f4 (v0_1 p0 p1 p2 p3 p4 p5 w0_COMPACT_STRINGS) (v0_1 p0 p1 p2 p3 p4 p5 w0_COMPACT_STRINGS) (v0_3 p0 p1 p2 p3 p4 p5 w0_COMPACT_STRINGS) (v0_3 p0 p1 p2 p3 p4 p5 w0_COMPACT_STRINGS) p2 p2 (v0_4 p0 p1 p2 p3 p4 p5 w0_COMPACT_STRINGS) (v0_4 p0 p1 p2 p3 p4 p5 w0_COMPACT_STRINGS) (v0_6 p0 p1 p2 p3 p4 p5 w0_COMPACT_STRINGS) (v0_6 p0 p1 p2 p3 p4 p5 w0_COMPACT_STRINGS)))])) _
            refine XS.ifYes X79.here hx rfl (pc0 := 306) (pc' := 313) rfl (hb hby at_306) rfl (XT.i0_eq_t c86) (by decide) (by decide) ?_
            show Steps p.tables e below (T79.setTop (mkF m 313 #[.val (.int p0), .val (.int p1), .val (.int p2), .val (.int p3), .val (.int p4), .val (.int p5), .val (.int (v0_1 p0 p1 p2 p3 p4 p5 w0_COMPACT_STRINGS)), .val (.int (v0_3 p0 p1 p2 p3 p4 p5 w0_COMPACT_STRINGS)), .val (.int (v0_4 p0 p1 p2 p3 p4 p5 w0_COMPACT_STRINGS)), .val (.int (v0_6 p0 p1 p2 p3 p4 p5 w0_COMPACT_STRINGS)), .val (.int (v0_7 p0 p1 p2 p3 p4 p5 w0_COMPACT_STRINGS)), .val (.int (v0_8 p0 p1 p2 p3 p4 p5 w0_COMPACT_STRINGS)), .val (.int (v0_16 p0 p1 p2 p3 p4 p5 w0_COMPACT_STRINGS)), .val (.int (v0_17 p0 p1 p2 p3 p4 p5 w0_COMPACT_STRINGS)), .val (.int (v0_18 p0 p1 p2 p3 p4 p5 w0_COMPACT_STRINGS)), .val (.int (v0_19 p0 p1 p2 p3 p4 p5 w0_COMPACT_STRINGS)), .val (.int (v0_20 p0 p1 p2 p3 p4 p5 w0_COMPACT_STRINGS)), .val (.ref b16), .val (.ref b24), .val (.int (v0_21 p0 p1 p2 p3 p4 p5 w0_COMPACT_STRINGS)), .val (.ref x5_0_62), .unset] [])) _
            refine XT.iconstV X79.here hx rfl (0 : Int32) (hb hby at_313) (by decide) ?_
            exact k
          · skip
            refine ⟨T79, _, X79, e79, N79, fun t k => ?_⟩
            rw [show (v0_26 p0 p1 p2 p3 p4 p5 w0_COMPACT_STRINGS) = (1 : Int32) from ((if_pos c78).trans (if_neg c86))] at k
            refine pre85 t ?_
            show Steps p.tables e below (T79.setTop (mkF m 306 #[.val (.int p0), .val (.int p1), .val (.int p2), .val (.int p3), .val (.int p4), .val (.int p5), .val (.int (v0_1 p0 p1 p2 p3 p4 p5 w0_COMPACT_STRINGS)), .val (.int (v0_3 p0 p1 p2 p3 p4 p5 w0_COMPACT_STRINGS)), .val (.int (v0_4 p0 p1 p2 p3 p4 p5 w0_COMPACT_STRINGS)), .val (.int (v0_6 p0 p1 p2 p3 p4 p5 w0_COMPACT_STRINGS)), .val (.int (v0_7 p0 p1 p2 p3 p4 p5 w0_COMPACT_STRINGS)), .val (.int (v0_8 p0 p1 p2 p3 p4 p5 w0_COMPACT_STRINGS)), .val (.int (v0_16 p0 p1 p2 p3 p4 p5 w0_COMPACT_STRINGS)), .val (.int (v0_17 p0 p1 p2 p3 p4 p5 w0_COMPACT_STRINGS)), .val (.int (v0_18 p0 p1 p2 p3 p4 p5 w0_COMPACT_STRINGS)), .val (.int (v0_19 p0 p1 p2 p3 p4 p5 w0_COMPACT_STRINGS)), .val (.int (v0_20 p0 p1 p2 p3 p4 p5 w0_COMPACT_STRINGS)), .val (.ref b16), .val (.ref b24), .val (.int (v0_21 p0 p1 p2 p3 p4 p5 w0_COMPACT_STRINGS)), .val (.ref x5_0_62), .unset] [(.int (f4 (v0_1 p0 p1 p2 p3 p4 p5 w0_COMPACT_STRINGS) (v0_1 p0 p1 p2 p3 p4 p5 w0_COMPACT_STRINGS) (v0_3 p0 p1 p2 p3 p4 p5 w0_COMPACT_STRINGS) (v0_3 p0 p1 p2 p3 p4 p5 w0_COMPACT_STRINGS) p2 p2 (v0_4 p0 p1 p2 p3 p4 p5 w0_COMPACT_STRINGS) (v0_4 p0 p1 p2 p3 p4 p5 w0_COMPACT_STRINGS) (v0_6 p0 p1 p2 p3 p4 p5 w0_COMPACT_STRINGS) (v0_6 p0 p1 p2 p3 p4 p5 w0_COMPACT_STRINGS)))])) _
            refine XS.ifNo X79.here hx rfl (hb hby at_306) rfl (XT.i0_eq_f c86) ?_
            show Steps p.tables e below (T79.setTop (mkF m 309 #[.val (.int p0), .val (.int p1), .val (.int p2), .val (.int p3), .val (.int p4), .val (.int p5), .val (.int (v0_1 p0 p1 p2 p3 p4 p5 w0_COMPACT_STRINGS)), .val (.int (v0_3 p0 p1 p2 p3 p4 p5 w0_COMPACT_STRINGS)), .val (.int (v0_4 p0 p1 p2 p3 p4 p5 w0_COMPACT_STRINGS)), .val (.int (v0_6 p0 p1 p2 p3 p4 p5 w0_COMPACT_STRINGS)), .val (.int (v0_7 p0 p1 p2 p3 p4 p5 w0_COMPACT_STRINGS)), .val (.int (v0_8 p0 p1 p2 p3 p4 p5 w0_COMPACT_STRINGS)), .val (.int (v0_16 p0 p1 p2 p3 p4 p5 w0_COMPACT_STRINGS)), .val (.int (v0_17 p0 p1 p2 p3 p4 p5 w0_COMPACT_STRINGS)), .val (.int (v0_18 p0 p1 p2 p3 p4 p5 w0_COMPACT_STRINGS)), .val (.int (v0_19 p0 p1 p2 p3 p4 p5 w0_COMPACT_STRINGS)), .val (.int (v0_20 p0 p1 p2 p3 p4 p5 w0_COMPACT_STRINGS)), .val (.ref b16), .val (.ref b24), .val (.int (v0_21 p0 p1 p2 p3 p4 p5 w0_COMPACT_STRINGS)), .val (.ref x5_0_62), .unset] [])) _
            refine XT.iconstV X79.here hx rfl (1 : Int32) (hb hby at_309) (by decide) ?_
            show Steps p.tables e below (T79.setTop (mkF m 310 #[.val (.int p0), .val (.int p1), .val (.int p2), .val (.int p3), .val (.int p4), .val (.int p5), .val (.int (v0_1 p0 p1 p2 p3 p4 p5 w0_COMPACT_STRINGS)), .val (.int (v0_3 p0 p1 p2 p3 p4 p5 w0_COMPACT_STRINGS)), .val (.int (v0_4 p0 p1 p2 p3 p4 p5 w0_COMPACT_STRINGS)), .val (.int (v0_6 p0 p1 p2 p3 p4 p5 w0_COMPACT_STRINGS)), .val (.int (v0_7 p0 p1 p2 p3 p4 p5 w0_COMPACT_STRINGS)), .val (.int (v0_8 p0 p1 p2 p3 p4 p5 w0_COMPACT_STRINGS)), .val (.int (v0_16 p0 p1 p2 p3 p4 p5 w0_COMPACT_STRINGS)), .val (.int (v0_17 p0 p1 p2 p3 p4 p5 w0_COMPACT_STRINGS)), .val (.int (v0_18 p0 p1 p2 p3 p4 p5 w0_COMPACT_STRINGS)), .val (.int (v0_19 p0 p1 p2 p3 p4 p5 w0_COMPACT_STRINGS)), .val (.int (v0_20 p0 p1 p2 p3 p4 p5 w0_COMPACT_STRINGS)), .val (.ref b16), .val (.ref b24), .val (.int (v0_21 p0 p1 p2 p3 p4 p5 w0_COMPACT_STRINGS)), .val (.ref x5_0_62), .unset] [(.int (1 : Int32))])) _
            refine XS.goto X79.here hx rfl (pc0 := 310) (pc' := 314) rfl (hb hby at_310) (by decide) (by decide) ?_
            exact k
        · skip
          refine ⟨T75, _, X75, e75, N75, fun t k => ?_⟩
          rw [show (v0_26 p0 p1 p2 p3 p4 p5 w0_COMPACT_STRINGS) = (0 : Int32) from (if_neg c78)] at k
          refine pre77 t ?_
          show Steps p.tables e below (T75.setTop (mkF m 296 #[.val (.int p0), .val (.int p1), .val (.int p2), .val (.int p3), .val (.int p4), .val (.int p5), .val (.int (v0_1 p0 p1 p2 p3 p4 p5 w0_COMPACT_STRINGS)), .val (.int (v0_3 p0 p1 p2 p3 p4 p5 w0_COMPACT_STRINGS)), .val (.int (v0_4 p0 p1 p2 p3 p4 p5 w0_COMPACT_STRINGS)), .val (.int (v0_6 p0 p1 p2 p3 p4 p5 w0_COMPACT_STRINGS)), .val (.int (v0_7 p0 p1 p2 p3 p4 p5 w0_COMPACT_STRINGS)), .val (.int (v0_8 p0 p1 p2 p3 p4 p5 w0_COMPACT_STRINGS)), .val (.int (v0_16 p0 p1 p2 p3 p4 p5 w0_COMPACT_STRINGS)), .val (.int (v0_17 p0 p1 p2 p3 p4 p5 w0_COMPACT_STRINGS)), .val (.int (v0_18 p0 p1 p2 p3 p4 p5 w0_COMPACT_STRINGS)), .val (.int (v0_19 p0 p1 p2 p3 p4 p5 w0_COMPACT_STRINGS)), .val (.int (v0_20 p0 p1 p2 p3 p4 p5 w0_COMPACT_STRINGS)), .val (.ref b16), .val (.ref b24), .val (.int (v0_21 p0 p1 p2 p3 p4 p5 w0_COMPACT_STRINGS)), .val (.ref x5_0_62), .unset] [(.int feqS)])) _
          refine XS.ifYes X75.here hx rfl (pc0 := 296) (pc' := 313) rfl (hb hby at_296) rfl (XT.i0_ne_t c78) (by decide) (by decide) ?_
          show Steps p.tables e below (T75.setTop (mkF m 313 #[.val (.int p0), .val (.int p1), .val (.int p2), .val (.int p3), .val (.int p4), .val (.int p5), .val (.int (v0_1 p0 p1 p2 p3 p4 p5 w0_COMPACT_STRINGS)), .val (.int (v0_3 p0 p1 p2 p3 p4 p5 w0_COMPACT_STRINGS)), .val (.int (v0_4 p0 p1 p2 p3 p4 p5 w0_COMPACT_STRINGS)), .val (.int (v0_6 p0 p1 p2 p3 p4 p5 w0_COMPACT_STRINGS)), .val (.int (v0_7 p0 p1 p2 p3 p4 p5 w0_COMPACT_STRINGS)), .val (.int (v0_8 p0 p1 p2 p3 p4 p5 w0_COMPACT_STRINGS)), .val (.int (v0_16 p0 p1 p2 p3 p4 p5 w0_COMPACT_STRINGS)), .val (.int (v0_17 p0 p1 p2 p3 p4 p5 w0_COMPACT_STRINGS)), .val (.int (v0_18 p0 p1 p2 p3 p4 p5 w0_COMPACT_STRINGS)), .val (.int (v0_19 p0 p1 p2 p3 p4 p5 w0_COMPACT_STRINGS)), .val (.int (v0_20 p0 p1 p2 p3 p4 p5 w0_COMPACT_STRINGS)), .val (.ref b16), .val (.ref b24), .val (.int (v0_21 p0 p1 p2 p3 p4 p5 w0_COMPACT_STRINGS)), .val (.ref x5_0_62), .unset] [])) _
          refine XT.iconstV X75.here hx rfl (0 : Int32) (hb hby at_313) (by decide) ?_
          exact k
      have hv88 : (v0_26 p0 p1 p2 p3 p4 p5 w0_COMPACT_STRINGS) = (1 : Int32) := own_v0_26 p0 p1 p2 p3 p4 p5 w0_COMPACT_STRINGS c45 c61
      obtain ⟨fs, hr, hrun, hended, hW, hsame⟩ := X87.leave (v := some (.int (1 : Int32))) (fun h => by rw [Bd.returns] at h; cases h) hlk
      refine ⟨_, _, pre87 _ ?_, hrun, hended, _, _, rfl, ?_, ⟨_, rfl⟩, hW, hsame.mono (by decide) (by decide)⟩
      · skip
        show Steps p.tables e below (T87.setTop (mkF m 314 #[.val (.int p0), .val (.int p1), .val (.int p2), .val (.int p3), .val (.int p4), .val (.int p5), .val (.int (v0_1 p0 p1 p2 p3 p4 p5 w0_COMPACT_STRINGS)), .val (.int (v0_3 p0 p1 p2 p3 p4 p5 w0_COMPACT_STRINGS)), .val (.int (v0_4 p0 p1 p2 p3 p4 p5 w0_COMPACT_STRINGS)), .val (.int (v0_6 p0 p1 p2 p3 p4 p5 w0_COMPACT_STRINGS)), .val (.int (v0_7 p0 p1 p2 p3 p4 p5 w0_COMPACT_STRINGS)), .val (.int (v0_8 p0 p1 p2 p3 p4 p5 w0_COMPACT_STRINGS)), .val (.int (v0_16 p0 p1 p2 p3 p4 p5 w0_COMPACT_STRINGS)), .val (.int (v0_17 p0 p1 p2 p3 p4 p5 w0_COMPACT_STRINGS)), .val (.int (v0_18 p0 p1 p2 p3 p4 p5 w0_COMPACT_STRINGS)), .val (.int (v0_19 p0 p1 p2 p3 p4 p5 w0_COMPACT_STRINGS)), .val (.int (v0_20 p0 p1 p2 p3 p4 p5 w0_COMPACT_STRINGS)), .val (.ref b16), .val (.ref b24), .val (.int (v0_21 p0 p1 p2 p3 p4 p5 w0_COMPACT_STRINGS)), .val (.ref x5_0_62), .unset] [(.int (v0_26 p0 p1 p2 p3 p4 p5 w0_COMPACT_STRINGS))])) _
        rw [hv88]
        exact retN X87 hx (t := .boolean) Bd.returns (by simp) (hb hby at_314) hr
      · skip
        show Q0 Z p0 p1 p2 p3 p4 p5 w0_COMPACT_STRINGS h0 n0 _ T87.heap _
        rw [e87]
        exact ⟨rfl, N87⟩
    · skip
      have k90 := ((po21_1.ext E24).keep K30 (ninS ne25 nin0))
      have k91 := ((po21_2.ext E24).keep K30 (ninS ne25 nin0))
      have k92 := ((po21_3.ext E24).keep K30 (ninS ne25 nin0))
      have k93 := ((po21_4.ext E24).keep K30 (ninS ne25 nin0))
      have k94 := ((po21_5.ext E24).keep K30 (ninS ne25 nin0))
      have k95 := ((po21_0.ext E24).keep K30)
      obtain ⟨cq89, kq89, q89a, q89b, q89c⟩ := isOf hZ rfl k95
      obtain ⟨_, _, ⟨T89, L89, k89, n89⟩, -, X89, ⟨Lc89, hQ89, l89, y89, z89⟩, st89⟩ := X30.virtualBack hx (y := (⟨"com/example/vannus/vannus/Passage", "equals", "(Ljava/lang/Object;)Z"⟩ : MethodName)) (z := (⟨"com/example/vannus/vannus/Passage", "equals", "(Ljava/lang/Object;)Z"⟩ : MethodName)) hown (mvT hZ (hw _ (List.mem_of_getElem? (i := 24) rfl))) (mvT hZ (hw _ (List.mem_of_getElem? (i := 25) rfl))) (notFace_of_selects (args := #[]) (mvT hZ (hw _ (List.mem_of_getElem? (i := 27) rfl)))) (mvT hZ (hw _ (List.mem_of_getElem? (i := 27) rfl))) (mvT hZ (hw _ (List.mem_of_getElem? (i := 26) rfl))) (by decide) (backOf (W := 0) (rm4 l Z a0 hw [] b16 b24 (v0_1 p0 p1 p2 p3 p4 p5 w0_COMPACT_STRINGS) (v0_16 p0 p1 p2 p3 p4 p5 w0_COMPACT_STRINGS) (v0_3 p0 p1 p2 p3 p4 p5 w0_COMPACT_STRINGS) (v0_17 p0 p1 p2 p3 p4 p5 w0_COMPACT_STRINGS) p2 (v0_18 p0 p1 p2 p3 p4 p5 w0_COMPACT_STRINGS) (v0_4 p0 p1 p2 p3 p4 p5 w0_COMPACT_STRINGS) (v0_19 p0 p1 p2 p3 p4 p5 w0_COMPACT_STRINGS) (v0_6 p0 p1 p2 p3 p4 p5 w0_COMPACT_STRINGS) (v0_20 p0 p1 p2 p3 p4 p5 w0_COMPACT_STRINGS) T30.heap n0 z31 po30_0 k90 po30_1 k91 po30_2 k92 po30_3 k93 po30_4 k94 po30_5) hZ (hw _ (List.mem_of_getElem? (i := 28) rfl)) (hw _ (List.mem_of_getElem? (i := 7) rfl)) (by decide) (by decide)) q89a q89c (g := (mkF m 319 #[.val (.int p0), .val (.int p1), .val (.int p2), .val (.int p3), .val (.int p4), .val (.int p5), .val (.int (v0_1 p0 p1 p2 p3 p4 p5 w0_COMPACT_STRINGS)), .val (.int (v0_3 p0 p1 p2 p3 p4 p5 w0_COMPACT_STRINGS)), .val (.int (v0_4 p0 p1 p2 p3 p4 p5 w0_COMPACT_STRINGS)), .val (.int (v0_6 p0 p1 p2 p3 p4 p5 w0_COMPACT_STRINGS)), .val (.int (v0_7 p0 p1 p2 p3 p4 p5 w0_COMPACT_STRINGS)), .val (.int (v0_8 p0 p1 p2 p3 p4 p5 w0_COMPACT_STRINGS)), .val (.int (v0_16 p0 p1 p2 p3 p4 p5 w0_COMPACT_STRINGS)), .val (.int (v0_17 p0 p1 p2 p3 p4 p5 w0_COMPACT_STRINGS)), .val (.int (v0_18 p0 p1 p2 p3 p4 p5 w0_COMPACT_STRINGS)), .val (.int (v0_19 p0 p1 p2 p3 p4 p5 w0_COMPACT_STRINGS)), .val (.int (v0_20 p0 p1 p2 p3 p4 p5 w0_COMPACT_STRINGS)), .val (.ref b16), .val (.ref b24), .val (.int (v0_21 p0 p1 p2 p3 p4 p5 w0_COMPACT_STRINGS)), .unset, .unset] [(.ref b24), (.ref b16)])) rfl (by rw [hml]; rfl) (Steps.refl _) (argsL := [(.ref b24)]) (rest := []) (lenOf pd__Ljava_lang_Object__Z rfl) rfl (by show 2 * 0 + _ ≤ _; exact Nat.le_of_eq rfl) (hb hby at_319) (fun _ _ => ⟨rfl, rfl, (by decide : 2 + 0 ≤ _), (by decide : 10 + 0 ≤ _)⟩)
      dsimp only [Pt.U, Pt.locs, Pt.cells, Pt.slots] at X89 l89 y89 z89 st89 hQ89
      subst l89 y89 z89
      obtain ⟨N89q, rfl, e89⟩ := hQ89
      have N89 := Fr.app N30 N89q
      obtain ⟨cq96, kq96, q96a, q96b, q96c⟩ := isOf hZ e89 po30_0
      obtain ⟨_, _, ⟨T96, L96, k96, n96⟩, -, X96, ⟨Lc96, hQ96, l96, y96, z96⟩, st96⟩ := X89.virtualBack hx (y := (⟨"com/example/vannus/vannus/Passage", "equals", "(Ljava/lang/Object;)Z"⟩ : MethodName)) (z := (⟨"com/example/vannus/vannus/Passage", "equals", "(Ljava/lang/Object;)Z"⟩ : MethodName)) hown (mvT hZ (hw _ (List.mem_of_getElem? (i := 24) rfl))) (mvT hZ (hw _ (List.mem_of_getElem? (i := 25) rfl))) (notFace_of_selects (args := #[]) (mvT hZ (hw _ (List.mem_of_getElem? (i := 27) rfl)))) (mvT hZ (hw _ (List.mem_of_getElem? (i := 27) rfl))) (mvT hZ (hw _ (List.mem_of_getElem? (i := 26) rfl))) (by decide) (backOf (W := 0) (rm4 l Z a0 hw [] b24 b16 (v0_16 p0 p1 p2 p3 p4 p5 w0_COMPACT_STRINGS) (v0_1 p0 p1 p2 p3 p4 p5 w0_COMPACT_STRINGS) (v0_17 p0 p1 p2 p3 p4 p5 w0_COMPACT_STRINGS) (v0_3 p0 p1 p2 p3 p4 p5 w0_COMPACT_STRINGS) (v0_18 p0 p1 p2 p3 p4 p5 w0_COMPACT_STRINGS) p2 (v0_19 p0 p1 p2 p3 p4 p5 w0_COMPACT_STRINGS) (v0_4 p0 p1 p2 p3 p4 p5 w0_COMPACT_STRINGS) (v0_20 p0 p1 p2 p3 p4 p5 w0_COMPACT_STRINGS) (v0_6 p0 p1 p2 p3 p4 p5 w0_COMPACT_STRINGS) T30.heap n0 z31 k95 po30_1 k90 po30_2 k91 po30_3 k92 po30_4 k93 po30_5 k94) hZ (hw _ (List.mem_of_getElem? (i := 28) rfl)) (hw _ (List.mem_of_getElem? (i := 7) rfl)) (by decide) (by decide)) q96a q96c (g := (mkF m 328 #[.val (.int p0), .val (.int p1), .val (.int p2), .val (.int p3), .val (.int p4), .val (.int p5), .val (.int (v0_1 p0 p1 p2 p3 p4 p5 w0_COMPACT_STRINGS)), .val (.int (v0_3 p0 p1 p2 p3 p4 p5 w0_COMPACT_STRINGS)), .val (.int (v0_4 p0 p1 p2 p3 p4 p5 w0_COMPACT_STRINGS)), .val (.int (v0_6 p0 p1 p2 p3 p4 p5 w0_COMPACT_STRINGS)), .val (.int (v0_7 p0 p1 p2 p3 p4 p5 w0_COMPACT_STRINGS)), .val (.int (v0_8 p0 p1 p2 p3 p4 p5 w0_COMPACT_STRINGS)), .val (.int (v0_16 p0 p1 p2 p3 p4 p5 w0_COMPACT_STRINGS)), .val (.int (v0_17 p0 p1 p2 p3 p4 p5 w0_COMPACT_STRINGS)), .val (.int (v0_18 p0 p1 p2 p3 p4 p5 w0_COMPACT_STRINGS)), .val (.int (v0_19 p0 p1 p2 p3 p4 p5 w0_COMPACT_STRINGS)), .val (.int (v0_20 p0 p1 p2 p3 p4 p5 w0_COMPACT_STRINGS)), .val (.ref b16), .val (.ref b24), .val (.int (v0_21 p0 p1 p2 p3 p4 p5 w0_COMPACT_STRINGS)), .val (.int (v0_27 p0 p1 p2 p3 p4 p5 w0_COMPACT_STRINGS)), .unset] [(.ref b16), (.ref b24)])) rfl (by rw [hml]; rfl) (Steps.refl _) (argsL := [(.ref b16)]) (rest := []) (lenOf pd__Ljava_lang_Object__Z rfl) rfl (by show 2 * 0 + _ ≤ _; exact Nat.le_of_eq rfl) (hb hby at_328) (fun _ _ => ⟨rfl, e89, (by decide : 2 + 0 ≤ _), (by decide : 10 + 0 ≤ _)⟩)
      dsimp only [Pt.U, Pt.locs, Pt.cells, Pt.slots] at X96 l96 y96 z96 st96 hQ96
      subst l96 y96 z96
      obtain ⟨N96q, rfl, e96⟩ := hQ96
      have N96 := Fr.app N89 N96q
      have pre97 : ∀ t, Steps p.tables e below (T96.setTop (mkF m 337 #[.val (.int p0), .val (.int p1), .val (.int p2), .val (.int p3), .val (.int p4), .val (.int p5), .val (.int (v0_1 p0 p1 p2 p3 p4 p5 w0_COMPACT_STRINGS)), .val (.int (v0_3 p0 p1 p2 p3 p4 p5 w0_COMPACT_STRINGS)), .val (.int (v0_4 p0 p1 p2 p3 p4 p5 w0_COMPACT_STRINGS)), .val (.int (v0_6 p0 p1 p2 p3 p4 p5 w0_COMPACT_STRINGS)), .val (.int (v0_7 p0 p1 p2 p3 p4 p5 w0_COMPACT_STRINGS)), .val (.int (v0_8 p0 p1 p2 p3 p4 p5 w0_COMPACT_STRINGS)), .val (.int (v0_16 p0 p1 p2 p3 p4 p5 w0_COMPACT_STRINGS)), .val (.int (v0_17 p0 p1 p2 p3 p4 p5 w0_COMPACT_STRINGS)), .val (.int (v0_18 p0 p1 p2 p3 p4 p5 w0_COMPACT_STRINGS)), .val (.int (v0_19 p0 p1 p2 p3 p4 p5 w0_COMPACT_STRINGS)), .val (.int (v0_20 p0 p1 p2 p3 p4 p5 w0_COMPACT_STRINGS)), .val (.ref b16), .val (.ref b24), .val (.int (v0_21 p0 p1 p2 p3 p4 p5 w0_COMPACT_STRINGS)), .val (.int (v0_27 p0 p1 p2 p3 p4 p5 w0_COMPACT_STRINGS)), .val (.int (v0_28 p0 p1 p2 p3 p4 p5 w0_COMPACT_STRINGS))] [(.int (v0_21 p0 p1 p2 p3 p4 p5 w0_COMPACT_STRINGS)), (.int (v0_27 p0 p1 p2 p3 p4 p5 w0_COMPACT_STRINGS))])) t → Steps p.tables e below (s₁.setTop (entryFrame m #[(.int p0), (.int p1), (.int p2), (.int p3), (.int p4), (.int p5)] maxLocals)) t := by
        intro t k
        refine pre60 t ?_
        show Steps p.tables e below (T30.setTop (mkF m 274 #[.val (.int p0), .val (.int p1), .val (.int p2), .val (.int p3), .val (.int p4), .val (.int p5), .val (.int (v0_1 p0 p1 p2 p3 p4 p5 w0_COMPACT_STRINGS)), .val (.int (v0_3 p0 p1 p2 p3 p4 p5 w0_COMPACT_STRINGS)), .val (.int (v0_4 p0 p1 p2 p3 p4 p5 w0_COMPACT_STRINGS)), .val (.int (v0_6 p0 p1 p2 p3 p4 p5 w0_COMPACT_STRINGS)), .val (.int (v0_7 p0 p1 p2 p3 p4 p5 w0_COMPACT_STRINGS)), .val (.int (v0_8 p0 p1 p2 p3 p4 p5 w0_COMPACT_STRINGS)), .val (.int (v0_16 p0 p1 p2 p3 p4 p5 w0_COMPACT_STRINGS)), .val (.int (v0_17 p0 p1 p2 p3 p4 p5 w0_COMPACT_STRINGS)), .val (.int (v0_18 p0 p1 p2 p3 p4 p5 w0_COMPACT_STRINGS)), .val (.int (v0_19 p0 p1 p2 p3 p4 p5 w0_COMPACT_STRINGS)), .val (.int (v0_20 p0 p1 p2 p3 p4 p5 w0_COMPACT_STRINGS)), .val (.ref b16), .val (.ref b24), .val (.int (v0_21 p0 p1 p2 p3 p4 p5 w0_COMPACT_STRINGS)), .unset, .unset] [(.int (7 : Int32)), (.int (v0_7 p0 p1 p2 p3 p4 p5 w0_COMPACT_STRINGS))])) _
        refine XS.icmpYes X30.here hx rfl (pc0 := 274) (pc' := 315) rfl (hb hby at_274) rfl (XT.ii_ne_t c61) (by decide) (by decide) ?_
        show Steps p.tables e below (T30.setTop (mkF m 315 #[.val (.int p0), .val (.int p1), .val (.int p2), .val (.int p3), .val (.int p4), .val (.int p5), .val (.int (v0_1 p0 p1 p2 p3 p4 p5 w0_COMPACT_STRINGS)), .val (.int (v0_3 p0 p1 p2 p3 p4 p5 w0_COMPACT_STRINGS)), .val (.int (v0_4 p0 p1 p2 p3 p4 p5 w0_COMPACT_STRINGS)), .val (.int (v0_6 p0 p1 p2 p3 p4 p5 w0_COMPACT_STRINGS)), .val (.int (v0_7 p0 p1 p2 p3 p4 p5 w0_COMPACT_STRINGS)), .val (.int (v0_8 p0 p1 p2 p3 p4 p5 w0_COMPACT_STRINGS)), .val (.int (v0_16 p0 p1 p2 p3 p4 p5 w0_COMPACT_STRINGS)), .val (.int (v0_17 p0 p1 p2 p3 p4 p5 w0_COMPACT_STRINGS)), .val (.int (v0_18 p0 p1 p2 p3 p4 p5 w0_COMPACT_STRINGS)), .val (.int (v0_19 p0 p1 p2 p3 p4 p5 w0_COMPACT_STRINGS)), .val (.int (v0_20 p0 p1 p2 p3 p4 p5 w0_COMPACT_STRINGS)), .val (.ref b16), .val (.ref b24), .val (.int (v0_21 p0 p1 p2 p3 p4 p5 w0_COMPACT_STRINGS)), .unset, .unset] [])) _
        refine XS.aload X30.here hx rfl (hb hby at_315) rfl rfl ?_
        show Steps p.tables e below (T30.setTop (mkF m 317 #[.val (.int p0), .val (.int p1), .val (.int p2), .val (.int p3), .val (.int p4), .val (.int p5), .val (.int (v0_1 p0 p1 p2 p3 p4 p5 w0_COMPACT_STRINGS)), .val (.int (v0_3 p0 p1 p2 p3 p4 p5 w0_COMPACT_STRINGS)), .val (.int (v0_4 p0 p1 p2 p3 p4 p5 w0_COMPACT_STRINGS)), .val (.int (v0_6 p0 p1 p2 p3 p4 p5 w0_COMPACT_STRINGS)), .val (.int (v0_7 p0 p1 p2 p3 p4 p5 w0_COMPACT_STRINGS)), .val (.int (v0_8 p0 p1 p2 p3 p4 p5 w0_COMPACT_STRINGS)), .val (.int (v0_16 p0 p1 p2 p3 p4 p5 w0_COMPACT_STRINGS)), .val (.int (v0_17 p0 p1 p2 p3 p4 p5 w0_COMPACT_STRINGS)), .val (.int (v0_18 p0 p1 p2 p3 p4 p5 w0_COMPACT_STRINGS)), .val (.int (v0_19 p0 p1 p2 p3 p4 p5 w0_COMPACT_STRINGS)), .val (.int (v0_20 p0 p1 p2 p3 p4 p5 w0_COMPACT_STRINGS)), .val (.ref b16), .val (.ref b24), .val (.int (v0_21 p0 p1 p2 p3 p4 p5 w0_COMPACT_STRINGS)), .unset, .unset] [(.ref b16)])) _
        refine XS.aload X30.here hx rfl (hb hby at_317) rfl rfl ?_
        show Steps p.tables e below (T30.setTop (mkF m 319 #[.val (.int p0), .val (.int p1), .val (.int p2), .val (.int p3), .val (.int p4), .val (.int p5), .val (.int (v0_1 p0 p1 p2 p3 p4 p5 w0_COMPACT_STRINGS)), .val (.int (v0_3 p0 p1 p2 p3 p4 p5 w0_COMPACT_STRINGS)), .val (.int (v0_4 p0 p1 p2 p3 p4 p5 w0_COMPACT_STRINGS)), .val (.int (v0_6 p0 p1 p2 p3 p4 p5 w0_COMPACT_STRINGS)), .val (.int (v0_7 p0 p1 p2 p3 p4 p5 w0_COMPACT_STRINGS)), .val (.int (v0_8 p0 p1 p2 p3 p4 p5 w0_COMPACT_STRINGS)), .val (.int (v0_16 p0 p1 p2 p3 p4 p5 w0_COMPACT_STRINGS)), .val (.int (v0_17 p0 p1 p2 p3 p4 p5 w0_COMPACT_STRINGS)), .val (.int (v0_18 p0 p1 p2 p3 p4 p5 w0_COMPACT_STRINGS)), .val (.int (v0_19 p0 p1 p2 p3 p4 p5 w0_COMPACT_STRINGS)), .val (.int (v0_20 p0 p1 p2 p3 p4 p5 w0_COMPACT_STRINGS)), .val (.ref b16), .val (.ref b24), .val (.int (v0_21 p0 p1 p2 p3 p4 p5 w0_COMPACT_STRINGS)), .unset, .unset] [(.ref b24), (.ref b16)])) _
        refine st89.trans ?_
        show Steps p.tables e below (T89.setTop (mkF m 322 #[.val (.int p0), .val (.int p1), .val (.int p2), .val (.int p3), .val (.int p4), .val (.int p5), .val (.int (v0_1 p0 p1 p2 p3 p4 p5 w0_COMPACT_STRINGS)), .val (.int (v0_3 p0 p1 p2 p3 p4 p5 w0_COMPACT_STRINGS)), .val (.int (v0_4 p0 p1 p2 p3 p4 p5 w0_COMPACT_STRINGS)), .val (.int (v0_6 p0 p1 p2 p3 p4 p5 w0_COMPACT_STRINGS)), .val (.int (v0_7 p0 p1 p2 p3 p4 p5 w0_COMPACT_STRINGS)), .val (.int (v0_8 p0 p1 p2 p3 p4 p5 w0_COMPACT_STRINGS)), .val (.int (v0_16 p0 p1 p2 p3 p4 p5 w0_COMPACT_STRINGS)), .val (.int (v0_17 p0 p1 p2 p3 p4 p5 w0_COMPACT_STRINGS)), .val (.int (v0_18 p0 p1 p2 p3 p4 p5 w0_COMPACT_STRINGS)), .val (.int (v0_19 p0 p1 p2 p3 p4 p5 w0_COMPACT_STRINGS)), .val (.int (v0_20 p0 p1 p2 p3 p4 p5 w0_COMPACT_STRINGS)), .val (.ref b16), .val (.ref b24), .val (.int (v0_21 p0 p1 p2 p3 p4 p5 w0_COMPACT_STRINGS)), .unset, .unset] [(.int (f4 (v0_1 p0 p1 p2 p3 p4 p5 w0_COMPACT_STRINGS) (v0_16 p0 p1 p2 p3 p4 p5 w0_COMPACT_STRINGS) (v0_3 p0 p1 p2 p3 p4 p5 w0_COMPACT_STRINGS) (v0_17 p0 p1 p2 p3 p4 p5 w0_COMPACT_STRINGS) p2 (v0_18 p0 p1 p2 p3 p4 p5 w0_COMPACT_STRINGS) (v0_4 p0 p1 p2 p3 p4 p5 w0_COMPACT_STRINGS) (v0_19 p0 p1 p2 p3 p4 p5 w0_COMPACT_STRINGS) (v0_6 p0 p1 p2 p3 p4 p5 w0_COMPACT_STRINGS) (v0_20 p0 p1 p2 p3 p4 p5 w0_COMPACT_STRINGS)))])) _
        refine XS.istore X89.here hx rfl (hb hby at_322) rfl (l' := #[.val (.int p0), .val (.int p1), .val (.int p2), .val (.int p3), .val (.int p4), .val (.int p5), .val (.int (v0_1 p0 p1 p2 p3 p4 p5 w0_COMPACT_STRINGS)), .val (.int (v0_3 p0 p1 p2 p3 p4 p5 w0_COMPACT_STRINGS)), .val (.int (v0_4 p0 p1 p2 p3 p4 p5 w0_COMPACT_STRINGS)), .val (.int (v0_6 p0 p1 p2 p3 p4 p5 w0_COMPACT_STRINGS)), .val (.int (v0_7 p0 p1 p2 p3 p4 p5 w0_COMPACT_STRINGS)), .val (.int (v0_8 p0 p1 p2 p3 p4 p5 w0_COMPACT_STRINGS)), .val (.int (v0_16 p0 p1 p2 p3 p4 p5 w0_COMPACT_STRINGS)), .val (.int (v0_17 p0 p1 p2 p3 p4 p5 w0_COMPACT_STRINGS)), .val (.int (v0_18 p0 p1 p2 p3 p4 p5 w0_COMPACT_STRINGS)), .val (.int (v0_19 p0 p1 p2 p3 p4 p5 w0_COMPACT_STRINGS)), .val (.int (v0_20 p0 p1 p2 p3 p4 p5 w0_COMPACT_STRINGS)), .val (.ref b16), .val (.ref b24), .val (.int (v0_21 p0 p1 p2 p3 p4 p5 w0_COMPACT_STRINGS)), .val (.int (v0_27 p0 p1 p2 p3 p4 p5 w0_COMPACT_STRINGS)), .unset]) rfl ?_
        show Steps p.tables e below (T89.setTop (mkF m 324 #[.val (.int p0), .val (.int p1), .val (.int p2), .val (.int p3), .val (.int p4), .val (.int p5), .val (.int (v0_1 p0 p1 p2 p3 p4 p5 w0_COMPACT_STRINGS)), .val (.int (v0_3 p0 p1 p2 p3 p4 p5 w0_COMPACT_STRINGS)), .val (.int (v0_4 p0 p1 p2 p3 p4 p5 w0_COMPACT_STRINGS)), .val (.int (v0_6 p0 p1 p2 p3 p4 p5 w0_COMPACT_STRINGS)), .val (.int (v0_7 p0 p1 p2 p3 p4 p5 w0_COMPACT_STRINGS)), .val (.int (v0_8 p0 p1 p2 p3 p4 p5 w0_COMPACT_STRINGS)), .val (.int (v0_16 p0 p1 p2 p3 p4 p5 w0_COMPACT_STRINGS)), .val (.int (v0_17 p0 p1 p2 p3 p4 p5 w0_COMPACT_STRINGS)), .val (.int (v0_18 p0 p1 p2 p3 p4 p5 w0_COMPACT_STRINGS)), .val (.int (v0_19 p0 p1 p2 p3 p4 p5 w0_COMPACT_STRINGS)), .val (.int (v0_20 p0 p1 p2 p3 p4 p5 w0_COMPACT_STRINGS)), .val (.ref b16), .val (.ref b24), .val (.int (v0_21 p0 p1 p2 p3 p4 p5 w0_COMPACT_STRINGS)), .val (.int (v0_27 p0 p1 p2 p3 p4 p5 w0_COMPACT_STRINGS)), .unset] [])) _
        refine XS.aload X89.here hx rfl (hb hby at_324) rfl rfl ?_
        show Steps p.tables e below (T89.setTop (mkF m 326 #[.val (.int p0), .val (.int p1), .val (.int p2), .val (.int p3), .val (.int p4), .val (.int p5), .val (.int (v0_1 p0 p1 p2 p3 p4 p5 w0_COMPACT_STRINGS)), .val (.int (v0_3 p0 p1 p2 p3 p4 p5 w0_COMPACT_STRINGS)), .val (.int (v0_4 p0 p1 p2 p3 p4 p5 w0_COMPACT_STRINGS)), .val (.int (v0_6 p0 p1 p2 p3 p4 p5 w0_COMPACT_STRINGS)), .val (.int (v0_7 p0 p1 p2 p3 p4 p5 w0_COMPACT_STRINGS)), .val (.int (v0_8 p0 p1 p2 p3 p4 p5 w0_COMPACT_STRINGS)), .val (.int (v0_16 p0 p1 p2 p3 p4 p5 w0_COMPACT_STRINGS)), .val (.int (v0_17 p0 p1 p2 p3 p4 p5 w0_COMPACT_STRINGS)), .val (.int (v0_18 p0 p1 p2 p3 p4 p5 w0_COMPACT_STRINGS)), .val (.int (v0_19 p0 p1 p2 p3 p4 p5 w0_COMPACT_STRINGS)), .val (.int (v0_20 p0 p1 p2 p3 p4 p5 w0_COMPACT_STRINGS)), .val (.ref b16), .val (.ref b24), .val (.int (v0_21 p0 p1 p2 p3 p4 p5 w0_COMPACT_STRINGS)), .val (.int (v0_27 p0 p1 p2 p3 p4 p5 w0_COMPACT_STRINGS)), .unset] [(.ref b24)])) _
        refine XS.aload X89.here hx rfl (hb hby at_326) rfl rfl ?_
        show Steps p.tables e below (T89.setTop (mkF m 328 #[.val (.int p0), .val (.int p1), .val (.int p2), .val (.int p3), .val (.int p4), .val (.int p5), .val (.int (v0_1 p0 p1 p2 p3 p4 p5 w0_COMPACT_STRINGS)), .val (.int (v0_3 p0 p1 p2 p3 p4 p5 w0_COMPACT_STRINGS)), .val (.int (v0_4 p0 p1 p2 p3 p4 p5 w0_COMPACT_STRINGS)), .val (.int (v0_6 p0 p1 p2 p3 p4 p5 w0_COMPACT_STRINGS)), .val (.int (v0_7 p0 p1 p2 p3 p4 p5 w0_COMPACT_STRINGS)), .val (.int (v0_8 p0 p1 p2 p3 p4 p5 w0_COMPACT_STRINGS)), .val (.int (v0_16 p0 p1 p2 p3 p4 p5 w0_COMPACT_STRINGS)), .val (.int (v0_17 p0 p1 p2 p3 p4 p5 w0_COMPACT_STRINGS)), .val (.int (v0_18 p0 p1 p2 p3 p4 p5 w0_COMPACT_STRINGS)), .val (.int (v0_19 p0 p1 p2 p3 p4 p5 w0_COMPACT_STRINGS)), .val (.int (v0_20 p0 p1 p2 p3 p4 p5 w0_COMPACT_STRINGS)), .val (.ref b16), .val (.ref b24), .val (.int (v0_21 p0 p1 p2 p3 p4 p5 w0_COMPACT_STRINGS)), .val (.int (v0_27 p0 p1 p2 p3 p4 p5 w0_COMPACT_STRINGS)), .unset] [(.ref b16), (.ref b24)])) _
        refine st96.trans ?_
        show Steps p.tables e below (T96.setTop (mkF m 331 #[.val (.int p0), .val (.int p1), .val (.int p2), .val (.int p3), .val (.int p4), .val (.int p5), .val (.int (v0_1 p0 p1 p2 p3 p4 p5 w0_COMPACT_STRINGS)), .val (.int (v0_3 p0 p1 p2 p3 p4 p5 w0_COMPACT_STRINGS)), .val (.int (v0_4 p0 p1 p2 p3 p4 p5 w0_COMPACT_STRINGS)), .val (.int (v0_6 p0 p1 p2 p3 p4 p5 w0_COMPACT_STRINGS)), .val (.int (v0_7 p0 p1 p2 p3 p4 p5 w0_COMPACT_STRINGS)), .val (.int (v0_8 p0 p1 p2 p3 p4 p5 w0_COMPACT_STRINGS)), .val (.int (v0_16 p0 p1 p2 p3 p4 p5 w0_COMPACT_STRINGS)), .val (.int (v0_17 p0 p1 p2 p3 p4 p5 w0_COMPACT_STRINGS)), .val (.int (v0_18 p0 p1 p2 p3 p4 p5 w0_COMPACT_STRINGS)), .val (.int (v0_19 p0 p1 p2 p3 p4 p5 w0_COMPACT_STRINGS)), .val (.int (v0_20 p0 p1 p2 p3 p4 p5 w0_COMPACT_STRINGS)), .val (.ref b16), .val (.ref b24), .val (.int (v0_21 p0 p1 p2 p3 p4 p5 w0_COMPACT_STRINGS)), .val (.int (v0_27 p0 p1 p2 p3 p4 p5 w0_COMPACT_STRINGS)), .unset] [(.int (f4 (v0_16 p0 p1 p2 p3 p4 p5 w0_COMPACT_STRINGS) (v0_1 p0 p1 p2 p3 p4 p5 w0_COMPACT_STRINGS) (v0_17 p0 p1 p2 p3 p4 p5 w0_COMPACT_STRINGS) (v0_3 p0 p1 p2 p3 p4 p5 w0_COMPACT_STRINGS) (v0_18 p0 p1 p2 p3 p4 p5 w0_COMPACT_STRINGS) p2 (v0_19 p0 p1 p2 p3 p4 p5 w0_COMPACT_STRINGS) (v0_4 p0 p1 p2 p3 p4 p5 w0_COMPACT_STRINGS) (v0_20 p0 p1 p2 p3 p4 p5 w0_COMPACT_STRINGS) (v0_6 p0 p1 p2 p3 p4 p5 w0_COMPACT_STRINGS)))])) _
        refine XS.istore X96.here hx rfl (hb hby at_331) rfl (l' := #[.val (.int p0), .val (.int p1), .val (.int p2), .val (.int p3), .val (.int p4), .val (.int p5), .val (.int (v0_1 p0 p1 p2 p3 p4 p5 w0_COMPACT_STRINGS)), .val (.int (v0_3 p0 p1 p2 p3 p4 p5 w0_COMPACT_STRINGS)), .val (.int (v0_4 p0 p1 p2 p3 p4 p5 w0_COMPACT_STRINGS)), .val (.int (v0_6 p0 p1 p2 p3 p4 p5 w0_COMPACT_STRINGS)), .val (.int (v0_7 p0 p1 p2 p3 p4 p5 w0_COMPACT_STRINGS)), .val (.int (v0_8 p0 p1 p2 p3 p4 p5 w0_COMPACT_STRINGS)), .val (.int (v0_16 p0 p1 p2 p3 p4 p5 w0_COMPACT_STRINGS)), .val (.int (v0_17 p0 p1 p2 p3 p4 p5 w0_COMPACT_STRINGS)), .val (.int (v0_18 p0 p1 p2 p3 p4 p5 w0_COMPACT_STRINGS)), .val (.int (v0_19 p0 p1 p2 p3 p4 p5 w0_COMPACT_STRINGS)), .val (.int (v0_20 p0 p1 p2 p3 p4 p5 w0_COMPACT_STRINGS)), .val (.ref b16), .val (.ref b24), .val (.int (v0_21 p0 p1 p2 p3 p4 p5 w0_COMPACT_STRINGS)), .val (.int (v0_27 p0 p1 p2 p3 p4 p5 w0_COMPACT_STRINGS)), .val (.int (v0_28 p0 p1 p2 p3 p4 p5 w0_COMPACT_STRINGS))]) rfl ?_
        show Steps p.tables e below (T96.setTop (mkF m 333 #[.val (.int p0), .val (.int p1), .val (.int p2), .val (.int p3), .val (.int p4), .val (.int p5), .val (.int (v0_1 p0 p1 p2 p3 p4 p5 w0_COMPACT_STRINGS)), .val (.int (v0_3 p0 p1 p2 p3 p4 p5 w0_COMPACT_STRINGS)), .val (.int (v0_4 p0 p1 p2 p3 p4 p5 w0_COMPACT_STRINGS)), .val (.int (v0_6 p0 p1 p2 p3 p4 p5 w0_COMPACT_STRINGS)), .val (.int (v0_7 p0 p1 p2 p3 p4 p5 w0_COMPACT_STRINGS)), .val (.int (v0_8 p0 p1 p2 p3 p4 p5 w0_COMPACT_STRINGS)), .val (.int (v0_16 p0 p1 p2 p3 p4 p5 w0_COMPACT_STRINGS)), .val (.int (v0_17 p0 p1 p2 p3 p4 p5 w0_COMPACT_STRINGS)), .val (.int (v0_18 p0 p1 p2 p3 p4 p5 w0_COMPACT_STRINGS)), .val (.int (v0_19 p0 p1 p2 p3 p4 p5 w0_COMPACT_STRINGS)), .val (.int (v0_20 p0 p1 p2 p3 p4 p5 w0_COMPACT_STRINGS)), .val (.ref b16), .val (.ref b24), .val (.int (v0_21 p0 p1 p2 p3 p4 p5 w0_COMPACT_STRINGS)), .val (.int (v0_27 p0 p1 p2 p3 p4 p5 w0_COMPACT_STRINGS)), .val (.int (v0_28 p0 p1 p2 p3 p4 p5 w0_COMPACT_STRINGS))] [])) _
        refine XS.iload X96.here hx rfl (hb hby at_333) rfl ?_
        show Steps p.tables e below (T96.setTop (mkF m 335 #[.val (.int p0), .val (.int p1), .val (.int p2), .val (.int p3), .val (.int p4), .val (.int p5), .val (.int (v0_1 p0 p1 p2 p3 p4 p5 w0_COMPACT_STRINGS)), .val (.int (v0_3 p0 p1 p2 p3 p4 p5 w0_COMPACT_STRINGS)), .val (.int (v0_4 p0 p1 p2 p3 p4 p5 w0_COMPACT_STRINGS)), .val (.int (v0_6 p0 p1 p2 p3 p4 p5 w0_COMPACT_STRINGS)), .val (.int (v0_7 p0 p1 p2 p3 p4 p5 w0_COMPACT_STRINGS)), .val (.int (v0_8 p0 p1 p2 p3 p4 p5 w0_COMPACT_STRINGS)), .val (.int (v0_16 p0 p1 p2 p3 p4 p5 w0_COMPACT_STRINGS)), .val (.int (v0_17 p0 p1 p2 p3 p4 p5 w0_COMPACT_STRINGS)), .val (.int (v0_18 p0 p1 p2 p3 p4 p5 w0_COMPACT_STRINGS)), .val (.int (v0_19 p0 p1 p2 p3 p4 p5 w0_COMPACT_STRINGS)), .val (.int (v0_20 p0 p1 p2 p3 p4 p5 w0_COMPACT_STRINGS)), .val (.ref b16), .val (.ref b24), .val (.int (v0_21 p0 p1 p2 p3 p4 p5 w0_COMPACT_STRINGS)), .val (.int (v0_27 p0 p1 p2 p3 p4 p5 w0_COMPACT_STRINGS)), .val (.int (v0_28 p0 p1 p2 p3 p4 p5 w0_COMPACT_STRINGS))] [(.int (v0_27 p0 p1 p2 p3 p4 p5 w0_COMPACT_STRINGS))])) _
        refine XS.iload X96.here hx rfl (hb hby at_335) rfl ?_
        exact k
      obtain ⟨T104, L104, X104, e104, N104, pre104⟩ : ∃ (T' : State) (L' : List Loc), Stand p l e room_1 s m #[(.int p0), (.int p1), (.int p2), (.int p3), (.int p4), (.int p5)] below meth c T' L' 2 10 ∧ T'.heap = T30.heap ∧ Fr n0 L' ∧ ∀ t, Steps p.tables e below (T'.setTop (mkF m 362 #[.val (.int p0), .val (.int p1), .val (.int p2), .val (.int p3), .val (.int p4), .val (.int p5), .val (.int (v0_1 p0 p1 p2 p3 p4 p5 w0_COMPACT_STRINGS)), .val (.int (v0_3 p0 p1 p2 p3 p4 p5 w0_COMPACT_STRINGS)), .val (.int (v0_4 p0 p1 p2 p3 p4 p5 w0_COMPACT_STRINGS)), .val (.int (v0_6 p0 p1 p2 p3 p4 p5 w0_COMPACT_STRINGS)), .val (.int (v0_7 p0 p1 p2 p3 p4 p5 w0_COMPACT_STRINGS)), .val (.int (v0_8 p0 p1 p2 p3 p4 p5 w0_COMPACT_STRINGS)), .val (.int (v0_16 p0 p1 p2 p3 p4 p5 w0_COMPACT_STRINGS)), .val (.int (v0_17 p0 p1 p2 p3 p4 p5 w0_COMPACT_STRINGS)), .val (.int (v0_18 p0 p1 p2 p3 p4 p5 w0_COMPACT_STRINGS)), .val (.int (v0_19 p0 p1 p2 p3 p4 p5 w0_COMPACT_STRINGS)), .val (.int (v0_20 p0 p1 p2 p3 p4 p5 w0_COMPACT_STRINGS)), .val (.ref b16), .val (.ref b24), .val (.int (v0_21 p0 p1 p2 p3 p4 p5 w0_COMPACT_STRINGS)), .val (.int (v0_27 p0 p1 p2 p3 p4 p5 w0_COMPACT_STRINGS)), .val (.int (v0_28 p0 p1 p2 p3 p4 p5 w0_COMPACT_STRINGS))] [(.int (v0_30 p0 p1 p2 p3 p4 p5 w0_COMPACT_STRINGS))])) t → Steps p.tables e below (s₁.setTop (entryFrame m #[(.int p0), (.int p1), (.int p2), (.int p3), (.int p4), (.int p5)] maxLocals)) t := by
        by_cases c98 : (v0_27 p0 p1 p2 p3 p4 p5 w0_COMPACT_STRINGS) = (v0_21 p0 p1 p2 p3 p4 p5 w0_COMPACT_STRINGS)
        · skip
          have pre99 : ∀ t, Steps p.tables e below (T96.setTop (mkF m 344 #[.val (.int p0), .val (.int p1), .val (.int p2), .val (.int p3), .val (.int p4), .val (.int p5), .val (.int (v0_1 p0 p1 p2 p3 p4 p5 w0_COMPACT_STRINGS)), .val (.int (v0_3 p0 p1 p2 p3 p4 p5 w0_COMPACT_STRINGS)), .val (.int (v0_4 p0 p1 p2 p3 p4 p5 w0_COMPACT_STRINGS)), .val (.int (v0_6 p0 p1 p2 p3 p4 p5 w0_COMPACT_STRINGS)), .val (.int (v0_7 p0 p1 p2 p3 p4 p5 w0_COMPACT_STRINGS)), .val (.int (v0_8 p0 p1 p2 p3 p4 p5 w0_COMPACT_STRINGS)), .val (.int (v0_16 p0 p1 p2 p3 p4 p5 w0_COMPACT_STRINGS)), .val (.int (v0_17 p0 p1 p2 p3 p4 p5 w0_COMPACT_STRINGS)), .val (.int (v0_18 p0 p1 p2 p3 p4 p5 w0_COMPACT_STRINGS)), .val (.int (v0_19 p0 p1 p2 p3 p4 p5 w0_COMPACT_STRINGS)), .val (.int (v0_20 p0 p1 p2 p3 p4 p5 w0_COMPACT_STRINGS)), .val (.ref b16), .val (.ref b24), .val (.int (v0_21 p0 p1 p2 p3 p4 p5 w0_COMPACT_STRINGS)), .val (.int (v0_27 p0 p1 p2 p3 p4 p5 w0_COMPACT_STRINGS)), .val (.int (v0_28 p0 p1 p2 p3 p4 p5 w0_COMPACT_STRINGS))] [(.int (v0_21 p0 p1 p2 p3 p4 p5 w0_COMPACT_STRINGS)), (.int (v0_28 p0 p1 p2 p3 p4 p5 w0_COMPACT_STRINGS))])) t → Steps p.tables e below (s₁.setTop (entryFrame m #[(.int p0), (.int p1), (.int p2), (.int p3), (.int p4), (.int p5)] maxLocals)) t := by
            intro t k
            refine pre97 t ?_
            show Steps p.tables e below (T96.setTop (mkF m 337 #[.val (.int p0), .val (.int p1), .val (.int p2), .val (.int p3), .val (.int p4), .val (.int p5), .val (.int (v0_1 p0 p1 p2 p3 p4 p5 w0_COMPACT_STRINGS)), .val (.int (v0_3 p0 p1 p2 p3 p4 p5 w0_COMPACT_STRINGS)), .val (.int (v0_4 p0 p1 p2 p3 p4 p5 w0_COMPACT_STRINGS)), .val (.int (v0_6 p0 p1 p2 p3 p4 p5 w0_COMPACT_STRINGS)), .val (.int (v0_7 p0 p1 p2 p3 p4 p5 w0_COMPACT_STRINGS)), .val (.int (v0_8 p0 p1 p2 p3 p4 p5 w0_COMPACT_STRINGS)), .val (.int (v0_16 p0 p1 p2 p3 p4 p5 w0_COMPACT_STRINGS)), .val (.int (v0_17 p0 p1 p2 p3 p4 p5 w0_COMPACT_STRINGS)), .val (.int (v0_18 p0 p1 p2 p3 p4 p5 w0_COMPACT_STRINGS)), .val (.int (v0_19 p0 p1 p2 p3 p4 p5 w0_COMPACT_STRINGS)), .val (.int (v0_20 p0 p1 p2 p3 p4 p5 w0_COMPACT_STRINGS)), .val (.ref b16), .val (.ref b24), .val (.int (v0_21 p0 p1 p2 p3 p4 p5 w0_COMPACT_STRINGS)), .val (.int (v0_27 p0 p1 p2 p3 p4 p5 w0_COMPACT_STRINGS)), .val (.int (v0_28 p0 p1 p2 p3 p4 p5 w0_COMPACT_STRINGS))] [(.int (v0_21 p0 p1 p2 p3 p4 p5 w0_COMPACT_STRINGS)), (.int (v0_27 p0 p1 p2 p3 p4 p5 w0_COMPACT_STRINGS))])) _
            refine XS.icmpNo X96.here hx rfl (hb hby at_337) rfl (XT.ii_ne_f c98) ?_
            show Steps p.tables e below (T96.setTop (mkF m 340 #[.val (.int p0), .val (.int p1), .val (.int p2), .val (.int p3), .val (.int p4), .val (.int p5), .val (.int (v0_1 p0 p1 p2 p3 p4 p5 w0_COMPACT_STRINGS)), .val (.int (v0_3 p0 p1 p2 p3 p4 p5 w0_COMPACT_STRINGS)), .val (.int (v0_4 p0 p1 p2 p3 p4 p5 w0_COMPACT_STRINGS)), .val (.int (v0_6 p0 p1 p2 p3 p4 p5 w0_COMPACT_STRINGS)), .val (.int (v0_7 p0 p1 p2 p3 p4 p5 w0_COMPACT_STRINGS)), .val (.int (v0_8 p0 p1 p2 p3 p4 p5 w0_COMPACT_STRINGS)), .val (.int (v0_16 p0 p1 p2 p3 p4 p5 w0_COMPACT_STRINGS)), .val (.int (v0_17 p0 p1 p2 p3 p4 p5 w0_COMPACT_STRINGS)), .val (.int (v0_18 p0 p1 p2 p3 p4 p5 w0_COMPACT_STRINGS)), .val (.int (v0_19 p0 p1 p2 p3 p4 p5 w0_COMPACT_STRINGS)), .val (.int (v0_20 p0 p1 p2 p3 p4 p5 w0_COMPACT_STRINGS)), .val (.ref b16), .val (.ref b24), .val (.int (v0_21 p0 p1 p2 p3 p4 p5 w0_COMPACT_STRINGS)), .val (.int (v0_27 p0 p1 p2 p3 p4 p5 w0_COMPACT_STRINGS)), .val (.int (v0_28 p0 p1 p2 p3 p4 p5 w0_COMPACT_STRINGS))] [])) _
            refine XS.iload X96.here hx rfl (hb hby at_340) rfl ?_
            show Steps p.tables e below (T96.setTop (mkF m 342 #[.val (.int p0), .val (.int p1), .val (.int p2), .val (.int p3), .val (.int p4), .val (.int p5), .val (.int (v0_1 p0 p1 p2 p3 p4 p5 w0_COMPACT_STRINGS)), .val (.int (v0_3 p0 p1 p2 p3 p4 p5 w0_COMPACT_STRINGS)), .val (.int (v0_4 p0 p1 p2 p3 p4 p5 w0_COMPACT_STRINGS)), .val (.int (v0_6 p0 p1 p2 p3 p4 p5 w0_COMPACT_STRINGS)), .val (.int (v0_7 p0 p1 p2 p3 p4 p5 w0_COMPACT_STRINGS)), .val (.int (v0_8 p0 p1 p2 p3 p4 p5 w0_COMPACT_STRINGS)), .val (.int (v0_16 p0 p1 p2 p3 p4 p5 w0_COMPACT_STRINGS)), .val (.int (v0_17 p0 p1 p2 p3 p4 p5 w0_COMPACT_STRINGS)), .val (.int (v0_18 p0 p1 p2 p3 p4 p5 w0_COMPACT_STRINGS)), .val (.int (v0_19 p0 p1 p2 p3 p4 p5 w0_COMPACT_STRINGS)), .val (.int (v0_20 p0 p1 p2 p3 p4 p5 w0_COMPACT_STRINGS)), .val (.ref b16), .val (.ref b24), .val (.int (v0_21 p0 p1 p2 p3 p4 p5 w0_COMPACT_STRINGS)), .val (.int (v0_27 p0 p1 p2 p3 p4 p5 w0_COMPACT_STRINGS)), .val (.int (v0_28 p0 p1 p2 p3 p4 p5 w0_COMPACT_STRINGS))] [(.int (v0_28 p0 p1 p2 p3 p4 p5 w0_COMPACT_STRINGS))])) _
            refine XS.iload X96.here hx rfl (hb hby at_342) rfl ?_
            exact k
          by_cases c100 : (v0_28 p0 p1 p2 p3 p4 p5 w0_COMPACT_STRINGS) = (v0_21 p0 p1 p2 p3 p4 p5 w0_COMPACT_STRINGS)
          · skip
            obtain ⟨cq101, kq101, q101a, q101b, q101c⟩ := isOf hZ e96 k95
            obtain ⟨_, _, ⟨T101, L101, k101, n101⟩, -, X101, ⟨Lc101, hQ101, l101, y101, z101⟩, st101⟩ := X96.virtualBack hx (y := (⟨"com/example/vannus/vannus/Passage", "equals", "(Ljava/lang/Object;)Z"⟩ : MethodName)) (z := (⟨"com/example/vannus/vannus/Passage", "equals", "(Ljava/lang/Object;)Z"⟩ : MethodName)) hown (mvT hZ (hw _ (List.mem_of_getElem? (i := 24) rfl))) (mvT hZ (hw _ (List.mem_of_getElem? (i := 25) rfl))) (notFace_of_selects (args := #[]) (mvT hZ (hw _ (List.mem_of_getElem? (i := 27) rfl)))) (mvT hZ (hw _ (List.mem_of_getElem? (i := 27) rfl))) (mvT hZ (hw _ (List.mem_of_getElem? (i := 26) rfl))) (by decide) (backOf (W := 0) (rm4 l Z a0 hw [] b16 b16 (v0_1 p0 p1 p2 p3 p4 p5 w0_COMPACT_STRINGS) (v0_1 p0 p1 p2 p3 p4 p5 w0_COMPACT_STRINGS) (v0_3 p0 p1 p2 p3 p4 p5 w0_COMPACT_STRINGS) (v0_3 p0 p1 p2 p3 p4 p5 w0_COMPACT_STRINGS) p2 p2 (v0_4 p0 p1 p2 p3 p4 p5 w0_COMPACT_STRINGS) (v0_4 p0 p1 p2 p3 p4 p5 w0_COMPACT_STRINGS) (v0_6 p0 p1 p2 p3 p4 p5 w0_COMPACT_STRINGS) (v0_6 p0 p1 p2 p3 p4 p5 w0_COMPACT_STRINGS) T30.heap n0 z31 k95 k90 k90 k91 k91 k92 k92 k93 k93 k94 k94) hZ (hw _ (List.mem_of_getElem? (i := 28) rfl)) (hw _ (List.mem_of_getElem? (i := 7) rfl)) (by decide) (by decide)) q101a q101c (g := (mkF m 351 #[.val (.int p0), .val (.int p1), .val (.int p2), .val (.int p3), .val (.int p4), .val (.int p5), .val (.int (v0_1 p0 p1 p2 p3 p4 p5 w0_COMPACT_STRINGS)), .val (.int (v0_3 p0 p1 p2 p3 p4 p5 w0_COMPACT_STRINGS)), .val (.int (v0_4 p0 p1 p2 p3 p4 p5 w0_COMPACT_STRINGS)), .val (.int (v0_6 p0 p1 p2 p3 p4 p5 w0_COMPACT_STRINGS)), .val (.int (v0_7 p0 p1 p2 p3 p4 p5 w0_COMPACT_STRINGS)), .val (.int (v0_8 p0 p1 p2 p3 p4 p5 w0_COMPACT_STRINGS)), .val (.int (v0_16 p0 p1 p2 p3 p4 p5 w0_COMPACT_STRINGS)), .val (.int (v0_17 p0 p1 p2 p3 p4 p5 w0_COMPACT_STRINGS)), .val (.int (v0_18 p0 p1 p2 p3 p4 p5 w0_COMPACT_STRINGS)), .val (.int (v0_19 p0 p1 p2 p3 p4 p5 w0_COMPACT_STRINGS)), .val (.int (v0_20 p0 p1 p2 p3 p4 p5 w0_COMPACT_STRINGS)), .val (.ref b16), .val (.ref b24), .val (.int (v0_21 p0 p1 p2 p3 p4 p5 w0_COMPACT_STRINGS)), .val (.int (v0_27 p0 p1 p2 p3 p4 p5 w0_COMPACT_STRINGS)), .val (.int (v0_28 p0 p1 p2 p3 p4 p5 w0_COMPACT_STRINGS))] [(.ref b16), (.ref b16)])) rfl (by rw [hml]; rfl) (Steps.refl _) (argsL := [(.ref b16)]) (rest := []) (lenOf pd__Ljava_lang_Object__Z rfl) rfl (by show 2 * 0 + _ ≤ _; exact Nat.le_of_eq rfl) (hb hby at_351) (fun _ _ => ⟨rfl, e96, (by decide : 2 + 0 ≤ _), (by decide : 10 + 0 ≤ _)⟩)
            dsimp only [Pt.U, Pt.locs, Pt.cells, Pt.slots] at X101 l101 y101 z101 st101 hQ101
            subst l101 y101 z101
            obtain ⟨N101q, rfl, e101⟩ := hQ101
            have N101 := Fr.app N96 N101q
            have pre102 : ∀ t, Steps p.tables e below (T101.setTop (mkF m 354 #[.val (.int p0), .val (.int p1), .val (.int p2), .val (.int p3), .val (.int p4), .val (.int p5), .val (.int (v0_1 p0 p1 p2 p3 p4 p5 w0_COMPACT_STRINGS)), .val (.int (v0_3 p0 p1 p2 p3 p4 p5 w0_COMPACT_STRINGS)), .val (.int (v0_4 p0 p1 p2 p3 p4 p5 w0_COMPACT_STRINGS)), .val (.int (v0_6 p0 p1 p2 p3 p4 p5 w0_COMPACT_STRINGS)), .val (.int (v0_7 p0 p1 p2 p3 p4 p5 w0_COMPACT_STRINGS)), .val (.int (v0_8 p0 p1 p2 p3 p4 p5 w0_COMPACT_STRINGS)), .val (.int (v0_16 p0 p1 p2 p3 p4 p5 w0_COMPACT_STRINGS)), .val (.int (v0_17 p0 p1 p2 p3 p4 p5 w0_COMPACT_STRINGS)), .val (.int (v0_18 p0 p1 p2 p3 p4 p5 w0_COMPACT_STRINGS)), .val (.int (v0_19 p0 p1 p2 p3 p4 p5 w0_COMPACT_STRINGS)), .val (.int (v0_20 p0 p1 p2 p3 p4 p5 w0_COMPACT_STRINGS)), .val (.ref b16), .val (.ref b24), .val (.int (v0_21 p0 p1 p2 p3 p4 p5 w0_COMPACT_STRINGS)), .val (.int (v0_27 p0 p1 p2 p3 p4 p5 w0_COMPACT_STRINGS)), .val (.int (v0_28 p0 p1 p2 p3 p4 p5 w0_COMPACT_STRINGS))] [(.int (f4 (v0_1 p0 p1 p2 p3 p4 p5 w0_COMPACT_STRINGS) (v0_1 p0 p1 p2 p3 p4 p5 w0_COMPACT_STRINGS) (v0_3 p0 p1 p2 p3 p4 p5 w0_COMPACT_STRINGS) (v0_3 p0 p1 p2 p3 p4 p5 w0_COMPACT_STRINGS) p2 p2 (v0_4 p0 p1 p2 p3 p4 p5 w0_COMPACT_STRINGS) (v0_4 p0 p1 p2 p3 p4 p5 w0_COMPACT_STRINGS) (v0_6 p0 p1 p2 p3 p4 p5 w0_COMPACT_STRINGS) (v0_6 p0 p1 p2 p3 p4 p5 w0_COMPACT_STRINGS)))])) t → Steps p.tables e below (s₁.setTop (entryFrame m #[(.int p0), (.int p1), (.int p2), (.int p3), (.int p4), (.int p5)] maxLocals)) t := by
              intro t k
              refine pre99 t ?_
              show Steps p.tables e below (T96.setTop (mkF m 344 #[.val (.int p0), .val (.int p1), .val (.int p2), .val (.int p3), .val (.int p4), .val (.int p5), .val (.int (v0_1 p0 p1 p2 p3 p4 p5 w0_COMPACT_STRINGS)), .val (.int (v0_3 p0 p1 p2 p3 p4 p5 w0_COMPACT_STRINGS)), .val (.int (v0_4 p0 p1 p2 p3 p4 p5 w0_COMPACT_STRINGS)), .val (.int (v0_6 p0 p1 p2 p3 p4 p5 w0_COMPACT_STRINGS)), .val (.int (v0_7 p0 p1 p2 p3 p4 p5 w0_COMPACT_STRINGS)), .val (.int (v0_8 p0 p1 p2 p3 p4 p5 w0_COMPACT_STRINGS)), .val (.int (v0_16 p0 p1 p2 p3 p4 p5 w0_COMPACT_STRINGS)), .val (.int (v0_17 p0 p1 p2 p3 p4 p5 w0_COMPACT_STRINGS)), .val (.int (v0_18 p0 p1 p2 p3 p4 p5 w0_COMPACT_STRINGS)), .val (.int (v0_19 p0 p1 p2 p3 p4 p5 w0_COMPACT_STRINGS)), .val (.int (v0_20 p0 p1 p2 p3 p4 p5 w0_COMPACT_STRINGS)), .val (.ref b16), .val (.ref b24), .val (.int (v0_21 p0 p1 p2 p3 p4 p5 w0_COMPACT_STRINGS)), .val (.int (v0_27 p0 p1 p2 p3 p4 p5 w0_COMPACT_STRINGS)), .val (.int (v0_28 p0 p1 p2 p3 p4 p5 w0_COMPACT_STRINGS))] [(.int (v0_21 p0 p1 p2 p3 p4 p5 w0_COMPACT_STRINGS)), (.int (v0_28 p0 p1 p2 p3 p4 p5 w0_COMPACT_STRINGS))])) _
              refine XS.icmpNo X96.here hx rfl (hb hby at_344) rfl (XT.ii_ne_f c100) ?_
              show Steps p.tables e below (T96.setTop (mkF m 347 #[.val (.int p0), .val (.int p1), .val (.int p2), .val (.int p3), .val (.int p4), .val (.int p5), .val (.int (v0_1 p0 p1 p2 p3 p4 p5 w0_COMPACT_STRINGS)), .val (.int (v0_3 p0 p1 p2 p3 p4 p5 w0_COMPACT_STRINGS)), .val (.int (v0_4 p0 p1 p2 p3 p4 p5 w0_COMPACT_STRINGS)), .val (.int (v0_6 p0 p1 p2 p3 p4 p5 w0_COMPACT_STRINGS)), .val (.int (v0_7 p0 p1 p2 p3 p4 p5 w0_COMPACT_STRINGS)), .val (.int (v0_8 p0 p1 p2 p3 p4 p5 w0_COMPACT_STRINGS)), .val (.int (v0_16 p0 p1 p2 p3 p4 p5 w0_COMPACT_STRINGS)), .val (.int (v0_17 p0 p1 p2 p3 p4 p5 w0_COMPACT_STRINGS)), .val (.int (v0_18 p0 p1 p2 p3 p4 p5 w0_COMPACT_STRINGS)), .val (.int (v0_19 p0 p1 p2 p3 p4 p5 w0_COMPACT_STRINGS)), .val (.int (v0_20 p0 p1 p2 p3 p4 p5 w0_COMPACT_STRINGS)), .val (.ref b16), .val (.ref b24), .val (.int (v0_21 p0 p1 p2 p3 p4 p5 w0_COMPACT_STRINGS)), .val (.int (v0_27 p0 p1 p2 p3 p4 p5 w0_COMPACT_STRINGS)), .val (.int (v0_28 p0 p1 p2 p3 p4 p5 w0_COMPACT_STRINGS))] [])) _
              refine XS.aload X96.here hx rfl (hb hby at_347) rfl rfl ?_
              show Steps p.tables e below (T96.setTop (mkF m 349 #[.val (.int p0), .val (.int p1), .val (.int p2), .val (.int p3), .val (.int p4), .val (.int p5), .val (.int (v0_1 p0 p1 p2 p3 p4 p5 w0_COMPACT_STRINGS)), .val (.int (v0_3 p0 p1 p2 p3 p4 p5 w0_COMPACT_STRINGS)), .val (.int (v0_4 p0 p1 p2 p3 p4 p5 w0_COMPACT_STRINGS)), .val (.int (v0_6 p0 p1 p2 p3 p4 p5 w0_COMPACT_STRINGS)), .val (.int (v0_7 p0 p1 p2 p3 p4 p5 w0_COMPACT_STRINGS)), .val (.int (v0_8 p0 p1 p2 p3 p4 p5 w0_COMPACT_STRINGS)), .val (.int (v0_16 p0 p1 p2 p3 p4 p5 w0_COMPACT_STRINGS)), .val (.int (v0_17 p0 p1 p2 p3 p4 p5 w0_COMPACT_STRINGS)), .val (.int (v0_18 p0 p1 p2 p3 p4 p5 w0_COMPACT_STRINGS)), .val (.int (v0_19 p0 p1 p2 p3 p4 p5 w0_COMPACT_STRINGS)), .val (.int (v0_20 p0 p1 p2 p3 p4 p5 w0_COMPACT_STRINGS)), .val (.ref b16), .val (.ref b24), .val (.int (v0_21 p0 p1 p2 p3 p4 p5 w0_COMPACT_STRINGS)), .val (.int (v0_27 p0 p1 p2 p3 p4 p5 w0_COMPACT_STRINGS)), .val (.int (v0_28 p0 p1 p2 p3 p4 p5 w0_COMPACT_STRINGS))] [(.ref b16)])) _
              refine XS.aload X96.here hx rfl (hb hby at_349) rfl rfl ?_
              show Steps p.tables e below (T96.setTop (mkF m 351 #[.val (.int p0), .val (.int p1), .val (.int p2), .val (.int p3), .val (.int p4), .val (.int p5), .val (.int (v0_1 p0 p1 p2 p3 p4 p5 w0_COMPACT_STRINGS)), .val (.int (v0_3 p0 p1 p2 p3 p4 p5 w0_COMPACT_STRINGS)), .val (.int (v0_4 p0 p1 p2 p3 p4 p5 w0_COMPACT_STRINGS)), .val (.int (v0_6 p0 p1 p2 p3 p4 p5 w0_COMPACT_STRINGS)), .val (.int (v0_7 p0 p1 p2 p3 p4 p5 w0_COMPACT_STRINGS)), .val (.int (v0_8 p0 p1 p2 p3 p4 p5 w0_COMPACT_STRINGS)), .val (.int (v0_16 p0 p1 p2 p3 p4 p5 w0_COMPACT_STRINGS)), .val (.int (v0_17 p0 p1 p2 p3 p4 p5 w0_COMPACT_STRINGS)), .val (.int (v0_18 p0 p1 p2 p3 p4 p5 w0_COMPACT_STRINGS)), .val (.int (v0_19 p0 p1 p2 p3 p4 p5 w0_COMPACT_STRINGS)), .val (.int (v0_20 p0 p1 p2 p3 p4 p5 w0_COMPACT_STRINGS)), .val (.ref b16), .val (.ref b24), .val (.int (v0_21 p0 p1 p2 p3 p4 p5 w0_COMPACT_STRINGS)), .val (.int (v0_27 p0 p1 p2 p3 p4 p5 w0_COMPACT_STRINGS)), .val (.int (v0_28 p0 p1 p2 p3 p4 p5 w0_COMPACT_STRINGS))] [(.ref b16), (.ref b16)])) _
              refine st101.trans ?_
              exact k
            by_cases c103 : (v0_29 p0 p1 p2 p3 p4 p5 w0_COMPACT_STRINGS) = (0 : Int32)
            · skip
              refine ⟨T101, _, X101, e101, N101, fun t k => ?_⟩
              rw [show (v0_30 p0 p1 p2 p3 p4 p5 w0_COMPACT_STRINGS) = (0 : Int32) from (((if_pos c98).trans (if_pos c100)).trans (if_pos c103))] at k
              refine pre102 t ?_
              show Steps p.tables e below (T101.setTop (mkF m 354 #[.val (.int p0), .val (.int p1), .val (.int p2), .val (.int p3), .val (.int p4), .val (.int p5), .val (.int (v0_1 p0 p1 p2 p3 p4 p5 w0_COMPACT_STRINGS)), .val (.int (v0_3 p0 p1 p2 p3 p4 p5 w0_COMPACT_STRINGS)), .val (.int (v0_4 p0 p1 p2 p3 p4 p5 w0_COMPACT_STRINGS)), .val (.int (v0_6 p0 p1 p2 p3 p4 p5 w0_COMPACT_STRINGS)), .val (.int (v0_7 p0 p1 p2 p3 p4 p5 w0_COMPACT_STRINGS)), .val (.int (v0_8 p0 p1 p2 p3 p4 p5 w0_COMPACT_STRINGS)), .val (.int (v0_16 p0 p1 p2 p3 p4 p5 w0_COMPACT_STRINGS)), .val (.int (v0_17 p0 p1 p2 p3 p4 p5 w0_COMPACT_STRINGS)), .val (.int (v0_18 p0 p1 p2 p3 p4 p5 w0_COMPACT_STRINGS)), .val (.int (v0_19 p0 p1 p2 p3 p4 p5 w0_COMPACT_STRINGS)), .val (.int (v0_20 p0 p1 p2 p3 p4 p5 w0_COMPACT_STRINGS)), .val (.ref b16), .val (.ref b24), .val (.int (v0_21 p0 p1 p2 p3 p4 p5 w0_COMPACT_STRINGS)), .val (.int (v0_27 p0 p1 p2 p3 p4 p5 w0_COMPACT_STRINGS)), .val (.int (v0_28 p0 p1 p2 p3 p4 p5 w0_COMPACT_STRINGS))] [(.int (f4 (v0_1 p0 p1 p2 p3 p4 p5 w0_COMPACT_STRINGS) (v0_1 p0 p1 p2 p3 p4 p5 w0_COMPACT_STRINGS) (v0_3 p0 p1 p2 p3 p4 p5 w0_COMPACT_STRINGS) (v0_3 p0 p1 p2 p3 p4 p5 w0_COMPACT_STRINGS) p2 p2 (v0_4 p0 p1 p2 p3 p4 p5 w0_COMPACT_STRINGS) (v0_4 p0 p1 p2 p3 p4 p5 w0_COMPACT_STRINGS) (v0_6 p0 p1 p2 p3 p4 p5 w0_COMPACT_STRINGS) (v0_6 p0 p1 p2 p3 p4 p5 w0_COMPACT_STRINGS)))])) _
              refine XS.ifYes X101.here hx rfl (pc0 := 354) (pc' := 361) rfl (hb hby at_354) rfl (XT.i0_eq_t c103) (by decide) (by decide) ?_
              show Steps p.tables e below (T101.setTop (mkF m 361 #[.val (.int p0), .val (.int p1), .val (.int p2), .val (.int p3), .val (.int p4), .val (.int p5), .val (.int (v0_1 p0 p1 p2 p3 p4 p5 w0_COMPACT_STRINGS)), .val (.int (v0_3 p0 p1 p2 p3 p4 p5 w0_COMPACT_STRINGS)), .val (.int (v0_4 p0 p1 p2 p3 p4 p5 w0_COMPACT_STRINGS)), .val (.int (v0_6 p0 p1 p2 p3 p4 p5 w0_COMPACT_STRINGS)), .val (.int (v0_7 p0 p1 p2 p3 p4 p5 w0_COMPACT_STRINGS)), .val (.int (v0_8 p0 p1 p2 p3 p4 p5 w0_COMPACT_STRINGS)), .val (.int (v0_16 p0 p1 p2 p3 p4 p5 w0_COMPACT_STRINGS)), .val (.int (v0_17 p0 p1 p2 p3 p4 p5 w0_COMPACT_STRINGS)), .val (.int (v0_18 p0 p1 p2 p3 p4 p5 w0_COMPACT_STRINGS)), .val (.int (v0_19 p0 p1 p2 p3 p4 p5 w0_COMPACT_STRINGS)), .val (.int (v0_20 p0 p1 p2 p3 p4 p5 w0_COMPACT_STRINGS)), .val (.ref b16), .val (.ref b24), .val (.int (v0_21 p0 p1 p2 p3 p4 p5 w0_COMPACT_STRINGS)), .val (.int (v0_27 p0 p1 p2 p3 p4 p5 w0_COMPACT_STRINGS)), .val (.int (v0_28 p0 p1 p2 p3 p4 p5 w0_COMPACT_STRINGS))] [])) _
              refine XT.iconstV X101.here hx rfl (0 : Int32) (hb hby at_361) (by decide) ?_
              exact k
            · skip
              refine ⟨T101, _, X101, e101, N101, fun t k => ?_⟩
              rw [show (v0_30 p0 p1 p2 p3 p4 p5 w0_COMPACT_STRINGS) = (1 : Int32) from (((if_pos c98).trans (if_pos c100)).trans (if_neg c103))] at k
              refine pre102 t ?_
              show Steps p.tables e below (T101.setTop (mkF m 354 #[.val (.int p0), .val (.int p1), .val (.int p2), .val (.int p3), .val (.int p4), .val (.int p5), .val (.int (v0_1 p0 p1 p2 p3 p4 p5 w0_COMPACT_STRINGS)), .val (.int (v0_3 p0 p1 p2 p3 p4 p5 w0_COMPACT_STRINGS)), .val (.int (v0_4 p0 p1 p2 p3 p4 p5 w0_COMPACT_STRINGS)), .val (.int (v0_6 p0 p1 p2 p3 p4 p5 w0_COMPACT_STRINGS)), .val (.int (v0_7 p0 p1 p2 p3 p4 p5 w0_COMPACT_STRINGS)), .val (.int (v0_8 p0 p1 p2 p3 p4 p5 w0_COMPACT_STRINGS)), .val (.int (v0_16 p0 p1 p2 p3 p4 p5 w0_COMPACT_STRINGS)), .val (.int (v0_17 p0 p1 p2 p3 p4 p5 w0_COMPACT_STRINGS)), .val (.int (v0_18 p0 p1 p2 p3 p4 p5 w0_COMPACT_STRINGS)), .val (.int (v0_19 p0 p1 p2 p3 p4 p5 w0_COMPACT_STRINGS)), .val (.int (v0_20 p0 p1 p2 p3 p4 p5 w0_COMPACT_STRINGS)), .val (.ref b16), .val (.ref b24), .val (.int (v0_21 p0 p1 p2 p3 p4 p5 w0_COMPACT_STRINGS)), .val (.int (v0_27 p0 p1 p2 p3 p4 p5 w0_COMPACT_STRINGS)), .val (.int (v0_28 p0 p1 p2 p3 p4 p5 w0_COMPACT_STRINGS))] [(.int (f4 (v0_1 p0 p1 p2 p3 p4 p5 w0_COMPACT_STRINGS) (v0_1 p0 p1 p2 p3 p4 p5 w0_COMPACT_STRINGS) (v0_3 p0 p1 p2 p3 p4 p5 w0_COMPACT_STRINGS) (v0_3 p0 p1 p2 p3 p4 p5 w0_COMPACT_STRINGS) p2 p2 (v0_4 p0 p1 p2 p3 p4 p5 w0_COMPACT_STRINGS) (v0_4 p0 p1 p2 p3 p4 p5 w0_COMPACT_STRINGS) (v0_6 p0 p1 p2 p3 p4 p5 w0_COMPACT_STRINGS) (v0_6 p0 p1 p2 p3 p4 p5 w0_COMPACT_STRINGS)))])) _
              refine XS.ifNo X101.here hx rfl (hb hby at_354) rfl (XT.i0_eq_f c103) ?_
              show Steps p.tables e below (T101.setTop (mkF m 357 #[.val (.int p0), .val (.int p1), .val (.int p2), .val (.int p3), .val (.int p4), .val (.int p5), .val (.int (v0_1 p0 p1 p2 p3 p4 p5 w0_COMPACT_STRINGS)), .val (.int (v0_3 p0 p1 p2 p3 p4 p5 w0_COMPACT_STRINGS)), .val (.int (v0_4 p0 p1 p2 p3 p4 p5 w0_COMPACT_STRINGS)), .val (.int (v0_6 p0 p1 p2 p3 p4 p5 w0_COMPACT_STRINGS)), .val (.int (v0_7 p0 p1 p2 p3 p4 p5 w0_COMPACT_STRINGS)), .val (.int (v0_8 p0 p1 p2 p3 p4 p5 w0_COMPACT_STRINGS)), .val (.int (v0_16 p0 p1 p2 p3 p4 p5 w0_COMPACT_STRINGS)), .val (.int (v0_17 p0 p1 p2 p3 p4 p5 w0_COMPACT_STRINGS)), .val (.int (v0_18 p0 p1 p2 p3 p4 p5 w0_COMPACT_STRINGS)), .val (.int (v0_19 p0 p1 p2 p3 p4 p5 w0_COMPACT_STRINGS)), .val (.int (v0_20 p0 p1 p2 p3 p4 p5 w0_COMPACT_STRINGS)), .val (.ref b16), .val (.ref b24), .val (.int (v0_21 p0 p1 p2 p3 p4 p5 w0_COMPACT_STRINGS)), .val (.int (v0_27 p0 p1 p2 p3 p4 p5 w0_COMPACT_STRINGS)), .val (.int (v0_28 p0 p1 p2 p3 p4 p5 w0_COMPACT_STRINGS))] [])) _
              refine XT.iconstV X101.here hx rfl (1 : Int32) (hb hby at_357) (by decide) ?_
              show Steps p.tables e below (T101.setTop (mkF m 358 #[.val (.int p0), .val (.int p1), .val (.int p2), .val (.int p3), .val (.int p4), .val (.int p5), .val (.int (v0_1 p0 p1 p2 p3 p4 p5 w0_COMPACT_STRINGS)), .val (.int (v0_3 p0 p1 p2 p3 p4 p5 w0_COMPACT_STRINGS)), .val (.int (v0_4 p0 p1 p2 p3 p4 p5 w0_COMPACT_STRINGS)), .val (.int (v0_6 p0 p1 p2 p3 p4 p5 w0_COMPACT_STRINGS)), .val (.int (v0_7 p0 p1 p2 p3 p4 p5 w0_COMPACT_STRINGS)), .val (.int (v0_8 p0 p1 p2 p3 p4 p5 w0_COMPACT_STRINGS)), .val (.int (v0_16 p0 p1 p2 p3 p4 p5 w0_COMPACT_STRINGS)), .val (.int (v0_17 p0 p1 p2 p3 p4 p5 w0_COMPACT_STRINGS)), .val (.int (v0_18 p0 p1 p2 p3 p4 p5 w0_COMPACT_STRINGS)), .val (.int (v0_19 p0 p1 p2 p3 p4 p5 w0_COMPACT_STRINGS)), .val (.int (v0_20 p0 p1 p2 p3 p4 p5 w0_COMPACT_STRINGS)), .val (.ref b16), .val (.ref b24), .val (.int (v0_21 p0 p1 p2 p3 p4 p5 w0_COMPACT_STRINGS)), .val (.int (v0_27 p0 p1 p2 p3 p4 p5 w0_COMPACT_STRINGS)), .val (.int (v0_28 p0 p1 p2 p3 p4 p5 w0_COMPACT_STRINGS))] [(.int (1 : Int32))])) _
              refine XS.goto X101.here hx rfl (pc0 := 358) (pc' := 362) rfl (hb hby at_358) (by decide) (by decide) ?_
              exact k
          · skip
            refine ⟨T96, _, X96, e96, N96, fun t k => ?_⟩
            rw [show (v0_30 p0 p1 p2 p3 p4 p5 w0_COMPACT_STRINGS) = (0 : Int32) from ((if_pos c98).trans (if_neg c100))] at k
            refine pre99 t ?_
            show Steps p.tables e below (T96.setTop (mkF m 344 #[.val (.int p0), .val (.int p1), .val (.int p2), .val (.int p3), .val (.int p4), .val (.int p5), .val (.int (v0_1 p0 p1 p2 p3 p4 p5 w0_COMPACT_STRINGS)), .val (.int (v0_3 p0 p1 p2 p3 p4 p5 w0_COMPACT_STRINGS)), .val (.int (v0_4 p0 p1 p2 p3 p4 p5 w0_COMPACT_STRINGS)), .val (.int (v0_6 p0 p1 p2 p3 p4 p5 w0_COMPACT_STRINGS)), .val (.int (v0_7 p0 p1 p2 p3 p4 p5 w0_COMPACT_STRINGS)), .val (.int (v0_8 p0 p1 p2 p3 p4 p5 w0_COMPACT_STRINGS)), .val (.int (v0_16 p0 p1 p2 p3 p4 p5 w0_COMPACT_STRINGS)), .val (.int (v0_17 p0 p1 p2 p3 p4 p5 w0_COMPACT_STRINGS)), .val (.int (v0_18 p0 p1 p2 p3 p4 p5 w0_COMPACT_STRINGS)), .val (.int (v0_19 p0 p1 p2 p3 p4 p5 w0_COMPACT_STRINGS)), .val (.int (v0_20 p0 p1 p2 p3 p4 p5 w0_COMPACT_STRINGS)), .val (.ref b16), .val (.ref b24), .val (.int (v0_21 p0 p1 p2 p3 p4 p5 w0_COMPACT_STRINGS)), .val (.int (v0_27 p0 p1 p2 p3 p4 p5 w0_COMPACT_STRINGS)), .val (.int (v0_28 p0 p1 p2 p3 p4 p5 w0_COMPACT_STRINGS))] [(.int (v0_21 p0 p1 p2 p3 p4 p5 w0_COMPACT_STRINGS)), (.int (v0_28 p0 p1 p2 p3 p4 p5 w0_COMPACT_STRINGS))])) _
            refine XS.icmpYes X96.here hx rfl (pc0 := 344) (pc' := 361) rfl (hb hby at_344) rfl (XT.ii_ne_t c100) (by decide) (by decide) ?_
            show Steps p.tables e below (T96.setTop (mkF m 361 #[.val (.int p0), .val (.int p1), .val (.int p2), .val (.int p3), .val (.int p4), .val (.int p5), .val (.int (v0_1 p0 p1 p2 p3 p4 p5 w0_COMPACT_STRINGS)), .val (.int (v0_3 p0 p1 p2 p3 p4 p5 w0_COMPACT_STRINGS)), .val (.int (v0_4 p0 p1 p2 p3 p4 p5 w0_COMPACT_STRINGS)), .val (.int (v0_6 p0 p1 p2 p3 p4 p5 w0_COMPACT_STRINGS)), .val (.int (v0_7 p0 p1 p2 p3 p4 p5 w0_COMPACT_STRINGS)), .val (.int (v0_8 p0 p1 p2 p3 p4 p5 w0_COMPACT_STRINGS)), .val (.int (v0_16 p0 p1 p2 p3 p4 p5 w0_COMPACT_STRINGS)), .val (.int (v0_17 p0 p1 p2 p3 p4 p5 w0_COMPACT_STRINGS)), .val (.int (v0_18 p0 p1 p2 p3 p4 p5 w0_COMPACT_STRINGS)), .val (.int (v0_19 p0 p1 p2 p3 p4 p5 w0_COMPACT_STRINGS)), .val (.int (v0_20 p0 p1 p2 p3 p4 p5 w0_COMPACT_STRINGS)), .val (.ref b16), .val (.ref b24), .val (.int (v0_21 p0 p1 p2 p3 p4 p5 w0_COMPACT_STRINGS)), .val (.int (v0_27 p0 p1 p2 p3 p4 p5 w0_COMPACT_STRINGS)), .val (.int (v0_28 p0 p1 p2 p3 p4 p5 w0_COMPACT_STRINGS))] [])) _
            refine XT.iconstV X96.here hx rfl (0 : Int32) (hb hby at_361) (by decide) ?_
            exact k
        · skip
          refine ⟨T96, _, X96, e96, N96, fun t k => ?_⟩
          rw [show (v0_30 p0 p1 p2 p3 p4 p5 w0_COMPACT_STRINGS) = (0 : Int32) from (if_neg c98)] at k
          refine pre97 t ?_
          show Steps p.tables e below (T96.setTop (mkF m 337 #[.val (.int p0), .val (.int p1), .val (.int p2), .val (.int p3), .val (.int p4), .val (.int p5), .val (.int (v0_1 p0 p1 p2 p3 p4 p5 w0_COMPACT_STRINGS)), .val (.int (v0_3 p0 p1 p2 p3 p4 p5 w0_COMPACT_STRINGS)), .val (.int (v0_4 p0 p1 p2 p3 p4 p5 w0_COMPACT_STRINGS)), .val (.int (v0_6 p0 p1 p2 p3 p4 p5 w0_COMPACT_STRINGS)), .val (.int (v0_7 p0 p1 p2 p3 p4 p5 w0_COMPACT_STRINGS)), .val (.int (v0_8 p0 p1 p2 p3 p4 p5 w0_COMPACT_STRINGS)), .val (.int (v0_16 p0 p1 p2 p3 p4 p5 w0_COMPACT_STRINGS)), .val (.int (v0_17 p0 p1 p2 p3 p4 p5 w0_COMPACT_STRINGS)), .val (.int (v0_18 p0 p1 p2 p3 p4 p5 w0_COMPACT_STRINGS)), .val (.int (v0_19 p0 p1 p2 p3 p4 p5 w0_COMPACT_STRINGS)), .val (.int (v0_20 p0 p1 p2 p3 p4 p5 w0_COMPACT_STRINGS)), .val (.ref b16), .val (.ref b24), .val (.int (v0_21 p0 p1 p2 p3 p4 p5 w0_COMPACT_STRINGS)), .val (.int (v0_27 p0 p1 p2 p3 p4 p5 w0_COMPACT_STRINGS)), .val (.int (v0_28 p0 p1 p2 p3 p4 p5 w0_COMPACT_STRINGS))] [(.int (v0_21 p0 p1 p2 p3 p4 p5 w0_COMPACT_STRINGS)), (.int (v0_27 p0 p1 p2 p3 p4 p5 w0_COMPACT_STRINGS))])) _
          refine XS.icmpYes X96.here hx rfl (pc0 := 337) (pc' := 361) rfl (hb hby at_337) rfl (XT.ii_ne_t c98) (by decide) (by decide) ?_
          show Steps p.tables e below (T96.setTop (mkF m 361 #[.val (.int p0), .val (.int p1), .val (.int p2), .val (.int p3), .val (.int p4), .val (.int p5), .val (.int (v0_1 p0 p1 p2 p3 p4 p5 w0_COMPACT_STRINGS)), .val (.int (v0_3 p0 p1 p2 p3 p4 p5 w0_COMPACT_STRINGS)), .val (.int (v0_4 p0 p1 p2 p3 p4 p5 w0_COMPACT_STRINGS)), .val (.int (v0_6 p0 p1 p2 p3 p4 p5 w0_COMPACT_STRINGS)), .val (.int (v0_7 p0 p1 p2 p3 p4 p5 w0_COMPACT_STRINGS)), .val (.int (v0_8 p0 p1 p2 p3 p4 p5 w0_COMPACT_STRINGS)), .val (.int (v0_16 p0 p1 p2 p3 p4 p5 w0_COMPACT_STRINGS)), .val (.int (v0_17 p0 p1 p2 p3 p4 p5 w0_COMPACT_STRINGS)), .val (.int (v0_18 p0 p1 p2 p3 p4 p5 w0_COMPACT_STRINGS)), .val (.int (v0_19 p0 p1 p2 p3 p4 p5 w0_COMPACT_STRINGS)), .val (.int (v0_20 p0 p1 p2 p3 p4 p5 w0_COMPACT_STRINGS)), .val (.ref b16), .val (.ref b24), .val (.int (v0_21 p0 p1 p2 p3 p4 p5 w0_COMPACT_STRINGS)), .val (.int (v0_27 p0 p1 p2 p3 p4 p5 w0_COMPACT_STRINGS)), .val (.int (v0_28 p0 p1 p2 p3 p4 p5 w0_COMPACT_STRINGS))] [])) _
          refine XT.iconstV X96.here hx rfl (0 : Int32) (hb hby at_361) (by decide) ?_
          exact k
      have hv105 : (v0_30 p0 p1 p2 p3 p4 p5 w0_COMPACT_STRINGS) = (1 : Int32) := own_v0_30 p0 p1 p2 p3 p4 p5 w0_COMPACT_STRINGS c45 c61
      obtain ⟨fs, hr, hrun, hended, hW, hsame⟩ := X104.leave (v := some (.int (1 : Int32))) (fun h => by rw [Bd.returns] at h; cases h) hlk
      refine ⟨_, _, pre104 _ ?_, hrun, hended, _, _, rfl, ?_, ⟨_, rfl⟩, hW, hsame.mono (by decide) (by decide)⟩
      · skip
        show Steps p.tables e below (T104.setTop (mkF m 362 #[.val (.int p0), .val (.int p1), .val (.int p2), .val (.int p3), .val (.int p4), .val (.int p5), .val (.int (v0_1 p0 p1 p2 p3 p4 p5 w0_COMPACT_STRINGS)), .val (.int (v0_3 p0 p1 p2 p3 p4 p5 w0_COMPACT_STRINGS)), .val (.int (v0_4 p0 p1 p2 p3 p4 p5 w0_COMPACT_STRINGS)), .val (.int (v0_6 p0 p1 p2 p3 p4 p5 w0_COMPACT_STRINGS)), .val (.int (v0_7 p0 p1 p2 p3 p4 p5 w0_COMPACT_STRINGS)), .val (.int (v0_8 p0 p1 p2 p3 p4 p5 w0_COMPACT_STRINGS)), .val (.int (v0_16 p0 p1 p2 p3 p4 p5 w0_COMPACT_STRINGS)), .val (.int (v0_17 p0 p1 p2 p3 p4 p5 w0_COMPACT_STRINGS)), .val (.int (v0_18 p0 p1 p2 p3 p4 p5 w0_COMPACT_STRINGS)), .val (.int (v0_19 p0 p1 p2 p3 p4 p5 w0_COMPACT_STRINGS)), .val (.int (v0_20 p0 p1 p2 p3 p4 p5 w0_COMPACT_STRINGS)), .val (.ref b16), .val (.ref b24), .val (.int (v0_21 p0 p1 p2 p3 p4 p5 w0_COMPACT_STRINGS)), .val (.int (v0_27 p0 p1 p2 p3 p4 p5 w0_COMPACT_STRINGS)), .val (.int (v0_28 p0 p1 p2 p3 p4 p5 w0_COMPACT_STRINGS))] [(.int (v0_30 p0 p1 p2 p3 p4 p5 w0_COMPACT_STRINGS))])) _
        rw [hv105]
        exact retN X104 hx (t := .boolean) Bd.returns (by simp) (hb hby at_362) hr
      · skip
        show Q0 Z p0 p1 p2 p3 p4 p5 w0_COMPACT_STRINGS h0 n0 _ T104.heap _
        rw [e104]
        exact ⟨rfl, N104⟩
set_option maxRecDepth 65536 in
set_option maxHeartbeats 40000000 in
theorem comes_1 {Post : Tables → Env → Array Value → State → Outcome → State → Prop} (hpost : ∀ tb e args s v u, (limb_1_1.after args s (.returned v) u = true ∧ limb_1_2.after args s (.returned v) u = true ∧ True) → FrameEnd s (.returned v) u (Jvm.fieldLocs frame_1_writes args s ++ Jvm.arrayLocs frame_1_arrays args s ++ Jvm.staticLocs frame_1_statics s) 16 128 → Post tb e args s (.returned v) u) :
    ArmFor flags0 classFile x code maxLocals ret World_1 tables_1 room_1 Calls_1 rest_1 Pre_1 Post := by
  intro l hfl _ _ p e ha hc hk s m args below hf hA hF happ hP
  obtain ⟨hcalls, hrest, hpre⟩ := hP
  obtain ⟨-, -, -, hnamed, -, -, -, hat⟩ := (Spec.applies_iff hf).mp happ
  obtain ⟨hg, hn⟩ := and_e (Cond.before_iff.mp (show (Jvm.Cond.and given_1 narrow_1).before args s = true from hpre))
  obtain ⟨hcount, r0⟩ := and_e hg
  obtain ⟨ha0, r1⟩ := and_e r0
  obtain ⟨ha1, r2⟩ := and_e r1
  obtain ⟨ha2, r3⟩ := and_e r2
  obtain ⟨ha3, r4⟩ := and_e r3
  obtain ⟨ha4, r5⟩ := and_e r4
  obtain ⟨w0, w1, w2, w3, w4, w5, rfl⟩ : ∃ w0 w1 w2 w3 w4 w5 : Value, args = #[w0, w1, w2, w3, w4, w5] := by
    have hs : args.size = 6 := by simpa [Cond.value, given_1] using hcount
    obtain ⟨L⟩ := args
    match L, hs with
    | [w0, w1, w2, w3, w4, w5], _ => exact ⟨w0, w1, w2, w3, w4, w5, rfl⟩
  have hw := fun d (hd : d ∈ tables_1) => atoms_spec (ws := Jvm.Cond.code x code maxLocals ret :: tables_1) hat d (List.mem_cons_of_mem _ hd)
  have hfit : Fit s := fun {y c} hc i hi => by
    obtain ⟨ha, rfl⟩ := Array.getElem?_eq_some_iff.mp hc
    have q := List.all_eq_true.mp ((Array.all_eq_true_iff_forall_mem.mp hF) _ (Array.getElem_mem ha)) i (List.mem_range.mpr hi)
    simpa [Array.getElem?_eq_getElem hi] using q
  obtain ⟨i0, ei0⟩ := is_v ha0
  obtain rfl : w0 = (.int i0) := Option.some.inj ei0
  obtain ⟨i1, ei1⟩ := is_v ha1
  obtain rfl : w1 = (.int i1) := Option.some.inj ei1
  obtain ⟨i2, ei2⟩ := is_v ha2
  obtain rfl : w2 = (.int i2) := Option.some.inj ei2
  obtain ⟨i3, ei3⟩ := is_v ha3
  obtain rfl : w3 = (.int i3) := Option.some.inj ei3
  obtain ⟨i4, ei4⟩ := is_v ha4
  obtain rfl : w4 = (.int i4) := Option.some.inj ei4
  obtain ⟨i5, ei5⟩ := is_v r5
  obtain rfl : w5 = (.int i5) := Option.some.inj ei5
  obtain ⟨hsets, hown0⟩ := atoms_of _ (rest_1_c_eq ▸ (show rest_1_c.before _ s = true from hrest))
  obtain ⟨vcs, ecs⟩ := is_v (Cond.before_iff.mp (hsets _ (List.mem_of_getElem? (i := 1) rfl)))
  have hcs := own_ne_int (hsets _ (List.mem_of_getElem? (i := 2) rfl)) ecs
  have SC := Sta.start ecs (Or.inl (hsets _ (List.mem_of_getElem? (i := 0) rfl)))
  obtain ⟨n, o, h1, h2, h3, _, L, rfl, ⟨rfl, N⟩, hq⟩ := rm0 l s _ hw tables_1 i0 i1 i2 i3 i4 i5 vcs s.heap s.heap.size (Nat.le_refl _) (Old.start s) SC hcs p e ha hc hk s m _ below hf ((Spec.applies_iff_loose hf).mp happ).1 ⟨rfl, State.Warmed39.refl s, rfl⟩ trivial
  refine ⟨n, _, h1, h2, h3, hpost _ _ _ _ _ _ ⟨Cond.after_iff.mpr rfl, Cond.after_iff.mpr (eq_i res_at (Term.int_eval (1)) rfl), trivial⟩ ⟨hq.1, hq.2.1, (hq.2.2.sift fun y hy => Or.inr (N y hy)).mono (by decide) (by decide)⟩⟩
theorem main_1_1 : Claimed_1_1 := comes_1 fun _ _ _ _ _ _ h hF => ⟨h.1, hF⟩
theorem main_1_2 : Claimed_1_2 := comes_1 fun _ _ _ _ _ _ h hF => ⟨h.2.1, hF⟩
end Jvm.Pilot.@@N@@
namespace Jvm.Pilot.@@N@@
open Jvm Jvm.ClassFile Sem Op Lib Jvm.Free Jvm.Stand Jvm.Pilot.@@N@@.Jvm.D
/-! MADE BY PROGRAM (witnessworld.py) out of the Statement's table words and the real class files: 18 classes; the members and pool entries that the words name. The judged class is class 1, her method 1. -/
namespace start1
open Jvm.ClassFile
def u (s : String) : CpInfo := .utf8 (stringToUtf16 s)
/-- a pool by its gaps: so many unusable entries, then the entry; so many at the end -/
def gap : Nat → List CpInfo → List CpInfo
  | 0, r => r
  | n + 1, r => .unusable :: gap n r
def poolList (es : List (Nat × CpInfo)) (last : Nat) : List CpInfo := es.foldr (fun e r => gap e.1 (e.2 :: r)) (gap last [])
def pool (es : List (Nat × CpInfo)) (last : Nat) : Array CpInfo := ⟨poolList es last⟩
def fileOf (pool : Array CpInfo) (this : Nat) (attrs : Array Attribute := #[]) (ms : Array MethodInfo := #[]) (fl : Nat := 33) (sup : Nat := 0) (ifs : Array Nat := #[]) (fds : Array FieldInfo := #[]) : ClassFile where
  minorVersion := 0
  majorVersion := 65
  constantPool := pool
  accessFlags := fl
  thisClass := this
  superClass := sup
  interfaces := ifs
  fields := fds
  methods := ms
  attributes := attrs
def plain (name : String) (sup : Option ClassId) : Class where
  name := name
  kind := .ordinary
  loader := none
  accessFlags := 33
  super := sup
  interfaces := #[]
  cf := none
  fields := #[]
  methods := #[]
  instanceTypes := #[]
  staticTypes := #[]
  resolved := #[]
  callSites := []
  init := .initialized
  statics := none
  mirror := none

def pool0 : Array CpInfo := pool [(5, u "<init>"), (0, u "()V"), (1, .class_ 10), (1, u "java/lang/Object")] 113

def k0c0 : Code := { maxStack := 0, maxLocals := 1, code := object_method_1_code, exceptionTable := #[], attributes := #[] }
def k0m0 : Method := { name := "<init>", desc := "()V", sig := { parameters := [], returnType := none }, accessFlags := 1, code := some k0c0 }
/-- java/lang/Object -/
def k0 : Class := { plain "java/lang/Object" none with
  accessFlags := 33
  interfaces := #[]
  cf := some (fileOf pool0 8 #[] #[{ accessFlags := 1, nameIndex := 5, descriptorIndex := 6, attributes := #[] }] 33 0 #[] #[])
  fields := #[]
  methods := #[k0m0]
  instanceTypes := #[]
  staticTypes := #[]
  resolved := Array.replicate 124 none
  statics := none }

def pool1 : Array CpInfo := pool [(2, .class_ 4), (1, u "java/lang/Object"), (0, u "<init>"), (0, u "()V"), (0, .integer 2147483647), (0, .methodref 9 10), (0, .class_ 11), (0, .nameAndType 12 13), (0, u "java/lang/Math"), (0, u "max"), (0, u "(II)I"), (0, .class_ 15), (0, u "com/example/vannus/vannus/Passage"), (0, .methodref 14 17), (0, .nameAndType 5 18), (0, u "(IIIII)V"), (0, .methodref 14 20), (0, .nameAndType 21 22), (0, u "equals"), (0, u "(Ljava/lang/Object;)Z"), (0, .methodref 24 25), (0, .class_ 26), (0, .nameAndType 27 28), (0, u "java/lang/String"), (0, u "valueOf"), (0, u "(C)Ljava/lang/String;"), (0, .class_ 30), (0, u "com/example/vannus/vannus/PassageEqualsPinLaw"), (2, u "law"), (0, u "(IIIIII)Z")] 3

def k1m0 : Method := { name := "<init>", desc := "()V", sig := { parameters := [], returnType := none }, accessFlags := 1, code := none }
def k1c1 : Code := { maxStack := 7, maxLocals := 22, code := code, exceptionTable := #[], attributes := #[] }
def k1m1 : Method := { name := "law", desc := "(IIIIII)Z", sig := { parameters := [.int, .int, .int, .int, .int, .int], returnType := some .boolean }, accessFlags := 9, code := some k1c1 }
/-- com/example/vannus/vannus/PassageEqualsPinLaw -/
def k1 : Class := { plain "com/example/vannus/vannus/PassageEqualsPinLaw" (some 0) with
  accessFlags := 49
  interfaces := #[]
  cf := some (fileOf pool1 29 #[] #[{ accessFlags := 1, nameIndex := 5, descriptorIndex := 6, attributes := #[] }, { accessFlags := 9, nameIndex := 33, descriptorIndex := 34, attributes := #[] }] 49 2 #[] #[])
  fields := #[]
  methods := #[k1m0, k1m1]
  instanceTypes := #[]
  staticTypes := #[]
  resolved := Array.replicate 38 none
  statics := none }

def pool2 : Array CpInfo := pool [(1, .class_ 2), (0, u "java/lang/Math"), (1, .class_ 6), (1, u "java/lang/Object"), (0, u "<init>"), (0, u "()V"), (89, .class_ 100), (1, u "java/lang/Math$RandomNumberGeneratorHolder"), (71, u "negativeZeroFloatBits"), (0, u "J"), (2, u "negativeZeroDoubleBits"), (21, u "max"), (46, u "$assertionsDisabled"), (0, u "Z"), (88, u "(II)I"), (2, u "twoToTheDoubleScaleDown"), (0, u "D"), (4, u "twoToTheDoubleScaleUp"), (9, u "E"), (3, u "PI"), (2, u "TAU"), (2, u "DEGREES_TO_RADIANS"), (0, u "RADIANS_TO_DEGREES")] 94

def k2m0 : Method := { name := "<init>", desc := "()V", sig := { parameters := [], returnType := none }, accessFlags := 2, code := none }
def k2c1 : Code := { maxStack := 2, maxLocals := 2, code := jdk_29_method_65_code, exceptionTable := #[], attributes := #[] }
def k2m1 : Method := { name := "max", desc := "(II)I", sig := { parameters := [.int, .int], returnType := some .int }, accessFlags := 9, code := some k2c1 }
/-- java/lang/Math -/
def k2 : Class := { plain "java/lang/Math" (some 0) with
  accessFlags := 49
  interfaces := #[]
  cf := some (fileOf pool2 1 #[.nestMembers #[98]] #[{ accessFlags := 2, nameIndex := 7, descriptorIndex := 8, attributes := #[] }, { accessFlags := 9, nameIndex := 198, descriptorIndex := 335, attributes := #[] }] 49 4 #[] #[{ accessFlags := 25, nameIndex := 354, descriptorIndex := 339, attributes := #[] }, { accessFlags := 25, nameIndex := 358, descriptorIndex := 339, attributes := #[] }, { accessFlags := 25, nameIndex := 361, descriptorIndex := 339, attributes := #[] }, { accessFlags := 26, nameIndex := 364, descriptorIndex := 339, attributes := #[] }, { accessFlags := 26, nameIndex := 365, descriptorIndex := 339, attributes := #[] }, { accessFlags := 26, nameIndex := 172, descriptorIndex := 173, attributes := #[] }, { accessFlags := 26, nameIndex := 176, descriptorIndex := 173, attributes := #[] }, { accessFlags := 8, nameIndex := 344, descriptorIndex := 339, attributes := #[] }, { accessFlags := 8, nameIndex := 338, descriptorIndex := 339, attributes := #[] }, { accessFlags := 4120, nameIndex := 245, descriptorIndex := 246, attributes := #[] }])
  fields := #[{ name := "E", type := .double, accessFlags := 25, slot := 0, constantValue := 0 }, { name := "PI", type := .double, accessFlags := 25, slot := 1, constantValue := 0 }, { name := "TAU", type := .double, accessFlags := 25, slot := 2, constantValue := 0 }, { name := "DEGREES_TO_RADIANS", type := .double, accessFlags := 26, slot := 3, constantValue := 0 }, { name := "RADIANS_TO_DEGREES", type := .double, accessFlags := 26, slot := 4, constantValue := 0 }, { name := "negativeZeroFloatBits", type := .long, accessFlags := 26, slot := 5, constantValue := 0 }, { name := "negativeZeroDoubleBits", type := .long, accessFlags := 26, slot := 6, constantValue := 0 }, { name := "twoToTheDoubleScaleUp", type := .double, accessFlags := 8, slot := 7, constantValue := 0 }, { name := "twoToTheDoubleScaleDown", type := .double, accessFlags := 8, slot := 8, constantValue := 0 }, { name := "$assertionsDisabled", type := .boolean, accessFlags := 4120, slot := 9, constantValue := 0 }]
  methods := #[k2m0, k2m1]
  instanceTypes := #[]
  staticTypes := #[.double, .double, .double, .double, .double, .long, .long, .double, .double, .boolean]
  resolved := Array.replicate 460 none
  statics := none }

def pool3 : Array CpInfo := pool [(1, .methodref 2 3), (0, .class_ 4), (0, .nameAndType 5 6), (0, u "java/lang/Object"), (0, u "<init>"), (0, u "()V"), (10, .fieldref 18 19), (0, .class_ 20), (0, .nameAndType 21 22), (0, u "com/example/vannus/vannus/Passage"), (0, u "start"), (0, u "I"), (0, .fieldref 18 24), (0, .nameAndType 25 22), (0, u "length"), (0, .fieldref 18 27), (0, .nameAndType 28 22), (0, u "source"), (0, .fieldref 18 30), (0, .nameAndType 31 22), (0, u "sourceStart"), (0, .fieldref 18 33), (0, .nameAndType 34 22), (0, u "sourceLength"), (3, u "(IIIII)V"), (6, u "equals"), (0, u "(Ljava/lang/Object;)Z")] 24

def k3c0 : Code := { maxStack := 4, maxLocals := 6, code := prog_26_method_1_code, exceptionTable := #[], attributes := #[] }
def k3m0 : Method := { name := "<init>", desc := "(IIIII)V", sig := { parameters := [.int, .int, .int, .int, .int], returnType := none }, accessFlags := 1, code := some k3c0 }
def k3c1 : Code := { maxStack := 2, maxLocals := 3, code := prog_26_method_9_code, exceptionTable := #[], attributes := #[] }
def k3m1 : Method := { name := "equals", desc := "(Ljava/lang/Object;)Z", sig := { parameters := [(.object "java/lang/Object")], returnType := some .boolean }, accessFlags := 1, code := some k3c1 }
/-- com/example/vannus/vannus/Passage -/
def k3 : Class := { plain "com/example/vannus/vannus/Passage" (some 0) with
  accessFlags := 49
  interfaces := #[]
  cf := some (fileOf pool3 18 #[] #[{ accessFlags := 1, nameIndex := 5, descriptorIndex := 38, attributes := #[] }, { accessFlags := 1, nameIndex := 45, descriptorIndex := 46, attributes := #[] }] 49 2 #[] #[{ accessFlags := 18, nameIndex := 21, descriptorIndex := 22, attributes := #[] }, { accessFlags := 18, nameIndex := 25, descriptorIndex := 22, attributes := #[] }, { accessFlags := 18, nameIndex := 28, descriptorIndex := 22, attributes := #[] }, { accessFlags := 18, nameIndex := 31, descriptorIndex := 22, attributes := #[] }, { accessFlags := 18, nameIndex := 34, descriptorIndex := 22, attributes := #[] }])
  fields := #[{ name := "start", type := .int, accessFlags := 18, slot := 0, constantValue := 0 }, { name := "length", type := .int, accessFlags := 18, slot := 1, constantValue := 0 }, { name := "source", type := .int, accessFlags := 18, slot := 2, constantValue := 0 }, { name := "sourceStart", type := .int, accessFlags := 18, slot := 3, constantValue := 0 }, { name := "sourceLength", type := .int, accessFlags := 18, slot := 4, constantValue := 0 }]
  methods := #[k3m0, k3m1]
  instanceTypes := #[.int, .int, .int, .int, .int]
  staticTypes := #[]
  resolved := Array.replicate 71 none
  statics := none }

def pool4 : Array CpInfo := pool [(1, .class_ 2), (0, u "java/io/Serializable"), (0, .class_ 4), (0, u "java/lang/Object")] 2

/-- java/io/Serializable -/
def k4 : Class := { plain "java/io/Serializable" (some 0) with
  accessFlags := 1537
  interfaces := #[]
  cf := some (fileOf pool4 1 #[] #[] 1537 3 #[] #[])
  fields := #[]
  methods := #[]
  instanceTypes := #[]
  staticTypes := #[]
  resolved := Array.replicate 7 none
  statics := none }

def pool5 : Array CpInfo := pool [(1, .class_ 2), (0, u "java/lang/Comparable"), (0, .class_ 4), (0, u "java/lang/Object")] 7

/-- java/lang/Comparable -/
def k5 : Class := { plain "java/lang/Comparable" (some 0) with
  accessFlags := 1537
  interfaces := #[]
  cf := some (fileOf pool5 1 #[] #[] 1537 3 #[] #[])
  fields := #[]
  methods := #[]
  instanceTypes := #[]
  staticTypes := #[]
  resolved := Array.replicate 12 none
  statics := none }

def pool6 : Array CpInfo := pool [(2, .class_ 4), (1, u "java/lang/CharSequence"), (42, .class_ 48), (0, u "java/lang/CharSequence$1CodePointIterator"), (10, .class_ 60), (0, u "java/lang/CharSequence$1CharIterator"), (5, .class_ 67), (0, u "java/lang/Object")] 63

/-- java/lang/CharSequence -/
def k6 : Class := { plain "java/lang/CharSequence" (some 0) with
  accessFlags := 1537
  interfaces := #[]
  cf := some (fileOf pool6 2 #[.nestMembers #[47, 59]] #[] 1537 66 #[] #[])
  fields := #[]
  methods := #[]
  instanceTypes := #[]
  staticTypes := #[]
  resolved := Array.replicate 131 none
  statics := none }

def pool7 : Array CpInfo := pool [(1, .class_ 2), (0, u "java/lang/constant/Constable"), (0, .class_ 4), (0, u "java/lang/Object")] 6

/-- java/lang/constant/Constable -/
def k7 : Class := { plain "java/lang/constant/Constable" (some 0) with
  accessFlags := 1537
  interfaces := #[]
  cf := some (fileOf pool7 1 #[] #[] 1537 3 #[] #[])
  fields := #[]
  methods := #[]
  instanceTypes := #[]
  staticTypes := #[]
  resolved := Array.replicate 11 none
  statics := none }

def pool8 : Array CpInfo := pool [(1, .class_ 2), (0, u "java/lang/constant/ConstantDesc"), (0, .class_ 4), (0, u "java/lang/Object")] 32

/-- java/lang/constant/ConstantDesc -/
def k8 : Class := { plain "java/lang/constant/ConstantDesc" (some 0) with
  accessFlags := 1537
  interfaces := #[]
  cf := some (fileOf pool8 1 #[] #[] 1537 3 #[] #[])
  fields := #[]
  methods := #[]
  instanceTypes := #[]
  staticTypes := #[]
  resolved := Array.replicate 37 none
  statics := none }

def pool9 : Array CpInfo := pool [(1, .methodref 2 3), (0, .class_ 4), (0, .nameAndType 5 6), (0, u "java/lang/Object"), (0, u "<init>"), (0, u "()V"), (2, .fieldref 10 11), (0, .class_ 12), (0, .nameAndType 13 14), (0, u "java/lang/String"), (0, u "value"), (0, u "[B"), (0, .fieldref 10 16), (0, .nameAndType 17 18), (0, u "coder"), (0, u "B"), (2, u "hash"), (0, u "I"), (2, u "hashIsZero"), (0, u "Z"), (11, .fieldref 10 39), (0, .nameAndType 40 26), (0, u "COMPACT_STRINGS"), (12, u "toBytes"), (53, .class_ 109), (1, u "java/lang/StringLatin1"), (99, .methodref 10 210), (0, .nameAndType 5 211), (0, u "([BB)V"), (157, u "(C)Z"), (205, .class_ 576), (0, u "java/lang/CharSequence"), (22, u "CASE_INSENSITIVE_ORDER"), (0, u "Ljava/util/Comparator;"), (181, u "valueOf"), (0, u "(C)Ljava/lang/String;"), (231, .methodref 107 1016), (0, .nameAndType 1017 369), (0, u "canEncode"), (0, .methodref 107 1019), (0, .nameAndType 53 1020), (0, u "(C)[B"), (80, u "serialPersistentFields"), (0, u "[Ljava/io/ObjectStreamField;"), (0, .class_ 1104), (0, u "java/lang/String$CaseInsensitiveComparator"), (1, .class_ 1107), (0, u "java/io/Serializable"), (0, .class_ 1109), (0, u "java/lang/Comparable"), (0, .class_ 1111), (0, u "java/lang/constant/Constable"), (0, .class_ 1113), (0, u "java/lang/constant/ConstantDesc"), (2, u "serialVersionUID"), (0, u "J"), (3, u "REPL"), (0, u "C"), (2, u "LATIN1"), (1, u "UTF16")] 323

def k9m0 : Method := { name := "<init>", desc := "()V", sig := { parameters := [], returnType := none }, accessFlags := 1, code := none }
def k9c1 : Code := { maxStack := 4, maxLocals := 1, code := jdk_42_method_139_code, exceptionTable := #[], attributes := #[] }
def k9m1 : Method := { name := "valueOf", desc := "(C)Ljava/lang/String;", sig := { parameters := [.char], returnType := some (.object "java/lang/String") }, accessFlags := 9, code := some k9c1 }
def k9c2 : Code := { maxStack := 2, maxLocals := 3, code := jdk_42_method_151_code, exceptionTable := #[], attributes := #[] }
def k9m2 : Method := { name := "<init>", desc := "([BB)V", sig := { parameters := [(.array .byte), .byte], returnType := none }, accessFlags := 0, code := some k9c2 }
/-- java/lang/String -/
def k9 : Class := { plain "java/lang/String" (some 0) with
  accessFlags := 49
  interfaces := #[4, 5, 6, 7, 8]
  cf := some (fileOf pool9 10 #[.nestMembers #[1103]] #[{ accessFlags := 1, nameIndex := 5, descriptorIndex := 6, attributes := #[] }, { accessFlags := 9, nameIndex := 782, descriptorIndex := 783, attributes := #[] }, { accessFlags := 0, nameIndex := 5, descriptorIndex := 211, attributes := #[] }] 49 2 #[1106, 1108, 575, 1110, 1112] #[{ accessFlags := 18, nameIndex := 13, descriptorIndex := 14, attributes := #[] }, { accessFlags := 18, nameIndex := 17, descriptorIndex := 18, attributes := #[] }, { accessFlags := 2, nameIndex := 21, descriptorIndex := 22, attributes := #[] }, { accessFlags := 2, nameIndex := 25, descriptorIndex := 26, attributes := #[] }, { accessFlags := 26, nameIndex := 1116, descriptorIndex := 1117, attributes := #[] }, { accessFlags := 24, nameIndex := 40, descriptorIndex := 26, attributes := #[] }, { accessFlags := 26, nameIndex := 1101, descriptorIndex := 1102, attributes := #[] }, { accessFlags := 26, nameIndex := 1121, descriptorIndex := 1122, attributes := #[] }, { accessFlags := 25, nameIndex := 599, descriptorIndex := 600, attributes := #[] }, { accessFlags := 24, nameIndex := 1125, descriptorIndex := 18, attributes := #[] }, { accessFlags := 24, nameIndex := 1127, descriptorIndex := 18, attributes := #[] }])
  fields := #[{ name := "value", type := (.array .byte), accessFlags := 18, slot := 0, constantValue := 0 }, { name := "coder", type := .byte, accessFlags := 18, slot := 1, constantValue := 0 }, { name := "hash", type := .int, accessFlags := 2, slot := 2, constantValue := 0 }, { name := "hashIsZero", type := .boolean, accessFlags := 2, slot := 3, constantValue := 0 }, { name := "serialVersionUID", type := .long, accessFlags := 26, slot := 0, constantValue := 0 }, { name := "COMPACT_STRINGS", type := .boolean, accessFlags := 24, slot := 1, constantValue := 0 }, { name := "serialPersistentFields", type := (.array (.object "java/io/ObjectStreamField")), accessFlags := 26, slot := 2, constantValue := 0 }, { name := "REPL", type := .char, accessFlags := 26, slot := 3, constantValue := 0 }, { name := "CASE_INSENSITIVE_ORDER", type := (.object "java/util/Comparator"), accessFlags := 25, slot := 4, constantValue := 0 }, { name := "LATIN1", type := .byte, accessFlags := 24, slot := 5, constantValue := 0 }, { name := "UTF16", type := .byte, accessFlags := 24, slot := 6, constantValue := 0 }]
  methods := #[k9m0, k9m1, k9m2]
  instanceTypes := #[(.array .byte), .byte, .int, .boolean]
  staticTypes := #[.long, .boolean, (.array (.object "java/io/ObjectStreamField")), .char, (.object "java/util/Comparator"), .byte, .byte]
  resolved := Array.replicate 1451 none
  statics := some 0 }

def pool10 : Array CpInfo := pool [(4, .class_ 6), (1, u "java/lang/Object"), (0, u "<init>"), (0, u "()V"), (5, .class_ 16), (1, u "java/lang/StringLatin1"), (73, u "canEncode"), (14, u "(C)Z"), (15, u "$assertionsDisabled"), (0, u "Z"), (98, .class_ 223), (1, u "java/lang/StringLatin1$LinesSpliterator"), (156, u "toBytes"), (1, u "(C)[B"), (7, .class_ 391), (0, u "java/lang/StringLatin1$CharsSpliterator")] 3

def k10m0 : Method := { name := "<init>", desc := "()V", sig := { parameters := [], returnType := none }, accessFlags := 0, code := none }
def k10c1 : Code := { maxStack := 2, maxLocals := 1, code := jdk_43_method_3_code, exceptionTable := #[], attributes := #[] }
def k10m1 : Method := { name := "canEncode", desc := "(C)Z", sig := { parameters := [.char], returnType := some .boolean }, accessFlags := 9, code := some k10c1 }
def k10c2 : Code := { maxStack := 4, maxLocals := 1, code := jdk_43_method_46_code, exceptionTable := #[], attributes := #[] }
def k10m2 : Method := { name := "toBytes", desc := "(C)[B", sig := { parameters := [.char], returnType := some (.array .byte) }, accessFlags := 9, code := some k10c2 }
/-- java/lang/StringLatin1 -/
def k10 : Class := { plain "java/lang/StringLatin1" (some 0) with
  accessFlags := 48
  interfaces := #[]
  cf := some (fileOf pool10 14 #[.nestMembers #[390, 221]] #[{ accessFlags := 0, nameIndex := 7, descriptorIndex := 8, attributes := #[] }, { accessFlags := 9, nameIndex := 90, descriptorIndex := 105, attributes := #[] }, { accessFlags := 9, nameIndex := 380, descriptorIndex := 382, attributes := #[] }] 48 4 #[] #[{ accessFlags := 4120, nameIndex := 121, descriptorIndex := 122, attributes := #[] }])
  fields := #[{ name := "$assertionsDisabled", type := .boolean, accessFlags := 4120, slot := 0, constantValue := 0 }]
  methods := #[k10m0, k10m1, k10m2]
  instanceTypes := #[]
  staticTypes := #[.boolean]
  resolved := Array.replicate 395 none
  statics := none }

def pool11 : Array CpInfo := pool [(2, .class_ 4), (1, u "java/lang/Object"), (0, u "<init>"), (0, u "()V"), (17, .class_ 26), (1, u "jdk/internal/util/Preconditions"), (28, .class_ 56), (0, u "jdk/internal/util/Preconditions$4"), (57, .class_ 115), (0, u "jdk/internal/util/Preconditions$1"), (7, u "SIOOBE_FORMATTER"), (0, u "Ljava/util/function/BiFunction;"), (0, .class_ 126), (0, u "jdk/internal/util/Preconditions$2"), (3, u "AIOOBE_FORMATTER"), (0, .class_ 132), (0, u "jdk/internal/util/Preconditions$3"), (3, u "IOOBE_FORMATTER")] 57

def k11m0 : Method := { name := "<init>", desc := "()V", sig := { parameters := [], returnType := none }, accessFlags := 1, code := none }
/-- jdk/internal/util/Preconditions -/
def k11 : Class := { plain "jdk/internal/util/Preconditions" (some 0) with
  accessFlags := 33
  interfaces := #[]
  cf := some (fileOf pool11 24 #[.nestMembers #[55, 131, 125, 114]] #[{ accessFlags := 1, nameIndex := 5, descriptorIndex := 6, attributes := #[] }] 33 2 #[] #[{ accessFlags := 25, nameIndex := 123, descriptorIndex := 124, attributes := #[] }, { accessFlags := 25, nameIndex := 130, descriptorIndex := 124, attributes := #[] }, { accessFlags := 25, nameIndex := 136, descriptorIndex := 124, attributes := #[] }])
  fields := #[{ name := "SIOOBE_FORMATTER", type := (.object "java/util/function/BiFunction"), accessFlags := 25, slot := 0, constantValue := 0 }, { name := "AIOOBE_FORMATTER", type := (.object "java/util/function/BiFunction"), accessFlags := 25, slot := 1, constantValue := 0 }, { name := "IOOBE_FORMATTER", type := (.object "java/util/function/BiFunction"), accessFlags := 25, slot := 2, constantValue := 0 }]
  methods := #[k11m0]
  instanceTypes := #[]
  staticTypes := #[(.object "java/util/function/BiFunction"), (.object "java/util/function/BiFunction"), (.object "java/util/function/BiFunction")]
  resolved := Array.replicate 194 none
  statics := some 1 }

def pool12 : Array CpInfo := pool [(9, u "<init>"), (6, .class_ 18), (1, u "java/lang/Object"), (0, u "()V"), (1, .class_ 23), (1, u "jdk/internal/util/ArraysSupport"), (0, u "LOG2_ARRAY_LONG_INDEX_SCALE"), (0, u "I"), (2, u "U"), (0, u "Ljdk/internal/misc/Unsafe;"), (8, u "BIG_ENDIAN"), (0, u "Z"), (8, u "LOG2_BYTE_BIT_SIZE"), (4, u "LOG2_ARRAY_INT_INDEX_SCALE"), (54, u "JLA"), (0, u "Ljdk/internal/access/JavaLangAccess;"), (11, u "LOG2_ARRAY_BOOLEAN_INDEX_SCALE"), (9, u "LOG2_ARRAY_BYTE_INDEX_SCALE"), (5, u "LOG2_ARRAY_CHAR_INDEX_SCALE"), (5, u "LOG2_ARRAY_SHORT_INDEX_SCALE"), (18, u "LOG2_ARRAY_FLOAT_INDEX_SCALE"), (24, u "LOG2_ARRAY_DOUBLE_INDEX_SCALE"), (89, u "T_BOOLEAN"), (2, u "T_CHAR"), (1, u "T_FLOAT"), (1, u "T_DOUBLE"), (1, u "T_BYTE"), (1, u "T_SHORT"), (1, u "T_INT"), (1, u "T_LONG"), (1, u "SOFT_MAX_ARRAY_LENGTH")] 83

def k12m0 : Method := { name := "<init>", desc := "()V", sig := { parameters := [], returnType := none }, accessFlags := 2, code := none }
/-- jdk/internal/util/ArraysSupport -/
def k12 : Class := { plain "jdk/internal/util/ArraysSupport" (some 0) with
  accessFlags := 33
  interfaces := #[]
  cf := some (fileOf pool12 21 #[] #[{ accessFlags := 2, nameIndex := 9, descriptorIndex := 19, attributes := #[] }] 33 16 #[] #[{ accessFlags := 24, nameIndex := 28, descriptorIndex := 29, attributes := #[] }, { accessFlags := 26, nameIndex := 38, descriptorIndex := 39, attributes := #[] }, { accessFlags := 25, nameIndex := 121, descriptorIndex := 25, attributes := #[] }, { accessFlags := 25, nameIndex := 131, descriptorIndex := 25, attributes := #[] }, { accessFlags := 25, nameIndex := 137, descriptorIndex := 25, attributes := #[] }, { accessFlags := 25, nameIndex := 143, descriptorIndex := 25, attributes := #[] }, { accessFlags := 25, nameIndex := 53, descriptorIndex := 25, attributes := #[] }, { accessFlags := 25, nameIndex := 24, descriptorIndex := 25, attributes := #[] }, { accessFlags := 25, nameIndex := 162, descriptorIndex := 25, attributes := #[] }, { accessFlags := 25, nameIndex := 187, descriptorIndex := 25, attributes := #[] }, { accessFlags := 26, nameIndex := 48, descriptorIndex := 25, attributes := #[] }, { accessFlags := 25, nameIndex := 277, descriptorIndex := 25, attributes := #[] }, { accessFlags := 25, nameIndex := 280, descriptorIndex := 25, attributes := #[] }, { accessFlags := 25, nameIndex := 282, descriptorIndex := 25, attributes := #[] }, { accessFlags := 25, nameIndex := 284, descriptorIndex := 25, attributes := #[] }, { accessFlags := 25, nameIndex := 286, descriptorIndex := 25, attributes := #[] }, { accessFlags := 25, nameIndex := 288, descriptorIndex := 25, attributes := #[] }, { accessFlags := 25, nameIndex := 290, descriptorIndex := 25, attributes := #[] }, { accessFlags := 25, nameIndex := 292, descriptorIndex := 25, attributes := #[] }, { accessFlags := 26, nameIndex := 108, descriptorIndex := 109, attributes := #[] }, { accessFlags := 25, nameIndex := 294, descriptorIndex := 25, attributes := #[] }])
  fields := #[{ name := "U", type := (.object "jdk/internal/misc/Unsafe"), accessFlags := 24, slot := 0, constantValue := 0 }, { name := "BIG_ENDIAN", type := .boolean, accessFlags := 26, slot := 1, constantValue := 0 }, { name := "LOG2_ARRAY_BOOLEAN_INDEX_SCALE", type := .int, accessFlags := 25, slot := 2, constantValue := 0 }, { name := "LOG2_ARRAY_BYTE_INDEX_SCALE", type := .int, accessFlags := 25, slot := 3, constantValue := 0 }, { name := "LOG2_ARRAY_CHAR_INDEX_SCALE", type := .int, accessFlags := 25, slot := 4, constantValue := 0 }, { name := "LOG2_ARRAY_SHORT_INDEX_SCALE", type := .int, accessFlags := 25, slot := 5, constantValue := 0 }, { name := "LOG2_ARRAY_INT_INDEX_SCALE", type := .int, accessFlags := 25, slot := 6, constantValue := 0 }, { name := "LOG2_ARRAY_LONG_INDEX_SCALE", type := .int, accessFlags := 25, slot := 7, constantValue := 0 }, { name := "LOG2_ARRAY_FLOAT_INDEX_SCALE", type := .int, accessFlags := 25, slot := 8, constantValue := 0 }, { name := "LOG2_ARRAY_DOUBLE_INDEX_SCALE", type := .int, accessFlags := 25, slot := 9, constantValue := 0 }, { name := "LOG2_BYTE_BIT_SIZE", type := .int, accessFlags := 26, slot := 10, constantValue := 0 }, { name := "T_BOOLEAN", type := .int, accessFlags := 25, slot := 11, constantValue := 0 }, { name := "T_CHAR", type := .int, accessFlags := 25, slot := 12, constantValue := 0 }, { name := "T_FLOAT", type := .int, accessFlags := 25, slot := 13, constantValue := 0 }, { name := "T_DOUBLE", type := .int, accessFlags := 25, slot := 14, constantValue := 0 }, { name := "T_BYTE", type := .int, accessFlags := 25, slot := 15, constantValue := 0 }, { name := "T_SHORT", type := .int, accessFlags := 25, slot := 16, constantValue := 0 }, { name := "T_INT", type := .int, accessFlags := 25, slot := 17, constantValue := 0 }, { name := "T_LONG", type := .int, accessFlags := 25, slot := 18, constantValue := 0 }, { name := "JLA", type := (.object "jdk/internal/access/JavaLangAccess"), accessFlags := 26, slot := 19, constantValue := 0 }, { name := "SOFT_MAX_ARRAY_LENGTH", type := .int, accessFlags := 25, slot := 20, constantValue := 0 }]
  methods := #[k12m0]
  instanceTypes := #[]
  staticTypes := #[(.object "jdk/internal/misc/Unsafe"), .boolean, .int, .int, .int, .int, .int, .int, .int, .int, .int, .int, .int, .int, .int, .int, .int, .int, .int, (.object "jdk/internal/access/JavaLangAccess"), .int]
  resolved := Array.replicate 378 none
  statics := none }

def pool13 : Array CpInfo := pool [(1, u "java/lang/Cloneable"), (0, .class_ 1), (0, u "java/lang/Object"), (0, .class_ 3)] 3

/-- java/lang/Cloneable -/
def k13 : Class := { plain "java/lang/Cloneable" (some 0) with
  accessFlags := 1537
  interfaces := #[]
  cf := some (fileOf pool13 2 #[] #[] 1537 4 #[] #[])
  fields := #[]
  methods := #[]
  instanceTypes := #[]
  staticTypes := #[]
  resolved := Array.replicate 8 none
  statics := none }

/-- the primitive byte -/
def k14 : Class := { plain "byte" none with kind := .primitive 'B', accessFlags := 0x411 }
/-- [B -/
def k15 : Class := { plain "[B" (some 0) with kind := .array 14 .byte, interfaces := #[13, 4], accessFlags := 1041 }

/-- the primitive int -/
def k16 : Class := { plain "int" none with kind := .primitive 'I', accessFlags := 0x411 }
/-- [I -/
def k17 : Class := { plain "[I" (some 0) with kind := .array 16 .int, interfaces := #[13, 4], accessFlags := 1041 }

def heap : Heap := #[{ cls := 9, slots := #[.long 0, .int 1, .null, .int 0, .null, .int 0, .int 0], vm := .statics 9 },
  { cls := 11, slots := #[.null, .null, .null], vm := .statics 11 }]
def classes : Array Class := #[k0, k1, k2, k3, k4, k5, k6, k7, k8, k9, k10, k11, k12, k13, k14, k15, k16, k17]
def interned : List (Array UInt16 × Addr) := []
def slotsUsed : Nat := 10
def theMethod : MethodId := ⟨1, 1⟩
def args0 : Array Value := #[.int 5, .int 7, .int 9, .int 11, .int 1, .int 3]
def aboutOver (below : List Frame) : State where
  vm := { classes := classes, interned := interned.toArray }
  heap := heap
  slotsUsed := slotsUsed
  threads := #[{ frames := .invoking theMethod args0 :: below }]
def below0 : List Frame := [.native { method := ⟨0, 0⟩, args := #[] }]
def about1 : State := aboutOver below0
def p0 : Program := .bare "" "" ""
def e0 : Env := launch0.env 0 0 0
theorem w_frames : about1.frames = Frame.invoking theMethod args0 :: below0 := rfl
set_option maxRecDepth 65536 in
theorem w_args : argsFit about1.vm theMethod args0 = true := by decide +kernel
set_option maxRecDepth 65536 in
theorem w_heap : heapFits about1 = true := by decide +kernel
set_option maxRecDepth 65536 in
theorem w_runnable : about1.curStatus? = some .runnable := by decide +kernel
set_option maxRecDepth 65536 in
theorem w_alone : about1.alone = true := by decide +kernel
set_option maxRecDepth 65536 in
theorem w_named : about1.methodNamed? x = some theMethod := by decide +kernel
set_option maxRecDepth 65536 in
theorem w_hears : about1.hears theMethod below0 = true := by decide +kernel
set_option maxRecDepth 65536 in
theorem w_ripe : about1.ripe theMethod args0 below0 = true := by decide +kernel
theorem w_running : about1.status = .running := rfl
set_option maxRecDepth 65536 in
theorem w_room : about1.hasRoom e0.platform room_1 = true :=
  launch0.hasRoom_least _ room_1 (by decide +kernel) (by decide +kernel) (by decide +kernel) (by decide +kernel) (by decide +kernel) (by decide +kernel)
theorem allAtoms_all (ts : List Jvm.Cond) (a : Array Jvm.Value) (st : Jvm.State) : (allAtoms ts).before a st = ts.all (fun c => c.before a st) := by
  induction ts with
  | nil => rfl
  | cons c t ih =>
    show (Jvm.Cond.and c (allAtoms t)).before a st = _
    rw [Jvm.Cond.before_and, ih, List.all_cons]
def words1 : List Jvm.Cond := Jvm.Cond.code x code maxLocals ret :: tables_1
/-- a 'code' word, met by the world's own term for the bytes: nothing is compared byte by byte -/
theorem code_word {y : MethodName} {bytes : ByteArray} {mx : Nat} {rt : Option FieldType} {a : Array Value} {s : State} {m : MethodId} {meth : Method} {c : Code} (h1 : s.methodNamed? y = some m) (h2 : s.vm.method? m = some meth) (h3 : meth.code = some c) (h4 : c.code = bytes)
    (h5 : (c.maxLocals == mx && c.exceptionTable.isEmpty && decide (c.maxStack ≤ mostOperands) && decide (meth.sig.returnType = rt) && !meth.locks && decide (parseMethodDescriptor y.desc = some meth.sig)) = true) : (Jvm.Cond.code y bytes mx rt).before a s = true := by
  simp only [Bool.and_eq_true, beq_iff_eq, Bool.not_eq_true', decide_eq_true_eq] at h5
  obtain ⟨⟨⟨⟨⟨g1, g2⟩, g3⟩, g4⟩, g5⟩, g6⟩ := h5
  simp [Cond.before, Cond.holds, Cond.value, h1, h2, h3, h4, g1, g2, g3, g4, g5, g6]
def isCode : Jvm.Cond → Bool
  | .code _ _ _ _ => true
  | _ => false
theorem all_split {L : List Jvm.Cond} {P : Jvm.Cond → Bool} (h1 : L.all (fun c => isCode c || P c) = true) (h2 : ∀ c ∈ L.filter isCode, P c = true) : L.all P = true := by
  refine List.all_eq_true.mpr fun c hc => ?_
  have h := List.all_eq_true.mp h1 c hc
  rcases Bool.eq_false_or_eq_true (isCode c) with hi | hi
  · exact h2 c (List.mem_filter.mpr ⟨hc, hi⟩)
  · simpa [hi] using h
set_option maxRecDepth 65536 in
theorem w_c0 : (Jvm.Cond.code x code maxLocals ret).before args0 about1 = true := code_word (m := ⟨1, 1⟩) (meth := k1m1) (c := k1c1) (by decide +kernel) rfl rfl rfl (by decide +kernel)
set_option maxRecDepth 65536 in
theorem w_c1 : (Jvm.Cond.code ({ cls := "java/lang/Math", name := "max", desc := "(II)I" } : Jvm.MethodName) jdk_29_method_65_code (2 : Nat) (Option.some Jvm.ClassFile.FieldType.int)).before args0 about1 = true := code_word (m := ⟨2, 1⟩) (meth := k2m1) (c := k2c1) (by decide +kernel) rfl rfl rfl (by decide +kernel)
set_option maxRecDepth 65536 in
theorem w_c2 : (Jvm.Cond.code ({ cls := "com/example/vannus/vannus/Passage", name := "<init>", desc := "(IIIII)V" } : Jvm.MethodName) prog_26_method_1_code (6 : Nat) (Option.none : Option Jvm.ClassFile.FieldType)).before args0 about1 = true := code_word (m := ⟨3, 0⟩) (meth := k3m0) (c := k3c0) (by decide +kernel) rfl rfl rfl (by decide +kernel)
set_option maxRecDepth 65536 in
theorem w_c3 : (Jvm.Cond.code ({ cls := "java/lang/Object", name := "<init>", desc := "()V" } : Jvm.MethodName) object_method_1_code (1 : Nat) (Option.none : Option Jvm.ClassFile.FieldType)).before args0 about1 = true := code_word (m := ⟨0, 0⟩) (meth := k0m0) (c := k0c0) (by decide +kernel) rfl rfl rfl (by decide +kernel)
set_option maxRecDepth 65536 in
theorem w_c4 : (Jvm.Cond.code ({ cls := "com/example/vannus/vannus/Passage", name := "equals", desc := "(Ljava/lang/Object;)Z" } : Jvm.MethodName) prog_26_method_9_code (3 : Nat) (Option.some Jvm.ClassFile.FieldType.boolean)).before args0 about1 = true := code_word (m := ⟨3, 1⟩) (meth := k3m1) (c := k3c1) (by decide +kernel) rfl rfl rfl (by decide +kernel)
set_option maxRecDepth 65536 in
theorem w_c5 : (Jvm.Cond.code ({ cls := "java/lang/String", name := "valueOf", desc := "(C)Ljava/lang/String;" } : Jvm.MethodName) jdk_42_method_139_code (1 : Nat) (Option.some (Jvm.ClassFile.FieldType.object "java/lang/String"))).before args0 about1 = true := code_word (m := ⟨9, 1⟩) (meth := k9m1) (c := k9c1) (by decide +kernel) rfl rfl rfl (by decide +kernel)
set_option maxRecDepth 65536 in
theorem w_c6 : (Jvm.Cond.code ({ cls := "java/lang/StringLatin1", name := "canEncode", desc := "(C)Z" } : Jvm.MethodName) jdk_43_method_3_code (1 : Nat) (Option.some Jvm.ClassFile.FieldType.boolean)).before args0 about1 = true := code_word (m := ⟨10, 1⟩) (meth := k10m1) (c := k10c1) (by decide +kernel) rfl rfl rfl (by decide +kernel)
set_option maxRecDepth 65536 in
theorem w_c7 : (Jvm.Cond.code ({ cls := "java/lang/StringLatin1", name := "toBytes", desc := "(C)[B" } : Jvm.MethodName) jdk_43_method_46_code (1 : Nat) (Option.some (Jvm.ClassFile.FieldType.array Jvm.ClassFile.FieldType.byte))).before args0 about1 = true := code_word (m := ⟨10, 2⟩) (meth := k10m2) (c := k10c2) (by decide +kernel) rfl rfl rfl (by decide +kernel)
set_option maxRecDepth 65536 in
theorem w_c8 : (Jvm.Cond.code ({ cls := "java/lang/String", name := "<init>", desc := "([BB)V" } : Jvm.MethodName) jdk_42_method_151_code (3 : Nat) (Option.none : Option Jvm.ClassFile.FieldType)).before args0 about1 = true := code_word (m := ⟨9, 2⟩) (meth := k9m2) (c := k9c2) (by decide +kernel) rfl rfl rfl (by decide +kernel)
def codes1 : List Jvm.Cond := [Jvm.Cond.code x code maxLocals ret, Jvm.Cond.code ({ cls := "java/lang/Math", name := "max", desc := "(II)I" } : Jvm.MethodName) jdk_29_method_65_code (2 : Nat) (Option.some Jvm.ClassFile.FieldType.int), Jvm.Cond.code ({ cls := "com/example/vannus/vannus/Passage", name := "<init>", desc := "(IIIII)V" } : Jvm.MethodName) prog_26_method_1_code (6 : Nat) (Option.none : Option Jvm.ClassFile.FieldType), Jvm.Cond.code ({ cls := "java/lang/Object", name := "<init>", desc := "()V" } : Jvm.MethodName) object_method_1_code (1 : Nat) (Option.none : Option Jvm.ClassFile.FieldType), Jvm.Cond.code ({ cls := "com/example/vannus/vannus/Passage", name := "equals", desc := "(Ljava/lang/Object;)Z" } : Jvm.MethodName) prog_26_method_9_code (3 : Nat) (Option.some Jvm.ClassFile.FieldType.boolean), Jvm.Cond.code ({ cls := "java/lang/String", name := "valueOf", desc := "(C)Ljava/lang/String;" } : Jvm.MethodName) jdk_42_method_139_code (1 : Nat) (Option.some (Jvm.ClassFile.FieldType.object "java/lang/String")), Jvm.Cond.code ({ cls := "java/lang/StringLatin1", name := "canEncode", desc := "(C)Z" } : Jvm.MethodName) jdk_43_method_3_code (1 : Nat) (Option.some Jvm.ClassFile.FieldType.boolean), Jvm.Cond.code ({ cls := "java/lang/StringLatin1", name := "toBytes", desc := "(C)[B" } : Jvm.MethodName) jdk_43_method_46_code (1 : Nat) (Option.some (Jvm.ClassFile.FieldType.array Jvm.ClassFile.FieldType.byte)), Jvm.Cond.code ({ cls := "java/lang/String", name := "<init>", desc := "([BB)V" } : Jvm.MethodName) jdk_42_method_151_code (3 : Nat) (Option.none : Option Jvm.ClassFile.FieldType)]
set_option maxRecDepth 65536 in
theorem codes_eq : words1.filter isCode = codes1 := rfl
theorem w_codes : ∀ c ∈ words1.filter isCode, c.before args0 about1 = true := by
  rw [codes_eq]
  intro c hc
  simp only [codes1, List.mem_cons, List.not_mem_nil, or_false] at hc
  rcases hc with rfl | rfl | rfl | rfl | rfl | rfl | rfl | rfl | rfl
  · exact w_c0
  · exact w_c1
  · exact w_c2
  · exact w_c3
  · exact w_c4
  · exact w_c5
  · exact w_c6
  · exact w_c7
  · exact w_c8
set_option maxRecDepth 65536 in
theorem w_t1 : (words1.take 24).all (fun c => isCode c || c.before args0 about1) = true := by decide +kernel
set_option maxRecDepth 65536 in
theorem w_t2 : ((words1.drop 24).take 24).all (fun c => isCode c || c.before args0 about1) = true := by decide +kernel
set_option maxRecDepth 65536 in
theorem w_t3 : ((words1.drop 24).drop 24).all (fun c => isCode c || c.before args0 about1) = true := by decide +kernel
theorem w_tables : (allAtoms (Jvm.Cond.code x code maxLocals ret :: tables_1)).before args0 about1 = true := by
  rw [allAtoms_all]
  show words1.all (fun c => c.before args0 about1) = true
  refine all_split ?_ w_codes
  rw [← List.take_append_drop 24 words1, List.all_append, w_t1, ← List.take_append_drop 24 (words1.drop 24), List.all_append, w_t2, w_t3]
  rfl
set_option maxRecDepth 65536 in
theorem w_rest : rest_1_c.before args0 about1 = true := by decide +kernel
set_option maxRecDepth 65536 in
theorem w_case : (Jvm.Cond.and given_1 narrow_1).before args0 about1 = true := by decide +kernel
theorem w_applies : (headSpec (Jvm.Cond.code x code maxLocals ret :: tables_1) room_1).applies x e0.platform about1 = true :=
  (Spec.applies_iff w_frames).mpr ⟨w_running, w_runnable, w_alone, w_named, w_hears, w_ripe, w_room, w_tables⟩
theorem atStart : AtStart classFile x code maxLocals ret World_1 tables_1 room_1 Calls_1 rest_1 Pre_1 launch0 p0 e0 about1 theMethod args0 below0 :=
  ⟨lists_1, trivial, launch0.admits_env _ _ _, launch0.least_env, fairChoices_fair.cas, fairChoices_fair.clock, w_frames, w_args, w_heap, w_applies, trivial, w_rest, w_case⟩
end start1
theorem witness_1 : WitnessClaimed_1 := ⟨start1.p0, start1.e0, start1.about1, start1.theMethod, start1.args0, start1.below0, start1.atStart⟩
end Jvm.Pilot.@@N@@
