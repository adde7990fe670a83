import JvmDerived
import JvmDerived.Pilot.@@N@@Statement
import JvmDerived.Pilot.@@N@@Code
set_option linter.unusedVariables false
set_option linter.unusedSimpArgs false
@@BLOCK:NumsL.lean.txt@@
namespace Jvm.RoadKit
open Sem ClassFile Op Lib Jvm.Stand Jvm.Free Jvm.LawKit
section New
variable {p : Program} {l : Launch} {e : Env} {R : Room} {s : State} {m : MethodId} {args : Array Value} {below : List Frame} {meth : Method} {c : Code} {T : State} {locs : List Loc} {cells slots : Nat}
theorem retI (X : Stand p l e R s m args below meth c T locs cells slots) (hx : p.tables.exec = Jvm.exec) {pc : Nat} {Ls : Array Slot} {z : Int32} {rest : List Value} (hret : meth.sig.returnType = some .int) (hd : decode c.code pc = .ok (.ireturn, 1)) {fs : List Frame}
    (hl : ∀ (f : JFrame) (acts : List Action), f.method = m → f.locked = none → f.entered = [] → (doReturn e (T.setTop f) acts (some (.int z))).1 = T.setFrames fs) : Steps p.tables e below (T.setTop (mkF m pc Ls (.int z :: rest))) (T.setFrames fs) := by
  have hm' : T.vm.method? m = some meth := X.method'
  have hn : narrow .int (.int z) = .int z := rfl
  show Steps p.tables e below (T.setTop { method := m, pc := pc, locals := Ls, stack := _ :: rest, locked := none }) _
  jvm_step X.here [X.here.top, hx, hd, hm', hret, hn]
  first | (intro acts; rw [hl _ acts rfl rfl rfl]) | rw [hl _ _ rfl rfl rfl]
  exact Steps.refl _
end New
end Jvm.RoadKit
namespace Jvm.Pilot.@@N@@
open Jvm Jvm.ClassFile Sem Op Lib Jvm.Free Jvm.Stand Jvm.LawKit Jvm.RoadKit Bundle Jvm.Pilot.@@N@@.Jvm.D
theorem own_rem32 (x y : Int32) : (x - (x / y) * y).toInt = x.toInt.tmod y.toInt := by
  rw [Int32.toInt_sub, Int32.toInt_mul, Int32.toInt_div]
  simp only [Int.bmod_mul_bmod, Int.sub_bmod_bmod]
  rw [Int.tmod_def, Int.mul_comm y.toInt]
  have h := Int32.toInt_mod x y
  have h1 := (x % y).toInt_lt
  have h2 := (x % y).le_toInt
  rw [h, Int.tmod_def, Int.mul_comm y.toInt] at h1 h2
  exact Int.bmod_eq_of_le (by omega) (by omega)
/-own-/
theorem own_ibI {p : Int32} (h1 : ¬ (p < (-128 : Int32))) (h2 : ¬ ((127 : Int32) < p)) : ¬ ((p + (128 : Int32)) < 0) ∧ (p + (128 : Int32)) < (256 : Int32) := by
  have c1 : (-128 : Int32).toInt = -128 := by decide
  have c2 : (127 : Int32).toInt = 127 := by decide
  have c3 : (128 : Int32).toInt = 128 := by decide
  have c4 : (256 : Int32).toInt = 256 := by decide
  have c5 : (0 : Int32).toInt = 0 := by decide
  rw [Int32.lt_iff_toInt_lt] at h1 h2
  rw [c1] at h1
  rw [c2] at h2
  have s : (p + (128 : Int32)).toInt = p.toInt + 128 := by rw [Jvm.Kit.i32_add (by rw [c3]; omega) (by rw [c3]; omega), c3]
  rw [Int32.lt_iff_toInt_lt, Int32.lt_iff_toInt_lt, s, c4, c5]
  omega
theorem own_ibJ {q : Int64} (h1 : ¬ (q < (-128 : Int64))) (h2 : ¬ ((127 : Int64) < q)) : ¬ (((q.toInt32) + (128 : Int32)) < 0) ∧ ((q.toInt32) + (128 : Int32)) < (256 : Int32) := by
  have c1 : (-128 : Int64).toInt = -128 := by decide
  have c2 : (127 : Int64).toInt = 127 := by decide
  have c3 : (-128 : Int32).toInt = -128 := by decide
  have c4 : (127 : Int32).toInt = 127 := by decide
  rw [Int64.lt_iff_toInt_lt] at h1 h2
  rw [c1] at h1
  rw [c2] at h2
  have s : q.toInt32.toInt = q.toInt := Jvm.Kit.i32_of_i64 (by omega) (by omega)
  apply own_ibI
  · rw [Int32.lt_iff_toInt_lt, s, c3]; omega
  · rw [Int32.lt_iff_toInt_lt, s, c4]; omega
theorem own_nosub2 {Z : State} {a0 : Array Value} {C M O K : String} {n : Nat} (wO : (Cond.noSuperclass O).before a0 Z = true) (wM : (Cond.superclass M O).before a0 Z = true) (wC : (Cond.superclass C M).before a0 Z = true) (wi : (Cond.instantiable K n).before a0 Z = true) (h1 : O ≠ K) (h2 : M ≠ K) (h3 : C ≠ K) : ∃ c t, Z.vm.findClass C = some c ∧ Z.vm.findClass K = some t ∧ Z.vm.assignable c t = false := by
  obtain ⟨t, kt, g1, g2, g3, g4, -, -⟩ := Cond.instantiable_spec wi
  obtain ⟨o, ko, o1, o2, o3, -, -⟩ := Cond.noSuperclass_spec wO
  have ne := ids_ne o1 g1 h1
  have n1 : NS Z O K := ⟨o, t, o1, g1, fun fuel => by
    cases fuel with
    | zero => rfl
    | succ f => simp [Vm.isSubclassAux, ne, o2, o3]⟩
  obtain ⟨c, t', q0, q1, n3⟩ := NS.step wC (NS.step wM n1 h2) h3
  cases g1.symm.trans q1
  obtain ⟨p, k, kp, a1, a2, a3, a4, a5, -, a7⟩ := Cond.superclass_spec q0 wC
  have ne2 := ids_ne q0 g1 h3
  have gi : kt.isInterface = false := by
    cases hq : kt.isInterface with
    | false => rfl
    | true => rw [hq] at g4; simp at g4
  refine ⟨c, t, q0, g1, ?_⟩
  show Z.vm.assignableAux (255 + 1) c t = false
  simp [Vm.assignableAux, ne2, a2, g2, a5, g3, gi, Vm.isSubclass, n3]
theorem own_eq_ref {a b : Term} {args : Array Value} {s : State} {r : Addr} (h : (Cond.eq a b).value args s none s [] = some true) (hb : b.eval args s none [] s = some (.ref r)) : a.eval args s none [] s = some (.ref r) := by
  obtain ⟨x, y, h1, h2, k1, k2⟩ := cmp_v (Or.inl h)
  rw [hb] at h2
  obtain rfl := Option.some.inj h2
  have hx : x.isRef = true := by
    rcases (show (Value.ref r).isRef = true ∧ x.isRef = true from k2) with ⟨-, q⟩; exact q
  have q := eq_R h1 hb hx rfl
  rw [h] at q
  have : x = .ref r := by simpa using (Option.some.inj q).symm
  rw [h1, this]
theorem own_slot {t j : Term} {args : Array Value} {s : State} {x : Addr} {cl : Cell} {v : Value} {k : Int32} (h : (Term.elem t j).eval args s none [] s = some v) (ht : t.eval args s none [] s = some (.ref x)) (hj : j.eval args s none [] s = some (.int k)) (hc : s.heap[x]? = some cl) : cl.slots[k.toNatClampNeg]? = some v := (elem_in h ht hj hc).2
theorem own_len {t : Term} {args : Array Value} {s : State} {x : Addr} {cl : Cell} {k : Int32} (h : (Term.length t).eval args s none [] s = some (.int k)) (ht : t.eval args s none [] s = some (.ref x)) (hc : s.heap[x]? = some cl) : cl.slots.size.toInt32 = k ∧ cl.slots.size < 2 ^ 31 := by
  obtain ⟨a, c, e1, e2, e3⟩ := Term.length_spec h
  rw [ht] at e1
  obtain rfl := Value.ref.inj (Option.some.inj e1)
  have e4 := (State.arrayAt?_spec e2).1
  rw [hc] at e4
  obtain rfl := Option.some.inj e4
  refine ⟨(Value.int.inj e3).symm, ?_⟩
  by_cases q : cl.slots.size < 2 ^ 31
  · exact q
  · exfalso
    simp [Term.eval, ht, e2, q] at h
theorem own_sub {Z : State} {args : Array Value} {t : Term} {idx : List Nat} {y : Int32} (h : t.eval args Z none idx Z = some (.int y)) : (Term.sub t (.int 128)).eval args Z none idx Z = some (.int (y - 128)) := by simp [Term.eval, h]
theorem d7_0 : decode jdk_18_method_1_code 0 = .ok (.aload_n 0, 1) := by decide +kernel
theorem d7_1 : decode jdk_18_method_1_code 1 = .ok (.invokespecial 1, 3) := by decide +kernel
theorem d7_4 : decode jdk_18_method_1_code 4 = .ok (.return_, 1) := by decide +kernel
theorem pn_java_lang_Number : plainName "java/lang/Number" = true := by first | (simp [plainName, overriddenIn]; done) | decide +kernel
theorem ef_7 (m : MethodId) (o0 : Addr) : entryFrame m #[(.ref o0)] 1 = mkF m 0 #[.val (.ref o0)] [] := by first | (simp [entryFrame, mkF, argsToLocals, Value.category]; done) | rfl
def Q7 (Z : State) (o0 : Addr) (h0 : Heap) (n0 : Nat) (v : Option Value) (h : Heap) (L : List Loc) : Prop := Fr n0 L ∧ v = none ∧ h = h0
set_option maxRecDepth 65536 in
set_option maxHeartbeats 40000000 in
theorem rm7 (l : Launch) (Z : State) (a0 : Array Value) (hw : ∀ d ∈ tables_1, d.before a0 Z = true) (ws : List Jvm.Cond) (o0 : Addr) (h0 : Heap) (n0 : Nat) (Z0 : n0 ≤ h0.size) :
    MetFree l (⟨"java/lang/Number", "<init>", "()V"⟩ : MethodName) (head1 (Jvm.Cond.code (⟨"java/lang/Number", "<init>", "()V"⟩ : MethodName) jdk_18_method_1_code 1 none :: ws) ({ frames := 1, cells := 0, slots := 0, locals := 12 } : Room)) (fun a U => a = #[(.ref o0)] ∧ Z.Warmed39 U.vm ∧ U.heap = h0) (fun _ _ _ _ _ => True) (fun _ U o U' => ∃ v L, o = .returned v ∧ Q7 Z o0 h0 n0 v U'.heap L ∧ FrameEnd U o U' L ({ frames := 1, cells := 0, slots := 0, locals := 12 } : Room).cells ({ frames := 1, cells := 0, slots := 0, locals := 12 } : Room).slots) := by
  refine MetFree.of_bodySF (plainFor_of_name pn_java_lang_Number) hisR ?_
  intro p e s m args below meth c s₁ Bd hml0 hP hK
  obtain ⟨rfl, hZ, hh⟩ := hP
  have hx := Bd.exec
  have hby := Bd.bytes
  have hml : c.maxLocals = 1 := hml0
  have hown : s.vm.findClass "java/lang/Number" = some m.cls := findClass_of_methodNamed Bd.named
  have hnm := (name_of_methodNamed Bd.named Bd.method).1
  have hlk := BodyLoose.notSynchronized Bd
  have X0 : Stand p l e ({ frames := 1, cells := 0, slots := 0, locals := 12 } : Room) s m #[(.ref o0)] below meth c s₁ [] 0 0 := Stand.of_body Bd
  have e0 : s₁.heap = h0 := by rw [← hh, Bd.state]; rfl
  have N0 := Fr.nil n0
  have pre0 : ∀ t, Steps p.tables e below (s₁.setTop (mkF m 0 #[.val (.ref o0)] [])) t → Steps p.tables e below (s₁.setTop (entryFrame m #[(.ref o0)] 1)) t := fun t k => castTop (ef_7 m o0) k
  obtain ⟨T1, X1, e1, st1⟩ := initO X0 hx hZ hown (hw _ (List.mem_of_getElem? (i := 47) rfl)) (hw _ (List.mem_of_getElem? (i := 7) rfl)) (hw _ (List.mem_of_getElem? (i := 8) rfl)) e0 (g := (mkF m 1 #[.val (.ref o0)] [(.ref o0)])) rfl (by rw [hml]; rfl) rfl (hb hby d7_1) (by decide) (W := 0) (by show 2 * 0 + _ ≤ _; exact Nat.le_of_eq rfl) (by decide)
  obtain ⟨fs, hr, hrun, hended, hW, hsame⟩ := X1.leave (v := none) (fun _ => rfl) hlk
  refine ⟨_, _, pre0 _ ?_, hrun, hended, _, _, rfl, ?_, ⟨_, rfl⟩, hW, hsame.mono (by decide) (by decide)⟩
  · skip
    show Steps p.tables e below (s₁.setTop (mkF m 0 #[.val (.ref o0)] [])) _
    refine XS.aloadN X0.here hx rfl (hb hby d7_0) rfl rfl ?_
    show Steps p.tables e below (s₁.setTop (mkF m 1 #[.val (.ref o0)] [(.ref o0)])) _
    refine st1 _ ?_
    show Steps p.tables e below (T1.setTop (mkF m 4 #[.val (.ref o0)] [])) _
    exact X1.returnOut hx Bd.returns (hb hby d7_4) hr
  · skip
    show Q7 Z o0 h0 n0 _ T1.heap _
    rw [e1]
    exact ⟨N0, rfl, rfl⟩
theorem pd___V : parseMethodDescriptor "()V" = some ⟨[], none⟩ := by decide +kernel
theorem d8_0 : decode jdk_33_method_23_code 0 = .ok (.aload_n 0, 1) := by decide +kernel
theorem d8_1 : decode jdk_33_method_23_code 1 = .ok (.invokespecial 202, 3) := by decide +kernel
theorem d8_4 : decode jdk_33_method_23_code 4 = .ok (.aload_n 0, 1) := by decide +kernel
theorem d8_5 : decode jdk_33_method_23_code 5 = .ok (.iload_n 1, 1) := by decide +kernel
theorem d8_6 : decode jdk_33_method_23_code 6 = .ok (.putfield 205, 3) := by decide +kernel
theorem d8_9 : decode jdk_33_method_23_code 9 = .ok (.return_, 1) := by decide +kernel
theorem pn_java_lang_Integer : plainName "java/lang/Integer" = true := by first | (simp [plainName, overriddenIn]; done) | decide +kernel
theorem ef_8 (m : MethodId) (o0 : Addr) (p1 : Int32) : entryFrame m #[(.ref o0), (.int p1)] 2 = mkF m 0 #[.val (.ref o0), .val (.int p1)] [] := by first | (simp [entryFrame, mkF, argsToLocals, Value.category]; done) | rfl
def Q8 (Z : State) (o0 : Addr) (p1 : Int32) (u0_value : Value) (h0 : Heap) (n0 : Nat) (v : Option Value) (h : Heap) (L : List Loc) : Prop := Fr n0 L ∧ v = none ∧ Keep h0 h [o0] ∧ Exa Z h o0 "java/lang/Integer" ∧ Fld Z h o0 "java/lang/Integer" "value" "I" (.int p1)
set_option maxRecDepth 65536 in
set_option maxHeartbeats 40000000 in
theorem rm8 (l : Launch) (Z : State) (a0 : Array Value) (hw : ∀ d ∈ tables_1, d.before a0 Z = true) (ws : List Jvm.Cond) (o0 : Addr) (p1 : Int32) (u0_value : Value) (h0 : Heap) (n0 : Nat) (Z0 : n0 ≤ h0.size) (E_o0 : Exa Z h0 o0 "java/lang/Integer") (F_value_o0 : Fld Z h0 o0 "java/lang/Integer" "value" "I" u0_value) (g_o0 : n0 ≤ o0) :
    MetFree l (⟨"java/lang/Integer", "<init>", "(I)V"⟩ : MethodName) (head1 (Jvm.Cond.code (⟨"java/lang/Integer", "<init>", "(I)V"⟩ : MethodName) jdk_33_method_23_code 2 none :: ws) ({ frames := 2, cells := 0, slots := 0, locals := 24 } : Room)) (fun a U => a = #[(.ref o0), (.int p1)] ∧ Z.Warmed39 U.vm ∧ U.heap = h0) (fun _ _ _ _ _ => True) (fun _ U o U' => ∃ v L, o = .returned v ∧ Q8 Z o0 p1 u0_value h0 n0 v U'.heap L ∧ FrameEnd U o U' L ({ frames := 2, cells := 0, slots := 0, locals := 24 } : Room).cells ({ frames := 2, cells := 0, slots := 0, locals := 24 } : Room).slots) := by
  refine MetFree.of_bodySF (plainFor_of_name pn_java_lang_Integer) hisR ?_
  intro p e s m args below meth c s₁ Bd hml0 hP hK
  obtain ⟨rfl, hZ, hh⟩ := hP
  have hx := Bd.exec
  have hby := Bd.bytes
  have hml : c.maxLocals = 2 := hml0
  have hown : s.vm.findClass "java/lang/Integer" = some m.cls := findClass_of_methodNamed Bd.named
  have hnm := (name_of_methodNamed Bd.named Bd.method).1
  have hlk := BodyLoose.notSynchronized Bd
  have X0 : Stand p l e ({ frames := 2, cells := 0, slots := 0, locals := 24 } : Room) s m #[(.ref o0), (.int p1)] below meth c s₁ [] 0 0 := Stand.of_body Bd
  have e0 : s₁.heap = h0 := by rw [← hh, Bd.state]; rfl
  have N0 := Fr.nil n0
  have pre0 : ∀ t, Steps p.tables e below (s₁.setTop (mkF m 0 #[.val (.ref o0), .val (.int p1)] [])) t → Steps p.tables e below (s₁.setTop (entryFrame m #[(.ref o0), (.int p1)] 2)) t := fun t k => castTop (ef_8 m o0 p1) k
  obtain ⟨vr1, _, ⟨T1, L1, k1, n1⟩, -, X1, ⟨Lc1, hQ1, l1, y1, z1⟩, st1⟩ := X0.specialBack hx (y := (⟨"java/lang/Number", "<init>", "()V"⟩ : MethodName)) rfl hown (mvT hZ (hw _ (List.mem_of_getElem? (i := 56) rfl))) (mvT hZ (hw _ (List.mem_of_getElem? (i := 42) rfl))) (mvT hZ (hw _ (List.mem_of_getElem? (i := 46) rfl))) (by decide) (backOf (W := 0) (rm7 l Z a0 hw [] o0 h0 n0 Z0) hZ (hw _ (List.mem_of_getElem? (i := 46) rfl)) (hw _ (List.mem_of_getElem? (i := 45) rfl)) (by decide) (by decide)) (g := (mkF m 1 #[.val (.ref o0), .val (.int p1)] [(.ref o0)])) rfl (by rw [hml]; rfl) (Steps.refl _) (a := o0) (argsL := []) (rest := []) (lenOf pd___V rfl) rfl (by show 2 * 0 + _ ≤ _; exact Nat.le_of_eq rfl) (hb hby d8_1) (fun _ _ => ⟨rfl, e0, (by decide : 0 + 0 ≤ _), (by decide : 0 + 0 ≤ _)⟩)
  dsimp only [Pt.U, Pt.locs, Pt.cells, Pt.slots] at X1 l1 y1 z1 st1 hQ1
  subst l1 y1 z1
  have N1q := (show _ ∧ _ ∧ _ from hQ1).1
  have hv1 := (show _ ∧ _ ∧ _ from hQ1).2.1
  have e1 := (show _ ∧ _ ∧ _ from hQ1).2.2
  clear hQ1
  subst hv1
  have N1 := Fr.app N0 N1q
  obtain ⟨T2, h2, X2, e2, W2, st2⟩ := putF X1 hx hZ hown (host := "") (Or.inl (hw _ (List.mem_of_getElem? (i := 58) rfl))) Via.refl e1 F_value_o0 E_o0 (Or.inr ⟨(hw _ (List.mem_of_getElem? (i := 59) rfl)), rfl, hnm⟩) (hw _ (List.mem_of_getElem? (i := 51) rfl)) (ty := .int) (by decide) rfl rfl (g := (mkF m 6 #[.val (.ref o0), .val (.int p1)] [(.int p1), (.ref o0)])) rfl rfl (hb hby d8_6)
  have Fw2 := F_value_o0.same W2
  have N2 := Fr.snoc X2 N1 g_o0
  have z3 : n0 ≤ h2.size := Nat.le_trans Z0 (Keep.of_wr W2).1
  have hs4 : h0.size ≤ h2.size := Nat.le_trans (Nat.le_refl h0.size) (Keep.of_wr W2).1
  obtain ⟨fs, hr, hrun, hended, hW, hsame⟩ := X2.leave (v := none) (fun _ => rfl) hlk
  refine ⟨_, _, pre0 _ ?_, hrun, hended, _, _, rfl, ?_, ⟨_, rfl⟩, hW, hsame.mono (by decide) (by decide)⟩
  · skip
    show Steps p.tables e below (s₁.setTop (mkF m 0 #[.val (.ref o0), .val (.int p1)] [])) _
    refine XS.aloadN X0.here hx rfl (hb hby d8_0) rfl rfl ?_
    show Steps p.tables e below (s₁.setTop (mkF m 1 #[.val (.ref o0), .val (.int p1)] [(.ref o0)])) _
    refine st1.trans ?_
    show Steps p.tables e below (T1.setTop (mkF m 4 #[.val (.ref o0), .val (.int p1)] [])) _
    refine XS.aloadN X1.here hx rfl (hb hby d8_4) rfl rfl ?_
    show Steps p.tables e below (T1.setTop (mkF m 5 #[.val (.ref o0), .val (.int p1)] [(.ref o0)])) _
    refine XS.iloadN X1.here hx rfl (hb hby d8_5) rfl ?_
    show Steps p.tables e below (T1.setTop (mkF m 6 #[.val (.ref o0), .val (.int p1)] [(.int p1), (.ref o0)])) _
    refine st2 _ ?_
    show Steps p.tables e below (T2.setTop (mkF m 9 #[.val (.ref o0), .val (.int p1)] [])) _
    exact X2.returnOut hx Bd.returns (hb hby d8_9) hr
  · skip
    show Q8 Z o0 p1 u0_value h0 n0 _ T2.heap _
    rw [e2]
    have k5 := (E_o0.wr W2)
    exact ⟨N2, rfl, ((Keep.refl h0 [o0]).wr W2 (Or.inl (List.mem_of_getElem? (i := 0) rfl))), k5, Fw2⟩
theorem d6_0 : decode jdk_35_method_26_code 0 = .ok (.aload_n 0, 1) := by decide +kernel
theorem d6_1 : decode jdk_35_method_26_code 1 = .ok (.invokespecial 270, 3) := by decide +kernel
theorem d6_4 : decode jdk_35_method_26_code 4 = .ok (.aload_n 0, 1) := by decide +kernel
theorem d6_5 : decode jdk_35_method_26_code 5 = .ok (.lload_n 1, 1) := by decide +kernel
theorem d6_6 : decode jdk_35_method_26_code 6 = .ok (.putfield 273, 3) := by decide +kernel
theorem d6_9 : decode jdk_35_method_26_code 9 = .ok (.return_, 1) := by decide +kernel
theorem pn_java_lang_Long : plainName "java/lang/Long" = true := by first | (simp [plainName, overriddenIn]; done) | decide +kernel
theorem ef_6 (m : MethodId) (o0 : Addr) (q1 : Int64) : entryFrame m #[(.ref o0), (.long q1)] 3 = mkF m 0 #[.val (.ref o0), .val (.long q1), .second] [] := by first | (simp [entryFrame, mkF, argsToLocals, Value.category]; done) | rfl
def Q6 (Z : State) (o0 : Addr) (q1 : Int64) (u0_value : Value) (h0 : Heap) (n0 : Nat) (v : Option Value) (h : Heap) (L : List Loc) : Prop := Fr n0 L ∧ v = none ∧ Keep h0 h [o0] ∧ Exa Z h o0 "java/lang/Long" ∧ Fld Z h o0 "java/lang/Long" "value" "J" (.long q1)
set_option maxRecDepth 65536 in
set_option maxHeartbeats 40000000 in
theorem rm6 (l : Launch) (Z : State) (a0 : Array Value) (hw : ∀ d ∈ tables_1, d.before a0 Z = true) (ws : List Jvm.Cond) (o0 : Addr) (q1 : Int64) (u0_value : Value) (h0 : Heap) (n0 : Nat) (Z0 : n0 ≤ h0.size) (E_o0 : Exa Z h0 o0 "java/lang/Long") (F_value_o0 : Fld Z h0 o0 "java/lang/Long" "value" "J" u0_value) (g_o0 : n0 ≤ o0) :
    MetFree l (⟨"java/lang/Long", "<init>", "(J)V"⟩ : MethodName) (head1 (Jvm.Cond.code (⟨"java/lang/Long", "<init>", "(J)V"⟩ : MethodName) jdk_35_method_26_code 3 none :: ws) ({ frames := 2, cells := 0, slots := 0, locals := 24 } : Room)) (fun a U => a = #[(.ref o0), (.long q1)] ∧ Z.Warmed39 U.vm ∧ U.heap = h0) (fun _ _ _ _ _ => True) (fun _ U o U' => ∃ v L, o = .returned v ∧ Q6 Z o0 q1 u0_value h0 n0 v U'.heap L ∧ FrameEnd U o U' L ({ frames := 2, cells := 0, slots := 0, locals := 24 } : Room).cells ({ frames := 2, cells := 0, slots := 0, locals := 24 } : Room).slots) := by
  refine MetFree.of_bodySF (plainFor_of_name pn_java_lang_Long) hisR ?_
  intro p e s m args below meth c s₁ Bd hml0 hP hK
  obtain ⟨rfl, hZ, hh⟩ := hP
  have hx := Bd.exec
  have hby := Bd.bytes
  have hml : c.maxLocals = 3 := hml0
  have hown : s.vm.findClass "java/lang/Long" = some m.cls := findClass_of_methodNamed Bd.named
  have hnm := (name_of_methodNamed Bd.named Bd.method).1
  have hlk := BodyLoose.notSynchronized Bd
  have X0 : Stand p l e ({ frames := 2, cells := 0, slots := 0, locals := 24 } : Room) s m #[(.ref o0), (.long q1)] below meth c s₁ [] 0 0 := Stand.of_body Bd
  have e0 : s₁.heap = h0 := by rw [← hh, Bd.state]; rfl
  have N0 := Fr.nil n0
  have pre0 : ∀ t, Steps p.tables e below (s₁.setTop (mkF m 0 #[.val (.ref o0), .val (.long q1), .second] [])) t → Steps p.tables e below (s₁.setTop (entryFrame m #[(.ref o0), (.long q1)] 3)) t := fun t k => castTop (ef_6 m o0 q1) k
  obtain ⟨vr1, _, ⟨T1, L1, k1, n1⟩, -, X1, ⟨Lc1, hQ1, l1, y1, z1⟩, st1⟩ := X0.specialBack hx (y := (⟨"java/lang/Number", "<init>", "()V"⟩ : MethodName)) rfl hown (mvT hZ (hw _ (List.mem_of_getElem? (i := 41) rfl))) (mvT hZ (hw _ (List.mem_of_getElem? (i := 42) rfl))) (mvT hZ (hw _ (List.mem_of_getElem? (i := 46) rfl))) (by decide) (backOf (W := 0) (rm7 l Z a0 hw [] o0 h0 n0 Z0) hZ (hw _ (List.mem_of_getElem? (i := 46) rfl)) (hw _ (List.mem_of_getElem? (i := 45) rfl)) (by decide) (by decide)) (g := (mkF m 1 #[.val (.ref o0), .val (.long q1), .second] [(.ref o0)])) rfl (by rw [hml]; rfl) (Steps.refl _) (a := o0) (argsL := []) (rest := []) (lenOf pd___V rfl) rfl (by show 2 * 0 + _ ≤ _; exact Nat.le_of_eq rfl) (hb hby d6_1) (fun _ _ => ⟨rfl, e0, (by decide : 0 + 0 ≤ _), (by decide : 0 + 0 ≤ _)⟩)
  dsimp only [Pt.U, Pt.locs, Pt.cells, Pt.slots] at X1 l1 y1 z1 st1 hQ1
  subst l1 y1 z1
  have N1q := (show _ ∧ _ ∧ _ from hQ1).1
  have hv1 := (show _ ∧ _ ∧ _ from hQ1).2.1
  have e1 := (show _ ∧ _ ∧ _ from hQ1).2.2
  clear hQ1
  subst hv1
  have N1 := Fr.app N0 N1q
  obtain ⟨T2, h2, X2, e2, W2, st2⟩ := putF X1 hx hZ hown (host := "") (Or.inl (hw _ (List.mem_of_getElem? (i := 48) rfl))) Via.refl e1 F_value_o0 E_o0 (Or.inr ⟨(hw _ (List.mem_of_getElem? (i := 49) rfl)), rfl, hnm⟩) (hw _ (List.mem_of_getElem? (i := 36) rfl)) (ty := .long) (by decide) rfl rfl (g := (mkF m 6 #[.val (.ref o0), .val (.long q1), .second] [(.long q1), (.ref o0)])) rfl rfl (hb hby d6_6)
  have Fw2 := F_value_o0.same W2
  have N2 := Fr.snoc X2 N1 g_o0
  have z3 : n0 ≤ h2.size := Nat.le_trans Z0 (Keep.of_wr W2).1
  have hs4 : h0.size ≤ h2.size := Nat.le_trans (Nat.le_refl h0.size) (Keep.of_wr W2).1
  obtain ⟨fs, hr, hrun, hended, hW, hsame⟩ := X2.leave (v := none) (fun _ => rfl) hlk
  refine ⟨_, _, pre0 _ ?_, hrun, hended, _, _, rfl, ?_, ⟨_, rfl⟩, hW, hsame.mono (by decide) (by decide)⟩
  · skip
    show Steps p.tables e below (s₁.setTop (mkF m 0 #[.val (.ref o0), .val (.long q1), .second] [])) _
    refine XS.aloadN X0.here hx rfl (hb hby d6_0) rfl rfl ?_
    show Steps p.tables e below (s₁.setTop (mkF m 1 #[.val (.ref o0), .val (.long q1), .second] [(.ref o0)])) _
    refine st1.trans ?_
    show Steps p.tables e below (T1.setTop (mkF m 4 #[.val (.ref o0), .val (.long q1), .second] [])) _
    refine XS.aloadN X1.here hx rfl (hb hby d6_4) rfl rfl ?_
    show Steps p.tables e below (T1.setTop (mkF m 5 #[.val (.ref o0), .val (.long q1), .second] [(.ref o0)])) _
    refine XT.lloadN X1.here hx rfl (hb hby d6_5) rfl ?_
    show Steps p.tables e below (T1.setTop (mkF m 6 #[.val (.ref o0), .val (.long q1), .second] [(.long q1), (.ref o0)])) _
    refine st2 _ ?_
    show Steps p.tables e below (T2.setTop (mkF m 9 #[.val (.ref o0), .val (.long q1), .second] [])) _
    exact X2.returnOut hx Bd.returns (hb hby d6_9) hr
  · skip
    show Q6 Z o0 q1 u0_value h0 n0 _ T2.heap _
    rw [e2]
    have k5 := (E_o0.wr W2)
    exact ⟨N2, rfl, ((Keep.refl h0 [o0]).wr W2 (Or.inl (List.mem_of_getElem? (i := 0) rfl))), k5, Fw2⟩
theorem d1_0 : decode prog_6_method_1_code 0 = .ok (.aload_n 0, 1) := by decide +kernel
theorem d1_1 : decode prog_6_method_1_code 1 = .ok (.invokespecial 1, 3) := by decide +kernel
theorem d1_4 : decode prog_6_method_1_code 4 = .ok (.aload_n 0, 1) := by decide +kernel
theorem d1_5 : decode prog_6_method_1_code 5 = .ok (.lload_n 1, 1) := by decide +kernel
theorem d1_6 : decode prog_6_method_1_code 6 = .ok (.putfield 7, 3) := by decide +kernel
theorem d1_9 : decode prog_6_method_1_code 9 = .ok (.aload_n 0, 1) := by decide +kernel
theorem d1_10 : decode prog_6_method_1_code 10 = .ok (.iload_n 3, 1) := by decide +kernel
theorem d1_11 : decode prog_6_method_1_code 11 = .ok (.putfield 13, 3) := by decide +kernel
theorem d1_14 : decode prog_6_method_1_code 14 = .ok (.return_, 1) := by decide +kernel
theorem pn_com_example_vannus_vannus_Fingerprint : plainName "com/example/vannus/vannus/Fingerprint" = true := by first | (simp [plainName, overriddenIn]; done) | decide +kernel
theorem ef_1 (m : MethodId) (o0 : Addr) (q1 : Int64) (p2 : Int32) : entryFrame m #[(.ref o0), (.long q1), (.int p2)] 4 = mkF m 0 #[.val (.ref o0), .val (.long q1), .second, .val (.int p2)] [] := by first | (simp [entryFrame, mkF, argsToLocals, Value.category]; done) | rfl
def Q1 (Z : State) (o0 : Addr) (q1 : Int64) (p2 : Int32) (u0_hash : Value) (u1_position : Value) (h0 : Heap) (n0 : Nat) (v : Option Value) (h : Heap) (L : List Loc) : Prop := Fr n0 L ∧ v = none ∧ Keep h0 h [o0] ∧ Exa Z h o0 "com/example/vannus/vannus/Fingerprint" ∧ Fld Z h o0 "com/example/vannus/vannus/Fingerprint" "hash" "J" (.long q1) ∧ Fld Z h o0 "com/example/vannus/vannus/Fingerprint" "position" "I" (.int p2)
set_option maxRecDepth 65536 in
set_option maxHeartbeats 40000000 in
theorem rm1 (l : Launch) (Z : State) (a0 : Array Value) (hw : ∀ d ∈ tables_1, d.before a0 Z = true) (ws : List Jvm.Cond) (o0 : Addr) (q1 : Int64) (p2 : Int32) (u0_hash : Value) (u1_position : Value) (h0 : Heap) (n0 : Nat) (Z0 : n0 ≤ h0.size) (E_o0 : Exa Z h0 o0 "com/example/vannus/vannus/Fingerprint") (F_hash_o0 : Fld Z h0 o0 "com/example/vannus/vannus/Fingerprint" "hash" "J" u0_hash) (g_o0 : n0 ≤ o0) (F_position_o0 : Fld Z h0 o0 "com/example/vannus/vannus/Fingerprint" "position" "I" u1_position) :
    MetFree l (⟨"com/example/vannus/vannus/Fingerprint", "<init>", "(JI)V"⟩ : MethodName) (head1 (Jvm.Cond.code (⟨"com/example/vannus/vannus/Fingerprint", "<init>", "(JI)V"⟩ : MethodName) prog_6_method_1_code 4 none :: ws) ({ frames := 1, cells := 0, slots := 0, locals := 12 } : Room)) (fun a U => a = #[(.ref o0), (.long q1), (.int p2)] ∧ Z.Warmed39 U.vm ∧ U.heap = h0) (fun _ _ _ _ _ => True) (fun _ U o U' => ∃ v L, o = .returned v ∧ Q1 Z o0 q1 p2 u0_hash u1_position h0 n0 v U'.heap L ∧ FrameEnd U o U' L ({ frames := 1, cells := 0, slots := 0, locals := 12 } : Room).cells ({ frames := 1, cells := 0, slots := 0, locals := 12 } : Room).slots) := by
  refine MetFree.of_bodySF (plainFor_of_name pn_com_example_vannus_vannus_Fingerprint) hisR ?_
  intro p e s m args below meth c s₁ Bd hml0 hP hK
  obtain ⟨rfl, hZ, hh⟩ := hP
  have hx := Bd.exec
  have hby := Bd.bytes
  have hml : c.maxLocals = 4 := hml0
  have hown : s.vm.findClass "com/example/vannus/vannus/Fingerprint" = some m.cls := findClass_of_methodNamed Bd.named
  have hnm := (name_of_methodNamed Bd.named Bd.method).1
  have hlk := BodyLoose.notSynchronized Bd
  have X0 : Stand p l e ({ frames := 1, cells := 0, slots := 0, locals := 12 } : Room) s m #[(.ref o0), (.long q1), (.int p2)] below meth c s₁ [] 0 0 := Stand.of_body Bd
  have e0 : s₁.heap = h0 := by rw [← hh, Bd.state]; rfl
  have N0 := Fr.nil n0
  have pre0 : ∀ t, Steps p.tables e below (s₁.setTop (mkF m 0 #[.val (.ref o0), .val (.long q1), .second, .val (.int p2)] [])) t → Steps p.tables e below (s₁.setTop (entryFrame m #[(.ref o0), (.long q1), (.int p2)] 4)) t := fun t k => castTop (ef_1 m o0 q1 p2) k
  obtain ⟨T1, X1, e1, st1⟩ := initO X0 hx hZ hown (hw _ (List.mem_of_getElem? (i := 6) rfl)) (hw _ (List.mem_of_getElem? (i := 7) rfl)) (hw _ (List.mem_of_getElem? (i := 8) rfl)) e0 (g := (mkF m 1 #[.val (.ref o0), .val (.long q1), .second, .val (.int p2)] [(.ref o0)])) rfl (by rw [hml]; rfl) rfl (hb hby d1_1) (by decide) (W := 0) (by show 2 * 0 + _ ≤ _; exact Nat.le_of_eq rfl) (by decide)
  obtain ⟨T2, h2, X2, e2, W2, st2⟩ := putF X1 hx hZ hown (host := "") (Or.inl (hw _ (List.mem_of_getElem? (i := 9) rfl))) Via.refl e1 F_hash_o0 E_o0 (Or.inr ⟨(hw _ (List.mem_of_getElem? (i := 10) rfl)), rfl, hnm⟩) (hw _ (List.mem_of_getElem? (i := 1) rfl)) (ty := .long) (by decide) rfl rfl (g := (mkF m 6 #[.val (.ref o0), .val (.long q1), .second, .val (.int p2)] [(.long q1), (.ref o0)])) rfl rfl (hb hby d1_6)
  have Fw2 := F_hash_o0.same W2
  have N2 := Fr.snoc X2 N0 g_o0
  have z3 : n0 ≤ h2.size := Nat.le_trans Z0 (Keep.of_wr W2).1
  have hs4 : h0.size ≤ h2.size := Nat.le_trans (Nat.le_refl h0.size) (Keep.of_wr W2).1
  have k5 := (F_position_o0.other W2 (Or.inr (slot_ne (Or.inr (hw _ (List.mem_of_getElem? (i := 12) rfl))) (Or.inr (hw _ (List.mem_of_getElem? (i := 10) rfl))) (by decide) (t := .int) (t' := .long) (by decide) (by decide))))
  have k6 := (E_o0.wr W2)
  obtain ⟨T7, h7, X7, e7, W7, st7⟩ := putF X2 hx hZ hown (host := "") (Or.inl (hw _ (List.mem_of_getElem? (i := 11) rfl))) Via.refl e2 k5 k6 (Or.inr ⟨(hw _ (List.mem_of_getElem? (i := 12) rfl)), rfl, hnm⟩) (hw _ (List.mem_of_getElem? (i := 1) rfl)) (ty := .int) (by decide) rfl rfl (g := (mkF m 11 #[.val (.ref o0), .val (.long q1), .second, .val (.int p2)] [(.int p2), (.ref o0)])) rfl rfl (hb hby d1_11)
  have Fw7 := k5.same W7
  have N7 := Fr.snoc X7 N2 g_o0
  have z8 : n0 ≤ h7.size := Nat.le_trans z3 (Keep.of_wr W7).1
  have hs9 : h0.size ≤ h7.size := Nat.le_trans hs4 (Keep.of_wr W7).1
  obtain ⟨fs, hr, hrun, hended, hW, hsame⟩ := X7.leave (v := none) (fun _ => rfl) hlk
  refine ⟨_, _, pre0 _ ?_, hrun, hended, _, _, rfl, ?_, ⟨_, rfl⟩, hW, hsame.mono (by decide) (by decide)⟩
  · skip
    show Steps p.tables e below (s₁.setTop (mkF m 0 #[.val (.ref o0), .val (.long q1), .second, .val (.int p2)] [])) _
    refine XS.aloadN X0.here hx rfl (hb hby d1_0) rfl rfl ?_
    show Steps p.tables e below (s₁.setTop (mkF m 1 #[.val (.ref o0), .val (.long q1), .second, .val (.int p2)] [(.ref o0)])) _
    refine st1 _ ?_
    show Steps p.tables e below (T1.setTop (mkF m 4 #[.val (.ref o0), .val (.long q1), .second, .val (.int p2)] [])) _
    refine XS.aloadN X1.here hx rfl (hb hby d1_4) rfl rfl ?_
    show Steps p.tables e below (T1.setTop (mkF m 5 #[.val (.ref o0), .val (.long q1), .second, .val (.int p2)] [(.ref o0)])) _
    refine XT.lloadN X1.here hx rfl (hb hby d1_5) rfl ?_
    show Steps p.tables e below (T1.setTop (mkF m 6 #[.val (.ref o0), .val (.long q1), .second, .val (.int p2)] [(.long q1), (.ref o0)])) _
    refine st2 _ ?_
    show Steps p.tables e below (T2.setTop (mkF m 9 #[.val (.ref o0), .val (.long q1), .second, .val (.int p2)] [])) _
    refine XS.aloadN X2.here hx rfl (hb hby d1_9) rfl rfl ?_
    show Steps p.tables e below (T2.setTop (mkF m 10 #[.val (.ref o0), .val (.long q1), .second, .val (.int p2)] [(.ref o0)])) _
    refine XS.iloadN X2.here hx rfl (hb hby d1_10) rfl ?_
    show Steps p.tables e below (T2.setTop (mkF m 11 #[.val (.ref o0), .val (.long q1), .second, .val (.int p2)] [(.int p2), (.ref o0)])) _
    refine st7 _ ?_
    show Steps p.tables e below (T7.setTop (mkF m 14 #[.val (.ref o0), .val (.long q1), .second, .val (.int p2)] [])) _
    exact X7.returnOut hx Bd.returns (hb hby d1_14) hr
  · skip
    show Q1 Z o0 q1 p2 u0_hash u1_position h0 n0 _ T7.heap _
    rw [e7]
    have k10 := (k6.wr W7)
    have k11 := (Fw2.other W7 (Or.inr (slot_ne (Or.inr (hw _ (List.mem_of_getElem? (i := 10) rfl))) (Or.inr (hw _ (List.mem_of_getElem? (i := 12) rfl))) (by decide) (t := .long) (t' := .int) (by decide) (by decide))))
    exact ⟨N7, rfl, (((Keep.refl h0 [o0]).wr W2 (Or.inl (List.mem_of_getElem? (i := 0) rfl))).wr W7 (Or.inl (List.mem_of_getElem? (i := 0) rfl))), k10, k11, Fw7⟩
theorem d5_0 : decode prog_6_method_4_code 0 = .ok (.aload_n 1, 1) := by decide +kernel
theorem d5_1 : decode prog_6_method_4_code 1 = .ok (.instanceof 8, 3) := by decide +kernel
theorem d5_4 : decode prog_6_method_4_code 4 = .ok (.ifCond .eq 35, 3) := by decide +kernel
theorem d5_7 : decode prog_6_method_4_code 7 = .ok (.aload_n 1, 1) := by decide +kernel
theorem d5_8 : decode prog_6_method_4_code 8 = .ok (.checkcast 8, 3) := by decide +kernel
theorem d5_11 : decode prog_6_method_4_code 11 = .ok (.astore_n 2, 1) := by decide +kernel
theorem d5_12 : decode prog_6_method_4_code 12 = .ok (.aload_n 0, 1) := by decide +kernel
theorem d5_13 : decode prog_6_method_4_code 13 = .ok (.getfield 7, 3) := by decide +kernel
theorem d5_16 : decode prog_6_method_4_code 16 = .ok (.aload_n 2, 1) := by decide +kernel
theorem d5_17 : decode prog_6_method_4_code 17 = .ok (.getfield 7, 3) := by decide +kernel
theorem d5_20 : decode prog_6_method_4_code 20 = .ok (.lcmp, 1) := by decide +kernel
theorem d5_21 : decode prog_6_method_4_code 21 = .ok (.ifCond .ne 18, 3) := by decide +kernel
theorem d5_24 : decode prog_6_method_4_code 24 = .ok (.aload_n 0, 1) := by decide +kernel
theorem d5_25 : decode prog_6_method_4_code 25 = .ok (.getfield 13, 3) := by decide +kernel
theorem d5_28 : decode prog_6_method_4_code 28 = .ok (.aload_n 2, 1) := by decide +kernel
theorem d5_29 : decode prog_6_method_4_code 29 = .ok (.getfield 13, 3) := by decide +kernel
theorem d5_32 : decode prog_6_method_4_code 32 = .ok (.if_icmp .ne 7, 3) := by decide +kernel
theorem d5_35 : decode prog_6_method_4_code 35 = .ok (.iconst 1, 1) := by decide +kernel
theorem d5_36 : decode prog_6_method_4_code 36 = .ok (.goto 4, 3) := by decide +kernel
theorem d5_39 : decode prog_6_method_4_code 39 = .ok (.iconst 0, 1) := by decide +kernel
theorem d5_40 : decode prog_6_method_4_code 40 = .ok (.ireturn, 1) := by decide +kernel
theorem ef_5 (m : MethodId) (o0 : Addr) (o1 : Addr) : entryFrame m #[(.ref o0), (.ref o1)] 3 = mkF m 0 #[.val (.ref o0), .val (.ref o1), .unset] [] := by first | (simp [entryFrame, mkF, argsToLocals, Value.category]; done) | rfl
def v5_1 (w0_hash : Int64) (w1_hash : Int64) (w2_position : Int32) (w3_position : Int32) : Int32 := (if w0_hash = w1_hash then (if w2_position = w3_position then (1 : Int32) else (0 : Int32)) else (0 : Int32))
def f5 (w0_hash : Int64) (w1_hash : Int64) (w2_position : Int32) (w3_position : Int32) : Int32 := (nar .boolean (v5_1 w0_hash w1_hash w2_position w3_position))
def Q5 (Z : State) (o0 : Addr) (o1 : Addr) (w0_hash : Int64) (w1_hash : Int64) (w2_position : Int32) (w3_position : Int32) (h0 : Heap) (n0 : Nat) (v : Option Value) (h : Heap) (L : List Loc) : Prop := Fr n0 L ∧ v = some (.int (f5 w0_hash w1_hash w2_position w3_position)) ∧ h = h0
set_option maxRecDepth 65536 in
set_option maxHeartbeats 40000000 in
theorem rm5 (l : Launch) (Z : State) (a0 : Array Value) (hw : ∀ d ∈ tables_1, d.before a0 Z = true) (ws : List Jvm.Cond) (o0 : Addr) (o1 : Addr) (w0_hash : Int64) (w1_hash : Int64) (w2_position : Int32) (w3_position : Int32) (h0 : Heap) (n0 : Nat) (Z0 : n0 ≤ h0.size) (E_o1 : Exa Z h0 o1 "com/example/vannus/vannus/Fingerprint") (F_hash_o0 : Fld Z h0 o0 "com/example/vannus/vannus/Fingerprint" "hash" "J" (.long w0_hash)) (F_hash_o1 : Fld Z h0 o1 "com/example/vannus/vannus/Fingerprint" "hash" "J" (.long w1_hash)) (F_position_o0 : Fld Z h0 o0 "com/example/vannus/vannus/Fingerprint" "position" "I" (.int w2_position)) (F_position_o1 : Fld Z h0 o1 "com/example/vannus/vannus/Fingerprint" "position" "I" (.int w3_position)) :
    MetFree l (⟨"com/example/vannus/vannus/Fingerprint", "equals", "(Ljava/lang/Object;)Z"⟩ : MethodName) (head1 (Jvm.Cond.code (⟨"com/example/vannus/vannus/Fingerprint", "equals", "(Ljava/lang/Object;)Z"⟩ : MethodName) prog_6_method_4_code 3 (some .boolean) :: ws) ({ frames := 0, cells := 0, slots := 0, locals := 0 } : Room)) (fun a U => a = #[(.ref o0), (.ref o1)] ∧ Z.Warmed39 U.vm ∧ U.heap = h0) (fun _ _ _ _ _ => True) (fun _ U o U' => ∃ v L, o = .returned v ∧ Q5 Z o0 o1 w0_hash w1_hash w2_position w3_position h0 n0 v U'.heap L ∧ FrameEnd U o U' L ({ frames := 0, cells := 0, slots := 0, locals := 0 } : Room).cells ({ frames := 0, cells := 0, slots := 0, locals := 0 } : Room).slots) := by
  refine MetFree.of_bodySF (plainFor_of_name pn_com_example_vannus_vannus_Fingerprint) hisR ?_
  intro p e s m args below meth c s₁ Bd hml0 hP hK
  obtain ⟨rfl, hZ, hh⟩ := hP
  have hx := Bd.exec
  have hby := Bd.bytes
  have hml : c.maxLocals = 3 := hml0
  have hown : s.vm.findClass "com/example/vannus/vannus/Fingerprint" = some m.cls := findClass_of_methodNamed Bd.named
  have hnm := (name_of_methodNamed Bd.named Bd.method).1
  have hlk := BodyLoose.notSynchronized Bd
  have X0 : Stand p l e ({ frames := 0, cells := 0, slots := 0, locals := 0 } : Room) s m #[(.ref o0), (.ref o1)] below meth c s₁ [] 0 0 := Stand.of_body Bd
  have e0 : s₁.heap = h0 := by rw [← hh, Bd.state]; rfl
  have N0 := Fr.nil n0
  have pre0 : ∀ t, Steps p.tables e below (s₁.setTop (mkF m 0 #[.val (.ref o0), .val (.ref o1), .unset] [])) t → Steps p.tables e below (s₁.setTop (entryFrame m #[(.ref o0), (.ref o1)] 3)) t := fun t k => castTop (ef_5 m o0 o1) k
  obtain ⟨T1, X1, e1, st1⟩ := instY X0 hx hZ hown (hw _ (List.mem_of_getElem? (i := 33) rfl)) e0 (Ins.self E_o1) (g := (mkF m 1 #[.val (.ref o0), .val (.ref o1), .unset] [(.ref o1)])) rfl rfl (hb hby d5_1)
  obtain ⟨T2, X2, e2, st2⟩ := castY X1 hx hZ hown (hw _ (List.mem_of_getElem? (i := 33) rfl)) e1 (Ins.self E_o1) (g := (mkF m 8 #[.val (.ref o0), .val (.ref o1), .unset] [(.ref o1)])) rfl rfl (hb hby d5_8)
  obtain ⟨T3, X3, e3, st3⟩ := getF X2 hx hZ hown (host := "") (Or.inl (hw _ (List.mem_of_getElem? (i := 9) rfl))) Via.refl e2 F_hash_o0 (g := (mkF m 13 #[.val (.ref o0), .val (.ref o1), .val (.ref o1)] [(.ref o0)])) rfl rfl (hb hby d5_13)
  obtain ⟨T4, X4, e4, st4⟩ := getF X3 hx hZ hown (host := "") (Or.inl (hw _ (List.mem_of_getElem? (i := 9) rfl))) Via.refl e3 F_hash_o1 (g := (mkF m 17 #[.val (.ref o0), .val (.ref o1), .val (.ref o1)] [(.ref o1), (.long w0_hash)])) rfl rfl (hb hby d5_17)
  have pre5 : ∀ t, Steps p.tables e below (T4.setTop (mkF m 21 #[.val (.ref o0), .val (.ref o1), .val (.ref o1)] [(.int (XT.cmpL w0_hash w1_hash))])) t → Steps p.tables e below (s₁.setTop (entryFrame m #[(.ref o0), (.ref o1)] 3)) t := by
    intro t k
    refine pre0 t ?_
    show Steps p.tables e below (s₁.setTop (mkF m 0 #[.val (.ref o0), .val (.ref o1), .unset] [])) _
    refine XS.aloadN X0.here hx rfl (hb hby d5_0) rfl rfl ?_
    show Steps p.tables e below (s₁.setTop (mkF m 1 #[.val (.ref o0), .val (.ref o1), .unset] [(.ref o1)])) _
    refine st1 _ ?_
    show Steps p.tables e below (T1.setTop (mkF m 4 #[.val (.ref o0), .val (.ref o1), .unset] [(.int (1 : Int32))])) _
    refine XS.ifNo X1.here hx rfl (hb hby d5_4) rfl (XT.i0_eq_f (by decide)) ?_
    show Steps p.tables e below (T1.setTop (mkF m 7 #[.val (.ref o0), .val (.ref o1), .unset] [])) _
    refine XS.aloadN X1.here hx rfl (hb hby d5_7) rfl rfl ?_
    show Steps p.tables e below (T1.setTop (mkF m 8 #[.val (.ref o0), .val (.ref o1), .unset] [(.ref o1)])) _
    refine st2 _ ?_
    show Steps p.tables e below (T2.setTop (mkF m 11 #[.val (.ref o0), .val (.ref o1), .unset] [(.ref o1)])) _
    refine XS.astoreN X2.here hx rfl (hb hby d5_11) rfl rfl (l' := #[.val (.ref o0), .val (.ref o1), .val (.ref o1)]) rfl ?_
    show Steps p.tables e below (T2.setTop (mkF m 12 #[.val (.ref o0), .val (.ref o1), .val (.ref o1)] [])) _
    refine XS.aloadN X2.here hx rfl (hb hby d5_12) rfl rfl ?_
    show Steps p.tables e below (T2.setTop (mkF m 13 #[.val (.ref o0), .val (.ref o1), .val (.ref o1)] [(.ref o0)])) _
    refine st3 _ ?_
    show Steps p.tables e below (T3.setTop (mkF m 16 #[.val (.ref o0), .val (.ref o1), .val (.ref o1)] [(.long w0_hash)])) _
    refine XS.aloadN X3.here hx rfl (hb hby d5_16) rfl rfl ?_
    show Steps p.tables e below (T3.setTop (mkF m 17 #[.val (.ref o0), .val (.ref o1), .val (.ref o1)] [(.ref o1), (.long w0_hash)])) _
    refine st4 _ ?_
    show Steps p.tables e below (T4.setTop (mkF m 20 #[.val (.ref o0), .val (.ref o1), .val (.ref o1)] [(.long w1_hash), (.long w0_hash)])) _
    refine XT.lcmp X4.here hx rfl (hb hby d5_20) rfl ?_
    exact k
  clear pre0 st1 st2 st3 st4
  obtain ⟨T11, L11, X11, e11, N11, pre11⟩ : ∃ (T' : State) (L' : List Loc), Stand p l e ({ frames := 0, cells := 0, slots := 0, locals := 0 } : Room) s m #[(.ref o0), (.ref o1)] below meth c T' L' 0 0 ∧ T'.heap = h0 ∧ Fr n0 L' ∧ ∀ t, Steps p.tables e below (T'.setTop (mkF m 40 #[.val (.ref o0), .val (.ref o1), .val (.ref o1)] [(.int (v5_1 w0_hash w1_hash w2_position w3_position))])) t → Steps p.tables e below (s₁.setTop (entryFrame m #[(.ref o0), (.ref o1)] 3)) t := by
    by_cases c6 : w0_hash = w1_hash
    · skip
      obtain ⟨T7, X7, e7, st7⟩ := getF X4 hx hZ hown (host := "") (Or.inl (hw _ (List.mem_of_getElem? (i := 11) rfl))) Via.refl e4 F_position_o0 (g := (mkF m 25 #[.val (.ref o0), .val (.ref o1), .val (.ref o1)] [(.ref o0)])) rfl rfl (hb hby d5_25)
      obtain ⟨T8, X8, e8, st8⟩ := getF X7 hx hZ hown (host := "") (Or.inl (hw _ (List.mem_of_getElem? (i := 11) rfl))) Via.refl e7 F_position_o1 (g := (mkF m 29 #[.val (.ref o0), .val (.ref o1), .val (.ref o1)] [(.ref o1), (.int w2_position)])) rfl rfl (hb hby d5_29)
      have pre9 : ∀ t, Steps p.tables e below (T8.setTop (mkF m 32 #[.val (.ref o0), .val (.ref o1), .val (.ref o1)] [(.int w3_position), (.int w2_position)])) t → Steps p.tables e below (s₁.setTop (entryFrame m #[(.ref o0), (.ref o1)] 3)) t := by
        intro t k
        refine pre5 t ?_
        show Steps p.tables e below (T4.setTop (mkF m 21 #[.val (.ref o0), .val (.ref o1), .val (.ref o1)] [(.int (XT.cmpL w0_hash w1_hash))])) _
        refine XS.ifNo X4.here hx rfl (hb hby d5_21) rfl (XT.ll_ne_f c6) ?_
        show Steps p.tables e below (T4.setTop (mkF m 24 #[.val (.ref o0), .val (.ref o1), .val (.ref o1)] [])) _
        refine XS.aloadN X4.here hx rfl (hb hby d5_24) rfl rfl ?_
        show Steps p.tables e below (T4.setTop (mkF m 25 #[.val (.ref o0), .val (.ref o1), .val (.ref o1)] [(.ref o0)])) _
        refine st7 _ ?_
        show Steps p.tables e below (T7.setTop (mkF m 28 #[.val (.ref o0), .val (.ref o1), .val (.ref o1)] [(.int w2_position)])) _
        refine XS.aloadN X7.here hx rfl (hb hby d5_28) rfl rfl ?_
        show Steps p.tables e below (T7.setTop (mkF m 29 #[.val (.ref o0), .val (.ref o1), .val (.ref o1)] [(.ref o1), (.int w2_position)])) _
        refine st8 _ ?_
        exact k
      clear pre5 st7 st8
      by_cases c10 : w2_position = w3_position
      · skip
        refine ⟨T8, _, X8, e8, N0, fun t k => ?_⟩
        rw [show (v5_1 w0_hash w1_hash w2_position w3_position) = (1 : Int32) from ((if_pos c6).trans (if_pos c10))] at k
        refine pre9 t ?_
        show Steps p.tables e below (T8.setTop (mkF m 32 #[.val (.ref o0), .val (.ref o1), .val (.ref o1)] [(.int w3_position), (.int w2_position)])) _
        refine XS.icmpNo X8.here hx rfl (hb hby d5_32) rfl (XT.ii_ne_f c10) ?_
        show Steps p.tables e below (T8.setTop (mkF m 35 #[.val (.ref o0), .val (.ref o1), .val (.ref o1)] [])) _
        refine XT.iconstV X8.here hx rfl (1 : Int32) (hb hby d5_35) (by decide) ?_
        show Steps p.tables e below (T8.setTop (mkF m 36 #[.val (.ref o0), .val (.ref o1), .val (.ref o1)] [(.int (1 : Int32))])) _
        refine XS.goto X8.here hx rfl (pc0 := 36) (pc' := 40) rfl (hb hby d5_36) (by decide) (by decide) ?_
        exact k
      · skip
        refine ⟨T8, _, X8, e8, N0, fun t k => ?_⟩
        rw [show (v5_1 w0_hash w1_hash w2_position w3_position) = (0 : Int32) from ((if_pos c6).trans (if_neg c10))] at k
        refine pre9 t ?_
        show Steps p.tables e below (T8.setTop (mkF m 32 #[.val (.ref o0), .val (.ref o1), .val (.ref o1)] [(.int w3_position), (.int w2_position)])) _
        refine XS.icmpYes X8.here hx rfl (pc0 := 32) (pc' := 39) rfl (hb hby d5_32) rfl (XT.ii_ne_t c10) (by decide) (by decide) ?_
        show Steps p.tables e below (T8.setTop (mkF m 39 #[.val (.ref o0), .val (.ref o1), .val (.ref o1)] [])) _
        refine XT.iconstV X8.here hx rfl (0 : Int32) (hb hby d5_39) (by decide) ?_
        exact k
    · skip
      refine ⟨T4, _, X4, e4, N0, fun t k => ?_⟩
      rw [show (v5_1 w0_hash w1_hash w2_position w3_position) = (0 : Int32) from (if_neg c6)] at k
      refine pre5 t ?_
      show Steps p.tables e below (T4.setTop (mkF m 21 #[.val (.ref o0), .val (.ref o1), .val (.ref o1)] [(.int (XT.cmpL w0_hash w1_hash))])) _
      refine XS.ifYes X4.here hx rfl (pc0 := 21) (pc' := 39) rfl (hb hby d5_21) rfl (XT.ll_ne_t c6) (by decide) (by decide) ?_
      show Steps p.tables e below (T4.setTop (mkF m 39 #[.val (.ref o0), .val (.ref o1), .val (.ref o1)] [])) _
      refine XT.iconstV X4.here hx rfl (0 : Int32) (hb hby d5_39) (by decide) ?_
      exact k
  obtain ⟨fs, hr, hrun, hended, hW, hsame⟩ := X11.leave (v := some (.int (nar .boolean (v5_1 w0_hash w1_hash w2_position w3_position)))) (fun h => by rw [Bd.returns] at h; cases h) hlk
  refine ⟨_, _, pre11 _ ?_, hrun, hended, _, _, rfl, ?_, ⟨_, rfl⟩, hW, hsame.mono (by decide) (by decide)⟩
  · skip
    show Steps p.tables e below (T11.setTop (mkF m 40 #[.val (.ref o0), .val (.ref o1), .val (.ref o1)] [(.int (v5_1 w0_hash w1_hash w2_position w3_position))])) _
    exact retN X11 hx (t := .boolean) Bd.returns (by simp) (hb hby d5_40) hr
  · skip
    show Q5 Z o0 o1 w0_hash w1_hash w2_position w3_position h0 n0 _ T11.heap _
    rw [e11]
    exact ⟨N11, rfl, rfl⟩
theorem ef_eqN (m : MethodId) (o0 : Addr) : entryFrame m #[(.ref o0), .null] 3 = mkF m 0 #[.val (.ref o0), .val .null, .unset] [] := by first | (simp [entryFrame, mkF, argsToLocals, Value.category]; done) | rfl
def feqN : Int32 := (0 : Int32)
def QeqN (Z : State) (o0 : Addr) (h0 : Heap) (n0 : Nat) (v : Option Value) (h : Heap) (L : List Loc) : Prop := Fr n0 L ∧ v = some (.int feqN) ∧ h = h0
set_option maxRecDepth 65536 in
set_option maxHeartbeats 40000000 in
theorem rmeqN (l : Launch) (Z : State) (a0 : Array Value) (hw : ∀ d ∈ tables_1, d.before a0 Z = true) (ws : List Jvm.Cond) (o0 : Addr) (h0 : Heap) (n0 : Nat) (Z0 : n0 ≤ h0.size) :
    MetFree l (⟨"com/example/vannus/vannus/Fingerprint", "equals", "(Ljava/lang/Object;)Z"⟩ : MethodName) (head1 (Jvm.Cond.code (⟨"com/example/vannus/vannus/Fingerprint", "equals", "(Ljava/lang/Object;)Z"⟩ : MethodName) prog_6_method_4_code 3 (some .boolean) :: ws) ({ frames := 0, cells := 0, slots := 0, locals := 0 } : Room)) (fun a U => a = #[(.ref o0), .null] ∧ Z.Warmed39 U.vm ∧ U.heap = h0) (fun _ _ _ _ _ => True) (fun _ U o U' => ∃ v L, o = .returned v ∧ QeqN Z o0 h0 n0 v U'.heap L ∧ FrameEnd U o U' L ({ frames := 0, cells := 0, slots := 0, locals := 0 } : Room).cells ({ frames := 0, cells := 0, slots := 0, locals := 0 } : Room).slots) := by
  refine MetFree.of_bodySF (plainFor_of_name pn_com_example_vannus_vannus_Fingerprint) hisR ?_
  intro p e s m args below meth c s₁ Bd hml0 hP hK
  obtain ⟨rfl, hZ, hh⟩ := hP
  have hx := Bd.exec
  have hby := Bd.bytes
  have hml : c.maxLocals = 3 := hml0
  have hown : s.vm.findClass "com/example/vannus/vannus/Fingerprint" = some m.cls := findClass_of_methodNamed Bd.named
  have hnm := (name_of_methodNamed Bd.named Bd.method).1
  have hlk := BodyLoose.notSynchronized Bd
  have X0 : Stand p l e ({ frames := 0, cells := 0, slots := 0, locals := 0 } : Room) s m #[(.ref o0), .null] below meth c s₁ [] 0 0 := Stand.of_body Bd
  have e0 : s₁.heap = h0 := by rw [← hh, Bd.state]; rfl
  have N0 := Fr.nil n0
  have pre0 : ∀ t, Steps p.tables e below (s₁.setTop (mkF m 0 #[.val (.ref o0), .val .null, .unset] [])) t → Steps p.tables e below (s₁.setTop (entryFrame m #[(.ref o0), .null] 3)) t := fun t k => castTop (ef_eqN m o0) k
  obtain ⟨fs, hr, hrun, hended, hW, hsame⟩ := X0.leave (v := some (.int (0 : Int32))) (fun h => by rw [Bd.returns] at h; cases h) hlk
  refine ⟨_, _, pre0 _ ?_, hrun, hended, _, _, rfl, ?_, ⟨_, rfl⟩, hW, hsame.mono (by decide) (by decide)⟩
  · skip
    show Steps p.tables e below (s₁.setTop (mkF m 0 #[.val (.ref o0), .val .null, .unset] [])) _
    refine XS.aloadN X0.here hx rfl (hb hby d5_0) rfl rfl ?_
    show Steps p.tables e below (s₁.setTop (mkF m 1 #[.val (.ref o0), .val .null, .unset] [.null])) _
    refine X0.instanceofNull hx (g := (mkF m 1 #[.val (.ref o0), .val .null, .unset] [.null])) rfl rfl (hb hby d5_1) _ ?_
    show Steps p.tables e below (s₁.setTop (mkF m 4 #[.val (.ref o0), .val .null, .unset] [(.int (0 : Int32))])) _
    refine XS.ifYes X0.here hx rfl (pc0 := 4) (pc' := 39) rfl (hb hby d5_4) rfl (XT.i0_eq_t (by decide)) (by decide) (by decide) ?_
    show Steps p.tables e below (s₁.setTop (mkF m 39 #[.val (.ref o0), .val .null, .unset] [])) _
    refine XT.iconstV X0.here hx rfl (0 : Int32) (hb hby d5_39) (by decide) ?_
    show Steps p.tables e below (s₁.setTop (mkF m 40 #[.val (.ref o0), .val .null, .unset] [(.int (0 : Int32))])) _
    exact retN X0 hx (t := .boolean) Bd.returns (by simp) (hb hby d5_40) hr
  · skip
    show QeqN Z o0 h0 n0 _ s₁.heap _
    rw [e0]
    exact ⟨N0, rfl, rfl⟩
theorem ef_eqI (m : MethodId) (o0 : Addr) (o1 : Addr) : entryFrame m #[(.ref o0), (.ref o1)] 3 = mkF m 0 #[.val (.ref o0), .val (.ref o1), .unset] [] := by first | (simp [entryFrame, mkF, argsToLocals, Value.category]; done) | rfl
def feqI : Int32 := (0 : Int32)
def QeqI (Z : State) (o0 : Addr) (o1 : Addr) (h0 : Heap) (n0 : Nat) (v : Option Value) (h : Heap) (L : List Loc) : Prop := Fr n0 L ∧ v = some (.int feqI) ∧ h = h0
set_option maxRecDepth 65536 in
set_option maxHeartbeats 40000000 in
theorem rmeqI (l : Launch) (Z : State) (a0 : Array Value) (hw : ∀ d ∈ tables_1, d.before a0 Z = true) (ws : List Jvm.Cond) (o0 : Addr) (o1 : Addr) (h0 : Heap) (n0 : Nat) (Z0 : n0 ≤ h0.size) (E_o1 : Exa Z h0 o1 "java/lang/Integer") :
    MetFree l (⟨"com/example/vannus/vannus/Fingerprint", "equals", "(Ljava/lang/Object;)Z"⟩ : MethodName) (head1 (Jvm.Cond.code (⟨"com/example/vannus/vannus/Fingerprint", "equals", "(Ljava/lang/Object;)Z"⟩ : MethodName) prog_6_method_4_code 3 (some .boolean) :: ws) ({ frames := 0, cells := 0, slots := 0, locals := 0 } : Room)) (fun a U => a = #[(.ref o0), (.ref o1)] ∧ Z.Warmed39 U.vm ∧ U.heap = h0) (fun _ _ _ _ _ => True) (fun _ U o U' => ∃ v L, o = .returned v ∧ QeqI Z o0 o1 h0 n0 v U'.heap L ∧ FrameEnd U o U' L ({ frames := 0, cells := 0, slots := 0, locals := 0 } : Room).cells ({ frames := 0, cells := 0, slots := 0, locals := 0 } : Room).slots) := by
  refine MetFree.of_bodySF (plainFor_of_name pn_com_example_vannus_vannus_Fingerprint) hisR ?_
  intro p e s m args below meth c s₁ Bd hml0 hP hK
  obtain ⟨rfl, hZ, hh⟩ := hP
  have hx := Bd.exec
  have hby := Bd.bytes
  have hml : c.maxLocals = 3 := hml0
  have hown : s.vm.findClass "com/example/vannus/vannus/Fingerprint" = some m.cls := findClass_of_methodNamed Bd.named
  have hnm := (name_of_methodNamed Bd.named Bd.method).1
  have hlk := BodyLoose.notSynchronized Bd
  have X0 : Stand p l e ({ frames := 0, cells := 0, slots := 0, locals := 0 } : Room) s m #[(.ref o0), (.ref o1)] below meth c s₁ [] 0 0 := Stand.of_body Bd
  have e0 : s₁.heap = h0 := by rw [← hh, Bd.state]; rfl
  have N0 := Fr.nil n0
  have pre0 : ∀ t, Steps p.tables e below (s₁.setTop (mkF m 0 #[.val (.ref o0), .val (.ref o1), .unset] [])) t → Steps p.tables e below (s₁.setTop (entryFrame m #[(.ref o0), (.ref o1)] 3)) t := fun t k => castTop (ef_eqI m o0 o1) k
  obtain ⟨T1, X1, e1, st1⟩ := instNo X0 hx hZ hown (hw _ (List.mem_of_getElem? (i := 33) rfl)) e0 E_o1 (own_nosub2 (hw _ (List.mem_of_getElem? (i := 62) rfl)) (hw _ (List.mem_of_getElem? (i := 61) rfl)) (hw _ (List.mem_of_getElem? (i := 60) rfl)) (hw _ (List.mem_of_getElem? (i := 1) rfl)) (by decide) (by decide) (by decide)) (g := (mkF m 1 #[.val (.ref o0), .val (.ref o1), .unset] [(.ref o1)])) rfl rfl (hb hby d5_1)
  obtain ⟨fs, hr, hrun, hended, hW, hsame⟩ := X1.leave (v := some (.int (0 : Int32))) (fun h => by rw [Bd.returns] at h; cases h) hlk
  refine ⟨_, _, pre0 _ ?_, hrun, hended, _, _, rfl, ?_, ⟨_, rfl⟩, hW, hsame.mono (by decide) (by decide)⟩
  · skip
    show Steps p.tables e below (s₁.setTop (mkF m 0 #[.val (.ref o0), .val (.ref o1), .unset] [])) _
    refine XS.aloadN X0.here hx rfl (hb hby d5_0) rfl rfl ?_
    show Steps p.tables e below (s₁.setTop (mkF m 1 #[.val (.ref o0), .val (.ref o1), .unset] [(.ref o1)])) _
    refine st1 _ ?_
    show Steps p.tables e below (T1.setTop (mkF m 4 #[.val (.ref o0), .val (.ref o1), .unset] [(.int (0 : Int32))])) _
    refine XS.ifYes X1.here hx rfl (pc0 := 4) (pc' := 39) rfl (hb hby d5_4) rfl (XT.i0_eq_t (by decide)) (by decide) (by decide) ?_
    show Steps p.tables e below (T1.setTop (mkF m 39 #[.val (.ref o0), .val (.ref o1), .unset] [])) _
    refine XT.iconstV X1.here hx rfl (0 : Int32) (hb hby d5_39) (by decide) ?_
    show Steps p.tables e below (T1.setTop (mkF m 40 #[.val (.ref o0), .val (.ref o1), .unset] [(.int (0 : Int32))])) _
    exact retN X1 hx (t := .boolean) Bd.returns (by simp) (hb hby d5_40) hr
  · skip
    show QeqI Z o0 o1 h0 n0 _ T1.heap _
    rw [e1]
    exact ⟨N0, rfl, rfl⟩
theorem ef_eqL (m : MethodId) (o0 : Addr) (o1 : Addr) : entryFrame m #[(.ref o0), (.ref o1)] 3 = mkF m 0 #[.val (.ref o0), .val (.ref o1), .unset] [] := by first | (simp [entryFrame, mkF, argsToLocals, Value.category]; done) | rfl
def feqL : Int32 := (0 : Int32)
def QeqL (Z : State) (o0 : Addr) (o1 : Addr) (h0 : Heap) (n0 : Nat) (v : Option Value) (h : Heap) (L : List Loc) : Prop := Fr n0 L ∧ v = some (.int feqL) ∧ h = h0
set_option maxRecDepth 65536 in
set_option maxHeartbeats 40000000 in
theorem rmeqL (l : Launch) (Z : State) (a0 : Array Value) (hw : ∀ d ∈ tables_1, d.before a0 Z = true) (ws : List Jvm.Cond) (o0 : Addr) (o1 : Addr) (h0 : Heap) (n0 : Nat) (Z0 : n0 ≤ h0.size) (E_o1 : Exa Z h0 o1 "java/lang/Long") :
    MetFree l (⟨"com/example/vannus/vannus/Fingerprint", "equals", "(Ljava/lang/Object;)Z"⟩ : MethodName) (head1 (Jvm.Cond.code (⟨"com/example/vannus/vannus/Fingerprint", "equals", "(Ljava/lang/Object;)Z"⟩ : MethodName) prog_6_method_4_code 3 (some .boolean) :: ws) ({ frames := 0, cells := 0, slots := 0, locals := 0 } : Room)) (fun a U => a = #[(.ref o0), (.ref o1)] ∧ Z.Warmed39 U.vm ∧ U.heap = h0) (fun _ _ _ _ _ => True) (fun _ U o U' => ∃ v L, o = .returned v ∧ QeqL Z o0 o1 h0 n0 v U'.heap L ∧ FrameEnd U o U' L ({ frames := 0, cells := 0, slots := 0, locals := 0 } : Room).cells ({ frames := 0, cells := 0, slots := 0, locals := 0 } : Room).slots) := by
  refine MetFree.of_bodySF (plainFor_of_name pn_com_example_vannus_vannus_Fingerprint) hisR ?_
  intro p e s m args below meth c s₁ Bd hml0 hP hK
  obtain ⟨rfl, hZ, hh⟩ := hP
  have hx := Bd.exec
  have hby := Bd.bytes
  have hml : c.maxLocals = 3 := hml0
  have hown : s.vm.findClass "com/example/vannus/vannus/Fingerprint" = some m.cls := findClass_of_methodNamed Bd.named
  have hnm := (name_of_methodNamed Bd.named Bd.method).1
  have hlk := BodyLoose.notSynchronized Bd
  have X0 : Stand p l e ({ frames := 0, cells := 0, slots := 0, locals := 0 } : Room) s m #[(.ref o0), (.ref o1)] below meth c s₁ [] 0 0 := Stand.of_body Bd
  have e0 : s₁.heap = h0 := by rw [← hh, Bd.state]; rfl
  have N0 := Fr.nil n0
  have pre0 : ∀ t, Steps p.tables e below (s₁.setTop (mkF m 0 #[.val (.ref o0), .val (.ref o1), .unset] [])) t → Steps p.tables e below (s₁.setTop (entryFrame m #[(.ref o0), (.ref o1)] 3)) t := fun t k => castTop (ef_eqL m o0 o1) k
  obtain ⟨T1, X1, e1, st1⟩ := instNo X0 hx hZ hown (hw _ (List.mem_of_getElem? (i := 33) rfl)) e0 E_o1 (own_nosub2 (hw _ (List.mem_of_getElem? (i := 62) rfl)) (hw _ (List.mem_of_getElem? (i := 61) rfl)) (hw _ (List.mem_of_getElem? (i := 63) rfl)) (hw _ (List.mem_of_getElem? (i := 1) rfl)) (by decide) (by decide) (by decide)) (g := (mkF m 1 #[.val (.ref o0), .val (.ref o1), .unset] [(.ref o1)])) rfl rfl (hb hby d5_1)
  obtain ⟨fs, hr, hrun, hended, hW, hsame⟩ := X1.leave (v := some (.int (0 : Int32))) (fun h => by rw [Bd.returns] at h; cases h) hlk
  refine ⟨_, _, pre0 _ ?_, hrun, hended, _, _, rfl, ?_, ⟨_, rfl⟩, hW, hsame.mono (by decide) (by decide)⟩
  · skip
    show Steps p.tables e below (s₁.setTop (mkF m 0 #[.val (.ref o0), .val (.ref o1), .unset] [])) _
    refine XS.aloadN X0.here hx rfl (hb hby d5_0) rfl rfl ?_
    show Steps p.tables e below (s₁.setTop (mkF m 1 #[.val (.ref o0), .val (.ref o1), .unset] [(.ref o1)])) _
    refine st1 _ ?_
    show Steps p.tables e below (T1.setTop (mkF m 4 #[.val (.ref o0), .val (.ref o1), .unset] [(.int (0 : Int32))])) _
    refine XS.ifYes X1.here hx rfl (pc0 := 4) (pc' := 39) rfl (hb hby d5_4) rfl (XT.i0_eq_t (by decide)) (by decide) (by decide) ?_
    show Steps p.tables e below (T1.setTop (mkF m 39 #[.val (.ref o0), .val (.ref o1), .unset] [])) _
    refine XT.iconstV X1.here hx rfl (0 : Int32) (hb hby d5_39) (by decide) ?_
    show Steps p.tables e below (T1.setTop (mkF m 40 #[.val (.ref o0), .val (.ref o1), .unset] [(.int (0 : Int32))])) _
    exact retN X1 hx (t := .boolean) Bd.returns (by simp) (hb hby d5_40) hr
  · skip
    show QeqL Z o0 o1 h0 n0 _ T1.heap _
    rw [e1]
    exact ⟨N0, rfl, rfl⟩
theorem pd__I_V : parseMethodDescriptor "(I)V" = some ⟨[.int], none⟩ := by decide +kernel
theorem d3_0 : decode jdk_33_method_22_code 0 = .ok (.iload_n 0, 1) := by decide +kernel
theorem d3_1 : decode jdk_33_method_22_code 1 = .ok (.bipush (-128), 2) := by decide +kernel
theorem d3_3 : decode jdk_33_method_22_code 3 = .ok (.if_icmp .lt 20, 3) := by decide +kernel
theorem d3_6 : decode jdk_33_method_22_code 6 = .ok (.iload_n 0, 1) := by decide +kernel
theorem d3_7 : decode jdk_33_method_22_code 7 = .ok (.getstatic 191, 3) := by decide +kernel
theorem d3_10 : decode jdk_33_method_22_code 10 = .ok (.if_icmp .gt 13, 3) := by decide +kernel
theorem d3_13 : decode jdk_33_method_22_code 13 = .ok (.getstatic 195, 3) := by decide +kernel
theorem d3_16 : decode jdk_33_method_22_code 16 = .ok (.iload_n 0, 1) := by decide +kernel
theorem d3_17 : decode jdk_33_method_22_code 17 = .ok (.sipush 128, 3) := by decide +kernel
theorem d3_20 : decode jdk_33_method_22_code 20 = .ok (.iadd, 1) := by decide +kernel
theorem d3_21 : decode jdk_33_method_22_code 21 = .ok (.aaload, 1) := by decide +kernel
theorem d3_22 : decode jdk_33_method_22_code 22 = .ok (.areturn, 1) := by decide +kernel
theorem d3_23 : decode jdk_33_method_22_code 23 = .ok (.new 1, 3) := by decide +kernel
theorem d3_26 : decode jdk_33_method_22_code 26 = .ok (.dup, 1) := by decide +kernel
theorem d3_27 : decode jdk_33_method_22_code 27 = .ok (.iload_n 0, 1) := by decide +kernel
theorem d3_28 : decode jdk_33_method_22_code 28 = .ok (.invokespecial 199, 3) := by decide +kernel
theorem d3_31 : decode jdk_33_method_22_code 31 = .ok (.areturn, 1) := by decide +kernel
theorem ef_3 (m : MethodId) (p0 : Int32) : entryFrame m #[(.int p0)] 1 = mkF m 0 #[.val (.int p0)] [] := by first | (simp [entryFrame, mkF, argsToLocals, Value.category]; done) | rfl
def Q3 (Z : State) (p0 : Int32) (w1_cache : Addr) (clI : Cell) (h0 : Heap) (n0 : Nat) (v : Option Value) (h : Heap) (L : List Loc) : Prop := Fr n0 L ∧ ∃ (x3_0 : Addr), v = some (.ref x3_0) ∧ Keep h0 h [] ∧ Exa Z h x3_0 "java/lang/Integer"
set_option maxRecDepth 65536 in
set_option maxHeartbeats 40000000 in
theorem rm3 (l : Launch) (Z : State) (a0 : Array Value) (hw : ∀ d ∈ tables_1, d.before a0 Z = true) (ws : List Jvm.Cond) (p0 : Int32) (w1_cache : Addr) (clI : Cell) (h0 : Heap) (n0 : Nat) (Z0 : n0 ≤ h0.size) (O0 : Old Z n0 h0) (S_Integer_IntegerCache_high : Sta Z Z.heap "java/lang/Integer$IntegerCache" "high" "I" (.int (127 : Int32))) (S_Integer_IntegerCache_cache : Sta Z Z.heap "java/lang/Integer$IntegerCache" "cache" "[Ljava/lang/Integer;" (.ref w1_cache)) (BxI : Bxs Z w1_cache clI "java/lang/Integer" "I" (256 : Int32) (fun j => .int (j - 128))) :
    MetFree l (⟨"java/lang/Integer", "valueOf", "(I)Ljava/lang/Integer;"⟩ : MethodName) (head1 (Jvm.Cond.code (⟨"java/lang/Integer", "valueOf", "(I)Ljava/lang/Integer;"⟩ : MethodName) jdk_33_method_22_code 1 (some (.object "java/lang/Integer")) :: ws) ({ frames := 3, cells := 1, slots := 1, locals := 38 } : Room)) (fun a U => a = #[(.int p0)] ∧ Z.Warmed39 U.vm ∧ U.heap = h0) (fun _ _ _ _ _ => True) (fun _ U o U' => ∃ v L, o = .returned v ∧ Q3 Z p0 w1_cache clI h0 n0 v U'.heap L ∧ FrameEnd U o U' L ({ frames := 3, cells := 1, slots := 1, locals := 38 } : Room).cells ({ frames := 3, cells := 1, slots := 1, locals := 38 } : Room).slots) := by
  refine MetFree.of_bodySF (plainFor_of_name pn_java_lang_Integer) hisR ?_
  intro p e s m args below meth c s₁ Bd hml0 hP hK
  obtain ⟨rfl, hZ, hh⟩ := hP
  have hx := Bd.exec
  have hby := Bd.bytes
  have hml : c.maxLocals = 1 := hml0
  have hown : s.vm.findClass "java/lang/Integer" = some m.cls := findClass_of_methodNamed Bd.named
  have hnm := (name_of_methodNamed Bd.named Bd.method).1
  have hlk := BodyLoose.notSynchronized Bd
  have X0 : Stand p l e ({ frames := 3, cells := 1, slots := 1, locals := 38 } : Room) s m #[(.int p0)] below meth c s₁ [] 0 0 := Stand.of_body Bd
  have e0 : s₁.heap = h0 := by rw [← hh, Bd.state]; rfl
  have N0 := Fr.nil n0
  have pre0 : ∀ t, Steps p.tables e below (s₁.setTop (mkF m 0 #[.val (.int p0)] [])) t → Steps p.tables e below (s₁.setTop (entryFrame m #[(.int p0)] 1)) t := fun t k => castTop (ef_3 m p0) k
  have pre1 : ∀ t, Steps p.tables e below (s₁.setTop (mkF m 3 #[.val (.int p0)] [(.int (-128 : Int32)), (.int p0)])) t → Steps p.tables e below (s₁.setTop (entryFrame m #[(.int p0)] 1)) t := by
    intro t k
    refine pre0 t ?_
    show Steps p.tables e below (s₁.setTop (mkF m 0 #[.val (.int p0)] [])) _
    refine XS.iloadN X0.here hx rfl (hb hby d3_0) rfl ?_
    show Steps p.tables e below (s₁.setTop (mkF m 1 #[.val (.int p0)] [(.int p0)])) _
    refine XT.bipushV X0.here hx rfl (-128 : Int32) (hb hby d3_1) (by decide) ?_
    exact k
  clear pre0
  by_cases c2 : p0 < (-128 : Int32)
  · skip
    obtain ⟨T3, h3, X3, e3, E3, A3, D3, -, st3⟩ := newO X0 hx hZ hown (hw _ (List.mem_of_getElem? (i := 50) rfl)) (hw _ (List.mem_of_getElem? (i := 51) rfl)) (hw _ (List.mem_of_getElem? (i := 15) rfl)) e0 (g := (mkF m 23 #[.val (.int p0)] [])) rfl (hb hby d3_23) (by decide) (by decide)
    obtain ⟨b3, gz3⟩ : ∃ z, z = h0.size := ⟨_, rfl⟩
    rw [← gz3] at A3 D3 st3
    have g4 : n0 ≤ b3 := Nat.le_trans Z0 (Nat.le_of_eq gz3.symm)
    have sz5 : h0.size ≤ b3 := Nat.le_trans (Nat.le_refl h0.size) (Nat.le_of_eq gz3.symm)
    have z6 : n0 ≤ h3.size := Nat.le_trans Z0 E3.1
    have hs7 : h0.size ≤ h3.size := Nat.le_trans (Nat.le_refl h0.size) E3.1
    have F3_value : Fld Z h3 b3 "java/lang/Integer" "value" "I" (.int (0 : Int32)) := D3 (Or.inr (hw _ (List.mem_of_getElem? (i := 59) rfl))) (ty := .int) (by decide)
    obtain ⟨vr8, _, ⟨T8, L8, k8, n8⟩, -, X8, ⟨Lc8, hQ8, l8, y8, z8⟩, st8⟩ := X3.specialBack hx (y := (⟨"java/lang/Integer", "<init>", "(I)V"⟩ : MethodName)) rfl hown (mvT hZ (hw _ (List.mem_of_getElem? (i := 52) rfl))) (mvT hZ (hw _ (List.mem_of_getElem? (i := 53) rfl))) (mvT hZ (hw _ (List.mem_of_getElem? (i := 55) rfl))) (by decide) (backOf (W := 1) (rm8 l Z a0 hw [] b3 p0 (.int (0 : Int32)) h3 n0 z6 A3 F3_value g4) hZ (hw _ (List.mem_of_getElem? (i := 55) rfl)) (hw _ (List.mem_of_getElem? (i := 15) rfl)) (by decide) (by decide)) (g := (mkF m 28 #[.val (.int p0)] [(.int p0), (.ref b3), (.ref b3)])) rfl (by rw [hml]; rfl) (Steps.refl _) (a := b3) (argsL := [(.int p0)]) (rest := [(.ref b3)]) (lenOf pd__I_V rfl) rfl (by show 2 * 0 + _ ≤ _; exact Nat.le_of_eq rfl) (hb hby d3_28) (fun _ _ => ⟨rfl, e3, (by decide : 1 + 0 ≤ _), (by decide : 1 + 0 ≤ _)⟩)
    dsimp only [Pt.U, Pt.locs, Pt.cells, Pt.slots] at X8 l8 y8 z8 st8 hQ8
    subst l8 y8 z8
    have N8q := (show _ ∧ _ from hQ8).1
    have hq8 := (show _ ∧ _ from hQ8).2
    clear hQ8
    have hv8 := hq8.1
    have K8 := hq8.2.1
    have po8_0 := hq8.2.2.1
    have po8_1 := hq8.2.2.2
    clear hq8
    subst hv8
    have z9 : n0 ≤ T8.heap.size := Nat.le_trans z6 K8.1
    have hs10 : h0.size ≤ T8.heap.size := Nat.le_trans hs7 K8.1
    have N8 := Fr.app N0 N8q
    obtain ⟨fs, hr, hrun, hended, hW, hsame⟩ := X8.leave (v := some (.ref b3)) (fun h => by rw [Bd.returns] at h; cases h) hlk
    refine ⟨_, _, pre1 _ ?_, hrun, hended, _, _, rfl, ?_, ⟨_, rfl⟩, hW, hsame.mono (by decide) (by decide)⟩
    · skip
      show Steps p.tables e below (s₁.setTop (mkF m 3 #[.val (.int p0)] [(.int (-128 : Int32)), (.int p0)])) _
      refine XS.icmpYes X0.here hx rfl (pc0 := 3) (pc' := 23) rfl (hb hby d3_3) rfl (XT.ii_lt_t c2) (by decide) (by decide) ?_
      show Steps p.tables e below (s₁.setTop (mkF m 23 #[.val (.int p0)] [])) _
      refine st3 _ ?_
      show Steps p.tables e below (T3.setTop (mkF m 26 #[.val (.int p0)] [(.ref b3)])) _
      refine XS.dup X3.here hx rfl (hb hby d3_26) rfl rfl ?_
      show Steps p.tables e below (T3.setTop (mkF m 27 #[.val (.int p0)] [(.ref b3), (.ref b3)])) _
      refine XS.iloadN X3.here hx rfl (hb hby d3_27) rfl ?_
      show Steps p.tables e below (T3.setTop (mkF m 28 #[.val (.int p0)] [(.int p0), (.ref b3), (.ref b3)])) _
      refine st8.trans ?_
      show Steps p.tables e below (T8.setTop (mkF m 31 #[.val (.int p0)] [(.ref b3)])) _
      exact X8.areturnOut hx rfl Bd.returns rfl (hb hby d3_31) hr
    · skip
      show Q3 Z p0 w1_cache clI h0 n0 _ T8.heap _
      exact ⟨N8, b3, rfl, (((Keep.refl h0 []).ext E3).trans K8 (allS (Or.inr sz5) all0)), po8_0⟩
  · skip
    obtain ⟨T11, X11, e11, st11⟩ := getS2 X0 hx hZ hown (host := "") (Or.inl (hw _ (List.mem_of_getElem? (i := 17) rfl))) Via.refl e0 (Sta.ext O0.2 S_Integer_IntegerCache_high) (g := (mkF m 7 #[.val (.int p0)] [(.int p0)])) rfl (hb hby d3_7)
    have pre12 : ∀ t, Steps p.tables e below (T11.setTop (mkF m 10 #[.val (.int p0)] [(.int (127 : Int32)), (.int p0)])) t → Steps p.tables e below (s₁.setTop (entryFrame m #[(.int p0)] 1)) t := by
      intro t k
      refine pre1 t ?_
      show Steps p.tables e below (s₁.setTop (mkF m 3 #[.val (.int p0)] [(.int (-128 : Int32)), (.int p0)])) _
      refine XS.icmpNo X0.here hx rfl (hb hby d3_3) rfl (XT.ii_lt_f c2) ?_
      show Steps p.tables e below (s₁.setTop (mkF m 6 #[.val (.int p0)] [])) _
      refine XS.iloadN X0.here hx rfl (hb hby d3_6) rfl ?_
      show Steps p.tables e below (s₁.setTop (mkF m 7 #[.val (.int p0)] [(.int p0)])) _
      refine st11 _ ?_
      exact k
    clear pre1 st11
    by_cases c13 : (127 : Int32) < p0
    · skip
      obtain ⟨T14, h14, X14, e14, E14, A14, D14, -, st14⟩ := newO X11 hx hZ hown (hw _ (List.mem_of_getElem? (i := 50) rfl)) (hw _ (List.mem_of_getElem? (i := 51) rfl)) (hw _ (List.mem_of_getElem? (i := 15) rfl)) e11 (g := (mkF m 23 #[.val (.int p0)] [])) rfl (hb hby d3_23) (by decide) (by decide)
      obtain ⟨b14, gz14⟩ : ∃ z, z = h0.size := ⟨_, rfl⟩
      rw [← gz14] at A14 D14 st14
      have g15 : n0 ≤ b14 := Nat.le_trans Z0 (Nat.le_of_eq gz14.symm)
      have sz16 : h0.size ≤ b14 := Nat.le_trans (Nat.le_refl h0.size) (Nat.le_of_eq gz14.symm)
      have z17 : n0 ≤ h14.size := Nat.le_trans Z0 E14.1
      have hs18 : h0.size ≤ h14.size := Nat.le_trans (Nat.le_refl h0.size) E14.1
      have F14_value : Fld Z h14 b14 "java/lang/Integer" "value" "I" (.int (0 : Int32)) := D14 (Or.inr (hw _ (List.mem_of_getElem? (i := 59) rfl))) (ty := .int) (by decide)
      obtain ⟨vr19, _, ⟨T19, L19, k19, n19⟩, -, X19, ⟨Lc19, hQ19, l19, y19, z19⟩, st19⟩ := X14.specialBack hx (y := (⟨"java/lang/Integer", "<init>", "(I)V"⟩ : MethodName)) rfl hown (mvT hZ (hw _ (List.mem_of_getElem? (i := 52) rfl))) (mvT hZ (hw _ (List.mem_of_getElem? (i := 53) rfl))) (mvT hZ (hw _ (List.mem_of_getElem? (i := 55) rfl))) (by decide) (backOf (W := 1) (rm8 l Z a0 hw [] b14 p0 (.int (0 : Int32)) h14 n0 z17 A14 F14_value g15) hZ (hw _ (List.mem_of_getElem? (i := 55) rfl)) (hw _ (List.mem_of_getElem? (i := 15) rfl)) (by decide) (by decide)) (g := (mkF m 28 #[.val (.int p0)] [(.int p0), (.ref b14), (.ref b14)])) rfl (by rw [hml]; rfl) (Steps.refl _) (a := b14) (argsL := [(.int p0)]) (rest := [(.ref b14)]) (lenOf pd__I_V rfl) rfl (by show 2 * 0 + _ ≤ _; exact Nat.le_of_eq rfl) (hb hby d3_28) (fun _ _ => ⟨rfl, e14, (by decide : 1 + 0 ≤ _), (by decide : 1 + 0 ≤ _)⟩)
      dsimp only [Pt.U, Pt.locs, Pt.cells, Pt.slots] at X19 l19 y19 z19 st19 hQ19
      subst l19 y19 z19
      have N19q := (show _ ∧ _ from hQ19).1
      have hq19 := (show _ ∧ _ from hQ19).2
      clear hQ19
      have hv19 := hq19.1
      have K19 := hq19.2.1
      have po19_0 := hq19.2.2.1
      have po19_1 := hq19.2.2.2
      clear hq19
      subst hv19
      have z20 : n0 ≤ T19.heap.size := Nat.le_trans z17 K19.1
      have hs21 : h0.size ≤ T19.heap.size := Nat.le_trans hs18 K19.1
      have N19 := Fr.app N0 N19q
      obtain ⟨fs, hr, hrun, hended, hW, hsame⟩ := X19.leave (v := some (.ref b14)) (fun h => by rw [Bd.returns] at h; cases h) hlk
      refine ⟨_, _, pre12 _ ?_, hrun, hended, _, _, rfl, ?_, ⟨_, rfl⟩, hW, hsame.mono (by decide) (by decide)⟩
      · skip
        show Steps p.tables e below (T11.setTop (mkF m 10 #[.val (.int p0)] [(.int (127 : Int32)), (.int p0)])) _
        refine XS.icmpYes X11.here hx rfl (pc0 := 10) (pc' := 23) rfl (hb hby d3_10) rfl (XT.ii_gt_t c13) (by decide) (by decide) ?_
        show Steps p.tables e below (T11.setTop (mkF m 23 #[.val (.int p0)] [])) _
        refine st14 _ ?_
        show Steps p.tables e below (T14.setTop (mkF m 26 #[.val (.int p0)] [(.ref b14)])) _
        refine XS.dup X14.here hx rfl (hb hby d3_26) rfl rfl ?_
        show Steps p.tables e below (T14.setTop (mkF m 27 #[.val (.int p0)] [(.ref b14), (.ref b14)])) _
        refine XS.iloadN X14.here hx rfl (hb hby d3_27) rfl ?_
        show Steps p.tables e below (T14.setTop (mkF m 28 #[.val (.int p0)] [(.int p0), (.ref b14), (.ref b14)])) _
        refine st19.trans ?_
        show Steps p.tables e below (T19.setTop (mkF m 31 #[.val (.int p0)] [(.ref b14)])) _
        exact X19.areturnOut hx rfl Bd.returns rfl (hb hby d3_31) hr
      · skip
        show Q3 Z p0 w1_cache clI h0 n0 _ T19.heap _
        exact ⟨N19, b14, rfl, (((Keep.refl h0 []).ext E14).trans K19 (allS (Or.inr sz16) all0)), po19_0⟩
    · skip
      obtain ⟨T22, X22, e22, st22⟩ := getS2 X11 hx hZ hown (host := "") (Or.inl (hw _ (List.mem_of_getElem? (i := 19) rfl))) Via.refl e11 (Sta.ext O0.2 S_Integer_IntegerCache_cache) (g := (mkF m 13 #[.val (.int p0)] [])) rfl (hb hby d3_13)
      obtain ⟨Ar23, S23, M23⟩ := Bxs.ext BxI O0.2
      have hin23 : ¬ ((p0 + (128 : Int32)) < 0 ∨ clI.slots.size ≤ ((p0 + (128 : Int32))).toNatClampNeg) := inb_of S23 (own_ibI c2 c13)
      obtain ⟨bx23, hbx23, Eb23, -⟩ := BxI.2.2.2 (p0 + (128 : Int32)) hin23
      have Ex23 := Eb23.ext O0.2
      obtain ⟨fs, hr, hrun, hended, hW, hsame⟩ := X22.leave (v := some (.ref bx23)) (fun h => by rw [Bd.returns] at h; cases h) hlk
      refine ⟨_, _, pre12 _ ?_, hrun, hended, _, _, rfl, ?_, ⟨_, rfl⟩, hW, hsame.mono (by decide) (by decide)⟩
      · skip
        show Steps p.tables e below (T11.setTop (mkF m 10 #[.val (.int p0)] [(.int (127 : Int32)), (.int p0)])) _
        refine XS.icmpNo X11.here hx rfl (hb hby d3_10) rfl (XT.ii_gt_f c13) ?_
        show Steps p.tables e below (T11.setTop (mkF m 13 #[.val (.int p0)] [])) _
        refine st22 _ ?_
        show Steps p.tables e below (T22.setTop (mkF m 16 #[.val (.int p0)] [(.ref w1_cache)])) _
        refine XS.iloadN X22.here hx rfl (hb hby d3_16) rfl ?_
        show Steps p.tables e below (T22.setTop (mkF m 17 #[.val (.int p0)] [(.int p0), (.ref w1_cache)])) _
        refine XT.sipushV X22.here hx rfl (128 : Int32) (hb hby d3_17) (by decide) ?_
        show Steps p.tables e below (T22.setTop (mkF m 20 #[.val (.int p0)] [(.int (128 : Int32)), (.int p0), (.ref w1_cache)])) _
        refine XS.iadd X22.here hx rfl (hb hby d3_20) rfl ?_
        show Steps p.tables e below (T22.setTop (mkF m 21 #[.val (.int p0)] [(.int (p0 + (128 : Int32))), (.ref w1_cache)])) _
        refine X22.aaload hx (j := (p0 + (128 : Int32))) (v := (.ref bx23)) (by rw [e22]; exact Ar23.1) (State.isArrayOf_alike hZ.alike Ar23.2.1) rfl Ar23.2.2 hin23 hbx23 (g := (mkF m 21 #[.val (.int p0)] [(.int (p0 + (128 : Int32))), (.ref w1_cache)])) rfl rfl (hb hby d3_21) _ ?_
        show Steps p.tables e below (T22.setTop (mkF m 22 #[.val (.int p0)] [(.ref bx23)])) _
        exact X22.areturnOut hx rfl Bd.returns rfl (hb hby d3_22) hr
      · skip
        show Q3 Z p0 w1_cache clI h0 n0 _ T22.heap _
        rw [e22]
        exact ⟨N0, bx23, rfl, (Keep.refl h0 []), Ex23⟩
theorem pd__J_V : parseMethodDescriptor "(J)V" = some ⟨[.long], none⟩ := by decide +kernel
theorem d4_0 : decode jdk_35_method_24_code 0 = .ok (.sipush 128, 3) := by decide +kernel
theorem d4_3 : decode jdk_35_method_24_code 3 = .ok (.istore_n 2, 1) := by decide +kernel
theorem d4_4 : decode jdk_35_method_24_code 4 = .ok (.lload_n 0, 1) := by decide +kernel
theorem d4_5 : decode jdk_35_method_24_code 5 = .ok (.ldc2_w 230, 3) := by decide +kernel
theorem d4_8 : decode jdk_35_method_24_code 8 = .ok (.lcmp, 1) := by decide +kernel
theorem d4_9 : decode jdk_35_method_24_code 9 = .ok (.ifCond .lt 22, 3) := by decide +kernel
theorem d4_12 : decode jdk_35_method_24_code 12 = .ok (.lload_n 0, 1) := by decide +kernel
theorem d4_13 : decode jdk_35_method_24_code 13 = .ok (.ldc2_w 232, 3) := by decide +kernel
theorem d4_16 : decode jdk_35_method_24_code 16 = .ok (.lcmp, 1) := by decide +kernel
theorem d4_17 : decode jdk_35_method_24_code 17 = .ok (.ifCond .gt 14, 3) := by decide +kernel
theorem d4_20 : decode jdk_35_method_24_code 20 = .ok (.getstatic 234, 3) := by decide +kernel
theorem d4_23 : decode jdk_35_method_24_code 23 = .ok (.lload_n 0, 1) := by decide +kernel
theorem d4_24 : decode jdk_35_method_24_code 24 = .ok (.l2i, 1) := by decide +kernel
theorem d4_25 : decode jdk_35_method_24_code 25 = .ok (.sipush 128, 3) := by decide +kernel
theorem d4_28 : decode jdk_35_method_24_code 28 = .ok (.iadd, 1) := by decide +kernel
theorem d4_29 : decode jdk_35_method_24_code 29 = .ok (.aaload, 1) := by decide +kernel
theorem d4_30 : decode jdk_35_method_24_code 30 = .ok (.areturn, 1) := by decide +kernel
theorem d4_31 : decode jdk_35_method_24_code 31 = .ok (.new 1, 3) := by decide +kernel
theorem d4_34 : decode jdk_35_method_24_code 34 = .ok (.dup, 1) := by decide +kernel
theorem d4_35 : decode jdk_35_method_24_code 35 = .ok (.lload_n 0, 1) := by decide +kernel
theorem d4_36 : decode jdk_35_method_24_code 36 = .ok (.invokespecial 240, 3) := by decide +kernel
theorem d4_39 : decode jdk_35_method_24_code 39 = .ok (.areturn, 1) := by decide +kernel
theorem ef_4 (m : MethodId) (q0 : Int64) : entryFrame m #[(.long q0)] 3 = mkF m 0 #[.val (.long q0), .second, .unset] [] := by first | (simp [entryFrame, mkF, argsToLocals, Value.category]; done) | rfl
def Q4 (Z : State) (q0 : Int64) (w2_cache : Addr) (clJ : Cell) (h0 : Heap) (n0 : Nat) (v : Option Value) (h : Heap) (L : List Loc) : Prop := Fr n0 L ∧ ∃ (x4_0 : Addr), v = some (.ref x4_0) ∧ Keep h0 h [] ∧ Exa Z h x4_0 "java/lang/Long"
set_option maxRecDepth 65536 in
set_option maxHeartbeats 40000000 in
theorem rm4 (l : Launch) (Z : State) (a0 : Array Value) (hw : ∀ d ∈ tables_1, d.before a0 Z = true) (ws : List Jvm.Cond) (q0 : Int64) (w2_cache : Addr) (clJ : Cell) (h0 : Heap) (n0 : Nat) (Z0 : n0 ≤ h0.size) (O0 : Old Z n0 h0) (S_Long_LongCache_cache : Sta Z Z.heap "java/lang/Long$LongCache" "cache" "[Ljava/lang/Long;" (.ref w2_cache)) (BxJ : Bxs Z w2_cache clJ "java/lang/Long" "J" (256 : Int32) (fun j => .long (j - 128).toInt64)) :
    MetFree l (⟨"java/lang/Long", "valueOf", "(J)Ljava/lang/Long;"⟩ : MethodName) (head1 (Jvm.Cond.code (⟨"java/lang/Long", "valueOf", "(J)Ljava/lang/Long;"⟩ : MethodName) jdk_35_method_24_code 3 (some (.object "java/lang/Long")) :: ws) ({ frames := 3, cells := 1, slots := 1, locals := 39 } : Room)) (fun a U => a = #[(.long q0)] ∧ Z.Warmed39 U.vm ∧ U.heap = h0) (fun _ _ _ _ _ => True) (fun _ U o U' => ∃ v L, o = .returned v ∧ Q4 Z q0 w2_cache clJ h0 n0 v U'.heap L ∧ FrameEnd U o U' L ({ frames := 3, cells := 1, slots := 1, locals := 39 } : Room).cells ({ frames := 3, cells := 1, slots := 1, locals := 39 } : Room).slots) := by
  refine MetFree.of_bodySF (plainFor_of_name pn_java_lang_Long) hisR ?_
  intro p e s m args below meth c s₁ Bd hml0 hP hK
  obtain ⟨rfl, hZ, hh⟩ := hP
  have hx := Bd.exec
  have hby := Bd.bytes
  have hml : c.maxLocals = 3 := hml0
  have hown : s.vm.findClass "java/lang/Long" = some m.cls := findClass_of_methodNamed Bd.named
  have hnm := (name_of_methodNamed Bd.named Bd.method).1
  have hlk := BodyLoose.notSynchronized Bd
  have X0 : Stand p l e ({ frames := 3, cells := 1, slots := 1, locals := 39 } : Room) s m #[(.long q0)] below meth c s₁ [] 0 0 := Stand.of_body Bd
  have e0 : s₁.heap = h0 := by rw [← hh, Bd.state]; rfl
  have N0 := Fr.nil n0
  have pre0 : ∀ t, Steps p.tables e below (s₁.setTop (mkF m 0 #[.val (.long q0), .second, .unset] [])) t → Steps p.tables e below (s₁.setTop (entryFrame m #[(.long q0)] 3)) t := fun t k => castTop (ef_4 m q0) k
  have pre1 : ∀ t, Steps p.tables e below (s₁.setTop (mkF m 9 #[.val (.long q0), .second, .val (.int (128 : Int32))] [(.int (XT.cmpL q0 (-128 : Int64)))])) t → Steps p.tables e below (s₁.setTop (entryFrame m #[(.long q0)] 3)) t := by
    intro t k
    refine pre0 t ?_
    show Steps p.tables e below (s₁.setTop (mkF m 0 #[.val (.long q0), .second, .unset] [])) _
    refine XT.sipushV X0.here hx rfl (128 : Int32) (hb hby d4_0) (by decide) ?_
    show Steps p.tables e below (s₁.setTop (mkF m 3 #[.val (.long q0), .second, .unset] [(.int (128 : Int32))])) _
    refine XS.istoreN X0.here hx rfl (hb hby d4_3) rfl (l' := #[.val (.long q0), .second, .val (.int (128 : Int32))]) rfl ?_
    show Steps p.tables e below (s₁.setTop (mkF m 4 #[.val (.long q0), .second, .val (.int (128 : Int32))] [])) _
    refine XT.lloadN X0.here hx rfl (hb hby d4_4) rfl ?_
    show Steps p.tables e below (s₁.setTop (mkF m 5 #[.val (.long q0), .second, .val (.int (128 : Int32))] [(.long q0)])) _
    refine X0.ldc2J hx hown (mvT hZ (hw _ (List.mem_of_getElem? (i := 24) rfl))) rfl (hb hby d4_5) ?_
    show Steps p.tables e below (s₁.setTop (mkF m 8 #[.val (.long q0), .second, .val (.int (128 : Int32))] [(.long (-128 : Int64)), (.long q0)])) _
    refine XT.lcmp X0.here hx rfl (hb hby d4_8) rfl ?_
    exact k
  clear pre0
  by_cases c2 : q0 < (-128 : Int64)
  · skip
    obtain ⟨T3, h3, X3, e3, E3, A3, D3, -, st3⟩ := newO X0 hx hZ hown (hw _ (List.mem_of_getElem? (i := 35) rfl)) (hw _ (List.mem_of_getElem? (i := 36) rfl)) (hw _ (List.mem_of_getElem? (i := 22) rfl)) e0 (g := (mkF m 31 #[.val (.long q0), .second, .val (.int (128 : Int32))] [])) rfl (hb hby d4_31) (by decide) (by decide)
    obtain ⟨b3, gz3⟩ : ∃ z, z = h0.size := ⟨_, rfl⟩
    rw [← gz3] at A3 D3 st3
    have g4 : n0 ≤ b3 := Nat.le_trans Z0 (Nat.le_of_eq gz3.symm)
    have sz5 : h0.size ≤ b3 := Nat.le_trans (Nat.le_refl h0.size) (Nat.le_of_eq gz3.symm)
    have z6 : n0 ≤ h3.size := Nat.le_trans Z0 E3.1
    have hs7 : h0.size ≤ h3.size := Nat.le_trans (Nat.le_refl h0.size) E3.1
    have F3_value : Fld Z h3 b3 "java/lang/Long" "value" "J" (.long (0 : Int64)) := D3 (Or.inr (hw _ (List.mem_of_getElem? (i := 49) rfl))) (ty := .long) (by decide)
    obtain ⟨vr8, _, ⟨T8, L8, k8, n8⟩, -, X8, ⟨Lc8, hQ8, l8, y8, z8⟩, st8⟩ := X3.specialBack hx (y := (⟨"java/lang/Long", "<init>", "(J)V"⟩ : MethodName)) rfl hown (mvT hZ (hw _ (List.mem_of_getElem? (i := 37) rfl))) (mvT hZ (hw _ (List.mem_of_getElem? (i := 38) rfl))) (mvT hZ (hw _ (List.mem_of_getElem? (i := 40) rfl))) (by decide) (backOf (W := 1) (rm6 l Z a0 hw [] b3 q0 (.long (0 : Int64)) h3 n0 z6 A3 F3_value g4) hZ (hw _ (List.mem_of_getElem? (i := 40) rfl)) (hw _ (List.mem_of_getElem? (i := 22) rfl)) (by decide) (by decide)) (g := (mkF m 36 #[.val (.long q0), .second, .val (.int (128 : Int32))] [(.long q0), (.ref b3), (.ref b3)])) rfl (by rw [hml]; rfl) (Steps.refl _) (a := b3) (argsL := [(.long q0)]) (rest := [(.ref b3)]) (lenOf pd__J_V rfl) rfl (by show 2 * 0 + _ ≤ _; exact Nat.le_of_eq rfl) (hb hby d4_36) (fun _ _ => ⟨rfl, e3, (by decide : 1 + 0 ≤ _), (by decide : 1 + 0 ≤ _)⟩)
    dsimp only [Pt.U, Pt.locs, Pt.cells, Pt.slots] at X8 l8 y8 z8 st8 hQ8
    subst l8 y8 z8
    have N8q := (show _ ∧ _ from hQ8).1
    have hq8 := (show _ ∧ _ from hQ8).2
    clear hQ8
    have hv8 := hq8.1
    have K8 := hq8.2.1
    have po8_0 := hq8.2.2.1
    have po8_1 := hq8.2.2.2
    clear hq8
    subst hv8
    have z9 : n0 ≤ T8.heap.size := Nat.le_trans z6 K8.1
    have hs10 : h0.size ≤ T8.heap.size := Nat.le_trans hs7 K8.1
    have N8 := Fr.app N0 N8q
    obtain ⟨fs, hr, hrun, hended, hW, hsame⟩ := X8.leave (v := some (.ref b3)) (fun h => by rw [Bd.returns] at h; cases h) hlk
    refine ⟨_, _, pre1 _ ?_, hrun, hended, _, _, rfl, ?_, ⟨_, rfl⟩, hW, hsame.mono (by decide) (by decide)⟩
    · skip
      show Steps p.tables e below (s₁.setTop (mkF m 9 #[.val (.long q0), .second, .val (.int (128 : Int32))] [(.int (XT.cmpL q0 (-128 : Int64)))])) _
      refine XS.ifYes X0.here hx rfl (pc0 := 9) (pc' := 31) rfl (hb hby d4_9) rfl (XT.ll_lt_t c2) (by decide) (by decide) ?_
      show Steps p.tables e below (s₁.setTop (mkF m 31 #[.val (.long q0), .second, .val (.int (128 : Int32))] [])) _
      refine st3 _ ?_
      show Steps p.tables e below (T3.setTop (mkF m 34 #[.val (.long q0), .second, .val (.int (128 : Int32))] [(.ref b3)])) _
      refine XS.dup X3.here hx rfl (hb hby d4_34) rfl rfl ?_
      show Steps p.tables e below (T3.setTop (mkF m 35 #[.val (.long q0), .second, .val (.int (128 : Int32))] [(.ref b3), (.ref b3)])) _
      refine XT.lloadN X3.here hx rfl (hb hby d4_35) rfl ?_
      show Steps p.tables e below (T3.setTop (mkF m 36 #[.val (.long q0), .second, .val (.int (128 : Int32))] [(.long q0), (.ref b3), (.ref b3)])) _
      refine st8.trans ?_
      show Steps p.tables e below (T8.setTop (mkF m 39 #[.val (.long q0), .second, .val (.int (128 : Int32))] [(.ref b3)])) _
      exact X8.areturnOut hx rfl Bd.returns rfl (hb hby d4_39) hr
    · skip
      show Q4 Z q0 w2_cache clJ h0 n0 _ T8.heap _
      exact ⟨N8, b3, rfl, (((Keep.refl h0 []).ext E3).trans K8 (allS (Or.inr sz5) all0)), po8_0⟩
  · skip
    have pre11 : ∀ t, Steps p.tables e below (s₁.setTop (mkF m 17 #[.val (.long q0), .second, .val (.int (128 : Int32))] [(.int (XT.cmpL q0 (127 : Int64)))])) t → Steps p.tables e below (s₁.setTop (entryFrame m #[(.long q0)] 3)) t := by
      intro t k
      refine pre1 t ?_
      show Steps p.tables e below (s₁.setTop (mkF m 9 #[.val (.long q0), .second, .val (.int (128 : Int32))] [(.int (XT.cmpL q0 (-128 : Int64)))])) _
      refine XS.ifNo X0.here hx rfl (hb hby d4_9) rfl (XT.ll_lt_f c2) ?_
      show Steps p.tables e below (s₁.setTop (mkF m 12 #[.val (.long q0), .second, .val (.int (128 : Int32))] [])) _
      refine XT.lloadN X0.here hx rfl (hb hby d4_12) rfl ?_
      show Steps p.tables e below (s₁.setTop (mkF m 13 #[.val (.long q0), .second, .val (.int (128 : Int32))] [(.long q0)])) _
      refine X0.ldc2J hx hown (mvT hZ (hw _ (List.mem_of_getElem? (i := 25) rfl))) rfl (hb hby d4_13) ?_
      show Steps p.tables e below (s₁.setTop (mkF m 16 #[.val (.long q0), .second, .val (.int (128 : Int32))] [(.long (127 : Int64)), (.long q0)])) _
      refine XT.lcmp X0.here hx rfl (hb hby d4_16) rfl ?_
      exact k
    clear pre1
    by_cases c12 : (127 : Int64) < q0
    · skip
      obtain ⟨T13, h13, X13, e13, E13, A13, D13, -, st13⟩ := newO X0 hx hZ hown (hw _ (List.mem_of_getElem? (i := 35) rfl)) (hw _ (List.mem_of_getElem? (i := 36) rfl)) (hw _ (List.mem_of_getElem? (i := 22) rfl)) e0 (g := (mkF m 31 #[.val (.long q0), .second, .val (.int (128 : Int32))] [])) rfl (hb hby d4_31) (by decide) (by decide)
      obtain ⟨b13, gz13⟩ : ∃ z, z = h0.size := ⟨_, rfl⟩
      rw [← gz13] at A13 D13 st13
      have g14 : n0 ≤ b13 := Nat.le_trans Z0 (Nat.le_of_eq gz13.symm)
      have sz15 : h0.size ≤ b13 := Nat.le_trans (Nat.le_refl h0.size) (Nat.le_of_eq gz13.symm)
      have z16 : n0 ≤ h13.size := Nat.le_trans Z0 E13.1
      have hs17 : h0.size ≤ h13.size := Nat.le_trans (Nat.le_refl h0.size) E13.1
      have F13_value : Fld Z h13 b13 "java/lang/Long" "value" "J" (.long (0 : Int64)) := D13 (Or.inr (hw _ (List.mem_of_getElem? (i := 49) rfl))) (ty := .long) (by decide)
      obtain ⟨vr18, _, ⟨T18, L18, k18, n18⟩, -, X18, ⟨Lc18, hQ18, l18, y18, z18⟩, st18⟩ := X13.specialBack hx (y := (⟨"java/lang/Long", "<init>", "(J)V"⟩ : MethodName)) rfl hown (mvT hZ (hw _ (List.mem_of_getElem? (i := 37) rfl))) (mvT hZ (hw _ (List.mem_of_getElem? (i := 38) rfl))) (mvT hZ (hw _ (List.mem_of_getElem? (i := 40) rfl))) (by decide) (backOf (W := 1) (rm6 l Z a0 hw [] b13 q0 (.long (0 : Int64)) h13 n0 z16 A13 F13_value g14) hZ (hw _ (List.mem_of_getElem? (i := 40) rfl)) (hw _ (List.mem_of_getElem? (i := 22) rfl)) (by decide) (by decide)) (g := (mkF m 36 #[.val (.long q0), .second, .val (.int (128 : Int32))] [(.long q0), (.ref b13), (.ref b13)])) rfl (by rw [hml]; rfl) (Steps.refl _) (a := b13) (argsL := [(.long q0)]) (rest := [(.ref b13)]) (lenOf pd__J_V rfl) rfl (by show 2 * 0 + _ ≤ _; exact Nat.le_of_eq rfl) (hb hby d4_36) (fun _ _ => ⟨rfl, e13, (by decide : 1 + 0 ≤ _), (by decide : 1 + 0 ≤ _)⟩)
      dsimp only [Pt.U, Pt.locs, Pt.cells, Pt.slots] at X18 l18 y18 z18 st18 hQ18
      subst l18 y18 z18
      have N18q := (show _ ∧ _ from hQ18).1
      have hq18 := (show _ ∧ _ from hQ18).2
      clear hQ18
      have hv18 := hq18.1
      have K18 := hq18.2.1
      have po18_0 := hq18.2.2.1
      have po18_1 := hq18.2.2.2
      clear hq18
      subst hv18
      have z19 : n0 ≤ T18.heap.size := Nat.le_trans z16 K18.1
      have hs20 : h0.size ≤ T18.heap.size := Nat.le_trans hs17 K18.1
      have N18 := Fr.app N0 N18q
      obtain ⟨fs, hr, hrun, hended, hW, hsame⟩ := X18.leave (v := some (.ref b13)) (fun h => by rw [Bd.returns] at h; cases h) hlk
      refine ⟨_, _, pre11 _ ?_, hrun, hended, _, _, rfl, ?_, ⟨_, rfl⟩, hW, hsame.mono (by decide) (by decide)⟩
      · skip
        show Steps p.tables e below (s₁.setTop (mkF m 17 #[.val (.long q0), .second, .val (.int (128 : Int32))] [(.int (XT.cmpL q0 (127 : Int64)))])) _
        refine XS.ifYes X0.here hx rfl (pc0 := 17) (pc' := 31) rfl (hb hby d4_17) rfl (XT.ll_gt_t c12) (by decide) (by decide) ?_
        show Steps p.tables e below (s₁.setTop (mkF m 31 #[.val (.long q0), .second, .val (.int (128 : Int32))] [])) _
        refine st13 _ ?_
        show Steps p.tables e below (T13.setTop (mkF m 34 #[.val (.long q0), .second, .val (.int (128 : Int32))] [(.ref b13)])) _
        refine XS.dup X13.here hx rfl (hb hby d4_34) rfl rfl ?_
        show Steps p.tables e below (T13.setTop (mkF m 35 #[.val (.long q0), .second, .val (.int (128 : Int32))] [(.ref b13), (.ref b13)])) _
        refine XT.lloadN X13.here hx rfl (hb hby d4_35) rfl ?_
        show Steps p.tables e below (T13.setTop (mkF m 36 #[.val (.long q0), .second, .val (.int (128 : Int32))] [(.long q0), (.ref b13), (.ref b13)])) _
        refine st18.trans ?_
        show Steps p.tables e below (T18.setTop (mkF m 39 #[.val (.long q0), .second, .val (.int (128 : Int32))] [(.ref b13)])) _
        exact X18.areturnOut hx rfl Bd.returns rfl (hb hby d4_39) hr
      · skip
        show Q4 Z q0 w2_cache clJ h0 n0 _ T18.heap _
        exact ⟨N18, b13, rfl, (((Keep.refl h0 []).ext E13).trans K18 (allS (Or.inr sz15) all0)), po18_0⟩
    · skip
      obtain ⟨T21, X21, e21, st21⟩ := getS2 X0 hx hZ hown (host := "") (Or.inl (hw _ (List.mem_of_getElem? (i := 26) rfl))) Via.refl e0 (Sta.ext O0.2 S_Long_LongCache_cache) (g := (mkF m 20 #[.val (.long q0), .second, .val (.int (128 : Int32))] [])) rfl (hb hby d4_20)
      obtain ⟨Ar22, S22, M22⟩ := Bxs.ext BxJ O0.2
      have hin22 : ¬ (((q0.toInt32) + (128 : Int32)) < 0 ∨ clJ.slots.size ≤ (((q0.toInt32) + (128 : Int32))).toNatClampNeg) := inb_of S22 (own_ibJ c2 c12)
      obtain ⟨bx22, hbx22, Eb22, -⟩ := BxJ.2.2.2 ((q0.toInt32) + (128 : Int32)) hin22
      have Ex22 := Eb22.ext O0.2
      obtain ⟨fs, hr, hrun, hended, hW, hsame⟩ := X21.leave (v := some (.ref bx22)) (fun h => by rw [Bd.returns] at h; cases h) hlk
      refine ⟨_, _, pre11 _ ?_, hrun, hended, _, _, rfl, ?_, ⟨_, rfl⟩, hW, hsame.mono (by decide) (by decide)⟩
      · skip
        show Steps p.tables e below (s₁.setTop (mkF m 17 #[.val (.long q0), .second, .val (.int (128 : Int32))] [(.int (XT.cmpL q0 (127 : Int64)))])) _
        refine XS.ifNo X0.here hx rfl (hb hby d4_17) rfl (XT.ll_gt_f c12) ?_
        show Steps p.tables e below (s₁.setTop (mkF m 20 #[.val (.long q0), .second, .val (.int (128 : Int32))] [])) _
        refine st21 _ ?_
        show Steps p.tables e below (T21.setTop (mkF m 23 #[.val (.long q0), .second, .val (.int (128 : Int32))] [(.ref w2_cache)])) _
        refine XT.lloadN X21.here hx rfl (hb hby d4_23) rfl ?_
        show Steps p.tables e below (T21.setTop (mkF m 24 #[.val (.long q0), .second, .val (.int (128 : Int32))] [(.long q0), (.ref w2_cache)])) _
        refine XT.l2i X21.here hx rfl (hb hby d4_24) rfl ?_
        show Steps p.tables e below (T21.setTop (mkF m 25 #[.val (.long q0), .second, .val (.int (128 : Int32))] [(.int (q0.toInt32)), (.ref w2_cache)])) _
        refine XT.sipushV X21.here hx rfl (128 : Int32) (hb hby d4_25) (by decide) ?_
        show Steps p.tables e below (T21.setTop (mkF m 28 #[.val (.long q0), .second, .val (.int (128 : Int32))] [(.int (128 : Int32)), (.int (q0.toInt32)), (.ref w2_cache)])) _
        refine XS.iadd X21.here hx rfl (hb hby d4_28) rfl ?_
        show Steps p.tables e below (T21.setTop (mkF m 29 #[.val (.long q0), .second, .val (.int (128 : Int32))] [(.int ((q0.toInt32) + (128 : Int32))), (.ref w2_cache)])) _
        refine X21.aaload hx (j := ((q0.toInt32) + (128 : Int32))) (v := (.ref bx22)) (by rw [e21]; exact Ar22.1) (State.isArrayOf_alike hZ.alike Ar22.2.1) rfl Ar22.2.2 hin22 hbx22 (g := (mkF m 29 #[.val (.long q0), .second, .val (.int (128 : Int32))] [(.int ((q0.toInt32) + (128 : Int32))), (.ref w2_cache)])) rfl rfl (hb hby d4_29) _ ?_
        show Steps p.tables e below (T21.setTop (mkF m 30 #[.val (.long q0), .second, .val (.int (128 : Int32))] [(.ref bx22)])) _
        exact X21.areturnOut hx rfl Bd.returns rfl (hb hby d4_30) hr
      · skip
        show Q4 Z q0 w2_cache clJ h0 n0 _ T21.heap _
        rw [e21]
        exact ⟨N0, bx22, rfl, (Keep.refl h0 []), Ex22⟩
theorem pd__JI_V : parseMethodDescriptor "(JI)V" = some ⟨[.long, .int], none⟩ := by decide +kernel
theorem pd__I_Ljava_lang_Integer_ : parseMethodDescriptor "(I)Ljava/lang/Integer;" = some ⟨[.int], some (.object "java/lang/Integer")⟩ := by decide +kernel
theorem pd__J_Ljava_lang_Long_ : parseMethodDescriptor "(J)Ljava/lang/Long;" = some ⟨[.long], some (.object "java/lang/Long")⟩ := by decide +kernel
theorem pd__Ljava_lang_Object__Z : parseMethodDescriptor "(Ljava/lang/Object;)Z" = some ⟨[(.object "java/lang/Object")], some .boolean⟩ := by decide +kernel
theorem pn_com_example_vannus_vannus_FingerprintEqualsPinLaw : plainName "com/example/vannus/vannus/FingerprintEqualsPinLaw" = true := by first | (simp [plainName, overriddenIn]; done) | decide +kernel
theorem ef_0 (m : MethodId) (q0 : Int64) (p1 : Int32) (q2 : Int64) (p3 : Int32) (p4 : Int32) : entryFrame m #[(.long q0), (.int p1), (.long q2), (.int p3), (.int p4)] maxLocals = mkF m 0 #[.val (.long q0), .second, .val (.int p1), .val (.long q2), .second, .val (.int p3), .val (.int p4), .unset, .unset, .unset, .unset, .unset, .unset, .unset, .unset, .unset] [] := by first | (simp [entryFrame, mkF, argsToLocals, Value.category, maxLocals]; done) | rfl
def v0_1 (q0 : Int64) (p1 : Int32) (q2 : Int64) (p3 : Int32) (p4 : Int32) : Int32 := (p4 &&& (1 : Int32))
def v0_2 (q0 : Int64) (p1 : Int32) (q2 : Int64) (p3 : Int32) (p4 : Int32) : Int64 := (if (v0_1 q0 p1 q2 p3 p4) = (0 : Int32) then q2 else q0)
def v0_3 (q0 : Int64) (p1 : Int32) (q2 : Int64) (p3 : Int32) (p4 : Int32) : Int32 := (p4 &&& (2 : Int32))
def v0_4 (q0 : Int64) (p1 : Int32) (q2 : Int64) (p3 : Int32) (p4 : Int32) : Int32 := (if (v0_3 q0 p1 q2 p3 p4) = (0 : Int32) then p3 else p1)
def v0_5 (q0 : Int64) (p1 : Int32) (q2 : Int64) (p3 : Int32) (p4 : Int32) : Int32 := ((XT.ushr p4 (2 : Int32)) &&& (3 : Int32))
def v0_6 (q0 : Int64) (p1 : Int32) (q2 : Int64) (p3 : Int32) (p4 : Int32) : Int32 := (if q0 = (v0_2 q0 p1 q2 p3 p4) then (if p1 = (v0_4 q0 p1 q2 p3 p4) then (1 : Int32) else (0 : Int32)) else (0 : Int32))
def v0_7 (q0 : Int64) (p1 : Int32) (q2 : Int64) (p3 : Int32) (p4 : Int32) : Int32 := (f5 q0 (v0_2 q0 p1 q2 p3 p4) p1 (v0_4 q0 p1 q2 p3 p4))
def v0_8 (q0 : Int64) (p1 : Int32) (q2 : Int64) (p3 : Int32) (p4 : Int32) : Int32 := (f5 (v0_2 q0 p1 q2 p3 p4) q0 (v0_4 q0 p1 q2 p3 p4) p1)
def v0_9 (q0 : Int64) (p1 : Int32) (q2 : Int64) (p3 : Int32) (p4 : Int32) : Int32 := (if (v0_7 q0 p1 q2 p3 p4) = (v0_6 q0 p1 q2 p3 p4) then (if (v0_8 q0 p1 q2 p3 p4) = (v0_6 q0 p1 q2 p3 p4) then (1 : Int32) else (0 : Int32)) else (0 : Int32))
def v0_10 (q0 : Int64) (p1 : Int32) (q2 : Int64) (p3 : Int32) (p4 : Int32) : Int32 := (if feqN = (0 : Int32) then (1 : Int32) else (0 : Int32))
def v0_11 (q0 : Int64) (p1 : Int32) (q2 : Int64) (p3 : Int32) (p4 : Int32) : Int32 := (if feqI = (0 : Int32) then (if feqL = (0 : Int32) then (1 : Int32) else (0 : Int32)) else (0 : Int32))
def v0_12 (q0 : Int64) (p1 : Int32) (q2 : Int64) (p3 : Int32) (p4 : Int32) : Int32 := (f5 q0 q0 p1 p1)
def v0_13 (q0 : Int64) (p1 : Int32) (q2 : Int64) (p3 : Int32) (p4 : Int32) : Int32 := (f5 q0 q0 p1 p1)
def v0_14 (q0 : Int64) (p1 : Int32) (q2 : Int64) (p3 : Int32) (p4 : Int32) : Int32 := (f5 q0 q0 p1 p1)
def v0_15 (q0 : Int64) (p1 : Int32) (q2 : Int64) (p3 : Int32) (p4 : Int32) : Int32 := (if (v0_12 q0 p1 q2 p3 p4) = (0 : Int32) then (0 : Int32) else (if (v0_13 q0 p1 q2 p3 p4) = (0 : Int32) then (0 : Int32) else (if (v0_14 q0 p1 q2 p3 p4) = (0 : Int32) then (0 : Int32) else (1 : Int32))))
/-own-/
theorem own_f5 (a a' : Int64) (b b' : Int32) : f5 a a' b b' = if a = a' then (if b = b' then (1 : Int32) else (0 : Int32)) else (0 : Int32) := by
  have z : nar .boolean (0 : Int32) = 0 := by decide
  have o : nar .boolean (1 : Int32) = 1 := by decide
  unfold f5 v5_1
  by_cases h1 : a = a'
  · by_cases h2 : b = b'
    · simp [h1, h2, o]
    · simp [h1, h2, z]
  · simp [h1, z]
theorem own_self (a : Int64) (b : Int32) : f5 a a b b = 1 := by
  rw [own_f5, if_pos rfl, if_pos rfl]
section Own
variable (q0 : Int64) (p1 : Int32) (q2 : Int64) (p3 p4 : Int32)
theorem own_v0_9 (c : v0_5 q0 p1 q2 p3 p4 = (0 : Int32)) : v0_9 q0 p1 q2 p3 p4 = (1 : Int32) := by
  refine (if_pos ?_).trans (if_pos ?_)
  · exact own_f5 _ _ _ _
  · unfold v0_8 v0_6
    rw [own_f5]
    simp only [eq_comm]
theorem own_v0_10 (c : ¬ v0_5 q0 p1 q2 p3 p4 = (0 : Int32)) (d : v0_5 q0 p1 q2 p3 p4 = (1 : Int32)) : v0_10 q0 p1 q2 p3 p4 = (1 : Int32) := rfl
theorem own_v0_11 (c : ¬ v0_5 q0 p1 q2 p3 p4 = (0 : Int32)) (d : ¬ v0_5 q0 p1 q2 p3 p4 = (1 : Int32)) (e : v0_5 q0 p1 q2 p3 p4 = (2 : Int32)) : v0_11 q0 p1 q2 p3 p4 = (1 : Int32) := rfl
theorem own_v0_15 (c : ¬ v0_5 q0 p1 q2 p3 p4 = (0 : Int32)) (d : ¬ v0_5 q0 p1 q2 p3 p4 = (1 : Int32)) (e : ¬ v0_5 q0 p1 q2 p3 p4 = (2 : Int32)) : v0_15 q0 p1 q2 p3 p4 = (1 : Int32) := by
  have h : ¬ (f5 q0 q0 p1 p1 = (0 : Int32)) := by rw [own_self]; decide
  exact (if_neg h).trans ((if_neg h).trans (if_neg h))
end Own
def Q0 (Z : State) (q0 : Int64) (p1 : Int32) (q2 : Int64) (p3 : Int32) (p4 : Int32) (w1_cache : Addr) (w2_cache : Addr) (clI : Cell) (clJ : Cell) (h0 : Heap) (n0 : Nat) (v : Option Value) (h : Heap) (L : List Loc) : Prop := v = some (.int (1 : Int32)) ∧ Fr n0 L
set_option maxRecDepth 65536 in
set_option maxHeartbeats 40000000 in
theorem rm0 (l : Launch) (Z : State) (a0 : Array Value) (hw : ∀ d ∈ tables_1, d.before a0 Z = true) (ws : List Jvm.Cond) (q0 : Int64) (p1 : Int32) (q2 : Int64) (p3 : Int32) (p4 : Int32) (w1_cache : Addr) (w2_cache : Addr) (clI : Cell) (clJ : Cell) (h0 : Heap) (n0 : Nat) (Z0 : n0 ≤ h0.size) (O0 : Old Z n0 h0) (S_Integer_IntegerCache_high : Sta Z Z.heap "java/lang/Integer$IntegerCache" "high" "I" (.int (127 : Int32))) (S_Integer_IntegerCache_cache : Sta Z Z.heap "java/lang/Integer$IntegerCache" "cache" "[Ljava/lang/Integer;" (.ref w1_cache)) (S_Long_LongCache_cache : Sta Z Z.heap "java/lang/Long$LongCache" "cache" "[Ljava/lang/Long;" (.ref w2_cache)) (BxI : Bxs Z w1_cache clI "java/lang/Integer" "I" (256 : Int32) (fun j => .int (j - 128))) (BxJ : Bxs Z w2_cache clJ "java/lang/Long" "J" (256 : Int32) (fun j => .long (j - 128).toInt64)) :
    MetFree l x (head1 (Jvm.Cond.code x code maxLocals ret :: ws) room_1) (fun a U => a = #[(.long q0), (.int p1), (.long q2), (.int p3), (.int p4)] ∧ Z.Warmed39 U.vm ∧ U.heap = h0) (fun _ _ _ _ _ => True) (fun _ U o U' => ∃ v L, o = .returned v ∧ Q0 Z q0 p1 q2 p3 p4 w1_cache w2_cache clI clJ h0 n0 v U'.heap L ∧ FrameEnd U o U' L room_1.cells room_1.slots) := by
  refine MetFree.of_bodySF (plainFor_of_name pn_com_example_vannus_vannus_FingerprintEqualsPinLaw) hisR ?_
  intro p e s m args below meth c s₁ Bd hml0 hP hK
  obtain ⟨rfl, hZ, hh⟩ := hP
  have hx := Bd.exec
  have hby := Bd.bytes
  have hml : c.maxLocals = 16 := hml0
  have hown : s.vm.findClass "com/example/vannus/vannus/FingerprintEqualsPinLaw" = some m.cls := findClass_of_methodNamed Bd.named
  have hnm := (name_of_methodNamed Bd.named Bd.method).1
  have hlk := BodyLoose.notSynchronized Bd
  have X0 : Stand p l e room_1 s m #[(.long q0), (.int p1), (.long q2), (.int p3), (.int p4)] below meth c s₁ [] 0 0 := Stand.of_body Bd
  have e0 : s₁.heap = h0 := by rw [← hh, Bd.state]; rfl
  have N0 := Fr.nil n0
  have pre0 : ∀ t, Steps p.tables e below (s₁.setTop (mkF m 0 #[.val (.long q0), .second, .val (.int p1), .val (.long q2), .second, .val (.int p3), .val (.int p4), .unset, .unset, .unset, .unset, .unset, .unset, .unset, .unset, .unset] [])) t → Steps p.tables e below (s₁.setTop (entryFrame m #[(.long q0), (.int p1), (.long q2), (.int p3), (.int p4)] maxLocals)) t := fun t k => castTop (ef_0 m q0 p1 q2 p3 p4) k
  have pre1 : ∀ t, Steps p.tables e below (s₁.setTop (mkF m 4 #[.val (.long q0), .second, .val (.int p1), .val (.long q2), .second, .val (.int p3), .val (.int p4), .unset, .unset, .unset, .unset, .unset, .unset, .unset, .unset, .unset] [(.int (p4 &&& (1 : Int32)))])) t → Steps p.tables e below (s₁.setTop (entryFrame m #[(.long q0), (.int p1), (.long q2), (.int p3), (.int p4)] maxLocals)) t := by
    intro t k
    refine pre0 t ?_
    show Steps p.tables e below (s₁.setTop (mkF m 0 #[.val (.long q0), .second, .val (.int p1), .val (.long q2), .second, .val (.int p3), .val (.int p4), .unset, .unset, .unset, .unset, .unset, .unset, .unset, .unset, .unset] [])) _
    refine XS.iload X0.here hx rfl (hb hby at_0) rfl ?_
    show Steps p.tables e below (s₁.setTop (mkF m 2 #[.val (.long q0), .second, .val (.int p1), .val (.long q2), .second, .val (.int p3), .val (.int p4), .unset, .unset, .unset, .unset, .unset, .unset, .unset, .unset, .unset] [(.int p4)])) _
    refine XT.iconstV X0.here hx rfl (1 : Int32) (hb hby at_2) (by decide) ?_
    show Steps p.tables e below (s₁.setTop (mkF m 3 #[.val (.long q0), .second, .val (.int p1), .val (.long q2), .second, .val (.int p3), .val (.int p4), .unset, .unset, .unset, .unset, .unset, .unset, .unset, .unset, .unset] [(.int (1 : Int32)), (.int p4)])) _
    refine XS.iand X0.here hx rfl (hb hby at_3) rfl ?_
    exact k
  clear pre0
  have pre3 : ∀ t, Steps p.tables e below (s₁.setTop (mkF m 12 #[.val (.long q0), .second, .val (.int p1), .val (.long q2), .second, .val (.int p3), .val (.int p4), .unset, .unset, .unset, .unset, .unset, .unset, .unset, .unset, .unset] [(.long (v0_2 q0 p1 q2 p3 p4))])) t → Steps p.tables e below (s₁.setTop (entryFrame m #[(.long q0), (.int p1), (.long q2), (.int p3), (.int p4)] maxLocals)) t := by
    intro t k
    by_cases c2 : (v0_1 q0 p1 q2 p3 p4) = (0 : Int32)
    · skip
      rw [show (v0_2 q0 p1 q2 p3 p4) = q2 from (if_pos c2)] at k
      refine pre1 t ?_
      show Steps p.tables e below (s₁.setTop (mkF m 4 #[.val (.long q0), .second, .val (.int p1), .val (.long q2), .second, .val (.int p3), .val (.int p4), .unset, .unset, .unset, .unset, .unset, .unset, .unset, .unset, .unset] [(.int (p4 &&& (1 : Int32)))])) _
      refine XS.ifYes X0.here hx rfl (pc0 := 4) (pc' := 11) rfl (hb hby at_4) rfl (XT.i0_eq_t c2) (by decide) (by decide) ?_
      show Steps p.tables e below (s₁.setTop (mkF m 11 #[.val (.long q0), .second, .val (.int p1), .val (.long q2), .second, .val (.int p3), .val (.int p4), .unset, .unset, .unset, .unset, .unset, .unset, .unset, .unset, .unset] [])) _
      refine XT.lloadN X0.here hx rfl (hb hby at_11) rfl ?_
      exact k
    · skip
      rw [show (v0_2 q0 p1 q2 p3 p4) = q0 from (if_neg c2)] at k
      refine pre1 t ?_
      show Steps p.tables e below (s₁.setTop (mkF m 4 #[.val (.long q0), .second, .val (.int p1), .val (.long q2), .second, .val (.int p3), .val (.int p4), .unset, .unset, .unset, .unset, .unset, .unset, .unset, .unset, .unset] [(.int (p4 &&& (1 : Int32)))])) _
      refine XS.ifNo X0.here hx rfl (hb hby at_4) rfl (XT.i0_eq_f c2) ?_
      show Steps p.tables e below (s₁.setTop (mkF m 7 #[.val (.long q0), .second, .val (.int p1), .val (.long q2), .second, .val (.int p3), .val (.int p4), .unset, .unset, .unset, .unset, .unset, .unset, .unset, .unset, .unset] [])) _
      refine XT.lloadN X0.here hx rfl (hb hby at_7) rfl ?_
      show Steps p.tables e below (s₁.setTop (mkF m 8 #[.val (.long q0), .second, .val (.int p1), .val (.long q2), .second, .val (.int p3), .val (.int p4), .unset, .unset, .unset, .unset, .unset, .unset, .unset, .unset, .unset] [(.long q0)])) _
      refine XS.goto X0.here hx rfl (pc0 := 8) (pc' := 12) rfl (hb hby at_8) (by decide) (by decide) ?_
      exact k
  have pre4 : ∀ t, Steps p.tables e below (s₁.setTop (mkF m 18 #[.val (.long q0), .second, .val (.int p1), .val (.long q2), .second, .val (.int p3), .val (.int p4), .val (.long (v0_2 q0 p1 q2 p3 p4)), .second, .unset, .unset, .unset, .unset, .unset, .unset, .unset] [(.int (p4 &&& (2 : Int32)))])) t → Steps p.tables e below (s₁.setTop (entryFrame m #[(.long q0), (.int p1), (.long q2), (.int p3), (.int p4)] maxLocals)) t := by
    intro t k
    refine pre3 t ?_
    show Steps p.tables e below (s₁.setTop (mkF m 12 #[.val (.long q0), .second, .val (.int p1), .val (.long q2), .second, .val (.int p3), .val (.int p4), .unset, .unset, .unset, .unset, .unset, .unset, .unset, .unset, .unset] [(.long (v0_2 q0 p1 q2 p3 p4))])) _
    refine XT.lstore X0.here hx rfl (hb hby at_12) rfl (l' := #[.val (.long q0), .second, .val (.int p1), .val (.long q2), .second, .val (.int p3), .val (.int p4), .val (.long (v0_2 q0 p1 q2 p3 p4)), .second, .unset, .unset, .unset, .unset, .unset, .unset, .unset]) rfl ?_
    show Steps p.tables e below (s₁.setTop (mkF m 14 #[.val (.long q0), .second, .val (.int p1), .val (.long q2), .second, .val (.int p3), .val (.int p4), .val (.long (v0_2 q0 p1 q2 p3 p4)), .second, .unset, .unset, .unset, .unset, .unset, .unset, .unset] [])) _
    refine XS.iload X0.here hx rfl (hb hby at_14) rfl ?_
    show Steps p.tables e below (s₁.setTop (mkF m 16 #[.val (.long q0), .second, .val (.int p1), .val (.long q2), .second, .val (.int p3), .val (.int p4), .val (.long (v0_2 q0 p1 q2 p3 p4)), .second, .unset, .unset, .unset, .unset, .unset, .unset, .unset] [(.int p4)])) _
    refine XT.iconstV X0.here hx rfl (2 : Int32) (hb hby at_16) (by decide) ?_
    show Steps p.tables e below (s₁.setTop (mkF m 17 #[.val (.long q0), .second, .val (.int p1), .val (.long q2), .second, .val (.int p3), .val (.int p4), .val (.long (v0_2 q0 p1 q2 p3 p4)), .second, .unset, .unset, .unset, .unset, .unset, .unset, .unset] [(.int (2 : Int32)), (.int p4)])) _
    refine XS.iand X0.here hx rfl (hb hby at_17) rfl ?_
    exact k
  clear pre3
  have pre6 : ∀ t, Steps p.tables e below (s₁.setTop (mkF m 27 #[.val (.long q0), .second, .val (.int p1), .val (.long q2), .second, .val (.int p3), .val (.int p4), .val (.long (v0_2 q0 p1 q2 p3 p4)), .second, .unset, .unset, .unset, .unset, .unset, .unset, .unset] [(.int (v0_4 q0 p1 q2 p3 p4))])) t → Steps p.tables e below (s₁.setTop (entryFrame m #[(.long q0), (.int p1), (.long q2), (.int p3), (.int p4)] maxLocals)) t := by
    intro t k
    by_cases c5 : (v0_3 q0 p1 q2 p3 p4) = (0 : Int32)
    · skip
      rw [show (v0_4 q0 p1 q2 p3 p4) = p3 from (if_pos c5)] at k
      refine pre4 t ?_
      show Steps p.tables e below (s₁.setTop (mkF m 18 #[.val (.long q0), .second, .val (.int p1), .val (.long q2), .second, .val (.int p3), .val (.int p4), .val (.long (v0_2 q0 p1 q2 p3 p4)), .second, .unset, .unset, .unset, .unset, .unset, .unset, .unset] [(.int (p4 &&& (2 : Int32)))])) _
      refine XS.ifYes X0.here hx rfl (pc0 := 18) (pc' := 25) rfl (hb hby at_18) rfl (XT.i0_eq_t c5) (by decide) (by decide) ?_
      show Steps p.tables e below (s₁.setTop (mkF m 25 #[.val (.long q0), .second, .val (.int p1), .val (.long q2), .second, .val (.int p3), .val (.int p4), .val (.long (v0_2 q0 p1 q2 p3 p4)), .second, .unset, .unset, .unset, .unset, .unset, .unset, .unset] [])) _
      refine XS.iload X0.here hx rfl (hb hby at_25) rfl ?_
      exact k
    · skip
      rw [show (v0_4 q0 p1 q2 p3 p4) = p1 from (if_neg c5)] at k
      refine pre4 t ?_
      show Steps p.tables e below (s₁.setTop (mkF m 18 #[.val (.long q0), .second, .val (.int p1), .val (.long q2), .second, .val (.int p3), .val (.int p4), .val (.long (v0_2 q0 p1 q2 p3 p4)), .second, .unset, .unset, .unset, .unset, .unset, .unset, .unset] [(.int (p4 &&& (2 : Int32)))])) _
      refine XS.ifNo X0.here hx rfl (hb hby at_18) rfl (XT.i0_eq_f c5) ?_
      show Steps p.tables e below (s₁.setTop (mkF m 21 #[.val (.long q0), .second, .val (.int p1), .val (.long q2), .second, .val (.int p3), .val (.int p4), .val (.long (v0_2 q0 p1 q2 p3 p4)), .second, .unset, .unset, .unset, .unset, .unset, .unset, .unset] [])) _
      refine XS.iloadN X0.here hx rfl (hb hby at_21) rfl ?_
      show Steps p.tables e below (s₁.setTop (mkF m 22 #[.val (.long q0), .second, .val (.int p1), .val (.long q2), .second, .val (.int p3), .val (.int p4), .val (.long (v0_2 q0 p1 q2 p3 p4)), .second, .unset, .unset, .unset, .unset, .unset, .unset, .unset] [(.int p1)])) _
      refine XS.goto X0.here hx rfl (pc0 := 22) (pc' := 27) rfl (hb hby at_22) (by decide) (by decide) ?_
      exact k
  obtain ⟨T7, h7, X7, e7, E7, A7, D7, -, st7⟩ := newO X0 hx hZ hown (hw _ (List.mem_of_getElem? (i := 0) rfl)) (hw _ (List.mem_of_getElem? (i := 1) rfl)) (hw _ (List.mem_of_getElem? (i := 2) rfl)) e0 (g := (mkF m 37 #[.val (.long q0), .second, .val (.int p1), .val (.long q2), .second, .val (.int p3), .val (.int p4), .val (.long (v0_2 q0 p1 q2 p3 p4)), .second, .val (.int (v0_4 q0 p1 q2 p3 p4)), .val (.int (v0_5 q0 p1 q2 p3 p4)), .unset, .unset, .unset, .unset, .unset] [])) rfl (hb hby at_37) (by decide) (by decide)
  obtain ⟨b7, gz7⟩ : ∃ z, z = h0.size := ⟨_, rfl⟩
  rw [← gz7] at A7 D7 st7
  have g8 : n0 ≤ b7 := Nat.le_trans Z0 (Nat.le_of_eq gz7.symm)
  have sz9 : h0.size ≤ b7 := Nat.le_trans (Nat.le_refl h0.size) (Nat.le_of_eq gz7.symm)
  have z10 : n0 ≤ h7.size := Nat.le_trans Z0 E7.1
  have hs11 : h0.size ≤ h7.size := Nat.le_trans (Nat.le_refl h0.size) E7.1
  have F7_hash : Fld Z h7 b7 "com/example/vannus/vannus/Fingerprint" "hash" "J" (.long (0 : Int64)) := D7 (Or.inr (hw _ (List.mem_of_getElem? (i := 10) rfl))) (ty := .long) (by decide)
  have F7_position : Fld Z h7 b7 "com/example/vannus/vannus/Fingerprint" "position" "I" (.int (0 : Int32)) := D7 (Or.inr (hw _ (List.mem_of_getElem? (i := 12) rfl))) (ty := .int) (by decide)
  obtain ⟨vr12, _, ⟨T12, L12, k12, n12⟩, -, X12, ⟨Lc12, hQ12, l12, y12, z12⟩, st12⟩ := X7.specialBack hx (y := (⟨"com/example/vannus/vannus/Fingerprint", "<init>", "(JI)V"⟩ : MethodName)) rfl hown (mvT hZ (hw _ (List.mem_of_getElem? (i := 3) rfl))) (mvT hZ (hw _ (List.mem_of_getElem? (i := 4) rfl))) (mvT hZ (hw _ (List.mem_of_getElem? (i := 5) rfl))) (by decide) (backOf (W := 1) (rm1 l Z a0 hw [] b7 q0 p1 (.long (0 : Int64)) (.int (0 : Int32)) h7 n0 z10 A7 F7_hash g8 F7_position) hZ (hw _ (List.mem_of_getElem? (i := 5) rfl)) (hw _ (List.mem_of_getElem? (i := 2) rfl)) (by decide) (by decide)) (g := (mkF m 43 #[.val (.long q0), .second, .val (.int p1), .val (.long q2), .second, .val (.int p3), .val (.int p4), .val (.long (v0_2 q0 p1 q2 p3 p4)), .second, .val (.int (v0_4 q0 p1 q2 p3 p4)), .val (.int (v0_5 q0 p1 q2 p3 p4)), .unset, .unset, .unset, .unset, .unset] [(.int p1), (.long q0), (.ref b7), (.ref b7)])) rfl (by rw [hml]; rfl) (Steps.refl _) (a := b7) (argsL := [(.long q0), (.int p1)]) (rest := [(.ref b7)]) (lenOf pd__JI_V rfl) rfl (by show 2 * 0 + _ ≤ _; exact Nat.le_of_eq rfl) (hb hby at_43) (fun _ _ => ⟨rfl, e7, (by decide : 1 + 0 ≤ _), (by decide : 2 + 0 ≤ _)⟩)
  dsimp only [Pt.U, Pt.locs, Pt.cells, Pt.slots] at X12 l12 y12 z12 st12 hQ12
  subst l12 y12 z12
  have N12q := (show _ ∧ _ from hQ12).1
  have hq12 := (show _ ∧ _ from hQ12).2
  clear hQ12
  have hv12 := hq12.1
  have K12 := hq12.2.1
  have po12_0 := hq12.2.2.1
  have po12_1 := hq12.2.2.2.1
  have po12_2 := hq12.2.2.2.2
  clear hq12
  subst hv12
  have z13 : n0 ≤ T12.heap.size := Nat.le_trans z10 K12.1
  have hs14 : h0.size ≤ T12.heap.size := Nat.le_trans hs11 K12.1
  have N12 := Fr.app N0 N12q
  obtain ⟨T15, h15, X15, e15, E15, A15, D15, -, st15⟩ := newO X12 hx hZ hown (hw _ (List.mem_of_getElem? (i := 0) rfl)) (hw _ (List.mem_of_getElem? (i := 1) rfl)) (hw _ (List.mem_of_getElem? (i := 2) rfl)) rfl (g := (mkF m 48 #[.val (.long q0), .second, .val (.int p1), .val (.long q2), .second, .val (.int p3), .val (.int p4), .val (.long (v0_2 q0 p1 q2 p3 p4)), .second, .val (.int (v0_4 q0 p1 q2 p3 p4)), .val (.int (v0_5 q0 p1 q2 p3 p4)), .val (.ref b7), .unset, .unset, .unset, .unset] [])) rfl (hb hby at_48) (by decide) (by decide)
  obtain ⟨b15, gz15⟩ : ∃ z, z = T12.heap.size := ⟨_, rfl⟩
  rw [← gz15] at A15 D15 st15
  have ne16 : b7 ≠ b15 := Nat.ne_of_lt (Nat.lt_of_lt_of_le po12_0.lt (Nat.le_of_eq gz15.symm))
  have g17 : n0 ≤ b15 := Nat.le_trans z13 (Nat.le_of_eq gz15.symm)
  have sz18 : h0.size ≤ b15 := Nat.le_trans hs14 (Nat.le_of_eq gz15.symm)
  have z19 : n0 ≤ h15.size := Nat.le_trans z13 E15.1
  have hs20 : h0.size ≤ h15.size := Nat.le_trans hs14 E15.1
  have F15_hash : Fld Z h15 b15 "com/example/vannus/vannus/Fingerprint" "hash" "J" (.long (0 : Int64)) := D15 (Or.inr (hw _ (List.mem_of_getElem? (i := 10) rfl))) (ty := .long) (by decide)
  have F15_position : Fld Z h15 b15 "com/example/vannus/vannus/Fingerprint" "position" "I" (.int (0 : Int32)) := D15 (Or.inr (hw _ (List.mem_of_getElem? (i := 12) rfl))) (ty := .int) (by decide)
  obtain ⟨vr21, _, ⟨T21, L21, k21, n21⟩, -, X21, ⟨Lc21, hQ21, l21, y21, z21⟩, st21⟩ := X15.specialBack hx (y := (⟨"com/example/vannus/vannus/Fingerprint", "<init>", "(JI)V"⟩ : MethodName)) rfl hown (mvT hZ (hw _ (List.mem_of_getElem? (i := 3) rfl))) (mvT hZ (hw _ (List.mem_of_getElem? (i := 4) rfl))) (mvT hZ (hw _ (List.mem_of_getElem? (i := 5) rfl))) (by decide) (backOf (W := 1) (rm1 l Z a0 hw [] b15 (v0_2 q0 p1 q2 p3 p4) (v0_4 q0 p1 q2 p3 p4) (.long (0 : Int64)) (.int (0 : Int32)) h15 n0 z19 A15 F15_hash g17 F15_position) hZ (hw _ (List.mem_of_getElem? (i := 5) rfl)) (hw _ (List.mem_of_getElem? (i := 2) rfl)) (by decide) (by decide)) (g := (mkF m 56 #[.val (.long q0), .second, .val (.int p1), .val (.long q2), .second, .val (.int p3), .val (.int p4), .val (.long (v0_2 q0 p1 q2 p3 p4)), .second, .val (.int (v0_4 q0 p1 q2 p3 p4)), .val (.int (v0_5 q0 p1 q2 p3 p4)), .val (.ref b7), .unset, .unset, .unset, .unset] [(.int (v0_4 q0 p1 q2 p3 p4)), (.long (v0_2 q0 p1 q2 p3 p4)), (.ref b15), (.ref b15)])) rfl (by rw [hml]; rfl) (Steps.refl _) (a := b15) (argsL := [(.long (v0_2 q0 p1 q2 p3 p4)), (.int (v0_4 q0 p1 q2 p3 p4))]) (rest := [(.ref b15)]) (lenOf pd__JI_V rfl) rfl (by show 2 * 0 + _ ≤ _; exact Nat.le_of_eq rfl) (hb hby at_56) (fun _ _ => ⟨rfl, e15, (by decide : 2 + 0 ≤ _), (by decide : 4 + 0 ≤ _)⟩)
  dsimp only [Pt.U, Pt.locs, Pt.cells, Pt.slots] at X21 l21 y21 z21 st21 hQ21
  subst l21 y21 z21
  have N21q := (show _ ∧ _ from hQ21).1
  have hq21 := (show _ ∧ _ from hQ21).2
  clear hQ21
  have hv21 := hq21.1
  have K21 := hq21.2.1
  have po21_0 := hq21.2.2.1
  have po21_1 := hq21.2.2.2.1
  have po21_2 := hq21.2.2.2.2
  clear hq21
  subst hv21
  have z22 : n0 ≤ T21.heap.size := Nat.le_trans z19 K21.1
  have hs23 : h0.size ≤ T21.heap.size := Nat.le_trans hs20 K21.1
  have N21 := Fr.app N12 N21q
  have O25 := ((((O0.ext E7).keep K12 (allS g8 all0)).ext E15).keep K21 (allS g17 all0))
  obtain ⟨vr24, _, ⟨T24, L24, k24, n24⟩, -, X24, ⟨Lc24, hQ24, l24, y24, z24⟩, st24⟩ := Jvm.LawKit.callS X21 hx (y := (⟨"java/lang/Integer", "valueOf", "(I)Ljava/lang/Integer;"⟩ : MethodName)) hown (mvT hZ (hw _ (List.mem_of_getElem? (i := 13) rfl))) (mvT hZ (hw _ (List.mem_of_getElem? (i := 14) rfl))) (mvT hZ (hw _ (List.mem_of_getElem? (i := 15) rfl))) (mvT hZ (hw _ (List.mem_of_getElem? (i := 16) rfl))) (by decide) (backOf (W := 0) (rm3 l Z a0 hw [] p1 w1_cache clI T21.heap n0 z22 O25 S_Integer_IntegerCache_high S_Integer_IntegerCache_cache BxI) hZ (hw _ (List.mem_of_getElem? (i := 16) rfl)) (hw _ (List.mem_of_getElem? (i := 15) rfl)) (by decide) (by decide)) (g := (mkF m 62 #[.val (.long q0), .second, .val (.int p1), .val (.long q2), .second, .val (.int p3), .val (.int p4), .val (.long (v0_2 q0 p1 q2 p3 p4)), .second, .val (.int (v0_4 q0 p1 q2 p3 p4)), .val (.int (v0_5 q0 p1 q2 p3 p4)), .val (.ref b7), .val (.ref b15), .unset, .unset, .unset] [(.int p1)])) rfl (by rw [hml]; rfl) (argsL := [(.int p1)]) (rest := []) (lenOf pd__I_Ljava_lang_Integer_ rfl) rfl (by show 2 * 0 + _ ≤ _; exact Nat.le_of_eq rfl) (hb hby at_62) (fun _ _ => ⟨rfl, rfl, (by decide : 2 + 1 ≤ _), (by decide : 4 + 1 ≤ _)⟩)
  dsimp only [Pt.U, Pt.locs, Pt.cells, Pt.slots] at X24 l24 y24 z24 st24 hQ24
  subst l24 y24 z24
  have N24q := (show _ ∧ _ from hQ24).1
  have hq24 := (show _ ∧ _ from hQ24).2
  clear hQ24
  obtain ⟨x3_0_24, hq24x⟩ := hq24
  have hv24 := hq24x.1
  have K24 := hq24x.2.1
  have po24_0 := hq24x.2.2
  clear hq24x
  subst hv24
  have z26 : n0 ≤ T24.heap.size := Nat.le_trans z22 K24.1
  have hs27 : h0.size ≤ T24.heap.size := Nat.le_trans hs23 K24.1
  have N24 := Fr.app N21 N24q
  have O29 := (O25.keep K24 all0)
  obtain ⟨vr28, _, ⟨T28, L28, k28, n28⟩, -, X28, ⟨Lc28, hQ28, l28, y28, z28⟩, st28⟩ := Jvm.LawKit.callS X24 hx (y := (⟨"java/lang/Long", "valueOf", "(J)Ljava/lang/Long;"⟩ : MethodName)) hown (mvT hZ (hw _ (List.mem_of_getElem? (i := 20) rfl))) (mvT hZ (hw _ (List.mem_of_getElem? (i := 21) rfl))) (mvT hZ (hw _ (List.mem_of_getElem? (i := 22) rfl))) (mvT hZ (hw _ (List.mem_of_getElem? (i := 23) rfl))) (by decide) (backOf (W := 0) (rm4 l Z a0 hw [] q0 w2_cache clJ T24.heap n0 z26 O29 S_Long_LongCache_cache BxJ) hZ (hw _ (List.mem_of_getElem? (i := 23) rfl)) (hw _ (List.mem_of_getElem? (i := 22) rfl)) (by decide) (by decide)) (g := (mkF m 68 #[.val (.long q0), .second, .val (.int p1), .val (.long q2), .second, .val (.int p3), .val (.int p4), .val (.long (v0_2 q0 p1 q2 p3 p4)), .second, .val (.int (v0_4 q0 p1 q2 p3 p4)), .val (.int (v0_5 q0 p1 q2 p3 p4)), .val (.ref b7), .val (.ref b15), .val (.ref x3_0_24), .unset, .unset] [(.long q0)])) rfl (by rw [hml]; rfl) (argsL := [(.long q0)]) (rest := []) (lenOf pd__J_Ljava_lang_Long_ rfl) rfl (by show 2 * 0 + _ ≤ _; exact Nat.le_of_eq rfl) (hb hby at_68) (fun _ _ => ⟨rfl, rfl, (by decide : 3 + 1 ≤ _), (by decide : 5 + 1 ≤ _)⟩)
  dsimp only [Pt.U, Pt.locs, Pt.cells, Pt.slots] at X28 l28 y28 z28 st28 hQ28
  subst l28 y28 z28
  have N28q := (show _ ∧ _ from hQ28).1
  have hq28 := (show _ ∧ _ from hQ28).2
  clear hQ28
  obtain ⟨x4_0_28, hq28x⟩ := hq28
  have hv28 := hq28x.1
  have K28 := hq28x.2.1
  have po28_0 := hq28x.2.2
  clear hq28x
  subst hv28
  have z30 : n0 ≤ T28.heap.size := Nat.le_trans z26 K28.1
  have hs31 : h0.size ≤ T28.heap.size := Nat.le_trans hs27 K28.1
  have N28 := Fr.app N24 N28q
  have pre32 : ∀ t, Steps p.tables e below (T28.setTop (mkF m 75 #[.val (.long q0), .second, .val (.int p1), .val (.long q2), .second, .val (.int p3), .val (.int p4), .val (.long (v0_2 q0 p1 q2 p3 p4)), .second, .val (.int (v0_4 q0 p1 q2 p3 p4)), .val (.int (v0_5 q0 p1 q2 p3 p4)), .val (.ref b7), .val (.ref b15), .val (.ref x3_0_24), .val (.ref x4_0_28), .unset] [(.int (v0_5 q0 p1 q2 p3 p4))])) t → Steps p.tables e below (s₁.setTop (entryFrame m #[(.long q0), (.int p1), (.long q2), (.int p3), (.int p4)] maxLocals)) t := by
    intro t k
    refine pre6 t ?_
    show Steps p.tables e below (s₁.setTop (mkF m 27 #[.val (.long q0), .second, .val (.int p1), .val (.long q2), .second, .val (.int p3), .val (.int p4), .val (.long (v0_2 q0 p1 q2 p3 p4)), .second, .unset, .unset, .unset, .unset, .unset, .unset, .unset] [(.int (v0_4 q0 p1 q2 p3 p4))])) _
    refine XS.istore X0.here hx rfl (hb hby at_27) rfl (l' := #[.val (.long q0), .second, .val (.int p1), .val (.long q2), .second, .val (.int p3), .val (.int p4), .val (.long (v0_2 q0 p1 q2 p3 p4)), .second, .val (.int (v0_4 q0 p1 q2 p3 p4)), .unset, .unset, .unset, .unset, .unset, .unset]) rfl ?_
    show Steps p.tables e below (s₁.setTop (mkF m 29 #[.val (.long q0), .second, .val (.int p1), .val (.long q2), .second, .val (.int p3), .val (.int p4), .val (.long (v0_2 q0 p1 q2 p3 p4)), .second, .val (.int (v0_4 q0 p1 q2 p3 p4)), .unset, .unset, .unset, .unset, .unset, .unset] [])) _
    refine XS.iload X0.here hx rfl (hb hby at_29) rfl ?_
    show Steps p.tables e below (s₁.setTop (mkF m 31 #[.val (.long q0), .second, .val (.int p1), .val (.long q2), .second, .val (.int p3), .val (.int p4), .val (.long (v0_2 q0 p1 q2 p3 p4)), .second, .val (.int (v0_4 q0 p1 q2 p3 p4)), .unset, .unset, .unset, .unset, .unset, .unset] [(.int p4)])) _
    refine XT.iconstV X0.here hx rfl (2 : Int32) (hb hby at_31) (by decide) ?_
    show Steps p.tables e below (s₁.setTop (mkF m 32 #[.val (.long q0), .second, .val (.int p1), .val (.long q2), .second, .val (.int p3), .val (.int p4), .val (.long (v0_2 q0 p1 q2 p3 p4)), .second, .val (.int (v0_4 q0 p1 q2 p3 p4)), .unset, .unset, .unset, .unset, .unset, .unset] [(.int (2 : Int32)), (.int p4)])) _
    refine XT.iushr X0.here hx rfl (hb hby at_32) rfl ?_
    show Steps p.tables e below (s₁.setTop (mkF m 33 #[.val (.long q0), .second, .val (.int p1), .val (.long q2), .second, .val (.int p3), .val (.int p4), .val (.long (v0_2 q0 p1 q2 p3 p4)), .second, .val (.int (v0_4 q0 p1 q2 p3 p4)), .unset, .unset, .unset, .unset, .unset, .unset] [(.int (XT.ushr p4 (2 : Int32)))])) _
    refine XT.iconstV X0.here hx rfl (3 : Int32) (hb hby at_33) (by decide) ?_
    show Steps p.tables e below (s₁.setTop (mkF m 34 #[.val (.long q0), .second, .val (.int p1), .val (.long q2), .second, .val (.int p3), .val (.int p4), .val (.long (v0_2 q0 p1 q2 p3 p4)), .second, .val (.int (v0_4 q0 p1 q2 p3 p4)), .unset, .unset, .unset, .unset, .unset, .unset] [(.int (3 : Int32)), (.int (XT.ushr p4 (2 : Int32)))])) _
    refine XS.iand X0.here hx rfl (hb hby at_34) rfl ?_
    show Steps p.tables e below (s₁.setTop (mkF m 35 #[.val (.long q0), .second, .val (.int p1), .val (.long q2), .second, .val (.int p3), .val (.int p4), .val (.long (v0_2 q0 p1 q2 p3 p4)), .second, .val (.int (v0_4 q0 p1 q2 p3 p4)), .unset, .unset, .unset, .unset, .unset, .unset] [(.int ((XT.ushr p4 (2 : Int32)) &&& (3 : Int32)))])) _
    refine XS.istore X0.here hx rfl (hb hby at_35) rfl (l' := #[.val (.long q0), .second, .val (.int p1), .val (.long q2), .second, .val (.int p3), .val (.int p4), .val (.long (v0_2 q0 p1 q2 p3 p4)), .second, .val (.int (v0_4 q0 p1 q2 p3 p4)), .val (.int (v0_5 q0 p1 q2 p3 p4)), .unset, .unset, .unset, .unset, .unset]) rfl ?_
    show Steps p.tables e below (s₁.setTop (mkF m 37 #[.val (.long q0), .second, .val (.int p1), .val (.long q2), .second, .val (.int p3), .val (.int p4), .val (.long (v0_2 q0 p1 q2 p3 p4)), .second, .val (.int (v0_4 q0 p1 q2 p3 p4)), .val (.int (v0_5 q0 p1 q2 p3 p4)), .unset, .unset, .unset, .unset, .unset] [])) _
    refine st7 _ ?_
    show Steps p.tables e below (T7.setTop (mkF m 40 #[.val (.long q0), .second, .val (.int p1), .val (.long q2), .second, .val (.int p3), .val (.int p4), .val (.long (v0_2 q0 p1 q2 p3 p4)), .second, .val (.int (v0_4 q0 p1 q2 p3 p4)), .val (.int (v0_5 q0 p1 q2 p3 p4)), .unset, .unset, .unset, .unset, .unset] [(.ref b7)])) _
    refine XS.dup X7.here hx rfl (hb hby at_40) rfl rfl ?_
    show Steps p.tables e below (T7.setTop (mkF m 41 #[.val (.long q0), .second, .val (.int p1), .val (.long q2), .second, .val (.int p3), .val (.int p4), .val (.long (v0_2 q0 p1 q2 p3 p4)), .second, .val (.int (v0_4 q0 p1 q2 p3 p4)), .val (.int (v0_5 q0 p1 q2 p3 p4)), .unset, .unset, .unset, .unset, .unset] [(.ref b7), (.ref b7)])) _
    refine XT.lloadN X7.here hx rfl (hb hby at_41) rfl ?_
    show Steps p.tables e below (T7.setTop (mkF m 42 #[.val (.long q0), .second, .val (.int p1), .val (.long q2), .second, .val (.int p3), .val (.int p4), .val (.long (v0_2 q0 p1 q2 p3 p4)), .second, .val (.int (v0_4 q0 p1 q2 p3 p4)), .val (.int (v0_5 q0 p1 q2 p3 p4)), .unset, .unset, .unset, .unset, .unset] [(.long q0), (.ref b7), (.ref b7)])) _
    refine XS.iloadN X7.here hx rfl (hb hby at_42) rfl ?_
    show Steps p.tables e below (T7.setTop (mkF m 43 #[.val (.long q0), .second, .val (.int p1), .val (.long q2), .second, .val (.int p3), .val (.int p4), .val (.long (v0_2 q0 p1 q2 p3 p4)), .second, .val (.int (v0_4 q0 p1 q2 p3 p4)), .val (.int (v0_5 q0 p1 q2 p3 p4)), .unset, .unset, .unset, .unset, .unset] [(.int p1), (.long q0), (.ref b7), (.ref b7)])) _
    refine st12.trans ?_
    show Steps p.tables e below (T12.setTop (mkF m 46 #[.val (.long q0), .second, .val (.int p1), .val (.long q2), .second, .val (.int p3), .val (.int p4), .val (.long (v0_2 q0 p1 q2 p3 p4)), .second, .val (.int (v0_4 q0 p1 q2 p3 p4)), .val (.int (v0_5 q0 p1 q2 p3 p4)), .unset, .unset, .unset, .unset, .unset] [(.ref b7)])) _
    refine XS.astore X12.here hx rfl (hb hby at_46) rfl rfl (l' := #[.val (.long q0), .second, .val (.int p1), .val (.long q2), .second, .val (.int p3), .val (.int p4), .val (.long (v0_2 q0 p1 q2 p3 p4)), .second, .val (.int (v0_4 q0 p1 q2 p3 p4)), .val (.int (v0_5 q0 p1 q2 p3 p4)), .val (.ref b7), .unset, .unset, .unset, .unset]) rfl ?_
    show Steps p.tables e below (T12.setTop (mkF m 48 #[.val (.long q0), .second, .val (.int p1), .val (.long q2), .second, .val (.int p3), .val (.int p4), .val (.long (v0_2 q0 p1 q2 p3 p4)), .second, .val (.int (v0_4 q0 p1 q2 p3 p4)), .val (.int (v0_5 q0 p1 q2 p3 p4)), .val (.ref b7), .unset, .unset, .unset, .unset] [])) _
    refine st15 _ ?_
    show Steps p.tables e below (T15.setTop (mkF m 51 #[.val (.long q0), .second, .val (.int p1), .val (.long q2), .second, .val (.int p3), .val (.int p4), .val (.long (v0_2 q0 p1 q2 p3 p4)), .second, .val (.int (v0_4 q0 p1 q2 p3 p4)), .val (.int (v0_5 q0 p1 q2 p3 p4)), .val (.ref b7), .unset, .unset, .unset, .unset] [(.ref b15)])) _
    refine XS.dup X15.here hx rfl (hb hby at_51) rfl rfl ?_
    show Steps p.tables e below (T15.setTop (mkF m 52 #[.val (.long q0), .second, .val (.int p1), .val (.long q2), .second, .val (.int p3), .val (.int p4), .val (.long (v0_2 q0 p1 q2 p3 p4)), .second, .val (.int (v0_4 q0 p1 q2 p3 p4)), .val (.int (v0_5 q0 p1 q2 p3 p4)), .val (.ref b7), .unset, .unset, .unset, .unset] [(.ref b15), (.ref b15)])) _
    refine XT.lload X15.here hx rfl (hb hby at_52) rfl ?_
    show Steps p.tables e below (T15.setTop (mkF m 54 #[.val (.long q0), .second, .val (.int p1), .val (.long q2), .second, .val (.int p3), .val (.int p4), .val (.long (v0_2 q0 p1 q2 p3 p4)), .second, .val (.int (v0_4 q0 p1 q2 p3 p4)), .val (.int (v0_5 q0 p1 q2 p3 p4)), .val (.ref b7), .unset, .unset, .unset, .unset] [(.long (v0_2 q0 p1 q2 p3 p4)), (.ref b15), (.ref b15)])) _
    refine XS.iload X15.here hx rfl (hb hby at_54) rfl ?_
    show Steps p.tables e below (T15.setTop (mkF m 56 #[.val (.long q0), .second, .val (.int p1), .val (.long q2), .second, .val (.int p3), .val (.int p4), .val (.long (v0_2 q0 p1 q2 p3 p4)), .second, .val (.int (v0_4 q0 p1 q2 p3 p4)), .val (.int (v0_5 q0 p1 q2 p3 p4)), .val (.ref b7), .unset, .unset, .unset, .unset] [(.int (v0_4 q0 p1 q2 p3 p4)), (.long (v0_2 q0 p1 q2 p3 p4)), (.ref b15), (.ref b15)])) _
    refine st21.trans ?_
    show Steps p.tables e below (T21.setTop (mkF m 59 #[.val (.long q0), .second, .val (.int p1), .val (.long q2), .second, .val (.int p3), .val (.int p4), .val (.long (v0_2 q0 p1 q2 p3 p4)), .second, .val (.int (v0_4 q0 p1 q2 p3 p4)), .val (.int (v0_5 q0 p1 q2 p3 p4)), .val (.ref b7), .unset, .unset, .unset, .unset] [(.ref b15)])) _
    refine XS.astore X21.here hx rfl (hb hby at_59) rfl rfl (l' := #[.val (.long q0), .second, .val (.int p1), .val (.long q2), .second, .val (.int p3), .val (.int p4), .val (.long (v0_2 q0 p1 q2 p3 p4)), .second, .val (.int (v0_4 q0 p1 q2 p3 p4)), .val (.int (v0_5 q0 p1 q2 p3 p4)), .val (.ref b7), .val (.ref b15), .unset, .unset, .unset]) rfl ?_
    show Steps p.tables e below (T21.setTop (mkF m 61 #[.val (.long q0), .second, .val (.int p1), .val (.long q2), .second, .val (.int p3), .val (.int p4), .val (.long (v0_2 q0 p1 q2 p3 p4)), .second, .val (.int (v0_4 q0 p1 q2 p3 p4)), .val (.int (v0_5 q0 p1 q2 p3 p4)), .val (.ref b7), .val (.ref b15), .unset, .unset, .unset] [])) _
    refine XS.iloadN X21.here hx rfl (hb hby at_61) rfl ?_
    show Steps p.tables e below (T21.setTop (mkF m 62 #[.val (.long q0), .second, .val (.int p1), .val (.long q2), .second, .val (.int p3), .val (.int p4), .val (.long (v0_2 q0 p1 q2 p3 p4)), .second, .val (.int (v0_4 q0 p1 q2 p3 p4)), .val (.int (v0_5 q0 p1 q2 p3 p4)), .val (.ref b7), .val (.ref b15), .unset, .unset, .unset] [(.int p1)])) _
    refine st24 _ ?_
    show Steps p.tables e below (T24.setTop (mkF m 65 #[.val (.long q0), .second, .val (.int p1), .val (.long q2), .second, .val (.int p3), .val (.int p4), .val (.long (v0_2 q0 p1 q2 p3 p4)), .second, .val (.int (v0_4 q0 p1 q2 p3 p4)), .val (.int (v0_5 q0 p1 q2 p3 p4)), .val (.ref b7), .val (.ref b15), .unset, .unset, .unset] [(.ref x3_0_24)])) _
    refine XS.astore X24.here hx rfl (hb hby at_65) rfl rfl (l' := #[.val (.long q0), .second, .val (.int p1), .val (.long q2), .second, .val (.int p3), .val (.int p4), .val (.long (v0_2 q0 p1 q2 p3 p4)), .second, .val (.int (v0_4 q0 p1 q2 p3 p4)), .val (.int (v0_5 q0 p1 q2 p3 p4)), .val (.ref b7), .val (.ref b15), .val (.ref x3_0_24), .unset, .unset]) rfl ?_
    show Steps p.tables e below (T24.setTop (mkF m 67 #[.val (.long q0), .second, .val (.int p1), .val (.long q2), .second, .val (.int p3), .val (.int p4), .val (.long (v0_2 q0 p1 q2 p3 p4)), .second, .val (.int (v0_4 q0 p1 q2 p3 p4)), .val (.int (v0_5 q0 p1 q2 p3 p4)), .val (.ref b7), .val (.ref b15), .val (.ref x3_0_24), .unset, .unset] [])) _
    refine XT.lloadN X24.here hx rfl (hb hby at_67) rfl ?_
    show Steps p.tables e below (T24.setTop (mkF m 68 #[.val (.long q0), .second, .val (.int p1), .val (.long q2), .second, .val (.int p3), .val (.int p4), .val (.long (v0_2 q0 p1 q2 p3 p4)), .second, .val (.int (v0_4 q0 p1 q2 p3 p4)), .val (.int (v0_5 q0 p1 q2 p3 p4)), .val (.ref b7), .val (.ref b15), .val (.ref x3_0_24), .unset, .unset] [(.long q0)])) _
    refine st28 _ ?_
    show Steps p.tables e below (T28.setTop (mkF m 71 #[.val (.long q0), .second, .val (.int p1), .val (.long q2), .second, .val (.int p3), .val (.int p4), .val (.long (v0_2 q0 p1 q2 p3 p4)), .second, .val (.int (v0_4 q0 p1 q2 p3 p4)), .val (.int (v0_5 q0 p1 q2 p3 p4)), .val (.ref b7), .val (.ref b15), .val (.ref x3_0_24), .unset, .unset] [(.ref x4_0_28)])) _
    refine XS.astore X28.here hx rfl (hb hby at_71) rfl rfl (l' := #[.val (.long q0), .second, .val (.int p1), .val (.long q2), .second, .val (.int p3), .val (.int p4), .val (.long (v0_2 q0 p1 q2 p3 p4)), .second, .val (.int (v0_4 q0 p1 q2 p3 p4)), .val (.int (v0_5 q0 p1 q2 p3 p4)), .val (.ref b7), .val (.ref b15), .val (.ref x3_0_24), .val (.ref x4_0_28), .unset]) rfl ?_
    show Steps p.tables e below (T28.setTop (mkF m 73 #[.val (.long q0), .second, .val (.int p1), .val (.long q2), .second, .val (.int p3), .val (.int p4), .val (.long (v0_2 q0 p1 q2 p3 p4)), .second, .val (.int (v0_4 q0 p1 q2 p3 p4)), .val (.int (v0_5 q0 p1 q2 p3 p4)), .val (.ref b7), .val (.ref b15), .val (.ref x3_0_24), .val (.ref x4_0_28), .unset] [])) _
    refine XS.iload X28.here hx rfl (hb hby at_73) rfl ?_
    exact k
  clear pre6 st7 st12 st15 st21 st24 st28
  by_cases c33 : (v0_5 q0 p1 q2 p3 p4) = (0 : Int32)
  · skip
    have pre34 : ∀ t, Steps p.tables e below (T28.setTop (mkF m 82 #[.val (.long q0), .second, .val (.int p1), .val (.long q2), .second, .val (.int p3), .val (.int p4), .val (.long (v0_2 q0 p1 q2 p3 p4)), .second, .val (.int (v0_4 q0 p1 q2 p3 p4)), .val (.int (v0_5 q0 p1 q2 p3 p4)), .val (.ref b7), .val (.ref b15), .val (.ref x3_0_24), .val (.ref x4_0_28), .unset] [(.int (XT.cmpL q0 (v0_2 q0 p1 q2 p3 p4)))])) t → Steps p.tables e below (s₁.setTop (entryFrame m #[(.long q0), (.int p1), (.long q2), (.int p3), (.int p4)] maxLocals)) t := by
      intro t k
      refine pre32 t ?_
      show Steps p.tables e below (T28.setTop (mkF m 75 #[.val (.long q0), .second, .val (.int p1), .val (.long q2), .second, .val (.int p3), .val (.int p4), .val (.long (v0_2 q0 p1 q2 p3 p4)), .second, .val (.int (v0_4 q0 p1 q2 p3 p4)), .val (.int (v0_5 q0 p1 q2 p3 p4)), .val (.ref b7), .val (.ref b15), .val (.ref x3_0_24), .val (.ref x4_0_28), .unset] [(.int (v0_5 q0 p1 q2 p3 p4))])) _
      refine XS.ifNo X28.here hx rfl (hb hby at_75) rfl (XT.i0_ne_f c33) ?_
      show Steps p.tables e below (T28.setTop (mkF m 78 #[.val (.long q0), .second, .val (.int p1), .val (.long q2), .second, .val (.int p3), .val (.int p4), .val (.long (v0_2 q0 p1 q2 p3 p4)), .second, .val (.int (v0_4 q0 p1 q2 p3 p4)), .val (.int (v0_5 q0 p1 q2 p3 p4)), .val (.ref b7), .val (.ref b15), .val (.ref x3_0_24), .val (.ref x4_0_28), .unset] [])) _
      refine XT.lloadN X28.here hx rfl (hb hby at_78) rfl ?_
      show Steps p.tables e below (T28.setTop (mkF m 79 #[.val (.long q0), .second, .val (.int p1), .val (.long q2), .second, .val (.int p3), .val (.int p4), .val (.long (v0_2 q0 p1 q2 p3 p4)), .second, .val (.int (v0_4 q0 p1 q2 p3 p4)), .val (.int (v0_5 q0 p1 q2 p3 p4)), .val (.ref b7), .val (.ref b15), .val (.ref x3_0_24), .val (.ref x4_0_28), .unset] [(.long q0)])) _
      refine XT.lload X28.here hx rfl (hb hby at_79) rfl ?_
      show Steps p.tables e below (T28.setTop (mkF m 81 #[.val (.long q0), .second, .val (.int p1), .val (.long q2), .second, .val (.int p3), .val (.int p4), .val (.long (v0_2 q0 p1 q2 p3 p4)), .second, .val (.int (v0_4 q0 p1 q2 p3 p4)), .val (.int (v0_5 q0 p1 q2 p3 p4)), .val (.ref b7), .val (.ref b15), .val (.ref x3_0_24), .val (.ref x4_0_28), .unset] [(.long (v0_2 q0 p1 q2 p3 p4)), (.long q0)])) _
      refine XT.lcmp X28.here hx rfl (hb hby at_81) rfl ?_
      exact k
    clear pre32
    have pre38 : ∀ t, Steps p.tables e below (T28.setTop (mkF m 96 #[.val (.long q0), .second, .val (.int p1), .val (.long q2), .second, .val (.int p3), .val (.int p4), .val (.long (v0_2 q0 p1 q2 p3 p4)), .second, .val (.int (v0_4 q0 p1 q2 p3 p4)), .val (.int (v0_5 q0 p1 q2 p3 p4)), .val (.ref b7), .val (.ref b15), .val (.ref x3_0_24), .val (.ref x4_0_28), .unset] [(.int (v0_6 q0 p1 q2 p3 p4))])) t → Steps p.tables e below (s₁.setTop (entryFrame m #[(.long q0), (.int p1), (.long q2), (.int p3), (.int p4)] maxLocals)) t := by
      intro t k
      by_cases c35 : q0 = (v0_2 q0 p1 q2 p3 p4)
      · skip
        have pre36 : ∀ t, Steps p.tables e below (T28.setTop (mkF m 88 #[.val (.long q0), .second, .val (.int p1), .val (.long q2), .second, .val (.int p3), .val (.int p4), .val (.long (v0_2 q0 p1 q2 p3 p4)), .second, .val (.int (v0_4 q0 p1 q2 p3 p4)), .val (.int (v0_5 q0 p1 q2 p3 p4)), .val (.ref b7), .val (.ref b15), .val (.ref x3_0_24), .val (.ref x4_0_28), .unset] [(.int (v0_4 q0 p1 q2 p3 p4)), (.int p1)])) t → Steps p.tables e below (s₁.setTop (entryFrame m #[(.long q0), (.int p1), (.long q2), (.int p3), (.int p4)] maxLocals)) t := by
          intro t k
          refine pre34 t ?_
          show Steps p.tables e below (T28.setTop (mkF m 82 #[.val (.long q0), .second, .val (.int p1), .val (.long q2), .second, .val (.int p3), .val (.int p4), .val (.long (v0_2 q0 p1 q2 p3 p4)), .second, .val (.int (v0_4 q0 p1 q2 p3 p4)), .val (.int (v0_5 q0 p1 q2 p3 p4)), .val (.ref b7), .val (.ref b15), .val (.ref x3_0_24), .val (.ref x4_0_28), .unset] [(.int (XT.cmpL q0 (v0_2 q0 p1 q2 p3 p4)))])) _
          refine XS.ifNo X28.here hx rfl (hb hby at_82) rfl (XT.ll_ne_f c35) ?_
          show Steps p.tables e below (T28.setTop (mkF m 85 #[.val (.long q0), .second, .val (.int p1), .val (.long q2), .second, .val (.int p3), .val (.int p4), .val (.long (v0_2 q0 p1 q2 p3 p4)), .second, .val (.int (v0_4 q0 p1 q2 p3 p4)), .val (.int (v0_5 q0 p1 q2 p3 p4)), .val (.ref b7), .val (.ref b15), .val (.ref x3_0_24), .val (.ref x4_0_28), .unset] [])) _
          refine XS.iloadN X28.here hx rfl (hb hby at_85) rfl ?_
          show Steps p.tables e below (T28.setTop (mkF m 86 #[.val (.long q0), .second, .val (.int p1), .val (.long q2), .second, .val (.int p3), .val (.int p4), .val (.long (v0_2 q0 p1 q2 p3 p4)), .second, .val (.int (v0_4 q0 p1 q2 p3 p4)), .val (.int (v0_5 q0 p1 q2 p3 p4)), .val (.ref b7), .val (.ref b15), .val (.ref x3_0_24), .val (.ref x4_0_28), .unset] [(.int p1)])) _
          refine XS.iload X28.here hx rfl (hb hby at_86) rfl ?_
          exact k
        clear pre34
        by_cases c37 : p1 = (v0_4 q0 p1 q2 p3 p4)
        · skip
          rw [show (v0_6 q0 p1 q2 p3 p4) = (1 : Int32) from ((if_pos c35).trans (if_pos c37))] at k
          refine pre36 t ?_
          show Steps p.tables e below (T28.setTop (mkF m 88 #[.val (.long q0), .second, .val (.int p1), .val (.long q2), .second, .val (.int p3), .val (.int p4), .val (.long (v0_2 q0 p1 q2 p3 p4)), .second, .val (.int (v0_4 q0 p1 q2 p3 p4)), .val (.int (v0_5 q0 p1 q2 p3 p4)), .val (.ref b7), .val (.ref b15), .val (.ref x3_0_24), .val (.ref x4_0_28), .unset] [(.int (v0_4 q0 p1 q2 p3 p4)), (.int p1)])) _
          refine XS.icmpNo X28.here hx rfl (hb hby at_88) rfl (XT.ii_ne_f c37) ?_
          show Steps p.tables e below (T28.setTop (mkF m 91 #[.val (.long q0), .second, .val (.int p1), .val (.long q2), .second, .val (.int p3), .val (.int p4), .val (.long (v0_2 q0 p1 q2 p3 p4)), .second, .val (.int (v0_4 q0 p1 q2 p3 p4)), .val (.int (v0_5 q0 p1 q2 p3 p4)), .val (.ref b7), .val (.ref b15), .val (.ref x3_0_24), .val (.ref x4_0_28), .unset] [])) _
          refine XT.iconstV X28.here hx rfl (1 : Int32) (hb hby at_91) (by decide) ?_
          show Steps p.tables e below (T28.setTop (mkF m 92 #[.val (.long q0), .second, .val (.int p1), .val (.long q2), .second, .val (.int p3), .val (.int p4), .val (.long (v0_2 q0 p1 q2 p3 p4)), .second, .val (.int (v0_4 q0 p1 q2 p3 p4)), .val (.int (v0_5 q0 p1 q2 p3 p4)), .val (.ref b7), .val (.ref b15), .val (.ref x3_0_24), .val (.ref x4_0_28), .unset] [(.int (1 : Int32))])) _
          refine XS.goto X28.here hx rfl (pc0 := 92) (pc' := 96) rfl (hb hby at_92) (by decide) (by decide) ?_
          exact k
        · skip
          rw [show (v0_6 q0 p1 q2 p3 p4) = (0 : Int32) from ((if_pos c35).trans (if_neg c37))] at k
          refine pre36 t ?_
          show Steps p.tables e below (T28.setTop (mkF m 88 #[.val (.long q0), .second, .val (.int p1), .val (.long q2), .second, .val (.int p3), .val (.int p4), .val (.long (v0_2 q0 p1 q2 p3 p4)), .second, .val (.int (v0_4 q0 p1 q2 p3 p4)), .val (.int (v0_5 q0 p1 q2 p3 p4)), .val (.ref b7), .val (.ref b15), .val (.ref x3_0_24), .val (.ref x4_0_28), .unset] [(.int (v0_4 q0 p1 q2 p3 p4)), (.int p1)])) _
          refine XS.icmpYes X28.here hx rfl (pc0 := 88) (pc' := 95) rfl (hb hby at_88) rfl (XT.ii_ne_t c37) (by decide) (by decide) ?_
          show Steps p.tables e below (T28.setTop (mkF m 95 #[.val (.long q0), .second, .val (.int p1), .val (.long q2), .second, .val (.int p3), .val (.int p4), .val (.long (v0_2 q0 p1 q2 p3 p4)), .second, .val (.int (v0_4 q0 p1 q2 p3 p4)), .val (.int (v0_5 q0 p1 q2 p3 p4)), .val (.ref b7), .val (.ref b15), .val (.ref x3_0_24), .val (.ref x4_0_28), .unset] [])) _
          refine XT.iconstV X28.here hx rfl (0 : Int32) (hb hby at_95) (by decide) ?_
          exact k
      · skip
        rw [show (v0_6 q0 p1 q2 p3 p4) = (0 : Int32) from (if_neg c35)] at k
        refine pre34 t ?_
        show Steps p.tables e below (T28.setTop (mkF m 82 #[.val (.long q0), .second, .val (.int p1), .val (.long q2), .second, .val (.int p3), .val (.int p4), .val (.long (v0_2 q0 p1 q2 p3 p4)), .second, .val (.int (v0_4 q0 p1 q2 p3 p4)), .val (.int (v0_5 q0 p1 q2 p3 p4)), .val (.ref b7), .val (.ref b15), .val (.ref x3_0_24), .val (.ref x4_0_28), .unset] [(.int (XT.cmpL q0 (v0_2 q0 p1 q2 p3 p4)))])) _
        refine XS.ifYes X28.here hx rfl (pc0 := 82) (pc' := 95) rfl (hb hby at_82) rfl (XT.ll_ne_t c35) (by decide) (by decide) ?_
        show Steps p.tables e below (T28.setTop (mkF m 95 #[.val (.long q0), .second, .val (.int p1), .val (.long q2), .second, .val (.int p3), .val (.int p4), .val (.long (v0_2 q0 p1 q2 p3 p4)), .second, .val (.int (v0_4 q0 p1 q2 p3 p4)), .val (.int (v0_5 q0 p1 q2 p3 p4)), .val (.ref b7), .val (.ref b15), .val (.ref x3_0_24), .val (.ref x4_0_28), .unset] [])) _
        refine XT.iconstV X28.here hx rfl (0 : Int32) (hb hby at_95) (by decide) ?_
        exact k
    have k40 := ((po21_0.keep K24).keep K28)
    have k41 := ((((po12_1.ext E15).keep K21 (ninS ne16 nin0)).keep K24 nin0).keep K28 nin0)
    have k42 := ((po21_1.keep K24 nin0).keep K28 nin0)
    have k43 := ((((po12_2.ext E15).keep K21 (ninS ne16 nin0)).keep K24 nin0).keep K28 nin0)
    have k44 := ((po21_2.keep K24 nin0).keep K28 nin0)
    have k45 := ((((po12_0.ext E15).keep K21).keep K24).keep K28)
    obtain ⟨cq39, kq39, q39a, q39b, q39c⟩ := isOf hZ rfl k45
    obtain ⟨vr39, _, ⟨T39, L39, k39, n39⟩, -, X39, ⟨Lc39, hQ39, l39, y39, z39⟩, st39⟩ := X28.virtualBack hx (y := (⟨"com/example/vannus/vannus/Fingerprint", "equals", "(Ljava/lang/Object;)Z"⟩ : MethodName)) (z := (⟨"com/example/vannus/vannus/Fingerprint", "equals", "(Ljava/lang/Object;)Z"⟩ : MethodName)) hown (mvT hZ (hw _ (List.mem_of_getElem? (i := 28) rfl))) (mvT hZ (hw _ (List.mem_of_getElem? (i := 29) rfl))) (notFace_of_selects (args := #[]) (mvT hZ (hw _ (List.mem_of_getElem? (i := 31) rfl)))) (mvT hZ (hw _ (List.mem_of_getElem? (i := 31) rfl))) (mvT hZ (hw _ (List.mem_of_getElem? (i := 30) rfl))) (by decide) (backOf (W := 0) (rm5 l Z a0 hw [] b7 b15 q0 (v0_2 q0 p1 q2 p3 p4) p1 (v0_4 q0 p1 q2 p3 p4) T28.heap n0 z30 k40 k41 k42 k43 k44) hZ (hw _ (List.mem_of_getElem? (i := 32) rfl)) (hw _ (List.mem_of_getElem? (i := 2) rfl)) (by decide) (by decide)) q39a q39c (g := (mkF m 102 #[.val (.long q0), .second, .val (.int p1), .val (.long q2), .second, .val (.int p3), .val (.int p4), .val (.long (v0_2 q0 p1 q2 p3 p4)), .second, .val (.int (v0_4 q0 p1 q2 p3 p4)), .val (.int (v0_5 q0 p1 q2 p3 p4)), .val (.ref b7), .val (.ref b15), .val (.ref x3_0_24), .val (.ref x4_0_28), .val (.int (v0_6 q0 p1 q2 p3 p4))] [(.ref b15), (.ref b7)])) rfl (by rw [hml]; rfl) (Steps.refl _) (argsL := [(.ref b15)]) (rest := []) (lenOf pd__Ljava_lang_Object__Z rfl) rfl (by show 2 * 0 + _ ≤ _; exact Nat.le_of_eq rfl) (hb hby at_102) (fun _ _ => ⟨rfl, rfl, (by decide : 4 + 0 ≤ _), (by decide : 6 + 0 ≤ _)⟩)
    dsimp only [Pt.U, Pt.locs, Pt.cells, Pt.slots] at X39 l39 y39 z39 st39 hQ39
    subst l39 y39 z39
    have N39q := (show _ ∧ _ ∧ _ from hQ39).1
    have hv39 := (show _ ∧ _ ∧ _ from hQ39).2.1
    have e39 := (show _ ∧ _ ∧ _ from hQ39).2.2
    clear hQ39
    subst hv39
    have N39 := Fr.app N28 N39q
    have pre46 : ∀ t, Steps p.tables e below (T39.setTop (mkF m 107 #[.val (.long q0), .second, .val (.int p1), .val (.long q2), .second, .val (.int p3), .val (.int p4), .val (.long (v0_2 q0 p1 q2 p3 p4)), .second, .val (.int (v0_4 q0 p1 q2 p3 p4)), .val (.int (v0_5 q0 p1 q2 p3 p4)), .val (.ref b7), .val (.ref b15), .val (.ref x3_0_24), .val (.ref x4_0_28), .val (.int (v0_6 q0 p1 q2 p3 p4))] [(.int (v0_6 q0 p1 q2 p3 p4)), (.int (f5 q0 (v0_2 q0 p1 q2 p3 p4) p1 (v0_4 q0 p1 q2 p3 p4)))])) t → Steps p.tables e below (s₁.setTop (entryFrame m #[(.long q0), (.int p1), (.long q2), (.int p3), (.int p4)] maxLocals)) t := by
      intro t k
      refine pre38 t ?_
      show Steps p.tables e below (T28.setTop (mkF m 96 #[.val (.long q0), .second, .val (.int p1), .val (.long q2), .second, .val (.int p3), .val (.int p4), .val (.long (v0_2 q0 p1 q2 p3 p4)), .second, .val (.int (v0_4 q0 p1 q2 p3 p4)), .val (.int (v0_5 q0 p1 q2 p3 p4)), .val (.ref b7), .val (.ref b15), .val (.ref x3_0_24), .val (.ref x4_0_28), .unset] [(.int (v0_6 q0 p1 q2 p3 p4))])) _
      refine XS.istore X28.here hx rfl (hb hby at_96) rfl (l' := #[.val (.long q0), .second, .val (.int p1), .val (.long q2), .second, .val (.int p3), .val (.int p4), .val (.long (v0_2 q0 p1 q2 p3 p4)), .second, .val (.int (v0_4 q0 p1 q2 p3 p4)), .val (.int (v0_5 q0 p1 q2 p3 p4)), .val (.ref b7), .val (.ref b15), .val (.ref x3_0_24), .val (.ref x4_0_28), .val (.int (v0_6 q0 p1 q2 p3 p4))]) rfl ?_
      show Steps p.tables e below (T28.setTop (mkF m 98 #[.val (.long q0), .second, .val (.int p1), .val (.long q2), .second, .val (.int p3), .val (.int p4), .val (.long (v0_2 q0 p1 q2 p3 p4)), .second, .val (.int (v0_4 q0 p1 q2 p3 p4)), .val (.int (v0_5 q0 p1 q2 p3 p4)), .val (.ref b7), .val (.ref b15), .val (.ref x3_0_24), .val (.ref x4_0_28), .val (.int (v0_6 q0 p1 q2 p3 p4))] [])) _
      refine XS.aload X28.here hx rfl (hb hby at_98) rfl rfl ?_
      show Steps p.tables e below (T28.setTop (mkF m 100 #[.val (.long q0), .second, .val (.int p1), .val (.long q2), .second, .val (.int p3), .val (.int p4), .val (.long (v0_2 q0 p1 q2 p3 p4)), .second, .val (.int (v0_4 q0 p1 q2 p3 p4)), .val (.int (v0_5 q0 p1 q2 p3 p4)), .val (.ref b7), .val (.ref b15), .val (.ref x3_0_24), .val (.ref x4_0_28), .val (.int (v0_6 q0 p1 q2 p3 p4))] [(.ref b7)])) _
      refine XS.aload X28.here hx rfl (hb hby at_100) rfl rfl ?_
      show Steps p.tables e below (T28.setTop (mkF m 102 #[.val (.long q0), .second, .val (.int p1), .val (.long q2), .second, .val (.int p3), .val (.int p4), .val (.long (v0_2 q0 p1 q2 p3 p4)), .second, .val (.int (v0_4 q0 p1 q2 p3 p4)), .val (.int (v0_5 q0 p1 q2 p3 p4)), .val (.ref b7), .val (.ref b15), .val (.ref x3_0_24), .val (.ref x4_0_28), .val (.int (v0_6 q0 p1 q2 p3 p4))] [(.ref b15), (.ref b7)])) _
      refine st39.trans ?_
      show Steps p.tables e below (T39.setTop (mkF m 105 #[.val (.long q0), .second, .val (.int p1), .val (.long q2), .second, .val (.int p3), .val (.int p4), .val (.long (v0_2 q0 p1 q2 p3 p4)), .second, .val (.int (v0_4 q0 p1 q2 p3 p4)), .val (.int (v0_5 q0 p1 q2 p3 p4)), .val (.ref b7), .val (.ref b15), .val (.ref x3_0_24), .val (.ref x4_0_28), .val (.int (v0_6 q0 p1 q2 p3 p4))] [(.int (f5 q0 (v0_2 q0 p1 q2 p3 p4) p1 (v0_4 q0 p1 q2 p3 p4)))])) _
      refine XS.iload X39.here hx rfl (hb hby at_105) rfl ?_
      exact k
    clear pre38 st39
    obtain ⟨T51, L51, X51, e51, N51, pre51⟩ : ∃ (T' : State) (L' : List Loc), Stand p l e room_1 s m #[(.long q0), (.int p1), (.long q2), (.int p3), (.int p4)] below meth c T' L' 4 6 ∧ T'.heap = T28.heap ∧ Fr n0 L' ∧ ∀ t, Steps p.tables e below (T'.setTop (mkF m 127 #[.val (.long q0), .second, .val (.int p1), .val (.long q2), .second, .val (.int p3), .val (.int p4), .val (.long (v0_2 q0 p1 q2 p3 p4)), .second, .val (.int (v0_4 q0 p1 q2 p3 p4)), .val (.int (v0_5 q0 p1 q2 p3 p4)), .val (.ref b7), .val (.ref b15), .val (.ref x3_0_24), .val (.ref x4_0_28), .val (.int (v0_6 q0 p1 q2 p3 p4))] [(.int (v0_9 q0 p1 q2 p3 p4))])) t → Steps p.tables e below (s₁.setTop (entryFrame m #[(.long q0), (.int p1), (.long q2), (.int p3), (.int p4)] maxLocals)) t := by
      by_cases c47 : (v0_7 q0 p1 q2 p3 p4) = (v0_6 q0 p1 q2 p3 p4)
      · skip
        obtain ⟨cq48, kq48, q48a, q48b, q48c⟩ := isOf hZ e39 k40
        obtain ⟨vr48, _, ⟨T48, L48, k48, n48⟩, -, X48, ⟨Lc48, hQ48, l48, y48, z48⟩, st48⟩ := X39.virtualBack hx (y := (⟨"com/example/vannus/vannus/Fingerprint", "equals", "(Ljava/lang/Object;)Z"⟩ : MethodName)) (z := (⟨"com/example/vannus/vannus/Fingerprint", "equals", "(Ljava/lang/Object;)Z"⟩ : MethodName)) hown (mvT hZ (hw _ (List.mem_of_getElem? (i := 28) rfl))) (mvT hZ (hw _ (List.mem_of_getElem? (i := 29) rfl))) (notFace_of_selects (args := #[]) (mvT hZ (hw _ (List.mem_of_getElem? (i := 31) rfl)))) (mvT hZ (hw _ (List.mem_of_getElem? (i := 31) rfl))) (mvT hZ (hw _ (List.mem_of_getElem? (i := 30) rfl))) (by decide) (backOf (W := 0) (rm5 l Z a0 hw [] b15 b7 (v0_2 q0 p1 q2 p3 p4) q0 (v0_4 q0 p1 q2 p3 p4) p1 T28.heap n0 z30 k45 k42 k41 k44 k43) hZ (hw _ (List.mem_of_getElem? (i := 32) rfl)) (hw _ (List.mem_of_getElem? (i := 2) rfl)) (by decide) (by decide)) q48a q48c (g := (mkF m 114 #[.val (.long q0), .second, .val (.int p1), .val (.long q2), .second, .val (.int p3), .val (.int p4), .val (.long (v0_2 q0 p1 q2 p3 p4)), .second, .val (.int (v0_4 q0 p1 q2 p3 p4)), .val (.int (v0_5 q0 p1 q2 p3 p4)), .val (.ref b7), .val (.ref b15), .val (.ref x3_0_24), .val (.ref x4_0_28), .val (.int (v0_6 q0 p1 q2 p3 p4))] [(.ref b7), (.ref b15)])) rfl (by rw [hml]; rfl) (Steps.refl _) (argsL := [(.ref b7)]) (rest := []) (lenOf pd__Ljava_lang_Object__Z rfl) rfl (by show 2 * 0 + _ ≤ _; exact Nat.le_of_eq rfl) (hb hby at_114) (fun _ _ => ⟨rfl, e39, (by decide : 4 + 0 ≤ _), (by decide : 6 + 0 ≤ _)⟩)
        dsimp only [Pt.U, Pt.locs, Pt.cells, Pt.slots] at X48 l48 y48 z48 st48 hQ48
        subst l48 y48 z48
        have N48q := (show _ ∧ _ ∧ _ from hQ48).1
        have hv48 := (show _ ∧ _ ∧ _ from hQ48).2.1
        have e48 := (show _ ∧ _ ∧ _ from hQ48).2.2
        clear hQ48
        subst hv48
        have N48 := Fr.app N39 N48q
        have pre49 : ∀ t, Steps p.tables e below (T48.setTop (mkF m 119 #[.val (.long q0), .second, .val (.int p1), .val (.long q2), .second, .val (.int p3), .val (.int p4), .val (.long (v0_2 q0 p1 q2 p3 p4)), .second, .val (.int (v0_4 q0 p1 q2 p3 p4)), .val (.int (v0_5 q0 p1 q2 p3 p4)), .val (.ref b7), .val (.ref b15), .val (.ref x3_0_24), .val (.ref x4_0_28), .val (.int (v0_6 q0 p1 q2 p3 p4))] [(.int (v0_6 q0 p1 q2 p3 p4)), (.int (f5 (v0_2 q0 p1 q2 p3 p4) q0 (v0_4 q0 p1 q2 p3 p4) p1))])) t → Steps p.tables e below (s₁.setTop (entryFrame m #[(.long q0), (.int p1), (.long q2), (.int p3), (.int p4)] maxLocals)) t := by
          intro t k
          refine pre46 t ?_
          show Steps p.tables e below (T39.setTop (mkF m 107 #[.val (.long q0), .second, .val (.int p1), .val (.long q2), .second, .val (.int p3), .val (.int p4), .val (.long (v0_2 q0 p1 q2 p3 p4)), .second, .val (.int (v0_4 q0 p1 q2 p3 p4)), .val (.int (v0_5 q0 p1 q2 p3 p4)), .val (.ref b7), .val (.ref b15), .val (.ref x3_0_24), .val (.ref x4_0_28), .val (.int (v0_6 q0 p1 q2 p3 p4))] [(.int (v0_6 q0 p1 q2 p3 p4)), (.int (f5 q0 (v0_2 q0 p1 q2 p3 p4) p1 (v0_4 q0 p1 q2 p3 p4)))])) _
          refine XS.icmpNo X39.here hx rfl (hb hby at_107) rfl (XT.ii_ne_f c47) ?_
          show Steps p.tables e below (T39.setTop (mkF m 110 #[.val (.long q0), .second, .val (.int p1), .val (.long q2), .second, .val (.int p3), .val (.int p4), .val (.long (v0_2 q0 p1 q2 p3 p4)), .second, .val (.int (v0_4 q0 p1 q2 p3 p4)), .val (.int (v0_5 q0 p1 q2 p3 p4)), .val (.ref b7), .val (.ref b15), .val (.ref x3_0_24), .val (.ref x4_0_28), .val (.int (v0_6 q0 p1 q2 p3 p4))] [])) _
          refine XS.aload X39.here hx rfl (hb hby at_110) rfl rfl ?_
          show Steps p.tables e below (T39.setTop (mkF m 112 #[.val (.long q0), .second, .val (.int p1), .val (.long q2), .second, .val (.int p3), .val (.int p4), .val (.long (v0_2 q0 p1 q2 p3 p4)), .second, .val (.int (v0_4 q0 p1 q2 p3 p4)), .val (.int (v0_5 q0 p1 q2 p3 p4)), .val (.ref b7), .val (.ref b15), .val (.ref x3_0_24), .val (.ref x4_0_28), .val (.int (v0_6 q0 p1 q2 p3 p4))] [(.ref b15)])) _
          refine XS.aload X39.here hx rfl (hb hby at_112) rfl rfl ?_
          show Steps p.tables e below (T39.setTop (mkF m 114 #[.val (.long q0), .second, .val (.int p1), .val (.long q2), .second, .val (.int p3), .val (.int p4), .val (.long (v0_2 q0 p1 q2 p3 p4)), .second, .val (.int (v0_4 q0 p1 q2 p3 p4)), .val (.int (v0_5 q0 p1 q2 p3 p4)), .val (.ref b7), .val (.ref b15), .val (.ref x3_0_24), .val (.ref x4_0_28), .val (.int (v0_6 q0 p1 q2 p3 p4))] [(.ref b7), (.ref b15)])) _
          refine st48.trans ?_
          show Steps p.tables e below (T48.setTop (mkF m 117 #[.val (.long q0), .second, .val (.int p1), .val (.long q2), .second, .val (.int p3), .val (.int p4), .val (.long (v0_2 q0 p1 q2 p3 p4)), .second, .val (.int (v0_4 q0 p1 q2 p3 p4)), .val (.int (v0_5 q0 p1 q2 p3 p4)), .val (.ref b7), .val (.ref b15), .val (.ref x3_0_24), .val (.ref x4_0_28), .val (.int (v0_6 q0 p1 q2 p3 p4))] [(.int (f5 (v0_2 q0 p1 q2 p3 p4) q0 (v0_4 q0 p1 q2 p3 p4) p1))])) _
          refine XS.iload X48.here hx rfl (hb hby at_117) rfl ?_
          exact k
        clear pre46 st48
        by_cases c50 : (v0_8 q0 p1 q2 p3 p4) = (v0_6 q0 p1 q2 p3 p4)
        · skip
          refine ⟨T48, _, X48, e48, N48, fun t k => ?_⟩
          rw [show (v0_9 q0 p1 q2 p3 p4) = (1 : Int32) from ((if_pos c47).trans (if_pos c50))] at k
          refine pre49 t ?_
          show Steps p.tables e below (T48.setTop (mkF m 119 #[.val (.long q0), .second, .val (.int p1), .val (.long q2), .second, .val (.int p3), .val (.int p4), .val (.long (v0_2 q0 p1 q2 p3 p4)), .second, .val (.int (v0_4 q0 p1 q2 p3 p4)), .val (.int (v0_5 q0 p1 q2 p3 p4)), .val (.ref b7), .val (.ref b15), .val (.ref x3_0_24), .val (.ref x4_0_28), .val (.int (v0_6 q0 p1 q2 p3 p4))] [(.int (v0_6 q0 p1 q2 p3 p4)), (.int (f5 (v0_2 q0 p1 q2 p3 p4) q0 (v0_4 q0 p1 q2 p3 p4) p1))])) _
          refine XS.icmpNo X48.here hx rfl (hb hby at_119) rfl (XT.ii_ne_f c50) ?_
          show Steps p.tables e below (T48.setTop (mkF m 122 #[.val (.long q0), .second, .val (.int p1), .val (.long q2), .second, .val (.int p3), .val (.int p4), .val (.long (v0_2 q0 p1 q2 p3 p4)), .second, .val (.int (v0_4 q0 p1 q2 p3 p4)), .val (.int (v0_5 q0 p1 q2 p3 p4)), .val (.ref b7), .val (.ref b15), .val (.ref x3_0_24), .val (.ref x4_0_28), .val (.int (v0_6 q0 p1 q2 p3 p4))] [])) _
          refine XT.iconstV X48.here hx rfl (1 : Int32) (hb hby at_122) (by decide) ?_
          show Steps p.tables e below (T48.setTop (mkF m 123 #[.val (.long q0), .second, .val (.int p1), .val (.long q2), .second, .val (.int p3), .val (.int p4), .val (.long (v0_2 q0 p1 q2 p3 p4)), .second, .val (.int (v0_4 q0 p1 q2 p3 p4)), .val (.int (v0_5 q0 p1 q2 p3 p4)), .val (.ref b7), .val (.ref b15), .val (.ref x3_0_24), .val (.ref x4_0_28), .val (.int (v0_6 q0 p1 q2 p3 p4))] [(.int (1 : Int32))])) _
          refine XS.goto X48.here hx rfl (pc0 := 123) (pc' := 127) rfl (hb hby at_123) (by decide) (by decide) ?_
          exact k
        · skip
          refine ⟨T48, _, X48, e48, N48, fun t k => ?_⟩
          rw [show (v0_9 q0 p1 q2 p3 p4) = (0 : Int32) from ((if_pos c47).trans (if_neg c50))] at k
          refine pre49 t ?_
          show Steps p.tables e below (T48.setTop (mkF m 119 #[.val (.long q0), .second, .val (.int p1), .val (.long q2), .second, .val (.int p3), .val (.int p4), .val (.long (v0_2 q0 p1 q2 p3 p4)), .second, .val (.int (v0_4 q0 p1 q2 p3 p4)), .val (.int (v0_5 q0 p1 q2 p3 p4)), .val (.ref b7), .val (.ref b15), .val (.ref x3_0_24), .val (.ref x4_0_28), .val (.int (v0_6 q0 p1 q2 p3 p4))] [(.int (v0_6 q0 p1 q2 p3 p4)), (.int (f5 (v0_2 q0 p1 q2 p3 p4) q0 (v0_4 q0 p1 q2 p3 p4) p1))])) _
          refine XS.icmpYes X48.here hx rfl (pc0 := 119) (pc' := 126) rfl (hb hby at_119) rfl (XT.ii_ne_t c50) (by decide) (by decide) ?_
          show Steps p.tables e below (T48.setTop (mkF m 126 #[.val (.long q0), .second, .val (.int p1), .val (.long q2), .second, .val (.int p3), .val (.int p4), .val (.long (v0_2 q0 p1 q2 p3 p4)), .second, .val (.int (v0_4 q0 p1 q2 p3 p4)), .val (.int (v0_5 q0 p1 q2 p3 p4)), .val (.ref b7), .val (.ref b15), .val (.ref x3_0_24), .val (.ref x4_0_28), .val (.int (v0_6 q0 p1 q2 p3 p4))] [])) _
          refine XT.iconstV X48.here hx rfl (0 : Int32) (hb hby at_126) (by decide) ?_
          exact k
      · skip
        refine ⟨T39, _, X39, e39, N39, fun t k => ?_⟩
        rw [show (v0_9 q0 p1 q2 p3 p4) = (0 : Int32) from (if_neg c47)] at k
        refine pre46 t ?_
        show Steps p.tables e below (T39.setTop (mkF m 107 #[.val (.long q0), .second, .val (.int p1), .val (.long q2), .second, .val (.int p3), .val (.int p4), .val (.long (v0_2 q0 p1 q2 p3 p4)), .second, .val (.int (v0_4 q0 p1 q2 p3 p4)), .val (.int (v0_5 q0 p1 q2 p3 p4)), .val (.ref b7), .val (.ref b15), .val (.ref x3_0_24), .val (.ref x4_0_28), .val (.int (v0_6 q0 p1 q2 p3 p4))] [(.int (v0_6 q0 p1 q2 p3 p4)), (.int (f5 q0 (v0_2 q0 p1 q2 p3 p4) p1 (v0_4 q0 p1 q2 p3 p4)))])) _
        refine XS.icmpYes X39.here hx rfl (pc0 := 107) (pc' := 126) rfl (hb hby at_107) rfl (XT.ii_ne_t c47) (by decide) (by decide) ?_
        show Steps p.tables e below (T39.setTop (mkF m 126 #[.val (.long q0), .second, .val (.int p1), .val (.long q2), .second, .val (.int p3), .val (.int p4), .val (.long (v0_2 q0 p1 q2 p3 p4)), .second, .val (.int (v0_4 q0 p1 q2 p3 p4)), .val (.int (v0_5 q0 p1 q2 p3 p4)), .val (.ref b7), .val (.ref b15), .val (.ref x3_0_24), .val (.ref x4_0_28), .val (.int (v0_6 q0 p1 q2 p3 p4))] [])) _
        refine XT.iconstV X39.here hx rfl (0 : Int32) (hb hby at_126) (by decide) ?_
        exact k
    have hv52 : (v0_9 q0 p1 q2 p3 p4) = (1 : Int32) := own_v0_9 q0 p1 q2 p3 p4 c33
    obtain ⟨fs, hr, hrun, hended, hW, hsame⟩ := X51.leave (v := some (.int (1 : Int32))) (fun h => by rw [Bd.returns] at h; cases h) hlk
    refine ⟨_, _, pre51 _ ?_, hrun, hended, _, _, rfl, ?_, ⟨_, rfl⟩, hW, hsame.mono (by decide) (by decide)⟩
    · skip
      show Steps p.tables e below (T51.setTop (mkF m 127 #[.val (.long q0), .second, .val (.int p1), .val (.long q2), .second, .val (.int p3), .val (.int p4), .val (.long (v0_2 q0 p1 q2 p3 p4)), .second, .val (.int (v0_4 q0 p1 q2 p3 p4)), .val (.int (v0_5 q0 p1 q2 p3 p4)), .val (.ref b7), .val (.ref b15), .val (.ref x3_0_24), .val (.ref x4_0_28), .val (.int (v0_6 q0 p1 q2 p3 p4))] [(.int (v0_9 q0 p1 q2 p3 p4))])) _
      rw [hv52]
      exact retN X51 hx (t := .boolean) Bd.returns (by simp) (hb hby at_127) hr
    · skip
      show Q0 Z q0 p1 q2 p3 p4 w1_cache w2_cache clI clJ h0 n0 _ T51.heap _
      rw [e51]
      exact ⟨rfl, N51⟩
  · skip
    have pre53 : ∀ t, Steps p.tables e below (T28.setTop (mkF m 131 #[.val (.long q0), .second, .val (.int p1), .val (.long q2), .second, .val (.int p3), .val (.int p4), .val (.long (v0_2 q0 p1 q2 p3 p4)), .second, .val (.int (v0_4 q0 p1 q2 p3 p4)), .val (.int (v0_5 q0 p1 q2 p3 p4)), .val (.ref b7), .val (.ref b15), .val (.ref x3_0_24), .val (.ref x4_0_28), .unset] [(.int (1 : Int32)), (.int (v0_5 q0 p1 q2 p3 p4))])) t → Steps p.tables e below (s₁.setTop (entryFrame m #[(.long q0), (.int p1), (.long q2), (.int p3), (.int p4)] maxLocals)) t := by
      intro t k
      refine pre32 t ?_
      show Steps p.tables e below (T28.setTop (mkF m 75 #[.val (.long q0), .second, .val (.int p1), .val (.long q2), .second, .val (.int p3), .val (.int p4), .val (.long (v0_2 q0 p1 q2 p3 p4)), .second, .val (.int (v0_4 q0 p1 q2 p3 p4)), .val (.int (v0_5 q0 p1 q2 p3 p4)), .val (.ref b7), .val (.ref b15), .val (.ref x3_0_24), .val (.ref x4_0_28), .unset] [(.int (v0_5 q0 p1 q2 p3 p4))])) _
      refine XS.ifYes X28.here hx rfl (pc0 := 75) (pc' := 128) rfl (hb hby at_75) rfl (XT.i0_ne_t c33) (by decide) (by decide) ?_
      show Steps p.tables e below (T28.setTop (mkF m 128 #[.val (.long q0), .second, .val (.int p1), .val (.long q2), .second, .val (.int p3), .val (.int p4), .val (.long (v0_2 q0 p1 q2 p3 p4)), .second, .val (.int (v0_4 q0 p1 q2 p3 p4)), .val (.int (v0_5 q0 p1 q2 p3 p4)), .val (.ref b7), .val (.ref b15), .val (.ref x3_0_24), .val (.ref x4_0_28), .unset] [])) _
      refine XS.iload X28.here hx rfl (hb hby at_128) rfl ?_
      show Steps p.tables e below (T28.setTop (mkF m 130 #[.val (.long q0), .second, .val (.int p1), .val (.long q2), .second, .val (.int p3), .val (.int p4), .val (.long (v0_2 q0 p1 q2 p3 p4)), .second, .val (.int (v0_4 q0 p1 q2 p3 p4)), .val (.int (v0_5 q0 p1 q2 p3 p4)), .val (.ref b7), .val (.ref b15), .val (.ref x3_0_24), .val (.ref x4_0_28), .unset] [(.int (v0_5 q0 p1 q2 p3 p4))])) _
      refine XT.iconstV X28.here hx rfl (1 : Int32) (hb hby at_130) (by decide) ?_
      exact k
    clear pre32
    by_cases c54 : (v0_5 q0 p1 q2 p3 p4) = (1 : Int32)
    · skip
      have k56 := ((((po12_0.ext E15).keep K21).keep K24).keep K28)
      obtain ⟨cq55, kq55, q55a, q55b, q55c⟩ := isOf hZ rfl k56
      obtain ⟨vr55, _, ⟨T55, L55, k55, n55⟩, -, X55, ⟨Lc55, hQ55, l55, y55, z55⟩, st55⟩ := X28.virtualBack hx (y := (⟨"com/example/vannus/vannus/Fingerprint", "equals", "(Ljava/lang/Object;)Z"⟩ : MethodName)) (z := (⟨"com/example/vannus/vannus/Fingerprint", "equals", "(Ljava/lang/Object;)Z"⟩ : MethodName)) hown (mvT hZ (hw _ (List.mem_of_getElem? (i := 28) rfl))) (mvT hZ (hw _ (List.mem_of_getElem? (i := 29) rfl))) (notFace_of_selects (args := #[]) (mvT hZ (hw _ (List.mem_of_getElem? (i := 31) rfl)))) (mvT hZ (hw _ (List.mem_of_getElem? (i := 31) rfl))) (mvT hZ (hw _ (List.mem_of_getElem? (i := 30) rfl))) (by decide) (backOf (W := 0) (rmeqN l Z a0 hw [] b7 T28.heap n0 z30) hZ (hw _ (List.mem_of_getElem? (i := 32) rfl)) (hw _ (List.mem_of_getElem? (i := 2) rfl)) (by decide) (by decide)) q55a q55c (g := (mkF m 137 #[.val (.long q0), .second, .val (.int p1), .val (.long q2), .second, .val (.int p3), .val (.int p4), .val (.long (v0_2 q0 p1 q2 p3 p4)), .second, .val (.int (v0_4 q0 p1 q2 p3 p4)), .val (.int (v0_5 q0 p1 q2 p3 p4)), .val (.ref b7), .val (.ref b15), .val (.ref x3_0_24), .val (.ref x4_0_28), .unset] [.null, (.ref b7)])) rfl (by rw [hml]; rfl) (Steps.refl _) (argsL := [.null]) (rest := []) (lenOf pd__Ljava_lang_Object__Z rfl) rfl (by show 2 * 0 + _ ≤ _; exact Nat.le_of_eq rfl) (hb hby at_137) (fun _ _ => ⟨rfl, rfl, (by decide : 4 + 0 ≤ _), (by decide : 6 + 0 ≤ _)⟩)
      dsimp only [Pt.U, Pt.locs, Pt.cells, Pt.slots] at X55 l55 y55 z55 st55 hQ55
      subst l55 y55 z55
      have N55q := (show _ ∧ _ ∧ _ from hQ55).1
      have hv55 := (show _ ∧ _ ∧ _ from hQ55).2.1
      have e55 := (show _ ∧ _ ∧ _ from hQ55).2.2
      clear hQ55
      subst hv55
      have N55 := Fr.app N28 N55q
      have pre57 : ∀ t, Steps p.tables e below (T55.setTop (mkF m 140 #[.val (.long q0), .second, .val (.int p1), .val (.long q2), .second, .val (.int p3), .val (.int p4), .val (.long (v0_2 q0 p1 q2 p3 p4)), .second, .val (.int (v0_4 q0 p1 q2 p3 p4)), .val (.int (v0_5 q0 p1 q2 p3 p4)), .val (.ref b7), .val (.ref b15), .val (.ref x3_0_24), .val (.ref x4_0_28), .unset] [(.int feqN)])) t → Steps p.tables e below (s₁.setTop (entryFrame m #[(.long q0), (.int p1), (.long q2), (.int p3), (.int p4)] maxLocals)) t := by
        intro t k
        refine pre53 t ?_
        show Steps p.tables e below (T28.setTop (mkF m 131 #[.val (.long q0), .second, .val (.int p1), .val (.long q2), .second, .val (.int p3), .val (.int p4), .val (.long (v0_2 q0 p1 q2 p3 p4)), .second, .val (.int (v0_4 q0 p1 q2 p3 p4)), .val (.int (v0_5 q0 p1 q2 p3 p4)), .val (.ref b7), .val (.ref b15), .val (.ref x3_0_24), .val (.ref x4_0_28), .unset] [(.int (1 : Int32)), (.int (v0_5 q0 p1 q2 p3 p4))])) _
        refine XS.icmpNo X28.here hx rfl (hb hby at_131) rfl (XT.ii_ne_f c54) ?_
        show Steps p.tables e below (T28.setTop (mkF m 134 #[.val (.long q0), .second, .val (.int p1), .val (.long q2), .second, .val (.int p3), .val (.int p4), .val (.long (v0_2 q0 p1 q2 p3 p4)), .second, .val (.int (v0_4 q0 p1 q2 p3 p4)), .val (.int (v0_5 q0 p1 q2 p3 p4)), .val (.ref b7), .val (.ref b15), .val (.ref x3_0_24), .val (.ref x4_0_28), .unset] [])) _
        refine XS.aload X28.here hx rfl (hb hby at_134) rfl rfl ?_
        show Steps p.tables e below (T28.setTop (mkF m 136 #[.val (.long q0), .second, .val (.int p1), .val (.long q2), .second, .val (.int p3), .val (.int p4), .val (.long (v0_2 q0 p1 q2 p3 p4)), .second, .val (.int (v0_4 q0 p1 q2 p3 p4)), .val (.int (v0_5 q0 p1 q2 p3 p4)), .val (.ref b7), .val (.ref b15), .val (.ref x3_0_24), .val (.ref x4_0_28), .unset] [(.ref b7)])) _
        refine XS.aconstNull X28.here hx rfl (hb hby at_136) ?_
        show Steps p.tables e below (T28.setTop (mkF m 137 #[.val (.long q0), .second, .val (.int p1), .val (.long q2), .second, .val (.int p3), .val (.int p4), .val (.long (v0_2 q0 p1 q2 p3 p4)), .second, .val (.int (v0_4 q0 p1 q2 p3 p4)), .val (.int (v0_5 q0 p1 q2 p3 p4)), .val (.ref b7), .val (.ref b15), .val (.ref x3_0_24), .val (.ref x4_0_28), .unset] [.null, (.ref b7)])) _
        refine st55.trans ?_
        exact k
      clear pre53 st55
      have pre59 : ∀ t, Steps p.tables e below (T55.setTop (mkF m 148 #[.val (.long q0), .second, .val (.int p1), .val (.long q2), .second, .val (.int p3), .val (.int p4), .val (.long (v0_2 q0 p1 q2 p3 p4)), .second, .val (.int (v0_4 q0 p1 q2 p3 p4)), .val (.int (v0_5 q0 p1 q2 p3 p4)), .val (.ref b7), .val (.ref b15), .val (.ref x3_0_24), .val (.ref x4_0_28), .unset] [(.int (v0_10 q0 p1 q2 p3 p4))])) t → Steps p.tables e below (s₁.setTop (entryFrame m #[(.long q0), (.int p1), (.long q2), (.int p3), (.int p4)] maxLocals)) t := by
        intro t k
        by_cases c58 : feqN = (0 : Int32)
        · skip
          rw [show (v0_10 q0 p1 q2 p3 p4) = (1 : Int32) from (if_pos c58)] at k
          refine pre57 t ?_
          show Steps p.tables e below (T55.setTop (mkF m 140 #[.val (.long q0), .second, .val (.int p1), .val (.long q2), .second, .val (.int p3), .val (.int p4), .val (.long (v0_2 q0 p1 q2 p3 p4)), .second, .val (.int (v0_4 q0 p1 q2 p3 p4)), .val (.int (v0_5 q0 p1 q2 p3 p4)), .val (.ref b7), .val (.ref b15), .val (.ref x3_0_24), .val (.ref x4_0_28), .unset] [(.int feqN)])) _
          refine XS.ifNo X55.here hx rfl (hb hby at_140) rfl (XT.i0_ne_f c58) ?_
          show Steps p.tables e below (T55.setTop (mkF m 143 #[.val (.long q0), .second, .val (.int p1), .val (.long q2), .second, .val (.int p3), .val (.int p4), .val (.long (v0_2 q0 p1 q2 p3 p4)), .second, .val (.int (v0_4 q0 p1 q2 p3 p4)), .val (.int (v0_5 q0 p1 q2 p3 p4)), .val (.ref b7), .val (.ref b15), .val (.ref x3_0_24), .val (.ref x4_0_28), .unset] [])) _
          refine XT.iconstV X55.here hx rfl (1 : Int32) (hb hby at_143) (by decide) ?_
          show Steps p.tables e below (T55.setTop (mkF m 144 #[.val (.long q0), .second, .val (.int p1), .val (.long q2), .second, .val (.int p3), .val (.int p4), .val (.long (v0_2 q0 p1 q2 p3 p4)), .second, .val (.int (v0_4 q0 p1 q2 p3 p4)), .val (.int (v0_5 q0 p1 q2 p3 p4)), .val (.ref b7), .val (.ref b15), .val (.ref x3_0_24), .val (.ref x4_0_28), .unset] [(.int (1 : Int32))])) _
          refine XS.goto X55.here hx rfl (pc0 := 144) (pc' := 148) rfl (hb hby at_144) (by decide) (by decide) ?_
          exact k
        · skip
          rw [show (v0_10 q0 p1 q2 p3 p4) = (0 : Int32) from (if_neg c58)] at k
          refine pre57 t ?_
          show Steps p.tables e below (T55.setTop (mkF m 140 #[.val (.long q0), .second, .val (.int p1), .val (.long q2), .second, .val (.int p3), .val (.int p4), .val (.long (v0_2 q0 p1 q2 p3 p4)), .second, .val (.int (v0_4 q0 p1 q2 p3 p4)), .val (.int (v0_5 q0 p1 q2 p3 p4)), .val (.ref b7), .val (.ref b15), .val (.ref x3_0_24), .val (.ref x4_0_28), .unset] [(.int feqN)])) _
          refine XS.ifYes X55.here hx rfl (pc0 := 140) (pc' := 147) rfl (hb hby at_140) rfl (XT.i0_ne_t c58) (by decide) (by decide) ?_
          show Steps p.tables e below (T55.setTop (mkF m 147 #[.val (.long q0), .second, .val (.int p1), .val (.long q2), .second, .val (.int p3), .val (.int p4), .val (.long (v0_2 q0 p1 q2 p3 p4)), .second, .val (.int (v0_4 q0 p1 q2 p3 p4)), .val (.int (v0_5 q0 p1 q2 p3 p4)), .val (.ref b7), .val (.ref b15), .val (.ref x3_0_24), .val (.ref x4_0_28), .unset] [])) _
          refine XT.iconstV X55.here hx rfl (0 : Int32) (hb hby at_147) (by decide) ?_
          exact k
      have hv60 : (v0_10 q0 p1 q2 p3 p4) = (1 : Int32) := own_v0_10 q0 p1 q2 p3 p4 c33 c54
      obtain ⟨fs, hr, hrun, hended, hW, hsame⟩ := X55.leave (v := some (.int (1 : Int32))) (fun h => by rw [Bd.returns] at h; cases h) hlk
      refine ⟨_, _, pre59 _ ?_, hrun, hended, _, _, rfl, ?_, ⟨_, rfl⟩, hW, hsame.mono (by decide) (by decide)⟩
      · skip
        show Steps p.tables e below (T55.setTop (mkF m 148 #[.val (.long q0), .second, .val (.int p1), .val (.long q2), .second, .val (.int p3), .val (.int p4), .val (.long (v0_2 q0 p1 q2 p3 p4)), .second, .val (.int (v0_4 q0 p1 q2 p3 p4)), .val (.int (v0_5 q0 p1 q2 p3 p4)), .val (.ref b7), .val (.ref b15), .val (.ref x3_0_24), .val (.ref x4_0_28), .unset] [(.int (v0_10 q0 p1 q2 p3 p4))])) _
        rw [hv60]
        exact retN X55 hx (t := .boolean) Bd.returns (by simp) (hb hby at_148) hr
      · skip
        show Q0 Z q0 p1 q2 p3 p4 w1_cache w2_cache clI clJ h0 n0 _ T55.heap _
        rw [e55]
        exact ⟨rfl, N55⟩
    · skip
      have pre61 : ∀ t, Steps p.tables e below (T28.setTop (mkF m 152 #[.val (.long q0), .second, .val (.int p1), .val (.long q2), .second, .val (.int p3), .val (.int p4), .val (.long (v0_2 q0 p1 q2 p3 p4)), .second, .val (.int (v0_4 q0 p1 q2 p3 p4)), .val (.int (v0_5 q0 p1 q2 p3 p4)), .val (.ref b7), .val (.ref b15), .val (.ref x3_0_24), .val (.ref x4_0_28), .unset] [(.int (2 : Int32)), (.int (v0_5 q0 p1 q2 p3 p4))])) t → Steps p.tables e below (s₁.setTop (entryFrame m #[(.long q0), (.int p1), (.long q2), (.int p3), (.int p4)] maxLocals)) t := by
        intro t k
        refine pre53 t ?_
        show Steps p.tables e below (T28.setTop (mkF m 131 #[.val (.long q0), .second, .val (.int p1), .val (.long q2), .second, .val (.int p3), .val (.int p4), .val (.long (v0_2 q0 p1 q2 p3 p4)), .second, .val (.int (v0_4 q0 p1 q2 p3 p4)), .val (.int (v0_5 q0 p1 q2 p3 p4)), .val (.ref b7), .val (.ref b15), .val (.ref x3_0_24), .val (.ref x4_0_28), .unset] [(.int (1 : Int32)), (.int (v0_5 q0 p1 q2 p3 p4))])) _
        refine XS.icmpYes X28.here hx rfl (pc0 := 131) (pc' := 149) rfl (hb hby at_131) rfl (XT.ii_ne_t c54) (by decide) (by decide) ?_
        show Steps p.tables e below (T28.setTop (mkF m 149 #[.val (.long q0), .second, .val (.int p1), .val (.long q2), .second, .val (.int p3), .val (.int p4), .val (.long (v0_2 q0 p1 q2 p3 p4)), .second, .val (.int (v0_4 q0 p1 q2 p3 p4)), .val (.int (v0_5 q0 p1 q2 p3 p4)), .val (.ref b7), .val (.ref b15), .val (.ref x3_0_24), .val (.ref x4_0_28), .unset] [])) _
        refine XS.iload X28.here hx rfl (hb hby at_149) rfl ?_
        show Steps p.tables e below (T28.setTop (mkF m 151 #[.val (.long q0), .second, .val (.int p1), .val (.long q2), .second, .val (.int p3), .val (.int p4), .val (.long (v0_2 q0 p1 q2 p3 p4)), .second, .val (.int (v0_4 q0 p1 q2 p3 p4)), .val (.int (v0_5 q0 p1 q2 p3 p4)), .val (.ref b7), .val (.ref b15), .val (.ref x3_0_24), .val (.ref x4_0_28), .unset] [(.int (v0_5 q0 p1 q2 p3 p4))])) _
        refine XT.iconstV X28.here hx rfl (2 : Int32) (hb hby at_151) (by decide) ?_
        exact k
      clear pre53
      by_cases c62 : (v0_5 q0 p1 q2 p3 p4) = (2 : Int32)
      · skip
        have k64 := (po24_0.keep K28)
        have k65 := ((((po12_0.ext E15).keep K21).keep K24).keep K28)
        obtain ⟨cq63, kq63, q63a, q63b, q63c⟩ := isOf hZ rfl k65
        obtain ⟨vr63, _, ⟨T63, L63, k63, n63⟩, -, X63, ⟨Lc63, hQ63, l63, y63, z63⟩, st63⟩ := X28.virtualBack hx (y := (⟨"com/example/vannus/vannus/Fingerprint", "equals", "(Ljava/lang/Object;)Z"⟩ : MethodName)) (z := (⟨"com/example/vannus/vannus/Fingerprint", "equals", "(Ljava/lang/Object;)Z"⟩ : MethodName)) hown (mvT hZ (hw _ (List.mem_of_getElem? (i := 28) rfl))) (mvT hZ (hw _ (List.mem_of_getElem? (i := 29) rfl))) (notFace_of_selects (args := #[]) (mvT hZ (hw _ (List.mem_of_getElem? (i := 31) rfl)))) (mvT hZ (hw _ (List.mem_of_getElem? (i := 31) rfl))) (mvT hZ (hw _ (List.mem_of_getElem? (i := 30) rfl))) (by decide) (backOf (W := 0) (rmeqI l Z a0 hw [] b7 x3_0_24 T28.heap n0 z30 k64) hZ (hw _ (List.mem_of_getElem? (i := 32) rfl)) (hw _ (List.mem_of_getElem? (i := 2) rfl)) (by decide) (by decide)) q63a q63c (g := (mkF m 159 #[.val (.long q0), .second, .val (.int p1), .val (.long q2), .second, .val (.int p3), .val (.int p4), .val (.long (v0_2 q0 p1 q2 p3 p4)), .second, .val (.int (v0_4 q0 p1 q2 p3 p4)), .val (.int (v0_5 q0 p1 q2 p3 p4)), .val (.ref b7), .val (.ref b15), .val (.ref x3_0_24), .val (.ref x4_0_28), .unset] [(.ref x3_0_24), (.ref b7)])) rfl (by rw [hml]; rfl) (Steps.refl _) (argsL := [(.ref x3_0_24)]) (rest := []) (lenOf pd__Ljava_lang_Object__Z rfl) rfl (by show 2 * 0 + _ ≤ _; exact Nat.le_of_eq rfl) (hb hby at_159) (fun _ _ => ⟨rfl, rfl, (by decide : 4 + 0 ≤ _), (by decide : 6 + 0 ≤ _)⟩)
        dsimp only [Pt.U, Pt.locs, Pt.cells, Pt.slots] at X63 l63 y63 z63 st63 hQ63
        subst l63 y63 z63
        have N63q := (show _ ∧ _ ∧ _ from hQ63).1
        have hv63 := (show _ ∧ _ ∧ _ from hQ63).2.1
        have e63 := (show _ ∧ _ ∧ _ from hQ63).2.2
        clear hQ63
        subst hv63
        have N63 := Fr.app N28 N63q
        have pre66 : ∀ t, Steps p.tables e below (T63.setTop (mkF m 162 #[.val (.long q0), .second, .val (.int p1), .val (.long q2), .second, .val (.int p3), .val (.int p4), .val (.long (v0_2 q0 p1 q2 p3 p4)), .second, .val (.int (v0_4 q0 p1 q2 p3 p4)), .val (.int (v0_5 q0 p1 q2 p3 p4)), .val (.ref b7), .val (.ref b15), .val (.ref x3_0_24), .val (.ref x4_0_28), .unset] [(.int feqI)])) t → Steps p.tables e below (s₁.setTop (entryFrame m #[(.long q0), (.int p1), (.long q2), (.int p3), (.int p4)] maxLocals)) t := by
          intro t k
          refine pre61 t ?_
          show Steps p.tables e below (T28.setTop (mkF m 152 #[.val (.long q0), .second, .val (.int p1), .val (.long q2), .second, .val (.int p3), .val (.int p4), .val (.long (v0_2 q0 p1 q2 p3 p4)), .second, .val (.int (v0_4 q0 p1 q2 p3 p4)), .val (.int (v0_5 q0 p1 q2 p3 p4)), .val (.ref b7), .val (.ref b15), .val (.ref x3_0_24), .val (.ref x4_0_28), .unset] [(.int (2 : Int32)), (.int (v0_5 q0 p1 q2 p3 p4))])) _
          refine XS.icmpNo X28.here hx rfl (hb hby at_152) rfl (XT.ii_ne_f c62) ?_
          show Steps p.tables e below (T28.setTop (mkF m 155 #[.val (.long q0), .second, .val (.int p1), .val (.long q2), .second, .val (.int p3), .val (.int p4), .val (.long (v0_2 q0 p1 q2 p3 p4)), .second, .val (.int (v0_4 q0 p1 q2 p3 p4)), .val (.int (v0_5 q0 p1 q2 p3 p4)), .val (.ref b7), .val (.ref b15), .val (.ref x3_0_24), .val (.ref x4_0_28), .unset] [])) _
          refine XS.aload X28.here hx rfl (hb hby at_155) rfl rfl ?_
          show Steps p.tables e below (T28.setTop (mkF m 157 #[.val (.long q0), .second, .val (.int p1), .val (.long q2), .second, .val (.int p3), .val (.int p4), .val (.long (v0_2 q0 p1 q2 p3 p4)), .second, .val (.int (v0_4 q0 p1 q2 p3 p4)), .val (.int (v0_5 q0 p1 q2 p3 p4)), .val (.ref b7), .val (.ref b15), .val (.ref x3_0_24), .val (.ref x4_0_28), .unset] [(.ref b7)])) _
          refine XS.aload X28.here hx rfl (hb hby at_157) rfl rfl ?_
          show Steps p.tables e below (T28.setTop (mkF m 159 #[.val (.long q0), .second, .val (.int p1), .val (.long q2), .second, .val (.int p3), .val (.int p4), .val (.long (v0_2 q0 p1 q2 p3 p4)), .second, .val (.int (v0_4 q0 p1 q2 p3 p4)), .val (.int (v0_5 q0 p1 q2 p3 p4)), .val (.ref b7), .val (.ref b15), .val (.ref x3_0_24), .val (.ref x4_0_28), .unset] [(.ref x3_0_24), (.ref b7)])) _
          refine st63.trans ?_
          exact k
        clear pre61 st63
        obtain ⟨T71, L71, X71, e71, N71, pre71⟩ : ∃ (T' : State) (L' : List Loc), Stand p l e room_1 s m #[(.long q0), (.int p1), (.long q2), (.int p3), (.int p4)] below meth c T' L' 4 6 ∧ T'.heap = T28.heap ∧ Fr n0 L' ∧ ∀ t, Steps p.tables e below (T'.setTop (mkF m 180 #[.val (.long q0), .second, .val (.int p1), .val (.long q2), .second, .val (.int p3), .val (.int p4), .val (.long (v0_2 q0 p1 q2 p3 p4)), .second, .val (.int (v0_4 q0 p1 q2 p3 p4)), .val (.int (v0_5 q0 p1 q2 p3 p4)), .val (.ref b7), .val (.ref b15), .val (.ref x3_0_24), .val (.ref x4_0_28), .unset] [(.int (v0_11 q0 p1 q2 p3 p4))])) t → Steps p.tables e below (s₁.setTop (entryFrame m #[(.long q0), (.int p1), (.long q2), (.int p3), (.int p4)] maxLocals)) t := by
          by_cases c67 : feqI = (0 : Int32)
          · skip
            obtain ⟨cq68, kq68, q68a, q68b, q68c⟩ := isOf hZ e63 k65
            obtain ⟨vr68, _, ⟨T68, L68, k68, n68⟩, -, X68, ⟨Lc68, hQ68, l68, y68, z68⟩, st68⟩ := X63.virtualBack hx (y := (⟨"com/example/vannus/vannus/Fingerprint", "equals", "(Ljava/lang/Object;)Z"⟩ : MethodName)) (z := (⟨"com/example/vannus/vannus/Fingerprint", "equals", "(Ljava/lang/Object;)Z"⟩ : MethodName)) hown (mvT hZ (hw _ (List.mem_of_getElem? (i := 28) rfl))) (mvT hZ (hw _ (List.mem_of_getElem? (i := 29) rfl))) (notFace_of_selects (args := #[]) (mvT hZ (hw _ (List.mem_of_getElem? (i := 31) rfl)))) (mvT hZ (hw _ (List.mem_of_getElem? (i := 31) rfl))) (mvT hZ (hw _ (List.mem_of_getElem? (i := 30) rfl))) (by decide) (backOf (W := 0) (rmeqL l Z a0 hw [] b7 x4_0_28 T28.heap n0 z30 po28_0) hZ (hw _ (List.mem_of_getElem? (i := 32) rfl)) (hw _ (List.mem_of_getElem? (i := 2) rfl)) (by decide) (by decide)) q68a q68c (g := (mkF m 169 #[.val (.long q0), .second, .val (.int p1), .val (.long q2), .second, .val (.int p3), .val (.int p4), .val (.long (v0_2 q0 p1 q2 p3 p4)), .second, .val (.int (v0_4 q0 p1 q2 p3 p4)), .val (.int (v0_5 q0 p1 q2 p3 p4)), .val (.ref b7), .val (.ref b15), .val (.ref x3_0_24), .val (.ref x4_0_28), .unset] [(.ref x4_0_28), (.ref b7)])) rfl (by rw [hml]; rfl) (Steps.refl _) (argsL := [(.ref x4_0_28)]) (rest := []) (lenOf pd__Ljava_lang_Object__Z rfl) rfl (by show 2 * 0 + _ ≤ _; exact Nat.le_of_eq rfl) (hb hby at_169) (fun _ _ => ⟨rfl, e63, (by decide : 4 + 0 ≤ _), (by decide : 6 + 0 ≤ _)⟩)
            dsimp only [Pt.U, Pt.locs, Pt.cells, Pt.slots] at X68 l68 y68 z68 st68 hQ68
            subst l68 y68 z68
            have N68q := (show _ ∧ _ ∧ _ from hQ68).1
            have hv68 := (show _ ∧ _ ∧ _ from hQ68).2.1
            have e68 := (show _ ∧ _ ∧ _ from hQ68).2.2
            clear hQ68
            subst hv68
            have N68 := Fr.app N63 N68q
            have pre69 : ∀ t, Steps p.tables e below (T68.setTop (mkF m 172 #[.val (.long q0), .second, .val (.int p1), .val (.long q2), .second, .val (.int p3), .val (.int p4), .val (.long (v0_2 q0 p1 q2 p3 p4)), .second, .val (.int (v0_4 q0 p1 q2 p3 p4)), .val (.int (v0_5 q0 p1 q2 p3 p4)), .val (.ref b7), .val (.ref b15), .val (.ref x3_0_24), .val (.ref x4_0_28), .unset] [(.int feqL)])) t → Steps p.tables e below (s₁.setTop (entryFrame m #[(.long q0), (.int p1), (.long q2), (.int p3), (.int p4)] maxLocals)) t := by
              intro t k
              refine pre66 t ?_
              show Steps p.tables e below (T63.setTop (mkF m 162 #[.val (.long q0), .second, .val (.int p1), .val (.long q2), .second, .val (.int p3), .val (.int p4), .val (.long (v0_2 q0 p1 q2 p3 p4)), .second, .val (.int (v0_4 q0 p1 q2 p3 p4)), .val (.int (v0_5 q0 p1 q2 p3 p4)), .val (.ref b7), .val (.ref b15), .val (.ref x3_0_24), .val (.ref x4_0_28), .unset] [(.int feqI)])) _
              refine XS.ifNo X63.here hx rfl (hb hby at_162) rfl (XT.i0_ne_f c67) ?_
              show Steps p.tables e below (T63.setTop (mkF m 165 #[.val (.long q0), .second, .val (.int p1), .val (.long q2), .second, .val (.int p3), .val (.int p4), .val (.long (v0_2 q0 p1 q2 p3 p4)), .second, .val (.int (v0_4 q0 p1 q2 p3 p4)), .val (.int (v0_5 q0 p1 q2 p3 p4)), .val (.ref b7), .val (.ref b15), .val (.ref x3_0_24), .val (.ref x4_0_28), .unset] [])) _
              refine XS.aload X63.here hx rfl (hb hby at_165) rfl rfl ?_
              show Steps p.tables e below (T63.setTop (mkF m 167 #[.val (.long q0), .second, .val (.int p1), .val (.long q2), .second, .val (.int p3), .val (.int p4), .val (.long (v0_2 q0 p1 q2 p3 p4)), .second, .val (.int (v0_4 q0 p1 q2 p3 p4)), .val (.int (v0_5 q0 p1 q2 p3 p4)), .val (.ref b7), .val (.ref b15), .val (.ref x3_0_24), .val (.ref x4_0_28), .unset] [(.ref b7)])) _
              refine XS.aload X63.here hx rfl (hb hby at_167) rfl rfl ?_
              show Steps p.tables e below (T63.setTop (mkF m 169 #[.val (.long q0), .second, .val (.int p1), .val (.long q2), .second, .val (.int p3), .val (.int p4), .val (.long (v0_2 q0 p1 q2 p3 p4)), .second, .val (.int (v0_4 q0 p1 q2 p3 p4)), .val (.int (v0_5 q0 p1 q2 p3 p4)), .val (.ref b7), .val (.ref b15), .val (.ref x3_0_24), .val (.ref x4_0_28), .unset] [(.ref x4_0_28), (.ref b7)])) _
              refine st68.trans ?_
              exact k
            clear pre66 st68
            by_cases c70 : feqL = (0 : Int32)
            · skip
              refine ⟨T68, _, X68, e68, N68, fun t k => ?_⟩
              rw [show (v0_11 q0 p1 q2 p3 p4) = (1 : Int32) from ((if_pos c67).trans (if_pos c70))] at k
              refine pre69 t ?_
              show Steps p.tables e below (T68.setTop (mkF m 172 #[.val (.long q0), .second, .val (.int p1), .val (.long q2), .second, .val (.int p3), .val (.int p4), .val (.long (v0_2 q0 p1 q2 p3 p4)), .second, .val (.int (v0_4 q0 p1 q2 p3 p4)), .val (.int (v0_5 q0 p1 q2 p3 p4)), .val (.ref b7), .val (.ref b15), .val (.ref x3_0_24), .val (.ref x4_0_28), .unset] [(.int feqL)])) _
              refine XS.ifNo X68.here hx rfl (hb hby at_172) rfl (XT.i0_ne_f c70) ?_
              show Steps p.tables e below (T68.setTop (mkF m 175 #[.val (.long q0), .second, .val (.int p1), .val (.long q2), .second, .val (.int p3), .val (.int p4), .val (.long (v0_2 q0 p1 q2 p3 p4)), .second, .val (.int (v0_4 q0 p1 q2 p3 p4)), .val (.int (v0_5 q0 p1 q2 p3 p4)), .val (.ref b7), .val (.ref b15), .val (.ref x3_0_24), .val (.ref x4_0_28), .unset] [])) _
              refine XT.iconstV X68.here hx rfl (1 : Int32) (hb hby at_175) (by decide) ?_
              show Steps p.tables e below (T68.setTop (mkF m 176 #[.val (.long q0), .second, .val (.int p1), .val (.long q2), .second, .val (.int p3), .val (.int p4), .val (.long (v0_2 q0 p1 q2 p3 p4)), .second, .val (.int (v0_4 q0 p1 q2 p3 p4)), .val (.int (v0_5 q0 p1 q2 p3 p4)), .val (.ref b7), .val (.ref b15), .val (.ref x3_0_24), .val (.ref x4_0_28), .unset] [(.int (1 : Int32))])) _
              refine XS.goto X68.here hx rfl (pc0 := 176) (pc' := 180) rfl (hb hby at_176) (by decide) (by decide) ?_
              exact k
            · skip
              refine ⟨T68, _, X68, e68, N68, fun t k => ?_⟩
              rw [show (v0_11 q0 p1 q2 p3 p4) = (0 : Int32) from ((if_pos c67).trans (if_neg c70))] at k
              refine pre69 t ?_
              show Steps p.tables e below (T68.setTop (mkF m 172 #[.val (.long q0), .second, .val (.int p1), .val (.long q2), .second, .val (.int p3), .val (.int p4), .val (.long (v0_2 q0 p1 q2 p3 p4)), .second, .val (.int (v0_4 q0 p1 q2 p3 p4)), .val (.int (v0_5 q0 p1 q2 p3 p4)), .val (.ref b7), .val (.ref b15), .val (.ref x3_0_24), .val (.ref x4_0_28), .unset] [(.int feqL)])) _
              refine XS.ifYes X68.here hx rfl (pc0 := 172) (pc' := 179) rfl (hb hby at_172) rfl (XT.i0_ne_t c70) (by decide) (by decide) ?_
              show Steps p.tables e below (T68.setTop (mkF m 179 #[.val (.long q0), .second, .val (.int p1), .val (.long q2), .second, .val (.int p3), .val (.int p4), .val (.long (v0_2 q0 p1 q2 p3 p4)), .second, .val (.int (v0_4 q0 p1 q2 p3 p4)), .val (.int (v0_5 q0 p1 q2 p3 p4)), .val (.ref b7), .val (.ref b15), .val (.ref x3_0_24), .val (.ref x4_0_28), .unset] [])) _
              refine XT.iconstV X68.here hx rfl (0 : Int32) (hb hby at_179) (by decide) ?_
              exact k
          · skip
            refine ⟨T63, _, X63, e63, N63, fun t k => ?_⟩
            rw [show (v0_11 q0 p1 q2 p3 p4) = (0 : Int32) from (if_neg c67)] at k
            refine pre66 t ?_
            show Steps p.tables e below (T63.setTop (mkF m 162 #[.val (.long q0), .second, .val (.int p1), .val (.long q2), .second, .val (.int p3), .val (.int p4), .val (.long (v0_2 q0 p1 q2 p3 p4)), .second, .val (.int (v0_4 q0 p1 q2 p3 p4)), .val (.int (v0_5 q0 p1 q2 p3 p4)), .val (.ref b7), .val (.ref b15), .val (.ref x3_0_24), .val (.ref x4_0_28), .unset] [(.int feqI)])) _
            refine XS.ifYes X63.here hx rfl (pc0 := 162) (pc' := 179) rfl (hb hby at_162) rfl (XT.i0_ne_t c67) (by decide) (by decide) ?_
            show Steps p.tables e below (T63.setTop (mkF m 179 #[.val (.long q0), .second, .val (.int p1), .val (.long q2), .second, .val (.int p3), .val (.int p4), .val (.long (v0_2 q0 p1 q2 p3 p4)), .second, .val (.int (v0_4 q0 p1 q2 p3 p4)), .val (.int (v0_5 q0 p1 q2 p3 p4)), .val (.ref b7), .val (.ref b15), .val (.ref x3_0_24), .val (.ref x4_0_28), .unset] [])) _
            refine XT.iconstV X63.here hx rfl (0 : Int32) (hb hby at_179) (by decide) ?_
            exact k
        have hv72 : (v0_11 q0 p1 q2 p3 p4) = (1 : Int32) := own_v0_11 q0 p1 q2 p3 p4 c33 c54 c62
        obtain ⟨fs, hr, hrun, hended, hW, hsame⟩ := X71.leave (v := some (.int (1 : Int32))) (fun h => by rw [Bd.returns] at h; cases h) hlk
        refine ⟨_, _, pre71 _ ?_, hrun, hended, _, _, rfl, ?_, ⟨_, rfl⟩, hW, hsame.mono (by decide) (by decide)⟩
        · skip
          show Steps p.tables e below (T71.setTop (mkF m 180 #[.val (.long q0), .second, .val (.int p1), .val (.long q2), .second, .val (.int p3), .val (.int p4), .val (.long (v0_2 q0 p1 q2 p3 p4)), .second, .val (.int (v0_4 q0 p1 q2 p3 p4)), .val (.int (v0_5 q0 p1 q2 p3 p4)), .val (.ref b7), .val (.ref b15), .val (.ref x3_0_24), .val (.ref x4_0_28), .unset] [(.int (v0_11 q0 p1 q2 p3 p4))])) _
          rw [hv72]
          exact retN X71 hx (t := .boolean) Bd.returns (by simp) (hb hby at_180) hr
        · skip
          show Q0 Z q0 p1 q2 p3 p4 w1_cache w2_cache clI clJ h0 n0 _ T71.heap _
          rw [e71]
          exact ⟨rfl, N71⟩
      · skip
        obtain ⟨T73, h73, X73, e73, E73, A73, D73, -, st73⟩ := newO X28 hx hZ hown (hw _ (List.mem_of_getElem? (i := 0) rfl)) (hw _ (List.mem_of_getElem? (i := 1) rfl)) (hw _ (List.mem_of_getElem? (i := 2) rfl)) rfl (g := (mkF m 181 #[.val (.long q0), .second, .val (.int p1), .val (.long q2), .second, .val (.int p3), .val (.int p4), .val (.long (v0_2 q0 p1 q2 p3 p4)), .second, .val (.int (v0_4 q0 p1 q2 p3 p4)), .val (.int (v0_5 q0 p1 q2 p3 p4)), .val (.ref b7), .val (.ref b15), .val (.ref x3_0_24), .val (.ref x4_0_28), .unset] [])) rfl (hb hby at_181) (by decide) (by decide)
        obtain ⟨b73, gz73⟩ : ∃ z, z = T28.heap.size := ⟨_, rfl⟩
        rw [← gz73] at A73 D73 st73
        have k74 := ((((po12_0.ext E15).keep K21).keep K24).keep K28)
        have ne75 : b7 ≠ b73 := Nat.ne_of_lt (Nat.lt_of_lt_of_le k74.lt (Nat.le_of_eq gz73.symm))
        have k76 := ((po21_0.keep K24).keep K28)
        have ne77 : b15 ≠ b73 := Nat.ne_of_lt (Nat.lt_of_lt_of_le k76.lt (Nat.le_of_eq gz73.symm))
        have k78 := (po24_0.keep K28)
        have ne79 : x3_0_24 ≠ b73 := Nat.ne_of_lt (Nat.lt_of_lt_of_le k78.lt (Nat.le_of_eq gz73.symm))
        have ne80 : x4_0_28 ≠ b73 := Nat.ne_of_lt (Nat.lt_of_lt_of_le po28_0.lt (Nat.le_of_eq gz73.symm))
        have g81 : n0 ≤ b73 := Nat.le_trans z30 (Nat.le_of_eq gz73.symm)
        have sz82 : h0.size ≤ b73 := Nat.le_trans hs31 (Nat.le_of_eq gz73.symm)
        have z83 : n0 ≤ h73.size := Nat.le_trans z30 E73.1
        have hs84 : h0.size ≤ h73.size := Nat.le_trans hs31 E73.1
        have F73_hash : Fld Z h73 b73 "com/example/vannus/vannus/Fingerprint" "hash" "J" (.long (0 : Int64)) := D73 (Or.inr (hw _ (List.mem_of_getElem? (i := 10) rfl))) (ty := .long) (by decide)
        have F73_position : Fld Z h73 b73 "com/example/vannus/vannus/Fingerprint" "position" "I" (.int (0 : Int32)) := D73 (Or.inr (hw _ (List.mem_of_getElem? (i := 12) rfl))) (ty := .int) (by decide)
        obtain ⟨vr85, _, ⟨T85, L85, k85, n85⟩, -, X85, ⟨Lc85, hQ85, l85, y85, z85⟩, st85⟩ := X73.specialBack hx (y := (⟨"com/example/vannus/vannus/Fingerprint", "<init>", "(JI)V"⟩ : MethodName)) rfl hown (mvT hZ (hw _ (List.mem_of_getElem? (i := 3) rfl))) (mvT hZ (hw _ (List.mem_of_getElem? (i := 4) rfl))) (mvT hZ (hw _ (List.mem_of_getElem? (i := 5) rfl))) (by decide) (backOf (W := 1) (rm1 l Z a0 hw [] b73 q0 p1 (.long (0 : Int64)) (.int (0 : Int32)) h73 n0 z83 A73 F73_hash g81 F73_position) hZ (hw _ (List.mem_of_getElem? (i := 5) rfl)) (hw _ (List.mem_of_getElem? (i := 2) rfl)) (by decide) (by decide)) (g := (mkF m 187 #[.val (.long q0), .second, .val (.int p1), .val (.long q2), .second, .val (.int p3), .val (.int p4), .val (.long (v0_2 q0 p1 q2 p3 p4)), .second, .val (.int (v0_4 q0 p1 q2 p3 p4)), .val (.int (v0_5 q0 p1 q2 p3 p4)), .val (.ref b7), .val (.ref b15), .val (.ref x3_0_24), .val (.ref x4_0_28), .unset] [(.int p1), (.long q0), (.ref b73), (.ref b73)])) rfl (by rw [hml]; rfl) (Steps.refl _) (a := b73) (argsL := [(.long q0), (.int p1)]) (rest := [(.ref b73)]) (lenOf pd__JI_V rfl) rfl (by show 2 * 0 + _ ≤ _; exact Nat.le_of_eq rfl) (hb hby at_187) (fun _ _ => ⟨rfl, e73, (by decide : 5 + 0 ≤ _), (by decide : 8 + 0 ≤ _)⟩)
        dsimp only [Pt.U, Pt.locs, Pt.cells, Pt.slots] at X85 l85 y85 z85 st85 hQ85
        subst l85 y85 z85
        have N85q := (show _ ∧ _ from hQ85).1
        have hq85 := (show _ ∧ _ from hQ85).2
        clear hQ85
        have hv85 := hq85.1
        have K85 := hq85.2.1
        have po85_0 := hq85.2.2.1
        have po85_1 := hq85.2.2.2.1
        have po85_2 := hq85.2.2.2.2
        clear hq85
        subst hv85
        have z86 : n0 ≤ T85.heap.size := Nat.le_trans z83 K85.1
        have hs87 : h0.size ≤ T85.heap.size := Nat.le_trans hs84 K85.1
        have N85 := Fr.app N28 N85q
        have k89 := ((k74.ext E73).keep K85)
        have k90 := ((((((po12_1.ext E15).keep K21 (ninS ne16 nin0)).keep K24 nin0).keep K28 nin0).ext E73).keep K85 (ninS ne75 nin0))
        have k91 := ((((((po12_2.ext E15).keep K21 (ninS ne16 nin0)).keep K24 nin0).keep K28 nin0).ext E73).keep K85 (ninS ne75 nin0))
        obtain ⟨cq88, kq88, q88a, q88b, q88c⟩ := isOf hZ rfl k89
        obtain ⟨vr88, _, ⟨T88, L88, k88, n88⟩, -, X88, ⟨Lc88, hQ88, l88, y88, z88⟩, st88⟩ := X85.virtualBack hx (y := (⟨"com/example/vannus/vannus/Fingerprint", "equals", "(Ljava/lang/Object;)Z"⟩ : MethodName)) (z := (⟨"com/example/vannus/vannus/Fingerprint", "equals", "(Ljava/lang/Object;)Z"⟩ : MethodName)) hown (mvT hZ (hw _ (List.mem_of_getElem? (i := 28) rfl))) (mvT hZ (hw _ (List.mem_of_getElem? (i := 29) rfl))) (notFace_of_selects (args := #[]) (mvT hZ (hw _ (List.mem_of_getElem? (i := 31) rfl)))) (mvT hZ (hw _ (List.mem_of_getElem? (i := 31) rfl))) (mvT hZ (hw _ (List.mem_of_getElem? (i := 30) rfl))) (by decide) (backOf (W := 0) (rm5 l Z a0 hw [] b7 b7 q0 q0 p1 p1 T85.heap n0 z86 k89 k90 k90 k91 k91) hZ (hw _ (List.mem_of_getElem? (i := 32) rfl)) (hw _ (List.mem_of_getElem? (i := 2) rfl)) (by decide) (by decide)) q88a q88c (g := (mkF m 196 #[.val (.long q0), .second, .val (.int p1), .val (.long q2), .second, .val (.int p3), .val (.int p4), .val (.long (v0_2 q0 p1 q2 p3 p4)), .second, .val (.int (v0_4 q0 p1 q2 p3 p4)), .val (.int (v0_5 q0 p1 q2 p3 p4)), .val (.ref b7), .val (.ref b15), .val (.ref x3_0_24), .val (.ref x4_0_28), .val (.ref b73)] [(.ref b7), (.ref b7)])) rfl (by rw [hml]; rfl) (Steps.refl _) (argsL := [(.ref b7)]) (rest := []) (lenOf pd__Ljava_lang_Object__Z rfl) rfl (by show 2 * 0 + _ ≤ _; exact Nat.le_of_eq rfl) (hb hby at_196) (fun _ _ => ⟨rfl, rfl, (by decide : 5 + 0 ≤ _), (by decide : 8 + 0 ≤ _)⟩)
        dsimp only [Pt.U, Pt.locs, Pt.cells, Pt.slots] at X88 l88 y88 z88 st88 hQ88
        subst l88 y88 z88
        have N88q := (show _ ∧ _ ∧ _ from hQ88).1
        have hv88 := (show _ ∧ _ ∧ _ from hQ88).2.1
        have e88 := (show _ ∧ _ ∧ _ from hQ88).2.2
        clear hQ88
        subst hv88
        have N88 := Fr.app N85 N88q
        have pre92 : ∀ t, Steps p.tables e below (T88.setTop (mkF m 199 #[.val (.long q0), .second, .val (.int p1), .val (.long q2), .second, .val (.int p3), .val (.int p4), .val (.long (v0_2 q0 p1 q2 p3 p4)), .second, .val (.int (v0_4 q0 p1 q2 p3 p4)), .val (.int (v0_5 q0 p1 q2 p3 p4)), .val (.ref b7), .val (.ref b15), .val (.ref x3_0_24), .val (.ref x4_0_28), .val (.ref b73)] [(.int (f5 q0 q0 p1 p1))])) t → Steps p.tables e below (s₁.setTop (entryFrame m #[(.long q0), (.int p1), (.long q2), (.int p3), (.int p4)] maxLocals)) t := by
          intro t k
          refine pre61 t ?_
          show Steps p.tables e below (T28.setTop (mkF m 152 #[.val (.long q0), .second, .val (.int p1), .val (.long q2), .second, .val (.int p3), .val (.int p4), .val (.long (v0_2 q0 p1 q2 p3 p4)), .second, .val (.int (v0_4 q0 p1 q2 p3 p4)), .val (.int (v0_5 q0 p1 q2 p3 p4)), .val (.ref b7), .val (.ref b15), .val (.ref x3_0_24), .val (.ref x4_0_28), .unset] [(.int (2 : Int32)), (.int (v0_5 q0 p1 q2 p3 p4))])) _
          refine XS.icmpYes X28.here hx rfl (pc0 := 152) (pc' := 181) rfl (hb hby at_152) rfl (XT.ii_ne_t c62) (by decide) (by decide) ?_
          show Steps p.tables e below (T28.setTop (mkF m 181 #[.val (.long q0), .second, .val (.int p1), .val (.long q2), .second, .val (.int p3), .val (.int p4), .val (.long (v0_2 q0 p1 q2 p3 p4)), .second, .val (.int (v0_4 q0 p1 q2 p3 p4)), .val (.int (v0_5 q0 p1 q2 p3 p4)), .val (.ref b7), .val (.ref b15), .val (.ref x3_0_24), .val (.ref x4_0_28), .unset] [])) _
          refine st73 _ ?_
          show Steps p.tables e below (T73.setTop (mkF m 184 #[.val (.long q0), .second, .val (.int p1), .val (.long q2), .second, .val (.int p3), .val (.int p4), .val (.long (v0_2 q0 p1 q2 p3 p4)), .second, .val (.int (v0_4 q0 p1 q2 p3 p4)), .val (.int (v0_5 q0 p1 q2 p3 p4)), .val (.ref b7), .val (.ref b15), .val (.ref x3_0_24), .val (.ref x4_0_28), .unset] [(.ref b73)])) _
          refine XS.dup X73.here hx rfl (hb hby at_184) rfl rfl ?_
          show Steps p.tables e below (T73.setTop (mkF m 185 #[.val (.long q0), .second, .val (.int p1), .val (.long q2), .second, .val (.int p3), .val (.int p4), .val (.long (v0_2 q0 p1 q2 p3 p4)), .second, .val (.int (v0_4 q0 p1 q2 p3 p4)), .val (.int (v0_5 q0 p1 q2 p3 p4)), .val (.ref b7), .val (.ref b15), .val (.ref x3_0_24), .val (.ref x4_0_28), .unset] [(.ref b73), (.ref b73)])) _
          refine XT.lloadN X73.here hx rfl (hb hby at_185) rfl ?_
          show Steps p.tables e below (T73.setTop (mkF m 186 #[.val (.long q0), .second, .val (.int p1), .val (.long q2), .second, .val (.int p3), .val (.int p4), .val (.long (v0_2 q0 p1 q2 p3 p4)), .second, .val (.int (v0_4 q0 p1 q2 p3 p4)), .val (.int (v0_5 q0 p1 q2 p3 p4)), .val (.ref b7), .val (.ref b15), .val (.ref x3_0_24), .val (.ref x4_0_28), .unset] [(.long q0), (.ref b73), (.ref b73)])) _
          refine XS.iloadN X73.here hx rfl (hb hby at_186) rfl ?_
          show Steps p.tables e below (T73.setTop (mkF m 187 #[.val (.long q0), .second, .val (.int p1), .val (.long q2), .second, .val (.int p3), .val (.int p4), .val (.long (v0_2 q0 p1 q2 p3 p4)), .second, .val (.int (v0_4 q0 p1 q2 p3 p4)), .val (.int (v0_5 q0 p1 q2 p3 p4)), .val (.ref b7), .val (.ref b15), .val (.ref x3_0_24), .val (.ref x4_0_28), .unset] [(.int p1), (.long q0), (.ref b73), (.ref b73)])) _
          refine st85.trans ?_
          show Steps p.tables e below (T85.setTop (mkF m 190 #[.val (.long q0), .second, .val (.int p1), .val (.long q2), .second, .val (.int p3), .val (.int p4), .val (.long (v0_2 q0 p1 q2 p3 p4)), .second, .val (.int (v0_4 q0 p1 q2 p3 p4)), .val (.int (v0_5 q0 p1 q2 p3 p4)), .val (.ref b7), .val (.ref b15), .val (.ref x3_0_24), .val (.ref x4_0_28), .unset] [(.ref b73)])) _
          refine XS.astore X85.here hx rfl (hb hby at_190) rfl rfl (l' := #[.val (.long q0), .second, .val (.int p1), .val (.long q2), .second, .val (.int p3), .val (.int p4), .val (.long (v0_2 q0 p1 q2 p3 p4)), .second, .val (.int (v0_4 q0 p1 q2 p3 p4)), .val (.int (v0_5 q0 p1 q2 p3 p4)), .val (.ref b7), .val (.ref b15), .val (.ref x3_0_24), .val (.ref x4_0_28), .val (.ref b73)]) rfl ?_
          show Steps p.tables e below (T85.setTop (mkF m 192 #[.val (.long q0), .second, .val (.int p1), .val (.long q2), .second, .val (.int p3), .val (.int p4), .val (.long (v0_2 q0 p1 q2 p3 p4)), .second, .val (.int (v0_4 q0 p1 q2 p3 p4)), .val (.int (v0_5 q0 p1 q2 p3 p4)), .val (.ref b7), .val (.ref b15), .val (.ref x3_0_24), .val (.ref x4_0_28), .val (.ref b73)] [])) _
          refine XS.aload X85.here hx rfl (hb hby at_192) rfl rfl ?_
          show Steps p.tables e below (T85.setTop (mkF m 194 #[.val (.long q0), .second, .val (.int p1), .val (.long q2), .second, .val (.int p3), .val (.int p4), .val (.long (v0_2 q0 p1 q2 p3 p4)), .second, .val (.int (v0_4 q0 p1 q2 p3 p4)), .val (.int (v0_5 q0 p1 q2 p3 p4)), .val (.ref b7), .val (.ref b15), .val (.ref x3_0_24), .val (.ref x4_0_28), .val (.ref b73)] [(.ref b7)])) _
          refine XS.aload X85.here hx rfl (hb hby at_194) rfl rfl ?_
          show Steps p.tables e below (T85.setTop (mkF m 196 #[.val (.long q0), .second, .val (.int p1), .val (.long q2), .second, .val (.int p3), .val (.int p4), .val (.long (v0_2 q0 p1 q2 p3 p4)), .second, .val (.int (v0_4 q0 p1 q2 p3 p4)), .val (.int (v0_5 q0 p1 q2 p3 p4)), .val (.ref b7), .val (.ref b15), .val (.ref x3_0_24), .val (.ref x4_0_28), .val (.ref b73)] [(.ref b7), (.ref b7)])) _
          refine st88.trans ?_
          exact k
        clear pre61 st73 st85 st88
        obtain ⟨T100, L100, X100, e100, N100, pre100⟩ : ∃ (T' : State) (L' : List Loc), Stand p l e room_1 s m #[(.long q0), (.int p1), (.long q2), (.int p3), (.int p4)] below meth c T' L' 5 8 ∧ T'.heap = T85.heap ∧ Fr n0 L' ∧ ∀ t, Steps p.tables e below (T'.setTop (mkF m 227 #[.val (.long q0), .second, .val (.int p1), .val (.long q2), .second, .val (.int p3), .val (.int p4), .val (.long (v0_2 q0 p1 q2 p3 p4)), .second, .val (.int (v0_4 q0 p1 q2 p3 p4)), .val (.int (v0_5 q0 p1 q2 p3 p4)), .val (.ref b7), .val (.ref b15), .val (.ref x3_0_24), .val (.ref x4_0_28), .val (.ref b73)] [(.int (v0_15 q0 p1 q2 p3 p4))])) t → Steps p.tables e below (s₁.setTop (entryFrame m #[(.long q0), (.int p1), (.long q2), (.int p3), (.int p4)] maxLocals)) t := by
          by_cases c93 : (v0_12 q0 p1 q2 p3 p4) = (0 : Int32)
          · skip
            refine ⟨T88, _, X88, e88, N88, fun t k => ?_⟩
            rw [show (v0_15 q0 p1 q2 p3 p4) = (0 : Int32) from (if_pos c93)] at k
            refine pre92 t ?_
            show Steps p.tables e below (T88.setTop (mkF m 199 #[.val (.long q0), .second, .val (.int p1), .val (.long q2), .second, .val (.int p3), .val (.int p4), .val (.long (v0_2 q0 p1 q2 p3 p4)), .second, .val (.int (v0_4 q0 p1 q2 p3 p4)), .val (.int (v0_5 q0 p1 q2 p3 p4)), .val (.ref b7), .val (.ref b15), .val (.ref x3_0_24), .val (.ref x4_0_28), .val (.ref b73)] [(.int (f5 q0 q0 p1 p1))])) _
            refine XS.ifYes X88.here hx rfl (pc0 := 199) (pc' := 226) rfl (hb hby at_199) rfl (XT.i0_eq_t c93) (by decide) (by decide) ?_
            show Steps p.tables e below (T88.setTop (mkF m 226 #[.val (.long q0), .second, .val (.int p1), .val (.long q2), .second, .val (.int p3), .val (.int p4), .val (.long (v0_2 q0 p1 q2 p3 p4)), .second, .val (.int (v0_4 q0 p1 q2 p3 p4)), .val (.int (v0_5 q0 p1 q2 p3 p4)), .val (.ref b7), .val (.ref b15), .val (.ref x3_0_24), .val (.ref x4_0_28), .val (.ref b73)] [])) _
            refine XT.iconstV X88.here hx rfl (0 : Int32) (hb hby at_226) (by decide) ?_
            exact k
          · skip
            obtain ⟨cq94, kq94, q94a, q94b, q94c⟩ := isOf hZ e88 k89
            obtain ⟨vr94, _, ⟨T94, L94, k94, n94⟩, -, X94, ⟨Lc94, hQ94, l94, y94, z94⟩, st94⟩ := X88.virtualBack hx (y := (⟨"com/example/vannus/vannus/Fingerprint", "equals", "(Ljava/lang/Object;)Z"⟩ : MethodName)) (z := (⟨"com/example/vannus/vannus/Fingerprint", "equals", "(Ljava/lang/Object;)Z"⟩ : MethodName)) hown (mvT hZ (hw _ (List.mem_of_getElem? (i := 28) rfl))) (mvT hZ (hw _ (List.mem_of_getElem? (i := 29) rfl))) (notFace_of_selects (args := #[]) (mvT hZ (hw _ (List.mem_of_getElem? (i := 31) rfl)))) (mvT hZ (hw _ (List.mem_of_getElem? (i := 31) rfl))) (mvT hZ (hw _ (List.mem_of_getElem? (i := 30) rfl))) (by decide) (backOf (W := 0) (rm5 l Z a0 hw [] b7 b73 q0 q0 p1 p1 T85.heap n0 z86 po85_0 k90 po85_1 k91 po85_2) hZ (hw _ (List.mem_of_getElem? (i := 32) rfl)) (hw _ (List.mem_of_getElem? (i := 2) rfl)) (by decide) (by decide)) q94a q94c (g := (mkF m 206 #[.val (.long q0), .second, .val (.int p1), .val (.long q2), .second, .val (.int p3), .val (.int p4), .val (.long (v0_2 q0 p1 q2 p3 p4)), .second, .val (.int (v0_4 q0 p1 q2 p3 p4)), .val (.int (v0_5 q0 p1 q2 p3 p4)), .val (.ref b7), .val (.ref b15), .val (.ref x3_0_24), .val (.ref x4_0_28), .val (.ref b73)] [(.ref b73), (.ref b7)])) rfl (by rw [hml]; rfl) (Steps.refl _) (argsL := [(.ref b73)]) (rest := []) (lenOf pd__Ljava_lang_Object__Z rfl) rfl (by show 2 * 0 + _ ≤ _; exact Nat.le_of_eq rfl) (hb hby at_206) (fun _ _ => ⟨rfl, e88, (by decide : 5 + 0 ≤ _), (by decide : 8 + 0 ≤ _)⟩)
            dsimp only [Pt.U, Pt.locs, Pt.cells, Pt.slots] at X94 l94 y94 z94 st94 hQ94
            subst l94 y94 z94
            have N94q := (show _ ∧ _ ∧ _ from hQ94).1
            have hv94 := (show _ ∧ _ ∧ _ from hQ94).2.1
            have e94 := (show _ ∧ _ ∧ _ from hQ94).2.2
            clear hQ94
            subst hv94
            have N94 := Fr.app N88 N94q
            have pre95 : ∀ t, Steps p.tables e below (T94.setTop (mkF m 209 #[.val (.long q0), .second, .val (.int p1), .val (.long q2), .second, .val (.int p3), .val (.int p4), .val (.long (v0_2 q0 p1 q2 p3 p4)), .second, .val (.int (v0_4 q0 p1 q2 p3 p4)), .val (.int (v0_5 q0 p1 q2 p3 p4)), .val (.ref b7), .val (.ref b15), .val (.ref x3_0_24), .val (.ref x4_0_28), .val (.ref b73)] [(.int (f5 q0 q0 p1 p1))])) t → Steps p.tables e below (s₁.setTop (entryFrame m #[(.long q0), (.int p1), (.long q2), (.int p3), (.int p4)] maxLocals)) t := by
              intro t k
              refine pre92 t ?_
              show Steps p.tables e below (T88.setTop (mkF m 199 #[.val (.long q0), .second, .val (.int p1), .val (.long q2), .second, .val (.int p3), .val (.int p4), .val (.long (v0_2 q0 p1 q2 p3 p4)), .second, .val (.int (v0_4 q0 p1 q2 p3 p4)), .val (.int (v0_5 q0 p1 q2 p3 p4)), .val (.ref b7), .val (.ref b15), .val (.ref x3_0_24), .val (.ref x4_0_28), .val (.ref b73)] [(.int (f5 q0 q0 p1 p1))])) _
              refine XS.ifNo X88.here hx rfl (hb hby at_199) rfl (XT.i0_eq_f c93) ?_
              show Steps p.tables e below (T88.setTop (mkF m 202 #[.val (.long q0), .second, .val (.int p1), .val (.long q2), .second, .val (.int p3), .val (.int p4), .val (.long (v0_2 q0 p1 q2 p3 p4)), .second, .val (.int (v0_4 q0 p1 q2 p3 p4)), .val (.int (v0_5 q0 p1 q2 p3 p4)), .val (.ref b7), .val (.ref b15), .val (.ref x3_0_24), .val (.ref x4_0_28), .val (.ref b73)] [])) _
              refine XS.aload X88.here hx rfl (hb hby at_202) rfl rfl ?_
              show Steps p.tables e below (T88.setTop (mkF m 204 #[.val (.long q0), .second, .val (.int p1), .val (.long q2), .second, .val (.int p3), .val (.int p4), .val (.long (v0_2 q0 p1 q2 p3 p4)), .second, .val (.int (v0_4 q0 p1 q2 p3 p4)), .val (.int (v0_5 q0 p1 q2 p3 p4)), .val (.ref b7), .val (.ref b15), .val (.ref x3_0_24), .val (.ref x4_0_28), .val (.ref b73)] [(.ref b7)])) _
              refine XS.aload X88.here hx rfl (hb hby at_204) rfl rfl ?_
              show Steps p.tables e below (T88.setTop (mkF m 206 #[.val (.long q0), .second, .val (.int p1), .val (.long q2), .second, .val (.int p3), .val (.int p4), .val (.long (v0_2 q0 p1 q2 p3 p4)), .second, .val (.int (v0_4 q0 p1 q2 p3 p4)), .val (.int (v0_5 q0 p1 q2 p3 p4)), .val (.ref b7), .val (.ref b15), .val (.ref x3_0_24), .val (.ref x4_0_28), .val (.ref b73)] [(.ref b73), (.ref b7)])) _
              refine st94.trans ?_
              exact k
            clear pre92 st94
            by_cases c96 : (v0_13 q0 p1 q2 p3 p4) = (0 : Int32)
            · skip
              refine ⟨T94, _, X94, e94, N94, fun t k => ?_⟩
              rw [show (v0_15 q0 p1 q2 p3 p4) = (0 : Int32) from ((if_neg c93).trans (if_pos c96))] at k
              refine pre95 t ?_
              show Steps p.tables e below (T94.setTop (mkF m 209 #[.val (.long q0), .second, .val (.int p1), .val (.long q2), .second, .val (.int p3), .val (.int p4), .val (.long (v0_2 q0 p1 q2 p3 p4)), .second, .val (.int (v0_4 q0 p1 q2 p3 p4)), .val (.int (v0_5 q0 p1 q2 p3 p4)), .val (.ref b7), .val (.ref b15), .val (.ref x3_0_24), .val (.ref x4_0_28), .val (.ref b73)] [(.int (f5 q0 q0 p1 p1))])) _
              refine XS.ifYes X94.here hx rfl (pc0 := 209) (pc' := 226) rfl (hb hby at_209) rfl (XT.i0_eq_t c96) (by decide) (by decide) ?_
              show Steps p.tables e below (T94.setTop (mkF m 226 #[.val (.long q0), .second, .val (.int p1), .val (.long q2), .second, .val (.int p3), .val (.int p4), .val (.long (v0_2 q0 p1 q2 p3 p4)), .second, .val (.int (v0_4 q0 p1 q2 p3 p4)), .val (.int (v0_5 q0 p1 q2 p3 p4)), .val (.ref b7), .val (.ref b15), .val (.ref x3_0_24), .val (.ref x4_0_28), .val (.ref b73)] [])) _
              refine XT.iconstV X94.here hx rfl (0 : Int32) (hb hby at_226) (by decide) ?_
              exact k
            · skip
              obtain ⟨cq97, kq97, q97a, q97b, q97c⟩ := isOf hZ e94 po85_0
              obtain ⟨vr97, _, ⟨T97, L97, k97, n97⟩, -, X97, ⟨Lc97, hQ97, l97, y97, z97⟩, st97⟩ := X94.virtualBack hx (y := (⟨"com/example/vannus/vannus/Fingerprint", "equals", "(Ljava/lang/Object;)Z"⟩ : MethodName)) (z := (⟨"com/example/vannus/vannus/Fingerprint", "equals", "(Ljava/lang/Object;)Z"⟩ : MethodName)) hown (mvT hZ (hw _ (List.mem_of_getElem? (i := 28) rfl))) (mvT hZ (hw _ (List.mem_of_getElem? (i := 29) rfl))) (notFace_of_selects (args := #[]) (mvT hZ (hw _ (List.mem_of_getElem? (i := 31) rfl)))) (mvT hZ (hw _ (List.mem_of_getElem? (i := 31) rfl))) (mvT hZ (hw _ (List.mem_of_getElem? (i := 30) rfl))) (by decide) (backOf (W := 0) (rm5 l Z a0 hw [] b73 b7 q0 q0 p1 p1 T85.heap n0 z86 k89 po85_1 k90 po85_2 k91) hZ (hw _ (List.mem_of_getElem? (i := 32) rfl)) (hw _ (List.mem_of_getElem? (i := 2) rfl)) (by decide) (by decide)) q97a q97c (g := (mkF m 216 #[.val (.long q0), .second, .val (.int p1), .val (.long q2), .second, .val (.int p3), .val (.int p4), .val (.long (v0_2 q0 p1 q2 p3 p4)), .second, .val (.int (v0_4 q0 p1 q2 p3 p4)), .val (.int (v0_5 q0 p1 q2 p3 p4)), .val (.ref b7), .val (.ref b15), .val (.ref x3_0_24), .val (.ref x4_0_28), .val (.ref b73)] [(.ref b7), (.ref b73)])) rfl (by rw [hml]; rfl) (Steps.refl _) (argsL := [(.ref b7)]) (rest := []) (lenOf pd__Ljava_lang_Object__Z rfl) rfl (by show 2 * 0 + _ ≤ _; exact Nat.le_of_eq rfl) (hb hby at_216) (fun _ _ => ⟨rfl, e94, (by decide : 5 + 0 ≤ _), (by decide : 8 + 0 ≤ _)⟩)
              dsimp only [Pt.U, Pt.locs, Pt.cells, Pt.slots] at X97 l97 y97 z97 st97 hQ97
              subst l97 y97 z97
              have N97q := (show _ ∧ _ ∧ _ from hQ97).1
              have hv97 := (show _ ∧ _ ∧ _ from hQ97).2.1
              have e97 := (show _ ∧ _ ∧ _ from hQ97).2.2
              clear hQ97
              subst hv97
              have N97 := Fr.app N94 N97q
              have pre98 : ∀ t, Steps p.tables e below (T97.setTop (mkF m 219 #[.val (.long q0), .second, .val (.int p1), .val (.long q2), .second, .val (.int p3), .val (.int p4), .val (.long (v0_2 q0 p1 q2 p3 p4)), .second, .val (.int (v0_4 q0 p1 q2 p3 p4)), .val (.int (v0_5 q0 p1 q2 p3 p4)), .val (.ref b7), .val (.ref b15), .val (.ref x3_0_24), .val (.ref x4_0_28), .val (.ref b73)] [(.int (f5 q0 q0 p1 p1))])) t → Steps p.tables e below (s₁.setTop (entryFrame m #[(.long q0), (.int p1), (.long q2), (.int p3), (.int p4)] maxLocals)) t := by
                intro t k
                refine pre95 t ?_
                show Steps p.tables e below (T94.setTop (mkF m 209 #[.val (.long q0), .second, .val (.int p1), .val (.long q2), .second, .val (.int p3), .val (.int p4), .val (.long (v0_2 q0 p1 q2 p3 p4)), .second, .val (.int (v0_4 q0 p1 q2 p3 p4)), .val (.int (v0_5 q0 p1 q2 p3 p4)), .val (.ref b7), .val (.ref b15), .val (.ref x3_0_24), .val (.ref x4_0_28), .val (.ref b73)] [(.int (f5 q0 q0 p1 p1))])) _
                refine XS.ifNo X94.here hx rfl (hb hby at_209) rfl (XT.i0_eq_f c96) ?_
                show Steps p.tables e below (T94.setTop (mkF m 212 #[.val (.long q0), .second, .val (.int p1), .val (.long q2), .second, .val (.int p3), .val (.int p4), .val (.long (v0_2 q0 p1 q2 p3 p4)), .second, .val (.int (v0_4 q0 p1 q2 p3 p4)), .val (.int (v0_5 q0 p1 q2 p3 p4)), .val (.ref b7), .val (.ref b15), .val (.ref x3_0_24), .val (.ref x4_0_28), .val (.ref b73)] [])) _
                refine XS.aload X94.here hx rfl (hb hby at_212) rfl rfl ?_
                show Steps p.tables e below (T94.setTop (mkF m 214 #[.val (.long q0), .second, .val (.int p1), .val (.long q2), .second, .val (.int p3), .val (.int p4), .val (.long (v0_2 q0 p1 q2 p3 p4)), .second, .val (.int (v0_4 q0 p1 q2 p3 p4)), .val (.int (v0_5 q0 p1 q2 p3 p4)), .val (.ref b7), .val (.ref b15), .val (.ref x3_0_24), .val (.ref x4_0_28), .val (.ref b73)] [(.ref b73)])) _
                refine XS.aload X94.here hx rfl (hb hby at_214) rfl rfl ?_
                show Steps p.tables e below (T94.setTop (mkF m 216 #[.val (.long q0), .second, .val (.int p1), .val (.long q2), .second, .val (.int p3), .val (.int p4), .val (.long (v0_2 q0 p1 q2 p3 p4)), .second, .val (.int (v0_4 q0 p1 q2 p3 p4)), .val (.int (v0_5 q0 p1 q2 p3 p4)), .val (.ref b7), .val (.ref b15), .val (.ref x3_0_24), .val (.ref x4_0_28), .val (.ref b73)] [(.ref b7), (.ref b73)])) _
                refine st97.trans ?_
                exact k
              clear pre95 st97
              by_cases c99 : (v0_14 q0 p1 q2 p3 p4) = (0 : Int32)
              · skip
                refine ⟨T97, _, X97, e97, N97, fun t k => ?_⟩
                rw [show (v0_15 q0 p1 q2 p3 p4) = (0 : Int32) from (((if_neg c93).trans (if_neg c96)).trans (if_pos c99))] at k
                refine pre98 t ?_
                show Steps p.tables e below (T97.setTop (mkF m 219 #[.val (.long q0), .second, .val (.int p1), .val (.long q2), .second, .val (.int p3), .val (.int p4), .val (.long (v0_2 q0 p1 q2 p3 p4)), .second, .val (.int (v0_4 q0 p1 q2 p3 p4)), .val (.int (v0_5 q0 p1 q2 p3 p4)), .val (.ref b7), .val (.ref b15), .val (.ref x3_0_24), .val (.ref x4_0_28), .val (.ref b73)] [(.int (f5 q0 q0 p1 p1))])) _
                refine XS.ifYes X97.here hx rfl (pc0 := 219) (pc' := 226) rfl (hb hby at_219) rfl (XT.i0_eq_t c99) (by decide) (by decide) ?_
                show Steps p.tables e below (T97.setTop (mkF m 226 #[.val (.long q0), .second, .val (.int p1), .val (.long q2), .second, .val (.int p3), .val (.int p4), .val (.long (v0_2 q0 p1 q2 p3 p4)), .second, .val (.int (v0_4 q0 p1 q2 p3 p4)), .val (.int (v0_5 q0 p1 q2 p3 p4)), .val (.ref b7), .val (.ref b15), .val (.ref x3_0_24), .val (.ref x4_0_28), .val (.ref b73)] [])) _
                refine XT.iconstV X97.here hx rfl (0 : Int32) (hb hby at_226) (by decide) ?_
                exact k
              · skip
                refine ⟨T97, _, X97, e97, N97, fun t k => ?_⟩
                rw [show (v0_15 q0 p1 q2 p3 p4) = (1 : Int32) from (((if_neg c93).trans (if_neg c96)).trans (if_neg c99))] at k
                refine pre98 t ?_
                show Steps p.tables e below (T97.setTop (mkF m 219 #[.val (.long q0), .second, .val (.int p1), .val (.long q2), .second, .val (.int p3), .val (.int p4), .val (.long (v0_2 q0 p1 q2 p3 p4)), .second, .val (.int (v0_4 q0 p1 q2 p3 p4)), .val (.int (v0_5 q0 p1 q2 p3 p4)), .val (.ref b7), .val (.ref b15), .val (.ref x3_0_24), .val (.ref x4_0_28), .val (.ref b73)] [(.int (f5 q0 q0 p1 p1))])) _
                refine XS.ifNo X97.here hx rfl (hb hby at_219) rfl (XT.i0_eq_f c99) ?_
                show Steps p.tables e below (T97.setTop (mkF m 222 #[.val (.long q0), .second, .val (.int p1), .val (.long q2), .second, .val (.int p3), .val (.int p4), .val (.long (v0_2 q0 p1 q2 p3 p4)), .second, .val (.int (v0_4 q0 p1 q2 p3 p4)), .val (.int (v0_5 q0 p1 q2 p3 p4)), .val (.ref b7), .val (.ref b15), .val (.ref x3_0_24), .val (.ref x4_0_28), .val (.ref b73)] [])) _
                refine XT.iconstV X97.here hx rfl (1 : Int32) (hb hby at_222) (by decide) ?_
                show Steps p.tables e below (T97.setTop (mkF m 223 #[.val (.long q0), .second, .val (.int p1), .val (.long q2), .second, .val (.int p3), .val (.int p4), .val (.long (v0_2 q0 p1 q2 p3 p4)), .second, .val (.int (v0_4 q0 p1 q2 p3 p4)), .val (.int (v0_5 q0 p1 q2 p3 p4)), .val (.ref b7), .val (.ref b15), .val (.ref x3_0_24), .val (.ref x4_0_28), .val (.ref b73)] [(.int (1 : Int32))])) _
                refine XS.goto X97.here hx rfl (pc0 := 223) (pc' := 227) rfl (hb hby at_223) (by decide) (by decide) ?_
                exact k
        have hv101 : (v0_15 q0 p1 q2 p3 p4) = (1 : Int32) := own_v0_15 q0 p1 q2 p3 p4 c33 c54 c62
        obtain ⟨fs, hr, hrun, hended, hW, hsame⟩ := X100.leave (v := some (.int (1 : Int32))) (fun h => by rw [Bd.returns] at h; cases h) hlk
        refine ⟨_, _, pre100 _ ?_, hrun, hended, _, _, rfl, ?_, ⟨_, rfl⟩, hW, hsame.mono (by decide) (by decide)⟩
        · skip
          show Steps p.tables e below (T100.setTop (mkF m 227 #[.val (.long q0), .second, .val (.int p1), .val (.long q2), .second, .val (.int p3), .val (.int p4), .val (.long (v0_2 q0 p1 q2 p3 p4)), .second, .val (.int (v0_4 q0 p1 q2 p3 p4)), .val (.int (v0_5 q0 p1 q2 p3 p4)), .val (.ref b7), .val (.ref b15), .val (.ref x3_0_24), .val (.ref x4_0_28), .val (.ref b73)] [(.int (v0_15 q0 p1 q2 p3 p4))])) _
          rw [hv101]
          exact retN X100 hx (t := .boolean) Bd.returns (by simp) (hb hby at_227) hr
        · skip
          show Q0 Z q0 p1 q2 p3 p4 w1_cache w2_cache clI clJ h0 n0 _ T100.heap _
          rw [e100]
          exact ⟨rfl, N100⟩
set_option maxRecDepth 65536 in
set_option maxHeartbeats 40000000 in
theorem comes_1 {Post : Tables → Env → Array Value → State → Outcome → State → Prop} (hpost : ∀ tb e args s v u, (limb_1_1.after args s (.returned v) u = true ∧ limb_1_2.after args s (.returned v) u = true ∧ True) → FrameEnd s (.returned v) u (Jvm.fieldLocs frame_1_writes args s ++ Jvm.arrayLocs frame_1_arrays args s ++ Jvm.staticLocs frame_1_statics s) 24 128 → Post tb e args s (.returned v) u) :
    ArmFor flags0 classFile x code maxLocals ret World_1 tables_1 room_1 Calls_1 rest_1 Pre_1 Post := by
  intro l hfl _ _ p e ha hc hk s m args below hf hA hF happ hP
  obtain ⟨hcalls, hrest, hpre⟩ := hP
  obtain ⟨-, -, -, hnamed, -, -, -, hat⟩ := (Spec.applies_iff hf).mp happ
  obtain ⟨hg, hn⟩ := and_e (Cond.before_iff.mp (show (Jvm.Cond.and given_1 narrow_1).before args s = true from hpre))
  obtain ⟨hcount, r0⟩ := and_e hg
  obtain ⟨ha0, r1⟩ := and_e r0
  obtain ⟨ha1, r2⟩ := and_e r1
  obtain ⟨ha2, r3⟩ := and_e r2
  obtain ⟨ha3, r4⟩ := and_e r3
  obtain ⟨w0, w1, w2, w3, w4, rfl⟩ : ∃ w0 w1 w2 w3 w4 : Value, args = #[w0, w1, w2, w3, w4] := by
    have hs : args.size = 5 := by simpa [Cond.value, given_1] using hcount
    obtain ⟨L⟩ := args
    match L, hs with
    | [w0, w1, w2, w3, w4], _ => exact ⟨w0, w1, w2, w3, w4, rfl⟩
  have hw := fun d (hd : d ∈ tables_1) => atoms_spec (ws := Jvm.Cond.code x code maxLocals ret :: tables_1) hat d (List.mem_cons_of_mem _ hd)
  have hfit : Fit s := fun {y c} hc i hi => by
    obtain ⟨ha, rfl⟩ := Array.getElem?_eq_some_iff.mp hc
    have q := List.all_eq_true.mp ((Array.all_eq_true_iff_forall_mem.mp hF) _ (Array.getElem_mem ha)) i (List.mem_range.mpr hi)
    simpa [Array.getElem?_eq_getElem hi] using q
  obtain ⟨i0, ei0⟩ := isL_v ha0
  obtain rfl : w0 = (.long i0) := Option.some.inj ei0
  obtain ⟨i1, ei1⟩ := is_v ha1
  obtain rfl : w1 = (.int i1) := Option.some.inj ei1
  obtain ⟨i2, ei2⟩ := isL_v ha2
  obtain rfl : w2 = (.long i2) := Option.some.inj ei2
  obtain ⟨i3, ei3⟩ := is_v ha3
  obtain rfl : w3 = (.int i3) := Option.some.inj ei3
  obtain ⟨i4, ei4⟩ := is_v r4
  obtain rfl : w4 = (.int i4) := Option.some.inj ei4
  obtain ⟨hsets, hown0⟩ := atoms_of _ (rest_1_c_eq ▸ (show rest_1_c.before _ s = true from hrest))
  have eH := Jvm.Free.NT.SwA.eq_int (hsets _ (List.mem_of_getElem? (i := 3) rfl))
  have SH := Sta.start eH (Or.inl (hsets _ (List.mem_of_getElem? (i := 1) rfl)))
  obtain ⟨aI, eI⟩ := arr_v (Cond.before_iff.mp (hsets _ (List.mem_of_getElem? (i := 4) rfl)))
  obtain ⟨clI, AI⟩ := Arr.start eI (Cond.before_iff.mp (hsets _ (List.mem_of_getElem? (i := 4) rfl)))
  have SI := Sta.start eI (Or.inr ⟨hw _ (List.mem_of_getElem? (i := 18) rfl), (hsets _ (List.mem_of_getElem? (i := 2) rfl))⟩)
  have lI := own_len (Jvm.Free.NT.SwA.eq_int (hsets _ (List.mem_of_getElem? (i := 6) rfl))) eI AI.1
  have BI : Bxs s aI clI "java/lang/Integer" "I" (256 : Int32) (fun j => .int (j - 128)) := Bxs.start (fun _ => eI) AI lI.2 lI.1 (by decide) (Cond.before_iff.mp (hsets _ (List.mem_of_getElem? (i := 7) rfl))) (fun X j nn h => eqv_i (own_sub (idx_at nn)) h)
  obtain ⟨aJ, eJ⟩ := arr_v (Cond.before_iff.mp (hsets _ (List.mem_of_getElem? (i := 10) rfl)))
  obtain ⟨clJ, AJ⟩ := Arr.start eJ (Cond.before_iff.mp (hsets _ (List.mem_of_getElem? (i := 10) rfl)))
  have SJ := Sta.start eJ (Or.inl (hsets _ (List.mem_of_getElem? (i := 9) rfl)))
  have lJ := own_len (Jvm.Free.NT.SwA.eq_int (hsets _ (List.mem_of_getElem? (i := 12) rfl))) eJ AJ.1
  have BJ : Bxs s aJ clJ "java/lang/Long" "J" (256 : Int32) (fun j => .long (j - 128).toInt64) := Bxs.start (fun _ => eJ) AJ lJ.2 lJ.1 (by decide) (Cond.before_iff.mp (hsets _ (List.mem_of_getElem? (i := 13) rfl))) (fun X j nn h => eqv_l (i2l_at (own_sub (idx_at nn))) h)
  obtain ⟨n, o, h1, h2, h3, _, L, rfl, ⟨rfl, N⟩, hq⟩ := rm0 l s _ hw tables_1 i0 i1 i2 i3 i4 aI aJ clI clJ s.heap s.heap.size (Nat.le_refl _) (Old.start s) SH SI SJ BI BJ p e ha hc hk s m _ below hf ((Spec.applies_iff_loose hf).mp happ).1 ⟨rfl, State.Warmed39.refl s, rfl⟩ trivial
  refine ⟨n, _, h1, h2, h3, hpost _ _ _ _ _ _ ⟨Cond.after_iff.mpr rfl, Cond.after_iff.mpr (eq_i res_at (Term.int_eval (1)) rfl), trivial⟩ ⟨hq.1, hq.2.1, (hq.2.2.sift fun y hy => Or.inr (N y hy)).mono (by decide) (by decide)⟩⟩
theorem main_1_1 : Claimed_1_1 := comes_1 fun _ _ _ _ _ _ h hF => ⟨h.1, hF⟩
theorem main_1_2 : Claimed_1_2 := comes_1 fun _ _ _ _ _ _ h hF => ⟨h.2.1, hF⟩
end Jvm.Pilot.@@N@@
namespace Jvm.Pilot.@@N@@
open Jvm Jvm.ClassFile Sem Op Lib Jvm.Free Jvm.Stand Jvm.Pilot.@@N@@.Jvm.D
/-! MADE BY PROGRAM (witnessworld.py) out of the Statement's table words and the real class files: 19 classes; the members and pool entries that the words name. The judged class is class 1, her method 1. -/
namespace start1
open Jvm.ClassFile
def u (s : String) : CpInfo := .utf8 (stringToUtf16 s)
/-- a pool by its gaps: so many unusable entries, then the entry; so many at the end -/
def gap : Nat → List CpInfo → List CpInfo
  | 0, r => r
  | n + 1, r => .unusable :: gap n r
def poolList (es : List (Nat × CpInfo)) (last : Nat) : List CpInfo := es.foldr (fun e r => gap e.1 (e.2 :: r)) (gap last [])
def pool (es : List (Nat × CpInfo)) (last : Nat) : Array CpInfo := ⟨poolList es last⟩
def fileOf (pool : Array CpInfo) (this : Nat) (attrs : Array Attribute := #[]) (ms : Array MethodInfo := #[]) (fl : Nat := 33) (sup : Nat := 0) (ifs : Array Nat := #[]) (fds : Array FieldInfo := #[]) : ClassFile where
  minorVersion := 0
  majorVersion := 65
  constantPool := pool
  accessFlags := fl
  thisClass := this
  superClass := sup
  interfaces := ifs
  fields := fds
  methods := ms
  attributes := attrs
def plain (name : String) (sup : Option ClassId) : Class where
  name := name
  kind := .ordinary
  loader := none
  accessFlags := 33
  super := sup
  interfaces := #[]
  cf := none
  fields := #[]
  methods := #[]
  instanceTypes := #[]
  staticTypes := #[]
  resolved := #[]
  callSites := []
  init := .initialized
  statics := none
  mirror := none

def pool0 : Array CpInfo := pool [(5, u "<init>"), (0, u "()V"), (1, .class_ 10), (1, u "java/lang/Object")] 113

def k0c0 : Code := { maxStack := 0, maxLocals := 1, code := object_method_1_code, exceptionTable := #[], attributes := #[] }
def k0m0 : Method := { name := "<init>", desc := "()V", sig := { parameters := [], returnType := none }, accessFlags := 1, code := some k0c0 }
/-- java/lang/Object -/
def k0 : Class := { plain "java/lang/Object" none with
  accessFlags := 33
  interfaces := #[]
  cf := some (fileOf pool0 8 #[] #[{ accessFlags := 1, nameIndex := 5, descriptorIndex := 6, attributes := #[] }] 33 0 #[] #[])
  fields := #[]
  methods := #[k0m0]
  instanceTypes := #[]
  staticTypes := #[]
  resolved := Array.replicate 124 none
  statics := none }

def pool1 : Array CpInfo := pool [(2, .class_ 4), (1, u "java/lang/Object"), (0, u "<init>"), (0, u "()V"), (0, .class_ 8), (0, u "com/example/vannus/vannus/Fingerprint"), (0, .methodref 7 10), (0, .nameAndType 5 11), (0, u "(JI)V"), (0, .methodref 13 14), (0, .class_ 15), (0, .nameAndType 16 17), (0, u "java/lang/Integer"), (0, u "valueOf"), (0, u "(I)Ljava/lang/Integer;"), (0, .methodref 19 20), (0, .class_ 21), (0, .nameAndType 16 22), (0, u "java/lang/Long"), (0, u "(J)Ljava/lang/Long;"), (0, .methodref 7 24), (0, .nameAndType 25 26), (0, u "equals"), (0, u "(Ljava/lang/Object;)Z"), (0, .class_ 28), (0, u "com/example/vannus/vannus/FingerprintEqualsPinLaw"), (2, u "law"), (0, u "(JIJII)Z")] 3

def k1m0 : Method := { name := "<init>", desc := "()V", sig := { parameters := [], returnType := none }, accessFlags := 1, code := none }
def k1c1 : Code := { maxStack := 5, maxLocals := 16, code := code, exceptionTable := #[], attributes := #[] }
def k1m1 : Method := { name := "law", desc := "(JIJII)Z", sig := { parameters := [.long, .int, .long, .int, .int], returnType := some .boolean }, accessFlags := 9, code := some k1c1 }
/-- com/example/vannus/vannus/FingerprintEqualsPinLaw -/
def k1 : Class := { plain "com/example/vannus/vannus/FingerprintEqualsPinLaw" (some 0) with
  accessFlags := 49
  interfaces := #[]
  cf := some (fileOf pool1 27 #[] #[{ accessFlags := 1, nameIndex := 5, descriptorIndex := 6, attributes := #[] }, { accessFlags := 9, nameIndex := 31, descriptorIndex := 32, attributes := #[] }] 49 2 #[] #[])
  fields := #[]
  methods := #[k1m0, k1m1]
  instanceTypes := #[]
  staticTypes := #[]
  resolved := Array.replicate 36 none
  statics := none }

def pool2 : Array CpInfo := pool [(1, .methodref 2 3), (0, .class_ 4), (0, .nameAndType 5 6), (0, u "java/lang/Object"), (0, u "<init>"), (0, u "()V"), (0, .fieldref 8 9), (0, .class_ 10), (0, .nameAndType 11 12), (0, u "com/example/vannus/vannus/Fingerprint"), (0, u "hash"), (0, u "J"), (0, .fieldref 8 14), (0, .nameAndType 15 16), (0, u "position"), (0, u "I"), (23, u "(JI)V"), (4, u "equals"), (0, u "(Ljava/lang/Object;)Z")] 5

def k2c0 : Code := { maxStack := 3, maxLocals := 4, code := prog_6_method_1_code, exceptionTable := #[], attributes := #[] }
def k2m0 : Method := { name := "<init>", desc := "(JI)V", sig := { parameters := [.long, .int], returnType := none }, accessFlags := 1, code := some k2c0 }
def k2c1 : Code := { maxStack := 4, maxLocals := 3, code := prog_6_method_4_code, exceptionTable := #[], attributes := #[] }
def k2m1 : Method := { name := "equals", desc := "(Ljava/lang/Object;)Z", sig := { parameters := [(.object "java/lang/Object")], returnType := some .boolean }, accessFlags := 1, code := some k2c1 }
/-- com/example/vannus/vannus/Fingerprint -/
def k2 : Class := { plain "com/example/vannus/vannus/Fingerprint" (some 0) with
  accessFlags := 49
  interfaces := #[]
  cf := some (fileOf pool2 8 #[] #[{ accessFlags := 1, nameIndex := 5, descriptorIndex := 40, attributes := #[] }, { accessFlags := 1, nameIndex := 45, descriptorIndex := 46, attributes := #[] }] 49 2 #[] #[{ accessFlags := 18, nameIndex := 11, descriptorIndex := 12, attributes := #[] }, { accessFlags := 18, nameIndex := 15, descriptorIndex := 16, attributes := #[] }])
  fields := #[{ name := "hash", type := .long, accessFlags := 18, slot := 0, constantValue := 0 }, { name := "position", type := .int, accessFlags := 18, slot := 1, constantValue := 0 }]
  methods := #[k2m0, k2m1]
  instanceTypes := #[.long, .int]
  staticTypes := #[]
  resolved := Array.replicate 52 none
  statics := none }

def pool3 : Array CpInfo := pool [(1, .class_ 2), (0, u "java/io/Serializable"), (0, .class_ 4), (0, u "java/lang/Object")] 2

/-- java/io/Serializable -/
def k3 : Class := { plain "java/io/Serializable" (some 0) with
  accessFlags := 1537
  interfaces := #[]
  cf := some (fileOf pool3 1 #[] #[] 1537 3 #[] #[])
  fields := #[]
  methods := #[]
  instanceTypes := #[]
  staticTypes := #[]
  resolved := Array.replicate 7 none
  statics := none }

def pool4 : Array CpInfo := pool [(1, .methodref 2 3), (0, .class_ 4), (0, .nameAndType 5 6), (0, u "java/lang/Object"), (0, u "<init>"), (0, u "()V"), (1, .class_ 10), (1, u "java/lang/Number"), (2, .class_ 14), (0, u "java/io/Serializable"), (0, u "serialVersionUID"), (0, u "J")] 20

def k4c0 : Code := { maxStack := 1, maxLocals := 1, code := jdk_18_method_1_code, exceptionTable := #[], attributes := #[] }
def k4m0 : Method := { name := "<init>", desc := "()V", sig := { parameters := [], returnType := none }, accessFlags := 1, code := some k4c0 }
/-- java/lang/Number -/
def k4 : Class := { plain "java/lang/Number" (some 0) with
  accessFlags := 1057
  interfaces := #[3]
  cf := some (fileOf pool4 8 #[] #[{ accessFlags := 1, nameIndex := 5, descriptorIndex := 6, attributes := #[] }] 1057 2 #[13] #[{ accessFlags := 26, nameIndex := 15, descriptorIndex := 16, attributes := #[] }])
  fields := #[{ name := "serialVersionUID", type := .long, accessFlags := 26, slot := 0, constantValue := 0 }]
  methods := #[k4m0]
  instanceTypes := #[]
  staticTypes := #[.long]
  resolved := Array.replicate 37 none
  statics := none }

def pool5 : Array CpInfo := pool [(1, .class_ 2), (0, u "java/lang/Comparable"), (0, .class_ 4), (0, u "java/lang/Object")] 7

/-- java/lang/Comparable -/
def k5 : Class := { plain "java/lang/Comparable" (some 0) with
  accessFlags := 1537
  interfaces := #[]
  cf := some (fileOf pool5 1 #[] #[] 1537 3 #[] #[])
  fields := #[]
  methods := #[]
  instanceTypes := #[]
  staticTypes := #[]
  resolved := Array.replicate 12 none
  statics := none }

def pool6 : Array CpInfo := pool [(1, .class_ 2), (0, u "java/lang/constant/Constable"), (0, .class_ 4), (0, u "java/lang/Object")] 6

/-- java/lang/constant/Constable -/
def k6 : Class := { plain "java/lang/constant/Constable" (some 0) with
  accessFlags := 1537
  interfaces := #[]
  cf := some (fileOf pool6 1 #[] #[] 1537 3 #[] #[])
  fields := #[]
  methods := #[]
  instanceTypes := #[]
  staticTypes := #[]
  resolved := Array.replicate 11 none
  statics := none }

def pool7 : Array CpInfo := pool [(1, .class_ 2), (0, u "java/lang/constant/ConstantDesc"), (0, .class_ 4), (0, u "java/lang/Object")] 32

/-- java/lang/constant/ConstantDesc -/
def k7 : Class := { plain "java/lang/constant/ConstantDesc" (some 0) with
  accessFlags := 1537
  interfaces := #[]
  cf := some (fileOf pool7 1 #[] #[] 1537 3 #[] #[])
  fields := #[]
  methods := #[]
  instanceTypes := #[]
  staticTypes := #[]
  resolved := Array.replicate 37 none
  statics := none }

def pool8 : Array CpInfo := pool [(1, .class_ 2), (0, u "java/lang/Integer"), (16, u "digits"), (0, u "[C"), (46, u "<init>"), (17, u "DigitOnes"), (0, u "[B"), (2, u "DigitTens"), (10, .nameAndType 67 101), (0, u "()V"), (85, u "valueOf"), (0, u "(I)Ljava/lang/Integer;"), (0, .class_ 190), (0, u "java/lang/Integer$IntegerCache"), (0, .fieldref 189 192), (0, .nameAndType 193 194), (0, u "high"), (0, u "I"), (0, .fieldref 189 196), (0, .nameAndType 197 198), (0, u "cache"), (0, u "[Ljava/lang/Integer;"), (0, .methodref 1 200), (0, .nameAndType 67 201), (0, u "(I)V"), (0, .methodref 203 100), (0, .class_ 204), (0, u "java/lang/Number"), (0, .fieldref 1 206), (0, .nameAndType 207 194), (0, u "value"), (94, u "TYPE"), (0, u "Ljava/lang/Class;"), (0, .class_ 305), (0, u "java/lang/Comparable"), (0, .class_ 307), (0, u "java/lang/constant/Constable"), (0, .class_ 309), (0, u "java/lang/constant/ConstantDesc"), (0, u "MIN_VALUE"), (1, u "MAX_VALUE"), (3, u "SIZE"), (1, u "BYTES"), (1, u "serialVersionUID"), (0, u "J")] 131

def k8c0 : Code := { maxStack := 3, maxLocals := 1, code := jdk_33_method_22_code, exceptionTable := #[], attributes := #[] }
def k8m0 : Method := { name := "valueOf", desc := "(I)Ljava/lang/Integer;", sig := { parameters := [.int], returnType := some (.object "java/lang/Integer") }, accessFlags := 9, code := some k8c0 }
def k8c1 : Code := { maxStack := 2, maxLocals := 2, code := jdk_33_method_23_code, exceptionTable := #[], attributes := #[] }
def k8m1 : Method := { name := "<init>", desc := "(I)V", sig := { parameters := [.int], returnType := none }, accessFlags := 1, code := some k8c1 }
/-- java/lang/Integer -/
def k8 : Class := { plain "java/lang/Integer" (some 4) with
  accessFlags := 49
  interfaces := #[5, 6, 7]
  cf := some (fileOf pool8 1 #[.nestMembers #[189]] #[{ accessFlags := 9, nameIndex := 187, descriptorIndex := 188, attributes := #[] }, { accessFlags := 1, nameIndex := 67, descriptorIndex := 201, attributes := #[] }] 49 203 #[304, 306, 308] #[{ accessFlags := 25, nameIndex := 310, descriptorIndex := 194, attributes := #[] }, { accessFlags := 25, nameIndex := 312, descriptorIndex := 194, attributes := #[] }, { accessFlags := 25, nameIndex := 302, descriptorIndex := 303, attributes := #[] }, { accessFlags := 24, nameIndex := 19, descriptorIndex := 20, attributes := #[] }, { accessFlags := 24, nameIndex := 89, descriptorIndex := 86, attributes := #[] }, { accessFlags := 24, nameIndex := 85, descriptorIndex := 86, attributes := #[] }, { accessFlags := 18, nameIndex := 207, descriptorIndex := 194, attributes := #[] }, { accessFlags := 25, nameIndex := 316, descriptorIndex := 194, attributes := #[] }, { accessFlags := 25, nameIndex := 318, descriptorIndex := 194, attributes := #[] }, { accessFlags := 26, nameIndex := 320, descriptorIndex := 321, attributes := #[] }])
  fields := #[{ name := "MIN_VALUE", type := .int, accessFlags := 25, slot := 0, constantValue := 0 }, { name := "MAX_VALUE", type := .int, accessFlags := 25, slot := 1, constantValue := 0 }, { name := "TYPE", type := (.object "java/lang/Class"), accessFlags := 25, slot := 2, constantValue := 0 }, { name := "digits", type := (.array .char), accessFlags := 24, slot := 3, constantValue := 0 }, { name := "DigitTens", type := (.array .byte), accessFlags := 24, slot := 4, constantValue := 0 }, { name := "DigitOnes", type := (.array .byte), accessFlags := 24, slot := 5, constantValue := 0 }, { name := "value", type := .int, accessFlags := 18, slot := 0, constantValue := 0 }, { name := "SIZE", type := .int, accessFlags := 25, slot := 6, constantValue := 0 }, { name := "BYTES", type := .int, accessFlags := 25, slot := 7, constantValue := 0 }, { name := "serialVersionUID", type := .long, accessFlags := 26, slot := 8, constantValue := 0 }]
  methods := #[k8m0, k8m1]
  instanceTypes := #[.int]
  staticTypes := #[.int, .int, (.object "java/lang/Class"), (.array .char), (.array .byte), (.array .byte), .int, .int, .long]
  resolved := Array.replicate 453 none
  statics := none }

def pool9 : Array CpInfo := pool [(2, .class_ 4), (1, u "java/lang/Object"), (0, u "<init>"), (0, u "()V"), (0, .class_ 8), (0, u "java/lang/Integer"), (7, .class_ 18), (1, u "java/lang/Integer$IntegerCache"), (0, u "$assertionsDisabled"), (0, u "Z"), (26, u "high"), (0, u "I"), (8, u "archivedCache"), (0, u "[Ljava/lang/Integer;"), (12, u "cache"), (0, u "low")] 27

def k9m0 : Method := { name := "<init>", desc := "()V", sig := { parameters := [], returnType := none }, accessFlags := 2, code := none }
/-- java/lang/Integer$IntegerCache -/
def k9 : Class := { plain "java/lang/Integer$IntegerCache" (some 0) with
  accessFlags := 48
  interfaces := #[]
  cf := some (fileOf pool9 16 #[.nestHost 7] #[{ accessFlags := 2, nameIndex := 5, descriptorIndex := 6, attributes := #[] }] 48 2 #[] #[{ accessFlags := 24, nameIndex := 72, descriptorIndex := 48, attributes := #[] }, { accessFlags := 24, nameIndex := 47, descriptorIndex := 48, attributes := #[] }, { accessFlags := 24, nameIndex := 71, descriptorIndex := 58, attributes := #[] }, { accessFlags := 8, nameIndex := 57, descriptorIndex := 58, attributes := #[] }, { accessFlags := 4120, nameIndex := 19, descriptorIndex := 20, attributes := #[] }])
  fields := #[{ name := "low", type := .int, accessFlags := 24, slot := 0, constantValue := 0 }, { name := "high", type := .int, accessFlags := 24, slot := 1, constantValue := 0 }, { name := "cache", type := (.array (.object "java/lang/Integer")), accessFlags := 24, slot := 2, constantValue := 0 }, { name := "archivedCache", type := (.array (.object "java/lang/Integer")), accessFlags := 8, slot := 3, constantValue := 0 }, { name := "$assertionsDisabled", type := .boolean, accessFlags := 4120, slot := 4, constantValue := 0 }]
  methods := #[k9m0]
  instanceTypes := #[]
  staticTypes := #[.int, .int, (.array (.object "java/lang/Integer")), (.array (.object "java/lang/Integer")), .boolean]
  resolved := Array.replicate 100 none
  statics := some 0 }

def pool10 : Array CpInfo := pool [(1, .class_ 2), (0, u "java/lang/Long"), (55, .nameAndType 59 60), (0, u "<init>"), (0, u "()V"), (24, u "valueOf"), (143, u "(J)Ljava/lang/Long;"), (0, .long 18446744073709551488), (1, .long 127), (1, .fieldref 235 236), (0, .class_ 237), (0, .nameAndType 238 239), (0, u "java/lang/Long$LongCache"), (0, u "cache"), (0, u "[Ljava/lang/Long;"), (0, .methodref 1 241), (0, .nameAndType 59 242), (0, u "(J)V"), (27, .methodref 271 58), (0, .class_ 272), (0, u "java/lang/Number"), (0, .fieldref 1 274), (0, .nameAndType 275 276), (0, u "value"), (0, u "J"), (84, u "TYPE"), (0, u "Ljava/lang/Class;"), (0, .class_ 364), (0, u "java/lang/Comparable"), (0, .class_ 366), (0, u "java/lang/constant/Constable"), (0, .class_ 368), (0, u "java/lang/constant/ConstantDesc"), (0, u "MIN_VALUE"), (1, u "MAX_VALUE"), (4, u "SIZE"), (0, u "I"), (1, u "BYTES"), (1, u "serialVersionUID")] 142

def k10c0 : Code := { maxStack := 4, maxLocals := 3, code := jdk_35_method_24_code, exceptionTable := #[], attributes := #[] }
def k10m0 : Method := { name := "valueOf", desc := "(J)Ljava/lang/Long;", sig := { parameters := [.long], returnType := some (.object "java/lang/Long") }, accessFlags := 9, code := some k10c0 }
def k10c1 : Code := { maxStack := 3, maxLocals := 3, code := jdk_35_method_26_code, exceptionTable := #[], attributes := #[] }
def k10m1 : Method := { name := "<init>", desc := "(J)V", sig := { parameters := [.long], returnType := none }, accessFlags := 1, code := some k10c1 }
/-- java/lang/Long -/
def k10 : Class := { plain "java/lang/Long" (some 4) with
  accessFlags := 49
  interfaces := #[5, 6, 7]
  cf := some (fileOf pool10 1 #[.nestMembers #[235]] #[{ accessFlags := 9, nameIndex := 85, descriptorIndex := 229, attributes := #[] }, { accessFlags := 1, nameIndex := 59, descriptorIndex := 242, attributes := #[] }] 49 271 #[363, 365, 367] #[{ accessFlags := 25, nameIndex := 369, descriptorIndex := 276, attributes := #[] }, { accessFlags := 25, nameIndex := 371, descriptorIndex := 276, attributes := #[] }, { accessFlags := 25, nameIndex := 361, descriptorIndex := 362, attributes := #[] }, { accessFlags := 18, nameIndex := 275, descriptorIndex := 276, attributes := #[] }, { accessFlags := 25, nameIndex := 376, descriptorIndex := 377, attributes := #[] }, { accessFlags := 25, nameIndex := 379, descriptorIndex := 377, attributes := #[] }, { accessFlags := 26, nameIndex := 381, descriptorIndex := 276, attributes := #[] }])
  fields := #[{ name := "MIN_VALUE", type := .long, accessFlags := 25, slot := 0, constantValue := 0 }, { name := "MAX_VALUE", type := .long, accessFlags := 25, slot := 1, constantValue := 0 }, { name := "TYPE", type := (.object "java/lang/Class"), accessFlags := 25, slot := 2, constantValue := 0 }, { name := "value", type := .long, accessFlags := 18, slot := 0, constantValue := 0 }, { name := "SIZE", type := .int, accessFlags := 25, slot := 3, constantValue := 0 }, { name := "BYTES", type := .int, accessFlags := 25, slot := 4, constantValue := 0 }, { name := "serialVersionUID", type := .long, accessFlags := 26, slot := 5, constantValue := 0 }]
  methods := #[k10m0, k10m1]
  instanceTypes := #[.long]
  staticTypes := #[.long, .long, (.object "java/lang/Class"), .int, .int, .long]
  resolved := Array.replicate 524 none
  statics := none }

def pool11 : Array CpInfo := pool [(2, .class_ 4), (1, u "java/lang/Object"), (0, u "<init>"), (0, u "()V"), (0, .class_ 8), (0, u "java/lang/Long"), (7, .class_ 18), (1, u "java/lang/Long$LongCache"), (0, u "$assertionsDisabled"), (0, u "Z"), (8, u "archivedCache"), (0, u "[Ljava/lang/Long;"), (7, u "cache")] 24

def k11m0 : Method := { name := "<init>", desc := "()V", sig := { parameters := [], returnType := none }, accessFlags := 2, code := none }
/-- java/lang/Long$LongCache -/
def k11 : Class := { plain "java/lang/Long$LongCache" (some 0) with
  accessFlags := 48
  interfaces := #[]
  cf := some (fileOf pool11 16 #[.nestHost 7] #[{ accessFlags := 2, nameIndex := 5, descriptorIndex := 6, attributes := #[] }] 48 2 #[] #[{ accessFlags := 24, nameIndex := 38, descriptorIndex := 30, attributes := #[] }, { accessFlags := 8, nameIndex := 29, descriptorIndex := 30, attributes := #[] }, { accessFlags := 4120, nameIndex := 19, descriptorIndex := 20, attributes := #[] }])
  fields := #[{ name := "cache", type := (.array (.object "java/lang/Long")), accessFlags := 24, slot := 0, constantValue := 0 }, { name := "archivedCache", type := (.array (.object "java/lang/Long")), accessFlags := 8, slot := 1, constantValue := 0 }, { name := "$assertionsDisabled", type := .boolean, accessFlags := 4120, slot := 2, constantValue := 0 }]
  methods := #[k11m0]
  instanceTypes := #[]
  staticTypes := #[(.array (.object "java/lang/Long")), (.array (.object "java/lang/Long")), .boolean]
  resolved := Array.replicate 63 none
  statics := some 1 }

def pool12 : Array CpInfo := pool [(1, u "java/lang/Cloneable"), (0, .class_ 1), (0, u "java/lang/Object"), (0, .class_ 3)] 3

/-- java/lang/Cloneable -/
def k12 : Class := { plain "java/lang/Cloneable" (some 0) with
  accessFlags := 1537
  interfaces := #[]
  cf := some (fileOf pool12 2 #[] #[] 1537 4 #[] #[])
  fields := #[]
  methods := #[]
  instanceTypes := #[]
  staticTypes := #[]
  resolved := Array.replicate 8 none
  statics := none }

/-- the primitive byte -/
def k13 : Class := { plain "byte" none with kind := .primitive 'B', accessFlags := 0x411 }
/-- [B -/
def k14 : Class := { plain "[B" (some 0) with kind := .array 13 .byte, interfaces := #[12, 3], accessFlags := 1041 }

/-- the primitive int -/
def k15 : Class := { plain "int" none with kind := .primitive 'I', accessFlags := 0x411 }
/-- [I -/
def k16 : Class := { plain "[I" (some 0) with kind := .array 15 .int, interfaces := #[12, 3], accessFlags := 1041 }

/-- [Ljava/lang/Integer; -/
def k17 : Class := { plain "[Ljava/lang/Integer;" (some 0) with kind := .array 8 (.object "java/lang/Integer"), interfaces := #[12, 3], accessFlags := 1041 }

/-- [Ljava/lang/Long; -/
def k18 : Class := { plain "[Ljava/lang/Long;" (some 0) with kind := .array 10 (.object "java/lang/Long"), interfaces := #[12, 3], accessFlags := 1041 }

def heap : Heap := #[{ cls := 9, slots := #[.int 0, .int 127, .ref 2, .null, .int 0], vm := .statics 9 },
  { cls := 11, slots := #[.ref 3, .null, .int 0], vm := .statics 11 },
  { cls := 17, slots := #[.ref 4, .ref 5, .ref 6, .ref 7, .ref 8, .ref 9, .ref 10, .ref 11, .ref 12, .ref 13, .ref 14, .ref 15, .ref 16, .ref 17, .ref 18, .ref 19, .ref 20, .ref 21, .ref 22, .ref 23, .ref 24, .ref 25, .ref 26, .ref 27, .ref 28, .ref 29, .ref 30, .ref 31, .ref 32, .ref 33, .ref 34, .ref 35, .ref 36, .ref 37, .ref 38, .ref 39, .ref 40, .ref 41, .ref 42, .ref 43, .ref 44, .ref 45, .ref 46, .ref 47, .ref 48, .ref 49, .ref 50, .ref 51, .ref 52, .ref 53, .ref 54, .ref 55, .ref 56, .ref 57, .ref 58, .ref 59, .ref 60, .ref 61, .ref 62, .ref 63, .ref 64, .ref 65, .ref 66, .ref 67, .ref 68, .ref 69, .ref 70, .ref 71, .ref 72, .ref 73, .ref 74, .ref 75, .ref 76, .ref 77, .ref 78, .ref 79, .ref 80, .ref 81, .ref 82, .ref 83, .ref 84, .ref 85, .ref 86, .ref 87, .ref 88, .ref 89, .ref 90, .ref 91, .ref 92, .ref 93, .ref 94, .ref 95, .ref 96, .ref 97, .ref 98, .ref 99, .ref 100, .ref 101, .ref 102, .ref 103, .ref 104, .ref 105, .ref 106, .ref 107, .ref 108, .ref 109, .ref 110, .ref 111, .ref 112, .ref 113, .ref 114, .ref 115, .ref 116, .ref 117, .ref 118, .ref 119, .ref 120, .ref 121, .ref 122, .ref 123, .ref 124, .ref 125, .ref 126, .ref 127, .ref 128, .ref 129, .ref 130, .ref 131, .ref 132, .ref 133, .ref 134, .ref 135, .ref 136, .ref 137, .ref 138, .ref 139, .ref 140, .ref 141, .ref 142, .ref 143, .ref 144, .ref 145, .ref 146, .ref 147, .ref 148, .ref 149, .ref 150, .ref 151, .ref 152, .ref 153, .ref 154, .ref 155, .ref 156, .ref 157, .ref 158, .ref 159, .ref 160, .ref 161, .ref 162, .ref 163, .ref 164, .ref 165, .ref 166, .ref 167, .ref 168, .ref 169, .ref 170, .ref 171, .ref 172, .ref 173, .ref 174, .ref 175, .ref 176, .ref 177, .ref 178, .ref 179, .ref 180, .ref 181, .ref 182, .ref 183, .ref 184, .ref 185, .ref 186, .ref 187, .ref 188, .ref 189, .ref 190, .ref 191, .ref 192, .ref 193, .ref 194, .ref 195, .ref 196, .ref 197, .ref 198, .ref 199, .ref 200, .ref 201, .ref 202, .ref 203, .ref 204, .ref 205, .ref 206, .ref 207, .ref 208, .ref 209, .ref 210, .ref 211, .ref 212, .ref 213, .ref 214, .ref 215, .ref 216, .ref 217, .ref 218, .ref 219, .ref 220, .ref 221, .ref 222, .ref 223, .ref 224, .ref 225, .ref 226, .ref 227, .ref 228, .ref 229, .ref 230, .ref 231, .ref 232, .ref 233, .ref 234, .ref 235, .ref 236, .ref 237, .ref 238, .ref 239, .ref 240, .ref 241, .ref 242, .ref 243, .ref 244, .ref 245, .ref 246, .ref 247, .ref 248, .ref 249, .ref 250, .ref 251, .ref 252, .ref 253, .ref 254, .ref 255, .ref 256, .ref 257, .ref 258, .ref 259], vm := .none },
  { cls := 18, slots := #[.ref 260, .ref 261, .ref 262, .ref 263, .ref 264, .ref 265, .ref 266, .ref 267, .ref 268, .ref 269, .ref 270, .ref 271, .ref 272, .ref 273, .ref 274, .ref 275, .ref 276, .ref 277, .ref 278, .ref 279, .ref 280, .ref 281, .ref 282, .ref 283, .ref 284, .ref 285, .ref 286, .ref 287, .ref 288, .ref 289, .ref 290, .ref 291, .ref 292, .ref 293, .ref 294, .ref 295, .ref 296, .ref 297, .ref 298, .ref 299, .ref 300, .ref 301, .ref 302, .ref 303, .ref 304, .ref 305, .ref 306, .ref 307, .ref 308, .ref 309, .ref 310, .ref 311, .ref 312, .ref 313, .ref 314, .ref 315, .ref 316, .ref 317, .ref 318, .ref 319, .ref 320, .ref 321, .ref 322, .ref 323, .ref 324, .ref 325, .ref 326, .ref 327, .ref 328, .ref 329, .ref 330, .ref 331, .ref 332, .ref 333, .ref 334, .ref 335, .ref 336, .ref 337, .ref 338, .ref 339, .ref 340, .ref 341, .ref 342, .ref 343, .ref 344, .ref 345, .ref 346, .ref 347, .ref 348, .ref 349, .ref 350, .ref 351, .ref 352, .ref 353, .ref 354, .ref 355, .ref 356, .ref 357, .ref 358, .ref 359, .ref 360, .ref 361, .ref 362, .ref 363, .ref 364, .ref 365, .ref 366, .ref 367, .ref 368, .ref 369, .ref 370, .ref 371, .ref 372, .ref 373, .ref 374, .ref 375, .ref 376, .ref 377, .ref 378, .ref 379, .ref 380, .ref 381, .ref 382, .ref 383, .ref 384, .ref 385, .ref 386, .ref 387, .ref 388, .ref 389, .ref 390, .ref 391, .ref 392, .ref 393, .ref 394, .ref 395, .ref 396, .ref 397, .ref 398, .ref 399, .ref 400, .ref 401, .ref 402, .ref 403, .ref 404, .ref 405, .ref 406, .ref 407, .ref 408, .ref 409, .ref 410, .ref 411, .ref 412, .ref 413, .ref 414, .ref 415, .ref 416, .ref 417, .ref 418, .ref 419, .ref 420, .ref 421, .ref 422, .ref 423, .ref 424, .ref 425, .ref 426, .ref 427, .ref 428, .ref 429, .ref 430, .ref 431, .ref 432, .ref 433, .ref 434, .ref 435, .ref 436, .ref 437, .ref 438, .ref 439, .ref 440, .ref 441, .ref 442, .ref 443, .ref 444, .ref 445, .ref 446, .ref 447, .ref 448, .ref 449, .ref 450, .ref 451, .ref 452, .ref 453, .ref 454, .ref 455, .ref 456, .ref 457, .ref 458, .ref 459, .ref 460, .ref 461, .ref 462, .ref 463, .ref 464, .ref 465, .ref 466, .ref 467, .ref 468, .ref 469, .ref 470, .ref 471, .ref 472, .ref 473, .ref 474, .ref 475, .ref 476, .ref 477, .ref 478, .ref 479, .ref 480, .ref 481, .ref 482, .ref 483, .ref 484, .ref 485, .ref 486, .ref 487, .ref 488, .ref 489, .ref 490, .ref 491, .ref 492, .ref 493, .ref 494, .ref 495, .ref 496, .ref 497, .ref 498, .ref 499, .ref 500, .ref 501, .ref 502, .ref 503, .ref 504, .ref 505, .ref 506, .ref 507, .ref 508, .ref 509, .ref 510, .ref 511, .ref 512, .ref 513, .ref 514, .ref 515], vm := .none },
  { cls := 8, slots := #[.int (-128)], vm := .none },
  { cls := 8, slots := #[.int (-127)], vm := .none },
  { cls := 8, slots := #[.int (-126)], vm := .none },
  { cls := 8, slots := #[.int (-125)], vm := .none },
  { cls := 8, slots := #[.int (-124)], vm := .none },
  { cls := 8, slots := #[.int (-123)], vm := .none },
  { cls := 8, slots := #[.int (-122)], vm := .none },
  { cls := 8, slots := #[.int (-121)], vm := .none },
  { cls := 8, slots := #[.int (-120)], vm := .none },
  { cls := 8, slots := #[.int (-119)], vm := .none },
  { cls := 8, slots := #[.int (-118)], vm := .none },
  { cls := 8, slots := #[.int (-117)], vm := .none },
  { cls := 8, slots := #[.int (-116)], vm := .none },
  { cls := 8, slots := #[.int (-115)], vm := .none },
  { cls := 8, slots := #[.int (-114)], vm := .none },
  { cls := 8, slots := #[.int (-113)], vm := .none },
  { cls := 8, slots := #[.int (-112)], vm := .none },
  { cls := 8, slots := #[.int (-111)], vm := .none },
  { cls := 8, slots := #[.int (-110)], vm := .none },
  { cls := 8, slots := #[.int (-109)], vm := .none },
  { cls := 8, slots := #[.int (-108)], vm := .none },
  { cls := 8, slots := #[.int (-107)], vm := .none },
  { cls := 8, slots := #[.int (-106)], vm := .none },
  { cls := 8, slots := #[.int (-105)], vm := .none },
  { cls := 8, slots := #[.int (-104)], vm := .none },
  { cls := 8, slots := #[.int (-103)], vm := .none },
  { cls := 8, slots := #[.int (-102)], vm := .none },
  { cls := 8, slots := #[.int (-101)], vm := .none },
  { cls := 8, slots := #[.int (-100)], vm := .none },
  { cls := 8, slots := #[.int (-99)], vm := .none },
  { cls := 8, slots := #[.int (-98)], vm := .none },
  { cls := 8, slots := #[.int (-97)], vm := .none },
  { cls := 8, slots := #[.int (-96)], vm := .none },
  { cls := 8, slots := #[.int (-95)], vm := .none },
  { cls := 8, slots := #[.int (-94)], vm := .none },
  { cls := 8, slots := #[.int (-93)], vm := .none },
  { cls := 8, slots := #[.int (-92)], vm := .none },
  { cls := 8, slots := #[.int (-91)], vm := .none },
  { cls := 8, slots := #[.int (-90)], vm := .none },
  { cls := 8, slots := #[.int (-89)], vm := .none },
  { cls := 8, slots := #[.int (-88)], vm := .none },
  { cls := 8, slots := #[.int (-87)], vm := .none },
  { cls := 8, slots := #[.int (-86)], vm := .none },
  { cls := 8, slots := #[.int (-85)], vm := .none },
  { cls := 8, slots := #[.int (-84)], vm := .none },
  { cls := 8, slots := #[.int (-83)], vm := .none },
  { cls := 8, slots := #[.int (-82)], vm := .none },
  { cls := 8, slots := #[.int (-81)], vm := .none },
  { cls := 8, slots := #[.int (-80)], vm := .none },
  { cls := 8, slots := #[.int (-79)], vm := .none },
  { cls := 8, slots := #[.int (-78)], vm := .none },
  { cls := 8, slots := #[.int (-77)], vm := .none },
  { cls := 8, slots := #[.int (-76)], vm := .none },
  { cls := 8, slots := #[.int (-75)], vm := .none },
  { cls := 8, slots := #[.int (-74)], vm := .none },
  { cls := 8, slots := #[.int (-73)], vm := .none },
  { cls := 8, slots := #[.int (-72)], vm := .none },
  { cls := 8, slots := #[.int (-71)], vm := .none },
  { cls := 8, slots := #[.int (-70)], vm := .none },
  { cls := 8, slots := #[.int (-69)], vm := .none },
  { cls := 8, slots := #[.int (-68)], vm := .none },
  { cls := 8, slots := #[.int (-67)], vm := .none },
  { cls := 8, slots := #[.int (-66)], vm := .none },
  { cls := 8, slots := #[.int (-65)], vm := .none },
  { cls := 8, slots := #[.int (-64)], vm := .none },
  { cls := 8, slots := #[.int (-63)], vm := .none },
  { cls := 8, slots := #[.int (-62)], vm := .none },
  { cls := 8, slots := #[.int (-61)], vm := .none },
  { cls := 8, slots := #[.int (-60)], vm := .none },
  { cls := 8, slots := #[.int (-59)], vm := .none },
  { cls := 8, slots := #[.int (-58)], vm := .none },
  { cls := 8, slots := #[.int (-57)], vm := .none },
  { cls := 8, slots := #[.int (-56)], vm := .none },
  { cls := 8, slots := #[.int (-55)], vm := .none },
  { cls := 8, slots := #[.int (-54)], vm := .none },
  { cls := 8, slots := #[.int (-53)], vm := .none },
  { cls := 8, slots := #[.int (-52)], vm := .none },
  { cls := 8, slots := #[.int (-51)], vm := .none },
  { cls := 8, slots := #[.int (-50)], vm := .none },
  { cls := 8, slots := #[.int (-49)], vm := .none },
  { cls := 8, slots := #[.int (-48)], vm := .none },
  { cls := 8, slots := #[.int (-47)], vm := .none },
  { cls := 8, slots := #[.int (-46)], vm := .none },
  { cls := 8, slots := #[.int (-45)], vm := .none },
  { cls := 8, slots := #[.int (-44)], vm := .none },
  { cls := 8, slots := #[.int (-43)], vm := .none },
  { cls := 8, slots := #[.int (-42)], vm := .none },
  { cls := 8, slots := #[.int (-41)], vm := .none },
  { cls := 8, slots := #[.int (-40)], vm := .none },
  { cls := 8, slots := #[.int (-39)], vm := .none },
  { cls := 8, slots := #[.int (-38)], vm := .none },
  { cls := 8, slots := #[.int (-37)], vm := .none },
  { cls := 8, slots := #[.int (-36)], vm := .none },
  { cls := 8, slots := #[.int (-35)], vm := .none },
  { cls := 8, slots := #[.int (-34)], vm := .none },
  { cls := 8, slots := #[.int (-33)], vm := .none },
  { cls := 8, slots := #[.int (-32)], vm := .none },
  { cls := 8, slots := #[.int (-31)], vm := .none },
  { cls := 8, slots := #[.int (-30)], vm := .none },
  { cls := 8, slots := #[.int (-29)], vm := .none },
  { cls := 8, slots := #[.int (-28)], vm := .none },
  { cls := 8, slots := #[.int (-27)], vm := .none },
  { cls := 8, slots := #[.int (-26)], vm := .none },
  { cls := 8, slots := #[.int (-25)], vm := .none },
  { cls := 8, slots := #[.int (-24)], vm := .none },
  { cls := 8, slots := #[.int (-23)], vm := .none },
  { cls := 8, slots := #[.int (-22)], vm := .none },
  { cls := 8, slots := #[.int (-21)], vm := .none },
  { cls := 8, slots := #[.int (-20)], vm := .none },
  { cls := 8, slots := #[.int (-19)], vm := .none },
  { cls := 8, slots := #[.int (-18)], vm := .none },
  { cls := 8, slots := #[.int (-17)], vm := .none },
  { cls := 8, slots := #[.int (-16)], vm := .none },
  { cls := 8, slots := #[.int (-15)], vm := .none },
  { cls := 8, slots := #[.int (-14)], vm := .none },
  { cls := 8, slots := #[.int (-13)], vm := .none },
  { cls := 8, slots := #[.int (-12)], vm := .none },
  { cls := 8, slots := #[.int (-11)], vm := .none },
  { cls := 8, slots := #[.int (-10)], vm := .none },
  { cls := 8, slots := #[.int (-9)], vm := .none },
  { cls := 8, slots := #[.int (-8)], vm := .none },
  { cls := 8, slots := #[.int (-7)], vm := .none },
  { cls := 8, slots := #[.int (-6)], vm := .none },
  { cls := 8, slots := #[.int (-5)], vm := .none },
  { cls := 8, slots := #[.int (-4)], vm := .none },
  { cls := 8, slots := #[.int (-3)], vm := .none },
  { cls := 8, slots := #[.int (-2)], vm := .none },
  { cls := 8, slots := #[.int (-1)], vm := .none },
  { cls := 8, slots := #[.int (0)], vm := .none },
  { cls := 8, slots := #[.int (1)], vm := .none },
  { cls := 8, slots := #[.int (2)], vm := .none },
  { cls := 8, slots := #[.int (3)], vm := .none },
  { cls := 8, slots := #[.int (4)], vm := .none },
  { cls := 8, slots := #[.int (5)], vm := .none },
  { cls := 8, slots := #[.int (6)], vm := .none },
  { cls := 8, slots := #[.int (7)], vm := .none },
  { cls := 8, slots := #[.int (8)], vm := .none },
  { cls := 8, slots := #[.int (9)], vm := .none },
  { cls := 8, slots := #[.int (10)], vm := .none },
  { cls := 8, slots := #[.int (11)], vm := .none },
  { cls := 8, slots := #[.int (12)], vm := .none },
  { cls := 8, slots := #[.int (13)], vm := .none },
  { cls := 8, slots := #[.int (14)], vm := .none },
  { cls := 8, slots := #[.int (15)], vm := .none },
  { cls := 8, slots := #[.int (16)], vm := .none },
  { cls := 8, slots := #[.int (17)], vm := .none },
  { cls := 8, slots := #[.int (18)], vm := .none },
  { cls := 8, slots := #[.int (19)], vm := .none },
  { cls := 8, slots := #[.int (20)], vm := .none },
  { cls := 8, slots := #[.int (21)], vm := .none },
  { cls := 8, slots := #[.int (22)], vm := .none },
  { cls := 8, slots := #[.int (23)], vm := .none },
  { cls := 8, slots := #[.int (24)], vm := .none },
  { cls := 8, slots := #[.int (25)], vm := .none },
  { cls := 8, slots := #[.int (26)], vm := .none },
  { cls := 8, slots := #[.int (27)], vm := .none },
  { cls := 8, slots := #[.int (28)], vm := .none },
  { cls := 8, slots := #[.int (29)], vm := .none },
  { cls := 8, slots := #[.int (30)], vm := .none },
  { cls := 8, slots := #[.int (31)], vm := .none },
  { cls := 8, slots := #[.int (32)], vm := .none },
  { cls := 8, slots := #[.int (33)], vm := .none },
  { cls := 8, slots := #[.int (34)], vm := .none },
  { cls := 8, slots := #[.int (35)], vm := .none },
  { cls := 8, slots := #[.int (36)], vm := .none },
  { cls := 8, slots := #[.int (37)], vm := .none },
  { cls := 8, slots := #[.int (38)], vm := .none },
  { cls := 8, slots := #[.int (39)], vm := .none },
  { cls := 8, slots := #[.int (40)], vm := .none },
  { cls := 8, slots := #[.int (41)], vm := .none },
  { cls := 8, slots := #[.int (42)], vm := .none },
  { cls := 8, slots := #[.int (43)], vm := .none },
  { cls := 8, slots := #[.int (44)], vm := .none },
  { cls := 8, slots := #[.int (45)], vm := .none },
  { cls := 8, slots := #[.int (46)], vm := .none },
  { cls := 8, slots := #[.int (47)], vm := .none },
  { cls := 8, slots := #[.int (48)], vm := .none },
  { cls := 8, slots := #[.int (49)], vm := .none },
  { cls := 8, slots := #[.int (50)], vm := .none },
  { cls := 8, slots := #[.int (51)], vm := .none },
  { cls := 8, slots := #[.int (52)], vm := .none },
  { cls := 8, slots := #[.int (53)], vm := .none },
  { cls := 8, slots := #[.int (54)], vm := .none },
  { cls := 8, slots := #[.int (55)], vm := .none },
  { cls := 8, slots := #[.int (56)], vm := .none },
  { cls := 8, slots := #[.int (57)], vm := .none },
  { cls := 8, slots := #[.int (58)], vm := .none },
  { cls := 8, slots := #[.int (59)], vm := .none },
  { cls := 8, slots := #[.int (60)], vm := .none },
  { cls := 8, slots := #[.int (61)], vm := .none },
  { cls := 8, slots := #[.int (62)], vm := .none },
  { cls := 8, slots := #[.int (63)], vm := .none },
  { cls := 8, slots := #[.int (64)], vm := .none },
  { cls := 8, slots := #[.int (65)], vm := .none },
  { cls := 8, slots := #[.int (66)], vm := .none },
  { cls := 8, slots := #[.int (67)], vm := .none },
  { cls := 8, slots := #[.int (68)], vm := .none },
  { cls := 8, slots := #[.int (69)], vm := .none },
  { cls := 8, slots := #[.int (70)], vm := .none },
  { cls := 8, slots := #[.int (71)], vm := .none },
  { cls := 8, slots := #[.int (72)], vm := .none },
  { cls := 8, slots := #[.int (73)], vm := .none },
  { cls := 8, slots := #[.int (74)], vm := .none },
  { cls := 8, slots := #[.int (75)], vm := .none },
  { cls := 8, slots := #[.int (76)], vm := .none },
  { cls := 8, slots := #[.int (77)], vm := .none },
  { cls := 8, slots := #[.int (78)], vm := .none },
  { cls := 8, slots := #[.int (79)], vm := .none },
  { cls := 8, slots := #[.int (80)], vm := .none },
  { cls := 8, slots := #[.int (81)], vm := .none },
  { cls := 8, slots := #[.int (82)], vm := .none },
  { cls := 8, slots := #[.int (83)], vm := .none },
  { cls := 8, slots := #[.int (84)], vm := .none },
  { cls := 8, slots := #[.int (85)], vm := .none },
  { cls := 8, slots := #[.int (86)], vm := .none },
  { cls := 8, slots := #[.int (87)], vm := .none },
  { cls := 8, slots := #[.int (88)], vm := .none },
  { cls := 8, slots := #[.int (89)], vm := .none },
  { cls := 8, slots := #[.int (90)], vm := .none },
  { cls := 8, slots := #[.int (91)], vm := .none },
  { cls := 8, slots := #[.int (92)], vm := .none },
  { cls := 8, slots := #[.int (93)], vm := .none },
  { cls := 8, slots := #[.int (94)], vm := .none },
  { cls := 8, slots := #[.int (95)], vm := .none },
  { cls := 8, slots := #[.int (96)], vm := .none },
  { cls := 8, slots := #[.int (97)], vm := .none },
  { cls := 8, slots := #[.int (98)], vm := .none },
  { cls := 8, slots := #[.int (99)], vm := .none },
  { cls := 8, slots := #[.int (100)], vm := .none },
  { cls := 8, slots := #[.int (101)], vm := .none },
  { cls := 8, slots := #[.int (102)], vm := .none },
  { cls := 8, slots := #[.int (103)], vm := .none },
  { cls := 8, slots := #[.int (104)], vm := .none },
  { cls := 8, slots := #[.int (105)], vm := .none },
  { cls := 8, slots := #[.int (106)], vm := .none },
  { cls := 8, slots := #[.int (107)], vm := .none },
  { cls := 8, slots := #[.int (108)], vm := .none },
  { cls := 8, slots := #[.int (109)], vm := .none },
  { cls := 8, slots := #[.int (110)], vm := .none },
  { cls := 8, slots := #[.int (111)], vm := .none },
  { cls := 8, slots := #[.int (112)], vm := .none },
  { cls := 8, slots := #[.int (113)], vm := .none },
  { cls := 8, slots := #[.int (114)], vm := .none },
  { cls := 8, slots := #[.int (115)], vm := .none },
  { cls := 8, slots := #[.int (116)], vm := .none },
  { cls := 8, slots := #[.int (117)], vm := .none },
  { cls := 8, slots := #[.int (118)], vm := .none },
  { cls := 8, slots := #[.int (119)], vm := .none },
  { cls := 8, slots := #[.int (120)], vm := .none },
  { cls := 8, slots := #[.int (121)], vm := .none },
  { cls := 8, slots := #[.int (122)], vm := .none },
  { cls := 8, slots := #[.int (123)], vm := .none },
  { cls := 8, slots := #[.int (124)], vm := .none },
  { cls := 8, slots := #[.int (125)], vm := .none },
  { cls := 8, slots := #[.int (126)], vm := .none },
  { cls := 8, slots := #[.int (127)], vm := .none },
  { cls := 10, slots := #[.long (-128)], vm := .none },
  { cls := 10, slots := #[.long (-127)], vm := .none },
  { cls := 10, slots := #[.long (-126)], vm := .none },
  { cls := 10, slots := #[.long (-125)], vm := .none },
  { cls := 10, slots := #[.long (-124)], vm := .none },
  { cls := 10, slots := #[.long (-123)], vm := .none },
  { cls := 10, slots := #[.long (-122)], vm := .none },
  { cls := 10, slots := #[.long (-121)], vm := .none },
  { cls := 10, slots := #[.long (-120)], vm := .none },
  { cls := 10, slots := #[.long (-119)], vm := .none },
  { cls := 10, slots := #[.long (-118)], vm := .none },
  { cls := 10, slots := #[.long (-117)], vm := .none },
  { cls := 10, slots := #[.long (-116)], vm := .none },
  { cls := 10, slots := #[.long (-115)], vm := .none },
  { cls := 10, slots := #[.long (-114)], vm := .none },
  { cls := 10, slots := #[.long (-113)], vm := .none },
  { cls := 10, slots := #[.long (-112)], vm := .none },
  { cls := 10, slots := #[.long (-111)], vm := .none },
  { cls := 10, slots := #[.long (-110)], vm := .none },
  { cls := 10, slots := #[.long (-109)], vm := .none },
  { cls := 10, slots := #[.long (-108)], vm := .none },
  { cls := 10, slots := #[.long (-107)], vm := .none },
  { cls := 10, slots := #[.long (-106)], vm := .none },
  { cls := 10, slots := #[.long (-105)], vm := .none },
  { cls := 10, slots := #[.long (-104)], vm := .none },
  { cls := 10, slots := #[.long (-103)], vm := .none },
  { cls := 10, slots := #[.long (-102)], vm := .none },
  { cls := 10, slots := #[.long (-101)], vm := .none },
  { cls := 10, slots := #[.long (-100)], vm := .none },
  { cls := 10, slots := #[.long (-99)], vm := .none },
  { cls := 10, slots := #[.long (-98)], vm := .none },
  { cls := 10, slots := #[.long (-97)], vm := .none },
  { cls := 10, slots := #[.long (-96)], vm := .none },
  { cls := 10, slots := #[.long (-95)], vm := .none },
  { cls := 10, slots := #[.long (-94)], vm := .none },
  { cls := 10, slots := #[.long (-93)], vm := .none },
  { cls := 10, slots := #[.long (-92)], vm := .none },
  { cls := 10, slots := #[.long (-91)], vm := .none },
  { cls := 10, slots := #[.long (-90)], vm := .none },
  { cls := 10, slots := #[.long (-89)], vm := .none },
  { cls := 10, slots := #[.long (-88)], vm := .none },
  { cls := 10, slots := #[.long (-87)], vm := .none },
  { cls := 10, slots := #[.long (-86)], vm := .none },
  { cls := 10, slots := #[.long (-85)], vm := .none },
  { cls := 10, slots := #[.long (-84)], vm := .none },
  { cls := 10, slots := #[.long (-83)], vm := .none },
  { cls := 10, slots := #[.long (-82)], vm := .none },
  { cls := 10, slots := #[.long (-81)], vm := .none },
  { cls := 10, slots := #[.long (-80)], vm := .none },
  { cls := 10, slots := #[.long (-79)], vm := .none },
  { cls := 10, slots := #[.long (-78)], vm := .none },
  { cls := 10, slots := #[.long (-77)], vm := .none },
  { cls := 10, slots := #[.long (-76)], vm := .none },
  { cls := 10, slots := #[.long (-75)], vm := .none },
  { cls := 10, slots := #[.long (-74)], vm := .none },
  { cls := 10, slots := #[.long (-73)], vm := .none },
  { cls := 10, slots := #[.long (-72)], vm := .none },
  { cls := 10, slots := #[.long (-71)], vm := .none },
  { cls := 10, slots := #[.long (-70)], vm := .none },
  { cls := 10, slots := #[.long (-69)], vm := .none },
  { cls := 10, slots := #[.long (-68)], vm := .none },
  { cls := 10, slots := #[.long (-67)], vm := .none },
  { cls := 10, slots := #[.long (-66)], vm := .none },
  { cls := 10, slots := #[.long (-65)], vm := .none },
  { cls := 10, slots := #[.long (-64)], vm := .none },
  { cls := 10, slots := #[.long (-63)], vm := .none },
  { cls := 10, slots := #[.long (-62)], vm := .none },
  { cls := 10, slots := #[.long (-61)], vm := .none },
  { cls := 10, slots := #[.long (-60)], vm := .none },
  { cls := 10, slots := #[.long (-59)], vm := .none },
  { cls := 10, slots := #[.long (-58)], vm := .none },
  { cls := 10, slots := #[.long (-57)], vm := .none },
  { cls := 10, slots := #[.long (-56)], vm := .none },
  { cls := 10, slots := #[.long (-55)], vm := .none },
  { cls := 10, slots := #[.long (-54)], vm := .none },
  { cls := 10, slots := #[.long (-53)], vm := .none },
  { cls := 10, slots := #[.long (-52)], vm := .none },
  { cls := 10, slots := #[.long (-51)], vm := .none },
  { cls := 10, slots := #[.long (-50)], vm := .none },
  { cls := 10, slots := #[.long (-49)], vm := .none },
  { cls := 10, slots := #[.long (-48)], vm := .none },
  { cls := 10, slots := #[.long (-47)], vm := .none },
  { cls := 10, slots := #[.long (-46)], vm := .none },
  { cls := 10, slots := #[.long (-45)], vm := .none },
  { cls := 10, slots := #[.long (-44)], vm := .none },
  { cls := 10, slots := #[.long (-43)], vm := .none },
  { cls := 10, slots := #[.long (-42)], vm := .none },
  { cls := 10, slots := #[.long (-41)], vm := .none },
  { cls := 10, slots := #[.long (-40)], vm := .none },
  { cls := 10, slots := #[.long (-39)], vm := .none },
  { cls := 10, slots := #[.long (-38)], vm := .none },
  { cls := 10, slots := #[.long (-37)], vm := .none },
  { cls := 10, slots := #[.long (-36)], vm := .none },
  { cls := 10, slots := #[.long (-35)], vm := .none },
  { cls := 10, slots := #[.long (-34)], vm := .none },
  { cls := 10, slots := #[.long (-33)], vm := .none },
  { cls := 10, slots := #[.long (-32)], vm := .none },
  { cls := 10, slots := #[.long (-31)], vm := .none },
  { cls := 10, slots := #[.long (-30)], vm := .none },
  { cls := 10, slots := #[.long (-29)], vm := .none },
  { cls := 10, slots := #[.long (-28)], vm := .none },
  { cls := 10, slots := #[.long (-27)], vm := .none },
  { cls := 10, slots := #[.long (-26)], vm := .none },
  { cls := 10, slots := #[.long (-25)], vm := .none },
  { cls := 10, slots := #[.long (-24)], vm := .none },
  { cls := 10, slots := #[.long (-23)], vm := .none },
  { cls := 10, slots := #[.long (-22)], vm := .none },
  { cls := 10, slots := #[.long (-21)], vm := .none },
  { cls := 10, slots := #[.long (-20)], vm := .none },
  { cls := 10, slots := #[.long (-19)], vm := .none },
  { cls := 10, slots := #[.long (-18)], vm := .none },
  { cls := 10, slots := #[.long (-17)], vm := .none },
  { cls := 10, slots := #[.long (-16)], vm := .none },
  { cls := 10, slots := #[.long (-15)], vm := .none },
  { cls := 10, slots := #[.long (-14)], vm := .none },
  { cls := 10, slots := #[.long (-13)], vm := .none },
  { cls := 10, slots := #[.long (-12)], vm := .none },
  { cls := 10, slots := #[.long (-11)], vm := .none },
  { cls := 10, slots := #[.long (-10)], vm := .none },
  { cls := 10, slots := #[.long (-9)], vm := .none },
  { cls := 10, slots := #[.long (-8)], vm := .none },
  { cls := 10, slots := #[.long (-7)], vm := .none },
  { cls := 10, slots := #[.long (-6)], vm := .none },
  { cls := 10, slots := #[.long (-5)], vm := .none },
  { cls := 10, slots := #[.long (-4)], vm := .none },
  { cls := 10, slots := #[.long (-3)], vm := .none },
  { cls := 10, slots := #[.long (-2)], vm := .none },
  { cls := 10, slots := #[.long (-1)], vm := .none },
  { cls := 10, slots := #[.long (0)], vm := .none },
  { cls := 10, slots := #[.long (1)], vm := .none },
  { cls := 10, slots := #[.long (2)], vm := .none },
  { cls := 10, slots := #[.long (3)], vm := .none },
  { cls := 10, slots := #[.long (4)], vm := .none },
  { cls := 10, slots := #[.long (5)], vm := .none },
  { cls := 10, slots := #[.long (6)], vm := .none },
  { cls := 10, slots := #[.long (7)], vm := .none },
  { cls := 10, slots := #[.long (8)], vm := .none },
  { cls := 10, slots := #[.long (9)], vm := .none },
  { cls := 10, slots := #[.long (10)], vm := .none },
  { cls := 10, slots := #[.long (11)], vm := .none },
  { cls := 10, slots := #[.long (12)], vm := .none },
  { cls := 10, slots := #[.long (13)], vm := .none },
  { cls := 10, slots := #[.long (14)], vm := .none },
  { cls := 10, slots := #[.long (15)], vm := .none },
  { cls := 10, slots := #[.long (16)], vm := .none },
  { cls := 10, slots := #[.long (17)], vm := .none },
  { cls := 10, slots := #[.long (18)], vm := .none },
  { cls := 10, slots := #[.long (19)], vm := .none },
  { cls := 10, slots := #[.long (20)], vm := .none },
  { cls := 10, slots := #[.long (21)], vm := .none },
  { cls := 10, slots := #[.long (22)], vm := .none },
  { cls := 10, slots := #[.long (23)], vm := .none },
  { cls := 10, slots := #[.long (24)], vm := .none },
  { cls := 10, slots := #[.long (25)], vm := .none },
  { cls := 10, slots := #[.long (26)], vm := .none },
  { cls := 10, slots := #[.long (27)], vm := .none },
  { cls := 10, slots := #[.long (28)], vm := .none },
  { cls := 10, slots := #[.long (29)], vm := .none },
  { cls := 10, slots := #[.long (30)], vm := .none },
  { cls := 10, slots := #[.long (31)], vm := .none },
  { cls := 10, slots := #[.long (32)], vm := .none },
  { cls := 10, slots := #[.long (33)], vm := .none },
  { cls := 10, slots := #[.long (34)], vm := .none },
  { cls := 10, slots := #[.long (35)], vm := .none },
  { cls := 10, slots := #[.long (36)], vm := .none },
  { cls := 10, slots := #[.long (37)], vm := .none },
  { cls := 10, slots := #[.long (38)], vm := .none },
  { cls := 10, slots := #[.long (39)], vm := .none },
  { cls := 10, slots := #[.long (40)], vm := .none },
  { cls := 10, slots := #[.long (41)], vm := .none },
  { cls := 10, slots := #[.long (42)], vm := .none },
  { cls := 10, slots := #[.long (43)], vm := .none },
  { cls := 10, slots := #[.long (44)], vm := .none },
  { cls := 10, slots := #[.long (45)], vm := .none },
  { cls := 10, slots := #[.long (46)], vm := .none },
  { cls := 10, slots := #[.long (47)], vm := .none },
  { cls := 10, slots := #[.long (48)], vm := .none },
  { cls := 10, slots := #[.long (49)], vm := .none },
  { cls := 10, slots := #[.long (50)], vm := .none },
  { cls := 10, slots := #[.long (51)], vm := .none },
  { cls := 10, slots := #[.long (52)], vm := .none },
  { cls := 10, slots := #[.long (53)], vm := .none },
  { cls := 10, slots := #[.long (54)], vm := .none },
  { cls := 10, slots := #[.long (55)], vm := .none },
  { cls := 10, slots := #[.long (56)], vm := .none },
  { cls := 10, slots := #[.long (57)], vm := .none },
  { cls := 10, slots := #[.long (58)], vm := .none },
  { cls := 10, slots := #[.long (59)], vm := .none },
  { cls := 10, slots := #[.long (60)], vm := .none },
  { cls := 10, slots := #[.long (61)], vm := .none },
  { cls := 10, slots := #[.long (62)], vm := .none },
  { cls := 10, slots := #[.long (63)], vm := .none },
  { cls := 10, slots := #[.long (64)], vm := .none },
  { cls := 10, slots := #[.long (65)], vm := .none },
  { cls := 10, slots := #[.long (66)], vm := .none },
  { cls := 10, slots := #[.long (67)], vm := .none },
  { cls := 10, slots := #[.long (68)], vm := .none },
  { cls := 10, slots := #[.long (69)], vm := .none },
  { cls := 10, slots := #[.long (70)], vm := .none },
  { cls := 10, slots := #[.long (71)], vm := .none },
  { cls := 10, slots := #[.long (72)], vm := .none },
  { cls := 10, slots := #[.long (73)], vm := .none },
  { cls := 10, slots := #[.long (74)], vm := .none },
  { cls := 10, slots := #[.long (75)], vm := .none },
  { cls := 10, slots := #[.long (76)], vm := .none },
  { cls := 10, slots := #[.long (77)], vm := .none },
  { cls := 10, slots := #[.long (78)], vm := .none },
  { cls := 10, slots := #[.long (79)], vm := .none },
  { cls := 10, slots := #[.long (80)], vm := .none },
  { cls := 10, slots := #[.long (81)], vm := .none },
  { cls := 10, slots := #[.long (82)], vm := .none },
  { cls := 10, slots := #[.long (83)], vm := .none },
  { cls := 10, slots := #[.long (84)], vm := .none },
  { cls := 10, slots := #[.long (85)], vm := .none },
  { cls := 10, slots := #[.long (86)], vm := .none },
  { cls := 10, slots := #[.long (87)], vm := .none },
  { cls := 10, slots := #[.long (88)], vm := .none },
  { cls := 10, slots := #[.long (89)], vm := .none },
  { cls := 10, slots := #[.long (90)], vm := .none },
  { cls := 10, slots := #[.long (91)], vm := .none },
  { cls := 10, slots := #[.long (92)], vm := .none },
  { cls := 10, slots := #[.long (93)], vm := .none },
  { cls := 10, slots := #[.long (94)], vm := .none },
  { cls := 10, slots := #[.long (95)], vm := .none },
  { cls := 10, slots := #[.long (96)], vm := .none },
  { cls := 10, slots := #[.long (97)], vm := .none },
  { cls := 10, slots := #[.long (98)], vm := .none },
  { cls := 10, slots := #[.long (99)], vm := .none },
  { cls := 10, slots := #[.long (100)], vm := .none },
  { cls := 10, slots := #[.long (101)], vm := .none },
  { cls := 10, slots := #[.long (102)], vm := .none },
  { cls := 10, slots := #[.long (103)], vm := .none },
  { cls := 10, slots := #[.long (104)], vm := .none },
  { cls := 10, slots := #[.long (105)], vm := .none },
  { cls := 10, slots := #[.long (106)], vm := .none },
  { cls := 10, slots := #[.long (107)], vm := .none },
  { cls := 10, slots := #[.long (108)], vm := .none },
  { cls := 10, slots := #[.long (109)], vm := .none },
  { cls := 10, slots := #[.long (110)], vm := .none },
  { cls := 10, slots := #[.long (111)], vm := .none },
  { cls := 10, slots := #[.long (112)], vm := .none },
  { cls := 10, slots := #[.long (113)], vm := .none },
  { cls := 10, slots := #[.long (114)], vm := .none },
  { cls := 10, slots := #[.long (115)], vm := .none },
  { cls := 10, slots := #[.long (116)], vm := .none },
  { cls := 10, slots := #[.long (117)], vm := .none },
  { cls := 10, slots := #[.long (118)], vm := .none },
  { cls := 10, slots := #[.long (119)], vm := .none },
  { cls := 10, slots := #[.long (120)], vm := .none },
  { cls := 10, slots := #[.long (121)], vm := .none },
  { cls := 10, slots := #[.long (122)], vm := .none },
  { cls := 10, slots := #[.long (123)], vm := .none },
  { cls := 10, slots := #[.long (124)], vm := .none },
  { cls := 10, slots := #[.long (125)], vm := .none },
  { cls := 10, slots := #[.long (126)], vm := .none },
  { cls := 10, slots := #[.long (127)], vm := .none }]
def classes : Array Class := #[k0, k1, k2, k3, k4, k5, k6, k7, k8, k9, k10, k11, k12, k13, k14, k15, k16, k17, k18]
def interned : List (Array UInt16 × Addr) := []
def slotsUsed : Nat := 1032
def theMethod : MethodId := ⟨1, 1⟩
def args0 : Array Value := #[.long 5, .int 7, .long 9, .int 11, .int 1]
def aboutOver (below : List Frame) : State where
  vm := { classes := classes, interned := interned.toArray }
  heap := heap
  slotsUsed := slotsUsed
  threads := #[{ frames := .invoking theMethod args0 :: below }]
def below0 : List Frame := [.native { method := ⟨0, 0⟩, args := #[] }]
def about1 : State := aboutOver below0
def p0 : Program := .bare "" "" ""
def e0 : Env := launch0.env 0 0 0
theorem w_frames : about1.frames = Frame.invoking theMethod args0 :: below0 := rfl
set_option maxRecDepth 65536 in
theorem w_args : argsFit about1.vm theMethod args0 = true := by decide +kernel
set_option maxRecDepth 65536 in
theorem w_heap : heapFits about1 = true := by decide +kernel
set_option maxRecDepth 65536 in
theorem w_runnable : about1.curStatus? = some .runnable := by decide +kernel
set_option maxRecDepth 65536 in
theorem w_alone : about1.alone = true := by decide +kernel
set_option maxRecDepth 65536 in
theorem w_named : about1.methodNamed? x = some theMethod := by decide +kernel
set_option maxRecDepth 65536 in
theorem w_hears : about1.hears theMethod below0 = true := by decide +kernel
set_option maxRecDepth 65536 in
theorem w_ripe : about1.ripe theMethod args0 below0 = true := by decide +kernel
theorem w_running : about1.status = .running := rfl
set_option maxRecDepth 65536 in
theorem w_room : about1.hasRoom e0.platform room_1 = true :=
  launch0.hasRoom_least _ room_1 (by decide +kernel) (by decide +kernel) (by decide +kernel) (by decide +kernel) (by decide +kernel) (by decide +kernel)
theorem allAtoms_all (ts : List Jvm.Cond) (a : Array Jvm.Value) (st : Jvm.State) : (allAtoms ts).before a st = ts.all (fun c => c.before a st) := by
  induction ts with
  | nil => rfl
  | cons c t ih =>
    show (Jvm.Cond.and c (allAtoms t)).before a st = _
    rw [Jvm.Cond.before_and, ih, List.all_cons]
def words1 : List Jvm.Cond := Jvm.Cond.code x code maxLocals ret :: tables_1
/-- a 'code' word, met by the world's own term for the bytes: nothing is compared byte by byte -/
theorem code_word {y : MethodName} {bytes : ByteArray} {mx : Nat} {rt : Option FieldType} {a : Array Value} {s : State} {m : MethodId} {meth : Method} {c : Code} (h1 : s.methodNamed? y = some m) (h2 : s.vm.method? m = some meth) (h3 : meth.code = some c) (h4 : c.code = bytes)
    (h5 : (c.maxLocals == mx && c.exceptionTable.isEmpty && decide (c.maxStack ≤ mostOperands) && decide (meth.sig.returnType = rt) && !meth.locks && decide (parseMethodDescriptor y.desc = some meth.sig)) = true) : (Jvm.Cond.code y bytes mx rt).before a s = true := by
  simp only [Bool.and_eq_true, beq_iff_eq, Bool.not_eq_true', decide_eq_true_eq] at h5
  obtain ⟨⟨⟨⟨⟨g1, g2⟩, g3⟩, g4⟩, g5⟩, g6⟩ := h5
  simp [Cond.before, Cond.holds, Cond.value, h1, h2, h3, h4, g1, g2, g3, g4, g5, g6]
def isCode : Jvm.Cond → Bool
  | .code _ _ _ _ => true
  | _ => false
theorem all_split {L : List Jvm.Cond} {P : Jvm.Cond → Bool} (h1 : L.all (fun c => isCode c || P c) = true) (h2 : ∀ c ∈ L.filter isCode, P c = true) : L.all P = true := by
  refine List.all_eq_true.mpr fun c hc => ?_
  have h := List.all_eq_true.mp h1 c hc
  rcases Bool.eq_false_or_eq_true (isCode c) with hi | hi
  · exact h2 c (List.mem_filter.mpr ⟨hc, hi⟩)
  · simpa [hi] using h
set_option maxRecDepth 65536 in
theorem w_c0 : (Jvm.Cond.code x code maxLocals ret).before args0 about1 = true := code_word (m := ⟨1, 1⟩) (meth := k1m1) (c := k1c1) (by decide +kernel) rfl rfl rfl (by decide +kernel)
set_option maxRecDepth 65536 in
theorem w_c1 : (Jvm.Cond.code ({ cls := "com/example/vannus/vannus/Fingerprint", name := "<init>", desc := "(JI)V" } : Jvm.MethodName) prog_6_method_1_code (4 : Nat) (Option.none : Option Jvm.ClassFile.FieldType)).before args0 about1 = true := code_word (m := ⟨2, 0⟩) (meth := k2m0) (c := k2c0) (by decide +kernel) rfl rfl rfl (by decide +kernel)
set_option maxRecDepth 65536 in
theorem w_c2 : (Jvm.Cond.code ({ cls := "java/lang/Object", name := "<init>", desc := "()V" } : Jvm.MethodName) object_method_1_code (1 : Nat) (Option.none : Option Jvm.ClassFile.FieldType)).before args0 about1 = true := code_word (m := ⟨0, 0⟩) (meth := k0m0) (c := k0c0) (by decide +kernel) rfl rfl rfl (by decide +kernel)
set_option maxRecDepth 65536 in
theorem w_c3 : (Jvm.Cond.code ({ cls := "java/lang/Integer", name := "valueOf", desc := "(I)Ljava/lang/Integer;" } : Jvm.MethodName) jdk_33_method_22_code (1 : Nat) (Option.some (Jvm.ClassFile.FieldType.object "java/lang/Integer"))).before args0 about1 = true := code_word (m := ⟨8, 0⟩) (meth := k8m0) (c := k8c0) (by decide +kernel) rfl rfl rfl (by decide +kernel)
set_option maxRecDepth 65536 in
theorem w_c4 : (Jvm.Cond.code ({ cls := "java/lang/Long", name := "valueOf", desc := "(J)Ljava/lang/Long;" } : Jvm.MethodName) jdk_35_method_24_code (3 : Nat) (Option.some (Jvm.ClassFile.FieldType.object "java/lang/Long"))).before args0 about1 = true := code_word (m := ⟨10, 0⟩) (meth := k10m0) (c := k10c0) (by decide +kernel) rfl rfl rfl (by decide +kernel)
set_option maxRecDepth 65536 in
theorem w_c5 : (Jvm.Cond.code ({ cls := "com/example/vannus/vannus/Fingerprint", name := "equals", desc := "(Ljava/lang/Object;)Z" } : Jvm.MethodName) prog_6_method_4_code (3 : Nat) (Option.some Jvm.ClassFile.FieldType.boolean)).before args0 about1 = true := code_word (m := ⟨2, 1⟩) (meth := k2m1) (c := k2c1) (by decide +kernel) rfl rfl rfl (by decide +kernel)
set_option maxRecDepth 65536 in
theorem w_c6 : (Jvm.Cond.code ({ cls := "java/lang/Long", name := "<init>", desc := "(J)V" } : Jvm.MethodName) jdk_35_method_26_code (3 : Nat) (Option.none : Option Jvm.ClassFile.FieldType)).before args0 about1 = true := code_word (m := ⟨10, 1⟩) (meth := k10m1) (c := k10c1) (by decide +kernel) rfl rfl rfl (by decide +kernel)
set_option maxRecDepth 65536 in
theorem w_c7 : (Jvm.Cond.code ({ cls := "java/lang/Number", name := "<init>", desc := "()V" } : Jvm.MethodName) jdk_18_method_1_code (1 : Nat) (Option.none : Option Jvm.ClassFile.FieldType)).before args0 about1 = true := code_word (m := ⟨4, 0⟩) (meth := k4m0) (c := k4c0) (by decide +kernel) rfl rfl rfl (by decide +kernel)
set_option maxRecDepth 65536 in
theorem w_c8 : (Jvm.Cond.code ({ cls := "java/lang/Integer", name := "<init>", desc := "(I)V" } : Jvm.MethodName) jdk_33_method_23_code (2 : Nat) (Option.none : Option Jvm.ClassFile.FieldType)).before args0 about1 = true := code_word (m := ⟨8, 1⟩) (meth := k8m1) (c := k8c1) (by decide +kernel) rfl rfl rfl (by decide +kernel)
def codes1 : List Jvm.Cond := [Jvm.Cond.code x code maxLocals ret, Jvm.Cond.code ({ cls := "com/example/vannus/vannus/Fingerprint", name := "<init>", desc := "(JI)V" } : Jvm.MethodName) prog_6_method_1_code (4 : Nat) (Option.none : Option Jvm.ClassFile.FieldType), Jvm.Cond.code ({ cls := "java/lang/Object", name := "<init>", desc := "()V" } : Jvm.MethodName) object_method_1_code (1 : Nat) (Option.none : Option Jvm.ClassFile.FieldType), Jvm.Cond.code ({ cls := "java/lang/Integer", name := "valueOf", desc := "(I)Ljava/lang/Integer;" } : Jvm.MethodName) jdk_33_method_22_code (1 : Nat) (Option.some (Jvm.ClassFile.FieldType.object "java/lang/Integer")), Jvm.Cond.code ({ cls := "java/lang/Long", name := "valueOf", desc := "(J)Ljava/lang/Long;" } : Jvm.MethodName) jdk_35_method_24_code (3 : Nat) (Option.some (Jvm.ClassFile.FieldType.object "java/lang/Long")), Jvm.Cond.code ({ cls := "com/example/vannus/vannus/Fingerprint", name := "equals", desc := "(Ljava/lang/Object;)Z" } : Jvm.MethodName) prog_6_method_4_code (3 : Nat) (Option.some Jvm.ClassFile.FieldType.boolean), Jvm.Cond.code ({ cls := "java/lang/Long", name := "<init>", desc := "(J)V" } : Jvm.MethodName) jdk_35_method_26_code (3 : Nat) (Option.none : Option Jvm.ClassFile.FieldType), Jvm.Cond.code ({ cls := "java/lang/Number", name := "<init>", desc := "()V" } : Jvm.MethodName) jdk_18_method_1_code (1 : Nat) (Option.none : Option Jvm.ClassFile.FieldType), Jvm.Cond.code ({ cls := "java/lang/Integer", name := "<init>", desc := "(I)V" } : Jvm.MethodName) jdk_33_method_23_code (2 : Nat) (Option.none : Option Jvm.ClassFile.FieldType)]
set_option maxRecDepth 65536 in
theorem codes_eq : words1.filter isCode = codes1 := rfl
theorem w_codes : ∀ c ∈ words1.filter isCode, c.before args0 about1 = true := by
  rw [codes_eq]
  intro c hc
  simp only [codes1, List.mem_cons, List.not_mem_nil, or_false] at hc
  rcases hc with rfl | rfl | rfl | rfl | rfl | rfl | rfl | rfl | rfl
  · exact w_c0
  · exact w_c1
  · exact w_c2
  · exact w_c3
  · exact w_c4
  · exact w_c5
  · exact w_c6
  · exact w_c7
  · exact w_c8
set_option maxRecDepth 65536 in
theorem w_t1 : (words1.take 24).all (fun c => isCode c || c.before args0 about1) = true := by decide +kernel
set_option maxRecDepth 65536 in
theorem w_t2 : ((words1.drop 24).take 24).all (fun c => isCode c || c.before args0 about1) = true := by decide +kernel
set_option maxRecDepth 65536 in
theorem w_t3 : ((words1.drop 24).drop 24).all (fun c => isCode c || c.before args0 about1) = true := by decide +kernel
theorem w_tables : (allAtoms (Jvm.Cond.code x code maxLocals ret :: tables_1)).before args0 about1 = true := by
  rw [allAtoms_all]
  show words1.all (fun c => c.before args0 about1) = true
  refine all_split ?_ w_codes
  rw [← List.take_append_drop 24 words1, List.all_append, w_t1, ← List.take_append_drop 24 (words1.drop 24), List.all_append, w_t2, w_t3]
  rfl
set_option maxRecDepth 65536 in
theorem w_rest : rest_1_c.before args0 about1 = true := by decide +kernel
set_option maxRecDepth 65536 in
theorem w_case : (Jvm.Cond.and given_1 narrow_1).before args0 about1 = true := by decide +kernel
theorem w_applies : (headSpec (Jvm.Cond.code x code maxLocals ret :: tables_1) room_1).applies x e0.platform about1 = true :=
  (Spec.applies_iff w_frames).mpr ⟨w_running, w_runnable, w_alone, w_named, w_hears, w_ripe, w_room, w_tables⟩
theorem atStart : AtStart classFile x code maxLocals ret World_1 tables_1 room_1 Calls_1 rest_1 Pre_1 launch0 p0 e0 about1 theMethod args0 below0 :=
  ⟨lists_1, trivial, launch0.admits_env _ _ _, launch0.least_env, fairChoices_fair.cas, fairChoices_fair.clock, w_frames, w_args, w_heap, w_applies, trivial, w_rest, w_case⟩
end start1
theorem witness_1 : WitnessClaimed_1 := ⟨start1.p0, start1.e0, start1.about1, start1.theMethod, start1.args0, start1.below0, start1.atStart⟩
end Jvm.Pilot.@@N@@
