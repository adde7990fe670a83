import JvmDerived
import JvmDerived.Pilot.@@N@@Statement
import JvmDerived.Pilot.@@N@@Code
set_option linter.unusedVariables false
set_option linter.unusedSimpArgs false
@@BLOCK:NumsL.lean.txt@@
namespace Jvm.RoadKit
open Sem ClassFile Op Lib Jvm.Stand Jvm.Free Jvm.LawKit
section New
variable {p : Program} {l : Launch} {e : Env} {R : Room} {s : State} {m : MethodId} {args : Array Value} {below : List Frame} {meth : Method} {c : Code} {T : State} {locs : List Loc} {cells slots : Nat}
theorem retI (X : Stand p l e R s m args below meth c T locs cells slots) (hx : p.tables.exec = Jvm.exec) {pc : Nat} {Ls : Array Slot} {z : Int32} {rest : List Value} (hret : meth.sig.returnType = some .int) (hd : decode c.code pc = .ok (.ireturn, 1)) {fs : List Frame}
    (hl : ∀ (f : JFrame) (acts : List Action), f.method = m → f.locked = none → f.entered = [] → (doReturn e (T.setTop f) acts (some (.int z))).1 = T.setFrames fs) : Steps p.tables e below (T.setTop (mkF m pc Ls (.int z :: rest))) (T.setFrames fs) := by
  have hm' : T.vm.method? m = some meth := X.method'
  have hn : narrow .int (.int z) = .int z := rfl
  show Steps p.tables e below (T.setTop { method := m, pc := pc, locals := Ls, stack := _ :: rest, locked := none }) _
  jvm_step X.here [X.here.top, hx, hd, hm', hret, hn]
  first | (intro acts; rw [hl _ acts rfl rfl rfl]) | rw [hl _ _ rfl rfl rfl]
  exact Steps.refl _
theorem own_retD (X : Stand p l e R s m args below meth c T locs cells slots) (hx : p.tables.exec = Jvm.exec) {pc : Nat} {Ls : Array Slot} {z : UInt64} {rest : List Value} (hret : meth.sig.returnType = some .double) (hd : decode c.code pc = .ok (.dreturn, 1)) {fs : List Frame}
    (hl : ∀ (f : JFrame) (acts : List Action), f.method = m → f.locked = none → f.entered = [] → (doReturn e (T.setTop f) acts (some (.double z))).1 = T.setFrames fs) : Steps p.tables e below (T.setTop (mkF m pc Ls (.double z :: rest))) (T.setFrames fs) := by
  have hm' : T.vm.method? m = some meth := X.method'
  have hn : narrow .double (.double z) = .double z := rfl
  show Steps p.tables e below (T.setTop { method := m, pc := pc, locals := Ls, stack := _ :: rest, locked := none }) _
  jvm_step X.here [X.here.top, hx, hd, hm', hret, hn]
  first | (intro acts; rw [hl _ acts rfl rfl rfl]) | rw [hl _ _ rfl rfl rfl]
  exact Steps.refl _
theorem own_stand {L1 L2 : List Loc} {c1 c2 n1 n2 : Nat} (X : Stand p l e R s m args below meth c T L1 c1 n1) (h1 : L1 = L2) (h2 : c1 = c2) (h3 : n1 = n2) : Stand p l e R s m args below meth c T L2 c2 n2 := by
  subst h1 h2 h3
  exact X
theorem own_ldc2D {g : JFrame} {target : State} (X : Stand p l e R s m args below meth c T locs cells slots) (hx : p.tables.exec = Jvm.exec) {own : String} {index : Nat} {b : UInt64} (hown : s.vm.findClass own = some m.cls) (hc : (Cond.constantDouble own index b).before args s = true) (hg : g.method = m) (hd : decode c.code g.pc = .ok (.ldc2_w index, 3))
    (hr : Steps p.tables e below (T.setTop { g with pc := g.pc + 3, stack := .double b :: g.stack }) target) : Steps p.tables e below (T.setTop g) target := X.ldc2DoubleC hx hown hc hg hd target hr
end New
end Jvm.RoadKit
namespace Jvm.Pilot.@@N@@
open Jvm Jvm.ClassFile Sem Op Lib Jvm.Free Jvm.Stand Jvm.LawKit Jvm.RoadKit Bundle Jvm.Pilot.@@N@@.Jvm.D
theorem wd {a0 : Array Value} {Z : State} (hw : ∀ d ∈ tables_1, d.before a0 Z = true) (i : Nat) {d : Jvm.Cond} (h : tables_1[i]? = some d) : d.before a0 Z = true := hw _ (List.mem_of_getElem? h)
theorem own_rem32 (x y : Int32) : (x - (x / y) * y).toInt = x.toInt.tmod y.toInt := by
  rw [Int32.toInt_sub, Int32.toInt_mul, Int32.toInt_div]
  simp only [Int.bmod_mul_bmod, Int.sub_bmod_bmod]
  rw [Int.tmod_def, Int.mul_comm y.toInt]
  have h := Int32.toInt_mod x y
  have h1 := (x % y).toInt_lt
  have h2 := (x % y).le_toInt
  rw [h, Int.tmod_def, Int.mul_comm y.toInt] at h1 h2
  exact Int.bmod_eq_of_le (by omega) (by omega)
theorem own_nosub {Z : State} {a0 : Array Value} {C O K : String} {n : Nat} (wO : (Cond.noSuperclass O).before a0 Z = true) (wC : (Cond.superclass C O).before a0 Z = true) (wi : (Cond.instantiable K n).before a0 Z = true) (h1 : O ≠ K) (h2 : C ≠ K) : ∃ c t, Z.vm.findClass C = some c ∧ Z.vm.findClass K = some t ∧ Z.vm.assignable c t = false := by
  obtain ⟨t, kt, g1, g2, g3, g4, -, -⟩ := Cond.instantiable_spec wi
  obtain ⟨o, ko, o1, o2, o3, -, -⟩ := Cond.noSuperclass_spec wO
  have ne := ids_ne o1 g1 h1
  have n1 : NS Z O K := ⟨o, t, o1, g1, fun fuel => by
    cases fuel with
    | zero => rfl
    | succ f => simp [Vm.isSubclassAux, ne, o2, o3]⟩
  obtain ⟨c, t', q0, q1, n3⟩ := NS.step wC n1 h2
  cases g1.symm.trans q1
  obtain ⟨p, k, kp, a1, a2, a3, a4, a5, -, a7⟩ := Cond.superclass_spec q0 wC
  have ne2 := ids_ne q0 g1 h2
  have gi : kt.isInterface = false := by
    cases hq : kt.isInterface with
    | false => rfl
    | true => rw [hq] at g4; simp at g4
  refine ⟨c, t, q0, g1, ?_⟩
  show Z.vm.assignableAux (255 + 1) c t = false
  simp [Vm.assignableAux, ne2, a2, g2, a5, g3, gi, Vm.isSubclass, n3]
theorem own_ne_int {t : Term} {k v : Int32} {args : Array Value} {s : State} (h : (Cond.not (Cond.eq t (.int k))).before args s = true) (ht : t.eval args s none [] s = some (.int v)) : ¬ (v = k) := fun q => by
  have a := not_v (Cond.before_iff.mp h)
  have b : (Cond.eq t (.int k)).value args s none s [] = some true := eq_i ht (Term.int_eval k) (by rw [q])
  rw [b] at a
  cases a
theorem own_isref {t : Term} {args : Array Value} {s : State} (h : (Cond.isRef t).value args s none s [] = some true) : ∃ v, t.eval args s none [] s = some v ∧ (v = .null ∨ ∃ r, v = .ref r) := by
  simp only [Cond.value] at h
  cases hv : t.eval args s none [] s with
  | none => rw [hv] at h; simp at h
  | some v => rw [hv] at h; cases v <;> simp_all
/-own-/
def own_pick (k a0 a1 a2 a3 a4 a5 a6 a7 a8 a9 a10 a11 a12 a13 a14 a15 : Int32) : Int32 := if k = 0 then a0 else if k = 1 then a1 else if k = 2 then a2 else if k = 3 then a3 else if k = 4 then a4 else if k = 5 then a5 else if k = 6 then a6 else if k = 7 then a7 else if k = 8 then a8 else if k = 9 then a9 else if k = 10 then a10 else if k = 11 then a11 else if k = 12 then a12 else if k = 13 then a13 else if k = 14 then a14 else a15
theorem own_six {k : Int32} (h0 : ¬ (k < (0 : Int32))) (h9 : k < (16 : Int32)) : k = 0 ∨ k = 1 ∨ k = 2 ∨ k = 3 ∨ k = 4 ∨ k = 5 ∨ k = 6 ∨ k = 7 ∨ k = 8 ∨ k = 9 ∨ k = 10 ∨ k = 11 ∨ k = 12 ∨ k = 13 ∨ k = 14 ∨ k = 15 := by
  have c0 : (0 : Int32).toInt = 0 := by decide
  have c9 : (16 : Int32).toInt = 16 := by decide
  rw [Int32.lt_iff_toInt_lt, c0] at h0
  rw [Int32.lt_iff_toInt_lt, c9] at h9
  have k0 : k.toInt = 0 ∨ k.toInt = 1 ∨ k.toInt = 2 ∨ k.toInt = 3 ∨ k.toInt = 4 ∨ k.toInt = 5 ∨ k.toInt = 6 ∨ k.toInt = 7 ∨ k.toInt = 8 ∨ k.toInt = 9 ∨ k.toInt = 10 ∨ k.toInt = 11 ∨ k.toInt = 12 ∨ k.toInt = 13 ∨ k.toInt = 14 ∨ k.toInt = 15 := by omega
  rcases k0 with q | q | q | q | q | q | q | q | q | q | q | q | q | q | q | q
  · exact Or.inl (Int32.toInt_inj.mp (by rw [q]; decide))
  · exact Or.inr (Or.inl (Int32.toInt_inj.mp (by rw [q]; decide)))
  · exact Or.inr (Or.inr (Or.inl (Int32.toInt_inj.mp (by rw [q]; decide))))
  · exact Or.inr (Or.inr (Or.inr (Or.inl (Int32.toInt_inj.mp (by rw [q]; decide)))))
  · exact Or.inr (Or.inr (Or.inr (Or.inr (Or.inl (Int32.toInt_inj.mp (by rw [q]; decide))))))
  · exact Or.inr (Or.inr (Or.inr (Or.inr (Or.inr (Or.inl (Int32.toInt_inj.mp (by rw [q]; decide)))))))
  · exact Or.inr (Or.inr (Or.inr (Or.inr (Or.inr (Or.inr (Or.inl (Int32.toInt_inj.mp (by rw [q]; decide))))))))
  · exact Or.inr (Or.inr (Or.inr (Or.inr (Or.inr (Or.inr (Or.inr (Or.inl (Int32.toInt_inj.mp (by rw [q]; decide)))))))))
  · exact Or.inr (Or.inr (Or.inr (Or.inr (Or.inr (Or.inr (Or.inr (Or.inr (Or.inl (Int32.toInt_inj.mp (by rw [q]; decide))))))))))
  · exact Or.inr (Or.inr (Or.inr (Or.inr (Or.inr (Or.inr (Or.inr (Or.inr (Or.inr (Or.inl (Int32.toInt_inj.mp (by rw [q]; decide)))))))))))
  · exact Or.inr (Or.inr (Or.inr (Or.inr (Or.inr (Or.inr (Or.inr (Or.inr (Or.inr (Or.inr (Or.inl (Int32.toInt_inj.mp (by rw [q]; decide))))))))))))
  · exact Or.inr (Or.inr (Or.inr (Or.inr (Or.inr (Or.inr (Or.inr (Or.inr (Or.inr (Or.inr (Or.inr (Or.inl (Int32.toInt_inj.mp (by rw [q]; decide)))))))))))))
  · exact Or.inr (Or.inr (Or.inr (Or.inr (Or.inr (Or.inr (Or.inr (Or.inr (Or.inr (Or.inr (Or.inr (Or.inr (Or.inl (Int32.toInt_inj.mp (by rw [q]; decide))))))))))))))
  · exact Or.inr (Or.inr (Or.inr (Or.inr (Or.inr (Or.inr (Or.inr (Or.inr (Or.inr (Or.inr (Or.inr (Or.inr (Or.inr (Or.inl (Int32.toInt_inj.mp (by rw [q]; decide)))))))))))))))
  · exact Or.inr (Or.inr (Or.inr (Or.inr (Or.inr (Or.inr (Or.inr (Or.inr (Or.inr (Or.inr (Or.inr (Or.inr (Or.inr (Or.inr (Or.inl (Int32.toInt_inj.mp (by rw [q]; decide))))))))))))))))
  · exact Or.inr (Or.inr (Or.inr (Or.inr (Or.inr (Or.inr (Or.inr (Or.inr (Or.inr (Or.inr (Or.inr (Or.inr (Or.inr (Or.inr (Or.inr ((Int32.toInt_inj.mp (by rw [q]; decide)))))))))))))))))
theorem own_get {k a0 a1 a2 a3 a4 a5 a6 a7 a8 a9 a10 a11 a12 a13 a14 a15 : Int32} (h0 : ¬ (k < (0 : Int32))) (h9 : k < (16 : Int32)) : ([.int a0, .int a1, .int a2, .int a3, .int a4, .int a5, .int a6, .int a7, .int a8, .int a9, .int a10, .int a11, .int a12, .int a13, .int a14, .int a15] : List Value).getD k.toNatClampNeg (.int (0 : Int32)) = .int (own_pick k a0 a1 a2 a3 a4 a5 a6 a7 a8 a9 a10 a11 a12 a13 a14 a15) := by
  rcases own_six h0 h9 with rfl | rfl | rfl | rfl | rfl | rfl | rfl | rfl | rfl | rfl | rfl | rfl | rfl | rfl | rfl | rfl <;> rfl
theorem d5_0 : decode jdk_41_method_11_code 0 = .ok (.iload_n 0, 1) := by decide +kernel
theorem d5_1 : decode jdk_41_method_11_code 1 = .ok (.ifCond .lt 8, 3) := by decide +kernel
theorem d5_4 : decode jdk_41_method_11_code 4 = .ok (.iload_n 0, 1) := by decide +kernel
theorem d5_5 : decode jdk_41_method_11_code 5 = .ok (.iload_n 1, 1) := by decide +kernel
theorem d5_6 : decode jdk_41_method_11_code 6 = .ok (.if_icmp .lt 10, 3) := by decide +kernel
theorem d5_16 : decode jdk_41_method_11_code 16 = .ok (.iload_n 0, 1) := by decide +kernel
theorem d5_17 : decode jdk_41_method_11_code 17 = .ok (.ireturn, 1) := by decide +kernel
theorem pn_jdk_internal_util_Preconditions : plainName "jdk/internal/util/Preconditions" = true := by first | (simp [plainName, overriddenIn]; done) | decide +kernel
theorem ef_5 (m : MethodId) (p0 : Int32) (p1 : Int32) (o2 : Addr) : entryFrame m #[(.int p0), (.int p1), (.ref o2)] 3 = mkF m 0 #[.val (.int p0), .val (.int p1), .val (.ref o2)] [] := by first | (simp [entryFrame, mkF, argsToLocals, Value.category]; done) | rfl
def f5 (p0 : Int32) (p1 : Int32) : Int32 := p0
def Q5 (Z : State) (p0 : Int32) (p1 : Int32) (o2 : Addr) (h0 : Heap) (n0 : Nat) (v : Option Value) (h : Heap) (L : List Loc) : Prop := Fr n0 L ∧ v = some (.int (f5 p0 p1)) ∧ h = h0
set_option maxRecDepth 65536 in
set_option maxHeartbeats 40000000 in
theorem rm5 (l : Launch) (Z : State) (a0 : Array Value) (hw : ∀ d ∈ tables_1, d.before a0 Z = true) (ws : List Jvm.Cond) (p0 : Int32) (p1 : Int32) (o2 : Addr) (h0 : Heap) (n0 : Nat) (Z0 : n0 ≤ h0.size) (hy0 : ¬ (p0 < (0 : Int32))) (hy1 : p0 < p1) :
    MetFree l (⟨"jdk/internal/util/Preconditions", "checkIndex", "(IILjava/util/function/BiFunction;)I"⟩ : MethodName) (head1 (Jvm.Cond.code (⟨"jdk/internal/util/Preconditions", "checkIndex", "(IILjava/util/function/BiFunction;)I"⟩ : MethodName) jdk_41_method_11_code 3 (some .int) :: ws) ({ frames := 0, cells := 0, slots := 0, locals := 0 } : Room)) (fun a U => a = #[(.int p0), (.int p1), (.ref o2)] ∧ Z.Warmed39 U.vm ∧ U.heap = h0) (fun _ _ _ _ _ => True) (fun _ U o U' => ∃ v L, o = .returned v ∧ Q5 Z p0 p1 o2 h0 n0 v U'.heap L ∧ FrameEnd U o U' L ({ frames := 0, cells := 0, slots := 0, locals := 0 } : Room).cells ({ frames := 0, cells := 0, slots := 0, locals := 0 } : Room).slots) := by
  refine MetFree.of_bodySF (plainFor_of_name pn_jdk_internal_util_Preconditions) hisR ?_
  intro p e s m args below meth c s₁ Bd hml0 hP hK
  obtain ⟨rfl, hZ, hh⟩ := hP
  have hx := Bd.exec
  have hby := Bd.bytes
  have hml : c.maxLocals = 3 := hml0
  have hown : s.vm.findClass "jdk/internal/util/Preconditions" = some m.cls := findClass_of_methodNamed Bd.named
  have hnm := (name_of_methodNamed Bd.named Bd.method).1
  have hlk := BodyLoose.notSynchronized Bd
  have X0 : Stand p l e ({ frames := 0, cells := 0, slots := 0, locals := 0 } : Room) s m #[(.int p0), (.int p1), (.ref o2)] below meth c s₁ [] 0 0 := Stand.of_body Bd
  have e0 : s₁.heap = h0 := by rw [← hh, Bd.state]; rfl
  have N0 := Fr.nil n0
  have pre0 : ∀ t, Steps p.tables e below (s₁.setTop (mkF m 0 #[.val (.int p0), .val (.int p1), .val (.ref o2)] [])) t → Steps p.tables e below (s₁.setTop (entryFrame m #[(.int p0), (.int p1), (.ref o2)] 3)) t := fun t k => castTop (ef_5 m p0 p1 o2) k
  obtain ⟨fs, hr, hrun, hended, hW, hsame⟩ := X0.leave (v := some (.int p0)) (fun h => by rw [Bd.returns] at h; cases h) hlk
  refine ⟨_, _, pre0 _ ?_, hrun, hended, _, _, rfl, ?_, ⟨_, rfl⟩, hW, hsame.mono (by decide) (by decide)⟩
  · skip
    show Steps p.tables e below (s₁.setTop (mkF m 0 #[.val (.int p0), .val (.int p1), .val (.ref o2)] [])) _
    refine XS.iloadN X0.here hx rfl (hb hby d5_0) rfl ?_
    show Steps p.tables e below (s₁.setTop (mkF m 1 #[.val (.int p0), .val (.int p1), .val (.ref o2)] [(.int p0)])) _
    refine XS.ifNo X0.here hx rfl (hb hby d5_1) rfl (XT.i0_lt_f hy0) ?_
    show Steps p.tables e below (s₁.setTop (mkF m 4 #[.val (.int p0), .val (.int p1), .val (.ref o2)] [])) _
    refine XS.iloadN X0.here hx rfl (hb hby d5_4) rfl ?_
    show Steps p.tables e below (s₁.setTop (mkF m 5 #[.val (.int p0), .val (.int p1), .val (.ref o2)] [(.int p0)])) _
    refine XS.iloadN X0.here hx rfl (hb hby d5_5) rfl ?_
    show Steps p.tables e below (s₁.setTop (mkF m 6 #[.val (.int p0), .val (.int p1), .val (.ref o2)] [(.int p1), (.int p0)])) _
    refine XS.icmpYes X0.here hx rfl (pc0 := 6) (pc' := 16) rfl (hb hby d5_6) rfl (XT.ii_lt_t hy1) (by decide) (by decide) ?_
    show Steps p.tables e below (s₁.setTop (mkF m 16 #[.val (.int p0), .val (.int p1), .val (.ref o2)] [])) _
    refine XS.iloadN X0.here hx rfl (hb hby d5_16) rfl ?_
    show Steps p.tables e below (s₁.setTop (mkF m 17 #[.val (.int p0), .val (.int p1), .val (.ref o2)] [(.int p0)])) _
    exact retI X0 hx Bd.returns (hb hby d5_17) hr
  · skip
    show Q5 Z p0 p1 o2 h0 n0 _ s₁.heap _
    rw [e0]
    exact ⟨N0, rfl, rfl⟩
theorem ef_pcN (m : MethodId) (p0 : Int32) (p1 : Int32) : entryFrame m #[(.int p0), (.int p1), .null] 3 = mkF m 0 #[.val (.int p0), .val (.int p1), .val .null] [] := by first | (simp [entryFrame, mkF, argsToLocals, Value.category]; done) | rfl
def fpcN (p0 : Int32) (p1 : Int32) : Int32 := p0
def QpcN (Z : State) (p0 : Int32) (p1 : Int32) (h0 : Heap) (n0 : Nat) (v : Option Value) (h : Heap) (L : List Loc) : Prop := Fr n0 L ∧ v = some (.int (fpcN p0 p1)) ∧ h = h0
set_option maxRecDepth 65536 in
set_option maxHeartbeats 40000000 in
theorem rmpcN (l : Launch) (Z : State) (a0 : Array Value) (hw : ∀ d ∈ tables_1, d.before a0 Z = true) (ws : List Jvm.Cond) (p0 : Int32) (p1 : Int32) (h0 : Heap) (n0 : Nat) (Z0 : n0 ≤ h0.size) (hy0 : ¬ (p0 < (0 : Int32))) (hy1 : p0 < p1) :
    MetFree l (⟨"jdk/internal/util/Preconditions", "checkIndex", "(IILjava/util/function/BiFunction;)I"⟩ : MethodName) (head1 (Jvm.Cond.code (⟨"jdk/internal/util/Preconditions", "checkIndex", "(IILjava/util/function/BiFunction;)I"⟩ : MethodName) jdk_41_method_11_code 3 (some .int) :: ws) ({ frames := 0, cells := 0, slots := 0, locals := 0 } : Room)) (fun a U => a = #[(.int p0), (.int p1), .null] ∧ Z.Warmed39 U.vm ∧ U.heap = h0) (fun _ _ _ _ _ => True) (fun _ U o U' => ∃ v L, o = .returned v ∧ QpcN Z p0 p1 h0 n0 v U'.heap L ∧ FrameEnd U o U' L ({ frames := 0, cells := 0, slots := 0, locals := 0 } : Room).cells ({ frames := 0, cells := 0, slots := 0, locals := 0 } : Room).slots) := by
  refine MetFree.of_bodySF (plainFor_of_name pn_jdk_internal_util_Preconditions) hisR ?_
  intro p e s m args below meth c s₁ Bd hml0 hP hK
  obtain ⟨rfl, hZ, hh⟩ := hP
  have hx := Bd.exec
  have hby := Bd.bytes
  have hml : c.maxLocals = 3 := hml0
  have hown : s.vm.findClass "jdk/internal/util/Preconditions" = some m.cls := findClass_of_methodNamed Bd.named
  have hnm := (name_of_methodNamed Bd.named Bd.method).1
  have hlk := BodyLoose.notSynchronized Bd
  have X0 : Stand p l e ({ frames := 0, cells := 0, slots := 0, locals := 0 } : Room) s m #[(.int p0), (.int p1), .null] below meth c s₁ [] 0 0 := Stand.of_body Bd
  have e0 : s₁.heap = h0 := by rw [← hh, Bd.state]; rfl
  have N0 := Fr.nil n0
  have pre0 : ∀ t, Steps p.tables e below (s₁.setTop (mkF m 0 #[.val (.int p0), .val (.int p1), .val .null] [])) t → Steps p.tables e below (s₁.setTop (entryFrame m #[(.int p0), (.int p1), .null] 3)) t := fun t k => castTop (ef_pcN m p0 p1) k
  obtain ⟨fs, hr, hrun, hended, hW, hsame⟩ := X0.leave (v := some (.int p0)) (fun h => by rw [Bd.returns] at h; cases h) hlk
  refine ⟨_, _, pre0 _ ?_, hrun, hended, _, _, rfl, ?_, ⟨_, rfl⟩, hW, hsame.mono (by decide) (by decide)⟩
  · skip
    show Steps p.tables e below (s₁.setTop (mkF m 0 #[.val (.int p0), .val (.int p1), .val .null] [])) _
    refine XS.iloadN X0.here hx rfl (hb hby d5_0) rfl ?_
    show Steps p.tables e below (s₁.setTop (mkF m 1 #[.val (.int p0), .val (.int p1), .val .null] [(.int p0)])) _
    refine XS.ifNo X0.here hx rfl (hb hby d5_1) rfl (XT.i0_lt_f hy0) ?_
    show Steps p.tables e below (s₁.setTop (mkF m 4 #[.val (.int p0), .val (.int p1), .val .null] [])) _
    refine XS.iloadN X0.here hx rfl (hb hby d5_4) rfl ?_
    show Steps p.tables e below (s₁.setTop (mkF m 5 #[.val (.int p0), .val (.int p1), .val .null] [(.int p0)])) _
    refine XS.iloadN X0.here hx rfl (hb hby d5_5) rfl ?_
    show Steps p.tables e below (s₁.setTop (mkF m 6 #[.val (.int p0), .val (.int p1), .val .null] [(.int p1), (.int p0)])) _
    refine XS.icmpYes X0.here hx rfl (pc0 := 6) (pc' := 16) rfl (hb hby d5_6) rfl (XT.ii_lt_t hy1) (by decide) (by decide) ?_
    show Steps p.tables e below (s₁.setTop (mkF m 16 #[.val (.int p0), .val (.int p1), .val .null] [])) _
    refine XS.iloadN X0.here hx rfl (hb hby d5_16) rfl ?_
    show Steps p.tables e below (s₁.setTop (mkF m 17 #[.val (.int p0), .val (.int p1), .val .null] [(.int p0)])) _
    exact retI X0 hx Bd.returns (hb hby d5_17) hr
  · skip
    show QpcN Z p0 p1 h0 n0 _ s₁.heap _
    rw [e0]
    exact ⟨N0, rfl, rfl⟩
theorem pd__IILjava_util_function_BiFunction__I : parseMethodDescriptor "(IILjava/util/function/BiFunction;)I" = some ⟨[.int, .int, (.object "java/util/function/BiFunction")], some .int⟩ := by decide +kernel
theorem d4_0 : decode jdk_42_method_155_code 0 = .ok (.iload_n 0, 1) := by decide +kernel
theorem d4_1 : decode jdk_42_method_155_code 1 = .ok (.iload_n 1, 1) := by decide +kernel
theorem d4_2 : decode jdk_42_method_155_code 2 = .ok (.getstatic 1053, 3) := by decide +kernel
theorem d4_5 : decode jdk_42_method_155_code 5 = .ok (.invokestatic 1059, 3) := by decide +kernel
theorem d4_8 : decode jdk_42_method_155_code 8 = .ok (.pop, 1) := by decide +kernel
theorem d4_9 : decode jdk_42_method_155_code 9 = .ok (.return_, 1) := by decide +kernel
theorem pn_java_lang_String : plainName "java/lang/String" = true := by first | (simp [plainName, overriddenIn]; done) | decide +kernel
theorem ef_ckR (m : MethodId) (p0 : Int32) (p1 : Int32) : entryFrame m #[(.int p0), (.int p1)] 2 = mkF m 0 #[.val (.int p0), .val (.int p1)] [] := by first | (simp [entryFrame, mkF, argsToLocals, Value.category]; done) | rfl
def QckR (Z : State) (p0 : Int32) (p1 : Int32) (w0_SIOOBE_FORMATTER : Addr) (h0 : Heap) (n0 : Nat) (v : Option Value) (h : Heap) (L : List Loc) : Prop := Fr n0 L ∧ v = none ∧ h = h0
set_option maxRecDepth 65536 in
set_option maxHeartbeats 40000000 in
theorem rmckR (l : Launch) (Z : State) (a0 : Array Value) (hw : ∀ d ∈ tables_1, d.before a0 Z = true) (ws : List Jvm.Cond) (p0 : Int32) (p1 : Int32) (w0_SIOOBE_FORMATTER : Addr) (h0 : Heap) (n0 : Nat) (Z0 : n0 ≤ h0.size) (S_Preconditions_SIOOBE_FORMATTER : Sta Z h0 "jdk/internal/util/Preconditions" "SIOOBE_FORMATTER" "Ljava/util/function/BiFunction;" (.ref w0_SIOOBE_FORMATTER)) (hy0 : ¬ (p0 < (0 : Int32))) (hy1 : p0 < p1) :
    MetFree l (⟨"java/lang/String", "checkIndex", "(II)V"⟩ : MethodName) (head1 (Jvm.Cond.code (⟨"java/lang/String", "checkIndex", "(II)V"⟩ : MethodName) jdk_42_method_155_code 2 none :: ws) ({ frames := 1, cells := 0, slots := 0, locals := 14 } : Room)) (fun a U => a = #[(.int p0), (.int p1)] ∧ Z.Warmed39 U.vm ∧ U.heap = h0) (fun _ _ _ _ _ => True) (fun _ U o U' => ∃ v L, o = .returned v ∧ QckR Z p0 p1 w0_SIOOBE_FORMATTER h0 n0 v U'.heap L ∧ FrameEnd U o U' L ({ frames := 1, cells := 0, slots := 0, locals := 14 } : Room).cells ({ frames := 1, cells := 0, slots := 0, locals := 14 } : Room).slots) := by
  refine MetFree.of_bodySF (plainFor_of_name pn_java_lang_String) hisR ?_
  intro p e s m args below meth c s₁ Bd hml0 hP hK
  obtain ⟨rfl, hZ, hh⟩ := hP
  have hx := Bd.exec
  have hby := Bd.bytes
  have hml : c.maxLocals = 2 := hml0
  have hown : s.vm.findClass "java/lang/String" = some m.cls := findClass_of_methodNamed Bd.named
  have hnm := (name_of_methodNamed Bd.named Bd.method).1
  have hlk := BodyLoose.notSynchronized Bd
  have X0 : Stand p l e ({ frames := 1, cells := 0, slots := 0, locals := 14 } : Room) s m #[(.int p0), (.int p1)] below meth c s₁ [] 0 0 := Stand.of_body Bd
  have e0 : s₁.heap = h0 := by rw [← hh, Bd.state]; rfl
  have N0 := Fr.nil n0
  have pre0 : ∀ t, Steps p.tables e below (s₁.setTop (mkF m 0 #[.val (.int p0), .val (.int p1)] [])) t → Steps p.tables e below (s₁.setTop (entryFrame m #[(.int p0), (.int p1)] 2)) t := fun t k => castTop (ef_ckR m p0 p1) k
  obtain ⟨T1, X1, e1, st1⟩ := getS2 X0 hx hZ hown (host := "") (Or.inl (wd hw 29 rfl)) Via.refl e0 S_Preconditions_SIOOBE_FORMATTER (g := (mkF m 2 #[.val (.int p0), .val (.int p1)] [(.int p1), (.int p0)])) rfl (hb hby d4_2)
  obtain ⟨vr2, _, ⟨T2, L2, k2, n2⟩, -, X2, ⟨Lc2, hQ2, l2, y2, z2⟩, st2⟩ := Jvm.LawKit.callS X1 hx (y := (⟨"jdk/internal/util/Preconditions", "checkIndex", "(IILjava/util/function/BiFunction;)I"⟩ : MethodName)) hown (mvT hZ (wd hw 31 rfl)) (mvT hZ (wd hw 32 rfl)) (mvT hZ (wd hw 30 rfl)) (mvT hZ (wd hw 33 rfl)) (by decide) (backOf (W := 0) (rm5 l Z a0 hw [] p0 p1 w0_SIOOBE_FORMATTER h0 n0 Z0 hy0 hy1) hZ (wd hw 33 rfl) (wd hw 30 rfl) (by decide) (by decide)) (g := (mkF m 5 #[.val (.int p0), .val (.int p1)] [(.ref w0_SIOOBE_FORMATTER), (.int p1), (.int p0)])) rfl (by rw [hml]; rfl) (argsL := [(.int p0), (.int p1), (.ref w0_SIOOBE_FORMATTER)]) (rest := []) (lenOf pd__IILjava_util_function_BiFunction__I rfl) rfl (by show 2 * 0 + _ ≤ _; exact Nat.le_of_eq rfl) (hb hby d4_5) (fun _ _ => ⟨rfl, e1, (by decide : 0 + 0 ≤ _), (by decide : 0 + 0 ≤ _)⟩)
  dsimp only [Pt.U, Pt.locs, Pt.cells, Pt.slots] at X2 l2 y2 z2 st2 hQ2
  replace X2 := own_stand X2 l2 y2 z2
  clear l2 y2 z2
  have N2q := (show _ ∧ _ ∧ _ from hQ2).1
  have hv2 := (show _ ∧ _ ∧ _ from hQ2).2.1
  have e2 := (show _ ∧ _ ∧ _ from hQ2).2.2
  clear hQ2
  subst hv2
  have N2 := Fr.app N0 N2q
  obtain ⟨fs, hr, hrun, hended, hW, hsame⟩ := X2.leave (v := none) (fun _ => rfl) hlk
  refine ⟨_, _, pre0 _ ?_, hrun, hended, _, _, rfl, ?_, ⟨_, rfl⟩, hW, hsame.mono (by decide) (by decide)⟩
  · skip
    show Steps p.tables e below (s₁.setTop (mkF m 0 #[.val (.int p0), .val (.int p1)] [])) _
    refine XS.iloadN X0.here hx rfl (hb hby d4_0) rfl ?_
    show Steps p.tables e below (s₁.setTop (mkF m 1 #[.val (.int p0), .val (.int p1)] [(.int p0)])) _
    refine XS.iloadN X0.here hx rfl (hb hby d4_1) rfl ?_
    show Steps p.tables e below (s₁.setTop (mkF m 2 #[.val (.int p0), .val (.int p1)] [(.int p1), (.int p0)])) _
    refine st1 _ ?_
    show Steps p.tables e below (T1.setTop (mkF m 5 #[.val (.int p0), .val (.int p1)] [(.ref w0_SIOOBE_FORMATTER), (.int p1), (.int p0)])) _
    refine st2 _ ?_
    show Steps p.tables e below (T2.setTop (mkF m 8 #[.val (.int p0), .val (.int p1)] [(.int (f5 p0 p1))])) _
    refine XT.pop X2.here hx rfl (hb hby d4_8) rfl rfl ?_
    show Steps p.tables e below (T2.setTop (mkF m 9 #[.val (.int p0), .val (.int p1)] [])) _
    exact X2.returnOut hx Bd.returns (hb hby d4_9) hr
  · skip
    show QckR Z p0 p1 w0_SIOOBE_FORMATTER h0 n0 _ T2.heap _
    rw [e2]
    exact ⟨N2, rfl, rfl⟩
theorem ef_ckN (m : MethodId) (p0 : Int32) (p1 : Int32) : entryFrame m #[(.int p0), (.int p1)] 2 = mkF m 0 #[.val (.int p0), .val (.int p1)] [] := by first | (simp [entryFrame, mkF, argsToLocals, Value.category]; done) | rfl
def QckN (Z : State) (p0 : Int32) (p1 : Int32) (h0 : Heap) (n0 : Nat) (v : Option Value) (h : Heap) (L : List Loc) : Prop := Fr n0 L ∧ v = none ∧ h = h0
set_option maxRecDepth 65536 in
set_option maxHeartbeats 40000000 in
theorem rmckN (l : Launch) (Z : State) (a0 : Array Value) (hw : ∀ d ∈ tables_1, d.before a0 Z = true) (ws : List Jvm.Cond) (p0 : Int32) (p1 : Int32) (h0 : Heap) (n0 : Nat) (Z0 : n0 ≤ h0.size) (S_Preconditions_SIOOBE_FORMATTER : Sta Z h0 "jdk/internal/util/Preconditions" "SIOOBE_FORMATTER" "Ljava/util/function/BiFunction;" .null) (hy0 : ¬ (p0 < (0 : Int32))) (hy1 : p0 < p1) :
    MetFree l (⟨"java/lang/String", "checkIndex", "(II)V"⟩ : MethodName) (head1 (Jvm.Cond.code (⟨"java/lang/String", "checkIndex", "(II)V"⟩ : MethodName) jdk_42_method_155_code 2 none :: ws) ({ frames := 1, cells := 0, slots := 0, locals := 14 } : Room)) (fun a U => a = #[(.int p0), (.int p1)] ∧ Z.Warmed39 U.vm ∧ U.heap = h0) (fun _ _ _ _ _ => True) (fun _ U o U' => ∃ v L, o = .returned v ∧ QckN Z p0 p1 h0 n0 v U'.heap L ∧ FrameEnd U o U' L ({ frames := 1, cells := 0, slots := 0, locals := 14 } : Room).cells ({ frames := 1, cells := 0, slots := 0, locals := 14 } : Room).slots) := by
  refine MetFree.of_bodySF (plainFor_of_name pn_java_lang_String) hisR ?_
  intro p e s m args below meth c s₁ Bd hml0 hP hK
  obtain ⟨rfl, hZ, hh⟩ := hP
  have hx := Bd.exec
  have hby := Bd.bytes
  have hml : c.maxLocals = 2 := hml0
  have hown : s.vm.findClass "java/lang/String" = some m.cls := findClass_of_methodNamed Bd.named
  have hnm := (name_of_methodNamed Bd.named Bd.method).1
  have hlk := BodyLoose.notSynchronized Bd
  have X0 : Stand p l e ({ frames := 1, cells := 0, slots := 0, locals := 14 } : Room) s m #[(.int p0), (.int p1)] below meth c s₁ [] 0 0 := Stand.of_body Bd
  have e0 : s₁.heap = h0 := by rw [← hh, Bd.state]; rfl
  have N0 := Fr.nil n0
  have pre0 : ∀ t, Steps p.tables e below (s₁.setTop (mkF m 0 #[.val (.int p0), .val (.int p1)] [])) t → Steps p.tables e below (s₁.setTop (entryFrame m #[(.int p0), (.int p1)] 2)) t := fun t k => castTop (ef_ckN m p0 p1) k
  obtain ⟨T1, X1, e1, st1⟩ := getS2 X0 hx hZ hown (host := "") (Or.inl (wd hw 29 rfl)) Via.refl e0 S_Preconditions_SIOOBE_FORMATTER (g := (mkF m 2 #[.val (.int p0), .val (.int p1)] [(.int p1), (.int p0)])) rfl (hb hby d4_2)
  obtain ⟨vr2, _, ⟨T2, L2, k2, n2⟩, -, X2, ⟨Lc2, hQ2, l2, y2, z2⟩, st2⟩ := Jvm.LawKit.callS X1 hx (y := (⟨"jdk/internal/util/Preconditions", "checkIndex", "(IILjava/util/function/BiFunction;)I"⟩ : MethodName)) hown (mvT hZ (wd hw 31 rfl)) (mvT hZ (wd hw 32 rfl)) (mvT hZ (wd hw 30 rfl)) (mvT hZ (wd hw 33 rfl)) (by decide) (backOf (W := 0) (rmpcN l Z a0 hw [] p0 p1 h0 n0 Z0 hy0 hy1) hZ (wd hw 33 rfl) (wd hw 30 rfl) (by decide) (by decide)) (g := (mkF m 5 #[.val (.int p0), .val (.int p1)] [.null, (.int p1), (.int p0)])) rfl (by rw [hml]; rfl) (argsL := [(.int p0), (.int p1), .null]) (rest := []) (lenOf pd__IILjava_util_function_BiFunction__I rfl) rfl (by show 2 * 0 + _ ≤ _; exact Nat.le_of_eq rfl) (hb hby d4_5) (fun _ _ => ⟨rfl, e1, (by decide : 0 + 0 ≤ _), (by decide : 0 + 0 ≤ _)⟩)
  dsimp only [Pt.U, Pt.locs, Pt.cells, Pt.slots] at X2 l2 y2 z2 st2 hQ2
  replace X2 := own_stand X2 l2 y2 z2
  clear l2 y2 z2
  have N2q := (show _ ∧ _ ∧ _ from hQ2).1
  have hv2 := (show _ ∧ _ ∧ _ from hQ2).2.1
  have e2 := (show _ ∧ _ ∧ _ from hQ2).2.2
  clear hQ2
  subst hv2
  have N2 := Fr.app N0 N2q
  obtain ⟨fs, hr, hrun, hended, hW, hsame⟩ := X2.leave (v := none) (fun _ => rfl) hlk
  refine ⟨_, _, pre0 _ ?_, hrun, hended, _, _, rfl, ?_, ⟨_, rfl⟩, hW, hsame.mono (by decide) (by decide)⟩
  · skip
    show Steps p.tables e below (s₁.setTop (mkF m 0 #[.val (.int p0), .val (.int p1)] [])) _
    refine XS.iloadN X0.here hx rfl (hb hby d4_0) rfl ?_
    show Steps p.tables e below (s₁.setTop (mkF m 1 #[.val (.int p0), .val (.int p1)] [(.int p0)])) _
    refine XS.iloadN X0.here hx rfl (hb hby d4_1) rfl ?_
    show Steps p.tables e below (s₁.setTop (mkF m 2 #[.val (.int p0), .val (.int p1)] [(.int p1), (.int p0)])) _
    refine st1 _ ?_
    show Steps p.tables e below (T1.setTop (mkF m 5 #[.val (.int p0), .val (.int p1)] [.null, (.int p1), (.int p0)])) _
    refine st2 _ ?_
    show Steps p.tables e below (T2.setTop (mkF m 8 #[.val (.int p0), .val (.int p1)] [(.int (fpcN p0 p1))])) _
    refine XT.pop X2.here hx rfl (hb hby d4_8) rfl rfl ?_
    show Steps p.tables e below (T2.setTop (mkF m 9 #[.val (.int p0), .val (.int p1)] [])) _
    exact X2.returnOut hx Bd.returns (hb hby d4_9) hr
  · skip
    show QckN Z p0 p1 h0 n0 _ T2.heap _
    rw [e2]
    exact ⟨N2, rfl, rfl⟩
def Qck (n0 : Nat) (h0 : Heap) (v : Option Value) (h : Heap) (L : List Loc) : Prop := Fr n0 L ∧ v = none ∧ h = h0
theorem own_ck (l : Launch) (Z : State) (a0 : Array Value) (hw : ∀ d ∈ tables_1, d.before a0 Z = true) (ws : List Jvm.Cond) (p0 : Int32) (p1 : Int32) (u0_SIOOBE_FORMATTER : Value) (h0 : Heap) (n0 : Nat) (Z0 : n0 ≤ h0.size) (S_Preconditions_SIOOBE_FORMATTER : Sta Z h0 "jdk/internal/util/Preconditions" "SIOOBE_FORMATTER" "Ljava/util/function/BiFunction;" u0_SIOOBE_FORMATTER) (hu : u0_SIOOBE_FORMATTER = .null ∨ ∃ r, u0_SIOOBE_FORMATTER = .ref r) (hy0 : ¬ (p0 < (0 : Int32))) (hy1 : p0 < p1) :
    MetFree l (⟨"java/lang/String", "checkIndex", "(II)V"⟩ : MethodName) (head1 (Jvm.Cond.code (⟨"java/lang/String", "checkIndex", "(II)V"⟩ : MethodName) jdk_42_method_155_code 2 none :: ws) ({ frames := 1, cells := 0, slots := 0, locals := 14 } : Room)) (fun a U => a = #[(.int p0), (.int p1)] ∧ Z.Warmed39 U.vm ∧ U.heap = h0) (fun _ _ _ _ _ => True) (fun _ U o U' => ∃ v L, o = .returned v ∧ Qck n0 h0 v U'.heap L ∧ FrameEnd U o U' L ({ frames := 1, cells := 0, slots := 0, locals := 14 } : Room).cells ({ frames := 1, cells := 0, slots := 0, locals := 14 } : Room).slots) := by
  rcases hu with rfl | ⟨r, rfl⟩
  · exact rmckN l Z a0 hw ws p0 p1 h0 n0 Z0 S_Preconditions_SIOOBE_FORMATTER hy0 hy1
  · exact rmckR l Z a0 hw ws p0 p1 r h0 n0 Z0 S_Preconditions_SIOOBE_FORMATTER hy0 hy1
theorem d6_0 : decode prog_10_method_14_code 0 = .ok (.iconst (-1), 1) := by decide +kernel
theorem d6_1 : decode prog_10_method_14_code 1 = .ok (.istore_n 1, 1) := by decide +kernel
theorem d6_2 : decode prog_10_method_14_code 2 = .ok (.iload_n 0, 1) := by decide +kernel
theorem d6_3 : decode prog_10_method_14_code 3 = .ok (.bipush 48, 2) := by decide +kernel
theorem d6_5 : decode prog_10_method_14_code 5 = .ok (.if_icmp .lt 17, 3) := by decide +kernel
theorem d6_8 : decode prog_10_method_14_code 8 = .ok (.iload_n 0, 1) := by decide +kernel
theorem d6_9 : decode prog_10_method_14_code 9 = .ok (.bipush 57, 2) := by decide +kernel
theorem d6_11 : decode prog_10_method_14_code 11 = .ok (.if_icmp .gt 11, 3) := by decide +kernel
theorem d6_14 : decode prog_10_method_14_code 14 = .ok (.iload_n 0, 1) := by decide +kernel
theorem d6_15 : decode prog_10_method_14_code 15 = .ok (.bipush 48, 2) := by decide +kernel
theorem d6_17 : decode prog_10_method_14_code 17 = .ok (.isub, 1) := by decide +kernel
theorem d6_18 : decode prog_10_method_14_code 18 = .ok (.istore_n 1, 1) := by decide +kernel
theorem d6_19 : decode prog_10_method_14_code 19 = .ok (.goto 46, 3) := by decide +kernel
theorem d6_22 : decode prog_10_method_14_code 22 = .ok (.iload_n 0, 1) := by decide +kernel
theorem d6_23 : decode prog_10_method_14_code 23 = .ok (.bipush 97, 2) := by decide +kernel
theorem d6_25 : decode prog_10_method_14_code 25 = .ok (.if_icmp .lt 20, 3) := by decide +kernel
theorem d6_28 : decode prog_10_method_14_code 28 = .ok (.iload_n 0, 1) := by decide +kernel
theorem d6_29 : decode prog_10_method_14_code 29 = .ok (.bipush 102, 2) := by decide +kernel
theorem d6_31 : decode prog_10_method_14_code 31 = .ok (.if_icmp .gt 14, 3) := by decide +kernel
theorem d6_34 : decode prog_10_method_14_code 34 = .ok (.iload_n 0, 1) := by decide +kernel
theorem d6_35 : decode prog_10_method_14_code 35 = .ok (.bipush 97, 2) := by decide +kernel
theorem d6_37 : decode prog_10_method_14_code 37 = .ok (.isub, 1) := by decide +kernel
theorem d6_38 : decode prog_10_method_14_code 38 = .ok (.bipush 10, 2) := by decide +kernel
theorem d6_40 : decode prog_10_method_14_code 40 = .ok (.iadd, 1) := by decide +kernel
theorem d6_41 : decode prog_10_method_14_code 41 = .ok (.istore_n 1, 1) := by decide +kernel
theorem d6_42 : decode prog_10_method_14_code 42 = .ok (.goto 23, 3) := by decide +kernel
theorem d6_45 : decode prog_10_method_14_code 45 = .ok (.iload_n 0, 1) := by decide +kernel
theorem d6_46 : decode prog_10_method_14_code 46 = .ok (.bipush 65, 2) := by decide +kernel
theorem d6_48 : decode prog_10_method_14_code 48 = .ok (.if_icmp .lt 17, 3) := by decide +kernel
theorem d6_51 : decode prog_10_method_14_code 51 = .ok (.iload_n 0, 1) := by decide +kernel
theorem d6_52 : decode prog_10_method_14_code 52 = .ok (.bipush 70, 2) := by decide +kernel
theorem d6_54 : decode prog_10_method_14_code 54 = .ok (.if_icmp .gt 11, 3) := by decide +kernel
theorem d6_57 : decode prog_10_method_14_code 57 = .ok (.iload_n 0, 1) := by decide +kernel
theorem d6_58 : decode prog_10_method_14_code 58 = .ok (.bipush 65, 2) := by decide +kernel
theorem d6_60 : decode prog_10_method_14_code 60 = .ok (.isub, 1) := by decide +kernel
theorem d6_61 : decode prog_10_method_14_code 61 = .ok (.bipush 10, 2) := by decide +kernel
theorem d6_63 : decode prog_10_method_14_code 63 = .ok (.iadd, 1) := by decide +kernel
theorem d6_64 : decode prog_10_method_14_code 64 = .ok (.istore_n 1, 1) := by decide +kernel
theorem d6_65 : decode prog_10_method_14_code 65 = .ok (.iload_n 1, 1) := by decide +kernel
theorem d6_66 : decode prog_10_method_14_code 66 = .ok (.ireturn, 1) := by decide +kernel
theorem pn_com_example_ashlar_ashlar_ObjectId : plainName "com/example/ashlar/ashlar/ObjectId" = true := by first | (simp [plainName, overriddenIn]; done) | decide +kernel
theorem ef_6 (m : MethodId) (p0 : Int32) : entryFrame m #[(.int p0)] 2 = mkF m 0 #[.val (.int p0), .unset] [] := by first | (simp [entryFrame, mkF, argsToLocals, Value.category]; done) | rfl
def v6_1 (p0 : Int32) : Int32 := ((p0 - (65 : Int32)) + (10 : Int32))
def v6_2 (p0 : Int32) : Int32 := ((p0 - (65 : Int32)) + (10 : Int32))
def v6_3 (p0 : Int32) : Int32 := ((p0 - (97 : Int32)) + (10 : Int32))
def v6_4 (p0 : Int32) : Int32 := ((p0 - (65 : Int32)) + (10 : Int32))
def v6_5 (p0 : Int32) : Int32 := ((p0 - (65 : Int32)) + (10 : Int32))
def v6_6 (p0 : Int32) : Int32 := ((p0 - (97 : Int32)) + (10 : Int32))
def v6_7 (p0 : Int32) : Int32 := (p0 - (48 : Int32))
def v6_8 (p0 : Int32) : Int32 := (if p0 < (48 : Int32) then (if p0 < (97 : Int32) then (if p0 < (65 : Int32) then (-1 : Int32) else (if (70 : Int32) < p0 then (-1 : Int32) else (v6_1 p0))) else (if (102 : Int32) < p0 then (if p0 < (65 : Int32) then (-1 : Int32) else (if (70 : Int32) < p0 then (-1 : Int32) else (v6_2 p0))) else (v6_3 p0))) else (if (57 : Int32) < p0 then (if p0 < (97 : Int32) then (if p0 < (65 : Int32) then (-1 : Int32) else (if (70 : Int32) < p0 then (-1 : Int32) else (v6_4 p0))) else (if (102 : Int32) < p0 then (if p0 < (65 : Int32) then (-1 : Int32) else (if (70 : Int32) < p0 then (-1 : Int32) else (v6_5 p0))) else (v6_6 p0))) else (v6_7 p0)))
def f6 (p0 : Int32) : Int32 := (v6_8 p0)
def Q6 (Z : State) (p0 : Int32) (h0 : Heap) (n0 : Nat) (v : Option Value) (h : Heap) (L : List Loc) : Prop := Fr n0 L ∧ v = some (.int (f6 p0)) ∧ h = h0
set_option maxRecDepth 65536 in
set_option maxHeartbeats 40000000 in
theorem rm6 (l : Launch) (Z : State) (a0 : Array Value) (hw : ∀ d ∈ tables_1, d.before a0 Z = true) (ws : List Jvm.Cond) (p0 : Int32) (h0 : Heap) (n0 : Nat) (Z0 : n0 ≤ h0.size) :
    MetFree l (⟨"com/example/ashlar/ashlar/ObjectId", "hexValue", "(C)I"⟩ : MethodName) (head1 (Jvm.Cond.code (⟨"com/example/ashlar/ashlar/ObjectId", "hexValue", "(C)I"⟩ : MethodName) prog_10_method_14_code 2 (some .int) :: ws) ({ frames := 0, cells := 0, slots := 0, locals := 0 } : Room)) (fun a U => a = #[(.int p0)] ∧ Z.Warmed39 U.vm ∧ U.heap = h0) (fun _ _ _ _ _ => True) (fun _ U o U' => ∃ v L, o = .returned v ∧ Q6 Z p0 h0 n0 v U'.heap L ∧ FrameEnd U o U' L ({ frames := 0, cells := 0, slots := 0, locals := 0 } : Room).cells ({ frames := 0, cells := 0, slots := 0, locals := 0 } : Room).slots) := by
  refine MetFree.of_bodySF (plainFor_of_name pn_com_example_ashlar_ashlar_ObjectId) hisR ?_
  intro p e s m args below meth c s₁ Bd hml0 hP hK
  obtain ⟨rfl, hZ, hh⟩ := hP
  have hx := Bd.exec
  have hby := Bd.bytes
  have hml : c.maxLocals = 2 := hml0
  have hown : s.vm.findClass "com/example/ashlar/ashlar/ObjectId" = some m.cls := findClass_of_methodNamed Bd.named
  have hnm := (name_of_methodNamed Bd.named Bd.method).1
  have hlk := BodyLoose.notSynchronized Bd
  have X0 : Stand p l e ({ frames := 0, cells := 0, slots := 0, locals := 0 } : Room) s m #[(.int p0)] below meth c s₁ [] 0 0 := Stand.of_body Bd
  have e0 : s₁.heap = h0 := by rw [← hh, Bd.state]; rfl
  have N0 := Fr.nil n0
  have pre0 : ∀ t, Steps p.tables e below (s₁.setTop (mkF m 0 #[.val (.int p0), .unset] [])) t → Steps p.tables e below (s₁.setTop (entryFrame m #[(.int p0)] 2)) t := fun t k => castTop (ef_6 m p0) k
  have pre1 : ∀ t, Steps p.tables e below (s₁.setTop (mkF m 5 #[.val (.int p0), .val (.int (-1 : Int32))] [(.int (48 : Int32)), (.int p0)])) t → Steps p.tables e below (s₁.setTop (entryFrame m #[(.int p0)] 2)) t := by
    intro t k
    refine pre0 t ?_
    show Steps p.tables e below (s₁.setTop (mkF m 0 #[.val (.int p0), .unset] [])) _
    refine XT.iconstV X0.here hx rfl (-1 : Int32) (hb hby d6_0) (by decide) ?_
    show Steps p.tables e below (s₁.setTop (mkF m 1 #[.val (.int p0), .unset] [(.int (-1 : Int32))])) _
    refine XS.istoreN X0.here hx rfl (hb hby d6_1) rfl (l' := #[.val (.int p0), .val (.int (-1 : Int32))]) rfl ?_
    show Steps p.tables e below (s₁.setTop (mkF m 2 #[.val (.int p0), .val (.int (-1 : Int32))] [])) _
    refine XS.iloadN X0.here hx rfl (hb hby d6_2) rfl ?_
    show Steps p.tables e below (s₁.setTop (mkF m 3 #[.val (.int p0), .val (.int (-1 : Int32))] [(.int p0)])) _
    refine XT.bipushV X0.here hx rfl (48 : Int32) (hb hby d6_3) (by decide) ?_
    exact k
  clear pre0
  have pre29 : ∀ t, Steps p.tables e below (s₁.setTop (mkF m 65 #[.val (.int p0), .val (.int (v6_8 p0))] [])) t → Steps p.tables e below (s₁.setTop (entryFrame m #[(.int p0)] 2)) t := by
    intro t k
    by_cases c2 : p0 < (48 : Int32)
    · skip
      have pre3 : ∀ t, Steps p.tables e below (s₁.setTop (mkF m 25 #[.val (.int p0), .val (.int (-1 : Int32))] [(.int (97 : Int32)), (.int p0)])) t → Steps p.tables e below (s₁.setTop (entryFrame m #[(.int p0)] 2)) t := by
        intro t k
        refine pre1 t ?_
        show Steps p.tables e below (s₁.setTop (mkF m 5 #[.val (.int p0), .val (.int (-1 : Int32))] [(.int (48 : Int32)), (.int p0)])) _
        refine XS.icmpYes X0.here hx rfl (pc0 := 5) (pc' := 22) rfl (hb hby d6_5) rfl (XT.ii_lt_t c2) (by decide) (by decide) ?_
        show Steps p.tables e below (s₁.setTop (mkF m 22 #[.val (.int p0), .val (.int (-1 : Int32))] [])) _
        refine XS.iloadN X0.here hx rfl (hb hby d6_22) rfl ?_
        show Steps p.tables e below (s₁.setTop (mkF m 23 #[.val (.int p0), .val (.int (-1 : Int32))] [(.int p0)])) _
        refine XT.bipushV X0.here hx rfl (97 : Int32) (hb hby d6_23) (by decide) ?_
        exact k
      clear pre1
      by_cases c4 : p0 < (97 : Int32)
      · skip
        have pre5 : ∀ t, Steps p.tables e below (s₁.setTop (mkF m 48 #[.val (.int p0), .val (.int (-1 : Int32))] [(.int (65 : Int32)), (.int p0)])) t → Steps p.tables e below (s₁.setTop (entryFrame m #[(.int p0)] 2)) t := by
          intro t k
          refine pre3 t ?_
          show Steps p.tables e below (s₁.setTop (mkF m 25 #[.val (.int p0), .val (.int (-1 : Int32))] [(.int (97 : Int32)), (.int p0)])) _
          refine XS.icmpYes X0.here hx rfl (pc0 := 25) (pc' := 45) rfl (hb hby d6_25) rfl (XT.ii_lt_t c4) (by decide) (by decide) ?_
          show Steps p.tables e below (s₁.setTop (mkF m 45 #[.val (.int p0), .val (.int (-1 : Int32))] [])) _
          refine XS.iloadN X0.here hx rfl (hb hby d6_45) rfl ?_
          show Steps p.tables e below (s₁.setTop (mkF m 46 #[.val (.int p0), .val (.int (-1 : Int32))] [(.int p0)])) _
          refine XT.bipushV X0.here hx rfl (65 : Int32) (hb hby d6_46) (by decide) ?_
          exact k
        clear pre3
        by_cases c6 : p0 < (65 : Int32)
        · skip
          rw [show (v6_8 p0) = (-1 : Int32) from (((if_pos c2).trans (if_pos c4)).trans (if_pos c6))] at k
          refine pre5 t ?_
          show Steps p.tables e below (s₁.setTop (mkF m 48 #[.val (.int p0), .val (.int (-1 : Int32))] [(.int (65 : Int32)), (.int p0)])) _
          refine XS.icmpYes X0.here hx rfl (pc0 := 48) (pc' := 65) rfl (hb hby d6_48) rfl (XT.ii_lt_t c6) (by decide) (by decide) ?_
          exact k
        · skip
          have pre7 : ∀ t, Steps p.tables e below (s₁.setTop (mkF m 54 #[.val (.int p0), .val (.int (-1 : Int32))] [(.int (70 : Int32)), (.int p0)])) t → Steps p.tables e below (s₁.setTop (entryFrame m #[(.int p0)] 2)) t := by
            intro t k
            refine pre5 t ?_
            show Steps p.tables e below (s₁.setTop (mkF m 48 #[.val (.int p0), .val (.int (-1 : Int32))] [(.int (65 : Int32)), (.int p0)])) _
            refine XS.icmpNo X0.here hx rfl (hb hby d6_48) rfl (XT.ii_lt_f c6) ?_
            show Steps p.tables e below (s₁.setTop (mkF m 51 #[.val (.int p0), .val (.int (-1 : Int32))] [])) _
            refine XS.iloadN X0.here hx rfl (hb hby d6_51) rfl ?_
            show Steps p.tables e below (s₁.setTop (mkF m 52 #[.val (.int p0), .val (.int (-1 : Int32))] [(.int p0)])) _
            refine XT.bipushV X0.here hx rfl (70 : Int32) (hb hby d6_52) (by decide) ?_
            exact k
          clear pre5
          by_cases c8 : (70 : Int32) < p0
          · skip
            rw [show (v6_8 p0) = (-1 : Int32) from ((((if_pos c2).trans (if_pos c4)).trans (if_neg c6)).trans (if_pos c8))] at k
            refine pre7 t ?_
            show Steps p.tables e below (s₁.setTop (mkF m 54 #[.val (.int p0), .val (.int (-1 : Int32))] [(.int (70 : Int32)), (.int p0)])) _
            refine XS.icmpYes X0.here hx rfl (pc0 := 54) (pc' := 65) rfl (hb hby d6_54) rfl (XT.ii_gt_t c8) (by decide) (by decide) ?_
            exact k
          · skip
            rw [show (v6_8 p0) = (v6_1 p0) from ((((if_pos c2).trans (if_pos c4)).trans (if_neg c6)).trans (if_neg c8))] at k
            refine pre7 t ?_
            show Steps p.tables e below (s₁.setTop (mkF m 54 #[.val (.int p0), .val (.int (-1 : Int32))] [(.int (70 : Int32)), (.int p0)])) _
            refine XS.icmpNo X0.here hx rfl (hb hby d6_54) rfl (XT.ii_gt_f c8) ?_
            show Steps p.tables e below (s₁.setTop (mkF m 57 #[.val (.int p0), .val (.int (-1 : Int32))] [])) _
            refine XS.iloadN X0.here hx rfl (hb hby d6_57) rfl ?_
            show Steps p.tables e below (s₁.setTop (mkF m 58 #[.val (.int p0), .val (.int (-1 : Int32))] [(.int p0)])) _
            refine XT.bipushV X0.here hx rfl (65 : Int32) (hb hby d6_58) (by decide) ?_
            show Steps p.tables e below (s₁.setTop (mkF m 60 #[.val (.int p0), .val (.int (-1 : Int32))] [(.int (65 : Int32)), (.int p0)])) _
            refine XS.isub X0.here hx rfl (hb hby d6_60) rfl ?_
            show Steps p.tables e below (s₁.setTop (mkF m 61 #[.val (.int p0), .val (.int (-1 : Int32))] [(.int (p0 - (65 : Int32)))])) _
            refine XT.bipushV X0.here hx rfl (10 : Int32) (hb hby d6_61) (by decide) ?_
            show Steps p.tables e below (s₁.setTop (mkF m 63 #[.val (.int p0), .val (.int (-1 : Int32))] [(.int (10 : Int32)), (.int (p0 - (65 : Int32)))])) _
            refine XS.iadd X0.here hx rfl (hb hby d6_63) rfl ?_
            show Steps p.tables e below (s₁.setTop (mkF m 64 #[.val (.int p0), .val (.int (-1 : Int32))] [(.int ((p0 - (65 : Int32)) + (10 : Int32)))])) _
            refine XS.istoreN X0.here hx rfl (hb hby d6_64) rfl (l' := #[.val (.int p0), .val (.int (v6_1 p0))]) rfl ?_
            exact k
      · skip
        have pre9 : ∀ t, Steps p.tables e below (s₁.setTop (mkF m 31 #[.val (.int p0), .val (.int (-1 : Int32))] [(.int (102 : Int32)), (.int p0)])) t → Steps p.tables e below (s₁.setTop (entryFrame m #[(.int p0)] 2)) t := by
          intro t k
          refine pre3 t ?_
          show Steps p.tables e below (s₁.setTop (mkF m 25 #[.val (.int p0), .val (.int (-1 : Int32))] [(.int (97 : Int32)), (.int p0)])) _
          refine XS.icmpNo X0.here hx rfl (hb hby d6_25) rfl (XT.ii_lt_f c4) ?_
          show Steps p.tables e below (s₁.setTop (mkF m 28 #[.val (.int p0), .val (.int (-1 : Int32))] [])) _
          refine XS.iloadN X0.here hx rfl (hb hby d6_28) rfl ?_
          show Steps p.tables e below (s₁.setTop (mkF m 29 #[.val (.int p0), .val (.int (-1 : Int32))] [(.int p0)])) _
          refine XT.bipushV X0.here hx rfl (102 : Int32) (hb hby d6_29) (by decide) ?_
          exact k
        clear pre3
        by_cases c10 : (102 : Int32) < p0
        · skip
          have pre11 : ∀ t, Steps p.tables e below (s₁.setTop (mkF m 48 #[.val (.int p0), .val (.int (-1 : Int32))] [(.int (65 : Int32)), (.int p0)])) t → Steps p.tables e below (s₁.setTop (entryFrame m #[(.int p0)] 2)) t := by
            intro t k
            refine pre9 t ?_
            show Steps p.tables e below (s₁.setTop (mkF m 31 #[.val (.int p0), .val (.int (-1 : Int32))] [(.int (102 : Int32)), (.int p0)])) _
            refine XS.icmpYes X0.here hx rfl (pc0 := 31) (pc' := 45) rfl (hb hby d6_31) rfl (XT.ii_gt_t c10) (by decide) (by decide) ?_
            show Steps p.tables e below (s₁.setTop (mkF m 45 #[.val (.int p0), .val (.int (-1 : Int32))] [])) _
            refine XS.iloadN X0.here hx rfl (hb hby d6_45) rfl ?_
            show Steps p.tables e below (s₁.setTop (mkF m 46 #[.val (.int p0), .val (.int (-1 : Int32))] [(.int p0)])) _
            refine XT.bipushV X0.here hx rfl (65 : Int32) (hb hby d6_46) (by decide) ?_
            exact k
          clear pre9
          by_cases c12 : p0 < (65 : Int32)
          · skip
            rw [show (v6_8 p0) = (-1 : Int32) from ((((if_pos c2).trans (if_neg c4)).trans (if_pos c10)).trans (if_pos c12))] at k
            refine pre11 t ?_
            show Steps p.tables e below (s₁.setTop (mkF m 48 #[.val (.int p0), .val (.int (-1 : Int32))] [(.int (65 : Int32)), (.int p0)])) _
            refine XS.icmpYes X0.here hx rfl (pc0 := 48) (pc' := 65) rfl (hb hby d6_48) rfl (XT.ii_lt_t c12) (by decide) (by decide) ?_
            exact k
          · skip
            have pre13 : ∀ t, Steps p.tables e below (s₁.setTop (mkF m 54 #[.val (.int p0), .val (.int (-1 : Int32))] [(.int (70 : Int32)), (.int p0)])) t → Steps p.tables e below (s₁.setTop (entryFrame m #[(.int p0)] 2)) t := by
              intro t k
              refine pre11 t ?_
              show Steps p.tables e below (s₁.setTop (mkF m 48 #[.val (.int p0), .val (.int (-1 : Int32))] [(.int (65 : Int32)), (.int p0)])) _
              refine XS.icmpNo X0.here hx rfl (hb hby d6_48) rfl (XT.ii_lt_f c12) ?_
              show Steps p.tables e below (s₁.setTop (mkF m 51 #[.val (.int p0), .val (.int (-1 : Int32))] [])) _
              refine XS.iloadN X0.here hx rfl (hb hby d6_51) rfl ?_
              show Steps p.tables e below (s₁.setTop (mkF m 52 #[.val (.int p0), .val (.int (-1 : Int32))] [(.int p0)])) _
              refine XT.bipushV X0.here hx rfl (70 : Int32) (hb hby d6_52) (by decide) ?_
              exact k
            clear pre11
            by_cases c14 : (70 : Int32) < p0
            · skip
              rw [show (v6_8 p0) = (-1 : Int32) from (((((if_pos c2).trans (if_neg c4)).trans (if_pos c10)).trans (if_neg c12)).trans (if_pos c14))] at k
              refine pre13 t ?_
              show Steps p.tables e below (s₁.setTop (mkF m 54 #[.val (.int p0), .val (.int (-1 : Int32))] [(.int (70 : Int32)), (.int p0)])) _
              refine XS.icmpYes X0.here hx rfl (pc0 := 54) (pc' := 65) rfl (hb hby d6_54) rfl (XT.ii_gt_t c14) (by decide) (by decide) ?_
              exact k
            · skip
              rw [show (v6_8 p0) = (v6_2 p0) from (((((if_pos c2).trans (if_neg c4)).trans (if_pos c10)).trans (if_neg c12)).trans (if_neg c14))] at k
              refine pre13 t ?_
              show Steps p.tables e below (s₁.setTop (mkF m 54 #[.val (.int p0), .val (.int (-1 : Int32))] [(.int (70 : Int32)), (.int p0)])) _
              refine XS.icmpNo X0.here hx rfl (hb hby d6_54) rfl (XT.ii_gt_f c14) ?_
              show Steps p.tables e below (s₁.setTop (mkF m 57 #[.val (.int p0), .val (.int (-1 : Int32))] [])) _
              refine XS.iloadN X0.here hx rfl (hb hby d6_57) rfl ?_
              show Steps p.tables e below (s₁.setTop (mkF m 58 #[.val (.int p0), .val (.int (-1 : Int32))] [(.int p0)])) _
              refine XT.bipushV X0.here hx rfl (65 : Int32) (hb hby d6_58) (by decide) ?_
              show Steps p.tables e below (s₁.setTop (mkF m 60 #[.val (.int p0), .val (.int (-1 : Int32))] [(.int (65 : Int32)), (.int p0)])) _
              refine XS.isub X0.here hx rfl (hb hby d6_60) rfl ?_
              show Steps p.tables e below (s₁.setTop (mkF m 61 #[.val (.int p0), .val (.int (-1 : Int32))] [(.int (p0 - (65 : Int32)))])) _
              refine XT.bipushV X0.here hx rfl (10 : Int32) (hb hby d6_61) (by decide) ?_
              show Steps p.tables e below (s₁.setTop (mkF m 63 #[.val (.int p0), .val (.int (-1 : Int32))] [(.int (10 : Int32)), (.int (p0 - (65 : Int32)))])) _
              refine XS.iadd X0.here hx rfl (hb hby d6_63) rfl ?_
              show Steps p.tables e below (s₁.setTop (mkF m 64 #[.val (.int p0), .val (.int (-1 : Int32))] [(.int ((p0 - (65 : Int32)) + (10 : Int32)))])) _
              refine XS.istoreN X0.here hx rfl (hb hby d6_64) rfl (l' := #[.val (.int p0), .val (.int (v6_2 p0))]) rfl ?_
              exact k
        · skip
          rw [show (v6_8 p0) = (v6_3 p0) from (((if_pos c2).trans (if_neg c4)).trans (if_neg c10))] at k
          refine pre9 t ?_
          show Steps p.tables e below (s₁.setTop (mkF m 31 #[.val (.int p0), .val (.int (-1 : Int32))] [(.int (102 : Int32)), (.int p0)])) _
          refine XS.icmpNo X0.here hx rfl (hb hby d6_31) rfl (XT.ii_gt_f c10) ?_
          show Steps p.tables e below (s₁.setTop (mkF m 34 #[.val (.int p0), .val (.int (-1 : Int32))] [])) _
          refine XS.iloadN X0.here hx rfl (hb hby d6_34) rfl ?_
          show Steps p.tables e below (s₁.setTop (mkF m 35 #[.val (.int p0), .val (.int (-1 : Int32))] [(.int p0)])) _
          refine XT.bipushV X0.here hx rfl (97 : Int32) (hb hby d6_35) (by decide) ?_
          show Steps p.tables e below (s₁.setTop (mkF m 37 #[.val (.int p0), .val (.int (-1 : Int32))] [(.int (97 : Int32)), (.int p0)])) _
          refine XS.isub X0.here hx rfl (hb hby d6_37) rfl ?_
          show Steps p.tables e below (s₁.setTop (mkF m 38 #[.val (.int p0), .val (.int (-1 : Int32))] [(.int (p0 - (97 : Int32)))])) _
          refine XT.bipushV X0.here hx rfl (10 : Int32) (hb hby d6_38) (by decide) ?_
          show Steps p.tables e below (s₁.setTop (mkF m 40 #[.val (.int p0), .val (.int (-1 : Int32))] [(.int (10 : Int32)), (.int (p0 - (97 : Int32)))])) _
          refine XS.iadd X0.here hx rfl (hb hby d6_40) rfl ?_
          show Steps p.tables e below (s₁.setTop (mkF m 41 #[.val (.int p0), .val (.int (-1 : Int32))] [(.int ((p0 - (97 : Int32)) + (10 : Int32)))])) _
          refine XS.istoreN X0.here hx rfl (hb hby d6_41) rfl (l' := #[.val (.int p0), .val (.int (v6_3 p0))]) rfl ?_
          show Steps p.tables e below (s₁.setTop (mkF m 42 #[.val (.int p0), .val (.int (v6_3 p0))] [])) _
          refine XS.goto X0.here hx rfl (pc0 := 42) (pc' := 65) rfl (hb hby d6_42) (by decide) (by decide) ?_
          exact k
    · skip
      have pre15 : ∀ t, Steps p.tables e below (s₁.setTop (mkF m 11 #[.val (.int p0), .val (.int (-1 : Int32))] [(.int (57 : Int32)), (.int p0)])) t → Steps p.tables e below (s₁.setTop (entryFrame m #[(.int p0)] 2)) t := by
        intro t k
        refine pre1 t ?_
        show Steps p.tables e below (s₁.setTop (mkF m 5 #[.val (.int p0), .val (.int (-1 : Int32))] [(.int (48 : Int32)), (.int p0)])) _
        refine XS.icmpNo X0.here hx rfl (hb hby d6_5) rfl (XT.ii_lt_f c2) ?_
        show Steps p.tables e below (s₁.setTop (mkF m 8 #[.val (.int p0), .val (.int (-1 : Int32))] [])) _
        refine XS.iloadN X0.here hx rfl (hb hby d6_8) rfl ?_
        show Steps p.tables e below (s₁.setTop (mkF m 9 #[.val (.int p0), .val (.int (-1 : Int32))] [(.int p0)])) _
        refine XT.bipushV X0.here hx rfl (57 : Int32) (hb hby d6_9) (by decide) ?_
        exact k
      clear pre1
      by_cases c16 : (57 : Int32) < p0
      · skip
        have pre17 : ∀ t, Steps p.tables e below (s₁.setTop (mkF m 25 #[.val (.int p0), .val (.int (-1 : Int32))] [(.int (97 : Int32)), (.int p0)])) t → Steps p.tables e below (s₁.setTop (entryFrame m #[(.int p0)] 2)) t := by
          intro t k
          refine pre15 t ?_
          show Steps p.tables e below (s₁.setTop (mkF m 11 #[.val (.int p0), .val (.int (-1 : Int32))] [(.int (57 : Int32)), (.int p0)])) _
          refine XS.icmpYes X0.here hx rfl (pc0 := 11) (pc' := 22) rfl (hb hby d6_11) rfl (XT.ii_gt_t c16) (by decide) (by decide) ?_
          show Steps p.tables e below (s₁.setTop (mkF m 22 #[.val (.int p0), .val (.int (-1 : Int32))] [])) _
          refine XS.iloadN X0.here hx rfl (hb hby d6_22) rfl ?_
          show Steps p.tables e below (s₁.setTop (mkF m 23 #[.val (.int p0), .val (.int (-1 : Int32))] [(.int p0)])) _
          refine XT.bipushV X0.here hx rfl (97 : Int32) (hb hby d6_23) (by decide) ?_
          exact k
        clear pre15
        by_cases c18 : p0 < (97 : Int32)
        · skip
          have pre19 : ∀ t, Steps p.tables e below (s₁.setTop (mkF m 48 #[.val (.int p0), .val (.int (-1 : Int32))] [(.int (65 : Int32)), (.int p0)])) t → Steps p.tables e below (s₁.setTop (entryFrame m #[(.int p0)] 2)) t := by
            intro t k
            refine pre17 t ?_
            show Steps p.tables e below (s₁.setTop (mkF m 25 #[.val (.int p0), .val (.int (-1 : Int32))] [(.int (97 : Int32)), (.int p0)])) _
            refine XS.icmpYes X0.here hx rfl (pc0 := 25) (pc' := 45) rfl (hb hby d6_25) rfl (XT.ii_lt_t c18) (by decide) (by decide) ?_
            show Steps p.tables e below (s₁.setTop (mkF m 45 #[.val (.int p0), .val (.int (-1 : Int32))] [])) _
            refine XS.iloadN X0.here hx rfl (hb hby d6_45) rfl ?_
            show Steps p.tables e below (s₁.setTop (mkF m 46 #[.val (.int p0), .val (.int (-1 : Int32))] [(.int p0)])) _
            refine XT.bipushV X0.here hx rfl (65 : Int32) (hb hby d6_46) (by decide) ?_
            exact k
          clear pre17
          by_cases c20 : p0 < (65 : Int32)
          · skip
            rw [show (v6_8 p0) = (-1 : Int32) from ((((if_neg c2).trans (if_pos c16)).trans (if_pos c18)).trans (if_pos c20))] at k
            refine pre19 t ?_
            show Steps p.tables e below (s₁.setTop (mkF m 48 #[.val (.int p0), .val (.int (-1 : Int32))] [(.int (65 : Int32)), (.int p0)])) _
            refine XS.icmpYes X0.here hx rfl (pc0 := 48) (pc' := 65) rfl (hb hby d6_48) rfl (XT.ii_lt_t c20) (by decide) (by decide) ?_
            exact k
          · skip
            have pre21 : ∀ t, Steps p.tables e below (s₁.setTop (mkF m 54 #[.val (.int p0), .val (.int (-1 : Int32))] [(.int (70 : Int32)), (.int p0)])) t → Steps p.tables e below (s₁.setTop (entryFrame m #[(.int p0)] 2)) t := by
              intro t k
              refine pre19 t ?_
              show Steps p.tables e below (s₁.setTop (mkF m 48 #[.val (.int p0), .val (.int (-1 : Int32))] [(.int (65 : Int32)), (.int p0)])) _
              refine XS.icmpNo X0.here hx rfl (hb hby d6_48) rfl (XT.ii_lt_f c20) ?_
              show Steps p.tables e below (s₁.setTop (mkF m 51 #[.val (.int p0), .val (.int (-1 : Int32))] [])) _
              refine XS.iloadN X0.here hx rfl (hb hby d6_51) rfl ?_
              show Steps p.tables e below (s₁.setTop (mkF m 52 #[.val (.int p0), .val (.int (-1 : Int32))] [(.int p0)])) _
              refine XT.bipushV X0.here hx rfl (70 : Int32) (hb hby d6_52) (by decide) ?_
              exact k
            clear pre19
            by_cases c22 : (70 : Int32) < p0
            · skip
              rw [show (v6_8 p0) = (-1 : Int32) from (((((if_neg c2).trans (if_pos c16)).trans (if_pos c18)).trans (if_neg c20)).trans (if_pos c22))] at k
              refine pre21 t ?_
              show Steps p.tables e below (s₁.setTop (mkF m 54 #[.val (.int p0), .val (.int (-1 : Int32))] [(.int (70 : Int32)), (.int p0)])) _
              refine XS.icmpYes X0.here hx rfl (pc0 := 54) (pc' := 65) rfl (hb hby d6_54) rfl (XT.ii_gt_t c22) (by decide) (by decide) ?_
              exact k
            · skip
              rw [show (v6_8 p0) = (v6_4 p0) from (((((if_neg c2).trans (if_pos c16)).trans (if_pos c18)).trans (if_neg c20)).trans (if_neg c22))] at k
              refine pre21 t ?_
              show Steps p.tables e below (s₁.setTop (mkF m 54 #[.val (.int p0), .val (.int (-1 : Int32))] [(.int (70 : Int32)), (.int p0)])) _
              refine XS.icmpNo X0.here hx rfl (hb hby d6_54) rfl (XT.ii_gt_f c22) ?_
              show Steps p.tables e below (s₁.setTop (mkF m 57 #[.val (.int p0), .val (.int (-1 : Int32))] [])) _
              refine XS.iloadN X0.here hx rfl (hb hby d6_57) rfl ?_
              show Steps p.tables e below (s₁.setTop (mkF m 58 #[.val (.int p0), .val (.int (-1 : Int32))] [(.int p0)])) _
              refine XT.bipushV X0.here hx rfl (65 : Int32) (hb hby d6_58) (by decide) ?_
              show Steps p.tables e below (s₁.setTop (mkF m 60 #[.val (.int p0), .val (.int (-1 : Int32))] [(.int (65 : Int32)), (.int p0)])) _
              refine XS.isub X0.here hx rfl (hb hby d6_60) rfl ?_
              show Steps p.tables e below (s₁.setTop (mkF m 61 #[.val (.int p0), .val (.int (-1 : Int32))] [(.int (p0 - (65 : Int32)))])) _
              refine XT.bipushV X0.here hx rfl (10 : Int32) (hb hby d6_61) (by decide) ?_
              show Steps p.tables e below (s₁.setTop (mkF m 63 #[.val (.int p0), .val (.int (-1 : Int32))] [(.int (10 : Int32)), (.int (p0 - (65 : Int32)))])) _
              refine XS.iadd X0.here hx rfl (hb hby d6_63) rfl ?_
              show Steps p.tables e below (s₁.setTop (mkF m 64 #[.val (.int p0), .val (.int (-1 : Int32))] [(.int ((p0 - (65 : Int32)) + (10 : Int32)))])) _
              refine XS.istoreN X0.here hx rfl (hb hby d6_64) rfl (l' := #[.val (.int p0), .val (.int (v6_4 p0))]) rfl ?_
              exact k
        · skip
          have pre23 : ∀ t, Steps p.tables e below (s₁.setTop (mkF m 31 #[.val (.int p0), .val (.int (-1 : Int32))] [(.int (102 : Int32)), (.int p0)])) t → Steps p.tables e below (s₁.setTop (entryFrame m #[(.int p0)] 2)) t := by
            intro t k
            refine pre17 t ?_
            show Steps p.tables e below (s₁.setTop (mkF m 25 #[.val (.int p0), .val (.int (-1 : Int32))] [(.int (97 : Int32)), (.int p0)])) _
            refine XS.icmpNo X0.here hx rfl (hb hby d6_25) rfl (XT.ii_lt_f c18) ?_
            show Steps p.tables e below (s₁.setTop (mkF m 28 #[.val (.int p0), .val (.int (-1 : Int32))] [])) _
            refine XS.iloadN X0.here hx rfl (hb hby d6_28) rfl ?_
            show Steps p.tables e below (s₁.setTop (mkF m 29 #[.val (.int p0), .val (.int (-1 : Int32))] [(.int p0)])) _
            refine XT.bipushV X0.here hx rfl (102 : Int32) (hb hby d6_29) (by decide) ?_
            exact k
          clear pre17
          by_cases c24 : (102 : Int32) < p0
          · skip
            have pre25 : ∀ t, Steps p.tables e below (s₁.setTop (mkF m 48 #[.val (.int p0), .val (.int (-1 : Int32))] [(.int (65 : Int32)), (.int p0)])) t → Steps p.tables e below (s₁.setTop (entryFrame m #[(.int p0)] 2)) t := by
              intro t k
              refine pre23 t ?_
              show Steps p.tables e below (s₁.setTop (mkF m 31 #[.val (.int p0), .val (.int (-1 : Int32))] [(.int (102 : Int32)), (.int p0)])) _
              refine XS.icmpYes X0.here hx rfl (pc0 := 31) (pc' := 45) rfl (hb hby d6_31) rfl (XT.ii_gt_t c24) (by decide) (by decide) ?_
              show Steps p.tables e below (s₁.setTop (mkF m 45 #[.val (.int p0), .val (.int (-1 : Int32))] [])) _
              refine XS.iloadN X0.here hx rfl (hb hby d6_45) rfl ?_
              show Steps p.tables e below (s₁.setTop (mkF m 46 #[.val (.int p0), .val (.int (-1 : Int32))] [(.int p0)])) _
              refine XT.bipushV X0.here hx rfl (65 : Int32) (hb hby d6_46) (by decide) ?_
              exact k
            clear pre23
            by_cases c26 : p0 < (65 : Int32)
            · skip
              rw [show (v6_8 p0) = (-1 : Int32) from (((((if_neg c2).trans (if_pos c16)).trans (if_neg c18)).trans (if_pos c24)).trans (if_pos c26))] at k
              refine pre25 t ?_
              show Steps p.tables e below (s₁.setTop (mkF m 48 #[.val (.int p0), .val (.int (-1 : Int32))] [(.int (65 : Int32)), (.int p0)])) _
              refine XS.icmpYes X0.here hx rfl (pc0 := 48) (pc' := 65) rfl (hb hby d6_48) rfl (XT.ii_lt_t c26) (by decide) (by decide) ?_
              exact k
            · skip
              have pre27 : ∀ t, Steps p.tables e below (s₁.setTop (mkF m 54 #[.val (.int p0), .val (.int (-1 : Int32))] [(.int (70 : Int32)), (.int p0)])) t → Steps p.tables e below (s₁.setTop (entryFrame m #[(.int p0)] 2)) t := by
                intro t k
                refine pre25 t ?_
                show Steps p.tables e below (s₁.setTop (mkF m 48 #[.val (.int p0), .val (.int (-1 : Int32))] [(.int (65 : Int32)), (.int p0)])) _
                refine XS.icmpNo X0.here hx rfl (hb hby d6_48) rfl (XT.ii_lt_f c26) ?_
                show Steps p.tables e below (s₁.setTop (mkF m 51 #[.val (.int p0), .val (.int (-1 : Int32))] [])) _
                refine XS.iloadN X0.here hx rfl (hb hby d6_51) rfl ?_
                show Steps p.tables e below (s₁.setTop (mkF m 52 #[.val (.int p0), .val (.int (-1 : Int32))] [(.int p0)])) _
                refine XT.bipushV X0.here hx rfl (70 : Int32) (hb hby d6_52) (by decide) ?_
                exact k
              clear pre25
              by_cases c28 : (70 : Int32) < p0
              · skip
                rw [show (v6_8 p0) = (-1 : Int32) from ((((((if_neg c2).trans (if_pos c16)).trans (if_neg c18)).trans (if_pos c24)).trans (if_neg c26)).trans (if_pos c28))] at k
                refine pre27 t ?_
                show Steps p.tables e below (s₁.setTop (mkF m 54 #[.val (.int p0), .val (.int (-1 : Int32))] [(.int (70 : Int32)), (.int p0)])) _
                refine XS.icmpYes X0.here hx rfl (pc0 := 54) (pc' := 65) rfl (hb hby d6_54) rfl (XT.ii_gt_t c28) (by decide) (by decide) ?_
                exact k
              · skip
                rw [show (v6_8 p0) = (v6_5 p0) from ((((((if_neg c2).trans (if_pos c16)).trans (if_neg c18)).trans (if_pos c24)).trans (if_neg c26)).trans (if_neg c28))] at k
                refine pre27 t ?_
                show Steps p.tables e below (s₁.setTop (mkF m 54 #[.val (.int p0), .val (.int (-1 : Int32))] [(.int (70 : Int32)), (.int p0)])) _
                refine XS.icmpNo X0.here hx rfl (hb hby d6_54) rfl (XT.ii_gt_f c28) ?_
                show Steps p.tables e below (s₁.setTop (mkF m 57 #[.val (.int p0), .val (.int (-1 : Int32))] [])) _
                refine XS.iloadN X0.here hx rfl (hb hby d6_57) rfl ?_
                show Steps p.tables e below (s₁.setTop (mkF m 58 #[.val (.int p0), .val (.int (-1 : Int32))] [(.int p0)])) _
                refine XT.bipushV X0.here hx rfl (65 : Int32) (hb hby d6_58) (by decide) ?_
                show Steps p.tables e below (s₁.setTop (mkF m 60 #[.val (.int p0), .val (.int (-1 : Int32))] [(.int (65 : Int32)), (.int p0)])) _
                refine XS.isub X0.here hx rfl (hb hby d6_60) rfl ?_
                show Steps p.tables e below (s₁.setTop (mkF m 61 #[.val (.int p0), .val (.int (-1 : Int32))] [(.int (p0 - (65 : Int32)))])) _
                refine XT.bipushV X0.here hx rfl (10 : Int32) (hb hby d6_61) (by decide) ?_
                show Steps p.tables e below (s₁.setTop (mkF m 63 #[.val (.int p0), .val (.int (-1 : Int32))] [(.int (10 : Int32)), (.int (p0 - (65 : Int32)))])) _
                refine XS.iadd X0.here hx rfl (hb hby d6_63) rfl ?_
                show Steps p.tables e below (s₁.setTop (mkF m 64 #[.val (.int p0), .val (.int (-1 : Int32))] [(.int ((p0 - (65 : Int32)) + (10 : Int32)))])) _
                refine XS.istoreN X0.here hx rfl (hb hby d6_64) rfl (l' := #[.val (.int p0), .val (.int (v6_5 p0))]) rfl ?_
                exact k
          · skip
            rw [show (v6_8 p0) = (v6_6 p0) from ((((if_neg c2).trans (if_pos c16)).trans (if_neg c18)).trans (if_neg c24))] at k
            refine pre23 t ?_
            show Steps p.tables e below (s₁.setTop (mkF m 31 #[.val (.int p0), .val (.int (-1 : Int32))] [(.int (102 : Int32)), (.int p0)])) _
            refine XS.icmpNo X0.here hx rfl (hb hby d6_31) rfl (XT.ii_gt_f c24) ?_
            show Steps p.tables e below (s₁.setTop (mkF m 34 #[.val (.int p0), .val (.int (-1 : Int32))] [])) _
            refine XS.iloadN X0.here hx rfl (hb hby d6_34) rfl ?_
            show Steps p.tables e below (s₁.setTop (mkF m 35 #[.val (.int p0), .val (.int (-1 : Int32))] [(.int p0)])) _
            refine XT.bipushV X0.here hx rfl (97 : Int32) (hb hby d6_35) (by decide) ?_
            show Steps p.tables e below (s₁.setTop (mkF m 37 #[.val (.int p0), .val (.int (-1 : Int32))] [(.int (97 : Int32)), (.int p0)])) _
            refine XS.isub X0.here hx rfl (hb hby d6_37) rfl ?_
            show Steps p.tables e below (s₁.setTop (mkF m 38 #[.val (.int p0), .val (.int (-1 : Int32))] [(.int (p0 - (97 : Int32)))])) _
            refine XT.bipushV X0.here hx rfl (10 : Int32) (hb hby d6_38) (by decide) ?_
            show Steps p.tables e below (s₁.setTop (mkF m 40 #[.val (.int p0), .val (.int (-1 : Int32))] [(.int (10 : Int32)), (.int (p0 - (97 : Int32)))])) _
            refine XS.iadd X0.here hx rfl (hb hby d6_40) rfl ?_
            show Steps p.tables e below (s₁.setTop (mkF m 41 #[.val (.int p0), .val (.int (-1 : Int32))] [(.int ((p0 - (97 : Int32)) + (10 : Int32)))])) _
            refine XS.istoreN X0.here hx rfl (hb hby d6_41) rfl (l' := #[.val (.int p0), .val (.int (v6_6 p0))]) rfl ?_
            show Steps p.tables e below (s₁.setTop (mkF m 42 #[.val (.int p0), .val (.int (v6_6 p0))] [])) _
            refine XS.goto X0.here hx rfl (pc0 := 42) (pc' := 65) rfl (hb hby d6_42) (by decide) (by decide) ?_
            exact k
      · skip
        rw [show (v6_8 p0) = (v6_7 p0) from ((if_neg c2).trans (if_neg c16))] at k
        refine pre15 t ?_
        show Steps p.tables e below (s₁.setTop (mkF m 11 #[.val (.int p0), .val (.int (-1 : Int32))] [(.int (57 : Int32)), (.int p0)])) _
        refine XS.icmpNo X0.here hx rfl (hb hby d6_11) rfl (XT.ii_gt_f c16) ?_
        show Steps p.tables e below (s₁.setTop (mkF m 14 #[.val (.int p0), .val (.int (-1 : Int32))] [])) _
        refine XS.iloadN X0.here hx rfl (hb hby d6_14) rfl ?_
        show Steps p.tables e below (s₁.setTop (mkF m 15 #[.val (.int p0), .val (.int (-1 : Int32))] [(.int p0)])) _
        refine XT.bipushV X0.here hx rfl (48 : Int32) (hb hby d6_15) (by decide) ?_
        show Steps p.tables e below (s₁.setTop (mkF m 17 #[.val (.int p0), .val (.int (-1 : Int32))] [(.int (48 : Int32)), (.int p0)])) _
        refine XS.isub X0.here hx rfl (hb hby d6_17) rfl ?_
        show Steps p.tables e below (s₁.setTop (mkF m 18 #[.val (.int p0), .val (.int (-1 : Int32))] [(.int (p0 - (48 : Int32)))])) _
        refine XS.istoreN X0.here hx rfl (hb hby d6_18) rfl (l' := #[.val (.int p0), .val (.int (v6_7 p0))]) rfl ?_
        show Steps p.tables e below (s₁.setTop (mkF m 19 #[.val (.int p0), .val (.int (v6_7 p0))] [])) _
        refine XS.goto X0.here hx rfl (pc0 := 19) (pc' := 65) rfl (hb hby d6_19) (by decide) (by decide) ?_
        exact k
  obtain ⟨fs, hr, hrun, hended, hW, hsame⟩ := X0.leave (v := some (.int (v6_8 p0))) (fun h => by rw [Bd.returns] at h; cases h) hlk
  refine ⟨_, _, pre29 _ ?_, hrun, hended, _, _, rfl, ?_, ⟨_, rfl⟩, hW, hsame.mono (by decide) (by decide)⟩
  · skip
    show Steps p.tables e below (s₁.setTop (mkF m 65 #[.val (.int p0), .val (.int (v6_8 p0))] [])) _
    refine XS.iloadN X0.here hx rfl (hb hby d6_65) rfl ?_
    show Steps p.tables e below (s₁.setTop (mkF m 66 #[.val (.int p0), .val (.int (v6_8 p0))] [(.int (v6_8 p0))])) _
    exact retI X0 hx Bd.returns (hb hby d6_66) hr
  · skip
    show Q6 Z p0 h0 n0 _ s₁.heap _
    rw [e0]
    exact ⟨N0, rfl, rfl⟩
theorem d2_0 : decode jdk_42_method_154_code 0 = .ok (.getstatic 38, 3) := by decide +kernel
theorem d2_3 : decode jdk_42_method_154_code 3 = .ok (.ifCond .eq 14, 3) := by decide +kernel
theorem d2_6 : decode jdk_42_method_154_code 6 = .ok (.aload_n 0, 1) := by decide +kernel
theorem d2_7 : decode jdk_42_method_154_code 7 = .ok (.getfield 15, 3) := by decide +kernel
theorem d2_10 : decode jdk_42_method_154_code 10 = .ok (.ifCond .ne 7, 3) := by decide +kernel
theorem d2_13 : decode jdk_42_method_154_code 13 = .ok (.iconst 1, 1) := by decide +kernel
theorem d2_14 : decode jdk_42_method_154_code 14 = .ok (.goto 4, 3) := by decide +kernel
theorem d2_18 : decode jdk_42_method_154_code 18 = .ok (.ireturn, 1) := by decide +kernel
theorem ef_2 (m : MethodId) (o0 : Addr) : entryFrame m #[(.ref o0)] 1 = mkF m 0 #[.val (.ref o0)] [] := by first | (simp [entryFrame, mkF, argsToLocals, Value.category]; done) | rfl
def f2 (w0_COMPACT_STRINGS : Int32) : Int32 := (1 : Int32)
def Q2 (Z : State) (o0 : Addr) (w0_COMPACT_STRINGS : Int32) (h0 : Heap) (n0 : Nat) (v : Option Value) (h : Heap) (L : List Loc) : Prop := Fr n0 L ∧ v = some (.int (f2 w0_COMPACT_STRINGS)) ∧ h = h0
set_option maxRecDepth 65536 in
set_option maxHeartbeats 40000000 in
theorem rm2 (l : Launch) (Z : State) (a0 : Array Value) (hw : ∀ d ∈ tables_1, d.before a0 Z = true) (ws : List Jvm.Cond) (o0 : Addr) (w0_COMPACT_STRINGS : Int32) (h0 : Heap) (n0 : Nat) (Z0 : n0 ≤ h0.size) (E_o0 : Exa Z h0 o0 "java/lang/String") (F_coder_o0 : Fld Z h0 o0 "java/lang/String" "coder" "B" (.int (0 : Int32))) (S_String_COMPACT_STRINGS : Sta Z h0 "java/lang/String" "COMPACT_STRINGS" "Z" (.int w0_COMPACT_STRINGS)) (hy0 : ¬ (w0_COMPACT_STRINGS = (0 : Int32))) :
    MetFree l (⟨"java/lang/String", "isLatin1", "()Z"⟩ : MethodName) (head1 (Jvm.Cond.code (⟨"java/lang/String", "isLatin1", "()Z"⟩ : MethodName) jdk_42_method_154_code 1 (some .boolean) :: ws) ({ frames := 0, cells := 0, slots := 0, locals := 0 } : Room)) (fun a U => a = #[(.ref o0)] ∧ Z.Warmed39 U.vm ∧ U.heap = h0) (fun _ _ _ _ _ => True) (fun _ U o U' => ∃ v L, o = .returned v ∧ Q2 Z o0 w0_COMPACT_STRINGS h0 n0 v U'.heap L ∧ FrameEnd U o U' L ({ frames := 0, cells := 0, slots := 0, locals := 0 } : Room).cells ({ frames := 0, cells := 0, slots := 0, locals := 0 } : Room).slots) := by
  refine MetFree.of_bodySF (plainFor_of_name pn_java_lang_String) hisR ?_
  intro p e s m args below meth c s₁ Bd hml0 hP hK
  obtain ⟨rfl, hZ, hh⟩ := hP
  have hx := Bd.exec
  have hby := Bd.bytes
  have hml : c.maxLocals = 1 := hml0
  have hown : s.vm.findClass "java/lang/String" = some m.cls := findClass_of_methodNamed Bd.named
  have hnm := (name_of_methodNamed Bd.named Bd.method).1
  have hlk := BodyLoose.notSynchronized Bd
  have X0 : Stand p l e ({ frames := 0, cells := 0, slots := 0, locals := 0 } : Room) s m #[(.ref o0)] below meth c s₁ [] 0 0 := Stand.of_body Bd
  have e0 : s₁.heap = h0 := by rw [← hh, Bd.state]; rfl
  have N0 := Fr.nil n0
  have pre0 : ∀ t, Steps p.tables e below (s₁.setTop (mkF m 0 #[.val (.ref o0)] [])) t → Steps p.tables e below (s₁.setTop (entryFrame m #[(.ref o0)] 1)) t := fun t k => castTop (ef_2 m o0) k
  obtain ⟨T1, X1, e1, st1⟩ := getS2 X0 hx hZ hown (host := "") (Or.inl (wd hw 19 rfl)) Via.refl e0 S_String_COMPACT_STRINGS (g := (mkF m 0 #[.val (.ref o0)] [])) rfl (hb hby d2_0)
  obtain ⟨T2, X2, e2, st2⟩ := getF X1 hx hZ hown (host := "") (Or.inl (wd hw 20 rfl)) Via.refl e1 F_coder_o0 (g := (mkF m 7 #[.val (.ref o0)] [(.ref o0)])) rfl rfl (hb hby d2_7)
  obtain ⟨fs, hr, hrun, hended, hW, hsame⟩ := X2.leave (v := some (.int (1 : Int32))) (fun h => by rw [Bd.returns] at h; cases h) hlk
  refine ⟨_, _, pre0 _ ?_, hrun, hended, _, _, rfl, ?_, ⟨_, rfl⟩, hW, hsame.mono (by decide) (by decide)⟩
  · skip
    show Steps p.tables e below (s₁.setTop (mkF m 0 #[.val (.ref o0)] [])) _
    refine st1 _ ?_
    show Steps p.tables e below (T1.setTop (mkF m 3 #[.val (.ref o0)] [(.int w0_COMPACT_STRINGS)])) _
    refine XS.ifNo X1.here hx rfl (hb hby d2_3) rfl (XT.i0_eq_f hy0) ?_
    show Steps p.tables e below (T1.setTop (mkF m 6 #[.val (.ref o0)] [])) _
    refine XS.aloadN X1.here hx rfl (hb hby d2_6) rfl rfl ?_
    show Steps p.tables e below (T1.setTop (mkF m 7 #[.val (.ref o0)] [(.ref o0)])) _
    refine st2 _ ?_
    show Steps p.tables e below (T2.setTop (mkF m 10 #[.val (.ref o0)] [(.int (0 : Int32))])) _
    refine XS.ifNo X2.here hx rfl (hb hby d2_10) rfl (XT.i0_ne_f (by decide)) ?_
    show Steps p.tables e below (T2.setTop (mkF m 13 #[.val (.ref o0)] [])) _
    refine XT.iconstV X2.here hx rfl (1 : Int32) (hb hby d2_13) (by decide) ?_
    show Steps p.tables e below (T2.setTop (mkF m 14 #[.val (.ref o0)] [(.int (1 : Int32))])) _
    refine XS.goto X2.here hx rfl (pc0 := 14) (pc' := 18) rfl (hb hby d2_14) (by decide) (by decide) ?_
    show Steps p.tables e below (T2.setTop (mkF m 18 #[.val (.ref o0)] [(.int (1 : Int32))])) _
    exact retN X2 hx (t := .boolean) Bd.returns (by simp) (hb hby d2_18) hr
  · skip
    show Q2 Z o0 w0_COMPACT_STRINGS h0 n0 _ T2.heap _
    rw [e2]
    exact ⟨N0, rfl, rfl⟩
theorem pd__II_V : parseMethodDescriptor "(II)V" = some ⟨[.int, .int], none⟩ := by decide +kernel
theorem d3_0 : decode jdk_43_method_2_code 0 = .ok (.iload_n 1, 1) := by decide +kernel
theorem d3_1 : decode jdk_43_method_2_code 1 = .ok (.aload_n 0, 1) := by decide +kernel
theorem d3_2 : decode jdk_43_method_2_code 2 = .ok (.arraylength, 1) := by decide +kernel
theorem d3_3 : decode jdk_43_method_2_code 3 = .ok (.invokestatic 9, 3) := by decide +kernel
theorem d3_6 : decode jdk_43_method_2_code 6 = .ok (.aload_n 0, 1) := by decide +kernel
theorem d3_7 : decode jdk_43_method_2_code 7 = .ok (.iload_n 1, 1) := by decide +kernel
theorem d3_8 : decode jdk_43_method_2_code 8 = .ok (.baload, 1) := by decide +kernel
theorem d3_9 : decode jdk_43_method_2_code 9 = .ok (.sipush 255, 3) := by decide +kernel
theorem d3_12 : decode jdk_43_method_2_code 12 = .ok (.iand, 1) := by decide +kernel
theorem d3_13 : decode jdk_43_method_2_code 13 = .ok (.i2c, 1) := by decide +kernel
theorem d3_14 : decode jdk_43_method_2_code 14 = .ok (.ireturn, 1) := by decide +kernel
theorem pn_java_lang_StringLatin1 : plainName "java/lang/StringLatin1" = true := by first | (simp [plainName, overriddenIn]; done) | decide +kernel
theorem ef_3 (m : MethodId) (o0 : Addr) (p1 : Int32) : entryFrame m #[(.ref o0), (.int p1)] 2 = mkF m 0 #[.val (.ref o0), .val (.int p1)] [] := by first | (simp [entryFrame, mkF, argsToLocals, Value.category]; done) | rfl
def f3 (p1 : Int32) (w10_c : Int32) (w11_c : Int32) (w12_c : Int32) (w13_c : Int32) (w14_c : Int32) (w15_c : Int32) (w16_c : Int32) (w17_c : Int32) (w18_c : Int32) (w19_c : Int32) (w20_c : Int32) (w21_c : Int32) (w22_c : Int32) (w23_c : Int32) (w24_c : Int32) (w25_c : Int32) : Int32 := (nar .char (((own_pick p1 w10_c w11_c w12_c w13_c w14_c w15_c w16_c w17_c w18_c w19_c w20_c w21_c w22_c w23_c w24_c w25_c) &&& (255 : Int32)).toUInt32.toUInt16.toUInt32.toInt32))
def Q3 (Z : State) (o0 : Addr) (p1 : Int32) (w10_c : Int32) (w11_c : Int32) (w12_c : Int32) (w13_c : Int32) (w14_c : Int32) (w15_c : Int32) (w16_c : Int32) (w17_c : Int32) (w18_c : Int32) (w19_c : Int32) (w20_c : Int32) (w21_c : Int32) (w22_c : Int32) (w23_c : Int32) (w24_c : Int32) (w25_c : Int32) (kA : ClassId) (w17_SIOOBE_FORMATTER : Value) (h0 : Heap) (n0 : Nat) (v : Option Value) (h : Heap) (L : List Loc) : Prop := Fr n0 L ∧ v = some (.int (f3 p1 w10_c w11_c w12_c w13_c w14_c w15_c w16_c w17_c w18_c w19_c w20_c w21_c w22_c w23_c w24_c w25_c)) ∧ h = h0
set_option maxRecDepth 65536 in
set_option maxHeartbeats 40000000 in
theorem rm3 (l : Launch) (Z : State) (a0 : Array Value) (hw : ∀ d ∈ tables_1, d.before a0 Z = true) (ws : List Jvm.Cond) (o0 : Addr) (p1 : Int32) (w10_c : Int32) (w11_c : Int32) (w12_c : Int32) (w13_c : Int32) (w14_c : Int32) (w15_c : Int32) (w16_c : Int32) (w17_c : Int32) (w18_c : Int32) (w19_c : Int32) (w20_c : Int32) (w21_c : Int32) (w22_c : Int32) (w23_c : Int32) (w24_c : Int32) (w25_c : Int32) (kA : ClassId) (w17_SIOOBE_FORMATTER : Value) (h0 : Heap) (n0 : Nat) (Z0 : n0 ≤ h0.size) (V_o0 : Arv Z h0 o0 kA .byte (16 : Int32) [(.int w10_c), (.int w11_c), (.int w12_c), (.int w13_c), (.int w14_c), (.int w15_c), (.int w16_c), (.int w17_c), (.int w18_c), (.int w19_c), (.int w20_c), (.int w21_c), (.int w22_c), (.int w23_c), (.int w24_c), (.int w25_c)] (.int (0 : Int32))) (S_Preconditions_SIOOBE_FORMATTER : Sta Z h0 "jdk/internal/util/Preconditions" "SIOOBE_FORMATTER" "Ljava/util/function/BiFunction;" w17_SIOOBE_FORMATTER) (hy0 : w17_SIOOBE_FORMATTER = .null ∨ ∃ r, w17_SIOOBE_FORMATTER = .ref r) (hy1 : ¬ (p1 < (0 : Int32))) (hy2 : p1 < (16 : Int32)) :
    MetFree l (⟨"java/lang/StringLatin1", "charAt", "([BI)C"⟩ : MethodName) (head1 (Jvm.Cond.code (⟨"java/lang/StringLatin1", "charAt", "([BI)C"⟩ : MethodName) jdk_43_method_2_code 2 (some .char) :: ws) ({ frames := 2, cells := 0, slots := 0, locals := 27 } : Room)) (fun a U => a = #[(.ref o0), (.int p1)] ∧ Z.Warmed39 U.vm ∧ U.heap = h0) (fun _ _ _ _ _ => True) (fun _ U o U' => ∃ v L, o = .returned v ∧ Q3 Z o0 p1 w10_c w11_c w12_c w13_c w14_c w15_c w16_c w17_c w18_c w19_c w20_c w21_c w22_c w23_c w24_c w25_c kA w17_SIOOBE_FORMATTER h0 n0 v U'.heap L ∧ FrameEnd U o U' L ({ frames := 2, cells := 0, slots := 0, locals := 27 } : Room).cells ({ frames := 2, cells := 0, slots := 0, locals := 27 } : Room).slots) := by
  refine MetFree.of_bodySF (plainFor_of_name pn_java_lang_StringLatin1) hisR ?_
  intro p e s m args below meth c s₁ Bd hml0 hP hK
  obtain ⟨rfl, hZ, hh⟩ := hP
  have hx := Bd.exec
  have hby := Bd.bytes
  have hml : c.maxLocals = 2 := hml0
  have hown : s.vm.findClass "java/lang/StringLatin1" = some m.cls := findClass_of_methodNamed Bd.named
  have hnm := (name_of_methodNamed Bd.named Bd.method).1
  have hlk := BodyLoose.notSynchronized Bd
  have X0 : Stand p l e ({ frames := 2, cells := 0, slots := 0, locals := 27 } : Room) s m #[(.ref o0), (.int p1)] below meth c s₁ [] 0 0 := Stand.of_body Bd
  have e0 : s₁.heap = h0 := by rw [← hh, Bd.state]; rfl
  have N0 := Fr.nil n0
  have pre0 : ∀ t, Steps p.tables e below (s₁.setTop (mkF m 0 #[.val (.ref o0), .val (.int p1)] [])) t → Steps p.tables e below (s₁.setTop (entryFrame m #[(.ref o0), (.int p1)] 2)) t := fun t k => castTop (ef_3 m o0 p1) k
  obtain ⟨cl1, Ar1, qc1, S1, M1, Ha1, G1⟩ := id V_o0
  obtain ⟨vr2, _, ⟨T2, L2, k2, n2⟩, -, X2, ⟨Lc2, hQ2, l2, y2, z2⟩, st2⟩ := Jvm.LawKit.callS X0 hx (y := (⟨"java/lang/String", "checkIndex", "(II)V"⟩ : MethodName)) hown (mvT hZ (wd hw 26 rfl)) (mvT hZ (wd hw 27 rfl)) (mvT hZ (wd hw 1 rfl)) (mvT hZ (wd hw 28 rfl)) (by decide) (backOf (W := 0) (own_ck l Z a0 hw [] p1 (16 : Int32) w17_SIOOBE_FORMATTER h0 n0 Z0 S_Preconditions_SIOOBE_FORMATTER hy0 hy1 hy2) hZ (wd hw 28 rfl) (wd hw 1 rfl) (by decide) (by decide)) (g := (mkF m 3 #[.val (.ref o0), .val (.int p1)] [(.int (16 : Int32)), (.int p1)])) rfl (by rw [hml]; rfl) (argsL := [(.int p1), (.int (16 : Int32))]) (rest := []) (lenOf pd__II_V rfl) rfl (by show 2 * 0 + _ ≤ _; exact Nat.le_of_eq rfl) (hb hby d3_3) (fun _ _ => ⟨rfl, e0, (by decide : 0 + 0 ≤ _), (by decide : 0 + 0 ≤ _)⟩)
  dsimp only [Pt.U, Pt.locs, Pt.cells, Pt.slots] at X2 l2 y2 z2 st2 hQ2
  replace X2 := own_stand X2 l2 y2 z2
  clear l2 y2 z2
  have N2q := (show _ ∧ _ ∧ _ from hQ2).1
  have hv2 := (show _ ∧ _ ∧ _ from hQ2).2.1
  have e2 := (show _ ∧ _ ∧ _ from hQ2).2.2
  clear hQ2
  subst hv2
  have N2 := Fr.app N0 N2q
  have hin3 : ¬ (p1 < 0 ∨ cl1.slots.size ≤ (p1).toNatClampNeg) := inb_of S1 ⟨hy1, hy2⟩
  obtain ⟨fs, hr, hrun, hended, hW, hsame⟩ := X2.leave (v := some (.int (nar .char (((own_pick p1 w10_c w11_c w12_c w13_c w14_c w15_c w16_c w17_c w18_c w19_c w20_c w21_c w22_c w23_c w24_c w25_c) &&& (255 : Int32)).toUInt32.toUInt16.toUInt32.toInt32)))) (fun h => by rw [Bd.returns] at h; cases h) hlk
  refine ⟨_, _, pre0 _ ?_, hrun, hended, _, _, rfl, ?_, ⟨_, rfl⟩, hW, hsame.mono (by decide) (by decide)⟩
  · skip
    show Steps p.tables e below (s₁.setTop (mkF m 0 #[.val (.ref o0), .val (.int p1)] [])) _
    refine XS.iloadN X0.here hx rfl (hb hby d3_0) rfl ?_
    show Steps p.tables e below (s₁.setTop (mkF m 1 #[.val (.ref o0), .val (.int p1)] [(.int p1)])) _
    refine XS.aloadN X0.here hx rfl (hb hby d3_1) rfl rfl ?_
    show Steps p.tables e below (s₁.setTop (mkF m 2 #[.val (.ref o0), .val (.int p1)] [(.ref o0), (.int p1)])) _
    refine X0.arraylength hx (by rw [e0]; exact Ar1.1) (State.isArrayOf_alike hZ.alike Ar1.2.1) (g := (mkF m 2 #[.val (.ref o0), .val (.int p1)] [(.ref o0), (.int p1)])) rfl rfl (hb hby d3_2) _ ?_
    rw [len_of S1 M1]
    show Steps p.tables e below (s₁.setTop (mkF m 3 #[.val (.ref o0), .val (.int p1)] [(.int (16 : Int32)), (.int p1)])) _
    refine st2 _ ?_
    show Steps p.tables e below (T2.setTop (mkF m 6 #[.val (.ref o0), .val (.int p1)] [])) _
    refine XS.aloadN X2.here hx rfl (hb hby d3_6) rfl rfl ?_
    show Steps p.tables e below (T2.setTop (mkF m 7 #[.val (.ref o0), .val (.int p1)] [(.ref o0)])) _
    refine XS.iloadN X2.here hx rfl (hb hby d3_7) rfl ?_
    show Steps p.tables e below (T2.setTop (mkF m 8 #[.val (.ref o0), .val (.int p1)] [(.int p1), (.ref o0)])) _
    refine X2.baloadBytes hx (j := p1) (v := (.int (own_pick p1 w10_c w11_c w12_c w13_c w14_c w15_c w16_c w17_c w18_c w19_c w20_c w21_c w22_c w23_c w24_c w25_c))) (by rw [e2]; exact Ar1.1) (State.isArrayOf_alike hZ.alike Ar1.2.1) Ar1.2.2 hin3 (Has.at Ha1 hin3 (own_get hy1 hy2)) (g := (mkF m 8 #[.val (.ref o0), .val (.int p1)] [(.int p1), (.ref o0)])) rfl rfl (hb hby d3_8) _ ?_
    show Steps p.tables e below (T2.setTop (mkF m 9 #[.val (.ref o0), .val (.int p1)] [(.int (own_pick p1 w10_c w11_c w12_c w13_c w14_c w15_c w16_c w17_c w18_c w19_c w20_c w21_c w22_c w23_c w24_c w25_c))])) _
    refine XT.sipushV X2.here hx rfl (255 : Int32) (hb hby d3_9) (by decide) ?_
    show Steps p.tables e below (T2.setTop (mkF m 12 #[.val (.ref o0), .val (.int p1)] [(.int (255 : Int32)), (.int (own_pick p1 w10_c w11_c w12_c w13_c w14_c w15_c w16_c w17_c w18_c w19_c w20_c w21_c w22_c w23_c w24_c w25_c))])) _
    refine XS.iand X2.here hx rfl (hb hby d3_12) rfl ?_
    show Steps p.tables e below (T2.setTop (mkF m 13 #[.val (.ref o0), .val (.int p1)] [(.int ((own_pick p1 w10_c w11_c w12_c w13_c w14_c w15_c w16_c w17_c w18_c w19_c w20_c w21_c w22_c w23_c w24_c w25_c) &&& (255 : Int32)))])) _
    refine XT.i2c X2.here hx rfl (hb hby d3_13) rfl ?_
    show Steps p.tables e below (T2.setTop (mkF m 14 #[.val (.ref o0), .val (.int p1)] [(.int (((own_pick p1 w10_c w11_c w12_c w13_c w14_c w15_c w16_c w17_c w18_c w19_c w20_c w21_c w22_c w23_c w24_c w25_c) &&& (255 : Int32)).toUInt32.toUInt16.toUInt32.toInt32))])) _
    exact retN X2 hx (t := .char) Bd.returns (by simp) (hb hby d3_14) hr
  · skip
    show Q3 Z o0 p1 w10_c w11_c w12_c w13_c w14_c w15_c w16_c w17_c w18_c w19_c w20_c w21_c w22_c w23_c w24_c w25_c kA w17_SIOOBE_FORMATTER h0 n0 _ T2.heap _
    rw [e2]
    exact ⟨N2, rfl, rfl⟩
theorem pd___Z : parseMethodDescriptor "()Z" = some ⟨[], some .boolean⟩ := by decide +kernel
theorem pd___BI_C : parseMethodDescriptor "([BI)C" = some ⟨[(.array .byte), .int], some .char⟩ := by decide +kernel
theorem d1_0 : decode jdk_42_method_56_code 0 = .ok (.aload_n 0, 1) := by decide +kernel
theorem d1_1 : decode jdk_42_method_56_code 1 = .ok (.invokevirtual 492, 3) := by decide +kernel
theorem d1_4 : decode jdk_42_method_56_code 4 = .ok (.ifCond .eq 12, 3) := by decide +kernel
theorem d1_7 : decode jdk_42_method_56_code 7 = .ok (.aload_n 0, 1) := by decide +kernel
theorem d1_8 : decode jdk_42_method_56_code 8 = .ok (.getfield 9, 3) := by decide +kernel
theorem d1_11 : decode jdk_42_method_56_code 11 = .ok (.iload_n 1, 1) := by decide +kernel
theorem d1_12 : decode jdk_42_method_56_code 12 = .ok (.invokestatic 495, 3) := by decide +kernel
theorem d1_15 : decode jdk_42_method_56_code 15 = .ok (.ireturn, 1) := by decide +kernel
theorem ef_1 (m : MethodId) (o0 : Addr) (p1 : Int32) : entryFrame m #[(.ref o0), (.int p1)] 2 = mkF m 0 #[.val (.ref o0), .val (.int p1)] [] := by first | (simp [entryFrame, mkF, argsToLocals, Value.category]; done) | rfl
def v1_1 (p1 : Int32) (w10_c : Int32) (w11_c : Int32) (w12_c : Int32) (w13_c : Int32) (w14_c : Int32) (w15_c : Int32) (w16_c : Int32) (w17_c : Int32) (w18_c : Int32) (w19_c : Int32) (w20_c : Int32) (w21_c : Int32) (w22_c : Int32) (w23_c : Int32) (w24_c : Int32) (w25_c : Int32) (w18_COMPACT_STRINGS : Int32) : Int32 := (f2 w18_COMPACT_STRINGS)
def f1 (p1 : Int32) (w10_c : Int32) (w11_c : Int32) (w12_c : Int32) (w13_c : Int32) (w14_c : Int32) (w15_c : Int32) (w16_c : Int32) (w17_c : Int32) (w18_c : Int32) (w19_c : Int32) (w20_c : Int32) (w21_c : Int32) (w22_c : Int32) (w23_c : Int32) (w24_c : Int32) (w25_c : Int32) (w18_COMPACT_STRINGS : Int32) : Int32 := (nar .char (f3 p1 w10_c w11_c w12_c w13_c w14_c w15_c w16_c w17_c w18_c w19_c w20_c w21_c w22_c w23_c w24_c w25_c))
def Q1 (Z : State) (o0 : Addr) (p1 : Int32) (w1_value : Addr) (w10_c : Int32) (w11_c : Int32) (w12_c : Int32) (w13_c : Int32) (w14_c : Int32) (w15_c : Int32) (w16_c : Int32) (w17_c : Int32) (w18_c : Int32) (w19_c : Int32) (w20_c : Int32) (w21_c : Int32) (w22_c : Int32) (w23_c : Int32) (w24_c : Int32) (w25_c : Int32) (kA : ClassId) (w18_COMPACT_STRINGS : Int32) (w19_SIOOBE_FORMATTER : Value) (h0 : Heap) (n0 : Nat) (v : Option Value) (h : Heap) (L : List Loc) : Prop := Fr n0 L ∧ v = some (.int (f1 p1 w10_c w11_c w12_c w13_c w14_c w15_c w16_c w17_c w18_c w19_c w20_c w21_c w22_c w23_c w24_c w25_c w18_COMPACT_STRINGS)) ∧ h = h0
set_option maxRecDepth 65536 in
set_option maxHeartbeats 40000000 in
theorem rm1 (l : Launch) (Z : State) (a0 : Array Value) (hw : ∀ d ∈ tables_1, d.before a0 Z = true) (ws : List Jvm.Cond) (o0 : Addr) (p1 : Int32) (w1_value : Addr) (w10_c : Int32) (w11_c : Int32) (w12_c : Int32) (w13_c : Int32) (w14_c : Int32) (w15_c : Int32) (w16_c : Int32) (w17_c : Int32) (w18_c : Int32) (w19_c : Int32) (w20_c : Int32) (w21_c : Int32) (w22_c : Int32) (w23_c : Int32) (w24_c : Int32) (w25_c : Int32) (kA : ClassId) (w18_COMPACT_STRINGS : Int32) (w19_SIOOBE_FORMATTER : Value) (h0 : Heap) (n0 : Nat) (Z0 : n0 ≤ h0.size) (E_o0 : Exa Z h0 o0 "java/lang/String") (F_coder_o0 : Fld Z h0 o0 "java/lang/String" "coder" "B" (.int (0 : Int32))) (F_value_o0 : Fld Z h0 o0 "java/lang/String" "value" "[B" (.ref w1_value)) (V_w1_value : Arv Z h0 w1_value kA .byte (16 : Int32) [(.int w10_c), (.int w11_c), (.int w12_c), (.int w13_c), (.int w14_c), (.int w15_c), (.int w16_c), (.int w17_c), (.int w18_c), (.int w19_c), (.int w20_c), (.int w21_c), (.int w22_c), (.int w23_c), (.int w24_c), (.int w25_c)] (.int (0 : Int32))) (S_String_COMPACT_STRINGS : Sta Z h0 "java/lang/String" "COMPACT_STRINGS" "Z" (.int w18_COMPACT_STRINGS)) (hy0 : ¬ (w18_COMPACT_STRINGS = (0 : Int32))) (S_Preconditions_SIOOBE_FORMATTER : Sta Z h0 "jdk/internal/util/Preconditions" "SIOOBE_FORMATTER" "Ljava/util/function/BiFunction;" w19_SIOOBE_FORMATTER) (hy1 : w19_SIOOBE_FORMATTER = .null ∨ ∃ r, w19_SIOOBE_FORMATTER = .ref r) (hy2 : ¬ (p1 < (0 : Int32))) (hy3 : p1 < (16 : Int32)) :
    MetFree l (⟨"java/lang/String", "charAt", "(I)C"⟩ : MethodName) (head1 (Jvm.Cond.code (⟨"java/lang/String", "charAt", "(I)C"⟩ : MethodName) jdk_42_method_56_code 2 (some .char) :: ws) ({ frames := 3, cells := 0, slots := 0, locals := 40 } : Room)) (fun a U => a = #[(.ref o0), (.int p1)] ∧ Z.Warmed39 U.vm ∧ U.heap = h0) (fun _ _ _ _ _ => True) (fun _ U o U' => ∃ v L, o = .returned v ∧ Q1 Z o0 p1 w1_value w10_c w11_c w12_c w13_c w14_c w15_c w16_c w17_c w18_c w19_c w20_c w21_c w22_c w23_c w24_c w25_c kA w18_COMPACT_STRINGS w19_SIOOBE_FORMATTER h0 n0 v U'.heap L ∧ FrameEnd U o U' L ({ frames := 3, cells := 0, slots := 0, locals := 40 } : Room).cells ({ frames := 3, cells := 0, slots := 0, locals := 40 } : Room).slots) := by
  refine MetFree.of_bodySF (plainFor_of_name pn_java_lang_String) hisR ?_
  intro p e s m args below meth c s₁ Bd hml0 hP hK
  obtain ⟨rfl, hZ, hh⟩ := hP
  have hx := Bd.exec
  have hby := Bd.bytes
  have hml : c.maxLocals = 2 := hml0
  have hown : s.vm.findClass "java/lang/String" = some m.cls := findClass_of_methodNamed Bd.named
  have hnm := (name_of_methodNamed Bd.named Bd.method).1
  have hlk := BodyLoose.notSynchronized Bd
  have X0 : Stand p l e ({ frames := 3, cells := 0, slots := 0, locals := 40 } : Room) s m #[(.ref o0), (.int p1)] below meth c s₁ [] 0 0 := Stand.of_body Bd
  have e0 : s₁.heap = h0 := by rw [← hh, Bd.state]; rfl
  have N0 := Fr.nil n0
  have pre0 : ∀ t, Steps p.tables e below (s₁.setTop (mkF m 0 #[.val (.ref o0), .val (.int p1)] [])) t → Steps p.tables e below (s₁.setTop (entryFrame m #[(.ref o0), (.int p1)] 2)) t := fun t k => castTop (ef_1 m o0 p1) k
  obtain ⟨cq1, kq1, q1a, q1b, q1c⟩ := isOf hZ e0 E_o0
  obtain ⟨vr1, _, ⟨T1, L1, k1, n1⟩, -, X1, ⟨Lc1, hQ1, l1, y1, z1⟩, st1⟩ := Jvm.Stand.virtualBack X0 hx (y := (⟨"java/lang/String", "isLatin1", "()Z"⟩ : MethodName)) (z := (⟨"java/lang/String", "isLatin1", "()Z"⟩ : MethodName)) hown (mvT hZ (wd hw 14 rfl)) (mvT hZ (wd hw 15 rfl)) (notFace_of_selects (args := #[]) (mvT hZ (wd hw 17 rfl))) (mvT hZ (wd hw 17 rfl)) (mvT hZ (wd hw 16 rfl)) (by decide) (backOf (W := 0) (rm2 l Z a0 hw [] o0 w18_COMPACT_STRINGS h0 n0 Z0 E_o0 F_coder_o0 S_String_COMPACT_STRINGS hy0) hZ (wd hw 18 rfl) (wd hw 1 rfl) (by decide) (by decide)) q1a q1c (g := (mkF m 1 #[.val (.ref o0), .val (.int p1)] [(.ref o0)])) rfl (by rw [hml]; rfl) (Steps.refl _) (argsL := []) (rest := []) (lenOf pd___Z rfl) rfl (by show 2 * 0 + _ ≤ _; exact Nat.le_of_eq rfl) (hb hby d1_1) (fun _ _ => ⟨rfl, e0, (by decide : 0 + 0 ≤ _), (by decide : 0 + 0 ≤ _)⟩)
  dsimp only [Pt.U, Pt.locs, Pt.cells, Pt.slots] at X1 l1 y1 z1 st1 hQ1
  replace X1 := own_stand X1 l1 y1 z1
  clear l1 y1 z1
  have N1q := (show _ ∧ _ ∧ _ from hQ1).1
  have hv1 := (show _ ∧ _ ∧ _ from hQ1).2.1
  have e1 := (show _ ∧ _ ∧ _ from hQ1).2.2
  clear hQ1
  subst hv1
  have N1 := Fr.app N0 N1q
  obtain ⟨T2, X2, e2, st2⟩ := getF X1 hx hZ hown (host := "") (Or.inl (wd hw 21 rfl)) Via.refl e1 F_value_o0 (g := (mkF m 8 #[.val (.ref o0), .val (.int p1)] [(.ref o0)])) rfl rfl (hb hby d1_8)
  obtain ⟨vr3, _, ⟨T3, L3, k3, n3⟩, -, X3, ⟨Lc3, hQ3, l3, y3, z3⟩, st3⟩ := Jvm.LawKit.callS X2 hx (y := (⟨"java/lang/StringLatin1", "charAt", "([BI)C"⟩ : MethodName)) hown (mvT hZ (wd hw 22 rfl)) (mvT hZ (wd hw 23 rfl)) (mvT hZ (wd hw 24 rfl)) (mvT hZ (wd hw 25 rfl)) (by decide) (backOf (W := 0) (rm3 l Z a0 hw [] w1_value p1 w10_c w11_c w12_c w13_c w14_c w15_c w16_c w17_c w18_c w19_c w20_c w21_c w22_c w23_c w24_c w25_c kA w19_SIOOBE_FORMATTER h0 n0 Z0 V_w1_value S_Preconditions_SIOOBE_FORMATTER hy1 hy2 hy3) hZ (wd hw 25 rfl) (wd hw 24 rfl) (by decide) (by decide)) (g := (mkF m 12 #[.val (.ref o0), .val (.int p1)] [(.int p1), (.ref w1_value)])) rfl (by rw [hml]; rfl) (argsL := [(.ref w1_value), (.int p1)]) (rest := []) (lenOf pd___BI_C rfl) rfl (by show 2 * 0 + _ ≤ _; exact Nat.le_of_eq rfl) (hb hby d1_12) (fun _ _ => ⟨rfl, e2, (by decide : 0 + 0 ≤ _), (by decide : 0 + 0 ≤ _)⟩)
  dsimp only [Pt.U, Pt.locs, Pt.cells, Pt.slots] at X3 l3 y3 z3 st3 hQ3
  replace X3 := own_stand X3 l3 y3 z3
  clear l3 y3 z3
  have N3q := (show _ ∧ _ ∧ _ from hQ3).1
  have hv3 := (show _ ∧ _ ∧ _ from hQ3).2.1
  have e3 := (show _ ∧ _ ∧ _ from hQ3).2.2
  clear hQ3
  subst hv3
  have N3 := Fr.app N1 N3q
  obtain ⟨fs, hr, hrun, hended, hW, hsame⟩ := X3.leave (v := some (.int (nar .char (f3 p1 w10_c w11_c w12_c w13_c w14_c w15_c w16_c w17_c w18_c w19_c w20_c w21_c w22_c w23_c w24_c w25_c)))) (fun h => by rw [Bd.returns] at h; cases h) hlk
  refine ⟨_, _, pre0 _ ?_, hrun, hended, _, _, rfl, ?_, ⟨_, rfl⟩, hW, hsame.mono (by decide) (by decide)⟩
  · skip
    show Steps p.tables e below (s₁.setTop (mkF m 0 #[.val (.ref o0), .val (.int p1)] [])) _
    refine XS.aloadN X0.here hx rfl (hb hby d1_0) rfl rfl ?_
    show Steps p.tables e below (s₁.setTop (mkF m 1 #[.val (.ref o0), .val (.int p1)] [(.ref o0)])) _
    refine st1.trans ?_
    show Steps p.tables e below (T1.setTop (mkF m 4 #[.val (.ref o0), .val (.int p1)] [(.int (f2 w18_COMPACT_STRINGS))])) _
    refine XS.ifNo X1.here hx rfl (hb hby d1_4) rfl (XT.i0_eq_f (fun q => absurd (show (1 : Int32) = 0 from q) (by decide))) ?_
    show Steps p.tables e below (T1.setTop (mkF m 7 #[.val (.ref o0), .val (.int p1)] [])) _
    refine XS.aloadN X1.here hx rfl (hb hby d1_7) rfl rfl ?_
    show Steps p.tables e below (T1.setTop (mkF m 8 #[.val (.ref o0), .val (.int p1)] [(.ref o0)])) _
    refine st2 _ ?_
    show Steps p.tables e below (T2.setTop (mkF m 11 #[.val (.ref o0), .val (.int p1)] [(.ref w1_value)])) _
    refine XS.iloadN X2.here hx rfl (hb hby d1_11) rfl ?_
    show Steps p.tables e below (T2.setTop (mkF m 12 #[.val (.ref o0), .val (.int p1)] [(.int p1), (.ref w1_value)])) _
    refine st3 _ ?_
    show Steps p.tables e below (T3.setTop (mkF m 15 #[.val (.ref o0), .val (.int p1)] [(.int (f3 p1 w10_c w11_c w12_c w13_c w14_c w15_c w16_c w17_c w18_c w19_c w20_c w21_c w22_c w23_c w24_c w25_c))])) _
    exact retN X3 hx (t := .char) Bd.returns (by simp) (hb hby d1_15) hr
  · skip
    show Q1 Z o0 p1 w1_value w10_c w11_c w12_c w13_c w14_c w15_c w16_c w17_c w18_c w19_c w20_c w21_c w22_c w23_c w24_c w25_c kA w18_COMPACT_STRINGS w19_SIOOBE_FORMATTER h0 n0 _ T3.heap _
    rw [e3]
    exact ⟨N3, rfl, rfl⟩
theorem pd__I_C : parseMethodDescriptor "(I)C" = some ⟨[.int], some .char⟩ := by decide +kernel
theorem pd__C_I : parseMethodDescriptor "(C)I" = some ⟨[.char], some .int⟩ := by decide +kernel
theorem own_ws {a0 : Array Value} {Z : State} (hw : ∀ d ∈ tables_1, d.before a0 Z = true) : ∀ a ∈ Bundle.stringAtoms, a.before a0 Z = true := by
  intro d hd
  simp only [Bundle.stringAtoms, List.mem_cons, List.not_mem_nil, or_false] at hd
  rcases hd with rfl | rfl | rfl | rfl | rfl | rfl | rfl
  · exact (wd hw 1 rfl)
  · exact (wd hw 2 rfl)
  · exact (wd hw 3 rfl)
  · exact (wd hw 4 rfl)
  · exact (wd hw 5 rfl)
  · exact (wd hw 6 rfl)
  · exact (wd hw 7 rfl)
theorem own_ew {a0 : Array Value} {Z : State} (hw : ∀ d ∈ tables_1, d.before a0 Z = true) : EW Z a0 consts_1 := (EW.cons (wd hw 0 rfl) (by decide) (EW.cons (wd hw 8 rfl) (by decide) EW.nil))
theorem pn_com_example_ashlar_ashlar_ObjectIdHexValuePinLaw : plainName "com/example/ashlar/ashlar/ObjectIdHexValuePinLaw" = true := by first | (simp [plainName, overriddenIn]; done) | decide +kernel
theorem ef_0 (m : MethodId) (p0 : Int32) (p1 : Int32) (p2 : Int32) : entryFrame m #[(.int p0), (.int p1), (.int p2)] maxLocals = mkF m 0 #[.val (.int p0), .val (.int p1), .val (.int p2), .unset, .unset, .unset, .unset, .unset, .unset, .unset] [] := by first | (simp [entryFrame, mkF, argsToLocals, Value.category, maxLocals]; done) | rfl
def v0_1 (p0 : Int32) (p1 : Int32) (p2 : Int32) (w0_COMPACT_STRINGS : Int32) : Int32 := (p1 &&& (15 : Int32))
def v0_2 (p0 : Int32) (p1 : Int32) (p2 : Int32) (w0_COMPACT_STRINGS : Int32) : Int32 := (f1 (v0_1 p0 p1 p2 w0_COMPACT_STRINGS) (48 : Int32) (49 : Int32) (50 : Int32) (51 : Int32) (52 : Int32) (53 : Int32) (54 : Int32) (55 : Int32) (56 : Int32) (57 : Int32) (97 : Int32) (98 : Int32) (99 : Int32) (100 : Int32) (101 : Int32) (102 : Int32) w0_COMPACT_STRINGS)
def v0_3 (p0 : Int32) (p1 : Int32) (p2 : Int32) (w0_COMPACT_STRINGS : Int32) : Int32 := (f6 (v0_2 p0 p1 p2 w0_COMPACT_STRINGS))
def v0_4 (p0 : Int32) (p1 : Int32) (p2 : Int32) (w0_COMPACT_STRINGS : Int32) : Int32 := (f1 (v0_1 p0 p1 p2 w0_COMPACT_STRINGS) (48 : Int32) (49 : Int32) (50 : Int32) (51 : Int32) (52 : Int32) (53 : Int32) (54 : Int32) (55 : Int32) (56 : Int32) (57 : Int32) (65 : Int32) (66 : Int32) (67 : Int32) (68 : Int32) (69 : Int32) (70 : Int32) w0_COMPACT_STRINGS)
def v0_5 (p0 : Int32) (p1 : Int32) (p2 : Int32) (w0_COMPACT_STRINGS : Int32) : Int32 := (f6 (v0_4 p0 p1 p2 w0_COMPACT_STRINGS))
def v0_6 (p0 : Int32) (p1 : Int32) (p2 : Int32) (w0_COMPACT_STRINGS : Int32) : Int32 := (if (v0_3 p0 p1 p2 w0_COMPACT_STRINGS) = (v0_1 p0 p1 p2 w0_COMPACT_STRINGS) then (if (v0_5 p0 p1 p2 w0_COMPACT_STRINGS) = (v0_1 p0 p1 p2 w0_COMPACT_STRINGS) then (1 : Int32) else (0 : Int32)) else (0 : Int32))
def v0_7 (p0 : Int32) (p1 : Int32) (p2 : Int32) (w0_COMPACT_STRINGS : Int32) : Int32 := (p2 &&& (1 : Int32))
def v0_8 (p0 : Int32) (p1 : Int32) (p2 : Int32) (w0_COMPACT_STRINGS : Int32) : Int32 := (if (v0_7 p0 p1 p2 w0_COMPACT_STRINGS) = (0 : Int32) then ((p0 &&& (127 : Int32)).toUInt32.toUInt16.toUInt32.toInt32) else (p0.toUInt32.toUInt16.toUInt32.toInt32))
def v0_9 (p0 : Int32) (p1 : Int32) (p2 : Int32) (w0_COMPACT_STRINGS : Int32) : Int32 := (f6 (v0_8 p0 p1 p2 w0_COMPACT_STRINGS))
def v0_10 (p0 : Int32) (p1 : Int32) (p2 : Int32) (w0_COMPACT_STRINGS : Int32) : Int32 := (f1 (v0_9 p0 p1 p2 w0_COMPACT_STRINGS) (48 : Int32) (49 : Int32) (50 : Int32) (51 : Int32) (52 : Int32) (53 : Int32) (54 : Int32) (55 : Int32) (56 : Int32) (57 : Int32) (97 : Int32) (98 : Int32) (99 : Int32) (100 : Int32) (101 : Int32) (102 : Int32) w0_COMPACT_STRINGS)
def v0_11 (p0 : Int32) (p1 : Int32) (p2 : Int32) (w0_COMPACT_STRINGS : Int32) : Int32 := (f1 (v0_9 p0 p1 p2 w0_COMPACT_STRINGS) (48 : Int32) (49 : Int32) (50 : Int32) (51 : Int32) (52 : Int32) (53 : Int32) (54 : Int32) (55 : Int32) (56 : Int32) (57 : Int32) (65 : Int32) (66 : Int32) (67 : Int32) (68 : Int32) (69 : Int32) (70 : Int32) w0_COMPACT_STRINGS)
def v0_12 (p0 : Int32) (p1 : Int32) (p2 : Int32) (w0_COMPACT_STRINGS : Int32) : Int32 := (if (v0_8 p0 p1 p2 w0_COMPACT_STRINGS) = (v0_10 p0 p1 p2 w0_COMPACT_STRINGS) then (1 : Int32) else (if (v0_8 p0 p1 p2 w0_COMPACT_STRINGS) = (v0_11 p0 p1 p2 w0_COMPACT_STRINGS) then (1 : Int32) else (0 : Int32)))
def v0_13 (p0 : Int32) (p1 : Int32) (p2 : Int32) (w0_COMPACT_STRINGS : Int32) : Int32 := (if (v0_9 p0 p1 p2 w0_COMPACT_STRINGS) = (-1 : Int32) then (1 : Int32) else (if (v0_9 p0 p1 p2 w0_COMPACT_STRINGS) < (0 : Int32) then (0 : Int32) else (if (15 : Int32) < (v0_9 p0 p1 p2 w0_COMPACT_STRINGS) then (0 : Int32) else (v0_12 p0 p1 p2 w0_COMPACT_STRINGS))))
def v0_14 (p0 : Int32) (p1 : Int32) (p2 : Int32) (w0_COMPACT_STRINGS : Int32) : Int32 := (if (v0_6 p0 p1 p2 w0_COMPACT_STRINGS) = (0 : Int32) then (0 : Int32) else (if (v0_13 p0 p1 p2 w0_COMPACT_STRINGS) = (0 : Int32) then (0 : Int32) else (1 : Int32)))
/-own-/
theorem own_m15 (x : Int32) : ¬ ((x &&& (15 : Int32)) < (0 : Int32)) ∧ (x &&& (15 : Int32)) < (16 : Int32) := by
  have hh : ∀ u : BitVec 32, (u &&& 15#32).toInt = (u.toNat % 16 : Nat) := by
    intro u
    have e : (u &&& 15#32).toNat = u.toNat % 16 := by rw [BitVec.toNat_and]; exact Nat.and_two_pow_sub_one_eq_mod u.toNat 4
    rw [BitVec.toInt_eq_toNat_cond, e, if_pos (by omega)]
  have h : (x &&& (15 : Int32)).toInt = (x.toBitVec.toNat % 16 : Nat) := hh x.toBitVec
  have c0 : (0 : Int32).toInt = 0 := by decide
  have c9 : (16 : Int32).toInt = 16 := by decide
  rw [Int32.lt_iff_toInt_lt, Int32.lt_iff_toInt_lt, h, c0, c9]
  omega
theorem own_lt16 {r : Int32} (h : ¬ ((15 : Int32) < r)) : r < (16 : Int32) := by
  have c0 : (15 : Int32).toInt = 15 := by decide
  have c9 : (16 : Int32).toInt = 16 := by decide
  rw [Int32.lt_iff_toInt_lt, c0] at h
  rw [Int32.lt_iff_toInt_lt, c9]
  omega
theorem own_dig (d w : Int32) (h0 : ¬ (d < (0 : Int32))) (h9 : d < (16 : Int32)) : f6 (f1 d 48 49 50 51 52 53 54 55 56 57 97 98 99 100 101 102 w) = d ∧ f6 (f1 d 48 49 50 51 52 53 54 55 56 57 65 66 67 68 69 70 w) = d := by
  have e1 : f1 d 48 49 50 51 52 53 54 55 56 57 97 98 99 100 101 102 w = f1 d 48 49 50 51 52 53 54 55 56 57 97 98 99 100 101 102 0 := rfl
  have e2 : f1 d 48 49 50 51 52 53 54 55 56 57 65 66 67 68 69 70 w = f1 d 48 49 50 51 52 53 54 55 56 57 65 66 67 68 69 70 0 := rfl
  rw [e1, e2]
  rcases own_six h0 h9 with rfl | rfl | rfl | rfl | rfl | rfl | rfl | rfl | rfl | rfl | rfl | rfl | rfl | rfl | rfl | rfl <;> decide +kernel
theorem own_k48 : (48 : Int32).toInt = 48 := by decide
theorem own_k49 : (49 : Int32).toInt = 49 := by decide
theorem own_k50 : (50 : Int32).toInt = 50 := by decide
theorem own_k51 : (51 : Int32).toInt = 51 := by decide
theorem own_k52 : (52 : Int32).toInt = 52 := by decide
theorem own_k53 : (53 : Int32).toInt = 53 := by decide
theorem own_k54 : (54 : Int32).toInt = 54 := by decide
theorem own_k55 : (55 : Int32).toInt = 55 := by decide
theorem own_k56 : (56 : Int32).toInt = 56 := by decide
theorem own_k57 : (57 : Int32).toInt = 57 := by decide
theorem own_k65 : (65 : Int32).toInt = 65 := by decide
theorem own_k66 : (66 : Int32).toInt = 66 := by decide
theorem own_k67 : (67 : Int32).toInt = 67 := by decide
theorem own_k68 : (68 : Int32).toInt = 68 := by decide
theorem own_k69 : (69 : Int32).toInt = 69 := by decide
theorem own_k70 : (70 : Int32).toInt = 70 := by decide
theorem own_k97 : (97 : Int32).toInt = 97 := by decide
theorem own_k98 : (98 : Int32).toInt = 98 := by decide
theorem own_k99 : (99 : Int32).toInt = 99 := by decide
theorem own_k100 : (100 : Int32).toInt = 100 := by decide
theorem own_k101 : (101 : Int32).toInt = 101 := by decide
theorem own_k102 : (102 : Int32).toInt = 102 := by decide
theorem own_r1 (a b : Int32) : a < b ↔ a.toInt < b.toInt := Int32.lt_iff_toInt_lt
theorem own_r2 (c n : Int32) : c = n ↔ c.toInt = n.toInt := Int32.toInt_inj.symm
theorem own_hex (c : Int32) : f6 c = -1 ∨ c = 48 ∨ c = 49 ∨ c = 50 ∨ c = 51 ∨ c = 52 ∨ c = 53 ∨ c = 54 ∨ c = 55 ∨ c = 56 ∨ c = 57 ∨ c = 97 ∨ c = 98 ∨ c = 99 ∨ c = 100 ∨ c = 101 ∨ c = 102 ∨ c = 65 ∨ c = 66 ∨ c = 67 ∨ c = 68 ∨ c = 69 ∨ c = 70 := by
  unfold f6 v6_8
  repeat' split
  all_goals first
    | exact Or.inl rfl
    | (refine Or.inr ?_
       simp only [own_r1, own_k48, own_k49, own_k50, own_k51, own_k52, own_k53, own_k54, own_k55, own_k56, own_k57, own_k65, own_k66, own_k67, own_k68, own_k69, own_k70, own_k97, own_k98, own_k99, own_k100, own_k101, own_k102] at *
       simp only [own_r2, own_k48, own_k49, own_k50, own_k51, own_k52, own_k53, own_k54, own_k55, own_k56, own_k57, own_k65, own_k66, own_k67, own_k68, own_k69, own_k70, own_k97, own_k98, own_k99, own_k100, own_k101, own_k102]
       omega)
theorem own_any (c w : Int32) : (if f6 c = (-1 : Int32) then (1 : Int32) else (if f6 c < (0 : Int32) then (0 : Int32) else (if (15 : Int32) < f6 c then (0 : Int32) else (if c = f1 (f6 c) 48 49 50 51 52 53 54 55 56 57 97 98 99 100 101 102 w then (1 : Int32) else (if c = f1 (f6 c) 48 49 50 51 52 53 54 55 56 57 65 66 67 68 69 70 w then (1 : Int32) else (0 : Int32)))))) = 1 := by
  have e1 : f1 (f6 c) 48 49 50 51 52 53 54 55 56 57 97 98 99 100 101 102 w = f1 (f6 c) 48 49 50 51 52 53 54 55 56 57 97 98 99 100 101 102 0 := rfl
  have e2 : f1 (f6 c) 48 49 50 51 52 53 54 55 56 57 65 66 67 68 69 70 w = f1 (f6 c) 48 49 50 51 52 53 54 55 56 57 65 66 67 68 69 70 0 := rfl
  rw [e1, e2]
  rcases own_hex c with h | rfl | rfl | rfl | rfl | rfl | rfl | rfl | rfl | rfl | rfl | rfl | rfl | rfl | rfl | rfl | rfl | rfl | rfl | rfl | rfl | rfl | rfl
  · rw [if_pos h]
  all_goals decide +kernel
theorem own_v0_14 (p0 p1 p2 w : Int32) : v0_14 p0 p1 p2 w = 1 := by
  have h1 := own_dig (v0_1 p0 p1 p2 w) w (own_m15 p1).1 (own_m15 p1).2
  have e6 : v0_6 p0 p1 p2 w = 1 := by
    unfold v0_6
    rw [if_pos (show v0_3 p0 p1 p2 w = v0_1 p0 p1 p2 w from h1.1), if_pos (show v0_5 p0 p1 p2 w = v0_1 p0 p1 p2 w from h1.2)]
  have e13 : v0_13 p0 p1 p2 w = 1 := own_any (v0_8 p0 p1 p2 w) w
  unfold v0_14
  rw [e6, e13]
  decide
def Q0 (Z : State) (p0 : Int32) (p1 : Int32) (p2 : Int32) (w0_COMPACT_STRINGS : Int32) (u1_SF : Value) (h0 : Heap) (n0 : Nat) (v : Option Value) (h : Heap) (L : List Loc) : Prop := v = some (.int (1 : Int32)) ∧ Fr n0 L
set_option maxRecDepth 65536 in
set_option maxHeartbeats 40000000 in
theorem rm0 (l : Launch) (Z : State) (a0 : Array Value) (hw : ∀ d ∈ tables_1, d.before a0 Z = true) (ws : List Jvm.Cond) (p0 : Int32) (p1 : Int32) (p2 : Int32) (w0_COMPACT_STRINGS : Int32) (u1_SF : Value) (h0 : Heap) (n0 : Nat) (Z0 : n0 ≤ h0.size) (O0 : Old Z n0 h0) (S_String_COMPACT_STRINGS : Sta Z Z.heap "java/lang/String" "COMPACT_STRINGS" "Z" (.int w0_COMPACT_STRINGS)) (hcs : ¬ (w0_COMPACT_STRINGS = (0 : Int32))) (S_Preconditions_SIOOBE_FORMATTER : Sta Z Z.heap "jdk/internal/util/Preconditions" "SIOOBE_FORMATTER" "Ljava/util/function/BiFunction;" u1_SF) (hu : u1_SF = .null ∨ ∃ r, u1_SF = .ref r) :
    MetFree l x (head1 (Jvm.Cond.code x code maxLocals ret :: ws) room_1) (fun a U => a = #[(.int p0), (.int p1), (.int p2)] ∧ Z.Warmed39 U.vm ∧ U.heap = h0 ∧ CHv Z consts_1 U.vm h0) (fun _ _ _ _ _ => True) (fun _ U o U' => ∃ v L, o = .returned v ∧ Q0 Z p0 p1 p2 w0_COMPACT_STRINGS u1_SF h0 n0 v U'.heap L ∧ ReturnedEndW U o U' L room_1.cells room_1.slots) := by
  refine MetFree.of_bodySF (plainFor_of_name pn_com_example_ashlar_ashlar_ObjectIdHexValuePinLaw) hisR ?_
  intro p e s m args below meth c s₁ Bd hml0 hP hK
  obtain ⟨rfl, hZ, hh, hC⟩ := hP
  have hx := Bd.exec
  have hby := Bd.bytes
  have hml : c.maxLocals = 10 := hml0
  have hown : s.vm.findClass "com/example/ashlar/ashlar/ObjectIdHexValuePinLaw" = some m.cls := findClass_of_methodNamed Bd.named
  have hnm := (name_of_methodNamed Bd.named Bd.method).1
  have hlk := BodyLoose.notSynchronized Bd
  have X0 : Stand p l e room_1 s m #[(.int p0), (.int p1), (.int p2)] below meth c s₁ [] 0 0 := Stand.of_body Bd
  have e0 : s₁.heap = h0 := by rw [← hh, Bd.state]; rfl
  have N0 := Fr.nil n0
  have hS0 : s.Since s.vm h0.size := (State.WarmedH.refl s).since _
  have ch0 := CHr.refl hC
  have pre0 : ∀ t, Steps p.tables e below (s₁.setTop (mkF m 0 #[.val (.int p0), .val (.int p1), .val (.int p2), .unset, .unset, .unset, .unset, .unset, .unset, .unset] [])) t → Steps p.tables e below (s₁.setTop (entryFrame m #[(.int p0), (.int p1), (.int p2)] maxLocals)) t := fun t k => castTop (ef_0 m p0 p1 p2) k
  obtain ⟨la1, T1, h1, kk1, lb1, lk1, X1, e1, E1, hS1, hk1, hZ, hown, Ex1, Fc1, Fv1, V1, -, -, Cr1, Lt1, Sf1, st1⟩ := ldcCH (s := s) (vm0 := s.vm) (EL := consts_1) X0 hx hZ hown (wd hw 0 rfl) (own_ws hw) e0 hS0 (Nat.le_refl _) (own_ew hw) (List.mem_of_getElem? (i := 0) rfl) ch0.1 (z := (16 : Int32)) (vs := [(.int (48 : Int32)), (.int (49 : Int32)), (.int (50 : Int32)), (.int (51 : Int32)), (.int (52 : Int32)), (.int (53 : Int32)), (.int (54 : Int32)), (.int (55 : Int32)), (.int (56 : Int32)), (.int (57 : Int32)), (.int (97 : Int32)), (.int (98 : Int32)), (.int (99 : Int32)), (.int (100 : Int32)), (.int (101 : Int32)), (.int (102 : Int32))]) ⟨by decide, by rfl⟩ (by decide) rfl (g := (mkF m 0 #[.val (.int p0), .val (.int p1), .val (.int p2), .unset, .unset, .unset, .unset, .unset, .unset, .unset] [])) rfl (hb hby at_0) (n := 64) (by decide) (by decide) (by decide) (by decide)
  have ch2 := ch0.trans Cr1
  have z3 : n0 ≤ h1.size := Nat.le_trans Z0 E1.1
  have hs4 : h0.size ≤ h1.size := Nat.le_trans (Nat.le_refl h0.size) E1.1
  obtain ⟨la5, T5, h5, kk5, lb5, lk5, X5, e5, E5, hS5, hk5, hZ, hown, Ex5, Fc5, Fv5, V5, -, -, Cr5, Lt5, Sf5, st5⟩ := ldcCH (s := s) (vm0 := T1.vm) (EL := consts_1) X1 hx hZ hown (wd hw 8 rfl) (own_ws hw) e1 hS1 hk1 (own_ew hw) (List.mem_of_getElem? (i := 1) rfl) ch2.1 (z := (16 : Int32)) (vs := [(.int (48 : Int32)), (.int (49 : Int32)), (.int (50 : Int32)), (.int (51 : Int32)), (.int (52 : Int32)), (.int (53 : Int32)), (.int (54 : Int32)), (.int (55 : Int32)), (.int (56 : Int32)), (.int (57 : Int32)), (.int (65 : Int32)), (.int (66 : Int32)), (.int (67 : Int32)), (.int (68 : Int32)), (.int (69 : Int32)), (.int (70 : Int32))]) ⟨by decide, by rfl⟩ (by decide) rfl (g := (mkF m 3 #[.val (.int p0), .val (.int p1), .val (.int p2), .val (.ref la1), .unset, .unset, .unset, .unset, .unset, .unset] [])) rfl (hb hby at_3) (n := 64) (by decide) (by decide) (by decide) (by decide)
  have ch6 := ch2.trans Cr5
  have z7 : n0 ≤ h5.size := Nat.le_trans z3 E5.1
  have hs8 : h0.size ≤ h5.size := Nat.le_trans hs4 E5.1
  have k10 := (Ex1.ext E5)
  have k11 := (Fc1.ext E5)
  have k12 := (Fv1.ext E5)
  have k13 := (V1.ext E5)
  have O14 := ((O0.ext E1).ext E5)
  obtain ⟨cq9, kq9, q9a, q9b, q9c⟩ := isOf hZ e5 k10
  obtain ⟨vr9, _, ⟨T9, L9, k9, n9⟩, -, X9, ⟨Lc9, hQ9, l9, y9, z9⟩, st9⟩ := Jvm.Stand.virtualBack X5 hx (y := (⟨"java/lang/String", "charAt", "(I)C"⟩ : MethodName)) (z := (⟨"java/lang/String", "charAt", "(I)C"⟩ : MethodName)) hown (mvT hZ (wd hw 9 rfl)) (mvT hZ (wd hw 10 rfl)) (notFace_of_selects (args := #[]) (mvT hZ (wd hw 12 rfl))) (mvT hZ (wd hw 12 rfl)) (mvT hZ (wd hw 11 rfl)) (by decide) (backOf (W := 0) (rm1 l Z a0 hw [] la1 (v0_1 p0 p1 p2 w0_COMPACT_STRINGS) lb1 (48 : Int32) (49 : Int32) (50 : Int32) (51 : Int32) (52 : Int32) (53 : Int32) (54 : Int32) (55 : Int32) (56 : Int32) (57 : Int32) (97 : Int32) (98 : Int32) (99 : Int32) (100 : Int32) (101 : Int32) (102 : Int32) lk1 w0_COMPACT_STRINGS u1_SF h5 n0 z7 k10 k11 k12 k13 (Sta.ext O14.2 S_String_COMPACT_STRINGS) hcs (Sta.ext O14.2 S_Preconditions_SIOOBE_FORMATTER) hu (own_m15 p1).1 (own_m15 p1).2) hZ (wd hw 13 rfl) (wd hw 1 rfl) (by decide) (by decide)) q9a q9c (g := (mkF m 16 #[.val (.int p0), .val (.int p1), .val (.int p2), .val (.ref la1), .val (.ref la5), .val (.int (v0_1 p0 p1 p2 w0_COMPACT_STRINGS)), .unset, .unset, .unset, .unset] [(.int (v0_1 p0 p1 p2 w0_COMPACT_STRINGS)), (.ref la1)])) rfl (by rw [hml]; rfl) (Steps.refl _) (argsL := [(.int (v0_1 p0 p1 p2 w0_COMPACT_STRINGS))]) (rest := []) (lenOf pd__I_C rfl) rfl (by show 2 * 0 + _ ≤ _; exact Nat.le_of_eq rfl) (hb hby at_16) (fun _ _ => ⟨rfl, e5, (by decide : 4 + 0 ≤ _), (by decide : 136 + 0 ≤ _)⟩)
  dsimp only [Pt.U, Pt.locs, Pt.cells, Pt.slots] at X9 l9 y9 z9 st9 hQ9
  replace X9 := own_stand X9 l9 y9 z9
  clear l9 y9 z9
  have N9q := (show _ ∧ _ ∧ _ from hQ9).1
  have hv9 := (show _ ∧ _ ∧ _ from hQ9).2.1
  have e9 := (show _ ∧ _ ∧ _ from hQ9).2.2
  clear hQ9
  subst hv9
  have N9 := Fr.app N0 N9q
  obtain ⟨vr15, _, ⟨T15, L15, k15, n15⟩, -, X15, ⟨Lc15, hQ15, l15, y15, z15⟩, st15⟩ := Jvm.LawKit.callS X9 hx (y := (⟨"com/example/ashlar/ashlar/ObjectId", "hexValue", "(C)I"⟩ : MethodName)) hown (mvT hZ (wd hw 34 rfl)) (mvT hZ (wd hw 35 rfl)) (mvT hZ (wd hw 36 rfl)) (mvT hZ (wd hw 37 rfl)) (by decide) (backOf (W := 0) (rm6 l Z a0 hw [] (v0_2 p0 p1 p2 w0_COMPACT_STRINGS) h5 n0 z7) hZ (wd hw 37 rfl) (wd hw 36 rfl) (by decide) (by decide)) (g := (mkF m 19 #[.val (.int p0), .val (.int p1), .val (.int p2), .val (.ref la1), .val (.ref la5), .val (.int (v0_1 p0 p1 p2 w0_COMPACT_STRINGS)), .unset, .unset, .unset, .unset] [(.int (v0_2 p0 p1 p2 w0_COMPACT_STRINGS))])) rfl (by rw [hml]; rfl) (argsL := [(.int (v0_2 p0 p1 p2 w0_COMPACT_STRINGS))]) (rest := []) (lenOf pd__C_I rfl) rfl (by show 2 * 0 + _ ≤ _; exact Nat.le_of_eq rfl) (hb hby at_19) (fun _ _ => ⟨rfl, e9, (by decide : 4 + 0 ≤ _), (by decide : 136 + 0 ≤ _)⟩)
  dsimp only [Pt.U, Pt.locs, Pt.cells, Pt.slots] at X15 l15 y15 z15 st15 hQ15
  replace X15 := own_stand X15 l15 y15 z15
  clear l15 y15 z15
  have N15q := (show _ ∧ _ ∧ _ from hQ15).1
  have hv15 := (show _ ∧ _ ∧ _ from hQ15).2.1
  have e15 := (show _ ∧ _ ∧ _ from hQ15).2.2
  clear hQ15
  subst hv15
  have N15 := Fr.app N9 N15q
  have pre16 : ∀ t, Steps p.tables e below (T15.setTop (mkF m 24 #[.val (.int p0), .val (.int p1), .val (.int p2), .val (.ref la1), .val (.ref la5), .val (.int (v0_1 p0 p1 p2 w0_COMPACT_STRINGS)), .unset, .unset, .unset, .unset] [(.int (v0_1 p0 p1 p2 w0_COMPACT_STRINGS)), (.int (f6 (v0_2 p0 p1 p2 w0_COMPACT_STRINGS)))])) t → Steps p.tables e below (s₁.setTop (entryFrame m #[(.int p0), (.int p1), (.int p2)] maxLocals)) t := by
    intro t k
    refine pre0 t ?_
    show Steps p.tables e below (s₁.setTop (mkF m 0 #[.val (.int p0), .val (.int p1), .val (.int p2), .unset, .unset, .unset, .unset, .unset, .unset, .unset] [])) _
    refine st1 _ ?_
    show Steps p.tables e below (T1.setTop (mkF m 2 #[.val (.int p0), .val (.int p1), .val (.int p2), .unset, .unset, .unset, .unset, .unset, .unset, .unset] [(.ref la1)])) _
    refine XS.astoreN X1.here hx rfl (hb hby at_2) rfl rfl (l' := #[.val (.int p0), .val (.int p1), .val (.int p2), .val (.ref la1), .unset, .unset, .unset, .unset, .unset, .unset]) rfl ?_
    show Steps p.tables e below (T1.setTop (mkF m 3 #[.val (.int p0), .val (.int p1), .val (.int p2), .val (.ref la1), .unset, .unset, .unset, .unset, .unset, .unset] [])) _
    refine st5 _ ?_
    show Steps p.tables e below (T5.setTop (mkF m 5 #[.val (.int p0), .val (.int p1), .val (.int p2), .val (.ref la1), .unset, .unset, .unset, .unset, .unset, .unset] [(.ref la5)])) _
    refine XS.astore X5.here hx rfl (hb hby at_5) rfl rfl (l' := #[.val (.int p0), .val (.int p1), .val (.int p2), .val (.ref la1), .val (.ref la5), .unset, .unset, .unset, .unset, .unset]) rfl ?_
    show Steps p.tables e below (T5.setTop (mkF m 7 #[.val (.int p0), .val (.int p1), .val (.int p2), .val (.ref la1), .val (.ref la5), .unset, .unset, .unset, .unset, .unset] [])) _
    refine XS.iloadN X5.here hx rfl (hb hby at_7) rfl ?_
    show Steps p.tables e below (T5.setTop (mkF m 8 #[.val (.int p0), .val (.int p1), .val (.int p2), .val (.ref la1), .val (.ref la5), .unset, .unset, .unset, .unset, .unset] [(.int p1)])) _
    refine XT.bipushV X5.here hx rfl (15 : Int32) (hb hby at_8) (by decide) ?_
    show Steps p.tables e below (T5.setTop (mkF m 10 #[.val (.int p0), .val (.int p1), .val (.int p2), .val (.ref la1), .val (.ref la5), .unset, .unset, .unset, .unset, .unset] [(.int (15 : Int32)), (.int p1)])) _
    refine XS.iand X5.here hx rfl (hb hby at_10) rfl ?_
    show Steps p.tables e below (T5.setTop (mkF m 11 #[.val (.int p0), .val (.int p1), .val (.int p2), .val (.ref la1), .val (.ref la5), .unset, .unset, .unset, .unset, .unset] [(.int (p1 &&& (15 : Int32)))])) _
    refine XS.istore X5.here hx rfl (hb hby at_11) rfl (l' := #[.val (.int p0), .val (.int p1), .val (.int p2), .val (.ref la1), .val (.ref la5), .val (.int (v0_1 p0 p1 p2 w0_COMPACT_STRINGS)), .unset, .unset, .unset, .unset]) rfl ?_
    show Steps p.tables e below (T5.setTop (mkF m 13 #[.val (.int p0), .val (.int p1), .val (.int p2), .val (.ref la1), .val (.ref la5), .val (.int (v0_1 p0 p1 p2 w0_COMPACT_STRINGS)), .unset, .unset, .unset, .unset] [])) _
    refine XS.aloadN X5.here hx rfl (hb hby at_13) rfl rfl ?_
    show Steps p.tables e below (T5.setTop (mkF m 14 #[.val (.int p0), .val (.int p1), .val (.int p2), .val (.ref la1), .val (.ref la5), .val (.int (v0_1 p0 p1 p2 w0_COMPACT_STRINGS)), .unset, .unset, .unset, .unset] [(.ref la1)])) _
    refine XS.iload X5.here hx rfl (hb hby at_14) rfl ?_
    show Steps p.tables e below (T5.setTop (mkF m 16 #[.val (.int p0), .val (.int p1), .val (.int p2), .val (.ref la1), .val (.ref la5), .val (.int (v0_1 p0 p1 p2 w0_COMPACT_STRINGS)), .unset, .unset, .unset, .unset] [(.int (v0_1 p0 p1 p2 w0_COMPACT_STRINGS)), (.ref la1)])) _
    refine st9.trans ?_
    show Steps p.tables e below (T9.setTop (mkF m 19 #[.val (.int p0), .val (.int p1), .val (.int p2), .val (.ref la1), .val (.ref la5), .val (.int (v0_1 p0 p1 p2 w0_COMPACT_STRINGS)), .unset, .unset, .unset, .unset] [(.int (f1 (v0_1 p0 p1 p2 w0_COMPACT_STRINGS) (48 : Int32) (49 : Int32) (50 : Int32) (51 : Int32) (52 : Int32) (53 : Int32) (54 : Int32) (55 : Int32) (56 : Int32) (57 : Int32) (97 : Int32) (98 : Int32) (99 : Int32) (100 : Int32) (101 : Int32) (102 : Int32) w0_COMPACT_STRINGS))])) _
    refine st15 _ ?_
    show Steps p.tables e below (T15.setTop (mkF m 22 #[.val (.int p0), .val (.int p1), .val (.int p2), .val (.ref la1), .val (.ref la5), .val (.int (v0_1 p0 p1 p2 w0_COMPACT_STRINGS)), .unset, .unset, .unset, .unset] [(.int (f6 (v0_2 p0 p1 p2 w0_COMPACT_STRINGS)))])) _
    refine XS.iload X15.here hx rfl (hb hby at_22) rfl ?_
    exact k
  clear pre0 st1 st5 st9 st15
  obtain ⟨T22, L22, X22, e22, N22, pre22⟩ : ∃ (T' : State) (L' : List Loc), Stand p l e room_1 (s.setVm T5.vm) m #[(.int p0), (.int p1), (.int p2)] below meth c T' L' 4 136 ∧ T'.heap = h5 ∧ Fr n0 L' ∧ ∀ t, Steps p.tables e below (T'.setTop (mkF m 47 #[.val (.int p0), .val (.int p1), .val (.int p2), .val (.ref la1), .val (.ref la5), .val (.int (v0_1 p0 p1 p2 w0_COMPACT_STRINGS)), .unset, .unset, .unset, .unset] [(.int (v0_6 p0 p1 p2 w0_COMPACT_STRINGS))])) t → Steps p.tables e below (s₁.setTop (entryFrame m #[(.int p0), (.int p1), (.int p2)] maxLocals)) t := by
    by_cases c17 : (v0_3 p0 p1 p2 w0_COMPACT_STRINGS) = (v0_1 p0 p1 p2 w0_COMPACT_STRINGS)
    · skip
      obtain ⟨cq18, kq18, q18a, q18b, q18c⟩ := isOf hZ e15 Ex5
      obtain ⟨vr18, _, ⟨T18, L18, k18, n18⟩, -, X18, ⟨Lc18, hQ18, l18, y18, z18⟩, st18⟩ := Jvm.Stand.virtualBack X15 hx (y := (⟨"java/lang/String", "charAt", "(I)C"⟩ : MethodName)) (z := (⟨"java/lang/String", "charAt", "(I)C"⟩ : MethodName)) hown (mvT hZ (wd hw 9 rfl)) (mvT hZ (wd hw 10 rfl)) (notFace_of_selects (args := #[]) (mvT hZ (wd hw 12 rfl))) (mvT hZ (wd hw 12 rfl)) (mvT hZ (wd hw 11 rfl)) (by decide) (backOf (W := 0) (rm1 l Z a0 hw [] la5 (v0_1 p0 p1 p2 w0_COMPACT_STRINGS) lb5 (48 : Int32) (49 : Int32) (50 : Int32) (51 : Int32) (52 : Int32) (53 : Int32) (54 : Int32) (55 : Int32) (56 : Int32) (57 : Int32) (65 : Int32) (66 : Int32) (67 : Int32) (68 : Int32) (69 : Int32) (70 : Int32) lk5 w0_COMPACT_STRINGS u1_SF h5 n0 z7 Ex5 Fc5 Fv5 V5 (Sta.ext O14.2 S_String_COMPACT_STRINGS) hcs (Sta.ext O14.2 S_Preconditions_SIOOBE_FORMATTER) hu (own_m15 p1).1 (own_m15 p1).2) hZ (wd hw 13 rfl) (wd hw 1 rfl) (by decide) (by decide)) q18a q18c (g := (mkF m 31 #[.val (.int p0), .val (.int p1), .val (.int p2), .val (.ref la1), .val (.ref la5), .val (.int (v0_1 p0 p1 p2 w0_COMPACT_STRINGS)), .unset, .unset, .unset, .unset] [(.int (v0_1 p0 p1 p2 w0_COMPACT_STRINGS)), (.ref la5)])) rfl (by rw [hml]; rfl) (Steps.refl _) (argsL := [(.int (v0_1 p0 p1 p2 w0_COMPACT_STRINGS))]) (rest := []) (lenOf pd__I_C rfl) rfl (by show 2 * 0 + _ ≤ _; exact Nat.le_of_eq rfl) (hb hby at_31) (fun _ _ => ⟨rfl, e15, (by decide : 4 + 0 ≤ _), (by decide : 136 + 0 ≤ _)⟩)
      dsimp only [Pt.U, Pt.locs, Pt.cells, Pt.slots] at X18 l18 y18 z18 st18 hQ18
      replace X18 := own_stand X18 l18 y18 z18
      clear l18 y18 z18
      have N18q := (show _ ∧ _ ∧ _ from hQ18).1
      have hv18 := (show _ ∧ _ ∧ _ from hQ18).2.1
      have e18 := (show _ ∧ _ ∧ _ from hQ18).2.2
      clear hQ18
      subst hv18
      have N18 := Fr.app N15 N18q
      obtain ⟨vr19, _, ⟨T19, L19, k19, n19⟩, -, X19, ⟨Lc19, hQ19, l19, y19, z19⟩, st19⟩ := Jvm.LawKit.callS X18 hx (y := (⟨"com/example/ashlar/ashlar/ObjectId", "hexValue", "(C)I"⟩ : MethodName)) hown (mvT hZ (wd hw 34 rfl)) (mvT hZ (wd hw 35 rfl)) (mvT hZ (wd hw 36 rfl)) (mvT hZ (wd hw 37 rfl)) (by decide) (backOf (W := 0) (rm6 l Z a0 hw [] (v0_4 p0 p1 p2 w0_COMPACT_STRINGS) h5 n0 z7) hZ (wd hw 37 rfl) (wd hw 36 rfl) (by decide) (by decide)) (g := (mkF m 34 #[.val (.int p0), .val (.int p1), .val (.int p2), .val (.ref la1), .val (.ref la5), .val (.int (v0_1 p0 p1 p2 w0_COMPACT_STRINGS)), .unset, .unset, .unset, .unset] [(.int (v0_4 p0 p1 p2 w0_COMPACT_STRINGS))])) rfl (by rw [hml]; rfl) (argsL := [(.int (v0_4 p0 p1 p2 w0_COMPACT_STRINGS))]) (rest := []) (lenOf pd__C_I rfl) rfl (by show 2 * 0 + _ ≤ _; exact Nat.le_of_eq rfl) (hb hby at_34) (fun _ _ => ⟨rfl, e18, (by decide : 4 + 0 ≤ _), (by decide : 136 + 0 ≤ _)⟩)
      dsimp only [Pt.U, Pt.locs, Pt.cells, Pt.slots] at X19 l19 y19 z19 st19 hQ19
      replace X19 := own_stand X19 l19 y19 z19
      clear l19 y19 z19
      have N19q := (show _ ∧ _ ∧ _ from hQ19).1
      have hv19 := (show _ ∧ _ ∧ _ from hQ19).2.1
      have e19 := (show _ ∧ _ ∧ _ from hQ19).2.2
      clear hQ19
      subst hv19
      have N19 := Fr.app N18 N19q
      have pre20 : ∀ t, Steps p.tables e below (T19.setTop (mkF m 39 #[.val (.int p0), .val (.int p1), .val (.int p2), .val (.ref la1), .val (.ref la5), .val (.int (v0_1 p0 p1 p2 w0_COMPACT_STRINGS)), .unset, .unset, .unset, .unset] [(.int (v0_1 p0 p1 p2 w0_COMPACT_STRINGS)), (.int (f6 (v0_4 p0 p1 p2 w0_COMPACT_STRINGS)))])) t → Steps p.tables e below (s₁.setTop (entryFrame m #[(.int p0), (.int p1), (.int p2)] maxLocals)) t := by
        intro t k
        refine pre16 t ?_
        show Steps p.tables e below (T15.setTop (mkF m 24 #[.val (.int p0), .val (.int p1), .val (.int p2), .val (.ref la1), .val (.ref la5), .val (.int (v0_1 p0 p1 p2 w0_COMPACT_STRINGS)), .unset, .unset, .unset, .unset] [(.int (v0_1 p0 p1 p2 w0_COMPACT_STRINGS)), (.int (f6 (v0_2 p0 p1 p2 w0_COMPACT_STRINGS)))])) _
        refine XS.icmpNo X15.here hx rfl (hb hby at_24) rfl (XT.ii_ne_f c17) ?_
        show Steps p.tables e below (T15.setTop (mkF m 27 #[.val (.int p0), .val (.int p1), .val (.int p2), .val (.ref la1), .val (.ref la5), .val (.int (v0_1 p0 p1 p2 w0_COMPACT_STRINGS)), .unset, .unset, .unset, .unset] [])) _
        refine XS.aload X15.here hx rfl (hb hby at_27) rfl rfl ?_
        show Steps p.tables e below (T15.setTop (mkF m 29 #[.val (.int p0), .val (.int p1), .val (.int p2), .val (.ref la1), .val (.ref la5), .val (.int (v0_1 p0 p1 p2 w0_COMPACT_STRINGS)), .unset, .unset, .unset, .unset] [(.ref la5)])) _
        refine XS.iload X15.here hx rfl (hb hby at_29) rfl ?_
        show Steps p.tables e below (T15.setTop (mkF m 31 #[.val (.int p0), .val (.int p1), .val (.int p2), .val (.ref la1), .val (.ref la5), .val (.int (v0_1 p0 p1 p2 w0_COMPACT_STRINGS)), .unset, .unset, .unset, .unset] [(.int (v0_1 p0 p1 p2 w0_COMPACT_STRINGS)), (.ref la5)])) _
        refine st18.trans ?_
        show Steps p.tables e below (T18.setTop (mkF m 34 #[.val (.int p0), .val (.int p1), .val (.int p2), .val (.ref la1), .val (.ref la5), .val (.int (v0_1 p0 p1 p2 w0_COMPACT_STRINGS)), .unset, .unset, .unset, .unset] [(.int (f1 (v0_1 p0 p1 p2 w0_COMPACT_STRINGS) (48 : Int32) (49 : Int32) (50 : Int32) (51 : Int32) (52 : Int32) (53 : Int32) (54 : Int32) (55 : Int32) (56 : Int32) (57 : Int32) (65 : Int32) (66 : Int32) (67 : Int32) (68 : Int32) (69 : Int32) (70 : Int32) w0_COMPACT_STRINGS))])) _
        refine st19 _ ?_
        show Steps p.tables e below (T19.setTop (mkF m 37 #[.val (.int p0), .val (.int p1), .val (.int p2), .val (.ref la1), .val (.ref la5), .val (.int (v0_1 p0 p1 p2 w0_COMPACT_STRINGS)), .unset, .unset, .unset, .unset] [(.int (f6 (v0_4 p0 p1 p2 w0_COMPACT_STRINGS)))])) _
        refine XS.iload X19.here hx rfl (hb hby at_37) rfl ?_
        exact k
      clear pre16 st18 st19
      by_cases c21 : (v0_5 p0 p1 p2 w0_COMPACT_STRINGS) = (v0_1 p0 p1 p2 w0_COMPACT_STRINGS)
      · skip
        refine ⟨T19, _, X19, e19, N19, fun t k => ?_⟩
        rw [show (v0_6 p0 p1 p2 w0_COMPACT_STRINGS) = (1 : Int32) from ((if_pos c17).trans (if_pos c21))] at k
        refine pre20 t ?_
        show Steps p.tables e below (T19.setTop (mkF m 39 #[.val (.int p0), .val (.int p1), .val (.int p2), .val (.ref la1), .val (.ref la5), .val (.int (v0_1 p0 p1 p2 w0_COMPACT_STRINGS)), .unset, .unset, .unset, .unset] [(.int (v0_1 p0 p1 p2 w0_COMPACT_STRINGS)), (.int (f6 (v0_4 p0 p1 p2 w0_COMPACT_STRINGS)))])) _
        refine XS.icmpNo X19.here hx rfl (hb hby at_39) rfl (XT.ii_ne_f c21) ?_
        show Steps p.tables e below (T19.setTop (mkF m 42 #[.val (.int p0), .val (.int p1), .val (.int p2), .val (.ref la1), .val (.ref la5), .val (.int (v0_1 p0 p1 p2 w0_COMPACT_STRINGS)), .unset, .unset, .unset, .unset] [])) _
        refine XT.iconstV X19.here hx rfl (1 : Int32) (hb hby at_42) (by decide) ?_
        show Steps p.tables e below (T19.setTop (mkF m 43 #[.val (.int p0), .val (.int p1), .val (.int p2), .val (.ref la1), .val (.ref la5), .val (.int (v0_1 p0 p1 p2 w0_COMPACT_STRINGS)), .unset, .unset, .unset, .unset] [(.int (1 : Int32))])) _
        refine XS.goto X19.here hx rfl (pc0 := 43) (pc' := 47) rfl (hb hby at_43) (by decide) (by decide) ?_
        exact k
      · skip
        refine ⟨T19, _, X19, e19, N19, fun t k => ?_⟩
        rw [show (v0_6 p0 p1 p2 w0_COMPACT_STRINGS) = (0 : Int32) from ((if_pos c17).trans (if_neg c21))] at k
        refine pre20 t ?_
        show Steps p.tables e below (T19.setTop (mkF m 39 #[.val (.int p0), .val (.int p1), .val (.int p2), .val (.ref la1), .val (.ref la5), .val (.int (v0_1 p0 p1 p2 w0_COMPACT_STRINGS)), .unset, .unset, .unset, .unset] [(.int (v0_1 p0 p1 p2 w0_COMPACT_STRINGS)), (.int (f6 (v0_4 p0 p1 p2 w0_COMPACT_STRINGS)))])) _
        refine XS.icmpYes X19.here hx rfl (pc0 := 39) (pc' := 46) rfl (hb hby at_39) rfl (XT.ii_ne_t c21) (by decide) (by decide) ?_
        show Steps p.tables e below (T19.setTop (mkF m 46 #[.val (.int p0), .val (.int p1), .val (.int p2), .val (.ref la1), .val (.ref la5), .val (.int (v0_1 p0 p1 p2 w0_COMPACT_STRINGS)), .unset, .unset, .unset, .unset] [])) _
        refine XT.iconstV X19.here hx rfl (0 : Int32) (hb hby at_46) (by decide) ?_
        exact k
    · skip
      refine ⟨T15, _, X15, e15, N15, fun t k => ?_⟩
      rw [show (v0_6 p0 p1 p2 w0_COMPACT_STRINGS) = (0 : Int32) from (if_neg c17)] at k
      refine pre16 t ?_
      show Steps p.tables e below (T15.setTop (mkF m 24 #[.val (.int p0), .val (.int p1), .val (.int p2), .val (.ref la1), .val (.ref la5), .val (.int (v0_1 p0 p1 p2 w0_COMPACT_STRINGS)), .unset, .unset, .unset, .unset] [(.int (v0_1 p0 p1 p2 w0_COMPACT_STRINGS)), (.int (f6 (v0_2 p0 p1 p2 w0_COMPACT_STRINGS)))])) _
      refine XS.icmpYes X15.here hx rfl (pc0 := 24) (pc' := 46) rfl (hb hby at_24) rfl (XT.ii_ne_t c17) (by decide) (by decide) ?_
      show Steps p.tables e below (T15.setTop (mkF m 46 #[.val (.int p0), .val (.int p1), .val (.int p2), .val (.ref la1), .val (.ref la5), .val (.int (v0_1 p0 p1 p2 w0_COMPACT_STRINGS)), .unset, .unset, .unset, .unset] [])) _
      refine XT.iconstV X15.here hx rfl (0 : Int32) (hb hby at_46) (by decide) ?_
      exact k
  have pre23 : ∀ t, Steps p.tables e below (T22.setTop (mkF m 52 #[.val (.int p0), .val (.int p1), .val (.int p2), .val (.ref la1), .val (.ref la5), .val (.int (v0_1 p0 p1 p2 w0_COMPACT_STRINGS)), .val (.int (v0_6 p0 p1 p2 w0_COMPACT_STRINGS)), .unset, .unset, .unset] [(.int (p2 &&& (1 : Int32)))])) t → Steps p.tables e below (s₁.setTop (entryFrame m #[(.int p0), (.int p1), (.int p2)] maxLocals)) t := by
    intro t k
    refine pre22 t ?_
    show Steps p.tables e below (T22.setTop (mkF m 47 #[.val (.int p0), .val (.int p1), .val (.int p2), .val (.ref la1), .val (.ref la5), .val (.int (v0_1 p0 p1 p2 w0_COMPACT_STRINGS)), .unset, .unset, .unset, .unset] [(.int (v0_6 p0 p1 p2 w0_COMPACT_STRINGS))])) _
    refine XS.istore X22.here hx rfl (hb hby at_47) rfl (l' := #[.val (.int p0), .val (.int p1), .val (.int p2), .val (.ref la1), .val (.ref la5), .val (.int (v0_1 p0 p1 p2 w0_COMPACT_STRINGS)), .val (.int (v0_6 p0 p1 p2 w0_COMPACT_STRINGS)), .unset, .unset, .unset]) rfl ?_
    show Steps p.tables e below (T22.setTop (mkF m 49 #[.val (.int p0), .val (.int p1), .val (.int p2), .val (.ref la1), .val (.ref la5), .val (.int (v0_1 p0 p1 p2 w0_COMPACT_STRINGS)), .val (.int (v0_6 p0 p1 p2 w0_COMPACT_STRINGS)), .unset, .unset, .unset] [])) _
    refine XS.iloadN X22.here hx rfl (hb hby at_49) rfl ?_
    show Steps p.tables e below (T22.setTop (mkF m 50 #[.val (.int p0), .val (.int p1), .val (.int p2), .val (.ref la1), .val (.ref la5), .val (.int (v0_1 p0 p1 p2 w0_COMPACT_STRINGS)), .val (.int (v0_6 p0 p1 p2 w0_COMPACT_STRINGS)), .unset, .unset, .unset] [(.int p2)])) _
    refine XT.iconstV X22.here hx rfl (1 : Int32) (hb hby at_50) (by decide) ?_
    show Steps p.tables e below (T22.setTop (mkF m 51 #[.val (.int p0), .val (.int p1), .val (.int p2), .val (.ref la1), .val (.ref la5), .val (.int (v0_1 p0 p1 p2 w0_COMPACT_STRINGS)), .val (.int (v0_6 p0 p1 p2 w0_COMPACT_STRINGS)), .unset, .unset, .unset] [(.int (1 : Int32)), (.int p2)])) _
    refine XS.iand X22.here hx rfl (hb hby at_51) rfl ?_
    exact k
  clear pre22
  have pre25 : ∀ t, Steps p.tables e below (T22.setTop (mkF m 65 #[.val (.int p0), .val (.int p1), .val (.int p2), .val (.ref la1), .val (.ref la5), .val (.int (v0_1 p0 p1 p2 w0_COMPACT_STRINGS)), .val (.int (v0_6 p0 p1 p2 w0_COMPACT_STRINGS)), .unset, .unset, .unset] [(.int (v0_8 p0 p1 p2 w0_COMPACT_STRINGS))])) t → Steps p.tables e below (s₁.setTop (entryFrame m #[(.int p0), (.int p1), (.int p2)] maxLocals)) t := by
    intro t k
    by_cases c24 : (v0_7 p0 p1 p2 w0_COMPACT_STRINGS) = (0 : Int32)
    · skip
      rw [show (v0_8 p0 p1 p2 w0_COMPACT_STRINGS) = ((p0 &&& (127 : Int32)).toUInt32.toUInt16.toUInt32.toInt32) from (if_pos c24)] at k
      refine pre23 t ?_
      show Steps p.tables e below (T22.setTop (mkF m 52 #[.val (.int p0), .val (.int p1), .val (.int p2), .val (.ref la1), .val (.ref la5), .val (.int (v0_1 p0 p1 p2 w0_COMPACT_STRINGS)), .val (.int (v0_6 p0 p1 p2 w0_COMPACT_STRINGS)), .unset, .unset, .unset] [(.int (p2 &&& (1 : Int32)))])) _
      refine XS.ifYes X22.here hx rfl (pc0 := 52) (pc' := 60) rfl (hb hby at_52) rfl (XT.i0_eq_t c24) (by decide) (by decide) ?_
      show Steps p.tables e below (T22.setTop (mkF m 60 #[.val (.int p0), .val (.int p1), .val (.int p2), .val (.ref la1), .val (.ref la5), .val (.int (v0_1 p0 p1 p2 w0_COMPACT_STRINGS)), .val (.int (v0_6 p0 p1 p2 w0_COMPACT_STRINGS)), .unset, .unset, .unset] [])) _
      refine XS.iloadN X22.here hx rfl (hb hby at_60) rfl ?_
      show Steps p.tables e below (T22.setTop (mkF m 61 #[.val (.int p0), .val (.int p1), .val (.int p2), .val (.ref la1), .val (.ref la5), .val (.int (v0_1 p0 p1 p2 w0_COMPACT_STRINGS)), .val (.int (v0_6 p0 p1 p2 w0_COMPACT_STRINGS)), .unset, .unset, .unset] [(.int p0)])) _
      refine XT.bipushV X22.here hx rfl (127 : Int32) (hb hby at_61) (by decide) ?_
      show Steps p.tables e below (T22.setTop (mkF m 63 #[.val (.int p0), .val (.int p1), .val (.int p2), .val (.ref la1), .val (.ref la5), .val (.int (v0_1 p0 p1 p2 w0_COMPACT_STRINGS)), .val (.int (v0_6 p0 p1 p2 w0_COMPACT_STRINGS)), .unset, .unset, .unset] [(.int (127 : Int32)), (.int p0)])) _
      refine XS.iand X22.here hx rfl (hb hby at_63) rfl ?_
      show Steps p.tables e below (T22.setTop (mkF m 64 #[.val (.int p0), .val (.int p1), .val (.int p2), .val (.ref la1), .val (.ref la5), .val (.int (v0_1 p0 p1 p2 w0_COMPACT_STRINGS)), .val (.int (v0_6 p0 p1 p2 w0_COMPACT_STRINGS)), .unset, .unset, .unset] [(.int (p0 &&& (127 : Int32)))])) _
      refine XT.i2c X22.here hx rfl (hb hby at_64) rfl ?_
      exact k
    · skip
      rw [show (v0_8 p0 p1 p2 w0_COMPACT_STRINGS) = (p0.toUInt32.toUInt16.toUInt32.toInt32) from (if_neg c24)] at k
      refine pre23 t ?_
      show Steps p.tables e below (T22.setTop (mkF m 52 #[.val (.int p0), .val (.int p1), .val (.int p2), .val (.ref la1), .val (.ref la5), .val (.int (v0_1 p0 p1 p2 w0_COMPACT_STRINGS)), .val (.int (v0_6 p0 p1 p2 w0_COMPACT_STRINGS)), .unset, .unset, .unset] [(.int (p2 &&& (1 : Int32)))])) _
      refine XS.ifNo X22.here hx rfl (hb hby at_52) rfl (XT.i0_eq_f c24) ?_
      show Steps p.tables e below (T22.setTop (mkF m 55 #[.val (.int p0), .val (.int p1), .val (.int p2), .val (.ref la1), .val (.ref la5), .val (.int (v0_1 p0 p1 p2 w0_COMPACT_STRINGS)), .val (.int (v0_6 p0 p1 p2 w0_COMPACT_STRINGS)), .unset, .unset, .unset] [])) _
      refine XS.iloadN X22.here hx rfl (hb hby at_55) rfl ?_
      show Steps p.tables e below (T22.setTop (mkF m 56 #[.val (.int p0), .val (.int p1), .val (.int p2), .val (.ref la1), .val (.ref la5), .val (.int (v0_1 p0 p1 p2 w0_COMPACT_STRINGS)), .val (.int (v0_6 p0 p1 p2 w0_COMPACT_STRINGS)), .unset, .unset, .unset] [(.int p0)])) _
      refine XT.i2c X22.here hx rfl (hb hby at_56) rfl ?_
      show Steps p.tables e below (T22.setTop (mkF m 57 #[.val (.int p0), .val (.int p1), .val (.int p2), .val (.ref la1), .val (.ref la5), .val (.int (v0_1 p0 p1 p2 w0_COMPACT_STRINGS)), .val (.int (v0_6 p0 p1 p2 w0_COMPACT_STRINGS)), .unset, .unset, .unset] [(.int (p0.toUInt32.toUInt16.toUInt32.toInt32))])) _
      refine XS.goto X22.here hx rfl (pc0 := 57) (pc' := 65) rfl (hb hby at_57) (by decide) (by decide) ?_
      exact k
  obtain ⟨vr26, _, ⟨T26, L26, k26, n26⟩, -, X26, ⟨Lc26, hQ26, l26, y26, z26⟩, st26⟩ := Jvm.LawKit.callS X22 hx (y := (⟨"com/example/ashlar/ashlar/ObjectId", "hexValue", "(C)I"⟩ : MethodName)) hown (mvT hZ (wd hw 34 rfl)) (mvT hZ (wd hw 35 rfl)) (mvT hZ (wd hw 36 rfl)) (mvT hZ (wd hw 37 rfl)) (by decide) (backOf (W := 0) (rm6 l Z a0 hw [] (v0_8 p0 p1 p2 w0_COMPACT_STRINGS) h5 n0 z7) hZ (wd hw 37 rfl) (wd hw 36 rfl) (by decide) (by decide)) (g := (mkF m 69 #[.val (.int p0), .val (.int p1), .val (.int p2), .val (.ref la1), .val (.ref la5), .val (.int (v0_1 p0 p1 p2 w0_COMPACT_STRINGS)), .val (.int (v0_6 p0 p1 p2 w0_COMPACT_STRINGS)), .val (.int (v0_8 p0 p1 p2 w0_COMPACT_STRINGS)), .unset, .unset] [(.int (v0_8 p0 p1 p2 w0_COMPACT_STRINGS))])) rfl (by rw [hml]; rfl) (argsL := [(.int (v0_8 p0 p1 p2 w0_COMPACT_STRINGS))]) (rest := []) (lenOf pd__C_I rfl) rfl (by show 2 * 0 + _ ≤ _; exact Nat.le_of_eq rfl) (hb hby at_69) (fun _ _ => ⟨rfl, e22, (by decide : 4 + 0 ≤ _), (by decide : 136 + 0 ≤ _)⟩)
  dsimp only [Pt.U, Pt.locs, Pt.cells, Pt.slots] at X26 l26 y26 z26 st26 hQ26
  replace X26 := own_stand X26 l26 y26 z26
  clear l26 y26 z26
  have N26q := (show _ ∧ _ ∧ _ from hQ26).1
  have hv26 := (show _ ∧ _ ∧ _ from hQ26).2.1
  have e26 := (show _ ∧ _ ∧ _ from hQ26).2.2
  clear hQ26
  subst hv26
  have N26 := Fr.app N22 N26q
  have pre27 : ∀ t, Steps p.tables e below (T26.setTop (mkF m 77 #[.val (.int p0), .val (.int p1), .val (.int p2), .val (.ref la1), .val (.ref la5), .val (.int (v0_1 p0 p1 p2 w0_COMPACT_STRINGS)), .val (.int (v0_6 p0 p1 p2 w0_COMPACT_STRINGS)), .val (.int (v0_8 p0 p1 p2 w0_COMPACT_STRINGS)), .val (.int (v0_9 p0 p1 p2 w0_COMPACT_STRINGS)), .unset] [(.int (-1 : Int32)), (.int (v0_9 p0 p1 p2 w0_COMPACT_STRINGS))])) t → Steps p.tables e below (s₁.setTop (entryFrame m #[(.int p0), (.int p1), (.int p2)] maxLocals)) t := by
    intro t k
    refine pre25 t ?_
    show Steps p.tables e below (T22.setTop (mkF m 65 #[.val (.int p0), .val (.int p1), .val (.int p2), .val (.ref la1), .val (.ref la5), .val (.int (v0_1 p0 p1 p2 w0_COMPACT_STRINGS)), .val (.int (v0_6 p0 p1 p2 w0_COMPACT_STRINGS)), .unset, .unset, .unset] [(.int (v0_8 p0 p1 p2 w0_COMPACT_STRINGS))])) _
    refine XS.istore X22.here hx rfl (hb hby at_65) rfl (l' := #[.val (.int p0), .val (.int p1), .val (.int p2), .val (.ref la1), .val (.ref la5), .val (.int (v0_1 p0 p1 p2 w0_COMPACT_STRINGS)), .val (.int (v0_6 p0 p1 p2 w0_COMPACT_STRINGS)), .val (.int (v0_8 p0 p1 p2 w0_COMPACT_STRINGS)), .unset, .unset]) rfl ?_
    show Steps p.tables e below (T22.setTop (mkF m 67 #[.val (.int p0), .val (.int p1), .val (.int p2), .val (.ref la1), .val (.ref la5), .val (.int (v0_1 p0 p1 p2 w0_COMPACT_STRINGS)), .val (.int (v0_6 p0 p1 p2 w0_COMPACT_STRINGS)), .val (.int (v0_8 p0 p1 p2 w0_COMPACT_STRINGS)), .unset, .unset] [])) _
    refine XS.iload X22.here hx rfl (hb hby at_67) rfl ?_
    show Steps p.tables e below (T22.setTop (mkF m 69 #[.val (.int p0), .val (.int p1), .val (.int p2), .val (.ref la1), .val (.ref la5), .val (.int (v0_1 p0 p1 p2 w0_COMPACT_STRINGS)), .val (.int (v0_6 p0 p1 p2 w0_COMPACT_STRINGS)), .val (.int (v0_8 p0 p1 p2 w0_COMPACT_STRINGS)), .unset, .unset] [(.int (v0_8 p0 p1 p2 w0_COMPACT_STRINGS))])) _
    refine st26 _ ?_
    show Steps p.tables e below (T26.setTop (mkF m 72 #[.val (.int p0), .val (.int p1), .val (.int p2), .val (.ref la1), .val (.ref la5), .val (.int (v0_1 p0 p1 p2 w0_COMPACT_STRINGS)), .val (.int (v0_6 p0 p1 p2 w0_COMPACT_STRINGS)), .val (.int (v0_8 p0 p1 p2 w0_COMPACT_STRINGS)), .unset, .unset] [(.int (f6 (v0_8 p0 p1 p2 w0_COMPACT_STRINGS)))])) _
    refine XS.istore X26.here hx rfl (hb hby at_72) rfl (l' := #[.val (.int p0), .val (.int p1), .val (.int p2), .val (.ref la1), .val (.ref la5), .val (.int (v0_1 p0 p1 p2 w0_COMPACT_STRINGS)), .val (.int (v0_6 p0 p1 p2 w0_COMPACT_STRINGS)), .val (.int (v0_8 p0 p1 p2 w0_COMPACT_STRINGS)), .val (.int (v0_9 p0 p1 p2 w0_COMPACT_STRINGS)), .unset]) rfl ?_
    show Steps p.tables e below (T26.setTop (mkF m 74 #[.val (.int p0), .val (.int p1), .val (.int p2), .val (.ref la1), .val (.ref la5), .val (.int (v0_1 p0 p1 p2 w0_COMPACT_STRINGS)), .val (.int (v0_6 p0 p1 p2 w0_COMPACT_STRINGS)), .val (.int (v0_8 p0 p1 p2 w0_COMPACT_STRINGS)), .val (.int (v0_9 p0 p1 p2 w0_COMPACT_STRINGS)), .unset] [])) _
    refine XS.iload X26.here hx rfl (hb hby at_74) rfl ?_
    show Steps p.tables e below (T26.setTop (mkF m 76 #[.val (.int p0), .val (.int p1), .val (.int p2), .val (.ref la1), .val (.ref la5), .val (.int (v0_1 p0 p1 p2 w0_COMPACT_STRINGS)), .val (.int (v0_6 p0 p1 p2 w0_COMPACT_STRINGS)), .val (.int (v0_8 p0 p1 p2 w0_COMPACT_STRINGS)), .val (.int (v0_9 p0 p1 p2 w0_COMPACT_STRINGS)), .unset] [(.int (v0_9 p0 p1 p2 w0_COMPACT_STRINGS))])) _
    refine XT.iconstV X26.here hx rfl (-1 : Int32) (hb hby at_76) (by decide) ?_
    exact k
  clear pre25 st26
  obtain ⟨T40, L40, X40, e40, N40, pre40⟩ : ∃ (T' : State) (L' : List Loc), Stand p l e room_1 (s.setVm T5.vm) m #[(.int p0), (.int p1), (.int p2)] below meth c T' L' 4 136 ∧ T'.heap = h5 ∧ Fr n0 L' ∧ ∀ t, Steps p.tables e below (T'.setTop (mkF m 134 #[.val (.int p0), .val (.int p1), .val (.int p2), .val (.ref la1), .val (.ref la5), .val (.int (v0_1 p0 p1 p2 w0_COMPACT_STRINGS)), .val (.int (v0_6 p0 p1 p2 w0_COMPACT_STRINGS)), .val (.int (v0_8 p0 p1 p2 w0_COMPACT_STRINGS)), .val (.int (v0_9 p0 p1 p2 w0_COMPACT_STRINGS)), .val (.int (v0_13 p0 p1 p2 w0_COMPACT_STRINGS))] [])) t → Steps p.tables e below (s₁.setTop (entryFrame m #[(.int p0), (.int p1), (.int p2)] maxLocals)) t := by
    by_cases c28 : (v0_9 p0 p1 p2 w0_COMPACT_STRINGS) = (-1 : Int32)
    · skip
      refine ⟨T26, _, X26, e26, N26, fun t k => ?_⟩
      rw [show (v0_13 p0 p1 p2 w0_COMPACT_STRINGS) = (1 : Int32) from (if_pos c28)] at k
      refine pre27 t ?_
      show Steps p.tables e below (T26.setTop (mkF m 77 #[.val (.int p0), .val (.int p1), .val (.int p2), .val (.ref la1), .val (.ref la5), .val (.int (v0_1 p0 p1 p2 w0_COMPACT_STRINGS)), .val (.int (v0_6 p0 p1 p2 w0_COMPACT_STRINGS)), .val (.int (v0_8 p0 p1 p2 w0_COMPACT_STRINGS)), .val (.int (v0_9 p0 p1 p2 w0_COMPACT_STRINGS)), .unset] [(.int (-1 : Int32)), (.int (v0_9 p0 p1 p2 w0_COMPACT_STRINGS))])) _
      refine XS.icmpNo X26.here hx rfl (hb hby at_77) rfl (XT.ii_ne_f c28) ?_
      show Steps p.tables e below (T26.setTop (mkF m 80 #[.val (.int p0), .val (.int p1), .val (.int p2), .val (.ref la1), .val (.ref la5), .val (.int (v0_1 p0 p1 p2 w0_COMPACT_STRINGS)), .val (.int (v0_6 p0 p1 p2 w0_COMPACT_STRINGS)), .val (.int (v0_8 p0 p1 p2 w0_COMPACT_STRINGS)), .val (.int (v0_9 p0 p1 p2 w0_COMPACT_STRINGS)), .unset] [])) _
      refine XT.iconstV X26.here hx rfl (1 : Int32) (hb hby at_80) (by decide) ?_
      show Steps p.tables e below (T26.setTop (mkF m 81 #[.val (.int p0), .val (.int p1), .val (.int p2), .val (.ref la1), .val (.ref la5), .val (.int (v0_1 p0 p1 p2 w0_COMPACT_STRINGS)), .val (.int (v0_6 p0 p1 p2 w0_COMPACT_STRINGS)), .val (.int (v0_8 p0 p1 p2 w0_COMPACT_STRINGS)), .val (.int (v0_9 p0 p1 p2 w0_COMPACT_STRINGS)), .unset] [(.int (1 : Int32))])) _
      refine XS.istore X26.here hx rfl (hb hby at_81) rfl (l' := #[.val (.int p0), .val (.int p1), .val (.int p2), .val (.ref la1), .val (.ref la5), .val (.int (v0_1 p0 p1 p2 w0_COMPACT_STRINGS)), .val (.int (v0_6 p0 p1 p2 w0_COMPACT_STRINGS)), .val (.int (v0_8 p0 p1 p2 w0_COMPACT_STRINGS)), .val (.int (v0_9 p0 p1 p2 w0_COMPACT_STRINGS)), .val (.int (1 : Int32))]) rfl ?_
      show Steps p.tables e below (T26.setTop (mkF m 83 #[.val (.int p0), .val (.int p1), .val (.int p2), .val (.ref la1), .val (.ref la5), .val (.int (v0_1 p0 p1 p2 w0_COMPACT_STRINGS)), .val (.int (v0_6 p0 p1 p2 w0_COMPACT_STRINGS)), .val (.int (v0_8 p0 p1 p2 w0_COMPACT_STRINGS)), .val (.int (v0_9 p0 p1 p2 w0_COMPACT_STRINGS)), .val (.int (1 : Int32))] [])) _
      refine XS.goto X26.here hx rfl (pc0 := 83) (pc' := 134) rfl (hb hby at_83) (by decide) (by decide) ?_
      exact k
    · skip
      have pre29 : ∀ t, Steps p.tables e below (T26.setTop (mkF m 88 #[.val (.int p0), .val (.int p1), .val (.int p2), .val (.ref la1), .val (.ref la5), .val (.int (v0_1 p0 p1 p2 w0_COMPACT_STRINGS)), .val (.int (v0_6 p0 p1 p2 w0_COMPACT_STRINGS)), .val (.int (v0_8 p0 p1 p2 w0_COMPACT_STRINGS)), .val (.int (v0_9 p0 p1 p2 w0_COMPACT_STRINGS)), .unset] [(.int (v0_9 p0 p1 p2 w0_COMPACT_STRINGS))])) t → Steps p.tables e below (s₁.setTop (entryFrame m #[(.int p0), (.int p1), (.int p2)] maxLocals)) t := by
        intro t k
        refine pre27 t ?_
        show Steps p.tables e below (T26.setTop (mkF m 77 #[.val (.int p0), .val (.int p1), .val (.int p2), .val (.ref la1), .val (.ref la5), .val (.int (v0_1 p0 p1 p2 w0_COMPACT_STRINGS)), .val (.int (v0_6 p0 p1 p2 w0_COMPACT_STRINGS)), .val (.int (v0_8 p0 p1 p2 w0_COMPACT_STRINGS)), .val (.int (v0_9 p0 p1 p2 w0_COMPACT_STRINGS)), .unset] [(.int (-1 : Int32)), (.int (v0_9 p0 p1 p2 w0_COMPACT_STRINGS))])) _
        refine XS.icmpYes X26.here hx rfl (pc0 := 77) (pc' := 86) rfl (hb hby at_77) rfl (XT.ii_ne_t c28) (by decide) (by decide) ?_
        show Steps p.tables e below (T26.setTop (mkF m 86 #[.val (.int p0), .val (.int p1), .val (.int p2), .val (.ref la1), .val (.ref la5), .val (.int (v0_1 p0 p1 p2 w0_COMPACT_STRINGS)), .val (.int (v0_6 p0 p1 p2 w0_COMPACT_STRINGS)), .val (.int (v0_8 p0 p1 p2 w0_COMPACT_STRINGS)), .val (.int (v0_9 p0 p1 p2 w0_COMPACT_STRINGS)), .unset] [])) _
        refine XS.iload X26.here hx rfl (hb hby at_86) rfl ?_
        exact k
      clear pre27
      by_cases c30 : (v0_9 p0 p1 p2 w0_COMPACT_STRINGS) < (0 : Int32)
      · skip
        refine ⟨T26, _, X26, e26, N26, fun t k => ?_⟩
        rw [show (v0_13 p0 p1 p2 w0_COMPACT_STRINGS) = (0 : Int32) from ((if_neg c28).trans (if_pos c30))] at k
        refine pre29 t ?_
        show Steps p.tables e below (T26.setTop (mkF m 88 #[.val (.int p0), .val (.int p1), .val (.int p2), .val (.ref la1), .val (.ref la5), .val (.int (v0_1 p0 p1 p2 w0_COMPACT_STRINGS)), .val (.int (v0_6 p0 p1 p2 w0_COMPACT_STRINGS)), .val (.int (v0_8 p0 p1 p2 w0_COMPACT_STRINGS)), .val (.int (v0_9 p0 p1 p2 w0_COMPACT_STRINGS)), .unset] [(.int (v0_9 p0 p1 p2 w0_COMPACT_STRINGS))])) _
        refine XS.ifYes X26.here hx rfl (pc0 := 88) (pc' := 131) rfl (hb hby at_88) rfl (XT.i0_lt_t c30) (by decide) (by decide) ?_
        show Steps p.tables e below (T26.setTop (mkF m 131 #[.val (.int p0), .val (.int p1), .val (.int p2), .val (.ref la1), .val (.ref la5), .val (.int (v0_1 p0 p1 p2 w0_COMPACT_STRINGS)), .val (.int (v0_6 p0 p1 p2 w0_COMPACT_STRINGS)), .val (.int (v0_8 p0 p1 p2 w0_COMPACT_STRINGS)), .val (.int (v0_9 p0 p1 p2 w0_COMPACT_STRINGS)), .unset] [])) _
        refine XT.iconstV X26.here hx rfl (0 : Int32) (hb hby at_131) (by decide) ?_
        show Steps p.tables e below (T26.setTop (mkF m 132 #[.val (.int p0), .val (.int p1), .val (.int p2), .val (.ref la1), .val (.ref la5), .val (.int (v0_1 p0 p1 p2 w0_COMPACT_STRINGS)), .val (.int (v0_6 p0 p1 p2 w0_COMPACT_STRINGS)), .val (.int (v0_8 p0 p1 p2 w0_COMPACT_STRINGS)), .val (.int (v0_9 p0 p1 p2 w0_COMPACT_STRINGS)), .unset] [(.int (0 : Int32))])) _
        refine XS.istore X26.here hx rfl (hb hby at_132) rfl (l' := #[.val (.int p0), .val (.int p1), .val (.int p2), .val (.ref la1), .val (.ref la5), .val (.int (v0_1 p0 p1 p2 w0_COMPACT_STRINGS)), .val (.int (v0_6 p0 p1 p2 w0_COMPACT_STRINGS)), .val (.int (v0_8 p0 p1 p2 w0_COMPACT_STRINGS)), .val (.int (v0_9 p0 p1 p2 w0_COMPACT_STRINGS)), .val (.int (0 : Int32))]) rfl ?_
        exact k
      · skip
        have pre31 : ∀ t, Steps p.tables e below (T26.setTop (mkF m 95 #[.val (.int p0), .val (.int p1), .val (.int p2), .val (.ref la1), .val (.ref la5), .val (.int (v0_1 p0 p1 p2 w0_COMPACT_STRINGS)), .val (.int (v0_6 p0 p1 p2 w0_COMPACT_STRINGS)), .val (.int (v0_8 p0 p1 p2 w0_COMPACT_STRINGS)), .val (.int (v0_9 p0 p1 p2 w0_COMPACT_STRINGS)), .unset] [(.int (15 : Int32)), (.int (v0_9 p0 p1 p2 w0_COMPACT_STRINGS))])) t → Steps p.tables e below (s₁.setTop (entryFrame m #[(.int p0), (.int p1), (.int p2)] maxLocals)) t := by
          intro t k
          refine pre29 t ?_
          show Steps p.tables e below (T26.setTop (mkF m 88 #[.val (.int p0), .val (.int p1), .val (.int p2), .val (.ref la1), .val (.ref la5), .val (.int (v0_1 p0 p1 p2 w0_COMPACT_STRINGS)), .val (.int (v0_6 p0 p1 p2 w0_COMPACT_STRINGS)), .val (.int (v0_8 p0 p1 p2 w0_COMPACT_STRINGS)), .val (.int (v0_9 p0 p1 p2 w0_COMPACT_STRINGS)), .unset] [(.int (v0_9 p0 p1 p2 w0_COMPACT_STRINGS))])) _
          refine XS.ifNo X26.here hx rfl (hb hby at_88) rfl (XT.i0_lt_f c30) ?_
          show Steps p.tables e below (T26.setTop (mkF m 91 #[.val (.int p0), .val (.int p1), .val (.int p2), .val (.ref la1), .val (.ref la5), .val (.int (v0_1 p0 p1 p2 w0_COMPACT_STRINGS)), .val (.int (v0_6 p0 p1 p2 w0_COMPACT_STRINGS)), .val (.int (v0_8 p0 p1 p2 w0_COMPACT_STRINGS)), .val (.int (v0_9 p0 p1 p2 w0_COMPACT_STRINGS)), .unset] [])) _
          refine XS.iload X26.here hx rfl (hb hby at_91) rfl ?_
          show Steps p.tables e below (T26.setTop (mkF m 93 #[.val (.int p0), .val (.int p1), .val (.int p2), .val (.ref la1), .val (.ref la5), .val (.int (v0_1 p0 p1 p2 w0_COMPACT_STRINGS)), .val (.int (v0_6 p0 p1 p2 w0_COMPACT_STRINGS)), .val (.int (v0_8 p0 p1 p2 w0_COMPACT_STRINGS)), .val (.int (v0_9 p0 p1 p2 w0_COMPACT_STRINGS)), .unset] [(.int (v0_9 p0 p1 p2 w0_COMPACT_STRINGS))])) _
          refine XT.bipushV X26.here hx rfl (15 : Int32) (hb hby at_93) (by decide) ?_
          exact k
        clear pre29
        by_cases c32 : (15 : Int32) < (v0_9 p0 p1 p2 w0_COMPACT_STRINGS)
        · skip
          refine ⟨T26, _, X26, e26, N26, fun t k => ?_⟩
          rw [show (v0_13 p0 p1 p2 w0_COMPACT_STRINGS) = (0 : Int32) from (((if_neg c28).trans (if_neg c30)).trans (if_pos c32))] at k
          refine pre31 t ?_
          show Steps p.tables e below (T26.setTop (mkF m 95 #[.val (.int p0), .val (.int p1), .val (.int p2), .val (.ref la1), .val (.ref la5), .val (.int (v0_1 p0 p1 p2 w0_COMPACT_STRINGS)), .val (.int (v0_6 p0 p1 p2 w0_COMPACT_STRINGS)), .val (.int (v0_8 p0 p1 p2 w0_COMPACT_STRINGS)), .val (.int (v0_9 p0 p1 p2 w0_COMPACT_STRINGS)), .unset] [(.int (15 : Int32)), (.int (v0_9 p0 p1 p2 w0_COMPACT_STRINGS))])) _
          refine XS.icmpYes X26.here hx rfl (pc0 := 95) (pc' := 131) rfl (hb hby at_95) rfl (XT.ii_gt_t c32) (by decide) (by decide) ?_
          show Steps p.tables e below (T26.setTop (mkF m 131 #[.val (.int p0), .val (.int p1), .val (.int p2), .val (.ref la1), .val (.ref la5), .val (.int (v0_1 p0 p1 p2 w0_COMPACT_STRINGS)), .val (.int (v0_6 p0 p1 p2 w0_COMPACT_STRINGS)), .val (.int (v0_8 p0 p1 p2 w0_COMPACT_STRINGS)), .val (.int (v0_9 p0 p1 p2 w0_COMPACT_STRINGS)), .unset] [])) _
          refine XT.iconstV X26.here hx rfl (0 : Int32) (hb hby at_131) (by decide) ?_
          show Steps p.tables e below (T26.setTop (mkF m 132 #[.val (.int p0), .val (.int p1), .val (.int p2), .val (.ref la1), .val (.ref la5), .val (.int (v0_1 p0 p1 p2 w0_COMPACT_STRINGS)), .val (.int (v0_6 p0 p1 p2 w0_COMPACT_STRINGS)), .val (.int (v0_8 p0 p1 p2 w0_COMPACT_STRINGS)), .val (.int (v0_9 p0 p1 p2 w0_COMPACT_STRINGS)), .unset] [(.int (0 : Int32))])) _
          refine XS.istore X26.here hx rfl (hb hby at_132) rfl (l' := #[.val (.int p0), .val (.int p1), .val (.int p2), .val (.ref la1), .val (.ref la5), .val (.int (v0_1 p0 p1 p2 w0_COMPACT_STRINGS)), .val (.int (v0_6 p0 p1 p2 w0_COMPACT_STRINGS)), .val (.int (v0_8 p0 p1 p2 w0_COMPACT_STRINGS)), .val (.int (v0_9 p0 p1 p2 w0_COMPACT_STRINGS)), .val (.int (0 : Int32))]) rfl ?_
          exact k
        · skip
          obtain ⟨cq33, kq33, q33a, q33b, q33c⟩ := isOf hZ e26 k10
          obtain ⟨vr33, _, ⟨T33, L33, k33, n33⟩, -, X33, ⟨Lc33, hQ33, l33, y33, z33⟩, st33⟩ := Jvm.Stand.virtualBack X26 hx (y := (⟨"java/lang/String", "charAt", "(I)C"⟩ : MethodName)) (z := (⟨"java/lang/String", "charAt", "(I)C"⟩ : MethodName)) hown (mvT hZ (wd hw 9 rfl)) (mvT hZ (wd hw 10 rfl)) (notFace_of_selects (args := #[]) (mvT hZ (wd hw 12 rfl))) (mvT hZ (wd hw 12 rfl)) (mvT hZ (wd hw 11 rfl)) (by decide) (backOf (W := 1) (rm1 l Z a0 hw [] la1 (v0_9 p0 p1 p2 w0_COMPACT_STRINGS) lb1 (48 : Int32) (49 : Int32) (50 : Int32) (51 : Int32) (52 : Int32) (53 : Int32) (54 : Int32) (55 : Int32) (56 : Int32) (57 : Int32) (97 : Int32) (98 : Int32) (99 : Int32) (100 : Int32) (101 : Int32) (102 : Int32) lk1 w0_COMPACT_STRINGS u1_SF h5 n0 z7 k10 k11 k12 k13 (Sta.ext O14.2 S_String_COMPACT_STRINGS) hcs (Sta.ext O14.2 S_Preconditions_SIOOBE_FORMATTER) hu c30 (own_lt16 c32)) hZ (wd hw 13 rfl) (wd hw 1 rfl) (by decide) (by decide)) q33a q33c (g := (mkF m 103 #[.val (.int p0), .val (.int p1), .val (.int p2), .val (.ref la1), .val (.ref la5), .val (.int (v0_1 p0 p1 p2 w0_COMPACT_STRINGS)), .val (.int (v0_6 p0 p1 p2 w0_COMPACT_STRINGS)), .val (.int (v0_8 p0 p1 p2 w0_COMPACT_STRINGS)), .val (.int (v0_9 p0 p1 p2 w0_COMPACT_STRINGS)), .unset] [(.int (v0_9 p0 p1 p2 w0_COMPACT_STRINGS)), (.ref la1), (.int (v0_8 p0 p1 p2 w0_COMPACT_STRINGS))])) rfl (by rw [hml]; rfl) (Steps.refl _) (argsL := [(.int (v0_9 p0 p1 p2 w0_COMPACT_STRINGS))]) (rest := [(.int (v0_8 p0 p1 p2 w0_COMPACT_STRINGS))]) (lenOf pd__I_C rfl) rfl (by show 2 * 0 + _ ≤ _; exact Nat.le_of_eq rfl) (hb hby at_103) (fun _ _ => ⟨rfl, e26, (by decide : 4 + 0 ≤ _), (by decide : 136 + 0 ≤ _)⟩)
          dsimp only [Pt.U, Pt.locs, Pt.cells, Pt.slots] at X33 l33 y33 z33 st33 hQ33
          replace X33 := own_stand X33 l33 y33 z33
          clear l33 y33 z33
          have N33q := (show _ ∧ _ ∧ _ from hQ33).1
          have hv33 := (show _ ∧ _ ∧ _ from hQ33).2.1
          have e33 := (show _ ∧ _ ∧ _ from hQ33).2.2
          clear hQ33
          subst hv33
          have N33 := Fr.app N26 N33q
          have pre34 : ∀ t, Steps p.tables e below (T33.setTop (mkF m 106 #[.val (.int p0), .val (.int p1), .val (.int p2), .val (.ref la1), .val (.ref la5), .val (.int (v0_1 p0 p1 p2 w0_COMPACT_STRINGS)), .val (.int (v0_6 p0 p1 p2 w0_COMPACT_STRINGS)), .val (.int (v0_8 p0 p1 p2 w0_COMPACT_STRINGS)), .val (.int (v0_9 p0 p1 p2 w0_COMPACT_STRINGS)), .unset] [(.int (f1 (v0_9 p0 p1 p2 w0_COMPACT_STRINGS) (48 : Int32) (49 : Int32) (50 : Int32) (51 : Int32) (52 : Int32) (53 : Int32) (54 : Int32) (55 : Int32) (56 : Int32) (57 : Int32) (97 : Int32) (98 : Int32) (99 : Int32) (100 : Int32) (101 : Int32) (102 : Int32) w0_COMPACT_STRINGS)), (.int (v0_8 p0 p1 p2 w0_COMPACT_STRINGS))])) t → Steps p.tables e below (s₁.setTop (entryFrame m #[(.int p0), (.int p1), (.int p2)] maxLocals)) t := by
            intro t k
            refine pre31 t ?_
            show Steps p.tables e below (T26.setTop (mkF m 95 #[.val (.int p0), .val (.int p1), .val (.int p2), .val (.ref la1), .val (.ref la5), .val (.int (v0_1 p0 p1 p2 w0_COMPACT_STRINGS)), .val (.int (v0_6 p0 p1 p2 w0_COMPACT_STRINGS)), .val (.int (v0_8 p0 p1 p2 w0_COMPACT_STRINGS)), .val (.int (v0_9 p0 p1 p2 w0_COMPACT_STRINGS)), .unset] [(.int (15 : Int32)), (.int (v0_9 p0 p1 p2 w0_COMPACT_STRINGS))])) _
            refine XS.icmpNo X26.here hx rfl (hb hby at_95) rfl (XT.ii_gt_f c32) ?_
            show Steps p.tables e below (T26.setTop (mkF m 98 #[.val (.int p0), .val (.int p1), .val (.int p2), .val (.ref la1), .val (.ref la5), .val (.int (v0_1 p0 p1 p2 w0_COMPACT_STRINGS)), .val (.int (v0_6 p0 p1 p2 w0_COMPACT_STRINGS)), .val (.int (v0_8 p0 p1 p2 w0_COMPACT_STRINGS)), .val (.int (v0_9 p0 p1 p2 w0_COMPACT_STRINGS)), .unset] [])) _
            refine XS.iload X26.here hx rfl (hb hby at_98) rfl ?_
            show Steps p.tables e below (T26.setTop (mkF m 100 #[.val (.int p0), .val (.int p1), .val (.int p2), .val (.ref la1), .val (.ref la5), .val (.int (v0_1 p0 p1 p2 w0_COMPACT_STRINGS)), .val (.int (v0_6 p0 p1 p2 w0_COMPACT_STRINGS)), .val (.int (v0_8 p0 p1 p2 w0_COMPACT_STRINGS)), .val (.int (v0_9 p0 p1 p2 w0_COMPACT_STRINGS)), .unset] [(.int (v0_8 p0 p1 p2 w0_COMPACT_STRINGS))])) _
            refine XS.aloadN X26.here hx rfl (hb hby at_100) rfl rfl ?_
            show Steps p.tables e below (T26.setTop (mkF m 101 #[.val (.int p0), .val (.int p1), .val (.int p2), .val (.ref la1), .val (.ref la5), .val (.int (v0_1 p0 p1 p2 w0_COMPACT_STRINGS)), .val (.int (v0_6 p0 p1 p2 w0_COMPACT_STRINGS)), .val (.int (v0_8 p0 p1 p2 w0_COMPACT_STRINGS)), .val (.int (v0_9 p0 p1 p2 w0_COMPACT_STRINGS)), .unset] [(.ref la1), (.int (v0_8 p0 p1 p2 w0_COMPACT_STRINGS))])) _
            refine XS.iload X26.here hx rfl (hb hby at_101) rfl ?_
            show Steps p.tables e below (T26.setTop (mkF m 103 #[.val (.int p0), .val (.int p1), .val (.int p2), .val (.ref la1), .val (.ref la5), .val (.int (v0_1 p0 p1 p2 w0_COMPACT_STRINGS)), .val (.int (v0_6 p0 p1 p2 w0_COMPACT_STRINGS)), .val (.int (v0_8 p0 p1 p2 w0_COMPACT_STRINGS)), .val (.int (v0_9 p0 p1 p2 w0_COMPACT_STRINGS)), .unset] [(.int (v0_9 p0 p1 p2 w0_COMPACT_STRINGS)), (.ref la1), (.int (v0_8 p0 p1 p2 w0_COMPACT_STRINGS))])) _
            refine st33.trans ?_
            exact k
          clear pre31 st33
          obtain ⟨T39, L39, X39, e39, N39, pre39⟩ : ∃ (T' : State) (L' : List Loc), Stand p l e room_1 (s.setVm T5.vm) m #[(.int p0), (.int p1), (.int p2)] below meth c T' L' 4 136 ∧ T'.heap = h5 ∧ Fr n0 L' ∧ ∀ t, Steps p.tables e below (T'.setTop (mkF m 126 #[.val (.int p0), .val (.int p1), .val (.int p2), .val (.ref la1), .val (.ref la5), .val (.int (v0_1 p0 p1 p2 w0_COMPACT_STRINGS)), .val (.int (v0_6 p0 p1 p2 w0_COMPACT_STRINGS)), .val (.int (v0_8 p0 p1 p2 w0_COMPACT_STRINGS)), .val (.int (v0_9 p0 p1 p2 w0_COMPACT_STRINGS)), .unset] [(.int (v0_12 p0 p1 p2 w0_COMPACT_STRINGS))])) t → Steps p.tables e below (s₁.setTop (entryFrame m #[(.int p0), (.int p1), (.int p2)] maxLocals)) t := by
            by_cases c35 : (v0_8 p0 p1 p2 w0_COMPACT_STRINGS) = (v0_10 p0 p1 p2 w0_COMPACT_STRINGS)
            · skip
              refine ⟨T33, _, X33, e33, N33, fun t k => ?_⟩
              rw [show (v0_12 p0 p1 p2 w0_COMPACT_STRINGS) = (1 : Int32) from (if_pos c35)] at k
              refine pre34 t ?_
              show Steps p.tables e below (T33.setTop (mkF m 106 #[.val (.int p0), .val (.int p1), .val (.int p2), .val (.ref la1), .val (.ref la5), .val (.int (v0_1 p0 p1 p2 w0_COMPACT_STRINGS)), .val (.int (v0_6 p0 p1 p2 w0_COMPACT_STRINGS)), .val (.int (v0_8 p0 p1 p2 w0_COMPACT_STRINGS)), .val (.int (v0_9 p0 p1 p2 w0_COMPACT_STRINGS)), .unset] [(.int (f1 (v0_9 p0 p1 p2 w0_COMPACT_STRINGS) (48 : Int32) (49 : Int32) (50 : Int32) (51 : Int32) (52 : Int32) (53 : Int32) (54 : Int32) (55 : Int32) (56 : Int32) (57 : Int32) (97 : Int32) (98 : Int32) (99 : Int32) (100 : Int32) (101 : Int32) (102 : Int32) w0_COMPACT_STRINGS)), (.int (v0_8 p0 p1 p2 w0_COMPACT_STRINGS))])) _
              refine XS.icmpYes X33.here hx rfl (pc0 := 106) (pc' := 121) rfl (hb hby at_106) rfl (XT.ii_eq_t c35) (by decide) (by decide) ?_
              show Steps p.tables e below (T33.setTop (mkF m 121 #[.val (.int p0), .val (.int p1), .val (.int p2), .val (.ref la1), .val (.ref la5), .val (.int (v0_1 p0 p1 p2 w0_COMPACT_STRINGS)), .val (.int (v0_6 p0 p1 p2 w0_COMPACT_STRINGS)), .val (.int (v0_8 p0 p1 p2 w0_COMPACT_STRINGS)), .val (.int (v0_9 p0 p1 p2 w0_COMPACT_STRINGS)), .unset] [])) _
              refine XT.iconstV X33.here hx rfl (1 : Int32) (hb hby at_121) (by decide) ?_
              show Steps p.tables e below (T33.setTop (mkF m 122 #[.val (.int p0), .val (.int p1), .val (.int p2), .val (.ref la1), .val (.ref la5), .val (.int (v0_1 p0 p1 p2 w0_COMPACT_STRINGS)), .val (.int (v0_6 p0 p1 p2 w0_COMPACT_STRINGS)), .val (.int (v0_8 p0 p1 p2 w0_COMPACT_STRINGS)), .val (.int (v0_9 p0 p1 p2 w0_COMPACT_STRINGS)), .unset] [(.int (1 : Int32))])) _
              refine XS.goto X33.here hx rfl (pc0 := 122) (pc' := 126) rfl (hb hby at_122) (by decide) (by decide) ?_
              exact k
            · skip
              obtain ⟨cq36, kq36, q36a, q36b, q36c⟩ := isOf hZ e33 Ex5
              obtain ⟨vr36, _, ⟨T36, L36, k36, n36⟩, -, X36, ⟨Lc36, hQ36, l36, y36, z36⟩, st36⟩ := Jvm.Stand.virtualBack X33 hx (y := (⟨"java/lang/String", "charAt", "(I)C"⟩ : MethodName)) (z := (⟨"java/lang/String", "charAt", "(I)C"⟩ : MethodName)) hown (mvT hZ (wd hw 9 rfl)) (mvT hZ (wd hw 10 rfl)) (notFace_of_selects (args := #[]) (mvT hZ (wd hw 12 rfl))) (mvT hZ (wd hw 12 rfl)) (mvT hZ (wd hw 11 rfl)) (by decide) (backOf (W := 1) (rm1 l Z a0 hw [] la5 (v0_9 p0 p1 p2 w0_COMPACT_STRINGS) lb5 (48 : Int32) (49 : Int32) (50 : Int32) (51 : Int32) (52 : Int32) (53 : Int32) (54 : Int32) (55 : Int32) (56 : Int32) (57 : Int32) (65 : Int32) (66 : Int32) (67 : Int32) (68 : Int32) (69 : Int32) (70 : Int32) lk5 w0_COMPACT_STRINGS u1_SF h5 n0 z7 Ex5 Fc5 Fv5 V5 (Sta.ext O14.2 S_String_COMPACT_STRINGS) hcs (Sta.ext O14.2 S_Preconditions_SIOOBE_FORMATTER) hu c30 (own_lt16 c32)) hZ (wd hw 13 rfl) (wd hw 1 rfl) (by decide) (by decide)) q36a q36c (g := (mkF m 115 #[.val (.int p0), .val (.int p1), .val (.int p2), .val (.ref la1), .val (.ref la5), .val (.int (v0_1 p0 p1 p2 w0_COMPACT_STRINGS)), .val (.int (v0_6 p0 p1 p2 w0_COMPACT_STRINGS)), .val (.int (v0_8 p0 p1 p2 w0_COMPACT_STRINGS)), .val (.int (v0_9 p0 p1 p2 w0_COMPACT_STRINGS)), .unset] [(.int (v0_9 p0 p1 p2 w0_COMPACT_STRINGS)), (.ref la5), (.int (v0_8 p0 p1 p2 w0_COMPACT_STRINGS))])) rfl (by rw [hml]; rfl) (Steps.refl _) (argsL := [(.int (v0_9 p0 p1 p2 w0_COMPACT_STRINGS))]) (rest := [(.int (v0_8 p0 p1 p2 w0_COMPACT_STRINGS))]) (lenOf pd__I_C rfl) rfl (by show 2 * 0 + _ ≤ _; exact Nat.le_of_eq rfl) (hb hby at_115) (fun _ _ => ⟨rfl, e33, (by decide : 4 + 0 ≤ _), (by decide : 136 + 0 ≤ _)⟩)
              dsimp only [Pt.U, Pt.locs, Pt.cells, Pt.slots] at X36 l36 y36 z36 st36 hQ36
              replace X36 := own_stand X36 l36 y36 z36
              clear l36 y36 z36
              have N36q := (show _ ∧ _ ∧ _ from hQ36).1
              have hv36 := (show _ ∧ _ ∧ _ from hQ36).2.1
              have e36 := (show _ ∧ _ ∧ _ from hQ36).2.2
              clear hQ36
              subst hv36
              have N36 := Fr.app N33 N36q
              have pre37 : ∀ t, Steps p.tables e below (T36.setTop (mkF m 118 #[.val (.int p0), .val (.int p1), .val (.int p2), .val (.ref la1), .val (.ref la5), .val (.int (v0_1 p0 p1 p2 w0_COMPACT_STRINGS)), .val (.int (v0_6 p0 p1 p2 w0_COMPACT_STRINGS)), .val (.int (v0_8 p0 p1 p2 w0_COMPACT_STRINGS)), .val (.int (v0_9 p0 p1 p2 w0_COMPACT_STRINGS)), .unset] [(.int (f1 (v0_9 p0 p1 p2 w0_COMPACT_STRINGS) (48 : Int32) (49 : Int32) (50 : Int32) (51 : Int32) (52 : Int32) (53 : Int32) (54 : Int32) (55 : Int32) (56 : Int32) (57 : Int32) (65 : Int32) (66 : Int32) (67 : Int32) (68 : Int32) (69 : Int32) (70 : Int32) w0_COMPACT_STRINGS)), (.int (v0_8 p0 p1 p2 w0_COMPACT_STRINGS))])) t → Steps p.tables e below (s₁.setTop (entryFrame m #[(.int p0), (.int p1), (.int p2)] maxLocals)) t := by
                intro t k
                refine pre34 t ?_
                show Steps p.tables e below (T33.setTop (mkF m 106 #[.val (.int p0), .val (.int p1), .val (.int p2), .val (.ref la1), .val (.ref la5), .val (.int (v0_1 p0 p1 p2 w0_COMPACT_STRINGS)), .val (.int (v0_6 p0 p1 p2 w0_COMPACT_STRINGS)), .val (.int (v0_8 p0 p1 p2 w0_COMPACT_STRINGS)), .val (.int (v0_9 p0 p1 p2 w0_COMPACT_STRINGS)), .unset] [(.int (f1 (v0_9 p0 p1 p2 w0_COMPACT_STRINGS) (48 : Int32) (49 : Int32) (50 : Int32) (51 : Int32) (52 : Int32) (53 : Int32) (54 : Int32) (55 : Int32) (56 : Int32) (57 : Int32) (97 : Int32) (98 : Int32) (99 : Int32) (100 : Int32) (101 : Int32) (102 : Int32) w0_COMPACT_STRINGS)), (.int (v0_8 p0 p1 p2 w0_COMPACT_STRINGS))])) _
                refine XS.icmpNo X33.here hx rfl (hb hby at_106) rfl (XT.ii_eq_f c35) ?_
                show Steps p.tables e below (T33.setTop (mkF m 109 #[.val (.int p0), .val (.int p1), .val (.int p2), .val (.ref la1), .val (.ref la5), .val (.int (v0_1 p0 p1 p2 w0_COMPACT_STRINGS)), .val (.int (v0_6 p0 p1 p2 w0_COMPACT_STRINGS)), .val (.int (v0_8 p0 p1 p2 w0_COMPACT_STRINGS)), .val (.int (v0_9 p0 p1 p2 w0_COMPACT_STRINGS)), .unset] [])) _
                refine XS.iload X33.here hx rfl (hb hby at_109) rfl ?_
                show Steps p.tables e below (T33.setTop (mkF m 111 #[.val (.int p0), .val (.int p1), .val (.int p2), .val (.ref la1), .val (.ref la5), .val (.int (v0_1 p0 p1 p2 w0_COMPACT_STRINGS)), .val (.int (v0_6 p0 p1 p2 w0_COMPACT_STRINGS)), .val (.int (v0_8 p0 p1 p2 w0_COMPACT_STRINGS)), .val (.int (v0_9 p0 p1 p2 w0_COMPACT_STRINGS)), .unset] [(.int (v0_8 p0 p1 p2 w0_COMPACT_STRINGS))])) _
                refine XS.aload X33.here hx rfl (hb hby at_111) rfl rfl ?_
                show Steps p.tables e below (T33.setTop (mkF m 113 #[.val (.int p0), .val (.int p1), .val (.int p2), .val (.ref la1), .val (.ref la5), .val (.int (v0_1 p0 p1 p2 w0_COMPACT_STRINGS)), .val (.int (v0_6 p0 p1 p2 w0_COMPACT_STRINGS)), .val (.int (v0_8 p0 p1 p2 w0_COMPACT_STRINGS)), .val (.int (v0_9 p0 p1 p2 w0_COMPACT_STRINGS)), .unset] [(.ref la5), (.int (v0_8 p0 p1 p2 w0_COMPACT_STRINGS))])) _
                refine XS.iload X33.here hx rfl (hb hby at_113) rfl ?_
                show Steps p.tables e below (T33.setTop (mkF m 115 #[.val (.int p0), .val (.int p1), .val (.int p2), .val (.ref la1), .val (.ref la5), .val (.int (v0_1 p0 p1 p2 w0_COMPACT_STRINGS)), .val (.int (v0_6 p0 p1 p2 w0_COMPACT_STRINGS)), .val (.int (v0_8 p0 p1 p2 w0_COMPACT_STRINGS)), .val (.int (v0_9 p0 p1 p2 w0_COMPACT_STRINGS)), .unset] [(.int (v0_9 p0 p1 p2 w0_COMPACT_STRINGS)), (.ref la5), (.int (v0_8 p0 p1 p2 w0_COMPACT_STRINGS))])) _
                refine st36.trans ?_
                exact k
              clear pre34 st36
              by_cases c38 : (v0_8 p0 p1 p2 w0_COMPACT_STRINGS) = (v0_11 p0 p1 p2 w0_COMPACT_STRINGS)
              · skip
                refine ⟨T36, _, X36, e36, N36, fun t k => ?_⟩
                rw [show (v0_12 p0 p1 p2 w0_COMPACT_STRINGS) = (1 : Int32) from ((if_neg c35).trans (if_pos c38))] at k
                refine pre37 t ?_
                show Steps p.tables e below (T36.setTop (mkF m 118 #[.val (.int p0), .val (.int p1), .val (.int p2), .val (.ref la1), .val (.ref la5), .val (.int (v0_1 p0 p1 p2 w0_COMPACT_STRINGS)), .val (.int (v0_6 p0 p1 p2 w0_COMPACT_STRINGS)), .val (.int (v0_8 p0 p1 p2 w0_COMPACT_STRINGS)), .val (.int (v0_9 p0 p1 p2 w0_COMPACT_STRINGS)), .unset] [(.int (f1 (v0_9 p0 p1 p2 w0_COMPACT_STRINGS) (48 : Int32) (49 : Int32) (50 : Int32) (51 : Int32) (52 : Int32) (53 : Int32) (54 : Int32) (55 : Int32) (56 : Int32) (57 : Int32) (65 : Int32) (66 : Int32) (67 : Int32) (68 : Int32) (69 : Int32) (70 : Int32) w0_COMPACT_STRINGS)), (.int (v0_8 p0 p1 p2 w0_COMPACT_STRINGS))])) _
                refine XS.icmpNo X36.here hx rfl (hb hby at_118) rfl (XT.ii_ne_f c38) ?_
                show Steps p.tables e below (T36.setTop (mkF m 121 #[.val (.int p0), .val (.int p1), .val (.int p2), .val (.ref la1), .val (.ref la5), .val (.int (v0_1 p0 p1 p2 w0_COMPACT_STRINGS)), .val (.int (v0_6 p0 p1 p2 w0_COMPACT_STRINGS)), .val (.int (v0_8 p0 p1 p2 w0_COMPACT_STRINGS)), .val (.int (v0_9 p0 p1 p2 w0_COMPACT_STRINGS)), .unset] [])) _
                refine XT.iconstV X36.here hx rfl (1 : Int32) (hb hby at_121) (by decide) ?_
                show Steps p.tables e below (T36.setTop (mkF m 122 #[.val (.int p0), .val (.int p1), .val (.int p2), .val (.ref la1), .val (.ref la5), .val (.int (v0_1 p0 p1 p2 w0_COMPACT_STRINGS)), .val (.int (v0_6 p0 p1 p2 w0_COMPACT_STRINGS)), .val (.int (v0_8 p0 p1 p2 w0_COMPACT_STRINGS)), .val (.int (v0_9 p0 p1 p2 w0_COMPACT_STRINGS)), .unset] [(.int (1 : Int32))])) _
                refine XS.goto X36.here hx rfl (pc0 := 122) (pc' := 126) rfl (hb hby at_122) (by decide) (by decide) ?_
                exact k
              · skip
                refine ⟨T36, _, X36, e36, N36, fun t k => ?_⟩
                rw [show (v0_12 p0 p1 p2 w0_COMPACT_STRINGS) = (0 : Int32) from ((if_neg c35).trans (if_neg c38))] at k
                refine pre37 t ?_
                show Steps p.tables e below (T36.setTop (mkF m 118 #[.val (.int p0), .val (.int p1), .val (.int p2), .val (.ref la1), .val (.ref la5), .val (.int (v0_1 p0 p1 p2 w0_COMPACT_STRINGS)), .val (.int (v0_6 p0 p1 p2 w0_COMPACT_STRINGS)), .val (.int (v0_8 p0 p1 p2 w0_COMPACT_STRINGS)), .val (.int (v0_9 p0 p1 p2 w0_COMPACT_STRINGS)), .unset] [(.int (f1 (v0_9 p0 p1 p2 w0_COMPACT_STRINGS) (48 : Int32) (49 : Int32) (50 : Int32) (51 : Int32) (52 : Int32) (53 : Int32) (54 : Int32) (55 : Int32) (56 : Int32) (57 : Int32) (65 : Int32) (66 : Int32) (67 : Int32) (68 : Int32) (69 : Int32) (70 : Int32) w0_COMPACT_STRINGS)), (.int (v0_8 p0 p1 p2 w0_COMPACT_STRINGS))])) _
                refine XS.icmpYes X36.here hx rfl (pc0 := 118) (pc' := 125) rfl (hb hby at_118) rfl (XT.ii_ne_t c38) (by decide) (by decide) ?_
                show Steps p.tables e below (T36.setTop (mkF m 125 #[.val (.int p0), .val (.int p1), .val (.int p2), .val (.ref la1), .val (.ref la5), .val (.int (v0_1 p0 p1 p2 w0_COMPACT_STRINGS)), .val (.int (v0_6 p0 p1 p2 w0_COMPACT_STRINGS)), .val (.int (v0_8 p0 p1 p2 w0_COMPACT_STRINGS)), .val (.int (v0_9 p0 p1 p2 w0_COMPACT_STRINGS)), .unset] [])) _
                refine XT.iconstV X36.here hx rfl (0 : Int32) (hb hby at_125) (by decide) ?_
                exact k
          refine ⟨T39, _, X39, e39, N39, fun t k => ?_⟩
          rw [show (v0_13 p0 p1 p2 w0_COMPACT_STRINGS) = (v0_12 p0 p1 p2 w0_COMPACT_STRINGS) from (((if_neg c28).trans (if_neg c30)).trans (if_neg c32))] at k
          refine pre39 t ?_
          show Steps p.tables e below (T39.setTop (mkF m 126 #[.val (.int p0), .val (.int p1), .val (.int p2), .val (.ref la1), .val (.ref la5), .val (.int (v0_1 p0 p1 p2 w0_COMPACT_STRINGS)), .val (.int (v0_6 p0 p1 p2 w0_COMPACT_STRINGS)), .val (.int (v0_8 p0 p1 p2 w0_COMPACT_STRINGS)), .val (.int (v0_9 p0 p1 p2 w0_COMPACT_STRINGS)), .unset] [(.int (v0_12 p0 p1 p2 w0_COMPACT_STRINGS))])) _
          refine XS.istore X39.here hx rfl (hb hby at_126) rfl (l' := #[.val (.int p0), .val (.int p1), .val (.int p2), .val (.ref la1), .val (.ref la5), .val (.int (v0_1 p0 p1 p2 w0_COMPACT_STRINGS)), .val (.int (v0_6 p0 p1 p2 w0_COMPACT_STRINGS)), .val (.int (v0_8 p0 p1 p2 w0_COMPACT_STRINGS)), .val (.int (v0_9 p0 p1 p2 w0_COMPACT_STRINGS)), .val (.int (v0_12 p0 p1 p2 w0_COMPACT_STRINGS))]) rfl ?_
          show Steps p.tables e below (T39.setTop (mkF m 128 #[.val (.int p0), .val (.int p1), .val (.int p2), .val (.ref la1), .val (.ref la5), .val (.int (v0_1 p0 p1 p2 w0_COMPACT_STRINGS)), .val (.int (v0_6 p0 p1 p2 w0_COMPACT_STRINGS)), .val (.int (v0_8 p0 p1 p2 w0_COMPACT_STRINGS)), .val (.int (v0_9 p0 p1 p2 w0_COMPACT_STRINGS)), .val (.int (v0_12 p0 p1 p2 w0_COMPACT_STRINGS))] [])) _
          refine XS.goto X39.here hx rfl (pc0 := 128) (pc' := 134) rfl (hb hby at_128) (by decide) (by decide) ?_
          exact k
  have pre41 : ∀ t, Steps p.tables e below (T40.setTop (mkF m 136 #[.val (.int p0), .val (.int p1), .val (.int p2), .val (.ref la1), .val (.ref la5), .val (.int (v0_1 p0 p1 p2 w0_COMPACT_STRINGS)), .val (.int (v0_6 p0 p1 p2 w0_COMPACT_STRINGS)), .val (.int (v0_8 p0 p1 p2 w0_COMPACT_STRINGS)), .val (.int (v0_9 p0 p1 p2 w0_COMPACT_STRINGS)), .val (.int (v0_13 p0 p1 p2 w0_COMPACT_STRINGS))] [(.int (v0_6 p0 p1 p2 w0_COMPACT_STRINGS))])) t → Steps p.tables e below (s₁.setTop (entryFrame m #[(.int p0), (.int p1), (.int p2)] maxLocals)) t := by
    intro t k
    refine pre40 t ?_
    show Steps p.tables e below (T40.setTop (mkF m 134 #[.val (.int p0), .val (.int p1), .val (.int p2), .val (.ref la1), .val (.ref la5), .val (.int (v0_1 p0 p1 p2 w0_COMPACT_STRINGS)), .val (.int (v0_6 p0 p1 p2 w0_COMPACT_STRINGS)), .val (.int (v0_8 p0 p1 p2 w0_COMPACT_STRINGS)), .val (.int (v0_9 p0 p1 p2 w0_COMPACT_STRINGS)), .val (.int (v0_13 p0 p1 p2 w0_COMPACT_STRINGS))] [])) _
    refine XS.iload X40.here hx rfl (hb hby at_134) rfl ?_
    exact k
  clear pre40
  have pre45 : ∀ t, Steps p.tables e below (T40.setTop (mkF m 149 #[.val (.int p0), .val (.int p1), .val (.int p2), .val (.ref la1), .val (.ref la5), .val (.int (v0_1 p0 p1 p2 w0_COMPACT_STRINGS)), .val (.int (v0_6 p0 p1 p2 w0_COMPACT_STRINGS)), .val (.int (v0_8 p0 p1 p2 w0_COMPACT_STRINGS)), .val (.int (v0_9 p0 p1 p2 w0_COMPACT_STRINGS)), .val (.int (v0_13 p0 p1 p2 w0_COMPACT_STRINGS))] [(.int (v0_14 p0 p1 p2 w0_COMPACT_STRINGS))])) t → Steps p.tables e below (s₁.setTop (entryFrame m #[(.int p0), (.int p1), (.int p2)] maxLocals)) t := by
    intro t k
    by_cases c42 : (v0_6 p0 p1 p2 w0_COMPACT_STRINGS) = (0 : Int32)
    · skip
      rw [show (v0_14 p0 p1 p2 w0_COMPACT_STRINGS) = (0 : Int32) from (if_pos c42)] at k
      refine pre41 t ?_
      show Steps p.tables e below (T40.setTop (mkF m 136 #[.val (.int p0), .val (.int p1), .val (.int p2), .val (.ref la1), .val (.ref la5), .val (.int (v0_1 p0 p1 p2 w0_COMPACT_STRINGS)), .val (.int (v0_6 p0 p1 p2 w0_COMPACT_STRINGS)), .val (.int (v0_8 p0 p1 p2 w0_COMPACT_STRINGS)), .val (.int (v0_9 p0 p1 p2 w0_COMPACT_STRINGS)), .val (.int (v0_13 p0 p1 p2 w0_COMPACT_STRINGS))] [(.int (v0_6 p0 p1 p2 w0_COMPACT_STRINGS))])) _
      refine XS.ifYes X40.here hx rfl (pc0 := 136) (pc' := 148) rfl (hb hby at_136) rfl (XT.i0_eq_t c42) (by decide) (by decide) ?_
      show Steps p.tables e below (T40.setTop (mkF m 148 #[.val (.int p0), .val (.int p1), .val (.int p2), .val (.ref la1), .val (.ref la5), .val (.int (v0_1 p0 p1 p2 w0_COMPACT_STRINGS)), .val (.int (v0_6 p0 p1 p2 w0_COMPACT_STRINGS)), .val (.int (v0_8 p0 p1 p2 w0_COMPACT_STRINGS)), .val (.int (v0_9 p0 p1 p2 w0_COMPACT_STRINGS)), .val (.int (v0_13 p0 p1 p2 w0_COMPACT_STRINGS))] [])) _
      refine XT.iconstV X40.here hx rfl (0 : Int32) (hb hby at_148) (by decide) ?_
      exact k
    · skip
      have pre43 : ∀ t, Steps p.tables e below (T40.setTop (mkF m 141 #[.val (.int p0), .val (.int p1), .val (.int p2), .val (.ref la1), .val (.ref la5), .val (.int (v0_1 p0 p1 p2 w0_COMPACT_STRINGS)), .val (.int (v0_6 p0 p1 p2 w0_COMPACT_STRINGS)), .val (.int (v0_8 p0 p1 p2 w0_COMPACT_STRINGS)), .val (.int (v0_9 p0 p1 p2 w0_COMPACT_STRINGS)), .val (.int (v0_13 p0 p1 p2 w0_COMPACT_STRINGS))] [(.int (v0_13 p0 p1 p2 w0_COMPACT_STRINGS))])) t → Steps p.tables e below (s₁.setTop (entryFrame m #[(.int p0), (.int p1), (.int p2)] maxLocals)) t := by
        intro t k
        refine pre41 t ?_
        show Steps p.tables e below (T40.setTop (mkF m 136 #[.val (.int p0), .val (.int p1), .val (.int p2), .val (.ref la1), .val (.ref la5), .val (.int (v0_1 p0 p1 p2 w0_COMPACT_STRINGS)), .val (.int (v0_6 p0 p1 p2 w0_COMPACT_STRINGS)), .val (.int (v0_8 p0 p1 p2 w0_COMPACT_STRINGS)), .val (.int (v0_9 p0 p1 p2 w0_COMPACT_STRINGS)), .val (.int (v0_13 p0 p1 p2 w0_COMPACT_STRINGS))] [(.int (v0_6 p0 p1 p2 w0_COMPACT_STRINGS))])) _
        refine XS.ifNo X40.here hx rfl (hb hby at_136) rfl (XT.i0_eq_f c42) ?_
        show Steps p.tables e below (T40.setTop (mkF m 139 #[.val (.int p0), .val (.int p1), .val (.int p2), .val (.ref la1), .val (.ref la5), .val (.int (v0_1 p0 p1 p2 w0_COMPACT_STRINGS)), .val (.int (v0_6 p0 p1 p2 w0_COMPACT_STRINGS)), .val (.int (v0_8 p0 p1 p2 w0_COMPACT_STRINGS)), .val (.int (v0_9 p0 p1 p2 w0_COMPACT_STRINGS)), .val (.int (v0_13 p0 p1 p2 w0_COMPACT_STRINGS))] [])) _
        refine XS.iload X40.here hx rfl (hb hby at_139) rfl ?_
        exact k
      clear pre41
      by_cases c44 : (v0_13 p0 p1 p2 w0_COMPACT_STRINGS) = (0 : Int32)
      · skip
        rw [show (v0_14 p0 p1 p2 w0_COMPACT_STRINGS) = (0 : Int32) from ((if_neg c42).trans (if_pos c44))] at k
        refine pre43 t ?_
        show Steps p.tables e below (T40.setTop (mkF m 141 #[.val (.int p0), .val (.int p1), .val (.int p2), .val (.ref la1), .val (.ref la5), .val (.int (v0_1 p0 p1 p2 w0_COMPACT_STRINGS)), .val (.int (v0_6 p0 p1 p2 w0_COMPACT_STRINGS)), .val (.int (v0_8 p0 p1 p2 w0_COMPACT_STRINGS)), .val (.int (v0_9 p0 p1 p2 w0_COMPACT_STRINGS)), .val (.int (v0_13 p0 p1 p2 w0_COMPACT_STRINGS))] [(.int (v0_13 p0 p1 p2 w0_COMPACT_STRINGS))])) _
        refine XS.ifYes X40.here hx rfl (pc0 := 141) (pc' := 148) rfl (hb hby at_141) rfl (XT.i0_eq_t c44) (by decide) (by decide) ?_
        show Steps p.tables e below (T40.setTop (mkF m 148 #[.val (.int p0), .val (.int p1), .val (.int p2), .val (.ref la1), .val (.ref la5), .val (.int (v0_1 p0 p1 p2 w0_COMPACT_STRINGS)), .val (.int (v0_6 p0 p1 p2 w0_COMPACT_STRINGS)), .val (.int (v0_8 p0 p1 p2 w0_COMPACT_STRINGS)), .val (.int (v0_9 p0 p1 p2 w0_COMPACT_STRINGS)), .val (.int (v0_13 p0 p1 p2 w0_COMPACT_STRINGS))] [])) _
        refine XT.iconstV X40.here hx rfl (0 : Int32) (hb hby at_148) (by decide) ?_
        exact k
      · skip
        rw [show (v0_14 p0 p1 p2 w0_COMPACT_STRINGS) = (1 : Int32) from ((if_neg c42).trans (if_neg c44))] at k
        refine pre43 t ?_
        show Steps p.tables e below (T40.setTop (mkF m 141 #[.val (.int p0), .val (.int p1), .val (.int p2), .val (.ref la1), .val (.ref la5), .val (.int (v0_1 p0 p1 p2 w0_COMPACT_STRINGS)), .val (.int (v0_6 p0 p1 p2 w0_COMPACT_STRINGS)), .val (.int (v0_8 p0 p1 p2 w0_COMPACT_STRINGS)), .val (.int (v0_9 p0 p1 p2 w0_COMPACT_STRINGS)), .val (.int (v0_13 p0 p1 p2 w0_COMPACT_STRINGS))] [(.int (v0_13 p0 p1 p2 w0_COMPACT_STRINGS))])) _
        refine XS.ifNo X40.here hx rfl (hb hby at_141) rfl (XT.i0_eq_f c44) ?_
        show Steps p.tables e below (T40.setTop (mkF m 144 #[.val (.int p0), .val (.int p1), .val (.int p2), .val (.ref la1), .val (.ref la5), .val (.int (v0_1 p0 p1 p2 w0_COMPACT_STRINGS)), .val (.int (v0_6 p0 p1 p2 w0_COMPACT_STRINGS)), .val (.int (v0_8 p0 p1 p2 w0_COMPACT_STRINGS)), .val (.int (v0_9 p0 p1 p2 w0_COMPACT_STRINGS)), .val (.int (v0_13 p0 p1 p2 w0_COMPACT_STRINGS))] [])) _
        refine XT.iconstV X40.here hx rfl (1 : Int32) (hb hby at_144) (by decide) ?_
        show Steps p.tables e below (T40.setTop (mkF m 145 #[.val (.int p0), .val (.int p1), .val (.int p2), .val (.ref la1), .val (.ref la5), .val (.int (v0_1 p0 p1 p2 w0_COMPACT_STRINGS)), .val (.int (v0_6 p0 p1 p2 w0_COMPACT_STRINGS)), .val (.int (v0_8 p0 p1 p2 w0_COMPACT_STRINGS)), .val (.int (v0_9 p0 p1 p2 w0_COMPACT_STRINGS)), .val (.int (v0_13 p0 p1 p2 w0_COMPACT_STRINGS))] [(.int (1 : Int32))])) _
        refine XS.goto X40.here hx rfl (pc0 := 145) (pc' := 149) rfl (hb hby at_145) (by decide) (by decide) ?_
        exact k
  have hv46 : (v0_14 p0 p1 p2 w0_COMPACT_STRINGS) = (1 : Int32) := own_v0_14 p0 p1 p2 w0_COMPACT_STRINGS
  obtain ⟨fs, hr, hrun, hended, hRW⟩ := Jvm.Stand.leaveW (s := s) (vm₁ := T5.vm) X40 hS5 (by rw [e40]; exact hk5) (v := some (.int (1 : Int32))) (fun h => by rw [Bd.returns] at h; cases h) hlk
  refine ⟨_, _, pre45 _ ?_, hrun, hended, _, _, rfl, ?_, hRW.1, hRW.2.1, hRW.2.2.1, hRW.2.2.2.mono (by decide) (by decide)⟩
  · skip
    show Steps p.tables e below (T40.setTop (mkF m 149 #[.val (.int p0), .val (.int p1), .val (.int p2), .val (.ref la1), .val (.ref la5), .val (.int (v0_1 p0 p1 p2 w0_COMPACT_STRINGS)), .val (.int (v0_6 p0 p1 p2 w0_COMPACT_STRINGS)), .val (.int (v0_8 p0 p1 p2 w0_COMPACT_STRINGS)), .val (.int (v0_9 p0 p1 p2 w0_COMPACT_STRINGS)), .val (.int (v0_13 p0 p1 p2 w0_COMPACT_STRINGS))] [(.int (v0_14 p0 p1 p2 w0_COMPACT_STRINGS))])) _
    rw [hv46]
    exact retN X40 hx (t := .boolean) Bd.returns (by simp) (hb hby at_149) hr
  · skip
    show Q0 Z p0 p1 p2 w0_COMPACT_STRINGS u1_SF h0 n0 _ T40.heap _
    rw [e40]
    exact ⟨rfl, N40⟩
set_option maxRecDepth 65536 in
set_option maxHeartbeats 40000000 in
theorem comes_1 {Post : Tables → Env → Array Value → State → Outcome → State → Prop} (hpost : ∀ tb e args s v u, (limb_1_1.after args s (.returned v) u = true ∧ limb_1_2.after args s (.returned v) u = true ∧ True) → Jvm.D.FramedW s (.returned v) u (Jvm.fieldLocs frame_1_writes args s ++ Jvm.arrayLocs frame_1_arrays args s ++ Jvm.staticLocs frame_1_statics s) 8 2112 → Post tb e args s (.returned v) u) :
    ArmFor flags0 classFile x code maxLocals ret World_1 tables_1 room_1 Calls_1 rest_1 Pre_1 Post := by
  intro l hfl _ _ p e ha hc hk s m args below hf hA hF happ hP
  obtain ⟨hcalls, hrest, hpre⟩ := hP
  obtain ⟨-, -, -, hnamed, -, -, -, hat⟩ := (Spec.applies_iff hf).mp happ
  obtain ⟨hg, hn⟩ := and_e (Cond.before_iff.mp (show (Jvm.Cond.and given_1 narrow_1).before args s = true from hpre))
  obtain ⟨hcount, r0⟩ := and_e hg
  obtain ⟨ha0, r1⟩ := and_e r0
  obtain ⟨ha1, r2⟩ := and_e r1
  obtain ⟨w0, w1, w2, rfl⟩ : ∃ w0 w1 w2 : Value, args = #[w0, w1, w2] := by
    have hs : args.size = 3 := by simpa [Cond.value, given_1] using hcount
    obtain ⟨L⟩ := args
    match L, hs with
    | [w0, w1, w2], _ => exact ⟨w0, w1, w2, rfl⟩
  have hw := fun d (hd : d ∈ tables_1) => atoms_spec (ws := Jvm.Cond.code x code maxLocals ret :: tables_1) hat d (List.mem_cons_of_mem _ hd)
  have hfit : Fit s := fun {y c} hc i hi => by
    obtain ⟨ha, rfl⟩ := Array.getElem?_eq_some_iff.mp hc
    have q := List.all_eq_true.mp ((Array.all_eq_true_iff_forall_mem.mp hF) _ (Array.getElem_mem ha)) i (List.mem_range.mpr hi)
    simpa [Array.getElem?_eq_getElem hi] using q
  obtain ⟨i0, ei0⟩ := is_v ha0
  obtain rfl : w0 = (.int i0) := Option.some.inj ei0
  obtain ⟨i1, ei1⟩ := is_v ha1
  obtain rfl : w1 = (.int i1) := Option.some.inj ei1
  obtain ⟨i2, ei2⟩ := is_v r2
  obtain rfl : w2 = (.int i2) := Option.some.inj ei2
  obtain ⟨hsets, hown0⟩ := atoms_of _ (rest_1_c_eq ▸ (show rest_1_c.before _ s = true from hrest))
  obtain ⟨vcs, ecs⟩ := is_v (Cond.before_iff.mp (hsets _ (List.mem_of_getElem? (i := 1) rfl)))
  have hcs := own_ne_int (hsets _ (List.mem_of_getElem? (i := 2) rfl)) ecs
  have SC := Sta.start ecs (Or.inl (hsets _ (List.mem_of_getElem? (i := 0) rfl)))
  obtain ⟨usf, esf, hsf⟩ := own_isref (Cond.before_iff.mp (hsets _ (List.mem_of_getElem? (i := 8) rfl)))
  have SSF := Sta.start esf (Or.inl (hsets _ (List.mem_of_getElem? (i := 7) rfl)))
  have hcw : Jvm.Lit.compactW.before _ s = true := (hsets _ (List.mem_of_getElem? (i := 2) rfl))
  obtain ⟨n, o, h1, h2, h3, _, L, rfl, ⟨rfl, N⟩, hq⟩ := rm0 l s _ hw tables_1 i0 i1 i2 vcs usf s.heap s.heap.size (Nat.le_refl _) (Old.start s) SC hcs SSF hsf p e ha hc hk s m _ below hf ((Spec.applies_iff_loose hf).mp happ).1 ⟨rfl, State.Warmed39.refl s, rfl, CHv.start (own_ew hw) (fun q hq => hcalls.1 q hq) hcw (own_ws hw _ (by simp [Bundle.stringAtoms])) (own_ws hw _ (by simp [Bundle.stringAtoms, Bundle.sN]))⟩ trivial
  refine ⟨n, _, h1, h2, h3, hpost _ _ _ _ _ _ ⟨Cond.after_iff.mpr rfl, Cond.after_iff.mpr (eq_i res_at (Term.int_eval (1)) rfl), trivial⟩ ⟨hq.1, hq.2.1, hq.2.2.1, (hq.2.2.2.sift fun y hy => Or.inr (N y hy)).mono (by decide) (by decide)⟩⟩
theorem main_1_1 : Claimed_1_1 := comes_1 fun _ _ _ _ _ _ h hF => ⟨h.1, hF⟩
theorem main_1_2 : Claimed_1_2 := comes_1 fun _ _ _ _ _ _ h hF => ⟨h.2.1, hF⟩
end Jvm.Pilot.@@N@@
namespace Jvm.Pilot.@@N@@
open Jvm Jvm.ClassFile Sem Op Lib Jvm.Free Jvm.Stand Jvm.Pilot.@@N@@.Jvm.D
/-! MADE BY PROGRAM (witnessworld.py) out of the Statement's table words and the real class files: 17 classes; the members and pool entries that the words name. The judged class is class 1, her method 1. -/
namespace start1
open Jvm.ClassFile
def u (s : String) : CpInfo := .utf8 (stringToUtf16 s)
/-- a pool by its gaps: so many unusable entries, then the entry; so many at the end -/
def gap : Nat → List CpInfo → List CpInfo
  | 0, r => r
  | n + 1, r => .unusable :: gap n r
def poolList (es : List (Nat × CpInfo)) (last : Nat) : List CpInfo := es.foldr (fun e r => gap e.1 (e.2 :: r)) (gap last [])
def pool (es : List (Nat × CpInfo)) (last : Nat) : Array CpInfo := ⟨poolList es last⟩
def fileOf (pool : Array CpInfo) (this : Nat) (attrs : Array Attribute := #[]) (ms : Array MethodInfo := #[]) (fl : Nat := 33) (sup : Nat := 0) (ifs : Array Nat := #[]) (fds : Array FieldInfo := #[]) : ClassFile where
  minorVersion := 0
  majorVersion := 65
  constantPool := pool
  accessFlags := fl
  thisClass := this
  superClass := sup
  interfaces := ifs
  fields := fds
  methods := ms
  attributes := attrs
def plain (name : String) (sup : Option ClassId) : Class where
  name := name
  kind := .ordinary
  loader := none
  accessFlags := 33
  super := sup
  interfaces := #[]
  cf := none
  fields := #[]
  methods := #[]
  instanceTypes := #[]
  staticTypes := #[]
  resolved := #[]
  callSites := []
  init := .initialized
  statics := none
  mirror := none

def pool0 : Array CpInfo := pool [(5, u "<init>"), (0, u "()V"), (1, .class_ 10), (1, u "java/lang/Object")] 113

def k0m0 : Method := { name := "<init>", desc := "()V", sig := { parameters := [], returnType := none }, accessFlags := 1, code := none }
/-- java/lang/Object -/
def k0 : Class := { plain "java/lang/Object" none with
  accessFlags := 33
  interfaces := #[]
  cf := some (fileOf pool0 8 #[] #[{ accessFlags := 1, nameIndex := 5, descriptorIndex := 6, attributes := #[] }] 33 0 #[] #[])
  fields := #[]
  methods := #[k0m0]
  instanceTypes := #[]
  staticTypes := #[]
  resolved := Array.replicate 124 none
  statics := none }

def pool1 : Array CpInfo := pool [(2, .class_ 4), (1, u "java/lang/Object"), (0, u "<init>"), (0, u "()V"), (0, .string 8), (0, u "0123456789abcdef"), (0, .string 10), (0, u "0123456789ABCDEF"), (0, .methodref 12 13), (0, .class_ 14), (0, .nameAndType 15 16), (0, u "java/lang/String"), (0, u "charAt"), (0, u "(I)C"), (0, .methodref 18 19), (0, .class_ 20), (0, .nameAndType 21 22), (0, u "com/example/ashlar/ashlar/ObjectId"), (0, u "hexValue"), (0, u "(C)I"), (0, .class_ 24), (0, u "com/example/ashlar/ashlar/ObjectIdHexValuePinLaw"), (2, u "law"), (0, u "(III)Z")] 3

def k1m0 : Method := { name := "<init>", desc := "()V", sig := { parameters := [], returnType := none }, accessFlags := 1, code := none }
def k1c1 : Code := { maxStack := 3, maxLocals := 10, code := code, exceptionTable := #[], attributes := #[] }
def k1m1 : Method := { name := "law", desc := "(III)Z", sig := { parameters := [.int, .int, .int], returnType := some .boolean }, accessFlags := 9, code := some k1c1 }
/-- com/example/ashlar/ashlar/ObjectIdHexValuePinLaw -/
def k1 : Class := { plain "com/example/ashlar/ashlar/ObjectIdHexValuePinLaw" (some 0) with
  accessFlags := 49
  interfaces := #[]
  cf := some (fileOf pool1 23 #[] #[{ accessFlags := 1, nameIndex := 5, descriptorIndex := 6, attributes := #[] }, { accessFlags := 9, nameIndex := 27, descriptorIndex := 28, attributes := #[] }] 49 2 #[] #[])
  fields := #[]
  methods := #[k1m0, k1m1]
  instanceTypes := #[]
  staticTypes := #[]
  resolved := Array.replicate 32 none
  statics := none }

def pool2 : Array CpInfo := pool [(1, .class_ 2), (0, u "java/io/Serializable"), (0, .class_ 4), (0, u "java/lang/Object")] 2

/-- java/io/Serializable -/
def k2 : Class := { plain "java/io/Serializable" (some 0) with
  accessFlags := 1537
  interfaces := #[]
  cf := some (fileOf pool2 1 #[] #[] 1537 3 #[] #[])
  fields := #[]
  methods := #[]
  instanceTypes := #[]
  staticTypes := #[]
  resolved := Array.replicate 7 none
  statics := none }

def pool3 : Array CpInfo := pool [(1, .class_ 2), (0, u "java/lang/Comparable"), (0, .class_ 4), (0, u "java/lang/Object")] 7

/-- java/lang/Comparable -/
def k3 : Class := { plain "java/lang/Comparable" (some 0) with
  accessFlags := 1537
  interfaces := #[]
  cf := some (fileOf pool3 1 #[] #[] 1537 3 #[] #[])
  fields := #[]
  methods := #[]
  instanceTypes := #[]
  staticTypes := #[]
  resolved := Array.replicate 12 none
  statics := none }

def pool4 : Array CpInfo := pool [(2, .class_ 4), (1, u "java/lang/CharSequence"), (42, .class_ 48), (0, u "java/lang/CharSequence$1CodePointIterator"), (10, .class_ 60), (0, u "java/lang/CharSequence$1CharIterator"), (5, .class_ 67), (0, u "java/lang/Object")] 63

/-- java/lang/CharSequence -/
def k4 : Class := { plain "java/lang/CharSequence" (some 0) with
  accessFlags := 1537
  interfaces := #[]
  cf := some (fileOf pool4 2 #[.nestMembers #[47, 59]] #[] 1537 66 #[] #[])
  fields := #[]
  methods := #[]
  instanceTypes := #[]
  staticTypes := #[]
  resolved := Array.replicate 131 none
  statics := none }

def pool5 : Array CpInfo := pool [(1, .class_ 2), (0, u "java/lang/constant/Constable"), (0, .class_ 4), (0, u "java/lang/Object")] 6

/-- java/lang/constant/Constable -/
def k5 : Class := { plain "java/lang/constant/Constable" (some 0) with
  accessFlags := 1537
  interfaces := #[]
  cf := some (fileOf pool5 1 #[] #[] 1537 3 #[] #[])
  fields := #[]
  methods := #[]
  instanceTypes := #[]
  staticTypes := #[]
  resolved := Array.replicate 11 none
  statics := none }

def pool6 : Array CpInfo := pool [(1, .class_ 2), (0, u "java/lang/constant/ConstantDesc"), (0, .class_ 4), (0, u "java/lang/Object")] 32

/-- java/lang/constant/ConstantDesc -/
def k6 : Class := { plain "java/lang/constant/ConstantDesc" (some 0) with
  accessFlags := 1537
  interfaces := #[]
  cf := some (fileOf pool6 1 #[] #[] 1537 3 #[] #[])
  fields := #[]
  methods := #[]
  instanceTypes := #[]
  staticTypes := #[]
  resolved := Array.replicate 37 none
  statics := none }

def pool7 : Array CpInfo := pool [(2, .class_ 4), (1, u "java/lang/Object"), (0, u "<init>"), (0, u "()V"), (2, .fieldref 10 11), (0, .class_ 12), (0, .nameAndType 13 14), (0, u "java/lang/String"), (0, u "value"), (0, u "[B"), (0, .fieldref 10 16), (0, .nameAndType 17 18), (0, u "coder"), (0, u "B"), (2, u "hash"), (0, u "I"), (2, u "hashIsZero"), (0, u "Z"), (11, .fieldref 10 39), (0, .nameAndType 40 26), (0, u "COMPACT_STRINGS"), (66, .class_ 109), (1, u "java/lang/StringLatin1"), (32, u "()Z"), (220, u "([BI)C"), (27, u "(II)V"), (35, u "(I)C"), (64, .methodref 10 493), (0, .nameAndType 494 142), (0, u "isLatin1"), (0, .methodref 107 496), (0, .nameAndType 497 363), (0, u "charAt"), (3, u "checkIndex"), (73, .class_ 576), (0, u "java/lang/CharSequence"), (22, u "CASE_INSENSITIVE_ORDER"), (0, u "Ljava/util/Comparator;"), (452, .fieldref 1054 1055), (0, .class_ 1056), (0, .nameAndType 1057 1058), (0, u "jdk/internal/util/Preconditions"), (0, u "SIOOBE_FORMATTER"), (0, u "Ljava/util/function/BiFunction;"), (0, .methodref 1054 1060), (0, .nameAndType 501 1061), (0, u "(IILjava/util/function/BiFunction;)I"), (39, u "serialPersistentFields"), (0, u "[Ljava/io/ObjectStreamField;"), (0, .class_ 1104), (0, u "java/lang/String$CaseInsensitiveComparator"), (1, .class_ 1107), (0, u "java/io/Serializable"), (0, .class_ 1109), (0, u "java/lang/Comparable"), (0, .class_ 1111), (0, u "java/lang/constant/Constable"), (0, .class_ 1113), (0, u "java/lang/constant/ConstantDesc"), (2, u "serialVersionUID"), (0, u "J"), (3, u "REPL"), (0, u "C"), (2, u "LATIN1"), (1, u "UTF16")] 323

def k7m0 : Method := { name := "<init>", desc := "()V", sig := { parameters := [], returnType := none }, accessFlags := 1, code := none }
def k7c1 : Code := { maxStack := 2, maxLocals := 2, code := jdk_42_method_56_code, exceptionTable := #[], attributes := #[] }
def k7m1 : Method := { name := "charAt", desc := "(I)C", sig := { parameters := [.int], returnType := some .char }, accessFlags := 1, code := some k7c1 }
def k7c2 : Code := { maxStack := 1, maxLocals := 1, code := jdk_42_method_154_code, exceptionTable := #[], attributes := #[] }
def k7m2 : Method := { name := "isLatin1", desc := "()Z", sig := { parameters := [], returnType := some .boolean }, accessFlags := 0, code := some k7c2 }
def k7c3 : Code := { maxStack := 3, maxLocals := 2, code := jdk_42_method_155_code, exceptionTable := #[], attributes := #[] }
def k7m3 : Method := { name := "checkIndex", desc := "(II)V", sig := { parameters := [.int, .int], returnType := none }, accessFlags := 8, code := some k7c3 }
/-- java/lang/String -/
def k7 : Class := { plain "java/lang/String" (some 0) with
  accessFlags := 49
  interfaces := #[2, 3, 4, 5, 6]
  cf := some (fileOf pool7 10 #[.nestMembers #[1103]] #[{ accessFlags := 1, nameIndex := 5, descriptorIndex := 6, attributes := #[] }, { accessFlags := 1, nameIndex := 497, descriptorIndex := 427, attributes := #[] }, { accessFlags := 0, nameIndex := 494, descriptorIndex := 142, attributes := #[] }, { accessFlags := 8, nameIndex := 501, descriptorIndex := 391, attributes := #[] }] 49 2 #[1106, 1108, 575, 1110, 1112] #[{ accessFlags := 18, nameIndex := 13, descriptorIndex := 14, attributes := #[] }, { accessFlags := 18, nameIndex := 17, descriptorIndex := 18, attributes := #[] }, { accessFlags := 2, nameIndex := 21, descriptorIndex := 22, attributes := #[] }, { accessFlags := 2, nameIndex := 25, descriptorIndex := 26, attributes := #[] }, { accessFlags := 26, nameIndex := 1116, descriptorIndex := 1117, attributes := #[] }, { accessFlags := 24, nameIndex := 40, descriptorIndex := 26, attributes := #[] }, { accessFlags := 26, nameIndex := 1101, descriptorIndex := 1102, attributes := #[] }, { accessFlags := 26, nameIndex := 1121, descriptorIndex := 1122, attributes := #[] }, { accessFlags := 25, nameIndex := 599, descriptorIndex := 600, attributes := #[] }, { accessFlags := 24, nameIndex := 1125, descriptorIndex := 18, attributes := #[] }, { accessFlags := 24, nameIndex := 1127, descriptorIndex := 18, attributes := #[] }])
  fields := #[{ name := "value", type := (.array .byte), accessFlags := 18, slot := 0, constantValue := 0 }, { name := "coder", type := .byte, accessFlags := 18, slot := 1, constantValue := 0 }, { name := "hash", type := .int, accessFlags := 2, slot := 2, constantValue := 0 }, { name := "hashIsZero", type := .boolean, accessFlags := 2, slot := 3, constantValue := 0 }, { name := "serialVersionUID", type := .long, accessFlags := 26, slot := 0, constantValue := 0 }, { name := "COMPACT_STRINGS", type := .boolean, accessFlags := 24, slot := 1, constantValue := 0 }, { name := "serialPersistentFields", type := (.array (.object "java/io/ObjectStreamField")), accessFlags := 26, slot := 2, constantValue := 0 }, { name := "REPL", type := .char, accessFlags := 26, slot := 3, constantValue := 0 }, { name := "CASE_INSENSITIVE_ORDER", type := (.object "java/util/Comparator"), accessFlags := 25, slot := 4, constantValue := 0 }, { name := "LATIN1", type := .byte, accessFlags := 24, slot := 5, constantValue := 0 }, { name := "UTF16", type := .byte, accessFlags := 24, slot := 6, constantValue := 0 }]
  methods := #[k7m0, k7m1, k7m2, k7m3]
  instanceTypes := #[(.array .byte), .byte, .int, .boolean]
  staticTypes := #[.long, .boolean, (.array (.object "java/io/ObjectStreamField")), .char, (.object "java/util/Comparator"), .byte, .byte]
  resolved := Array.replicate 1451 none
  statics := some 0 }

def pool8 : Array CpInfo := pool [(1, .class_ 2), (0, u "java/lang/String"), (1, .class_ 6), (1, u "java/lang/Object"), (0, u "<init>"), (0, u "()V"), (0, .methodref 1 10), (0, .nameAndType 11 12), (0, u "checkIndex"), (0, u "(II)V"), (1, .class_ 16), (1, u "java/lang/StringLatin1"), (36, u "([BI)C"), (67, u "$assertionsDisabled"), (0, u "Z"), (98, .class_ 223), (1, u "java/lang/StringLatin1$LinesSpliterator"), (28, u "charAt"), (137, .class_ 391), (0, u "java/lang/StringLatin1$CharsSpliterator")] 3

def k8m0 : Method := { name := "<init>", desc := "()V", sig := { parameters := [], returnType := none }, accessFlags := 0, code := none }
def k8c1 : Code := { maxStack := 2, maxLocals := 2, code := jdk_43_method_2_code, exceptionTable := #[], attributes := #[] }
def k8m1 : Method := { name := "charAt", desc := "([BI)C", sig := { parameters := [(.array .byte), .int], returnType := some .char }, accessFlags := 9, code := some k8c1 }
/-- java/lang/StringLatin1 -/
def k8 : Class := { plain "java/lang/StringLatin1" (some 0) with
  accessFlags := 48
  interfaces := #[]
  cf := some (fileOf pool8 14 #[.nestMembers #[390, 221]] #[{ accessFlags := 0, nameIndex := 7, descriptorIndex := 8, attributes := #[] }, { accessFlags := 9, nameIndex := 252, descriptorIndex := 53, attributes := #[] }] 48 4 #[] #[{ accessFlags := 4120, nameIndex := 121, descriptorIndex := 122, attributes := #[] }])
  fields := #[{ name := "$assertionsDisabled", type := .boolean, accessFlags := 4120, slot := 0, constantValue := 0 }]
  methods := #[k8m0, k8m1]
  instanceTypes := #[]
  staticTypes := #[.boolean]
  resolved := Array.replicate 395 none
  statics := none }

def pool9 : Array CpInfo := pool [(2, .class_ 4), (1, u "java/lang/Object"), (0, u "<init>"), (0, u "()V"), (17, .class_ 26), (1, u "jdk/internal/util/Preconditions"), (6, u "checkIndex"), (21, .class_ 56), (0, u "jdk/internal/util/Preconditions$4"), (57, .class_ 115), (0, u "jdk/internal/util/Preconditions$1"), (7, u "SIOOBE_FORMATTER"), (0, u "Ljava/util/function/BiFunction;"), (0, .class_ 126), (0, u "jdk/internal/util/Preconditions$2"), (3, u "AIOOBE_FORMATTER"), (0, .class_ 132), (0, u "jdk/internal/util/Preconditions$3"), (3, u "IOOBE_FORMATTER"), (41, u "(IILjava/util/function/BiFunction;)I")] 15

def k9m0 : Method := { name := "<init>", desc := "()V", sig := { parameters := [], returnType := none }, accessFlags := 1, code := none }
def k9c1 : Code := { maxStack := 3, maxLocals := 3, code := jdk_41_method_11_code, exceptionTable := #[], attributes := #[] }
def k9m1 : Method := { name := "checkIndex", desc := "(IILjava/util/function/BiFunction;)I", sig := { parameters := [.int, .int, (.object "java/util/function/BiFunction")], returnType := some .int }, accessFlags := 9, code := some k9c1 }
/-- jdk/internal/util/Preconditions -/
def k9 : Class := { plain "jdk/internal/util/Preconditions" (some 0) with
  accessFlags := 33
  interfaces := #[]
  cf := some (fileOf pool9 24 #[.nestMembers #[55, 131, 125, 114]] #[{ accessFlags := 1, nameIndex := 5, descriptorIndex := 6, attributes := #[] }, { accessFlags := 9, nameIndex := 33, descriptorIndex := 178, attributes := #[] }] 33 2 #[] #[{ accessFlags := 25, nameIndex := 123, descriptorIndex := 124, attributes := #[] }, { accessFlags := 25, nameIndex := 130, descriptorIndex := 124, attributes := #[] }, { accessFlags := 25, nameIndex := 136, descriptorIndex := 124, attributes := #[] }])
  fields := #[{ name := "SIOOBE_FORMATTER", type := (.object "java/util/function/BiFunction"), accessFlags := 25, slot := 0, constantValue := 0 }, { name := "AIOOBE_FORMATTER", type := (.object "java/util/function/BiFunction"), accessFlags := 25, slot := 1, constantValue := 0 }, { name := "IOOBE_FORMATTER", type := (.object "java/util/function/BiFunction"), accessFlags := 25, slot := 2, constantValue := 0 }]
  methods := #[k9m0, k9m1]
  instanceTypes := #[]
  staticTypes := #[(.object "java/util/function/BiFunction"), (.object "java/util/function/BiFunction"), (.object "java/util/function/BiFunction")]
  resolved := Array.replicate 194 none
  statics := some 1 }

def pool10 : Array CpInfo := pool [(2, .class_ 4), (1, u "java/lang/Object"), (3, .class_ 10), (1, u "com/example/ashlar/ashlar/ObjectId"), (0, u "_raw"), (0, u "[B"), (27, u "hexValue"), (0, u "(C)I"), (50, u "HEX_DIGITS"), (0, u "[C"), (25, .class_ 120), (0, u "java/lang/Comparable"), (0, u "SHA1_LENGTH"), (0, u "I"), (2, u "SHA256_LENGTH")] 56

def k10c0 : Code := { maxStack := 2, maxLocals := 2, code := prog_10_method_14_code, exceptionTable := #[], attributes := #[] }
def k10m0 : Method := { name := "hexValue", desc := "(C)I", sig := { parameters := [.char], returnType := some .int }, accessFlags := 8, code := some k10c0 }
/-- com/example/ashlar/ashlar/ObjectId -/
def k10 : Class := { plain "com/example/ashlar/ashlar/ObjectId" (some 0) with
  accessFlags := 49
  interfaces := #[3]
  cf := some (fileOf pool10 8 #[] #[{ accessFlags := 8, nameIndex := 40, descriptorIndex := 41, attributes := #[] }] 49 2 #[119] #[{ accessFlags := 25, nameIndex := 121, descriptorIndex := 122, attributes := #[] }, { accessFlags := 25, nameIndex := 125, descriptorIndex := 122, attributes := #[] }, { accessFlags := 26, nameIndex := 92, descriptorIndex := 93, attributes := #[] }, { accessFlags := 18, nameIndex := 11, descriptorIndex := 12, attributes := #[] }])
  fields := #[{ name := "SHA1_LENGTH", type := .int, accessFlags := 25, slot := 0, constantValue := 0 }, { name := "SHA256_LENGTH", type := .int, accessFlags := 25, slot := 1, constantValue := 0 }, { name := "HEX_DIGITS", type := (.array .char), accessFlags := 26, slot := 2, constantValue := 0 }, { name := "_raw", type := (.array .byte), accessFlags := 18, slot := 0, constantValue := 0 }]
  methods := #[k10m0]
  instanceTypes := #[(.array .byte)]
  staticTypes := #[.int, .int, (.array .char)]
  resolved := Array.replicate 182 none
  statics := none }

def pool11 : Array CpInfo := pool [(9, u "<init>"), (6, .class_ 18), (1, u "java/lang/Object"), (0, u "()V"), (1, .class_ 23), (1, u "jdk/internal/util/ArraysSupport"), (0, u "LOG2_ARRAY_LONG_INDEX_SCALE"), (0, u "I"), (2, u "U"), (0, u "Ljdk/internal/misc/Unsafe;"), (8, u "BIG_ENDIAN"), (0, u "Z"), (8, u "LOG2_BYTE_BIT_SIZE"), (4, u "LOG2_ARRAY_INT_INDEX_SCALE"), (54, u "JLA"), (0, u "Ljdk/internal/access/JavaLangAccess;"), (11, u "LOG2_ARRAY_BOOLEAN_INDEX_SCALE"), (9, u "LOG2_ARRAY_BYTE_INDEX_SCALE"), (5, u "LOG2_ARRAY_CHAR_INDEX_SCALE"), (5, u "LOG2_ARRAY_SHORT_INDEX_SCALE"), (18, u "LOG2_ARRAY_FLOAT_INDEX_SCALE"), (24, u "LOG2_ARRAY_DOUBLE_INDEX_SCALE"), (89, u "T_BOOLEAN"), (2, u "T_CHAR"), (1, u "T_FLOAT"), (1, u "T_DOUBLE"), (1, u "T_BYTE"), (1, u "T_SHORT"), (1, u "T_INT"), (1, u "T_LONG"), (1, u "SOFT_MAX_ARRAY_LENGTH")] 83

def k11m0 : Method := { name := "<init>", desc := "()V", sig := { parameters := [], returnType := none }, accessFlags := 2, code := none }
/-- jdk/internal/util/ArraysSupport -/
def k11 : Class := { plain "jdk/internal/util/ArraysSupport" (some 0) with
  accessFlags := 33
  interfaces := #[]
  cf := some (fileOf pool11 21 #[] #[{ accessFlags := 2, nameIndex := 9, descriptorIndex := 19, attributes := #[] }] 33 16 #[] #[{ accessFlags := 24, nameIndex := 28, descriptorIndex := 29, attributes := #[] }, { accessFlags := 26, nameIndex := 38, descriptorIndex := 39, attributes := #[] }, { accessFlags := 25, nameIndex := 121, descriptorIndex := 25, attributes := #[] }, { accessFlags := 25, nameIndex := 131, descriptorIndex := 25, attributes := #[] }, { accessFlags := 25, nameIndex := 137, descriptorIndex := 25, attributes := #[] }, { accessFlags := 25, nameIndex := 143, descriptorIndex := 25, attributes := #[] }, { accessFlags := 25, nameIndex := 53, descriptorIndex := 25, attributes := #[] }, { accessFlags := 25, nameIndex := 24, descriptorIndex := 25, attributes := #[] }, { accessFlags := 25, nameIndex := 162, descriptorIndex := 25, attributes := #[] }, { accessFlags := 25, nameIndex := 187, descriptorIndex := 25, attributes := #[] }, { accessFlags := 26, nameIndex := 48, descriptorIndex := 25, attributes := #[] }, { accessFlags := 25, nameIndex := 277, descriptorIndex := 25, attributes := #[] }, { accessFlags := 25, nameIndex := 280, descriptorIndex := 25, attributes := #[] }, { accessFlags := 25, nameIndex := 282, descriptorIndex := 25, attributes := #[] }, { accessFlags := 25, nameIndex := 284, descriptorIndex := 25, attributes := #[] }, { accessFlags := 25, nameIndex := 286, descriptorIndex := 25, attributes := #[] }, { accessFlags := 25, nameIndex := 288, descriptorIndex := 25, attributes := #[] }, { accessFlags := 25, nameIndex := 290, descriptorIndex := 25, attributes := #[] }, { accessFlags := 25, nameIndex := 292, descriptorIndex := 25, attributes := #[] }, { accessFlags := 26, nameIndex := 108, descriptorIndex := 109, attributes := #[] }, { accessFlags := 25, nameIndex := 294, descriptorIndex := 25, attributes := #[] }])
  fields := #[{ name := "U", type := (.object "jdk/internal/misc/Unsafe"), accessFlags := 24, slot := 0, constantValue := 0 }, { name := "BIG_ENDIAN", type := .boolean, accessFlags := 26, slot := 1, constantValue := 0 }, { name := "LOG2_ARRAY_BOOLEAN_INDEX_SCALE", type := .int, accessFlags := 25, slot := 2, constantValue := 0 }, { name := "LOG2_ARRAY_BYTE_INDEX_SCALE", type := .int, accessFlags := 25, slot := 3, constantValue := 0 }, { name := "LOG2_ARRAY_CHAR_INDEX_SCALE", type := .int, accessFlags := 25, slot := 4, constantValue := 0 }, { name := "LOG2_ARRAY_SHORT_INDEX_SCALE", type := .int, accessFlags := 25, slot := 5, constantValue := 0 }, { name := "LOG2_ARRAY_INT_INDEX_SCALE", type := .int, accessFlags := 25, slot := 6, constantValue := 0 }, { name := "LOG2_ARRAY_LONG_INDEX_SCALE", type := .int, accessFlags := 25, slot := 7, constantValue := 0 }, { name := "LOG2_ARRAY_FLOAT_INDEX_SCALE", type := .int, accessFlags := 25, slot := 8, constantValue := 0 }, { name := "LOG2_ARRAY_DOUBLE_INDEX_SCALE", type := .int, accessFlags := 25, slot := 9, constantValue := 0 }, { name := "LOG2_BYTE_BIT_SIZE", type := .int, accessFlags := 26, slot := 10, constantValue := 0 }, { name := "T_BOOLEAN", type := .int, accessFlags := 25, slot := 11, constantValue := 0 }, { name := "T_CHAR", type := .int, accessFlags := 25, slot := 12, constantValue := 0 }, { name := "T_FLOAT", type := .int, accessFlags := 25, slot := 13, constantValue := 0 }, { name := "T_DOUBLE", type := .int, accessFlags := 25, slot := 14, constantValue := 0 }, { name := "T_BYTE", type := .int, accessFlags := 25, slot := 15, constantValue := 0 }, { name := "T_SHORT", type := .int, accessFlags := 25, slot := 16, constantValue := 0 }, { name := "T_INT", type := .int, accessFlags := 25, slot := 17, constantValue := 0 }, { name := "T_LONG", type := .int, accessFlags := 25, slot := 18, constantValue := 0 }, { name := "JLA", type := (.object "jdk/internal/access/JavaLangAccess"), accessFlags := 26, slot := 19, constantValue := 0 }, { name := "SOFT_MAX_ARRAY_LENGTH", type := .int, accessFlags := 25, slot := 20, constantValue := 0 }]
  methods := #[k11m0]
  instanceTypes := #[]
  staticTypes := #[(.object "jdk/internal/misc/Unsafe"), .boolean, .int, .int, .int, .int, .int, .int, .int, .int, .int, .int, .int, .int, .int, .int, .int, .int, .int, (.object "jdk/internal/access/JavaLangAccess"), .int]
  resolved := Array.replicate 378 none
  statics := none }

def pool12 : Array CpInfo := pool [(1, u "java/lang/Cloneable"), (0, .class_ 1), (0, u "java/lang/Object"), (0, .class_ 3)] 3

/-- java/lang/Cloneable -/
def k12 : Class := { plain "java/lang/Cloneable" (some 0) with
  accessFlags := 1537
  interfaces := #[]
  cf := some (fileOf pool12 2 #[] #[] 1537 4 #[] #[])
  fields := #[]
  methods := #[]
  instanceTypes := #[]
  staticTypes := #[]
  resolved := Array.replicate 8 none
  statics := none }

/-- the primitive byte -/
def k13 : Class := { plain "byte" none with kind := .primitive 'B', accessFlags := 0x411 }
/-- [B -/
def k14 : Class := { plain "[B" (some 0) with kind := .array 13 .byte, interfaces := #[12, 2], accessFlags := 1041 }

/-- the primitive int -/
def k15 : Class := { plain "int" none with kind := .primitive 'I', accessFlags := 0x411 }
/-- [I -/
def k16 : Class := { plain "[I" (some 0) with kind := .array 15 .int, interfaces := #[12, 2], accessFlags := 1041 }

def heap : Heap := #[{ cls := 7, slots := #[.long 0, .int 1, .null, .int 0, .null, .int 0, .int 0], vm := .statics 7 },
  { cls := 9, slots := #[.null, .null, .null], vm := .statics 9 }]
def classes : Array Class := #[k0, k1, k2, k3, k4, k5, k6, k7, k8, k9, k10, k11, k12, k13, k14, k15, k16]
def interned : List (Array UInt16 × Addr) := []
def slotsUsed : Nat := 10
def theMethod : MethodId := ⟨1, 1⟩
def args0 : Array Value := #[.int 5, .int 7, .int 1]
def aboutOver (below : List Frame) : State where
  vm := { classes := classes, interned := interned.toArray }
  heap := heap
  slotsUsed := slotsUsed
  threads := #[{ frames := .invoking theMethod args0 :: below }]
def below0 : List Frame := [.native { method := ⟨0, 0⟩, args := #[] }]
def about1 : State := aboutOver below0
def p0 : Program := .bare "" "" ""
def e0 : Env := launch0.env 0 0 0
theorem w_frames : about1.frames = Frame.invoking theMethod args0 :: below0 := rfl
set_option maxRecDepth 65536 in
theorem w_args : argsFit about1.vm theMethod args0 = true := by decide +kernel
set_option maxRecDepth 65536 in
theorem w_heap : heapFits about1 = true := by decide +kernel
set_option maxRecDepth 65536 in
theorem w_runnable : about1.curStatus? = some .runnable := by decide +kernel
set_option maxRecDepth 65536 in
theorem w_alone : about1.alone = true := by decide +kernel
set_option maxRecDepth 65536 in
theorem w_named : about1.methodNamed? x = some theMethod := by decide +kernel
set_option maxRecDepth 65536 in
theorem w_hears : about1.hears theMethod below0 = true := by decide +kernel
set_option maxRecDepth 65536 in
theorem w_ripe : about1.ripe theMethod args0 below0 = true := by decide +kernel
theorem w_running : about1.status = .running := rfl
set_option maxRecDepth 65536 in
theorem w_room : about1.hasRoom e0.platform room_1 = true :=
  launch0.hasRoom_least _ room_1 (by decide +kernel) (by decide +kernel) (by decide +kernel) (by decide +kernel) (by decide +kernel) (by decide +kernel)
theorem allAtoms_all (ts : List Jvm.Cond) (a : Array Jvm.Value) (st : Jvm.State) : (allAtoms ts).before a st = ts.all (fun c => c.before a st) := by
  induction ts with
  | nil => rfl
  | cons c t ih =>
    show (Jvm.Cond.and c (allAtoms t)).before a st = _
    rw [Jvm.Cond.before_and, ih, List.all_cons]
def words1 : List Jvm.Cond := Jvm.Cond.code x code maxLocals ret :: tables_1
/-- a 'code' word, met by the world's own term for the bytes: nothing is compared byte by byte -/
theorem code_word {y : MethodName} {bytes : ByteArray} {mx : Nat} {rt : Option FieldType} {a : Array Value} {s : State} {m : MethodId} {meth : Method} {c : Code} (h1 : s.methodNamed? y = some m) (h2 : s.vm.method? m = some meth) (h3 : meth.code = some c) (h4 : c.code = bytes)
    (h5 : (c.maxLocals == mx && c.exceptionTable.isEmpty && decide (c.maxStack ≤ mostOperands) && decide (meth.sig.returnType = rt) && !meth.locks && decide (parseMethodDescriptor y.desc = some meth.sig)) = true) : (Jvm.Cond.code y bytes mx rt).before a s = true := by
  simp only [Bool.and_eq_true, beq_iff_eq, Bool.not_eq_true', decide_eq_true_eq] at h5
  obtain ⟨⟨⟨⟨⟨g1, g2⟩, g3⟩, g4⟩, g5⟩, g6⟩ := h5
  simp [Cond.before, Cond.holds, Cond.value, h1, h2, h3, h4, g1, g2, g3, g4, g5, g6]
def isCode : Jvm.Cond → Bool
  | .code _ _ _ _ => true
  | _ => false
theorem all_split {L : List Jvm.Cond} {P : Jvm.Cond → Bool} (h1 : L.all (fun c => isCode c || P c) = true) (h2 : ∀ c ∈ L.filter isCode, P c = true) : L.all P = true := by
  refine List.all_eq_true.mpr fun c hc => ?_
  have h := List.all_eq_true.mp h1 c hc
  rcases Bool.eq_false_or_eq_true (isCode c) with hi | hi
  · exact h2 c (List.mem_filter.mpr ⟨hc, hi⟩)
  · simpa [hi] using h
set_option maxRecDepth 65536 in
theorem w_c0 : (Jvm.Cond.code x code maxLocals ret).before args0 about1 = true := code_word (m := ⟨1, 1⟩) (meth := k1m1) (c := k1c1) (by decide +kernel) rfl rfl rfl (by decide +kernel)
set_option maxRecDepth 65536 in
theorem w_c1 : (Jvm.Cond.code ({ cls := "java/lang/String", name := "charAt", desc := "(I)C" } : Jvm.MethodName) jdk_42_method_56_code (2 : Nat) (Option.some Jvm.ClassFile.FieldType.char)).before args0 about1 = true := code_word (m := ⟨7, 1⟩) (meth := k7m1) (c := k7c1) (by decide +kernel) rfl rfl rfl (by decide +kernel)
set_option maxRecDepth 65536 in
theorem w_c2 : (Jvm.Cond.code ({ cls := "java/lang/String", name := "isLatin1", desc := "()Z" } : Jvm.MethodName) jdk_42_method_154_code (1 : Nat) (Option.some Jvm.ClassFile.FieldType.boolean)).before args0 about1 = true := code_word (m := ⟨7, 2⟩) (meth := k7m2) (c := k7c2) (by decide +kernel) rfl rfl rfl (by decide +kernel)
set_option maxRecDepth 65536 in
theorem w_c3 : (Jvm.Cond.code ({ cls := "java/lang/StringLatin1", name := "charAt", desc := "([BI)C" } : Jvm.MethodName) jdk_43_method_2_code (2 : Nat) (Option.some Jvm.ClassFile.FieldType.char)).before args0 about1 = true := code_word (m := ⟨8, 1⟩) (meth := k8m1) (c := k8c1) (by decide +kernel) rfl rfl rfl (by decide +kernel)
set_option maxRecDepth 65536 in
theorem w_c4 : (Jvm.Cond.code ({ cls := "java/lang/String", name := "checkIndex", desc := "(II)V" } : Jvm.MethodName) jdk_42_method_155_code (2 : Nat) (Option.none : Option Jvm.ClassFile.FieldType)).before args0 about1 = true := code_word (m := ⟨7, 3⟩) (meth := k7m3) (c := k7c3) (by decide +kernel) rfl rfl rfl (by decide +kernel)
set_option maxRecDepth 65536 in
theorem w_c5 : (Jvm.Cond.code ({ cls := "jdk/internal/util/Preconditions", name := "checkIndex", desc := "(IILjava/util/function/BiFunction;)I" } : Jvm.MethodName) jdk_41_method_11_code (3 : Nat) (Option.some Jvm.ClassFile.FieldType.int)).before args0 about1 = true := code_word (m := ⟨9, 1⟩) (meth := k9m1) (c := k9c1) (by decide +kernel) rfl rfl rfl (by decide +kernel)
set_option maxRecDepth 65536 in
theorem w_c6 : (Jvm.Cond.code ({ cls := "com/example/ashlar/ashlar/ObjectId", name := "hexValue", desc := "(C)I" } : Jvm.MethodName) prog_10_method_14_code (2 : Nat) (Option.some Jvm.ClassFile.FieldType.int)).before args0 about1 = true := code_word (m := ⟨10, 0⟩) (meth := k10m0) (c := k10c0) (by decide +kernel) rfl rfl rfl (by decide +kernel)
def codes1 : List Jvm.Cond := [Jvm.Cond.code x code maxLocals ret, Jvm.Cond.code ({ cls := "java/lang/String", name := "charAt", desc := "(I)C" } : Jvm.MethodName) jdk_42_method_56_code (2 : Nat) (Option.some Jvm.ClassFile.FieldType.char), Jvm.Cond.code ({ cls := "java/lang/String", name := "isLatin1", desc := "()Z" } : Jvm.MethodName) jdk_42_method_154_code (1 : Nat) (Option.some Jvm.ClassFile.FieldType.boolean), Jvm.Cond.code ({ cls := "java/lang/StringLatin1", name := "charAt", desc := "([BI)C" } : Jvm.MethodName) jdk_43_method_2_code (2 : Nat) (Option.some Jvm.ClassFile.FieldType.char), Jvm.Cond.code ({ cls := "java/lang/String", name := "checkIndex", desc := "(II)V" } : Jvm.MethodName) jdk_42_method_155_code (2 : Nat) (Option.none : Option Jvm.ClassFile.FieldType), Jvm.Cond.code ({ cls := "jdk/internal/util/Preconditions", name := "checkIndex", desc := "(IILjava/util/function/BiFunction;)I" } : Jvm.MethodName) jdk_41_method_11_code (3 : Nat) (Option.some Jvm.ClassFile.FieldType.int), Jvm.Cond.code ({ cls := "com/example/ashlar/ashlar/ObjectId", name := "hexValue", desc := "(C)I" } : Jvm.MethodName) prog_10_method_14_code (2 : Nat) (Option.some Jvm.ClassFile.FieldType.int)]
set_option maxRecDepth 65536 in
theorem codes_eq : words1.filter isCode = codes1 := rfl
theorem w_codes : ∀ c ∈ words1.filter isCode, c.before args0 about1 = true := by
  rw [codes_eq]
  intro c hc
  simp only [codes1, List.mem_cons, List.not_mem_nil, or_false] at hc
  rcases hc with rfl | rfl | rfl | rfl | rfl | rfl | rfl
  · exact w_c0
  · exact w_c1
  · exact w_c2
  · exact w_c3
  · exact w_c4
  · exact w_c5
  · exact w_c6
set_option maxRecDepth 65536 in
theorem w_t1 : (words1.take 24).all (fun c => isCode c || c.before args0 about1) = true := by decide +kernel
set_option maxRecDepth 65536 in
theorem w_t2 : (words1.drop 24).all (fun c => isCode c || c.before args0 about1) = true := by decide +kernel
theorem w_tables : (allAtoms (Jvm.Cond.code x code maxLocals ret :: tables_1)).before args0 about1 = true := by
  rw [allAtoms_all]
  show words1.all (fun c => c.before args0 about1) = true
  refine all_split ?_ w_codes
  rw [← List.take_append_drop 24 words1, List.all_append, w_t1, w_t2]
  rfl
set_option maxRecDepth 65536 in
theorem w_rest : rest_1_c.before args0 about1 = true := by decide +kernel
set_option maxRecDepth 65536 in
theorem w_case : (Jvm.Cond.and given_1 narrow_1).before args0 about1 = true := by decide +kernel
set_option maxRecDepth 65536 in
theorem w_consts : constsHeld consts_1 about1 := Jvm.Lit.constsHeldB_iff.mp (by decide +kernel)
theorem w_applies : (headSpec (Jvm.Cond.code x code maxLocals ret :: tables_1) room_1).applies x e0.platform about1 = true :=
  (Spec.applies_iff w_frames).mpr ⟨w_running, w_runnable, w_alone, w_named, w_hears, w_ripe, w_room, w_tables⟩
theorem atStart : AtStart classFile x code maxLocals ret World_1 tables_1 room_1 Calls_1 rest_1 Pre_1 launch0 p0 e0 about1 theMethod args0 below0 :=
  ⟨lists_1, trivial, launch0.admits_env _ _ _, launch0.least_env, fairChoices_fair.cas, fairChoices_fair.clock, w_frames, w_args, w_heap, w_applies, ⟨w_consts, trivial⟩, w_rest, w_case⟩
end start1
theorem witness_1 : WitnessClaimed_1 := ⟨start1.p0, start1.e0, start1.about1, start1.theMethod, start1.args0, start1.below0, start1.atStart⟩
end Jvm.Pilot.@@N@@
