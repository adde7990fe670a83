import JvmDerived
import JvmDerived.Pilot.@@N@@Statement
import JvmDerived.Pilot.@@N@@Code
set_option linter.unusedVariables false
set_option linter.unusedSimpArgs false
@@BLOCK:NumsL.lean.txt@@
namespace Jvm.RoadKit
open Sem ClassFile Op Lib Jvm.Stand Jvm.Free Jvm.LawKit
section New
variable {p : Program} {l : Launch} {e : Env} {R : Room} {s : State} {m : MethodId} {args : Array Value} {below : List Frame} {meth : Method} {c : Code} {T : State} {locs : List Loc} {cells slots : Nat}
theorem retI (X : Stand p l e R s m args below meth c T locs cells slots) (hx : p.tables.exec = Jvm.exec) {pc : Nat} {Ls : Array Slot} {z : Int32} {rest : List Value} (hret : meth.sig.returnType = some .int) (hd : decode c.code pc = .ok (.ireturn, 1)) {fs : List Frame}
    (hl : ∀ (f : JFrame) (acts : List Action), f.method = m → f.locked = none → f.entered = [] → (doReturn e (T.setTop f) acts (some (.int z))).1 = T.setFrames fs) : Steps p.tables e below (T.setTop (mkF m pc Ls (.int z :: rest))) (T.setFrames fs) := by
  have hm' : T.vm.method? m = some meth := X.method'
  have hn : narrow .int (.int z) = .int z := rfl
  show Steps p.tables e below (T.setTop { method := m, pc := pc, locals := Ls, stack := _ :: rest, locked := none }) _
  jvm_step X.here [X.here.top, hx, hd, hm', hret, hn]
  first | (intro acts; rw [hl _ acts rfl rfl rfl]) | rw [hl _ _ rfl rfl rfl]
  exact Steps.refl _
theorem own_retD (X : Stand p l e R s m args below meth c T locs cells slots) (hx : p.tables.exec = Jvm.exec) {pc : Nat} {Ls : Array Slot} {z : UInt64} {rest : List Value} (hret : meth.sig.returnType = some .double) (hd : decode c.code pc = .ok (.dreturn, 1)) {fs : List Frame}
    (hl : ∀ (f : JFrame) (acts : List Action), f.method = m → f.locked = none → f.entered = [] → (doReturn e (T.setTop f) acts (some (.double z))).1 = T.setFrames fs) : Steps p.tables e below (T.setTop (mkF m pc Ls (.double z :: rest))) (T.setFrames fs) := by
  have hm' : T.vm.method? m = some meth := X.method'
  have hn : narrow .double (.double z) = .double z := rfl
  show Steps p.tables e below (T.setTop { method := m, pc := pc, locals := Ls, stack := _ :: rest, locked := none }) _
  jvm_step X.here [X.here.top, hx, hd, hm', hret, hn]
  first | (intro acts; rw [hl _ acts rfl rfl rfl]) | rw [hl _ _ rfl rfl rfl]
  exact Steps.refl _
theorem own_stand {L1 L2 : List Loc} {c1 c2 n1 n2 : Nat} (X : Stand p l e R s m args below meth c T L1 c1 n1) (h1 : L1 = L2) (h2 : c1 = c2) (h3 : n1 = n2) : Stand p l e R s m args below meth c T L2 c2 n2 := by
  subst h1 h2 h3
  exact X
theorem own_ldc2D {g : JFrame} {target : State} (X : Stand p l e R s m args below meth c T locs cells slots) (hx : p.tables.exec = Jvm.exec) {own : String} {index : Nat} {b : UInt64} (hown : s.vm.findClass own = some m.cls) (hc : (Cond.constantDouble own index b).before args s = true) (hg : g.method = m) (hd : decode c.code g.pc = .ok (.ldc2_w index, 3))
    (hr : Steps p.tables e below (T.setTop { g with pc := g.pc + 3, stack := .double b :: g.stack }) target) : Steps p.tables e below (T.setTop g) target := X.ldc2DoubleC hx hown hc hg hd target hr
end New
end Jvm.RoadKit
namespace Jvm.Pilot.@@N@@
open Jvm Jvm.ClassFile Sem Op Lib Jvm.Free Jvm.Stand Jvm.LawKit Jvm.RoadKit Bundle Jvm.Pilot.@@N@@.Jvm.D
theorem wd {a0 : Array Value} {Z : State} (hw : ∀ d ∈ tables_1, d.before a0 Z = true) (i : Nat) {d : Jvm.Cond} (h : tables_1[i]? = some d) : d.before a0 Z = true := hw _ (List.mem_of_getElem? h)
theorem own_rem32 (x y : Int32) : (x - (x / y) * y).toInt = x.toInt.tmod y.toInt := by
  rw [Int32.toInt_sub, Int32.toInt_mul, Int32.toInt_div]
  simp only [Int.bmod_mul_bmod, Int.sub_bmod_bmod]
  rw [Int.tmod_def, Int.mul_comm y.toInt]
  have h := Int32.toInt_mod x y
  have h1 := (x % y).toInt_lt
  have h2 := (x % y).le_toInt
  rw [h, Int.tmod_def, Int.mul_comm y.toInt] at h1 h2
  exact Int.bmod_eq_of_le (by omega) (by omega)
theorem own_raw {p : Program} {l : Launch} {e : Env} {R : Room} {s : State} {m : MethodId} {args : Array Value} {below : List Frame} {meth : Method} {c : Code} {T : State} {locs : List Loc} {cells slots : Nat} (X : Stand p l e R s m args below meth c T locs cells slots) (hx : p.tables.exec = Jvm.exec) {own : String} {index : Nat} (hown : s.vm.findClass own = some m.cls)
    (hlink : (Cond.methodLink own index ⟨"java/lang/Double", "doubleToRawLongBits", "(D)J"⟩).before args s = true) (hnat : (Cond.native ⟨"java/lang/Double", "doubleToRawLongBits", "(D)J"⟩).before args s = true) (hstat : (Cond.static ⟨"java/lang/Double", "doubleToRawLongBits", "(D)J"⟩).before args s = true) (hinit : (Cond.initialized "java/lang/Double").before args s = true)
    {g : JFrame} (hg : g.method = m) (hsize : g.locals.size = c.maxLocals) {rest : List Value} {b : UInt64} (hstack : g.stack = .double b :: rest) (hdg : decode c.code g.pc = .ok (.invokestatic index, 3))
    (hf : 1 ≤ R.frames) (hl : 2 * g.monitorRoom + (rest.map fun v => v.category).sum + 15 ≤ R.locals) :
    ∃ T', Stand p l e R s m args below meth c T' locs cells slots ∧ T'.heap = T.heap ∧ ∀ target, Steps p.tables e below (T'.setTop { g with pc := g.pc + 3, stack := .long b.toInt64 :: rest }) target → Steps p.tables e below (T.setTop g) target := by
  obtain ⟨vm', X', st⟩ := X.doubleToRawLongBits hx hown hlink hnat hstat hinit hg hsize hstack hdg hf (by rw [Jvm.Free.nativeFrameWords_plain 2 (by decide)]; omega)
  exact ⟨_, X', rfl, st⟩
theorem own_absBack {l : Launch} {R : Room} {p : Program} {e : Env} {below : List Frame} {s : State} {sargs : Array Value} {W : Nat} {bytes : ByteArray} {maxL : Nat} (hcode : (Cond.code ⟨"java/lang/Math", "abs", "(D)D"⟩ bytes maxL (some .double)).before sargs s = true) (hstat : (Cond.static ⟨"java/lang/Math", "abs", "(D)D"⟩).before sargs s = true) (hf : 1 ≤ R.frames) (hl : W + (maxL + 11) ≤ R.locals) (x : UInt64) (hx : Jvm.Free.Fl.NoNaN64 x) (h : Heap) (n0 : Nat) :
    Back l R p e below s sargs ⟨"java/lang/Math", "abs", "(D)D"⟩ 3 W (fun A a => a = #[.double x] ∧ A.U.heap = h ∧ A.cells + 0 ≤ R.cells ∧ A.slots + 0 ≤ R.slots)
      (fun A _ v B => ∃ L, (Fr n0 L ∧ v = some (.double (x &&& 0x7fffffffffffffff)) ∧ B.U.heap = h) ∧ B.locs = A.locs ++ L ∧ B.cells = A.cells + 0 ∧ B.slots = A.slots + 0) := by
  intro m meth c A g ig mk a X hg hs hd hW hn hp
  obtain ⟨v, B, XB, ⟨rfl, hv⟩, hst⟩ := Jvm.Free.NT.Abs64.pays hcode hstat hf hl m meth c A g ig mk a X hg hs hd hW hn ⟨x, hp.1, hx⟩
  exact ⟨v, _, XB, ⟨[], ⟨Fr.nil n0, hv x ⟨hp.1, hx⟩, hp.2.1⟩, by simp, rfl, rfl⟩, hst⟩
/-own-/
theorem own_ibI {p : Int32} (h1 : ¬ (p < (-128 : Int32))) (h2 : ¬ ((127 : Int32) < p)) : ¬ ((p + (128 : Int32)) < 0) ∧ (p + (128 : Int32)) < (256 : Int32) := by
  have c1 : (-128 : Int32).toInt = -128 := by decide
  have c2 : (127 : Int32).toInt = 127 := by decide
  have c3 : (128 : Int32).toInt = 128 := by decide
  have c4 : (256 : Int32).toInt = 256 := by decide
  have c5 : (0 : Int32).toInt = 0 := by decide
  rw [Int32.lt_iff_toInt_lt] at h1 h2
  rw [c1] at h1
  rw [c2] at h2
  have s : (p + (128 : Int32)).toInt = p.toInt + 128 := by rw [Jvm.Kit.i32_add (by rw [c3]; omega) (by rw [c3]; omega), c3]
  rw [Int32.lt_iff_toInt_lt, Int32.lt_iff_toInt_lt, s, c4, c5]
  omega

theorem own_nosub2 {Z : State} {a0 : Array Value} {C M O K : String} {n : Nat} (wO : (Cond.noSuperclass O).before a0 Z = true) (wM : (Cond.superclass M O).before a0 Z = true) (wC : (Cond.superclass C M).before a0 Z = true) (wi : (Cond.instantiable K n).before a0 Z = true) (h1 : O ≠ K) (h2 : M ≠ K) (h3 : C ≠ K) : ∃ c t, Z.vm.findClass C = some c ∧ Z.vm.findClass K = some t ∧ Z.vm.assignable c t = false := by
  obtain ⟨t, kt, g1, g2, g3, g4, -, -⟩ := Cond.instantiable_spec wi
  obtain ⟨o, ko, o1, o2, o3, -, -⟩ := Cond.noSuperclass_spec wO
  have ne := ids_ne o1 g1 h1
  have n1 : NS Z O K := ⟨o, t, o1, g1, fun fuel => by
    cases fuel with
    | zero => rfl
    | succ f => simp [Vm.isSubclassAux, ne, o2, o3]⟩
  obtain ⟨c, t', q0, q1, n3⟩ := NS.step wC (NS.step wM n1 h2) h3
  cases g1.symm.trans q1
  obtain ⟨p, k, kp, a1, a2, a3, a4, a5, -, a7⟩ := Cond.superclass_spec q0 wC
  have ne2 := ids_ne q0 g1 h3
  have gi : kt.isInterface = false := by
    cases hq : kt.isInterface with
    | false => rfl
    | true => rw [hq] at g4; simp at g4
  refine ⟨c, t, q0, g1, ?_⟩
  show Z.vm.assignableAux (255 + 1) c t = false
  simp [Vm.assignableAux, ne2, a2, g2, a5, g3, gi, Vm.isSubclass, n3]
theorem own_eq_ref {a b : Term} {args : Array Value} {s : State} {r : Addr} (h : (Cond.eq a b).value args s none s [] = some true) (hb : b.eval args s none [] s = some (.ref r)) : a.eval args s none [] s = some (.ref r) := by
  obtain ⟨x, y, h1, h2, k1, k2⟩ := cmp_v (Or.inl h)
  rw [hb] at h2
  obtain rfl := Option.some.inj h2
  have hx : x.isRef = true := by
    rcases (show (Value.ref r).isRef = true ∧ x.isRef = true from k2) with ⟨-, q⟩; exact q
  have q := eq_R h1 hb hx rfl
  rw [h] at q
  have : x = .ref r := by simpa using (Option.some.inj q).symm
  rw [h1, this]
theorem own_slot {t j : Term} {args : Array Value} {s : State} {x : Addr} {cl : Cell} {v : Value} {k : Int32} (h : (Term.elem t j).eval args s none [] s = some v) (ht : t.eval args s none [] s = some (.ref x)) (hj : j.eval args s none [] s = some (.int k)) (hc : s.heap[x]? = some cl) : cl.slots[k.toNatClampNeg]? = some v := (elem_in h ht hj hc).2
theorem own_len {t : Term} {args : Array Value} {s : State} {x : Addr} {cl : Cell} {k : Int32} (h : (Term.length t).eval args s none [] s = some (.int k)) (ht : t.eval args s none [] s = some (.ref x)) (hc : s.heap[x]? = some cl) : cl.slots.size.toInt32 = k ∧ cl.slots.size < 2 ^ 31 := by
  obtain ⟨a, c, e1, e2, e3⟩ := Term.length_spec h
  rw [ht] at e1
  obtain rfl := Value.ref.inj (Option.some.inj e1)
  have e4 := (State.arrayAt?_spec e2).1
  rw [hc] at e4
  obtain rfl := Option.some.inj e4
  refine ⟨(Value.int.inj e3).symm, ?_⟩
  by_cases q : cl.slots.size < 2 ^ 31
  · exact q
  · exfalso
    simp [Term.eval, ht, e2, q] at h
theorem own_sub {Z : State} {args : Array Value} {t : Term} {idx : List Nat} {y : Int32} (h : t.eval args Z none idx Z = some (.int y)) : (Term.sub t (.int 128)).eval args Z none idx Z = some (.int (y - 128)) := by simp [Term.eval, h]
theorem d12_0 : decode jdk_18_method_1_code 0 = .ok (.aload_n 0, 1) := by decide +kernel
theorem d12_1 : decode jdk_18_method_1_code 1 = .ok (.invokespecial 1, 3) := by decide +kernel
theorem d12_4 : decode jdk_18_method_1_code 4 = .ok (.return_, 1) := by decide +kernel
theorem pn_java_lang_Number : plainName "java/lang/Number" = true := by first | (simp [plainName, overriddenIn]; done) | decide +kernel
theorem ef_12 (m : MethodId) (o0 : Addr) : entryFrame m #[(.ref o0)] 1 = mkF m 0 #[.val (.ref o0)] [] := by first | (simp [entryFrame, mkF, argsToLocals, Value.category]; done) | rfl
def Q12 (Z : State) (o0 : Addr) (h0 : Heap) (n0 : Nat) (v : Option Value) (h : Heap) (L : List Loc) : Prop := Fr n0 L ∧ v = none ∧ h = h0
set_option maxRecDepth 65536 in
set_option maxHeartbeats 40000000 in
theorem rm12 (l : Launch) (Z : State) (a0 : Array Value) (hw : ∀ d ∈ tables_1, d.before a0 Z = true) (ws : List Jvm.Cond) (o0 : Addr) (h0 : Heap) (n0 : Nat) (Z0 : n0 ≤ h0.size) :
    MetFree l (⟨"java/lang/Number", "<init>", "()V"⟩ : MethodName) (head1 (Jvm.Cond.code (⟨"java/lang/Number", "<init>", "()V"⟩ : MethodName) jdk_18_method_1_code 1 none :: ws) ({ frames := 1, cells := 0, slots := 0, locals := 12 } : Room)) (fun a U => a = #[(.ref o0)] ∧ Z.Warmed39 U.vm ∧ U.heap = h0) (fun _ _ _ _ _ => True) (fun _ U o U' => ∃ v L, o = .returned v ∧ Q12 Z o0 h0 n0 v U'.heap L ∧ FrameEnd U o U' L ({ frames := 1, cells := 0, slots := 0, locals := 12 } : Room).cells ({ frames := 1, cells := 0, slots := 0, locals := 12 } : Room).slots) := by
  refine MetFree.of_bodySF (plainFor_of_name pn_java_lang_Number) hisR ?_
  intro p e s m args below meth c s₁ Bd hml0 hP hK
  obtain ⟨rfl, hZ, hh⟩ := hP
  have hx := Bd.exec
  have hby := Bd.bytes
  have hml : c.maxLocals = 1 := hml0
  have hown : s.vm.findClass "java/lang/Number" = some m.cls := findClass_of_methodNamed Bd.named
  have hnm := (name_of_methodNamed Bd.named Bd.method).1
  have hlk := BodyLoose.notSynchronized Bd
  have X0 : Stand p l e ({ frames := 1, cells := 0, slots := 0, locals := 12 } : Room) s m #[(.ref o0)] below meth c s₁ [] 0 0 := Stand.of_body Bd
  have e0 : s₁.heap = h0 := by rw [← hh, Bd.state]; rfl
  have N0 := Fr.nil n0
  have pre0 : ∀ t, Steps p.tables e below (s₁.setTop (mkF m 0 #[.val (.ref o0)] [])) t → Steps p.tables e below (s₁.setTop (entryFrame m #[(.ref o0)] 1)) t := fun t k => castTop (ef_12 m o0) k
  obtain ⟨T1, X1, e1, st1⟩ := initO X0 hx hZ hown (wd hw 68 rfl) (wd hw 12 rfl) (wd hw 13 rfl) e0 (g := (mkF m 1 #[.val (.ref o0)] [(.ref o0)])) rfl (by rw [hml]; rfl) rfl (hb hby d12_1) (by decide) (W := 0) (by show 2 * 0 + _ ≤ _; exact Nat.le_of_eq rfl) (by decide)
  obtain ⟨fs, hr, hrun, hended, hW, hsame⟩ := X1.leave (v := none) (fun _ => rfl) hlk
  refine ⟨_, _, pre0 _ ?_, hrun, hended, _, _, rfl, ?_, ⟨_, rfl⟩, hW, hsame.mono (by decide) (by decide)⟩
  · skip
    show Steps p.tables e below (s₁.setTop (mkF m 0 #[.val (.ref o0)] [])) _
    refine XS.aloadN X0.here hx rfl (hb hby d12_0) rfl rfl ?_
    show Steps p.tables e below (s₁.setTop (mkF m 1 #[.val (.ref o0)] [(.ref o0)])) _
    refine st1 _ ?_
    show Steps p.tables e below (T1.setTop (mkF m 4 #[.val (.ref o0)] [])) _
    exact X1.returnOut hx Bd.returns (hb hby d12_4) hr
  · skip
    show Q12 Z o0 h0 n0 _ T1.heap _
    rw [e1]
    exact ⟨N0, rfl, rfl⟩
theorem pd___V : parseMethodDescriptor "()V" = some ⟨[], none⟩ := by decide +kernel
theorem d11_0 : decode jdk_33_method_23_code 0 = .ok (.aload_n 0, 1) := by decide +kernel
theorem d11_1 : decode jdk_33_method_23_code 1 = .ok (.invokespecial 202, 3) := by decide +kernel
theorem d11_4 : decode jdk_33_method_23_code 4 = .ok (.aload_n 0, 1) := by decide +kernel
theorem d11_5 : decode jdk_33_method_23_code 5 = .ok (.iload_n 1, 1) := by decide +kernel
theorem d11_6 : decode jdk_33_method_23_code 6 = .ok (.putfield 205, 3) := by decide +kernel
theorem d11_9 : decode jdk_33_method_23_code 9 = .ok (.return_, 1) := by decide +kernel
theorem pn_java_lang_Integer : plainName "java/lang/Integer" = true := by first | (simp [plainName, overriddenIn]; done) | decide +kernel
theorem ef_11 (m : MethodId) (o0 : Addr) (p1 : Int32) : entryFrame m #[(.ref o0), (.int p1)] 2 = mkF m 0 #[.val (.ref o0), .val (.int p1)] [] := by first | (simp [entryFrame, mkF, argsToLocals, Value.category]; done) | rfl
def Q11 (Z : State) (o0 : Addr) (p1 : Int32) (u0_value : Value) (h0 : Heap) (n0 : Nat) (v : Option Value) (h : Heap) (L : List Loc) : Prop := Fr n0 L ∧ v = none ∧ Keep h0 h [o0] ∧ Exa Z h o0 "java/lang/Integer" ∧ Fld Z h o0 "java/lang/Integer" "value" "I" (.int p1)
set_option maxRecDepth 65536 in
set_option maxHeartbeats 40000000 in
theorem rm11 (l : Launch) (Z : State) (a0 : Array Value) (hw : ∀ d ∈ tables_1, d.before a0 Z = true) (ws : List Jvm.Cond) (o0 : Addr) (p1 : Int32) (u0_value : Value) (h0 : Heap) (n0 : Nat) (Z0 : n0 ≤ h0.size) (E_o0 : Exa Z h0 o0 "java/lang/Integer") (F_value_o0 : Fld Z h0 o0 "java/lang/Integer" "value" "I" u0_value) (g_o0 : n0 ≤ o0) :
    MetFree l (⟨"java/lang/Integer", "<init>", "(I)V"⟩ : MethodName) (head1 (Jvm.Cond.code (⟨"java/lang/Integer", "<init>", "(I)V"⟩ : MethodName) jdk_33_method_23_code 2 none :: ws) ({ frames := 2, cells := 0, slots := 0, locals := 24 } : Room)) (fun a U => a = #[(.ref o0), (.int p1)] ∧ Z.Warmed39 U.vm ∧ U.heap = h0) (fun _ _ _ _ _ => True) (fun _ U o U' => ∃ v L, o = .returned v ∧ Q11 Z o0 p1 u0_value h0 n0 v U'.heap L ∧ FrameEnd U o U' L ({ frames := 2, cells := 0, slots := 0, locals := 24 } : Room).cells ({ frames := 2, cells := 0, slots := 0, locals := 24 } : Room).slots) := by
  refine MetFree.of_bodySF (plainFor_of_name pn_java_lang_Integer) hisR ?_
  intro p e s m args below meth c s₁ Bd hml0 hP hK
  obtain ⟨rfl, hZ, hh⟩ := hP
  have hx := Bd.exec
  have hby := Bd.bytes
  have hml : c.maxLocals = 2 := hml0
  have hown : s.vm.findClass "java/lang/Integer" = some m.cls := findClass_of_methodNamed Bd.named
  have hnm := (name_of_methodNamed Bd.named Bd.method).1
  have hlk := BodyLoose.notSynchronized Bd
  have X0 : Stand p l e ({ frames := 2, cells := 0, slots := 0, locals := 24 } : Room) s m #[(.ref o0), (.int p1)] below meth c s₁ [] 0 0 := Stand.of_body Bd
  have e0 : s₁.heap = h0 := by rw [← hh, Bd.state]; rfl
  have N0 := Fr.nil n0
  have pre0 : ∀ t, Steps p.tables e below (s₁.setTop (mkF m 0 #[.val (.ref o0), .val (.int p1)] [])) t → Steps p.tables e below (s₁.setTop (entryFrame m #[(.ref o0), (.int p1)] 2)) t := fun t k => castTop (ef_11 m o0 p1) k
  obtain ⟨vr1, _, ⟨T1, L1, k1, n1⟩, -, X1, ⟨Lc1, hQ1, l1, y1, z1⟩, st1⟩ := Jvm.Stand.specialBack X0 hx (y := (⟨"java/lang/Number", "<init>", "()V"⟩ : MethodName)) rfl hown (mvT hZ (wd hw 62 rfl)) (mvT hZ (wd hw 63 rfl)) (mvT hZ (wd hw 67 rfl)) (by decide) (backOf (W := 0) (rm12 l Z a0 hw [] o0 h0 n0 Z0) hZ (wd hw 67 rfl) (wd hw 66 rfl) (by decide) (by decide)) (g := (mkF m 1 #[.val (.ref o0), .val (.int p1)] [(.ref o0)])) rfl (by rw [hml]; rfl) (Steps.refl _) (a := o0) (argsL := []) (rest := []) (lenOf pd___V rfl) rfl (by show 2 * 0 + _ ≤ _; exact Nat.le_of_eq rfl) (hb hby d11_1) (fun _ _ => ⟨rfl, e0, (by decide : 0 + 0 ≤ _), (by decide : 0 + 0 ≤ _)⟩)
  dsimp only [Pt.U, Pt.locs, Pt.cells, Pt.slots] at X1 l1 y1 z1 st1 hQ1
  replace X1 := own_stand X1 l1 y1 z1
  clear l1 y1 z1
  have N1q := (show _ ∧ _ ∧ _ from hQ1).1
  have hv1 := (show _ ∧ _ ∧ _ from hQ1).2.1
  have e1 := (show _ ∧ _ ∧ _ from hQ1).2.2
  clear hQ1
  subst hv1
  have N1 := Fr.app N0 N1q
  obtain ⟨T2, h2, X2, e2, W2, st2⟩ := putF X1 hx hZ hown (host := "") (Or.inl (wd hw 69 rfl)) Via.refl e1 F_value_o0 E_o0 (Or.inr ⟨(wd hw 70 rfl), rfl, hnm⟩) (wd hw 57 rfl) (ty := .int) (by decide) rfl rfl (g := (mkF m 6 #[.val (.ref o0), .val (.int p1)] [(.int p1), (.ref o0)])) rfl rfl (hb hby d11_6)
  have Fw2 := F_value_o0.same W2
  have N2 := Fr.snoc X2 N1 g_o0
  have z3 : n0 ≤ h2.size := Nat.le_trans Z0 (Keep.of_wr W2).1
  have hs4 : h0.size ≤ h2.size := Nat.le_trans (Nat.le_refl h0.size) (Keep.of_wr W2).1
  obtain ⟨fs, hr, hrun, hended, hW, hsame⟩ := X2.leave (v := none) (fun _ => rfl) hlk
  refine ⟨_, _, pre0 _ ?_, hrun, hended, _, _, rfl, ?_, ⟨_, rfl⟩, hW, hsame.mono (by decide) (by decide)⟩
  · skip
    show Steps p.tables e below (s₁.setTop (mkF m 0 #[.val (.ref o0), .val (.int p1)] [])) _
    refine XS.aloadN X0.here hx rfl (hb hby d11_0) rfl rfl ?_
    show Steps p.tables e below (s₁.setTop (mkF m 1 #[.val (.ref o0), .val (.int p1)] [(.ref o0)])) _
    refine st1.trans ?_
    show Steps p.tables e below (T1.setTop (mkF m 4 #[.val (.ref o0), .val (.int p1)] [])) _
    refine XS.aloadN X1.here hx rfl (hb hby d11_4) rfl rfl ?_
    show Steps p.tables e below (T1.setTop (mkF m 5 #[.val (.ref o0), .val (.int p1)] [(.ref o0)])) _
    refine XS.iloadN X1.here hx rfl (hb hby d11_5) rfl ?_
    show Steps p.tables e below (T1.setTop (mkF m 6 #[.val (.ref o0), .val (.int p1)] [(.int p1), (.ref o0)])) _
    refine st2 _ ?_
    show Steps p.tables e below (T2.setTop (mkF m 9 #[.val (.ref o0), .val (.int p1)] [])) _
    exact X2.returnOut hx Bd.returns (hb hby d11_9) hr
  · skip
    show Q11 Z o0 p1 u0_value h0 n0 _ T2.heap _
    rw [e2]
    have k5 := (E_o0.wr W2)
    exact ⟨N2, rfl, ((Keep.refl h0 [o0]).wr W2 (Or.inl (List.mem_of_getElem? (i := 0) rfl))), k5, Fw2⟩
theorem d1_0 : decode method_2_code 0 = .ok (.iload_n 0, 1) := by decide +kernel
theorem d1_1 : decode method_2_code 1 = .ok (.iconst 1, 1) := by decide +kernel
theorem d1_2 : decode method_2_code 2 = .ok (.ishr, 1) := by decide +kernel
theorem d1_3 : decode method_2_code 3 = .ok (.istore_n 1, 1) := by decide +kernel
theorem d1_4 : decode method_2_code 4 = .ok (.iload_n 0, 1) := by decide +kernel
theorem d1_5 : decode method_2_code 5 = .ok (.iconst 1, 1) := by decide +kernel
theorem d1_6 : decode method_2_code 6 = .ok (.iand, 1) := by decide +kernel
theorem d1_7 : decode method_2_code 7 = .ok (.ifCond .eq 7, 3) := by decide +kernel
theorem d1_10 : decode method_2_code 10 = .ok (.iload_n 1, 1) := by decide +kernel
theorem d1_11 : decode method_2_code 11 = .ok (.i2d, 1) := by decide +kernel
theorem d1_12 : decode method_2_code 12 = .ok (.dneg, 1) := by decide +kernel
theorem d1_13 : decode method_2_code 13 = .ok (.dreturn, 1) := by decide +kernel
theorem d1_14 : decode method_2_code 14 = .ok (.iload_n 1, 1) := by decide +kernel
theorem d1_15 : decode method_2_code 15 = .ok (.i2d, 1) := by decide +kernel
theorem d1_16 : decode method_2_code 16 = .ok (.dreturn, 1) := by decide +kernel
theorem pn_com_example_khonsu_khonsu_trajectory_TrajectoryRowEqualsPinLaw : plainName "com/example/khonsu/khonsu/trajectory/TrajectoryRowEqualsPinLaw" = true := by first | (simp [plainName, overriddenIn]; done) | decide +kernel
theorem ef_1 (m : MethodId) (p0 : Int32) : entryFrame m #[(.int p0)] 2 = mkF m 0 #[.val (.int p0), .unset] [] := by first | (simp [entryFrame, mkF, argsToLocals, Value.category]; done) | rfl
def v1_1 (p0 : Int32) : Int32 := (p0 >>> ((1 : Int32) &&& 31))
def v1_2 (p0 : Int32) : Int32 := (p0 &&& (1 : Int32))
def f1 (p0 : Int32) : UInt64 := (if (v1_2 p0) = (0 : Int32) then (FP.i2d (v1_1 p0)) else (FP.dneg (FP.i2d (v1_1 p0))))
def Q1 (Z : State) (p0 : Int32) (h0 : Heap) (n0 : Nat) (v : Option Value) (h : Heap) (L : List Loc) : Prop := Fr n0 L ∧ v = some (.double (f1 p0)) ∧ h = h0
set_option maxRecDepth 65536 in
set_option maxHeartbeats 40000000 in
theorem rm1 (l : Launch) (Z : State) (a0 : Array Value) (hw : ∀ d ∈ tables_1, d.before a0 Z = true) (ws : List Jvm.Cond) (p0 : Int32) (h0 : Heap) (n0 : Nat) (Z0 : n0 ≤ h0.size) :
    MetFree l (⟨"com/example/khonsu/khonsu/trajectory/TrajectoryRowEqualsPinLaw", "coord", "(I)D"⟩ : MethodName) (head1 (Jvm.Cond.code (⟨"com/example/khonsu/khonsu/trajectory/TrajectoryRowEqualsPinLaw", "coord", "(I)D"⟩ : MethodName) method_2_code 2 (some .double) :: ws) ({ frames := 0, cells := 0, slots := 0, locals := 0 } : Room)) (fun a U => a = #[(.int p0)] ∧ Z.Warmed39 U.vm ∧ U.heap = h0) (fun _ _ _ _ _ => True) (fun _ U o U' => ∃ v L, o = .returned v ∧ Q1 Z p0 h0 n0 v U'.heap L ∧ FrameEnd U o U' L ({ frames := 0, cells := 0, slots := 0, locals := 0 } : Room).cells ({ frames := 0, cells := 0, slots := 0, locals := 0 } : Room).slots) := by
  refine MetFree.of_bodySF (plainFor_of_name pn_com_example_khonsu_khonsu_trajectory_TrajectoryRowEqualsPinLaw) hisR ?_
  intro p e s m args below meth c s₁ Bd hml0 hP hK
  obtain ⟨rfl, hZ, hh⟩ := hP
  have hx := Bd.exec
  have hby := Bd.bytes
  have hml : c.maxLocals = 2 := hml0
  have hown : s.vm.findClass "com/example/khonsu/khonsu/trajectory/TrajectoryRowEqualsPinLaw" = some m.cls := findClass_of_methodNamed Bd.named
  have hnm := (name_of_methodNamed Bd.named Bd.method).1
  have hlk := BodyLoose.notSynchronized Bd
  have X0 : Stand p l e ({ frames := 0, cells := 0, slots := 0, locals := 0 } : Room) s m #[(.int p0)] below meth c s₁ [] 0 0 := Stand.of_body Bd
  have e0 : s₁.heap = h0 := by rw [← hh, Bd.state]; rfl
  have N0 := Fr.nil n0
  have pre0 : ∀ t, Steps p.tables e below (s₁.setTop (mkF m 0 #[.val (.int p0), .unset] [])) t → Steps p.tables e below (s₁.setTop (entryFrame m #[(.int p0)] 2)) t := fun t k => castTop (ef_1 m p0) k
  have pre1 : ∀ t, Steps p.tables e below (s₁.setTop (mkF m 7 #[.val (.int p0), .val (.int (v1_1 p0))] [(.int (p0 &&& (1 : Int32)))])) t → Steps p.tables e below (s₁.setTop (entryFrame m #[(.int p0)] 2)) t := by
    intro t k
    refine pre0 t ?_
    show Steps p.tables e below (s₁.setTop (mkF m 0 #[.val (.int p0), .unset] [])) _
    refine XS.iloadN X0.here hx rfl (hb hby d1_0) rfl ?_
    show Steps p.tables e below (s₁.setTop (mkF m 1 #[.val (.int p0), .unset] [(.int p0)])) _
    refine XT.iconstV X0.here hx rfl (1 : Int32) (hb hby d1_1) (by decide) ?_
    show Steps p.tables e below (s₁.setTop (mkF m 2 #[.val (.int p0), .unset] [(.int (1 : Int32)), (.int p0)])) _
    refine XT.ishr X0.here hx rfl (hb hby d1_2) rfl ?_
    show Steps p.tables e below (s₁.setTop (mkF m 3 #[.val (.int p0), .unset] [(.int (p0 >>> ((1 : Int32) &&& 31)))])) _
    refine XS.istoreN X0.here hx rfl (hb hby d1_3) rfl (l' := #[.val (.int p0), .val (.int (v1_1 p0))]) rfl ?_
    show Steps p.tables e below (s₁.setTop (mkF m 4 #[.val (.int p0), .val (.int (v1_1 p0))] [])) _
    refine XS.iloadN X0.here hx rfl (hb hby d1_4) rfl ?_
    show Steps p.tables e below (s₁.setTop (mkF m 5 #[.val (.int p0), .val (.int (v1_1 p0))] [(.int p0)])) _
    refine XT.iconstV X0.here hx rfl (1 : Int32) (hb hby d1_5) (by decide) ?_
    show Steps p.tables e below (s₁.setTop (mkF m 6 #[.val (.int p0), .val (.int (v1_1 p0))] [(.int (1 : Int32)), (.int p0)])) _
    refine XS.iand X0.here hx rfl (hb hby d1_6) rfl ?_
    exact k
  clear pre0
  by_cases c2 : (v1_2 p0) = (0 : Int32)
  · skip
    obtain ⟨fs, hr, hrun, hended, hW, hsame⟩ := X0.leave (v := some (.double (FP.i2d (v1_1 p0)))) (fun h => by rw [Bd.returns] at h; cases h) hlk
    refine ⟨_, _, pre1 _ ?_, hrun, hended, _, _, rfl, ?_, ⟨_, rfl⟩, hW, hsame.mono (by decide) (by decide)⟩
    · skip
      show Steps p.tables e below (s₁.setTop (mkF m 7 #[.val (.int p0), .val (.int (v1_1 p0))] [(.int (p0 &&& (1 : Int32)))])) _
      refine XS.ifYes X0.here hx rfl (pc0 := 7) (pc' := 14) rfl (hb hby d1_7) rfl (XT.i0_eq_t c2) (by decide) (by decide) ?_
      show Steps p.tables e below (s₁.setTop (mkF m 14 #[.val (.int p0), .val (.int (v1_1 p0))] [])) _
      refine XS.iloadN X0.here hx rfl (hb hby d1_14) rfl ?_
      show Steps p.tables e below (s₁.setTop (mkF m 15 #[.val (.int p0), .val (.int (v1_1 p0))] [(.int (v1_1 p0))])) _
      refine XS.i2dS X0.here hx rfl (hb hby d1_15) rfl rfl ?_
      show Steps p.tables e below (s₁.setTop (mkF m 16 #[.val (.int p0), .val (.int (v1_1 p0))] [(.double (FP.i2d (v1_1 p0)))])) _
      exact own_retD X0 hx Bd.returns (hb hby d1_16) hr
    · skip
      show Q1 Z p0 h0 n0 _ s₁.heap _
      rw [e0]
      exact ⟨N0, (by rw [show (f1 p0) = (FP.i2d (v1_1 p0)) from (if_pos c2)]), rfl⟩
  · skip
    obtain ⟨fs, hr, hrun, hended, hW, hsame⟩ := X0.leave (v := some (.double (FP.dneg (FP.i2d (v1_1 p0))))) (fun h => by rw [Bd.returns] at h; cases h) hlk
    refine ⟨_, _, pre1 _ ?_, hrun, hended, _, _, rfl, ?_, ⟨_, rfl⟩, hW, hsame.mono (by decide) (by decide)⟩
    · skip
      show Steps p.tables e below (s₁.setTop (mkF m 7 #[.val (.int p0), .val (.int (v1_1 p0))] [(.int (p0 &&& (1 : Int32)))])) _
      refine XS.ifNo X0.here hx rfl (hb hby d1_7) rfl (XT.i0_eq_f c2) ?_
      show Steps p.tables e below (s₁.setTop (mkF m 10 #[.val (.int p0), .val (.int (v1_1 p0))] [])) _
      refine XS.iloadN X0.here hx rfl (hb hby d1_10) rfl ?_
      show Steps p.tables e below (s₁.setTop (mkF m 11 #[.val (.int p0), .val (.int (v1_1 p0))] [(.int (v1_1 p0))])) _
      refine XS.i2dS X0.here hx rfl (hb hby d1_11) rfl rfl ?_
      show Steps p.tables e below (s₁.setTop (mkF m 12 #[.val (.int p0), .val (.int (v1_1 p0))] [(.double (FP.i2d (v1_1 p0)))])) _
      refine XS.dnegS X0.here hx rfl (hb hby d1_12) rfl rfl ?_
      show Steps p.tables e below (s₁.setTop (mkF m 13 #[.val (.int p0), .val (.int (v1_1 p0))] [(.double (FP.dneg (FP.i2d (v1_1 p0))))])) _
      exact own_retD X0 hx Bd.returns (hb hby d1_13) hr
    · skip
      show Q1 Z p0 h0 n0 _ s₁.heap _
      rw [e0]
      exact ⟨N0, (by rw [show (f1 p0) = (FP.dneg (FP.i2d (v1_1 p0))) from (if_neg c2)]), rfl⟩
theorem d14_0 : decode method_3_code 0 = .ok (.iload_n 0, 1) := by decide +kernel
theorem d14_1 : decode method_3_code 1 = .ok (.iconst 1, 1) := by decide +kernel
theorem d14_2 : decode method_3_code 2 = .ok (.ishr, 1) := by decide +kernel
theorem d14_3 : decode method_3_code 3 = .ok (.i2l, 1) := by decide +kernel
theorem d14_4 : decode method_3_code 4 = .ok (.lstore_n 1, 1) := by decide +kernel
theorem d14_5 : decode method_3_code 5 = .ok (.iload_n 0, 1) := by decide +kernel
theorem d14_6 : decode method_3_code 6 = .ok (.iconst 1, 1) := by decide +kernel
theorem d14_7 : decode method_3_code 7 = .ok (.iand, 1) := by decide +kernel
theorem d14_8 : decode method_3_code 8 = .ok (.ifCond .eq 6, 3) := by decide +kernel
theorem d14_11 : decode method_3_code 11 = .ok (.lload_n 1, 1) := by decide +kernel
theorem d14_12 : decode method_3_code 12 = .ok (.lneg, 1) := by decide +kernel
theorem d14_13 : decode method_3_code 13 = .ok (.lreturn, 1) := by decide +kernel
theorem d14_14 : decode method_3_code 14 = .ok (.lload_n 1, 1) := by decide +kernel
theorem d14_15 : decode method_3_code 15 = .ok (.lreturn, 1) := by decide +kernel
theorem ef_14 (m : MethodId) (p0 : Int32) : entryFrame m #[(.int p0)] 3 = mkF m 0 #[.val (.int p0), .unset, .unset] [] := by first | (simp [entryFrame, mkF, argsToLocals, Value.category]; done) | rfl
def v14_1 (p0 : Int32) : Int64 := ((p0 >>> ((1 : Int32) &&& 31)).toInt64)
def v14_2 (p0 : Int32) : Int32 := (p0 &&& (1 : Int32))
def f14 (p0 : Int32) : Int64 := (if (v14_2 p0) = (0 : Int32) then (v14_1 p0) else (-(v14_1 p0)))
def Q14 (Z : State) (p0 : Int32) (h0 : Heap) (n0 : Nat) (v : Option Value) (h : Heap) (L : List Loc) : Prop := Fr n0 L ∧ v = some (.long (f14 p0)) ∧ h = h0
set_option maxRecDepth 65536 in
set_option maxHeartbeats 40000000 in
theorem rm14 (l : Launch) (Z : State) (a0 : Array Value) (hw : ∀ d ∈ tables_1, d.before a0 Z = true) (ws : List Jvm.Cond) (p0 : Int32) (h0 : Heap) (n0 : Nat) (Z0 : n0 ≤ h0.size) :
    MetFree l (⟨"com/example/khonsu/khonsu/trajectory/TrajectoryRowEqualsPinLaw", "value", "(I)J"⟩ : MethodName) (head1 (Jvm.Cond.code (⟨"com/example/khonsu/khonsu/trajectory/TrajectoryRowEqualsPinLaw", "value", "(I)J"⟩ : MethodName) method_3_code 3 (some .long) :: ws) ({ frames := 0, cells := 0, slots := 0, locals := 0 } : Room)) (fun a U => a = #[(.int p0)] ∧ Z.Warmed39 U.vm ∧ U.heap = h0) (fun _ _ _ _ _ => True) (fun _ U o U' => ∃ v L, o = .returned v ∧ Q14 Z p0 h0 n0 v U'.heap L ∧ FrameEnd U o U' L ({ frames := 0, cells := 0, slots := 0, locals := 0 } : Room).cells ({ frames := 0, cells := 0, slots := 0, locals := 0 } : Room).slots) := by
  refine MetFree.of_bodySF (plainFor_of_name pn_com_example_khonsu_khonsu_trajectory_TrajectoryRowEqualsPinLaw) hisR ?_
  intro p e s m args below meth c s₁ Bd hml0 hP hK
  obtain ⟨rfl, hZ, hh⟩ := hP
  have hx := Bd.exec
  have hby := Bd.bytes
  have hml : c.maxLocals = 3 := hml0
  have hown : s.vm.findClass "com/example/khonsu/khonsu/trajectory/TrajectoryRowEqualsPinLaw" = some m.cls := findClass_of_methodNamed Bd.named
  have hnm := (name_of_methodNamed Bd.named Bd.method).1
  have hlk := BodyLoose.notSynchronized Bd
  have X0 : Stand p l e ({ frames := 0, cells := 0, slots := 0, locals := 0 } : Room) s m #[(.int p0)] below meth c s₁ [] 0 0 := Stand.of_body Bd
  have e0 : s₁.heap = h0 := by rw [← hh, Bd.state]; rfl
  have N0 := Fr.nil n0
  have pre0 : ∀ t, Steps p.tables e below (s₁.setTop (mkF m 0 #[.val (.int p0), .unset, .unset] [])) t → Steps p.tables e below (s₁.setTop (entryFrame m #[(.int p0)] 3)) t := fun t k => castTop (ef_14 m p0) k
  have pre1 : ∀ t, Steps p.tables e below (s₁.setTop (mkF m 8 #[.val (.int p0), .val (.long (v14_1 p0)), .second] [(.int (p0 &&& (1 : Int32)))])) t → Steps p.tables e below (s₁.setTop (entryFrame m #[(.int p0)] 3)) t := by
    intro t k
    refine pre0 t ?_
    show Steps p.tables e below (s₁.setTop (mkF m 0 #[.val (.int p0), .unset, .unset] [])) _
    refine XS.iloadN X0.here hx rfl (hb hby d14_0) rfl ?_
    show Steps p.tables e below (s₁.setTop (mkF m 1 #[.val (.int p0), .unset, .unset] [(.int p0)])) _
    refine XT.iconstV X0.here hx rfl (1 : Int32) (hb hby d14_1) (by decide) ?_
    show Steps p.tables e below (s₁.setTop (mkF m 2 #[.val (.int p0), .unset, .unset] [(.int (1 : Int32)), (.int p0)])) _
    refine XT.ishr X0.here hx rfl (hb hby d14_2) rfl ?_
    show Steps p.tables e below (s₁.setTop (mkF m 3 #[.val (.int p0), .unset, .unset] [(.int (p0 >>> ((1 : Int32) &&& 31)))])) _
    refine XT.i2l X0.here hx rfl (hb hby d14_3) rfl ?_
    show Steps p.tables e below (s₁.setTop (mkF m 4 #[.val (.int p0), .unset, .unset] [(.long ((p0 >>> ((1 : Int32) &&& 31)).toInt64))])) _
    refine XT.lstoreN X0.here hx rfl (hb hby d14_4) rfl (l' := #[.val (.int p0), .val (.long (v14_1 p0)), .second]) rfl ?_
    show Steps p.tables e below (s₁.setTop (mkF m 5 #[.val (.int p0), .val (.long (v14_1 p0)), .second] [])) _
    refine XS.iloadN X0.here hx rfl (hb hby d14_5) rfl ?_
    show Steps p.tables e below (s₁.setTop (mkF m 6 #[.val (.int p0), .val (.long (v14_1 p0)), .second] [(.int p0)])) _
    refine XT.iconstV X0.here hx rfl (1 : Int32) (hb hby d14_6) (by decide) ?_
    show Steps p.tables e below (s₁.setTop (mkF m 7 #[.val (.int p0), .val (.long (v14_1 p0)), .second] [(.int (1 : Int32)), (.int p0)])) _
    refine XS.iand X0.here hx rfl (hb hby d14_7) rfl ?_
    exact k
  clear pre0
  by_cases c2 : (v14_2 p0) = (0 : Int32)
  · skip
    obtain ⟨fs, hr, hrun, hended, hW, hsame⟩ := X0.leave (v := some (.long (v14_1 p0))) (fun h => by rw [Bd.returns] at h; cases h) hlk
    refine ⟨_, _, pre1 _ ?_, hrun, hended, _, _, rfl, ?_, ⟨_, rfl⟩, hW, hsame.mono (by decide) (by decide)⟩
    · skip
      show Steps p.tables e below (s₁.setTop (mkF m 8 #[.val (.int p0), .val (.long (v14_1 p0)), .second] [(.int (p0 &&& (1 : Int32)))])) _
      refine XS.ifYes X0.here hx rfl (pc0 := 8) (pc' := 14) rfl (hb hby d14_8) rfl (XT.i0_eq_t c2) (by decide) (by decide) ?_
      show Steps p.tables e below (s₁.setTop (mkF m 14 #[.val (.int p0), .val (.long (v14_1 p0)), .second] [])) _
      refine XT.lloadN X0.here hx rfl (hb hby d14_14) rfl ?_
      show Steps p.tables e below (s₁.setTop (mkF m 15 #[.val (.int p0), .val (.long (v14_1 p0)), .second] [(.long (v14_1 p0))])) _
      exact X0.lreturnOut hx Bd.returns (hb hby d14_15) hr
    · skip
      show Q14 Z p0 h0 n0 _ s₁.heap _
      rw [e0]
      exact ⟨N0, (by rw [show (f14 p0) = (v14_1 p0) from (if_pos c2)]), rfl⟩
  · skip
    obtain ⟨fs, hr, hrun, hended, hW, hsame⟩ := X0.leave (v := some (.long (-(v14_1 p0)))) (fun h => by rw [Bd.returns] at h; cases h) hlk
    refine ⟨_, _, pre1 _ ?_, hrun, hended, _, _, rfl, ?_, ⟨_, rfl⟩, hW, hsame.mono (by decide) (by decide)⟩
    · skip
      show Steps p.tables e below (s₁.setTop (mkF m 8 #[.val (.int p0), .val (.long (v14_1 p0)), .second] [(.int (p0 &&& (1 : Int32)))])) _
      refine XS.ifNo X0.here hx rfl (hb hby d14_8) rfl (XT.i0_eq_f c2) ?_
      show Steps p.tables e below (s₁.setTop (mkF m 11 #[.val (.int p0), .val (.long (v14_1 p0)), .second] [])) _
      refine XT.lloadN X0.here hx rfl (hb hby d14_11) rfl ?_
      show Steps p.tables e below (s₁.setTop (mkF m 12 #[.val (.int p0), .val (.long (v14_1 p0)), .second] [(.long (v14_1 p0))])) _
      refine XT.lneg X0.here hx rfl (hb hby d14_12) rfl ?_
      show Steps p.tables e below (s₁.setTop (mkF m 13 #[.val (.int p0), .val (.long (v14_1 p0)), .second] [(.long (-(v14_1 p0)))])) _
      exact X0.lreturnOut hx Bd.returns (hb hby d14_13) hr
    · skip
      show Q14 Z p0 h0 n0 _ s₁.heap _
      rw [e0]
      exact ⟨N0, (by rw [show (f14 p0) = (-(v14_1 p0)) from (if_neg c2)]), rfl⟩
theorem pd__I_J : parseMethodDescriptor "(I)J" = some ⟨[.int], some .long⟩ := by decide +kernel
theorem d13_0 : decode method_4_code 0 = .ok (.iload_n 0, 1) := by decide +kernel
theorem d13_1 : decode method_4_code 1 = .ok (.invokestatic 7, 3) := by decide +kernel
theorem d13_4 : decode method_4_code 4 = .ok (.lstore_n 2, 1) := by decide +kernel
theorem d13_5 : decode method_4_code 5 = .ok (.iload_n 1, 1) := by decide +kernel
theorem d13_6 : decode method_4_code 6 = .ok (.invokestatic 7, 3) := by decide +kernel
theorem d13_9 : decode method_4_code 9 = .ok (.lstore 4, 2) := by decide +kernel
theorem d13_11 : decode method_4_code 11 = .ok (.lload_n 2, 1) := by decide +kernel
theorem d13_12 : decode method_4_code 12 = .ok (.lload 4, 2) := by decide +kernel
theorem d13_14 : decode method_4_code 14 = .ok (.lcmp, 1) := by decide +kernel
theorem d13_15 : decode method_4_code 15 = .ok (.ifCond .eq 5, 3) := by decide +kernel
theorem d13_18 : decode method_4_code 18 = .ok (.iconst 0, 1) := by decide +kernel
theorem d13_19 : decode method_4_code 19 = .ok (.ireturn, 1) := by decide +kernel
theorem d13_20 : decode method_4_code 20 = .ok (.lload_n 2, 1) := by decide +kernel
theorem d13_21 : decode method_4_code 21 = .ok (.lconst 0, 1) := by decide +kernel
theorem d13_22 : decode method_4_code 22 = .ok (.lcmp, 1) := by decide +kernel
theorem d13_23 : decode method_4_code 23 = .ok (.ifCond .eq 5, 3) := by decide +kernel
theorem d13_26 : decode method_4_code 26 = .ok (.iconst 1, 1) := by decide +kernel
theorem d13_27 : decode method_4_code 27 = .ok (.ireturn, 1) := by decide +kernel
theorem d13_28 : decode method_4_code 28 = .ok (.iload_n 0, 1) := by decide +kernel
theorem d13_29 : decode method_4_code 29 = .ok (.iconst 1, 1) := by decide +kernel
theorem d13_30 : decode method_4_code 30 = .ok (.iand, 1) := by decide +kernel
theorem d13_31 : decode method_4_code 31 = .ok (.iload_n 1, 1) := by decide +kernel
theorem d13_32 : decode method_4_code 32 = .ok (.iconst 1, 1) := by decide +kernel
theorem d13_33 : decode method_4_code 33 = .ok (.iand, 1) := by decide +kernel
theorem d13_34 : decode method_4_code 34 = .ok (.if_icmp .ne 7, 3) := by decide +kernel
theorem d13_37 : decode method_4_code 37 = .ok (.iconst 1, 1) := by decide +kernel
theorem d13_38 : decode method_4_code 38 = .ok (.goto 4, 3) := by decide +kernel
theorem d13_41 : decode method_4_code 41 = .ok (.iconst 0, 1) := by decide +kernel
theorem d13_42 : decode method_4_code 42 = .ok (.ireturn, 1) := by decide +kernel
theorem ef_13 (m : MethodId) (p0 : Int32) (p1 : Int32) : entryFrame m #[(.int p0), (.int p1)] 6 = mkF m 0 #[.val (.int p0), .val (.int p1), .unset, .unset, .unset, .unset] [] := by first | (simp [entryFrame, mkF, argsToLocals, Value.category]; done) | rfl
def v13_1 (p0 : Int32) (p1 : Int32) : Int64 := (f14 p0)
def v13_2 (p0 : Int32) (p1 : Int32) : Int64 := (f14 p1)
def v13_3 (p0 : Int32) (p1 : Int32) : Int32 := (p0 &&& (1 : Int32))
def v13_4 (p0 : Int32) (p1 : Int32) : Int32 := (p1 &&& (1 : Int32))
def v13_5 (p0 : Int32) (p1 : Int32) : Int32 := (if (v13_3 p0 p1) = (v13_4 p0 p1) then (1 : Int32) else (0 : Int32))
def f13 (p0 : Int32) (p1 : Int32) : Int32 := (if (v13_1 p0 p1) = (v13_2 p0 p1) then (if (v13_1 p0 p1) = (0 : Int64) then (nar .boolean (v13_5 p0 p1)) else (1 : Int32)) else (0 : Int32))
def Q13 (Z : State) (p0 : Int32) (p1 : Int32) (h0 : Heap) (n0 : Nat) (v : Option Value) (h : Heap) (L : List Loc) : Prop := Fr n0 L ∧ v = some (.int (f13 p0 p1)) ∧ h = h0
set_option maxRecDepth 65536 in
set_option maxHeartbeats 40000000 in
theorem rm13 (l : Launch) (Z : State) (a0 : Array Value) (hw : ∀ d ∈ tables_1, d.before a0 Z = true) (ws : List Jvm.Cond) (p0 : Int32) (p1 : Int32) (h0 : Heap) (n0 : Nat) (Z0 : n0 ≤ h0.size) :
    MetFree l (⟨"com/example/khonsu/khonsu/trajectory/TrajectoryRowEqualsPinLaw", "sameCoord", "(II)Z"⟩ : MethodName) (head1 (Jvm.Cond.code (⟨"com/example/khonsu/khonsu/trajectory/TrajectoryRowEqualsPinLaw", "sameCoord", "(II)Z"⟩ : MethodName) method_4_code 6 (some .boolean) :: ws) ({ frames := 1, cells := 0, slots := 0, locals := 14 } : Room)) (fun a U => a = #[(.int p0), (.int p1)] ∧ Z.Warmed39 U.vm ∧ U.heap = h0) (fun _ _ _ _ _ => True) (fun _ U o U' => ∃ v L, o = .returned v ∧ Q13 Z p0 p1 h0 n0 v U'.heap L ∧ FrameEnd U o U' L ({ frames := 1, cells := 0, slots := 0, locals := 14 } : Room).cells ({ frames := 1, cells := 0, slots := 0, locals := 14 } : Room).slots) := by
  refine MetFree.of_bodySF (plainFor_of_name pn_com_example_khonsu_khonsu_trajectory_TrajectoryRowEqualsPinLaw) hisR ?_
  intro p e s m args below meth c s₁ Bd hml0 hP hK
  obtain ⟨rfl, hZ, hh⟩ := hP
  have hx := Bd.exec
  have hby := Bd.bytes
  have hml : c.maxLocals = 6 := hml0
  have hown : s.vm.findClass "com/example/khonsu/khonsu/trajectory/TrajectoryRowEqualsPinLaw" = some m.cls := findClass_of_methodNamed Bd.named
  have hnm := (name_of_methodNamed Bd.named Bd.method).1
  have hlk := BodyLoose.notSynchronized Bd
  have X0 : Stand p l e ({ frames := 1, cells := 0, slots := 0, locals := 14 } : Room) s m #[(.int p0), (.int p1)] below meth c s₁ [] 0 0 := Stand.of_body Bd
  have e0 : s₁.heap = h0 := by rw [← hh, Bd.state]; rfl
  have N0 := Fr.nil n0
  have pre0 : ∀ t, Steps p.tables e below (s₁.setTop (mkF m 0 #[.val (.int p0), .val (.int p1), .unset, .unset, .unset, .unset] [])) t → Steps p.tables e below (s₁.setTop (entryFrame m #[(.int p0), (.int p1)] 6)) t := fun t k => castTop (ef_13 m p0 p1) k
  obtain ⟨vr1, _, ⟨T1, L1, k1, n1⟩, -, X1, ⟨Lc1, hQ1, l1, y1, z1⟩, st1⟩ := Jvm.LawKit.callS X0 hx (y := (⟨"com/example/khonsu/khonsu/trajectory/TrajectoryRowEqualsPinLaw", "value", "(I)J"⟩ : MethodName)) hown (mvT hZ (wd hw 78 rfl)) (mvT hZ (wd hw 79 rfl)) (mvT hZ (wd hw 6 rfl)) (mvT hZ (wd hw 80 rfl)) (by decide) (backOf (W := 0) (rm14 l Z a0 hw [] p0 h0 n0 Z0) hZ (wd hw 80 rfl) (wd hw 6 rfl) (by decide) (by decide)) (g := (mkF m 1 #[.val (.int p0), .val (.int p1), .unset, .unset, .unset, .unset] [(.int p0)])) rfl (by rw [hml]; rfl) (argsL := [(.int p0)]) (rest := []) (lenOf pd__I_J rfl) rfl (by show 2 * 0 + _ ≤ _; exact Nat.le_of_eq rfl) (hb hby d13_1) (fun _ _ => ⟨rfl, e0, (by decide : 0 + 0 ≤ _), (by decide : 0 + 0 ≤ _)⟩)
  dsimp only [Pt.U, Pt.locs, Pt.cells, Pt.slots] at X1 l1 y1 z1 st1 hQ1
  replace X1 := own_stand X1 l1 y1 z1
  clear l1 y1 z1
  have N1q := (show _ ∧ _ ∧ _ from hQ1).1
  have hv1 := (show _ ∧ _ ∧ _ from hQ1).2.1
  have e1 := (show _ ∧ _ ∧ _ from hQ1).2.2
  clear hQ1
  subst hv1
  have N1 := Fr.app N0 N1q
  obtain ⟨vr2, _, ⟨T2, L2, k2, n2⟩, -, X2, ⟨Lc2, hQ2, l2, y2, z2⟩, st2⟩ := Jvm.LawKit.callS X1 hx (y := (⟨"com/example/khonsu/khonsu/trajectory/TrajectoryRowEqualsPinLaw", "value", "(I)J"⟩ : MethodName)) hown (mvT hZ (wd hw 78 rfl)) (mvT hZ (wd hw 79 rfl)) (mvT hZ (wd hw 6 rfl)) (mvT hZ (wd hw 80 rfl)) (by decide) (backOf (W := 0) (rm14 l Z a0 hw [] p1 h0 n0 Z0) hZ (wd hw 80 rfl) (wd hw 6 rfl) (by decide) (by decide)) (g := (mkF m 6 #[.val (.int p0), .val (.int p1), .val (.long (v13_1 p0 p1)), .second, .unset, .unset] [(.int p1)])) rfl (by rw [hml]; rfl) (argsL := [(.int p1)]) (rest := []) (lenOf pd__I_J rfl) rfl (by show 2 * 0 + _ ≤ _; exact Nat.le_of_eq rfl) (hb hby d13_6) (fun _ _ => ⟨rfl, e1, (by decide : 0 + 0 ≤ _), (by decide : 0 + 0 ≤ _)⟩)
  dsimp only [Pt.U, Pt.locs, Pt.cells, Pt.slots] at X2 l2 y2 z2 st2 hQ2
  replace X2 := own_stand X2 l2 y2 z2
  clear l2 y2 z2
  have N2q := (show _ ∧ _ ∧ _ from hQ2).1
  have hv2 := (show _ ∧ _ ∧ _ from hQ2).2.1
  have e2 := (show _ ∧ _ ∧ _ from hQ2).2.2
  clear hQ2
  subst hv2
  have N2 := Fr.app N1 N2q
  have pre3 : ∀ t, Steps p.tables e below (T2.setTop (mkF m 15 #[.val (.int p0), .val (.int p1), .val (.long (v13_1 p0 p1)), .second, .val (.long (v13_2 p0 p1)), .second] [(.int (XT.cmpL (v13_1 p0 p1) (v13_2 p0 p1)))])) t → Steps p.tables e below (s₁.setTop (entryFrame m #[(.int p0), (.int p1)] 6)) t := by
    intro t k
    refine pre0 t ?_
    show Steps p.tables e below (s₁.setTop (mkF m 0 #[.val (.int p0), .val (.int p1), .unset, .unset, .unset, .unset] [])) _
    refine XS.iloadN X0.here hx rfl (hb hby d13_0) rfl ?_
    show Steps p.tables e below (s₁.setTop (mkF m 1 #[.val (.int p0), .val (.int p1), .unset, .unset, .unset, .unset] [(.int p0)])) _
    refine st1 _ ?_
    show Steps p.tables e below (T1.setTop (mkF m 4 #[.val (.int p0), .val (.int p1), .unset, .unset, .unset, .unset] [(.long (f14 p0))])) _
    refine XT.lstoreN X1.here hx rfl (hb hby d13_4) rfl (l' := #[.val (.int p0), .val (.int p1), .val (.long (v13_1 p0 p1)), .second, .unset, .unset]) rfl ?_
    show Steps p.tables e below (T1.setTop (mkF m 5 #[.val (.int p0), .val (.int p1), .val (.long (v13_1 p0 p1)), .second, .unset, .unset] [])) _
    refine XS.iloadN X1.here hx rfl (hb hby d13_5) rfl ?_
    show Steps p.tables e below (T1.setTop (mkF m 6 #[.val (.int p0), .val (.int p1), .val (.long (v13_1 p0 p1)), .second, .unset, .unset] [(.int p1)])) _
    refine st2 _ ?_
    show Steps p.tables e below (T2.setTop (mkF m 9 #[.val (.int p0), .val (.int p1), .val (.long (v13_1 p0 p1)), .second, .unset, .unset] [(.long (f14 p1))])) _
    refine XT.lstore X2.here hx rfl (hb hby d13_9) rfl (l' := #[.val (.int p0), .val (.int p1), .val (.long (v13_1 p0 p1)), .second, .val (.long (v13_2 p0 p1)), .second]) rfl ?_
    show Steps p.tables e below (T2.setTop (mkF m 11 #[.val (.int p0), .val (.int p1), .val (.long (v13_1 p0 p1)), .second, .val (.long (v13_2 p0 p1)), .second] [])) _
    refine XT.lloadN X2.here hx rfl (hb hby d13_11) rfl ?_
    show Steps p.tables e below (T2.setTop (mkF m 12 #[.val (.int p0), .val (.int p1), .val (.long (v13_1 p0 p1)), .second, .val (.long (v13_2 p0 p1)), .second] [(.long (v13_1 p0 p1))])) _
    refine XT.lload X2.here hx rfl (hb hby d13_12) rfl ?_
    show Steps p.tables e below (T2.setTop (mkF m 14 #[.val (.int p0), .val (.int p1), .val (.long (v13_1 p0 p1)), .second, .val (.long (v13_2 p0 p1)), .second] [(.long (v13_2 p0 p1)), (.long (v13_1 p0 p1))])) _
    refine XT.lcmp X2.here hx rfl (hb hby d13_14) rfl ?_
    exact k
  clear pre0 st1 st2
  by_cases c4 : (v13_1 p0 p1) = (v13_2 p0 p1)
  · skip
    have pre5 : ∀ t, Steps p.tables e below (T2.setTop (mkF m 23 #[.val (.int p0), .val (.int p1), .val (.long (v13_1 p0 p1)), .second, .val (.long (v13_2 p0 p1)), .second] [(.int (XT.cmpL (v13_1 p0 p1) (0 : Int64)))])) t → Steps p.tables e below (s₁.setTop (entryFrame m #[(.int p0), (.int p1)] 6)) t := by
      intro t k
      refine pre3 t ?_
      show Steps p.tables e below (T2.setTop (mkF m 15 #[.val (.int p0), .val (.int p1), .val (.long (v13_1 p0 p1)), .second, .val (.long (v13_2 p0 p1)), .second] [(.int (XT.cmpL (v13_1 p0 p1) (v13_2 p0 p1)))])) _
      refine XS.ifYes X2.here hx rfl (pc0 := 15) (pc' := 20) rfl (hb hby d13_15) rfl (XT.ll_eq_t c4) (by decide) (by decide) ?_
      show Steps p.tables e below (T2.setTop (mkF m 20 #[.val (.int p0), .val (.int p1), .val (.long (v13_1 p0 p1)), .second, .val (.long (v13_2 p0 p1)), .second] [])) _
      refine XT.lloadN X2.here hx rfl (hb hby d13_20) rfl ?_
      show Steps p.tables e below (T2.setTop (mkF m 21 #[.val (.int p0), .val (.int p1), .val (.long (v13_1 p0 p1)), .second, .val (.long (v13_2 p0 p1)), .second] [(.long (v13_1 p0 p1))])) _
      refine XT.lconstV X2.here hx rfl (0 : Int64) (hb hby d13_21) (by decide) ?_
      show Steps p.tables e below (T2.setTop (mkF m 22 #[.val (.int p0), .val (.int p1), .val (.long (v13_1 p0 p1)), .second, .val (.long (v13_2 p0 p1)), .second] [(.long (0 : Int64)), (.long (v13_1 p0 p1))])) _
      refine XT.lcmp X2.here hx rfl (hb hby d13_22) rfl ?_
      exact k
    clear pre3
    by_cases c6 : (v13_1 p0 p1) = (0 : Int64)
    · skip
      have pre7 : ∀ t, Steps p.tables e below (T2.setTop (mkF m 34 #[.val (.int p0), .val (.int p1), .val (.long (v13_1 p0 p1)), .second, .val (.long (v13_2 p0 p1)), .second] [(.int (p1 &&& (1 : Int32))), (.int (p0 &&& (1 : Int32)))])) t → Steps p.tables e below (s₁.setTop (entryFrame m #[(.int p0), (.int p1)] 6)) t := by
        intro t k
        refine pre5 t ?_
        show Steps p.tables e below (T2.setTop (mkF m 23 #[.val (.int p0), .val (.int p1), .val (.long (v13_1 p0 p1)), .second, .val (.long (v13_2 p0 p1)), .second] [(.int (XT.cmpL (v13_1 p0 p1) (0 : Int64)))])) _
        refine XS.ifYes X2.here hx rfl (pc0 := 23) (pc' := 28) rfl (hb hby d13_23) rfl (XT.ll_eq_t c6) (by decide) (by decide) ?_
        show Steps p.tables e below (T2.setTop (mkF m 28 #[.val (.int p0), .val (.int p1), .val (.long (v13_1 p0 p1)), .second, .val (.long (v13_2 p0 p1)), .second] [])) _
        refine XS.iloadN X2.here hx rfl (hb hby d13_28) rfl ?_
        show Steps p.tables e below (T2.setTop (mkF m 29 #[.val (.int p0), .val (.int p1), .val (.long (v13_1 p0 p1)), .second, .val (.long (v13_2 p0 p1)), .second] [(.int p0)])) _
        refine XT.iconstV X2.here hx rfl (1 : Int32) (hb hby d13_29) (by decide) ?_
        show Steps p.tables e below (T2.setTop (mkF m 30 #[.val (.int p0), .val (.int p1), .val (.long (v13_1 p0 p1)), .second, .val (.long (v13_2 p0 p1)), .second] [(.int (1 : Int32)), (.int p0)])) _
        refine XS.iand X2.here hx rfl (hb hby d13_30) rfl ?_
        show Steps p.tables e below (T2.setTop (mkF m 31 #[.val (.int p0), .val (.int p1), .val (.long (v13_1 p0 p1)), .second, .val (.long (v13_2 p0 p1)), .second] [(.int (p0 &&& (1 : Int32)))])) _
        refine XS.iloadN X2.here hx rfl (hb hby d13_31) rfl ?_
        show Steps p.tables e below (T2.setTop (mkF m 32 #[.val (.int p0), .val (.int p1), .val (.long (v13_1 p0 p1)), .second, .val (.long (v13_2 p0 p1)), .second] [(.int p1), (.int (p0 &&& (1 : Int32)))])) _
        refine XT.iconstV X2.here hx rfl (1 : Int32) (hb hby d13_32) (by decide) ?_
        show Steps p.tables e below (T2.setTop (mkF m 33 #[.val (.int p0), .val (.int p1), .val (.long (v13_1 p0 p1)), .second, .val (.long (v13_2 p0 p1)), .second] [(.int (1 : Int32)), (.int p1), (.int (p0 &&& (1 : Int32)))])) _
        refine XS.iand X2.here hx rfl (hb hby d13_33) rfl ?_
        exact k
      clear pre5
      have pre9 : ∀ t, Steps p.tables e below (T2.setTop (mkF m 42 #[.val (.int p0), .val (.int p1), .val (.long (v13_1 p0 p1)), .second, .val (.long (v13_2 p0 p1)), .second] [(.int (v13_5 p0 p1))])) t → Steps p.tables e below (s₁.setTop (entryFrame m #[(.int p0), (.int p1)] 6)) t := by
        intro t k
        by_cases c8 : (v13_3 p0 p1) = (v13_4 p0 p1)
        · skip
          rw [show (v13_5 p0 p1) = (1 : Int32) from (if_pos c8)] at k
          refine pre7 t ?_
          show Steps p.tables e below (T2.setTop (mkF m 34 #[.val (.int p0), .val (.int p1), .val (.long (v13_1 p0 p1)), .second, .val (.long (v13_2 p0 p1)), .second] [(.int (p1 &&& (1 : Int32))), (.int (p0 &&& (1 : Int32)))])) _
          refine XS.icmpNo X2.here hx rfl (hb hby d13_34) rfl (XT.ii_ne_f c8) ?_
          show Steps p.tables e below (T2.setTop (mkF m 37 #[.val (.int p0), .val (.int p1), .val (.long (v13_1 p0 p1)), .second, .val (.long (v13_2 p0 p1)), .second] [])) _
          refine XT.iconstV X2.here hx rfl (1 : Int32) (hb hby d13_37) (by decide) ?_
          show Steps p.tables e below (T2.setTop (mkF m 38 #[.val (.int p0), .val (.int p1), .val (.long (v13_1 p0 p1)), .second, .val (.long (v13_2 p0 p1)), .second] [(.int (1 : Int32))])) _
          refine XS.goto X2.here hx rfl (pc0 := 38) (pc' := 42) rfl (hb hby d13_38) (by decide) (by decide) ?_
          exact k
        · skip
          rw [show (v13_5 p0 p1) = (0 : Int32) from (if_neg c8)] at k
          refine pre7 t ?_
          show Steps p.tables e below (T2.setTop (mkF m 34 #[.val (.int p0), .val (.int p1), .val (.long (v13_1 p0 p1)), .second, .val (.long (v13_2 p0 p1)), .second] [(.int (p1 &&& (1 : Int32))), (.int (p0 &&& (1 : Int32)))])) _
          refine XS.icmpYes X2.here hx rfl (pc0 := 34) (pc' := 41) rfl (hb hby d13_34) rfl (XT.ii_ne_t c8) (by decide) (by decide) ?_
          show Steps p.tables e below (T2.setTop (mkF m 41 #[.val (.int p0), .val (.int p1), .val (.long (v13_1 p0 p1)), .second, .val (.long (v13_2 p0 p1)), .second] [])) _
          refine XT.iconstV X2.here hx rfl (0 : Int32) (hb hby d13_41) (by decide) ?_
          exact k
      obtain ⟨fs, hr, hrun, hended, hW, hsame⟩ := X2.leave (v := some (.int (nar .boolean (v13_5 p0 p1)))) (fun h => by rw [Bd.returns] at h; cases h) hlk
      refine ⟨_, _, pre9 _ ?_, hrun, hended, _, _, rfl, ?_, ⟨_, rfl⟩, hW, hsame.mono (by decide) (by decide)⟩
      · skip
        show Steps p.tables e below (T2.setTop (mkF m 42 #[.val (.int p0), .val (.int p1), .val (.long (v13_1 p0 p1)), .second, .val (.long (v13_2 p0 p1)), .second] [(.int (v13_5 p0 p1))])) _
        exact retN X2 hx (t := .boolean) Bd.returns (by simp) (hb hby d13_42) hr
      · skip
        show Q13 Z p0 p1 h0 n0 _ T2.heap _
        rw [e2]
        exact ⟨N2, (by rw [show (f13 p0 p1) = (nar .boolean (v13_5 p0 p1)) from ((if_pos c4).trans (if_pos c6))]), rfl⟩
    · skip
      obtain ⟨fs, hr, hrun, hended, hW, hsame⟩ := X2.leave (v := some (.int (1 : Int32))) (fun h => by rw [Bd.returns] at h; cases h) hlk
      refine ⟨_, _, pre5 _ ?_, hrun, hended, _, _, rfl, ?_, ⟨_, rfl⟩, hW, hsame.mono (by decide) (by decide)⟩
      · skip
        show Steps p.tables e below (T2.setTop (mkF m 23 #[.val (.int p0), .val (.int p1), .val (.long (v13_1 p0 p1)), .second, .val (.long (v13_2 p0 p1)), .second] [(.int (XT.cmpL (v13_1 p0 p1) (0 : Int64)))])) _
        refine XS.ifNo X2.here hx rfl (hb hby d13_23) rfl (XT.ll_eq_f c6) ?_
        show Steps p.tables e below (T2.setTop (mkF m 26 #[.val (.int p0), .val (.int p1), .val (.long (v13_1 p0 p1)), .second, .val (.long (v13_2 p0 p1)), .second] [])) _
        refine XT.iconstV X2.here hx rfl (1 : Int32) (hb hby d13_26) (by decide) ?_
        show Steps p.tables e below (T2.setTop (mkF m 27 #[.val (.int p0), .val (.int p1), .val (.long (v13_1 p0 p1)), .second, .val (.long (v13_2 p0 p1)), .second] [(.int (1 : Int32))])) _
        exact retN X2 hx (t := .boolean) Bd.returns (by simp) (hb hby d13_27) hr
      · skip
        show Q13 Z p0 p1 h0 n0 _ T2.heap _
        rw [e2]
        exact ⟨N2, (by rw [show (f13 p0 p1) = (1 : Int32) from ((if_pos c4).trans (if_neg c6))]), rfl⟩
  · skip
    obtain ⟨fs, hr, hrun, hended, hW, hsame⟩ := X2.leave (v := some (.int (0 : Int32))) (fun h => by rw [Bd.returns] at h; cases h) hlk
    refine ⟨_, _, pre3 _ ?_, hrun, hended, _, _, rfl, ?_, ⟨_, rfl⟩, hW, hsame.mono (by decide) (by decide)⟩
    · skip
      show Steps p.tables e below (T2.setTop (mkF m 15 #[.val (.int p0), .val (.int p1), .val (.long (v13_1 p0 p1)), .second, .val (.long (v13_2 p0 p1)), .second] [(.int (XT.cmpL (v13_1 p0 p1) (v13_2 p0 p1)))])) _
      refine XS.ifNo X2.here hx rfl (hb hby d13_15) rfl (XT.ll_eq_f c4) ?_
      show Steps p.tables e below (T2.setTop (mkF m 18 #[.val (.int p0), .val (.int p1), .val (.long (v13_1 p0 p1)), .second, .val (.long (v13_2 p0 p1)), .second] [])) _
      refine XT.iconstV X2.here hx rfl (0 : Int32) (hb hby d13_18) (by decide) ?_
      show Steps p.tables e below (T2.setTop (mkF m 19 #[.val (.int p0), .val (.int p1), .val (.long (v13_1 p0 p1)), .second, .val (.long (v13_2 p0 p1)), .second] [(.int (0 : Int32))])) _
      exact retN X2 hx (t := .boolean) Bd.returns (by simp) (hb hby d13_19) hr
    · skip
      show Q13 Z p0 p1 h0 n0 _ T2.heap _
      rw [e2]
      exact ⟨N2, (by rw [show (f13 p0 p1) = (0 : Int32) from (if_neg c4)]), rfl⟩
theorem pd__D_D : parseMethodDescriptor "(D)D" = some ⟨[.double], some .double⟩ := by decide +kernel
theorem d4_0 : decode jdk_117_method_8_code 0 = .ok (.dload_n 0, 1) := by decide +kernel
theorem d4_1 : decode jdk_117_method_8_code 1 = .ok (.invokestatic 38, 3) := by decide +kernel
theorem d4_4 : decode jdk_117_method_8_code 4 = .ok (.ldc2_w 111, 3) := by decide +kernel
theorem d4_7 : decode jdk_117_method_8_code 7 = .ok (.dcmp .g, 1) := by decide +kernel
theorem d4_8 : decode jdk_117_method_8_code 8 = .ok (.ifCond .gt 7, 3) := by decide +kernel
theorem d4_11 : decode jdk_117_method_8_code 11 = .ok (.iconst 1, 1) := by decide +kernel
theorem d4_12 : decode jdk_117_method_8_code 12 = .ok (.goto 4, 3) := by decide +kernel
theorem d4_15 : decode jdk_117_method_8_code 15 = .ok (.iconst 0, 1) := by decide +kernel
theorem d4_16 : decode jdk_117_method_8_code 16 = .ok (.ireturn, 1) := by decide +kernel
theorem pn_java_lang_Double : plainName "java/lang/Double" = true := by first | (simp [plainName, overriddenIn]; done) | decide +kernel
theorem ef_4 (m : MethodId) (d0 : UInt64) : entryFrame m #[(.double d0)] 2 = mkF m 0 #[.val (.double d0), .second] [] := by first | (simp [entryFrame, mkF, argsToLocals, Value.category]; done) | rfl
def v4_1 (d0 : UInt64) : UInt64 := (9218868437227405311 : UInt64)
def v4_2 (d0 : UInt64) : UInt64 := (d0 &&& 0x7fffffffffffffff)
def v4_3 (d0 : UInt64) : Int32 := (cmpValue (FP.dcmp (v4_2 d0) (v4_1 d0)) .g)
def v4_4 (d0 : UInt64) : Int32 := (if (0 : Int32) < (v4_3 d0) then (0 : Int32) else (1 : Int32))
def f4 (d0 : UInt64) : Int32 := (nar .boolean (v4_4 d0))
def Q4 (Z : State) (d0 : UInt64) (h0 : Heap) (n0 : Nat) (v : Option Value) (h : Heap) (L : List Loc) : Prop := Fr n0 L ∧ v = some (.int (f4 d0)) ∧ h = h0
set_option maxRecDepth 65536 in
set_option maxHeartbeats 40000000 in
theorem rm4 (l : Launch) (Z : State) (a0 : Array Value) (hw : ∀ d ∈ tables_1, d.before a0 Z = true) (ws : List Jvm.Cond) (d0 : UInt64) (h0 : Heap) (n0 : Nat) (Z0 : n0 ≤ h0.size) (hy0 : Jvm.Free.Fl.NoNaN64 d0) :
    MetFree l (⟨"java/lang/Double", "isFinite", "(D)Z"⟩ : MethodName) (head1 (Jvm.Cond.code (⟨"java/lang/Double", "isFinite", "(D)Z"⟩ : MethodName) jdk_117_method_8_code 2 (some .boolean) :: ws) ({ frames := 1, cells := 0, slots := 0, locals := 13 } : Room)) (fun a U => a = #[(.double d0)] ∧ Z.Warmed39 U.vm ∧ U.heap = h0) (fun _ _ _ _ _ => True) (fun _ U o U' => ∃ v L, o = .returned v ∧ Q4 Z d0 h0 n0 v U'.heap L ∧ FrameEnd U o U' L ({ frames := 1, cells := 0, slots := 0, locals := 13 } : Room).cells ({ frames := 1, cells := 0, slots := 0, locals := 13 } : Room).slots) := by
  refine MetFree.of_bodySF (plainFor_of_name pn_java_lang_Double) hisR ?_
  intro p e s m args below meth c s₁ Bd hml0 hP hK
  obtain ⟨rfl, hZ, hh⟩ := hP
  have hx := Bd.exec
  have hby := Bd.bytes
  have hml : c.maxLocals = 2 := hml0
  have hown : s.vm.findClass "java/lang/Double" = some m.cls := findClass_of_methodNamed Bd.named
  have hnm := (name_of_methodNamed Bd.named Bd.method).1
  have hlk := BodyLoose.notSynchronized Bd
  have X0 : Stand p l e ({ frames := 1, cells := 0, slots := 0, locals := 13 } : Room) s m #[(.double d0)] below meth c s₁ [] 0 0 := Stand.of_body Bd
  have e0 : s₁.heap = h0 := by rw [← hh, Bd.state]; rfl
  have N0 := Fr.nil n0
  have pre0 : ∀ t, Steps p.tables e below (s₁.setTop (mkF m 0 #[.val (.double d0), .second] [])) t → Steps p.tables e below (s₁.setTop (entryFrame m #[(.double d0)] 2)) t := fun t k => castTop (ef_4 m d0) k
  obtain ⟨vr1, _, ⟨T1, L1, k1, n1⟩, -, X1, ⟨Lc1, hQ1, l1, y1, z1⟩, st1⟩ := Jvm.LawKit.callS X0 hx (y := (⟨"java/lang/Math", "abs", "(D)D"⟩ : MethodName)) hown (mvT hZ (wd hw 18 rfl)) (mvT hZ (wd hw 19 rfl)) (mvT hZ (wd hw 20 rfl)) (mvT hZ (wd hw 21 rfl)) (by decide) (own_absBack (W := 0) (mvT hZ (wd hw 21 rfl)) (mvT hZ (wd hw 19 rfl)) (by decide) (by decide) d0 hy0 h0 n0) (g := (mkF m 1 #[.val (.double d0), .second] [(.double d0)])) rfl (by rw [hml]; rfl) (argsL := [(.double d0)]) (rest := []) (lenOf pd__D_D rfl) rfl (by show 2 * 0 + _ ≤ _; exact Nat.le_of_eq rfl) (hb hby d4_1) (fun _ _ => ⟨rfl, e0, (by decide : 0 + 0 ≤ _), (by decide : 0 + 0 ≤ _)⟩)
  dsimp only [Pt.U, Pt.locs, Pt.cells, Pt.slots] at X1 l1 y1 z1 st1 hQ1
  replace X1 := own_stand X1 l1 y1 z1
  clear l1 y1 z1
  have N1q := (show _ ∧ _ ∧ _ from hQ1).1
  have hv1 := (show _ ∧ _ ∧ _ from hQ1).2.1
  have e1 := (show _ ∧ _ ∧ _ from hQ1).2.2
  clear hQ1
  subst hv1
  have N1 := Fr.app N0 N1q
  have pre2 : ∀ t, Steps p.tables e below (T1.setTop (mkF m 8 #[.val (.double d0), .second] [(.int (cmpValue (FP.dcmp (v4_2 d0) (v4_1 d0)) .g))])) t → Steps p.tables e below (s₁.setTop (entryFrame m #[(.double d0)] 2)) t := by
    intro t k
    refine pre0 t ?_
    show Steps p.tables e below (s₁.setTop (mkF m 0 #[.val (.double d0), .second] [])) _
    refine XS.dloadN X0.here hx rfl (hb hby d4_0) rfl ?_
    show Steps p.tables e below (s₁.setTop (mkF m 1 #[.val (.double d0), .second] [(.double d0)])) _
    refine st1 _ ?_
    show Steps p.tables e below (T1.setTop (mkF m 4 #[.val (.double d0), .second] [(.double (d0 &&& 0x7fffffffffffffff))])) _
    refine own_ldc2D X1 hx hown (mvT hZ (wd hw 22 rfl)) rfl (hb hby d4_4) ?_
    show Steps p.tables e below (T1.setTop (mkF m 7 #[.val (.double d0), .second] [(.double (9218868437227405311 : UInt64)), (.double (d0 &&& 0x7fffffffffffffff))])) _
    refine XS.dcmpS X1.here hx rfl (hb hby d4_7) rfl rfl ?_
    exact k
  clear pre0 st1
  have pre4 : ∀ t, Steps p.tables e below (T1.setTop (mkF m 16 #[.val (.double d0), .second] [(.int (v4_4 d0))])) t → Steps p.tables e below (s₁.setTop (entryFrame m #[(.double d0)] 2)) t := by
    intro t k
    by_cases c3 : (0 : Int32) < (v4_3 d0)
    · skip
      rw [show (v4_4 d0) = (0 : Int32) from (if_pos c3)] at k
      refine pre2 t ?_
      show Steps p.tables e below (T1.setTop (mkF m 8 #[.val (.double d0), .second] [(.int (cmpValue (FP.dcmp (v4_2 d0) (v4_1 d0)) .g))])) _
      refine XS.ifYes X1.here hx rfl (pc0 := 8) (pc' := 15) rfl (hb hby d4_8) rfl (XT.i0_gt_t c3) (by decide) (by decide) ?_
      show Steps p.tables e below (T1.setTop (mkF m 15 #[.val (.double d0), .second] [])) _
      refine XT.iconstV X1.here hx rfl (0 : Int32) (hb hby d4_15) (by decide) ?_
      exact k
    · skip
      rw [show (v4_4 d0) = (1 : Int32) from (if_neg c3)] at k
      refine pre2 t ?_
      show Steps p.tables e below (T1.setTop (mkF m 8 #[.val (.double d0), .second] [(.int (cmpValue (FP.dcmp (v4_2 d0) (v4_1 d0)) .g))])) _
      refine XS.ifNo X1.here hx rfl (hb hby d4_8) rfl (XT.i0_gt_f c3) ?_
      show Steps p.tables e below (T1.setTop (mkF m 11 #[.val (.double d0), .second] [])) _
      refine XT.iconstV X1.here hx rfl (1 : Int32) (hb hby d4_11) (by decide) ?_
      show Steps p.tables e below (T1.setTop (mkF m 12 #[.val (.double d0), .second] [(.int (1 : Int32))])) _
      refine XS.goto X1.here hx rfl (pc0 := 12) (pc' := 16) rfl (hb hby d4_12) (by decide) (by decide) ?_
      exact k
  obtain ⟨fs, hr, hrun, hended, hW, hsame⟩ := X1.leave (v := some (.int (nar .boolean (v4_4 d0)))) (fun h => by rw [Bd.returns] at h; cases h) hlk
  refine ⟨_, _, pre4 _ ?_, hrun, hended, _, _, rfl, ?_, ⟨_, rfl⟩, hW, hsame.mono (by decide) (by decide)⟩
  · skip
    show Steps p.tables e below (T1.setTop (mkF m 16 #[.val (.double d0), .second] [(.int (v4_4 d0))])) _
    exact retN X1 hx (t := .boolean) Bd.returns (by simp) (hb hby d4_16) hr
  · skip
    show Q4 Z d0 h0 n0 _ T1.heap _
    rw [e1]
    exact ⟨N1, rfl, rfl⟩
theorem d9_0 : decode jdk_117_method_6_code 0 = .ok (.dload_n 0, 1) := by decide +kernel
theorem d9_1 : decode jdk_117_method_6_code 1 = .ok (.dload_n 0, 1) := by decide +kernel
theorem d9_2 : decode jdk_117_method_6_code 2 = .ok (.dcmp .l, 1) := by decide +kernel
theorem d9_3 : decode jdk_117_method_6_code 3 = .ok (.ifCond .eq 7, 3) := by decide +kernel
theorem d9_6 : decode jdk_117_method_6_code 6 = .ok (.iconst 1, 1) := by decide +kernel
theorem d9_7 : decode jdk_117_method_6_code 7 = .ok (.goto 4, 3) := by decide +kernel
theorem d9_10 : decode jdk_117_method_6_code 10 = .ok (.iconst 0, 1) := by decide +kernel
theorem d9_11 : decode jdk_117_method_6_code 11 = .ok (.ireturn, 1) := by decide +kernel
theorem ef_9 (m : MethodId) (d0 : UInt64) : entryFrame m #[(.double d0)] 2 = mkF m 0 #[.val (.double d0), .second] [] := by first | (simp [entryFrame, mkF, argsToLocals, Value.category]; done) | rfl
def v9_1 (d0 : UInt64) : Int32 := (cmpValue (FP.dcmp d0 d0) .l)
def v9_2 (d0 : UInt64) : Int32 := (if (v9_1 d0) = (0 : Int32) then (0 : Int32) else (1 : Int32))
def f9 (d0 : UInt64) : Int32 := (nar .boolean (v9_2 d0))
def Q9 (Z : State) (d0 : UInt64) (h0 : Heap) (n0 : Nat) (v : Option Value) (h : Heap) (L : List Loc) : Prop := Fr n0 L ∧ v = some (.int (f9 d0)) ∧ h = h0
set_option maxRecDepth 65536 in
set_option maxHeartbeats 40000000 in
theorem rm9 (l : Launch) (Z : State) (a0 : Array Value) (hw : ∀ d ∈ tables_1, d.before a0 Z = true) (ws : List Jvm.Cond) (d0 : UInt64) (h0 : Heap) (n0 : Nat) (Z0 : n0 ≤ h0.size) :
    MetFree l (⟨"java/lang/Double", "isNaN", "(D)Z"⟩ : MethodName) (head1 (Jvm.Cond.code (⟨"java/lang/Double", "isNaN", "(D)Z"⟩ : MethodName) jdk_117_method_6_code 2 (some .boolean) :: ws) ({ frames := 0, cells := 0, slots := 0, locals := 0 } : Room)) (fun a U => a = #[(.double d0)] ∧ Z.Warmed39 U.vm ∧ U.heap = h0) (fun _ _ _ _ _ => True) (fun _ U o U' => ∃ v L, o = .returned v ∧ Q9 Z d0 h0 n0 v U'.heap L ∧ FrameEnd U o U' L ({ frames := 0, cells := 0, slots := 0, locals := 0 } : Room).cells ({ frames := 0, cells := 0, slots := 0, locals := 0 } : Room).slots) := by
  refine MetFree.of_bodySF (plainFor_of_name pn_java_lang_Double) hisR ?_
  intro p e s m args below meth c s₁ Bd hml0 hP hK
  obtain ⟨rfl, hZ, hh⟩ := hP
  have hx := Bd.exec
  have hby := Bd.bytes
  have hml : c.maxLocals = 2 := hml0
  have hown : s.vm.findClass "java/lang/Double" = some m.cls := findClass_of_methodNamed Bd.named
  have hnm := (name_of_methodNamed Bd.named Bd.method).1
  have hlk := BodyLoose.notSynchronized Bd
  have X0 : Stand p l e ({ frames := 0, cells := 0, slots := 0, locals := 0 } : Room) s m #[(.double d0)] below meth c s₁ [] 0 0 := Stand.of_body Bd
  have e0 : s₁.heap = h0 := by rw [← hh, Bd.state]; rfl
  have N0 := Fr.nil n0
  have pre0 : ∀ t, Steps p.tables e below (s₁.setTop (mkF m 0 #[.val (.double d0), .second] [])) t → Steps p.tables e below (s₁.setTop (entryFrame m #[(.double d0)] 2)) t := fun t k => castTop (ef_9 m d0) k
  have pre1 : ∀ t, Steps p.tables e below (s₁.setTop (mkF m 3 #[.val (.double d0), .second] [(.int (cmpValue (FP.dcmp d0 d0) .l))])) t → Steps p.tables e below (s₁.setTop (entryFrame m #[(.double d0)] 2)) t := by
    intro t k
    refine pre0 t ?_
    show Steps p.tables e below (s₁.setTop (mkF m 0 #[.val (.double d0), .second] [])) _
    refine XS.dloadN X0.here hx rfl (hb hby d9_0) rfl ?_
    show Steps p.tables e below (s₁.setTop (mkF m 1 #[.val (.double d0), .second] [(.double d0)])) _
    refine XS.dloadN X0.here hx rfl (hb hby d9_1) rfl ?_
    show Steps p.tables e below (s₁.setTop (mkF m 2 #[.val (.double d0), .second] [(.double d0), (.double d0)])) _
    refine XS.dcmpS X0.here hx rfl (hb hby d9_2) rfl rfl ?_
    exact k
  clear pre0
  have pre3 : ∀ t, Steps p.tables e below (s₁.setTop (mkF m 11 #[.val (.double d0), .second] [(.int (v9_2 d0))])) t → Steps p.tables e below (s₁.setTop (entryFrame m #[(.double d0)] 2)) t := by
    intro t k
    by_cases c2 : (v9_1 d0) = (0 : Int32)
    · skip
      rw [show (v9_2 d0) = (0 : Int32) from (if_pos c2)] at k
      refine pre1 t ?_
      show Steps p.tables e below (s₁.setTop (mkF m 3 #[.val (.double d0), .second] [(.int (cmpValue (FP.dcmp d0 d0) .l))])) _
      refine XS.ifYes X0.here hx rfl (pc0 := 3) (pc' := 10) rfl (hb hby d9_3) rfl (XT.i0_eq_t c2) (by decide) (by decide) ?_
      show Steps p.tables e below (s₁.setTop (mkF m 10 #[.val (.double d0), .second] [])) _
      refine XT.iconstV X0.here hx rfl (0 : Int32) (hb hby d9_10) (by decide) ?_
      exact k
    · skip
      rw [show (v9_2 d0) = (1 : Int32) from (if_neg c2)] at k
      refine pre1 t ?_
      show Steps p.tables e below (s₁.setTop (mkF m 3 #[.val (.double d0), .second] [(.int (cmpValue (FP.dcmp d0 d0) .l))])) _
      refine XS.ifNo X0.here hx rfl (hb hby d9_3) rfl (XT.i0_eq_f c2) ?_
      show Steps p.tables e below (s₁.setTop (mkF m 6 #[.val (.double d0), .second] [])) _
      refine XT.iconstV X0.here hx rfl (1 : Int32) (hb hby d9_6) (by decide) ?_
      show Steps p.tables e below (s₁.setTop (mkF m 7 #[.val (.double d0), .second] [(.int (1 : Int32))])) _
      refine XS.goto X0.here hx rfl (pc0 := 7) (pc' := 11) rfl (hb hby d9_7) (by decide) (by decide) ?_
      exact k
  obtain ⟨fs, hr, hrun, hended, hW, hsame⟩ := X0.leave (v := some (.int (nar .boolean (v9_2 d0)))) (fun h => by rw [Bd.returns] at h; cases h) hlk
  refine ⟨_, _, pre3 _ ?_, hrun, hended, _, _, rfl, ?_, ⟨_, rfl⟩, hW, hsame.mono (by decide) (by decide)⟩
  · skip
    show Steps p.tables e below (s₁.setTop (mkF m 11 #[.val (.double d0), .second] [(.int (v9_2 d0))])) _
    exact retN X0 hx (t := .boolean) Bd.returns (by simp) (hb hby d9_11) hr
  · skip
    show Q9 Z d0 h0 n0 _ s₁.heap _
    rw [e0]
    exact ⟨N0, rfl, rfl⟩
theorem pd__D_Z : parseMethodDescriptor "(D)Z" = some ⟨[.double], some .boolean⟩ := by decide +kernel
theorem d8_0 : decode jdk_117_method_23_code 0 = .ok (.dload_n 0, 1) := by decide +kernel
theorem d8_1 : decode jdk_117_method_23_code 1 = .ok (.invokestatic 122, 3) := by decide +kernel
theorem d8_4 : decode jdk_117_method_23_code 4 = .ok (.ifCond .ne 8, 3) := by decide +kernel
theorem d8_7 : decode jdk_117_method_23_code 7 = .ok (.dload_n 0, 1) := by decide +kernel
theorem d8_8 : decode jdk_117_method_23_code 8 = .ok (.invokestatic 134, 3) := by decide +kernel
theorem d8_11 : decode jdk_117_method_23_code 11 = .ok (.lreturn, 1) := by decide +kernel
theorem ef_8 (m : MethodId) (d0 : UInt64) : entryFrame m #[(.double d0)] 2 = mkF m 0 #[.val (.double d0), .second] [] := by first | (simp [entryFrame, mkF, argsToLocals, Value.category]; done) | rfl
def v8_1 (d0 : UInt64) : Int32 := (f9 d0)
def f8 (d0 : UInt64) : Int64 := (d0).toInt64
def Q8 (Z : State) (d0 : UInt64) (h0 : Heap) (n0 : Nat) (v : Option Value) (h : Heap) (L : List Loc) : Prop := Fr n0 L ∧ v = some (.long (f8 d0)) ∧ h = h0
set_option maxRecDepth 65536 in
set_option maxHeartbeats 40000000 in
theorem rm8 (l : Launch) (Z : State) (a0 : Array Value) (hw : ∀ d ∈ tables_1, d.before a0 Z = true) (ws : List Jvm.Cond) (d0 : UInt64) (h0 : Heap) (n0 : Nat) (Z0 : n0 ≤ h0.size) (hy0 : (v8_1 d0) = (0 : Int32)) :
    MetFree l (⟨"java/lang/Double", "doubleToLongBits", "(D)J"⟩ : MethodName) (head1 (Jvm.Cond.code (⟨"java/lang/Double", "doubleToLongBits", "(D)J"⟩ : MethodName) jdk_117_method_23_code 2 (some .long) :: ws) ({ frames := 1, cells := 0, slots := 0, locals := 15 } : Room)) (fun a U => a = #[(.double d0)] ∧ Z.Warmed39 U.vm ∧ U.heap = h0) (fun _ _ _ _ _ => True) (fun _ U o U' => ∃ v L, o = .returned v ∧ Q8 Z d0 h0 n0 v U'.heap L ∧ FrameEnd U o U' L ({ frames := 1, cells := 0, slots := 0, locals := 15 } : Room).cells ({ frames := 1, cells := 0, slots := 0, locals := 15 } : Room).slots) := by
  refine MetFree.of_bodySF (plainFor_of_name pn_java_lang_Double) hisR ?_
  intro p e s m args below meth c s₁ Bd hml0 hP hK
  obtain ⟨rfl, hZ, hh⟩ := hP
  have hx := Bd.exec
  have hby := Bd.bytes
  have hml : c.maxLocals = 2 := hml0
  have hown : s.vm.findClass "java/lang/Double" = some m.cls := findClass_of_methodNamed Bd.named
  have hnm := (name_of_methodNamed Bd.named Bd.method).1
  have hlk := BodyLoose.notSynchronized Bd
  have X0 : Stand p l e ({ frames := 1, cells := 0, slots := 0, locals := 15 } : Room) s m #[(.double d0)] below meth c s₁ [] 0 0 := Stand.of_body Bd
  have e0 : s₁.heap = h0 := by rw [← hh, Bd.state]; rfl
  have N0 := Fr.nil n0
  have pre0 : ∀ t, Steps p.tables e below (s₁.setTop (mkF m 0 #[.val (.double d0), .second] [])) t → Steps p.tables e below (s₁.setTop (entryFrame m #[(.double d0)] 2)) t := fun t k => castTop (ef_8 m d0) k
  obtain ⟨vr1, _, ⟨T1, L1, k1, n1⟩, -, X1, ⟨Lc1, hQ1, l1, y1, z1⟩, st1⟩ := Jvm.LawKit.callS X0 hx (y := (⟨"java/lang/Double", "isNaN", "(D)Z"⟩ : MethodName)) hown (mvT hZ (wd hw 44 rfl)) (mvT hZ (wd hw 45 rfl)) (mvT hZ (wd hw 16 rfl)) (mvT hZ (wd hw 46 rfl)) (by decide) (backOf (W := 0) (rm9 l Z a0 hw [] d0 h0 n0 Z0) hZ (wd hw 46 rfl) (wd hw 16 rfl) (by decide) (by decide)) (g := (mkF m 1 #[.val (.double d0), .second] [(.double d0)])) rfl (by rw [hml]; rfl) (argsL := [(.double d0)]) (rest := []) (lenOf pd__D_Z rfl) rfl (by show 2 * 0 + _ ≤ _; exact Nat.le_of_eq rfl) (hb hby d8_1) (fun _ _ => ⟨rfl, e0, (by decide : 0 + 0 ≤ _), (by decide : 0 + 0 ≤ _)⟩)
  dsimp only [Pt.U, Pt.locs, Pt.cells, Pt.slots] at X1 l1 y1 z1 st1 hQ1
  replace X1 := own_stand X1 l1 y1 z1
  clear l1 y1 z1
  have N1q := (show _ ∧ _ ∧ _ from hQ1).1
  have hv1 := (show _ ∧ _ ∧ _ from hQ1).2.1
  have e1 := (show _ ∧ _ ∧ _ from hQ1).2.2
  clear hQ1
  subst hv1
  have N1 := Fr.app N0 N1q
  obtain ⟨T2, X2, e20, st2⟩ := own_raw X1 hx hown (mvT hZ (wd hw 47 rfl)) (mvT hZ (wd hw 49 rfl)) (mvT hZ (wd hw 48 rfl)) (mvT hZ (wd hw 16 rfl)) (g := (mkF m 8 #[.val (.double d0), .second] [(.double d0)])) rfl (by rw [hml]; rfl) rfl (hb hby d8_8) (by decide) (Nat.le_of_ble_eq_true rfl)
  have e2 := e20.trans e1
  obtain ⟨fs, hr, hrun, hended, hW, hsame⟩ := X2.leave (v := some (.long (d0).toInt64)) (fun h => by rw [Bd.returns] at h; cases h) hlk
  refine ⟨_, _, pre0 _ ?_, hrun, hended, _, _, rfl, ?_, ⟨_, rfl⟩, hW, hsame.mono (by decide) (by decide)⟩
  · skip
    show Steps p.tables e below (s₁.setTop (mkF m 0 #[.val (.double d0), .second] [])) _
    refine XS.dloadN X0.here hx rfl (hb hby d8_0) rfl ?_
    show Steps p.tables e below (s₁.setTop (mkF m 1 #[.val (.double d0), .second] [(.double d0)])) _
    refine st1 _ ?_
    show Steps p.tables e below (T1.setTop (mkF m 4 #[.val (.double d0), .second] [(.int (f9 d0))])) _
    refine XS.ifNo X1.here hx rfl (hb hby d8_4) rfl (XT.i0_ne_f hy0) ?_
    show Steps p.tables e below (T1.setTop (mkF m 7 #[.val (.double d0), .second] [])) _
    refine XS.dloadN X1.here hx rfl (hb hby d8_7) rfl ?_
    show Steps p.tables e below (T1.setTop (mkF m 8 #[.val (.double d0), .second] [(.double d0)])) _
    refine st2 _ ?_
    show Steps p.tables e below (T2.setTop (mkF m 11 #[.val (.double d0), .second] [(.long (d0).toInt64)])) _
    exact X2.lreturnOut hx Bd.returns (hb hby d8_11) hr
  · skip
    show Q8 Z d0 h0 n0 _ T2.heap _
    rw [e2]
    exact ⟨N1, rfl, rfl⟩
theorem pd__D_J : parseMethodDescriptor "(D)J" = some ⟨[.double], some .long⟩ := by decide +kernel
theorem d7_0 : decode jdk_117_method_27_code 0 = .ok (.dload_n 0, 1) := by decide +kernel
theorem d7_1 : decode jdk_117_method_27_code 1 = .ok (.dload_n 2, 1) := by decide +kernel
theorem d7_2 : decode jdk_117_method_27_code 2 = .ok (.dcmp .g, 1) := by decide +kernel
theorem d7_3 : decode jdk_117_method_27_code 3 = .ok (.ifCond .ge 5, 3) := by decide +kernel
theorem d7_6 : decode jdk_117_method_27_code 6 = .ok (.iconst (-1), 1) := by decide +kernel
theorem d7_7 : decode jdk_117_method_27_code 7 = .ok (.ireturn, 1) := by decide +kernel
theorem d7_8 : decode jdk_117_method_27_code 8 = .ok (.dload_n 0, 1) := by decide +kernel
theorem d7_9 : decode jdk_117_method_27_code 9 = .ok (.dload_n 2, 1) := by decide +kernel
theorem d7_10 : decode jdk_117_method_27_code 10 = .ok (.dcmp .l, 1) := by decide +kernel
theorem d7_11 : decode jdk_117_method_27_code 11 = .ok (.ifCond .le 5, 3) := by decide +kernel
theorem d7_14 : decode jdk_117_method_27_code 14 = .ok (.iconst 1, 1) := by decide +kernel
theorem d7_15 : decode jdk_117_method_27_code 15 = .ok (.ireturn, 1) := by decide +kernel
theorem d7_16 : decode jdk_117_method_27_code 16 = .ok (.dload_n 0, 1) := by decide +kernel
theorem d7_17 : decode jdk_117_method_27_code 17 = .ok (.invokestatic 46, 3) := by decide +kernel
theorem d7_20 : decode jdk_117_method_27_code 20 = .ok (.lstore 4, 2) := by decide +kernel
theorem d7_22 : decode jdk_117_method_27_code 22 = .ok (.dload_n 2, 1) := by decide +kernel
theorem d7_23 : decode jdk_117_method_27_code 23 = .ok (.invokestatic 46, 3) := by decide +kernel
theorem d7_26 : decode jdk_117_method_27_code 26 = .ok (.lstore 6, 2) := by decide +kernel
theorem d7_28 : decode jdk_117_method_27_code 28 = .ok (.lload 4, 2) := by decide +kernel
theorem d7_30 : decode jdk_117_method_27_code 30 = .ok (.lload 6, 2) := by decide +kernel
theorem d7_32 : decode jdk_117_method_27_code 32 = .ok (.lcmp, 1) := by decide +kernel
theorem d7_33 : decode jdk_117_method_27_code 33 = .ok (.ifCond .ne 7, 3) := by decide +kernel
theorem d7_36 : decode jdk_117_method_27_code 36 = .ok (.iconst 0, 1) := by decide +kernel
theorem d7_37 : decode jdk_117_method_27_code 37 = .ok (.goto 16, 3) := by decide +kernel
theorem d7_40 : decode jdk_117_method_27_code 40 = .ok (.lload 4, 2) := by decide +kernel
theorem d7_42 : decode jdk_117_method_27_code 42 = .ok (.lload 6, 2) := by decide +kernel
theorem d7_44 : decode jdk_117_method_27_code 44 = .ok (.lcmp, 1) := by decide +kernel
theorem d7_45 : decode jdk_117_method_27_code 45 = .ok (.ifCond .ge 7, 3) := by decide +kernel
theorem d7_48 : decode jdk_117_method_27_code 48 = .ok (.iconst (-1), 1) := by decide +kernel
theorem d7_49 : decode jdk_117_method_27_code 49 = .ok (.goto 4, 3) := by decide +kernel
theorem d7_52 : decode jdk_117_method_27_code 52 = .ok (.iconst 1, 1) := by decide +kernel
theorem d7_53 : decode jdk_117_method_27_code 53 = .ok (.ireturn, 1) := by decide +kernel
theorem ef_7 (m : MethodId) (d0 : UInt64) (d1 : UInt64) : entryFrame m #[(.double d0), (.double d1)] 8 = mkF m 0 #[.val (.double d0), .second, .val (.double d1), .second, .unset, .unset, .unset, .unset] [] := by first | (simp [entryFrame, mkF, argsToLocals, Value.category]; done) | rfl
def v7_1 (d0 : UInt64) (d1 : UInt64) : Int32 := (cmpValue (FP.dcmp d0 d1) .g)
def v7_2 (d0 : UInt64) (d1 : UInt64) : Int32 := (cmpValue (FP.dcmp d0 d1) .l)
def v7_3 (d0 : UInt64) (d1 : UInt64) : Int64 := (f8 d0)
def v7_4 (d0 : UInt64) (d1 : UInt64) : Int64 := (f8 d1)
def v7_5 (d0 : UInt64) (d1 : UInt64) : Int32 := (if (v7_3 d0 d1) = (v7_4 d0 d1) then (0 : Int32) else (if (v7_3 d0 d1) < (v7_4 d0 d1) then (-1 : Int32) else (1 : Int32)))
def f7 (d0 : UInt64) (d1 : UInt64) : Int32 := (if (v7_1 d0 d1) < (0 : Int32) then (-1 : Int32) else (if (0 : Int32) < (v7_2 d0 d1) then (1 : Int32) else (v7_5 d0 d1)))
def Q7 (Z : State) (d0 : UInt64) (d1 : UInt64) (h0 : Heap) (n0 : Nat) (v : Option Value) (h : Heap) (L : List Loc) : Prop := Fr n0 L ∧ v = some (.int (f7 d0 d1)) ∧ h = h0
set_option maxRecDepth 65536 in
set_option maxHeartbeats 40000000 in
theorem rm7 (l : Launch) (Z : State) (a0 : Array Value) (hw : ∀ d ∈ tables_1, d.before a0 Z = true) (ws : List Jvm.Cond) (d0 : UInt64) (d1 : UInt64) (h0 : Heap) (n0 : Nat) (Z0 : n0 ≤ h0.size) (hy0 : (v8_1 d0) = (0 : Int32)) (hy1 : (v8_1 d1) = (0 : Int32)) :
    MetFree l (⟨"java/lang/Double", "compare", "(DD)I"⟩ : MethodName) (head1 (Jvm.Cond.code (⟨"java/lang/Double", "compare", "(DD)I"⟩ : MethodName) jdk_117_method_27_code 8 (some .int) :: ws) ({ frames := 2, cells := 0, slots := 0, locals := 28 } : Room)) (fun a U => a = #[(.double d0), (.double d1)] ∧ Z.Warmed39 U.vm ∧ U.heap = h0) (fun _ _ _ _ _ => True) (fun _ U o U' => ∃ v L, o = .returned v ∧ Q7 Z d0 d1 h0 n0 v U'.heap L ∧ FrameEnd U o U' L ({ frames := 2, cells := 0, slots := 0, locals := 28 } : Room).cells ({ frames := 2, cells := 0, slots := 0, locals := 28 } : Room).slots) := by
  refine MetFree.of_bodySF (plainFor_of_name pn_java_lang_Double) hisR ?_
  intro p e s m args below meth c s₁ Bd hml0 hP hK
  obtain ⟨rfl, hZ, hh⟩ := hP
  have hx := Bd.exec
  have hby := Bd.bytes
  have hml : c.maxLocals = 8 := hml0
  have hown : s.vm.findClass "java/lang/Double" = some m.cls := findClass_of_methodNamed Bd.named
  have hnm := (name_of_methodNamed Bd.named Bd.method).1
  have hlk := BodyLoose.notSynchronized Bd
  have X0 : Stand p l e ({ frames := 2, cells := 0, slots := 0, locals := 28 } : Room) s m #[(.double d0), (.double d1)] below meth c s₁ [] 0 0 := Stand.of_body Bd
  have e0 : s₁.heap = h0 := by rw [← hh, Bd.state]; rfl
  have N0 := Fr.nil n0
  have pre0 : ∀ t, Steps p.tables e below (s₁.setTop (mkF m 0 #[.val (.double d0), .second, .val (.double d1), .second, .unset, .unset, .unset, .unset] [])) t → Steps p.tables e below (s₁.setTop (entryFrame m #[(.double d0), (.double d1)] 8)) t := fun t k => castTop (ef_7 m d0 d1) k
  have pre1 : ∀ t, Steps p.tables e below (s₁.setTop (mkF m 3 #[.val (.double d0), .second, .val (.double d1), .second, .unset, .unset, .unset, .unset] [(.int (cmpValue (FP.dcmp d0 d1) .g))])) t → Steps p.tables e below (s₁.setTop (entryFrame m #[(.double d0), (.double d1)] 8)) t := by
    intro t k
    refine pre0 t ?_
    show Steps p.tables e below (s₁.setTop (mkF m 0 #[.val (.double d0), .second, .val (.double d1), .second, .unset, .unset, .unset, .unset] [])) _
    refine XS.dloadN X0.here hx rfl (hb hby d7_0) rfl ?_
    show Steps p.tables e below (s₁.setTop (mkF m 1 #[.val (.double d0), .second, .val (.double d1), .second, .unset, .unset, .unset, .unset] [(.double d0)])) _
    refine XS.dloadN X0.here hx rfl (hb hby d7_1) rfl ?_
    show Steps p.tables e below (s₁.setTop (mkF m 2 #[.val (.double d0), .second, .val (.double d1), .second, .unset, .unset, .unset, .unset] [(.double d1), (.double d0)])) _
    refine XS.dcmpS X0.here hx rfl (hb hby d7_2) rfl rfl ?_
    exact k
  clear pre0
  by_cases c2 : (v7_1 d0 d1) < (0 : Int32)
  · skip
    obtain ⟨fs, hr, hrun, hended, hW, hsame⟩ := X0.leave (v := some (.int (-1 : Int32))) (fun h => by rw [Bd.returns] at h; cases h) hlk
    refine ⟨_, _, pre1 _ ?_, hrun, hended, _, _, rfl, ?_, ⟨_, rfl⟩, hW, hsame.mono (by decide) (by decide)⟩
    · skip
      show Steps p.tables e below (s₁.setTop (mkF m 3 #[.val (.double d0), .second, .val (.double d1), .second, .unset, .unset, .unset, .unset] [(.int (cmpValue (FP.dcmp d0 d1) .g))])) _
      refine XS.ifNo X0.here hx rfl (hb hby d7_3) rfl (XT.i0_ge_f c2) ?_
      show Steps p.tables e below (s₁.setTop (mkF m 6 #[.val (.double d0), .second, .val (.double d1), .second, .unset, .unset, .unset, .unset] [])) _
      refine XT.iconstV X0.here hx rfl (-1 : Int32) (hb hby d7_6) (by decide) ?_
      show Steps p.tables e below (s₁.setTop (mkF m 7 #[.val (.double d0), .second, .val (.double d1), .second, .unset, .unset, .unset, .unset] [(.int (-1 : Int32))])) _
      exact retI X0 hx Bd.returns (hb hby d7_7) hr
    · skip
      show Q7 Z d0 d1 h0 n0 _ s₁.heap _
      rw [e0]
      exact ⟨N0, (by rw [show (f7 d0 d1) = (-1 : Int32) from (if_pos c2)]), rfl⟩
  · skip
    have pre3 : ∀ t, Steps p.tables e below (s₁.setTop (mkF m 11 #[.val (.double d0), .second, .val (.double d1), .second, .unset, .unset, .unset, .unset] [(.int (cmpValue (FP.dcmp d0 d1) .l))])) t → Steps p.tables e below (s₁.setTop (entryFrame m #[(.double d0), (.double d1)] 8)) t := by
      intro t k
      refine pre1 t ?_
      show Steps p.tables e below (s₁.setTop (mkF m 3 #[.val (.double d0), .second, .val (.double d1), .second, .unset, .unset, .unset, .unset] [(.int (cmpValue (FP.dcmp d0 d1) .g))])) _
      refine XS.ifYes X0.here hx rfl (pc0 := 3) (pc' := 8) rfl (hb hby d7_3) rfl (XT.i0_ge_t c2) (by decide) (by decide) ?_
      show Steps p.tables e below (s₁.setTop (mkF m 8 #[.val (.double d0), .second, .val (.double d1), .second, .unset, .unset, .unset, .unset] [])) _
      refine XS.dloadN X0.here hx rfl (hb hby d7_8) rfl ?_
      show Steps p.tables e below (s₁.setTop (mkF m 9 #[.val (.double d0), .second, .val (.double d1), .second, .unset, .unset, .unset, .unset] [(.double d0)])) _
      refine XS.dloadN X0.here hx rfl (hb hby d7_9) rfl ?_
      show Steps p.tables e below (s₁.setTop (mkF m 10 #[.val (.double d0), .second, .val (.double d1), .second, .unset, .unset, .unset, .unset] [(.double d1), (.double d0)])) _
      refine XS.dcmpS X0.here hx rfl (hb hby d7_10) rfl rfl ?_
      exact k
    clear pre1
    by_cases c4 : (0 : Int32) < (v7_2 d0 d1)
    · skip
      obtain ⟨fs, hr, hrun, hended, hW, hsame⟩ := X0.leave (v := some (.int (1 : Int32))) (fun h => by rw [Bd.returns] at h; cases h) hlk
      refine ⟨_, _, pre3 _ ?_, hrun, hended, _, _, rfl, ?_, ⟨_, rfl⟩, hW, hsame.mono (by decide) (by decide)⟩
      · skip
        show Steps p.tables e below (s₁.setTop (mkF m 11 #[.val (.double d0), .second, .val (.double d1), .second, .unset, .unset, .unset, .unset] [(.int (cmpValue (FP.dcmp d0 d1) .l))])) _
        refine XS.ifNo X0.here hx rfl (hb hby d7_11) rfl (XT.i0_le_f c4) ?_
        show Steps p.tables e below (s₁.setTop (mkF m 14 #[.val (.double d0), .second, .val (.double d1), .second, .unset, .unset, .unset, .unset] [])) _
        refine XT.iconstV X0.here hx rfl (1 : Int32) (hb hby d7_14) (by decide) ?_
        show Steps p.tables e below (s₁.setTop (mkF m 15 #[.val (.double d0), .second, .val (.double d1), .second, .unset, .unset, .unset, .unset] [(.int (1 : Int32))])) _
        exact retI X0 hx Bd.returns (hb hby d7_15) hr
      · skip
        show Q7 Z d0 d1 h0 n0 _ s₁.heap _
        rw [e0]
        exact ⟨N0, (by rw [show (f7 d0 d1) = (1 : Int32) from ((if_neg c2).trans (if_pos c4))]), rfl⟩
    · skip
      obtain ⟨vr5, _, ⟨T5, L5, k5, n5⟩, -, X5, ⟨Lc5, hQ5, l5, y5, z5⟩, st5⟩ := Jvm.LawKit.callS X0 hx (y := (⟨"java/lang/Double", "doubleToLongBits", "(D)J"⟩ : MethodName)) hown (mvT hZ (wd hw 41 rfl)) (mvT hZ (wd hw 42 rfl)) (mvT hZ (wd hw 16 rfl)) (mvT hZ (wd hw 43 rfl)) (by decide) (backOf (W := 0) (rm8 l Z a0 hw [] d0 h0 n0 Z0 hy0) hZ (wd hw 43 rfl) (wd hw 16 rfl) (by decide) (by decide)) (g := (mkF m 17 #[.val (.double d0), .second, .val (.double d1), .second, .unset, .unset, .unset, .unset] [(.double d0)])) rfl (by rw [hml]; rfl) (argsL := [(.double d0)]) (rest := []) (lenOf pd__D_J rfl) rfl (by show 2 * 0 + _ ≤ _; exact Nat.le_of_eq rfl) (hb hby d7_17) (fun _ _ => ⟨rfl, e0, (by decide : 0 + 0 ≤ _), (by decide : 0 + 0 ≤ _)⟩)
      dsimp only [Pt.U, Pt.locs, Pt.cells, Pt.slots] at X5 l5 y5 z5 st5 hQ5
      replace X5 := own_stand X5 l5 y5 z5
      clear l5 y5 z5
      have N5q := (show _ ∧ _ ∧ _ from hQ5).1
      have hv5 := (show _ ∧ _ ∧ _ from hQ5).2.1
      have e5 := (show _ ∧ _ ∧ _ from hQ5).2.2
      clear hQ5
      subst hv5
      have N5 := Fr.app N0 N5q
      obtain ⟨vr6, _, ⟨T6, L6, k6, n6⟩, -, X6, ⟨Lc6, hQ6, l6, y6, z6⟩, st6⟩ := Jvm.LawKit.callS X5 hx (y := (⟨"java/lang/Double", "doubleToLongBits", "(D)J"⟩ : MethodName)) hown (mvT hZ (wd hw 41 rfl)) (mvT hZ (wd hw 42 rfl)) (mvT hZ (wd hw 16 rfl)) (mvT hZ (wd hw 43 rfl)) (by decide) (backOf (W := 0) (rm8 l Z a0 hw [] d1 h0 n0 Z0 hy1) hZ (wd hw 43 rfl) (wd hw 16 rfl) (by decide) (by decide)) (g := (mkF m 23 #[.val (.double d0), .second, .val (.double d1), .second, .val (.long (v7_3 d0 d1)), .second, .unset, .unset] [(.double d1)])) rfl (by rw [hml]; rfl) (argsL := [(.double d1)]) (rest := []) (lenOf pd__D_J rfl) rfl (by show 2 * 0 + _ ≤ _; exact Nat.le_of_eq rfl) (hb hby d7_23) (fun _ _ => ⟨rfl, e5, (by decide : 0 + 0 ≤ _), (by decide : 0 + 0 ≤ _)⟩)
      dsimp only [Pt.U, Pt.locs, Pt.cells, Pt.slots] at X6 l6 y6 z6 st6 hQ6
      replace X6 := own_stand X6 l6 y6 z6
      clear l6 y6 z6
      have N6q := (show _ ∧ _ ∧ _ from hQ6).1
      have hv6 := (show _ ∧ _ ∧ _ from hQ6).2.1
      have e6 := (show _ ∧ _ ∧ _ from hQ6).2.2
      clear hQ6
      subst hv6
      have N6 := Fr.app N5 N6q
      have pre7 : ∀ t, Steps p.tables e below (T6.setTop (mkF m 33 #[.val (.double d0), .second, .val (.double d1), .second, .val (.long (v7_3 d0 d1)), .second, .val (.long (v7_4 d0 d1)), .second] [(.int (XT.cmpL (v7_3 d0 d1) (v7_4 d0 d1)))])) t → Steps p.tables e below (s₁.setTop (entryFrame m #[(.double d0), (.double d1)] 8)) t := by
        intro t k
        refine pre3 t ?_
        show Steps p.tables e below (s₁.setTop (mkF m 11 #[.val (.double d0), .second, .val (.double d1), .second, .unset, .unset, .unset, .unset] [(.int (cmpValue (FP.dcmp d0 d1) .l))])) _
        refine XS.ifYes X0.here hx rfl (pc0 := 11) (pc' := 16) rfl (hb hby d7_11) rfl (XT.i0_le_t c4) (by decide) (by decide) ?_
        show Steps p.tables e below (s₁.setTop (mkF m 16 #[.val (.double d0), .second, .val (.double d1), .second, .unset, .unset, .unset, .unset] [])) _
        refine XS.dloadN X0.here hx rfl (hb hby d7_16) rfl ?_
        show Steps p.tables e below (s₁.setTop (mkF m 17 #[.val (.double d0), .second, .val (.double d1), .second, .unset, .unset, .unset, .unset] [(.double d0)])) _
        refine st5 _ ?_
        show Steps p.tables e below (T5.setTop (mkF m 20 #[.val (.double d0), .second, .val (.double d1), .second, .unset, .unset, .unset, .unset] [(.long (f8 d0))])) _
        refine XT.lstore X5.here hx rfl (hb hby d7_20) rfl (l' := #[.val (.double d0), .second, .val (.double d1), .second, .val (.long (v7_3 d0 d1)), .second, .unset, .unset]) rfl ?_
        show Steps p.tables e below (T5.setTop (mkF m 22 #[.val (.double d0), .second, .val (.double d1), .second, .val (.long (v7_3 d0 d1)), .second, .unset, .unset] [])) _
        refine XS.dloadN X5.here hx rfl (hb hby d7_22) rfl ?_
        show Steps p.tables e below (T5.setTop (mkF m 23 #[.val (.double d0), .second, .val (.double d1), .second, .val (.long (v7_3 d0 d1)), .second, .unset, .unset] [(.double d1)])) _
        refine st6 _ ?_
        show Steps p.tables e below (T6.setTop (mkF m 26 #[.val (.double d0), .second, .val (.double d1), .second, .val (.long (v7_3 d0 d1)), .second, .unset, .unset] [(.long (f8 d1))])) _
        refine XT.lstore X6.here hx rfl (hb hby d7_26) rfl (l' := #[.val (.double d0), .second, .val (.double d1), .second, .val (.long (v7_3 d0 d1)), .second, .val (.long (v7_4 d0 d1)), .second]) rfl ?_
        show Steps p.tables e below (T6.setTop (mkF m 28 #[.val (.double d0), .second, .val (.double d1), .second, .val (.long (v7_3 d0 d1)), .second, .val (.long (v7_4 d0 d1)), .second] [])) _
        refine XT.lload X6.here hx rfl (hb hby d7_28) rfl ?_
        show Steps p.tables e below (T6.setTop (mkF m 30 #[.val (.double d0), .second, .val (.double d1), .second, .val (.long (v7_3 d0 d1)), .second, .val (.long (v7_4 d0 d1)), .second] [(.long (v7_3 d0 d1))])) _
        refine XT.lload X6.here hx rfl (hb hby d7_30) rfl ?_
        show Steps p.tables e below (T6.setTop (mkF m 32 #[.val (.double d0), .second, .val (.double d1), .second, .val (.long (v7_3 d0 d1)), .second, .val (.long (v7_4 d0 d1)), .second] [(.long (v7_4 d0 d1)), (.long (v7_3 d0 d1))])) _
        refine XT.lcmp X6.here hx rfl (hb hby d7_32) rfl ?_
        exact k
      clear pre3 st5 st6
      have pre11 : ∀ t, Steps p.tables e below (T6.setTop (mkF m 53 #[.val (.double d0), .second, .val (.double d1), .second, .val (.long (v7_3 d0 d1)), .second, .val (.long (v7_4 d0 d1)), .second] [(.int (v7_5 d0 d1))])) t → Steps p.tables e below (s₁.setTop (entryFrame m #[(.double d0), (.double d1)] 8)) t := by
        intro t k
        by_cases c8 : (v7_3 d0 d1) = (v7_4 d0 d1)
        · skip
          rw [show (v7_5 d0 d1) = (0 : Int32) from (if_pos c8)] at k
          refine pre7 t ?_
          show Steps p.tables e below (T6.setTop (mkF m 33 #[.val (.double d0), .second, .val (.double d1), .second, .val (.long (v7_3 d0 d1)), .second, .val (.long (v7_4 d0 d1)), .second] [(.int (XT.cmpL (v7_3 d0 d1) (v7_4 d0 d1)))])) _
          refine XS.ifNo X6.here hx rfl (hb hby d7_33) rfl (XT.ll_ne_f c8) ?_
          show Steps p.tables e below (T6.setTop (mkF m 36 #[.val (.double d0), .second, .val (.double d1), .second, .val (.long (v7_3 d0 d1)), .second, .val (.long (v7_4 d0 d1)), .second] [])) _
          refine XT.iconstV X6.here hx rfl (0 : Int32) (hb hby d7_36) (by decide) ?_
          show Steps p.tables e below (T6.setTop (mkF m 37 #[.val (.double d0), .second, .val (.double d1), .second, .val (.long (v7_3 d0 d1)), .second, .val (.long (v7_4 d0 d1)), .second] [(.int (0 : Int32))])) _
          refine XS.goto X6.here hx rfl (pc0 := 37) (pc' := 53) rfl (hb hby d7_37) (by decide) (by decide) ?_
          exact k
        · skip
          have pre9 : ∀ t, Steps p.tables e below (T6.setTop (mkF m 45 #[.val (.double d0), .second, .val (.double d1), .second, .val (.long (v7_3 d0 d1)), .second, .val (.long (v7_4 d0 d1)), .second] [(.int (XT.cmpL (v7_3 d0 d1) (v7_4 d0 d1)))])) t → Steps p.tables e below (s₁.setTop (entryFrame m #[(.double d0), (.double d1)] 8)) t := by
            intro t k
            refine pre7 t ?_
            show Steps p.tables e below (T6.setTop (mkF m 33 #[.val (.double d0), .second, .val (.double d1), .second, .val (.long (v7_3 d0 d1)), .second, .val (.long (v7_4 d0 d1)), .second] [(.int (XT.cmpL (v7_3 d0 d1) (v7_4 d0 d1)))])) _
            refine XS.ifYes X6.here hx rfl (pc0 := 33) (pc' := 40) rfl (hb hby d7_33) rfl (XT.ll_ne_t c8) (by decide) (by decide) ?_
            show Steps p.tables e below (T6.setTop (mkF m 40 #[.val (.double d0), .second, .val (.double d1), .second, .val (.long (v7_3 d0 d1)), .second, .val (.long (v7_4 d0 d1)), .second] [])) _
            refine XT.lload X6.here hx rfl (hb hby d7_40) rfl ?_
            show Steps p.tables e below (T6.setTop (mkF m 42 #[.val (.double d0), .second, .val (.double d1), .second, .val (.long (v7_3 d0 d1)), .second, .val (.long (v7_4 d0 d1)), .second] [(.long (v7_3 d0 d1))])) _
            refine XT.lload X6.here hx rfl (hb hby d7_42) rfl ?_
            show Steps p.tables e below (T6.setTop (mkF m 44 #[.val (.double d0), .second, .val (.double d1), .second, .val (.long (v7_3 d0 d1)), .second, .val (.long (v7_4 d0 d1)), .second] [(.long (v7_4 d0 d1)), (.long (v7_3 d0 d1))])) _
            refine XT.lcmp X6.here hx rfl (hb hby d7_44) rfl ?_
            exact k
          clear pre7
          by_cases c10 : (v7_3 d0 d1) < (v7_4 d0 d1)
          · skip
            rw [show (v7_5 d0 d1) = (-1 : Int32) from ((if_neg c8).trans (if_pos c10))] at k
            refine pre9 t ?_
            show Steps p.tables e below (T6.setTop (mkF m 45 #[.val (.double d0), .second, .val (.double d1), .second, .val (.long (v7_3 d0 d1)), .second, .val (.long (v7_4 d0 d1)), .second] [(.int (XT.cmpL (v7_3 d0 d1) (v7_4 d0 d1)))])) _
            refine XS.ifNo X6.here hx rfl (hb hby d7_45) rfl (XT.ll_ge_f c10) ?_
            show Steps p.tables e below (T6.setTop (mkF m 48 #[.val (.double d0), .second, .val (.double d1), .second, .val (.long (v7_3 d0 d1)), .second, .val (.long (v7_4 d0 d1)), .second] [])) _
            refine XT.iconstV X6.here hx rfl (-1 : Int32) (hb hby d7_48) (by decide) ?_
            show Steps p.tables e below (T6.setTop (mkF m 49 #[.val (.double d0), .second, .val (.double d1), .second, .val (.long (v7_3 d0 d1)), .second, .val (.long (v7_4 d0 d1)), .second] [(.int (-1 : Int32))])) _
            refine XS.goto X6.here hx rfl (pc0 := 49) (pc' := 53) rfl (hb hby d7_49) (by decide) (by decide) ?_
            exact k
          · skip
            rw [show (v7_5 d0 d1) = (1 : Int32) from ((if_neg c8).trans (if_neg c10))] at k
            refine pre9 t ?_
            show Steps p.tables e below (T6.setTop (mkF m 45 #[.val (.double d0), .second, .val (.double d1), .second, .val (.long (v7_3 d0 d1)), .second, .val (.long (v7_4 d0 d1)), .second] [(.int (XT.cmpL (v7_3 d0 d1) (v7_4 d0 d1)))])) _
            refine XS.ifYes X6.here hx rfl (pc0 := 45) (pc' := 52) rfl (hb hby d7_45) rfl (XT.ll_ge_t c10) (by decide) (by decide) ?_
            show Steps p.tables e below (T6.setTop (mkF m 52 #[.val (.double d0), .second, .val (.double d1), .second, .val (.long (v7_3 d0 d1)), .second, .val (.long (v7_4 d0 d1)), .second] [])) _
            refine XT.iconstV X6.here hx rfl (1 : Int32) (hb hby d7_52) (by decide) ?_
            exact k
      obtain ⟨fs, hr, hrun, hended, hW, hsame⟩ := X6.leave (v := some (.int (v7_5 d0 d1))) (fun h => by rw [Bd.returns] at h; cases h) hlk
      refine ⟨_, _, pre11 _ ?_, hrun, hended, _, _, rfl, ?_, ⟨_, rfl⟩, hW, hsame.mono (by decide) (by decide)⟩
      · skip
        show Steps p.tables e below (T6.setTop (mkF m 53 #[.val (.double d0), .second, .val (.double d1), .second, .val (.long (v7_3 d0 d1)), .second, .val (.long (v7_4 d0 d1)), .second] [(.int (v7_5 d0 d1))])) _
        exact retI X6 hx Bd.returns (hb hby d7_53) hr
      · skip
        show Q7 Z d0 d1 h0 n0 _ T6.heap _
        rw [e6]
        exact ⟨N6, (by rw [show (f7 d0 d1) = (v7_5 d0 d1) from ((if_neg c2).trans (if_neg c4))]), rfl⟩
theorem d2_0 : decode prog_22_method_1_code 0 = .ok (.aload_n 0, 1) := by decide +kernel
theorem d2_1 : decode prog_22_method_1_code 1 = .ok (.invokespecial 1, 3) := by decide +kernel
theorem d2_4 : decode prog_22_method_1_code 4 = .ok (.iload_n 2, 1) := by decide +kernel
theorem d2_5 : decode prog_22_method_1_code 5 = .ok (.ifCond .ge 17, 3) := by decide +kernel
theorem d2_22 : decode prog_22_method_1_code 22 = .ok (.dload_n 3, 1) := by decide +kernel
theorem d2_23 : decode prog_22_method_1_code 23 = .ok (.invokestatic 16, 3) := by decide +kernel
theorem d2_26 : decode prog_22_method_1_code 26 = .ok (.ifCond .eq 11, 3) := by decide +kernel
theorem d2_29 : decode prog_22_method_1_code 29 = .ok (.dload 5, 2) := by decide +kernel
theorem d2_31 : decode prog_22_method_1_code 31 = .ok (.invokestatic 16, 3) := by decide +kernel
theorem d2_34 : decode prog_22_method_1_code 34 = .ok (.ifCond .ne 19, 3) := by decide +kernel
theorem d2_53 : decode prog_22_method_1_code 53 = .ok (.aload_n 0, 1) := by decide +kernel
theorem d2_54 : decode prog_22_method_1_code 54 = .ok (.iload_n 1, 1) := by decide +kernel
theorem d2_55 : decode prog_22_method_1_code 55 = .ok (.putfield 25, 3) := by decide +kernel
theorem d2_58 : decode prog_22_method_1_code 58 = .ok (.aload_n 0, 1) := by decide +kernel
theorem d2_59 : decode prog_22_method_1_code 59 = .ok (.iload_n 2, 1) := by decide +kernel
theorem d2_60 : decode prog_22_method_1_code 60 = .ok (.putfield 31, 3) := by decide +kernel
theorem d2_63 : decode prog_22_method_1_code 63 = .ok (.aload_n 0, 1) := by decide +kernel
theorem d2_64 : decode prog_22_method_1_code 64 = .ok (.dload_n 3, 1) := by decide +kernel
theorem d2_65 : decode prog_22_method_1_code 65 = .ok (.putfield 34, 3) := by decide +kernel
theorem d2_68 : decode prog_22_method_1_code 68 = .ok (.aload_n 0, 1) := by decide +kernel
theorem d2_69 : decode prog_22_method_1_code 69 = .ok (.dload 5, 2) := by decide +kernel
theorem d2_71 : decode prog_22_method_1_code 71 = .ok (.putfield 38, 3) := by decide +kernel
theorem d2_74 : decode prog_22_method_1_code 74 = .ok (.return_, 1) := by decide +kernel
theorem pn_com_example_khonsu_khonsu_trajectory_TrajectoryRow : plainName "com/example/khonsu/khonsu/trajectory/TrajectoryRow" = true := by first | (simp [plainName, overriddenIn]; done) | decide +kernel
theorem ef_2 (m : MethodId) (o0 : Addr) (p1 : Int32) (p2 : Int32) (d3 : UInt64) (d4 : UInt64) : entryFrame m #[(.ref o0), (.int p1), (.int p2), (.double d3), (.double d4)] 7 = mkF m 0 #[.val (.ref o0), .val (.int p1), .val (.int p2), .val (.double d3), .second, .val (.double d4), .second] [] := by first | (simp [entryFrame, mkF, argsToLocals, Value.category]; done) | rfl
def v2_1 (p1 : Int32) (p2 : Int32) (d3 : UInt64) (d4 : UInt64) : Int32 := (f4 d3)
def v2_2 (p1 : Int32) (p2 : Int32) (d3 : UInt64) (d4 : UInt64) : Int32 := (f4 d4)
def Q2 (Z : State) (o0 : Addr) (p1 : Int32) (p2 : Int32) (d3 : UInt64) (d4 : UInt64) (u0_id : Value) (u1_frame : Value) (u2_x : Value) (u3_y : Value) (h0 : Heap) (n0 : Nat) (v : Option Value) (h : Heap) (L : List Loc) : Prop := Fr n0 L ∧ v = none ∧ Keep h0 h [o0] ∧ Exa Z h o0 "com/example/khonsu/khonsu/trajectory/TrajectoryRow" ∧ Fld Z h o0 "com/example/khonsu/khonsu/trajectory/TrajectoryRow" "id" "I" (.int p1) ∧ Fld Z h o0 "com/example/khonsu/khonsu/trajectory/TrajectoryRow" "frame" "I" (.int p2) ∧ Fld Z h o0 "com/example/khonsu/khonsu/trajectory/TrajectoryRow" "x" "D" (.double d3) ∧ Fld Z h o0 "com/example/khonsu/khonsu/trajectory/TrajectoryRow" "y" "D" (.double d4)
set_option maxRecDepth 65536 in
set_option maxHeartbeats 40000000 in
theorem rm2 (l : Launch) (Z : State) (a0 : Array Value) (hw : ∀ d ∈ tables_1, d.before a0 Z = true) (ws : List Jvm.Cond) (o0 : Addr) (p1 : Int32) (p2 : Int32) (d3 : UInt64) (d4 : UInt64) (u0_id : Value) (u1_frame : Value) (u2_x : Value) (u3_y : Value) (h0 : Heap) (n0 : Nat) (Z0 : n0 ≤ h0.size) (hy0 : ¬ (p2 < (0 : Int32))) (hy1 : Jvm.Free.Fl.NoNaN64 d3) (hy2 : ¬ ((v2_1 p1 p2 d3 d4) = (0 : Int32))) (hy3 : Jvm.Free.Fl.NoNaN64 d4) (hy4 : ¬ ((v2_2 p1 p2 d3 d4) = (0 : Int32))) (E_o0 : Exa Z h0 o0 "com/example/khonsu/khonsu/trajectory/TrajectoryRow") (F_id_o0 : Fld Z h0 o0 "com/example/khonsu/khonsu/trajectory/TrajectoryRow" "id" "I" u0_id) (g_o0 : n0 ≤ o0) (F_frame_o0 : Fld Z h0 o0 "com/example/khonsu/khonsu/trajectory/TrajectoryRow" "frame" "I" u1_frame) (F_x_o0 : Fld Z h0 o0 "com/example/khonsu/khonsu/trajectory/TrajectoryRow" "x" "D" u2_x) (F_y_o0 : Fld Z h0 o0 "com/example/khonsu/khonsu/trajectory/TrajectoryRow" "y" "D" u3_y) :
    MetFree l (⟨"com/example/khonsu/khonsu/trajectory/TrajectoryRow", "<init>", "(IIDD)V"⟩ : MethodName) (head1 (Jvm.Cond.code (⟨"com/example/khonsu/khonsu/trajectory/TrajectoryRow", "<init>", "(IIDD)V"⟩ : MethodName) prog_22_method_1_code 7 none :: ws) ({ frames := 2, cells := 0, slots := 0, locals := 26 } : Room)) (fun a U => a = #[(.ref o0), (.int p1), (.int p2), (.double d3), (.double d4)] ∧ Z.Warmed39 U.vm ∧ U.heap = h0) (fun _ _ _ _ _ => True) (fun _ U o U' => ∃ v L, o = .returned v ∧ Q2 Z o0 p1 p2 d3 d4 u0_id u1_frame u2_x u3_y h0 n0 v U'.heap L ∧ FrameEnd U o U' L ({ frames := 2, cells := 0, slots := 0, locals := 26 } : Room).cells ({ frames := 2, cells := 0, slots := 0, locals := 26 } : Room).slots) := by
  refine MetFree.of_bodySF (plainFor_of_name pn_com_example_khonsu_khonsu_trajectory_TrajectoryRow) hisR ?_
  intro p e s m args below meth c s₁ Bd hml0 hP hK
  obtain ⟨rfl, hZ, hh⟩ := hP
  have hx := Bd.exec
  have hby := Bd.bytes
  have hml : c.maxLocals = 7 := hml0
  have hown : s.vm.findClass "com/example/khonsu/khonsu/trajectory/TrajectoryRow" = some m.cls := findClass_of_methodNamed Bd.named
  have hnm := (name_of_methodNamed Bd.named Bd.method).1
  have hlk := BodyLoose.notSynchronized Bd
  have X0 : Stand p l e ({ frames := 2, cells := 0, slots := 0, locals := 26 } : Room) s m #[(.ref o0), (.int p1), (.int p2), (.double d3), (.double d4)] below meth c s₁ [] 0 0 := Stand.of_body Bd
  have e0 : s₁.heap = h0 := by rw [← hh, Bd.state]; rfl
  have N0 := Fr.nil n0
  have pre0 : ∀ t, Steps p.tables e below (s₁.setTop (mkF m 0 #[.val (.ref o0), .val (.int p1), .val (.int p2), .val (.double d3), .second, .val (.double d4), .second] [])) t → Steps p.tables e below (s₁.setTop (entryFrame m #[(.ref o0), (.int p1), (.int p2), (.double d3), (.double d4)] 7)) t := fun t k => castTop (ef_2 m o0 p1 p2 d3 d4) k
  obtain ⟨T1, X1, e1, st1⟩ := initO X0 hx hZ hown (wd hw 11 rfl) (wd hw 12 rfl) (wd hw 13 rfl) e0 (g := (mkF m 1 #[.val (.ref o0), .val (.int p1), .val (.int p2), .val (.double d3), .second, .val (.double d4), .second] [(.ref o0)])) rfl (by rw [hml]; rfl) rfl (hb hby d2_1) (by decide) (W := 0) (by show 2 * 0 + _ ≤ _; exact Nat.le_of_eq rfl) (by decide)
  obtain ⟨vr2, _, ⟨T2, L2, k2, n2⟩, -, X2, ⟨Lc2, hQ2, l2, y2, z2⟩, st2⟩ := Jvm.LawKit.callS X1 hx (y := (⟨"java/lang/Double", "isFinite", "(D)Z"⟩ : MethodName)) hown (mvT hZ (wd hw 14 rfl)) (mvT hZ (wd hw 15 rfl)) (mvT hZ (wd hw 16 rfl)) (mvT hZ (wd hw 17 rfl)) (by decide) (backOf (W := 0) (rm4 l Z a0 hw [] d3 h0 n0 Z0 hy1) hZ (wd hw 17 rfl) (wd hw 16 rfl) (by decide) (by decide)) (g := (mkF m 23 #[.val (.ref o0), .val (.int p1), .val (.int p2), .val (.double d3), .second, .val (.double d4), .second] [(.double d3)])) rfl (by rw [hml]; rfl) (argsL := [(.double d3)]) (rest := []) (lenOf pd__D_Z rfl) rfl (by show 2 * 0 + _ ≤ _; exact Nat.le_of_eq rfl) (hb hby d2_23) (fun _ _ => ⟨rfl, e1, (by decide : 0 + 0 ≤ _), (by decide : 0 + 0 ≤ _)⟩)
  dsimp only [Pt.U, Pt.locs, Pt.cells, Pt.slots] at X2 l2 y2 z2 st2 hQ2
  replace X2 := own_stand X2 l2 y2 z2
  clear l2 y2 z2
  have N2q := (show _ ∧ _ ∧ _ from hQ2).1
  have hv2 := (show _ ∧ _ ∧ _ from hQ2).2.1
  have e2 := (show _ ∧ _ ∧ _ from hQ2).2.2
  clear hQ2
  subst hv2
  have N2 := Fr.app N0 N2q
  obtain ⟨vr3, _, ⟨T3, L3, k3, n3⟩, -, X3, ⟨Lc3, hQ3, l3, y3, z3⟩, st3⟩ := Jvm.LawKit.callS X2 hx (y := (⟨"java/lang/Double", "isFinite", "(D)Z"⟩ : MethodName)) hown (mvT hZ (wd hw 14 rfl)) (mvT hZ (wd hw 15 rfl)) (mvT hZ (wd hw 16 rfl)) (mvT hZ (wd hw 17 rfl)) (by decide) (backOf (W := 0) (rm4 l Z a0 hw [] d4 h0 n0 Z0 hy3) hZ (wd hw 17 rfl) (wd hw 16 rfl) (by decide) (by decide)) (g := (mkF m 31 #[.val (.ref o0), .val (.int p1), .val (.int p2), .val (.double d3), .second, .val (.double d4), .second] [(.double d4)])) rfl (by rw [hml]; rfl) (argsL := [(.double d4)]) (rest := []) (lenOf pd__D_Z rfl) rfl (by show 2 * 0 + _ ≤ _; exact Nat.le_of_eq rfl) (hb hby d2_31) (fun _ _ => ⟨rfl, e2, (by decide : 0 + 0 ≤ _), (by decide : 0 + 0 ≤ _)⟩)
  dsimp only [Pt.U, Pt.locs, Pt.cells, Pt.slots] at X3 l3 y3 z3 st3 hQ3
  replace X3 := own_stand X3 l3 y3 z3
  clear l3 y3 z3
  have N3q := (show _ ∧ _ ∧ _ from hQ3).1
  have hv3 := (show _ ∧ _ ∧ _ from hQ3).2.1
  have e3 := (show _ ∧ _ ∧ _ from hQ3).2.2
  clear hQ3
  subst hv3
  have N3 := Fr.app N2 N3q
  obtain ⟨T4, h4, X4, e4, W4, st4⟩ := putF X3 hx hZ hown (host := "") (Or.inl (wd hw 23 rfl)) Via.refl e3 F_id_o0 E_o0 (Or.inr ⟨(wd hw 24 rfl), rfl, hnm⟩) (wd hw 2 rfl) (ty := .int) (by decide) rfl rfl (g := (mkF m 55 #[.val (.ref o0), .val (.int p1), .val (.int p2), .val (.double d3), .second, .val (.double d4), .second] [(.int p1), (.ref o0)])) rfl rfl (hb hby d2_55)
  have Fw4 := F_id_o0.same W4
  have N4 := Fr.snoc X4 N3 g_o0
  have z5 : n0 ≤ h4.size := Nat.le_trans Z0 (Keep.of_wr W4).1
  have hs6 : h0.size ≤ h4.size := Nat.le_trans (Nat.le_refl h0.size) (Keep.of_wr W4).1
  have k7 := (F_frame_o0.other W4 (Or.inr (slot_ne (Or.inr (wd hw 26 rfl)) (Or.inr (wd hw 24 rfl)) (by decide) (t := .int) (t' := .int) (by decide) (by decide))))
  have k8 := (E_o0.wr W4)
  obtain ⟨T9, h9, X9, e9, W9, st9⟩ := putF X4 hx hZ hown (host := "") (Or.inl (wd hw 25 rfl)) Via.refl e4 k7 k8 (Or.inr ⟨(wd hw 26 rfl), rfl, hnm⟩) (wd hw 2 rfl) (ty := .int) (by decide) rfl rfl (g := (mkF m 60 #[.val (.ref o0), .val (.int p1), .val (.int p2), .val (.double d3), .second, .val (.double d4), .second] [(.int p2), (.ref o0)])) rfl rfl (hb hby d2_60)
  have Fw9 := k7.same W9
  have N9 := Fr.snoc X9 N4 g_o0
  have z10 : n0 ≤ h9.size := Nat.le_trans z5 (Keep.of_wr W9).1
  have hs11 : h0.size ≤ h9.size := Nat.le_trans hs6 (Keep.of_wr W9).1
  have k12 := ((F_x_o0.other W4 (Or.inr (slot_ne (Or.inr (wd hw 28 rfl)) (Or.inr (wd hw 24 rfl)) (by decide) (t := .double) (t' := .int) (by decide) (by decide)))).other W9 (Or.inr (slot_ne (Or.inr (wd hw 28 rfl)) (Or.inr (wd hw 26 rfl)) (by decide) (t := .double) (t' := .int) (by decide) (by decide))))
  have k13 := (k8.wr W9)
  obtain ⟨T14, h14, X14, e14, W14, st14⟩ := putF X9 hx hZ hown (host := "") (Or.inl (wd hw 27 rfl)) Via.refl e9 k12 k13 (Or.inr ⟨(wd hw 28 rfl), rfl, hnm⟩) (wd hw 2 rfl) (ty := .double) (by decide) rfl rfl (g := (mkF m 65 #[.val (.ref o0), .val (.int p1), .val (.int p2), .val (.double d3), .second, .val (.double d4), .second] [(.double d3), (.ref o0)])) rfl rfl (hb hby d2_65)
  have Fw14 := k12.same W14
  have N14 := Fr.snoc X14 N9 g_o0
  have z15 : n0 ≤ h14.size := Nat.le_trans z10 (Keep.of_wr W14).1
  have hs16 : h0.size ≤ h14.size := Nat.le_trans hs11 (Keep.of_wr W14).1
  have k17 := (((F_y_o0.other W4 (Or.inr (slot_ne (Or.inr (wd hw 30 rfl)) (Or.inr (wd hw 24 rfl)) (by decide) (t := .double) (t' := .int) (by decide) (by decide)))).other W9 (Or.inr (slot_ne (Or.inr (wd hw 30 rfl)) (Or.inr (wd hw 26 rfl)) (by decide) (t := .double) (t' := .int) (by decide) (by decide)))).other W14 (Or.inr (slot_ne (Or.inr (wd hw 30 rfl)) (Or.inr (wd hw 28 rfl)) (by decide) (t := .double) (t' := .double) (by decide) (by decide))))
  have k18 := (k13.wr W14)
  obtain ⟨T19, h19, X19, e19, W19, st19⟩ := putF X14 hx hZ hown (host := "") (Or.inl (wd hw 29 rfl)) Via.refl e14 k17 k18 (Or.inr ⟨(wd hw 30 rfl), rfl, hnm⟩) (wd hw 2 rfl) (ty := .double) (by decide) rfl rfl (g := (mkF m 71 #[.val (.ref o0), .val (.int p1), .val (.int p2), .val (.double d3), .second, .val (.double d4), .second] [(.double d4), (.ref o0)])) rfl rfl (hb hby d2_71)
  have Fw19 := k17.same W19
  have N19 := Fr.snoc X19 N14 g_o0
  have z20 : n0 ≤ h19.size := Nat.le_trans z15 (Keep.of_wr W19).1
  have hs21 : h0.size ≤ h19.size := Nat.le_trans hs16 (Keep.of_wr W19).1
  obtain ⟨fs, hr, hrun, hended, hW, hsame⟩ := X19.leave (v := none) (fun _ => rfl) hlk
  refine ⟨_, _, pre0 _ ?_, hrun, hended, _, _, rfl, ?_, ⟨_, rfl⟩, hW, hsame.mono (by decide) (by decide)⟩
  · skip
    show Steps p.tables e below (s₁.setTop (mkF m 0 #[.val (.ref o0), .val (.int p1), .val (.int p2), .val (.double d3), .second, .val (.double d4), .second] [])) _
    refine XS.aloadN X0.here hx rfl (hb hby d2_0) rfl rfl ?_
    show Steps p.tables e below (s₁.setTop (mkF m 1 #[.val (.ref o0), .val (.int p1), .val (.int p2), .val (.double d3), .second, .val (.double d4), .second] [(.ref o0)])) _
    refine st1 _ ?_
    show Steps p.tables e below (T1.setTop (mkF m 4 #[.val (.ref o0), .val (.int p1), .val (.int p2), .val (.double d3), .second, .val (.double d4), .second] [])) _
    refine XS.iloadN X1.here hx rfl (hb hby d2_4) rfl ?_
    show Steps p.tables e below (T1.setTop (mkF m 5 #[.val (.ref o0), .val (.int p1), .val (.int p2), .val (.double d3), .second, .val (.double d4), .second] [(.int p2)])) _
    refine XS.ifYes X1.here hx rfl (pc0 := 5) (pc' := 22) rfl (hb hby d2_5) rfl (XT.i0_ge_t hy0) (by decide) (by decide) ?_
    show Steps p.tables e below (T1.setTop (mkF m 22 #[.val (.ref o0), .val (.int p1), .val (.int p2), .val (.double d3), .second, .val (.double d4), .second] [])) _
    refine XS.dloadN X1.here hx rfl (hb hby d2_22) rfl ?_
    show Steps p.tables e below (T1.setTop (mkF m 23 #[.val (.ref o0), .val (.int p1), .val (.int p2), .val (.double d3), .second, .val (.double d4), .second] [(.double d3)])) _
    refine st2 _ ?_
    show Steps p.tables e below (T2.setTop (mkF m 26 #[.val (.ref o0), .val (.int p1), .val (.int p2), .val (.double d3), .second, .val (.double d4), .second] [(.int (f4 d3))])) _
    refine XS.ifNo X2.here hx rfl (hb hby d2_26) rfl (XT.i0_eq_f hy2) ?_
    show Steps p.tables e below (T2.setTop (mkF m 29 #[.val (.ref o0), .val (.int p1), .val (.int p2), .val (.double d3), .second, .val (.double d4), .second] [])) _
    refine XS.dload X2.here hx rfl (hb hby d2_29) rfl ?_
    show Steps p.tables e below (T2.setTop (mkF m 31 #[.val (.ref o0), .val (.int p1), .val (.int p2), .val (.double d3), .second, .val (.double d4), .second] [(.double d4)])) _
    refine st3 _ ?_
    show Steps p.tables e below (T3.setTop (mkF m 34 #[.val (.ref o0), .val (.int p1), .val (.int p2), .val (.double d3), .second, .val (.double d4), .second] [(.int (f4 d4))])) _
    refine XS.ifYes X3.here hx rfl (pc0 := 34) (pc' := 53) rfl (hb hby d2_34) rfl (XT.i0_ne_t hy4) (by decide) (by decide) ?_
    show Steps p.tables e below (T3.setTop (mkF m 53 #[.val (.ref o0), .val (.int p1), .val (.int p2), .val (.double d3), .second, .val (.double d4), .second] [])) _
    refine XS.aloadN X3.here hx rfl (hb hby d2_53) rfl rfl ?_
    show Steps p.tables e below (T3.setTop (mkF m 54 #[.val (.ref o0), .val (.int p1), .val (.int p2), .val (.double d3), .second, .val (.double d4), .second] [(.ref o0)])) _
    refine XS.iloadN X3.here hx rfl (hb hby d2_54) rfl ?_
    show Steps p.tables e below (T3.setTop (mkF m 55 #[.val (.ref o0), .val (.int p1), .val (.int p2), .val (.double d3), .second, .val (.double d4), .second] [(.int p1), (.ref o0)])) _
    refine st4 _ ?_
    show Steps p.tables e below (T4.setTop (mkF m 58 #[.val (.ref o0), .val (.int p1), .val (.int p2), .val (.double d3), .second, .val (.double d4), .second] [])) _
    refine XS.aloadN X4.here hx rfl (hb hby d2_58) rfl rfl ?_
    show Steps p.tables e below (T4.setTop (mkF m 59 #[.val (.ref o0), .val (.int p1), .val (.int p2), .val (.double d3), .second, .val (.double d4), .second] [(.ref o0)])) _
    refine XS.iloadN X4.here hx rfl (hb hby d2_59) rfl ?_
    show Steps p.tables e below (T4.setTop (mkF m 60 #[.val (.ref o0), .val (.int p1), .val (.int p2), .val (.double d3), .second, .val (.double d4), .second] [(.int p2), (.ref o0)])) _
    refine st9 _ ?_
    show Steps p.tables e below (T9.setTop (mkF m 63 #[.val (.ref o0), .val (.int p1), .val (.int p2), .val (.double d3), .second, .val (.double d4), .second] [])) _
    refine XS.aloadN X9.here hx rfl (hb hby d2_63) rfl rfl ?_
    show Steps p.tables e below (T9.setTop (mkF m 64 #[.val (.ref o0), .val (.int p1), .val (.int p2), .val (.double d3), .second, .val (.double d4), .second] [(.ref o0)])) _
    refine XS.dloadN X9.here hx rfl (hb hby d2_64) rfl ?_
    show Steps p.tables e below (T9.setTop (mkF m 65 #[.val (.ref o0), .val (.int p1), .val (.int p2), .val (.double d3), .second, .val (.double d4), .second] [(.double d3), (.ref o0)])) _
    refine st14 _ ?_
    show Steps p.tables e below (T14.setTop (mkF m 68 #[.val (.ref o0), .val (.int p1), .val (.int p2), .val (.double d3), .second, .val (.double d4), .second] [])) _
    refine XS.aloadN X14.here hx rfl (hb hby d2_68) rfl rfl ?_
    show Steps p.tables e below (T14.setTop (mkF m 69 #[.val (.ref o0), .val (.int p1), .val (.int p2), .val (.double d3), .second, .val (.double d4), .second] [(.ref o0)])) _
    refine XS.dload X14.here hx rfl (hb hby d2_69) rfl ?_
    show Steps p.tables e below (T14.setTop (mkF m 71 #[.val (.ref o0), .val (.int p1), .val (.int p2), .val (.double d3), .second, .val (.double d4), .second] [(.double d4), (.ref o0)])) _
    refine st19 _ ?_
    show Steps p.tables e below (T19.setTop (mkF m 74 #[.val (.ref o0), .val (.int p1), .val (.int p2), .val (.double d3), .second, .val (.double d4), .second] [])) _
    exact X19.returnOut hx Bd.returns (hb hby d2_74) hr
  · skip
    show Q2 Z o0 p1 p2 d3 d4 u0_id u1_frame u2_x u3_y h0 n0 _ T19.heap _
    rw [e19]
    have k22 := (k18.wr W19)
    have k23 := (((Fw4.other W9 (Or.inr (slot_ne (Or.inr (wd hw 24 rfl)) (Or.inr (wd hw 26 rfl)) (by decide) (t := .int) (t' := .int) (by decide) (by decide)))).other W14 (Or.inr (slot_ne (Or.inr (wd hw 24 rfl)) (Or.inr (wd hw 28 rfl)) (by decide) (t := .int) (t' := .double) (by decide) (by decide)))).other W19 (Or.inr (slot_ne (Or.inr (wd hw 24 rfl)) (Or.inr (wd hw 30 rfl)) (by decide) (t := .int) (t' := .double) (by decide) (by decide))))
    have k24 := ((Fw9.other W14 (Or.inr (slot_ne (Or.inr (wd hw 26 rfl)) (Or.inr (wd hw 28 rfl)) (by decide) (t := .int) (t' := .double) (by decide) (by decide)))).other W19 (Or.inr (slot_ne (Or.inr (wd hw 26 rfl)) (Or.inr (wd hw 30 rfl)) (by decide) (t := .int) (t' := .double) (by decide) (by decide))))
    have k25 := (Fw14.other W19 (Or.inr (slot_ne (Or.inr (wd hw 28 rfl)) (Or.inr (wd hw 30 rfl)) (by decide) (t := .double) (t' := .double) (by decide) (by decide))))
    exact ⟨N19, rfl, (((((Keep.refl h0 [o0]).wr W4 (Or.inl (List.mem_of_getElem? (i := 0) rfl))).wr W9 (Or.inl (List.mem_of_getElem? (i := 0) rfl))).wr W14 (Or.inl (List.mem_of_getElem? (i := 0) rfl))).wr W19 (Or.inl (List.mem_of_getElem? (i := 0) rfl))), k22, k23, k24, k25, Fw19⟩
theorem pd__DD_I : parseMethodDescriptor "(DD)I" = some ⟨[.double, .double], some .int⟩ := by decide +kernel
theorem d6_0 : decode prog_22_method_6_code 0 = .ok (.aload_n 1, 1) := by decide +kernel
theorem d6_1 : decode prog_22_method_6_code 1 = .ok (.instanceof 26, 3) := by decide +kernel
theorem d6_4 : decode prog_22_method_6_code 4 = .ok (.ifCond .ne 5, 3) := by decide +kernel
theorem d6_9 : decode prog_22_method_6_code 9 = .ok (.aload_n 1, 1) := by decide +kernel
theorem d6_10 : decode prog_22_method_6_code 10 = .ok (.checkcast 26, 3) := by decide +kernel
theorem d6_13 : decode prog_22_method_6_code 13 = .ok (.astore_n 2, 1) := by decide +kernel
theorem d6_14 : decode prog_22_method_6_code 14 = .ok (.aload_n 0, 1) := by decide +kernel
theorem d6_15 : decode prog_22_method_6_code 15 = .ok (.getfield 25, 3) := by decide +kernel
theorem d6_18 : decode prog_22_method_6_code 18 = .ok (.aload_n 2, 1) := by decide +kernel
theorem d6_19 : decode prog_22_method_6_code 19 = .ok (.getfield 25, 3) := by decide +kernel
theorem d6_22 : decode prog_22_method_6_code 22 = .ok (.if_icmp .ne 46, 3) := by decide +kernel
theorem d6_25 : decode prog_22_method_6_code 25 = .ok (.aload_n 0, 1) := by decide +kernel
theorem d6_26 : decode prog_22_method_6_code 26 = .ok (.getfield 31, 3) := by decide +kernel
theorem d6_29 : decode prog_22_method_6_code 29 = .ok (.aload_n 2, 1) := by decide +kernel
theorem d6_30 : decode prog_22_method_6_code 30 = .ok (.getfield 31, 3) := by decide +kernel
theorem d6_33 : decode prog_22_method_6_code 33 = .ok (.if_icmp .ne 35, 3) := by decide +kernel
theorem d6_36 : decode prog_22_method_6_code 36 = .ok (.aload_n 0, 1) := by decide +kernel
theorem d6_37 : decode prog_22_method_6_code 37 = .ok (.getfield 34, 3) := by decide +kernel
theorem d6_40 : decode prog_22_method_6_code 40 = .ok (.aload_n 2, 1) := by decide +kernel
theorem d6_41 : decode prog_22_method_6_code 41 = .ok (.getfield 34, 3) := by decide +kernel
theorem d6_44 : decode prog_22_method_6_code 44 = .ok (.invokestatic 41, 3) := by decide +kernel
theorem d6_47 : decode prog_22_method_6_code 47 = .ok (.ifCond .ne 21, 3) := by decide +kernel
theorem d6_50 : decode prog_22_method_6_code 50 = .ok (.aload_n 0, 1) := by decide +kernel
theorem d6_51 : decode prog_22_method_6_code 51 = .ok (.getfield 38, 3) := by decide +kernel
theorem d6_54 : decode prog_22_method_6_code 54 = .ok (.aload_n 2, 1) := by decide +kernel
theorem d6_55 : decode prog_22_method_6_code 55 = .ok (.getfield 38, 3) := by decide +kernel
theorem d6_58 : decode prog_22_method_6_code 58 = .ok (.invokestatic 41, 3) := by decide +kernel
theorem d6_61 : decode prog_22_method_6_code 61 = .ok (.ifCond .ne 7, 3) := by decide +kernel
theorem d6_64 : decode prog_22_method_6_code 64 = .ok (.iconst 1, 1) := by decide +kernel
theorem d6_65 : decode prog_22_method_6_code 65 = .ok (.goto 4, 3) := by decide +kernel
theorem d6_68 : decode prog_22_method_6_code 68 = .ok (.iconst 0, 1) := by decide +kernel
theorem d6_69 : decode prog_22_method_6_code 69 = .ok (.ireturn, 1) := by decide +kernel
theorem ef_6 (m : MethodId) (o0 : Addr) (o1 : Addr) : entryFrame m #[(.ref o0), (.ref o1)] 3 = mkF m 0 #[.val (.ref o0), .val (.ref o1), .unset] [] := by first | (simp [entryFrame, mkF, argsToLocals, Value.category]; done) | rfl
def v6_1 (w0_id : Int32) (w1_id : Int32) (w2_frame : Int32) (w3_frame : Int32) (w4_x : UInt64) (w5_x : UInt64) (w6_y : UInt64) (w7_y : UInt64) : Int32 := (f7 w4_x w5_x)
def v6_2 (w0_id : Int32) (w1_id : Int32) (w2_frame : Int32) (w3_frame : Int32) (w4_x : UInt64) (w5_x : UInt64) (w6_y : UInt64) (w7_y : UInt64) : Int32 := (f7 w6_y w7_y)
def v6_3 (w0_id : Int32) (w1_id : Int32) (w2_frame : Int32) (w3_frame : Int32) (w4_x : UInt64) (w5_x : UInt64) (w6_y : UInt64) (w7_y : UInt64) : Int32 := (if w0_id = w1_id then (if w2_frame = w3_frame then (if (v6_1 w0_id w1_id w2_frame w3_frame w4_x w5_x w6_y w7_y) = (0 : Int32) then (if (v6_2 w0_id w1_id w2_frame w3_frame w4_x w5_x w6_y w7_y) = (0 : Int32) then (1 : Int32) else (0 : Int32)) else (0 : Int32)) else (0 : Int32)) else (0 : Int32))
def f6 (w0_id : Int32) (w1_id : Int32) (w2_frame : Int32) (w3_frame : Int32) (w4_x : UInt64) (w5_x : UInt64) (w6_y : UInt64) (w7_y : UInt64) : Int32 := (nar .boolean (v6_3 w0_id w1_id w2_frame w3_frame w4_x w5_x w6_y w7_y))
def Q6 (Z : State) (o0 : Addr) (o1 : Addr) (w0_id : Int32) (w1_id : Int32) (w2_frame : Int32) (w3_frame : Int32) (w4_x : UInt64) (w5_x : UInt64) (w6_y : UInt64) (w7_y : UInt64) (h0 : Heap) (n0 : Nat) (v : Option Value) (h : Heap) (L : List Loc) : Prop := Fr n0 L ∧ v = some (.int (f6 w0_id w1_id w2_frame w3_frame w4_x w5_x w6_y w7_y)) ∧ h = h0
set_option maxRecDepth 65536 in
set_option maxHeartbeats 40000000 in
theorem rm6 (l : Launch) (Z : State) (a0 : Array Value) (hw : ∀ d ∈ tables_1, d.before a0 Z = true) (ws : List Jvm.Cond) (o0 : Addr) (o1 : Addr) (w0_id : Int32) (w1_id : Int32) (w2_frame : Int32) (w3_frame : Int32) (w4_x : UInt64) (w5_x : UInt64) (w6_y : UInt64) (w7_y : UInt64) (h0 : Heap) (n0 : Nat) (Z0 : n0 ≤ h0.size) (E_o1 : Exa Z h0 o1 "com/example/khonsu/khonsu/trajectory/TrajectoryRow") (F_id_o0 : Fld Z h0 o0 "com/example/khonsu/khonsu/trajectory/TrajectoryRow" "id" "I" (.int w0_id)) (F_id_o1 : Fld Z h0 o1 "com/example/khonsu/khonsu/trajectory/TrajectoryRow" "id" "I" (.int w1_id)) (F_frame_o0 : Fld Z h0 o0 "com/example/khonsu/khonsu/trajectory/TrajectoryRow" "frame" "I" (.int w2_frame)) (F_frame_o1 : Fld Z h0 o1 "com/example/khonsu/khonsu/trajectory/TrajectoryRow" "frame" "I" (.int w3_frame)) (F_x_o0 : Fld Z h0 o0 "com/example/khonsu/khonsu/trajectory/TrajectoryRow" "x" "D" (.double w4_x)) (F_x_o1 : Fld Z h0 o1 "com/example/khonsu/khonsu/trajectory/TrajectoryRow" "x" "D" (.double w5_x)) (hy0 : (v8_1 w4_x) = (0 : Int32)) (hy1 : (v8_1 w5_x) = (0 : Int32)) (F_y_o0 : Fld Z h0 o0 "com/example/khonsu/khonsu/trajectory/TrajectoryRow" "y" "D" (.double w6_y)) (F_y_o1 : Fld Z h0 o1 "com/example/khonsu/khonsu/trajectory/TrajectoryRow" "y" "D" (.double w7_y)) (hy2 : (v8_1 w6_y) = (0 : Int32)) (hy3 : (v8_1 w7_y) = (0 : Int32)) :
    MetFree l (⟨"com/example/khonsu/khonsu/trajectory/TrajectoryRow", "equals", "(Ljava/lang/Object;)Z"⟩ : MethodName) (head1 (Jvm.Cond.code (⟨"com/example/khonsu/khonsu/trajectory/TrajectoryRow", "equals", "(Ljava/lang/Object;)Z"⟩ : MethodName) prog_22_method_6_code 3 (some .boolean) :: ws) ({ frames := 3, cells := 0, slots := 0, locals := 47 } : Room)) (fun a U => a = #[(.ref o0), (.ref o1)] ∧ Z.Warmed39 U.vm ∧ U.heap = h0) (fun _ _ _ _ _ => True) (fun _ U o U' => ∃ v L, o = .returned v ∧ Q6 Z o0 o1 w0_id w1_id w2_frame w3_frame w4_x w5_x w6_y w7_y h0 n0 v U'.heap L ∧ FrameEnd U o U' L ({ frames := 3, cells := 0, slots := 0, locals := 47 } : Room).cells ({ frames := 3, cells := 0, slots := 0, locals := 47 } : Room).slots) := by
  refine MetFree.of_bodySF (plainFor_of_name pn_com_example_khonsu_khonsu_trajectory_TrajectoryRow) hisR ?_
  intro p e s m args below meth c s₁ Bd hml0 hP hK
  obtain ⟨rfl, hZ, hh⟩ := hP
  have hx := Bd.exec
  have hby := Bd.bytes
  have hml : c.maxLocals = 3 := hml0
  have hown : s.vm.findClass "com/example/khonsu/khonsu/trajectory/TrajectoryRow" = some m.cls := findClass_of_methodNamed Bd.named
  have hnm := (name_of_methodNamed Bd.named Bd.method).1
  have hlk := BodyLoose.notSynchronized Bd
  have X0 : Stand p l e ({ frames := 3, cells := 0, slots := 0, locals := 47 } : Room) s m #[(.ref o0), (.ref o1)] below meth c s₁ [] 0 0 := Stand.of_body Bd
  have e0 : s₁.heap = h0 := by rw [← hh, Bd.state]; rfl
  have N0 := Fr.nil n0
  have pre0 : ∀ t, Steps p.tables e below (s₁.setTop (mkF m 0 #[.val (.ref o0), .val (.ref o1), .unset] [])) t → Steps p.tables e below (s₁.setTop (entryFrame m #[(.ref o0), (.ref o1)] 3)) t := fun t k => castTop (ef_6 m o0 o1) k
  obtain ⟨T1, X1, e1, st1⟩ := instY X0 hx hZ hown (wd hw 36 rfl) e0 (Ins.self E_o1) (g := (mkF m 1 #[.val (.ref o0), .val (.ref o1), .unset] [(.ref o1)])) rfl rfl (hb hby d6_1)
  obtain ⟨T2, X2, e2, st2⟩ := castY X1 hx hZ hown (wd hw 36 rfl) e1 (Ins.self E_o1) (g := (mkF m 10 #[.val (.ref o0), .val (.ref o1), .unset] [(.ref o1)])) rfl rfl (hb hby d6_10)
  obtain ⟨T3, X3, e3, st3⟩ := getF X2 hx hZ hown (host := "") (Or.inl (wd hw 23 rfl)) Via.refl e2 F_id_o0 (g := (mkF m 15 #[.val (.ref o0), .val (.ref o1), .val (.ref o1)] [(.ref o0)])) rfl rfl (hb hby d6_15)
  obtain ⟨T4, X4, e4, st4⟩ := getF X3 hx hZ hown (host := "") (Or.inl (wd hw 23 rfl)) Via.refl e3 F_id_o1 (g := (mkF m 19 #[.val (.ref o0), .val (.ref o1), .val (.ref o1)] [(.ref o1), (.int w0_id)])) rfl rfl (hb hby d6_19)
  have pre5 : ∀ t, Steps p.tables e below (T4.setTop (mkF m 22 #[.val (.ref o0), .val (.ref o1), .val (.ref o1)] [(.int w1_id), (.int w0_id)])) t → Steps p.tables e below (s₁.setTop (entryFrame m #[(.ref o0), (.ref o1)] 3)) t := by
    intro t k
    refine pre0 t ?_
    show Steps p.tables e below (s₁.setTop (mkF m 0 #[.val (.ref o0), .val (.ref o1), .unset] [])) _
    refine XS.aloadN X0.here hx rfl (hb hby d6_0) rfl rfl ?_
    show Steps p.tables e below (s₁.setTop (mkF m 1 #[.val (.ref o0), .val (.ref o1), .unset] [(.ref o1)])) _
    refine st1 _ ?_
    show Steps p.tables e below (T1.setTop (mkF m 4 #[.val (.ref o0), .val (.ref o1), .unset] [(.int (1 : Int32))])) _
    refine XS.ifYes X1.here hx rfl (pc0 := 4) (pc' := 9) rfl (hb hby d6_4) rfl (XT.i0_ne_t (by decide)) (by decide) (by decide) ?_
    show Steps p.tables e below (T1.setTop (mkF m 9 #[.val (.ref o0), .val (.ref o1), .unset] [])) _
    refine XS.aloadN X1.here hx rfl (hb hby d6_9) rfl rfl ?_
    show Steps p.tables e below (T1.setTop (mkF m 10 #[.val (.ref o0), .val (.ref o1), .unset] [(.ref o1)])) _
    refine st2 _ ?_
    show Steps p.tables e below (T2.setTop (mkF m 13 #[.val (.ref o0), .val (.ref o1), .unset] [(.ref o1)])) _
    refine XS.astoreN X2.here hx rfl (hb hby d6_13) rfl rfl (l' := #[.val (.ref o0), .val (.ref o1), .val (.ref o1)]) rfl ?_
    show Steps p.tables e below (T2.setTop (mkF m 14 #[.val (.ref o0), .val (.ref o1), .val (.ref o1)] [])) _
    refine XS.aloadN X2.here hx rfl (hb hby d6_14) rfl rfl ?_
    show Steps p.tables e below (T2.setTop (mkF m 15 #[.val (.ref o0), .val (.ref o1), .val (.ref o1)] [(.ref o0)])) _
    refine st3 _ ?_
    show Steps p.tables e below (T3.setTop (mkF m 18 #[.val (.ref o0), .val (.ref o1), .val (.ref o1)] [(.int w0_id)])) _
    refine XS.aloadN X3.here hx rfl (hb hby d6_18) rfl rfl ?_
    show Steps p.tables e below (T3.setTop (mkF m 19 #[.val (.ref o0), .val (.ref o1), .val (.ref o1)] [(.ref o1), (.int w0_id)])) _
    refine st4 _ ?_
    exact k
  clear pre0 st1 st2 st3 st4
  obtain ⟨T21, L21, X21, e21, N21, pre21⟩ : ∃ (T' : State) (L' : List Loc), Stand p l e ({ frames := 3, cells := 0, slots := 0, locals := 47 } : Room) s m #[(.ref o0), (.ref o1)] below meth c T' L' 0 0 ∧ T'.heap = h0 ∧ Fr n0 L' ∧ ∀ t, Steps p.tables e below (T'.setTop (mkF m 69 #[.val (.ref o0), .val (.ref o1), .val (.ref o1)] [(.int (v6_3 w0_id w1_id w2_frame w3_frame w4_x w5_x w6_y w7_y))])) t → Steps p.tables e below (s₁.setTop (entryFrame m #[(.ref o0), (.ref o1)] 3)) t := by
    by_cases c6 : w0_id = w1_id
    · skip
      obtain ⟨T7, X7, e7, st7⟩ := getF X4 hx hZ hown (host := "") (Or.inl (wd hw 25 rfl)) Via.refl e4 F_frame_o0 (g := (mkF m 26 #[.val (.ref o0), .val (.ref o1), .val (.ref o1)] [(.ref o0)])) rfl rfl (hb hby d6_26)
      obtain ⟨T8, X8, e8, st8⟩ := getF X7 hx hZ hown (host := "") (Or.inl (wd hw 25 rfl)) Via.refl e7 F_frame_o1 (g := (mkF m 30 #[.val (.ref o0), .val (.ref o1), .val (.ref o1)] [(.ref o1), (.int w2_frame)])) rfl rfl (hb hby d6_30)
      have pre9 : ∀ t, Steps p.tables e below (T8.setTop (mkF m 33 #[.val (.ref o0), .val (.ref o1), .val (.ref o1)] [(.int w3_frame), (.int w2_frame)])) t → Steps p.tables e below (s₁.setTop (entryFrame m #[(.ref o0), (.ref o1)] 3)) t := by
        intro t k
        refine pre5 t ?_
        show Steps p.tables e below (T4.setTop (mkF m 22 #[.val (.ref o0), .val (.ref o1), .val (.ref o1)] [(.int w1_id), (.int w0_id)])) _
        refine XS.icmpNo X4.here hx rfl (hb hby d6_22) rfl (XT.ii_ne_f c6) ?_
        show Steps p.tables e below (T4.setTop (mkF m 25 #[.val (.ref o0), .val (.ref o1), .val (.ref o1)] [])) _
        refine XS.aloadN X4.here hx rfl (hb hby d6_25) rfl rfl ?_
        show Steps p.tables e below (T4.setTop (mkF m 26 #[.val (.ref o0), .val (.ref o1), .val (.ref o1)] [(.ref o0)])) _
        refine st7 _ ?_
        show Steps p.tables e below (T7.setTop (mkF m 29 #[.val (.ref o0), .val (.ref o1), .val (.ref o1)] [(.int w2_frame)])) _
        refine XS.aloadN X7.here hx rfl (hb hby d6_29) rfl rfl ?_
        show Steps p.tables e below (T7.setTop (mkF m 30 #[.val (.ref o0), .val (.ref o1), .val (.ref o1)] [(.ref o1), (.int w2_frame)])) _
        refine st8 _ ?_
        exact k
      clear pre5 st7 st8
      by_cases c10 : w2_frame = w3_frame
      · skip
        obtain ⟨T11, X11, e11, st11⟩ := getF X8 hx hZ hown (host := "") (Or.inl (wd hw 27 rfl)) Via.refl e8 F_x_o0 (g := (mkF m 37 #[.val (.ref o0), .val (.ref o1), .val (.ref o1)] [(.ref o0)])) rfl rfl (hb hby d6_37)
        obtain ⟨T12, X12, e12, st12⟩ := getF X11 hx hZ hown (host := "") (Or.inl (wd hw 27 rfl)) Via.refl e11 F_x_o1 (g := (mkF m 41 #[.val (.ref o0), .val (.ref o1), .val (.ref o1)] [(.ref o1), (.double w4_x)])) rfl rfl (hb hby d6_41)
        obtain ⟨vr13, _, ⟨T13, L13, k13, n13⟩, -, X13, ⟨Lc13, hQ13, l13, y13, z13⟩, st13⟩ := Jvm.LawKit.callS X12 hx (y := (⟨"java/lang/Double", "compare", "(DD)I"⟩ : MethodName)) hown (mvT hZ (wd hw 38 rfl)) (mvT hZ (wd hw 39 rfl)) (mvT hZ (wd hw 16 rfl)) (mvT hZ (wd hw 40 rfl)) (by decide) (backOf (W := 0) (rm7 l Z a0 hw [] w4_x w5_x h0 n0 Z0 hy0 hy1) hZ (wd hw 40 rfl) (wd hw 16 rfl) (by decide) (by decide)) (g := (mkF m 44 #[.val (.ref o0), .val (.ref o1), .val (.ref o1)] [(.double w5_x), (.double w4_x)])) rfl (by rw [hml]; rfl) (argsL := [(.double w4_x), (.double w5_x)]) (rest := []) (lenOf pd__DD_I rfl) rfl (by show 2 * 0 + _ ≤ _; exact Nat.le_of_eq rfl) (hb hby d6_44) (fun _ _ => ⟨rfl, e12, (by decide : 0 + 0 ≤ _), (by decide : 0 + 0 ≤ _)⟩)
        dsimp only [Pt.U, Pt.locs, Pt.cells, Pt.slots] at X13 l13 y13 z13 st13 hQ13
        replace X13 := own_stand X13 l13 y13 z13
        clear l13 y13 z13
        have N13q := (show _ ∧ _ ∧ _ from hQ13).1
        have hv13 := (show _ ∧ _ ∧ _ from hQ13).2.1
        have e13 := (show _ ∧ _ ∧ _ from hQ13).2.2
        clear hQ13
        subst hv13
        have N13 := Fr.app N0 N13q
        have pre14 : ∀ t, Steps p.tables e below (T13.setTop (mkF m 47 #[.val (.ref o0), .val (.ref o1), .val (.ref o1)] [(.int (f7 w4_x w5_x))])) t → Steps p.tables e below (s₁.setTop (entryFrame m #[(.ref o0), (.ref o1)] 3)) t := by
          intro t k
          refine pre9 t ?_
          show Steps p.tables e below (T8.setTop (mkF m 33 #[.val (.ref o0), .val (.ref o1), .val (.ref o1)] [(.int w3_frame), (.int w2_frame)])) _
          refine XS.icmpNo X8.here hx rfl (hb hby d6_33) rfl (XT.ii_ne_f c10) ?_
          show Steps p.tables e below (T8.setTop (mkF m 36 #[.val (.ref o0), .val (.ref o1), .val (.ref o1)] [])) _
          refine XS.aloadN X8.here hx rfl (hb hby d6_36) rfl rfl ?_
          show Steps p.tables e below (T8.setTop (mkF m 37 #[.val (.ref o0), .val (.ref o1), .val (.ref o1)] [(.ref o0)])) _
          refine st11 _ ?_
          show Steps p.tables e below (T11.setTop (mkF m 40 #[.val (.ref o0), .val (.ref o1), .val (.ref o1)] [(.double w4_x)])) _
          refine XS.aloadN X11.here hx rfl (hb hby d6_40) rfl rfl ?_
          show Steps p.tables e below (T11.setTop (mkF m 41 #[.val (.ref o0), .val (.ref o1), .val (.ref o1)] [(.ref o1), (.double w4_x)])) _
          refine st12 _ ?_
          show Steps p.tables e below (T12.setTop (mkF m 44 #[.val (.ref o0), .val (.ref o1), .val (.ref o1)] [(.double w5_x), (.double w4_x)])) _
          refine st13 _ ?_
          exact k
        clear pre9 st11 st12 st13
        by_cases c15 : (v6_1 w0_id w1_id w2_frame w3_frame w4_x w5_x w6_y w7_y) = (0 : Int32)
        · skip
          obtain ⟨T16, X16, e16, st16⟩ := getF X13 hx hZ hown (host := "") (Or.inl (wd hw 29 rfl)) Via.refl e13 F_y_o0 (g := (mkF m 51 #[.val (.ref o0), .val (.ref o1), .val (.ref o1)] [(.ref o0)])) rfl rfl (hb hby d6_51)
          obtain ⟨T17, X17, e17, st17⟩ := getF X16 hx hZ hown (host := "") (Or.inl (wd hw 29 rfl)) Via.refl e16 F_y_o1 (g := (mkF m 55 #[.val (.ref o0), .val (.ref o1), .val (.ref o1)] [(.ref o1), (.double w6_y)])) rfl rfl (hb hby d6_55)
          obtain ⟨vr18, _, ⟨T18, L18, k18, n18⟩, -, X18, ⟨Lc18, hQ18, l18, y18, z18⟩, st18⟩ := Jvm.LawKit.callS X17 hx (y := (⟨"java/lang/Double", "compare", "(DD)I"⟩ : MethodName)) hown (mvT hZ (wd hw 38 rfl)) (mvT hZ (wd hw 39 rfl)) (mvT hZ (wd hw 16 rfl)) (mvT hZ (wd hw 40 rfl)) (by decide) (backOf (W := 0) (rm7 l Z a0 hw [] w6_y w7_y h0 n0 Z0 hy2 hy3) hZ (wd hw 40 rfl) (wd hw 16 rfl) (by decide) (by decide)) (g := (mkF m 58 #[.val (.ref o0), .val (.ref o1), .val (.ref o1)] [(.double w7_y), (.double w6_y)])) rfl (by rw [hml]; rfl) (argsL := [(.double w6_y), (.double w7_y)]) (rest := []) (lenOf pd__DD_I rfl) rfl (by show 2 * 0 + _ ≤ _; exact Nat.le_of_eq rfl) (hb hby d6_58) (fun _ _ => ⟨rfl, e17, (by decide : 0 + 0 ≤ _), (by decide : 0 + 0 ≤ _)⟩)
          dsimp only [Pt.U, Pt.locs, Pt.cells, Pt.slots] at X18 l18 y18 z18 st18 hQ18
          replace X18 := own_stand X18 l18 y18 z18
          clear l18 y18 z18
          have N18q := (show _ ∧ _ ∧ _ from hQ18).1
          have hv18 := (show _ ∧ _ ∧ _ from hQ18).2.1
          have e18 := (show _ ∧ _ ∧ _ from hQ18).2.2
          clear hQ18
          subst hv18
          have N18 := Fr.app N13 N18q
          have pre19 : ∀ t, Steps p.tables e below (T18.setTop (mkF m 61 #[.val (.ref o0), .val (.ref o1), .val (.ref o1)] [(.int (f7 w6_y w7_y))])) t → Steps p.tables e below (s₁.setTop (entryFrame m #[(.ref o0), (.ref o1)] 3)) t := by
            intro t k
            refine pre14 t ?_
            show Steps p.tables e below (T13.setTop (mkF m 47 #[.val (.ref o0), .val (.ref o1), .val (.ref o1)] [(.int (f7 w4_x w5_x))])) _
            refine XS.ifNo X13.here hx rfl (hb hby d6_47) rfl (XT.i0_ne_f c15) ?_
            show Steps p.tables e below (T13.setTop (mkF m 50 #[.val (.ref o0), .val (.ref o1), .val (.ref o1)] [])) _
            refine XS.aloadN X13.here hx rfl (hb hby d6_50) rfl rfl ?_
            show Steps p.tables e below (T13.setTop (mkF m 51 #[.val (.ref o0), .val (.ref o1), .val (.ref o1)] [(.ref o0)])) _
            refine st16 _ ?_
            show Steps p.tables e below (T16.setTop (mkF m 54 #[.val (.ref o0), .val (.ref o1), .val (.ref o1)] [(.double w6_y)])) _
            refine XS.aloadN X16.here hx rfl (hb hby d6_54) rfl rfl ?_
            show Steps p.tables e below (T16.setTop (mkF m 55 #[.val (.ref o0), .val (.ref o1), .val (.ref o1)] [(.ref o1), (.double w6_y)])) _
            refine st17 _ ?_
            show Steps p.tables e below (T17.setTop (mkF m 58 #[.val (.ref o0), .val (.ref o1), .val (.ref o1)] [(.double w7_y), (.double w6_y)])) _
            refine st18 _ ?_
            exact k
          clear pre14 st16 st17 st18
          by_cases c20 : (v6_2 w0_id w1_id w2_frame w3_frame w4_x w5_x w6_y w7_y) = (0 : Int32)
          · skip
            refine ⟨T18, _, X18, e18, N18, fun t k => ?_⟩
            rw [show (v6_3 w0_id w1_id w2_frame w3_frame w4_x w5_x w6_y w7_y) = (1 : Int32) from ((((if_pos c6).trans (if_pos c10)).trans (if_pos c15)).trans (if_pos c20))] at k
            refine pre19 t ?_
            show Steps p.tables e below (T18.setTop (mkF m 61 #[.val (.ref o0), .val (.ref o1), .val (.ref o1)] [(.int (f7 w6_y w7_y))])) _
            refine XS.ifNo X18.here hx rfl (hb hby d6_61) rfl (XT.i0_ne_f c20) ?_
            show Steps p.tables e below (T18.setTop (mkF m 64 #[.val (.ref o0), .val (.ref o1), .val (.ref o1)] [])) _
            refine XT.iconstV X18.here hx rfl (1 : Int32) (hb hby d6_64) (by decide) ?_
            show Steps p.tables e below (T18.setTop (mkF m 65 #[.val (.ref o0), .val (.ref o1), .val (.ref o1)] [(.int (1 : Int32))])) _
            refine XS.goto X18.here hx rfl (pc0 := 65) (pc' := 69) rfl (hb hby d6_65) (by decide) (by decide) ?_
            exact k
          · skip
            refine ⟨T18, _, X18, e18, N18, fun t k => ?_⟩
            rw [show (v6_3 w0_id w1_id w2_frame w3_frame w4_x w5_x w6_y w7_y) = (0 : Int32) from ((((if_pos c6).trans (if_pos c10)).trans (if_pos c15)).trans (if_neg c20))] at k
            refine pre19 t ?_
            show Steps p.tables e below (T18.setTop (mkF m 61 #[.val (.ref o0), .val (.ref o1), .val (.ref o1)] [(.int (f7 w6_y w7_y))])) _
            refine XS.ifYes X18.here hx rfl (pc0 := 61) (pc' := 68) rfl (hb hby d6_61) rfl (XT.i0_ne_t c20) (by decide) (by decide) ?_
            show Steps p.tables e below (T18.setTop (mkF m 68 #[.val (.ref o0), .val (.ref o1), .val (.ref o1)] [])) _
            refine XT.iconstV X18.here hx rfl (0 : Int32) (hb hby d6_68) (by decide) ?_
            exact k
        · skip
          refine ⟨T13, _, X13, e13, N13, fun t k => ?_⟩
          rw [show (v6_3 w0_id w1_id w2_frame w3_frame w4_x w5_x w6_y w7_y) = (0 : Int32) from (((if_pos c6).trans (if_pos c10)).trans (if_neg c15))] at k
          refine pre14 t ?_
          show Steps p.tables e below (T13.setTop (mkF m 47 #[.val (.ref o0), .val (.ref o1), .val (.ref o1)] [(.int (f7 w4_x w5_x))])) _
          refine XS.ifYes X13.here hx rfl (pc0 := 47) (pc' := 68) rfl (hb hby d6_47) rfl (XT.i0_ne_t c15) (by decide) (by decide) ?_
          show Steps p.tables e below (T13.setTop (mkF m 68 #[.val (.ref o0), .val (.ref o1), .val (.ref o1)] [])) _
          refine XT.iconstV X13.here hx rfl (0 : Int32) (hb hby d6_68) (by decide) ?_
          exact k
      · skip
        refine ⟨T8, _, X8, e8, N0, fun t k => ?_⟩
        rw [show (v6_3 w0_id w1_id w2_frame w3_frame w4_x w5_x w6_y w7_y) = (0 : Int32) from ((if_pos c6).trans (if_neg c10))] at k
        refine pre9 t ?_
        show Steps p.tables e below (T8.setTop (mkF m 33 #[.val (.ref o0), .val (.ref o1), .val (.ref o1)] [(.int w3_frame), (.int w2_frame)])) _
        refine XS.icmpYes X8.here hx rfl (pc0 := 33) (pc' := 68) rfl (hb hby d6_33) rfl (XT.ii_ne_t c10) (by decide) (by decide) ?_
        show Steps p.tables e below (T8.setTop (mkF m 68 #[.val (.ref o0), .val (.ref o1), .val (.ref o1)] [])) _
        refine XT.iconstV X8.here hx rfl (0 : Int32) (hb hby d6_68) (by decide) ?_
        exact k
    · skip
      refine ⟨T4, _, X4, e4, N0, fun t k => ?_⟩
      rw [show (v6_3 w0_id w1_id w2_frame w3_frame w4_x w5_x w6_y w7_y) = (0 : Int32) from (if_neg c6)] at k
      refine pre5 t ?_
      show Steps p.tables e below (T4.setTop (mkF m 22 #[.val (.ref o0), .val (.ref o1), .val (.ref o1)] [(.int w1_id), (.int w0_id)])) _
      refine XS.icmpYes X4.here hx rfl (pc0 := 22) (pc' := 68) rfl (hb hby d6_22) rfl (XT.ii_ne_t c6) (by decide) (by decide) ?_
      show Steps p.tables e below (T4.setTop (mkF m 68 #[.val (.ref o0), .val (.ref o1), .val (.ref o1)] [])) _
      refine XT.iconstV X4.here hx rfl (0 : Int32) (hb hby d6_68) (by decide) ?_
      exact k
  obtain ⟨fs, hr, hrun, hended, hW, hsame⟩ := X21.leave (v := some (.int (nar .boolean (v6_3 w0_id w1_id w2_frame w3_frame w4_x w5_x w6_y w7_y)))) (fun h => by rw [Bd.returns] at h; cases h) hlk
  refine ⟨_, _, pre21 _ ?_, hrun, hended, _, _, rfl, ?_, ⟨_, rfl⟩, hW, hsame.mono (by decide) (by decide)⟩
  · skip
    show Steps p.tables e below (T21.setTop (mkF m 69 #[.val (.ref o0), .val (.ref o1), .val (.ref o1)] [(.int (v6_3 w0_id w1_id w2_frame w3_frame w4_x w5_x w6_y w7_y))])) _
    exact retN X21 hx (t := .boolean) Bd.returns (by simp) (hb hby d6_69) hr
  · skip
    show Q6 Z o0 o1 w0_id w1_id w2_frame w3_frame w4_x w5_x w6_y w7_y h0 n0 _ T21.heap _
    rw [e21]
    exact ⟨N21, rfl, rfl⟩
theorem d6_7 : decode prog_22_method_6_code 7 = .ok (.iconst 0, 1) := by decide +kernel
theorem d6_8 : decode prog_22_method_6_code 8 = .ok (.ireturn, 1) := by decide +kernel
theorem ef_eqN (m : MethodId) (o0 : Addr) : entryFrame m #[(.ref o0), .null] 3 = mkF m 0 #[.val (.ref o0), .val .null, .unset] [] := by first | (simp [entryFrame, mkF, argsToLocals, Value.category]; done) | rfl
def feqN : Int32 := (0 : Int32)
def QeqN (Z : State) (o0 : Addr) (h0 : Heap) (n0 : Nat) (v : Option Value) (h : Heap) (L : List Loc) : Prop := Fr n0 L ∧ v = some (.int feqN) ∧ h = h0
set_option maxRecDepth 65536 in
set_option maxHeartbeats 40000000 in
theorem rmeqN (l : Launch) (Z : State) (a0 : Array Value) (hw : ∀ d ∈ tables_1, d.before a0 Z = true) (ws : List Jvm.Cond) (o0 : Addr) (h0 : Heap) (n0 : Nat) (Z0 : n0 ≤ h0.size) :
    MetFree l (⟨"com/example/khonsu/khonsu/trajectory/TrajectoryRow", "equals", "(Ljava/lang/Object;)Z"⟩ : MethodName) (head1 (Jvm.Cond.code (⟨"com/example/khonsu/khonsu/trajectory/TrajectoryRow", "equals", "(Ljava/lang/Object;)Z"⟩ : MethodName) prog_22_method_6_code 3 (some .boolean) :: ws) ({ frames := 0, cells := 0, slots := 0, locals := 0 } : Room)) (fun a U => a = #[(.ref o0), .null] ∧ Z.Warmed39 U.vm ∧ U.heap = h0) (fun _ _ _ _ _ => True) (fun _ U o U' => ∃ v L, o = .returned v ∧ QeqN Z o0 h0 n0 v U'.heap L ∧ FrameEnd U o U' L ({ frames := 0, cells := 0, slots := 0, locals := 0 } : Room).cells ({ frames := 0, cells := 0, slots := 0, locals := 0 } : Room).slots) := by
  refine MetFree.of_bodySF (plainFor_of_name pn_com_example_khonsu_khonsu_trajectory_TrajectoryRow) hisR ?_
  intro p e s m args below meth c s₁ Bd hml0 hP hK
  obtain ⟨rfl, hZ, hh⟩ := hP
  have hx := Bd.exec
  have hby := Bd.bytes
  have hml : c.maxLocals = 3 := hml0
  have hown : s.vm.findClass "com/example/khonsu/khonsu/trajectory/TrajectoryRow" = some m.cls := findClass_of_methodNamed Bd.named
  have hnm := (name_of_methodNamed Bd.named Bd.method).1
  have hlk := BodyLoose.notSynchronized Bd
  have X0 : Stand p l e ({ frames := 0, cells := 0, slots := 0, locals := 0 } : Room) s m #[(.ref o0), .null] below meth c s₁ [] 0 0 := Stand.of_body Bd
  have e0 : s₁.heap = h0 := by rw [← hh, Bd.state]; rfl
  have N0 := Fr.nil n0
  have pre0 : ∀ t, Steps p.tables e below (s₁.setTop (mkF m 0 #[.val (.ref o0), .val .null, .unset] [])) t → Steps p.tables e below (s₁.setTop (entryFrame m #[(.ref o0), .null] 3)) t := fun t k => castTop (ef_eqN m o0) k
  obtain ⟨fs, hr, hrun, hended, hW, hsame⟩ := X0.leave (v := some (.int (0 : Int32))) (fun h => by rw [Bd.returns] at h; cases h) hlk
  refine ⟨_, _, pre0 _ ?_, hrun, hended, _, _, rfl, ?_, ⟨_, rfl⟩, hW, hsame.mono (by decide) (by decide)⟩
  · skip
    show Steps p.tables e below (s₁.setTop (mkF m 0 #[.val (.ref o0), .val .null, .unset] [])) _
    refine XS.aloadN X0.here hx rfl (hb hby d6_0) rfl rfl ?_
    show Steps p.tables e below (s₁.setTop (mkF m 1 #[.val (.ref o0), .val .null, .unset] [.null])) _
    refine X0.instanceofNull hx (g := (mkF m 1 #[.val (.ref o0), .val .null, .unset] [.null])) rfl rfl (hb hby d6_1) _ ?_
    show Steps p.tables e below (s₁.setTop (mkF m 4 #[.val (.ref o0), .val .null, .unset] [(.int (0 : Int32))])) _
    refine XS.ifNo X0.here hx rfl (hb hby d6_4) rfl (XT.i0_ne_f (by decide)) ?_
    show Steps p.tables e below (s₁.setTop (mkF m 7 #[.val (.ref o0), .val .null, .unset] [])) _
    refine XT.iconstV X0.here hx rfl (0 : Int32) (hb hby d6_7) (by decide) ?_
    show Steps p.tables e below (s₁.setTop (mkF m 8 #[.val (.ref o0), .val .null, .unset] [(.int (0 : Int32))])) _
    exact retN X0 hx (t := .boolean) Bd.returns (by simp) (hb hby d6_8) hr
  · skip
    show QeqN Z o0 h0 n0 _ s₁.heap _
    rw [e0]
    exact ⟨N0, rfl, rfl⟩
theorem ef_eqI (m : MethodId) (o0 : Addr) (o1 : Addr) : entryFrame m #[(.ref o0), (.ref o1)] 3 = mkF m 0 #[.val (.ref o0), .val (.ref o1), .unset] [] := by first | (simp [entryFrame, mkF, argsToLocals, Value.category]; done) | rfl
def feqI : Int32 := (0 : Int32)
def QeqI (Z : State) (o0 : Addr) (o1 : Addr) (h0 : Heap) (n0 : Nat) (v : Option Value) (h : Heap) (L : List Loc) : Prop := Fr n0 L ∧ v = some (.int feqI) ∧ h = h0
set_option maxRecDepth 65536 in
set_option maxHeartbeats 40000000 in
theorem rmeqI (l : Launch) (Z : State) (a0 : Array Value) (hw : ∀ d ∈ tables_1, d.before a0 Z = true) (ws : List Jvm.Cond) (o0 : Addr) (o1 : Addr) (h0 : Heap) (n0 : Nat) (Z0 : n0 ≤ h0.size) (E_o1 : Exa Z h0 o1 "java/lang/Integer") :
    MetFree l (⟨"com/example/khonsu/khonsu/trajectory/TrajectoryRow", "equals", "(Ljava/lang/Object;)Z"⟩ : MethodName) (head1 (Jvm.Cond.code (⟨"com/example/khonsu/khonsu/trajectory/TrajectoryRow", "equals", "(Ljava/lang/Object;)Z"⟩ : MethodName) prog_22_method_6_code 3 (some .boolean) :: ws) ({ frames := 0, cells := 0, slots := 0, locals := 0 } : Room)) (fun a U => a = #[(.ref o0), (.ref o1)] ∧ Z.Warmed39 U.vm ∧ U.heap = h0) (fun _ _ _ _ _ => True) (fun _ U o U' => ∃ v L, o = .returned v ∧ QeqI Z o0 o1 h0 n0 v U'.heap L ∧ FrameEnd U o U' L ({ frames := 0, cells := 0, slots := 0, locals := 0 } : Room).cells ({ frames := 0, cells := 0, slots := 0, locals := 0 } : Room).slots) := by
  refine MetFree.of_bodySF (plainFor_of_name pn_com_example_khonsu_khonsu_trajectory_TrajectoryRow) hisR ?_
  intro p e s m args below meth c s₁ Bd hml0 hP hK
  obtain ⟨rfl, hZ, hh⟩ := hP
  have hx := Bd.exec
  have hby := Bd.bytes
  have hml : c.maxLocals = 3 := hml0
  have hown : s.vm.findClass "com/example/khonsu/khonsu/trajectory/TrajectoryRow" = some m.cls := findClass_of_methodNamed Bd.named
  have hnm := (name_of_methodNamed Bd.named Bd.method).1
  have hlk := BodyLoose.notSynchronized Bd
  have X0 : Stand p l e ({ frames := 0, cells := 0, slots := 0, locals := 0 } : Room) s m #[(.ref o0), (.ref o1)] below meth c s₁ [] 0 0 := Stand.of_body Bd
  have e0 : s₁.heap = h0 := by rw [← hh, Bd.state]; rfl
  have N0 := Fr.nil n0
  have pre0 : ∀ t, Steps p.tables e below (s₁.setTop (mkF m 0 #[.val (.ref o0), .val (.ref o1), .unset] [])) t → Steps p.tables e below (s₁.setTop (entryFrame m #[(.ref o0), (.ref o1)] 3)) t := fun t k => castTop (ef_eqI m o0 o1) k
  obtain ⟨T1, X1, e1, st1⟩ := instNo X0 hx hZ hown (wd hw 36 rfl) e0 E_o1 (own_nosub2 (wd hw 73 rfl) (wd hw 72 rfl) (wd hw 71 rfl) (wd hw 2 rfl) (by decide) (by decide) (by decide)) (g := (mkF m 1 #[.val (.ref o0), .val (.ref o1), .unset] [(.ref o1)])) rfl rfl (hb hby d6_1)
  obtain ⟨fs, hr, hrun, hended, hW, hsame⟩ := X1.leave (v := some (.int (0 : Int32))) (fun h => by rw [Bd.returns] at h; cases h) hlk
  refine ⟨_, _, pre0 _ ?_, hrun, hended, _, _, rfl, ?_, ⟨_, rfl⟩, hW, hsame.mono (by decide) (by decide)⟩
  · skip
    show Steps p.tables e below (s₁.setTop (mkF m 0 #[.val (.ref o0), .val (.ref o1), .unset] [])) _
    refine XS.aloadN X0.here hx rfl (hb hby d6_0) rfl rfl ?_
    show Steps p.tables e below (s₁.setTop (mkF m 1 #[.val (.ref o0), .val (.ref o1), .unset] [(.ref o1)])) _
    refine st1 _ ?_
    show Steps p.tables e below (T1.setTop (mkF m 4 #[.val (.ref o0), .val (.ref o1), .unset] [(.int (0 : Int32))])) _
    refine XS.ifNo X1.here hx rfl (hb hby d6_4) rfl (XT.i0_ne_f (by decide)) ?_
    show Steps p.tables e below (T1.setTop (mkF m 7 #[.val (.ref o0), .val (.ref o1), .unset] [])) _
    refine XT.iconstV X1.here hx rfl (0 : Int32) (hb hby d6_7) (by decide) ?_
    show Steps p.tables e below (T1.setTop (mkF m 8 #[.val (.ref o0), .val (.ref o1), .unset] [(.int (0 : Int32))])) _
    exact retN X1 hx (t := .boolean) Bd.returns (by simp) (hb hby d6_8) hr
  · skip
    show QeqI Z o0 o1 h0 n0 _ T1.heap _
    rw [e1]
    exact ⟨N0, rfl, rfl⟩
theorem pd__I_V : parseMethodDescriptor "(I)V" = some ⟨[.int], none⟩ := by decide +kernel
theorem d10_0 : decode jdk_33_method_22_code 0 = .ok (.iload_n 0, 1) := by decide +kernel
theorem d10_1 : decode jdk_33_method_22_code 1 = .ok (.bipush (-128), 2) := by decide +kernel
theorem d10_3 : decode jdk_33_method_22_code 3 = .ok (.if_icmp .lt 20, 3) := by decide +kernel
theorem d10_6 : decode jdk_33_method_22_code 6 = .ok (.iload_n 0, 1) := by decide +kernel
theorem d10_7 : decode jdk_33_method_22_code 7 = .ok (.getstatic 191, 3) := by decide +kernel
theorem d10_10 : decode jdk_33_method_22_code 10 = .ok (.if_icmp .gt 13, 3) := by decide +kernel
theorem d10_13 : decode jdk_33_method_22_code 13 = .ok (.getstatic 195, 3) := by decide +kernel
theorem d10_16 : decode jdk_33_method_22_code 16 = .ok (.iload_n 0, 1) := by decide +kernel
theorem d10_17 : decode jdk_33_method_22_code 17 = .ok (.sipush 128, 3) := by decide +kernel
theorem d10_20 : decode jdk_33_method_22_code 20 = .ok (.iadd, 1) := by decide +kernel
theorem d10_21 : decode jdk_33_method_22_code 21 = .ok (.aaload, 1) := by decide +kernel
theorem d10_22 : decode jdk_33_method_22_code 22 = .ok (.areturn, 1) := by decide +kernel
theorem d10_23 : decode jdk_33_method_22_code 23 = .ok (.new 1, 3) := by decide +kernel
theorem d10_26 : decode jdk_33_method_22_code 26 = .ok (.dup, 1) := by decide +kernel
theorem d10_27 : decode jdk_33_method_22_code 27 = .ok (.iload_n 0, 1) := by decide +kernel
theorem d10_28 : decode jdk_33_method_22_code 28 = .ok (.invokespecial 199, 3) := by decide +kernel
theorem d10_31 : decode jdk_33_method_22_code 31 = .ok (.areturn, 1) := by decide +kernel
theorem ef_10 (m : MethodId) (p0 : Int32) : entryFrame m #[(.int p0)] 1 = mkF m 0 #[.val (.int p0)] [] := by first | (simp [entryFrame, mkF, argsToLocals, Value.category]; done) | rfl
def Q10 (Z : State) (p0 : Int32) (w1_cache : Addr) (clI : Cell) (h0 : Heap) (n0 : Nat) (v : Option Value) (h : Heap) (L : List Loc) : Prop := Fr n0 L ∧ ∃ (x10_0 : Addr), v = some (.ref x10_0) ∧ Keep h0 h [] ∧ Exa Z h x10_0 "java/lang/Integer"
set_option maxRecDepth 65536 in
set_option maxHeartbeats 40000000 in
theorem rm10 (l : Launch) (Z : State) (a0 : Array Value) (hw : ∀ d ∈ tables_1, d.before a0 Z = true) (ws : List Jvm.Cond) (p0 : Int32) (w1_cache : Addr) (clI : Cell) (h0 : Heap) (n0 : Nat) (Z0 : n0 ≤ h0.size) (O0 : Old Z n0 h0) (S_Integer_IntegerCache_high : Sta Z Z.heap "java/lang/Integer$IntegerCache" "high" "I" (.int (127 : Int32))) (S_Integer_IntegerCache_cache : Sta Z Z.heap "java/lang/Integer$IntegerCache" "cache" "[Ljava/lang/Integer;" (.ref w1_cache)) (BxI : Bxs Z w1_cache clI "java/lang/Integer" "I" (256 : Int32) (fun j => .int (j - 128))) :
    MetFree l (⟨"java/lang/Integer", "valueOf", "(I)Ljava/lang/Integer;"⟩ : MethodName) (head1 (Jvm.Cond.code (⟨"java/lang/Integer", "valueOf", "(I)Ljava/lang/Integer;"⟩ : MethodName) jdk_33_method_22_code 1 (some (.object "java/lang/Integer")) :: ws) ({ frames := 3, cells := 1, slots := 1, locals := 38 } : Room)) (fun a U => a = #[(.int p0)] ∧ Z.Warmed39 U.vm ∧ U.heap = h0) (fun _ _ _ _ _ => True) (fun _ U o U' => ∃ v L, o = .returned v ∧ Q10 Z p0 w1_cache clI h0 n0 v U'.heap L ∧ FrameEnd U o U' L ({ frames := 3, cells := 1, slots := 1, locals := 38 } : Room).cells ({ frames := 3, cells := 1, slots := 1, locals := 38 } : Room).slots) := by
  refine MetFree.of_bodySF (plainFor_of_name pn_java_lang_Integer) hisR ?_
  intro p e s m args below meth c s₁ Bd hml0 hP hK
  obtain ⟨rfl, hZ, hh⟩ := hP
  have hx := Bd.exec
  have hby := Bd.bytes
  have hml : c.maxLocals = 1 := hml0
  have hown : s.vm.findClass "java/lang/Integer" = some m.cls := findClass_of_methodNamed Bd.named
  have hnm := (name_of_methodNamed Bd.named Bd.method).1
  have hlk := BodyLoose.notSynchronized Bd
  have X0 : Stand p l e ({ frames := 3, cells := 1, slots := 1, locals := 38 } : Room) s m #[(.int p0)] below meth c s₁ [] 0 0 := Stand.of_body Bd
  have e0 : s₁.heap = h0 := by rw [← hh, Bd.state]; rfl
  have N0 := Fr.nil n0
  have pre0 : ∀ t, Steps p.tables e below (s₁.setTop (mkF m 0 #[.val (.int p0)] [])) t → Steps p.tables e below (s₁.setTop (entryFrame m #[(.int p0)] 1)) t := fun t k => castTop (ef_10 m p0) k
  have pre1 : ∀ t, Steps p.tables e below (s₁.setTop (mkF m 3 #[.val (.int p0)] [(.int (-128 : Int32)), (.int p0)])) t → Steps p.tables e below (s₁.setTop (entryFrame m #[(.int p0)] 1)) t := by
    intro t k
    refine pre0 t ?_
    show Steps p.tables e below (s₁.setTop (mkF m 0 #[.val (.int p0)] [])) _
    refine XS.iloadN X0.here hx rfl (hb hby d10_0) rfl ?_
    show Steps p.tables e below (s₁.setTop (mkF m 1 #[.val (.int p0)] [(.int p0)])) _
    refine XT.bipushV X0.here hx rfl (-128 : Int32) (hb hby d10_1) (by decide) ?_
    exact k
  clear pre0
  by_cases c2 : p0 < (-128 : Int32)
  · skip
    obtain ⟨T3, h3, X3, e3, E3, A3, D3, -, st3⟩ := newO X0 hx hZ hown (wd hw 56 rfl) (wd hw 57 rfl) (wd hw 52 rfl) e0 (g := (mkF m 23 #[.val (.int p0)] [])) rfl (hb hby d10_23) (by decide) (by decide)
    obtain ⟨b3, gz3⟩ : ∃ z, z = h0.size := ⟨_, rfl⟩
    rw [← gz3] at A3 D3 st3
    have g4 : n0 ≤ b3 := Nat.le_trans Z0 (Nat.le_of_eq gz3.symm)
    have sz5 : h0.size ≤ b3 := Nat.le_trans (Nat.le_refl h0.size) (Nat.le_of_eq gz3.symm)
    have z6 : n0 ≤ h3.size := Nat.le_trans Z0 E3.1
    have hs7 : h0.size ≤ h3.size := Nat.le_trans (Nat.le_refl h0.size) E3.1
    have F3_value : Fld Z h3 b3 "java/lang/Integer" "value" "I" (.int (0 : Int32)) := D3 (Or.inr (wd hw 70 rfl)) (ty := .int) (by decide)
    obtain ⟨vr8, _, ⟨T8, L8, k8, n8⟩, -, X8, ⟨Lc8, hQ8, l8, y8, z8⟩, st8⟩ := Jvm.Stand.specialBack X3 hx (y := (⟨"java/lang/Integer", "<init>", "(I)V"⟩ : MethodName)) rfl hown (mvT hZ (wd hw 58 rfl)) (mvT hZ (wd hw 59 rfl)) (mvT hZ (wd hw 61 rfl)) (by decide) (backOf (W := 1) (rm11 l Z a0 hw [] b3 p0 (.int (0 : Int32)) h3 n0 z6 A3 F3_value g4) hZ (wd hw 61 rfl) (wd hw 52 rfl) (by decide) (by decide)) (g := (mkF m 28 #[.val (.int p0)] [(.int p0), (.ref b3), (.ref b3)])) rfl (by rw [hml]; rfl) (Steps.refl _) (a := b3) (argsL := [(.int p0)]) (rest := [(.ref b3)]) (lenOf pd__I_V rfl) rfl (by show 2 * 0 + _ ≤ _; exact Nat.le_of_eq rfl) (hb hby d10_28) (fun _ _ => ⟨rfl, e3, (by decide : 1 + 0 ≤ _), (by decide : 1 + 0 ≤ _)⟩)
    dsimp only [Pt.U, Pt.locs, Pt.cells, Pt.slots] at X8 l8 y8 z8 st8 hQ8
    replace X8 := own_stand X8 l8 y8 z8
    clear l8 y8 z8
    have N8q := (show _ ∧ _ from hQ8).1
    have hq8 := (show _ ∧ _ from hQ8).2
    clear hQ8
    have hv8 := hq8.1
    have K8 := hq8.2.1
    have po8_0 := hq8.2.2.1
    have po8_1 := hq8.2.2.2
    clear hq8
    subst hv8
    have z9 : n0 ≤ T8.heap.size := Nat.le_trans z6 K8.1
    have hs10 : h0.size ≤ T8.heap.size := Nat.le_trans hs7 K8.1
    have N8 := Fr.app N0 N8q
    obtain ⟨fs, hr, hrun, hended, hW, hsame⟩ := X8.leave (v := some (.ref b3)) (fun h => by rw [Bd.returns] at h; cases h) hlk
    refine ⟨_, _, pre1 _ ?_, hrun, hended, _, _, rfl, ?_, ⟨_, rfl⟩, hW, hsame.mono (by decide) (by decide)⟩
    · skip
      show Steps p.tables e below (s₁.setTop (mkF m 3 #[.val (.int p0)] [(.int (-128 : Int32)), (.int p0)])) _
      refine XS.icmpYes X0.here hx rfl (pc0 := 3) (pc' := 23) rfl (hb hby d10_3) rfl (XT.ii_lt_t c2) (by decide) (by decide) ?_
      show Steps p.tables e below (s₁.setTop (mkF m 23 #[.val (.int p0)] [])) _
      refine st3 _ ?_
      show Steps p.tables e below (T3.setTop (mkF m 26 #[.val (.int p0)] [(.ref b3)])) _
      refine XS.dup X3.here hx rfl (hb hby d10_26) rfl rfl ?_
      show Steps p.tables e below (T3.setTop (mkF m 27 #[.val (.int p0)] [(.ref b3), (.ref b3)])) _
      refine XS.iloadN X3.here hx rfl (hb hby d10_27) rfl ?_
      show Steps p.tables e below (T3.setTop (mkF m 28 #[.val (.int p0)] [(.int p0), (.ref b3), (.ref b3)])) _
      refine st8.trans ?_
      show Steps p.tables e below (T8.setTop (mkF m 31 #[.val (.int p0)] [(.ref b3)])) _
      exact X8.areturnOut hx rfl Bd.returns rfl (hb hby d10_31) hr
    · skip
      show Q10 Z p0 w1_cache clI h0 n0 _ T8.heap _
      exact ⟨N8, b3, rfl, (((Keep.refl h0 []).ext E3).trans K8 (allS (Or.inr sz5) all0)), po8_0⟩
  · skip
    obtain ⟨T11, X11, e11, st11⟩ := getS2 X0 hx hZ hown (host := "") (Or.inl (wd hw 54 rfl)) Via.refl e0 (Sta.ext O0.2 S_Integer_IntegerCache_high) (g := (mkF m 7 #[.val (.int p0)] [(.int p0)])) rfl (hb hby d10_7)
    have pre12 : ∀ t, Steps p.tables e below (T11.setTop (mkF m 10 #[.val (.int p0)] [(.int (127 : Int32)), (.int p0)])) t → Steps p.tables e below (s₁.setTop (entryFrame m #[(.int p0)] 1)) t := by
      intro t k
      refine pre1 t ?_
      show Steps p.tables e below (s₁.setTop (mkF m 3 #[.val (.int p0)] [(.int (-128 : Int32)), (.int p0)])) _
      refine XS.icmpNo X0.here hx rfl (hb hby d10_3) rfl (XT.ii_lt_f c2) ?_
      show Steps p.tables e below (s₁.setTop (mkF m 6 #[.val (.int p0)] [])) _
      refine XS.iloadN X0.here hx rfl (hb hby d10_6) rfl ?_
      show Steps p.tables e below (s₁.setTop (mkF m 7 #[.val (.int p0)] [(.int p0)])) _
      refine st11 _ ?_
      exact k
    clear pre1 st11
    by_cases c13 : (127 : Int32) < p0
    · skip
      obtain ⟨T14, h14, X14, e14, E14, A14, D14, -, st14⟩ := newO X11 hx hZ hown (wd hw 56 rfl) (wd hw 57 rfl) (wd hw 52 rfl) e11 (g := (mkF m 23 #[.val (.int p0)] [])) rfl (hb hby d10_23) (by decide) (by decide)
      obtain ⟨b14, gz14⟩ : ∃ z, z = h0.size := ⟨_, rfl⟩
      rw [← gz14] at A14 D14 st14
      have g15 : n0 ≤ b14 := Nat.le_trans Z0 (Nat.le_of_eq gz14.symm)
      have sz16 : h0.size ≤ b14 := Nat.le_trans (Nat.le_refl h0.size) (Nat.le_of_eq gz14.symm)
      have z17 : n0 ≤ h14.size := Nat.le_trans Z0 E14.1
      have hs18 : h0.size ≤ h14.size := Nat.le_trans (Nat.le_refl h0.size) E14.1
      have F14_value : Fld Z h14 b14 "java/lang/Integer" "value" "I" (.int (0 : Int32)) := D14 (Or.inr (wd hw 70 rfl)) (ty := .int) (by decide)
      obtain ⟨vr19, _, ⟨T19, L19, k19, n19⟩, -, X19, ⟨Lc19, hQ19, l19, y19, z19⟩, st19⟩ := Jvm.Stand.specialBack X14 hx (y := (⟨"java/lang/Integer", "<init>", "(I)V"⟩ : MethodName)) rfl hown (mvT hZ (wd hw 58 rfl)) (mvT hZ (wd hw 59 rfl)) (mvT hZ (wd hw 61 rfl)) (by decide) (backOf (W := 1) (rm11 l Z a0 hw [] b14 p0 (.int (0 : Int32)) h14 n0 z17 A14 F14_value g15) hZ (wd hw 61 rfl) (wd hw 52 rfl) (by decide) (by decide)) (g := (mkF m 28 #[.val (.int p0)] [(.int p0), (.ref b14), (.ref b14)])) rfl (by rw [hml]; rfl) (Steps.refl _) (a := b14) (argsL := [(.int p0)]) (rest := [(.ref b14)]) (lenOf pd__I_V rfl) rfl (by show 2 * 0 + _ ≤ _; exact Nat.le_of_eq rfl) (hb hby d10_28) (fun _ _ => ⟨rfl, e14, (by decide : 1 + 0 ≤ _), (by decide : 1 + 0 ≤ _)⟩)
      dsimp only [Pt.U, Pt.locs, Pt.cells, Pt.slots] at X19 l19 y19 z19 st19 hQ19
      replace X19 := own_stand X19 l19 y19 z19
      clear l19 y19 z19
      have N19q := (show _ ∧ _ from hQ19).1
      have hq19 := (show _ ∧ _ from hQ19).2
      clear hQ19
      have hv19 := hq19.1
      have K19 := hq19.2.1
      have po19_0 := hq19.2.2.1
      have po19_1 := hq19.2.2.2
      clear hq19
      subst hv19
      have z20 : n0 ≤ T19.heap.size := Nat.le_trans z17 K19.1
      have hs21 : h0.size ≤ T19.heap.size := Nat.le_trans hs18 K19.1
      have N19 := Fr.app N0 N19q
      obtain ⟨fs, hr, hrun, hended, hW, hsame⟩ := X19.leave (v := some (.ref b14)) (fun h => by rw [Bd.returns] at h; cases h) hlk
      refine ⟨_, _, pre12 _ ?_, hrun, hended, _, _, rfl, ?_, ⟨_, rfl⟩, hW, hsame.mono (by decide) (by decide)⟩
      · skip
        show Steps p.tables e below (T11.setTop (mkF m 10 #[.val (.int p0)] [(.int (127 : Int32)), (.int p0)])) _
        refine XS.icmpYes X11.here hx rfl (pc0 := 10) (pc' := 23) rfl (hb hby d10_10) rfl (XT.ii_gt_t c13) (by decide) (by decide) ?_
        show Steps p.tables e below (T11.setTop (mkF m 23 #[.val (.int p0)] [])) _
        refine st14 _ ?_
        show Steps p.tables e below (T14.setTop (mkF m 26 #[.val (.int p0)] [(.ref b14)])) _
        refine XS.dup X14.here hx rfl (hb hby d10_26) rfl rfl ?_
        show Steps p.tables e below (T14.setTop (mkF m 27 #[.val (.int p0)] [(.ref b14), (.ref b14)])) _
        refine XS.iloadN X14.here hx rfl (hb hby d10_27) rfl ?_
        show Steps p.tables e below (T14.setTop (mkF m 28 #[.val (.int p0)] [(.int p0), (.ref b14), (.ref b14)])) _
        refine st19.trans ?_
        show Steps p.tables e below (T19.setTop (mkF m 31 #[.val (.int p0)] [(.ref b14)])) _
        exact X19.areturnOut hx rfl Bd.returns rfl (hb hby d10_31) hr
      · skip
        show Q10 Z p0 w1_cache clI h0 n0 _ T19.heap _
        exact ⟨N19, b14, rfl, (((Keep.refl h0 []).ext E14).trans K19 (allS (Or.inr sz16) all0)), po19_0⟩
    · skip
      obtain ⟨T22, X22, e22, st22⟩ := getS2 X11 hx hZ hown (host := "") (Or.inl (wd hw 74 rfl)) Via.refl e11 (Sta.ext O0.2 S_Integer_IntegerCache_cache) (g := (mkF m 13 #[.val (.int p0)] [])) rfl (hb hby d10_13)
      obtain ⟨Ar23, S23, M23⟩ := Bxs.ext BxI O0.2
      have hin23 : ¬ ((p0 + (128 : Int32)) < 0 ∨ clI.slots.size ≤ ((p0 + (128 : Int32))).toNatClampNeg) := inb_of S23 (own_ibI c2 c13)
      obtain ⟨bx23, hbx23, Eb23, -⟩ := BxI.2.2.2 (p0 + (128 : Int32)) hin23
      have Ex23 := Eb23.ext O0.2
      obtain ⟨fs, hr, hrun, hended, hW, hsame⟩ := X22.leave (v := some (.ref bx23)) (fun h => by rw [Bd.returns] at h; cases h) hlk
      refine ⟨_, _, pre12 _ ?_, hrun, hended, _, _, rfl, ?_, ⟨_, rfl⟩, hW, hsame.mono (by decide) (by decide)⟩
      · skip
        show Steps p.tables e below (T11.setTop (mkF m 10 #[.val (.int p0)] [(.int (127 : Int32)), (.int p0)])) _
        refine XS.icmpNo X11.here hx rfl (hb hby d10_10) rfl (XT.ii_gt_f c13) ?_
        show Steps p.tables e below (T11.setTop (mkF m 13 #[.val (.int p0)] [])) _
        refine st22 _ ?_
        show Steps p.tables e below (T22.setTop (mkF m 16 #[.val (.int p0)] [(.ref w1_cache)])) _
        refine XS.iloadN X22.here hx rfl (hb hby d10_16) rfl ?_
        show Steps p.tables e below (T22.setTop (mkF m 17 #[.val (.int p0)] [(.int p0), (.ref w1_cache)])) _
        refine XT.sipushV X22.here hx rfl (128 : Int32) (hb hby d10_17) (by decide) ?_
        show Steps p.tables e below (T22.setTop (mkF m 20 #[.val (.int p0)] [(.int (128 : Int32)), (.int p0), (.ref w1_cache)])) _
        refine XS.iadd X22.here hx rfl (hb hby d10_20) rfl ?_
        show Steps p.tables e below (T22.setTop (mkF m 21 #[.val (.int p0)] [(.int (p0 + (128 : Int32))), (.ref w1_cache)])) _
        refine X22.aaload hx (j := (p0 + (128 : Int32))) (v := (.ref bx23)) (by rw [e22]; exact Ar23.1) (State.isArrayOf_alike hZ.alike Ar23.2.1) rfl Ar23.2.2 hin23 hbx23 (g := (mkF m 21 #[.val (.int p0)] [(.int (p0 + (128 : Int32))), (.ref w1_cache)])) rfl rfl (hb hby d10_21) _ ?_
        show Steps p.tables e below (T22.setTop (mkF m 22 #[.val (.int p0)] [(.ref bx23)])) _
        exact X22.areturnOut hx rfl Bd.returns rfl (hb hby d10_22) hr
      · skip
        show Q10 Z p0 w1_cache clI h0 n0 _ T22.heap _
        rw [e22]
        exact ⟨N0, bx23, rfl, (Keep.refl h0 []), Ex23⟩
theorem pd__I_D : parseMethodDescriptor "(I)D" = some ⟨[.int], some .double⟩ := by decide +kernel
theorem pd__IIDD_V : parseMethodDescriptor "(IIDD)V" = some ⟨[.int, .int, .double, .double], none⟩ := by decide +kernel
theorem pd__II_Z : parseMethodDescriptor "(II)Z" = some ⟨[.int, .int], some .boolean⟩ := by decide +kernel
theorem pd__Ljava_lang_Object__Z : parseMethodDescriptor "(Ljava/lang/Object;)Z" = some ⟨[(.object "java/lang/Object")], some .boolean⟩ := by decide +kernel
theorem pd__I_Ljava_lang_Integer_ : parseMethodDescriptor "(I)Ljava/lang/Integer;" = some ⟨[.int], some (.object "java/lang/Integer")⟩ := by decide +kernel
theorem ef_0 (m : MethodId) (q0 : Int64) (q1 : Int64) (q2 : Int64) (q3 : Int64) (p4 : Int32) : entryFrame m #[(.long q0), (.long q1), (.long q2), (.long q3), (.int p4)] maxLocals = mkF m 0 #[.val (.long q0), .second, .val (.long q1), .second, .val (.long q2), .second, .val (.long q3), .second, .val (.int p4), .unset, .unset, .unset, .unset, .unset, .unset, .unset, .unset, .unset, .unset, .unset, .unset, .unset, .unset] [] := by first | (simp [entryFrame, mkF, argsToLocals, Value.category, maxLocals]; done) | rfl
def v0_1 (q0 : Int64) (q1 : Int64) (q2 : Int64) (q3 : Int64) (p4 : Int32) : Int32 := ((XT.ushrL q0 (32 : Int32)).toInt32)
def v0_2 (q0 : Int64) (q1 : Int64) (q2 : Int64) (q3 : Int64) (p4 : Int32) : Int32 := (q0.toInt32)
def v0_3 (q0 : Int64) (q1 : Int64) (q2 : Int64) (q3 : Int64) (p4 : Int32) : Int32 := (((XT.ushrL q1 (32 : Int32)).toInt32) &&& (2147483647 : Int32))
def v0_4 (q0 : Int64) (q1 : Int64) (q2 : Int64) (q3 : Int64) (p4 : Int32) : Int32 := ((q1.toInt32) &&& (2147483647 : Int32))
def v0_5 (q0 : Int64) (q1 : Int64) (q2 : Int64) (q3 : Int64) (p4 : Int32) : Int32 := ((XT.ushrL q2 (32 : Int32)).toInt32)
def v0_6 (q0 : Int64) (q1 : Int64) (q2 : Int64) (q3 : Int64) (p4 : Int32) : Int32 := (q2.toInt32)
def v0_7 (q0 : Int64) (q1 : Int64) (q2 : Int64) (q3 : Int64) (p4 : Int32) : Int32 := ((XT.ushrL q3 (32 : Int32)).toInt32)
def v0_8 (q0 : Int64) (q1 : Int64) (q2 : Int64) (q3 : Int64) (p4 : Int32) : Int32 := (q3.toInt32)
def v0_9 (q0 : Int64) (q1 : Int64) (q2 : Int64) (q3 : Int64) (p4 : Int32) : UInt64 := (f1 (v0_5 q0 q1 q2 q3 p4))
def v0_10 (q0 : Int64) (q1 : Int64) (q2 : Int64) (q3 : Int64) (p4 : Int32) : UInt64 := (f1 (v0_7 q0 q1 q2 q3 p4))
def v0_11 (q0 : Int64) (q1 : Int64) (q2 : Int64) (q3 : Int64) (p4 : Int32) : UInt64 := (f1 (v0_6 q0 q1 q2 q3 p4))
def v0_12 (q0 : Int64) (q1 : Int64) (q2 : Int64) (q3 : Int64) (p4 : Int32) : UInt64 := (f1 (v0_8 q0 q1 q2 q3 p4))
def v0_13 (q0 : Int64) (q1 : Int64) (q2 : Int64) (q3 : Int64) (p4 : Int32) : Int32 := (p4 &&& (3 : Int32))
def v0_14 (q0 : Int64) (q1 : Int64) (q2 : Int64) (q3 : Int64) (p4 : Int32) : Int32 := (f13 (v0_5 q0 q1 q2 q3 p4) (v0_6 q0 q1 q2 q3 p4))
def v0_15 (q0 : Int64) (q1 : Int64) (q2 : Int64) (q3 : Int64) (p4 : Int32) : Int32 := (f13 (v0_7 q0 q1 q2 q3 p4) (v0_8 q0 q1 q2 q3 p4))
def v0_16 (q0 : Int64) (q1 : Int64) (q2 : Int64) (q3 : Int64) (p4 : Int32) : Int32 := (if (v0_1 q0 q1 q2 q3 p4) = (v0_2 q0 q1 q2 q3 p4) then (if (v0_3 q0 q1 q2 q3 p4) = (v0_4 q0 q1 q2 q3 p4) then (if (v0_14 q0 q1 q2 q3 p4) = (0 : Int32) then (0 : Int32) else (if (v0_15 q0 q1 q2 q3 p4) = (0 : Int32) then (0 : Int32) else (1 : Int32))) else (0 : Int32)) else (0 : Int32))
def v0_17 (q0 : Int64) (q1 : Int64) (q2 : Int64) (q3 : Int64) (p4 : Int32) : Int32 := (f6 (v0_1 q0 q1 q2 q3 p4) (v0_2 q0 q1 q2 q3 p4) (v0_3 q0 q1 q2 q3 p4) (v0_4 q0 q1 q2 q3 p4) (v0_9 q0 q1 q2 q3 p4) (v0_11 q0 q1 q2 q3 p4) (v0_10 q0 q1 q2 q3 p4) (v0_12 q0 q1 q2 q3 p4))
def v0_18 (q0 : Int64) (q1 : Int64) (q2 : Int64) (q3 : Int64) (p4 : Int32) : Int32 := (f6 (v0_2 q0 q1 q2 q3 p4) (v0_1 q0 q1 q2 q3 p4) (v0_4 q0 q1 q2 q3 p4) (v0_3 q0 q1 q2 q3 p4) (v0_11 q0 q1 q2 q3 p4) (v0_9 q0 q1 q2 q3 p4) (v0_12 q0 q1 q2 q3 p4) (v0_10 q0 q1 q2 q3 p4))
def v0_19 (q0 : Int64) (q1 : Int64) (q2 : Int64) (q3 : Int64) (p4 : Int32) : Int32 := (if (v0_18 q0 q1 q2 q3 p4) = (v0_16 q0 q1 q2 q3 p4) then (1 : Int32) else (0 : Int32))
def v0_20 (q0 : Int64) (q1 : Int64) (q2 : Int64) (q3 : Int64) (p4 : Int32) : Int32 := (f6 (v0_1 q0 q1 q2 q3 p4) (v0_1 q0 q1 q2 q3 p4) (v0_3 q0 q1 q2 q3 p4) (v0_3 q0 q1 q2 q3 p4) (v0_9 q0 q1 q2 q3 p4) (v0_9 q0 q1 q2 q3 p4) (v0_10 q0 q1 q2 q3 p4) (v0_10 q0 q1 q2 q3 p4))
/-own-/
theorem own_int (a : Int32) : ∃ n : Int, FP.Core.DInt n (f1 a) ∧ (f14 a).toInt = n := by
  have h1 : (v14_1 a).toInt = (v1_1 a).toInt := Int32.toInt_toInt64 _
  have hl := (v1_1 a).toInt_lt
  have hg := (v1_1 a).le_toInt
  unfold f1 f14
  by_cases c : a &&& (1 : Int32) = 0
  · rw [if_pos (show v1_2 a = 0 from c), if_pos (show v14_2 a = 0 from c)]
    exact ⟨_, FP.Core.i2d_int _, h1⟩
  · rw [if_neg (show ¬ v1_2 a = 0 from c), if_neg (show ¬ v14_2 a = 0 from c)]
    have e : FP.dneg (FP.i2d (v1_1 a)) = FP.Core.dneg (FP.Core.i2d (v1_1 a)) := FP.dneg_core ((FP.Core.notNaN_iff _).mpr (FP.Core.DInt_ne_nan (FP.Core.i2d_int _)))
    rw [e]
    refine ⟨_, FP.Core.dneg_int (FP.Core.i2d_int _), ?_⟩
    rw [Int64.toInt_neg, h1]
    exact Int.bmod_eq_of_le (by omega) (by omega)
theorem own_bit (a : Int32) : a &&& (1 : Int32) = 0 ∨ a &&& (1 : Int32) = 1 := by
  have h : ∀ x : BitVec 32, x &&& 1#32 = 0#32 ∨ x &&& 1#32 = 1#32 := by
    intro x
    have e : (x &&& 1#32).toNat = x.toNat % 2 := by rw [BitVec.toNat_and]; exact Nat.and_one_is_mod _
    rcases Nat.mod_two_eq_zero_or_one x.toNat with q | q
    · exact .inl (BitVec.eq_of_toNat_eq (by rw [e, q]; rfl))
    · exact .inr (BitVec.eq_of_toNat_eq (by rw [e, q]; rfl))
  rcases h a.toBitVec with h | h
  · exact .inl (Int32.toBitVec_inj.mp h)
  · exact .inr (Int32.toBitVec_inj.mp h)
theorem own_zero (a : Int32) (h : (f14 a).toInt = 0) : f1 a = if a &&& (1 : Int32) = 0 then FP.i2d 0 else FP.dneg (FP.i2d 0) := by
  have h1 : (v14_1 a).toInt = (v1_1 a).toInt := Int32.toInt_toInt64 _
  have hl := (v1_1 a).toInt_lt
  have hg := (v1_1 a).le_toInt
  have hz : v1_1 a = 0 := by
    refine Int32.toInt.inj ?_
    show (v1_1 a).toInt = 0
    unfold f14 at h
    split at h
    · rw [← h1]; exact h
    · rw [Int64.toInt_neg, h1] at h
      rw [Int.bmod_eq_of_le (by omega) (by omega)] at h
      omega
  unfold f1
  rw [hz]
  rfl
theorem own_same (a b : Int32) : f1 a = f1 b ↔ ¬ f13 a b = 0 := by
  obtain ⟨na, da, ha⟩ := own_int a
  obtain ⟨nb, db, hb⟩ := own_int b
  unfold f13 v13_1 v13_2
  by_cases c : f14 a = f14 b
  · rw [if_pos c]
    have hn : na = nb := by rw [← ha, ← hb, c]
    subst hn
    by_cases z : f14 a = 0
    · rw [if_pos z]
      have h0 : (f14 a).toInt = 0 := by rw [z]; rfl
      have h0' : (f14 b).toInt = 0 := by rw [← c]; exact h0
      rw [own_zero a h0, own_zero b h0']
      unfold v13_5 v13_3 v13_4
      have e1 : ¬ FP.i2d 0 = FP.dneg (FP.i2d 0) := by decide +kernel
      have e2 : ¬ FP.dneg (FP.i2d 0) = FP.i2d 0 := fun h => e1 h.symm
      have n1 : nar .boolean (1 : Int32) = 1 := by decide
      have n0 : nar .boolean (0 : Int32) = 0 := by decide
      have o : ¬ ((1 : Int32) = 0) := by decide
      have o' : ¬ ((0 : Int32) = 1) := by decide
      rcases own_bit a with x | x <;> rcases own_bit b with y | y <;> rw [x, y] <;> simp [e1, e2, n1, n0, o, o']
    · rw [if_neg z]
      have hz : na ≠ 0 := by
        intro h
        refine z (Int64.toInt.inj ?_)
        rw [ha, h]; rfl
      exact ⟨fun _ => by decide, fun _ => FP.Core.dint_unique hz da db⟩
  · rw [if_neg c]
    refine ⟨fun h => ?_, fun h => absurd rfl h⟩
    exfalso
    rw [← h] at db
    have e := FP.Core.dcmp_int da db
    rw [FP.Core.dcmp_int da da] at e
    have e' : compare na nb = compare na na := (Option.some.inj e).symm
    rw [(FP.Core.compare_eq_iff na na).mpr rfl, FP.Core.compare_eq_iff] at e'
    exact c (Int64.toInt.inj (by rw [ha, hb, e']))
theorem own_nnf (a : Int32) : FP.Core.val64 (f1 a) ≠ .nan := by
  obtain ⟨n, d, -⟩ := own_int a
  exact FP.Core.DInt_ne_nan d
theorem own_nan (x : UInt64) (h : FP.Core.val64 x ≠ .nan) : v8_1 x = 0 := by
  have e : FP.dcmp x x = some .eq := FP.Core.dcmp_eq.mpr ⟨h, h, rfl⟩
  unfold v8_1 f9 v9_2 v9_1
  rw [e]
  decide
theorem own_fin (x : UInt64) (h : FP.Core.DFin x) : ¬ f4 x = 0 := by
  have hb := (FP.Core.fin_bits x).mp h
  have ht : (x &&& 0x7fffffffffffffff).toNat = x.toNat % 2 ^ 63 := by
    rw [UInt64.toNat_and]
    exact Nat.and_two_pow_sub_one_eq_mod x.toNat 63
  have k1 : FP.Core.val64 (x &&& 0x7fffffffffffffff) ≠ .nan := by
    rw [FP.Core.ne_nan, ht]; omega
  have k2 : FP.Core.val64 9218868437227405311 ≠ .nan := by rw [FP.Core.ne_nan]; decide
  have e := FP.Core.dcmp_key k1 k2
  have d1 : FP.Core.dkey (x &&& 0x7fffffffffffffff) = ((x.toNat % 2 ^ 63 : Nat) : Int) := by
    unfold FP.Core.dkey
    rw [ht, if_neg (by omega)]
  have d2 : FP.Core.dkey 9218868437227405311 = 9218868437227405311 := by decide
  rw [d1, d2] at e
  unfold f4 v4_4 v4_3 v4_2 v4_1
  rw [show FP.dcmp (x &&& 0x7fffffffffffffff) 9218868437227405311 = _ from e]
  have hle : ((x.toNat % 2 ^ 63 : Nat) : Int) ≤ 9218868437227405311 := by omega
  have hc : compare ((x.toNat % 2 ^ 63 : Nat) : Int) (9218868437227405311 : Int) ≠ .gt := by
    intro q
    rw [FP.Core.compare_gt_iff] at q
    omega
  generalize compare ((x.toNat % 2 ^ 63 : Nat) : Int) (9218868437227405311 : Int) = o at hc
  cases o
  · decide
  · decide
  · exact absurd rfl hc
theorem own_dfin (a : Int32) : FP.Core.DFin (f1 a) := by
  unfold f1
  split
  · exact FP.Core.i2d_fin _
  · obtain ⟨s, c, q, h⟩ := FP.Core.i2d_fin (v1_1 a)
    refine ⟨!s, c, q, ?_⟩
    refine (FP.val64_dneg (FP.i2d (v1_1 a))).trans ?_
    rw [show FP.Core.val64 (FP.i2d (v1_1 a)) = _ from h]; rfl
theorem own_f7 (x y : UInt64) (hx : FP.Core.val64 x ≠ .nan) (hy : FP.Core.val64 y ≠ .nan) : f7 x y = 0 ↔ x = y := by
  constructor
  · intro h
    apply Decidable.byContradiction
    intro hne
    have h5 : ¬ v7_5 x y = 0 := by
      unfold v7_5 v7_3 v7_4 f8
      rw [if_neg (fun q => hne (by have := congrArg Int64.toUInt64 q; simpa using this))]
      split <;> decide
    revert h
    unfold f7
    split
    · decide
    · split
      · decide
      · exact h5
  · intro h
    subst h
    have e : FP.dcmp x x = some .eq := FP.Core.dcmp_eq.mpr ⟨hx, hx, rfl⟩
    unfold f7 v7_1 v7_2 v7_5 v7_3 v7_4
    rw [e]
    rw [if_neg (by decide), if_neg (by decide), if_pos rfl]
theorem own_and (x m : Int32) (h : 0 ≤ m.toInt) : 0 ≤ (x &&& m).toInt := by
  have hh : ∀ u v : BitVec 32, 0 ≤ v.toInt → 0 ≤ (u &&& v).toInt := by
    intro u v hv
    have h1 : v.msb = false := by
      rw [BitVec.toInt_eq_msb_cond] at hv
      cases hm : v.msb
      · rfl
      · rw [hm, if_pos rfl] at hv; have := v.isLt; omega
    have h2 : (u &&& v).msb = false := by rw [BitVec.msb_and, h1, Bool.and_false]
    rw [BitVec.toInt_eq_msb_cond, h2]
    simp only [Bool.false_eq_true, if_false]
    omega
  exact hh x.toBitVec m.toBitVec h
theorem own_nonneg (x : Int32) : ¬ (x &&& (2147483647 : Int32)) < (0 : Int32) := by
  have h := own_and x 2147483647 (by decide)
  rw [Int32.lt_iff_toInt_lt]
  exact Int.not_lt.mpr h
theorem own_f6 (i j u v a b c d : Int32) : f6 i j u v (f1 a) (f1 b) (f1 c) (f1 d) = if i = j then (if u = v then (if f13 a b = (0 : Int32) then (0 : Int32) else (if f13 c d = (0 : Int32) then (0 : Int32) else (1 : Int32))) else (0 : Int32)) else (0 : Int32) := by
  have n1 : nar .boolean (1 : Int32) = 1 := by decide
  have n0 : nar .boolean (0 : Int32) = 0 := by decide
  have e1 := (own_f7 (f1 a) (f1 b) (own_nnf a) (own_nnf b)).trans (own_same a b)
  have e2 := (own_f7 (f1 c) (f1 d) (own_nnf c) (own_nnf d)).trans (own_same c d)
  unfold f6 v6_3 v6_1 v6_2
  by_cases h1 : i = j <;> by_cases h2 : u = v <;> by_cases h3 : f13 a b = 0 <;> by_cases h4 : f13 c d = 0 <;> simp [h1, h2, h3, h4, e1, e2, n1, n0]
theorem own_self (a : Int32) : ¬ f13 a a = 0 := (own_same a a).mp rfl
theorem own_sym (a b : Int32) : f13 a b = 0 ↔ f13 b a = 0 := by
  have h1 := own_same a b
  have h2 := own_same b a
  constructor
  · intro h
    exact Decidable.byContradiction fun q => h1.mp (h2.mpr q).symm h
  · intro h
    exact Decidable.byContradiction fun q => h2.mp (h1.mpr q).symm h
theorem own_eq1 (q0 q1 q2 q3 : Int64) (p4 : Int32) (_h : (v0_13 q0 q1 q2 q3 p4) = (0 : Int32)) : (v0_17 q0 q1 q2 q3 p4) = (v0_16 q0 q1 q2 q3 p4) := own_f6 _ _ _ _ _ _ _ _
theorem own_v0_19 (q0 q1 q2 q3 : Int64) (p4 : Int32) (_h : (v0_13 q0 q1 q2 q3 p4) = (0 : Int32)) : v0_19 q0 q1 q2 q3 p4 = 1 := by
  unfold v0_19
  rw [if_pos]
  refine (own_f6 _ _ _ _ _ _ _ _).trans ?_
  unfold v0_16 v0_14 v0_15
  have e1 := own_sym (v0_5 q0 q1 q2 q3 p4) (v0_6 q0 q1 q2 q3 p4)
  have e2 := own_sym (v0_7 q0 q1 q2 q3 p4) (v0_8 q0 q1 q2 q3 p4)
  by_cases h1 : (v0_1 q0 q1 q2 q3 p4) = (v0_2 q0 q1 q2 q3 p4)
  · by_cases h2 : (v0_3 q0 q1 q2 q3 p4) = (v0_4 q0 q1 q2 q3 p4)
    · simp only [h1, h2, e1, e2]
    · rw [if_pos h1, if_neg h2, if_pos h1.symm, if_neg (fun q => h2 q.symm)]
  · rw [if_neg h1, if_neg (fun q => h1 q.symm)]
theorem own_eqs (q0 q1 q2 q3 : Int64) (p4 : Int32) : v0_20 q0 q1 q2 q3 p4 = 1 := by
  refine (own_f6 _ _ _ _ _ _ _ _).trans ?_
  rw [if_pos rfl, if_pos rfl, if_neg (own_self _), if_neg (own_self _)]
theorem own_no (x : Int32) : Jvm.Free.Fl.NoNaN64 (f1 x) := Jvm.Free.Fl.val64_no.mpr (own_nnf x)
theorem own_nf (x : Int32) : v8_1 (f1 x) = 0 := own_nan _ (own_nnf x)
theorem own_ff (x : Int32) : ¬ f4 (f1 x) = 0 := own_fin _ (own_dfin x)
def Q0 (Z : State) (q0 : Int64) (q1 : Int64) (q2 : Int64) (q3 : Int64) (p4 : Int32) (w1_cache : Addr) (clI : Cell) (h0 : Heap) (n0 : Nat) (v : Option Value) (h : Heap) (L : List Loc) : Prop := v = some (.int (1 : Int32)) ∧ Fr n0 L
set_option maxRecDepth 65536 in
set_option maxHeartbeats 40000000 in
theorem rm0 (l : Launch) (Z : State) (a0 : Array Value) (hw : ∀ d ∈ tables_1, d.before a0 Z = true) (ws : List Jvm.Cond) (q0 : Int64) (q1 : Int64) (q2 : Int64) (q3 : Int64) (p4 : Int32) (w1_cache : Addr) (clI : Cell) (h0 : Heap) (n0 : Nat) (Z0 : n0 ≤ h0.size) (O0 : Old Z n0 h0) (S_Integer_IntegerCache_high : Sta Z Z.heap "java/lang/Integer$IntegerCache" "high" "I" (.int (127 : Int32))) (S_Integer_IntegerCache_cache : Sta Z Z.heap "java/lang/Integer$IntegerCache" "cache" "[Ljava/lang/Integer;" (.ref w1_cache)) (BxI : Bxs Z w1_cache clI "java/lang/Integer" "I" (256 : Int32) (fun j => .int (j - 128))) :
    MetFree l x (head1 (Jvm.Cond.code x code maxLocals ret :: ws) room_1) (fun a U => a = #[(.long q0), (.long q1), (.long q2), (.long q3), (.int p4)] ∧ Z.Warmed39 U.vm ∧ U.heap = h0) (fun _ _ _ _ _ => True) (fun _ U o U' => ∃ v L, o = .returned v ∧ Q0 Z q0 q1 q2 q3 p4 w1_cache clI h0 n0 v U'.heap L ∧ FrameEnd U o U' L room_1.cells room_1.slots) := by
  refine MetFree.of_bodySF (plainFor_of_name pn_com_example_khonsu_khonsu_trajectory_TrajectoryRowEqualsPinLaw) hisR ?_
  intro p e s m args below meth c s₁ Bd hml0 hP hK
  obtain ⟨rfl, hZ, hh⟩ := hP
  have hx := Bd.exec
  have hby := Bd.bytes
  have hml : c.maxLocals = 23 := hml0
  have hown : s.vm.findClass "com/example/khonsu/khonsu/trajectory/TrajectoryRowEqualsPinLaw" = some m.cls := findClass_of_methodNamed Bd.named
  have hnm := (name_of_methodNamed Bd.named Bd.method).1
  have hlk := BodyLoose.notSynchronized Bd
  have X0 : Stand p l e room_1 s m #[(.long q0), (.long q1), (.long q2), (.long q3), (.int p4)] below meth c s₁ [] 0 0 := Stand.of_body Bd
  have e0 : s₁.heap = h0 := by rw [← hh, Bd.state]; rfl
  have N0 := Fr.nil n0
  have pre0 : ∀ t, Steps p.tables e below (s₁.setTop (mkF m 0 #[.val (.long q0), .second, .val (.long q1), .second, .val (.long q2), .second, .val (.long q3), .second, .val (.int p4), .unset, .unset, .unset, .unset, .unset, .unset, .unset, .unset, .unset, .unset, .unset, .unset, .unset, .unset] [])) t → Steps p.tables e below (s₁.setTop (entryFrame m #[(.long q0), (.long q1), (.long q2), (.long q3), (.int p4)] maxLocals)) t := fun t k => castTop (ef_0 m q0 q1 q2 q3 p4) k
  obtain ⟨T1, h1, X1, e1, E1, A1, D1, -, st1⟩ := newO X0 hx hZ hown (wd hw 1 rfl) (wd hw 2 rfl) (wd hw 3 rfl) e0 (g := (mkF m 54 #[.val (.long q0), .second, .val (.long q1), .second, .val (.long q2), .second, .val (.long q3), .second, .val (.int p4), .val (.int (v0_1 q0 q1 q2 q3 p4)), .val (.int (v0_2 q0 q1 q2 q3 p4)), .val (.int (v0_3 q0 q1 q2 q3 p4)), .val (.int (v0_4 q0 q1 q2 q3 p4)), .val (.int (v0_5 q0 q1 q2 q3 p4)), .val (.int (v0_6 q0 q1 q2 q3 p4)), .val (.int (v0_7 q0 q1 q2 q3 p4)), .val (.int (v0_8 q0 q1 q2 q3 p4)), .unset, .unset, .unset, .unset, .unset, .unset] [])) rfl (hb hby at_54) (by decide) (by decide)
  obtain ⟨b1, gz1⟩ : ∃ z, z = h0.size := ⟨_, rfl⟩
  rw [← gz1] at A1 D1 st1
  have g2 : n0 ≤ b1 := Nat.le_trans Z0 (Nat.le_of_eq gz1.symm)
  have sz3 : h0.size ≤ b1 := Nat.le_trans (Nat.le_refl h0.size) (Nat.le_of_eq gz1.symm)
  have z4 : n0 ≤ h1.size := Nat.le_trans Z0 E1.1
  have hs5 : h0.size ≤ h1.size := Nat.le_trans (Nat.le_refl h0.size) E1.1
  have F1_id : Fld Z h1 b1 "com/example/khonsu/khonsu/trajectory/TrajectoryRow" "id" "I" (.int (0 : Int32)) := D1 (Or.inr (wd hw 24 rfl)) (ty := .int) (by decide)
  have F1_frame : Fld Z h1 b1 "com/example/khonsu/khonsu/trajectory/TrajectoryRow" "frame" "I" (.int (0 : Int32)) := D1 (Or.inr (wd hw 26 rfl)) (ty := .int) (by decide)
  have F1_x : Fld Z h1 b1 "com/example/khonsu/khonsu/trajectory/TrajectoryRow" "x" "D" (.double (0 : UInt64)) := D1 (Or.inr (wd hw 28 rfl)) (ty := .double) (by decide)
  have F1_y : Fld Z h1 b1 "com/example/khonsu/khonsu/trajectory/TrajectoryRow" "y" "D" (.double (0 : UInt64)) := D1 (Or.inr (wd hw 30 rfl)) (ty := .double) (by decide)
  obtain ⟨vr6, _, ⟨T6, L6, k6, n6⟩, -, X6, ⟨Lc6, hQ6, l6, y6, z6⟩, st6⟩ := Jvm.LawKit.callS X1 hx (y := (⟨"com/example/khonsu/khonsu/trajectory/TrajectoryRowEqualsPinLaw", "coord", "(I)D"⟩ : MethodName)) hown (mvT hZ (wd hw 4 rfl)) (mvT hZ (wd hw 5 rfl)) (mvT hZ (wd hw 6 rfl)) (mvT hZ (wd hw 7 rfl)) (by decide) (backOf (W := 4) (rm1 l Z a0 hw [] (v0_5 q0 q1 q2 q3 p4) h1 n0 z4) hZ (wd hw 7 rfl) (wd hw 6 rfl) (by decide) (by decide)) (g := (mkF m 64 #[.val (.long q0), .second, .val (.long q1), .second, .val (.long q2), .second, .val (.long q3), .second, .val (.int p4), .val (.int (v0_1 q0 q1 q2 q3 p4)), .val (.int (v0_2 q0 q1 q2 q3 p4)), .val (.int (v0_3 q0 q1 q2 q3 p4)), .val (.int (v0_4 q0 q1 q2 q3 p4)), .val (.int (v0_5 q0 q1 q2 q3 p4)), .val (.int (v0_6 q0 q1 q2 q3 p4)), .val (.int (v0_7 q0 q1 q2 q3 p4)), .val (.int (v0_8 q0 q1 q2 q3 p4)), .unset, .unset, .unset, .unset, .unset, .unset] [(.int (v0_5 q0 q1 q2 q3 p4)), (.int (v0_3 q0 q1 q2 q3 p4)), (.int (v0_1 q0 q1 q2 q3 p4)), (.ref b1), (.ref b1)])) rfl (by rw [hml]; rfl) (argsL := [(.int (v0_5 q0 q1 q2 q3 p4))]) (rest := [(.int (v0_3 q0 q1 q2 q3 p4)), (.int (v0_1 q0 q1 q2 q3 p4)), (.ref b1), (.ref b1)]) (lenOf pd__I_D rfl) rfl (by show 2 * 0 + _ ≤ _; exact Nat.le_of_eq rfl) (hb hby at_64) (fun _ _ => ⟨rfl, e1, (by decide : 1 + 0 ≤ _), (by decide : 4 + 0 ≤ _)⟩)
  dsimp only [Pt.U, Pt.locs, Pt.cells, Pt.slots] at X6 l6 y6 z6 st6 hQ6
  replace X6 := own_stand X6 l6 y6 z6
  clear l6 y6 z6
  have N6q := (show _ ∧ _ ∧ _ from hQ6).1
  have hv6 := (show _ ∧ _ ∧ _ from hQ6).2.1
  have e6 := (show _ ∧ _ ∧ _ from hQ6).2.2
  clear hQ6
  subst hv6
  have N6 := Fr.app N0 N6q
  obtain ⟨vr7, _, ⟨T7, L7, k7, n7⟩, -, X7, ⟨Lc7, hQ7, l7, y7, z7⟩, st7⟩ := Jvm.LawKit.callS X6 hx (y := (⟨"com/example/khonsu/khonsu/trajectory/TrajectoryRowEqualsPinLaw", "coord", "(I)D"⟩ : MethodName)) hown (mvT hZ (wd hw 4 rfl)) (mvT hZ (wd hw 5 rfl)) (mvT hZ (wd hw 6 rfl)) (mvT hZ (wd hw 7 rfl)) (by decide) (backOf (W := 6) (rm1 l Z a0 hw [] (v0_7 q0 q1 q2 q3 p4) h1 n0 z4) hZ (wd hw 7 rfl) (wd hw 6 rfl) (by decide) (by decide)) (g := (mkF m 69 #[.val (.long q0), .second, .val (.long q1), .second, .val (.long q2), .second, .val (.long q3), .second, .val (.int p4), .val (.int (v0_1 q0 q1 q2 q3 p4)), .val (.int (v0_2 q0 q1 q2 q3 p4)), .val (.int (v0_3 q0 q1 q2 q3 p4)), .val (.int (v0_4 q0 q1 q2 q3 p4)), .val (.int (v0_5 q0 q1 q2 q3 p4)), .val (.int (v0_6 q0 q1 q2 q3 p4)), .val (.int (v0_7 q0 q1 q2 q3 p4)), .val (.int (v0_8 q0 q1 q2 q3 p4)), .unset, .unset, .unset, .unset, .unset, .unset] [(.int (v0_7 q0 q1 q2 q3 p4)), (.double (f1 (v0_5 q0 q1 q2 q3 p4))), (.int (v0_3 q0 q1 q2 q3 p4)), (.int (v0_1 q0 q1 q2 q3 p4)), (.ref b1), (.ref b1)])) rfl (by rw [hml]; rfl) (argsL := [(.int (v0_7 q0 q1 q2 q3 p4))]) (rest := [(.double (f1 (v0_5 q0 q1 q2 q3 p4))), (.int (v0_3 q0 q1 q2 q3 p4)), (.int (v0_1 q0 q1 q2 q3 p4)), (.ref b1), (.ref b1)]) (lenOf pd__I_D rfl) rfl (by show 2 * 0 + _ ≤ _; exact Nat.le_of_eq rfl) (hb hby at_69) (fun _ _ => ⟨rfl, e6, (by decide : 1 + 0 ≤ _), (by decide : 4 + 0 ≤ _)⟩)
  dsimp only [Pt.U, Pt.locs, Pt.cells, Pt.slots] at X7 l7 y7 z7 st7 hQ7
  replace X7 := own_stand X7 l7 y7 z7
  clear l7 y7 z7
  have N7q := (show _ ∧ _ ∧ _ from hQ7).1
  have hv7 := (show _ ∧ _ ∧ _ from hQ7).2.1
  have e7 := (show _ ∧ _ ∧ _ from hQ7).2.2
  clear hQ7
  subst hv7
  have N7 := Fr.app N6 N7q
  obtain ⟨vr8, _, ⟨T8, L8, k8, n8⟩, -, X8, ⟨Lc8, hQ8, l8, y8, z8⟩, st8⟩ := Jvm.Stand.specialBack X7 hx (y := (⟨"com/example/khonsu/khonsu/trajectory/TrajectoryRow", "<init>", "(IIDD)V"⟩ : MethodName)) rfl hown (mvT hZ (wd hw 8 rfl)) (mvT hZ (wd hw 9 rfl)) (mvT hZ (wd hw 10 rfl)) (by decide) (backOf (W := 1) (rm2 l Z a0 hw [] b1 (v0_1 q0 q1 q2 q3 p4) (v0_3 q0 q1 q2 q3 p4) (v0_9 q0 q1 q2 q3 p4) (v0_10 q0 q1 q2 q3 p4) (.int (0 : Int32)) (.int (0 : Int32)) (.double (0 : UInt64)) (.double (0 : UInt64)) h1 n0 z4 (own_nonneg _) (own_no (v0_5 q0 q1 q2 q3 p4)) (own_ff (v0_5 q0 q1 q2 q3 p4)) (own_no (v0_7 q0 q1 q2 q3 p4)) (own_ff (v0_7 q0 q1 q2 q3 p4)) A1 F1_id g2 F1_frame F1_x F1_y) hZ (wd hw 10 rfl) (wd hw 3 rfl) (by decide) (by decide)) (g := (mkF m 72 #[.val (.long q0), .second, .val (.long q1), .second, .val (.long q2), .second, .val (.long q3), .second, .val (.int p4), .val (.int (v0_1 q0 q1 q2 q3 p4)), .val (.int (v0_2 q0 q1 q2 q3 p4)), .val (.int (v0_3 q0 q1 q2 q3 p4)), .val (.int (v0_4 q0 q1 q2 q3 p4)), .val (.int (v0_5 q0 q1 q2 q3 p4)), .val (.int (v0_6 q0 q1 q2 q3 p4)), .val (.int (v0_7 q0 q1 q2 q3 p4)), .val (.int (v0_8 q0 q1 q2 q3 p4)), .unset, .unset, .unset, .unset, .unset, .unset] [(.double (v0_10 q0 q1 q2 q3 p4)), (.double (v0_9 q0 q1 q2 q3 p4)), (.int (v0_3 q0 q1 q2 q3 p4)), (.int (v0_1 q0 q1 q2 q3 p4)), (.ref b1), (.ref b1)])) rfl (by rw [hml]; rfl) (Steps.refl _) (a := b1) (argsL := [(.int (v0_1 q0 q1 q2 q3 p4)), (.int (v0_3 q0 q1 q2 q3 p4)), (.double (v0_9 q0 q1 q2 q3 p4)), (.double (v0_10 q0 q1 q2 q3 p4))]) (rest := [(.ref b1)]) (lenOf pd__IIDD_V rfl) rfl (by show 2 * 0 + _ ≤ _; exact Nat.le_of_eq rfl) (hb hby at_72) (fun _ _ => ⟨rfl, e7, (by decide : 1 + 0 ≤ _), (by decide : 4 + 0 ≤ _)⟩)
  dsimp only [Pt.U, Pt.locs, Pt.cells, Pt.slots] at X8 l8 y8 z8 st8 hQ8
  replace X8 := own_stand X8 l8 y8 z8
  clear l8 y8 z8
  have N8q := (show _ ∧ _ from hQ8).1
  have hq8 := (show _ ∧ _ from hQ8).2
  clear hQ8
  have hv8 := hq8.1
  have K8 := hq8.2.1
  have po8_0 := hq8.2.2.1
  have po8_1 := hq8.2.2.2.1
  have po8_2 := hq8.2.2.2.2.1
  have po8_3 := hq8.2.2.2.2.2.1
  have po8_4 := hq8.2.2.2.2.2.2
  clear hq8
  subst hv8
  have z9 : n0 ≤ T8.heap.size := Nat.le_trans z4 K8.1
  have hs10 : h0.size ≤ T8.heap.size := Nat.le_trans hs5 K8.1
  have N8 := Fr.app N7 N8q
  obtain ⟨T11, h11, X11, e11, E11, A11, D11, -, st11⟩ := newO X8 hx hZ hown (wd hw 1 rfl) (wd hw 2 rfl) (wd hw 3 rfl) rfl (g := (mkF m 77 #[.val (.long q0), .second, .val (.long q1), .second, .val (.long q2), .second, .val (.long q3), .second, .val (.int p4), .val (.int (v0_1 q0 q1 q2 q3 p4)), .val (.int (v0_2 q0 q1 q2 q3 p4)), .val (.int (v0_3 q0 q1 q2 q3 p4)), .val (.int (v0_4 q0 q1 q2 q3 p4)), .val (.int (v0_5 q0 q1 q2 q3 p4)), .val (.int (v0_6 q0 q1 q2 q3 p4)), .val (.int (v0_7 q0 q1 q2 q3 p4)), .val (.int (v0_8 q0 q1 q2 q3 p4)), .val (.ref b1), .unset, .unset, .unset, .unset, .unset] [])) rfl (hb hby at_77) (by decide) (by decide)
  obtain ⟨b11, gz11⟩ : ∃ z, z = T8.heap.size := ⟨_, rfl⟩
  rw [← gz11] at A11 D11 st11
  have ne12 : b1 ≠ b11 := Nat.ne_of_lt (Nat.lt_of_lt_of_le po8_0.lt (Nat.le_of_eq gz11.symm))
  have g13 : n0 ≤ b11 := Nat.le_trans z9 (Nat.le_of_eq gz11.symm)
  have sz14 : h0.size ≤ b11 := Nat.le_trans hs10 (Nat.le_of_eq gz11.symm)
  have z15 : n0 ≤ h11.size := Nat.le_trans z9 E11.1
  have hs16 : h0.size ≤ h11.size := Nat.le_trans hs10 E11.1
  have F11_id : Fld Z h11 b11 "com/example/khonsu/khonsu/trajectory/TrajectoryRow" "id" "I" (.int (0 : Int32)) := D11 (Or.inr (wd hw 24 rfl)) (ty := .int) (by decide)
  have F11_frame : Fld Z h11 b11 "com/example/khonsu/khonsu/trajectory/TrajectoryRow" "frame" "I" (.int (0 : Int32)) := D11 (Or.inr (wd hw 26 rfl)) (ty := .int) (by decide)
  have F11_x : Fld Z h11 b11 "com/example/khonsu/khonsu/trajectory/TrajectoryRow" "x" "D" (.double (0 : UInt64)) := D11 (Or.inr (wd hw 28 rfl)) (ty := .double) (by decide)
  have F11_y : Fld Z h11 b11 "com/example/khonsu/khonsu/trajectory/TrajectoryRow" "y" "D" (.double (0 : UInt64)) := D11 (Or.inr (wd hw 30 rfl)) (ty := .double) (by decide)
  obtain ⟨vr17, _, ⟨T17, L17, k17, n17⟩, -, X17, ⟨Lc17, hQ17, l17, y17, z17⟩, st17⟩ := Jvm.LawKit.callS X11 hx (y := (⟨"com/example/khonsu/khonsu/trajectory/TrajectoryRowEqualsPinLaw", "coord", "(I)D"⟩ : MethodName)) hown (mvT hZ (wd hw 4 rfl)) (mvT hZ (wd hw 5 rfl)) (mvT hZ (wd hw 6 rfl)) (mvT hZ (wd hw 7 rfl)) (by decide) (backOf (W := 4) (rm1 l Z a0 hw [] (v0_6 q0 q1 q2 q3 p4) h11 n0 z15) hZ (wd hw 7 rfl) (wd hw 6 rfl) (by decide) (by decide)) (g := (mkF m 87 #[.val (.long q0), .second, .val (.long q1), .second, .val (.long q2), .second, .val (.long q3), .second, .val (.int p4), .val (.int (v0_1 q0 q1 q2 q3 p4)), .val (.int (v0_2 q0 q1 q2 q3 p4)), .val (.int (v0_3 q0 q1 q2 q3 p4)), .val (.int (v0_4 q0 q1 q2 q3 p4)), .val (.int (v0_5 q0 q1 q2 q3 p4)), .val (.int (v0_6 q0 q1 q2 q3 p4)), .val (.int (v0_7 q0 q1 q2 q3 p4)), .val (.int (v0_8 q0 q1 q2 q3 p4)), .val (.ref b1), .unset, .unset, .unset, .unset, .unset] [(.int (v0_6 q0 q1 q2 q3 p4)), (.int (v0_4 q0 q1 q2 q3 p4)), (.int (v0_2 q0 q1 q2 q3 p4)), (.ref b11), (.ref b11)])) rfl (by rw [hml]; rfl) (argsL := [(.int (v0_6 q0 q1 q2 q3 p4))]) (rest := [(.int (v0_4 q0 q1 q2 q3 p4)), (.int (v0_2 q0 q1 q2 q3 p4)), (.ref b11), (.ref b11)]) (lenOf pd__I_D rfl) rfl (by show 2 * 0 + _ ≤ _; exact Nat.le_of_eq rfl) (hb hby at_87) (fun _ _ => ⟨rfl, e11, (by decide : 2 + 0 ≤ _), (by decide : 8 + 0 ≤ _)⟩)
  dsimp only [Pt.U, Pt.locs, Pt.cells, Pt.slots] at X17 l17 y17 z17 st17 hQ17
  replace X17 := own_stand X17 l17 y17 z17
  clear l17 y17 z17
  have N17q := (show _ ∧ _ ∧ _ from hQ17).1
  have hv17 := (show _ ∧ _ ∧ _ from hQ17).2.1
  have e17 := (show _ ∧ _ ∧ _ from hQ17).2.2
  clear hQ17
  subst hv17
  have N17 := Fr.app N8 N17q
  obtain ⟨vr18, _, ⟨T18, L18, k18, n18⟩, -, X18, ⟨Lc18, hQ18, l18, y18, z18⟩, st18⟩ := Jvm.LawKit.callS X17 hx (y := (⟨"com/example/khonsu/khonsu/trajectory/TrajectoryRowEqualsPinLaw", "coord", "(I)D"⟩ : MethodName)) hown (mvT hZ (wd hw 4 rfl)) (mvT hZ (wd hw 5 rfl)) (mvT hZ (wd hw 6 rfl)) (mvT hZ (wd hw 7 rfl)) (by decide) (backOf (W := 6) (rm1 l Z a0 hw [] (v0_8 q0 q1 q2 q3 p4) h11 n0 z15) hZ (wd hw 7 rfl) (wd hw 6 rfl) (by decide) (by decide)) (g := (mkF m 92 #[.val (.long q0), .second, .val (.long q1), .second, .val (.long q2), .second, .val (.long q3), .second, .val (.int p4), .val (.int (v0_1 q0 q1 q2 q3 p4)), .val (.int (v0_2 q0 q1 q2 q3 p4)), .val (.int (v0_3 q0 q1 q2 q3 p4)), .val (.int (v0_4 q0 q1 q2 q3 p4)), .val (.int (v0_5 q0 q1 q2 q3 p4)), .val (.int (v0_6 q0 q1 q2 q3 p4)), .val (.int (v0_7 q0 q1 q2 q3 p4)), .val (.int (v0_8 q0 q1 q2 q3 p4)), .val (.ref b1), .unset, .unset, .unset, .unset, .unset] [(.int (v0_8 q0 q1 q2 q3 p4)), (.double (f1 (v0_6 q0 q1 q2 q3 p4))), (.int (v0_4 q0 q1 q2 q3 p4)), (.int (v0_2 q0 q1 q2 q3 p4)), (.ref b11), (.ref b11)])) rfl (by rw [hml]; rfl) (argsL := [(.int (v0_8 q0 q1 q2 q3 p4))]) (rest := [(.double (f1 (v0_6 q0 q1 q2 q3 p4))), (.int (v0_4 q0 q1 q2 q3 p4)), (.int (v0_2 q0 q1 q2 q3 p4)), (.ref b11), (.ref b11)]) (lenOf pd__I_D rfl) rfl (by show 2 * 0 + _ ≤ _; exact Nat.le_of_eq rfl) (hb hby at_92) (fun _ _ => ⟨rfl, e17, (by decide : 2 + 0 ≤ _), (by decide : 8 + 0 ≤ _)⟩)
  dsimp only [Pt.U, Pt.locs, Pt.cells, Pt.slots] at X18 l18 y18 z18 st18 hQ18
  replace X18 := own_stand X18 l18 y18 z18
  clear l18 y18 z18
  have N18q := (show _ ∧ _ ∧ _ from hQ18).1
  have hv18 := (show _ ∧ _ ∧ _ from hQ18).2.1
  have e18 := (show _ ∧ _ ∧ _ from hQ18).2.2
  clear hQ18
  subst hv18
  have N18 := Fr.app N17 N18q
  obtain ⟨vr19, _, ⟨T19, L19, k19, n19⟩, -, X19, ⟨Lc19, hQ19, l19, y19, z19⟩, st19⟩ := Jvm.Stand.specialBack X18 hx (y := (⟨"com/example/khonsu/khonsu/trajectory/TrajectoryRow", "<init>", "(IIDD)V"⟩ : MethodName)) rfl hown (mvT hZ (wd hw 8 rfl)) (mvT hZ (wd hw 9 rfl)) (mvT hZ (wd hw 10 rfl)) (by decide) (backOf (W := 1) (rm2 l Z a0 hw [] b11 (v0_2 q0 q1 q2 q3 p4) (v0_4 q0 q1 q2 q3 p4) (v0_11 q0 q1 q2 q3 p4) (v0_12 q0 q1 q2 q3 p4) (.int (0 : Int32)) (.int (0 : Int32)) (.double (0 : UInt64)) (.double (0 : UInt64)) h11 n0 z15 (own_nonneg _) (own_no (v0_6 q0 q1 q2 q3 p4)) (own_ff (v0_6 q0 q1 q2 q3 p4)) (own_no (v0_8 q0 q1 q2 q3 p4)) (own_ff (v0_8 q0 q1 q2 q3 p4)) A11 F11_id g13 F11_frame F11_x F11_y) hZ (wd hw 10 rfl) (wd hw 3 rfl) (by decide) (by decide)) (g := (mkF m 95 #[.val (.long q0), .second, .val (.long q1), .second, .val (.long q2), .second, .val (.long q3), .second, .val (.int p4), .val (.int (v0_1 q0 q1 q2 q3 p4)), .val (.int (v0_2 q0 q1 q2 q3 p4)), .val (.int (v0_3 q0 q1 q2 q3 p4)), .val (.int (v0_4 q0 q1 q2 q3 p4)), .val (.int (v0_5 q0 q1 q2 q3 p4)), .val (.int (v0_6 q0 q1 q2 q3 p4)), .val (.int (v0_7 q0 q1 q2 q3 p4)), .val (.int (v0_8 q0 q1 q2 q3 p4)), .val (.ref b1), .unset, .unset, .unset, .unset, .unset] [(.double (v0_12 q0 q1 q2 q3 p4)), (.double (v0_11 q0 q1 q2 q3 p4)), (.int (v0_4 q0 q1 q2 q3 p4)), (.int (v0_2 q0 q1 q2 q3 p4)), (.ref b11), (.ref b11)])) rfl (by rw [hml]; rfl) (Steps.refl _) (a := b11) (argsL := [(.int (v0_2 q0 q1 q2 q3 p4)), (.int (v0_4 q0 q1 q2 q3 p4)), (.double (v0_11 q0 q1 q2 q3 p4)), (.double (v0_12 q0 q1 q2 q3 p4))]) (rest := [(.ref b11)]) (lenOf pd__IIDD_V rfl) rfl (by show 2 * 0 + _ ≤ _; exact Nat.le_of_eq rfl) (hb hby at_95) (fun _ _ => ⟨rfl, e18, (by decide : 2 + 0 ≤ _), (by decide : 8 + 0 ≤ _)⟩)
  dsimp only [Pt.U, Pt.locs, Pt.cells, Pt.slots] at X19 l19 y19 z19 st19 hQ19
  replace X19 := own_stand X19 l19 y19 z19
  clear l19 y19 z19
  have N19q := (show _ ∧ _ from hQ19).1
  have hq19 := (show _ ∧ _ from hQ19).2
  clear hQ19
  have hv19 := hq19.1
  have K19 := hq19.2.1
  have po19_0 := hq19.2.2.1
  have po19_1 := hq19.2.2.2.1
  have po19_2 := hq19.2.2.2.2.1
  have po19_3 := hq19.2.2.2.2.2.1
  have po19_4 := hq19.2.2.2.2.2.2
  clear hq19
  subst hv19
  have z20 : n0 ≤ T19.heap.size := Nat.le_trans z15 K19.1
  have hs21 : h0.size ≤ T19.heap.size := Nat.le_trans hs16 K19.1
  have N19 := Fr.app N18 N19q
  have pre22 : ∀ t, Steps p.tables e below (T19.setTop (mkF m 108 #[.val (.long q0), .second, .val (.long q1), .second, .val (.long q2), .second, .val (.long q3), .second, .val (.int p4), .val (.int (v0_1 q0 q1 q2 q3 p4)), .val (.int (v0_2 q0 q1 q2 q3 p4)), .val (.int (v0_3 q0 q1 q2 q3 p4)), .val (.int (v0_4 q0 q1 q2 q3 p4)), .val (.int (v0_5 q0 q1 q2 q3 p4)), .val (.int (v0_6 q0 q1 q2 q3 p4)), .val (.int (v0_7 q0 q1 q2 q3 p4)), .val (.int (v0_8 q0 q1 q2 q3 p4)), .val (.ref b1), .val (.ref b11), .val (.int (v0_13 q0 q1 q2 q3 p4)), .unset, .unset, .unset] [(.int (v0_13 q0 q1 q2 q3 p4))])) t → Steps p.tables e below (s₁.setTop (entryFrame m #[(.long q0), (.long q1), (.long q2), (.long q3), (.int p4)] maxLocals)) t := by
    intro t k
    refine pre0 t ?_
    show Steps p.tables e below (s₁.setTop (mkF m 0 #[.val (.long q0), .second, .val (.long q1), .second, .val (.long q2), .second, .val (.long q3), .second, .val (.int p4), .unset, .unset, .unset, .unset, .unset, .unset, .unset, .unset, .unset, .unset, .unset, .unset, .unset, .unset] [])) _
    refine XT.lloadN X0.here hx rfl (hb hby at_0) rfl ?_
    show Steps p.tables e below (s₁.setTop (mkF m 1 #[.val (.long q0), .second, .val (.long q1), .second, .val (.long q2), .second, .val (.long q3), .second, .val (.int p4), .unset, .unset, .unset, .unset, .unset, .unset, .unset, .unset, .unset, .unset, .unset, .unset, .unset, .unset] [(.long q0)])) _
    refine XT.bipushV X0.here hx rfl (32 : Int32) (hb hby at_1) (by decide) ?_
    show Steps p.tables e below (s₁.setTop (mkF m 3 #[.val (.long q0), .second, .val (.long q1), .second, .val (.long q2), .second, .val (.long q3), .second, .val (.int p4), .unset, .unset, .unset, .unset, .unset, .unset, .unset, .unset, .unset, .unset, .unset, .unset, .unset, .unset] [(.int (32 : Int32)), (.long q0)])) _
    refine XT.lushr X0.here hx rfl (hb hby at_3) rfl ?_
    show Steps p.tables e below (s₁.setTop (mkF m 4 #[.val (.long q0), .second, .val (.long q1), .second, .val (.long q2), .second, .val (.long q3), .second, .val (.int p4), .unset, .unset, .unset, .unset, .unset, .unset, .unset, .unset, .unset, .unset, .unset, .unset, .unset, .unset] [(.long (XT.ushrL q0 (32 : Int32)))])) _
    refine XT.l2i X0.here hx rfl (hb hby at_4) rfl ?_
    show Steps p.tables e below (s₁.setTop (mkF m 5 #[.val (.long q0), .second, .val (.long q1), .second, .val (.long q2), .second, .val (.long q3), .second, .val (.int p4), .unset, .unset, .unset, .unset, .unset, .unset, .unset, .unset, .unset, .unset, .unset, .unset, .unset, .unset] [(.int ((XT.ushrL q0 (32 : Int32)).toInt32))])) _
    refine XS.istore X0.here hx rfl (hb hby at_5) rfl (l' := #[.val (.long q0), .second, .val (.long q1), .second, .val (.long q2), .second, .val (.long q3), .second, .val (.int p4), .val (.int (v0_1 q0 q1 q2 q3 p4)), .unset, .unset, .unset, .unset, .unset, .unset, .unset, .unset, .unset, .unset, .unset, .unset, .unset]) rfl ?_
    show Steps p.tables e below (s₁.setTop (mkF m 7 #[.val (.long q0), .second, .val (.long q1), .second, .val (.long q2), .second, .val (.long q3), .second, .val (.int p4), .val (.int (v0_1 q0 q1 q2 q3 p4)), .unset, .unset, .unset, .unset, .unset, .unset, .unset, .unset, .unset, .unset, .unset, .unset, .unset] [])) _
    refine XT.lloadN X0.here hx rfl (hb hby at_7) rfl ?_
    show Steps p.tables e below (s₁.setTop (mkF m 8 #[.val (.long q0), .second, .val (.long q1), .second, .val (.long q2), .second, .val (.long q3), .second, .val (.int p4), .val (.int (v0_1 q0 q1 q2 q3 p4)), .unset, .unset, .unset, .unset, .unset, .unset, .unset, .unset, .unset, .unset, .unset, .unset, .unset] [(.long q0)])) _
    refine XT.l2i X0.here hx rfl (hb hby at_8) rfl ?_
    show Steps p.tables e below (s₁.setTop (mkF m 9 #[.val (.long q0), .second, .val (.long q1), .second, .val (.long q2), .second, .val (.long q3), .second, .val (.int p4), .val (.int (v0_1 q0 q1 q2 q3 p4)), .unset, .unset, .unset, .unset, .unset, .unset, .unset, .unset, .unset, .unset, .unset, .unset, .unset] [(.int (q0.toInt32))])) _
    refine XS.istore X0.here hx rfl (hb hby at_9) rfl (l' := #[.val (.long q0), .second, .val (.long q1), .second, .val (.long q2), .second, .val (.long q3), .second, .val (.int p4), .val (.int (v0_1 q0 q1 q2 q3 p4)), .val (.int (v0_2 q0 q1 q2 q3 p4)), .unset, .unset, .unset, .unset, .unset, .unset, .unset, .unset, .unset, .unset, .unset, .unset]) rfl ?_
    show Steps p.tables e below (s₁.setTop (mkF m 11 #[.val (.long q0), .second, .val (.long q1), .second, .val (.long q2), .second, .val (.long q3), .second, .val (.int p4), .val (.int (v0_1 q0 q1 q2 q3 p4)), .val (.int (v0_2 q0 q1 q2 q3 p4)), .unset, .unset, .unset, .unset, .unset, .unset, .unset, .unset, .unset, .unset, .unset, .unset] [])) _
    refine XT.lloadN X0.here hx rfl (hb hby at_11) rfl ?_
    show Steps p.tables e below (s₁.setTop (mkF m 12 #[.val (.long q0), .second, .val (.long q1), .second, .val (.long q2), .second, .val (.long q3), .second, .val (.int p4), .val (.int (v0_1 q0 q1 q2 q3 p4)), .val (.int (v0_2 q0 q1 q2 q3 p4)), .unset, .unset, .unset, .unset, .unset, .unset, .unset, .unset, .unset, .unset, .unset, .unset] [(.long q1)])) _
    refine XT.bipushV X0.here hx rfl (32 : Int32) (hb hby at_12) (by decide) ?_
    show Steps p.tables e below (s₁.setTop (mkF m 14 #[.val (.long q0), .second, .val (.long q1), .second, .val (.long q2), .second, .val (.long q3), .second, .val (.int p4), .val (.int (v0_1 q0 q1 q2 q3 p4)), .val (.int (v0_2 q0 q1 q2 q3 p4)), .unset, .unset, .unset, .unset, .unset, .unset, .unset, .unset, .unset, .unset, .unset, .unset] [(.int (32 : Int32)), (.long q1)])) _
    refine XT.lushr X0.here hx rfl (hb hby at_14) rfl ?_
    show Steps p.tables e below (s₁.setTop (mkF m 15 #[.val (.long q0), .second, .val (.long q1), .second, .val (.long q2), .second, .val (.long q3), .second, .val (.int p4), .val (.int (v0_1 q0 q1 q2 q3 p4)), .val (.int (v0_2 q0 q1 q2 q3 p4)), .unset, .unset, .unset, .unset, .unset, .unset, .unset, .unset, .unset, .unset, .unset, .unset] [(.long (XT.ushrL q1 (32 : Int32)))])) _
    refine XT.l2i X0.here hx rfl (hb hby at_15) rfl ?_
    show Steps p.tables e below (s₁.setTop (mkF m 16 #[.val (.long q0), .second, .val (.long q1), .second, .val (.long q2), .second, .val (.long q3), .second, .val (.int p4), .val (.int (v0_1 q0 q1 q2 q3 p4)), .val (.int (v0_2 q0 q1 q2 q3 p4)), .unset, .unset, .unset, .unset, .unset, .unset, .unset, .unset, .unset, .unset, .unset, .unset] [(.int ((XT.ushrL q1 (32 : Int32)).toInt32))])) _
    refine X0.ldcI hx hown (mvT hZ (wd hw 0 rfl)) rfl (hb hby at_16) ?_
    show Steps p.tables e below (s₁.setTop (mkF m 18 #[.val (.long q0), .second, .val (.long q1), .second, .val (.long q2), .second, .val (.long q3), .second, .val (.int p4), .val (.int (v0_1 q0 q1 q2 q3 p4)), .val (.int (v0_2 q0 q1 q2 q3 p4)), .unset, .unset, .unset, .unset, .unset, .unset, .unset, .unset, .unset, .unset, .unset, .unset] [(.int (2147483647 : Int32)), (.int ((XT.ushrL q1 (32 : Int32)).toInt32))])) _
    refine XS.iand X0.here hx rfl (hb hby at_18) rfl ?_
    show Steps p.tables e below (s₁.setTop (mkF m 19 #[.val (.long q0), .second, .val (.long q1), .second, .val (.long q2), .second, .val (.long q3), .second, .val (.int p4), .val (.int (v0_1 q0 q1 q2 q3 p4)), .val (.int (v0_2 q0 q1 q2 q3 p4)), .unset, .unset, .unset, .unset, .unset, .unset, .unset, .unset, .unset, .unset, .unset, .unset] [(.int (((XT.ushrL q1 (32 : Int32)).toInt32) &&& (2147483647 : Int32)))])) _
    refine XS.istore X0.here hx rfl (hb hby at_19) rfl (l' := #[.val (.long q0), .second, .val (.long q1), .second, .val (.long q2), .second, .val (.long q3), .second, .val (.int p4), .val (.int (v0_1 q0 q1 q2 q3 p4)), .val (.int (v0_2 q0 q1 q2 q3 p4)), .val (.int (v0_3 q0 q1 q2 q3 p4)), .unset, .unset, .unset, .unset, .unset, .unset, .unset, .unset, .unset, .unset, .unset]) rfl ?_
    show Steps p.tables e below (s₁.setTop (mkF m 21 #[.val (.long q0), .second, .val (.long q1), .second, .val (.long q2), .second, .val (.long q3), .second, .val (.int p4), .val (.int (v0_1 q0 q1 q2 q3 p4)), .val (.int (v0_2 q0 q1 q2 q3 p4)), .val (.int (v0_3 q0 q1 q2 q3 p4)), .unset, .unset, .unset, .unset, .unset, .unset, .unset, .unset, .unset, .unset, .unset] [])) _
    refine XT.lloadN X0.here hx rfl (hb hby at_21) rfl ?_
    show Steps p.tables e below (s₁.setTop (mkF m 22 #[.val (.long q0), .second, .val (.long q1), .second, .val (.long q2), .second, .val (.long q3), .second, .val (.int p4), .val (.int (v0_1 q0 q1 q2 q3 p4)), .val (.int (v0_2 q0 q1 q2 q3 p4)), .val (.int (v0_3 q0 q1 q2 q3 p4)), .unset, .unset, .unset, .unset, .unset, .unset, .unset, .unset, .unset, .unset, .unset] [(.long q1)])) _
    refine XT.l2i X0.here hx rfl (hb hby at_22) rfl ?_
    show Steps p.tables e below (s₁.setTop (mkF m 23 #[.val (.long q0), .second, .val (.long q1), .second, .val (.long q2), .second, .val (.long q3), .second, .val (.int p4), .val (.int (v0_1 q0 q1 q2 q3 p4)), .val (.int (v0_2 q0 q1 q2 q3 p4)), .val (.int (v0_3 q0 q1 q2 q3 p4)), .unset, .unset, .unset, .unset, .unset, .unset, .unset, .unset, .unset, .unset, .unset] [(.int (q1.toInt32))])) _
    refine X0.ldcI hx hown (mvT hZ (wd hw 0 rfl)) rfl (hb hby at_23) ?_
    show Steps p.tables e below (s₁.setTop (mkF m 25 #[.val (.long q0), .second, .val (.long q1), .second, .val (.long q2), .second, .val (.long q3), .second, .val (.int p4), .val (.int (v0_1 q0 q1 q2 q3 p4)), .val (.int (v0_2 q0 q1 q2 q3 p4)), .val (.int (v0_3 q0 q1 q2 q3 p4)), .unset, .unset, .unset, .unset, .unset, .unset, .unset, .unset, .unset, .unset, .unset] [(.int (2147483647 : Int32)), (.int (q1.toInt32))])) _
    refine XS.iand X0.here hx rfl (hb hby at_25) rfl ?_
    show Steps p.tables e below (s₁.setTop (mkF m 26 #[.val (.long q0), .second, .val (.long q1), .second, .val (.long q2), .second, .val (.long q3), .second, .val (.int p4), .val (.int (v0_1 q0 q1 q2 q3 p4)), .val (.int (v0_2 q0 q1 q2 q3 p4)), .val (.int (v0_3 q0 q1 q2 q3 p4)), .unset, .unset, .unset, .unset, .unset, .unset, .unset, .unset, .unset, .unset, .unset] [(.int ((q1.toInt32) &&& (2147483647 : Int32)))])) _
    refine XS.istore X0.here hx rfl (hb hby at_26) rfl (l' := #[.val (.long q0), .second, .val (.long q1), .second, .val (.long q2), .second, .val (.long q3), .second, .val (.int p4), .val (.int (v0_1 q0 q1 q2 q3 p4)), .val (.int (v0_2 q0 q1 q2 q3 p4)), .val (.int (v0_3 q0 q1 q2 q3 p4)), .val (.int (v0_4 q0 q1 q2 q3 p4)), .unset, .unset, .unset, .unset, .unset, .unset, .unset, .unset, .unset, .unset]) rfl ?_
    show Steps p.tables e below (s₁.setTop (mkF m 28 #[.val (.long q0), .second, .val (.long q1), .second, .val (.long q2), .second, .val (.long q3), .second, .val (.int p4), .val (.int (v0_1 q0 q1 q2 q3 p4)), .val (.int (v0_2 q0 q1 q2 q3 p4)), .val (.int (v0_3 q0 q1 q2 q3 p4)), .val (.int (v0_4 q0 q1 q2 q3 p4)), .unset, .unset, .unset, .unset, .unset, .unset, .unset, .unset, .unset, .unset] [])) _
    refine XT.lload X0.here hx rfl (hb hby at_28) rfl ?_
    show Steps p.tables e below (s₁.setTop (mkF m 30 #[.val (.long q0), .second, .val (.long q1), .second, .val (.long q2), .second, .val (.long q3), .second, .val (.int p4), .val (.int (v0_1 q0 q1 q2 q3 p4)), .val (.int (v0_2 q0 q1 q2 q3 p4)), .val (.int (v0_3 q0 q1 q2 q3 p4)), .val (.int (v0_4 q0 q1 q2 q3 p4)), .unset, .unset, .unset, .unset, .unset, .unset, .unset, .unset, .unset, .unset] [(.long q2)])) _
    refine XT.bipushV X0.here hx rfl (32 : Int32) (hb hby at_30) (by decide) ?_
    show Steps p.tables e below (s₁.setTop (mkF m 32 #[.val (.long q0), .second, .val (.long q1), .second, .val (.long q2), .second, .val (.long q3), .second, .val (.int p4), .val (.int (v0_1 q0 q1 q2 q3 p4)), .val (.int (v0_2 q0 q1 q2 q3 p4)), .val (.int (v0_3 q0 q1 q2 q3 p4)), .val (.int (v0_4 q0 q1 q2 q3 p4)), .unset, .unset, .unset, .unset, .unset, .unset, .unset, .unset, .unset, .unset] [(.int (32 : Int32)), (.long q2)])) _
    refine XT.lushr X0.here hx rfl (hb hby at_32) rfl ?_
    show Steps p.tables e below (s₁.setTop (mkF m 33 #[.val (.long q0), .second, .val (.long q1), .second, .val (.long q2), .second, .val (.long q3), .second, .val (.int p4), .val (.int (v0_1 q0 q1 q2 q3 p4)), .val (.int (v0_2 q0 q1 q2 q3 p4)), .val (.int (v0_3 q0 q1 q2 q3 p4)), .val (.int (v0_4 q0 q1 q2 q3 p4)), .unset, .unset, .unset, .unset, .unset, .unset, .unset, .unset, .unset, .unset] [(.long (XT.ushrL q2 (32 : Int32)))])) _
    refine XT.l2i X0.here hx rfl (hb hby at_33) rfl ?_
    show Steps p.tables e below (s₁.setTop (mkF m 34 #[.val (.long q0), .second, .val (.long q1), .second, .val (.long q2), .second, .val (.long q3), .second, .val (.int p4), .val (.int (v0_1 q0 q1 q2 q3 p4)), .val (.int (v0_2 q0 q1 q2 q3 p4)), .val (.int (v0_3 q0 q1 q2 q3 p4)), .val (.int (v0_4 q0 q1 q2 q3 p4)), .unset, .unset, .unset, .unset, .unset, .unset, .unset, .unset, .unset, .unset] [(.int ((XT.ushrL q2 (32 : Int32)).toInt32))])) _
    refine XS.istore X0.here hx rfl (hb hby at_34) rfl (l' := #[.val (.long q0), .second, .val (.long q1), .second, .val (.long q2), .second, .val (.long q3), .second, .val (.int p4), .val (.int (v0_1 q0 q1 q2 q3 p4)), .val (.int (v0_2 q0 q1 q2 q3 p4)), .val (.int (v0_3 q0 q1 q2 q3 p4)), .val (.int (v0_4 q0 q1 q2 q3 p4)), .val (.int (v0_5 q0 q1 q2 q3 p4)), .unset, .unset, .unset, .unset, .unset, .unset, .unset, .unset, .unset]) rfl ?_
    show Steps p.tables e below (s₁.setTop (mkF m 36 #[.val (.long q0), .second, .val (.long q1), .second, .val (.long q2), .second, .val (.long q3), .second, .val (.int p4), .val (.int (v0_1 q0 q1 q2 q3 p4)), .val (.int (v0_2 q0 q1 q2 q3 p4)), .val (.int (v0_3 q0 q1 q2 q3 p4)), .val (.int (v0_4 q0 q1 q2 q3 p4)), .val (.int (v0_5 q0 q1 q2 q3 p4)), .unset, .unset, .unset, .unset, .unset, .unset, .unset, .unset, .unset] [])) _
    refine XT.lload X0.here hx rfl (hb hby at_36) rfl ?_
    show Steps p.tables e below (s₁.setTop (mkF m 38 #[.val (.long q0), .second, .val (.long q1), .second, .val (.long q2), .second, .val (.long q3), .second, .val (.int p4), .val (.int (v0_1 q0 q1 q2 q3 p4)), .val (.int (v0_2 q0 q1 q2 q3 p4)), .val (.int (v0_3 q0 q1 q2 q3 p4)), .val (.int (v0_4 q0 q1 q2 q3 p4)), .val (.int (v0_5 q0 q1 q2 q3 p4)), .unset, .unset, .unset, .unset, .unset, .unset, .unset, .unset, .unset] [(.long q2)])) _
    refine XT.l2i X0.here hx rfl (hb hby at_38) rfl ?_
    show Steps p.tables e below (s₁.setTop (mkF m 39 #[.val (.long q0), .second, .val (.long q1), .second, .val (.long q2), .second, .val (.long q3), .second, .val (.int p4), .val (.int (v0_1 q0 q1 q2 q3 p4)), .val (.int (v0_2 q0 q1 q2 q3 p4)), .val (.int (v0_3 q0 q1 q2 q3 p4)), .val (.int (v0_4 q0 q1 q2 q3 p4)), .val (.int (v0_5 q0 q1 q2 q3 p4)), .unset, .unset, .unset, .unset, .unset, .unset, .unset, .unset, .unset] [(.int (q2.toInt32))])) _
    refine XS.istore X0.here hx rfl (hb hby at_39) rfl (l' := #[.val (.long q0), .second, .val (.long q1), .second, .val (.long q2), .second, .val (.long q3), .second, .val (.int p4), .val (.int (v0_1 q0 q1 q2 q3 p4)), .val (.int (v0_2 q0 q1 q2 q3 p4)), .val (.int (v0_3 q0 q1 q2 q3 p4)), .val (.int (v0_4 q0 q1 q2 q3 p4)), .val (.int (v0_5 q0 q1 q2 q3 p4)), .val (.int (v0_6 q0 q1 q2 q3 p4)), .unset, .unset, .unset, .unset, .unset, .unset, .unset, .unset]) rfl ?_
    show Steps p.tables e below (s₁.setTop (mkF m 41 #[.val (.long q0), .second, .val (.long q1), .second, .val (.long q2), .second, .val (.long q3), .second, .val (.int p4), .val (.int (v0_1 q0 q1 q2 q3 p4)), .val (.int (v0_2 q0 q1 q2 q3 p4)), .val (.int (v0_3 q0 q1 q2 q3 p4)), .val (.int (v0_4 q0 q1 q2 q3 p4)), .val (.int (v0_5 q0 q1 q2 q3 p4)), .val (.int (v0_6 q0 q1 q2 q3 p4)), .unset, .unset, .unset, .unset, .unset, .unset, .unset, .unset] [])) _
    refine XT.lload X0.here hx rfl (hb hby at_41) rfl ?_
    show Steps p.tables e below (s₁.setTop (mkF m 43 #[.val (.long q0), .second, .val (.long q1), .second, .val (.long q2), .second, .val (.long q3), .second, .val (.int p4), .val (.int (v0_1 q0 q1 q2 q3 p4)), .val (.int (v0_2 q0 q1 q2 q3 p4)), .val (.int (v0_3 q0 q1 q2 q3 p4)), .val (.int (v0_4 q0 q1 q2 q3 p4)), .val (.int (v0_5 q0 q1 q2 q3 p4)), .val (.int (v0_6 q0 q1 q2 q3 p4)), .unset, .unset, .unset, .unset, .unset, .unset, .unset, .unset] [(.long q3)])) _
    refine XT.bipushV X0.here hx rfl (32 : Int32) (hb hby at_43) (by decide) ?_
    show Steps p.tables e below (s₁.setTop (mkF m 45 #[.val (.long q0), .second, .val (.long q1), .second, .val (.long q2), .second, .val (.long q3), .second, .val (.int p4), .val (.int (v0_1 q0 q1 q2 q3 p4)), .val (.int (v0_2 q0 q1 q2 q3 p4)), .val (.int (v0_3 q0 q1 q2 q3 p4)), .val (.int (v0_4 q0 q1 q2 q3 p4)), .val (.int (v0_5 q0 q1 q2 q3 p4)), .val (.int (v0_6 q0 q1 q2 q3 p4)), .unset, .unset, .unset, .unset, .unset, .unset, .unset, .unset] [(.int (32 : Int32)), (.long q3)])) _
    refine XT.lushr X0.here hx rfl (hb hby at_45) rfl ?_
    show Steps p.tables e below (s₁.setTop (mkF m 46 #[.val (.long q0), .second, .val (.long q1), .second, .val (.long q2), .second, .val (.long q3), .second, .val (.int p4), .val (.int (v0_1 q0 q1 q2 q3 p4)), .val (.int (v0_2 q0 q1 q2 q3 p4)), .val (.int (v0_3 q0 q1 q2 q3 p4)), .val (.int (v0_4 q0 q1 q2 q3 p4)), .val (.int (v0_5 q0 q1 q2 q3 p4)), .val (.int (v0_6 q0 q1 q2 q3 p4)), .unset, .unset, .unset, .unset, .unset, .unset, .unset, .unset] [(.long (XT.ushrL q3 (32 : Int32)))])) _
    refine XT.l2i X0.here hx rfl (hb hby at_46) rfl ?_
    show Steps p.tables e below (s₁.setTop (mkF m 47 #[.val (.long q0), .second, .val (.long q1), .second, .val (.long q2), .second, .val (.long q3), .second, .val (.int p4), .val (.int (v0_1 q0 q1 q2 q3 p4)), .val (.int (v0_2 q0 q1 q2 q3 p4)), .val (.int (v0_3 q0 q1 q2 q3 p4)), .val (.int (v0_4 q0 q1 q2 q3 p4)), .val (.int (v0_5 q0 q1 q2 q3 p4)), .val (.int (v0_6 q0 q1 q2 q3 p4)), .unset, .unset, .unset, .unset, .unset, .unset, .unset, .unset] [(.int ((XT.ushrL q3 (32 : Int32)).toInt32))])) _
    refine XS.istore X0.here hx rfl (hb hby at_47) rfl (l' := #[.val (.long q0), .second, .val (.long q1), .second, .val (.long q2), .second, .val (.long q3), .second, .val (.int p4), .val (.int (v0_1 q0 q1 q2 q3 p4)), .val (.int (v0_2 q0 q1 q2 q3 p4)), .val (.int (v0_3 q0 q1 q2 q3 p4)), .val (.int (v0_4 q0 q1 q2 q3 p4)), .val (.int (v0_5 q0 q1 q2 q3 p4)), .val (.int (v0_6 q0 q1 q2 q3 p4)), .val (.int (v0_7 q0 q1 q2 q3 p4)), .unset, .unset, .unset, .unset, .unset, .unset, .unset]) rfl ?_
    show Steps p.tables e below (s₁.setTop (mkF m 49 #[.val (.long q0), .second, .val (.long q1), .second, .val (.long q2), .second, .val (.long q3), .second, .val (.int p4), .val (.int (v0_1 q0 q1 q2 q3 p4)), .val (.int (v0_2 q0 q1 q2 q3 p4)), .val (.int (v0_3 q0 q1 q2 q3 p4)), .val (.int (v0_4 q0 q1 q2 q3 p4)), .val (.int (v0_5 q0 q1 q2 q3 p4)), .val (.int (v0_6 q0 q1 q2 q3 p4)), .val (.int (v0_7 q0 q1 q2 q3 p4)), .unset, .unset, .unset, .unset, .unset, .unset, .unset] [])) _
    refine XT.lload X0.here hx rfl (hb hby at_49) rfl ?_
    show Steps p.tables e below (s₁.setTop (mkF m 51 #[.val (.long q0), .second, .val (.long q1), .second, .val (.long q2), .second, .val (.long q3), .second, .val (.int p4), .val (.int (v0_1 q0 q1 q2 q3 p4)), .val (.int (v0_2 q0 q1 q2 q3 p4)), .val (.int (v0_3 q0 q1 q2 q3 p4)), .val (.int (v0_4 q0 q1 q2 q3 p4)), .val (.int (v0_5 q0 q1 q2 q3 p4)), .val (.int (v0_6 q0 q1 q2 q3 p4)), .val (.int (v0_7 q0 q1 q2 q3 p4)), .unset, .unset, .unset, .unset, .unset, .unset, .unset] [(.long q3)])) _
    refine XT.l2i X0.here hx rfl (hb hby at_51) rfl ?_
    show Steps p.tables e below (s₁.setTop (mkF m 52 #[.val (.long q0), .second, .val (.long q1), .second, .val (.long q2), .second, .val (.long q3), .second, .val (.int p4), .val (.int (v0_1 q0 q1 q2 q3 p4)), .val (.int (v0_2 q0 q1 q2 q3 p4)), .val (.int (v0_3 q0 q1 q2 q3 p4)), .val (.int (v0_4 q0 q1 q2 q3 p4)), .val (.int (v0_5 q0 q1 q2 q3 p4)), .val (.int (v0_6 q0 q1 q2 q3 p4)), .val (.int (v0_7 q0 q1 q2 q3 p4)), .unset, .unset, .unset, .unset, .unset, .unset, .unset] [(.int (q3.toInt32))])) _
    refine XS.istore X0.here hx rfl (hb hby at_52) rfl (l' := #[.val (.long q0), .second, .val (.long q1), .second, .val (.long q2), .second, .val (.long q3), .second, .val (.int p4), .val (.int (v0_1 q0 q1 q2 q3 p4)), .val (.int (v0_2 q0 q1 q2 q3 p4)), .val (.int (v0_3 q0 q1 q2 q3 p4)), .val (.int (v0_4 q0 q1 q2 q3 p4)), .val (.int (v0_5 q0 q1 q2 q3 p4)), .val (.int (v0_6 q0 q1 q2 q3 p4)), .val (.int (v0_7 q0 q1 q2 q3 p4)), .val (.int (v0_8 q0 q1 q2 q3 p4)), .unset, .unset, .unset, .unset, .unset, .unset]) rfl ?_
    show Steps p.tables e below (s₁.setTop (mkF m 54 #[.val (.long q0), .second, .val (.long q1), .second, .val (.long q2), .second, .val (.long q3), .second, .val (.int p4), .val (.int (v0_1 q0 q1 q2 q3 p4)), .val (.int (v0_2 q0 q1 q2 q3 p4)), .val (.int (v0_3 q0 q1 q2 q3 p4)), .val (.int (v0_4 q0 q1 q2 q3 p4)), .val (.int (v0_5 q0 q1 q2 q3 p4)), .val (.int (v0_6 q0 q1 q2 q3 p4)), .val (.int (v0_7 q0 q1 q2 q3 p4)), .val (.int (v0_8 q0 q1 q2 q3 p4)), .unset, .unset, .unset, .unset, .unset, .unset] [])) _
    refine st1 _ ?_
    show Steps p.tables e below (T1.setTop (mkF m 57 #[.val (.long q0), .second, .val (.long q1), .second, .val (.long q2), .second, .val (.long q3), .second, .val (.int p4), .val (.int (v0_1 q0 q1 q2 q3 p4)), .val (.int (v0_2 q0 q1 q2 q3 p4)), .val (.int (v0_3 q0 q1 q2 q3 p4)), .val (.int (v0_4 q0 q1 q2 q3 p4)), .val (.int (v0_5 q0 q1 q2 q3 p4)), .val (.int (v0_6 q0 q1 q2 q3 p4)), .val (.int (v0_7 q0 q1 q2 q3 p4)), .val (.int (v0_8 q0 q1 q2 q3 p4)), .unset, .unset, .unset, .unset, .unset, .unset] [(.ref b1)])) _
    refine XS.dup X1.here hx rfl (hb hby at_57) rfl rfl ?_
    show Steps p.tables e below (T1.setTop (mkF m 58 #[.val (.long q0), .second, .val (.long q1), .second, .val (.long q2), .second, .val (.long q3), .second, .val (.int p4), .val (.int (v0_1 q0 q1 q2 q3 p4)), .val (.int (v0_2 q0 q1 q2 q3 p4)), .val (.int (v0_3 q0 q1 q2 q3 p4)), .val (.int (v0_4 q0 q1 q2 q3 p4)), .val (.int (v0_5 q0 q1 q2 q3 p4)), .val (.int (v0_6 q0 q1 q2 q3 p4)), .val (.int (v0_7 q0 q1 q2 q3 p4)), .val (.int (v0_8 q0 q1 q2 q3 p4)), .unset, .unset, .unset, .unset, .unset, .unset] [(.ref b1), (.ref b1)])) _
    refine XS.iload X1.here hx rfl (hb hby at_58) rfl ?_
    show Steps p.tables e below (T1.setTop (mkF m 60 #[.val (.long q0), .second, .val (.long q1), .second, .val (.long q2), .second, .val (.long q3), .second, .val (.int p4), .val (.int (v0_1 q0 q1 q2 q3 p4)), .val (.int (v0_2 q0 q1 q2 q3 p4)), .val (.int (v0_3 q0 q1 q2 q3 p4)), .val (.int (v0_4 q0 q1 q2 q3 p4)), .val (.int (v0_5 q0 q1 q2 q3 p4)), .val (.int (v0_6 q0 q1 q2 q3 p4)), .val (.int (v0_7 q0 q1 q2 q3 p4)), .val (.int (v0_8 q0 q1 q2 q3 p4)), .unset, .unset, .unset, .unset, .unset, .unset] [(.int (v0_1 q0 q1 q2 q3 p4)), (.ref b1), (.ref b1)])) _
    refine XS.iload X1.here hx rfl (hb hby at_60) rfl ?_
    show Steps p.tables e below (T1.setTop (mkF m 62 #[.val (.long q0), .second, .val (.long q1), .second, .val (.long q2), .second, .val (.long q3), .second, .val (.int p4), .val (.int (v0_1 q0 q1 q2 q3 p4)), .val (.int (v0_2 q0 q1 q2 q3 p4)), .val (.int (v0_3 q0 q1 q2 q3 p4)), .val (.int (v0_4 q0 q1 q2 q3 p4)), .val (.int (v0_5 q0 q1 q2 q3 p4)), .val (.int (v0_6 q0 q1 q2 q3 p4)), .val (.int (v0_7 q0 q1 q2 q3 p4)), .val (.int (v0_8 q0 q1 q2 q3 p4)), .unset, .unset, .unset, .unset, .unset, .unset] [(.int (v0_3 q0 q1 q2 q3 p4)), (.int (v0_1 q0 q1 q2 q3 p4)), (.ref b1), (.ref b1)])) _
    refine XS.iload X1.here hx rfl (hb hby at_62) rfl ?_
    show Steps p.tables e below (T1.setTop (mkF m 64 #[.val (.long q0), .second, .val (.long q1), .second, .val (.long q2), .second, .val (.long q3), .second, .val (.int p4), .val (.int (v0_1 q0 q1 q2 q3 p4)), .val (.int (v0_2 q0 q1 q2 q3 p4)), .val (.int (v0_3 q0 q1 q2 q3 p4)), .val (.int (v0_4 q0 q1 q2 q3 p4)), .val (.int (v0_5 q0 q1 q2 q3 p4)), .val (.int (v0_6 q0 q1 q2 q3 p4)), .val (.int (v0_7 q0 q1 q2 q3 p4)), .val (.int (v0_8 q0 q1 q2 q3 p4)), .unset, .unset, .unset, .unset, .unset, .unset] [(.int (v0_5 q0 q1 q2 q3 p4)), (.int (v0_3 q0 q1 q2 q3 p4)), (.int (v0_1 q0 q1 q2 q3 p4)), (.ref b1), (.ref b1)])) _
    refine st6 _ ?_
    show Steps p.tables e below (T6.setTop (mkF m 67 #[.val (.long q0), .second, .val (.long q1), .second, .val (.long q2), .second, .val (.long q3), .second, .val (.int p4), .val (.int (v0_1 q0 q1 q2 q3 p4)), .val (.int (v0_2 q0 q1 q2 q3 p4)), .val (.int (v0_3 q0 q1 q2 q3 p4)), .val (.int (v0_4 q0 q1 q2 q3 p4)), .val (.int (v0_5 q0 q1 q2 q3 p4)), .val (.int (v0_6 q0 q1 q2 q3 p4)), .val (.int (v0_7 q0 q1 q2 q3 p4)), .val (.int (v0_8 q0 q1 q2 q3 p4)), .unset, .unset, .unset, .unset, .unset, .unset] [(.double (f1 (v0_5 q0 q1 q2 q3 p4))), (.int (v0_3 q0 q1 q2 q3 p4)), (.int (v0_1 q0 q1 q2 q3 p4)), (.ref b1), (.ref b1)])) _
    refine XS.iload X6.here hx rfl (hb hby at_67) rfl ?_
    show Steps p.tables e below (T6.setTop (mkF m 69 #[.val (.long q0), .second, .val (.long q1), .second, .val (.long q2), .second, .val (.long q3), .second, .val (.int p4), .val (.int (v0_1 q0 q1 q2 q3 p4)), .val (.int (v0_2 q0 q1 q2 q3 p4)), .val (.int (v0_3 q0 q1 q2 q3 p4)), .val (.int (v0_4 q0 q1 q2 q3 p4)), .val (.int (v0_5 q0 q1 q2 q3 p4)), .val (.int (v0_6 q0 q1 q2 q3 p4)), .val (.int (v0_7 q0 q1 q2 q3 p4)), .val (.int (v0_8 q0 q1 q2 q3 p4)), .unset, .unset, .unset, .unset, .unset, .unset] [(.int (v0_7 q0 q1 q2 q3 p4)), (.double (f1 (v0_5 q0 q1 q2 q3 p4))), (.int (v0_3 q0 q1 q2 q3 p4)), (.int (v0_1 q0 q1 q2 q3 p4)), (.ref b1), (.ref b1)])) _
    refine st7 _ ?_
    show Steps p.tables e below (T7.setTop (mkF m 72 #[.val (.long q0), .second, .val (.long q1), .second, .val (.long q2), .second, .val (.long q3), .second, .val (.int p4), .val (.int (v0_1 q0 q1 q2 q3 p4)), .val (.int (v0_2 q0 q1 q2 q3 p4)), .val (.int (v0_3 q0 q1 q2 q3 p4)), .val (.int (v0_4 q0 q1 q2 q3 p4)), .val (.int (v0_5 q0 q1 q2 q3 p4)), .val (.int (v0_6 q0 q1 q2 q3 p4)), .val (.int (v0_7 q0 q1 q2 q3 p4)), .val (.int (v0_8 q0 q1 q2 q3 p4)), .unset, .unset, .unset, .unset, .unset, .unset] [(.double (f1 (v0_7 q0 q1 q2 q3 p4))), (.double (f1 (v0_5 q0 q1 q2 q3 p4))), (.int (v0_3 q0 q1 q2 q3 p4)), (.int (v0_1 q0 q1 q2 q3 p4)), (.ref b1), (.ref b1)])) _
    refine st8.trans ?_
    show Steps p.tables e below (T8.setTop (mkF m 75 #[.val (.long q0), .second, .val (.long q1), .second, .val (.long q2), .second, .val (.long q3), .second, .val (.int p4), .val (.int (v0_1 q0 q1 q2 q3 p4)), .val (.int (v0_2 q0 q1 q2 q3 p4)), .val (.int (v0_3 q0 q1 q2 q3 p4)), .val (.int (v0_4 q0 q1 q2 q3 p4)), .val (.int (v0_5 q0 q1 q2 q3 p4)), .val (.int (v0_6 q0 q1 q2 q3 p4)), .val (.int (v0_7 q0 q1 q2 q3 p4)), .val (.int (v0_8 q0 q1 q2 q3 p4)), .unset, .unset, .unset, .unset, .unset, .unset] [(.ref b1)])) _
    refine XS.astore X8.here hx rfl (hb hby at_75) rfl rfl (l' := #[.val (.long q0), .second, .val (.long q1), .second, .val (.long q2), .second, .val (.long q3), .second, .val (.int p4), .val (.int (v0_1 q0 q1 q2 q3 p4)), .val (.int (v0_2 q0 q1 q2 q3 p4)), .val (.int (v0_3 q0 q1 q2 q3 p4)), .val (.int (v0_4 q0 q1 q2 q3 p4)), .val (.int (v0_5 q0 q1 q2 q3 p4)), .val (.int (v0_6 q0 q1 q2 q3 p4)), .val (.int (v0_7 q0 q1 q2 q3 p4)), .val (.int (v0_8 q0 q1 q2 q3 p4)), .val (.ref b1), .unset, .unset, .unset, .unset, .unset]) rfl ?_
    show Steps p.tables e below (T8.setTop (mkF m 77 #[.val (.long q0), .second, .val (.long q1), .second, .val (.long q2), .second, .val (.long q3), .second, .val (.int p4), .val (.int (v0_1 q0 q1 q2 q3 p4)), .val (.int (v0_2 q0 q1 q2 q3 p4)), .val (.int (v0_3 q0 q1 q2 q3 p4)), .val (.int (v0_4 q0 q1 q2 q3 p4)), .val (.int (v0_5 q0 q1 q2 q3 p4)), .val (.int (v0_6 q0 q1 q2 q3 p4)), .val (.int (v0_7 q0 q1 q2 q3 p4)), .val (.int (v0_8 q0 q1 q2 q3 p4)), .val (.ref b1), .unset, .unset, .unset, .unset, .unset] [])) _
    refine st11 _ ?_
    show Steps p.tables e below (T11.setTop (mkF m 80 #[.val (.long q0), .second, .val (.long q1), .second, .val (.long q2), .second, .val (.long q3), .second, .val (.int p4), .val (.int (v0_1 q0 q1 q2 q3 p4)), .val (.int (v0_2 q0 q1 q2 q3 p4)), .val (.int (v0_3 q0 q1 q2 q3 p4)), .val (.int (v0_4 q0 q1 q2 q3 p4)), .val (.int (v0_5 q0 q1 q2 q3 p4)), .val (.int (v0_6 q0 q1 q2 q3 p4)), .val (.int (v0_7 q0 q1 q2 q3 p4)), .val (.int (v0_8 q0 q1 q2 q3 p4)), .val (.ref b1), .unset, .unset, .unset, .unset, .unset] [(.ref b11)])) _
    refine XS.dup X11.here hx rfl (hb hby at_80) rfl rfl ?_
    show Steps p.tables e below (T11.setTop (mkF m 81 #[.val (.long q0), .second, .val (.long q1), .second, .val (.long q2), .second, .val (.long q3), .second, .val (.int p4), .val (.int (v0_1 q0 q1 q2 q3 p4)), .val (.int (v0_2 q0 q1 q2 q3 p4)), .val (.int (v0_3 q0 q1 q2 q3 p4)), .val (.int (v0_4 q0 q1 q2 q3 p4)), .val (.int (v0_5 q0 q1 q2 q3 p4)), .val (.int (v0_6 q0 q1 q2 q3 p4)), .val (.int (v0_7 q0 q1 q2 q3 p4)), .val (.int (v0_8 q0 q1 q2 q3 p4)), .val (.ref b1), .unset, .unset, .unset, .unset, .unset] [(.ref b11), (.ref b11)])) _
    refine XS.iload X11.here hx rfl (hb hby at_81) rfl ?_
    show Steps p.tables e below (T11.setTop (mkF m 83 #[.val (.long q0), .second, .val (.long q1), .second, .val (.long q2), .second, .val (.long q3), .second, .val (.int p4), .val (.int (v0_1 q0 q1 q2 q3 p4)), .val (.int (v0_2 q0 q1 q2 q3 p4)), .val (.int (v0_3 q0 q1 q2 q3 p4)), .val (.int (v0_4 q0 q1 q2 q3 p4)), .val (.int (v0_5 q0 q1 q2 q3 p4)), .val (.int (v0_6 q0 q1 q2 q3 p4)), .val (.int (v0_7 q0 q1 q2 q3 p4)), .val (.int (v0_8 q0 q1 q2 q3 p4)), .val (.ref b1), .unset, .unset, .unset, .unset, .unset] [(.int (v0_2 q0 q1 q2 q3 p4)), (.ref b11), (.ref b11)])) _
    refine XS.iload X11.here hx rfl (hb hby at_83) rfl ?_
    show Steps p.tables e below (T11.setTop (mkF m 85 #[.val (.long q0), .second, .val (.long q1), .second, .val (.long q2), .second, .val (.long q3), .second, .val (.int p4), .val (.int (v0_1 q0 q1 q2 q3 p4)), .val (.int (v0_2 q0 q1 q2 q3 p4)), .val (.int (v0_3 q0 q1 q2 q3 p4)), .val (.int (v0_4 q0 q1 q2 q3 p4)), .val (.int (v0_5 q0 q1 q2 q3 p4)), .val (.int (v0_6 q0 q1 q2 q3 p4)), .val (.int (v0_7 q0 q1 q2 q3 p4)), .val (.int (v0_8 q0 q1 q2 q3 p4)), .val (.ref b1), .unset, .unset, .unset, .unset, .unset] [(.int (v0_4 q0 q1 q2 q3 p4)), (.int (v0_2 q0 q1 q2 q3 p4)), (.ref b11), (.ref b11)])) _
    refine XS.iload X11.here hx rfl (hb hby at_85) rfl ?_
    show Steps p.tables e below (T11.setTop (mkF m 87 #[.val (.long q0), .second, .val (.long q1), .second, .val (.long q2), .second, .val (.long q3), .second, .val (.int p4), .val (.int (v0_1 q0 q1 q2 q3 p4)), .val (.int (v0_2 q0 q1 q2 q3 p4)), .val (.int (v0_3 q0 q1 q2 q3 p4)), .val (.int (v0_4 q0 q1 q2 q3 p4)), .val (.int (v0_5 q0 q1 q2 q3 p4)), .val (.int (v0_6 q0 q1 q2 q3 p4)), .val (.int (v0_7 q0 q1 q2 q3 p4)), .val (.int (v0_8 q0 q1 q2 q3 p4)), .val (.ref b1), .unset, .unset, .unset, .unset, .unset] [(.int (v0_6 q0 q1 q2 q3 p4)), (.int (v0_4 q0 q1 q2 q3 p4)), (.int (v0_2 q0 q1 q2 q3 p4)), (.ref b11), (.ref b11)])) _
    refine st17 _ ?_
    show Steps p.tables e below (T17.setTop (mkF m 90 #[.val (.long q0), .second, .val (.long q1), .second, .val (.long q2), .second, .val (.long q3), .second, .val (.int p4), .val (.int (v0_1 q0 q1 q2 q3 p4)), .val (.int (v0_2 q0 q1 q2 q3 p4)), .val (.int (v0_3 q0 q1 q2 q3 p4)), .val (.int (v0_4 q0 q1 q2 q3 p4)), .val (.int (v0_5 q0 q1 q2 q3 p4)), .val (.int (v0_6 q0 q1 q2 q3 p4)), .val (.int (v0_7 q0 q1 q2 q3 p4)), .val (.int (v0_8 q0 q1 q2 q3 p4)), .val (.ref b1), .unset, .unset, .unset, .unset, .unset] [(.double (f1 (v0_6 q0 q1 q2 q3 p4))), (.int (v0_4 q0 q1 q2 q3 p4)), (.int (v0_2 q0 q1 q2 q3 p4)), (.ref b11), (.ref b11)])) _
    refine XS.iload X17.here hx rfl (hb hby at_90) rfl ?_
    show Steps p.tables e below (T17.setTop (mkF m 92 #[.val (.long q0), .second, .val (.long q1), .second, .val (.long q2), .second, .val (.long q3), .second, .val (.int p4), .val (.int (v0_1 q0 q1 q2 q3 p4)), .val (.int (v0_2 q0 q1 q2 q3 p4)), .val (.int (v0_3 q0 q1 q2 q3 p4)), .val (.int (v0_4 q0 q1 q2 q3 p4)), .val (.int (v0_5 q0 q1 q2 q3 p4)), .val (.int (v0_6 q0 q1 q2 q3 p4)), .val (.int (v0_7 q0 q1 q2 q3 p4)), .val (.int (v0_8 q0 q1 q2 q3 p4)), .val (.ref b1), .unset, .unset, .unset, .unset, .unset] [(.int (v0_8 q0 q1 q2 q3 p4)), (.double (f1 (v0_6 q0 q1 q2 q3 p4))), (.int (v0_4 q0 q1 q2 q3 p4)), (.int (v0_2 q0 q1 q2 q3 p4)), (.ref b11), (.ref b11)])) _
    refine st18 _ ?_
    show Steps p.tables e below (T18.setTop (mkF m 95 #[.val (.long q0), .second, .val (.long q1), .second, .val (.long q2), .second, .val (.long q3), .second, .val (.int p4), .val (.int (v0_1 q0 q1 q2 q3 p4)), .val (.int (v0_2 q0 q1 q2 q3 p4)), .val (.int (v0_3 q0 q1 q2 q3 p4)), .val (.int (v0_4 q0 q1 q2 q3 p4)), .val (.int (v0_5 q0 q1 q2 q3 p4)), .val (.int (v0_6 q0 q1 q2 q3 p4)), .val (.int (v0_7 q0 q1 q2 q3 p4)), .val (.int (v0_8 q0 q1 q2 q3 p4)), .val (.ref b1), .unset, .unset, .unset, .unset, .unset] [(.double (f1 (v0_8 q0 q1 q2 q3 p4))), (.double (f1 (v0_6 q0 q1 q2 q3 p4))), (.int (v0_4 q0 q1 q2 q3 p4)), (.int (v0_2 q0 q1 q2 q3 p4)), (.ref b11), (.ref b11)])) _
    refine st19.trans ?_
    show Steps p.tables e below (T19.setTop (mkF m 98 #[.val (.long q0), .second, .val (.long q1), .second, .val (.long q2), .second, .val (.long q3), .second, .val (.int p4), .val (.int (v0_1 q0 q1 q2 q3 p4)), .val (.int (v0_2 q0 q1 q2 q3 p4)), .val (.int (v0_3 q0 q1 q2 q3 p4)), .val (.int (v0_4 q0 q1 q2 q3 p4)), .val (.int (v0_5 q0 q1 q2 q3 p4)), .val (.int (v0_6 q0 q1 q2 q3 p4)), .val (.int (v0_7 q0 q1 q2 q3 p4)), .val (.int (v0_8 q0 q1 q2 q3 p4)), .val (.ref b1), .unset, .unset, .unset, .unset, .unset] [(.ref b11)])) _
    refine XS.astore X19.here hx rfl (hb hby at_98) rfl rfl (l' := #[.val (.long q0), .second, .val (.long q1), .second, .val (.long q2), .second, .val (.long q3), .second, .val (.int p4), .val (.int (v0_1 q0 q1 q2 q3 p4)), .val (.int (v0_2 q0 q1 q2 q3 p4)), .val (.int (v0_3 q0 q1 q2 q3 p4)), .val (.int (v0_4 q0 q1 q2 q3 p4)), .val (.int (v0_5 q0 q1 q2 q3 p4)), .val (.int (v0_6 q0 q1 q2 q3 p4)), .val (.int (v0_7 q0 q1 q2 q3 p4)), .val (.int (v0_8 q0 q1 q2 q3 p4)), .val (.ref b1), .val (.ref b11), .unset, .unset, .unset, .unset]) rfl ?_
    show Steps p.tables e below (T19.setTop (mkF m 100 #[.val (.long q0), .second, .val (.long q1), .second, .val (.long q2), .second, .val (.long q3), .second, .val (.int p4), .val (.int (v0_1 q0 q1 q2 q3 p4)), .val (.int (v0_2 q0 q1 q2 q3 p4)), .val (.int (v0_3 q0 q1 q2 q3 p4)), .val (.int (v0_4 q0 q1 q2 q3 p4)), .val (.int (v0_5 q0 q1 q2 q3 p4)), .val (.int (v0_6 q0 q1 q2 q3 p4)), .val (.int (v0_7 q0 q1 q2 q3 p4)), .val (.int (v0_8 q0 q1 q2 q3 p4)), .val (.ref b1), .val (.ref b11), .unset, .unset, .unset, .unset] [])) _
    refine XS.iload X19.here hx rfl (hb hby at_100) rfl ?_
    show Steps p.tables e below (T19.setTop (mkF m 102 #[.val (.long q0), .second, .val (.long q1), .second, .val (.long q2), .second, .val (.long q3), .second, .val (.int p4), .val (.int (v0_1 q0 q1 q2 q3 p4)), .val (.int (v0_2 q0 q1 q2 q3 p4)), .val (.int (v0_3 q0 q1 q2 q3 p4)), .val (.int (v0_4 q0 q1 q2 q3 p4)), .val (.int (v0_5 q0 q1 q2 q3 p4)), .val (.int (v0_6 q0 q1 q2 q3 p4)), .val (.int (v0_7 q0 q1 q2 q3 p4)), .val (.int (v0_8 q0 q1 q2 q3 p4)), .val (.ref b1), .val (.ref b11), .unset, .unset, .unset, .unset] [(.int p4)])) _
    refine XT.iconstV X19.here hx rfl (3 : Int32) (hb hby at_102) (by decide) ?_
    show Steps p.tables e below (T19.setTop (mkF m 103 #[.val (.long q0), .second, .val (.long q1), .second, .val (.long q2), .second, .val (.long q3), .second, .val (.int p4), .val (.int (v0_1 q0 q1 q2 q3 p4)), .val (.int (v0_2 q0 q1 q2 q3 p4)), .val (.int (v0_3 q0 q1 q2 q3 p4)), .val (.int (v0_4 q0 q1 q2 q3 p4)), .val (.int (v0_5 q0 q1 q2 q3 p4)), .val (.int (v0_6 q0 q1 q2 q3 p4)), .val (.int (v0_7 q0 q1 q2 q3 p4)), .val (.int (v0_8 q0 q1 q2 q3 p4)), .val (.ref b1), .val (.ref b11), .unset, .unset, .unset, .unset] [(.int (3 : Int32)), (.int p4)])) _
    refine XS.iand X19.here hx rfl (hb hby at_103) rfl ?_
    show Steps p.tables e below (T19.setTop (mkF m 104 #[.val (.long q0), .second, .val (.long q1), .second, .val (.long q2), .second, .val (.long q3), .second, .val (.int p4), .val (.int (v0_1 q0 q1 q2 q3 p4)), .val (.int (v0_2 q0 q1 q2 q3 p4)), .val (.int (v0_3 q0 q1 q2 q3 p4)), .val (.int (v0_4 q0 q1 q2 q3 p4)), .val (.int (v0_5 q0 q1 q2 q3 p4)), .val (.int (v0_6 q0 q1 q2 q3 p4)), .val (.int (v0_7 q0 q1 q2 q3 p4)), .val (.int (v0_8 q0 q1 q2 q3 p4)), .val (.ref b1), .val (.ref b11), .unset, .unset, .unset, .unset] [(.int (p4 &&& (3 : Int32)))])) _
    refine XS.istore X19.here hx rfl (hb hby at_104) rfl (l' := #[.val (.long q0), .second, .val (.long q1), .second, .val (.long q2), .second, .val (.long q3), .second, .val (.int p4), .val (.int (v0_1 q0 q1 q2 q3 p4)), .val (.int (v0_2 q0 q1 q2 q3 p4)), .val (.int (v0_3 q0 q1 q2 q3 p4)), .val (.int (v0_4 q0 q1 q2 q3 p4)), .val (.int (v0_5 q0 q1 q2 q3 p4)), .val (.int (v0_6 q0 q1 q2 q3 p4)), .val (.int (v0_7 q0 q1 q2 q3 p4)), .val (.int (v0_8 q0 q1 q2 q3 p4)), .val (.ref b1), .val (.ref b11), .val (.int (v0_13 q0 q1 q2 q3 p4)), .unset, .unset, .unset]) rfl ?_
    show Steps p.tables e below (T19.setTop (mkF m 106 #[.val (.long q0), .second, .val (.long q1), .second, .val (.long q2), .second, .val (.long q3), .second, .val (.int p4), .val (.int (v0_1 q0 q1 q2 q3 p4)), .val (.int (v0_2 q0 q1 q2 q3 p4)), .val (.int (v0_3 q0 q1 q2 q3 p4)), .val (.int (v0_4 q0 q1 q2 q3 p4)), .val (.int (v0_5 q0 q1 q2 q3 p4)), .val (.int (v0_6 q0 q1 q2 q3 p4)), .val (.int (v0_7 q0 q1 q2 q3 p4)), .val (.int (v0_8 q0 q1 q2 q3 p4)), .val (.ref b1), .val (.ref b11), .val (.int (v0_13 q0 q1 q2 q3 p4)), .unset, .unset, .unset] [])) _
    refine XS.iload X19.here hx rfl (hb hby at_106) rfl ?_
    exact k
  clear pre0 st1 st6 st7 st8 st11 st17 st18 st19
  by_cases c23 : (v0_13 q0 q1 q2 q3 p4) = (0 : Int32)
  · skip
    have pre24 : ∀ t, Steps p.tables e below (T19.setTop (mkF m 119 #[.val (.long q0), .second, .val (.long q1), .second, .val (.long q2), .second, .val (.long q3), .second, .val (.int p4), .val (.int (v0_1 q0 q1 q2 q3 p4)), .val (.int (v0_2 q0 q1 q2 q3 p4)), .val (.int (v0_3 q0 q1 q2 q3 p4)), .val (.int (v0_4 q0 q1 q2 q3 p4)), .val (.int (v0_5 q0 q1 q2 q3 p4)), .val (.int (v0_6 q0 q1 q2 q3 p4)), .val (.int (v0_7 q0 q1 q2 q3 p4)), .val (.int (v0_8 q0 q1 q2 q3 p4)), .val (.ref b1), .val (.ref b11), .val (.int (v0_13 q0 q1 q2 q3 p4)), .val (.ref b11), .unset, .unset] [(.int (v0_2 q0 q1 q2 q3 p4)), (.int (v0_1 q0 q1 q2 q3 p4))])) t → Steps p.tables e below (s₁.setTop (entryFrame m #[(.long q0), (.long q1), (.long q2), (.long q3), (.int p4)] maxLocals)) t := by
      intro t k
      refine pre22 t ?_
      show Steps p.tables e below (T19.setTop (mkF m 108 #[.val (.long q0), .second, .val (.long q1), .second, .val (.long q2), .second, .val (.long q3), .second, .val (.int p4), .val (.int (v0_1 q0 q1 q2 q3 p4)), .val (.int (v0_2 q0 q1 q2 q3 p4)), .val (.int (v0_3 q0 q1 q2 q3 p4)), .val (.int (v0_4 q0 q1 q2 q3 p4)), .val (.int (v0_5 q0 q1 q2 q3 p4)), .val (.int (v0_6 q0 q1 q2 q3 p4)), .val (.int (v0_7 q0 q1 q2 q3 p4)), .val (.int (v0_8 q0 q1 q2 q3 p4)), .val (.ref b1), .val (.ref b11), .val (.int (v0_13 q0 q1 q2 q3 p4)), .unset, .unset, .unset] [(.int (v0_13 q0 q1 q2 q3 p4))])) _
      refine XS.ifNo X19.here hx rfl (hb hby at_108) rfl (XT.i0_ne_f c23) ?_
      show Steps p.tables e below (T19.setTop (mkF m 111 #[.val (.long q0), .second, .val (.long q1), .second, .val (.long q2), .second, .val (.long q3), .second, .val (.int p4), .val (.int (v0_1 q0 q1 q2 q3 p4)), .val (.int (v0_2 q0 q1 q2 q3 p4)), .val (.int (v0_3 q0 q1 q2 q3 p4)), .val (.int (v0_4 q0 q1 q2 q3 p4)), .val (.int (v0_5 q0 q1 q2 q3 p4)), .val (.int (v0_6 q0 q1 q2 q3 p4)), .val (.int (v0_7 q0 q1 q2 q3 p4)), .val (.int (v0_8 q0 q1 q2 q3 p4)), .val (.ref b1), .val (.ref b11), .val (.int (v0_13 q0 q1 q2 q3 p4)), .unset, .unset, .unset] [])) _
      refine XS.aload X19.here hx rfl (hb hby at_111) rfl rfl ?_
      show Steps p.tables e below (T19.setTop (mkF m 113 #[.val (.long q0), .second, .val (.long q1), .second, .val (.long q2), .second, .val (.long q3), .second, .val (.int p4), .val (.int (v0_1 q0 q1 q2 q3 p4)), .val (.int (v0_2 q0 q1 q2 q3 p4)), .val (.int (v0_3 q0 q1 q2 q3 p4)), .val (.int (v0_4 q0 q1 q2 q3 p4)), .val (.int (v0_5 q0 q1 q2 q3 p4)), .val (.int (v0_6 q0 q1 q2 q3 p4)), .val (.int (v0_7 q0 q1 q2 q3 p4)), .val (.int (v0_8 q0 q1 q2 q3 p4)), .val (.ref b1), .val (.ref b11), .val (.int (v0_13 q0 q1 q2 q3 p4)), .unset, .unset, .unset] [(.ref b11)])) _
      refine XS.astore X19.here hx rfl (hb hby at_113) rfl rfl (l' := #[.val (.long q0), .second, .val (.long q1), .second, .val (.long q2), .second, .val (.long q3), .second, .val (.int p4), .val (.int (v0_1 q0 q1 q2 q3 p4)), .val (.int (v0_2 q0 q1 q2 q3 p4)), .val (.int (v0_3 q0 q1 q2 q3 p4)), .val (.int (v0_4 q0 q1 q2 q3 p4)), .val (.int (v0_5 q0 q1 q2 q3 p4)), .val (.int (v0_6 q0 q1 q2 q3 p4)), .val (.int (v0_7 q0 q1 q2 q3 p4)), .val (.int (v0_8 q0 q1 q2 q3 p4)), .val (.ref b1), .val (.ref b11), .val (.int (v0_13 q0 q1 q2 q3 p4)), .val (.ref b11), .unset, .unset]) rfl ?_
      show Steps p.tables e below (T19.setTop (mkF m 115 #[.val (.long q0), .second, .val (.long q1), .second, .val (.long q2), .second, .val (.long q3), .second, .val (.int p4), .val (.int (v0_1 q0 q1 q2 q3 p4)), .val (.int (v0_2 q0 q1 q2 q3 p4)), .val (.int (v0_3 q0 q1 q2 q3 p4)), .val (.int (v0_4 q0 q1 q2 q3 p4)), .val (.int (v0_5 q0 q1 q2 q3 p4)), .val (.int (v0_6 q0 q1 q2 q3 p4)), .val (.int (v0_7 q0 q1 q2 q3 p4)), .val (.int (v0_8 q0 q1 q2 q3 p4)), .val (.ref b1), .val (.ref b11), .val (.int (v0_13 q0 q1 q2 q3 p4)), .val (.ref b11), .unset, .unset] [])) _
      refine XS.iload X19.here hx rfl (hb hby at_115) rfl ?_
      show Steps p.tables e below (T19.setTop (mkF m 117 #[.val (.long q0), .second, .val (.long q1), .second, .val (.long q2), .second, .val (.long q3), .second, .val (.int p4), .val (.int (v0_1 q0 q1 q2 q3 p4)), .val (.int (v0_2 q0 q1 q2 q3 p4)), .val (.int (v0_3 q0 q1 q2 q3 p4)), .val (.int (v0_4 q0 q1 q2 q3 p4)), .val (.int (v0_5 q0 q1 q2 q3 p4)), .val (.int (v0_6 q0 q1 q2 q3 p4)), .val (.int (v0_7 q0 q1 q2 q3 p4)), .val (.int (v0_8 q0 q1 q2 q3 p4)), .val (.ref b1), .val (.ref b11), .val (.int (v0_13 q0 q1 q2 q3 p4)), .val (.ref b11), .unset, .unset] [(.int (v0_1 q0 q1 q2 q3 p4))])) _
      refine XS.iload X19.here hx rfl (hb hby at_117) rfl ?_
      exact k
    clear pre22
    obtain ⟨T34, L34, X34, e34, N34, pre34⟩ : ∃ (T' : State) (L' : List Loc), Stand p l e room_1 s m #[(.long q0), (.long q1), (.long q2), (.long q3), (.int p4)] below meth c T' L' 2 8 ∧ T'.heap = T19.heap ∧ Fr n0 L' ∧ ∀ t, Steps p.tables e below (T'.setTop (mkF m 154 #[.val (.long q0), .second, .val (.long q1), .second, .val (.long q2), .second, .val (.long q3), .second, .val (.int p4), .val (.int (v0_1 q0 q1 q2 q3 p4)), .val (.int (v0_2 q0 q1 q2 q3 p4)), .val (.int (v0_3 q0 q1 q2 q3 p4)), .val (.int (v0_4 q0 q1 q2 q3 p4)), .val (.int (v0_5 q0 q1 q2 q3 p4)), .val (.int (v0_6 q0 q1 q2 q3 p4)), .val (.int (v0_7 q0 q1 q2 q3 p4)), .val (.int (v0_8 q0 q1 q2 q3 p4)), .val (.ref b1), .val (.ref b11), .val (.int (v0_13 q0 q1 q2 q3 p4)), .val (.ref b11), .unset, .unset] [(.int (v0_16 q0 q1 q2 q3 p4))])) t → Steps p.tables e below (s₁.setTop (entryFrame m #[(.long q0), (.long q1), (.long q2), (.long q3), (.int p4)] maxLocals)) t := by
      by_cases c25 : (v0_1 q0 q1 q2 q3 p4) = (v0_2 q0 q1 q2 q3 p4)
      · skip
        have pre26 : ∀ t, Steps p.tables e below (T19.setTop (mkF m 126 #[.val (.long q0), .second, .val (.long q1), .second, .val (.long q2), .second, .val (.long q3), .second, .val (.int p4), .val (.int (v0_1 q0 q1 q2 q3 p4)), .val (.int (v0_2 q0 q1 q2 q3 p4)), .val (.int (v0_3 q0 q1 q2 q3 p4)), .val (.int (v0_4 q0 q1 q2 q3 p4)), .val (.int (v0_5 q0 q1 q2 q3 p4)), .val (.int (v0_6 q0 q1 q2 q3 p4)), .val (.int (v0_7 q0 q1 q2 q3 p4)), .val (.int (v0_8 q0 q1 q2 q3 p4)), .val (.ref b1), .val (.ref b11), .val (.int (v0_13 q0 q1 q2 q3 p4)), .val (.ref b11), .unset, .unset] [(.int (v0_4 q0 q1 q2 q3 p4)), (.int (v0_3 q0 q1 q2 q3 p4))])) t → Steps p.tables e below (s₁.setTop (entryFrame m #[(.long q0), (.long q1), (.long q2), (.long q3), (.int p4)] maxLocals)) t := by
          intro t k
          refine pre24 t ?_
          show Steps p.tables e below (T19.setTop (mkF m 119 #[.val (.long q0), .second, .val (.long q1), .second, .val (.long q2), .second, .val (.long q3), .second, .val (.int p4), .val (.int (v0_1 q0 q1 q2 q3 p4)), .val (.int (v0_2 q0 q1 q2 q3 p4)), .val (.int (v0_3 q0 q1 q2 q3 p4)), .val (.int (v0_4 q0 q1 q2 q3 p4)), .val (.int (v0_5 q0 q1 q2 q3 p4)), .val (.int (v0_6 q0 q1 q2 q3 p4)), .val (.int (v0_7 q0 q1 q2 q3 p4)), .val (.int (v0_8 q0 q1 q2 q3 p4)), .val (.ref b1), .val (.ref b11), .val (.int (v0_13 q0 q1 q2 q3 p4)), .val (.ref b11), .unset, .unset] [(.int (v0_2 q0 q1 q2 q3 p4)), (.int (v0_1 q0 q1 q2 q3 p4))])) _
          refine XS.icmpNo X19.here hx rfl (hb hby at_119) rfl (XT.ii_ne_f c25) ?_
          show Steps p.tables e below (T19.setTop (mkF m 122 #[.val (.long q0), .second, .val (.long q1), .second, .val (.long q2), .second, .val (.long q3), .second, .val (.int p4), .val (.int (v0_1 q0 q1 q2 q3 p4)), .val (.int (v0_2 q0 q1 q2 q3 p4)), .val (.int (v0_3 q0 q1 q2 q3 p4)), .val (.int (v0_4 q0 q1 q2 q3 p4)), .val (.int (v0_5 q0 q1 q2 q3 p4)), .val (.int (v0_6 q0 q1 q2 q3 p4)), .val (.int (v0_7 q0 q1 q2 q3 p4)), .val (.int (v0_8 q0 q1 q2 q3 p4)), .val (.ref b1), .val (.ref b11), .val (.int (v0_13 q0 q1 q2 q3 p4)), .val (.ref b11), .unset, .unset] [])) _
          refine XS.iload X19.here hx rfl (hb hby at_122) rfl ?_
          show Steps p.tables e below (T19.setTop (mkF m 124 #[.val (.long q0), .second, .val (.long q1), .second, .val (.long q2), .second, .val (.long q3), .second, .val (.int p4), .val (.int (v0_1 q0 q1 q2 q3 p4)), .val (.int (v0_2 q0 q1 q2 q3 p4)), .val (.int (v0_3 q0 q1 q2 q3 p4)), .val (.int (v0_4 q0 q1 q2 q3 p4)), .val (.int (v0_5 q0 q1 q2 q3 p4)), .val (.int (v0_6 q0 q1 q2 q3 p4)), .val (.int (v0_7 q0 q1 q2 q3 p4)), .val (.int (v0_8 q0 q1 q2 q3 p4)), .val (.ref b1), .val (.ref b11), .val (.int (v0_13 q0 q1 q2 q3 p4)), .val (.ref b11), .unset, .unset] [(.int (v0_3 q0 q1 q2 q3 p4))])) _
          refine XS.iload X19.here hx rfl (hb hby at_124) rfl ?_
          exact k
        clear pre24
        by_cases c27 : (v0_3 q0 q1 q2 q3 p4) = (v0_4 q0 q1 q2 q3 p4)
        · skip
          obtain ⟨vr28, _, ⟨T28, L28, k28, n28⟩, -, X28, ⟨Lc28, hQ28, l28, y28, z28⟩, st28⟩ := Jvm.LawKit.callS X19 hx (y := (⟨"com/example/khonsu/khonsu/trajectory/TrajectoryRowEqualsPinLaw", "sameCoord", "(II)Z"⟩ : MethodName)) hown (mvT hZ (wd hw 75 rfl)) (mvT hZ (wd hw 76 rfl)) (mvT hZ (wd hw 6 rfl)) (mvT hZ (wd hw 77 rfl)) (by decide) (backOf (W := 0) (rm13 l Z a0 hw [] (v0_5 q0 q1 q2 q3 p4) (v0_6 q0 q1 q2 q3 p4) T19.heap n0 z20) hZ (wd hw 77 rfl) (wd hw 6 rfl) (by decide) (by decide)) (g := (mkF m 133 #[.val (.long q0), .second, .val (.long q1), .second, .val (.long q2), .second, .val (.long q3), .second, .val (.int p4), .val (.int (v0_1 q0 q1 q2 q3 p4)), .val (.int (v0_2 q0 q1 q2 q3 p4)), .val (.int (v0_3 q0 q1 q2 q3 p4)), .val (.int (v0_4 q0 q1 q2 q3 p4)), .val (.int (v0_5 q0 q1 q2 q3 p4)), .val (.int (v0_6 q0 q1 q2 q3 p4)), .val (.int (v0_7 q0 q1 q2 q3 p4)), .val (.int (v0_8 q0 q1 q2 q3 p4)), .val (.ref b1), .val (.ref b11), .val (.int (v0_13 q0 q1 q2 q3 p4)), .val (.ref b11), .unset, .unset] [(.int (v0_6 q0 q1 q2 q3 p4)), (.int (v0_5 q0 q1 q2 q3 p4))])) rfl (by rw [hml]; rfl) (argsL := [(.int (v0_5 q0 q1 q2 q3 p4)), (.int (v0_6 q0 q1 q2 q3 p4))]) (rest := []) (lenOf pd__II_Z rfl) rfl (by show 2 * 0 + _ ≤ _; exact Nat.le_of_eq rfl) (hb hby at_133) (fun _ _ => ⟨rfl, rfl, (by decide : 2 + 0 ≤ _), (by decide : 8 + 0 ≤ _)⟩)
          dsimp only [Pt.U, Pt.locs, Pt.cells, Pt.slots] at X28 l28 y28 z28 st28 hQ28
          replace X28 := own_stand X28 l28 y28 z28
          clear l28 y28 z28
          have N28q := (show _ ∧ _ ∧ _ from hQ28).1
          have hv28 := (show _ ∧ _ ∧ _ from hQ28).2.1
          have e28 := (show _ ∧ _ ∧ _ from hQ28).2.2
          clear hQ28
          subst hv28
          have N28 := Fr.app N19 N28q
          have pre29 : ∀ t, Steps p.tables e below (T28.setTop (mkF m 136 #[.val (.long q0), .second, .val (.long q1), .second, .val (.long q2), .second, .val (.long q3), .second, .val (.int p4), .val (.int (v0_1 q0 q1 q2 q3 p4)), .val (.int (v0_2 q0 q1 q2 q3 p4)), .val (.int (v0_3 q0 q1 q2 q3 p4)), .val (.int (v0_4 q0 q1 q2 q3 p4)), .val (.int (v0_5 q0 q1 q2 q3 p4)), .val (.int (v0_6 q0 q1 q2 q3 p4)), .val (.int (v0_7 q0 q1 q2 q3 p4)), .val (.int (v0_8 q0 q1 q2 q3 p4)), .val (.ref b1), .val (.ref b11), .val (.int (v0_13 q0 q1 q2 q3 p4)), .val (.ref b11), .unset, .unset] [(.int (f13 (v0_5 q0 q1 q2 q3 p4) (v0_6 q0 q1 q2 q3 p4)))])) t → Steps p.tables e below (s₁.setTop (entryFrame m #[(.long q0), (.long q1), (.long q2), (.long q3), (.int p4)] maxLocals)) t := by
            intro t k
            refine pre26 t ?_
            show Steps p.tables e below (T19.setTop (mkF m 126 #[.val (.long q0), .second, .val (.long q1), .second, .val (.long q2), .second, .val (.long q3), .second, .val (.int p4), .val (.int (v0_1 q0 q1 q2 q3 p4)), .val (.int (v0_2 q0 q1 q2 q3 p4)), .val (.int (v0_3 q0 q1 q2 q3 p4)), .val (.int (v0_4 q0 q1 q2 q3 p4)), .val (.int (v0_5 q0 q1 q2 q3 p4)), .val (.int (v0_6 q0 q1 q2 q3 p4)), .val (.int (v0_7 q0 q1 q2 q3 p4)), .val (.int (v0_8 q0 q1 q2 q3 p4)), .val (.ref b1), .val (.ref b11), .val (.int (v0_13 q0 q1 q2 q3 p4)), .val (.ref b11), .unset, .unset] [(.int (v0_4 q0 q1 q2 q3 p4)), (.int (v0_3 q0 q1 q2 q3 p4))])) _
            refine XS.icmpNo X19.here hx rfl (hb hby at_126) rfl (XT.ii_ne_f c27) ?_
            show Steps p.tables e below (T19.setTop (mkF m 129 #[.val (.long q0), .second, .val (.long q1), .second, .val (.long q2), .second, .val (.long q3), .second, .val (.int p4), .val (.int (v0_1 q0 q1 q2 q3 p4)), .val (.int (v0_2 q0 q1 q2 q3 p4)), .val (.int (v0_3 q0 q1 q2 q3 p4)), .val (.int (v0_4 q0 q1 q2 q3 p4)), .val (.int (v0_5 q0 q1 q2 q3 p4)), .val (.int (v0_6 q0 q1 q2 q3 p4)), .val (.int (v0_7 q0 q1 q2 q3 p4)), .val (.int (v0_8 q0 q1 q2 q3 p4)), .val (.ref b1), .val (.ref b11), .val (.int (v0_13 q0 q1 q2 q3 p4)), .val (.ref b11), .unset, .unset] [])) _
            refine XS.iload X19.here hx rfl (hb hby at_129) rfl ?_
            show Steps p.tables e below (T19.setTop (mkF m 131 #[.val (.long q0), .second, .val (.long q1), .second, .val (.long q2), .second, .val (.long q3), .second, .val (.int p4), .val (.int (v0_1 q0 q1 q2 q3 p4)), .val (.int (v0_2 q0 q1 q2 q3 p4)), .val (.int (v0_3 q0 q1 q2 q3 p4)), .val (.int (v0_4 q0 q1 q2 q3 p4)), .val (.int (v0_5 q0 q1 q2 q3 p4)), .val (.int (v0_6 q0 q1 q2 q3 p4)), .val (.int (v0_7 q0 q1 q2 q3 p4)), .val (.int (v0_8 q0 q1 q2 q3 p4)), .val (.ref b1), .val (.ref b11), .val (.int (v0_13 q0 q1 q2 q3 p4)), .val (.ref b11), .unset, .unset] [(.int (v0_5 q0 q1 q2 q3 p4))])) _
            refine XS.iload X19.here hx rfl (hb hby at_131) rfl ?_
            show Steps p.tables e below (T19.setTop (mkF m 133 #[.val (.long q0), .second, .val (.long q1), .second, .val (.long q2), .second, .val (.long q3), .second, .val (.int p4), .val (.int (v0_1 q0 q1 q2 q3 p4)), .val (.int (v0_2 q0 q1 q2 q3 p4)), .val (.int (v0_3 q0 q1 q2 q3 p4)), .val (.int (v0_4 q0 q1 q2 q3 p4)), .val (.int (v0_5 q0 q1 q2 q3 p4)), .val (.int (v0_6 q0 q1 q2 q3 p4)), .val (.int (v0_7 q0 q1 q2 q3 p4)), .val (.int (v0_8 q0 q1 q2 q3 p4)), .val (.ref b1), .val (.ref b11), .val (.int (v0_13 q0 q1 q2 q3 p4)), .val (.ref b11), .unset, .unset] [(.int (v0_6 q0 q1 q2 q3 p4)), (.int (v0_5 q0 q1 q2 q3 p4))])) _
            refine st28 _ ?_
            exact k
          clear pre26 st28
          by_cases c30 : (v0_14 q0 q1 q2 q3 p4) = (0 : Int32)
          · skip
            refine ⟨T28, _, X28, e28, N28, fun t k => ?_⟩
            rw [show (v0_16 q0 q1 q2 q3 p4) = (0 : Int32) from (((if_pos c25).trans (if_pos c27)).trans (if_pos c30))] at k
            refine pre29 t ?_
            show Steps p.tables e below (T28.setTop (mkF m 136 #[.val (.long q0), .second, .val (.long q1), .second, .val (.long q2), .second, .val (.long q3), .second, .val (.int p4), .val (.int (v0_1 q0 q1 q2 q3 p4)), .val (.int (v0_2 q0 q1 q2 q3 p4)), .val (.int (v0_3 q0 q1 q2 q3 p4)), .val (.int (v0_4 q0 q1 q2 q3 p4)), .val (.int (v0_5 q0 q1 q2 q3 p4)), .val (.int (v0_6 q0 q1 q2 q3 p4)), .val (.int (v0_7 q0 q1 q2 q3 p4)), .val (.int (v0_8 q0 q1 q2 q3 p4)), .val (.ref b1), .val (.ref b11), .val (.int (v0_13 q0 q1 q2 q3 p4)), .val (.ref b11), .unset, .unset] [(.int (f13 (v0_5 q0 q1 q2 q3 p4) (v0_6 q0 q1 q2 q3 p4)))])) _
            refine XS.ifYes X28.here hx rfl (pc0 := 136) (pc' := 153) rfl (hb hby at_136) rfl (XT.i0_eq_t c30) (by decide) (by decide) ?_
            show Steps p.tables e below (T28.setTop (mkF m 153 #[.val (.long q0), .second, .val (.long q1), .second, .val (.long q2), .second, .val (.long q3), .second, .val (.int p4), .val (.int (v0_1 q0 q1 q2 q3 p4)), .val (.int (v0_2 q0 q1 q2 q3 p4)), .val (.int (v0_3 q0 q1 q2 q3 p4)), .val (.int (v0_4 q0 q1 q2 q3 p4)), .val (.int (v0_5 q0 q1 q2 q3 p4)), .val (.int (v0_6 q0 q1 q2 q3 p4)), .val (.int (v0_7 q0 q1 q2 q3 p4)), .val (.int (v0_8 q0 q1 q2 q3 p4)), .val (.ref b1), .val (.ref b11), .val (.int (v0_13 q0 q1 q2 q3 p4)), .val (.ref b11), .unset, .unset] [])) _
            refine XT.iconstV X28.here hx rfl (0 : Int32) (hb hby at_153) (by decide) ?_
            exact k
          · skip
            obtain ⟨vr31, _, ⟨T31, L31, k31, n31⟩, -, X31, ⟨Lc31, hQ31, l31, y31, z31⟩, st31⟩ := Jvm.LawKit.callS X28 hx (y := (⟨"com/example/khonsu/khonsu/trajectory/TrajectoryRowEqualsPinLaw", "sameCoord", "(II)Z"⟩ : MethodName)) hown (mvT hZ (wd hw 75 rfl)) (mvT hZ (wd hw 76 rfl)) (mvT hZ (wd hw 6 rfl)) (mvT hZ (wd hw 77 rfl)) (by decide) (backOf (W := 0) (rm13 l Z a0 hw [] (v0_7 q0 q1 q2 q3 p4) (v0_8 q0 q1 q2 q3 p4) T19.heap n0 z20) hZ (wd hw 77 rfl) (wd hw 6 rfl) (by decide) (by decide)) (g := (mkF m 143 #[.val (.long q0), .second, .val (.long q1), .second, .val (.long q2), .second, .val (.long q3), .second, .val (.int p4), .val (.int (v0_1 q0 q1 q2 q3 p4)), .val (.int (v0_2 q0 q1 q2 q3 p4)), .val (.int (v0_3 q0 q1 q2 q3 p4)), .val (.int (v0_4 q0 q1 q2 q3 p4)), .val (.int (v0_5 q0 q1 q2 q3 p4)), .val (.int (v0_6 q0 q1 q2 q3 p4)), .val (.int (v0_7 q0 q1 q2 q3 p4)), .val (.int (v0_8 q0 q1 q2 q3 p4)), .val (.ref b1), .val (.ref b11), .val (.int (v0_13 q0 q1 q2 q3 p4)), .val (.ref b11), .unset, .unset] [(.int (v0_8 q0 q1 q2 q3 p4)), (.int (v0_7 q0 q1 q2 q3 p4))])) rfl (by rw [hml]; rfl) (argsL := [(.int (v0_7 q0 q1 q2 q3 p4)), (.int (v0_8 q0 q1 q2 q3 p4))]) (rest := []) (lenOf pd__II_Z rfl) rfl (by show 2 * 0 + _ ≤ _; exact Nat.le_of_eq rfl) (hb hby at_143) (fun _ _ => ⟨rfl, e28, (by decide : 2 + 0 ≤ _), (by decide : 8 + 0 ≤ _)⟩)
            dsimp only [Pt.U, Pt.locs, Pt.cells, Pt.slots] at X31 l31 y31 z31 st31 hQ31
            replace X31 := own_stand X31 l31 y31 z31
            clear l31 y31 z31
            have N31q := (show _ ∧ _ ∧ _ from hQ31).1
            have hv31 := (show _ ∧ _ ∧ _ from hQ31).2.1
            have e31 := (show _ ∧ _ ∧ _ from hQ31).2.2
            clear hQ31
            subst hv31
            have N31 := Fr.app N28 N31q
            have pre32 : ∀ t, Steps p.tables e below (T31.setTop (mkF m 146 #[.val (.long q0), .second, .val (.long q1), .second, .val (.long q2), .second, .val (.long q3), .second, .val (.int p4), .val (.int (v0_1 q0 q1 q2 q3 p4)), .val (.int (v0_2 q0 q1 q2 q3 p4)), .val (.int (v0_3 q0 q1 q2 q3 p4)), .val (.int (v0_4 q0 q1 q2 q3 p4)), .val (.int (v0_5 q0 q1 q2 q3 p4)), .val (.int (v0_6 q0 q1 q2 q3 p4)), .val (.int (v0_7 q0 q1 q2 q3 p4)), .val (.int (v0_8 q0 q1 q2 q3 p4)), .val (.ref b1), .val (.ref b11), .val (.int (v0_13 q0 q1 q2 q3 p4)), .val (.ref b11), .unset, .unset] [(.int (f13 (v0_7 q0 q1 q2 q3 p4) (v0_8 q0 q1 q2 q3 p4)))])) t → Steps p.tables e below (s₁.setTop (entryFrame m #[(.long q0), (.long q1), (.long q2), (.long q3), (.int p4)] maxLocals)) t := by
              intro t k
              refine pre29 t ?_
              show Steps p.tables e below (T28.setTop (mkF m 136 #[.val (.long q0), .second, .val (.long q1), .second, .val (.long q2), .second, .val (.long q3), .second, .val (.int p4), .val (.int (v0_1 q0 q1 q2 q3 p4)), .val (.int (v0_2 q0 q1 q2 q3 p4)), .val (.int (v0_3 q0 q1 q2 q3 p4)), .val (.int (v0_4 q0 q1 q2 q3 p4)), .val (.int (v0_5 q0 q1 q2 q3 p4)), .val (.int (v0_6 q0 q1 q2 q3 p4)), .val (.int (v0_7 q0 q1 q2 q3 p4)), .val (.int (v0_8 q0 q1 q2 q3 p4)), .val (.ref b1), .val (.ref b11), .val (.int (v0_13 q0 q1 q2 q3 p4)), .val (.ref b11), .unset, .unset] [(.int (f13 (v0_5 q0 q1 q2 q3 p4) (v0_6 q0 q1 q2 q3 p4)))])) _
              refine XS.ifNo X28.here hx rfl (hb hby at_136) rfl (XT.i0_eq_f c30) ?_
              show Steps p.tables e below (T28.setTop (mkF m 139 #[.val (.long q0), .second, .val (.long q1), .second, .val (.long q2), .second, .val (.long q3), .second, .val (.int p4), .val (.int (v0_1 q0 q1 q2 q3 p4)), .val (.int (v0_2 q0 q1 q2 q3 p4)), .val (.int (v0_3 q0 q1 q2 q3 p4)), .val (.int (v0_4 q0 q1 q2 q3 p4)), .val (.int (v0_5 q0 q1 q2 q3 p4)), .val (.int (v0_6 q0 q1 q2 q3 p4)), .val (.int (v0_7 q0 q1 q2 q3 p4)), .val (.int (v0_8 q0 q1 q2 q3 p4)), .val (.ref b1), .val (.ref b11), .val (.int (v0_13 q0 q1 q2 q3 p4)), .val (.ref b11), .unset, .unset] [])) _
              refine XS.iload X28.here hx rfl (hb hby at_139) rfl ?_
              show Steps p.tables e below (T28.setTop (mkF m 141 #[.val (.long q0), .second, .val (.long q1), .second, .val (.long q2), .second, .val (.long q3), .second, .val (.int p4), .val (.int (v0_1 q0 q1 q2 q3 p4)), .val (.int (v0_2 q0 q1 q2 q3 p4)), .val (.int (v0_3 q0 q1 q2 q3 p4)), .val (.int (v0_4 q0 q1 q2 q3 p4)), .val (.int (v0_5 q0 q1 q2 q3 p4)), .val (.int (v0_6 q0 q1 q2 q3 p4)), .val (.int (v0_7 q0 q1 q2 q3 p4)), .val (.int (v0_8 q0 q1 q2 q3 p4)), .val (.ref b1), .val (.ref b11), .val (.int (v0_13 q0 q1 q2 q3 p4)), .val (.ref b11), .unset, .unset] [(.int (v0_7 q0 q1 q2 q3 p4))])) _
              refine XS.iload X28.here hx rfl (hb hby at_141) rfl ?_
              show Steps p.tables e below (T28.setTop (mkF m 143 #[.val (.long q0), .second, .val (.long q1), .second, .val (.long q2), .second, .val (.long q3), .second, .val (.int p4), .val (.int (v0_1 q0 q1 q2 q3 p4)), .val (.int (v0_2 q0 q1 q2 q3 p4)), .val (.int (v0_3 q0 q1 q2 q3 p4)), .val (.int (v0_4 q0 q1 q2 q3 p4)), .val (.int (v0_5 q0 q1 q2 q3 p4)), .val (.int (v0_6 q0 q1 q2 q3 p4)), .val (.int (v0_7 q0 q1 q2 q3 p4)), .val (.int (v0_8 q0 q1 q2 q3 p4)), .val (.ref b1), .val (.ref b11), .val (.int (v0_13 q0 q1 q2 q3 p4)), .val (.ref b11), .unset, .unset] [(.int (v0_8 q0 q1 q2 q3 p4)), (.int (v0_7 q0 q1 q2 q3 p4))])) _
              refine st31 _ ?_
              exact k
            clear pre29 st31
            by_cases c33 : (v0_15 q0 q1 q2 q3 p4) = (0 : Int32)
            · skip
              refine ⟨T31, _, X31, e31, N31, fun t k => ?_⟩
              rw [show (v0_16 q0 q1 q2 q3 p4) = (0 : Int32) from ((((if_pos c25).trans (if_pos c27)).trans (if_neg c30)).trans (if_pos c33))] at k
              refine pre32 t ?_
              show Steps p.tables e below (T31.setTop (mkF m 146 #[.val (.long q0), .second, .val (.long q1), .second, .val (.long q2), .second, .val (.long q3), .second, .val (.int p4), .val (.int (v0_1 q0 q1 q2 q3 p4)), .val (.int (v0_2 q0 q1 q2 q3 p4)), .val (.int (v0_3 q0 q1 q2 q3 p4)), .val (.int (v0_4 q0 q1 q2 q3 p4)), .val (.int (v0_5 q0 q1 q2 q3 p4)), .val (.int (v0_6 q0 q1 q2 q3 p4)), .val (.int (v0_7 q0 q1 q2 q3 p4)), .val (.int (v0_8 q0 q1 q2 q3 p4)), .val (.ref b1), .val (.ref b11), .val (.int (v0_13 q0 q1 q2 q3 p4)), .val (.ref b11), .unset, .unset] [(.int (f13 (v0_7 q0 q1 q2 q3 p4) (v0_8 q0 q1 q2 q3 p4)))])) _
              refine XS.ifYes X31.here hx rfl (pc0 := 146) (pc' := 153) rfl (hb hby at_146) rfl (XT.i0_eq_t c33) (by decide) (by decide) ?_
              show Steps p.tables e below (T31.setTop (mkF m 153 #[.val (.long q0), .second, .val (.long q1), .second, .val (.long q2), .second, .val (.long q3), .second, .val (.int p4), .val (.int (v0_1 q0 q1 q2 q3 p4)), .val (.int (v0_2 q0 q1 q2 q3 p4)), .val (.int (v0_3 q0 q1 q2 q3 p4)), .val (.int (v0_4 q0 q1 q2 q3 p4)), .val (.int (v0_5 q0 q1 q2 q3 p4)), .val (.int (v0_6 q0 q1 q2 q3 p4)), .val (.int (v0_7 q0 q1 q2 q3 p4)), .val (.int (v0_8 q0 q1 q2 q3 p4)), .val (.ref b1), .val (.ref b11), .val (.int (v0_13 q0 q1 q2 q3 p4)), .val (.ref b11), .unset, .unset] [])) _
              refine XT.iconstV X31.here hx rfl (0 : Int32) (hb hby at_153) (by decide) ?_
              exact k
            · skip
              refine ⟨T31, _, X31, e31, N31, fun t k => ?_⟩
              rw [show (v0_16 q0 q1 q2 q3 p4) = (1 : Int32) from ((((if_pos c25).trans (if_pos c27)).trans (if_neg c30)).trans (if_neg c33))] at k
              refine pre32 t ?_
              show Steps p.tables e below (T31.setTop (mkF m 146 #[.val (.long q0), .second, .val (.long q1), .second, .val (.long q2), .second, .val (.long q3), .second, .val (.int p4), .val (.int (v0_1 q0 q1 q2 q3 p4)), .val (.int (v0_2 q0 q1 q2 q3 p4)), .val (.int (v0_3 q0 q1 q2 q3 p4)), .val (.int (v0_4 q0 q1 q2 q3 p4)), .val (.int (v0_5 q0 q1 q2 q3 p4)), .val (.int (v0_6 q0 q1 q2 q3 p4)), .val (.int (v0_7 q0 q1 q2 q3 p4)), .val (.int (v0_8 q0 q1 q2 q3 p4)), .val (.ref b1), .val (.ref b11), .val (.int (v0_13 q0 q1 q2 q3 p4)), .val (.ref b11), .unset, .unset] [(.int (f13 (v0_7 q0 q1 q2 q3 p4) (v0_8 q0 q1 q2 q3 p4)))])) _
              refine XS.ifNo X31.here hx rfl (hb hby at_146) rfl (XT.i0_eq_f c33) ?_
              show Steps p.tables e below (T31.setTop (mkF m 149 #[.val (.long q0), .second, .val (.long q1), .second, .val (.long q2), .second, .val (.long q3), .second, .val (.int p4), .val (.int (v0_1 q0 q1 q2 q3 p4)), .val (.int (v0_2 q0 q1 q2 q3 p4)), .val (.int (v0_3 q0 q1 q2 q3 p4)), .val (.int (v0_4 q0 q1 q2 q3 p4)), .val (.int (v0_5 q0 q1 q2 q3 p4)), .val (.int (v0_6 q0 q1 q2 q3 p4)), .val (.int (v0_7 q0 q1 q2 q3 p4)), .val (.int (v0_8 q0 q1 q2 q3 p4)), .val (.ref b1), .val (.ref b11), .val (.int (v0_13 q0 q1 q2 q3 p4)), .val (.ref b11), .unset, .unset] [])) _
              refine XT.iconstV X31.here hx rfl (1 : Int32) (hb hby at_149) (by decide) ?_
              show Steps p.tables e below (T31.setTop (mkF m 150 #[.val (.long q0), .second, .val (.long q1), .second, .val (.long q2), .second, .val (.long q3), .second, .val (.int p4), .val (.int (v0_1 q0 q1 q2 q3 p4)), .val (.int (v0_2 q0 q1 q2 q3 p4)), .val (.int (v0_3 q0 q1 q2 q3 p4)), .val (.int (v0_4 q0 q1 q2 q3 p4)), .val (.int (v0_5 q0 q1 q2 q3 p4)), .val (.int (v0_6 q0 q1 q2 q3 p4)), .val (.int (v0_7 q0 q1 q2 q3 p4)), .val (.int (v0_8 q0 q1 q2 q3 p4)), .val (.ref b1), .val (.ref b11), .val (.int (v0_13 q0 q1 q2 q3 p4)), .val (.ref b11), .unset, .unset] [(.int (1 : Int32))])) _
              refine XS.goto X31.here hx rfl (pc0 := 150) (pc' := 154) rfl (hb hby at_150) (by decide) (by decide) ?_
              exact k
        · skip
          refine ⟨T19, _, X19, rfl, N19, fun t k => ?_⟩
          rw [show (v0_16 q0 q1 q2 q3 p4) = (0 : Int32) from ((if_pos c25).trans (if_neg c27))] at k
          refine pre26 t ?_
          show Steps p.tables e below (T19.setTop (mkF m 126 #[.val (.long q0), .second, .val (.long q1), .second, .val (.long q2), .second, .val (.long q3), .second, .val (.int p4), .val (.int (v0_1 q0 q1 q2 q3 p4)), .val (.int (v0_2 q0 q1 q2 q3 p4)), .val (.int (v0_3 q0 q1 q2 q3 p4)), .val (.int (v0_4 q0 q1 q2 q3 p4)), .val (.int (v0_5 q0 q1 q2 q3 p4)), .val (.int (v0_6 q0 q1 q2 q3 p4)), .val (.int (v0_7 q0 q1 q2 q3 p4)), .val (.int (v0_8 q0 q1 q2 q3 p4)), .val (.ref b1), .val (.ref b11), .val (.int (v0_13 q0 q1 q2 q3 p4)), .val (.ref b11), .unset, .unset] [(.int (v0_4 q0 q1 q2 q3 p4)), (.int (v0_3 q0 q1 q2 q3 p4))])) _
          refine XS.icmpYes X19.here hx rfl (pc0 := 126) (pc' := 153) rfl (hb hby at_126) rfl (XT.ii_ne_t c27) (by decide) (by decide) ?_
          show Steps p.tables e below (T19.setTop (mkF m 153 #[.val (.long q0), .second, .val (.long q1), .second, .val (.long q2), .second, .val (.long q3), .second, .val (.int p4), .val (.int (v0_1 q0 q1 q2 q3 p4)), .val (.int (v0_2 q0 q1 q2 q3 p4)), .val (.int (v0_3 q0 q1 q2 q3 p4)), .val (.int (v0_4 q0 q1 q2 q3 p4)), .val (.int (v0_5 q0 q1 q2 q3 p4)), .val (.int (v0_6 q0 q1 q2 q3 p4)), .val (.int (v0_7 q0 q1 q2 q3 p4)), .val (.int (v0_8 q0 q1 q2 q3 p4)), .val (.ref b1), .val (.ref b11), .val (.int (v0_13 q0 q1 q2 q3 p4)), .val (.ref b11), .unset, .unset] [])) _
          refine XT.iconstV X19.here hx rfl (0 : Int32) (hb hby at_153) (by decide) ?_
          exact k
      · skip
        refine ⟨T19, _, X19, rfl, N19, fun t k => ?_⟩
        rw [show (v0_16 q0 q1 q2 q3 p4) = (0 : Int32) from (if_neg c25)] at k
        refine pre24 t ?_
        show Steps p.tables e below (T19.setTop (mkF m 119 #[.val (.long q0), .second, .val (.long q1), .second, .val (.long q2), .second, .val (.long q3), .second, .val (.int p4), .val (.int (v0_1 q0 q1 q2 q3 p4)), .val (.int (v0_2 q0 q1 q2 q3 p4)), .val (.int (v0_3 q0 q1 q2 q3 p4)), .val (.int (v0_4 q0 q1 q2 q3 p4)), .val (.int (v0_5 q0 q1 q2 q3 p4)), .val (.int (v0_6 q0 q1 q2 q3 p4)), .val (.int (v0_7 q0 q1 q2 q3 p4)), .val (.int (v0_8 q0 q1 q2 q3 p4)), .val (.ref b1), .val (.ref b11), .val (.int (v0_13 q0 q1 q2 q3 p4)), .val (.ref b11), .unset, .unset] [(.int (v0_2 q0 q1 q2 q3 p4)), (.int (v0_1 q0 q1 q2 q3 p4))])) _
        refine XS.icmpYes X19.here hx rfl (pc0 := 119) (pc' := 153) rfl (hb hby at_119) rfl (XT.ii_ne_t c25) (by decide) (by decide) ?_
        show Steps p.tables e below (T19.setTop (mkF m 153 #[.val (.long q0), .second, .val (.long q1), .second, .val (.long q2), .second, .val (.long q3), .second, .val (.int p4), .val (.int (v0_1 q0 q1 q2 q3 p4)), .val (.int (v0_2 q0 q1 q2 q3 p4)), .val (.int (v0_3 q0 q1 q2 q3 p4)), .val (.int (v0_4 q0 q1 q2 q3 p4)), .val (.int (v0_5 q0 q1 q2 q3 p4)), .val (.int (v0_6 q0 q1 q2 q3 p4)), .val (.int (v0_7 q0 q1 q2 q3 p4)), .val (.int (v0_8 q0 q1 q2 q3 p4)), .val (.ref b1), .val (.ref b11), .val (.int (v0_13 q0 q1 q2 q3 p4)), .val (.ref b11), .unset, .unset] [])) _
        refine XT.iconstV X19.here hx rfl (0 : Int32) (hb hby at_153) (by decide) ?_
        exact k
    have k36 := ((po8_1.ext E11).keep K19 (ninS ne12 nin0))
    have k37 := ((po8_2.ext E11).keep K19 (ninS ne12 nin0))
    have k38 := ((po8_3.ext E11).keep K19 (ninS ne12 nin0))
    have k39 := ((po8_4.ext E11).keep K19 (ninS ne12 nin0))
    have k40 := ((po8_0.ext E11).keep K19)
    obtain ⟨cq35, kq35, q35a, q35b, q35c⟩ := isOf hZ e34 k40
    obtain ⟨vr35, _, ⟨T35, L35, k35, n35⟩, -, X35, ⟨Lc35, hQ35, l35, y35, z35⟩, st35⟩ := Jvm.Stand.virtualBack X34 hx (y := (⟨"com/example/khonsu/khonsu/trajectory/TrajectoryRow", "equals", "(Ljava/lang/Object;)Z"⟩ : MethodName)) (z := (⟨"com/example/khonsu/khonsu/trajectory/TrajectoryRow", "equals", "(Ljava/lang/Object;)Z"⟩ : MethodName)) hown (mvT hZ (wd hw 31 rfl)) (mvT hZ (wd hw 32 rfl)) (notFace_of_selects (args := #[]) (mvT hZ (wd hw 34 rfl))) (mvT hZ (wd hw 34 rfl)) (mvT hZ (wd hw 33 rfl)) (by decide) (backOf (W := 0) (rm6 l Z a0 hw [] b1 b11 (v0_1 q0 q1 q2 q3 p4) (v0_2 q0 q1 q2 q3 p4) (v0_3 q0 q1 q2 q3 p4) (v0_4 q0 q1 q2 q3 p4) (v0_9 q0 q1 q2 q3 p4) (v0_11 q0 q1 q2 q3 p4) (v0_10 q0 q1 q2 q3 p4) (v0_12 q0 q1 q2 q3 p4) T19.heap n0 z20 po19_0 k36 po19_1 k37 po19_2 k38 po19_3 (own_nf (v0_5 q0 q1 q2 q3 p4)) (own_nf (v0_6 q0 q1 q2 q3 p4)) k39 po19_4 (own_nf (v0_7 q0 q1 q2 q3 p4)) (own_nf (v0_8 q0 q1 q2 q3 p4))) hZ (wd hw 35 rfl) (wd hw 3 rfl) (by decide) (by decide)) q35a q35c (g := (mkF m 204 #[.val (.long q0), .second, .val (.long q1), .second, .val (.long q2), .second, .val (.long q3), .second, .val (.int p4), .val (.int (v0_1 q0 q1 q2 q3 p4)), .val (.int (v0_2 q0 q1 q2 q3 p4)), .val (.int (v0_3 q0 q1 q2 q3 p4)), .val (.int (v0_4 q0 q1 q2 q3 p4)), .val (.int (v0_5 q0 q1 q2 q3 p4)), .val (.int (v0_6 q0 q1 q2 q3 p4)), .val (.int (v0_7 q0 q1 q2 q3 p4)), .val (.int (v0_8 q0 q1 q2 q3 p4)), .val (.ref b1), .val (.ref b11), .val (.int (v0_13 q0 q1 q2 q3 p4)), .val (.ref b11), .val (.int (v0_16 q0 q1 q2 q3 p4)), .unset] [(.ref b11), (.ref b1)])) rfl (by rw [hml]; rfl) (Steps.refl _) (argsL := [(.ref b11)]) (rest := []) (lenOf pd__Ljava_lang_Object__Z rfl) rfl (by show 2 * 0 + _ ≤ _; exact Nat.le_of_eq rfl) (hb hby at_204) (fun _ _ => ⟨rfl, e34, (by decide : 2 + 0 ≤ _), (by decide : 8 + 0 ≤ _)⟩)
    dsimp only [Pt.U, Pt.locs, Pt.cells, Pt.slots] at X35 l35 y35 z35 st35 hQ35
    replace X35 := own_stand X35 l35 y35 z35
    clear l35 y35 z35
    have N35q := (show _ ∧ _ ∧ _ from hQ35).1
    have hv35 := (show _ ∧ _ ∧ _ from hQ35).2.1
    have e35 := (show _ ∧ _ ∧ _ from hQ35).2.2
    clear hQ35
    subst hv35
    have N35 := Fr.app N34 N35q
    obtain ⟨cq41, kq41, q41a, q41b, q41c⟩ := isOf hZ e35 po19_0
    obtain ⟨vr41, _, ⟨T41, L41, k41, n41⟩, -, X41, ⟨Lc41, hQ41, l41, y41, z41⟩, st41⟩ := Jvm.Stand.virtualBack X35 hx (y := (⟨"com/example/khonsu/khonsu/trajectory/TrajectoryRow", "equals", "(Ljava/lang/Object;)Z"⟩ : MethodName)) (z := (⟨"com/example/khonsu/khonsu/trajectory/TrajectoryRow", "equals", "(Ljava/lang/Object;)Z"⟩ : MethodName)) hown (mvT hZ (wd hw 31 rfl)) (mvT hZ (wd hw 32 rfl)) (notFace_of_selects (args := #[]) (mvT hZ (wd hw 34 rfl))) (mvT hZ (wd hw 34 rfl)) (mvT hZ (wd hw 33 rfl)) (by decide) (backOf (W := 0) (rm6 l Z a0 hw [] b11 b1 (v0_2 q0 q1 q2 q3 p4) (v0_1 q0 q1 q2 q3 p4) (v0_4 q0 q1 q2 q3 p4) (v0_3 q0 q1 q2 q3 p4) (v0_11 q0 q1 q2 q3 p4) (v0_9 q0 q1 q2 q3 p4) (v0_12 q0 q1 q2 q3 p4) (v0_10 q0 q1 q2 q3 p4) T19.heap n0 z20 k40 po19_1 k36 po19_2 k37 po19_3 k38 (own_nf (v0_6 q0 q1 q2 q3 p4)) (own_nf (v0_5 q0 q1 q2 q3 p4)) po19_4 k39 (own_nf (v0_8 q0 q1 q2 q3 p4)) (own_nf (v0_7 q0 q1 q2 q3 p4))) hZ (wd hw 35 rfl) (wd hw 3 rfl) (by decide) (by decide)) q41a q41c (g := (mkF m 227 #[.val (.long q0), .second, .val (.long q1), .second, .val (.long q2), .second, .val (.long q3), .second, .val (.int p4), .val (.int (v0_1 q0 q1 q2 q3 p4)), .val (.int (v0_2 q0 q1 q2 q3 p4)), .val (.int (v0_3 q0 q1 q2 q3 p4)), .val (.int (v0_4 q0 q1 q2 q3 p4)), .val (.int (v0_5 q0 q1 q2 q3 p4)), .val (.int (v0_6 q0 q1 q2 q3 p4)), .val (.int (v0_7 q0 q1 q2 q3 p4)), .val (.int (v0_8 q0 q1 q2 q3 p4)), .val (.ref b1), .val (.ref b11), .val (.int (v0_13 q0 q1 q2 q3 p4)), .val (.ref b11), .val (.int (v0_16 q0 q1 q2 q3 p4)), .val (.int (v0_17 q0 q1 q2 q3 p4))] [(.ref b1), (.ref b11)])) rfl (by rw [hml]; rfl) (Steps.refl _) (argsL := [(.ref b1)]) (rest := []) (lenOf pd__Ljava_lang_Object__Z rfl) rfl (by show 2 * 0 + _ ≤ _; exact Nat.le_of_eq rfl) (hb hby at_227) (fun _ _ => ⟨rfl, e35, (by decide : 2 + 0 ≤ _), (by decide : 8 + 0 ≤ _)⟩)
    dsimp only [Pt.U, Pt.locs, Pt.cells, Pt.slots] at X41 l41 y41 z41 st41 hQ41
    replace X41 := own_stand X41 l41 y41 z41
    clear l41 y41 z41
    have N41q := (show _ ∧ _ ∧ _ from hQ41).1
    have hv41 := (show _ ∧ _ ∧ _ from hQ41).2.1
    have e41 := (show _ ∧ _ ∧ _ from hQ41).2.2
    clear hQ41
    subst hv41
    have N41 := Fr.app N35 N41q
    have pre42 : ∀ t, Steps p.tables e below (T41.setTop (mkF m 232 #[.val (.long q0), .second, .val (.long q1), .second, .val (.long q2), .second, .val (.long q3), .second, .val (.int p4), .val (.int (v0_1 q0 q1 q2 q3 p4)), .val (.int (v0_2 q0 q1 q2 q3 p4)), .val (.int (v0_3 q0 q1 q2 q3 p4)), .val (.int (v0_4 q0 q1 q2 q3 p4)), .val (.int (v0_5 q0 q1 q2 q3 p4)), .val (.int (v0_6 q0 q1 q2 q3 p4)), .val (.int (v0_7 q0 q1 q2 q3 p4)), .val (.int (v0_8 q0 q1 q2 q3 p4)), .val (.ref b1), .val (.ref b11), .val (.int (v0_13 q0 q1 q2 q3 p4)), .val (.ref b11), .val (.int (v0_16 q0 q1 q2 q3 p4)), .val (.int (v0_17 q0 q1 q2 q3 p4))] [(.int (v0_16 q0 q1 q2 q3 p4)), (.int (f6 (v0_2 q0 q1 q2 q3 p4) (v0_1 q0 q1 q2 q3 p4) (v0_4 q0 q1 q2 q3 p4) (v0_3 q0 q1 q2 q3 p4) (v0_11 q0 q1 q2 q3 p4) (v0_9 q0 q1 q2 q3 p4) (v0_12 q0 q1 q2 q3 p4) (v0_10 q0 q1 q2 q3 p4)))])) t → Steps p.tables e below (s₁.setTop (entryFrame m #[(.long q0), (.long q1), (.long q2), (.long q3), (.int p4)] maxLocals)) t := by
      intro t k
      refine pre34 t ?_
      show Steps p.tables e below (T34.setTop (mkF m 154 #[.val (.long q0), .second, .val (.long q1), .second, .val (.long q2), .second, .val (.long q3), .second, .val (.int p4), .val (.int (v0_1 q0 q1 q2 q3 p4)), .val (.int (v0_2 q0 q1 q2 q3 p4)), .val (.int (v0_3 q0 q1 q2 q3 p4)), .val (.int (v0_4 q0 q1 q2 q3 p4)), .val (.int (v0_5 q0 q1 q2 q3 p4)), .val (.int (v0_6 q0 q1 q2 q3 p4)), .val (.int (v0_7 q0 q1 q2 q3 p4)), .val (.int (v0_8 q0 q1 q2 q3 p4)), .val (.ref b1), .val (.ref b11), .val (.int (v0_13 q0 q1 q2 q3 p4)), .val (.ref b11), .unset, .unset] [(.int (v0_16 q0 q1 q2 q3 p4))])) _
      refine XS.istore X34.here hx rfl (hb hby at_154) rfl (l' := #[.val (.long q0), .second, .val (.long q1), .second, .val (.long q2), .second, .val (.long q3), .second, .val (.int p4), .val (.int (v0_1 q0 q1 q2 q3 p4)), .val (.int (v0_2 q0 q1 q2 q3 p4)), .val (.int (v0_3 q0 q1 q2 q3 p4)), .val (.int (v0_4 q0 q1 q2 q3 p4)), .val (.int (v0_5 q0 q1 q2 q3 p4)), .val (.int (v0_6 q0 q1 q2 q3 p4)), .val (.int (v0_7 q0 q1 q2 q3 p4)), .val (.int (v0_8 q0 q1 q2 q3 p4)), .val (.ref b1), .val (.ref b11), .val (.int (v0_13 q0 q1 q2 q3 p4)), .val (.ref b11), .val (.int (v0_16 q0 q1 q2 q3 p4)), .unset]) rfl ?_
      show Steps p.tables e below (T34.setTop (mkF m 156 #[.val (.long q0), .second, .val (.long q1), .second, .val (.long q2), .second, .val (.long q3), .second, .val (.int p4), .val (.int (v0_1 q0 q1 q2 q3 p4)), .val (.int (v0_2 q0 q1 q2 q3 p4)), .val (.int (v0_3 q0 q1 q2 q3 p4)), .val (.int (v0_4 q0 q1 q2 q3 p4)), .val (.int (v0_5 q0 q1 q2 q3 p4)), .val (.int (v0_6 q0 q1 q2 q3 p4)), .val (.int (v0_7 q0 q1 q2 q3 p4)), .val (.int (v0_8 q0 q1 q2 q3 p4)), .val (.ref b1), .val (.ref b11), .val (.int (v0_13 q0 q1 q2 q3 p4)), .val (.ref b11), .val (.int (v0_16 q0 q1 q2 q3 p4)), .unset] [])) _
      refine XS.goto X34.here hx rfl (pc0 := 156) (pc' := 200) rfl (hb hby at_156) (by decide) (by decide) ?_
      show Steps p.tables e below (T34.setTop (mkF m 200 #[.val (.long q0), .second, .val (.long q1), .second, .val (.long q2), .second, .val (.long q3), .second, .val (.int p4), .val (.int (v0_1 q0 q1 q2 q3 p4)), .val (.int (v0_2 q0 q1 q2 q3 p4)), .val (.int (v0_3 q0 q1 q2 q3 p4)), .val (.int (v0_4 q0 q1 q2 q3 p4)), .val (.int (v0_5 q0 q1 q2 q3 p4)), .val (.int (v0_6 q0 q1 q2 q3 p4)), .val (.int (v0_7 q0 q1 q2 q3 p4)), .val (.int (v0_8 q0 q1 q2 q3 p4)), .val (.ref b1), .val (.ref b11), .val (.int (v0_13 q0 q1 q2 q3 p4)), .val (.ref b11), .val (.int (v0_16 q0 q1 q2 q3 p4)), .unset] [])) _
      refine XS.aload X34.here hx rfl (hb hby at_200) rfl rfl ?_
      show Steps p.tables e below (T34.setTop (mkF m 202 #[.val (.long q0), .second, .val (.long q1), .second, .val (.long q2), .second, .val (.long q3), .second, .val (.int p4), .val (.int (v0_1 q0 q1 q2 q3 p4)), .val (.int (v0_2 q0 q1 q2 q3 p4)), .val (.int (v0_3 q0 q1 q2 q3 p4)), .val (.int (v0_4 q0 q1 q2 q3 p4)), .val (.int (v0_5 q0 q1 q2 q3 p4)), .val (.int (v0_6 q0 q1 q2 q3 p4)), .val (.int (v0_7 q0 q1 q2 q3 p4)), .val (.int (v0_8 q0 q1 q2 q3 p4)), .val (.ref b1), .val (.ref b11), .val (.int (v0_13 q0 q1 q2 q3 p4)), .val (.ref b11), .val (.int (v0_16 q0 q1 q2 q3 p4)), .unset] [(.ref b1)])) _
      refine XS.aload X34.here hx rfl (hb hby at_202) rfl rfl ?_
      show Steps p.tables e below (T34.setTop (mkF m 204 #[.val (.long q0), .second, .val (.long q1), .second, .val (.long q2), .second, .val (.long q3), .second, .val (.int p4), .val (.int (v0_1 q0 q1 q2 q3 p4)), .val (.int (v0_2 q0 q1 q2 q3 p4)), .val (.int (v0_3 q0 q1 q2 q3 p4)), .val (.int (v0_4 q0 q1 q2 q3 p4)), .val (.int (v0_5 q0 q1 q2 q3 p4)), .val (.int (v0_6 q0 q1 q2 q3 p4)), .val (.int (v0_7 q0 q1 q2 q3 p4)), .val (.int (v0_8 q0 q1 q2 q3 p4)), .val (.ref b1), .val (.ref b11), .val (.int (v0_13 q0 q1 q2 q3 p4)), .val (.ref b11), .val (.int (v0_16 q0 q1 q2 q3 p4)), .unset] [(.ref b11), (.ref b1)])) _
      refine st35.trans ?_
      show Steps p.tables e below (T35.setTop (mkF m 207 #[.val (.long q0), .second, .val (.long q1), .second, .val (.long q2), .second, .val (.long q3), .second, .val (.int p4), .val (.int (v0_1 q0 q1 q2 q3 p4)), .val (.int (v0_2 q0 q1 q2 q3 p4)), .val (.int (v0_3 q0 q1 q2 q3 p4)), .val (.int (v0_4 q0 q1 q2 q3 p4)), .val (.int (v0_5 q0 q1 q2 q3 p4)), .val (.int (v0_6 q0 q1 q2 q3 p4)), .val (.int (v0_7 q0 q1 q2 q3 p4)), .val (.int (v0_8 q0 q1 q2 q3 p4)), .val (.ref b1), .val (.ref b11), .val (.int (v0_13 q0 q1 q2 q3 p4)), .val (.ref b11), .val (.int (v0_16 q0 q1 q2 q3 p4)), .unset] [(.int (f6 (v0_1 q0 q1 q2 q3 p4) (v0_2 q0 q1 q2 q3 p4) (v0_3 q0 q1 q2 q3 p4) (v0_4 q0 q1 q2 q3 p4) (v0_9 q0 q1 q2 q3 p4) (v0_11 q0 q1 q2 q3 p4) (v0_10 q0 q1 q2 q3 p4) (v0_12 q0 q1 q2 q3 p4)))])) _
      refine XS.istore X35.here hx rfl (hb hby at_207) rfl (l' := #[.val (.long q0), .second, .val (.long q1), .second, .val (.long q2), .second, .val (.long q3), .second, .val (.int p4), .val (.int (v0_1 q0 q1 q2 q3 p4)), .val (.int (v0_2 q0 q1 q2 q3 p4)), .val (.int (v0_3 q0 q1 q2 q3 p4)), .val (.int (v0_4 q0 q1 q2 q3 p4)), .val (.int (v0_5 q0 q1 q2 q3 p4)), .val (.int (v0_6 q0 q1 q2 q3 p4)), .val (.int (v0_7 q0 q1 q2 q3 p4)), .val (.int (v0_8 q0 q1 q2 q3 p4)), .val (.ref b1), .val (.ref b11), .val (.int (v0_13 q0 q1 q2 q3 p4)), .val (.ref b11), .val (.int (v0_16 q0 q1 q2 q3 p4)), .val (.int (v0_17 q0 q1 q2 q3 p4))]) rfl ?_
      show Steps p.tables e below (T35.setTop (mkF m 209 #[.val (.long q0), .second, .val (.long q1), .second, .val (.long q2), .second, .val (.long q3), .second, .val (.int p4), .val (.int (v0_1 q0 q1 q2 q3 p4)), .val (.int (v0_2 q0 q1 q2 q3 p4)), .val (.int (v0_3 q0 q1 q2 q3 p4)), .val (.int (v0_4 q0 q1 q2 q3 p4)), .val (.int (v0_5 q0 q1 q2 q3 p4)), .val (.int (v0_6 q0 q1 q2 q3 p4)), .val (.int (v0_7 q0 q1 q2 q3 p4)), .val (.int (v0_8 q0 q1 q2 q3 p4)), .val (.ref b1), .val (.ref b11), .val (.int (v0_13 q0 q1 q2 q3 p4)), .val (.ref b11), .val (.int (v0_16 q0 q1 q2 q3 p4)), .val (.int (v0_17 q0 q1 q2 q3 p4))] [])) _
      refine XS.iload X35.here hx rfl (hb hby at_209) rfl ?_
      show Steps p.tables e below (T35.setTop (mkF m 211 #[.val (.long q0), .second, .val (.long q1), .second, .val (.long q2), .second, .val (.long q3), .second, .val (.int p4), .val (.int (v0_1 q0 q1 q2 q3 p4)), .val (.int (v0_2 q0 q1 q2 q3 p4)), .val (.int (v0_3 q0 q1 q2 q3 p4)), .val (.int (v0_4 q0 q1 q2 q3 p4)), .val (.int (v0_5 q0 q1 q2 q3 p4)), .val (.int (v0_6 q0 q1 q2 q3 p4)), .val (.int (v0_7 q0 q1 q2 q3 p4)), .val (.int (v0_8 q0 q1 q2 q3 p4)), .val (.ref b1), .val (.ref b11), .val (.int (v0_13 q0 q1 q2 q3 p4)), .val (.ref b11), .val (.int (v0_16 q0 q1 q2 q3 p4)), .val (.int (v0_17 q0 q1 q2 q3 p4))] [(.int (v0_17 q0 q1 q2 q3 p4))])) _
      refine XS.iload X35.here hx rfl (hb hby at_211) rfl ?_
      show Steps p.tables e below (T35.setTop (mkF m 213 #[.val (.long q0), .second, .val (.long q1), .second, .val (.long q2), .second, .val (.long q3), .second, .val (.int p4), .val (.int (v0_1 q0 q1 q2 q3 p4)), .val (.int (v0_2 q0 q1 q2 q3 p4)), .val (.int (v0_3 q0 q1 q2 q3 p4)), .val (.int (v0_4 q0 q1 q2 q3 p4)), .val (.int (v0_5 q0 q1 q2 q3 p4)), .val (.int (v0_6 q0 q1 q2 q3 p4)), .val (.int (v0_7 q0 q1 q2 q3 p4)), .val (.int (v0_8 q0 q1 q2 q3 p4)), .val (.ref b1), .val (.ref b11), .val (.int (v0_13 q0 q1 q2 q3 p4)), .val (.ref b11), .val (.int (v0_16 q0 q1 q2 q3 p4)), .val (.int (v0_17 q0 q1 q2 q3 p4))] [(.int (v0_16 q0 q1 q2 q3 p4)), (.int (v0_17 q0 q1 q2 q3 p4))])) _
      refine XS.icmpYes X35.here hx rfl (pc0 := 213) (pc' := 218) rfl (hb hby at_213) rfl (XT.ii_eq_t (own_eq1 q0 q1 q2 q3 p4 c23)) (by decide) (by decide) ?_
      show Steps p.tables e below (T35.setTop (mkF m 218 #[.val (.long q0), .second, .val (.long q1), .second, .val (.long q2), .second, .val (.long q3), .second, .val (.int p4), .val (.int (v0_1 q0 q1 q2 q3 p4)), .val (.int (v0_2 q0 q1 q2 q3 p4)), .val (.int (v0_3 q0 q1 q2 q3 p4)), .val (.int (v0_4 q0 q1 q2 q3 p4)), .val (.int (v0_5 q0 q1 q2 q3 p4)), .val (.int (v0_6 q0 q1 q2 q3 p4)), .val (.int (v0_7 q0 q1 q2 q3 p4)), .val (.int (v0_8 q0 q1 q2 q3 p4)), .val (.ref b1), .val (.ref b11), .val (.int (v0_13 q0 q1 q2 q3 p4)), .val (.ref b11), .val (.int (v0_16 q0 q1 q2 q3 p4)), .val (.int (v0_17 q0 q1 q2 q3 p4))] [])) _
      refine XS.iload X35.here hx rfl (hb hby at_218) rfl ?_
      show Steps p.tables e below (T35.setTop (mkF m 220 #[.val (.long q0), .second, .val (.long q1), .second, .val (.long q2), .second, .val (.long q3), .second, .val (.int p4), .val (.int (v0_1 q0 q1 q2 q3 p4)), .val (.int (v0_2 q0 q1 q2 q3 p4)), .val (.int (v0_3 q0 q1 q2 q3 p4)), .val (.int (v0_4 q0 q1 q2 q3 p4)), .val (.int (v0_5 q0 q1 q2 q3 p4)), .val (.int (v0_6 q0 q1 q2 q3 p4)), .val (.int (v0_7 q0 q1 q2 q3 p4)), .val (.int (v0_8 q0 q1 q2 q3 p4)), .val (.ref b1), .val (.ref b11), .val (.int (v0_13 q0 q1 q2 q3 p4)), .val (.ref b11), .val (.int (v0_16 q0 q1 q2 q3 p4)), .val (.int (v0_17 q0 q1 q2 q3 p4))] [(.int (v0_13 q0 q1 q2 q3 p4))])) _
      refine XS.ifNo X35.here hx rfl (hb hby at_220) rfl (XT.i0_ne_f c23) ?_
      show Steps p.tables e below (T35.setTop (mkF m 223 #[.val (.long q0), .second, .val (.long q1), .second, .val (.long q2), .second, .val (.long q3), .second, .val (.int p4), .val (.int (v0_1 q0 q1 q2 q3 p4)), .val (.int (v0_2 q0 q1 q2 q3 p4)), .val (.int (v0_3 q0 q1 q2 q3 p4)), .val (.int (v0_4 q0 q1 q2 q3 p4)), .val (.int (v0_5 q0 q1 q2 q3 p4)), .val (.int (v0_6 q0 q1 q2 q3 p4)), .val (.int (v0_7 q0 q1 q2 q3 p4)), .val (.int (v0_8 q0 q1 q2 q3 p4)), .val (.ref b1), .val (.ref b11), .val (.int (v0_13 q0 q1 q2 q3 p4)), .val (.ref b11), .val (.int (v0_16 q0 q1 q2 q3 p4)), .val (.int (v0_17 q0 q1 q2 q3 p4))] [])) _
      refine XS.aload X35.here hx rfl (hb hby at_223) rfl rfl ?_
      show Steps p.tables e below (T35.setTop (mkF m 225 #[.val (.long q0), .second, .val (.long q1), .second, .val (.long q2), .second, .val (.long q3), .second, .val (.int p4), .val (.int (v0_1 q0 q1 q2 q3 p4)), .val (.int (v0_2 q0 q1 q2 q3 p4)), .val (.int (v0_3 q0 q1 q2 q3 p4)), .val (.int (v0_4 q0 q1 q2 q3 p4)), .val (.int (v0_5 q0 q1 q2 q3 p4)), .val (.int (v0_6 q0 q1 q2 q3 p4)), .val (.int (v0_7 q0 q1 q2 q3 p4)), .val (.int (v0_8 q0 q1 q2 q3 p4)), .val (.ref b1), .val (.ref b11), .val (.int (v0_13 q0 q1 q2 q3 p4)), .val (.ref b11), .val (.int (v0_16 q0 q1 q2 q3 p4)), .val (.int (v0_17 q0 q1 q2 q3 p4))] [(.ref b11)])) _
      refine XS.aload X35.here hx rfl (hb hby at_225) rfl rfl ?_
      show Steps p.tables e below (T35.setTop (mkF m 227 #[.val (.long q0), .second, .val (.long q1), .second, .val (.long q2), .second, .val (.long q3), .second, .val (.int p4), .val (.int (v0_1 q0 q1 q2 q3 p4)), .val (.int (v0_2 q0 q1 q2 q3 p4)), .val (.int (v0_3 q0 q1 q2 q3 p4)), .val (.int (v0_4 q0 q1 q2 q3 p4)), .val (.int (v0_5 q0 q1 q2 q3 p4)), .val (.int (v0_6 q0 q1 q2 q3 p4)), .val (.int (v0_7 q0 q1 q2 q3 p4)), .val (.int (v0_8 q0 q1 q2 q3 p4)), .val (.ref b1), .val (.ref b11), .val (.int (v0_13 q0 q1 q2 q3 p4)), .val (.ref b11), .val (.int (v0_16 q0 q1 q2 q3 p4)), .val (.int (v0_17 q0 q1 q2 q3 p4))] [(.ref b1), (.ref b11)])) _
      refine st41.trans ?_
      show Steps p.tables e below (T41.setTop (mkF m 230 #[.val (.long q0), .second, .val (.long q1), .second, .val (.long q2), .second, .val (.long q3), .second, .val (.int p4), .val (.int (v0_1 q0 q1 q2 q3 p4)), .val (.int (v0_2 q0 q1 q2 q3 p4)), .val (.int (v0_3 q0 q1 q2 q3 p4)), .val (.int (v0_4 q0 q1 q2 q3 p4)), .val (.int (v0_5 q0 q1 q2 q3 p4)), .val (.int (v0_6 q0 q1 q2 q3 p4)), .val (.int (v0_7 q0 q1 q2 q3 p4)), .val (.int (v0_8 q0 q1 q2 q3 p4)), .val (.ref b1), .val (.ref b11), .val (.int (v0_13 q0 q1 q2 q3 p4)), .val (.ref b11), .val (.int (v0_16 q0 q1 q2 q3 p4)), .val (.int (v0_17 q0 q1 q2 q3 p4))] [(.int (f6 (v0_2 q0 q1 q2 q3 p4) (v0_1 q0 q1 q2 q3 p4) (v0_4 q0 q1 q2 q3 p4) (v0_3 q0 q1 q2 q3 p4) (v0_11 q0 q1 q2 q3 p4) (v0_9 q0 q1 q2 q3 p4) (v0_12 q0 q1 q2 q3 p4) (v0_10 q0 q1 q2 q3 p4)))])) _
      refine XS.iload X41.here hx rfl (hb hby at_230) rfl ?_
      exact k
    clear pre34 st35 st41
    have pre44 : ∀ t, Steps p.tables e below (T41.setTop (mkF m 240 #[.val (.long q0), .second, .val (.long q1), .second, .val (.long q2), .second, .val (.long q3), .second, .val (.int p4), .val (.int (v0_1 q0 q1 q2 q3 p4)), .val (.int (v0_2 q0 q1 q2 q3 p4)), .val (.int (v0_3 q0 q1 q2 q3 p4)), .val (.int (v0_4 q0 q1 q2 q3 p4)), .val (.int (v0_5 q0 q1 q2 q3 p4)), .val (.int (v0_6 q0 q1 q2 q3 p4)), .val (.int (v0_7 q0 q1 q2 q3 p4)), .val (.int (v0_8 q0 q1 q2 q3 p4)), .val (.ref b1), .val (.ref b11), .val (.int (v0_13 q0 q1 q2 q3 p4)), .val (.ref b11), .val (.int (v0_16 q0 q1 q2 q3 p4)), .val (.int (v0_17 q0 q1 q2 q3 p4))] [(.int (v0_19 q0 q1 q2 q3 p4))])) t → Steps p.tables e below (s₁.setTop (entryFrame m #[(.long q0), (.long q1), (.long q2), (.long q3), (.int p4)] maxLocals)) t := by
      intro t k
      by_cases c43 : (v0_18 q0 q1 q2 q3 p4) = (v0_16 q0 q1 q2 q3 p4)
      · skip
        rw [show (v0_19 q0 q1 q2 q3 p4) = (1 : Int32) from (if_pos c43)] at k
        refine pre42 t ?_
        show Steps p.tables e below (T41.setTop (mkF m 232 #[.val (.long q0), .second, .val (.long q1), .second, .val (.long q2), .second, .val (.long q3), .second, .val (.int p4), .val (.int (v0_1 q0 q1 q2 q3 p4)), .val (.int (v0_2 q0 q1 q2 q3 p4)), .val (.int (v0_3 q0 q1 q2 q3 p4)), .val (.int (v0_4 q0 q1 q2 q3 p4)), .val (.int (v0_5 q0 q1 q2 q3 p4)), .val (.int (v0_6 q0 q1 q2 q3 p4)), .val (.int (v0_7 q0 q1 q2 q3 p4)), .val (.int (v0_8 q0 q1 q2 q3 p4)), .val (.ref b1), .val (.ref b11), .val (.int (v0_13 q0 q1 q2 q3 p4)), .val (.ref b11), .val (.int (v0_16 q0 q1 q2 q3 p4)), .val (.int (v0_17 q0 q1 q2 q3 p4))] [(.int (v0_16 q0 q1 q2 q3 p4)), (.int (f6 (v0_2 q0 q1 q2 q3 p4) (v0_1 q0 q1 q2 q3 p4) (v0_4 q0 q1 q2 q3 p4) (v0_3 q0 q1 q2 q3 p4) (v0_11 q0 q1 q2 q3 p4) (v0_9 q0 q1 q2 q3 p4) (v0_12 q0 q1 q2 q3 p4) (v0_10 q0 q1 q2 q3 p4)))])) _
        refine XS.icmpNo X41.here hx rfl (hb hby at_232) rfl (XT.ii_ne_f c43) ?_
        show Steps p.tables e below (T41.setTop (mkF m 235 #[.val (.long q0), .second, .val (.long q1), .second, .val (.long q2), .second, .val (.long q3), .second, .val (.int p4), .val (.int (v0_1 q0 q1 q2 q3 p4)), .val (.int (v0_2 q0 q1 q2 q3 p4)), .val (.int (v0_3 q0 q1 q2 q3 p4)), .val (.int (v0_4 q0 q1 q2 q3 p4)), .val (.int (v0_5 q0 q1 q2 q3 p4)), .val (.int (v0_6 q0 q1 q2 q3 p4)), .val (.int (v0_7 q0 q1 q2 q3 p4)), .val (.int (v0_8 q0 q1 q2 q3 p4)), .val (.ref b1), .val (.ref b11), .val (.int (v0_13 q0 q1 q2 q3 p4)), .val (.ref b11), .val (.int (v0_16 q0 q1 q2 q3 p4)), .val (.int (v0_17 q0 q1 q2 q3 p4))] [])) _
        refine XT.iconstV X41.here hx rfl (1 : Int32) (hb hby at_235) (by decide) ?_
        show Steps p.tables e below (T41.setTop (mkF m 236 #[.val (.long q0), .second, .val (.long q1), .second, .val (.long q2), .second, .val (.long q3), .second, .val (.int p4), .val (.int (v0_1 q0 q1 q2 q3 p4)), .val (.int (v0_2 q0 q1 q2 q3 p4)), .val (.int (v0_3 q0 q1 q2 q3 p4)), .val (.int (v0_4 q0 q1 q2 q3 p4)), .val (.int (v0_5 q0 q1 q2 q3 p4)), .val (.int (v0_6 q0 q1 q2 q3 p4)), .val (.int (v0_7 q0 q1 q2 q3 p4)), .val (.int (v0_8 q0 q1 q2 q3 p4)), .val (.ref b1), .val (.ref b11), .val (.int (v0_13 q0 q1 q2 q3 p4)), .val (.ref b11), .val (.int (v0_16 q0 q1 q2 q3 p4)), .val (.int (v0_17 q0 q1 q2 q3 p4))] [(.int (1 : Int32))])) _
        refine XS.goto X41.here hx rfl (pc0 := 236) (pc' := 240) rfl (hb hby at_236) (by decide) (by decide) ?_
        exact k
      · skip
        rw [show (v0_19 q0 q1 q2 q3 p4) = (0 : Int32) from (if_neg c43)] at k
        refine pre42 t ?_
        show Steps p.tables e below (T41.setTop (mkF m 232 #[.val (.long q0), .second, .val (.long q1), .second, .val (.long q2), .second, .val (.long q3), .second, .val (.int p4), .val (.int (v0_1 q0 q1 q2 q3 p4)), .val (.int (v0_2 q0 q1 q2 q3 p4)), .val (.int (v0_3 q0 q1 q2 q3 p4)), .val (.int (v0_4 q0 q1 q2 q3 p4)), .val (.int (v0_5 q0 q1 q2 q3 p4)), .val (.int (v0_6 q0 q1 q2 q3 p4)), .val (.int (v0_7 q0 q1 q2 q3 p4)), .val (.int (v0_8 q0 q1 q2 q3 p4)), .val (.ref b1), .val (.ref b11), .val (.int (v0_13 q0 q1 q2 q3 p4)), .val (.ref b11), .val (.int (v0_16 q0 q1 q2 q3 p4)), .val (.int (v0_17 q0 q1 q2 q3 p4))] [(.int (v0_16 q0 q1 q2 q3 p4)), (.int (f6 (v0_2 q0 q1 q2 q3 p4) (v0_1 q0 q1 q2 q3 p4) (v0_4 q0 q1 q2 q3 p4) (v0_3 q0 q1 q2 q3 p4) (v0_11 q0 q1 q2 q3 p4) (v0_9 q0 q1 q2 q3 p4) (v0_12 q0 q1 q2 q3 p4) (v0_10 q0 q1 q2 q3 p4)))])) _
        refine XS.icmpYes X41.here hx rfl (pc0 := 232) (pc' := 239) rfl (hb hby at_232) rfl (XT.ii_ne_t c43) (by decide) (by decide) ?_
        show Steps p.tables e below (T41.setTop (mkF m 239 #[.val (.long q0), .second, .val (.long q1), .second, .val (.long q2), .second, .val (.long q3), .second, .val (.int p4), .val (.int (v0_1 q0 q1 q2 q3 p4)), .val (.int (v0_2 q0 q1 q2 q3 p4)), .val (.int (v0_3 q0 q1 q2 q3 p4)), .val (.int (v0_4 q0 q1 q2 q3 p4)), .val (.int (v0_5 q0 q1 q2 q3 p4)), .val (.int (v0_6 q0 q1 q2 q3 p4)), .val (.int (v0_7 q0 q1 q2 q3 p4)), .val (.int (v0_8 q0 q1 q2 q3 p4)), .val (.ref b1), .val (.ref b11), .val (.int (v0_13 q0 q1 q2 q3 p4)), .val (.ref b11), .val (.int (v0_16 q0 q1 q2 q3 p4)), .val (.int (v0_17 q0 q1 q2 q3 p4))] [])) _
        refine XT.iconstV X41.here hx rfl (0 : Int32) (hb hby at_239) (by decide) ?_
        exact k
    have hv45 : (v0_19 q0 q1 q2 q3 p4) = (1 : Int32) := own_v0_19 q0 q1 q2 q3 p4 c23
    obtain ⟨fs, hr, hrun, hended, hW, hsame⟩ := X41.leave (v := some (.int (1 : Int32))) (fun h => by rw [Bd.returns] at h; cases h) hlk
    refine ⟨_, _, pre44 _ ?_, hrun, hended, _, _, rfl, ?_, ⟨_, rfl⟩, hW, hsame.mono (by decide) (by decide)⟩
    · skip
      show Steps p.tables e below (T41.setTop (mkF m 240 #[.val (.long q0), .second, .val (.long q1), .second, .val (.long q2), .second, .val (.long q3), .second, .val (.int p4), .val (.int (v0_1 q0 q1 q2 q3 p4)), .val (.int (v0_2 q0 q1 q2 q3 p4)), .val (.int (v0_3 q0 q1 q2 q3 p4)), .val (.int (v0_4 q0 q1 q2 q3 p4)), .val (.int (v0_5 q0 q1 q2 q3 p4)), .val (.int (v0_6 q0 q1 q2 q3 p4)), .val (.int (v0_7 q0 q1 q2 q3 p4)), .val (.int (v0_8 q0 q1 q2 q3 p4)), .val (.ref b1), .val (.ref b11), .val (.int (v0_13 q0 q1 q2 q3 p4)), .val (.ref b11), .val (.int (v0_16 q0 q1 q2 q3 p4)), .val (.int (v0_17 q0 q1 q2 q3 p4))] [(.int (v0_19 q0 q1 q2 q3 p4))])) _
      rw [hv45]
      exact retN X41 hx (t := .boolean) Bd.returns (by simp) (hb hby at_240) hr
    · skip
      show Q0 Z q0 q1 q2 q3 p4 w1_cache clI h0 n0 _ T41.heap _
      rw [e41]
      exact ⟨rfl, N41⟩
  · skip
    have pre46 : ∀ t, Steps p.tables e below (T19.setTop (mkF m 162 #[.val (.long q0), .second, .val (.long q1), .second, .val (.long q2), .second, .val (.long q3), .second, .val (.int p4), .val (.int (v0_1 q0 q1 q2 q3 p4)), .val (.int (v0_2 q0 q1 q2 q3 p4)), .val (.int (v0_3 q0 q1 q2 q3 p4)), .val (.int (v0_4 q0 q1 q2 q3 p4)), .val (.int (v0_5 q0 q1 q2 q3 p4)), .val (.int (v0_6 q0 q1 q2 q3 p4)), .val (.int (v0_7 q0 q1 q2 q3 p4)), .val (.int (v0_8 q0 q1 q2 q3 p4)), .val (.ref b1), .val (.ref b11), .val (.int (v0_13 q0 q1 q2 q3 p4)), .unset, .unset, .unset] [(.int (1 : Int32)), (.int (v0_13 q0 q1 q2 q3 p4))])) t → Steps p.tables e below (s₁.setTop (entryFrame m #[(.long q0), (.long q1), (.long q2), (.long q3), (.int p4)] maxLocals)) t := by
      intro t k
      refine pre22 t ?_
      show Steps p.tables e below (T19.setTop (mkF m 108 #[.val (.long q0), .second, .val (.long q1), .second, .val (.long q2), .second, .val (.long q3), .second, .val (.int p4), .val (.int (v0_1 q0 q1 q2 q3 p4)), .val (.int (v0_2 q0 q1 q2 q3 p4)), .val (.int (v0_3 q0 q1 q2 q3 p4)), .val (.int (v0_4 q0 q1 q2 q3 p4)), .val (.int (v0_5 q0 q1 q2 q3 p4)), .val (.int (v0_6 q0 q1 q2 q3 p4)), .val (.int (v0_7 q0 q1 q2 q3 p4)), .val (.int (v0_8 q0 q1 q2 q3 p4)), .val (.ref b1), .val (.ref b11), .val (.int (v0_13 q0 q1 q2 q3 p4)), .unset, .unset, .unset] [(.int (v0_13 q0 q1 q2 q3 p4))])) _
      refine XS.ifYes X19.here hx rfl (pc0 := 108) (pc' := 159) rfl (hb hby at_108) rfl (XT.i0_ne_t c23) (by decide) (by decide) ?_
      show Steps p.tables e below (T19.setTop (mkF m 159 #[.val (.long q0), .second, .val (.long q1), .second, .val (.long q2), .second, .val (.long q3), .second, .val (.int p4), .val (.int (v0_1 q0 q1 q2 q3 p4)), .val (.int (v0_2 q0 q1 q2 q3 p4)), .val (.int (v0_3 q0 q1 q2 q3 p4)), .val (.int (v0_4 q0 q1 q2 q3 p4)), .val (.int (v0_5 q0 q1 q2 q3 p4)), .val (.int (v0_6 q0 q1 q2 q3 p4)), .val (.int (v0_7 q0 q1 q2 q3 p4)), .val (.int (v0_8 q0 q1 q2 q3 p4)), .val (.ref b1), .val (.ref b11), .val (.int (v0_13 q0 q1 q2 q3 p4)), .unset, .unset, .unset] [])) _
      refine XS.iload X19.here hx rfl (hb hby at_159) rfl ?_
      show Steps p.tables e below (T19.setTop (mkF m 161 #[.val (.long q0), .second, .val (.long q1), .second, .val (.long q2), .second, .val (.long q3), .second, .val (.int p4), .val (.int (v0_1 q0 q1 q2 q3 p4)), .val (.int (v0_2 q0 q1 q2 q3 p4)), .val (.int (v0_3 q0 q1 q2 q3 p4)), .val (.int (v0_4 q0 q1 q2 q3 p4)), .val (.int (v0_5 q0 q1 q2 q3 p4)), .val (.int (v0_6 q0 q1 q2 q3 p4)), .val (.int (v0_7 q0 q1 q2 q3 p4)), .val (.int (v0_8 q0 q1 q2 q3 p4)), .val (.ref b1), .val (.ref b11), .val (.int (v0_13 q0 q1 q2 q3 p4)), .unset, .unset, .unset] [(.int (v0_13 q0 q1 q2 q3 p4))])) _
      refine XT.iconstV X19.here hx rfl (1 : Int32) (hb hby at_161) (by decide) ?_
      exact k
    clear pre22
    by_cases c47 : (v0_13 q0 q1 q2 q3 p4) = (1 : Int32)
    · skip
      have k49 := ((po8_0.ext E11).keep K19)
      obtain ⟨cq48, kq48, q48a, q48b, q48c⟩ := isOf hZ rfl k49
      obtain ⟨vr48, _, ⟨T48, L48, k48, n48⟩, -, X48, ⟨Lc48, hQ48, l48, y48, z48⟩, st48⟩ := Jvm.Stand.virtualBack X19 hx (y := (⟨"com/example/khonsu/khonsu/trajectory/TrajectoryRow", "equals", "(Ljava/lang/Object;)Z"⟩ : MethodName)) (z := (⟨"com/example/khonsu/khonsu/trajectory/TrajectoryRow", "equals", "(Ljava/lang/Object;)Z"⟩ : MethodName)) hown (mvT hZ (wd hw 31 rfl)) (mvT hZ (wd hw 32 rfl)) (notFace_of_selects (args := #[]) (mvT hZ (wd hw 34 rfl))) (mvT hZ (wd hw 34 rfl)) (mvT hZ (wd hw 33 rfl)) (by decide) (backOf (W := 0) (rmeqN l Z a0 hw [] b1 T19.heap n0 z20) hZ (wd hw 35 rfl) (wd hw 3 rfl) (by decide) (by decide)) q48a q48c (g := (mkF m 204 #[.val (.long q0), .second, .val (.long q1), .second, .val (.long q2), .second, .val (.long q3), .second, .val (.int p4), .val (.int (v0_1 q0 q1 q2 q3 p4)), .val (.int (v0_2 q0 q1 q2 q3 p4)), .val (.int (v0_3 q0 q1 q2 q3 p4)), .val (.int (v0_4 q0 q1 q2 q3 p4)), .val (.int (v0_5 q0 q1 q2 q3 p4)), .val (.int (v0_6 q0 q1 q2 q3 p4)), .val (.int (v0_7 q0 q1 q2 q3 p4)), .val (.int (v0_8 q0 q1 q2 q3 p4)), .val (.ref b1), .val (.ref b11), .val (.int (v0_13 q0 q1 q2 q3 p4)), .val .null, .val (.int (0 : Int32)), .unset] [.null, (.ref b1)])) rfl (by rw [hml]; rfl) (Steps.refl _) (argsL := [.null]) (rest := []) (lenOf pd__Ljava_lang_Object__Z rfl) rfl (by show 2 * 0 + _ ≤ _; exact Nat.le_of_eq rfl) (hb hby at_204) (fun _ _ => ⟨rfl, rfl, (by decide : 2 + 0 ≤ _), (by decide : 8 + 0 ≤ _)⟩)
      dsimp only [Pt.U, Pt.locs, Pt.cells, Pt.slots] at X48 l48 y48 z48 st48 hQ48
      replace X48 := own_stand X48 l48 y48 z48
      clear l48 y48 z48
      have N48q := (show _ ∧ _ ∧ _ from hQ48).1
      have hv48 := (show _ ∧ _ ∧ _ from hQ48).2.1
      have e48 := (show _ ∧ _ ∧ _ from hQ48).2.2
      clear hQ48
      subst hv48
      have N48 := Fr.app N19 N48q
      obtain ⟨fs, hr, hrun, hended, hW, hsame⟩ := X48.leave (v := some (.int (1 : Int32))) (fun h => by rw [Bd.returns] at h; cases h) hlk
      refine ⟨_, _, pre46 _ ?_, hrun, hended, _, _, rfl, ?_, ⟨_, rfl⟩, hW, hsame.mono (by decide) (by decide)⟩
      · skip
        show Steps p.tables e below (T19.setTop (mkF m 162 #[.val (.long q0), .second, .val (.long q1), .second, .val (.long q2), .second, .val (.long q3), .second, .val (.int p4), .val (.int (v0_1 q0 q1 q2 q3 p4)), .val (.int (v0_2 q0 q1 q2 q3 p4)), .val (.int (v0_3 q0 q1 q2 q3 p4)), .val (.int (v0_4 q0 q1 q2 q3 p4)), .val (.int (v0_5 q0 q1 q2 q3 p4)), .val (.int (v0_6 q0 q1 q2 q3 p4)), .val (.int (v0_7 q0 q1 q2 q3 p4)), .val (.int (v0_8 q0 q1 q2 q3 p4)), .val (.ref b1), .val (.ref b11), .val (.int (v0_13 q0 q1 q2 q3 p4)), .unset, .unset, .unset] [(.int (1 : Int32)), (.int (v0_13 q0 q1 q2 q3 p4))])) _
        refine XS.icmpNo X19.here hx rfl (hb hby at_162) rfl (XT.ii_ne_f c47) ?_
        show Steps p.tables e below (T19.setTop (mkF m 165 #[.val (.long q0), .second, .val (.long q1), .second, .val (.long q2), .second, .val (.long q3), .second, .val (.int p4), .val (.int (v0_1 q0 q1 q2 q3 p4)), .val (.int (v0_2 q0 q1 q2 q3 p4)), .val (.int (v0_3 q0 q1 q2 q3 p4)), .val (.int (v0_4 q0 q1 q2 q3 p4)), .val (.int (v0_5 q0 q1 q2 q3 p4)), .val (.int (v0_6 q0 q1 q2 q3 p4)), .val (.int (v0_7 q0 q1 q2 q3 p4)), .val (.int (v0_8 q0 q1 q2 q3 p4)), .val (.ref b1), .val (.ref b11), .val (.int (v0_13 q0 q1 q2 q3 p4)), .unset, .unset, .unset] [])) _
        refine XS.aconstNull X19.here hx rfl (hb hby at_165) ?_
        show Steps p.tables e below (T19.setTop (mkF m 166 #[.val (.long q0), .second, .val (.long q1), .second, .val (.long q2), .second, .val (.long q3), .second, .val (.int p4), .val (.int (v0_1 q0 q1 q2 q3 p4)), .val (.int (v0_2 q0 q1 q2 q3 p4)), .val (.int (v0_3 q0 q1 q2 q3 p4)), .val (.int (v0_4 q0 q1 q2 q3 p4)), .val (.int (v0_5 q0 q1 q2 q3 p4)), .val (.int (v0_6 q0 q1 q2 q3 p4)), .val (.int (v0_7 q0 q1 q2 q3 p4)), .val (.int (v0_8 q0 q1 q2 q3 p4)), .val (.ref b1), .val (.ref b11), .val (.int (v0_13 q0 q1 q2 q3 p4)), .unset, .unset, .unset] [.null])) _
        refine XS.astore X19.here hx rfl (hb hby at_166) rfl rfl (l' := #[.val (.long q0), .second, .val (.long q1), .second, .val (.long q2), .second, .val (.long q3), .second, .val (.int p4), .val (.int (v0_1 q0 q1 q2 q3 p4)), .val (.int (v0_2 q0 q1 q2 q3 p4)), .val (.int (v0_3 q0 q1 q2 q3 p4)), .val (.int (v0_4 q0 q1 q2 q3 p4)), .val (.int (v0_5 q0 q1 q2 q3 p4)), .val (.int (v0_6 q0 q1 q2 q3 p4)), .val (.int (v0_7 q0 q1 q2 q3 p4)), .val (.int (v0_8 q0 q1 q2 q3 p4)), .val (.ref b1), .val (.ref b11), .val (.int (v0_13 q0 q1 q2 q3 p4)), .val .null, .unset, .unset]) rfl ?_
        show Steps p.tables e below (T19.setTop (mkF m 168 #[.val (.long q0), .second, .val (.long q1), .second, .val (.long q2), .second, .val (.long q3), .second, .val (.int p4), .val (.int (v0_1 q0 q1 q2 q3 p4)), .val (.int (v0_2 q0 q1 q2 q3 p4)), .val (.int (v0_3 q0 q1 q2 q3 p4)), .val (.int (v0_4 q0 q1 q2 q3 p4)), .val (.int (v0_5 q0 q1 q2 q3 p4)), .val (.int (v0_6 q0 q1 q2 q3 p4)), .val (.int (v0_7 q0 q1 q2 q3 p4)), .val (.int (v0_8 q0 q1 q2 q3 p4)), .val (.ref b1), .val (.ref b11), .val (.int (v0_13 q0 q1 q2 q3 p4)), .val .null, .unset, .unset] [])) _
        refine XT.iconstV X19.here hx rfl (0 : Int32) (hb hby at_168) (by decide) ?_
        show Steps p.tables e below (T19.setTop (mkF m 169 #[.val (.long q0), .second, .val (.long q1), .second, .val (.long q2), .second, .val (.long q3), .second, .val (.int p4), .val (.int (v0_1 q0 q1 q2 q3 p4)), .val (.int (v0_2 q0 q1 q2 q3 p4)), .val (.int (v0_3 q0 q1 q2 q3 p4)), .val (.int (v0_4 q0 q1 q2 q3 p4)), .val (.int (v0_5 q0 q1 q2 q3 p4)), .val (.int (v0_6 q0 q1 q2 q3 p4)), .val (.int (v0_7 q0 q1 q2 q3 p4)), .val (.int (v0_8 q0 q1 q2 q3 p4)), .val (.ref b1), .val (.ref b11), .val (.int (v0_13 q0 q1 q2 q3 p4)), .val .null, .unset, .unset] [(.int (0 : Int32))])) _
        refine XS.istore X19.here hx rfl (hb hby at_169) rfl (l' := #[.val (.long q0), .second, .val (.long q1), .second, .val (.long q2), .second, .val (.long q3), .second, .val (.int p4), .val (.int (v0_1 q0 q1 q2 q3 p4)), .val (.int (v0_2 q0 q1 q2 q3 p4)), .val (.int (v0_3 q0 q1 q2 q3 p4)), .val (.int (v0_4 q0 q1 q2 q3 p4)), .val (.int (v0_5 q0 q1 q2 q3 p4)), .val (.int (v0_6 q0 q1 q2 q3 p4)), .val (.int (v0_7 q0 q1 q2 q3 p4)), .val (.int (v0_8 q0 q1 q2 q3 p4)), .val (.ref b1), .val (.ref b11), .val (.int (v0_13 q0 q1 q2 q3 p4)), .val .null, .val (.int (0 : Int32)), .unset]) rfl ?_
        show Steps p.tables e below (T19.setTop (mkF m 171 #[.val (.long q0), .second, .val (.long q1), .second, .val (.long q2), .second, .val (.long q3), .second, .val (.int p4), .val (.int (v0_1 q0 q1 q2 q3 p4)), .val (.int (v0_2 q0 q1 q2 q3 p4)), .val (.int (v0_3 q0 q1 q2 q3 p4)), .val (.int (v0_4 q0 q1 q2 q3 p4)), .val (.int (v0_5 q0 q1 q2 q3 p4)), .val (.int (v0_6 q0 q1 q2 q3 p4)), .val (.int (v0_7 q0 q1 q2 q3 p4)), .val (.int (v0_8 q0 q1 q2 q3 p4)), .val (.ref b1), .val (.ref b11), .val (.int (v0_13 q0 q1 q2 q3 p4)), .val .null, .val (.int (0 : Int32)), .unset] [])) _
        refine XS.goto X19.here hx rfl (pc0 := 171) (pc' := 200) rfl (hb hby at_171) (by decide) (by decide) ?_
        show Steps p.tables e below (T19.setTop (mkF m 200 #[.val (.long q0), .second, .val (.long q1), .second, .val (.long q2), .second, .val (.long q3), .second, .val (.int p4), .val (.int (v0_1 q0 q1 q2 q3 p4)), .val (.int (v0_2 q0 q1 q2 q3 p4)), .val (.int (v0_3 q0 q1 q2 q3 p4)), .val (.int (v0_4 q0 q1 q2 q3 p4)), .val (.int (v0_5 q0 q1 q2 q3 p4)), .val (.int (v0_6 q0 q1 q2 q3 p4)), .val (.int (v0_7 q0 q1 q2 q3 p4)), .val (.int (v0_8 q0 q1 q2 q3 p4)), .val (.ref b1), .val (.ref b11), .val (.int (v0_13 q0 q1 q2 q3 p4)), .val .null, .val (.int (0 : Int32)), .unset] [])) _
        refine XS.aload X19.here hx rfl (hb hby at_200) rfl rfl ?_
        show Steps p.tables e below (T19.setTop (mkF m 202 #[.val (.long q0), .second, .val (.long q1), .second, .val (.long q2), .second, .val (.long q3), .second, .val (.int p4), .val (.int (v0_1 q0 q1 q2 q3 p4)), .val (.int (v0_2 q0 q1 q2 q3 p4)), .val (.int (v0_3 q0 q1 q2 q3 p4)), .val (.int (v0_4 q0 q1 q2 q3 p4)), .val (.int (v0_5 q0 q1 q2 q3 p4)), .val (.int (v0_6 q0 q1 q2 q3 p4)), .val (.int (v0_7 q0 q1 q2 q3 p4)), .val (.int (v0_8 q0 q1 q2 q3 p4)), .val (.ref b1), .val (.ref b11), .val (.int (v0_13 q0 q1 q2 q3 p4)), .val .null, .val (.int (0 : Int32)), .unset] [(.ref b1)])) _
        refine XS.aload X19.here hx rfl (hb hby at_202) rfl rfl ?_
        show Steps p.tables e below (T19.setTop (mkF m 204 #[.val (.long q0), .second, .val (.long q1), .second, .val (.long q2), .second, .val (.long q3), .second, .val (.int p4), .val (.int (v0_1 q0 q1 q2 q3 p4)), .val (.int (v0_2 q0 q1 q2 q3 p4)), .val (.int (v0_3 q0 q1 q2 q3 p4)), .val (.int (v0_4 q0 q1 q2 q3 p4)), .val (.int (v0_5 q0 q1 q2 q3 p4)), .val (.int (v0_6 q0 q1 q2 q3 p4)), .val (.int (v0_7 q0 q1 q2 q3 p4)), .val (.int (v0_8 q0 q1 q2 q3 p4)), .val (.ref b1), .val (.ref b11), .val (.int (v0_13 q0 q1 q2 q3 p4)), .val .null, .val (.int (0 : Int32)), .unset] [.null, (.ref b1)])) _
        refine st48.trans ?_
        show Steps p.tables e below (T48.setTop (mkF m 207 #[.val (.long q0), .second, .val (.long q1), .second, .val (.long q2), .second, .val (.long q3), .second, .val (.int p4), .val (.int (v0_1 q0 q1 q2 q3 p4)), .val (.int (v0_2 q0 q1 q2 q3 p4)), .val (.int (v0_3 q0 q1 q2 q3 p4)), .val (.int (v0_4 q0 q1 q2 q3 p4)), .val (.int (v0_5 q0 q1 q2 q3 p4)), .val (.int (v0_6 q0 q1 q2 q3 p4)), .val (.int (v0_7 q0 q1 q2 q3 p4)), .val (.int (v0_8 q0 q1 q2 q3 p4)), .val (.ref b1), .val (.ref b11), .val (.int (v0_13 q0 q1 q2 q3 p4)), .val .null, .val (.int (0 : Int32)), .unset] [(.int feqN)])) _
        refine XS.istore X48.here hx rfl (hb hby at_207) rfl (l' := #[.val (.long q0), .second, .val (.long q1), .second, .val (.long q2), .second, .val (.long q3), .second, .val (.int p4), .val (.int (v0_1 q0 q1 q2 q3 p4)), .val (.int (v0_2 q0 q1 q2 q3 p4)), .val (.int (v0_3 q0 q1 q2 q3 p4)), .val (.int (v0_4 q0 q1 q2 q3 p4)), .val (.int (v0_5 q0 q1 q2 q3 p4)), .val (.int (v0_6 q0 q1 q2 q3 p4)), .val (.int (v0_7 q0 q1 q2 q3 p4)), .val (.int (v0_8 q0 q1 q2 q3 p4)), .val (.ref b1), .val (.ref b11), .val (.int (v0_13 q0 q1 q2 q3 p4)), .val .null, .val (.int (0 : Int32)), .val (.int feqN)]) rfl ?_
        show Steps p.tables e below (T48.setTop (mkF m 209 #[.val (.long q0), .second, .val (.long q1), .second, .val (.long q2), .second, .val (.long q3), .second, .val (.int p4), .val (.int (v0_1 q0 q1 q2 q3 p4)), .val (.int (v0_2 q0 q1 q2 q3 p4)), .val (.int (v0_3 q0 q1 q2 q3 p4)), .val (.int (v0_4 q0 q1 q2 q3 p4)), .val (.int (v0_5 q0 q1 q2 q3 p4)), .val (.int (v0_6 q0 q1 q2 q3 p4)), .val (.int (v0_7 q0 q1 q2 q3 p4)), .val (.int (v0_8 q0 q1 q2 q3 p4)), .val (.ref b1), .val (.ref b11), .val (.int (v0_13 q0 q1 q2 q3 p4)), .val .null, .val (.int (0 : Int32)), .val (.int feqN)] [])) _
        refine XS.iload X48.here hx rfl (hb hby at_209) rfl ?_
        show Steps p.tables e below (T48.setTop (mkF m 211 #[.val (.long q0), .second, .val (.long q1), .second, .val (.long q2), .second, .val (.long q3), .second, .val (.int p4), .val (.int (v0_1 q0 q1 q2 q3 p4)), .val (.int (v0_2 q0 q1 q2 q3 p4)), .val (.int (v0_3 q0 q1 q2 q3 p4)), .val (.int (v0_4 q0 q1 q2 q3 p4)), .val (.int (v0_5 q0 q1 q2 q3 p4)), .val (.int (v0_6 q0 q1 q2 q3 p4)), .val (.int (v0_7 q0 q1 q2 q3 p4)), .val (.int (v0_8 q0 q1 q2 q3 p4)), .val (.ref b1), .val (.ref b11), .val (.int (v0_13 q0 q1 q2 q3 p4)), .val .null, .val (.int (0 : Int32)), .val (.int feqN)] [(.int feqN)])) _
        refine XS.iload X48.here hx rfl (hb hby at_211) rfl ?_
        show Steps p.tables e below (T48.setTop (mkF m 213 #[.val (.long q0), .second, .val (.long q1), .second, .val (.long q2), .second, .val (.long q3), .second, .val (.int p4), .val (.int (v0_1 q0 q1 q2 q3 p4)), .val (.int (v0_2 q0 q1 q2 q3 p4)), .val (.int (v0_3 q0 q1 q2 q3 p4)), .val (.int (v0_4 q0 q1 q2 q3 p4)), .val (.int (v0_5 q0 q1 q2 q3 p4)), .val (.int (v0_6 q0 q1 q2 q3 p4)), .val (.int (v0_7 q0 q1 q2 q3 p4)), .val (.int (v0_8 q0 q1 q2 q3 p4)), .val (.ref b1), .val (.ref b11), .val (.int (v0_13 q0 q1 q2 q3 p4)), .val .null, .val (.int (0 : Int32)), .val (.int feqN)] [(.int (0 : Int32)), (.int feqN)])) _
        refine XS.icmpYes X48.here hx rfl (pc0 := 213) (pc' := 218) rfl (hb hby at_213) rfl (XT.ii_eq_t rfl) (by decide) (by decide) ?_
        show Steps p.tables e below (T48.setTop (mkF m 218 #[.val (.long q0), .second, .val (.long q1), .second, .val (.long q2), .second, .val (.long q3), .second, .val (.int p4), .val (.int (v0_1 q0 q1 q2 q3 p4)), .val (.int (v0_2 q0 q1 q2 q3 p4)), .val (.int (v0_3 q0 q1 q2 q3 p4)), .val (.int (v0_4 q0 q1 q2 q3 p4)), .val (.int (v0_5 q0 q1 q2 q3 p4)), .val (.int (v0_6 q0 q1 q2 q3 p4)), .val (.int (v0_7 q0 q1 q2 q3 p4)), .val (.int (v0_8 q0 q1 q2 q3 p4)), .val (.ref b1), .val (.ref b11), .val (.int (v0_13 q0 q1 q2 q3 p4)), .val .null, .val (.int (0 : Int32)), .val (.int feqN)] [])) _
        refine XS.iload X48.here hx rfl (hb hby at_218) rfl ?_
        show Steps p.tables e below (T48.setTop (mkF m 220 #[.val (.long q0), .second, .val (.long q1), .second, .val (.long q2), .second, .val (.long q3), .second, .val (.int p4), .val (.int (v0_1 q0 q1 q2 q3 p4)), .val (.int (v0_2 q0 q1 q2 q3 p4)), .val (.int (v0_3 q0 q1 q2 q3 p4)), .val (.int (v0_4 q0 q1 q2 q3 p4)), .val (.int (v0_5 q0 q1 q2 q3 p4)), .val (.int (v0_6 q0 q1 q2 q3 p4)), .val (.int (v0_7 q0 q1 q2 q3 p4)), .val (.int (v0_8 q0 q1 q2 q3 p4)), .val (.ref b1), .val (.ref b11), .val (.int (v0_13 q0 q1 q2 q3 p4)), .val .null, .val (.int (0 : Int32)), .val (.int feqN)] [(.int (v0_13 q0 q1 q2 q3 p4))])) _
        refine XS.ifYes X48.here hx rfl (pc0 := 220) (pc' := 241) rfl (hb hby at_220) rfl (XT.i0_ne_t c23) (by decide) (by decide) ?_
        show Steps p.tables e below (T48.setTop (mkF m 241 #[.val (.long q0), .second, .val (.long q1), .second, .val (.long q2), .second, .val (.long q3), .second, .val (.int p4), .val (.int (v0_1 q0 q1 q2 q3 p4)), .val (.int (v0_2 q0 q1 q2 q3 p4)), .val (.int (v0_3 q0 q1 q2 q3 p4)), .val (.int (v0_4 q0 q1 q2 q3 p4)), .val (.int (v0_5 q0 q1 q2 q3 p4)), .val (.int (v0_6 q0 q1 q2 q3 p4)), .val (.int (v0_7 q0 q1 q2 q3 p4)), .val (.int (v0_8 q0 q1 q2 q3 p4)), .val (.ref b1), .val (.ref b11), .val (.int (v0_13 q0 q1 q2 q3 p4)), .val .null, .val (.int (0 : Int32)), .val (.int feqN)] [])) _
        refine XT.iconstV X48.here hx rfl (1 : Int32) (hb hby at_241) (by decide) ?_
        show Steps p.tables e below (T48.setTop (mkF m 242 #[.val (.long q0), .second, .val (.long q1), .second, .val (.long q2), .second, .val (.long q3), .second, .val (.int p4), .val (.int (v0_1 q0 q1 q2 q3 p4)), .val (.int (v0_2 q0 q1 q2 q3 p4)), .val (.int (v0_3 q0 q1 q2 q3 p4)), .val (.int (v0_4 q0 q1 q2 q3 p4)), .val (.int (v0_5 q0 q1 q2 q3 p4)), .val (.int (v0_6 q0 q1 q2 q3 p4)), .val (.int (v0_7 q0 q1 q2 q3 p4)), .val (.int (v0_8 q0 q1 q2 q3 p4)), .val (.ref b1), .val (.ref b11), .val (.int (v0_13 q0 q1 q2 q3 p4)), .val .null, .val (.int (0 : Int32)), .val (.int feqN)] [(.int (1 : Int32))])) _
        exact retN X48 hx (t := .boolean) Bd.returns (by simp) (hb hby at_242) hr
      · skip
        show Q0 Z q0 q1 q2 q3 p4 w1_cache clI h0 n0 _ T48.heap _
        rw [e48]
        exact ⟨rfl, N48⟩
    · skip
      have pre50 : ∀ t, Steps p.tables e below (T19.setTop (mkF m 177 #[.val (.long q0), .second, .val (.long q1), .second, .val (.long q2), .second, .val (.long q3), .second, .val (.int p4), .val (.int (v0_1 q0 q1 q2 q3 p4)), .val (.int (v0_2 q0 q1 q2 q3 p4)), .val (.int (v0_3 q0 q1 q2 q3 p4)), .val (.int (v0_4 q0 q1 q2 q3 p4)), .val (.int (v0_5 q0 q1 q2 q3 p4)), .val (.int (v0_6 q0 q1 q2 q3 p4)), .val (.int (v0_7 q0 q1 q2 q3 p4)), .val (.int (v0_8 q0 q1 q2 q3 p4)), .val (.ref b1), .val (.ref b11), .val (.int (v0_13 q0 q1 q2 q3 p4)), .unset, .unset, .unset] [(.int (2 : Int32)), (.int (v0_13 q0 q1 q2 q3 p4))])) t → Steps p.tables e below (s₁.setTop (entryFrame m #[(.long q0), (.long q1), (.long q2), (.long q3), (.int p4)] maxLocals)) t := by
        intro t k
        refine pre46 t ?_
        show Steps p.tables e below (T19.setTop (mkF m 162 #[.val (.long q0), .second, .val (.long q1), .second, .val (.long q2), .second, .val (.long q3), .second, .val (.int p4), .val (.int (v0_1 q0 q1 q2 q3 p4)), .val (.int (v0_2 q0 q1 q2 q3 p4)), .val (.int (v0_3 q0 q1 q2 q3 p4)), .val (.int (v0_4 q0 q1 q2 q3 p4)), .val (.int (v0_5 q0 q1 q2 q3 p4)), .val (.int (v0_6 q0 q1 q2 q3 p4)), .val (.int (v0_7 q0 q1 q2 q3 p4)), .val (.int (v0_8 q0 q1 q2 q3 p4)), .val (.ref b1), .val (.ref b11), .val (.int (v0_13 q0 q1 q2 q3 p4)), .unset, .unset, .unset] [(.int (1 : Int32)), (.int (v0_13 q0 q1 q2 q3 p4))])) _
        refine XS.icmpYes X19.here hx rfl (pc0 := 162) (pc' := 174) rfl (hb hby at_162) rfl (XT.ii_ne_t c47) (by decide) (by decide) ?_
        show Steps p.tables e below (T19.setTop (mkF m 174 #[.val (.long q0), .second, .val (.long q1), .second, .val (.long q2), .second, .val (.long q3), .second, .val (.int p4), .val (.int (v0_1 q0 q1 q2 q3 p4)), .val (.int (v0_2 q0 q1 q2 q3 p4)), .val (.int (v0_3 q0 q1 q2 q3 p4)), .val (.int (v0_4 q0 q1 q2 q3 p4)), .val (.int (v0_5 q0 q1 q2 q3 p4)), .val (.int (v0_6 q0 q1 q2 q3 p4)), .val (.int (v0_7 q0 q1 q2 q3 p4)), .val (.int (v0_8 q0 q1 q2 q3 p4)), .val (.ref b1), .val (.ref b11), .val (.int (v0_13 q0 q1 q2 q3 p4)), .unset, .unset, .unset] [])) _
        refine XS.iload X19.here hx rfl (hb hby at_174) rfl ?_
        show Steps p.tables e below (T19.setTop (mkF m 176 #[.val (.long q0), .second, .val (.long q1), .second, .val (.long q2), .second, .val (.long q3), .second, .val (.int p4), .val (.int (v0_1 q0 q1 q2 q3 p4)), .val (.int (v0_2 q0 q1 q2 q3 p4)), .val (.int (v0_3 q0 q1 q2 q3 p4)), .val (.int (v0_4 q0 q1 q2 q3 p4)), .val (.int (v0_5 q0 q1 q2 q3 p4)), .val (.int (v0_6 q0 q1 q2 q3 p4)), .val (.int (v0_7 q0 q1 q2 q3 p4)), .val (.int (v0_8 q0 q1 q2 q3 p4)), .val (.ref b1), .val (.ref b11), .val (.int (v0_13 q0 q1 q2 q3 p4)), .unset, .unset, .unset] [(.int (v0_13 q0 q1 q2 q3 p4))])) _
        refine XT.iconstV X19.here hx rfl (2 : Int32) (hb hby at_176) (by decide) ?_
        exact k
      clear pre46
      by_cases c51 : (v0_13 q0 q1 q2 q3 p4) = (2 : Int32)
      · skip
        have O53 := ((((O0.ext E1).keep K8 (allS g2 all0)).ext E11).keep K19 (allS g13 all0))
        obtain ⟨vr52, _, ⟨T52, L52, k52, n52⟩, -, X52, ⟨Lc52, hQ52, l52, y52, z52⟩, st52⟩ := Jvm.LawKit.callS X19 hx (y := (⟨"java/lang/Integer", "valueOf", "(I)Ljava/lang/Integer;"⟩ : MethodName)) hown (mvT hZ (wd hw 50 rfl)) (mvT hZ (wd hw 51 rfl)) (mvT hZ (wd hw 52 rfl)) (mvT hZ (wd hw 53 rfl)) (by decide) (backOf (W := 0) (rm10 l Z a0 hw [] (v0_1 q0 q1 q2 q3 p4) w1_cache clI T19.heap n0 z20 O53 S_Integer_IntegerCache_high S_Integer_IntegerCache_cache BxI) hZ (wd hw 53 rfl) (wd hw 52 rfl) (by decide) (by decide)) (g := (mkF m 182 #[.val (.long q0), .second, .val (.long q1), .second, .val (.long q2), .second, .val (.long q3), .second, .val (.int p4), .val (.int (v0_1 q0 q1 q2 q3 p4)), .val (.int (v0_2 q0 q1 q2 q3 p4)), .val (.int (v0_3 q0 q1 q2 q3 p4)), .val (.int (v0_4 q0 q1 q2 q3 p4)), .val (.int (v0_5 q0 q1 q2 q3 p4)), .val (.int (v0_6 q0 q1 q2 q3 p4)), .val (.int (v0_7 q0 q1 q2 q3 p4)), .val (.int (v0_8 q0 q1 q2 q3 p4)), .val (.ref b1), .val (.ref b11), .val (.int (v0_13 q0 q1 q2 q3 p4)), .unset, .unset, .unset] [(.int (v0_1 q0 q1 q2 q3 p4))])) rfl (by rw [hml]; rfl) (argsL := [(.int (v0_1 q0 q1 q2 q3 p4))]) (rest := []) (lenOf pd__I_Ljava_lang_Integer_ rfl) rfl (by show 2 * 0 + _ ≤ _; exact Nat.le_of_eq rfl) (hb hby at_182) (fun _ _ => ⟨rfl, rfl, (by decide : 2 + 1 ≤ _), (by decide : 8 + 1 ≤ _)⟩)
        dsimp only [Pt.U, Pt.locs, Pt.cells, Pt.slots] at X52 l52 y52 z52 st52 hQ52
        replace X52 := own_stand X52 l52 y52 z52
        clear l52 y52 z52
        have N52q := (show _ ∧ _ from hQ52).1
        have hq52 := (show _ ∧ _ from hQ52).2
        clear hQ52
        obtain ⟨x10_0_52, hq52x⟩ := hq52
        have hv52 := hq52x.1
        have K52 := hq52x.2.1
        have po52_0 := hq52x.2.2
        clear hq52x
        subst hv52
        have z54 : n0 ≤ T52.heap.size := Nat.le_trans z20 K52.1
        have hs55 : h0.size ≤ T52.heap.size := Nat.le_trans hs21 K52.1
        have N52 := Fr.app N19 N52q
        have k57 := (((po8_0.ext E11).keep K19).keep K52)
        obtain ⟨cq56, kq56, q56a, q56b, q56c⟩ := isOf hZ rfl k57
        obtain ⟨vr56, _, ⟨T56, L56, k56, n56⟩, -, X56, ⟨Lc56, hQ56, l56, y56, z56⟩, st56⟩ := Jvm.Stand.virtualBack X52 hx (y := (⟨"com/example/khonsu/khonsu/trajectory/TrajectoryRow", "equals", "(Ljava/lang/Object;)Z"⟩ : MethodName)) (z := (⟨"com/example/khonsu/khonsu/trajectory/TrajectoryRow", "equals", "(Ljava/lang/Object;)Z"⟩ : MethodName)) hown (mvT hZ (wd hw 31 rfl)) (mvT hZ (wd hw 32 rfl)) (notFace_of_selects (args := #[]) (mvT hZ (wd hw 34 rfl))) (mvT hZ (wd hw 34 rfl)) (mvT hZ (wd hw 33 rfl)) (by decide) (backOf (W := 0) (rmeqI l Z a0 hw [] b1 x10_0_52 T52.heap n0 z54 po52_0) hZ (wd hw 35 rfl) (wd hw 3 rfl) (by decide) (by decide)) q56a q56c (g := (mkF m 204 #[.val (.long q0), .second, .val (.long q1), .second, .val (.long q2), .second, .val (.long q3), .second, .val (.int p4), .val (.int (v0_1 q0 q1 q2 q3 p4)), .val (.int (v0_2 q0 q1 q2 q3 p4)), .val (.int (v0_3 q0 q1 q2 q3 p4)), .val (.int (v0_4 q0 q1 q2 q3 p4)), .val (.int (v0_5 q0 q1 q2 q3 p4)), .val (.int (v0_6 q0 q1 q2 q3 p4)), .val (.int (v0_7 q0 q1 q2 q3 p4)), .val (.int (v0_8 q0 q1 q2 q3 p4)), .val (.ref b1), .val (.ref b11), .val (.int (v0_13 q0 q1 q2 q3 p4)), .val (.ref x10_0_52), .val (.int (0 : Int32)), .unset] [(.ref x10_0_52), (.ref b1)])) rfl (by rw [hml]; rfl) (Steps.refl _) (argsL := [(.ref x10_0_52)]) (rest := []) (lenOf pd__Ljava_lang_Object__Z rfl) rfl (by show 2 * 0 + _ ≤ _; exact Nat.le_of_eq rfl) (hb hby at_204) (fun _ _ => ⟨rfl, rfl, (by decide : 3 + 0 ≤ _), (by decide : 9 + 0 ≤ _)⟩)
        dsimp only [Pt.U, Pt.locs, Pt.cells, Pt.slots] at X56 l56 y56 z56 st56 hQ56
        replace X56 := own_stand X56 l56 y56 z56
        clear l56 y56 z56
        have N56q := (show _ ∧ _ ∧ _ from hQ56).1
        have hv56 := (show _ ∧ _ ∧ _ from hQ56).2.1
        have e56 := (show _ ∧ _ ∧ _ from hQ56).2.2
        clear hQ56
        subst hv56
        have N56 := Fr.app N52 N56q
        obtain ⟨fs, hr, hrun, hended, hW, hsame⟩ := X56.leave (v := some (.int (1 : Int32))) (fun h => by rw [Bd.returns] at h; cases h) hlk
        refine ⟨_, _, pre50 _ ?_, hrun, hended, _, _, rfl, ?_, ⟨_, rfl⟩, hW, hsame.mono (by decide) (by decide)⟩
        · skip
          show Steps p.tables e below (T19.setTop (mkF m 177 #[.val (.long q0), .second, .val (.long q1), .second, .val (.long q2), .second, .val (.long q3), .second, .val (.int p4), .val (.int (v0_1 q0 q1 q2 q3 p4)), .val (.int (v0_2 q0 q1 q2 q3 p4)), .val (.int (v0_3 q0 q1 q2 q3 p4)), .val (.int (v0_4 q0 q1 q2 q3 p4)), .val (.int (v0_5 q0 q1 q2 q3 p4)), .val (.int (v0_6 q0 q1 q2 q3 p4)), .val (.int (v0_7 q0 q1 q2 q3 p4)), .val (.int (v0_8 q0 q1 q2 q3 p4)), .val (.ref b1), .val (.ref b11), .val (.int (v0_13 q0 q1 q2 q3 p4)), .unset, .unset, .unset] [(.int (2 : Int32)), (.int (v0_13 q0 q1 q2 q3 p4))])) _
          refine XS.icmpNo X19.here hx rfl (hb hby at_177) rfl (XT.ii_ne_f c51) ?_
          show Steps p.tables e below (T19.setTop (mkF m 180 #[.val (.long q0), .second, .val (.long q1), .second, .val (.long q2), .second, .val (.long q3), .second, .val (.int p4), .val (.int (v0_1 q0 q1 q2 q3 p4)), .val (.int (v0_2 q0 q1 q2 q3 p4)), .val (.int (v0_3 q0 q1 q2 q3 p4)), .val (.int (v0_4 q0 q1 q2 q3 p4)), .val (.int (v0_5 q0 q1 q2 q3 p4)), .val (.int (v0_6 q0 q1 q2 q3 p4)), .val (.int (v0_7 q0 q1 q2 q3 p4)), .val (.int (v0_8 q0 q1 q2 q3 p4)), .val (.ref b1), .val (.ref b11), .val (.int (v0_13 q0 q1 q2 q3 p4)), .unset, .unset, .unset] [])) _
          refine XS.iload X19.here hx rfl (hb hby at_180) rfl ?_
          show Steps p.tables e below (T19.setTop (mkF m 182 #[.val (.long q0), .second, .val (.long q1), .second, .val (.long q2), .second, .val (.long q3), .second, .val (.int p4), .val (.int (v0_1 q0 q1 q2 q3 p4)), .val (.int (v0_2 q0 q1 q2 q3 p4)), .val (.int (v0_3 q0 q1 q2 q3 p4)), .val (.int (v0_4 q0 q1 q2 q3 p4)), .val (.int (v0_5 q0 q1 q2 q3 p4)), .val (.int (v0_6 q0 q1 q2 q3 p4)), .val (.int (v0_7 q0 q1 q2 q3 p4)), .val (.int (v0_8 q0 q1 q2 q3 p4)), .val (.ref b1), .val (.ref b11), .val (.int (v0_13 q0 q1 q2 q3 p4)), .unset, .unset, .unset] [(.int (v0_1 q0 q1 q2 q3 p4))])) _
          refine st52 _ ?_
          show Steps p.tables e below (T52.setTop (mkF m 185 #[.val (.long q0), .second, .val (.long q1), .second, .val (.long q2), .second, .val (.long q3), .second, .val (.int p4), .val (.int (v0_1 q0 q1 q2 q3 p4)), .val (.int (v0_2 q0 q1 q2 q3 p4)), .val (.int (v0_3 q0 q1 q2 q3 p4)), .val (.int (v0_4 q0 q1 q2 q3 p4)), .val (.int (v0_5 q0 q1 q2 q3 p4)), .val (.int (v0_6 q0 q1 q2 q3 p4)), .val (.int (v0_7 q0 q1 q2 q3 p4)), .val (.int (v0_8 q0 q1 q2 q3 p4)), .val (.ref b1), .val (.ref b11), .val (.int (v0_13 q0 q1 q2 q3 p4)), .unset, .unset, .unset] [(.ref x10_0_52)])) _
          refine XS.astore X52.here hx rfl (hb hby at_185) rfl rfl (l' := #[.val (.long q0), .second, .val (.long q1), .second, .val (.long q2), .second, .val (.long q3), .second, .val (.int p4), .val (.int (v0_1 q0 q1 q2 q3 p4)), .val (.int (v0_2 q0 q1 q2 q3 p4)), .val (.int (v0_3 q0 q1 q2 q3 p4)), .val (.int (v0_4 q0 q1 q2 q3 p4)), .val (.int (v0_5 q0 q1 q2 q3 p4)), .val (.int (v0_6 q0 q1 q2 q3 p4)), .val (.int (v0_7 q0 q1 q2 q3 p4)), .val (.int (v0_8 q0 q1 q2 q3 p4)), .val (.ref b1), .val (.ref b11), .val (.int (v0_13 q0 q1 q2 q3 p4)), .val (.ref x10_0_52), .unset, .unset]) rfl ?_
          show Steps p.tables e below (T52.setTop (mkF m 187 #[.val (.long q0), .second, .val (.long q1), .second, .val (.long q2), .second, .val (.long q3), .second, .val (.int p4), .val (.int (v0_1 q0 q1 q2 q3 p4)), .val (.int (v0_2 q0 q1 q2 q3 p4)), .val (.int (v0_3 q0 q1 q2 q3 p4)), .val (.int (v0_4 q0 q1 q2 q3 p4)), .val (.int (v0_5 q0 q1 q2 q3 p4)), .val (.int (v0_6 q0 q1 q2 q3 p4)), .val (.int (v0_7 q0 q1 q2 q3 p4)), .val (.int (v0_8 q0 q1 q2 q3 p4)), .val (.ref b1), .val (.ref b11), .val (.int (v0_13 q0 q1 q2 q3 p4)), .val (.ref x10_0_52), .unset, .unset] [])) _
          refine XT.iconstV X52.here hx rfl (0 : Int32) (hb hby at_187) (by decide) ?_
          show Steps p.tables e below (T52.setTop (mkF m 188 #[.val (.long q0), .second, .val (.long q1), .second, .val (.long q2), .second, .val (.long q3), .second, .val (.int p4), .val (.int (v0_1 q0 q1 q2 q3 p4)), .val (.int (v0_2 q0 q1 q2 q3 p4)), .val (.int (v0_3 q0 q1 q2 q3 p4)), .val (.int (v0_4 q0 q1 q2 q3 p4)), .val (.int (v0_5 q0 q1 q2 q3 p4)), .val (.int (v0_6 q0 q1 q2 q3 p4)), .val (.int (v0_7 q0 q1 q2 q3 p4)), .val (.int (v0_8 q0 q1 q2 q3 p4)), .val (.ref b1), .val (.ref b11), .val (.int (v0_13 q0 q1 q2 q3 p4)), .val (.ref x10_0_52), .unset, .unset] [(.int (0 : Int32))])) _
          refine XS.istore X52.here hx rfl (hb hby at_188) rfl (l' := #[.val (.long q0), .second, .val (.long q1), .second, .val (.long q2), .second, .val (.long q3), .second, .val (.int p4), .val (.int (v0_1 q0 q1 q2 q3 p4)), .val (.int (v0_2 q0 q1 q2 q3 p4)), .val (.int (v0_3 q0 q1 q2 q3 p4)), .val (.int (v0_4 q0 q1 q2 q3 p4)), .val (.int (v0_5 q0 q1 q2 q3 p4)), .val (.int (v0_6 q0 q1 q2 q3 p4)), .val (.int (v0_7 q0 q1 q2 q3 p4)), .val (.int (v0_8 q0 q1 q2 q3 p4)), .val (.ref b1), .val (.ref b11), .val (.int (v0_13 q0 q1 q2 q3 p4)), .val (.ref x10_0_52), .val (.int (0 : Int32)), .unset]) rfl ?_
          show Steps p.tables e below (T52.setTop (mkF m 190 #[.val (.long q0), .second, .val (.long q1), .second, .val (.long q2), .second, .val (.long q3), .second, .val (.int p4), .val (.int (v0_1 q0 q1 q2 q3 p4)), .val (.int (v0_2 q0 q1 q2 q3 p4)), .val (.int (v0_3 q0 q1 q2 q3 p4)), .val (.int (v0_4 q0 q1 q2 q3 p4)), .val (.int (v0_5 q0 q1 q2 q3 p4)), .val (.int (v0_6 q0 q1 q2 q3 p4)), .val (.int (v0_7 q0 q1 q2 q3 p4)), .val (.int (v0_8 q0 q1 q2 q3 p4)), .val (.ref b1), .val (.ref b11), .val (.int (v0_13 q0 q1 q2 q3 p4)), .val (.ref x10_0_52), .val (.int (0 : Int32)), .unset] [])) _
          refine XS.goto X52.here hx rfl (pc0 := 190) (pc' := 200) rfl (hb hby at_190) (by decide) (by decide) ?_
          show Steps p.tables e below (T52.setTop (mkF m 200 #[.val (.long q0), .second, .val (.long q1), .second, .val (.long q2), .second, .val (.long q3), .second, .val (.int p4), .val (.int (v0_1 q0 q1 q2 q3 p4)), .val (.int (v0_2 q0 q1 q2 q3 p4)), .val (.int (v0_3 q0 q1 q2 q3 p4)), .val (.int (v0_4 q0 q1 q2 q3 p4)), .val (.int (v0_5 q0 q1 q2 q3 p4)), .val (.int (v0_6 q0 q1 q2 q3 p4)), .val (.int (v0_7 q0 q1 q2 q3 p4)), .val (.int (v0_8 q0 q1 q2 q3 p4)), .val (.ref b1), .val (.ref b11), .val (.int (v0_13 q0 q1 q2 q3 p4)), .val (.ref x10_0_52), .val (.int (0 : Int32)), .unset] [])) _
          refine XS.aload X52.here hx rfl (hb hby at_200) rfl rfl ?_
          show Steps p.tables e below (T52.setTop (mkF m 202 #[.val (.long q0), .second, .val (.long q1), .second, .val (.long q2), .second, .val (.long q3), .second, .val (.int p4), .val (.int (v0_1 q0 q1 q2 q3 p4)), .val (.int (v0_2 q0 q1 q2 q3 p4)), .val (.int (v0_3 q0 q1 q2 q3 p4)), .val (.int (v0_4 q0 q1 q2 q3 p4)), .val (.int (v0_5 q0 q1 q2 q3 p4)), .val (.int (v0_6 q0 q1 q2 q3 p4)), .val (.int (v0_7 q0 q1 q2 q3 p4)), .val (.int (v0_8 q0 q1 q2 q3 p4)), .val (.ref b1), .val (.ref b11), .val (.int (v0_13 q0 q1 q2 q3 p4)), .val (.ref x10_0_52), .val (.int (0 : Int32)), .unset] [(.ref b1)])) _
          refine XS.aload X52.here hx rfl (hb hby at_202) rfl rfl ?_
          show Steps p.tables e below (T52.setTop (mkF m 204 #[.val (.long q0), .second, .val (.long q1), .second, .val (.long q2), .second, .val (.long q3), .second, .val (.int p4), .val (.int (v0_1 q0 q1 q2 q3 p4)), .val (.int (v0_2 q0 q1 q2 q3 p4)), .val (.int (v0_3 q0 q1 q2 q3 p4)), .val (.int (v0_4 q0 q1 q2 q3 p4)), .val (.int (v0_5 q0 q1 q2 q3 p4)), .val (.int (v0_6 q0 q1 q2 q3 p4)), .val (.int (v0_7 q0 q1 q2 q3 p4)), .val (.int (v0_8 q0 q1 q2 q3 p4)), .val (.ref b1), .val (.ref b11), .val (.int (v0_13 q0 q1 q2 q3 p4)), .val (.ref x10_0_52), .val (.int (0 : Int32)), .unset] [(.ref x10_0_52), (.ref b1)])) _
          refine st56.trans ?_
          show Steps p.tables e below (T56.setTop (mkF m 207 #[.val (.long q0), .second, .val (.long q1), .second, .val (.long q2), .second, .val (.long q3), .second, .val (.int p4), .val (.int (v0_1 q0 q1 q2 q3 p4)), .val (.int (v0_2 q0 q1 q2 q3 p4)), .val (.int (v0_3 q0 q1 q2 q3 p4)), .val (.int (v0_4 q0 q1 q2 q3 p4)), .val (.int (v0_5 q0 q1 q2 q3 p4)), .val (.int (v0_6 q0 q1 q2 q3 p4)), .val (.int (v0_7 q0 q1 q2 q3 p4)), .val (.int (v0_8 q0 q1 q2 q3 p4)), .val (.ref b1), .val (.ref b11), .val (.int (v0_13 q0 q1 q2 q3 p4)), .val (.ref x10_0_52), .val (.int (0 : Int32)), .unset] [(.int feqI)])) _
          refine XS.istore X56.here hx rfl (hb hby at_207) rfl (l' := #[.val (.long q0), .second, .val (.long q1), .second, .val (.long q2), .second, .val (.long q3), .second, .val (.int p4), .val (.int (v0_1 q0 q1 q2 q3 p4)), .val (.int (v0_2 q0 q1 q2 q3 p4)), .val (.int (v0_3 q0 q1 q2 q3 p4)), .val (.int (v0_4 q0 q1 q2 q3 p4)), .val (.int (v0_5 q0 q1 q2 q3 p4)), .val (.int (v0_6 q0 q1 q2 q3 p4)), .val (.int (v0_7 q0 q1 q2 q3 p4)), .val (.int (v0_8 q0 q1 q2 q3 p4)), .val (.ref b1), .val (.ref b11), .val (.int (v0_13 q0 q1 q2 q3 p4)), .val (.ref x10_0_52), .val (.int (0 : Int32)), .val (.int feqI)]) rfl ?_
          show Steps p.tables e below (T56.setTop (mkF m 209 #[.val (.long q0), .second, .val (.long q1), .second, .val (.long q2), .second, .val (.long q3), .second, .val (.int p4), .val (.int (v0_1 q0 q1 q2 q3 p4)), .val (.int (v0_2 q0 q1 q2 q3 p4)), .val (.int (v0_3 q0 q1 q2 q3 p4)), .val (.int (v0_4 q0 q1 q2 q3 p4)), .val (.int (v0_5 q0 q1 q2 q3 p4)), .val (.int (v0_6 q0 q1 q2 q3 p4)), .val (.int (v0_7 q0 q1 q2 q3 p4)), .val (.int (v0_8 q0 q1 q2 q3 p4)), .val (.ref b1), .val (.ref b11), .val (.int (v0_13 q0 q1 q2 q3 p4)), .val (.ref x10_0_52), .val (.int (0 : Int32)), .val (.int feqI)] [])) _
          refine XS.iload X56.here hx rfl (hb hby at_209) rfl ?_
          show Steps p.tables e below (T56.setTop (mkF m 211 #[.val (.long q0), .second, .val (.long q1), .second, .val (.long q2), .second, .val (.long q3), .second, .val (.int p4), .val (.int (v0_1 q0 q1 q2 q3 p4)), .val (.int (v0_2 q0 q1 q2 q3 p4)), .val (.int (v0_3 q0 q1 q2 q3 p4)), .val (.int (v0_4 q0 q1 q2 q3 p4)), .val (.int (v0_5 q0 q1 q2 q3 p4)), .val (.int (v0_6 q0 q1 q2 q3 p4)), .val (.int (v0_7 q0 q1 q2 q3 p4)), .val (.int (v0_8 q0 q1 q2 q3 p4)), .val (.ref b1), .val (.ref b11), .val (.int (v0_13 q0 q1 q2 q3 p4)), .val (.ref x10_0_52), .val (.int (0 : Int32)), .val (.int feqI)] [(.int feqI)])) _
          refine XS.iload X56.here hx rfl (hb hby at_211) rfl ?_
          show Steps p.tables e below (T56.setTop (mkF m 213 #[.val (.long q0), .second, .val (.long q1), .second, .val (.long q2), .second, .val (.long q3), .second, .val (.int p4), .val (.int (v0_1 q0 q1 q2 q3 p4)), .val (.int (v0_2 q0 q1 q2 q3 p4)), .val (.int (v0_3 q0 q1 q2 q3 p4)), .val (.int (v0_4 q0 q1 q2 q3 p4)), .val (.int (v0_5 q0 q1 q2 q3 p4)), .val (.int (v0_6 q0 q1 q2 q3 p4)), .val (.int (v0_7 q0 q1 q2 q3 p4)), .val (.int (v0_8 q0 q1 q2 q3 p4)), .val (.ref b1), .val (.ref b11), .val (.int (v0_13 q0 q1 q2 q3 p4)), .val (.ref x10_0_52), .val (.int (0 : Int32)), .val (.int feqI)] [(.int (0 : Int32)), (.int feqI)])) _
          refine XS.icmpYes X56.here hx rfl (pc0 := 213) (pc' := 218) rfl (hb hby at_213) rfl (XT.ii_eq_t rfl) (by decide) (by decide) ?_
          show Steps p.tables e below (T56.setTop (mkF m 218 #[.val (.long q0), .second, .val (.long q1), .second, .val (.long q2), .second, .val (.long q3), .second, .val (.int p4), .val (.int (v0_1 q0 q1 q2 q3 p4)), .val (.int (v0_2 q0 q1 q2 q3 p4)), .val (.int (v0_3 q0 q1 q2 q3 p4)), .val (.int (v0_4 q0 q1 q2 q3 p4)), .val (.int (v0_5 q0 q1 q2 q3 p4)), .val (.int (v0_6 q0 q1 q2 q3 p4)), .val (.int (v0_7 q0 q1 q2 q3 p4)), .val (.int (v0_8 q0 q1 q2 q3 p4)), .val (.ref b1), .val (.ref b11), .val (.int (v0_13 q0 q1 q2 q3 p4)), .val (.ref x10_0_52), .val (.int (0 : Int32)), .val (.int feqI)] [])) _
          refine XS.iload X56.here hx rfl (hb hby at_218) rfl ?_
          show Steps p.tables e below (T56.setTop (mkF m 220 #[.val (.long q0), .second, .val (.long q1), .second, .val (.long q2), .second, .val (.long q3), .second, .val (.int p4), .val (.int (v0_1 q0 q1 q2 q3 p4)), .val (.int (v0_2 q0 q1 q2 q3 p4)), .val (.int (v0_3 q0 q1 q2 q3 p4)), .val (.int (v0_4 q0 q1 q2 q3 p4)), .val (.int (v0_5 q0 q1 q2 q3 p4)), .val (.int (v0_6 q0 q1 q2 q3 p4)), .val (.int (v0_7 q0 q1 q2 q3 p4)), .val (.int (v0_8 q0 q1 q2 q3 p4)), .val (.ref b1), .val (.ref b11), .val (.int (v0_13 q0 q1 q2 q3 p4)), .val (.ref x10_0_52), .val (.int (0 : Int32)), .val (.int feqI)] [(.int (v0_13 q0 q1 q2 q3 p4))])) _
          refine XS.ifYes X56.here hx rfl (pc0 := 220) (pc' := 241) rfl (hb hby at_220) rfl (XT.i0_ne_t c23) (by decide) (by decide) ?_
          show Steps p.tables e below (T56.setTop (mkF m 241 #[.val (.long q0), .second, .val (.long q1), .second, .val (.long q2), .second, .val (.long q3), .second, .val (.int p4), .val (.int (v0_1 q0 q1 q2 q3 p4)), .val (.int (v0_2 q0 q1 q2 q3 p4)), .val (.int (v0_3 q0 q1 q2 q3 p4)), .val (.int (v0_4 q0 q1 q2 q3 p4)), .val (.int (v0_5 q0 q1 q2 q3 p4)), .val (.int (v0_6 q0 q1 q2 q3 p4)), .val (.int (v0_7 q0 q1 q2 q3 p4)), .val (.int (v0_8 q0 q1 q2 q3 p4)), .val (.ref b1), .val (.ref b11), .val (.int (v0_13 q0 q1 q2 q3 p4)), .val (.ref x10_0_52), .val (.int (0 : Int32)), .val (.int feqI)] [])) _
          refine XT.iconstV X56.here hx rfl (1 : Int32) (hb hby at_241) (by decide) ?_
          show Steps p.tables e below (T56.setTop (mkF m 242 #[.val (.long q0), .second, .val (.long q1), .second, .val (.long q2), .second, .val (.long q3), .second, .val (.int p4), .val (.int (v0_1 q0 q1 q2 q3 p4)), .val (.int (v0_2 q0 q1 q2 q3 p4)), .val (.int (v0_3 q0 q1 q2 q3 p4)), .val (.int (v0_4 q0 q1 q2 q3 p4)), .val (.int (v0_5 q0 q1 q2 q3 p4)), .val (.int (v0_6 q0 q1 q2 q3 p4)), .val (.int (v0_7 q0 q1 q2 q3 p4)), .val (.int (v0_8 q0 q1 q2 q3 p4)), .val (.ref b1), .val (.ref b11), .val (.int (v0_13 q0 q1 q2 q3 p4)), .val (.ref x10_0_52), .val (.int (0 : Int32)), .val (.int feqI)] [(.int (1 : Int32))])) _
          exact retN X56 hx (t := .boolean) Bd.returns (by simp) (hb hby at_242) hr
        · skip
          show Q0 Z q0 q1 q2 q3 p4 w1_cache clI h0 n0 _ T56.heap _
          rw [e56]
          exact ⟨rfl, N56⟩
      · skip
        have k59 := ((po8_0.ext E11).keep K19)
        have k60 := ((po8_1.ext E11).keep K19 (ninS ne12 nin0))
        have k61 := ((po8_2.ext E11).keep K19 (ninS ne12 nin0))
        have k62 := ((po8_3.ext E11).keep K19 (ninS ne12 nin0))
        have k63 := ((po8_4.ext E11).keep K19 (ninS ne12 nin0))
        obtain ⟨cq58, kq58, q58a, q58b, q58c⟩ := isOf hZ rfl k59
        obtain ⟨vr58, _, ⟨T58, L58, k58, n58⟩, -, X58, ⟨Lc58, hQ58, l58, y58, z58⟩, st58⟩ := Jvm.Stand.virtualBack X19 hx (y := (⟨"com/example/khonsu/khonsu/trajectory/TrajectoryRow", "equals", "(Ljava/lang/Object;)Z"⟩ : MethodName)) (z := (⟨"com/example/khonsu/khonsu/trajectory/TrajectoryRow", "equals", "(Ljava/lang/Object;)Z"⟩ : MethodName)) hown (mvT hZ (wd hw 31 rfl)) (mvT hZ (wd hw 32 rfl)) (notFace_of_selects (args := #[]) (mvT hZ (wd hw 34 rfl))) (mvT hZ (wd hw 34 rfl)) (mvT hZ (wd hw 33 rfl)) (by decide) (backOf (W := 0) (rm6 l Z a0 hw [] b1 b1 (v0_1 q0 q1 q2 q3 p4) (v0_1 q0 q1 q2 q3 p4) (v0_3 q0 q1 q2 q3 p4) (v0_3 q0 q1 q2 q3 p4) (v0_9 q0 q1 q2 q3 p4) (v0_9 q0 q1 q2 q3 p4) (v0_10 q0 q1 q2 q3 p4) (v0_10 q0 q1 q2 q3 p4) T19.heap n0 z20 k59 k60 k60 k61 k61 k62 k62 (own_nf (v0_5 q0 q1 q2 q3 p4)) (own_nf (v0_5 q0 q1 q2 q3 p4)) k63 k63 (own_nf (v0_7 q0 q1 q2 q3 p4)) (own_nf (v0_7 q0 q1 q2 q3 p4))) hZ (wd hw 35 rfl) (wd hw 3 rfl) (by decide) (by decide)) q58a q58c (g := (mkF m 204 #[.val (.long q0), .second, .val (.long q1), .second, .val (.long q2), .second, .val (.long q3), .second, .val (.int p4), .val (.int (v0_1 q0 q1 q2 q3 p4)), .val (.int (v0_2 q0 q1 q2 q3 p4)), .val (.int (v0_3 q0 q1 q2 q3 p4)), .val (.int (v0_4 q0 q1 q2 q3 p4)), .val (.int (v0_5 q0 q1 q2 q3 p4)), .val (.int (v0_6 q0 q1 q2 q3 p4)), .val (.int (v0_7 q0 q1 q2 q3 p4)), .val (.int (v0_8 q0 q1 q2 q3 p4)), .val (.ref b1), .val (.ref b11), .val (.int (v0_13 q0 q1 q2 q3 p4)), .val (.ref b1), .val (.int (1 : Int32)), .unset] [(.ref b1), (.ref b1)])) rfl (by rw [hml]; rfl) (Steps.refl _) (argsL := [(.ref b1)]) (rest := []) (lenOf pd__Ljava_lang_Object__Z rfl) rfl (by show 2 * 0 + _ ≤ _; exact Nat.le_of_eq rfl) (hb hby at_204) (fun _ _ => ⟨rfl, rfl, (by decide : 2 + 0 ≤ _), (by decide : 8 + 0 ≤ _)⟩)
        dsimp only [Pt.U, Pt.locs, Pt.cells, Pt.slots] at X58 l58 y58 z58 st58 hQ58
        replace X58 := own_stand X58 l58 y58 z58
        clear l58 y58 z58
        have N58q := (show _ ∧ _ ∧ _ from hQ58).1
        have hv58 := (show _ ∧ _ ∧ _ from hQ58).2.1
        have e58 := (show _ ∧ _ ∧ _ from hQ58).2.2
        clear hQ58
        subst hv58
        have N58 := Fr.app N19 N58q
        obtain ⟨fs, hr, hrun, hended, hW, hsame⟩ := X58.leave (v := some (.int (1 : Int32))) (fun h => by rw [Bd.returns] at h; cases h) hlk
        refine ⟨_, _, pre50 _ ?_, hrun, hended, _, _, rfl, ?_, ⟨_, rfl⟩, hW, hsame.mono (by decide) (by decide)⟩
        · skip
          show Steps p.tables e below (T19.setTop (mkF m 177 #[.val (.long q0), .second, .val (.long q1), .second, .val (.long q2), .second, .val (.long q3), .second, .val (.int p4), .val (.int (v0_1 q0 q1 q2 q3 p4)), .val (.int (v0_2 q0 q1 q2 q3 p4)), .val (.int (v0_3 q0 q1 q2 q3 p4)), .val (.int (v0_4 q0 q1 q2 q3 p4)), .val (.int (v0_5 q0 q1 q2 q3 p4)), .val (.int (v0_6 q0 q1 q2 q3 p4)), .val (.int (v0_7 q0 q1 q2 q3 p4)), .val (.int (v0_8 q0 q1 q2 q3 p4)), .val (.ref b1), .val (.ref b11), .val (.int (v0_13 q0 q1 q2 q3 p4)), .unset, .unset, .unset] [(.int (2 : Int32)), (.int (v0_13 q0 q1 q2 q3 p4))])) _
          refine XS.icmpYes X19.here hx rfl (pc0 := 177) (pc' := 193) rfl (hb hby at_177) rfl (XT.ii_ne_t c51) (by decide) (by decide) ?_
          show Steps p.tables e below (T19.setTop (mkF m 193 #[.val (.long q0), .second, .val (.long q1), .second, .val (.long q2), .second, .val (.long q3), .second, .val (.int p4), .val (.int (v0_1 q0 q1 q2 q3 p4)), .val (.int (v0_2 q0 q1 q2 q3 p4)), .val (.int (v0_3 q0 q1 q2 q3 p4)), .val (.int (v0_4 q0 q1 q2 q3 p4)), .val (.int (v0_5 q0 q1 q2 q3 p4)), .val (.int (v0_6 q0 q1 q2 q3 p4)), .val (.int (v0_7 q0 q1 q2 q3 p4)), .val (.int (v0_8 q0 q1 q2 q3 p4)), .val (.ref b1), .val (.ref b11), .val (.int (v0_13 q0 q1 q2 q3 p4)), .unset, .unset, .unset] [])) _
          refine XS.aload X19.here hx rfl (hb hby at_193) rfl rfl ?_
          show Steps p.tables e below (T19.setTop (mkF m 195 #[.val (.long q0), .second, .val (.long q1), .second, .val (.long q2), .second, .val (.long q3), .second, .val (.int p4), .val (.int (v0_1 q0 q1 q2 q3 p4)), .val (.int (v0_2 q0 q1 q2 q3 p4)), .val (.int (v0_3 q0 q1 q2 q3 p4)), .val (.int (v0_4 q0 q1 q2 q3 p4)), .val (.int (v0_5 q0 q1 q2 q3 p4)), .val (.int (v0_6 q0 q1 q2 q3 p4)), .val (.int (v0_7 q0 q1 q2 q3 p4)), .val (.int (v0_8 q0 q1 q2 q3 p4)), .val (.ref b1), .val (.ref b11), .val (.int (v0_13 q0 q1 q2 q3 p4)), .unset, .unset, .unset] [(.ref b1)])) _
          refine XS.astore X19.here hx rfl (hb hby at_195) rfl rfl (l' := #[.val (.long q0), .second, .val (.long q1), .second, .val (.long q2), .second, .val (.long q3), .second, .val (.int p4), .val (.int (v0_1 q0 q1 q2 q3 p4)), .val (.int (v0_2 q0 q1 q2 q3 p4)), .val (.int (v0_3 q0 q1 q2 q3 p4)), .val (.int (v0_4 q0 q1 q2 q3 p4)), .val (.int (v0_5 q0 q1 q2 q3 p4)), .val (.int (v0_6 q0 q1 q2 q3 p4)), .val (.int (v0_7 q0 q1 q2 q3 p4)), .val (.int (v0_8 q0 q1 q2 q3 p4)), .val (.ref b1), .val (.ref b11), .val (.int (v0_13 q0 q1 q2 q3 p4)), .val (.ref b1), .unset, .unset]) rfl ?_
          show Steps p.tables e below (T19.setTop (mkF m 197 #[.val (.long q0), .second, .val (.long q1), .second, .val (.long q2), .second, .val (.long q3), .second, .val (.int p4), .val (.int (v0_1 q0 q1 q2 q3 p4)), .val (.int (v0_2 q0 q1 q2 q3 p4)), .val (.int (v0_3 q0 q1 q2 q3 p4)), .val (.int (v0_4 q0 q1 q2 q3 p4)), .val (.int (v0_5 q0 q1 q2 q3 p4)), .val (.int (v0_6 q0 q1 q2 q3 p4)), .val (.int (v0_7 q0 q1 q2 q3 p4)), .val (.int (v0_8 q0 q1 q2 q3 p4)), .val (.ref b1), .val (.ref b11), .val (.int (v0_13 q0 q1 q2 q3 p4)), .val (.ref b1), .unset, .unset] [])) _
          refine XT.iconstV X19.here hx rfl (1 : Int32) (hb hby at_197) (by decide) ?_
          show Steps p.tables e below (T19.setTop (mkF m 198 #[.val (.long q0), .second, .val (.long q1), .second, .val (.long q2), .second, .val (.long q3), .second, .val (.int p4), .val (.int (v0_1 q0 q1 q2 q3 p4)), .val (.int (v0_2 q0 q1 q2 q3 p4)), .val (.int (v0_3 q0 q1 q2 q3 p4)), .val (.int (v0_4 q0 q1 q2 q3 p4)), .val (.int (v0_5 q0 q1 q2 q3 p4)), .val (.int (v0_6 q0 q1 q2 q3 p4)), .val (.int (v0_7 q0 q1 q2 q3 p4)), .val (.int (v0_8 q0 q1 q2 q3 p4)), .val (.ref b1), .val (.ref b11), .val (.int (v0_13 q0 q1 q2 q3 p4)), .val (.ref b1), .unset, .unset] [(.int (1 : Int32))])) _
          refine XS.istore X19.here hx rfl (hb hby at_198) rfl (l' := #[.val (.long q0), .second, .val (.long q1), .second, .val (.long q2), .second, .val (.long q3), .second, .val (.int p4), .val (.int (v0_1 q0 q1 q2 q3 p4)), .val (.int (v0_2 q0 q1 q2 q3 p4)), .val (.int (v0_3 q0 q1 q2 q3 p4)), .val (.int (v0_4 q0 q1 q2 q3 p4)), .val (.int (v0_5 q0 q1 q2 q3 p4)), .val (.int (v0_6 q0 q1 q2 q3 p4)), .val (.int (v0_7 q0 q1 q2 q3 p4)), .val (.int (v0_8 q0 q1 q2 q3 p4)), .val (.ref b1), .val (.ref b11), .val (.int (v0_13 q0 q1 q2 q3 p4)), .val (.ref b1), .val (.int (1 : Int32)), .unset]) rfl ?_
          show Steps p.tables e below (T19.setTop (mkF m 200 #[.val (.long q0), .second, .val (.long q1), .second, .val (.long q2), .second, .val (.long q3), .second, .val (.int p4), .val (.int (v0_1 q0 q1 q2 q3 p4)), .val (.int (v0_2 q0 q1 q2 q3 p4)), .val (.int (v0_3 q0 q1 q2 q3 p4)), .val (.int (v0_4 q0 q1 q2 q3 p4)), .val (.int (v0_5 q0 q1 q2 q3 p4)), .val (.int (v0_6 q0 q1 q2 q3 p4)), .val (.int (v0_7 q0 q1 q2 q3 p4)), .val (.int (v0_8 q0 q1 q2 q3 p4)), .val (.ref b1), .val (.ref b11), .val (.int (v0_13 q0 q1 q2 q3 p4)), .val (.ref b1), .val (.int (1 : Int32)), .unset] [])) _
          refine XS.aload X19.here hx rfl (hb hby at_200) rfl rfl ?_
          show Steps p.tables e below (T19.setTop (mkF m 202 #[.val (.long q0), .second, .val (.long q1), .second, .val (.long q2), .second, .val (.long q3), .second, .val (.int p4), .val (.int (v0_1 q0 q1 q2 q3 p4)), .val (.int (v0_2 q0 q1 q2 q3 p4)), .val (.int (v0_3 q0 q1 q2 q3 p4)), .val (.int (v0_4 q0 q1 q2 q3 p4)), .val (.int (v0_5 q0 q1 q2 q3 p4)), .val (.int (v0_6 q0 q1 q2 q3 p4)), .val (.int (v0_7 q0 q1 q2 q3 p4)), .val (.int (v0_8 q0 q1 q2 q3 p4)), .val (.ref b1), .val (.ref b11), .val (.int (v0_13 q0 q1 q2 q3 p4)), .val (.ref b1), .val (.int (1 : Int32)), .unset] [(.ref b1)])) _
          refine XS.aload X19.here hx rfl (hb hby at_202) rfl rfl ?_
          show Steps p.tables e below (T19.setTop (mkF m 204 #[.val (.long q0), .second, .val (.long q1), .second, .val (.long q2), .second, .val (.long q3), .second, .val (.int p4), .val (.int (v0_1 q0 q1 q2 q3 p4)), .val (.int (v0_2 q0 q1 q2 q3 p4)), .val (.int (v0_3 q0 q1 q2 q3 p4)), .val (.int (v0_4 q0 q1 q2 q3 p4)), .val (.int (v0_5 q0 q1 q2 q3 p4)), .val (.int (v0_6 q0 q1 q2 q3 p4)), .val (.int (v0_7 q0 q1 q2 q3 p4)), .val (.int (v0_8 q0 q1 q2 q3 p4)), .val (.ref b1), .val (.ref b11), .val (.int (v0_13 q0 q1 q2 q3 p4)), .val (.ref b1), .val (.int (1 : Int32)), .unset] [(.ref b1), (.ref b1)])) _
          refine st58.trans ?_
          show Steps p.tables e below (T58.setTop (mkF m 207 #[.val (.long q0), .second, .val (.long q1), .second, .val (.long q2), .second, .val (.long q3), .second, .val (.int p4), .val (.int (v0_1 q0 q1 q2 q3 p4)), .val (.int (v0_2 q0 q1 q2 q3 p4)), .val (.int (v0_3 q0 q1 q2 q3 p4)), .val (.int (v0_4 q0 q1 q2 q3 p4)), .val (.int (v0_5 q0 q1 q2 q3 p4)), .val (.int (v0_6 q0 q1 q2 q3 p4)), .val (.int (v0_7 q0 q1 q2 q3 p4)), .val (.int (v0_8 q0 q1 q2 q3 p4)), .val (.ref b1), .val (.ref b11), .val (.int (v0_13 q0 q1 q2 q3 p4)), .val (.ref b1), .val (.int (1 : Int32)), .unset] [(.int (f6 (v0_1 q0 q1 q2 q3 p4) (v0_1 q0 q1 q2 q3 p4) (v0_3 q0 q1 q2 q3 p4) (v0_3 q0 q1 q2 q3 p4) (v0_9 q0 q1 q2 q3 p4) (v0_9 q0 q1 q2 q3 p4) (v0_10 q0 q1 q2 q3 p4) (v0_10 q0 q1 q2 q3 p4)))])) _
          refine XS.istore X58.here hx rfl (hb hby at_207) rfl (l' := #[.val (.long q0), .second, .val (.long q1), .second, .val (.long q2), .second, .val (.long q3), .second, .val (.int p4), .val (.int (v0_1 q0 q1 q2 q3 p4)), .val (.int (v0_2 q0 q1 q2 q3 p4)), .val (.int (v0_3 q0 q1 q2 q3 p4)), .val (.int (v0_4 q0 q1 q2 q3 p4)), .val (.int (v0_5 q0 q1 q2 q3 p4)), .val (.int (v0_6 q0 q1 q2 q3 p4)), .val (.int (v0_7 q0 q1 q2 q3 p4)), .val (.int (v0_8 q0 q1 q2 q3 p4)), .val (.ref b1), .val (.ref b11), .val (.int (v0_13 q0 q1 q2 q3 p4)), .val (.ref b1), .val (.int (1 : Int32)), .val (.int (v0_20 q0 q1 q2 q3 p4))]) rfl ?_
          show Steps p.tables e below (T58.setTop (mkF m 209 #[.val (.long q0), .second, .val (.long q1), .second, .val (.long q2), .second, .val (.long q3), .second, .val (.int p4), .val (.int (v0_1 q0 q1 q2 q3 p4)), .val (.int (v0_2 q0 q1 q2 q3 p4)), .val (.int (v0_3 q0 q1 q2 q3 p4)), .val (.int (v0_4 q0 q1 q2 q3 p4)), .val (.int (v0_5 q0 q1 q2 q3 p4)), .val (.int (v0_6 q0 q1 q2 q3 p4)), .val (.int (v0_7 q0 q1 q2 q3 p4)), .val (.int (v0_8 q0 q1 q2 q3 p4)), .val (.ref b1), .val (.ref b11), .val (.int (v0_13 q0 q1 q2 q3 p4)), .val (.ref b1), .val (.int (1 : Int32)), .val (.int (v0_20 q0 q1 q2 q3 p4))] [])) _
          refine XS.iload X58.here hx rfl (hb hby at_209) rfl ?_
          show Steps p.tables e below (T58.setTop (mkF m 211 #[.val (.long q0), .second, .val (.long q1), .second, .val (.long q2), .second, .val (.long q3), .second, .val (.int p4), .val (.int (v0_1 q0 q1 q2 q3 p4)), .val (.int (v0_2 q0 q1 q2 q3 p4)), .val (.int (v0_3 q0 q1 q2 q3 p4)), .val (.int (v0_4 q0 q1 q2 q3 p4)), .val (.int (v0_5 q0 q1 q2 q3 p4)), .val (.int (v0_6 q0 q1 q2 q3 p4)), .val (.int (v0_7 q0 q1 q2 q3 p4)), .val (.int (v0_8 q0 q1 q2 q3 p4)), .val (.ref b1), .val (.ref b11), .val (.int (v0_13 q0 q1 q2 q3 p4)), .val (.ref b1), .val (.int (1 : Int32)), .val (.int (v0_20 q0 q1 q2 q3 p4))] [(.int (v0_20 q0 q1 q2 q3 p4))])) _
          refine XS.iload X58.here hx rfl (hb hby at_211) rfl ?_
          show Steps p.tables e below (T58.setTop (mkF m 213 #[.val (.long q0), .second, .val (.long q1), .second, .val (.long q2), .second, .val (.long q3), .second, .val (.int p4), .val (.int (v0_1 q0 q1 q2 q3 p4)), .val (.int (v0_2 q0 q1 q2 q3 p4)), .val (.int (v0_3 q0 q1 q2 q3 p4)), .val (.int (v0_4 q0 q1 q2 q3 p4)), .val (.int (v0_5 q0 q1 q2 q3 p4)), .val (.int (v0_6 q0 q1 q2 q3 p4)), .val (.int (v0_7 q0 q1 q2 q3 p4)), .val (.int (v0_8 q0 q1 q2 q3 p4)), .val (.ref b1), .val (.ref b11), .val (.int (v0_13 q0 q1 q2 q3 p4)), .val (.ref b1), .val (.int (1 : Int32)), .val (.int (v0_20 q0 q1 q2 q3 p4))] [(.int (1 : Int32)), (.int (v0_20 q0 q1 q2 q3 p4))])) _
          refine XS.icmpYes X58.here hx rfl (pc0 := 213) (pc' := 218) rfl (hb hby at_213) rfl (XT.ii_eq_t (own_eqs q0 q1 q2 q3 p4)) (by decide) (by decide) ?_
          show Steps p.tables e below (T58.setTop (mkF m 218 #[.val (.long q0), .second, .val (.long q1), .second, .val (.long q2), .second, .val (.long q3), .second, .val (.int p4), .val (.int (v0_1 q0 q1 q2 q3 p4)), .val (.int (v0_2 q0 q1 q2 q3 p4)), .val (.int (v0_3 q0 q1 q2 q3 p4)), .val (.int (v0_4 q0 q1 q2 q3 p4)), .val (.int (v0_5 q0 q1 q2 q3 p4)), .val (.int (v0_6 q0 q1 q2 q3 p4)), .val (.int (v0_7 q0 q1 q2 q3 p4)), .val (.int (v0_8 q0 q1 q2 q3 p4)), .val (.ref b1), .val (.ref b11), .val (.int (v0_13 q0 q1 q2 q3 p4)), .val (.ref b1), .val (.int (1 : Int32)), .val (.int (v0_20 q0 q1 q2 q3 p4))] [])) _
          refine XS.iload X58.here hx rfl (hb hby at_218) rfl ?_
          show Steps p.tables e below (T58.setTop (mkF m 220 #[.val (.long q0), .second, .val (.long q1), .second, .val (.long q2), .second, .val (.long q3), .second, .val (.int p4), .val (.int (v0_1 q0 q1 q2 q3 p4)), .val (.int (v0_2 q0 q1 q2 q3 p4)), .val (.int (v0_3 q0 q1 q2 q3 p4)), .val (.int (v0_4 q0 q1 q2 q3 p4)), .val (.int (v0_5 q0 q1 q2 q3 p4)), .val (.int (v0_6 q0 q1 q2 q3 p4)), .val (.int (v0_7 q0 q1 q2 q3 p4)), .val (.int (v0_8 q0 q1 q2 q3 p4)), .val (.ref b1), .val (.ref b11), .val (.int (v0_13 q0 q1 q2 q3 p4)), .val (.ref b1), .val (.int (1 : Int32)), .val (.int (v0_20 q0 q1 q2 q3 p4))] [(.int (v0_13 q0 q1 q2 q3 p4))])) _
          refine XS.ifYes X58.here hx rfl (pc0 := 220) (pc' := 241) rfl (hb hby at_220) rfl (XT.i0_ne_t c23) (by decide) (by decide) ?_
          show Steps p.tables e below (T58.setTop (mkF m 241 #[.val (.long q0), .second, .val (.long q1), .second, .val (.long q2), .second, .val (.long q3), .second, .val (.int p4), .val (.int (v0_1 q0 q1 q2 q3 p4)), .val (.int (v0_2 q0 q1 q2 q3 p4)), .val (.int (v0_3 q0 q1 q2 q3 p4)), .val (.int (v0_4 q0 q1 q2 q3 p4)), .val (.int (v0_5 q0 q1 q2 q3 p4)), .val (.int (v0_6 q0 q1 q2 q3 p4)), .val (.int (v0_7 q0 q1 q2 q3 p4)), .val (.int (v0_8 q0 q1 q2 q3 p4)), .val (.ref b1), .val (.ref b11), .val (.int (v0_13 q0 q1 q2 q3 p4)), .val (.ref b1), .val (.int (1 : Int32)), .val (.int (v0_20 q0 q1 q2 q3 p4))] [])) _
          refine XT.iconstV X58.here hx rfl (1 : Int32) (hb hby at_241) (by decide) ?_
          show Steps p.tables e below (T58.setTop (mkF m 242 #[.val (.long q0), .second, .val (.long q1), .second, .val (.long q2), .second, .val (.long q3), .second, .val (.int p4), .val (.int (v0_1 q0 q1 q2 q3 p4)), .val (.int (v0_2 q0 q1 q2 q3 p4)), .val (.int (v0_3 q0 q1 q2 q3 p4)), .val (.int (v0_4 q0 q1 q2 q3 p4)), .val (.int (v0_5 q0 q1 q2 q3 p4)), .val (.int (v0_6 q0 q1 q2 q3 p4)), .val (.int (v0_7 q0 q1 q2 q3 p4)), .val (.int (v0_8 q0 q1 q2 q3 p4)), .val (.ref b1), .val (.ref b11), .val (.int (v0_13 q0 q1 q2 q3 p4)), .val (.ref b1), .val (.int (1 : Int32)), .val (.int (v0_20 q0 q1 q2 q3 p4))] [(.int (1 : Int32))])) _
          exact retN X58 hx (t := .boolean) Bd.returns (by simp) (hb hby at_242) hr
        · skip
          show Q0 Z q0 q1 q2 q3 p4 w1_cache clI h0 n0 _ T58.heap _
          rw [e58]
          exact ⟨rfl, N58⟩
set_option maxRecDepth 65536 in
set_option maxHeartbeats 40000000 in
theorem comes_1 {Post : Tables → Env → Array Value → State → Outcome → State → Prop} (hpost : ∀ tb e args s v u, (limb_1_1.after args s (.returned v) u = true ∧ limb_1_2.after args s (.returned v) u = true ∧ True) → FrameEnd s (.returned v) u (Jvm.fieldLocs frame_1_writes args s ++ Jvm.arrayLocs frame_1_arrays args s ++ Jvm.staticLocs frame_1_statics s) 16 128 → Post tb e args s (.returned v) u) :
    ArmFor flags0 classFile x code maxLocals ret World_1 tables_1 room_1 Calls_1 rest_1 Pre_1 Post := by
  intro l hfl _ _ p e ha hc hk s m args below hf hA hF happ hP
  obtain ⟨hcalls, hrest, hpre⟩ := hP
  obtain ⟨-, -, -, hnamed, -, -, -, hat⟩ := (Spec.applies_iff hf).mp happ
  obtain ⟨hg, hn⟩ := and_e (Cond.before_iff.mp (show (Jvm.Cond.and given_1 narrow_1).before args s = true from hpre))
  obtain ⟨hcount, r0⟩ := and_e hg
  obtain ⟨ha0, r1⟩ := and_e r0
  obtain ⟨ha1, r2⟩ := and_e r1
  obtain ⟨ha2, r3⟩ := and_e r2
  obtain ⟨ha3, r4⟩ := and_e r3
  obtain ⟨w0, w1, w2, w3, w4, rfl⟩ : ∃ w0 w1 w2 w3 w4 : Value, args = #[w0, w1, w2, w3, w4] := by
    have hs : args.size = 5 := by simpa [Cond.value, given_1] using hcount
    obtain ⟨L⟩ := args
    match L, hs with
    | [w0, w1, w2, w3, w4], _ => exact ⟨w0, w1, w2, w3, w4, rfl⟩
  have hw := fun d (hd : d ∈ tables_1) => atoms_spec (ws := Jvm.Cond.code x code maxLocals ret :: tables_1) hat d (List.mem_cons_of_mem _ hd)
  have hfit : Fit s := fun {y c} hc i hi => by
    obtain ⟨ha, rfl⟩ := Array.getElem?_eq_some_iff.mp hc
    have q := List.all_eq_true.mp ((Array.all_eq_true_iff_forall_mem.mp hF) _ (Array.getElem_mem ha)) i (List.mem_range.mpr hi)
    simpa [Array.getElem?_eq_getElem hi] using q
  obtain ⟨i0, ei0⟩ := isL_v ha0
  obtain rfl : w0 = (.long i0) := Option.some.inj ei0
  obtain ⟨i1, ei1⟩ := isL_v ha1
  obtain rfl : w1 = (.long i1) := Option.some.inj ei1
  obtain ⟨i2, ei2⟩ := isL_v ha2
  obtain rfl : w2 = (.long i2) := Option.some.inj ei2
  obtain ⟨i3, ei3⟩ := isL_v ha3
  obtain rfl : w3 = (.long i3) := Option.some.inj ei3
  obtain ⟨i4, ei4⟩ := is_v r4
  obtain rfl : w4 = (.int i4) := Option.some.inj ei4
  obtain ⟨hsets, hown0⟩ := atoms_of _ (rest_1_c_eq ▸ (show rest_1_c.before _ s = true from hrest))
  have eH := Jvm.Free.NT.SwA.eq_int (hsets _ (List.mem_of_getElem? (i := 3) rfl))
  have SH := Sta.start eH (Or.inl (hsets _ (List.mem_of_getElem? (i := 1) rfl)))
  obtain ⟨aI, eI⟩ := arr_v (Cond.before_iff.mp (hsets _ (List.mem_of_getElem? (i := 4) rfl)))
  obtain ⟨clI, AI⟩ := Arr.start eI (Cond.before_iff.mp (hsets _ (List.mem_of_getElem? (i := 4) rfl)))
  have SI := Sta.start eI (Or.inr ⟨hw _ (List.mem_of_getElem? (i := 55) rfl), (hsets _ (List.mem_of_getElem? (i := 2) rfl))⟩)
  have lI := own_len (Jvm.Free.NT.SwA.eq_int (hsets _ (List.mem_of_getElem? (i := 6) rfl))) eI AI.1
  have BI : Bxs s aI clI "java/lang/Integer" "I" (256 : Int32) (fun j => .int (j - 128)) := Bxs.start (fun _ => eI) AI lI.2 lI.1 (by decide) (Cond.before_iff.mp (hsets _ (List.mem_of_getElem? (i := 7) rfl))) (fun X j nn h => eqv_i (own_sub (idx_at nn)) h)
  obtain ⟨n, o, h1, h2, h3, _, L, rfl, ⟨rfl, N⟩, hq⟩ := rm0 l s _ hw tables_1 i0 i1 i2 i3 i4 aI clI s.heap s.heap.size (Nat.le_refl _) (Old.start s) SH SI BI p e ha hc hk s m _ below hf ((Spec.applies_iff_loose hf).mp happ).1 ⟨rfl, State.Warmed39.refl s, rfl⟩ trivial
  refine ⟨n, _, h1, h2, h3, hpost _ _ _ _ _ _ ⟨Cond.after_iff.mpr rfl, Cond.after_iff.mpr (eq_i res_at (Term.int_eval (1)) rfl), trivial⟩ ⟨hq.1, hq.2.1, (hq.2.2.sift fun y hy => Or.inr (N y hy)).mono (by decide) (by decide)⟩⟩
theorem main_1_1 : Claimed_1_1 := comes_1 fun _ _ _ _ _ _ h hF => ⟨h.1, hF⟩
theorem main_1_2 : Claimed_1_2 := comes_1 fun _ _ _ _ _ _ h hF => ⟨h.2.1, hF⟩
end Jvm.Pilot.@@N@@
namespace Jvm.Pilot.@@N@@
open Jvm Jvm.ClassFile Sem Op Lib Jvm.Free Jvm.Stand Jvm.Pilot.@@N@@.Jvm.D
/-! MADE BY PROGRAM (witnessworld.py) out of the Statement's table words and the real class files: 18 classes; the members and pool entries that the words name. The judged class is class 1, her method 4. -/
namespace start1
open Jvm.ClassFile
def u (s : String) : CpInfo := .utf8 (stringToUtf16 s)
/-- a pool by its gaps: so many unusable entries, then the entry; so many at the end -/
def gap : Nat → List CpInfo → List CpInfo
  | 0, r => r
  | n + 1, r => .unusable :: gap n r
def poolList (es : List (Nat × CpInfo)) (last : Nat) : List CpInfo := es.foldr (fun e r => gap e.1 (e.2 :: r)) (gap last [])
def pool (es : List (Nat × CpInfo)) (last : Nat) : Array CpInfo := ⟨poolList es last⟩
def fileOf (pool : Array CpInfo) (this : Nat) (attrs : Array Attribute := #[]) (ms : Array MethodInfo := #[]) (fl : Nat := 33) (sup : Nat := 0) (ifs : Array Nat := #[]) (fds : Array FieldInfo := #[]) : ClassFile where
  minorVersion := 0
  majorVersion := 65
  constantPool := pool
  accessFlags := fl
  thisClass := this
  superClass := sup
  interfaces := ifs
  fields := fds
  methods := ms
  attributes := attrs
def plain (name : String) (sup : Option ClassId) : Class where
  name := name
  kind := .ordinary
  loader := none
  accessFlags := 33
  super := sup
  interfaces := #[]
  cf := none
  fields := #[]
  methods := #[]
  instanceTypes := #[]
  staticTypes := #[]
  resolved := #[]
  callSites := []
  init := .initialized
  statics := none
  mirror := none

def pool0 : Array CpInfo := pool [(5, u "<init>"), (0, u "()V"), (1, .class_ 10), (1, u "java/lang/Object")] 113

def k0c0 : Code := { maxStack := 0, maxLocals := 1, code := object_method_1_code, exceptionTable := #[], attributes := #[] }
def k0m0 : Method := { name := "<init>", desc := "()V", sig := { parameters := [], returnType := none }, accessFlags := 1, code := some k0c0 }
/-- java/lang/Object -/
def k0 : Class := { plain "java/lang/Object" none with
  accessFlags := 33
  interfaces := #[]
  cf := some (fileOf pool0 8 #[] #[{ accessFlags := 1, nameIndex := 5, descriptorIndex := 6, attributes := #[] }] 33 0 #[] #[])
  fields := #[]
  methods := #[k0m0]
  instanceTypes := #[]
  staticTypes := #[]
  resolved := Array.replicate 124 none
  statics := none }

def pool1 : Array CpInfo := pool [(2, .class_ 4), (1, u "java/lang/Object"), (0, u "<init>"), (0, u "()V"), (0, .methodref 8 9), (0, .class_ 10), (0, .nameAndType 11 12), (0, u "com/example/khonsu/khonsu/trajectory/TrajectoryRowEqualsPinLaw"), (0, u "value"), (0, u "(I)J"), (0, .integer 2147483647), (0, .class_ 15), (0, u "com/example/khonsu/khonsu/trajectory/TrajectoryRow"), (0, .methodref 8 17), (0, .nameAndType 18 19), (0, u "coord"), (0, u "(I)D"), (0, .methodref 14 21), (0, .nameAndType 5 22), (0, u "(IIDD)V"), (0, .methodref 8 24), (0, .nameAndType 25 26), (0, u "sameCoord"), (0, u "(II)Z"), (0, .methodref 28 29), (0, .class_ 30), (0, .nameAndType 31 32), (0, u "java/lang/Integer"), (0, u "valueOf"), (0, u "(I)Ljava/lang/Integer;"), (0, .methodref 14 34), (0, .nameAndType 35 36), (0, u "equals"), (0, u "(Ljava/lang/Object;)Z"), (3, u "law"), (0, u "(JJJJI)Z")] 2

def k1m0 : Method := { name := "<init>", desc := "()V", sig := { parameters := [], returnType := none }, accessFlags := 1, code := none }
def k1c1 : Code := { maxStack := 2, maxLocals := 2, code := method_2_code, exceptionTable := #[], attributes := #[] }
def k1m1 : Method := { name := "coord", desc := "(I)D", sig := { parameters := [.int], returnType := some .double }, accessFlags := 10, code := some k1c1 }
def k1c2 : Code := { maxStack := 2, maxLocals := 3, code := method_3_code, exceptionTable := #[], attributes := #[] }
def k1m2 : Method := { name := "value", desc := "(I)J", sig := { parameters := [.int], returnType := some .long }, accessFlags := 10, code := some k1c2 }
def k1c3 : Code := { maxStack := 4, maxLocals := 6, code := method_4_code, exceptionTable := #[], attributes := #[] }
def k1m3 : Method := { name := "sameCoord", desc := "(II)Z", sig := { parameters := [.int, .int], returnType := some .boolean }, accessFlags := 10, code := some k1c3 }
def k1c4 : Code := { maxStack := 8, maxLocals := 23, code := code, exceptionTable := #[], attributes := #[] }
def k1m4 : Method := { name := "law", desc := "(JJJJI)Z", sig := { parameters := [.long, .long, .long, .long, .int], returnType := some .boolean }, accessFlags := 9, code := some k1c4 }
/-- com/example/khonsu/khonsu/trajectory/TrajectoryRowEqualsPinLaw -/
def k1 : Class := { plain "com/example/khonsu/khonsu/trajectory/TrajectoryRowEqualsPinLaw" (some 0) with
  accessFlags := 49
  interfaces := #[]
  cf := some (fileOf pool1 8 #[] #[{ accessFlags := 1, nameIndex := 5, descriptorIndex := 6, attributes := #[] }, { accessFlags := 10, nameIndex := 18, descriptorIndex := 19, attributes := #[] }, { accessFlags := 10, nameIndex := 11, descriptorIndex := 12, attributes := #[] }, { accessFlags := 10, nameIndex := 25, descriptorIndex := 26, attributes := #[] }, { accessFlags := 9, nameIndex := 40, descriptorIndex := 41, attributes := #[] }] 49 2 #[] #[])
  fields := #[]
  methods := #[k1m0, k1m1, k1m2, k1m3, k1m4]
  instanceTypes := #[]
  staticTypes := #[]
  resolved := Array.replicate 44 none
  statics := none }

def pool2 : Array CpInfo := pool [(1, .methodref 2 3), (0, .class_ 4), (0, .nameAndType 5 6), (0, u "java/lang/Object"), (0, u "<init>"), (0, u "()V"), (9, .methodref 17 18), (0, .class_ 19), (0, .nameAndType 20 21), (0, u "java/lang/Double"), (0, u "isFinite"), (0, u "(D)Z"), (3, .fieldref 26 27), (0, .class_ 28), (0, .nameAndType 29 30), (0, u "com/example/khonsu/khonsu/trajectory/TrajectoryRow"), (0, u "id"), (0, u "I"), (0, .fieldref 26 32), (0, .nameAndType 33 30), (0, u "frame"), (0, .fieldref 26 35), (0, .nameAndType 36 37), (0, u "x"), (0, u "D"), (0, .fieldref 26 39), (0, .nameAndType 40 37), (0, u "y"), (0, .methodref 17 42), (0, .nameAndType 43 44), (0, u "compare"), (0, u "(DD)I"), (18, u "(IIDD)V"), (9, u "equals"), (0, u "(Ljava/lang/Object;)Z")] 24

def k2c0 : Code := { maxStack := 6, maxLocals := 7, code := prog_22_method_1_code, exceptionTable := #[], attributes := #[] }
def k2m0 : Method := { name := "<init>", desc := "(IIDD)V", sig := { parameters := [.int, .int, .double, .double], returnType := none }, accessFlags := 1, code := some k2c0 }
def k2c1 : Code := { maxStack := 4, maxLocals := 3, code := prog_22_method_6_code, exceptionTable := #[], attributes := #[] }
def k2m1 : Method := { name := "equals", desc := "(Ljava/lang/Object;)Z", sig := { parameters := [(.object "java/lang/Object")], returnType := some .boolean }, accessFlags := 1, code := some k2c1 }
/-- com/example/khonsu/khonsu/trajectory/TrajectoryRow -/
def k2 : Class := { plain "com/example/khonsu/khonsu/trajectory/TrajectoryRow" (some 0) with
  accessFlags := 33
  interfaces := #[]
  cf := some (fileOf pool2 26 #[] #[{ accessFlags := 1, nameIndex := 5, descriptorIndex := 63, attributes := #[] }, { accessFlags := 1, nameIndex := 73, descriptorIndex := 74, attributes := #[] }] 33 2 #[] #[{ accessFlags := 18, nameIndex := 29, descriptorIndex := 30, attributes := #[] }, { accessFlags := 18, nameIndex := 33, descriptorIndex := 30, attributes := #[] }, { accessFlags := 18, nameIndex := 36, descriptorIndex := 37, attributes := #[] }, { accessFlags := 18, nameIndex := 40, descriptorIndex := 37, attributes := #[] }])
  fields := #[{ name := "id", type := .int, accessFlags := 18, slot := 0, constantValue := 0 }, { name := "frame", type := .int, accessFlags := 18, slot := 1, constantValue := 0 }, { name := "x", type := .double, accessFlags := 18, slot := 2, constantValue := 0 }, { name := "y", type := .double, accessFlags := 18, slot := 3, constantValue := 0 }]
  methods := #[k2m0, k2m1]
  instanceTypes := #[.int, .int, .double, .double]
  staticTypes := #[]
  resolved := Array.replicate 99 none
  statics := none }

def pool3 : Array CpInfo := pool [(1, .class_ 2), (0, u "java/io/Serializable"), (0, .class_ 4), (0, u "java/lang/Object")] 2

/-- java/io/Serializable -/
def k3 : Class := { plain "java/io/Serializable" (some 0) with
  accessFlags := 1537
  interfaces := #[]
  cf := some (fileOf pool3 1 #[] #[] 1537 3 #[] #[])
  fields := #[]
  methods := #[]
  instanceTypes := #[]
  staticTypes := #[]
  resolved := Array.replicate 7 none
  statics := none }

def pool4 : Array CpInfo := pool [(1, .methodref 2 3), (0, .class_ 4), (0, .nameAndType 5 6), (0, u "java/lang/Object"), (0, u "<init>"), (0, u "()V"), (1, .class_ 10), (1, u "java/lang/Number"), (2, .class_ 14), (0, u "java/io/Serializable"), (0, u "serialVersionUID"), (0, u "J")] 20

def k4c0 : Code := { maxStack := 1, maxLocals := 1, code := jdk_18_method_1_code, exceptionTable := #[], attributes := #[] }
def k4m0 : Method := { name := "<init>", desc := "()V", sig := { parameters := [], returnType := none }, accessFlags := 1, code := some k4c0 }
/-- java/lang/Number -/
def k4 : Class := { plain "java/lang/Number" (some 0) with
  accessFlags := 1057
  interfaces := #[3]
  cf := some (fileOf pool4 8 #[] #[{ accessFlags := 1, nameIndex := 5, descriptorIndex := 6, attributes := #[] }] 1057 2 #[13] #[{ accessFlags := 26, nameIndex := 15, descriptorIndex := 16, attributes := #[] }])
  fields := #[{ name := "serialVersionUID", type := .long, accessFlags := 26, slot := 0, constantValue := 0 }]
  methods := #[k4m0]
  instanceTypes := #[]
  staticTypes := #[.long]
  resolved := Array.replicate 37 none
  statics := none }

def pool5 : Array CpInfo := pool [(1, .class_ 2), (0, u "java/lang/Comparable"), (0, .class_ 4), (0, u "java/lang/Object")] 7

/-- java/lang/Comparable -/
def k5 : Class := { plain "java/lang/Comparable" (some 0) with
  accessFlags := 1537
  interfaces := #[]
  cf := some (fileOf pool5 1 #[] #[] 1537 3 #[] #[])
  fields := #[]
  methods := #[]
  instanceTypes := #[]
  staticTypes := #[]
  resolved := Array.replicate 12 none
  statics := none }

def pool6 : Array CpInfo := pool [(1, .class_ 2), (0, u "java/lang/constant/Constable"), (0, .class_ 4), (0, u "java/lang/Object")] 6

/-- java/lang/constant/Constable -/
def k6 : Class := { plain "java/lang/constant/Constable" (some 0) with
  accessFlags := 1537
  interfaces := #[]
  cf := some (fileOf pool6 1 #[] #[] 1537 3 #[] #[])
  fields := #[]
  methods := #[]
  instanceTypes := #[]
  staticTypes := #[]
  resolved := Array.replicate 11 none
  statics := none }

def pool7 : Array CpInfo := pool [(1, .class_ 2), (0, u "java/lang/constant/ConstantDesc"), (0, .class_ 4), (0, u "java/lang/Object")] 32

/-- java/lang/constant/ConstantDesc -/
def k7 : Class := { plain "java/lang/constant/ConstantDesc" (some 0) with
  accessFlags := 1537
  interfaces := #[]
  cf := some (fileOf pool7 1 #[] #[] 1537 3 #[] #[])
  fields := #[]
  methods := #[]
  instanceTypes := #[]
  staticTypes := #[]
  resolved := Array.replicate 37 none
  statics := none }

def pool8 : Array CpInfo := pool [(1, .class_ 2), (0, u "java/lang/Double"), (10, u "isFinite"), (0, u "(D)Z"), (8, .class_ 25), (1, u "java/lang/Math"), (12, .methodref 23 39), (0, .nameAndType 40 41), (0, u "abs"), (0, u "(D)D"), (4, .methodref 1 47), (0, .nameAndType 48 49), (0, u "doubleToLongBits"), (0, u "(D)J"), (61, .double 9218868437227405311), (2, .class_ 116), (1, u "java/lang/Number"), (3, u "value"), (0, u "D"), (0, .methodref 1 123), (0, .nameAndType 124 14), (0, u "isNaN"), (9, .methodref 1 135), (0, .nameAndType 136 49), (0, u "doubleToRawLongBits"), (4, u "compare"), (0, u "(DD)I"), (30, u "TYPE"), (0, u "Ljava/lang/Class;"), (0, .class_ 176), (0, u "java/lang/Comparable"), (0, .class_ 178), (0, u "java/lang/constant/Constable"), (0, .class_ 180), (0, u "java/lang/constant/ConstantDesc"), (0, u "POSITIVE_INFINITY"), (3, u "NEGATIVE_INFINITY"), (2, u "NaN"), (2, u "MAX_VALUE"), (0, u "MIN_NORMAL"), (0, u "MIN_VALUE"), (2, u "SIZE"), (0, u "I"), (1, u "PRECISION"), (1, u "MAX_EXPONENT"), (1, u "MIN_EXPONENT"), (1, u "BYTES"), (3, u "serialVersionUID"), (0, u "J")] 79

def k8c0 : Code := { maxStack := 4, maxLocals := 2, code := jdk_117_method_6_code, exceptionTable := #[], attributes := #[] }
def k8m0 : Method := { name := "isNaN", desc := "(D)Z", sig := { parameters := [.double], returnType := some .boolean }, accessFlags := 9, code := some k8c0 }
def k8c1 : Code := { maxStack := 4, maxLocals := 2, code := jdk_117_method_8_code, exceptionTable := #[], attributes := #[] }
def k8m1 : Method := { name := "isFinite", desc := "(D)Z", sig := { parameters := [.double], returnType := some .boolean }, accessFlags := 9, code := some k8c1 }
def k8c2 : Code := { maxStack := 2, maxLocals := 2, code := jdk_117_method_23_code, exceptionTable := #[], attributes := #[] }
def k8m2 : Method := { name := "doubleToLongBits", desc := "(D)J", sig := { parameters := [.double], returnType := some .long }, accessFlags := 9, code := some k8c2 }
def k8m3 : Method := { name := "doubleToRawLongBits", desc := "(D)J", sig := { parameters := [.double], returnType := some .long }, accessFlags := 265, code := none }
def k8c4 : Code := { maxStack := 4, maxLocals := 8, code := jdk_117_method_27_code, exceptionTable := #[], attributes := #[] }
def k8m4 : Method := { name := "compare", desc := "(DD)I", sig := { parameters := [.double, .double], returnType := some .int }, accessFlags := 9, code := some k8c4 }
/-- java/lang/Double -/
def k8 : Class := { plain "java/lang/Double" (some 4) with
  accessFlags := 49
  interfaces := #[5, 6, 7]
  cf := some (fileOf pool8 1 #[] #[{ accessFlags := 9, nameIndex := 124, descriptorIndex := 14, attributes := #[] }, { accessFlags := 9, nameIndex := 13, descriptorIndex := 14, attributes := #[] }, { accessFlags := 9, nameIndex := 48, descriptorIndex := 49, attributes := #[] }, { accessFlags := 265, nameIndex := 136, descriptorIndex := 49, attributes := #[] }, { accessFlags := 9, nameIndex := 141, descriptorIndex := 142, attributes := #[] }] 49 114 #[175, 177, 179] #[{ accessFlags := 25, nameIndex := 181, descriptorIndex := 121, attributes := #[] }, { accessFlags := 25, nameIndex := 185, descriptorIndex := 121, attributes := #[] }, { accessFlags := 25, nameIndex := 188, descriptorIndex := 121, attributes := #[] }, { accessFlags := 25, nameIndex := 191, descriptorIndex := 121, attributes := #[] }, { accessFlags := 25, nameIndex := 192, descriptorIndex := 121, attributes := #[] }, { accessFlags := 25, nameIndex := 193, descriptorIndex := 121, attributes := #[] }, { accessFlags := 25, nameIndex := 196, descriptorIndex := 197, attributes := #[] }, { accessFlags := 25, nameIndex := 199, descriptorIndex := 197, attributes := #[] }, { accessFlags := 25, nameIndex := 201, descriptorIndex := 197, attributes := #[] }, { accessFlags := 25, nameIndex := 203, descriptorIndex := 197, attributes := #[] }, { accessFlags := 25, nameIndex := 205, descriptorIndex := 197, attributes := #[] }, { accessFlags := 25, nameIndex := 173, descriptorIndex := 174, attributes := #[] }, { accessFlags := 18, nameIndex := 120, descriptorIndex := 121, attributes := #[] }, { accessFlags := 26, nameIndex := 209, descriptorIndex := 210, attributes := #[] }])
  fields := #[{ name := "POSITIVE_INFINITY", type := .double, accessFlags := 25, slot := 0, constantValue := 0 }, { name := "NEGATIVE_INFINITY", type := .double, accessFlags := 25, slot := 1, constantValue := 0 }, { name := "NaN", type := .double, accessFlags := 25, slot := 2, constantValue := 0 }, { name := "MAX_VALUE", type := .double, accessFlags := 25, slot := 3, constantValue := 0 }, { name := "MIN_NORMAL", type := .double, accessFlags := 25, slot := 4, constantValue := 0 }, { name := "MIN_VALUE", type := .double, accessFlags := 25, slot := 5, constantValue := 0 }, { name := "SIZE", type := .int, accessFlags := 25, slot := 6, constantValue := 0 }, { name := "PRECISION", type := .int, accessFlags := 25, slot := 7, constantValue := 0 }, { name := "MAX_EXPONENT", type := .int, accessFlags := 25, slot := 8, constantValue := 0 }, { name := "MIN_EXPONENT", type := .int, accessFlags := 25, slot := 9, constantValue := 0 }, { name := "BYTES", type := .int, accessFlags := 25, slot := 10, constantValue := 0 }, { name := "TYPE", type := (.object "java/lang/Class"), accessFlags := 25, slot := 11, constantValue := 0 }, { name := "value", type := .double, accessFlags := 18, slot := 0, constantValue := 0 }, { name := "serialVersionUID", type := .long, accessFlags := 26, slot := 12, constantValue := 0 }]
  methods := #[k8m0, k8m1, k8m2, k8m3, k8m4]
  instanceTypes := #[.double]
  staticTypes := #[.double, .double, .double, .double, .double, .double, .int, .int, .int, .int, .int, (.object "java/lang/Class"), .long]
  resolved := Array.replicate 290 none
  statics := none }

def pool9 : Array CpInfo := pool [(1, .class_ 2), (0, u "java/lang/Math"), (1, .class_ 6), (1, u "java/lang/Object"), (0, u "<init>"), (0, u "()V"), (5, u "(D)D"), (83, .class_ 100), (1, u "java/lang/Math$RandomNumberGeneratorHolder"), (23, u "abs"), (47, u "negativeZeroFloatBits"), (0, u "J"), (2, u "negativeZeroDoubleBits"), (68, u "$assertionsDisabled"), (0, u "Z"), (91, u "twoToTheDoubleScaleDown"), (0, u "D"), (4, u "twoToTheDoubleScaleUp"), (9, u "E"), (3, u "PI"), (2, u "TAU"), (2, u "DEGREES_TO_RADIANS"), (0, u "RADIANS_TO_DEGREES")] 94

def k9m0 : Method := { name := "<init>", desc := "()V", sig := { parameters := [], returnType := none }, accessFlags := 2, code := none }
def k9c1 : Code := { maxStack := 4, maxLocals := 2, code := jdk_29_method_64_code, exceptionTable := #[], attributes := #[] }
def k9m1 : Method := { name := "abs", desc := "(D)D", sig := { parameters := [.double], returnType := some .double }, accessFlags := 9, code := some k9c1 }
/-- java/lang/Math -/
def k9 : Class := { plain "java/lang/Math" (some 0) with
  accessFlags := 49
  interfaces := #[]
  cf := some (fileOf pool9 1 #[.nestMembers #[98]] #[{ accessFlags := 2, nameIndex := 7, descriptorIndex := 8, attributes := #[] }, { accessFlags := 9, nameIndex := 124, descriptorIndex := 14, attributes := #[] }] 49 4 #[] #[{ accessFlags := 25, nameIndex := 354, descriptorIndex := 339, attributes := #[] }, { accessFlags := 25, nameIndex := 358, descriptorIndex := 339, attributes := #[] }, { accessFlags := 25, nameIndex := 361, descriptorIndex := 339, attributes := #[] }, { accessFlags := 26, nameIndex := 364, descriptorIndex := 339, attributes := #[] }, { accessFlags := 26, nameIndex := 365, descriptorIndex := 339, attributes := #[] }, { accessFlags := 26, nameIndex := 172, descriptorIndex := 173, attributes := #[] }, { accessFlags := 26, nameIndex := 176, descriptorIndex := 173, attributes := #[] }, { accessFlags := 8, nameIndex := 344, descriptorIndex := 339, attributes := #[] }, { accessFlags := 8, nameIndex := 338, descriptorIndex := 339, attributes := #[] }, { accessFlags := 4120, nameIndex := 245, descriptorIndex := 246, attributes := #[] }])
  fields := #[{ name := "E", type := .double, accessFlags := 25, slot := 0, constantValue := 0 }, { name := "PI", type := .double, accessFlags := 25, slot := 1, constantValue := 0 }, { name := "TAU", type := .double, accessFlags := 25, slot := 2, constantValue := 0 }, { name := "DEGREES_TO_RADIANS", type := .double, accessFlags := 26, slot := 3, constantValue := 0 }, { name := "RADIANS_TO_DEGREES", type := .double, accessFlags := 26, slot := 4, constantValue := 0 }, { name := "negativeZeroFloatBits", type := .long, accessFlags := 26, slot := 5, constantValue := 0 }, { name := "negativeZeroDoubleBits", type := .long, accessFlags := 26, slot := 6, constantValue := 0 }, { name := "twoToTheDoubleScaleUp", type := .double, accessFlags := 8, slot := 7, constantValue := 0 }, { name := "twoToTheDoubleScaleDown", type := .double, accessFlags := 8, slot := 8, constantValue := 0 }, { name := "$assertionsDisabled", type := .boolean, accessFlags := 4120, slot := 9, constantValue := 0 }]
  methods := #[k9m0, k9m1]
  instanceTypes := #[]
  staticTypes := #[.double, .double, .double, .double, .double, .long, .long, .double, .double, .boolean]
  resolved := Array.replicate 460 none
  statics := none }

def pool10 : Array CpInfo := pool [(1, .class_ 2), (0, u "java/lang/Integer"), (16, u "digits"), (0, u "[C"), (46, u "<init>"), (17, u "DigitOnes"), (0, u "[B"), (2, u "DigitTens"), (10, .nameAndType 67 101), (0, u "()V"), (85, u "valueOf"), (0, u "(I)Ljava/lang/Integer;"), (0, .class_ 190), (0, u "java/lang/Integer$IntegerCache"), (0, .fieldref 189 192), (0, .nameAndType 193 194), (0, u "high"), (0, u "I"), (0, .fieldref 189 196), (0, .nameAndType 197 198), (0, u "cache"), (0, u "[Ljava/lang/Integer;"), (0, .methodref 1 200), (0, .nameAndType 67 201), (0, u "(I)V"), (0, .methodref 203 100), (0, .class_ 204), (0, u "java/lang/Number"), (0, .fieldref 1 206), (0, .nameAndType 207 194), (0, u "value"), (94, u "TYPE"), (0, u "Ljava/lang/Class;"), (0, .class_ 305), (0, u "java/lang/Comparable"), (0, .class_ 307), (0, u "java/lang/constant/Constable"), (0, .class_ 309), (0, u "java/lang/constant/ConstantDesc"), (0, u "MIN_VALUE"), (1, u "MAX_VALUE"), (3, u "SIZE"), (1, u "BYTES"), (1, u "serialVersionUID"), (0, u "J")] 131

def k10c0 : Code := { maxStack := 3, maxLocals := 1, code := jdk_33_method_22_code, exceptionTable := #[], attributes := #[] }
def k10m0 : Method := { name := "valueOf", desc := "(I)Ljava/lang/Integer;", sig := { parameters := [.int], returnType := some (.object "java/lang/Integer") }, accessFlags := 9, code := some k10c0 }
def k10c1 : Code := { maxStack := 2, maxLocals := 2, code := jdk_33_method_23_code, exceptionTable := #[], attributes := #[] }
def k10m1 : Method := { name := "<init>", desc := "(I)V", sig := { parameters := [.int], returnType := none }, accessFlags := 1, code := some k10c1 }
/-- java/lang/Integer -/
def k10 : Class := { plain "java/lang/Integer" (some 4) with
  accessFlags := 49
  interfaces := #[5, 6, 7]
  cf := some (fileOf pool10 1 #[.nestMembers #[189]] #[{ accessFlags := 9, nameIndex := 187, descriptorIndex := 188, attributes := #[] }, { accessFlags := 1, nameIndex := 67, descriptorIndex := 201, attributes := #[] }] 49 203 #[304, 306, 308] #[{ accessFlags := 25, nameIndex := 310, descriptorIndex := 194, attributes := #[] }, { accessFlags := 25, nameIndex := 312, descriptorIndex := 194, attributes := #[] }, { accessFlags := 25, nameIndex := 302, descriptorIndex := 303, attributes := #[] }, { accessFlags := 24, nameIndex := 19, descriptorIndex := 20, attributes := #[] }, { accessFlags := 24, nameIndex := 89, descriptorIndex := 86, attributes := #[] }, { accessFlags := 24, nameIndex := 85, descriptorIndex := 86, attributes := #[] }, { accessFlags := 18, nameIndex := 207, descriptorIndex := 194, attributes := #[] }, { accessFlags := 25, nameIndex := 316, descriptorIndex := 194, attributes := #[] }, { accessFlags := 25, nameIndex := 318, descriptorIndex := 194, attributes := #[] }, { accessFlags := 26, nameIndex := 320, descriptorIndex := 321, attributes := #[] }])
  fields := #[{ name := "MIN_VALUE", type := .int, accessFlags := 25, slot := 0, constantValue := 0 }, { name := "MAX_VALUE", type := .int, accessFlags := 25, slot := 1, constantValue := 0 }, { name := "TYPE", type := (.object "java/lang/Class"), accessFlags := 25, slot := 2, constantValue := 0 }, { name := "digits", type := (.array .char), accessFlags := 24, slot := 3, constantValue := 0 }, { name := "DigitTens", type := (.array .byte), accessFlags := 24, slot := 4, constantValue := 0 }, { name := "DigitOnes", type := (.array .byte), accessFlags := 24, slot := 5, constantValue := 0 }, { name := "value", type := .int, accessFlags := 18, slot := 0, constantValue := 0 }, { name := "SIZE", type := .int, accessFlags := 25, slot := 6, constantValue := 0 }, { name := "BYTES", type := .int, accessFlags := 25, slot := 7, constantValue := 0 }, { name := "serialVersionUID", type := .long, accessFlags := 26, slot := 8, constantValue := 0 }]
  methods := #[k10m0, k10m1]
  instanceTypes := #[.int]
  staticTypes := #[.int, .int, (.object "java/lang/Class"), (.array .char), (.array .byte), (.array .byte), .int, .int, .long]
  resolved := Array.replicate 453 none
  statics := none }

def pool11 : Array CpInfo := pool [(2, .class_ 4), (1, u "java/lang/Object"), (0, u "<init>"), (0, u "()V"), (0, .class_ 8), (0, u "java/lang/Integer"), (7, .class_ 18), (1, u "java/lang/Integer$IntegerCache"), (0, u "$assertionsDisabled"), (0, u "Z"), (26, u "high"), (0, u "I"), (8, u "archivedCache"), (0, u "[Ljava/lang/Integer;"), (12, u "cache"), (0, u "low")] 27

def k11m0 : Method := { name := "<init>", desc := "()V", sig := { parameters := [], returnType := none }, accessFlags := 2, code := none }
/-- java/lang/Integer$IntegerCache -/
def k11 : Class := { plain "java/lang/Integer$IntegerCache" (some 0) with
  accessFlags := 48
  interfaces := #[]
  cf := some (fileOf pool11 16 #[.nestHost 7] #[{ accessFlags := 2, nameIndex := 5, descriptorIndex := 6, attributes := #[] }] 48 2 #[] #[{ accessFlags := 24, nameIndex := 72, descriptorIndex := 48, attributes := #[] }, { accessFlags := 24, nameIndex := 47, descriptorIndex := 48, attributes := #[] }, { accessFlags := 24, nameIndex := 71, descriptorIndex := 58, attributes := #[] }, { accessFlags := 8, nameIndex := 57, descriptorIndex := 58, attributes := #[] }, { accessFlags := 4120, nameIndex := 19, descriptorIndex := 20, attributes := #[] }])
  fields := #[{ name := "low", type := .int, accessFlags := 24, slot := 0, constantValue := 0 }, { name := "high", type := .int, accessFlags := 24, slot := 1, constantValue := 0 }, { name := "cache", type := (.array (.object "java/lang/Integer")), accessFlags := 24, slot := 2, constantValue := 0 }, { name := "archivedCache", type := (.array (.object "java/lang/Integer")), accessFlags := 8, slot := 3, constantValue := 0 }, { name := "$assertionsDisabled", type := .boolean, accessFlags := 4120, slot := 4, constantValue := 0 }]
  methods := #[k11m0]
  instanceTypes := #[]
  staticTypes := #[.int, .int, (.array (.object "java/lang/Integer")), (.array (.object "java/lang/Integer")), .boolean]
  resolved := Array.replicate 100 none
  statics := some 0 }

def pool12 : Array CpInfo := pool [(1, u "java/lang/Cloneable"), (0, .class_ 1), (0, u "java/lang/Object"), (0, .class_ 3)] 3

/-- java/lang/Cloneable -/
def k12 : Class := { plain "java/lang/Cloneable" (some 0) with
  accessFlags := 1537
  interfaces := #[]
  cf := some (fileOf pool12 2 #[] #[] 1537 4 #[] #[])
  fields := #[]
  methods := #[]
  instanceTypes := #[]
  staticTypes := #[]
  resolved := Array.replicate 8 none
  statics := none }

/-- the primitive byte -/
def k13 : Class := { plain "byte" none with kind := .primitive 'B', accessFlags := 0x411 }
/-- [B -/
def k14 : Class := { plain "[B" (some 0) with kind := .array 13 .byte, interfaces := #[12, 3], accessFlags := 1041 }

/-- the primitive int -/
def k15 : Class := { plain "int" none with kind := .primitive 'I', accessFlags := 0x411 }
/-- [I -/
def k16 : Class := { plain "[I" (some 0) with kind := .array 15 .int, interfaces := #[12, 3], accessFlags := 1041 }

/-- [Ljava/lang/Integer; -/
def k17 : Class := { plain "[Ljava/lang/Integer;" (some 0) with kind := .array 10 (.object "java/lang/Integer"), interfaces := #[12, 3], accessFlags := 1041 }

def heap : Heap := #[{ cls := 11, slots := #[.int 0, .int 127, .ref 1, .null, .int 0], vm := .statics 11 },
  { cls := 17, slots := #[.ref 2, .ref 3, .ref 4, .ref 5, .ref 6, .ref 7, .ref 8, .ref 9, .ref 10, .ref 11, .ref 12, .ref 13, .ref 14, .ref 15, .ref 16, .ref 17, .ref 18, .ref 19, .ref 20, .ref 21, .ref 22, .ref 23, .ref 24, .ref 25, .ref 26, .ref 27, .ref 28, .ref 29, .ref 30, .ref 31, .ref 32, .ref 33, .ref 34, .ref 35, .ref 36, .ref 37, .ref 38, .ref 39, .ref 40, .ref 41, .ref 42, .ref 43, .ref 44, .ref 45, .ref 46, .ref 47, .ref 48, .ref 49, .ref 50, .ref 51, .ref 52, .ref 53, .ref 54, .ref 55, .ref 56, .ref 57, .ref 58, .ref 59, .ref 60, .ref 61, .ref 62, .ref 63, .ref 64, .ref 65, .ref 66, .ref 67, .ref 68, .ref 69, .ref 70, .ref 71, .ref 72, .ref 73, .ref 74, .ref 75, .ref 76, .ref 77, .ref 78, .ref 79, .ref 80, .ref 81, .ref 82, .ref 83, .ref 84, .ref 85, .ref 86, .ref 87, .ref 88, .ref 89, .ref 90, .ref 91, .ref 92, .ref 93, .ref 94, .ref 95, .ref 96, .ref 97, .ref 98, .ref 99, .ref 100, .ref 101, .ref 102, .ref 103, .ref 104, .ref 105, .ref 106, .ref 107, .ref 108, .ref 109, .ref 110, .ref 111, .ref 112, .ref 113, .ref 114, .ref 115, .ref 116, .ref 117, .ref 118, .ref 119, .ref 120, .ref 121, .ref 122, .ref 123, .ref 124, .ref 125, .ref 126, .ref 127, .ref 128, .ref 129, .ref 130, .ref 131, .ref 132, .ref 133, .ref 134, .ref 135, .ref 136, .ref 137, .ref 138, .ref 139, .ref 140, .ref 141, .ref 142, .ref 143, .ref 144, .ref 145, .ref 146, .ref 147, .ref 148, .ref 149, .ref 150, .ref 151, .ref 152, .ref 153, .ref 154, .ref 155, .ref 156, .ref 157, .ref 158, .ref 159, .ref 160, .ref 161, .ref 162, .ref 163, .ref 164, .ref 165, .ref 166, .ref 167, .ref 168, .ref 169, .ref 170, .ref 171, .ref 172, .ref 173, .ref 174, .ref 175, .ref 176, .ref 177, .ref 178, .ref 179, .ref 180, .ref 181, .ref 182, .ref 183, .ref 184, .ref 185, .ref 186, .ref 187, .ref 188, .ref 189, .ref 190, .ref 191, .ref 192, .ref 193, .ref 194, .ref 195, .ref 196, .ref 197, .ref 198, .ref 199, .ref 200, .ref 201, .ref 202, .ref 203, .ref 204, .ref 205, .ref 206, .ref 207, .ref 208, .ref 209, .ref 210, .ref 211, .ref 212, .ref 213, .ref 214, .ref 215, .ref 216, .ref 217, .ref 218, .ref 219, .ref 220, .ref 221, .ref 222, .ref 223, .ref 224, .ref 225, .ref 226, .ref 227, .ref 228, .ref 229, .ref 230, .ref 231, .ref 232, .ref 233, .ref 234, .ref 235, .ref 236, .ref 237, .ref 238, .ref 239, .ref 240, .ref 241, .ref 242, .ref 243, .ref 244, .ref 245, .ref 246, .ref 247, .ref 248, .ref 249, .ref 250, .ref 251, .ref 252, .ref 253, .ref 254, .ref 255, .ref 256, .ref 257], vm := .none },
  { cls := 10, slots := #[.int (-128)], vm := .none },
  { cls := 10, slots := #[.int (-127)], vm := .none },
  { cls := 10, slots := #[.int (-126)], vm := .none },
  { cls := 10, slots := #[.int (-125)], vm := .none },
  { cls := 10, slots := #[.int (-124)], vm := .none },
  { cls := 10, slots := #[.int (-123)], vm := .none },
  { cls := 10, slots := #[.int (-122)], vm := .none },
  { cls := 10, slots := #[.int (-121)], vm := .none },
  { cls := 10, slots := #[.int (-120)], vm := .none },
  { cls := 10, slots := #[.int (-119)], vm := .none },
  { cls := 10, slots := #[.int (-118)], vm := .none },
  { cls := 10, slots := #[.int (-117)], vm := .none },
  { cls := 10, slots := #[.int (-116)], vm := .none },
  { cls := 10, slots := #[.int (-115)], vm := .none },
  { cls := 10, slots := #[.int (-114)], vm := .none },
  { cls := 10, slots := #[.int (-113)], vm := .none },
  { cls := 10, slots := #[.int (-112)], vm := .none },
  { cls := 10, slots := #[.int (-111)], vm := .none },
  { cls := 10, slots := #[.int (-110)], vm := .none },
  { cls := 10, slots := #[.int (-109)], vm := .none },
  { cls := 10, slots := #[.int (-108)], vm := .none },
  { cls := 10, slots := #[.int (-107)], vm := .none },
  { cls := 10, slots := #[.int (-106)], vm := .none },
  { cls := 10, slots := #[.int (-105)], vm := .none },
  { cls := 10, slots := #[.int (-104)], vm := .none },
  { cls := 10, slots := #[.int (-103)], vm := .none },
  { cls := 10, slots := #[.int (-102)], vm := .none },
  { cls := 10, slots := #[.int (-101)], vm := .none },
  { cls := 10, slots := #[.int (-100)], vm := .none },
  { cls := 10, slots := #[.int (-99)], vm := .none },
  { cls := 10, slots := #[.int (-98)], vm := .none },
  { cls := 10, slots := #[.int (-97)], vm := .none },
  { cls := 10, slots := #[.int (-96)], vm := .none },
  { cls := 10, slots := #[.int (-95)], vm := .none },
  { cls := 10, slots := #[.int (-94)], vm := .none },
  { cls := 10, slots := #[.int (-93)], vm := .none },
  { cls := 10, slots := #[.int (-92)], vm := .none },
  { cls := 10, slots := #[.int (-91)], vm := .none },
  { cls := 10, slots := #[.int (-90)], vm := .none },
  { cls := 10, slots := #[.int (-89)], vm := .none },
  { cls := 10, slots := #[.int (-88)], vm := .none },
  { cls := 10, slots := #[.int (-87)], vm := .none },
  { cls := 10, slots := #[.int (-86)], vm := .none },
  { cls := 10, slots := #[.int (-85)], vm := .none },
  { cls := 10, slots := #[.int (-84)], vm := .none },
  { cls := 10, slots := #[.int (-83)], vm := .none },
  { cls := 10, slots := #[.int (-82)], vm := .none },
  { cls := 10, slots := #[.int (-81)], vm := .none },
  { cls := 10, slots := #[.int (-80)], vm := .none },
  { cls := 10, slots := #[.int (-79)], vm := .none },
  { cls := 10, slots := #[.int (-78)], vm := .none },
  { cls := 10, slots := #[.int (-77)], vm := .none },
  { cls := 10, slots := #[.int (-76)], vm := .none },
  { cls := 10, slots := #[.int (-75)], vm := .none },
  { cls := 10, slots := #[.int (-74)], vm := .none },
  { cls := 10, slots := #[.int (-73)], vm := .none },
  { cls := 10, slots := #[.int (-72)], vm := .none },
  { cls := 10, slots := #[.int (-71)], vm := .none },
  { cls := 10, slots := #[.int (-70)], vm := .none },
  { cls := 10, slots := #[.int (-69)], vm := .none },
  { cls := 10, slots := #[.int (-68)], vm := .none },
  { cls := 10, slots := #[.int (-67)], vm := .none },
  { cls := 10, slots := #[.int (-66)], vm := .none },
  { cls := 10, slots := #[.int (-65)], vm := .none },
  { cls := 10, slots := #[.int (-64)], vm := .none },
  { cls := 10, slots := #[.int (-63)], vm := .none },
  { cls := 10, slots := #[.int (-62)], vm := .none },
  { cls := 10, slots := #[.int (-61)], vm := .none },
  { cls := 10, slots := #[.int (-60)], vm := .none },
  { cls := 10, slots := #[.int (-59)], vm := .none },
  { cls := 10, slots := #[.int (-58)], vm := .none },
  { cls := 10, slots := #[.int (-57)], vm := .none },
  { cls := 10, slots := #[.int (-56)], vm := .none },
  { cls := 10, slots := #[.int (-55)], vm := .none },
  { cls := 10, slots := #[.int (-54)], vm := .none },
  { cls := 10, slots := #[.int (-53)], vm := .none },
  { cls := 10, slots := #[.int (-52)], vm := .none },
  { cls := 10, slots := #[.int (-51)], vm := .none },
  { cls := 10, slots := #[.int (-50)], vm := .none },
  { cls := 10, slots := #[.int (-49)], vm := .none },
  { cls := 10, slots := #[.int (-48)], vm := .none },
  { cls := 10, slots := #[.int (-47)], vm := .none },
  { cls := 10, slots := #[.int (-46)], vm := .none },
  { cls := 10, slots := #[.int (-45)], vm := .none },
  { cls := 10, slots := #[.int (-44)], vm := .none },
  { cls := 10, slots := #[.int (-43)], vm := .none },
  { cls := 10, slots := #[.int (-42)], vm := .none },
  { cls := 10, slots := #[.int (-41)], vm := .none },
  { cls := 10, slots := #[.int (-40)], vm := .none },
  { cls := 10, slots := #[.int (-39)], vm := .none },
  { cls := 10, slots := #[.int (-38)], vm := .none },
  { cls := 10, slots := #[.int (-37)], vm := .none },
  { cls := 10, slots := #[.int (-36)], vm := .none },
  { cls := 10, slots := #[.int (-35)], vm := .none },
  { cls := 10, slots := #[.int (-34)], vm := .none },
  { cls := 10, slots := #[.int (-33)], vm := .none },
  { cls := 10, slots := #[.int (-32)], vm := .none },
  { cls := 10, slots := #[.int (-31)], vm := .none },
  { cls := 10, slots := #[.int (-30)], vm := .none },
  { cls := 10, slots := #[.int (-29)], vm := .none },
  { cls := 10, slots := #[.int (-28)], vm := .none },
  { cls := 10, slots := #[.int (-27)], vm := .none },
  { cls := 10, slots := #[.int (-26)], vm := .none },
  { cls := 10, slots := #[.int (-25)], vm := .none },
  { cls := 10, slots := #[.int (-24)], vm := .none },
  { cls := 10, slots := #[.int (-23)], vm := .none },
  { cls := 10, slots := #[.int (-22)], vm := .none },
  { cls := 10, slots := #[.int (-21)], vm := .none },
  { cls := 10, slots := #[.int (-20)], vm := .none },
  { cls := 10, slots := #[.int (-19)], vm := .none },
  { cls := 10, slots := #[.int (-18)], vm := .none },
  { cls := 10, slots := #[.int (-17)], vm := .none },
  { cls := 10, slots := #[.int (-16)], vm := .none },
  { cls := 10, slots := #[.int (-15)], vm := .none },
  { cls := 10, slots := #[.int (-14)], vm := .none },
  { cls := 10, slots := #[.int (-13)], vm := .none },
  { cls := 10, slots := #[.int (-12)], vm := .none },
  { cls := 10, slots := #[.int (-11)], vm := .none },
  { cls := 10, slots := #[.int (-10)], vm := .none },
  { cls := 10, slots := #[.int (-9)], vm := .none },
  { cls := 10, slots := #[.int (-8)], vm := .none },
  { cls := 10, slots := #[.int (-7)], vm := .none },
  { cls := 10, slots := #[.int (-6)], vm := .none },
  { cls := 10, slots := #[.int (-5)], vm := .none },
  { cls := 10, slots := #[.int (-4)], vm := .none },
  { cls := 10, slots := #[.int (-3)], vm := .none },
  { cls := 10, slots := #[.int (-2)], vm := .none },
  { cls := 10, slots := #[.int (-1)], vm := .none },
  { cls := 10, slots := #[.int (0)], vm := .none },
  { cls := 10, slots := #[.int (1)], vm := .none },
  { cls := 10, slots := #[.int (2)], vm := .none },
  { cls := 10, slots := #[.int (3)], vm := .none },
  { cls := 10, slots := #[.int (4)], vm := .none },
  { cls := 10, slots := #[.int (5)], vm := .none },
  { cls := 10, slots := #[.int (6)], vm := .none },
  { cls := 10, slots := #[.int (7)], vm := .none },
  { cls := 10, slots := #[.int (8)], vm := .none },
  { cls := 10, slots := #[.int (9)], vm := .none },
  { cls := 10, slots := #[.int (10)], vm := .none },
  { cls := 10, slots := #[.int (11)], vm := .none },
  { cls := 10, slots := #[.int (12)], vm := .none },
  { cls := 10, slots := #[.int (13)], vm := .none },
  { cls := 10, slots := #[.int (14)], vm := .none },
  { cls := 10, slots := #[.int (15)], vm := .none },
  { cls := 10, slots := #[.int (16)], vm := .none },
  { cls := 10, slots := #[.int (17)], vm := .none },
  { cls := 10, slots := #[.int (18)], vm := .none },
  { cls := 10, slots := #[.int (19)], vm := .none },
  { cls := 10, slots := #[.int (20)], vm := .none },
  { cls := 10, slots := #[.int (21)], vm := .none },
  { cls := 10, slots := #[.int (22)], vm := .none },
  { cls := 10, slots := #[.int (23)], vm := .none },
  { cls := 10, slots := #[.int (24)], vm := .none },
  { cls := 10, slots := #[.int (25)], vm := .none },
  { cls := 10, slots := #[.int (26)], vm := .none },
  { cls := 10, slots := #[.int (27)], vm := .none },
  { cls := 10, slots := #[.int (28)], vm := .none },
  { cls := 10, slots := #[.int (29)], vm := .none },
  { cls := 10, slots := #[.int (30)], vm := .none },
  { cls := 10, slots := #[.int (31)], vm := .none },
  { cls := 10, slots := #[.int (32)], vm := .none },
  { cls := 10, slots := #[.int (33)], vm := .none },
  { cls := 10, slots := #[.int (34)], vm := .none },
  { cls := 10, slots := #[.int (35)], vm := .none },
  { cls := 10, slots := #[.int (36)], vm := .none },
  { cls := 10, slots := #[.int (37)], vm := .none },
  { cls := 10, slots := #[.int (38)], vm := .none },
  { cls := 10, slots := #[.int (39)], vm := .none },
  { cls := 10, slots := #[.int (40)], vm := .none },
  { cls := 10, slots := #[.int (41)], vm := .none },
  { cls := 10, slots := #[.int (42)], vm := .none },
  { cls := 10, slots := #[.int (43)], vm := .none },
  { cls := 10, slots := #[.int (44)], vm := .none },
  { cls := 10, slots := #[.int (45)], vm := .none },
  { cls := 10, slots := #[.int (46)], vm := .none },
  { cls := 10, slots := #[.int (47)], vm := .none },
  { cls := 10, slots := #[.int (48)], vm := .none },
  { cls := 10, slots := #[.int (49)], vm := .none },
  { cls := 10, slots := #[.int (50)], vm := .none },
  { cls := 10, slots := #[.int (51)], vm := .none },
  { cls := 10, slots := #[.int (52)], vm := .none },
  { cls := 10, slots := #[.int (53)], vm := .none },
  { cls := 10, slots := #[.int (54)], vm := .none },
  { cls := 10, slots := #[.int (55)], vm := .none },
  { cls := 10, slots := #[.int (56)], vm := .none },
  { cls := 10, slots := #[.int (57)], vm := .none },
  { cls := 10, slots := #[.int (58)], vm := .none },
  { cls := 10, slots := #[.int (59)], vm := .none },
  { cls := 10, slots := #[.int (60)], vm := .none },
  { cls := 10, slots := #[.int (61)], vm := .none },
  { cls := 10, slots := #[.int (62)], vm := .none },
  { cls := 10, slots := #[.int (63)], vm := .none },
  { cls := 10, slots := #[.int (64)], vm := .none },
  { cls := 10, slots := #[.int (65)], vm := .none },
  { cls := 10, slots := #[.int (66)], vm := .none },
  { cls := 10, slots := #[.int (67)], vm := .none },
  { cls := 10, slots := #[.int (68)], vm := .none },
  { cls := 10, slots := #[.int (69)], vm := .none },
  { cls := 10, slots := #[.int (70)], vm := .none },
  { cls := 10, slots := #[.int (71)], vm := .none },
  { cls := 10, slots := #[.int (72)], vm := .none },
  { cls := 10, slots := #[.int (73)], vm := .none },
  { cls := 10, slots := #[.int (74)], vm := .none },
  { cls := 10, slots := #[.int (75)], vm := .none },
  { cls := 10, slots := #[.int (76)], vm := .none },
  { cls := 10, slots := #[.int (77)], vm := .none },
  { cls := 10, slots := #[.int (78)], vm := .none },
  { cls := 10, slots := #[.int (79)], vm := .none },
  { cls := 10, slots := #[.int (80)], vm := .none },
  { cls := 10, slots := #[.int (81)], vm := .none },
  { cls := 10, slots := #[.int (82)], vm := .none },
  { cls := 10, slots := #[.int (83)], vm := .none },
  { cls := 10, slots := #[.int (84)], vm := .none },
  { cls := 10, slots := #[.int (85)], vm := .none },
  { cls := 10, slots := #[.int (86)], vm := .none },
  { cls := 10, slots := #[.int (87)], vm := .none },
  { cls := 10, slots := #[.int (88)], vm := .none },
  { cls := 10, slots := #[.int (89)], vm := .none },
  { cls := 10, slots := #[.int (90)], vm := .none },
  { cls := 10, slots := #[.int (91)], vm := .none },
  { cls := 10, slots := #[.int (92)], vm := .none },
  { cls := 10, slots := #[.int (93)], vm := .none },
  { cls := 10, slots := #[.int (94)], vm := .none },
  { cls := 10, slots := #[.int (95)], vm := .none },
  { cls := 10, slots := #[.int (96)], vm := .none },
  { cls := 10, slots := #[.int (97)], vm := .none },
  { cls := 10, slots := #[.int (98)], vm := .none },
  { cls := 10, slots := #[.int (99)], vm := .none },
  { cls := 10, slots := #[.int (100)], vm := .none },
  { cls := 10, slots := #[.int (101)], vm := .none },
  { cls := 10, slots := #[.int (102)], vm := .none },
  { cls := 10, slots := #[.int (103)], vm := .none },
  { cls := 10, slots := #[.int (104)], vm := .none },
  { cls := 10, slots := #[.int (105)], vm := .none },
  { cls := 10, slots := #[.int (106)], vm := .none },
  { cls := 10, slots := #[.int (107)], vm := .none },
  { cls := 10, slots := #[.int (108)], vm := .none },
  { cls := 10, slots := #[.int (109)], vm := .none },
  { cls := 10, slots := #[.int (110)], vm := .none },
  { cls := 10, slots := #[.int (111)], vm := .none },
  { cls := 10, slots := #[.int (112)], vm := .none },
  { cls := 10, slots := #[.int (113)], vm := .none },
  { cls := 10, slots := #[.int (114)], vm := .none },
  { cls := 10, slots := #[.int (115)], vm := .none },
  { cls := 10, slots := #[.int (116)], vm := .none },
  { cls := 10, slots := #[.int (117)], vm := .none },
  { cls := 10, slots := #[.int (118)], vm := .none },
  { cls := 10, slots := #[.int (119)], vm := .none },
  { cls := 10, slots := #[.int (120)], vm := .none },
  { cls := 10, slots := #[.int (121)], vm := .none },
  { cls := 10, slots := #[.int (122)], vm := .none },
  { cls := 10, slots := #[.int (123)], vm := .none },
  { cls := 10, slots := #[.int (124)], vm := .none },
  { cls := 10, slots := #[.int (125)], vm := .none },
  { cls := 10, slots := #[.int (126)], vm := .none },
  { cls := 10, slots := #[.int (127)], vm := .none }]
def classes : Array Class := #[k0, k1, k2, k3, k4, k5, k6, k7, k8, k9, k10, k11, k12, k13, k14, k15, k16, k17]
def interned : List (Array UInt16 × Addr) := []
def slotsUsed : Nat := 517
def theMethod : MethodId := ⟨1, 4⟩
def args0 : Array Value := #[.long 5, .long 6, .long 7, .long 9, .int 1]
def aboutOver (below : List Frame) : State where
  vm := { classes := classes, interned := interned.toArray }
  heap := heap
  slotsUsed := slotsUsed
  threads := #[{ frames := .invoking theMethod args0 :: below }]
def below0 : List Frame := [.native { method := ⟨0, 0⟩, args := #[] }]
def about1 : State := aboutOver below0
def p0 : Program := .bare "" "" ""
def e0 : Env := launch0.env 0 0 0
theorem w_frames : about1.frames = Frame.invoking theMethod args0 :: below0 := rfl
set_option maxRecDepth 65536 in
theorem w_args : argsFit about1.vm theMethod args0 = true := by decide +kernel
set_option maxRecDepth 65536 in
theorem w_heap : heapFits about1 = true := by decide +kernel
set_option maxRecDepth 65536 in
theorem w_runnable : about1.curStatus? = some .runnable := by decide +kernel
set_option maxRecDepth 65536 in
theorem w_alone : about1.alone = true := by decide +kernel
set_option maxRecDepth 65536 in
theorem w_named : about1.methodNamed? x = some theMethod := by decide +kernel
set_option maxRecDepth 65536 in
theorem w_hears : about1.hears theMethod below0 = true := by decide +kernel
set_option maxRecDepth 65536 in
theorem w_ripe : about1.ripe theMethod args0 below0 = true := by decide +kernel
theorem w_running : about1.status = .running := rfl
set_option maxRecDepth 65536 in
theorem w_room : about1.hasRoom e0.platform room_1 = true :=
  launch0.hasRoom_least _ room_1 (by decide +kernel) (by decide +kernel) (by decide +kernel) (by decide +kernel) (by decide +kernel) (by decide +kernel)
theorem allAtoms_all (ts : List Jvm.Cond) (a : Array Jvm.Value) (st : Jvm.State) : (allAtoms ts).before a st = ts.all (fun c => c.before a st) := by
  induction ts with
  | nil => rfl
  | cons c t ih =>
    show (Jvm.Cond.and c (allAtoms t)).before a st = _
    rw [Jvm.Cond.before_and, ih, List.all_cons]
def words1 : List Jvm.Cond := Jvm.Cond.code x code maxLocals ret :: tables_1
/-- a 'code' word, met by the world's own term for the bytes: nothing is compared byte by byte -/
theorem code_word {y : MethodName} {bytes : ByteArray} {mx : Nat} {rt : Option FieldType} {a : Array Value} {s : State} {m : MethodId} {meth : Method} {c : Code} (h1 : s.methodNamed? y = some m) (h2 : s.vm.method? m = some meth) (h3 : meth.code = some c) (h4 : c.code = bytes)
    (h5 : (c.maxLocals == mx && c.exceptionTable.isEmpty && decide (c.maxStack ≤ mostOperands) && decide (meth.sig.returnType = rt) && !meth.locks && decide (parseMethodDescriptor y.desc = some meth.sig)) = true) : (Jvm.Cond.code y bytes mx rt).before a s = true := by
  simp only [Bool.and_eq_true, beq_iff_eq, Bool.not_eq_true', decide_eq_true_eq] at h5
  obtain ⟨⟨⟨⟨⟨g1, g2⟩, g3⟩, g4⟩, g5⟩, g6⟩ := h5
  simp [Cond.before, Cond.holds, Cond.value, h1, h2, h3, h4, g1, g2, g3, g4, g5, g6]
def isCode : Jvm.Cond → Bool
  | .code _ _ _ _ => true
  | _ => false
theorem all_split {L : List Jvm.Cond} {P : Jvm.Cond → Bool} (h1 : L.all (fun c => isCode c || P c) = true) (h2 : ∀ c ∈ L.filter isCode, P c = true) : L.all P = true := by
  refine List.all_eq_true.mpr fun c hc => ?_
  have h := List.all_eq_true.mp h1 c hc
  rcases Bool.eq_false_or_eq_true (isCode c) with hi | hi
  · exact h2 c (List.mem_filter.mpr ⟨hc, hi⟩)
  · simpa [hi] using h
set_option maxRecDepth 65536 in
theorem w_c0 : (Jvm.Cond.code x code maxLocals ret).before args0 about1 = true := code_word (m := ⟨1, 4⟩) (meth := k1m4) (c := k1c4) (by decide +kernel) rfl rfl rfl (by decide +kernel)
set_option maxRecDepth 65536 in
theorem w_c1 : (Jvm.Cond.code ({ cls := "com/example/khonsu/khonsu/trajectory/TrajectoryRowEqualsPinLaw", name := "coord", desc := "(I)D" } : Jvm.MethodName) method_2_code (2 : Nat) (Option.some Jvm.ClassFile.FieldType.double)).before args0 about1 = true := code_word (m := ⟨1, 1⟩) (meth := k1m1) (c := k1c1) (by decide +kernel) rfl rfl rfl (by decide +kernel)
set_option maxRecDepth 65536 in
theorem w_c2 : (Jvm.Cond.code ({ cls := "com/example/khonsu/khonsu/trajectory/TrajectoryRow", name := "<init>", desc := "(IIDD)V" } : Jvm.MethodName) prog_22_method_1_code (7 : Nat) (Option.none : Option Jvm.ClassFile.FieldType)).before args0 about1 = true := code_word (m := ⟨2, 0⟩) (meth := k2m0) (c := k2c0) (by decide +kernel) rfl rfl rfl (by decide +kernel)
set_option maxRecDepth 65536 in
theorem w_c3 : (Jvm.Cond.code ({ cls := "java/lang/Object", name := "<init>", desc := "()V" } : Jvm.MethodName) object_method_1_code (1 : Nat) (Option.none : Option Jvm.ClassFile.FieldType)).before args0 about1 = true := code_word (m := ⟨0, 0⟩) (meth := k0m0) (c := k0c0) (by decide +kernel) rfl rfl rfl (by decide +kernel)
set_option maxRecDepth 65536 in
theorem w_c4 : (Jvm.Cond.code ({ cls := "java/lang/Double", name := "isFinite", desc := "(D)Z" } : Jvm.MethodName) jdk_117_method_8_code (2 : Nat) (Option.some Jvm.ClassFile.FieldType.boolean)).before args0 about1 = true := code_word (m := ⟨8, 1⟩) (meth := k8m1) (c := k8c1) (by decide +kernel) rfl rfl rfl (by decide +kernel)
set_option maxRecDepth 65536 in
theorem w_c5 : (Jvm.Cond.code ({ cls := "java/lang/Math", name := "abs", desc := "(D)D" } : Jvm.MethodName) jdk_29_method_64_code (2 : Nat) (Option.some Jvm.ClassFile.FieldType.double)).before args0 about1 = true := code_word (m := ⟨9, 1⟩) (meth := k9m1) (c := k9c1) (by decide +kernel) rfl rfl rfl (by decide +kernel)
set_option maxRecDepth 65536 in
theorem w_c6 : (Jvm.Cond.code ({ cls := "com/example/khonsu/khonsu/trajectory/TrajectoryRow", name := "equals", desc := "(Ljava/lang/Object;)Z" } : Jvm.MethodName) prog_22_method_6_code (3 : Nat) (Option.some Jvm.ClassFile.FieldType.boolean)).before args0 about1 = true := code_word (m := ⟨2, 1⟩) (meth := k2m1) (c := k2c1) (by decide +kernel) rfl rfl rfl (by decide +kernel)
set_option maxRecDepth 65536 in
theorem w_c7 : (Jvm.Cond.code ({ cls := "java/lang/Double", name := "compare", desc := "(DD)I" } : Jvm.MethodName) jdk_117_method_27_code (8 : Nat) (Option.some Jvm.ClassFile.FieldType.int)).before args0 about1 = true := code_word (m := ⟨8, 4⟩) (meth := k8m4) (c := k8c4) (by decide +kernel) rfl rfl rfl (by decide +kernel)
set_option maxRecDepth 65536 in
theorem w_c8 : (Jvm.Cond.code ({ cls := "java/lang/Double", name := "doubleToLongBits", desc := "(D)J" } : Jvm.MethodName) jdk_117_method_23_code (2 : Nat) (Option.some Jvm.ClassFile.FieldType.long)).before args0 about1 = true := code_word (m := ⟨8, 2⟩) (meth := k8m2) (c := k8c2) (by decide +kernel) rfl rfl rfl (by decide +kernel)
set_option maxRecDepth 65536 in
theorem w_c9 : (Jvm.Cond.code ({ cls := "java/lang/Double", name := "isNaN", desc := "(D)Z" } : Jvm.MethodName) jdk_117_method_6_code (2 : Nat) (Option.some Jvm.ClassFile.FieldType.boolean)).before args0 about1 = true := code_word (m := ⟨8, 0⟩) (meth := k8m0) (c := k8c0) (by decide +kernel) rfl rfl rfl (by decide +kernel)
set_option maxRecDepth 65536 in
theorem w_c10 : (Jvm.Cond.code ({ cls := "java/lang/Integer", name := "valueOf", desc := "(I)Ljava/lang/Integer;" } : Jvm.MethodName) jdk_33_method_22_code (1 : Nat) (Option.some (Jvm.ClassFile.FieldType.object "java/lang/Integer"))).before args0 about1 = true := code_word (m := ⟨10, 0⟩) (meth := k10m0) (c := k10c0) (by decide +kernel) rfl rfl rfl (by decide +kernel)
set_option maxRecDepth 65536 in
theorem w_c11 : (Jvm.Cond.code ({ cls := "java/lang/Integer", name := "<init>", desc := "(I)V" } : Jvm.MethodName) jdk_33_method_23_code (2 : Nat) (Option.none : Option Jvm.ClassFile.FieldType)).before args0 about1 = true := code_word (m := ⟨10, 1⟩) (meth := k10m1) (c := k10c1) (by decide +kernel) rfl rfl rfl (by decide +kernel)
set_option maxRecDepth 65536 in
theorem w_c12 : (Jvm.Cond.code ({ cls := "java/lang/Number", name := "<init>", desc := "()V" } : Jvm.MethodName) jdk_18_method_1_code (1 : Nat) (Option.none : Option Jvm.ClassFile.FieldType)).before args0 about1 = true := code_word (m := ⟨4, 0⟩) (meth := k4m0) (c := k4c0) (by decide +kernel) rfl rfl rfl (by decide +kernel)
set_option maxRecDepth 65536 in
theorem w_c13 : (Jvm.Cond.code ({ cls := "com/example/khonsu/khonsu/trajectory/TrajectoryRowEqualsPinLaw", name := "sameCoord", desc := "(II)Z" } : Jvm.MethodName) method_4_code (6 : Nat) (Option.some Jvm.ClassFile.FieldType.boolean)).before args0 about1 = true := code_word (m := ⟨1, 3⟩) (meth := k1m3) (c := k1c3) (by decide +kernel) rfl rfl rfl (by decide +kernel)
set_option maxRecDepth 65536 in
theorem w_c14 : (Jvm.Cond.code ({ cls := "com/example/khonsu/khonsu/trajectory/TrajectoryRowEqualsPinLaw", name := "value", desc := "(I)J" } : Jvm.MethodName) method_3_code (3 : Nat) (Option.some Jvm.ClassFile.FieldType.long)).before args0 about1 = true := code_word (m := ⟨1, 2⟩) (meth := k1m2) (c := k1c2) (by decide +kernel) rfl rfl rfl (by decide +kernel)
def codes1 : List Jvm.Cond := [Jvm.Cond.code x code maxLocals ret, Jvm.Cond.code ({ cls := "com/example/khonsu/khonsu/trajectory/TrajectoryRowEqualsPinLaw", name := "coord", desc := "(I)D" } : Jvm.MethodName) method_2_code (2 : Nat) (Option.some Jvm.ClassFile.FieldType.double), Jvm.Cond.code ({ cls := "com/example/khonsu/khonsu/trajectory/TrajectoryRow", name := "<init>", desc := "(IIDD)V" } : Jvm.MethodName) prog_22_method_1_code (7 : Nat) (Option.none : Option Jvm.ClassFile.FieldType), Jvm.Cond.code ({ cls := "java/lang/Object", name := "<init>", desc := "()V" } : Jvm.MethodName) object_method_1_code (1 : Nat) (Option.none : Option Jvm.ClassFile.FieldType), Jvm.Cond.code ({ cls := "java/lang/Double", name := "isFinite", desc := "(D)Z" } : Jvm.MethodName) jdk_117_method_8_code (2 : Nat) (Option.some Jvm.ClassFile.FieldType.boolean), Jvm.Cond.code ({ cls := "java/lang/Math", name := "abs", desc := "(D)D" } : Jvm.MethodName) jdk_29_method_64_code (2 : Nat) (Option.some Jvm.ClassFile.FieldType.double), Jvm.Cond.code ({ cls := "com/example/khonsu/khonsu/trajectory/TrajectoryRow", name := "equals", desc := "(Ljava/lang/Object;)Z" } : Jvm.MethodName) prog_22_method_6_code (3 : Nat) (Option.some Jvm.ClassFile.FieldType.boolean), Jvm.Cond.code ({ cls := "java/lang/Double", name := "compare", desc := "(DD)I" } : Jvm.MethodName) jdk_117_method_27_code (8 : Nat) (Option.some Jvm.ClassFile.FieldType.int), Jvm.Cond.code ({ cls := "java/lang/Double", name := "doubleToLongBits", desc := "(D)J" } : Jvm.MethodName) jdk_117_method_23_code (2 : Nat) (Option.some Jvm.ClassFile.FieldType.long), Jvm.Cond.code ({ cls := "java/lang/Double", name := "isNaN", desc := "(D)Z" } : Jvm.MethodName) jdk_117_method_6_code (2 : Nat) (Option.some Jvm.ClassFile.FieldType.boolean), Jvm.Cond.code ({ cls := "java/lang/Integer", name := "valueOf", desc := "(I)Ljava/lang/Integer;" } : Jvm.MethodName) jdk_33_method_22_code (1 : Nat) (Option.some (Jvm.ClassFile.FieldType.object "java/lang/Integer")), Jvm.Cond.code ({ cls := "java/lang/Integer", name := "<init>", desc := "(I)V" } : Jvm.MethodName) jdk_33_method_23_code (2 : Nat) (Option.none : Option Jvm.ClassFile.FieldType), Jvm.Cond.code ({ cls := "java/lang/Number", name := "<init>", desc := "()V" } : Jvm.MethodName) jdk_18_method_1_code (1 : Nat) (Option.none : Option Jvm.ClassFile.FieldType), Jvm.Cond.code ({ cls := "com/example/khonsu/khonsu/trajectory/TrajectoryRowEqualsPinLaw", name := "sameCoord", desc := "(II)Z" } : Jvm.MethodName) method_4_code (6 : Nat) (Option.some Jvm.ClassFile.FieldType.boolean), Jvm.Cond.code ({ cls := "com/example/khonsu/khonsu/trajectory/TrajectoryRowEqualsPinLaw", name := "value", desc := "(I)J" } : Jvm.MethodName) method_3_code (3 : Nat) (Option.some Jvm.ClassFile.FieldType.long)]
set_option maxRecDepth 65536 in
theorem codes_eq : words1.filter isCode = codes1 := rfl
theorem w_codes : ∀ c ∈ words1.filter isCode, c.before args0 about1 = true := by
  rw [codes_eq]
  intro c hc
  simp only [codes1, List.mem_cons, List.not_mem_nil, or_false] at hc
  rcases hc with rfl | rfl | rfl | rfl | rfl | rfl | rfl | rfl | rfl | rfl | rfl | rfl | rfl | rfl | rfl
  · exact w_c0
  · exact w_c1
  · exact w_c2
  · exact w_c3
  · exact w_c4
  · exact w_c5
  · exact w_c6
  · exact w_c7
  · exact w_c8
  · exact w_c9
  · exact w_c10
  · exact w_c11
  · exact w_c12
  · exact w_c13
  · exact w_c14
set_option maxRecDepth 65536 in
theorem w_t1 : (words1.take 24).all (fun c => isCode c || c.before args0 about1) = true := by decide +kernel
set_option maxRecDepth 65536 in
theorem w_t2 : ((words1.drop 24).take 24).all (fun c => isCode c || c.before args0 about1) = true := by decide +kernel
set_option maxRecDepth 65536 in
theorem w_t3 : (((words1.drop 24).drop 24).take 24).all (fun c => isCode c || c.before args0 about1) = true := by decide +kernel
set_option maxRecDepth 65536 in
theorem w_t4 : (((words1.drop 24).drop 24).drop 24).all (fun c => isCode c || c.before args0 about1) = true := by decide +kernel
theorem w_tables : (allAtoms (Jvm.Cond.code x code maxLocals ret :: tables_1)).before args0 about1 = true := by
  rw [allAtoms_all]
  show words1.all (fun c => c.before args0 about1) = true
  refine all_split ?_ w_codes
  rw [← List.take_append_drop 24 words1, List.all_append, w_t1, ← List.take_append_drop 24 (words1.drop 24), List.all_append, w_t2, ← List.take_append_drop 24 ((words1.drop 24).drop 24), List.all_append, w_t3, w_t4]
  rfl
set_option maxRecDepth 65536 in
theorem w_rest : rest_1_c.before args0 about1 = true := by decide +kernel
set_option maxRecDepth 65536 in
theorem w_case : (Jvm.Cond.and given_1 narrow_1).before args0 about1 = true := by decide +kernel
theorem w_applies : (headSpec (Jvm.Cond.code x code maxLocals ret :: tables_1) room_1).applies x e0.platform about1 = true :=
  (Spec.applies_iff w_frames).mpr ⟨w_running, w_runnable, w_alone, w_named, w_hears, w_ripe, w_room, w_tables⟩
theorem atStart : AtStart classFile x code maxLocals ret World_1 tables_1 room_1 Calls_1 rest_1 Pre_1 launch0 p0 e0 about1 theMethod args0 below0 :=
  ⟨lists_1, trivial, launch0.admits_env _ _ _, launch0.least_env, fairChoices_fair.cas, fairChoices_fair.clock, w_frames, w_args, w_heap, w_applies, trivial, w_rest, w_case⟩
end start1
theorem witness_1 : WitnessClaimed_1 := ⟨start1.p0, start1.e0, start1.about1, start1.theMethod, start1.args0, start1.below0, start1.atStart⟩
end Jvm.Pilot.@@N@@
