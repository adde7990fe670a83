import JvmDerived
import JvmDerived.Pilot.@@N@@Statement
import JvmDerived.Pilot.@@N@@Code
set_option linter.unusedVariables false
set_option linter.unusedSimpArgs false
@@BLOCK:NumsL.lean.txt@@
namespace Jvm.RoadKit
open Sem ClassFile Op Lib Jvm.Stand Jvm.Free Jvm.LawKit
section New
variable {p : Program} {l : Launch} {e : Env} {R : Room} {s : State} {m : MethodId} {args : Array Value} {below : List Frame} {meth : Method} {c : Code} {T : State} {locs : List Loc} {cells slots : Nat}
theorem retI (X : Stand p l e R s m args below meth c T locs cells slots) (hx : p.tables.exec = Jvm.exec) {pc : Nat} {Ls : Array Slot} {z : Int32} {rest : List Value} (hret : meth.sig.returnType = some .int) (hd : decode c.code pc = .ok (.ireturn, 1)) {fs : List Frame}
    (hl : ∀ (f : JFrame) (acts : List Action), f.method = m → f.locked = none → f.entered = [] → (doReturn e (T.setTop f) acts (some (.int z))).1 = T.setFrames fs) : Steps p.tables e below (T.setTop (mkF m pc Ls (.int z :: rest))) (T.setFrames fs) := by
  have hm' : T.vm.method? m = some meth := X.method'
  have hn : narrow .int (.int z) = .int z := rfl
  show Steps p.tables e below (T.setTop { method := m, pc := pc, locals := Ls, stack := _ :: rest, locked := none }) _
  jvm_step X.here [X.here.top, hx, hd, hm', hret, hn]
  first | (intro acts; rw [hl _ acts rfl rfl rfl]) | rw [hl _ _ rfl rfl rfl]
  exact Steps.refl _
theorem own_retD (X : Stand p l e R s m args below meth c T locs cells slots) (hx : p.tables.exec = Jvm.exec) {pc : Nat} {Ls : Array Slot} {z : UInt64} {rest : List Value} (hret : meth.sig.returnType = some .double) (hd : decode c.code pc = .ok (.dreturn, 1)) {fs : List Frame}
    (hl : ∀ (f : JFrame) (acts : List Action), f.method = m → f.locked = none → f.entered = [] → (doReturn e (T.setTop f) acts (some (.double z))).1 = T.setFrames fs) : Steps p.tables e below (T.setTop (mkF m pc Ls (.double z :: rest))) (T.setFrames fs) := by
  have hm' : T.vm.method? m = some meth := X.method'
  have hn : narrow .double (.double z) = .double z := rfl
  show Steps p.tables e below (T.setTop { method := m, pc := pc, locals := Ls, stack := _ :: rest, locked := none }) _
  jvm_step X.here [X.here.top, hx, hd, hm', hret, hn]
  first | (intro acts; rw [hl _ acts rfl rfl rfl]) | rw [hl _ _ rfl rfl rfl]
  exact Steps.refl _
theorem own_stand {L1 L2 : List Loc} {c1 c2 n1 n2 : Nat} (X : Stand p l e R s m args below meth c T L1 c1 n1) (h1 : L1 = L2) (h2 : c1 = c2) (h3 : n1 = n2) : Stand p l e R s m args below meth c T L2 c2 n2 := by
  subst h1 h2 h3
  exact X
theorem own_ldc2D {g : JFrame} {target : State} (X : Stand p l e R s m args below meth c T locs cells slots) (hx : p.tables.exec = Jvm.exec) {own : String} {index : Nat} {b : UInt64} (hown : s.vm.findClass own = some m.cls) (hc : (Cond.constantDouble own index b).before args s = true) (hg : g.method = m) (hd : decode c.code g.pc = .ok (.ldc2_w index, 3))
    (hr : Steps p.tables e below (T.setTop { g with pc := g.pc + 3, stack := .double b :: g.stack }) target) : Steps p.tables e below (T.setTop g) target := X.ldc2DoubleC hx hown hc hg hd target hr
end New
end Jvm.RoadKit
/- laws to paste: Road.backV (cut by pick.py; bodies as the Statement names them) -/
namespace Jvm.Pilot.@@N@@
namespace StrChars
open Jvm Sem ClassFile Op Lib Jvm.Stand Jvm.Free.XT Jvm.Free.ALB Jvm.Free.JM Jvm.Free
open Jvm.Lib.Cold (StaticIs)
/-- a char array whose places are chars -/
def Ch (a : Addr) (A : Cell) (U : State) : Prop := Arr .char a A U ∧ Typed .char A
theorem Ch.mv {a : Addr} {A : Cell} {U U' : State} (h : Ch a A U) (hal : U.vm.Alike U'.vm) (hh : U'.heap = U.heap) : Ch a A U' := ⟨h.1.mv hal hh, h.2⟩
theorem Ch.keep {a : Addr} {A : Cell} {U U' : State} (h : Ch a A U) (hal : U.vm.Alike U'.vm) (hk : U'.heap[a]? = some A) : Ch a A U' := ⟨h.1.keep hal hk, h.2⟩
/-- what place i of a char[]'s cell holds -/
def cv (A : Cell) (i : Nat) : Int32 := match A.slots[i]? with | some (.int x) => x | _ => 0
theorem Ch.get {a : Addr} {A : Cell} {U : State} (h : Ch a A U) {i : Nat} (hi : i < A.slots.size) : A.slots[i]? = some (.int (cv A i)) := by
  have e := Array.getElem?_eq_getElem hi
  have f := h.2 i _ e
  unfold cv; rw [e]
  generalize A.slots[i] = v at f
  cases v <;> simp [fits] at f ⊢
/-- the byte that i2b leaves of a char -/
def lo8 (x : Int32) : Int32 := x.toInt8.toInt32
theorem fits_lo8 (y : Int32) : fits .byte (.int (lo8 y)) = true := by
  have h1 := y.toInt8.le_toInt
  have h2 := y.toInt8.toInt_lt
  simp only [lo8, fits, Bool.and_eq_true, decide_eq_true_eq, Int32.le_iff_toInt_le, Int8.toInt_toInt32, show (-128 : Int32).toInt = -128 from by decide, show (127 : Int32).toInt = 127 from by decide]
  omega
/-- A' is A but that each place j of lo .. hi - 1 holds f j -/
def Laid (A A' : Cell) (lo hi : Nat) (f : Nat → Value) : Prop := A'.cls = A.cls ∧ A'.vm = A.vm ∧ A'.slots.size = A.slots.size ∧ ∀ i, A'.slots[i]? = if lo ≤ i ∧ i < hi then some (f i) else A.slots[i]?
theorem Laid.zero (A : Cell) (lo : Nat) (f : Nat → Value) : Laid A A lo (lo + 0) f := ⟨rfl, rfl, rfl, fun i => by rw [if_neg (by omega)]⟩
theorem Laid.step {A Ak : Cell} {lo k : Nat} {f : Nat → Value} {v : Value} (h : Laid A Ak lo k f) (hlo : lo ≤ k) (hk : k < Ak.slots.size) (hv : v = f k) : Laid A (Ak.setSlot k v) lo (k + 1) f := by
  refine ⟨h.1, h.2.1, by simpa [Cell.setSlot] using h.2.2.1, fun i => ?_⟩
  by_cases e : k = i
  · subst e; rw [Cell.slots_setSlot_self v hk, if_pos (by omega), hv]
  · rw [Cell.slots_setSlot_ne v e, h.2.2.2 i]
    by_cases q : lo ≤ i ∧ i < k
    · rw [if_pos q, if_pos (by omega)]
    · rw [if_neg q, if_neg (by omega)]
def U16 : String := "java/lang/StringUTF16"
namespace Cmp5
def yN : MethodName := ⟨"java/lang/StringUTF16", "compress", "([CI[BII)I"⟩
abbrev yB : ByteArray := jdk_52_method_21_code
theorem d0 : decode yB 0 = .ok (.iconst 0, 1) := by decide +kernel
theorem d1 : decode yB 1 = .ok (.istore 5, 2) := by decide +kernel
theorem d3 : decode yB 3 = .ok (.iload 5, 2) := by decide +kernel
theorem d5 : decode yB 5 = .ok (.iload 4, 2) := by decide +kernel
theorem d7 : decode yB 7 = .ok (.if_icmp (.ge) 37, 3) := by decide +kernel
theorem d10 : decode yB 10 = .ok (.aload_n 0, 1) := by decide +kernel
theorem d11 : decode yB 11 = .ok (.iload_n 1, 1) := by decide +kernel
theorem d12 : decode yB 12 = .ok (.caload, 1) := by decide +kernel
theorem d13 : decode yB 13 = .ok (.istore 6, 2) := by decide +kernel
theorem d15 : decode yB 15 = .ok (.iload 6, 2) := by decide +kernel
theorem d17 : decode yB 17 = .ok (.sipush 255, 3) := by decide +kernel
theorem d20 : decode yB 20 = .ok (.if_icmp (.le) 6, 3) := by decide +kernel
theorem d26 : decode yB 26 = .ok (.aload_n 2, 1) := by decide +kernel
theorem d27 : decode yB 27 = .ok (.iload_n 3, 1) := by decide +kernel
theorem d28 : decode yB 28 = .ok (.iload 6, 2) := by decide +kernel
theorem d30 : decode yB 30 = .ok (.i2b, 1) := by decide +kernel
theorem d31 : decode yB 31 = .ok (.bastore, 1) := by decide +kernel
theorem d32 : decode yB 32 = .ok (.iinc 1 1, 3) := by decide +kernel
theorem d35 : decode yB 35 = .ok (.iinc 3 1, 3) := by decide +kernel
theorem d38 : decode yB 38 = .ok (.iinc 5 1, 3) := by decide +kernel
theorem d41 : decode yB 41 = .ok (.goto (-38), 3) := by decide +kernel
theorem d44 : decode yB 44 = .ok (.iload 4, 2) := by decide +kernel
theorem d46 : decode yB 46 = .ok (.ireturn, 1) := by decide +kernel
def site : List Cond := []
def tab : Cond := tabOf yN yB 7 (some .int) site
def P (b : Addr) (A : Cell) (d : Addr) (B : Cell) (o q len : Nat) (args : Array Value) (s : State) : Prop := args = #[.ref b, .int (Int32.ofNat o), .ref d, .int (Int32.ofNat q), .int (Int32.ofNat len)] ∧ Ch b A s ∧ Arr .byte d B s ∧ b ≠ d ∧ o + len ≤ A.slots.size ∧ q + len ≤ B.slots.size ∧ ∀ i, i < len → ¬ 255 < cv A (o + i)
def E (b : Addr) (A : Cell) (d : Addr) (B : Cell) (o q len : Nat) (r : Option Value) (s u : State) : Prop := r = some (.int (Int32.ofNat len)) ∧ ∃ B', Put d B' s u ∧ Laid B B' q (q + len) (fun j => Value.int (lo8 (cv A (o + (j - q)))))
/-- no char of the range above 255: len; the places written hold each char's low byte -/
theorem law (l : Launch) (b : Addr) (A : Cell) (d : Addr) (B : Cell) (o q len : Nat) : Law l yN 5 5 0 0 yB 7 (some .int) site (P b A d B o q len) (E b A d B o q len) (copyLocs d q len) 0 0 := by
  refine Law.of_walk (plainFor_of_name (by decide +kernel)) (by decide +kernel) (by decide +kernel) (by decide) (fun _ _ h => by rw [h.1]; rfl) (fun _ U U' hal hh h => ⟨h.1, h.2.1.mv hal hh, h.2.2.1.mv hal hh, h.2.2.2⟩) (fun r U U' V V' h1 hal h2 h => ⟨h.1, h.2.elim fun B' q => ⟨B', q.1.mv h1 h2, q.2⟩⟩) ?_
  intro p e s m args below meth c s₁ X0 hexec hbytes hml hret hlk hnm hown hh0 W hP
  obtain ⟨rfl, hA, hB, hne, l1, l2, hp⟩ := hP
  have c1 : Steps p.tables e below (s₁.setTop (entryFrame m #[.ref b, .int (Int32.ofNat o), .ref d, .int (Int32.ofNat q), .int (Int32.ofNat len)] 7)) (s₁.setTop (mkF m 0 #[.val (.ref b), .val (.int (Int32.ofNat o)), .val (.ref d), .val (.int (Int32.ofNat q)), .val (.int (Int32.ofNat len)), .unset, .unset] [])) := entry rfl
  have hA0 := hA.1.mv X0.warmed.alike hh0
  have hB0 := hB.mv X0.warmed.alike hh0
  have a31 := hA.1.2.2.2
  have c2 : Steps p.tables e below (s₁.setTop (entryFrame m #[.ref b, .int (Int32.ofNat o), .ref d, .int (Int32.ofNat q), .int (Int32.ofNat len)] 7)) (s₁.setTop (mkF m 3 #[.val (.ref b), .val (.int (Int32.ofNat o)), .val (.ref d), .val (.int (Int32.ofNat q)), .val (.int (Int32.ofNat len)), .val (.int 0), .unset] [])) := c1.trans (by
    refine iconstV X0.here hexec rfl 0 (hb hbytes d0) (by decide) ?_
    refine XS.istore X0.here hexec rfl (hb hbytes d1) rfl rfl ?_
    exact Steps.refl _)
  have loop : ∀ (r i : Nat), i + r = len → ∀ (z : Slot), (z = .unset ∨ ∃ w, z = .val w ∧ w.category = 1) → ∀ (Tl : State) (Bk : Cell), Stand p l e { frames := 0, locals := 0, cells := 0, slots := 0 } s m #[.ref b, .int (Int32.ofNat o), .ref d, .int (Int32.ofNat q), .int (Int32.ofNat len)] below meth c Tl ([] ++ copyLocs d q i) 0 0 → Put d Bk s₁ Tl → Laid B Bk q (q + i) (fun j => Value.int (lo8 (cv A (o + (j - q))))) →
      Steps p.tables e below (s₁.setTop (entryFrame m #[.ref b, .int (Int32.ofNat o), .ref d, .int (Int32.ofNat q), .int (Int32.ofNat len)] 7)) (Tl.setTop (mkF m 3 #[.val (.ref b), .val (.int (Int32.ofNat (o + i))), .val (.ref d), .val (.int (Int32.ofNat (q + i))), .val (.int (Int32.ofNat len)), .val (.int (Int32.ofNat i)), z] [])) → ∃ (T' : State) (B' : Cell) (z' : Slot), Stand p l e { frames := 0, locals := 0, cells := 0, slots := 0 } s m #[.ref b, .int (Int32.ofNat o), .ref d, .int (Int32.ofNat q), .int (Int32.ofNat len)] below meth c T' ([] ++ copyLocs d q len) 0 0 ∧ Put d B' s₁ T' ∧ Laid B B' q (q + len) (fun j => Value.int (lo8 (cv A (o + (j - q))))) ∧
      Steps p.tables e below (s₁.setTop (entryFrame m #[.ref b, .int (Int32.ofNat o), .ref d, .int (Int32.ofNat q), .int (Int32.ofNat len)] 7)) (T'.setTop (mkF m 3 #[.val (.ref b), .val (.int (Int32.ofNat (o + len))), .val (.ref d), .val (.int (Int32.ofNat (q + len))), .val (.int (Int32.ofNat len)), .val (.int (Int32.ofNat len)), z'] [])) := by
    intro r
    induction r with
    | zero =>
      intro i hi z hz Tl Bk Xl pl fl cl
      have hil : i = len := by omega
      rw [hil] at Xl fl cl
      exact ⟨Tl, Bk, z, Xl, pl, fl, cl⟩
    | succ r ih =>
      intro i hi z hz Tl Bk Xl pl fl cl
      have all := X0.warmed.alike.symm.trans Xl.warmed.alike
      have hAl := hA0.keep all (pl.other hne hA0.1)
      have hBk := hB0.like all pl.1 fl.1 fl.2.1 fl.2.2.1
      have hlt : q + i < Bk.slots.size := by rw [fl.2.2.1]; omega
      have c3 : Steps p.tables e below (s₁.setTop (entryFrame m #[.ref b, .int (Int32.ofNat o), .ref d, .int (Int32.ofNat q), .int (Int32.ofNat len)] 7)) (Tl.setTop (mkF m 12 #[.val (.ref b), .val (.int (Int32.ofNat (o + i))), .val (.ref d), .val (.int (Int32.ofNat (q + i))), .val (.int (Int32.ofNat len)), .val (.int (Int32.ofNat i)), z] [.int (Int32.ofNat (o + i)), .ref b])) := cl.trans (by
        refine XS.iload Xl.here hexec rfl (hb hbytes d3) rfl ?_
        refine XS.iload Xl.here hexec rfl (hb hbytes d5) rfl ?_
        refine XS.icmpNo Xl.here hexec rfl (hb hbytes d7) rfl (ii_ge_f (lt32 (by omega) (by omega))) ?_
        refine XS.aloadN Xl.here hexec rfl (hb hbytes d10) rfl rfl ?_
        refine XS.iloadN Xl.here hexec rfl (hb hbytes d11) rfl ?_
        exact Steps.refl _)
      have c4 : Steps p.tables e below (s₁.setTop (entryFrame m #[.ref b, .int (Int32.ofNat o), .ref d, .int (Int32.ofNat q), .int (Int32.ofNat len)] 7)) (Tl.setTop (mkF m 13 #[.val (.ref b), .val (.int (Int32.ofNat (o + i))), .val (.ref d), .val (.int (Int32.ofNat (q + i))), .val (.int (Int32.ofNat len)), .val (.int (Int32.ofNat i)), z] [.int (cv A (o + i))])) := c3.trans (by
        refine Xl.aget hexec hAl rfl (hA.get (i := o + i) (by omega)) rfl rfl (hb hbytes d12) ?_
        exact Steps.refl _)
      have c5 : Steps p.tables e below (s₁.setTop (entryFrame m #[.ref b, .int (Int32.ofNat o), .ref d, .int (Int32.ofNat q), .int (Int32.ofNat len)] 7)) (Tl.setTop (mkF m 15 #[.val (.ref b), .val (.int (Int32.ofNat (o + i))), .val (.ref d), .val (.int (Int32.ofNat (q + i))), .val (.int (Int32.ofNat len)), .val (.int (Int32.ofNat i)), .val (.int (cv A (o + i)))] [])) := c4.trans (by
        refine XS.istoreS Xl.here hexec rfl (hb hbytes d13) rfl rfl hz ?_
        exact Steps.refl _)
      have c6 : Steps p.tables e below (s₁.setTop (entryFrame m #[.ref b, .int (Int32.ofNat o), .ref d, .int (Int32.ofNat q), .int (Int32.ofNat len)] 7)) (Tl.setTop (mkF m 31 #[.val (.ref b), .val (.int (Int32.ofNat (o + i))), .val (.ref d), .val (.int (Int32.ofNat (q + i))), .val (.int (Int32.ofNat len)), .val (.int (Int32.ofNat i)), .val (.int (cv A (o + i)))] [.int (lo8 (cv A (o + i))), .int (Int32.ofNat (q + i)), .ref d])) := c5.trans (by
        refine XS.iload Xl.here hexec rfl (hb hbytes d15) rfl ?_
        refine sipushV Xl.here hexec rfl 255 (hb hbytes d17) (by decide) ?_
        refine XS.icmpYes Xl.here hexec rfl (pc0 := 20) rfl (hb hbytes d20) rfl (ii_le_t (hp i (by omega))) (by decide) rfl ?_
        refine XS.aloadN Xl.here hexec rfl (hb hbytes d26) rfl rfl ?_
        refine XS.iloadN Xl.here hexec rfl (hb hbytes d27) rfl ?_
        refine XS.iload Xl.here hexec rfl (hb hbytes d28) rfl ?_
        refine i2b Xl.here hexec rfl (hb hbytes d30) rfl ?_
        exact Steps.refl _)
      obtain ⟨T7, X7, p7, st7⟩ := Xl.aput hexec hBk rfl hlt rfl (fits_lo8 (cv A (o + i))) (g := (mkF m 31 #[.val (.ref b), .val (.int (Int32.ofNat (o + i))), .val (.ref d), .val (.int (Int32.ofNat (q + i))), .val (.int (Int32.ofNat len)), .val (.int (Int32.ofNat i)), .val (.int (cv A (o + i)))] [.int (lo8 (cv A (o + i))), .int (Int32.ofNat (q + i)), .ref d])) rfl (rest := []) rfl (hb hbytes d31)
      have c8 : Steps p.tables e below (s₁.setTop (entryFrame m #[.ref b, .int (Int32.ofNat o), .ref d, .int (Int32.ofNat q), .int (Int32.ofNat len)] 7)) (T7.setTop (mkF m 32 #[.val (.ref b), .val (.int (Int32.ofNat (o + i))), .val (.ref d), .val (.int (Int32.ofNat (q + i))), .val (.int (Int32.ofNat len)), .val (.int (Int32.ofNat i)), .val (.int (cv A (o + i)))] [])) := c6.trans (st7 _ (Steps.refl _))
      have c9 : Steps p.tables e below (s₁.setTop (entryFrame m #[.ref b, .int (Int32.ofNat o), .ref d, .int (Int32.ofNat q), .int (Int32.ofNat len)] 7)) (T7.setTop (mkF m 3 #[.val (.ref b), .val (.int (Int32.ofNat (o + i) + 1)), .val (.ref d), .val (.int (Int32.ofNat (q + i) + 1)), .val (.int (Int32.ofNat len)), .val (.int (Int32.ofNat i + 1)), .val (.int (cv A (o + i)))] [])) := c8.trans (by
        refine iincV X7.here hexec rfl 1 (hb hbytes d32) (by decide) rfl rfl ?_
        refine iincV X7.here hexec rfl 1 (hb hbytes d35) (by decide) rfl rfl ?_
        refine iincV X7.here hexec rfl 1 (hb hbytes d38) (by decide) rfl rfl ?_
        refine XS.goto X7.here hexec rfl (pc0 := 41) rfl (hb hbytes d41) (by decide) rfl ?_
        exact Steps.refl _)
      have c10 : Steps p.tables e below (s₁.setTop (entryFrame m #[.ref b, .int (Int32.ofNat o), .ref d, .int (Int32.ofNat q), .int (Int32.ofNat len)] 7)) (T7.setTop (mkF m 3 #[.val (.ref b), .val (.int (Int32.ofNat (o + (i + 1)))), .val (.ref d), .val (.int (Int32.ofNat (q + (i + 1)))), .val (.int (Int32.ofNat len)), .val (.int (Int32.ofNat (i + 1))), .val (.int (cv A (o + i)))] [])) := by
        have := c9
        rw [succ32, succ32, succ32] at this
        exact this
      exact ih (i + 1) (by omega) _ (Or.inr ⟨_, rfl, rfl⟩) T7 _ (by rw [copyLocs_step, ← List.append_assoc]; exact X7) (pl.trans p7) (fl.step (by omega) hlt (by simp)) c10
  obtain ⟨T9, B9, z9, X9, p9, f9, g9⟩ := loop len 0 (by omega) .unset (Or.inl rfl) s₁ B (by simpa [copyLocs] using X0) ⟨hB0.1, fun _ _ => rfl, rfl⟩ (Laid.zero _ _ _) c2
  have c11 : Steps p.tables e below (s₁.setTop (entryFrame m #[.ref b, .int (Int32.ofNat o), .ref d, .int (Int32.ofNat q), .int (Int32.ofNat len)] 7)) (T9.setTop (mkF m 46 #[.val (.ref b), .val (.int (Int32.ofNat (o + len))), .val (.ref d), .val (.int (Int32.ofNat (q + len))), .val (.int (Int32.ofNat len)), .val (.int (Int32.ofNat len)), z9] [.int (Int32.ofNat len)])) := g9.trans (by
    refine XS.iload X9.here hexec rfl (hb hbytes d3) rfl ?_
    refine XS.iload X9.here hexec rfl (hb hbytes d5) rfl ?_
    refine XS.icmpYes X9.here hexec rfl (pc0 := 7) rfl (hb hbytes d7) rfl (ii_ge_t (nlt32 (by omega) (Nat.le_refl _))) (by decide) rfl ?_
    refine XS.iload X9.here hexec rfl (hb hbytes d44) rfl ?_
    exact Steps.refl _)
  exact ⟨T9, some (.int (Int32.ofNat len)), _, _, _, X9, by simp, rfl, rfl, (fun h => by cases h), ⟨rfl, B9, p9.from hh0, f9⟩, fun fs hl => c11.trans (X9.ireturnOut hexec hret rfl (Or.inl rfl) (hb hbytes d46) hl)⟩
end Cmp5
namespace Cmp3
def yN : MethodName := ⟨"java/lang/StringUTF16", "compress", "([CII)[B"⟩
abbrev yB : ByteArray := jdk_52_method_16_code
theorem d0 : decode yB 0 = .ok (.iload_n 2, 1) := by decide +kernel
theorem d1 : decode yB 1 = .ok (.newarray .byte, 2) := by decide +kernel
theorem d3 : decode yB 3 = .ok (.astore_n 3, 1) := by decide +kernel
theorem d4 : decode yB 4 = .ok (.aload_n 0, 1) := by decide +kernel
theorem d5 : decode yB 5 = .ok (.iload_n 1, 1) := by decide +kernel
theorem d6 : decode yB 6 = .ok (.aload_n 3, 1) := by decide +kernel
theorem d7 : decode yB 7 = .ok (.iconst 0, 1) := by decide +kernel
theorem d8 : decode yB 8 = .ok (.iload_n 2, 1) := by decide +kernel
theorem d9 : decode yB 9 = .ok (.invokestatic 115, 3) := by decide +kernel
theorem d12 : decode yB 12 = .ok (.istore 4, 2) := by decide +kernel
theorem d14 : decode yB 14 = .ok (.iload 4, 2) := by decide +kernel
theorem d16 : decode yB 16 = .ok (.iload_n 2, 1) := by decide +kernel
theorem d17 : decode yB 17 = .ok (.if_icmp (.eq) 40, 3) := by decide +kernel
theorem d57 : decode yB 57 = .ok (.aload_n 3, 1) := by decide +kernel
theorem d58 : decode yB 58 = .ok (.areturn, 1) := by decide +kernel
def site : List Cond := [.arrayClass .byte, Cmp5.tab] ++ staticW U16 115 Cmp5.yN
def tab : Cond := tabOf yN yB 6 (some (.array .byte)) site
def P (b : Addr) (A : Cell) (o len : Nat) (args : Array Value) (s : State) : Prop := args = #[.ref b, .int (Int32.ofNat o), .int (Int32.ofNat len)] ∧ Ch b A s ∧ o + len ≤ A.slots.size ∧ len ≤ 536870912 ∧ ∀ i, i < len → ¬ 255 < cv A (o + i)
def E (b : Addr) (A : Cell) (o len : Nat) (r : Option Value) (s u : State) : Prop := NewArr .byte "[B" len (fun j => .int (lo8 (cv A (o + j)))) r s u ∧ u.heap.size = s.heap.size + 1
/-- no char of the range above 255: a new byte[] of their low bytes -/
theorem law (l : Launch) (b : Addr) (A : Cell) (o len : Nat) : Law l yN 3 3 1 18 yB 6 (some (.array .byte)) site (P b A o len) (E b A o len) [] 1 len := by
  refine Law.of_walk (plainFor_of_name (by decide +kernel)) (by decide +kernel) (by decide +kernel) (by decide) (fun _ _ h => by rw [h.1]; rfl) (fun _ U U' hal hh h => ⟨h.1, h.2.1.mv hal hh, h.2.2⟩) (fun r U U' V V' h1 hal h2 h => ⟨NewArr.mv r U U' V V' h1 hal h2 h.1, by rw [h1, h2]; exact h.2⟩) ?_
  intro p e s m args below meth c s₁ X0 hexec hbytes hml hret hlk hnm hown hh0 W hP
  obtain ⟨rfl, hA, l1, l2, hp⟩ := hP
  have a31 := hA.1.2.2.2
  have c1 : Steps p.tables e below (s₁.setTop (entryFrame m #[.ref b, .int (Int32.ofNat o), .int (Int32.ofNat len)] 6)) (s₁.setTop (mkF m 0 #[.val (.ref b), .val (.int (Int32.ofNat o)), .val (.int (Int32.ofNat len)), .unset, .unset, .unset] [])) := entry rfl
  have c2 : Steps p.tables e below (s₁.setTop (entryFrame m #[.ref b, .int (Int32.ofNat o), .int (Int32.ofNat len)] 6)) (s₁.setTop (mkF m 1 #[.val (.ref b), .val (.int (Int32.ofNat o)), .val (.int (Int32.ofNat len)), .unset, .unset, .unset] [.int (Int32.ofNat len)])) := c1.trans (by
    refine XS.iloadN X0.here hexec rfl (hb hbytes d0) rfl ?_
    exact Steps.refl _)
  obtain ⟨T3, B3, X3, ba3, bs3, bv3, bh3, bf3, st3⟩ := X0.anew hexec (atype := .byte) (wk W (.arrayClass .byte)) rfl (by show len * 1 ≤ _; omega) (by omega) (g := (mkF m 1 #[.val (.ref b), .val (.int (Int32.ofNat o)), .val (.int (Int32.ofNat len)), .unset, .unset, .unset] [.int (Int32.ofNat len)])) rfl (hb hbytes d1) (rest := []) rfl (Nat.le_refl _) (by show 0 + len ≤ len; omega)
  rw [hh0] at ba3 st3
  have kp3 : XT.Kept s T3 := (XT.Kept.of_eq hh0).push bh3
  have hA3 := hA.keep X3.warmed.alike (kp3 _ _ hA.1.1)
  have hne : b ≠ s.heap.size := hA.1.ne
  have c4 : Steps p.tables e below (s₁.setTop (entryFrame m #[.ref b, .int (Int32.ofNat o), .int (Int32.ofNat len)] 6)) (T3.setTop (mkF m 3 #[.val (.ref b), .val (.int (Int32.ofNat o)), .val (.int (Int32.ofNat len)), .unset, .unset, .unset] [.ref s.heap.size])) := c2.trans (st3 _ (Steps.refl _))
  have c5 : Steps p.tables e below (s₁.setTop (entryFrame m #[.ref b, .int (Int32.ofNat o), .int (Int32.ofNat len)] 6)) (T3.setTop (mkF m 9 #[.val (.ref b), .val (.int (Int32.ofNat o)), .val (.int (Int32.ofNat len)), .val (.ref s.heap.size), .unset, .unset] [.int (Int32.ofNat len), .int 0, .ref s.heap.size, .int (Int32.ofNat o), .ref b])) := c4.trans (by
    refine XS.astoreN X3.here hexec rfl (hb hbytes d3) rfl rfl rfl ?_
    refine XS.aloadN X3.here hexec rfl (hb hbytes d4) rfl rfl ?_
    refine XS.iloadN X3.here hexec rfl (hb hbytes d5) rfl ?_
    refine XS.aloadN X3.here hexec rfl (hb hbytes d6) rfl rfl ?_
    refine iconstV X3.here hexec rfl 0 (hb hbytes d7) (by decide) ?_
    refine XS.iloadN X3.here hexec rfl (hb hbytes d8) rfl ?_
    exact Steps.refl _)
  obtain ⟨v6, T6, X6, E6, g6⟩ := X3.callS hexec (Cmp5.law l b A s.heap.size B3 o 0 len) hown (wks W (staticW U16 115 Cmp5.yN)) (wk W Cmp5.tab) (W := 0) (Nat.le_of_ble_eq_true rfl) (Nat.le_of_ble_eq_true rfl) (Nat.le_refl _) (by show 0 + len + 0 ≤ len; omega) (g := (mkF m 9 #[.val (.ref b), .val (.int (Int32.ofNat o)), .val (.int (Int32.ofNat len)), .val (.ref s.heap.size), .unset, .unset] [.int (Int32.ofNat len), .int (Int32.ofNat 0), .ref s.heap.size, .int (Int32.ofNat o), .ref b])) rfl (by rw [hml]; rfl) c5 (argsL := [.ref b, .int (Int32.ofNat o), .ref s.heap.size, .int (Int32.ofNat 0), .int (Int32.ofNat len)]) (rest := []) rfl rfl (by show 2 * 0 + 0 ≤ _; decide) (hb hbytes d9) (⟨rfl, hA3, ba3, hne, l1, by rw [bs3]; simp, hp⟩)
  obtain ⟨rfl, B6, p6, f6⟩ := E6
  have c7 : Steps p.tables e below (s₁.setTop (entryFrame m #[.ref b, .int (Int32.ofNat o), .int (Int32.ofNat len)] 6)) (T6.setTop (mkF m 12 #[.val (.ref b), .val (.int (Int32.ofNat o)), .val (.int (Int32.ofNat len)), .val (.ref s.heap.size), .unset, .unset] [.int (Int32.ofNat len)])) := g6
  have c8 : Steps p.tables e below (s₁.setTop (entryFrame m #[.ref b, .int (Int32.ofNat o), .int (Int32.ofNat len)] 6)) (T6.setTop (mkF m 58 #[.val (.ref b), .val (.int (Int32.ofNat o)), .val (.int (Int32.ofNat len)), .val (.ref s.heap.size), .val (.int (Int32.ofNat len)), .unset] [.ref s.heap.size])) := c7.trans (by
    refine XS.istore X6.here hexec rfl (hb hbytes d12) rfl rfl ?_
    refine XS.iload X6.here hexec rfl (hb hbytes d14) rfl ?_
    refine XS.iloadN X6.here hexec rfl (hb hbytes d16) rfl ?_
    refine XS.icmpYes X6.here hexec rfl (pc0 := 17) rfl (hb hbytes d17) rfl (ii_eq_t rfl) (by decide) rfl ?_
    refine XS.aloadN X6.here hexec rfl (hb hbytes d57) rfl rfl ?_
    exact Steps.refl _)
  have X8 := X6.wide (L' := []) (cells' := 1) (slots' := len) (fun x hx hlt => by
    simp only [List.nil_append, copyLocs, List.mem_map, List.mem_range] at hx
    obtain ⟨i, -, rfl⟩ := hx
    exact absurd hlt (Nat.lt_irrefl _)) (Nat.le_refl _) (by omega)
  exact ⟨T6, some (.ref s.heap.size), _, _, _, X8, rfl, rfl, rfl, (fun h => by cases h), ⟨⟨rfl, B6, ba3.like (X3.warmed.alike.symm.trans X6.warmed.alike) p6.1 f6.1 f6.2.1 f6.2.2.1, f6.2.1.trans bv3, by rw [X6.warmed.alike.findClass, f6.1]; exact bf3, by rw [f6.2.2.1, bs3]; simp, fun j hj => by rw [f6.2.2.2 j, if_pos (by omega)]; rfl, kp3.put p6 (Nat.le_refl _)⟩, by rw [p6.2.2, bh3, hh0]; simp⟩, fun fs hl => c8.trans (X8.areturnOut hexec rfl hret rfl (hb hbytes d58) hl)⟩
end Cmp3
namespace CodL
def yN : MethodName := ⟨"java/lang/StringUTF16", "coderFromArrayLen", "([BI)B"⟩
abbrev yB : ByteArray := jdk_52_method_15_code
theorem d0 : decode yB 0 = .ok (.iload_n 1, 1) := by decide +kernel
theorem d1 : decode yB 1 = .ok (.aload_n 0, 1) := by decide +kernel
theorem d2 : decode yB 2 = .ok (.arraylength, 1) := by decide +kernel
theorem d3 : decode yB 3 = .ok (.isub, 1) := by decide +kernel
theorem d4 : decode yB 4 = .ok (.bipush 31, 2) := by decide +kernel
theorem d6 : decode yB 6 = .ok (.iushr, 1) := by decide +kernel
theorem d7 : decode yB 7 = .ok (.i2b, 1) := by decide +kernel
theorem d8 : decode yB 8 = .ok (.ireturn, 1) := by decide +kernel
def site : List Cond := []
def tab : Cond := tabOf yN yB 2 (some .byte) site
def P (d : Addr) (B : Cell) (args : Array Value) (s : State) : Prop := args = #[.ref d, .int (Int32.ofNat B.slots.size)] ∧ Arr .byte d B s
def E (r : Option Value) (s u : State) : Prop := XT.PureE (some (.int 0)) r s u
/-- an array as long as the number of chars: LATIN1 -/
theorem law (l : Launch) (d : Addr) (B : Cell) : Law l yN 2 2 0 0 yB 2 (some .byte) site (P d B) E [] 0 0 := by
  refine Law.of_walk (plainFor_of_name (by decide +kernel)) (by decide +kernel) (by decide +kernel) (by decide) (fun _ _ h => by rw [h.1]; rfl) (fun _ U U' hal hh h => ⟨h.1, h.2.mv hal hh⟩) (fun r U U' V V' h1 hal h2 h => XT.PureE.mv r U U' V V' h1 hal h2 h) ?_
  intro p e s m args below meth c s₁ X0 hexec hbytes hml hret hlk hnm hown hh0 W hP
  obtain ⟨rfl, hB⟩ := hP
  have hB0 := hB.mv X0.warmed.alike hh0
  have c1 : Steps p.tables e below (s₁.setTop (entryFrame m #[.ref d, .int (Int32.ofNat B.slots.size)] 2)) (s₁.setTop (mkF m 0 #[.val (.ref d), .val (.int (Int32.ofNat B.slots.size))] [])) := entry rfl
  have c2 : Steps p.tables e below (s₁.setTop (entryFrame m #[.ref d, .int (Int32.ofNat B.slots.size)] 2)) (s₁.setTop (mkF m 2 #[.val (.ref d), .val (.int (Int32.ofNat B.slots.size))] [.ref d, .int (Int32.ofNat B.slots.size)])) := c1.trans (by
    refine XS.iloadN X0.here hexec rfl (hb hbytes d0) rfl ?_
    refine XS.aloadN X0.here hexec rfl (hb hbytes d1) rfl rfl ?_
    exact Steps.refl _)
  have c3 : Steps p.tables e below (s₁.setTop (entryFrame m #[.ref d, .int (Int32.ofNat B.slots.size)] 2)) (s₁.setTop (mkF m 8 #[.val (.ref d), .val (.int (Int32.ofNat B.slots.size))] [.int (lo8 (ushr (Int32.ofNat B.slots.size - Int32.ofNat B.slots.size) 31))])) := c2.trans (by
    refine X0.alen hexec hB0 rfl rfl (hb hbytes d2) ?_
    refine XS.isub X0.here hexec rfl (hb hbytes d3) rfl ?_
    refine bipushV X0.here hexec rfl 31 (hb hbytes d4) (by decide) ?_
    refine iushr X0.here hexec rfl (hb hbytes d6) rfl ?_
    refine i2b X0.here hexec rfl (hb hbytes d7) rfl ?_
    exact Steps.refl _)
  have e0 : lo8 (ushr (Int32.ofNat B.slots.size - Int32.ofNat B.slots.size) 31) = 0 := by rw [Int32.sub_self]; decide
  rw [e0] at c3
  exact ⟨s₁, some (.int 0), _, _, _, X0, rfl, rfl, rfl, (fun h => by cases h), ⟨rfl, hh0⟩, fun fs hl => c3.trans (X0.ireturnOut hexec hret rfl (Or.inr (Or.inr (Or.inl rfl))) (hb hbytes d8) hl)⟩
end CodL
/-- the String at a is Latin-1 over a new byte[] (the heap's one new cell): the low bytes of the len chars of A from o on; every cell but a is kept -/
def Got (a : Addr) (D : Cell) (fV fC : Field) (A : Cell) (o len : Nat) (r : Option Value) (s u : State) : Prop := r = none ∧ ∃ D' V : Cell, Blank "java/lang/String" a D' u ∧ Same D D' [fV.slot, fC.slot] ∧ D'.slots[fV.slot]? = some (.ref s.heap.size) ∧ D'.slots[fC.slot]? = some (.int 0) ∧ Arr .byte s.heap.size V u ∧ V.vm = .none ∧ u.vm.findClass "[B" = some V.cls ∧ V.slots.size = len ∧ (∀ j, j < len → V.slots[j]? = some (.int (lo8 (cv A (o + j))))) ∧ (∀ (y : Addr) (c : Cell), y ≠ a → s.heap[y]? = some c → u.heap[y]? = some c) ∧ u.heap.size = s.heap.size + 1
theorem Got.mv {a : Addr} {D A : Cell} {fV fC : Field} {o len : Nat} : ∀ r (U U' V V' : State), U'.heap = U.heap → V.vm.Alike V'.vm → V'.heap = V.heap → Got a D fV fC A o len r U V → Got a D fV fC A o len r U' V' :=
  fun r U U' V V' h1 hal h2 ⟨e0, D', X, a1, a2, a3, a4, a5, a6, a7, a8, a9, a10, a11⟩ => ⟨e0, D', X, a1.mv hal h2, a2, by rw [h1]; exact a3, a4, by rw [h1]; exact a5.mv hal h2, a6, by rw [hal.findClass]; exact a7, a8, a9, by rw [h1, h2]; exact a10, by rw [h1, h2]; exact a11⟩
namespace New4
def yN : MethodName := ⟨"java/lang/String", "<init>", "([CIILjava/lang/Void;)V"⟩
abbrev yB : ByteArray := jdk_42_method_149_code
theorem d0 : decode yB 0 = .ok (.aload_n 0, 1) := by decide +kernel
theorem d1 : decode yB 1 = .ok (.invokespecial 1, 3) := by decide +kernel
theorem d4 : decode yB 4 = .ok (.iload_n 3, 1) := by decide +kernel
theorem d5 : decode yB 5 = .ok (.ifCond (.ne) 22, 3) := by decide +kernel
theorem d27 : decode yB 27 = .ok (.getstatic 38, 3) := by decide +kernel
theorem d30 : decode yB 30 = .ok (.ifCond (.eq) 28, 3) := by decide +kernel
theorem d33 : decode yB 33 = .ok (.aload_n 1, 1) := by decide +kernel
theorem d34 : decode yB 34 = .ok (.iload_n 2, 1) := by decide +kernel
theorem d35 : decode yB 35 = .ok (.iload_n 3, 1) := by decide +kernel
theorem d36 : decode yB 36 = .ok (.invokestatic 177, 3) := by decide +kernel
theorem d39 : decode yB 39 = .ok (.astore 5, 2) := by decide +kernel
theorem d41 : decode yB 41 = .ok (.aload_n 0, 1) := by decide +kernel
theorem d42 : decode yB 42 = .ok (.aload 5, 2) := by decide +kernel
theorem d44 : decode yB 44 = .ok (.iload_n 3, 1) := by decide +kernel
theorem d45 : decode yB 45 = .ok (.invokestatic 47, 3) := by decide +kernel
theorem d48 : decode yB 48 = .ok (.putfield 15, 3) := by decide +kernel
theorem d51 : decode yB 51 = .ok (.aload_n 0, 1) := by decide +kernel
theorem d52 : decode yB 52 = .ok (.aload 5, 2) := by decide +kernel
theorem d54 : decode yB 54 = .ok (.putfield 9, 3) := by decide +kernel
theorem d57 : decode yB 57 = .ok (.return_, 1) := by decide +kernel
def site : List Cond := [.fieldLink "java/lang/String" 38 "java/lang/String" "COMPACT_STRINGS" "Z", Cmp3.tab, CodL.tab, .laysFinal "java/lang/String" "java/lang/String" "value" "[B", .fieldLink "java/lang/String" 9 "java/lang/String" "value" "[B", .laysFinal "java/lang/String" "java/lang/String" "coder" "B", .fieldLink "java/lang/String" 15 "java/lang/String" "coder" "B"] ++ objW "java/lang/String" 1 ++ staticW "java/lang/String" 177 Cmp3.yN ++ staticW "java/lang/String" 47 CodL.yN
def tab : Cond := tabOf yN yB 6 none site
def P (a : Addr) (D : Cell) (fV fC : Field) (b : Addr) (A : Cell) (z : Int32) (o len : Nat) (args : Array Value) (s : State) : Prop := args = #[.ref a, .ref b, .int (Int32.ofNat o), .int (Int32.ofNat len), .null] ∧ Blank "java/lang/String" a D s ∧ Found "java/lang/String" "value" "[B" fV s ∧ Found "java/lang/String" "coder" "B" fC s ∧ Ch b A s ∧ StaticIs s "java/lang/String" "COMPACT_STRINGS" "Z" (.int z) ∧ ¬ z = 0 ∧ 0 < len ∧ o + len ≤ A.slots.size ∧ len ≤ 536870912 ∧ ∀ i, i < len → ¬ 255 < cv A (o + i)
def E (a : Addr) (D : Cell) (fV fC : Field) (A : Cell) (o len : Nat) (r : Option Value) (s u : State) : Prop := Got a D fV fC A o len r s u
/-- len > 0, no char of the range above 255: a Latin-1 String of their low bytes -/
theorem law (l : Launch) (a : Addr) (D : Cell) (fV fC : Field) (b : Addr) (A : Cell) (z : Int32) (o len : Nat) : Law l yN 5 4 2 35 yB 6 none site (P a D fV fC b A z o len) (E a D fV fC A o len) [⟨a, fC.slot⟩, ⟨a, fV.slot⟩] 1 len := by
  refine Law.of_walk (plainFor_of_name (by decide +kernel)) (by decide +kernel) (by decide +kernel) (by decide) (fun _ _ h => by rw [h.1]; rfl) (fun _ U U' hal hh h => ⟨h.1, h.2.1.mv hal hh, h.2.2.1.al hal, h.2.2.2.1.al hal, h.2.2.2.2.1.mv hal hh, h.2.2.2.2.2.1.there hal hh, h.2.2.2.2.2.2⟩) (fun r U U' V V' h1 hal h2 h => Got.mv r U U' V V' h1 hal h2 h) ?_
  intro p e s m args below meth c s₁ X0 hexec hbytes hml hret hlk hnm hown hh0 W hP
  obtain ⟨rfl, hB, f1, f2, hA, s1, hz, l0, l1, l2, hp⟩ := hP
  have a31 := hA.1.2.2.2
  have c1 : Steps p.tables e below (s₁.setTop (entryFrame m #[.ref a, .ref b, .int (Int32.ofNat o), .int (Int32.ofNat len), .null] 6)) (s₁.setTop (mkF m 0 #[.val (.ref a), .val (.ref b), .val (.int (Int32.ofNat o)), .val (.int (Int32.ofNat len)), .val .null, .unset] [])) := entry rfl
  have c2 : Steps p.tables e below (s₁.setTop (entryFrame m #[.ref a, .ref b, .int (Int32.ofNat o), .int (Int32.ofNat len), .null] 6)) (s₁.setTop (mkF m 1 #[.val (.ref a), .val (.ref b), .val (.int (Int32.ofNat o)), .val (.int (Int32.ofNat len)), .val .null, .unset] [.ref a])) := c1.trans (by
    refine XS.aloadN X0.here hexec rfl (hb hbytes d0) rfl rfl ?_
    exact Steps.refl _)
  obtain ⟨T3, X3, q3, st3⟩ := X0.oinit hexec hown (wks W (objW "java/lang/String" 1)) (g := (mkF m 1 #[.val (.ref a), .val (.ref b), .val (.int (Int32.ofNat o)), .val (.int (Int32.ofNat len)), .val .null, .unset] [.ref a])) rfl (by rw [hml]; rfl) (rest := []) rfl (hb hbytes d1) (W := 0) (by show 2 * 0 + 0 ≤ _; decide) (Nat.le_of_ble_eq_true rfl) (Nat.le_of_ble_eq_true rfl)
  have hh3 := q3.trans hh0
  have c4 : Steps p.tables e below (s₁.setTop (entryFrame m #[.ref a, .ref b, .int (Int32.ofNat o), .int (Int32.ofNat len), .null] 6)) (T3.setTop (mkF m 27 #[.val (.ref a), .val (.ref b), .val (.int (Int32.ofNat o)), .val (.int (Int32.ofNat len)), .val .null, .unset] [])) := (c2.trans (st3 _ (Steps.refl _))).trans (by
    refine XS.iloadN X3.here hexec rfl (hb hbytes d4) rfl ?_
    refine XS.ifYes X3.here hexec rfl (pc0 := 5) rfl (hb hbytes d5) rfl (i0_ne_t (nz32 (by omega) l0)) (by decide) rfl ?_
    exact Steps.refl _)
  obtain ⟨T5, X5, q5, st5⟩ := X3.sget hexec hown (wk W (.fieldLink "java/lang/String" 38 "java/lang/String" "COMPACT_STRINGS" "Z")) s1 (fun _ _ h => by rw [hh3]; exact h) (g := (mkF m 27 #[.val (.ref a), .val (.ref b), .val (.int (Int32.ofNat o)), .val (.int (Int32.ofNat len)), .val .null, .unset] [])) rfl (hb hbytes d27)
  have hh5 := q5.trans hh3
  have c6 : Steps p.tables e below (s₁.setTop (entryFrame m #[.ref a, .ref b, .int (Int32.ofNat o), .int (Int32.ofNat len), .null] 6)) (T5.setTop (mkF m 30 #[.val (.ref a), .val (.ref b), .val (.int (Int32.ofNat o)), .val (.int (Int32.ofNat len)), .val .null, .unset] [.int z])) := c4.trans (st5 _ (Steps.refl _))
  have c7 : Steps p.tables e below (s₁.setTop (entryFrame m #[.ref a, .ref b, .int (Int32.ofNat o), .int (Int32.ofNat len), .null] 6)) (T5.setTop (mkF m 36 #[.val (.ref a), .val (.ref b), .val (.int (Int32.ofNat o)), .val (.int (Int32.ofNat len)), .val .null, .unset] [.int (Int32.ofNat len), .int (Int32.ofNat o), .ref b])) := c6.trans (by
    refine XS.ifNo X5.here hexec rfl (hb hbytes d30) rfl (i0_eq_f hz) ?_
    refine XS.aloadN X5.here hexec rfl (hb hbytes d33) rfl rfl ?_
    refine XS.iloadN X5.here hexec rfl (hb hbytes d34) rfl ?_
    refine XS.iloadN X5.here hexec rfl (hb hbytes d35) rfl ?_
    exact Steps.refl _)
  obtain ⟨v8, T8, X8, E8, g8⟩ := X5.callS hexec (Cmp3.law l b A o len) hown (wks W (staticW "java/lang/String" 177 Cmp3.yN)) (wk W Cmp3.tab) (W := 0) (Nat.le_of_ble_eq_true rfl) (Nat.le_of_ble_eq_true rfl) (Nat.le_refl _) (by show 0 + len ≤ len; omega) (g := (mkF m 36 #[.val (.ref a), .val (.ref b), .val (.int (Int32.ofNat o)), .val (.int (Int32.ofNat len)), .val .null, .unset] [.int (Int32.ofNat len), .int (Int32.ofNat o), .ref b])) rfl (by rw [hml]; rfl) c7 (argsL := [.ref b, .int (Int32.ofNat o), .int (Int32.ofNat len)]) (rest := []) rfl rfl (by show 2 * 0 + 0 ≤ _; decide) (hb hbytes d36) (⟨rfl, hA.mv X5.warmed.alike hh5, l1, l2, hp⟩)
  obtain ⟨e8, z8⟩ := E8
  obtain ⟨rfl, N, n1, n2, n3, n4, n5, n6⟩ := NewArr.mv _ T5 s _ _ hh5.symm (Vm.Alike.refl _) rfl e8
  rw [hh5] at z8
  have hB1 := hB.keep X8.warmed.alike (n6 _ _ hB.1)
  have hne : s.heap.size ≠ a := (Nat.ne_of_lt (Array.getElem?_eq_some_iff.mp hB.1).1).symm
  have c9 : Steps p.tables e below (s₁.setTop (entryFrame m #[.ref a, .ref b, .int (Int32.ofNat o), .int (Int32.ofNat len), .null] 6)) (T8.setTop (mkF m 39 #[.val (.ref a), .val (.ref b), .val (.int (Int32.ofNat o)), .val (.int (Int32.ofNat len)), .val .null, .unset] [.ref s.heap.size])) := g8
  have c10 : Steps p.tables e below (s₁.setTop (entryFrame m #[.ref a, .ref b, .int (Int32.ofNat o), .int (Int32.ofNat len), .null] 6)) (T8.setTop (mkF m 45 #[.val (.ref a), .val (.ref b), .val (.int (Int32.ofNat o)), .val (.int (Int32.ofNat len)), .val .null, .val (.ref s.heap.size)] [.int (Int32.ofNat N.slots.size), .ref s.heap.size, .ref a])) := by
    have hc : Steps p.tables e below (s₁.setTop (entryFrame m #[.ref a, .ref b, .int (Int32.ofNat o), .int (Int32.ofNat len), .null] 6)) (T8.setTop (mkF m 45 #[.val (.ref a), .val (.ref b), .val (.int (Int32.ofNat o)), .val (.int (Int32.ofNat len)), .val .null, .val (.ref s.heap.size)] [.int (Int32.ofNat len), .ref s.heap.size, .ref a])) := c9.trans (by
      refine XS.astore X8.here hexec rfl (hb hbytes d39) rfl rfl rfl ?_
      refine XS.aloadN X8.here hexec rfl (hb hbytes d41) rfl rfl ?_
      refine XS.aload X8.here hexec rfl (hb hbytes d42) rfl rfl ?_
      refine XS.iloadN X8.here hexec rfl (hb hbytes d44) rfl ?_
      exact Steps.refl _)
    rw [n4]; exact hc
  obtain ⟨v11, T11, X11, E11, g11⟩ := X8.callS hexec (CodL.law l s.heap.size N) hown (wks W (staticW "java/lang/String" 47 CodL.yN)) (wk W CodL.tab) (W := 1) (Nat.le_of_ble_eq_true rfl) (Nat.le_of_ble_eq_true rfl) (Nat.le_refl _) (by show 0 + len + 0 ≤ len; omega) (g := (mkF m 45 #[.val (.ref a), .val (.ref b), .val (.int (Int32.ofNat o)), .val (.int (Int32.ofNat len)), .val .null, .val (.ref s.heap.size)] [.int (Int32.ofNat N.slots.size), .ref s.heap.size, .ref a])) rfl (by rw [hml]; rfl) c10 (argsL := [.ref s.heap.size, .int (Int32.ofNat N.slots.size)]) (rest := [.ref a]) rfl rfl (by show 2 * 0 + (1 + 0) ≤ _; decide) (hb hbytes d45) (⟨rfl, n1⟩)
  obtain ⟨rfl, q11⟩ := E11
  have hB11 := hB1.mv (X8.warmed.alike.symm.trans X11.warmed.alike) q11
  have c12 : Steps p.tables e below (s₁.setTop (entryFrame m #[.ref a, .ref b, .int (Int32.ofNat o), .int (Int32.ofNat len), .null] 6)) (T11.setTop (mkF m 48 #[.val (.ref a), .val (.ref b), .val (.int (Int32.ofNat o)), .val (.int (Int32.ofNat len)), .val .null, .val (.ref s.heap.size)] [.int 0, .ref a])) := g11
  obtain ⟨T13, X13, p13, bl13, sl13, st13⟩ := X11.finit hexec hown (wk W (.fieldLink "java/lang/String" 15 "java/lang/String" "coder" "B")) (Or.inr ⟨_, (wk W (.laysFinal "java/lang/String" "java/lang/String" "coder" "B"))⟩) (Or.inl ⟨rfl, hnm⟩) f2 (Or.inl rfl) hB11 (t := .byte) (by decide +kernel) rfl (g := (mkF m 48 #[.val (.ref a), .val (.ref b), .val (.int (Int32.ofNat o)), .val (.int (Int32.ofNat len)), .val .null, .val (.ref s.heap.size)] [.int 0, .ref a])) rfl (rest := []) rfl (hb hbytes d48)
  have c14 : Steps p.tables e below (s₁.setTop (entryFrame m #[.ref a, .ref b, .int (Int32.ofNat o), .int (Int32.ofNat len), .null] 6)) (T13.setTop (mkF m 54 #[.val (.ref a), .val (.ref b), .val (.int (Int32.ofNat o)), .val (.int (Int32.ofNat len)), .val .null, .val (.ref s.heap.size)] [.ref s.heap.size, .ref a])) := (c12.trans (st13 _ (Steps.refl _))).trans (by
    refine XS.aloadN X13.here hexec rfl (hb hbytes d51) rfl rfl ?_
    refine XS.aload X13.here hexec rfl (hb hbytes d52) rfl rfl ?_
    exact Steps.refl _)
  obtain ⟨T15, X15, p15, bl15, sl15, st15⟩ := X13.finit hexec hown (wk W (.fieldLink "java/lang/String" 9 "java/lang/String" "value" "[B")) (Or.inr ⟨_, (wk W (.laysFinal "java/lang/String" "java/lang/String" "value" "[B"))⟩) (Or.inl ⟨rfl, hnm⟩) f1 (Or.inl rfl) bl13 (t := (.array .byte)) (by decide +kernel) rfl (g := (mkF m 54 #[.val (.ref a), .val (.ref b), .val (.int (Int32.ofNat o)), .val (.int (Int32.ofNat len)), .val .null, .val (.ref s.heap.size)] [.ref s.heap.size, .ref a])) rfl (rest := []) rfl (hb hbytes d54)
  have c16 : Steps p.tables e below (s₁.setTop (entryFrame m #[.ref a, .ref b, .int (Int32.ofNat o), .int (Int32.ofNat len), .null] 6)) (T15.setTop (mkF m 57 #[.val (.ref a), .val (.ref b), .val (.int (Int32.ofNat o)), .val (.int (Int32.ofNat len)), .val .null, .val (.ref s.heap.size)] [])) := c14.trans (st15 _ (Steps.refl _))
  have ap := apart (Or.inr ⟨_, (wk W (.laysFinal "java/lang/String" "java/lang/String" "value" "[B"))⟩) (Or.inr ⟨_, (wk W (.laysFinal "java/lang/String" "java/lang/String" "coder" "B"))⟩) f1 f2 (t₁ := .array .byte) (t₂ := .byte) (by decide +kernel) (by decide +kernel) (by decide)
  have al := X8.warmed.alike.symm.trans X15.warmed.alike
  have n7 : T11.heap[s.heap.size]? = some N := by rw [q11]; exact n1.1
  exact ⟨T15, none, _, _, _, X15, by simp, rfl, by omega, (fun _ => rfl), ⟨rfl, _, N, bl15, ((Same.refl D _).set _ (by simp)).set _ (by simp), sl15, (Cell.slots_setSlot_ne _ ap).trans sl13, n1.keep al (p15.other hne (p13.other hne n7)), n2, by rw [al.findClass]; exact n3, n4, n5, fun y c h1 h2 => p15.other h1 (p13.other h1 (by rw [q11]; exact n6 y c h2)), by rw [p15.2.2, p13.2.2, q11]; exact z8⟩, fun fs hl => c16.trans (X15.returnOut hexec hret (hb hbytes d57) hl)⟩
end New4
namespace New1
def yN : MethodName := ⟨"java/lang/String", "<init>", "([C)V"⟩
abbrev yB : ByteArray := jdk_42_method_3_code
theorem d0 : decode yB 0 = .ok (.aload_n 0, 1) := by decide +kernel
theorem d1 : decode yB 1 = .ok (.aload_n 1, 1) := by decide +kernel
theorem d2 : decode yB 2 = .ok (.iconst 0, 1) := by decide +kernel
theorem d3 : decode yB 3 = .ok (.aload_n 1, 1) := by decide +kernel
theorem d4 : decode yB 4 = .ok (.arraylength, 1) := by decide +kernel
theorem d5 : decode yB 5 = .ok (.aconst_null, 1) := by decide +kernel
theorem d6 : decode yB 6 = .ok (.invokespecial 27, 3) := by decide +kernel
theorem d9 : decode yB 9 = .ok (.return_, 1) := by decide +kernel
def site : List Cond := [New4.tab] ++ initW "java/lang/String" 27 New4.yN
def tab : Cond := tabOf yN yB 2 none site
def P (a : Addr) (D : Cell) (fV fC : Field) (b : Addr) (A : Cell) (z : Int32) (args : Array Value) (s : State) : Prop := args = #[.ref a, .ref b] ∧ Blank "java/lang/String" a D s ∧ Found "java/lang/String" "value" "[B" fV s ∧ Found "java/lang/String" "coder" "B" fC s ∧ Ch b A s ∧ StaticIs s "java/lang/String" "COMPACT_STRINGS" "Z" (.int z) ∧ ¬ z = 0 ∧ 0 < A.slots.size ∧ A.slots.size ≤ 536870912 ∧ ∀ i, i < A.slots.size → ¬ 255 < cv A i
def E (a : Addr) (D : Cell) (fV fC : Field) (A : Cell) (r : Option Value) (s u : State) : Prop := Got a D fV fC A 0 A.slots.size r s u
/-- new String(chars), not empty, no char above 255: a Latin-1 String of their low bytes -/
theorem law (l : Launch) (a : Addr) (D : Cell) (fV fC : Field) (b : Addr) (A : Cell) (z : Int32) : Law l yN 2 1 3 52 yB 2 none site (P a D fV fC b A z) (E a D fV fC A) [⟨a, fC.slot⟩, ⟨a, fV.slot⟩] 1 A.slots.size := by
  refine Law.of_walk (plainFor_of_name (by decide +kernel)) (by decide +kernel) (by decide +kernel) (by decide) (fun _ _ h => by rw [h.1]; rfl) (fun _ U U' hal hh h => ⟨h.1, h.2.1.mv hal hh, h.2.2.1.al hal, h.2.2.2.1.al hal, h.2.2.2.2.1.mv hal hh, h.2.2.2.2.2.1.there hal hh, h.2.2.2.2.2.2⟩) (fun r U U' V V' h1 hal h2 h => Got.mv r U U' V V' h1 hal h2 h) ?_
  intro p e s m args below meth c s₁ X0 hexec hbytes hml hret hlk hnm hown hh0 W hP
  obtain ⟨rfl, hB, f1, f2, hA, s1, hz, l0, l2, hp⟩ := hP
  have c1 : Steps p.tables e below (s₁.setTop (entryFrame m #[.ref a, .ref b] 2)) (s₁.setTop (mkF m 0 #[.val (.ref a), .val (.ref b)] [])) := entry rfl
  have c2 : Steps p.tables e below (s₁.setTop (entryFrame m #[.ref a, .ref b] 2)) (s₁.setTop (mkF m 6 #[.val (.ref a), .val (.ref b)] [.null, .int (Int32.ofNat A.slots.size), .int 0, .ref b, .ref a])) := c1.trans (by
    refine XS.aloadN X0.here hexec rfl (hb hbytes d0) rfl rfl ?_
    refine XS.aloadN X0.here hexec rfl (hb hbytes d1) rfl rfl ?_
    refine iconstV X0.here hexec rfl 0 (hb hbytes d2) (by decide) ?_
    refine XS.aloadN X0.here hexec rfl (hb hbytes d3) rfl rfl ?_
    refine X0.alen hexec (hA.1.mv X0.warmed.alike hh0) rfl rfl (hb hbytes d4) ?_
    refine XS.aconstNull X0.here hexec rfl (hb hbytes d5) ?_
    exact Steps.refl _)
  obtain ⟨v3, T3, X3, E3, g3⟩ := X0.callN hexec (New4.law l a D fV fC b A z 0 A.slots.size) rfl hown (wks W (initW "java/lang/String" 27 New4.yN)) (W New4.tab (by simp only [site, List.mem_cons, List.mem_append, true_or, or_true])) (W := 0) (Nat.le_of_ble_eq_true rfl) (Nat.le_of_ble_eq_true rfl) (Nat.le_refl _) (by show 0 + A.slots.size ≤ A.slots.size; omega) (g := (mkF m 6 #[.val (.ref a), .val (.ref b)] [.null, .int (Int32.ofNat A.slots.size), .int (Int32.ofNat 0), .ref b, .ref a])) rfl (by rw [hml]; rfl) c2 (argsL := [.ref b, .int (Int32.ofNat 0), .int (Int32.ofNat A.slots.size), .null]) (rest := []) rfl rfl (by show 2 * 0 + 0 ≤ _; decide) (hb hbytes d6) (⟨rfl, hB.mv X0.warmed.alike hh0, f1.al X0.warmed.alike, f2.al X0.warmed.alike, hA.mv X0.warmed.alike hh0, s1.there X0.warmed.alike hh0, hz, l0, by omega, l2, fun i hi => by rw [Nat.zero_add]; exact hp i hi⟩)
  have e0 := Got.mv _ s₁ s _ _ hh0.symm (Vm.Alike.refl _) rfl E3
  obtain rfl := e0.1
  have c4 : Steps p.tables e below (s₁.setTop (entryFrame m #[.ref a, .ref b] 2)) (T3.setTop (mkF m 9 #[.val (.ref a), .val (.ref b)] [])) := g3
  exact ⟨T3, none, _, _, _, X3, by simp, rfl, by omega, (fun _ => rfl), e0, fun fs hl => c4.trans (X3.returnOut hexec hret (hb hbytes d9) hl)⟩
theorem pays {l : Launch} {R : Room} {p : Program} {e : Env} {below : List Frame} {s : State} {sargs : Array Value} {len W : Nat} (a : Addr) (D : Cell) (fV fC : Field) (b : Addr) (A : Cell) (z : Int32) (htab : tab.before sargs s = true) (hfr : 4 ≤ R.frames) (hlo : W + 65 ≤ R.locals) :
    Back l R p e below s sargs yN len W (fun A₁ a₁ => A₁.cells + 1 ≤ R.cells ∧ A₁.slots + A.slots.size ≤ R.slots ∧ P a D fV fC b A z a₁ A₁.U) (fun A₁ _ v₁ B₁ => E a D fV fC A v₁ A₁.U B₁.U ∧ B₁.locs = A₁.locs ++ [⟨a, fC.slot⟩, ⟨a, fV.slot⟩] ∧ B₁.cells = A₁.cells + 1 ∧ B₁.slots = A₁.slots + A.slots.size) :=
  (law l a D fV fC b A z).pays htab hfr (by omega)
end New1
end StrChars
namespace StrChars.Road
open Jvm Sem ClassFile Op Lib Jvm.Stand Jvm.Free Jvm.Free.XT
open Jvm.Lib.Cold (StaticIs)
abbrev ST : String := "java/lang/String"
/-- every table word that New1's law asks, flat -/
abbrev words : List Jvm.Cond := [.code New1.yN New1.yB 2 none, .initialized ST, .methodLink ST 27 New4.yN, .instanceMethod New4.yN,
  .code New4.yN New4.yB 6 none, .fieldLink ST 38 ST "COMPACT_STRINGS" "Z", .laysFinal ST ST "value" "[B", .fieldLink ST 9 ST "value" "[B", .laysFinal ST ST "coder" "B", .fieldLink ST 15 ST "coder" "B",
  .methodLink ST 1 Lib.objectInit, .instanceMethod Lib.objectInit, .code Lib.objectInit ⟨#[0xb1]⟩ 1 none, .methodLink ST 177 Cmp3.yN, .static Cmp3.yN, .methodLink ST 47 CodL.yN, .static CodL.yN,
  .code Cmp3.yN Cmp3.yB 6 (some (.array .byte)), .initialized U16, .arrayClass .byte, .methodLink U16 115 Cmp5.yN, .static Cmp5.yN, .code Cmp5.yN Cmp5.yB 7 (some .int), .code CodL.yN CodL.yB 2 (some .byte)]
theorem tab_of {a : Array Value} {s : State} (h : ∀ w ∈ words, w.before a s = true) : New1.tab.before a s = true := by
  have h5 : Cmp5.tab.before a s = true := unparts (wk h (.code Cmp5.yN Cmp5.yB 7 (some .int))) (wks h (.initialized Cmp5.yN.cls :: Cmp5.site))
  have hc : CodL.tab.before a s = true := unparts (wk h (.code CodL.yN CodL.yB 2 (some .byte))) (wks h (.initialized CodL.yN.cls :: CodL.site))
  have q5 : ∀ w ∈ Cmp5.tab :: words, w.before a s = true := fun w hw => (List.mem_cons.mp hw).elim (fun e => e ▸ h5) (h w)
  have h3 : Cmp3.tab.before a s = true := unparts (wk q5 (.code Cmp3.yN Cmp3.yB 6 (some (.array .byte)))) (wks q5 (.initialized Cmp3.yN.cls :: Cmp3.site))
  have q3 : ∀ w ∈ Cmp3.tab :: CodL.tab :: words, w.before a s = true := fun w hw => (List.mem_cons.mp hw).elim (fun e => e ▸ h3) fun hw => (List.mem_cons.mp hw).elim (fun e => e ▸ hc) (h w)
  have h4 : New4.tab.before a s = true := unparts (wk q3 (.code New4.yN New4.yB 6 none)) (wks q3 (.initialized New4.yN.cls :: New4.site))
  have q4 : ∀ w ∈ New4.tab :: words, w.before a s = true := fun w hw => (List.mem_cons.mp hw).elim (fun e => e ▸ h4) (h w)
  exact unparts (wk q4 (.code New1.yN New1.yB 2 none)) (wks q4 (.initialized New1.yN.cls :: New1.site))
/-- the words ride from the start Z to the walk's own state -/
theorem moved {Z s : State} {a0 args : Array Value} (hZ : Z.Warmed39 s.vm) (hw : ∀ d ∈ words, d.before a0 Z = true) : ∀ d ∈ words, d.before args s = true := fun d hd => by
  have q := hw d hd
  have t : ∀ d ∈ words, d = .arrayClass .byte ∨ (d.onTables && d.keepsFace) = true := by decide +kernel
  rcases t d hd with rfl | t
  · exact RoadKit.mvA hZ q
  · exact RoadKit.mv hZ q t
/-- WHAT COMES BACK, over the tables of the start Z: h the heap at the call, h' behind it -/
def Q (Z : State) (x : Addr) (A : Cell) (h : Heap) (v : Option Value) (h' : Heap) (L : List Loc) : Prop := v = none ∧ (∀ y ∈ L, y.base = x) ∧ RoadKit.Keep h h' [x] ∧ h'.size = h.size + 1 ∧ RoadKit.Exa Z h' x ST ∧ RoadKit.Fld Z h' x ST "value" "[B" (.ref h.size) ∧ RoadKit.Fld Z h' x ST "coder" "B" (.int 0) ∧
  (∃ V : Cell, RoadKit.Arr Z h' h.size V .byte ∧ V.vm = .none ∧ Z.vm.findClass "[B" = some V.cls ∧ V.slots.size = A.slots.size ∧ ∀ j, j < A.slots.size → V.slots[j]? = some (.int (lo8 (cv A j)))) ∧
  ∀ (O n d : String) (w : Value), RoadKit.Fld Z h x O n d w → RoadKit.slotOf Z O n d ≠ RoadKit.slotOf Z ST "value" "[B" → RoadKit.slotOf Z O n d ≠ RoadKit.slotOf Z ST "coder" "B" → RoadKit.Fld Z h' x O n d w
/-- **new String(chars) AT A CALL, IN THE ROAD'S FORM**: for specialBack behind newO: x the fresh String, b the char[] with the cell A -/
theorem back {p : Program} {l : Launch} {e : Env} {R : Room} {s : State} {args : Array Value} {below : List Frame} {len W : Nat} {Z : State} {a0 : Array Value} {h : Heap} (hZ : Z.Warmed39 s.vm) (hw : ∀ d ∈ words, d.before a0 Z = true) {kI : Nat} (wi : (Jvm.Cond.instantiable ST kI).before a0 Z = true)
    {x b : Addr} {A : Cell} {z : Int32} {v0 c0 : Value} (E : RoadKit.Exa Z h x ST) (V : RoadKit.Fld Z h x ST "value" "[B" v0) (C : RoadKit.Fld Z h x ST "coder" "B" c0) (K : RoadKit.Arr Z h b A .char) (hty : Typed .char A) (S : RoadKit.Sta Z h ST "COMPACT_STRINGS" "Z" (.int z)) (hz : ¬ z = 0)
    (l0 : 0 < A.slots.size) (l2 : A.slots.size ≤ 536870912) (hp : ∀ i, i < A.slots.size → ¬ 255 < cv A i) (hfr : 4 ≤ R.frames) (hlo : W + 65 ≤ R.locals) :
    Back l R p e below s args New1.yN len W (fun P a => a = #[.ref x, .ref b] ∧ P.U.heap = h ∧ P.cells + 1 ≤ R.cells ∧ P.slots + A.slots.size ≤ R.slots)
      (fun P _ v B => ∃ L, Q Z x A h v B.U.heap L ∧ B.locs = P.locs ++ L ∧ B.cells = P.cells + 1 ∧ B.slots = P.slots + A.slots.size) := by
  intro m meth c P g ig mk a X hg hsize hdg hW hn hp'
  obtain ⟨rfl, rfl, r1, r2⟩ := hp'
  have al : Z.vm.Alike P.U.vm := hZ.alike.trans X.warmed.alike
  obtain ⟨D, cfV, kV, iV, fV, hD, gV, stV, knV, obV, asV, slV⟩ := id V
  obtain ⟨D', cfC, kC, iC, fC, hD', gC, stC, -, -, asC, slC⟩ := id C
  cases hD.symm.trans hD'
  obtain ⟨D2, kD, e1, e2, e3, e4, e5⟩ := id E
  cases hD.symm.trans e1
  obtain ⟨c2, k2, i1, i2, i3, -⟩ := Cond.instantiable_spec wi
  cases e2.symm.trans i1
  cases e3.symm.trans i2
  obtain ⟨kU, u1, u2⟩ := al.2.2 _ _ e3
  have hB : Blank ST x D P.U := ⟨hD, ⟨knV, fun q hq => by rw [hq] at obV; cases obV⟩, by rw [al.findClass]; exact e2, kU, u1, by rw [u2]; exact i3, by rw [u2]; exact e5 i3⟩
  have F1 : Found ST "value" "[B" fV P.U := ⟨SBG.found_only al ⟨cfV, kV, iV, gV⟩, stV⟩
  have F2 : Found ST "coder" "B" fC P.U := ⟨SBG.found_only al ⟨cfC, kC, iC, gC⟩, stC⟩
  have hA : Ch b A P.U := ⟨⟨K.1, State.isArrayOf_alike al K.2.1, K.2.2, by omega⟩, hty⟩
  have hS : StaticIs P.U ST "COMPACT_STRINGS" "Z" (.int z) := by
    obtain ⟨cfS, iS, kS, fS, st, cS, t1, t2, t3, t4, t5, t6, t7⟩ := S
    exact StaticIs.there (s := { Z with heap := P.U.heap }) ⟨cfS, iS, kS, fS, st, cS, t1, t2, t3, t4, t5, (fun q => by rw [q] at t6; cases t6), t7⟩ al rfl
  obtain ⟨v, B, X', ⟨⟨hv, E', V', q1, q2, q3, q4, q5, q6, q7, q8, q9, q10, q11⟩, hl, hc, hs⟩, st⟩ := New1.pays x D fV fC b A z (tab_of (moved hZ hw)) hfr hlo m meth c P g ig mk _ X hg hsize hdg hW hn ⟨r1, r2, rfl, hB, F1, F2, hA, hS, hz, l0, l2, hp⟩
  have al' : Z.vm.Alike B.U.vm := hZ.alike.trans X'.warmed.alike
  have hsz : E'.slots.size = D.slots.size := by
    obtain ⟨-, -, -, kB, w1, w2, w3⟩ := q1
    obtain ⟨kB', y1, y2⟩ := al'.2.2 _ _ e3
    rw [q2.2.1] at w1
    cases w1.symm.trans y1
    rw [w3, e5 i3, y2]
  refine ⟨v, B, X', ⟨_, ⟨hv, ?_, ⟨by omega, fun y cy hy hn' => q10 y cy (by simpa using hn') hy, fun y cy hy => ?_⟩, q11, ⟨E', _, q1.1, by rw [q2.2.1]; exact e2, by rw [q2.2.1]; exact e3, by rw [q2.1]; exact obV, fun _ => by rw [hsz]; exact e5 i3⟩,
    ⟨E', cfV, kV, iV, fV, q1.1, gV, stV, by rw [q2.1]; exact knV, by rw [q2.1]; exact obV, by rw [q2.2.1]; exact asV, q3⟩, ⟨E', cfC, kC, iC, fC, q1.1, gC, stC, by rw [q2.1]; exact knV, by rw [q2.1]; exact obV, by rw [q2.2.1]; exact asC, q4⟩,
    ⟨V', ⟨q5.1, State.isArrayOf_alike al'.symm q5.2.1, q5.2.2.1⟩, q6, by rw [← al'.findClass]; exact q7, q8, fun j hj => by have := q9 j hj; rwa [Nat.zero_add] at this⟩, fun O n d w F n1 n2 => ?_⟩, hl, hc, hs⟩, st⟩
  · intro y hy
    simp only [List.mem_cons, List.not_mem_nil, or_false] at hy
    rcases hy with rfl | rfl <;> rfl
  · by_cases q : y = x
    · subst q
      cases hD.symm.trans hy
      exact ⟨E', q1.1, q2.2.1, q2.1, hsz⟩
    · exact ⟨cy, q10 y cy q hy, rfl, rfl, rfl⟩
  · obtain ⟨D3, cf, k, i, f, g1, g2, g3, g4, g5, g6, g7⟩ := F
    cases hD.symm.trans g1
    simp only [RoadKit.slotOf, g2, gV, gC, Option.map_some, Option.getD_some] at n1 n2
    exact ⟨E', cf, k, i, f, q1.1, g2, g3, by rw [q2.1]; exact g4, by rw [q2.1]; exact g5, by rw [q2.2.1]; exact g6, by rw [q2.2.2 f.slot (by simp [n1, n2])]; exact g7⟩
end StrChars.Road
namespace StrChars.Road
open Jvm Sem ClassFile Op Lib Jvm.Stand Jvm.Free Jvm.Free.XT
/-- WHAT COMES BACK, the byte[] as a list of values -/
def QA (Z : State) (x : Addr) (zn : Int32) (cs : List Int32) (h : Heap) (v : Option Value) (h' : Heap) (L : List Loc) : Prop := v = none ∧ (∀ y ∈ L, y.base = x) ∧ RoadKit.Keep h h' [x] ∧ h'.size = h.size + 1 ∧ RoadKit.Exa Z h' x ST ∧ RoadKit.Fld Z h' x ST "value" "[B" (.ref h.size) ∧ RoadKit.Fld Z h' x ST "coder" "B" (.int 0) ∧
  (∃ kb, Z.vm.findClass "[B" = some kb ∧ RoadKit.Arv Z h' h.size kb .byte zn (cs.map fun c => .int (lo8 c)) (.int 0)) ∧
  ∀ (O n d : String) (w : Value), RoadKit.Fld Z h x O n d w → RoadKit.slotOf Z O n d ≠ RoadKit.slotOf Z ST "value" "[B" → RoadKit.slotOf Z O n d ≠ RoadKit.slotOf Z ST "coder" "B" → RoadKit.Fld Z h' x O n d w
/-- **new String(chars) AT A CALL, THE ARRAYS AS LISTS**: the char[] at b holds cs, not empty, no char above 255 -/
theorem backArv {p : Program} {l : Launch} {e : Env} {R : Room} {s : State} {args : Array Value} {below : List Frame} {len W : Nat} {Z : State} {a0 : Array Value} {h : Heap} (hZ : Z.Warmed39 s.vm) (hw : ∀ d ∈ words, d.before a0 Z = true) {kI : Nat} (wi : (Jvm.Cond.instantiable ST kI).before a0 Z = true)
    {x b : Addr} {k : ClassId} {zn z : Int32} {cs : List Int32} {dv v0 c0 : Value} (E : RoadKit.Exa Z h x ST) (V : RoadKit.Fld Z h x ST "value" "[B" v0) (C : RoadKit.Fld Z h x ST "coder" "B" c0) (K : RoadKit.Arv Z h b k .char zn (cs.map Value.int) dv) (S : RoadKit.Sta Z h ST "COMPACT_STRINGS" "Z" (.int z)) (hz : ¬ z = 0)
    (hlen : zn.toNatClampNeg = cs.length) (h0 : 0 < cs.length) (hbig : cs.length ≤ 536870912) (hall : ∀ c ∈ cs, ¬ 255 < c) (hfr : 4 ≤ R.frames) (hlo : W + 65 ≤ R.locals) :
    Back l R p e below s args New1.yN len W (fun P a => a = #[.ref x, .ref b] ∧ P.U.heap = h ∧ P.cells + 1 ≤ R.cells ∧ P.slots + cs.length ≤ R.slots)
      (fun P _ v B => ∃ L, QA Z x zn cs h v B.U.heap L ∧ B.locs = P.locs ++ L ∧ B.cells = P.cells + 1 ∧ B.slots = P.slots + cs.length) := by
  obtain ⟨A, K1, K2, K3, K4, K5, K6⟩ := K
  have e : A.slots.size = cs.length := K3.trans hlen
  have hat : ∀ (i : Nat) (hi : i < cs.length), A.slots[i]? = some (.int cs[i]) := fun i hi => by rw [K5 i (by omega)]; simp [List.getD_eq_getElem?_getD, hi]
  have hcv : ∀ (i : Nat) (hi : i < cs.length), cv A i = cs[i] := fun i hi => by unfold cv; rw [hat i hi]
  have hty : Typed .char A := fun i v hv => by
    have hi : i < A.slots.size := (Array.getElem?_eq_some_iff.mp hv).1
    have q := K5 i hi
    rw [hv] at q
    rw [Option.some.inj q]
    exact K6 i hi
  refine Back.mono (back hZ hw wi E V C K1 hty S hz (by omega) (by omega) (fun i hi => by rw [hcv i (by omega)]; exact hall _ (List.getElem_mem _)) hfr hlo) (fun P a hp => ⟨hp.1, hp.2.1, hp.2.2.1, by rw [e]; exact hp.2.2.2⟩) (fun P a v B hp hq => ?_)
  obtain ⟨L, ⟨q1, q2, q3, q4, q5, q6, q7, ⟨V', v1, v2, v3, v4, v5⟩, q9⟩, hl, hc, hs⟩ := hq
  refine ⟨L, ⟨q1, q2, q3, q4, q5, q6, q7, ⟨V'.cls, v3, V', v1, rfl, by rw [v4, e, hlen], K4, fun i hi => ?_, fun i hi => ?_⟩, q9⟩, hl, hc, by rw [hs, e]⟩
  · have hi' : i < cs.length := by omega
    rw [v5 i (by omega), hcv i hi']; simp [List.getD_eq_getElem?_getD, hi']
  · have hi' : i < cs.length := by omega
    simp only [List.getD_eq_getElem?_getD, List.getElem?_map, List.getElem?_eq_getElem hi', Option.map_some, Option.getD_some]
    exact fits_lo8 _
end StrChars.Road
namespace StrChars.Road
open Jvm Sem ClassFile Op Lib Jvm.Stand Jvm.Free Jvm.Free.XT
/-- WHAT COMES BACK, in the writer's own shape -/
def QV (Z : State) (x : Addr) (N : Int32) (bs : List Int32) (h : Heap) (n0 : Nat) (v : Option Value) (h' : Heap) (L : List Loc) : Prop := v = none ∧ RoadKit.Fr n0 L ∧ RoadKit.Keep h h' [x] ∧ RoadKit.Exa Z h' x ST ∧ RoadKit.Fld Z h' x ST "coder" "B" (.int 0) ∧
  ∃ (t : Addr) (kb : ClassId), n0 ≤ t ∧ h.size ≤ t ∧ ¬ t = x ∧ RoadKit.Fld Z h' x ST "value" "[B" (.ref t) ∧ RoadKit.Arv Z h' t kb .byte N (bs.map Value.int) (.int 0)
/-- **new String(chars) AT A CALL, FOR THE WRITER**: a char[] of n known ints, each 0 to 255 -/
theorem backV {p : Program} {l : Launch} {e : Env} {R : Room} {s : State} {args : Array Value} {below : List Frame} {len W : Nat} {Z : State} {a0 : Array Value} {h : Heap} (hZ : Z.Warmed39 s.vm) (hw : ∀ d ∈ words, d.before a0 Z = true) {kI : Nat} (wi : (Jvm.Cond.instantiable ST kI).before a0 Z = true)
    {x b : Addr} {kC : ClassId} {cs bs : List Int32} {d v0 c0 : Value} {z N : Int32} {n n0 : Nat} (hx0 : n0 ≤ x) (hh0 : n0 ≤ h.size) (E : RoadKit.Exa Z h x ST) (V : RoadKit.Fld Z h x ST "value" "[B" v0) (C : RoadKit.Fld Z h x ST "coder" "B" c0) (K : RoadKit.Arv Z h b kC .char N (cs.map Value.int) d) (S : RoadKit.Sta Z h ST "COMPACT_STRINGS" "Z" (.int z)) (hz : ¬ z = 0)
    (hn : cs.length = n) (hN : N = Int32.ofNat n) (l0 : 0 < n) (l2 : n ≤ 4000) (hp : ∀ c ∈ cs, ¬ c < 0 ∧ ¬ (255 : Int32) < c) (hb : bs = cs.map (fun c => c.toInt8.toInt32)) (hfr : 4 ≤ R.frames) (hlo : W + 65 ≤ R.locals) :
    Back l R p e below s args (⟨"java/lang/String", "<init>", "([C)V"⟩ : MethodName) len W (fun P a => a = #[.ref x, .ref b] ∧ P.U.heap = h ∧ P.cells + 1 ≤ R.cells ∧ P.slots + n ≤ R.slots)
      (fun P _ v B => ∃ L, QV Z x N bs h n0 v B.U.heap L ∧ B.locs = P.locs ++ L ∧ B.cells = P.cells + 1 ∧ B.slots = P.slots + n) := by
  subst hn hN hb
  refine Back.mono (backArv hZ hw wi E V C K S hz (n32 (by omega)) l0 (by omega) (fun c hc => (hp c hc).2) hfr hlo) (fun P a hp => hp) (fun P a v B hp hq => ?_)
  obtain ⟨L, ⟨q1, q2, q3, q4, q5, q6, q7, ⟨kb, v1, v2⟩, q9⟩, hl, hc, hs⟩ := hq
  exact ⟨L, ⟨q1, fun y hy => by rw [q2 y hy]; exact hx0, q3, q5, q7, h.size, kb, hh0, Nat.le_refl _, Nat.ne_of_gt E.lt, q6, by rw [List.map_map]; exact v2⟩, hl, hc, hs⟩
end StrChars.Road
end Jvm.Pilot.@@N@@
namespace Jvm.Pilot.@@N@@
open Jvm Jvm.ClassFile Sem Op Lib Jvm.Free Jvm.Stand Jvm.LawKit Jvm.RoadKit Bundle Jvm.Pilot.@@N@@.Jvm.D
theorem wd {a0 : Array Value} {Z : State} (hw : ∀ d ∈ tables_1, d.before a0 Z = true) (i : Nat) {d : Jvm.Cond} (h : tables_1[i]? = some d) : d.before a0 Z = true := hw _ (List.mem_of_getElem? h)
theorem own_sta_keep0 {Z : State} {h h' : Heap} {C n d : String} {w : Value} (F : Sta Z h C n d w) (K : Keep h h' []) : Sta Z h' C n d w := by
  obtain ⟨cf, i, k, f, st, cell, h1, h2, h3, h4, h5, r⟩ := F
  exact ⟨cf, i, k, f, st, cell, h1, h2, h3, h4, K.2.1 _ _ h5 nin0, r⟩
theorem own_rem32 (x y : Int32) : (x - (x / y) * y).toInt = x.toInt.tmod y.toInt := by
  rw [Int32.toInt_sub, Int32.toInt_mul, Int32.toInt_div]
  simp only [Int.bmod_mul_bmod, Int.sub_bmod_bmod]
  rw [Int.tmod_def, Int.mul_comm y.toInt]
  have h := Int32.toInt_mod x y
  have h1 := (x % y).toInt_lt
  have h2 := (x % y).le_toInt
  rw [h, Int.tmod_def, Int.mul_comm y.toInt] at h1 h2
  exact Int.bmod_eq_of_le (by omega) (by omega)
theorem own_nosub {Z : State} {a0 : Array Value} {C O K : String} {n : Nat} (wO : (Cond.noSuperclass O).before a0 Z = true) (wC : (Cond.superclass C O).before a0 Z = true) (wi : (Cond.instantiable K n).before a0 Z = true) (h1 : O ≠ K) (h2 : C ≠ K) : ∃ c t, Z.vm.findClass C = some c ∧ Z.vm.findClass K = some t ∧ Z.vm.assignable c t = false := by
  obtain ⟨t, kt, g1, g2, g3, g4, -, -⟩ := Cond.instantiable_spec wi
  obtain ⟨o, ko, o1, o2, o3, -, -⟩ := Cond.noSuperclass_spec wO
  have ne := ids_ne o1 g1 h1
  have n1 : NS Z O K := ⟨o, t, o1, g1, fun fuel => by
    cases fuel with
    | zero => rfl
    | succ f => simp [Vm.isSubclassAux, ne, o2, o3]⟩
  obtain ⟨c, t', q0, q1, n3⟩ := NS.step wC n1 h2
  cases g1.symm.trans q1
  obtain ⟨p, k, kp, a1, a2, a3, a4, a5, -, a7⟩ := Cond.superclass_spec q0 wC
  have ne2 := ids_ne q0 g1 h2
  have gi : kt.isInterface = false := by
    cases hq : kt.isInterface with
    | false => rfl
    | true => rw [hq] at g4; simp at g4
  refine ⟨c, t, q0, g1, ?_⟩
  show Z.vm.assignableAux (255 + 1) c t = false
  simp [Vm.assignableAux, ne2, a2, g2, a5, g3, gi, Vm.isSubclass, n3]
theorem own_ne_int {t : Term} {k v : Int32} {args : Array Value} {s : State} (h : (Cond.not (Cond.eq t (.int k))).before args s = true) (ht : t.eval args s none [] s = some (.int v)) : ¬ (v = k) := fun q => by
  have a := not_v (Cond.before_iff.mp h)
  have b : (Cond.eq t (.int k)).value args s none s [] = some true := eq_i ht (Term.int_eval k) (by rw [q])
  rw [b] at a
  cases a
theorem own_eq_ref {a b : Term} {args : Array Value} {s : State} {r : Addr} (h : (Cond.eq a b).value args s none s [] = some true) (hb : b.eval args s none [] s = some (.ref r)) : a.eval args s none [] s = some (.ref r) := by
  obtain ⟨x, y, h1, h2, k1, k2⟩ := cmp_v (Or.inl h)
  rw [hb] at h2
  obtain rfl := Option.some.inj h2
  have hx : x.isRef = true := by
    rcases (show (Value.ref r).isRef = true ∧ x.isRef = true from k2) with ⟨-, q⟩; exact q
  have q := eq_R h1 hb hx rfl
  rw [h] at q
  have : x = .ref r := by simpa using (Option.some.inj q).symm
  rw [h1, this]
theorem own_slot {t j : Term} {args : Array Value} {s : State} {x : Addr} {cl : Cell} {v : Value} {k : Int32} (h : (Term.elem t j).eval args s none [] s = some v) (ht : t.eval args s none [] s = some (.ref x)) (hj : j.eval args s none [] s = some (.int k)) (hc : s.heap[x]? = some cl) : cl.slots[k.toNatClampNeg]? = some v := (elem_in h ht hj hc).2
theorem own_len {t : Term} {args : Array Value} {s : State} {x : Addr} {cl : Cell} {k : Int32} (h : (Term.length t).eval args s none [] s = some (.int k)) (ht : t.eval args s none [] s = some (.ref x)) (hc : s.heap[x]? = some cl) : cl.slots.size.toInt32 = k ∧ cl.slots.size < 2 ^ 31 := by
  obtain ⟨a, c, e1, e2, e3⟩ := Term.length_spec h
  rw [ht] at e1
  obtain rfl := Value.ref.inj (Option.some.inj e1)
  have e4 := (State.arrayAt?_spec e2).1
  rw [hc] at e4
  obtain rfl := Option.some.inj e4
  refine ⟨(Value.int.inj e3).symm, ?_⟩
  by_cases q : cl.slots.size < 2 ^ 31
  · exact q
  · exfalso
    simp [Term.eval, ht, e2, q] at h
theorem own_isref {t : Term} {args : Array Value} {s : State} (h : (Cond.isRef t).value args s none s [] = some true) : ∃ v, t.eval args s none [] s = some v ∧ (v = .null ∨ ∃ r, v = .ref r) := by
  simp only [Cond.value] at h
  cases hv : t.eval args s none [] s with
  | none => rw [hv] at h; simp at h
  | some v => rw [hv] at h; cases v <;> simp_all
theorem own_safe_null {Z : State} {EL : List (String × Nat)} {vm : Vm} {h : Heap} {x : Addr} (hal : Z.vm.Alike vm) (E : Exa Z h x "java/lang/String") (F : Fld Z h x "java/lang/String" "value" "[B" .null) : Safe Z EL vm h x := fun B => by
  obtain ⟨p, -, u, a, -, q, -, G, rfl | rfl⟩ := B
  · obtain ⟨cS, ⟨⟨s1, s2, s3, ⟨cv, kv, iv, s4, s4'⟩, -, s6, -, s8, -⟩, -⟩, -⟩ := G
    obtain ⟨kv', z4⟩ := ff_back (U := Wst Z vm h) hal s4
    have K : Fld Z h q.sa "java/lang/String" "value" "[B" (.ref q.sd) := ⟨q.sC, cv, kv', iv, q.fSV, s1, z4, s6, s2, s3, by rw [← hal.assignable]; exact s4', s8⟩
    exact Fld.ne F K (fun e => nomatch e) rfl
  · obtain ⟨cell, k, e1, e2, -⟩ := E
    cases (show h[q.sd]? = some q.SA from G.hd).symm.trans e1
    obtain ⟨cS, -, -, f, -⟩ := G
    have f' : Z.vm.findClass "[B" = some q.SA.cls := by rw [← hal.findClass]; exact f
    exact ids_ne e2 f' (by decide) rfl
/-own-/
def own_pick4 (k a0 a1 a2 a3 : Int32) : Int32 := if k = 0 then a0 else if k = 1 then a1 else if k = 2 then a2 else a3
theorem own_is4 {k : Int32} (h0 : ¬ (k < (0 : Int32))) (h9 : k < (4 : Int32)) : k = 0 ∨ k = 1 ∨ k = 2 ∨ k = 3 := by
  have c0 : (0 : Int32).toInt = 0 := by decide
  have c9 : (4 : Int32).toInt = 4 := by decide
  rw [Int32.lt_iff_toInt_lt, c0] at h0
  rw [Int32.lt_iff_toInt_lt, c9] at h9
  have k0 : k.toInt = 0 ∨ k.toInt = 1 ∨ k.toInt = 2 ∨ k.toInt = 3 := by omega
  rcases k0 with q | q | q | q
  · exact Or.inl (Int32.toInt_inj.mp (by rw [q]; decide))
  · exact Or.inr (Or.inl (Int32.toInt_inj.mp (by rw [q]; decide)))
  · exact Or.inr (Or.inr (Or.inl (Int32.toInt_inj.mp (by rw [q]; decide))))
  · exact Or.inr (Or.inr (Or.inr ((Int32.toInt_inj.mp (by rw [q]; decide)))))
theorem own_get4 {k a0 a1 a2 a3 : Int32} (h0 : ¬ (k < (0 : Int32))) (h9 : k < (4 : Int32)) : ([.int a0, .int a1, .int a2, .int a3] : List Value).getD k.toNatClampNeg (.int (0 : Int32)) = .int (own_pick4 k a0 a1 a2 a3) := by
  rcases own_is4 h0 h9 with rfl | rfl | rfl | rfl <;> rfl
def own_pick6 (k a0 a1 a2 a3 a4 a5 : Int32) : Int32 := if k = 0 then a0 else if k = 1 then a1 else if k = 2 then a2 else if k = 3 then a3 else if k = 4 then a4 else a5
theorem own_is6 {k : Int32} (h0 : ¬ (k < (0 : Int32))) (h9 : k < (6 : Int32)) : k = 0 ∨ k = 1 ∨ k = 2 ∨ k = 3 ∨ k = 4 ∨ k = 5 := by
  have c0 : (0 : Int32).toInt = 0 := by decide
  have c9 : (6 : Int32).toInt = 6 := by decide
  rw [Int32.lt_iff_toInt_lt, c0] at h0
  rw [Int32.lt_iff_toInt_lt, c9] at h9
  have k0 : k.toInt = 0 ∨ k.toInt = 1 ∨ k.toInt = 2 ∨ k.toInt = 3 ∨ k.toInt = 4 ∨ k.toInt = 5 := by omega
  rcases k0 with q | q | q | q | q | q
  · exact Or.inl (Int32.toInt_inj.mp (by rw [q]; decide))
  · exact Or.inr (Or.inl (Int32.toInt_inj.mp (by rw [q]; decide)))
  · exact Or.inr (Or.inr (Or.inl (Int32.toInt_inj.mp (by rw [q]; decide))))
  · exact Or.inr (Or.inr (Or.inr (Or.inl (Int32.toInt_inj.mp (by rw [q]; decide)))))
  · exact Or.inr (Or.inr (Or.inr (Or.inr (Or.inl (Int32.toInt_inj.mp (by rw [q]; decide))))))
  · exact Or.inr (Or.inr (Or.inr (Or.inr (Or.inr ((Int32.toInt_inj.mp (by rw [q]; decide)))))))
theorem own_get6 {k a0 a1 a2 a3 a4 a5 : Int32} (h0 : ¬ (k < (0 : Int32))) (h9 : k < (6 : Int32)) : ([.int a0, .int a1, .int a2, .int a3, .int a4, .int a5] : List Value).getD k.toNatClampNeg (.int (0 : Int32)) = .int (own_pick6 k a0 a1 a2 a3 a4 a5) := by
  rcases own_is6 h0 h9 with rfl | rfl | rfl | rfl | rfl | rfl <;> rfl
def own_pick8 (k a0 a1 a2 a3 a4 a5 a6 a7 : Int32) : Int32 := if k = 0 then a0 else if k = 1 then a1 else if k = 2 then a2 else if k = 3 then a3 else if k = 4 then a4 else if k = 5 then a5 else if k = 6 then a6 else a7
theorem own_is8 {k : Int32} (h0 : ¬ (k < (0 : Int32))) (h9 : k < (8 : Int32)) : k = 0 ∨ k = 1 ∨ k = 2 ∨ k = 3 ∨ k = 4 ∨ k = 5 ∨ k = 6 ∨ k = 7 := by
  have c0 : (0 : Int32).toInt = 0 := by decide
  have c9 : (8 : Int32).toInt = 8 := by decide
  rw [Int32.lt_iff_toInt_lt, c0] at h0
  rw [Int32.lt_iff_toInt_lt, c9] at h9
  have k0 : k.toInt = 0 ∨ k.toInt = 1 ∨ k.toInt = 2 ∨ k.toInt = 3 ∨ k.toInt = 4 ∨ k.toInt = 5 ∨ k.toInt = 6 ∨ k.toInt = 7 := by omega
  rcases k0 with q | q | q | q | q | q | q | q
  · exact Or.inl (Int32.toInt_inj.mp (by rw [q]; decide))
  · exact Or.inr (Or.inl (Int32.toInt_inj.mp (by rw [q]; decide)))
  · exact Or.inr (Or.inr (Or.inl (Int32.toInt_inj.mp (by rw [q]; decide))))
  · exact Or.inr (Or.inr (Or.inr (Or.inl (Int32.toInt_inj.mp (by rw [q]; decide)))))
  · exact Or.inr (Or.inr (Or.inr (Or.inr (Or.inl (Int32.toInt_inj.mp (by rw [q]; decide))))))
  · exact Or.inr (Or.inr (Or.inr (Or.inr (Or.inr (Or.inl (Int32.toInt_inj.mp (by rw [q]; decide)))))))
  · exact Or.inr (Or.inr (Or.inr (Or.inr (Or.inr (Or.inr (Or.inl (Int32.toInt_inj.mp (by rw [q]; decide))))))))
  · exact Or.inr (Or.inr (Or.inr (Or.inr (Or.inr (Or.inr (Or.inr ((Int32.toInt_inj.mp (by rw [q]; decide)))))))))
theorem own_get8 {k a0 a1 a2 a3 a4 a5 a6 a7 : Int32} (h0 : ¬ (k < (0 : Int32))) (h9 : k < (8 : Int32)) : ([.int a0, .int a1, .int a2, .int a3, .int a4, .int a5, .int a6, .int a7] : List Value).getD k.toNatClampNeg (.int (0 : Int32)) = .int (own_pick8 k a0 a1 a2 a3 a4 a5 a6 a7) := by
  rcases own_is8 h0 h9 with rfl | rfl | rfl | rfl | rfl | rfl | rfl | rfl <;> rfl
theorem d9_0 : decode jdk_41_method_11_code 0 = .ok (.iload_n 0, 1) := by decide +kernel
theorem d9_1 : decode jdk_41_method_11_code 1 = .ok (.ifCond .lt 8, 3) := by decide +kernel
theorem d9_4 : decode jdk_41_method_11_code 4 = .ok (.iload_n 0, 1) := by decide +kernel
theorem d9_5 : decode jdk_41_method_11_code 5 = .ok (.iload_n 1, 1) := by decide +kernel
theorem d9_6 : decode jdk_41_method_11_code 6 = .ok (.if_icmp .lt 10, 3) := by decide +kernel
theorem d9_16 : decode jdk_41_method_11_code 16 = .ok (.iload_n 0, 1) := by decide +kernel
theorem d9_17 : decode jdk_41_method_11_code 17 = .ok (.ireturn, 1) := by decide +kernel
theorem pn_jdk_internal_util_Preconditions : plainName "jdk/internal/util/Preconditions" = true := by first | (simp [plainName, overriddenIn]; done) | decide +kernel
theorem ef_9 (m : MethodId) (p0 : Int32) (p1 : Int32) (o2 : Addr) : entryFrame m #[(.int p0), (.int p1), (.ref o2)] 3 = mkF m 0 #[.val (.int p0), .val (.int p1), .val (.ref o2)] [] := by first | (simp [entryFrame, mkF, argsToLocals, Value.category]; done) | rfl
def f9 (p0 : Int32) (p1 : Int32) : Int32 := p0
def Q9 (Z : State) (p0 : Int32) (p1 : Int32) (o2 : Addr) (h0 : Heap) (n0 : Nat) (v : Option Value) (h : Heap) (L : List Loc) : Prop := Fr n0 L ∧ v = some (.int (f9 p0 p1)) ∧ h = h0
set_option maxRecDepth 65536 in
set_option maxHeartbeats 40000000 in
theorem rm9 (l : Launch) (Z : State) (a0 : Array Value) (hw : ∀ d ∈ tables_1, d.before a0 Z = true) (ws : List Jvm.Cond) (p0 : Int32) (p1 : Int32) (o2 : Addr) (h0 : Heap) (n0 : Nat) (Z0 : n0 ≤ h0.size) (hy0 : ¬ (p0 < (0 : Int32))) (hy1 : p0 < p1) :
    MetFree l (⟨"jdk/internal/util/Preconditions", "checkIndex", "(IILjava/util/function/BiFunction;)I"⟩ : MethodName) (head1 (Jvm.Cond.code (⟨"jdk/internal/util/Preconditions", "checkIndex", "(IILjava/util/function/BiFunction;)I"⟩ : MethodName) jdk_41_method_11_code 3 (some .int) :: ws) ({ frames := 0, cells := 0, slots := 0, locals := 0 } : Room)) (fun a U => a = #[(.int p0), (.int p1), (.ref o2)] ∧ Z.Warmed39 U.vm ∧ U.heap = h0) (fun _ _ _ _ _ => True) (fun _ U o U' => ∃ v L, o = .returned v ∧ Q9 Z p0 p1 o2 h0 n0 v U'.heap L ∧ FrameEnd U o U' L ({ frames := 0, cells := 0, slots := 0, locals := 0 } : Room).cells ({ frames := 0, cells := 0, slots := 0, locals := 0 } : Room).slots) := by
  refine MetFree.of_bodySF (plainFor_of_name pn_jdk_internal_util_Preconditions) hisR ?_
  intro p e s m args below meth c s₁ Bd hml0 hP hK
  obtain ⟨rfl, hZ, hh⟩ := hP
  have hx := Bd.exec
  have hby := Bd.bytes
  have hml : c.maxLocals = 3 := hml0
  have hown : s.vm.findClass "jdk/internal/util/Preconditions" = some m.cls := findClass_of_methodNamed Bd.named
  have hnm := (name_of_methodNamed Bd.named Bd.method).1
  have hlk := BodyLoose.notSynchronized Bd
  have X0 : Stand p l e ({ frames := 0, cells := 0, slots := 0, locals := 0 } : Room) s m #[(.int p0), (.int p1), (.ref o2)] below meth c s₁ [] 0 0 := Stand.of_body Bd
  have e0 : s₁.heap = h0 := by rw [← hh, Bd.state]; rfl
  have N0 := Fr.nil n0
  have pre0 : ∀ t, Steps p.tables e below (s₁.setTop (mkF m 0 #[.val (.int p0), .val (.int p1), .val (.ref o2)] [])) t → Steps p.tables e below (s₁.setTop (entryFrame m #[(.int p0), (.int p1), (.ref o2)] 3)) t := fun t k => castTop (ef_9 m p0 p1 o2) k
  obtain ⟨fs, hr, hrun, hended, hW, hsame⟩ := X0.leave (v := some (.int p0)) (fun h => by rw [Bd.returns] at h; cases h) hlk
  refine ⟨_, _, pre0 _ ?_, hrun, hended, _, _, rfl, ?_, ⟨_, rfl⟩, hW, hsame.mono (by decide) (by decide)⟩
  · skip
    show Steps p.tables e below (s₁.setTop (mkF m 0 #[.val (.int p0), .val (.int p1), .val (.ref o2)] [])) _
    refine XS.iloadN X0.here hx rfl (hb hby d9_0) rfl ?_
    show Steps p.tables e below (s₁.setTop (mkF m 1 #[.val (.int p0), .val (.int p1), .val (.ref o2)] [(.int p0)])) _
    refine XS.ifNo X0.here hx rfl (hb hby d9_1) rfl (XT.i0_lt_f hy0) ?_
    refine XS.iloadN X0.here hx rfl (hb hby d9_4) rfl ?_
    refine XS.iloadN X0.here hx rfl (hb hby d9_5) rfl ?_
    show Steps p.tables e below (s₁.setTop (mkF m 6 #[.val (.int p0), .val (.int p1), .val (.ref o2)] [(.int p1), (.int p0)])) _
    refine XS.icmpYes X0.here hx rfl (pc0 := 6) (pc' := 16) rfl (hb hby d9_6) rfl (XT.ii_lt_t hy1) (by decide) (by decide) ?_
    refine XS.iloadN X0.here hx rfl (hb hby d9_16) rfl ?_
    show Steps p.tables e below (s₁.setTop (mkF m 17 #[.val (.int p0), .val (.int p1), .val (.ref o2)] [(.int p0)])) _
    exact retI X0 hx Bd.returns (hb hby d9_17) hr
  · skip
    show Q9 Z p0 p1 o2 h0 n0 _ s₁.heap _
    rw [e0]
    exact ⟨N0, rfl, rfl⟩
theorem ef_pcN (m : MethodId) (p0 : Int32) (p1 : Int32) : entryFrame m #[(.int p0), (.int p1), .null] 3 = mkF m 0 #[.val (.int p0), .val (.int p1), .val .null] [] := by first | (simp [entryFrame, mkF, argsToLocals, Value.category]; done) | rfl
def fpcN (p0 : Int32) (p1 : Int32) : Int32 := p0
def QpcN (Z : State) (p0 : Int32) (p1 : Int32) (h0 : Heap) (n0 : Nat) (v : Option Value) (h : Heap) (L : List Loc) : Prop := Fr n0 L ∧ v = some (.int (fpcN p0 p1)) ∧ h = h0
set_option maxRecDepth 65536 in
set_option maxHeartbeats 40000000 in
theorem rmpcN (l : Launch) (Z : State) (a0 : Array Value) (hw : ∀ d ∈ tables_1, d.before a0 Z = true) (ws : List Jvm.Cond) (p0 : Int32) (p1 : Int32) (h0 : Heap) (n0 : Nat) (Z0 : n0 ≤ h0.size) (hy0 : ¬ (p0 < (0 : Int32))) (hy1 : p0 < p1) :
    MetFree l (⟨"jdk/internal/util/Preconditions", "checkIndex", "(IILjava/util/function/BiFunction;)I"⟩ : MethodName) (head1 (Jvm.Cond.code (⟨"jdk/internal/util/Preconditions", "checkIndex", "(IILjava/util/function/BiFunction;)I"⟩ : MethodName) jdk_41_method_11_code 3 (some .int) :: ws) ({ frames := 0, cells := 0, slots := 0, locals := 0 } : Room)) (fun a U => a = #[(.int p0), (.int p1), .null] ∧ Z.Warmed39 U.vm ∧ U.heap = h0) (fun _ _ _ _ _ => True) (fun _ U o U' => ∃ v L, o = .returned v ∧ QpcN Z p0 p1 h0 n0 v U'.heap L ∧ FrameEnd U o U' L ({ frames := 0, cells := 0, slots := 0, locals := 0 } : Room).cells ({ frames := 0, cells := 0, slots := 0, locals := 0 } : Room).slots) := by
  refine MetFree.of_bodySF (plainFor_of_name pn_jdk_internal_util_Preconditions) hisR ?_
  intro p e s m args below meth c s₁ Bd hml0 hP hK
  obtain ⟨rfl, hZ, hh⟩ := hP
  have hx := Bd.exec
  have hby := Bd.bytes
  have hml : c.maxLocals = 3 := hml0
  have hown : s.vm.findClass "jdk/internal/util/Preconditions" = some m.cls := findClass_of_methodNamed Bd.named
  have hnm := (name_of_methodNamed Bd.named Bd.method).1
  have hlk := BodyLoose.notSynchronized Bd
  have X0 : Stand p l e ({ frames := 0, cells := 0, slots := 0, locals := 0 } : Room) s m #[(.int p0), (.int p1), .null] below meth c s₁ [] 0 0 := Stand.of_body Bd
  have e0 : s₁.heap = h0 := by rw [← hh, Bd.state]; rfl
  have N0 := Fr.nil n0
  have pre0 : ∀ t, Steps p.tables e below (s₁.setTop (mkF m 0 #[.val (.int p0), .val (.int p1), .val .null] [])) t → Steps p.tables e below (s₁.setTop (entryFrame m #[(.int p0), (.int p1), .null] 3)) t := fun t k => castTop (ef_pcN m p0 p1) k
  obtain ⟨fs, hr, hrun, hended, hW, hsame⟩ := X0.leave (v := some (.int p0)) (fun h => by rw [Bd.returns] at h; cases h) hlk
  refine ⟨_, _, pre0 _ ?_, hrun, hended, _, _, rfl, ?_, ⟨_, rfl⟩, hW, hsame.mono (by decide) (by decide)⟩
  · skip
    show Steps p.tables e below (s₁.setTop (mkF m 0 #[.val (.int p0), .val (.int p1), .val .null] [])) _
    refine XS.iloadN X0.here hx rfl (hb hby d9_0) rfl ?_
    show Steps p.tables e below (s₁.setTop (mkF m 1 #[.val (.int p0), .val (.int p1), .val .null] [(.int p0)])) _
    refine XS.ifNo X0.here hx rfl (hb hby d9_1) rfl (XT.i0_lt_f hy0) ?_
    refine XS.iloadN X0.here hx rfl (hb hby d9_4) rfl ?_
    refine XS.iloadN X0.here hx rfl (hb hby d9_5) rfl ?_
    show Steps p.tables e below (s₁.setTop (mkF m 6 #[.val (.int p0), .val (.int p1), .val .null] [(.int p1), (.int p0)])) _
    refine XS.icmpYes X0.here hx rfl (pc0 := 6) (pc' := 16) rfl (hb hby d9_6) rfl (XT.ii_lt_t hy1) (by decide) (by decide) ?_
    refine XS.iloadN X0.here hx rfl (hb hby d9_16) rfl ?_
    show Steps p.tables e below (s₁.setTop (mkF m 17 #[.val (.int p0), .val (.int p1), .val .null] [(.int p0)])) _
    exact retI X0 hx Bd.returns (hb hby d9_17) hr
  · skip
    show QpcN Z p0 p1 h0 n0 _ s₁.heap _
    rw [e0]
    exact ⟨N0, rfl, rfl⟩
theorem pd__IILjava_util_function_BiFunction__I : parseMethodDescriptor "(IILjava/util/function/BiFunction;)I" = some ⟨[.int, .int, (.object "java/util/function/BiFunction")], some .int⟩ := by decide +kernel
theorem d8_0 : decode jdk_42_method_155_code 0 = .ok (.iload_n 0, 1) := by decide +kernel
theorem d8_1 : decode jdk_42_method_155_code 1 = .ok (.iload_n 1, 1) := by decide +kernel
theorem d8_2 : decode jdk_42_method_155_code 2 = .ok (.getstatic 1053, 3) := by decide +kernel
theorem d8_5 : decode jdk_42_method_155_code 5 = .ok (.invokestatic 1059, 3) := by decide +kernel
theorem d8_8 : decode jdk_42_method_155_code 8 = .ok (.pop, 1) := by decide +kernel
theorem d8_9 : decode jdk_42_method_155_code 9 = .ok (.return_, 1) := by decide +kernel
theorem pn_java_lang_String : plainName "java/lang/String" = true := by first | (simp [plainName, overriddenIn]; done) | decide +kernel
theorem ef_ckR (m : MethodId) (p0 : Int32) (p1 : Int32) : entryFrame m #[(.int p0), (.int p1)] 2 = mkF m 0 #[.val (.int p0), .val (.int p1)] [] := by first | (simp [entryFrame, mkF, argsToLocals, Value.category]; done) | rfl
def QckR (Z : State) (p0 : Int32) (p1 : Int32) (w0_SIOOBE_FORMATTER : Addr) (h0 : Heap) (n0 : Nat) (v : Option Value) (h : Heap) (L : List Loc) : Prop := Fr n0 L ∧ v = none ∧ h = h0
set_option maxRecDepth 65536 in
set_option maxHeartbeats 40000000 in
theorem rmckR (l : Launch) (Z : State) (a0 : Array Value) (hw : ∀ d ∈ tables_1, d.before a0 Z = true) (ws : List Jvm.Cond) (p0 : Int32) (p1 : Int32) (w0_SIOOBE_FORMATTER : Addr) (h0 : Heap) (n0 : Nat) (Z0 : n0 ≤ h0.size) (S_Preconditions_SIOOBE_FORMATTER : Sta Z h0 "jdk/internal/util/Preconditions" "SIOOBE_FORMATTER" "Ljava/util/function/BiFunction;" (.ref w0_SIOOBE_FORMATTER)) (hy0 : ¬ (p0 < (0 : Int32))) (hy1 : p0 < p1) :
    MetFree l (⟨"java/lang/String", "checkIndex", "(II)V"⟩ : MethodName) (head1 (Jvm.Cond.code (⟨"java/lang/String", "checkIndex", "(II)V"⟩ : MethodName) jdk_42_method_155_code 2 none :: ws) ({ frames := 1, cells := 0, slots := 0, locals := 14 } : Room)) (fun a U => a = #[(.int p0), (.int p1)] ∧ Z.Warmed39 U.vm ∧ U.heap = h0) (fun _ _ _ _ _ => True) (fun _ U o U' => ∃ v L, o = .returned v ∧ QckR Z p0 p1 w0_SIOOBE_FORMATTER h0 n0 v U'.heap L ∧ FrameEnd U o U' L ({ frames := 1, cells := 0, slots := 0, locals := 14 } : Room).cells ({ frames := 1, cells := 0, slots := 0, locals := 14 } : Room).slots) := by
  refine MetFree.of_bodySF (plainFor_of_name pn_java_lang_String) hisR ?_
  intro p e s m args below meth c s₁ Bd hml0 hP hK
  obtain ⟨rfl, hZ, hh⟩ := hP
  have hx := Bd.exec
  have hby := Bd.bytes
  have hml : c.maxLocals = 2 := hml0
  have hown : s.vm.findClass "java/lang/String" = some m.cls := findClass_of_methodNamed Bd.named
  have hnm := (name_of_methodNamed Bd.named Bd.method).1
  have hlk := BodyLoose.notSynchronized Bd
  have X0 : Stand p l e ({ frames := 1, cells := 0, slots := 0, locals := 14 } : Room) s m #[(.int p0), (.int p1)] below meth c s₁ [] 0 0 := Stand.of_body Bd
  have e0 : s₁.heap = h0 := by rw [← hh, Bd.state]; rfl
  have N0 := Fr.nil n0
  have pre0 : ∀ t, Steps p.tables e below (s₁.setTop (mkF m 0 #[.val (.int p0), .val (.int p1)] [])) t → Steps p.tables e below (s₁.setTop (entryFrame m #[(.int p0), (.int p1)] 2)) t := fun t k => castTop (ef_ckR m p0 p1) k
  obtain ⟨T1, X1, e1, st1⟩ := getS2 X0 hx hZ hown (host := "") (Or.inl (wd hw 47 rfl)) Via.refl e0 S_Preconditions_SIOOBE_FORMATTER (g := (mkF m 2 #[.val (.int p0), .val (.int p1)] [(.int p1), (.int p0)])) rfl (hb hby d8_2)
  obtain ⟨vr2, _, ⟨T2, L2, k2, n2⟩, -, X2, ⟨Lc2, hQ2, l2, y2, z2⟩, st2⟩ := Jvm.LawKit.callS X1 hx (y := (⟨"jdk/internal/util/Preconditions", "checkIndex", "(IILjava/util/function/BiFunction;)I"⟩ : MethodName)) hown (mvT hZ (wd hw 49 rfl)) (mvT hZ (wd hw 50 rfl)) (mvT hZ (wd hw 48 rfl)) (mvT hZ (wd hw 51 rfl)) (by decide) (backOf (W := 0) (rm9 l Z a0 hw [] p0 p1 w0_SIOOBE_FORMATTER h0 n0 Z0 hy0 hy1) hZ (wd hw 51 rfl) (wd hw 48 rfl) (by decide) (by decide)) (g := (mkF m 5 #[.val (.int p0), .val (.int p1)] [(.ref w0_SIOOBE_FORMATTER), (.int p1), (.int p0)])) rfl (by rw [hml]; rfl) (argsL := [(.int p0), (.int p1), (.ref w0_SIOOBE_FORMATTER)]) (rest := []) (lenOf pd__IILjava_util_function_BiFunction__I rfl) rfl (by show 2 * 0 + _ ≤ _; exact Nat.le_of_eq rfl) (hb hby d8_5) (fun _ _ => ⟨rfl, e1, (by decide : 0 + 0 ≤ _), (by decide : 0 + 0 ≤ _)⟩)
  dsimp only [Pt.U, Pt.locs, Pt.cells, Pt.slots] at X2 l2 y2 z2 st2 hQ2
  replace X2 := own_stand X2 l2 y2 z2
  clear l2 y2 z2
  have N2q := (show _ ∧ _ ∧ _ from hQ2).1
  have hv2 := (show _ ∧ _ ∧ _ from hQ2).2.1
  have e2 := (show _ ∧ _ ∧ _ from hQ2).2.2
  clear hQ2
  subst hv2
  have N2 := Fr.app N0 N2q
  obtain ⟨fs, hr, hrun, hended, hW, hsame⟩ := X2.leave (v := none) (fun _ => rfl) hlk
  refine ⟨_, _, pre0 _ ?_, hrun, hended, _, _, rfl, ?_, ⟨_, rfl⟩, hW, hsame.mono (by decide) (by decide)⟩
  · skip
    show Steps p.tables e below (s₁.setTop (mkF m 0 #[.val (.int p0), .val (.int p1)] [])) _
    refine XS.iloadN X0.here hx rfl (hb hby d8_0) rfl ?_
    refine XS.iloadN X0.here hx rfl (hb hby d8_1) rfl ?_
    show Steps p.tables e below (s₁.setTop (mkF m 2 #[.val (.int p0), .val (.int p1)] [(.int p1), (.int p0)])) _
    refine st1 _ ?_
    show Steps p.tables e below (T1.setTop (mkF m 5 #[.val (.int p0), .val (.int p1)] [(.ref w0_SIOOBE_FORMATTER), (.int p1), (.int p0)])) _
    refine st2 _ ?_
    refine XT.pop X2.here hx rfl (hb hby d8_8) rfl rfl ?_
    show Steps p.tables e below (T2.setTop (mkF m 9 #[.val (.int p0), .val (.int p1)] [])) _
    exact X2.returnOut hx Bd.returns (hb hby d8_9) hr
  · skip
    show QckR Z p0 p1 w0_SIOOBE_FORMATTER h0 n0 _ T2.heap _
    rw [e2]
    exact ⟨N2, rfl, rfl⟩
theorem ef_ckN (m : MethodId) (p0 : Int32) (p1 : Int32) : entryFrame m #[(.int p0), (.int p1)] 2 = mkF m 0 #[.val (.int p0), .val (.int p1)] [] := by first | (simp [entryFrame, mkF, argsToLocals, Value.category]; done) | rfl
def QckN (Z : State) (p0 : Int32) (p1 : Int32) (h0 : Heap) (n0 : Nat) (v : Option Value) (h : Heap) (L : List Loc) : Prop := Fr n0 L ∧ v = none ∧ h = h0
set_option maxRecDepth 65536 in
set_option maxHeartbeats 40000000 in
theorem rmckN (l : Launch) (Z : State) (a0 : Array Value) (hw : ∀ d ∈ tables_1, d.before a0 Z = true) (ws : List Jvm.Cond) (p0 : Int32) (p1 : Int32) (h0 : Heap) (n0 : Nat) (Z0 : n0 ≤ h0.size) (S_Preconditions_SIOOBE_FORMATTER : Sta Z h0 "jdk/internal/util/Preconditions" "SIOOBE_FORMATTER" "Ljava/util/function/BiFunction;" .null) (hy0 : ¬ (p0 < (0 : Int32))) (hy1 : p0 < p1) :
    MetFree l (⟨"java/lang/String", "checkIndex", "(II)V"⟩ : MethodName) (head1 (Jvm.Cond.code (⟨"java/lang/String", "checkIndex", "(II)V"⟩ : MethodName) jdk_42_method_155_code 2 none :: ws) ({ frames := 1, cells := 0, slots := 0, locals := 14 } : Room)) (fun a U => a = #[(.int p0), (.int p1)] ∧ Z.Warmed39 U.vm ∧ U.heap = h0) (fun _ _ _ _ _ => True) (fun _ U o U' => ∃ v L, o = .returned v ∧ QckN Z p0 p1 h0 n0 v U'.heap L ∧ FrameEnd U o U' L ({ frames := 1, cells := 0, slots := 0, locals := 14 } : Room).cells ({ frames := 1, cells := 0, slots := 0, locals := 14 } : Room).slots) := by
  refine MetFree.of_bodySF (plainFor_of_name pn_java_lang_String) hisR ?_
  intro p e s m args below meth c s₁ Bd hml0 hP hK
  obtain ⟨rfl, hZ, hh⟩ := hP
  have hx := Bd.exec
  have hby := Bd.bytes
  have hml : c.maxLocals = 2 := hml0
  have hown : s.vm.findClass "java/lang/String" = some m.cls := findClass_of_methodNamed Bd.named
  have hnm := (name_of_methodNamed Bd.named Bd.method).1
  have hlk := BodyLoose.notSynchronized Bd
  have X0 : Stand p l e ({ frames := 1, cells := 0, slots := 0, locals := 14 } : Room) s m #[(.int p0), (.int p1)] below meth c s₁ [] 0 0 := Stand.of_body Bd
  have e0 : s₁.heap = h0 := by rw [← hh, Bd.state]; rfl
  have N0 := Fr.nil n0
  have pre0 : ∀ t, Steps p.tables e below (s₁.setTop (mkF m 0 #[.val (.int p0), .val (.int p1)] [])) t → Steps p.tables e below (s₁.setTop (entryFrame m #[(.int p0), (.int p1)] 2)) t := fun t k => castTop (ef_ckN m p0 p1) k
  obtain ⟨T1, X1, e1, st1⟩ := getS2 X0 hx hZ hown (host := "") (Or.inl (wd hw 47 rfl)) Via.refl e0 S_Preconditions_SIOOBE_FORMATTER (g := (mkF m 2 #[.val (.int p0), .val (.int p1)] [(.int p1), (.int p0)])) rfl (hb hby d8_2)
  obtain ⟨vr2, _, ⟨T2, L2, k2, n2⟩, -, X2, ⟨Lc2, hQ2, l2, y2, z2⟩, st2⟩ := Jvm.LawKit.callS X1 hx (y := (⟨"jdk/internal/util/Preconditions", "checkIndex", "(IILjava/util/function/BiFunction;)I"⟩ : MethodName)) hown (mvT hZ (wd hw 49 rfl)) (mvT hZ (wd hw 50 rfl)) (mvT hZ (wd hw 48 rfl)) (mvT hZ (wd hw 51 rfl)) (by decide) (backOf (W := 0) (rmpcN l Z a0 hw [] p0 p1 h0 n0 Z0 hy0 hy1) hZ (wd hw 51 rfl) (wd hw 48 rfl) (by decide) (by decide)) (g := (mkF m 5 #[.val (.int p0), .val (.int p1)] [.null, (.int p1), (.int p0)])) rfl (by rw [hml]; rfl) (argsL := [(.int p0), (.int p1), .null]) (rest := []) (lenOf pd__IILjava_util_function_BiFunction__I rfl) rfl (by show 2 * 0 + _ ≤ _; exact Nat.le_of_eq rfl) (hb hby d8_5) (fun _ _ => ⟨rfl, e1, (by decide : 0 + 0 ≤ _), (by decide : 0 + 0 ≤ _)⟩)
  dsimp only [Pt.U, Pt.locs, Pt.cells, Pt.slots] at X2 l2 y2 z2 st2 hQ2
  replace X2 := own_stand X2 l2 y2 z2
  clear l2 y2 z2
  have N2q := (show _ ∧ _ ∧ _ from hQ2).1
  have hv2 := (show _ ∧ _ ∧ _ from hQ2).2.1
  have e2 := (show _ ∧ _ ∧ _ from hQ2).2.2
  clear hQ2
  subst hv2
  have N2 := Fr.app N0 N2q
  obtain ⟨fs, hr, hrun, hended, hW, hsame⟩ := X2.leave (v := none) (fun _ => rfl) hlk
  refine ⟨_, _, pre0 _ ?_, hrun, hended, _, _, rfl, ?_, ⟨_, rfl⟩, hW, hsame.mono (by decide) (by decide)⟩
  · skip
    show Steps p.tables e below (s₁.setTop (mkF m 0 #[.val (.int p0), .val (.int p1)] [])) _
    refine XS.iloadN X0.here hx rfl (hb hby d8_0) rfl ?_
    refine XS.iloadN X0.here hx rfl (hb hby d8_1) rfl ?_
    show Steps p.tables e below (s₁.setTop (mkF m 2 #[.val (.int p0), .val (.int p1)] [(.int p1), (.int p0)])) _
    refine st1 _ ?_
    show Steps p.tables e below (T1.setTop (mkF m 5 #[.val (.int p0), .val (.int p1)] [.null, (.int p1), (.int p0)])) _
    refine st2 _ ?_
    refine XT.pop X2.here hx rfl (hb hby d8_8) rfl rfl ?_
    show Steps p.tables e below (T2.setTop (mkF m 9 #[.val (.int p0), .val (.int p1)] [])) _
    exact X2.returnOut hx Bd.returns (hb hby d8_9) hr
  · skip
    show QckN Z p0 p1 h0 n0 _ T2.heap _
    rw [e2]
    exact ⟨N2, rfl, rfl⟩
def Qck (n0 : Nat) (h0 : Heap) (v : Option Value) (h : Heap) (L : List Loc) : Prop := Fr n0 L ∧ v = none ∧ h = h0
theorem own_ck (l : Launch) (Z : State) (a0 : Array Value) (hw : ∀ d ∈ tables_1, d.before a0 Z = true) (ws : List Jvm.Cond) (p0 : Int32) (p1 : Int32) (u0_SIOOBE_FORMATTER : Value) (h0 : Heap) (n0 : Nat) (Z0 : n0 ≤ h0.size) (S_Preconditions_SIOOBE_FORMATTER : Sta Z h0 "jdk/internal/util/Preconditions" "SIOOBE_FORMATTER" "Ljava/util/function/BiFunction;" u0_SIOOBE_FORMATTER) (hu : u0_SIOOBE_FORMATTER = .null ∨ ∃ r, u0_SIOOBE_FORMATTER = .ref r) (hy0 : ¬ (p0 < (0 : Int32))) (hy1 : p0 < p1) :
    MetFree l (⟨"java/lang/String", "checkIndex", "(II)V"⟩ : MethodName) (head1 (Jvm.Cond.code (⟨"java/lang/String", "checkIndex", "(II)V"⟩ : MethodName) jdk_42_method_155_code 2 none :: ws) ({ frames := 1, cells := 0, slots := 0, locals := 14 } : Room)) (fun a U => a = #[(.int p0), (.int p1)] ∧ Z.Warmed39 U.vm ∧ U.heap = h0) (fun _ _ _ _ _ => True) (fun _ U o U' => ∃ v L, o = .returned v ∧ Qck n0 h0 v U'.heap L ∧ FrameEnd U o U' L ({ frames := 1, cells := 0, slots := 0, locals := 14 } : Room).cells ({ frames := 1, cells := 0, slots := 0, locals := 14 } : Room).slots) := by
  rcases hu with rfl | ⟨r, rfl⟩
  · exact rmckN l Z a0 hw ws p0 p1 h0 n0 Z0 S_Preconditions_SIOOBE_FORMATTER hy0 hy1
  · exact rmckR l Z a0 hw ws p0 p1 r h0 n0 Z0 S_Preconditions_SIOOBE_FORMATTER hy0 hy1
theorem d6_0 : decode jdk_42_method_154_code 0 = .ok (.getstatic 38, 3) := by decide +kernel
theorem d6_3 : decode jdk_42_method_154_code 3 = .ok (.ifCond .eq 14, 3) := by decide +kernel
theorem d6_6 : decode jdk_42_method_154_code 6 = .ok (.aload_n 0, 1) := by decide +kernel
theorem d6_7 : decode jdk_42_method_154_code 7 = .ok (.getfield 15, 3) := by decide +kernel
theorem d6_10 : decode jdk_42_method_154_code 10 = .ok (.ifCond .ne 7, 3) := by decide +kernel
theorem d6_13 : decode jdk_42_method_154_code 13 = .ok (.iconst 1, 1) := by decide +kernel
theorem d6_14 : decode jdk_42_method_154_code 14 = .ok (.goto 4, 3) := by decide +kernel
theorem d6_18 : decode jdk_42_method_154_code 18 = .ok (.ireturn, 1) := by decide +kernel
theorem ef_6 (m : MethodId) (o0 : Addr) : entryFrame m #[(.ref o0)] 1 = mkF m 0 #[.val (.ref o0)] [] := by first | (simp [entryFrame, mkF, argsToLocals, Value.category]; done) | rfl
def f6 (w0_COMPACT_STRINGS : Int32) : Int32 := (1 : Int32)
def Q6 (Z : State) (o0 : Addr) (w0_COMPACT_STRINGS : Int32) (h0 : Heap) (n0 : Nat) (v : Option Value) (h : Heap) (L : List Loc) : Prop := Fr n0 L ∧ v = some (.int (f6 w0_COMPACT_STRINGS)) ∧ h = h0
set_option maxRecDepth 65536 in
set_option maxHeartbeats 40000000 in
theorem rm6 (l : Launch) (Z : State) (a0 : Array Value) (hw : ∀ d ∈ tables_1, d.before a0 Z = true) (ws : List Jvm.Cond) (o0 : Addr) (w0_COMPACT_STRINGS : Int32) (h0 : Heap) (n0 : Nat) (Z0 : n0 ≤ h0.size) (E_o0 : Exa Z h0 o0 "java/lang/String") (F_coder_o0 : Fld Z h0 o0 "java/lang/String" "coder" "B" (.int (0 : Int32))) (S_String_COMPACT_STRINGS : Sta Z h0 "java/lang/String" "COMPACT_STRINGS" "Z" (.int w0_COMPACT_STRINGS)) (hy0 : ¬ (w0_COMPACT_STRINGS = (0 : Int32))) :
    MetFree l (⟨"java/lang/String", "isLatin1", "()Z"⟩ : MethodName) (head1 (Jvm.Cond.code (⟨"java/lang/String", "isLatin1", "()Z"⟩ : MethodName) jdk_42_method_154_code 1 (some .boolean) :: ws) ({ frames := 0, cells := 0, slots := 0, locals := 0 } : Room)) (fun a U => a = #[(.ref o0)] ∧ Z.Warmed39 U.vm ∧ U.heap = h0) (fun _ _ _ _ _ => True) (fun _ U o U' => ∃ v L, o = .returned v ∧ Q6 Z o0 w0_COMPACT_STRINGS h0 n0 v U'.heap L ∧ FrameEnd U o U' L ({ frames := 0, cells := 0, slots := 0, locals := 0 } : Room).cells ({ frames := 0, cells := 0, slots := 0, locals := 0 } : Room).slots) := by
  refine MetFree.of_bodySF (plainFor_of_name pn_java_lang_String) hisR ?_
  intro p e s m args below meth c s₁ Bd hml0 hP hK
  obtain ⟨rfl, hZ, hh⟩ := hP
  have hx := Bd.exec
  have hby := Bd.bytes
  have hml : c.maxLocals = 1 := hml0
  have hown : s.vm.findClass "java/lang/String" = some m.cls := findClass_of_methodNamed Bd.named
  have hnm := (name_of_methodNamed Bd.named Bd.method).1
  have hlk := BodyLoose.notSynchronized Bd
  have X0 : Stand p l e ({ frames := 0, cells := 0, slots := 0, locals := 0 } : Room) s m #[(.ref o0)] below meth c s₁ [] 0 0 := Stand.of_body Bd
  have e0 : s₁.heap = h0 := by rw [← hh, Bd.state]; rfl
  have N0 := Fr.nil n0
  have pre0 : ∀ t, Steps p.tables e below (s₁.setTop (mkF m 0 #[.val (.ref o0)] [])) t → Steps p.tables e below (s₁.setTop (entryFrame m #[(.ref o0)] 1)) t := fun t k => castTop (ef_6 m o0) k
  obtain ⟨T1, X1, e1, st1⟩ := getS2 X0 hx hZ hown (host := "") (Or.inl (wd hw 28 rfl)) Via.refl e0 S_String_COMPACT_STRINGS (g := (mkF m 0 #[.val (.ref o0)] [])) rfl (hb hby d6_0)
  obtain ⟨T2, X2, e2, st2⟩ := getF X1 hx hZ hown (host := "") (Or.inl (wd hw 29 rfl)) Via.refl e1 F_coder_o0 (g := (mkF m 7 #[.val (.ref o0)] [(.ref o0)])) rfl rfl (hb hby d6_7)
  obtain ⟨fs, hr, hrun, hended, hW, hsame⟩ := X2.leave (v := some (.int (1 : Int32))) (fun h => by rw [Bd.returns] at h; cases h) hlk
  refine ⟨_, _, pre0 _ ?_, hrun, hended, _, _, rfl, ?_, ⟨_, rfl⟩, hW, hsame.mono (by decide) (by decide)⟩
  · skip
    show Steps p.tables e below (s₁.setTop (mkF m 0 #[.val (.ref o0)] [])) _
    refine st1 _ ?_
    show Steps p.tables e below (T1.setTop (mkF m 3 #[.val (.ref o0)] [(.int w0_COMPACT_STRINGS)])) _
    refine XS.ifNo X1.here hx rfl (hb hby d6_3) rfl (XT.i0_eq_f hy0) ?_
    refine XS.aloadN X1.here hx rfl (hb hby d6_6) rfl rfl ?_
    show Steps p.tables e below (T1.setTop (mkF m 7 #[.val (.ref o0)] [(.ref o0)])) _
    refine st2 _ ?_
    show Steps p.tables e below (T2.setTop (mkF m 10 #[.val (.ref o0)] [(.int (0 : Int32))])) _
    refine XS.ifNo X2.here hx rfl (hb hby d6_10) rfl (XT.i0_ne_f (by decide)) ?_
    refine XT.iconstV X2.here hx rfl (1 : Int32) (hb hby d6_13) (by decide) ?_
    show Steps p.tables e below (T2.setTop (mkF m 14 #[.val (.ref o0)] [(.int (1 : Int32))])) _
    refine XS.goto X2.here hx rfl (pc0 := 14) (pc' := 18) rfl (hb hby d6_14) (by decide) (by decide) ?_
    show Steps p.tables e below (T2.setTop (mkF m 18 #[.val (.ref o0)] [(.int (1 : Int32))])) _
    exact retN X2 hx (t := .boolean) Bd.returns (by simp) (hb hby d6_18) hr
  · skip
    show Q6 Z o0 w0_COMPACT_STRINGS h0 n0 _ T2.heap _
    rw [e2]
    exact ⟨N0, rfl, rfl⟩
theorem d4_0 : decode jdk_42_method_152_code 0 = .ok (.getstatic 38, 3) := by decide +kernel
theorem d4_3 : decode jdk_42_method_152_code 3 = .ok (.ifCond .eq 10, 3) := by decide +kernel
theorem d4_6 : decode jdk_42_method_152_code 6 = .ok (.aload_n 0, 1) := by decide +kernel
theorem d4_7 : decode jdk_42_method_152_code 7 = .ok (.getfield 15, 3) := by decide +kernel
theorem d4_10 : decode jdk_42_method_152_code 10 = .ok (.goto 4, 3) := by decide +kernel
theorem d4_14 : decode jdk_42_method_152_code 14 = .ok (.ireturn, 1) := by decide +kernel
theorem ef_4 (m : MethodId) (o0 : Addr) : entryFrame m #[(.ref o0)] 1 = mkF m 0 #[.val (.ref o0)] [] := by first | (simp [entryFrame, mkF, argsToLocals, Value.category]; done) | rfl
def f4 (w0_COMPACT_STRINGS : Int32) : Int32 := (nar .byte (0 : Int32))
def Q4 (Z : State) (o0 : Addr) (w0_COMPACT_STRINGS : Int32) (h0 : Heap) (n0 : Nat) (v : Option Value) (h : Heap) (L : List Loc) : Prop := Fr n0 L ∧ v = some (.int (f4 w0_COMPACT_STRINGS)) ∧ h = h0
set_option maxRecDepth 65536 in
set_option maxHeartbeats 40000000 in
theorem rm4 (l : Launch) (Z : State) (a0 : Array Value) (hw : ∀ d ∈ tables_1, d.before a0 Z = true) (ws : List Jvm.Cond) (o0 : Addr) (w0_COMPACT_STRINGS : Int32) (h0 : Heap) (n0 : Nat) (Z0 : n0 ≤ h0.size) (E_o0 : Exa Z h0 o0 "java/lang/String") (F_coder_o0 : Fld Z h0 o0 "java/lang/String" "coder" "B" (.int (0 : Int32))) (S_String_COMPACT_STRINGS : Sta Z h0 "java/lang/String" "COMPACT_STRINGS" "Z" (.int w0_COMPACT_STRINGS)) (hy0 : ¬ (w0_COMPACT_STRINGS = (0 : Int32))) :
    MetFree l (⟨"java/lang/String", "coder", "()B"⟩ : MethodName) (head1 (Jvm.Cond.code (⟨"java/lang/String", "coder", "()B"⟩ : MethodName) jdk_42_method_152_code 1 (some .byte) :: ws) ({ frames := 0, cells := 0, slots := 0, locals := 0 } : Room)) (fun a U => a = #[(.ref o0)] ∧ Z.Warmed39 U.vm ∧ U.heap = h0) (fun _ _ _ _ _ => True) (fun _ U o U' => ∃ v L, o = .returned v ∧ Q4 Z o0 w0_COMPACT_STRINGS h0 n0 v U'.heap L ∧ FrameEnd U o U' L ({ frames := 0, cells := 0, slots := 0, locals := 0 } : Room).cells ({ frames := 0, cells := 0, slots := 0, locals := 0 } : Room).slots) := by
  refine MetFree.of_bodySF (plainFor_of_name pn_java_lang_String) hisR ?_
  intro p e s m args below meth c s₁ Bd hml0 hP hK
  obtain ⟨rfl, hZ, hh⟩ := hP
  have hx := Bd.exec
  have hby := Bd.bytes
  have hml : c.maxLocals = 1 := hml0
  have hown : s.vm.findClass "java/lang/String" = some m.cls := findClass_of_methodNamed Bd.named
  have hnm := (name_of_methodNamed Bd.named Bd.method).1
  have hlk := BodyLoose.notSynchronized Bd
  have X0 : Stand p l e ({ frames := 0, cells := 0, slots := 0, locals := 0 } : Room) s m #[(.ref o0)] below meth c s₁ [] 0 0 := Stand.of_body Bd
  have e0 : s₁.heap = h0 := by rw [← hh, Bd.state]; rfl
  have N0 := Fr.nil n0
  have pre0 : ∀ t, Steps p.tables e below (s₁.setTop (mkF m 0 #[.val (.ref o0)] [])) t → Steps p.tables e below (s₁.setTop (entryFrame m #[(.ref o0)] 1)) t := fun t k => castTop (ef_4 m o0) k
  obtain ⟨T1, X1, e1, st1⟩ := getS2 X0 hx hZ hown (host := "") (Or.inl (wd hw 28 rfl)) Via.refl e0 S_String_COMPACT_STRINGS (g := (mkF m 0 #[.val (.ref o0)] [])) rfl (hb hby d4_0)
  obtain ⟨T2, X2, e2, st2⟩ := getF X1 hx hZ hown (host := "") (Or.inl (wd hw 29 rfl)) Via.refl e1 F_coder_o0 (g := (mkF m 7 #[.val (.ref o0)] [(.ref o0)])) rfl rfl (hb hby d4_7)
  obtain ⟨fs, hr, hrun, hended, hW, hsame⟩ := X2.leave (v := some (.int (nar .byte (0 : Int32)))) (fun h => by rw [Bd.returns] at h; cases h) hlk
  refine ⟨_, _, pre0 _ ?_, hrun, hended, _, _, rfl, ?_, ⟨_, rfl⟩, hW, hsame.mono (by decide) (by decide)⟩
  · skip
    show Steps p.tables e below (s₁.setTop (mkF m 0 #[.val (.ref o0)] [])) _
    refine st1 _ ?_
    show Steps p.tables e below (T1.setTop (mkF m 3 #[.val (.ref o0)] [(.int w0_COMPACT_STRINGS)])) _
    refine XS.ifNo X1.here hx rfl (hb hby d4_3) rfl (XT.i0_eq_f hy0) ?_
    refine XS.aloadN X1.here hx rfl (hb hby d4_6) rfl rfl ?_
    show Steps p.tables e below (T1.setTop (mkF m 7 #[.val (.ref o0)] [(.ref o0)])) _
    refine st2 _ ?_
    show Steps p.tables e below (T2.setTop (mkF m 10 #[.val (.ref o0)] [(.int (0 : Int32))])) _
    refine XS.goto X2.here hx rfl (pc0 := 10) (pc' := 14) rfl (hb hby d4_10) (by decide) (by decide) ?_
    show Steps p.tables e below (T2.setTop (mkF m 14 #[.val (.ref o0)] [(.int (0 : Int32))])) _
    exact retN X2 hx (t := .byte) Bd.returns (by simp) (hb hby d4_14) hr
  · skip
    show Q4 Z o0 w0_COMPACT_STRINGS h0 n0 _ T2.heap _
    rw [e2]
    exact ⟨N0, rfl, rfl⟩
theorem pd___B : parseMethodDescriptor "()B" = some ⟨[], some .byte⟩ := by decide +kernel
theorem d3_0 : decode jdk_42_method_54_code 0 = .ok (.aload_n 0, 1) := by decide +kernel
theorem d3_1 : decode jdk_42_method_54_code 1 = .ok (.getfield 9, 3) := by decide +kernel
theorem d3_4 : decode jdk_42_method_54_code 4 = .ok (.arraylength, 1) := by decide +kernel
theorem d3_5 : decode jdk_42_method_54_code 5 = .ok (.aload_n 0, 1) := by decide +kernel
theorem d3_6 : decode jdk_42_method_54_code 6 = .ok (.invokevirtual 335, 3) := by decide +kernel
theorem d3_9 : decode jdk_42_method_54_code 9 = .ok (.ishr, 1) := by decide +kernel
theorem d3_10 : decode jdk_42_method_54_code 10 = .ok (.ireturn, 1) := by decide +kernel
theorem ef_len0 (m : MethodId) (o0 : Addr) : entryFrame m #[(.ref o0)] 1 = mkF m 0 #[.val (.ref o0)] [] := by first | (simp [entryFrame, mkF, argsToLocals, Value.category]; done) | rfl
def flen0 (w2_COMPACT_STRINGS : Int32) : Int32 := ((0 : Int32) >>> ((f4 w2_COMPACT_STRINGS) &&& 31))
def Qlen0 (Z : State) (o0 : Addr) (w1_v : Addr) (kA : ClassId) (w2_COMPACT_STRINGS : Int32) (h0 : Heap) (n0 : Nat) (v : Option Value) (h : Heap) (L : List Loc) : Prop := Fr n0 L ∧ v = some (.int (flen0 w2_COMPACT_STRINGS)) ∧ h = h0
set_option maxRecDepth 65536 in
set_option maxHeartbeats 40000000 in
theorem rmlen0 (l : Launch) (Z : State) (a0 : Array Value) (hw : ∀ d ∈ tables_1, d.before a0 Z = true) (ws : List Jvm.Cond) (o0 : Addr) (w1_v : Addr) (kA : ClassId) (w2_COMPACT_STRINGS : Int32) (h0 : Heap) (n0 : Nat) (Z0 : n0 ≤ h0.size) (E_o0 : Exa Z h0 o0 "java/lang/String") (F_coder_o0 : Fld Z h0 o0 "java/lang/String" "coder" "B" (.int (0 : Int32))) (F_value_o0 : Fld Z h0 o0 "java/lang/String" "value" "[B" (.ref w1_v)) (V_w1_v : Arv Z h0 w1_v kA .byte (0 : Int32) [] (.int (0 : Int32))) (S_String_COMPACT_STRINGS : Sta Z h0 "java/lang/String" "COMPACT_STRINGS" "Z" (.int w2_COMPACT_STRINGS)) (hy0 : ¬ (w2_COMPACT_STRINGS = (0 : Int32))) :
    MetFree l (⟨"java/lang/String", "length", "()I"⟩ : MethodName) (head1 (Jvm.Cond.code (⟨"java/lang/String", "length", "()I"⟩ : MethodName) jdk_42_method_54_code 1 (some .int) :: ws) ({ frames := 1, cells := 0, slots := 0, locals := 13 } : Room)) (fun a U => a = #[(.ref o0)] ∧ Z.Warmed39 U.vm ∧ U.heap = h0) (fun _ _ _ _ _ => True) (fun _ U o U' => ∃ v L, o = .returned v ∧ Qlen0 Z o0 w1_v kA w2_COMPACT_STRINGS h0 n0 v U'.heap L ∧ FrameEnd U o U' L ({ frames := 1, cells := 0, slots := 0, locals := 13 } : Room).cells ({ frames := 1, cells := 0, slots := 0, locals := 13 } : Room).slots) := by
  refine MetFree.of_bodySF (plainFor_of_name pn_java_lang_String) hisR ?_
  intro p e s m args below meth c s₁ Bd hml0 hP hK
  obtain ⟨rfl, hZ, hh⟩ := hP
  have hx := Bd.exec
  have hby := Bd.bytes
  have hml : c.maxLocals = 1 := hml0
  have hown : s.vm.findClass "java/lang/String" = some m.cls := findClass_of_methodNamed Bd.named
  have hnm := (name_of_methodNamed Bd.named Bd.method).1
  have hlk := BodyLoose.notSynchronized Bd
  have X0 : Stand p l e ({ frames := 1, cells := 0, slots := 0, locals := 13 } : Room) s m #[(.ref o0)] below meth c s₁ [] 0 0 := Stand.of_body Bd
  have e0 : s₁.heap = h0 := by rw [← hh, Bd.state]; rfl
  have N0 := Fr.nil n0
  have pre0 : ∀ t, Steps p.tables e below (s₁.setTop (mkF m 0 #[.val (.ref o0)] [])) t → Steps p.tables e below (s₁.setTop (entryFrame m #[(.ref o0)] 1)) t := fun t k => castTop (ef_len0 m o0) k
  obtain ⟨T1, X1, e1, st1⟩ := getF X0 hx hZ hown (host := "") (Or.inl (wd hw 22 rfl)) Via.refl e0 F_value_o0 (g := (mkF m 1 #[.val (.ref o0)] [(.ref o0)])) rfl rfl (hb hby d3_1)
  obtain ⟨cl2, Ar2, qc2, S2, M2, Ha2, G2⟩ := id V_w1_v
  obtain ⟨cq3, kq3, q3a, q3b, q3c⟩ := isOf hZ e1 E_o0
  obtain ⟨vr3, _, ⟨T3, L3, k3, n3⟩, -, X3, ⟨Lc3, hQ3, l3, y3, z3⟩, st3⟩ := Jvm.Stand.virtualBack X1 hx (y := (⟨"java/lang/String", "coder", "()B"⟩ : MethodName)) (z := (⟨"java/lang/String", "coder", "()B"⟩ : MethodName)) hown (mvT hZ (wd hw 23 rfl)) (mvT hZ (wd hw 24 rfl)) (notFace_of_selects (args := #[]) (mvT hZ (wd hw 26 rfl))) (mvT hZ (wd hw 26 rfl)) (mvT hZ (wd hw 25 rfl)) (by decide) (backOf (W := 1) (rm4 l Z a0 hw [] o0 w2_COMPACT_STRINGS h0 n0 Z0 E_o0 F_coder_o0 S_String_COMPACT_STRINGS hy0) hZ (wd hw 27 rfl) (wd hw 10 rfl) (by decide) (by decide)) q3a q3c (g := (mkF m 6 #[.val (.ref o0)] [(.ref o0), (.int (0 : Int32))])) rfl (by rw [hml]; rfl) (Steps.refl _) (argsL := []) (rest := [(.int (0 : Int32))]) (lenOf pd___B rfl) rfl (by show 2 * 0 + _ ≤ _; exact Nat.le_of_eq rfl) (hb hby d3_6) (fun _ _ => ⟨rfl, e1, (by decide : 0 + 0 ≤ _), (by decide : 0 + 0 ≤ _)⟩)
  dsimp only [Pt.U, Pt.locs, Pt.cells, Pt.slots] at X3 l3 y3 z3 st3 hQ3
  replace X3 := own_stand X3 l3 y3 z3
  clear l3 y3 z3
  have N3q := (show _ ∧ _ ∧ _ from hQ3).1
  have hv3 := (show _ ∧ _ ∧ _ from hQ3).2.1
  have e3 := (show _ ∧ _ ∧ _ from hQ3).2.2
  clear hQ3
  subst hv3
  have N3 := Fr.app N0 N3q
  obtain ⟨fs, hr, hrun, hended, hW, hsame⟩ := X3.leave (v := some (.int ((0 : Int32) >>> ((f4 w2_COMPACT_STRINGS) &&& 31)))) (fun h => by rw [Bd.returns] at h; cases h) hlk
  refine ⟨_, _, pre0 _ ?_, hrun, hended, _, _, rfl, ?_, ⟨_, rfl⟩, hW, hsame.mono (by decide) (by decide)⟩
  · skip
    show Steps p.tables e below (s₁.setTop (mkF m 0 #[.val (.ref o0)] [])) _
    refine XS.aloadN X0.here hx rfl (hb hby d3_0) rfl rfl ?_
    show Steps p.tables e below (s₁.setTop (mkF m 1 #[.val (.ref o0)] [(.ref o0)])) _
    refine st1 _ ?_
    show Steps p.tables e below (T1.setTop (mkF m 4 #[.val (.ref o0)] [(.ref w1_v)])) _
    refine X1.arraylength hx (by rw [e1]; exact Ar2.1) (State.isArrayOf_alike hZ.alike Ar2.2.1) (g := (mkF m 4 #[.val (.ref o0)] [(.ref w1_v)])) rfl rfl (hb hby d3_4) _ ?_
    rw [len_of S2 M2]
    refine XS.aloadN X1.here hx rfl (hb hby d3_5) rfl rfl ?_
    show Steps p.tables e below (T1.setTop (mkF m 6 #[.val (.ref o0)] [(.ref o0), (.int (0 : Int32))])) _
    refine st3.trans ?_
    show Steps p.tables e below (T3.setTop (mkF m 9 #[.val (.ref o0)] [(.int (f4 w2_COMPACT_STRINGS)), (.int (0 : Int32))])) _
    refine XT.ishr X3.here hx rfl (hb hby d3_9) rfl ?_
    show Steps p.tables e below (T3.setTop (mkF m 10 #[.val (.ref o0)] [(.int ((0 : Int32) >>> ((f4 w2_COMPACT_STRINGS) &&& 31)))])) _
    exact retI X3 hx Bd.returns (hb hby d3_10) hr
  · skip
    show Qlen0 Z o0 w1_v kA w2_COMPACT_STRINGS h0 n0 _ T3.heap _
    rw [e3]
    exact ⟨N3, rfl, rfl⟩
theorem ef_len4 (m : MethodId) (o0 : Addr) : entryFrame m #[(.ref o0)] 1 = mkF m 0 #[.val (.ref o0)] [] := by first | (simp [entryFrame, mkF, argsToLocals, Value.category]; done) | rfl
def flen4 (w10_c : Int32) (w11_c : Int32) (w12_c : Int32) (w13_c : Int32) (w6_COMPACT_STRINGS : Int32) : Int32 := ((4 : Int32) >>> ((f4 w6_COMPACT_STRINGS) &&& 31))
def Qlen4 (Z : State) (o0 : Addr) (w1_v : Addr) (w10_c : Int32) (w11_c : Int32) (w12_c : Int32) (w13_c : Int32) (kA : ClassId) (w6_COMPACT_STRINGS : Int32) (h0 : Heap) (n0 : Nat) (v : Option Value) (h : Heap) (L : List Loc) : Prop := Fr n0 L ∧ v = some (.int (flen4 w10_c w11_c w12_c w13_c w6_COMPACT_STRINGS)) ∧ h = h0
set_option maxRecDepth 65536 in
set_option maxHeartbeats 40000000 in
theorem rmlen4 (l : Launch) (Z : State) (a0 : Array Value) (hw : ∀ d ∈ tables_1, d.before a0 Z = true) (ws : List Jvm.Cond) (o0 : Addr) (w1_v : Addr) (w10_c : Int32) (w11_c : Int32) (w12_c : Int32) (w13_c : Int32) (kA : ClassId) (w6_COMPACT_STRINGS : Int32) (h0 : Heap) (n0 : Nat) (Z0 : n0 ≤ h0.size) (E_o0 : Exa Z h0 o0 "java/lang/String") (F_coder_o0 : Fld Z h0 o0 "java/lang/String" "coder" "B" (.int (0 : Int32))) (F_value_o0 : Fld Z h0 o0 "java/lang/String" "value" "[B" (.ref w1_v)) (V_w1_v : Arv Z h0 w1_v kA .byte (4 : Int32) [(.int w10_c), (.int w11_c), (.int w12_c), (.int w13_c)] (.int (0 : Int32))) (S_String_COMPACT_STRINGS : Sta Z h0 "java/lang/String" "COMPACT_STRINGS" "Z" (.int w6_COMPACT_STRINGS)) (hy0 : ¬ (w6_COMPACT_STRINGS = (0 : Int32))) :
    MetFree l (⟨"java/lang/String", "length", "()I"⟩ : MethodName) (head1 (Jvm.Cond.code (⟨"java/lang/String", "length", "()I"⟩ : MethodName) jdk_42_method_54_code 1 (some .int) :: ws) ({ frames := 1, cells := 0, slots := 0, locals := 13 } : Room)) (fun a U => a = #[(.ref o0)] ∧ Z.Warmed39 U.vm ∧ U.heap = h0) (fun _ _ _ _ _ => True) (fun _ U o U' => ∃ v L, o = .returned v ∧ Qlen4 Z o0 w1_v w10_c w11_c w12_c w13_c kA w6_COMPACT_STRINGS h0 n0 v U'.heap L ∧ FrameEnd U o U' L ({ frames := 1, cells := 0, slots := 0, locals := 13 } : Room).cells ({ frames := 1, cells := 0, slots := 0, locals := 13 } : Room).slots) := by
  refine MetFree.of_bodySF (plainFor_of_name pn_java_lang_String) hisR ?_
  intro p e s m args below meth c s₁ Bd hml0 hP hK
  obtain ⟨rfl, hZ, hh⟩ := hP
  have hx := Bd.exec
  have hby := Bd.bytes
  have hml : c.maxLocals = 1 := hml0
  have hown : s.vm.findClass "java/lang/String" = some m.cls := findClass_of_methodNamed Bd.named
  have hnm := (name_of_methodNamed Bd.named Bd.method).1
  have hlk := BodyLoose.notSynchronized Bd
  have X0 : Stand p l e ({ frames := 1, cells := 0, slots := 0, locals := 13 } : Room) s m #[(.ref o0)] below meth c s₁ [] 0 0 := Stand.of_body Bd
  have e0 : s₁.heap = h0 := by rw [← hh, Bd.state]; rfl
  have N0 := Fr.nil n0
  have pre0 : ∀ t, Steps p.tables e below (s₁.setTop (mkF m 0 #[.val (.ref o0)] [])) t → Steps p.tables e below (s₁.setTop (entryFrame m #[(.ref o0)] 1)) t := fun t k => castTop (ef_len4 m o0) k
  obtain ⟨T1, X1, e1, st1⟩ := getF X0 hx hZ hown (host := "") (Or.inl (wd hw 22 rfl)) Via.refl e0 F_value_o0 (g := (mkF m 1 #[.val (.ref o0)] [(.ref o0)])) rfl rfl (hb hby d3_1)
  obtain ⟨cl2, Ar2, qc2, S2, M2, Ha2, G2⟩ := id V_w1_v
  obtain ⟨cq3, kq3, q3a, q3b, q3c⟩ := isOf hZ e1 E_o0
  obtain ⟨vr3, _, ⟨T3, L3, k3, n3⟩, -, X3, ⟨Lc3, hQ3, l3, y3, z3⟩, st3⟩ := Jvm.Stand.virtualBack X1 hx (y := (⟨"java/lang/String", "coder", "()B"⟩ : MethodName)) (z := (⟨"java/lang/String", "coder", "()B"⟩ : MethodName)) hown (mvT hZ (wd hw 23 rfl)) (mvT hZ (wd hw 24 rfl)) (notFace_of_selects (args := #[]) (mvT hZ (wd hw 26 rfl))) (mvT hZ (wd hw 26 rfl)) (mvT hZ (wd hw 25 rfl)) (by decide) (backOf (W := 1) (rm4 l Z a0 hw [] o0 w6_COMPACT_STRINGS h0 n0 Z0 E_o0 F_coder_o0 S_String_COMPACT_STRINGS hy0) hZ (wd hw 27 rfl) (wd hw 10 rfl) (by decide) (by decide)) q3a q3c (g := (mkF m 6 #[.val (.ref o0)] [(.ref o0), (.int (4 : Int32))])) rfl (by rw [hml]; rfl) (Steps.refl _) (argsL := []) (rest := [(.int (4 : Int32))]) (lenOf pd___B rfl) rfl (by show 2 * 0 + _ ≤ _; exact Nat.le_of_eq rfl) (hb hby d3_6) (fun _ _ => ⟨rfl, e1, (by decide : 0 + 0 ≤ _), (by decide : 0 + 0 ≤ _)⟩)
  dsimp only [Pt.U, Pt.locs, Pt.cells, Pt.slots] at X3 l3 y3 z3 st3 hQ3
  replace X3 := own_stand X3 l3 y3 z3
  clear l3 y3 z3
  have N3q := (show _ ∧ _ ∧ _ from hQ3).1
  have hv3 := (show _ ∧ _ ∧ _ from hQ3).2.1
  have e3 := (show _ ∧ _ ∧ _ from hQ3).2.2
  clear hQ3
  subst hv3
  have N3 := Fr.app N0 N3q
  obtain ⟨fs, hr, hrun, hended, hW, hsame⟩ := X3.leave (v := some (.int ((4 : Int32) >>> ((f4 w6_COMPACT_STRINGS) &&& 31)))) (fun h => by rw [Bd.returns] at h; cases h) hlk
  refine ⟨_, _, pre0 _ ?_, hrun, hended, _, _, rfl, ?_, ⟨_, rfl⟩, hW, hsame.mono (by decide) (by decide)⟩
  · skip
    show Steps p.tables e below (s₁.setTop (mkF m 0 #[.val (.ref o0)] [])) _
    refine XS.aloadN X0.here hx rfl (hb hby d3_0) rfl rfl ?_
    show Steps p.tables e below (s₁.setTop (mkF m 1 #[.val (.ref o0)] [(.ref o0)])) _
    refine st1 _ ?_
    show Steps p.tables e below (T1.setTop (mkF m 4 #[.val (.ref o0)] [(.ref w1_v)])) _
    refine X1.arraylength hx (by rw [e1]; exact Ar2.1) (State.isArrayOf_alike hZ.alike Ar2.2.1) (g := (mkF m 4 #[.val (.ref o0)] [(.ref w1_v)])) rfl rfl (hb hby d3_4) _ ?_
    rw [len_of S2 M2]
    refine XS.aloadN X1.here hx rfl (hb hby d3_5) rfl rfl ?_
    show Steps p.tables e below (T1.setTop (mkF m 6 #[.val (.ref o0)] [(.ref o0), (.int (4 : Int32))])) _
    refine st3.trans ?_
    show Steps p.tables e below (T3.setTop (mkF m 9 #[.val (.ref o0)] [(.int (f4 w6_COMPACT_STRINGS)), (.int (4 : Int32))])) _
    refine XT.ishr X3.here hx rfl (hb hby d3_9) rfl ?_
    show Steps p.tables e below (T3.setTop (mkF m 10 #[.val (.ref o0)] [(.int ((4 : Int32) >>> ((f4 w6_COMPACT_STRINGS) &&& 31)))])) _
    exact retI X3 hx Bd.returns (hb hby d3_10) hr
  · skip
    show Qlen4 Z o0 w1_v w10_c w11_c w12_c w13_c kA w6_COMPACT_STRINGS h0 n0 _ T3.heap _
    rw [e3]
    exact ⟨N3, rfl, rfl⟩
theorem ef_len6 (m : MethodId) (o0 : Addr) : entryFrame m #[(.ref o0)] 1 = mkF m 0 #[.val (.ref o0)] [] := by first | (simp [entryFrame, mkF, argsToLocals, Value.category]; done) | rfl
def flen6 (w10_c : Int32) (w11_c : Int32) (w12_c : Int32) (w13_c : Int32) (w14_c : Int32) (w15_c : Int32) (w8_COMPACT_STRINGS : Int32) : Int32 := ((6 : Int32) >>> ((f4 w8_COMPACT_STRINGS) &&& 31))
def Qlen6 (Z : State) (o0 : Addr) (w1_v : Addr) (w10_c : Int32) (w11_c : Int32) (w12_c : Int32) (w13_c : Int32) (w14_c : Int32) (w15_c : Int32) (kA : ClassId) (w8_COMPACT_STRINGS : Int32) (h0 : Heap) (n0 : Nat) (v : Option Value) (h : Heap) (L : List Loc) : Prop := Fr n0 L ∧ v = some (.int (flen6 w10_c w11_c w12_c w13_c w14_c w15_c w8_COMPACT_STRINGS)) ∧ h = h0
set_option maxRecDepth 65536 in
set_option maxHeartbeats 40000000 in
theorem rmlen6 (l : Launch) (Z : State) (a0 : Array Value) (hw : ∀ d ∈ tables_1, d.before a0 Z = true) (ws : List Jvm.Cond) (o0 : Addr) (w1_v : Addr) (w10_c : Int32) (w11_c : Int32) (w12_c : Int32) (w13_c : Int32) (w14_c : Int32) (w15_c : Int32) (kA : ClassId) (w8_COMPACT_STRINGS : Int32) (h0 : Heap) (n0 : Nat) (Z0 : n0 ≤ h0.size) (E_o0 : Exa Z h0 o0 "java/lang/String") (F_coder_o0 : Fld Z h0 o0 "java/lang/String" "coder" "B" (.int (0 : Int32))) (F_value_o0 : Fld Z h0 o0 "java/lang/String" "value" "[B" (.ref w1_v)) (V_w1_v : Arv Z h0 w1_v kA .byte (6 : Int32) [(.int w10_c), (.int w11_c), (.int w12_c), (.int w13_c), (.int w14_c), (.int w15_c)] (.int (0 : Int32))) (S_String_COMPACT_STRINGS : Sta Z h0 "java/lang/String" "COMPACT_STRINGS" "Z" (.int w8_COMPACT_STRINGS)) (hy0 : ¬ (w8_COMPACT_STRINGS = (0 : Int32))) :
    MetFree l (⟨"java/lang/String", "length", "()I"⟩ : MethodName) (head1 (Jvm.Cond.code (⟨"java/lang/String", "length", "()I"⟩ : MethodName) jdk_42_method_54_code 1 (some .int) :: ws) ({ frames := 1, cells := 0, slots := 0, locals := 13 } : Room)) (fun a U => a = #[(.ref o0)] ∧ Z.Warmed39 U.vm ∧ U.heap = h0) (fun _ _ _ _ _ => True) (fun _ U o U' => ∃ v L, o = .returned v ∧ Qlen6 Z o0 w1_v w10_c w11_c w12_c w13_c w14_c w15_c kA w8_COMPACT_STRINGS h0 n0 v U'.heap L ∧ FrameEnd U o U' L ({ frames := 1, cells := 0, slots := 0, locals := 13 } : Room).cells ({ frames := 1, cells := 0, slots := 0, locals := 13 } : Room).slots) := by
  refine MetFree.of_bodySF (plainFor_of_name pn_java_lang_String) hisR ?_
  intro p e s m args below meth c s₁ Bd hml0 hP hK
  obtain ⟨rfl, hZ, hh⟩ := hP
  have hx := Bd.exec
  have hby := Bd.bytes
  have hml : c.maxLocals = 1 := hml0
  have hown : s.vm.findClass "java/lang/String" = some m.cls := findClass_of_methodNamed Bd.named
  have hnm := (name_of_methodNamed Bd.named Bd.method).1
  have hlk := BodyLoose.notSynchronized Bd
  have X0 : Stand p l e ({ frames := 1, cells := 0, slots := 0, locals := 13 } : Room) s m #[(.ref o0)] below meth c s₁ [] 0 0 := Stand.of_body Bd
  have e0 : s₁.heap = h0 := by rw [← hh, Bd.state]; rfl
  have N0 := Fr.nil n0
  have pre0 : ∀ t, Steps p.tables e below (s₁.setTop (mkF m 0 #[.val (.ref o0)] [])) t → Steps p.tables e below (s₁.setTop (entryFrame m #[(.ref o0)] 1)) t := fun t k => castTop (ef_len6 m o0) k
  obtain ⟨T1, X1, e1, st1⟩ := getF X0 hx hZ hown (host := "") (Or.inl (wd hw 22 rfl)) Via.refl e0 F_value_o0 (g := (mkF m 1 #[.val (.ref o0)] [(.ref o0)])) rfl rfl (hb hby d3_1)
  obtain ⟨cl2, Ar2, qc2, S2, M2, Ha2, G2⟩ := id V_w1_v
  obtain ⟨cq3, kq3, q3a, q3b, q3c⟩ := isOf hZ e1 E_o0
  obtain ⟨vr3, _, ⟨T3, L3, k3, n3⟩, -, X3, ⟨Lc3, hQ3, l3, y3, z3⟩, st3⟩ := Jvm.Stand.virtualBack X1 hx (y := (⟨"java/lang/String", "coder", "()B"⟩ : MethodName)) (z := (⟨"java/lang/String", "coder", "()B"⟩ : MethodName)) hown (mvT hZ (wd hw 23 rfl)) (mvT hZ (wd hw 24 rfl)) (notFace_of_selects (args := #[]) (mvT hZ (wd hw 26 rfl))) (mvT hZ (wd hw 26 rfl)) (mvT hZ (wd hw 25 rfl)) (by decide) (backOf (W := 1) (rm4 l Z a0 hw [] o0 w8_COMPACT_STRINGS h0 n0 Z0 E_o0 F_coder_o0 S_String_COMPACT_STRINGS hy0) hZ (wd hw 27 rfl) (wd hw 10 rfl) (by decide) (by decide)) q3a q3c (g := (mkF m 6 #[.val (.ref o0)] [(.ref o0), (.int (6 : Int32))])) rfl (by rw [hml]; rfl) (Steps.refl _) (argsL := []) (rest := [(.int (6 : Int32))]) (lenOf pd___B rfl) rfl (by show 2 * 0 + _ ≤ _; exact Nat.le_of_eq rfl) (hb hby d3_6) (fun _ _ => ⟨rfl, e1, (by decide : 0 + 0 ≤ _), (by decide : 0 + 0 ≤ _)⟩)
  dsimp only [Pt.U, Pt.locs, Pt.cells, Pt.slots] at X3 l3 y3 z3 st3 hQ3
  replace X3 := own_stand X3 l3 y3 z3
  clear l3 y3 z3
  have N3q := (show _ ∧ _ ∧ _ from hQ3).1
  have hv3 := (show _ ∧ _ ∧ _ from hQ3).2.1
  have e3 := (show _ ∧ _ ∧ _ from hQ3).2.2
  clear hQ3
  subst hv3
  have N3 := Fr.app N0 N3q
  obtain ⟨fs, hr, hrun, hended, hW, hsame⟩ := X3.leave (v := some (.int ((6 : Int32) >>> ((f4 w8_COMPACT_STRINGS) &&& 31)))) (fun h => by rw [Bd.returns] at h; cases h) hlk
  refine ⟨_, _, pre0 _ ?_, hrun, hended, _, _, rfl, ?_, ⟨_, rfl⟩, hW, hsame.mono (by decide) (by decide)⟩
  · skip
    show Steps p.tables e below (s₁.setTop (mkF m 0 #[.val (.ref o0)] [])) _
    refine XS.aloadN X0.here hx rfl (hb hby d3_0) rfl rfl ?_
    show Steps p.tables e below (s₁.setTop (mkF m 1 #[.val (.ref o0)] [(.ref o0)])) _
    refine st1 _ ?_
    show Steps p.tables e below (T1.setTop (mkF m 4 #[.val (.ref o0)] [(.ref w1_v)])) _
    refine X1.arraylength hx (by rw [e1]; exact Ar2.1) (State.isArrayOf_alike hZ.alike Ar2.2.1) (g := (mkF m 4 #[.val (.ref o0)] [(.ref w1_v)])) rfl rfl (hb hby d3_4) _ ?_
    rw [len_of S2 M2]
    refine XS.aloadN X1.here hx rfl (hb hby d3_5) rfl rfl ?_
    show Steps p.tables e below (T1.setTop (mkF m 6 #[.val (.ref o0)] [(.ref o0), (.int (6 : Int32))])) _
    refine st3.trans ?_
    show Steps p.tables e below (T3.setTop (mkF m 9 #[.val (.ref o0)] [(.int (f4 w8_COMPACT_STRINGS)), (.int (6 : Int32))])) _
    refine XT.ishr X3.here hx rfl (hb hby d3_9) rfl ?_
    show Steps p.tables e below (T3.setTop (mkF m 10 #[.val (.ref o0)] [(.int ((6 : Int32) >>> ((f4 w8_COMPACT_STRINGS) &&& 31)))])) _
    exact retI X3 hx Bd.returns (hb hby d3_10) hr
  · skip
    show Qlen6 Z o0 w1_v w10_c w11_c w12_c w13_c w14_c w15_c kA w8_COMPACT_STRINGS h0 n0 _ T3.heap _
    rw [e3]
    exact ⟨N3, rfl, rfl⟩
theorem pd__II_V : parseMethodDescriptor "(II)V" = some ⟨[.int, .int], none⟩ := by decide +kernel
theorem d7_0 : decode jdk_43_method_2_code 0 = .ok (.iload_n 1, 1) := by decide +kernel
theorem d7_1 : decode jdk_43_method_2_code 1 = .ok (.aload_n 0, 1) := by decide +kernel
theorem d7_2 : decode jdk_43_method_2_code 2 = .ok (.arraylength, 1) := by decide +kernel
theorem d7_3 : decode jdk_43_method_2_code 3 = .ok (.invokestatic 9, 3) := by decide +kernel
theorem d7_6 : decode jdk_43_method_2_code 6 = .ok (.aload_n 0, 1) := by decide +kernel
theorem d7_7 : decode jdk_43_method_2_code 7 = .ok (.iload_n 1, 1) := by decide +kernel
theorem d7_8 : decode jdk_43_method_2_code 8 = .ok (.baload, 1) := by decide +kernel
theorem d7_9 : decode jdk_43_method_2_code 9 = .ok (.sipush 255, 3) := by decide +kernel
theorem d7_12 : decode jdk_43_method_2_code 12 = .ok (.iand, 1) := by decide +kernel
theorem d7_13 : decode jdk_43_method_2_code 13 = .ok (.i2c, 1) := by decide +kernel
theorem d7_14 : decode jdk_43_method_2_code 14 = .ok (.ireturn, 1) := by decide +kernel
theorem pn_java_lang_StringLatin1 : plainName "java/lang/StringLatin1" = true := by first | (simp [plainName, overriddenIn]; done) | decide +kernel
theorem ef_lc4 (m : MethodId) (o0 : Addr) (p1 : Int32) : entryFrame m #[(.ref o0), (.int p1)] 2 = mkF m 0 #[.val (.ref o0), .val (.int p1)] [] := by first | (simp [entryFrame, mkF, argsToLocals, Value.category]; done) | rfl
def flc4 (p1 : Int32) (w10_c : Int32) (w11_c : Int32) (w12_c : Int32) (w13_c : Int32) : Int32 := (nar .char (((own_pick4 p1 w10_c w11_c w12_c w13_c) &&& (255 : Int32)).toUInt32.toUInt16.toUInt32.toInt32))
def Qlc4 (Z : State) (o0 : Addr) (p1 : Int32) (w10_c : Int32) (w11_c : Int32) (w12_c : Int32) (w13_c : Int32) (kA : ClassId) (w5_SIOOBE_FORMATTER : Value) (h0 : Heap) (n0 : Nat) (v : Option Value) (h : Heap) (L : List Loc) : Prop := Fr n0 L ∧ v = some (.int (flc4 p1 w10_c w11_c w12_c w13_c)) ∧ h = h0
set_option maxRecDepth 65536 in
set_option maxHeartbeats 40000000 in
theorem rmlc4 (l : Launch) (Z : State) (a0 : Array Value) (hw : ∀ d ∈ tables_1, d.before a0 Z = true) (ws : List Jvm.Cond) (o0 : Addr) (p1 : Int32) (w10_c : Int32) (w11_c : Int32) (w12_c : Int32) (w13_c : Int32) (kA : ClassId) (w5_SIOOBE_FORMATTER : Value) (h0 : Heap) (n0 : Nat) (Z0 : n0 ≤ h0.size) (V_o0 : Arv Z h0 o0 kA .byte (4 : Int32) [(.int w10_c), (.int w11_c), (.int w12_c), (.int w13_c)] (.int (0 : Int32))) (S_Preconditions_SIOOBE_FORMATTER : Sta Z h0 "jdk/internal/util/Preconditions" "SIOOBE_FORMATTER" "Ljava/util/function/BiFunction;" w5_SIOOBE_FORMATTER) (hy0 : w5_SIOOBE_FORMATTER = .null ∨ ∃ r, w5_SIOOBE_FORMATTER = .ref r) (hy1 : ¬ (p1 < (0 : Int32))) (hy2 : p1 < (4 : Int32)) :
    MetFree l (⟨"java/lang/StringLatin1", "charAt", "([BI)C"⟩ : MethodName) (head1 (Jvm.Cond.code (⟨"java/lang/StringLatin1", "charAt", "([BI)C"⟩ : MethodName) jdk_43_method_2_code 2 (some .char) :: ws) ({ frames := 2, cells := 0, slots := 0, locals := 27 } : Room)) (fun a U => a = #[(.ref o0), (.int p1)] ∧ Z.Warmed39 U.vm ∧ U.heap = h0) (fun _ _ _ _ _ => True) (fun _ U o U' => ∃ v L, o = .returned v ∧ Qlc4 Z o0 p1 w10_c w11_c w12_c w13_c kA w5_SIOOBE_FORMATTER h0 n0 v U'.heap L ∧ FrameEnd U o U' L ({ frames := 2, cells := 0, slots := 0, locals := 27 } : Room).cells ({ frames := 2, cells := 0, slots := 0, locals := 27 } : Room).slots) := by
  refine MetFree.of_bodySF (plainFor_of_name pn_java_lang_StringLatin1) hisR ?_
  intro p e s m args below meth c s₁ Bd hml0 hP hK
  obtain ⟨rfl, hZ, hh⟩ := hP
  have hx := Bd.exec
  have hby := Bd.bytes
  have hml : c.maxLocals = 2 := hml0
  have hown : s.vm.findClass "java/lang/StringLatin1" = some m.cls := findClass_of_methodNamed Bd.named
  have hnm := (name_of_methodNamed Bd.named Bd.method).1
  have hlk := BodyLoose.notSynchronized Bd
  have X0 : Stand p l e ({ frames := 2, cells := 0, slots := 0, locals := 27 } : Room) s m #[(.ref o0), (.int p1)] below meth c s₁ [] 0 0 := Stand.of_body Bd
  have e0 : s₁.heap = h0 := by rw [← hh, Bd.state]; rfl
  have N0 := Fr.nil n0
  have pre0 : ∀ t, Steps p.tables e below (s₁.setTop (mkF m 0 #[.val (.ref o0), .val (.int p1)] [])) t → Steps p.tables e below (s₁.setTop (entryFrame m #[(.ref o0), (.int p1)] 2)) t := fun t k => castTop (ef_lc4 m o0 p1) k
  obtain ⟨cl1, Ar1, qc1, S1, M1, Ha1, G1⟩ := id V_o0
  obtain ⟨vr2, _, ⟨T2, L2, k2, n2⟩, -, X2, ⟨Lc2, hQ2, l2, y2, z2⟩, st2⟩ := Jvm.LawKit.callS X0 hx (y := (⟨"java/lang/String", "checkIndex", "(II)V"⟩ : MethodName)) hown (mvT hZ (wd hw 44 rfl)) (mvT hZ (wd hw 45 rfl)) (mvT hZ (wd hw 10 rfl)) (mvT hZ (wd hw 46 rfl)) (by decide) (backOf (W := 0) (own_ck l Z a0 hw [] p1 (4 : Int32) w5_SIOOBE_FORMATTER h0 n0 Z0 S_Preconditions_SIOOBE_FORMATTER hy0 hy1 hy2) hZ (wd hw 46 rfl) (wd hw 10 rfl) (by decide) (by decide)) (g := (mkF m 3 #[.val (.ref o0), .val (.int p1)] [(.int (4 : Int32)), (.int p1)])) rfl (by rw [hml]; rfl) (argsL := [(.int p1), (.int (4 : Int32))]) (rest := []) (lenOf pd__II_V rfl) rfl (by show 2 * 0 + _ ≤ _; exact Nat.le_of_eq rfl) (hb hby d7_3) (fun _ _ => ⟨rfl, e0, (by decide : 0 + 0 ≤ _), (by decide : 0 + 0 ≤ _)⟩)
  dsimp only [Pt.U, Pt.locs, Pt.cells, Pt.slots] at X2 l2 y2 z2 st2 hQ2
  replace X2 := own_stand X2 l2 y2 z2
  clear l2 y2 z2
  have N2q := (show _ ∧ _ ∧ _ from hQ2).1
  have hv2 := (show _ ∧ _ ∧ _ from hQ2).2.1
  have e2 := (show _ ∧ _ ∧ _ from hQ2).2.2
  clear hQ2
  subst hv2
  have N2 := Fr.app N0 N2q
  have hin3 : ¬ (p1 < 0 ∨ cl1.slots.size ≤ (p1).toNatClampNeg) := inb_of S1 ⟨hy1, hy2⟩
  obtain ⟨fs, hr, hrun, hended, hW, hsame⟩ := X2.leave (v := some (.int (nar .char (((own_pick4 p1 w10_c w11_c w12_c w13_c) &&& (255 : Int32)).toUInt32.toUInt16.toUInt32.toInt32)))) (fun h => by rw [Bd.returns] at h; cases h) hlk
  refine ⟨_, _, pre0 _ ?_, hrun, hended, _, _, rfl, ?_, ⟨_, rfl⟩, hW, hsame.mono (by decide) (by decide)⟩
  · skip
    show Steps p.tables e below (s₁.setTop (mkF m 0 #[.val (.ref o0), .val (.int p1)] [])) _
    refine XS.iloadN X0.here hx rfl (hb hby d7_0) rfl ?_
    refine XS.aloadN X0.here hx rfl (hb hby d7_1) rfl rfl ?_
    show Steps p.tables e below (s₁.setTop (mkF m 2 #[.val (.ref o0), .val (.int p1)] [(.ref o0), (.int p1)])) _
    refine X0.arraylength hx (by rw [e0]; exact Ar1.1) (State.isArrayOf_alike hZ.alike Ar1.2.1) (g := (mkF m 2 #[.val (.ref o0), .val (.int p1)] [(.ref o0), (.int p1)])) rfl rfl (hb hby d7_2) _ ?_
    rw [len_of S1 M1]
    show Steps p.tables e below (s₁.setTop (mkF m 3 #[.val (.ref o0), .val (.int p1)] [(.int (4 : Int32)), (.int p1)])) _
    refine st2 _ ?_
    refine XS.aloadN X2.here hx rfl (hb hby d7_6) rfl rfl ?_
    refine XS.iloadN X2.here hx rfl (hb hby d7_7) rfl ?_
    show Steps p.tables e below (T2.setTop (mkF m 8 #[.val (.ref o0), .val (.int p1)] [(.int p1), (.ref o0)])) _
    refine X2.baloadBytes hx (j := p1) (v := (.int (own_pick4 p1 w10_c w11_c w12_c w13_c))) (by rw [e2]; exact Ar1.1) (State.isArrayOf_alike hZ.alike Ar1.2.1) Ar1.2.2 hin3 (Has.at Ha1 hin3 (own_get4 hy1 hy2)) (g := (mkF m 8 #[.val (.ref o0), .val (.int p1)] [(.int p1), (.ref o0)])) rfl rfl (hb hby d7_8) _ ?_
    refine XT.sipushV X2.here hx rfl (255 : Int32) (hb hby d7_9) (by decide) ?_
    refine XS.iand X2.here hx rfl (hb hby d7_12) rfl ?_
    refine XT.i2c X2.here hx rfl (hb hby d7_13) rfl ?_
    show Steps p.tables e below (T2.setTop (mkF m 14 #[.val (.ref o0), .val (.int p1)] [(.int (((own_pick4 p1 w10_c w11_c w12_c w13_c) &&& (255 : Int32)).toUInt32.toUInt16.toUInt32.toInt32))])) _
    exact retN X2 hx (t := .char) Bd.returns (by simp) (hb hby d7_14) hr
  · skip
    show Qlc4 Z o0 p1 w10_c w11_c w12_c w13_c kA w5_SIOOBE_FORMATTER h0 n0 _ T2.heap _
    rw [e2]
    exact ⟨N2, rfl, rfl⟩
theorem pd___Z : parseMethodDescriptor "()Z" = some ⟨[], some .boolean⟩ := by decide +kernel
theorem pd___BI_C : parseMethodDescriptor "([BI)C" = some ⟨[(.array .byte), .int], some .char⟩ := by decide +kernel
theorem d5_0 : decode jdk_42_method_56_code 0 = .ok (.aload_n 0, 1) := by decide +kernel
theorem d5_1 : decode jdk_42_method_56_code 1 = .ok (.invokevirtual 492, 3) := by decide +kernel
theorem d5_4 : decode jdk_42_method_56_code 4 = .ok (.ifCond .eq 12, 3) := by decide +kernel
theorem d5_7 : decode jdk_42_method_56_code 7 = .ok (.aload_n 0, 1) := by decide +kernel
theorem d5_8 : decode jdk_42_method_56_code 8 = .ok (.getfield 9, 3) := by decide +kernel
theorem d5_11 : decode jdk_42_method_56_code 11 = .ok (.iload_n 1, 1) := by decide +kernel
theorem d5_12 : decode jdk_42_method_56_code 12 = .ok (.invokestatic 495, 3) := by decide +kernel
theorem d5_15 : decode jdk_42_method_56_code 15 = .ok (.ireturn, 1) := by decide +kernel
theorem ef_ch4 (m : MethodId) (o0 : Addr) (p1 : Int32) : entryFrame m #[(.ref o0), (.int p1)] 2 = mkF m 0 #[.val (.ref o0), .val (.int p1)] [] := by first | (simp [entryFrame, mkF, argsToLocals, Value.category]; done) | rfl
def vch4_1 (p1 : Int32) (w10_c : Int32) (w11_c : Int32) (w12_c : Int32) (w13_c : Int32) (w6_COMPACT_STRINGS : Int32) : Int32 := (f6 w6_COMPACT_STRINGS)
def fch4 (p1 : Int32) (w10_c : Int32) (w11_c : Int32) (w12_c : Int32) (w13_c : Int32) (w6_COMPACT_STRINGS : Int32) : Int32 := (nar .char (flc4 p1 w10_c w11_c w12_c w13_c))
def Qch4 (Z : State) (o0 : Addr) (p1 : Int32) (w1_v : Addr) (w10_c : Int32) (w11_c : Int32) (w12_c : Int32) (w13_c : Int32) (kA : ClassId) (w6_COMPACT_STRINGS : Int32) (w7_SIOOBE_FORMATTER : Value) (h0 : Heap) (n0 : Nat) (v : Option Value) (h : Heap) (L : List Loc) : Prop := Fr n0 L ∧ v = some (.int (fch4 p1 w10_c w11_c w12_c w13_c w6_COMPACT_STRINGS)) ∧ h = h0
set_option maxRecDepth 65536 in
set_option maxHeartbeats 40000000 in
theorem rmch4 (l : Launch) (Z : State) (a0 : Array Value) (hw : ∀ d ∈ tables_1, d.before a0 Z = true) (ws : List Jvm.Cond) (o0 : Addr) (p1 : Int32) (w1_v : Addr) (w10_c : Int32) (w11_c : Int32) (w12_c : Int32) (w13_c : Int32) (kA : ClassId) (w6_COMPACT_STRINGS : Int32) (w7_SIOOBE_FORMATTER : Value) (h0 : Heap) (n0 : Nat) (Z0 : n0 ≤ h0.size) (E_o0 : Exa Z h0 o0 "java/lang/String") (F_coder_o0 : Fld Z h0 o0 "java/lang/String" "coder" "B" (.int (0 : Int32))) (F_value_o0 : Fld Z h0 o0 "java/lang/String" "value" "[B" (.ref w1_v)) (V_w1_v : Arv Z h0 w1_v kA .byte (4 : Int32) [(.int w10_c), (.int w11_c), (.int w12_c), (.int w13_c)] (.int (0 : Int32))) (S_String_COMPACT_STRINGS : Sta Z h0 "java/lang/String" "COMPACT_STRINGS" "Z" (.int w6_COMPACT_STRINGS)) (hy0 : ¬ (w6_COMPACT_STRINGS = (0 : Int32))) (S_Preconditions_SIOOBE_FORMATTER : Sta Z h0 "jdk/internal/util/Preconditions" "SIOOBE_FORMATTER" "Ljava/util/function/BiFunction;" w7_SIOOBE_FORMATTER) (hy1 : w7_SIOOBE_FORMATTER = .null ∨ ∃ r, w7_SIOOBE_FORMATTER = .ref r) (hy2 : ¬ (p1 < (0 : Int32))) (hy3 : p1 < (4 : Int32)) :
    MetFree l (⟨"java/lang/String", "charAt", "(I)C"⟩ : MethodName) (head1 (Jvm.Cond.code (⟨"java/lang/String", "charAt", "(I)C"⟩ : MethodName) jdk_42_method_56_code 2 (some .char) :: ws) ({ frames := 3, cells := 0, slots := 0, locals := 40 } : Room)) (fun a U => a = #[(.ref o0), (.int p1)] ∧ Z.Warmed39 U.vm ∧ U.heap = h0) (fun _ _ _ _ _ => True) (fun _ U o U' => ∃ v L, o = .returned v ∧ Qch4 Z o0 p1 w1_v w10_c w11_c w12_c w13_c kA w6_COMPACT_STRINGS w7_SIOOBE_FORMATTER h0 n0 v U'.heap L ∧ FrameEnd U o U' L ({ frames := 3, cells := 0, slots := 0, locals := 40 } : Room).cells ({ frames := 3, cells := 0, slots := 0, locals := 40 } : Room).slots) := by
  refine MetFree.of_bodySF (plainFor_of_name pn_java_lang_String) hisR ?_
  intro p e s m args below meth c s₁ Bd hml0 hP hK
  obtain ⟨rfl, hZ, hh⟩ := hP
  have hx := Bd.exec
  have hby := Bd.bytes
  have hml : c.maxLocals = 2 := hml0
  have hown : s.vm.findClass "java/lang/String" = some m.cls := findClass_of_methodNamed Bd.named
  have hnm := (name_of_methodNamed Bd.named Bd.method).1
  have hlk := BodyLoose.notSynchronized Bd
  have X0 : Stand p l e ({ frames := 3, cells := 0, slots := 0, locals := 40 } : Room) s m #[(.ref o0), (.int p1)] below meth c s₁ [] 0 0 := Stand.of_body Bd
  have e0 : s₁.heap = h0 := by rw [← hh, Bd.state]; rfl
  have N0 := Fr.nil n0
  have pre0 : ∀ t, Steps p.tables e below (s₁.setTop (mkF m 0 #[.val (.ref o0), .val (.int p1)] [])) t → Steps p.tables e below (s₁.setTop (entryFrame m #[(.ref o0), (.int p1)] 2)) t := fun t k => castTop (ef_ch4 m o0 p1) k
  obtain ⟨cq1, kq1, q1a, q1b, q1c⟩ := isOf hZ e0 E_o0
  obtain ⟨vr1, _, ⟨T1, L1, k1, n1⟩, -, X1, ⟨Lc1, hQ1, l1, y1, z1⟩, st1⟩ := Jvm.Stand.virtualBack X0 hx (y := (⟨"java/lang/String", "isLatin1", "()Z"⟩ : MethodName)) (z := (⟨"java/lang/String", "isLatin1", "()Z"⟩ : MethodName)) hown (mvT hZ (wd hw 35 rfl)) (mvT hZ (wd hw 36 rfl)) (notFace_of_selects (args := #[]) (mvT hZ (wd hw 38 rfl))) (mvT hZ (wd hw 38 rfl)) (mvT hZ (wd hw 37 rfl)) (by decide) (backOf (W := 0) (rm6 l Z a0 hw [] o0 w6_COMPACT_STRINGS h0 n0 Z0 E_o0 F_coder_o0 S_String_COMPACT_STRINGS hy0) hZ (wd hw 39 rfl) (wd hw 10 rfl) (by decide) (by decide)) q1a q1c (g := (mkF m 1 #[.val (.ref o0), .val (.int p1)] [(.ref o0)])) rfl (by rw [hml]; rfl) (Steps.refl _) (argsL := []) (rest := []) (lenOf pd___Z rfl) rfl (by show 2 * 0 + _ ≤ _; exact Nat.le_of_eq rfl) (hb hby d5_1) (fun _ _ => ⟨rfl, e0, (by decide : 0 + 0 ≤ _), (by decide : 0 + 0 ≤ _)⟩)
  dsimp only [Pt.U, Pt.locs, Pt.cells, Pt.slots] at X1 l1 y1 z1 st1 hQ1
  replace X1 := own_stand X1 l1 y1 z1
  clear l1 y1 z1
  have N1q := (show _ ∧ _ ∧ _ from hQ1).1
  have hv1 := (show _ ∧ _ ∧ _ from hQ1).2.1
  have e1 := (show _ ∧ _ ∧ _ from hQ1).2.2
  clear hQ1
  subst hv1
  have N1 := Fr.app N0 N1q
  obtain ⟨T2, X2, e2, st2⟩ := getF X1 hx hZ hown (host := "") (Or.inl (wd hw 22 rfl)) Via.refl e1 F_value_o0 (g := (mkF m 8 #[.val (.ref o0), .val (.int p1)] [(.ref o0)])) rfl rfl (hb hby d5_8)
  obtain ⟨vr3, _, ⟨T3, L3, k3, n3⟩, -, X3, ⟨Lc3, hQ3, l3, y3, z3⟩, st3⟩ := Jvm.LawKit.callS X2 hx (y := (⟨"java/lang/StringLatin1", "charAt", "([BI)C"⟩ : MethodName)) hown (mvT hZ (wd hw 40 rfl)) (mvT hZ (wd hw 41 rfl)) (mvT hZ (wd hw 42 rfl)) (mvT hZ (wd hw 43 rfl)) (by decide) (backOf (W := 0) (rmlc4 l Z a0 hw [] w1_v p1 w10_c w11_c w12_c w13_c kA w7_SIOOBE_FORMATTER h0 n0 Z0 V_w1_v S_Preconditions_SIOOBE_FORMATTER hy1 hy2 hy3) hZ (wd hw 43 rfl) (wd hw 42 rfl) (by decide) (by decide)) (g := (mkF m 12 #[.val (.ref o0), .val (.int p1)] [(.int p1), (.ref w1_v)])) rfl (by rw [hml]; rfl) (argsL := [(.ref w1_v), (.int p1)]) (rest := []) (lenOf pd___BI_C rfl) rfl (by show 2 * 0 + _ ≤ _; exact Nat.le_of_eq rfl) (hb hby d5_12) (fun _ _ => ⟨rfl, e2, (by decide : 0 + 0 ≤ _), (by decide : 0 + 0 ≤ _)⟩)
  dsimp only [Pt.U, Pt.locs, Pt.cells, Pt.slots] at X3 l3 y3 z3 st3 hQ3
  replace X3 := own_stand X3 l3 y3 z3
  clear l3 y3 z3
  have N3q := (show _ ∧ _ ∧ _ from hQ3).1
  have hv3 := (show _ ∧ _ ∧ _ from hQ3).2.1
  have e3 := (show _ ∧ _ ∧ _ from hQ3).2.2
  clear hQ3
  subst hv3
  have N3 := Fr.app N1 N3q
  obtain ⟨fs, hr, hrun, hended, hW, hsame⟩ := X3.leave (v := some (.int (nar .char (flc4 p1 w10_c w11_c w12_c w13_c)))) (fun h => by rw [Bd.returns] at h; cases h) hlk
  refine ⟨_, _, pre0 _ ?_, hrun, hended, _, _, rfl, ?_, ⟨_, rfl⟩, hW, hsame.mono (by decide) (by decide)⟩
  · skip
    show Steps p.tables e below (s₁.setTop (mkF m 0 #[.val (.ref o0), .val (.int p1)] [])) _
    refine XS.aloadN X0.here hx rfl (hb hby d5_0) rfl rfl ?_
    show Steps p.tables e below (s₁.setTop (mkF m 1 #[.val (.ref o0), .val (.int p1)] [(.ref o0)])) _
    refine st1.trans ?_
    show Steps p.tables e below (T1.setTop (mkF m 4 #[.val (.ref o0), .val (.int p1)] [(.int (f6 w6_COMPACT_STRINGS))])) _
    refine XS.ifNo X1.here hx rfl (hb hby d5_4) rfl (XT.i0_eq_f (fun q => absurd (show (1 : Int32) = 0 from q) (by decide))) ?_
    refine XS.aloadN X1.here hx rfl (hb hby d5_7) rfl rfl ?_
    show Steps p.tables e below (T1.setTop (mkF m 8 #[.val (.ref o0), .val (.int p1)] [(.ref o0)])) _
    refine st2 _ ?_
    refine XS.iloadN X2.here hx rfl (hb hby d5_11) rfl ?_
    show Steps p.tables e below (T2.setTop (mkF m 12 #[.val (.ref o0), .val (.int p1)] [(.int p1), (.ref w1_v)])) _
    refine st3 _ ?_
    show Steps p.tables e below (T3.setTop (mkF m 15 #[.val (.ref o0), .val (.int p1)] [(.int (flc4 p1 w10_c w11_c w12_c w13_c))])) _
    exact retN X3 hx (t := .char) Bd.returns (by simp) (hb hby d5_15) hr
  · skip
    show Qch4 Z o0 p1 w1_v w10_c w11_c w12_c w13_c kA w6_COMPACT_STRINGS w7_SIOOBE_FORMATTER h0 n0 _ T3.heap _
    rw [e3]
    exact ⟨N3, rfl, rfl⟩
theorem ef_lc6 (m : MethodId) (o0 : Addr) (p1 : Int32) : entryFrame m #[(.ref o0), (.int p1)] 2 = mkF m 0 #[.val (.ref o0), .val (.int p1)] [] := by first | (simp [entryFrame, mkF, argsToLocals, Value.category]; done) | rfl
def flc6 (p1 : Int32) (w10_c : Int32) (w11_c : Int32) (w12_c : Int32) (w13_c : Int32) (w14_c : Int32) (w15_c : Int32) : Int32 := (nar .char (((own_pick6 p1 w10_c w11_c w12_c w13_c w14_c w15_c) &&& (255 : Int32)).toUInt32.toUInt16.toUInt32.toInt32))
def Qlc6 (Z : State) (o0 : Addr) (p1 : Int32) (w10_c : Int32) (w11_c : Int32) (w12_c : Int32) (w13_c : Int32) (w14_c : Int32) (w15_c : Int32) (kA : ClassId) (w7_SIOOBE_FORMATTER : Value) (h0 : Heap) (n0 : Nat) (v : Option Value) (h : Heap) (L : List Loc) : Prop := Fr n0 L ∧ v = some (.int (flc6 p1 w10_c w11_c w12_c w13_c w14_c w15_c)) ∧ h = h0
set_option maxRecDepth 65536 in
set_option maxHeartbeats 40000000 in
theorem rmlc6 (l : Launch) (Z : State) (a0 : Array Value) (hw : ∀ d ∈ tables_1, d.before a0 Z = true) (ws : List Jvm.Cond) (o0 : Addr) (p1 : Int32) (w10_c : Int32) (w11_c : Int32) (w12_c : Int32) (w13_c : Int32) (w14_c : Int32) (w15_c : Int32) (kA : ClassId) (w7_SIOOBE_FORMATTER : Value) (h0 : Heap) (n0 : Nat) (Z0 : n0 ≤ h0.size) (V_o0 : Arv Z h0 o0 kA .byte (6 : Int32) [(.int w10_c), (.int w11_c), (.int w12_c), (.int w13_c), (.int w14_c), (.int w15_c)] (.int (0 : Int32))) (S_Preconditions_SIOOBE_FORMATTER : Sta Z h0 "jdk/internal/util/Preconditions" "SIOOBE_FORMATTER" "Ljava/util/function/BiFunction;" w7_SIOOBE_FORMATTER) (hy0 : w7_SIOOBE_FORMATTER = .null ∨ ∃ r, w7_SIOOBE_FORMATTER = .ref r) (hy1 : ¬ (p1 < (0 : Int32))) (hy2 : p1 < (6 : Int32)) :
    MetFree l (⟨"java/lang/StringLatin1", "charAt", "([BI)C"⟩ : MethodName) (head1 (Jvm.Cond.code (⟨"java/lang/StringLatin1", "charAt", "([BI)C"⟩ : MethodName) jdk_43_method_2_code 2 (some .char) :: ws) ({ frames := 2, cells := 0, slots := 0, locals := 27 } : Room)) (fun a U => a = #[(.ref o0), (.int p1)] ∧ Z.Warmed39 U.vm ∧ U.heap = h0) (fun _ _ _ _ _ => True) (fun _ U o U' => ∃ v L, o = .returned v ∧ Qlc6 Z o0 p1 w10_c w11_c w12_c w13_c w14_c w15_c kA w7_SIOOBE_FORMATTER h0 n0 v U'.heap L ∧ FrameEnd U o U' L ({ frames := 2, cells := 0, slots := 0, locals := 27 } : Room).cells ({ frames := 2, cells := 0, slots := 0, locals := 27 } : Room).slots) := by
  refine MetFree.of_bodySF (plainFor_of_name pn_java_lang_StringLatin1) hisR ?_
  intro p e s m args below meth c s₁ Bd hml0 hP hK
  obtain ⟨rfl, hZ, hh⟩ := hP
  have hx := Bd.exec
  have hby := Bd.bytes
  have hml : c.maxLocals = 2 := hml0
  have hown : s.vm.findClass "java/lang/StringLatin1" = some m.cls := findClass_of_methodNamed Bd.named
  have hnm := (name_of_methodNamed Bd.named Bd.method).1
  have hlk := BodyLoose.notSynchronized Bd
  have X0 : Stand p l e ({ frames := 2, cells := 0, slots := 0, locals := 27 } : Room) s m #[(.ref o0), (.int p1)] below meth c s₁ [] 0 0 := Stand.of_body Bd
  have e0 : s₁.heap = h0 := by rw [← hh, Bd.state]; rfl
  have N0 := Fr.nil n0
  have pre0 : ∀ t, Steps p.tables e below (s₁.setTop (mkF m 0 #[.val (.ref o0), .val (.int p1)] [])) t → Steps p.tables e below (s₁.setTop (entryFrame m #[(.ref o0), (.int p1)] 2)) t := fun t k => castTop (ef_lc6 m o0 p1) k
  obtain ⟨cl1, Ar1, qc1, S1, M1, Ha1, G1⟩ := id V_o0
  obtain ⟨vr2, _, ⟨T2, L2, k2, n2⟩, -, X2, ⟨Lc2, hQ2, l2, y2, z2⟩, st2⟩ := Jvm.LawKit.callS X0 hx (y := (⟨"java/lang/String", "checkIndex", "(II)V"⟩ : MethodName)) hown (mvT hZ (wd hw 44 rfl)) (mvT hZ (wd hw 45 rfl)) (mvT hZ (wd hw 10 rfl)) (mvT hZ (wd hw 46 rfl)) (by decide) (backOf (W := 0) (own_ck l Z a0 hw [] p1 (6 : Int32) w7_SIOOBE_FORMATTER h0 n0 Z0 S_Preconditions_SIOOBE_FORMATTER hy0 hy1 hy2) hZ (wd hw 46 rfl) (wd hw 10 rfl) (by decide) (by decide)) (g := (mkF m 3 #[.val (.ref o0), .val (.int p1)] [(.int (6 : Int32)), (.int p1)])) rfl (by rw [hml]; rfl) (argsL := [(.int p1), (.int (6 : Int32))]) (rest := []) (lenOf pd__II_V rfl) rfl (by show 2 * 0 + _ ≤ _; exact Nat.le_of_eq rfl) (hb hby d7_3) (fun _ _ => ⟨rfl, e0, (by decide : 0 + 0 ≤ _), (by decide : 0 + 0 ≤ _)⟩)
  dsimp only [Pt.U, Pt.locs, Pt.cells, Pt.slots] at X2 l2 y2 z2 st2 hQ2
  replace X2 := own_stand X2 l2 y2 z2
  clear l2 y2 z2
  have N2q := (show _ ∧ _ ∧ _ from hQ2).1
  have hv2 := (show _ ∧ _ ∧ _ from hQ2).2.1
  have e2 := (show _ ∧ _ ∧ _ from hQ2).2.2
  clear hQ2
  subst hv2
  have N2 := Fr.app N0 N2q
  have hin3 : ¬ (p1 < 0 ∨ cl1.slots.size ≤ (p1).toNatClampNeg) := inb_of S1 ⟨hy1, hy2⟩
  obtain ⟨fs, hr, hrun, hended, hW, hsame⟩ := X2.leave (v := some (.int (nar .char (((own_pick6 p1 w10_c w11_c w12_c w13_c w14_c w15_c) &&& (255 : Int32)).toUInt32.toUInt16.toUInt32.toInt32)))) (fun h => by rw [Bd.returns] at h; cases h) hlk
  refine ⟨_, _, pre0 _ ?_, hrun, hended, _, _, rfl, ?_, ⟨_, rfl⟩, hW, hsame.mono (by decide) (by decide)⟩
  · skip
    show Steps p.tables e below (s₁.setTop (mkF m 0 #[.val (.ref o0), .val (.int p1)] [])) _
    refine XS.iloadN X0.here hx rfl (hb hby d7_0) rfl ?_
    refine XS.aloadN X0.here hx rfl (hb hby d7_1) rfl rfl ?_
    show Steps p.tables e below (s₁.setTop (mkF m 2 #[.val (.ref o0), .val (.int p1)] [(.ref o0), (.int p1)])) _
    refine X0.arraylength hx (by rw [e0]; exact Ar1.1) (State.isArrayOf_alike hZ.alike Ar1.2.1) (g := (mkF m 2 #[.val (.ref o0), .val (.int p1)] [(.ref o0), (.int p1)])) rfl rfl (hb hby d7_2) _ ?_
    rw [len_of S1 M1]
    show Steps p.tables e below (s₁.setTop (mkF m 3 #[.val (.ref o0), .val (.int p1)] [(.int (6 : Int32)), (.int p1)])) _
    refine st2 _ ?_
    refine XS.aloadN X2.here hx rfl (hb hby d7_6) rfl rfl ?_
    refine XS.iloadN X2.here hx rfl (hb hby d7_7) rfl ?_
    show Steps p.tables e below (T2.setTop (mkF m 8 #[.val (.ref o0), .val (.int p1)] [(.int p1), (.ref o0)])) _
    refine X2.baloadBytes hx (j := p1) (v := (.int (own_pick6 p1 w10_c w11_c w12_c w13_c w14_c w15_c))) (by rw [e2]; exact Ar1.1) (State.isArrayOf_alike hZ.alike Ar1.2.1) Ar1.2.2 hin3 (Has.at Ha1 hin3 (own_get6 hy1 hy2)) (g := (mkF m 8 #[.val (.ref o0), .val (.int p1)] [(.int p1), (.ref o0)])) rfl rfl (hb hby d7_8) _ ?_
    refine XT.sipushV X2.here hx rfl (255 : Int32) (hb hby d7_9) (by decide) ?_
    refine XS.iand X2.here hx rfl (hb hby d7_12) rfl ?_
    refine XT.i2c X2.here hx rfl (hb hby d7_13) rfl ?_
    show Steps p.tables e below (T2.setTop (mkF m 14 #[.val (.ref o0), .val (.int p1)] [(.int (((own_pick6 p1 w10_c w11_c w12_c w13_c w14_c w15_c) &&& (255 : Int32)).toUInt32.toUInt16.toUInt32.toInt32))])) _
    exact retN X2 hx (t := .char) Bd.returns (by simp) (hb hby d7_14) hr
  · skip
    show Qlc6 Z o0 p1 w10_c w11_c w12_c w13_c w14_c w15_c kA w7_SIOOBE_FORMATTER h0 n0 _ T2.heap _
    rw [e2]
    exact ⟨N2, rfl, rfl⟩
theorem ef_ch6 (m : MethodId) (o0 : Addr) (p1 : Int32) : entryFrame m #[(.ref o0), (.int p1)] 2 = mkF m 0 #[.val (.ref o0), .val (.int p1)] [] := by first | (simp [entryFrame, mkF, argsToLocals, Value.category]; done) | rfl
def vch6_1 (p1 : Int32) (w10_c : Int32) (w11_c : Int32) (w12_c : Int32) (w13_c : Int32) (w14_c : Int32) (w15_c : Int32) (w8_COMPACT_STRINGS : Int32) : Int32 := (f6 w8_COMPACT_STRINGS)
def fch6 (p1 : Int32) (w10_c : Int32) (w11_c : Int32) (w12_c : Int32) (w13_c : Int32) (w14_c : Int32) (w15_c : Int32) (w8_COMPACT_STRINGS : Int32) : Int32 := (nar .char (flc6 p1 w10_c w11_c w12_c w13_c w14_c w15_c))
def Qch6 (Z : State) (o0 : Addr) (p1 : Int32) (w1_v : Addr) (w10_c : Int32) (w11_c : Int32) (w12_c : Int32) (w13_c : Int32) (w14_c : Int32) (w15_c : Int32) (kA : ClassId) (w8_COMPACT_STRINGS : Int32) (w9_SIOOBE_FORMATTER : Value) (h0 : Heap) (n0 : Nat) (v : Option Value) (h : Heap) (L : List Loc) : Prop := Fr n0 L ∧ v = some (.int (fch6 p1 w10_c w11_c w12_c w13_c w14_c w15_c w8_COMPACT_STRINGS)) ∧ h = h0
set_option maxRecDepth 65536 in
set_option maxHeartbeats 40000000 in
theorem rmch6 (l : Launch) (Z : State) (a0 : Array Value) (hw : ∀ d ∈ tables_1, d.before a0 Z = true) (ws : List Jvm.Cond) (o0 : Addr) (p1 : Int32) (w1_v : Addr) (w10_c : Int32) (w11_c : Int32) (w12_c : Int32) (w13_c : Int32) (w14_c : Int32) (w15_c : Int32) (kA : ClassId) (w8_COMPACT_STRINGS : Int32) (w9_SIOOBE_FORMATTER : Value) (h0 : Heap) (n0 : Nat) (Z0 : n0 ≤ h0.size) (E_o0 : Exa Z h0 o0 "java/lang/String") (F_coder_o0 : Fld Z h0 o0 "java/lang/String" "coder" "B" (.int (0 : Int32))) (F_value_o0 : Fld Z h0 o0 "java/lang/String" "value" "[B" (.ref w1_v)) (V_w1_v : Arv Z h0 w1_v kA .byte (6 : Int32) [(.int w10_c), (.int w11_c), (.int w12_c), (.int w13_c), (.int w14_c), (.int w15_c)] (.int (0 : Int32))) (S_String_COMPACT_STRINGS : Sta Z h0 "java/lang/String" "COMPACT_STRINGS" "Z" (.int w8_COMPACT_STRINGS)) (hy0 : ¬ (w8_COMPACT_STRINGS = (0 : Int32))) (S_Preconditions_SIOOBE_FORMATTER : Sta Z h0 "jdk/internal/util/Preconditions" "SIOOBE_FORMATTER" "Ljava/util/function/BiFunction;" w9_SIOOBE_FORMATTER) (hy1 : w9_SIOOBE_FORMATTER = .null ∨ ∃ r, w9_SIOOBE_FORMATTER = .ref r) (hy2 : ¬ (p1 < (0 : Int32))) (hy3 : p1 < (6 : Int32)) :
    MetFree l (⟨"java/lang/String", "charAt", "(I)C"⟩ : MethodName) (head1 (Jvm.Cond.code (⟨"java/lang/String", "charAt", "(I)C"⟩ : MethodName) jdk_42_method_56_code 2 (some .char) :: ws) ({ frames := 3, cells := 0, slots := 0, locals := 40 } : Room)) (fun a U => a = #[(.ref o0), (.int p1)] ∧ Z.Warmed39 U.vm ∧ U.heap = h0) (fun _ _ _ _ _ => True) (fun _ U o U' => ∃ v L, o = .returned v ∧ Qch6 Z o0 p1 w1_v w10_c w11_c w12_c w13_c w14_c w15_c kA w8_COMPACT_STRINGS w9_SIOOBE_FORMATTER h0 n0 v U'.heap L ∧ FrameEnd U o U' L ({ frames := 3, cells := 0, slots := 0, locals := 40 } : Room).cells ({ frames := 3, cells := 0, slots := 0, locals := 40 } : Room).slots) := by
  refine MetFree.of_bodySF (plainFor_of_name pn_java_lang_String) hisR ?_
  intro p e s m args below meth c s₁ Bd hml0 hP hK
  obtain ⟨rfl, hZ, hh⟩ := hP
  have hx := Bd.exec
  have hby := Bd.bytes
  have hml : c.maxLocals = 2 := hml0
  have hown : s.vm.findClass "java/lang/String" = some m.cls := findClass_of_methodNamed Bd.named
  have hnm := (name_of_methodNamed Bd.named Bd.method).1
  have hlk := BodyLoose.notSynchronized Bd
  have X0 : Stand p l e ({ frames := 3, cells := 0, slots := 0, locals := 40 } : Room) s m #[(.ref o0), (.int p1)] below meth c s₁ [] 0 0 := Stand.of_body Bd
  have e0 : s₁.heap = h0 := by rw [← hh, Bd.state]; rfl
  have N0 := Fr.nil n0
  have pre0 : ∀ t, Steps p.tables e below (s₁.setTop (mkF m 0 #[.val (.ref o0), .val (.int p1)] [])) t → Steps p.tables e below (s₁.setTop (entryFrame m #[(.ref o0), (.int p1)] 2)) t := fun t k => castTop (ef_ch6 m o0 p1) k
  obtain ⟨cq1, kq1, q1a, q1b, q1c⟩ := isOf hZ e0 E_o0
  obtain ⟨vr1, _, ⟨T1, L1, k1, n1⟩, -, X1, ⟨Lc1, hQ1, l1, y1, z1⟩, st1⟩ := Jvm.Stand.virtualBack X0 hx (y := (⟨"java/lang/String", "isLatin1", "()Z"⟩ : MethodName)) (z := (⟨"java/lang/String", "isLatin1", "()Z"⟩ : MethodName)) hown (mvT hZ (wd hw 35 rfl)) (mvT hZ (wd hw 36 rfl)) (notFace_of_selects (args := #[]) (mvT hZ (wd hw 38 rfl))) (mvT hZ (wd hw 38 rfl)) (mvT hZ (wd hw 37 rfl)) (by decide) (backOf (W := 0) (rm6 l Z a0 hw [] o0 w8_COMPACT_STRINGS h0 n0 Z0 E_o0 F_coder_o0 S_String_COMPACT_STRINGS hy0) hZ (wd hw 39 rfl) (wd hw 10 rfl) (by decide) (by decide)) q1a q1c (g := (mkF m 1 #[.val (.ref o0), .val (.int p1)] [(.ref o0)])) rfl (by rw [hml]; rfl) (Steps.refl _) (argsL := []) (rest := []) (lenOf pd___Z rfl) rfl (by show 2 * 0 + _ ≤ _; exact Nat.le_of_eq rfl) (hb hby d5_1) (fun _ _ => ⟨rfl, e0, (by decide : 0 + 0 ≤ _), (by decide : 0 + 0 ≤ _)⟩)
  dsimp only [Pt.U, Pt.locs, Pt.cells, Pt.slots] at X1 l1 y1 z1 st1 hQ1
  replace X1 := own_stand X1 l1 y1 z1
  clear l1 y1 z1
  have N1q := (show _ ∧ _ ∧ _ from hQ1).1
  have hv1 := (show _ ∧ _ ∧ _ from hQ1).2.1
  have e1 := (show _ ∧ _ ∧ _ from hQ1).2.2
  clear hQ1
  subst hv1
  have N1 := Fr.app N0 N1q
  obtain ⟨T2, X2, e2, st2⟩ := getF X1 hx hZ hown (host := "") (Or.inl (wd hw 22 rfl)) Via.refl e1 F_value_o0 (g := (mkF m 8 #[.val (.ref o0), .val (.int p1)] [(.ref o0)])) rfl rfl (hb hby d5_8)
  obtain ⟨vr3, _, ⟨T3, L3, k3, n3⟩, -, X3, ⟨Lc3, hQ3, l3, y3, z3⟩, st3⟩ := Jvm.LawKit.callS X2 hx (y := (⟨"java/lang/StringLatin1", "charAt", "([BI)C"⟩ : MethodName)) hown (mvT hZ (wd hw 40 rfl)) (mvT hZ (wd hw 41 rfl)) (mvT hZ (wd hw 42 rfl)) (mvT hZ (wd hw 43 rfl)) (by decide) (backOf (W := 0) (rmlc6 l Z a0 hw [] w1_v p1 w10_c w11_c w12_c w13_c w14_c w15_c kA w9_SIOOBE_FORMATTER h0 n0 Z0 V_w1_v S_Preconditions_SIOOBE_FORMATTER hy1 hy2 hy3) hZ (wd hw 43 rfl) (wd hw 42 rfl) (by decide) (by decide)) (g := (mkF m 12 #[.val (.ref o0), .val (.int p1)] [(.int p1), (.ref w1_v)])) rfl (by rw [hml]; rfl) (argsL := [(.ref w1_v), (.int p1)]) (rest := []) (lenOf pd___BI_C rfl) rfl (by show 2 * 0 + _ ≤ _; exact Nat.le_of_eq rfl) (hb hby d5_12) (fun _ _ => ⟨rfl, e2, (by decide : 0 + 0 ≤ _), (by decide : 0 + 0 ≤ _)⟩)
  dsimp only [Pt.U, Pt.locs, Pt.cells, Pt.slots] at X3 l3 y3 z3 st3 hQ3
  replace X3 := own_stand X3 l3 y3 z3
  clear l3 y3 z3
  have N3q := (show _ ∧ _ ∧ _ from hQ3).1
  have hv3 := (show _ ∧ _ ∧ _ from hQ3).2.1
  have e3 := (show _ ∧ _ ∧ _ from hQ3).2.2
  clear hQ3
  subst hv3
  have N3 := Fr.app N1 N3q
  obtain ⟨fs, hr, hrun, hended, hW, hsame⟩ := X3.leave (v := some (.int (nar .char (flc6 p1 w10_c w11_c w12_c w13_c w14_c w15_c)))) (fun h => by rw [Bd.returns] at h; cases h) hlk
  refine ⟨_, _, pre0 _ ?_, hrun, hended, _, _, rfl, ?_, ⟨_, rfl⟩, hW, hsame.mono (by decide) (by decide)⟩
  · skip
    show Steps p.tables e below (s₁.setTop (mkF m 0 #[.val (.ref o0), .val (.int p1)] [])) _
    refine XS.aloadN X0.here hx rfl (hb hby d5_0) rfl rfl ?_
    show Steps p.tables e below (s₁.setTop (mkF m 1 #[.val (.ref o0), .val (.int p1)] [(.ref o0)])) _
    refine st1.trans ?_
    show Steps p.tables e below (T1.setTop (mkF m 4 #[.val (.ref o0), .val (.int p1)] [(.int (f6 w8_COMPACT_STRINGS))])) _
    refine XS.ifNo X1.here hx rfl (hb hby d5_4) rfl (XT.i0_eq_f (fun q => absurd (show (1 : Int32) = 0 from q) (by decide))) ?_
    refine XS.aloadN X1.here hx rfl (hb hby d5_7) rfl rfl ?_
    show Steps p.tables e below (T1.setTop (mkF m 8 #[.val (.ref o0), .val (.int p1)] [(.ref o0)])) _
    refine st2 _ ?_
    refine XS.iloadN X2.here hx rfl (hb hby d5_11) rfl ?_
    show Steps p.tables e below (T2.setTop (mkF m 12 #[.val (.ref o0), .val (.int p1)] [(.int p1), (.ref w1_v)])) _
    refine st3 _ ?_
    show Steps p.tables e below (T3.setTop (mkF m 15 #[.val (.ref o0), .val (.int p1)] [(.int (flc6 p1 w10_c w11_c w12_c w13_c w14_c w15_c))])) _
    exact retN X3 hx (t := .char) Bd.returns (by simp) (hb hby d5_15) hr
  · skip
    show Qch6 Z o0 p1 w1_v w10_c w11_c w12_c w13_c w14_c w15_c kA w8_COMPACT_STRINGS w9_SIOOBE_FORMATTER h0 n0 _ T3.heap _
    rw [e3]
    exact ⟨N3, rfl, rfl⟩
/-own-/
theorem own_len0 (w2_COMPACT_STRINGS : Int32) : flen0 w2_COMPACT_STRINGS = (0 : Int32) := (by decide : (0 : Int32) >>> ((nar .byte (0 : Int32)) &&& 31) = 0)
/-own-/
theorem own_len4 (w10_c w11_c w12_c w13_c w6_COMPACT_STRINGS : Int32) : flen4 w10_c w11_c w12_c w13_c w6_COMPACT_STRINGS = (4 : Int32) := (by decide : (4 : Int32) >>> ((nar .byte (0 : Int32)) &&& 31) = 4)
/-own-/
theorem own_len6 (w10_c w11_c w12_c w13_c w14_c w15_c w8_COMPACT_STRINGS : Int32) : flen6 w10_c w11_c w12_c w13_c w14_c w15_c w8_COMPACT_STRINGS = (6 : Int32) := (by decide : (6 : Int32) >>> ((nar .byte (0 : Int32)) &&& 31) = 6)
theorem pd___I : parseMethodDescriptor "()I" = some ⟨[], some .int⟩ := by decide +kernel
theorem pd__I_C : parseMethodDescriptor "(I)C" = some ⟨[.int], some .char⟩ := by decide +kernel
theorem own_ws {a0 : Array Value} {Z : State} (hw : ∀ d ∈ tables_1, d.before a0 Z = true) : ∀ a ∈ Bundle.stringAtoms, a.before a0 Z = true := by
  intro d hd
  simp only [Bundle.stringAtoms, List.mem_cons, List.not_mem_nil, or_false] at hd
  rcases hd with rfl | rfl | rfl | rfl | rfl | rfl | rfl
  · exact (wd hw 10 rfl)
  · exact (wd hw 11 rfl)
  · exact (wd hw 12 rfl)
  · exact (wd hw 13 rfl)
  · exact (wd hw 14 rfl)
  · exact (wd hw 15 rfl)
  · exact (wd hw 16 rfl)
theorem own_ew {a0 : Array Value} {Z : State} (hw : ∀ d ∈ tables_1, d.before a0 Z = true) : EW Z a0 consts_1 := (EW.cons (wd hw 9 rfl) (by decide) (EW.cons (wd hw 82 rfl) (by decide) (EW.cons (wd hw 106 rfl) (by decide) (EW.cons (wd hw 108 rfl) (by decide) EW.nil))))
theorem d2_0 : decode method_2_code 0 = .ok (.iload_n 0, 1) := by decide +kernel
theorem d2_1 : decode method_2_code 1 = .ok (.ifCond .ne 8, 3) := by decide +kernel
theorem d2_4 : decode method_2_code 4 = .ok (.ldc 7, 2) := by decide +kernel
theorem d2_6 : decode method_2_code 6 = .ok (.goto 15, 3) := by decide +kernel
theorem d2_9 : decode method_2_code 9 = .ok (.iload_n 0, 1) := by decide +kernel
theorem d2_10 : decode method_2_code 10 = .ok (.iconst 1, 1) := by decide +kernel
theorem d2_11 : decode method_2_code 11 = .ok (.if_icmp .ne 8, 3) := by decide +kernel
theorem d2_14 : decode method_2_code 14 = .ok (.ldc 9, 2) := by decide +kernel
theorem d2_16 : decode method_2_code 16 = .ok (.goto 5, 3) := by decide +kernel
theorem d2_19 : decode method_2_code 19 = .ok (.ldc 11, 2) := by decide +kernel
theorem d2_21 : decode method_2_code 21 = .ok (.astore 4, 2) := by decide +kernel
theorem d2_23 : decode method_2_code 23 = .ok (.iload_n 1, 1) := by decide +kernel
theorem d2_24 : decode method_2_code 24 = .ok (.aload 4, 2) := by decide +kernel
theorem d2_26 : decode method_2_code 26 = .ok (.invokevirtual 13, 3) := by decide +kernel
theorem d2_29 : decode method_2_code 29 = .ok (.if_icmp .ge 10, 3) := by decide +kernel
theorem d2_32 : decode method_2_code 32 = .ok (.aload 4, 2) := by decide +kernel
theorem d2_34 : decode method_2_code 34 = .ok (.iload_n 1, 1) := by decide +kernel
theorem d2_35 : decode method_2_code 35 = .ok (.invokevirtual 19, 3) := by decide +kernel
theorem d2_38 : decode method_2_code 38 = .ok (.ireturn, 1) := by decide +kernel
theorem d2_39 : decode method_2_code 39 = .ok (.lload_n 2, 1) := by decide +kernel
theorem d2_40 : decode method_2_code 40 = .ok (.bipush 8, 2) := by decide +kernel
theorem d2_42 : decode method_2_code 42 = .ok (.iload_n 1, 1) := by decide +kernel
theorem d2_43 : decode method_2_code 43 = .ok (.imul, 1) := by decide +kernel
theorem d2_44 : decode method_2_code 44 = .ok (.lushr, 1) := by decide +kernel
theorem d2_45 : decode method_2_code 45 = .ok (.ldc2_w 23, 3) := by decide +kernel
theorem d2_48 : decode method_2_code 48 = .ok (.land, 1) := by decide +kernel
theorem d2_49 : decode method_2_code 49 = .ok (.l2i, 1) := by decide +kernel
theorem d2_50 : decode method_2_code 50 = .ok (.i2c, 1) := by decide +kernel
theorem d2_51 : decode method_2_code 51 = .ok (.ireturn, 1) := by decide +kernel
theorem pn_com_example_vellum_index_vellumindex_StemmerLabelledPinLaw : plainName "com/example/vellum_index/vellumindex/StemmerLabelledPinLaw" = true := by first | (simp [plainName, overriddenIn]; done) | decide +kernel
theorem ef_2 (m : MethodId) (p0 : Int32) (p1 : Int32) (q2 : Int64) : entryFrame m #[(.int p0), (.int p1), (.long q2)] 5 = mkF m 0 #[.val (.int p0), .val (.int p1), .val (.long q2), .second, .unset] [] := by first | (simp [entryFrame, mkF, argsToLocals, Value.category]; done) | rfl
def f2 (p0 : Int32) (p1 : Int32) (q2 : Int64) (w0 : Int32) : Int32 := (if p0 = (0 : Int32) then (if p1 < (4 : Int32) then (nar .char (fch4 p1 (110 : Int32) (111 : Int32) (110 : Int32) (101 : Int32) w0)) else (nar .char ((((XT.ushrL q2 ((8 : Int32) * p1)) &&& (255 : Int64)).toInt32).toUInt32.toUInt16.toUInt32.toInt32))) else (if p0 = (1 : Int32) then (if p1 < (6 : Int32) then (nar .char (fch6 p1 (112 : Int32) (111 : Int32) (114 : Int32) (116 : Int32) (101 : Int32) (114 : Int32) w0)) else (nar .char ((((XT.ushrL q2 ((8 : Int32) * p1)) &&& (255 : Int64)).toInt32).toUInt32.toUInt16.toUInt32.toInt32))) else (nar .char ((((XT.ushrL q2 ((8 : Int32) * p1)) &&& (255 : Int64)).toInt32).toUInt32.toUInt16.toUInt32.toInt32))))
def Q2 (Z : State) (p0 : Int32) (p1 : Int32) (q2 : Int64) (w0 : Int32) (u1_SF : Value) (h0 : Heap) (n0 : Nat) (v : Option Value) (h : Heap) (L : List Loc) : Prop := Fr n0 L ∧ v = some (.int (f2 p0 p1 q2 w0)) ∧ Keep h0 h []
set_option maxRecDepth 65536 in
set_option maxHeartbeats 40000000 in
theorem rm2 (l : Launch) (Z : State) (a0 : Array Value) (hw : ∀ d ∈ tables_1, d.before a0 Z = true) (ws : List Jvm.Cond) (p0 : Int32) (p1 : Int32) (q2 : Int64) (w0 : Int32) (u1_SF : Value) (h0 : Heap) (n0 : Nat) (Z0 : n0 ≤ h0.size) (S_String_COMPACT_STRINGS : Sta Z h0 "java/lang/String" "COMPACT_STRINGS" "Z" (.int w0)) (hcs : ¬ (w0 = (0 : Int32))) (S_Preconditions_SIOOBE_FORMATTER : Sta Z h0 "jdk/internal/util/Preconditions" "SIOOBE_FORMATTER" "Ljava/util/function/BiFunction;" u1_SF) (hu : u1_SF = .null ∨ ∃ r, u1_SF = .ref r) (hy2 : ¬ (p1 < (0 : Int32))) :
    MetFree l (⟨"com/example/vellum_index/vellumindex/StemmerLabelledPinLaw", "base", "(IIJ)C"⟩ : MethodName) (head1 (Jvm.Cond.code (⟨"com/example/vellum_index/vellumindex/StemmerLabelledPinLaw", "base", "(IIJ)C"⟩ : MethodName) method_2_code 5 (some .char) :: ws) ({ frames := 4, cells := 2, slots := 28, locals := 53 } : Room)) (fun a U => a = #[(.int p0), (.int p1), (.long q2)] ∧ Z.Warmed39 U.vm ∧ U.heap = h0 ∧ CHv Z consts_1 U.vm h0) (fun _ _ _ _ _ => True) (fun _ U o U' => ∃ v L, o = .returned v ∧ Q2 Z p0 p1 q2 w0 u1_SF h0 n0 v U'.heap L ∧ CHr Z consts_1 U.vm U.heap U'.vm U'.heap ∧ ReturnedEndW U o U' L ({ frames := 4, cells := 2, slots := 28, locals := 53 } : Room).cells ({ frames := 4, cells := 2, slots := 28, locals := 53 } : Room).slots) := by
  refine MetFree.of_bodySF (plainFor_of_name pn_com_example_vellum_index_vellumindex_StemmerLabelledPinLaw) hisR ?_
  intro p e s m args below meth c s₁ Bd hml0 hP hK
  obtain ⟨rfl, hZ, hh, hC⟩ := hP
  have hx := Bd.exec
  have hby := Bd.bytes
  have hml : c.maxLocals = 5 := hml0
  have hown : s.vm.findClass "com/example/vellum_index/vellumindex/StemmerLabelledPinLaw" = some m.cls := findClass_of_methodNamed Bd.named
  have hnm := (name_of_methodNamed Bd.named Bd.method).1
  have hlk := BodyLoose.notSynchronized Bd
  have X0 : Stand p l e ({ frames := 4, cells := 2, slots := 28, locals := 53 } : Room) s m #[(.int p0), (.int p1), (.long q2)] below meth c s₁ [] 0 0 := Stand.of_body Bd
  have e0 : s₁.heap = h0 := by rw [← hh, Bd.state]; rfl
  have N0 := Fr.nil n0
  have hS0 : s.Since s.vm h0.size := (State.WarmedH.refl s).since _
  have ch0 := CHr.refl hC
  have pre0 : ∀ t, Steps p.tables e below (s₁.setTop (mkF m 0 #[.val (.int p0), .val (.int p1), .val (.long q2), .second, .unset] [])) t → Steps p.tables e below (s₁.setTop (entryFrame m #[(.int p0), (.int p1), (.long q2)] 5)) t := fun t k => castTop (ef_2 m p0 p1 q2) k
  have pre1 : ∀ t, Steps p.tables e below (s₁.setTop (mkF m 1 #[.val (.int p0), .val (.int p1), .val (.long q2), .second, .unset] [(.int p0)])) t → Steps p.tables e below (s₁.setTop (entryFrame m #[(.int p0), (.int p1), (.long q2)] 5)) t := by
    intro t k
    refine pre0 t ?_
    show Steps p.tables e below (s₁.setTop (mkF m 0 #[.val (.int p0), .val (.int p1), .val (.long q2), .second, .unset] [])) _
    refine XS.iloadN X0.here hx rfl (hb hby d2_0) rfl ?_
    exact k
  clear pre0
  by_cases c2 : p0 = (0 : Int32)
  · skip
    obtain ⟨la3, T3, h3, kk3, lb3, lk3, X3, e3, E3, hS3, hk3, hZ, hown, Ex3, Fc3, Fv3, V3, -, -, Cr3, Lt3, Sf3, st3⟩ := ldcCH (s := s) (vm0 := s.vm) (EL := consts_1) X0 hx hZ hown (wd hw 9 rfl) (own_ws hw) e0 hS0 (Nat.le_refl _) (own_ew hw) (List.mem_of_getElem? (i := 0) rfl) ch0.1 (z := (4 : Int32)) (vs := [(.int (110 : Int32)), (.int (111 : Int32)), (.int (110 : Int32)), (.int (101 : Int32))]) ⟨by decide, by rfl⟩ (by decide) rfl (g := (mkF m 4 #[.val (.int p0), .val (.int p1), .val (.long q2), .second, .unset] [])) rfl (hb hby d2_4) (n := 16) (by decide) (by decide) (by decide) (by decide)
    have ch4 := ch0.trans Cr3
    have z5 : n0 ≤ h3.size := Nat.le_trans Z0 E3.1
    have hs6 : h0.size ≤ h3.size := Nat.le_trans (Nat.le_refl h0.size) E3.1
    have k8 := (Sta.ext E3 S_String_COMPACT_STRINGS)
    obtain ⟨cq7, kq7, q7a, q7b, q7c⟩ := isOf hZ e3 Ex3
    obtain ⟨vr7, _, ⟨T7, L7, k7, n7⟩, -, X7, ⟨Lc7, hQ7, l7, y7, z7⟩, st7⟩ := Jvm.Stand.virtualBack X3 hx (y := (⟨"java/lang/String", "length", "()I"⟩ : MethodName)) (z := (⟨"java/lang/String", "length", "()I"⟩ : MethodName)) hown (mvT hZ (wd hw 17 rfl)) (mvT hZ (wd hw 18 rfl)) (notFace_of_selects (args := #[]) (mvT hZ (wd hw 20 rfl))) (mvT hZ (wd hw 20 rfl)) (mvT hZ (wd hw 19 rfl)) (by decide) (backOf (W := 1) (rmlen4 l Z a0 hw [] la3 lb3 (110 : Int32) (111 : Int32) (110 : Int32) (101 : Int32) lk3 w0 h3 n0 z5 Ex3 Fc3 Fv3 V3 k8 hcs) hZ (wd hw 21 rfl) (wd hw 10 rfl) (by decide) (by decide)) q7a q7c (g := (mkF m 26 #[.val (.int p0), .val (.int p1), .val (.long q2), .second, .val (.ref la3)] [(.ref la3), (.int p1)])) rfl (by rw [hml]; rfl) (Steps.refl _) (argsL := []) (rest := [(.int p1)]) (lenOf pd___I rfl) rfl (by show 2 * 0 + _ ≤ _; exact Nat.le_of_eq rfl) (hb hby d2_26) (fun _ _ => ⟨rfl, e3, (by decide : 2 + 0 ≤ _), (by decide : 20 + 0 ≤ _)⟩)
    dsimp only [Pt.U, Pt.locs, Pt.cells, Pt.slots] at X7 l7 y7 z7 st7 hQ7
    replace X7 := own_stand X7 l7 y7 z7
    clear l7 y7 z7
    have N7q := (show _ ∧ _ ∧ _ from hQ7).1
    have hv7 := (show _ ∧ _ ∧ _ from hQ7).2.1
    have e7 := (show _ ∧ _ ∧ _ from hQ7).2.2
    clear hQ7
    subst hv7
    have N7 := Fr.app N0 N7q
    rw [show (flen4 (110 : Int32) (111 : Int32) (110 : Int32) (101 : Int32) w0) = (4 : Int32) from (own_len4 _ _ _ _ _)] at st7
    have pre9 : ∀ t, Steps p.tables e below (T7.setTop (mkF m 29 #[.val (.int p0), .val (.int p1), .val (.long q2), .second, .val (.ref la3)] [(.int (4 : Int32)), (.int p1)])) t → Steps p.tables e below (s₁.setTop (entryFrame m #[(.int p0), (.int p1), (.long q2)] 5)) t := by
      intro t k
      refine pre1 t ?_
      show Steps p.tables e below (s₁.setTop (mkF m 1 #[.val (.int p0), .val (.int p1), .val (.long q2), .second, .unset] [(.int p0)])) _
      refine XS.ifNo X0.here hx rfl (hb hby d2_1) rfl (XT.i0_ne_f c2) ?_
      show Steps p.tables e below (s₁.setTop (mkF m 4 #[.val (.int p0), .val (.int p1), .val (.long q2), .second, .unset] [])) _
      refine st3 _ ?_
      show Steps p.tables e below (T3.setTop (mkF m 6 #[.val (.int p0), .val (.int p1), .val (.long q2), .second, .unset] [(.ref la3)])) _
      refine XS.goto X3.here hx rfl (pc0 := 6) (pc' := 21) rfl (hb hby d2_6) (by decide) (by decide) ?_
      refine XS.astore X3.here hx rfl (hb hby d2_21) rfl rfl (l' := #[.val (.int p0), .val (.int p1), .val (.long q2), .second, .val (.ref la3)]) rfl ?_
      refine XS.iloadN X3.here hx rfl (hb hby d2_23) rfl ?_
      refine XS.aload X3.here hx rfl (hb hby d2_24) rfl rfl ?_
      show Steps p.tables e below (T3.setTop (mkF m 26 #[.val (.int p0), .val (.int p1), .val (.long q2), .second, .val (.ref la3)] [(.ref la3), (.int p1)])) _
      refine st7.trans ?_
      exact k
    clear pre1 st3 st7
    by_cases c10 : p1 < (4 : Int32)
    · skip
      have k12 := (Sta.ext E3 S_Preconditions_SIOOBE_FORMATTER)
      obtain ⟨cq11, kq11, q11a, q11b, q11c⟩ := isOf hZ e7 Ex3
      obtain ⟨vr11, _, ⟨T11, L11, k11, n11⟩, -, X11, ⟨Lc11, hQ11, l11, y11, z11⟩, st11⟩ := Jvm.Stand.virtualBack X7 hx (y := (⟨"java/lang/String", "charAt", "(I)C"⟩ : MethodName)) (z := (⟨"java/lang/String", "charAt", "(I)C"⟩ : MethodName)) hown (mvT hZ (wd hw 30 rfl)) (mvT hZ (wd hw 31 rfl)) (notFace_of_selects (args := #[]) (mvT hZ (wd hw 33 rfl))) (mvT hZ (wd hw 33 rfl)) (mvT hZ (wd hw 32 rfl)) (by decide) (backOf (W := 0) (rmch4 l Z a0 hw [] la3 p1 lb3 (110 : Int32) (111 : Int32) (110 : Int32) (101 : Int32) lk3 w0 u1_SF h3 n0 z5 Ex3 Fc3 Fv3 V3 k8 hcs k12 hu hy2 c10) hZ (wd hw 34 rfl) (wd hw 10 rfl) (by decide) (by decide)) q11a q11c (g := (mkF m 35 #[.val (.int p0), .val (.int p1), .val (.long q2), .second, .val (.ref la3)] [(.int p1), (.ref la3)])) rfl (by rw [hml]; rfl) (Steps.refl _) (argsL := [(.int p1)]) (rest := []) (lenOf pd__I_C rfl) rfl (by show 2 * 0 + _ ≤ _; exact Nat.le_of_eq rfl) (hb hby d2_35) (fun _ _ => ⟨rfl, e7, (by decide : 2 + 0 ≤ _), (by decide : 20 + 0 ≤ _)⟩)
      dsimp only [Pt.U, Pt.locs, Pt.cells, Pt.slots] at X11 l11 y11 z11 st11 hQ11
      replace X11 := own_stand X11 l11 y11 z11
      clear l11 y11 z11
      have N11q := (show _ ∧ _ ∧ _ from hQ11).1
      have hv11 := (show _ ∧ _ ∧ _ from hQ11).2.1
      have e11 := (show _ ∧ _ ∧ _ from hQ11).2.2
      clear hQ11
      subst hv11
      have N11 := Fr.app N7 N11q
      obtain ⟨fs, hr, hrun, hended, hRW⟩ := Jvm.Stand.leaveW (s := s) (vm₁ := T3.vm) X11 hS3 (by rw [e11]; exact hk3) (v := some (.int (nar .char (fch4 p1 (110 : Int32) (111 : Int32) (110 : Int32) (101 : Int32) w0)))) (fun h => by rw [Bd.returns] at h; cases h) hlk
      refine ⟨_, _, pre9 _ ?_, hrun, hended, _, _, rfl, ?_, (by show CHr Z consts_1 s.vm s.heap T11.vm T11.heap; rw [hh, e11]; exact ch4.trans (CHv.at (s := s) (vm0 := T3.vm) X11 hZ (own_ew hw) ch4.1)), hRW.1, hRW.2.1, hRW.2.2.1, hRW.2.2.2.mono (by decide) (by decide)⟩
      · skip
        show Steps p.tables e below (T7.setTop (mkF m 29 #[.val (.int p0), .val (.int p1), .val (.long q2), .second, .val (.ref la3)] [(.int (4 : Int32)), (.int p1)])) _
        refine XS.icmpNo X7.here hx rfl (hb hby d2_29) rfl (XT.ii_ge_f c10) ?_
        refine XS.aload X7.here hx rfl (hb hby d2_32) rfl rfl ?_
        refine XS.iloadN X7.here hx rfl (hb hby d2_34) rfl ?_
        show Steps p.tables e below (T7.setTop (mkF m 35 #[.val (.int p0), .val (.int p1), .val (.long q2), .second, .val (.ref la3)] [(.int p1), (.ref la3)])) _
        refine st11.trans ?_
        show Steps p.tables e below (T11.setTop (mkF m 38 #[.val (.int p0), .val (.int p1), .val (.long q2), .second, .val (.ref la3)] [(.int (fch4 p1 (110 : Int32) (111 : Int32) (110 : Int32) (101 : Int32) w0))])) _
        exact retN X11 hx (t := .char) Bd.returns (by simp) (hb hby d2_38) hr
      · skip
        show Q2 Z p0 p1 q2 w0 u1_SF h0 n0 _ T11.heap _
        rw [e11]
        exact ⟨N11, (by rw [show (f2 p0 p1 q2 w0) = (nar .char (fch4 p1 (110 : Int32) (111 : Int32) (110 : Int32) (101 : Int32) w0)) from ((if_pos c2).trans (if_pos c10))]), ((Keep.refl h0 []).ext E3)⟩
    · skip
      obtain ⟨fs, hr, hrun, hended, hRW⟩ := Jvm.Stand.leaveW (s := s) (vm₁ := T3.vm) X7 hS3 (by rw [e7]; exact hk3) (v := some (.int (nar .char ((((XT.ushrL q2 ((8 : Int32) * p1)) &&& (255 : Int64)).toInt32).toUInt32.toUInt16.toUInt32.toInt32)))) (fun h => by rw [Bd.returns] at h; cases h) hlk
      refine ⟨_, _, pre9 _ ?_, hrun, hended, _, _, rfl, ?_, (by show CHr Z consts_1 s.vm s.heap T7.vm T7.heap; rw [hh, e7]; exact ch4.trans (CHv.at (s := s) (vm0 := T3.vm) X7 hZ (own_ew hw) ch4.1)), hRW.1, hRW.2.1, hRW.2.2.1, hRW.2.2.2.mono (by decide) (by decide)⟩
      · skip
        show Steps p.tables e below (T7.setTop (mkF m 29 #[.val (.int p0), .val (.int p1), .val (.long q2), .second, .val (.ref la3)] [(.int (4 : Int32)), (.int p1)])) _
        refine XS.icmpYes X7.here hx rfl (pc0 := 29) (pc' := 39) rfl (hb hby d2_29) rfl (XT.ii_ge_t c10) (by decide) (by decide) ?_
        refine XT.lloadN X7.here hx rfl (hb hby d2_39) rfl ?_
        refine XT.bipushV X7.here hx rfl (8 : Int32) (hb hby d2_40) (by decide) ?_
        refine XS.iloadN X7.here hx rfl (hb hby d2_42) rfl ?_
        show Steps p.tables e below (T7.setTop (mkF m 43 #[.val (.int p0), .val (.int p1), .val (.long q2), .second, .val (.ref la3)] [(.int p1), (.int (8 : Int32)), (.long q2)])) _
        refine XS.imul X7.here hx rfl (hb hby d2_43) rfl ?_
        show Steps p.tables e below (T7.setTop (mkF m 44 #[.val (.int p0), .val (.int p1), .val (.long q2), .second, .val (.ref la3)] [(.int ((8 : Int32) * p1)), (.long q2)])) _
        refine XT.lushr X7.here hx rfl (hb hby d2_44) rfl ?_
        show Steps p.tables e below (T7.setTop (mkF m 45 #[.val (.int p0), .val (.int p1), .val (.long q2), .second, .val (.ref la3)] [(.long (XT.ushrL q2 ((8 : Int32) * p1)))])) _
        refine X7.ldc2J hx hown (mvT hZ (wd hw 107 rfl)) rfl (hb hby d2_45) ?_
        show Steps p.tables e below (T7.setTop (mkF m 48 #[.val (.int p0), .val (.int p1), .val (.long q2), .second, .val (.ref la3)] [(.long (255 : Int64)), (.long (XT.ushrL q2 ((8 : Int32) * p1)))])) _
        refine XT.land X7.here hx rfl (hb hby d2_48) rfl ?_
        refine XT.l2i X7.here hx rfl (hb hby d2_49) rfl ?_
        refine XT.i2c X7.here hx rfl (hb hby d2_50) rfl ?_
        show Steps p.tables e below (T7.setTop (mkF m 51 #[.val (.int p0), .val (.int p1), .val (.long q2), .second, .val (.ref la3)] [(.int ((((XT.ushrL q2 ((8 : Int32) * p1)) &&& (255 : Int64)).toInt32).toUInt32.toUInt16.toUInt32.toInt32))])) _
        exact retN X7 hx (t := .char) Bd.returns (by simp) (hb hby d2_51) hr
      · skip
        show Q2 Z p0 p1 q2 w0 u1_SF h0 n0 _ T7.heap _
        rw [e7]
        exact ⟨N7, (by rw [show (f2 p0 p1 q2 w0) = (nar .char ((((XT.ushrL q2 ((8 : Int32) * p1)) &&& (255 : Int64)).toInt32).toUInt32.toUInt16.toUInt32.toInt32)) from ((if_pos c2).trans (if_neg c10))]), ((Keep.refl h0 []).ext E3)⟩
  · skip
    have pre13 : ∀ t, Steps p.tables e below (s₁.setTop (mkF m 11 #[.val (.int p0), .val (.int p1), .val (.long q2), .second, .unset] [(.int (1 : Int32)), (.int p0)])) t → Steps p.tables e below (s₁.setTop (entryFrame m #[(.int p0), (.int p1), (.long q2)] 5)) t := by
      intro t k
      refine pre1 t ?_
      show Steps p.tables e below (s₁.setTop (mkF m 1 #[.val (.int p0), .val (.int p1), .val (.long q2), .second, .unset] [(.int p0)])) _
      refine XS.ifYes X0.here hx rfl (pc0 := 1) (pc' := 9) rfl (hb hby d2_1) rfl (XT.i0_ne_t c2) (by decide) (by decide) ?_
      refine XS.iloadN X0.here hx rfl (hb hby d2_9) rfl ?_
      refine XT.iconstV X0.here hx rfl (1 : Int32) (hb hby d2_10) (by decide) ?_
      exact k
    clear pre1
    by_cases c14 : p0 = (1 : Int32)
    · skip
      obtain ⟨la15, T15, h15, kk15, lb15, lk15, X15, e15, E15, hS15, hk15, hZ, hown, Ex15, Fc15, Fv15, V15, -, -, Cr15, Lt15, Sf15, st15⟩ := ldcCH (s := s) (vm0 := s.vm) (EL := consts_1) X0 hx hZ hown (wd hw 82 rfl) (own_ws hw) e0 hS0 (Nat.le_refl _) (own_ew hw) (List.mem_of_getElem? (i := 1) rfl) ch0.1 (z := (6 : Int32)) (vs := [(.int (112 : Int32)), (.int (111 : Int32)), (.int (114 : Int32)), (.int (116 : Int32)), (.int (101 : Int32)), (.int (114 : Int32))]) ⟨by decide, by rfl⟩ (by decide) rfl (g := (mkF m 14 #[.val (.int p0), .val (.int p1), .val (.long q2), .second, .unset] [])) rfl (hb hby d2_14) (n := 24) (by decide) (by decide) (by decide) (by decide)
      have ch16 := ch0.trans Cr15
      have z17 : n0 ≤ h15.size := Nat.le_trans Z0 E15.1
      have hs18 : h0.size ≤ h15.size := Nat.le_trans (Nat.le_refl h0.size) E15.1
      have k20 := (Sta.ext E15 S_String_COMPACT_STRINGS)
      obtain ⟨cq19, kq19, q19a, q19b, q19c⟩ := isOf hZ e15 Ex15
      obtain ⟨vr19, _, ⟨T19, L19, k19, n19⟩, -, X19, ⟨Lc19, hQ19, l19, y19, z19⟩, st19⟩ := Jvm.Stand.virtualBack X15 hx (y := (⟨"java/lang/String", "length", "()I"⟩ : MethodName)) (z := (⟨"java/lang/String", "length", "()I"⟩ : MethodName)) hown (mvT hZ (wd hw 17 rfl)) (mvT hZ (wd hw 18 rfl)) (notFace_of_selects (args := #[]) (mvT hZ (wd hw 20 rfl))) (mvT hZ (wd hw 20 rfl)) (mvT hZ (wd hw 19 rfl)) (by decide) (backOf (W := 1) (rmlen6 l Z a0 hw [] la15 lb15 (112 : Int32) (111 : Int32) (114 : Int32) (116 : Int32) (101 : Int32) (114 : Int32) lk15 w0 h15 n0 z17 Ex15 Fc15 Fv15 V15 k20 hcs) hZ (wd hw 21 rfl) (wd hw 10 rfl) (by decide) (by decide)) q19a q19c (g := (mkF m 26 #[.val (.int p0), .val (.int p1), .val (.long q2), .second, .val (.ref la15)] [(.ref la15), (.int p1)])) rfl (by rw [hml]; rfl) (Steps.refl _) (argsL := []) (rest := [(.int p1)]) (lenOf pd___I rfl) rfl (by show 2 * 0 + _ ≤ _; exact Nat.le_of_eq rfl) (hb hby d2_26) (fun _ _ => ⟨rfl, e15, (by decide : 2 + 0 ≤ _), (by decide : 28 + 0 ≤ _)⟩)
      dsimp only [Pt.U, Pt.locs, Pt.cells, Pt.slots] at X19 l19 y19 z19 st19 hQ19
      replace X19 := own_stand X19 l19 y19 z19
      clear l19 y19 z19
      have N19q := (show _ ∧ _ ∧ _ from hQ19).1
      have hv19 := (show _ ∧ _ ∧ _ from hQ19).2.1
      have e19 := (show _ ∧ _ ∧ _ from hQ19).2.2
      clear hQ19
      subst hv19
      have N19 := Fr.app N0 N19q
      rw [show (flen6 (112 : Int32) (111 : Int32) (114 : Int32) (116 : Int32) (101 : Int32) (114 : Int32) w0) = (6 : Int32) from (own_len6 _ _ _ _ _ _ _)] at st19
      have pre21 : ∀ t, Steps p.tables e below (T19.setTop (mkF m 29 #[.val (.int p0), .val (.int p1), .val (.long q2), .second, .val (.ref la15)] [(.int (6 : Int32)), (.int p1)])) t → Steps p.tables e below (s₁.setTop (entryFrame m #[(.int p0), (.int p1), (.long q2)] 5)) t := by
        intro t k
        refine pre13 t ?_
        show Steps p.tables e below (s₁.setTop (mkF m 11 #[.val (.int p0), .val (.int p1), .val (.long q2), .second, .unset] [(.int (1 : Int32)), (.int p0)])) _
        refine XS.icmpNo X0.here hx rfl (hb hby d2_11) rfl (XT.ii_ne_f c14) ?_
        show Steps p.tables e below (s₁.setTop (mkF m 14 #[.val (.int p0), .val (.int p1), .val (.long q2), .second, .unset] [])) _
        refine st15 _ ?_
        show Steps p.tables e below (T15.setTop (mkF m 16 #[.val (.int p0), .val (.int p1), .val (.long q2), .second, .unset] [(.ref la15)])) _
        refine XS.goto X15.here hx rfl (pc0 := 16) (pc' := 21) rfl (hb hby d2_16) (by decide) (by decide) ?_
        refine XS.astore X15.here hx rfl (hb hby d2_21) rfl rfl (l' := #[.val (.int p0), .val (.int p1), .val (.long q2), .second, .val (.ref la15)]) rfl ?_
        refine XS.iloadN X15.here hx rfl (hb hby d2_23) rfl ?_
        refine XS.aload X15.here hx rfl (hb hby d2_24) rfl rfl ?_
        show Steps p.tables e below (T15.setTop (mkF m 26 #[.val (.int p0), .val (.int p1), .val (.long q2), .second, .val (.ref la15)] [(.ref la15), (.int p1)])) _
        refine st19.trans ?_
        exact k
      clear pre13 st15 st19
      by_cases c22 : p1 < (6 : Int32)
      · skip
        have k24 := (Sta.ext E15 S_Preconditions_SIOOBE_FORMATTER)
        obtain ⟨cq23, kq23, q23a, q23b, q23c⟩ := isOf hZ e19 Ex15
        obtain ⟨vr23, _, ⟨T23, L23, k23, n23⟩, -, X23, ⟨Lc23, hQ23, l23, y23, z23⟩, st23⟩ := Jvm.Stand.virtualBack X19 hx (y := (⟨"java/lang/String", "charAt", "(I)C"⟩ : MethodName)) (z := (⟨"java/lang/String", "charAt", "(I)C"⟩ : MethodName)) hown (mvT hZ (wd hw 30 rfl)) (mvT hZ (wd hw 31 rfl)) (notFace_of_selects (args := #[]) (mvT hZ (wd hw 33 rfl))) (mvT hZ (wd hw 33 rfl)) (mvT hZ (wd hw 32 rfl)) (by decide) (backOf (W := 0) (rmch6 l Z a0 hw [] la15 p1 lb15 (112 : Int32) (111 : Int32) (114 : Int32) (116 : Int32) (101 : Int32) (114 : Int32) lk15 w0 u1_SF h15 n0 z17 Ex15 Fc15 Fv15 V15 k20 hcs k24 hu hy2 c22) hZ (wd hw 34 rfl) (wd hw 10 rfl) (by decide) (by decide)) q23a q23c (g := (mkF m 35 #[.val (.int p0), .val (.int p1), .val (.long q2), .second, .val (.ref la15)] [(.int p1), (.ref la15)])) rfl (by rw [hml]; rfl) (Steps.refl _) (argsL := [(.int p1)]) (rest := []) (lenOf pd__I_C rfl) rfl (by show 2 * 0 + _ ≤ _; exact Nat.le_of_eq rfl) (hb hby d2_35) (fun _ _ => ⟨rfl, e19, (by decide : 2 + 0 ≤ _), (by decide : 28 + 0 ≤ _)⟩)
        dsimp only [Pt.U, Pt.locs, Pt.cells, Pt.slots] at X23 l23 y23 z23 st23 hQ23
        replace X23 := own_stand X23 l23 y23 z23
        clear l23 y23 z23
        have N23q := (show _ ∧ _ ∧ _ from hQ23).1
        have hv23 := (show _ ∧ _ ∧ _ from hQ23).2.1
        have e23 := (show _ ∧ _ ∧ _ from hQ23).2.2
        clear hQ23
        subst hv23
        have N23 := Fr.app N19 N23q
        obtain ⟨fs, hr, hrun, hended, hRW⟩ := Jvm.Stand.leaveW (s := s) (vm₁ := T15.vm) X23 hS15 (by rw [e23]; exact hk15) (v := some (.int (nar .char (fch6 p1 (112 : Int32) (111 : Int32) (114 : Int32) (116 : Int32) (101 : Int32) (114 : Int32) w0)))) (fun h => by rw [Bd.returns] at h; cases h) hlk
        refine ⟨_, _, pre21 _ ?_, hrun, hended, _, _, rfl, ?_, (by show CHr Z consts_1 s.vm s.heap T23.vm T23.heap; rw [hh, e23]; exact ch16.trans (CHv.at (s := s) (vm0 := T15.vm) X23 hZ (own_ew hw) ch16.1)), hRW.1, hRW.2.1, hRW.2.2.1, hRW.2.2.2.mono (by decide) (by decide)⟩
        · skip
          show Steps p.tables e below (T19.setTop (mkF m 29 #[.val (.int p0), .val (.int p1), .val (.long q2), .second, .val (.ref la15)] [(.int (6 : Int32)), (.int p1)])) _
          refine XS.icmpNo X19.here hx rfl (hb hby d2_29) rfl (XT.ii_ge_f c22) ?_
          refine XS.aload X19.here hx rfl (hb hby d2_32) rfl rfl ?_
          refine XS.iloadN X19.here hx rfl (hb hby d2_34) rfl ?_
          show Steps p.tables e below (T19.setTop (mkF m 35 #[.val (.int p0), .val (.int p1), .val (.long q2), .second, .val (.ref la15)] [(.int p1), (.ref la15)])) _
          refine st23.trans ?_
          show Steps p.tables e below (T23.setTop (mkF m 38 #[.val (.int p0), .val (.int p1), .val (.long q2), .second, .val (.ref la15)] [(.int (fch6 p1 (112 : Int32) (111 : Int32) (114 : Int32) (116 : Int32) (101 : Int32) (114 : Int32) w0))])) _
          exact retN X23 hx (t := .char) Bd.returns (by simp) (hb hby d2_38) hr
        · skip
          show Q2 Z p0 p1 q2 w0 u1_SF h0 n0 _ T23.heap _
          rw [e23]
          exact ⟨N23, (by rw [show (f2 p0 p1 q2 w0) = (nar .char (fch6 p1 (112 : Int32) (111 : Int32) (114 : Int32) (116 : Int32) (101 : Int32) (114 : Int32) w0)) from (((if_neg c2).trans (if_pos c14)).trans (if_pos c22))]), ((Keep.refl h0 []).ext E15)⟩
      · skip
        obtain ⟨fs, hr, hrun, hended, hRW⟩ := Jvm.Stand.leaveW (s := s) (vm₁ := T15.vm) X19 hS15 (by rw [e19]; exact hk15) (v := some (.int (nar .char ((((XT.ushrL q2 ((8 : Int32) * p1)) &&& (255 : Int64)).toInt32).toUInt32.toUInt16.toUInt32.toInt32)))) (fun h => by rw [Bd.returns] at h; cases h) hlk
        refine ⟨_, _, pre21 _ ?_, hrun, hended, _, _, rfl, ?_, (by show CHr Z consts_1 s.vm s.heap T19.vm T19.heap; rw [hh, e19]; exact ch16.trans (CHv.at (s := s) (vm0 := T15.vm) X19 hZ (own_ew hw) ch16.1)), hRW.1, hRW.2.1, hRW.2.2.1, hRW.2.2.2.mono (by decide) (by decide)⟩
        · skip
          show Steps p.tables e below (T19.setTop (mkF m 29 #[.val (.int p0), .val (.int p1), .val (.long q2), .second, .val (.ref la15)] [(.int (6 : Int32)), (.int p1)])) _
          refine XS.icmpYes X19.here hx rfl (pc0 := 29) (pc' := 39) rfl (hb hby d2_29) rfl (XT.ii_ge_t c22) (by decide) (by decide) ?_
          refine XT.lloadN X19.here hx rfl (hb hby d2_39) rfl ?_
          refine XT.bipushV X19.here hx rfl (8 : Int32) (hb hby d2_40) (by decide) ?_
          refine XS.iloadN X19.here hx rfl (hb hby d2_42) rfl ?_
          show Steps p.tables e below (T19.setTop (mkF m 43 #[.val (.int p0), .val (.int p1), .val (.long q2), .second, .val (.ref la15)] [(.int p1), (.int (8 : Int32)), (.long q2)])) _
          refine XS.imul X19.here hx rfl (hb hby d2_43) rfl ?_
          show Steps p.tables e below (T19.setTop (mkF m 44 #[.val (.int p0), .val (.int p1), .val (.long q2), .second, .val (.ref la15)] [(.int ((8 : Int32) * p1)), (.long q2)])) _
          refine XT.lushr X19.here hx rfl (hb hby d2_44) rfl ?_
          show Steps p.tables e below (T19.setTop (mkF m 45 #[.val (.int p0), .val (.int p1), .val (.long q2), .second, .val (.ref la15)] [(.long (XT.ushrL q2 ((8 : Int32) * p1)))])) _
          refine X19.ldc2J hx hown (mvT hZ (wd hw 107 rfl)) rfl (hb hby d2_45) ?_
          show Steps p.tables e below (T19.setTop (mkF m 48 #[.val (.int p0), .val (.int p1), .val (.long q2), .second, .val (.ref la15)] [(.long (255 : Int64)), (.long (XT.ushrL q2 ((8 : Int32) * p1)))])) _
          refine XT.land X19.here hx rfl (hb hby d2_48) rfl ?_
          refine XT.l2i X19.here hx rfl (hb hby d2_49) rfl ?_
          refine XT.i2c X19.here hx rfl (hb hby d2_50) rfl ?_
          show Steps p.tables e below (T19.setTop (mkF m 51 #[.val (.int p0), .val (.int p1), .val (.long q2), .second, .val (.ref la15)] [(.int ((((XT.ushrL q2 ((8 : Int32) * p1)) &&& (255 : Int64)).toInt32).toUInt32.toUInt16.toUInt32.toInt32))])) _
          exact retN X19 hx (t := .char) Bd.returns (by simp) (hb hby d2_51) hr
        · skip
          show Q2 Z p0 p1 q2 w0 u1_SF h0 n0 _ T19.heap _
          rw [e19]
          exact ⟨N19, (by rw [show (f2 p0 p1 q2 w0) = (nar .char ((((XT.ushrL q2 ((8 : Int32) * p1)) &&& (255 : Int64)).toInt32).toUInt32.toUInt16.toUInt32.toInt32)) from (((if_neg c2).trans (if_pos c14)).trans (if_neg c22))]), ((Keep.refl h0 []).ext E15)⟩
    · skip
      obtain ⟨la25, T25, h25, kk25, lb25, lk25, X25, e25, E25, hS25, hk25, hZ, hown, Ex25, Fc25, Fv25, V25, -, -, Cr25, Lt25, Sf25, st25⟩ := ldcCH (s := s) (vm0 := s.vm) (EL := consts_1) X0 hx hZ hown (wd hw 106 rfl) (own_ws hw) e0 hS0 (Nat.le_refl _) (own_ew hw) (List.mem_of_getElem? (i := 2) rfl) ch0.1 (z := (0 : Int32)) (vs := []) ⟨by decide, by rfl⟩ (by decide) rfl (g := (mkF m 19 #[.val (.int p0), .val (.int p1), .val (.long q2), .second, .unset] [])) rfl (hb hby d2_19) (n := 0) (by decide) (by decide) (by decide) (by decide)
      have ch26 := ch0.trans Cr25
      have z27 : n0 ≤ h25.size := Nat.le_trans Z0 E25.1
      have hs28 : h0.size ≤ h25.size := Nat.le_trans (Nat.le_refl h0.size) E25.1
      have k30 := (Sta.ext E25 S_String_COMPACT_STRINGS)
      obtain ⟨cq29, kq29, q29a, q29b, q29c⟩ := isOf hZ e25 Ex25
      obtain ⟨vr29, _, ⟨T29, L29, k29, n29⟩, -, X29, ⟨Lc29, hQ29, l29, y29, z29⟩, st29⟩ := Jvm.Stand.virtualBack X25 hx (y := (⟨"java/lang/String", "length", "()I"⟩ : MethodName)) (z := (⟨"java/lang/String", "length", "()I"⟩ : MethodName)) hown (mvT hZ (wd hw 17 rfl)) (mvT hZ (wd hw 18 rfl)) (notFace_of_selects (args := #[]) (mvT hZ (wd hw 20 rfl))) (mvT hZ (wd hw 20 rfl)) (mvT hZ (wd hw 19 rfl)) (by decide) (backOf (W := 1) (rmlen0 l Z a0 hw [] la25 lb25 lk25 w0 h25 n0 z27 Ex25 Fc25 Fv25 V25 k30 hcs) hZ (wd hw 21 rfl) (wd hw 10 rfl) (by decide) (by decide)) q29a q29c (g := (mkF m 26 #[.val (.int p0), .val (.int p1), .val (.long q2), .second, .val (.ref la25)] [(.ref la25), (.int p1)])) rfl (by rw [hml]; rfl) (Steps.refl _) (argsL := []) (rest := [(.int p1)]) (lenOf pd___I rfl) rfl (by show 2 * 0 + _ ≤ _; exact Nat.le_of_eq rfl) (hb hby d2_26) (fun _ _ => ⟨rfl, e25, (by decide : 2 + 0 ≤ _), (by decide : 4 + 0 ≤ _)⟩)
      dsimp only [Pt.U, Pt.locs, Pt.cells, Pt.slots] at X29 l29 y29 z29 st29 hQ29
      replace X29 := own_stand X29 l29 y29 z29
      clear l29 y29 z29
      have N29q := (show _ ∧ _ ∧ _ from hQ29).1
      have hv29 := (show _ ∧ _ ∧ _ from hQ29).2.1
      have e29 := (show _ ∧ _ ∧ _ from hQ29).2.2
      clear hQ29
      subst hv29
      have N29 := Fr.app N0 N29q
      rw [show (flen0 w0) = (0 : Int32) from (own_len0 _)] at st29
      obtain ⟨fs, hr, hrun, hended, hRW⟩ := Jvm.Stand.leaveW (s := s) (vm₁ := T25.vm) X29 hS25 (by rw [e29]; exact hk25) (v := some (.int (nar .char ((((XT.ushrL q2 ((8 : Int32) * p1)) &&& (255 : Int64)).toInt32).toUInt32.toUInt16.toUInt32.toInt32)))) (fun h => by rw [Bd.returns] at h; cases h) hlk
      refine ⟨_, _, pre13 _ ?_, hrun, hended, _, _, rfl, ?_, (by show CHr Z consts_1 s.vm s.heap T29.vm T29.heap; rw [hh, e29]; exact ch26.trans (CHv.at (s := s) (vm0 := T25.vm) X29 hZ (own_ew hw) ch26.1)), hRW.1, hRW.2.1, hRW.2.2.1, hRW.2.2.2.mono (by decide) (by decide)⟩
      · skip
        show Steps p.tables e below (s₁.setTop (mkF m 11 #[.val (.int p0), .val (.int p1), .val (.long q2), .second, .unset] [(.int (1 : Int32)), (.int p0)])) _
        refine XS.icmpYes X0.here hx rfl (pc0 := 11) (pc' := 19) rfl (hb hby d2_11) rfl (XT.ii_ne_t c14) (by decide) (by decide) ?_
        show Steps p.tables e below (s₁.setTop (mkF m 19 #[.val (.int p0), .val (.int p1), .val (.long q2), .second, .unset] [])) _
        refine st25 _ ?_
        refine XS.astore X25.here hx rfl (hb hby d2_21) rfl rfl (l' := #[.val (.int p0), .val (.int p1), .val (.long q2), .second, .val (.ref la25)]) rfl ?_
        refine XS.iloadN X25.here hx rfl (hb hby d2_23) rfl ?_
        refine XS.aload X25.here hx rfl (hb hby d2_24) rfl rfl ?_
        show Steps p.tables e below (T25.setTop (mkF m 26 #[.val (.int p0), .val (.int p1), .val (.long q2), .second, .val (.ref la25)] [(.ref la25), (.int p1)])) _
        refine st29.trans ?_
        show Steps p.tables e below (T29.setTop (mkF m 29 #[.val (.int p0), .val (.int p1), .val (.long q2), .second, .val (.ref la25)] [(.int (0 : Int32)), (.int p1)])) _
        refine XS.icmpYes X29.here hx rfl (pc0 := 29) (pc' := 39) rfl (hb hby d2_29) rfl (XT.ii_ge_t hy2) (by decide) (by decide) ?_
        refine XT.lloadN X29.here hx rfl (hb hby d2_39) rfl ?_
        refine XT.bipushV X29.here hx rfl (8 : Int32) (hb hby d2_40) (by decide) ?_
        refine XS.iloadN X29.here hx rfl (hb hby d2_42) rfl ?_
        show Steps p.tables e below (T29.setTop (mkF m 43 #[.val (.int p0), .val (.int p1), .val (.long q2), .second, .val (.ref la25)] [(.int p1), (.int (8 : Int32)), (.long q2)])) _
        refine XS.imul X29.here hx rfl (hb hby d2_43) rfl ?_
        show Steps p.tables e below (T29.setTop (mkF m 44 #[.val (.int p0), .val (.int p1), .val (.long q2), .second, .val (.ref la25)] [(.int ((8 : Int32) * p1)), (.long q2)])) _
        refine XT.lushr X29.here hx rfl (hb hby d2_44) rfl ?_
        show Steps p.tables e below (T29.setTop (mkF m 45 #[.val (.int p0), .val (.int p1), .val (.long q2), .second, .val (.ref la25)] [(.long (XT.ushrL q2 ((8 : Int32) * p1)))])) _
        refine X29.ldc2J hx hown (mvT hZ (wd hw 107 rfl)) rfl (hb hby d2_45) ?_
        show Steps p.tables e below (T29.setTop (mkF m 48 #[.val (.int p0), .val (.int p1), .val (.long q2), .second, .val (.ref la25)] [(.long (255 : Int64)), (.long (XT.ushrL q2 ((8 : Int32) * p1)))])) _
        refine XT.land X29.here hx rfl (hb hby d2_48) rfl ?_
        refine XT.l2i X29.here hx rfl (hb hby d2_49) rfl ?_
        refine XT.i2c X29.here hx rfl (hb hby d2_50) rfl ?_
        show Steps p.tables e below (T29.setTop (mkF m 51 #[.val (.int p0), .val (.int p1), .val (.long q2), .second, .val (.ref la25)] [(.int ((((XT.ushrL q2 ((8 : Int32) * p1)) &&& (255 : Int64)).toInt32).toUInt32.toUInt16.toUInt32.toInt32))])) _
        exact retN X29 hx (t := .char) Bd.returns (by simp) (hb hby d2_51) hr
      · skip
        show Q2 Z p0 p1 q2 w0 u1_SF h0 n0 _ T29.heap _
        rw [e29]
        exact ⟨N29, (by rw [show (f2 p0 p1 q2 w0) = (nar .char ((((XT.ushrL q2 ((8 : Int32) * p1)) &&& (255 : Int64)).toInt32).toUInt32.toUInt16.toUInt32.toInt32)) from ((if_neg c2).trans (if_neg c14))]), ((Keep.refl h0 []).ext E25)⟩
theorem pd__IIJ_C : parseMethodDescriptor "(IIJ)C" = some ⟨[.int, .int, .long], some .char⟩ := by decide +kernel
theorem d1_0 : decode method_3_code 0 = .ok (.iload 4, 2) := by decide +kernel
theorem d1_2 : decode method_3_code 2 = .ok (.ifCond .eq 17, 3) := by decide +kernel
theorem d1_5 : decode method_3_code 5 = .ok (.iload_n 1, 1) := by decide +kernel
theorem d1_6 : decode method_3_code 6 = .ok (.iload 5, 2) := by decide +kernel
theorem d1_8 : decode method_3_code 8 = .ok (.if_icmp .ne 11, 3) := by decide +kernel
theorem d1_11 : decode method_3_code 11 = .ok (.iload 6, 2) := by decide +kernel
theorem d1_13 : decode method_3_code 13 = .ok (.sipush 255, 3) := by decide +kernel
theorem d1_16 : decode method_3_code 16 = .ok (.iand, 1) := by decide +kernel
theorem d1_17 : decode method_3_code 17 = .ok (.i2c, 1) := by decide +kernel
theorem d1_18 : decode method_3_code 18 = .ok (.ireturn, 1) := by decide +kernel
theorem d1_19 : decode method_3_code 19 = .ok (.iload_n 0, 1) := by decide +kernel
theorem d1_20 : decode method_3_code 20 = .ok (.iload_n 1, 1) := by decide +kernel
theorem d1_21 : decode method_3_code 21 = .ok (.lload_n 2, 1) := by decide +kernel
theorem d1_22 : decode method_3_code 22 = .ok (.invokestatic 25, 3) := by decide +kernel
theorem d1_25 : decode method_3_code 25 = .ok (.ireturn, 1) := by decide +kernel
theorem ef_1 (m : MethodId) (p0 : Int32) (p1 : Int32) (q2 : Int64) (p3 : Int32) (p4 : Int32) (p5 : Int32) : entryFrame m #[(.int p0), (.int p1), (.long q2), (.int p3), (.int p4), (.int p5)] 7 = mkF m 0 #[.val (.int p0), .val (.int p1), .val (.long q2), .second, .val (.int p3), .val (.int p4), .val (.int p5)] [] := by first | (simp [entryFrame, mkF, argsToLocals, Value.category]; done) | rfl
def f1 (p0 : Int32) (p1 : Int32) (q2 : Int64) (p3 : Int32) (p4 : Int32) (p5 : Int32) (w0 : Int32) : Int32 := (if p3 = (0 : Int32) then (nar .char (f2 p0 p1 q2 w0)) else (if p1 = p4 then (nar .char ((p5 &&& (255 : Int32)).toUInt32.toUInt16.toUInt32.toInt32)) else (nar .char (f2 p0 p1 q2 w0))))
def Q1 (Z : State) (p0 : Int32) (p1 : Int32) (q2 : Int64) (p3 : Int32) (p4 : Int32) (p5 : Int32) (w0 : Int32) (u1_SF : Value) (h0 : Heap) (n0 : Nat) (v : Option Value) (h : Heap) (L : List Loc) : Prop := Fr n0 L ∧ v = some (.int (f1 p0 p1 q2 p3 p4 p5 w0)) ∧ Keep h0 h []
set_option maxRecDepth 65536 in
set_option maxHeartbeats 40000000 in
theorem rm1 (l : Launch) (Z : State) (a0 : Array Value) (hw : ∀ d ∈ tables_1, d.before a0 Z = true) (ws : List Jvm.Cond) (p0 : Int32) (p1 : Int32) (q2 : Int64) (p3 : Int32) (p4 : Int32) (p5 : Int32) (w0 : Int32) (u1_SF : Value) (h0 : Heap) (n0 : Nat) (Z0 : n0 ≤ h0.size) (S_String_COMPACT_STRINGS : Sta Z h0 "java/lang/String" "COMPACT_STRINGS" "Z" (.int w0)) (hcs : ¬ (w0 = (0 : Int32))) (S_Preconditions_SIOOBE_FORMATTER : Sta Z h0 "jdk/internal/util/Preconditions" "SIOOBE_FORMATTER" "Ljava/util/function/BiFunction;" u1_SF) (hu : u1_SF = .null ∨ ∃ r, u1_SF = .ref r) (hy2 : ¬ (p1 < (0 : Int32))) :
    MetFree l (⟨"com/example/vellum_index/vellumindex/StemmerLabelledPinLaw", "at", "(IIJZII)C"⟩ : MethodName) (head1 (Jvm.Cond.code (⟨"com/example/vellum_index/vellumindex/StemmerLabelledPinLaw", "at", "(IIJZII)C"⟩ : MethodName) method_3_code 7 (some .char) :: ws) ({ frames := 5, cells := 2, slots := 28, locals := 69 } : Room)) (fun a U => a = #[(.int p0), (.int p1), (.long q2), (.int p3), (.int p4), (.int p5)] ∧ Z.Warmed39 U.vm ∧ U.heap = h0 ∧ CHv Z consts_1 U.vm h0) (fun _ _ _ _ _ => True) (fun _ U o U' => ∃ v L, o = .returned v ∧ Q1 Z p0 p1 q2 p3 p4 p5 w0 u1_SF h0 n0 v U'.heap L ∧ CHr Z consts_1 U.vm U.heap U'.vm U'.heap ∧ ReturnedEndW U o U' L ({ frames := 5, cells := 2, slots := 28, locals := 69 } : Room).cells ({ frames := 5, cells := 2, slots := 28, locals := 69 } : Room).slots) := by
  refine MetFree.of_bodySF (plainFor_of_name pn_com_example_vellum_index_vellumindex_StemmerLabelledPinLaw) hisR ?_
  intro p e s m args below meth c s₁ Bd hml0 hP hK
  obtain ⟨rfl, hZ, hh, hC⟩ := hP
  have hx := Bd.exec
  have hby := Bd.bytes
  have hml : c.maxLocals = 7 := hml0
  have hown : s.vm.findClass "com/example/vellum_index/vellumindex/StemmerLabelledPinLaw" = some m.cls := findClass_of_methodNamed Bd.named
  have hnm := (name_of_methodNamed Bd.named Bd.method).1
  have hlk := BodyLoose.notSynchronized Bd
  have X0 : Stand p l e ({ frames := 5, cells := 2, slots := 28, locals := 69 } : Room) s m #[(.int p0), (.int p1), (.long q2), (.int p3), (.int p4), (.int p5)] below meth c s₁ [] 0 0 := Stand.of_body Bd
  have e0 : s₁.heap = h0 := by rw [← hh, Bd.state]; rfl
  have N0 := Fr.nil n0
  have hS0 : s.Since s.vm h0.size := (State.WarmedH.refl s).since _
  have ch0 := CHr.refl hC
  have pre0 : ∀ t, Steps p.tables e below (s₁.setTop (mkF m 0 #[.val (.int p0), .val (.int p1), .val (.long q2), .second, .val (.int p3), .val (.int p4), .val (.int p5)] [])) t → Steps p.tables e below (s₁.setTop (entryFrame m #[(.int p0), (.int p1), (.long q2), (.int p3), (.int p4), (.int p5)] 7)) t := fun t k => castTop (ef_1 m p0 p1 q2 p3 p4 p5) k
  have pre1 : ∀ t, Steps p.tables e below (s₁.setTop (mkF m 2 #[.val (.int p0), .val (.int p1), .val (.long q2), .second, .val (.int p3), .val (.int p4), .val (.int p5)] [(.int p3)])) t → Steps p.tables e below (s₁.setTop (entryFrame m #[(.int p0), (.int p1), (.long q2), (.int p3), (.int p4), (.int p5)] 7)) t := by
    intro t k
    refine pre0 t ?_
    show Steps p.tables e below (s₁.setTop (mkF m 0 #[.val (.int p0), .val (.int p1), .val (.long q2), .second, .val (.int p3), .val (.int p4), .val (.int p5)] [])) _
    refine XS.iload X0.here hx rfl (hb hby d1_0) rfl ?_
    exact k
  clear pre0
  by_cases c2 : p3 = (0 : Int32)
  · skip
    obtain ⟨vr3, _, ⟨T3, L3, k3, n3⟩, -, X3, hSq3, hgq3, ⟨Lc3, hQ3, l3, y3, z3, Cr3⟩, st3⟩ := Jvm.RoadKit.callSS (s := s.setVm s.vm) X0 hx (y := (⟨"com/example/vellum_index/vellumindex/StemmerLabelledPinLaw", "base", "(IIJ)C"⟩ : MethodName)) hown (mvT hZ (wd hw 6 rfl)) (mvT hZ (wd hw 7 rfl)) (mvT hZ (wd hw 4 rfl)) (mvT hZ (wd hw 8 rfl)) (by decide) (backOfSH (s := s ) (vm0 := s.vm) (EL := consts_1) (W := 0) (rm2 l Z a0 hw [] p0 p1 q2 w0 u1_SF h0 n0 Z0 S_String_COMPACT_STRINGS hcs S_Preconditions_SIOOBE_FORMATTER hu hy2) hZ (wd hw 8 rfl) (wd hw 4 rfl) (by decide) (by decide) (own_ew hw) ch0.1) (g := (mkF m 22 #[.val (.int p0), .val (.int p1), .val (.long q2), .second, .val (.int p3), .val (.int p4), .val (.int p5)] [(.long q2), (.int p1), (.int p0)])) rfl (by rw [hml]; rfl) (argsL := [(.int p0), (.int p1), (.long q2)]) (rest := []) (lenOf pd__IIJ_C rfl) rfl (by show 2 * 0 + _ ≤ _; exact Nat.le_of_eq rfl) (hb hby d1_22) (fun _ _ => ⟨rfl, e0, (by decide : 0 + 2 ≤ _), (by decide : 0 + 28 ≤ _)⟩)
    dsimp only [Pt.U, Pt.locs, Pt.cells, Pt.slots] at X3 l3 y3 z3 st3 hQ3 hSq3 hgq3 Cr3
    obtain ⟨X3, hS3, hZ, hown⟩ := rebS (s := s) (vm0 := s.vm) (n1 := h0.size) hS0 (Nat.le_refl _) X3 hSq3 (by rw [← e0]; exact hgq3) hZ hown
    have ch4 := ch0.trans Cr3
    replace X3 := own_stand X3 l3 y3 z3
    clear l3 y3 z3
    have N3q := (show _ ∧ _ from hQ3).1
    have hq3 := (show _ ∧ _ from hQ3).2
    clear hQ3
    have hv3 := hq3.1
    have K3 := hq3.2
    clear hq3
    subst hv3
    have z5 : n0 ≤ T3.heap.size := Nat.le_trans Z0 K3.1
    have hs6 : h0.size ≤ T3.heap.size := Nat.le_trans (Nat.le_refl h0.size) K3.1
    have N3 := Fr.app N0 N3q
    obtain ⟨fs, hr, hrun, hended, hRW⟩ := Jvm.Stand.leaveW (s := s) (vm₁ := T3.vm) X3 hS3 (Nat.le_refl _) (v := some (.int (nar .char (f2 p0 p1 q2 w0)))) (fun h => by rw [Bd.returns] at h; cases h) hlk
    refine ⟨_, _, pre1 _ ?_, hrun, hended, _, _, rfl, ?_, (by show CHr Z consts_1 s.vm s.heap T3.vm T3.heap; rw [hh]; exact ch4.trans (CHv.at (s := s) (vm0 := T3.vm) X3 hZ (own_ew hw) ch4.1)), hRW.1, hRW.2.1, hRW.2.2.1, hRW.2.2.2.mono (by decide) (by decide)⟩
    · skip
      show Steps p.tables e below (s₁.setTop (mkF m 2 #[.val (.int p0), .val (.int p1), .val (.long q2), .second, .val (.int p3), .val (.int p4), .val (.int p5)] [(.int p3)])) _
      refine XS.ifYes X0.here hx rfl (pc0 := 2) (pc' := 19) rfl (hb hby d1_2) rfl (XT.i0_eq_t c2) (by decide) (by decide) ?_
      refine XS.iloadN X0.here hx rfl (hb hby d1_19) rfl ?_
      refine XS.iloadN X0.here hx rfl (hb hby d1_20) rfl ?_
      refine XT.lloadN X0.here hx rfl (hb hby d1_21) rfl ?_
      show Steps p.tables e below (s₁.setTop (mkF m 22 #[.val (.int p0), .val (.int p1), .val (.long q2), .second, .val (.int p3), .val (.int p4), .val (.int p5)] [(.long q2), (.int p1), (.int p0)])) _
      refine st3.trans ?_
      show Steps p.tables e below (T3.setTop (mkF m 25 #[.val (.int p0), .val (.int p1), .val (.long q2), .second, .val (.int p3), .val (.int p4), .val (.int p5)] [(.int (f2 p0 p1 q2 w0))])) _
      exact retN X3 hx (t := .char) Bd.returns (by simp) (hb hby d1_25) hr
    · skip
      show Q1 Z p0 p1 q2 p3 p4 p5 w0 u1_SF h0 n0 _ T3.heap _
      exact ⟨N3, (by rw [show (f1 p0 p1 q2 p3 p4 p5 w0) = (nar .char (f2 p0 p1 q2 w0)) from (if_pos c2)]), ((Keep.refl h0 []).trans K3 all0)⟩
  · skip
    have pre7 : ∀ t, Steps p.tables e below (s₁.setTop (mkF m 8 #[.val (.int p0), .val (.int p1), .val (.long q2), .second, .val (.int p3), .val (.int p4), .val (.int p5)] [(.int p4), (.int p1)])) t → Steps p.tables e below (s₁.setTop (entryFrame m #[(.int p0), (.int p1), (.long q2), (.int p3), (.int p4), (.int p5)] 7)) t := by
      intro t k
      refine pre1 t ?_
      show Steps p.tables e below (s₁.setTop (mkF m 2 #[.val (.int p0), .val (.int p1), .val (.long q2), .second, .val (.int p3), .val (.int p4), .val (.int p5)] [(.int p3)])) _
      refine XS.ifNo X0.here hx rfl (hb hby d1_2) rfl (XT.i0_eq_f c2) ?_
      refine XS.iloadN X0.here hx rfl (hb hby d1_5) rfl ?_
      refine XS.iload X0.here hx rfl (hb hby d1_6) rfl ?_
      exact k
    clear pre1
    by_cases c8 : p1 = p4
    · skip
      obtain ⟨fs, hr, hrun, hended, hRW⟩ := Jvm.Stand.leaveW (s := s) (vm₁ := s.vm) X0 hS0 (by rw [e0]; exact (Nat.le_refl _)) (v := some (.int (nar .char ((p5 &&& (255 : Int32)).toUInt32.toUInt16.toUInt32.toInt32)))) (fun h => by rw [Bd.returns] at h; cases h) hlk
      refine ⟨_, _, pre7 _ ?_, hrun, hended, _, _, rfl, ?_, (by show CHr Z consts_1 s.vm s.heap s₁.vm s₁.heap; rw [hh, e0]; exact ch0.trans (CHv.at (s := s) (vm0 := s.vm) X0 hZ (own_ew hw) ch0.1)), hRW.1, hRW.2.1, hRW.2.2.1, hRW.2.2.2.mono (by decide) (by decide)⟩
      · skip
        show Steps p.tables e below (s₁.setTop (mkF m 8 #[.val (.int p0), .val (.int p1), .val (.long q2), .second, .val (.int p3), .val (.int p4), .val (.int p5)] [(.int p4), (.int p1)])) _
        refine XS.icmpNo X0.here hx rfl (hb hby d1_8) rfl (XT.ii_ne_f c8) ?_
        refine XS.iload X0.here hx rfl (hb hby d1_11) rfl ?_
        refine XT.sipushV X0.here hx rfl (255 : Int32) (hb hby d1_13) (by decide) ?_
        refine XS.iand X0.here hx rfl (hb hby d1_16) rfl ?_
        show Steps p.tables e below (s₁.setTop (mkF m 17 #[.val (.int p0), .val (.int p1), .val (.long q2), .second, .val (.int p3), .val (.int p4), .val (.int p5)] [(.int (p5 &&& (255 : Int32)))])) _
        refine XT.i2c X0.here hx rfl (hb hby d1_17) rfl ?_
        show Steps p.tables e below (s₁.setTop (mkF m 18 #[.val (.int p0), .val (.int p1), .val (.long q2), .second, .val (.int p3), .val (.int p4), .val (.int p5)] [(.int ((p5 &&& (255 : Int32)).toUInt32.toUInt16.toUInt32.toInt32))])) _
        exact retN X0 hx (t := .char) Bd.returns (by simp) (hb hby d1_18) hr
      · skip
        show Q1 Z p0 p1 q2 p3 p4 p5 w0 u1_SF h0 n0 _ s₁.heap _
        rw [e0]
        exact ⟨N0, (by rw [show (f1 p0 p1 q2 p3 p4 p5 w0) = (nar .char ((p5 &&& (255 : Int32)).toUInt32.toUInt16.toUInt32.toInt32)) from ((if_neg c2).trans (if_pos c8))]), (Keep.refl h0 [])⟩
    · skip
      obtain ⟨vr9, _, ⟨T9, L9, k9, n9⟩, -, X9, hSq9, hgq9, ⟨Lc9, hQ9, l9, y9, z9, Cr9⟩, st9⟩ := Jvm.RoadKit.callSS (s := s.setVm s.vm) X0 hx (y := (⟨"com/example/vellum_index/vellumindex/StemmerLabelledPinLaw", "base", "(IIJ)C"⟩ : MethodName)) hown (mvT hZ (wd hw 6 rfl)) (mvT hZ (wd hw 7 rfl)) (mvT hZ (wd hw 4 rfl)) (mvT hZ (wd hw 8 rfl)) (by decide) (backOfSH (s := s ) (vm0 := s.vm) (EL := consts_1) (W := 0) (rm2 l Z a0 hw [] p0 p1 q2 w0 u1_SF h0 n0 Z0 S_String_COMPACT_STRINGS hcs S_Preconditions_SIOOBE_FORMATTER hu hy2) hZ (wd hw 8 rfl) (wd hw 4 rfl) (by decide) (by decide) (own_ew hw) ch0.1) (g := (mkF m 22 #[.val (.int p0), .val (.int p1), .val (.long q2), .second, .val (.int p3), .val (.int p4), .val (.int p5)] [(.long q2), (.int p1), (.int p0)])) rfl (by rw [hml]; rfl) (argsL := [(.int p0), (.int p1), (.long q2)]) (rest := []) (lenOf pd__IIJ_C rfl) rfl (by show 2 * 0 + _ ≤ _; exact Nat.le_of_eq rfl) (hb hby d1_22) (fun _ _ => ⟨rfl, e0, (by decide : 0 + 2 ≤ _), (by decide : 0 + 28 ≤ _)⟩)
      dsimp only [Pt.U, Pt.locs, Pt.cells, Pt.slots] at X9 l9 y9 z9 st9 hQ9 hSq9 hgq9 Cr9
      obtain ⟨X9, hS9, hZ, hown⟩ := rebS (s := s) (vm0 := s.vm) (n1 := h0.size) hS0 (Nat.le_refl _) X9 hSq9 (by rw [← e0]; exact hgq9) hZ hown
      have ch10 := ch0.trans Cr9
      replace X9 := own_stand X9 l9 y9 z9
      clear l9 y9 z9
      have N9q := (show _ ∧ _ from hQ9).1
      have hq9 := (show _ ∧ _ from hQ9).2
      clear hQ9
      have hv9 := hq9.1
      have K9 := hq9.2
      clear hq9
      subst hv9
      have z11 : n0 ≤ T9.heap.size := Nat.le_trans Z0 K9.1
      have hs12 : h0.size ≤ T9.heap.size := Nat.le_trans (Nat.le_refl h0.size) K9.1
      have N9 := Fr.app N0 N9q
      obtain ⟨fs, hr, hrun, hended, hRW⟩ := Jvm.Stand.leaveW (s := s) (vm₁ := T9.vm) X9 hS9 (Nat.le_refl _) (v := some (.int (nar .char (f2 p0 p1 q2 w0)))) (fun h => by rw [Bd.returns] at h; cases h) hlk
      refine ⟨_, _, pre7 _ ?_, hrun, hended, _, _, rfl, ?_, (by show CHr Z consts_1 s.vm s.heap T9.vm T9.heap; rw [hh]; exact ch10.trans (CHv.at (s := s) (vm0 := T9.vm) X9 hZ (own_ew hw) ch10.1)), hRW.1, hRW.2.1, hRW.2.2.1, hRW.2.2.2.mono (by decide) (by decide)⟩
      · skip
        show Steps p.tables e below (s₁.setTop (mkF m 8 #[.val (.int p0), .val (.int p1), .val (.long q2), .second, .val (.int p3), .val (.int p4), .val (.int p5)] [(.int p4), (.int p1)])) _
        refine XS.icmpYes X0.here hx rfl (pc0 := 8) (pc' := 19) rfl (hb hby d1_8) rfl (XT.ii_ne_t c8) (by decide) (by decide) ?_
        refine XS.iloadN X0.here hx rfl (hb hby d1_19) rfl ?_
        refine XS.iloadN X0.here hx rfl (hb hby d1_20) rfl ?_
        refine XT.lloadN X0.here hx rfl (hb hby d1_21) rfl ?_
        show Steps p.tables e below (s₁.setTop (mkF m 22 #[.val (.int p0), .val (.int p1), .val (.long q2), .second, .val (.int p3), .val (.int p4), .val (.int p5)] [(.long q2), (.int p1), (.int p0)])) _
        refine st9.trans ?_
        show Steps p.tables e below (T9.setTop (mkF m 25 #[.val (.int p0), .val (.int p1), .val (.long q2), .second, .val (.int p3), .val (.int p4), .val (.int p5)] [(.int (f2 p0 p1 q2 w0))])) _
        exact retN X9 hx (t := .char) Bd.returns (by simp) (hb hby d1_25) hr
      · skip
        show Q1 Z p0 p1 q2 p3 p4 p5 w0 u1_SF h0 n0 _ T9.heap _
        exact ⟨N9, (by rw [show (f1 p0 p1 q2 p3 p4 p5 w0) = (nar .char (f2 p0 p1 q2 w0)) from ((if_neg c2).trans (if_neg c8))]), ((Keep.refl h0 []).trans K9 all0)⟩
theorem own_hws {a0 : Array Value} {Z : State} (hw : ∀ d ∈ tables_1, d.before a0 Z = true) : ∀ d ∈ StrChars.Road.words, d.before a0 Z = true := fun d hd => hw d ((by decide +kernel : ∀ d ∈ StrChars.Road.words, d ∈ tables_1) d hd)
theorem own_aln : ∀ c ∈ ([] : List Int32), ¬ c < 0 ∧ ¬ (255 : Int32) < c := fun _ h => nomatch h
theorem own_alc {c : Int32} {l : List Int32} (h : ¬ c < 0 ∧ ¬ (255 : Int32) < c) (t : ∀ c ∈ l, ¬ c < 0 ∧ ¬ (255 : Int32) < c) : ∀ c' ∈ c :: l, ¬ c' < 0 ∧ ¬ (255 : Int32) < c' := fun c' q => by
  rcases List.mem_cons.mp q with rfl | q
  · exact h
  · exact t _ q
theorem own_newS {p : Program} {l : Launch} {e : Env} {R : Room} {s : State} {args : Array Value} {below : List Frame} {len W : Nat} {Z : State} {a0 : Array Value} {h : Heap} (hZ : Z.Warmed39 s.vm) (hw : ∀ d ∈ tables_1, d.before a0 Z = true)
    {x b : Addr} {kC : ClassId} {cs : List Int32} {vs : List Value} {d v0 c0 : Value} {z N : Int32} {n n0 : Nat} (hx0 : n0 ≤ x) (hh0 : n0 ≤ h.size) (E : Exa Z h x "java/lang/String") (V : Fld Z h x "java/lang/String" "value" "[B" v0) (C : Fld Z h x "java/lang/String" "coder" "B" c0) (K : Arv Z h b kC .char N (cs.map Value.int) d) (S : Sta Z h "java/lang/String" "COMPACT_STRINGS" "Z" (.int z)) (hz : ¬ z = 0)
    (hn : cs.length = n) (hN : N = Int32.ofNat n) (l0 : 0 < n) (l2 : n ≤ 4000) (hp : ∀ c ∈ cs, ¬ c < 0 ∧ ¬ (255 : Int32) < c) (hvs : (cs.map (fun c => c.toInt8.toInt32)).map Value.int = vs) (hfr : 4 ≤ R.frames) (hlo : W + 65 ≤ R.locals) :
    Back l R p e below s args (⟨"java/lang/String", "<init>", "([C)V"⟩ : MethodName) len W (fun P a => a = #[.ref x, .ref b] ∧ P.U.heap = h ∧ P.cells + 1 ≤ R.cells ∧ P.slots + n ≤ R.slots)
      (fun P _ v B => ∃ L, (Fr n0 L ∧ ∃ (t : Addr) (kb : ClassId), v = none ∧ h.size ≤ t ∧ Keep h B.U.heap [x] ∧ Exa Z B.U.heap x "java/lang/String" ∧ Fld Z B.U.heap x "java/lang/String" "coder" "B" (.int 0) ∧ Fld Z B.U.heap x "java/lang/String" "value" "[B" (.ref t) ∧ Arv Z B.U.heap t kb .byte N vs (.int 0)) ∧ B.locs = P.locs ++ L ∧ B.cells = P.cells + 1 ∧ B.slots = P.slots + n) :=
  Back.mono (StrChars.Road.backV hZ (own_hws hw) (kI := 4) (wd hw 11 rfl) hx0 hh0 E V C K S hz hn hN l0 l2 hp rfl hfr hlo) (fun P a hp => hp) (fun P a v B hp hq => by
    obtain ⟨L, ⟨q1, q2, q3, q4, q5, t, kb, _, q6, _, q7, q8⟩, r⟩ := hq
    subst hvs
    exact ⟨L, ⟨q2, t, kb, q1, q6, q3, q4, q5, q7, q8⟩, r⟩)
def own_b (c : Int32) : Int32 := c.toInt8.toInt32
theorem d11_0 : decode jdk_42_method_149_code 0 = .ok (.aload_n 0, 1) := by decide +kernel
theorem d11_1 : decode jdk_42_method_149_code 1 = .ok (.invokespecial 1, 3) := by decide +kernel
theorem d11_4 : decode jdk_42_method_149_code 4 = .ok (.iload_n 3, 1) := by decide +kernel
theorem d11_5 : decode jdk_42_method_149_code 5 = .ok (.ifCond .ne 22, 3) := by decide +kernel
theorem d11_8 : decode jdk_42_method_149_code 8 = .ok (.aload_n 0, 1) := by decide +kernel
theorem d11_9 : decode jdk_42_method_149_code 9 = .ok (.ldc 7, 2) := by decide +kernel
theorem d11_11 : decode jdk_42_method_149_code 11 = .ok (.getfield 9, 3) := by decide +kernel
theorem d11_14 : decode jdk_42_method_149_code 14 = .ok (.putfield 9, 3) := by decide +kernel
theorem d11_17 : decode jdk_42_method_149_code 17 = .ok (.aload_n 0, 1) := by decide +kernel
theorem d11_18 : decode jdk_42_method_149_code 18 = .ok (.ldc 7, 2) := by decide +kernel
theorem d11_20 : decode jdk_42_method_149_code 20 = .ok (.getfield 15, 3) := by decide +kernel
theorem d11_23 : decode jdk_42_method_149_code 23 = .ok (.putfield 15, 3) := by decide +kernel
theorem d11_26 : decode jdk_42_method_149_code 26 = .ok (.return_, 1) := by decide +kernel
theorem ef_si0 (m : MethodId) (o0 : Addr) (o1 : Addr) : entryFrame m #[(.ref o0), (.ref o1), (.int (0 : Int32)), (.int (0 : Int32)), .null] 6 = mkF m 0 #[.val (.ref o0), .val (.ref o1), .val (.int (0 : Int32)), .val (.int (0 : Int32)), .val .null, .unset] [] := by first | (simp [entryFrame, mkF, argsToLocals, Value.category]; done) | rfl
def Qsi0 (Z : State) (o0 : Addr) (o1 : Addr) (h0 : Heap) (n0 : Nat) (v : Option Value) (h : Heap) (L : List Loc) : Prop := Fr n0 L ∧ ∃ (xsi0_0 : Addr) (ksi0_1 : ClassId), v = none ∧ Keep h0 h [o0] ∧ Exa Z h o0 "java/lang/String" ∧ Fld Z h o0 "java/lang/String" "value" "[B" (.ref xsi0_0) ∧ Fld Z h o0 "java/lang/String" "coder" "B" (.int (0 : Int32)) ∧ Arv Z h xsi0_0 ksi0_1 .byte (0 : Int32) [] (.int (0 : Int32))
set_option maxRecDepth 65536 in
set_option maxHeartbeats 40000000 in
theorem rmsi0 (l : Launch) (Z : State) (a0 : Array Value) (hw : ∀ d ∈ tables_1, d.before a0 Z = true) (ws : List Jvm.Cond) (o0 : Addr) (o1 : Addr) (h0 : Heap) (n0 : Nat) (Z0 : n0 ≤ h0.size) (E_o0 : Exa Z h0 o0 "java/lang/String") (F_value_o0 : Fld Z h0 o0 "java/lang/String" "value" "[B" .null) (F_coder_o0 : Fld Z h0 o0 "java/lang/String" "coder" "B" (.int (0 : Int32))) (g_o0 : n0 ≤ o0) :
    MetFree l (⟨"java/lang/String", "<init>", "([CIILjava/lang/Void;)V"⟩ : MethodName) (head1 (Jvm.Cond.code (⟨"java/lang/String", "<init>", "([CIILjava/lang/Void;)V"⟩ : MethodName) jdk_42_method_149_code 6 none :: ws) ({ frames := 1, cells := 2, slots := 4, locals := 12 } : Room)) (fun a U => a = #[(.ref o0), (.ref o1), (.int (0 : Int32)), (.int (0 : Int32)), .null] ∧ Z.Warmed39 U.vm ∧ U.heap = h0 ∧ CHv Z consts_1 U.vm h0) (fun _ _ _ _ _ => True) (fun _ U o U' => ∃ v L, o = .returned v ∧ Qsi0 Z o0 o1 h0 n0 v U'.heap L ∧ CHr Z consts_1 U.vm U.heap U'.vm U'.heap ∧ ReturnedEndW U o U' L ({ frames := 1, cells := 2, slots := 4, locals := 12 } : Room).cells ({ frames := 1, cells := 2, slots := 4, locals := 12 } : Room).slots) := by
  refine MetFree.of_bodySF (plainFor_of_name pn_java_lang_String) hisR ?_
  intro p e s m args below meth c s₁ Bd hml0 hP hK
  obtain ⟨rfl, hZ, hh, hC⟩ := hP
  have hx := Bd.exec
  have hby := Bd.bytes
  have hml : c.maxLocals = 6 := hml0
  have hown : s.vm.findClass "java/lang/String" = some m.cls := findClass_of_methodNamed Bd.named
  have hnm := (name_of_methodNamed Bd.named Bd.method).1
  have hlk := BodyLoose.notSynchronized Bd
  have X0 : Stand p l e ({ frames := 1, cells := 2, slots := 4, locals := 12 } : Room) s m #[(.ref o0), (.ref o1), (.int (0 : Int32)), (.int (0 : Int32)), .null] below meth c s₁ [] 0 0 := Stand.of_body Bd
  have e0 : s₁.heap = h0 := by rw [← hh, Bd.state]; rfl
  have N0 := Fr.nil n0
  have hS0 : s.Since s.vm h0.size := (State.WarmedH.refl s).since _
  have ch0 := CHr.refl hC
  have pre0 : ∀ t, Steps p.tables e below (s₁.setTop (mkF m 0 #[.val (.ref o0), .val (.ref o1), .val (.int (0 : Int32)), .val (.int (0 : Int32)), .val .null, .unset] [])) t → Steps p.tables e below (s₁.setTop (entryFrame m #[(.ref o0), (.ref o1), (.int (0 : Int32)), (.int (0 : Int32)), .null] 6)) t := fun t k => castTop (ef_si0 m o0 o1) k
  obtain ⟨T1, X1, e1, st1⟩ := initO X0 hx hZ hown (wd hw 60 rfl) (wd hw 61 rfl) (wd hw 62 rfl) e0 (g := (mkF m 1 #[.val (.ref o0), .val (.ref o1), .val (.int (0 : Int32)), .val (.int (0 : Int32)), .val .null, .unset] [(.ref o0)])) rfl (by rw [hml]; rfl) rfl (hb hby d11_1) (by decide) (W := 0) (by show 2 * 0 + _ ≤ _; exact Nat.le_of_eq rfl) (by decide)
  have sf2 := own_safe_null (EL := consts_1) hZ.alike E_o0 F_value_o0
  obtain ⟨la3, T3, h3, kk3, lb3, lk3, X3, e3, E3, hS3, hk3, hZ, hown, Ex3, Fc3, Fv3, V3, -, -, Cr3, Lt3, Sf3, st3⟩ := ldcCH (s := s) (vm0 := s.vm) (EL := consts_1) X1 hx hZ hown (wd hw 108 rfl) (own_ws hw) e1 hS0 (Nat.le_refl _) (own_ew hw) (List.mem_of_getElem? (i := 3) rfl) ch0.1 (z := (0 : Int32)) (vs := []) ⟨by decide, by rfl⟩ (by decide) rfl (g := (mkF m 9 #[.val (.ref o0), .val (.ref o1), .val (.int (0 : Int32)), .val (.int (0 : Int32)), .val .null, .unset] [(.ref o0)])) rfl (hb hby d11_9) (n := 0) (by decide) (by decide) (by decide) (by decide)
  have sf4 := Cr3.safe E_o0.lt sf2
  have ch5 := ch0.trans Cr3
  have z6 : n0 ≤ h3.size := Nat.le_trans Z0 E3.1
  have hs7 : h0.size ≤ h3.size := Nat.le_trans (Nat.le_refl h0.size) E3.1
  have ne8 := Sf3 _ sf4
  obtain ⟨T9, X9, e9, st9⟩ := getF X3 hx hZ hown (host := "") (Or.inl (wd hw 22 rfl)) Via.refl e3 Fv3 (g := (mkF m 11 #[.val (.ref o0), .val (.ref o1), .val (.int (0 : Int32)), .val (.int (0 : Int32)), .val .null, .unset] [(.ref la3), (.ref o0)])) rfl rfl (hb hby d11_11)
  have k10 := (F_value_o0.ext E3)
  have k11 := (E_o0.ext E3)
  obtain ⟨T12, h12, X12, e12, W12, st12⟩ := putF X9 hx hZ hown (host := "") (Or.inl (wd hw 22 rfl)) Via.refl e9 k10 k11 (Or.inr ⟨(wd hw 13 rfl), rfl, hnm⟩) (wd hw 11 rfl) (ty := (.array .byte)) (by decide) rfl rfl (g := (mkF m 14 #[.val (.ref o0), .val (.ref o1), .val (.int (0 : Int32)), .val (.int (0 : Int32)), .val .null, .unset] [(.ref lb3), (.ref o0)])) rfl rfl (hb hby d11_14)
  have Fw12 := k10.same W12
  have N12 := Fr.snoc X12 N0 g_o0
  have sf14 := Safe.wr W12 sf4 ch5.1 sf4
  have ch13 := ch5.trans (CHr.wr W12 sf4 ch5.1)
  have z15 : n0 ≤ h12.size := Nat.le_trans z6 (Keep.of_wr W12).1
  have hs16 : h0.size ≤ h12.size := Nat.le_trans hs7 (Keep.of_wr W12).1
  have hk17 := Nat.le_trans hk3 (Keep.of_wr W12).1
  have k18 := (Fc3.other W12 (Or.inl (Ne.symm ne8.1)))
  obtain ⟨T19, X19, e19, st19⟩ := getF X12 hx hZ hown (host := "") (Or.inl (wd hw 29 rfl)) Via.refl e12 k18 (g := (mkF m 20 #[.val (.ref o0), .val (.ref o1), .val (.int (0 : Int32)), .val (.int (0 : Int32)), .val .null, .unset] [(.ref la3), (.ref o0)])) rfl rfl (hb hby d11_20)
  have k20 := ((F_coder_o0.ext E3).other W12 (Or.inr (slot_ne (Or.inr (wd hw 14 rfl)) (Or.inr (wd hw 13 rfl)) (by decide) (t := .byte) (t' := (.array .byte)) (by decide) (by decide))))
  have k21 := (k11.wr W12)
  obtain ⟨T22, h22, X22, e22, W22, st22⟩ := putFN X19 hx hZ hown (wd hw 29 rfl) Via.refl e19 k20 k21 (Or.inr ⟨(wd hw 14 rfl), rfl, hnm⟩) (wd hw 11 rfl) (ty := .byte) (v' := (.int (nar .byte (0 : Int32)))) (by decide) rfl (fits_nar_byte (0 : Int32)) (g := (mkF m 23 #[.val (.ref o0), .val (.ref o1), .val (.int (0 : Int32)), .val (.int (0 : Int32)), .val .null, .unset] [(.int (0 : Int32)), (.ref o0)])) rfl rfl (hb hby d11_23)
  have Fw22 := k20.same W22
  rw [show (nar .byte (0 : Int32)) = (0 : Int32) from (by decide)] at Fw22
  have N22 := Fr.snoc X22 N12 g_o0
  have sf24 := Safe.wr W22 sf14 ch13.1 sf14
  have ch23 := ch13.trans (CHr.wr W22 sf14 ch13.1)
  have z25 : n0 ≤ h22.size := Nat.le_trans z15 (Keep.of_wr W22).1
  have hs26 : h0.size ≤ h22.size := Nat.le_trans hs16 (Keep.of_wr W22).1
  have hk27 := Nat.le_trans hk17 (Keep.of_wr W22).1
  obtain ⟨fs, hr, hrun, hended, hRW⟩ := Jvm.Stand.leaveW (s := s) (vm₁ := T3.vm) X22 hS3 (by rw [e22]; exact hk27) (v := none) (fun _ => rfl) hlk
  refine ⟨_, _, pre0 _ ?_, hrun, hended, _, _, rfl, ?_, (by show CHr Z consts_1 s.vm s.heap T22.vm T22.heap; rw [hh, e22]; exact ch23.trans (CHv.at (s := s) (vm0 := T3.vm) X22 hZ (own_ew hw) ch23.1)), hRW.1, hRW.2.1, hRW.2.2.1, hRW.2.2.2.mono (by decide) (by decide)⟩
  · skip
    show Steps p.tables e below (s₁.setTop (mkF m 0 #[.val (.ref o0), .val (.ref o1), .val (.int (0 : Int32)), .val (.int (0 : Int32)), .val .null, .unset] [])) _
    refine XS.aloadN X0.here hx rfl (hb hby d11_0) rfl rfl ?_
    show Steps p.tables e below (s₁.setTop (mkF m 1 #[.val (.ref o0), .val (.ref o1), .val (.int (0 : Int32)), .val (.int (0 : Int32)), .val .null, .unset] [(.ref o0)])) _
    refine st1 _ ?_
    refine XS.iloadN X1.here hx rfl (hb hby d11_4) rfl ?_
    show Steps p.tables e below (T1.setTop (mkF m 5 #[.val (.ref o0), .val (.ref o1), .val (.int (0 : Int32)), .val (.int (0 : Int32)), .val .null, .unset] [(.int (0 : Int32))])) _
    refine XS.ifNo X1.here hx rfl (hb hby d11_5) rfl (XT.i0_ne_f (by decide)) ?_
    refine XS.aloadN X1.here hx rfl (hb hby d11_8) rfl rfl ?_
    show Steps p.tables e below (T1.setTop (mkF m 9 #[.val (.ref o0), .val (.ref o1), .val (.int (0 : Int32)), .val (.int (0 : Int32)), .val .null, .unset] [(.ref o0)])) _
    refine st3 _ ?_
    show Steps p.tables e below (T3.setTop (mkF m 11 #[.val (.ref o0), .val (.ref o1), .val (.int (0 : Int32)), .val (.int (0 : Int32)), .val .null, .unset] [(.ref la3), (.ref o0)])) _
    refine st9 _ ?_
    show Steps p.tables e below (T9.setTop (mkF m 14 #[.val (.ref o0), .val (.ref o1), .val (.int (0 : Int32)), .val (.int (0 : Int32)), .val .null, .unset] [(.ref lb3), (.ref o0)])) _
    refine st12 _ ?_
    refine XS.aloadN X12.here hx rfl (hb hby d11_17) rfl rfl ?_
    show Steps p.tables e below (T12.setTop (mkF m 18 #[.val (.ref o0), .val (.ref o1), .val (.int (0 : Int32)), .val (.int (0 : Int32)), .val .null, .unset] [(.ref o0)])) _
    refine ldcAgain (s := s) (vm0 := T3.vm) X12 hx hZ hown (wd hw 108 rfl) Lt3 (g := (mkF m 18 #[.val (.ref o0), .val (.ref o1), .val (.int (0 : Int32)), .val (.int (0 : Int32)), .val .null, .unset] [(.ref o0)])) rfl (hb hby d11_18) _ ?_
    show Steps p.tables e below (T12.setTop (mkF m 20 #[.val (.ref o0), .val (.ref o1), .val (.int (0 : Int32)), .val (.int (0 : Int32)), .val .null, .unset] [(.ref la3), (.ref o0)])) _
    refine st19 _ ?_
    show Steps p.tables e below (T19.setTop (mkF m 23 #[.val (.ref o0), .val (.ref o1), .val (.int (0 : Int32)), .val (.int (0 : Int32)), .val .null, .unset] [(.int (0 : Int32)), (.ref o0)])) _
    refine st22 _ ?_
    show Steps p.tables e below (T22.setTop (mkF m 26 #[.val (.ref o0), .val (.ref o1), .val (.int (0 : Int32)), .val (.int (0 : Int32)), .val .null, .unset] [])) _
    exact X22.returnOut hx Bd.returns (hb hby d11_26) hr
  · skip
    show Qsi0 Z o0 o1 h0 n0 _ T22.heap _
    rw [e22]
    have k28 := (k21.wr W22)
    have k29 := (Fw12.other W22 (Or.inr (slot_ne (Or.inr (wd hw 13 rfl)) (Or.inr (wd hw 14 rfl)) (by decide) (t := (.array .byte)) (t' := .byte) (by decide) (by decide))))
    have k30 := ((V3.other W12 (Ne.symm ne8.2)).other W22 (Ne.symm ne8.2))
    exact ⟨N22, lb3, lk3, rfl, ((((Keep.refl h0 [o0]).ext E3).wr W12 (Or.inl (List.mem_of_getElem? (i := 0) rfl))).wr W22 (Or.inl (List.mem_of_getElem? (i := 0) rfl))), k28, k29, Fw22, k30⟩
theorem pd___CIILjava_lang_Void__V : parseMethodDescriptor "([CIILjava/lang/Void;)V" = some ⟨[(.array .char), .int, .int, (.object "java/lang/Void")], none⟩ := by decide +kernel
theorem d10_0 : decode jdk_42_method_3_code 0 = .ok (.aload_n 0, 1) := by decide +kernel
theorem d10_1 : decode jdk_42_method_3_code 1 = .ok (.aload_n 1, 1) := by decide +kernel
theorem d10_2 : decode jdk_42_method_3_code 2 = .ok (.iconst 0, 1) := by decide +kernel
theorem d10_3 : decode jdk_42_method_3_code 3 = .ok (.aload_n 1, 1) := by decide +kernel
theorem d10_4 : decode jdk_42_method_3_code 4 = .ok (.arraylength, 1) := by decide +kernel
theorem d10_5 : decode jdk_42_method_3_code 5 = .ok (.aconst_null, 1) := by decide +kernel
theorem d10_6 : decode jdk_42_method_3_code 6 = .ok (.invokespecial 27, 3) := by decide +kernel
theorem d10_9 : decode jdk_42_method_3_code 9 = .ok (.return_, 1) := by decide +kernel
theorem ef_sn0 (m : MethodId) (o0 : Addr) (o1 : Addr) : entryFrame m #[(.ref o0), (.ref o1)] 2 = mkF m 0 #[.val (.ref o0), .val (.ref o1)] [] := by first | (simp [entryFrame, mkF, argsToLocals, Value.category]; done) | rfl
def Qsn0 (Z : State) (o0 : Addr) (o1 : Addr) (kC : ClassId) (h0 : Heap) (n0 : Nat) (v : Option Value) (h : Heap) (L : List Loc) : Prop := Fr n0 L ∧ ∃ (xsn0_0 : Addr) (ksn0_1 : ClassId), v = none ∧ Keep h0 h [o0] ∧ Exa Z h o0 "java/lang/String" ∧ Fld Z h o0 "java/lang/String" "value" "[B" (.ref xsn0_0) ∧ Fld Z h o0 "java/lang/String" "coder" "B" (.int (0 : Int32)) ∧ Arv Z h xsn0_0 ksn0_1 .byte (0 : Int32) [] (.int (0 : Int32))
set_option maxRecDepth 65536 in
set_option maxHeartbeats 40000000 in
theorem rmsn0 (l : Launch) (Z : State) (a0 : Array Value) (hw : ∀ d ∈ tables_1, d.before a0 Z = true) (ws : List Jvm.Cond) (o0 : Addr) (o1 : Addr) (kC : ClassId) (h0 : Heap) (n0 : Nat) (Z0 : n0 ≤ h0.size) (E_o0 : Exa Z h0 o0 "java/lang/String") (F_value_o0 : Fld Z h0 o0 "java/lang/String" "value" "[B" .null) (F_coder_o0 : Fld Z h0 o0 "java/lang/String" "coder" "B" (.int (0 : Int32))) (V_o1 : Arv Z h0 o1 kC .char (0 : Int32) [] (.int (0 : Int32))) (g_o0 : n0 ≤ o0) :
    MetFree l (⟨"java/lang/String", "<init>", "([C)V"⟩ : MethodName) (head1 (Jvm.Cond.code (⟨"java/lang/String", "<init>", "([C)V"⟩ : MethodName) jdk_42_method_3_code 2 none :: ws) ({ frames := 2, cells := 2, slots := 4, locals := 29 } : Room)) (fun a U => a = #[(.ref o0), (.ref o1)] ∧ Z.Warmed39 U.vm ∧ U.heap = h0 ∧ CHv Z consts_1 U.vm h0) (fun _ _ _ _ _ => True) (fun _ U o U' => ∃ v L, o = .returned v ∧ Qsn0 Z o0 o1 kC h0 n0 v U'.heap L ∧ CHr Z consts_1 U.vm U.heap U'.vm U'.heap ∧ ReturnedEndW U o U' L ({ frames := 2, cells := 2, slots := 4, locals := 29 } : Room).cells ({ frames := 2, cells := 2, slots := 4, locals := 29 } : Room).slots) := by
  refine MetFree.of_bodySF (plainFor_of_name pn_java_lang_String) hisR ?_
  intro p e s m args below meth c s₁ Bd hml0 hP hK
  obtain ⟨rfl, hZ, hh, hC⟩ := hP
  have hx := Bd.exec
  have hby := Bd.bytes
  have hml : c.maxLocals = 2 := hml0
  have hown : s.vm.findClass "java/lang/String" = some m.cls := findClass_of_methodNamed Bd.named
  have hnm := (name_of_methodNamed Bd.named Bd.method).1
  have hlk := BodyLoose.notSynchronized Bd
  have X0 : Stand p l e ({ frames := 2, cells := 2, slots := 4, locals := 29 } : Room) s m #[(.ref o0), (.ref o1)] below meth c s₁ [] 0 0 := Stand.of_body Bd
  have e0 : s₁.heap = h0 := by rw [← hh, Bd.state]; rfl
  have N0 := Fr.nil n0
  have hS0 : s.Since s.vm h0.size := (State.WarmedH.refl s).since _
  have ch0 := CHr.refl hC
  have pre0 : ∀ t, Steps p.tables e below (s₁.setTop (mkF m 0 #[.val (.ref o0), .val (.ref o1)] [])) t → Steps p.tables e below (s₁.setTop (entryFrame m #[(.ref o0), (.ref o1)] 2)) t := fun t k => castTop (ef_sn0 m o0 o1) k
  obtain ⟨cl1, Ar1, qc1, S1, M1, Ha1, G1⟩ := id V_o1
  obtain ⟨vr2, _, ⟨T2, L2, k2, n2⟩, -, X2, hSq2, hgq2, ⟨Lc2, hQ2, l2, y2, z2, Cr2⟩, st2⟩ := Jvm.Stand.specialBackS (s := s.setVm s.vm) X0 hx (y := (⟨"java/lang/String", "<init>", "([CIILjava/lang/Void;)V"⟩ : MethodName)) rfl hown (mvT hZ (wd hw 56 rfl)) (mvT hZ (wd hw 57 rfl)) (mvT hZ (wd hw 59 rfl)) (by decide) (backOfSH (s := s ) (vm0 := s.vm) (EL := consts_1) (W := 0) (rmsi0 l Z a0 hw [] o0 o1 h0 n0 Z0 E_o0 F_value_o0 F_coder_o0 g_o0) hZ (wd hw 59 rfl) (wd hw 10 rfl) (by decide) (by decide) (own_ew hw) ch0.1) (g := (mkF m 6 #[.val (.ref o0), .val (.ref o1)] [.null, (.int (0 : Int32)), (.int (0 : Int32)), (.ref o1), (.ref o0)])) rfl (by rw [hml]; rfl) (Steps.refl _) (a := o0) (argsL := [(.ref o1), (.int (0 : Int32)), (.int (0 : Int32)), .null]) (rest := []) (lenOf pd___CIILjava_lang_Void__V rfl) rfl (by show 2 * 0 + _ ≤ _; exact Nat.le_of_eq rfl) (hb hby d10_6) (fun _ _ => ⟨rfl, e0, (by decide : 0 + 2 ≤ _), (by decide : 0 + 4 ≤ _)⟩)
  dsimp only [Pt.U, Pt.locs, Pt.cells, Pt.slots] at X2 l2 y2 z2 st2 hQ2 hSq2 hgq2 Cr2
  have hZ3 := hZ
  have hown3 := hown
  obtain ⟨X2, hS2, hZ, hown⟩ := rebS (s := s) (vm0 := s.vm) (n1 := h0.size) hS0 (Nat.le_refl _) X2 hSq2 (by rw [← e0]; exact hgq2) hZ hown
  have ch4 := ch0.trans Cr2
  replace X2 := own_stand X2 l2 y2 z2
  clear l2 y2 z2
  have N2q := (show _ ∧ _ from hQ2).1
  have hq2 := (show _ ∧ _ from hQ2).2
  clear hQ2
  obtain ⟨xsi0_0_2, ksi0_1_2, hq2x⟩ := hq2
  have hv2 := hq2x.1
  have K2 := hq2x.2.1
  have po2_0 := hq2x.2.2.1
  have po2_1 := hq2x.2.2.2.1
  have po2_2 := hq2x.2.2.2.2.1
  have po2_3 := hq2x.2.2.2.2.2
  clear hq2x
  subst hv2
  have z5 : n0 ≤ T2.heap.size := Nat.le_trans Z0 K2.1
  have hs6 : h0.size ≤ T2.heap.size := Nat.le_trans (Nat.le_refl h0.size) K2.1
  have N2 := Fr.app N0 N2q
  obtain ⟨fs, hr, hrun, hended, hRW⟩ := Jvm.Stand.leaveW (s := s) (vm₁ := T2.vm) X2 hS2 (Nat.le_refl _) (v := none) (fun _ => rfl) hlk
  refine ⟨_, _, pre0 _ ?_, hrun, hended, _, _, rfl, ?_, (by show CHr Z consts_1 s.vm s.heap T2.vm T2.heap; rw [hh]; exact ch4.trans (CHv.at (s := s) (vm0 := T2.vm) X2 hZ (own_ew hw) ch4.1)), hRW.1, hRW.2.1, hRW.2.2.1, hRW.2.2.2.mono (by decide) (by decide)⟩
  · skip
    show Steps p.tables e below (s₁.setTop (mkF m 0 #[.val (.ref o0), .val (.ref o1)] [])) _
    refine XS.aloadN X0.here hx rfl (hb hby d10_0) rfl rfl ?_
    refine XS.aloadN X0.here hx rfl (hb hby d10_1) rfl rfl ?_
    refine XT.iconstV X0.here hx rfl (0 : Int32) (hb hby d10_2) (by decide) ?_
    refine XS.aloadN X0.here hx rfl (hb hby d10_3) rfl rfl ?_
    show Steps p.tables e below (s₁.setTop (mkF m 4 #[.val (.ref o0), .val (.ref o1)] [(.ref o1), (.int (0 : Int32)), (.ref o1), (.ref o0)])) _
    refine X0.arraylength hx (by rw [e0]; exact Ar1.1) (State.isArrayOf_alike hZ3.alike Ar1.2.1) (g := (mkF m 4 #[.val (.ref o0), .val (.ref o1)] [(.ref o1), (.int (0 : Int32)), (.ref o1), (.ref o0)])) rfl rfl (hb hby d10_4) _ ?_
    rw [len_of S1 M1]
    show Steps p.tables e below (s₁.setTop (mkF m 5 #[.val (.ref o0), .val (.ref o1)] [(.int (0 : Int32)), (.int (0 : Int32)), (.ref o1), (.ref o0)])) _
    refine XS.aconstNull X0.here hx rfl (hb hby d10_5) ?_
    show Steps p.tables e below (s₁.setTop (mkF m 6 #[.val (.ref o0), .val (.ref o1)] [.null, (.int (0 : Int32)), (.int (0 : Int32)), (.ref o1), (.ref o0)])) _
    refine st2.trans ?_
    show Steps p.tables e below (T2.setTop (mkF m 9 #[.val (.ref o0), .val (.ref o1)] [])) _
    exact X2.returnOut hx Bd.returns (hb hby d10_9) hr
  · skip
    show Qsn0 Z o0 o1 kC h0 n0 _ T2.heap _
    exact ⟨N2, xsi0_0_2, ksi0_1_2, rfl, ((Keep.refl h0 [o0]).trans K2 (allS (Or.inl (List.mem_of_getElem? (i := 0) rfl)) all0)), po2_0, po2_1, po2_2, po2_3⟩
theorem d17_0 : decode jdk_43_method_13_code 0 = .ok (.aload_n 0, 1) := by decide +kernel
theorem d17_1 : decode jdk_43_method_13_code 1 = .ok (.arraylength, 1) := by decide +kernel
theorem d17_2 : decode jdk_43_method_13_code 2 = .ok (.aload_n 1, 1) := by decide +kernel
theorem d17_3 : decode jdk_43_method_13_code 3 = .ok (.arraylength, 1) := by decide +kernel
theorem d17_4 : decode jdk_43_method_13_code 4 = .ok (.if_icmp .ne 30, 3) := by decide +kernel
theorem d17_34 : decode jdk_43_method_13_code 34 = .ok (.iconst 0, 1) := by decide +kernel
theorem d17_35 : decode jdk_43_method_13_code 35 = .ok (.ireturn, 1) := by decide +kernel
theorem ef_leD (m : MethodId) (o0 : Addr) (o1 : Addr) : entryFrame m #[(.ref o0), (.ref o1)] 3 = mkF m 0 #[.val (.ref o0), .val (.ref o1), .unset] [] := by first | (simp [entryFrame, mkF, argsToLocals, Value.category]; done) | rfl
def fleD (w30_z : Int32) (w32_z : Int32) : Int32 := (0 : Int32)
def QleD (Z : State) (o0 : Addr) (o1 : Addr) (w30_z : Int32) (w31_l : List Value) (kA : ClassId) (w32_z : Int32) (w33_l : List Value) (kB : ClassId) (h0 : Heap) (n0 : Nat) (v : Option Value) (h : Heap) (L : List Loc) : Prop := Fr n0 L ∧ v = some (.int (fleD w30_z w32_z)) ∧ h = h0
set_option maxRecDepth 65536 in
set_option maxHeartbeats 40000000 in
theorem rmleD (l : Launch) (Z : State) (a0 : Array Value) (hw : ∀ d ∈ tables_1, d.before a0 Z = true) (ws : List Jvm.Cond) (o0 : Addr) (o1 : Addr) (w30_z : Int32) (w31_l : List Value) (kA : ClassId) (w32_z : Int32) (w33_l : List Value) (kB : ClassId) (h0 : Heap) (n0 : Nat) (Z0 : n0 ≤ h0.size) (V_o0 : Arv Z h0 o0 kA .byte w30_z w31_l (.int (0 : Int32))) (V_o1 : Arv Z h0 o1 kB .byte w32_z w33_l (.int (0 : Int32))) (hy0 : ¬ (w30_z = w32_z)) :
    MetFree l (⟨"java/lang/StringLatin1", "equals", "([B[B)Z"⟩ : MethodName) (head1 (Jvm.Cond.code (⟨"java/lang/StringLatin1", "equals", "([B[B)Z"⟩ : MethodName) jdk_43_method_13_code 3 (some .boolean) :: ws) ({ frames := 0, cells := 0, slots := 0, locals := 0 } : Room)) (fun a U => a = #[(.ref o0), (.ref o1)] ∧ Z.Warmed39 U.vm ∧ U.heap = h0) (fun _ _ _ _ _ => True) (fun _ U o U' => ∃ v L, o = .returned v ∧ QleD Z o0 o1 w30_z w31_l kA w32_z w33_l kB h0 n0 v U'.heap L ∧ FrameEnd U o U' L ({ frames := 0, cells := 0, slots := 0, locals := 0 } : Room).cells ({ frames := 0, cells := 0, slots := 0, locals := 0 } : Room).slots) := by
  refine MetFree.of_bodySF (plainFor_of_name pn_java_lang_StringLatin1) hisR ?_
  intro p e s m args below meth c s₁ Bd hml0 hP hK
  obtain ⟨rfl, hZ, hh⟩ := hP
  have hx := Bd.exec
  have hby := Bd.bytes
  have hml : c.maxLocals = 3 := hml0
  have hown : s.vm.findClass "java/lang/StringLatin1" = some m.cls := findClass_of_methodNamed Bd.named
  have hnm := (name_of_methodNamed Bd.named Bd.method).1
  have hlk := BodyLoose.notSynchronized Bd
  have X0 : Stand p l e ({ frames := 0, cells := 0, slots := 0, locals := 0 } : Room) s m #[(.ref o0), (.ref o1)] below meth c s₁ [] 0 0 := Stand.of_body Bd
  have e0 : s₁.heap = h0 := by rw [← hh, Bd.state]; rfl
  have N0 := Fr.nil n0
  have pre0 : ∀ t, Steps p.tables e below (s₁.setTop (mkF m 0 #[.val (.ref o0), .val (.ref o1), .unset] [])) t → Steps p.tables e below (s₁.setTop (entryFrame m #[(.ref o0), (.ref o1)] 3)) t := fun t k => castTop (ef_leD m o0 o1) k
  obtain ⟨cl1, Ar1, qc1, S1, M1, Ha1, G1⟩ := id V_o0
  obtain ⟨cl2, Ar2, qc2, S2, M2, Ha2, G2⟩ := id V_o1
  obtain ⟨fs, hr, hrun, hended, hW, hsame⟩ := X0.leave (v := some (.int (0 : Int32))) (fun h => by rw [Bd.returns] at h; cases h) hlk
  refine ⟨_, _, pre0 _ ?_, hrun, hended, _, _, rfl, ?_, ⟨_, rfl⟩, hW, hsame.mono (by decide) (by decide)⟩
  · skip
    show Steps p.tables e below (s₁.setTop (mkF m 0 #[.val (.ref o0), .val (.ref o1), .unset] [])) _
    refine XS.aloadN X0.here hx rfl (hb hby d17_0) rfl rfl ?_
    show Steps p.tables e below (s₁.setTop (mkF m 1 #[.val (.ref o0), .val (.ref o1), .unset] [(.ref o0)])) _
    refine X0.arraylength hx (by rw [e0]; exact Ar1.1) (State.isArrayOf_alike hZ.alike Ar1.2.1) (g := (mkF m 1 #[.val (.ref o0), .val (.ref o1), .unset] [(.ref o0)])) rfl rfl (hb hby d17_1) _ ?_
    rw [len_of S1 M1]
    refine XS.aloadN X0.here hx rfl (hb hby d17_2) rfl rfl ?_
    show Steps p.tables e below (s₁.setTop (mkF m 3 #[.val (.ref o0), .val (.ref o1), .unset] [(.ref o1), (.int w30_z)])) _
    refine X0.arraylength hx (by rw [e0]; exact Ar2.1) (State.isArrayOf_alike hZ.alike Ar2.2.1) (g := (mkF m 3 #[.val (.ref o0), .val (.ref o1), .unset] [(.ref o1), (.int w30_z)])) rfl rfl (hb hby d17_3) _ ?_
    rw [len_of S2 M2]
    show Steps p.tables e below (s₁.setTop (mkF m 4 #[.val (.ref o0), .val (.ref o1), .unset] [(.int w32_z), (.int w30_z)])) _
    refine XS.icmpYes X0.here hx rfl (pc0 := 4) (pc' := 34) rfl (hb hby d17_4) rfl (XT.ii_ne_t hy0) (by decide) (by decide) ?_
    refine XT.iconstV X0.here hx rfl (0 : Int32) (hb hby d17_34) (by decide) ?_
    show Steps p.tables e below (s₁.setTop (mkF m 35 #[.val (.ref o0), .val (.ref o1), .unset] [(.int (0 : Int32))])) _
    exact retN X0 hx (t := .boolean) Bd.returns (by simp) (hb hby d17_35) hr
  · skip
    show QleD Z o0 o1 w30_z w31_l kA w32_z w33_l kB h0 n0 _ s₁.heap _
    rw [e0]
    exact ⟨N0, rfl, rfl⟩
theorem pd___B_B_Z : parseMethodDescriptor "([B[B)Z" = some ⟨[(.array .byte), (.array .byte)], some .boolean⟩ := by decide +kernel
theorem d16_0 : decode jdk_42_method_66_code 0 = .ok (.aload_n 0, 1) := by decide +kernel
theorem d16_1 : decode jdk_42_method_66_code 1 = .ok (.aload_n 1, 1) := by decide +kernel
theorem d16_2 : decode jdk_42_method_66_code 2 = .ok (.if_acmp .ne 5, 3) := by decide +kernel
theorem d16_7 : decode jdk_42_method_66_code 7 = .ok (.aload_n 1, 1) := by decide +kernel
theorem d16_8 : decode jdk_42_method_66_code 8 = .ok (.instanceof 10, 3) := by decide +kernel
theorem d16_11 : decode jdk_42_method_66_code 11 = .ok (.ifCond .eq 43, 3) := by decide +kernel
theorem d16_14 : decode jdk_42_method_66_code 14 = .ok (.aload_n 1, 1) := by decide +kernel
theorem d16_15 : decode jdk_42_method_66_code 15 = .ok (.checkcast 10, 3) := by decide +kernel
theorem d16_18 : decode jdk_42_method_66_code 18 = .ok (.astore_n 2, 1) := by decide +kernel
theorem d16_19 : decode jdk_42_method_66_code 19 = .ok (.getstatic 38, 3) := by decide +kernel
theorem d16_22 : decode jdk_42_method_66_code 22 = .ok (.ifCond .eq 14, 3) := by decide +kernel
theorem d16_25 : decode jdk_42_method_66_code 25 = .ok (.aload_n 0, 1) := by decide +kernel
theorem d16_26 : decode jdk_42_method_66_code 26 = .ok (.getfield 15, 3) := by decide +kernel
theorem d16_29 : decode jdk_42_method_66_code 29 = .ok (.aload_n 2, 1) := by decide +kernel
theorem d16_30 : decode jdk_42_method_66_code 30 = .ok (.getfield 15, 3) := by decide +kernel
theorem d16_33 : decode jdk_42_method_66_code 33 = .ok (.if_icmp .ne 21, 3) := by decide +kernel
theorem d16_36 : decode jdk_42_method_66_code 36 = .ok (.aload_n 0, 1) := by decide +kernel
theorem d16_37 : decode jdk_42_method_66_code 37 = .ok (.getfield 9, 3) := by decide +kernel
theorem d16_40 : decode jdk_42_method_66_code 40 = .ok (.aload_n 2, 1) := by decide +kernel
theorem d16_41 : decode jdk_42_method_66_code 41 = .ok (.getfield 9, 3) := by decide +kernel
theorem d16_44 : decode jdk_42_method_66_code 44 = .ok (.invokestatic 541, 3) := by decide +kernel
theorem d16_47 : decode jdk_42_method_66_code 47 = .ok (.ifCond .eq 7, 3) := by decide +kernel
theorem d16_54 : decode jdk_42_method_66_code 54 = .ok (.iconst 0, 1) := by decide +kernel
theorem d16_55 : decode jdk_42_method_66_code 55 = .ok (.ireturn, 1) := by decide +kernel
theorem ef_sqD (m : MethodId) (o0 : Addr) (o1 : Addr) : entryFrame m #[(.ref o0), (.ref o1)] 3 = mkF m 0 #[.val (.ref o0), .val (.ref o1), .unset] [] := by first | (simp [entryFrame, mkF, argsToLocals, Value.category]; done) | rfl
def vsqD_1 (w30_z : Int32) (w32_z : Int32) (w0 : Int32) : Int32 := (fleD w30_z w32_z)
def fsqD (w30_z : Int32) (w32_z : Int32) (w0 : Int32) : Int32 := (0 : Int32)
def QsqD (Z : State) (o0 : Addr) (o1 : Addr) (w1_v : Addr) (w30_z : Int32) (w31_l : List Value) (kA : ClassId) (w2_v : Addr) (w32_z : Int32) (w33_l : List Value) (kB : ClassId) (w0 : Int32) (h0 : Heap) (n0 : Nat) (v : Option Value) (h : Heap) (L : List Loc) : Prop := Fr n0 L ∧ v = some (.int (fsqD w30_z w32_z w0)) ∧ h = h0
set_option maxRecDepth 65536 in
set_option maxHeartbeats 40000000 in
theorem rmsqD (l : Launch) (Z : State) (a0 : Array Value) (hw : ∀ d ∈ tables_1, d.before a0 Z = true) (ws : List Jvm.Cond) (o0 : Addr) (o1 : Addr) (w1_v : Addr) (w30_z : Int32) (w31_l : List Value) (kA : ClassId) (w2_v : Addr) (w32_z : Int32) (w33_l : List Value) (kB : ClassId) (w0 : Int32) (h0 : Heap) (n0 : Nat) (Z0 : n0 ≤ h0.size) (E_o0 : Exa Z h0 o0 "java/lang/String") (F_coder_o0 : Fld Z h0 o0 "java/lang/String" "coder" "B" (.int (0 : Int32))) (F_value_o0 : Fld Z h0 o0 "java/lang/String" "value" "[B" (.ref w1_v)) (V_w1_v : Arv Z h0 w1_v kA .byte w30_z w31_l (.int (0 : Int32))) (E_o1 : Exa Z h0 o1 "java/lang/String") (F_coder_o1 : Fld Z h0 o1 "java/lang/String" "coder" "B" (.int (0 : Int32))) (F_value_o1 : Fld Z h0 o1 "java/lang/String" "value" "[B" (.ref w2_v)) (V_w2_v : Arv Z h0 w2_v kB .byte w32_z w33_l (.int (0 : Int32))) (ne_o0_o1 : o0 ≠ o1) (S_String_COMPACT_STRINGS : Sta Z h0 "java/lang/String" "COMPACT_STRINGS" "Z" (.int w0)) (hcs : ¬ (w0 = (0 : Int32))) (hy1 : ¬ (w30_z = w32_z)) :
    MetFree l (⟨"java/lang/String", "equals", "(Ljava/lang/Object;)Z"⟩ : MethodName) (head1 (Jvm.Cond.code (⟨"java/lang/String", "equals", "(Ljava/lang/Object;)Z"⟩ : MethodName) jdk_42_method_66_code 3 (some .boolean) :: ws) ({ frames := 1, cells := 0, slots := 0, locals := 14 } : Room)) (fun a U => a = #[(.ref o0), (.ref o1)] ∧ Z.Warmed39 U.vm ∧ U.heap = h0) (fun _ _ _ _ _ => True) (fun _ U o U' => ∃ v L, o = .returned v ∧ QsqD Z o0 o1 w1_v w30_z w31_l kA w2_v w32_z w33_l kB w0 h0 n0 v U'.heap L ∧ FrameEnd U o U' L ({ frames := 1, cells := 0, slots := 0, locals := 14 } : Room).cells ({ frames := 1, cells := 0, slots := 0, locals := 14 } : Room).slots) := by
  refine MetFree.of_bodySF (plainFor_of_name pn_java_lang_String) hisR ?_
  intro p e s m args below meth c s₁ Bd hml0 hP hK
  obtain ⟨rfl, hZ, hh⟩ := hP
  have hx := Bd.exec
  have hby := Bd.bytes
  have hml : c.maxLocals = 3 := hml0
  have hown : s.vm.findClass "java/lang/String" = some m.cls := findClass_of_methodNamed Bd.named
  have hnm := (name_of_methodNamed Bd.named Bd.method).1
  have hlk := BodyLoose.notSynchronized Bd
  have X0 : Stand p l e ({ frames := 1, cells := 0, slots := 0, locals := 14 } : Room) s m #[(.ref o0), (.ref o1)] below meth c s₁ [] 0 0 := Stand.of_body Bd
  have e0 : s₁.heap = h0 := by rw [← hh, Bd.state]; rfl
  have N0 := Fr.nil n0
  have pre0 : ∀ t, Steps p.tables e below (s₁.setTop (mkF m 0 #[.val (.ref o0), .val (.ref o1), .unset] [])) t → Steps p.tables e below (s₁.setTop (entryFrame m #[(.ref o0), (.ref o1)] 3)) t := fun t k => castTop (ef_sqD m o0 o1) k
  obtain ⟨T1, X1, e1, st1⟩ := instY X0 hx hZ hown (wd hw 78 rfl) e0 (Ins.self E_o1) (g := (mkF m 8 #[.val (.ref o0), .val (.ref o1), .unset] [(.ref o1)])) rfl rfl (hb hby d16_8)
  obtain ⟨T2, X2, e2, st2⟩ := castY X1 hx hZ hown (wd hw 78 rfl) e1 (Ins.self E_o1) (g := (mkF m 15 #[.val (.ref o0), .val (.ref o1), .unset] [(.ref o1)])) rfl rfl (hb hby d16_15)
  obtain ⟨T3, X3, e3, st3⟩ := getS2 X2 hx hZ hown (host := "") (Or.inl (wd hw 28 rfl)) Via.refl e2 S_String_COMPACT_STRINGS (g := (mkF m 19 #[.val (.ref o0), .val (.ref o1), .val (.ref o1)] [])) rfl (hb hby d16_19)
  obtain ⟨T4, X4, e4, st4⟩ := getF X3 hx hZ hown (host := "") (Or.inl (wd hw 29 rfl)) Via.refl e3 F_coder_o0 (g := (mkF m 26 #[.val (.ref o0), .val (.ref o1), .val (.ref o1)] [(.ref o0)])) rfl rfl (hb hby d16_26)
  obtain ⟨T5, X5, e5, st5⟩ := getF X4 hx hZ hown (host := "") (Or.inl (wd hw 29 rfl)) Via.refl e4 F_coder_o1 (g := (mkF m 30 #[.val (.ref o0), .val (.ref o1), .val (.ref o1)] [(.ref o1), (.int (0 : Int32))])) rfl rfl (hb hby d16_30)
  obtain ⟨T6, X6, e6, st6⟩ := getF X5 hx hZ hown (host := "") (Or.inl (wd hw 22 rfl)) Via.refl e5 F_value_o0 (g := (mkF m 37 #[.val (.ref o0), .val (.ref o1), .val (.ref o1)] [(.ref o0)])) rfl rfl (hb hby d16_37)
  obtain ⟨T7, X7, e7, st7⟩ := getF X6 hx hZ hown (host := "") (Or.inl (wd hw 22 rfl)) Via.refl e6 F_value_o1 (g := (mkF m 41 #[.val (.ref o0), .val (.ref o1), .val (.ref o1)] [(.ref o1), (.ref w1_v)])) rfl rfl (hb hby d16_41)
  obtain ⟨vr8, _, ⟨T8, L8, k8, n8⟩, -, X8, ⟨Lc8, hQ8, l8, y8, z8⟩, st8⟩ := Jvm.LawKit.callS X7 hx (y := (⟨"java/lang/StringLatin1", "equals", "([B[B)Z"⟩ : MethodName)) hown (mvT hZ (wd hw 79 rfl)) (mvT hZ (wd hw 80 rfl)) (mvT hZ (wd hw 42 rfl)) (mvT hZ (wd hw 81 rfl)) (by decide) (backOf (W := 0) (rmleD l Z a0 hw [] w1_v w2_v w30_z w31_l kA w32_z w33_l kB h0 n0 Z0 V_w1_v V_w2_v hy1) hZ (wd hw 81 rfl) (wd hw 42 rfl) (by decide) (by decide)) (g := (mkF m 44 #[.val (.ref o0), .val (.ref o1), .val (.ref o1)] [(.ref w2_v), (.ref w1_v)])) rfl (by rw [hml]; rfl) (argsL := [(.ref w1_v), (.ref w2_v)]) (rest := []) (lenOf pd___B_B_Z rfl) rfl (by show 2 * 0 + _ ≤ _; exact Nat.le_of_eq rfl) (hb hby d16_44) (fun _ _ => ⟨rfl, e7, (by decide : 0 + 0 ≤ _), (by decide : 0 + 0 ≤ _)⟩)
  dsimp only [Pt.U, Pt.locs, Pt.cells, Pt.slots] at X8 l8 y8 z8 st8 hQ8
  replace X8 := own_stand X8 l8 y8 z8
  clear l8 y8 z8
  have N8q := (show _ ∧ _ ∧ _ from hQ8).1
  have hv8 := (show _ ∧ _ ∧ _ from hQ8).2.1
  have e8 := (show _ ∧ _ ∧ _ from hQ8).2.2
  clear hQ8
  subst hv8
  have N8 := Fr.app N0 N8q
  obtain ⟨fs, hr, hrun, hended, hW, hsame⟩ := X8.leave (v := some (.int (0 : Int32))) (fun h => by rw [Bd.returns] at h; cases h) hlk
  refine ⟨_, _, pre0 _ ?_, hrun, hended, _, _, rfl, ?_, ⟨_, rfl⟩, hW, hsame.mono (by decide) (by decide)⟩
  · skip
    show Steps p.tables e below (s₁.setTop (mkF m 0 #[.val (.ref o0), .val (.ref o1), .unset] [])) _
    refine XS.aloadN X0.here hx rfl (hb hby d16_0) rfl rfl ?_
    refine XS.aloadN X0.here hx rfl (hb hby d16_1) rfl rfl ?_
    show Steps p.tables e below (s₁.setTop (mkF m 2 #[.val (.ref o0), .val (.ref o1), .unset] [(.ref o1), (.ref o0)])) _
    refine XT.acmpYes X0.here hx rfl (pc0 := 2) (pc' := 7) rfl (hb hby d16_2) rfl rfl rfl (XT.aa_ne_t (fun q => ne_o0_o1 (Value.ref.inj q))) (by decide) (by decide) ?_
    refine XS.aloadN X0.here hx rfl (hb hby d16_7) rfl rfl ?_
    show Steps p.tables e below (s₁.setTop (mkF m 8 #[.val (.ref o0), .val (.ref o1), .unset] [(.ref o1)])) _
    refine st1 _ ?_
    show Steps p.tables e below (T1.setTop (mkF m 11 #[.val (.ref o0), .val (.ref o1), .unset] [(.int (1 : Int32))])) _
    refine XS.ifNo X1.here hx rfl (hb hby d16_11) rfl (XT.i0_eq_f (by decide)) ?_
    refine XS.aloadN X1.here hx rfl (hb hby d16_14) rfl rfl ?_
    show Steps p.tables e below (T1.setTop (mkF m 15 #[.val (.ref o0), .val (.ref o1), .unset] [(.ref o1)])) _
    refine st2 _ ?_
    refine XS.astoreN X2.here hx rfl (hb hby d16_18) rfl rfl (l' := #[.val (.ref o0), .val (.ref o1), .val (.ref o1)]) rfl ?_
    show Steps p.tables e below (T2.setTop (mkF m 19 #[.val (.ref o0), .val (.ref o1), .val (.ref o1)] [])) _
    refine st3 _ ?_
    show Steps p.tables e below (T3.setTop (mkF m 22 #[.val (.ref o0), .val (.ref o1), .val (.ref o1)] [(.int w0)])) _
    refine XS.ifNo X3.here hx rfl (hb hby d16_22) rfl (XT.i0_eq_f hcs) ?_
    refine XS.aloadN X3.here hx rfl (hb hby d16_25) rfl rfl ?_
    show Steps p.tables e below (T3.setTop (mkF m 26 #[.val (.ref o0), .val (.ref o1), .val (.ref o1)] [(.ref o0)])) _
    refine st4 _ ?_
    refine XS.aloadN X4.here hx rfl (hb hby d16_29) rfl rfl ?_
    show Steps p.tables e below (T4.setTop (mkF m 30 #[.val (.ref o0), .val (.ref o1), .val (.ref o1)] [(.ref o1), (.int (0 : Int32))])) _
    refine st5 _ ?_
    show Steps p.tables e below (T5.setTop (mkF m 33 #[.val (.ref o0), .val (.ref o1), .val (.ref o1)] [(.int (0 : Int32)), (.int (0 : Int32))])) _
    refine XS.icmpNo X5.here hx rfl (hb hby d16_33) rfl (XT.ii_ne_f (by decide)) ?_
    refine XS.aloadN X5.here hx rfl (hb hby d16_36) rfl rfl ?_
    show Steps p.tables e below (T5.setTop (mkF m 37 #[.val (.ref o0), .val (.ref o1), .val (.ref o1)] [(.ref o0)])) _
    refine st6 _ ?_
    refine XS.aloadN X6.here hx rfl (hb hby d16_40) rfl rfl ?_
    show Steps p.tables e below (T6.setTop (mkF m 41 #[.val (.ref o0), .val (.ref o1), .val (.ref o1)] [(.ref o1), (.ref w1_v)])) _
    refine st7 _ ?_
    show Steps p.tables e below (T7.setTop (mkF m 44 #[.val (.ref o0), .val (.ref o1), .val (.ref o1)] [(.ref w2_v), (.ref w1_v)])) _
    refine st8 _ ?_
    show Steps p.tables e below (T8.setTop (mkF m 47 #[.val (.ref o0), .val (.ref o1), .val (.ref o1)] [(.int (fleD w30_z w32_z))])) _
    refine XS.ifYes X8.here hx rfl (pc0 := 47) (pc' := 54) rfl (hb hby d16_47) rfl (XT.i0_eq_t rfl) (by decide) (by decide) ?_
    refine XT.iconstV X8.here hx rfl (0 : Int32) (hb hby d16_54) (by decide) ?_
    show Steps p.tables e below (T8.setTop (mkF m 55 #[.val (.ref o0), .val (.ref o1), .val (.ref o1)] [(.int (0 : Int32))])) _
    exact retN X8 hx (t := .boolean) Bd.returns (by simp) (hb hby d16_55) hr
  · skip
    show QsqD Z o0 o1 w1_v w30_z w31_l kA w2_v w32_z w33_l kB w0 h0 n0 _ T8.heap _
    rw [e8]
    exact ⟨N8, rfl, rfl⟩
theorem d17_7 : decode jdk_43_method_13_code 7 = .ok (.iconst 0, 1) := by decide +kernel
theorem d17_8 : decode jdk_43_method_13_code 8 = .ok (.istore_n 2, 1) := by decide +kernel
theorem d17_9 : decode jdk_43_method_13_code 9 = .ok (.iload_n 2, 1) := by decide +kernel
theorem d17_10 : decode jdk_43_method_13_code 10 = .ok (.aload_n 0, 1) := by decide +kernel
theorem d17_11 : decode jdk_43_method_13_code 11 = .ok (.arraylength, 1) := by decide +kernel
theorem d17_12 : decode jdk_43_method_13_code 12 = .ok (.if_icmp .ge 20, 3) := by decide +kernel
theorem d17_15 : decode jdk_43_method_13_code 15 = .ok (.aload_n 0, 1) := by decide +kernel
theorem d17_16 : decode jdk_43_method_13_code 16 = .ok (.iload_n 2, 1) := by decide +kernel
theorem d17_17 : decode jdk_43_method_13_code 17 = .ok (.baload, 1) := by decide +kernel
theorem d17_18 : decode jdk_43_method_13_code 18 = .ok (.aload_n 1, 1) := by decide +kernel
theorem d17_19 : decode jdk_43_method_13_code 19 = .ok (.iload_n 2, 1) := by decide +kernel
theorem d17_20 : decode jdk_43_method_13_code 20 = .ok (.baload, 1) := by decide +kernel
theorem d17_21 : decode jdk_43_method_13_code 21 = .ok (.if_icmp .eq 5, 3) := by decide +kernel
theorem d17_24 : decode jdk_43_method_13_code 24 = .ok (.iconst 0, 1) := by decide +kernel
theorem d17_25 : decode jdk_43_method_13_code 25 = .ok (.ireturn, 1) := by decide +kernel
theorem d17_26 : decode jdk_43_method_13_code 26 = .ok (.iinc 2 1, 3) := by decide +kernel
theorem d17_29 : decode jdk_43_method_13_code 29 = .ok (.goto (-20), 3) := by decide +kernel
theorem d17_32 : decode jdk_43_method_13_code 32 = .ok (.iconst 1, 1) := by decide +kernel
theorem d17_33 : decode jdk_43_method_13_code 33 = .ok (.ireturn, 1) := by decide +kernel
theorem ef_le4 (m : MethodId) (o0 : Addr) (o1 : Addr) : entryFrame m #[(.ref o0), (.ref o1)] 3 = mkF m 0 #[.val (.ref o0), .val (.ref o1), .unset] [] := by first | (simp [entryFrame, mkF, argsToLocals, Value.category]; done) | rfl
def fle4 (w10_c : Int32) (w11_c : Int32) (w12_c : Int32) (w13_c : Int32) (w20_c : Int32) (w21_c : Int32) (w22_c : Int32) (w23_c : Int32) : Int32 := (if w10_c = w20_c then (if w11_c = w21_c then (if w12_c = w22_c then (if w13_c = w23_c then (1 : Int32) else (0 : Int32)) else (0 : Int32)) else (0 : Int32)) else (0 : Int32))
def Qle4 (Z : State) (o0 : Addr) (o1 : Addr) (w10_c : Int32) (w11_c : Int32) (w12_c : Int32) (w13_c : Int32) (kA : ClassId) (w20_c : Int32) (w21_c : Int32) (w22_c : Int32) (w23_c : Int32) (kB : ClassId) (h0 : Heap) (n0 : Nat) (v : Option Value) (h : Heap) (L : List Loc) : Prop := Fr n0 L ∧ v = some (.int (fle4 w10_c w11_c w12_c w13_c w20_c w21_c w22_c w23_c)) ∧ h = h0
set_option maxRecDepth 65536 in
set_option maxHeartbeats 40000000 in
theorem rmle4 (l : Launch) (Z : State) (a0 : Array Value) (hw : ∀ d ∈ tables_1, d.before a0 Z = true) (ws : List Jvm.Cond) (o0 : Addr) (o1 : Addr) (w10_c : Int32) (w11_c : Int32) (w12_c : Int32) (w13_c : Int32) (kA : ClassId) (w20_c : Int32) (w21_c : Int32) (w22_c : Int32) (w23_c : Int32) (kB : ClassId) (h0 : Heap) (n0 : Nat) (Z0 : n0 ≤ h0.size) (V_o0 : Arv Z h0 o0 kA .byte (4 : Int32) [(.int w10_c), (.int w11_c), (.int w12_c), (.int w13_c)] (.int (0 : Int32))) (V_o1 : Arv Z h0 o1 kB .byte (4 : Int32) [(.int w20_c), (.int w21_c), (.int w22_c), (.int w23_c)] (.int (0 : Int32))) :
    MetFree l (⟨"java/lang/StringLatin1", "equals", "([B[B)Z"⟩ : MethodName) (head1 (Jvm.Cond.code (⟨"java/lang/StringLatin1", "equals", "([B[B)Z"⟩ : MethodName) jdk_43_method_13_code 3 (some .boolean) :: ws) ({ frames := 0, cells := 0, slots := 0, locals := 0 } : Room)) (fun a U => a = #[(.ref o0), (.ref o1)] ∧ Z.Warmed39 U.vm ∧ U.heap = h0) (fun _ _ _ _ _ => True) (fun _ U o U' => ∃ v L, o = .returned v ∧ Qle4 Z o0 o1 w10_c w11_c w12_c w13_c kA w20_c w21_c w22_c w23_c kB h0 n0 v U'.heap L ∧ FrameEnd U o U' L ({ frames := 0, cells := 0, slots := 0, locals := 0 } : Room).cells ({ frames := 0, cells := 0, slots := 0, locals := 0 } : Room).slots) := by
  refine MetFree.of_bodySF (plainFor_of_name pn_java_lang_StringLatin1) hisR ?_
  intro p e s m args below meth c s₁ Bd hml0 hP hK
  obtain ⟨rfl, hZ, hh⟩ := hP
  have hx := Bd.exec
  have hby := Bd.bytes
  have hml : c.maxLocals = 3 := hml0
  have hown : s.vm.findClass "java/lang/StringLatin1" = some m.cls := findClass_of_methodNamed Bd.named
  have hnm := (name_of_methodNamed Bd.named Bd.method).1
  have hlk := BodyLoose.notSynchronized Bd
  have X0 : Stand p l e ({ frames := 0, cells := 0, slots := 0, locals := 0 } : Room) s m #[(.ref o0), (.ref o1)] below meth c s₁ [] 0 0 := Stand.of_body Bd
  have e0 : s₁.heap = h0 := by rw [← hh, Bd.state]; rfl
  have N0 := Fr.nil n0
  have pre0 : ∀ t, Steps p.tables e below (s₁.setTop (mkF m 0 #[.val (.ref o0), .val (.ref o1), .unset] [])) t → Steps p.tables e below (s₁.setTop (entryFrame m #[(.ref o0), (.ref o1)] 3)) t := fun t k => castTop (ef_le4 m o0 o1) k
  obtain ⟨cl1, Ar1, qc1, S1, M1, Ha1, G1⟩ := id V_o0
  obtain ⟨cl2, Ar2, qc2, S2, M2, Ha2, G2⟩ := id V_o1
  have hin3 : ¬ ((0 : Int32) < 0 ∨ cl1.slots.size ≤ ((0 : Int32)).toNatClampNeg) := inb_of S1 ⟨by decide, by decide⟩
  have hin4 : ¬ ((0 : Int32) < 0 ∨ cl2.slots.size ≤ ((0 : Int32)).toNatClampNeg) := inb_of S2 ⟨by decide, by decide⟩
  have pre5 : ∀ t, Steps p.tables e below (s₁.setTop (mkF m 21 #[.val (.ref o0), .val (.ref o1), .val (.int (0 : Int32))] [(.int w20_c), (.int w10_c)])) t → Steps p.tables e below (s₁.setTop (entryFrame m #[(.ref o0), (.ref o1)] 3)) t := by
    intro t k
    refine pre0 t ?_
    show Steps p.tables e below (s₁.setTop (mkF m 0 #[.val (.ref o0), .val (.ref o1), .unset] [])) _
    refine XS.aloadN X0.here hx rfl (hb hby d17_0) rfl rfl ?_
    show Steps p.tables e below (s₁.setTop (mkF m 1 #[.val (.ref o0), .val (.ref o1), .unset] [(.ref o0)])) _
    refine X0.arraylength hx (by rw [e0]; exact Ar1.1) (State.isArrayOf_alike hZ.alike Ar1.2.1) (g := (mkF m 1 #[.val (.ref o0), .val (.ref o1), .unset] [(.ref o0)])) rfl rfl (hb hby d17_1) _ ?_
    rw [len_of S1 M1]
    refine XS.aloadN X0.here hx rfl (hb hby d17_2) rfl rfl ?_
    show Steps p.tables e below (s₁.setTop (mkF m 3 #[.val (.ref o0), .val (.ref o1), .unset] [(.ref o1), (.int (4 : Int32))])) _
    refine X0.arraylength hx (by rw [e0]; exact Ar2.1) (State.isArrayOf_alike hZ.alike Ar2.2.1) (g := (mkF m 3 #[.val (.ref o0), .val (.ref o1), .unset] [(.ref o1), (.int (4 : Int32))])) rfl rfl (hb hby d17_3) _ ?_
    rw [len_of S2 M2]
    show Steps p.tables e below (s₁.setTop (mkF m 4 #[.val (.ref o0), .val (.ref o1), .unset] [(.int (4 : Int32)), (.int (4 : Int32))])) _
    refine XS.icmpNo X0.here hx rfl (hb hby d17_4) rfl (XT.ii_ne_f (by decide)) ?_
    refine XT.iconstV X0.here hx rfl (0 : Int32) (hb hby d17_7) (by decide) ?_
    refine XS.istoreN X0.here hx rfl (hb hby d17_8) rfl (l' := #[.val (.ref o0), .val (.ref o1), .val (.int (0 : Int32))]) rfl ?_
    refine XS.iloadN X0.here hx rfl (hb hby d17_9) rfl ?_
    show Steps p.tables e below (s₁.setTop (mkF m 10 #[.val (.ref o0), .val (.ref o1), .val (.int (0 : Int32))] [(.int (0 : Int32))])) _
    refine XS.aloadN X0.here hx rfl (hb hby d17_10) rfl rfl ?_
    show Steps p.tables e below (s₁.setTop (mkF m 11 #[.val (.ref o0), .val (.ref o1), .val (.int (0 : Int32))] [(.ref o0), (.int (0 : Int32))])) _
    refine X0.arraylength hx (by rw [e0]; exact Ar1.1) (State.isArrayOf_alike hZ.alike Ar1.2.1) (g := (mkF m 11 #[.val (.ref o0), .val (.ref o1), .val (.int (0 : Int32))] [(.ref o0), (.int (0 : Int32))])) rfl rfl (hb hby d17_11) _ ?_
    rw [len_of S1 M1]
    show Steps p.tables e below (s₁.setTop (mkF m 12 #[.val (.ref o0), .val (.ref o1), .val (.int (0 : Int32))] [(.int (4 : Int32)), (.int (0 : Int32))])) _
    refine XS.icmpNo X0.here hx rfl (hb hby d17_12) rfl (XT.ii_ge_f (by decide)) ?_
    refine XS.aloadN X0.here hx rfl (hb hby d17_15) rfl rfl ?_
    refine XS.iloadN X0.here hx rfl (hb hby d17_16) rfl ?_
    show Steps p.tables e below (s₁.setTop (mkF m 17 #[.val (.ref o0), .val (.ref o1), .val (.int (0 : Int32))] [(.int (0 : Int32)), (.ref o0)])) _
    refine X0.baloadBytes hx (j := (0 : Int32)) (v := (.int w10_c)) (by rw [e0]; exact Ar1.1) (State.isArrayOf_alike hZ.alike Ar1.2.1) Ar1.2.2 hin3 (Has.at Ha1 hin3 rfl) (g := (mkF m 17 #[.val (.ref o0), .val (.ref o1), .val (.int (0 : Int32))] [(.int (0 : Int32)), (.ref o0)])) rfl rfl (hb hby d17_17) _ ?_
    refine XS.aloadN X0.here hx rfl (hb hby d17_18) rfl rfl ?_
    refine XS.iloadN X0.here hx rfl (hb hby d17_19) rfl ?_
    show Steps p.tables e below (s₁.setTop (mkF m 20 #[.val (.ref o0), .val (.ref o1), .val (.int (0 : Int32))] [(.int (0 : Int32)), (.ref o1), (.int w10_c)])) _
    refine X0.baloadBytes hx (j := (0 : Int32)) (v := (.int w20_c)) (by rw [e0]; exact Ar2.1) (State.isArrayOf_alike hZ.alike Ar2.2.1) Ar2.2.2 hin4 (Has.at Ha2 hin4 rfl) (g := (mkF m 20 #[.val (.ref o0), .val (.ref o1), .val (.int (0 : Int32))] [(.int (0 : Int32)), (.ref o1), (.int w10_c)])) rfl rfl (hb hby d17_20) _ ?_
    exact k
  clear pre0
  by_cases c6 : w10_c = w20_c
  · skip
    have hin7 : ¬ ((1 : Int32) < 0 ∨ cl1.slots.size ≤ ((1 : Int32)).toNatClampNeg) := inb_of S1 ⟨by decide, by decide⟩
    have hin8 : ¬ ((1 : Int32) < 0 ∨ cl2.slots.size ≤ ((1 : Int32)).toNatClampNeg) := inb_of S2 ⟨by decide, by decide⟩
    have pre9 : ∀ t, Steps p.tables e below (s₁.setTop (mkF m 21 #[.val (.ref o0), .val (.ref o1), .val (.int (1 : Int32))] [(.int w21_c), (.int w11_c)])) t → Steps p.tables e below (s₁.setTop (entryFrame m #[(.ref o0), (.ref o1)] 3)) t := by
      intro t k
      refine pre5 t ?_
      show Steps p.tables e below (s₁.setTop (mkF m 21 #[.val (.ref o0), .val (.ref o1), .val (.int (0 : Int32))] [(.int w20_c), (.int w10_c)])) _
      refine XS.icmpYes X0.here hx rfl (pc0 := 21) (pc' := 26) rfl (hb hby d17_21) rfl (XT.ii_eq_t c6) (by decide) (by decide) ?_
      refine XT.iincV X0.here hx rfl (1 : Int32) (hb hby d17_26) (by decide) rfl (l' := #[.val (.ref o0), .val (.ref o1), .val (.int (1 : Int32))]) rfl ?_
      show Steps p.tables e below (s₁.setTop (mkF m 29 #[.val (.ref o0), .val (.ref o1), .val (.int (1 : Int32))] [])) _
      refine XS.goto X0.here hx rfl (pc0 := 29) (pc' := 9) rfl (hb hby d17_29) (by decide) (by decide) ?_
      refine XS.iloadN X0.here hx rfl (hb hby d17_9) rfl ?_
      refine XS.aloadN X0.here hx rfl (hb hby d17_10) rfl rfl ?_
      show Steps p.tables e below (s₁.setTop (mkF m 11 #[.val (.ref o0), .val (.ref o1), .val (.int (1 : Int32))] [(.ref o0), (.int (1 : Int32))])) _
      refine X0.arraylength hx (by rw [e0]; exact Ar1.1) (State.isArrayOf_alike hZ.alike Ar1.2.1) (g := (mkF m 11 #[.val (.ref o0), .val (.ref o1), .val (.int (1 : Int32))] [(.ref o0), (.int (1 : Int32))])) rfl rfl (hb hby d17_11) _ ?_
      rw [len_of S1 M1]
      show Steps p.tables e below (s₁.setTop (mkF m 12 #[.val (.ref o0), .val (.ref o1), .val (.int (1 : Int32))] [(.int (4 : Int32)), (.int (1 : Int32))])) _
      refine XS.icmpNo X0.here hx rfl (hb hby d17_12) rfl (XT.ii_ge_f (by decide)) ?_
      refine XS.aloadN X0.here hx rfl (hb hby d17_15) rfl rfl ?_
      refine XS.iloadN X0.here hx rfl (hb hby d17_16) rfl ?_
      show Steps p.tables e below (s₁.setTop (mkF m 17 #[.val (.ref o0), .val (.ref o1), .val (.int (1 : Int32))] [(.int (1 : Int32)), (.ref o0)])) _
      refine X0.baloadBytes hx (j := (1 : Int32)) (v := (.int w11_c)) (by rw [e0]; exact Ar1.1) (State.isArrayOf_alike hZ.alike Ar1.2.1) Ar1.2.2 hin7 (Has.at Ha1 hin7 rfl) (g := (mkF m 17 #[.val (.ref o0), .val (.ref o1), .val (.int (1 : Int32))] [(.int (1 : Int32)), (.ref o0)])) rfl rfl (hb hby d17_17) _ ?_
      refine XS.aloadN X0.here hx rfl (hb hby d17_18) rfl rfl ?_
      refine XS.iloadN X0.here hx rfl (hb hby d17_19) rfl ?_
      show Steps p.tables e below (s₁.setTop (mkF m 20 #[.val (.ref o0), .val (.ref o1), .val (.int (1 : Int32))] [(.int (1 : Int32)), (.ref o1), (.int w11_c)])) _
      refine X0.baloadBytes hx (j := (1 : Int32)) (v := (.int w21_c)) (by rw [e0]; exact Ar2.1) (State.isArrayOf_alike hZ.alike Ar2.2.1) Ar2.2.2 hin8 (Has.at Ha2 hin8 rfl) (g := (mkF m 20 #[.val (.ref o0), .val (.ref o1), .val (.int (1 : Int32))] [(.int (1 : Int32)), (.ref o1), (.int w11_c)])) rfl rfl (hb hby d17_20) _ ?_
      exact k
    clear pre5
    by_cases c10 : w11_c = w21_c
    · skip
      have hin11 : ¬ ((2 : Int32) < 0 ∨ cl1.slots.size ≤ ((2 : Int32)).toNatClampNeg) := inb_of S1 ⟨by decide, by decide⟩
      have hin12 : ¬ ((2 : Int32) < 0 ∨ cl2.slots.size ≤ ((2 : Int32)).toNatClampNeg) := inb_of S2 ⟨by decide, by decide⟩
      have pre13 : ∀ t, Steps p.tables e below (s₁.setTop (mkF m 21 #[.val (.ref o0), .val (.ref o1), .val (.int (2 : Int32))] [(.int w22_c), (.int w12_c)])) t → Steps p.tables e below (s₁.setTop (entryFrame m #[(.ref o0), (.ref o1)] 3)) t := by
        intro t k
        refine pre9 t ?_
        show Steps p.tables e below (s₁.setTop (mkF m 21 #[.val (.ref o0), .val (.ref o1), .val (.int (1 : Int32))] [(.int w21_c), (.int w11_c)])) _
        refine XS.icmpYes X0.here hx rfl (pc0 := 21) (pc' := 26) rfl (hb hby d17_21) rfl (XT.ii_eq_t c10) (by decide) (by decide) ?_
        refine XT.iincV X0.here hx rfl (1 : Int32) (hb hby d17_26) (by decide) rfl (l' := #[.val (.ref o0), .val (.ref o1), .val (.int (2 : Int32))]) rfl ?_
        show Steps p.tables e below (s₁.setTop (mkF m 29 #[.val (.ref o0), .val (.ref o1), .val (.int (2 : Int32))] [])) _
        refine XS.goto X0.here hx rfl (pc0 := 29) (pc' := 9) rfl (hb hby d17_29) (by decide) (by decide) ?_
        refine XS.iloadN X0.here hx rfl (hb hby d17_9) rfl ?_
        refine XS.aloadN X0.here hx rfl (hb hby d17_10) rfl rfl ?_
        show Steps p.tables e below (s₁.setTop (mkF m 11 #[.val (.ref o0), .val (.ref o1), .val (.int (2 : Int32))] [(.ref o0), (.int (2 : Int32))])) _
        refine X0.arraylength hx (by rw [e0]; exact Ar1.1) (State.isArrayOf_alike hZ.alike Ar1.2.1) (g := (mkF m 11 #[.val (.ref o0), .val (.ref o1), .val (.int (2 : Int32))] [(.ref o0), (.int (2 : Int32))])) rfl rfl (hb hby d17_11) _ ?_
        rw [len_of S1 M1]
        show Steps p.tables e below (s₁.setTop (mkF m 12 #[.val (.ref o0), .val (.ref o1), .val (.int (2 : Int32))] [(.int (4 : Int32)), (.int (2 : Int32))])) _
        refine XS.icmpNo X0.here hx rfl (hb hby d17_12) rfl (XT.ii_ge_f (by decide)) ?_
        refine XS.aloadN X0.here hx rfl (hb hby d17_15) rfl rfl ?_
        refine XS.iloadN X0.here hx rfl (hb hby d17_16) rfl ?_
        show Steps p.tables e below (s₁.setTop (mkF m 17 #[.val (.ref o0), .val (.ref o1), .val (.int (2 : Int32))] [(.int (2 : Int32)), (.ref o0)])) _
        refine X0.baloadBytes hx (j := (2 : Int32)) (v := (.int w12_c)) (by rw [e0]; exact Ar1.1) (State.isArrayOf_alike hZ.alike Ar1.2.1) Ar1.2.2 hin11 (Has.at Ha1 hin11 rfl) (g := (mkF m 17 #[.val (.ref o0), .val (.ref o1), .val (.int (2 : Int32))] [(.int (2 : Int32)), (.ref o0)])) rfl rfl (hb hby d17_17) _ ?_
        refine XS.aloadN X0.here hx rfl (hb hby d17_18) rfl rfl ?_
        refine XS.iloadN X0.here hx rfl (hb hby d17_19) rfl ?_
        show Steps p.tables e below (s₁.setTop (mkF m 20 #[.val (.ref o0), .val (.ref o1), .val (.int (2 : Int32))] [(.int (2 : Int32)), (.ref o1), (.int w12_c)])) _
        refine X0.baloadBytes hx (j := (2 : Int32)) (v := (.int w22_c)) (by rw [e0]; exact Ar2.1) (State.isArrayOf_alike hZ.alike Ar2.2.1) Ar2.2.2 hin12 (Has.at Ha2 hin12 rfl) (g := (mkF m 20 #[.val (.ref o0), .val (.ref o1), .val (.int (2 : Int32))] [(.int (2 : Int32)), (.ref o1), (.int w12_c)])) rfl rfl (hb hby d17_20) _ ?_
        exact k
      clear pre9
      by_cases c14 : w12_c = w22_c
      · skip
        have hin15 : ¬ ((3 : Int32) < 0 ∨ cl1.slots.size ≤ ((3 : Int32)).toNatClampNeg) := inb_of S1 ⟨by decide, by decide⟩
        have hin16 : ¬ ((3 : Int32) < 0 ∨ cl2.slots.size ≤ ((3 : Int32)).toNatClampNeg) := inb_of S2 ⟨by decide, by decide⟩
        have pre17 : ∀ t, Steps p.tables e below (s₁.setTop (mkF m 21 #[.val (.ref o0), .val (.ref o1), .val (.int (3 : Int32))] [(.int w23_c), (.int w13_c)])) t → Steps p.tables e below (s₁.setTop (entryFrame m #[(.ref o0), (.ref o1)] 3)) t := by
          intro t k
          refine pre13 t ?_
          show Steps p.tables e below (s₁.setTop (mkF m 21 #[.val (.ref o0), .val (.ref o1), .val (.int (2 : Int32))] [(.int w22_c), (.int w12_c)])) _
          refine XS.icmpYes X0.here hx rfl (pc0 := 21) (pc' := 26) rfl (hb hby d17_21) rfl (XT.ii_eq_t c14) (by decide) (by decide) ?_
          refine XT.iincV X0.here hx rfl (1 : Int32) (hb hby d17_26) (by decide) rfl (l' := #[.val (.ref o0), .val (.ref o1), .val (.int (3 : Int32))]) rfl ?_
          show Steps p.tables e below (s₁.setTop (mkF m 29 #[.val (.ref o0), .val (.ref o1), .val (.int (3 : Int32))] [])) _
          refine XS.goto X0.here hx rfl (pc0 := 29) (pc' := 9) rfl (hb hby d17_29) (by decide) (by decide) ?_
          refine XS.iloadN X0.here hx rfl (hb hby d17_9) rfl ?_
          refine XS.aloadN X0.here hx rfl (hb hby d17_10) rfl rfl ?_
          show Steps p.tables e below (s₁.setTop (mkF m 11 #[.val (.ref o0), .val (.ref o1), .val (.int (3 : Int32))] [(.ref o0), (.int (3 : Int32))])) _
          refine X0.arraylength hx (by rw [e0]; exact Ar1.1) (State.isArrayOf_alike hZ.alike Ar1.2.1) (g := (mkF m 11 #[.val (.ref o0), .val (.ref o1), .val (.int (3 : Int32))] [(.ref o0), (.int (3 : Int32))])) rfl rfl (hb hby d17_11) _ ?_
          rw [len_of S1 M1]
          show Steps p.tables e below (s₁.setTop (mkF m 12 #[.val (.ref o0), .val (.ref o1), .val (.int (3 : Int32))] [(.int (4 : Int32)), (.int (3 : Int32))])) _
          refine XS.icmpNo X0.here hx rfl (hb hby d17_12) rfl (XT.ii_ge_f (by decide)) ?_
          refine XS.aloadN X0.here hx rfl (hb hby d17_15) rfl rfl ?_
          refine XS.iloadN X0.here hx rfl (hb hby d17_16) rfl ?_
          show Steps p.tables e below (s₁.setTop (mkF m 17 #[.val (.ref o0), .val (.ref o1), .val (.int (3 : Int32))] [(.int (3 : Int32)), (.ref o0)])) _
          refine X0.baloadBytes hx (j := (3 : Int32)) (v := (.int w13_c)) (by rw [e0]; exact Ar1.1) (State.isArrayOf_alike hZ.alike Ar1.2.1) Ar1.2.2 hin15 (Has.at Ha1 hin15 rfl) (g := (mkF m 17 #[.val (.ref o0), .val (.ref o1), .val (.int (3 : Int32))] [(.int (3 : Int32)), (.ref o0)])) rfl rfl (hb hby d17_17) _ ?_
          refine XS.aloadN X0.here hx rfl (hb hby d17_18) rfl rfl ?_
          refine XS.iloadN X0.here hx rfl (hb hby d17_19) rfl ?_
          show Steps p.tables e below (s₁.setTop (mkF m 20 #[.val (.ref o0), .val (.ref o1), .val (.int (3 : Int32))] [(.int (3 : Int32)), (.ref o1), (.int w13_c)])) _
          refine X0.baloadBytes hx (j := (3 : Int32)) (v := (.int w23_c)) (by rw [e0]; exact Ar2.1) (State.isArrayOf_alike hZ.alike Ar2.2.1) Ar2.2.2 hin16 (Has.at Ha2 hin16 rfl) (g := (mkF m 20 #[.val (.ref o0), .val (.ref o1), .val (.int (3 : Int32))] [(.int (3 : Int32)), (.ref o1), (.int w13_c)])) rfl rfl (hb hby d17_20) _ ?_
          exact k
        clear pre13
        by_cases c18 : w13_c = w23_c
        · skip
          obtain ⟨fs, hr, hrun, hended, hW, hsame⟩ := X0.leave (v := some (.int (1 : Int32))) (fun h => by rw [Bd.returns] at h; cases h) hlk
          refine ⟨_, _, pre17 _ ?_, hrun, hended, _, _, rfl, ?_, ⟨_, rfl⟩, hW, hsame.mono (by decide) (by decide)⟩
          · skip
            show Steps p.tables e below (s₁.setTop (mkF m 21 #[.val (.ref o0), .val (.ref o1), .val (.int (3 : Int32))] [(.int w23_c), (.int w13_c)])) _
            refine XS.icmpYes X0.here hx rfl (pc0 := 21) (pc' := 26) rfl (hb hby d17_21) rfl (XT.ii_eq_t c18) (by decide) (by decide) ?_
            refine XT.iincV X0.here hx rfl (1 : Int32) (hb hby d17_26) (by decide) rfl (l' := #[.val (.ref o0), .val (.ref o1), .val (.int (4 : Int32))]) rfl ?_
            show Steps p.tables e below (s₁.setTop (mkF m 29 #[.val (.ref o0), .val (.ref o1), .val (.int (4 : Int32))] [])) _
            refine XS.goto X0.here hx rfl (pc0 := 29) (pc' := 9) rfl (hb hby d17_29) (by decide) (by decide) ?_
            refine XS.iloadN X0.here hx rfl (hb hby d17_9) rfl ?_
            refine XS.aloadN X0.here hx rfl (hb hby d17_10) rfl rfl ?_
            show Steps p.tables e below (s₁.setTop (mkF m 11 #[.val (.ref o0), .val (.ref o1), .val (.int (4 : Int32))] [(.ref o0), (.int (4 : Int32))])) _
            refine X0.arraylength hx (by rw [e0]; exact Ar1.1) (State.isArrayOf_alike hZ.alike Ar1.2.1) (g := (mkF m 11 #[.val (.ref o0), .val (.ref o1), .val (.int (4 : Int32))] [(.ref o0), (.int (4 : Int32))])) rfl rfl (hb hby d17_11) _ ?_
            rw [len_of S1 M1]
            show Steps p.tables e below (s₁.setTop (mkF m 12 #[.val (.ref o0), .val (.ref o1), .val (.int (4 : Int32))] [(.int (4 : Int32)), (.int (4 : Int32))])) _
            refine XS.icmpYes X0.here hx rfl (pc0 := 12) (pc' := 32) rfl (hb hby d17_12) rfl (XT.ii_ge_t (by decide)) (by decide) (by decide) ?_
            refine XT.iconstV X0.here hx rfl (1 : Int32) (hb hby d17_32) (by decide) ?_
            show Steps p.tables e below (s₁.setTop (mkF m 33 #[.val (.ref o0), .val (.ref o1), .val (.int (4 : Int32))] [(.int (1 : Int32))])) _
            exact retN X0 hx (t := .boolean) Bd.returns (by simp) (hb hby d17_33) hr
          · skip
            show Qle4 Z o0 o1 w10_c w11_c w12_c w13_c kA w20_c w21_c w22_c w23_c kB h0 n0 _ s₁.heap _
            rw [e0]
            exact ⟨N0, (by rw [show (fle4 w10_c w11_c w12_c w13_c w20_c w21_c w22_c w23_c) = (1 : Int32) from ((((if_pos c6).trans (if_pos c10)).trans (if_pos c14)).trans (if_pos c18))]), rfl⟩
        · skip
          obtain ⟨fs, hr, hrun, hended, hW, hsame⟩ := X0.leave (v := some (.int (0 : Int32))) (fun h => by rw [Bd.returns] at h; cases h) hlk
          refine ⟨_, _, pre17 _ ?_, hrun, hended, _, _, rfl, ?_, ⟨_, rfl⟩, hW, hsame.mono (by decide) (by decide)⟩
          · skip
            show Steps p.tables e below (s₁.setTop (mkF m 21 #[.val (.ref o0), .val (.ref o1), .val (.int (3 : Int32))] [(.int w23_c), (.int w13_c)])) _
            refine XS.icmpNo X0.here hx rfl (hb hby d17_21) rfl (XT.ii_eq_f c18) ?_
            refine XT.iconstV X0.here hx rfl (0 : Int32) (hb hby d17_24) (by decide) ?_
            show Steps p.tables e below (s₁.setTop (mkF m 25 #[.val (.ref o0), .val (.ref o1), .val (.int (3 : Int32))] [(.int (0 : Int32))])) _
            exact retN X0 hx (t := .boolean) Bd.returns (by simp) (hb hby d17_25) hr
          · skip
            show Qle4 Z o0 o1 w10_c w11_c w12_c w13_c kA w20_c w21_c w22_c w23_c kB h0 n0 _ s₁.heap _
            rw [e0]
            exact ⟨N0, (by rw [show (fle4 w10_c w11_c w12_c w13_c w20_c w21_c w22_c w23_c) = (0 : Int32) from ((((if_pos c6).trans (if_pos c10)).trans (if_pos c14)).trans (if_neg c18))]), rfl⟩
      · skip
        obtain ⟨fs, hr, hrun, hended, hW, hsame⟩ := X0.leave (v := some (.int (0 : Int32))) (fun h => by rw [Bd.returns] at h; cases h) hlk
        refine ⟨_, _, pre13 _ ?_, hrun, hended, _, _, rfl, ?_, ⟨_, rfl⟩, hW, hsame.mono (by decide) (by decide)⟩
        · skip
          show Steps p.tables e below (s₁.setTop (mkF m 21 #[.val (.ref o0), .val (.ref o1), .val (.int (2 : Int32))] [(.int w22_c), (.int w12_c)])) _
          refine XS.icmpNo X0.here hx rfl (hb hby d17_21) rfl (XT.ii_eq_f c14) ?_
          refine XT.iconstV X0.here hx rfl (0 : Int32) (hb hby d17_24) (by decide) ?_
          show Steps p.tables e below (s₁.setTop (mkF m 25 #[.val (.ref o0), .val (.ref o1), .val (.int (2 : Int32))] [(.int (0 : Int32))])) _
          exact retN X0 hx (t := .boolean) Bd.returns (by simp) (hb hby d17_25) hr
        · skip
          show Qle4 Z o0 o1 w10_c w11_c w12_c w13_c kA w20_c w21_c w22_c w23_c kB h0 n0 _ s₁.heap _
          rw [e0]
          exact ⟨N0, (by rw [show (fle4 w10_c w11_c w12_c w13_c w20_c w21_c w22_c w23_c) = (0 : Int32) from (((if_pos c6).trans (if_pos c10)).trans (if_neg c14))]), rfl⟩
    · skip
      obtain ⟨fs, hr, hrun, hended, hW, hsame⟩ := X0.leave (v := some (.int (0 : Int32))) (fun h => by rw [Bd.returns] at h; cases h) hlk
      refine ⟨_, _, pre9 _ ?_, hrun, hended, _, _, rfl, ?_, ⟨_, rfl⟩, hW, hsame.mono (by decide) (by decide)⟩
      · skip
        show Steps p.tables e below (s₁.setTop (mkF m 21 #[.val (.ref o0), .val (.ref o1), .val (.int (1 : Int32))] [(.int w21_c), (.int w11_c)])) _
        refine XS.icmpNo X0.here hx rfl (hb hby d17_21) rfl (XT.ii_eq_f c10) ?_
        refine XT.iconstV X0.here hx rfl (0 : Int32) (hb hby d17_24) (by decide) ?_
        show Steps p.tables e below (s₁.setTop (mkF m 25 #[.val (.ref o0), .val (.ref o1), .val (.int (1 : Int32))] [(.int (0 : Int32))])) _
        exact retN X0 hx (t := .boolean) Bd.returns (by simp) (hb hby d17_25) hr
      · skip
        show Qle4 Z o0 o1 w10_c w11_c w12_c w13_c kA w20_c w21_c w22_c w23_c kB h0 n0 _ s₁.heap _
        rw [e0]
        exact ⟨N0, (by rw [show (fle4 w10_c w11_c w12_c w13_c w20_c w21_c w22_c w23_c) = (0 : Int32) from ((if_pos c6).trans (if_neg c10))]), rfl⟩
  · skip
    obtain ⟨fs, hr, hrun, hended, hW, hsame⟩ := X0.leave (v := some (.int (0 : Int32))) (fun h => by rw [Bd.returns] at h; cases h) hlk
    refine ⟨_, _, pre5 _ ?_, hrun, hended, _, _, rfl, ?_, ⟨_, rfl⟩, hW, hsame.mono (by decide) (by decide)⟩
    · skip
      show Steps p.tables e below (s₁.setTop (mkF m 21 #[.val (.ref o0), .val (.ref o1), .val (.int (0 : Int32))] [(.int w20_c), (.int w10_c)])) _
      refine XS.icmpNo X0.here hx rfl (hb hby d17_21) rfl (XT.ii_eq_f c6) ?_
      refine XT.iconstV X0.here hx rfl (0 : Int32) (hb hby d17_24) (by decide) ?_
      show Steps p.tables e below (s₁.setTop (mkF m 25 #[.val (.ref o0), .val (.ref o1), .val (.int (0 : Int32))] [(.int (0 : Int32))])) _
      exact retN X0 hx (t := .boolean) Bd.returns (by simp) (hb hby d17_25) hr
    · skip
      show Qle4 Z o0 o1 w10_c w11_c w12_c w13_c kA w20_c w21_c w22_c w23_c kB h0 n0 _ s₁.heap _
      rw [e0]
      exact ⟨N0, (by rw [show (fle4 w10_c w11_c w12_c w13_c w20_c w21_c w22_c w23_c) = (0 : Int32) from (if_neg c6)]), rfl⟩
theorem d16_50 : decode jdk_42_method_66_code 50 = .ok (.iconst 1, 1) := by decide +kernel
theorem d16_51 : decode jdk_42_method_66_code 51 = .ok (.goto 4, 3) := by decide +kernel
theorem ef_sq4 (m : MethodId) (o0 : Addr) (o1 : Addr) : entryFrame m #[(.ref o0), (.ref o1)] 3 = mkF m 0 #[.val (.ref o0), .val (.ref o1), .unset] [] := by first | (simp [entryFrame, mkF, argsToLocals, Value.category]; done) | rfl
def vsq4_1 (w10_c : Int32) (w11_c : Int32) (w12_c : Int32) (w13_c : Int32) (w20_c : Int32) (w21_c : Int32) (w22_c : Int32) (w23_c : Int32) (w0 : Int32) : Int32 := (fle4 w10_c w11_c w12_c w13_c w20_c w21_c w22_c w23_c)
def vsq4_2 (w10_c : Int32) (w11_c : Int32) (w12_c : Int32) (w13_c : Int32) (w20_c : Int32) (w21_c : Int32) (w22_c : Int32) (w23_c : Int32) (w0 : Int32) : Int32 := (if (vsq4_1 w10_c w11_c w12_c w13_c w20_c w21_c w22_c w23_c w0) = (0 : Int32) then (0 : Int32) else (1 : Int32))
def fsq4 (w10_c : Int32) (w11_c : Int32) (w12_c : Int32) (w13_c : Int32) (w20_c : Int32) (w21_c : Int32) (w22_c : Int32) (w23_c : Int32) (w0 : Int32) : Int32 := (nar .boolean (vsq4_2 w10_c w11_c w12_c w13_c w20_c w21_c w22_c w23_c w0))
def Qsq4 (Z : State) (o0 : Addr) (o1 : Addr) (w1_v : Addr) (w10_c : Int32) (w11_c : Int32) (w12_c : Int32) (w13_c : Int32) (kA : ClassId) (w2_v : Addr) (w20_c : Int32) (w21_c : Int32) (w22_c : Int32) (w23_c : Int32) (kB : ClassId) (w0 : Int32) (h0 : Heap) (n0 : Nat) (v : Option Value) (h : Heap) (L : List Loc) : Prop := Fr n0 L ∧ v = some (.int (fsq4 w10_c w11_c w12_c w13_c w20_c w21_c w22_c w23_c w0)) ∧ h = h0
set_option maxRecDepth 65536 in
set_option maxHeartbeats 40000000 in
theorem rmsq4 (l : Launch) (Z : State) (a0 : Array Value) (hw : ∀ d ∈ tables_1, d.before a0 Z = true) (ws : List Jvm.Cond) (o0 : Addr) (o1 : Addr) (w1_v : Addr) (w10_c : Int32) (w11_c : Int32) (w12_c : Int32) (w13_c : Int32) (kA : ClassId) (w2_v : Addr) (w20_c : Int32) (w21_c : Int32) (w22_c : Int32) (w23_c : Int32) (kB : ClassId) (w0 : Int32) (h0 : Heap) (n0 : Nat) (Z0 : n0 ≤ h0.size) (E_o0 : Exa Z h0 o0 "java/lang/String") (F_coder_o0 : Fld Z h0 o0 "java/lang/String" "coder" "B" (.int (0 : Int32))) (F_value_o0 : Fld Z h0 o0 "java/lang/String" "value" "[B" (.ref w1_v)) (V_w1_v : Arv Z h0 w1_v kA .byte (4 : Int32) [(.int w10_c), (.int w11_c), (.int w12_c), (.int w13_c)] (.int (0 : Int32))) (E_o1 : Exa Z h0 o1 "java/lang/String") (F_coder_o1 : Fld Z h0 o1 "java/lang/String" "coder" "B" (.int (0 : Int32))) (F_value_o1 : Fld Z h0 o1 "java/lang/String" "value" "[B" (.ref w2_v)) (V_w2_v : Arv Z h0 w2_v kB .byte (4 : Int32) [(.int w20_c), (.int w21_c), (.int w22_c), (.int w23_c)] (.int (0 : Int32))) (ne_o0_o1 : o0 ≠ o1) (S_String_COMPACT_STRINGS : Sta Z h0 "java/lang/String" "COMPACT_STRINGS" "Z" (.int w0)) (hcs : ¬ (w0 = (0 : Int32))) :
    MetFree l (⟨"java/lang/String", "equals", "(Ljava/lang/Object;)Z"⟩ : MethodName) (head1 (Jvm.Cond.code (⟨"java/lang/String", "equals", "(Ljava/lang/Object;)Z"⟩ : MethodName) jdk_42_method_66_code 3 (some .boolean) :: ws) ({ frames := 1, cells := 0, slots := 0, locals := 14 } : Room)) (fun a U => a = #[(.ref o0), (.ref o1)] ∧ Z.Warmed39 U.vm ∧ U.heap = h0) (fun _ _ _ _ _ => True) (fun _ U o U' => ∃ v L, o = .returned v ∧ Qsq4 Z o0 o1 w1_v w10_c w11_c w12_c w13_c kA w2_v w20_c w21_c w22_c w23_c kB w0 h0 n0 v U'.heap L ∧ FrameEnd U o U' L ({ frames := 1, cells := 0, slots := 0, locals := 14 } : Room).cells ({ frames := 1, cells := 0, slots := 0, locals := 14 } : Room).slots) := by
  refine MetFree.of_bodySF (plainFor_of_name pn_java_lang_String) hisR ?_
  intro p e s m args below meth c s₁ Bd hml0 hP hK
  obtain ⟨rfl, hZ, hh⟩ := hP
  have hx := Bd.exec
  have hby := Bd.bytes
  have hml : c.maxLocals = 3 := hml0
  have hown : s.vm.findClass "java/lang/String" = some m.cls := findClass_of_methodNamed Bd.named
  have hnm := (name_of_methodNamed Bd.named Bd.method).1
  have hlk := BodyLoose.notSynchronized Bd
  have X0 : Stand p l e ({ frames := 1, cells := 0, slots := 0, locals := 14 } : Room) s m #[(.ref o0), (.ref o1)] below meth c s₁ [] 0 0 := Stand.of_body Bd
  have e0 : s₁.heap = h0 := by rw [← hh, Bd.state]; rfl
  have N0 := Fr.nil n0
  have pre0 : ∀ t, Steps p.tables e below (s₁.setTop (mkF m 0 #[.val (.ref o0), .val (.ref o1), .unset] [])) t → Steps p.tables e below (s₁.setTop (entryFrame m #[(.ref o0), (.ref o1)] 3)) t := fun t k => castTop (ef_sq4 m o0 o1) k
  obtain ⟨T1, X1, e1, st1⟩ := instY X0 hx hZ hown (wd hw 78 rfl) e0 (Ins.self E_o1) (g := (mkF m 8 #[.val (.ref o0), .val (.ref o1), .unset] [(.ref o1)])) rfl rfl (hb hby d16_8)
  obtain ⟨T2, X2, e2, st2⟩ := castY X1 hx hZ hown (wd hw 78 rfl) e1 (Ins.self E_o1) (g := (mkF m 15 #[.val (.ref o0), .val (.ref o1), .unset] [(.ref o1)])) rfl rfl (hb hby d16_15)
  obtain ⟨T3, X3, e3, st3⟩ := getS2 X2 hx hZ hown (host := "") (Or.inl (wd hw 28 rfl)) Via.refl e2 S_String_COMPACT_STRINGS (g := (mkF m 19 #[.val (.ref o0), .val (.ref o1), .val (.ref o1)] [])) rfl (hb hby d16_19)
  obtain ⟨T4, X4, e4, st4⟩ := getF X3 hx hZ hown (host := "") (Or.inl (wd hw 29 rfl)) Via.refl e3 F_coder_o0 (g := (mkF m 26 #[.val (.ref o0), .val (.ref o1), .val (.ref o1)] [(.ref o0)])) rfl rfl (hb hby d16_26)
  obtain ⟨T5, X5, e5, st5⟩ := getF X4 hx hZ hown (host := "") (Or.inl (wd hw 29 rfl)) Via.refl e4 F_coder_o1 (g := (mkF m 30 #[.val (.ref o0), .val (.ref o1), .val (.ref o1)] [(.ref o1), (.int (0 : Int32))])) rfl rfl (hb hby d16_30)
  obtain ⟨T6, X6, e6, st6⟩ := getF X5 hx hZ hown (host := "") (Or.inl (wd hw 22 rfl)) Via.refl e5 F_value_o0 (g := (mkF m 37 #[.val (.ref o0), .val (.ref o1), .val (.ref o1)] [(.ref o0)])) rfl rfl (hb hby d16_37)
  obtain ⟨T7, X7, e7, st7⟩ := getF X6 hx hZ hown (host := "") (Or.inl (wd hw 22 rfl)) Via.refl e6 F_value_o1 (g := (mkF m 41 #[.val (.ref o0), .val (.ref o1), .val (.ref o1)] [(.ref o1), (.ref w1_v)])) rfl rfl (hb hby d16_41)
  obtain ⟨vr8, _, ⟨T8, L8, k8, n8⟩, -, X8, ⟨Lc8, hQ8, l8, y8, z8⟩, st8⟩ := Jvm.LawKit.callS X7 hx (y := (⟨"java/lang/StringLatin1", "equals", "([B[B)Z"⟩ : MethodName)) hown (mvT hZ (wd hw 79 rfl)) (mvT hZ (wd hw 80 rfl)) (mvT hZ (wd hw 42 rfl)) (mvT hZ (wd hw 81 rfl)) (by decide) (backOf (W := 0) (rmle4 l Z a0 hw [] w1_v w2_v w10_c w11_c w12_c w13_c kA w20_c w21_c w22_c w23_c kB h0 n0 Z0 V_w1_v V_w2_v) hZ (wd hw 81 rfl) (wd hw 42 rfl) (by decide) (by decide)) (g := (mkF m 44 #[.val (.ref o0), .val (.ref o1), .val (.ref o1)] [(.ref w2_v), (.ref w1_v)])) rfl (by rw [hml]; rfl) (argsL := [(.ref w1_v), (.ref w2_v)]) (rest := []) (lenOf pd___B_B_Z rfl) rfl (by show 2 * 0 + _ ≤ _; exact Nat.le_of_eq rfl) (hb hby d16_44) (fun _ _ => ⟨rfl, e7, (by decide : 0 + 0 ≤ _), (by decide : 0 + 0 ≤ _)⟩)
  dsimp only [Pt.U, Pt.locs, Pt.cells, Pt.slots] at X8 l8 y8 z8 st8 hQ8
  replace X8 := own_stand X8 l8 y8 z8
  clear l8 y8 z8
  have N8q := (show _ ∧ _ ∧ _ from hQ8).1
  have hv8 := (show _ ∧ _ ∧ _ from hQ8).2.1
  have e8 := (show _ ∧ _ ∧ _ from hQ8).2.2
  clear hQ8
  subst hv8
  have N8 := Fr.app N0 N8q
  have pre9 : ∀ t, Steps p.tables e below (T8.setTop (mkF m 47 #[.val (.ref o0), .val (.ref o1), .val (.ref o1)] [(.int (fle4 w10_c w11_c w12_c w13_c w20_c w21_c w22_c w23_c))])) t → Steps p.tables e below (s₁.setTop (entryFrame m #[(.ref o0), (.ref o1)] 3)) t := by
    intro t k
    refine pre0 t ?_
    show Steps p.tables e below (s₁.setTop (mkF m 0 #[.val (.ref o0), .val (.ref o1), .unset] [])) _
    refine XS.aloadN X0.here hx rfl (hb hby d16_0) rfl rfl ?_
    refine XS.aloadN X0.here hx rfl (hb hby d16_1) rfl rfl ?_
    show Steps p.tables e below (s₁.setTop (mkF m 2 #[.val (.ref o0), .val (.ref o1), .unset] [(.ref o1), (.ref o0)])) _
    refine XT.acmpYes X0.here hx rfl (pc0 := 2) (pc' := 7) rfl (hb hby d16_2) rfl rfl rfl (XT.aa_ne_t (fun q => ne_o0_o1 (Value.ref.inj q))) (by decide) (by decide) ?_
    refine XS.aloadN X0.here hx rfl (hb hby d16_7) rfl rfl ?_
    show Steps p.tables e below (s₁.setTop (mkF m 8 #[.val (.ref o0), .val (.ref o1), .unset] [(.ref o1)])) _
    refine st1 _ ?_
    show Steps p.tables e below (T1.setTop (mkF m 11 #[.val (.ref o0), .val (.ref o1), .unset] [(.int (1 : Int32))])) _
    refine XS.ifNo X1.here hx rfl (hb hby d16_11) rfl (XT.i0_eq_f (by decide)) ?_
    refine XS.aloadN X1.here hx rfl (hb hby d16_14) rfl rfl ?_
    show Steps p.tables e below (T1.setTop (mkF m 15 #[.val (.ref o0), .val (.ref o1), .unset] [(.ref o1)])) _
    refine st2 _ ?_
    refine XS.astoreN X2.here hx rfl (hb hby d16_18) rfl rfl (l' := #[.val (.ref o0), .val (.ref o1), .val (.ref o1)]) rfl ?_
    show Steps p.tables e below (T2.setTop (mkF m 19 #[.val (.ref o0), .val (.ref o1), .val (.ref o1)] [])) _
    refine st3 _ ?_
    show Steps p.tables e below (T3.setTop (mkF m 22 #[.val (.ref o0), .val (.ref o1), .val (.ref o1)] [(.int w0)])) _
    refine XS.ifNo X3.here hx rfl (hb hby d16_22) rfl (XT.i0_eq_f hcs) ?_
    refine XS.aloadN X3.here hx rfl (hb hby d16_25) rfl rfl ?_
    show Steps p.tables e below (T3.setTop (mkF m 26 #[.val (.ref o0), .val (.ref o1), .val (.ref o1)] [(.ref o0)])) _
    refine st4 _ ?_
    refine XS.aloadN X4.here hx rfl (hb hby d16_29) rfl rfl ?_
    show Steps p.tables e below (T4.setTop (mkF m 30 #[.val (.ref o0), .val (.ref o1), .val (.ref o1)] [(.ref o1), (.int (0 : Int32))])) _
    refine st5 _ ?_
    show Steps p.tables e below (T5.setTop (mkF m 33 #[.val (.ref o0), .val (.ref o1), .val (.ref o1)] [(.int (0 : Int32)), (.int (0 : Int32))])) _
    refine XS.icmpNo X5.here hx rfl (hb hby d16_33) rfl (XT.ii_ne_f (by decide)) ?_
    refine XS.aloadN X5.here hx rfl (hb hby d16_36) rfl rfl ?_
    show Steps p.tables e below (T5.setTop (mkF m 37 #[.val (.ref o0), .val (.ref o1), .val (.ref o1)] [(.ref o0)])) _
    refine st6 _ ?_
    refine XS.aloadN X6.here hx rfl (hb hby d16_40) rfl rfl ?_
    show Steps p.tables e below (T6.setTop (mkF m 41 #[.val (.ref o0), .val (.ref o1), .val (.ref o1)] [(.ref o1), (.ref w1_v)])) _
    refine st7 _ ?_
    show Steps p.tables e below (T7.setTop (mkF m 44 #[.val (.ref o0), .val (.ref o1), .val (.ref o1)] [(.ref w2_v), (.ref w1_v)])) _
    refine st8 _ ?_
    exact k
  clear pre0 st1 st2 st3 st4 st5 st6 st7 st8
  have pre11 : ∀ t, Steps p.tables e below (T8.setTop (mkF m 55 #[.val (.ref o0), .val (.ref o1), .val (.ref o1)] [(.int (vsq4_2 w10_c w11_c w12_c w13_c w20_c w21_c w22_c w23_c w0))])) t → Steps p.tables e below (s₁.setTop (entryFrame m #[(.ref o0), (.ref o1)] 3)) t := by
    intro t k
    by_cases c10 : (vsq4_1 w10_c w11_c w12_c w13_c w20_c w21_c w22_c w23_c w0) = (0 : Int32)
    · skip
      rw [show (vsq4_2 w10_c w11_c w12_c w13_c w20_c w21_c w22_c w23_c w0) = (0 : Int32) from (if_pos c10)] at k
      refine pre9 t ?_
      show Steps p.tables e below (T8.setTop (mkF m 47 #[.val (.ref o0), .val (.ref o1), .val (.ref o1)] [(.int (fle4 w10_c w11_c w12_c w13_c w20_c w21_c w22_c w23_c))])) _
      refine XS.ifYes X8.here hx rfl (pc0 := 47) (pc' := 54) rfl (hb hby d16_47) rfl (XT.i0_eq_t c10) (by decide) (by decide) ?_
      refine XT.iconstV X8.here hx rfl (0 : Int32) (hb hby d16_54) (by decide) ?_
      exact k
    · skip
      rw [show (vsq4_2 w10_c w11_c w12_c w13_c w20_c w21_c w22_c w23_c w0) = (1 : Int32) from (if_neg c10)] at k
      refine pre9 t ?_
      show Steps p.tables e below (T8.setTop (mkF m 47 #[.val (.ref o0), .val (.ref o1), .val (.ref o1)] [(.int (fle4 w10_c w11_c w12_c w13_c w20_c w21_c w22_c w23_c))])) _
      refine XS.ifNo X8.here hx rfl (hb hby d16_47) rfl (XT.i0_eq_f c10) ?_
      refine XT.iconstV X8.here hx rfl (1 : Int32) (hb hby d16_50) (by decide) ?_
      show Steps p.tables e below (T8.setTop (mkF m 51 #[.val (.ref o0), .val (.ref o1), .val (.ref o1)] [(.int (1 : Int32))])) _
      refine XS.goto X8.here hx rfl (pc0 := 51) (pc' := 55) rfl (hb hby d16_51) (by decide) (by decide) ?_
      exact k
  obtain ⟨fs, hr, hrun, hended, hW, hsame⟩ := X8.leave (v := some (.int (nar .boolean (vsq4_2 w10_c w11_c w12_c w13_c w20_c w21_c w22_c w23_c w0)))) (fun h => by rw [Bd.returns] at h; cases h) hlk
  refine ⟨_, _, pre11 _ ?_, hrun, hended, _, _, rfl, ?_, ⟨_, rfl⟩, hW, hsame.mono (by decide) (by decide)⟩
  · skip
    show Steps p.tables e below (T8.setTop (mkF m 55 #[.val (.ref o0), .val (.ref o1), .val (.ref o1)] [(.int (vsq4_2 w10_c w11_c w12_c w13_c w20_c w21_c w22_c w23_c w0))])) _
    exact retN X8 hx (t := .boolean) Bd.returns (by simp) (hb hby d16_55) hr
  · skip
    show Qsq4 Z o0 o1 w1_v w10_c w11_c w12_c w13_c kA w2_v w20_c w21_c w22_c w23_c kB w0 h0 n0 _ T8.heap _
    rw [e8]
    exact ⟨N8, rfl, rfl⟩
theorem ef_le6 (m : MethodId) (o0 : Addr) (o1 : Addr) : entryFrame m #[(.ref o0), (.ref o1)] 3 = mkF m 0 #[.val (.ref o0), .val (.ref o1), .unset] [] := by first | (simp [entryFrame, mkF, argsToLocals, Value.category]; done) | rfl
def fle6 (w10_c : Int32) (w11_c : Int32) (w12_c : Int32) (w13_c : Int32) (w14_c : Int32) (w15_c : Int32) (w20_c : Int32) (w21_c : Int32) (w22_c : Int32) (w23_c : Int32) (w24_c : Int32) (w25_c : Int32) : Int32 := (if w10_c = w20_c then (if w11_c = w21_c then (if w12_c = w22_c then (if w13_c = w23_c then (if w14_c = w24_c then (if w15_c = w25_c then (1 : Int32) else (0 : Int32)) else (0 : Int32)) else (0 : Int32)) else (0 : Int32)) else (0 : Int32)) else (0 : Int32))
def Qle6 (Z : State) (o0 : Addr) (o1 : Addr) (w10_c : Int32) (w11_c : Int32) (w12_c : Int32) (w13_c : Int32) (w14_c : Int32) (w15_c : Int32) (kA : ClassId) (w20_c : Int32) (w21_c : Int32) (w22_c : Int32) (w23_c : Int32) (w24_c : Int32) (w25_c : Int32) (kB : ClassId) (h0 : Heap) (n0 : Nat) (v : Option Value) (h : Heap) (L : List Loc) : Prop := Fr n0 L ∧ v = some (.int (fle6 w10_c w11_c w12_c w13_c w14_c w15_c w20_c w21_c w22_c w23_c w24_c w25_c)) ∧ h = h0
set_option maxRecDepth 65536 in
set_option maxHeartbeats 40000000 in
theorem rmle6 (l : Launch) (Z : State) (a0 : Array Value) (hw : ∀ d ∈ tables_1, d.before a0 Z = true) (ws : List Jvm.Cond) (o0 : Addr) (o1 : Addr) (w10_c : Int32) (w11_c : Int32) (w12_c : Int32) (w13_c : Int32) (w14_c : Int32) (w15_c : Int32) (kA : ClassId) (w20_c : Int32) (w21_c : Int32) (w22_c : Int32) (w23_c : Int32) (w24_c : Int32) (w25_c : Int32) (kB : ClassId) (h0 : Heap) (n0 : Nat) (Z0 : n0 ≤ h0.size) (V_o0 : Arv Z h0 o0 kA .byte (6 : Int32) [(.int w10_c), (.int w11_c), (.int w12_c), (.int w13_c), (.int w14_c), (.int w15_c)] (.int (0 : Int32))) (V_o1 : Arv Z h0 o1 kB .byte (6 : Int32) [(.int w20_c), (.int w21_c), (.int w22_c), (.int w23_c), (.int w24_c), (.int w25_c)] (.int (0 : Int32))) :
    MetFree l (⟨"java/lang/StringLatin1", "equals", "([B[B)Z"⟩ : MethodName) (head1 (Jvm.Cond.code (⟨"java/lang/StringLatin1", "equals", "([B[B)Z"⟩ : MethodName) jdk_43_method_13_code 3 (some .boolean) :: ws) ({ frames := 0, cells := 0, slots := 0, locals := 0 } : Room)) (fun a U => a = #[(.ref o0), (.ref o1)] ∧ Z.Warmed39 U.vm ∧ U.heap = h0) (fun _ _ _ _ _ => True) (fun _ U o U' => ∃ v L, o = .returned v ∧ Qle6 Z o0 o1 w10_c w11_c w12_c w13_c w14_c w15_c kA w20_c w21_c w22_c w23_c w24_c w25_c kB h0 n0 v U'.heap L ∧ FrameEnd U o U' L ({ frames := 0, cells := 0, slots := 0, locals := 0 } : Room).cells ({ frames := 0, cells := 0, slots := 0, locals := 0 } : Room).slots) := by
  refine MetFree.of_bodySF (plainFor_of_name pn_java_lang_StringLatin1) hisR ?_
  intro p e s m args below meth c s₁ Bd hml0 hP hK
  obtain ⟨rfl, hZ, hh⟩ := hP
  have hx := Bd.exec
  have hby := Bd.bytes
  have hml : c.maxLocals = 3 := hml0
  have hown : s.vm.findClass "java/lang/StringLatin1" = some m.cls := findClass_of_methodNamed Bd.named
  have hnm := (name_of_methodNamed Bd.named Bd.method).1
  have hlk := BodyLoose.notSynchronized Bd
  have X0 : Stand p l e ({ frames := 0, cells := 0, slots := 0, locals := 0 } : Room) s m #[(.ref o0), (.ref o1)] below meth c s₁ [] 0 0 := Stand.of_body Bd
  have e0 : s₁.heap = h0 := by rw [← hh, Bd.state]; rfl
  have N0 := Fr.nil n0
  have pre0 : ∀ t, Steps p.tables e below (s₁.setTop (mkF m 0 #[.val (.ref o0), .val (.ref o1), .unset] [])) t → Steps p.tables e below (s₁.setTop (entryFrame m #[(.ref o0), (.ref o1)] 3)) t := fun t k => castTop (ef_le6 m o0 o1) k
  obtain ⟨cl1, Ar1, qc1, S1, M1, Ha1, G1⟩ := id V_o0
  obtain ⟨cl2, Ar2, qc2, S2, M2, Ha2, G2⟩ := id V_o1
  have hin3 : ¬ ((0 : Int32) < 0 ∨ cl1.slots.size ≤ ((0 : Int32)).toNatClampNeg) := inb_of S1 ⟨by decide, by decide⟩
  have hin4 : ¬ ((0 : Int32) < 0 ∨ cl2.slots.size ≤ ((0 : Int32)).toNatClampNeg) := inb_of S2 ⟨by decide, by decide⟩
  have pre5 : ∀ t, Steps p.tables e below (s₁.setTop (mkF m 21 #[.val (.ref o0), .val (.ref o1), .val (.int (0 : Int32))] [(.int w20_c), (.int w10_c)])) t → Steps p.tables e below (s₁.setTop (entryFrame m #[(.ref o0), (.ref o1)] 3)) t := by
    intro t k
    refine pre0 t ?_
    show Steps p.tables e below (s₁.setTop (mkF m 0 #[.val (.ref o0), .val (.ref o1), .unset] [])) _
    refine XS.aloadN X0.here hx rfl (hb hby d17_0) rfl rfl ?_
    show Steps p.tables e below (s₁.setTop (mkF m 1 #[.val (.ref o0), .val (.ref o1), .unset] [(.ref o0)])) _
    refine X0.arraylength hx (by rw [e0]; exact Ar1.1) (State.isArrayOf_alike hZ.alike Ar1.2.1) (g := (mkF m 1 #[.val (.ref o0), .val (.ref o1), .unset] [(.ref o0)])) rfl rfl (hb hby d17_1) _ ?_
    rw [len_of S1 M1]
    refine XS.aloadN X0.here hx rfl (hb hby d17_2) rfl rfl ?_
    show Steps p.tables e below (s₁.setTop (mkF m 3 #[.val (.ref o0), .val (.ref o1), .unset] [(.ref o1), (.int (6 : Int32))])) _
    refine X0.arraylength hx (by rw [e0]; exact Ar2.1) (State.isArrayOf_alike hZ.alike Ar2.2.1) (g := (mkF m 3 #[.val (.ref o0), .val (.ref o1), .unset] [(.ref o1), (.int (6 : Int32))])) rfl rfl (hb hby d17_3) _ ?_
    rw [len_of S2 M2]
    show Steps p.tables e below (s₁.setTop (mkF m 4 #[.val (.ref o0), .val (.ref o1), .unset] [(.int (6 : Int32)), (.int (6 : Int32))])) _
    refine XS.icmpNo X0.here hx rfl (hb hby d17_4) rfl (XT.ii_ne_f (by decide)) ?_
    refine XT.iconstV X0.here hx rfl (0 : Int32) (hb hby d17_7) (by decide) ?_
    refine XS.istoreN X0.here hx rfl (hb hby d17_8) rfl (l' := #[.val (.ref o0), .val (.ref o1), .val (.int (0 : Int32))]) rfl ?_
    refine XS.iloadN X0.here hx rfl (hb hby d17_9) rfl ?_
    show Steps p.tables e below (s₁.setTop (mkF m 10 #[.val (.ref o0), .val (.ref o1), .val (.int (0 : Int32))] [(.int (0 : Int32))])) _
    refine XS.aloadN X0.here hx rfl (hb hby d17_10) rfl rfl ?_
    show Steps p.tables e below (s₁.setTop (mkF m 11 #[.val (.ref o0), .val (.ref o1), .val (.int (0 : Int32))] [(.ref o0), (.int (0 : Int32))])) _
    refine X0.arraylength hx (by rw [e0]; exact Ar1.1) (State.isArrayOf_alike hZ.alike Ar1.2.1) (g := (mkF m 11 #[.val (.ref o0), .val (.ref o1), .val (.int (0 : Int32))] [(.ref o0), (.int (0 : Int32))])) rfl rfl (hb hby d17_11) _ ?_
    rw [len_of S1 M1]
    show Steps p.tables e below (s₁.setTop (mkF m 12 #[.val (.ref o0), .val (.ref o1), .val (.int (0 : Int32))] [(.int (6 : Int32)), (.int (0 : Int32))])) _
    refine XS.icmpNo X0.here hx rfl (hb hby d17_12) rfl (XT.ii_ge_f (by decide)) ?_
    refine XS.aloadN X0.here hx rfl (hb hby d17_15) rfl rfl ?_
    refine XS.iloadN X0.here hx rfl (hb hby d17_16) rfl ?_
    show Steps p.tables e below (s₁.setTop (mkF m 17 #[.val (.ref o0), .val (.ref o1), .val (.int (0 : Int32))] [(.int (0 : Int32)), (.ref o0)])) _
    refine X0.baloadBytes hx (j := (0 : Int32)) (v := (.int w10_c)) (by rw [e0]; exact Ar1.1) (State.isArrayOf_alike hZ.alike Ar1.2.1) Ar1.2.2 hin3 (Has.at Ha1 hin3 rfl) (g := (mkF m 17 #[.val (.ref o0), .val (.ref o1), .val (.int (0 : Int32))] [(.int (0 : Int32)), (.ref o0)])) rfl rfl (hb hby d17_17) _ ?_
    refine XS.aloadN X0.here hx rfl (hb hby d17_18) rfl rfl ?_
    refine XS.iloadN X0.here hx rfl (hb hby d17_19) rfl ?_
    show Steps p.tables e below (s₁.setTop (mkF m 20 #[.val (.ref o0), .val (.ref o1), .val (.int (0 : Int32))] [(.int (0 : Int32)), (.ref o1), (.int w10_c)])) _
    refine X0.baloadBytes hx (j := (0 : Int32)) (v := (.int w20_c)) (by rw [e0]; exact Ar2.1) (State.isArrayOf_alike hZ.alike Ar2.2.1) Ar2.2.2 hin4 (Has.at Ha2 hin4 rfl) (g := (mkF m 20 #[.val (.ref o0), .val (.ref o1), .val (.int (0 : Int32))] [(.int (0 : Int32)), (.ref o1), (.int w10_c)])) rfl rfl (hb hby d17_20) _ ?_
    exact k
  clear pre0
  by_cases c6 : w10_c = w20_c
  · skip
    have hin7 : ¬ ((1 : Int32) < 0 ∨ cl1.slots.size ≤ ((1 : Int32)).toNatClampNeg) := inb_of S1 ⟨by decide, by decide⟩
    have hin8 : ¬ ((1 : Int32) < 0 ∨ cl2.slots.size ≤ ((1 : Int32)).toNatClampNeg) := inb_of S2 ⟨by decide, by decide⟩
    have pre9 : ∀ t, Steps p.tables e below (s₁.setTop (mkF m 21 #[.val (.ref o0), .val (.ref o1), .val (.int (1 : Int32))] [(.int w21_c), (.int w11_c)])) t → Steps p.tables e below (s₁.setTop (entryFrame m #[(.ref o0), (.ref o1)] 3)) t := by
      intro t k
      refine pre5 t ?_
      show Steps p.tables e below (s₁.setTop (mkF m 21 #[.val (.ref o0), .val (.ref o1), .val (.int (0 : Int32))] [(.int w20_c), (.int w10_c)])) _
      refine XS.icmpYes X0.here hx rfl (pc0 := 21) (pc' := 26) rfl (hb hby d17_21) rfl (XT.ii_eq_t c6) (by decide) (by decide) ?_
      refine XT.iincV X0.here hx rfl (1 : Int32) (hb hby d17_26) (by decide) rfl (l' := #[.val (.ref o0), .val (.ref o1), .val (.int (1 : Int32))]) rfl ?_
      show Steps p.tables e below (s₁.setTop (mkF m 29 #[.val (.ref o0), .val (.ref o1), .val (.int (1 : Int32))] [])) _
      refine XS.goto X0.here hx rfl (pc0 := 29) (pc' := 9) rfl (hb hby d17_29) (by decide) (by decide) ?_
      refine XS.iloadN X0.here hx rfl (hb hby d17_9) rfl ?_
      refine XS.aloadN X0.here hx rfl (hb hby d17_10) rfl rfl ?_
      show Steps p.tables e below (s₁.setTop (mkF m 11 #[.val (.ref o0), .val (.ref o1), .val (.int (1 : Int32))] [(.ref o0), (.int (1 : Int32))])) _
      refine X0.arraylength hx (by rw [e0]; exact Ar1.1) (State.isArrayOf_alike hZ.alike Ar1.2.1) (g := (mkF m 11 #[.val (.ref o0), .val (.ref o1), .val (.int (1 : Int32))] [(.ref o0), (.int (1 : Int32))])) rfl rfl (hb hby d17_11) _ ?_
      rw [len_of S1 M1]
      show Steps p.tables e below (s₁.setTop (mkF m 12 #[.val (.ref o0), .val (.ref o1), .val (.int (1 : Int32))] [(.int (6 : Int32)), (.int (1 : Int32))])) _
      refine XS.icmpNo X0.here hx rfl (hb hby d17_12) rfl (XT.ii_ge_f (by decide)) ?_
      refine XS.aloadN X0.here hx rfl (hb hby d17_15) rfl rfl ?_
      refine XS.iloadN X0.here hx rfl (hb hby d17_16) rfl ?_
      show Steps p.tables e below (s₁.setTop (mkF m 17 #[.val (.ref o0), .val (.ref o1), .val (.int (1 : Int32))] [(.int (1 : Int32)), (.ref o0)])) _
      refine X0.baloadBytes hx (j := (1 : Int32)) (v := (.int w11_c)) (by rw [e0]; exact Ar1.1) (State.isArrayOf_alike hZ.alike Ar1.2.1) Ar1.2.2 hin7 (Has.at Ha1 hin7 rfl) (g := (mkF m 17 #[.val (.ref o0), .val (.ref o1), .val (.int (1 : Int32))] [(.int (1 : Int32)), (.ref o0)])) rfl rfl (hb hby d17_17) _ ?_
      refine XS.aloadN X0.here hx rfl (hb hby d17_18) rfl rfl ?_
      refine XS.iloadN X0.here hx rfl (hb hby d17_19) rfl ?_
      show Steps p.tables e below (s₁.setTop (mkF m 20 #[.val (.ref o0), .val (.ref o1), .val (.int (1 : Int32))] [(.int (1 : Int32)), (.ref o1), (.int w11_c)])) _
      refine X0.baloadBytes hx (j := (1 : Int32)) (v := (.int w21_c)) (by rw [e0]; exact Ar2.1) (State.isArrayOf_alike hZ.alike Ar2.2.1) Ar2.2.2 hin8 (Has.at Ha2 hin8 rfl) (g := (mkF m 20 #[.val (.ref o0), .val (.ref o1), .val (.int (1 : Int32))] [(.int (1 : Int32)), (.ref o1), (.int w11_c)])) rfl rfl (hb hby d17_20) _ ?_
      exact k
    clear pre5
    by_cases c10 : w11_c = w21_c
    · skip
      have hin11 : ¬ ((2 : Int32) < 0 ∨ cl1.slots.size ≤ ((2 : Int32)).toNatClampNeg) := inb_of S1 ⟨by decide, by decide⟩
      have hin12 : ¬ ((2 : Int32) < 0 ∨ cl2.slots.size ≤ ((2 : Int32)).toNatClampNeg) := inb_of S2 ⟨by decide, by decide⟩
      have pre13 : ∀ t, Steps p.tables e below (s₁.setTop (mkF m 21 #[.val (.ref o0), .val (.ref o1), .val (.int (2 : Int32))] [(.int w22_c), (.int w12_c)])) t → Steps p.tables e below (s₁.setTop (entryFrame m #[(.ref o0), (.ref o1)] 3)) t := by
        intro t k
        refine pre9 t ?_
        show Steps p.tables e below (s₁.setTop (mkF m 21 #[.val (.ref o0), .val (.ref o1), .val (.int (1 : Int32))] [(.int w21_c), (.int w11_c)])) _
        refine XS.icmpYes X0.here hx rfl (pc0 := 21) (pc' := 26) rfl (hb hby d17_21) rfl (XT.ii_eq_t c10) (by decide) (by decide) ?_
        refine XT.iincV X0.here hx rfl (1 : Int32) (hb hby d17_26) (by decide) rfl (l' := #[.val (.ref o0), .val (.ref o1), .val (.int (2 : Int32))]) rfl ?_
        show Steps p.tables e below (s₁.setTop (mkF m 29 #[.val (.ref o0), .val (.ref o1), .val (.int (2 : Int32))] [])) _
        refine XS.goto X0.here hx rfl (pc0 := 29) (pc' := 9) rfl (hb hby d17_29) (by decide) (by decide) ?_
        refine XS.iloadN X0.here hx rfl (hb hby d17_9) rfl ?_
        refine XS.aloadN X0.here hx rfl (hb hby d17_10) rfl rfl ?_
        show Steps p.tables e below (s₁.setTop (mkF m 11 #[.val (.ref o0), .val (.ref o1), .val (.int (2 : Int32))] [(.ref o0), (.int (2 : Int32))])) _
        refine X0.arraylength hx (by rw [e0]; exact Ar1.1) (State.isArrayOf_alike hZ.alike Ar1.2.1) (g := (mkF m 11 #[.val (.ref o0), .val (.ref o1), .val (.int (2 : Int32))] [(.ref o0), (.int (2 : Int32))])) rfl rfl (hb hby d17_11) _ ?_
        rw [len_of S1 M1]
        show Steps p.tables e below (s₁.setTop (mkF m 12 #[.val (.ref o0), .val (.ref o1), .val (.int (2 : Int32))] [(.int (6 : Int32)), (.int (2 : Int32))])) _
        refine XS.icmpNo X0.here hx rfl (hb hby d17_12) rfl (XT.ii_ge_f (by decide)) ?_
        refine XS.aloadN X0.here hx rfl (hb hby d17_15) rfl rfl ?_
        refine XS.iloadN X0.here hx rfl (hb hby d17_16) rfl ?_
        show Steps p.tables e below (s₁.setTop (mkF m 17 #[.val (.ref o0), .val (.ref o1), .val (.int (2 : Int32))] [(.int (2 : Int32)), (.ref o0)])) _
        refine X0.baloadBytes hx (j := (2 : Int32)) (v := (.int w12_c)) (by rw [e0]; exact Ar1.1) (State.isArrayOf_alike hZ.alike Ar1.2.1) Ar1.2.2 hin11 (Has.at Ha1 hin11 rfl) (g := (mkF m 17 #[.val (.ref o0), .val (.ref o1), .val (.int (2 : Int32))] [(.int (2 : Int32)), (.ref o0)])) rfl rfl (hb hby d17_17) _ ?_
        refine XS.aloadN X0.here hx rfl (hb hby d17_18) rfl rfl ?_
        refine XS.iloadN X0.here hx rfl (hb hby d17_19) rfl ?_
        show Steps p.tables e below (s₁.setTop (mkF m 20 #[.val (.ref o0), .val (.ref o1), .val (.int (2 : Int32))] [(.int (2 : Int32)), (.ref o1), (.int w12_c)])) _
        refine X0.baloadBytes hx (j := (2 : Int32)) (v := (.int w22_c)) (by rw [e0]; exact Ar2.1) (State.isArrayOf_alike hZ.alike Ar2.2.1) Ar2.2.2 hin12 (Has.at Ha2 hin12 rfl) (g := (mkF m 20 #[.val (.ref o0), .val (.ref o1), .val (.int (2 : Int32))] [(.int (2 : Int32)), (.ref o1), (.int w12_c)])) rfl rfl (hb hby d17_20) _ ?_
        exact k
      clear pre9
      by_cases c14 : w12_c = w22_c
      · skip
        have hin15 : ¬ ((3 : Int32) < 0 ∨ cl1.slots.size ≤ ((3 : Int32)).toNatClampNeg) := inb_of S1 ⟨by decide, by decide⟩
        have hin16 : ¬ ((3 : Int32) < 0 ∨ cl2.slots.size ≤ ((3 : Int32)).toNatClampNeg) := inb_of S2 ⟨by decide, by decide⟩
        have pre17 : ∀ t, Steps p.tables e below (s₁.setTop (mkF m 21 #[.val (.ref o0), .val (.ref o1), .val (.int (3 : Int32))] [(.int w23_c), (.int w13_c)])) t → Steps p.tables e below (s₁.setTop (entryFrame m #[(.ref o0), (.ref o1)] 3)) t := by
          intro t k
          refine pre13 t ?_
          show Steps p.tables e below (s₁.setTop (mkF m 21 #[.val (.ref o0), .val (.ref o1), .val (.int (2 : Int32))] [(.int w22_c), (.int w12_c)])) _
          refine XS.icmpYes X0.here hx rfl (pc0 := 21) (pc' := 26) rfl (hb hby d17_21) rfl (XT.ii_eq_t c14) (by decide) (by decide) ?_
          refine XT.iincV X0.here hx rfl (1 : Int32) (hb hby d17_26) (by decide) rfl (l' := #[.val (.ref o0), .val (.ref o1), .val (.int (3 : Int32))]) rfl ?_
          show Steps p.tables e below (s₁.setTop (mkF m 29 #[.val (.ref o0), .val (.ref o1), .val (.int (3 : Int32))] [])) _
          refine XS.goto X0.here hx rfl (pc0 := 29) (pc' := 9) rfl (hb hby d17_29) (by decide) (by decide) ?_
          refine XS.iloadN X0.here hx rfl (hb hby d17_9) rfl ?_
          refine XS.aloadN X0.here hx rfl (hb hby d17_10) rfl rfl ?_
          show Steps p.tables e below (s₁.setTop (mkF m 11 #[.val (.ref o0), .val (.ref o1), .val (.int (3 : Int32))] [(.ref o0), (.int (3 : Int32))])) _
          refine X0.arraylength hx (by rw [e0]; exact Ar1.1) (State.isArrayOf_alike hZ.alike Ar1.2.1) (g := (mkF m 11 #[.val (.ref o0), .val (.ref o1), .val (.int (3 : Int32))] [(.ref o0), (.int (3 : Int32))])) rfl rfl (hb hby d17_11) _ ?_
          rw [len_of S1 M1]
          show Steps p.tables e below (s₁.setTop (mkF m 12 #[.val (.ref o0), .val (.ref o1), .val (.int (3 : Int32))] [(.int (6 : Int32)), (.int (3 : Int32))])) _
          refine XS.icmpNo X0.here hx rfl (hb hby d17_12) rfl (XT.ii_ge_f (by decide)) ?_
          refine XS.aloadN X0.here hx rfl (hb hby d17_15) rfl rfl ?_
          refine XS.iloadN X0.here hx rfl (hb hby d17_16) rfl ?_
          show Steps p.tables e below (s₁.setTop (mkF m 17 #[.val (.ref o0), .val (.ref o1), .val (.int (3 : Int32))] [(.int (3 : Int32)), (.ref o0)])) _
          refine X0.baloadBytes hx (j := (3 : Int32)) (v := (.int w13_c)) (by rw [e0]; exact Ar1.1) (State.isArrayOf_alike hZ.alike Ar1.2.1) Ar1.2.2 hin15 (Has.at Ha1 hin15 rfl) (g := (mkF m 17 #[.val (.ref o0), .val (.ref o1), .val (.int (3 : Int32))] [(.int (3 : Int32)), (.ref o0)])) rfl rfl (hb hby d17_17) _ ?_
          refine XS.aloadN X0.here hx rfl (hb hby d17_18) rfl rfl ?_
          refine XS.iloadN X0.here hx rfl (hb hby d17_19) rfl ?_
          show Steps p.tables e below (s₁.setTop (mkF m 20 #[.val (.ref o0), .val (.ref o1), .val (.int (3 : Int32))] [(.int (3 : Int32)), (.ref o1), (.int w13_c)])) _
          refine X0.baloadBytes hx (j := (3 : Int32)) (v := (.int w23_c)) (by rw [e0]; exact Ar2.1) (State.isArrayOf_alike hZ.alike Ar2.2.1) Ar2.2.2 hin16 (Has.at Ha2 hin16 rfl) (g := (mkF m 20 #[.val (.ref o0), .val (.ref o1), .val (.int (3 : Int32))] [(.int (3 : Int32)), (.ref o1), (.int w13_c)])) rfl rfl (hb hby d17_20) _ ?_
          exact k
        clear pre13
        by_cases c18 : w13_c = w23_c
        · skip
          have hin19 : ¬ ((4 : Int32) < 0 ∨ cl1.slots.size ≤ ((4 : Int32)).toNatClampNeg) := inb_of S1 ⟨by decide, by decide⟩
          have hin20 : ¬ ((4 : Int32) < 0 ∨ cl2.slots.size ≤ ((4 : Int32)).toNatClampNeg) := inb_of S2 ⟨by decide, by decide⟩
          have pre21 : ∀ t, Steps p.tables e below (s₁.setTop (mkF m 21 #[.val (.ref o0), .val (.ref o1), .val (.int (4 : Int32))] [(.int w24_c), (.int w14_c)])) t → Steps p.tables e below (s₁.setTop (entryFrame m #[(.ref o0), (.ref o1)] 3)) t := by
            intro t k
            refine pre17 t ?_
            show Steps p.tables e below (s₁.setTop (mkF m 21 #[.val (.ref o0), .val (.ref o1), .val (.int (3 : Int32))] [(.int w23_c), (.int w13_c)])) _
            refine XS.icmpYes X0.here hx rfl (pc0 := 21) (pc' := 26) rfl (hb hby d17_21) rfl (XT.ii_eq_t c18) (by decide) (by decide) ?_
            refine XT.iincV X0.here hx rfl (1 : Int32) (hb hby d17_26) (by decide) rfl (l' := #[.val (.ref o0), .val (.ref o1), .val (.int (4 : Int32))]) rfl ?_
            show Steps p.tables e below (s₁.setTop (mkF m 29 #[.val (.ref o0), .val (.ref o1), .val (.int (4 : Int32))] [])) _
            refine XS.goto X0.here hx rfl (pc0 := 29) (pc' := 9) rfl (hb hby d17_29) (by decide) (by decide) ?_
            refine XS.iloadN X0.here hx rfl (hb hby d17_9) rfl ?_
            refine XS.aloadN X0.here hx rfl (hb hby d17_10) rfl rfl ?_
            show Steps p.tables e below (s₁.setTop (mkF m 11 #[.val (.ref o0), .val (.ref o1), .val (.int (4 : Int32))] [(.ref o0), (.int (4 : Int32))])) _
            refine X0.arraylength hx (by rw [e0]; exact Ar1.1) (State.isArrayOf_alike hZ.alike Ar1.2.1) (g := (mkF m 11 #[.val (.ref o0), .val (.ref o1), .val (.int (4 : Int32))] [(.ref o0), (.int (4 : Int32))])) rfl rfl (hb hby d17_11) _ ?_
            rw [len_of S1 M1]
            show Steps p.tables e below (s₁.setTop (mkF m 12 #[.val (.ref o0), .val (.ref o1), .val (.int (4 : Int32))] [(.int (6 : Int32)), (.int (4 : Int32))])) _
            refine XS.icmpNo X0.here hx rfl (hb hby d17_12) rfl (XT.ii_ge_f (by decide)) ?_
            refine XS.aloadN X0.here hx rfl (hb hby d17_15) rfl rfl ?_
            refine XS.iloadN X0.here hx rfl (hb hby d17_16) rfl ?_
            show Steps p.tables e below (s₁.setTop (mkF m 17 #[.val (.ref o0), .val (.ref o1), .val (.int (4 : Int32))] [(.int (4 : Int32)), (.ref o0)])) _
            refine X0.baloadBytes hx (j := (4 : Int32)) (v := (.int w14_c)) (by rw [e0]; exact Ar1.1) (State.isArrayOf_alike hZ.alike Ar1.2.1) Ar1.2.2 hin19 (Has.at Ha1 hin19 rfl) (g := (mkF m 17 #[.val (.ref o0), .val (.ref o1), .val (.int (4 : Int32))] [(.int (4 : Int32)), (.ref o0)])) rfl rfl (hb hby d17_17) _ ?_
            refine XS.aloadN X0.here hx rfl (hb hby d17_18) rfl rfl ?_
            refine XS.iloadN X0.here hx rfl (hb hby d17_19) rfl ?_
            show Steps p.tables e below (s₁.setTop (mkF m 20 #[.val (.ref o0), .val (.ref o1), .val (.int (4 : Int32))] [(.int (4 : Int32)), (.ref o1), (.int w14_c)])) _
            refine X0.baloadBytes hx (j := (4 : Int32)) (v := (.int w24_c)) (by rw [e0]; exact Ar2.1) (State.isArrayOf_alike hZ.alike Ar2.2.1) Ar2.2.2 hin20 (Has.at Ha2 hin20 rfl) (g := (mkF m 20 #[.val (.ref o0), .val (.ref o1), .val (.int (4 : Int32))] [(.int (4 : Int32)), (.ref o1), (.int w14_c)])) rfl rfl (hb hby d17_20) _ ?_
            exact k
          clear pre17
          by_cases c22 : w14_c = w24_c
          · skip
            have hin23 : ¬ ((5 : Int32) < 0 ∨ cl1.slots.size ≤ ((5 : Int32)).toNatClampNeg) := inb_of S1 ⟨by decide, by decide⟩
            have hin24 : ¬ ((5 : Int32) < 0 ∨ cl2.slots.size ≤ ((5 : Int32)).toNatClampNeg) := inb_of S2 ⟨by decide, by decide⟩
            have pre25 : ∀ t, Steps p.tables e below (s₁.setTop (mkF m 21 #[.val (.ref o0), .val (.ref o1), .val (.int (5 : Int32))] [(.int w25_c), (.int w15_c)])) t → Steps p.tables e below (s₁.setTop (entryFrame m #[(.ref o0), (.ref o1)] 3)) t := by
              intro t k
              refine pre21 t ?_
              show Steps p.tables e below (s₁.setTop (mkF m 21 #[.val (.ref o0), .val (.ref o1), .val (.int (4 : Int32))] [(.int w24_c), (.int w14_c)])) _
              refine XS.icmpYes X0.here hx rfl (pc0 := 21) (pc' := 26) rfl (hb hby d17_21) rfl (XT.ii_eq_t c22) (by decide) (by decide) ?_
              refine XT.iincV X0.here hx rfl (1 : Int32) (hb hby d17_26) (by decide) rfl (l' := #[.val (.ref o0), .val (.ref o1), .val (.int (5 : Int32))]) rfl ?_
              show Steps p.tables e below (s₁.setTop (mkF m 29 #[.val (.ref o0), .val (.ref o1), .val (.int (5 : Int32))] [])) _
              refine XS.goto X0.here hx rfl (pc0 := 29) (pc' := 9) rfl (hb hby d17_29) (by decide) (by decide) ?_
              refine XS.iloadN X0.here hx rfl (hb hby d17_9) rfl ?_
              refine XS.aloadN X0.here hx rfl (hb hby d17_10) rfl rfl ?_
              show Steps p.tables e below (s₁.setTop (mkF m 11 #[.val (.ref o0), .val (.ref o1), .val (.int (5 : Int32))] [(.ref o0), (.int (5 : Int32))])) _
              refine X0.arraylength hx (by rw [e0]; exact Ar1.1) (State.isArrayOf_alike hZ.alike Ar1.2.1) (g := (mkF m 11 #[.val (.ref o0), .val (.ref o1), .val (.int (5 : Int32))] [(.ref o0), (.int (5 : Int32))])) rfl rfl (hb hby d17_11) _ ?_
              rw [len_of S1 M1]
              show Steps p.tables e below (s₁.setTop (mkF m 12 #[.val (.ref o0), .val (.ref o1), .val (.int (5 : Int32))] [(.int (6 : Int32)), (.int (5 : Int32))])) _
              refine XS.icmpNo X0.here hx rfl (hb hby d17_12) rfl (XT.ii_ge_f (by decide)) ?_
              refine XS.aloadN X0.here hx rfl (hb hby d17_15) rfl rfl ?_
              refine XS.iloadN X0.here hx rfl (hb hby d17_16) rfl ?_
              show Steps p.tables e below (s₁.setTop (mkF m 17 #[.val (.ref o0), .val (.ref o1), .val (.int (5 : Int32))] [(.int (5 : Int32)), (.ref o0)])) _
              refine X0.baloadBytes hx (j := (5 : Int32)) (v := (.int w15_c)) (by rw [e0]; exact Ar1.1) (State.isArrayOf_alike hZ.alike Ar1.2.1) Ar1.2.2 hin23 (Has.at Ha1 hin23 rfl) (g := (mkF m 17 #[.val (.ref o0), .val (.ref o1), .val (.int (5 : Int32))] [(.int (5 : Int32)), (.ref o0)])) rfl rfl (hb hby d17_17) _ ?_
              refine XS.aloadN X0.here hx rfl (hb hby d17_18) rfl rfl ?_
              refine XS.iloadN X0.here hx rfl (hb hby d17_19) rfl ?_
              show Steps p.tables e below (s₁.setTop (mkF m 20 #[.val (.ref o0), .val (.ref o1), .val (.int (5 : Int32))] [(.int (5 : Int32)), (.ref o1), (.int w15_c)])) _
              refine X0.baloadBytes hx (j := (5 : Int32)) (v := (.int w25_c)) (by rw [e0]; exact Ar2.1) (State.isArrayOf_alike hZ.alike Ar2.2.1) Ar2.2.2 hin24 (Has.at Ha2 hin24 rfl) (g := (mkF m 20 #[.val (.ref o0), .val (.ref o1), .val (.int (5 : Int32))] [(.int (5 : Int32)), (.ref o1), (.int w15_c)])) rfl rfl (hb hby d17_20) _ ?_
              exact k
            clear pre21
            by_cases c26 : w15_c = w25_c
            · skip
              obtain ⟨fs, hr, hrun, hended, hW, hsame⟩ := X0.leave (v := some (.int (1 : Int32))) (fun h => by rw [Bd.returns] at h; cases h) hlk
              refine ⟨_, _, pre25 _ ?_, hrun, hended, _, _, rfl, ?_, ⟨_, rfl⟩, hW, hsame.mono (by decide) (by decide)⟩
              · skip
                show Steps p.tables e below (s₁.setTop (mkF m 21 #[.val (.ref o0), .val (.ref o1), .val (.int (5 : Int32))] [(.int w25_c), (.int w15_c)])) _
                refine XS.icmpYes X0.here hx rfl (pc0 := 21) (pc' := 26) rfl (hb hby d17_21) rfl (XT.ii_eq_t c26) (by decide) (by decide) ?_
                refine XT.iincV X0.here hx rfl (1 : Int32) (hb hby d17_26) (by decide) rfl (l' := #[.val (.ref o0), .val (.ref o1), .val (.int (6 : Int32))]) rfl ?_
                show Steps p.tables e below (s₁.setTop (mkF m 29 #[.val (.ref o0), .val (.ref o1), .val (.int (6 : Int32))] [])) _
                refine XS.goto X0.here hx rfl (pc0 := 29) (pc' := 9) rfl (hb hby d17_29) (by decide) (by decide) ?_
                refine XS.iloadN X0.here hx rfl (hb hby d17_9) rfl ?_
                refine XS.aloadN X0.here hx rfl (hb hby d17_10) rfl rfl ?_
                show Steps p.tables e below (s₁.setTop (mkF m 11 #[.val (.ref o0), .val (.ref o1), .val (.int (6 : Int32))] [(.ref o0), (.int (6 : Int32))])) _
                refine X0.arraylength hx (by rw [e0]; exact Ar1.1) (State.isArrayOf_alike hZ.alike Ar1.2.1) (g := (mkF m 11 #[.val (.ref o0), .val (.ref o1), .val (.int (6 : Int32))] [(.ref o0), (.int (6 : Int32))])) rfl rfl (hb hby d17_11) _ ?_
                rw [len_of S1 M1]
                show Steps p.tables e below (s₁.setTop (mkF m 12 #[.val (.ref o0), .val (.ref o1), .val (.int (6 : Int32))] [(.int (6 : Int32)), (.int (6 : Int32))])) _
                refine XS.icmpYes X0.here hx rfl (pc0 := 12) (pc' := 32) rfl (hb hby d17_12) rfl (XT.ii_ge_t (by decide)) (by decide) (by decide) ?_
                refine XT.iconstV X0.here hx rfl (1 : Int32) (hb hby d17_32) (by decide) ?_
                show Steps p.tables e below (s₁.setTop (mkF m 33 #[.val (.ref o0), .val (.ref o1), .val (.int (6 : Int32))] [(.int (1 : Int32))])) _
                exact retN X0 hx (t := .boolean) Bd.returns (by simp) (hb hby d17_33) hr
              · skip
                show Qle6 Z o0 o1 w10_c w11_c w12_c w13_c w14_c w15_c kA w20_c w21_c w22_c w23_c w24_c w25_c kB h0 n0 _ s₁.heap _
                rw [e0]
                exact ⟨N0, (by rw [show (fle6 w10_c w11_c w12_c w13_c w14_c w15_c w20_c w21_c w22_c w23_c w24_c w25_c) = (1 : Int32) from ((((((if_pos c6).trans (if_pos c10)).trans (if_pos c14)).trans (if_pos c18)).trans (if_pos c22)).trans (if_pos c26))]), rfl⟩
            · skip
              obtain ⟨fs, hr, hrun, hended, hW, hsame⟩ := X0.leave (v := some (.int (0 : Int32))) (fun h => by rw [Bd.returns] at h; cases h) hlk
              refine ⟨_, _, pre25 _ ?_, hrun, hended, _, _, rfl, ?_, ⟨_, rfl⟩, hW, hsame.mono (by decide) (by decide)⟩
              · skip
                show Steps p.tables e below (s₁.setTop (mkF m 21 #[.val (.ref o0), .val (.ref o1), .val (.int (5 : Int32))] [(.int w25_c), (.int w15_c)])) _
                refine XS.icmpNo X0.here hx rfl (hb hby d17_21) rfl (XT.ii_eq_f c26) ?_
                refine XT.iconstV X0.here hx rfl (0 : Int32) (hb hby d17_24) (by decide) ?_
                show Steps p.tables e below (s₁.setTop (mkF m 25 #[.val (.ref o0), .val (.ref o1), .val (.int (5 : Int32))] [(.int (0 : Int32))])) _
                exact retN X0 hx (t := .boolean) Bd.returns (by simp) (hb hby d17_25) hr
              · skip
                show Qle6 Z o0 o1 w10_c w11_c w12_c w13_c w14_c w15_c kA w20_c w21_c w22_c w23_c w24_c w25_c kB h0 n0 _ s₁.heap _
                rw [e0]
                exact ⟨N0, (by rw [show (fle6 w10_c w11_c w12_c w13_c w14_c w15_c w20_c w21_c w22_c w23_c w24_c w25_c) = (0 : Int32) from ((((((if_pos c6).trans (if_pos c10)).trans (if_pos c14)).trans (if_pos c18)).trans (if_pos c22)).trans (if_neg c26))]), rfl⟩
          · skip
            obtain ⟨fs, hr, hrun, hended, hW, hsame⟩ := X0.leave (v := some (.int (0 : Int32))) (fun h => by rw [Bd.returns] at h; cases h) hlk
            refine ⟨_, _, pre21 _ ?_, hrun, hended, _, _, rfl, ?_, ⟨_, rfl⟩, hW, hsame.mono (by decide) (by decide)⟩
            · skip
              show Steps p.tables e below (s₁.setTop (mkF m 21 #[.val (.ref o0), .val (.ref o1), .val (.int (4 : Int32))] [(.int w24_c), (.int w14_c)])) _
              refine XS.icmpNo X0.here hx rfl (hb hby d17_21) rfl (XT.ii_eq_f c22) ?_
              refine XT.iconstV X0.here hx rfl (0 : Int32) (hb hby d17_24) (by decide) ?_
              show Steps p.tables e below (s₁.setTop (mkF m 25 #[.val (.ref o0), .val (.ref o1), .val (.int (4 : Int32))] [(.int (0 : Int32))])) _
              exact retN X0 hx (t := .boolean) Bd.returns (by simp) (hb hby d17_25) hr
            · skip
              show Qle6 Z o0 o1 w10_c w11_c w12_c w13_c w14_c w15_c kA w20_c w21_c w22_c w23_c w24_c w25_c kB h0 n0 _ s₁.heap _
              rw [e0]
              exact ⟨N0, (by rw [show (fle6 w10_c w11_c w12_c w13_c w14_c w15_c w20_c w21_c w22_c w23_c w24_c w25_c) = (0 : Int32) from (((((if_pos c6).trans (if_pos c10)).trans (if_pos c14)).trans (if_pos c18)).trans (if_neg c22))]), rfl⟩
        · skip
          obtain ⟨fs, hr, hrun, hended, hW, hsame⟩ := X0.leave (v := some (.int (0 : Int32))) (fun h => by rw [Bd.returns] at h; cases h) hlk
          refine ⟨_, _, pre17 _ ?_, hrun, hended, _, _, rfl, ?_, ⟨_, rfl⟩, hW, hsame.mono (by decide) (by decide)⟩
          · skip
            show Steps p.tables e below (s₁.setTop (mkF m 21 #[.val (.ref o0), .val (.ref o1), .val (.int (3 : Int32))] [(.int w23_c), (.int w13_c)])) _
            refine XS.icmpNo X0.here hx rfl (hb hby d17_21) rfl (XT.ii_eq_f c18) ?_
            refine XT.iconstV X0.here hx rfl (0 : Int32) (hb hby d17_24) (by decide) ?_
            show Steps p.tables e below (s₁.setTop (mkF m 25 #[.val (.ref o0), .val (.ref o1), .val (.int (3 : Int32))] [(.int (0 : Int32))])) _
            exact retN X0 hx (t := .boolean) Bd.returns (by simp) (hb hby d17_25) hr
          · skip
            show Qle6 Z o0 o1 w10_c w11_c w12_c w13_c w14_c w15_c kA w20_c w21_c w22_c w23_c w24_c w25_c kB h0 n0 _ s₁.heap _
            rw [e0]
            exact ⟨N0, (by rw [show (fle6 w10_c w11_c w12_c w13_c w14_c w15_c w20_c w21_c w22_c w23_c w24_c w25_c) = (0 : Int32) from ((((if_pos c6).trans (if_pos c10)).trans (if_pos c14)).trans (if_neg c18))]), rfl⟩
      · skip
        obtain ⟨fs, hr, hrun, hended, hW, hsame⟩ := X0.leave (v := some (.int (0 : Int32))) (fun h => by rw [Bd.returns] at h; cases h) hlk
        refine ⟨_, _, pre13 _ ?_, hrun, hended, _, _, rfl, ?_, ⟨_, rfl⟩, hW, hsame.mono (by decide) (by decide)⟩
        · skip
          show Steps p.tables e below (s₁.setTop (mkF m 21 #[.val (.ref o0), .val (.ref o1), .val (.int (2 : Int32))] [(.int w22_c), (.int w12_c)])) _
          refine XS.icmpNo X0.here hx rfl (hb hby d17_21) rfl (XT.ii_eq_f c14) ?_
          refine XT.iconstV X0.here hx rfl (0 : Int32) (hb hby d17_24) (by decide) ?_
          show Steps p.tables e below (s₁.setTop (mkF m 25 #[.val (.ref o0), .val (.ref o1), .val (.int (2 : Int32))] [(.int (0 : Int32))])) _
          exact retN X0 hx (t := .boolean) Bd.returns (by simp) (hb hby d17_25) hr
        · skip
          show Qle6 Z o0 o1 w10_c w11_c w12_c w13_c w14_c w15_c kA w20_c w21_c w22_c w23_c w24_c w25_c kB h0 n0 _ s₁.heap _
          rw [e0]
          exact ⟨N0, (by rw [show (fle6 w10_c w11_c w12_c w13_c w14_c w15_c w20_c w21_c w22_c w23_c w24_c w25_c) = (0 : Int32) from (((if_pos c6).trans (if_pos c10)).trans (if_neg c14))]), rfl⟩
    · skip
      obtain ⟨fs, hr, hrun, hended, hW, hsame⟩ := X0.leave (v := some (.int (0 : Int32))) (fun h => by rw [Bd.returns] at h; cases h) hlk
      refine ⟨_, _, pre9 _ ?_, hrun, hended, _, _, rfl, ?_, ⟨_, rfl⟩, hW, hsame.mono (by decide) (by decide)⟩
      · skip
        show Steps p.tables e below (s₁.setTop (mkF m 21 #[.val (.ref o0), .val (.ref o1), .val (.int (1 : Int32))] [(.int w21_c), (.int w11_c)])) _
        refine XS.icmpNo X0.here hx rfl (hb hby d17_21) rfl (XT.ii_eq_f c10) ?_
        refine XT.iconstV X0.here hx rfl (0 : Int32) (hb hby d17_24) (by decide) ?_
        show Steps p.tables e below (s₁.setTop (mkF m 25 #[.val (.ref o0), .val (.ref o1), .val (.int (1 : Int32))] [(.int (0 : Int32))])) _
        exact retN X0 hx (t := .boolean) Bd.returns (by simp) (hb hby d17_25) hr
      · skip
        show Qle6 Z o0 o1 w10_c w11_c w12_c w13_c w14_c w15_c kA w20_c w21_c w22_c w23_c w24_c w25_c kB h0 n0 _ s₁.heap _
        rw [e0]
        exact ⟨N0, (by rw [show (fle6 w10_c w11_c w12_c w13_c w14_c w15_c w20_c w21_c w22_c w23_c w24_c w25_c) = (0 : Int32) from ((if_pos c6).trans (if_neg c10))]), rfl⟩
  · skip
    obtain ⟨fs, hr, hrun, hended, hW, hsame⟩ := X0.leave (v := some (.int (0 : Int32))) (fun h => by rw [Bd.returns] at h; cases h) hlk
    refine ⟨_, _, pre5 _ ?_, hrun, hended, _, _, rfl, ?_, ⟨_, rfl⟩, hW, hsame.mono (by decide) (by decide)⟩
    · skip
      show Steps p.tables e below (s₁.setTop (mkF m 21 #[.val (.ref o0), .val (.ref o1), .val (.int (0 : Int32))] [(.int w20_c), (.int w10_c)])) _
      refine XS.icmpNo X0.here hx rfl (hb hby d17_21) rfl (XT.ii_eq_f c6) ?_
      refine XT.iconstV X0.here hx rfl (0 : Int32) (hb hby d17_24) (by decide) ?_
      show Steps p.tables e below (s₁.setTop (mkF m 25 #[.val (.ref o0), .val (.ref o1), .val (.int (0 : Int32))] [(.int (0 : Int32))])) _
      exact retN X0 hx (t := .boolean) Bd.returns (by simp) (hb hby d17_25) hr
    · skip
      show Qle6 Z o0 o1 w10_c w11_c w12_c w13_c w14_c w15_c kA w20_c w21_c w22_c w23_c w24_c w25_c kB h0 n0 _ s₁.heap _
      rw [e0]
      exact ⟨N0, (by rw [show (fle6 w10_c w11_c w12_c w13_c w14_c w15_c w20_c w21_c w22_c w23_c w24_c w25_c) = (0 : Int32) from (if_neg c6)]), rfl⟩
theorem ef_sq6 (m : MethodId) (o0 : Addr) (o1 : Addr) : entryFrame m #[(.ref o0), (.ref o1)] 3 = mkF m 0 #[.val (.ref o0), .val (.ref o1), .unset] [] := by first | (simp [entryFrame, mkF, argsToLocals, Value.category]; done) | rfl
def vsq6_1 (w10_c : Int32) (w11_c : Int32) (w12_c : Int32) (w13_c : Int32) (w14_c : Int32) (w15_c : Int32) (w20_c : Int32) (w21_c : Int32) (w22_c : Int32) (w23_c : Int32) (w24_c : Int32) (w25_c : Int32) (w0 : Int32) : Int32 := (fle6 w10_c w11_c w12_c w13_c w14_c w15_c w20_c w21_c w22_c w23_c w24_c w25_c)
def vsq6_2 (w10_c : Int32) (w11_c : Int32) (w12_c : Int32) (w13_c : Int32) (w14_c : Int32) (w15_c : Int32) (w20_c : Int32) (w21_c : Int32) (w22_c : Int32) (w23_c : Int32) (w24_c : Int32) (w25_c : Int32) (w0 : Int32) : Int32 := (if (vsq6_1 w10_c w11_c w12_c w13_c w14_c w15_c w20_c w21_c w22_c w23_c w24_c w25_c w0) = (0 : Int32) then (0 : Int32) else (1 : Int32))
def fsq6 (w10_c : Int32) (w11_c : Int32) (w12_c : Int32) (w13_c : Int32) (w14_c : Int32) (w15_c : Int32) (w20_c : Int32) (w21_c : Int32) (w22_c : Int32) (w23_c : Int32) (w24_c : Int32) (w25_c : Int32) (w0 : Int32) : Int32 := (nar .boolean (vsq6_2 w10_c w11_c w12_c w13_c w14_c w15_c w20_c w21_c w22_c w23_c w24_c w25_c w0))
def Qsq6 (Z : State) (o0 : Addr) (o1 : Addr) (w1_v : Addr) (w10_c : Int32) (w11_c : Int32) (w12_c : Int32) (w13_c : Int32) (w14_c : Int32) (w15_c : Int32) (kA : ClassId) (w2_v : Addr) (w20_c : Int32) (w21_c : Int32) (w22_c : Int32) (w23_c : Int32) (w24_c : Int32) (w25_c : Int32) (kB : ClassId) (w0 : Int32) (h0 : Heap) (n0 : Nat) (v : Option Value) (h : Heap) (L : List Loc) : Prop := Fr n0 L ∧ v = some (.int (fsq6 w10_c w11_c w12_c w13_c w14_c w15_c w20_c w21_c w22_c w23_c w24_c w25_c w0)) ∧ h = h0
set_option maxRecDepth 65536 in
set_option maxHeartbeats 40000000 in
theorem rmsq6 (l : Launch) (Z : State) (a0 : Array Value) (hw : ∀ d ∈ tables_1, d.before a0 Z = true) (ws : List Jvm.Cond) (o0 : Addr) (o1 : Addr) (w1_v : Addr) (w10_c : Int32) (w11_c : Int32) (w12_c : Int32) (w13_c : Int32) (w14_c : Int32) (w15_c : Int32) (kA : ClassId) (w2_v : Addr) (w20_c : Int32) (w21_c : Int32) (w22_c : Int32) (w23_c : Int32) (w24_c : Int32) (w25_c : Int32) (kB : ClassId) (w0 : Int32) (h0 : Heap) (n0 : Nat) (Z0 : n0 ≤ h0.size) (E_o0 : Exa Z h0 o0 "java/lang/String") (F_coder_o0 : Fld Z h0 o0 "java/lang/String" "coder" "B" (.int (0 : Int32))) (F_value_o0 : Fld Z h0 o0 "java/lang/String" "value" "[B" (.ref w1_v)) (V_w1_v : Arv Z h0 w1_v kA .byte (6 : Int32) [(.int w10_c), (.int w11_c), (.int w12_c), (.int w13_c), (.int w14_c), (.int w15_c)] (.int (0 : Int32))) (E_o1 : Exa Z h0 o1 "java/lang/String") (F_coder_o1 : Fld Z h0 o1 "java/lang/String" "coder" "B" (.int (0 : Int32))) (F_value_o1 : Fld Z h0 o1 "java/lang/String" "value" "[B" (.ref w2_v)) (V_w2_v : Arv Z h0 w2_v kB .byte (6 : Int32) [(.int w20_c), (.int w21_c), (.int w22_c), (.int w23_c), (.int w24_c), (.int w25_c)] (.int (0 : Int32))) (ne_o0_o1 : o0 ≠ o1) (S_String_COMPACT_STRINGS : Sta Z h0 "java/lang/String" "COMPACT_STRINGS" "Z" (.int w0)) (hcs : ¬ (w0 = (0 : Int32))) :
    MetFree l (⟨"java/lang/String", "equals", "(Ljava/lang/Object;)Z"⟩ : MethodName) (head1 (Jvm.Cond.code (⟨"java/lang/String", "equals", "(Ljava/lang/Object;)Z"⟩ : MethodName) jdk_42_method_66_code 3 (some .boolean) :: ws) ({ frames := 1, cells := 0, slots := 0, locals := 14 } : Room)) (fun a U => a = #[(.ref o0), (.ref o1)] ∧ Z.Warmed39 U.vm ∧ U.heap = h0) (fun _ _ _ _ _ => True) (fun _ U o U' => ∃ v L, o = .returned v ∧ Qsq6 Z o0 o1 w1_v w10_c w11_c w12_c w13_c w14_c w15_c kA w2_v w20_c w21_c w22_c w23_c w24_c w25_c kB w0 h0 n0 v U'.heap L ∧ FrameEnd U o U' L ({ frames := 1, cells := 0, slots := 0, locals := 14 } : Room).cells ({ frames := 1, cells := 0, slots := 0, locals := 14 } : Room).slots) := by
  refine MetFree.of_bodySF (plainFor_of_name pn_java_lang_String) hisR ?_
  intro p e s m args below meth c s₁ Bd hml0 hP hK
  obtain ⟨rfl, hZ, hh⟩ := hP
  have hx := Bd.exec
  have hby := Bd.bytes
  have hml : c.maxLocals = 3 := hml0
  have hown : s.vm.findClass "java/lang/String" = some m.cls := findClass_of_methodNamed Bd.named
  have hnm := (name_of_methodNamed Bd.named Bd.method).1
  have hlk := BodyLoose.notSynchronized Bd
  have X0 : Stand p l e ({ frames := 1, cells := 0, slots := 0, locals := 14 } : Room) s m #[(.ref o0), (.ref o1)] below meth c s₁ [] 0 0 := Stand.of_body Bd
  have e0 : s₁.heap = h0 := by rw [← hh, Bd.state]; rfl
  have N0 := Fr.nil n0
  have pre0 : ∀ t, Steps p.tables e below (s₁.setTop (mkF m 0 #[.val (.ref o0), .val (.ref o1), .unset] [])) t → Steps p.tables e below (s₁.setTop (entryFrame m #[(.ref o0), (.ref o1)] 3)) t := fun t k => castTop (ef_sq6 m o0 o1) k
  obtain ⟨T1, X1, e1, st1⟩ := instY X0 hx hZ hown (wd hw 78 rfl) e0 (Ins.self E_o1) (g := (mkF m 8 #[.val (.ref o0), .val (.ref o1), .unset] [(.ref o1)])) rfl rfl (hb hby d16_8)
  obtain ⟨T2, X2, e2, st2⟩ := castY X1 hx hZ hown (wd hw 78 rfl) e1 (Ins.self E_o1) (g := (mkF m 15 #[.val (.ref o0), .val (.ref o1), .unset] [(.ref o1)])) rfl rfl (hb hby d16_15)
  obtain ⟨T3, X3, e3, st3⟩ := getS2 X2 hx hZ hown (host := "") (Or.inl (wd hw 28 rfl)) Via.refl e2 S_String_COMPACT_STRINGS (g := (mkF m 19 #[.val (.ref o0), .val (.ref o1), .val (.ref o1)] [])) rfl (hb hby d16_19)
  obtain ⟨T4, X4, e4, st4⟩ := getF X3 hx hZ hown (host := "") (Or.inl (wd hw 29 rfl)) Via.refl e3 F_coder_o0 (g := (mkF m 26 #[.val (.ref o0), .val (.ref o1), .val (.ref o1)] [(.ref o0)])) rfl rfl (hb hby d16_26)
  obtain ⟨T5, X5, e5, st5⟩ := getF X4 hx hZ hown (host := "") (Or.inl (wd hw 29 rfl)) Via.refl e4 F_coder_o1 (g := (mkF m 30 #[.val (.ref o0), .val (.ref o1), .val (.ref o1)] [(.ref o1), (.int (0 : Int32))])) rfl rfl (hb hby d16_30)
  obtain ⟨T6, X6, e6, st6⟩ := getF X5 hx hZ hown (host := "") (Or.inl (wd hw 22 rfl)) Via.refl e5 F_value_o0 (g := (mkF m 37 #[.val (.ref o0), .val (.ref o1), .val (.ref o1)] [(.ref o0)])) rfl rfl (hb hby d16_37)
  obtain ⟨T7, X7, e7, st7⟩ := getF X6 hx hZ hown (host := "") (Or.inl (wd hw 22 rfl)) Via.refl e6 F_value_o1 (g := (mkF m 41 #[.val (.ref o0), .val (.ref o1), .val (.ref o1)] [(.ref o1), (.ref w1_v)])) rfl rfl (hb hby d16_41)
  obtain ⟨vr8, _, ⟨T8, L8, k8, n8⟩, -, X8, ⟨Lc8, hQ8, l8, y8, z8⟩, st8⟩ := Jvm.LawKit.callS X7 hx (y := (⟨"java/lang/StringLatin1", "equals", "([B[B)Z"⟩ : MethodName)) hown (mvT hZ (wd hw 79 rfl)) (mvT hZ (wd hw 80 rfl)) (mvT hZ (wd hw 42 rfl)) (mvT hZ (wd hw 81 rfl)) (by decide) (backOf (W := 0) (rmle6 l Z a0 hw [] w1_v w2_v w10_c w11_c w12_c w13_c w14_c w15_c kA w20_c w21_c w22_c w23_c w24_c w25_c kB h0 n0 Z0 V_w1_v V_w2_v) hZ (wd hw 81 rfl) (wd hw 42 rfl) (by decide) (by decide)) (g := (mkF m 44 #[.val (.ref o0), .val (.ref o1), .val (.ref o1)] [(.ref w2_v), (.ref w1_v)])) rfl (by rw [hml]; rfl) (argsL := [(.ref w1_v), (.ref w2_v)]) (rest := []) (lenOf pd___B_B_Z rfl) rfl (by show 2 * 0 + _ ≤ _; exact Nat.le_of_eq rfl) (hb hby d16_44) (fun _ _ => ⟨rfl, e7, (by decide : 0 + 0 ≤ _), (by decide : 0 + 0 ≤ _)⟩)
  dsimp only [Pt.U, Pt.locs, Pt.cells, Pt.slots] at X8 l8 y8 z8 st8 hQ8
  replace X8 := own_stand X8 l8 y8 z8
  clear l8 y8 z8
  have N8q := (show _ ∧ _ ∧ _ from hQ8).1
  have hv8 := (show _ ∧ _ ∧ _ from hQ8).2.1
  have e8 := (show _ ∧ _ ∧ _ from hQ8).2.2
  clear hQ8
  subst hv8
  have N8 := Fr.app N0 N8q
  have pre9 : ∀ t, Steps p.tables e below (T8.setTop (mkF m 47 #[.val (.ref o0), .val (.ref o1), .val (.ref o1)] [(.int (fle6 w10_c w11_c w12_c w13_c w14_c w15_c w20_c w21_c w22_c w23_c w24_c w25_c))])) t → Steps p.tables e below (s₁.setTop (entryFrame m #[(.ref o0), (.ref o1)] 3)) t := by
    intro t k
    refine pre0 t ?_
    show Steps p.tables e below (s₁.setTop (mkF m 0 #[.val (.ref o0), .val (.ref o1), .unset] [])) _
    refine XS.aloadN X0.here hx rfl (hb hby d16_0) rfl rfl ?_
    refine XS.aloadN X0.here hx rfl (hb hby d16_1) rfl rfl ?_
    show Steps p.tables e below (s₁.setTop (mkF m 2 #[.val (.ref o0), .val (.ref o1), .unset] [(.ref o1), (.ref o0)])) _
    refine XT.acmpYes X0.here hx rfl (pc0 := 2) (pc' := 7) rfl (hb hby d16_2) rfl rfl rfl (XT.aa_ne_t (fun q => ne_o0_o1 (Value.ref.inj q))) (by decide) (by decide) ?_
    refine XS.aloadN X0.here hx rfl (hb hby d16_7) rfl rfl ?_
    show Steps p.tables e below (s₁.setTop (mkF m 8 #[.val (.ref o0), .val (.ref o1), .unset] [(.ref o1)])) _
    refine st1 _ ?_
    show Steps p.tables e below (T1.setTop (mkF m 11 #[.val (.ref o0), .val (.ref o1), .unset] [(.int (1 : Int32))])) _
    refine XS.ifNo X1.here hx rfl (hb hby d16_11) rfl (XT.i0_eq_f (by decide)) ?_
    refine XS.aloadN X1.here hx rfl (hb hby d16_14) rfl rfl ?_
    show Steps p.tables e below (T1.setTop (mkF m 15 #[.val (.ref o0), .val (.ref o1), .unset] [(.ref o1)])) _
    refine st2 _ ?_
    refine XS.astoreN X2.here hx rfl (hb hby d16_18) rfl rfl (l' := #[.val (.ref o0), .val (.ref o1), .val (.ref o1)]) rfl ?_
    show Steps p.tables e below (T2.setTop (mkF m 19 #[.val (.ref o0), .val (.ref o1), .val (.ref o1)] [])) _
    refine st3 _ ?_
    show Steps p.tables e below (T3.setTop (mkF m 22 #[.val (.ref o0), .val (.ref o1), .val (.ref o1)] [(.int w0)])) _
    refine XS.ifNo X3.here hx rfl (hb hby d16_22) rfl (XT.i0_eq_f hcs) ?_
    refine XS.aloadN X3.here hx rfl (hb hby d16_25) rfl rfl ?_
    show Steps p.tables e below (T3.setTop (mkF m 26 #[.val (.ref o0), .val (.ref o1), .val (.ref o1)] [(.ref o0)])) _
    refine st4 _ ?_
    refine XS.aloadN X4.here hx rfl (hb hby d16_29) rfl rfl ?_
    show Steps p.tables e below (T4.setTop (mkF m 30 #[.val (.ref o0), .val (.ref o1), .val (.ref o1)] [(.ref o1), (.int (0 : Int32))])) _
    refine st5 _ ?_
    show Steps p.tables e below (T5.setTop (mkF m 33 #[.val (.ref o0), .val (.ref o1), .val (.ref o1)] [(.int (0 : Int32)), (.int (0 : Int32))])) _
    refine XS.icmpNo X5.here hx rfl (hb hby d16_33) rfl (XT.ii_ne_f (by decide)) ?_
    refine XS.aloadN X5.here hx rfl (hb hby d16_36) rfl rfl ?_
    show Steps p.tables e below (T5.setTop (mkF m 37 #[.val (.ref o0), .val (.ref o1), .val (.ref o1)] [(.ref o0)])) _
    refine st6 _ ?_
    refine XS.aloadN X6.here hx rfl (hb hby d16_40) rfl rfl ?_
    show Steps p.tables e below (T6.setTop (mkF m 41 #[.val (.ref o0), .val (.ref o1), .val (.ref o1)] [(.ref o1), (.ref w1_v)])) _
    refine st7 _ ?_
    show Steps p.tables e below (T7.setTop (mkF m 44 #[.val (.ref o0), .val (.ref o1), .val (.ref o1)] [(.ref w2_v), (.ref w1_v)])) _
    refine st8 _ ?_
    exact k
  clear pre0 st1 st2 st3 st4 st5 st6 st7 st8
  have pre11 : ∀ t, Steps p.tables e below (T8.setTop (mkF m 55 #[.val (.ref o0), .val (.ref o1), .val (.ref o1)] [(.int (vsq6_2 w10_c w11_c w12_c w13_c w14_c w15_c w20_c w21_c w22_c w23_c w24_c w25_c w0))])) t → Steps p.tables e below (s₁.setTop (entryFrame m #[(.ref o0), (.ref o1)] 3)) t := by
    intro t k
    by_cases c10 : (vsq6_1 w10_c w11_c w12_c w13_c w14_c w15_c w20_c w21_c w22_c w23_c w24_c w25_c w0) = (0 : Int32)
    · skip
      rw [show (vsq6_2 w10_c w11_c w12_c w13_c w14_c w15_c w20_c w21_c w22_c w23_c w24_c w25_c w0) = (0 : Int32) from (if_pos c10)] at k
      refine pre9 t ?_
      show Steps p.tables e below (T8.setTop (mkF m 47 #[.val (.ref o0), .val (.ref o1), .val (.ref o1)] [(.int (fle6 w10_c w11_c w12_c w13_c w14_c w15_c w20_c w21_c w22_c w23_c w24_c w25_c))])) _
      refine XS.ifYes X8.here hx rfl (pc0 := 47) (pc' := 54) rfl (hb hby d16_47) rfl (XT.i0_eq_t c10) (by decide) (by decide) ?_
      refine XT.iconstV X8.here hx rfl (0 : Int32) (hb hby d16_54) (by decide) ?_
      exact k
    · skip
      rw [show (vsq6_2 w10_c w11_c w12_c w13_c w14_c w15_c w20_c w21_c w22_c w23_c w24_c w25_c w0) = (1 : Int32) from (if_neg c10)] at k
      refine pre9 t ?_
      show Steps p.tables e below (T8.setTop (mkF m 47 #[.val (.ref o0), .val (.ref o1), .val (.ref o1)] [(.int (fle6 w10_c w11_c w12_c w13_c w14_c w15_c w20_c w21_c w22_c w23_c w24_c w25_c))])) _
      refine XS.ifNo X8.here hx rfl (hb hby d16_47) rfl (XT.i0_eq_f c10) ?_
      refine XT.iconstV X8.here hx rfl (1 : Int32) (hb hby d16_50) (by decide) ?_
      show Steps p.tables e below (T8.setTop (mkF m 51 #[.val (.ref o0), .val (.ref o1), .val (.ref o1)] [(.int (1 : Int32))])) _
      refine XS.goto X8.here hx rfl (pc0 := 51) (pc' := 55) rfl (hb hby d16_51) (by decide) (by decide) ?_
      exact k
  obtain ⟨fs, hr, hrun, hended, hW, hsame⟩ := X8.leave (v := some (.int (nar .boolean (vsq6_2 w10_c w11_c w12_c w13_c w14_c w15_c w20_c w21_c w22_c w23_c w24_c w25_c w0)))) (fun h => by rw [Bd.returns] at h; cases h) hlk
  refine ⟨_, _, pre11 _ ?_, hrun, hended, _, _, rfl, ?_, ⟨_, rfl⟩, hW, hsame.mono (by decide) (by decide)⟩
  · skip
    show Steps p.tables e below (T8.setTop (mkF m 55 #[.val (.ref o0), .val (.ref o1), .val (.ref o1)] [(.int (vsq6_2 w10_c w11_c w12_c w13_c w14_c w15_c w20_c w21_c w22_c w23_c w24_c w25_c w0))])) _
    exact retN X8 hx (t := .boolean) Bd.returns (by simp) (hb hby d16_55) hr
  · skip
    show Qsq6 Z o0 o1 w1_v w10_c w11_c w12_c w13_c w14_c w15_c kA w2_v w20_c w21_c w22_c w23_c w24_c w25_c kB w0 h0 n0 _ T8.heap _
    rw [e8]
    exact ⟨N8, rfl, rfl⟩
theorem d19_0 : decode prog_30_method_1_code 0 = .ok (.getstatic 10, 3) := by decide +kernel
theorem d19_3 : decode prog_30_method_1_code 3 = .ok (.invokevirtual 14, 3) := by decide +kernel
theorem d19_6 : decode prog_30_method_1_code 6 = .ok (.checkcast 15, 3) := by decide +kernel
theorem d19_9 : decode prog_30_method_1_code 9 = .ok (.areturn, 1) := by decide +kernel
theorem pn_com_example_vellum_index_vellumindex_Stemmer : plainName "com/example/vellum_index/vellumindex/Stemmer" = true := by first | (simp [plainName, overriddenIn]; done) | decide +kernel
theorem ef_19 (m : MethodId) : entryFrame m #[] 0 = mkF m 0 #[] [] := by first | (simp [entryFrame, mkF, argsToLocals, Value.category]; done) | rfl
def Q19 (Z : State) (w2_V : Addr) (w3_N : Addr) (w4_P : Addr) (kV : ClassId) (h0 : Heap) (n0 : Nat) (v : Option Value) (h : Heap) (L : List Loc) : Prop := Fr n0 L ∧ ∃ (x19_0 : Addr), v = some (.ref x19_0) ∧ h0.size ≤ x19_0 ∧ Keep h0 h [] ∧ Exa Z h x19_0 "[Lcom/example/vellum_index/vellumindex/Stemmer;" ∧ Arv Z h x19_0 kV (.object "com/example/vellum_index/vellumindex/Stemmer") (2 : Int32) [(.ref w3_N), (.ref w4_P)] .null
set_option maxRecDepth 65536 in
set_option maxHeartbeats 40000000 in
theorem rm19 (l : Launch) (Z : State) (a0 : Array Value) (hw : ∀ d ∈ tables_1, d.before a0 Z = true) (ws : List Jvm.Cond) (w2_V : Addr) (w3_N : Addr) (w4_P : Addr) (kV : ClassId) (h0 : Heap) (n0 : Nat) (Z0 : n0 ≤ h0.size) (S_Stemmer__VALUES : Sta Z h0 "com/example/vellum_index/vellumindex/Stemmer" "$VALUES" "[Lcom/example/vellum_index/vellumindex/Stemmer;" (.ref w2_V)) (V_w2_V : Arv Z h0 w2_V kV (.object "com/example/vellum_index/vellumindex/Stemmer") (2 : Int32) [(.ref w3_N), (.ref w4_P)] .null) (E_w2_V : Exa Z h0 w2_V "[Lcom/example/vellum_index/vellumindex/Stemmer;") :
    MetFree l (⟨"com/example/vellum_index/vellumindex/Stemmer", "values", "()[Lcom/example/vellum_index/vellumindex/Stemmer;"⟩ : MethodName) (head1 (Jvm.Cond.code (⟨"com/example/vellum_index/vellumindex/Stemmer", "values", "()[Lcom/example/vellum_index/vellumindex/Stemmer;"⟩ : MethodName) prog_30_method_1_code 0 (some (.array (.object "com/example/vellum_index/vellumindex/Stemmer"))) :: ws) ({ frames := 1, cells := 1, slots := 2, locals := 14 } : Room)) (fun a U => a = #[] ∧ Z.Warmed39 U.vm ∧ U.heap = h0) (fun _ _ _ _ _ => True) (fun _ U o U' => ∃ v L, o = .returned v ∧ Q19 Z w2_V w3_N w4_P kV h0 n0 v U'.heap L ∧ FrameEnd U o U' L ({ frames := 1, cells := 1, slots := 2, locals := 14 } : Room).cells ({ frames := 1, cells := 1, slots := 2, locals := 14 } : Room).slots) := by
  refine MetFree.of_bodySF (plainFor_of_name pn_com_example_vellum_index_vellumindex_Stemmer) hisR ?_
  intro p e s m args below meth c s₁ Bd hml0 hP hK
  obtain ⟨rfl, hZ, hh⟩ := hP
  have hx := Bd.exec
  have hby := Bd.bytes
  have hml : c.maxLocals = 0 := hml0
  have hown : s.vm.findClass "com/example/vellum_index/vellumindex/Stemmer" = some m.cls := findClass_of_methodNamed Bd.named
  have hnm := (name_of_methodNamed Bd.named Bd.method).1
  have hlk := BodyLoose.notSynchronized Bd
  have X0 : Stand p l e ({ frames := 1, cells := 1, slots := 2, locals := 14 } : Room) s m #[] below meth c s₁ [] 0 0 := Stand.of_body Bd
  have e0 : s₁.heap = h0 := by rw [← hh, Bd.state]; rfl
  have N0 := Fr.nil n0
  have pre0 : ∀ t, Steps p.tables e below (s₁.setTop (mkF m 0 #[] [])) t → Steps p.tables e below (s₁.setTop (entryFrame m #[] 0)) t := fun t k => castTop (ef_19 m) k
  obtain ⟨T1, X1, e1, st1⟩ := getS2 X0 hx hZ hown (host := "") (Or.inl (wd hw 90 rfl)) Via.refl e0 S_Stemmer__VALUES (g := (mkF m 0 #[] [])) rfl (hb hby d19_0)
  obtain ⟨T2, h2, X2, e2, E2, V2r, EA2, st2⟩ := cloneH X1 hx hZ hown (wd hw 92 rfl) (wd hw 93 rfl) (wd hw 97 rfl) (wd hw 95 rfl) (wd hw 96 rfl) (wd hw 98 rfl) e1 (Arv.arh V_w2_V) E_w2_V (g := (mkF m 3 #[] [(.ref w2_V)])) rfl (by rw [hml]; rfl) rfl (hb hby d19_3) (by decide) (W := 0) (cap := 2) (by show 2 * 0 + _ ≤ _; exact Nat.le_of_eq rfl) (by decide) (by decide) (by decide) (by decide)
  obtain ⟨b2, gz2⟩ : ∃ z, z = h0.size := ⟨_, rfl⟩
  rw [← gz2] at V2r EA2 st2
  have ne3 : w2_V ≠ b2 := Nat.ne_of_lt (Nat.lt_of_lt_of_le E_w2_V.lt (Nat.le_of_eq gz2.symm))
  have g4 : n0 ≤ b2 := Nat.le_trans Z0 (Nat.le_of_eq gz2.symm)
  have sz5 : h0.size ≤ b2 := Nat.le_trans (Nat.le_refl h0.size) (Nat.le_of_eq gz2.symm)
  have z6 : n0 ≤ h2.size := Nat.le_trans Z0 E2.1
  have hs7 : h0.size ≤ h2.size := Nat.le_trans (Nat.le_refl h0.size) E2.1
  have V2 : Arv Z h2 b2 kV (.object "com/example/vellum_index/vellumindex/Stemmer") (2 : Int32) [(.ref w3_N), (.ref w4_P)] .null := V2r
  obtain ⟨T8, X8, e8, st8⟩ := castY X2 hx hZ hown (wd hw 100 rfl) e2 (Ins.self EA2) (g := (mkF m 6 #[] [(.ref b2)])) rfl rfl (hb hby d19_6)
  obtain ⟨fs, hr, hrun, hended, hW, hsame⟩ := X8.leave (v := some (.ref b2)) (fun h => by rw [Bd.returns] at h; cases h) hlk
  refine ⟨_, _, pre0 _ ?_, hrun, hended, _, _, rfl, ?_, ⟨_, rfl⟩, hW, hsame.mono (by decide) (by decide)⟩
  · skip
    show Steps p.tables e below (s₁.setTop (mkF m 0 #[] [])) _
    refine st1 _ ?_
    show Steps p.tables e below (T1.setTop (mkF m 3 #[] [(.ref w2_V)])) _
    refine st2 _ ?_
    show Steps p.tables e below (T2.setTop (mkF m 6 #[] [(.ref b2)])) _
    refine st8 _ ?_
    show Steps p.tables e below (T8.setTop (mkF m 9 #[] [(.ref b2)])) _
    exact X8.areturnOut hx rfl Bd.returns rfl (hb hby d19_9) hr
  · skip
    show Q19 Z w2_V w3_N w4_P kV h0 n0 _ T8.heap _
    rw [e8]
    exact ⟨N0, b2, rfl, sz5, ((Keep.refl h0 []).ext E2), EA2, V2⟩
theorem pd____Lcom_example_vellum_index_vellumindex_Stemmer_ : parseMethodDescriptor "()[Lcom/example/vellum_index/vellumindex/Stemmer;" = some ⟨[], some (.array (.object "com/example/vellum_index/vellumindex/Stemmer"))⟩ := by decide +kernel
theorem pd__Ljava_lang_Object__Z : parseMethodDescriptor "(Ljava/lang/Object;)Z" = some ⟨[(.object "java/lang/Object")], some .boolean⟩ := by decide +kernel
theorem d18_0 : decode prog_30_method_6_code 0 = .ok (.invokestatic 33, 3) := by decide +kernel
theorem d18_3 : decode prog_30_method_6_code 3 = .ok (.astore_n 1, 1) := by decide +kernel
theorem d18_4 : decode prog_30_method_6_code 4 = .ok (.aload_n 1, 1) := by decide +kernel
theorem d18_5 : decode prog_30_method_6_code 5 = .ok (.arraylength, 1) := by decide +kernel
theorem d18_6 : decode prog_30_method_6_code 6 = .ok (.istore_n 2, 1) := by decide +kernel
theorem d18_7 : decode prog_30_method_6_code 7 = .ok (.iconst 0, 1) := by decide +kernel
theorem d18_8 : decode prog_30_method_6_code 8 = .ok (.istore_n 3, 1) := by decide +kernel
theorem d18_9 : decode prog_30_method_6_code 9 = .ok (.iload_n 3, 1) := by decide +kernel
theorem d18_10 : decode prog_30_method_6_code 10 = .ok (.iload_n 2, 1) := by decide +kernel
theorem d18_11 : decode prog_30_method_6_code 11 = .ok (.if_icmp .ge 29, 3) := by decide +kernel
theorem d18_14 : decode prog_30_method_6_code 14 = .ok (.aload_n 1, 1) := by decide +kernel
theorem d18_15 : decode prog_30_method_6_code 15 = .ok (.iload_n 3, 1) := by decide +kernel
theorem d18_16 : decode prog_30_method_6_code 16 = .ok (.aaload, 1) := by decide +kernel
theorem d18_17 : decode prog_30_method_6_code 17 = .ok (.astore 4, 2) := by decide +kernel
theorem d18_19 : decode prog_30_method_6_code 19 = .ok (.aload 4, 2) := by decide +kernel
theorem d18_21 : decode prog_30_method_6_code 21 = .ok (.getfield 29, 3) := by decide +kernel
theorem d18_24 : decode prog_30_method_6_code 24 = .ok (.aload_n 0, 1) := by decide +kernel
theorem d18_25 : decode prog_30_method_6_code 25 = .ok (.invokevirtual 37, 3) := by decide +kernel
theorem d18_28 : decode prog_30_method_6_code 28 = .ok (.ifCond .eq 6, 3) := by decide +kernel
theorem d18_34 : decode prog_30_method_6_code 34 = .ok (.iinc 3 1, 3) := by decide +kernel
theorem d18_37 : decode prog_30_method_6_code 37 = .ok (.goto (-28), 3) := by decide +kernel
theorem d18_40 : decode prog_30_method_6_code 40 = .ok (.aconst_null, 1) := by decide +kernel
theorem d18_41 : decode prog_30_method_6_code 41 = .ok (.areturn, 1) := by decide +kernel
theorem ef_lbD (m : MethodId) (o0 : Addr) : entryFrame m #[(.ref o0)] 5 = mkF m 0 #[.val (.ref o0), .unset, .unset, .unset, .unset] [] := by first | (simp [entryFrame, mkF, argsToLocals, Value.category]; done) | rfl
def vlbD_1 (w30_z : Int32) (w0 : Int32) : Int32 := (fsqD (4 : Int32) w30_z w0)
def vlbD_2 (w30_z : Int32) (w0 : Int32) : Int32 := (fsqD (6 : Int32) w30_z w0)
def QlbD (Z : State) (o0 : Addr) (w2_V : Addr) (w3_N : Addr) (w4_P : Addr) (kV : ClassId) (w5_L : Addr) (w6_L : Addr) (w7_B : Addr) (kB0 : ClassId) (w8_B : Addr) (kB1 : ClassId) (w9_v : Addr) (w30_z : Int32) (w31_l : List Value) (kS : ClassId) (w0 : Int32) (h0 : Heap) (n0 : Nat) (v : Option Value) (h : Heap) (L : List Loc) : Prop := Fr n0 L ∧ v = some .null ∧ Keep h0 h []
set_option maxRecDepth 65536 in
set_option maxHeartbeats 40000000 in
theorem rmlbD (l : Launch) (Z : State) (a0 : Array Value) (hw : ∀ d ∈ tables_1, d.before a0 Z = true) (ws : List Jvm.Cond) (o0 : Addr) (w2_V : Addr) (w3_N : Addr) (w4_P : Addr) (kV : ClassId) (w5_L : Addr) (w6_L : Addr) (w7_B : Addr) (kB0 : ClassId) (w8_B : Addr) (kB1 : ClassId) (w9_v : Addr) (w30_z : Int32) (w31_l : List Value) (kS : ClassId) (w0 : Int32) (h0 : Heap) (n0 : Nat) (Z0 : n0 ≤ h0.size) (S_Stemmer__VALUES : Sta Z h0 "com/example/vellum_index/vellumindex/Stemmer" "$VALUES" "[Lcom/example/vellum_index/vellumindex/Stemmer;" (.ref w2_V)) (V_w2_V : Arv Z h0 w2_V kV (.object "com/example/vellum_index/vellumindex/Stemmer") (2 : Int32) [(.ref w3_N), (.ref w4_P)] .null) (E_w2_V : Exa Z h0 w2_V "[Lcom/example/vellum_index/vellumindex/Stemmer;") (E_w3_N : Exa Z h0 w3_N "com/example/vellum_index/vellumindex/Stemmer$1") (E_w4_P : Exa Z h0 w4_P "com/example/vellum_index/vellumindex/Stemmer$2") (F_label_w3_N : Fld Z h0 w3_N "com/example/vellum_index/vellumindex/Stemmer" "label" "Ljava/lang/String;" (.ref w5_L)) (F_label_w4_P : Fld Z h0 w4_P "com/example/vellum_index/vellumindex/Stemmer" "label" "Ljava/lang/String;" (.ref w6_L)) (E_w5_L : Exa Z h0 w5_L "java/lang/String") (F_coder_w5_L : Fld Z h0 w5_L "java/lang/String" "coder" "B" (.int (0 : Int32))) (F_value_w5_L : Fld Z h0 w5_L "java/lang/String" "value" "[B" (.ref w7_B)) (V_w7_B : Arv Z h0 w7_B kB0 .byte (4 : Int32) [(.int (110 : Int32)), (.int (111 : Int32)), (.int (110 : Int32)), (.int (101 : Int32))] (.int (0 : Int32))) (E_w6_L : Exa Z h0 w6_L "java/lang/String") (F_coder_w6_L : Fld Z h0 w6_L "java/lang/String" "coder" "B" (.int (0 : Int32))) (F_value_w6_L : Fld Z h0 w6_L "java/lang/String" "value" "[B" (.ref w8_B)) (V_w8_B : Arv Z h0 w8_B kB1 .byte (6 : Int32) [(.int (112 : Int32)), (.int (111 : Int32)), (.int (114 : Int32)), (.int (116 : Int32)), (.int (101 : Int32)), (.int (114 : Int32))] (.int (0 : Int32))) (E_o0 : Exa Z h0 o0 "java/lang/String") (F_coder_o0 : Fld Z h0 o0 "java/lang/String" "coder" "B" (.int (0 : Int32))) (F_value_o0 : Fld Z h0 o0 "java/lang/String" "value" "[B" (.ref w9_v)) (V_w9_v : Arv Z h0 w9_v kS .byte w30_z w31_l (.int (0 : Int32))) (ne_w5_L_o0 : w5_L ≠ o0) (ne_w6_L_o0 : w6_L ≠ o0) (S_String_COMPACT_STRINGS : Sta Z h0 "java/lang/String" "COMPACT_STRINGS" "Z" (.int w0)) (hcs : ¬ (w0 = (0 : Int32))) (hy1 : ¬ ((4 : Int32) = w30_z)) (hy2 : ¬ ((6 : Int32) = w30_z)) :
    MetFree l (⟨"com/example/vellum_index/vellumindex/Stemmer", "labelled", "(Ljava/lang/String;)Lcom/example/vellum_index/vellumindex/Stemmer;"⟩ : MethodName) (head1 (Jvm.Cond.code (⟨"com/example/vellum_index/vellumindex/Stemmer", "labelled", "(Ljava/lang/String;)Lcom/example/vellum_index/vellumindex/Stemmer;"⟩ : MethodName) prog_30_method_6_code 5 (some (.object "com/example/vellum_index/vellumindex/Stemmer")) :: ws) ({ frames := 2, cells := 1, slots := 2, locals := 28 } : Room)) (fun a U => a = #[(.ref o0)] ∧ Z.Warmed39 U.vm ∧ U.heap = h0) (fun _ _ _ _ _ => True) (fun _ U o U' => ∃ v L, o = .returned v ∧ QlbD Z o0 w2_V w3_N w4_P kV w5_L w6_L w7_B kB0 w8_B kB1 w9_v w30_z w31_l kS w0 h0 n0 v U'.heap L ∧ FrameEnd U o U' L ({ frames := 2, cells := 1, slots := 2, locals := 28 } : Room).cells ({ frames := 2, cells := 1, slots := 2, locals := 28 } : Room).slots) := by
  refine MetFree.of_bodySF (plainFor_of_name pn_com_example_vellum_index_vellumindex_Stemmer) hisR ?_
  intro p e s m args below meth c s₁ Bd hml0 hP hK
  obtain ⟨rfl, hZ, hh⟩ := hP
  have hx := Bd.exec
  have hby := Bd.bytes
  have hml : c.maxLocals = 5 := hml0
  have hown : s.vm.findClass "com/example/vellum_index/vellumindex/Stemmer" = some m.cls := findClass_of_methodNamed Bd.named
  have hnm := (name_of_methodNamed Bd.named Bd.method).1
  have hlk := BodyLoose.notSynchronized Bd
  have X0 : Stand p l e ({ frames := 2, cells := 1, slots := 2, locals := 28 } : Room) s m #[(.ref o0)] below meth c s₁ [] 0 0 := Stand.of_body Bd
  have e0 : s₁.heap = h0 := by rw [← hh, Bd.state]; rfl
  have N0 := Fr.nil n0
  have pre0 : ∀ t, Steps p.tables e below (s₁.setTop (mkF m 0 #[.val (.ref o0), .unset, .unset, .unset, .unset] [])) t → Steps p.tables e below (s₁.setTop (entryFrame m #[(.ref o0)] 5)) t := fun t k => castTop (ef_lbD m o0) k
  obtain ⟨vr1, _, ⟨T1, L1, k1, n1⟩, -, X1, ⟨Lc1, hQ1, l1, y1, z1⟩, st1⟩ := Jvm.LawKit.callS X0 hx (y := (⟨"com/example/vellum_index/vellumindex/Stemmer", "values", "()[Lcom/example/vellum_index/vellumindex/Stemmer;"⟩ : MethodName)) hown (mvT hZ (wd hw 87 rfl)) (mvT hZ (wd hw 88 rfl)) (mvT hZ (wd hw 85 rfl)) (mvT hZ (wd hw 89 rfl)) (by decide) (backOf (W := 0) (rm19 l Z a0 hw [] w2_V w3_N w4_P kV h0 n0 Z0 S_Stemmer__VALUES V_w2_V E_w2_V) hZ (wd hw 89 rfl) (wd hw 85 rfl) (by decide) (by decide)) (g := (mkF m 0 #[.val (.ref o0), .unset, .unset, .unset, .unset] [])) rfl (by rw [hml]; rfl) (argsL := []) (rest := []) (lenOf pd____Lcom_example_vellum_index_vellumindex_Stemmer_ rfl) rfl (by show 2 * 0 + _ ≤ _; exact Nat.le_of_eq rfl) (hb hby d18_0) (fun _ _ => ⟨rfl, e0, (by decide : 0 + 1 ≤ _), (by decide : 0 + 2 ≤ _)⟩)
  dsimp only [Pt.U, Pt.locs, Pt.cells, Pt.slots] at X1 l1 y1 z1 st1 hQ1
  replace X1 := own_stand X1 l1 y1 z1
  clear l1 y1 z1
  have N1q := (show _ ∧ _ from hQ1).1
  have hq1 := (show _ ∧ _ from hQ1).2
  clear hQ1
  obtain ⟨x19_0_1, hq1x⟩ := hq1
  have hv1 := hq1x.1
  have szx19_0_1 := hq1x.2.1
  have K1 := hq1x.2.2.1
  have po1_0 := hq1x.2.2.2.1
  have po1_1 := hq1x.2.2.2.2
  clear hq1x
  subst hv1
  have ne2 : w2_V ≠ x19_0_1 := Nat.ne_of_lt (Nat.lt_of_lt_of_le E_w2_V.lt szx19_0_1)
  have ne3 : w3_N ≠ x19_0_1 := Nat.ne_of_lt (Nat.lt_of_lt_of_le E_w3_N.lt szx19_0_1)
  have ne4 : w4_P ≠ x19_0_1 := Nat.ne_of_lt (Nat.lt_of_lt_of_le E_w4_P.lt szx19_0_1)
  have ne5 : w5_L ≠ x19_0_1 := Nat.ne_of_lt (Nat.lt_of_lt_of_le E_w5_L.lt szx19_0_1)
  have ne6 : w6_L ≠ x19_0_1 := Nat.ne_of_lt (Nat.lt_of_lt_of_le E_w6_L.lt szx19_0_1)
  have ne7 : o0 ≠ x19_0_1 := Nat.ne_of_lt (Nat.lt_of_lt_of_le E_o0.lt szx19_0_1)
  have ne8 : w7_B ≠ x19_0_1 := Nat.ne_of_lt (Nat.lt_of_lt_of_le V_w7_B.lt szx19_0_1)
  have ne9 : w8_B ≠ x19_0_1 := Nat.ne_of_lt (Nat.lt_of_lt_of_le V_w8_B.lt szx19_0_1)
  have ne10 : w9_v ≠ x19_0_1 := Nat.ne_of_lt (Nat.lt_of_lt_of_le V_w9_v.lt szx19_0_1)
  have g11 : n0 ≤ x19_0_1 := Nat.le_trans Z0 szx19_0_1
  have sz12 : h0.size ≤ x19_0_1 := Nat.le_trans (Nat.le_refl h0.size) szx19_0_1
  have z13 : n0 ≤ T1.heap.size := Nat.le_trans Z0 K1.1
  have hs14 : h0.size ≤ T1.heap.size := Nat.le_trans (Nat.le_refl h0.size) K1.1
  have N1 := Fr.app N0 N1q
  obtain ⟨cl15, Ar15, qc15, S15, M15, Ha15, G15⟩ := id po1_1
  have hin16 : ¬ ((0 : Int32) < 0 ∨ cl15.slots.size ≤ ((0 : Int32)).toNatClampNeg) := inb_of S15 ⟨by decide, by decide⟩
  have k17 := (F_label_w3_N.keep K1 nin0)
  obtain ⟨T18, X18, e18, st18⟩ := getF X1 hx hZ hown (host := "") (Or.inl (wd hw 102 rfl)) Via.refl rfl k17 (g := (mkF m 21 #[.val (.ref o0), .val (.ref x19_0_1), .val (.int (2 : Int32)), .val (.int (0 : Int32)), .val (.ref w3_N)] [(.ref w3_N)])) rfl rfl (hb hby d18_21)
  have k20 := (E_w5_L.keep K1)
  have k21 := (F_coder_w5_L.keep K1 nin0)
  have k22 := (F_value_w5_L.keep K1 nin0)
  have k23 := (V_w7_B.keep K1 nin0)
  have k24 := (E_o0.keep K1)
  have k25 := (F_coder_o0.keep K1 nin0)
  have k26 := (F_value_o0.keep K1 nin0)
  have k27 := (V_w9_v.keep K1 nin0)
  have k28 := (own_sta_keep0 S_String_COMPACT_STRINGS K1)
  obtain ⟨cq19, kq19, q19a, q19b, q19c⟩ := isOf hZ e18 k20
  obtain ⟨vr19, _, ⟨T19, L19, k19, n19⟩, -, X19, ⟨Lc19, hQ19, l19, y19, z19⟩, st19⟩ := Jvm.Stand.virtualBack X18 hx (y := (⟨"java/lang/String", "equals", "(Ljava/lang/Object;)Z"⟩ : MethodName)) (z := (⟨"java/lang/String", "equals", "(Ljava/lang/Object;)Z"⟩ : MethodName)) hown (mvT hZ (wd hw 104 rfl)) (mvT hZ (wd hw 74 rfl)) (notFace_of_selects (args := #[]) (mvT hZ (wd hw 76 rfl))) (mvT hZ (wd hw 76 rfl)) (mvT hZ (wd hw 75 rfl)) (by decide) (backOf (W := 0) (rmsqD l Z a0 hw [] w5_L o0 w7_B (4 : Int32) ([(.int (110 : Int32)), (.int (111 : Int32)), (.int (110 : Int32)), (.int (101 : Int32))]) kB0 w9_v w30_z w31_l kS w0 T1.heap n0 z13 k20 k21 k22 k23 k24 k25 k26 k27 ne_w5_L_o0 k28 hcs hy1) hZ (wd hw 77 rfl) (wd hw 10 rfl) (by decide) (by decide)) q19a q19c (g := (mkF m 25 #[.val (.ref o0), .val (.ref x19_0_1), .val (.int (2 : Int32)), .val (.int (0 : Int32)), .val (.ref w3_N)] [(.ref o0), (.ref w5_L)])) rfl (by rw [hml]; rfl) (Steps.refl _) (argsL := [(.ref o0)]) (rest := []) (lenOf pd__Ljava_lang_Object__Z rfl) rfl (by show 2 * 0 + _ ≤ _; exact Nat.le_of_eq rfl) (hb hby d18_25) (fun _ _ => ⟨rfl, e18, (by decide : 1 + 0 ≤ _), (by decide : 2 + 0 ≤ _)⟩)
  dsimp only [Pt.U, Pt.locs, Pt.cells, Pt.slots] at X19 l19 y19 z19 st19 hQ19
  replace X19 := own_stand X19 l19 y19 z19
  clear l19 y19 z19
  have N19q := (show _ ∧ _ ∧ _ from hQ19).1
  have hv19 := (show _ ∧ _ ∧ _ from hQ19).2.1
  have e19 := (show _ ∧ _ ∧ _ from hQ19).2.2
  clear hQ19
  subst hv19
  have N19 := Fr.app N1 N19q
  have hin29 : ¬ ((1 : Int32) < 0 ∨ cl15.slots.size ≤ ((1 : Int32)).toNatClampNeg) := inb_of S15 ⟨by decide, by decide⟩
  have k30 := (F_label_w4_P.keep K1 nin0)
  obtain ⟨T31, X31, e31, st31⟩ := getF X19 hx hZ hown (host := "") (Or.inl (wd hw 102 rfl)) Via.refl e19 k30 (g := (mkF m 21 #[.val (.ref o0), .val (.ref x19_0_1), .val (.int (2 : Int32)), .val (.int (1 : Int32)), .val (.ref w4_P)] [(.ref w4_P)])) rfl rfl (hb hby d18_21)
  have k33 := (E_w6_L.keep K1)
  have k34 := (F_coder_w6_L.keep K1 nin0)
  have k35 := (F_value_w6_L.keep K1 nin0)
  have k36 := (V_w8_B.keep K1 nin0)
  obtain ⟨cq32, kq32, q32a, q32b, q32c⟩ := isOf hZ e31 k33
  obtain ⟨vr32, _, ⟨T32, L32, k32, n32⟩, -, X32, ⟨Lc32, hQ32, l32, y32, z32⟩, st32⟩ := Jvm.Stand.virtualBack X31 hx (y := (⟨"java/lang/String", "equals", "(Ljava/lang/Object;)Z"⟩ : MethodName)) (z := (⟨"java/lang/String", "equals", "(Ljava/lang/Object;)Z"⟩ : MethodName)) hown (mvT hZ (wd hw 104 rfl)) (mvT hZ (wd hw 74 rfl)) (notFace_of_selects (args := #[]) (mvT hZ (wd hw 76 rfl))) (mvT hZ (wd hw 76 rfl)) (mvT hZ (wd hw 75 rfl)) (by decide) (backOf (W := 0) (rmsqD l Z a0 hw [] w6_L o0 w8_B (6 : Int32) ([(.int (112 : Int32)), (.int (111 : Int32)), (.int (114 : Int32)), (.int (116 : Int32)), (.int (101 : Int32)), (.int (114 : Int32))]) kB1 w9_v w30_z w31_l kS w0 T1.heap n0 z13 k33 k34 k35 k36 k24 k25 k26 k27 ne_w6_L_o0 k28 hcs hy2) hZ (wd hw 77 rfl) (wd hw 10 rfl) (by decide) (by decide)) q32a q32c (g := (mkF m 25 #[.val (.ref o0), .val (.ref x19_0_1), .val (.int (2 : Int32)), .val (.int (1 : Int32)), .val (.ref w4_P)] [(.ref o0), (.ref w6_L)])) rfl (by rw [hml]; rfl) (Steps.refl _) (argsL := [(.ref o0)]) (rest := []) (lenOf pd__Ljava_lang_Object__Z rfl) rfl (by show 2 * 0 + _ ≤ _; exact Nat.le_of_eq rfl) (hb hby d18_25) (fun _ _ => ⟨rfl, e31, (by decide : 1 + 0 ≤ _), (by decide : 2 + 0 ≤ _)⟩)
  dsimp only [Pt.U, Pt.locs, Pt.cells, Pt.slots] at X32 l32 y32 z32 st32 hQ32
  replace X32 := own_stand X32 l32 y32 z32
  clear l32 y32 z32
  have N32q := (show _ ∧ _ ∧ _ from hQ32).1
  have hv32 := (show _ ∧ _ ∧ _ from hQ32).2.1
  have e32 := (show _ ∧ _ ∧ _ from hQ32).2.2
  clear hQ32
  subst hv32
  have N32 := Fr.app N19 N32q
  obtain ⟨fs, hr, hrun, hended, hW, hsame⟩ := X32.leave (v := some .null) (fun h => by rw [Bd.returns] at h; cases h) hlk
  refine ⟨_, _, pre0 _ ?_, hrun, hended, _, _, rfl, ?_, ⟨_, rfl⟩, hW, hsame.mono (by decide) (by decide)⟩
  · skip
    show Steps p.tables e below (s₁.setTop (mkF m 0 #[.val (.ref o0), .unset, .unset, .unset, .unset] [])) _
    refine st1 _ ?_
    refine XS.astoreN X1.here hx rfl (hb hby d18_3) rfl rfl (l' := #[.val (.ref o0), .val (.ref x19_0_1), .unset, .unset, .unset]) rfl ?_
    refine XS.aloadN X1.here hx rfl (hb hby d18_4) rfl rfl ?_
    show Steps p.tables e below (T1.setTop (mkF m 5 #[.val (.ref o0), .val (.ref x19_0_1), .unset, .unset, .unset] [(.ref x19_0_1)])) _
    refine X1.arraylength hx Ar15.1 (State.isArrayOf_alike hZ.alike Ar15.2.1) (g := (mkF m 5 #[.val (.ref o0), .val (.ref x19_0_1), .unset, .unset, .unset] [(.ref x19_0_1)])) rfl rfl (hb hby d18_5) _ ?_
    rw [len_of S15 M15]
    refine XS.istoreN X1.here hx rfl (hb hby d18_6) rfl (l' := #[.val (.ref o0), .val (.ref x19_0_1), .val (.int (2 : Int32)), .unset, .unset]) rfl ?_
    refine XT.iconstV X1.here hx rfl (0 : Int32) (hb hby d18_7) (by decide) ?_
    refine XS.istoreN X1.here hx rfl (hb hby d18_8) rfl (l' := #[.val (.ref o0), .val (.ref x19_0_1), .val (.int (2 : Int32)), .val (.int (0 : Int32)), .unset]) rfl ?_
    show Steps p.tables e below (T1.setTop (mkF m 9 #[.val (.ref o0), .val (.ref x19_0_1), .val (.int (2 : Int32)), .val (.int (0 : Int32)), .unset] [])) _
    refine XS.iloadN X1.here hx rfl (hb hby d18_9) rfl ?_
    refine XS.iloadN X1.here hx rfl (hb hby d18_10) rfl ?_
    show Steps p.tables e below (T1.setTop (mkF m 11 #[.val (.ref o0), .val (.ref x19_0_1), .val (.int (2 : Int32)), .val (.int (0 : Int32)), .unset] [(.int (2 : Int32)), (.int (0 : Int32))])) _
    refine XS.icmpNo X1.here hx rfl (hb hby d18_11) rfl (XT.ii_ge_f (by decide)) ?_
    refine XS.aloadN X1.here hx rfl (hb hby d18_14) rfl rfl ?_
    refine XS.iloadN X1.here hx rfl (hb hby d18_15) rfl ?_
    show Steps p.tables e below (T1.setTop (mkF m 16 #[.val (.ref o0), .val (.ref x19_0_1), .val (.int (2 : Int32)), .val (.int (0 : Int32)), .unset] [(.int (0 : Int32)), (.ref x19_0_1)])) _
    refine X1.aaload hx (j := (0 : Int32)) (v := (.ref w3_N)) Ar15.1 (State.isArrayOf_alike hZ.alike Ar15.2.1) rfl Ar15.2.2 hin16 (Has.at Ha15 hin16 rfl) (g := (mkF m 16 #[.val (.ref o0), .val (.ref x19_0_1), .val (.int (2 : Int32)), .val (.int (0 : Int32)), .unset] [(.int (0 : Int32)), (.ref x19_0_1)])) rfl rfl (hb hby d18_16) _ ?_
    refine XS.astore X1.here hx rfl (hb hby d18_17) rfl rfl (l' := #[.val (.ref o0), .val (.ref x19_0_1), .val (.int (2 : Int32)), .val (.int (0 : Int32)), .val (.ref w3_N)]) rfl ?_
    refine XS.aload X1.here hx rfl (hb hby d18_19) rfl rfl ?_
    show Steps p.tables e below (T1.setTop (mkF m 21 #[.val (.ref o0), .val (.ref x19_0_1), .val (.int (2 : Int32)), .val (.int (0 : Int32)), .val (.ref w3_N)] [(.ref w3_N)])) _
    refine st18 _ ?_
    refine XS.aloadN X18.here hx rfl (hb hby d18_24) rfl rfl ?_
    show Steps p.tables e below (T18.setTop (mkF m 25 #[.val (.ref o0), .val (.ref x19_0_1), .val (.int (2 : Int32)), .val (.int (0 : Int32)), .val (.ref w3_N)] [(.ref o0), (.ref w5_L)])) _
    refine st19.trans ?_
    show Steps p.tables e below (T19.setTop (mkF m 28 #[.val (.ref o0), .val (.ref x19_0_1), .val (.int (2 : Int32)), .val (.int (0 : Int32)), .val (.ref w3_N)] [(.int (fsqD (4 : Int32) w30_z w0))])) _
    refine XS.ifYes X19.here hx rfl (pc0 := 28) (pc' := 34) rfl (hb hby d18_28) rfl (XT.i0_eq_t rfl) (by decide) (by decide) ?_
    refine XT.iincV X19.here hx rfl (1 : Int32) (hb hby d18_34) (by decide) rfl (l' := #[.val (.ref o0), .val (.ref x19_0_1), .val (.int (2 : Int32)), .val (.int (1 : Int32)), .val (.ref w3_N)]) rfl ?_
    show Steps p.tables e below (T19.setTop (mkF m 37 #[.val (.ref o0), .val (.ref x19_0_1), .val (.int (2 : Int32)), .val (.int (1 : Int32)), .val (.ref w3_N)] [])) _
    refine XS.goto X19.here hx rfl (pc0 := 37) (pc' := 9) rfl (hb hby d18_37) (by decide) (by decide) ?_
    refine XS.iloadN X19.here hx rfl (hb hby d18_9) rfl ?_
    refine XS.iloadN X19.here hx rfl (hb hby d18_10) rfl ?_
    show Steps p.tables e below (T19.setTop (mkF m 11 #[.val (.ref o0), .val (.ref x19_0_1), .val (.int (2 : Int32)), .val (.int (1 : Int32)), .val (.ref w3_N)] [(.int (2 : Int32)), (.int (1 : Int32))])) _
    refine XS.icmpNo X19.here hx rfl (hb hby d18_11) rfl (XT.ii_ge_f (by decide)) ?_
    refine XS.aloadN X19.here hx rfl (hb hby d18_14) rfl rfl ?_
    refine XS.iloadN X19.here hx rfl (hb hby d18_15) rfl ?_
    show Steps p.tables e below (T19.setTop (mkF m 16 #[.val (.ref o0), .val (.ref x19_0_1), .val (.int (2 : Int32)), .val (.int (1 : Int32)), .val (.ref w3_N)] [(.int (1 : Int32)), (.ref x19_0_1)])) _
    refine X19.aaload hx (j := (1 : Int32)) (v := (.ref w4_P)) (by rw [e19]; exact Ar15.1) (State.isArrayOf_alike hZ.alike Ar15.2.1) rfl Ar15.2.2 hin29 (Has.at Ha15 hin29 rfl) (g := (mkF m 16 #[.val (.ref o0), .val (.ref x19_0_1), .val (.int (2 : Int32)), .val (.int (1 : Int32)), .val (.ref w3_N)] [(.int (1 : Int32)), (.ref x19_0_1)])) rfl rfl (hb hby d18_16) _ ?_
    refine XS.astore X19.here hx rfl (hb hby d18_17) rfl rfl (l' := #[.val (.ref o0), .val (.ref x19_0_1), .val (.int (2 : Int32)), .val (.int (1 : Int32)), .val (.ref w4_P)]) rfl ?_
    refine XS.aload X19.here hx rfl (hb hby d18_19) rfl rfl ?_
    show Steps p.tables e below (T19.setTop (mkF m 21 #[.val (.ref o0), .val (.ref x19_0_1), .val (.int (2 : Int32)), .val (.int (1 : Int32)), .val (.ref w4_P)] [(.ref w4_P)])) _
    refine st31 _ ?_
    refine XS.aloadN X31.here hx rfl (hb hby d18_24) rfl rfl ?_
    show Steps p.tables e below (T31.setTop (mkF m 25 #[.val (.ref o0), .val (.ref x19_0_1), .val (.int (2 : Int32)), .val (.int (1 : Int32)), .val (.ref w4_P)] [(.ref o0), (.ref w6_L)])) _
    refine st32.trans ?_
    show Steps p.tables e below (T32.setTop (mkF m 28 #[.val (.ref o0), .val (.ref x19_0_1), .val (.int (2 : Int32)), .val (.int (1 : Int32)), .val (.ref w4_P)] [(.int (fsqD (6 : Int32) w30_z w0))])) _
    refine XS.ifYes X32.here hx rfl (pc0 := 28) (pc' := 34) rfl (hb hby d18_28) rfl (XT.i0_eq_t rfl) (by decide) (by decide) ?_
    refine XT.iincV X32.here hx rfl (1 : Int32) (hb hby d18_34) (by decide) rfl (l' := #[.val (.ref o0), .val (.ref x19_0_1), .val (.int (2 : Int32)), .val (.int (2 : Int32)), .val (.ref w4_P)]) rfl ?_
    show Steps p.tables e below (T32.setTop (mkF m 37 #[.val (.ref o0), .val (.ref x19_0_1), .val (.int (2 : Int32)), .val (.int (2 : Int32)), .val (.ref w4_P)] [])) _
    refine XS.goto X32.here hx rfl (pc0 := 37) (pc' := 9) rfl (hb hby d18_37) (by decide) (by decide) ?_
    refine XS.iloadN X32.here hx rfl (hb hby d18_9) rfl ?_
    refine XS.iloadN X32.here hx rfl (hb hby d18_10) rfl ?_
    show Steps p.tables e below (T32.setTop (mkF m 11 #[.val (.ref o0), .val (.ref x19_0_1), .val (.int (2 : Int32)), .val (.int (2 : Int32)), .val (.ref w4_P)] [(.int (2 : Int32)), (.int (2 : Int32))])) _
    refine XS.icmpYes X32.here hx rfl (pc0 := 11) (pc' := 40) rfl (hb hby d18_11) rfl (XT.ii_ge_t (by decide)) (by decide) (by decide) ?_
    show Steps p.tables e below (T32.setTop (mkF m 40 #[.val (.ref o0), .val (.ref x19_0_1), .val (.int (2 : Int32)), .val (.int (2 : Int32)), .val (.ref w4_P)] [])) _
    refine XS.aconstNull X32.here hx rfl (hb hby d18_40) ?_
    show Steps p.tables e below (T32.setTop (mkF m 41 #[.val (.ref o0), .val (.ref x19_0_1), .val (.int (2 : Int32)), .val (.int (2 : Int32)), .val (.ref w4_P)] [.null])) _
    exact X32.areturnOut hx rfl Bd.returns rfl (hb hby d18_41) hr
  · skip
    show QlbD Z o0 w2_V w3_N w4_P kV w5_L w6_L w7_B kB0 w8_B kB1 w9_v w30_z w31_l kS w0 h0 n0 _ T32.heap _
    rw [e32]
    exact ⟨N32, rfl, ((Keep.refl h0 []).trans K1 all0)⟩
theorem d18_31 : decode prog_30_method_6_code 31 = .ok (.aload 4, 2) := by decide +kernel
theorem d18_33 : decode prog_30_method_6_code 33 = .ok (.areturn, 1) := by decide +kernel
theorem ef_lb4y (m : MethodId) (o0 : Addr) : entryFrame m #[(.ref o0)] 5 = mkF m 0 #[.val (.ref o0), .unset, .unset, .unset, .unset] [] := by first | (simp [entryFrame, mkF, argsToLocals, Value.category]; done) | rfl
def vlb4y_1 (w10_c : Int32) (w11_c : Int32) (w12_c : Int32) (w13_c : Int32) (w0 : Int32) : Int32 := (fsq4 (110 : Int32) (111 : Int32) (110 : Int32) (101 : Int32) w10_c w11_c w12_c w13_c w0)
def Qlb4y (Z : State) (o0 : Addr) (w2_V : Addr) (w3_N : Addr) (w4_P : Addr) (kV : ClassId) (w5_L : Addr) (w6_L : Addr) (w7_B : Addr) (kB0 : ClassId) (w8_B : Addr) (kB1 : ClassId) (w9_v : Addr) (w10_c : Int32) (w11_c : Int32) (w12_c : Int32) (w13_c : Int32) (kS : ClassId) (w0 : Int32) (h0 : Heap) (n0 : Nat) (v : Option Value) (h : Heap) (L : List Loc) : Prop := Fr n0 L ∧ v = some (.ref w3_N) ∧ Keep h0 h []
set_option maxRecDepth 65536 in
set_option maxHeartbeats 40000000 in
theorem rmlb4y (l : Launch) (Z : State) (a0 : Array Value) (hw : ∀ d ∈ tables_1, d.before a0 Z = true) (ws : List Jvm.Cond) (o0 : Addr) (w2_V : Addr) (w3_N : Addr) (w4_P : Addr) (kV : ClassId) (w5_L : Addr) (w6_L : Addr) (w7_B : Addr) (kB0 : ClassId) (w8_B : Addr) (kB1 : ClassId) (w9_v : Addr) (w10_c : Int32) (w11_c : Int32) (w12_c : Int32) (w13_c : Int32) (kS : ClassId) (w0 : Int32) (h0 : Heap) (n0 : Nat) (Z0 : n0 ≤ h0.size) (S_Stemmer__VALUES : Sta Z h0 "com/example/vellum_index/vellumindex/Stemmer" "$VALUES" "[Lcom/example/vellum_index/vellumindex/Stemmer;" (.ref w2_V)) (V_w2_V : Arv Z h0 w2_V kV (.object "com/example/vellum_index/vellumindex/Stemmer") (2 : Int32) [(.ref w3_N), (.ref w4_P)] .null) (E_w2_V : Exa Z h0 w2_V "[Lcom/example/vellum_index/vellumindex/Stemmer;") (E_w3_N : Exa Z h0 w3_N "com/example/vellum_index/vellumindex/Stemmer$1") (E_w4_P : Exa Z h0 w4_P "com/example/vellum_index/vellumindex/Stemmer$2") (F_label_w3_N : Fld Z h0 w3_N "com/example/vellum_index/vellumindex/Stemmer" "label" "Ljava/lang/String;" (.ref w5_L)) (F_label_w4_P : Fld Z h0 w4_P "com/example/vellum_index/vellumindex/Stemmer" "label" "Ljava/lang/String;" (.ref w6_L)) (E_w5_L : Exa Z h0 w5_L "java/lang/String") (F_coder_w5_L : Fld Z h0 w5_L "java/lang/String" "coder" "B" (.int (0 : Int32))) (F_value_w5_L : Fld Z h0 w5_L "java/lang/String" "value" "[B" (.ref w7_B)) (V_w7_B : Arv Z h0 w7_B kB0 .byte (4 : Int32) [(.int (110 : Int32)), (.int (111 : Int32)), (.int (110 : Int32)), (.int (101 : Int32))] (.int (0 : Int32))) (E_w6_L : Exa Z h0 w6_L "java/lang/String") (F_coder_w6_L : Fld Z h0 w6_L "java/lang/String" "coder" "B" (.int (0 : Int32))) (F_value_w6_L : Fld Z h0 w6_L "java/lang/String" "value" "[B" (.ref w8_B)) (V_w8_B : Arv Z h0 w8_B kB1 .byte (6 : Int32) [(.int (112 : Int32)), (.int (111 : Int32)), (.int (114 : Int32)), (.int (116 : Int32)), (.int (101 : Int32)), (.int (114 : Int32))] (.int (0 : Int32))) (E_o0 : Exa Z h0 o0 "java/lang/String") (F_coder_o0 : Fld Z h0 o0 "java/lang/String" "coder" "B" (.int (0 : Int32))) (F_value_o0 : Fld Z h0 o0 "java/lang/String" "value" "[B" (.ref w9_v)) (V_w9_v : Arv Z h0 w9_v kS .byte (4 : Int32) [(.int w10_c), (.int w11_c), (.int w12_c), (.int w13_c)] (.int (0 : Int32))) (ne_w5_L_o0 : w5_L ≠ o0) (ne_w6_L_o0 : w6_L ≠ o0) (S_String_COMPACT_STRINGS : Sta Z h0 "java/lang/String" "COMPACT_STRINGS" "Z" (.int w0)) (hcs : ¬ (w0 = (0 : Int32))) (hy1 : ¬ ((vlb4y_1 w10_c w11_c w12_c w13_c w0) = (0 : Int32))) :
    MetFree l (⟨"com/example/vellum_index/vellumindex/Stemmer", "labelled", "(Ljava/lang/String;)Lcom/example/vellum_index/vellumindex/Stemmer;"⟩ : MethodName) (head1 (Jvm.Cond.code (⟨"com/example/vellum_index/vellumindex/Stemmer", "labelled", "(Ljava/lang/String;)Lcom/example/vellum_index/vellumindex/Stemmer;"⟩ : MethodName) prog_30_method_6_code 5 (some (.object "com/example/vellum_index/vellumindex/Stemmer")) :: ws) ({ frames := 2, cells := 1, slots := 2, locals := 28 } : Room)) (fun a U => a = #[(.ref o0)] ∧ Z.Warmed39 U.vm ∧ U.heap = h0) (fun _ _ _ _ _ => True) (fun _ U o U' => ∃ v L, o = .returned v ∧ Qlb4y Z o0 w2_V w3_N w4_P kV w5_L w6_L w7_B kB0 w8_B kB1 w9_v w10_c w11_c w12_c w13_c kS w0 h0 n0 v U'.heap L ∧ FrameEnd U o U' L ({ frames := 2, cells := 1, slots := 2, locals := 28 } : Room).cells ({ frames := 2, cells := 1, slots := 2, locals := 28 } : Room).slots) := by
  refine MetFree.of_bodySF (plainFor_of_name pn_com_example_vellum_index_vellumindex_Stemmer) hisR ?_
  intro p e s m args below meth c s₁ Bd hml0 hP hK
  obtain ⟨rfl, hZ, hh⟩ := hP
  have hx := Bd.exec
  have hby := Bd.bytes
  have hml : c.maxLocals = 5 := hml0
  have hown : s.vm.findClass "com/example/vellum_index/vellumindex/Stemmer" = some m.cls := findClass_of_methodNamed Bd.named
  have hnm := (name_of_methodNamed Bd.named Bd.method).1
  have hlk := BodyLoose.notSynchronized Bd
  have X0 : Stand p l e ({ frames := 2, cells := 1, slots := 2, locals := 28 } : Room) s m #[(.ref o0)] below meth c s₁ [] 0 0 := Stand.of_body Bd
  have e0 : s₁.heap = h0 := by rw [← hh, Bd.state]; rfl
  have N0 := Fr.nil n0
  have pre0 : ∀ t, Steps p.tables e below (s₁.setTop (mkF m 0 #[.val (.ref o0), .unset, .unset, .unset, .unset] [])) t → Steps p.tables e below (s₁.setTop (entryFrame m #[(.ref o0)] 5)) t := fun t k => castTop (ef_lb4y m o0) k
  obtain ⟨vr1, _, ⟨T1, L1, k1, n1⟩, -, X1, ⟨Lc1, hQ1, l1, y1, z1⟩, st1⟩ := Jvm.LawKit.callS X0 hx (y := (⟨"com/example/vellum_index/vellumindex/Stemmer", "values", "()[Lcom/example/vellum_index/vellumindex/Stemmer;"⟩ : MethodName)) hown (mvT hZ (wd hw 87 rfl)) (mvT hZ (wd hw 88 rfl)) (mvT hZ (wd hw 85 rfl)) (mvT hZ (wd hw 89 rfl)) (by decide) (backOf (W := 0) (rm19 l Z a0 hw [] w2_V w3_N w4_P kV h0 n0 Z0 S_Stemmer__VALUES V_w2_V E_w2_V) hZ (wd hw 89 rfl) (wd hw 85 rfl) (by decide) (by decide)) (g := (mkF m 0 #[.val (.ref o0), .unset, .unset, .unset, .unset] [])) rfl (by rw [hml]; rfl) (argsL := []) (rest := []) (lenOf pd____Lcom_example_vellum_index_vellumindex_Stemmer_ rfl) rfl (by show 2 * 0 + _ ≤ _; exact Nat.le_of_eq rfl) (hb hby d18_0) (fun _ _ => ⟨rfl, e0, (by decide : 0 + 1 ≤ _), (by decide : 0 + 2 ≤ _)⟩)
  dsimp only [Pt.U, Pt.locs, Pt.cells, Pt.slots] at X1 l1 y1 z1 st1 hQ1
  replace X1 := own_stand X1 l1 y1 z1
  clear l1 y1 z1
  have N1q := (show _ ∧ _ from hQ1).1
  have hq1 := (show _ ∧ _ from hQ1).2
  clear hQ1
  obtain ⟨x19_0_1, hq1x⟩ := hq1
  have hv1 := hq1x.1
  have szx19_0_1 := hq1x.2.1
  have K1 := hq1x.2.2.1
  have po1_0 := hq1x.2.2.2.1
  have po1_1 := hq1x.2.2.2.2
  clear hq1x
  subst hv1
  have ne2 : w2_V ≠ x19_0_1 := Nat.ne_of_lt (Nat.lt_of_lt_of_le E_w2_V.lt szx19_0_1)
  have ne3 : w3_N ≠ x19_0_1 := Nat.ne_of_lt (Nat.lt_of_lt_of_le E_w3_N.lt szx19_0_1)
  have ne4 : w4_P ≠ x19_0_1 := Nat.ne_of_lt (Nat.lt_of_lt_of_le E_w4_P.lt szx19_0_1)
  have ne5 : w5_L ≠ x19_0_1 := Nat.ne_of_lt (Nat.lt_of_lt_of_le E_w5_L.lt szx19_0_1)
  have ne6 : w6_L ≠ x19_0_1 := Nat.ne_of_lt (Nat.lt_of_lt_of_le E_w6_L.lt szx19_0_1)
  have ne7 : o0 ≠ x19_0_1 := Nat.ne_of_lt (Nat.lt_of_lt_of_le E_o0.lt szx19_0_1)
  have ne8 : w7_B ≠ x19_0_1 := Nat.ne_of_lt (Nat.lt_of_lt_of_le V_w7_B.lt szx19_0_1)
  have ne9 : w8_B ≠ x19_0_1 := Nat.ne_of_lt (Nat.lt_of_lt_of_le V_w8_B.lt szx19_0_1)
  have ne10 : w9_v ≠ x19_0_1 := Nat.ne_of_lt (Nat.lt_of_lt_of_le V_w9_v.lt szx19_0_1)
  have g11 : n0 ≤ x19_0_1 := Nat.le_trans Z0 szx19_0_1
  have sz12 : h0.size ≤ x19_0_1 := Nat.le_trans (Nat.le_refl h0.size) szx19_0_1
  have z13 : n0 ≤ T1.heap.size := Nat.le_trans Z0 K1.1
  have hs14 : h0.size ≤ T1.heap.size := Nat.le_trans (Nat.le_refl h0.size) K1.1
  have N1 := Fr.app N0 N1q
  obtain ⟨cl15, Ar15, qc15, S15, M15, Ha15, G15⟩ := id po1_1
  have hin16 : ¬ ((0 : Int32) < 0 ∨ cl15.slots.size ≤ ((0 : Int32)).toNatClampNeg) := inb_of S15 ⟨by decide, by decide⟩
  have k17 := (F_label_w3_N.keep K1 nin0)
  obtain ⟨T18, X18, e18, st18⟩ := getF X1 hx hZ hown (host := "") (Or.inl (wd hw 102 rfl)) Via.refl rfl k17 (g := (mkF m 21 #[.val (.ref o0), .val (.ref x19_0_1), .val (.int (2 : Int32)), .val (.int (0 : Int32)), .val (.ref w3_N)] [(.ref w3_N)])) rfl rfl (hb hby d18_21)
  have k20 := (E_w5_L.keep K1)
  have k21 := (F_coder_w5_L.keep K1 nin0)
  have k22 := (F_value_w5_L.keep K1 nin0)
  have k23 := (V_w7_B.keep K1 nin0)
  have k24 := (E_o0.keep K1)
  have k25 := (F_coder_o0.keep K1 nin0)
  have k26 := (F_value_o0.keep K1 nin0)
  have k27 := (V_w9_v.keep K1 nin0)
  have k28 := (own_sta_keep0 S_String_COMPACT_STRINGS K1)
  obtain ⟨cq19, kq19, q19a, q19b, q19c⟩ := isOf hZ e18 k20
  obtain ⟨vr19, _, ⟨T19, L19, k19, n19⟩, -, X19, ⟨Lc19, hQ19, l19, y19, z19⟩, st19⟩ := Jvm.Stand.virtualBack X18 hx (y := (⟨"java/lang/String", "equals", "(Ljava/lang/Object;)Z"⟩ : MethodName)) (z := (⟨"java/lang/String", "equals", "(Ljava/lang/Object;)Z"⟩ : MethodName)) hown (mvT hZ (wd hw 104 rfl)) (mvT hZ (wd hw 74 rfl)) (notFace_of_selects (args := #[]) (mvT hZ (wd hw 76 rfl))) (mvT hZ (wd hw 76 rfl)) (mvT hZ (wd hw 75 rfl)) (by decide) (backOf (W := 0) (rmsq4 l Z a0 hw [] w5_L o0 w7_B (110 : Int32) (111 : Int32) (110 : Int32) (101 : Int32) kB0 w9_v w10_c w11_c w12_c w13_c kS w0 T1.heap n0 z13 k20 k21 k22 k23 k24 k25 k26 k27 ne_w5_L_o0 k28 hcs) hZ (wd hw 77 rfl) (wd hw 10 rfl) (by decide) (by decide)) q19a q19c (g := (mkF m 25 #[.val (.ref o0), .val (.ref x19_0_1), .val (.int (2 : Int32)), .val (.int (0 : Int32)), .val (.ref w3_N)] [(.ref o0), (.ref w5_L)])) rfl (by rw [hml]; rfl) (Steps.refl _) (argsL := [(.ref o0)]) (rest := []) (lenOf pd__Ljava_lang_Object__Z rfl) rfl (by show 2 * 0 + _ ≤ _; exact Nat.le_of_eq rfl) (hb hby d18_25) (fun _ _ => ⟨rfl, e18, (by decide : 1 + 0 ≤ _), (by decide : 2 + 0 ≤ _)⟩)
  dsimp only [Pt.U, Pt.locs, Pt.cells, Pt.slots] at X19 l19 y19 z19 st19 hQ19
  replace X19 := own_stand X19 l19 y19 z19
  clear l19 y19 z19
  have N19q := (show _ ∧ _ ∧ _ from hQ19).1
  have hv19 := (show _ ∧ _ ∧ _ from hQ19).2.1
  have e19 := (show _ ∧ _ ∧ _ from hQ19).2.2
  clear hQ19
  subst hv19
  have N19 := Fr.app N1 N19q
  obtain ⟨fs, hr, hrun, hended, hW, hsame⟩ := X19.leave (v := some (.ref w3_N)) (fun h => by rw [Bd.returns] at h; cases h) hlk
  refine ⟨_, _, pre0 _ ?_, hrun, hended, _, _, rfl, ?_, ⟨_, rfl⟩, hW, hsame.mono (by decide) (by decide)⟩
  · skip
    show Steps p.tables e below (s₁.setTop (mkF m 0 #[.val (.ref o0), .unset, .unset, .unset, .unset] [])) _
    refine st1 _ ?_
    refine XS.astoreN X1.here hx rfl (hb hby d18_3) rfl rfl (l' := #[.val (.ref o0), .val (.ref x19_0_1), .unset, .unset, .unset]) rfl ?_
    refine XS.aloadN X1.here hx rfl (hb hby d18_4) rfl rfl ?_
    show Steps p.tables e below (T1.setTop (mkF m 5 #[.val (.ref o0), .val (.ref x19_0_1), .unset, .unset, .unset] [(.ref x19_0_1)])) _
    refine X1.arraylength hx Ar15.1 (State.isArrayOf_alike hZ.alike Ar15.2.1) (g := (mkF m 5 #[.val (.ref o0), .val (.ref x19_0_1), .unset, .unset, .unset] [(.ref x19_0_1)])) rfl rfl (hb hby d18_5) _ ?_
    rw [len_of S15 M15]
    refine XS.istoreN X1.here hx rfl (hb hby d18_6) rfl (l' := #[.val (.ref o0), .val (.ref x19_0_1), .val (.int (2 : Int32)), .unset, .unset]) rfl ?_
    refine XT.iconstV X1.here hx rfl (0 : Int32) (hb hby d18_7) (by decide) ?_
    refine XS.istoreN X1.here hx rfl (hb hby d18_8) rfl (l' := #[.val (.ref o0), .val (.ref x19_0_1), .val (.int (2 : Int32)), .val (.int (0 : Int32)), .unset]) rfl ?_
    show Steps p.tables e below (T1.setTop (mkF m 9 #[.val (.ref o0), .val (.ref x19_0_1), .val (.int (2 : Int32)), .val (.int (0 : Int32)), .unset] [])) _
    refine XS.iloadN X1.here hx rfl (hb hby d18_9) rfl ?_
    refine XS.iloadN X1.here hx rfl (hb hby d18_10) rfl ?_
    show Steps p.tables e below (T1.setTop (mkF m 11 #[.val (.ref o0), .val (.ref x19_0_1), .val (.int (2 : Int32)), .val (.int (0 : Int32)), .unset] [(.int (2 : Int32)), (.int (0 : Int32))])) _
    refine XS.icmpNo X1.here hx rfl (hb hby d18_11) rfl (XT.ii_ge_f (by decide)) ?_
    refine XS.aloadN X1.here hx rfl (hb hby d18_14) rfl rfl ?_
    refine XS.iloadN X1.here hx rfl (hb hby d18_15) rfl ?_
    show Steps p.tables e below (T1.setTop (mkF m 16 #[.val (.ref o0), .val (.ref x19_0_1), .val (.int (2 : Int32)), .val (.int (0 : Int32)), .unset] [(.int (0 : Int32)), (.ref x19_0_1)])) _
    refine X1.aaload hx (j := (0 : Int32)) (v := (.ref w3_N)) Ar15.1 (State.isArrayOf_alike hZ.alike Ar15.2.1) rfl Ar15.2.2 hin16 (Has.at Ha15 hin16 rfl) (g := (mkF m 16 #[.val (.ref o0), .val (.ref x19_0_1), .val (.int (2 : Int32)), .val (.int (0 : Int32)), .unset] [(.int (0 : Int32)), (.ref x19_0_1)])) rfl rfl (hb hby d18_16) _ ?_
    refine XS.astore X1.here hx rfl (hb hby d18_17) rfl rfl (l' := #[.val (.ref o0), .val (.ref x19_0_1), .val (.int (2 : Int32)), .val (.int (0 : Int32)), .val (.ref w3_N)]) rfl ?_
    refine XS.aload X1.here hx rfl (hb hby d18_19) rfl rfl ?_
    show Steps p.tables e below (T1.setTop (mkF m 21 #[.val (.ref o0), .val (.ref x19_0_1), .val (.int (2 : Int32)), .val (.int (0 : Int32)), .val (.ref w3_N)] [(.ref w3_N)])) _
    refine st18 _ ?_
    refine XS.aloadN X18.here hx rfl (hb hby d18_24) rfl rfl ?_
    show Steps p.tables e below (T18.setTop (mkF m 25 #[.val (.ref o0), .val (.ref x19_0_1), .val (.int (2 : Int32)), .val (.int (0 : Int32)), .val (.ref w3_N)] [(.ref o0), (.ref w5_L)])) _
    refine st19.trans ?_
    show Steps p.tables e below (T19.setTop (mkF m 28 #[.val (.ref o0), .val (.ref x19_0_1), .val (.int (2 : Int32)), .val (.int (0 : Int32)), .val (.ref w3_N)] [(.int (fsq4 (110 : Int32) (111 : Int32) (110 : Int32) (101 : Int32) w10_c w11_c w12_c w13_c w0))])) _
    refine XS.ifNo X19.here hx rfl (hb hby d18_28) rfl (XT.i0_eq_f hy1) ?_
    refine XS.aload X19.here hx rfl (hb hby d18_31) rfl rfl ?_
    show Steps p.tables e below (T19.setTop (mkF m 33 #[.val (.ref o0), .val (.ref x19_0_1), .val (.int (2 : Int32)), .val (.int (0 : Int32)), .val (.ref w3_N)] [(.ref w3_N)])) _
    exact X19.areturnOut hx rfl Bd.returns rfl (hb hby d18_33) hr
  · skip
    show Qlb4y Z o0 w2_V w3_N w4_P kV w5_L w6_L w7_B kB0 w8_B kB1 w9_v w10_c w11_c w12_c w13_c kS w0 h0 n0 _ T19.heap _
    rw [e19]
    exact ⟨N19, rfl, ((Keep.refl h0 []).trans K1 all0)⟩
theorem ef_lb4n (m : MethodId) (o0 : Addr) : entryFrame m #[(.ref o0)] 5 = mkF m 0 #[.val (.ref o0), .unset, .unset, .unset, .unset] [] := by first | (simp [entryFrame, mkF, argsToLocals, Value.category]; done) | rfl
def vlb4n_1 (w10_c : Int32) (w11_c : Int32) (w12_c : Int32) (w13_c : Int32) (w0 : Int32) : Int32 := (fsq4 (110 : Int32) (111 : Int32) (110 : Int32) (101 : Int32) w10_c w11_c w12_c w13_c w0)
def vlb4n_2 (w10_c : Int32) (w11_c : Int32) (w12_c : Int32) (w13_c : Int32) (w0 : Int32) : Int32 := (fsqD (6 : Int32) (4 : Int32) w0)
def Qlb4n (Z : State) (o0 : Addr) (w2_V : Addr) (w3_N : Addr) (w4_P : Addr) (kV : ClassId) (w5_L : Addr) (w6_L : Addr) (w7_B : Addr) (kB0 : ClassId) (w8_B : Addr) (kB1 : ClassId) (w9_v : Addr) (w10_c : Int32) (w11_c : Int32) (w12_c : Int32) (w13_c : Int32) (kS : ClassId) (w0 : Int32) (h0 : Heap) (n0 : Nat) (v : Option Value) (h : Heap) (L : List Loc) : Prop := Fr n0 L ∧ v = some .null ∧ Keep h0 h []
set_option maxRecDepth 65536 in
set_option maxHeartbeats 40000000 in
theorem rmlb4n (l : Launch) (Z : State) (a0 : Array Value) (hw : ∀ d ∈ tables_1, d.before a0 Z = true) (ws : List Jvm.Cond) (o0 : Addr) (w2_V : Addr) (w3_N : Addr) (w4_P : Addr) (kV : ClassId) (w5_L : Addr) (w6_L : Addr) (w7_B : Addr) (kB0 : ClassId) (w8_B : Addr) (kB1 : ClassId) (w9_v : Addr) (w10_c : Int32) (w11_c : Int32) (w12_c : Int32) (w13_c : Int32) (kS : ClassId) (w0 : Int32) (h0 : Heap) (n0 : Nat) (Z0 : n0 ≤ h0.size) (S_Stemmer__VALUES : Sta Z h0 "com/example/vellum_index/vellumindex/Stemmer" "$VALUES" "[Lcom/example/vellum_index/vellumindex/Stemmer;" (.ref w2_V)) (V_w2_V : Arv Z h0 w2_V kV (.object "com/example/vellum_index/vellumindex/Stemmer") (2 : Int32) [(.ref w3_N), (.ref w4_P)] .null) (E_w2_V : Exa Z h0 w2_V "[Lcom/example/vellum_index/vellumindex/Stemmer;") (E_w3_N : Exa Z h0 w3_N "com/example/vellum_index/vellumindex/Stemmer$1") (E_w4_P : Exa Z h0 w4_P "com/example/vellum_index/vellumindex/Stemmer$2") (F_label_w3_N : Fld Z h0 w3_N "com/example/vellum_index/vellumindex/Stemmer" "label" "Ljava/lang/String;" (.ref w5_L)) (F_label_w4_P : Fld Z h0 w4_P "com/example/vellum_index/vellumindex/Stemmer" "label" "Ljava/lang/String;" (.ref w6_L)) (E_w5_L : Exa Z h0 w5_L "java/lang/String") (F_coder_w5_L : Fld Z h0 w5_L "java/lang/String" "coder" "B" (.int (0 : Int32))) (F_value_w5_L : Fld Z h0 w5_L "java/lang/String" "value" "[B" (.ref w7_B)) (V_w7_B : Arv Z h0 w7_B kB0 .byte (4 : Int32) [(.int (110 : Int32)), (.int (111 : Int32)), (.int (110 : Int32)), (.int (101 : Int32))] (.int (0 : Int32))) (E_w6_L : Exa Z h0 w6_L "java/lang/String") (F_coder_w6_L : Fld Z h0 w6_L "java/lang/String" "coder" "B" (.int (0 : Int32))) (F_value_w6_L : Fld Z h0 w6_L "java/lang/String" "value" "[B" (.ref w8_B)) (V_w8_B : Arv Z h0 w8_B kB1 .byte (6 : Int32) [(.int (112 : Int32)), (.int (111 : Int32)), (.int (114 : Int32)), (.int (116 : Int32)), (.int (101 : Int32)), (.int (114 : Int32))] (.int (0 : Int32))) (E_o0 : Exa Z h0 o0 "java/lang/String") (F_coder_o0 : Fld Z h0 o0 "java/lang/String" "coder" "B" (.int (0 : Int32))) (F_value_o0 : Fld Z h0 o0 "java/lang/String" "value" "[B" (.ref w9_v)) (V_w9_v : Arv Z h0 w9_v kS .byte (4 : Int32) [(.int w10_c), (.int w11_c), (.int w12_c), (.int w13_c)] (.int (0 : Int32))) (ne_w5_L_o0 : w5_L ≠ o0) (ne_w6_L_o0 : w6_L ≠ o0) (S_String_COMPACT_STRINGS : Sta Z h0 "java/lang/String" "COMPACT_STRINGS" "Z" (.int w0)) (hcs : ¬ (w0 = (0 : Int32))) (hy1 : (vlb4n_1 w10_c w11_c w12_c w13_c w0) = (0 : Int32)) :
    MetFree l (⟨"com/example/vellum_index/vellumindex/Stemmer", "labelled", "(Ljava/lang/String;)Lcom/example/vellum_index/vellumindex/Stemmer;"⟩ : MethodName) (head1 (Jvm.Cond.code (⟨"com/example/vellum_index/vellumindex/Stemmer", "labelled", "(Ljava/lang/String;)Lcom/example/vellum_index/vellumindex/Stemmer;"⟩ : MethodName) prog_30_method_6_code 5 (some (.object "com/example/vellum_index/vellumindex/Stemmer")) :: ws) ({ frames := 2, cells := 1, slots := 2, locals := 28 } : Room)) (fun a U => a = #[(.ref o0)] ∧ Z.Warmed39 U.vm ∧ U.heap = h0) (fun _ _ _ _ _ => True) (fun _ U o U' => ∃ v L, o = .returned v ∧ Qlb4n Z o0 w2_V w3_N w4_P kV w5_L w6_L w7_B kB0 w8_B kB1 w9_v w10_c w11_c w12_c w13_c kS w0 h0 n0 v U'.heap L ∧ FrameEnd U o U' L ({ frames := 2, cells := 1, slots := 2, locals := 28 } : Room).cells ({ frames := 2, cells := 1, slots := 2, locals := 28 } : Room).slots) := by
  refine MetFree.of_bodySF (plainFor_of_name pn_com_example_vellum_index_vellumindex_Stemmer) hisR ?_
  intro p e s m args below meth c s₁ Bd hml0 hP hK
  obtain ⟨rfl, hZ, hh⟩ := hP
  have hx := Bd.exec
  have hby := Bd.bytes
  have hml : c.maxLocals = 5 := hml0
  have hown : s.vm.findClass "com/example/vellum_index/vellumindex/Stemmer" = some m.cls := findClass_of_methodNamed Bd.named
  have hnm := (name_of_methodNamed Bd.named Bd.method).1
  have hlk := BodyLoose.notSynchronized Bd
  have X0 : Stand p l e ({ frames := 2, cells := 1, slots := 2, locals := 28 } : Room) s m #[(.ref o0)] below meth c s₁ [] 0 0 := Stand.of_body Bd
  have e0 : s₁.heap = h0 := by rw [← hh, Bd.state]; rfl
  have N0 := Fr.nil n0
  have pre0 : ∀ t, Steps p.tables e below (s₁.setTop (mkF m 0 #[.val (.ref o0), .unset, .unset, .unset, .unset] [])) t → Steps p.tables e below (s₁.setTop (entryFrame m #[(.ref o0)] 5)) t := fun t k => castTop (ef_lb4n m o0) k
  obtain ⟨vr1, _, ⟨T1, L1, k1, n1⟩, -, X1, ⟨Lc1, hQ1, l1, y1, z1⟩, st1⟩ := Jvm.LawKit.callS X0 hx (y := (⟨"com/example/vellum_index/vellumindex/Stemmer", "values", "()[Lcom/example/vellum_index/vellumindex/Stemmer;"⟩ : MethodName)) hown (mvT hZ (wd hw 87 rfl)) (mvT hZ (wd hw 88 rfl)) (mvT hZ (wd hw 85 rfl)) (mvT hZ (wd hw 89 rfl)) (by decide) (backOf (W := 0) (rm19 l Z a0 hw [] w2_V w3_N w4_P kV h0 n0 Z0 S_Stemmer__VALUES V_w2_V E_w2_V) hZ (wd hw 89 rfl) (wd hw 85 rfl) (by decide) (by decide)) (g := (mkF m 0 #[.val (.ref o0), .unset, .unset, .unset, .unset] [])) rfl (by rw [hml]; rfl) (argsL := []) (rest := []) (lenOf pd____Lcom_example_vellum_index_vellumindex_Stemmer_ rfl) rfl (by show 2 * 0 + _ ≤ _; exact Nat.le_of_eq rfl) (hb hby d18_0) (fun _ _ => ⟨rfl, e0, (by decide : 0 + 1 ≤ _), (by decide : 0 + 2 ≤ _)⟩)
  dsimp only [Pt.U, Pt.locs, Pt.cells, Pt.slots] at X1 l1 y1 z1 st1 hQ1
  replace X1 := own_stand X1 l1 y1 z1
  clear l1 y1 z1
  have N1q := (show _ ∧ _ from hQ1).1
  have hq1 := (show _ ∧ _ from hQ1).2
  clear hQ1
  obtain ⟨x19_0_1, hq1x⟩ := hq1
  have hv1 := hq1x.1
  have szx19_0_1 := hq1x.2.1
  have K1 := hq1x.2.2.1
  have po1_0 := hq1x.2.2.2.1
  have po1_1 := hq1x.2.2.2.2
  clear hq1x
  subst hv1
  have ne2 : w2_V ≠ x19_0_1 := Nat.ne_of_lt (Nat.lt_of_lt_of_le E_w2_V.lt szx19_0_1)
  have ne3 : w3_N ≠ x19_0_1 := Nat.ne_of_lt (Nat.lt_of_lt_of_le E_w3_N.lt szx19_0_1)
  have ne4 : w4_P ≠ x19_0_1 := Nat.ne_of_lt (Nat.lt_of_lt_of_le E_w4_P.lt szx19_0_1)
  have ne5 : w5_L ≠ x19_0_1 := Nat.ne_of_lt (Nat.lt_of_lt_of_le E_w5_L.lt szx19_0_1)
  have ne6 : w6_L ≠ x19_0_1 := Nat.ne_of_lt (Nat.lt_of_lt_of_le E_w6_L.lt szx19_0_1)
  have ne7 : o0 ≠ x19_0_1 := Nat.ne_of_lt (Nat.lt_of_lt_of_le E_o0.lt szx19_0_1)
  have ne8 : w7_B ≠ x19_0_1 := Nat.ne_of_lt (Nat.lt_of_lt_of_le V_w7_B.lt szx19_0_1)
  have ne9 : w8_B ≠ x19_0_1 := Nat.ne_of_lt (Nat.lt_of_lt_of_le V_w8_B.lt szx19_0_1)
  have ne10 : w9_v ≠ x19_0_1 := Nat.ne_of_lt (Nat.lt_of_lt_of_le V_w9_v.lt szx19_0_1)
  have g11 : n0 ≤ x19_0_1 := Nat.le_trans Z0 szx19_0_1
  have sz12 : h0.size ≤ x19_0_1 := Nat.le_trans (Nat.le_refl h0.size) szx19_0_1
  have z13 : n0 ≤ T1.heap.size := Nat.le_trans Z0 K1.1
  have hs14 : h0.size ≤ T1.heap.size := Nat.le_trans (Nat.le_refl h0.size) K1.1
  have N1 := Fr.app N0 N1q
  obtain ⟨cl15, Ar15, qc15, S15, M15, Ha15, G15⟩ := id po1_1
  have hin16 : ¬ ((0 : Int32) < 0 ∨ cl15.slots.size ≤ ((0 : Int32)).toNatClampNeg) := inb_of S15 ⟨by decide, by decide⟩
  have k17 := (F_label_w3_N.keep K1 nin0)
  obtain ⟨T18, X18, e18, st18⟩ := getF X1 hx hZ hown (host := "") (Or.inl (wd hw 102 rfl)) Via.refl rfl k17 (g := (mkF m 21 #[.val (.ref o0), .val (.ref x19_0_1), .val (.int (2 : Int32)), .val (.int (0 : Int32)), .val (.ref w3_N)] [(.ref w3_N)])) rfl rfl (hb hby d18_21)
  have k20 := (E_w5_L.keep K1)
  have k21 := (F_coder_w5_L.keep K1 nin0)
  have k22 := (F_value_w5_L.keep K1 nin0)
  have k23 := (V_w7_B.keep K1 nin0)
  have k24 := (E_o0.keep K1)
  have k25 := (F_coder_o0.keep K1 nin0)
  have k26 := (F_value_o0.keep K1 nin0)
  have k27 := (V_w9_v.keep K1 nin0)
  have k28 := (own_sta_keep0 S_String_COMPACT_STRINGS K1)
  obtain ⟨cq19, kq19, q19a, q19b, q19c⟩ := isOf hZ e18 k20
  obtain ⟨vr19, _, ⟨T19, L19, k19, n19⟩, -, X19, ⟨Lc19, hQ19, l19, y19, z19⟩, st19⟩ := Jvm.Stand.virtualBack X18 hx (y := (⟨"java/lang/String", "equals", "(Ljava/lang/Object;)Z"⟩ : MethodName)) (z := (⟨"java/lang/String", "equals", "(Ljava/lang/Object;)Z"⟩ : MethodName)) hown (mvT hZ (wd hw 104 rfl)) (mvT hZ (wd hw 74 rfl)) (notFace_of_selects (args := #[]) (mvT hZ (wd hw 76 rfl))) (mvT hZ (wd hw 76 rfl)) (mvT hZ (wd hw 75 rfl)) (by decide) (backOf (W := 0) (rmsq4 l Z a0 hw [] w5_L o0 w7_B (110 : Int32) (111 : Int32) (110 : Int32) (101 : Int32) kB0 w9_v w10_c w11_c w12_c w13_c kS w0 T1.heap n0 z13 k20 k21 k22 k23 k24 k25 k26 k27 ne_w5_L_o0 k28 hcs) hZ (wd hw 77 rfl) (wd hw 10 rfl) (by decide) (by decide)) q19a q19c (g := (mkF m 25 #[.val (.ref o0), .val (.ref x19_0_1), .val (.int (2 : Int32)), .val (.int (0 : Int32)), .val (.ref w3_N)] [(.ref o0), (.ref w5_L)])) rfl (by rw [hml]; rfl) (Steps.refl _) (argsL := [(.ref o0)]) (rest := []) (lenOf pd__Ljava_lang_Object__Z rfl) rfl (by show 2 * 0 + _ ≤ _; exact Nat.le_of_eq rfl) (hb hby d18_25) (fun _ _ => ⟨rfl, e18, (by decide : 1 + 0 ≤ _), (by decide : 2 + 0 ≤ _)⟩)
  dsimp only [Pt.U, Pt.locs, Pt.cells, Pt.slots] at X19 l19 y19 z19 st19 hQ19
  replace X19 := own_stand X19 l19 y19 z19
  clear l19 y19 z19
  have N19q := (show _ ∧ _ ∧ _ from hQ19).1
  have hv19 := (show _ ∧ _ ∧ _ from hQ19).2.1
  have e19 := (show _ ∧ _ ∧ _ from hQ19).2.2
  clear hQ19
  subst hv19
  have N19 := Fr.app N1 N19q
  have hin29 : ¬ ((1 : Int32) < 0 ∨ cl15.slots.size ≤ ((1 : Int32)).toNatClampNeg) := inb_of S15 ⟨by decide, by decide⟩
  have k30 := (F_label_w4_P.keep K1 nin0)
  obtain ⟨T31, X31, e31, st31⟩ := getF X19 hx hZ hown (host := "") (Or.inl (wd hw 102 rfl)) Via.refl e19 k30 (g := (mkF m 21 #[.val (.ref o0), .val (.ref x19_0_1), .val (.int (2 : Int32)), .val (.int (1 : Int32)), .val (.ref w4_P)] [(.ref w4_P)])) rfl rfl (hb hby d18_21)
  have k33 := (E_w6_L.keep K1)
  have k34 := (F_coder_w6_L.keep K1 nin0)
  have k35 := (F_value_w6_L.keep K1 nin0)
  have k36 := (V_w8_B.keep K1 nin0)
  obtain ⟨cq32, kq32, q32a, q32b, q32c⟩ := isOf hZ e31 k33
  obtain ⟨vr32, _, ⟨T32, L32, k32, n32⟩, -, X32, ⟨Lc32, hQ32, l32, y32, z32⟩, st32⟩ := Jvm.Stand.virtualBack X31 hx (y := (⟨"java/lang/String", "equals", "(Ljava/lang/Object;)Z"⟩ : MethodName)) (z := (⟨"java/lang/String", "equals", "(Ljava/lang/Object;)Z"⟩ : MethodName)) hown (mvT hZ (wd hw 104 rfl)) (mvT hZ (wd hw 74 rfl)) (notFace_of_selects (args := #[]) (mvT hZ (wd hw 76 rfl))) (mvT hZ (wd hw 76 rfl)) (mvT hZ (wd hw 75 rfl)) (by decide) (backOf (W := 0) (rmsqD l Z a0 hw [] w6_L o0 w8_B (6 : Int32) ([(.int (112 : Int32)), (.int (111 : Int32)), (.int (114 : Int32)), (.int (116 : Int32)), (.int (101 : Int32)), (.int (114 : Int32))]) kB1 w9_v (4 : Int32) ([(.int w10_c), (.int w11_c), (.int w12_c), (.int w13_c)]) kS w0 T1.heap n0 z13 k33 k34 k35 k36 k24 k25 k26 k27 ne_w6_L_o0 k28 hcs (by decide)) hZ (wd hw 77 rfl) (wd hw 10 rfl) (by decide) (by decide)) q32a q32c (g := (mkF m 25 #[.val (.ref o0), .val (.ref x19_0_1), .val (.int (2 : Int32)), .val (.int (1 : Int32)), .val (.ref w4_P)] [(.ref o0), (.ref w6_L)])) rfl (by rw [hml]; rfl) (Steps.refl _) (argsL := [(.ref o0)]) (rest := []) (lenOf pd__Ljava_lang_Object__Z rfl) rfl (by show 2 * 0 + _ ≤ _; exact Nat.le_of_eq rfl) (hb hby d18_25) (fun _ _ => ⟨rfl, e31, (by decide : 1 + 0 ≤ _), (by decide : 2 + 0 ≤ _)⟩)
  dsimp only [Pt.U, Pt.locs, Pt.cells, Pt.slots] at X32 l32 y32 z32 st32 hQ32
  replace X32 := own_stand X32 l32 y32 z32
  clear l32 y32 z32
  have N32q := (show _ ∧ _ ∧ _ from hQ32).1
  have hv32 := (show _ ∧ _ ∧ _ from hQ32).2.1
  have e32 := (show _ ∧ _ ∧ _ from hQ32).2.2
  clear hQ32
  subst hv32
  have N32 := Fr.app N19 N32q
  obtain ⟨fs, hr, hrun, hended, hW, hsame⟩ := X32.leave (v := some .null) (fun h => by rw [Bd.returns] at h; cases h) hlk
  refine ⟨_, _, pre0 _ ?_, hrun, hended, _, _, rfl, ?_, ⟨_, rfl⟩, hW, hsame.mono (by decide) (by decide)⟩
  · skip
    show Steps p.tables e below (s₁.setTop (mkF m 0 #[.val (.ref o0), .unset, .unset, .unset, .unset] [])) _
    refine st1 _ ?_
    refine XS.astoreN X1.here hx rfl (hb hby d18_3) rfl rfl (l' := #[.val (.ref o0), .val (.ref x19_0_1), .unset, .unset, .unset]) rfl ?_
    refine XS.aloadN X1.here hx rfl (hb hby d18_4) rfl rfl ?_
    show Steps p.tables e below (T1.setTop (mkF m 5 #[.val (.ref o0), .val (.ref x19_0_1), .unset, .unset, .unset] [(.ref x19_0_1)])) _
    refine X1.arraylength hx Ar15.1 (State.isArrayOf_alike hZ.alike Ar15.2.1) (g := (mkF m 5 #[.val (.ref o0), .val (.ref x19_0_1), .unset, .unset, .unset] [(.ref x19_0_1)])) rfl rfl (hb hby d18_5) _ ?_
    rw [len_of S15 M15]
    refine XS.istoreN X1.here hx rfl (hb hby d18_6) rfl (l' := #[.val (.ref o0), .val (.ref x19_0_1), .val (.int (2 : Int32)), .unset, .unset]) rfl ?_
    refine XT.iconstV X1.here hx rfl (0 : Int32) (hb hby d18_7) (by decide) ?_
    refine XS.istoreN X1.here hx rfl (hb hby d18_8) rfl (l' := #[.val (.ref o0), .val (.ref x19_0_1), .val (.int (2 : Int32)), .val (.int (0 : Int32)), .unset]) rfl ?_
    show Steps p.tables e below (T1.setTop (mkF m 9 #[.val (.ref o0), .val (.ref x19_0_1), .val (.int (2 : Int32)), .val (.int (0 : Int32)), .unset] [])) _
    refine XS.iloadN X1.here hx rfl (hb hby d18_9) rfl ?_
    refine XS.iloadN X1.here hx rfl (hb hby d18_10) rfl ?_
    show Steps p.tables e below (T1.setTop (mkF m 11 #[.val (.ref o0), .val (.ref x19_0_1), .val (.int (2 : Int32)), .val (.int (0 : Int32)), .unset] [(.int (2 : Int32)), (.int (0 : Int32))])) _
    refine XS.icmpNo X1.here hx rfl (hb hby d18_11) rfl (XT.ii_ge_f (by decide)) ?_
    refine XS.aloadN X1.here hx rfl (hb hby d18_14) rfl rfl ?_
    refine XS.iloadN X1.here hx rfl (hb hby d18_15) rfl ?_
    show Steps p.tables e below (T1.setTop (mkF m 16 #[.val (.ref o0), .val (.ref x19_0_1), .val (.int (2 : Int32)), .val (.int (0 : Int32)), .unset] [(.int (0 : Int32)), (.ref x19_0_1)])) _
    refine X1.aaload hx (j := (0 : Int32)) (v := (.ref w3_N)) Ar15.1 (State.isArrayOf_alike hZ.alike Ar15.2.1) rfl Ar15.2.2 hin16 (Has.at Ha15 hin16 rfl) (g := (mkF m 16 #[.val (.ref o0), .val (.ref x19_0_1), .val (.int (2 : Int32)), .val (.int (0 : Int32)), .unset] [(.int (0 : Int32)), (.ref x19_0_1)])) rfl rfl (hb hby d18_16) _ ?_
    refine XS.astore X1.here hx rfl (hb hby d18_17) rfl rfl (l' := #[.val (.ref o0), .val (.ref x19_0_1), .val (.int (2 : Int32)), .val (.int (0 : Int32)), .val (.ref w3_N)]) rfl ?_
    refine XS.aload X1.here hx rfl (hb hby d18_19) rfl rfl ?_
    show Steps p.tables e below (T1.setTop (mkF m 21 #[.val (.ref o0), .val (.ref x19_0_1), .val (.int (2 : Int32)), .val (.int (0 : Int32)), .val (.ref w3_N)] [(.ref w3_N)])) _
    refine st18 _ ?_
    refine XS.aloadN X18.here hx rfl (hb hby d18_24) rfl rfl ?_
    show Steps p.tables e below (T18.setTop (mkF m 25 #[.val (.ref o0), .val (.ref x19_0_1), .val (.int (2 : Int32)), .val (.int (0 : Int32)), .val (.ref w3_N)] [(.ref o0), (.ref w5_L)])) _
    refine st19.trans ?_
    show Steps p.tables e below (T19.setTop (mkF m 28 #[.val (.ref o0), .val (.ref x19_0_1), .val (.int (2 : Int32)), .val (.int (0 : Int32)), .val (.ref w3_N)] [(.int (fsq4 (110 : Int32) (111 : Int32) (110 : Int32) (101 : Int32) w10_c w11_c w12_c w13_c w0))])) _
    refine XS.ifYes X19.here hx rfl (pc0 := 28) (pc' := 34) rfl (hb hby d18_28) rfl (XT.i0_eq_t hy1) (by decide) (by decide) ?_
    refine XT.iincV X19.here hx rfl (1 : Int32) (hb hby d18_34) (by decide) rfl (l' := #[.val (.ref o0), .val (.ref x19_0_1), .val (.int (2 : Int32)), .val (.int (1 : Int32)), .val (.ref w3_N)]) rfl ?_
    show Steps p.tables e below (T19.setTop (mkF m 37 #[.val (.ref o0), .val (.ref x19_0_1), .val (.int (2 : Int32)), .val (.int (1 : Int32)), .val (.ref w3_N)] [])) _
    refine XS.goto X19.here hx rfl (pc0 := 37) (pc' := 9) rfl (hb hby d18_37) (by decide) (by decide) ?_
    refine XS.iloadN X19.here hx rfl (hb hby d18_9) rfl ?_
    refine XS.iloadN X19.here hx rfl (hb hby d18_10) rfl ?_
    show Steps p.tables e below (T19.setTop (mkF m 11 #[.val (.ref o0), .val (.ref x19_0_1), .val (.int (2 : Int32)), .val (.int (1 : Int32)), .val (.ref w3_N)] [(.int (2 : Int32)), (.int (1 : Int32))])) _
    refine XS.icmpNo X19.here hx rfl (hb hby d18_11) rfl (XT.ii_ge_f (by decide)) ?_
    refine XS.aloadN X19.here hx rfl (hb hby d18_14) rfl rfl ?_
    refine XS.iloadN X19.here hx rfl (hb hby d18_15) rfl ?_
    show Steps p.tables e below (T19.setTop (mkF m 16 #[.val (.ref o0), .val (.ref x19_0_1), .val (.int (2 : Int32)), .val (.int (1 : Int32)), .val (.ref w3_N)] [(.int (1 : Int32)), (.ref x19_0_1)])) _
    refine X19.aaload hx (j := (1 : Int32)) (v := (.ref w4_P)) (by rw [e19]; exact Ar15.1) (State.isArrayOf_alike hZ.alike Ar15.2.1) rfl Ar15.2.2 hin29 (Has.at Ha15 hin29 rfl) (g := (mkF m 16 #[.val (.ref o0), .val (.ref x19_0_1), .val (.int (2 : Int32)), .val (.int (1 : Int32)), .val (.ref w3_N)] [(.int (1 : Int32)), (.ref x19_0_1)])) rfl rfl (hb hby d18_16) _ ?_
    refine XS.astore X19.here hx rfl (hb hby d18_17) rfl rfl (l' := #[.val (.ref o0), .val (.ref x19_0_1), .val (.int (2 : Int32)), .val (.int (1 : Int32)), .val (.ref w4_P)]) rfl ?_
    refine XS.aload X19.here hx rfl (hb hby d18_19) rfl rfl ?_
    show Steps p.tables e below (T19.setTop (mkF m 21 #[.val (.ref o0), .val (.ref x19_0_1), .val (.int (2 : Int32)), .val (.int (1 : Int32)), .val (.ref w4_P)] [(.ref w4_P)])) _
    refine st31 _ ?_
    refine XS.aloadN X31.here hx rfl (hb hby d18_24) rfl rfl ?_
    show Steps p.tables e below (T31.setTop (mkF m 25 #[.val (.ref o0), .val (.ref x19_0_1), .val (.int (2 : Int32)), .val (.int (1 : Int32)), .val (.ref w4_P)] [(.ref o0), (.ref w6_L)])) _
    refine st32.trans ?_
    show Steps p.tables e below (T32.setTop (mkF m 28 #[.val (.ref o0), .val (.ref x19_0_1), .val (.int (2 : Int32)), .val (.int (1 : Int32)), .val (.ref w4_P)] [(.int (fsqD (6 : Int32) (4 : Int32) w0))])) _
    refine XS.ifYes X32.here hx rfl (pc0 := 28) (pc' := 34) rfl (hb hby d18_28) rfl (XT.i0_eq_t rfl) (by decide) (by decide) ?_
    refine XT.iincV X32.here hx rfl (1 : Int32) (hb hby d18_34) (by decide) rfl (l' := #[.val (.ref o0), .val (.ref x19_0_1), .val (.int (2 : Int32)), .val (.int (2 : Int32)), .val (.ref w4_P)]) rfl ?_
    show Steps p.tables e below (T32.setTop (mkF m 37 #[.val (.ref o0), .val (.ref x19_0_1), .val (.int (2 : Int32)), .val (.int (2 : Int32)), .val (.ref w4_P)] [])) _
    refine XS.goto X32.here hx rfl (pc0 := 37) (pc' := 9) rfl (hb hby d18_37) (by decide) (by decide) ?_
    refine XS.iloadN X32.here hx rfl (hb hby d18_9) rfl ?_
    refine XS.iloadN X32.here hx rfl (hb hby d18_10) rfl ?_
    show Steps p.tables e below (T32.setTop (mkF m 11 #[.val (.ref o0), .val (.ref x19_0_1), .val (.int (2 : Int32)), .val (.int (2 : Int32)), .val (.ref w4_P)] [(.int (2 : Int32)), (.int (2 : Int32))])) _
    refine XS.icmpYes X32.here hx rfl (pc0 := 11) (pc' := 40) rfl (hb hby d18_11) rfl (XT.ii_ge_t (by decide)) (by decide) (by decide) ?_
    show Steps p.tables e below (T32.setTop (mkF m 40 #[.val (.ref o0), .val (.ref x19_0_1), .val (.int (2 : Int32)), .val (.int (2 : Int32)), .val (.ref w4_P)] [])) _
    refine XS.aconstNull X32.here hx rfl (hb hby d18_40) ?_
    show Steps p.tables e below (T32.setTop (mkF m 41 #[.val (.ref o0), .val (.ref x19_0_1), .val (.int (2 : Int32)), .val (.int (2 : Int32)), .val (.ref w4_P)] [.null])) _
    exact X32.areturnOut hx rfl Bd.returns rfl (hb hby d18_41) hr
  · skip
    show Qlb4n Z o0 w2_V w3_N w4_P kV w5_L w6_L w7_B kB0 w8_B kB1 w9_v w10_c w11_c w12_c w13_c kS w0 h0 n0 _ T32.heap _
    rw [e32]
    exact ⟨N32, rfl, ((Keep.refl h0 []).trans K1 all0)⟩
theorem ef_lb6y (m : MethodId) (o0 : Addr) : entryFrame m #[(.ref o0)] 5 = mkF m 0 #[.val (.ref o0), .unset, .unset, .unset, .unset] [] := by first | (simp [entryFrame, mkF, argsToLocals, Value.category]; done) | rfl
def vlb6y_1 (w10_c : Int32) (w11_c : Int32) (w12_c : Int32) (w13_c : Int32) (w14_c : Int32) (w15_c : Int32) (w0 : Int32) : Int32 := (fsqD (4 : Int32) (6 : Int32) w0)
def vlb6y_2 (w10_c : Int32) (w11_c : Int32) (w12_c : Int32) (w13_c : Int32) (w14_c : Int32) (w15_c : Int32) (w0 : Int32) : Int32 := (fsq6 (112 : Int32) (111 : Int32) (114 : Int32) (116 : Int32) (101 : Int32) (114 : Int32) w10_c w11_c w12_c w13_c w14_c w15_c w0)
def Qlb6y (Z : State) (o0 : Addr) (w2_V : Addr) (w3_N : Addr) (w4_P : Addr) (kV : ClassId) (w5_L : Addr) (w6_L : Addr) (w7_B : Addr) (kB0 : ClassId) (w8_B : Addr) (kB1 : ClassId) (w9_v : Addr) (w10_c : Int32) (w11_c : Int32) (w12_c : Int32) (w13_c : Int32) (w14_c : Int32) (w15_c : Int32) (kS : ClassId) (w0 : Int32) (h0 : Heap) (n0 : Nat) (v : Option Value) (h : Heap) (L : List Loc) : Prop := Fr n0 L ∧ v = some (.ref w4_P) ∧ Keep h0 h []
set_option maxRecDepth 65536 in
set_option maxHeartbeats 40000000 in
theorem rmlb6y (l : Launch) (Z : State) (a0 : Array Value) (hw : ∀ d ∈ tables_1, d.before a0 Z = true) (ws : List Jvm.Cond) (o0 : Addr) (w2_V : Addr) (w3_N : Addr) (w4_P : Addr) (kV : ClassId) (w5_L : Addr) (w6_L : Addr) (w7_B : Addr) (kB0 : ClassId) (w8_B : Addr) (kB1 : ClassId) (w9_v : Addr) (w10_c : Int32) (w11_c : Int32) (w12_c : Int32) (w13_c : Int32) (w14_c : Int32) (w15_c : Int32) (kS : ClassId) (w0 : Int32) (h0 : Heap) (n0 : Nat) (Z0 : n0 ≤ h0.size) (S_Stemmer__VALUES : Sta Z h0 "com/example/vellum_index/vellumindex/Stemmer" "$VALUES" "[Lcom/example/vellum_index/vellumindex/Stemmer;" (.ref w2_V)) (V_w2_V : Arv Z h0 w2_V kV (.object "com/example/vellum_index/vellumindex/Stemmer") (2 : Int32) [(.ref w3_N), (.ref w4_P)] .null) (E_w2_V : Exa Z h0 w2_V "[Lcom/example/vellum_index/vellumindex/Stemmer;") (E_w3_N : Exa Z h0 w3_N "com/example/vellum_index/vellumindex/Stemmer$1") (E_w4_P : Exa Z h0 w4_P "com/example/vellum_index/vellumindex/Stemmer$2") (F_label_w3_N : Fld Z h0 w3_N "com/example/vellum_index/vellumindex/Stemmer" "label" "Ljava/lang/String;" (.ref w5_L)) (F_label_w4_P : Fld Z h0 w4_P "com/example/vellum_index/vellumindex/Stemmer" "label" "Ljava/lang/String;" (.ref w6_L)) (E_w5_L : Exa Z h0 w5_L "java/lang/String") (F_coder_w5_L : Fld Z h0 w5_L "java/lang/String" "coder" "B" (.int (0 : Int32))) (F_value_w5_L : Fld Z h0 w5_L "java/lang/String" "value" "[B" (.ref w7_B)) (V_w7_B : Arv Z h0 w7_B kB0 .byte (4 : Int32) [(.int (110 : Int32)), (.int (111 : Int32)), (.int (110 : Int32)), (.int (101 : Int32))] (.int (0 : Int32))) (E_w6_L : Exa Z h0 w6_L "java/lang/String") (F_coder_w6_L : Fld Z h0 w6_L "java/lang/String" "coder" "B" (.int (0 : Int32))) (F_value_w6_L : Fld Z h0 w6_L "java/lang/String" "value" "[B" (.ref w8_B)) (V_w8_B : Arv Z h0 w8_B kB1 .byte (6 : Int32) [(.int (112 : Int32)), (.int (111 : Int32)), (.int (114 : Int32)), (.int (116 : Int32)), (.int (101 : Int32)), (.int (114 : Int32))] (.int (0 : Int32))) (E_o0 : Exa Z h0 o0 "java/lang/String") (F_coder_o0 : Fld Z h0 o0 "java/lang/String" "coder" "B" (.int (0 : Int32))) (F_value_o0 : Fld Z h0 o0 "java/lang/String" "value" "[B" (.ref w9_v)) (V_w9_v : Arv Z h0 w9_v kS .byte (6 : Int32) [(.int w10_c), (.int w11_c), (.int w12_c), (.int w13_c), (.int w14_c), (.int w15_c)] (.int (0 : Int32))) (ne_w5_L_o0 : w5_L ≠ o0) (ne_w6_L_o0 : w6_L ≠ o0) (S_String_COMPACT_STRINGS : Sta Z h0 "java/lang/String" "COMPACT_STRINGS" "Z" (.int w0)) (hcs : ¬ (w0 = (0 : Int32))) (hy1 : ¬ ((vlb6y_2 w10_c w11_c w12_c w13_c w14_c w15_c w0) = (0 : Int32))) :
    MetFree l (⟨"com/example/vellum_index/vellumindex/Stemmer", "labelled", "(Ljava/lang/String;)Lcom/example/vellum_index/vellumindex/Stemmer;"⟩ : MethodName) (head1 (Jvm.Cond.code (⟨"com/example/vellum_index/vellumindex/Stemmer", "labelled", "(Ljava/lang/String;)Lcom/example/vellum_index/vellumindex/Stemmer;"⟩ : MethodName) prog_30_method_6_code 5 (some (.object "com/example/vellum_index/vellumindex/Stemmer")) :: ws) ({ frames := 2, cells := 1, slots := 2, locals := 28 } : Room)) (fun a U => a = #[(.ref o0)] ∧ Z.Warmed39 U.vm ∧ U.heap = h0) (fun _ _ _ _ _ => True) (fun _ U o U' => ∃ v L, o = .returned v ∧ Qlb6y Z o0 w2_V w3_N w4_P kV w5_L w6_L w7_B kB0 w8_B kB1 w9_v w10_c w11_c w12_c w13_c w14_c w15_c kS w0 h0 n0 v U'.heap L ∧ FrameEnd U o U' L ({ frames := 2, cells := 1, slots := 2, locals := 28 } : Room).cells ({ frames := 2, cells := 1, slots := 2, locals := 28 } : Room).slots) := by
  refine MetFree.of_bodySF (plainFor_of_name pn_com_example_vellum_index_vellumindex_Stemmer) hisR ?_
  intro p e s m args below meth c s₁ Bd hml0 hP hK
  obtain ⟨rfl, hZ, hh⟩ := hP
  have hx := Bd.exec
  have hby := Bd.bytes
  have hml : c.maxLocals = 5 := hml0
  have hown : s.vm.findClass "com/example/vellum_index/vellumindex/Stemmer" = some m.cls := findClass_of_methodNamed Bd.named
  have hnm := (name_of_methodNamed Bd.named Bd.method).1
  have hlk := BodyLoose.notSynchronized Bd
  have X0 : Stand p l e ({ frames := 2, cells := 1, slots := 2, locals := 28 } : Room) s m #[(.ref o0)] below meth c s₁ [] 0 0 := Stand.of_body Bd
  have e0 : s₁.heap = h0 := by rw [← hh, Bd.state]; rfl
  have N0 := Fr.nil n0
  have pre0 : ∀ t, Steps p.tables e below (s₁.setTop (mkF m 0 #[.val (.ref o0), .unset, .unset, .unset, .unset] [])) t → Steps p.tables e below (s₁.setTop (entryFrame m #[(.ref o0)] 5)) t := fun t k => castTop (ef_lb6y m o0) k
  obtain ⟨vr1, _, ⟨T1, L1, k1, n1⟩, -, X1, ⟨Lc1, hQ1, l1, y1, z1⟩, st1⟩ := Jvm.LawKit.callS X0 hx (y := (⟨"com/example/vellum_index/vellumindex/Stemmer", "values", "()[Lcom/example/vellum_index/vellumindex/Stemmer;"⟩ : MethodName)) hown (mvT hZ (wd hw 87 rfl)) (mvT hZ (wd hw 88 rfl)) (mvT hZ (wd hw 85 rfl)) (mvT hZ (wd hw 89 rfl)) (by decide) (backOf (W := 0) (rm19 l Z a0 hw [] w2_V w3_N w4_P kV h0 n0 Z0 S_Stemmer__VALUES V_w2_V E_w2_V) hZ (wd hw 89 rfl) (wd hw 85 rfl) (by decide) (by decide)) (g := (mkF m 0 #[.val (.ref o0), .unset, .unset, .unset, .unset] [])) rfl (by rw [hml]; rfl) (argsL := []) (rest := []) (lenOf pd____Lcom_example_vellum_index_vellumindex_Stemmer_ rfl) rfl (by show 2 * 0 + _ ≤ _; exact Nat.le_of_eq rfl) (hb hby d18_0) (fun _ _ => ⟨rfl, e0, (by decide : 0 + 1 ≤ _), (by decide : 0 + 2 ≤ _)⟩)
  dsimp only [Pt.U, Pt.locs, Pt.cells, Pt.slots] at X1 l1 y1 z1 st1 hQ1
  replace X1 := own_stand X1 l1 y1 z1
  clear l1 y1 z1
  have N1q := (show _ ∧ _ from hQ1).1
  have hq1 := (show _ ∧ _ from hQ1).2
  clear hQ1
  obtain ⟨x19_0_1, hq1x⟩ := hq1
  have hv1 := hq1x.1
  have szx19_0_1 := hq1x.2.1
  have K1 := hq1x.2.2.1
  have po1_0 := hq1x.2.2.2.1
  have po1_1 := hq1x.2.2.2.2
  clear hq1x
  subst hv1
  have ne2 : w2_V ≠ x19_0_1 := Nat.ne_of_lt (Nat.lt_of_lt_of_le E_w2_V.lt szx19_0_1)
  have ne3 : w3_N ≠ x19_0_1 := Nat.ne_of_lt (Nat.lt_of_lt_of_le E_w3_N.lt szx19_0_1)
  have ne4 : w4_P ≠ x19_0_1 := Nat.ne_of_lt (Nat.lt_of_lt_of_le E_w4_P.lt szx19_0_1)
  have ne5 : w5_L ≠ x19_0_1 := Nat.ne_of_lt (Nat.lt_of_lt_of_le E_w5_L.lt szx19_0_1)
  have ne6 : w6_L ≠ x19_0_1 := Nat.ne_of_lt (Nat.lt_of_lt_of_le E_w6_L.lt szx19_0_1)
  have ne7 : o0 ≠ x19_0_1 := Nat.ne_of_lt (Nat.lt_of_lt_of_le E_o0.lt szx19_0_1)
  have ne8 : w7_B ≠ x19_0_1 := Nat.ne_of_lt (Nat.lt_of_lt_of_le V_w7_B.lt szx19_0_1)
  have ne9 : w8_B ≠ x19_0_1 := Nat.ne_of_lt (Nat.lt_of_lt_of_le V_w8_B.lt szx19_0_1)
  have ne10 : w9_v ≠ x19_0_1 := Nat.ne_of_lt (Nat.lt_of_lt_of_le V_w9_v.lt szx19_0_1)
  have g11 : n0 ≤ x19_0_1 := Nat.le_trans Z0 szx19_0_1
  have sz12 : h0.size ≤ x19_0_1 := Nat.le_trans (Nat.le_refl h0.size) szx19_0_1
  have z13 : n0 ≤ T1.heap.size := Nat.le_trans Z0 K1.1
  have hs14 : h0.size ≤ T1.heap.size := Nat.le_trans (Nat.le_refl h0.size) K1.1
  have N1 := Fr.app N0 N1q
  obtain ⟨cl15, Ar15, qc15, S15, M15, Ha15, G15⟩ := id po1_1
  have hin16 : ¬ ((0 : Int32) < 0 ∨ cl15.slots.size ≤ ((0 : Int32)).toNatClampNeg) := inb_of S15 ⟨by decide, by decide⟩
  have k17 := (F_label_w3_N.keep K1 nin0)
  obtain ⟨T18, X18, e18, st18⟩ := getF X1 hx hZ hown (host := "") (Or.inl (wd hw 102 rfl)) Via.refl rfl k17 (g := (mkF m 21 #[.val (.ref o0), .val (.ref x19_0_1), .val (.int (2 : Int32)), .val (.int (0 : Int32)), .val (.ref w3_N)] [(.ref w3_N)])) rfl rfl (hb hby d18_21)
  have k20 := (E_w5_L.keep K1)
  have k21 := (F_coder_w5_L.keep K1 nin0)
  have k22 := (F_value_w5_L.keep K1 nin0)
  have k23 := (V_w7_B.keep K1 nin0)
  have k24 := (E_o0.keep K1)
  have k25 := (F_coder_o0.keep K1 nin0)
  have k26 := (F_value_o0.keep K1 nin0)
  have k27 := (V_w9_v.keep K1 nin0)
  have k28 := (own_sta_keep0 S_String_COMPACT_STRINGS K1)
  obtain ⟨cq19, kq19, q19a, q19b, q19c⟩ := isOf hZ e18 k20
  obtain ⟨vr19, _, ⟨T19, L19, k19, n19⟩, -, X19, ⟨Lc19, hQ19, l19, y19, z19⟩, st19⟩ := Jvm.Stand.virtualBack X18 hx (y := (⟨"java/lang/String", "equals", "(Ljava/lang/Object;)Z"⟩ : MethodName)) (z := (⟨"java/lang/String", "equals", "(Ljava/lang/Object;)Z"⟩ : MethodName)) hown (mvT hZ (wd hw 104 rfl)) (mvT hZ (wd hw 74 rfl)) (notFace_of_selects (args := #[]) (mvT hZ (wd hw 76 rfl))) (mvT hZ (wd hw 76 rfl)) (mvT hZ (wd hw 75 rfl)) (by decide) (backOf (W := 0) (rmsqD l Z a0 hw [] w5_L o0 w7_B (4 : Int32) ([(.int (110 : Int32)), (.int (111 : Int32)), (.int (110 : Int32)), (.int (101 : Int32))]) kB0 w9_v (6 : Int32) ([(.int w10_c), (.int w11_c), (.int w12_c), (.int w13_c), (.int w14_c), (.int w15_c)]) kS w0 T1.heap n0 z13 k20 k21 k22 k23 k24 k25 k26 k27 ne_w5_L_o0 k28 hcs (by decide)) hZ (wd hw 77 rfl) (wd hw 10 rfl) (by decide) (by decide)) q19a q19c (g := (mkF m 25 #[.val (.ref o0), .val (.ref x19_0_1), .val (.int (2 : Int32)), .val (.int (0 : Int32)), .val (.ref w3_N)] [(.ref o0), (.ref w5_L)])) rfl (by rw [hml]; rfl) (Steps.refl _) (argsL := [(.ref o0)]) (rest := []) (lenOf pd__Ljava_lang_Object__Z rfl) rfl (by show 2 * 0 + _ ≤ _; exact Nat.le_of_eq rfl) (hb hby d18_25) (fun _ _ => ⟨rfl, e18, (by decide : 1 + 0 ≤ _), (by decide : 2 + 0 ≤ _)⟩)
  dsimp only [Pt.U, Pt.locs, Pt.cells, Pt.slots] at X19 l19 y19 z19 st19 hQ19
  replace X19 := own_stand X19 l19 y19 z19
  clear l19 y19 z19
  have N19q := (show _ ∧ _ ∧ _ from hQ19).1
  have hv19 := (show _ ∧ _ ∧ _ from hQ19).2.1
  have e19 := (show _ ∧ _ ∧ _ from hQ19).2.2
  clear hQ19
  subst hv19
  have N19 := Fr.app N1 N19q
  have hin29 : ¬ ((1 : Int32) < 0 ∨ cl15.slots.size ≤ ((1 : Int32)).toNatClampNeg) := inb_of S15 ⟨by decide, by decide⟩
  have k30 := (F_label_w4_P.keep K1 nin0)
  obtain ⟨T31, X31, e31, st31⟩ := getF X19 hx hZ hown (host := "") (Or.inl (wd hw 102 rfl)) Via.refl e19 k30 (g := (mkF m 21 #[.val (.ref o0), .val (.ref x19_0_1), .val (.int (2 : Int32)), .val (.int (1 : Int32)), .val (.ref w4_P)] [(.ref w4_P)])) rfl rfl (hb hby d18_21)
  have k33 := (E_w6_L.keep K1)
  have k34 := (F_coder_w6_L.keep K1 nin0)
  have k35 := (F_value_w6_L.keep K1 nin0)
  have k36 := (V_w8_B.keep K1 nin0)
  obtain ⟨cq32, kq32, q32a, q32b, q32c⟩ := isOf hZ e31 k33
  obtain ⟨vr32, _, ⟨T32, L32, k32, n32⟩, -, X32, ⟨Lc32, hQ32, l32, y32, z32⟩, st32⟩ := Jvm.Stand.virtualBack X31 hx (y := (⟨"java/lang/String", "equals", "(Ljava/lang/Object;)Z"⟩ : MethodName)) (z := (⟨"java/lang/String", "equals", "(Ljava/lang/Object;)Z"⟩ : MethodName)) hown (mvT hZ (wd hw 104 rfl)) (mvT hZ (wd hw 74 rfl)) (notFace_of_selects (args := #[]) (mvT hZ (wd hw 76 rfl))) (mvT hZ (wd hw 76 rfl)) (mvT hZ (wd hw 75 rfl)) (by decide) (backOf (W := 0) (rmsq6 l Z a0 hw [] w6_L o0 w8_B (112 : Int32) (111 : Int32) (114 : Int32) (116 : Int32) (101 : Int32) (114 : Int32) kB1 w9_v w10_c w11_c w12_c w13_c w14_c w15_c kS w0 T1.heap n0 z13 k33 k34 k35 k36 k24 k25 k26 k27 ne_w6_L_o0 k28 hcs) hZ (wd hw 77 rfl) (wd hw 10 rfl) (by decide) (by decide)) q32a q32c (g := (mkF m 25 #[.val (.ref o0), .val (.ref x19_0_1), .val (.int (2 : Int32)), .val (.int (1 : Int32)), .val (.ref w4_P)] [(.ref o0), (.ref w6_L)])) rfl (by rw [hml]; rfl) (Steps.refl _) (argsL := [(.ref o0)]) (rest := []) (lenOf pd__Ljava_lang_Object__Z rfl) rfl (by show 2 * 0 + _ ≤ _; exact Nat.le_of_eq rfl) (hb hby d18_25) (fun _ _ => ⟨rfl, e31, (by decide : 1 + 0 ≤ _), (by decide : 2 + 0 ≤ _)⟩)
  dsimp only [Pt.U, Pt.locs, Pt.cells, Pt.slots] at X32 l32 y32 z32 st32 hQ32
  replace X32 := own_stand X32 l32 y32 z32
  clear l32 y32 z32
  have N32q := (show _ ∧ _ ∧ _ from hQ32).1
  have hv32 := (show _ ∧ _ ∧ _ from hQ32).2.1
  have e32 := (show _ ∧ _ ∧ _ from hQ32).2.2
  clear hQ32
  subst hv32
  have N32 := Fr.app N19 N32q
  obtain ⟨fs, hr, hrun, hended, hW, hsame⟩ := X32.leave (v := some (.ref w4_P)) (fun h => by rw [Bd.returns] at h; cases h) hlk
  refine ⟨_, _, pre0 _ ?_, hrun, hended, _, _, rfl, ?_, ⟨_, rfl⟩, hW, hsame.mono (by decide) (by decide)⟩
  · skip
    show Steps p.tables e below (s₁.setTop (mkF m 0 #[.val (.ref o0), .unset, .unset, .unset, .unset] [])) _
    refine st1 _ ?_
    refine XS.astoreN X1.here hx rfl (hb hby d18_3) rfl rfl (l' := #[.val (.ref o0), .val (.ref x19_0_1), .unset, .unset, .unset]) rfl ?_
    refine XS.aloadN X1.here hx rfl (hb hby d18_4) rfl rfl ?_
    show Steps p.tables e below (T1.setTop (mkF m 5 #[.val (.ref o0), .val (.ref x19_0_1), .unset, .unset, .unset] [(.ref x19_0_1)])) _
    refine X1.arraylength hx Ar15.1 (State.isArrayOf_alike hZ.alike Ar15.2.1) (g := (mkF m 5 #[.val (.ref o0), .val (.ref x19_0_1), .unset, .unset, .unset] [(.ref x19_0_1)])) rfl rfl (hb hby d18_5) _ ?_
    rw [len_of S15 M15]
    refine XS.istoreN X1.here hx rfl (hb hby d18_6) rfl (l' := #[.val (.ref o0), .val (.ref x19_0_1), .val (.int (2 : Int32)), .unset, .unset]) rfl ?_
    refine XT.iconstV X1.here hx rfl (0 : Int32) (hb hby d18_7) (by decide) ?_
    refine XS.istoreN X1.here hx rfl (hb hby d18_8) rfl (l' := #[.val (.ref o0), .val (.ref x19_0_1), .val (.int (2 : Int32)), .val (.int (0 : Int32)), .unset]) rfl ?_
    show Steps p.tables e below (T1.setTop (mkF m 9 #[.val (.ref o0), .val (.ref x19_0_1), .val (.int (2 : Int32)), .val (.int (0 : Int32)), .unset] [])) _
    refine XS.iloadN X1.here hx rfl (hb hby d18_9) rfl ?_
    refine XS.iloadN X1.here hx rfl (hb hby d18_10) rfl ?_
    show Steps p.tables e below (T1.setTop (mkF m 11 #[.val (.ref o0), .val (.ref x19_0_1), .val (.int (2 : Int32)), .val (.int (0 : Int32)), .unset] [(.int (2 : Int32)), (.int (0 : Int32))])) _
    refine XS.icmpNo X1.here hx rfl (hb hby d18_11) rfl (XT.ii_ge_f (by decide)) ?_
    refine XS.aloadN X1.here hx rfl (hb hby d18_14) rfl rfl ?_
    refine XS.iloadN X1.here hx rfl (hb hby d18_15) rfl ?_
    show Steps p.tables e below (T1.setTop (mkF m 16 #[.val (.ref o0), .val (.ref x19_0_1), .val (.int (2 : Int32)), .val (.int (0 : Int32)), .unset] [(.int (0 : Int32)), (.ref x19_0_1)])) _
    refine X1.aaload hx (j := (0 : Int32)) (v := (.ref w3_N)) Ar15.1 (State.isArrayOf_alike hZ.alike Ar15.2.1) rfl Ar15.2.2 hin16 (Has.at Ha15 hin16 rfl) (g := (mkF m 16 #[.val (.ref o0), .val (.ref x19_0_1), .val (.int (2 : Int32)), .val (.int (0 : Int32)), .unset] [(.int (0 : Int32)), (.ref x19_0_1)])) rfl rfl (hb hby d18_16) _ ?_
    refine XS.astore X1.here hx rfl (hb hby d18_17) rfl rfl (l' := #[.val (.ref o0), .val (.ref x19_0_1), .val (.int (2 : Int32)), .val (.int (0 : Int32)), .val (.ref w3_N)]) rfl ?_
    refine XS.aload X1.here hx rfl (hb hby d18_19) rfl rfl ?_
    show Steps p.tables e below (T1.setTop (mkF m 21 #[.val (.ref o0), .val (.ref x19_0_1), .val (.int (2 : Int32)), .val (.int (0 : Int32)), .val (.ref w3_N)] [(.ref w3_N)])) _
    refine st18 _ ?_
    refine XS.aloadN X18.here hx rfl (hb hby d18_24) rfl rfl ?_
    show Steps p.tables e below (T18.setTop (mkF m 25 #[.val (.ref o0), .val (.ref x19_0_1), .val (.int (2 : Int32)), .val (.int (0 : Int32)), .val (.ref w3_N)] [(.ref o0), (.ref w5_L)])) _
    refine st19.trans ?_
    show Steps p.tables e below (T19.setTop (mkF m 28 #[.val (.ref o0), .val (.ref x19_0_1), .val (.int (2 : Int32)), .val (.int (0 : Int32)), .val (.ref w3_N)] [(.int (fsqD (4 : Int32) (6 : Int32) w0))])) _
    refine XS.ifYes X19.here hx rfl (pc0 := 28) (pc' := 34) rfl (hb hby d18_28) rfl (XT.i0_eq_t rfl) (by decide) (by decide) ?_
    refine XT.iincV X19.here hx rfl (1 : Int32) (hb hby d18_34) (by decide) rfl (l' := #[.val (.ref o0), .val (.ref x19_0_1), .val (.int (2 : Int32)), .val (.int (1 : Int32)), .val (.ref w3_N)]) rfl ?_
    show Steps p.tables e below (T19.setTop (mkF m 37 #[.val (.ref o0), .val (.ref x19_0_1), .val (.int (2 : Int32)), .val (.int (1 : Int32)), .val (.ref w3_N)] [])) _
    refine XS.goto X19.here hx rfl (pc0 := 37) (pc' := 9) rfl (hb hby d18_37) (by decide) (by decide) ?_
    refine XS.iloadN X19.here hx rfl (hb hby d18_9) rfl ?_
    refine XS.iloadN X19.here hx rfl (hb hby d18_10) rfl ?_
    show Steps p.tables e below (T19.setTop (mkF m 11 #[.val (.ref o0), .val (.ref x19_0_1), .val (.int (2 : Int32)), .val (.int (1 : Int32)), .val (.ref w3_N)] [(.int (2 : Int32)), (.int (1 : Int32))])) _
    refine XS.icmpNo X19.here hx rfl (hb hby d18_11) rfl (XT.ii_ge_f (by decide)) ?_
    refine XS.aloadN X19.here hx rfl (hb hby d18_14) rfl rfl ?_
    refine XS.iloadN X19.here hx rfl (hb hby d18_15) rfl ?_
    show Steps p.tables e below (T19.setTop (mkF m 16 #[.val (.ref o0), .val (.ref x19_0_1), .val (.int (2 : Int32)), .val (.int (1 : Int32)), .val (.ref w3_N)] [(.int (1 : Int32)), (.ref x19_0_1)])) _
    refine X19.aaload hx (j := (1 : Int32)) (v := (.ref w4_P)) (by rw [e19]; exact Ar15.1) (State.isArrayOf_alike hZ.alike Ar15.2.1) rfl Ar15.2.2 hin29 (Has.at Ha15 hin29 rfl) (g := (mkF m 16 #[.val (.ref o0), .val (.ref x19_0_1), .val (.int (2 : Int32)), .val (.int (1 : Int32)), .val (.ref w3_N)] [(.int (1 : Int32)), (.ref x19_0_1)])) rfl rfl (hb hby d18_16) _ ?_
    refine XS.astore X19.here hx rfl (hb hby d18_17) rfl rfl (l' := #[.val (.ref o0), .val (.ref x19_0_1), .val (.int (2 : Int32)), .val (.int (1 : Int32)), .val (.ref w4_P)]) rfl ?_
    refine XS.aload X19.here hx rfl (hb hby d18_19) rfl rfl ?_
    show Steps p.tables e below (T19.setTop (mkF m 21 #[.val (.ref o0), .val (.ref x19_0_1), .val (.int (2 : Int32)), .val (.int (1 : Int32)), .val (.ref w4_P)] [(.ref w4_P)])) _
    refine st31 _ ?_
    refine XS.aloadN X31.here hx rfl (hb hby d18_24) rfl rfl ?_
    show Steps p.tables e below (T31.setTop (mkF m 25 #[.val (.ref o0), .val (.ref x19_0_1), .val (.int (2 : Int32)), .val (.int (1 : Int32)), .val (.ref w4_P)] [(.ref o0), (.ref w6_L)])) _
    refine st32.trans ?_
    show Steps p.tables e below (T32.setTop (mkF m 28 #[.val (.ref o0), .val (.ref x19_0_1), .val (.int (2 : Int32)), .val (.int (1 : Int32)), .val (.ref w4_P)] [(.int (fsq6 (112 : Int32) (111 : Int32) (114 : Int32) (116 : Int32) (101 : Int32) (114 : Int32) w10_c w11_c w12_c w13_c w14_c w15_c w0))])) _
    refine XS.ifNo X32.here hx rfl (hb hby d18_28) rfl (XT.i0_eq_f hy1) ?_
    refine XS.aload X32.here hx rfl (hb hby d18_31) rfl rfl ?_
    show Steps p.tables e below (T32.setTop (mkF m 33 #[.val (.ref o0), .val (.ref x19_0_1), .val (.int (2 : Int32)), .val (.int (1 : Int32)), .val (.ref w4_P)] [(.ref w4_P)])) _
    exact X32.areturnOut hx rfl Bd.returns rfl (hb hby d18_33) hr
  · skip
    show Qlb6y Z o0 w2_V w3_N w4_P kV w5_L w6_L w7_B kB0 w8_B kB1 w9_v w10_c w11_c w12_c w13_c w14_c w15_c kS w0 h0 n0 _ T32.heap _
    rw [e32]
    exact ⟨N32, rfl, ((Keep.refl h0 []).trans K1 all0)⟩
theorem ef_lb6n (m : MethodId) (o0 : Addr) : entryFrame m #[(.ref o0)] 5 = mkF m 0 #[.val (.ref o0), .unset, .unset, .unset, .unset] [] := by first | (simp [entryFrame, mkF, argsToLocals, Value.category]; done) | rfl
def vlb6n_1 (w10_c : Int32) (w11_c : Int32) (w12_c : Int32) (w13_c : Int32) (w14_c : Int32) (w15_c : Int32) (w0 : Int32) : Int32 := (fsqD (4 : Int32) (6 : Int32) w0)
def vlb6n_2 (w10_c : Int32) (w11_c : Int32) (w12_c : Int32) (w13_c : Int32) (w14_c : Int32) (w15_c : Int32) (w0 : Int32) : Int32 := (fsq6 (112 : Int32) (111 : Int32) (114 : Int32) (116 : Int32) (101 : Int32) (114 : Int32) w10_c w11_c w12_c w13_c w14_c w15_c w0)
def Qlb6n (Z : State) (o0 : Addr) (w2_V : Addr) (w3_N : Addr) (w4_P : Addr) (kV : ClassId) (w5_L : Addr) (w6_L : Addr) (w7_B : Addr) (kB0 : ClassId) (w8_B : Addr) (kB1 : ClassId) (w9_v : Addr) (w10_c : Int32) (w11_c : Int32) (w12_c : Int32) (w13_c : Int32) (w14_c : Int32) (w15_c : Int32) (kS : ClassId) (w0 : Int32) (h0 : Heap) (n0 : Nat) (v : Option Value) (h : Heap) (L : List Loc) : Prop := Fr n0 L ∧ v = some .null ∧ Keep h0 h []
set_option maxRecDepth 65536 in
set_option maxHeartbeats 40000000 in
theorem rmlb6n (l : Launch) (Z : State) (a0 : Array Value) (hw : ∀ d ∈ tables_1, d.before a0 Z = true) (ws : List Jvm.Cond) (o0 : Addr) (w2_V : Addr) (w3_N : Addr) (w4_P : Addr) (kV : ClassId) (w5_L : Addr) (w6_L : Addr) (w7_B : Addr) (kB0 : ClassId) (w8_B : Addr) (kB1 : ClassId) (w9_v : Addr) (w10_c : Int32) (w11_c : Int32) (w12_c : Int32) (w13_c : Int32) (w14_c : Int32) (w15_c : Int32) (kS : ClassId) (w0 : Int32) (h0 : Heap) (n0 : Nat) (Z0 : n0 ≤ h0.size) (S_Stemmer__VALUES : Sta Z h0 "com/example/vellum_index/vellumindex/Stemmer" "$VALUES" "[Lcom/example/vellum_index/vellumindex/Stemmer;" (.ref w2_V)) (V_w2_V : Arv Z h0 w2_V kV (.object "com/example/vellum_index/vellumindex/Stemmer") (2 : Int32) [(.ref w3_N), (.ref w4_P)] .null) (E_w2_V : Exa Z h0 w2_V "[Lcom/example/vellum_index/vellumindex/Stemmer;") (E_w3_N : Exa Z h0 w3_N "com/example/vellum_index/vellumindex/Stemmer$1") (E_w4_P : Exa Z h0 w4_P "com/example/vellum_index/vellumindex/Stemmer$2") (F_label_w3_N : Fld Z h0 w3_N "com/example/vellum_index/vellumindex/Stemmer" "label" "Ljava/lang/String;" (.ref w5_L)) (F_label_w4_P : Fld Z h0 w4_P "com/example/vellum_index/vellumindex/Stemmer" "label" "Ljava/lang/String;" (.ref w6_L)) (E_w5_L : Exa Z h0 w5_L "java/lang/String") (F_coder_w5_L : Fld Z h0 w5_L "java/lang/String" "coder" "B" (.int (0 : Int32))) (F_value_w5_L : Fld Z h0 w5_L "java/lang/String" "value" "[B" (.ref w7_B)) (V_w7_B : Arv Z h0 w7_B kB0 .byte (4 : Int32) [(.int (110 : Int32)), (.int (111 : Int32)), (.int (110 : Int32)), (.int (101 : Int32))] (.int (0 : Int32))) (E_w6_L : Exa Z h0 w6_L "java/lang/String") (F_coder_w6_L : Fld Z h0 w6_L "java/lang/String" "coder" "B" (.int (0 : Int32))) (F_value_w6_L : Fld Z h0 w6_L "java/lang/String" "value" "[B" (.ref w8_B)) (V_w8_B : Arv Z h0 w8_B kB1 .byte (6 : Int32) [(.int (112 : Int32)), (.int (111 : Int32)), (.int (114 : Int32)), (.int (116 : Int32)), (.int (101 : Int32)), (.int (114 : Int32))] (.int (0 : Int32))) (E_o0 : Exa Z h0 o0 "java/lang/String") (F_coder_o0 : Fld Z h0 o0 "java/lang/String" "coder" "B" (.int (0 : Int32))) (F_value_o0 : Fld Z h0 o0 "java/lang/String" "value" "[B" (.ref w9_v)) (V_w9_v : Arv Z h0 w9_v kS .byte (6 : Int32) [(.int w10_c), (.int w11_c), (.int w12_c), (.int w13_c), (.int w14_c), (.int w15_c)] (.int (0 : Int32))) (ne_w5_L_o0 : w5_L ≠ o0) (ne_w6_L_o0 : w6_L ≠ o0) (S_String_COMPACT_STRINGS : Sta Z h0 "java/lang/String" "COMPACT_STRINGS" "Z" (.int w0)) (hcs : ¬ (w0 = (0 : Int32))) (hy1 : (vlb6n_2 w10_c w11_c w12_c w13_c w14_c w15_c w0) = (0 : Int32)) :
    MetFree l (⟨"com/example/vellum_index/vellumindex/Stemmer", "labelled", "(Ljava/lang/String;)Lcom/example/vellum_index/vellumindex/Stemmer;"⟩ : MethodName) (head1 (Jvm.Cond.code (⟨"com/example/vellum_index/vellumindex/Stemmer", "labelled", "(Ljava/lang/String;)Lcom/example/vellum_index/vellumindex/Stemmer;"⟩ : MethodName) prog_30_method_6_code 5 (some (.object "com/example/vellum_index/vellumindex/Stemmer")) :: ws) ({ frames := 2, cells := 1, slots := 2, locals := 28 } : Room)) (fun a U => a = #[(.ref o0)] ∧ Z.Warmed39 U.vm ∧ U.heap = h0) (fun _ _ _ _ _ => True) (fun _ U o U' => ∃ v L, o = .returned v ∧ Qlb6n Z o0 w2_V w3_N w4_P kV w5_L w6_L w7_B kB0 w8_B kB1 w9_v w10_c w11_c w12_c w13_c w14_c w15_c kS w0 h0 n0 v U'.heap L ∧ FrameEnd U o U' L ({ frames := 2, cells := 1, slots := 2, locals := 28 } : Room).cells ({ frames := 2, cells := 1, slots := 2, locals := 28 } : Room).slots) := by
  refine MetFree.of_bodySF (plainFor_of_name pn_com_example_vellum_index_vellumindex_Stemmer) hisR ?_
  intro p e s m args below meth c s₁ Bd hml0 hP hK
  obtain ⟨rfl, hZ, hh⟩ := hP
  have hx := Bd.exec
  have hby := Bd.bytes
  have hml : c.maxLocals = 5 := hml0
  have hown : s.vm.findClass "com/example/vellum_index/vellumindex/Stemmer" = some m.cls := findClass_of_methodNamed Bd.named
  have hnm := (name_of_methodNamed Bd.named Bd.method).1
  have hlk := BodyLoose.notSynchronized Bd
  have X0 : Stand p l e ({ frames := 2, cells := 1, slots := 2, locals := 28 } : Room) s m #[(.ref o0)] below meth c s₁ [] 0 0 := Stand.of_body Bd
  have e0 : s₁.heap = h0 := by rw [← hh, Bd.state]; rfl
  have N0 := Fr.nil n0
  have pre0 : ∀ t, Steps p.tables e below (s₁.setTop (mkF m 0 #[.val (.ref o0), .unset, .unset, .unset, .unset] [])) t → Steps p.tables e below (s₁.setTop (entryFrame m #[(.ref o0)] 5)) t := fun t k => castTop (ef_lb6n m o0) k
  obtain ⟨vr1, _, ⟨T1, L1, k1, n1⟩, -, X1, ⟨Lc1, hQ1, l1, y1, z1⟩, st1⟩ := Jvm.LawKit.callS X0 hx (y := (⟨"com/example/vellum_index/vellumindex/Stemmer", "values", "()[Lcom/example/vellum_index/vellumindex/Stemmer;"⟩ : MethodName)) hown (mvT hZ (wd hw 87 rfl)) (mvT hZ (wd hw 88 rfl)) (mvT hZ (wd hw 85 rfl)) (mvT hZ (wd hw 89 rfl)) (by decide) (backOf (W := 0) (rm19 l Z a0 hw [] w2_V w3_N w4_P kV h0 n0 Z0 S_Stemmer__VALUES V_w2_V E_w2_V) hZ (wd hw 89 rfl) (wd hw 85 rfl) (by decide) (by decide)) (g := (mkF m 0 #[.val (.ref o0), .unset, .unset, .unset, .unset] [])) rfl (by rw [hml]; rfl) (argsL := []) (rest := []) (lenOf pd____Lcom_example_vellum_index_vellumindex_Stemmer_ rfl) rfl (by show 2 * 0 + _ ≤ _; exact Nat.le_of_eq rfl) (hb hby d18_0) (fun _ _ => ⟨rfl, e0, (by decide : 0 + 1 ≤ _), (by decide : 0 + 2 ≤ _)⟩)
  dsimp only [Pt.U, Pt.locs, Pt.cells, Pt.slots] at X1 l1 y1 z1 st1 hQ1
  replace X1 := own_stand X1 l1 y1 z1
  clear l1 y1 z1
  have N1q := (show _ ∧ _ from hQ1).1
  have hq1 := (show _ ∧ _ from hQ1).2
  clear hQ1
  obtain ⟨x19_0_1, hq1x⟩ := hq1
  have hv1 := hq1x.1
  have szx19_0_1 := hq1x.2.1
  have K1 := hq1x.2.2.1
  have po1_0 := hq1x.2.2.2.1
  have po1_1 := hq1x.2.2.2.2
  clear hq1x
  subst hv1
  have ne2 : w2_V ≠ x19_0_1 := Nat.ne_of_lt (Nat.lt_of_lt_of_le E_w2_V.lt szx19_0_1)
  have ne3 : w3_N ≠ x19_0_1 := Nat.ne_of_lt (Nat.lt_of_lt_of_le E_w3_N.lt szx19_0_1)
  have ne4 : w4_P ≠ x19_0_1 := Nat.ne_of_lt (Nat.lt_of_lt_of_le E_w4_P.lt szx19_0_1)
  have ne5 : w5_L ≠ x19_0_1 := Nat.ne_of_lt (Nat.lt_of_lt_of_le E_w5_L.lt szx19_0_1)
  have ne6 : w6_L ≠ x19_0_1 := Nat.ne_of_lt (Nat.lt_of_lt_of_le E_w6_L.lt szx19_0_1)
  have ne7 : o0 ≠ x19_0_1 := Nat.ne_of_lt (Nat.lt_of_lt_of_le E_o0.lt szx19_0_1)
  have ne8 : w7_B ≠ x19_0_1 := Nat.ne_of_lt (Nat.lt_of_lt_of_le V_w7_B.lt szx19_0_1)
  have ne9 : w8_B ≠ x19_0_1 := Nat.ne_of_lt (Nat.lt_of_lt_of_le V_w8_B.lt szx19_0_1)
  have ne10 : w9_v ≠ x19_0_1 := Nat.ne_of_lt (Nat.lt_of_lt_of_le V_w9_v.lt szx19_0_1)
  have g11 : n0 ≤ x19_0_1 := Nat.le_trans Z0 szx19_0_1
  have sz12 : h0.size ≤ x19_0_1 := Nat.le_trans (Nat.le_refl h0.size) szx19_0_1
  have z13 : n0 ≤ T1.heap.size := Nat.le_trans Z0 K1.1
  have hs14 : h0.size ≤ T1.heap.size := Nat.le_trans (Nat.le_refl h0.size) K1.1
  have N1 := Fr.app N0 N1q
  obtain ⟨cl15, Ar15, qc15, S15, M15, Ha15, G15⟩ := id po1_1
  have hin16 : ¬ ((0 : Int32) < 0 ∨ cl15.slots.size ≤ ((0 : Int32)).toNatClampNeg) := inb_of S15 ⟨by decide, by decide⟩
  have k17 := (F_label_w3_N.keep K1 nin0)
  obtain ⟨T18, X18, e18, st18⟩ := getF X1 hx hZ hown (host := "") (Or.inl (wd hw 102 rfl)) Via.refl rfl k17 (g := (mkF m 21 #[.val (.ref o0), .val (.ref x19_0_1), .val (.int (2 : Int32)), .val (.int (0 : Int32)), .val (.ref w3_N)] [(.ref w3_N)])) rfl rfl (hb hby d18_21)
  have k20 := (E_w5_L.keep K1)
  have k21 := (F_coder_w5_L.keep K1 nin0)
  have k22 := (F_value_w5_L.keep K1 nin0)
  have k23 := (V_w7_B.keep K1 nin0)
  have k24 := (E_o0.keep K1)
  have k25 := (F_coder_o0.keep K1 nin0)
  have k26 := (F_value_o0.keep K1 nin0)
  have k27 := (V_w9_v.keep K1 nin0)
  have k28 := (own_sta_keep0 S_String_COMPACT_STRINGS K1)
  obtain ⟨cq19, kq19, q19a, q19b, q19c⟩ := isOf hZ e18 k20
  obtain ⟨vr19, _, ⟨T19, L19, k19, n19⟩, -, X19, ⟨Lc19, hQ19, l19, y19, z19⟩, st19⟩ := Jvm.Stand.virtualBack X18 hx (y := (⟨"java/lang/String", "equals", "(Ljava/lang/Object;)Z"⟩ : MethodName)) (z := (⟨"java/lang/String", "equals", "(Ljava/lang/Object;)Z"⟩ : MethodName)) hown (mvT hZ (wd hw 104 rfl)) (mvT hZ (wd hw 74 rfl)) (notFace_of_selects (args := #[]) (mvT hZ (wd hw 76 rfl))) (mvT hZ (wd hw 76 rfl)) (mvT hZ (wd hw 75 rfl)) (by decide) (backOf (W := 0) (rmsqD l Z a0 hw [] w5_L o0 w7_B (4 : Int32) ([(.int (110 : Int32)), (.int (111 : Int32)), (.int (110 : Int32)), (.int (101 : Int32))]) kB0 w9_v (6 : Int32) ([(.int w10_c), (.int w11_c), (.int w12_c), (.int w13_c), (.int w14_c), (.int w15_c)]) kS w0 T1.heap n0 z13 k20 k21 k22 k23 k24 k25 k26 k27 ne_w5_L_o0 k28 hcs (by decide)) hZ (wd hw 77 rfl) (wd hw 10 rfl) (by decide) (by decide)) q19a q19c (g := (mkF m 25 #[.val (.ref o0), .val (.ref x19_0_1), .val (.int (2 : Int32)), .val (.int (0 : Int32)), .val (.ref w3_N)] [(.ref o0), (.ref w5_L)])) rfl (by rw [hml]; rfl) (Steps.refl _) (argsL := [(.ref o0)]) (rest := []) (lenOf pd__Ljava_lang_Object__Z rfl) rfl (by show 2 * 0 + _ ≤ _; exact Nat.le_of_eq rfl) (hb hby d18_25) (fun _ _ => ⟨rfl, e18, (by decide : 1 + 0 ≤ _), (by decide : 2 + 0 ≤ _)⟩)
  dsimp only [Pt.U, Pt.locs, Pt.cells, Pt.slots] at X19 l19 y19 z19 st19 hQ19
  replace X19 := own_stand X19 l19 y19 z19
  clear l19 y19 z19
  have N19q := (show _ ∧ _ ∧ _ from hQ19).1
  have hv19 := (show _ ∧ _ ∧ _ from hQ19).2.1
  have e19 := (show _ ∧ _ ∧ _ from hQ19).2.2
  clear hQ19
  subst hv19
  have N19 := Fr.app N1 N19q
  have hin29 : ¬ ((1 : Int32) < 0 ∨ cl15.slots.size ≤ ((1 : Int32)).toNatClampNeg) := inb_of S15 ⟨by decide, by decide⟩
  have k30 := (F_label_w4_P.keep K1 nin0)
  obtain ⟨T31, X31, e31, st31⟩ := getF X19 hx hZ hown (host := "") (Or.inl (wd hw 102 rfl)) Via.refl e19 k30 (g := (mkF m 21 #[.val (.ref o0), .val (.ref x19_0_1), .val (.int (2 : Int32)), .val (.int (1 : Int32)), .val (.ref w4_P)] [(.ref w4_P)])) rfl rfl (hb hby d18_21)
  have k33 := (E_w6_L.keep K1)
  have k34 := (F_coder_w6_L.keep K1 nin0)
  have k35 := (F_value_w6_L.keep K1 nin0)
  have k36 := (V_w8_B.keep K1 nin0)
  obtain ⟨cq32, kq32, q32a, q32b, q32c⟩ := isOf hZ e31 k33
  obtain ⟨vr32, _, ⟨T32, L32, k32, n32⟩, -, X32, ⟨Lc32, hQ32, l32, y32, z32⟩, st32⟩ := Jvm.Stand.virtualBack X31 hx (y := (⟨"java/lang/String", "equals", "(Ljava/lang/Object;)Z"⟩ : MethodName)) (z := (⟨"java/lang/String", "equals", "(Ljava/lang/Object;)Z"⟩ : MethodName)) hown (mvT hZ (wd hw 104 rfl)) (mvT hZ (wd hw 74 rfl)) (notFace_of_selects (args := #[]) (mvT hZ (wd hw 76 rfl))) (mvT hZ (wd hw 76 rfl)) (mvT hZ (wd hw 75 rfl)) (by decide) (backOf (W := 0) (rmsq6 l Z a0 hw [] w6_L o0 w8_B (112 : Int32) (111 : Int32) (114 : Int32) (116 : Int32) (101 : Int32) (114 : Int32) kB1 w9_v w10_c w11_c w12_c w13_c w14_c w15_c kS w0 T1.heap n0 z13 k33 k34 k35 k36 k24 k25 k26 k27 ne_w6_L_o0 k28 hcs) hZ (wd hw 77 rfl) (wd hw 10 rfl) (by decide) (by decide)) q32a q32c (g := (mkF m 25 #[.val (.ref o0), .val (.ref x19_0_1), .val (.int (2 : Int32)), .val (.int (1 : Int32)), .val (.ref w4_P)] [(.ref o0), (.ref w6_L)])) rfl (by rw [hml]; rfl) (Steps.refl _) (argsL := [(.ref o0)]) (rest := []) (lenOf pd__Ljava_lang_Object__Z rfl) rfl (by show 2 * 0 + _ ≤ _; exact Nat.le_of_eq rfl) (hb hby d18_25) (fun _ _ => ⟨rfl, e31, (by decide : 1 + 0 ≤ _), (by decide : 2 + 0 ≤ _)⟩)
  dsimp only [Pt.U, Pt.locs, Pt.cells, Pt.slots] at X32 l32 y32 z32 st32 hQ32
  replace X32 := own_stand X32 l32 y32 z32
  clear l32 y32 z32
  have N32q := (show _ ∧ _ ∧ _ from hQ32).1
  have hv32 := (show _ ∧ _ ∧ _ from hQ32).2.1
  have e32 := (show _ ∧ _ ∧ _ from hQ32).2.2
  clear hQ32
  subst hv32
  have N32 := Fr.app N19 N32q
  obtain ⟨fs, hr, hrun, hended, hW, hsame⟩ := X32.leave (v := some .null) (fun h => by rw [Bd.returns] at h; cases h) hlk
  refine ⟨_, _, pre0 _ ?_, hrun, hended, _, _, rfl, ?_, ⟨_, rfl⟩, hW, hsame.mono (by decide) (by decide)⟩
  · skip
    show Steps p.tables e below (s₁.setTop (mkF m 0 #[.val (.ref o0), .unset, .unset, .unset, .unset] [])) _
    refine st1 _ ?_
    refine XS.astoreN X1.here hx rfl (hb hby d18_3) rfl rfl (l' := #[.val (.ref o0), .val (.ref x19_0_1), .unset, .unset, .unset]) rfl ?_
    refine XS.aloadN X1.here hx rfl (hb hby d18_4) rfl rfl ?_
    show Steps p.tables e below (T1.setTop (mkF m 5 #[.val (.ref o0), .val (.ref x19_0_1), .unset, .unset, .unset] [(.ref x19_0_1)])) _
    refine X1.arraylength hx Ar15.1 (State.isArrayOf_alike hZ.alike Ar15.2.1) (g := (mkF m 5 #[.val (.ref o0), .val (.ref x19_0_1), .unset, .unset, .unset] [(.ref x19_0_1)])) rfl rfl (hb hby d18_5) _ ?_
    rw [len_of S15 M15]
    refine XS.istoreN X1.here hx rfl (hb hby d18_6) rfl (l' := #[.val (.ref o0), .val (.ref x19_0_1), .val (.int (2 : Int32)), .unset, .unset]) rfl ?_
    refine XT.iconstV X1.here hx rfl (0 : Int32) (hb hby d18_7) (by decide) ?_
    refine XS.istoreN X1.here hx rfl (hb hby d18_8) rfl (l' := #[.val (.ref o0), .val (.ref x19_0_1), .val (.int (2 : Int32)), .val (.int (0 : Int32)), .unset]) rfl ?_
    show Steps p.tables e below (T1.setTop (mkF m 9 #[.val (.ref o0), .val (.ref x19_0_1), .val (.int (2 : Int32)), .val (.int (0 : Int32)), .unset] [])) _
    refine XS.iloadN X1.here hx rfl (hb hby d18_9) rfl ?_
    refine XS.iloadN X1.here hx rfl (hb hby d18_10) rfl ?_
    show Steps p.tables e below (T1.setTop (mkF m 11 #[.val (.ref o0), .val (.ref x19_0_1), .val (.int (2 : Int32)), .val (.int (0 : Int32)), .unset] [(.int (2 : Int32)), (.int (0 : Int32))])) _
    refine XS.icmpNo X1.here hx rfl (hb hby d18_11) rfl (XT.ii_ge_f (by decide)) ?_
    refine XS.aloadN X1.here hx rfl (hb hby d18_14) rfl rfl ?_
    refine XS.iloadN X1.here hx rfl (hb hby d18_15) rfl ?_
    show Steps p.tables e below (T1.setTop (mkF m 16 #[.val (.ref o0), .val (.ref x19_0_1), .val (.int (2 : Int32)), .val (.int (0 : Int32)), .unset] [(.int (0 : Int32)), (.ref x19_0_1)])) _
    refine X1.aaload hx (j := (0 : Int32)) (v := (.ref w3_N)) Ar15.1 (State.isArrayOf_alike hZ.alike Ar15.2.1) rfl Ar15.2.2 hin16 (Has.at Ha15 hin16 rfl) (g := (mkF m 16 #[.val (.ref o0), .val (.ref x19_0_1), .val (.int (2 : Int32)), .val (.int (0 : Int32)), .unset] [(.int (0 : Int32)), (.ref x19_0_1)])) rfl rfl (hb hby d18_16) _ ?_
    refine XS.astore X1.here hx rfl (hb hby d18_17) rfl rfl (l' := #[.val (.ref o0), .val (.ref x19_0_1), .val (.int (2 : Int32)), .val (.int (0 : Int32)), .val (.ref w3_N)]) rfl ?_
    refine XS.aload X1.here hx rfl (hb hby d18_19) rfl rfl ?_
    show Steps p.tables e below (T1.setTop (mkF m 21 #[.val (.ref o0), .val (.ref x19_0_1), .val (.int (2 : Int32)), .val (.int (0 : Int32)), .val (.ref w3_N)] [(.ref w3_N)])) _
    refine st18 _ ?_
    refine XS.aloadN X18.here hx rfl (hb hby d18_24) rfl rfl ?_
    show Steps p.tables e below (T18.setTop (mkF m 25 #[.val (.ref o0), .val (.ref x19_0_1), .val (.int (2 : Int32)), .val (.int (0 : Int32)), .val (.ref w3_N)] [(.ref o0), (.ref w5_L)])) _
    refine st19.trans ?_
    show Steps p.tables e below (T19.setTop (mkF m 28 #[.val (.ref o0), .val (.ref x19_0_1), .val (.int (2 : Int32)), .val (.int (0 : Int32)), .val (.ref w3_N)] [(.int (fsqD (4 : Int32) (6 : Int32) w0))])) _
    refine XS.ifYes X19.here hx rfl (pc0 := 28) (pc' := 34) rfl (hb hby d18_28) rfl (XT.i0_eq_t rfl) (by decide) (by decide) ?_
    refine XT.iincV X19.here hx rfl (1 : Int32) (hb hby d18_34) (by decide) rfl (l' := #[.val (.ref o0), .val (.ref x19_0_1), .val (.int (2 : Int32)), .val (.int (1 : Int32)), .val (.ref w3_N)]) rfl ?_
    show Steps p.tables e below (T19.setTop (mkF m 37 #[.val (.ref o0), .val (.ref x19_0_1), .val (.int (2 : Int32)), .val (.int (1 : Int32)), .val (.ref w3_N)] [])) _
    refine XS.goto X19.here hx rfl (pc0 := 37) (pc' := 9) rfl (hb hby d18_37) (by decide) (by decide) ?_
    refine XS.iloadN X19.here hx rfl (hb hby d18_9) rfl ?_
    refine XS.iloadN X19.here hx rfl (hb hby d18_10) rfl ?_
    show Steps p.tables e below (T19.setTop (mkF m 11 #[.val (.ref o0), .val (.ref x19_0_1), .val (.int (2 : Int32)), .val (.int (1 : Int32)), .val (.ref w3_N)] [(.int (2 : Int32)), (.int (1 : Int32))])) _
    refine XS.icmpNo X19.here hx rfl (hb hby d18_11) rfl (XT.ii_ge_f (by decide)) ?_
    refine XS.aloadN X19.here hx rfl (hb hby d18_14) rfl rfl ?_
    refine XS.iloadN X19.here hx rfl (hb hby d18_15) rfl ?_
    show Steps p.tables e below (T19.setTop (mkF m 16 #[.val (.ref o0), .val (.ref x19_0_1), .val (.int (2 : Int32)), .val (.int (1 : Int32)), .val (.ref w3_N)] [(.int (1 : Int32)), (.ref x19_0_1)])) _
    refine X19.aaload hx (j := (1 : Int32)) (v := (.ref w4_P)) (by rw [e19]; exact Ar15.1) (State.isArrayOf_alike hZ.alike Ar15.2.1) rfl Ar15.2.2 hin29 (Has.at Ha15 hin29 rfl) (g := (mkF m 16 #[.val (.ref o0), .val (.ref x19_0_1), .val (.int (2 : Int32)), .val (.int (1 : Int32)), .val (.ref w3_N)] [(.int (1 : Int32)), (.ref x19_0_1)])) rfl rfl (hb hby d18_16) _ ?_
    refine XS.astore X19.here hx rfl (hb hby d18_17) rfl rfl (l' := #[.val (.ref o0), .val (.ref x19_0_1), .val (.int (2 : Int32)), .val (.int (1 : Int32)), .val (.ref w4_P)]) rfl ?_
    refine XS.aload X19.here hx rfl (hb hby d18_19) rfl rfl ?_
    show Steps p.tables e below (T19.setTop (mkF m 21 #[.val (.ref o0), .val (.ref x19_0_1), .val (.int (2 : Int32)), .val (.int (1 : Int32)), .val (.ref w4_P)] [(.ref w4_P)])) _
    refine st31 _ ?_
    refine XS.aloadN X31.here hx rfl (hb hby d18_24) rfl rfl ?_
    show Steps p.tables e below (T31.setTop (mkF m 25 #[.val (.ref o0), .val (.ref x19_0_1), .val (.int (2 : Int32)), .val (.int (1 : Int32)), .val (.ref w4_P)] [(.ref o0), (.ref w6_L)])) _
    refine st32.trans ?_
    show Steps p.tables e below (T32.setTop (mkF m 28 #[.val (.ref o0), .val (.ref x19_0_1), .val (.int (2 : Int32)), .val (.int (1 : Int32)), .val (.ref w4_P)] [(.int (fsq6 (112 : Int32) (111 : Int32) (114 : Int32) (116 : Int32) (101 : Int32) (114 : Int32) w10_c w11_c w12_c w13_c w14_c w15_c w0))])) _
    refine XS.ifYes X32.here hx rfl (pc0 := 28) (pc' := 34) rfl (hb hby d18_28) rfl (XT.i0_eq_t hy1) (by decide) (by decide) ?_
    refine XT.iincV X32.here hx rfl (1 : Int32) (hb hby d18_34) (by decide) rfl (l' := #[.val (.ref o0), .val (.ref x19_0_1), .val (.int (2 : Int32)), .val (.int (2 : Int32)), .val (.ref w4_P)]) rfl ?_
    show Steps p.tables e below (T32.setTop (mkF m 37 #[.val (.ref o0), .val (.ref x19_0_1), .val (.int (2 : Int32)), .val (.int (2 : Int32)), .val (.ref w4_P)] [])) _
    refine XS.goto X32.here hx rfl (pc0 := 37) (pc' := 9) rfl (hb hby d18_37) (by decide) (by decide) ?_
    refine XS.iloadN X32.here hx rfl (hb hby d18_9) rfl ?_
    refine XS.iloadN X32.here hx rfl (hb hby d18_10) rfl ?_
    show Steps p.tables e below (T32.setTop (mkF m 11 #[.val (.ref o0), .val (.ref x19_0_1), .val (.int (2 : Int32)), .val (.int (2 : Int32)), .val (.ref w4_P)] [(.int (2 : Int32)), (.int (2 : Int32))])) _
    refine XS.icmpYes X32.here hx rfl (pc0 := 11) (pc' := 40) rfl (hb hby d18_11) rfl (XT.ii_ge_t (by decide)) (by decide) (by decide) ?_
    show Steps p.tables e below (T32.setTop (mkF m 40 #[.val (.ref o0), .val (.ref x19_0_1), .val (.int (2 : Int32)), .val (.int (2 : Int32)), .val (.ref w4_P)] [])) _
    refine XS.aconstNull X32.here hx rfl (hb hby d18_40) ?_
    show Steps p.tables e below (T32.setTop (mkF m 41 #[.val (.ref o0), .val (.ref x19_0_1), .val (.int (2 : Int32)), .val (.int (2 : Int32)), .val (.ref w4_P)] [.null])) _
    exact X32.areturnOut hx rfl Bd.returns rfl (hb hby d18_41) hr
  · skip
    show Qlb6n Z o0 w2_V w3_N w4_P kV w5_L w6_L w7_B kB0 w8_B kB1 w9_v w10_c w11_c w12_c w13_c w14_c w15_c kS w0 h0 n0 _ T32.heap _
    rw [e32]
    exact ⟨N32, rfl, ((Keep.refl h0 []).trans K1 all0)⟩
theorem pd___C_V : parseMethodDescriptor "([C)V" = some ⟨[(.array .char)], none⟩ := by decide +kernel
theorem pd_h53915 : parseMethodDescriptor "(Ljava/lang/String;)Lcom/example/vellum_index/vellumindex/Stemmer;" = some ⟨[(.object "java/lang/String")], some (.object "com/example/vellum_index/vellumindex/Stemmer")⟩ := by decide +kernel
theorem pd__IIJZII_C : parseMethodDescriptor "(IIJZII)C" = some ⟨[.int, .int, .long, .boolean, .int, .int], some .char⟩ := by decide +kernel
theorem ef_0 (m : MethodId) (p0 : Int32) (p1 : Int32) (p2 : Int32) (p3 : Int32) (q4 : Int64) : entryFrame m #[(.int p0), (.int p1), (.int p2), (.int p3), (.long q4)] maxLocals = mkF m 0 #[.val (.int p0), .val (.int p1), .val (.int p2), .val (.int p3), .val (.long q4), .second, .unset, .unset, .unset, .unset, .unset, .unset, .unset] [] := by first | (simp [entryFrame, mkF, argsToLocals, Value.category, maxLocals]; done) | rfl
def v0_1 (p0 : Int32) (p1 : Int32) (p2 : Int32) (p3 : Int32) (q4 : Int64) (w0 : Int32) : Int32 := (p0 &&& (3 : Int32))
def v0_2 (p0 : Int32) (p1 : Int32) (p2 : Int32) (p3 : Int32) (q4 : Int64) (w0 : Int32) : Int32 := ((p0 >>> ((2 : Int32) &&& 31)) &&& (1 : Int32))
def v0_3 (p0 : Int32) (p1 : Int32) (p2 : Int32) (p3 : Int32) (q4 : Int64) (w0 : Int32) : Int32 := (if (v0_2 p0 p1 p2 p3 q4 w0) = (0 : Int32) then (0 : Int32) else (1 : Int32))
def v0_4 (p0 : Int32) (p1 : Int32) (p2 : Int32) (p3 : Int32) (q4 : Int64) (w0 : Int32) : Int32 := (p1 &&& (7 : Int32))
def v0_5 (p0 : Int32) (p1 : Int32) (p2 : Int32) (p3 : Int32) (q4 : Int64) (w0 : Int32) : Int32 := (p2 &&& (2147483647 : Int32))
def v0_6 (p0 : Int32) (p1 : Int32) (p2 : Int32) (p3 : Int32) (q4 : Int64) (w0 : Int32) : Int32 := ((v0_5 p0 p1 p2 p3 q4 w0) - ((v0_5 p0 p1 p2 p3 q4 w0) / (8 : Int32)) * (8 : Int32))
def v0_7 (p0 : Int32) (p1 : Int32) (p2 : Int32) (p3 : Int32) (q4 : Int64) (w0 : Int32) : Int32 := (fsqD (0 : Int32) (4 : Int32) w0)
def v0_8 (p0 : Int32) (p1 : Int32) (p2 : Int32) (p3 : Int32) (q4 : Int64) (w0 : Int32) : Int32 := (fsqD (0 : Int32) (6 : Int32) w0)
def v0_9 (p0 : Int32) (p1 : Int32) (p2 : Int32) (p3 : Int32) (q4 : Int64) (w0 : Int32) : Int32 := (f1 (v0_1 p0 p1 p2 p3 q4 w0) (0 : Int32) q4 (v0_3 p0 p1 p2 p3 q4 w0) (v0_6 p0 p1 p2 p3 q4 w0) p3 w0)
def v0_10 (p0 : Int32) (p1 : Int32) (p2 : Int32) (p3 : Int32) (q4 : Int64) (w0 : Int32) : Int32 := (nar .char (v0_9 p0 p1 p2 p3 q4 w0))
def v0_11 (p0 : Int32) (p1 : Int32) (p2 : Int32) (p3 : Int32) (q4 : Int64) (w0 : Int32) : Int32 := (fsqD (1 : Int32) (4 : Int32) w0)
def v0_12 (p0 : Int32) (p1 : Int32) (p2 : Int32) (p3 : Int32) (q4 : Int64) (w0 : Int32) : Int32 := (fsqD (1 : Int32) (6 : Int32) w0)
def v0_13 (p0 : Int32) (p1 : Int32) (p2 : Int32) (p3 : Int32) (q4 : Int64) (w0 : Int32) : Int32 := (f1 (v0_1 p0 p1 p2 p3 q4 w0) (0 : Int32) q4 (v0_3 p0 p1 p2 p3 q4 w0) (v0_6 p0 p1 p2 p3 q4 w0) p3 w0)
def v0_14 (p0 : Int32) (p1 : Int32) (p2 : Int32) (p3 : Int32) (q4 : Int64) (w0 : Int32) : Int32 := (nar .char (v0_13 p0 p1 p2 p3 q4 w0))
def v0_15 (p0 : Int32) (p1 : Int32) (p2 : Int32) (p3 : Int32) (q4 : Int64) (w0 : Int32) : Int32 := (f1 (v0_1 p0 p1 p2 p3 q4 w0) (1 : Int32) q4 (v0_3 p0 p1 p2 p3 q4 w0) (v0_6 p0 p1 p2 p3 q4 w0) p3 w0)
def v0_16 (p0 : Int32) (p1 : Int32) (p2 : Int32) (p3 : Int32) (q4 : Int64) (w0 : Int32) : Int32 := (nar .char (v0_15 p0 p1 p2 p3 q4 w0))
def v0_17 (p0 : Int32) (p1 : Int32) (p2 : Int32) (p3 : Int32) (q4 : Int64) (w0 : Int32) : Int32 := (fsqD (2 : Int32) (4 : Int32) w0)
def v0_18 (p0 : Int32) (p1 : Int32) (p2 : Int32) (p3 : Int32) (q4 : Int64) (w0 : Int32) : Int32 := (fsqD (2 : Int32) (6 : Int32) w0)
def v0_19 (p0 : Int32) (p1 : Int32) (p2 : Int32) (p3 : Int32) (q4 : Int64) (w0 : Int32) : Int32 := (f1 (v0_1 p0 p1 p2 p3 q4 w0) (0 : Int32) q4 (v0_3 p0 p1 p2 p3 q4 w0) (v0_6 p0 p1 p2 p3 q4 w0) p3 w0)
def v0_20 (p0 : Int32) (p1 : Int32) (p2 : Int32) (p3 : Int32) (q4 : Int64) (w0 : Int32) : Int32 := (nar .char (v0_19 p0 p1 p2 p3 q4 w0))
def v0_21 (p0 : Int32) (p1 : Int32) (p2 : Int32) (p3 : Int32) (q4 : Int64) (w0 : Int32) : Int32 := (f1 (v0_1 p0 p1 p2 p3 q4 w0) (1 : Int32) q4 (v0_3 p0 p1 p2 p3 q4 w0) (v0_6 p0 p1 p2 p3 q4 w0) p3 w0)
def v0_22 (p0 : Int32) (p1 : Int32) (p2 : Int32) (p3 : Int32) (q4 : Int64) (w0 : Int32) : Int32 := (nar .char (v0_21 p0 p1 p2 p3 q4 w0))
def v0_23 (p0 : Int32) (p1 : Int32) (p2 : Int32) (p3 : Int32) (q4 : Int64) (w0 : Int32) : Int32 := (f1 (v0_1 p0 p1 p2 p3 q4 w0) (2 : Int32) q4 (v0_3 p0 p1 p2 p3 q4 w0) (v0_6 p0 p1 p2 p3 q4 w0) p3 w0)
def v0_24 (p0 : Int32) (p1 : Int32) (p2 : Int32) (p3 : Int32) (q4 : Int64) (w0 : Int32) : Int32 := (nar .char (v0_23 p0 p1 p2 p3 q4 w0))
def v0_25 (p0 : Int32) (p1 : Int32) (p2 : Int32) (p3 : Int32) (q4 : Int64) (w0 : Int32) : Int32 := (fsqD (3 : Int32) (4 : Int32) w0)
def v0_26 (p0 : Int32) (p1 : Int32) (p2 : Int32) (p3 : Int32) (q4 : Int64) (w0 : Int32) : Int32 := (fsqD (3 : Int32) (6 : Int32) w0)
def v0_27 (p0 : Int32) (p1 : Int32) (p2 : Int32) (p3 : Int32) (q4 : Int64) (w0 : Int32) : Int32 := (f1 (v0_1 p0 p1 p2 p3 q4 w0) (0 : Int32) q4 (v0_3 p0 p1 p2 p3 q4 w0) (v0_6 p0 p1 p2 p3 q4 w0) p3 w0)
def v0_28 (p0 : Int32) (p1 : Int32) (p2 : Int32) (p3 : Int32) (q4 : Int64) (w0 : Int32) : Int32 := (nar .char (v0_27 p0 p1 p2 p3 q4 w0))
def v0_29 (p0 : Int32) (p1 : Int32) (p2 : Int32) (p3 : Int32) (q4 : Int64) (w0 : Int32) : Int32 := (f1 (v0_1 p0 p1 p2 p3 q4 w0) (1 : Int32) q4 (v0_3 p0 p1 p2 p3 q4 w0) (v0_6 p0 p1 p2 p3 q4 w0) p3 w0)
def v0_30 (p0 : Int32) (p1 : Int32) (p2 : Int32) (p3 : Int32) (q4 : Int64) (w0 : Int32) : Int32 := (nar .char (v0_29 p0 p1 p2 p3 q4 w0))
def v0_31 (p0 : Int32) (p1 : Int32) (p2 : Int32) (p3 : Int32) (q4 : Int64) (w0 : Int32) : Int32 := (f1 (v0_1 p0 p1 p2 p3 q4 w0) (2 : Int32) q4 (v0_3 p0 p1 p2 p3 q4 w0) (v0_6 p0 p1 p2 p3 q4 w0) p3 w0)
def v0_32 (p0 : Int32) (p1 : Int32) (p2 : Int32) (p3 : Int32) (q4 : Int64) (w0 : Int32) : Int32 := (nar .char (v0_31 p0 p1 p2 p3 q4 w0))
def v0_33 (p0 : Int32) (p1 : Int32) (p2 : Int32) (p3 : Int32) (q4 : Int64) (w0 : Int32) : Int32 := (f1 (v0_1 p0 p1 p2 p3 q4 w0) (3 : Int32) q4 (v0_3 p0 p1 p2 p3 q4 w0) (v0_6 p0 p1 p2 p3 q4 w0) p3 w0)
def v0_34 (p0 : Int32) (p1 : Int32) (p2 : Int32) (p3 : Int32) (q4 : Int64) (w0 : Int32) : Int32 := (nar .char (v0_33 p0 p1 p2 p3 q4 w0))
def v0_35 (p0 : Int32) (p1 : Int32) (p2 : Int32) (p3 : Int32) (q4 : Int64) (w0 : Int32) : Int32 := (fsq4 (own_b (v0_28 p0 p1 p2 p3 q4 w0)) (own_b (v0_30 p0 p1 p2 p3 q4 w0)) (own_b (v0_32 p0 p1 p2 p3 q4 w0)) (own_b (v0_34 p0 p1 p2 p3 q4 w0)) (110 : Int32) (111 : Int32) (110 : Int32) (101 : Int32) w0)
def v0_36 (p0 : Int32) (p1 : Int32) (p2 : Int32) (p3 : Int32) (q4 : Int64) (w0 : Int32) : Int32 := (fsqD (4 : Int32) (6 : Int32) w0)
def v0_37 (p0 : Int32) (p1 : Int32) (p2 : Int32) (p3 : Int32) (q4 : Int64) (w0 : Int32) : Int32 := (f1 (v0_1 p0 p1 p2 p3 q4 w0) (0 : Int32) q4 (v0_3 p0 p1 p2 p3 q4 w0) (v0_6 p0 p1 p2 p3 q4 w0) p3 w0)
def v0_38 (p0 : Int32) (p1 : Int32) (p2 : Int32) (p3 : Int32) (q4 : Int64) (w0 : Int32) : Int32 := (nar .char (v0_37 p0 p1 p2 p3 q4 w0))
def v0_39 (p0 : Int32) (p1 : Int32) (p2 : Int32) (p3 : Int32) (q4 : Int64) (w0 : Int32) : Int32 := (f1 (v0_1 p0 p1 p2 p3 q4 w0) (1 : Int32) q4 (v0_3 p0 p1 p2 p3 q4 w0) (v0_6 p0 p1 p2 p3 q4 w0) p3 w0)
def v0_40 (p0 : Int32) (p1 : Int32) (p2 : Int32) (p3 : Int32) (q4 : Int64) (w0 : Int32) : Int32 := (nar .char (v0_39 p0 p1 p2 p3 q4 w0))
def v0_41 (p0 : Int32) (p1 : Int32) (p2 : Int32) (p3 : Int32) (q4 : Int64) (w0 : Int32) : Int32 := (f1 (v0_1 p0 p1 p2 p3 q4 w0) (2 : Int32) q4 (v0_3 p0 p1 p2 p3 q4 w0) (v0_6 p0 p1 p2 p3 q4 w0) p3 w0)
def v0_42 (p0 : Int32) (p1 : Int32) (p2 : Int32) (p3 : Int32) (q4 : Int64) (w0 : Int32) : Int32 := (nar .char (v0_41 p0 p1 p2 p3 q4 w0))
def v0_43 (p0 : Int32) (p1 : Int32) (p2 : Int32) (p3 : Int32) (q4 : Int64) (w0 : Int32) : Int32 := (f1 (v0_1 p0 p1 p2 p3 q4 w0) (3 : Int32) q4 (v0_3 p0 p1 p2 p3 q4 w0) (v0_6 p0 p1 p2 p3 q4 w0) p3 w0)
def v0_44 (p0 : Int32) (p1 : Int32) (p2 : Int32) (p3 : Int32) (q4 : Int64) (w0 : Int32) : Int32 := (nar .char (v0_43 p0 p1 p2 p3 q4 w0))
def v0_45 (p0 : Int32) (p1 : Int32) (p2 : Int32) (p3 : Int32) (q4 : Int64) (w0 : Int32) : Int32 := (f1 (v0_1 p0 p1 p2 p3 q4 w0) (4 : Int32) q4 (v0_3 p0 p1 p2 p3 q4 w0) (v0_6 p0 p1 p2 p3 q4 w0) p3 w0)
def v0_46 (p0 : Int32) (p1 : Int32) (p2 : Int32) (p3 : Int32) (q4 : Int64) (w0 : Int32) : Int32 := (nar .char (v0_45 p0 p1 p2 p3 q4 w0))
def v0_47 (p0 : Int32) (p1 : Int32) (p2 : Int32) (p3 : Int32) (q4 : Int64) (w0 : Int32) : Int32 := (fsqD (5 : Int32) (4 : Int32) w0)
def v0_48 (p0 : Int32) (p1 : Int32) (p2 : Int32) (p3 : Int32) (q4 : Int64) (w0 : Int32) : Int32 := (fsqD (5 : Int32) (6 : Int32) w0)
def v0_49 (p0 : Int32) (p1 : Int32) (p2 : Int32) (p3 : Int32) (q4 : Int64) (w0 : Int32) : Int32 := (f1 (v0_1 p0 p1 p2 p3 q4 w0) (0 : Int32) q4 (v0_3 p0 p1 p2 p3 q4 w0) (v0_6 p0 p1 p2 p3 q4 w0) p3 w0)
def v0_50 (p0 : Int32) (p1 : Int32) (p2 : Int32) (p3 : Int32) (q4 : Int64) (w0 : Int32) : Int32 := (nar .char (v0_49 p0 p1 p2 p3 q4 w0))
def v0_51 (p0 : Int32) (p1 : Int32) (p2 : Int32) (p3 : Int32) (q4 : Int64) (w0 : Int32) : Int32 := (f1 (v0_1 p0 p1 p2 p3 q4 w0) (1 : Int32) q4 (v0_3 p0 p1 p2 p3 q4 w0) (v0_6 p0 p1 p2 p3 q4 w0) p3 w0)
def v0_52 (p0 : Int32) (p1 : Int32) (p2 : Int32) (p3 : Int32) (q4 : Int64) (w0 : Int32) : Int32 := (nar .char (v0_51 p0 p1 p2 p3 q4 w0))
def v0_53 (p0 : Int32) (p1 : Int32) (p2 : Int32) (p3 : Int32) (q4 : Int64) (w0 : Int32) : Int32 := (f1 (v0_1 p0 p1 p2 p3 q4 w0) (2 : Int32) q4 (v0_3 p0 p1 p2 p3 q4 w0) (v0_6 p0 p1 p2 p3 q4 w0) p3 w0)
def v0_54 (p0 : Int32) (p1 : Int32) (p2 : Int32) (p3 : Int32) (q4 : Int64) (w0 : Int32) : Int32 := (nar .char (v0_53 p0 p1 p2 p3 q4 w0))
def v0_55 (p0 : Int32) (p1 : Int32) (p2 : Int32) (p3 : Int32) (q4 : Int64) (w0 : Int32) : Int32 := (f1 (v0_1 p0 p1 p2 p3 q4 w0) (3 : Int32) q4 (v0_3 p0 p1 p2 p3 q4 w0) (v0_6 p0 p1 p2 p3 q4 w0) p3 w0)
def v0_56 (p0 : Int32) (p1 : Int32) (p2 : Int32) (p3 : Int32) (q4 : Int64) (w0 : Int32) : Int32 := (nar .char (v0_55 p0 p1 p2 p3 q4 w0))
def v0_57 (p0 : Int32) (p1 : Int32) (p2 : Int32) (p3 : Int32) (q4 : Int64) (w0 : Int32) : Int32 := (f1 (v0_1 p0 p1 p2 p3 q4 w0) (4 : Int32) q4 (v0_3 p0 p1 p2 p3 q4 w0) (v0_6 p0 p1 p2 p3 q4 w0) p3 w0)
def v0_58 (p0 : Int32) (p1 : Int32) (p2 : Int32) (p3 : Int32) (q4 : Int64) (w0 : Int32) : Int32 := (nar .char (v0_57 p0 p1 p2 p3 q4 w0))
def v0_59 (p0 : Int32) (p1 : Int32) (p2 : Int32) (p3 : Int32) (q4 : Int64) (w0 : Int32) : Int32 := (f1 (v0_1 p0 p1 p2 p3 q4 w0) (5 : Int32) q4 (v0_3 p0 p1 p2 p3 q4 w0) (v0_6 p0 p1 p2 p3 q4 w0) p3 w0)
def v0_60 (p0 : Int32) (p1 : Int32) (p2 : Int32) (p3 : Int32) (q4 : Int64) (w0 : Int32) : Int32 := (nar .char (v0_59 p0 p1 p2 p3 q4 w0))
def v0_61 (p0 : Int32) (p1 : Int32) (p2 : Int32) (p3 : Int32) (q4 : Int64) (w0 : Int32) : Int32 := (fsqD (6 : Int32) (4 : Int32) w0)
def v0_62 (p0 : Int32) (p1 : Int32) (p2 : Int32) (p3 : Int32) (q4 : Int64) (w0 : Int32) : Int32 := (fsq6 (own_b (v0_50 p0 p1 p2 p3 q4 w0)) (own_b (v0_52 p0 p1 p2 p3 q4 w0)) (own_b (v0_54 p0 p1 p2 p3 q4 w0)) (own_b (v0_56 p0 p1 p2 p3 q4 w0)) (own_b (v0_58 p0 p1 p2 p3 q4 w0)) (own_b (v0_60 p0 p1 p2 p3 q4 w0)) (112 : Int32) (111 : Int32) (114 : Int32) (116 : Int32) (101 : Int32) (114 : Int32) w0)
def v0_63 (p0 : Int32) (p1 : Int32) (p2 : Int32) (p3 : Int32) (q4 : Int64) (w0 : Int32) : Int32 := (f1 (v0_1 p0 p1 p2 p3 q4 w0) (0 : Int32) q4 (v0_3 p0 p1 p2 p3 q4 w0) (v0_6 p0 p1 p2 p3 q4 w0) p3 w0)
def v0_64 (p0 : Int32) (p1 : Int32) (p2 : Int32) (p3 : Int32) (q4 : Int64) (w0 : Int32) : Int32 := (nar .char (v0_63 p0 p1 p2 p3 q4 w0))
def v0_65 (p0 : Int32) (p1 : Int32) (p2 : Int32) (p3 : Int32) (q4 : Int64) (w0 : Int32) : Int32 := (f1 (v0_1 p0 p1 p2 p3 q4 w0) (1 : Int32) q4 (v0_3 p0 p1 p2 p3 q4 w0) (v0_6 p0 p1 p2 p3 q4 w0) p3 w0)
def v0_66 (p0 : Int32) (p1 : Int32) (p2 : Int32) (p3 : Int32) (q4 : Int64) (w0 : Int32) : Int32 := (nar .char (v0_65 p0 p1 p2 p3 q4 w0))
def v0_67 (p0 : Int32) (p1 : Int32) (p2 : Int32) (p3 : Int32) (q4 : Int64) (w0 : Int32) : Int32 := (f1 (v0_1 p0 p1 p2 p3 q4 w0) (2 : Int32) q4 (v0_3 p0 p1 p2 p3 q4 w0) (v0_6 p0 p1 p2 p3 q4 w0) p3 w0)
def v0_68 (p0 : Int32) (p1 : Int32) (p2 : Int32) (p3 : Int32) (q4 : Int64) (w0 : Int32) : Int32 := (nar .char (v0_67 p0 p1 p2 p3 q4 w0))
def v0_69 (p0 : Int32) (p1 : Int32) (p2 : Int32) (p3 : Int32) (q4 : Int64) (w0 : Int32) : Int32 := (f1 (v0_1 p0 p1 p2 p3 q4 w0) (3 : Int32) q4 (v0_3 p0 p1 p2 p3 q4 w0) (v0_6 p0 p1 p2 p3 q4 w0) p3 w0)
def v0_70 (p0 : Int32) (p1 : Int32) (p2 : Int32) (p3 : Int32) (q4 : Int64) (w0 : Int32) : Int32 := (nar .char (v0_69 p0 p1 p2 p3 q4 w0))
def v0_71 (p0 : Int32) (p1 : Int32) (p2 : Int32) (p3 : Int32) (q4 : Int64) (w0 : Int32) : Int32 := (f1 (v0_1 p0 p1 p2 p3 q4 w0) (4 : Int32) q4 (v0_3 p0 p1 p2 p3 q4 w0) (v0_6 p0 p1 p2 p3 q4 w0) p3 w0)
def v0_72 (p0 : Int32) (p1 : Int32) (p2 : Int32) (p3 : Int32) (q4 : Int64) (w0 : Int32) : Int32 := (nar .char (v0_71 p0 p1 p2 p3 q4 w0))
def v0_73 (p0 : Int32) (p1 : Int32) (p2 : Int32) (p3 : Int32) (q4 : Int64) (w0 : Int32) : Int32 := (f1 (v0_1 p0 p1 p2 p3 q4 w0) (5 : Int32) q4 (v0_3 p0 p1 p2 p3 q4 w0) (v0_6 p0 p1 p2 p3 q4 w0) p3 w0)
def v0_74 (p0 : Int32) (p1 : Int32) (p2 : Int32) (p3 : Int32) (q4 : Int64) (w0 : Int32) : Int32 := (nar .char (v0_73 p0 p1 p2 p3 q4 w0))
def v0_75 (p0 : Int32) (p1 : Int32) (p2 : Int32) (p3 : Int32) (q4 : Int64) (w0 : Int32) : Int32 := (f1 (v0_1 p0 p1 p2 p3 q4 w0) (6 : Int32) q4 (v0_3 p0 p1 p2 p3 q4 w0) (v0_6 p0 p1 p2 p3 q4 w0) p3 w0)
def v0_76 (p0 : Int32) (p1 : Int32) (p2 : Int32) (p3 : Int32) (q4 : Int64) (w0 : Int32) : Int32 := (nar .char (v0_75 p0 p1 p2 p3 q4 w0))
def v0_77 (p0 : Int32) (p1 : Int32) (p2 : Int32) (p3 : Int32) (q4 : Int64) (w0 : Int32) : Int32 := (fsqD (7 : Int32) (4 : Int32) w0)
def v0_78 (p0 : Int32) (p1 : Int32) (p2 : Int32) (p3 : Int32) (q4 : Int64) (w0 : Int32) : Int32 := (fsqD (7 : Int32) (6 : Int32) w0)
/-own-/
theorem own_n8 (p0 p1 p2 p3 : Int32) (q4 : Int64) (w : Int32) : v0_4 p0 p1 p2 p3 q4 w = 0 ∨ v0_4 p0 p1 p2 p3 q4 w = 1 ∨ v0_4 p0 p1 p2 p3 q4 w = 2 ∨ v0_4 p0 p1 p2 p3 q4 w = 3 ∨ v0_4 p0 p1 p2 p3 q4 w = 4 ∨ v0_4 p0 p1 p2 p3 q4 w = 5 ∨ v0_4 p0 p1 p2 p3 q4 w = 6 ∨ v0_4 p0 p1 p2 p3 q4 w = 7 := by
  have hh : ∀ u : BitVec 32, (u &&& 7#32).toInt = (u.toNat % 8 : Nat) := by
    intro u
    have e : (u &&& 7#32).toNat = u.toNat % 8 := by rw [BitVec.toNat_and]; exact Nat.and_two_pow_sub_one_eq_mod u.toNat 3
    rw [BitVec.toInt_eq_toNat_cond, e, if_pos (by omega)]
  have h : (p1 &&& (7 : Int32)).toInt = (p1.toBitVec.toNat % 8 : Nat) := hh p1.toBitVec
  have c0 : (0 : Int32).toInt = 0 := by decide
  have c9 : (8 : Int32).toInt = 8 := by decide
  refine own_is8 (k := p1 &&& (7 : Int32)) ?_ ?_
  · rw [Int32.lt_iff_toInt_lt, h, c0]; omega
  · rw [Int32.lt_iff_toInt_lt, h, c9]; omega
def own_Low (v : Int32) : Prop := ∃ n : Fin 256, v = Int32.ofNat n.val
theorem own_low (x : Int32) : own_Low (x &&& (255 : Int32)) := by
  refine ⟨⟨x.toBitVec.toNat % 256, Nat.mod_lt _ (by decide)⟩, ?_⟩
  refine Int32.toBitVec_inj.mp (BitVec.eq_of_toNat_eq ?_)
  have e1 : (x &&& (255 : Int32)).toBitVec = x.toBitVec &&& 255#32 := rfl
  have e2 : (Int32.ofNat (x.toBitVec.toNat % 256)).toBitVec = BitVec.ofNat 32 (x.toBitVec.toNat % 256) := rfl
  have e3 : x.toBitVec.toNat &&& 255 = x.toBitVec.toNat % 256 := Nat.and_two_pow_sub_one_eq_mod x.toBitVec.toNat 8
  have e4 : (x.toBitVec &&& 255#32).toNat = x.toBitVec.toNat % 256 := by
    rw [BitVec.toNat_and]
    exact e3
  show (x &&& (255 : Int32)).toBitVec.toNat = (Int32.ofNat (x.toBitVec.toNat % 256)).toBitVec.toNat
  rw [e1, e2, e4, BitVec.toNat_ofNat]
  exact (Nat.mod_eq_of_lt (by omega)).symm
theorem own_lowL (x : Int64) : own_Low ((x &&& (255 : Int64)).toInt32) := by
  have e : (x &&& (255 : Int64)).toInt32 = x.toInt32 &&& (255 : Int32) := by rw [Int64.toInt32_and]; rfl
  rw [e]
  exact own_low _
theorem own_f256 : ∀ n : Fin 256, nar .char (Int32.ofNat n.val) = Int32.ofNat n.val ∧ (Int32.ofNat n.val).toUInt32.toUInt16.toUInt32.toInt32 = Int32.ofNat n.val ∧ (¬ (Int32.ofNat n.val < (0 : Int32)) ∧ ¬ ((255 : Int32) < Int32.ofNat n.val)) := by decide +kernel
theorem own_lc {v : Int32} (h : own_Low v) : own_Low (nar .char v) := by
  obtain ⟨n, rfl⟩ := h
  exact ⟨n, (own_f256 n).1⟩
theorem own_li {v : Int32} (h : own_Low v) : own_Low (v.toUInt32.toUInt16.toUInt32.toInt32) := by
  obtain ⟨n, rfl⟩ := h
  exact ⟨n, (own_f256 n).2.1⟩
theorem own_le {v : Int32} (h : own_Low v) : ¬ (v < (0 : Int32)) ∧ ¬ ((255 : Int32) < v) := by
  obtain ⟨n, rfl⟩ := h
  exact (own_f256 n).2.2
theorem own_low2 (a b : Int32) (q : Int64) (w : Int32) : own_Low (f2 a b q w) := by
  unfold f2
  repeat' split
  · exact own_lc (own_lc (own_lc (own_li (own_low _))))
  · exact own_lc (own_li (own_lowL _))
  · exact own_lc (own_lc (own_lc (own_li (own_low _))))
  · exact own_lc (own_li (own_lowL _))
  · exact own_lc (own_li (own_lowL _))
theorem own_at (a b : Int32) (q : Int64) (c d e w : Int32) : ¬ (nar .char (f1 a b q c d e w) < (0 : Int32)) ∧ ¬ ((255 : Int32) < nar .char (f1 a b q c d e w)) := by
  refine own_le (own_lc ?_)
  unfold f1
  repeat' split
  · exact own_lc (own_low2 _ _ _ _)
  · exact own_lc (own_li (own_low _))
  · exact own_lc (own_low2 _ _ _ _)
theorem own_ifc {P Q : Prop} [Decidable P] [Decidable Q] (h : P ↔ Q) {a b c : Int32} (e : a = b) : (if P then a else c) = (if Q then b else c) := by
  subst e
  by_cases q : Q
  · rw [if_pos q, if_pos (h.mpr q)]
  · rw [if_neg q, if_neg (fun z => q (h.mp z))]
theorem own_sym4 (a0 a1 a2 a3 b0 b1 b2 b3 w w' : Int32) : fsq4 a0 a1 a2 a3 b0 b1 b2 b3 w = fsq4 b0 b1 b2 b3 a0 a1 a2 a3 w' := by
  have e : fle4 a0 a1 a2 a3 b0 b1 b2 b3 = fle4 b0 b1 b2 b3 a0 a1 a2 a3 := own_ifc eq_comm (own_ifc eq_comm (own_ifc eq_comm (own_ifc eq_comm rfl)))
  unfold fsq4 vsq4_2 vsq4_1
  rw [e]
theorem own_sym6 (a0 a1 a2 a3 a4 a5 b0 b1 b2 b3 b4 b5 w w' : Int32) : fsq6 a0 a1 a2 a3 a4 a5 b0 b1 b2 b3 b4 b5 w = fsq6 b0 b1 b2 b3 b4 b5 a0 a1 a2 a3 a4 a5 w' := by
  have e : fle6 a0 a1 a2 a3 a4 a5 b0 b1 b2 b3 b4 b5 = fle6 b0 b1 b2 b3 b4 b5 a0 a1 a2 a3 a4 a5 := own_ifc eq_comm (own_ifc eq_comm (own_ifc eq_comm (own_ifc eq_comm (own_ifc eq_comm (own_ifc eq_comm rfl)))))
  unfold fsq6 vsq6_2 vsq6_1
  rw [e]
def Q0 (Z : State) (p0 : Int32) (p1 : Int32) (p2 : Int32) (p3 : Int32) (q4 : Int64) (w0 : Int32) (u1_SF : Value) (w2_V : Addr) (w3_N : Addr) (w4_P : Addr) (kV : ClassId) (w5_L : Addr) (w6_L : Addr) (w7_B : Addr) (kB0 : ClassId) (w8_B : Addr) (kB1 : ClassId) (h0 : Heap) (n0 : Nat) (v : Option Value) (h : Heap) (L : List Loc) : Prop := v = some (.int (1 : Int32)) ∧ Fr n0 L
set_option maxRecDepth 65536 in
set_option maxHeartbeats 40000000 in
theorem rm0 (l : Launch) (Z : State) (a0 : Array Value) (hw : ∀ d ∈ tables_1, d.before a0 Z = true) (ws : List Jvm.Cond) (p0 : Int32) (p1 : Int32) (p2 : Int32) (p3 : Int32) (q4 : Int64) (w0 : Int32) (u1_SF : Value) (w2_V : Addr) (w3_N : Addr) (w4_P : Addr) (kV : ClassId) (w5_L : Addr) (w6_L : Addr) (w7_B : Addr) (kB0 : ClassId) (w8_B : Addr) (kB1 : ClassId) (h0 : Heap) (n0 : Nat) (Z0 : n0 ≤ h0.size) (O0 : Old Z n0 h0) (S_String_COMPACT_STRINGS : Sta Z Z.heap "java/lang/String" "COMPACT_STRINGS" "Z" (.int w0)) (hcs : ¬ (w0 = (0 : Int32))) (S_Preconditions_SIOOBE_FORMATTER : Sta Z Z.heap "jdk/internal/util/Preconditions" "SIOOBE_FORMATTER" "Ljava/util/function/BiFunction;" u1_SF) (hu : u1_SF = .null ∨ ∃ r, u1_SF = .ref r) (S_Stemmer__VALUES : Sta Z Z.heap "com/example/vellum_index/vellumindex/Stemmer" "$VALUES" "[Lcom/example/vellum_index/vellumindex/Stemmer;" (.ref w2_V)) (S_Stemmer_NONE : Sta Z Z.heap "com/example/vellum_index/vellumindex/Stemmer" "NONE" "Lcom/example/vellum_index/vellumindex/Stemmer;" (.ref w3_N)) (S_Stemmer_PORTER : Sta Z Z.heap "com/example/vellum_index/vellumindex/Stemmer" "PORTER" "Lcom/example/vellum_index/vellumindex/Stemmer;" (.ref w4_P)) (V_w2_V : Arv Z h0 w2_V kV (.object "com/example/vellum_index/vellumindex/Stemmer") (2 : Int32) [(.ref w3_N), (.ref w4_P)] .null) (E_w2_V : Exa Z h0 w2_V "[Lcom/example/vellum_index/vellumindex/Stemmer;") (E_w3_N : Exa Z h0 w3_N "com/example/vellum_index/vellumindex/Stemmer$1") (E_w4_P : Exa Z h0 w4_P "com/example/vellum_index/vellumindex/Stemmer$2") (F_label_w3_N : Fld Z h0 w3_N "com/example/vellum_index/vellumindex/Stemmer" "label" "Ljava/lang/String;" (.ref w5_L)) (F_label_w4_P : Fld Z h0 w4_P "com/example/vellum_index/vellumindex/Stemmer" "label" "Ljava/lang/String;" (.ref w6_L)) (E_w5_L : Exa Z h0 w5_L "java/lang/String") (F_coder_w5_L : Fld Z h0 w5_L "java/lang/String" "coder" "B" (.int (0 : Int32))) (F_value_w5_L : Fld Z h0 w5_L "java/lang/String" "value" "[B" (.ref w7_B)) (V_w7_B : Arv Z h0 w7_B kB0 .byte (4 : Int32) [(.int (110 : Int32)), (.int (111 : Int32)), (.int (110 : Int32)), (.int (101 : Int32))] (.int (0 : Int32))) (E_w6_L : Exa Z h0 w6_L "java/lang/String") (F_coder_w6_L : Fld Z h0 w6_L "java/lang/String" "coder" "B" (.int (0 : Int32))) (F_value_w6_L : Fld Z h0 w6_L "java/lang/String" "value" "[B" (.ref w8_B)) (V_w8_B : Arv Z h0 w8_B kB1 .byte (6 : Int32) [(.int (112 : Int32)), (.int (111 : Int32)), (.int (114 : Int32)), (.int (116 : Int32)), (.int (101 : Int32)), (.int (114 : Int32))] (.int (0 : Int32))) :
    MetFree l x (head1 (Jvm.Cond.code x code maxLocals ret :: ws) room_1) (fun a U => a = #[(.int p0), (.int p1), (.int p2), (.int p3), (.long q4)] ∧ Z.Warmed39 U.vm ∧ U.heap = h0 ∧ CHv Z consts_1 U.vm h0) (fun _ _ _ _ _ => True) (fun _ U o U' => ∃ v L, o = .returned v ∧ Q0 Z p0 p1 p2 p3 q4 w0 u1_SF w2_V w3_N w4_P kV w5_L w6_L w7_B kB0 w8_B kB1 h0 n0 v U'.heap L ∧ ReturnedEndW U o U' L room_1.cells room_1.slots) := by
  refine MetFree.of_bodySF (plainFor_of_name pn_com_example_vellum_index_vellumindex_StemmerLabelledPinLaw) hisR ?_
  intro p e s m args below meth c s₁ Bd hml0 hP hK
  obtain ⟨rfl, hZ, hh, hC⟩ := hP
  have hx := Bd.exec
  have hby := Bd.bytes
  have hml : c.maxLocals = 13 := hml0
  have hown : s.vm.findClass "com/example/vellum_index/vellumindex/StemmerLabelledPinLaw" = some m.cls := findClass_of_methodNamed Bd.named
  have hnm := (name_of_methodNamed Bd.named Bd.method).1
  have hlk := BodyLoose.notSynchronized Bd
  have X0 : Stand p l e room_1 s m #[(.int p0), (.int p1), (.int p2), (.int p3), (.long q4)] below meth c s₁ [] 0 0 := Stand.of_body Bd
  have e0 : s₁.heap = h0 := by rw [← hh, Bd.state]; rfl
  have N0 := Fr.nil n0
  have hS0 : s.Since s.vm h0.size := (State.WarmedH.refl s).since _
  have ch0 := CHr.refl hC
  have pre0 : ∀ t, Steps p.tables e below (s₁.setTop (mkF m 0 #[.val (.int p0), .val (.int p1), .val (.int p2), .val (.int p3), .val (.long q4), .second, .unset, .unset, .unset, .unset, .unset, .unset, .unset] [])) t → Steps p.tables e below (s₁.setTop (entryFrame m #[(.int p0), (.int p1), (.int p2), (.int p3), (.long q4)] maxLocals)) t := fun t k => castTop (ef_0 m p0 p1 p2 p3 q4) k
  have pre1 : ∀ t, Steps p.tables e below (s₁.setTop (mkF m 10 #[.val (.int p0), .val (.int p1), .val (.int p2), .val (.int p3), .val (.long q4), .second, .val (.int (v0_1 p0 p1 p2 p3 q4 w0)), .unset, .unset, .unset, .unset, .unset, .unset] [(.int ((p0 >>> ((2 : Int32) &&& 31)) &&& (1 : Int32)))])) t → Steps p.tables e below (s₁.setTop (entryFrame m #[(.int p0), (.int p1), (.int p2), (.int p3), (.long q4)] maxLocals)) t := by
    intro t k
    refine pre0 t ?_
    show Steps p.tables e below (s₁.setTop (mkF m 0 #[.val (.int p0), .val (.int p1), .val (.int p2), .val (.int p3), .val (.long q4), .second, .unset, .unset, .unset, .unset, .unset, .unset, .unset] [])) _
    refine XS.iloadN X0.here hx rfl (hb hby at_0) rfl ?_
    refine XT.iconstV X0.here hx rfl (3 : Int32) (hb hby at_1) (by decide) ?_
    refine XS.iand X0.here hx rfl (hb hby at_2) rfl ?_
    refine XS.istore X0.here hx rfl (hb hby at_3) rfl (l' := #[.val (.int p0), .val (.int p1), .val (.int p2), .val (.int p3), .val (.long q4), .second, .val (.int (v0_1 p0 p1 p2 p3 q4 w0)), .unset, .unset, .unset, .unset, .unset, .unset]) rfl ?_
    show Steps p.tables e below (s₁.setTop (mkF m 5 #[.val (.int p0), .val (.int p1), .val (.int p2), .val (.int p3), .val (.long q4), .second, .val (.int (v0_1 p0 p1 p2 p3 q4 w0)), .unset, .unset, .unset, .unset, .unset, .unset] [])) _
    refine XS.iloadN X0.here hx rfl (hb hby at_5) rfl ?_
    refine XT.iconstV X0.here hx rfl (2 : Int32) (hb hby at_6) (by decide) ?_
    show Steps p.tables e below (s₁.setTop (mkF m 7 #[.val (.int p0), .val (.int p1), .val (.int p2), .val (.int p3), .val (.long q4), .second, .val (.int (v0_1 p0 p1 p2 p3 q4 w0)), .unset, .unset, .unset, .unset, .unset, .unset] [(.int (2 : Int32)), (.int p0)])) _
    refine XT.ishr X0.here hx rfl (hb hby at_7) rfl ?_
    refine XT.iconstV X0.here hx rfl (1 : Int32) (hb hby at_8) (by decide) ?_
    refine XS.iand X0.here hx rfl (hb hby at_9) rfl ?_
    exact k
  clear pre0
  have pre3 : ∀ t, Steps p.tables e below (s₁.setTop (mkF m 18 #[.val (.int p0), .val (.int p1), .val (.int p2), .val (.int p3), .val (.long q4), .second, .val (.int (v0_1 p0 p1 p2 p3 q4 w0)), .unset, .unset, .unset, .unset, .unset, .unset] [(.int (v0_3 p0 p1 p2 p3 q4 w0))])) t → Steps p.tables e below (s₁.setTop (entryFrame m #[(.int p0), (.int p1), (.int p2), (.int p3), (.long q4)] maxLocals)) t := by
    intro t k
    by_cases c2 : (v0_2 p0 p1 p2 p3 q4 w0) = (0 : Int32)
    · skip
      rw [show (v0_3 p0 p1 p2 p3 q4 w0) = (0 : Int32) from (if_pos c2)] at k
      refine pre1 t ?_
      show Steps p.tables e below (s₁.setTop (mkF m 10 #[.val (.int p0), .val (.int p1), .val (.int p2), .val (.int p3), .val (.long q4), .second, .val (.int (v0_1 p0 p1 p2 p3 q4 w0)), .unset, .unset, .unset, .unset, .unset, .unset] [(.int ((p0 >>> ((2 : Int32) &&& 31)) &&& (1 : Int32)))])) _
      refine XS.ifYes X0.here hx rfl (pc0 := 10) (pc' := 17) rfl (hb hby at_10) rfl (XT.i0_eq_t c2) (by decide) (by decide) ?_
      refine XT.iconstV X0.here hx rfl (0 : Int32) (hb hby at_17) (by decide) ?_
      exact k
    · skip
      rw [show (v0_3 p0 p1 p2 p3 q4 w0) = (1 : Int32) from (if_neg c2)] at k
      refine pre1 t ?_
      show Steps p.tables e below (s₁.setTop (mkF m 10 #[.val (.int p0), .val (.int p1), .val (.int p2), .val (.int p3), .val (.long q4), .second, .val (.int (v0_1 p0 p1 p2 p3 q4 w0)), .unset, .unset, .unset, .unset, .unset, .unset] [(.int ((p0 >>> ((2 : Int32) &&& 31)) &&& (1 : Int32)))])) _
      refine XS.ifNo X0.here hx rfl (hb hby at_10) rfl (XT.i0_eq_f c2) ?_
      refine XT.iconstV X0.here hx rfl (1 : Int32) (hb hby at_13) (by decide) ?_
      show Steps p.tables e below (s₁.setTop (mkF m 14 #[.val (.int p0), .val (.int p1), .val (.int p2), .val (.int p3), .val (.long q4), .second, .val (.int (v0_1 p0 p1 p2 p3 q4 w0)), .unset, .unset, .unset, .unset, .unset, .unset] [(.int (1 : Int32))])) _
      refine XS.goto X0.here hx rfl (pc0 := 14) (pc' := 18) rfl (hb hby at_14) (by decide) (by decide) ?_
      exact k
  have pre4 : ∀ t, Steps p.tables e below (s₁.setTop (mkF m 35 #[.val (.int p0), .val (.int p1), .val (.int p2), .val (.int p3), .val (.long q4), .second, .val (.int (v0_1 p0 p1 p2 p3 q4 w0)), .val (.int (v0_3 p0 p1 p2 p3 q4 w0)), .val (.int (v0_4 p0 p1 p2 p3 q4 w0)), .val (.int (v0_6 p0 p1 p2 p3 q4 w0)), .unset, .unset, .unset] [])) t → Steps p.tables e below (s₁.setTop (entryFrame m #[(.int p0), (.int p1), (.int p2), (.int p3), (.long q4)] maxLocals)) t := by
    intro t k
    refine pre3 t ?_
    show Steps p.tables e below (s₁.setTop (mkF m 18 #[.val (.int p0), .val (.int p1), .val (.int p2), .val (.int p3), .val (.long q4), .second, .val (.int (v0_1 p0 p1 p2 p3 q4 w0)), .unset, .unset, .unset, .unset, .unset, .unset] [(.int (v0_3 p0 p1 p2 p3 q4 w0))])) _
    refine XS.istore X0.here hx rfl (hb hby at_18) rfl (l' := #[.val (.int p0), .val (.int p1), .val (.int p2), .val (.int p3), .val (.long q4), .second, .val (.int (v0_1 p0 p1 p2 p3 q4 w0)), .val (.int (v0_3 p0 p1 p2 p3 q4 w0)), .unset, .unset, .unset, .unset, .unset]) rfl ?_
    refine XS.iloadN X0.here hx rfl (hb hby at_20) rfl ?_
    refine XT.bipushV X0.here hx rfl (7 : Int32) (hb hby at_21) (by decide) ?_
    refine XS.iand X0.here hx rfl (hb hby at_23) rfl ?_
    show Steps p.tables e below (s₁.setTop (mkF m 24 #[.val (.int p0), .val (.int p1), .val (.int p2), .val (.int p3), .val (.long q4), .second, .val (.int (v0_1 p0 p1 p2 p3 q4 w0)), .val (.int (v0_3 p0 p1 p2 p3 q4 w0)), .unset, .unset, .unset, .unset, .unset] [(.int (p1 &&& (7 : Int32)))])) _
    refine XS.istore X0.here hx rfl (hb hby at_24) rfl (l' := #[.val (.int p0), .val (.int p1), .val (.int p2), .val (.int p3), .val (.long q4), .second, .val (.int (v0_1 p0 p1 p2 p3 q4 w0)), .val (.int (v0_3 p0 p1 p2 p3 q4 w0)), .val (.int (v0_4 p0 p1 p2 p3 q4 w0)), .unset, .unset, .unset, .unset]) rfl ?_
    refine XS.iloadN X0.here hx rfl (hb hby at_26) rfl ?_
    show Steps p.tables e below (s₁.setTop (mkF m 27 #[.val (.int p0), .val (.int p1), .val (.int p2), .val (.int p3), .val (.long q4), .second, .val (.int (v0_1 p0 p1 p2 p3 q4 w0)), .val (.int (v0_3 p0 p1 p2 p3 q4 w0)), .val (.int (v0_4 p0 p1 p2 p3 q4 w0)), .unset, .unset, .unset, .unset] [(.int p2)])) _
    refine X0.ldcI hx hown (mvT hZ (wd hw 0 rfl)) rfl (hb hby at_27) ?_
    refine XS.iand X0.here hx rfl (hb hby at_29) rfl ?_
    refine XT.bipushV X0.here hx rfl (8 : Int32) (hb hby at_30) (by decide) ?_
    show Steps p.tables e below (s₁.setTop (mkF m 32 #[.val (.int p0), .val (.int p1), .val (.int p2), .val (.int p3), .val (.long q4), .second, .val (.int (v0_1 p0 p1 p2 p3 q4 w0)), .val (.int (v0_3 p0 p1 p2 p3 q4 w0)), .val (.int (v0_4 p0 p1 p2 p3 q4 w0)), .unset, .unset, .unset, .unset] [(.int (8 : Int32)), (.int (p2 &&& (2147483647 : Int32)))])) _
    refine XS.irem X0.here hx rfl (hb hby at_32) rfl (by decide) ?_
    refine XS.istore X0.here hx rfl (hb hby at_33) rfl (l' := #[.val (.int p0), .val (.int p1), .val (.int p2), .val (.int p3), .val (.long q4), .second, .val (.int (v0_1 p0 p1 p2 p3 q4 w0)), .val (.int (v0_3 p0 p1 p2 p3 q4 w0)), .val (.int (v0_4 p0 p1 p2 p3 q4 w0)), .val (.int (v0_6 p0 p1 p2 p3 q4 w0)), .unset, .unset, .unset]) rfl ?_
    exact k
  clear pre3
  rcases own_n8 p0 p1 p2 p3 q4 w0 with cn | cn | cn | cn | cn | cn | cn | cn
  · skip
    rw [show (v0_4 p0 p1 p2 p3 q4 w0) = (0 : Int32) from cn] at pre4
    obtain ⟨T5, h5, k5, X5, e5, E5, A5, EA5, st5⟩ := newPE X0 hx hZ (wd hw 1 rfl) e0 (g := (mkF m 37 #[.val (.int p0), .val (.int p1), .val (.int p2), .val (.int p3), .val (.long q4), .second, .val (.int (v0_1 p0 p1 p2 p3 q4 w0)), .val (.int (v0_3 p0 p1 p2 p3 q4 w0)), .val (.int (0 : Int32)), .val (.int (v0_6 p0 p1 p2 p3 q4 w0)), .unset, .unset, .unset] [(.int (0 : Int32))])) rfl (hb hby at_37) rfl (by decide) (cap := 0) (by decide) (by decide) (by decide) (by decide) (ad := "[C") rfl
    obtain ⟨b5, gz5⟩ : ∃ z, z = h0.size := ⟨_, rfl⟩
    rw [← gz5] at A5 EA5 st5
    have ne6 : w2_V ≠ b5 := Nat.ne_of_lt (Nat.lt_of_lt_of_le E_w2_V.lt (Nat.le_of_eq gz5.symm))
    have ne7 : w3_N ≠ b5 := Nat.ne_of_lt (Nat.lt_of_lt_of_le E_w3_N.lt (Nat.le_of_eq gz5.symm))
    have ne8 : w4_P ≠ b5 := Nat.ne_of_lt (Nat.lt_of_lt_of_le E_w4_P.lt (Nat.le_of_eq gz5.symm))
    have ne9 : w5_L ≠ b5 := Nat.ne_of_lt (Nat.lt_of_lt_of_le E_w5_L.lt (Nat.le_of_eq gz5.symm))
    have ne10 : w6_L ≠ b5 := Nat.ne_of_lt (Nat.lt_of_lt_of_le E_w6_L.lt (Nat.le_of_eq gz5.symm))
    have ne11 : w7_B ≠ b5 := Nat.ne_of_lt (Nat.lt_of_lt_of_le V_w7_B.lt (Nat.le_of_eq gz5.symm))
    have ne12 : w8_B ≠ b5 := Nat.ne_of_lt (Nat.lt_of_lt_of_le V_w8_B.lt (Nat.le_of_eq gz5.symm))
    have g13 : n0 ≤ b5 := Nat.le_trans Z0 (Nat.le_of_eq gz5.symm)
    have sz14 : h0.size ≤ b5 := Nat.le_trans (Nat.le_refl h0.size) (Nat.le_of_eq gz5.symm)
    have ch15 := ch0.trans (CHr.ext E5 ch0.1)
    have z16 : n0 ≤ h5.size := Nat.le_trans Z0 E5.1
    have hs17 : h0.size ≤ h5.size := Nat.le_trans (Nat.le_refl h0.size) E5.1
    have hk18 := Nat.le_trans (Nat.le_refl _) E5.1
    have V5 : Arv Z h5 b5 k5 .char (0 : Int32) [] (.int (0 : Int32)) := (Arv.new A5 (by decide)).pad (pad_rep [] (.int (0 : Int32)) 0)
    obtain ⟨T19, h19, X19, e19, E19, A19, D19, -, st19⟩ := newO X5 hx hZ hown (wd hw 52 rfl) (wd hw 11 rfl) (wd hw 10 rfl) e5 (g := (mkF m 204 #[.val (.int p0), .val (.int p1), .val (.int p2), .val (.int p3), .val (.long q4), .second, .val (.int (v0_1 p0 p1 p2 p3 q4 w0)), .val (.int (v0_3 p0 p1 p2 p3 q4 w0)), .val (.int (0 : Int32)), .val (.int (v0_6 p0 p1 p2 p3 q4 w0)), .val (.ref b5), .unset, .unset] [])) rfl (hb hby at_204) (by decide) (by decide)
    obtain ⟨b19, gz19⟩ : ∃ z, z = h5.size := ⟨_, rfl⟩
    rw [← gz19] at A19 D19 st19
    have k20 := (E_w2_V.ext E5)
    have ne21 : w2_V ≠ b19 := Nat.ne_of_lt (Nat.lt_of_lt_of_le k20.lt (Nat.le_of_eq gz19.symm))
    have k22 := (E_w3_N.ext E5)
    have ne23 : w3_N ≠ b19 := Nat.ne_of_lt (Nat.lt_of_lt_of_le k22.lt (Nat.le_of_eq gz19.symm))
    have k24 := (E_w4_P.ext E5)
    have ne25 : w4_P ≠ b19 := Nat.ne_of_lt (Nat.lt_of_lt_of_le k24.lt (Nat.le_of_eq gz19.symm))
    have k26 := (E_w5_L.ext E5)
    have ne27 : w5_L ≠ b19 := Nat.ne_of_lt (Nat.lt_of_lt_of_le k26.lt (Nat.le_of_eq gz19.symm))
    have k28 := (E_w6_L.ext E5)
    have ne29 : w6_L ≠ b19 := Nat.ne_of_lt (Nat.lt_of_lt_of_le k28.lt (Nat.le_of_eq gz19.symm))
    have ne30 : b5 ≠ b19 := Nat.ne_of_lt (Nat.lt_of_lt_of_le EA5.lt (Nat.le_of_eq gz19.symm))
    have k31 := (V_w7_B.ext E5)
    have ne32 : w7_B ≠ b19 := Nat.ne_of_lt (Nat.lt_of_lt_of_le k31.lt (Nat.le_of_eq gz19.symm))
    have k33 := (V_w8_B.ext E5)
    have ne34 : w8_B ≠ b19 := Nat.ne_of_lt (Nat.lt_of_lt_of_le k33.lt (Nat.le_of_eq gz19.symm))
    have g35 : n0 ≤ b19 := Nat.le_trans z16 (Nat.le_of_eq gz19.symm)
    have sz36 : h0.size ≤ b19 := Nat.le_trans hs17 (Nat.le_of_eq gz19.symm)
    have ch37 := ch15.trans (CHr.ext E19 ch15.1)
    have z38 : n0 ≤ h19.size := Nat.le_trans z16 E19.1
    have hs39 : h0.size ≤ h19.size := Nat.le_trans hs17 E19.1
    have hk40 := Nat.le_trans hk18 E19.1
    have sf41 := Safe.ext E19 ch15.1 (Safe.new (Z := Z) (EL := consts_1) (vm := s.vm) (Nat.le_of_eq gz19.symm))
    have F19_value : Fld Z h19 b19 "java/lang/String" "value" "[B" .null := D19 (Or.inr (wd hw 13 rfl)) (ty := (.array .byte)) (by decide)
    have F19_coder : Fld Z h19 b19 "java/lang/String" "coder" "B" (.int (0 : Int32)) := D19 (Or.inr (wd hw 14 rfl)) (ty := .byte) (by decide)
    have k43 := (V5.ext E19)
    obtain ⟨vr42, _, ⟨T42, L42, k42, n42⟩, -, X42, hSq42, hgq42, ⟨Lc42, hQ42, l42, y42, z42, Cr42⟩, st42⟩ := Jvm.Stand.specialBackS (s := s.setVm s.vm) X19 hx (y := (⟨"java/lang/String", "<init>", "([C)V"⟩ : MethodName)) rfl hown (mvT hZ (wd hw 53 rfl)) (mvT hZ (wd hw 54 rfl)) (mvT hZ (wd hw 55 rfl)) (by decide) (backOfSH (s := s ) (vm0 := s.vm) (EL := consts_1) (W := 1) (rmsn0 l Z a0 hw [] b19 b5 k5 h19 n0 z38 A19 F19_value F19_coder k43 g35) hZ (wd hw 55 rfl) (wd hw 10 rfl) (by decide) (by decide) (own_ew hw) ch37.1) (g := (mkF m 210 #[.val (.int p0), .val (.int p1), .val (.int p2), .val (.int p3), .val (.long q4), .second, .val (.int (v0_1 p0 p1 p2 p3 q4 w0)), .val (.int (v0_3 p0 p1 p2 p3 q4 w0)), .val (.int (0 : Int32)), .val (.int (v0_6 p0 p1 p2 p3 q4 w0)), .val (.ref b5), .unset, .unset] [(.ref b5), (.ref b19), (.ref b19)])) rfl (by rw [hml]; rfl) (Steps.refl _) (a := b19) (argsL := [(.ref b5)]) (rest := [(.ref b19)]) (lenOf pd___C_V rfl) rfl (by show 2 * 0 + _ ≤ _; exact Nat.le_of_eq rfl) (hb hby at_210) (fun _ _ => ⟨rfl, e19, (by decide : 2 + 2 ≤ _), (by decide : 4 + 4 ≤ _)⟩)
    dsimp only [Pt.U, Pt.locs, Pt.cells, Pt.slots] at X42 l42 y42 z42 st42 hQ42 hSq42 hgq42 Cr42
    obtain ⟨X42, hS42, hZ, hown⟩ := rebS (s := s) (vm0 := s.vm) (n1 := h19.size) hS0 hk40 X42 hSq42 (by rw [← e19]; exact hgq42) hZ hown
    have sf44 := Cr42.safe A19.lt sf41
    have ch45 := ch37.trans Cr42
    replace X42 := own_stand X42 l42 y42 z42
    clear l42 y42 z42
    have N42q := (show _ ∧ _ from hQ42).1
    have hq42 := (show _ ∧ _ from hQ42).2
    clear hQ42
    obtain ⟨xsn0_0_42, ksn0_1_42, hq42x⟩ := hq42
    have hv42 := hq42x.1
    have K42 := hq42x.2.1
    have po42_0 := hq42x.2.2.1
    have po42_1 := hq42x.2.2.2.1
    have po42_2 := hq42x.2.2.2.2.1
    have po42_3 := hq42x.2.2.2.2.2
    clear hq42x
    subst hv42
    have z46 : n0 ≤ T42.heap.size := Nat.le_trans z38 K42.1
    have hs47 : h0.size ≤ T42.heap.size := Nat.le_trans hs39 K42.1
    have N42 := Fr.app N0 N42q
    obtain ⟨la48, T48, h48, kk48, lb48, lk48, X48, e48, E48, hS48, hk48, hZ, hown, Ex48, Fc48, Fv48, V48, -, -, Cr48, Lt48, Sf48, st48⟩ := ldcCH (s := s) (vm0 := T42.vm) (EL := consts_1) X42 hx hZ hown (wd hw 9 rfl) (own_ws hw) rfl hS42 (Nat.le_refl _) (own_ew hw) (List.mem_of_getElem? (i := 0) rfl) ch45.1 (z := (4 : Int32)) (vs := [(.int (110 : Int32)), (.int (111 : Int32)), (.int (110 : Int32)), (.int (101 : Int32))]) ⟨by decide, by rfl⟩ (by decide) rfl (g := (mkF m 220 #[.val (.int p0), .val (.int p1), .val (.int p2), .val (.int p3), .val (.long q4), .second, .val (.int (v0_1 p0 p1 p2 p3 q4 w0)), .val (.int (v0_3 p0 p1 p2 p3 q4 w0)), .val (.int (0 : Int32)), .val (.int (v0_6 p0 p1 p2 p3 q4 w0)), .val (.ref b5), .val (.ref b19), .val .null] [(.ref b19)])) rfl (hb hby at_220) (n := 16) (by decide) (by decide) (by decide) (by decide)
    have sf49 := Cr48.safe po42_0.lt sf44
    have ch50 := ch45.trans Cr48
    have z51 : n0 ≤ h48.size := Nat.le_trans z46 E48.1
    have hs52 : h0.size ≤ h48.size := Nat.le_trans hs47 E48.1
    have ne53 := Sf48 _ sf49
    have k54 := ((((V_w2_V.ext E5).ext E19).keep K42 (ninS ne21 nin0)).ext E48)
    have k55 := ((k43.keep K42 (ninS ne30 nin0)).ext E48)
    have k57 := (po42_0.ext E48)
    have k58 := (po42_2.ext E48)
    have k59 := (po42_1.ext E48)
    have k60 := (po42_3.ext E48)
    have O61 := ((((O0.ext E5).ext E19).keep K42 (allS g35 all0)).ext E48)
    obtain ⟨cq56, kq56, q56a, q56b, q56c⟩ := isOf hZ e48 k57
    obtain ⟨vr56, _, ⟨T56, L56, k56, n56⟩, -, X56, ⟨Lc56, hQ56, l56, y56, z56⟩, st56⟩ := Jvm.Stand.virtualBack X48 hx (y := (⟨"java/lang/String", "equals", "(Ljava/lang/Object;)Z"⟩ : MethodName)) (z := (⟨"java/lang/String", "equals", "(Ljava/lang/Object;)Z"⟩ : MethodName)) hown (mvT hZ (wd hw 73 rfl)) (mvT hZ (wd hw 74 rfl)) (notFace_of_selects (args := #[]) (mvT hZ (wd hw 76 rfl))) (mvT hZ (wd hw 76 rfl)) (mvT hZ (wd hw 75 rfl)) (by decide) (backOf (W := 0) (rmsqD l Z a0 hw [] b19 la48 xsn0_0_42 (0 : Int32) ([]) ksn0_1_42 lb48 (4 : Int32) ([(.int (110 : Int32)), (.int (111 : Int32)), (.int (110 : Int32)), (.int (101 : Int32))]) lk48 w0 h48 n0 z51 k57 k58 k59 k60 Ex48 Fc48 Fv48 V48 ne53.1 (Sta.ext O61.2 S_String_COMPACT_STRINGS) hcs (by decide)) hZ (wd hw 77 rfl) (wd hw 10 rfl) (by decide) (by decide)) q56a q56c (g := (mkF m 222 #[.val (.int p0), .val (.int p1), .val (.int p2), .val (.int p3), .val (.long q4), .second, .val (.int (v0_1 p0 p1 p2 p3 q4 w0)), .val (.int (v0_3 p0 p1 p2 p3 q4 w0)), .val (.int (0 : Int32)), .val (.int (v0_6 p0 p1 p2 p3 q4 w0)), .val (.ref b5), .val (.ref b19), .val .null] [(.ref la48), (.ref b19)])) rfl (by rw [hml]; rfl) (Steps.refl _) (argsL := [(.ref la48)]) (rest := []) (lenOf pd__Ljava_lang_Object__Z rfl) rfl (by show 2 * 0 + _ ≤ _; exact Nat.le_of_eq rfl) (hb hby at_222) (fun _ _ => ⟨rfl, e48, (by decide : 6 + 0 ≤ _), (by decide : 28 + 0 ≤ _)⟩)
    dsimp only [Pt.U, Pt.locs, Pt.cells, Pt.slots] at X56 l56 y56 z56 st56 hQ56
    replace X56 := own_stand X56 l56 y56 z56
    clear l56 y56 z56
    have N56q := (show _ ∧ _ ∧ _ from hQ56).1
    have hv56 := (show _ ∧ _ ∧ _ from hQ56).2.1
    have e56 := (show _ ∧ _ ∧ _ from hQ56).2.2
    clear hQ56
    subst hv56
    have N56 := Fr.app N42 N56q
    obtain ⟨la62, T62, h62, kk62, lb62, lk62, X62, e62, E62, hS62, hk62, hZ, hown, Ex62, Fc62, Fv62, V62, -, -, Cr62, Lt62, Sf62, st62⟩ := ldcCH (s := s) (vm0 := T48.vm) (EL := consts_1) X56 hx hZ hown (wd hw 82 rfl) (own_ws hw) e56 hS48 hk48 (own_ew hw) (List.mem_of_getElem? (i := 1) rfl) ch50.1 (z := (6 : Int32)) (vs := [(.int (112 : Int32)), (.int (111 : Int32)), (.int (114 : Int32)), (.int (116 : Int32)), (.int (101 : Int32)), (.int (114 : Int32))]) ⟨by decide, by rfl⟩ (by decide) rfl (g := (mkF m 238 #[.val (.int p0), .val (.int p1), .val (.int p2), .val (.int p3), .val (.long q4), .second, .val (.int (v0_1 p0 p1 p2 p3 q4 w0)), .val (.int (v0_3 p0 p1 p2 p3 q4 w0)), .val (.int (0 : Int32)), .val (.int (v0_6 p0 p1 p2 p3 q4 w0)), .val (.ref b5), .val (.ref b19), .val .null] [(.ref b19)])) rfl (hb hby at_238) (n := 24) (by decide) (by decide) (by decide) (by decide)
    have sf63 := Cr62.safe k57.lt sf49
    have ch64 := ch50.trans Cr62
    have z65 : n0 ≤ h62.size := Nat.le_trans z51 E62.1
    have hs66 : h0.size ≤ h62.size := Nat.le_trans hs52 E62.1
    have ne67 := Sf62 _ sf63
    have k68 := (k54.ext E62)
    have k69 := (k55.ext E62)
    have k71 := (k57.ext E62)
    have k72 := (k58.ext E62)
    have k73 := (k59.ext E62)
    have k74 := (k60.ext E62)
    have O75 := (O61.ext E62)
    obtain ⟨cq70, kq70, q70a, q70b, q70c⟩ := isOf hZ e62 k71
    obtain ⟨vr70, _, ⟨T70, L70, k70, n70⟩, -, X70, ⟨Lc70, hQ70, l70, y70, z70⟩, st70⟩ := Jvm.Stand.virtualBack X62 hx (y := (⟨"java/lang/String", "equals", "(Ljava/lang/Object;)Z"⟩ : MethodName)) (z := (⟨"java/lang/String", "equals", "(Ljava/lang/Object;)Z"⟩ : MethodName)) hown (mvT hZ (wd hw 73 rfl)) (mvT hZ (wd hw 74 rfl)) (notFace_of_selects (args := #[]) (mvT hZ (wd hw 76 rfl))) (mvT hZ (wd hw 76 rfl)) (mvT hZ (wd hw 75 rfl)) (by decide) (backOf (W := 0) (rmsqD l Z a0 hw [] b19 la62 xsn0_0_42 (0 : Int32) ([]) ksn0_1_42 lb62 (6 : Int32) ([(.int (112 : Int32)), (.int (111 : Int32)), (.int (114 : Int32)), (.int (116 : Int32)), (.int (101 : Int32)), (.int (114 : Int32))]) lk62 w0 h62 n0 z65 k71 k72 k73 k74 Ex62 Fc62 Fv62 V62 ne67.1 (Sta.ext O75.2 S_String_COMPACT_STRINGS) hcs (by decide)) hZ (wd hw 77 rfl) (wd hw 10 rfl) (by decide) (by decide)) q70a q70c (g := (mkF m 240 #[.val (.int p0), .val (.int p1), .val (.int p2), .val (.int p3), .val (.long q4), .second, .val (.int (v0_1 p0 p1 p2 p3 q4 w0)), .val (.int (v0_3 p0 p1 p2 p3 q4 w0)), .val (.int (0 : Int32)), .val (.int (v0_6 p0 p1 p2 p3 q4 w0)), .val (.ref b5), .val (.ref b19), .val .null] [(.ref la62), (.ref b19)])) rfl (by rw [hml]; rfl) (Steps.refl _) (argsL := [(.ref la62)]) (rest := []) (lenOf pd__Ljava_lang_Object__Z rfl) rfl (by show 2 * 0 + _ ≤ _; exact Nat.le_of_eq rfl) (hb hby at_240) (fun _ _ => ⟨rfl, e62, (by decide : 8 + 0 ≤ _), (by decide : 56 + 0 ≤ _)⟩)
    dsimp only [Pt.U, Pt.locs, Pt.cells, Pt.slots] at X70 l70 y70 z70 st70 hQ70
    replace X70 := own_stand X70 l70 y70 z70
    clear l70 y70 z70
    have N70q := (show _ ∧ _ ∧ _ from hQ70).1
    have hv70 := (show _ ∧ _ ∧ _ from hQ70).2.1
    have e70 := (show _ ∧ _ ∧ _ from hQ70).2.2
    clear hQ70
    subst hv70
    have N70 := Fr.app N56 N70q
    have k77 := ((((k20.ext E19).keep K42).ext E48).ext E62)
    have k78 := ((((k22.ext E19).keep K42).ext E48).ext E62)
    have k79 := ((((k24.ext E19).keep K42).ext E48).ext E62)
    have k80 := (((((F_label_w3_N.ext E5).ext E19).keep K42 (ninS ne23 nin0)).ext E48).ext E62)
    have k81 := (((((F_label_w4_P.ext E5).ext E19).keep K42 (ninS ne25 nin0)).ext E48).ext E62)
    have k82 := ((((k26.ext E19).keep K42).ext E48).ext E62)
    have k83 := (((((F_coder_w5_L.ext E5).ext E19).keep K42 (ninS ne27 nin0)).ext E48).ext E62)
    have k84 := (((((F_value_w5_L.ext E5).ext E19).keep K42 (ninS ne27 nin0)).ext E48).ext E62)
    have k85 := ((((k31.ext E19).keep K42 (ninS ne32 nin0)).ext E48).ext E62)
    have k86 := ((((k28.ext E19).keep K42).ext E48).ext E62)
    have k87 := (((((F_coder_w6_L.ext E5).ext E19).keep K42 (ninS ne29 nin0)).ext E48).ext E62)
    have k88 := (((((F_value_w6_L.ext E5).ext E19).keep K42 (ninS ne29 nin0)).ext E48).ext E62)
    have k89 := ((((k33.ext E19).keep K42 (ninS ne34 nin0)).ext E48).ext E62)
    obtain ⟨vr76, _, ⟨T76, L76, k76, n76⟩, -, X76, ⟨Lc76, hQ76, l76, y76, z76⟩, st76⟩ := Jvm.LawKit.callS X70 hx (y := (⟨"com/example/vellum_index/vellumindex/Stemmer", "labelled", "(Ljava/lang/String;)Lcom/example/vellum_index/vellumindex/Stemmer;"⟩ : MethodName)) hown (mvT hZ (wd hw 83 rfl)) (mvT hZ (wd hw 84 rfl)) (mvT hZ (wd hw 85 rfl)) (mvT hZ (wd hw 86 rfl)) (by decide) (backOf (W := 0) (rmlbD l Z a0 hw [] b19 w2_V w3_N w4_P kV w5_L w6_L w7_B kB0 w8_B kB1 xsn0_0_42 (0 : Int32) ([]) ksn0_1_42 w0 h62 n0 z65 (Sta.ext O75.2 S_Stemmer__VALUES) k68 k77 k78 k79 k80 k81 k82 k83 k84 k85 k86 k87 k88 k89 k71 k72 k73 k74 ne27 ne29 (Sta.ext O75.2 S_String_COMPACT_STRINGS) hcs (by decide) (by decide)) hZ (wd hw 86 rfl) (wd hw 85 rfl) (by decide) (by decide)) (g := (mkF m 253 #[.val (.int p0), .val (.int p1), .val (.int p2), .val (.int p3), .val (.long q4), .second, .val (.int (v0_1 p0 p1 p2 p3 q4 w0)), .val (.int (v0_3 p0 p1 p2 p3 q4 w0)), .val (.int (0 : Int32)), .val (.int (v0_6 p0 p1 p2 p3 q4 w0)), .val (.ref b5), .val (.ref b19), .val .null] [(.ref b19)])) rfl (by rw [hml]; rfl) (argsL := [(.ref b19)]) (rest := []) (lenOf pd_h53915 rfl) rfl (by show 2 * 0 + _ ≤ _; exact Nat.le_of_eq rfl) (hb hby at_253) (fun _ _ => ⟨rfl, e70, (by decide : 8 + 1 ≤ _), (by decide : 56 + 2 ≤ _)⟩)
    dsimp only [Pt.U, Pt.locs, Pt.cells, Pt.slots] at X76 l76 y76 z76 st76 hQ76
    replace X76 := own_stand X76 l76 y76 z76
    clear l76 y76 z76
    have N76q := (show _ ∧ _ from hQ76).1
    have hq76 := (show _ ∧ _ from hQ76).2
    clear hQ76
    have hv76 := hq76.1
    have K76 := hq76.2
    clear hq76
    subst hv76
    have sf91 := Safe.keep K76 sf0 ch64.1 sf63
    have ch90 := ch64.trans (CHr.keep K76 sf0 ch64.1)
    have z92 : n0 ≤ T76.heap.size := Nat.le_trans z65 K76.1
    have hs93 : h0.size ≤ T76.heap.size := Nat.le_trans hs66 K76.1
    have hk94 := Nat.le_trans hk62 K76.1
    have N76 := Fr.app N70 N76q
    obtain ⟨fs, hr, hrun, hended, hRW⟩ := Jvm.Stand.leaveW (s := s) (vm₁ := T62.vm) X76 hS62 hk94 (v := some (.int (1 : Int32))) (fun h => by rw [Bd.returns] at h; cases h) hlk
    refine ⟨_, _, pre4 _ ?_, hrun, hended, _, _, rfl, ?_, hRW.1, hRW.2.1, hRW.2.2.1, hRW.2.2.2.mono (by decide) (by decide)⟩
    · skip
      show Steps p.tables e below (s₁.setTop (mkF m 35 #[.val (.int p0), .val (.int p1), .val (.int p2), .val (.int p3), .val (.long q4), .second, .val (.int (v0_1 p0 p1 p2 p3 q4 w0)), .val (.int (v0_3 p0 p1 p2 p3 q4 w0)), .val (.int (0 : Int32)), .val (.int (v0_6 p0 p1 p2 p3 q4 w0)), .unset, .unset, .unset] [])) _
      refine XS.iload X0.here hx rfl (hb hby at_35) rfl ?_
      show Steps p.tables e below (s₁.setTop (mkF m 37 #[.val (.int p0), .val (.int p1), .val (.int p2), .val (.int p3), .val (.long q4), .second, .val (.int (v0_1 p0 p1 p2 p3 q4 w0)), .val (.int (v0_3 p0 p1 p2 p3 q4 w0)), .val (.int (0 : Int32)), .val (.int (v0_6 p0 p1 p2 p3 q4 w0)), .unset, .unset, .unset] [(.int (0 : Int32))])) _
      refine st5 _ ?_
      refine XS.astore X5.here hx rfl (hb hby at_39) rfl rfl (l' := #[.val (.int p0), .val (.int p1), .val (.int p2), .val (.int p3), .val (.long q4), .second, .val (.int (v0_1 p0 p1 p2 p3 q4 w0)), .val (.int (v0_3 p0 p1 p2 p3 q4 w0)), .val (.int (0 : Int32)), .val (.int (v0_6 p0 p1 p2 p3 q4 w0)), .val (.ref b5), .unset, .unset]) rfl ?_
      refine XS.iload X5.here hx rfl (hb hby at_41) rfl ?_
      show Steps p.tables e below (T5.setTop (mkF m 43 #[.val (.int p0), .val (.int p1), .val (.int p2), .val (.int p3), .val (.long q4), .second, .val (.int (v0_1 p0 p1 p2 p3 q4 w0)), .val (.int (v0_3 p0 p1 p2 p3 q4 w0)), .val (.int (0 : Int32)), .val (.int (v0_6 p0 p1 p2 p3 q4 w0)), .val (.ref b5), .unset, .unset] [(.int (0 : Int32))])) _
      refine XS.ifYes X5.here hx rfl (pc0 := 43) (pc' := 63) rfl (hb hby at_43) rfl (XT.i0_le_t (by decide)) (by decide) (by decide) ?_
      refine XS.iload X5.here hx rfl (hb hby at_63) rfl ?_
      refine XT.iconstV X5.here hx rfl (1 : Int32) (hb hby at_65) (by decide) ?_
      show Steps p.tables e below (T5.setTop (mkF m 66 #[.val (.int p0), .val (.int p1), .val (.int p2), .val (.int p3), .val (.long q4), .second, .val (.int (v0_1 p0 p1 p2 p3 q4 w0)), .val (.int (v0_3 p0 p1 p2 p3 q4 w0)), .val (.int (0 : Int32)), .val (.int (v0_6 p0 p1 p2 p3 q4 w0)), .val (.ref b5), .unset, .unset] [(.int (1 : Int32)), (.int (0 : Int32))])) _
      refine XS.icmpYes X5.here hx rfl (pc0 := 66) (pc' := 86) rfl (hb hby at_66) rfl (XT.ii_le_t (by decide)) (by decide) (by decide) ?_
      refine XS.iload X5.here hx rfl (hb hby at_86) rfl ?_
      refine XT.iconstV X5.here hx rfl (2 : Int32) (hb hby at_88) (by decide) ?_
      show Steps p.tables e below (T5.setTop (mkF m 89 #[.val (.int p0), .val (.int p1), .val (.int p2), .val (.int p3), .val (.long q4), .second, .val (.int (v0_1 p0 p1 p2 p3 q4 w0)), .val (.int (v0_3 p0 p1 p2 p3 q4 w0)), .val (.int (0 : Int32)), .val (.int (v0_6 p0 p1 p2 p3 q4 w0)), .val (.ref b5), .unset, .unset] [(.int (2 : Int32)), (.int (0 : Int32))])) _
      refine XS.icmpYes X5.here hx rfl (pc0 := 89) (pc' := 109) rfl (hb hby at_89) rfl (XT.ii_le_t (by decide)) (by decide) (by decide) ?_
      refine XS.iload X5.here hx rfl (hb hby at_109) rfl ?_
      refine XT.iconstV X5.here hx rfl (3 : Int32) (hb hby at_111) (by decide) ?_
      show Steps p.tables e below (T5.setTop (mkF m 112 #[.val (.int p0), .val (.int p1), .val (.int p2), .val (.int p3), .val (.long q4), .second, .val (.int (v0_1 p0 p1 p2 p3 q4 w0)), .val (.int (v0_3 p0 p1 p2 p3 q4 w0)), .val (.int (0 : Int32)), .val (.int (v0_6 p0 p1 p2 p3 q4 w0)), .val (.ref b5), .unset, .unset] [(.int (3 : Int32)), (.int (0 : Int32))])) _
      refine XS.icmpYes X5.here hx rfl (pc0 := 112) (pc' := 132) rfl (hb hby at_112) rfl (XT.ii_le_t (by decide)) (by decide) (by decide) ?_
      refine XS.iload X5.here hx rfl (hb hby at_132) rfl ?_
      refine XT.iconstV X5.here hx rfl (4 : Int32) (hb hby at_134) (by decide) ?_
      show Steps p.tables e below (T5.setTop (mkF m 135 #[.val (.int p0), .val (.int p1), .val (.int p2), .val (.int p3), .val (.long q4), .second, .val (.int (v0_1 p0 p1 p2 p3 q4 w0)), .val (.int (v0_3 p0 p1 p2 p3 q4 w0)), .val (.int (0 : Int32)), .val (.int (v0_6 p0 p1 p2 p3 q4 w0)), .val (.ref b5), .unset, .unset] [(.int (4 : Int32)), (.int (0 : Int32))])) _
      refine XS.icmpYes X5.here hx rfl (pc0 := 135) (pc' := 155) rfl (hb hby at_135) rfl (XT.ii_le_t (by decide)) (by decide) (by decide) ?_
      refine XS.iload X5.here hx rfl (hb hby at_155) rfl ?_
      refine XT.iconstV X5.here hx rfl (5 : Int32) (hb hby at_157) (by decide) ?_
      show Steps p.tables e below (T5.setTop (mkF m 158 #[.val (.int p0), .val (.int p1), .val (.int p2), .val (.int p3), .val (.long q4), .second, .val (.int (v0_1 p0 p1 p2 p3 q4 w0)), .val (.int (v0_3 p0 p1 p2 p3 q4 w0)), .val (.int (0 : Int32)), .val (.int (v0_6 p0 p1 p2 p3 q4 w0)), .val (.ref b5), .unset, .unset] [(.int (5 : Int32)), (.int (0 : Int32))])) _
      refine XS.icmpYes X5.here hx rfl (pc0 := 158) (pc' := 178) rfl (hb hby at_158) rfl (XT.ii_le_t (by decide)) (by decide) (by decide) ?_
      refine XS.iload X5.here hx rfl (hb hby at_178) rfl ?_
      refine XT.bipushV X5.here hx rfl (6 : Int32) (hb hby at_180) (by decide) ?_
      show Steps p.tables e below (T5.setTop (mkF m 182 #[.val (.int p0), .val (.int p1), .val (.int p2), .val (.int p3), .val (.long q4), .second, .val (.int (v0_1 p0 p1 p2 p3 q4 w0)), .val (.int (v0_3 p0 p1 p2 p3 q4 w0)), .val (.int (0 : Int32)), .val (.int (v0_6 p0 p1 p2 p3 q4 w0)), .val (.ref b5), .unset, .unset] [(.int (6 : Int32)), (.int (0 : Int32))])) _
      refine XS.icmpYes X5.here hx rfl (pc0 := 182) (pc' := 204) rfl (hb hby at_182) rfl (XT.ii_le_t (by decide)) (by decide) (by decide) ?_
      show Steps p.tables e below (T5.setTop (mkF m 204 #[.val (.int p0), .val (.int p1), .val (.int p2), .val (.int p3), .val (.long q4), .second, .val (.int (v0_1 p0 p1 p2 p3 q4 w0)), .val (.int (v0_3 p0 p1 p2 p3 q4 w0)), .val (.int (0 : Int32)), .val (.int (v0_6 p0 p1 p2 p3 q4 w0)), .val (.ref b5), .unset, .unset] [])) _
      refine st19 _ ?_
      refine XS.dup X19.here hx rfl (hb hby at_207) rfl rfl ?_
      refine XS.aload X19.here hx rfl (hb hby at_208) rfl rfl ?_
      show Steps p.tables e below (T19.setTop (mkF m 210 #[.val (.int p0), .val (.int p1), .val (.int p2), .val (.int p3), .val (.long q4), .second, .val (.int (v0_1 p0 p1 p2 p3 q4 w0)), .val (.int (v0_3 p0 p1 p2 p3 q4 w0)), .val (.int (0 : Int32)), .val (.int (v0_6 p0 p1 p2 p3 q4 w0)), .val (.ref b5), .unset, .unset] [(.ref b5), (.ref b19), (.ref b19)])) _
      refine st42.trans ?_
      refine XS.astore X42.here hx rfl (hb hby at_213) rfl rfl (l' := #[.val (.int p0), .val (.int p1), .val (.int p2), .val (.int p3), .val (.long q4), .second, .val (.int (v0_1 p0 p1 p2 p3 q4 w0)), .val (.int (v0_3 p0 p1 p2 p3 q4 w0)), .val (.int (0 : Int32)), .val (.int (v0_6 p0 p1 p2 p3 q4 w0)), .val (.ref b5), .val (.ref b19), .unset]) rfl ?_
      show Steps p.tables e below (T42.setTop (mkF m 215 #[.val (.int p0), .val (.int p1), .val (.int p2), .val (.int p3), .val (.long q4), .second, .val (.int (v0_1 p0 p1 p2 p3 q4 w0)), .val (.int (v0_3 p0 p1 p2 p3 q4 w0)), .val (.int (0 : Int32)), .val (.int (v0_6 p0 p1 p2 p3 q4 w0)), .val (.ref b5), .val (.ref b19), .unset] [])) _
      refine XS.aconstNull X42.here hx rfl (hb hby at_215) ?_
      refine XS.astore X42.here hx rfl (hb hby at_216) rfl rfl (l' := #[.val (.int p0), .val (.int p1), .val (.int p2), .val (.int p3), .val (.long q4), .second, .val (.int (v0_1 p0 p1 p2 p3 q4 w0)), .val (.int (v0_3 p0 p1 p2 p3 q4 w0)), .val (.int (0 : Int32)), .val (.int (v0_6 p0 p1 p2 p3 q4 w0)), .val (.ref b5), .val (.ref b19), .val .null]) rfl ?_
      refine XS.aload X42.here hx rfl (hb hby at_218) rfl rfl ?_
      show Steps p.tables e below (T42.setTop (mkF m 220 #[.val (.int p0), .val (.int p1), .val (.int p2), .val (.int p3), .val (.long q4), .second, .val (.int (v0_1 p0 p1 p2 p3 q4 w0)), .val (.int (v0_3 p0 p1 p2 p3 q4 w0)), .val (.int (0 : Int32)), .val (.int (v0_6 p0 p1 p2 p3 q4 w0)), .val (.ref b5), .val (.ref b19), .val .null] [(.ref b19)])) _
      refine st48 _ ?_
      show Steps p.tables e below (T48.setTop (mkF m 222 #[.val (.int p0), .val (.int p1), .val (.int p2), .val (.int p3), .val (.long q4), .second, .val (.int (v0_1 p0 p1 p2 p3 q4 w0)), .val (.int (v0_3 p0 p1 p2 p3 q4 w0)), .val (.int (0 : Int32)), .val (.int (v0_6 p0 p1 p2 p3 q4 w0)), .val (.ref b5), .val (.ref b19), .val .null] [(.ref la48), (.ref b19)])) _
      refine st56.trans ?_
      show Steps p.tables e below (T56.setTop (mkF m 225 #[.val (.int p0), .val (.int p1), .val (.int p2), .val (.int p3), .val (.long q4), .second, .val (.int (v0_1 p0 p1 p2 p3 q4 w0)), .val (.int (v0_3 p0 p1 p2 p3 q4 w0)), .val (.int (0 : Int32)), .val (.int (v0_6 p0 p1 p2 p3 q4 w0)), .val (.ref b5), .val (.ref b19), .val .null] [(.int (fsqD (0 : Int32) (4 : Int32) w0))])) _
      refine XS.ifYes X56.here hx rfl (pc0 := 225) (pc' := 236) rfl (hb hby at_225) rfl (XT.i0_eq_t rfl) (by decide) (by decide) ?_
      refine XS.aload X56.here hx rfl (hb hby at_236) rfl rfl ?_
      show Steps p.tables e below (T56.setTop (mkF m 238 #[.val (.int p0), .val (.int p1), .val (.int p2), .val (.int p3), .val (.long q4), .second, .val (.int (v0_1 p0 p1 p2 p3 q4 w0)), .val (.int (v0_3 p0 p1 p2 p3 q4 w0)), .val (.int (0 : Int32)), .val (.int (v0_6 p0 p1 p2 p3 q4 w0)), .val (.ref b5), .val (.ref b19), .val .null] [(.ref b19)])) _
      refine st62 _ ?_
      show Steps p.tables e below (T62.setTop (mkF m 240 #[.val (.int p0), .val (.int p1), .val (.int p2), .val (.int p3), .val (.long q4), .second, .val (.int (v0_1 p0 p1 p2 p3 q4 w0)), .val (.int (v0_3 p0 p1 p2 p3 q4 w0)), .val (.int (0 : Int32)), .val (.int (v0_6 p0 p1 p2 p3 q4 w0)), .val (.ref b5), .val (.ref b19), .val .null] [(.ref la62), (.ref b19)])) _
      refine st70.trans ?_
      show Steps p.tables e below (T70.setTop (mkF m 243 #[.val (.int p0), .val (.int p1), .val (.int p2), .val (.int p3), .val (.long q4), .second, .val (.int (v0_1 p0 p1 p2 p3 q4 w0)), .val (.int (v0_3 p0 p1 p2 p3 q4 w0)), .val (.int (0 : Int32)), .val (.int (v0_6 p0 p1 p2 p3 q4 w0)), .val (.ref b5), .val (.ref b19), .val .null] [(.int (fsqD (0 : Int32) (6 : Int32) w0))])) _
      refine XS.ifYes X70.here hx rfl (pc0 := 243) (pc' := 251) rfl (hb hby at_243) rfl (XT.i0_eq_t rfl) (by decide) (by decide) ?_
      refine XS.aload X70.here hx rfl (hb hby at_251) rfl rfl ?_
      show Steps p.tables e below (T70.setTop (mkF m 253 #[.val (.int p0), .val (.int p1), .val (.int p2), .val (.int p3), .val (.long q4), .second, .val (.int (v0_1 p0 p1 p2 p3 q4 w0)), .val (.int (v0_3 p0 p1 p2 p3 q4 w0)), .val (.int (0 : Int32)), .val (.int (v0_6 p0 p1 p2 p3 q4 w0)), .val (.ref b5), .val (.ref b19), .val .null] [(.ref b19)])) _
      refine st76 _ ?_
      refine XS.aload X76.here hx rfl (hb hby at_256) rfl rfl ?_
      show Steps p.tables e below (T76.setTop (mkF m 258 #[.val (.int p0), .val (.int p1), .val (.int p2), .val (.int p3), .val (.long q4), .second, .val (.int (v0_1 p0 p1 p2 p3 q4 w0)), .val (.int (v0_3 p0 p1 p2 p3 q4 w0)), .val (.int (0 : Int32)), .val (.int (v0_6 p0 p1 p2 p3 q4 w0)), .val (.ref b5), .val (.ref b19), .val .null] [.null, .null])) _
      refine XT.acmpNo X76.here hx rfl (hb hby at_258) rfl rfl rfl (XT.aa_ne_f rfl) ?_
      refine XT.iconstV X76.here hx rfl (1 : Int32) (hb hby at_261) (by decide) ?_
      show Steps p.tables e below (T76.setTop (mkF m 262 #[.val (.int p0), .val (.int p1), .val (.int p2), .val (.int p3), .val (.long q4), .second, .val (.int (v0_1 p0 p1 p2 p3 q4 w0)), .val (.int (v0_3 p0 p1 p2 p3 q4 w0)), .val (.int (0 : Int32)), .val (.int (v0_6 p0 p1 p2 p3 q4 w0)), .val (.ref b5), .val (.ref b19), .val .null] [(.int (1 : Int32))])) _
      refine XS.goto X76.here hx rfl (pc0 := 262) (pc' := 266) rfl (hb hby at_262) (by decide) (by decide) ?_
      show Steps p.tables e below (T76.setTop (mkF m 266 #[.val (.int p0), .val (.int p1), .val (.int p2), .val (.int p3), .val (.long q4), .second, .val (.int (v0_1 p0 p1 p2 p3 q4 w0)), .val (.int (v0_3 p0 p1 p2 p3 q4 w0)), .val (.int (0 : Int32)), .val (.int (v0_6 p0 p1 p2 p3 q4 w0)), .val (.ref b5), .val (.ref b19), .val .null] [(.int (1 : Int32))])) _
      exact retN X76 hx (t := .boolean) Bd.returns (by simp) (hb hby at_266) hr
    · skip
      show Q0 Z p0 p1 p2 p3 q4 w0 u1_SF w2_V w3_N w4_P kV w5_L w6_L w7_B kB0 w8_B kB1 h0 n0 _ T76.heap _
      exact ⟨rfl, N76⟩
  · skip
    rw [show (v0_4 p0 p1 p2 p3 q4 w0) = (1 : Int32) from cn] at pre4
    obtain ⟨T95, h95, k95, X95, e95, E95, A95, EA95, st95⟩ := newPE X0 hx hZ (wd hw 1 rfl) e0 (g := (mkF m 37 #[.val (.int p0), .val (.int p1), .val (.int p2), .val (.int p3), .val (.long q4), .second, .val (.int (v0_1 p0 p1 p2 p3 q4 w0)), .val (.int (v0_3 p0 p1 p2 p3 q4 w0)), .val (.int (1 : Int32)), .val (.int (v0_6 p0 p1 p2 p3 q4 w0)), .unset, .unset, .unset] [(.int (1 : Int32))])) rfl (hb hby at_37) rfl (by decide) (cap := 1) (by decide) (by decide) (by decide) (by decide) (ad := "[C") rfl
    obtain ⟨b95, gz95⟩ : ∃ z, z = h0.size := ⟨_, rfl⟩
    rw [← gz95] at A95 EA95 st95
    have ne96 : w2_V ≠ b95 := Nat.ne_of_lt (Nat.lt_of_lt_of_le E_w2_V.lt (Nat.le_of_eq gz95.symm))
    have ne97 : w3_N ≠ b95 := Nat.ne_of_lt (Nat.lt_of_lt_of_le E_w3_N.lt (Nat.le_of_eq gz95.symm))
    have ne98 : w4_P ≠ b95 := Nat.ne_of_lt (Nat.lt_of_lt_of_le E_w4_P.lt (Nat.le_of_eq gz95.symm))
    have ne99 : w5_L ≠ b95 := Nat.ne_of_lt (Nat.lt_of_lt_of_le E_w5_L.lt (Nat.le_of_eq gz95.symm))
    have ne100 : w6_L ≠ b95 := Nat.ne_of_lt (Nat.lt_of_lt_of_le E_w6_L.lt (Nat.le_of_eq gz95.symm))
    have ne101 : w7_B ≠ b95 := Nat.ne_of_lt (Nat.lt_of_lt_of_le V_w7_B.lt (Nat.le_of_eq gz95.symm))
    have ne102 : w8_B ≠ b95 := Nat.ne_of_lt (Nat.lt_of_lt_of_le V_w8_B.lt (Nat.le_of_eq gz95.symm))
    have g103 : n0 ≤ b95 := Nat.le_trans Z0 (Nat.le_of_eq gz95.symm)
    have sz104 : h0.size ≤ b95 := Nat.le_trans (Nat.le_refl h0.size) (Nat.le_of_eq gz95.symm)
    have ch105 := ch0.trans (CHr.ext E95 ch0.1)
    have z106 : n0 ≤ h95.size := Nat.le_trans Z0 E95.1
    have hs107 : h0.size ≤ h95.size := Nat.le_trans (Nat.le_refl h0.size) E95.1
    have hk108 := Nat.le_trans (Nat.le_refl _) E95.1
    have V95 : Arv Z h95 b95 k95 .char (1 : Int32) [(.int (0 : Int32))] (.int (0 : Int32)) := (Arv.new A95 (by decide)).pad (pad_rep [] (.int (0 : Int32)) 1)
    have O110 := (O0.ext E95)
    obtain ⟨vr109, _, ⟨T109, L109, k109, n109⟩, -, X109, hSq109, hgq109, ⟨Lc109, hQ109, l109, y109, z109, Cr109⟩, st109⟩ := Jvm.RoadKit.callSS (s := s.setVm s.vm) X95 hx (y := (⟨"com/example/vellum_index/vellumindex/StemmerLabelledPinLaw", "at", "(IIJZII)C"⟩ : MethodName)) hown (mvT hZ (wd hw 2 rfl)) (mvT hZ (wd hw 3 rfl)) (mvT hZ (wd hw 4 rfl)) (mvT hZ (wd hw 5 rfl)) (by decide) (backOfSH (s := s ) (vm0 := s.vm) (EL := consts_1) (W := 2) (rm1 l Z a0 hw [] (v0_1 p0 p1 p2 p3 q4 w0) (0 : Int32) q4 (v0_3 p0 p1 p2 p3 q4 w0) (v0_6 p0 p1 p2 p3 q4 w0) p3 w0 u1_SF h95 n0 z106 (Sta.ext O110.2 S_String_COMPACT_STRINGS) hcs (Sta.ext O110.2 S_Preconditions_SIOOBE_FORMATTER) hu (by decide)) hZ (wd hw 5 rfl) (wd hw 4 rfl) (by decide) (by decide) (own_ew hw) ch105.1) (g := (mkF m 59 #[.val (.int p0), .val (.int p1), .val (.int p2), .val (.int p3), .val (.long q4), .second, .val (.int (v0_1 p0 p1 p2 p3 q4 w0)), .val (.int (v0_3 p0 p1 p2 p3 q4 w0)), .val (.int (1 : Int32)), .val (.int (v0_6 p0 p1 p2 p3 q4 w0)), .val (.ref b95), .unset, .unset] [(.int p3), (.int (v0_6 p0 p1 p2 p3 q4 w0)), (.int (v0_3 p0 p1 p2 p3 q4 w0)), (.long q4), (.int (0 : Int32)), (.int (v0_1 p0 p1 p2 p3 q4 w0)), (.int (0 : Int32)), (.ref b95)])) rfl (by rw [hml]; rfl) (argsL := [(.int (v0_1 p0 p1 p2 p3 q4 w0)), (.int (0 : Int32)), (.long q4), (.int (v0_3 p0 p1 p2 p3 q4 w0)), (.int (v0_6 p0 p1 p2 p3 q4 w0)), (.int p3)]) (rest := [(.int (0 : Int32)), (.ref b95)]) (lenOf pd__IIJZII_C rfl) rfl (by show 2 * 0 + _ ≤ _; exact Nat.le_of_eq rfl) (hb hby at_59) (fun _ _ => ⟨rfl, e95, (by decide : 1 + 2 ≤ _), (by decide : 1 + 28 ≤ _)⟩)
    dsimp only [Pt.U, Pt.locs, Pt.cells, Pt.slots] at X109 l109 y109 z109 st109 hQ109 hSq109 hgq109 Cr109
    obtain ⟨X109, hS109, hZ, hown⟩ := rebS (s := s) (vm0 := s.vm) (n1 := h95.size) hS0 hk108 X109 hSq109 (by rw [← e95]; exact hgq109) hZ hown
    have ch111 := ch105.trans Cr109
    replace X109 := own_stand X109 l109 y109 z109
    clear l109 y109 z109
    have N109q := (show _ ∧ _ from hQ109).1
    have hq109 := (show _ ∧ _ from hQ109).2
    clear hQ109
    have hv109 := hq109.1
    have K109 := hq109.2
    clear hq109
    subst hv109
    have z112 : n0 ≤ T109.heap.size := Nat.le_trans z106 K109.1
    have hs113 : h0.size ≤ T109.heap.size := Nat.le_trans hs107 K109.1
    have N109 := Fr.app N0 N109q
    have k114 := (V95.keep K109 nin0)
    obtain ⟨cl115, Ar115, qc115, S115, M115, Ha115, G115⟩ := id k114
    have hin116 : ¬ ((0 : Int32) < 0 ∨ cl115.slots.size ≤ ((0 : Int32)).toNatClampNeg) := inb_of S115 ⟨by decide, by decide⟩
    obtain ⟨T117, h117, X117, e117, W117, st117⟩ := stC X109 hx hZ rfl Ar115 (j := (0 : Int32)) hin116 (g := (mkF m 62 #[.val (.int p0), .val (.int p1), .val (.int p2), .val (.int p3), .val (.long q4), .second, .val (.int (v0_1 p0 p1 p2 p3 q4 w0)), .val (.int (v0_3 p0 p1 p2 p3 q4 w0)), .val (.int (1 : Int32)), .val (.int (v0_6 p0 p1 p2 p3 q4 w0)), .val (.ref b95), .unset, .unset] [(.int (f1 (v0_1 p0 p1 p2 p3 q4 w0) (0 : Int32) q4 (v0_3 p0 p1 p2 p3 q4 w0) (v0_6 p0 p1 p2 p3 q4 w0) p3 w0)), (.int (0 : Int32)), (.ref b95)])) rfl rfl (hb hby at_62)
    have V117 : Arv Z h117 b95 k95 .char (1 : Int32) [(.int (v0_10 p0 p1 p2 p3 q4 w0))] (.int (0 : Int32)) := Arv.set Ar115 qc115 S115 M115 Ha115 G115 (fits_nar_char (v0_9 p0 p1 p2 p3 q4 w0)) W117 0 rfl (Nat.le_of_ble_eq_true rfl)
    have N117 := Fr.snoc X117 N109 g103
    have ch118 := ch111.trans (CHr.wr W117 (Safe.arv hZ.alike k114 (fun q => nomatch q)) ch111.1)
    have z119 : n0 ≤ h117.size := Nat.le_trans z112 (Keep.of_wr W117).1
    have hs120 : h0.size ≤ h117.size := Nat.le_trans hs113 (Keep.of_wr W117).1
    have hk121 := Nat.le_trans (Nat.le_refl _) (Keep.of_wr W117).1
    obtain ⟨T122, h122, X122, e122, E122, A122, D122, -, st122⟩ := newO X117 hx hZ hown (wd hw 52 rfl) (wd hw 11 rfl) (wd hw 10 rfl) e117 (g := (mkF m 204 #[.val (.int p0), .val (.int p1), .val (.int p2), .val (.int p3), .val (.long q4), .second, .val (.int (v0_1 p0 p1 p2 p3 q4 w0)), .val (.int (v0_3 p0 p1 p2 p3 q4 w0)), .val (.int (1 : Int32)), .val (.int (v0_6 p0 p1 p2 p3 q4 w0)), .val (.ref b95), .unset, .unset] [])) rfl (hb hby at_204) (by decide) (by decide)
    obtain ⟨b122, gz122⟩ : ∃ z, z = h117.size := ⟨_, rfl⟩
    rw [← gz122] at A122 D122 st122
    have k123 := (((E_w2_V.ext E95).keep K109).wr W117)
    have ne124 : w2_V ≠ b122 := Nat.ne_of_lt (Nat.lt_of_lt_of_le k123.lt (Nat.le_of_eq gz122.symm))
    have k125 := (((E_w3_N.ext E95).keep K109).wr W117)
    have ne126 : w3_N ≠ b122 := Nat.ne_of_lt (Nat.lt_of_lt_of_le k125.lt (Nat.le_of_eq gz122.symm))
    have k127 := (((E_w4_P.ext E95).keep K109).wr W117)
    have ne128 : w4_P ≠ b122 := Nat.ne_of_lt (Nat.lt_of_lt_of_le k127.lt (Nat.le_of_eq gz122.symm))
    have k129 := (((E_w5_L.ext E95).keep K109).wr W117)
    have ne130 : w5_L ≠ b122 := Nat.ne_of_lt (Nat.lt_of_lt_of_le k129.lt (Nat.le_of_eq gz122.symm))
    have k131 := (((E_w6_L.ext E95).keep K109).wr W117)
    have ne132 : w6_L ≠ b122 := Nat.ne_of_lt (Nat.lt_of_lt_of_le k131.lt (Nat.le_of_eq gz122.symm))
    have k133 := ((EA95.keep K109).wr W117)
    have ne134 : b95 ≠ b122 := Nat.ne_of_lt (Nat.lt_of_lt_of_le k133.lt (Nat.le_of_eq gz122.symm))
    have k135 := (((V_w7_B.ext E95).keep K109 nin0).other W117 ne101)
    have ne136 : w7_B ≠ b122 := Nat.ne_of_lt (Nat.lt_of_lt_of_le k135.lt (Nat.le_of_eq gz122.symm))
    have k137 := (((V_w8_B.ext E95).keep K109 nin0).other W117 ne102)
    have ne138 : w8_B ≠ b122 := Nat.ne_of_lt (Nat.lt_of_lt_of_le k137.lt (Nat.le_of_eq gz122.symm))
    have g139 : n0 ≤ b122 := Nat.le_trans z119 (Nat.le_of_eq gz122.symm)
    have sz140 : h0.size ≤ b122 := Nat.le_trans hs120 (Nat.le_of_eq gz122.symm)
    have ch141 := ch118.trans (CHr.ext E122 ch118.1)
    have z142 : n0 ≤ h122.size := Nat.le_trans z119 E122.1
    have hs143 : h0.size ≤ h122.size := Nat.le_trans hs120 E122.1
    have hk144 := Nat.le_trans hk121 E122.1
    have sf145 := Safe.ext E122 ch118.1 (Safe.new (Z := Z) (EL := consts_1) (vm := T109.vm) (Nat.le_of_eq gz122.symm))
    have F122_value : Fld Z h122 b122 "java/lang/String" "value" "[B" .null := D122 (Or.inr (wd hw 13 rfl)) (ty := (.array .byte)) (by decide)
    have F122_coder : Fld Z h122 b122 "java/lang/String" "coder" "B" (.int (0 : Int32)) := D122 (Or.inr (wd hw 14 rfl)) (ty := .byte) (by decide)
    have k147 := (V117.ext E122)
    have O148 := (((O110.keep K109 all0).wr W117 g103).ext E122)
    obtain ⟨vr146, _, ⟨T146, L146, k146, n146⟩, -, X146, ⟨Lc146, hQ146, l146, y146, z146⟩, st146⟩ := Jvm.Stand.specialBack X122 hx (y := (⟨"java/lang/String", "<init>", "([C)V"⟩ : MethodName)) rfl hown (mvT hZ (wd hw 53 rfl)) (mvT hZ (wd hw 54 rfl)) (mvT hZ (wd hw 55 rfl)) (by decide) (own_newS (W := 1) (cs := [(v0_10 p0 p1 p2 p3 q4 w0)]) (vs := [(.int (own_b (v0_10 p0 p1 p2 p3 q4 w0)))]) (n := 1) hZ hw g139 z142 A122 F122_value F122_coder k147 (Sta.ext O148.2 S_String_COMPACT_STRINGS) hcs rfl rfl (by decide) (by decide) (own_alc (own_at _ _ _ _ _ _ _) own_aln) rfl (by decide) (by decide)) (g := (mkF m 210 #[.val (.int p0), .val (.int p1), .val (.int p2), .val (.int p3), .val (.long q4), .second, .val (.int (v0_1 p0 p1 p2 p3 q4 w0)), .val (.int (v0_3 p0 p1 p2 p3 q4 w0)), .val (.int (1 : Int32)), .val (.int (v0_6 p0 p1 p2 p3 q4 w0)), .val (.ref b95), .unset, .unset] [(.ref b95), (.ref b122), (.ref b122)])) rfl (by rw [hml]; rfl) (Steps.refl _) (a := b122) (argsL := [(.ref b95)]) (rest := [(.ref b122)]) (lenOf pd___C_V rfl) rfl (by show 2 * 0 + _ ≤ _; exact Nat.le_of_eq rfl) (hb hby at_210) (fun _ _ => ⟨rfl, e122, (by decide : 4 + 1 ≤ _), (by decide : 33 + 1 ≤ _)⟩)
    dsimp only [Pt.U, Pt.locs, Pt.cells, Pt.slots] at X146 l146 y146 z146 st146 hQ146
    replace X146 := own_stand X146 l146 y146 z146
    clear l146 y146 z146
    have N146q := (show _ ∧ _ from hQ146).1
    have hq146 := (show _ ∧ _ from hQ146).2
    clear hQ146
    obtain ⟨xsn_0_146, ksn_1_146, hq146x⟩ := hq146
    have hv146 := hq146x.1
    have szxsn_0_146 := hq146x.2.1
    have K146 := hq146x.2.2.1
    have po146_0 := hq146x.2.2.2.1
    have po146_1 := hq146x.2.2.2.2.1
    have po146_2 := hq146x.2.2.2.2.2.1
    have po146_3 := hq146x.2.2.2.2.2.2
    clear hq146x
    subst hv146
    have k149 := (k123.ext E122)
    have ne150 : w2_V ≠ xsn_0_146 := Nat.ne_of_lt (Nat.lt_of_lt_of_le k149.lt szxsn_0_146)
    have k151 := (k125.ext E122)
    have ne152 : w3_N ≠ xsn_0_146 := Nat.ne_of_lt (Nat.lt_of_lt_of_le k151.lt szxsn_0_146)
    have k153 := (k127.ext E122)
    have ne154 : w4_P ≠ xsn_0_146 := Nat.ne_of_lt (Nat.lt_of_lt_of_le k153.lt szxsn_0_146)
    have k155 := (k129.ext E122)
    have ne156 : w5_L ≠ xsn_0_146 := Nat.ne_of_lt (Nat.lt_of_lt_of_le k155.lt szxsn_0_146)
    have k157 := (k131.ext E122)
    have ne158 : w6_L ≠ xsn_0_146 := Nat.ne_of_lt (Nat.lt_of_lt_of_le k157.lt szxsn_0_146)
    have k159 := (k133.ext E122)
    have ne160 : b95 ≠ xsn_0_146 := Nat.ne_of_lt (Nat.lt_of_lt_of_le k159.lt szxsn_0_146)
    have ne161 : b122 ≠ xsn_0_146 := Nat.ne_of_lt (Nat.lt_of_lt_of_le A122.lt szxsn_0_146)
    have k162 := (k135.ext E122)
    have ne163 : w7_B ≠ xsn_0_146 := Nat.ne_of_lt (Nat.lt_of_lt_of_le k162.lt szxsn_0_146)
    have k164 := (k137.ext E122)
    have ne165 : w8_B ≠ xsn_0_146 := Nat.ne_of_lt (Nat.lt_of_lt_of_le k164.lt szxsn_0_146)
    have g166 : n0 ≤ xsn_0_146 := Nat.le_trans z142 szxsn_0_146
    have sz167 : h0.size ≤ xsn_0_146 := Nat.le_trans hs143 szxsn_0_146
    have sf169 := Safe.keep K146 (sfS sf145 sf0) ch141.1 sf145
    have ch168 := ch141.trans (CHr.keep K146 (sfS sf145 sf0) ch141.1)
    have z170 : n0 ≤ T146.heap.size := Nat.le_trans z142 K146.1
    have hs171 : h0.size ≤ T146.heap.size := Nat.le_trans hs143 K146.1
    have hk172 := Nat.le_trans hk144 K146.1
    have N146 := Fr.app N117 N146q
    obtain ⟨la173, T173, h173, kk173, lb173, lk173, X173, e173, E173, hS173, hk173, hZ, hown, Ex173, Fc173, Fv173, V173, -, -, Cr173, Lt173, Sf173, st173⟩ := ldcCH (s := s) (vm0 := T109.vm) (EL := consts_1) X146 hx hZ hown (wd hw 9 rfl) (own_ws hw) rfl hS109 hk172 (own_ew hw) (List.mem_of_getElem? (i := 0) rfl) ch168.1 (z := (4 : Int32)) (vs := [(.int (110 : Int32)), (.int (111 : Int32)), (.int (110 : Int32)), (.int (101 : Int32))]) ⟨by decide, by rfl⟩ (by decide) rfl (g := (mkF m 220 #[.val (.int p0), .val (.int p1), .val (.int p2), .val (.int p3), .val (.long q4), .second, .val (.int (v0_1 p0 p1 p2 p3 q4 w0)), .val (.int (v0_3 p0 p1 p2 p3 q4 w0)), .val (.int (1 : Int32)), .val (.int (v0_6 p0 p1 p2 p3 q4 w0)), .val (.ref b95), .val (.ref b122), .val .null] [(.ref b122)])) rfl (hb hby at_220) (n := 16) (by decide) (by decide) (by decide) (by decide)
    have sf174 := Cr173.safe po146_0.lt sf169
    have ch175 := ch168.trans Cr173
    have z176 : n0 ≤ h173.size := Nat.le_trans z170 E173.1
    have hs177 : h0.size ≤ h173.size := Nat.le_trans hs171 E173.1
    have ne178 := Sf173 _ sf174
    have k179 := ((((((V_w2_V.ext E95).keep K109 nin0).other W117 ne96).ext E122).keep K146 (ninS ne124 nin0)).ext E173)
    have k180 := ((k147.keep K146 (ninS ne134 nin0)).ext E173)
    have k182 := (po146_0.ext E173)
    have k183 := (po146_1.ext E173)
    have k184 := (po146_2.ext E173)
    have k185 := (po146_3.ext E173)
    have O186 := ((O148.keep K146 (allS g139 all0)).ext E173)
    obtain ⟨cq181, kq181, q181a, q181b, q181c⟩ := isOf hZ e173 k182
    obtain ⟨vr181, _, ⟨T181, L181, k181, n181⟩, -, X181, ⟨Lc181, hQ181, l181, y181, z181⟩, st181⟩ := Jvm.Stand.virtualBack X173 hx (y := (⟨"java/lang/String", "equals", "(Ljava/lang/Object;)Z"⟩ : MethodName)) (z := (⟨"java/lang/String", "equals", "(Ljava/lang/Object;)Z"⟩ : MethodName)) hown (mvT hZ (wd hw 73 rfl)) (mvT hZ (wd hw 74 rfl)) (notFace_of_selects (args := #[]) (mvT hZ (wd hw 76 rfl))) (mvT hZ (wd hw 76 rfl)) (mvT hZ (wd hw 75 rfl)) (by decide) (backOf (W := 0) (rmsqD l Z a0 hw [] b122 la173 xsn_0_146 (1 : Int32) ([(.int (own_b (v0_10 p0 p1 p2 p3 q4 w0)))]) ksn_1_146 lb173 (4 : Int32) ([(.int (110 : Int32)), (.int (111 : Int32)), (.int (110 : Int32)), (.int (101 : Int32))]) lk173 w0 h173 n0 z176 k182 k183 k184 k185 Ex173 Fc173 Fv173 V173 ne178.1 (Sta.ext O186.2 S_String_COMPACT_STRINGS) hcs (by decide)) hZ (wd hw 77 rfl) (wd hw 10 rfl) (by decide) (by decide)) q181a q181c (g := (mkF m 222 #[.val (.int p0), .val (.int p1), .val (.int p2), .val (.int p3), .val (.long q4), .second, .val (.int (v0_1 p0 p1 p2 p3 q4 w0)), .val (.int (v0_3 p0 p1 p2 p3 q4 w0)), .val (.int (1 : Int32)), .val (.int (v0_6 p0 p1 p2 p3 q4 w0)), .val (.ref b95), .val (.ref b122), .val .null] [(.ref la173), (.ref b122)])) rfl (by rw [hml]; rfl) (Steps.refl _) (argsL := [(.ref la173)]) (rest := []) (lenOf pd__Ljava_lang_Object__Z rfl) rfl (by show 2 * 0 + _ ≤ _; exact Nat.le_of_eq rfl) (hb hby at_222) (fun _ _ => ⟨rfl, e173, (by decide : 7 + 0 ≤ _), (by decide : 54 + 0 ≤ _)⟩)
    dsimp only [Pt.U, Pt.locs, Pt.cells, Pt.slots] at X181 l181 y181 z181 st181 hQ181
    replace X181 := own_stand X181 l181 y181 z181
    clear l181 y181 z181
    have N181q := (show _ ∧ _ ∧ _ from hQ181).1
    have hv181 := (show _ ∧ _ ∧ _ from hQ181).2.1
    have e181 := (show _ ∧ _ ∧ _ from hQ181).2.2
    clear hQ181
    subst hv181
    have N181 := Fr.app N146 N181q
    obtain ⟨la187, T187, h187, kk187, lb187, lk187, X187, e187, E187, hS187, hk187, hZ, hown, Ex187, Fc187, Fv187, V187, -, -, Cr187, Lt187, Sf187, st187⟩ := ldcCH (s := s) (vm0 := T173.vm) (EL := consts_1) X181 hx hZ hown (wd hw 82 rfl) (own_ws hw) e181 hS173 hk173 (own_ew hw) (List.mem_of_getElem? (i := 1) rfl) ch175.1 (z := (6 : Int32)) (vs := [(.int (112 : Int32)), (.int (111 : Int32)), (.int (114 : Int32)), (.int (116 : Int32)), (.int (101 : Int32)), (.int (114 : Int32))]) ⟨by decide, by rfl⟩ (by decide) rfl (g := (mkF m 238 #[.val (.int p0), .val (.int p1), .val (.int p2), .val (.int p3), .val (.long q4), .second, .val (.int (v0_1 p0 p1 p2 p3 q4 w0)), .val (.int (v0_3 p0 p1 p2 p3 q4 w0)), .val (.int (1 : Int32)), .val (.int (v0_6 p0 p1 p2 p3 q4 w0)), .val (.ref b95), .val (.ref b122), .val .null] [(.ref b122)])) rfl (hb hby at_238) (n := 24) (by decide) (by decide) (by decide) (by decide)
    have sf188 := Cr187.safe k182.lt sf174
    have ch189 := ch175.trans Cr187
    have z190 : n0 ≤ h187.size := Nat.le_trans z176 E187.1
    have hs191 : h0.size ≤ h187.size := Nat.le_trans hs177 E187.1
    have ne192 := Sf187 _ sf188
    have k193 := (k179.ext E187)
    have k194 := (k180.ext E187)
    have k196 := (k182.ext E187)
    have k197 := (k183.ext E187)
    have k198 := (k184.ext E187)
    have k199 := (k185.ext E187)
    have O200 := (O186.ext E187)
    obtain ⟨cq195, kq195, q195a, q195b, q195c⟩ := isOf hZ e187 k196
    obtain ⟨vr195, _, ⟨T195, L195, k195, n195⟩, -, X195, ⟨Lc195, hQ195, l195, y195, z195⟩, st195⟩ := Jvm.Stand.virtualBack X187 hx (y := (⟨"java/lang/String", "equals", "(Ljava/lang/Object;)Z"⟩ : MethodName)) (z := (⟨"java/lang/String", "equals", "(Ljava/lang/Object;)Z"⟩ : MethodName)) hown (mvT hZ (wd hw 73 rfl)) (mvT hZ (wd hw 74 rfl)) (notFace_of_selects (args := #[]) (mvT hZ (wd hw 76 rfl))) (mvT hZ (wd hw 76 rfl)) (mvT hZ (wd hw 75 rfl)) (by decide) (backOf (W := 0) (rmsqD l Z a0 hw [] b122 la187 xsn_0_146 (1 : Int32) ([(.int (own_b (v0_10 p0 p1 p2 p3 q4 w0)))]) ksn_1_146 lb187 (6 : Int32) ([(.int (112 : Int32)), (.int (111 : Int32)), (.int (114 : Int32)), (.int (116 : Int32)), (.int (101 : Int32)), (.int (114 : Int32))]) lk187 w0 h187 n0 z190 k196 k197 k198 k199 Ex187 Fc187 Fv187 V187 ne192.1 (Sta.ext O200.2 S_String_COMPACT_STRINGS) hcs (by decide)) hZ (wd hw 77 rfl) (wd hw 10 rfl) (by decide) (by decide)) q195a q195c (g := (mkF m 240 #[.val (.int p0), .val (.int p1), .val (.int p2), .val (.int p3), .val (.long q4), .second, .val (.int (v0_1 p0 p1 p2 p3 q4 w0)), .val (.int (v0_3 p0 p1 p2 p3 q4 w0)), .val (.int (1 : Int32)), .val (.int (v0_6 p0 p1 p2 p3 q4 w0)), .val (.ref b95), .val (.ref b122), .val .null] [(.ref la187), (.ref b122)])) rfl (by rw [hml]; rfl) (Steps.refl _) (argsL := [(.ref la187)]) (rest := []) (lenOf pd__Ljava_lang_Object__Z rfl) rfl (by show 2 * 0 + _ ≤ _; exact Nat.le_of_eq rfl) (hb hby at_240) (fun _ _ => ⟨rfl, e187, (by decide : 9 + 0 ≤ _), (by decide : 82 + 0 ≤ _)⟩)
    dsimp only [Pt.U, Pt.locs, Pt.cells, Pt.slots] at X195 l195 y195 z195 st195 hQ195
    replace X195 := own_stand X195 l195 y195 z195
    clear l195 y195 z195
    have N195q := (show _ ∧ _ ∧ _ from hQ195).1
    have hv195 := (show _ ∧ _ ∧ _ from hQ195).2.1
    have e195 := (show _ ∧ _ ∧ _ from hQ195).2.2
    clear hQ195
    subst hv195
    have N195 := Fr.app N181 N195q
    have k202 := (((k149.keep K146).ext E173).ext E187)
    have k203 := (((k151.keep K146).ext E173).ext E187)
    have k204 := (((k153.keep K146).ext E173).ext E187)
    have k205 := (((((((F_label_w3_N.ext E95).keep K109 nin0).other W117 (Or.inl ne97)).ext E122).keep K146 (ninS ne126 nin0)).ext E173).ext E187)
    have k206 := (((((((F_label_w4_P.ext E95).keep K109 nin0).other W117 (Or.inl ne98)).ext E122).keep K146 (ninS ne128 nin0)).ext E173).ext E187)
    have k207 := (((k155.keep K146).ext E173).ext E187)
    have k208 := (((((((F_coder_w5_L.ext E95).keep K109 nin0).other W117 (Or.inl ne99)).ext E122).keep K146 (ninS ne130 nin0)).ext E173).ext E187)
    have k209 := (((((((F_value_w5_L.ext E95).keep K109 nin0).other W117 (Or.inl ne99)).ext E122).keep K146 (ninS ne130 nin0)).ext E173).ext E187)
    have k210 := (((k162.keep K146 (ninS ne136 nin0)).ext E173).ext E187)
    have k211 := (((k157.keep K146).ext E173).ext E187)
    have k212 := (((((((F_coder_w6_L.ext E95).keep K109 nin0).other W117 (Or.inl ne100)).ext E122).keep K146 (ninS ne132 nin0)).ext E173).ext E187)
    have k213 := (((((((F_value_w6_L.ext E95).keep K109 nin0).other W117 (Or.inl ne100)).ext E122).keep K146 (ninS ne132 nin0)).ext E173).ext E187)
    have k214 := (((k164.keep K146 (ninS ne138 nin0)).ext E173).ext E187)
    obtain ⟨vr201, _, ⟨T201, L201, k201, n201⟩, -, X201, ⟨Lc201, hQ201, l201, y201, z201⟩, st201⟩ := Jvm.LawKit.callS X195 hx (y := (⟨"com/example/vellum_index/vellumindex/Stemmer", "labelled", "(Ljava/lang/String;)Lcom/example/vellum_index/vellumindex/Stemmer;"⟩ : MethodName)) hown (mvT hZ (wd hw 83 rfl)) (mvT hZ (wd hw 84 rfl)) (mvT hZ (wd hw 85 rfl)) (mvT hZ (wd hw 86 rfl)) (by decide) (backOf (W := 0) (rmlbD l Z a0 hw [] b122 w2_V w3_N w4_P kV w5_L w6_L w7_B kB0 w8_B kB1 xsn_0_146 (1 : Int32) ([(.int (own_b (v0_10 p0 p1 p2 p3 q4 w0)))]) ksn_1_146 w0 h187 n0 z190 (Sta.ext O200.2 S_Stemmer__VALUES) k193 k202 k203 k204 k205 k206 k207 k208 k209 k210 k211 k212 k213 k214 k196 k197 k198 k199 ne130 ne132 (Sta.ext O200.2 S_String_COMPACT_STRINGS) hcs (by decide) (by decide)) hZ (wd hw 86 rfl) (wd hw 85 rfl) (by decide) (by decide)) (g := (mkF m 253 #[.val (.int p0), .val (.int p1), .val (.int p2), .val (.int p3), .val (.long q4), .second, .val (.int (v0_1 p0 p1 p2 p3 q4 w0)), .val (.int (v0_3 p0 p1 p2 p3 q4 w0)), .val (.int (1 : Int32)), .val (.int (v0_6 p0 p1 p2 p3 q4 w0)), .val (.ref b95), .val (.ref b122), .val .null] [(.ref b122)])) rfl (by rw [hml]; rfl) (argsL := [(.ref b122)]) (rest := []) (lenOf pd_h53915 rfl) rfl (by show 2 * 0 + _ ≤ _; exact Nat.le_of_eq rfl) (hb hby at_253) (fun _ _ => ⟨rfl, e195, (by decide : 9 + 1 ≤ _), (by decide : 82 + 2 ≤ _)⟩)
    dsimp only [Pt.U, Pt.locs, Pt.cells, Pt.slots] at X201 l201 y201 z201 st201 hQ201
    replace X201 := own_stand X201 l201 y201 z201
    clear l201 y201 z201
    have N201q := (show _ ∧ _ from hQ201).1
    have hq201 := (show _ ∧ _ from hQ201).2
    clear hQ201
    have hv201 := hq201.1
    have K201 := hq201.2
    clear hq201
    subst hv201
    have sf216 := Safe.keep K201 sf0 ch189.1 sf188
    have ch215 := ch189.trans (CHr.keep K201 sf0 ch189.1)
    have z217 : n0 ≤ T201.heap.size := Nat.le_trans z190 K201.1
    have hs218 : h0.size ≤ T201.heap.size := Nat.le_trans hs191 K201.1
    have hk219 := Nat.le_trans hk187 K201.1
    have N201 := Fr.app N195 N201q
    obtain ⟨fs, hr, hrun, hended, hRW⟩ := Jvm.Stand.leaveW (s := s) (vm₁ := T187.vm) X201 hS187 hk219 (v := some (.int (1 : Int32))) (fun h => by rw [Bd.returns] at h; cases h) hlk
    refine ⟨_, _, pre4 _ ?_, hrun, hended, _, _, rfl, ?_, hRW.1, hRW.2.1, hRW.2.2.1, hRW.2.2.2.mono (by decide) (by decide)⟩
    · skip
      show Steps p.tables e below (s₁.setTop (mkF m 35 #[.val (.int p0), .val (.int p1), .val (.int p2), .val (.int p3), .val (.long q4), .second, .val (.int (v0_1 p0 p1 p2 p3 q4 w0)), .val (.int (v0_3 p0 p1 p2 p3 q4 w0)), .val (.int (1 : Int32)), .val (.int (v0_6 p0 p1 p2 p3 q4 w0)), .unset, .unset, .unset] [])) _
      refine XS.iload X0.here hx rfl (hb hby at_35) rfl ?_
      show Steps p.tables e below (s₁.setTop (mkF m 37 #[.val (.int p0), .val (.int p1), .val (.int p2), .val (.int p3), .val (.long q4), .second, .val (.int (v0_1 p0 p1 p2 p3 q4 w0)), .val (.int (v0_3 p0 p1 p2 p3 q4 w0)), .val (.int (1 : Int32)), .val (.int (v0_6 p0 p1 p2 p3 q4 w0)), .unset, .unset, .unset] [(.int (1 : Int32))])) _
      refine st95 _ ?_
      refine XS.astore X95.here hx rfl (hb hby at_39) rfl rfl (l' := #[.val (.int p0), .val (.int p1), .val (.int p2), .val (.int p3), .val (.long q4), .second, .val (.int (v0_1 p0 p1 p2 p3 q4 w0)), .val (.int (v0_3 p0 p1 p2 p3 q4 w0)), .val (.int (1 : Int32)), .val (.int (v0_6 p0 p1 p2 p3 q4 w0)), .val (.ref b95), .unset, .unset]) rfl ?_
      refine XS.iload X95.here hx rfl (hb hby at_41) rfl ?_
      show Steps p.tables e below (T95.setTop (mkF m 43 #[.val (.int p0), .val (.int p1), .val (.int p2), .val (.int p3), .val (.long q4), .second, .val (.int (v0_1 p0 p1 p2 p3 q4 w0)), .val (.int (v0_3 p0 p1 p2 p3 q4 w0)), .val (.int (1 : Int32)), .val (.int (v0_6 p0 p1 p2 p3 q4 w0)), .val (.ref b95), .unset, .unset] [(.int (1 : Int32))])) _
      refine XS.ifNo X95.here hx rfl (hb hby at_43) rfl (XT.i0_le_f (by decide)) ?_
      refine XS.aload X95.here hx rfl (hb hby at_46) rfl rfl ?_
      refine XT.iconstV X95.here hx rfl (0 : Int32) (hb hby at_48) (by decide) ?_
      refine XS.iload X95.here hx rfl (hb hby at_49) rfl ?_
      show Steps p.tables e below (T95.setTop (mkF m 51 #[.val (.int p0), .val (.int p1), .val (.int p2), .val (.int p3), .val (.long q4), .second, .val (.int (v0_1 p0 p1 p2 p3 q4 w0)), .val (.int (v0_3 p0 p1 p2 p3 q4 w0)), .val (.int (1 : Int32)), .val (.int (v0_6 p0 p1 p2 p3 q4 w0)), .val (.ref b95), .unset, .unset] [(.int (v0_1 p0 p1 p2 p3 q4 w0)), (.int (0 : Int32)), (.ref b95)])) _
      refine XT.iconstV X95.here hx rfl (0 : Int32) (hb hby at_51) (by decide) ?_
      refine XT.lload X95.here hx rfl (hb hby at_52) rfl ?_
      refine XS.iload X95.here hx rfl (hb hby at_54) rfl ?_
      refine XS.iload X95.here hx rfl (hb hby at_56) rfl ?_
      show Steps p.tables e below (T95.setTop (mkF m 58 #[.val (.int p0), .val (.int p1), .val (.int p2), .val (.int p3), .val (.long q4), .second, .val (.int (v0_1 p0 p1 p2 p3 q4 w0)), .val (.int (v0_3 p0 p1 p2 p3 q4 w0)), .val (.int (1 : Int32)), .val (.int (v0_6 p0 p1 p2 p3 q4 w0)), .val (.ref b95), .unset, .unset] [(.int (v0_6 p0 p1 p2 p3 q4 w0)), (.int (v0_3 p0 p1 p2 p3 q4 w0)), (.long q4), (.int (0 : Int32)), (.int (v0_1 p0 p1 p2 p3 q4 w0)), (.int (0 : Int32)), (.ref b95)])) _
      refine XS.iloadN X95.here hx rfl (hb hby at_58) rfl ?_
      show Steps p.tables e below (T95.setTop (mkF m 59 #[.val (.int p0), .val (.int p1), .val (.int p2), .val (.int p3), .val (.long q4), .second, .val (.int (v0_1 p0 p1 p2 p3 q4 w0)), .val (.int (v0_3 p0 p1 p2 p3 q4 w0)), .val (.int (1 : Int32)), .val (.int (v0_6 p0 p1 p2 p3 q4 w0)), .val (.ref b95), .unset, .unset] [(.int p3), (.int (v0_6 p0 p1 p2 p3 q4 w0)), (.int (v0_3 p0 p1 p2 p3 q4 w0)), (.long q4), (.int (0 : Int32)), (.int (v0_1 p0 p1 p2 p3 q4 w0)), (.int (0 : Int32)), (.ref b95)])) _
      refine st109.trans ?_
      show Steps p.tables e below (T109.setTop (mkF m 62 #[.val (.int p0), .val (.int p1), .val (.int p2), .val (.int p3), .val (.long q4), .second, .val (.int (v0_1 p0 p1 p2 p3 q4 w0)), .val (.int (v0_3 p0 p1 p2 p3 q4 w0)), .val (.int (1 : Int32)), .val (.int (v0_6 p0 p1 p2 p3 q4 w0)), .val (.ref b95), .unset, .unset] [(.int (f1 (v0_1 p0 p1 p2 p3 q4 w0) (0 : Int32) q4 (v0_3 p0 p1 p2 p3 q4 w0) (v0_6 p0 p1 p2 p3 q4 w0) p3 w0)), (.int (0 : Int32)), (.ref b95)])) _
      refine st117 _ ?_
      refine XS.iload X117.here hx rfl (hb hby at_63) rfl ?_
      refine XT.iconstV X117.here hx rfl (1 : Int32) (hb hby at_65) (by decide) ?_
      show Steps p.tables e below (T117.setTop (mkF m 66 #[.val (.int p0), .val (.int p1), .val (.int p2), .val (.int p3), .val (.long q4), .second, .val (.int (v0_1 p0 p1 p2 p3 q4 w0)), .val (.int (v0_3 p0 p1 p2 p3 q4 w0)), .val (.int (1 : Int32)), .val (.int (v0_6 p0 p1 p2 p3 q4 w0)), .val (.ref b95), .unset, .unset] [(.int (1 : Int32)), (.int (1 : Int32))])) _
      refine XS.icmpYes X117.here hx rfl (pc0 := 66) (pc' := 86) rfl (hb hby at_66) rfl (XT.ii_le_t (by decide)) (by decide) (by decide) ?_
      refine XS.iload X117.here hx rfl (hb hby at_86) rfl ?_
      refine XT.iconstV X117.here hx rfl (2 : Int32) (hb hby at_88) (by decide) ?_
      show Steps p.tables e below (T117.setTop (mkF m 89 #[.val (.int p0), .val (.int p1), .val (.int p2), .val (.int p3), .val (.long q4), .second, .val (.int (v0_1 p0 p1 p2 p3 q4 w0)), .val (.int (v0_3 p0 p1 p2 p3 q4 w0)), .val (.int (1 : Int32)), .val (.int (v0_6 p0 p1 p2 p3 q4 w0)), .val (.ref b95), .unset, .unset] [(.int (2 : Int32)), (.int (1 : Int32))])) _
      refine XS.icmpYes X117.here hx rfl (pc0 := 89) (pc' := 109) rfl (hb hby at_89) rfl (XT.ii_le_t (by decide)) (by decide) (by decide) ?_
      refine XS.iload X117.here hx rfl (hb hby at_109) rfl ?_
      refine XT.iconstV X117.here hx rfl (3 : Int32) (hb hby at_111) (by decide) ?_
      show Steps p.tables e below (T117.setTop (mkF m 112 #[.val (.int p0), .val (.int p1), .val (.int p2), .val (.int p3), .val (.long q4), .second, .val (.int (v0_1 p0 p1 p2 p3 q4 w0)), .val (.int (v0_3 p0 p1 p2 p3 q4 w0)), .val (.int (1 : Int32)), .val (.int (v0_6 p0 p1 p2 p3 q4 w0)), .val (.ref b95), .unset, .unset] [(.int (3 : Int32)), (.int (1 : Int32))])) _
      refine XS.icmpYes X117.here hx rfl (pc0 := 112) (pc' := 132) rfl (hb hby at_112) rfl (XT.ii_le_t (by decide)) (by decide) (by decide) ?_
      refine XS.iload X117.here hx rfl (hb hby at_132) rfl ?_
      refine XT.iconstV X117.here hx rfl (4 : Int32) (hb hby at_134) (by decide) ?_
      show Steps p.tables e below (T117.setTop (mkF m 135 #[.val (.int p0), .val (.int p1), .val (.int p2), .val (.int p3), .val (.long q4), .second, .val (.int (v0_1 p0 p1 p2 p3 q4 w0)), .val (.int (v0_3 p0 p1 p2 p3 q4 w0)), .val (.int (1 : Int32)), .val (.int (v0_6 p0 p1 p2 p3 q4 w0)), .val (.ref b95), .unset, .unset] [(.int (4 : Int32)), (.int (1 : Int32))])) _
      refine XS.icmpYes X117.here hx rfl (pc0 := 135) (pc' := 155) rfl (hb hby at_135) rfl (XT.ii_le_t (by decide)) (by decide) (by decide) ?_
      refine XS.iload X117.here hx rfl (hb hby at_155) rfl ?_
      refine XT.iconstV X117.here hx rfl (5 : Int32) (hb hby at_157) (by decide) ?_
      show Steps p.tables e below (T117.setTop (mkF m 158 #[.val (.int p0), .val (.int p1), .val (.int p2), .val (.int p3), .val (.long q4), .second, .val (.int (v0_1 p0 p1 p2 p3 q4 w0)), .val (.int (v0_3 p0 p1 p2 p3 q4 w0)), .val (.int (1 : Int32)), .val (.int (v0_6 p0 p1 p2 p3 q4 w0)), .val (.ref b95), .unset, .unset] [(.int (5 : Int32)), (.int (1 : Int32))])) _
      refine XS.icmpYes X117.here hx rfl (pc0 := 158) (pc' := 178) rfl (hb hby at_158) rfl (XT.ii_le_t (by decide)) (by decide) (by decide) ?_
      refine XS.iload X117.here hx rfl (hb hby at_178) rfl ?_
      refine XT.bipushV X117.here hx rfl (6 : Int32) (hb hby at_180) (by decide) ?_
      show Steps p.tables e below (T117.setTop (mkF m 182 #[.val (.int p0), .val (.int p1), .val (.int p2), .val (.int p3), .val (.long q4), .second, .val (.int (v0_1 p0 p1 p2 p3 q4 w0)), .val (.int (v0_3 p0 p1 p2 p3 q4 w0)), .val (.int (1 : Int32)), .val (.int (v0_6 p0 p1 p2 p3 q4 w0)), .val (.ref b95), .unset, .unset] [(.int (6 : Int32)), (.int (1 : Int32))])) _
      refine XS.icmpYes X117.here hx rfl (pc0 := 182) (pc' := 204) rfl (hb hby at_182) rfl (XT.ii_le_t (by decide)) (by decide) (by decide) ?_
      show Steps p.tables e below (T117.setTop (mkF m 204 #[.val (.int p0), .val (.int p1), .val (.int p2), .val (.int p3), .val (.long q4), .second, .val (.int (v0_1 p0 p1 p2 p3 q4 w0)), .val (.int (v0_3 p0 p1 p2 p3 q4 w0)), .val (.int (1 : Int32)), .val (.int (v0_6 p0 p1 p2 p3 q4 w0)), .val (.ref b95), .unset, .unset] [])) _
      refine st122 _ ?_
      refine XS.dup X122.here hx rfl (hb hby at_207) rfl rfl ?_
      refine XS.aload X122.here hx rfl (hb hby at_208) rfl rfl ?_
      show Steps p.tables e below (T122.setTop (mkF m 210 #[.val (.int p0), .val (.int p1), .val (.int p2), .val (.int p3), .val (.long q4), .second, .val (.int (v0_1 p0 p1 p2 p3 q4 w0)), .val (.int (v0_3 p0 p1 p2 p3 q4 w0)), .val (.int (1 : Int32)), .val (.int (v0_6 p0 p1 p2 p3 q4 w0)), .val (.ref b95), .unset, .unset] [(.ref b95), (.ref b122), (.ref b122)])) _
      refine st146.trans ?_
      refine XS.astore X146.here hx rfl (hb hby at_213) rfl rfl (l' := #[.val (.int p0), .val (.int p1), .val (.int p2), .val (.int p3), .val (.long q4), .second, .val (.int (v0_1 p0 p1 p2 p3 q4 w0)), .val (.int (v0_3 p0 p1 p2 p3 q4 w0)), .val (.int (1 : Int32)), .val (.int (v0_6 p0 p1 p2 p3 q4 w0)), .val (.ref b95), .val (.ref b122), .unset]) rfl ?_
      show Steps p.tables e below (T146.setTop (mkF m 215 #[.val (.int p0), .val (.int p1), .val (.int p2), .val (.int p3), .val (.long q4), .second, .val (.int (v0_1 p0 p1 p2 p3 q4 w0)), .val (.int (v0_3 p0 p1 p2 p3 q4 w0)), .val (.int (1 : Int32)), .val (.int (v0_6 p0 p1 p2 p3 q4 w0)), .val (.ref b95), .val (.ref b122), .unset] [])) _
      refine XS.aconstNull X146.here hx rfl (hb hby at_215) ?_
      refine XS.astore X146.here hx rfl (hb hby at_216) rfl rfl (l' := #[.val (.int p0), .val (.int p1), .val (.int p2), .val (.int p3), .val (.long q4), .second, .val (.int (v0_1 p0 p1 p2 p3 q4 w0)), .val (.int (v0_3 p0 p1 p2 p3 q4 w0)), .val (.int (1 : Int32)), .val (.int (v0_6 p0 p1 p2 p3 q4 w0)), .val (.ref b95), .val (.ref b122), .val .null]) rfl ?_
      refine XS.aload X146.here hx rfl (hb hby at_218) rfl rfl ?_
      show Steps p.tables e below (T146.setTop (mkF m 220 #[.val (.int p0), .val (.int p1), .val (.int p2), .val (.int p3), .val (.long q4), .second, .val (.int (v0_1 p0 p1 p2 p3 q4 w0)), .val (.int (v0_3 p0 p1 p2 p3 q4 w0)), .val (.int (1 : Int32)), .val (.int (v0_6 p0 p1 p2 p3 q4 w0)), .val (.ref b95), .val (.ref b122), .val .null] [(.ref b122)])) _
      refine st173 _ ?_
      show Steps p.tables e below (T173.setTop (mkF m 222 #[.val (.int p0), .val (.int p1), .val (.int p2), .val (.int p3), .val (.long q4), .second, .val (.int (v0_1 p0 p1 p2 p3 q4 w0)), .val (.int (v0_3 p0 p1 p2 p3 q4 w0)), .val (.int (1 : Int32)), .val (.int (v0_6 p0 p1 p2 p3 q4 w0)), .val (.ref b95), .val (.ref b122), .val .null] [(.ref la173), (.ref b122)])) _
      refine st181.trans ?_
      show Steps p.tables e below (T181.setTop (mkF m 225 #[.val (.int p0), .val (.int p1), .val (.int p2), .val (.int p3), .val (.long q4), .second, .val (.int (v0_1 p0 p1 p2 p3 q4 w0)), .val (.int (v0_3 p0 p1 p2 p3 q4 w0)), .val (.int (1 : Int32)), .val (.int (v0_6 p0 p1 p2 p3 q4 w0)), .val (.ref b95), .val (.ref b122), .val .null] [(.int (fsqD (1 : Int32) (4 : Int32) w0))])) _
      refine XS.ifYes X181.here hx rfl (pc0 := 225) (pc' := 236) rfl (hb hby at_225) rfl (XT.i0_eq_t rfl) (by decide) (by decide) ?_
      refine XS.aload X181.here hx rfl (hb hby at_236) rfl rfl ?_
      show Steps p.tables e below (T181.setTop (mkF m 238 #[.val (.int p0), .val (.int p1), .val (.int p2), .val (.int p3), .val (.long q4), .second, .val (.int (v0_1 p0 p1 p2 p3 q4 w0)), .val (.int (v0_3 p0 p1 p2 p3 q4 w0)), .val (.int (1 : Int32)), .val (.int (v0_6 p0 p1 p2 p3 q4 w0)), .val (.ref b95), .val (.ref b122), .val .null] [(.ref b122)])) _
      refine st187 _ ?_
      show Steps p.tables e below (T187.setTop (mkF m 240 #[.val (.int p0), .val (.int p1), .val (.int p2), .val (.int p3), .val (.long q4), .second, .val (.int (v0_1 p0 p1 p2 p3 q4 w0)), .val (.int (v0_3 p0 p1 p2 p3 q4 w0)), .val (.int (1 : Int32)), .val (.int (v0_6 p0 p1 p2 p3 q4 w0)), .val (.ref b95), .val (.ref b122), .val .null] [(.ref la187), (.ref b122)])) _
      refine st195.trans ?_
      show Steps p.tables e below (T195.setTop (mkF m 243 #[.val (.int p0), .val (.int p1), .val (.int p2), .val (.int p3), .val (.long q4), .second, .val (.int (v0_1 p0 p1 p2 p3 q4 w0)), .val (.int (v0_3 p0 p1 p2 p3 q4 w0)), .val (.int (1 : Int32)), .val (.int (v0_6 p0 p1 p2 p3 q4 w0)), .val (.ref b95), .val (.ref b122), .val .null] [(.int (fsqD (1 : Int32) (6 : Int32) w0))])) _
      refine XS.ifYes X195.here hx rfl (pc0 := 243) (pc' := 251) rfl (hb hby at_243) rfl (XT.i0_eq_t rfl) (by decide) (by decide) ?_
      refine XS.aload X195.here hx rfl (hb hby at_251) rfl rfl ?_
      show Steps p.tables e below (T195.setTop (mkF m 253 #[.val (.int p0), .val (.int p1), .val (.int p2), .val (.int p3), .val (.long q4), .second, .val (.int (v0_1 p0 p1 p2 p3 q4 w0)), .val (.int (v0_3 p0 p1 p2 p3 q4 w0)), .val (.int (1 : Int32)), .val (.int (v0_6 p0 p1 p2 p3 q4 w0)), .val (.ref b95), .val (.ref b122), .val .null] [(.ref b122)])) _
      refine st201 _ ?_
      refine XS.aload X201.here hx rfl (hb hby at_256) rfl rfl ?_
      show Steps p.tables e below (T201.setTop (mkF m 258 #[.val (.int p0), .val (.int p1), .val (.int p2), .val (.int p3), .val (.long q4), .second, .val (.int (v0_1 p0 p1 p2 p3 q4 w0)), .val (.int (v0_3 p0 p1 p2 p3 q4 w0)), .val (.int (1 : Int32)), .val (.int (v0_6 p0 p1 p2 p3 q4 w0)), .val (.ref b95), .val (.ref b122), .val .null] [.null, .null])) _
      refine XT.acmpNo X201.here hx rfl (hb hby at_258) rfl rfl rfl (XT.aa_ne_f rfl) ?_
      refine XT.iconstV X201.here hx rfl (1 : Int32) (hb hby at_261) (by decide) ?_
      show Steps p.tables e below (T201.setTop (mkF m 262 #[.val (.int p0), .val (.int p1), .val (.int p2), .val (.int p3), .val (.long q4), .second, .val (.int (v0_1 p0 p1 p2 p3 q4 w0)), .val (.int (v0_3 p0 p1 p2 p3 q4 w0)), .val (.int (1 : Int32)), .val (.int (v0_6 p0 p1 p2 p3 q4 w0)), .val (.ref b95), .val (.ref b122), .val .null] [(.int (1 : Int32))])) _
      refine XS.goto X201.here hx rfl (pc0 := 262) (pc' := 266) rfl (hb hby at_262) (by decide) (by decide) ?_
      show Steps p.tables e below (T201.setTop (mkF m 266 #[.val (.int p0), .val (.int p1), .val (.int p2), .val (.int p3), .val (.long q4), .second, .val (.int (v0_1 p0 p1 p2 p3 q4 w0)), .val (.int (v0_3 p0 p1 p2 p3 q4 w0)), .val (.int (1 : Int32)), .val (.int (v0_6 p0 p1 p2 p3 q4 w0)), .val (.ref b95), .val (.ref b122), .val .null] [(.int (1 : Int32))])) _
      exact retN X201 hx (t := .boolean) Bd.returns (by simp) (hb hby at_266) hr
    · skip
      show Q0 Z p0 p1 p2 p3 q4 w0 u1_SF w2_V w3_N w4_P kV w5_L w6_L w7_B kB0 w8_B kB1 h0 n0 _ T201.heap _
      exact ⟨rfl, N201⟩
  · skip
    rw [show (v0_4 p0 p1 p2 p3 q4 w0) = (2 : Int32) from cn] at pre4
    obtain ⟨T220, h220, k220, X220, e220, E220, A220, EA220, st220⟩ := newPE X0 hx hZ (wd hw 1 rfl) e0 (g := (mkF m 37 #[.val (.int p0), .val (.int p1), .val (.int p2), .val (.int p3), .val (.long q4), .second, .val (.int (v0_1 p0 p1 p2 p3 q4 w0)), .val (.int (v0_3 p0 p1 p2 p3 q4 w0)), .val (.int (2 : Int32)), .val (.int (v0_6 p0 p1 p2 p3 q4 w0)), .unset, .unset, .unset] [(.int (2 : Int32))])) rfl (hb hby at_37) rfl (by decide) (cap := 2) (by decide) (by decide) (by decide) (by decide) (ad := "[C") rfl
    obtain ⟨b220, gz220⟩ : ∃ z, z = h0.size := ⟨_, rfl⟩
    rw [← gz220] at A220 EA220 st220
    have ne221 : w2_V ≠ b220 := Nat.ne_of_lt (Nat.lt_of_lt_of_le E_w2_V.lt (Nat.le_of_eq gz220.symm))
    have ne222 : w3_N ≠ b220 := Nat.ne_of_lt (Nat.lt_of_lt_of_le E_w3_N.lt (Nat.le_of_eq gz220.symm))
    have ne223 : w4_P ≠ b220 := Nat.ne_of_lt (Nat.lt_of_lt_of_le E_w4_P.lt (Nat.le_of_eq gz220.symm))
    have ne224 : w5_L ≠ b220 := Nat.ne_of_lt (Nat.lt_of_lt_of_le E_w5_L.lt (Nat.le_of_eq gz220.symm))
    have ne225 : w6_L ≠ b220 := Nat.ne_of_lt (Nat.lt_of_lt_of_le E_w6_L.lt (Nat.le_of_eq gz220.symm))
    have ne226 : w7_B ≠ b220 := Nat.ne_of_lt (Nat.lt_of_lt_of_le V_w7_B.lt (Nat.le_of_eq gz220.symm))
    have ne227 : w8_B ≠ b220 := Nat.ne_of_lt (Nat.lt_of_lt_of_le V_w8_B.lt (Nat.le_of_eq gz220.symm))
    have g228 : n0 ≤ b220 := Nat.le_trans Z0 (Nat.le_of_eq gz220.symm)
    have sz229 : h0.size ≤ b220 := Nat.le_trans (Nat.le_refl h0.size) (Nat.le_of_eq gz220.symm)
    have ch230 := ch0.trans (CHr.ext E220 ch0.1)
    have z231 : n0 ≤ h220.size := Nat.le_trans Z0 E220.1
    have hs232 : h0.size ≤ h220.size := Nat.le_trans (Nat.le_refl h0.size) E220.1
    have hk233 := Nat.le_trans (Nat.le_refl _) E220.1
    have V220 : Arv Z h220 b220 k220 .char (2 : Int32) [(.int (0 : Int32)), (.int (0 : Int32))] (.int (0 : Int32)) := (Arv.new A220 (by decide)).pad (pad_rep [] (.int (0 : Int32)) 2)
    have O235 := (O0.ext E220)
    obtain ⟨vr234, _, ⟨T234, L234, k234, n234⟩, -, X234, hSq234, hgq234, ⟨Lc234, hQ234, l234, y234, z234, Cr234⟩, st234⟩ := Jvm.RoadKit.callSS (s := s.setVm s.vm) X220 hx (y := (⟨"com/example/vellum_index/vellumindex/StemmerLabelledPinLaw", "at", "(IIJZII)C"⟩ : MethodName)) hown (mvT hZ (wd hw 2 rfl)) (mvT hZ (wd hw 3 rfl)) (mvT hZ (wd hw 4 rfl)) (mvT hZ (wd hw 5 rfl)) (by decide) (backOfSH (s := s ) (vm0 := s.vm) (EL := consts_1) (W := 2) (rm1 l Z a0 hw [] (v0_1 p0 p1 p2 p3 q4 w0) (0 : Int32) q4 (v0_3 p0 p1 p2 p3 q4 w0) (v0_6 p0 p1 p2 p3 q4 w0) p3 w0 u1_SF h220 n0 z231 (Sta.ext O235.2 S_String_COMPACT_STRINGS) hcs (Sta.ext O235.2 S_Preconditions_SIOOBE_FORMATTER) hu (by decide)) hZ (wd hw 5 rfl) (wd hw 4 rfl) (by decide) (by decide) (own_ew hw) ch230.1) (g := (mkF m 59 #[.val (.int p0), .val (.int p1), .val (.int p2), .val (.int p3), .val (.long q4), .second, .val (.int (v0_1 p0 p1 p2 p3 q4 w0)), .val (.int (v0_3 p0 p1 p2 p3 q4 w0)), .val (.int (2 : Int32)), .val (.int (v0_6 p0 p1 p2 p3 q4 w0)), .val (.ref b220), .unset, .unset] [(.int p3), (.int (v0_6 p0 p1 p2 p3 q4 w0)), (.int (v0_3 p0 p1 p2 p3 q4 w0)), (.long q4), (.int (0 : Int32)), (.int (v0_1 p0 p1 p2 p3 q4 w0)), (.int (0 : Int32)), (.ref b220)])) rfl (by rw [hml]; rfl) (argsL := [(.int (v0_1 p0 p1 p2 p3 q4 w0)), (.int (0 : Int32)), (.long q4), (.int (v0_3 p0 p1 p2 p3 q4 w0)), (.int (v0_6 p0 p1 p2 p3 q4 w0)), (.int p3)]) (rest := [(.int (0 : Int32)), (.ref b220)]) (lenOf pd__IIJZII_C rfl) rfl (by show 2 * 0 + _ ≤ _; exact Nat.le_of_eq rfl) (hb hby at_59) (fun _ _ => ⟨rfl, e220, (by decide : 1 + 2 ≤ _), (by decide : 2 + 28 ≤ _)⟩)
    dsimp only [Pt.U, Pt.locs, Pt.cells, Pt.slots] at X234 l234 y234 z234 st234 hQ234 hSq234 hgq234 Cr234
    obtain ⟨X234, hS234, hZ, hown⟩ := rebS (s := s) (vm0 := s.vm) (n1 := h220.size) hS0 hk233 X234 hSq234 (by rw [← e220]; exact hgq234) hZ hown
    have ch236 := ch230.trans Cr234
    replace X234 := own_stand X234 l234 y234 z234
    clear l234 y234 z234
    have N234q := (show _ ∧ _ from hQ234).1
    have hq234 := (show _ ∧ _ from hQ234).2
    clear hQ234
    have hv234 := hq234.1
    have K234 := hq234.2
    clear hq234
    subst hv234
    have z237 : n0 ≤ T234.heap.size := Nat.le_trans z231 K234.1
    have hs238 : h0.size ≤ T234.heap.size := Nat.le_trans hs232 K234.1
    have N234 := Fr.app N0 N234q
    have k239 := (V220.keep K234 nin0)
    obtain ⟨cl240, Ar240, qc240, S240, M240, Ha240, G240⟩ := id k239
    have hin241 : ¬ ((0 : Int32) < 0 ∨ cl240.slots.size ≤ ((0 : Int32)).toNatClampNeg) := inb_of S240 ⟨by decide, by decide⟩
    obtain ⟨T242, h242, X242, e242, W242, st242⟩ := stC X234 hx hZ rfl Ar240 (j := (0 : Int32)) hin241 (g := (mkF m 62 #[.val (.int p0), .val (.int p1), .val (.int p2), .val (.int p3), .val (.long q4), .second, .val (.int (v0_1 p0 p1 p2 p3 q4 w0)), .val (.int (v0_3 p0 p1 p2 p3 q4 w0)), .val (.int (2 : Int32)), .val (.int (v0_6 p0 p1 p2 p3 q4 w0)), .val (.ref b220), .unset, .unset] [(.int (f1 (v0_1 p0 p1 p2 p3 q4 w0) (0 : Int32) q4 (v0_3 p0 p1 p2 p3 q4 w0) (v0_6 p0 p1 p2 p3 q4 w0) p3 w0)), (.int (0 : Int32)), (.ref b220)])) rfl rfl (hb hby at_62)
    have V242 : Arv Z h242 b220 k220 .char (2 : Int32) [(.int (v0_14 p0 p1 p2 p3 q4 w0)), (.int (0 : Int32))] (.int (0 : Int32)) := Arv.set Ar240 qc240 S240 M240 Ha240 G240 (fits_nar_char (v0_13 p0 p1 p2 p3 q4 w0)) W242 0 rfl (Nat.le_of_ble_eq_true rfl)
    have N242 := Fr.snoc X242 N234 g228
    have ch243 := ch236.trans (CHr.wr W242 (Safe.arv hZ.alike k239 (fun q => nomatch q)) ch236.1)
    have z244 : n0 ≤ h242.size := Nat.le_trans z237 (Keep.of_wr W242).1
    have hs245 : h0.size ≤ h242.size := Nat.le_trans hs238 (Keep.of_wr W242).1
    have hk246 := Nat.le_trans (Nat.le_refl _) (Keep.of_wr W242).1
    have O248 := ((O235.keep K234 all0).wr W242 g228)
    obtain ⟨vr247, _, ⟨T247, L247, k247, n247⟩, -, X247, hSq247, hgq247, ⟨Lc247, hQ247, l247, y247, z247, Cr247⟩, st247⟩ := Jvm.RoadKit.callSS (s := s.setVm T234.vm) X242 hx (y := (⟨"com/example/vellum_index/vellumindex/StemmerLabelledPinLaw", "at", "(IIJZII)C"⟩ : MethodName)) hown (mvT hZ (wd hw 2 rfl)) (mvT hZ (wd hw 3 rfl)) (mvT hZ (wd hw 4 rfl)) (mvT hZ (wd hw 5 rfl)) (by decide) (backOfSH (s := s ) (vm0 := T234.vm) (EL := consts_1) (W := 2) (rm1 l Z a0 hw [] (v0_1 p0 p1 p2 p3 q4 w0) (1 : Int32) q4 (v0_3 p0 p1 p2 p3 q4 w0) (v0_6 p0 p1 p2 p3 q4 w0) p3 w0 u1_SF h242 n0 z244 (Sta.ext O248.2 S_String_COMPACT_STRINGS) hcs (Sta.ext O248.2 S_Preconditions_SIOOBE_FORMATTER) hu (by decide)) hZ (wd hw 5 rfl) (wd hw 4 rfl) (by decide) (by decide) (own_ew hw) ch243.1) (g := (mkF m 82 #[.val (.int p0), .val (.int p1), .val (.int p2), .val (.int p3), .val (.long q4), .second, .val (.int (v0_1 p0 p1 p2 p3 q4 w0)), .val (.int (v0_3 p0 p1 p2 p3 q4 w0)), .val (.int (2 : Int32)), .val (.int (v0_6 p0 p1 p2 p3 q4 w0)), .val (.ref b220), .unset, .unset] [(.int p3), (.int (v0_6 p0 p1 p2 p3 q4 w0)), (.int (v0_3 p0 p1 p2 p3 q4 w0)), (.long q4), (.int (1 : Int32)), (.int (v0_1 p0 p1 p2 p3 q4 w0)), (.int (1 : Int32)), (.ref b220)])) rfl (by rw [hml]; rfl) (argsL := [(.int (v0_1 p0 p1 p2 p3 q4 w0)), (.int (1 : Int32)), (.long q4), (.int (v0_3 p0 p1 p2 p3 q4 w0)), (.int (v0_6 p0 p1 p2 p3 q4 w0)), (.int p3)]) (rest := [(.int (1 : Int32)), (.ref b220)]) (lenOf pd__IIJZII_C rfl) rfl (by show 2 * 0 + _ ≤ _; exact Nat.le_of_eq rfl) (hb hby at_82) (fun _ _ => ⟨rfl, e242, (by decide : 3 + 2 ≤ _), (by decide : 30 + 28 ≤ _)⟩)
    dsimp only [Pt.U, Pt.locs, Pt.cells, Pt.slots] at X247 l247 y247 z247 st247 hQ247 hSq247 hgq247 Cr247
    obtain ⟨X247, hS247, hZ, hown⟩ := rebS (s := s) (vm0 := T234.vm) (n1 := h242.size) hS234 hk246 X247 hSq247 (by rw [← e242]; exact hgq247) hZ hown
    have ch249 := ch243.trans Cr247
    replace X247 := own_stand X247 l247 y247 z247
    clear l247 y247 z247
    have N247q := (show _ ∧ _ from hQ247).1
    have hq247 := (show _ ∧ _ from hQ247).2
    clear hQ247
    have hv247 := hq247.1
    have K247 := hq247.2
    clear hq247
    subst hv247
    have z250 : n0 ≤ T247.heap.size := Nat.le_trans z244 K247.1
    have hs251 : h0.size ≤ T247.heap.size := Nat.le_trans hs245 K247.1
    have N247 := Fr.app N242 N247q
    have k252 := (V242.keep K247 nin0)
    obtain ⟨cl253, Ar253, qc253, S253, M253, Ha253, G253⟩ := id k252
    have hin254 : ¬ ((1 : Int32) < 0 ∨ cl253.slots.size ≤ ((1 : Int32)).toNatClampNeg) := inb_of S253 ⟨by decide, by decide⟩
    obtain ⟨T255, h255, X255, e255, W255, st255⟩ := stC X247 hx hZ rfl Ar253 (j := (1 : Int32)) hin254 (g := (mkF m 85 #[.val (.int p0), .val (.int p1), .val (.int p2), .val (.int p3), .val (.long q4), .second, .val (.int (v0_1 p0 p1 p2 p3 q4 w0)), .val (.int (v0_3 p0 p1 p2 p3 q4 w0)), .val (.int (2 : Int32)), .val (.int (v0_6 p0 p1 p2 p3 q4 w0)), .val (.ref b220), .unset, .unset] [(.int (f1 (v0_1 p0 p1 p2 p3 q4 w0) (1 : Int32) q4 (v0_3 p0 p1 p2 p3 q4 w0) (v0_6 p0 p1 p2 p3 q4 w0) p3 w0)), (.int (1 : Int32)), (.ref b220)])) rfl rfl (hb hby at_85)
    have V255 : Arv Z h255 b220 k220 .char (2 : Int32) [(.int (v0_14 p0 p1 p2 p3 q4 w0)), (.int (v0_16 p0 p1 p2 p3 q4 w0))] (.int (0 : Int32)) := Arv.set Ar253 qc253 S253 M253 Ha253 G253 (fits_nar_char (v0_15 p0 p1 p2 p3 q4 w0)) W255 1 rfl (Nat.le_of_ble_eq_true rfl)
    have N255 := Fr.snoc X255 N247 g228
    have ch256 := ch249.trans (CHr.wr W255 (Safe.arv hZ.alike k252 (fun q => nomatch q)) ch249.1)
    have z257 : n0 ≤ h255.size := Nat.le_trans z250 (Keep.of_wr W255).1
    have hs258 : h0.size ≤ h255.size := Nat.le_trans hs251 (Keep.of_wr W255).1
    have hk259 := Nat.le_trans (Nat.le_refl _) (Keep.of_wr W255).1
    obtain ⟨T260, h260, X260, e260, E260, A260, D260, -, st260⟩ := newO X255 hx hZ hown (wd hw 52 rfl) (wd hw 11 rfl) (wd hw 10 rfl) e255 (g := (mkF m 204 #[.val (.int p0), .val (.int p1), .val (.int p2), .val (.int p3), .val (.long q4), .second, .val (.int (v0_1 p0 p1 p2 p3 q4 w0)), .val (.int (v0_3 p0 p1 p2 p3 q4 w0)), .val (.int (2 : Int32)), .val (.int (v0_6 p0 p1 p2 p3 q4 w0)), .val (.ref b220), .unset, .unset] [])) rfl (hb hby at_204) (by decide) (by decide)
    obtain ⟨b260, gz260⟩ : ∃ z, z = h255.size := ⟨_, rfl⟩
    rw [← gz260] at A260 D260 st260
    have k261 := (((((E_w2_V.ext E220).keep K234).wr W242).keep K247).wr W255)
    have ne262 : w2_V ≠ b260 := Nat.ne_of_lt (Nat.lt_of_lt_of_le k261.lt (Nat.le_of_eq gz260.symm))
    have k263 := (((((E_w3_N.ext E220).keep K234).wr W242).keep K247).wr W255)
    have ne264 : w3_N ≠ b260 := Nat.ne_of_lt (Nat.lt_of_lt_of_le k263.lt (Nat.le_of_eq gz260.symm))
    have k265 := (((((E_w4_P.ext E220).keep K234).wr W242).keep K247).wr W255)
    have ne266 : w4_P ≠ b260 := Nat.ne_of_lt (Nat.lt_of_lt_of_le k265.lt (Nat.le_of_eq gz260.symm))
    have k267 := (((((E_w5_L.ext E220).keep K234).wr W242).keep K247).wr W255)
    have ne268 : w5_L ≠ b260 := Nat.ne_of_lt (Nat.lt_of_lt_of_le k267.lt (Nat.le_of_eq gz260.symm))
    have k269 := (((((E_w6_L.ext E220).keep K234).wr W242).keep K247).wr W255)
    have ne270 : w6_L ≠ b260 := Nat.ne_of_lt (Nat.lt_of_lt_of_le k269.lt (Nat.le_of_eq gz260.symm))
    have k271 := ((((EA220.keep K234).wr W242).keep K247).wr W255)
    have ne272 : b220 ≠ b260 := Nat.ne_of_lt (Nat.lt_of_lt_of_le k271.lt (Nat.le_of_eq gz260.symm))
    have k273 := (((((V_w7_B.ext E220).keep K234 nin0).other W242 ne226).keep K247 nin0).other W255 ne226)
    have ne274 : w7_B ≠ b260 := Nat.ne_of_lt (Nat.lt_of_lt_of_le k273.lt (Nat.le_of_eq gz260.symm))
    have k275 := (((((V_w8_B.ext E220).keep K234 nin0).other W242 ne227).keep K247 nin0).other W255 ne227)
    have ne276 : w8_B ≠ b260 := Nat.ne_of_lt (Nat.lt_of_lt_of_le k275.lt (Nat.le_of_eq gz260.symm))
    have g277 : n0 ≤ b260 := Nat.le_trans z257 (Nat.le_of_eq gz260.symm)
    have sz278 : h0.size ≤ b260 := Nat.le_trans hs258 (Nat.le_of_eq gz260.symm)
    have ch279 := ch256.trans (CHr.ext E260 ch256.1)
    have z280 : n0 ≤ h260.size := Nat.le_trans z257 E260.1
    have hs281 : h0.size ≤ h260.size := Nat.le_trans hs258 E260.1
    have hk282 := Nat.le_trans hk259 E260.1
    have sf283 := Safe.ext E260 ch256.1 (Safe.new (Z := Z) (EL := consts_1) (vm := T247.vm) (Nat.le_of_eq gz260.symm))
    have F260_value : Fld Z h260 b260 "java/lang/String" "value" "[B" .null := D260 (Or.inr (wd hw 13 rfl)) (ty := (.array .byte)) (by decide)
    have F260_coder : Fld Z h260 b260 "java/lang/String" "coder" "B" (.int (0 : Int32)) := D260 (Or.inr (wd hw 14 rfl)) (ty := .byte) (by decide)
    have k285 := (V255.ext E260)
    have O286 := (((O248.keep K247 all0).wr W255 g228).ext E260)
    obtain ⟨vr284, _, ⟨T284, L284, k284, n284⟩, -, X284, ⟨Lc284, hQ284, l284, y284, z284⟩, st284⟩ := Jvm.Stand.specialBack X260 hx (y := (⟨"java/lang/String", "<init>", "([C)V"⟩ : MethodName)) rfl hown (mvT hZ (wd hw 53 rfl)) (mvT hZ (wd hw 54 rfl)) (mvT hZ (wd hw 55 rfl)) (by decide) (own_newS (W := 1) (cs := [(v0_14 p0 p1 p2 p3 q4 w0), (v0_16 p0 p1 p2 p3 q4 w0)]) (vs := [(.int (own_b (v0_14 p0 p1 p2 p3 q4 w0))), (.int (own_b (v0_16 p0 p1 p2 p3 q4 w0)))]) (n := 2) hZ hw g277 z280 A260 F260_value F260_coder k285 (Sta.ext O286.2 S_String_COMPACT_STRINGS) hcs rfl rfl (by decide) (by decide) (own_alc (own_at _ _ _ _ _ _ _) (own_alc (own_at _ _ _ _ _ _ _) own_aln)) rfl (by decide) (by decide)) (g := (mkF m 210 #[.val (.int p0), .val (.int p1), .val (.int p2), .val (.int p3), .val (.long q4), .second, .val (.int (v0_1 p0 p1 p2 p3 q4 w0)), .val (.int (v0_3 p0 p1 p2 p3 q4 w0)), .val (.int (2 : Int32)), .val (.int (v0_6 p0 p1 p2 p3 q4 w0)), .val (.ref b220), .unset, .unset] [(.ref b220), (.ref b260), (.ref b260)])) rfl (by rw [hml]; rfl) (Steps.refl _) (a := b260) (argsL := [(.ref b220)]) (rest := [(.ref b260)]) (lenOf pd___C_V rfl) rfl (by show 2 * 0 + _ ≤ _; exact Nat.le_of_eq rfl) (hb hby at_210) (fun _ _ => ⟨rfl, e260, (by decide : 6 + 1 ≤ _), (by decide : 62 + 2 ≤ _)⟩)
    dsimp only [Pt.U, Pt.locs, Pt.cells, Pt.slots] at X284 l284 y284 z284 st284 hQ284
    replace X284 := own_stand X284 l284 y284 z284
    clear l284 y284 z284
    have N284q := (show _ ∧ _ from hQ284).1
    have hq284 := (show _ ∧ _ from hQ284).2
    clear hQ284
    obtain ⟨xsn_0_284, ksn_1_284, hq284x⟩ := hq284
    have hv284 := hq284x.1
    have szxsn_0_284 := hq284x.2.1
    have K284 := hq284x.2.2.1
    have po284_0 := hq284x.2.2.2.1
    have po284_1 := hq284x.2.2.2.2.1
    have po284_2 := hq284x.2.2.2.2.2.1
    have po284_3 := hq284x.2.2.2.2.2.2
    clear hq284x
    subst hv284
    have k287 := (k261.ext E260)
    have ne288 : w2_V ≠ xsn_0_284 := Nat.ne_of_lt (Nat.lt_of_lt_of_le k287.lt szxsn_0_284)
    have k289 := (k263.ext E260)
    have ne290 : w3_N ≠ xsn_0_284 := Nat.ne_of_lt (Nat.lt_of_lt_of_le k289.lt szxsn_0_284)
    have k291 := (k265.ext E260)
    have ne292 : w4_P ≠ xsn_0_284 := Nat.ne_of_lt (Nat.lt_of_lt_of_le k291.lt szxsn_0_284)
    have k293 := (k267.ext E260)
    have ne294 : w5_L ≠ xsn_0_284 := Nat.ne_of_lt (Nat.lt_of_lt_of_le k293.lt szxsn_0_284)
    have k295 := (k269.ext E260)
    have ne296 : w6_L ≠ xsn_0_284 := Nat.ne_of_lt (Nat.lt_of_lt_of_le k295.lt szxsn_0_284)
    have k297 := (k271.ext E260)
    have ne298 : b220 ≠ xsn_0_284 := Nat.ne_of_lt (Nat.lt_of_lt_of_le k297.lt szxsn_0_284)
    have ne299 : b260 ≠ xsn_0_284 := Nat.ne_of_lt (Nat.lt_of_lt_of_le A260.lt szxsn_0_284)
    have k300 := (k273.ext E260)
    have ne301 : w7_B ≠ xsn_0_284 := Nat.ne_of_lt (Nat.lt_of_lt_of_le k300.lt szxsn_0_284)
    have k302 := (k275.ext E260)
    have ne303 : w8_B ≠ xsn_0_284 := Nat.ne_of_lt (Nat.lt_of_lt_of_le k302.lt szxsn_0_284)
    have g304 : n0 ≤ xsn_0_284 := Nat.le_trans z280 szxsn_0_284
    have sz305 : h0.size ≤ xsn_0_284 := Nat.le_trans hs281 szxsn_0_284
    have sf307 := Safe.keep K284 (sfS sf283 sf0) ch279.1 sf283
    have ch306 := ch279.trans (CHr.keep K284 (sfS sf283 sf0) ch279.1)
    have z308 : n0 ≤ T284.heap.size := Nat.le_trans z280 K284.1
    have hs309 : h0.size ≤ T284.heap.size := Nat.le_trans hs281 K284.1
    have hk310 := Nat.le_trans hk282 K284.1
    have N284 := Fr.app N255 N284q
    obtain ⟨la311, T311, h311, kk311, lb311, lk311, X311, e311, E311, hS311, hk311, hZ, hown, Ex311, Fc311, Fv311, V311, -, -, Cr311, Lt311, Sf311, st311⟩ := ldcCH (s := s) (vm0 := T247.vm) (EL := consts_1) X284 hx hZ hown (wd hw 9 rfl) (own_ws hw) rfl hS247 hk310 (own_ew hw) (List.mem_of_getElem? (i := 0) rfl) ch306.1 (z := (4 : Int32)) (vs := [(.int (110 : Int32)), (.int (111 : Int32)), (.int (110 : Int32)), (.int (101 : Int32))]) ⟨by decide, by rfl⟩ (by decide) rfl (g := (mkF m 220 #[.val (.int p0), .val (.int p1), .val (.int p2), .val (.int p3), .val (.long q4), .second, .val (.int (v0_1 p0 p1 p2 p3 q4 w0)), .val (.int (v0_3 p0 p1 p2 p3 q4 w0)), .val (.int (2 : Int32)), .val (.int (v0_6 p0 p1 p2 p3 q4 w0)), .val (.ref b220), .val (.ref b260), .val .null] [(.ref b260)])) rfl (hb hby at_220) (n := 16) (by decide) (by decide) (by decide) (by decide)
    have sf312 := Cr311.safe po284_0.lt sf307
    have ch313 := ch306.trans Cr311
    have z314 : n0 ≤ h311.size := Nat.le_trans z308 E311.1
    have hs315 : h0.size ≤ h311.size := Nat.le_trans hs309 E311.1
    have ne316 := Sf311 _ sf312
    have k317 := ((((((((V_w2_V.ext E220).keep K234 nin0).other W242 ne221).keep K247 nin0).other W255 ne221).ext E260).keep K284 (ninS ne262 nin0)).ext E311)
    have k318 := ((k285.keep K284 (ninS ne272 nin0)).ext E311)
    have k320 := (po284_0.ext E311)
    have k321 := (po284_1.ext E311)
    have k322 := (po284_2.ext E311)
    have k323 := (po284_3.ext E311)
    have O324 := ((O286.keep K284 (allS g277 all0)).ext E311)
    obtain ⟨cq319, kq319, q319a, q319b, q319c⟩ := isOf hZ e311 k320
    obtain ⟨vr319, _, ⟨T319, L319, k319, n319⟩, -, X319, ⟨Lc319, hQ319, l319, y319, z319⟩, st319⟩ := Jvm.Stand.virtualBack X311 hx (y := (⟨"java/lang/String", "equals", "(Ljava/lang/Object;)Z"⟩ : MethodName)) (z := (⟨"java/lang/String", "equals", "(Ljava/lang/Object;)Z"⟩ : MethodName)) hown (mvT hZ (wd hw 73 rfl)) (mvT hZ (wd hw 74 rfl)) (notFace_of_selects (args := #[]) (mvT hZ (wd hw 76 rfl))) (mvT hZ (wd hw 76 rfl)) (mvT hZ (wd hw 75 rfl)) (by decide) (backOf (W := 0) (rmsqD l Z a0 hw [] b260 la311 xsn_0_284 (2 : Int32) ([(.int (own_b (v0_14 p0 p1 p2 p3 q4 w0))), (.int (own_b (v0_16 p0 p1 p2 p3 q4 w0)))]) ksn_1_284 lb311 (4 : Int32) ([(.int (110 : Int32)), (.int (111 : Int32)), (.int (110 : Int32)), (.int (101 : Int32))]) lk311 w0 h311 n0 z314 k320 k321 k322 k323 Ex311 Fc311 Fv311 V311 ne316.1 (Sta.ext O324.2 S_String_COMPACT_STRINGS) hcs (by decide)) hZ (wd hw 77 rfl) (wd hw 10 rfl) (by decide) (by decide)) q319a q319c (g := (mkF m 222 #[.val (.int p0), .val (.int p1), .val (.int p2), .val (.int p3), .val (.long q4), .second, .val (.int (v0_1 p0 p1 p2 p3 q4 w0)), .val (.int (v0_3 p0 p1 p2 p3 q4 w0)), .val (.int (2 : Int32)), .val (.int (v0_6 p0 p1 p2 p3 q4 w0)), .val (.ref b220), .val (.ref b260), .val .null] [(.ref la311), (.ref b260)])) rfl (by rw [hml]; rfl) (Steps.refl _) (argsL := [(.ref la311)]) (rest := []) (lenOf pd__Ljava_lang_Object__Z rfl) rfl (by show 2 * 0 + _ ≤ _; exact Nat.le_of_eq rfl) (hb hby at_222) (fun _ _ => ⟨rfl, e311, (by decide : 9 + 0 ≤ _), (by decide : 84 + 0 ≤ _)⟩)
    dsimp only [Pt.U, Pt.locs, Pt.cells, Pt.slots] at X319 l319 y319 z319 st319 hQ319
    replace X319 := own_stand X319 l319 y319 z319
    clear l319 y319 z319
    have N319q := (show _ ∧ _ ∧ _ from hQ319).1
    have hv319 := (show _ ∧ _ ∧ _ from hQ319).2.1
    have e319 := (show _ ∧ _ ∧ _ from hQ319).2.2
    clear hQ319
    subst hv319
    have N319 := Fr.app N284 N319q
    obtain ⟨la325, T325, h325, kk325, lb325, lk325, X325, e325, E325, hS325, hk325, hZ, hown, Ex325, Fc325, Fv325, V325, -, -, Cr325, Lt325, Sf325, st325⟩ := ldcCH (s := s) (vm0 := T311.vm) (EL := consts_1) X319 hx hZ hown (wd hw 82 rfl) (own_ws hw) e319 hS311 hk311 (own_ew hw) (List.mem_of_getElem? (i := 1) rfl) ch313.1 (z := (6 : Int32)) (vs := [(.int (112 : Int32)), (.int (111 : Int32)), (.int (114 : Int32)), (.int (116 : Int32)), (.int (101 : Int32)), (.int (114 : Int32))]) ⟨by decide, by rfl⟩ (by decide) rfl (g := (mkF m 238 #[.val (.int p0), .val (.int p1), .val (.int p2), .val (.int p3), .val (.long q4), .second, .val (.int (v0_1 p0 p1 p2 p3 q4 w0)), .val (.int (v0_3 p0 p1 p2 p3 q4 w0)), .val (.int (2 : Int32)), .val (.int (v0_6 p0 p1 p2 p3 q4 w0)), .val (.ref b220), .val (.ref b260), .val .null] [(.ref b260)])) rfl (hb hby at_238) (n := 24) (by decide) (by decide) (by decide) (by decide)
    have sf326 := Cr325.safe k320.lt sf312
    have ch327 := ch313.trans Cr325
    have z328 : n0 ≤ h325.size := Nat.le_trans z314 E325.1
    have hs329 : h0.size ≤ h325.size := Nat.le_trans hs315 E325.1
    have ne330 := Sf325 _ sf326
    have k331 := (k317.ext E325)
    have k332 := (k318.ext E325)
    have k334 := (k320.ext E325)
    have k335 := (k321.ext E325)
    have k336 := (k322.ext E325)
    have k337 := (k323.ext E325)
    have O338 := (O324.ext E325)
    obtain ⟨cq333, kq333, q333a, q333b, q333c⟩ := isOf hZ e325 k334
    obtain ⟨vr333, _, ⟨T333, L333, k333, n333⟩, -, X333, ⟨Lc333, hQ333, l333, y333, z333⟩, st333⟩ := Jvm.Stand.virtualBack X325 hx (y := (⟨"java/lang/String", "equals", "(Ljava/lang/Object;)Z"⟩ : MethodName)) (z := (⟨"java/lang/String", "equals", "(Ljava/lang/Object;)Z"⟩ : MethodName)) hown (mvT hZ (wd hw 73 rfl)) (mvT hZ (wd hw 74 rfl)) (notFace_of_selects (args := #[]) (mvT hZ (wd hw 76 rfl))) (mvT hZ (wd hw 76 rfl)) (mvT hZ (wd hw 75 rfl)) (by decide) (backOf (W := 0) (rmsqD l Z a0 hw [] b260 la325 xsn_0_284 (2 : Int32) ([(.int (own_b (v0_14 p0 p1 p2 p3 q4 w0))), (.int (own_b (v0_16 p0 p1 p2 p3 q4 w0)))]) ksn_1_284 lb325 (6 : Int32) ([(.int (112 : Int32)), (.int (111 : Int32)), (.int (114 : Int32)), (.int (116 : Int32)), (.int (101 : Int32)), (.int (114 : Int32))]) lk325 w0 h325 n0 z328 k334 k335 k336 k337 Ex325 Fc325 Fv325 V325 ne330.1 (Sta.ext O338.2 S_String_COMPACT_STRINGS) hcs (by decide)) hZ (wd hw 77 rfl) (wd hw 10 rfl) (by decide) (by decide)) q333a q333c (g := (mkF m 240 #[.val (.int p0), .val (.int p1), .val (.int p2), .val (.int p3), .val (.long q4), .second, .val (.int (v0_1 p0 p1 p2 p3 q4 w0)), .val (.int (v0_3 p0 p1 p2 p3 q4 w0)), .val (.int (2 : Int32)), .val (.int (v0_6 p0 p1 p2 p3 q4 w0)), .val (.ref b220), .val (.ref b260), .val .null] [(.ref la325), (.ref b260)])) rfl (by rw [hml]; rfl) (Steps.refl _) (argsL := [(.ref la325)]) (rest := []) (lenOf pd__Ljava_lang_Object__Z rfl) rfl (by show 2 * 0 + _ ≤ _; exact Nat.le_of_eq rfl) (hb hby at_240) (fun _ _ => ⟨rfl, e325, (by decide : 11 + 0 ≤ _), (by decide : 112 + 0 ≤ _)⟩)
    dsimp only [Pt.U, Pt.locs, Pt.cells, Pt.slots] at X333 l333 y333 z333 st333 hQ333
    replace X333 := own_stand X333 l333 y333 z333
    clear l333 y333 z333
    have N333q := (show _ ∧ _ ∧ _ from hQ333).1
    have hv333 := (show _ ∧ _ ∧ _ from hQ333).2.1
    have e333 := (show _ ∧ _ ∧ _ from hQ333).2.2
    clear hQ333
    subst hv333
    have N333 := Fr.app N319 N333q
    have k340 := (((k287.keep K284).ext E311).ext E325)
    have k341 := (((k289.keep K284).ext E311).ext E325)
    have k342 := (((k291.keep K284).ext E311).ext E325)
    have k343 := (((((((((F_label_w3_N.ext E220).keep K234 nin0).other W242 (Or.inl ne222)).keep K247 nin0).other W255 (Or.inl ne222)).ext E260).keep K284 (ninS ne264 nin0)).ext E311).ext E325)
    have k344 := (((((((((F_label_w4_P.ext E220).keep K234 nin0).other W242 (Or.inl ne223)).keep K247 nin0).other W255 (Or.inl ne223)).ext E260).keep K284 (ninS ne266 nin0)).ext E311).ext E325)
    have k345 := (((k293.keep K284).ext E311).ext E325)
    have k346 := (((((((((F_coder_w5_L.ext E220).keep K234 nin0).other W242 (Or.inl ne224)).keep K247 nin0).other W255 (Or.inl ne224)).ext E260).keep K284 (ninS ne268 nin0)).ext E311).ext E325)
    have k347 := (((((((((F_value_w5_L.ext E220).keep K234 nin0).other W242 (Or.inl ne224)).keep K247 nin0).other W255 (Or.inl ne224)).ext E260).keep K284 (ninS ne268 nin0)).ext E311).ext E325)
    have k348 := (((k300.keep K284 (ninS ne274 nin0)).ext E311).ext E325)
    have k349 := (((k295.keep K284).ext E311).ext E325)
    have k350 := (((((((((F_coder_w6_L.ext E220).keep K234 nin0).other W242 (Or.inl ne225)).keep K247 nin0).other W255 (Or.inl ne225)).ext E260).keep K284 (ninS ne270 nin0)).ext E311).ext E325)
    have k351 := (((((((((F_value_w6_L.ext E220).keep K234 nin0).other W242 (Or.inl ne225)).keep K247 nin0).other W255 (Or.inl ne225)).ext E260).keep K284 (ninS ne270 nin0)).ext E311).ext E325)
    have k352 := (((k302.keep K284 (ninS ne276 nin0)).ext E311).ext E325)
    obtain ⟨vr339, _, ⟨T339, L339, k339, n339⟩, -, X339, ⟨Lc339, hQ339, l339, y339, z339⟩, st339⟩ := Jvm.LawKit.callS X333 hx (y := (⟨"com/example/vellum_index/vellumindex/Stemmer", "labelled", "(Ljava/lang/String;)Lcom/example/vellum_index/vellumindex/Stemmer;"⟩ : MethodName)) hown (mvT hZ (wd hw 83 rfl)) (mvT hZ (wd hw 84 rfl)) (mvT hZ (wd hw 85 rfl)) (mvT hZ (wd hw 86 rfl)) (by decide) (backOf (W := 0) (rmlbD l Z a0 hw [] b260 w2_V w3_N w4_P kV w5_L w6_L w7_B kB0 w8_B kB1 xsn_0_284 (2 : Int32) ([(.int (own_b (v0_14 p0 p1 p2 p3 q4 w0))), (.int (own_b (v0_16 p0 p1 p2 p3 q4 w0)))]) ksn_1_284 w0 h325 n0 z328 (Sta.ext O338.2 S_Stemmer__VALUES) k331 k340 k341 k342 k343 k344 k345 k346 k347 k348 k349 k350 k351 k352 k334 k335 k336 k337 ne268 ne270 (Sta.ext O338.2 S_String_COMPACT_STRINGS) hcs (by decide) (by decide)) hZ (wd hw 86 rfl) (wd hw 85 rfl) (by decide) (by decide)) (g := (mkF m 253 #[.val (.int p0), .val (.int p1), .val (.int p2), .val (.int p3), .val (.long q4), .second, .val (.int (v0_1 p0 p1 p2 p3 q4 w0)), .val (.int (v0_3 p0 p1 p2 p3 q4 w0)), .val (.int (2 : Int32)), .val (.int (v0_6 p0 p1 p2 p3 q4 w0)), .val (.ref b220), .val (.ref b260), .val .null] [(.ref b260)])) rfl (by rw [hml]; rfl) (argsL := [(.ref b260)]) (rest := []) (lenOf pd_h53915 rfl) rfl (by show 2 * 0 + _ ≤ _; exact Nat.le_of_eq rfl) (hb hby at_253) (fun _ _ => ⟨rfl, e333, (by decide : 11 + 1 ≤ _), (by decide : 112 + 2 ≤ _)⟩)
    dsimp only [Pt.U, Pt.locs, Pt.cells, Pt.slots] at X339 l339 y339 z339 st339 hQ339
    replace X339 := own_stand X339 l339 y339 z339
    clear l339 y339 z339
    have N339q := (show _ ∧ _ from hQ339).1
    have hq339 := (show _ ∧ _ from hQ339).2
    clear hQ339
    have hv339 := hq339.1
    have K339 := hq339.2
    clear hq339
    subst hv339
    have sf354 := Safe.keep K339 sf0 ch327.1 sf326
    have ch353 := ch327.trans (CHr.keep K339 sf0 ch327.1)
    have z355 : n0 ≤ T339.heap.size := Nat.le_trans z328 K339.1
    have hs356 : h0.size ≤ T339.heap.size := Nat.le_trans hs329 K339.1
    have hk357 := Nat.le_trans hk325 K339.1
    have N339 := Fr.app N333 N339q
    obtain ⟨fs, hr, hrun, hended, hRW⟩ := Jvm.Stand.leaveW (s := s) (vm₁ := T325.vm) X339 hS325 hk357 (v := some (.int (1 : Int32))) (fun h => by rw [Bd.returns] at h; cases h) hlk
    refine ⟨_, _, pre4 _ ?_, hrun, hended, _, _, rfl, ?_, hRW.1, hRW.2.1, hRW.2.2.1, hRW.2.2.2.mono (by decide) (by decide)⟩
    · skip
      show Steps p.tables e below (s₁.setTop (mkF m 35 #[.val (.int p0), .val (.int p1), .val (.int p2), .val (.int p3), .val (.long q4), .second, .val (.int (v0_1 p0 p1 p2 p3 q4 w0)), .val (.int (v0_3 p0 p1 p2 p3 q4 w0)), .val (.int (2 : Int32)), .val (.int (v0_6 p0 p1 p2 p3 q4 w0)), .unset, .unset, .unset] [])) _
      refine XS.iload X0.here hx rfl (hb hby at_35) rfl ?_
      show Steps p.tables e below (s₁.setTop (mkF m 37 #[.val (.int p0), .val (.int p1), .val (.int p2), .val (.int p3), .val (.long q4), .second, .val (.int (v0_1 p0 p1 p2 p3 q4 w0)), .val (.int (v0_3 p0 p1 p2 p3 q4 w0)), .val (.int (2 : Int32)), .val (.int (v0_6 p0 p1 p2 p3 q4 w0)), .unset, .unset, .unset] [(.int (2 : Int32))])) _
      refine st220 _ ?_
      refine XS.astore X220.here hx rfl (hb hby at_39) rfl rfl (l' := #[.val (.int p0), .val (.int p1), .val (.int p2), .val (.int p3), .val (.long q4), .second, .val (.int (v0_1 p0 p1 p2 p3 q4 w0)), .val (.int (v0_3 p0 p1 p2 p3 q4 w0)), .val (.int (2 : Int32)), .val (.int (v0_6 p0 p1 p2 p3 q4 w0)), .val (.ref b220), .unset, .unset]) rfl ?_
      refine XS.iload X220.here hx rfl (hb hby at_41) rfl ?_
      show Steps p.tables e below (T220.setTop (mkF m 43 #[.val (.int p0), .val (.int p1), .val (.int p2), .val (.int p3), .val (.long q4), .second, .val (.int (v0_1 p0 p1 p2 p3 q4 w0)), .val (.int (v0_3 p0 p1 p2 p3 q4 w0)), .val (.int (2 : Int32)), .val (.int (v0_6 p0 p1 p2 p3 q4 w0)), .val (.ref b220), .unset, .unset] [(.int (2 : Int32))])) _
      refine XS.ifNo X220.here hx rfl (hb hby at_43) rfl (XT.i0_le_f (by decide)) ?_
      refine XS.aload X220.here hx rfl (hb hby at_46) rfl rfl ?_
      refine XT.iconstV X220.here hx rfl (0 : Int32) (hb hby at_48) (by decide) ?_
      refine XS.iload X220.here hx rfl (hb hby at_49) rfl ?_
      show Steps p.tables e below (T220.setTop (mkF m 51 #[.val (.int p0), .val (.int p1), .val (.int p2), .val (.int p3), .val (.long q4), .second, .val (.int (v0_1 p0 p1 p2 p3 q4 w0)), .val (.int (v0_3 p0 p1 p2 p3 q4 w0)), .val (.int (2 : Int32)), .val (.int (v0_6 p0 p1 p2 p3 q4 w0)), .val (.ref b220), .unset, .unset] [(.int (v0_1 p0 p1 p2 p3 q4 w0)), (.int (0 : Int32)), (.ref b220)])) _
      refine XT.iconstV X220.here hx rfl (0 : Int32) (hb hby at_51) (by decide) ?_
      refine XT.lload X220.here hx rfl (hb hby at_52) rfl ?_
      refine XS.iload X220.here hx rfl (hb hby at_54) rfl ?_
      refine XS.iload X220.here hx rfl (hb hby at_56) rfl ?_
      show Steps p.tables e below (T220.setTop (mkF m 58 #[.val (.int p0), .val (.int p1), .val (.int p2), .val (.int p3), .val (.long q4), .second, .val (.int (v0_1 p0 p1 p2 p3 q4 w0)), .val (.int (v0_3 p0 p1 p2 p3 q4 w0)), .val (.int (2 : Int32)), .val (.int (v0_6 p0 p1 p2 p3 q4 w0)), .val (.ref b220), .unset, .unset] [(.int (v0_6 p0 p1 p2 p3 q4 w0)), (.int (v0_3 p0 p1 p2 p3 q4 w0)), (.long q4), (.int (0 : Int32)), (.int (v0_1 p0 p1 p2 p3 q4 w0)), (.int (0 : Int32)), (.ref b220)])) _
      refine XS.iloadN X220.here hx rfl (hb hby at_58) rfl ?_
      show Steps p.tables e below (T220.setTop (mkF m 59 #[.val (.int p0), .val (.int p1), .val (.int p2), .val (.int p3), .val (.long q4), .second, .val (.int (v0_1 p0 p1 p2 p3 q4 w0)), .val (.int (v0_3 p0 p1 p2 p3 q4 w0)), .val (.int (2 : Int32)), .val (.int (v0_6 p0 p1 p2 p3 q4 w0)), .val (.ref b220), .unset, .unset] [(.int p3), (.int (v0_6 p0 p1 p2 p3 q4 w0)), (.int (v0_3 p0 p1 p2 p3 q4 w0)), (.long q4), (.int (0 : Int32)), (.int (v0_1 p0 p1 p2 p3 q4 w0)), (.int (0 : Int32)), (.ref b220)])) _
      refine st234.trans ?_
      show Steps p.tables e below (T234.setTop (mkF m 62 #[.val (.int p0), .val (.int p1), .val (.int p2), .val (.int p3), .val (.long q4), .second, .val (.int (v0_1 p0 p1 p2 p3 q4 w0)), .val (.int (v0_3 p0 p1 p2 p3 q4 w0)), .val (.int (2 : Int32)), .val (.int (v0_6 p0 p1 p2 p3 q4 w0)), .val (.ref b220), .unset, .unset] [(.int (f1 (v0_1 p0 p1 p2 p3 q4 w0) (0 : Int32) q4 (v0_3 p0 p1 p2 p3 q4 w0) (v0_6 p0 p1 p2 p3 q4 w0) p3 w0)), (.int (0 : Int32)), (.ref b220)])) _
      refine st242 _ ?_
      refine XS.iload X242.here hx rfl (hb hby at_63) rfl ?_
      refine XT.iconstV X242.here hx rfl (1 : Int32) (hb hby at_65) (by decide) ?_
      show Steps p.tables e below (T242.setTop (mkF m 66 #[.val (.int p0), .val (.int p1), .val (.int p2), .val (.int p3), .val (.long q4), .second, .val (.int (v0_1 p0 p1 p2 p3 q4 w0)), .val (.int (v0_3 p0 p1 p2 p3 q4 w0)), .val (.int (2 : Int32)), .val (.int (v0_6 p0 p1 p2 p3 q4 w0)), .val (.ref b220), .unset, .unset] [(.int (1 : Int32)), (.int (2 : Int32))])) _
      refine XS.icmpNo X242.here hx rfl (hb hby at_66) rfl (XT.ii_le_f (by decide)) ?_
      refine XS.aload X242.here hx rfl (hb hby at_69) rfl rfl ?_
      refine XT.iconstV X242.here hx rfl (1 : Int32) (hb hby at_71) (by decide) ?_
      refine XS.iload X242.here hx rfl (hb hby at_72) rfl ?_
      show Steps p.tables e below (T242.setTop (mkF m 74 #[.val (.int p0), .val (.int p1), .val (.int p2), .val (.int p3), .val (.long q4), .second, .val (.int (v0_1 p0 p1 p2 p3 q4 w0)), .val (.int (v0_3 p0 p1 p2 p3 q4 w0)), .val (.int (2 : Int32)), .val (.int (v0_6 p0 p1 p2 p3 q4 w0)), .val (.ref b220), .unset, .unset] [(.int (v0_1 p0 p1 p2 p3 q4 w0)), (.int (1 : Int32)), (.ref b220)])) _
      refine XT.iconstV X242.here hx rfl (1 : Int32) (hb hby at_74) (by decide) ?_
      refine XT.lload X242.here hx rfl (hb hby at_75) rfl ?_
      refine XS.iload X242.here hx rfl (hb hby at_77) rfl ?_
      refine XS.iload X242.here hx rfl (hb hby at_79) rfl ?_
      show Steps p.tables e below (T242.setTop (mkF m 81 #[.val (.int p0), .val (.int p1), .val (.int p2), .val (.int p3), .val (.long q4), .second, .val (.int (v0_1 p0 p1 p2 p3 q4 w0)), .val (.int (v0_3 p0 p1 p2 p3 q4 w0)), .val (.int (2 : Int32)), .val (.int (v0_6 p0 p1 p2 p3 q4 w0)), .val (.ref b220), .unset, .unset] [(.int (v0_6 p0 p1 p2 p3 q4 w0)), (.int (v0_3 p0 p1 p2 p3 q4 w0)), (.long q4), (.int (1 : Int32)), (.int (v0_1 p0 p1 p2 p3 q4 w0)), (.int (1 : Int32)), (.ref b220)])) _
      refine XS.iloadN X242.here hx rfl (hb hby at_81) rfl ?_
      show Steps p.tables e below (T242.setTop (mkF m 82 #[.val (.int p0), .val (.int p1), .val (.int p2), .val (.int p3), .val (.long q4), .second, .val (.int (v0_1 p0 p1 p2 p3 q4 w0)), .val (.int (v0_3 p0 p1 p2 p3 q4 w0)), .val (.int (2 : Int32)), .val (.int (v0_6 p0 p1 p2 p3 q4 w0)), .val (.ref b220), .unset, .unset] [(.int p3), (.int (v0_6 p0 p1 p2 p3 q4 w0)), (.int (v0_3 p0 p1 p2 p3 q4 w0)), (.long q4), (.int (1 : Int32)), (.int (v0_1 p0 p1 p2 p3 q4 w0)), (.int (1 : Int32)), (.ref b220)])) _
      refine st247.trans ?_
      show Steps p.tables e below (T247.setTop (mkF m 85 #[.val (.int p0), .val (.int p1), .val (.int p2), .val (.int p3), .val (.long q4), .second, .val (.int (v0_1 p0 p1 p2 p3 q4 w0)), .val (.int (v0_3 p0 p1 p2 p3 q4 w0)), .val (.int (2 : Int32)), .val (.int (v0_6 p0 p1 p2 p3 q4 w0)), .val (.ref b220), .unset, .unset] [(.int (f1 (v0_1 p0 p1 p2 p3 q4 w0) (1 : Int32) q4 (v0_3 p0 p1 p2 p3 q4 w0) (v0_6 p0 p1 p2 p3 q4 w0) p3 w0)), (.int (1 : Int32)), (.ref b220)])) _
      refine st255 _ ?_
      refine XS.iload X255.here hx rfl (hb hby at_86) rfl ?_
      refine XT.iconstV X255.here hx rfl (2 : Int32) (hb hby at_88) (by decide) ?_
      show Steps p.tables e below (T255.setTop (mkF m 89 #[.val (.int p0), .val (.int p1), .val (.int p2), .val (.int p3), .val (.long q4), .second, .val (.int (v0_1 p0 p1 p2 p3 q4 w0)), .val (.int (v0_3 p0 p1 p2 p3 q4 w0)), .val (.int (2 : Int32)), .val (.int (v0_6 p0 p1 p2 p3 q4 w0)), .val (.ref b220), .unset, .unset] [(.int (2 : Int32)), (.int (2 : Int32))])) _
      refine XS.icmpYes X255.here hx rfl (pc0 := 89) (pc' := 109) rfl (hb hby at_89) rfl (XT.ii_le_t (by decide)) (by decide) (by decide) ?_
      refine XS.iload X255.here hx rfl (hb hby at_109) rfl ?_
      refine XT.iconstV X255.here hx rfl (3 : Int32) (hb hby at_111) (by decide) ?_
      show Steps p.tables e below (T255.setTop (mkF m 112 #[.val (.int p0), .val (.int p1), .val (.int p2), .val (.int p3), .val (.long q4), .second, .val (.int (v0_1 p0 p1 p2 p3 q4 w0)), .val (.int (v0_3 p0 p1 p2 p3 q4 w0)), .val (.int (2 : Int32)), .val (.int (v0_6 p0 p1 p2 p3 q4 w0)), .val (.ref b220), .unset, .unset] [(.int (3 : Int32)), (.int (2 : Int32))])) _
      refine XS.icmpYes X255.here hx rfl (pc0 := 112) (pc' := 132) rfl (hb hby at_112) rfl (XT.ii_le_t (by decide)) (by decide) (by decide) ?_
      refine XS.iload X255.here hx rfl (hb hby at_132) rfl ?_
      refine XT.iconstV X255.here hx rfl (4 : Int32) (hb hby at_134) (by decide) ?_
      show Steps p.tables e below (T255.setTop (mkF m 135 #[.val (.int p0), .val (.int p1), .val (.int p2), .val (.int p3), .val (.long q4), .second, .val (.int (v0_1 p0 p1 p2 p3 q4 w0)), .val (.int (v0_3 p0 p1 p2 p3 q4 w0)), .val (.int (2 : Int32)), .val (.int (v0_6 p0 p1 p2 p3 q4 w0)), .val (.ref b220), .unset, .unset] [(.int (4 : Int32)), (.int (2 : Int32))])) _
      refine XS.icmpYes X255.here hx rfl (pc0 := 135) (pc' := 155) rfl (hb hby at_135) rfl (XT.ii_le_t (by decide)) (by decide) (by decide) ?_
      refine XS.iload X255.here hx rfl (hb hby at_155) rfl ?_
      refine XT.iconstV X255.here hx rfl (5 : Int32) (hb hby at_157) (by decide) ?_
      show Steps p.tables e below (T255.setTop (mkF m 158 #[.val (.int p0), .val (.int p1), .val (.int p2), .val (.int p3), .val (.long q4), .second, .val (.int (v0_1 p0 p1 p2 p3 q4 w0)), .val (.int (v0_3 p0 p1 p2 p3 q4 w0)), .val (.int (2 : Int32)), .val (.int (v0_6 p0 p1 p2 p3 q4 w0)), .val (.ref b220), .unset, .unset] [(.int (5 : Int32)), (.int (2 : Int32))])) _
      refine XS.icmpYes X255.here hx rfl (pc0 := 158) (pc' := 178) rfl (hb hby at_158) rfl (XT.ii_le_t (by decide)) (by decide) (by decide) ?_
      refine XS.iload X255.here hx rfl (hb hby at_178) rfl ?_
      refine XT.bipushV X255.here hx rfl (6 : Int32) (hb hby at_180) (by decide) ?_
      show Steps p.tables e below (T255.setTop (mkF m 182 #[.val (.int p0), .val (.int p1), .val (.int p2), .val (.int p3), .val (.long q4), .second, .val (.int (v0_1 p0 p1 p2 p3 q4 w0)), .val (.int (v0_3 p0 p1 p2 p3 q4 w0)), .val (.int (2 : Int32)), .val (.int (v0_6 p0 p1 p2 p3 q4 w0)), .val (.ref b220), .unset, .unset] [(.int (6 : Int32)), (.int (2 : Int32))])) _
      refine XS.icmpYes X255.here hx rfl (pc0 := 182) (pc' := 204) rfl (hb hby at_182) rfl (XT.ii_le_t (by decide)) (by decide) (by decide) ?_
      show Steps p.tables e below (T255.setTop (mkF m 204 #[.val (.int p0), .val (.int p1), .val (.int p2), .val (.int p3), .val (.long q4), .second, .val (.int (v0_1 p0 p1 p2 p3 q4 w0)), .val (.int (v0_3 p0 p1 p2 p3 q4 w0)), .val (.int (2 : Int32)), .val (.int (v0_6 p0 p1 p2 p3 q4 w0)), .val (.ref b220), .unset, .unset] [])) _
      refine st260 _ ?_
      refine XS.dup X260.here hx rfl (hb hby at_207) rfl rfl ?_
      refine XS.aload X260.here hx rfl (hb hby at_208) rfl rfl ?_
      show Steps p.tables e below (T260.setTop (mkF m 210 #[.val (.int p0), .val (.int p1), .val (.int p2), .val (.int p3), .val (.long q4), .second, .val (.int (v0_1 p0 p1 p2 p3 q4 w0)), .val (.int (v0_3 p0 p1 p2 p3 q4 w0)), .val (.int (2 : Int32)), .val (.int (v0_6 p0 p1 p2 p3 q4 w0)), .val (.ref b220), .unset, .unset] [(.ref b220), (.ref b260), (.ref b260)])) _
      refine st284.trans ?_
      refine XS.astore X284.here hx rfl (hb hby at_213) rfl rfl (l' := #[.val (.int p0), .val (.int p1), .val (.int p2), .val (.int p3), .val (.long q4), .second, .val (.int (v0_1 p0 p1 p2 p3 q4 w0)), .val (.int (v0_3 p0 p1 p2 p3 q4 w0)), .val (.int (2 : Int32)), .val (.int (v0_6 p0 p1 p2 p3 q4 w0)), .val (.ref b220), .val (.ref b260), .unset]) rfl ?_
      show Steps p.tables e below (T284.setTop (mkF m 215 #[.val (.int p0), .val (.int p1), .val (.int p2), .val (.int p3), .val (.long q4), .second, .val (.int (v0_1 p0 p1 p2 p3 q4 w0)), .val (.int (v0_3 p0 p1 p2 p3 q4 w0)), .val (.int (2 : Int32)), .val (.int (v0_6 p0 p1 p2 p3 q4 w0)), .val (.ref b220), .val (.ref b260), .unset] [])) _
      refine XS.aconstNull X284.here hx rfl (hb hby at_215) ?_
      refine XS.astore X284.here hx rfl (hb hby at_216) rfl rfl (l' := #[.val (.int p0), .val (.int p1), .val (.int p2), .val (.int p3), .val (.long q4), .second, .val (.int (v0_1 p0 p1 p2 p3 q4 w0)), .val (.int (v0_3 p0 p1 p2 p3 q4 w0)), .val (.int (2 : Int32)), .val (.int (v0_6 p0 p1 p2 p3 q4 w0)), .val (.ref b220), .val (.ref b260), .val .null]) rfl ?_
      refine XS.aload X284.here hx rfl (hb hby at_218) rfl rfl ?_
      show Steps p.tables e below (T284.setTop (mkF m 220 #[.val (.int p0), .val (.int p1), .val (.int p2), .val (.int p3), .val (.long q4), .second, .val (.int (v0_1 p0 p1 p2 p3 q4 w0)), .val (.int (v0_3 p0 p1 p2 p3 q4 w0)), .val (.int (2 : Int32)), .val (.int (v0_6 p0 p1 p2 p3 q4 w0)), .val (.ref b220), .val (.ref b260), .val .null] [(.ref b260)])) _
      refine st311 _ ?_
      show Steps p.tables e below (T311.setTop (mkF m 222 #[.val (.int p0), .val (.int p1), .val (.int p2), .val (.int p3), .val (.long q4), .second, .val (.int (v0_1 p0 p1 p2 p3 q4 w0)), .val (.int (v0_3 p0 p1 p2 p3 q4 w0)), .val (.int (2 : Int32)), .val (.int (v0_6 p0 p1 p2 p3 q4 w0)), .val (.ref b220), .val (.ref b260), .val .null] [(.ref la311), (.ref b260)])) _
      refine st319.trans ?_
      show Steps p.tables e below (T319.setTop (mkF m 225 #[.val (.int p0), .val (.int p1), .val (.int p2), .val (.int p3), .val (.long q4), .second, .val (.int (v0_1 p0 p1 p2 p3 q4 w0)), .val (.int (v0_3 p0 p1 p2 p3 q4 w0)), .val (.int (2 : Int32)), .val (.int (v0_6 p0 p1 p2 p3 q4 w0)), .val (.ref b220), .val (.ref b260), .val .null] [(.int (fsqD (2 : Int32) (4 : Int32) w0))])) _
      refine XS.ifYes X319.here hx rfl (pc0 := 225) (pc' := 236) rfl (hb hby at_225) rfl (XT.i0_eq_t rfl) (by decide) (by decide) ?_
      refine XS.aload X319.here hx rfl (hb hby at_236) rfl rfl ?_
      show Steps p.tables e below (T319.setTop (mkF m 238 #[.val (.int p0), .val (.int p1), .val (.int p2), .val (.int p3), .val (.long q4), .second, .val (.int (v0_1 p0 p1 p2 p3 q4 w0)), .val (.int (v0_3 p0 p1 p2 p3 q4 w0)), .val (.int (2 : Int32)), .val (.int (v0_6 p0 p1 p2 p3 q4 w0)), .val (.ref b220), .val (.ref b260), .val .null] [(.ref b260)])) _
      refine st325 _ ?_
      show Steps p.tables e below (T325.setTop (mkF m 240 #[.val (.int p0), .val (.int p1), .val (.int p2), .val (.int p3), .val (.long q4), .second, .val (.int (v0_1 p0 p1 p2 p3 q4 w0)), .val (.int (v0_3 p0 p1 p2 p3 q4 w0)), .val (.int (2 : Int32)), .val (.int (v0_6 p0 p1 p2 p3 q4 w0)), .val (.ref b220), .val (.ref b260), .val .null] [(.ref la325), (.ref b260)])) _
      refine st333.trans ?_
      show Steps p.tables e below (T333.setTop (mkF m 243 #[.val (.int p0), .val (.int p1), .val (.int p2), .val (.int p3), .val (.long q4), .second, .val (.int (v0_1 p0 p1 p2 p3 q4 w0)), .val (.int (v0_3 p0 p1 p2 p3 q4 w0)), .val (.int (2 : Int32)), .val (.int (v0_6 p0 p1 p2 p3 q4 w0)), .val (.ref b220), .val (.ref b260), .val .null] [(.int (fsqD (2 : Int32) (6 : Int32) w0))])) _
      refine XS.ifYes X333.here hx rfl (pc0 := 243) (pc' := 251) rfl (hb hby at_243) rfl (XT.i0_eq_t rfl) (by decide) (by decide) ?_
      refine XS.aload X333.here hx rfl (hb hby at_251) rfl rfl ?_
      show Steps p.tables e below (T333.setTop (mkF m 253 #[.val (.int p0), .val (.int p1), .val (.int p2), .val (.int p3), .val (.long q4), .second, .val (.int (v0_1 p0 p1 p2 p3 q4 w0)), .val (.int (v0_3 p0 p1 p2 p3 q4 w0)), .val (.int (2 : Int32)), .val (.int (v0_6 p0 p1 p2 p3 q4 w0)), .val (.ref b220), .val (.ref b260), .val .null] [(.ref b260)])) _
      refine st339 _ ?_
      refine XS.aload X339.here hx rfl (hb hby at_256) rfl rfl ?_
      show Steps p.tables e below (T339.setTop (mkF m 258 #[.val (.int p0), .val (.int p1), .val (.int p2), .val (.int p3), .val (.long q4), .second, .val (.int (v0_1 p0 p1 p2 p3 q4 w0)), .val (.int (v0_3 p0 p1 p2 p3 q4 w0)), .val (.int (2 : Int32)), .val (.int (v0_6 p0 p1 p2 p3 q4 w0)), .val (.ref b220), .val (.ref b260), .val .null] [.null, .null])) _
      refine XT.acmpNo X339.here hx rfl (hb hby at_258) rfl rfl rfl (XT.aa_ne_f rfl) ?_
      refine XT.iconstV X339.here hx rfl (1 : Int32) (hb hby at_261) (by decide) ?_
      show Steps p.tables e below (T339.setTop (mkF m 262 #[.val (.int p0), .val (.int p1), .val (.int p2), .val (.int p3), .val (.long q4), .second, .val (.int (v0_1 p0 p1 p2 p3 q4 w0)), .val (.int (v0_3 p0 p1 p2 p3 q4 w0)), .val (.int (2 : Int32)), .val (.int (v0_6 p0 p1 p2 p3 q4 w0)), .val (.ref b220), .val (.ref b260), .val .null] [(.int (1 : Int32))])) _
      refine XS.goto X339.here hx rfl (pc0 := 262) (pc' := 266) rfl (hb hby at_262) (by decide) (by decide) ?_
      show Steps p.tables e below (T339.setTop (mkF m 266 #[.val (.int p0), .val (.int p1), .val (.int p2), .val (.int p3), .val (.long q4), .second, .val (.int (v0_1 p0 p1 p2 p3 q4 w0)), .val (.int (v0_3 p0 p1 p2 p3 q4 w0)), .val (.int (2 : Int32)), .val (.int (v0_6 p0 p1 p2 p3 q4 w0)), .val (.ref b220), .val (.ref b260), .val .null] [(.int (1 : Int32))])) _
      exact retN X339 hx (t := .boolean) Bd.returns (by simp) (hb hby at_266) hr
    · skip
      show Q0 Z p0 p1 p2 p3 q4 w0 u1_SF w2_V w3_N w4_P kV w5_L w6_L w7_B kB0 w8_B kB1 h0 n0 _ T339.heap _
      exact ⟨rfl, N339⟩
  · skip
    rw [show (v0_4 p0 p1 p2 p3 q4 w0) = (3 : Int32) from cn] at pre4
    obtain ⟨T358, h358, k358, X358, e358, E358, A358, EA358, st358⟩ := newPE X0 hx hZ (wd hw 1 rfl) e0 (g := (mkF m 37 #[.val (.int p0), .val (.int p1), .val (.int p2), .val (.int p3), .val (.long q4), .second, .val (.int (v0_1 p0 p1 p2 p3 q4 w0)), .val (.int (v0_3 p0 p1 p2 p3 q4 w0)), .val (.int (3 : Int32)), .val (.int (v0_6 p0 p1 p2 p3 q4 w0)), .unset, .unset, .unset] [(.int (3 : Int32))])) rfl (hb hby at_37) rfl (by decide) (cap := 3) (by decide) (by decide) (by decide) (by decide) (ad := "[C") rfl
    obtain ⟨b358, gz358⟩ : ∃ z, z = h0.size := ⟨_, rfl⟩
    rw [← gz358] at A358 EA358 st358
    have ne359 : w2_V ≠ b358 := Nat.ne_of_lt (Nat.lt_of_lt_of_le E_w2_V.lt (Nat.le_of_eq gz358.symm))
    have ne360 : w3_N ≠ b358 := Nat.ne_of_lt (Nat.lt_of_lt_of_le E_w3_N.lt (Nat.le_of_eq gz358.symm))
    have ne361 : w4_P ≠ b358 := Nat.ne_of_lt (Nat.lt_of_lt_of_le E_w4_P.lt (Nat.le_of_eq gz358.symm))
    have ne362 : w5_L ≠ b358 := Nat.ne_of_lt (Nat.lt_of_lt_of_le E_w5_L.lt (Nat.le_of_eq gz358.symm))
    have ne363 : w6_L ≠ b358 := Nat.ne_of_lt (Nat.lt_of_lt_of_le E_w6_L.lt (Nat.le_of_eq gz358.symm))
    have ne364 : w7_B ≠ b358 := Nat.ne_of_lt (Nat.lt_of_lt_of_le V_w7_B.lt (Nat.le_of_eq gz358.symm))
    have ne365 : w8_B ≠ b358 := Nat.ne_of_lt (Nat.lt_of_lt_of_le V_w8_B.lt (Nat.le_of_eq gz358.symm))
    have g366 : n0 ≤ b358 := Nat.le_trans Z0 (Nat.le_of_eq gz358.symm)
    have sz367 : h0.size ≤ b358 := Nat.le_trans (Nat.le_refl h0.size) (Nat.le_of_eq gz358.symm)
    have ch368 := ch0.trans (CHr.ext E358 ch0.1)
    have z369 : n0 ≤ h358.size := Nat.le_trans Z0 E358.1
    have hs370 : h0.size ≤ h358.size := Nat.le_trans (Nat.le_refl h0.size) E358.1
    have hk371 := Nat.le_trans (Nat.le_refl _) E358.1
    have V358 : Arv Z h358 b358 k358 .char (3 : Int32) [(.int (0 : Int32)), (.int (0 : Int32)), (.int (0 : Int32))] (.int (0 : Int32)) := (Arv.new A358 (by decide)).pad (pad_rep [] (.int (0 : Int32)) 3)
    have O373 := (O0.ext E358)
    obtain ⟨vr372, _, ⟨T372, L372, k372, n372⟩, -, X372, hSq372, hgq372, ⟨Lc372, hQ372, l372, y372, z372, Cr372⟩, st372⟩ := Jvm.RoadKit.callSS (s := s.setVm s.vm) X358 hx (y := (⟨"com/example/vellum_index/vellumindex/StemmerLabelledPinLaw", "at", "(IIJZII)C"⟩ : MethodName)) hown (mvT hZ (wd hw 2 rfl)) (mvT hZ (wd hw 3 rfl)) (mvT hZ (wd hw 4 rfl)) (mvT hZ (wd hw 5 rfl)) (by decide) (backOfSH (s := s ) (vm0 := s.vm) (EL := consts_1) (W := 2) (rm1 l Z a0 hw [] (v0_1 p0 p1 p2 p3 q4 w0) (0 : Int32) q4 (v0_3 p0 p1 p2 p3 q4 w0) (v0_6 p0 p1 p2 p3 q4 w0) p3 w0 u1_SF h358 n0 z369 (Sta.ext O373.2 S_String_COMPACT_STRINGS) hcs (Sta.ext O373.2 S_Preconditions_SIOOBE_FORMATTER) hu (by decide)) hZ (wd hw 5 rfl) (wd hw 4 rfl) (by decide) (by decide) (own_ew hw) ch368.1) (g := (mkF m 59 #[.val (.int p0), .val (.int p1), .val (.int p2), .val (.int p3), .val (.long q4), .second, .val (.int (v0_1 p0 p1 p2 p3 q4 w0)), .val (.int (v0_3 p0 p1 p2 p3 q4 w0)), .val (.int (3 : Int32)), .val (.int (v0_6 p0 p1 p2 p3 q4 w0)), .val (.ref b358), .unset, .unset] [(.int p3), (.int (v0_6 p0 p1 p2 p3 q4 w0)), (.int (v0_3 p0 p1 p2 p3 q4 w0)), (.long q4), (.int (0 : Int32)), (.int (v0_1 p0 p1 p2 p3 q4 w0)), (.int (0 : Int32)), (.ref b358)])) rfl (by rw [hml]; rfl) (argsL := [(.int (v0_1 p0 p1 p2 p3 q4 w0)), (.int (0 : Int32)), (.long q4), (.int (v0_3 p0 p1 p2 p3 q4 w0)), (.int (v0_6 p0 p1 p2 p3 q4 w0)), (.int p3)]) (rest := [(.int (0 : Int32)), (.ref b358)]) (lenOf pd__IIJZII_C rfl) rfl (by show 2 * 0 + _ ≤ _; exact Nat.le_of_eq rfl) (hb hby at_59) (fun _ _ => ⟨rfl, e358, (by decide : 1 + 2 ≤ _), (by decide : 3 + 28 ≤ _)⟩)
    dsimp only [Pt.U, Pt.locs, Pt.cells, Pt.slots] at X372 l372 y372 z372 st372 hQ372 hSq372 hgq372 Cr372
    obtain ⟨X372, hS372, hZ, hown⟩ := rebS (s := s) (vm0 := s.vm) (n1 := h358.size) hS0 hk371 X372 hSq372 (by rw [← e358]; exact hgq372) hZ hown
    have ch374 := ch368.trans Cr372
    replace X372 := own_stand X372 l372 y372 z372
    clear l372 y372 z372
    have N372q := (show _ ∧ _ from hQ372).1
    have hq372 := (show _ ∧ _ from hQ372).2
    clear hQ372
    have hv372 := hq372.1
    have K372 := hq372.2
    clear hq372
    subst hv372
    have z375 : n0 ≤ T372.heap.size := Nat.le_trans z369 K372.1
    have hs376 : h0.size ≤ T372.heap.size := Nat.le_trans hs370 K372.1
    have N372 := Fr.app N0 N372q
    have k377 := (V358.keep K372 nin0)
    obtain ⟨cl378, Ar378, qc378, S378, M378, Ha378, G378⟩ := id k377
    have hin379 : ¬ ((0 : Int32) < 0 ∨ cl378.slots.size ≤ ((0 : Int32)).toNatClampNeg) := inb_of S378 ⟨by decide, by decide⟩
    obtain ⟨T380, h380, X380, e380, W380, st380⟩ := stC X372 hx hZ rfl Ar378 (j := (0 : Int32)) hin379 (g := (mkF m 62 #[.val (.int p0), .val (.int p1), .val (.int p2), .val (.int p3), .val (.long q4), .second, .val (.int (v0_1 p0 p1 p2 p3 q4 w0)), .val (.int (v0_3 p0 p1 p2 p3 q4 w0)), .val (.int (3 : Int32)), .val (.int (v0_6 p0 p1 p2 p3 q4 w0)), .val (.ref b358), .unset, .unset] [(.int (f1 (v0_1 p0 p1 p2 p3 q4 w0) (0 : Int32) q4 (v0_3 p0 p1 p2 p3 q4 w0) (v0_6 p0 p1 p2 p3 q4 w0) p3 w0)), (.int (0 : Int32)), (.ref b358)])) rfl rfl (hb hby at_62)
    have V380 : Arv Z h380 b358 k358 .char (3 : Int32) [(.int (v0_20 p0 p1 p2 p3 q4 w0)), (.int (0 : Int32)), (.int (0 : Int32))] (.int (0 : Int32)) := Arv.set Ar378 qc378 S378 M378 Ha378 G378 (fits_nar_char (v0_19 p0 p1 p2 p3 q4 w0)) W380 0 rfl (Nat.le_of_ble_eq_true rfl)
    have N380 := Fr.snoc X380 N372 g366
    have ch381 := ch374.trans (CHr.wr W380 (Safe.arv hZ.alike k377 (fun q => nomatch q)) ch374.1)
    have z382 : n0 ≤ h380.size := Nat.le_trans z375 (Keep.of_wr W380).1
    have hs383 : h0.size ≤ h380.size := Nat.le_trans hs376 (Keep.of_wr W380).1
    have hk384 := Nat.le_trans (Nat.le_refl _) (Keep.of_wr W380).1
    have O386 := ((O373.keep K372 all0).wr W380 g366)
    obtain ⟨vr385, _, ⟨T385, L385, k385, n385⟩, -, X385, hSq385, hgq385, ⟨Lc385, hQ385, l385, y385, z385, Cr385⟩, st385⟩ := Jvm.RoadKit.callSS (s := s.setVm T372.vm) X380 hx (y := (⟨"com/example/vellum_index/vellumindex/StemmerLabelledPinLaw", "at", "(IIJZII)C"⟩ : MethodName)) hown (mvT hZ (wd hw 2 rfl)) (mvT hZ (wd hw 3 rfl)) (mvT hZ (wd hw 4 rfl)) (mvT hZ (wd hw 5 rfl)) (by decide) (backOfSH (s := s ) (vm0 := T372.vm) (EL := consts_1) (W := 2) (rm1 l Z a0 hw [] (v0_1 p0 p1 p2 p3 q4 w0) (1 : Int32) q4 (v0_3 p0 p1 p2 p3 q4 w0) (v0_6 p0 p1 p2 p3 q4 w0) p3 w0 u1_SF h380 n0 z382 (Sta.ext O386.2 S_String_COMPACT_STRINGS) hcs (Sta.ext O386.2 S_Preconditions_SIOOBE_FORMATTER) hu (by decide)) hZ (wd hw 5 rfl) (wd hw 4 rfl) (by decide) (by decide) (own_ew hw) ch381.1) (g := (mkF m 82 #[.val (.int p0), .val (.int p1), .val (.int p2), .val (.int p3), .val (.long q4), .second, .val (.int (v0_1 p0 p1 p2 p3 q4 w0)), .val (.int (v0_3 p0 p1 p2 p3 q4 w0)), .val (.int (3 : Int32)), .val (.int (v0_6 p0 p1 p2 p3 q4 w0)), .val (.ref b358), .unset, .unset] [(.int p3), (.int (v0_6 p0 p1 p2 p3 q4 w0)), (.int (v0_3 p0 p1 p2 p3 q4 w0)), (.long q4), (.int (1 : Int32)), (.int (v0_1 p0 p1 p2 p3 q4 w0)), (.int (1 : Int32)), (.ref b358)])) rfl (by rw [hml]; rfl) (argsL := [(.int (v0_1 p0 p1 p2 p3 q4 w0)), (.int (1 : Int32)), (.long q4), (.int (v0_3 p0 p1 p2 p3 q4 w0)), (.int (v0_6 p0 p1 p2 p3 q4 w0)), (.int p3)]) (rest := [(.int (1 : Int32)), (.ref b358)]) (lenOf pd__IIJZII_C rfl) rfl (by show 2 * 0 + _ ≤ _; exact Nat.le_of_eq rfl) (hb hby at_82) (fun _ _ => ⟨rfl, e380, (by decide : 3 + 2 ≤ _), (by decide : 31 + 28 ≤ _)⟩)
    dsimp only [Pt.U, Pt.locs, Pt.cells, Pt.slots] at X385 l385 y385 z385 st385 hQ385 hSq385 hgq385 Cr385
    obtain ⟨X385, hS385, hZ, hown⟩ := rebS (s := s) (vm0 := T372.vm) (n1 := h380.size) hS372 hk384 X385 hSq385 (by rw [← e380]; exact hgq385) hZ hown
    have ch387 := ch381.trans Cr385
    replace X385 := own_stand X385 l385 y385 z385
    clear l385 y385 z385
    have N385q := (show _ ∧ _ from hQ385).1
    have hq385 := (show _ ∧ _ from hQ385).2
    clear hQ385
    have hv385 := hq385.1
    have K385 := hq385.2
    clear hq385
    subst hv385
    have z388 : n0 ≤ T385.heap.size := Nat.le_trans z382 K385.1
    have hs389 : h0.size ≤ T385.heap.size := Nat.le_trans hs383 K385.1
    have N385 := Fr.app N380 N385q
    have k390 := (V380.keep K385 nin0)
    obtain ⟨cl391, Ar391, qc391, S391, M391, Ha391, G391⟩ := id k390
    have hin392 : ¬ ((1 : Int32) < 0 ∨ cl391.slots.size ≤ ((1 : Int32)).toNatClampNeg) := inb_of S391 ⟨by decide, by decide⟩
    obtain ⟨T393, h393, X393, e393, W393, st393⟩ := stC X385 hx hZ rfl Ar391 (j := (1 : Int32)) hin392 (g := (mkF m 85 #[.val (.int p0), .val (.int p1), .val (.int p2), .val (.int p3), .val (.long q4), .second, .val (.int (v0_1 p0 p1 p2 p3 q4 w0)), .val (.int (v0_3 p0 p1 p2 p3 q4 w0)), .val (.int (3 : Int32)), .val (.int (v0_6 p0 p1 p2 p3 q4 w0)), .val (.ref b358), .unset, .unset] [(.int (f1 (v0_1 p0 p1 p2 p3 q4 w0) (1 : Int32) q4 (v0_3 p0 p1 p2 p3 q4 w0) (v0_6 p0 p1 p2 p3 q4 w0) p3 w0)), (.int (1 : Int32)), (.ref b358)])) rfl rfl (hb hby at_85)
    have V393 : Arv Z h393 b358 k358 .char (3 : Int32) [(.int (v0_20 p0 p1 p2 p3 q4 w0)), (.int (v0_22 p0 p1 p2 p3 q4 w0)), (.int (0 : Int32))] (.int (0 : Int32)) := Arv.set Ar391 qc391 S391 M391 Ha391 G391 (fits_nar_char (v0_21 p0 p1 p2 p3 q4 w0)) W393 1 rfl (Nat.le_of_ble_eq_true rfl)
    have N393 := Fr.snoc X393 N385 g366
    have ch394 := ch387.trans (CHr.wr W393 (Safe.arv hZ.alike k390 (fun q => nomatch q)) ch387.1)
    have z395 : n0 ≤ h393.size := Nat.le_trans z388 (Keep.of_wr W393).1
    have hs396 : h0.size ≤ h393.size := Nat.le_trans hs389 (Keep.of_wr W393).1
    have hk397 := Nat.le_trans (Nat.le_refl _) (Keep.of_wr W393).1
    have O399 := ((O386.keep K385 all0).wr W393 g366)
    obtain ⟨vr398, _, ⟨T398, L398, k398, n398⟩, -, X398, hSq398, hgq398, ⟨Lc398, hQ398, l398, y398, z398, Cr398⟩, st398⟩ := Jvm.RoadKit.callSS (s := s.setVm T385.vm) X393 hx (y := (⟨"com/example/vellum_index/vellumindex/StemmerLabelledPinLaw", "at", "(IIJZII)C"⟩ : MethodName)) hown (mvT hZ (wd hw 2 rfl)) (mvT hZ (wd hw 3 rfl)) (mvT hZ (wd hw 4 rfl)) (mvT hZ (wd hw 5 rfl)) (by decide) (backOfSH (s := s ) (vm0 := T385.vm) (EL := consts_1) (W := 2) (rm1 l Z a0 hw [] (v0_1 p0 p1 p2 p3 q4 w0) (2 : Int32) q4 (v0_3 p0 p1 p2 p3 q4 w0) (v0_6 p0 p1 p2 p3 q4 w0) p3 w0 u1_SF h393 n0 z395 (Sta.ext O399.2 S_String_COMPACT_STRINGS) hcs (Sta.ext O399.2 S_Preconditions_SIOOBE_FORMATTER) hu (by decide)) hZ (wd hw 5 rfl) (wd hw 4 rfl) (by decide) (by decide) (own_ew hw) ch394.1) (g := (mkF m 105 #[.val (.int p0), .val (.int p1), .val (.int p2), .val (.int p3), .val (.long q4), .second, .val (.int (v0_1 p0 p1 p2 p3 q4 w0)), .val (.int (v0_3 p0 p1 p2 p3 q4 w0)), .val (.int (3 : Int32)), .val (.int (v0_6 p0 p1 p2 p3 q4 w0)), .val (.ref b358), .unset, .unset] [(.int p3), (.int (v0_6 p0 p1 p2 p3 q4 w0)), (.int (v0_3 p0 p1 p2 p3 q4 w0)), (.long q4), (.int (2 : Int32)), (.int (v0_1 p0 p1 p2 p3 q4 w0)), (.int (2 : Int32)), (.ref b358)])) rfl (by rw [hml]; rfl) (argsL := [(.int (v0_1 p0 p1 p2 p3 q4 w0)), (.int (2 : Int32)), (.long q4), (.int (v0_3 p0 p1 p2 p3 q4 w0)), (.int (v0_6 p0 p1 p2 p3 q4 w0)), (.int p3)]) (rest := [(.int (2 : Int32)), (.ref b358)]) (lenOf pd__IIJZII_C rfl) rfl (by show 2 * 0 + _ ≤ _; exact Nat.le_of_eq rfl) (hb hby at_105) (fun _ _ => ⟨rfl, e393, (by decide : 5 + 2 ≤ _), (by decide : 59 + 28 ≤ _)⟩)
    dsimp only [Pt.U, Pt.locs, Pt.cells, Pt.slots] at X398 l398 y398 z398 st398 hQ398 hSq398 hgq398 Cr398
    obtain ⟨X398, hS398, hZ, hown⟩ := rebS (s := s) (vm0 := T385.vm) (n1 := h393.size) hS385 hk397 X398 hSq398 (by rw [← e393]; exact hgq398) hZ hown
    have ch400 := ch394.trans Cr398
    replace X398 := own_stand X398 l398 y398 z398
    clear l398 y398 z398
    have N398q := (show _ ∧ _ from hQ398).1
    have hq398 := (show _ ∧ _ from hQ398).2
    clear hQ398
    have hv398 := hq398.1
    have K398 := hq398.2
    clear hq398
    subst hv398
    have z401 : n0 ≤ T398.heap.size := Nat.le_trans z395 K398.1
    have hs402 : h0.size ≤ T398.heap.size := Nat.le_trans hs396 K398.1
    have N398 := Fr.app N393 N398q
    have k403 := (V393.keep K398 nin0)
    obtain ⟨cl404, Ar404, qc404, S404, M404, Ha404, G404⟩ := id k403
    have hin405 : ¬ ((2 : Int32) < 0 ∨ cl404.slots.size ≤ ((2 : Int32)).toNatClampNeg) := inb_of S404 ⟨by decide, by decide⟩
    obtain ⟨T406, h406, X406, e406, W406, st406⟩ := stC X398 hx hZ rfl Ar404 (j := (2 : Int32)) hin405 (g := (mkF m 108 #[.val (.int p0), .val (.int p1), .val (.int p2), .val (.int p3), .val (.long q4), .second, .val (.int (v0_1 p0 p1 p2 p3 q4 w0)), .val (.int (v0_3 p0 p1 p2 p3 q4 w0)), .val (.int (3 : Int32)), .val (.int (v0_6 p0 p1 p2 p3 q4 w0)), .val (.ref b358), .unset, .unset] [(.int (f1 (v0_1 p0 p1 p2 p3 q4 w0) (2 : Int32) q4 (v0_3 p0 p1 p2 p3 q4 w0) (v0_6 p0 p1 p2 p3 q4 w0) p3 w0)), (.int (2 : Int32)), (.ref b358)])) rfl rfl (hb hby at_108)
    have V406 : Arv Z h406 b358 k358 .char (3 : Int32) [(.int (v0_20 p0 p1 p2 p3 q4 w0)), (.int (v0_22 p0 p1 p2 p3 q4 w0)), (.int (v0_24 p0 p1 p2 p3 q4 w0))] (.int (0 : Int32)) := Arv.set Ar404 qc404 S404 M404 Ha404 G404 (fits_nar_char (v0_23 p0 p1 p2 p3 q4 w0)) W406 2 rfl (Nat.le_of_ble_eq_true rfl)
    have N406 := Fr.snoc X406 N398 g366
    have ch407 := ch400.trans (CHr.wr W406 (Safe.arv hZ.alike k403 (fun q => nomatch q)) ch400.1)
    have z408 : n0 ≤ h406.size := Nat.le_trans z401 (Keep.of_wr W406).1
    have hs409 : h0.size ≤ h406.size := Nat.le_trans hs402 (Keep.of_wr W406).1
    have hk410 := Nat.le_trans (Nat.le_refl _) (Keep.of_wr W406).1
    obtain ⟨T411, h411, X411, e411, E411, A411, D411, -, st411⟩ := newO X406 hx hZ hown (wd hw 52 rfl) (wd hw 11 rfl) (wd hw 10 rfl) e406 (g := (mkF m 204 #[.val (.int p0), .val (.int p1), .val (.int p2), .val (.int p3), .val (.long q4), .second, .val (.int (v0_1 p0 p1 p2 p3 q4 w0)), .val (.int (v0_3 p0 p1 p2 p3 q4 w0)), .val (.int (3 : Int32)), .val (.int (v0_6 p0 p1 p2 p3 q4 w0)), .val (.ref b358), .unset, .unset] [])) rfl (hb hby at_204) (by decide) (by decide)
    obtain ⟨b411, gz411⟩ : ∃ z, z = h406.size := ⟨_, rfl⟩
    rw [← gz411] at A411 D411 st411
    have k412 := (((((((E_w2_V.ext E358).keep K372).wr W380).keep K385).wr W393).keep K398).wr W406)
    have ne413 : w2_V ≠ b411 := Nat.ne_of_lt (Nat.lt_of_lt_of_le k412.lt (Nat.le_of_eq gz411.symm))
    have k414 := (((((((E_w3_N.ext E358).keep K372).wr W380).keep K385).wr W393).keep K398).wr W406)
    have ne415 : w3_N ≠ b411 := Nat.ne_of_lt (Nat.lt_of_lt_of_le k414.lt (Nat.le_of_eq gz411.symm))
    have k416 := (((((((E_w4_P.ext E358).keep K372).wr W380).keep K385).wr W393).keep K398).wr W406)
    have ne417 : w4_P ≠ b411 := Nat.ne_of_lt (Nat.lt_of_lt_of_le k416.lt (Nat.le_of_eq gz411.symm))
    have k418 := (((((((E_w5_L.ext E358).keep K372).wr W380).keep K385).wr W393).keep K398).wr W406)
    have ne419 : w5_L ≠ b411 := Nat.ne_of_lt (Nat.lt_of_lt_of_le k418.lt (Nat.le_of_eq gz411.symm))
    have k420 := (((((((E_w6_L.ext E358).keep K372).wr W380).keep K385).wr W393).keep K398).wr W406)
    have ne421 : w6_L ≠ b411 := Nat.ne_of_lt (Nat.lt_of_lt_of_le k420.lt (Nat.le_of_eq gz411.symm))
    have k422 := ((((((EA358.keep K372).wr W380).keep K385).wr W393).keep K398).wr W406)
    have ne423 : b358 ≠ b411 := Nat.ne_of_lt (Nat.lt_of_lt_of_le k422.lt (Nat.le_of_eq gz411.symm))
    have k424 := (((((((V_w7_B.ext E358).keep K372 nin0).other W380 ne364).keep K385 nin0).other W393 ne364).keep K398 nin0).other W406 ne364)
    have ne425 : w7_B ≠ b411 := Nat.ne_of_lt (Nat.lt_of_lt_of_le k424.lt (Nat.le_of_eq gz411.symm))
    have k426 := (((((((V_w8_B.ext E358).keep K372 nin0).other W380 ne365).keep K385 nin0).other W393 ne365).keep K398 nin0).other W406 ne365)
    have ne427 : w8_B ≠ b411 := Nat.ne_of_lt (Nat.lt_of_lt_of_le k426.lt (Nat.le_of_eq gz411.symm))
    have g428 : n0 ≤ b411 := Nat.le_trans z408 (Nat.le_of_eq gz411.symm)
    have sz429 : h0.size ≤ b411 := Nat.le_trans hs409 (Nat.le_of_eq gz411.symm)
    have ch430 := ch407.trans (CHr.ext E411 ch407.1)
    have z431 : n0 ≤ h411.size := Nat.le_trans z408 E411.1
    have hs432 : h0.size ≤ h411.size := Nat.le_trans hs409 E411.1
    have hk433 := Nat.le_trans hk410 E411.1
    have sf434 := Safe.ext E411 ch407.1 (Safe.new (Z := Z) (EL := consts_1) (vm := T398.vm) (Nat.le_of_eq gz411.symm))
    have F411_value : Fld Z h411 b411 "java/lang/String" "value" "[B" .null := D411 (Or.inr (wd hw 13 rfl)) (ty := (.array .byte)) (by decide)
    have F411_coder : Fld Z h411 b411 "java/lang/String" "coder" "B" (.int (0 : Int32)) := D411 (Or.inr (wd hw 14 rfl)) (ty := .byte) (by decide)
    have k436 := (V406.ext E411)
    have O437 := (((O399.keep K398 all0).wr W406 g366).ext E411)
    obtain ⟨vr435, _, ⟨T435, L435, k435, n435⟩, -, X435, ⟨Lc435, hQ435, l435, y435, z435⟩, st435⟩ := Jvm.Stand.specialBack X411 hx (y := (⟨"java/lang/String", "<init>", "([C)V"⟩ : MethodName)) rfl hown (mvT hZ (wd hw 53 rfl)) (mvT hZ (wd hw 54 rfl)) (mvT hZ (wd hw 55 rfl)) (by decide) (own_newS (W := 1) (cs := [(v0_20 p0 p1 p2 p3 q4 w0), (v0_22 p0 p1 p2 p3 q4 w0), (v0_24 p0 p1 p2 p3 q4 w0)]) (vs := [(.int (own_b (v0_20 p0 p1 p2 p3 q4 w0))), (.int (own_b (v0_22 p0 p1 p2 p3 q4 w0))), (.int (own_b (v0_24 p0 p1 p2 p3 q4 w0)))]) (n := 3) hZ hw g428 z431 A411 F411_value F411_coder k436 (Sta.ext O437.2 S_String_COMPACT_STRINGS) hcs rfl rfl (by decide) (by decide) (own_alc (own_at _ _ _ _ _ _ _) (own_alc (own_at _ _ _ _ _ _ _) (own_alc (own_at _ _ _ _ _ _ _) own_aln))) rfl (by decide) (by decide)) (g := (mkF m 210 #[.val (.int p0), .val (.int p1), .val (.int p2), .val (.int p3), .val (.long q4), .second, .val (.int (v0_1 p0 p1 p2 p3 q4 w0)), .val (.int (v0_3 p0 p1 p2 p3 q4 w0)), .val (.int (3 : Int32)), .val (.int (v0_6 p0 p1 p2 p3 q4 w0)), .val (.ref b358), .unset, .unset] [(.ref b358), (.ref b411), (.ref b411)])) rfl (by rw [hml]; rfl) (Steps.refl _) (a := b411) (argsL := [(.ref b358)]) (rest := [(.ref b411)]) (lenOf pd___C_V rfl) rfl (by show 2 * 0 + _ ≤ _; exact Nat.le_of_eq rfl) (hb hby at_210) (fun _ _ => ⟨rfl, e411, (by decide : 8 + 1 ≤ _), (by decide : 91 + 3 ≤ _)⟩)
    dsimp only [Pt.U, Pt.locs, Pt.cells, Pt.slots] at X435 l435 y435 z435 st435 hQ435
    replace X435 := own_stand X435 l435 y435 z435
    clear l435 y435 z435
    have N435q := (show _ ∧ _ from hQ435).1
    have hq435 := (show _ ∧ _ from hQ435).2
    clear hQ435
    obtain ⟨xsn_0_435, ksn_1_435, hq435x⟩ := hq435
    have hv435 := hq435x.1
    have szxsn_0_435 := hq435x.2.1
    have K435 := hq435x.2.2.1
    have po435_0 := hq435x.2.2.2.1
    have po435_1 := hq435x.2.2.2.2.1
    have po435_2 := hq435x.2.2.2.2.2.1
    have po435_3 := hq435x.2.2.2.2.2.2
    clear hq435x
    subst hv435
    have k438 := (k412.ext E411)
    have ne439 : w2_V ≠ xsn_0_435 := Nat.ne_of_lt (Nat.lt_of_lt_of_le k438.lt szxsn_0_435)
    have k440 := (k414.ext E411)
    have ne441 : w3_N ≠ xsn_0_435 := Nat.ne_of_lt (Nat.lt_of_lt_of_le k440.lt szxsn_0_435)
    have k442 := (k416.ext E411)
    have ne443 : w4_P ≠ xsn_0_435 := Nat.ne_of_lt (Nat.lt_of_lt_of_le k442.lt szxsn_0_435)
    have k444 := (k418.ext E411)
    have ne445 : w5_L ≠ xsn_0_435 := Nat.ne_of_lt (Nat.lt_of_lt_of_le k444.lt szxsn_0_435)
    have k446 := (k420.ext E411)
    have ne447 : w6_L ≠ xsn_0_435 := Nat.ne_of_lt (Nat.lt_of_lt_of_le k446.lt szxsn_0_435)
    have k448 := (k422.ext E411)
    have ne449 : b358 ≠ xsn_0_435 := Nat.ne_of_lt (Nat.lt_of_lt_of_le k448.lt szxsn_0_435)
    have ne450 : b411 ≠ xsn_0_435 := Nat.ne_of_lt (Nat.lt_of_lt_of_le A411.lt szxsn_0_435)
    have k451 := (k424.ext E411)
    have ne452 : w7_B ≠ xsn_0_435 := Nat.ne_of_lt (Nat.lt_of_lt_of_le k451.lt szxsn_0_435)
    have k453 := (k426.ext E411)
    have ne454 : w8_B ≠ xsn_0_435 := Nat.ne_of_lt (Nat.lt_of_lt_of_le k453.lt szxsn_0_435)
    have g455 : n0 ≤ xsn_0_435 := Nat.le_trans z431 szxsn_0_435
    have sz456 : h0.size ≤ xsn_0_435 := Nat.le_trans hs432 szxsn_0_435
    have sf458 := Safe.keep K435 (sfS sf434 sf0) ch430.1 sf434
    have ch457 := ch430.trans (CHr.keep K435 (sfS sf434 sf0) ch430.1)
    have z459 : n0 ≤ T435.heap.size := Nat.le_trans z431 K435.1
    have hs460 : h0.size ≤ T435.heap.size := Nat.le_trans hs432 K435.1
    have hk461 := Nat.le_trans hk433 K435.1
    have N435 := Fr.app N406 N435q
    obtain ⟨la462, T462, h462, kk462, lb462, lk462, X462, e462, E462, hS462, hk462, hZ, hown, Ex462, Fc462, Fv462, V462, -, -, Cr462, Lt462, Sf462, st462⟩ := ldcCH (s := s) (vm0 := T398.vm) (EL := consts_1) X435 hx hZ hown (wd hw 9 rfl) (own_ws hw) rfl hS398 hk461 (own_ew hw) (List.mem_of_getElem? (i := 0) rfl) ch457.1 (z := (4 : Int32)) (vs := [(.int (110 : Int32)), (.int (111 : Int32)), (.int (110 : Int32)), (.int (101 : Int32))]) ⟨by decide, by rfl⟩ (by decide) rfl (g := (mkF m 220 #[.val (.int p0), .val (.int p1), .val (.int p2), .val (.int p3), .val (.long q4), .second, .val (.int (v0_1 p0 p1 p2 p3 q4 w0)), .val (.int (v0_3 p0 p1 p2 p3 q4 w0)), .val (.int (3 : Int32)), .val (.int (v0_6 p0 p1 p2 p3 q4 w0)), .val (.ref b358), .val (.ref b411), .val .null] [(.ref b411)])) rfl (hb hby at_220) (n := 16) (by decide) (by decide) (by decide) (by decide)
    have sf463 := Cr462.safe po435_0.lt sf458
    have ch464 := ch457.trans Cr462
    have z465 : n0 ≤ h462.size := Nat.le_trans z459 E462.1
    have hs466 : h0.size ≤ h462.size := Nat.le_trans hs460 E462.1
    have ne467 := Sf462 _ sf463
    have k468 := ((((((((((V_w2_V.ext E358).keep K372 nin0).other W380 ne359).keep K385 nin0).other W393 ne359).keep K398 nin0).other W406 ne359).ext E411).keep K435 (ninS ne413 nin0)).ext E462)
    have k469 := ((k436.keep K435 (ninS ne423 nin0)).ext E462)
    have k471 := (po435_0.ext E462)
    have k472 := (po435_1.ext E462)
    have k473 := (po435_2.ext E462)
    have k474 := (po435_3.ext E462)
    have O475 := ((O437.keep K435 (allS g428 all0)).ext E462)
    obtain ⟨cq470, kq470, q470a, q470b, q470c⟩ := isOf hZ e462 k471
    obtain ⟨vr470, _, ⟨T470, L470, k470, n470⟩, -, X470, ⟨Lc470, hQ470, l470, y470, z470⟩, st470⟩ := Jvm.Stand.virtualBack X462 hx (y := (⟨"java/lang/String", "equals", "(Ljava/lang/Object;)Z"⟩ : MethodName)) (z := (⟨"java/lang/String", "equals", "(Ljava/lang/Object;)Z"⟩ : MethodName)) hown (mvT hZ (wd hw 73 rfl)) (mvT hZ (wd hw 74 rfl)) (notFace_of_selects (args := #[]) (mvT hZ (wd hw 76 rfl))) (mvT hZ (wd hw 76 rfl)) (mvT hZ (wd hw 75 rfl)) (by decide) (backOf (W := 0) (rmsqD l Z a0 hw [] b411 la462 xsn_0_435 (3 : Int32) ([(.int (own_b (v0_20 p0 p1 p2 p3 q4 w0))), (.int (own_b (v0_22 p0 p1 p2 p3 q4 w0))), (.int (own_b (v0_24 p0 p1 p2 p3 q4 w0)))]) ksn_1_435 lb462 (4 : Int32) ([(.int (110 : Int32)), (.int (111 : Int32)), (.int (110 : Int32)), (.int (101 : Int32))]) lk462 w0 h462 n0 z465 k471 k472 k473 k474 Ex462 Fc462 Fv462 V462 ne467.1 (Sta.ext O475.2 S_String_COMPACT_STRINGS) hcs (by decide)) hZ (wd hw 77 rfl) (wd hw 10 rfl) (by decide) (by decide)) q470a q470c (g := (mkF m 222 #[.val (.int p0), .val (.int p1), .val (.int p2), .val (.int p3), .val (.long q4), .second, .val (.int (v0_1 p0 p1 p2 p3 q4 w0)), .val (.int (v0_3 p0 p1 p2 p3 q4 w0)), .val (.int (3 : Int32)), .val (.int (v0_6 p0 p1 p2 p3 q4 w0)), .val (.ref b358), .val (.ref b411), .val .null] [(.ref la462), (.ref b411)])) rfl (by rw [hml]; rfl) (Steps.refl _) (argsL := [(.ref la462)]) (rest := []) (lenOf pd__Ljava_lang_Object__Z rfl) rfl (by show 2 * 0 + _ ≤ _; exact Nat.le_of_eq rfl) (hb hby at_222) (fun _ _ => ⟨rfl, e462, (by decide : 11 + 0 ≤ _), (by decide : 114 + 0 ≤ _)⟩)
    dsimp only [Pt.U, Pt.locs, Pt.cells, Pt.slots] at X470 l470 y470 z470 st470 hQ470
    replace X470 := own_stand X470 l470 y470 z470
    clear l470 y470 z470
    have N470q := (show _ ∧ _ ∧ _ from hQ470).1
    have hv470 := (show _ ∧ _ ∧ _ from hQ470).2.1
    have e470 := (show _ ∧ _ ∧ _ from hQ470).2.2
    clear hQ470
    subst hv470
    have N470 := Fr.app N435 N470q
    obtain ⟨la476, T476, h476, kk476, lb476, lk476, X476, e476, E476, hS476, hk476, hZ, hown, Ex476, Fc476, Fv476, V476, -, -, Cr476, Lt476, Sf476, st476⟩ := ldcCH (s := s) (vm0 := T462.vm) (EL := consts_1) X470 hx hZ hown (wd hw 82 rfl) (own_ws hw) e470 hS462 hk462 (own_ew hw) (List.mem_of_getElem? (i := 1) rfl) ch464.1 (z := (6 : Int32)) (vs := [(.int (112 : Int32)), (.int (111 : Int32)), (.int (114 : Int32)), (.int (116 : Int32)), (.int (101 : Int32)), (.int (114 : Int32))]) ⟨by decide, by rfl⟩ (by decide) rfl (g := (mkF m 238 #[.val (.int p0), .val (.int p1), .val (.int p2), .val (.int p3), .val (.long q4), .second, .val (.int (v0_1 p0 p1 p2 p3 q4 w0)), .val (.int (v0_3 p0 p1 p2 p3 q4 w0)), .val (.int (3 : Int32)), .val (.int (v0_6 p0 p1 p2 p3 q4 w0)), .val (.ref b358), .val (.ref b411), .val .null] [(.ref b411)])) rfl (hb hby at_238) (n := 24) (by decide) (by decide) (by decide) (by decide)
    have sf477 := Cr476.safe k471.lt sf463
    have ch478 := ch464.trans Cr476
    have z479 : n0 ≤ h476.size := Nat.le_trans z465 E476.1
    have hs480 : h0.size ≤ h476.size := Nat.le_trans hs466 E476.1
    have ne481 := Sf476 _ sf477
    have k482 := (k468.ext E476)
    have k483 := (k469.ext E476)
    have k485 := (k471.ext E476)
    have k486 := (k472.ext E476)
    have k487 := (k473.ext E476)
    have k488 := (k474.ext E476)
    have O489 := (O475.ext E476)
    obtain ⟨cq484, kq484, q484a, q484b, q484c⟩ := isOf hZ e476 k485
    obtain ⟨vr484, _, ⟨T484, L484, k484, n484⟩, -, X484, ⟨Lc484, hQ484, l484, y484, z484⟩, st484⟩ := Jvm.Stand.virtualBack X476 hx (y := (⟨"java/lang/String", "equals", "(Ljava/lang/Object;)Z"⟩ : MethodName)) (z := (⟨"java/lang/String", "equals", "(Ljava/lang/Object;)Z"⟩ : MethodName)) hown (mvT hZ (wd hw 73 rfl)) (mvT hZ (wd hw 74 rfl)) (notFace_of_selects (args := #[]) (mvT hZ (wd hw 76 rfl))) (mvT hZ (wd hw 76 rfl)) (mvT hZ (wd hw 75 rfl)) (by decide) (backOf (W := 0) (rmsqD l Z a0 hw [] b411 la476 xsn_0_435 (3 : Int32) ([(.int (own_b (v0_20 p0 p1 p2 p3 q4 w0))), (.int (own_b (v0_22 p0 p1 p2 p3 q4 w0))), (.int (own_b (v0_24 p0 p1 p2 p3 q4 w0)))]) ksn_1_435 lb476 (6 : Int32) ([(.int (112 : Int32)), (.int (111 : Int32)), (.int (114 : Int32)), (.int (116 : Int32)), (.int (101 : Int32)), (.int (114 : Int32))]) lk476 w0 h476 n0 z479 k485 k486 k487 k488 Ex476 Fc476 Fv476 V476 ne481.1 (Sta.ext O489.2 S_String_COMPACT_STRINGS) hcs (by decide)) hZ (wd hw 77 rfl) (wd hw 10 rfl) (by decide) (by decide)) q484a q484c (g := (mkF m 240 #[.val (.int p0), .val (.int p1), .val (.int p2), .val (.int p3), .val (.long q4), .second, .val (.int (v0_1 p0 p1 p2 p3 q4 w0)), .val (.int (v0_3 p0 p1 p2 p3 q4 w0)), .val (.int (3 : Int32)), .val (.int (v0_6 p0 p1 p2 p3 q4 w0)), .val (.ref b358), .val (.ref b411), .val .null] [(.ref la476), (.ref b411)])) rfl (by rw [hml]; rfl) (Steps.refl _) (argsL := [(.ref la476)]) (rest := []) (lenOf pd__Ljava_lang_Object__Z rfl) rfl (by show 2 * 0 + _ ≤ _; exact Nat.le_of_eq rfl) (hb hby at_240) (fun _ _ => ⟨rfl, e476, (by decide : 13 + 0 ≤ _), (by decide : 142 + 0 ≤ _)⟩)
    dsimp only [Pt.U, Pt.locs, Pt.cells, Pt.slots] at X484 l484 y484 z484 st484 hQ484
    replace X484 := own_stand X484 l484 y484 z484
    clear l484 y484 z484
    have N484q := (show _ ∧ _ ∧ _ from hQ484).1
    have hv484 := (show _ ∧ _ ∧ _ from hQ484).2.1
    have e484 := (show _ ∧ _ ∧ _ from hQ484).2.2
    clear hQ484
    subst hv484
    have N484 := Fr.app N470 N484q
    have k491 := (((k438.keep K435).ext E462).ext E476)
    have k492 := (((k440.keep K435).ext E462).ext E476)
    have k493 := (((k442.keep K435).ext E462).ext E476)
    have k494 := (((((((((((F_label_w3_N.ext E358).keep K372 nin0).other W380 (Or.inl ne360)).keep K385 nin0).other W393 (Or.inl ne360)).keep K398 nin0).other W406 (Or.inl ne360)).ext E411).keep K435 (ninS ne415 nin0)).ext E462).ext E476)
    have k495 := (((((((((((F_label_w4_P.ext E358).keep K372 nin0).other W380 (Or.inl ne361)).keep K385 nin0).other W393 (Or.inl ne361)).keep K398 nin0).other W406 (Or.inl ne361)).ext E411).keep K435 (ninS ne417 nin0)).ext E462).ext E476)
    have k496 := (((k444.keep K435).ext E462).ext E476)
    have k497 := (((((((((((F_coder_w5_L.ext E358).keep K372 nin0).other W380 (Or.inl ne362)).keep K385 nin0).other W393 (Or.inl ne362)).keep K398 nin0).other W406 (Or.inl ne362)).ext E411).keep K435 (ninS ne419 nin0)).ext E462).ext E476)
    have k498 := (((((((((((F_value_w5_L.ext E358).keep K372 nin0).other W380 (Or.inl ne362)).keep K385 nin0).other W393 (Or.inl ne362)).keep K398 nin0).other W406 (Or.inl ne362)).ext E411).keep K435 (ninS ne419 nin0)).ext E462).ext E476)
    have k499 := (((k451.keep K435 (ninS ne425 nin0)).ext E462).ext E476)
    have k500 := (((k446.keep K435).ext E462).ext E476)
    have k501 := (((((((((((F_coder_w6_L.ext E358).keep K372 nin0).other W380 (Or.inl ne363)).keep K385 nin0).other W393 (Or.inl ne363)).keep K398 nin0).other W406 (Or.inl ne363)).ext E411).keep K435 (ninS ne421 nin0)).ext E462).ext E476)
    have k502 := (((((((((((F_value_w6_L.ext E358).keep K372 nin0).other W380 (Or.inl ne363)).keep K385 nin0).other W393 (Or.inl ne363)).keep K398 nin0).other W406 (Or.inl ne363)).ext E411).keep K435 (ninS ne421 nin0)).ext E462).ext E476)
    have k503 := (((k453.keep K435 (ninS ne427 nin0)).ext E462).ext E476)
    obtain ⟨vr490, _, ⟨T490, L490, k490, n490⟩, -, X490, ⟨Lc490, hQ490, l490, y490, z490⟩, st490⟩ := Jvm.LawKit.callS X484 hx (y := (⟨"com/example/vellum_index/vellumindex/Stemmer", "labelled", "(Ljava/lang/String;)Lcom/example/vellum_index/vellumindex/Stemmer;"⟩ : MethodName)) hown (mvT hZ (wd hw 83 rfl)) (mvT hZ (wd hw 84 rfl)) (mvT hZ (wd hw 85 rfl)) (mvT hZ (wd hw 86 rfl)) (by decide) (backOf (W := 0) (rmlbD l Z a0 hw [] b411 w2_V w3_N w4_P kV w5_L w6_L w7_B kB0 w8_B kB1 xsn_0_435 (3 : Int32) ([(.int (own_b (v0_20 p0 p1 p2 p3 q4 w0))), (.int (own_b (v0_22 p0 p1 p2 p3 q4 w0))), (.int (own_b (v0_24 p0 p1 p2 p3 q4 w0)))]) ksn_1_435 w0 h476 n0 z479 (Sta.ext O489.2 S_Stemmer__VALUES) k482 k491 k492 k493 k494 k495 k496 k497 k498 k499 k500 k501 k502 k503 k485 k486 k487 k488 ne419 ne421 (Sta.ext O489.2 S_String_COMPACT_STRINGS) hcs (by decide) (by decide)) hZ (wd hw 86 rfl) (wd hw 85 rfl) (by decide) (by decide)) (g := (mkF m 253 #[.val (.int p0), .val (.int p1), .val (.int p2), .val (.int p3), .val (.long q4), .second, .val (.int (v0_1 p0 p1 p2 p3 q4 w0)), .val (.int (v0_3 p0 p1 p2 p3 q4 w0)), .val (.int (3 : Int32)), .val (.int (v0_6 p0 p1 p2 p3 q4 w0)), .val (.ref b358), .val (.ref b411), .val .null] [(.ref b411)])) rfl (by rw [hml]; rfl) (argsL := [(.ref b411)]) (rest := []) (lenOf pd_h53915 rfl) rfl (by show 2 * 0 + _ ≤ _; exact Nat.le_of_eq rfl) (hb hby at_253) (fun _ _ => ⟨rfl, e484, (by decide : 13 + 1 ≤ _), (by decide : 142 + 2 ≤ _)⟩)
    dsimp only [Pt.U, Pt.locs, Pt.cells, Pt.slots] at X490 l490 y490 z490 st490 hQ490
    replace X490 := own_stand X490 l490 y490 z490
    clear l490 y490 z490
    have N490q := (show _ ∧ _ from hQ490).1
    have hq490 := (show _ ∧ _ from hQ490).2
    clear hQ490
    have hv490 := hq490.1
    have K490 := hq490.2
    clear hq490
    subst hv490
    have sf505 := Safe.keep K490 sf0 ch478.1 sf477
    have ch504 := ch478.trans (CHr.keep K490 sf0 ch478.1)
    have z506 : n0 ≤ T490.heap.size := Nat.le_trans z479 K490.1
    have hs507 : h0.size ≤ T490.heap.size := Nat.le_trans hs480 K490.1
    have hk508 := Nat.le_trans hk476 K490.1
    have N490 := Fr.app N484 N490q
    obtain ⟨fs, hr, hrun, hended, hRW⟩ := Jvm.Stand.leaveW (s := s) (vm₁ := T476.vm) X490 hS476 hk508 (v := some (.int (1 : Int32))) (fun h => by rw [Bd.returns] at h; cases h) hlk
    refine ⟨_, _, pre4 _ ?_, hrun, hended, _, _, rfl, ?_, hRW.1, hRW.2.1, hRW.2.2.1, hRW.2.2.2.mono (by decide) (by decide)⟩
    · skip
      show Steps p.tables e below (s₁.setTop (mkF m 35 #[.val (.int p0), .val (.int p1), .val (.int p2), .val (.int p3), .val (.long q4), .second, .val (.int (v0_1 p0 p1 p2 p3 q4 w0)), .val (.int (v0_3 p0 p1 p2 p3 q4 w0)), .val (.int (3 : Int32)), .val (.int (v0_6 p0 p1 p2 p3 q4 w0)), .unset, .unset, .unset] [])) _
      refine XS.iload X0.here hx rfl (hb hby at_35) rfl ?_
      show Steps p.tables e below (s₁.setTop (mkF m 37 #[.val (.int p0), .val (.int p1), .val (.int p2), .val (.int p3), .val (.long q4), .second, .val (.int (v0_1 p0 p1 p2 p3 q4 w0)), .val (.int (v0_3 p0 p1 p2 p3 q4 w0)), .val (.int (3 : Int32)), .val (.int (v0_6 p0 p1 p2 p3 q4 w0)), .unset, .unset, .unset] [(.int (3 : Int32))])) _
      refine st358 _ ?_
      refine XS.astore X358.here hx rfl (hb hby at_39) rfl rfl (l' := #[.val (.int p0), .val (.int p1), .val (.int p2), .val (.int p3), .val (.long q4), .second, .val (.int (v0_1 p0 p1 p2 p3 q4 w0)), .val (.int (v0_3 p0 p1 p2 p3 q4 w0)), .val (.int (3 : Int32)), .val (.int (v0_6 p0 p1 p2 p3 q4 w0)), .val (.ref b358), .unset, .unset]) rfl ?_
      refine XS.iload X358.here hx rfl (hb hby at_41) rfl ?_
      show Steps p.tables e below (T358.setTop (mkF m 43 #[.val (.int p0), .val (.int p1), .val (.int p2), .val (.int p3), .val (.long q4), .second, .val (.int (v0_1 p0 p1 p2 p3 q4 w0)), .val (.int (v0_3 p0 p1 p2 p3 q4 w0)), .val (.int (3 : Int32)), .val (.int (v0_6 p0 p1 p2 p3 q4 w0)), .val (.ref b358), .unset, .unset] [(.int (3 : Int32))])) _
      refine XS.ifNo X358.here hx rfl (hb hby at_43) rfl (XT.i0_le_f (by decide)) ?_
      refine XS.aload X358.here hx rfl (hb hby at_46) rfl rfl ?_
      refine XT.iconstV X358.here hx rfl (0 : Int32) (hb hby at_48) (by decide) ?_
      refine XS.iload X358.here hx rfl (hb hby at_49) rfl ?_
      show Steps p.tables e below (T358.setTop (mkF m 51 #[.val (.int p0), .val (.int p1), .val (.int p2), .val (.int p3), .val (.long q4), .second, .val (.int (v0_1 p0 p1 p2 p3 q4 w0)), .val (.int (v0_3 p0 p1 p2 p3 q4 w0)), .val (.int (3 : Int32)), .val (.int (v0_6 p0 p1 p2 p3 q4 w0)), .val (.ref b358), .unset, .unset] [(.int (v0_1 p0 p1 p2 p3 q4 w0)), (.int (0 : Int32)), (.ref b358)])) _
      refine XT.iconstV X358.here hx rfl (0 : Int32) (hb hby at_51) (by decide) ?_
      refine XT.lload X358.here hx rfl (hb hby at_52) rfl ?_
      refine XS.iload X358.here hx rfl (hb hby at_54) rfl ?_
      refine XS.iload X358.here hx rfl (hb hby at_56) rfl ?_
      show Steps p.tables e below (T358.setTop (mkF m 58 #[.val (.int p0), .val (.int p1), .val (.int p2), .val (.int p3), .val (.long q4), .second, .val (.int (v0_1 p0 p1 p2 p3 q4 w0)), .val (.int (v0_3 p0 p1 p2 p3 q4 w0)), .val (.int (3 : Int32)), .val (.int (v0_6 p0 p1 p2 p3 q4 w0)), .val (.ref b358), .unset, .unset] [(.int (v0_6 p0 p1 p2 p3 q4 w0)), (.int (v0_3 p0 p1 p2 p3 q4 w0)), (.long q4), (.int (0 : Int32)), (.int (v0_1 p0 p1 p2 p3 q4 w0)), (.int (0 : Int32)), (.ref b358)])) _
      refine XS.iloadN X358.here hx rfl (hb hby at_58) rfl ?_
      show Steps p.tables e below (T358.setTop (mkF m 59 #[.val (.int p0), .val (.int p1), .val (.int p2), .val (.int p3), .val (.long q4), .second, .val (.int (v0_1 p0 p1 p2 p3 q4 w0)), .val (.int (v0_3 p0 p1 p2 p3 q4 w0)), .val (.int (3 : Int32)), .val (.int (v0_6 p0 p1 p2 p3 q4 w0)), .val (.ref b358), .unset, .unset] [(.int p3), (.int (v0_6 p0 p1 p2 p3 q4 w0)), (.int (v0_3 p0 p1 p2 p3 q4 w0)), (.long q4), (.int (0 : Int32)), (.int (v0_1 p0 p1 p2 p3 q4 w0)), (.int (0 : Int32)), (.ref b358)])) _
      refine st372.trans ?_
      show Steps p.tables e below (T372.setTop (mkF m 62 #[.val (.int p0), .val (.int p1), .val (.int p2), .val (.int p3), .val (.long q4), .second, .val (.int (v0_1 p0 p1 p2 p3 q4 w0)), .val (.int (v0_3 p0 p1 p2 p3 q4 w0)), .val (.int (3 : Int32)), .val (.int (v0_6 p0 p1 p2 p3 q4 w0)), .val (.ref b358), .unset, .unset] [(.int (f1 (v0_1 p0 p1 p2 p3 q4 w0) (0 : Int32) q4 (v0_3 p0 p1 p2 p3 q4 w0) (v0_6 p0 p1 p2 p3 q4 w0) p3 w0)), (.int (0 : Int32)), (.ref b358)])) _
      refine st380 _ ?_
      refine XS.iload X380.here hx rfl (hb hby at_63) rfl ?_
      refine XT.iconstV X380.here hx rfl (1 : Int32) (hb hby at_65) (by decide) ?_
      show Steps p.tables e below (T380.setTop (mkF m 66 #[.val (.int p0), .val (.int p1), .val (.int p2), .val (.int p3), .val (.long q4), .second, .val (.int (v0_1 p0 p1 p2 p3 q4 w0)), .val (.int (v0_3 p0 p1 p2 p3 q4 w0)), .val (.int (3 : Int32)), .val (.int (v0_6 p0 p1 p2 p3 q4 w0)), .val (.ref b358), .unset, .unset] [(.int (1 : Int32)), (.int (3 : Int32))])) _
      refine XS.icmpNo X380.here hx rfl (hb hby at_66) rfl (XT.ii_le_f (by decide)) ?_
      refine XS.aload X380.here hx rfl (hb hby at_69) rfl rfl ?_
      refine XT.iconstV X380.here hx rfl (1 : Int32) (hb hby at_71) (by decide) ?_
      refine XS.iload X380.here hx rfl (hb hby at_72) rfl ?_
      show Steps p.tables e below (T380.setTop (mkF m 74 #[.val (.int p0), .val (.int p1), .val (.int p2), .val (.int p3), .val (.long q4), .second, .val (.int (v0_1 p0 p1 p2 p3 q4 w0)), .val (.int (v0_3 p0 p1 p2 p3 q4 w0)), .val (.int (3 : Int32)), .val (.int (v0_6 p0 p1 p2 p3 q4 w0)), .val (.ref b358), .unset, .unset] [(.int (v0_1 p0 p1 p2 p3 q4 w0)), (.int (1 : Int32)), (.ref b358)])) _
      refine XT.iconstV X380.here hx rfl (1 : Int32) (hb hby at_74) (by decide) ?_
      refine XT.lload X380.here hx rfl (hb hby at_75) rfl ?_
      refine XS.iload X380.here hx rfl (hb hby at_77) rfl ?_
      refine XS.iload X380.here hx rfl (hb hby at_79) rfl ?_
      show Steps p.tables e below (T380.setTop (mkF m 81 #[.val (.int p0), .val (.int p1), .val (.int p2), .val (.int p3), .val (.long q4), .second, .val (.int (v0_1 p0 p1 p2 p3 q4 w0)), .val (.int (v0_3 p0 p1 p2 p3 q4 w0)), .val (.int (3 : Int32)), .val (.int (v0_6 p0 p1 p2 p3 q4 w0)), .val (.ref b358), .unset, .unset] [(.int (v0_6 p0 p1 p2 p3 q4 w0)), (.int (v0_3 p0 p1 p2 p3 q4 w0)), (.long q4), (.int (1 : Int32)), (.int (v0_1 p0 p1 p2 p3 q4 w0)), (.int (1 : Int32)), (.ref b358)])) _
      refine XS.iloadN X380.here hx rfl (hb hby at_81) rfl ?_
      show Steps p.tables e below (T380.setTop (mkF m 82 #[.val (.int p0), .val (.int p1), .val (.int p2), .val (.int p3), .val (.long q4), .second, .val (.int (v0_1 p0 p1 p2 p3 q4 w0)), .val (.int (v0_3 p0 p1 p2 p3 q4 w0)), .val (.int (3 : Int32)), .val (.int (v0_6 p0 p1 p2 p3 q4 w0)), .val (.ref b358), .unset, .unset] [(.int p3), (.int (v0_6 p0 p1 p2 p3 q4 w0)), (.int (v0_3 p0 p1 p2 p3 q4 w0)), (.long q4), (.int (1 : Int32)), (.int (v0_1 p0 p1 p2 p3 q4 w0)), (.int (1 : Int32)), (.ref b358)])) _
      refine st385.trans ?_
      show Steps p.tables e below (T385.setTop (mkF m 85 #[.val (.int p0), .val (.int p1), .val (.int p2), .val (.int p3), .val (.long q4), .second, .val (.int (v0_1 p0 p1 p2 p3 q4 w0)), .val (.int (v0_3 p0 p1 p2 p3 q4 w0)), .val (.int (3 : Int32)), .val (.int (v0_6 p0 p1 p2 p3 q4 w0)), .val (.ref b358), .unset, .unset] [(.int (f1 (v0_1 p0 p1 p2 p3 q4 w0) (1 : Int32) q4 (v0_3 p0 p1 p2 p3 q4 w0) (v0_6 p0 p1 p2 p3 q4 w0) p3 w0)), (.int (1 : Int32)), (.ref b358)])) _
      refine st393 _ ?_
      refine XS.iload X393.here hx rfl (hb hby at_86) rfl ?_
      refine XT.iconstV X393.here hx rfl (2 : Int32) (hb hby at_88) (by decide) ?_
      show Steps p.tables e below (T393.setTop (mkF m 89 #[.val (.int p0), .val (.int p1), .val (.int p2), .val (.int p3), .val (.long q4), .second, .val (.int (v0_1 p0 p1 p2 p3 q4 w0)), .val (.int (v0_3 p0 p1 p2 p3 q4 w0)), .val (.int (3 : Int32)), .val (.int (v0_6 p0 p1 p2 p3 q4 w0)), .val (.ref b358), .unset, .unset] [(.int (2 : Int32)), (.int (3 : Int32))])) _
      refine XS.icmpNo X393.here hx rfl (hb hby at_89) rfl (XT.ii_le_f (by decide)) ?_
      refine XS.aload X393.here hx rfl (hb hby at_92) rfl rfl ?_
      refine XT.iconstV X393.here hx rfl (2 : Int32) (hb hby at_94) (by decide) ?_
      refine XS.iload X393.here hx rfl (hb hby at_95) rfl ?_
      show Steps p.tables e below (T393.setTop (mkF m 97 #[.val (.int p0), .val (.int p1), .val (.int p2), .val (.int p3), .val (.long q4), .second, .val (.int (v0_1 p0 p1 p2 p3 q4 w0)), .val (.int (v0_3 p0 p1 p2 p3 q4 w0)), .val (.int (3 : Int32)), .val (.int (v0_6 p0 p1 p2 p3 q4 w0)), .val (.ref b358), .unset, .unset] [(.int (v0_1 p0 p1 p2 p3 q4 w0)), (.int (2 : Int32)), (.ref b358)])) _
      refine XT.iconstV X393.here hx rfl (2 : Int32) (hb hby at_97) (by decide) ?_
      refine XT.lload X393.here hx rfl (hb hby at_98) rfl ?_
      refine XS.iload X393.here hx rfl (hb hby at_100) rfl ?_
      refine XS.iload X393.here hx rfl (hb hby at_102) rfl ?_
      show Steps p.tables e below (T393.setTop (mkF m 104 #[.val (.int p0), .val (.int p1), .val (.int p2), .val (.int p3), .val (.long q4), .second, .val (.int (v0_1 p0 p1 p2 p3 q4 w0)), .val (.int (v0_3 p0 p1 p2 p3 q4 w0)), .val (.int (3 : Int32)), .val (.int (v0_6 p0 p1 p2 p3 q4 w0)), .val (.ref b358), .unset, .unset] [(.int (v0_6 p0 p1 p2 p3 q4 w0)), (.int (v0_3 p0 p1 p2 p3 q4 w0)), (.long q4), (.int (2 : Int32)), (.int (v0_1 p0 p1 p2 p3 q4 w0)), (.int (2 : Int32)), (.ref b358)])) _
      refine XS.iloadN X393.here hx rfl (hb hby at_104) rfl ?_
      show Steps p.tables e below (T393.setTop (mkF m 105 #[.val (.int p0), .val (.int p1), .val (.int p2), .val (.int p3), .val (.long q4), .second, .val (.int (v0_1 p0 p1 p2 p3 q4 w0)), .val (.int (v0_3 p0 p1 p2 p3 q4 w0)), .val (.int (3 : Int32)), .val (.int (v0_6 p0 p1 p2 p3 q4 w0)), .val (.ref b358), .unset, .unset] [(.int p3), (.int (v0_6 p0 p1 p2 p3 q4 w0)), (.int (v0_3 p0 p1 p2 p3 q4 w0)), (.long q4), (.int (2 : Int32)), (.int (v0_1 p0 p1 p2 p3 q4 w0)), (.int (2 : Int32)), (.ref b358)])) _
      refine st398.trans ?_
      show Steps p.tables e below (T398.setTop (mkF m 108 #[.val (.int p0), .val (.int p1), .val (.int p2), .val (.int p3), .val (.long q4), .second, .val (.int (v0_1 p0 p1 p2 p3 q4 w0)), .val (.int (v0_3 p0 p1 p2 p3 q4 w0)), .val (.int (3 : Int32)), .val (.int (v0_6 p0 p1 p2 p3 q4 w0)), .val (.ref b358), .unset, .unset] [(.int (f1 (v0_1 p0 p1 p2 p3 q4 w0) (2 : Int32) q4 (v0_3 p0 p1 p2 p3 q4 w0) (v0_6 p0 p1 p2 p3 q4 w0) p3 w0)), (.int (2 : Int32)), (.ref b358)])) _
      refine st406 _ ?_
      refine XS.iload X406.here hx rfl (hb hby at_109) rfl ?_
      refine XT.iconstV X406.here hx rfl (3 : Int32) (hb hby at_111) (by decide) ?_
      show Steps p.tables e below (T406.setTop (mkF m 112 #[.val (.int p0), .val (.int p1), .val (.int p2), .val (.int p3), .val (.long q4), .second, .val (.int (v0_1 p0 p1 p2 p3 q4 w0)), .val (.int (v0_3 p0 p1 p2 p3 q4 w0)), .val (.int (3 : Int32)), .val (.int (v0_6 p0 p1 p2 p3 q4 w0)), .val (.ref b358), .unset, .unset] [(.int (3 : Int32)), (.int (3 : Int32))])) _
      refine XS.icmpYes X406.here hx rfl (pc0 := 112) (pc' := 132) rfl (hb hby at_112) rfl (XT.ii_le_t (by decide)) (by decide) (by decide) ?_
      refine XS.iload X406.here hx rfl (hb hby at_132) rfl ?_
      refine XT.iconstV X406.here hx rfl (4 : Int32) (hb hby at_134) (by decide) ?_
      show Steps p.tables e below (T406.setTop (mkF m 135 #[.val (.int p0), .val (.int p1), .val (.int p2), .val (.int p3), .val (.long q4), .second, .val (.int (v0_1 p0 p1 p2 p3 q4 w0)), .val (.int (v0_3 p0 p1 p2 p3 q4 w0)), .val (.int (3 : Int32)), .val (.int (v0_6 p0 p1 p2 p3 q4 w0)), .val (.ref b358), .unset, .unset] [(.int (4 : Int32)), (.int (3 : Int32))])) _
      refine XS.icmpYes X406.here hx rfl (pc0 := 135) (pc' := 155) rfl (hb hby at_135) rfl (XT.ii_le_t (by decide)) (by decide) (by decide) ?_
      refine XS.iload X406.here hx rfl (hb hby at_155) rfl ?_
      refine XT.iconstV X406.here hx rfl (5 : Int32) (hb hby at_157) (by decide) ?_
      show Steps p.tables e below (T406.setTop (mkF m 158 #[.val (.int p0), .val (.int p1), .val (.int p2), .val (.int p3), .val (.long q4), .second, .val (.int (v0_1 p0 p1 p2 p3 q4 w0)), .val (.int (v0_3 p0 p1 p2 p3 q4 w0)), .val (.int (3 : Int32)), .val (.int (v0_6 p0 p1 p2 p3 q4 w0)), .val (.ref b358), .unset, .unset] [(.int (5 : Int32)), (.int (3 : Int32))])) _
      refine XS.icmpYes X406.here hx rfl (pc0 := 158) (pc' := 178) rfl (hb hby at_158) rfl (XT.ii_le_t (by decide)) (by decide) (by decide) ?_
      refine XS.iload X406.here hx rfl (hb hby at_178) rfl ?_
      refine XT.bipushV X406.here hx rfl (6 : Int32) (hb hby at_180) (by decide) ?_
      show Steps p.tables e below (T406.setTop (mkF m 182 #[.val (.int p0), .val (.int p1), .val (.int p2), .val (.int p3), .val (.long q4), .second, .val (.int (v0_1 p0 p1 p2 p3 q4 w0)), .val (.int (v0_3 p0 p1 p2 p3 q4 w0)), .val (.int (3 : Int32)), .val (.int (v0_6 p0 p1 p2 p3 q4 w0)), .val (.ref b358), .unset, .unset] [(.int (6 : Int32)), (.int (3 : Int32))])) _
      refine XS.icmpYes X406.here hx rfl (pc0 := 182) (pc' := 204) rfl (hb hby at_182) rfl (XT.ii_le_t (by decide)) (by decide) (by decide) ?_
      show Steps p.tables e below (T406.setTop (mkF m 204 #[.val (.int p0), .val (.int p1), .val (.int p2), .val (.int p3), .val (.long q4), .second, .val (.int (v0_1 p0 p1 p2 p3 q4 w0)), .val (.int (v0_3 p0 p1 p2 p3 q4 w0)), .val (.int (3 : Int32)), .val (.int (v0_6 p0 p1 p2 p3 q4 w0)), .val (.ref b358), .unset, .unset] [])) _
      refine st411 _ ?_
      refine XS.dup X411.here hx rfl (hb hby at_207) rfl rfl ?_
      refine XS.aload X411.here hx rfl (hb hby at_208) rfl rfl ?_
      show Steps p.tables e below (T411.setTop (mkF m 210 #[.val (.int p0), .val (.int p1), .val (.int p2), .val (.int p3), .val (.long q4), .second, .val (.int (v0_1 p0 p1 p2 p3 q4 w0)), .val (.int (v0_3 p0 p1 p2 p3 q4 w0)), .val (.int (3 : Int32)), .val (.int (v0_6 p0 p1 p2 p3 q4 w0)), .val (.ref b358), .unset, .unset] [(.ref b358), (.ref b411), (.ref b411)])) _
      refine st435.trans ?_
      refine XS.astore X435.here hx rfl (hb hby at_213) rfl rfl (l' := #[.val (.int p0), .val (.int p1), .val (.int p2), .val (.int p3), .val (.long q4), .second, .val (.int (v0_1 p0 p1 p2 p3 q4 w0)), .val (.int (v0_3 p0 p1 p2 p3 q4 w0)), .val (.int (3 : Int32)), .val (.int (v0_6 p0 p1 p2 p3 q4 w0)), .val (.ref b358), .val (.ref b411), .unset]) rfl ?_
      show Steps p.tables e below (T435.setTop (mkF m 215 #[.val (.int p0), .val (.int p1), .val (.int p2), .val (.int p3), .val (.long q4), .second, .val (.int (v0_1 p0 p1 p2 p3 q4 w0)), .val (.int (v0_3 p0 p1 p2 p3 q4 w0)), .val (.int (3 : Int32)), .val (.int (v0_6 p0 p1 p2 p3 q4 w0)), .val (.ref b358), .val (.ref b411), .unset] [])) _
      refine XS.aconstNull X435.here hx rfl (hb hby at_215) ?_
      refine XS.astore X435.here hx rfl (hb hby at_216) rfl rfl (l' := #[.val (.int p0), .val (.int p1), .val (.int p2), .val (.int p3), .val (.long q4), .second, .val (.int (v0_1 p0 p1 p2 p3 q4 w0)), .val (.int (v0_3 p0 p1 p2 p3 q4 w0)), .val (.int (3 : Int32)), .val (.int (v0_6 p0 p1 p2 p3 q4 w0)), .val (.ref b358), .val (.ref b411), .val .null]) rfl ?_
      refine XS.aload X435.here hx rfl (hb hby at_218) rfl rfl ?_
      show Steps p.tables e below (T435.setTop (mkF m 220 #[.val (.int p0), .val (.int p1), .val (.int p2), .val (.int p3), .val (.long q4), .second, .val (.int (v0_1 p0 p1 p2 p3 q4 w0)), .val (.int (v0_3 p0 p1 p2 p3 q4 w0)), .val (.int (3 : Int32)), .val (.int (v0_6 p0 p1 p2 p3 q4 w0)), .val (.ref b358), .val (.ref b411), .val .null] [(.ref b411)])) _
      refine st462 _ ?_
      show Steps p.tables e below (T462.setTop (mkF m 222 #[.val (.int p0), .val (.int p1), .val (.int p2), .val (.int p3), .val (.long q4), .second, .val (.int (v0_1 p0 p1 p2 p3 q4 w0)), .val (.int (v0_3 p0 p1 p2 p3 q4 w0)), .val (.int (3 : Int32)), .val (.int (v0_6 p0 p1 p2 p3 q4 w0)), .val (.ref b358), .val (.ref b411), .val .null] [(.ref la462), (.ref b411)])) _
      refine st470.trans ?_
      show Steps p.tables e below (T470.setTop (mkF m 225 #[.val (.int p0), .val (.int p1), .val (.int p2), .val (.int p3), .val (.long q4), .second, .val (.int (v0_1 p0 p1 p2 p3 q4 w0)), .val (.int (v0_3 p0 p1 p2 p3 q4 w0)), .val (.int (3 : Int32)), .val (.int (v0_6 p0 p1 p2 p3 q4 w0)), .val (.ref b358), .val (.ref b411), .val .null] [(.int (fsqD (3 : Int32) (4 : Int32) w0))])) _
      refine XS.ifYes X470.here hx rfl (pc0 := 225) (pc' := 236) rfl (hb hby at_225) rfl (XT.i0_eq_t rfl) (by decide) (by decide) ?_
      refine XS.aload X470.here hx rfl (hb hby at_236) rfl rfl ?_
      show Steps p.tables e below (T470.setTop (mkF m 238 #[.val (.int p0), .val (.int p1), .val (.int p2), .val (.int p3), .val (.long q4), .second, .val (.int (v0_1 p0 p1 p2 p3 q4 w0)), .val (.int (v0_3 p0 p1 p2 p3 q4 w0)), .val (.int (3 : Int32)), .val (.int (v0_6 p0 p1 p2 p3 q4 w0)), .val (.ref b358), .val (.ref b411), .val .null] [(.ref b411)])) _
      refine st476 _ ?_
      show Steps p.tables e below (T476.setTop (mkF m 240 #[.val (.int p0), .val (.int p1), .val (.int p2), .val (.int p3), .val (.long q4), .second, .val (.int (v0_1 p0 p1 p2 p3 q4 w0)), .val (.int (v0_3 p0 p1 p2 p3 q4 w0)), .val (.int (3 : Int32)), .val (.int (v0_6 p0 p1 p2 p3 q4 w0)), .val (.ref b358), .val (.ref b411), .val .null] [(.ref la476), (.ref b411)])) _
      refine st484.trans ?_
      show Steps p.tables e below (T484.setTop (mkF m 243 #[.val (.int p0), .val (.int p1), .val (.int p2), .val (.int p3), .val (.long q4), .second, .val (.int (v0_1 p0 p1 p2 p3 q4 w0)), .val (.int (v0_3 p0 p1 p2 p3 q4 w0)), .val (.int (3 : Int32)), .val (.int (v0_6 p0 p1 p2 p3 q4 w0)), .val (.ref b358), .val (.ref b411), .val .null] [(.int (fsqD (3 : Int32) (6 : Int32) w0))])) _
      refine XS.ifYes X484.here hx rfl (pc0 := 243) (pc' := 251) rfl (hb hby at_243) rfl (XT.i0_eq_t rfl) (by decide) (by decide) ?_
      refine XS.aload X484.here hx rfl (hb hby at_251) rfl rfl ?_
      show Steps p.tables e below (T484.setTop (mkF m 253 #[.val (.int p0), .val (.int p1), .val (.int p2), .val (.int p3), .val (.long q4), .second, .val (.int (v0_1 p0 p1 p2 p3 q4 w0)), .val (.int (v0_3 p0 p1 p2 p3 q4 w0)), .val (.int (3 : Int32)), .val (.int (v0_6 p0 p1 p2 p3 q4 w0)), .val (.ref b358), .val (.ref b411), .val .null] [(.ref b411)])) _
      refine st490 _ ?_
      refine XS.aload X490.here hx rfl (hb hby at_256) rfl rfl ?_
      show Steps p.tables e below (T490.setTop (mkF m 258 #[.val (.int p0), .val (.int p1), .val (.int p2), .val (.int p3), .val (.long q4), .second, .val (.int (v0_1 p0 p1 p2 p3 q4 w0)), .val (.int (v0_3 p0 p1 p2 p3 q4 w0)), .val (.int (3 : Int32)), .val (.int (v0_6 p0 p1 p2 p3 q4 w0)), .val (.ref b358), .val (.ref b411), .val .null] [.null, .null])) _
      refine XT.acmpNo X490.here hx rfl (hb hby at_258) rfl rfl rfl (XT.aa_ne_f rfl) ?_
      refine XT.iconstV X490.here hx rfl (1 : Int32) (hb hby at_261) (by decide) ?_
      show Steps p.tables e below (T490.setTop (mkF m 262 #[.val (.int p0), .val (.int p1), .val (.int p2), .val (.int p3), .val (.long q4), .second, .val (.int (v0_1 p0 p1 p2 p3 q4 w0)), .val (.int (v0_3 p0 p1 p2 p3 q4 w0)), .val (.int (3 : Int32)), .val (.int (v0_6 p0 p1 p2 p3 q4 w0)), .val (.ref b358), .val (.ref b411), .val .null] [(.int (1 : Int32))])) _
      refine XS.goto X490.here hx rfl (pc0 := 262) (pc' := 266) rfl (hb hby at_262) (by decide) (by decide) ?_
      show Steps p.tables e below (T490.setTop (mkF m 266 #[.val (.int p0), .val (.int p1), .val (.int p2), .val (.int p3), .val (.long q4), .second, .val (.int (v0_1 p0 p1 p2 p3 q4 w0)), .val (.int (v0_3 p0 p1 p2 p3 q4 w0)), .val (.int (3 : Int32)), .val (.int (v0_6 p0 p1 p2 p3 q4 w0)), .val (.ref b358), .val (.ref b411), .val .null] [(.int (1 : Int32))])) _
      exact retN X490 hx (t := .boolean) Bd.returns (by simp) (hb hby at_266) hr
    · skip
      show Q0 Z p0 p1 p2 p3 q4 w0 u1_SF w2_V w3_N w4_P kV w5_L w6_L w7_B kB0 w8_B kB1 h0 n0 _ T490.heap _
      exact ⟨rfl, N490⟩
  · skip
    rw [show (v0_4 p0 p1 p2 p3 q4 w0) = (4 : Int32) from cn] at pre4
    obtain ⟨T509, h509, k509, X509, e509, E509, A509, EA509, st509⟩ := newPE X0 hx hZ (wd hw 1 rfl) e0 (g := (mkF m 37 #[.val (.int p0), .val (.int p1), .val (.int p2), .val (.int p3), .val (.long q4), .second, .val (.int (v0_1 p0 p1 p2 p3 q4 w0)), .val (.int (v0_3 p0 p1 p2 p3 q4 w0)), .val (.int (4 : Int32)), .val (.int (v0_6 p0 p1 p2 p3 q4 w0)), .unset, .unset, .unset] [(.int (4 : Int32))])) rfl (hb hby at_37) rfl (by decide) (cap := 4) (by decide) (by decide) (by decide) (by decide) (ad := "[C") rfl
    obtain ⟨b509, gz509⟩ : ∃ z, z = h0.size := ⟨_, rfl⟩
    rw [← gz509] at A509 EA509 st509
    have ne510 : w2_V ≠ b509 := Nat.ne_of_lt (Nat.lt_of_lt_of_le E_w2_V.lt (Nat.le_of_eq gz509.symm))
    have ne511 : w3_N ≠ b509 := Nat.ne_of_lt (Nat.lt_of_lt_of_le E_w3_N.lt (Nat.le_of_eq gz509.symm))
    have ne512 : w4_P ≠ b509 := Nat.ne_of_lt (Nat.lt_of_lt_of_le E_w4_P.lt (Nat.le_of_eq gz509.symm))
    have ne513 : w5_L ≠ b509 := Nat.ne_of_lt (Nat.lt_of_lt_of_le E_w5_L.lt (Nat.le_of_eq gz509.symm))
    have ne514 : w6_L ≠ b509 := Nat.ne_of_lt (Nat.lt_of_lt_of_le E_w6_L.lt (Nat.le_of_eq gz509.symm))
    have ne515 : w7_B ≠ b509 := Nat.ne_of_lt (Nat.lt_of_lt_of_le V_w7_B.lt (Nat.le_of_eq gz509.symm))
    have ne516 : w8_B ≠ b509 := Nat.ne_of_lt (Nat.lt_of_lt_of_le V_w8_B.lt (Nat.le_of_eq gz509.symm))
    have g517 : n0 ≤ b509 := Nat.le_trans Z0 (Nat.le_of_eq gz509.symm)
    have sz518 : h0.size ≤ b509 := Nat.le_trans (Nat.le_refl h0.size) (Nat.le_of_eq gz509.symm)
    have ch519 := ch0.trans (CHr.ext E509 ch0.1)
    have z520 : n0 ≤ h509.size := Nat.le_trans Z0 E509.1
    have hs521 : h0.size ≤ h509.size := Nat.le_trans (Nat.le_refl h0.size) E509.1
    have hk522 := Nat.le_trans (Nat.le_refl _) E509.1
    have V509 : Arv Z h509 b509 k509 .char (4 : Int32) [(.int (0 : Int32)), (.int (0 : Int32)), (.int (0 : Int32)), (.int (0 : Int32))] (.int (0 : Int32)) := (Arv.new A509 (by decide)).pad (pad_rep [] (.int (0 : Int32)) 4)
    have O524 := (O0.ext E509)
    obtain ⟨vr523, _, ⟨T523, L523, k523, n523⟩, -, X523, hSq523, hgq523, ⟨Lc523, hQ523, l523, y523, z523, Cr523⟩, st523⟩ := Jvm.RoadKit.callSS (s := s.setVm s.vm) X509 hx (y := (⟨"com/example/vellum_index/vellumindex/StemmerLabelledPinLaw", "at", "(IIJZII)C"⟩ : MethodName)) hown (mvT hZ (wd hw 2 rfl)) (mvT hZ (wd hw 3 rfl)) (mvT hZ (wd hw 4 rfl)) (mvT hZ (wd hw 5 rfl)) (by decide) (backOfSH (s := s ) (vm0 := s.vm) (EL := consts_1) (W := 2) (rm1 l Z a0 hw [] (v0_1 p0 p1 p2 p3 q4 w0) (0 : Int32) q4 (v0_3 p0 p1 p2 p3 q4 w0) (v0_6 p0 p1 p2 p3 q4 w0) p3 w0 u1_SF h509 n0 z520 (Sta.ext O524.2 S_String_COMPACT_STRINGS) hcs (Sta.ext O524.2 S_Preconditions_SIOOBE_FORMATTER) hu (by decide)) hZ (wd hw 5 rfl) (wd hw 4 rfl) (by decide) (by decide) (own_ew hw) ch519.1) (g := (mkF m 59 #[.val (.int p0), .val (.int p1), .val (.int p2), .val (.int p3), .val (.long q4), .second, .val (.int (v0_1 p0 p1 p2 p3 q4 w0)), .val (.int (v0_3 p0 p1 p2 p3 q4 w0)), .val (.int (4 : Int32)), .val (.int (v0_6 p0 p1 p2 p3 q4 w0)), .val (.ref b509), .unset, .unset] [(.int p3), (.int (v0_6 p0 p1 p2 p3 q4 w0)), (.int (v0_3 p0 p1 p2 p3 q4 w0)), (.long q4), (.int (0 : Int32)), (.int (v0_1 p0 p1 p2 p3 q4 w0)), (.int (0 : Int32)), (.ref b509)])) rfl (by rw [hml]; rfl) (argsL := [(.int (v0_1 p0 p1 p2 p3 q4 w0)), (.int (0 : Int32)), (.long q4), (.int (v0_3 p0 p1 p2 p3 q4 w0)), (.int (v0_6 p0 p1 p2 p3 q4 w0)), (.int p3)]) (rest := [(.int (0 : Int32)), (.ref b509)]) (lenOf pd__IIJZII_C rfl) rfl (by show 2 * 0 + _ ≤ _; exact Nat.le_of_eq rfl) (hb hby at_59) (fun _ _ => ⟨rfl, e509, (by decide : 1 + 2 ≤ _), (by decide : 4 + 28 ≤ _)⟩)
    dsimp only [Pt.U, Pt.locs, Pt.cells, Pt.slots] at X523 l523 y523 z523 st523 hQ523 hSq523 hgq523 Cr523
    obtain ⟨X523, hS523, hZ, hown⟩ := rebS (s := s) (vm0 := s.vm) (n1 := h509.size) hS0 hk522 X523 hSq523 (by rw [← e509]; exact hgq523) hZ hown
    have ch525 := ch519.trans Cr523
    replace X523 := own_stand X523 l523 y523 z523
    clear l523 y523 z523
    have N523q := (show _ ∧ _ from hQ523).1
    have hq523 := (show _ ∧ _ from hQ523).2
    clear hQ523
    have hv523 := hq523.1
    have K523 := hq523.2
    clear hq523
    subst hv523
    have z526 : n0 ≤ T523.heap.size := Nat.le_trans z520 K523.1
    have hs527 : h0.size ≤ T523.heap.size := Nat.le_trans hs521 K523.1
    have N523 := Fr.app N0 N523q
    have k528 := (V509.keep K523 nin0)
    obtain ⟨cl529, Ar529, qc529, S529, M529, Ha529, G529⟩ := id k528
    have hin530 : ¬ ((0 : Int32) < 0 ∨ cl529.slots.size ≤ ((0 : Int32)).toNatClampNeg) := inb_of S529 ⟨by decide, by decide⟩
    obtain ⟨T531, h531, X531, e531, W531, st531⟩ := stC X523 hx hZ rfl Ar529 (j := (0 : Int32)) hin530 (g := (mkF m 62 #[.val (.int p0), .val (.int p1), .val (.int p2), .val (.int p3), .val (.long q4), .second, .val (.int (v0_1 p0 p1 p2 p3 q4 w0)), .val (.int (v0_3 p0 p1 p2 p3 q4 w0)), .val (.int (4 : Int32)), .val (.int (v0_6 p0 p1 p2 p3 q4 w0)), .val (.ref b509), .unset, .unset] [(.int (f1 (v0_1 p0 p1 p2 p3 q4 w0) (0 : Int32) q4 (v0_3 p0 p1 p2 p3 q4 w0) (v0_6 p0 p1 p2 p3 q4 w0) p3 w0)), (.int (0 : Int32)), (.ref b509)])) rfl rfl (hb hby at_62)
    have V531 : Arv Z h531 b509 k509 .char (4 : Int32) [(.int (v0_28 p0 p1 p2 p3 q4 w0)), (.int (0 : Int32)), (.int (0 : Int32)), (.int (0 : Int32))] (.int (0 : Int32)) := Arv.set Ar529 qc529 S529 M529 Ha529 G529 (fits_nar_char (v0_27 p0 p1 p2 p3 q4 w0)) W531 0 rfl (Nat.le_of_ble_eq_true rfl)
    have N531 := Fr.snoc X531 N523 g517
    have ch532 := ch525.trans (CHr.wr W531 (Safe.arv hZ.alike k528 (fun q => nomatch q)) ch525.1)
    have z533 : n0 ≤ h531.size := Nat.le_trans z526 (Keep.of_wr W531).1
    have hs534 : h0.size ≤ h531.size := Nat.le_trans hs527 (Keep.of_wr W531).1
    have hk535 := Nat.le_trans (Nat.le_refl _) (Keep.of_wr W531).1
    have O537 := ((O524.keep K523 all0).wr W531 g517)
    obtain ⟨vr536, _, ⟨T536, L536, k536, n536⟩, -, X536, hSq536, hgq536, ⟨Lc536, hQ536, l536, y536, z536, Cr536⟩, st536⟩ := Jvm.RoadKit.callSS (s := s.setVm T523.vm) X531 hx (y := (⟨"com/example/vellum_index/vellumindex/StemmerLabelledPinLaw", "at", "(IIJZII)C"⟩ : MethodName)) hown (mvT hZ (wd hw 2 rfl)) (mvT hZ (wd hw 3 rfl)) (mvT hZ (wd hw 4 rfl)) (mvT hZ (wd hw 5 rfl)) (by decide) (backOfSH (s := s ) (vm0 := T523.vm) (EL := consts_1) (W := 2) (rm1 l Z a0 hw [] (v0_1 p0 p1 p2 p3 q4 w0) (1 : Int32) q4 (v0_3 p0 p1 p2 p3 q4 w0) (v0_6 p0 p1 p2 p3 q4 w0) p3 w0 u1_SF h531 n0 z533 (Sta.ext O537.2 S_String_COMPACT_STRINGS) hcs (Sta.ext O537.2 S_Preconditions_SIOOBE_FORMATTER) hu (by decide)) hZ (wd hw 5 rfl) (wd hw 4 rfl) (by decide) (by decide) (own_ew hw) ch532.1) (g := (mkF m 82 #[.val (.int p0), .val (.int p1), .val (.int p2), .val (.int p3), .val (.long q4), .second, .val (.int (v0_1 p0 p1 p2 p3 q4 w0)), .val (.int (v0_3 p0 p1 p2 p3 q4 w0)), .val (.int (4 : Int32)), .val (.int (v0_6 p0 p1 p2 p3 q4 w0)), .val (.ref b509), .unset, .unset] [(.int p3), (.int (v0_6 p0 p1 p2 p3 q4 w0)), (.int (v0_3 p0 p1 p2 p3 q4 w0)), (.long q4), (.int (1 : Int32)), (.int (v0_1 p0 p1 p2 p3 q4 w0)), (.int (1 : Int32)), (.ref b509)])) rfl (by rw [hml]; rfl) (argsL := [(.int (v0_1 p0 p1 p2 p3 q4 w0)), (.int (1 : Int32)), (.long q4), (.int (v0_3 p0 p1 p2 p3 q4 w0)), (.int (v0_6 p0 p1 p2 p3 q4 w0)), (.int p3)]) (rest := [(.int (1 : Int32)), (.ref b509)]) (lenOf pd__IIJZII_C rfl) rfl (by show 2 * 0 + _ ≤ _; exact Nat.le_of_eq rfl) (hb hby at_82) (fun _ _ => ⟨rfl, e531, (by decide : 3 + 2 ≤ _), (by decide : 32 + 28 ≤ _)⟩)
    dsimp only [Pt.U, Pt.locs, Pt.cells, Pt.slots] at X536 l536 y536 z536 st536 hQ536 hSq536 hgq536 Cr536
    obtain ⟨X536, hS536, hZ, hown⟩ := rebS (s := s) (vm0 := T523.vm) (n1 := h531.size) hS523 hk535 X536 hSq536 (by rw [← e531]; exact hgq536) hZ hown
    have ch538 := ch532.trans Cr536
    replace X536 := own_stand X536 l536 y536 z536
    clear l536 y536 z536
    have N536q := (show _ ∧ _ from hQ536).1
    have hq536 := (show _ ∧ _ from hQ536).2
    clear hQ536
    have hv536 := hq536.1
    have K536 := hq536.2
    clear hq536
    subst hv536
    have z539 : n0 ≤ T536.heap.size := Nat.le_trans z533 K536.1
    have hs540 : h0.size ≤ T536.heap.size := Nat.le_trans hs534 K536.1
    have N536 := Fr.app N531 N536q
    have k541 := (V531.keep K536 nin0)
    obtain ⟨cl542, Ar542, qc542, S542, M542, Ha542, G542⟩ := id k541
    have hin543 : ¬ ((1 : Int32) < 0 ∨ cl542.slots.size ≤ ((1 : Int32)).toNatClampNeg) := inb_of S542 ⟨by decide, by decide⟩
    obtain ⟨T544, h544, X544, e544, W544, st544⟩ := stC X536 hx hZ rfl Ar542 (j := (1 : Int32)) hin543 (g := (mkF m 85 #[.val (.int p0), .val (.int p1), .val (.int p2), .val (.int p3), .val (.long q4), .second, .val (.int (v0_1 p0 p1 p2 p3 q4 w0)), .val (.int (v0_3 p0 p1 p2 p3 q4 w0)), .val (.int (4 : Int32)), .val (.int (v0_6 p0 p1 p2 p3 q4 w0)), .val (.ref b509), .unset, .unset] [(.int (f1 (v0_1 p0 p1 p2 p3 q4 w0) (1 : Int32) q4 (v0_3 p0 p1 p2 p3 q4 w0) (v0_6 p0 p1 p2 p3 q4 w0) p3 w0)), (.int (1 : Int32)), (.ref b509)])) rfl rfl (hb hby at_85)
    have V544 : Arv Z h544 b509 k509 .char (4 : Int32) [(.int (v0_28 p0 p1 p2 p3 q4 w0)), (.int (v0_30 p0 p1 p2 p3 q4 w0)), (.int (0 : Int32)), (.int (0 : Int32))] (.int (0 : Int32)) := Arv.set Ar542 qc542 S542 M542 Ha542 G542 (fits_nar_char (v0_29 p0 p1 p2 p3 q4 w0)) W544 1 rfl (Nat.le_of_ble_eq_true rfl)
    have N544 := Fr.snoc X544 N536 g517
    have ch545 := ch538.trans (CHr.wr W544 (Safe.arv hZ.alike k541 (fun q => nomatch q)) ch538.1)
    have z546 : n0 ≤ h544.size := Nat.le_trans z539 (Keep.of_wr W544).1
    have hs547 : h0.size ≤ h544.size := Nat.le_trans hs540 (Keep.of_wr W544).1
    have hk548 := Nat.le_trans (Nat.le_refl _) (Keep.of_wr W544).1
    have O550 := ((O537.keep K536 all0).wr W544 g517)
    obtain ⟨vr549, _, ⟨T549, L549, k549, n549⟩, -, X549, hSq549, hgq549, ⟨Lc549, hQ549, l549, y549, z549, Cr549⟩, st549⟩ := Jvm.RoadKit.callSS (s := s.setVm T536.vm) X544 hx (y := (⟨"com/example/vellum_index/vellumindex/StemmerLabelledPinLaw", "at", "(IIJZII)C"⟩ : MethodName)) hown (mvT hZ (wd hw 2 rfl)) (mvT hZ (wd hw 3 rfl)) (mvT hZ (wd hw 4 rfl)) (mvT hZ (wd hw 5 rfl)) (by decide) (backOfSH (s := s ) (vm0 := T536.vm) (EL := consts_1) (W := 2) (rm1 l Z a0 hw [] (v0_1 p0 p1 p2 p3 q4 w0) (2 : Int32) q4 (v0_3 p0 p1 p2 p3 q4 w0) (v0_6 p0 p1 p2 p3 q4 w0) p3 w0 u1_SF h544 n0 z546 (Sta.ext O550.2 S_String_COMPACT_STRINGS) hcs (Sta.ext O550.2 S_Preconditions_SIOOBE_FORMATTER) hu (by decide)) hZ (wd hw 5 rfl) (wd hw 4 rfl) (by decide) (by decide) (own_ew hw) ch545.1) (g := (mkF m 105 #[.val (.int p0), .val (.int p1), .val (.int p2), .val (.int p3), .val (.long q4), .second, .val (.int (v0_1 p0 p1 p2 p3 q4 w0)), .val (.int (v0_3 p0 p1 p2 p3 q4 w0)), .val (.int (4 : Int32)), .val (.int (v0_6 p0 p1 p2 p3 q4 w0)), .val (.ref b509), .unset, .unset] [(.int p3), (.int (v0_6 p0 p1 p2 p3 q4 w0)), (.int (v0_3 p0 p1 p2 p3 q4 w0)), (.long q4), (.int (2 : Int32)), (.int (v0_1 p0 p1 p2 p3 q4 w0)), (.int (2 : Int32)), (.ref b509)])) rfl (by rw [hml]; rfl) (argsL := [(.int (v0_1 p0 p1 p2 p3 q4 w0)), (.int (2 : Int32)), (.long q4), (.int (v0_3 p0 p1 p2 p3 q4 w0)), (.int (v0_6 p0 p1 p2 p3 q4 w0)), (.int p3)]) (rest := [(.int (2 : Int32)), (.ref b509)]) (lenOf pd__IIJZII_C rfl) rfl (by show 2 * 0 + _ ≤ _; exact Nat.le_of_eq rfl) (hb hby at_105) (fun _ _ => ⟨rfl, e544, (by decide : 5 + 2 ≤ _), (by decide : 60 + 28 ≤ _)⟩)
    dsimp only [Pt.U, Pt.locs, Pt.cells, Pt.slots] at X549 l549 y549 z549 st549 hQ549 hSq549 hgq549 Cr549
    obtain ⟨X549, hS549, hZ, hown⟩ := rebS (s := s) (vm0 := T536.vm) (n1 := h544.size) hS536 hk548 X549 hSq549 (by rw [← e544]; exact hgq549) hZ hown
    have ch551 := ch545.trans Cr549
    replace X549 := own_stand X549 l549 y549 z549
    clear l549 y549 z549
    have N549q := (show _ ∧ _ from hQ549).1
    have hq549 := (show _ ∧ _ from hQ549).2
    clear hQ549
    have hv549 := hq549.1
    have K549 := hq549.2
    clear hq549
    subst hv549
    have z552 : n0 ≤ T549.heap.size := Nat.le_trans z546 K549.1
    have hs553 : h0.size ≤ T549.heap.size := Nat.le_trans hs547 K549.1
    have N549 := Fr.app N544 N549q
    have k554 := (V544.keep K549 nin0)
    obtain ⟨cl555, Ar555, qc555, S555, M555, Ha555, G555⟩ := id k554
    have hin556 : ¬ ((2 : Int32) < 0 ∨ cl555.slots.size ≤ ((2 : Int32)).toNatClampNeg) := inb_of S555 ⟨by decide, by decide⟩
    obtain ⟨T557, h557, X557, e557, W557, st557⟩ := stC X549 hx hZ rfl Ar555 (j := (2 : Int32)) hin556 (g := (mkF m 108 #[.val (.int p0), .val (.int p1), .val (.int p2), .val (.int p3), .val (.long q4), .second, .val (.int (v0_1 p0 p1 p2 p3 q4 w0)), .val (.int (v0_3 p0 p1 p2 p3 q4 w0)), .val (.int (4 : Int32)), .val (.int (v0_6 p0 p1 p2 p3 q4 w0)), .val (.ref b509), .unset, .unset] [(.int (f1 (v0_1 p0 p1 p2 p3 q4 w0) (2 : Int32) q4 (v0_3 p0 p1 p2 p3 q4 w0) (v0_6 p0 p1 p2 p3 q4 w0) p3 w0)), (.int (2 : Int32)), (.ref b509)])) rfl rfl (hb hby at_108)
    have V557 : Arv Z h557 b509 k509 .char (4 : Int32) [(.int (v0_28 p0 p1 p2 p3 q4 w0)), (.int (v0_30 p0 p1 p2 p3 q4 w0)), (.int (v0_32 p0 p1 p2 p3 q4 w0)), (.int (0 : Int32))] (.int (0 : Int32)) := Arv.set Ar555 qc555 S555 M555 Ha555 G555 (fits_nar_char (v0_31 p0 p1 p2 p3 q4 w0)) W557 2 rfl (Nat.le_of_ble_eq_true rfl)
    have N557 := Fr.snoc X557 N549 g517
    have ch558 := ch551.trans (CHr.wr W557 (Safe.arv hZ.alike k554 (fun q => nomatch q)) ch551.1)
    have z559 : n0 ≤ h557.size := Nat.le_trans z552 (Keep.of_wr W557).1
    have hs560 : h0.size ≤ h557.size := Nat.le_trans hs553 (Keep.of_wr W557).1
    have hk561 := Nat.le_trans (Nat.le_refl _) (Keep.of_wr W557).1
    have O563 := ((O550.keep K549 all0).wr W557 g517)
    obtain ⟨vr562, _, ⟨T562, L562, k562, n562⟩, -, X562, hSq562, hgq562, ⟨Lc562, hQ562, l562, y562, z562, Cr562⟩, st562⟩ := Jvm.RoadKit.callSS (s := s.setVm T549.vm) X557 hx (y := (⟨"com/example/vellum_index/vellumindex/StemmerLabelledPinLaw", "at", "(IIJZII)C"⟩ : MethodName)) hown (mvT hZ (wd hw 2 rfl)) (mvT hZ (wd hw 3 rfl)) (mvT hZ (wd hw 4 rfl)) (mvT hZ (wd hw 5 rfl)) (by decide) (backOfSH (s := s ) (vm0 := T549.vm) (EL := consts_1) (W := 2) (rm1 l Z a0 hw [] (v0_1 p0 p1 p2 p3 q4 w0) (3 : Int32) q4 (v0_3 p0 p1 p2 p3 q4 w0) (v0_6 p0 p1 p2 p3 q4 w0) p3 w0 u1_SF h557 n0 z559 (Sta.ext O563.2 S_String_COMPACT_STRINGS) hcs (Sta.ext O563.2 S_Preconditions_SIOOBE_FORMATTER) hu (by decide)) hZ (wd hw 5 rfl) (wd hw 4 rfl) (by decide) (by decide) (own_ew hw) ch558.1) (g := (mkF m 128 #[.val (.int p0), .val (.int p1), .val (.int p2), .val (.int p3), .val (.long q4), .second, .val (.int (v0_1 p0 p1 p2 p3 q4 w0)), .val (.int (v0_3 p0 p1 p2 p3 q4 w0)), .val (.int (4 : Int32)), .val (.int (v0_6 p0 p1 p2 p3 q4 w0)), .val (.ref b509), .unset, .unset] [(.int p3), (.int (v0_6 p0 p1 p2 p3 q4 w0)), (.int (v0_3 p0 p1 p2 p3 q4 w0)), (.long q4), (.int (3 : Int32)), (.int (v0_1 p0 p1 p2 p3 q4 w0)), (.int (3 : Int32)), (.ref b509)])) rfl (by rw [hml]; rfl) (argsL := [(.int (v0_1 p0 p1 p2 p3 q4 w0)), (.int (3 : Int32)), (.long q4), (.int (v0_3 p0 p1 p2 p3 q4 w0)), (.int (v0_6 p0 p1 p2 p3 q4 w0)), (.int p3)]) (rest := [(.int (3 : Int32)), (.ref b509)]) (lenOf pd__IIJZII_C rfl) rfl (by show 2 * 0 + _ ≤ _; exact Nat.le_of_eq rfl) (hb hby at_128) (fun _ _ => ⟨rfl, e557, (by decide : 7 + 2 ≤ _), (by decide : 88 + 28 ≤ _)⟩)
    dsimp only [Pt.U, Pt.locs, Pt.cells, Pt.slots] at X562 l562 y562 z562 st562 hQ562 hSq562 hgq562 Cr562
    obtain ⟨X562, hS562, hZ, hown⟩ := rebS (s := s) (vm0 := T549.vm) (n1 := h557.size) hS549 hk561 X562 hSq562 (by rw [← e557]; exact hgq562) hZ hown
    have ch564 := ch558.trans Cr562
    replace X562 := own_stand X562 l562 y562 z562
    clear l562 y562 z562
    have N562q := (show _ ∧ _ from hQ562).1
    have hq562 := (show _ ∧ _ from hQ562).2
    clear hQ562
    have hv562 := hq562.1
    have K562 := hq562.2
    clear hq562
    subst hv562
    have z565 : n0 ≤ T562.heap.size := Nat.le_trans z559 K562.1
    have hs566 : h0.size ≤ T562.heap.size := Nat.le_trans hs560 K562.1
    have N562 := Fr.app N557 N562q
    have k567 := (V557.keep K562 nin0)
    obtain ⟨cl568, Ar568, qc568, S568, M568, Ha568, G568⟩ := id k567
    have hin569 : ¬ ((3 : Int32) < 0 ∨ cl568.slots.size ≤ ((3 : Int32)).toNatClampNeg) := inb_of S568 ⟨by decide, by decide⟩
    obtain ⟨T570, h570, X570, e570, W570, st570⟩ := stC X562 hx hZ rfl Ar568 (j := (3 : Int32)) hin569 (g := (mkF m 131 #[.val (.int p0), .val (.int p1), .val (.int p2), .val (.int p3), .val (.long q4), .second, .val (.int (v0_1 p0 p1 p2 p3 q4 w0)), .val (.int (v0_3 p0 p1 p2 p3 q4 w0)), .val (.int (4 : Int32)), .val (.int (v0_6 p0 p1 p2 p3 q4 w0)), .val (.ref b509), .unset, .unset] [(.int (f1 (v0_1 p0 p1 p2 p3 q4 w0) (3 : Int32) q4 (v0_3 p0 p1 p2 p3 q4 w0) (v0_6 p0 p1 p2 p3 q4 w0) p3 w0)), (.int (3 : Int32)), (.ref b509)])) rfl rfl (hb hby at_131)
    have V570 : Arv Z h570 b509 k509 .char (4 : Int32) [(.int (v0_28 p0 p1 p2 p3 q4 w0)), (.int (v0_30 p0 p1 p2 p3 q4 w0)), (.int (v0_32 p0 p1 p2 p3 q4 w0)), (.int (v0_34 p0 p1 p2 p3 q4 w0))] (.int (0 : Int32)) := Arv.set Ar568 qc568 S568 M568 Ha568 G568 (fits_nar_char (v0_33 p0 p1 p2 p3 q4 w0)) W570 3 rfl (Nat.le_of_ble_eq_true rfl)
    have N570 := Fr.snoc X570 N562 g517
    have ch571 := ch564.trans (CHr.wr W570 (Safe.arv hZ.alike k567 (fun q => nomatch q)) ch564.1)
    have z572 : n0 ≤ h570.size := Nat.le_trans z565 (Keep.of_wr W570).1
    have hs573 : h0.size ≤ h570.size := Nat.le_trans hs566 (Keep.of_wr W570).1
    have hk574 := Nat.le_trans (Nat.le_refl _) (Keep.of_wr W570).1
    obtain ⟨T575, h575, X575, e575, E575, A575, D575, -, st575⟩ := newO X570 hx hZ hown (wd hw 52 rfl) (wd hw 11 rfl) (wd hw 10 rfl) e570 (g := (mkF m 204 #[.val (.int p0), .val (.int p1), .val (.int p2), .val (.int p3), .val (.long q4), .second, .val (.int (v0_1 p0 p1 p2 p3 q4 w0)), .val (.int (v0_3 p0 p1 p2 p3 q4 w0)), .val (.int (4 : Int32)), .val (.int (v0_6 p0 p1 p2 p3 q4 w0)), .val (.ref b509), .unset, .unset] [])) rfl (hb hby at_204) (by decide) (by decide)
    obtain ⟨b575, gz575⟩ : ∃ z, z = h570.size := ⟨_, rfl⟩
    rw [← gz575] at A575 D575 st575
    have k576 := (((((((((E_w2_V.ext E509).keep K523).wr W531).keep K536).wr W544).keep K549).wr W557).keep K562).wr W570)
    have ne577 : w2_V ≠ b575 := Nat.ne_of_lt (Nat.lt_of_lt_of_le k576.lt (Nat.le_of_eq gz575.symm))
    have k578 := (((((((((E_w3_N.ext E509).keep K523).wr W531).keep K536).wr W544).keep K549).wr W557).keep K562).wr W570)
    have ne579 : w3_N ≠ b575 := Nat.ne_of_lt (Nat.lt_of_lt_of_le k578.lt (Nat.le_of_eq gz575.symm))
    have k580 := (((((((((E_w4_P.ext E509).keep K523).wr W531).keep K536).wr W544).keep K549).wr W557).keep K562).wr W570)
    have ne581 : w4_P ≠ b575 := Nat.ne_of_lt (Nat.lt_of_lt_of_le k580.lt (Nat.le_of_eq gz575.symm))
    have k582 := (((((((((E_w5_L.ext E509).keep K523).wr W531).keep K536).wr W544).keep K549).wr W557).keep K562).wr W570)
    have ne583 : w5_L ≠ b575 := Nat.ne_of_lt (Nat.lt_of_lt_of_le k582.lt (Nat.le_of_eq gz575.symm))
    have k584 := (((((((((E_w6_L.ext E509).keep K523).wr W531).keep K536).wr W544).keep K549).wr W557).keep K562).wr W570)
    have ne585 : w6_L ≠ b575 := Nat.ne_of_lt (Nat.lt_of_lt_of_le k584.lt (Nat.le_of_eq gz575.symm))
    have k586 := ((((((((EA509.keep K523).wr W531).keep K536).wr W544).keep K549).wr W557).keep K562).wr W570)
    have ne587 : b509 ≠ b575 := Nat.ne_of_lt (Nat.lt_of_lt_of_le k586.lt (Nat.le_of_eq gz575.symm))
    have k588 := (((((((((V_w7_B.ext E509).keep K523 nin0).other W531 ne515).keep K536 nin0).other W544 ne515).keep K549 nin0).other W557 ne515).keep K562 nin0).other W570 ne515)
    have ne589 : w7_B ≠ b575 := Nat.ne_of_lt (Nat.lt_of_lt_of_le k588.lt (Nat.le_of_eq gz575.symm))
    have k590 := (((((((((V_w8_B.ext E509).keep K523 nin0).other W531 ne516).keep K536 nin0).other W544 ne516).keep K549 nin0).other W557 ne516).keep K562 nin0).other W570 ne516)
    have ne591 : w8_B ≠ b575 := Nat.ne_of_lt (Nat.lt_of_lt_of_le k590.lt (Nat.le_of_eq gz575.symm))
    have g592 : n0 ≤ b575 := Nat.le_trans z572 (Nat.le_of_eq gz575.symm)
    have sz593 : h0.size ≤ b575 := Nat.le_trans hs573 (Nat.le_of_eq gz575.symm)
    have ch594 := ch571.trans (CHr.ext E575 ch571.1)
    have z595 : n0 ≤ h575.size := Nat.le_trans z572 E575.1
    have hs596 : h0.size ≤ h575.size := Nat.le_trans hs573 E575.1
    have hk597 := Nat.le_trans hk574 E575.1
    have sf598 := Safe.ext E575 ch571.1 (Safe.new (Z := Z) (EL := consts_1) (vm := T562.vm) (Nat.le_of_eq gz575.symm))
    have F575_value : Fld Z h575 b575 "java/lang/String" "value" "[B" .null := D575 (Or.inr (wd hw 13 rfl)) (ty := (.array .byte)) (by decide)
    have F575_coder : Fld Z h575 b575 "java/lang/String" "coder" "B" (.int (0 : Int32)) := D575 (Or.inr (wd hw 14 rfl)) (ty := .byte) (by decide)
    have k600 := (V570.ext E575)
    have O601 := (((O563.keep K562 all0).wr W570 g517).ext E575)
    obtain ⟨vr599, _, ⟨T599, L599, k599, n599⟩, -, X599, ⟨Lc599, hQ599, l599, y599, z599⟩, st599⟩ := Jvm.Stand.specialBack X575 hx (y := (⟨"java/lang/String", "<init>", "([C)V"⟩ : MethodName)) rfl hown (mvT hZ (wd hw 53 rfl)) (mvT hZ (wd hw 54 rfl)) (mvT hZ (wd hw 55 rfl)) (by decide) (own_newS (W := 1) (cs := [(v0_28 p0 p1 p2 p3 q4 w0), (v0_30 p0 p1 p2 p3 q4 w0), (v0_32 p0 p1 p2 p3 q4 w0), (v0_34 p0 p1 p2 p3 q4 w0)]) (vs := [(.int (own_b (v0_28 p0 p1 p2 p3 q4 w0))), (.int (own_b (v0_30 p0 p1 p2 p3 q4 w0))), (.int (own_b (v0_32 p0 p1 p2 p3 q4 w0))), (.int (own_b (v0_34 p0 p1 p2 p3 q4 w0)))]) (n := 4) hZ hw g592 z595 A575 F575_value F575_coder k600 (Sta.ext O601.2 S_String_COMPACT_STRINGS) hcs rfl rfl (by decide) (by decide) (own_alc (own_at _ _ _ _ _ _ _) (own_alc (own_at _ _ _ _ _ _ _) (own_alc (own_at _ _ _ _ _ _ _) (own_alc (own_at _ _ _ _ _ _ _) own_aln)))) rfl (by decide) (by decide)) (g := (mkF m 210 #[.val (.int p0), .val (.int p1), .val (.int p2), .val (.int p3), .val (.long q4), .second, .val (.int (v0_1 p0 p1 p2 p3 q4 w0)), .val (.int (v0_3 p0 p1 p2 p3 q4 w0)), .val (.int (4 : Int32)), .val (.int (v0_6 p0 p1 p2 p3 q4 w0)), .val (.ref b509), .unset, .unset] [(.ref b509), (.ref b575), (.ref b575)])) rfl (by rw [hml]; rfl) (Steps.refl _) (a := b575) (argsL := [(.ref b509)]) (rest := [(.ref b575)]) (lenOf pd___C_V rfl) rfl (by show 2 * 0 + _ ≤ _; exact Nat.le_of_eq rfl) (hb hby at_210) (fun _ _ => ⟨rfl, e575, (by decide : 10 + 1 ≤ _), (by decide : 120 + 4 ≤ _)⟩)
    dsimp only [Pt.U, Pt.locs, Pt.cells, Pt.slots] at X599 l599 y599 z599 st599 hQ599
    replace X599 := own_stand X599 l599 y599 z599
    clear l599 y599 z599
    have N599q := (show _ ∧ _ from hQ599).1
    have hq599 := (show _ ∧ _ from hQ599).2
    clear hQ599
    obtain ⟨xsn_0_599, ksn_1_599, hq599x⟩ := hq599
    have hv599 := hq599x.1
    have szxsn_0_599 := hq599x.2.1
    have K599 := hq599x.2.2.1
    have po599_0 := hq599x.2.2.2.1
    have po599_1 := hq599x.2.2.2.2.1
    have po599_2 := hq599x.2.2.2.2.2.1
    have po599_3 := hq599x.2.2.2.2.2.2
    clear hq599x
    subst hv599
    have k602 := (k576.ext E575)
    have ne603 : w2_V ≠ xsn_0_599 := Nat.ne_of_lt (Nat.lt_of_lt_of_le k602.lt szxsn_0_599)
    have k604 := (k578.ext E575)
    have ne605 : w3_N ≠ xsn_0_599 := Nat.ne_of_lt (Nat.lt_of_lt_of_le k604.lt szxsn_0_599)
    have k606 := (k580.ext E575)
    have ne607 : w4_P ≠ xsn_0_599 := Nat.ne_of_lt (Nat.lt_of_lt_of_le k606.lt szxsn_0_599)
    have k608 := (k582.ext E575)
    have ne609 : w5_L ≠ xsn_0_599 := Nat.ne_of_lt (Nat.lt_of_lt_of_le k608.lt szxsn_0_599)
    have k610 := (k584.ext E575)
    have ne611 : w6_L ≠ xsn_0_599 := Nat.ne_of_lt (Nat.lt_of_lt_of_le k610.lt szxsn_0_599)
    have k612 := (k586.ext E575)
    have ne613 : b509 ≠ xsn_0_599 := Nat.ne_of_lt (Nat.lt_of_lt_of_le k612.lt szxsn_0_599)
    have ne614 : b575 ≠ xsn_0_599 := Nat.ne_of_lt (Nat.lt_of_lt_of_le A575.lt szxsn_0_599)
    have k615 := (k588.ext E575)
    have ne616 : w7_B ≠ xsn_0_599 := Nat.ne_of_lt (Nat.lt_of_lt_of_le k615.lt szxsn_0_599)
    have k617 := (k590.ext E575)
    have ne618 : w8_B ≠ xsn_0_599 := Nat.ne_of_lt (Nat.lt_of_lt_of_le k617.lt szxsn_0_599)
    have g619 : n0 ≤ xsn_0_599 := Nat.le_trans z595 szxsn_0_599
    have sz620 : h0.size ≤ xsn_0_599 := Nat.le_trans hs596 szxsn_0_599
    have sf622 := Safe.keep K599 (sfS sf598 sf0) ch594.1 sf598
    have ch621 := ch594.trans (CHr.keep K599 (sfS sf598 sf0) ch594.1)
    have z623 : n0 ≤ T599.heap.size := Nat.le_trans z595 K599.1
    have hs624 : h0.size ≤ T599.heap.size := Nat.le_trans hs596 K599.1
    have hk625 := Nat.le_trans hk597 K599.1
    have N599 := Fr.app N570 N599q
    obtain ⟨la626, T626, h626, kk626, lb626, lk626, X626, e626, E626, hS626, hk626, hZ, hown, Ex626, Fc626, Fv626, V626, -, -, Cr626, Lt626, Sf626, st626⟩ := ldcCH (s := s) (vm0 := T562.vm) (EL := consts_1) X599 hx hZ hown (wd hw 9 rfl) (own_ws hw) rfl hS562 hk625 (own_ew hw) (List.mem_of_getElem? (i := 0) rfl) ch621.1 (z := (4 : Int32)) (vs := [(.int (110 : Int32)), (.int (111 : Int32)), (.int (110 : Int32)), (.int (101 : Int32))]) ⟨by decide, by rfl⟩ (by decide) rfl (g := (mkF m 220 #[.val (.int p0), .val (.int p1), .val (.int p2), .val (.int p3), .val (.long q4), .second, .val (.int (v0_1 p0 p1 p2 p3 q4 w0)), .val (.int (v0_3 p0 p1 p2 p3 q4 w0)), .val (.int (4 : Int32)), .val (.int (v0_6 p0 p1 p2 p3 q4 w0)), .val (.ref b509), .val (.ref b575), .val .null] [(.ref b575)])) rfl (hb hby at_220) (n := 16) (by decide) (by decide) (by decide) (by decide)
    have sf627 := Cr626.safe po599_0.lt sf622
    have ch628 := ch621.trans Cr626
    have z629 : n0 ≤ h626.size := Nat.le_trans z623 E626.1
    have hs630 : h0.size ≤ h626.size := Nat.le_trans hs624 E626.1
    have ne631 := Sf626 _ sf627
    have k632 := ((((((((((((V_w2_V.ext E509).keep K523 nin0).other W531 ne510).keep K536 nin0).other W544 ne510).keep K549 nin0).other W557 ne510).keep K562 nin0).other W570 ne510).ext E575).keep K599 (ninS ne577 nin0)).ext E626)
    have k633 := ((k600.keep K599 (ninS ne587 nin0)).ext E626)
    have k635 := (po599_0.ext E626)
    have k636 := (po599_1.ext E626)
    have k637 := (po599_2.ext E626)
    have k638 := (po599_3.ext E626)
    have O639 := ((O601.keep K599 (allS g592 all0)).ext E626)
    obtain ⟨cq634, kq634, q634a, q634b, q634c⟩ := isOf hZ e626 k635
    obtain ⟨vr634, _, ⟨T634, L634, k634, n634⟩, -, X634, ⟨Lc634, hQ634, l634, y634, z634⟩, st634⟩ := Jvm.Stand.virtualBack X626 hx (y := (⟨"java/lang/String", "equals", "(Ljava/lang/Object;)Z"⟩ : MethodName)) (z := (⟨"java/lang/String", "equals", "(Ljava/lang/Object;)Z"⟩ : MethodName)) hown (mvT hZ (wd hw 73 rfl)) (mvT hZ (wd hw 74 rfl)) (notFace_of_selects (args := #[]) (mvT hZ (wd hw 76 rfl))) (mvT hZ (wd hw 76 rfl)) (mvT hZ (wd hw 75 rfl)) (by decide) (backOf (W := 0) (rmsq4 l Z a0 hw [] b575 la626 xsn_0_599 (own_b (v0_28 p0 p1 p2 p3 q4 w0)) (own_b (v0_30 p0 p1 p2 p3 q4 w0)) (own_b (v0_32 p0 p1 p2 p3 q4 w0)) (own_b (v0_34 p0 p1 p2 p3 q4 w0)) ksn_1_599 lb626 (110 : Int32) (111 : Int32) (110 : Int32) (101 : Int32) lk626 w0 h626 n0 z629 k635 k636 k637 k638 Ex626 Fc626 Fv626 V626 ne631.1 (Sta.ext O639.2 S_String_COMPACT_STRINGS) hcs) hZ (wd hw 77 rfl) (wd hw 10 rfl) (by decide) (by decide)) q634a q634c (g := (mkF m 222 #[.val (.int p0), .val (.int p1), .val (.int p2), .val (.int p3), .val (.long q4), .second, .val (.int (v0_1 p0 p1 p2 p3 q4 w0)), .val (.int (v0_3 p0 p1 p2 p3 q4 w0)), .val (.int (4 : Int32)), .val (.int (v0_6 p0 p1 p2 p3 q4 w0)), .val (.ref b509), .val (.ref b575), .val .null] [(.ref la626), (.ref b575)])) rfl (by rw [hml]; rfl) (Steps.refl _) (argsL := [(.ref la626)]) (rest := []) (lenOf pd__Ljava_lang_Object__Z rfl) rfl (by show 2 * 0 + _ ≤ _; exact Nat.le_of_eq rfl) (hb hby at_222) (fun _ _ => ⟨rfl, e626, (by decide : 13 + 0 ≤ _), (by decide : 144 + 0 ≤ _)⟩)
    dsimp only [Pt.U, Pt.locs, Pt.cells, Pt.slots] at X634 l634 y634 z634 st634 hQ634
    replace X634 := own_stand X634 l634 y634 z634
    clear l634 y634 z634
    have N634q := (show _ ∧ _ ∧ _ from hQ634).1
    have hv634 := (show _ ∧ _ ∧ _ from hQ634).2.1
    have e634 := (show _ ∧ _ ∧ _ from hQ634).2.2
    clear hQ634
    subst hv634
    have N634 := Fr.app N599 N634q
    have pre640 : ∀ t, Steps p.tables e below (T634.setTop (mkF m 225 #[.val (.int p0), .val (.int p1), .val (.int p2), .val (.int p3), .val (.long q4), .second, .val (.int (v0_1 p0 p1 p2 p3 q4 w0)), .val (.int (v0_3 p0 p1 p2 p3 q4 w0)), .val (.int (4 : Int32)), .val (.int (v0_6 p0 p1 p2 p3 q4 w0)), .val (.ref b509), .val (.ref b575), .val .null] [(.int (fsq4 (own_b (v0_28 p0 p1 p2 p3 q4 w0)) (own_b (v0_30 p0 p1 p2 p3 q4 w0)) (own_b (v0_32 p0 p1 p2 p3 q4 w0)) (own_b (v0_34 p0 p1 p2 p3 q4 w0)) (110 : Int32) (111 : Int32) (110 : Int32) (101 : Int32) w0))])) t → Steps p.tables e below (s₁.setTop (entryFrame m #[(.int p0), (.int p1), (.int p2), (.int p3), (.long q4)] maxLocals)) t := by
      intro t k
      refine pre4 t ?_
      show Steps p.tables e below (s₁.setTop (mkF m 35 #[.val (.int p0), .val (.int p1), .val (.int p2), .val (.int p3), .val (.long q4), .second, .val (.int (v0_1 p0 p1 p2 p3 q4 w0)), .val (.int (v0_3 p0 p1 p2 p3 q4 w0)), .val (.int (4 : Int32)), .val (.int (v0_6 p0 p1 p2 p3 q4 w0)), .unset, .unset, .unset] [])) _
      refine XS.iload X0.here hx rfl (hb hby at_35) rfl ?_
      show Steps p.tables e below (s₁.setTop (mkF m 37 #[.val (.int p0), .val (.int p1), .val (.int p2), .val (.int p3), .val (.long q4), .second, .val (.int (v0_1 p0 p1 p2 p3 q4 w0)), .val (.int (v0_3 p0 p1 p2 p3 q4 w0)), .val (.int (4 : Int32)), .val (.int (v0_6 p0 p1 p2 p3 q4 w0)), .unset, .unset, .unset] [(.int (4 : Int32))])) _
      refine st509 _ ?_
      refine XS.astore X509.here hx rfl (hb hby at_39) rfl rfl (l' := #[.val (.int p0), .val (.int p1), .val (.int p2), .val (.int p3), .val (.long q4), .second, .val (.int (v0_1 p0 p1 p2 p3 q4 w0)), .val (.int (v0_3 p0 p1 p2 p3 q4 w0)), .val (.int (4 : Int32)), .val (.int (v0_6 p0 p1 p2 p3 q4 w0)), .val (.ref b509), .unset, .unset]) rfl ?_
      refine XS.iload X509.here hx rfl (hb hby at_41) rfl ?_
      show Steps p.tables e below (T509.setTop (mkF m 43 #[.val (.int p0), .val (.int p1), .val (.int p2), .val (.int p3), .val (.long q4), .second, .val (.int (v0_1 p0 p1 p2 p3 q4 w0)), .val (.int (v0_3 p0 p1 p2 p3 q4 w0)), .val (.int (4 : Int32)), .val (.int (v0_6 p0 p1 p2 p3 q4 w0)), .val (.ref b509), .unset, .unset] [(.int (4 : Int32))])) _
      refine XS.ifNo X509.here hx rfl (hb hby at_43) rfl (XT.i0_le_f (by decide)) ?_
      refine XS.aload X509.here hx rfl (hb hby at_46) rfl rfl ?_
      refine XT.iconstV X509.here hx rfl (0 : Int32) (hb hby at_48) (by decide) ?_
      refine XS.iload X509.here hx rfl (hb hby at_49) rfl ?_
      show Steps p.tables e below (T509.setTop (mkF m 51 #[.val (.int p0), .val (.int p1), .val (.int p2), .val (.int p3), .val (.long q4), .second, .val (.int (v0_1 p0 p1 p2 p3 q4 w0)), .val (.int (v0_3 p0 p1 p2 p3 q4 w0)), .val (.int (4 : Int32)), .val (.int (v0_6 p0 p1 p2 p3 q4 w0)), .val (.ref b509), .unset, .unset] [(.int (v0_1 p0 p1 p2 p3 q4 w0)), (.int (0 : Int32)), (.ref b509)])) _
      refine XT.iconstV X509.here hx rfl (0 : Int32) (hb hby at_51) (by decide) ?_
      refine XT.lload X509.here hx rfl (hb hby at_52) rfl ?_
      refine XS.iload X509.here hx rfl (hb hby at_54) rfl ?_
      refine XS.iload X509.here hx rfl (hb hby at_56) rfl ?_
      show Steps p.tables e below (T509.setTop (mkF m 58 #[.val (.int p0), .val (.int p1), .val (.int p2), .val (.int p3), .val (.long q4), .second, .val (.int (v0_1 p0 p1 p2 p3 q4 w0)), .val (.int (v0_3 p0 p1 p2 p3 q4 w0)), .val (.int (4 : Int32)), .val (.int (v0_6 p0 p1 p2 p3 q4 w0)), .val (.ref b509), .unset, .unset] [(.int (v0_6 p0 p1 p2 p3 q4 w0)), (.int (v0_3 p0 p1 p2 p3 q4 w0)), (.long q4), (.int (0 : Int32)), (.int (v0_1 p0 p1 p2 p3 q4 w0)), (.int (0 : Int32)), (.ref b509)])) _
      refine XS.iloadN X509.here hx rfl (hb hby at_58) rfl ?_
      show Steps p.tables e below (T509.setTop (mkF m 59 #[.val (.int p0), .val (.int p1), .val (.int p2), .val (.int p3), .val (.long q4), .second, .val (.int (v0_1 p0 p1 p2 p3 q4 w0)), .val (.int (v0_3 p0 p1 p2 p3 q4 w0)), .val (.int (4 : Int32)), .val (.int (v0_6 p0 p1 p2 p3 q4 w0)), .val (.ref b509), .unset, .unset] [(.int p3), (.int (v0_6 p0 p1 p2 p3 q4 w0)), (.int (v0_3 p0 p1 p2 p3 q4 w0)), (.long q4), (.int (0 : Int32)), (.int (v0_1 p0 p1 p2 p3 q4 w0)), (.int (0 : Int32)), (.ref b509)])) _
      refine st523.trans ?_
      show Steps p.tables e below (T523.setTop (mkF m 62 #[.val (.int p0), .val (.int p1), .val (.int p2), .val (.int p3), .val (.long q4), .second, .val (.int (v0_1 p0 p1 p2 p3 q4 w0)), .val (.int (v0_3 p0 p1 p2 p3 q4 w0)), .val (.int (4 : Int32)), .val (.int (v0_6 p0 p1 p2 p3 q4 w0)), .val (.ref b509), .unset, .unset] [(.int (f1 (v0_1 p0 p1 p2 p3 q4 w0) (0 : Int32) q4 (v0_3 p0 p1 p2 p3 q4 w0) (v0_6 p0 p1 p2 p3 q4 w0) p3 w0)), (.int (0 : Int32)), (.ref b509)])) _
      refine st531 _ ?_
      refine XS.iload X531.here hx rfl (hb hby at_63) rfl ?_
      refine XT.iconstV X531.here hx rfl (1 : Int32) (hb hby at_65) (by decide) ?_
      show Steps p.tables e below (T531.setTop (mkF m 66 #[.val (.int p0), .val (.int p1), .val (.int p2), .val (.int p3), .val (.long q4), .second, .val (.int (v0_1 p0 p1 p2 p3 q4 w0)), .val (.int (v0_3 p0 p1 p2 p3 q4 w0)), .val (.int (4 : Int32)), .val (.int (v0_6 p0 p1 p2 p3 q4 w0)), .val (.ref b509), .unset, .unset] [(.int (1 : Int32)), (.int (4 : Int32))])) _
      refine XS.icmpNo X531.here hx rfl (hb hby at_66) rfl (XT.ii_le_f (by decide)) ?_
      refine XS.aload X531.here hx rfl (hb hby at_69) rfl rfl ?_
      refine XT.iconstV X531.here hx rfl (1 : Int32) (hb hby at_71) (by decide) ?_
      refine XS.iload X531.here hx rfl (hb hby at_72) rfl ?_
      show Steps p.tables e below (T531.setTop (mkF m 74 #[.val (.int p0), .val (.int p1), .val (.int p2), .val (.int p3), .val (.long q4), .second, .val (.int (v0_1 p0 p1 p2 p3 q4 w0)), .val (.int (v0_3 p0 p1 p2 p3 q4 w0)), .val (.int (4 : Int32)), .val (.int (v0_6 p0 p1 p2 p3 q4 w0)), .val (.ref b509), .unset, .unset] [(.int (v0_1 p0 p1 p2 p3 q4 w0)), (.int (1 : Int32)), (.ref b509)])) _
      refine XT.iconstV X531.here hx rfl (1 : Int32) (hb hby at_74) (by decide) ?_
      refine XT.lload X531.here hx rfl (hb hby at_75) rfl ?_
      refine XS.iload X531.here hx rfl (hb hby at_77) rfl ?_
      refine XS.iload X531.here hx rfl (hb hby at_79) rfl ?_
      show Steps p.tables e below (T531.setTop (mkF m 81 #[.val (.int p0), .val (.int p1), .val (.int p2), .val (.int p3), .val (.long q4), .second, .val (.int (v0_1 p0 p1 p2 p3 q4 w0)), .val (.int (v0_3 p0 p1 p2 p3 q4 w0)), .val (.int (4 : Int32)), .val (.int (v0_6 p0 p1 p2 p3 q4 w0)), .val (.ref b509), .unset, .unset] [(.int (v0_6 p0 p1 p2 p3 q4 w0)), (.int (v0_3 p0 p1 p2 p3 q4 w0)), (.long q4), (.int (1 : Int32)), (.int (v0_1 p0 p1 p2 p3 q4 w0)), (.int (1 : Int32)), (.ref b509)])) _
      refine XS.iloadN X531.here hx rfl (hb hby at_81) rfl ?_
      show Steps p.tables e below (T531.setTop (mkF m 82 #[.val (.int p0), .val (.int p1), .val (.int p2), .val (.int p3), .val (.long q4), .second, .val (.int (v0_1 p0 p1 p2 p3 q4 w0)), .val (.int (v0_3 p0 p1 p2 p3 q4 w0)), .val (.int (4 : Int32)), .val (.int (v0_6 p0 p1 p2 p3 q4 w0)), .val (.ref b509), .unset, .unset] [(.int p3), (.int (v0_6 p0 p1 p2 p3 q4 w0)), (.int (v0_3 p0 p1 p2 p3 q4 w0)), (.long q4), (.int (1 : Int32)), (.int (v0_1 p0 p1 p2 p3 q4 w0)), (.int (1 : Int32)), (.ref b509)])) _
      refine st536.trans ?_
      show Steps p.tables e below (T536.setTop (mkF m 85 #[.val (.int p0), .val (.int p1), .val (.int p2), .val (.int p3), .val (.long q4), .second, .val (.int (v0_1 p0 p1 p2 p3 q4 w0)), .val (.int (v0_3 p0 p1 p2 p3 q4 w0)), .val (.int (4 : Int32)), .val (.int (v0_6 p0 p1 p2 p3 q4 w0)), .val (.ref b509), .unset, .unset] [(.int (f1 (v0_1 p0 p1 p2 p3 q4 w0) (1 : Int32) q4 (v0_3 p0 p1 p2 p3 q4 w0) (v0_6 p0 p1 p2 p3 q4 w0) p3 w0)), (.int (1 : Int32)), (.ref b509)])) _
      refine st544 _ ?_
      refine XS.iload X544.here hx rfl (hb hby at_86) rfl ?_
      refine XT.iconstV X544.here hx rfl (2 : Int32) (hb hby at_88) (by decide) ?_
      show Steps p.tables e below (T544.setTop (mkF m 89 #[.val (.int p0), .val (.int p1), .val (.int p2), .val (.int p3), .val (.long q4), .second, .val (.int (v0_1 p0 p1 p2 p3 q4 w0)), .val (.int (v0_3 p0 p1 p2 p3 q4 w0)), .val (.int (4 : Int32)), .val (.int (v0_6 p0 p1 p2 p3 q4 w0)), .val (.ref b509), .unset, .unset] [(.int (2 : Int32)), (.int (4 : Int32))])) _
      refine XS.icmpNo X544.here hx rfl (hb hby at_89) rfl (XT.ii_le_f (by decide)) ?_
      refine XS.aload X544.here hx rfl (hb hby at_92) rfl rfl ?_
      refine XT.iconstV X544.here hx rfl (2 : Int32) (hb hby at_94) (by decide) ?_
      refine XS.iload X544.here hx rfl (hb hby at_95) rfl ?_
      show Steps p.tables e below (T544.setTop (mkF m 97 #[.val (.int p0), .val (.int p1), .val (.int p2), .val (.int p3), .val (.long q4), .second, .val (.int (v0_1 p0 p1 p2 p3 q4 w0)), .val (.int (v0_3 p0 p1 p2 p3 q4 w0)), .val (.int (4 : Int32)), .val (.int (v0_6 p0 p1 p2 p3 q4 w0)), .val (.ref b509), .unset, .unset] [(.int (v0_1 p0 p1 p2 p3 q4 w0)), (.int (2 : Int32)), (.ref b509)])) _
      refine XT.iconstV X544.here hx rfl (2 : Int32) (hb hby at_97) (by decide) ?_
      refine XT.lload X544.here hx rfl (hb hby at_98) rfl ?_
      refine XS.iload X544.here hx rfl (hb hby at_100) rfl ?_
      refine XS.iload X544.here hx rfl (hb hby at_102) rfl ?_
      show Steps p.tables e below (T544.setTop (mkF m 104 #[.val (.int p0), .val (.int p1), .val (.int p2), .val (.int p3), .val (.long q4), .second, .val (.int (v0_1 p0 p1 p2 p3 q4 w0)), .val (.int (v0_3 p0 p1 p2 p3 q4 w0)), .val (.int (4 : Int32)), .val (.int (v0_6 p0 p1 p2 p3 q4 w0)), .val (.ref b509), .unset, .unset] [(.int (v0_6 p0 p1 p2 p3 q4 w0)), (.int (v0_3 p0 p1 p2 p3 q4 w0)), (.long q4), (.int (2 : Int32)), (.int (v0_1 p0 p1 p2 p3 q4 w0)), (.int (2 : Int32)), (.ref b509)])) _
      refine XS.iloadN X544.here hx rfl (hb hby at_104) rfl ?_
      show Steps p.tables e below (T544.setTop (mkF m 105 #[.val (.int p0), .val (.int p1), .val (.int p2), .val (.int p3), .val (.long q4), .second, .val (.int (v0_1 p0 p1 p2 p3 q4 w0)), .val (.int (v0_3 p0 p1 p2 p3 q4 w0)), .val (.int (4 : Int32)), .val (.int (v0_6 p0 p1 p2 p3 q4 w0)), .val (.ref b509), .unset, .unset] [(.int p3), (.int (v0_6 p0 p1 p2 p3 q4 w0)), (.int (v0_3 p0 p1 p2 p3 q4 w0)), (.long q4), (.int (2 : Int32)), (.int (v0_1 p0 p1 p2 p3 q4 w0)), (.int (2 : Int32)), (.ref b509)])) _
      refine st549.trans ?_
      show Steps p.tables e below (T549.setTop (mkF m 108 #[.val (.int p0), .val (.int p1), .val (.int p2), .val (.int p3), .val (.long q4), .second, .val (.int (v0_1 p0 p1 p2 p3 q4 w0)), .val (.int (v0_3 p0 p1 p2 p3 q4 w0)), .val (.int (4 : Int32)), .val (.int (v0_6 p0 p1 p2 p3 q4 w0)), .val (.ref b509), .unset, .unset] [(.int (f1 (v0_1 p0 p1 p2 p3 q4 w0) (2 : Int32) q4 (v0_3 p0 p1 p2 p3 q4 w0) (v0_6 p0 p1 p2 p3 q4 w0) p3 w0)), (.int (2 : Int32)), (.ref b509)])) _
      refine st557 _ ?_
      refine XS.iload X557.here hx rfl (hb hby at_109) rfl ?_
      refine XT.iconstV X557.here hx rfl (3 : Int32) (hb hby at_111) (by decide) ?_
      show Steps p.tables e below (T557.setTop (mkF m 112 #[.val (.int p0), .val (.int p1), .val (.int p2), .val (.int p3), .val (.long q4), .second, .val (.int (v0_1 p0 p1 p2 p3 q4 w0)), .val (.int (v0_3 p0 p1 p2 p3 q4 w0)), .val (.int (4 : Int32)), .val (.int (v0_6 p0 p1 p2 p3 q4 w0)), .val (.ref b509), .unset, .unset] [(.int (3 : Int32)), (.int (4 : Int32))])) _
      refine XS.icmpNo X557.here hx rfl (hb hby at_112) rfl (XT.ii_le_f (by decide)) ?_
      refine XS.aload X557.here hx rfl (hb hby at_115) rfl rfl ?_
      refine XT.iconstV X557.here hx rfl (3 : Int32) (hb hby at_117) (by decide) ?_
      refine XS.iload X557.here hx rfl (hb hby at_118) rfl ?_
      show Steps p.tables e below (T557.setTop (mkF m 120 #[.val (.int p0), .val (.int p1), .val (.int p2), .val (.int p3), .val (.long q4), .second, .val (.int (v0_1 p0 p1 p2 p3 q4 w0)), .val (.int (v0_3 p0 p1 p2 p3 q4 w0)), .val (.int (4 : Int32)), .val (.int (v0_6 p0 p1 p2 p3 q4 w0)), .val (.ref b509), .unset, .unset] [(.int (v0_1 p0 p1 p2 p3 q4 w0)), (.int (3 : Int32)), (.ref b509)])) _
      refine XT.iconstV X557.here hx rfl (3 : Int32) (hb hby at_120) (by decide) ?_
      refine XT.lload X557.here hx rfl (hb hby at_121) rfl ?_
      refine XS.iload X557.here hx rfl (hb hby at_123) rfl ?_
      refine XS.iload X557.here hx rfl (hb hby at_125) rfl ?_
      show Steps p.tables e below (T557.setTop (mkF m 127 #[.val (.int p0), .val (.int p1), .val (.int p2), .val (.int p3), .val (.long q4), .second, .val (.int (v0_1 p0 p1 p2 p3 q4 w0)), .val (.int (v0_3 p0 p1 p2 p3 q4 w0)), .val (.int (4 : Int32)), .val (.int (v0_6 p0 p1 p2 p3 q4 w0)), .val (.ref b509), .unset, .unset] [(.int (v0_6 p0 p1 p2 p3 q4 w0)), (.int (v0_3 p0 p1 p2 p3 q4 w0)), (.long q4), (.int (3 : Int32)), (.int (v0_1 p0 p1 p2 p3 q4 w0)), (.int (3 : Int32)), (.ref b509)])) _
      refine XS.iloadN X557.here hx rfl (hb hby at_127) rfl ?_
      show Steps p.tables e below (T557.setTop (mkF m 128 #[.val (.int p0), .val (.int p1), .val (.int p2), .val (.int p3), .val (.long q4), .second, .val (.int (v0_1 p0 p1 p2 p3 q4 w0)), .val (.int (v0_3 p0 p1 p2 p3 q4 w0)), .val (.int (4 : Int32)), .val (.int (v0_6 p0 p1 p2 p3 q4 w0)), .val (.ref b509), .unset, .unset] [(.int p3), (.int (v0_6 p0 p1 p2 p3 q4 w0)), (.int (v0_3 p0 p1 p2 p3 q4 w0)), (.long q4), (.int (3 : Int32)), (.int (v0_1 p0 p1 p2 p3 q4 w0)), (.int (3 : Int32)), (.ref b509)])) _
      refine st562.trans ?_
      show Steps p.tables e below (T562.setTop (mkF m 131 #[.val (.int p0), .val (.int p1), .val (.int p2), .val (.int p3), .val (.long q4), .second, .val (.int (v0_1 p0 p1 p2 p3 q4 w0)), .val (.int (v0_3 p0 p1 p2 p3 q4 w0)), .val (.int (4 : Int32)), .val (.int (v0_6 p0 p1 p2 p3 q4 w0)), .val (.ref b509), .unset, .unset] [(.int (f1 (v0_1 p0 p1 p2 p3 q4 w0) (3 : Int32) q4 (v0_3 p0 p1 p2 p3 q4 w0) (v0_6 p0 p1 p2 p3 q4 w0) p3 w0)), (.int (3 : Int32)), (.ref b509)])) _
      refine st570 _ ?_
      refine XS.iload X570.here hx rfl (hb hby at_132) rfl ?_
      refine XT.iconstV X570.here hx rfl (4 : Int32) (hb hby at_134) (by decide) ?_
      show Steps p.tables e below (T570.setTop (mkF m 135 #[.val (.int p0), .val (.int p1), .val (.int p2), .val (.int p3), .val (.long q4), .second, .val (.int (v0_1 p0 p1 p2 p3 q4 w0)), .val (.int (v0_3 p0 p1 p2 p3 q4 w0)), .val (.int (4 : Int32)), .val (.int (v0_6 p0 p1 p2 p3 q4 w0)), .val (.ref b509), .unset, .unset] [(.int (4 : Int32)), (.int (4 : Int32))])) _
      refine XS.icmpYes X570.here hx rfl (pc0 := 135) (pc' := 155) rfl (hb hby at_135) rfl (XT.ii_le_t (by decide)) (by decide) (by decide) ?_
      refine XS.iload X570.here hx rfl (hb hby at_155) rfl ?_
      refine XT.iconstV X570.here hx rfl (5 : Int32) (hb hby at_157) (by decide) ?_
      show Steps p.tables e below (T570.setTop (mkF m 158 #[.val (.int p0), .val (.int p1), .val (.int p2), .val (.int p3), .val (.long q4), .second, .val (.int (v0_1 p0 p1 p2 p3 q4 w0)), .val (.int (v0_3 p0 p1 p2 p3 q4 w0)), .val (.int (4 : Int32)), .val (.int (v0_6 p0 p1 p2 p3 q4 w0)), .val (.ref b509), .unset, .unset] [(.int (5 : Int32)), (.int (4 : Int32))])) _
      refine XS.icmpYes X570.here hx rfl (pc0 := 158) (pc' := 178) rfl (hb hby at_158) rfl (XT.ii_le_t (by decide)) (by decide) (by decide) ?_
      refine XS.iload X570.here hx rfl (hb hby at_178) rfl ?_
      refine XT.bipushV X570.here hx rfl (6 : Int32) (hb hby at_180) (by decide) ?_
      show Steps p.tables e below (T570.setTop (mkF m 182 #[.val (.int p0), .val (.int p1), .val (.int p2), .val (.int p3), .val (.long q4), .second, .val (.int (v0_1 p0 p1 p2 p3 q4 w0)), .val (.int (v0_3 p0 p1 p2 p3 q4 w0)), .val (.int (4 : Int32)), .val (.int (v0_6 p0 p1 p2 p3 q4 w0)), .val (.ref b509), .unset, .unset] [(.int (6 : Int32)), (.int (4 : Int32))])) _
      refine XS.icmpYes X570.here hx rfl (pc0 := 182) (pc' := 204) rfl (hb hby at_182) rfl (XT.ii_le_t (by decide)) (by decide) (by decide) ?_
      show Steps p.tables e below (T570.setTop (mkF m 204 #[.val (.int p0), .val (.int p1), .val (.int p2), .val (.int p3), .val (.long q4), .second, .val (.int (v0_1 p0 p1 p2 p3 q4 w0)), .val (.int (v0_3 p0 p1 p2 p3 q4 w0)), .val (.int (4 : Int32)), .val (.int (v0_6 p0 p1 p2 p3 q4 w0)), .val (.ref b509), .unset, .unset] [])) _
      refine st575 _ ?_
      refine XS.dup X575.here hx rfl (hb hby at_207) rfl rfl ?_
      refine XS.aload X575.here hx rfl (hb hby at_208) rfl rfl ?_
      show Steps p.tables e below (T575.setTop (mkF m 210 #[.val (.int p0), .val (.int p1), .val (.int p2), .val (.int p3), .val (.long q4), .second, .val (.int (v0_1 p0 p1 p2 p3 q4 w0)), .val (.int (v0_3 p0 p1 p2 p3 q4 w0)), .val (.int (4 : Int32)), .val (.int (v0_6 p0 p1 p2 p3 q4 w0)), .val (.ref b509), .unset, .unset] [(.ref b509), (.ref b575), (.ref b575)])) _
      refine st599.trans ?_
      refine XS.astore X599.here hx rfl (hb hby at_213) rfl rfl (l' := #[.val (.int p0), .val (.int p1), .val (.int p2), .val (.int p3), .val (.long q4), .second, .val (.int (v0_1 p0 p1 p2 p3 q4 w0)), .val (.int (v0_3 p0 p1 p2 p3 q4 w0)), .val (.int (4 : Int32)), .val (.int (v0_6 p0 p1 p2 p3 q4 w0)), .val (.ref b509), .val (.ref b575), .unset]) rfl ?_
      show Steps p.tables e below (T599.setTop (mkF m 215 #[.val (.int p0), .val (.int p1), .val (.int p2), .val (.int p3), .val (.long q4), .second, .val (.int (v0_1 p0 p1 p2 p3 q4 w0)), .val (.int (v0_3 p0 p1 p2 p3 q4 w0)), .val (.int (4 : Int32)), .val (.int (v0_6 p0 p1 p2 p3 q4 w0)), .val (.ref b509), .val (.ref b575), .unset] [])) _
      refine XS.aconstNull X599.here hx rfl (hb hby at_215) ?_
      refine XS.astore X599.here hx rfl (hb hby at_216) rfl rfl (l' := #[.val (.int p0), .val (.int p1), .val (.int p2), .val (.int p3), .val (.long q4), .second, .val (.int (v0_1 p0 p1 p2 p3 q4 w0)), .val (.int (v0_3 p0 p1 p2 p3 q4 w0)), .val (.int (4 : Int32)), .val (.int (v0_6 p0 p1 p2 p3 q4 w0)), .val (.ref b509), .val (.ref b575), .val .null]) rfl ?_
      refine XS.aload X599.here hx rfl (hb hby at_218) rfl rfl ?_
      show Steps p.tables e below (T599.setTop (mkF m 220 #[.val (.int p0), .val (.int p1), .val (.int p2), .val (.int p3), .val (.long q4), .second, .val (.int (v0_1 p0 p1 p2 p3 q4 w0)), .val (.int (v0_3 p0 p1 p2 p3 q4 w0)), .val (.int (4 : Int32)), .val (.int (v0_6 p0 p1 p2 p3 q4 w0)), .val (.ref b509), .val (.ref b575), .val .null] [(.ref b575)])) _
      refine st626 _ ?_
      show Steps p.tables e below (T626.setTop (mkF m 222 #[.val (.int p0), .val (.int p1), .val (.int p2), .val (.int p3), .val (.long q4), .second, .val (.int (v0_1 p0 p1 p2 p3 q4 w0)), .val (.int (v0_3 p0 p1 p2 p3 q4 w0)), .val (.int (4 : Int32)), .val (.int (v0_6 p0 p1 p2 p3 q4 w0)), .val (.ref b509), .val (.ref b575), .val .null] [(.ref la626), (.ref b575)])) _
      refine st634.trans ?_
      exact k
    clear pre4 st509 st523 st531 st536 st544 st549 st557 st562 st570 st575 st599 st626 st634
    by_cases c641 : (v0_35 p0 p1 p2 p3 q4 w0) = (0 : Int32)
    · skip
      obtain ⟨la642, T642, h642, kk642, lb642, lk642, X642, e642, E642, hS642, hk642, hZ, hown, Ex642, Fc642, Fv642, V642, -, -, Cr642, Lt642, Sf642, st642⟩ := ldcCH (s := s) (vm0 := T626.vm) (EL := consts_1) X634 hx hZ hown (wd hw 82 rfl) (own_ws hw) e634 hS626 hk626 (own_ew hw) (List.mem_of_getElem? (i := 1) rfl) ch628.1 (z := (6 : Int32)) (vs := [(.int (112 : Int32)), (.int (111 : Int32)), (.int (114 : Int32)), (.int (116 : Int32)), (.int (101 : Int32)), (.int (114 : Int32))]) ⟨by decide, by rfl⟩ (by decide) rfl (g := (mkF m 238 #[.val (.int p0), .val (.int p1), .val (.int p2), .val (.int p3), .val (.long q4), .second, .val (.int (v0_1 p0 p1 p2 p3 q4 w0)), .val (.int (v0_3 p0 p1 p2 p3 q4 w0)), .val (.int (4 : Int32)), .val (.int (v0_6 p0 p1 p2 p3 q4 w0)), .val (.ref b509), .val (.ref b575), .val .null] [(.ref b575)])) rfl (hb hby at_238) (n := 24) (by decide) (by decide) (by decide) (by decide)
      have sf643 := Cr642.safe k635.lt sf627
      have ch644 := ch628.trans Cr642
      have z645 : n0 ≤ h642.size := Nat.le_trans z629 E642.1
      have hs646 : h0.size ≤ h642.size := Nat.le_trans hs630 E642.1
      have ne647 := Sf642 _ sf643
      have k648 := (k632.ext E642)
      have k649 := (k633.ext E642)
      have k651 := (k635.ext E642)
      have k652 := (k636.ext E642)
      have k653 := (k637.ext E642)
      have k654 := (k638.ext E642)
      have O655 := (O639.ext E642)
      obtain ⟨cq650, kq650, q650a, q650b, q650c⟩ := isOf hZ e642 k651
      obtain ⟨vr650, _, ⟨T650, L650, k650, n650⟩, -, X650, ⟨Lc650, hQ650, l650, y650, z650⟩, st650⟩ := Jvm.Stand.virtualBack X642 hx (y := (⟨"java/lang/String", "equals", "(Ljava/lang/Object;)Z"⟩ : MethodName)) (z := (⟨"java/lang/String", "equals", "(Ljava/lang/Object;)Z"⟩ : MethodName)) hown (mvT hZ (wd hw 73 rfl)) (mvT hZ (wd hw 74 rfl)) (notFace_of_selects (args := #[]) (mvT hZ (wd hw 76 rfl))) (mvT hZ (wd hw 76 rfl)) (mvT hZ (wd hw 75 rfl)) (by decide) (backOf (W := 0) (rmsqD l Z a0 hw [] b575 la642 xsn_0_599 (4 : Int32) ([(.int (own_b (v0_28 p0 p1 p2 p3 q4 w0))), (.int (own_b (v0_30 p0 p1 p2 p3 q4 w0))), (.int (own_b (v0_32 p0 p1 p2 p3 q4 w0))), (.int (own_b (v0_34 p0 p1 p2 p3 q4 w0)))]) ksn_1_599 lb642 (6 : Int32) ([(.int (112 : Int32)), (.int (111 : Int32)), (.int (114 : Int32)), (.int (116 : Int32)), (.int (101 : Int32)), (.int (114 : Int32))]) lk642 w0 h642 n0 z645 k651 k652 k653 k654 Ex642 Fc642 Fv642 V642 ne647.1 (Sta.ext O655.2 S_String_COMPACT_STRINGS) hcs (by decide)) hZ (wd hw 77 rfl) (wd hw 10 rfl) (by decide) (by decide)) q650a q650c (g := (mkF m 240 #[.val (.int p0), .val (.int p1), .val (.int p2), .val (.int p3), .val (.long q4), .second, .val (.int (v0_1 p0 p1 p2 p3 q4 w0)), .val (.int (v0_3 p0 p1 p2 p3 q4 w0)), .val (.int (4 : Int32)), .val (.int (v0_6 p0 p1 p2 p3 q4 w0)), .val (.ref b509), .val (.ref b575), .val .null] [(.ref la642), (.ref b575)])) rfl (by rw [hml]; rfl) (Steps.refl _) (argsL := [(.ref la642)]) (rest := []) (lenOf pd__Ljava_lang_Object__Z rfl) rfl (by show 2 * 0 + _ ≤ _; exact Nat.le_of_eq rfl) (hb hby at_240) (fun _ _ => ⟨rfl, e642, (by decide : 15 + 0 ≤ _), (by decide : 172 + 0 ≤ _)⟩)
      dsimp only [Pt.U, Pt.locs, Pt.cells, Pt.slots] at X650 l650 y650 z650 st650 hQ650
      replace X650 := own_stand X650 l650 y650 z650
      clear l650 y650 z650
      have N650q := (show _ ∧ _ ∧ _ from hQ650).1
      have hv650 := (show _ ∧ _ ∧ _ from hQ650).2.1
      have e650 := (show _ ∧ _ ∧ _ from hQ650).2.2
      clear hQ650
      subst hv650
      have N650 := Fr.app N634 N650q
      have k657 := (((k602.keep K599).ext E626).ext E642)
      have k658 := (((k604.keep K599).ext E626).ext E642)
      have k659 := (((k606.keep K599).ext E626).ext E642)
      have k660 := (((((((((((((F_label_w3_N.ext E509).keep K523 nin0).other W531 (Or.inl ne511)).keep K536 nin0).other W544 (Or.inl ne511)).keep K549 nin0).other W557 (Or.inl ne511)).keep K562 nin0).other W570 (Or.inl ne511)).ext E575).keep K599 (ninS ne579 nin0)).ext E626).ext E642)
      have k661 := (((((((((((((F_label_w4_P.ext E509).keep K523 nin0).other W531 (Or.inl ne512)).keep K536 nin0).other W544 (Or.inl ne512)).keep K549 nin0).other W557 (Or.inl ne512)).keep K562 nin0).other W570 (Or.inl ne512)).ext E575).keep K599 (ninS ne581 nin0)).ext E626).ext E642)
      have k662 := (((k608.keep K599).ext E626).ext E642)
      have k663 := (((((((((((((F_coder_w5_L.ext E509).keep K523 nin0).other W531 (Or.inl ne513)).keep K536 nin0).other W544 (Or.inl ne513)).keep K549 nin0).other W557 (Or.inl ne513)).keep K562 nin0).other W570 (Or.inl ne513)).ext E575).keep K599 (ninS ne583 nin0)).ext E626).ext E642)
      have k664 := (((((((((((((F_value_w5_L.ext E509).keep K523 nin0).other W531 (Or.inl ne513)).keep K536 nin0).other W544 (Or.inl ne513)).keep K549 nin0).other W557 (Or.inl ne513)).keep K562 nin0).other W570 (Or.inl ne513)).ext E575).keep K599 (ninS ne583 nin0)).ext E626).ext E642)
      have k665 := (((k615.keep K599 (ninS ne589 nin0)).ext E626).ext E642)
      have k666 := (((k610.keep K599).ext E626).ext E642)
      have k667 := (((((((((((((F_coder_w6_L.ext E509).keep K523 nin0).other W531 (Or.inl ne514)).keep K536 nin0).other W544 (Or.inl ne514)).keep K549 nin0).other W557 (Or.inl ne514)).keep K562 nin0).other W570 (Or.inl ne514)).ext E575).keep K599 (ninS ne585 nin0)).ext E626).ext E642)
      have k668 := (((((((((((((F_value_w6_L.ext E509).keep K523 nin0).other W531 (Or.inl ne514)).keep K536 nin0).other W544 (Or.inl ne514)).keep K549 nin0).other W557 (Or.inl ne514)).keep K562 nin0).other W570 (Or.inl ne514)).ext E575).keep K599 (ninS ne585 nin0)).ext E626).ext E642)
      have k669 := (((k617.keep K599 (ninS ne591 nin0)).ext E626).ext E642)
      obtain ⟨vr656, _, ⟨T656, L656, k656, n656⟩, -, X656, ⟨Lc656, hQ656, l656, y656, z656⟩, st656⟩ := Jvm.LawKit.callS X650 hx (y := (⟨"com/example/vellum_index/vellumindex/Stemmer", "labelled", "(Ljava/lang/String;)Lcom/example/vellum_index/vellumindex/Stemmer;"⟩ : MethodName)) hown (mvT hZ (wd hw 83 rfl)) (mvT hZ (wd hw 84 rfl)) (mvT hZ (wd hw 85 rfl)) (mvT hZ (wd hw 86 rfl)) (by decide) (backOf (W := 0) (rmlb4n l Z a0 hw [] b575 w2_V w3_N w4_P kV w5_L w6_L w7_B kB0 w8_B kB1 xsn_0_599 (own_b (v0_28 p0 p1 p2 p3 q4 w0)) (own_b (v0_30 p0 p1 p2 p3 q4 w0)) (own_b (v0_32 p0 p1 p2 p3 q4 w0)) (own_b (v0_34 p0 p1 p2 p3 q4 w0)) ksn_1_599 w0 h642 n0 z645 (Sta.ext O655.2 S_Stemmer__VALUES) k648 k657 k658 k659 k660 k661 k662 k663 k664 k665 k666 k667 k668 k669 k651 k652 k653 k654 ne583 ne585 (Sta.ext O655.2 S_String_COMPACT_STRINGS) hcs ((own_sym4 _ _ _ _ _ _ _ _ _ _).trans c641)) hZ (wd hw 86 rfl) (wd hw 85 rfl) (by decide) (by decide)) (g := (mkF m 253 #[.val (.int p0), .val (.int p1), .val (.int p2), .val (.int p3), .val (.long q4), .second, .val (.int (v0_1 p0 p1 p2 p3 q4 w0)), .val (.int (v0_3 p0 p1 p2 p3 q4 w0)), .val (.int (4 : Int32)), .val (.int (v0_6 p0 p1 p2 p3 q4 w0)), .val (.ref b509), .val (.ref b575), .val .null] [(.ref b575)])) rfl (by rw [hml]; rfl) (argsL := [(.ref b575)]) (rest := []) (lenOf pd_h53915 rfl) rfl (by show 2 * 0 + _ ≤ _; exact Nat.le_of_eq rfl) (hb hby at_253) (fun _ _ => ⟨rfl, e650, (by decide : 15 + 1 ≤ _), (by decide : 172 + 2 ≤ _)⟩)
      dsimp only [Pt.U, Pt.locs, Pt.cells, Pt.slots] at X656 l656 y656 z656 st656 hQ656
      replace X656 := own_stand X656 l656 y656 z656
      clear l656 y656 z656
      have N656q := (show _ ∧ _ from hQ656).1
      have hq656 := (show _ ∧ _ from hQ656).2
      clear hQ656
      have hv656 := hq656.1
      have K656 := hq656.2
      clear hq656
      subst hv656
      have sf671 := Safe.keep K656 sf0 ch644.1 sf643
      have ch670 := ch644.trans (CHr.keep K656 sf0 ch644.1)
      have z672 : n0 ≤ T656.heap.size := Nat.le_trans z645 K656.1
      have hs673 : h0.size ≤ T656.heap.size := Nat.le_trans hs646 K656.1
      have hk674 := Nat.le_trans hk642 K656.1
      have N656 := Fr.app N650 N656q
      obtain ⟨fs, hr, hrun, hended, hRW⟩ := Jvm.Stand.leaveW (s := s) (vm₁ := T642.vm) X656 hS642 hk674 (v := some (.int (1 : Int32))) (fun h => by rw [Bd.returns] at h; cases h) hlk
      refine ⟨_, _, pre640 _ ?_, hrun, hended, _, _, rfl, ?_, hRW.1, hRW.2.1, hRW.2.2.1, hRW.2.2.2.mono (by decide) (by decide)⟩
      · skip
        show Steps p.tables e below (T634.setTop (mkF m 225 #[.val (.int p0), .val (.int p1), .val (.int p2), .val (.int p3), .val (.long q4), .second, .val (.int (v0_1 p0 p1 p2 p3 q4 w0)), .val (.int (v0_3 p0 p1 p2 p3 q4 w0)), .val (.int (4 : Int32)), .val (.int (v0_6 p0 p1 p2 p3 q4 w0)), .val (.ref b509), .val (.ref b575), .val .null] [(.int (fsq4 (own_b (v0_28 p0 p1 p2 p3 q4 w0)) (own_b (v0_30 p0 p1 p2 p3 q4 w0)) (own_b (v0_32 p0 p1 p2 p3 q4 w0)) (own_b (v0_34 p0 p1 p2 p3 q4 w0)) (110 : Int32) (111 : Int32) (110 : Int32) (101 : Int32) w0))])) _
        refine XS.ifYes X634.here hx rfl (pc0 := 225) (pc' := 236) rfl (hb hby at_225) rfl (XT.i0_eq_t c641) (by decide) (by decide) ?_
        refine XS.aload X634.here hx rfl (hb hby at_236) rfl rfl ?_
        show Steps p.tables e below (T634.setTop (mkF m 238 #[.val (.int p0), .val (.int p1), .val (.int p2), .val (.int p3), .val (.long q4), .second, .val (.int (v0_1 p0 p1 p2 p3 q4 w0)), .val (.int (v0_3 p0 p1 p2 p3 q4 w0)), .val (.int (4 : Int32)), .val (.int (v0_6 p0 p1 p2 p3 q4 w0)), .val (.ref b509), .val (.ref b575), .val .null] [(.ref b575)])) _
        refine st642 _ ?_
        show Steps p.tables e below (T642.setTop (mkF m 240 #[.val (.int p0), .val (.int p1), .val (.int p2), .val (.int p3), .val (.long q4), .second, .val (.int (v0_1 p0 p1 p2 p3 q4 w0)), .val (.int (v0_3 p0 p1 p2 p3 q4 w0)), .val (.int (4 : Int32)), .val (.int (v0_6 p0 p1 p2 p3 q4 w0)), .val (.ref b509), .val (.ref b575), .val .null] [(.ref la642), (.ref b575)])) _
        refine st650.trans ?_
        show Steps p.tables e below (T650.setTop (mkF m 243 #[.val (.int p0), .val (.int p1), .val (.int p2), .val (.int p3), .val (.long q4), .second, .val (.int (v0_1 p0 p1 p2 p3 q4 w0)), .val (.int (v0_3 p0 p1 p2 p3 q4 w0)), .val (.int (4 : Int32)), .val (.int (v0_6 p0 p1 p2 p3 q4 w0)), .val (.ref b509), .val (.ref b575), .val .null] [(.int (fsqD (4 : Int32) (6 : Int32) w0))])) _
        refine XS.ifYes X650.here hx rfl (pc0 := 243) (pc' := 251) rfl (hb hby at_243) rfl (XT.i0_eq_t rfl) (by decide) (by decide) ?_
        refine XS.aload X650.here hx rfl (hb hby at_251) rfl rfl ?_
        show Steps p.tables e below (T650.setTop (mkF m 253 #[.val (.int p0), .val (.int p1), .val (.int p2), .val (.int p3), .val (.long q4), .second, .val (.int (v0_1 p0 p1 p2 p3 q4 w0)), .val (.int (v0_3 p0 p1 p2 p3 q4 w0)), .val (.int (4 : Int32)), .val (.int (v0_6 p0 p1 p2 p3 q4 w0)), .val (.ref b509), .val (.ref b575), .val .null] [(.ref b575)])) _
        refine st656 _ ?_
        refine XS.aload X656.here hx rfl (hb hby at_256) rfl rfl ?_
        show Steps p.tables e below (T656.setTop (mkF m 258 #[.val (.int p0), .val (.int p1), .val (.int p2), .val (.int p3), .val (.long q4), .second, .val (.int (v0_1 p0 p1 p2 p3 q4 w0)), .val (.int (v0_3 p0 p1 p2 p3 q4 w0)), .val (.int (4 : Int32)), .val (.int (v0_6 p0 p1 p2 p3 q4 w0)), .val (.ref b509), .val (.ref b575), .val .null] [.null, .null])) _
        refine XT.acmpNo X656.here hx rfl (hb hby at_258) rfl rfl rfl (XT.aa_ne_f rfl) ?_
        refine XT.iconstV X656.here hx rfl (1 : Int32) (hb hby at_261) (by decide) ?_
        show Steps p.tables e below (T656.setTop (mkF m 262 #[.val (.int p0), .val (.int p1), .val (.int p2), .val (.int p3), .val (.long q4), .second, .val (.int (v0_1 p0 p1 p2 p3 q4 w0)), .val (.int (v0_3 p0 p1 p2 p3 q4 w0)), .val (.int (4 : Int32)), .val (.int (v0_6 p0 p1 p2 p3 q4 w0)), .val (.ref b509), .val (.ref b575), .val .null] [(.int (1 : Int32))])) _
        refine XS.goto X656.here hx rfl (pc0 := 262) (pc' := 266) rfl (hb hby at_262) (by decide) (by decide) ?_
        show Steps p.tables e below (T656.setTop (mkF m 266 #[.val (.int p0), .val (.int p1), .val (.int p2), .val (.int p3), .val (.long q4), .second, .val (.int (v0_1 p0 p1 p2 p3 q4 w0)), .val (.int (v0_3 p0 p1 p2 p3 q4 w0)), .val (.int (4 : Int32)), .val (.int (v0_6 p0 p1 p2 p3 q4 w0)), .val (.ref b509), .val (.ref b575), .val .null] [(.int (1 : Int32))])) _
        exact retN X656 hx (t := .boolean) Bd.returns (by simp) (hb hby at_266) hr
      · skip
        show Q0 Z p0 p1 p2 p3 q4 w0 u1_SF w2_V w3_N w4_P kV w5_L w6_L w7_B kB0 w8_B kB1 h0 n0 _ T656.heap _
        exact ⟨rfl, N656⟩
    · skip
      obtain ⟨T675, X675, e675, st675⟩ := getS2 X634 hx hZ hown (host := "") (Or.inl (wd hw 111 rfl)) Via.refl e634 (Sta.ext O639.2 S_Stemmer_NONE) (g := (mkF m 228 #[.val (.int p0), .val (.int p1), .val (.int p2), .val (.int p3), .val (.long q4), .second, .val (.int (v0_1 p0 p1 p2 p3 q4 w0)), .val (.int (v0_3 p0 p1 p2 p3 q4 w0)), .val (.int (4 : Int32)), .val (.int (v0_6 p0 p1 p2 p3 q4 w0)), .val (.ref b509), .val (.ref b575), .val .null] [])) rfl (hb hby at_228)
      have k677 := ((k602.keep K599).ext E626)
      have k678 := ((k604.keep K599).ext E626)
      have k679 := ((k606.keep K599).ext E626)
      have k680 := ((((((((((((F_label_w3_N.ext E509).keep K523 nin0).other W531 (Or.inl ne511)).keep K536 nin0).other W544 (Or.inl ne511)).keep K549 nin0).other W557 (Or.inl ne511)).keep K562 nin0).other W570 (Or.inl ne511)).ext E575).keep K599 (ninS ne579 nin0)).ext E626)
      have k681 := ((((((((((((F_label_w4_P.ext E509).keep K523 nin0).other W531 (Or.inl ne512)).keep K536 nin0).other W544 (Or.inl ne512)).keep K549 nin0).other W557 (Or.inl ne512)).keep K562 nin0).other W570 (Or.inl ne512)).ext E575).keep K599 (ninS ne581 nin0)).ext E626)
      have k682 := ((k608.keep K599).ext E626)
      have k683 := ((((((((((((F_coder_w5_L.ext E509).keep K523 nin0).other W531 (Or.inl ne513)).keep K536 nin0).other W544 (Or.inl ne513)).keep K549 nin0).other W557 (Or.inl ne513)).keep K562 nin0).other W570 (Or.inl ne513)).ext E575).keep K599 (ninS ne583 nin0)).ext E626)
      have k684 := ((((((((((((F_value_w5_L.ext E509).keep K523 nin0).other W531 (Or.inl ne513)).keep K536 nin0).other W544 (Or.inl ne513)).keep K549 nin0).other W557 (Or.inl ne513)).keep K562 nin0).other W570 (Or.inl ne513)).ext E575).keep K599 (ninS ne583 nin0)).ext E626)
      have k685 := ((k615.keep K599 (ninS ne589 nin0)).ext E626)
      have k686 := ((k610.keep K599).ext E626)
      have k687 := ((((((((((((F_coder_w6_L.ext E509).keep K523 nin0).other W531 (Or.inl ne514)).keep K536 nin0).other W544 (Or.inl ne514)).keep K549 nin0).other W557 (Or.inl ne514)).keep K562 nin0).other W570 (Or.inl ne514)).ext E575).keep K599 (ninS ne585 nin0)).ext E626)
      have k688 := ((((((((((((F_value_w6_L.ext E509).keep K523 nin0).other W531 (Or.inl ne514)).keep K536 nin0).other W544 (Or.inl ne514)).keep K549 nin0).other W557 (Or.inl ne514)).keep K562 nin0).other W570 (Or.inl ne514)).ext E575).keep K599 (ninS ne585 nin0)).ext E626)
      have k689 := ((k617.keep K599 (ninS ne591 nin0)).ext E626)
      obtain ⟨vr676, _, ⟨T676, L676, k676, n676⟩, -, X676, ⟨Lc676, hQ676, l676, y676, z676⟩, st676⟩ := Jvm.LawKit.callS X675 hx (y := (⟨"com/example/vellum_index/vellumindex/Stemmer", "labelled", "(Ljava/lang/String;)Lcom/example/vellum_index/vellumindex/Stemmer;"⟩ : MethodName)) hown (mvT hZ (wd hw 83 rfl)) (mvT hZ (wd hw 84 rfl)) (mvT hZ (wd hw 85 rfl)) (mvT hZ (wd hw 86 rfl)) (by decide) (backOf (W := 0) (rmlb4y l Z a0 hw [] b575 w2_V w3_N w4_P kV w5_L w6_L w7_B kB0 w8_B kB1 xsn_0_599 (own_b (v0_28 p0 p1 p2 p3 q4 w0)) (own_b (v0_30 p0 p1 p2 p3 q4 w0)) (own_b (v0_32 p0 p1 p2 p3 q4 w0)) (own_b (v0_34 p0 p1 p2 p3 q4 w0)) ksn_1_599 w0 h626 n0 z629 (Sta.ext O639.2 S_Stemmer__VALUES) k632 k677 k678 k679 k680 k681 k682 k683 k684 k685 k686 k687 k688 k689 k635 k636 k637 k638 ne583 ne585 (Sta.ext O639.2 S_String_COMPACT_STRINGS) hcs (fun q => c641 ((own_sym4 _ _ _ _ _ _ _ _ _ _).trans q))) hZ (wd hw 86 rfl) (wd hw 85 rfl) (by decide) (by decide)) (g := (mkF m 253 #[.val (.int p0), .val (.int p1), .val (.int p2), .val (.int p3), .val (.long q4), .second, .val (.int (v0_1 p0 p1 p2 p3 q4 w0)), .val (.int (v0_3 p0 p1 p2 p3 q4 w0)), .val (.int (4 : Int32)), .val (.int (v0_6 p0 p1 p2 p3 q4 w0)), .val (.ref b509), .val (.ref b575), .val (.ref w3_N)] [(.ref b575)])) rfl (by rw [hml]; rfl) (argsL := [(.ref b575)]) (rest := []) (lenOf pd_h53915 rfl) rfl (by show 2 * 0 + _ ≤ _; exact Nat.le_of_eq rfl) (hb hby at_253) (fun _ _ => ⟨rfl, e675, (by decide : 13 + 1 ≤ _), (by decide : 144 + 2 ≤ _)⟩)
      dsimp only [Pt.U, Pt.locs, Pt.cells, Pt.slots] at X676 l676 y676 z676 st676 hQ676
      replace X676 := own_stand X676 l676 y676 z676
      clear l676 y676 z676
      have N676q := (show _ ∧ _ from hQ676).1
      have hq676 := (show _ ∧ _ from hQ676).2
      clear hQ676
      have hv676 := hq676.1
      have K676 := hq676.2
      clear hq676
      subst hv676
      have sf691 := Safe.keep K676 sf0 ch628.1 sf627
      have ch690 := ch628.trans (CHr.keep K676 sf0 ch628.1)
      have z692 : n0 ≤ T676.heap.size := Nat.le_trans z629 K676.1
      have hs693 : h0.size ≤ T676.heap.size := Nat.le_trans hs630 K676.1
      have hk694 := Nat.le_trans hk626 K676.1
      have N676 := Fr.app N634 N676q
      obtain ⟨fs, hr, hrun, hended, hRW⟩ := Jvm.Stand.leaveW (s := s) (vm₁ := T626.vm) X676 hS626 hk694 (v := some (.int (1 : Int32))) (fun h => by rw [Bd.returns] at h; cases h) hlk
      refine ⟨_, _, pre640 _ ?_, hrun, hended, _, _, rfl, ?_, hRW.1, hRW.2.1, hRW.2.2.1, hRW.2.2.2.mono (by decide) (by decide)⟩
      · skip
        show Steps p.tables e below (T634.setTop (mkF m 225 #[.val (.int p0), .val (.int p1), .val (.int p2), .val (.int p3), .val (.long q4), .second, .val (.int (v0_1 p0 p1 p2 p3 q4 w0)), .val (.int (v0_3 p0 p1 p2 p3 q4 w0)), .val (.int (4 : Int32)), .val (.int (v0_6 p0 p1 p2 p3 q4 w0)), .val (.ref b509), .val (.ref b575), .val .null] [(.int (fsq4 (own_b (v0_28 p0 p1 p2 p3 q4 w0)) (own_b (v0_30 p0 p1 p2 p3 q4 w0)) (own_b (v0_32 p0 p1 p2 p3 q4 w0)) (own_b (v0_34 p0 p1 p2 p3 q4 w0)) (110 : Int32) (111 : Int32) (110 : Int32) (101 : Int32) w0))])) _
        refine XS.ifNo X634.here hx rfl (hb hby at_225) rfl (XT.i0_eq_f c641) ?_
        show Steps p.tables e below (T634.setTop (mkF m 228 #[.val (.int p0), .val (.int p1), .val (.int p2), .val (.int p3), .val (.long q4), .second, .val (.int (v0_1 p0 p1 p2 p3 q4 w0)), .val (.int (v0_3 p0 p1 p2 p3 q4 w0)), .val (.int (4 : Int32)), .val (.int (v0_6 p0 p1 p2 p3 q4 w0)), .val (.ref b509), .val (.ref b575), .val .null] [])) _
        refine st675 _ ?_
        refine XS.astore X675.here hx rfl (hb hby at_231) rfl rfl (l' := #[.val (.int p0), .val (.int p1), .val (.int p2), .val (.int p3), .val (.long q4), .second, .val (.int (v0_1 p0 p1 p2 p3 q4 w0)), .val (.int (v0_3 p0 p1 p2 p3 q4 w0)), .val (.int (4 : Int32)), .val (.int (v0_6 p0 p1 p2 p3 q4 w0)), .val (.ref b509), .val (.ref b575), .val (.ref w3_N)]) rfl ?_
        show Steps p.tables e below (T675.setTop (mkF m 233 #[.val (.int p0), .val (.int p1), .val (.int p2), .val (.int p3), .val (.long q4), .second, .val (.int (v0_1 p0 p1 p2 p3 q4 w0)), .val (.int (v0_3 p0 p1 p2 p3 q4 w0)), .val (.int (4 : Int32)), .val (.int (v0_6 p0 p1 p2 p3 q4 w0)), .val (.ref b509), .val (.ref b575), .val (.ref w3_N)] [])) _
        refine XS.goto X675.here hx rfl (pc0 := 233) (pc' := 251) rfl (hb hby at_233) (by decide) (by decide) ?_
        refine XS.aload X675.here hx rfl (hb hby at_251) rfl rfl ?_
        show Steps p.tables e below (T675.setTop (mkF m 253 #[.val (.int p0), .val (.int p1), .val (.int p2), .val (.int p3), .val (.long q4), .second, .val (.int (v0_1 p0 p1 p2 p3 q4 w0)), .val (.int (v0_3 p0 p1 p2 p3 q4 w0)), .val (.int (4 : Int32)), .val (.int (v0_6 p0 p1 p2 p3 q4 w0)), .val (.ref b509), .val (.ref b575), .val (.ref w3_N)] [(.ref b575)])) _
        refine st676 _ ?_
        refine XS.aload X676.here hx rfl (hb hby at_256) rfl rfl ?_
        show Steps p.tables e below (T676.setTop (mkF m 258 #[.val (.int p0), .val (.int p1), .val (.int p2), .val (.int p3), .val (.long q4), .second, .val (.int (v0_1 p0 p1 p2 p3 q4 w0)), .val (.int (v0_3 p0 p1 p2 p3 q4 w0)), .val (.int (4 : Int32)), .val (.int (v0_6 p0 p1 p2 p3 q4 w0)), .val (.ref b509), .val (.ref b575), .val (.ref w3_N)] [(.ref w3_N), (.ref w3_N)])) _
        refine XT.acmpNo X676.here hx rfl (hb hby at_258) rfl rfl rfl (XT.aa_ne_f rfl) ?_
        refine XT.iconstV X676.here hx rfl (1 : Int32) (hb hby at_261) (by decide) ?_
        show Steps p.tables e below (T676.setTop (mkF m 262 #[.val (.int p0), .val (.int p1), .val (.int p2), .val (.int p3), .val (.long q4), .second, .val (.int (v0_1 p0 p1 p2 p3 q4 w0)), .val (.int (v0_3 p0 p1 p2 p3 q4 w0)), .val (.int (4 : Int32)), .val (.int (v0_6 p0 p1 p2 p3 q4 w0)), .val (.ref b509), .val (.ref b575), .val (.ref w3_N)] [(.int (1 : Int32))])) _
        refine XS.goto X676.here hx rfl (pc0 := 262) (pc' := 266) rfl (hb hby at_262) (by decide) (by decide) ?_
        show Steps p.tables e below (T676.setTop (mkF m 266 #[.val (.int p0), .val (.int p1), .val (.int p2), .val (.int p3), .val (.long q4), .second, .val (.int (v0_1 p0 p1 p2 p3 q4 w0)), .val (.int (v0_3 p0 p1 p2 p3 q4 w0)), .val (.int (4 : Int32)), .val (.int (v0_6 p0 p1 p2 p3 q4 w0)), .val (.ref b509), .val (.ref b575), .val (.ref w3_N)] [(.int (1 : Int32))])) _
        exact retN X676 hx (t := .boolean) Bd.returns (by simp) (hb hby at_266) hr
      · skip
        show Q0 Z p0 p1 p2 p3 q4 w0 u1_SF w2_V w3_N w4_P kV w5_L w6_L w7_B kB0 w8_B kB1 h0 n0 _ T676.heap _
        exact ⟨rfl, N676⟩
  · skip
    rw [show (v0_4 p0 p1 p2 p3 q4 w0) = (5 : Int32) from cn] at pre4
    obtain ⟨T695, h695, k695, X695, e695, E695, A695, EA695, st695⟩ := newPE X0 hx hZ (wd hw 1 rfl) e0 (g := (mkF m 37 #[.val (.int p0), .val (.int p1), .val (.int p2), .val (.int p3), .val (.long q4), .second, .val (.int (v0_1 p0 p1 p2 p3 q4 w0)), .val (.int (v0_3 p0 p1 p2 p3 q4 w0)), .val (.int (5 : Int32)), .val (.int (v0_6 p0 p1 p2 p3 q4 w0)), .unset, .unset, .unset] [(.int (5 : Int32))])) rfl (hb hby at_37) rfl (by decide) (cap := 5) (by decide) (by decide) (by decide) (by decide) (ad := "[C") rfl
    obtain ⟨b695, gz695⟩ : ∃ z, z = h0.size := ⟨_, rfl⟩
    rw [← gz695] at A695 EA695 st695
    have ne696 : w2_V ≠ b695 := Nat.ne_of_lt (Nat.lt_of_lt_of_le E_w2_V.lt (Nat.le_of_eq gz695.symm))
    have ne697 : w3_N ≠ b695 := Nat.ne_of_lt (Nat.lt_of_lt_of_le E_w3_N.lt (Nat.le_of_eq gz695.symm))
    have ne698 : w4_P ≠ b695 := Nat.ne_of_lt (Nat.lt_of_lt_of_le E_w4_P.lt (Nat.le_of_eq gz695.symm))
    have ne699 : w5_L ≠ b695 := Nat.ne_of_lt (Nat.lt_of_lt_of_le E_w5_L.lt (Nat.le_of_eq gz695.symm))
    have ne700 : w6_L ≠ b695 := Nat.ne_of_lt (Nat.lt_of_lt_of_le E_w6_L.lt (Nat.le_of_eq gz695.symm))
    have ne701 : w7_B ≠ b695 := Nat.ne_of_lt (Nat.lt_of_lt_of_le V_w7_B.lt (Nat.le_of_eq gz695.symm))
    have ne702 : w8_B ≠ b695 := Nat.ne_of_lt (Nat.lt_of_lt_of_le V_w8_B.lt (Nat.le_of_eq gz695.symm))
    have g703 : n0 ≤ b695 := Nat.le_trans Z0 (Nat.le_of_eq gz695.symm)
    have sz704 : h0.size ≤ b695 := Nat.le_trans (Nat.le_refl h0.size) (Nat.le_of_eq gz695.symm)
    have ch705 := ch0.trans (CHr.ext E695 ch0.1)
    have z706 : n0 ≤ h695.size := Nat.le_trans Z0 E695.1
    have hs707 : h0.size ≤ h695.size := Nat.le_trans (Nat.le_refl h0.size) E695.1
    have hk708 := Nat.le_trans (Nat.le_refl _) E695.1
    have V695 : Arv Z h695 b695 k695 .char (5 : Int32) [(.int (0 : Int32)), (.int (0 : Int32)), (.int (0 : Int32)), (.int (0 : Int32)), (.int (0 : Int32))] (.int (0 : Int32)) := (Arv.new A695 (by decide)).pad (pad_rep [] (.int (0 : Int32)) 5)
    have O710 := (O0.ext E695)
    obtain ⟨vr709, _, ⟨T709, L709, k709, n709⟩, -, X709, hSq709, hgq709, ⟨Lc709, hQ709, l709, y709, z709, Cr709⟩, st709⟩ := Jvm.RoadKit.callSS (s := s.setVm s.vm) X695 hx (y := (⟨"com/example/vellum_index/vellumindex/StemmerLabelledPinLaw", "at", "(IIJZII)C"⟩ : MethodName)) hown (mvT hZ (wd hw 2 rfl)) (mvT hZ (wd hw 3 rfl)) (mvT hZ (wd hw 4 rfl)) (mvT hZ (wd hw 5 rfl)) (by decide) (backOfSH (s := s ) (vm0 := s.vm) (EL := consts_1) (W := 2) (rm1 l Z a0 hw [] (v0_1 p0 p1 p2 p3 q4 w0) (0 : Int32) q4 (v0_3 p0 p1 p2 p3 q4 w0) (v0_6 p0 p1 p2 p3 q4 w0) p3 w0 u1_SF h695 n0 z706 (Sta.ext O710.2 S_String_COMPACT_STRINGS) hcs (Sta.ext O710.2 S_Preconditions_SIOOBE_FORMATTER) hu (by decide)) hZ (wd hw 5 rfl) (wd hw 4 rfl) (by decide) (by decide) (own_ew hw) ch705.1) (g := (mkF m 59 #[.val (.int p0), .val (.int p1), .val (.int p2), .val (.int p3), .val (.long q4), .second, .val (.int (v0_1 p0 p1 p2 p3 q4 w0)), .val (.int (v0_3 p0 p1 p2 p3 q4 w0)), .val (.int (5 : Int32)), .val (.int (v0_6 p0 p1 p2 p3 q4 w0)), .val (.ref b695), .unset, .unset] [(.int p3), (.int (v0_6 p0 p1 p2 p3 q4 w0)), (.int (v0_3 p0 p1 p2 p3 q4 w0)), (.long q4), (.int (0 : Int32)), (.int (v0_1 p0 p1 p2 p3 q4 w0)), (.int (0 : Int32)), (.ref b695)])) rfl (by rw [hml]; rfl) (argsL := [(.int (v0_1 p0 p1 p2 p3 q4 w0)), (.int (0 : Int32)), (.long q4), (.int (v0_3 p0 p1 p2 p3 q4 w0)), (.int (v0_6 p0 p1 p2 p3 q4 w0)), (.int p3)]) (rest := [(.int (0 : Int32)), (.ref b695)]) (lenOf pd__IIJZII_C rfl) rfl (by show 2 * 0 + _ ≤ _; exact Nat.le_of_eq rfl) (hb hby at_59) (fun _ _ => ⟨rfl, e695, (by decide : 1 + 2 ≤ _), (by decide : 5 + 28 ≤ _)⟩)
    dsimp only [Pt.U, Pt.locs, Pt.cells, Pt.slots] at X709 l709 y709 z709 st709 hQ709 hSq709 hgq709 Cr709
    obtain ⟨X709, hS709, hZ, hown⟩ := rebS (s := s) (vm0 := s.vm) (n1 := h695.size) hS0 hk708 X709 hSq709 (by rw [← e695]; exact hgq709) hZ hown
    have ch711 := ch705.trans Cr709
    replace X709 := own_stand X709 l709 y709 z709
    clear l709 y709 z709
    have N709q := (show _ ∧ _ from hQ709).1
    have hq709 := (show _ ∧ _ from hQ709).2
    clear hQ709
    have hv709 := hq709.1
    have K709 := hq709.2
    clear hq709
    subst hv709
    have z712 : n0 ≤ T709.heap.size := Nat.le_trans z706 K709.1
    have hs713 : h0.size ≤ T709.heap.size := Nat.le_trans hs707 K709.1
    have N709 := Fr.app N0 N709q
    have k714 := (V695.keep K709 nin0)
    obtain ⟨cl715, Ar715, qc715, S715, M715, Ha715, G715⟩ := id k714
    have hin716 : ¬ ((0 : Int32) < 0 ∨ cl715.slots.size ≤ ((0 : Int32)).toNatClampNeg) := inb_of S715 ⟨by decide, by decide⟩
    obtain ⟨T717, h717, X717, e717, W717, st717⟩ := stC X709 hx hZ rfl Ar715 (j := (0 : Int32)) hin716 (g := (mkF m 62 #[.val (.int p0), .val (.int p1), .val (.int p2), .val (.int p3), .val (.long q4), .second, .val (.int (v0_1 p0 p1 p2 p3 q4 w0)), .val (.int (v0_3 p0 p1 p2 p3 q4 w0)), .val (.int (5 : Int32)), .val (.int (v0_6 p0 p1 p2 p3 q4 w0)), .val (.ref b695), .unset, .unset] [(.int (f1 (v0_1 p0 p1 p2 p3 q4 w0) (0 : Int32) q4 (v0_3 p0 p1 p2 p3 q4 w0) (v0_6 p0 p1 p2 p3 q4 w0) p3 w0)), (.int (0 : Int32)), (.ref b695)])) rfl rfl (hb hby at_62)
    have V717 : Arv Z h717 b695 k695 .char (5 : Int32) [(.int (v0_38 p0 p1 p2 p3 q4 w0)), (.int (0 : Int32)), (.int (0 : Int32)), (.int (0 : Int32)), (.int (0 : Int32))] (.int (0 : Int32)) := Arv.set Ar715 qc715 S715 M715 Ha715 G715 (fits_nar_char (v0_37 p0 p1 p2 p3 q4 w0)) W717 0 rfl (Nat.le_of_ble_eq_true rfl)
    have N717 := Fr.snoc X717 N709 g703
    have ch718 := ch711.trans (CHr.wr W717 (Safe.arv hZ.alike k714 (fun q => nomatch q)) ch711.1)
    have z719 : n0 ≤ h717.size := Nat.le_trans z712 (Keep.of_wr W717).1
    have hs720 : h0.size ≤ h717.size := Nat.le_trans hs713 (Keep.of_wr W717).1
    have hk721 := Nat.le_trans (Nat.le_refl _) (Keep.of_wr W717).1
    have O723 := ((O710.keep K709 all0).wr W717 g703)
    obtain ⟨vr722, _, ⟨T722, L722, k722, n722⟩, -, X722, hSq722, hgq722, ⟨Lc722, hQ722, l722, y722, z722, Cr722⟩, st722⟩ := Jvm.RoadKit.callSS (s := s.setVm T709.vm) X717 hx (y := (⟨"com/example/vellum_index/vellumindex/StemmerLabelledPinLaw", "at", "(IIJZII)C"⟩ : MethodName)) hown (mvT hZ (wd hw 2 rfl)) (mvT hZ (wd hw 3 rfl)) (mvT hZ (wd hw 4 rfl)) (mvT hZ (wd hw 5 rfl)) (by decide) (backOfSH (s := s ) (vm0 := T709.vm) (EL := consts_1) (W := 2) (rm1 l Z a0 hw [] (v0_1 p0 p1 p2 p3 q4 w0) (1 : Int32) q4 (v0_3 p0 p1 p2 p3 q4 w0) (v0_6 p0 p1 p2 p3 q4 w0) p3 w0 u1_SF h717 n0 z719 (Sta.ext O723.2 S_String_COMPACT_STRINGS) hcs (Sta.ext O723.2 S_Preconditions_SIOOBE_FORMATTER) hu (by decide)) hZ (wd hw 5 rfl) (wd hw 4 rfl) (by decide) (by decide) (own_ew hw) ch718.1) (g := (mkF m 82 #[.val (.int p0), .val (.int p1), .val (.int p2), .val (.int p3), .val (.long q4), .second, .val (.int (v0_1 p0 p1 p2 p3 q4 w0)), .val (.int (v0_3 p0 p1 p2 p3 q4 w0)), .val (.int (5 : Int32)), .val (.int (v0_6 p0 p1 p2 p3 q4 w0)), .val (.ref b695), .unset, .unset] [(.int p3), (.int (v0_6 p0 p1 p2 p3 q4 w0)), (.int (v0_3 p0 p1 p2 p3 q4 w0)), (.long q4), (.int (1 : Int32)), (.int (v0_1 p0 p1 p2 p3 q4 w0)), (.int (1 : Int32)), (.ref b695)])) rfl (by rw [hml]; rfl) (argsL := [(.int (v0_1 p0 p1 p2 p3 q4 w0)), (.int (1 : Int32)), (.long q4), (.int (v0_3 p0 p1 p2 p3 q4 w0)), (.int (v0_6 p0 p1 p2 p3 q4 w0)), (.int p3)]) (rest := [(.int (1 : Int32)), (.ref b695)]) (lenOf pd__IIJZII_C rfl) rfl (by show 2 * 0 + _ ≤ _; exact Nat.le_of_eq rfl) (hb hby at_82) (fun _ _ => ⟨rfl, e717, (by decide : 3 + 2 ≤ _), (by decide : 33 + 28 ≤ _)⟩)
    dsimp only [Pt.U, Pt.locs, Pt.cells, Pt.slots] at X722 l722 y722 z722 st722 hQ722 hSq722 hgq722 Cr722
    obtain ⟨X722, hS722, hZ, hown⟩ := rebS (s := s) (vm0 := T709.vm) (n1 := h717.size) hS709 hk721 X722 hSq722 (by rw [← e717]; exact hgq722) hZ hown
    have ch724 := ch718.trans Cr722
    replace X722 := own_stand X722 l722 y722 z722
    clear l722 y722 z722
    have N722q := (show _ ∧ _ from hQ722).1
    have hq722 := (show _ ∧ _ from hQ722).2
    clear hQ722
    have hv722 := hq722.1
    have K722 := hq722.2
    clear hq722
    subst hv722
    have z725 : n0 ≤ T722.heap.size := Nat.le_trans z719 K722.1
    have hs726 : h0.size ≤ T722.heap.size := Nat.le_trans hs720 K722.1
    have N722 := Fr.app N717 N722q
    have k727 := (V717.keep K722 nin0)
    obtain ⟨cl728, Ar728, qc728, S728, M728, Ha728, G728⟩ := id k727
    have hin729 : ¬ ((1 : Int32) < 0 ∨ cl728.slots.size ≤ ((1 : Int32)).toNatClampNeg) := inb_of S728 ⟨by decide, by decide⟩
    obtain ⟨T730, h730, X730, e730, W730, st730⟩ := stC X722 hx hZ rfl Ar728 (j := (1 : Int32)) hin729 (g := (mkF m 85 #[.val (.int p0), .val (.int p1), .val (.int p2), .val (.int p3), .val (.long q4), .second, .val (.int (v0_1 p0 p1 p2 p3 q4 w0)), .val (.int (v0_3 p0 p1 p2 p3 q4 w0)), .val (.int (5 : Int32)), .val (.int (v0_6 p0 p1 p2 p3 q4 w0)), .val (.ref b695), .unset, .unset] [(.int (f1 (v0_1 p0 p1 p2 p3 q4 w0) (1 : Int32) q4 (v0_3 p0 p1 p2 p3 q4 w0) (v0_6 p0 p1 p2 p3 q4 w0) p3 w0)), (.int (1 : Int32)), (.ref b695)])) rfl rfl (hb hby at_85)
    have V730 : Arv Z h730 b695 k695 .char (5 : Int32) [(.int (v0_38 p0 p1 p2 p3 q4 w0)), (.int (v0_40 p0 p1 p2 p3 q4 w0)), (.int (0 : Int32)), (.int (0 : Int32)), (.int (0 : Int32))] (.int (0 : Int32)) := Arv.set Ar728 qc728 S728 M728 Ha728 G728 (fits_nar_char (v0_39 p0 p1 p2 p3 q4 w0)) W730 1 rfl (Nat.le_of_ble_eq_true rfl)
    have N730 := Fr.snoc X730 N722 g703
    have ch731 := ch724.trans (CHr.wr W730 (Safe.arv hZ.alike k727 (fun q => nomatch q)) ch724.1)
    have z732 : n0 ≤ h730.size := Nat.le_trans z725 (Keep.of_wr W730).1
    have hs733 : h0.size ≤ h730.size := Nat.le_trans hs726 (Keep.of_wr W730).1
    have hk734 := Nat.le_trans (Nat.le_refl _) (Keep.of_wr W730).1
    have O736 := ((O723.keep K722 all0).wr W730 g703)
    obtain ⟨vr735, _, ⟨T735, L735, k735, n735⟩, -, X735, hSq735, hgq735, ⟨Lc735, hQ735, l735, y735, z735, Cr735⟩, st735⟩ := Jvm.RoadKit.callSS (s := s.setVm T722.vm) X730 hx (y := (⟨"com/example/vellum_index/vellumindex/StemmerLabelledPinLaw", "at", "(IIJZII)C"⟩ : MethodName)) hown (mvT hZ (wd hw 2 rfl)) (mvT hZ (wd hw 3 rfl)) (mvT hZ (wd hw 4 rfl)) (mvT hZ (wd hw 5 rfl)) (by decide) (backOfSH (s := s ) (vm0 := T722.vm) (EL := consts_1) (W := 2) (rm1 l Z a0 hw [] (v0_1 p0 p1 p2 p3 q4 w0) (2 : Int32) q4 (v0_3 p0 p1 p2 p3 q4 w0) (v0_6 p0 p1 p2 p3 q4 w0) p3 w0 u1_SF h730 n0 z732 (Sta.ext O736.2 S_String_COMPACT_STRINGS) hcs (Sta.ext O736.2 S_Preconditions_SIOOBE_FORMATTER) hu (by decide)) hZ (wd hw 5 rfl) (wd hw 4 rfl) (by decide) (by decide) (own_ew hw) ch731.1) (g := (mkF m 105 #[.val (.int p0), .val (.int p1), .val (.int p2), .val (.int p3), .val (.long q4), .second, .val (.int (v0_1 p0 p1 p2 p3 q4 w0)), .val (.int (v0_3 p0 p1 p2 p3 q4 w0)), .val (.int (5 : Int32)), .val (.int (v0_6 p0 p1 p2 p3 q4 w0)), .val (.ref b695), .unset, .unset] [(.int p3), (.int (v0_6 p0 p1 p2 p3 q4 w0)), (.int (v0_3 p0 p1 p2 p3 q4 w0)), (.long q4), (.int (2 : Int32)), (.int (v0_1 p0 p1 p2 p3 q4 w0)), (.int (2 : Int32)), (.ref b695)])) rfl (by rw [hml]; rfl) (argsL := [(.int (v0_1 p0 p1 p2 p3 q4 w0)), (.int (2 : Int32)), (.long q4), (.int (v0_3 p0 p1 p2 p3 q4 w0)), (.int (v0_6 p0 p1 p2 p3 q4 w0)), (.int p3)]) (rest := [(.int (2 : Int32)), (.ref b695)]) (lenOf pd__IIJZII_C rfl) rfl (by show 2 * 0 + _ ≤ _; exact Nat.le_of_eq rfl) (hb hby at_105) (fun _ _ => ⟨rfl, e730, (by decide : 5 + 2 ≤ _), (by decide : 61 + 28 ≤ _)⟩)
    dsimp only [Pt.U, Pt.locs, Pt.cells, Pt.slots] at X735 l735 y735 z735 st735 hQ735 hSq735 hgq735 Cr735
    obtain ⟨X735, hS735, hZ, hown⟩ := rebS (s := s) (vm0 := T722.vm) (n1 := h730.size) hS722 hk734 X735 hSq735 (by rw [← e730]; exact hgq735) hZ hown
    have ch737 := ch731.trans Cr735
    replace X735 := own_stand X735 l735 y735 z735
    clear l735 y735 z735
    have N735q := (show _ ∧ _ from hQ735).1
    have hq735 := (show _ ∧ _ from hQ735).2
    clear hQ735
    have hv735 := hq735.1
    have K735 := hq735.2
    clear hq735
    subst hv735
    have z738 : n0 ≤ T735.heap.size := Nat.le_trans z732 K735.1
    have hs739 : h0.size ≤ T735.heap.size := Nat.le_trans hs733 K735.1
    have N735 := Fr.app N730 N735q
    have k740 := (V730.keep K735 nin0)
    obtain ⟨cl741, Ar741, qc741, S741, M741, Ha741, G741⟩ := id k740
    have hin742 : ¬ ((2 : Int32) < 0 ∨ cl741.slots.size ≤ ((2 : Int32)).toNatClampNeg) := inb_of S741 ⟨by decide, by decide⟩
    obtain ⟨T743, h743, X743, e743, W743, st743⟩ := stC X735 hx hZ rfl Ar741 (j := (2 : Int32)) hin742 (g := (mkF m 108 #[.val (.int p0), .val (.int p1), .val (.int p2), .val (.int p3), .val (.long q4), .second, .val (.int (v0_1 p0 p1 p2 p3 q4 w0)), .val (.int (v0_3 p0 p1 p2 p3 q4 w0)), .val (.int (5 : Int32)), .val (.int (v0_6 p0 p1 p2 p3 q4 w0)), .val (.ref b695), .unset, .unset] [(.int (f1 (v0_1 p0 p1 p2 p3 q4 w0) (2 : Int32) q4 (v0_3 p0 p1 p2 p3 q4 w0) (v0_6 p0 p1 p2 p3 q4 w0) p3 w0)), (.int (2 : Int32)), (.ref b695)])) rfl rfl (hb hby at_108)
    have V743 : Arv Z h743 b695 k695 .char (5 : Int32) [(.int (v0_38 p0 p1 p2 p3 q4 w0)), (.int (v0_40 p0 p1 p2 p3 q4 w0)), (.int (v0_42 p0 p1 p2 p3 q4 w0)), (.int (0 : Int32)), (.int (0 : Int32))] (.int (0 : Int32)) := Arv.set Ar741 qc741 S741 M741 Ha741 G741 (fits_nar_char (v0_41 p0 p1 p2 p3 q4 w0)) W743 2 rfl (Nat.le_of_ble_eq_true rfl)
    have N743 := Fr.snoc X743 N735 g703
    have ch744 := ch737.trans (CHr.wr W743 (Safe.arv hZ.alike k740 (fun q => nomatch q)) ch737.1)
    have z745 : n0 ≤ h743.size := Nat.le_trans z738 (Keep.of_wr W743).1
    have hs746 : h0.size ≤ h743.size := Nat.le_trans hs739 (Keep.of_wr W743).1
    have hk747 := Nat.le_trans (Nat.le_refl _) (Keep.of_wr W743).1
    have O749 := ((O736.keep K735 all0).wr W743 g703)
    obtain ⟨vr748, _, ⟨T748, L748, k748, n748⟩, -, X748, hSq748, hgq748, ⟨Lc748, hQ748, l748, y748, z748, Cr748⟩, st748⟩ := Jvm.RoadKit.callSS (s := s.setVm T735.vm) X743 hx (y := (⟨"com/example/vellum_index/vellumindex/StemmerLabelledPinLaw", "at", "(IIJZII)C"⟩ : MethodName)) hown (mvT hZ (wd hw 2 rfl)) (mvT hZ (wd hw 3 rfl)) (mvT hZ (wd hw 4 rfl)) (mvT hZ (wd hw 5 rfl)) (by decide) (backOfSH (s := s ) (vm0 := T735.vm) (EL := consts_1) (W := 2) (rm1 l Z a0 hw [] (v0_1 p0 p1 p2 p3 q4 w0) (3 : Int32) q4 (v0_3 p0 p1 p2 p3 q4 w0) (v0_6 p0 p1 p2 p3 q4 w0) p3 w0 u1_SF h743 n0 z745 (Sta.ext O749.2 S_String_COMPACT_STRINGS) hcs (Sta.ext O749.2 S_Preconditions_SIOOBE_FORMATTER) hu (by decide)) hZ (wd hw 5 rfl) (wd hw 4 rfl) (by decide) (by decide) (own_ew hw) ch744.1) (g := (mkF m 128 #[.val (.int p0), .val (.int p1), .val (.int p2), .val (.int p3), .val (.long q4), .second, .val (.int (v0_1 p0 p1 p2 p3 q4 w0)), .val (.int (v0_3 p0 p1 p2 p3 q4 w0)), .val (.int (5 : Int32)), .val (.int (v0_6 p0 p1 p2 p3 q4 w0)), .val (.ref b695), .unset, .unset] [(.int p3), (.int (v0_6 p0 p1 p2 p3 q4 w0)), (.int (v0_3 p0 p1 p2 p3 q4 w0)), (.long q4), (.int (3 : Int32)), (.int (v0_1 p0 p1 p2 p3 q4 w0)), (.int (3 : Int32)), (.ref b695)])) rfl (by rw [hml]; rfl) (argsL := [(.int (v0_1 p0 p1 p2 p3 q4 w0)), (.int (3 : Int32)), (.long q4), (.int (v0_3 p0 p1 p2 p3 q4 w0)), (.int (v0_6 p0 p1 p2 p3 q4 w0)), (.int p3)]) (rest := [(.int (3 : Int32)), (.ref b695)]) (lenOf pd__IIJZII_C rfl) rfl (by show 2 * 0 + _ ≤ _; exact Nat.le_of_eq rfl) (hb hby at_128) (fun _ _ => ⟨rfl, e743, (by decide : 7 + 2 ≤ _), (by decide : 89 + 28 ≤ _)⟩)
    dsimp only [Pt.U, Pt.locs, Pt.cells, Pt.slots] at X748 l748 y748 z748 st748 hQ748 hSq748 hgq748 Cr748
    obtain ⟨X748, hS748, hZ, hown⟩ := rebS (s := s) (vm0 := T735.vm) (n1 := h743.size) hS735 hk747 X748 hSq748 (by rw [← e743]; exact hgq748) hZ hown
    have ch750 := ch744.trans Cr748
    replace X748 := own_stand X748 l748 y748 z748
    clear l748 y748 z748
    have N748q := (show _ ∧ _ from hQ748).1
    have hq748 := (show _ ∧ _ from hQ748).2
    clear hQ748
    have hv748 := hq748.1
    have K748 := hq748.2
    clear hq748
    subst hv748
    have z751 : n0 ≤ T748.heap.size := Nat.le_trans z745 K748.1
    have hs752 : h0.size ≤ T748.heap.size := Nat.le_trans hs746 K748.1
    have N748 := Fr.app N743 N748q
    have k753 := (V743.keep K748 nin0)
    obtain ⟨cl754, Ar754, qc754, S754, M754, Ha754, G754⟩ := id k753
    have hin755 : ¬ ((3 : Int32) < 0 ∨ cl754.slots.size ≤ ((3 : Int32)).toNatClampNeg) := inb_of S754 ⟨by decide, by decide⟩
    obtain ⟨T756, h756, X756, e756, W756, st756⟩ := stC X748 hx hZ rfl Ar754 (j := (3 : Int32)) hin755 (g := (mkF m 131 #[.val (.int p0), .val (.int p1), .val (.int p2), .val (.int p3), .val (.long q4), .second, .val (.int (v0_1 p0 p1 p2 p3 q4 w0)), .val (.int (v0_3 p0 p1 p2 p3 q4 w0)), .val (.int (5 : Int32)), .val (.int (v0_6 p0 p1 p2 p3 q4 w0)), .val (.ref b695), .unset, .unset] [(.int (f1 (v0_1 p0 p1 p2 p3 q4 w0) (3 : Int32) q4 (v0_3 p0 p1 p2 p3 q4 w0) (v0_6 p0 p1 p2 p3 q4 w0) p3 w0)), (.int (3 : Int32)), (.ref b695)])) rfl rfl (hb hby at_131)
    have V756 : Arv Z h756 b695 k695 .char (5 : Int32) [(.int (v0_38 p0 p1 p2 p3 q4 w0)), (.int (v0_40 p0 p1 p2 p3 q4 w0)), (.int (v0_42 p0 p1 p2 p3 q4 w0)), (.int (v0_44 p0 p1 p2 p3 q4 w0)), (.int (0 : Int32))] (.int (0 : Int32)) := Arv.set Ar754 qc754 S754 M754 Ha754 G754 (fits_nar_char (v0_43 p0 p1 p2 p3 q4 w0)) W756 3 rfl (Nat.le_of_ble_eq_true rfl)
    have N756 := Fr.snoc X756 N748 g703
    have ch757 := ch750.trans (CHr.wr W756 (Safe.arv hZ.alike k753 (fun q => nomatch q)) ch750.1)
    have z758 : n0 ≤ h756.size := Nat.le_trans z751 (Keep.of_wr W756).1
    have hs759 : h0.size ≤ h756.size := Nat.le_trans hs752 (Keep.of_wr W756).1
    have hk760 := Nat.le_trans (Nat.le_refl _) (Keep.of_wr W756).1
    have O762 := ((O749.keep K748 all0).wr W756 g703)
    obtain ⟨vr761, _, ⟨T761, L761, k761, n761⟩, -, X761, hSq761, hgq761, ⟨Lc761, hQ761, l761, y761, z761, Cr761⟩, st761⟩ := Jvm.RoadKit.callSS (s := s.setVm T748.vm) X756 hx (y := (⟨"com/example/vellum_index/vellumindex/StemmerLabelledPinLaw", "at", "(IIJZII)C"⟩ : MethodName)) hown (mvT hZ (wd hw 2 rfl)) (mvT hZ (wd hw 3 rfl)) (mvT hZ (wd hw 4 rfl)) (mvT hZ (wd hw 5 rfl)) (by decide) (backOfSH (s := s ) (vm0 := T748.vm) (EL := consts_1) (W := 2) (rm1 l Z a0 hw [] (v0_1 p0 p1 p2 p3 q4 w0) (4 : Int32) q4 (v0_3 p0 p1 p2 p3 q4 w0) (v0_6 p0 p1 p2 p3 q4 w0) p3 w0 u1_SF h756 n0 z758 (Sta.ext O762.2 S_String_COMPACT_STRINGS) hcs (Sta.ext O762.2 S_Preconditions_SIOOBE_FORMATTER) hu (by decide)) hZ (wd hw 5 rfl) (wd hw 4 rfl) (by decide) (by decide) (own_ew hw) ch757.1) (g := (mkF m 151 #[.val (.int p0), .val (.int p1), .val (.int p2), .val (.int p3), .val (.long q4), .second, .val (.int (v0_1 p0 p1 p2 p3 q4 w0)), .val (.int (v0_3 p0 p1 p2 p3 q4 w0)), .val (.int (5 : Int32)), .val (.int (v0_6 p0 p1 p2 p3 q4 w0)), .val (.ref b695), .unset, .unset] [(.int p3), (.int (v0_6 p0 p1 p2 p3 q4 w0)), (.int (v0_3 p0 p1 p2 p3 q4 w0)), (.long q4), (.int (4 : Int32)), (.int (v0_1 p0 p1 p2 p3 q4 w0)), (.int (4 : Int32)), (.ref b695)])) rfl (by rw [hml]; rfl) (argsL := [(.int (v0_1 p0 p1 p2 p3 q4 w0)), (.int (4 : Int32)), (.long q4), (.int (v0_3 p0 p1 p2 p3 q4 w0)), (.int (v0_6 p0 p1 p2 p3 q4 w0)), (.int p3)]) (rest := [(.int (4 : Int32)), (.ref b695)]) (lenOf pd__IIJZII_C rfl) rfl (by show 2 * 0 + _ ≤ _; exact Nat.le_of_eq rfl) (hb hby at_151) (fun _ _ => ⟨rfl, e756, (by decide : 9 + 2 ≤ _), (by decide : 117 + 28 ≤ _)⟩)
    dsimp only [Pt.U, Pt.locs, Pt.cells, Pt.slots] at X761 l761 y761 z761 st761 hQ761 hSq761 hgq761 Cr761
    obtain ⟨X761, hS761, hZ, hown⟩ := rebS (s := s) (vm0 := T748.vm) (n1 := h756.size) hS748 hk760 X761 hSq761 (by rw [← e756]; exact hgq761) hZ hown
    have ch763 := ch757.trans Cr761
    replace X761 := own_stand X761 l761 y761 z761
    clear l761 y761 z761
    have N761q := (show _ ∧ _ from hQ761).1
    have hq761 := (show _ ∧ _ from hQ761).2
    clear hQ761
    have hv761 := hq761.1
    have K761 := hq761.2
    clear hq761
    subst hv761
    have z764 : n0 ≤ T761.heap.size := Nat.le_trans z758 K761.1
    have hs765 : h0.size ≤ T761.heap.size := Nat.le_trans hs759 K761.1
    have N761 := Fr.app N756 N761q
    have k766 := (V756.keep K761 nin0)
    obtain ⟨cl767, Ar767, qc767, S767, M767, Ha767, G767⟩ := id k766
    have hin768 : ¬ ((4 : Int32) < 0 ∨ cl767.slots.size ≤ ((4 : Int32)).toNatClampNeg) := inb_of S767 ⟨by decide, by decide⟩
    obtain ⟨T769, h769, X769, e769, W769, st769⟩ := stC X761 hx hZ rfl Ar767 (j := (4 : Int32)) hin768 (g := (mkF m 154 #[.val (.int p0), .val (.int p1), .val (.int p2), .val (.int p3), .val (.long q4), .second, .val (.int (v0_1 p0 p1 p2 p3 q4 w0)), .val (.int (v0_3 p0 p1 p2 p3 q4 w0)), .val (.int (5 : Int32)), .val (.int (v0_6 p0 p1 p2 p3 q4 w0)), .val (.ref b695), .unset, .unset] [(.int (f1 (v0_1 p0 p1 p2 p3 q4 w0) (4 : Int32) q4 (v0_3 p0 p1 p2 p3 q4 w0) (v0_6 p0 p1 p2 p3 q4 w0) p3 w0)), (.int (4 : Int32)), (.ref b695)])) rfl rfl (hb hby at_154)
    have V769 : Arv Z h769 b695 k695 .char (5 : Int32) [(.int (v0_38 p0 p1 p2 p3 q4 w0)), (.int (v0_40 p0 p1 p2 p3 q4 w0)), (.int (v0_42 p0 p1 p2 p3 q4 w0)), (.int (v0_44 p0 p1 p2 p3 q4 w0)), (.int (v0_46 p0 p1 p2 p3 q4 w0))] (.int (0 : Int32)) := Arv.set Ar767 qc767 S767 M767 Ha767 G767 (fits_nar_char (v0_45 p0 p1 p2 p3 q4 w0)) W769 4 rfl (Nat.le_of_ble_eq_true rfl)
    have N769 := Fr.snoc X769 N761 g703
    have ch770 := ch763.trans (CHr.wr W769 (Safe.arv hZ.alike k766 (fun q => nomatch q)) ch763.1)
    have z771 : n0 ≤ h769.size := Nat.le_trans z764 (Keep.of_wr W769).1
    have hs772 : h0.size ≤ h769.size := Nat.le_trans hs765 (Keep.of_wr W769).1
    have hk773 := Nat.le_trans (Nat.le_refl _) (Keep.of_wr W769).1
    obtain ⟨T774, h774, X774, e774, E774, A774, D774, -, st774⟩ := newO X769 hx hZ hown (wd hw 52 rfl) (wd hw 11 rfl) (wd hw 10 rfl) e769 (g := (mkF m 204 #[.val (.int p0), .val (.int p1), .val (.int p2), .val (.int p3), .val (.long q4), .second, .val (.int (v0_1 p0 p1 p2 p3 q4 w0)), .val (.int (v0_3 p0 p1 p2 p3 q4 w0)), .val (.int (5 : Int32)), .val (.int (v0_6 p0 p1 p2 p3 q4 w0)), .val (.ref b695), .unset, .unset] [])) rfl (hb hby at_204) (by decide) (by decide)
    obtain ⟨b774, gz774⟩ : ∃ z, z = h769.size := ⟨_, rfl⟩
    rw [← gz774] at A774 D774 st774
    have k775 := (((((((((((E_w2_V.ext E695).keep K709).wr W717).keep K722).wr W730).keep K735).wr W743).keep K748).wr W756).keep K761).wr W769)
    have ne776 : w2_V ≠ b774 := Nat.ne_of_lt (Nat.lt_of_lt_of_le k775.lt (Nat.le_of_eq gz774.symm))
    have k777 := (((((((((((E_w3_N.ext E695).keep K709).wr W717).keep K722).wr W730).keep K735).wr W743).keep K748).wr W756).keep K761).wr W769)
    have ne778 : w3_N ≠ b774 := Nat.ne_of_lt (Nat.lt_of_lt_of_le k777.lt (Nat.le_of_eq gz774.symm))
    have k779 := (((((((((((E_w4_P.ext E695).keep K709).wr W717).keep K722).wr W730).keep K735).wr W743).keep K748).wr W756).keep K761).wr W769)
    have ne780 : w4_P ≠ b774 := Nat.ne_of_lt (Nat.lt_of_lt_of_le k779.lt (Nat.le_of_eq gz774.symm))
    have k781 := (((((((((((E_w5_L.ext E695).keep K709).wr W717).keep K722).wr W730).keep K735).wr W743).keep K748).wr W756).keep K761).wr W769)
    have ne782 : w5_L ≠ b774 := Nat.ne_of_lt (Nat.lt_of_lt_of_le k781.lt (Nat.le_of_eq gz774.symm))
    have k783 := (((((((((((E_w6_L.ext E695).keep K709).wr W717).keep K722).wr W730).keep K735).wr W743).keep K748).wr W756).keep K761).wr W769)
    have ne784 : w6_L ≠ b774 := Nat.ne_of_lt (Nat.lt_of_lt_of_le k783.lt (Nat.le_of_eq gz774.symm))
    have k785 := ((((((((((EA695.keep K709).wr W717).keep K722).wr W730).keep K735).wr W743).keep K748).wr W756).keep K761).wr W769)
    have ne786 : b695 ≠ b774 := Nat.ne_of_lt (Nat.lt_of_lt_of_le k785.lt (Nat.le_of_eq gz774.symm))
    have k787 := (((((((((((V_w7_B.ext E695).keep K709 nin0).other W717 ne701).keep K722 nin0).other W730 ne701).keep K735 nin0).other W743 ne701).keep K748 nin0).other W756 ne701).keep K761 nin0).other W769 ne701)
    have ne788 : w7_B ≠ b774 := Nat.ne_of_lt (Nat.lt_of_lt_of_le k787.lt (Nat.le_of_eq gz774.symm))
    have k789 := (((((((((((V_w8_B.ext E695).keep K709 nin0).other W717 ne702).keep K722 nin0).other W730 ne702).keep K735 nin0).other W743 ne702).keep K748 nin0).other W756 ne702).keep K761 nin0).other W769 ne702)
    have ne790 : w8_B ≠ b774 := Nat.ne_of_lt (Nat.lt_of_lt_of_le k789.lt (Nat.le_of_eq gz774.symm))
    have g791 : n0 ≤ b774 := Nat.le_trans z771 (Nat.le_of_eq gz774.symm)
    have sz792 : h0.size ≤ b774 := Nat.le_trans hs772 (Nat.le_of_eq gz774.symm)
    have ch793 := ch770.trans (CHr.ext E774 ch770.1)
    have z794 : n0 ≤ h774.size := Nat.le_trans z771 E774.1
    have hs795 : h0.size ≤ h774.size := Nat.le_trans hs772 E774.1
    have hk796 := Nat.le_trans hk773 E774.1
    have sf797 := Safe.ext E774 ch770.1 (Safe.new (Z := Z) (EL := consts_1) (vm := T761.vm) (Nat.le_of_eq gz774.symm))
    have F774_value : Fld Z h774 b774 "java/lang/String" "value" "[B" .null := D774 (Or.inr (wd hw 13 rfl)) (ty := (.array .byte)) (by decide)
    have F774_coder : Fld Z h774 b774 "java/lang/String" "coder" "B" (.int (0 : Int32)) := D774 (Or.inr (wd hw 14 rfl)) (ty := .byte) (by decide)
    have k799 := (V769.ext E774)
    have O800 := (((O762.keep K761 all0).wr W769 g703).ext E774)
    obtain ⟨vr798, _, ⟨T798, L798, k798, n798⟩, -, X798, ⟨Lc798, hQ798, l798, y798, z798⟩, st798⟩ := Jvm.Stand.specialBack X774 hx (y := (⟨"java/lang/String", "<init>", "([C)V"⟩ : MethodName)) rfl hown (mvT hZ (wd hw 53 rfl)) (mvT hZ (wd hw 54 rfl)) (mvT hZ (wd hw 55 rfl)) (by decide) (own_newS (W := 1) (cs := [(v0_38 p0 p1 p2 p3 q4 w0), (v0_40 p0 p1 p2 p3 q4 w0), (v0_42 p0 p1 p2 p3 q4 w0), (v0_44 p0 p1 p2 p3 q4 w0), (v0_46 p0 p1 p2 p3 q4 w0)]) (vs := [(.int (own_b (v0_38 p0 p1 p2 p3 q4 w0))), (.int (own_b (v0_40 p0 p1 p2 p3 q4 w0))), (.int (own_b (v0_42 p0 p1 p2 p3 q4 w0))), (.int (own_b (v0_44 p0 p1 p2 p3 q4 w0))), (.int (own_b (v0_46 p0 p1 p2 p3 q4 w0)))]) (n := 5) hZ hw g791 z794 A774 F774_value F774_coder k799 (Sta.ext O800.2 S_String_COMPACT_STRINGS) hcs rfl rfl (by decide) (by decide) (own_alc (own_at _ _ _ _ _ _ _) (own_alc (own_at _ _ _ _ _ _ _) (own_alc (own_at _ _ _ _ _ _ _) (own_alc (own_at _ _ _ _ _ _ _) (own_alc (own_at _ _ _ _ _ _ _) own_aln))))) rfl (by decide) (by decide)) (g := (mkF m 210 #[.val (.int p0), .val (.int p1), .val (.int p2), .val (.int p3), .val (.long q4), .second, .val (.int (v0_1 p0 p1 p2 p3 q4 w0)), .val (.int (v0_3 p0 p1 p2 p3 q4 w0)), .val (.int (5 : Int32)), .val (.int (v0_6 p0 p1 p2 p3 q4 w0)), .val (.ref b695), .unset, .unset] [(.ref b695), (.ref b774), (.ref b774)])) rfl (by rw [hml]; rfl) (Steps.refl _) (a := b774) (argsL := [(.ref b695)]) (rest := [(.ref b774)]) (lenOf pd___C_V rfl) rfl (by show 2 * 0 + _ ≤ _; exact Nat.le_of_eq rfl) (hb hby at_210) (fun _ _ => ⟨rfl, e774, (by decide : 12 + 1 ≤ _), (by decide : 149 + 5 ≤ _)⟩)
    dsimp only [Pt.U, Pt.locs, Pt.cells, Pt.slots] at X798 l798 y798 z798 st798 hQ798
    replace X798 := own_stand X798 l798 y798 z798
    clear l798 y798 z798
    have N798q := (show _ ∧ _ from hQ798).1
    have hq798 := (show _ ∧ _ from hQ798).2
    clear hQ798
    obtain ⟨xsn_0_798, ksn_1_798, hq798x⟩ := hq798
    have hv798 := hq798x.1
    have szxsn_0_798 := hq798x.2.1
    have K798 := hq798x.2.2.1
    have po798_0 := hq798x.2.2.2.1
    have po798_1 := hq798x.2.2.2.2.1
    have po798_2 := hq798x.2.2.2.2.2.1
    have po798_3 := hq798x.2.2.2.2.2.2
    clear hq798x
    subst hv798
    have k801 := (k775.ext E774)
    have ne802 : w2_V ≠ xsn_0_798 := Nat.ne_of_lt (Nat.lt_of_lt_of_le k801.lt szxsn_0_798)
    have k803 := (k777.ext E774)
    have ne804 : w3_N ≠ xsn_0_798 := Nat.ne_of_lt (Nat.lt_of_lt_of_le k803.lt szxsn_0_798)
    have k805 := (k779.ext E774)
    have ne806 : w4_P ≠ xsn_0_798 := Nat.ne_of_lt (Nat.lt_of_lt_of_le k805.lt szxsn_0_798)
    have k807 := (k781.ext E774)
    have ne808 : w5_L ≠ xsn_0_798 := Nat.ne_of_lt (Nat.lt_of_lt_of_le k807.lt szxsn_0_798)
    have k809 := (k783.ext E774)
    have ne810 : w6_L ≠ xsn_0_798 := Nat.ne_of_lt (Nat.lt_of_lt_of_le k809.lt szxsn_0_798)
    have k811 := (k785.ext E774)
    have ne812 : b695 ≠ xsn_0_798 := Nat.ne_of_lt (Nat.lt_of_lt_of_le k811.lt szxsn_0_798)
    have ne813 : b774 ≠ xsn_0_798 := Nat.ne_of_lt (Nat.lt_of_lt_of_le A774.lt szxsn_0_798)
    have k814 := (k787.ext E774)
    have ne815 : w7_B ≠ xsn_0_798 := Nat.ne_of_lt (Nat.lt_of_lt_of_le k814.lt szxsn_0_798)
    have k816 := (k789.ext E774)
    have ne817 : w8_B ≠ xsn_0_798 := Nat.ne_of_lt (Nat.lt_of_lt_of_le k816.lt szxsn_0_798)
    have g818 : n0 ≤ xsn_0_798 := Nat.le_trans z794 szxsn_0_798
    have sz819 : h0.size ≤ xsn_0_798 := Nat.le_trans hs795 szxsn_0_798
    have sf821 := Safe.keep K798 (sfS sf797 sf0) ch793.1 sf797
    have ch820 := ch793.trans (CHr.keep K798 (sfS sf797 sf0) ch793.1)
    have z822 : n0 ≤ T798.heap.size := Nat.le_trans z794 K798.1
    have hs823 : h0.size ≤ T798.heap.size := Nat.le_trans hs795 K798.1
    have hk824 := Nat.le_trans hk796 K798.1
    have N798 := Fr.app N769 N798q
    obtain ⟨la825, T825, h825, kk825, lb825, lk825, X825, e825, E825, hS825, hk825, hZ, hown, Ex825, Fc825, Fv825, V825, -, -, Cr825, Lt825, Sf825, st825⟩ := ldcCH (s := s) (vm0 := T761.vm) (EL := consts_1) X798 hx hZ hown (wd hw 9 rfl) (own_ws hw) rfl hS761 hk824 (own_ew hw) (List.mem_of_getElem? (i := 0) rfl) ch820.1 (z := (4 : Int32)) (vs := [(.int (110 : Int32)), (.int (111 : Int32)), (.int (110 : Int32)), (.int (101 : Int32))]) ⟨by decide, by rfl⟩ (by decide) rfl (g := (mkF m 220 #[.val (.int p0), .val (.int p1), .val (.int p2), .val (.int p3), .val (.long q4), .second, .val (.int (v0_1 p0 p1 p2 p3 q4 w0)), .val (.int (v0_3 p0 p1 p2 p3 q4 w0)), .val (.int (5 : Int32)), .val (.int (v0_6 p0 p1 p2 p3 q4 w0)), .val (.ref b695), .val (.ref b774), .val .null] [(.ref b774)])) rfl (hb hby at_220) (n := 16) (by decide) (by decide) (by decide) (by decide)
    have sf826 := Cr825.safe po798_0.lt sf821
    have ch827 := ch820.trans Cr825
    have z828 : n0 ≤ h825.size := Nat.le_trans z822 E825.1
    have hs829 : h0.size ≤ h825.size := Nat.le_trans hs823 E825.1
    have ne830 := Sf825 _ sf826
    have k831 := ((((((((((((((V_w2_V.ext E695).keep K709 nin0).other W717 ne696).keep K722 nin0).other W730 ne696).keep K735 nin0).other W743 ne696).keep K748 nin0).other W756 ne696).keep K761 nin0).other W769 ne696).ext E774).keep K798 (ninS ne776 nin0)).ext E825)
    have k832 := ((k799.keep K798 (ninS ne786 nin0)).ext E825)
    have k834 := (po798_0.ext E825)
    have k835 := (po798_1.ext E825)
    have k836 := (po798_2.ext E825)
    have k837 := (po798_3.ext E825)
    have O838 := ((O800.keep K798 (allS g791 all0)).ext E825)
    obtain ⟨cq833, kq833, q833a, q833b, q833c⟩ := isOf hZ e825 k834
    obtain ⟨vr833, _, ⟨T833, L833, k833, n833⟩, -, X833, ⟨Lc833, hQ833, l833, y833, z833⟩, st833⟩ := Jvm.Stand.virtualBack X825 hx (y := (⟨"java/lang/String", "equals", "(Ljava/lang/Object;)Z"⟩ : MethodName)) (z := (⟨"java/lang/String", "equals", "(Ljava/lang/Object;)Z"⟩ : MethodName)) hown (mvT hZ (wd hw 73 rfl)) (mvT hZ (wd hw 74 rfl)) (notFace_of_selects (args := #[]) (mvT hZ (wd hw 76 rfl))) (mvT hZ (wd hw 76 rfl)) (mvT hZ (wd hw 75 rfl)) (by decide) (backOf (W := 0) (rmsqD l Z a0 hw [] b774 la825 xsn_0_798 (5 : Int32) ([(.int (own_b (v0_38 p0 p1 p2 p3 q4 w0))), (.int (own_b (v0_40 p0 p1 p2 p3 q4 w0))), (.int (own_b (v0_42 p0 p1 p2 p3 q4 w0))), (.int (own_b (v0_44 p0 p1 p2 p3 q4 w0))), (.int (own_b (v0_46 p0 p1 p2 p3 q4 w0)))]) ksn_1_798 lb825 (4 : Int32) ([(.int (110 : Int32)), (.int (111 : Int32)), (.int (110 : Int32)), (.int (101 : Int32))]) lk825 w0 h825 n0 z828 k834 k835 k836 k837 Ex825 Fc825 Fv825 V825 ne830.1 (Sta.ext O838.2 S_String_COMPACT_STRINGS) hcs (by decide)) hZ (wd hw 77 rfl) (wd hw 10 rfl) (by decide) (by decide)) q833a q833c (g := (mkF m 222 #[.val (.int p0), .val (.int p1), .val (.int p2), .val (.int p3), .val (.long q4), .second, .val (.int (v0_1 p0 p1 p2 p3 q4 w0)), .val (.int (v0_3 p0 p1 p2 p3 q4 w0)), .val (.int (5 : Int32)), .val (.int (v0_6 p0 p1 p2 p3 q4 w0)), .val (.ref b695), .val (.ref b774), .val .null] [(.ref la825), (.ref b774)])) rfl (by rw [hml]; rfl) (Steps.refl _) (argsL := [(.ref la825)]) (rest := []) (lenOf pd__Ljava_lang_Object__Z rfl) rfl (by show 2 * 0 + _ ≤ _; exact Nat.le_of_eq rfl) (hb hby at_222) (fun _ _ => ⟨rfl, e825, (by decide : 15 + 0 ≤ _), (by decide : 174 + 0 ≤ _)⟩)
    dsimp only [Pt.U, Pt.locs, Pt.cells, Pt.slots] at X833 l833 y833 z833 st833 hQ833
    replace X833 := own_stand X833 l833 y833 z833
    clear l833 y833 z833
    have N833q := (show _ ∧ _ ∧ _ from hQ833).1
    have hv833 := (show _ ∧ _ ∧ _ from hQ833).2.1
    have e833 := (show _ ∧ _ ∧ _ from hQ833).2.2
    clear hQ833
    subst hv833
    have N833 := Fr.app N798 N833q
    obtain ⟨la839, T839, h839, kk839, lb839, lk839, X839, e839, E839, hS839, hk839, hZ, hown, Ex839, Fc839, Fv839, V839, -, -, Cr839, Lt839, Sf839, st839⟩ := ldcCH (s := s) (vm0 := T825.vm) (EL := consts_1) X833 hx hZ hown (wd hw 82 rfl) (own_ws hw) e833 hS825 hk825 (own_ew hw) (List.mem_of_getElem? (i := 1) rfl) ch827.1 (z := (6 : Int32)) (vs := [(.int (112 : Int32)), (.int (111 : Int32)), (.int (114 : Int32)), (.int (116 : Int32)), (.int (101 : Int32)), (.int (114 : Int32))]) ⟨by decide, by rfl⟩ (by decide) rfl (g := (mkF m 238 #[.val (.int p0), .val (.int p1), .val (.int p2), .val (.int p3), .val (.long q4), .second, .val (.int (v0_1 p0 p1 p2 p3 q4 w0)), .val (.int (v0_3 p0 p1 p2 p3 q4 w0)), .val (.int (5 : Int32)), .val (.int (v0_6 p0 p1 p2 p3 q4 w0)), .val (.ref b695), .val (.ref b774), .val .null] [(.ref b774)])) rfl (hb hby at_238) (n := 24) (by decide) (by decide) (by decide) (by decide)
    have sf840 := Cr839.safe k834.lt sf826
    have ch841 := ch827.trans Cr839
    have z842 : n0 ≤ h839.size := Nat.le_trans z828 E839.1
    have hs843 : h0.size ≤ h839.size := Nat.le_trans hs829 E839.1
    have ne844 := Sf839 _ sf840
    have k845 := (k831.ext E839)
    have k846 := (k832.ext E839)
    have k848 := (k834.ext E839)
    have k849 := (k835.ext E839)
    have k850 := (k836.ext E839)
    have k851 := (k837.ext E839)
    have O852 := (O838.ext E839)
    obtain ⟨cq847, kq847, q847a, q847b, q847c⟩ := isOf hZ e839 k848
    obtain ⟨vr847, _, ⟨T847, L847, k847, n847⟩, -, X847, ⟨Lc847, hQ847, l847, y847, z847⟩, st847⟩ := Jvm.Stand.virtualBack X839 hx (y := (⟨"java/lang/String", "equals", "(Ljava/lang/Object;)Z"⟩ : MethodName)) (z := (⟨"java/lang/String", "equals", "(Ljava/lang/Object;)Z"⟩ : MethodName)) hown (mvT hZ (wd hw 73 rfl)) (mvT hZ (wd hw 74 rfl)) (notFace_of_selects (args := #[]) (mvT hZ (wd hw 76 rfl))) (mvT hZ (wd hw 76 rfl)) (mvT hZ (wd hw 75 rfl)) (by decide) (backOf (W := 0) (rmsqD l Z a0 hw [] b774 la839 xsn_0_798 (5 : Int32) ([(.int (own_b (v0_38 p0 p1 p2 p3 q4 w0))), (.int (own_b (v0_40 p0 p1 p2 p3 q4 w0))), (.int (own_b (v0_42 p0 p1 p2 p3 q4 w0))), (.int (own_b (v0_44 p0 p1 p2 p3 q4 w0))), (.int (own_b (v0_46 p0 p1 p2 p3 q4 w0)))]) ksn_1_798 lb839 (6 : Int32) ([(.int (112 : Int32)), (.int (111 : Int32)), (.int (114 : Int32)), (.int (116 : Int32)), (.int (101 : Int32)), (.int (114 : Int32))]) lk839 w0 h839 n0 z842 k848 k849 k850 k851 Ex839 Fc839 Fv839 V839 ne844.1 (Sta.ext O852.2 S_String_COMPACT_STRINGS) hcs (by decide)) hZ (wd hw 77 rfl) (wd hw 10 rfl) (by decide) (by decide)) q847a q847c (g := (mkF m 240 #[.val (.int p0), .val (.int p1), .val (.int p2), .val (.int p3), .val (.long q4), .second, .val (.int (v0_1 p0 p1 p2 p3 q4 w0)), .val (.int (v0_3 p0 p1 p2 p3 q4 w0)), .val (.int (5 : Int32)), .val (.int (v0_6 p0 p1 p2 p3 q4 w0)), .val (.ref b695), .val (.ref b774), .val .null] [(.ref la839), (.ref b774)])) rfl (by rw [hml]; rfl) (Steps.refl _) (argsL := [(.ref la839)]) (rest := []) (lenOf pd__Ljava_lang_Object__Z rfl) rfl (by show 2 * 0 + _ ≤ _; exact Nat.le_of_eq rfl) (hb hby at_240) (fun _ _ => ⟨rfl, e839, (by decide : 17 + 0 ≤ _), (by decide : 202 + 0 ≤ _)⟩)
    dsimp only [Pt.U, Pt.locs, Pt.cells, Pt.slots] at X847 l847 y847 z847 st847 hQ847
    replace X847 := own_stand X847 l847 y847 z847
    clear l847 y847 z847
    have N847q := (show _ ∧ _ ∧ _ from hQ847).1
    have hv847 := (show _ ∧ _ ∧ _ from hQ847).2.1
    have e847 := (show _ ∧ _ ∧ _ from hQ847).2.2
    clear hQ847
    subst hv847
    have N847 := Fr.app N833 N847q
    have k854 := (((k801.keep K798).ext E825).ext E839)
    have k855 := (((k803.keep K798).ext E825).ext E839)
    have k856 := (((k805.keep K798).ext E825).ext E839)
    have k857 := (((((((((((((((F_label_w3_N.ext E695).keep K709 nin0).other W717 (Or.inl ne697)).keep K722 nin0).other W730 (Or.inl ne697)).keep K735 nin0).other W743 (Or.inl ne697)).keep K748 nin0).other W756 (Or.inl ne697)).keep K761 nin0).other W769 (Or.inl ne697)).ext E774).keep K798 (ninS ne778 nin0)).ext E825).ext E839)
    have k858 := (((((((((((((((F_label_w4_P.ext E695).keep K709 nin0).other W717 (Or.inl ne698)).keep K722 nin0).other W730 (Or.inl ne698)).keep K735 nin0).other W743 (Or.inl ne698)).keep K748 nin0).other W756 (Or.inl ne698)).keep K761 nin0).other W769 (Or.inl ne698)).ext E774).keep K798 (ninS ne780 nin0)).ext E825).ext E839)
    have k859 := (((k807.keep K798).ext E825).ext E839)
    have k860 := (((((((((((((((F_coder_w5_L.ext E695).keep K709 nin0).other W717 (Or.inl ne699)).keep K722 nin0).other W730 (Or.inl ne699)).keep K735 nin0).other W743 (Or.inl ne699)).keep K748 nin0).other W756 (Or.inl ne699)).keep K761 nin0).other W769 (Or.inl ne699)).ext E774).keep K798 (ninS ne782 nin0)).ext E825).ext E839)
    have k861 := (((((((((((((((F_value_w5_L.ext E695).keep K709 nin0).other W717 (Or.inl ne699)).keep K722 nin0).other W730 (Or.inl ne699)).keep K735 nin0).other W743 (Or.inl ne699)).keep K748 nin0).other W756 (Or.inl ne699)).keep K761 nin0).other W769 (Or.inl ne699)).ext E774).keep K798 (ninS ne782 nin0)).ext E825).ext E839)
    have k862 := (((k814.keep K798 (ninS ne788 nin0)).ext E825).ext E839)
    have k863 := (((k809.keep K798).ext E825).ext E839)
    have k864 := (((((((((((((((F_coder_w6_L.ext E695).keep K709 nin0).other W717 (Or.inl ne700)).keep K722 nin0).other W730 (Or.inl ne700)).keep K735 nin0).other W743 (Or.inl ne700)).keep K748 nin0).other W756 (Or.inl ne700)).keep K761 nin0).other W769 (Or.inl ne700)).ext E774).keep K798 (ninS ne784 nin0)).ext E825).ext E839)
    have k865 := (((((((((((((((F_value_w6_L.ext E695).keep K709 nin0).other W717 (Or.inl ne700)).keep K722 nin0).other W730 (Or.inl ne700)).keep K735 nin0).other W743 (Or.inl ne700)).keep K748 nin0).other W756 (Or.inl ne700)).keep K761 nin0).other W769 (Or.inl ne700)).ext E774).keep K798 (ninS ne784 nin0)).ext E825).ext E839)
    have k866 := (((k816.keep K798 (ninS ne790 nin0)).ext E825).ext E839)
    obtain ⟨vr853, _, ⟨T853, L853, k853, n853⟩, -, X853, ⟨Lc853, hQ853, l853, y853, z853⟩, st853⟩ := Jvm.LawKit.callS X847 hx (y := (⟨"com/example/vellum_index/vellumindex/Stemmer", "labelled", "(Ljava/lang/String;)Lcom/example/vellum_index/vellumindex/Stemmer;"⟩ : MethodName)) hown (mvT hZ (wd hw 83 rfl)) (mvT hZ (wd hw 84 rfl)) (mvT hZ (wd hw 85 rfl)) (mvT hZ (wd hw 86 rfl)) (by decide) (backOf (W := 0) (rmlbD l Z a0 hw [] b774 w2_V w3_N w4_P kV w5_L w6_L w7_B kB0 w8_B kB1 xsn_0_798 (5 : Int32) ([(.int (own_b (v0_38 p0 p1 p2 p3 q4 w0))), (.int (own_b (v0_40 p0 p1 p2 p3 q4 w0))), (.int (own_b (v0_42 p0 p1 p2 p3 q4 w0))), (.int (own_b (v0_44 p0 p1 p2 p3 q4 w0))), (.int (own_b (v0_46 p0 p1 p2 p3 q4 w0)))]) ksn_1_798 w0 h839 n0 z842 (Sta.ext O852.2 S_Stemmer__VALUES) k845 k854 k855 k856 k857 k858 k859 k860 k861 k862 k863 k864 k865 k866 k848 k849 k850 k851 ne782 ne784 (Sta.ext O852.2 S_String_COMPACT_STRINGS) hcs (by decide) (by decide)) hZ (wd hw 86 rfl) (wd hw 85 rfl) (by decide) (by decide)) (g := (mkF m 253 #[.val (.int p0), .val (.int p1), .val (.int p2), .val (.int p3), .val (.long q4), .second, .val (.int (v0_1 p0 p1 p2 p3 q4 w0)), .val (.int (v0_3 p0 p1 p2 p3 q4 w0)), .val (.int (5 : Int32)), .val (.int (v0_6 p0 p1 p2 p3 q4 w0)), .val (.ref b695), .val (.ref b774), .val .null] [(.ref b774)])) rfl (by rw [hml]; rfl) (argsL := [(.ref b774)]) (rest := []) (lenOf pd_h53915 rfl) rfl (by show 2 * 0 + _ ≤ _; exact Nat.le_of_eq rfl) (hb hby at_253) (fun _ _ => ⟨rfl, e847, (by decide : 17 + 1 ≤ _), (by decide : 202 + 2 ≤ _)⟩)
    dsimp only [Pt.U, Pt.locs, Pt.cells, Pt.slots] at X853 l853 y853 z853 st853 hQ853
    replace X853 := own_stand X853 l853 y853 z853
    clear l853 y853 z853
    have N853q := (show _ ∧ _ from hQ853).1
    have hq853 := (show _ ∧ _ from hQ853).2
    clear hQ853
    have hv853 := hq853.1
    have K853 := hq853.2
    clear hq853
    subst hv853
    have sf868 := Safe.keep K853 sf0 ch841.1 sf840
    have ch867 := ch841.trans (CHr.keep K853 sf0 ch841.1)
    have z869 : n0 ≤ T853.heap.size := Nat.le_trans z842 K853.1
    have hs870 : h0.size ≤ T853.heap.size := Nat.le_trans hs843 K853.1
    have hk871 := Nat.le_trans hk839 K853.1
    have N853 := Fr.app N847 N853q
    obtain ⟨fs, hr, hrun, hended, hRW⟩ := Jvm.Stand.leaveW (s := s) (vm₁ := T839.vm) X853 hS839 hk871 (v := some (.int (1 : Int32))) (fun h => by rw [Bd.returns] at h; cases h) hlk
    refine ⟨_, _, pre4 _ ?_, hrun, hended, _, _, rfl, ?_, hRW.1, hRW.2.1, hRW.2.2.1, hRW.2.2.2.mono (by decide) (by decide)⟩
    · skip
      show Steps p.tables e below (s₁.setTop (mkF m 35 #[.val (.int p0), .val (.int p1), .val (.int p2), .val (.int p3), .val (.long q4), .second, .val (.int (v0_1 p0 p1 p2 p3 q4 w0)), .val (.int (v0_3 p0 p1 p2 p3 q4 w0)), .val (.int (5 : Int32)), .val (.int (v0_6 p0 p1 p2 p3 q4 w0)), .unset, .unset, .unset] [])) _
      refine XS.iload X0.here hx rfl (hb hby at_35) rfl ?_
      show Steps p.tables e below (s₁.setTop (mkF m 37 #[.val (.int p0), .val (.int p1), .val (.int p2), .val (.int p3), .val (.long q4), .second, .val (.int (v0_1 p0 p1 p2 p3 q4 w0)), .val (.int (v0_3 p0 p1 p2 p3 q4 w0)), .val (.int (5 : Int32)), .val (.int (v0_6 p0 p1 p2 p3 q4 w0)), .unset, .unset, .unset] [(.int (5 : Int32))])) _
      refine st695 _ ?_
      refine XS.astore X695.here hx rfl (hb hby at_39) rfl rfl (l' := #[.val (.int p0), .val (.int p1), .val (.int p2), .val (.int p3), .val (.long q4), .second, .val (.int (v0_1 p0 p1 p2 p3 q4 w0)), .val (.int (v0_3 p0 p1 p2 p3 q4 w0)), .val (.int (5 : Int32)), .val (.int (v0_6 p0 p1 p2 p3 q4 w0)), .val (.ref b695), .unset, .unset]) rfl ?_
      refine XS.iload X695.here hx rfl (hb hby at_41) rfl ?_
      show Steps p.tables e below (T695.setTop (mkF m 43 #[.val (.int p0), .val (.int p1), .val (.int p2), .val (.int p3), .val (.long q4), .second, .val (.int (v0_1 p0 p1 p2 p3 q4 w0)), .val (.int (v0_3 p0 p1 p2 p3 q4 w0)), .val (.int (5 : Int32)), .val (.int (v0_6 p0 p1 p2 p3 q4 w0)), .val (.ref b695), .unset, .unset] [(.int (5 : Int32))])) _
      refine XS.ifNo X695.here hx rfl (hb hby at_43) rfl (XT.i0_le_f (by decide)) ?_
      refine XS.aload X695.here hx rfl (hb hby at_46) rfl rfl ?_
      refine XT.iconstV X695.here hx rfl (0 : Int32) (hb hby at_48) (by decide) ?_
      refine XS.iload X695.here hx rfl (hb hby at_49) rfl ?_
      show Steps p.tables e below (T695.setTop (mkF m 51 #[.val (.int p0), .val (.int p1), .val (.int p2), .val (.int p3), .val (.long q4), .second, .val (.int (v0_1 p0 p1 p2 p3 q4 w0)), .val (.int (v0_3 p0 p1 p2 p3 q4 w0)), .val (.int (5 : Int32)), .val (.int (v0_6 p0 p1 p2 p3 q4 w0)), .val (.ref b695), .unset, .unset] [(.int (v0_1 p0 p1 p2 p3 q4 w0)), (.int (0 : Int32)), (.ref b695)])) _
      refine XT.iconstV X695.here hx rfl (0 : Int32) (hb hby at_51) (by decide) ?_
      refine XT.lload X695.here hx rfl (hb hby at_52) rfl ?_
      refine XS.iload X695.here hx rfl (hb hby at_54) rfl ?_
      refine XS.iload X695.here hx rfl (hb hby at_56) rfl ?_
      show Steps p.tables e below (T695.setTop (mkF m 58 #[.val (.int p0), .val (.int p1), .val (.int p2), .val (.int p3), .val (.long q4), .second, .val (.int (v0_1 p0 p1 p2 p3 q4 w0)), .val (.int (v0_3 p0 p1 p2 p3 q4 w0)), .val (.int (5 : Int32)), .val (.int (v0_6 p0 p1 p2 p3 q4 w0)), .val (.ref b695), .unset, .unset] [(.int (v0_6 p0 p1 p2 p3 q4 w0)), (.int (v0_3 p0 p1 p2 p3 q4 w0)), (.long q4), (.int (0 : Int32)), (.int (v0_1 p0 p1 p2 p3 q4 w0)), (.int (0 : Int32)), (.ref b695)])) _
      refine XS.iloadN X695.here hx rfl (hb hby at_58) rfl ?_
      show Steps p.tables e below (T695.setTop (mkF m 59 #[.val (.int p0), .val (.int p1), .val (.int p2), .val (.int p3), .val (.long q4), .second, .val (.int (v0_1 p0 p1 p2 p3 q4 w0)), .val (.int (v0_3 p0 p1 p2 p3 q4 w0)), .val (.int (5 : Int32)), .val (.int (v0_6 p0 p1 p2 p3 q4 w0)), .val (.ref b695), .unset, .unset] [(.int p3), (.int (v0_6 p0 p1 p2 p3 q4 w0)), (.int (v0_3 p0 p1 p2 p3 q4 w0)), (.long q4), (.int (0 : Int32)), (.int (v0_1 p0 p1 p2 p3 q4 w0)), (.int (0 : Int32)), (.ref b695)])) _
      refine st709.trans ?_
      show Steps p.tables e below (T709.setTop (mkF m 62 #[.val (.int p0), .val (.int p1), .val (.int p2), .val (.int p3), .val (.long q4), .second, .val (.int (v0_1 p0 p1 p2 p3 q4 w0)), .val (.int (v0_3 p0 p1 p2 p3 q4 w0)), .val (.int (5 : Int32)), .val (.int (v0_6 p0 p1 p2 p3 q4 w0)), .val (.ref b695), .unset, .unset] [(.int (f1 (v0_1 p0 p1 p2 p3 q4 w0) (0 : Int32) q4 (v0_3 p0 p1 p2 p3 q4 w0) (v0_6 p0 p1 p2 p3 q4 w0) p3 w0)), (.int (0 : Int32)), (.ref b695)])) _
      refine st717 _ ?_
      refine XS.iload X717.here hx rfl (hb hby at_63) rfl ?_
      refine XT.iconstV X717.here hx rfl (1 : Int32) (hb hby at_65) (by decide) ?_
      show Steps p.tables e below (T717.setTop (mkF m 66 #[.val (.int p0), .val (.int p1), .val (.int p2), .val (.int p3), .val (.long q4), .second, .val (.int (v0_1 p0 p1 p2 p3 q4 w0)), .val (.int (v0_3 p0 p1 p2 p3 q4 w0)), .val (.int (5 : Int32)), .val (.int (v0_6 p0 p1 p2 p3 q4 w0)), .val (.ref b695), .unset, .unset] [(.int (1 : Int32)), (.int (5 : Int32))])) _
      refine XS.icmpNo X717.here hx rfl (hb hby at_66) rfl (XT.ii_le_f (by decide)) ?_
      refine XS.aload X717.here hx rfl (hb hby at_69) rfl rfl ?_
      refine XT.iconstV X717.here hx rfl (1 : Int32) (hb hby at_71) (by decide) ?_
      refine XS.iload X717.here hx rfl (hb hby at_72) rfl ?_
      show Steps p.tables e below (T717.setTop (mkF m 74 #[.val (.int p0), .val (.int p1), .val (.int p2), .val (.int p3), .val (.long q4), .second, .val (.int (v0_1 p0 p1 p2 p3 q4 w0)), .val (.int (v0_3 p0 p1 p2 p3 q4 w0)), .val (.int (5 : Int32)), .val (.int (v0_6 p0 p1 p2 p3 q4 w0)), .val (.ref b695), .unset, .unset] [(.int (v0_1 p0 p1 p2 p3 q4 w0)), (.int (1 : Int32)), (.ref b695)])) _
      refine XT.iconstV X717.here hx rfl (1 : Int32) (hb hby at_74) (by decide) ?_
      refine XT.lload X717.here hx rfl (hb hby at_75) rfl ?_
      refine XS.iload X717.here hx rfl (hb hby at_77) rfl ?_
      refine XS.iload X717.here hx rfl (hb hby at_79) rfl ?_
      show Steps p.tables e below (T717.setTop (mkF m 81 #[.val (.int p0), .val (.int p1), .val (.int p2), .val (.int p3), .val (.long q4), .second, .val (.int (v0_1 p0 p1 p2 p3 q4 w0)), .val (.int (v0_3 p0 p1 p2 p3 q4 w0)), .val (.int (5 : Int32)), .val (.int (v0_6 p0 p1 p2 p3 q4 w0)), .val (.ref b695), .unset, .unset] [(.int (v0_6 p0 p1 p2 p3 q4 w0)), (.int (v0_3 p0 p1 p2 p3 q4 w0)), (.long q4), (.int (1 : Int32)), (.int (v0_1 p0 p1 p2 p3 q4 w0)), (.int (1 : Int32)), (.ref b695)])) _
      refine XS.iloadN X717.here hx rfl (hb hby at_81) rfl ?_
      show Steps p.tables e below (T717.setTop (mkF m 82 #[.val (.int p0), .val (.int p1), .val (.int p2), .val (.int p3), .val (.long q4), .second, .val (.int (v0_1 p0 p1 p2 p3 q4 w0)), .val (.int (v0_3 p0 p1 p2 p3 q4 w0)), .val (.int (5 : Int32)), .val (.int (v0_6 p0 p1 p2 p3 q4 w0)), .val (.ref b695), .unset, .unset] [(.int p3), (.int (v0_6 p0 p1 p2 p3 q4 w0)), (.int (v0_3 p0 p1 p2 p3 q4 w0)), (.long q4), (.int (1 : Int32)), (.int (v0_1 p0 p1 p2 p3 q4 w0)), (.int (1 : Int32)), (.ref b695)])) _
      refine st722.trans ?_
      show Steps p.tables e below (T722.setTop (mkF m 85 #[.val (.int p0), .val (.int p1), .val (.int p2), .val (.int p3), .val (.long q4), .second, .val (.int (v0_1 p0 p1 p2 p3 q4 w0)), .val (.int (v0_3 p0 p1 p2 p3 q4 w0)), .val (.int (5 : Int32)), .val (.int (v0_6 p0 p1 p2 p3 q4 w0)), .val (.ref b695), .unset, .unset] [(.int (f1 (v0_1 p0 p1 p2 p3 q4 w0) (1 : Int32) q4 (v0_3 p0 p1 p2 p3 q4 w0) (v0_6 p0 p1 p2 p3 q4 w0) p3 w0)), (.int (1 : Int32)), (.ref b695)])) _
      refine st730 _ ?_
      refine XS.iload X730.here hx rfl (hb hby at_86) rfl ?_
      refine XT.iconstV X730.here hx rfl (2 : Int32) (hb hby at_88) (by decide) ?_
      show Steps p.tables e below (T730.setTop (mkF m 89 #[.val (.int p0), .val (.int p1), .val (.int p2), .val (.int p3), .val (.long q4), .second, .val (.int (v0_1 p0 p1 p2 p3 q4 w0)), .val (.int (v0_3 p0 p1 p2 p3 q4 w0)), .val (.int (5 : Int32)), .val (.int (v0_6 p0 p1 p2 p3 q4 w0)), .val (.ref b695), .unset, .unset] [(.int (2 : Int32)), (.int (5 : Int32))])) _
      refine XS.icmpNo X730.here hx rfl (hb hby at_89) rfl (XT.ii_le_f (by decide)) ?_
      refine XS.aload X730.here hx rfl (hb hby at_92) rfl rfl ?_
      refine XT.iconstV X730.here hx rfl (2 : Int32) (hb hby at_94) (by decide) ?_
      refine XS.iload X730.here hx rfl (hb hby at_95) rfl ?_
      show Steps p.tables e below (T730.setTop (mkF m 97 #[.val (.int p0), .val (.int p1), .val (.int p2), .val (.int p3), .val (.long q4), .second, .val (.int (v0_1 p0 p1 p2 p3 q4 w0)), .val (.int (v0_3 p0 p1 p2 p3 q4 w0)), .val (.int (5 : Int32)), .val (.int (v0_6 p0 p1 p2 p3 q4 w0)), .val (.ref b695), .unset, .unset] [(.int (v0_1 p0 p1 p2 p3 q4 w0)), (.int (2 : Int32)), (.ref b695)])) _
      refine XT.iconstV X730.here hx rfl (2 : Int32) (hb hby at_97) (by decide) ?_
      refine XT.lload X730.here hx rfl (hb hby at_98) rfl ?_
      refine XS.iload X730.here hx rfl (hb hby at_100) rfl ?_
      refine XS.iload X730.here hx rfl (hb hby at_102) rfl ?_
      show Steps p.tables e below (T730.setTop (mkF m 104 #[.val (.int p0), .val (.int p1), .val (.int p2), .val (.int p3), .val (.long q4), .second, .val (.int (v0_1 p0 p1 p2 p3 q4 w0)), .val (.int (v0_3 p0 p1 p2 p3 q4 w0)), .val (.int (5 : Int32)), .val (.int (v0_6 p0 p1 p2 p3 q4 w0)), .val (.ref b695), .unset, .unset] [(.int (v0_6 p0 p1 p2 p3 q4 w0)), (.int (v0_3 p0 p1 p2 p3 q4 w0)), (.long q4), (.int (2 : Int32)), (.int (v0_1 p0 p1 p2 p3 q4 w0)), (.int (2 : Int32)), (.ref b695)])) _
      refine XS.iloadN X730.here hx rfl (hb hby at_104) rfl ?_
      show Steps p.tables e below (T730.setTop (mkF m 105 #[.val (.int p0), .val (.int p1), .val (.int p2), .val (.int p3), .val (.long q4), .second, .val (.int (v0_1 p0 p1 p2 p3 q4 w0)), .val (.int (v0_3 p0 p1 p2 p3 q4 w0)), .val (.int (5 : Int32)), .val (.int (v0_6 p0 p1 p2 p3 q4 w0)), .val (.ref b695), .unset, .unset] [(.int p3), (.int (v0_6 p0 p1 p2 p3 q4 w0)), (.int (v0_3 p0 p1 p2 p3 q4 w0)), (.long q4), (.int (2 : Int32)), (.int (v0_1 p0 p1 p2 p3 q4 w0)), (.int (2 : Int32)), (.ref b695)])) _
      refine st735.trans ?_
      show Steps p.tables e below (T735.setTop (mkF m 108 #[.val (.int p0), .val (.int p1), .val (.int p2), .val (.int p3), .val (.long q4), .second, .val (.int (v0_1 p0 p1 p2 p3 q4 w0)), .val (.int (v0_3 p0 p1 p2 p3 q4 w0)), .val (.int (5 : Int32)), .val (.int (v0_6 p0 p1 p2 p3 q4 w0)), .val (.ref b695), .unset, .unset] [(.int (f1 (v0_1 p0 p1 p2 p3 q4 w0) (2 : Int32) q4 (v0_3 p0 p1 p2 p3 q4 w0) (v0_6 p0 p1 p2 p3 q4 w0) p3 w0)), (.int (2 : Int32)), (.ref b695)])) _
      refine st743 _ ?_
      refine XS.iload X743.here hx rfl (hb hby at_109) rfl ?_
      refine XT.iconstV X743.here hx rfl (3 : Int32) (hb hby at_111) (by decide) ?_
      show Steps p.tables e below (T743.setTop (mkF m 112 #[.val (.int p0), .val (.int p1), .val (.int p2), .val (.int p3), .val (.long q4), .second, .val (.int (v0_1 p0 p1 p2 p3 q4 w0)), .val (.int (v0_3 p0 p1 p2 p3 q4 w0)), .val (.int (5 : Int32)), .val (.int (v0_6 p0 p1 p2 p3 q4 w0)), .val (.ref b695), .unset, .unset] [(.int (3 : Int32)), (.int (5 : Int32))])) _
      refine XS.icmpNo X743.here hx rfl (hb hby at_112) rfl (XT.ii_le_f (by decide)) ?_
      refine XS.aload X743.here hx rfl (hb hby at_115) rfl rfl ?_
      refine XT.iconstV X743.here hx rfl (3 : Int32) (hb hby at_117) (by decide) ?_
      refine XS.iload X743.here hx rfl (hb hby at_118) rfl ?_
      show Steps p.tables e below (T743.setTop (mkF m 120 #[.val (.int p0), .val (.int p1), .val (.int p2), .val (.int p3), .val (.long q4), .second, .val (.int (v0_1 p0 p1 p2 p3 q4 w0)), .val (.int (v0_3 p0 p1 p2 p3 q4 w0)), .val (.int (5 : Int32)), .val (.int (v0_6 p0 p1 p2 p3 q4 w0)), .val (.ref b695), .unset, .unset] [(.int (v0_1 p0 p1 p2 p3 q4 w0)), (.int (3 : Int32)), (.ref b695)])) _
      refine XT.iconstV X743.here hx rfl (3 : Int32) (hb hby at_120) (by decide) ?_
      refine XT.lload X743.here hx rfl (hb hby at_121) rfl ?_
      refine XS.iload X743.here hx rfl (hb hby at_123) rfl ?_
      refine XS.iload X743.here hx rfl (hb hby at_125) rfl ?_
      show Steps p.tables e below (T743.setTop (mkF m 127 #[.val (.int p0), .val (.int p1), .val (.int p2), .val (.int p3), .val (.long q4), .second, .val (.int (v0_1 p0 p1 p2 p3 q4 w0)), .val (.int (v0_3 p0 p1 p2 p3 q4 w0)), .val (.int (5 : Int32)), .val (.int (v0_6 p0 p1 p2 p3 q4 w0)), .val (.ref b695), .unset, .unset] [(.int (v0_6 p0 p1 p2 p3 q4 w0)), (.int (v0_3 p0 p1 p2 p3 q4 w0)), (.long q4), (.int (3 : Int32)), (.int (v0_1 p0 p1 p2 p3 q4 w0)), (.int (3 : Int32)), (.ref b695)])) _
      refine XS.iloadN X743.here hx rfl (hb hby at_127) rfl ?_
      show Steps p.tables e below (T743.setTop (mkF m 128 #[.val (.int p0), .val (.int p1), .val (.int p2), .val (.int p3), .val (.long q4), .second, .val (.int (v0_1 p0 p1 p2 p3 q4 w0)), .val (.int (v0_3 p0 p1 p2 p3 q4 w0)), .val (.int (5 : Int32)), .val (.int (v0_6 p0 p1 p2 p3 q4 w0)), .val (.ref b695), .unset, .unset] [(.int p3), (.int (v0_6 p0 p1 p2 p3 q4 w0)), (.int (v0_3 p0 p1 p2 p3 q4 w0)), (.long q4), (.int (3 : Int32)), (.int (v0_1 p0 p1 p2 p3 q4 w0)), (.int (3 : Int32)), (.ref b695)])) _
      refine st748.trans ?_
      show Steps p.tables e below (T748.setTop (mkF m 131 #[.val (.int p0), .val (.int p1), .val (.int p2), .val (.int p3), .val (.long q4), .second, .val (.int (v0_1 p0 p1 p2 p3 q4 w0)), .val (.int (v0_3 p0 p1 p2 p3 q4 w0)), .val (.int (5 : Int32)), .val (.int (v0_6 p0 p1 p2 p3 q4 w0)), .val (.ref b695), .unset, .unset] [(.int (f1 (v0_1 p0 p1 p2 p3 q4 w0) (3 : Int32) q4 (v0_3 p0 p1 p2 p3 q4 w0) (v0_6 p0 p1 p2 p3 q4 w0) p3 w0)), (.int (3 : Int32)), (.ref b695)])) _
      refine st756 _ ?_
      refine XS.iload X756.here hx rfl (hb hby at_132) rfl ?_
      refine XT.iconstV X756.here hx rfl (4 : Int32) (hb hby at_134) (by decide) ?_
      show Steps p.tables e below (T756.setTop (mkF m 135 #[.val (.int p0), .val (.int p1), .val (.int p2), .val (.int p3), .val (.long q4), .second, .val (.int (v0_1 p0 p1 p2 p3 q4 w0)), .val (.int (v0_3 p0 p1 p2 p3 q4 w0)), .val (.int (5 : Int32)), .val (.int (v0_6 p0 p1 p2 p3 q4 w0)), .val (.ref b695), .unset, .unset] [(.int (4 : Int32)), (.int (5 : Int32))])) _
      refine XS.icmpNo X756.here hx rfl (hb hby at_135) rfl (XT.ii_le_f (by decide)) ?_
      refine XS.aload X756.here hx rfl (hb hby at_138) rfl rfl ?_
      refine XT.iconstV X756.here hx rfl (4 : Int32) (hb hby at_140) (by decide) ?_
      refine XS.iload X756.here hx rfl (hb hby at_141) rfl ?_
      show Steps p.tables e below (T756.setTop (mkF m 143 #[.val (.int p0), .val (.int p1), .val (.int p2), .val (.int p3), .val (.long q4), .second, .val (.int (v0_1 p0 p1 p2 p3 q4 w0)), .val (.int (v0_3 p0 p1 p2 p3 q4 w0)), .val (.int (5 : Int32)), .val (.int (v0_6 p0 p1 p2 p3 q4 w0)), .val (.ref b695), .unset, .unset] [(.int (v0_1 p0 p1 p2 p3 q4 w0)), (.int (4 : Int32)), (.ref b695)])) _
      refine XT.iconstV X756.here hx rfl (4 : Int32) (hb hby at_143) (by decide) ?_
      refine XT.lload X756.here hx rfl (hb hby at_144) rfl ?_
      refine XS.iload X756.here hx rfl (hb hby at_146) rfl ?_
      refine XS.iload X756.here hx rfl (hb hby at_148) rfl ?_
      show Steps p.tables e below (T756.setTop (mkF m 150 #[.val (.int p0), .val (.int p1), .val (.int p2), .val (.int p3), .val (.long q4), .second, .val (.int (v0_1 p0 p1 p2 p3 q4 w0)), .val (.int (v0_3 p0 p1 p2 p3 q4 w0)), .val (.int (5 : Int32)), .val (.int (v0_6 p0 p1 p2 p3 q4 w0)), .val (.ref b695), .unset, .unset] [(.int (v0_6 p0 p1 p2 p3 q4 w0)), (.int (v0_3 p0 p1 p2 p3 q4 w0)), (.long q4), (.int (4 : Int32)), (.int (v0_1 p0 p1 p2 p3 q4 w0)), (.int (4 : Int32)), (.ref b695)])) _
      refine XS.iloadN X756.here hx rfl (hb hby at_150) rfl ?_
      show Steps p.tables e below (T756.setTop (mkF m 151 #[.val (.int p0), .val (.int p1), .val (.int p2), .val (.int p3), .val (.long q4), .second, .val (.int (v0_1 p0 p1 p2 p3 q4 w0)), .val (.int (v0_3 p0 p1 p2 p3 q4 w0)), .val (.int (5 : Int32)), .val (.int (v0_6 p0 p1 p2 p3 q4 w0)), .val (.ref b695), .unset, .unset] [(.int p3), (.int (v0_6 p0 p1 p2 p3 q4 w0)), (.int (v0_3 p0 p1 p2 p3 q4 w0)), (.long q4), (.int (4 : Int32)), (.int (v0_1 p0 p1 p2 p3 q4 w0)), (.int (4 : Int32)), (.ref b695)])) _
      refine st761.trans ?_
      show Steps p.tables e below (T761.setTop (mkF m 154 #[.val (.int p0), .val (.int p1), .val (.int p2), .val (.int p3), .val (.long q4), .second, .val (.int (v0_1 p0 p1 p2 p3 q4 w0)), .val (.int (v0_3 p0 p1 p2 p3 q4 w0)), .val (.int (5 : Int32)), .val (.int (v0_6 p0 p1 p2 p3 q4 w0)), .val (.ref b695), .unset, .unset] [(.int (f1 (v0_1 p0 p1 p2 p3 q4 w0) (4 : Int32) q4 (v0_3 p0 p1 p2 p3 q4 w0) (v0_6 p0 p1 p2 p3 q4 w0) p3 w0)), (.int (4 : Int32)), (.ref b695)])) _
      refine st769 _ ?_
      refine XS.iload X769.here hx rfl (hb hby at_155) rfl ?_
      refine XT.iconstV X769.here hx rfl (5 : Int32) (hb hby at_157) (by decide) ?_
      show Steps p.tables e below (T769.setTop (mkF m 158 #[.val (.int p0), .val (.int p1), .val (.int p2), .val (.int p3), .val (.long q4), .second, .val (.int (v0_1 p0 p1 p2 p3 q4 w0)), .val (.int (v0_3 p0 p1 p2 p3 q4 w0)), .val (.int (5 : Int32)), .val (.int (v0_6 p0 p1 p2 p3 q4 w0)), .val (.ref b695), .unset, .unset] [(.int (5 : Int32)), (.int (5 : Int32))])) _
      refine XS.icmpYes X769.here hx rfl (pc0 := 158) (pc' := 178) rfl (hb hby at_158) rfl (XT.ii_le_t (by decide)) (by decide) (by decide) ?_
      refine XS.iload X769.here hx rfl (hb hby at_178) rfl ?_
      refine XT.bipushV X769.here hx rfl (6 : Int32) (hb hby at_180) (by decide) ?_
      show Steps p.tables e below (T769.setTop (mkF m 182 #[.val (.int p0), .val (.int p1), .val (.int p2), .val (.int p3), .val (.long q4), .second, .val (.int (v0_1 p0 p1 p2 p3 q4 w0)), .val (.int (v0_3 p0 p1 p2 p3 q4 w0)), .val (.int (5 : Int32)), .val (.int (v0_6 p0 p1 p2 p3 q4 w0)), .val (.ref b695), .unset, .unset] [(.int (6 : Int32)), (.int (5 : Int32))])) _
      refine XS.icmpYes X769.here hx rfl (pc0 := 182) (pc' := 204) rfl (hb hby at_182) rfl (XT.ii_le_t (by decide)) (by decide) (by decide) ?_
      show Steps p.tables e below (T769.setTop (mkF m 204 #[.val (.int p0), .val (.int p1), .val (.int p2), .val (.int p3), .val (.long q4), .second, .val (.int (v0_1 p0 p1 p2 p3 q4 w0)), .val (.int (v0_3 p0 p1 p2 p3 q4 w0)), .val (.int (5 : Int32)), .val (.int (v0_6 p0 p1 p2 p3 q4 w0)), .val (.ref b695), .unset, .unset] [])) _
      refine st774 _ ?_
      refine XS.dup X774.here hx rfl (hb hby at_207) rfl rfl ?_
      refine XS.aload X774.here hx rfl (hb hby at_208) rfl rfl ?_
      show Steps p.tables e below (T774.setTop (mkF m 210 #[.val (.int p0), .val (.int p1), .val (.int p2), .val (.int p3), .val (.long q4), .second, .val (.int (v0_1 p0 p1 p2 p3 q4 w0)), .val (.int (v0_3 p0 p1 p2 p3 q4 w0)), .val (.int (5 : Int32)), .val (.int (v0_6 p0 p1 p2 p3 q4 w0)), .val (.ref b695), .unset, .unset] [(.ref b695), (.ref b774), (.ref b774)])) _
      refine st798.trans ?_
      refine XS.astore X798.here hx rfl (hb hby at_213) rfl rfl (l' := #[.val (.int p0), .val (.int p1), .val (.int p2), .val (.int p3), .val (.long q4), .second, .val (.int (v0_1 p0 p1 p2 p3 q4 w0)), .val (.int (v0_3 p0 p1 p2 p3 q4 w0)), .val (.int (5 : Int32)), .val (.int (v0_6 p0 p1 p2 p3 q4 w0)), .val (.ref b695), .val (.ref b774), .unset]) rfl ?_
      show Steps p.tables e below (T798.setTop (mkF m 215 #[.val (.int p0), .val (.int p1), .val (.int p2), .val (.int p3), .val (.long q4), .second, .val (.int (v0_1 p0 p1 p2 p3 q4 w0)), .val (.int (v0_3 p0 p1 p2 p3 q4 w0)), .val (.int (5 : Int32)), .val (.int (v0_6 p0 p1 p2 p3 q4 w0)), .val (.ref b695), .val (.ref b774), .unset] [])) _
      refine XS.aconstNull X798.here hx rfl (hb hby at_215) ?_
      refine XS.astore X798.here hx rfl (hb hby at_216) rfl rfl (l' := #[.val (.int p0), .val (.int p1), .val (.int p2), .val (.int p3), .val (.long q4), .second, .val (.int (v0_1 p0 p1 p2 p3 q4 w0)), .val (.int (v0_3 p0 p1 p2 p3 q4 w0)), .val (.int (5 : Int32)), .val (.int (v0_6 p0 p1 p2 p3 q4 w0)), .val (.ref b695), .val (.ref b774), .val .null]) rfl ?_
      refine XS.aload X798.here hx rfl (hb hby at_218) rfl rfl ?_
      show Steps p.tables e below (T798.setTop (mkF m 220 #[.val (.int p0), .val (.int p1), .val (.int p2), .val (.int p3), .val (.long q4), .second, .val (.int (v0_1 p0 p1 p2 p3 q4 w0)), .val (.int (v0_3 p0 p1 p2 p3 q4 w0)), .val (.int (5 : Int32)), .val (.int (v0_6 p0 p1 p2 p3 q4 w0)), .val (.ref b695), .val (.ref b774), .val .null] [(.ref b774)])) _
      refine st825 _ ?_
      show Steps p.tables e below (T825.setTop (mkF m 222 #[.val (.int p0), .val (.int p1), .val (.int p2), .val (.int p3), .val (.long q4), .second, .val (.int (v0_1 p0 p1 p2 p3 q4 w0)), .val (.int (v0_3 p0 p1 p2 p3 q4 w0)), .val (.int (5 : Int32)), .val (.int (v0_6 p0 p1 p2 p3 q4 w0)), .val (.ref b695), .val (.ref b774), .val .null] [(.ref la825), (.ref b774)])) _
      refine st833.trans ?_
      show Steps p.tables e below (T833.setTop (mkF m 225 #[.val (.int p0), .val (.int p1), .val (.int p2), .val (.int p3), .val (.long q4), .second, .val (.int (v0_1 p0 p1 p2 p3 q4 w0)), .val (.int (v0_3 p0 p1 p2 p3 q4 w0)), .val (.int (5 : Int32)), .val (.int (v0_6 p0 p1 p2 p3 q4 w0)), .val (.ref b695), .val (.ref b774), .val .null] [(.int (fsqD (5 : Int32) (4 : Int32) w0))])) _
      refine XS.ifYes X833.here hx rfl (pc0 := 225) (pc' := 236) rfl (hb hby at_225) rfl (XT.i0_eq_t rfl) (by decide) (by decide) ?_
      refine XS.aload X833.here hx rfl (hb hby at_236) rfl rfl ?_
      show Steps p.tables e below (T833.setTop (mkF m 238 #[.val (.int p0), .val (.int p1), .val (.int p2), .val (.int p3), .val (.long q4), .second, .val (.int (v0_1 p0 p1 p2 p3 q4 w0)), .val (.int (v0_3 p0 p1 p2 p3 q4 w0)), .val (.int (5 : Int32)), .val (.int (v0_6 p0 p1 p2 p3 q4 w0)), .val (.ref b695), .val (.ref b774), .val .null] [(.ref b774)])) _
      refine st839 _ ?_
      show Steps p.tables e below (T839.setTop (mkF m 240 #[.val (.int p0), .val (.int p1), .val (.int p2), .val (.int p3), .val (.long q4), .second, .val (.int (v0_1 p0 p1 p2 p3 q4 w0)), .val (.int (v0_3 p0 p1 p2 p3 q4 w0)), .val (.int (5 : Int32)), .val (.int (v0_6 p0 p1 p2 p3 q4 w0)), .val (.ref b695), .val (.ref b774), .val .null] [(.ref la839), (.ref b774)])) _
      refine st847.trans ?_
      show Steps p.tables e below (T847.setTop (mkF m 243 #[.val (.int p0), .val (.int p1), .val (.int p2), .val (.int p3), .val (.long q4), .second, .val (.int (v0_1 p0 p1 p2 p3 q4 w0)), .val (.int (v0_3 p0 p1 p2 p3 q4 w0)), .val (.int (5 : Int32)), .val (.int (v0_6 p0 p1 p2 p3 q4 w0)), .val (.ref b695), .val (.ref b774), .val .null] [(.int (fsqD (5 : Int32) (6 : Int32) w0))])) _
      refine XS.ifYes X847.here hx rfl (pc0 := 243) (pc' := 251) rfl (hb hby at_243) rfl (XT.i0_eq_t rfl) (by decide) (by decide) ?_
      refine XS.aload X847.here hx rfl (hb hby at_251) rfl rfl ?_
      show Steps p.tables e below (T847.setTop (mkF m 253 #[.val (.int p0), .val (.int p1), .val (.int p2), .val (.int p3), .val (.long q4), .second, .val (.int (v0_1 p0 p1 p2 p3 q4 w0)), .val (.int (v0_3 p0 p1 p2 p3 q4 w0)), .val (.int (5 : Int32)), .val (.int (v0_6 p0 p1 p2 p3 q4 w0)), .val (.ref b695), .val (.ref b774), .val .null] [(.ref b774)])) _
      refine st853 _ ?_
      refine XS.aload X853.here hx rfl (hb hby at_256) rfl rfl ?_
      show Steps p.tables e below (T853.setTop (mkF m 258 #[.val (.int p0), .val (.int p1), .val (.int p2), .val (.int p3), .val (.long q4), .second, .val (.int (v0_1 p0 p1 p2 p3 q4 w0)), .val (.int (v0_3 p0 p1 p2 p3 q4 w0)), .val (.int (5 : Int32)), .val (.int (v0_6 p0 p1 p2 p3 q4 w0)), .val (.ref b695), .val (.ref b774), .val .null] [.null, .null])) _
      refine XT.acmpNo X853.here hx rfl (hb hby at_258) rfl rfl rfl (XT.aa_ne_f rfl) ?_
      refine XT.iconstV X853.here hx rfl (1 : Int32) (hb hby at_261) (by decide) ?_
      show Steps p.tables e below (T853.setTop (mkF m 262 #[.val (.int p0), .val (.int p1), .val (.int p2), .val (.int p3), .val (.long q4), .second, .val (.int (v0_1 p0 p1 p2 p3 q4 w0)), .val (.int (v0_3 p0 p1 p2 p3 q4 w0)), .val (.int (5 : Int32)), .val (.int (v0_6 p0 p1 p2 p3 q4 w0)), .val (.ref b695), .val (.ref b774), .val .null] [(.int (1 : Int32))])) _
      refine XS.goto X853.here hx rfl (pc0 := 262) (pc' := 266) rfl (hb hby at_262) (by decide) (by decide) ?_
      show Steps p.tables e below (T853.setTop (mkF m 266 #[.val (.int p0), .val (.int p1), .val (.int p2), .val (.int p3), .val (.long q4), .second, .val (.int (v0_1 p0 p1 p2 p3 q4 w0)), .val (.int (v0_3 p0 p1 p2 p3 q4 w0)), .val (.int (5 : Int32)), .val (.int (v0_6 p0 p1 p2 p3 q4 w0)), .val (.ref b695), .val (.ref b774), .val .null] [(.int (1 : Int32))])) _
      exact retN X853 hx (t := .boolean) Bd.returns (by simp) (hb hby at_266) hr
    · skip
      show Q0 Z p0 p1 p2 p3 q4 w0 u1_SF w2_V w3_N w4_P kV w5_L w6_L w7_B kB0 w8_B kB1 h0 n0 _ T853.heap _
      exact ⟨rfl, N853⟩
  · skip
    rw [show (v0_4 p0 p1 p2 p3 q4 w0) = (6 : Int32) from cn] at pre4
    obtain ⟨T872, h872, k872, X872, e872, E872, A872, EA872, st872⟩ := newPE X0 hx hZ (wd hw 1 rfl) e0 (g := (mkF m 37 #[.val (.int p0), .val (.int p1), .val (.int p2), .val (.int p3), .val (.long q4), .second, .val (.int (v0_1 p0 p1 p2 p3 q4 w0)), .val (.int (v0_3 p0 p1 p2 p3 q4 w0)), .val (.int (6 : Int32)), .val (.int (v0_6 p0 p1 p2 p3 q4 w0)), .unset, .unset, .unset] [(.int (6 : Int32))])) rfl (hb hby at_37) rfl (by decide) (cap := 6) (by decide) (by decide) (by decide) (by decide) (ad := "[C") rfl
    obtain ⟨b872, gz872⟩ : ∃ z, z = h0.size := ⟨_, rfl⟩
    rw [← gz872] at A872 EA872 st872
    have ne873 : w2_V ≠ b872 := Nat.ne_of_lt (Nat.lt_of_lt_of_le E_w2_V.lt (Nat.le_of_eq gz872.symm))
    have ne874 : w3_N ≠ b872 := Nat.ne_of_lt (Nat.lt_of_lt_of_le E_w3_N.lt (Nat.le_of_eq gz872.symm))
    have ne875 : w4_P ≠ b872 := Nat.ne_of_lt (Nat.lt_of_lt_of_le E_w4_P.lt (Nat.le_of_eq gz872.symm))
    have ne876 : w5_L ≠ b872 := Nat.ne_of_lt (Nat.lt_of_lt_of_le E_w5_L.lt (Nat.le_of_eq gz872.symm))
    have ne877 : w6_L ≠ b872 := Nat.ne_of_lt (Nat.lt_of_lt_of_le E_w6_L.lt (Nat.le_of_eq gz872.symm))
    have ne878 : w7_B ≠ b872 := Nat.ne_of_lt (Nat.lt_of_lt_of_le V_w7_B.lt (Nat.le_of_eq gz872.symm))
    have ne879 : w8_B ≠ b872 := Nat.ne_of_lt (Nat.lt_of_lt_of_le V_w8_B.lt (Nat.le_of_eq gz872.symm))
    have g880 : n0 ≤ b872 := Nat.le_trans Z0 (Nat.le_of_eq gz872.symm)
    have sz881 : h0.size ≤ b872 := Nat.le_trans (Nat.le_refl h0.size) (Nat.le_of_eq gz872.symm)
    have ch882 := ch0.trans (CHr.ext E872 ch0.1)
    have z883 : n0 ≤ h872.size := Nat.le_trans Z0 E872.1
    have hs884 : h0.size ≤ h872.size := Nat.le_trans (Nat.le_refl h0.size) E872.1
    have hk885 := Nat.le_trans (Nat.le_refl _) E872.1
    have V872 : Arv Z h872 b872 k872 .char (6 : Int32) [(.int (0 : Int32)), (.int (0 : Int32)), (.int (0 : Int32)), (.int (0 : Int32)), (.int (0 : Int32)), (.int (0 : Int32))] (.int (0 : Int32)) := (Arv.new A872 (by decide)).pad (pad_rep [] (.int (0 : Int32)) 6)
    have O887 := (O0.ext E872)
    obtain ⟨vr886, _, ⟨T886, L886, k886, n886⟩, -, X886, hSq886, hgq886, ⟨Lc886, hQ886, l886, y886, z886, Cr886⟩, st886⟩ := Jvm.RoadKit.callSS (s := s.setVm s.vm) X872 hx (y := (⟨"com/example/vellum_index/vellumindex/StemmerLabelledPinLaw", "at", "(IIJZII)C"⟩ : MethodName)) hown (mvT hZ (wd hw 2 rfl)) (mvT hZ (wd hw 3 rfl)) (mvT hZ (wd hw 4 rfl)) (mvT hZ (wd hw 5 rfl)) (by decide) (backOfSH (s := s ) (vm0 := s.vm) (EL := consts_1) (W := 2) (rm1 l Z a0 hw [] (v0_1 p0 p1 p2 p3 q4 w0) (0 : Int32) q4 (v0_3 p0 p1 p2 p3 q4 w0) (v0_6 p0 p1 p2 p3 q4 w0) p3 w0 u1_SF h872 n0 z883 (Sta.ext O887.2 S_String_COMPACT_STRINGS) hcs (Sta.ext O887.2 S_Preconditions_SIOOBE_FORMATTER) hu (by decide)) hZ (wd hw 5 rfl) (wd hw 4 rfl) (by decide) (by decide) (own_ew hw) ch882.1) (g := (mkF m 59 #[.val (.int p0), .val (.int p1), .val (.int p2), .val (.int p3), .val (.long q4), .second, .val (.int (v0_1 p0 p1 p2 p3 q4 w0)), .val (.int (v0_3 p0 p1 p2 p3 q4 w0)), .val (.int (6 : Int32)), .val (.int (v0_6 p0 p1 p2 p3 q4 w0)), .val (.ref b872), .unset, .unset] [(.int p3), (.int (v0_6 p0 p1 p2 p3 q4 w0)), (.int (v0_3 p0 p1 p2 p3 q4 w0)), (.long q4), (.int (0 : Int32)), (.int (v0_1 p0 p1 p2 p3 q4 w0)), (.int (0 : Int32)), (.ref b872)])) rfl (by rw [hml]; rfl) (argsL := [(.int (v0_1 p0 p1 p2 p3 q4 w0)), (.int (0 : Int32)), (.long q4), (.int (v0_3 p0 p1 p2 p3 q4 w0)), (.int (v0_6 p0 p1 p2 p3 q4 w0)), (.int p3)]) (rest := [(.int (0 : Int32)), (.ref b872)]) (lenOf pd__IIJZII_C rfl) rfl (by show 2 * 0 + _ ≤ _; exact Nat.le_of_eq rfl) (hb hby at_59) (fun _ _ => ⟨rfl, e872, (by decide : 1 + 2 ≤ _), (by decide : 6 + 28 ≤ _)⟩)
    dsimp only [Pt.U, Pt.locs, Pt.cells, Pt.slots] at X886 l886 y886 z886 st886 hQ886 hSq886 hgq886 Cr886
    obtain ⟨X886, hS886, hZ, hown⟩ := rebS (s := s) (vm0 := s.vm) (n1 := h872.size) hS0 hk885 X886 hSq886 (by rw [← e872]; exact hgq886) hZ hown
    have ch888 := ch882.trans Cr886
    replace X886 := own_stand X886 l886 y886 z886
    clear l886 y886 z886
    have N886q := (show _ ∧ _ from hQ886).1
    have hq886 := (show _ ∧ _ from hQ886).2
    clear hQ886
    have hv886 := hq886.1
    have K886 := hq886.2
    clear hq886
    subst hv886
    have z889 : n0 ≤ T886.heap.size := Nat.le_trans z883 K886.1
    have hs890 : h0.size ≤ T886.heap.size := Nat.le_trans hs884 K886.1
    have N886 := Fr.app N0 N886q
    have k891 := (V872.keep K886 nin0)
    obtain ⟨cl892, Ar892, qc892, S892, M892, Ha892, G892⟩ := id k891
    have hin893 : ¬ ((0 : Int32) < 0 ∨ cl892.slots.size ≤ ((0 : Int32)).toNatClampNeg) := inb_of S892 ⟨by decide, by decide⟩
    obtain ⟨T894, h894, X894, e894, W894, st894⟩ := stC X886 hx hZ rfl Ar892 (j := (0 : Int32)) hin893 (g := (mkF m 62 #[.val (.int p0), .val (.int p1), .val (.int p2), .val (.int p3), .val (.long q4), .second, .val (.int (v0_1 p0 p1 p2 p3 q4 w0)), .val (.int (v0_3 p0 p1 p2 p3 q4 w0)), .val (.int (6 : Int32)), .val (.int (v0_6 p0 p1 p2 p3 q4 w0)), .val (.ref b872), .unset, .unset] [(.int (f1 (v0_1 p0 p1 p2 p3 q4 w0) (0 : Int32) q4 (v0_3 p0 p1 p2 p3 q4 w0) (v0_6 p0 p1 p2 p3 q4 w0) p3 w0)), (.int (0 : Int32)), (.ref b872)])) rfl rfl (hb hby at_62)
    have V894 : Arv Z h894 b872 k872 .char (6 : Int32) [(.int (v0_50 p0 p1 p2 p3 q4 w0)), (.int (0 : Int32)), (.int (0 : Int32)), (.int (0 : Int32)), (.int (0 : Int32)), (.int (0 : Int32))] (.int (0 : Int32)) := Arv.set Ar892 qc892 S892 M892 Ha892 G892 (fits_nar_char (v0_49 p0 p1 p2 p3 q4 w0)) W894 0 rfl (Nat.le_of_ble_eq_true rfl)
    have N894 := Fr.snoc X894 N886 g880
    have ch895 := ch888.trans (CHr.wr W894 (Safe.arv hZ.alike k891 (fun q => nomatch q)) ch888.1)
    have z896 : n0 ≤ h894.size := Nat.le_trans z889 (Keep.of_wr W894).1
    have hs897 : h0.size ≤ h894.size := Nat.le_trans hs890 (Keep.of_wr W894).1
    have hk898 := Nat.le_trans (Nat.le_refl _) (Keep.of_wr W894).1
    have O900 := ((O887.keep K886 all0).wr W894 g880)
    obtain ⟨vr899, _, ⟨T899, L899, k899, n899⟩, -, X899, hSq899, hgq899, ⟨Lc899, hQ899, l899, y899, z899, Cr899⟩, st899⟩ := Jvm.RoadKit.callSS (s := s.setVm T886.vm) X894 hx (y := (⟨"com/example/vellum_index/vellumindex/StemmerLabelledPinLaw", "at", "(IIJZII)C"⟩ : MethodName)) hown (mvT hZ (wd hw 2 rfl)) (mvT hZ (wd hw 3 rfl)) (mvT hZ (wd hw 4 rfl)) (mvT hZ (wd hw 5 rfl)) (by decide) (backOfSH (s := s ) (vm0 := T886.vm) (EL := consts_1) (W := 2) (rm1 l Z a0 hw [] (v0_1 p0 p1 p2 p3 q4 w0) (1 : Int32) q4 (v0_3 p0 p1 p2 p3 q4 w0) (v0_6 p0 p1 p2 p3 q4 w0) p3 w0 u1_SF h894 n0 z896 (Sta.ext O900.2 S_String_COMPACT_STRINGS) hcs (Sta.ext O900.2 S_Preconditions_SIOOBE_FORMATTER) hu (by decide)) hZ (wd hw 5 rfl) (wd hw 4 rfl) (by decide) (by decide) (own_ew hw) ch895.1) (g := (mkF m 82 #[.val (.int p0), .val (.int p1), .val (.int p2), .val (.int p3), .val (.long q4), .second, .val (.int (v0_1 p0 p1 p2 p3 q4 w0)), .val (.int (v0_3 p0 p1 p2 p3 q4 w0)), .val (.int (6 : Int32)), .val (.int (v0_6 p0 p1 p2 p3 q4 w0)), .val (.ref b872), .unset, .unset] [(.int p3), (.int (v0_6 p0 p1 p2 p3 q4 w0)), (.int (v0_3 p0 p1 p2 p3 q4 w0)), (.long q4), (.int (1 : Int32)), (.int (v0_1 p0 p1 p2 p3 q4 w0)), (.int (1 : Int32)), (.ref b872)])) rfl (by rw [hml]; rfl) (argsL := [(.int (v0_1 p0 p1 p2 p3 q4 w0)), (.int (1 : Int32)), (.long q4), (.int (v0_3 p0 p1 p2 p3 q4 w0)), (.int (v0_6 p0 p1 p2 p3 q4 w0)), (.int p3)]) (rest := [(.int (1 : Int32)), (.ref b872)]) (lenOf pd__IIJZII_C rfl) rfl (by show 2 * 0 + _ ≤ _; exact Nat.le_of_eq rfl) (hb hby at_82) (fun _ _ => ⟨rfl, e894, (by decide : 3 + 2 ≤ _), (by decide : 34 + 28 ≤ _)⟩)
    dsimp only [Pt.U, Pt.locs, Pt.cells, Pt.slots] at X899 l899 y899 z899 st899 hQ899 hSq899 hgq899 Cr899
    obtain ⟨X899, hS899, hZ, hown⟩ := rebS (s := s) (vm0 := T886.vm) (n1 := h894.size) hS886 hk898 X899 hSq899 (by rw [← e894]; exact hgq899) hZ hown
    have ch901 := ch895.trans Cr899
    replace X899 := own_stand X899 l899 y899 z899
    clear l899 y899 z899
    have N899q := (show _ ∧ _ from hQ899).1
    have hq899 := (show _ ∧ _ from hQ899).2
    clear hQ899
    have hv899 := hq899.1
    have K899 := hq899.2
    clear hq899
    subst hv899
    have z902 : n0 ≤ T899.heap.size := Nat.le_trans z896 K899.1
    have hs903 : h0.size ≤ T899.heap.size := Nat.le_trans hs897 K899.1
    have N899 := Fr.app N894 N899q
    have k904 := (V894.keep K899 nin0)
    obtain ⟨cl905, Ar905, qc905, S905, M905, Ha905, G905⟩ := id k904
    have hin906 : ¬ ((1 : Int32) < 0 ∨ cl905.slots.size ≤ ((1 : Int32)).toNatClampNeg) := inb_of S905 ⟨by decide, by decide⟩
    obtain ⟨T907, h907, X907, e907, W907, st907⟩ := stC X899 hx hZ rfl Ar905 (j := (1 : Int32)) hin906 (g := (mkF m 85 #[.val (.int p0), .val (.int p1), .val (.int p2), .val (.int p3), .val (.long q4), .second, .val (.int (v0_1 p0 p1 p2 p3 q4 w0)), .val (.int (v0_3 p0 p1 p2 p3 q4 w0)), .val (.int (6 : Int32)), .val (.int (v0_6 p0 p1 p2 p3 q4 w0)), .val (.ref b872), .unset, .unset] [(.int (f1 (v0_1 p0 p1 p2 p3 q4 w0) (1 : Int32) q4 (v0_3 p0 p1 p2 p3 q4 w0) (v0_6 p0 p1 p2 p3 q4 w0) p3 w0)), (.int (1 : Int32)), (.ref b872)])) rfl rfl (hb hby at_85)
    have V907 : Arv Z h907 b872 k872 .char (6 : Int32) [(.int (v0_50 p0 p1 p2 p3 q4 w0)), (.int (v0_52 p0 p1 p2 p3 q4 w0)), (.int (0 : Int32)), (.int (0 : Int32)), (.int (0 : Int32)), (.int (0 : Int32))] (.int (0 : Int32)) := Arv.set Ar905 qc905 S905 M905 Ha905 G905 (fits_nar_char (v0_51 p0 p1 p2 p3 q4 w0)) W907 1 rfl (Nat.le_of_ble_eq_true rfl)
    have N907 := Fr.snoc X907 N899 g880
    have ch908 := ch901.trans (CHr.wr W907 (Safe.arv hZ.alike k904 (fun q => nomatch q)) ch901.1)
    have z909 : n0 ≤ h907.size := Nat.le_trans z902 (Keep.of_wr W907).1
    have hs910 : h0.size ≤ h907.size := Nat.le_trans hs903 (Keep.of_wr W907).1
    have hk911 := Nat.le_trans (Nat.le_refl _) (Keep.of_wr W907).1
    have O913 := ((O900.keep K899 all0).wr W907 g880)
    obtain ⟨vr912, _, ⟨T912, L912, k912, n912⟩, -, X912, hSq912, hgq912, ⟨Lc912, hQ912, l912, y912, z912, Cr912⟩, st912⟩ := Jvm.RoadKit.callSS (s := s.setVm T899.vm) X907 hx (y := (⟨"com/example/vellum_index/vellumindex/StemmerLabelledPinLaw", "at", "(IIJZII)C"⟩ : MethodName)) hown (mvT hZ (wd hw 2 rfl)) (mvT hZ (wd hw 3 rfl)) (mvT hZ (wd hw 4 rfl)) (mvT hZ (wd hw 5 rfl)) (by decide) (backOfSH (s := s ) (vm0 := T899.vm) (EL := consts_1) (W := 2) (rm1 l Z a0 hw [] (v0_1 p0 p1 p2 p3 q4 w0) (2 : Int32) q4 (v0_3 p0 p1 p2 p3 q4 w0) (v0_6 p0 p1 p2 p3 q4 w0) p3 w0 u1_SF h907 n0 z909 (Sta.ext O913.2 S_String_COMPACT_STRINGS) hcs (Sta.ext O913.2 S_Preconditions_SIOOBE_FORMATTER) hu (by decide)) hZ (wd hw 5 rfl) (wd hw 4 rfl) (by decide) (by decide) (own_ew hw) ch908.1) (g := (mkF m 105 #[.val (.int p0), .val (.int p1), .val (.int p2), .val (.int p3), .val (.long q4), .second, .val (.int (v0_1 p0 p1 p2 p3 q4 w0)), .val (.int (v0_3 p0 p1 p2 p3 q4 w0)), .val (.int (6 : Int32)), .val (.int (v0_6 p0 p1 p2 p3 q4 w0)), .val (.ref b872), .unset, .unset] [(.int p3), (.int (v0_6 p0 p1 p2 p3 q4 w0)), (.int (v0_3 p0 p1 p2 p3 q4 w0)), (.long q4), (.int (2 : Int32)), (.int (v0_1 p0 p1 p2 p3 q4 w0)), (.int (2 : Int32)), (.ref b872)])) rfl (by rw [hml]; rfl) (argsL := [(.int (v0_1 p0 p1 p2 p3 q4 w0)), (.int (2 : Int32)), (.long q4), (.int (v0_3 p0 p1 p2 p3 q4 w0)), (.int (v0_6 p0 p1 p2 p3 q4 w0)), (.int p3)]) (rest := [(.int (2 : Int32)), (.ref b872)]) (lenOf pd__IIJZII_C rfl) rfl (by show 2 * 0 + _ ≤ _; exact Nat.le_of_eq rfl) (hb hby at_105) (fun _ _ => ⟨rfl, e907, (by decide : 5 + 2 ≤ _), (by decide : 62 + 28 ≤ _)⟩)
    dsimp only [Pt.U, Pt.locs, Pt.cells, Pt.slots] at X912 l912 y912 z912 st912 hQ912 hSq912 hgq912 Cr912
    obtain ⟨X912, hS912, hZ, hown⟩ := rebS (s := s) (vm0 := T899.vm) (n1 := h907.size) hS899 hk911 X912 hSq912 (by rw [← e907]; exact hgq912) hZ hown
    have ch914 := ch908.trans Cr912
    replace X912 := own_stand X912 l912 y912 z912
    clear l912 y912 z912
    have N912q := (show _ ∧ _ from hQ912).1
    have hq912 := (show _ ∧ _ from hQ912).2
    clear hQ912
    have hv912 := hq912.1
    have K912 := hq912.2
    clear hq912
    subst hv912
    have z915 : n0 ≤ T912.heap.size := Nat.le_trans z909 K912.1
    have hs916 : h0.size ≤ T912.heap.size := Nat.le_trans hs910 K912.1
    have N912 := Fr.app N907 N912q
    have k917 := (V907.keep K912 nin0)
    obtain ⟨cl918, Ar918, qc918, S918, M918, Ha918, G918⟩ := id k917
    have hin919 : ¬ ((2 : Int32) < 0 ∨ cl918.slots.size ≤ ((2 : Int32)).toNatClampNeg) := inb_of S918 ⟨by decide, by decide⟩
    obtain ⟨T920, h920, X920, e920, W920, st920⟩ := stC X912 hx hZ rfl Ar918 (j := (2 : Int32)) hin919 (g := (mkF m 108 #[.val (.int p0), .val (.int p1), .val (.int p2), .val (.int p3), .val (.long q4), .second, .val (.int (v0_1 p0 p1 p2 p3 q4 w0)), .val (.int (v0_3 p0 p1 p2 p3 q4 w0)), .val (.int (6 : Int32)), .val (.int (v0_6 p0 p1 p2 p3 q4 w0)), .val (.ref b872), .unset, .unset] [(.int (f1 (v0_1 p0 p1 p2 p3 q4 w0) (2 : Int32) q4 (v0_3 p0 p1 p2 p3 q4 w0) (v0_6 p0 p1 p2 p3 q4 w0) p3 w0)), (.int (2 : Int32)), (.ref b872)])) rfl rfl (hb hby at_108)
    have V920 : Arv Z h920 b872 k872 .char (6 : Int32) [(.int (v0_50 p0 p1 p2 p3 q4 w0)), (.int (v0_52 p0 p1 p2 p3 q4 w0)), (.int (v0_54 p0 p1 p2 p3 q4 w0)), (.int (0 : Int32)), (.int (0 : Int32)), (.int (0 : Int32))] (.int (0 : Int32)) := Arv.set Ar918 qc918 S918 M918 Ha918 G918 (fits_nar_char (v0_53 p0 p1 p2 p3 q4 w0)) W920 2 rfl (Nat.le_of_ble_eq_true rfl)
    have N920 := Fr.snoc X920 N912 g880
    have ch921 := ch914.trans (CHr.wr W920 (Safe.arv hZ.alike k917 (fun q => nomatch q)) ch914.1)
    have z922 : n0 ≤ h920.size := Nat.le_trans z915 (Keep.of_wr W920).1
    have hs923 : h0.size ≤ h920.size := Nat.le_trans hs916 (Keep.of_wr W920).1
    have hk924 := Nat.le_trans (Nat.le_refl _) (Keep.of_wr W920).1
    have O926 := ((O913.keep K912 all0).wr W920 g880)
    obtain ⟨vr925, _, ⟨T925, L925, k925, n925⟩, -, X925, hSq925, hgq925, ⟨Lc925, hQ925, l925, y925, z925, Cr925⟩, st925⟩ := Jvm.RoadKit.callSS (s := s.setVm T912.vm) X920 hx (y := (⟨"com/example/vellum_index/vellumindex/StemmerLabelledPinLaw", "at", "(IIJZII)C"⟩ : MethodName)) hown (mvT hZ (wd hw 2 rfl)) (mvT hZ (wd hw 3 rfl)) (mvT hZ (wd hw 4 rfl)) (mvT hZ (wd hw 5 rfl)) (by decide) (backOfSH (s := s ) (vm0 := T912.vm) (EL := consts_1) (W := 2) (rm1 l Z a0 hw [] (v0_1 p0 p1 p2 p3 q4 w0) (3 : Int32) q4 (v0_3 p0 p1 p2 p3 q4 w0) (v0_6 p0 p1 p2 p3 q4 w0) p3 w0 u1_SF h920 n0 z922 (Sta.ext O926.2 S_String_COMPACT_STRINGS) hcs (Sta.ext O926.2 S_Preconditions_SIOOBE_FORMATTER) hu (by decide)) hZ (wd hw 5 rfl) (wd hw 4 rfl) (by decide) (by decide) (own_ew hw) ch921.1) (g := (mkF m 128 #[.val (.int p0), .val (.int p1), .val (.int p2), .val (.int p3), .val (.long q4), .second, .val (.int (v0_1 p0 p1 p2 p3 q4 w0)), .val (.int (v0_3 p0 p1 p2 p3 q4 w0)), .val (.int (6 : Int32)), .val (.int (v0_6 p0 p1 p2 p3 q4 w0)), .val (.ref b872), .unset, .unset] [(.int p3), (.int (v0_6 p0 p1 p2 p3 q4 w0)), (.int (v0_3 p0 p1 p2 p3 q4 w0)), (.long q4), (.int (3 : Int32)), (.int (v0_1 p0 p1 p2 p3 q4 w0)), (.int (3 : Int32)), (.ref b872)])) rfl (by rw [hml]; rfl) (argsL := [(.int (v0_1 p0 p1 p2 p3 q4 w0)), (.int (3 : Int32)), (.long q4), (.int (v0_3 p0 p1 p2 p3 q4 w0)), (.int (v0_6 p0 p1 p2 p3 q4 w0)), (.int p3)]) (rest := [(.int (3 : Int32)), (.ref b872)]) (lenOf pd__IIJZII_C rfl) rfl (by show 2 * 0 + _ ≤ _; exact Nat.le_of_eq rfl) (hb hby at_128) (fun _ _ => ⟨rfl, e920, (by decide : 7 + 2 ≤ _), (by decide : 90 + 28 ≤ _)⟩)
    dsimp only [Pt.U, Pt.locs, Pt.cells, Pt.slots] at X925 l925 y925 z925 st925 hQ925 hSq925 hgq925 Cr925
    obtain ⟨X925, hS925, hZ, hown⟩ := rebS (s := s) (vm0 := T912.vm) (n1 := h920.size) hS912 hk924 X925 hSq925 (by rw [← e920]; exact hgq925) hZ hown
    have ch927 := ch921.trans Cr925
    replace X925 := own_stand X925 l925 y925 z925
    clear l925 y925 z925
    have N925q := (show _ ∧ _ from hQ925).1
    have hq925 := (show _ ∧ _ from hQ925).2
    clear hQ925
    have hv925 := hq925.1
    have K925 := hq925.2
    clear hq925
    subst hv925
    have z928 : n0 ≤ T925.heap.size := Nat.le_trans z922 K925.1
    have hs929 : h0.size ≤ T925.heap.size := Nat.le_trans hs923 K925.1
    have N925 := Fr.app N920 N925q
    have k930 := (V920.keep K925 nin0)
    obtain ⟨cl931, Ar931, qc931, S931, M931, Ha931, G931⟩ := id k930
    have hin932 : ¬ ((3 : Int32) < 0 ∨ cl931.slots.size ≤ ((3 : Int32)).toNatClampNeg) := inb_of S931 ⟨by decide, by decide⟩
    obtain ⟨T933, h933, X933, e933, W933, st933⟩ := stC X925 hx hZ rfl Ar931 (j := (3 : Int32)) hin932 (g := (mkF m 131 #[.val (.int p0), .val (.int p1), .val (.int p2), .val (.int p3), .val (.long q4), .second, .val (.int (v0_1 p0 p1 p2 p3 q4 w0)), .val (.int (v0_3 p0 p1 p2 p3 q4 w0)), .val (.int (6 : Int32)), .val (.int (v0_6 p0 p1 p2 p3 q4 w0)), .val (.ref b872), .unset, .unset] [(.int (f1 (v0_1 p0 p1 p2 p3 q4 w0) (3 : Int32) q4 (v0_3 p0 p1 p2 p3 q4 w0) (v0_6 p0 p1 p2 p3 q4 w0) p3 w0)), (.int (3 : Int32)), (.ref b872)])) rfl rfl (hb hby at_131)
    have V933 : Arv Z h933 b872 k872 .char (6 : Int32) [(.int (v0_50 p0 p1 p2 p3 q4 w0)), (.int (v0_52 p0 p1 p2 p3 q4 w0)), (.int (v0_54 p0 p1 p2 p3 q4 w0)), (.int (v0_56 p0 p1 p2 p3 q4 w0)), (.int (0 : Int32)), (.int (0 : Int32))] (.int (0 : Int32)) := Arv.set Ar931 qc931 S931 M931 Ha931 G931 (fits_nar_char (v0_55 p0 p1 p2 p3 q4 w0)) W933 3 rfl (Nat.le_of_ble_eq_true rfl)
    have N933 := Fr.snoc X933 N925 g880
    have ch934 := ch927.trans (CHr.wr W933 (Safe.arv hZ.alike k930 (fun q => nomatch q)) ch927.1)
    have z935 : n0 ≤ h933.size := Nat.le_trans z928 (Keep.of_wr W933).1
    have hs936 : h0.size ≤ h933.size := Nat.le_trans hs929 (Keep.of_wr W933).1
    have hk937 := Nat.le_trans (Nat.le_refl _) (Keep.of_wr W933).1
    have O939 := ((O926.keep K925 all0).wr W933 g880)
    obtain ⟨vr938, _, ⟨T938, L938, k938, n938⟩, -, X938, hSq938, hgq938, ⟨Lc938, hQ938, l938, y938, z938, Cr938⟩, st938⟩ := Jvm.RoadKit.callSS (s := s.setVm T925.vm) X933 hx (y := (⟨"com/example/vellum_index/vellumindex/StemmerLabelledPinLaw", "at", "(IIJZII)C"⟩ : MethodName)) hown (mvT hZ (wd hw 2 rfl)) (mvT hZ (wd hw 3 rfl)) (mvT hZ (wd hw 4 rfl)) (mvT hZ (wd hw 5 rfl)) (by decide) (backOfSH (s := s ) (vm0 := T925.vm) (EL := consts_1) (W := 2) (rm1 l Z a0 hw [] (v0_1 p0 p1 p2 p3 q4 w0) (4 : Int32) q4 (v0_3 p0 p1 p2 p3 q4 w0) (v0_6 p0 p1 p2 p3 q4 w0) p3 w0 u1_SF h933 n0 z935 (Sta.ext O939.2 S_String_COMPACT_STRINGS) hcs (Sta.ext O939.2 S_Preconditions_SIOOBE_FORMATTER) hu (by decide)) hZ (wd hw 5 rfl) (wd hw 4 rfl) (by decide) (by decide) (own_ew hw) ch934.1) (g := (mkF m 151 #[.val (.int p0), .val (.int p1), .val (.int p2), .val (.int p3), .val (.long q4), .second, .val (.int (v0_1 p0 p1 p2 p3 q4 w0)), .val (.int (v0_3 p0 p1 p2 p3 q4 w0)), .val (.int (6 : Int32)), .val (.int (v0_6 p0 p1 p2 p3 q4 w0)), .val (.ref b872), .unset, .unset] [(.int p3), (.int (v0_6 p0 p1 p2 p3 q4 w0)), (.int (v0_3 p0 p1 p2 p3 q4 w0)), (.long q4), (.int (4 : Int32)), (.int (v0_1 p0 p1 p2 p3 q4 w0)), (.int (4 : Int32)), (.ref b872)])) rfl (by rw [hml]; rfl) (argsL := [(.int (v0_1 p0 p1 p2 p3 q4 w0)), (.int (4 : Int32)), (.long q4), (.int (v0_3 p0 p1 p2 p3 q4 w0)), (.int (v0_6 p0 p1 p2 p3 q4 w0)), (.int p3)]) (rest := [(.int (4 : Int32)), (.ref b872)]) (lenOf pd__IIJZII_C rfl) rfl (by show 2 * 0 + _ ≤ _; exact Nat.le_of_eq rfl) (hb hby at_151) (fun _ _ => ⟨rfl, e933, (by decide : 9 + 2 ≤ _), (by decide : 118 + 28 ≤ _)⟩)
    dsimp only [Pt.U, Pt.locs, Pt.cells, Pt.slots] at X938 l938 y938 z938 st938 hQ938 hSq938 hgq938 Cr938
    obtain ⟨X938, hS938, hZ, hown⟩ := rebS (s := s) (vm0 := T925.vm) (n1 := h933.size) hS925 hk937 X938 hSq938 (by rw [← e933]; exact hgq938) hZ hown
    have ch940 := ch934.trans Cr938
    replace X938 := own_stand X938 l938 y938 z938
    clear l938 y938 z938
    have N938q := (show _ ∧ _ from hQ938).1
    have hq938 := (show _ ∧ _ from hQ938).2
    clear hQ938
    have hv938 := hq938.1
    have K938 := hq938.2
    clear hq938
    subst hv938
    have z941 : n0 ≤ T938.heap.size := Nat.le_trans z935 K938.1
    have hs942 : h0.size ≤ T938.heap.size := Nat.le_trans hs936 K938.1
    have N938 := Fr.app N933 N938q
    have k943 := (V933.keep K938 nin0)
    obtain ⟨cl944, Ar944, qc944, S944, M944, Ha944, G944⟩ := id k943
    have hin945 : ¬ ((4 : Int32) < 0 ∨ cl944.slots.size ≤ ((4 : Int32)).toNatClampNeg) := inb_of S944 ⟨by decide, by decide⟩
    obtain ⟨T946, h946, X946, e946, W946, st946⟩ := stC X938 hx hZ rfl Ar944 (j := (4 : Int32)) hin945 (g := (mkF m 154 #[.val (.int p0), .val (.int p1), .val (.int p2), .val (.int p3), .val (.long q4), .second, .val (.int (v0_1 p0 p1 p2 p3 q4 w0)), .val (.int (v0_3 p0 p1 p2 p3 q4 w0)), .val (.int (6 : Int32)), .val (.int (v0_6 p0 p1 p2 p3 q4 w0)), .val (.ref b872), .unset, .unset] [(.int (f1 (v0_1 p0 p1 p2 p3 q4 w0) (4 : Int32) q4 (v0_3 p0 p1 p2 p3 q4 w0) (v0_6 p0 p1 p2 p3 q4 w0) p3 w0)), (.int (4 : Int32)), (.ref b872)])) rfl rfl (hb hby at_154)
    have V946 : Arv Z h946 b872 k872 .char (6 : Int32) [(.int (v0_50 p0 p1 p2 p3 q4 w0)), (.int (v0_52 p0 p1 p2 p3 q4 w0)), (.int (v0_54 p0 p1 p2 p3 q4 w0)), (.int (v0_56 p0 p1 p2 p3 q4 w0)), (.int (v0_58 p0 p1 p2 p3 q4 w0)), (.int (0 : Int32))] (.int (0 : Int32)) := Arv.set Ar944 qc944 S944 M944 Ha944 G944 (fits_nar_char (v0_57 p0 p1 p2 p3 q4 w0)) W946 4 rfl (Nat.le_of_ble_eq_true rfl)
    have N946 := Fr.snoc X946 N938 g880
    have ch947 := ch940.trans (CHr.wr W946 (Safe.arv hZ.alike k943 (fun q => nomatch q)) ch940.1)
    have z948 : n0 ≤ h946.size := Nat.le_trans z941 (Keep.of_wr W946).1
    have hs949 : h0.size ≤ h946.size := Nat.le_trans hs942 (Keep.of_wr W946).1
    have hk950 := Nat.le_trans (Nat.le_refl _) (Keep.of_wr W946).1
    have O952 := ((O939.keep K938 all0).wr W946 g880)
    obtain ⟨vr951, _, ⟨T951, L951, k951, n951⟩, -, X951, hSq951, hgq951, ⟨Lc951, hQ951, l951, y951, z951, Cr951⟩, st951⟩ := Jvm.RoadKit.callSS (s := s.setVm T938.vm) X946 hx (y := (⟨"com/example/vellum_index/vellumindex/StemmerLabelledPinLaw", "at", "(IIJZII)C"⟩ : MethodName)) hown (mvT hZ (wd hw 2 rfl)) (mvT hZ (wd hw 3 rfl)) (mvT hZ (wd hw 4 rfl)) (mvT hZ (wd hw 5 rfl)) (by decide) (backOfSH (s := s ) (vm0 := T938.vm) (EL := consts_1) (W := 2) (rm1 l Z a0 hw [] (v0_1 p0 p1 p2 p3 q4 w0) (5 : Int32) q4 (v0_3 p0 p1 p2 p3 q4 w0) (v0_6 p0 p1 p2 p3 q4 w0) p3 w0 u1_SF h946 n0 z948 (Sta.ext O952.2 S_String_COMPACT_STRINGS) hcs (Sta.ext O952.2 S_Preconditions_SIOOBE_FORMATTER) hu (by decide)) hZ (wd hw 5 rfl) (wd hw 4 rfl) (by decide) (by decide) (own_ew hw) ch947.1) (g := (mkF m 174 #[.val (.int p0), .val (.int p1), .val (.int p2), .val (.int p3), .val (.long q4), .second, .val (.int (v0_1 p0 p1 p2 p3 q4 w0)), .val (.int (v0_3 p0 p1 p2 p3 q4 w0)), .val (.int (6 : Int32)), .val (.int (v0_6 p0 p1 p2 p3 q4 w0)), .val (.ref b872), .unset, .unset] [(.int p3), (.int (v0_6 p0 p1 p2 p3 q4 w0)), (.int (v0_3 p0 p1 p2 p3 q4 w0)), (.long q4), (.int (5 : Int32)), (.int (v0_1 p0 p1 p2 p3 q4 w0)), (.int (5 : Int32)), (.ref b872)])) rfl (by rw [hml]; rfl) (argsL := [(.int (v0_1 p0 p1 p2 p3 q4 w0)), (.int (5 : Int32)), (.long q4), (.int (v0_3 p0 p1 p2 p3 q4 w0)), (.int (v0_6 p0 p1 p2 p3 q4 w0)), (.int p3)]) (rest := [(.int (5 : Int32)), (.ref b872)]) (lenOf pd__IIJZII_C rfl) rfl (by show 2 * 0 + _ ≤ _; exact Nat.le_of_eq rfl) (hb hby at_174) (fun _ _ => ⟨rfl, e946, (by decide : 11 + 2 ≤ _), (by decide : 146 + 28 ≤ _)⟩)
    dsimp only [Pt.U, Pt.locs, Pt.cells, Pt.slots] at X951 l951 y951 z951 st951 hQ951 hSq951 hgq951 Cr951
    obtain ⟨X951, hS951, hZ, hown⟩ := rebS (s := s) (vm0 := T938.vm) (n1 := h946.size) hS938 hk950 X951 hSq951 (by rw [← e946]; exact hgq951) hZ hown
    have ch953 := ch947.trans Cr951
    replace X951 := own_stand X951 l951 y951 z951
    clear l951 y951 z951
    have N951q := (show _ ∧ _ from hQ951).1
    have hq951 := (show _ ∧ _ from hQ951).2
    clear hQ951
    have hv951 := hq951.1
    have K951 := hq951.2
    clear hq951
    subst hv951
    have z954 : n0 ≤ T951.heap.size := Nat.le_trans z948 K951.1
    have hs955 : h0.size ≤ T951.heap.size := Nat.le_trans hs949 K951.1
    have N951 := Fr.app N946 N951q
    have k956 := (V946.keep K951 nin0)
    obtain ⟨cl957, Ar957, qc957, S957, M957, Ha957, G957⟩ := id k956
    have hin958 : ¬ ((5 : Int32) < 0 ∨ cl957.slots.size ≤ ((5 : Int32)).toNatClampNeg) := inb_of S957 ⟨by decide, by decide⟩
    obtain ⟨T959, h959, X959, e959, W959, st959⟩ := stC X951 hx hZ rfl Ar957 (j := (5 : Int32)) hin958 (g := (mkF m 177 #[.val (.int p0), .val (.int p1), .val (.int p2), .val (.int p3), .val (.long q4), .second, .val (.int (v0_1 p0 p1 p2 p3 q4 w0)), .val (.int (v0_3 p0 p1 p2 p3 q4 w0)), .val (.int (6 : Int32)), .val (.int (v0_6 p0 p1 p2 p3 q4 w0)), .val (.ref b872), .unset, .unset] [(.int (f1 (v0_1 p0 p1 p2 p3 q4 w0) (5 : Int32) q4 (v0_3 p0 p1 p2 p3 q4 w0) (v0_6 p0 p1 p2 p3 q4 w0) p3 w0)), (.int (5 : Int32)), (.ref b872)])) rfl rfl (hb hby at_177)
    have V959 : Arv Z h959 b872 k872 .char (6 : Int32) [(.int (v0_50 p0 p1 p2 p3 q4 w0)), (.int (v0_52 p0 p1 p2 p3 q4 w0)), (.int (v0_54 p0 p1 p2 p3 q4 w0)), (.int (v0_56 p0 p1 p2 p3 q4 w0)), (.int (v0_58 p0 p1 p2 p3 q4 w0)), (.int (v0_60 p0 p1 p2 p3 q4 w0))] (.int (0 : Int32)) := Arv.set Ar957 qc957 S957 M957 Ha957 G957 (fits_nar_char (v0_59 p0 p1 p2 p3 q4 w0)) W959 5 rfl (Nat.le_of_ble_eq_true rfl)
    have N959 := Fr.snoc X959 N951 g880
    have ch960 := ch953.trans (CHr.wr W959 (Safe.arv hZ.alike k956 (fun q => nomatch q)) ch953.1)
    have z961 : n0 ≤ h959.size := Nat.le_trans z954 (Keep.of_wr W959).1
    have hs962 : h0.size ≤ h959.size := Nat.le_trans hs955 (Keep.of_wr W959).1
    have hk963 := Nat.le_trans (Nat.le_refl _) (Keep.of_wr W959).1
    obtain ⟨T964, h964, X964, e964, E964, A964, D964, -, st964⟩ := newO X959 hx hZ hown (wd hw 52 rfl) (wd hw 11 rfl) (wd hw 10 rfl) e959 (g := (mkF m 204 #[.val (.int p0), .val (.int p1), .val (.int p2), .val (.int p3), .val (.long q4), .second, .val (.int (v0_1 p0 p1 p2 p3 q4 w0)), .val (.int (v0_3 p0 p1 p2 p3 q4 w0)), .val (.int (6 : Int32)), .val (.int (v0_6 p0 p1 p2 p3 q4 w0)), .val (.ref b872), .unset, .unset] [])) rfl (hb hby at_204) (by decide) (by decide)
    obtain ⟨b964, gz964⟩ : ∃ z, z = h959.size := ⟨_, rfl⟩
    rw [← gz964] at A964 D964 st964
    have k965 := (((((((((((((E_w2_V.ext E872).keep K886).wr W894).keep K899).wr W907).keep K912).wr W920).keep K925).wr W933).keep K938).wr W946).keep K951).wr W959)
    have ne966 : w2_V ≠ b964 := Nat.ne_of_lt (Nat.lt_of_lt_of_le k965.lt (Nat.le_of_eq gz964.symm))
    have k967 := (((((((((((((E_w3_N.ext E872).keep K886).wr W894).keep K899).wr W907).keep K912).wr W920).keep K925).wr W933).keep K938).wr W946).keep K951).wr W959)
    have ne968 : w3_N ≠ b964 := Nat.ne_of_lt (Nat.lt_of_lt_of_le k967.lt (Nat.le_of_eq gz964.symm))
    have k969 := (((((((((((((E_w4_P.ext E872).keep K886).wr W894).keep K899).wr W907).keep K912).wr W920).keep K925).wr W933).keep K938).wr W946).keep K951).wr W959)
    have ne970 : w4_P ≠ b964 := Nat.ne_of_lt (Nat.lt_of_lt_of_le k969.lt (Nat.le_of_eq gz964.symm))
    have k971 := (((((((((((((E_w5_L.ext E872).keep K886).wr W894).keep K899).wr W907).keep K912).wr W920).keep K925).wr W933).keep K938).wr W946).keep K951).wr W959)
    have ne972 : w5_L ≠ b964 := Nat.ne_of_lt (Nat.lt_of_lt_of_le k971.lt (Nat.le_of_eq gz964.symm))
    have k973 := (((((((((((((E_w6_L.ext E872).keep K886).wr W894).keep K899).wr W907).keep K912).wr W920).keep K925).wr W933).keep K938).wr W946).keep K951).wr W959)
    have ne974 : w6_L ≠ b964 := Nat.ne_of_lt (Nat.lt_of_lt_of_le k973.lt (Nat.le_of_eq gz964.symm))
    have k975 := ((((((((((((EA872.keep K886).wr W894).keep K899).wr W907).keep K912).wr W920).keep K925).wr W933).keep K938).wr W946).keep K951).wr W959)
    have ne976 : b872 ≠ b964 := Nat.ne_of_lt (Nat.lt_of_lt_of_le k975.lt (Nat.le_of_eq gz964.symm))
    have k977 := (((((((((((((V_w7_B.ext E872).keep K886 nin0).other W894 ne878).keep K899 nin0).other W907 ne878).keep K912 nin0).other W920 ne878).keep K925 nin0).other W933 ne878).keep K938 nin0).other W946 ne878).keep K951 nin0).other W959 ne878)
    have ne978 : w7_B ≠ b964 := Nat.ne_of_lt (Nat.lt_of_lt_of_le k977.lt (Nat.le_of_eq gz964.symm))
    have k979 := (((((((((((((V_w8_B.ext E872).keep K886 nin0).other W894 ne879).keep K899 nin0).other W907 ne879).keep K912 nin0).other W920 ne879).keep K925 nin0).other W933 ne879).keep K938 nin0).other W946 ne879).keep K951 nin0).other W959 ne879)
    have ne980 : w8_B ≠ b964 := Nat.ne_of_lt (Nat.lt_of_lt_of_le k979.lt (Nat.le_of_eq gz964.symm))
    have g981 : n0 ≤ b964 := Nat.le_trans z961 (Nat.le_of_eq gz964.symm)
    have sz982 : h0.size ≤ b964 := Nat.le_trans hs962 (Nat.le_of_eq gz964.symm)
    have ch983 := ch960.trans (CHr.ext E964 ch960.1)
    have z984 : n0 ≤ h964.size := Nat.le_trans z961 E964.1
    have hs985 : h0.size ≤ h964.size := Nat.le_trans hs962 E964.1
    have hk986 := Nat.le_trans hk963 E964.1
    have sf987 := Safe.ext E964 ch960.1 (Safe.new (Z := Z) (EL := consts_1) (vm := T951.vm) (Nat.le_of_eq gz964.symm))
    have F964_value : Fld Z h964 b964 "java/lang/String" "value" "[B" .null := D964 (Or.inr (wd hw 13 rfl)) (ty := (.array .byte)) (by decide)
    have F964_coder : Fld Z h964 b964 "java/lang/String" "coder" "B" (.int (0 : Int32)) := D964 (Or.inr (wd hw 14 rfl)) (ty := .byte) (by decide)
    have k989 := (V959.ext E964)
    have O990 := (((O952.keep K951 all0).wr W959 g880).ext E964)
    obtain ⟨vr988, _, ⟨T988, L988, k988, n988⟩, -, X988, ⟨Lc988, hQ988, l988, y988, z988⟩, st988⟩ := Jvm.Stand.specialBack X964 hx (y := (⟨"java/lang/String", "<init>", "([C)V"⟩ : MethodName)) rfl hown (mvT hZ (wd hw 53 rfl)) (mvT hZ (wd hw 54 rfl)) (mvT hZ (wd hw 55 rfl)) (by decide) (own_newS (W := 1) (cs := [(v0_50 p0 p1 p2 p3 q4 w0), (v0_52 p0 p1 p2 p3 q4 w0), (v0_54 p0 p1 p2 p3 q4 w0), (v0_56 p0 p1 p2 p3 q4 w0), (v0_58 p0 p1 p2 p3 q4 w0), (v0_60 p0 p1 p2 p3 q4 w0)]) (vs := [(.int (own_b (v0_50 p0 p1 p2 p3 q4 w0))), (.int (own_b (v0_52 p0 p1 p2 p3 q4 w0))), (.int (own_b (v0_54 p0 p1 p2 p3 q4 w0))), (.int (own_b (v0_56 p0 p1 p2 p3 q4 w0))), (.int (own_b (v0_58 p0 p1 p2 p3 q4 w0))), (.int (own_b (v0_60 p0 p1 p2 p3 q4 w0)))]) (n := 6) hZ hw g981 z984 A964 F964_value F964_coder k989 (Sta.ext O990.2 S_String_COMPACT_STRINGS) hcs rfl rfl (by decide) (by decide) (own_alc (own_at _ _ _ _ _ _ _) (own_alc (own_at _ _ _ _ _ _ _) (own_alc (own_at _ _ _ _ _ _ _) (own_alc (own_at _ _ _ _ _ _ _) (own_alc (own_at _ _ _ _ _ _ _) (own_alc (own_at _ _ _ _ _ _ _) own_aln)))))) rfl (by decide) (by decide)) (g := (mkF m 210 #[.val (.int p0), .val (.int p1), .val (.int p2), .val (.int p3), .val (.long q4), .second, .val (.int (v0_1 p0 p1 p2 p3 q4 w0)), .val (.int (v0_3 p0 p1 p2 p3 q4 w0)), .val (.int (6 : Int32)), .val (.int (v0_6 p0 p1 p2 p3 q4 w0)), .val (.ref b872), .unset, .unset] [(.ref b872), (.ref b964), (.ref b964)])) rfl (by rw [hml]; rfl) (Steps.refl _) (a := b964) (argsL := [(.ref b872)]) (rest := [(.ref b964)]) (lenOf pd___C_V rfl) rfl (by show 2 * 0 + _ ≤ _; exact Nat.le_of_eq rfl) (hb hby at_210) (fun _ _ => ⟨rfl, e964, (by decide : 14 + 1 ≤ _), (by decide : 178 + 6 ≤ _)⟩)
    dsimp only [Pt.U, Pt.locs, Pt.cells, Pt.slots] at X988 l988 y988 z988 st988 hQ988
    replace X988 := own_stand X988 l988 y988 z988
    clear l988 y988 z988
    have N988q := (show _ ∧ _ from hQ988).1
    have hq988 := (show _ ∧ _ from hQ988).2
    clear hQ988
    obtain ⟨xsn_0_988, ksn_1_988, hq988x⟩ := hq988
    have hv988 := hq988x.1
    have szxsn_0_988 := hq988x.2.1
    have K988 := hq988x.2.2.1
    have po988_0 := hq988x.2.2.2.1
    have po988_1 := hq988x.2.2.2.2.1
    have po988_2 := hq988x.2.2.2.2.2.1
    have po988_3 := hq988x.2.2.2.2.2.2
    clear hq988x
    subst hv988
    have k991 := (k965.ext E964)
    have ne992 : w2_V ≠ xsn_0_988 := Nat.ne_of_lt (Nat.lt_of_lt_of_le k991.lt szxsn_0_988)
    have k993 := (k967.ext E964)
    have ne994 : w3_N ≠ xsn_0_988 := Nat.ne_of_lt (Nat.lt_of_lt_of_le k993.lt szxsn_0_988)
    have k995 := (k969.ext E964)
    have ne996 : w4_P ≠ xsn_0_988 := Nat.ne_of_lt (Nat.lt_of_lt_of_le k995.lt szxsn_0_988)
    have k997 := (k971.ext E964)
    have ne998 : w5_L ≠ xsn_0_988 := Nat.ne_of_lt (Nat.lt_of_lt_of_le k997.lt szxsn_0_988)
    have k999 := (k973.ext E964)
    have ne1000 : w6_L ≠ xsn_0_988 := Nat.ne_of_lt (Nat.lt_of_lt_of_le k999.lt szxsn_0_988)
    have k1001 := (k975.ext E964)
    have ne1002 : b872 ≠ xsn_0_988 := Nat.ne_of_lt (Nat.lt_of_lt_of_le k1001.lt szxsn_0_988)
    have ne1003 : b964 ≠ xsn_0_988 := Nat.ne_of_lt (Nat.lt_of_lt_of_le A964.lt szxsn_0_988)
    have k1004 := (k977.ext E964)
    have ne1005 : w7_B ≠ xsn_0_988 := Nat.ne_of_lt (Nat.lt_of_lt_of_le k1004.lt szxsn_0_988)
    have k1006 := (k979.ext E964)
    have ne1007 : w8_B ≠ xsn_0_988 := Nat.ne_of_lt (Nat.lt_of_lt_of_le k1006.lt szxsn_0_988)
    have g1008 : n0 ≤ xsn_0_988 := Nat.le_trans z984 szxsn_0_988
    have sz1009 : h0.size ≤ xsn_0_988 := Nat.le_trans hs985 szxsn_0_988
    have sf1011 := Safe.keep K988 (sfS sf987 sf0) ch983.1 sf987
    have ch1010 := ch983.trans (CHr.keep K988 (sfS sf987 sf0) ch983.1)
    have z1012 : n0 ≤ T988.heap.size := Nat.le_trans z984 K988.1
    have hs1013 : h0.size ≤ T988.heap.size := Nat.le_trans hs985 K988.1
    have hk1014 := Nat.le_trans hk986 K988.1
    have N988 := Fr.app N959 N988q
    obtain ⟨la1015, T1015, h1015, kk1015, lb1015, lk1015, X1015, e1015, E1015, hS1015, hk1015, hZ, hown, Ex1015, Fc1015, Fv1015, V1015, -, -, Cr1015, Lt1015, Sf1015, st1015⟩ := ldcCH (s := s) (vm0 := T951.vm) (EL := consts_1) X988 hx hZ hown (wd hw 9 rfl) (own_ws hw) rfl hS951 hk1014 (own_ew hw) (List.mem_of_getElem? (i := 0) rfl) ch1010.1 (z := (4 : Int32)) (vs := [(.int (110 : Int32)), (.int (111 : Int32)), (.int (110 : Int32)), (.int (101 : Int32))]) ⟨by decide, by rfl⟩ (by decide) rfl (g := (mkF m 220 #[.val (.int p0), .val (.int p1), .val (.int p2), .val (.int p3), .val (.long q4), .second, .val (.int (v0_1 p0 p1 p2 p3 q4 w0)), .val (.int (v0_3 p0 p1 p2 p3 q4 w0)), .val (.int (6 : Int32)), .val (.int (v0_6 p0 p1 p2 p3 q4 w0)), .val (.ref b872), .val (.ref b964), .val .null] [(.ref b964)])) rfl (hb hby at_220) (n := 16) (by decide) (by decide) (by decide) (by decide)
    have sf1016 := Cr1015.safe po988_0.lt sf1011
    have ch1017 := ch1010.trans Cr1015
    have z1018 : n0 ≤ h1015.size := Nat.le_trans z1012 E1015.1
    have hs1019 : h0.size ≤ h1015.size := Nat.le_trans hs1013 E1015.1
    have ne1020 := Sf1015 _ sf1016
    have k1021 := ((((((((((((((((V_w2_V.ext E872).keep K886 nin0).other W894 ne873).keep K899 nin0).other W907 ne873).keep K912 nin0).other W920 ne873).keep K925 nin0).other W933 ne873).keep K938 nin0).other W946 ne873).keep K951 nin0).other W959 ne873).ext E964).keep K988 (ninS ne966 nin0)).ext E1015)
    have k1022 := ((k989.keep K988 (ninS ne976 nin0)).ext E1015)
    have k1024 := (po988_0.ext E1015)
    have k1025 := (po988_1.ext E1015)
    have k1026 := (po988_2.ext E1015)
    have k1027 := (po988_3.ext E1015)
    have O1028 := ((O990.keep K988 (allS g981 all0)).ext E1015)
    obtain ⟨cq1023, kq1023, q1023a, q1023b, q1023c⟩ := isOf hZ e1015 k1024
    obtain ⟨vr1023, _, ⟨T1023, L1023, k1023, n1023⟩, -, X1023, ⟨Lc1023, hQ1023, l1023, y1023, z1023⟩, st1023⟩ := Jvm.Stand.virtualBack X1015 hx (y := (⟨"java/lang/String", "equals", "(Ljava/lang/Object;)Z"⟩ : MethodName)) (z := (⟨"java/lang/String", "equals", "(Ljava/lang/Object;)Z"⟩ : MethodName)) hown (mvT hZ (wd hw 73 rfl)) (mvT hZ (wd hw 74 rfl)) (notFace_of_selects (args := #[]) (mvT hZ (wd hw 76 rfl))) (mvT hZ (wd hw 76 rfl)) (mvT hZ (wd hw 75 rfl)) (by decide) (backOf (W := 0) (rmsqD l Z a0 hw [] b964 la1015 xsn_0_988 (6 : Int32) ([(.int (own_b (v0_50 p0 p1 p2 p3 q4 w0))), (.int (own_b (v0_52 p0 p1 p2 p3 q4 w0))), (.int (own_b (v0_54 p0 p1 p2 p3 q4 w0))), (.int (own_b (v0_56 p0 p1 p2 p3 q4 w0))), (.int (own_b (v0_58 p0 p1 p2 p3 q4 w0))), (.int (own_b (v0_60 p0 p1 p2 p3 q4 w0)))]) ksn_1_988 lb1015 (4 : Int32) ([(.int (110 : Int32)), (.int (111 : Int32)), (.int (110 : Int32)), (.int (101 : Int32))]) lk1015 w0 h1015 n0 z1018 k1024 k1025 k1026 k1027 Ex1015 Fc1015 Fv1015 V1015 ne1020.1 (Sta.ext O1028.2 S_String_COMPACT_STRINGS) hcs (by decide)) hZ (wd hw 77 rfl) (wd hw 10 rfl) (by decide) (by decide)) q1023a q1023c (g := (mkF m 222 #[.val (.int p0), .val (.int p1), .val (.int p2), .val (.int p3), .val (.long q4), .second, .val (.int (v0_1 p0 p1 p2 p3 q4 w0)), .val (.int (v0_3 p0 p1 p2 p3 q4 w0)), .val (.int (6 : Int32)), .val (.int (v0_6 p0 p1 p2 p3 q4 w0)), .val (.ref b872), .val (.ref b964), .val .null] [(.ref la1015), (.ref b964)])) rfl (by rw [hml]; rfl) (Steps.refl _) (argsL := [(.ref la1015)]) (rest := []) (lenOf pd__Ljava_lang_Object__Z rfl) rfl (by show 2 * 0 + _ ≤ _; exact Nat.le_of_eq rfl) (hb hby at_222) (fun _ _ => ⟨rfl, e1015, (by decide : 17 + 0 ≤ _), (by decide : 204 + 0 ≤ _)⟩)
    dsimp only [Pt.U, Pt.locs, Pt.cells, Pt.slots] at X1023 l1023 y1023 z1023 st1023 hQ1023
    replace X1023 := own_stand X1023 l1023 y1023 z1023
    clear l1023 y1023 z1023
    have N1023q := (show _ ∧ _ ∧ _ from hQ1023).1
    have hv1023 := (show _ ∧ _ ∧ _ from hQ1023).2.1
    have e1023 := (show _ ∧ _ ∧ _ from hQ1023).2.2
    clear hQ1023
    subst hv1023
    have N1023 := Fr.app N988 N1023q
    obtain ⟨la1029, T1029, h1029, kk1029, lb1029, lk1029, X1029, e1029, E1029, hS1029, hk1029, hZ, hown, Ex1029, Fc1029, Fv1029, V1029, -, -, Cr1029, Lt1029, Sf1029, st1029⟩ := ldcCH (s := s) (vm0 := T1015.vm) (EL := consts_1) X1023 hx hZ hown (wd hw 82 rfl) (own_ws hw) e1023 hS1015 hk1015 (own_ew hw) (List.mem_of_getElem? (i := 1) rfl) ch1017.1 (z := (6 : Int32)) (vs := [(.int (112 : Int32)), (.int (111 : Int32)), (.int (114 : Int32)), (.int (116 : Int32)), (.int (101 : Int32)), (.int (114 : Int32))]) ⟨by decide, by rfl⟩ (by decide) rfl (g := (mkF m 238 #[.val (.int p0), .val (.int p1), .val (.int p2), .val (.int p3), .val (.long q4), .second, .val (.int (v0_1 p0 p1 p2 p3 q4 w0)), .val (.int (v0_3 p0 p1 p2 p3 q4 w0)), .val (.int (6 : Int32)), .val (.int (v0_6 p0 p1 p2 p3 q4 w0)), .val (.ref b872), .val (.ref b964), .val .null] [(.ref b964)])) rfl (hb hby at_238) (n := 24) (by decide) (by decide) (by decide) (by decide)
    have sf1030 := Cr1029.safe k1024.lt sf1016
    have ch1031 := ch1017.trans Cr1029
    have z1032 : n0 ≤ h1029.size := Nat.le_trans z1018 E1029.1
    have hs1033 : h0.size ≤ h1029.size := Nat.le_trans hs1019 E1029.1
    have ne1034 := Sf1029 _ sf1030
    have k1035 := (k1021.ext E1029)
    have k1036 := (k1022.ext E1029)
    have k1038 := (k1024.ext E1029)
    have k1039 := (k1025.ext E1029)
    have k1040 := (k1026.ext E1029)
    have k1041 := (k1027.ext E1029)
    have O1042 := (O1028.ext E1029)
    obtain ⟨cq1037, kq1037, q1037a, q1037b, q1037c⟩ := isOf hZ e1029 k1038
    obtain ⟨vr1037, _, ⟨T1037, L1037, k1037, n1037⟩, -, X1037, ⟨Lc1037, hQ1037, l1037, y1037, z1037⟩, st1037⟩ := Jvm.Stand.virtualBack X1029 hx (y := (⟨"java/lang/String", "equals", "(Ljava/lang/Object;)Z"⟩ : MethodName)) (z := (⟨"java/lang/String", "equals", "(Ljava/lang/Object;)Z"⟩ : MethodName)) hown (mvT hZ (wd hw 73 rfl)) (mvT hZ (wd hw 74 rfl)) (notFace_of_selects (args := #[]) (mvT hZ (wd hw 76 rfl))) (mvT hZ (wd hw 76 rfl)) (mvT hZ (wd hw 75 rfl)) (by decide) (backOf (W := 0) (rmsq6 l Z a0 hw [] b964 la1029 xsn_0_988 (own_b (v0_50 p0 p1 p2 p3 q4 w0)) (own_b (v0_52 p0 p1 p2 p3 q4 w0)) (own_b (v0_54 p0 p1 p2 p3 q4 w0)) (own_b (v0_56 p0 p1 p2 p3 q4 w0)) (own_b (v0_58 p0 p1 p2 p3 q4 w0)) (own_b (v0_60 p0 p1 p2 p3 q4 w0)) ksn_1_988 lb1029 (112 : Int32) (111 : Int32) (114 : Int32) (116 : Int32) (101 : Int32) (114 : Int32) lk1029 w0 h1029 n0 z1032 k1038 k1039 k1040 k1041 Ex1029 Fc1029 Fv1029 V1029 ne1034.1 (Sta.ext O1042.2 S_String_COMPACT_STRINGS) hcs) hZ (wd hw 77 rfl) (wd hw 10 rfl) (by decide) (by decide)) q1037a q1037c (g := (mkF m 240 #[.val (.int p0), .val (.int p1), .val (.int p2), .val (.int p3), .val (.long q4), .second, .val (.int (v0_1 p0 p1 p2 p3 q4 w0)), .val (.int (v0_3 p0 p1 p2 p3 q4 w0)), .val (.int (6 : Int32)), .val (.int (v0_6 p0 p1 p2 p3 q4 w0)), .val (.ref b872), .val (.ref b964), .val .null] [(.ref la1029), (.ref b964)])) rfl (by rw [hml]; rfl) (Steps.refl _) (argsL := [(.ref la1029)]) (rest := []) (lenOf pd__Ljava_lang_Object__Z rfl) rfl (by show 2 * 0 + _ ≤ _; exact Nat.le_of_eq rfl) (hb hby at_240) (fun _ _ => ⟨rfl, e1029, (by decide : 19 + 0 ≤ _), (by decide : 232 + 0 ≤ _)⟩)
    dsimp only [Pt.U, Pt.locs, Pt.cells, Pt.slots] at X1037 l1037 y1037 z1037 st1037 hQ1037
    replace X1037 := own_stand X1037 l1037 y1037 z1037
    clear l1037 y1037 z1037
    have N1037q := (show _ ∧ _ ∧ _ from hQ1037).1
    have hv1037 := (show _ ∧ _ ∧ _ from hQ1037).2.1
    have e1037 := (show _ ∧ _ ∧ _ from hQ1037).2.2
    clear hQ1037
    subst hv1037
    have N1037 := Fr.app N1023 N1037q
    have pre1043 : ∀ t, Steps p.tables e below (T1037.setTop (mkF m 243 #[.val (.int p0), .val (.int p1), .val (.int p2), .val (.int p3), .val (.long q4), .second, .val (.int (v0_1 p0 p1 p2 p3 q4 w0)), .val (.int (v0_3 p0 p1 p2 p3 q4 w0)), .val (.int (6 : Int32)), .val (.int (v0_6 p0 p1 p2 p3 q4 w0)), .val (.ref b872), .val (.ref b964), .val .null] [(.int (fsq6 (own_b (v0_50 p0 p1 p2 p3 q4 w0)) (own_b (v0_52 p0 p1 p2 p3 q4 w0)) (own_b (v0_54 p0 p1 p2 p3 q4 w0)) (own_b (v0_56 p0 p1 p2 p3 q4 w0)) (own_b (v0_58 p0 p1 p2 p3 q4 w0)) (own_b (v0_60 p0 p1 p2 p3 q4 w0)) (112 : Int32) (111 : Int32) (114 : Int32) (116 : Int32) (101 : Int32) (114 : Int32) w0))])) t → Steps p.tables e below (s₁.setTop (entryFrame m #[(.int p0), (.int p1), (.int p2), (.int p3), (.long q4)] maxLocals)) t := by
      intro t k
      refine pre4 t ?_
      show Steps p.tables e below (s₁.setTop (mkF m 35 #[.val (.int p0), .val (.int p1), .val (.int p2), .val (.int p3), .val (.long q4), .second, .val (.int (v0_1 p0 p1 p2 p3 q4 w0)), .val (.int (v0_3 p0 p1 p2 p3 q4 w0)), .val (.int (6 : Int32)), .val (.int (v0_6 p0 p1 p2 p3 q4 w0)), .unset, .unset, .unset] [])) _
      refine XS.iload X0.here hx rfl (hb hby at_35) rfl ?_
      show Steps p.tables e below (s₁.setTop (mkF m 37 #[.val (.int p0), .val (.int p1), .val (.int p2), .val (.int p3), .val (.long q4), .second, .val (.int (v0_1 p0 p1 p2 p3 q4 w0)), .val (.int (v0_3 p0 p1 p2 p3 q4 w0)), .val (.int (6 : Int32)), .val (.int (v0_6 p0 p1 p2 p3 q4 w0)), .unset, .unset, .unset] [(.int (6 : Int32))])) _
      refine st872 _ ?_
      refine XS.astore X872.here hx rfl (hb hby at_39) rfl rfl (l' := #[.val (.int p0), .val (.int p1), .val (.int p2), .val (.int p3), .val (.long q4), .second, .val (.int (v0_1 p0 p1 p2 p3 q4 w0)), .val (.int (v0_3 p0 p1 p2 p3 q4 w0)), .val (.int (6 : Int32)), .val (.int (v0_6 p0 p1 p2 p3 q4 w0)), .val (.ref b872), .unset, .unset]) rfl ?_
      refine XS.iload X872.here hx rfl (hb hby at_41) rfl ?_
      show Steps p.tables e below (T872.setTop (mkF m 43 #[.val (.int p0), .val (.int p1), .val (.int p2), .val (.int p3), .val (.long q4), .second, .val (.int (v0_1 p0 p1 p2 p3 q4 w0)), .val (.int (v0_3 p0 p1 p2 p3 q4 w0)), .val (.int (6 : Int32)), .val (.int (v0_6 p0 p1 p2 p3 q4 w0)), .val (.ref b872), .unset, .unset] [(.int (6 : Int32))])) _
      refine XS.ifNo X872.here hx rfl (hb hby at_43) rfl (XT.i0_le_f (by decide)) ?_
      refine XS.aload X872.here hx rfl (hb hby at_46) rfl rfl ?_
      refine XT.iconstV X872.here hx rfl (0 : Int32) (hb hby at_48) (by decide) ?_
      refine XS.iload X872.here hx rfl (hb hby at_49) rfl ?_
      show Steps p.tables e below (T872.setTop (mkF m 51 #[.val (.int p0), .val (.int p1), .val (.int p2), .val (.int p3), .val (.long q4), .second, .val (.int (v0_1 p0 p1 p2 p3 q4 w0)), .val (.int (v0_3 p0 p1 p2 p3 q4 w0)), .val (.int (6 : Int32)), .val (.int (v0_6 p0 p1 p2 p3 q4 w0)), .val (.ref b872), .unset, .unset] [(.int (v0_1 p0 p1 p2 p3 q4 w0)), (.int (0 : Int32)), (.ref b872)])) _
      refine XT.iconstV X872.here hx rfl (0 : Int32) (hb hby at_51) (by decide) ?_
      refine XT.lload X872.here hx rfl (hb hby at_52) rfl ?_
      refine XS.iload X872.here hx rfl (hb hby at_54) rfl ?_
      refine XS.iload X872.here hx rfl (hb hby at_56) rfl ?_
      show Steps p.tables e below (T872.setTop (mkF m 58 #[.val (.int p0), .val (.int p1), .val (.int p2), .val (.int p3), .val (.long q4), .second, .val (.int (v0_1 p0 p1 p2 p3 q4 w0)), .val (.int (v0_3 p0 p1 p2 p3 q4 w0)), .val (.int (6 : Int32)), .val (.int (v0_6 p0 p1 p2 p3 q4 w0)), .val (.ref b872), .unset, .unset] [(.int (v0_6 p0 p1 p2 p3 q4 w0)), (.int (v0_3 p0 p1 p2 p3 q4 w0)), (.long q4), (.int (0 : Int32)), (.int (v0_1 p0 p1 p2 p3 q4 w0)), (.int (0 : Int32)), (.ref b872)])) _
      refine XS.iloadN X872.here hx rfl (hb hby at_58) rfl ?_
      show Steps p.tables e below (T872.setTop (mkF m 59 #[.val (.int p0), .val (.int p1), .val (.int p2), .val (.int p3), .val (.long q4), .second, .val (.int (v0_1 p0 p1 p2 p3 q4 w0)), .val (.int (v0_3 p0 p1 p2 p3 q4 w0)), .val (.int (6 : Int32)), .val (.int (v0_6 p0 p1 p2 p3 q4 w0)), .val (.ref b872), .unset, .unset] [(.int p3), (.int (v0_6 p0 p1 p2 p3 q4 w0)), (.int (v0_3 p0 p1 p2 p3 q4 w0)), (.long q4), (.int (0 : Int32)), (.int (v0_1 p0 p1 p2 p3 q4 w0)), (.int (0 : Int32)), (.ref b872)])) _
      refine st886.trans ?_
      show Steps p.tables e below (T886.setTop (mkF m 62 #[.val (.int p0), .val (.int p1), .val (.int p2), .val (.int p3), .val (.long q4), .second, .val (.int (v0_1 p0 p1 p2 p3 q4 w0)), .val (.int (v0_3 p0 p1 p2 p3 q4 w0)), .val (.int (6 : Int32)), .val (.int (v0_6 p0 p1 p2 p3 q4 w0)), .val (.ref b872), .unset, .unset] [(.int (f1 (v0_1 p0 p1 p2 p3 q4 w0) (0 : Int32) q4 (v0_3 p0 p1 p2 p3 q4 w0) (v0_6 p0 p1 p2 p3 q4 w0) p3 w0)), (.int (0 : Int32)), (.ref b872)])) _
      refine st894 _ ?_
      refine XS.iload X894.here hx rfl (hb hby at_63) rfl ?_
      refine XT.iconstV X894.here hx rfl (1 : Int32) (hb hby at_65) (by decide) ?_
      show Steps p.tables e below (T894.setTop (mkF m 66 #[.val (.int p0), .val (.int p1), .val (.int p2), .val (.int p3), .val (.long q4), .second, .val (.int (v0_1 p0 p1 p2 p3 q4 w0)), .val (.int (v0_3 p0 p1 p2 p3 q4 w0)), .val (.int (6 : Int32)), .val (.int (v0_6 p0 p1 p2 p3 q4 w0)), .val (.ref b872), .unset, .unset] [(.int (1 : Int32)), (.int (6 : Int32))])) _
      refine XS.icmpNo X894.here hx rfl (hb hby at_66) rfl (XT.ii_le_f (by decide)) ?_
      refine XS.aload X894.here hx rfl (hb hby at_69) rfl rfl ?_
      refine XT.iconstV X894.here hx rfl (1 : Int32) (hb hby at_71) (by decide) ?_
      refine XS.iload X894.here hx rfl (hb hby at_72) rfl ?_
      show Steps p.tables e below (T894.setTop (mkF m 74 #[.val (.int p0), .val (.int p1), .val (.int p2), .val (.int p3), .val (.long q4), .second, .val (.int (v0_1 p0 p1 p2 p3 q4 w0)), .val (.int (v0_3 p0 p1 p2 p3 q4 w0)), .val (.int (6 : Int32)), .val (.int (v0_6 p0 p1 p2 p3 q4 w0)), .val (.ref b872), .unset, .unset] [(.int (v0_1 p0 p1 p2 p3 q4 w0)), (.int (1 : Int32)), (.ref b872)])) _
      refine XT.iconstV X894.here hx rfl (1 : Int32) (hb hby at_74) (by decide) ?_
      refine XT.lload X894.here hx rfl (hb hby at_75) rfl ?_
      refine XS.iload X894.here hx rfl (hb hby at_77) rfl ?_
      refine XS.iload X894.here hx rfl (hb hby at_79) rfl ?_
      show Steps p.tables e below (T894.setTop (mkF m 81 #[.val (.int p0), .val (.int p1), .val (.int p2), .val (.int p3), .val (.long q4), .second, .val (.int (v0_1 p0 p1 p2 p3 q4 w0)), .val (.int (v0_3 p0 p1 p2 p3 q4 w0)), .val (.int (6 : Int32)), .val (.int (v0_6 p0 p1 p2 p3 q4 w0)), .val (.ref b872), .unset, .unset] [(.int (v0_6 p0 p1 p2 p3 q4 w0)), (.int (v0_3 p0 p1 p2 p3 q4 w0)), (.long q4), (.int (1 : Int32)), (.int (v0_1 p0 p1 p2 p3 q4 w0)), (.int (1 : Int32)), (.ref b872)])) _
      refine XS.iloadN X894.here hx rfl (hb hby at_81) rfl ?_
      show Steps p.tables e below (T894.setTop (mkF m 82 #[.val (.int p0), .val (.int p1), .val (.int p2), .val (.int p3), .val (.long q4), .second, .val (.int (v0_1 p0 p1 p2 p3 q4 w0)), .val (.int (v0_3 p0 p1 p2 p3 q4 w0)), .val (.int (6 : Int32)), .val (.int (v0_6 p0 p1 p2 p3 q4 w0)), .val (.ref b872), .unset, .unset] [(.int p3), (.int (v0_6 p0 p1 p2 p3 q4 w0)), (.int (v0_3 p0 p1 p2 p3 q4 w0)), (.long q4), (.int (1 : Int32)), (.int (v0_1 p0 p1 p2 p3 q4 w0)), (.int (1 : Int32)), (.ref b872)])) _
      refine st899.trans ?_
      show Steps p.tables e below (T899.setTop (mkF m 85 #[.val (.int p0), .val (.int p1), .val (.int p2), .val (.int p3), .val (.long q4), .second, .val (.int (v0_1 p0 p1 p2 p3 q4 w0)), .val (.int (v0_3 p0 p1 p2 p3 q4 w0)), .val (.int (6 : Int32)), .val (.int (v0_6 p0 p1 p2 p3 q4 w0)), .val (.ref b872), .unset, .unset] [(.int (f1 (v0_1 p0 p1 p2 p3 q4 w0) (1 : Int32) q4 (v0_3 p0 p1 p2 p3 q4 w0) (v0_6 p0 p1 p2 p3 q4 w0) p3 w0)), (.int (1 : Int32)), (.ref b872)])) _
      refine st907 _ ?_
      refine XS.iload X907.here hx rfl (hb hby at_86) rfl ?_
      refine XT.iconstV X907.here hx rfl (2 : Int32) (hb hby at_88) (by decide) ?_
      show Steps p.tables e below (T907.setTop (mkF m 89 #[.val (.int p0), .val (.int p1), .val (.int p2), .val (.int p3), .val (.long q4), .second, .val (.int (v0_1 p0 p1 p2 p3 q4 w0)), .val (.int (v0_3 p0 p1 p2 p3 q4 w0)), .val (.int (6 : Int32)), .val (.int (v0_6 p0 p1 p2 p3 q4 w0)), .val (.ref b872), .unset, .unset] [(.int (2 : Int32)), (.int (6 : Int32))])) _
      refine XS.icmpNo X907.here hx rfl (hb hby at_89) rfl (XT.ii_le_f (by decide)) ?_
      refine XS.aload X907.here hx rfl (hb hby at_92) rfl rfl ?_
      refine XT.iconstV X907.here hx rfl (2 : Int32) (hb hby at_94) (by decide) ?_
      refine XS.iload X907.here hx rfl (hb hby at_95) rfl ?_
      show Steps p.tables e below (T907.setTop (mkF m 97 #[.val (.int p0), .val (.int p1), .val (.int p2), .val (.int p3), .val (.long q4), .second, .val (.int (v0_1 p0 p1 p2 p3 q4 w0)), .val (.int (v0_3 p0 p1 p2 p3 q4 w0)), .val (.int (6 : Int32)), .val (.int (v0_6 p0 p1 p2 p3 q4 w0)), .val (.ref b872), .unset, .unset] [(.int (v0_1 p0 p1 p2 p3 q4 w0)), (.int (2 : Int32)), (.ref b872)])) _
      refine XT.iconstV X907.here hx rfl (2 : Int32) (hb hby at_97) (by decide) ?_
      refine XT.lload X907.here hx rfl (hb hby at_98) rfl ?_
      refine XS.iload X907.here hx rfl (hb hby at_100) rfl ?_
      refine XS.iload X907.here hx rfl (hb hby at_102) rfl ?_
      show Steps p.tables e below (T907.setTop (mkF m 104 #[.val (.int p0), .val (.int p1), .val (.int p2), .val (.int p3), .val (.long q4), .second, .val (.int (v0_1 p0 p1 p2 p3 q4 w0)), .val (.int (v0_3 p0 p1 p2 p3 q4 w0)), .val (.int (6 : Int32)), .val (.int (v0_6 p0 p1 p2 p3 q4 w0)), .val (.ref b872), .unset, .unset] [(.int (v0_6 p0 p1 p2 p3 q4 w0)), (.int (v0_3 p0 p1 p2 p3 q4 w0)), (.long q4), (.int (2 : Int32)), (.int (v0_1 p0 p1 p2 p3 q4 w0)), (.int (2 : Int32)), (.ref b872)])) _
      refine XS.iloadN X907.here hx rfl (hb hby at_104) rfl ?_
      show Steps p.tables e below (T907.setTop (mkF m 105 #[.val (.int p0), .val (.int p1), .val (.int p2), .val (.int p3), .val (.long q4), .second, .val (.int (v0_1 p0 p1 p2 p3 q4 w0)), .val (.int (v0_3 p0 p1 p2 p3 q4 w0)), .val (.int (6 : Int32)), .val (.int (v0_6 p0 p1 p2 p3 q4 w0)), .val (.ref b872), .unset, .unset] [(.int p3), (.int (v0_6 p0 p1 p2 p3 q4 w0)), (.int (v0_3 p0 p1 p2 p3 q4 w0)), (.long q4), (.int (2 : Int32)), (.int (v0_1 p0 p1 p2 p3 q4 w0)), (.int (2 : Int32)), (.ref b872)])) _
      refine st912.trans ?_
      show Steps p.tables e below (T912.setTop (mkF m 108 #[.val (.int p0), .val (.int p1), .val (.int p2), .val (.int p3), .val (.long q4), .second, .val (.int (v0_1 p0 p1 p2 p3 q4 w0)), .val (.int (v0_3 p0 p1 p2 p3 q4 w0)), .val (.int (6 : Int32)), .val (.int (v0_6 p0 p1 p2 p3 q4 w0)), .val (.ref b872), .unset, .unset] [(.int (f1 (v0_1 p0 p1 p2 p3 q4 w0) (2 : Int32) q4 (v0_3 p0 p1 p2 p3 q4 w0) (v0_6 p0 p1 p2 p3 q4 w0) p3 w0)), (.int (2 : Int32)), (.ref b872)])) _
      refine st920 _ ?_
      refine XS.iload X920.here hx rfl (hb hby at_109) rfl ?_
      refine XT.iconstV X920.here hx rfl (3 : Int32) (hb hby at_111) (by decide) ?_
      show Steps p.tables e below (T920.setTop (mkF m 112 #[.val (.int p0), .val (.int p1), .val (.int p2), .val (.int p3), .val (.long q4), .second, .val (.int (v0_1 p0 p1 p2 p3 q4 w0)), .val (.int (v0_3 p0 p1 p2 p3 q4 w0)), .val (.int (6 : Int32)), .val (.int (v0_6 p0 p1 p2 p3 q4 w0)), .val (.ref b872), .unset, .unset] [(.int (3 : Int32)), (.int (6 : Int32))])) _
      refine XS.icmpNo X920.here hx rfl (hb hby at_112) rfl (XT.ii_le_f (by decide)) ?_
      refine XS.aload X920.here hx rfl (hb hby at_115) rfl rfl ?_
      refine XT.iconstV X920.here hx rfl (3 : Int32) (hb hby at_117) (by decide) ?_
      refine XS.iload X920.here hx rfl (hb hby at_118) rfl ?_
      show Steps p.tables e below (T920.setTop (mkF m 120 #[.val (.int p0), .val (.int p1), .val (.int p2), .val (.int p3), .val (.long q4), .second, .val (.int (v0_1 p0 p1 p2 p3 q4 w0)), .val (.int (v0_3 p0 p1 p2 p3 q4 w0)), .val (.int (6 : Int32)), .val (.int (v0_6 p0 p1 p2 p3 q4 w0)), .val (.ref b872), .unset, .unset] [(.int (v0_1 p0 p1 p2 p3 q4 w0)), (.int (3 : Int32)), (.ref b872)])) _
      refine XT.iconstV X920.here hx rfl (3 : Int32) (hb hby at_120) (by decide) ?_
      refine XT.lload X920.here hx rfl (hb hby at_121) rfl ?_
      refine XS.iload X920.here hx rfl (hb hby at_123) rfl ?_
      refine XS.iload X920.here hx rfl (hb hby at_125) rfl ?_
      show Steps p.tables e below (T920.setTop (mkF m 127 #[.val (.int p0), .val (.int p1), .val (.int p2), .val (.int p3), .val (.long q4), .second, .val (.int (v0_1 p0 p1 p2 p3 q4 w0)), .val (.int (v0_3 p0 p1 p2 p3 q4 w0)), .val (.int (6 : Int32)), .val (.int (v0_6 p0 p1 p2 p3 q4 w0)), .val (.ref b872), .unset, .unset] [(.int (v0_6 p0 p1 p2 p3 q4 w0)), (.int (v0_3 p0 p1 p2 p3 q4 w0)), (.long q4), (.int (3 : Int32)), (.int (v0_1 p0 p1 p2 p3 q4 w0)), (.int (3 : Int32)), (.ref b872)])) _
      refine XS.iloadN X920.here hx rfl (hb hby at_127) rfl ?_
      show Steps p.tables e below (T920.setTop (mkF m 128 #[.val (.int p0), .val (.int p1), .val (.int p2), .val (.int p3), .val (.long q4), .second, .val (.int (v0_1 p0 p1 p2 p3 q4 w0)), .val (.int (v0_3 p0 p1 p2 p3 q4 w0)), .val (.int (6 : Int32)), .val (.int (v0_6 p0 p1 p2 p3 q4 w0)), .val (.ref b872), .unset, .unset] [(.int p3), (.int (v0_6 p0 p1 p2 p3 q4 w0)), (.int (v0_3 p0 p1 p2 p3 q4 w0)), (.long q4), (.int (3 : Int32)), (.int (v0_1 p0 p1 p2 p3 q4 w0)), (.int (3 : Int32)), (.ref b872)])) _
      refine st925.trans ?_
      show Steps p.tables e below (T925.setTop (mkF m 131 #[.val (.int p0), .val (.int p1), .val (.int p2), .val (.int p3), .val (.long q4), .second, .val (.int (v0_1 p0 p1 p2 p3 q4 w0)), .val (.int (v0_3 p0 p1 p2 p3 q4 w0)), .val (.int (6 : Int32)), .val (.int (v0_6 p0 p1 p2 p3 q4 w0)), .val (.ref b872), .unset, .unset] [(.int (f1 (v0_1 p0 p1 p2 p3 q4 w0) (3 : Int32) q4 (v0_3 p0 p1 p2 p3 q4 w0) (v0_6 p0 p1 p2 p3 q4 w0) p3 w0)), (.int (3 : Int32)), (.ref b872)])) _
      refine st933 _ ?_
      refine XS.iload X933.here hx rfl (hb hby at_132) rfl ?_
      refine XT.iconstV X933.here hx rfl (4 : Int32) (hb hby at_134) (by decide) ?_
      show Steps p.tables e below (T933.setTop (mkF m 135 #[.val (.int p0), .val (.int p1), .val (.int p2), .val (.int p3), .val (.long q4), .second, .val (.int (v0_1 p0 p1 p2 p3 q4 w0)), .val (.int (v0_3 p0 p1 p2 p3 q4 w0)), .val (.int (6 : Int32)), .val (.int (v0_6 p0 p1 p2 p3 q4 w0)), .val (.ref b872), .unset, .unset] [(.int (4 : Int32)), (.int (6 : Int32))])) _
      refine XS.icmpNo X933.here hx rfl (hb hby at_135) rfl (XT.ii_le_f (by decide)) ?_
      refine XS.aload X933.here hx rfl (hb hby at_138) rfl rfl ?_
      refine XT.iconstV X933.here hx rfl (4 : Int32) (hb hby at_140) (by decide) ?_
      refine XS.iload X933.here hx rfl (hb hby at_141) rfl ?_
      show Steps p.tables e below (T933.setTop (mkF m 143 #[.val (.int p0), .val (.int p1), .val (.int p2), .val (.int p3), .val (.long q4), .second, .val (.int (v0_1 p0 p1 p2 p3 q4 w0)), .val (.int (v0_3 p0 p1 p2 p3 q4 w0)), .val (.int (6 : Int32)), .val (.int (v0_6 p0 p1 p2 p3 q4 w0)), .val (.ref b872), .unset, .unset] [(.int (v0_1 p0 p1 p2 p3 q4 w0)), (.int (4 : Int32)), (.ref b872)])) _
      refine XT.iconstV X933.here hx rfl (4 : Int32) (hb hby at_143) (by decide) ?_
      refine XT.lload X933.here hx rfl (hb hby at_144) rfl ?_
      refine XS.iload X933.here hx rfl (hb hby at_146) rfl ?_
      refine XS.iload X933.here hx rfl (hb hby at_148) rfl ?_
      show Steps p.tables e below (T933.setTop (mkF m 150 #[.val (.int p0), .val (.int p1), .val (.int p2), .val (.int p3), .val (.long q4), .second, .val (.int (v0_1 p0 p1 p2 p3 q4 w0)), .val (.int (v0_3 p0 p1 p2 p3 q4 w0)), .val (.int (6 : Int32)), .val (.int (v0_6 p0 p1 p2 p3 q4 w0)), .val (.ref b872), .unset, .unset] [(.int (v0_6 p0 p1 p2 p3 q4 w0)), (.int (v0_3 p0 p1 p2 p3 q4 w0)), (.long q4), (.int (4 : Int32)), (.int (v0_1 p0 p1 p2 p3 q4 w0)), (.int (4 : Int32)), (.ref b872)])) _
      refine XS.iloadN X933.here hx rfl (hb hby at_150) rfl ?_
      show Steps p.tables e below (T933.setTop (mkF m 151 #[.val (.int p0), .val (.int p1), .val (.int p2), .val (.int p3), .val (.long q4), .second, .val (.int (v0_1 p0 p1 p2 p3 q4 w0)), .val (.int (v0_3 p0 p1 p2 p3 q4 w0)), .val (.int (6 : Int32)), .val (.int (v0_6 p0 p1 p2 p3 q4 w0)), .val (.ref b872), .unset, .unset] [(.int p3), (.int (v0_6 p0 p1 p2 p3 q4 w0)), (.int (v0_3 p0 p1 p2 p3 q4 w0)), (.long q4), (.int (4 : Int32)), (.int (v0_1 p0 p1 p2 p3 q4 w0)), (.int (4 : Int32)), (.ref b872)])) _
      refine st938.trans ?_
      show Steps p.tables e below (T938.setTop (mkF m 154 #[.val (.int p0), .val (.int p1), .val (.int p2), .val (.int p3), .val (.long q4), .second, .val (.int (v0_1 p0 p1 p2 p3 q4 w0)), .val (.int (v0_3 p0 p1 p2 p3 q4 w0)), .val (.int (6 : Int32)), .val (.int (v0_6 p0 p1 p2 p3 q4 w0)), .val (.ref b872), .unset, .unset] [(.int (f1 (v0_1 p0 p1 p2 p3 q4 w0) (4 : Int32) q4 (v0_3 p0 p1 p2 p3 q4 w0) (v0_6 p0 p1 p2 p3 q4 w0) p3 w0)), (.int (4 : Int32)), (.ref b872)])) _
      refine st946 _ ?_
      refine XS.iload X946.here hx rfl (hb hby at_155) rfl ?_
      refine XT.iconstV X946.here hx rfl (5 : Int32) (hb hby at_157) (by decide) ?_
      show Steps p.tables e below (T946.setTop (mkF m 158 #[.val (.int p0), .val (.int p1), .val (.int p2), .val (.int p3), .val (.long q4), .second, .val (.int (v0_1 p0 p1 p2 p3 q4 w0)), .val (.int (v0_3 p0 p1 p2 p3 q4 w0)), .val (.int (6 : Int32)), .val (.int (v0_6 p0 p1 p2 p3 q4 w0)), .val (.ref b872), .unset, .unset] [(.int (5 : Int32)), (.int (6 : Int32))])) _
      refine XS.icmpNo X946.here hx rfl (hb hby at_158) rfl (XT.ii_le_f (by decide)) ?_
      refine XS.aload X946.here hx rfl (hb hby at_161) rfl rfl ?_
      refine XT.iconstV X946.here hx rfl (5 : Int32) (hb hby at_163) (by decide) ?_
      refine XS.iload X946.here hx rfl (hb hby at_164) rfl ?_
      show Steps p.tables e below (T946.setTop (mkF m 166 #[.val (.int p0), .val (.int p1), .val (.int p2), .val (.int p3), .val (.long q4), .second, .val (.int (v0_1 p0 p1 p2 p3 q4 w0)), .val (.int (v0_3 p0 p1 p2 p3 q4 w0)), .val (.int (6 : Int32)), .val (.int (v0_6 p0 p1 p2 p3 q4 w0)), .val (.ref b872), .unset, .unset] [(.int (v0_1 p0 p1 p2 p3 q4 w0)), (.int (5 : Int32)), (.ref b872)])) _
      refine XT.iconstV X946.here hx rfl (5 : Int32) (hb hby at_166) (by decide) ?_
      refine XT.lload X946.here hx rfl (hb hby at_167) rfl ?_
      refine XS.iload X946.here hx rfl (hb hby at_169) rfl ?_
      refine XS.iload X946.here hx rfl (hb hby at_171) rfl ?_
      show Steps p.tables e below (T946.setTop (mkF m 173 #[.val (.int p0), .val (.int p1), .val (.int p2), .val (.int p3), .val (.long q4), .second, .val (.int (v0_1 p0 p1 p2 p3 q4 w0)), .val (.int (v0_3 p0 p1 p2 p3 q4 w0)), .val (.int (6 : Int32)), .val (.int (v0_6 p0 p1 p2 p3 q4 w0)), .val (.ref b872), .unset, .unset] [(.int (v0_6 p0 p1 p2 p3 q4 w0)), (.int (v0_3 p0 p1 p2 p3 q4 w0)), (.long q4), (.int (5 : Int32)), (.int (v0_1 p0 p1 p2 p3 q4 w0)), (.int (5 : Int32)), (.ref b872)])) _
      refine XS.iloadN X946.here hx rfl (hb hby at_173) rfl ?_
      show Steps p.tables e below (T946.setTop (mkF m 174 #[.val (.int p0), .val (.int p1), .val (.int p2), .val (.int p3), .val (.long q4), .second, .val (.int (v0_1 p0 p1 p2 p3 q4 w0)), .val (.int (v0_3 p0 p1 p2 p3 q4 w0)), .val (.int (6 : Int32)), .val (.int (v0_6 p0 p1 p2 p3 q4 w0)), .val (.ref b872), .unset, .unset] [(.int p3), (.int (v0_6 p0 p1 p2 p3 q4 w0)), (.int (v0_3 p0 p1 p2 p3 q4 w0)), (.long q4), (.int (5 : Int32)), (.int (v0_1 p0 p1 p2 p3 q4 w0)), (.int (5 : Int32)), (.ref b872)])) _
      refine st951.trans ?_
      show Steps p.tables e below (T951.setTop (mkF m 177 #[.val (.int p0), .val (.int p1), .val (.int p2), .val (.int p3), .val (.long q4), .second, .val (.int (v0_1 p0 p1 p2 p3 q4 w0)), .val (.int (v0_3 p0 p1 p2 p3 q4 w0)), .val (.int (6 : Int32)), .val (.int (v0_6 p0 p1 p2 p3 q4 w0)), .val (.ref b872), .unset, .unset] [(.int (f1 (v0_1 p0 p1 p2 p3 q4 w0) (5 : Int32) q4 (v0_3 p0 p1 p2 p3 q4 w0) (v0_6 p0 p1 p2 p3 q4 w0) p3 w0)), (.int (5 : Int32)), (.ref b872)])) _
      refine st959 _ ?_
      refine XS.iload X959.here hx rfl (hb hby at_178) rfl ?_
      refine XT.bipushV X959.here hx rfl (6 : Int32) (hb hby at_180) (by decide) ?_
      show Steps p.tables e below (T959.setTop (mkF m 182 #[.val (.int p0), .val (.int p1), .val (.int p2), .val (.int p3), .val (.long q4), .second, .val (.int (v0_1 p0 p1 p2 p3 q4 w0)), .val (.int (v0_3 p0 p1 p2 p3 q4 w0)), .val (.int (6 : Int32)), .val (.int (v0_6 p0 p1 p2 p3 q4 w0)), .val (.ref b872), .unset, .unset] [(.int (6 : Int32)), (.int (6 : Int32))])) _
      refine XS.icmpYes X959.here hx rfl (pc0 := 182) (pc' := 204) rfl (hb hby at_182) rfl (XT.ii_le_t (by decide)) (by decide) (by decide) ?_
      show Steps p.tables e below (T959.setTop (mkF m 204 #[.val (.int p0), .val (.int p1), .val (.int p2), .val (.int p3), .val (.long q4), .second, .val (.int (v0_1 p0 p1 p2 p3 q4 w0)), .val (.int (v0_3 p0 p1 p2 p3 q4 w0)), .val (.int (6 : Int32)), .val (.int (v0_6 p0 p1 p2 p3 q4 w0)), .val (.ref b872), .unset, .unset] [])) _
      refine st964 _ ?_
      refine XS.dup X964.here hx rfl (hb hby at_207) rfl rfl ?_
      refine XS.aload X964.here hx rfl (hb hby at_208) rfl rfl ?_
      show Steps p.tables e below (T964.setTop (mkF m 210 #[.val (.int p0), .val (.int p1), .val (.int p2), .val (.int p3), .val (.long q4), .second, .val (.int (v0_1 p0 p1 p2 p3 q4 w0)), .val (.int (v0_3 p0 p1 p2 p3 q4 w0)), .val (.int (6 : Int32)), .val (.int (v0_6 p0 p1 p2 p3 q4 w0)), .val (.ref b872), .unset, .unset] [(.ref b872), (.ref b964), (.ref b964)])) _
      refine st988.trans ?_
      refine XS.astore X988.here hx rfl (hb hby at_213) rfl rfl (l' := #[.val (.int p0), .val (.int p1), .val (.int p2), .val (.int p3), .val (.long q4), .second, .val (.int (v0_1 p0 p1 p2 p3 q4 w0)), .val (.int (v0_3 p0 p1 p2 p3 q4 w0)), .val (.int (6 : Int32)), .val (.int (v0_6 p0 p1 p2 p3 q4 w0)), .val (.ref b872), .val (.ref b964), .unset]) rfl ?_
      show Steps p.tables e below (T988.setTop (mkF m 215 #[.val (.int p0), .val (.int p1), .val (.int p2), .val (.int p3), .val (.long q4), .second, .val (.int (v0_1 p0 p1 p2 p3 q4 w0)), .val (.int (v0_3 p0 p1 p2 p3 q4 w0)), .val (.int (6 : Int32)), .val (.int (v0_6 p0 p1 p2 p3 q4 w0)), .val (.ref b872), .val (.ref b964), .unset] [])) _
      refine XS.aconstNull X988.here hx rfl (hb hby at_215) ?_
      refine XS.astore X988.here hx rfl (hb hby at_216) rfl rfl (l' := #[.val (.int p0), .val (.int p1), .val (.int p2), .val (.int p3), .val (.long q4), .second, .val (.int (v0_1 p0 p1 p2 p3 q4 w0)), .val (.int (v0_3 p0 p1 p2 p3 q4 w0)), .val (.int (6 : Int32)), .val (.int (v0_6 p0 p1 p2 p3 q4 w0)), .val (.ref b872), .val (.ref b964), .val .null]) rfl ?_
      refine XS.aload X988.here hx rfl (hb hby at_218) rfl rfl ?_
      show Steps p.tables e below (T988.setTop (mkF m 220 #[.val (.int p0), .val (.int p1), .val (.int p2), .val (.int p3), .val (.long q4), .second, .val (.int (v0_1 p0 p1 p2 p3 q4 w0)), .val (.int (v0_3 p0 p1 p2 p3 q4 w0)), .val (.int (6 : Int32)), .val (.int (v0_6 p0 p1 p2 p3 q4 w0)), .val (.ref b872), .val (.ref b964), .val .null] [(.ref b964)])) _
      refine st1015 _ ?_
      show Steps p.tables e below (T1015.setTop (mkF m 222 #[.val (.int p0), .val (.int p1), .val (.int p2), .val (.int p3), .val (.long q4), .second, .val (.int (v0_1 p0 p1 p2 p3 q4 w0)), .val (.int (v0_3 p0 p1 p2 p3 q4 w0)), .val (.int (6 : Int32)), .val (.int (v0_6 p0 p1 p2 p3 q4 w0)), .val (.ref b872), .val (.ref b964), .val .null] [(.ref la1015), (.ref b964)])) _
      refine st1023.trans ?_
      show Steps p.tables e below (T1023.setTop (mkF m 225 #[.val (.int p0), .val (.int p1), .val (.int p2), .val (.int p3), .val (.long q4), .second, .val (.int (v0_1 p0 p1 p2 p3 q4 w0)), .val (.int (v0_3 p0 p1 p2 p3 q4 w0)), .val (.int (6 : Int32)), .val (.int (v0_6 p0 p1 p2 p3 q4 w0)), .val (.ref b872), .val (.ref b964), .val .null] [(.int (fsqD (6 : Int32) (4 : Int32) w0))])) _
      refine XS.ifYes X1023.here hx rfl (pc0 := 225) (pc' := 236) rfl (hb hby at_225) rfl (XT.i0_eq_t rfl) (by decide) (by decide) ?_
      refine XS.aload X1023.here hx rfl (hb hby at_236) rfl rfl ?_
      show Steps p.tables e below (T1023.setTop (mkF m 238 #[.val (.int p0), .val (.int p1), .val (.int p2), .val (.int p3), .val (.long q4), .second, .val (.int (v0_1 p0 p1 p2 p3 q4 w0)), .val (.int (v0_3 p0 p1 p2 p3 q4 w0)), .val (.int (6 : Int32)), .val (.int (v0_6 p0 p1 p2 p3 q4 w0)), .val (.ref b872), .val (.ref b964), .val .null] [(.ref b964)])) _
      refine st1029 _ ?_
      show Steps p.tables e below (T1029.setTop (mkF m 240 #[.val (.int p0), .val (.int p1), .val (.int p2), .val (.int p3), .val (.long q4), .second, .val (.int (v0_1 p0 p1 p2 p3 q4 w0)), .val (.int (v0_3 p0 p1 p2 p3 q4 w0)), .val (.int (6 : Int32)), .val (.int (v0_6 p0 p1 p2 p3 q4 w0)), .val (.ref b872), .val (.ref b964), .val .null] [(.ref la1029), (.ref b964)])) _
      refine st1037.trans ?_
      exact k
    clear pre4 st872 st886 st894 st899 st907 st912 st920 st925 st933 st938 st946 st951 st959 st964 st988 st1015 st1023 st1029 st1037
    by_cases c1044 : (v0_62 p0 p1 p2 p3 q4 w0) = (0 : Int32)
    · skip
      have k1046 := (((k991.keep K988).ext E1015).ext E1029)
      have k1047 := (((k993.keep K988).ext E1015).ext E1029)
      have k1048 := (((k995.keep K988).ext E1015).ext E1029)
      have k1049 := (((((((((((((((((F_label_w3_N.ext E872).keep K886 nin0).other W894 (Or.inl ne874)).keep K899 nin0).other W907 (Or.inl ne874)).keep K912 nin0).other W920 (Or.inl ne874)).keep K925 nin0).other W933 (Or.inl ne874)).keep K938 nin0).other W946 (Or.inl ne874)).keep K951 nin0).other W959 (Or.inl ne874)).ext E964).keep K988 (ninS ne968 nin0)).ext E1015).ext E1029)
      have k1050 := (((((((((((((((((F_label_w4_P.ext E872).keep K886 nin0).other W894 (Or.inl ne875)).keep K899 nin0).other W907 (Or.inl ne875)).keep K912 nin0).other W920 (Or.inl ne875)).keep K925 nin0).other W933 (Or.inl ne875)).keep K938 nin0).other W946 (Or.inl ne875)).keep K951 nin0).other W959 (Or.inl ne875)).ext E964).keep K988 (ninS ne970 nin0)).ext E1015).ext E1029)
      have k1051 := (((k997.keep K988).ext E1015).ext E1029)
      have k1052 := (((((((((((((((((F_coder_w5_L.ext E872).keep K886 nin0).other W894 (Or.inl ne876)).keep K899 nin0).other W907 (Or.inl ne876)).keep K912 nin0).other W920 (Or.inl ne876)).keep K925 nin0).other W933 (Or.inl ne876)).keep K938 nin0).other W946 (Or.inl ne876)).keep K951 nin0).other W959 (Or.inl ne876)).ext E964).keep K988 (ninS ne972 nin0)).ext E1015).ext E1029)
      have k1053 := (((((((((((((((((F_value_w5_L.ext E872).keep K886 nin0).other W894 (Or.inl ne876)).keep K899 nin0).other W907 (Or.inl ne876)).keep K912 nin0).other W920 (Or.inl ne876)).keep K925 nin0).other W933 (Or.inl ne876)).keep K938 nin0).other W946 (Or.inl ne876)).keep K951 nin0).other W959 (Or.inl ne876)).ext E964).keep K988 (ninS ne972 nin0)).ext E1015).ext E1029)
      have k1054 := (((k1004.keep K988 (ninS ne978 nin0)).ext E1015).ext E1029)
      have k1055 := (((k999.keep K988).ext E1015).ext E1029)
      have k1056 := (((((((((((((((((F_coder_w6_L.ext E872).keep K886 nin0).other W894 (Or.inl ne877)).keep K899 nin0).other W907 (Or.inl ne877)).keep K912 nin0).other W920 (Or.inl ne877)).keep K925 nin0).other W933 (Or.inl ne877)).keep K938 nin0).other W946 (Or.inl ne877)).keep K951 nin0).other W959 (Or.inl ne877)).ext E964).keep K988 (ninS ne974 nin0)).ext E1015).ext E1029)
      have k1057 := (((((((((((((((((F_value_w6_L.ext E872).keep K886 nin0).other W894 (Or.inl ne877)).keep K899 nin0).other W907 (Or.inl ne877)).keep K912 nin0).other W920 (Or.inl ne877)).keep K925 nin0).other W933 (Or.inl ne877)).keep K938 nin0).other W946 (Or.inl ne877)).keep K951 nin0).other W959 (Or.inl ne877)).ext E964).keep K988 (ninS ne974 nin0)).ext E1015).ext E1029)
      have k1058 := (((k1006.keep K988 (ninS ne980 nin0)).ext E1015).ext E1029)
      obtain ⟨vr1045, _, ⟨T1045, L1045, k1045, n1045⟩, -, X1045, ⟨Lc1045, hQ1045, l1045, y1045, z1045⟩, st1045⟩ := Jvm.LawKit.callS X1037 hx (y := (⟨"com/example/vellum_index/vellumindex/Stemmer", "labelled", "(Ljava/lang/String;)Lcom/example/vellum_index/vellumindex/Stemmer;"⟩ : MethodName)) hown (mvT hZ (wd hw 83 rfl)) (mvT hZ (wd hw 84 rfl)) (mvT hZ (wd hw 85 rfl)) (mvT hZ (wd hw 86 rfl)) (by decide) (backOf (W := 0) (rmlb6n l Z a0 hw [] b964 w2_V w3_N w4_P kV w5_L w6_L w7_B kB0 w8_B kB1 xsn_0_988 (own_b (v0_50 p0 p1 p2 p3 q4 w0)) (own_b (v0_52 p0 p1 p2 p3 q4 w0)) (own_b (v0_54 p0 p1 p2 p3 q4 w0)) (own_b (v0_56 p0 p1 p2 p3 q4 w0)) (own_b (v0_58 p0 p1 p2 p3 q4 w0)) (own_b (v0_60 p0 p1 p2 p3 q4 w0)) ksn_1_988 w0 h1029 n0 z1032 (Sta.ext O1042.2 S_Stemmer__VALUES) k1035 k1046 k1047 k1048 k1049 k1050 k1051 k1052 k1053 k1054 k1055 k1056 k1057 k1058 k1038 k1039 k1040 k1041 ne972 ne974 (Sta.ext O1042.2 S_String_COMPACT_STRINGS) hcs ((own_sym6 _ _ _ _ _ _ _ _ _ _ _ _ _ _).trans c1044)) hZ (wd hw 86 rfl) (wd hw 85 rfl) (by decide) (by decide)) (g := (mkF m 253 #[.val (.int p0), .val (.int p1), .val (.int p2), .val (.int p3), .val (.long q4), .second, .val (.int (v0_1 p0 p1 p2 p3 q4 w0)), .val (.int (v0_3 p0 p1 p2 p3 q4 w0)), .val (.int (6 : Int32)), .val (.int (v0_6 p0 p1 p2 p3 q4 w0)), .val (.ref b872), .val (.ref b964), .val .null] [(.ref b964)])) rfl (by rw [hml]; rfl) (argsL := [(.ref b964)]) (rest := []) (lenOf pd_h53915 rfl) rfl (by show 2 * 0 + _ ≤ _; exact Nat.le_of_eq rfl) (hb hby at_253) (fun _ _ => ⟨rfl, e1037, (by decide : 19 + 1 ≤ _), (by decide : 232 + 2 ≤ _)⟩)
      dsimp only [Pt.U, Pt.locs, Pt.cells, Pt.slots] at X1045 l1045 y1045 z1045 st1045 hQ1045
      replace X1045 := own_stand X1045 l1045 y1045 z1045
      clear l1045 y1045 z1045
      have N1045q := (show _ ∧ _ from hQ1045).1
      have hq1045 := (show _ ∧ _ from hQ1045).2
      clear hQ1045
      have hv1045 := hq1045.1
      have K1045 := hq1045.2
      clear hq1045
      subst hv1045
      have sf1060 := Safe.keep K1045 sf0 ch1031.1 sf1030
      have ch1059 := ch1031.trans (CHr.keep K1045 sf0 ch1031.1)
      have z1061 : n0 ≤ T1045.heap.size := Nat.le_trans z1032 K1045.1
      have hs1062 : h0.size ≤ T1045.heap.size := Nat.le_trans hs1033 K1045.1
      have hk1063 := Nat.le_trans hk1029 K1045.1
      have N1045 := Fr.app N1037 N1045q
      obtain ⟨fs, hr, hrun, hended, hRW⟩ := Jvm.Stand.leaveW (s := s) (vm₁ := T1029.vm) X1045 hS1029 hk1063 (v := some (.int (1 : Int32))) (fun h => by rw [Bd.returns] at h; cases h) hlk
      refine ⟨_, _, pre1043 _ ?_, hrun, hended, _, _, rfl, ?_, hRW.1, hRW.2.1, hRW.2.2.1, hRW.2.2.2.mono (by decide) (by decide)⟩
      · skip
        show Steps p.tables e below (T1037.setTop (mkF m 243 #[.val (.int p0), .val (.int p1), .val (.int p2), .val (.int p3), .val (.long q4), .second, .val (.int (v0_1 p0 p1 p2 p3 q4 w0)), .val (.int (v0_3 p0 p1 p2 p3 q4 w0)), .val (.int (6 : Int32)), .val (.int (v0_6 p0 p1 p2 p3 q4 w0)), .val (.ref b872), .val (.ref b964), .val .null] [(.int (fsq6 (own_b (v0_50 p0 p1 p2 p3 q4 w0)) (own_b (v0_52 p0 p1 p2 p3 q4 w0)) (own_b (v0_54 p0 p1 p2 p3 q4 w0)) (own_b (v0_56 p0 p1 p2 p3 q4 w0)) (own_b (v0_58 p0 p1 p2 p3 q4 w0)) (own_b (v0_60 p0 p1 p2 p3 q4 w0)) (112 : Int32) (111 : Int32) (114 : Int32) (116 : Int32) (101 : Int32) (114 : Int32) w0))])) _
        refine XS.ifYes X1037.here hx rfl (pc0 := 243) (pc' := 251) rfl (hb hby at_243) rfl (XT.i0_eq_t c1044) (by decide) (by decide) ?_
        refine XS.aload X1037.here hx rfl (hb hby at_251) rfl rfl ?_
        show Steps p.tables e below (T1037.setTop (mkF m 253 #[.val (.int p0), .val (.int p1), .val (.int p2), .val (.int p3), .val (.long q4), .second, .val (.int (v0_1 p0 p1 p2 p3 q4 w0)), .val (.int (v0_3 p0 p1 p2 p3 q4 w0)), .val (.int (6 : Int32)), .val (.int (v0_6 p0 p1 p2 p3 q4 w0)), .val (.ref b872), .val (.ref b964), .val .null] [(.ref b964)])) _
        refine st1045 _ ?_
        refine XS.aload X1045.here hx rfl (hb hby at_256) rfl rfl ?_
        show Steps p.tables e below (T1045.setTop (mkF m 258 #[.val (.int p0), .val (.int p1), .val (.int p2), .val (.int p3), .val (.long q4), .second, .val (.int (v0_1 p0 p1 p2 p3 q4 w0)), .val (.int (v0_3 p0 p1 p2 p3 q4 w0)), .val (.int (6 : Int32)), .val (.int (v0_6 p0 p1 p2 p3 q4 w0)), .val (.ref b872), .val (.ref b964), .val .null] [.null, .null])) _
        refine XT.acmpNo X1045.here hx rfl (hb hby at_258) rfl rfl rfl (XT.aa_ne_f rfl) ?_
        refine XT.iconstV X1045.here hx rfl (1 : Int32) (hb hby at_261) (by decide) ?_
        show Steps p.tables e below (T1045.setTop (mkF m 262 #[.val (.int p0), .val (.int p1), .val (.int p2), .val (.int p3), .val (.long q4), .second, .val (.int (v0_1 p0 p1 p2 p3 q4 w0)), .val (.int (v0_3 p0 p1 p2 p3 q4 w0)), .val (.int (6 : Int32)), .val (.int (v0_6 p0 p1 p2 p3 q4 w0)), .val (.ref b872), .val (.ref b964), .val .null] [(.int (1 : Int32))])) _
        refine XS.goto X1045.here hx rfl (pc0 := 262) (pc' := 266) rfl (hb hby at_262) (by decide) (by decide) ?_
        show Steps p.tables e below (T1045.setTop (mkF m 266 #[.val (.int p0), .val (.int p1), .val (.int p2), .val (.int p3), .val (.long q4), .second, .val (.int (v0_1 p0 p1 p2 p3 q4 w0)), .val (.int (v0_3 p0 p1 p2 p3 q4 w0)), .val (.int (6 : Int32)), .val (.int (v0_6 p0 p1 p2 p3 q4 w0)), .val (.ref b872), .val (.ref b964), .val .null] [(.int (1 : Int32))])) _
        exact retN X1045 hx (t := .boolean) Bd.returns (by simp) (hb hby at_266) hr
      · skip
        show Q0 Z p0 p1 p2 p3 q4 w0 u1_SF w2_V w3_N w4_P kV w5_L w6_L w7_B kB0 w8_B kB1 h0 n0 _ T1045.heap _
        exact ⟨rfl, N1045⟩
    · skip
      obtain ⟨T1064, X1064, e1064, st1064⟩ := getS2 X1037 hx hZ hown (host := "") (Or.inl (wd hw 109 rfl)) Via.refl e1037 (Sta.ext O1042.2 S_Stemmer_PORTER) (g := (mkF m 246 #[.val (.int p0), .val (.int p1), .val (.int p2), .val (.int p3), .val (.long q4), .second, .val (.int (v0_1 p0 p1 p2 p3 q4 w0)), .val (.int (v0_3 p0 p1 p2 p3 q4 w0)), .val (.int (6 : Int32)), .val (.int (v0_6 p0 p1 p2 p3 q4 w0)), .val (.ref b872), .val (.ref b964), .val .null] [])) rfl (hb hby at_246)
      have k1066 := (((k991.keep K988).ext E1015).ext E1029)
      have k1067 := (((k993.keep K988).ext E1015).ext E1029)
      have k1068 := (((k995.keep K988).ext E1015).ext E1029)
      have k1069 := (((((((((((((((((F_label_w3_N.ext E872).keep K886 nin0).other W894 (Or.inl ne874)).keep K899 nin0).other W907 (Or.inl ne874)).keep K912 nin0).other W920 (Or.inl ne874)).keep K925 nin0).other W933 (Or.inl ne874)).keep K938 nin0).other W946 (Or.inl ne874)).keep K951 nin0).other W959 (Or.inl ne874)).ext E964).keep K988 (ninS ne968 nin0)).ext E1015).ext E1029)
      have k1070 := (((((((((((((((((F_label_w4_P.ext E872).keep K886 nin0).other W894 (Or.inl ne875)).keep K899 nin0).other W907 (Or.inl ne875)).keep K912 nin0).other W920 (Or.inl ne875)).keep K925 nin0).other W933 (Or.inl ne875)).keep K938 nin0).other W946 (Or.inl ne875)).keep K951 nin0).other W959 (Or.inl ne875)).ext E964).keep K988 (ninS ne970 nin0)).ext E1015).ext E1029)
      have k1071 := (((k997.keep K988).ext E1015).ext E1029)
      have k1072 := (((((((((((((((((F_coder_w5_L.ext E872).keep K886 nin0).other W894 (Or.inl ne876)).keep K899 nin0).other W907 (Or.inl ne876)).keep K912 nin0).other W920 (Or.inl ne876)).keep K925 nin0).other W933 (Or.inl ne876)).keep K938 nin0).other W946 (Or.inl ne876)).keep K951 nin0).other W959 (Or.inl ne876)).ext E964).keep K988 (ninS ne972 nin0)).ext E1015).ext E1029)
      have k1073 := (((((((((((((((((F_value_w5_L.ext E872).keep K886 nin0).other W894 (Or.inl ne876)).keep K899 nin0).other W907 (Or.inl ne876)).keep K912 nin0).other W920 (Or.inl ne876)).keep K925 nin0).other W933 (Or.inl ne876)).keep K938 nin0).other W946 (Or.inl ne876)).keep K951 nin0).other W959 (Or.inl ne876)).ext E964).keep K988 (ninS ne972 nin0)).ext E1015).ext E1029)
      have k1074 := (((k1004.keep K988 (ninS ne978 nin0)).ext E1015).ext E1029)
      have k1075 := (((k999.keep K988).ext E1015).ext E1029)
      have k1076 := (((((((((((((((((F_coder_w6_L.ext E872).keep K886 nin0).other W894 (Or.inl ne877)).keep K899 nin0).other W907 (Or.inl ne877)).keep K912 nin0).other W920 (Or.inl ne877)).keep K925 nin0).other W933 (Or.inl ne877)).keep K938 nin0).other W946 (Or.inl ne877)).keep K951 nin0).other W959 (Or.inl ne877)).ext E964).keep K988 (ninS ne974 nin0)).ext E1015).ext E1029)
      have k1077 := (((((((((((((((((F_value_w6_L.ext E872).keep K886 nin0).other W894 (Or.inl ne877)).keep K899 nin0).other W907 (Or.inl ne877)).keep K912 nin0).other W920 (Or.inl ne877)).keep K925 nin0).other W933 (Or.inl ne877)).keep K938 nin0).other W946 (Or.inl ne877)).keep K951 nin0).other W959 (Or.inl ne877)).ext E964).keep K988 (ninS ne974 nin0)).ext E1015).ext E1029)
      have k1078 := (((k1006.keep K988 (ninS ne980 nin0)).ext E1015).ext E1029)
      obtain ⟨vr1065, _, ⟨T1065, L1065, k1065, n1065⟩, -, X1065, ⟨Lc1065, hQ1065, l1065, y1065, z1065⟩, st1065⟩ := Jvm.LawKit.callS X1064 hx (y := (⟨"com/example/vellum_index/vellumindex/Stemmer", "labelled", "(Ljava/lang/String;)Lcom/example/vellum_index/vellumindex/Stemmer;"⟩ : MethodName)) hown (mvT hZ (wd hw 83 rfl)) (mvT hZ (wd hw 84 rfl)) (mvT hZ (wd hw 85 rfl)) (mvT hZ (wd hw 86 rfl)) (by decide) (backOf (W := 0) (rmlb6y l Z a0 hw [] b964 w2_V w3_N w4_P kV w5_L w6_L w7_B kB0 w8_B kB1 xsn_0_988 (own_b (v0_50 p0 p1 p2 p3 q4 w0)) (own_b (v0_52 p0 p1 p2 p3 q4 w0)) (own_b (v0_54 p0 p1 p2 p3 q4 w0)) (own_b (v0_56 p0 p1 p2 p3 q4 w0)) (own_b (v0_58 p0 p1 p2 p3 q4 w0)) (own_b (v0_60 p0 p1 p2 p3 q4 w0)) ksn_1_988 w0 h1029 n0 z1032 (Sta.ext O1042.2 S_Stemmer__VALUES) k1035 k1066 k1067 k1068 k1069 k1070 k1071 k1072 k1073 k1074 k1075 k1076 k1077 k1078 k1038 k1039 k1040 k1041 ne972 ne974 (Sta.ext O1042.2 S_String_COMPACT_STRINGS) hcs (fun q => c1044 ((own_sym6 _ _ _ _ _ _ _ _ _ _ _ _ _ _).trans q))) hZ (wd hw 86 rfl) (wd hw 85 rfl) (by decide) (by decide)) (g := (mkF m 253 #[.val (.int p0), .val (.int p1), .val (.int p2), .val (.int p3), .val (.long q4), .second, .val (.int (v0_1 p0 p1 p2 p3 q4 w0)), .val (.int (v0_3 p0 p1 p2 p3 q4 w0)), .val (.int (6 : Int32)), .val (.int (v0_6 p0 p1 p2 p3 q4 w0)), .val (.ref b872), .val (.ref b964), .val (.ref w4_P)] [(.ref b964)])) rfl (by rw [hml]; rfl) (argsL := [(.ref b964)]) (rest := []) (lenOf pd_h53915 rfl) rfl (by show 2 * 0 + _ ≤ _; exact Nat.le_of_eq rfl) (hb hby at_253) (fun _ _ => ⟨rfl, e1064, (by decide : 19 + 1 ≤ _), (by decide : 232 + 2 ≤ _)⟩)
      dsimp only [Pt.U, Pt.locs, Pt.cells, Pt.slots] at X1065 l1065 y1065 z1065 st1065 hQ1065
      replace X1065 := own_stand X1065 l1065 y1065 z1065
      clear l1065 y1065 z1065
      have N1065q := (show _ ∧ _ from hQ1065).1
      have hq1065 := (show _ ∧ _ from hQ1065).2
      clear hQ1065
      have hv1065 := hq1065.1
      have K1065 := hq1065.2
      clear hq1065
      subst hv1065
      have sf1080 := Safe.keep K1065 sf0 ch1031.1 sf1030
      have ch1079 := ch1031.trans (CHr.keep K1065 sf0 ch1031.1)
      have z1081 : n0 ≤ T1065.heap.size := Nat.le_trans z1032 K1065.1
      have hs1082 : h0.size ≤ T1065.heap.size := Nat.le_trans hs1033 K1065.1
      have hk1083 := Nat.le_trans hk1029 K1065.1
      have N1065 := Fr.app N1037 N1065q
      obtain ⟨fs, hr, hrun, hended, hRW⟩ := Jvm.Stand.leaveW (s := s) (vm₁ := T1029.vm) X1065 hS1029 hk1083 (v := some (.int (1 : Int32))) (fun h => by rw [Bd.returns] at h; cases h) hlk
      refine ⟨_, _, pre1043 _ ?_, hrun, hended, _, _, rfl, ?_, hRW.1, hRW.2.1, hRW.2.2.1, hRW.2.2.2.mono (by decide) (by decide)⟩
      · skip
        show Steps p.tables e below (T1037.setTop (mkF m 243 #[.val (.int p0), .val (.int p1), .val (.int p2), .val (.int p3), .val (.long q4), .second, .val (.int (v0_1 p0 p1 p2 p3 q4 w0)), .val (.int (v0_3 p0 p1 p2 p3 q4 w0)), .val (.int (6 : Int32)), .val (.int (v0_6 p0 p1 p2 p3 q4 w0)), .val (.ref b872), .val (.ref b964), .val .null] [(.int (fsq6 (own_b (v0_50 p0 p1 p2 p3 q4 w0)) (own_b (v0_52 p0 p1 p2 p3 q4 w0)) (own_b (v0_54 p0 p1 p2 p3 q4 w0)) (own_b (v0_56 p0 p1 p2 p3 q4 w0)) (own_b (v0_58 p0 p1 p2 p3 q4 w0)) (own_b (v0_60 p0 p1 p2 p3 q4 w0)) (112 : Int32) (111 : Int32) (114 : Int32) (116 : Int32) (101 : Int32) (114 : Int32) w0))])) _
        refine XS.ifNo X1037.here hx rfl (hb hby at_243) rfl (XT.i0_eq_f c1044) ?_
        show Steps p.tables e below (T1037.setTop (mkF m 246 #[.val (.int p0), .val (.int p1), .val (.int p2), .val (.int p3), .val (.long q4), .second, .val (.int (v0_1 p0 p1 p2 p3 q4 w0)), .val (.int (v0_3 p0 p1 p2 p3 q4 w0)), .val (.int (6 : Int32)), .val (.int (v0_6 p0 p1 p2 p3 q4 w0)), .val (.ref b872), .val (.ref b964), .val .null] [])) _
        refine st1064 _ ?_
        refine XS.astore X1064.here hx rfl (hb hby at_249) rfl rfl (l' := #[.val (.int p0), .val (.int p1), .val (.int p2), .val (.int p3), .val (.long q4), .second, .val (.int (v0_1 p0 p1 p2 p3 q4 w0)), .val (.int (v0_3 p0 p1 p2 p3 q4 w0)), .val (.int (6 : Int32)), .val (.int (v0_6 p0 p1 p2 p3 q4 w0)), .val (.ref b872), .val (.ref b964), .val (.ref w4_P)]) rfl ?_
        refine XS.aload X1064.here hx rfl (hb hby at_251) rfl rfl ?_
        show Steps p.tables e below (T1064.setTop (mkF m 253 #[.val (.int p0), .val (.int p1), .val (.int p2), .val (.int p3), .val (.long q4), .second, .val (.int (v0_1 p0 p1 p2 p3 q4 w0)), .val (.int (v0_3 p0 p1 p2 p3 q4 w0)), .val (.int (6 : Int32)), .val (.int (v0_6 p0 p1 p2 p3 q4 w0)), .val (.ref b872), .val (.ref b964), .val (.ref w4_P)] [(.ref b964)])) _
        refine st1065 _ ?_
        refine XS.aload X1065.here hx rfl (hb hby at_256) rfl rfl ?_
        show Steps p.tables e below (T1065.setTop (mkF m 258 #[.val (.int p0), .val (.int p1), .val (.int p2), .val (.int p3), .val (.long q4), .second, .val (.int (v0_1 p0 p1 p2 p3 q4 w0)), .val (.int (v0_3 p0 p1 p2 p3 q4 w0)), .val (.int (6 : Int32)), .val (.int (v0_6 p0 p1 p2 p3 q4 w0)), .val (.ref b872), .val (.ref b964), .val (.ref w4_P)] [(.ref w4_P), (.ref w4_P)])) _
        refine XT.acmpNo X1065.here hx rfl (hb hby at_258) rfl rfl rfl (XT.aa_ne_f rfl) ?_
        refine XT.iconstV X1065.here hx rfl (1 : Int32) (hb hby at_261) (by decide) ?_
        show Steps p.tables e below (T1065.setTop (mkF m 262 #[.val (.int p0), .val (.int p1), .val (.int p2), .val (.int p3), .val (.long q4), .second, .val (.int (v0_1 p0 p1 p2 p3 q4 w0)), .val (.int (v0_3 p0 p1 p2 p3 q4 w0)), .val (.int (6 : Int32)), .val (.int (v0_6 p0 p1 p2 p3 q4 w0)), .val (.ref b872), .val (.ref b964), .val (.ref w4_P)] [(.int (1 : Int32))])) _
        refine XS.goto X1065.here hx rfl (pc0 := 262) (pc' := 266) rfl (hb hby at_262) (by decide) (by decide) ?_
        show Steps p.tables e below (T1065.setTop (mkF m 266 #[.val (.int p0), .val (.int p1), .val (.int p2), .val (.int p3), .val (.long q4), .second, .val (.int (v0_1 p0 p1 p2 p3 q4 w0)), .val (.int (v0_3 p0 p1 p2 p3 q4 w0)), .val (.int (6 : Int32)), .val (.int (v0_6 p0 p1 p2 p3 q4 w0)), .val (.ref b872), .val (.ref b964), .val (.ref w4_P)] [(.int (1 : Int32))])) _
        exact retN X1065 hx (t := .boolean) Bd.returns (by simp) (hb hby at_266) hr
      · skip
        show Q0 Z p0 p1 p2 p3 q4 w0 u1_SF w2_V w3_N w4_P kV w5_L w6_L w7_B kB0 w8_B kB1 h0 n0 _ T1065.heap _
        exact ⟨rfl, N1065⟩
  · skip
    rw [show (v0_4 p0 p1 p2 p3 q4 w0) = (7 : Int32) from cn] at pre4
    obtain ⟨T1084, h1084, k1084, X1084, e1084, E1084, A1084, EA1084, st1084⟩ := newPE X0 hx hZ (wd hw 1 rfl) e0 (g := (mkF m 37 #[.val (.int p0), .val (.int p1), .val (.int p2), .val (.int p3), .val (.long q4), .second, .val (.int (v0_1 p0 p1 p2 p3 q4 w0)), .val (.int (v0_3 p0 p1 p2 p3 q4 w0)), .val (.int (7 : Int32)), .val (.int (v0_6 p0 p1 p2 p3 q4 w0)), .unset, .unset, .unset] [(.int (7 : Int32))])) rfl (hb hby at_37) rfl (by decide) (cap := 7) (by decide) (by decide) (by decide) (by decide) (ad := "[C") rfl
    obtain ⟨b1084, gz1084⟩ : ∃ z, z = h0.size := ⟨_, rfl⟩
    rw [← gz1084] at A1084 EA1084 st1084
    have ne1085 : w2_V ≠ b1084 := Nat.ne_of_lt (Nat.lt_of_lt_of_le E_w2_V.lt (Nat.le_of_eq gz1084.symm))
    have ne1086 : w3_N ≠ b1084 := Nat.ne_of_lt (Nat.lt_of_lt_of_le E_w3_N.lt (Nat.le_of_eq gz1084.symm))
    have ne1087 : w4_P ≠ b1084 := Nat.ne_of_lt (Nat.lt_of_lt_of_le E_w4_P.lt (Nat.le_of_eq gz1084.symm))
    have ne1088 : w5_L ≠ b1084 := Nat.ne_of_lt (Nat.lt_of_lt_of_le E_w5_L.lt (Nat.le_of_eq gz1084.symm))
    have ne1089 : w6_L ≠ b1084 := Nat.ne_of_lt (Nat.lt_of_lt_of_le E_w6_L.lt (Nat.le_of_eq gz1084.symm))
    have ne1090 : w7_B ≠ b1084 := Nat.ne_of_lt (Nat.lt_of_lt_of_le V_w7_B.lt (Nat.le_of_eq gz1084.symm))
    have ne1091 : w8_B ≠ b1084 := Nat.ne_of_lt (Nat.lt_of_lt_of_le V_w8_B.lt (Nat.le_of_eq gz1084.symm))
    have g1092 : n0 ≤ b1084 := Nat.le_trans Z0 (Nat.le_of_eq gz1084.symm)
    have sz1093 : h0.size ≤ b1084 := Nat.le_trans (Nat.le_refl h0.size) (Nat.le_of_eq gz1084.symm)
    have ch1094 := ch0.trans (CHr.ext E1084 ch0.1)
    have z1095 : n0 ≤ h1084.size := Nat.le_trans Z0 E1084.1
    have hs1096 : h0.size ≤ h1084.size := Nat.le_trans (Nat.le_refl h0.size) E1084.1
    have hk1097 := Nat.le_trans (Nat.le_refl _) E1084.1
    have V1084 : Arv Z h1084 b1084 k1084 .char (7 : Int32) [(.int (0 : Int32)), (.int (0 : Int32)), (.int (0 : Int32)), (.int (0 : Int32)), (.int (0 : Int32)), (.int (0 : Int32)), (.int (0 : Int32))] (.int (0 : Int32)) := (Arv.new A1084 (by decide)).pad (pad_rep [] (.int (0 : Int32)) 7)
    have O1099 := (O0.ext E1084)
    obtain ⟨vr1098, _, ⟨T1098, L1098, k1098, n1098⟩, -, X1098, hSq1098, hgq1098, ⟨Lc1098, hQ1098, l1098, y1098, z1098, Cr1098⟩, st1098⟩ := Jvm.RoadKit.callSS (s := s.setVm s.vm) X1084 hx (y := (⟨"com/example/vellum_index/vellumindex/StemmerLabelledPinLaw", "at", "(IIJZII)C"⟩ : MethodName)) hown (mvT hZ (wd hw 2 rfl)) (mvT hZ (wd hw 3 rfl)) (mvT hZ (wd hw 4 rfl)) (mvT hZ (wd hw 5 rfl)) (by decide) (backOfSH (s := s ) (vm0 := s.vm) (EL := consts_1) (W := 2) (rm1 l Z a0 hw [] (v0_1 p0 p1 p2 p3 q4 w0) (0 : Int32) q4 (v0_3 p0 p1 p2 p3 q4 w0) (v0_6 p0 p1 p2 p3 q4 w0) p3 w0 u1_SF h1084 n0 z1095 (Sta.ext O1099.2 S_String_COMPACT_STRINGS) hcs (Sta.ext O1099.2 S_Preconditions_SIOOBE_FORMATTER) hu (by decide)) hZ (wd hw 5 rfl) (wd hw 4 rfl) (by decide) (by decide) (own_ew hw) ch1094.1) (g := (mkF m 59 #[.val (.int p0), .val (.int p1), .val (.int p2), .val (.int p3), .val (.long q4), .second, .val (.int (v0_1 p0 p1 p2 p3 q4 w0)), .val (.int (v0_3 p0 p1 p2 p3 q4 w0)), .val (.int (7 : Int32)), .val (.int (v0_6 p0 p1 p2 p3 q4 w0)), .val (.ref b1084), .unset, .unset] [(.int p3), (.int (v0_6 p0 p1 p2 p3 q4 w0)), (.int (v0_3 p0 p1 p2 p3 q4 w0)), (.long q4), (.int (0 : Int32)), (.int (v0_1 p0 p1 p2 p3 q4 w0)), (.int (0 : Int32)), (.ref b1084)])) rfl (by rw [hml]; rfl) (argsL := [(.int (v0_1 p0 p1 p2 p3 q4 w0)), (.int (0 : Int32)), (.long q4), (.int (v0_3 p0 p1 p2 p3 q4 w0)), (.int (v0_6 p0 p1 p2 p3 q4 w0)), (.int p3)]) (rest := [(.int (0 : Int32)), (.ref b1084)]) (lenOf pd__IIJZII_C rfl) rfl (by show 2 * 0 + _ ≤ _; exact Nat.le_of_eq rfl) (hb hby at_59) (fun _ _ => ⟨rfl, e1084, (by decide : 1 + 2 ≤ _), (by decide : 7 + 28 ≤ _)⟩)
    dsimp only [Pt.U, Pt.locs, Pt.cells, Pt.slots] at X1098 l1098 y1098 z1098 st1098 hQ1098 hSq1098 hgq1098 Cr1098
    obtain ⟨X1098, hS1098, hZ, hown⟩ := rebS (s := s) (vm0 := s.vm) (n1 := h1084.size) hS0 hk1097 X1098 hSq1098 (by rw [← e1084]; exact hgq1098) hZ hown
    have ch1100 := ch1094.trans Cr1098
    replace X1098 := own_stand X1098 l1098 y1098 z1098
    clear l1098 y1098 z1098
    have N1098q := (show _ ∧ _ from hQ1098).1
    have hq1098 := (show _ ∧ _ from hQ1098).2
    clear hQ1098
    have hv1098 := hq1098.1
    have K1098 := hq1098.2
    clear hq1098
    subst hv1098
    have z1101 : n0 ≤ T1098.heap.size := Nat.le_trans z1095 K1098.1
    have hs1102 : h0.size ≤ T1098.heap.size := Nat.le_trans hs1096 K1098.1
    have N1098 := Fr.app N0 N1098q
    have k1103 := (V1084.keep K1098 nin0)
    obtain ⟨cl1104, Ar1104, qc1104, S1104, M1104, Ha1104, G1104⟩ := id k1103
    have hin1105 : ¬ ((0 : Int32) < 0 ∨ cl1104.slots.size ≤ ((0 : Int32)).toNatClampNeg) := inb_of S1104 ⟨by decide, by decide⟩
    obtain ⟨T1106, h1106, X1106, e1106, W1106, st1106⟩ := stC X1098 hx hZ rfl Ar1104 (j := (0 : Int32)) hin1105 (g := (mkF m 62 #[.val (.int p0), .val (.int p1), .val (.int p2), .val (.int p3), .val (.long q4), .second, .val (.int (v0_1 p0 p1 p2 p3 q4 w0)), .val (.int (v0_3 p0 p1 p2 p3 q4 w0)), .val (.int (7 : Int32)), .val (.int (v0_6 p0 p1 p2 p3 q4 w0)), .val (.ref b1084), .unset, .unset] [(.int (f1 (v0_1 p0 p1 p2 p3 q4 w0) (0 : Int32) q4 (v0_3 p0 p1 p2 p3 q4 w0) (v0_6 p0 p1 p2 p3 q4 w0) p3 w0)), (.int (0 : Int32)), (.ref b1084)])) rfl rfl (hb hby at_62)
    have V1106 : Arv Z h1106 b1084 k1084 .char (7 : Int32) [(.int (v0_64 p0 p1 p2 p3 q4 w0)), (.int (0 : Int32)), (.int (0 : Int32)), (.int (0 : Int32)), (.int (0 : Int32)), (.int (0 : Int32)), (.int (0 : Int32))] (.int (0 : Int32)) := Arv.set Ar1104 qc1104 S1104 M1104 Ha1104 G1104 (fits_nar_char (v0_63 p0 p1 p2 p3 q4 w0)) W1106 0 rfl (Nat.le_of_ble_eq_true rfl)
    have N1106 := Fr.snoc X1106 N1098 g1092
    have ch1107 := ch1100.trans (CHr.wr W1106 (Safe.arv hZ.alike k1103 (fun q => nomatch q)) ch1100.1)
    have z1108 : n0 ≤ h1106.size := Nat.le_trans z1101 (Keep.of_wr W1106).1
    have hs1109 : h0.size ≤ h1106.size := Nat.le_trans hs1102 (Keep.of_wr W1106).1
    have hk1110 := Nat.le_trans (Nat.le_refl _) (Keep.of_wr W1106).1
    have O1112 := ((O1099.keep K1098 all0).wr W1106 g1092)
    obtain ⟨vr1111, _, ⟨T1111, L1111, k1111, n1111⟩, -, X1111, hSq1111, hgq1111, ⟨Lc1111, hQ1111, l1111, y1111, z1111, Cr1111⟩, st1111⟩ := Jvm.RoadKit.callSS (s := s.setVm T1098.vm) X1106 hx (y := (⟨"com/example/vellum_index/vellumindex/StemmerLabelledPinLaw", "at", "(IIJZII)C"⟩ : MethodName)) hown (mvT hZ (wd hw 2 rfl)) (mvT hZ (wd hw 3 rfl)) (mvT hZ (wd hw 4 rfl)) (mvT hZ (wd hw 5 rfl)) (by decide) (backOfSH (s := s ) (vm0 := T1098.vm) (EL := consts_1) (W := 2) (rm1 l Z a0 hw [] (v0_1 p0 p1 p2 p3 q4 w0) (1 : Int32) q4 (v0_3 p0 p1 p2 p3 q4 w0) (v0_6 p0 p1 p2 p3 q4 w0) p3 w0 u1_SF h1106 n0 z1108 (Sta.ext O1112.2 S_String_COMPACT_STRINGS) hcs (Sta.ext O1112.2 S_Preconditions_SIOOBE_FORMATTER) hu (by decide)) hZ (wd hw 5 rfl) (wd hw 4 rfl) (by decide) (by decide) (own_ew hw) ch1107.1) (g := (mkF m 82 #[.val (.int p0), .val (.int p1), .val (.int p2), .val (.int p3), .val (.long q4), .second, .val (.int (v0_1 p0 p1 p2 p3 q4 w0)), .val (.int (v0_3 p0 p1 p2 p3 q4 w0)), .val (.int (7 : Int32)), .val (.int (v0_6 p0 p1 p2 p3 q4 w0)), .val (.ref b1084), .unset, .unset] [(.int p3), (.int (v0_6 p0 p1 p2 p3 q4 w0)), (.int (v0_3 p0 p1 p2 p3 q4 w0)), (.long q4), (.int (1 : Int32)), (.int (v0_1 p0 p1 p2 p3 q4 w0)), (.int (1 : Int32)), (.ref b1084)])) rfl (by rw [hml]; rfl) (argsL := [(.int (v0_1 p0 p1 p2 p3 q4 w0)), (.int (1 : Int32)), (.long q4), (.int (v0_3 p0 p1 p2 p3 q4 w0)), (.int (v0_6 p0 p1 p2 p3 q4 w0)), (.int p3)]) (rest := [(.int (1 : Int32)), (.ref b1084)]) (lenOf pd__IIJZII_C rfl) rfl (by show 2 * 0 + _ ≤ _; exact Nat.le_of_eq rfl) (hb hby at_82) (fun _ _ => ⟨rfl, e1106, (by decide : 3 + 2 ≤ _), (by decide : 35 + 28 ≤ _)⟩)
    dsimp only [Pt.U, Pt.locs, Pt.cells, Pt.slots] at X1111 l1111 y1111 z1111 st1111 hQ1111 hSq1111 hgq1111 Cr1111
    obtain ⟨X1111, hS1111, hZ, hown⟩ := rebS (s := s) (vm0 := T1098.vm) (n1 := h1106.size) hS1098 hk1110 X1111 hSq1111 (by rw [← e1106]; exact hgq1111) hZ hown
    have ch1113 := ch1107.trans Cr1111
    replace X1111 := own_stand X1111 l1111 y1111 z1111
    clear l1111 y1111 z1111
    have N1111q := (show _ ∧ _ from hQ1111).1
    have hq1111 := (show _ ∧ _ from hQ1111).2
    clear hQ1111
    have hv1111 := hq1111.1
    have K1111 := hq1111.2
    clear hq1111
    subst hv1111
    have z1114 : n0 ≤ T1111.heap.size := Nat.le_trans z1108 K1111.1
    have hs1115 : h0.size ≤ T1111.heap.size := Nat.le_trans hs1109 K1111.1
    have N1111 := Fr.app N1106 N1111q
    have k1116 := (V1106.keep K1111 nin0)
    obtain ⟨cl1117, Ar1117, qc1117, S1117, M1117, Ha1117, G1117⟩ := id k1116
    have hin1118 : ¬ ((1 : Int32) < 0 ∨ cl1117.slots.size ≤ ((1 : Int32)).toNatClampNeg) := inb_of S1117 ⟨by decide, by decide⟩
    obtain ⟨T1119, h1119, X1119, e1119, W1119, st1119⟩ := stC X1111 hx hZ rfl Ar1117 (j := (1 : Int32)) hin1118 (g := (mkF m 85 #[.val (.int p0), .val (.int p1), .val (.int p2), .val (.int p3), .val (.long q4), .second, .val (.int (v0_1 p0 p1 p2 p3 q4 w0)), .val (.int (v0_3 p0 p1 p2 p3 q4 w0)), .val (.int (7 : Int32)), .val (.int (v0_6 p0 p1 p2 p3 q4 w0)), .val (.ref b1084), .unset, .unset] [(.int (f1 (v0_1 p0 p1 p2 p3 q4 w0) (1 : Int32) q4 (v0_3 p0 p1 p2 p3 q4 w0) (v0_6 p0 p1 p2 p3 q4 w0) p3 w0)), (.int (1 : Int32)), (.ref b1084)])) rfl rfl (hb hby at_85)
    have V1119 : Arv Z h1119 b1084 k1084 .char (7 : Int32) [(.int (v0_64 p0 p1 p2 p3 q4 w0)), (.int (v0_66 p0 p1 p2 p3 q4 w0)), (.int (0 : Int32)), (.int (0 : Int32)), (.int (0 : Int32)), (.int (0 : Int32)), (.int (0 : Int32))] (.int (0 : Int32)) := Arv.set Ar1117 qc1117 S1117 M1117 Ha1117 G1117 (fits_nar_char (v0_65 p0 p1 p2 p3 q4 w0)) W1119 1 rfl (Nat.le_of_ble_eq_true rfl)
    have N1119 := Fr.snoc X1119 N1111 g1092
    have ch1120 := ch1113.trans (CHr.wr W1119 (Safe.arv hZ.alike k1116 (fun q => nomatch q)) ch1113.1)
    have z1121 : n0 ≤ h1119.size := Nat.le_trans z1114 (Keep.of_wr W1119).1
    have hs1122 : h0.size ≤ h1119.size := Nat.le_trans hs1115 (Keep.of_wr W1119).1
    have hk1123 := Nat.le_trans (Nat.le_refl _) (Keep.of_wr W1119).1
    have O1125 := ((O1112.keep K1111 all0).wr W1119 g1092)
    obtain ⟨vr1124, _, ⟨T1124, L1124, k1124, n1124⟩, -, X1124, hSq1124, hgq1124, ⟨Lc1124, hQ1124, l1124, y1124, z1124, Cr1124⟩, st1124⟩ := Jvm.RoadKit.callSS (s := s.setVm T1111.vm) X1119 hx (y := (⟨"com/example/vellum_index/vellumindex/StemmerLabelledPinLaw", "at", "(IIJZII)C"⟩ : MethodName)) hown (mvT hZ (wd hw 2 rfl)) (mvT hZ (wd hw 3 rfl)) (mvT hZ (wd hw 4 rfl)) (mvT hZ (wd hw 5 rfl)) (by decide) (backOfSH (s := s ) (vm0 := T1111.vm) (EL := consts_1) (W := 2) (rm1 l Z a0 hw [] (v0_1 p0 p1 p2 p3 q4 w0) (2 : Int32) q4 (v0_3 p0 p1 p2 p3 q4 w0) (v0_6 p0 p1 p2 p3 q4 w0) p3 w0 u1_SF h1119 n0 z1121 (Sta.ext O1125.2 S_String_COMPACT_STRINGS) hcs (Sta.ext O1125.2 S_Preconditions_SIOOBE_FORMATTER) hu (by decide)) hZ (wd hw 5 rfl) (wd hw 4 rfl) (by decide) (by decide) (own_ew hw) ch1120.1) (g := (mkF m 105 #[.val (.int p0), .val (.int p1), .val (.int p2), .val (.int p3), .val (.long q4), .second, .val (.int (v0_1 p0 p1 p2 p3 q4 w0)), .val (.int (v0_3 p0 p1 p2 p3 q4 w0)), .val (.int (7 : Int32)), .val (.int (v0_6 p0 p1 p2 p3 q4 w0)), .val (.ref b1084), .unset, .unset] [(.int p3), (.int (v0_6 p0 p1 p2 p3 q4 w0)), (.int (v0_3 p0 p1 p2 p3 q4 w0)), (.long q4), (.int (2 : Int32)), (.int (v0_1 p0 p1 p2 p3 q4 w0)), (.int (2 : Int32)), (.ref b1084)])) rfl (by rw [hml]; rfl) (argsL := [(.int (v0_1 p0 p1 p2 p3 q4 w0)), (.int (2 : Int32)), (.long q4), (.int (v0_3 p0 p1 p2 p3 q4 w0)), (.int (v0_6 p0 p1 p2 p3 q4 w0)), (.int p3)]) (rest := [(.int (2 : Int32)), (.ref b1084)]) (lenOf pd__IIJZII_C rfl) rfl (by show 2 * 0 + _ ≤ _; exact Nat.le_of_eq rfl) (hb hby at_105) (fun _ _ => ⟨rfl, e1119, (by decide : 5 + 2 ≤ _), (by decide : 63 + 28 ≤ _)⟩)
    dsimp only [Pt.U, Pt.locs, Pt.cells, Pt.slots] at X1124 l1124 y1124 z1124 st1124 hQ1124 hSq1124 hgq1124 Cr1124
    obtain ⟨X1124, hS1124, hZ, hown⟩ := rebS (s := s) (vm0 := T1111.vm) (n1 := h1119.size) hS1111 hk1123 X1124 hSq1124 (by rw [← e1119]; exact hgq1124) hZ hown
    have ch1126 := ch1120.trans Cr1124
    replace X1124 := own_stand X1124 l1124 y1124 z1124
    clear l1124 y1124 z1124
    have N1124q := (show _ ∧ _ from hQ1124).1
    have hq1124 := (show _ ∧ _ from hQ1124).2
    clear hQ1124
    have hv1124 := hq1124.1
    have K1124 := hq1124.2
    clear hq1124
    subst hv1124
    have z1127 : n0 ≤ T1124.heap.size := Nat.le_trans z1121 K1124.1
    have hs1128 : h0.size ≤ T1124.heap.size := Nat.le_trans hs1122 K1124.1
    have N1124 := Fr.app N1119 N1124q
    have k1129 := (V1119.keep K1124 nin0)
    obtain ⟨cl1130, Ar1130, qc1130, S1130, M1130, Ha1130, G1130⟩ := id k1129
    have hin1131 : ¬ ((2 : Int32) < 0 ∨ cl1130.slots.size ≤ ((2 : Int32)).toNatClampNeg) := inb_of S1130 ⟨by decide, by decide⟩
    obtain ⟨T1132, h1132, X1132, e1132, W1132, st1132⟩ := stC X1124 hx hZ rfl Ar1130 (j := (2 : Int32)) hin1131 (g := (mkF m 108 #[.val (.int p0), .val (.int p1), .val (.int p2), .val (.int p3), .val (.long q4), .second, .val (.int (v0_1 p0 p1 p2 p3 q4 w0)), .val (.int (v0_3 p0 p1 p2 p3 q4 w0)), .val (.int (7 : Int32)), .val (.int (v0_6 p0 p1 p2 p3 q4 w0)), .val (.ref b1084), .unset, .unset] [(.int (f1 (v0_1 p0 p1 p2 p3 q4 w0) (2 : Int32) q4 (v0_3 p0 p1 p2 p3 q4 w0) (v0_6 p0 p1 p2 p3 q4 w0) p3 w0)), (.int (2 : Int32)), (.ref b1084)])) rfl rfl (hb hby at_108)
    have V1132 : Arv Z h1132 b1084 k1084 .char (7 : Int32) [(.int (v0_64 p0 p1 p2 p3 q4 w0)), (.int (v0_66 p0 p1 p2 p3 q4 w0)), (.int (v0_68 p0 p1 p2 p3 q4 w0)), (.int (0 : Int32)), (.int (0 : Int32)), (.int (0 : Int32)), (.int (0 : Int32))] (.int (0 : Int32)) := Arv.set Ar1130 qc1130 S1130 M1130 Ha1130 G1130 (fits_nar_char (v0_67 p0 p1 p2 p3 q4 w0)) W1132 2 rfl (Nat.le_of_ble_eq_true rfl)
    have N1132 := Fr.snoc X1132 N1124 g1092
    have ch1133 := ch1126.trans (CHr.wr W1132 (Safe.arv hZ.alike k1129 (fun q => nomatch q)) ch1126.1)
    have z1134 : n0 ≤ h1132.size := Nat.le_trans z1127 (Keep.of_wr W1132).1
    have hs1135 : h0.size ≤ h1132.size := Nat.le_trans hs1128 (Keep.of_wr W1132).1
    have hk1136 := Nat.le_trans (Nat.le_refl _) (Keep.of_wr W1132).1
    have O1138 := ((O1125.keep K1124 all0).wr W1132 g1092)
    obtain ⟨vr1137, _, ⟨T1137, L1137, k1137, n1137⟩, -, X1137, hSq1137, hgq1137, ⟨Lc1137, hQ1137, l1137, y1137, z1137, Cr1137⟩, st1137⟩ := Jvm.RoadKit.callSS (s := s.setVm T1124.vm) X1132 hx (y := (⟨"com/example/vellum_index/vellumindex/StemmerLabelledPinLaw", "at", "(IIJZII)C"⟩ : MethodName)) hown (mvT hZ (wd hw 2 rfl)) (mvT hZ (wd hw 3 rfl)) (mvT hZ (wd hw 4 rfl)) (mvT hZ (wd hw 5 rfl)) (by decide) (backOfSH (s := s ) (vm0 := T1124.vm) (EL := consts_1) (W := 2) (rm1 l Z a0 hw [] (v0_1 p0 p1 p2 p3 q4 w0) (3 : Int32) q4 (v0_3 p0 p1 p2 p3 q4 w0) (v0_6 p0 p1 p2 p3 q4 w0) p3 w0 u1_SF h1132 n0 z1134 (Sta.ext O1138.2 S_String_COMPACT_STRINGS) hcs (Sta.ext O1138.2 S_Preconditions_SIOOBE_FORMATTER) hu (by decide)) hZ (wd hw 5 rfl) (wd hw 4 rfl) (by decide) (by decide) (own_ew hw) ch1133.1) (g := (mkF m 128 #[.val (.int p0), .val (.int p1), .val (.int p2), .val (.int p3), .val (.long q4), .second, .val (.int (v0_1 p0 p1 p2 p3 q4 w0)), .val (.int (v0_3 p0 p1 p2 p3 q4 w0)), .val (.int (7 : Int32)), .val (.int (v0_6 p0 p1 p2 p3 q4 w0)), .val (.ref b1084), .unset, .unset] [(.int p3), (.int (v0_6 p0 p1 p2 p3 q4 w0)), (.int (v0_3 p0 p1 p2 p3 q4 w0)), (.long q4), (.int (3 : Int32)), (.int (v0_1 p0 p1 p2 p3 q4 w0)), (.int (3 : Int32)), (.ref b1084)])) rfl (by rw [hml]; rfl) (argsL := [(.int (v0_1 p0 p1 p2 p3 q4 w0)), (.int (3 : Int32)), (.long q4), (.int (v0_3 p0 p1 p2 p3 q4 w0)), (.int (v0_6 p0 p1 p2 p3 q4 w0)), (.int p3)]) (rest := [(.int (3 : Int32)), (.ref b1084)]) (lenOf pd__IIJZII_C rfl) rfl (by show 2 * 0 + _ ≤ _; exact Nat.le_of_eq rfl) (hb hby at_128) (fun _ _ => ⟨rfl, e1132, (by decide : 7 + 2 ≤ _), (by decide : 91 + 28 ≤ _)⟩)
    dsimp only [Pt.U, Pt.locs, Pt.cells, Pt.slots] at X1137 l1137 y1137 z1137 st1137 hQ1137 hSq1137 hgq1137 Cr1137
    obtain ⟨X1137, hS1137, hZ, hown⟩ := rebS (s := s) (vm0 := T1124.vm) (n1 := h1132.size) hS1124 hk1136 X1137 hSq1137 (by rw [← e1132]; exact hgq1137) hZ hown
    have ch1139 := ch1133.trans Cr1137
    replace X1137 := own_stand X1137 l1137 y1137 z1137
    clear l1137 y1137 z1137
    have N1137q := (show _ ∧ _ from hQ1137).1
    have hq1137 := (show _ ∧ _ from hQ1137).2
    clear hQ1137
    have hv1137 := hq1137.1
    have K1137 := hq1137.2
    clear hq1137
    subst hv1137
    have z1140 : n0 ≤ T1137.heap.size := Nat.le_trans z1134 K1137.1
    have hs1141 : h0.size ≤ T1137.heap.size := Nat.le_trans hs1135 K1137.1
    have N1137 := Fr.app N1132 N1137q
    have k1142 := (V1132.keep K1137 nin0)
    obtain ⟨cl1143, Ar1143, qc1143, S1143, M1143, Ha1143, G1143⟩ := id k1142
    have hin1144 : ¬ ((3 : Int32) < 0 ∨ cl1143.slots.size ≤ ((3 : Int32)).toNatClampNeg) := inb_of S1143 ⟨by decide, by decide⟩
    obtain ⟨T1145, h1145, X1145, e1145, W1145, st1145⟩ := stC X1137 hx hZ rfl Ar1143 (j := (3 : Int32)) hin1144 (g := (mkF m 131 #[.val (.int p0), .val (.int p1), .val (.int p2), .val (.int p3), .val (.long q4), .second, .val (.int (v0_1 p0 p1 p2 p3 q4 w0)), .val (.int (v0_3 p0 p1 p2 p3 q4 w0)), .val (.int (7 : Int32)), .val (.int (v0_6 p0 p1 p2 p3 q4 w0)), .val (.ref b1084), .unset, .unset] [(.int (f1 (v0_1 p0 p1 p2 p3 q4 w0) (3 : Int32) q4 (v0_3 p0 p1 p2 p3 q4 w0) (v0_6 p0 p1 p2 p3 q4 w0) p3 w0)), (.int (3 : Int32)), (.ref b1084)])) rfl rfl (hb hby at_131)
    have V1145 : Arv Z h1145 b1084 k1084 .char (7 : Int32) [(.int (v0_64 p0 p1 p2 p3 q4 w0)), (.int (v0_66 p0 p1 p2 p3 q4 w0)), (.int (v0_68 p0 p1 p2 p3 q4 w0)), (.int (v0_70 p0 p1 p2 p3 q4 w0)), (.int (0 : Int32)), (.int (0 : Int32)), (.int (0 : Int32))] (.int (0 : Int32)) := Arv.set Ar1143 qc1143 S1143 M1143 Ha1143 G1143 (fits_nar_char (v0_69 p0 p1 p2 p3 q4 w0)) W1145 3 rfl (Nat.le_of_ble_eq_true rfl)
    have N1145 := Fr.snoc X1145 N1137 g1092
    have ch1146 := ch1139.trans (CHr.wr W1145 (Safe.arv hZ.alike k1142 (fun q => nomatch q)) ch1139.1)
    have z1147 : n0 ≤ h1145.size := Nat.le_trans z1140 (Keep.of_wr W1145).1
    have hs1148 : h0.size ≤ h1145.size := Nat.le_trans hs1141 (Keep.of_wr W1145).1
    have hk1149 := Nat.le_trans (Nat.le_refl _) (Keep.of_wr W1145).1
    have O1151 := ((O1138.keep K1137 all0).wr W1145 g1092)
    obtain ⟨vr1150, _, ⟨T1150, L1150, k1150, n1150⟩, -, X1150, hSq1150, hgq1150, ⟨Lc1150, hQ1150, l1150, y1150, z1150, Cr1150⟩, st1150⟩ := Jvm.RoadKit.callSS (s := s.setVm T1137.vm) X1145 hx (y := (⟨"com/example/vellum_index/vellumindex/StemmerLabelledPinLaw", "at", "(IIJZII)C"⟩ : MethodName)) hown (mvT hZ (wd hw 2 rfl)) (mvT hZ (wd hw 3 rfl)) (mvT hZ (wd hw 4 rfl)) (mvT hZ (wd hw 5 rfl)) (by decide) (backOfSH (s := s ) (vm0 := T1137.vm) (EL := consts_1) (W := 2) (rm1 l Z a0 hw [] (v0_1 p0 p1 p2 p3 q4 w0) (4 : Int32) q4 (v0_3 p0 p1 p2 p3 q4 w0) (v0_6 p0 p1 p2 p3 q4 w0) p3 w0 u1_SF h1145 n0 z1147 (Sta.ext O1151.2 S_String_COMPACT_STRINGS) hcs (Sta.ext O1151.2 S_Preconditions_SIOOBE_FORMATTER) hu (by decide)) hZ (wd hw 5 rfl) (wd hw 4 rfl) (by decide) (by decide) (own_ew hw) ch1146.1) (g := (mkF m 151 #[.val (.int p0), .val (.int p1), .val (.int p2), .val (.int p3), .val (.long q4), .second, .val (.int (v0_1 p0 p1 p2 p3 q4 w0)), .val (.int (v0_3 p0 p1 p2 p3 q4 w0)), .val (.int (7 : Int32)), .val (.int (v0_6 p0 p1 p2 p3 q4 w0)), .val (.ref b1084), .unset, .unset] [(.int p3), (.int (v0_6 p0 p1 p2 p3 q4 w0)), (.int (v0_3 p0 p1 p2 p3 q4 w0)), (.long q4), (.int (4 : Int32)), (.int (v0_1 p0 p1 p2 p3 q4 w0)), (.int (4 : Int32)), (.ref b1084)])) rfl (by rw [hml]; rfl) (argsL := [(.int (v0_1 p0 p1 p2 p3 q4 w0)), (.int (4 : Int32)), (.long q4), (.int (v0_3 p0 p1 p2 p3 q4 w0)), (.int (v0_6 p0 p1 p2 p3 q4 w0)), (.int p3)]) (rest := [(.int (4 : Int32)), (.ref b1084)]) (lenOf pd__IIJZII_C rfl) rfl (by show 2 * 0 + _ ≤ _; exact Nat.le_of_eq rfl) (hb hby at_151) (fun _ _ => ⟨rfl, e1145, (by decide : 9 + 2 ≤ _), (by decide : 119 + 28 ≤ _)⟩)
    dsimp only [Pt.U, Pt.locs, Pt.cells, Pt.slots] at X1150 l1150 y1150 z1150 st1150 hQ1150 hSq1150 hgq1150 Cr1150
    obtain ⟨X1150, hS1150, hZ, hown⟩ := rebS (s := s) (vm0 := T1137.vm) (n1 := h1145.size) hS1137 hk1149 X1150 hSq1150 (by rw [← e1145]; exact hgq1150) hZ hown
    have ch1152 := ch1146.trans Cr1150
    replace X1150 := own_stand X1150 l1150 y1150 z1150
    clear l1150 y1150 z1150
    have N1150q := (show _ ∧ _ from hQ1150).1
    have hq1150 := (show _ ∧ _ from hQ1150).2
    clear hQ1150
    have hv1150 := hq1150.1
    have K1150 := hq1150.2
    clear hq1150
    subst hv1150
    have z1153 : n0 ≤ T1150.heap.size := Nat.le_trans z1147 K1150.1
    have hs1154 : h0.size ≤ T1150.heap.size := Nat.le_trans hs1148 K1150.1
    have N1150 := Fr.app N1145 N1150q
    have k1155 := (V1145.keep K1150 nin0)
    obtain ⟨cl1156, Ar1156, qc1156, S1156, M1156, Ha1156, G1156⟩ := id k1155
    have hin1157 : ¬ ((4 : Int32) < 0 ∨ cl1156.slots.size ≤ ((4 : Int32)).toNatClampNeg) := inb_of S1156 ⟨by decide, by decide⟩
    obtain ⟨T1158, h1158, X1158, e1158, W1158, st1158⟩ := stC X1150 hx hZ rfl Ar1156 (j := (4 : Int32)) hin1157 (g := (mkF m 154 #[.val (.int p0), .val (.int p1), .val (.int p2), .val (.int p3), .val (.long q4), .second, .val (.int (v0_1 p0 p1 p2 p3 q4 w0)), .val (.int (v0_3 p0 p1 p2 p3 q4 w0)), .val (.int (7 : Int32)), .val (.int (v0_6 p0 p1 p2 p3 q4 w0)), .val (.ref b1084), .unset, .unset] [(.int (f1 (v0_1 p0 p1 p2 p3 q4 w0) (4 : Int32) q4 (v0_3 p0 p1 p2 p3 q4 w0) (v0_6 p0 p1 p2 p3 q4 w0) p3 w0)), (.int (4 : Int32)), (.ref b1084)])) rfl rfl (hb hby at_154)
    have V1158 : Arv Z h1158 b1084 k1084 .char (7 : Int32) [(.int (v0_64 p0 p1 p2 p3 q4 w0)), (.int (v0_66 p0 p1 p2 p3 q4 w0)), (.int (v0_68 p0 p1 p2 p3 q4 w0)), (.int (v0_70 p0 p1 p2 p3 q4 w0)), (.int (v0_72 p0 p1 p2 p3 q4 w0)), (.int (0 : Int32)), (.int (0 : Int32))] (.int (0 : Int32)) := Arv.set Ar1156 qc1156 S1156 M1156 Ha1156 G1156 (fits_nar_char (v0_71 p0 p1 p2 p3 q4 w0)) W1158 4 rfl (Nat.le_of_ble_eq_true rfl)
    have N1158 := Fr.snoc X1158 N1150 g1092
    have ch1159 := ch1152.trans (CHr.wr W1158 (Safe.arv hZ.alike k1155 (fun q => nomatch q)) ch1152.1)
    have z1160 : n0 ≤ h1158.size := Nat.le_trans z1153 (Keep.of_wr W1158).1
    have hs1161 : h0.size ≤ h1158.size := Nat.le_trans hs1154 (Keep.of_wr W1158).1
    have hk1162 := Nat.le_trans (Nat.le_refl _) (Keep.of_wr W1158).1
    have O1164 := ((O1151.keep K1150 all0).wr W1158 g1092)
    obtain ⟨vr1163, _, ⟨T1163, L1163, k1163, n1163⟩, -, X1163, hSq1163, hgq1163, ⟨Lc1163, hQ1163, l1163, y1163, z1163, Cr1163⟩, st1163⟩ := Jvm.RoadKit.callSS (s := s.setVm T1150.vm) X1158 hx (y := (⟨"com/example/vellum_index/vellumindex/StemmerLabelledPinLaw", "at", "(IIJZII)C"⟩ : MethodName)) hown (mvT hZ (wd hw 2 rfl)) (mvT hZ (wd hw 3 rfl)) (mvT hZ (wd hw 4 rfl)) (mvT hZ (wd hw 5 rfl)) (by decide) (backOfSH (s := s ) (vm0 := T1150.vm) (EL := consts_1) (W := 2) (rm1 l Z a0 hw [] (v0_1 p0 p1 p2 p3 q4 w0) (5 : Int32) q4 (v0_3 p0 p1 p2 p3 q4 w0) (v0_6 p0 p1 p2 p3 q4 w0) p3 w0 u1_SF h1158 n0 z1160 (Sta.ext O1164.2 S_String_COMPACT_STRINGS) hcs (Sta.ext O1164.2 S_Preconditions_SIOOBE_FORMATTER) hu (by decide)) hZ (wd hw 5 rfl) (wd hw 4 rfl) (by decide) (by decide) (own_ew hw) ch1159.1) (g := (mkF m 174 #[.val (.int p0), .val (.int p1), .val (.int p2), .val (.int p3), .val (.long q4), .second, .val (.int (v0_1 p0 p1 p2 p3 q4 w0)), .val (.int (v0_3 p0 p1 p2 p3 q4 w0)), .val (.int (7 : Int32)), .val (.int (v0_6 p0 p1 p2 p3 q4 w0)), .val (.ref b1084), .unset, .unset] [(.int p3), (.int (v0_6 p0 p1 p2 p3 q4 w0)), (.int (v0_3 p0 p1 p2 p3 q4 w0)), (.long q4), (.int (5 : Int32)), (.int (v0_1 p0 p1 p2 p3 q4 w0)), (.int (5 : Int32)), (.ref b1084)])) rfl (by rw [hml]; rfl) (argsL := [(.int (v0_1 p0 p1 p2 p3 q4 w0)), (.int (5 : Int32)), (.long q4), (.int (v0_3 p0 p1 p2 p3 q4 w0)), (.int (v0_6 p0 p1 p2 p3 q4 w0)), (.int p3)]) (rest := [(.int (5 : Int32)), (.ref b1084)]) (lenOf pd__IIJZII_C rfl) rfl (by show 2 * 0 + _ ≤ _; exact Nat.le_of_eq rfl) (hb hby at_174) (fun _ _ => ⟨rfl, e1158, (by decide : 11 + 2 ≤ _), (by decide : 147 + 28 ≤ _)⟩)
    dsimp only [Pt.U, Pt.locs, Pt.cells, Pt.slots] at X1163 l1163 y1163 z1163 st1163 hQ1163 hSq1163 hgq1163 Cr1163
    obtain ⟨X1163, hS1163, hZ, hown⟩ := rebS (s := s) (vm0 := T1150.vm) (n1 := h1158.size) hS1150 hk1162 X1163 hSq1163 (by rw [← e1158]; exact hgq1163) hZ hown
    have ch1165 := ch1159.trans Cr1163
    replace X1163 := own_stand X1163 l1163 y1163 z1163
    clear l1163 y1163 z1163
    have N1163q := (show _ ∧ _ from hQ1163).1
    have hq1163 := (show _ ∧ _ from hQ1163).2
    clear hQ1163
    have hv1163 := hq1163.1
    have K1163 := hq1163.2
    clear hq1163
    subst hv1163
    have z1166 : n0 ≤ T1163.heap.size := Nat.le_trans z1160 K1163.1
    have hs1167 : h0.size ≤ T1163.heap.size := Nat.le_trans hs1161 K1163.1
    have N1163 := Fr.app N1158 N1163q
    have k1168 := (V1158.keep K1163 nin0)
    obtain ⟨cl1169, Ar1169, qc1169, S1169, M1169, Ha1169, G1169⟩ := id k1168
    have hin1170 : ¬ ((5 : Int32) < 0 ∨ cl1169.slots.size ≤ ((5 : Int32)).toNatClampNeg) := inb_of S1169 ⟨by decide, by decide⟩
    obtain ⟨T1171, h1171, X1171, e1171, W1171, st1171⟩ := stC X1163 hx hZ rfl Ar1169 (j := (5 : Int32)) hin1170 (g := (mkF m 177 #[.val (.int p0), .val (.int p1), .val (.int p2), .val (.int p3), .val (.long q4), .second, .val (.int (v0_1 p0 p1 p2 p3 q4 w0)), .val (.int (v0_3 p0 p1 p2 p3 q4 w0)), .val (.int (7 : Int32)), .val (.int (v0_6 p0 p1 p2 p3 q4 w0)), .val (.ref b1084), .unset, .unset] [(.int (f1 (v0_1 p0 p1 p2 p3 q4 w0) (5 : Int32) q4 (v0_3 p0 p1 p2 p3 q4 w0) (v0_6 p0 p1 p2 p3 q4 w0) p3 w0)), (.int (5 : Int32)), (.ref b1084)])) rfl rfl (hb hby at_177)
    have V1171 : Arv Z h1171 b1084 k1084 .char (7 : Int32) [(.int (v0_64 p0 p1 p2 p3 q4 w0)), (.int (v0_66 p0 p1 p2 p3 q4 w0)), (.int (v0_68 p0 p1 p2 p3 q4 w0)), (.int (v0_70 p0 p1 p2 p3 q4 w0)), (.int (v0_72 p0 p1 p2 p3 q4 w0)), (.int (v0_74 p0 p1 p2 p3 q4 w0)), (.int (0 : Int32))] (.int (0 : Int32)) := Arv.set Ar1169 qc1169 S1169 M1169 Ha1169 G1169 (fits_nar_char (v0_73 p0 p1 p2 p3 q4 w0)) W1171 5 rfl (Nat.le_of_ble_eq_true rfl)
    have N1171 := Fr.snoc X1171 N1163 g1092
    have ch1172 := ch1165.trans (CHr.wr W1171 (Safe.arv hZ.alike k1168 (fun q => nomatch q)) ch1165.1)
    have z1173 : n0 ≤ h1171.size := Nat.le_trans z1166 (Keep.of_wr W1171).1
    have hs1174 : h0.size ≤ h1171.size := Nat.le_trans hs1167 (Keep.of_wr W1171).1
    have hk1175 := Nat.le_trans (Nat.le_refl _) (Keep.of_wr W1171).1
    have O1177 := ((O1164.keep K1163 all0).wr W1171 g1092)
    obtain ⟨vr1176, _, ⟨T1176, L1176, k1176, n1176⟩, -, X1176, hSq1176, hgq1176, ⟨Lc1176, hQ1176, l1176, y1176, z1176, Cr1176⟩, st1176⟩ := Jvm.RoadKit.callSS (s := s.setVm T1163.vm) X1171 hx (y := (⟨"com/example/vellum_index/vellumindex/StemmerLabelledPinLaw", "at", "(IIJZII)C"⟩ : MethodName)) hown (mvT hZ (wd hw 2 rfl)) (mvT hZ (wd hw 3 rfl)) (mvT hZ (wd hw 4 rfl)) (mvT hZ (wd hw 5 rfl)) (by decide) (backOfSH (s := s ) (vm0 := T1163.vm) (EL := consts_1) (W := 2) (rm1 l Z a0 hw [] (v0_1 p0 p1 p2 p3 q4 w0) (6 : Int32) q4 (v0_3 p0 p1 p2 p3 q4 w0) (v0_6 p0 p1 p2 p3 q4 w0) p3 w0 u1_SF h1171 n0 z1173 (Sta.ext O1177.2 S_String_COMPACT_STRINGS) hcs (Sta.ext O1177.2 S_Preconditions_SIOOBE_FORMATTER) hu (by decide)) hZ (wd hw 5 rfl) (wd hw 4 rfl) (by decide) (by decide) (own_ew hw) ch1172.1) (g := (mkF m 200 #[.val (.int p0), .val (.int p1), .val (.int p2), .val (.int p3), .val (.long q4), .second, .val (.int (v0_1 p0 p1 p2 p3 q4 w0)), .val (.int (v0_3 p0 p1 p2 p3 q4 w0)), .val (.int (7 : Int32)), .val (.int (v0_6 p0 p1 p2 p3 q4 w0)), .val (.ref b1084), .unset, .unset] [(.int p3), (.int (v0_6 p0 p1 p2 p3 q4 w0)), (.int (v0_3 p0 p1 p2 p3 q4 w0)), (.long q4), (.int (6 : Int32)), (.int (v0_1 p0 p1 p2 p3 q4 w0)), (.int (6 : Int32)), (.ref b1084)])) rfl (by rw [hml]; rfl) (argsL := [(.int (v0_1 p0 p1 p2 p3 q4 w0)), (.int (6 : Int32)), (.long q4), (.int (v0_3 p0 p1 p2 p3 q4 w0)), (.int (v0_6 p0 p1 p2 p3 q4 w0)), (.int p3)]) (rest := [(.int (6 : Int32)), (.ref b1084)]) (lenOf pd__IIJZII_C rfl) rfl (by show 2 * 0 + _ ≤ _; exact Nat.le_of_eq rfl) (hb hby at_200) (fun _ _ => ⟨rfl, e1171, (by decide : 13 + 2 ≤ _), (by decide : 175 + 28 ≤ _)⟩)
    dsimp only [Pt.U, Pt.locs, Pt.cells, Pt.slots] at X1176 l1176 y1176 z1176 st1176 hQ1176 hSq1176 hgq1176 Cr1176
    obtain ⟨X1176, hS1176, hZ, hown⟩ := rebS (s := s) (vm0 := T1163.vm) (n1 := h1171.size) hS1163 hk1175 X1176 hSq1176 (by rw [← e1171]; exact hgq1176) hZ hown
    have ch1178 := ch1172.trans Cr1176
    replace X1176 := own_stand X1176 l1176 y1176 z1176
    clear l1176 y1176 z1176
    have N1176q := (show _ ∧ _ from hQ1176).1
    have hq1176 := (show _ ∧ _ from hQ1176).2
    clear hQ1176
    have hv1176 := hq1176.1
    have K1176 := hq1176.2
    clear hq1176
    subst hv1176
    have z1179 : n0 ≤ T1176.heap.size := Nat.le_trans z1173 K1176.1
    have hs1180 : h0.size ≤ T1176.heap.size := Nat.le_trans hs1174 K1176.1
    have N1176 := Fr.app N1171 N1176q
    have k1181 := (V1171.keep K1176 nin0)
    obtain ⟨cl1182, Ar1182, qc1182, S1182, M1182, Ha1182, G1182⟩ := id k1181
    have hin1183 : ¬ ((6 : Int32) < 0 ∨ cl1182.slots.size ≤ ((6 : Int32)).toNatClampNeg) := inb_of S1182 ⟨by decide, by decide⟩
    obtain ⟨T1184, h1184, X1184, e1184, W1184, st1184⟩ := stC X1176 hx hZ rfl Ar1182 (j := (6 : Int32)) hin1183 (g := (mkF m 203 #[.val (.int p0), .val (.int p1), .val (.int p2), .val (.int p3), .val (.long q4), .second, .val (.int (v0_1 p0 p1 p2 p3 q4 w0)), .val (.int (v0_3 p0 p1 p2 p3 q4 w0)), .val (.int (7 : Int32)), .val (.int (v0_6 p0 p1 p2 p3 q4 w0)), .val (.ref b1084), .unset, .unset] [(.int (f1 (v0_1 p0 p1 p2 p3 q4 w0) (6 : Int32) q4 (v0_3 p0 p1 p2 p3 q4 w0) (v0_6 p0 p1 p2 p3 q4 w0) p3 w0)), (.int (6 : Int32)), (.ref b1084)])) rfl rfl (hb hby at_203)
    have V1184 : Arv Z h1184 b1084 k1084 .char (7 : Int32) [(.int (v0_64 p0 p1 p2 p3 q4 w0)), (.int (v0_66 p0 p1 p2 p3 q4 w0)), (.int (v0_68 p0 p1 p2 p3 q4 w0)), (.int (v0_70 p0 p1 p2 p3 q4 w0)), (.int (v0_72 p0 p1 p2 p3 q4 w0)), (.int (v0_74 p0 p1 p2 p3 q4 w0)), (.int (v0_76 p0 p1 p2 p3 q4 w0))] (.int (0 : Int32)) := Arv.set Ar1182 qc1182 S1182 M1182 Ha1182 G1182 (fits_nar_char (v0_75 p0 p1 p2 p3 q4 w0)) W1184 6 rfl (Nat.le_of_ble_eq_true rfl)
    have N1184 := Fr.snoc X1184 N1176 g1092
    have ch1185 := ch1178.trans (CHr.wr W1184 (Safe.arv hZ.alike k1181 (fun q => nomatch q)) ch1178.1)
    have z1186 : n0 ≤ h1184.size := Nat.le_trans z1179 (Keep.of_wr W1184).1
    have hs1187 : h0.size ≤ h1184.size := Nat.le_trans hs1180 (Keep.of_wr W1184).1
    have hk1188 := Nat.le_trans (Nat.le_refl _) (Keep.of_wr W1184).1
    obtain ⟨T1189, h1189, X1189, e1189, E1189, A1189, D1189, -, st1189⟩ := newO X1184 hx hZ hown (wd hw 52 rfl) (wd hw 11 rfl) (wd hw 10 rfl) e1184 (g := (mkF m 204 #[.val (.int p0), .val (.int p1), .val (.int p2), .val (.int p3), .val (.long q4), .second, .val (.int (v0_1 p0 p1 p2 p3 q4 w0)), .val (.int (v0_3 p0 p1 p2 p3 q4 w0)), .val (.int (7 : Int32)), .val (.int (v0_6 p0 p1 p2 p3 q4 w0)), .val (.ref b1084), .unset, .unset] [])) rfl (hb hby at_204) (by decide) (by decide)
    obtain ⟨b1189, gz1189⟩ : ∃ z, z = h1184.size := ⟨_, rfl⟩
    rw [← gz1189] at A1189 D1189 st1189
    have k1190 := (((((((((((((((E_w2_V.ext E1084).keep K1098).wr W1106).keep K1111).wr W1119).keep K1124).wr W1132).keep K1137).wr W1145).keep K1150).wr W1158).keep K1163).wr W1171).keep K1176).wr W1184)
    have ne1191 : w2_V ≠ b1189 := Nat.ne_of_lt (Nat.lt_of_lt_of_le k1190.lt (Nat.le_of_eq gz1189.symm))
    have k1192 := (((((((((((((((E_w3_N.ext E1084).keep K1098).wr W1106).keep K1111).wr W1119).keep K1124).wr W1132).keep K1137).wr W1145).keep K1150).wr W1158).keep K1163).wr W1171).keep K1176).wr W1184)
    have ne1193 : w3_N ≠ b1189 := Nat.ne_of_lt (Nat.lt_of_lt_of_le k1192.lt (Nat.le_of_eq gz1189.symm))
    have k1194 := (((((((((((((((E_w4_P.ext E1084).keep K1098).wr W1106).keep K1111).wr W1119).keep K1124).wr W1132).keep K1137).wr W1145).keep K1150).wr W1158).keep K1163).wr W1171).keep K1176).wr W1184)
    have ne1195 : w4_P ≠ b1189 := Nat.ne_of_lt (Nat.lt_of_lt_of_le k1194.lt (Nat.le_of_eq gz1189.symm))
    have k1196 := (((((((((((((((E_w5_L.ext E1084).keep K1098).wr W1106).keep K1111).wr W1119).keep K1124).wr W1132).keep K1137).wr W1145).keep K1150).wr W1158).keep K1163).wr W1171).keep K1176).wr W1184)
    have ne1197 : w5_L ≠ b1189 := Nat.ne_of_lt (Nat.lt_of_lt_of_le k1196.lt (Nat.le_of_eq gz1189.symm))
    have k1198 := (((((((((((((((E_w6_L.ext E1084).keep K1098).wr W1106).keep K1111).wr W1119).keep K1124).wr W1132).keep K1137).wr W1145).keep K1150).wr W1158).keep K1163).wr W1171).keep K1176).wr W1184)
    have ne1199 : w6_L ≠ b1189 := Nat.ne_of_lt (Nat.lt_of_lt_of_le k1198.lt (Nat.le_of_eq gz1189.symm))
    have k1200 := ((((((((((((((EA1084.keep K1098).wr W1106).keep K1111).wr W1119).keep K1124).wr W1132).keep K1137).wr W1145).keep K1150).wr W1158).keep K1163).wr W1171).keep K1176).wr W1184)
    have ne1201 : b1084 ≠ b1189 := Nat.ne_of_lt (Nat.lt_of_lt_of_le k1200.lt (Nat.le_of_eq gz1189.symm))
    have k1202 := (((((((((((((((V_w7_B.ext E1084).keep K1098 nin0).other W1106 ne1090).keep K1111 nin0).other W1119 ne1090).keep K1124 nin0).other W1132 ne1090).keep K1137 nin0).other W1145 ne1090).keep K1150 nin0).other W1158 ne1090).keep K1163 nin0).other W1171 ne1090).keep K1176 nin0).other W1184 ne1090)
    have ne1203 : w7_B ≠ b1189 := Nat.ne_of_lt (Nat.lt_of_lt_of_le k1202.lt (Nat.le_of_eq gz1189.symm))
    have k1204 := (((((((((((((((V_w8_B.ext E1084).keep K1098 nin0).other W1106 ne1091).keep K1111 nin0).other W1119 ne1091).keep K1124 nin0).other W1132 ne1091).keep K1137 nin0).other W1145 ne1091).keep K1150 nin0).other W1158 ne1091).keep K1163 nin0).other W1171 ne1091).keep K1176 nin0).other W1184 ne1091)
    have ne1205 : w8_B ≠ b1189 := Nat.ne_of_lt (Nat.lt_of_lt_of_le k1204.lt (Nat.le_of_eq gz1189.symm))
    have g1206 : n0 ≤ b1189 := Nat.le_trans z1186 (Nat.le_of_eq gz1189.symm)
    have sz1207 : h0.size ≤ b1189 := Nat.le_trans hs1187 (Nat.le_of_eq gz1189.symm)
    have ch1208 := ch1185.trans (CHr.ext E1189 ch1185.1)
    have z1209 : n0 ≤ h1189.size := Nat.le_trans z1186 E1189.1
    have hs1210 : h0.size ≤ h1189.size := Nat.le_trans hs1187 E1189.1
    have hk1211 := Nat.le_trans hk1188 E1189.1
    have sf1212 := Safe.ext E1189 ch1185.1 (Safe.new (Z := Z) (EL := consts_1) (vm := T1176.vm) (Nat.le_of_eq gz1189.symm))
    have F1189_value : Fld Z h1189 b1189 "java/lang/String" "value" "[B" .null := D1189 (Or.inr (wd hw 13 rfl)) (ty := (.array .byte)) (by decide)
    have F1189_coder : Fld Z h1189 b1189 "java/lang/String" "coder" "B" (.int (0 : Int32)) := D1189 (Or.inr (wd hw 14 rfl)) (ty := .byte) (by decide)
    have k1214 := (V1184.ext E1189)
    have O1215 := (((O1177.keep K1176 all0).wr W1184 g1092).ext E1189)
    obtain ⟨vr1213, _, ⟨T1213, L1213, k1213, n1213⟩, -, X1213, ⟨Lc1213, hQ1213, l1213, y1213, z1213⟩, st1213⟩ := Jvm.Stand.specialBack X1189 hx (y := (⟨"java/lang/String", "<init>", "([C)V"⟩ : MethodName)) rfl hown (mvT hZ (wd hw 53 rfl)) (mvT hZ (wd hw 54 rfl)) (mvT hZ (wd hw 55 rfl)) (by decide) (own_newS (W := 1) (cs := [(v0_64 p0 p1 p2 p3 q4 w0), (v0_66 p0 p1 p2 p3 q4 w0), (v0_68 p0 p1 p2 p3 q4 w0), (v0_70 p0 p1 p2 p3 q4 w0), (v0_72 p0 p1 p2 p3 q4 w0), (v0_74 p0 p1 p2 p3 q4 w0), (v0_76 p0 p1 p2 p3 q4 w0)]) (vs := [(.int (own_b (v0_64 p0 p1 p2 p3 q4 w0))), (.int (own_b (v0_66 p0 p1 p2 p3 q4 w0))), (.int (own_b (v0_68 p0 p1 p2 p3 q4 w0))), (.int (own_b (v0_70 p0 p1 p2 p3 q4 w0))), (.int (own_b (v0_72 p0 p1 p2 p3 q4 w0))), (.int (own_b (v0_74 p0 p1 p2 p3 q4 w0))), (.int (own_b (v0_76 p0 p1 p2 p3 q4 w0)))]) (n := 7) hZ hw g1206 z1209 A1189 F1189_value F1189_coder k1214 (Sta.ext O1215.2 S_String_COMPACT_STRINGS) hcs rfl rfl (by decide) (by decide) (own_alc (own_at _ _ _ _ _ _ _) (own_alc (own_at _ _ _ _ _ _ _) (own_alc (own_at _ _ _ _ _ _ _) (own_alc (own_at _ _ _ _ _ _ _) (own_alc (own_at _ _ _ _ _ _ _) (own_alc (own_at _ _ _ _ _ _ _) (own_alc (own_at _ _ _ _ _ _ _) own_aln))))))) rfl (by decide) (by decide)) (g := (mkF m 210 #[.val (.int p0), .val (.int p1), .val (.int p2), .val (.int p3), .val (.long q4), .second, .val (.int (v0_1 p0 p1 p2 p3 q4 w0)), .val (.int (v0_3 p0 p1 p2 p3 q4 w0)), .val (.int (7 : Int32)), .val (.int (v0_6 p0 p1 p2 p3 q4 w0)), .val (.ref b1084), .unset, .unset] [(.ref b1084), (.ref b1189), (.ref b1189)])) rfl (by rw [hml]; rfl) (Steps.refl _) (a := b1189) (argsL := [(.ref b1084)]) (rest := [(.ref b1189)]) (lenOf pd___C_V rfl) rfl (by show 2 * 0 + _ ≤ _; exact Nat.le_of_eq rfl) (hb hby at_210) (fun _ _ => ⟨rfl, e1189, (by decide : 16 + 1 ≤ _), (by decide : 207 + 7 ≤ _)⟩)
    dsimp only [Pt.U, Pt.locs, Pt.cells, Pt.slots] at X1213 l1213 y1213 z1213 st1213 hQ1213
    replace X1213 := own_stand X1213 l1213 y1213 z1213
    clear l1213 y1213 z1213
    have N1213q := (show _ ∧ _ from hQ1213).1
    have hq1213 := (show _ ∧ _ from hQ1213).2
    clear hQ1213
    obtain ⟨xsn_0_1213, ksn_1_1213, hq1213x⟩ := hq1213
    have hv1213 := hq1213x.1
    have szxsn_0_1213 := hq1213x.2.1
    have K1213 := hq1213x.2.2.1
    have po1213_0 := hq1213x.2.2.2.1
    have po1213_1 := hq1213x.2.2.2.2.1
    have po1213_2 := hq1213x.2.2.2.2.2.1
    have po1213_3 := hq1213x.2.2.2.2.2.2
    clear hq1213x
    subst hv1213
    have k1216 := (k1190.ext E1189)
    have ne1217 : w2_V ≠ xsn_0_1213 := Nat.ne_of_lt (Nat.lt_of_lt_of_le k1216.lt szxsn_0_1213)
    have k1218 := (k1192.ext E1189)
    have ne1219 : w3_N ≠ xsn_0_1213 := Nat.ne_of_lt (Nat.lt_of_lt_of_le k1218.lt szxsn_0_1213)
    have k1220 := (k1194.ext E1189)
    have ne1221 : w4_P ≠ xsn_0_1213 := Nat.ne_of_lt (Nat.lt_of_lt_of_le k1220.lt szxsn_0_1213)
    have k1222 := (k1196.ext E1189)
    have ne1223 : w5_L ≠ xsn_0_1213 := Nat.ne_of_lt (Nat.lt_of_lt_of_le k1222.lt szxsn_0_1213)
    have k1224 := (k1198.ext E1189)
    have ne1225 : w6_L ≠ xsn_0_1213 := Nat.ne_of_lt (Nat.lt_of_lt_of_le k1224.lt szxsn_0_1213)
    have k1226 := (k1200.ext E1189)
    have ne1227 : b1084 ≠ xsn_0_1213 := Nat.ne_of_lt (Nat.lt_of_lt_of_le k1226.lt szxsn_0_1213)
    have ne1228 : b1189 ≠ xsn_0_1213 := Nat.ne_of_lt (Nat.lt_of_lt_of_le A1189.lt szxsn_0_1213)
    have k1229 := (k1202.ext E1189)
    have ne1230 : w7_B ≠ xsn_0_1213 := Nat.ne_of_lt (Nat.lt_of_lt_of_le k1229.lt szxsn_0_1213)
    have k1231 := (k1204.ext E1189)
    have ne1232 : w8_B ≠ xsn_0_1213 := Nat.ne_of_lt (Nat.lt_of_lt_of_le k1231.lt szxsn_0_1213)
    have g1233 : n0 ≤ xsn_0_1213 := Nat.le_trans z1209 szxsn_0_1213
    have sz1234 : h0.size ≤ xsn_0_1213 := Nat.le_trans hs1210 szxsn_0_1213
    have sf1236 := Safe.keep K1213 (sfS sf1212 sf0) ch1208.1 sf1212
    have ch1235 := ch1208.trans (CHr.keep K1213 (sfS sf1212 sf0) ch1208.1)
    have z1237 : n0 ≤ T1213.heap.size := Nat.le_trans z1209 K1213.1
    have hs1238 : h0.size ≤ T1213.heap.size := Nat.le_trans hs1210 K1213.1
    have hk1239 := Nat.le_trans hk1211 K1213.1
    have N1213 := Fr.app N1184 N1213q
    obtain ⟨la1240, T1240, h1240, kk1240, lb1240, lk1240, X1240, e1240, E1240, hS1240, hk1240, hZ, hown, Ex1240, Fc1240, Fv1240, V1240, -, -, Cr1240, Lt1240, Sf1240, st1240⟩ := ldcCH (s := s) (vm0 := T1176.vm) (EL := consts_1) X1213 hx hZ hown (wd hw 9 rfl) (own_ws hw) rfl hS1176 hk1239 (own_ew hw) (List.mem_of_getElem? (i := 0) rfl) ch1235.1 (z := (4 : Int32)) (vs := [(.int (110 : Int32)), (.int (111 : Int32)), (.int (110 : Int32)), (.int (101 : Int32))]) ⟨by decide, by rfl⟩ (by decide) rfl (g := (mkF m 220 #[.val (.int p0), .val (.int p1), .val (.int p2), .val (.int p3), .val (.long q4), .second, .val (.int (v0_1 p0 p1 p2 p3 q4 w0)), .val (.int (v0_3 p0 p1 p2 p3 q4 w0)), .val (.int (7 : Int32)), .val (.int (v0_6 p0 p1 p2 p3 q4 w0)), .val (.ref b1084), .val (.ref b1189), .val .null] [(.ref b1189)])) rfl (hb hby at_220) (n := 16) (by decide) (by decide) (by decide) (by decide)
    have sf1241 := Cr1240.safe po1213_0.lt sf1236
    have ch1242 := ch1235.trans Cr1240
    have z1243 : n0 ≤ h1240.size := Nat.le_trans z1237 E1240.1
    have hs1244 : h0.size ≤ h1240.size := Nat.le_trans hs1238 E1240.1
    have ne1245 := Sf1240 _ sf1241
    have k1246 := ((((((((((((((((((V_w2_V.ext E1084).keep K1098 nin0).other W1106 ne1085).keep K1111 nin0).other W1119 ne1085).keep K1124 nin0).other W1132 ne1085).keep K1137 nin0).other W1145 ne1085).keep K1150 nin0).other W1158 ne1085).keep K1163 nin0).other W1171 ne1085).keep K1176 nin0).other W1184 ne1085).ext E1189).keep K1213 (ninS ne1191 nin0)).ext E1240)
    have k1247 := ((k1214.keep K1213 (ninS ne1201 nin0)).ext E1240)
    have k1249 := (po1213_0.ext E1240)
    have k1250 := (po1213_1.ext E1240)
    have k1251 := (po1213_2.ext E1240)
    have k1252 := (po1213_3.ext E1240)
    have O1253 := ((O1215.keep K1213 (allS g1206 all0)).ext E1240)
    obtain ⟨cq1248, kq1248, q1248a, q1248b, q1248c⟩ := isOf hZ e1240 k1249
    obtain ⟨vr1248, _, ⟨T1248, L1248, k1248, n1248⟩, -, X1248, ⟨Lc1248, hQ1248, l1248, y1248, z1248⟩, st1248⟩ := Jvm.Stand.virtualBack X1240 hx (y := (⟨"java/lang/String", "equals", "(Ljava/lang/Object;)Z"⟩ : MethodName)) (z := (⟨"java/lang/String", "equals", "(Ljava/lang/Object;)Z"⟩ : MethodName)) hown (mvT hZ (wd hw 73 rfl)) (mvT hZ (wd hw 74 rfl)) (notFace_of_selects (args := #[]) (mvT hZ (wd hw 76 rfl))) (mvT hZ (wd hw 76 rfl)) (mvT hZ (wd hw 75 rfl)) (by decide) (backOf (W := 0) (rmsqD l Z a0 hw [] b1189 la1240 xsn_0_1213 (7 : Int32) ([(.int (own_b (v0_64 p0 p1 p2 p3 q4 w0))), (.int (own_b (v0_66 p0 p1 p2 p3 q4 w0))), (.int (own_b (v0_68 p0 p1 p2 p3 q4 w0))), (.int (own_b (v0_70 p0 p1 p2 p3 q4 w0))), (.int (own_b (v0_72 p0 p1 p2 p3 q4 w0))), (.int (own_b (v0_74 p0 p1 p2 p3 q4 w0))), (.int (own_b (v0_76 p0 p1 p2 p3 q4 w0)))]) ksn_1_1213 lb1240 (4 : Int32) ([(.int (110 : Int32)), (.int (111 : Int32)), (.int (110 : Int32)), (.int (101 : Int32))]) lk1240 w0 h1240 n0 z1243 k1249 k1250 k1251 k1252 Ex1240 Fc1240 Fv1240 V1240 ne1245.1 (Sta.ext O1253.2 S_String_COMPACT_STRINGS) hcs (by decide)) hZ (wd hw 77 rfl) (wd hw 10 rfl) (by decide) (by decide)) q1248a q1248c (g := (mkF m 222 #[.val (.int p0), .val (.int p1), .val (.int p2), .val (.int p3), .val (.long q4), .second, .val (.int (v0_1 p0 p1 p2 p3 q4 w0)), .val (.int (v0_3 p0 p1 p2 p3 q4 w0)), .val (.int (7 : Int32)), .val (.int (v0_6 p0 p1 p2 p3 q4 w0)), .val (.ref b1084), .val (.ref b1189), .val .null] [(.ref la1240), (.ref b1189)])) rfl (by rw [hml]; rfl) (Steps.refl _) (argsL := [(.ref la1240)]) (rest := []) (lenOf pd__Ljava_lang_Object__Z rfl) rfl (by show 2 * 0 + _ ≤ _; exact Nat.le_of_eq rfl) (hb hby at_222) (fun _ _ => ⟨rfl, e1240, (by decide : 19 + 0 ≤ _), (by decide : 234 + 0 ≤ _)⟩)
    dsimp only [Pt.U, Pt.locs, Pt.cells, Pt.slots] at X1248 l1248 y1248 z1248 st1248 hQ1248
    replace X1248 := own_stand X1248 l1248 y1248 z1248
    clear l1248 y1248 z1248
    have N1248q := (show _ ∧ _ ∧ _ from hQ1248).1
    have hv1248 := (show _ ∧ _ ∧ _ from hQ1248).2.1
    have e1248 := (show _ ∧ _ ∧ _ from hQ1248).2.2
    clear hQ1248
    subst hv1248
    have N1248 := Fr.app N1213 N1248q
    obtain ⟨la1254, T1254, h1254, kk1254, lb1254, lk1254, X1254, e1254, E1254, hS1254, hk1254, hZ, hown, Ex1254, Fc1254, Fv1254, V1254, -, -, Cr1254, Lt1254, Sf1254, st1254⟩ := ldcCH (s := s) (vm0 := T1240.vm) (EL := consts_1) X1248 hx hZ hown (wd hw 82 rfl) (own_ws hw) e1248 hS1240 hk1240 (own_ew hw) (List.mem_of_getElem? (i := 1) rfl) ch1242.1 (z := (6 : Int32)) (vs := [(.int (112 : Int32)), (.int (111 : Int32)), (.int (114 : Int32)), (.int (116 : Int32)), (.int (101 : Int32)), (.int (114 : Int32))]) ⟨by decide, by rfl⟩ (by decide) rfl (g := (mkF m 238 #[.val (.int p0), .val (.int p1), .val (.int p2), .val (.int p3), .val (.long q4), .second, .val (.int (v0_1 p0 p1 p2 p3 q4 w0)), .val (.int (v0_3 p0 p1 p2 p3 q4 w0)), .val (.int (7 : Int32)), .val (.int (v0_6 p0 p1 p2 p3 q4 w0)), .val (.ref b1084), .val (.ref b1189), .val .null] [(.ref b1189)])) rfl (hb hby at_238) (n := 24) (by decide) (by decide) (by decide) (by decide)
    have sf1255 := Cr1254.safe k1249.lt sf1241
    have ch1256 := ch1242.trans Cr1254
    have z1257 : n0 ≤ h1254.size := Nat.le_trans z1243 E1254.1
    have hs1258 : h0.size ≤ h1254.size := Nat.le_trans hs1244 E1254.1
    have ne1259 := Sf1254 _ sf1255
    have k1260 := (k1246.ext E1254)
    have k1261 := (k1247.ext E1254)
    have k1263 := (k1249.ext E1254)
    have k1264 := (k1250.ext E1254)
    have k1265 := (k1251.ext E1254)
    have k1266 := (k1252.ext E1254)
    have O1267 := (O1253.ext E1254)
    obtain ⟨cq1262, kq1262, q1262a, q1262b, q1262c⟩ := isOf hZ e1254 k1263
    obtain ⟨vr1262, _, ⟨T1262, L1262, k1262, n1262⟩, -, X1262, ⟨Lc1262, hQ1262, l1262, y1262, z1262⟩, st1262⟩ := Jvm.Stand.virtualBack X1254 hx (y := (⟨"java/lang/String", "equals", "(Ljava/lang/Object;)Z"⟩ : MethodName)) (z := (⟨"java/lang/String", "equals", "(Ljava/lang/Object;)Z"⟩ : MethodName)) hown (mvT hZ (wd hw 73 rfl)) (mvT hZ (wd hw 74 rfl)) (notFace_of_selects (args := #[]) (mvT hZ (wd hw 76 rfl))) (mvT hZ (wd hw 76 rfl)) (mvT hZ (wd hw 75 rfl)) (by decide) (backOf (W := 0) (rmsqD l Z a0 hw [] b1189 la1254 xsn_0_1213 (7 : Int32) ([(.int (own_b (v0_64 p0 p1 p2 p3 q4 w0))), (.int (own_b (v0_66 p0 p1 p2 p3 q4 w0))), (.int (own_b (v0_68 p0 p1 p2 p3 q4 w0))), (.int (own_b (v0_70 p0 p1 p2 p3 q4 w0))), (.int (own_b (v0_72 p0 p1 p2 p3 q4 w0))), (.int (own_b (v0_74 p0 p1 p2 p3 q4 w0))), (.int (own_b (v0_76 p0 p1 p2 p3 q4 w0)))]) ksn_1_1213 lb1254 (6 : Int32) ([(.int (112 : Int32)), (.int (111 : Int32)), (.int (114 : Int32)), (.int (116 : Int32)), (.int (101 : Int32)), (.int (114 : Int32))]) lk1254 w0 h1254 n0 z1257 k1263 k1264 k1265 k1266 Ex1254 Fc1254 Fv1254 V1254 ne1259.1 (Sta.ext O1267.2 S_String_COMPACT_STRINGS) hcs (by decide)) hZ (wd hw 77 rfl) (wd hw 10 rfl) (by decide) (by decide)) q1262a q1262c (g := (mkF m 240 #[.val (.int p0), .val (.int p1), .val (.int p2), .val (.int p3), .val (.long q4), .second, .val (.int (v0_1 p0 p1 p2 p3 q4 w0)), .val (.int (v0_3 p0 p1 p2 p3 q4 w0)), .val (.int (7 : Int32)), .val (.int (v0_6 p0 p1 p2 p3 q4 w0)), .val (.ref b1084), .val (.ref b1189), .val .null] [(.ref la1254), (.ref b1189)])) rfl (by rw [hml]; rfl) (Steps.refl _) (argsL := [(.ref la1254)]) (rest := []) (lenOf pd__Ljava_lang_Object__Z rfl) rfl (by show 2 * 0 + _ ≤ _; exact Nat.le_of_eq rfl) (hb hby at_240) (fun _ _ => ⟨rfl, e1254, (by decide : 21 + 0 ≤ _), (by decide : 262 + 0 ≤ _)⟩)
    dsimp only [Pt.U, Pt.locs, Pt.cells, Pt.slots] at X1262 l1262 y1262 z1262 st1262 hQ1262
    replace X1262 := own_stand X1262 l1262 y1262 z1262
    clear l1262 y1262 z1262
    have N1262q := (show _ ∧ _ ∧ _ from hQ1262).1
    have hv1262 := (show _ ∧ _ ∧ _ from hQ1262).2.1
    have e1262 := (show _ ∧ _ ∧ _ from hQ1262).2.2
    clear hQ1262
    subst hv1262
    have N1262 := Fr.app N1248 N1262q
    have k1269 := (((k1216.keep K1213).ext E1240).ext E1254)
    have k1270 := (((k1218.keep K1213).ext E1240).ext E1254)
    have k1271 := (((k1220.keep K1213).ext E1240).ext E1254)
    have k1272 := (((((((((((((((((((F_label_w3_N.ext E1084).keep K1098 nin0).other W1106 (Or.inl ne1086)).keep K1111 nin0).other W1119 (Or.inl ne1086)).keep K1124 nin0).other W1132 (Or.inl ne1086)).keep K1137 nin0).other W1145 (Or.inl ne1086)).keep K1150 nin0).other W1158 (Or.inl ne1086)).keep K1163 nin0).other W1171 (Or.inl ne1086)).keep K1176 nin0).other W1184 (Or.inl ne1086)).ext E1189).keep K1213 (ninS ne1193 nin0)).ext E1240).ext E1254)
    have k1273 := (((((((((((((((((((F_label_w4_P.ext E1084).keep K1098 nin0).other W1106 (Or.inl ne1087)).keep K1111 nin0).other W1119 (Or.inl ne1087)).keep K1124 nin0).other W1132 (Or.inl ne1087)).keep K1137 nin0).other W1145 (Or.inl ne1087)).keep K1150 nin0).other W1158 (Or.inl ne1087)).keep K1163 nin0).other W1171 (Or.inl ne1087)).keep K1176 nin0).other W1184 (Or.inl ne1087)).ext E1189).keep K1213 (ninS ne1195 nin0)).ext E1240).ext E1254)
    have k1274 := (((k1222.keep K1213).ext E1240).ext E1254)
    have k1275 := (((((((((((((((((((F_coder_w5_L.ext E1084).keep K1098 nin0).other W1106 (Or.inl ne1088)).keep K1111 nin0).other W1119 (Or.inl ne1088)).keep K1124 nin0).other W1132 (Or.inl ne1088)).keep K1137 nin0).other W1145 (Or.inl ne1088)).keep K1150 nin0).other W1158 (Or.inl ne1088)).keep K1163 nin0).other W1171 (Or.inl ne1088)).keep K1176 nin0).other W1184 (Or.inl ne1088)).ext E1189).keep K1213 (ninS ne1197 nin0)).ext E1240).ext E1254)
    have k1276 := (((((((((((((((((((F_value_w5_L.ext E1084).keep K1098 nin0).other W1106 (Or.inl ne1088)).keep K1111 nin0).other W1119 (Or.inl ne1088)).keep K1124 nin0).other W1132 (Or.inl ne1088)).keep K1137 nin0).other W1145 (Or.inl ne1088)).keep K1150 nin0).other W1158 (Or.inl ne1088)).keep K1163 nin0).other W1171 (Or.inl ne1088)).keep K1176 nin0).other W1184 (Or.inl ne1088)).ext E1189).keep K1213 (ninS ne1197 nin0)).ext E1240).ext E1254)
    have k1277 := (((k1229.keep K1213 (ninS ne1203 nin0)).ext E1240).ext E1254)
    have k1278 := (((k1224.keep K1213).ext E1240).ext E1254)
    have k1279 := (((((((((((((((((((F_coder_w6_L.ext E1084).keep K1098 nin0).other W1106 (Or.inl ne1089)).keep K1111 nin0).other W1119 (Or.inl ne1089)).keep K1124 nin0).other W1132 (Or.inl ne1089)).keep K1137 nin0).other W1145 (Or.inl ne1089)).keep K1150 nin0).other W1158 (Or.inl ne1089)).keep K1163 nin0).other W1171 (Or.inl ne1089)).keep K1176 nin0).other W1184 (Or.inl ne1089)).ext E1189).keep K1213 (ninS ne1199 nin0)).ext E1240).ext E1254)
    have k1280 := (((((((((((((((((((F_value_w6_L.ext E1084).keep K1098 nin0).other W1106 (Or.inl ne1089)).keep K1111 nin0).other W1119 (Or.inl ne1089)).keep K1124 nin0).other W1132 (Or.inl ne1089)).keep K1137 nin0).other W1145 (Or.inl ne1089)).keep K1150 nin0).other W1158 (Or.inl ne1089)).keep K1163 nin0).other W1171 (Or.inl ne1089)).keep K1176 nin0).other W1184 (Or.inl ne1089)).ext E1189).keep K1213 (ninS ne1199 nin0)).ext E1240).ext E1254)
    have k1281 := (((k1231.keep K1213 (ninS ne1205 nin0)).ext E1240).ext E1254)
    obtain ⟨vr1268, _, ⟨T1268, L1268, k1268, n1268⟩, -, X1268, ⟨Lc1268, hQ1268, l1268, y1268, z1268⟩, st1268⟩ := Jvm.LawKit.callS X1262 hx (y := (⟨"com/example/vellum_index/vellumindex/Stemmer", "labelled", "(Ljava/lang/String;)Lcom/example/vellum_index/vellumindex/Stemmer;"⟩ : MethodName)) hown (mvT hZ (wd hw 83 rfl)) (mvT hZ (wd hw 84 rfl)) (mvT hZ (wd hw 85 rfl)) (mvT hZ (wd hw 86 rfl)) (by decide) (backOf (W := 0) (rmlbD l Z a0 hw [] b1189 w2_V w3_N w4_P kV w5_L w6_L w7_B kB0 w8_B kB1 xsn_0_1213 (7 : Int32) ([(.int (own_b (v0_64 p0 p1 p2 p3 q4 w0))), (.int (own_b (v0_66 p0 p1 p2 p3 q4 w0))), (.int (own_b (v0_68 p0 p1 p2 p3 q4 w0))), (.int (own_b (v0_70 p0 p1 p2 p3 q4 w0))), (.int (own_b (v0_72 p0 p1 p2 p3 q4 w0))), (.int (own_b (v0_74 p0 p1 p2 p3 q4 w0))), (.int (own_b (v0_76 p0 p1 p2 p3 q4 w0)))]) ksn_1_1213 w0 h1254 n0 z1257 (Sta.ext O1267.2 S_Stemmer__VALUES) k1260 k1269 k1270 k1271 k1272 k1273 k1274 k1275 k1276 k1277 k1278 k1279 k1280 k1281 k1263 k1264 k1265 k1266 ne1197 ne1199 (Sta.ext O1267.2 S_String_COMPACT_STRINGS) hcs (by decide) (by decide)) hZ (wd hw 86 rfl) (wd hw 85 rfl) (by decide) (by decide)) (g := (mkF m 253 #[.val (.int p0), .val (.int p1), .val (.int p2), .val (.int p3), .val (.long q4), .second, .val (.int (v0_1 p0 p1 p2 p3 q4 w0)), .val (.int (v0_3 p0 p1 p2 p3 q4 w0)), .val (.int (7 : Int32)), .val (.int (v0_6 p0 p1 p2 p3 q4 w0)), .val (.ref b1084), .val (.ref b1189), .val .null] [(.ref b1189)])) rfl (by rw [hml]; rfl) (argsL := [(.ref b1189)]) (rest := []) (lenOf pd_h53915 rfl) rfl (by show 2 * 0 + _ ≤ _; exact Nat.le_of_eq rfl) (hb hby at_253) (fun _ _ => ⟨rfl, e1262, (by decide : 21 + 1 ≤ _), (by decide : 262 + 2 ≤ _)⟩)
    dsimp only [Pt.U, Pt.locs, Pt.cells, Pt.slots] at X1268 l1268 y1268 z1268 st1268 hQ1268
    replace X1268 := own_stand X1268 l1268 y1268 z1268
    clear l1268 y1268 z1268
    have N1268q := (show _ ∧ _ from hQ1268).1
    have hq1268 := (show _ ∧ _ from hQ1268).2
    clear hQ1268
    have hv1268 := hq1268.1
    have K1268 := hq1268.2
    clear hq1268
    subst hv1268
    have sf1283 := Safe.keep K1268 sf0 ch1256.1 sf1255
    have ch1282 := ch1256.trans (CHr.keep K1268 sf0 ch1256.1)
    have z1284 : n0 ≤ T1268.heap.size := Nat.le_trans z1257 K1268.1
    have hs1285 : h0.size ≤ T1268.heap.size := Nat.le_trans hs1258 K1268.1
    have hk1286 := Nat.le_trans hk1254 K1268.1
    have N1268 := Fr.app N1262 N1268q
    obtain ⟨fs, hr, hrun, hended, hRW⟩ := Jvm.Stand.leaveW (s := s) (vm₁ := T1254.vm) X1268 hS1254 hk1286 (v := some (.int (1 : Int32))) (fun h => by rw [Bd.returns] at h; cases h) hlk
    refine ⟨_, _, pre4 _ ?_, hrun, hended, _, _, rfl, ?_, hRW.1, hRW.2.1, hRW.2.2.1, hRW.2.2.2.mono (by decide) (by decide)⟩
    · skip
      show Steps p.tables e below (s₁.setTop (mkF m 35 #[.val (.int p0), .val (.int p1), .val (.int p2), .val (.int p3), .val (.long q4), .second, .val (.int (v0_1 p0 p1 p2 p3 q4 w0)), .val (.int (v0_3 p0 p1 p2 p3 q4 w0)), .val (.int (7 : Int32)), .val (.int (v0_6 p0 p1 p2 p3 q4 w0)), .unset, .unset, .unset] [])) _
      refine XS.iload X0.here hx rfl (hb hby at_35) rfl ?_
      show Steps p.tables e below (s₁.setTop (mkF m 37 #[.val (.int p0), .val (.int p1), .val (.int p2), .val (.int p3), .val (.long q4), .second, .val (.int (v0_1 p0 p1 p2 p3 q4 w0)), .val (.int (v0_3 p0 p1 p2 p3 q4 w0)), .val (.int (7 : Int32)), .val (.int (v0_6 p0 p1 p2 p3 q4 w0)), .unset, .unset, .unset] [(.int (7 : Int32))])) _
      refine st1084 _ ?_
      refine XS.astore X1084.here hx rfl (hb hby at_39) rfl rfl (l' := #[.val (.int p0), .val (.int p1), .val (.int p2), .val (.int p3), .val (.long q4), .second, .val (.int (v0_1 p0 p1 p2 p3 q4 w0)), .val (.int (v0_3 p0 p1 p2 p3 q4 w0)), .val (.int (7 : Int32)), .val (.int (v0_6 p0 p1 p2 p3 q4 w0)), .val (.ref b1084), .unset, .unset]) rfl ?_
      refine XS.iload X1084.here hx rfl (hb hby at_41) rfl ?_
      show Steps p.tables e below (T1084.setTop (mkF m 43 #[.val (.int p0), .val (.int p1), .val (.int p2), .val (.int p3), .val (.long q4), .second, .val (.int (v0_1 p0 p1 p2 p3 q4 w0)), .val (.int (v0_3 p0 p1 p2 p3 q4 w0)), .val (.int (7 : Int32)), .val (.int (v0_6 p0 p1 p2 p3 q4 w0)), .val (.ref b1084), .unset, .unset] [(.int (7 : Int32))])) _
      refine XS.ifNo X1084.here hx rfl (hb hby at_43) rfl (XT.i0_le_f (by decide)) ?_
      refine XS.aload X1084.here hx rfl (hb hby at_46) rfl rfl ?_
      refine XT.iconstV X1084.here hx rfl (0 : Int32) (hb hby at_48) (by decide) ?_
      refine XS.iload X1084.here hx rfl (hb hby at_49) rfl ?_
      show Steps p.tables e below (T1084.setTop (mkF m 51 #[.val (.int p0), .val (.int p1), .val (.int p2), .val (.int p3), .val (.long q4), .second, .val (.int (v0_1 p0 p1 p2 p3 q4 w0)), .val (.int (v0_3 p0 p1 p2 p3 q4 w0)), .val (.int (7 : Int32)), .val (.int (v0_6 p0 p1 p2 p3 q4 w0)), .val (.ref b1084), .unset, .unset] [(.int (v0_1 p0 p1 p2 p3 q4 w0)), (.int (0 : Int32)), (.ref b1084)])) _
      refine XT.iconstV X1084.here hx rfl (0 : Int32) (hb hby at_51) (by decide) ?_
      refine XT.lload X1084.here hx rfl (hb hby at_52) rfl ?_
      refine XS.iload X1084.here hx rfl (hb hby at_54) rfl ?_
      refine XS.iload X1084.here hx rfl (hb hby at_56) rfl ?_
      show Steps p.tables e below (T1084.setTop (mkF m 58 #[.val (.int p0), .val (.int p1), .val (.int p2), .val (.int p3), .val (.long q4), .second, .val (.int (v0_1 p0 p1 p2 p3 q4 w0)), .val (.int (v0_3 p0 p1 p2 p3 q4 w0)), .val (.int (7 : Int32)), .val (.int (v0_6 p0 p1 p2 p3 q4 w0)), .val (.ref b1084), .unset, .unset] [(.int (v0_6 p0 p1 p2 p3 q4 w0)), (.int (v0_3 p0 p1 p2 p3 q4 w0)), (.long q4), (.int (0 : Int32)), (.int (v0_1 p0 p1 p2 p3 q4 w0)), (.int (0 : Int32)), (.ref b1084)])) _
      refine XS.iloadN X1084.here hx rfl (hb hby at_58) rfl ?_
      show Steps p.tables e below (T1084.setTop (mkF m 59 #[.val (.int p0), .val (.int p1), .val (.int p2), .val (.int p3), .val (.long q4), .second, .val (.int (v0_1 p0 p1 p2 p3 q4 w0)), .val (.int (v0_3 p0 p1 p2 p3 q4 w0)), .val (.int (7 : Int32)), .val (.int (v0_6 p0 p1 p2 p3 q4 w0)), .val (.ref b1084), .unset, .unset] [(.int p3), (.int (v0_6 p0 p1 p2 p3 q4 w0)), (.int (v0_3 p0 p1 p2 p3 q4 w0)), (.long q4), (.int (0 : Int32)), (.int (v0_1 p0 p1 p2 p3 q4 w0)), (.int (0 : Int32)), (.ref b1084)])) _
      refine st1098.trans ?_
      show Steps p.tables e below (T1098.setTop (mkF m 62 #[.val (.int p0), .val (.int p1), .val (.int p2), .val (.int p3), .val (.long q4), .second, .val (.int (v0_1 p0 p1 p2 p3 q4 w0)), .val (.int (v0_3 p0 p1 p2 p3 q4 w0)), .val (.int (7 : Int32)), .val (.int (v0_6 p0 p1 p2 p3 q4 w0)), .val (.ref b1084), .unset, .unset] [(.int (f1 (v0_1 p0 p1 p2 p3 q4 w0) (0 : Int32) q4 (v0_3 p0 p1 p2 p3 q4 w0) (v0_6 p0 p1 p2 p3 q4 w0) p3 w0)), (.int (0 : Int32)), (.ref b1084)])) _
      refine st1106 _ ?_
      refine XS.iload X1106.here hx rfl (hb hby at_63) rfl ?_
      refine XT.iconstV X1106.here hx rfl (1 : Int32) (hb hby at_65) (by decide) ?_
      show Steps p.tables e below (T1106.setTop (mkF m 66 #[.val (.int p0), .val (.int p1), .val (.int p2), .val (.int p3), .val (.long q4), .second, .val (.int (v0_1 p0 p1 p2 p3 q4 w0)), .val (.int (v0_3 p0 p1 p2 p3 q4 w0)), .val (.int (7 : Int32)), .val (.int (v0_6 p0 p1 p2 p3 q4 w0)), .val (.ref b1084), .unset, .unset] [(.int (1 : Int32)), (.int (7 : Int32))])) _
      refine XS.icmpNo X1106.here hx rfl (hb hby at_66) rfl (XT.ii_le_f (by decide)) ?_
      refine XS.aload X1106.here hx rfl (hb hby at_69) rfl rfl ?_
      refine XT.iconstV X1106.here hx rfl (1 : Int32) (hb hby at_71) (by decide) ?_
      refine XS.iload X1106.here hx rfl (hb hby at_72) rfl ?_
      show Steps p.tables e below (T1106.setTop (mkF m 74 #[.val (.int p0), .val (.int p1), .val (.int p2), .val (.int p3), .val (.long q4), .second, .val (.int (v0_1 p0 p1 p2 p3 q4 w0)), .val (.int (v0_3 p0 p1 p2 p3 q4 w0)), .val (.int (7 : Int32)), .val (.int (v0_6 p0 p1 p2 p3 q4 w0)), .val (.ref b1084), .unset, .unset] [(.int (v0_1 p0 p1 p2 p3 q4 w0)), (.int (1 : Int32)), (.ref b1084)])) _
      refine XT.iconstV X1106.here hx rfl (1 : Int32) (hb hby at_74) (by decide) ?_
      refine XT.lload X1106.here hx rfl (hb hby at_75) rfl ?_
      refine XS.iload X1106.here hx rfl (hb hby at_77) rfl ?_
      refine XS.iload X1106.here hx rfl (hb hby at_79) rfl ?_
      show Steps p.tables e below (T1106.setTop (mkF m 81 #[.val (.int p0), .val (.int p1), .val (.int p2), .val (.int p3), .val (.long q4), .second, .val (.int (v0_1 p0 p1 p2 p3 q4 w0)), .val (.int (v0_3 p0 p1 p2 p3 q4 w0)), .val (.int (7 : Int32)), .val (.int (v0_6 p0 p1 p2 p3 q4 w0)), .val (.ref b1084), .unset, .unset] [(.int (v0_6 p0 p1 p2 p3 q4 w0)), (.int (v0_3 p0 p1 p2 p3 q4 w0)), (.long q4), (.int (1 : Int32)), (.int (v0_1 p0 p1 p2 p3 q4 w0)), (.int (1 : Int32)), (.ref b1084)])) _
      refine XS.iloadN X1106.here hx rfl (hb hby at_81) rfl ?_
      show Steps p.tables e below (T1106.setTop (mkF m 82 #[.val (.int p0), .val (.int p1), .val (.int p2), .val (.int p3), .val (.long q4), .second, .val (.int (v0_1 p0 p1 p2 p3 q4 w0)), .val (.int (v0_3 p0 p1 p2 p3 q4 w0)), .val (.int (7 : Int32)), .val (.int (v0_6 p0 p1 p2 p3 q4 w0)), .val (.ref b1084), .unset, .unset] [(.int p3), (.int (v0_6 p0 p1 p2 p3 q4 w0)), (.int (v0_3 p0 p1 p2 p3 q4 w0)), (.long q4), (.int (1 : Int32)), (.int (v0_1 p0 p1 p2 p3 q4 w0)), (.int (1 : Int32)), (.ref b1084)])) _
      refine st1111.trans ?_
      show Steps p.tables e below (T1111.setTop (mkF m 85 #[.val (.int p0), .val (.int p1), .val (.int p2), .val (.int p3), .val (.long q4), .second, .val (.int (v0_1 p0 p1 p2 p3 q4 w0)), .val (.int (v0_3 p0 p1 p2 p3 q4 w0)), .val (.int (7 : Int32)), .val (.int (v0_6 p0 p1 p2 p3 q4 w0)), .val (.ref b1084), .unset, .unset] [(.int (f1 (v0_1 p0 p1 p2 p3 q4 w0) (1 : Int32) q4 (v0_3 p0 p1 p2 p3 q4 w0) (v0_6 p0 p1 p2 p3 q4 w0) p3 w0)), (.int (1 : Int32)), (.ref b1084)])) _
      refine st1119 _ ?_
      refine XS.iload X1119.here hx rfl (hb hby at_86) rfl ?_
      refine XT.iconstV X1119.here hx rfl (2 : Int32) (hb hby at_88) (by decide) ?_
      show Steps p.tables e below (T1119.setTop (mkF m 89 #[.val (.int p0), .val (.int p1), .val (.int p2), .val (.int p3), .val (.long q4), .second, .val (.int (v0_1 p0 p1 p2 p3 q4 w0)), .val (.int (v0_3 p0 p1 p2 p3 q4 w0)), .val (.int (7 : Int32)), .val (.int (v0_6 p0 p1 p2 p3 q4 w0)), .val (.ref b1084), .unset, .unset] [(.int (2 : Int32)), (.int (7 : Int32))])) _
      refine XS.icmpNo X1119.here hx rfl (hb hby at_89) rfl (XT.ii_le_f (by decide)) ?_
      refine XS.aload X1119.here hx rfl (hb hby at_92) rfl rfl ?_
      refine XT.iconstV X1119.here hx rfl (2 : Int32) (hb hby at_94) (by decide) ?_
      refine XS.iload X1119.here hx rfl (hb hby at_95) rfl ?_
      show Steps p.tables e below (T1119.setTop (mkF m 97 #[.val (.int p0), .val (.int p1), .val (.int p2), .val (.int p3), .val (.long q4), .second, .val (.int (v0_1 p0 p1 p2 p3 q4 w0)), .val (.int (v0_3 p0 p1 p2 p3 q4 w0)), .val (.int (7 : Int32)), .val (.int (v0_6 p0 p1 p2 p3 q4 w0)), .val (.ref b1084), .unset, .unset] [(.int (v0_1 p0 p1 p2 p3 q4 w0)), (.int (2 : Int32)), (.ref b1084)])) _
      refine XT.iconstV X1119.here hx rfl (2 : Int32) (hb hby at_97) (by decide) ?_
      refine XT.lload X1119.here hx rfl (hb hby at_98) rfl ?_
      refine XS.iload X1119.here hx rfl (hb hby at_100) rfl ?_
      refine XS.iload X1119.here hx rfl (hb hby at_102) rfl ?_
      show Steps p.tables e below (T1119.setTop (mkF m 104 #[.val (.int p0), .val (.int p1), .val (.int p2), .val (.int p3), .val (.long q4), .second, .val (.int (v0_1 p0 p1 p2 p3 q4 w0)), .val (.int (v0_3 p0 p1 p2 p3 q4 w0)), .val (.int (7 : Int32)), .val (.int (v0_6 p0 p1 p2 p3 q4 w0)), .val (.ref b1084), .unset, .unset] [(.int (v0_6 p0 p1 p2 p3 q4 w0)), (.int (v0_3 p0 p1 p2 p3 q4 w0)), (.long q4), (.int (2 : Int32)), (.int (v0_1 p0 p1 p2 p3 q4 w0)), (.int (2 : Int32)), (.ref b1084)])) _
      refine XS.iloadN X1119.here hx rfl (hb hby at_104) rfl ?_
      show Steps p.tables e below (T1119.setTop (mkF m 105 #[.val (.int p0), .val (.int p1), .val (.int p2), .val (.int p3), .val (.long q4), .second, .val (.int (v0_1 p0 p1 p2 p3 q4 w0)), .val (.int (v0_3 p0 p1 p2 p3 q4 w0)), .val (.int (7 : Int32)), .val (.int (v0_6 p0 p1 p2 p3 q4 w0)), .val (.ref b1084), .unset, .unset] [(.int p3), (.int (v0_6 p0 p1 p2 p3 q4 w0)), (.int (v0_3 p0 p1 p2 p3 q4 w0)), (.long q4), (.int (2 : Int32)), (.int (v0_1 p0 p1 p2 p3 q4 w0)), (.int (2 : Int32)), (.ref b1084)])) _
      refine st1124.trans ?_
      show Steps p.tables e below (T1124.setTop (mkF m 108 #[.val (.int p0), .val (.int p1), .val (.int p2), .val (.int p3), .val (.long q4), .second, .val (.int (v0_1 p0 p1 p2 p3 q4 w0)), .val (.int (v0_3 p0 p1 p2 p3 q4 w0)), .val (.int (7 : Int32)), .val (.int (v0_6 p0 p1 p2 p3 q4 w0)), .val (.ref b1084), .unset, .unset] [(.int (f1 (v0_1 p0 p1 p2 p3 q4 w0) (2 : Int32) q4 (v0_3 p0 p1 p2 p3 q4 w0) (v0_6 p0 p1 p2 p3 q4 w0) p3 w0)), (.int (2 : Int32)), (.ref b1084)])) _
      refine st1132 _ ?_
      refine XS.iload X1132.here hx rfl (hb hby at_109) rfl ?_
      refine XT.iconstV X1132.here hx rfl (3 : Int32) (hb hby at_111) (by decide) ?_
      show Steps p.tables e below (T1132.setTop (mkF m 112 #[.val (.int p0), .val (.int p1), .val (.int p2), .val (.int p3), .val (.long q4), .second, .val (.int (v0_1 p0 p1 p2 p3 q4 w0)), .val (.int (v0_3 p0 p1 p2 p3 q4 w0)), .val (.int (7 : Int32)), .val (.int (v0_6 p0 p1 p2 p3 q4 w0)), .val (.ref b1084), .unset, .unset] [(.int (3 : Int32)), (.int (7 : Int32))])) _
      refine XS.icmpNo X1132.here hx rfl (hb hby at_112) rfl (XT.ii_le_f (by decide)) ?_
      refine XS.aload X1132.here hx rfl (hb hby at_115) rfl rfl ?_
      refine XT.iconstV X1132.here hx rfl (3 : Int32) (hb hby at_117) (by decide) ?_
      refine XS.iload X1132.here hx rfl (hb hby at_118) rfl ?_
      show Steps p.tables e below (T1132.setTop (mkF m 120 #[.val (.int p0), .val (.int p1), .val (.int p2), .val (.int p3), .val (.long q4), .second, .val (.int (v0_1 p0 p1 p2 p3 q4 w0)), .val (.int (v0_3 p0 p1 p2 p3 q4 w0)), .val (.int (7 : Int32)), .val (.int (v0_6 p0 p1 p2 p3 q4 w0)), .val (.ref b1084), .unset, .unset] [(.int (v0_1 p0 p1 p2 p3 q4 w0)), (.int (3 : Int32)), (.ref b1084)])) _
      refine XT.iconstV X1132.here hx rfl (3 : Int32) (hb hby at_120) (by decide) ?_
      refine XT.lload X1132.here hx rfl (hb hby at_121) rfl ?_
      refine XS.iload X1132.here hx rfl (hb hby at_123) rfl ?_
      refine XS.iload X1132.here hx rfl (hb hby at_125) rfl ?_
      show Steps p.tables e below (T1132.setTop (mkF m 127 #[.val (.int p0), .val (.int p1), .val (.int p2), .val (.int p3), .val (.long q4), .second, .val (.int (v0_1 p0 p1 p2 p3 q4 w0)), .val (.int (v0_3 p0 p1 p2 p3 q4 w0)), .val (.int (7 : Int32)), .val (.int (v0_6 p0 p1 p2 p3 q4 w0)), .val (.ref b1084), .unset, .unset] [(.int (v0_6 p0 p1 p2 p3 q4 w0)), (.int (v0_3 p0 p1 p2 p3 q4 w0)), (.long q4), (.int (3 : Int32)), (.int (v0_1 p0 p1 p2 p3 q4 w0)), (.int (3 : Int32)), (.ref b1084)])) _
      refine XS.iloadN X1132.here hx rfl (hb hby at_127) rfl ?_
      show Steps p.tables e below (T1132.setTop (mkF m 128 #[.val (.int p0), .val (.int p1), .val (.int p2), .val (.int p3), .val (.long q4), .second, .val (.int (v0_1 p0 p1 p2 p3 q4 w0)), .val (.int (v0_3 p0 p1 p2 p3 q4 w0)), .val (.int (7 : Int32)), .val (.int (v0_6 p0 p1 p2 p3 q4 w0)), .val (.ref b1084), .unset, .unset] [(.int p3), (.int (v0_6 p0 p1 p2 p3 q4 w0)), (.int (v0_3 p0 p1 p2 p3 q4 w0)), (.long q4), (.int (3 : Int32)), (.int (v0_1 p0 p1 p2 p3 q4 w0)), (.int (3 : Int32)), (.ref b1084)])) _
      refine st1137.trans ?_
      show Steps p.tables e below (T1137.setTop (mkF m 131 #[.val (.int p0), .val (.int p1), .val (.int p2), .val (.int p3), .val (.long q4), .second, .val (.int (v0_1 p0 p1 p2 p3 q4 w0)), .val (.int (v0_3 p0 p1 p2 p3 q4 w0)), .val (.int (7 : Int32)), .val (.int (v0_6 p0 p1 p2 p3 q4 w0)), .val (.ref b1084), .unset, .unset] [(.int (f1 (v0_1 p0 p1 p2 p3 q4 w0) (3 : Int32) q4 (v0_3 p0 p1 p2 p3 q4 w0) (v0_6 p0 p1 p2 p3 q4 w0) p3 w0)), (.int (3 : Int32)), (.ref b1084)])) _
      refine st1145 _ ?_
      refine XS.iload X1145.here hx rfl (hb hby at_132) rfl ?_
      refine XT.iconstV X1145.here hx rfl (4 : Int32) (hb hby at_134) (by decide) ?_
      show Steps p.tables e below (T1145.setTop (mkF m 135 #[.val (.int p0), .val (.int p1), .val (.int p2), .val (.int p3), .val (.long q4), .second, .val (.int (v0_1 p0 p1 p2 p3 q4 w0)), .val (.int (v0_3 p0 p1 p2 p3 q4 w0)), .val (.int (7 : Int32)), .val (.int (v0_6 p0 p1 p2 p3 q4 w0)), .val (.ref b1084), .unset, .unset] [(.int (4 : Int32)), (.int (7 : Int32))])) _
      refine XS.icmpNo X1145.here hx rfl (hb hby at_135) rfl (XT.ii_le_f (by decide)) ?_
      refine XS.aload X1145.here hx rfl (hb hby at_138) rfl rfl ?_
      refine XT.iconstV X1145.here hx rfl (4 : Int32) (hb hby at_140) (by decide) ?_
      refine XS.iload X1145.here hx rfl (hb hby at_141) rfl ?_
      show Steps p.tables e below (T1145.setTop (mkF m 143 #[.val (.int p0), .val (.int p1), .val (.int p2), .val (.int p3), .val (.long q4), .second, .val (.int (v0_1 p0 p1 p2 p3 q4 w0)), .val (.int (v0_3 p0 p1 p2 p3 q4 w0)), .val (.int (7 : Int32)), .val (.int (v0_6 p0 p1 p2 p3 q4 w0)), .val (.ref b1084), .unset, .unset] [(.int (v0_1 p0 p1 p2 p3 q4 w0)), (.int (4 : Int32)), (.ref b1084)])) _
      refine XT.iconstV X1145.here hx rfl (4 : Int32) (hb hby at_143) (by decide) ?_
      refine XT.lload X1145.here hx rfl (hb hby at_144) rfl ?_
      refine XS.iload X1145.here hx rfl (hb hby at_146) rfl ?_
      refine XS.iload X1145.here hx rfl (hb hby at_148) rfl ?_
      show Steps p.tables e below (T1145.setTop (mkF m 150 #[.val (.int p0), .val (.int p1), .val (.int p2), .val (.int p3), .val (.long q4), .second, .val (.int (v0_1 p0 p1 p2 p3 q4 w0)), .val (.int (v0_3 p0 p1 p2 p3 q4 w0)), .val (.int (7 : Int32)), .val (.int (v0_6 p0 p1 p2 p3 q4 w0)), .val (.ref b1084), .unset, .unset] [(.int (v0_6 p0 p1 p2 p3 q4 w0)), (.int (v0_3 p0 p1 p2 p3 q4 w0)), (.long q4), (.int (4 : Int32)), (.int (v0_1 p0 p1 p2 p3 q4 w0)), (.int (4 : Int32)), (.ref b1084)])) _
      refine XS.iloadN X1145.here hx rfl (hb hby at_150) rfl ?_
      show Steps p.tables e below (T1145.setTop (mkF m 151 #[.val (.int p0), .val (.int p1), .val (.int p2), .val (.int p3), .val (.long q4), .second, .val (.int (v0_1 p0 p1 p2 p3 q4 w0)), .val (.int (v0_3 p0 p1 p2 p3 q4 w0)), .val (.int (7 : Int32)), .val (.int (v0_6 p0 p1 p2 p3 q4 w0)), .val (.ref b1084), .unset, .unset] [(.int p3), (.int (v0_6 p0 p1 p2 p3 q4 w0)), (.int (v0_3 p0 p1 p2 p3 q4 w0)), (.long q4), (.int (4 : Int32)), (.int (v0_1 p0 p1 p2 p3 q4 w0)), (.int (4 : Int32)), (.ref b1084)])) _
      refine st1150.trans ?_
      show Steps p.tables e below (T1150.setTop (mkF m 154 #[.val (.int p0), .val (.int p1), .val (.int p2), .val (.int p3), .val (.long q4), .second, .val (.int (v0_1 p0 p1 p2 p3 q4 w0)), .val (.int (v0_3 p0 p1 p2 p3 q4 w0)), .val (.int (7 : Int32)), .val (.int (v0_6 p0 p1 p2 p3 q4 w0)), .val (.ref b1084), .unset, .unset] [(.int (f1 (v0_1 p0 p1 p2 p3 q4 w0) (4 : Int32) q4 (v0_3 p0 p1 p2 p3 q4 w0) (v0_6 p0 p1 p2 p3 q4 w0) p3 w0)), (.int (4 : Int32)), (.ref b1084)])) _
      refine st1158 _ ?_
      refine XS.iload X1158.here hx rfl (hb hby at_155) rfl ?_
      refine XT.iconstV X1158.here hx rfl (5 : Int32) (hb hby at_157) (by decide) ?_
      show Steps p.tables e below (T1158.setTop (mkF m 158 #[.val (.int p0), .val (.int p1), .val (.int p2), .val (.int p3), .val (.long q4), .second, .val (.int (v0_1 p0 p1 p2 p3 q4 w0)), .val (.int (v0_3 p0 p1 p2 p3 q4 w0)), .val (.int (7 : Int32)), .val (.int (v0_6 p0 p1 p2 p3 q4 w0)), .val (.ref b1084), .unset, .unset] [(.int (5 : Int32)), (.int (7 : Int32))])) _
      refine XS.icmpNo X1158.here hx rfl (hb hby at_158) rfl (XT.ii_le_f (by decide)) ?_
      refine XS.aload X1158.here hx rfl (hb hby at_161) rfl rfl ?_
      refine XT.iconstV X1158.here hx rfl (5 : Int32) (hb hby at_163) (by decide) ?_
      refine XS.iload X1158.here hx rfl (hb hby at_164) rfl ?_
      show Steps p.tables e below (T1158.setTop (mkF m 166 #[.val (.int p0), .val (.int p1), .val (.int p2), .val (.int p3), .val (.long q4), .second, .val (.int (v0_1 p0 p1 p2 p3 q4 w0)), .val (.int (v0_3 p0 p1 p2 p3 q4 w0)), .val (.int (7 : Int32)), .val (.int (v0_6 p0 p1 p2 p3 q4 w0)), .val (.ref b1084), .unset, .unset] [(.int (v0_1 p0 p1 p2 p3 q4 w0)), (.int (5 : Int32)), (.ref b1084)])) _
      refine XT.iconstV X1158.here hx rfl (5 : Int32) (hb hby at_166) (by decide) ?_
      refine XT.lload X1158.here hx rfl (hb hby at_167) rfl ?_
      refine XS.iload X1158.here hx rfl (hb hby at_169) rfl ?_
      refine XS.iload X1158.here hx rfl (hb hby at_171) rfl ?_
      show Steps p.tables e below (T1158.setTop (mkF m 173 #[.val (.int p0), .val (.int p1), .val (.int p2), .val (.int p3), .val (.long q4), .second, .val (.int (v0_1 p0 p1 p2 p3 q4 w0)), .val (.int (v0_3 p0 p1 p2 p3 q4 w0)), .val (.int (7 : Int32)), .val (.int (v0_6 p0 p1 p2 p3 q4 w0)), .val (.ref b1084), .unset, .unset] [(.int (v0_6 p0 p1 p2 p3 q4 w0)), (.int (v0_3 p0 p1 p2 p3 q4 w0)), (.long q4), (.int (5 : Int32)), (.int (v0_1 p0 p1 p2 p3 q4 w0)), (.int (5 : Int32)), (.ref b1084)])) _
      refine XS.iloadN X1158.here hx rfl (hb hby at_173) rfl ?_
      show Steps p.tables e below (T1158.setTop (mkF m 174 #[.val (.int p0), .val (.int p1), .val (.int p2), .val (.int p3), .val (.long q4), .second, .val (.int (v0_1 p0 p1 p2 p3 q4 w0)), .val (.int (v0_3 p0 p1 p2 p3 q4 w0)), .val (.int (7 : Int32)), .val (.int (v0_6 p0 p1 p2 p3 q4 w0)), .val (.ref b1084), .unset, .unset] [(.int p3), (.int (v0_6 p0 p1 p2 p3 q4 w0)), (.int (v0_3 p0 p1 p2 p3 q4 w0)), (.long q4), (.int (5 : Int32)), (.int (v0_1 p0 p1 p2 p3 q4 w0)), (.int (5 : Int32)), (.ref b1084)])) _
      refine st1163.trans ?_
      show Steps p.tables e below (T1163.setTop (mkF m 177 #[.val (.int p0), .val (.int p1), .val (.int p2), .val (.int p3), .val (.long q4), .second, .val (.int (v0_1 p0 p1 p2 p3 q4 w0)), .val (.int (v0_3 p0 p1 p2 p3 q4 w0)), .val (.int (7 : Int32)), .val (.int (v0_6 p0 p1 p2 p3 q4 w0)), .val (.ref b1084), .unset, .unset] [(.int (f1 (v0_1 p0 p1 p2 p3 q4 w0) (5 : Int32) q4 (v0_3 p0 p1 p2 p3 q4 w0) (v0_6 p0 p1 p2 p3 q4 w0) p3 w0)), (.int (5 : Int32)), (.ref b1084)])) _
      refine st1171 _ ?_
      refine XS.iload X1171.here hx rfl (hb hby at_178) rfl ?_
      refine XT.bipushV X1171.here hx rfl (6 : Int32) (hb hby at_180) (by decide) ?_
      show Steps p.tables e below (T1171.setTop (mkF m 182 #[.val (.int p0), .val (.int p1), .val (.int p2), .val (.int p3), .val (.long q4), .second, .val (.int (v0_1 p0 p1 p2 p3 q4 w0)), .val (.int (v0_3 p0 p1 p2 p3 q4 w0)), .val (.int (7 : Int32)), .val (.int (v0_6 p0 p1 p2 p3 q4 w0)), .val (.ref b1084), .unset, .unset] [(.int (6 : Int32)), (.int (7 : Int32))])) _
      refine XS.icmpNo X1171.here hx rfl (hb hby at_182) rfl (XT.ii_le_f (by decide)) ?_
      refine XS.aload X1171.here hx rfl (hb hby at_185) rfl rfl ?_
      refine XT.bipushV X1171.here hx rfl (6 : Int32) (hb hby at_187) (by decide) ?_
      refine XS.iload X1171.here hx rfl (hb hby at_189) rfl ?_
      show Steps p.tables e below (T1171.setTop (mkF m 191 #[.val (.int p0), .val (.int p1), .val (.int p2), .val (.int p3), .val (.long q4), .second, .val (.int (v0_1 p0 p1 p2 p3 q4 w0)), .val (.int (v0_3 p0 p1 p2 p3 q4 w0)), .val (.int (7 : Int32)), .val (.int (v0_6 p0 p1 p2 p3 q4 w0)), .val (.ref b1084), .unset, .unset] [(.int (v0_1 p0 p1 p2 p3 q4 w0)), (.int (6 : Int32)), (.ref b1084)])) _
      refine XT.bipushV X1171.here hx rfl (6 : Int32) (hb hby at_191) (by decide) ?_
      refine XT.lload X1171.here hx rfl (hb hby at_193) rfl ?_
      refine XS.iload X1171.here hx rfl (hb hby at_195) rfl ?_
      refine XS.iload X1171.here hx rfl (hb hby at_197) rfl ?_
      show Steps p.tables e below (T1171.setTop (mkF m 199 #[.val (.int p0), .val (.int p1), .val (.int p2), .val (.int p3), .val (.long q4), .second, .val (.int (v0_1 p0 p1 p2 p3 q4 w0)), .val (.int (v0_3 p0 p1 p2 p3 q4 w0)), .val (.int (7 : Int32)), .val (.int (v0_6 p0 p1 p2 p3 q4 w0)), .val (.ref b1084), .unset, .unset] [(.int (v0_6 p0 p1 p2 p3 q4 w0)), (.int (v0_3 p0 p1 p2 p3 q4 w0)), (.long q4), (.int (6 : Int32)), (.int (v0_1 p0 p1 p2 p3 q4 w0)), (.int (6 : Int32)), (.ref b1084)])) _
      refine XS.iloadN X1171.here hx rfl (hb hby at_199) rfl ?_
      show Steps p.tables e below (T1171.setTop (mkF m 200 #[.val (.int p0), .val (.int p1), .val (.int p2), .val (.int p3), .val (.long q4), .second, .val (.int (v0_1 p0 p1 p2 p3 q4 w0)), .val (.int (v0_3 p0 p1 p2 p3 q4 w0)), .val (.int (7 : Int32)), .val (.int (v0_6 p0 p1 p2 p3 q4 w0)), .val (.ref b1084), .unset, .unset] [(.int p3), (.int (v0_6 p0 p1 p2 p3 q4 w0)), (.int (v0_3 p0 p1 p2 p3 q4 w0)), (.long q4), (.int (6 : Int32)), (.int (v0_1 p0 p1 p2 p3 q4 w0)), (.int (6 : Int32)), (.ref b1084)])) _
      refine st1176.trans ?_
      show Steps p.tables e below (T1176.setTop (mkF m 203 #[.val (.int p0), .val (.int p1), .val (.int p2), .val (.int p3), .val (.long q4), .second, .val (.int (v0_1 p0 p1 p2 p3 q4 w0)), .val (.int (v0_3 p0 p1 p2 p3 q4 w0)), .val (.int (7 : Int32)), .val (.int (v0_6 p0 p1 p2 p3 q4 w0)), .val (.ref b1084), .unset, .unset] [(.int (f1 (v0_1 p0 p1 p2 p3 q4 w0) (6 : Int32) q4 (v0_3 p0 p1 p2 p3 q4 w0) (v0_6 p0 p1 p2 p3 q4 w0) p3 w0)), (.int (6 : Int32)), (.ref b1084)])) _
      refine st1184 _ ?_
      show Steps p.tables e below (T1184.setTop (mkF m 204 #[.val (.int p0), .val (.int p1), .val (.int p2), .val (.int p3), .val (.long q4), .second, .val (.int (v0_1 p0 p1 p2 p3 q4 w0)), .val (.int (v0_3 p0 p1 p2 p3 q4 w0)), .val (.int (7 : Int32)), .val (.int (v0_6 p0 p1 p2 p3 q4 w0)), .val (.ref b1084), .unset, .unset] [])) _
      refine st1189 _ ?_
      refine XS.dup X1189.here hx rfl (hb hby at_207) rfl rfl ?_
      refine XS.aload X1189.here hx rfl (hb hby at_208) rfl rfl ?_
      show Steps p.tables e below (T1189.setTop (mkF m 210 #[.val (.int p0), .val (.int p1), .val (.int p2), .val (.int p3), .val (.long q4), .second, .val (.int (v0_1 p0 p1 p2 p3 q4 w0)), .val (.int (v0_3 p0 p1 p2 p3 q4 w0)), .val (.int (7 : Int32)), .val (.int (v0_6 p0 p1 p2 p3 q4 w0)), .val (.ref b1084), .unset, .unset] [(.ref b1084), (.ref b1189), (.ref b1189)])) _
      refine st1213.trans ?_
      refine XS.astore X1213.here hx rfl (hb hby at_213) rfl rfl (l' := #[.val (.int p0), .val (.int p1), .val (.int p2), .val (.int p3), .val (.long q4), .second, .val (.int (v0_1 p0 p1 p2 p3 q4 w0)), .val (.int (v0_3 p0 p1 p2 p3 q4 w0)), .val (.int (7 : Int32)), .val (.int (v0_6 p0 p1 p2 p3 q4 w0)), .val (.ref b1084), .val (.ref b1189), .unset]) rfl ?_
      show Steps p.tables e below (T1213.setTop (mkF m 215 #[.val (.int p0), .val (.int p1), .val (.int p2), .val (.int p3), .val (.long q4), .second, .val (.int (v0_1 p0 p1 p2 p3 q4 w0)), .val (.int (v0_3 p0 p1 p2 p3 q4 w0)), .val (.int (7 : Int32)), .val (.int (v0_6 p0 p1 p2 p3 q4 w0)), .val (.ref b1084), .val (.ref b1189), .unset] [])) _
      refine XS.aconstNull X1213.here hx rfl (hb hby at_215) ?_
      refine XS.astore X1213.here hx rfl (hb hby at_216) rfl rfl (l' := #[.val (.int p0), .val (.int p1), .val (.int p2), .val (.int p3), .val (.long q4), .second, .val (.int (v0_1 p0 p1 p2 p3 q4 w0)), .val (.int (v0_3 p0 p1 p2 p3 q4 w0)), .val (.int (7 : Int32)), .val (.int (v0_6 p0 p1 p2 p3 q4 w0)), .val (.ref b1084), .val (.ref b1189), .val .null]) rfl ?_
      refine XS.aload X1213.here hx rfl (hb hby at_218) rfl rfl ?_
      show Steps p.tables e below (T1213.setTop (mkF m 220 #[.val (.int p0), .val (.int p1), .val (.int p2), .val (.int p3), .val (.long q4), .second, .val (.int (v0_1 p0 p1 p2 p3 q4 w0)), .val (.int (v0_3 p0 p1 p2 p3 q4 w0)), .val (.int (7 : Int32)), .val (.int (v0_6 p0 p1 p2 p3 q4 w0)), .val (.ref b1084), .val (.ref b1189), .val .null] [(.ref b1189)])) _
      refine st1240 _ ?_
      show Steps p.tables e below (T1240.setTop (mkF m 222 #[.val (.int p0), .val (.int p1), .val (.int p2), .val (.int p3), .val (.long q4), .second, .val (.int (v0_1 p0 p1 p2 p3 q4 w0)), .val (.int (v0_3 p0 p1 p2 p3 q4 w0)), .val (.int (7 : Int32)), .val (.int (v0_6 p0 p1 p2 p3 q4 w0)), .val (.ref b1084), .val (.ref b1189), .val .null] [(.ref la1240), (.ref b1189)])) _
      refine st1248.trans ?_
      show Steps p.tables e below (T1248.setTop (mkF m 225 #[.val (.int p0), .val (.int p1), .val (.int p2), .val (.int p3), .val (.long q4), .second, .val (.int (v0_1 p0 p1 p2 p3 q4 w0)), .val (.int (v0_3 p0 p1 p2 p3 q4 w0)), .val (.int (7 : Int32)), .val (.int (v0_6 p0 p1 p2 p3 q4 w0)), .val (.ref b1084), .val (.ref b1189), .val .null] [(.int (fsqD (7 : Int32) (4 : Int32) w0))])) _
      refine XS.ifYes X1248.here hx rfl (pc0 := 225) (pc' := 236) rfl (hb hby at_225) rfl (XT.i0_eq_t rfl) (by decide) (by decide) ?_
      refine XS.aload X1248.here hx rfl (hb hby at_236) rfl rfl ?_
      show Steps p.tables e below (T1248.setTop (mkF m 238 #[.val (.int p0), .val (.int p1), .val (.int p2), .val (.int p3), .val (.long q4), .second, .val (.int (v0_1 p0 p1 p2 p3 q4 w0)), .val (.int (v0_3 p0 p1 p2 p3 q4 w0)), .val (.int (7 : Int32)), .val (.int (v0_6 p0 p1 p2 p3 q4 w0)), .val (.ref b1084), .val (.ref b1189), .val .null] [(.ref b1189)])) _
      refine st1254 _ ?_
      show Steps p.tables e below (T1254.setTop (mkF m 240 #[.val (.int p0), .val (.int p1), .val (.int p2), .val (.int p3), .val (.long q4), .second, .val (.int (v0_1 p0 p1 p2 p3 q4 w0)), .val (.int (v0_3 p0 p1 p2 p3 q4 w0)), .val (.int (7 : Int32)), .val (.int (v0_6 p0 p1 p2 p3 q4 w0)), .val (.ref b1084), .val (.ref b1189), .val .null] [(.ref la1254), (.ref b1189)])) _
      refine st1262.trans ?_
      show Steps p.tables e below (T1262.setTop (mkF m 243 #[.val (.int p0), .val (.int p1), .val (.int p2), .val (.int p3), .val (.long q4), .second, .val (.int (v0_1 p0 p1 p2 p3 q4 w0)), .val (.int (v0_3 p0 p1 p2 p3 q4 w0)), .val (.int (7 : Int32)), .val (.int (v0_6 p0 p1 p2 p3 q4 w0)), .val (.ref b1084), .val (.ref b1189), .val .null] [(.int (fsqD (7 : Int32) (6 : Int32) w0))])) _
      refine XS.ifYes X1262.here hx rfl (pc0 := 243) (pc' := 251) rfl (hb hby at_243) rfl (XT.i0_eq_t rfl) (by decide) (by decide) ?_
      refine XS.aload X1262.here hx rfl (hb hby at_251) rfl rfl ?_
      show Steps p.tables e below (T1262.setTop (mkF m 253 #[.val (.int p0), .val (.int p1), .val (.int p2), .val (.int p3), .val (.long q4), .second, .val (.int (v0_1 p0 p1 p2 p3 q4 w0)), .val (.int (v0_3 p0 p1 p2 p3 q4 w0)), .val (.int (7 : Int32)), .val (.int (v0_6 p0 p1 p2 p3 q4 w0)), .val (.ref b1084), .val (.ref b1189), .val .null] [(.ref b1189)])) _
      refine st1268 _ ?_
      refine XS.aload X1268.here hx rfl (hb hby at_256) rfl rfl ?_
      show Steps p.tables e below (T1268.setTop (mkF m 258 #[.val (.int p0), .val (.int p1), .val (.int p2), .val (.int p3), .val (.long q4), .second, .val (.int (v0_1 p0 p1 p2 p3 q4 w0)), .val (.int (v0_3 p0 p1 p2 p3 q4 w0)), .val (.int (7 : Int32)), .val (.int (v0_6 p0 p1 p2 p3 q4 w0)), .val (.ref b1084), .val (.ref b1189), .val .null] [.null, .null])) _
      refine XT.acmpNo X1268.here hx rfl (hb hby at_258) rfl rfl rfl (XT.aa_ne_f rfl) ?_
      refine XT.iconstV X1268.here hx rfl (1 : Int32) (hb hby at_261) (by decide) ?_
      show Steps p.tables e below (T1268.setTop (mkF m 262 #[.val (.int p0), .val (.int p1), .val (.int p2), .val (.int p3), .val (.long q4), .second, .val (.int (v0_1 p0 p1 p2 p3 q4 w0)), .val (.int (v0_3 p0 p1 p2 p3 q4 w0)), .val (.int (7 : Int32)), .val (.int (v0_6 p0 p1 p2 p3 q4 w0)), .val (.ref b1084), .val (.ref b1189), .val .null] [(.int (1 : Int32))])) _
      refine XS.goto X1268.here hx rfl (pc0 := 262) (pc' := 266) rfl (hb hby at_262) (by decide) (by decide) ?_
      show Steps p.tables e below (T1268.setTop (mkF m 266 #[.val (.int p0), .val (.int p1), .val (.int p2), .val (.int p3), .val (.long q4), .second, .val (.int (v0_1 p0 p1 p2 p3 q4 w0)), .val (.int (v0_3 p0 p1 p2 p3 q4 w0)), .val (.int (7 : Int32)), .val (.int (v0_6 p0 p1 p2 p3 q4 w0)), .val (.ref b1084), .val (.ref b1189), .val .null] [(.int (1 : Int32))])) _
      exact retN X1268 hx (t := .boolean) Bd.returns (by simp) (hb hby at_266) hr
    · skip
      show Q0 Z p0 p1 p2 p3 q4 w0 u1_SF w2_V w3_N w4_P kV w5_L w6_L w7_B kB0 w8_B kB1 h0 n0 _ T1268.heap _
      exact ⟨rfl, N1268⟩
set_option maxRecDepth 65536 in
set_option maxHeartbeats 40000000 in
theorem comes_1 {Post : Tables → Env → Array Value → State → Outcome → State → Prop} (hpost : ∀ tb e args s v u, (limb_1_1.after args s (.returned v) u = true ∧ limb_1_2.after args s (.returned v) u = true ∧ True) → Jvm.D.FramedW s (.returned v) u (Jvm.fieldLocs frame_1_writes args s ++ Jvm.arrayLocs frame_1_arrays args s ++ Jvm.staticLocs frame_1_statics s) 24 4224 → Post tb e args s (.returned v) u) :
    ArmFor flags0 classFile x code maxLocals ret World_1 tables_1 room_1 Calls_1 rest_1 Pre_1 Post := by
  intro l hfl _ _ p e ha hc hk s m args below hf hA hF happ hP
  obtain ⟨hcalls, hrest, hpre⟩ := hP
  obtain ⟨-, -, -, hnamed, -, -, -, hat⟩ := (Spec.applies_iff hf).mp happ
  obtain ⟨hg, hn⟩ := and_e (Cond.before_iff.mp (show (Jvm.Cond.and given_1 narrow_1).before args s = true from hpre))
  obtain ⟨hcount, r0⟩ := and_e hg
  obtain ⟨ha0, r1⟩ := and_e r0
  obtain ⟨ha1, r2⟩ := and_e r1
  obtain ⟨ha2, r3⟩ := and_e r2
  obtain ⟨ha3, r4⟩ := and_e r3
  obtain ⟨w0, w1, w2, w3, w4, rfl⟩ : ∃ w0 w1 w2 w3 w4 : Value, args = #[w0, w1, w2, w3, w4] := by
    have hs : args.size = 5 := by simpa [Cond.value, given_1] using hcount
    obtain ⟨L⟩ := args
    match L, hs with
    | [w0, w1, w2, w3, w4], _ => exact ⟨w0, w1, w2, w3, w4, rfl⟩
  have hw := fun d (hd : d ∈ tables_1) => atoms_spec (ws := Jvm.Cond.code x code maxLocals ret :: tables_1) hat d (List.mem_cons_of_mem _ hd)
  have hfit : Fit s := fun {y c} hc i hi => by
    obtain ⟨ha, rfl⟩ := Array.getElem?_eq_some_iff.mp hc
    have q := List.all_eq_true.mp ((Array.all_eq_true_iff_forall_mem.mp hF) _ (Array.getElem_mem ha)) i (List.mem_range.mpr hi)
    simpa [Array.getElem?_eq_getElem hi] using q
  obtain ⟨i0, ei0⟩ := is_v ha0
  obtain rfl : w0 = (.int i0) := Option.some.inj ei0
  obtain ⟨i1, ei1⟩ := is_v ha1
  obtain rfl : w1 = (.int i1) := Option.some.inj ei1
  obtain ⟨i2, ei2⟩ := is_v ha2
  obtain rfl : w2 = (.int i2) := Option.some.inj ei2
  obtain ⟨i3, ei3⟩ := is_v ha3
  obtain rfl : w3 = (.int i3) := Option.some.inj ei3
  obtain ⟨i4, ei4⟩ := isL_v r4
  obtain rfl : w4 = (.long i4) := Option.some.inj ei4
  obtain ⟨hsets, hown0⟩ := atoms_of _ (rest_1_c_eq ▸ (show rest_1_c.before _ s = true from hrest))
  obtain ⟨vcs, ecs⟩ := is_v (Cond.before_iff.mp (hsets _ (List.mem_of_getElem? (i := 1) rfl)))
  have hcs := own_ne_int (hsets _ (List.mem_of_getElem? (i := 2) rfl)) ecs
  have SC := Sta.start ecs (Or.inl (hsets _ (List.mem_of_getElem? (i := 0) rfl)))
  obtain ⟨usf, esf, hsf⟩ := own_isref (Cond.before_iff.mp (hsets _ (List.mem_of_getElem? (i := 8) rfl)))
  have SSF := Sta.start esf (Or.inl (hsets _ (List.mem_of_getElem? (i := 7) rfl)))
  have hcw : Jvm.Lit.compactW.before _ s = true := (hsets _ (List.mem_of_getElem? (i := 2) rfl))
  obtain ⟨c0, n0⟩ := and_e hn
  obtain ⟨c1, n1⟩ := and_e n0
  obtain ⟨c2, n2⟩ := and_e n1
  obtain ⟨c3, n3⟩ := and_e n2
  obtain ⟨c4, n4⟩ := and_e n3
  obtain ⟨c5, n5⟩ := and_e n4
  obtain ⟨c6, n6⟩ := and_e n5
  obtain ⟨c7, n7⟩ := and_e n6
  obtain ⟨c8, n8⟩ := and_e n7
  obtain ⟨c9, n9⟩ := and_e n8
  obtain ⟨c10, n10⟩ := and_e n9
  obtain ⟨c11, n11⟩ := and_e n10
  obtain ⟨c12, n12⟩ := and_e n11
  obtain ⟨c13, n13⟩ := and_e n12
  obtain ⟨c14, n14⟩ := and_e n13
  obtain ⟨c15, n15⟩ := and_e n14
  obtain ⟨c16, n16⟩ := and_e n15
  obtain ⟨c17, n17⟩ := and_e n16
  obtain ⟨c18, n18⟩ := and_e n17
  obtain ⟨c19, n19⟩ := and_e n18
  obtain ⟨c20, n20⟩ := and_e n19
  obtain ⟨c21, n21⟩ := and_e n20
  obtain ⟨c22, n22⟩ := and_e n21
  obtain ⟨c23, c24⟩ := and_e n22
  obtain ⟨aV, eV⟩ := arr_v c0
  obtain ⟨clV, AV⟩ := Arr.start eV c0
  have EV := Exa.start eV c1
  have lV := own_len (Jvm.Free.NT.SwA.eq_int (Cond.before_iff.mpr c2)) eV AV.1
  obtain ⟨aN, eN⟩ := exa_v c3
  have EN := Exa.start eN c3
  obtain ⟨aP, eP⟩ := exa_v c4
  have EP := Exa.start eP c4
  have VV : Arv s s.heap aV clV.cls (.object "com/example/vellum_index/vellumindex/Stemmer") (2 : Int32) [(.ref aN), (.ref aP)] .null := Arv.start hfit AV lV.2 lV.1 (by decide) rfl ⟨own_slot eN eV rfl AV.1, own_slot eP eV rfl AV.1, trivial⟩
  have SV := Sta.start eV (Or.inr ⟨hw _ (List.mem_of_getElem? (i := 85) rfl), hw _ (List.mem_of_getElem? (i := 91) rfl)⟩)
  have SN := Sta.start (own_eq_ref c14 eN) (Or.inr ⟨hw _ (List.mem_of_getElem? (i := 85) rfl), hw _ (List.mem_of_getElem? (i := 112) rfl)⟩)
  have SP := Sta.start (own_eq_ref c13 eP) (Or.inr ⟨hw _ (List.mem_of_getElem? (i := 85) rfl), hw _ (List.mem_of_getElem? (i := 110) rfl)⟩)
  obtain ⟨aL0, eL0⟩ := exa_v c5
  have EL0 := Exa.start eL0 c5
  have FL0 := Fld.start ((fld_at eN).symm.trans eL0)
  have FC0 := Fld.start ((fld_at eL0).symm.trans (Jvm.Free.NT.SwA.eq_int (Cond.before_iff.mpr c6)))
  obtain ⟨aB0, eB0⟩ := arr_v c7
  obtain ⟨clB0, AB0⟩ := Arr.start eB0 c7
  have FB0 := Fld.start ((fld_at eL0).symm.trans eB0)
  have lB0 := own_len (Jvm.Free.NT.SwA.eq_int (Cond.before_iff.mpr c8)) eB0 AB0.1
  have VB0 : Arv s s.heap aB0 clB0.cls .byte (4 : Int32) [(.int (110 : Int32)), (.int (111 : Int32)), (.int (110 : Int32)), (.int (101 : Int32))] (.int (0 : Int32)) := Arv.start hfit AB0 lB0.2 lB0.1 (by decide) rfl ⟨own_slot (Jvm.Free.NT.SwA.eq_int (Cond.before_iff.mpr c15)) eB0 rfl AB0.1, own_slot (Jvm.Free.NT.SwA.eq_int (Cond.before_iff.mpr c16)) eB0 rfl AB0.1, own_slot (Jvm.Free.NT.SwA.eq_int (Cond.before_iff.mpr c17)) eB0 rfl AB0.1, own_slot (Jvm.Free.NT.SwA.eq_int (Cond.before_iff.mpr c18)) eB0 rfl AB0.1, trivial⟩
  obtain ⟨aL1, eL1⟩ := exa_v c9
  have EL1 := Exa.start eL1 c9
  have FL1 := Fld.start ((fld_at eP).symm.trans eL1)
  have FC1 := Fld.start ((fld_at eL1).symm.trans (Jvm.Free.NT.SwA.eq_int (Cond.before_iff.mpr c10)))
  obtain ⟨aB1, eB1⟩ := arr_v c11
  obtain ⟨clB1, AB1⟩ := Arr.start eB1 c11
  have FB1 := Fld.start ((fld_at eL1).symm.trans eB1)
  have lB1 := own_len (Jvm.Free.NT.SwA.eq_int (Cond.before_iff.mpr c12)) eB1 AB1.1
  have VB1 : Arv s s.heap aB1 clB1.cls .byte (6 : Int32) [(.int (112 : Int32)), (.int (111 : Int32)), (.int (114 : Int32)), (.int (116 : Int32)), (.int (101 : Int32)), (.int (114 : Int32))] (.int (0 : Int32)) := Arv.start hfit AB1 lB1.2 lB1.1 (by decide) rfl ⟨own_slot (Jvm.Free.NT.SwA.eq_int (Cond.before_iff.mpr c19)) eB1 rfl AB1.1, own_slot (Jvm.Free.NT.SwA.eq_int (Cond.before_iff.mpr c20)) eB1 rfl AB1.1, own_slot (Jvm.Free.NT.SwA.eq_int (Cond.before_iff.mpr c21)) eB1 rfl AB1.1, own_slot (Jvm.Free.NT.SwA.eq_int (Cond.before_iff.mpr c22)) eB1 rfl AB1.1, own_slot (Jvm.Free.NT.SwA.eq_int (Cond.before_iff.mpr c23)) eB1 rfl AB1.1, own_slot (Jvm.Free.NT.SwA.eq_int (Cond.before_iff.mpr c24)) eB1 rfl AB1.1, trivial⟩
  obtain ⟨n, o, h1, h2, h3, _, L, rfl, ⟨rfl, N⟩, hq⟩ := rm0 l s _ hw tables_1 i0 i1 i2 i3 i4 vcs usf aV aN aP clV.cls aL0 aL1 aB0 clB0.cls aB1 clB1.cls s.heap s.heap.size (Nat.le_refl _) (Old.start s) SC hcs SSF hsf SV SN SP VV EV EN EP FL0 FL1 EL0 FC0 FB0 VB0 EL1 FC1 FB1 VB1 p e ha hc hk s m _ below hf ((Spec.applies_iff_loose hf).mp happ).1 ⟨rfl, State.Warmed39.refl s, rfl, CHv.start (own_ew hw) (fun q hq => hcalls.1 q hq) hcw (own_ws hw _ (by simp [Bundle.stringAtoms])) (own_ws hw _ (by simp [Bundle.stringAtoms, Bundle.sN]))⟩ trivial
  refine ⟨n, _, h1, h2, h3, hpost _ _ _ _ _ _ ⟨Cond.after_iff.mpr rfl, Cond.after_iff.mpr (eq_i res_at (Term.int_eval (1)) rfl), trivial⟩ ⟨hq.1, hq.2.1, hq.2.2.1, (hq.2.2.2.sift fun y hy => Or.inr (N y hy)).mono (by decide) (by decide)⟩⟩
theorem main_1_1 : Claimed_1_1 := comes_1 fun _ _ _ _ _ _ h hF => ⟨h.1, hF⟩
theorem main_1_2 : Claimed_1_2 := comes_1 fun _ _ _ _ _ _ h hF => ⟨h.2.1, hF⟩
end Jvm.Pilot.@@N@@
namespace Jvm.Pilot.@@N@@
open Jvm Jvm.ClassFile Sem Op Lib Jvm.Free Jvm.Stand Jvm.Pilot.@@N@@.Jvm.D
/-! MADE BY PROGRAM (witnessworld.py) out of the Statement's table words and the real class files: 24 classes; the members and pool entries that the words name. The judged class is class 1, her method 3. -/
namespace start1
open Jvm.ClassFile
def u (s : String) : CpInfo := .utf8 (stringToUtf16 s)
/-- a pool by its gaps: so many unusable entries, then the entry; so many at the end -/
def gap : Nat → List CpInfo → List CpInfo
  | 0, r => r
  | n + 1, r => .unusable :: gap n r
def poolList (es : List (Nat × CpInfo)) (last : Nat) : List CpInfo := es.foldr (fun e r => gap e.1 (e.2 :: r)) (gap last [])
def pool (es : List (Nat × CpInfo)) (last : Nat) : Array CpInfo := ⟨poolList es last⟩
def fileOf (pool : Array CpInfo) (this : Nat) (attrs : Array Attribute := #[]) (ms : Array MethodInfo := #[]) (fl : Nat := 33) (sup : Nat := 0) (ifs : Array Nat := #[]) (fds : Array FieldInfo := #[]) : ClassFile where
  minorVersion := 0
  majorVersion := 65
  constantPool := pool
  accessFlags := fl
  thisClass := this
  superClass := sup
  interfaces := ifs
  fields := fds
  methods := ms
  attributes := attrs
def plain (name : String) (sup : Option ClassId) : Class where
  name := name
  kind := .ordinary
  loader := none
  accessFlags := 33
  super := sup
  interfaces := #[]
  cf := none
  fields := #[]
  methods := #[]
  instanceTypes := #[]
  staticTypes := #[]
  resolved := #[]
  callSites := []
  init := .initialized
  statics := none
  mirror := none

def pool0 : Array CpInfo := pool [(5, u "<init>"), (0, u "()V"), (1, .class_ 10), (1, u "java/lang/Object"), (85, u "clone"), (0, u "()Ljava/lang/Object;")] 26

def k0c0 : Code := { maxStack := 0, maxLocals := 1, code := object_method_1_code, exceptionTable := #[], attributes := #[] }
def k0m0 : Method := { name := "<init>", desc := "()V", sig := { parameters := [], returnType := none }, accessFlags := 1, code := some k0c0 }
def k0m1 : Method := { name := "clone", desc := "()Ljava/lang/Object;", sig := { parameters := [], returnType := some (.object "java/lang/Object") }, accessFlags := 260, code := none }
/-- java/lang/Object -/
def k0 : Class := { plain "java/lang/Object" none with
  accessFlags := 33
  interfaces := #[]
  cf := some (fileOf pool0 8 #[] #[{ accessFlags := 1, nameIndex := 5, descriptorIndex := 6, attributes := #[] }, { accessFlags := 260, nameIndex := 96, descriptorIndex := 97, attributes := #[] }] 33 0 #[] #[])
  fields := #[]
  methods := #[k0m0, k0m1]
  instanceTypes := #[]
  staticTypes := #[]
  resolved := Array.replicate 124 none
  statics := none }

def pool1 : Array CpInfo := pool [(2, .class_ 4), (1, u "java/lang/Object"), (0, u "<init>"), (0, u "()V"), (0, .string 8), (0, u "none"), (0, .string 10), (0, u "porter"), (0, .string 12), (0, u ""), (0, .methodref 14 15), (0, .class_ 16), (0, .nameAndType 17 18), (0, u "java/lang/String"), (0, u "length"), (0, u "()I"), (0, .methodref 14 20), (0, .nameAndType 21 22), (0, u "charAt"), (0, u "(I)C"), (0, .long 255), (1, .methodref 26 27), (0, .class_ 28), (0, .nameAndType 29 30), (0, u "com/example/vellum_index/vellumindex/StemmerLabelledPinLaw"), (0, u "base"), (0, u "(IIJ)C"), (0, .integer 2147483647), (0, .methodref 26 33), (0, .nameAndType 34 35), (0, u "at"), (0, u "(IIJZII)C"), (0, .methodref 14 37), (0, .nameAndType 5 38), (0, u "([C)V"), (0, .methodref 14 40), (0, .nameAndType 41 42), (0, u "equals"), (0, u "(Ljava/lang/Object;)Z"), (0, .fieldref 44 45), (0, .class_ 46), (0, .nameAndType 47 48), (0, u "com/example/vellum_index/vellumindex/Stemmer"), (0, u "NONE"), (0, u "Lcom/example/vellum_index/vellumindex/Stemmer;"), (0, .fieldref 44 50), (0, .nameAndType 51 48), (0, u "PORTER"), (0, .methodref 44 53), (0, .nameAndType 54 55), (0, u "labelled"), (0, u "(Ljava/lang/String;)Lcom/example/vellum_index/vellumindex/Stemmer;"), (3, u "law"), (0, u "(IIIIJ)Z")] 4

def k1m0 : Method := { name := "<init>", desc := "()V", sig := { parameters := [], returnType := none }, accessFlags := 2, code := none }
def k1c1 : Code := { maxStack := 4, maxLocals := 5, code := method_2_code, exceptionTable := #[], attributes := #[] }
def k1m1 : Method := { name := "base", desc := "(IIJ)C", sig := { parameters := [.int, .int, .long], returnType := some .char }, accessFlags := 10, code := some k1c1 }
def k1c2 : Code := { maxStack := 4, maxLocals := 7, code := method_3_code, exceptionTable := #[], attributes := #[] }
def k1m2 : Method := { name := "at", desc := "(IIJZII)C", sig := { parameters := [.int, .int, .long, .boolean, .int, .int], returnType := some .char }, accessFlags := 10, code := some k1c2 }
def k1c3 : Code := { maxStack := 9, maxLocals := 13, code := code, exceptionTable := #[], attributes := #[] }
def k1m3 : Method := { name := "law", desc := "(IIIIJ)Z", sig := { parameters := [.int, .int, .int, .int, .long], returnType := some .boolean }, accessFlags := 9, code := some k1c3 }
/-- com/example/vellum_index/vellumindex/StemmerLabelledPinLaw -/
def k1 : Class := { plain "com/example/vellum_index/vellumindex/StemmerLabelledPinLaw" (some 0) with
  accessFlags := 49
  interfaces := #[]
  cf := some (fileOf pool1 26 #[] #[{ accessFlags := 2, nameIndex := 5, descriptorIndex := 6, attributes := #[] }, { accessFlags := 10, nameIndex := 29, descriptorIndex := 30, attributes := #[] }, { accessFlags := 10, nameIndex := 34, descriptorIndex := 35, attributes := #[] }, { accessFlags := 9, nameIndex := 59, descriptorIndex := 60, attributes := #[] }] 49 2 #[] #[])
  fields := #[]
  methods := #[k1m0, k1m1, k1m2, k1m3]
  instanceTypes := #[]
  staticTypes := #[]
  resolved := Array.replicate 65 none
  statics := none }

def pool2 : Array CpInfo := pool [(1, .class_ 2), (0, u "java/io/Serializable"), (0, .class_ 4), (0, u "java/lang/Object")] 2

/-- java/io/Serializable -/
def k2 : Class := { plain "java/io/Serializable" (some 0) with
  accessFlags := 1537
  interfaces := #[]
  cf := some (fileOf pool2 1 #[] #[] 1537 3 #[] #[])
  fields := #[]
  methods := #[]
  instanceTypes := #[]
  staticTypes := #[]
  resolved := Array.replicate 7 none
  statics := none }

def pool3 : Array CpInfo := pool [(1, .class_ 2), (0, u "java/lang/Comparable"), (0, .class_ 4), (0, u "java/lang/Object")] 7

/-- java/lang/Comparable -/
def k3 : Class := { plain "java/lang/Comparable" (some 0) with
  accessFlags := 1537
  interfaces := #[]
  cf := some (fileOf pool3 1 #[] #[] 1537 3 #[] #[])
  fields := #[]
  methods := #[]
  instanceTypes := #[]
  staticTypes := #[]
  resolved := Array.replicate 12 none
  statics := none }

def pool4 : Array CpInfo := pool [(2, .class_ 4), (1, u "java/lang/CharSequence"), (42, .class_ 48), (0, u "java/lang/CharSequence$1CodePointIterator"), (10, .class_ 60), (0, u "java/lang/CharSequence$1CharIterator"), (5, .class_ 67), (0, u "java/lang/Object")] 63

/-- java/lang/CharSequence -/
def k4 : Class := { plain "java/lang/CharSequence" (some 0) with
  accessFlags := 1537
  interfaces := #[]
  cf := some (fileOf pool4 2 #[.nestMembers #[47, 59]] #[] 1537 66 #[] #[])
  fields := #[]
  methods := #[]
  instanceTypes := #[]
  staticTypes := #[]
  resolved := Array.replicate 131 none
  statics := none }

def pool5 : Array CpInfo := pool [(1, .class_ 2), (0, u "java/lang/constant/Constable"), (0, .class_ 4), (0, u "java/lang/Object")] 6

/-- java/lang/constant/Constable -/
def k5 : Class := { plain "java/lang/constant/Constable" (some 0) with
  accessFlags := 1537
  interfaces := #[]
  cf := some (fileOf pool5 1 #[] #[] 1537 3 #[] #[])
  fields := #[]
  methods := #[]
  instanceTypes := #[]
  staticTypes := #[]
  resolved := Array.replicate 11 none
  statics := none }

def pool6 : Array CpInfo := pool [(1, .class_ 2), (0, u "java/lang/constant/ConstantDesc"), (0, .class_ 4), (0, u "java/lang/Object")] 32

/-- java/lang/constant/ConstantDesc -/
def k6 : Class := { plain "java/lang/constant/ConstantDesc" (some 0) with
  accessFlags := 1537
  interfaces := #[]
  cf := some (fileOf pool6 1 #[] #[] 1537 3 #[] #[])
  fields := #[]
  methods := #[]
  instanceTypes := #[]
  staticTypes := #[]
  resolved := Array.replicate 37 none
  statics := none }

def pool7 : Array CpInfo := pool [(1, .methodref 2 3), (0, .class_ 4), (0, .nameAndType 5 6), (0, u "java/lang/Object"), (0, u "<init>"), (0, u "()V"), (0, .string 8), (0, u ""), (0, .fieldref 10 11), (0, .class_ 12), (0, .nameAndType 13 14), (0, u "java/lang/String"), (0, u "value"), (0, u "[B"), (0, .fieldref 10 16), (0, .nameAndType 17 18), (0, u "coder"), (0, u "B"), (2, u "hash"), (0, u "I"), (2, u "hashIsZero"), (0, u "Z"), (0, .methodref 10 28), (0, .nameAndType 5 29), (0, u "([CIILjava/lang/Void;)V"), (8, .fieldref 10 39), (0, .nameAndType 40 26), (0, u "COMPACT_STRINGS"), (1, .class_ 44), (1, u "java/lang/StringUTF16"), (0, u "compress"), (1, .methodref 42 48), (0, .nameAndType 49 50), (0, u "coderFromArrayLen"), (0, u "([BI)B"), (56, .class_ 109), (1, u "java/lang/StringLatin1"), (32, u "()Z"), (34, .methodref 42 178), (0, .nameAndType 45 179), (0, u "([CII)[B"), (154, u "()I"), (0, .methodref 10 336), (0, .nameAndType 17 337), (0, u "()B"), (25, u "([BI)C"), (27, u "(II)V"), (35, u "(I)C"), (64, .methodref 10 493), (0, .nameAndType 494 142), (0, u "isLatin1"), (0, .methodref 107 496), (0, .nameAndType 497 363), (0, u "charAt"), (3, u "checkIndex"), (5, u "length"), (33, .methodref 107 542), (0, .nameAndType 543 544), (0, u "equals"), (0, u "([B[B)Z"), (28, u "(Ljava/lang/Object;)Z"), (1, .class_ 576), (0, u "java/lang/CharSequence"), (22, u "CASE_INSENSITIVE_ORDER"), (0, u "Ljava/util/Comparator;"), (409, u "([C)V"), (42, .fieldref 1054 1055), (0, .class_ 1056), (0, .nameAndType 1057 1058), (0, u "jdk/internal/util/Preconditions"), (0, u "SIOOBE_FORMATTER"), (0, u "Ljava/util/function/BiFunction;"), (0, .methodref 1054 1060), (0, .nameAndType 501 1061), (0, u "(IILjava/util/function/BiFunction;)I"), (39, u "serialPersistentFields"), (0, u "[Ljava/io/ObjectStreamField;"), (0, .class_ 1104), (0, u "java/lang/String$CaseInsensitiveComparator"), (1, .class_ 1107), (0, u "java/io/Serializable"), (0, .class_ 1109), (0, u "java/lang/Comparable"), (0, .class_ 1111), (0, u "java/lang/constant/Constable"), (0, .class_ 1113), (0, u "java/lang/constant/ConstantDesc"), (2, u "serialVersionUID"), (0, u "J"), (3, u "REPL"), (0, u "C"), (2, u "LATIN1"), (1, u "UTF16")] 323

def k7m0 : Method := { name := "<init>", desc := "()V", sig := { parameters := [], returnType := none }, accessFlags := 1, code := none }
def k7c1 : Code := { maxStack := 5, maxLocals := 2, code := jdk_42_method_3_code, exceptionTable := #[], attributes := #[] }
def k7m1 : Method := { name := "<init>", desc := "([C)V", sig := { parameters := [(.array .char)], returnType := none }, accessFlags := 1, code := some k7c1 }
def k7c2 : Code := { maxStack := 2, maxLocals := 1, code := jdk_42_method_54_code, exceptionTable := #[], attributes := #[] }
def k7m2 : Method := { name := "length", desc := "()I", sig := { parameters := [], returnType := some .int }, accessFlags := 1, code := some k7c2 }
def k7c3 : Code := { maxStack := 2, maxLocals := 2, code := jdk_42_method_56_code, exceptionTable := #[], attributes := #[] }
def k7m3 : Method := { name := "charAt", desc := "(I)C", sig := { parameters := [.int], returnType := some .char }, accessFlags := 1, code := some k7c3 }
def k7c4 : Code := { maxStack := 2, maxLocals := 3, code := jdk_42_method_66_code, exceptionTable := #[], attributes := #[] }
def k7m4 : Method := { name := "equals", desc := "(Ljava/lang/Object;)Z", sig := { parameters := [(.object "java/lang/Object")], returnType := some .boolean }, accessFlags := 1, code := some k7c4 }
def k7c5 : Code := { maxStack := 4, maxLocals := 6, code := jdk_42_method_149_code, exceptionTable := #[], attributes := #[] }
def k7m5 : Method := { name := "<init>", desc := "([CIILjava/lang/Void;)V", sig := { parameters := [(.array .char), .int, .int, (.object "java/lang/Void")], returnType := none }, accessFlags := 2, code := some k7c5 }
def k7c6 : Code := { maxStack := 1, maxLocals := 1, code := jdk_42_method_152_code, exceptionTable := #[], attributes := #[] }
def k7m6 : Method := { name := "coder", desc := "()B", sig := { parameters := [], returnType := some .byte }, accessFlags := 0, code := some k7c6 }
def k7c7 : Code := { maxStack := 1, maxLocals := 1, code := jdk_42_method_154_code, exceptionTable := #[], attributes := #[] }
def k7m7 : Method := { name := "isLatin1", desc := "()Z", sig := { parameters := [], returnType := some .boolean }, accessFlags := 0, code := some k7c7 }
def k7c8 : Code := { maxStack := 3, maxLocals := 2, code := jdk_42_method_155_code, exceptionTable := #[], attributes := #[] }
def k7m8 : Method := { name := "checkIndex", desc := "(II)V", sig := { parameters := [.int, .int], returnType := none }, accessFlags := 8, code := some k7c8 }
/-- java/lang/String -/
def k7 : Class := { plain "java/lang/String" (some 0) with
  accessFlags := 49
  interfaces := #[2, 3, 4, 5, 6]
  cf := some (fileOf pool7 10 #[.nestMembers #[1103]] #[{ accessFlags := 1, nameIndex := 5, descriptorIndex := 6, attributes := #[] }, { accessFlags := 1, nameIndex := 5, descriptorIndex := 1010, attributes := #[] }, { accessFlags := 1, nameIndex := 507, descriptorIndex := 334, attributes := #[] }, { accessFlags := 1, nameIndex := 497, descriptorIndex := 427, attributes := #[] }, { accessFlags := 1, nameIndex := 543, descriptorIndex := 573, attributes := #[] }, { accessFlags := 2, nameIndex := 5, descriptorIndex := 29, attributes := #[] }, { accessFlags := 0, nameIndex := 17, descriptorIndex := 337, attributes := #[] }, { accessFlags := 0, nameIndex := 494, descriptorIndex := 142, attributes := #[] }, { accessFlags := 8, nameIndex := 501, descriptorIndex := 391, attributes := #[] }] 49 2 #[1106, 1108, 575, 1110, 1112] #[{ accessFlags := 18, nameIndex := 13, descriptorIndex := 14, attributes := #[] }, { accessFlags := 18, nameIndex := 17, descriptorIndex := 18, attributes := #[] }, { accessFlags := 2, nameIndex := 21, descriptorIndex := 22, attributes := #[] }, { accessFlags := 2, nameIndex := 25, descriptorIndex := 26, attributes := #[] }, { accessFlags := 26, nameIndex := 1116, descriptorIndex := 1117, attributes := #[] }, { accessFlags := 24, nameIndex := 40, descriptorIndex := 26, attributes := #[] }, { accessFlags := 26, nameIndex := 1101, descriptorIndex := 1102, attributes := #[] }, { accessFlags := 26, nameIndex := 1121, descriptorIndex := 1122, attributes := #[] }, { accessFlags := 25, nameIndex := 599, descriptorIndex := 600, attributes := #[] }, { accessFlags := 24, nameIndex := 1125, descriptorIndex := 18, attributes := #[] }, { accessFlags := 24, nameIndex := 1127, descriptorIndex := 18, attributes := #[] }])
  fields := #[{ name := "value", type := (.array .byte), accessFlags := 18, slot := 0, constantValue := 0 }, { name := "coder", type := .byte, accessFlags := 18, slot := 1, constantValue := 0 }, { name := "hash", type := .int, accessFlags := 2, slot := 2, constantValue := 0 }, { name := "hashIsZero", type := .boolean, accessFlags := 2, slot := 3, constantValue := 0 }, { name := "serialVersionUID", type := .long, accessFlags := 26, slot := 0, constantValue := 0 }, { name := "COMPACT_STRINGS", type := .boolean, accessFlags := 24, slot := 1, constantValue := 0 }, { name := "serialPersistentFields", type := (.array (.object "java/io/ObjectStreamField")), accessFlags := 26, slot := 2, constantValue := 0 }, { name := "REPL", type := .char, accessFlags := 26, slot := 3, constantValue := 0 }, { name := "CASE_INSENSITIVE_ORDER", type := (.object "java/util/Comparator"), accessFlags := 25, slot := 4, constantValue := 0 }, { name := "LATIN1", type := .byte, accessFlags := 24, slot := 5, constantValue := 0 }, { name := "UTF16", type := .byte, accessFlags := 24, slot := 6, constantValue := 0 }]
  methods := #[k7m0, k7m1, k7m2, k7m3, k7m4, k7m5, k7m6, k7m7, k7m8]
  instanceTypes := #[(.array .byte), .byte, .int, .boolean]
  staticTypes := #[.long, .boolean, (.array (.object "java/io/ObjectStreamField")), .char, (.object "java/util/Comparator"), .byte, .byte]
  resolved := Array.replicate 1451 none
  statics := some 0 }

def pool8 : Array CpInfo := pool [(1, .class_ 2), (0, u "java/lang/String"), (1, .class_ 6), (1, u "java/lang/Object"), (0, u "<init>"), (0, u "()V"), (0, .methodref 1 10), (0, .nameAndType 11 12), (0, u "checkIndex"), (0, u "(II)V"), (1, .class_ 16), (1, u "java/lang/StringLatin1"), (36, u "([BI)C"), (67, u "$assertionsDisabled"), (0, u "Z"), (98, .class_ 223), (1, u "java/lang/StringLatin1$LinesSpliterator"), (28, u "charAt"), (28, u "equals"), (0, u "([B[B)Z"), (107, .class_ 391), (0, u "java/lang/StringLatin1$CharsSpliterator")] 3

def k8m0 : Method := { name := "<init>", desc := "()V", sig := { parameters := [], returnType := none }, accessFlags := 0, code := none }
def k8c1 : Code := { maxStack := 2, maxLocals := 2, code := jdk_43_method_2_code, exceptionTable := #[], attributes := #[] }
def k8m1 : Method := { name := "charAt", desc := "([BI)C", sig := { parameters := [(.array .byte), .int], returnType := some .char }, accessFlags := 9, code := some k8c1 }
def k8c2 : Code := { maxStack := 3, maxLocals := 3, code := jdk_43_method_13_code, exceptionTable := #[], attributes := #[] }
def k8m2 : Method := { name := "equals", desc := "([B[B)Z", sig := { parameters := [(.array .byte), (.array .byte)], returnType := some .boolean }, accessFlags := 9, code := some k8c2 }
/-- java/lang/StringLatin1 -/
def k8 : Class := { plain "java/lang/StringLatin1" (some 0) with
  accessFlags := 48
  interfaces := #[]
  cf := some (fileOf pool8 14 #[.nestMembers #[390, 221]] #[{ accessFlags := 0, nameIndex := 7, descriptorIndex := 8, attributes := #[] }, { accessFlags := 9, nameIndex := 252, descriptorIndex := 53, attributes := #[] }, { accessFlags := 9, nameIndex := 281, descriptorIndex := 282, attributes := #[] }] 48 4 #[] #[{ accessFlags := 4120, nameIndex := 121, descriptorIndex := 122, attributes := #[] }])
  fields := #[{ name := "$assertionsDisabled", type := .boolean, accessFlags := 4120, slot := 0, constantValue := 0 }]
  methods := #[k8m0, k8m1, k8m2]
  instanceTypes := #[]
  staticTypes := #[.boolean]
  resolved := Array.replicate 395 none
  statics := none }

def pool9 : Array CpInfo := pool [(2, .class_ 4), (1, u "java/lang/Object"), (0, u "<init>"), (0, u "()V"), (17, .class_ 26), (1, u "jdk/internal/util/Preconditions"), (6, u "checkIndex"), (21, .class_ 56), (0, u "jdk/internal/util/Preconditions$4"), (57, .class_ 115), (0, u "jdk/internal/util/Preconditions$1"), (7, u "SIOOBE_FORMATTER"), (0, u "Ljava/util/function/BiFunction;"), (0, .class_ 126), (0, u "jdk/internal/util/Preconditions$2"), (3, u "AIOOBE_FORMATTER"), (0, .class_ 132), (0, u "jdk/internal/util/Preconditions$3"), (3, u "IOOBE_FORMATTER"), (41, u "(IILjava/util/function/BiFunction;)I")] 15

def k9m0 : Method := { name := "<init>", desc := "()V", sig := { parameters := [], returnType := none }, accessFlags := 1, code := none }
def k9c1 : Code := { maxStack := 3, maxLocals := 3, code := jdk_41_method_11_code, exceptionTable := #[], attributes := #[] }
def k9m1 : Method := { name := "checkIndex", desc := "(IILjava/util/function/BiFunction;)I", sig := { parameters := [.int, .int, (.object "java/util/function/BiFunction")], returnType := some .int }, accessFlags := 9, code := some k9c1 }
/-- jdk/internal/util/Preconditions -/
def k9 : Class := { plain "jdk/internal/util/Preconditions" (some 0) with
  accessFlags := 33
  interfaces := #[]
  cf := some (fileOf pool9 24 #[.nestMembers #[55, 131, 125, 114]] #[{ accessFlags := 1, nameIndex := 5, descriptorIndex := 6, attributes := #[] }, { accessFlags := 9, nameIndex := 33, descriptorIndex := 178, attributes := #[] }] 33 2 #[] #[{ accessFlags := 25, nameIndex := 123, descriptorIndex := 124, attributes := #[] }, { accessFlags := 25, nameIndex := 130, descriptorIndex := 124, attributes := #[] }, { accessFlags := 25, nameIndex := 136, descriptorIndex := 124, attributes := #[] }])
  fields := #[{ name := "SIOOBE_FORMATTER", type := (.object "java/util/function/BiFunction"), accessFlags := 25, slot := 0, constantValue := 0 }, { name := "AIOOBE_FORMATTER", type := (.object "java/util/function/BiFunction"), accessFlags := 25, slot := 1, constantValue := 0 }, { name := "IOOBE_FORMATTER", type := (.object "java/util/function/BiFunction"), accessFlags := 25, slot := 2, constantValue := 0 }]
  methods := #[k9m0, k9m1]
  instanceTypes := #[]
  staticTypes := #[(.object "java/util/function/BiFunction"), (.object "java/util/function/BiFunction"), (.object "java/util/function/BiFunction")]
  resolved := Array.replicate 194 none
  statics := some 1 }

def pool10 : Array CpInfo := pool [(6, .class_ 8), (1, u "java/lang/Object"), (0, u "<init>"), (0, u "()V"), (1, .class_ 14), (1, u "java/lang/StringUTF16"), (31, u "$assertionsDisabled"), (0, u "Z"), (13, u "HI_BYTE_SHIFT"), (0, u "I"), (2, u "LO_BYTE_SHIFT"), (49, .methodref 12 116), (0, .nameAndType 117 118), (0, u "compress"), (0, u "([CI[BII)I"), (3, u "([CII)[B"), (138, u "coderFromArrayLen"), (0, u "([BI)B"), (106, .class_ 371), (1, u "java/lang/StringUTF16$LinesSpliterator"), (58, u "MAX_LENGTH"), (196, .class_ 628), (0, u "java/lang/StringUTF16$CodePointsSpliterator"), (0, .class_ 630), (0, u "java/lang/StringUTF16$CharsSpliterator")] 4

def k10m0 : Method := { name := "<init>", desc := "()V", sig := { parameters := [], returnType := none }, accessFlags := 0, code := none }
def k10c1 : Code := { maxStack := 2, maxLocals := 2, code := jdk_52_method_15_code, exceptionTable := #[], attributes := #[] }
def k10m1 : Method := { name := "coderFromArrayLen", desc := "([BI)B", sig := { parameters := [(.array .byte), .int], returnType := some .byte }, accessFlags := 8, code := some k10c1 }
def k10c2 : Code := { maxStack := 5, maxLocals := 6, code := jdk_52_method_16_code, exceptionTable := #[], attributes := #[] }
def k10m2 : Method := { name := "compress", desc := "([CII)[B", sig := { parameters := [(.array .char), .int, .int], returnType := some (.array .byte) }, accessFlags := 9, code := some k10c2 }
def k10c3 : Code := { maxStack := 3, maxLocals := 7, code := jdk_52_method_21_code, exceptionTable := #[], attributes := #[] }
def k10m3 : Method := { name := "compress", desc := "([CI[BII)I", sig := { parameters := [(.array .char), .int, (.array .byte), .int, .int], returnType := some .int }, accessFlags := 9, code := some k10c3 }
/-- java/lang/StringUTF16 -/
def k10 : Class := { plain "java/lang/StringUTF16" (some 0) with
  accessFlags := 48
  interfaces := #[]
  cf := some (fileOf pool10 12 #[.nestMembers #[627, 629, 369]] #[{ accessFlags := 0, nameIndex := 9, descriptorIndex := 10, attributes := #[] }, { accessFlags := 8, nameIndex := 261, descriptorIndex := 262, attributes := #[] }, { accessFlags := 9, nameIndex := 117, descriptorIndex := 122, attributes := #[] }, { accessFlags := 9, nameIndex := 117, descriptorIndex := 118, attributes := #[] }] 48 6 #[] #[{ accessFlags := 26, nameIndex := 61, descriptorIndex := 62, attributes := #[] }, { accessFlags := 26, nameIndex := 65, descriptorIndex := 62, attributes := #[] }, { accessFlags := 24, nameIndex := 430, descriptorIndex := 62, attributes := #[] }, { accessFlags := 4120, nameIndex := 46, descriptorIndex := 47, attributes := #[] }])
  fields := #[{ name := "HI_BYTE_SHIFT", type := .int, accessFlags := 26, slot := 0, constantValue := 0 }, { name := "LO_BYTE_SHIFT", type := .int, accessFlags := 26, slot := 1, constantValue := 0 }, { name := "MAX_LENGTH", type := .int, accessFlags := 24, slot := 2, constantValue := 0 }, { name := "$assertionsDisabled", type := .boolean, accessFlags := 4120, slot := 3, constantValue := 0 }]
  methods := #[k10m0, k10m1, k10m2, k10m3]
  instanceTypes := #[]
  staticTypes := #[.int, .int, .int, .boolean]
  resolved := Array.replicate 635 none
  statics := none }

def pool11 : Array CpInfo := pool [(2, .class_ 4), (1, u "java/lang/Enum"), (0, u "name"), (0, u "Ljava/lang/String;"), (2, u "ordinal"), (0, u "I"), (1, .class_ 14), (1, u "java/lang/Object"), (4, u "hash"), (86, .class_ 108), (1, u "java/lang/Enum$EnumDesc"), (2, .class_ 112), (0, u "java/lang/constant/Constable"), (0, .class_ 114), (0, u "java/lang/Comparable"), (0, .class_ 116), (0, u "java/io/Serializable")] 87

/-- java/lang/Enum -/
def k11 : Class := { plain "java/lang/Enum" (some 0) with
  accessFlags := 1057
  interfaces := #[5, 3, 2]
  cf := some (fileOf pool11 2 #[.nestMembers #[106]] #[] 1057 12 #[111, 113, 115] #[{ accessFlags := 18, nameIndex := 5, descriptorIndex := 6, attributes := #[] }, { accessFlags := 18, nameIndex := 9, descriptorIndex := 10, attributes := #[] }, { accessFlags := 2, nameIndex := 19, descriptorIndex := 10, attributes := #[] }])
  fields := #[{ name := "name", type := (.object "java/lang/String"), accessFlags := 18, slot := 0, constantValue := 0 }, { name := "ordinal", type := .int, accessFlags := 18, slot := 1, constantValue := 0 }, { name := "hash", type := .int, accessFlags := 2, slot := 2, constantValue := 0 }]
  methods := #[]
  instanceTypes := #[(.object "java/lang/String"), .int, .int]
  staticTypes := #[]
  resolved := Array.replicate 204 none
  statics := none }

def pool12 : Array CpInfo := pool [(1, .class_ 2), (0, u "com/example/vellum_index/vellumindex/Stemmer"), (2, u "NONE"), (0, u "Lcom/example/vellum_index/vellumindex/Stemmer;"), (2, u "PORTER"), (0, .fieldref 1 11), (0, .nameAndType 12 13), (0, u "$VALUES"), (0, u "[Lcom/example/vellum_index/vellumindex/Stemmer;"), (0, .methodref 15 16), (0, .class_ 13), (0, .nameAndType 17 18), (0, u "clone"), (0, u "()Ljava/lang/Object;"), (1, .class_ 22), (1, u "java/lang/Enum"), (6, .fieldref 1 30), (0, .nameAndType 31 32), (0, u "label"), (0, u "Ljava/lang/String;"), (0, .methodref 1 34), (0, .nameAndType 35 36), (0, u "values"), (0, u "()[Lcom/example/vellum_index/vellumindex/Stemmer;"), (0, .methodref 38 39), (0, .class_ 40), (0, .nameAndType 41 42), (0, u "java/lang/String"), (0, u "equals"), (0, u "(Ljava/lang/Object;)Z"), (10, .class_ 54), (0, u "com/example/vellum_index/vellumindex/Stemmer$1"), (6, .class_ 62), (0, u "com/example/vellum_index/vellumindex/Stemmer$2"), (9, u "(Ljava/lang/String;)Lcom/example/vellum_index/vellumindex/Stemmer;"), (6, u "labelled")] 11

def k12c0 : Code := { maxStack := 1, maxLocals := 0, code := prog_30_method_1_code, exceptionTable := #[], attributes := #[] }
def k12m0 : Method := { name := "values", desc := "()[Lcom/example/vellum_index/vellumindex/Stemmer;", sig := { parameters := [], returnType := some (.array (.object "com/example/vellum_index/vellumindex/Stemmer")) }, accessFlags := 9, code := some k12c0 }
def k12c1 : Code := { maxStack := 2, maxLocals := 5, code := prog_30_method_6_code, exceptionTable := #[], attributes := #[] }
def k12m1 : Method := { name := "labelled", desc := "(Ljava/lang/String;)Lcom/example/vellum_index/vellumindex/Stemmer;", sig := { parameters := [(.object "java/lang/String")], returnType := some (.object "com/example/vellum_index/vellumindex/Stemmer") }, accessFlags := 9, code := some k12c1 }
/-- com/example/vellum_index/vellumindex/Stemmer -/
def k12 : Class := { plain "com/example/vellum_index/vellumindex/Stemmer" (some 11) with
  accessFlags := 17441
  interfaces := #[]
  cf := some (fileOf pool12 1 #[.nestMembers #[61, 53]] #[{ accessFlags := 9, nameIndex := 35, descriptorIndex := 36, attributes := #[] }, { accessFlags := 9, nameIndex := 79, descriptorIndex := 72, attributes := #[] }] 17441 20 #[] #[{ accessFlags := 16409, nameIndex := 5, descriptorIndex := 6, attributes := #[] }, { accessFlags := 16409, nameIndex := 9, descriptorIndex := 6, attributes := #[] }, { accessFlags := 18, nameIndex := 31, descriptorIndex := 32, attributes := #[] }, { accessFlags := 4122, nameIndex := 12, descriptorIndex := 13, attributes := #[] }])
  fields := #[{ name := "NONE", type := (.object "com/example/vellum_index/vellumindex/Stemmer"), accessFlags := 16409, slot := 0, constantValue := 0 }, { name := "PORTER", type := (.object "com/example/vellum_index/vellumindex/Stemmer"), accessFlags := 16409, slot := 1, constantValue := 0 }, { name := "label", type := (.object "java/lang/String"), accessFlags := 18, slot := 3, constantValue := 0 }, { name := "$VALUES", type := (.array (.object "com/example/vellum_index/vellumindex/Stemmer")), accessFlags := 4122, slot := 2, constantValue := 0 }]
  methods := #[k12m0, k12m1]
  instanceTypes := #[(.object "java/lang/String"), .int, .int, (.object "java/lang/String")]
  staticTypes := #[(.object "com/example/vellum_index/vellumindex/Stemmer"), (.object "com/example/vellum_index/vellumindex/Stemmer"), (.array (.object "com/example/vellum_index/vellumindex/Stemmer"))]
  resolved := Array.replicate 91 none
  statics := some 2 }

def pool13 : Array CpInfo := pool [(1, .class_ 2), (0, u "java/lang/Cloneable"), (0, .class_ 4), (0, u "java/lang/Object")] 2

/-- java/lang/Cloneable -/
def k13 : Class := { plain "java/lang/Cloneable" (some 0) with
  accessFlags := 1537
  interfaces := #[]
  cf := some (fileOf pool13 1 #[] #[] 1537 3 #[] #[])
  fields := #[]
  methods := #[]
  instanceTypes := #[]
  staticTypes := #[]
  resolved := Array.replicate 7 none
  statics := none }

def pool14 : Array CpInfo := pool [(2, .class_ 4), (1, u "com/example/vellum_index/vellumindex/Stemmer"), (2, .class_ 8), (0, u "com/example/vellum_index/vellumindex/Stemmer$1")] 10

/-- com/example/vellum_index/vellumindex/Stemmer$1 -/
def k14 : Class := { plain "com/example/vellum_index/vellumindex/Stemmer$1" (some 12) with
  accessFlags := 16432
  interfaces := #[]
  cf := some (fileOf pool14 7 #[.nestHost 2] #[] 16432 2 #[] #[])
  fields := #[]
  methods := #[]
  instanceTypes := #[(.object "java/lang/String"), .int, .int, (.object "java/lang/String")]
  staticTypes := #[]
  resolved := Array.replicate 19 none
  statics := none }

def pool15 : Array CpInfo := pool [(2, .class_ 4), (1, u "com/example/vellum_index/vellumindex/Stemmer"), (8, .class_ 14), (0, u "com/example/vellum_index/vellumindex/Stemmer$2")] 8

/-- com/example/vellum_index/vellumindex/Stemmer$2 -/
def k15 : Class := { plain "com/example/vellum_index/vellumindex/Stemmer$2" (some 12) with
  accessFlags := 16432
  interfaces := #[]
  cf := some (fileOf pool15 13 #[.nestHost 2] #[] 16432 2 #[] #[])
  fields := #[]
  methods := #[]
  instanceTypes := #[(.object "java/lang/String"), .int, .int, (.object "java/lang/String")]
  staticTypes := #[]
  resolved := Array.replicate 23 none
  statics := none }

def pool16 : Array CpInfo := pool [(9, u "<init>"), (6, .class_ 18), (1, u "java/lang/Object"), (0, u "()V"), (1, .class_ 23), (1, u "jdk/internal/util/ArraysSupport"), (0, u "LOG2_ARRAY_LONG_INDEX_SCALE"), (0, u "I"), (2, u "U"), (0, u "Ljdk/internal/misc/Unsafe;"), (8, u "BIG_ENDIAN"), (0, u "Z"), (8, u "LOG2_BYTE_BIT_SIZE"), (4, u "LOG2_ARRAY_INT_INDEX_SCALE"), (54, u "JLA"), (0, u "Ljdk/internal/access/JavaLangAccess;"), (11, u "LOG2_ARRAY_BOOLEAN_INDEX_SCALE"), (9, u "LOG2_ARRAY_BYTE_INDEX_SCALE"), (5, u "LOG2_ARRAY_CHAR_INDEX_SCALE"), (5, u "LOG2_ARRAY_SHORT_INDEX_SCALE"), (18, u "LOG2_ARRAY_FLOAT_INDEX_SCALE"), (24, u "LOG2_ARRAY_DOUBLE_INDEX_SCALE"), (89, u "T_BOOLEAN"), (2, u "T_CHAR"), (1, u "T_FLOAT"), (1, u "T_DOUBLE"), (1, u "T_BYTE"), (1, u "T_SHORT"), (1, u "T_INT"), (1, u "T_LONG"), (1, u "SOFT_MAX_ARRAY_LENGTH")] 83

def k16m0 : Method := { name := "<init>", desc := "()V", sig := { parameters := [], returnType := none }, accessFlags := 2, code := none }
/-- jdk/internal/util/ArraysSupport -/
def k16 : Class := { plain "jdk/internal/util/ArraysSupport" (some 0) with
  accessFlags := 33
  interfaces := #[]
  cf := some (fileOf pool16 21 #[] #[{ accessFlags := 2, nameIndex := 9, descriptorIndex := 19, attributes := #[] }] 33 16 #[] #[{ accessFlags := 24, nameIndex := 28, descriptorIndex := 29, attributes := #[] }, { accessFlags := 26, nameIndex := 38, descriptorIndex := 39, attributes := #[] }, { accessFlags := 25, nameIndex := 121, descriptorIndex := 25, attributes := #[] }, { accessFlags := 25, nameIndex := 131, descriptorIndex := 25, attributes := #[] }, { accessFlags := 25, nameIndex := 137, descriptorIndex := 25, attributes := #[] }, { accessFlags := 25, nameIndex := 143, descriptorIndex := 25, attributes := #[] }, { accessFlags := 25, nameIndex := 53, descriptorIndex := 25, attributes := #[] }, { accessFlags := 25, nameIndex := 24, descriptorIndex := 25, attributes := #[] }, { accessFlags := 25, nameIndex := 162, descriptorIndex := 25, attributes := #[] }, { accessFlags := 25, nameIndex := 187, descriptorIndex := 25, attributes := #[] }, { accessFlags := 26, nameIndex := 48, descriptorIndex := 25, attributes := #[] }, { accessFlags := 25, nameIndex := 277, descriptorIndex := 25, attributes := #[] }, { accessFlags := 25, nameIndex := 280, descriptorIndex := 25, attributes := #[] }, { accessFlags := 25, nameIndex := 282, descriptorIndex := 25, attributes := #[] }, { accessFlags := 25, nameIndex := 284, descriptorIndex := 25, attributes := #[] }, { accessFlags := 25, nameIndex := 286, descriptorIndex := 25, attributes := #[] }, { accessFlags := 25, nameIndex := 288, descriptorIndex := 25, attributes := #[] }, { accessFlags := 25, nameIndex := 290, descriptorIndex := 25, attributes := #[] }, { accessFlags := 25, nameIndex := 292, descriptorIndex := 25, attributes := #[] }, { accessFlags := 26, nameIndex := 108, descriptorIndex := 109, attributes := #[] }, { accessFlags := 25, nameIndex := 294, descriptorIndex := 25, attributes := #[] }])
  fields := #[{ name := "U", type := (.object "jdk/internal/misc/Unsafe"), accessFlags := 24, slot := 0, constantValue := 0 }, { name := "BIG_ENDIAN", type := .boolean, accessFlags := 26, slot := 1, constantValue := 0 }, { name := "LOG2_ARRAY_BOOLEAN_INDEX_SCALE", type := .int, accessFlags := 25, slot := 2, constantValue := 0 }, { name := "LOG2_ARRAY_BYTE_INDEX_SCALE", type := .int, accessFlags := 25, slot := 3, constantValue := 0 }, { name := "LOG2_ARRAY_CHAR_INDEX_SCALE", type := .int, accessFlags := 25, slot := 4, constantValue := 0 }, { name := "LOG2_ARRAY_SHORT_INDEX_SCALE", type := .int, accessFlags := 25, slot := 5, constantValue := 0 }, { name := "LOG2_ARRAY_INT_INDEX_SCALE", type := .int, accessFlags := 25, slot := 6, constantValue := 0 }, { name := "LOG2_ARRAY_LONG_INDEX_SCALE", type := .int, accessFlags := 25, slot := 7, constantValue := 0 }, { name := "LOG2_ARRAY_FLOAT_INDEX_SCALE", type := .int, accessFlags := 25, slot := 8, constantValue := 0 }, { name := "LOG2_ARRAY_DOUBLE_INDEX_SCALE", type := .int, accessFlags := 25, slot := 9, constantValue := 0 }, { name := "LOG2_BYTE_BIT_SIZE", type := .int, accessFlags := 26, slot := 10, constantValue := 0 }, { name := "T_BOOLEAN", type := .int, accessFlags := 25, slot := 11, constantValue := 0 }, { name := "T_CHAR", type := .int, accessFlags := 25, slot := 12, constantValue := 0 }, { name := "T_FLOAT", type := .int, accessFlags := 25, slot := 13, constantValue := 0 }, { name := "T_DOUBLE", type := .int, accessFlags := 25, slot := 14, constantValue := 0 }, { name := "T_BYTE", type := .int, accessFlags := 25, slot := 15, constantValue := 0 }, { name := "T_SHORT", type := .int, accessFlags := 25, slot := 16, constantValue := 0 }, { name := "T_INT", type := .int, accessFlags := 25, slot := 17, constantValue := 0 }, { name := "T_LONG", type := .int, accessFlags := 25, slot := 18, constantValue := 0 }, { name := "JLA", type := (.object "jdk/internal/access/JavaLangAccess"), accessFlags := 26, slot := 19, constantValue := 0 }, { name := "SOFT_MAX_ARRAY_LENGTH", type := .int, accessFlags := 25, slot := 20, constantValue := 0 }]
  methods := #[k16m0]
  instanceTypes := #[]
  staticTypes := #[(.object "jdk/internal/misc/Unsafe"), .boolean, .int, .int, .int, .int, .int, .int, .int, .int, .int, .int, .int, .int, .int, .int, .int, .int, .int, (.object "jdk/internal/access/JavaLangAccess"), .int]
  resolved := Array.replicate 378 none
  statics := none }

/-- the primitive byte -/
def k17 : Class := { plain "byte" none with kind := .primitive 'B', accessFlags := 0x411 }
/-- [B -/
def k18 : Class := { plain "[B" (some 0) with kind := .array 17 .byte, interfaces := #[13, 2], accessFlags := 1041 }

/-- the primitive char -/
def k19 : Class := { plain "char" none with kind := .primitive 'C', accessFlags := 0x411 }
/-- [C -/
def k20 : Class := { plain "[C" (some 0) with kind := .array 19 .char, interfaces := #[13, 2], accessFlags := 1041 }

/-- the primitive int -/
def k21 : Class := { plain "int" none with kind := .primitive 'I', accessFlags := 0x411 }
/-- [I -/
def k22 : Class := { plain "[I" (some 0) with kind := .array 21 .int, interfaces := #[13, 2], accessFlags := 1041 }

/-- [Lcom/example/vellum_index/vellumindex/Stemmer; -/
def k23 : Class := { plain "[Lcom/example/vellum_index/vellumindex/Stemmer;" (some 0) with kind := .array 12 (.object "com/example/vellum_index/vellumindex/Stemmer"), interfaces := #[13, 2], accessFlags := 1041 }

def heap : Heap := #[{ cls := 7, slots := #[.long 0, .int 1, .null, .int 0, .null, .int 0, .int 0], vm := .statics 7 },
  { cls := 9, slots := #[.null, .null, .null], vm := .statics 9 },
  { cls := 12, slots := #[.ref 4, .ref 5, .ref 3], vm := .statics 12 },
  { cls := 23, slots := #[.ref 4, .ref 5], vm := .none },
  { cls := 14, slots := #[.null, .int 0, .int 0, .ref 6], vm := .none },
  { cls := 15, slots := #[.null, .int 1, .int 0, .ref 7], vm := .none },
  { cls := 7, slots := #[.ref 8, .int 0, .int 0, .int 0], vm := .none },
  { cls := 7, slots := #[.ref 9, .int 0, .int 0, .int 0], vm := .none },
  { cls := 18, slots := #[.int 110, .int 111, .int 110, .int 101], vm := .none },
  { cls := 18, slots := #[.int 112, .int 111, .int 114, .int 116, .int 101, .int 114], vm := .none }]
def classes : Array Class := #[k0, k1, k2, k3, k4, k5, k6, k7, k8, k9, k10, k11, k12, k13, k14, k15, k16, k17, k18, k19, k20, k21, k22, k23]
def interned : List (Array UInt16 × Addr) := []
def slotsUsed : Nat := 41
def theMethod : MethodId := ⟨1, 3⟩
def args0 : Array Value := #[.int 5, .int 7, .int 1, .int 2, .long 3]
def aboutOver (below : List Frame) : State where
  vm := { classes := classes, interned := interned.toArray }
  heap := heap
  slotsUsed := slotsUsed
  threads := #[{ frames := .invoking theMethod args0 :: below }]
def below0 : List Frame := [.native { method := ⟨0, 0⟩, args := #[] }]
def about1 : State := aboutOver below0
def p0 : Program := .bare "" "" ""
def e0 : Env := launch0.env 0 0 0
theorem w_frames : about1.frames = Frame.invoking theMethod args0 :: below0 := rfl
set_option maxRecDepth 65536 in
theorem w_args : argsFit about1.vm theMethod args0 = true := by decide +kernel
set_option maxRecDepth 65536 in
theorem w_heap : heapFits about1 = true := by decide +kernel
set_option maxRecDepth 65536 in
theorem w_runnable : about1.curStatus? = some .runnable := by decide +kernel
set_option maxRecDepth 65536 in
theorem w_alone : about1.alone = true := by decide +kernel
set_option maxRecDepth 65536 in
theorem w_named : about1.methodNamed? x = some theMethod := by decide +kernel
set_option maxRecDepth 65536 in
theorem w_hears : about1.hears theMethod below0 = true := by decide +kernel
set_option maxRecDepth 65536 in
theorem w_ripe : about1.ripe theMethod args0 below0 = true := by decide +kernel
theorem w_running : about1.status = .running := rfl
set_option maxRecDepth 65536 in
theorem w_room : about1.hasRoom e0.platform room_1 = true :=
  launch0.hasRoom_least _ room_1 (by decide +kernel) (by decide +kernel) (by decide +kernel) (by decide +kernel) (by decide +kernel) (by decide +kernel)
theorem allAtoms_all (ts : List Jvm.Cond) (a : Array Jvm.Value) (st : Jvm.State) : (allAtoms ts).before a st = ts.all (fun c => c.before a st) := by
  induction ts with
  | nil => rfl
  | cons c t ih =>
    show (Jvm.Cond.and c (allAtoms t)).before a st = _
    rw [Jvm.Cond.before_and, ih, List.all_cons]
def words1 : List Jvm.Cond := Jvm.Cond.code x code maxLocals ret :: tables_1
/-- a 'code' word, met by the world's own term for the bytes: nothing is compared byte by byte -/
theorem code_word {y : MethodName} {bytes : ByteArray} {mx : Nat} {rt : Option FieldType} {a : Array Value} {s : State} {m : MethodId} {meth : Method} {c : Code} (h1 : s.methodNamed? y = some m) (h2 : s.vm.method? m = some meth) (h3 : meth.code = some c) (h4 : c.code = bytes)
    (h5 : (c.maxLocals == mx && c.exceptionTable.isEmpty && decide (c.maxStack ≤ mostOperands) && decide (meth.sig.returnType = rt) && !meth.locks && decide (parseMethodDescriptor y.desc = some meth.sig)) = true) : (Jvm.Cond.code y bytes mx rt).before a s = true := by
  simp only [Bool.and_eq_true, beq_iff_eq, Bool.not_eq_true', decide_eq_true_eq] at h5
  obtain ⟨⟨⟨⟨⟨g1, g2⟩, g3⟩, g4⟩, g5⟩, g6⟩ := h5
  simp [Cond.before, Cond.holds, Cond.value, h1, h2, h3, h4, g1, g2, g3, g4, g5, g6]
def isCode : Jvm.Cond → Bool
  | .code _ _ _ _ => true
  | _ => false
theorem all_split {L : List Jvm.Cond} {P : Jvm.Cond → Bool} (h1 : L.all (fun c => isCode c || P c) = true) (h2 : ∀ c ∈ L.filter isCode, P c = true) : L.all P = true := by
  refine List.all_eq_true.mpr fun c hc => ?_
  have h := List.all_eq_true.mp h1 c hc
  rcases Bool.eq_false_or_eq_true (isCode c) with hi | hi
  · exact h2 c (List.mem_filter.mpr ⟨hc, hi⟩)
  · simpa [hi] using h
set_option maxRecDepth 65536 in
theorem w_c0 : (Jvm.Cond.code x code maxLocals ret).before args0 about1 = true := code_word (m := ⟨1, 3⟩) (meth := k1m3) (c := k1c3) (by decide +kernel) rfl rfl rfl (by decide +kernel)
set_option maxRecDepth 65536 in
theorem w_c1 : (Jvm.Cond.code ({ cls := "com/example/vellum_index/vellumindex/StemmerLabelledPinLaw", name := "at", desc := "(IIJZII)C" } : Jvm.MethodName) method_3_code (7 : Nat) (Option.some Jvm.ClassFile.FieldType.char)).before args0 about1 = true := code_word (m := ⟨1, 2⟩) (meth := k1m2) (c := k1c2) (by decide +kernel) rfl rfl rfl (by decide +kernel)
set_option maxRecDepth 65536 in
theorem w_c2 : (Jvm.Cond.code ({ cls := "com/example/vellum_index/vellumindex/StemmerLabelledPinLaw", name := "base", desc := "(IIJ)C" } : Jvm.MethodName) method_2_code (5 : Nat) (Option.some Jvm.ClassFile.FieldType.char)).before args0 about1 = true := code_word (m := ⟨1, 1⟩) (meth := k1m1) (c := k1c1) (by decide +kernel) rfl rfl rfl (by decide +kernel)
set_option maxRecDepth 65536 in
theorem w_c3 : (Jvm.Cond.code ({ cls := "java/lang/String", name := "length", desc := "()I" } : Jvm.MethodName) jdk_42_method_54_code (1 : Nat) (Option.some Jvm.ClassFile.FieldType.int)).before args0 about1 = true := code_word (m := ⟨7, 2⟩) (meth := k7m2) (c := k7c2) (by decide +kernel) rfl rfl rfl (by decide +kernel)
set_option maxRecDepth 65536 in
theorem w_c4 : (Jvm.Cond.code ({ cls := "java/lang/String", name := "coder", desc := "()B" } : Jvm.MethodName) jdk_42_method_152_code (1 : Nat) (Option.some Jvm.ClassFile.FieldType.byte)).before args0 about1 = true := code_word (m := ⟨7, 6⟩) (meth := k7m6) (c := k7c6) (by decide +kernel) rfl rfl rfl (by decide +kernel)
set_option maxRecDepth 65536 in
theorem w_c5 : (Jvm.Cond.code ({ cls := "java/lang/String", name := "charAt", desc := "(I)C" } : Jvm.MethodName) jdk_42_method_56_code (2 : Nat) (Option.some Jvm.ClassFile.FieldType.char)).before args0 about1 = true := code_word (m := ⟨7, 3⟩) (meth := k7m3) (c := k7c3) (by decide +kernel) rfl rfl rfl (by decide +kernel)
set_option maxRecDepth 65536 in
theorem w_c6 : (Jvm.Cond.code ({ cls := "java/lang/String", name := "isLatin1", desc := "()Z" } : Jvm.MethodName) jdk_42_method_154_code (1 : Nat) (Option.some Jvm.ClassFile.FieldType.boolean)).before args0 about1 = true := code_word (m := ⟨7, 7⟩) (meth := k7m7) (c := k7c7) (by decide +kernel) rfl rfl rfl (by decide +kernel)
set_option maxRecDepth 65536 in
theorem w_c7 : (Jvm.Cond.code ({ cls := "java/lang/StringLatin1", name := "charAt", desc := "([BI)C" } : Jvm.MethodName) jdk_43_method_2_code (2 : Nat) (Option.some Jvm.ClassFile.FieldType.char)).before args0 about1 = true := code_word (m := ⟨8, 1⟩) (meth := k8m1) (c := k8c1) (by decide +kernel) rfl rfl rfl (by decide +kernel)
set_option maxRecDepth 65536 in
theorem w_c8 : (Jvm.Cond.code ({ cls := "java/lang/String", name := "checkIndex", desc := "(II)V" } : Jvm.MethodName) jdk_42_method_155_code (2 : Nat) (Option.none : Option Jvm.ClassFile.FieldType)).before args0 about1 = true := code_word (m := ⟨7, 8⟩) (meth := k7m8) (c := k7c8) (by decide +kernel) rfl rfl rfl (by decide +kernel)
set_option maxRecDepth 65536 in
theorem w_c9 : (Jvm.Cond.code ({ cls := "jdk/internal/util/Preconditions", name := "checkIndex", desc := "(IILjava/util/function/BiFunction;)I" } : Jvm.MethodName) jdk_41_method_11_code (3 : Nat) (Option.some Jvm.ClassFile.FieldType.int)).before args0 about1 = true := code_word (m := ⟨9, 1⟩) (meth := k9m1) (c := k9c1) (by decide +kernel) rfl rfl rfl (by decide +kernel)
set_option maxRecDepth 65536 in
theorem w_c10 : (Jvm.Cond.code ({ cls := "java/lang/String", name := "<init>", desc := "([C)V" } : Jvm.MethodName) jdk_42_method_3_code (2 : Nat) (Option.none : Option Jvm.ClassFile.FieldType)).before args0 about1 = true := code_word (m := ⟨7, 1⟩) (meth := k7m1) (c := k7c1) (by decide +kernel) rfl rfl rfl (by decide +kernel)
set_option maxRecDepth 65536 in
theorem w_c11 : (Jvm.Cond.code ({ cls := "java/lang/String", name := "<init>", desc := "([CIILjava/lang/Void;)V" } : Jvm.MethodName) jdk_42_method_149_code (6 : Nat) (Option.none : Option Jvm.ClassFile.FieldType)).before args0 about1 = true := code_word (m := ⟨7, 5⟩) (meth := k7m5) (c := k7c5) (by decide +kernel) rfl rfl rfl (by decide +kernel)
set_option maxRecDepth 65536 in
theorem w_c12 : (Jvm.Cond.code ({ cls := "java/lang/Object", name := "<init>", desc := "()V" } : Jvm.MethodName) object_method_1_code (1 : Nat) (Option.none : Option Jvm.ClassFile.FieldType)).before args0 about1 = true := code_word (m := ⟨0, 0⟩) (meth := k0m0) (c := k0c0) (by decide +kernel) rfl rfl rfl (by decide +kernel)
set_option maxRecDepth 65536 in
theorem w_c13 : (Jvm.Cond.code ({ cls := "java/lang/StringUTF16", name := "compress", desc := "([CII)[B" } : Jvm.MethodName) jdk_52_method_16_code (6 : Nat) (Option.some (Jvm.ClassFile.FieldType.array Jvm.ClassFile.FieldType.byte))).before args0 about1 = true := code_word (m := ⟨10, 2⟩) (meth := k10m2) (c := k10c2) (by decide +kernel) rfl rfl rfl (by decide +kernel)
set_option maxRecDepth 65536 in
theorem w_c14 : (Jvm.Cond.code ({ cls := "java/lang/StringUTF16", name := "compress", desc := "([CI[BII)I" } : Jvm.MethodName) jdk_52_method_21_code (7 : Nat) (Option.some Jvm.ClassFile.FieldType.int)).before args0 about1 = true := code_word (m := ⟨10, 3⟩) (meth := k10m3) (c := k10c3) (by decide +kernel) rfl rfl rfl (by decide +kernel)
set_option maxRecDepth 65536 in
theorem w_c15 : (Jvm.Cond.code ({ cls := "java/lang/StringUTF16", name := "coderFromArrayLen", desc := "([BI)B" } : Jvm.MethodName) jdk_52_method_15_code (2 : Nat) (Option.some Jvm.ClassFile.FieldType.byte)).before args0 about1 = true := code_word (m := ⟨10, 1⟩) (meth := k10m1) (c := k10c1) (by decide +kernel) rfl rfl rfl (by decide +kernel)
set_option maxRecDepth 65536 in
theorem w_c16 : (Jvm.Cond.code ({ cls := "java/lang/String", name := "equals", desc := "(Ljava/lang/Object;)Z" } : Jvm.MethodName) jdk_42_method_66_code (3 : Nat) (Option.some Jvm.ClassFile.FieldType.boolean)).before args0 about1 = true := code_word (m := ⟨7, 4⟩) (meth := k7m4) (c := k7c4) (by decide +kernel) rfl rfl rfl (by decide +kernel)
set_option maxRecDepth 65536 in
theorem w_c17 : (Jvm.Cond.code ({ cls := "java/lang/StringLatin1", name := "equals", desc := "([B[B)Z" } : Jvm.MethodName) jdk_43_method_13_code (3 : Nat) (Option.some Jvm.ClassFile.FieldType.boolean)).before args0 about1 = true := code_word (m := ⟨8, 2⟩) (meth := k8m2) (c := k8c2) (by decide +kernel) rfl rfl rfl (by decide +kernel)
set_option maxRecDepth 65536 in
theorem w_c18 : (Jvm.Cond.code ({ cls := "com/example/vellum_index/vellumindex/Stemmer", name := "labelled", desc := "(Ljava/lang/String;)Lcom/example/vellum_index/vellumindex/Stemmer;" } : Jvm.MethodName) prog_30_method_6_code (5 : Nat) (Option.some (Jvm.ClassFile.FieldType.object "com/example/vellum_index/vellumindex/Stemmer"))).before args0 about1 = true := code_word (m := ⟨12, 1⟩) (meth := k12m1) (c := k12c1) (by decide +kernel) rfl rfl rfl (by decide +kernel)
set_option maxRecDepth 65536 in
theorem w_c19 : (Jvm.Cond.code ({ cls := "com/example/vellum_index/vellumindex/Stemmer", name := "values", desc := "()[Lcom/example/vellum_index/vellumindex/Stemmer;" } : Jvm.MethodName) prog_30_method_1_code (0 : Nat) (Option.some (Jvm.ClassFile.FieldType.array (Jvm.ClassFile.FieldType.object "com/example/vellum_index/vellumindex/Stemmer")))).before args0 about1 = true := code_word (m := ⟨12, 0⟩) (meth := k12m0) (c := k12c0) (by decide +kernel) rfl rfl rfl (by decide +kernel)
def codes1 : List Jvm.Cond := [Jvm.Cond.code x code maxLocals ret, Jvm.Cond.code ({ cls := "com/example/vellum_index/vellumindex/StemmerLabelledPinLaw", name := "at", desc := "(IIJZII)C" } : Jvm.MethodName) method_3_code (7 : Nat) (Option.some Jvm.ClassFile.FieldType.char), Jvm.Cond.code ({ cls := "com/example/vellum_index/vellumindex/StemmerLabelledPinLaw", name := "base", desc := "(IIJ)C" } : Jvm.MethodName) method_2_code (5 : Nat) (Option.some Jvm.ClassFile.FieldType.char), Jvm.Cond.code ({ cls := "java/lang/String", name := "length", desc := "()I" } : Jvm.MethodName) jdk_42_method_54_code (1 : Nat) (Option.some Jvm.ClassFile.FieldType.int), Jvm.Cond.code ({ cls := "java/lang/String", name := "coder", desc := "()B" } : Jvm.MethodName) jdk_42_method_152_code (1 : Nat) (Option.some Jvm.ClassFile.FieldType.byte), Jvm.Cond.code ({ cls := "java/lang/String", name := "charAt", desc := "(I)C" } : Jvm.MethodName) jdk_42_method_56_code (2 : Nat) (Option.some Jvm.ClassFile.FieldType.char), Jvm.Cond.code ({ cls := "java/lang/String", name := "isLatin1", desc := "()Z" } : Jvm.MethodName) jdk_42_method_154_code (1 : Nat) (Option.some Jvm.ClassFile.FieldType.boolean), Jvm.Cond.code ({ cls := "java/lang/StringLatin1", name := "charAt", desc := "([BI)C" } : Jvm.MethodName) jdk_43_method_2_code (2 : Nat) (Option.some Jvm.ClassFile.FieldType.char), Jvm.Cond.code ({ cls := "java/lang/String", name := "checkIndex", desc := "(II)V" } : Jvm.MethodName) jdk_42_method_155_code (2 : Nat) (Option.none : Option Jvm.ClassFile.FieldType), Jvm.Cond.code ({ cls := "jdk/internal/util/Preconditions", name := "checkIndex", desc := "(IILjava/util/function/BiFunction;)I" } : Jvm.MethodName) jdk_41_method_11_code (3 : Nat) (Option.some Jvm.ClassFile.FieldType.int), Jvm.Cond.code ({ cls := "java/lang/String", name := "<init>", desc := "([C)V" } : Jvm.MethodName) jdk_42_method_3_code (2 : Nat) (Option.none : Option Jvm.ClassFile.FieldType), Jvm.Cond.code ({ cls := "java/lang/String", name := "<init>", desc := "([CIILjava/lang/Void;)V" } : Jvm.MethodName) jdk_42_method_149_code (6 : Nat) (Option.none : Option Jvm.ClassFile.FieldType), Jvm.Cond.code ({ cls := "java/lang/Object", name := "<init>", desc := "()V" } : Jvm.MethodName) object_method_1_code (1 : Nat) (Option.none : Option Jvm.ClassFile.FieldType), Jvm.Cond.code ({ cls := "java/lang/StringUTF16", name := "compress", desc := "([CII)[B" } : Jvm.MethodName) jdk_52_method_16_code (6 : Nat) (Option.some (Jvm.ClassFile.FieldType.array Jvm.ClassFile.FieldType.byte)), Jvm.Cond.code ({ cls := "java/lang/StringUTF16", name := "compress", desc := "([CI[BII)I" } : Jvm.MethodName) jdk_52_method_21_code (7 : Nat) (Option.some Jvm.ClassFile.FieldType.int), Jvm.Cond.code ({ cls := "java/lang/StringUTF16", name := "coderFromArrayLen", desc := "([BI)B" } : Jvm.MethodName) jdk_52_method_15_code (2 : Nat) (Option.some Jvm.ClassFile.FieldType.byte), Jvm.Cond.code ({ cls := "java/lang/String", name := "equals", desc := "(Ljava/lang/Object;)Z" } : Jvm.MethodName) jdk_42_method_66_code (3 : Nat) (Option.some Jvm.ClassFile.FieldType.boolean), Jvm.Cond.code ({ cls := "java/lang/StringLatin1", name := "equals", desc := "([B[B)Z" } : Jvm.MethodName) jdk_43_method_13_code (3 : Nat) (Option.some Jvm.ClassFile.FieldType.boolean), Jvm.Cond.code ({ cls := "com/example/vellum_index/vellumindex/Stemmer", name := "labelled", desc := "(Ljava/lang/String;)Lcom/example/vellum_index/vellumindex/Stemmer;" } : Jvm.MethodName) prog_30_method_6_code (5 : Nat) (Option.some (Jvm.ClassFile.FieldType.object "com/example/vellum_index/vellumindex/Stemmer")), Jvm.Cond.code ({ cls := "com/example/vellum_index/vellumindex/Stemmer", name := "values", desc := "()[Lcom/example/vellum_index/vellumindex/Stemmer;" } : Jvm.MethodName) prog_30_method_1_code (0 : Nat) (Option.some (Jvm.ClassFile.FieldType.array (Jvm.ClassFile.FieldType.object "com/example/vellum_index/vellumindex/Stemmer")))]
set_option maxRecDepth 65536 in
theorem codes_eq : words1.filter isCode = codes1 := rfl
theorem w_codes : ∀ c ∈ words1.filter isCode, c.before args0 about1 = true := by
  rw [codes_eq]
  intro c hc
  simp only [codes1, List.mem_cons, List.not_mem_nil, or_false] at hc
  rcases hc with rfl | rfl | rfl | rfl | rfl | rfl | rfl | rfl | rfl | rfl | rfl | rfl | rfl | rfl | rfl | rfl | rfl | rfl | rfl | rfl
  · exact w_c0
  · exact w_c1
  · exact w_c2
  · exact w_c3
  · exact w_c4
  · exact w_c5
  · exact w_c6
  · exact w_c7
  · exact w_c8
  · exact w_c9
  · exact w_c10
  · exact w_c11
  · exact w_c12
  · exact w_c13
  · exact w_c14
  · exact w_c15
  · exact w_c16
  · exact w_c17
  · exact w_c18
  · exact w_c19
set_option maxRecDepth 65536 in
theorem w_t1 : (words1.take 24).all (fun c => isCode c || c.before args0 about1) = true := by decide +kernel
set_option maxRecDepth 65536 in
theorem w_t2 : ((words1.drop 24).take 24).all (fun c => isCode c || c.before args0 about1) = true := by decide +kernel
set_option maxRecDepth 65536 in
theorem w_t3 : (((words1.drop 24).drop 24).take 24).all (fun c => isCode c || c.before args0 about1) = true := by decide +kernel
set_option maxRecDepth 65536 in
theorem w_t4 : ((((words1.drop 24).drop 24).drop 24).take 24).all (fun c => isCode c || c.before args0 about1) = true := by decide +kernel
set_option maxRecDepth 65536 in
theorem w_t5 : ((((words1.drop 24).drop 24).drop 24).drop 24).all (fun c => isCode c || c.before args0 about1) = true := by decide +kernel
theorem w_tables : (allAtoms (Jvm.Cond.code x code maxLocals ret :: tables_1)).before args0 about1 = true := by
  rw [allAtoms_all]
  show words1.all (fun c => c.before args0 about1) = true
  refine all_split ?_ w_codes
  rw [← List.take_append_drop 24 words1, List.all_append, w_t1, ← List.take_append_drop 24 (words1.drop 24), List.all_append, w_t2, ← List.take_append_drop 24 ((words1.drop 24).drop 24), List.all_append, w_t3, ← List.take_append_drop 24 (((words1.drop 24).drop 24).drop 24), List.all_append, w_t4, w_t5]
  rfl
set_option maxRecDepth 65536 in
theorem w_rest : rest_1_c.before args0 about1 = true := by decide +kernel
set_option maxRecDepth 65536 in
theorem w_case : (Jvm.Cond.and given_1 narrow_1).before args0 about1 = true := by decide +kernel
set_option maxRecDepth 65536 in
theorem w_consts : constsHeld consts_1 about1 := Jvm.Lit.constsHeldB_iff.mp (by decide +kernel)
theorem w_applies : (headSpec (Jvm.Cond.code x code maxLocals ret :: tables_1) room_1).applies x e0.platform about1 = true :=
  (Spec.applies_iff w_frames).mpr ⟨w_running, w_runnable, w_alone, w_named, w_hears, w_ripe, w_room, w_tables⟩
theorem atStart : AtStart classFile x code maxLocals ret World_1 tables_1 room_1 Calls_1 rest_1 Pre_1 launch0 p0 e0 about1 theMethod args0 below0 :=
  ⟨lists_1, trivial, launch0.admits_env _ _ _, launch0.least_env, fairChoices_fair.cas, fairChoices_fair.clock, w_frames, w_args, w_heap, w_applies, ⟨w_consts, trivial⟩, w_rest, w_case⟩
end start1
theorem witness_1 : WitnessClaimed_1 := ⟨start1.p0, start1.e0, start1.about1, start1.theMethod, start1.args0, start1.below0, start1.atStart⟩
end Jvm.Pilot.@@N@@
