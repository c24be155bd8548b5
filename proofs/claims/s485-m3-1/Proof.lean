import JvmDerived
import JvmDerived.Pilot.@@N@@Statement
import JvmDerived.Pilot.@@N@@Code
set_option linter.unusedVariables false
set_option linter.unusedSimpArgs false
namespace Jvm.RoadKit
open Sem ClassFile Op Lib Jvm.Stand Jvm.Free Jvm.LawKit
section Own
variable {tb : Tables} {e : Env} {below : List Frame} {Q : Outcome → State → Prop} {A B : State}
def Goes (tb : Tables) (e : Env) (below : List Frame) (Q : Outcome → State → Prop) (A : State) : Prop := ∃ s₂ o, Steps tb e below A s₂ ∧ s₂.status = .running ∧ Ended s₂ below o ∧ Q o s₂
theorem Goes.st (st : ∀ t, Steps tb e below A t → Steps tb e below B t) (k : Goes tb e below Q A) : Goes tb e below Q B := by
  obtain ⟨s, o, h1, h2⟩ := k
  exact ⟨s, o, st s h1, h2⟩
theorem Goes.tr (st : Steps tb e below B A) (k : Goes tb e below Q A) : Goes tb e below Q B := by
  obtain ⟨s, o, h1, h2⟩ := k
  exact ⟨s, o, st.trans h1, h2⟩
abbrev uS : Slot := .unset
theorem Goes.named (k : ∀ Q', Q' = Q → Goes tb e below Q' A) : Goes tb e below Q A := k Q rfl
theorem own_narb (c : Int32) : nar .byte (c.toInt8.toInt32) = c.toInt8.toInt32 := by simp [nar]
theorem own_fitsb (c : Int32) : fits .byte (.int c.toInt8.toInt32) = true := own_narb c ▸ fits_nar_byte _
theorem own_narZ {z : Int32} (h : z = 0 ∨ z = 1) : nar .boolean z = z := by rcases h with rfl | rfl <;> rfl
theorem own_narwZ {z : Int32} (h : z = 0 ∨ z = 1) : narrow .boolean (.int z) = .int z := by rcases h with rfl | rfl <;> rfl
theorem own_fitsZ {z : Int32} (h : z = 0 ∨ z = 1) : fits .boolean (.int z) = true := by rcases h with rfl | rfl <;> rfl
theorem own_cat {v : Value} (h : v.isRef = true) : v.category = 1 := by cases v <;> first | rfl | (simp [Value.isRef] at h)
theorem own_fitsR {v : Value} {t : FieldType} (h : v.isRef = true) (ht : t.isReference = true) : fits t v = true := by cases v <;> cases t <;> simp_all [Value.isRef, fits, FieldType.isReference]
theorem own_narR {v : Value} {t : FieldType} (h : v.isRef = true) : narrow t v = v := by cases v <;> cases t <;> first | rfl | (simp [Value.isRef] at h)
end Own
section New
variable {p : Program} {l : Launch} {e : Env} {R : Room} {s : State} {m : MethodId} {args : Array Value} {below : List Frame} {meth : Method} {c : Code} {T : State} {locs : List Loc} {cells slots : Nat}
theorem retI (X : Stand p l e R s m args below meth c T locs cells slots) (hx : p.tables.exec = Jvm.exec) {pc : Nat} {Ls : Array Slot} {z : Int32} {rest : List Value} (hret : meth.sig.returnType = some .int) (hd : decode c.code pc = .ok (.ireturn, 1)) {fs : List Frame}
    (hl : ∀ (f : JFrame) (acts : List Action), f.method = m → f.locked = none → f.entered = [] → (doReturn e (T.setTop f) acts (some (.int z))).1 = T.setFrames fs) : Steps p.tables e below (T.setTop (mkF m pc Ls (.int z :: rest))) (T.setFrames fs) :=
  retOut X hx (w := .int z) hret rfl (Or.inl ⟨rfl, Or.inl rfl, _, rfl⟩) hd hl
theorem retJ (X : Stand p l e R s m args below meth c T locs cells slots) (hx : p.tables.exec = Jvm.exec) {pc : Nat} {Ls : Array Slot} {z : Int64} {rest : List Value} (hret : meth.sig.returnType = some .long) (hd : decode c.code pc = .ok (.lreturn, 1)) {fs : List Frame}
    (hl : ∀ (f : JFrame) (acts : List Action), f.method = m → f.locked = none → f.entered = [] → (doReturn e (T.setTop f) acts (some (.long z))).1 = T.setFrames fs) : Steps p.tables e below (T.setTop (mkF m pc Ls (.long z :: rest))) (T.setFrames fs) :=
  retOut X hx (w := .long z) hret rfl (Or.inr (Or.inl ⟨rfl, rfl, _, rfl⟩)) hd hl
theorem retR (X : Stand p l e R s m args below meth c T locs cells slots) (hx : p.tables.exec = Jvm.exec) {pc : Nat} {Ls : Array Slot} {w : Value} {t : FieldType} {rest : List Value} (hret : meth.sig.returnType = some t) (ht : t.isReference = true) (hw : w.isRef = true) (hd : decode c.code pc = .ok (.areturn, 1)) {fs : List Frame}
    (hl : ∀ (f : JFrame) (acts : List Action), f.method = m → f.locked = none → f.entered = [] → (doReturn e (T.setTop f) acts (some w)).1 = T.setFrames fs) : Steps p.tables e below (T.setTop (mkF m pc Ls (w :: rest))) (T.setFrames fs) :=
  retOut X hx (w := w) hret (own_narR hw) (Or.inr (Or.inr (Or.inr (Or.inr ⟨rfl, ht, hw⟩)))) hd hl
end New
end Jvm.RoadKit
namespace Jvm.RoadKit
open Sem ClassFile Op Lib Jvm.Stand Jvm.Free Jvm.LawKit
section OwnW
variable {p : Program} {l : Launch} {e : Env} {R : Room} {s : State} {args : Array Value} {below : List Frame} {Z : State} {a0 : Array Value} {h : Heap} {vm0 : Vm} {EL : List (String × Nat)}
theorem own_REmono {s t : State} {o : Outcome} {L : List Loc} {k n k' n' : Nat} (h : ReturnedEndW s o t L k n) (hk : k ≤ k') (hn : n ≤ n') : ReturnedEndW s o t L k' n' := ⟨h.1, h.2.1, h.2.2.1, h.2.2.2.mono hk hn⟩
/-- a callee that may intern, and is told of some addresses that no constant's String lies there -/
theorem own_backW {y : MethodName} {bytes : ByteArray} {maxL : Nat} {ret : Option FieldType} {rm : Room} {len W : Nat} {as' : Array Value} {Q : Option Value → Heap → List Loc → Prop} {xs : List Addr}
    (hM : MetFree l y (head1 [Cond.code y bytes maxL ret] rm) (fun a U => a = as' ∧ Z.Warmed39 U.vm ∧ U.heap = h ∧ CHv Z EL U.vm h ∧ ∀ x ∈ xs, Safe Z EL U.vm h x) (fun _ _ _ _ _ => True) (fun _ U o U' => ∃ v L, o = .returned v ∧ Q v U'.heap L ∧ CHr Z EL U.vm U.heap U'.vm U'.heap ∧ ReturnedEndW U o U' L rm.cells rm.slots))
    (hZ : Z.Warmed39 vm0) (wc : (Cond.code y bytes maxL ret).before a0 Z = true) (wz : (Cond.initialized y.cls).before a0 Z = true) (hf : rm.frames + 1 ≤ R.frames) (hl : W + (maxL + 11) + rm.locals ≤ R.locals) (hEL : EW Z a0 EL) (H : CHv Z EL vm0 h) (hxs : ∀ x ∈ xs, x < h.size ∧ Safe Z EL vm0 h x) :
    BackS l R p e below (s.setVm vm0) args y len W (fun A a => a = as' ∧ A.U.heap = h ∧ A.cells + rm.cells ≤ R.cells ∧ A.slots + rm.slots ≤ R.slots)
      (fun A _ v B => ∃ L, Q v B.U.heap L ∧ B.locs = A.locs ++ L ∧ B.cells = A.cells + rm.cells ∧ B.slots = A.slots + rm.slots ∧ CHr Z EL vm0 h B.U.vm B.U.heap) := by
  refine BackS.of_freeW (bytes := bytes) (maxL := maxL) (ret := ret) (E := fun _ first o t L k n => k = rm.cells ∧ n = rm.slots ∧ (∃ v, o = .returned v ∧ Q v t.heap L) ∧ CHr Z EL first.vm first.heap t.vm t.heap) hM hf hl ?_ ?_ ?_ ?_ ?_
  · intro m meth c A a Y hp
    have hU : Z.Warmed39 A.U.vm := wtrans (s := s.setVm vm0) hZ Y.warmed
    refine ⟨?_, mv hU wc, mv hU wz, hp.2.2.1, hp.2.2.2⟩
    show (Cond.and _ .tt).before a A.U = true
    rw [Cond.before_and, mv hU wc]; rfl
  · intro m meth c A a g mk Y hp
    have C := CHv.at Y hZ hEL H
    exact ⟨hp.1, wtrans (s := s.setVm vm0) hZ Y.warmed, hp.2.1, C.1, fun x hx => C.safe (hxs x hx).1 (hxs x hx).2⟩
  · intros; trivial
  · rintro _ _ _ _ ⟨v, L, h1, h2, h3, h4⟩
    exact ⟨L, _, _, h4, rfl, rfl, ⟨v, h1, h2⟩, h3⟩
  · rintro m meth c A a g mk v t L k n Y hp _ _ ⟨e1, e2, ⟨v', e3, e4⟩, e5⟩
    cases e3
    subst e1 e2
    refine ⟨L, e4, rfl, rfl, rfl, (CHv.at Y hZ hEL H).trans ?_⟩
    rw [← hp.2.1]
    exact e5
end OwnW
end Jvm.RoadKit
namespace Jvm.Pilot.@@N@@
open Jvm Jvm.ClassFile Sem Op Lib Jvm.Free Jvm.Stand Jvm.LawKit Jvm.RoadKit Bundle Jvm.Pilot.@@N@@.Jvm.D
def EL : List (String × Nat) := consts_1
theorem own_wS {Z : State} {a0 : Array Value} (hw : ∀ d ∈ tables_1, d.before a0 Z = true) : ∀ d ∈ Bundle.stringAtoms, d.before a0 Z = true := fun d hd => hw d ((by decide +kernel : ∀ d ∈ Bundle.stringAtoms, d ∈ tables_1) d hd)
end Jvm.Pilot.@@N@@
/- laws to paste: Road.backV, Road.eqW, Road.lenW, Road.codOf (cut by pick.py; bodies as the Statement names them) -/
namespace Jvm.Pilot.@@N@@
namespace StrChars
open Jvm Sem ClassFile Op Lib Jvm.Stand Jvm.Free.XT Jvm.Free.ALB Jvm.Free.JM Jvm.Free
open Jvm.Lib.Cold (StaticIs)
/-- a char array whose places are chars -/
def Ch (a : Addr) (A : Cell) (U : State) : Prop := Arr .char a A U ∧ Typed .char A
theorem Ch.mv {a : Addr} {A : Cell} {U U' : State} (h : Ch a A U) (hal : U.vm.Alike U'.vm) (hh : U'.heap = U.heap) : Ch a A U' := ⟨h.1.mv hal hh, h.2⟩
theorem Ch.keep {a : Addr} {A : Cell} {U U' : State} (h : Ch a A U) (hal : U.vm.Alike U'.vm) (hk : U'.heap[a]? = some A) : Ch a A U' := ⟨h.1.keep hal hk, h.2⟩
/-- what place i of a char[]'s cell holds -/
def cv (A : Cell) (i : Nat) : Int32 := match A.slots[i]? with | some (.int x) => x | _ => 0
theorem Ch.get {a : Addr} {A : Cell} {U : State} (h : Ch a A U) {i : Nat} (hi : i < A.slots.size) : A.slots[i]? = some (.int (cv A i)) := by
  have e := Array.getElem?_eq_getElem hi
  have f := h.2 i _ e
  unfold cv; rw [e]
  generalize A.slots[i] = v at f
  cases v <;> simp [fits] at f ⊢
/-- the byte that i2b leaves of a char -/
def lo8 (x : Int32) : Int32 := x.toInt8.toInt32
theorem fits_lo8 (y : Int32) : fits .byte (.int (lo8 y)) = true := by
  have h1 := y.toInt8.le_toInt
  have h2 := y.toInt8.toInt_lt
  simp only [lo8, fits, Bool.and_eq_true, decide_eq_true_eq, Int32.le_iff_toInt_le, Int8.toInt_toInt32, show (-128 : Int32).toInt = -128 from by decide, show (127 : Int32).toInt = 127 from by decide]
  omega
/-- A' is A but that each place j of lo .. hi - 1 holds f j -/
def Laid (A A' : Cell) (lo hi : Nat) (f : Nat → Value) : Prop := A'.cls = A.cls ∧ A'.vm = A.vm ∧ A'.slots.size = A.slots.size ∧ ∀ i, A'.slots[i]? = if lo ≤ i ∧ i < hi then some (f i) else A.slots[i]?
theorem Laid.zero (A : Cell) (lo : Nat) (f : Nat → Value) : Laid A A lo (lo + 0) f := ⟨rfl, rfl, rfl, fun i => by rw [if_neg (by omega)]⟩
theorem Laid.step {A Ak : Cell} {lo k : Nat} {f : Nat → Value} {v : Value} (h : Laid A Ak lo k f) (hlo : lo ≤ k) (hk : k < Ak.slots.size) (hv : v = f k) : Laid A (Ak.setSlot k v) lo (k + 1) f := by
  refine ⟨h.1, h.2.1, by simpa [Cell.setSlot] using h.2.2.1, fun i => ?_⟩
  by_cases e : k = i
  · subst e; rw [Cell.slots_setSlot_self v hk, if_pos (by omega), hv]
  · rw [Cell.slots_setSlot_ne v e, h.2.2.2 i]
    by_cases q : lo ≤ i ∧ i < k
    · rw [if_pos q, if_pos (by omega)]
    · rw [if_neg q, if_neg (by omega)]
def U16 : String := "java/lang/StringUTF16"
namespace Cmp5
def yN : MethodName := ⟨"java/lang/StringUTF16", "compress", "([CI[BII)I"⟩
abbrev yB : ByteArray := jdk_52_method_21_code
theorem d0 : decode yB 0 = .ok (.iconst 0, 1) := by decide +kernel
theorem d1 : decode yB 1 = .ok (.istore 5, 2) := by decide +kernel
theorem d3 : decode yB 3 = .ok (.iload 5, 2) := by decide +kernel
theorem d5 : decode yB 5 = .ok (.iload 4, 2) := by decide +kernel
theorem d7 : decode yB 7 = .ok (.if_icmp (.ge) 37, 3) := by decide +kernel
theorem d10 : decode yB 10 = .ok (.aload_n 0, 1) := by decide +kernel
theorem d11 : decode yB 11 = .ok (.iload_n 1, 1) := by decide +kernel
theorem d12 : decode yB 12 = .ok (.caload, 1) := by decide +kernel
theorem d13 : decode yB 13 = .ok (.istore 6, 2) := by decide +kernel
theorem d15 : decode yB 15 = .ok (.iload 6, 2) := by decide +kernel
theorem d17 : decode yB 17 = .ok (.sipush 255, 3) := by decide +kernel
theorem d20 : decode yB 20 = .ok (.if_icmp (.le) 6, 3) := by decide +kernel
theorem d26 : decode yB 26 = .ok (.aload_n 2, 1) := by decide +kernel
theorem d27 : decode yB 27 = .ok (.iload_n 3, 1) := by decide +kernel
theorem d28 : decode yB 28 = .ok (.iload 6, 2) := by decide +kernel
theorem d30 : decode yB 30 = .ok (.i2b, 1) := by decide +kernel
theorem d31 : decode yB 31 = .ok (.bastore, 1) := by decide +kernel
theorem d32 : decode yB 32 = .ok (.iinc 1 1, 3) := by decide +kernel
theorem d35 : decode yB 35 = .ok (.iinc 3 1, 3) := by decide +kernel
theorem d38 : decode yB 38 = .ok (.iinc 5 1, 3) := by decide +kernel
theorem d41 : decode yB 41 = .ok (.goto (-38), 3) := by decide +kernel
theorem d44 : decode yB 44 = .ok (.iload 4, 2) := by decide +kernel
theorem d46 : decode yB 46 = .ok (.ireturn, 1) := by decide +kernel
def site : List Cond := []
def tab : Cond := tabOf yN yB 7 (some .int) site
def P (b : Addr) (A : Cell) (d : Addr) (B : Cell) (o q len : Nat) (args : Array Value) (s : State) : Prop := args = #[.ref b, .int (Int32.ofNat o), .ref d, .int (Int32.ofNat q), .int (Int32.ofNat len)] ∧ Ch b A s ∧ Arr .byte d B s ∧ b ≠ d ∧ o + len ≤ A.slots.size ∧ q + len ≤ B.slots.size ∧ ∀ i, i < len → ¬ 255 < cv A (o + i)
def E (b : Addr) (A : Cell) (d : Addr) (B : Cell) (o q len : Nat) (r : Option Value) (s u : State) : Prop := r = some (.int (Int32.ofNat len)) ∧ ∃ B', Put d B' s u ∧ Laid B B' q (q + len) (fun j => Value.int (lo8 (cv A (o + (j - q)))))
/-- no char of the range above 255: len; the places written hold each char's low byte -/
theorem law (l : Launch) (b : Addr) (A : Cell) (d : Addr) (B : Cell) (o q len : Nat) : Law l yN 5 5 0 0 yB 7 (some .int) site (P b A d B o q len) (E b A d B o q len) (copyLocs d q len) 0 0 := by
  refine Law.of_walk (plainFor_of_name (by decide +kernel)) (by decide +kernel) (by decide +kernel) (by decide) (fun _ _ h => by rw [h.1]; rfl) (fun _ U U' hal hh h => ⟨h.1, h.2.1.mv hal hh, h.2.2.1.mv hal hh, h.2.2.2⟩) (fun r U U' V V' h1 hal h2 h => ⟨h.1, h.2.elim fun B' q => ⟨B', q.1.mv h1 h2, q.2⟩⟩) ?_
  intro p e s m args below meth c s₁ X0 hexec hbytes hml hret hlk hnm hown hh0 W hP
  obtain ⟨rfl, hA, hB, hne, l1, l2, hp⟩ := hP
  have c1 : Steps p.tables e below (s₁.setTop (entryFrame m #[.ref b, .int (Int32.ofNat o), .ref d, .int (Int32.ofNat q), .int (Int32.ofNat len)] 7)) (s₁.setTop (mkF m 0 #[.val (.ref b), .val (.int (Int32.ofNat o)), .val (.ref d), .val (.int (Int32.ofNat q)), .val (.int (Int32.ofNat len)), .unset, .unset] [])) := entry rfl
  have hA0 := hA.1.mv X0.warmed.alike hh0
  have hB0 := hB.mv X0.warmed.alike hh0
  have a31 := hA.1.2.2.2
  have c2 : Steps p.tables e below (s₁.setTop (entryFrame m #[.ref b, .int (Int32.ofNat o), .ref d, .int (Int32.ofNat q), .int (Int32.ofNat len)] 7)) (s₁.setTop (mkF m 3 #[.val (.ref b), .val (.int (Int32.ofNat o)), .val (.ref d), .val (.int (Int32.ofNat q)), .val (.int (Int32.ofNat len)), .val (.int 0), .unset] [])) := c1.trans (by
    refine iconstV X0.here hexec rfl 0 (hb hbytes d0) (by decide) ?_
    refine XS.istore X0.here hexec rfl (hb hbytes d1) rfl rfl ?_
    exact Steps.refl _)
  have loop : ∀ (r i : Nat), i + r = len → ∀ (z : Slot), (z = .unset ∨ ∃ w, z = .val w ∧ w.category = 1) → ∀ (Tl : State) (Bk : Cell), Stand p l e { frames := 0, locals := 0, cells := 0, slots := 0 } s m #[.ref b, .int (Int32.ofNat o), .ref d, .int (Int32.ofNat q), .int (Int32.ofNat len)] below meth c Tl ([] ++ copyLocs d q i) 0 0 → Put d Bk s₁ Tl → Laid B Bk q (q + i) (fun j => Value.int (lo8 (cv A (o + (j - q))))) →
      Steps p.tables e below (s₁.setTop (entryFrame m #[.ref b, .int (Int32.ofNat o), .ref d, .int (Int32.ofNat q), .int (Int32.ofNat len)] 7)) (Tl.setTop (mkF m 3 #[.val (.ref b), .val (.int (Int32.ofNat (o + i))), .val (.ref d), .val (.int (Int32.ofNat (q + i))), .val (.int (Int32.ofNat len)), .val (.int (Int32.ofNat i)), z] [])) → ∃ (T' : State) (B' : Cell) (z' : Slot), Stand p l e { frames := 0, locals := 0, cells := 0, slots := 0 } s m #[.ref b, .int (Int32.ofNat o), .ref d, .int (Int32.ofNat q), .int (Int32.ofNat len)] below meth c T' ([] ++ copyLocs d q len) 0 0 ∧ Put d B' s₁ T' ∧ Laid B B' q (q + len) (fun j => Value.int (lo8 (cv A (o + (j - q))))) ∧
      Steps p.tables e below (s₁.setTop (entryFrame m #[.ref b, .int (Int32.ofNat o), .ref d, .int (Int32.ofNat q), .int (Int32.ofNat len)] 7)) (T'.setTop (mkF m 3 #[.val (.ref b), .val (.int (Int32.ofNat (o + len))), .val (.ref d), .val (.int (Int32.ofNat (q + len))), .val (.int (Int32.ofNat len)), .val (.int (Int32.ofNat len)), z'] [])) := by
    intro r
    induction r with
    | zero =>
      intro i hi z hz Tl Bk Xl pl fl cl
      have hil : i = len := by omega
      rw [hil] at Xl fl cl
      exact ⟨Tl, Bk, z, Xl, pl, fl, cl⟩
    | succ r ih =>
      intro i hi z hz Tl Bk Xl pl fl cl
      have all := X0.warmed.alike.symm.trans Xl.warmed.alike
      have hAl := hA0.keep all (pl.other hne hA0.1)
      have hBk := hB0.like all pl.1 fl.1 fl.2.1 fl.2.2.1
      have hlt : q + i < Bk.slots.size := by rw [fl.2.2.1]; omega
      have c3 : Steps p.tables e below (s₁.setTop (entryFrame m #[.ref b, .int (Int32.ofNat o), .ref d, .int (Int32.ofNat q), .int (Int32.ofNat len)] 7)) (Tl.setTop (mkF m 12 #[.val (.ref b), .val (.int (Int32.ofNat (o + i))), .val (.ref d), .val (.int (Int32.ofNat (q + i))), .val (.int (Int32.ofNat len)), .val (.int (Int32.ofNat i)), z] [.int (Int32.ofNat (o + i)), .ref b])) := cl.trans (by
        refine XS.iload Xl.here hexec rfl (hb hbytes d3) rfl ?_
        refine XS.iload Xl.here hexec rfl (hb hbytes d5) rfl ?_
        refine XS.icmpNo Xl.here hexec rfl (hb hbytes d7) rfl (ii_ge_f (lt32 (by omega) (by omega))) ?_
        refine XS.aloadN Xl.here hexec rfl (hb hbytes d10) rfl rfl ?_
        refine XS.iloadN Xl.here hexec rfl (hb hbytes d11) rfl ?_
        exact Steps.refl _)
      have c4 : Steps p.tables e below (s₁.setTop (entryFrame m #[.ref b, .int (Int32.ofNat o), .ref d, .int (Int32.ofNat q), .int (Int32.ofNat len)] 7)) (Tl.setTop (mkF m 13 #[.val (.ref b), .val (.int (Int32.ofNat (o + i))), .val (.ref d), .val (.int (Int32.ofNat (q + i))), .val (.int (Int32.ofNat len)), .val (.int (Int32.ofNat i)), z] [.int (cv A (o + i))])) := c3.trans (by
        refine Xl.aget hexec hAl rfl (hA.get (i := o + i) (by omega)) rfl rfl (hb hbytes d12) ?_
        exact Steps.refl _)
      have c5 : Steps p.tables e below (s₁.setTop (entryFrame m #[.ref b, .int (Int32.ofNat o), .ref d, .int (Int32.ofNat q), .int (Int32.ofNat len)] 7)) (Tl.setTop (mkF m 15 #[.val (.ref b), .val (.int (Int32.ofNat (o + i))), .val (.ref d), .val (.int (Int32.ofNat (q + i))), .val (.int (Int32.ofNat len)), .val (.int (Int32.ofNat i)), .val (.int (cv A (o + i)))] [])) := c4.trans (by
        refine XS.istoreS Xl.here hexec rfl (hb hbytes d13) rfl rfl hz ?_
        exact Steps.refl _)
      have c6 : Steps p.tables e below (s₁.setTop (entryFrame m #[.ref b, .int (Int32.ofNat o), .ref d, .int (Int32.ofNat q), .int (Int32.ofNat len)] 7)) (Tl.setTop (mkF m 31 #[.val (.ref b), .val (.int (Int32.ofNat (o + i))), .val (.ref d), .val (.int (Int32.ofNat (q + i))), .val (.int (Int32.ofNat len)), .val (.int (Int32.ofNat i)), .val (.int (cv A (o + i)))] [.int (lo8 (cv A (o + i))), .int (Int32.ofNat (q + i)), .ref d])) := c5.trans (by
        refine XS.iload Xl.here hexec rfl (hb hbytes d15) rfl ?_
        refine sipushV Xl.here hexec rfl 255 (hb hbytes d17) (by decide) ?_
        refine XS.icmpYes Xl.here hexec rfl (pc0 := 20) rfl (hb hbytes d20) rfl (ii_le_t (hp i (by omega))) (by decide) rfl ?_
        refine XS.aloadN Xl.here hexec rfl (hb hbytes d26) rfl rfl ?_
        refine XS.iloadN Xl.here hexec rfl (hb hbytes d27) rfl ?_
        refine XS.iload Xl.here hexec rfl (hb hbytes d28) rfl ?_
        refine i2b Xl.here hexec rfl (hb hbytes d30) rfl ?_
        exact Steps.refl _)
      obtain ⟨T7, X7, p7, st7⟩ := Xl.aput hexec hBk rfl hlt rfl (fits_lo8 (cv A (o + i))) (g := (mkF m 31 #[.val (.ref b), .val (.int (Int32.ofNat (o + i))), .val (.ref d), .val (.int (Int32.ofNat (q + i))), .val (.int (Int32.ofNat len)), .val (.int (Int32.ofNat i)), .val (.int (cv A (o + i)))] [.int (lo8 (cv A (o + i))), .int (Int32.ofNat (q + i)), .ref d])) rfl (rest := []) rfl (hb hbytes d31)
      have c8 : Steps p.tables e below (s₁.setTop (entryFrame m #[.ref b, .int (Int32.ofNat o), .ref d, .int (Int32.ofNat q), .int (Int32.ofNat len)] 7)) (T7.setTop (mkF m 32 #[.val (.ref b), .val (.int (Int32.ofNat (o + i))), .val (.ref d), .val (.int (Int32.ofNat (q + i))), .val (.int (Int32.ofNat len)), .val (.int (Int32.ofNat i)), .val (.int (cv A (o + i)))] [])) := c6.trans (st7 _ (Steps.refl _))
      have c9 : Steps p.tables e below (s₁.setTop (entryFrame m #[.ref b, .int (Int32.ofNat o), .ref d, .int (Int32.ofNat q), .int (Int32.ofNat len)] 7)) (T7.setTop (mkF m 3 #[.val (.ref b), .val (.int (Int32.ofNat (o + i) + 1)), .val (.ref d), .val (.int (Int32.ofNat (q + i) + 1)), .val (.int (Int32.ofNat len)), .val (.int (Int32.ofNat i + 1)), .val (.int (cv A (o + i)))] [])) := c8.trans (by
        refine iincV X7.here hexec rfl 1 (hb hbytes d32) (by decide) rfl rfl ?_
        refine iincV X7.here hexec rfl 1 (hb hbytes d35) (by decide) rfl rfl ?_
        refine iincV X7.here hexec rfl 1 (hb hbytes d38) (by decide) rfl rfl ?_
        refine XS.goto X7.here hexec rfl (pc0 := 41) rfl (hb hbytes d41) (by decide) rfl ?_
        exact Steps.refl _)
      have c10 : Steps p.tables e below (s₁.setTop (entryFrame m #[.ref b, .int (Int32.ofNat o), .ref d, .int (Int32.ofNat q), .int (Int32.ofNat len)] 7)) (T7.setTop (mkF m 3 #[.val (.ref b), .val (.int (Int32.ofNat (o + (i + 1)))), .val (.ref d), .val (.int (Int32.ofNat (q + (i + 1)))), .val (.int (Int32.ofNat len)), .val (.int (Int32.ofNat (i + 1))), .val (.int (cv A (o + i)))] [])) := by
        have := c9
        rw [succ32, succ32, succ32] at this
        exact this
      exact ih (i + 1) (by omega) _ (Or.inr ⟨_, rfl, rfl⟩) T7 _ (by rw [copyLocs_step, ← List.append_assoc]; exact X7) (pl.trans p7) (fl.step (by omega) hlt (by simp)) c10
  obtain ⟨T9, B9, z9, X9, p9, f9, g9⟩ := loop len 0 (by omega) .unset (Or.inl rfl) s₁ B (by simpa [copyLocs] using X0) ⟨hB0.1, fun _ _ => rfl, rfl⟩ (Laid.zero _ _ _) c2
  have c11 : Steps p.tables e below (s₁.setTop (entryFrame m #[.ref b, .int (Int32.ofNat o), .ref d, .int (Int32.ofNat q), .int (Int32.ofNat len)] 7)) (T9.setTop (mkF m 46 #[.val (.ref b), .val (.int (Int32.ofNat (o + len))), .val (.ref d), .val (.int (Int32.ofNat (q + len))), .val (.int (Int32.ofNat len)), .val (.int (Int32.ofNat len)), z9] [.int (Int32.ofNat len)])) := g9.trans (by
    refine XS.iload X9.here hexec rfl (hb hbytes d3) rfl ?_
    refine XS.iload X9.here hexec rfl (hb hbytes d5) rfl ?_
    refine XS.icmpYes X9.here hexec rfl (pc0 := 7) rfl (hb hbytes d7) rfl (ii_ge_t (nlt32 (by omega) (Nat.le_refl _))) (by decide) rfl ?_
    refine XS.iload X9.here hexec rfl (hb hbytes d44) rfl ?_
    exact Steps.refl _)
  exact ⟨T9, some (.int (Int32.ofNat len)), _, _, _, X9, by simp, rfl, rfl, (fun h => by cases h), ⟨rfl, B9, p9.from hh0, f9⟩, fun fs hl => c11.trans (X9.ireturnOut hexec hret rfl (Or.inl rfl) (hb hbytes d46) hl)⟩
end Cmp5
namespace Cmp3
def yN : MethodName := ⟨"java/lang/StringUTF16", "compress", "([CII)[B"⟩
abbrev yB : ByteArray := jdk_52_method_16_code
theorem d0 : decode yB 0 = .ok (.iload_n 2, 1) := by decide +kernel
theorem d1 : decode yB 1 = .ok (.newarray .byte, 2) := by decide +kernel
theorem d3 : decode yB 3 = .ok (.astore_n 3, 1) := by decide +kernel
theorem d4 : decode yB 4 = .ok (.aload_n 0, 1) := by decide +kernel
theorem d5 : decode yB 5 = .ok (.iload_n 1, 1) := by decide +kernel
theorem d6 : decode yB 6 = .ok (.aload_n 3, 1) := by decide +kernel
theorem d7 : decode yB 7 = .ok (.iconst 0, 1) := by decide +kernel
theorem d8 : decode yB 8 = .ok (.iload_n 2, 1) := by decide +kernel
theorem d9 : decode yB 9 = .ok (.invokestatic 115, 3) := by decide +kernel
theorem d12 : decode yB 12 = .ok (.istore 4, 2) := by decide +kernel
theorem d14 : decode yB 14 = .ok (.iload 4, 2) := by decide +kernel
theorem d16 : decode yB 16 = .ok (.iload_n 2, 1) := by decide +kernel
theorem d17 : decode yB 17 = .ok (.if_icmp (.eq) 40, 3) := by decide +kernel
theorem d57 : decode yB 57 = .ok (.aload_n 3, 1) := by decide +kernel
theorem d58 : decode yB 58 = .ok (.areturn, 1) := by decide +kernel
def site : List Cond := [.arrayClass .byte, Cmp5.tab] ++ staticW U16 115 Cmp5.yN
def tab : Cond := tabOf yN yB 6 (some (.array .byte)) site
def P (b : Addr) (A : Cell) (o len : Nat) (args : Array Value) (s : State) : Prop := args = #[.ref b, .int (Int32.ofNat o), .int (Int32.ofNat len)] ∧ Ch b A s ∧ o + len ≤ A.slots.size ∧ len ≤ 536870912 ∧ ∀ i, i < len → ¬ 255 < cv A (o + i)
def E (b : Addr) (A : Cell) (o len : Nat) (r : Option Value) (s u : State) : Prop := NewArr .byte "[B" len (fun j => .int (lo8 (cv A (o + j)))) r s u ∧ u.heap.size = s.heap.size + 1
/-- no char of the range above 255: a new byte[] of their low bytes -/
theorem law (l : Launch) (b : Addr) (A : Cell) (o len : Nat) : Law l yN 3 3 1 18 yB 6 (some (.array .byte)) site (P b A o len) (E b A o len) [] 1 len := by
  refine Law.of_walk (plainFor_of_name (by decide +kernel)) (by decide +kernel) (by decide +kernel) (by decide) (fun _ _ h => by rw [h.1]; rfl) (fun _ U U' hal hh h => ⟨h.1, h.2.1.mv hal hh, h.2.2⟩) (fun r U U' V V' h1 hal h2 h => ⟨NewArr.mv r U U' V V' h1 hal h2 h.1, by rw [h1, h2]; exact h.2⟩) ?_
  intro p e s m args below meth c s₁ X0 hexec hbytes hml hret hlk hnm hown hh0 W hP
  obtain ⟨rfl, hA, l1, l2, hp⟩ := hP
  have a31 := hA.1.2.2.2
  have c1 : Steps p.tables e below (s₁.setTop (entryFrame m #[.ref b, .int (Int32.ofNat o), .int (Int32.ofNat len)] 6)) (s₁.setTop (mkF m 0 #[.val (.ref b), .val (.int (Int32.ofNat o)), .val (.int (Int32.ofNat len)), .unset, .unset, .unset] [])) := entry rfl
  have c2 : Steps p.tables e below (s₁.setTop (entryFrame m #[.ref b, .int (Int32.ofNat o), .int (Int32.ofNat len)] 6)) (s₁.setTop (mkF m 1 #[.val (.ref b), .val (.int (Int32.ofNat o)), .val (.int (Int32.ofNat len)), .unset, .unset, .unset] [.int (Int32.ofNat len)])) := c1.trans (by
    refine XS.iloadN X0.here hexec rfl (hb hbytes d0) rfl ?_
    exact Steps.refl _)
  obtain ⟨T3, B3, X3, ba3, bs3, bv3, bh3, bf3, st3⟩ := X0.anew hexec (atype := .byte) (wk W (.arrayClass .byte)) rfl (by show len * 1 ≤ _; omega) (by omega) (g := (mkF m 1 #[.val (.ref b), .val (.int (Int32.ofNat o)), .val (.int (Int32.ofNat len)), .unset, .unset, .unset] [.int (Int32.ofNat len)])) rfl (hb hbytes d1) (rest := []) rfl (Nat.le_refl _) (by show 0 + len ≤ len; omega)
  rw [hh0] at ba3 st3
  have kp3 : XT.Kept s T3 := (XT.Kept.of_eq hh0).push bh3
  have hA3 := hA.keep X3.warmed.alike (kp3 _ _ hA.1.1)
  have hne : b ≠ s.heap.size := hA.1.ne
  have c4 : Steps p.tables e below (s₁.setTop (entryFrame m #[.ref b, .int (Int32.ofNat o), .int (Int32.ofNat len)] 6)) (T3.setTop (mkF m 3 #[.val (.ref b), .val (.int (Int32.ofNat o)), .val (.int (Int32.ofNat len)), .unset, .unset, .unset] [.ref s.heap.size])) := c2.trans (st3 _ (Steps.refl _))
  have c5 : Steps p.tables e below (s₁.setTop (entryFrame m #[.ref b, .int (Int32.ofNat o), .int (Int32.ofNat len)] 6)) (T3.setTop (mkF m 9 #[.val (.ref b), .val (.int (Int32.ofNat o)), .val (.int (Int32.ofNat len)), .val (.ref s.heap.size), .unset, .unset] [.int (Int32.ofNat len), .int 0, .ref s.heap.size, .int (Int32.ofNat o), .ref b])) := c4.trans (by
    refine XS.astoreN X3.here hexec rfl (hb hbytes d3) rfl rfl rfl ?_
    refine XS.aloadN X3.here hexec rfl (hb hbytes d4) rfl rfl ?_
    refine XS.iloadN X3.here hexec rfl (hb hbytes d5) rfl ?_
    refine XS.aloadN X3.here hexec rfl (hb hbytes d6) rfl rfl ?_
    refine iconstV X3.here hexec rfl 0 (hb hbytes d7) (by decide) ?_
    refine XS.iloadN X3.here hexec rfl (hb hbytes d8) rfl ?_
    exact Steps.refl _)
  obtain ⟨v6, T6, X6, E6, g6⟩ := X3.callS hexec (Cmp5.law l b A s.heap.size B3 o 0 len) hown (wks W (staticW U16 115 Cmp5.yN)) (wk W Cmp5.tab) (W := 0) (Nat.le_of_ble_eq_true rfl) (Nat.le_of_ble_eq_true rfl) (Nat.le_refl _) (by show 0 + len + 0 ≤ len; omega) (g := (mkF m 9 #[.val (.ref b), .val (.int (Int32.ofNat o)), .val (.int (Int32.ofNat len)), .val (.ref s.heap.size), .unset, .unset] [.int (Int32.ofNat len), .int (Int32.ofNat 0), .ref s.heap.size, .int (Int32.ofNat o), .ref b])) rfl (by rw [hml]; rfl) c5 (argsL := [.ref b, .int (Int32.ofNat o), .ref s.heap.size, .int (Int32.ofNat 0), .int (Int32.ofNat len)]) (rest := []) rfl rfl (by show 2 * 0 + 0 ≤ _; decide) (hb hbytes d9) (⟨rfl, hA3, ba3, hne, l1, by rw [bs3]; simp, hp⟩)
  obtain ⟨rfl, B6, p6, f6⟩ := E6
  have c7 : Steps p.tables e below (s₁.setTop (entryFrame m #[.ref b, .int (Int32.ofNat o), .int (Int32.ofNat len)] 6)) (T6.setTop (mkF m 12 #[.val (.ref b), .val (.int (Int32.ofNat o)), .val (.int (Int32.ofNat len)), .val (.ref s.heap.size), .unset, .unset] [.int (Int32.ofNat len)])) := g6
  have c8 : Steps p.tables e below (s₁.setTop (entryFrame m #[.ref b, .int (Int32.ofNat o), .int (Int32.ofNat len)] 6)) (T6.setTop (mkF m 58 #[.val (.ref b), .val (.int (Int32.ofNat o)), .val (.int (Int32.ofNat len)), .val (.ref s.heap.size), .val (.int (Int32.ofNat len)), .unset] [.ref s.heap.size])) := c7.trans (by
    refine XS.istore X6.here hexec rfl (hb hbytes d12) rfl rfl ?_
    refine XS.iload X6.here hexec rfl (hb hbytes d14) rfl ?_
    refine XS.iloadN X6.here hexec rfl (hb hbytes d16) rfl ?_
    refine XS.icmpYes X6.here hexec rfl (pc0 := 17) rfl (hb hbytes d17) rfl (ii_eq_t rfl) (by decide) rfl ?_
    refine XS.aloadN X6.here hexec rfl (hb hbytes d57) rfl rfl ?_
    exact Steps.refl _)
  have X8 := X6.wide (L' := []) (cells' := 1) (slots' := len) (fun x hx hlt => by
    simp only [List.nil_append, copyLocs, List.mem_map, List.mem_range] at hx
    obtain ⟨i, -, rfl⟩ := hx
    exact absurd hlt (Nat.lt_irrefl _)) (Nat.le_refl _) (by omega)
  exact ⟨T6, some (.ref s.heap.size), _, _, _, X8, rfl, rfl, rfl, (fun h => by cases h), ⟨⟨rfl, B6, ba3.like (X3.warmed.alike.symm.trans X6.warmed.alike) p6.1 f6.1 f6.2.1 f6.2.2.1, f6.2.1.trans bv3, by rw [X6.warmed.alike.findClass, f6.1]; exact bf3, by rw [f6.2.2.1, bs3]; simp, fun j hj => by rw [f6.2.2.2 j, if_pos (by omega)]; rfl, kp3.put p6 (Nat.le_refl _)⟩, by rw [p6.2.2, bh3, hh0]; simp⟩, fun fs hl => c8.trans (X8.areturnOut hexec rfl hret rfl (hb hbytes d58) hl)⟩
end Cmp3
namespace CodL
def yN : MethodName := ⟨"java/lang/StringUTF16", "coderFromArrayLen", "([BI)B"⟩
abbrev yB : ByteArray := jdk_52_method_15_code
theorem d0 : decode yB 0 = .ok (.iload_n 1, 1) := by decide +kernel
theorem d1 : decode yB 1 = .ok (.aload_n 0, 1) := by decide +kernel
theorem d2 : decode yB 2 = .ok (.arraylength, 1) := by decide +kernel
theorem d3 : decode yB 3 = .ok (.isub, 1) := by decide +kernel
theorem d4 : decode yB 4 = .ok (.bipush 31, 2) := by decide +kernel
theorem d6 : decode yB 6 = .ok (.iushr, 1) := by decide +kernel
theorem d7 : decode yB 7 = .ok (.i2b, 1) := by decide +kernel
theorem d8 : decode yB 8 = .ok (.ireturn, 1) := by decide +kernel
def site : List Cond := []
def tab : Cond := tabOf yN yB 2 (some .byte) site
def P (d : Addr) (B : Cell) (args : Array Value) (s : State) : Prop := args = #[.ref d, .int (Int32.ofNat B.slots.size)] ∧ Arr .byte d B s
def E (r : Option Value) (s u : State) : Prop := XT.PureE (some (.int 0)) r s u
/-- an array as long as the number of chars: LATIN1 -/
theorem law (l : Launch) (d : Addr) (B : Cell) : Law l yN 2 2 0 0 yB 2 (some .byte) site (P d B) E [] 0 0 := by
  refine Law.of_walk (plainFor_of_name (by decide +kernel)) (by decide +kernel) (by decide +kernel) (by decide) (fun _ _ h => by rw [h.1]; rfl) (fun _ U U' hal hh h => ⟨h.1, h.2.mv hal hh⟩) (fun r U U' V V' h1 hal h2 h => XT.PureE.mv r U U' V V' h1 hal h2 h) ?_
  intro p e s m args below meth c s₁ X0 hexec hbytes hml hret hlk hnm hown hh0 W hP
  obtain ⟨rfl, hB⟩ := hP
  have hB0 := hB.mv X0.warmed.alike hh0
  have c1 : Steps p.tables e below (s₁.setTop (entryFrame m #[.ref d, .int (Int32.ofNat B.slots.size)] 2)) (s₁.setTop (mkF m 0 #[.val (.ref d), .val (.int (Int32.ofNat B.slots.size))] [])) := entry rfl
  have c2 : Steps p.tables e below (s₁.setTop (entryFrame m #[.ref d, .int (Int32.ofNat B.slots.size)] 2)) (s₁.setTop (mkF m 2 #[.val (.ref d), .val (.int (Int32.ofNat B.slots.size))] [.ref d, .int (Int32.ofNat B.slots.size)])) := c1.trans (by
    refine XS.iloadN X0.here hexec rfl (hb hbytes d0) rfl ?_
    refine XS.aloadN X0.here hexec rfl (hb hbytes d1) rfl rfl ?_
    exact Steps.refl _)
  have c3 : Steps p.tables e below (s₁.setTop (entryFrame m #[.ref d, .int (Int32.ofNat B.slots.size)] 2)) (s₁.setTop (mkF m 8 #[.val (.ref d), .val (.int (Int32.ofNat B.slots.size))] [.int (lo8 (ushr (Int32.ofNat B.slots.size - Int32.ofNat B.slots.size) 31))])) := c2.trans (by
    refine X0.alen hexec hB0 rfl rfl (hb hbytes d2) ?_
    refine XS.isub X0.here hexec rfl (hb hbytes d3) rfl ?_
    refine bipushV X0.here hexec rfl 31 (hb hbytes d4) (by decide) ?_
    refine iushr X0.here hexec rfl (hb hbytes d6) rfl ?_
    refine i2b X0.here hexec rfl (hb hbytes d7) rfl ?_
    exact Steps.refl _)
  have e0 : lo8 (ushr (Int32.ofNat B.slots.size - Int32.ofNat B.slots.size) 31) = 0 := by rw [Int32.sub_self]; decide
  rw [e0] at c3
  exact ⟨s₁, some (.int 0), _, _, _, X0, rfl, rfl, rfl, (fun h => by cases h), ⟨rfl, hh0⟩, fun fs hl => c3.trans (X0.ireturnOut hexec hret rfl (Or.inr (Or.inr (Or.inl rfl))) (hb hbytes d8) hl)⟩
end CodL
/-- the String at a is Latin-1 over a new byte[] (the heap's one new cell): the low bytes of the len chars of A from o on; every cell but a is kept -/
def Got (a : Addr) (D : Cell) (fV fC : Field) (A : Cell) (o len : Nat) (r : Option Value) (s u : State) : Prop := r = none ∧ ∃ D' V : Cell, Blank "java/lang/String" a D' u ∧ Same D D' [fV.slot, fC.slot] ∧ D'.slots[fV.slot]? = some (.ref s.heap.size) ∧ D'.slots[fC.slot]? = some (.int 0) ∧ Arr .byte s.heap.size V u ∧ V.vm = .none ∧ u.vm.findClass "[B" = some V.cls ∧ V.slots.size = len ∧ (∀ j, j < len → V.slots[j]? = some (.int (lo8 (cv A (o + j))))) ∧ (∀ (y : Addr) (c : Cell), y ≠ a → s.heap[y]? = some c → u.heap[y]? = some c) ∧ u.heap.size = s.heap.size + 1
theorem Got.mv {a : Addr} {D A : Cell} {fV fC : Field} {o len : Nat} : ∀ r (U U' V V' : State), U'.heap = U.heap → V.vm.Alike V'.vm → V'.heap = V.heap → Got a D fV fC A o len r U V → Got a D fV fC A o len r U' V' :=
  fun r U U' V V' h1 hal h2 ⟨e0, D', X, a1, a2, a3, a4, a5, a6, a7, a8, a9, a10, a11⟩ => ⟨e0, D', X, a1.mv hal h2, a2, by rw [h1]; exact a3, a4, by rw [h1]; exact a5.mv hal h2, a6, by rw [hal.findClass]; exact a7, a8, a9, by rw [h1, h2]; exact a10, by rw [h1, h2]; exact a11⟩
namespace New4
def yN : MethodName := ⟨"java/lang/String", "<init>", "([CIILjava/lang/Void;)V"⟩
abbrev yB : ByteArray := jdk_42_method_149_code
theorem d0 : decode yB 0 = .ok (.aload_n 0, 1) := by decide +kernel
theorem d1 : decode yB 1 = .ok (.invokespecial 1, 3) := by decide +kernel
theorem d4 : decode yB 4 = .ok (.iload_n 3, 1) := by decide +kernel
theorem d5 : decode yB 5 = .ok (.ifCond (.ne) 22, 3) := by decide +kernel
theorem d27 : decode yB 27 = .ok (.getstatic 38, 3) := by decide +kernel
theorem d30 : decode yB 30 = .ok (.ifCond (.eq) 28, 3) := by decide +kernel
theorem d33 : decode yB 33 = .ok (.aload_n 1, 1) := by decide +kernel
theorem d34 : decode yB 34 = .ok (.iload_n 2, 1) := by decide +kernel
theorem d35 : decode yB 35 = .ok (.iload_n 3, 1) := by decide +kernel
theorem d36 : decode yB 36 = .ok (.invokestatic 177, 3) := by decide +kernel
theorem d39 : decode yB 39 = .ok (.astore 5, 2) := by decide +kernel
theorem d41 : decode yB 41 = .ok (.aload_n 0, 1) := by decide +kernel
theorem d42 : decode yB 42 = .ok (.aload 5, 2) := by decide +kernel
theorem d44 : decode yB 44 = .ok (.iload_n 3, 1) := by decide +kernel
theorem d45 : decode yB 45 = .ok (.invokestatic 47, 3) := by decide +kernel
theorem d48 : decode yB 48 = .ok (.putfield 15, 3) := by decide +kernel
theorem d51 : decode yB 51 = .ok (.aload_n 0, 1) := by decide +kernel
theorem d52 : decode yB 52 = .ok (.aload 5, 2) := by decide +kernel
theorem d54 : decode yB 54 = .ok (.putfield 9, 3) := by decide +kernel
theorem d57 : decode yB 57 = .ok (.return_, 1) := by decide +kernel
def site : List Cond := [.fieldLink "java/lang/String" 38 "java/lang/String" "COMPACT_STRINGS" "Z", Cmp3.tab, CodL.tab, .laysFinal "java/lang/String" "java/lang/String" "value" "[B", .fieldLink "java/lang/String" 9 "java/lang/String" "value" "[B", .laysFinal "java/lang/String" "java/lang/String" "coder" "B", .fieldLink "java/lang/String" 15 "java/lang/String" "coder" "B"] ++ objW "java/lang/String" 1 ++ staticW "java/lang/String" 177 Cmp3.yN ++ staticW "java/lang/String" 47 CodL.yN
def tab : Cond := tabOf yN yB 6 none site
def P (a : Addr) (D : Cell) (fV fC : Field) (b : Addr) (A : Cell) (z : Int32) (o len : Nat) (args : Array Value) (s : State) : Prop := args = #[.ref a, .ref b, .int (Int32.ofNat o), .int (Int32.ofNat len), .null] ∧ Blank "java/lang/String" a D s ∧ Found "java/lang/String" "value" "[B" fV s ∧ Found "java/lang/String" "coder" "B" fC s ∧ Ch b A s ∧ StaticIs s "java/lang/String" "COMPACT_STRINGS" "Z" (.int z) ∧ ¬ z = 0 ∧ 0 < len ∧ o + len ≤ A.slots.size ∧ len ≤ 536870912 ∧ ∀ i, i < len → ¬ 255 < cv A (o + i)
def E (a : Addr) (D : Cell) (fV fC : Field) (A : Cell) (o len : Nat) (r : Option Value) (s u : State) : Prop := Got a D fV fC A o len r s u
/-- len > 0, no char of the range above 255: a Latin-1 String of their low bytes -/
theorem law (l : Launch) (a : Addr) (D : Cell) (fV fC : Field) (b : Addr) (A : Cell) (z : Int32) (o len : Nat) : Law l yN 5 4 2 35 yB 6 none site (P a D fV fC b A z o len) (E a D fV fC A o len) [⟨a, fC.slot⟩, ⟨a, fV.slot⟩] 1 len := by
  refine Law.of_walk (plainFor_of_name (by decide +kernel)) (by decide +kernel) (by decide +kernel) (by decide) (fun _ _ h => by rw [h.1]; rfl) (fun _ U U' hal hh h => ⟨h.1, h.2.1.mv hal hh, h.2.2.1.al hal, h.2.2.2.1.al hal, h.2.2.2.2.1.mv hal hh, h.2.2.2.2.2.1.there hal hh, h.2.2.2.2.2.2⟩) (fun r U U' V V' h1 hal h2 h => Got.mv r U U' V V' h1 hal h2 h) ?_
  intro p e s m args below meth c s₁ X0 hexec hbytes hml hret hlk hnm hown hh0 W hP
  obtain ⟨rfl, hB, f1, f2, hA, s1, hz, l0, l1, l2, hp⟩ := hP
  have a31 := hA.1.2.2.2
  have c1 : Steps p.tables e below (s₁.setTop (entryFrame m #[.ref a, .ref b, .int (Int32.ofNat o), .int (Int32.ofNat len), .null] 6)) (s₁.setTop (mkF m 0 #[.val (.ref a), .val (.ref b), .val (.int (Int32.ofNat o)), .val (.int (Int32.ofNat len)), .val .null, .unset] [])) := entry rfl
  have c2 : Steps p.tables e below (s₁.setTop (entryFrame m #[.ref a, .ref b, .int (Int32.ofNat o), .int (Int32.ofNat len), .null] 6)) (s₁.setTop (mkF m 1 #[.val (.ref a), .val (.ref b), .val (.int (Int32.ofNat o)), .val (.int (Int32.ofNat len)), .val .null, .unset] [.ref a])) := c1.trans (by
    refine XS.aloadN X0.here hexec rfl (hb hbytes d0) rfl rfl ?_
    exact Steps.refl _)
  obtain ⟨T3, X3, q3, st3⟩ := X0.oinit hexec hown (wks W (objW "java/lang/String" 1)) (g := (mkF m 1 #[.val (.ref a), .val (.ref b), .val (.int (Int32.ofNat o)), .val (.int (Int32.ofNat len)), .val .null, .unset] [.ref a])) rfl (by rw [hml]; rfl) (rest := []) rfl (hb hbytes d1) (W := 0) (by show 2 * 0 + 0 ≤ _; decide) (Nat.le_of_ble_eq_true rfl) (Nat.le_of_ble_eq_true rfl)
  have hh3 := q3.trans hh0
  have c4 : Steps p.tables e below (s₁.setTop (entryFrame m #[.ref a, .ref b, .int (Int32.ofNat o), .int (Int32.ofNat len), .null] 6)) (T3.setTop (mkF m 27 #[.val (.ref a), .val (.ref b), .val (.int (Int32.ofNat o)), .val (.int (Int32.ofNat len)), .val .null, .unset] [])) := (c2.trans (st3 _ (Steps.refl _))).trans (by
    refine XS.iloadN X3.here hexec rfl (hb hbytes d4) rfl ?_
    refine XS.ifYes X3.here hexec rfl (pc0 := 5) rfl (hb hbytes d5) rfl (i0_ne_t (nz32 (by omega) l0)) (by decide) rfl ?_
    exact Steps.refl _)
  obtain ⟨T5, X5, q5, st5⟩ := X3.sget hexec hown (wk W (.fieldLink "java/lang/String" 38 "java/lang/String" "COMPACT_STRINGS" "Z")) s1 (fun _ _ h => by rw [hh3]; exact h) (g := (mkF m 27 #[.val (.ref a), .val (.ref b), .val (.int (Int32.ofNat o)), .val (.int (Int32.ofNat len)), .val .null, .unset] [])) rfl (hb hbytes d27)
  have hh5 := q5.trans hh3
  have c6 : Steps p.tables e below (s₁.setTop (entryFrame m #[.ref a, .ref b, .int (Int32.ofNat o), .int (Int32.ofNat len), .null] 6)) (T5.setTop (mkF m 30 #[.val (.ref a), .val (.ref b), .val (.int (Int32.ofNat o)), .val (.int (Int32.ofNat len)), .val .null, .unset] [.int z])) := c4.trans (st5 _ (Steps.refl _))
  have c7 : Steps p.tables e below (s₁.setTop (entryFrame m #[.ref a, .ref b, .int (Int32.ofNat o), .int (Int32.ofNat len), .null] 6)) (T5.setTop (mkF m 36 #[.val (.ref a), .val (.ref b), .val (.int (Int32.ofNat o)), .val (.int (Int32.ofNat len)), .val .null, .unset] [.int (Int32.ofNat len), .int (Int32.ofNat o), .ref b])) := c6.trans (by
    refine XS.ifNo X5.here hexec rfl (hb hbytes d30) rfl (i0_eq_f hz) ?_
    refine XS.aloadN X5.here hexec rfl (hb hbytes d33) rfl rfl ?_
    refine XS.iloadN X5.here hexec rfl (hb hbytes d34) rfl ?_
    refine XS.iloadN X5.here hexec rfl (hb hbytes d35) rfl ?_
    exact Steps.refl _)
  obtain ⟨v8, T8, X8, E8, g8⟩ := X5.callS hexec (Cmp3.law l b A o len) hown (wks W (staticW "java/lang/String" 177 Cmp3.yN)) (wk W Cmp3.tab) (W := 0) (Nat.le_of_ble_eq_true rfl) (Nat.le_of_ble_eq_true rfl) (Nat.le_refl _) (by show 0 + len ≤ len; omega) (g := (mkF m 36 #[.val (.ref a), .val (.ref b), .val (.int (Int32.ofNat o)), .val (.int (Int32.ofNat len)), .val .null, .unset] [.int (Int32.ofNat len), .int (Int32.ofNat o), .ref b])) rfl (by rw [hml]; rfl) c7 (argsL := [.ref b, .int (Int32.ofNat o), .int (Int32.ofNat len)]) (rest := []) rfl rfl (by show 2 * 0 + 0 ≤ _; decide) (hb hbytes d36) (⟨rfl, hA.mv X5.warmed.alike hh5, l1, l2, hp⟩)
  obtain ⟨e8, z8⟩ := E8
  obtain ⟨rfl, N, n1, n2, n3, n4, n5, n6⟩ := NewArr.mv _ T5 s _ _ hh5.symm (Vm.Alike.refl _) rfl e8
  rw [hh5] at z8
  have hB1 := hB.keep X8.warmed.alike (n6 _ _ hB.1)
  have hne : s.heap.size ≠ a := (Nat.ne_of_lt (Array.getElem?_eq_some_iff.mp hB.1).1).symm
  have c9 : Steps p.tables e below (s₁.setTop (entryFrame m #[.ref a, .ref b, .int (Int32.ofNat o), .int (Int32.ofNat len), .null] 6)) (T8.setTop (mkF m 39 #[.val (.ref a), .val (.ref b), .val (.int (Int32.ofNat o)), .val (.int (Int32.ofNat len)), .val .null, .unset] [.ref s.heap.size])) := g8
  have c10 : Steps p.tables e below (s₁.setTop (entryFrame m #[.ref a, .ref b, .int (Int32.ofNat o), .int (Int32.ofNat len), .null] 6)) (T8.setTop (mkF m 45 #[.val (.ref a), .val (.ref b), .val (.int (Int32.ofNat o)), .val (.int (Int32.ofNat len)), .val .null, .val (.ref s.heap.size)] [.int (Int32.ofNat N.slots.size), .ref s.heap.size, .ref a])) := by
    have hc : Steps p.tables e below (s₁.setTop (entryFrame m #[.ref a, .ref b, .int (Int32.ofNat o), .int (Int32.ofNat len), .null] 6)) (T8.setTop (mkF m 45 #[.val (.ref a), .val (.ref b), .val (.int (Int32.ofNat o)), .val (.int (Int32.ofNat len)), .val .null, .val (.ref s.heap.size)] [.int (Int32.ofNat len), .ref s.heap.size, .ref a])) := c9.trans (by
      refine XS.astore X8.here hexec rfl (hb hbytes d39) rfl rfl rfl ?_
      refine XS.aloadN X8.here hexec rfl (hb hbytes d41) rfl rfl ?_
      refine XS.aload X8.here hexec rfl (hb hbytes d42) rfl rfl ?_
      refine XS.iloadN X8.here hexec rfl (hb hbytes d44) rfl ?_
      exact Steps.refl _)
    rw [n4]; exact hc
  obtain ⟨v11, T11, X11, E11, g11⟩ := X8.callS hexec (CodL.law l s.heap.size N) hown (wks W (staticW "java/lang/String" 47 CodL.yN)) (wk W CodL.tab) (W := 1) (Nat.le_of_ble_eq_true rfl) (Nat.le_of_ble_eq_true rfl) (Nat.le_refl _) (by show 0 + len + 0 ≤ len; omega) (g := (mkF m 45 #[.val (.ref a), .val (.ref b), .val (.int (Int32.ofNat o)), .val (.int (Int32.ofNat len)), .val .null, .val (.ref s.heap.size)] [.int (Int32.ofNat N.slots.size), .ref s.heap.size, .ref a])) rfl (by rw [hml]; rfl) c10 (argsL := [.ref s.heap.size, .int (Int32.ofNat N.slots.size)]) (rest := [.ref a]) rfl rfl (by show 2 * 0 + (1 + 0) ≤ _; decide) (hb hbytes d45) (⟨rfl, n1⟩)
  obtain ⟨rfl, q11⟩ := E11
  have hB11 := hB1.mv (X8.warmed.alike.symm.trans X11.warmed.alike) q11
  have c12 : Steps p.tables e below (s₁.setTop (entryFrame m #[.ref a, .ref b, .int (Int32.ofNat o), .int (Int32.ofNat len), .null] 6)) (T11.setTop (mkF m 48 #[.val (.ref a), .val (.ref b), .val (.int (Int32.ofNat o)), .val (.int (Int32.ofNat len)), .val .null, .val (.ref s.heap.size)] [.int 0, .ref a])) := g11
  obtain ⟨T13, X13, p13, bl13, sl13, st13⟩ := X11.finit hexec hown (wk W (.fieldLink "java/lang/String" 15 "java/lang/String" "coder" "B")) (Or.inr ⟨_, (wk W (.laysFinal "java/lang/String" "java/lang/String" "coder" "B"))⟩) (Or.inl ⟨rfl, hnm⟩) f2 (Or.inl rfl) hB11 (t := .byte) (by decide +kernel) rfl (g := (mkF m 48 #[.val (.ref a), .val (.ref b), .val (.int (Int32.ofNat o)), .val (.int (Int32.ofNat len)), .val .null, .val (.ref s.heap.size)] [.int 0, .ref a])) rfl (rest := []) rfl (hb hbytes d48)
  have c14 : Steps p.tables e below (s₁.setTop (entryFrame m #[.ref a, .ref b, .int (Int32.ofNat o), .int (Int32.ofNat len), .null] 6)) (T13.setTop (mkF m 54 #[.val (.ref a), .val (.ref b), .val (.int (Int32.ofNat o)), .val (.int (Int32.ofNat len)), .val .null, .val (.ref s.heap.size)] [.ref s.heap.size, .ref a])) := (c12.trans (st13 _ (Steps.refl _))).trans (by
    refine XS.aloadN X13.here hexec rfl (hb hbytes d51) rfl rfl ?_
    refine XS.aload X13.here hexec rfl (hb hbytes d52) rfl rfl ?_
    exact Steps.refl _)
  obtain ⟨T15, X15, p15, bl15, sl15, st15⟩ := X13.finit hexec hown (wk W (.fieldLink "java/lang/String" 9 "java/lang/String" "value" "[B")) (Or.inr ⟨_, (wk W (.laysFinal "java/lang/String" "java/lang/String" "value" "[B"))⟩) (Or.inl ⟨rfl, hnm⟩) f1 (Or.inl rfl) bl13 (t := (.array .byte)) (by decide +kernel) rfl (g := (mkF m 54 #[.val (.ref a), .val (.ref b), .val (.int (Int32.ofNat o)), .val (.int (Int32.ofNat len)), .val .null, .val (.ref s.heap.size)] [.ref s.heap.size, .ref a])) rfl (rest := []) rfl (hb hbytes d54)
  have c16 : Steps p.tables e below (s₁.setTop (entryFrame m #[.ref a, .ref b, .int (Int32.ofNat o), .int (Int32.ofNat len), .null] 6)) (T15.setTop (mkF m 57 #[.val (.ref a), .val (.ref b), .val (.int (Int32.ofNat o)), .val (.int (Int32.ofNat len)), .val .null, .val (.ref s.heap.size)] [])) := c14.trans (st15 _ (Steps.refl _))
  have ap := apart (Or.inr ⟨_, (wk W (.laysFinal "java/lang/String" "java/lang/String" "value" "[B"))⟩) (Or.inr ⟨_, (wk W (.laysFinal "java/lang/String" "java/lang/String" "coder" "B"))⟩) f1 f2 (t₁ := .array .byte) (t₂ := .byte) (by decide +kernel) (by decide +kernel) (by decide)
  have al := X8.warmed.alike.symm.trans X15.warmed.alike
  have n7 : T11.heap[s.heap.size]? = some N := by rw [q11]; exact n1.1
  exact ⟨T15, none, _, _, _, X15, by simp, rfl, by omega, (fun _ => rfl), ⟨rfl, _, N, bl15, ((Same.refl D _).set _ (by simp)).set _ (by simp), sl15, (Cell.slots_setSlot_ne _ ap).trans sl13, n1.keep al (p15.other hne (p13.other hne n7)), n2, by rw [al.findClass]; exact n3, n4, n5, fun y c h1 h2 => p15.other h1 (p13.other h1 (by rw [q11]; exact n6 y c h2)), by rw [p15.2.2, p13.2.2, q11]; exact z8⟩, fun fs hl => c16.trans (X15.returnOut hexec hret (hb hbytes d57) hl)⟩
end New4
namespace New1
def yN : MethodName := ⟨"java/lang/String", "<init>", "([C)V"⟩
abbrev yB : ByteArray := jdk_42_method_3_code
theorem d0 : decode yB 0 = .ok (.aload_n 0, 1) := by decide +kernel
theorem d1 : decode yB 1 = .ok (.aload_n 1, 1) := by decide +kernel
theorem d2 : decode yB 2 = .ok (.iconst 0, 1) := by decide +kernel
theorem d3 : decode yB 3 = .ok (.aload_n 1, 1) := by decide +kernel
theorem d4 : decode yB 4 = .ok (.arraylength, 1) := by decide +kernel
theorem d5 : decode yB 5 = .ok (.aconst_null, 1) := by decide +kernel
theorem d6 : decode yB 6 = .ok (.invokespecial 27, 3) := by decide +kernel
theorem d9 : decode yB 9 = .ok (.return_, 1) := by decide +kernel
def site : List Cond := [New4.tab] ++ initW "java/lang/String" 27 New4.yN
def tab : Cond := tabOf yN yB 2 none site
def P (a : Addr) (D : Cell) (fV fC : Field) (b : Addr) (A : Cell) (z : Int32) (args : Array Value) (s : State) : Prop := args = #[.ref a, .ref b] ∧ Blank "java/lang/String" a D s ∧ Found "java/lang/String" "value" "[B" fV s ∧ Found "java/lang/String" "coder" "B" fC s ∧ Ch b A s ∧ StaticIs s "java/lang/String" "COMPACT_STRINGS" "Z" (.int z) ∧ ¬ z = 0 ∧ 0 < A.slots.size ∧ A.slots.size ≤ 536870912 ∧ ∀ i, i < A.slots.size → ¬ 255 < cv A i
def E (a : Addr) (D : Cell) (fV fC : Field) (A : Cell) (r : Option Value) (s u : State) : Prop := Got a D fV fC A 0 A.slots.size r s u
/-- new String(chars), not empty, no char above 255: a Latin-1 String of their low bytes -/
theorem law (l : Launch) (a : Addr) (D : Cell) (fV fC : Field) (b : Addr) (A : Cell) (z : Int32) : Law l yN 2 1 3 52 yB 2 none site (P a D fV fC b A z) (E a D fV fC A) [⟨a, fC.slot⟩, ⟨a, fV.slot⟩] 1 A.slots.size := by
  refine Law.of_walk (plainFor_of_name (by decide +kernel)) (by decide +kernel) (by decide +kernel) (by decide) (fun _ _ h => by rw [h.1]; rfl) (fun _ U U' hal hh h => ⟨h.1, h.2.1.mv hal hh, h.2.2.1.al hal, h.2.2.2.1.al hal, h.2.2.2.2.1.mv hal hh, h.2.2.2.2.2.1.there hal hh, h.2.2.2.2.2.2⟩) (fun r U U' V V' h1 hal h2 h => Got.mv r U U' V V' h1 hal h2 h) ?_
  intro p e s m args below meth c s₁ X0 hexec hbytes hml hret hlk hnm hown hh0 W hP
  obtain ⟨rfl, hB, f1, f2, hA, s1, hz, l0, l2, hp⟩ := hP
  have c1 : Steps p.tables e below (s₁.setTop (entryFrame m #[.ref a, .ref b] 2)) (s₁.setTop (mkF m 0 #[.val (.ref a), .val (.ref b)] [])) := entry rfl
  have c2 : Steps p.tables e below (s₁.setTop (entryFrame m #[.ref a, .ref b] 2)) (s₁.setTop (mkF m 6 #[.val (.ref a), .val (.ref b)] [.null, .int (Int32.ofNat A.slots.size), .int 0, .ref b, .ref a])) := c1.trans (by
    refine XS.aloadN X0.here hexec rfl (hb hbytes d0) rfl rfl ?_
    refine XS.aloadN X0.here hexec rfl (hb hbytes d1) rfl rfl ?_
    refine iconstV X0.here hexec rfl 0 (hb hbytes d2) (by decide) ?_
    refine XS.aloadN X0.here hexec rfl (hb hbytes d3) rfl rfl ?_
    refine X0.alen hexec (hA.1.mv X0.warmed.alike hh0) rfl rfl (hb hbytes d4) ?_
    refine XS.aconstNull X0.here hexec rfl (hb hbytes d5) ?_
    exact Steps.refl _)
  obtain ⟨v3, T3, X3, E3, g3⟩ := X0.callN hexec (New4.law l a D fV fC b A z 0 A.slots.size) rfl hown (wks W (initW "java/lang/String" 27 New4.yN)) (W New4.tab (by simp only [site, List.mem_cons, List.mem_append, true_or, or_true])) (W := 0) (Nat.le_of_ble_eq_true rfl) (Nat.le_of_ble_eq_true rfl) (Nat.le_refl _) (by show 0 + A.slots.size ≤ A.slots.size; omega) (g := (mkF m 6 #[.val (.ref a), .val (.ref b)] [.null, .int (Int32.ofNat A.slots.size), .int (Int32.ofNat 0), .ref b, .ref a])) rfl (by rw [hml]; rfl) c2 (argsL := [.ref b, .int (Int32.ofNat 0), .int (Int32.ofNat A.slots.size), .null]) (rest := []) rfl rfl (by show 2 * 0 + 0 ≤ _; decide) (hb hbytes d6) (⟨rfl, hB.mv X0.warmed.alike hh0, f1.al X0.warmed.alike, f2.al X0.warmed.alike, hA.mv X0.warmed.alike hh0, s1.there X0.warmed.alike hh0, hz, l0, by omega, l2, fun i hi => by rw [Nat.zero_add]; exact hp i hi⟩)
  have e0 := Got.mv _ s₁ s _ _ hh0.symm (Vm.Alike.refl _) rfl E3
  obtain rfl := e0.1
  have c4 : Steps p.tables e below (s₁.setTop (entryFrame m #[.ref a, .ref b] 2)) (T3.setTop (mkF m 9 #[.val (.ref a), .val (.ref b)] [])) := g3
  exact ⟨T3, none, _, _, _, X3, by simp, rfl, by omega, (fun _ => rfl), e0, fun fs hl => c4.trans (X3.returnOut hexec hret (hb hbytes d9) hl)⟩
theorem pays {l : Launch} {R : Room} {p : Program} {e : Env} {below : List Frame} {s : State} {sargs : Array Value} {len W : Nat} (a : Addr) (D : Cell) (fV fC : Field) (b : Addr) (A : Cell) (z : Int32) (htab : tab.before sargs s = true) (hfr : 4 ≤ R.frames) (hlo : W + 65 ≤ R.locals) :
    Back l R p e below s sargs yN len W (fun A₁ a₁ => A₁.cells + 1 ≤ R.cells ∧ A₁.slots + A.slots.size ≤ R.slots ∧ P a D fV fC b A z a₁ A₁.U) (fun A₁ _ v₁ B₁ => E a D fV fC A v₁ A₁.U B₁.U ∧ B₁.locs = A₁.locs ++ [⟨a, fC.slot⟩, ⟨a, fV.slot⟩] ∧ B₁.cells = A₁.cells + 1 ∧ B₁.slots = A₁.slots + A.slots.size) :=
  (law l a D fV fC b A z).pays htab hfr (by omega)
end New1
/-- the byte, read back as charAt reads it, is the char -/
theorem lo8_mask {x : Int32} (h0 : ¬ x < 0) (h1 : ¬ 255 < x) : lo8 x &&& 255 = x := by
  have t : ∀ k : Fin 256, lo8 (Int32.ofNat k.val) &&& 255 = Int32.ofNat k.val := by decide +kernel
  rw [Int32.lt_iff_toInt_lt] at h0 h1
  have e0 : (0 : Int32).toInt = 0 := rfl
  have e1 : (255 : Int32).toInt = 255 := rfl
  obtain ⟨k, hk⟩ : ∃ k : Nat, x.toInt = k := ⟨x.toInt.toNat, by omega⟩
  have hx : x = Int32.ofNat k := Int32.toInt_inj.mp (by rw [hk, Int32.toInt_ofNat_small (by omega)])
  rw [hx]
  exact t ⟨k, by omega⟩
end StrChars
namespace StrChars.Road
open Jvm Sem ClassFile Op Lib Jvm.Stand Jvm.Free Jvm.Free.XT
open Jvm.Lib.Cold (StaticIs)
abbrev ST : String := "java/lang/String"
/-- every table word that New1's law asks, flat -/
abbrev words : List Jvm.Cond := [.code New1.yN New1.yB 2 none, .initialized ST, .methodLink ST 27 New4.yN, .instanceMethod New4.yN,
  .code New4.yN New4.yB 6 none, .fieldLink ST 38 ST "COMPACT_STRINGS" "Z", .laysFinal ST ST "value" "[B", .fieldLink ST 9 ST "value" "[B", .laysFinal ST ST "coder" "B", .fieldLink ST 15 ST "coder" "B",
  .methodLink ST 1 Lib.objectInit, .instanceMethod Lib.objectInit, .code Lib.objectInit ⟨#[0xb1]⟩ 1 none, .methodLink ST 177 Cmp3.yN, .static Cmp3.yN, .methodLink ST 47 CodL.yN, .static CodL.yN,
  .code Cmp3.yN Cmp3.yB 6 (some (.array .byte)), .initialized U16, .arrayClass .byte, .methodLink U16 115 Cmp5.yN, .static Cmp5.yN, .code Cmp5.yN Cmp5.yB 7 (some .int), .code CodL.yN CodL.yB 2 (some .byte)]
theorem tab_of {a : Array Value} {s : State} (h : ∀ w ∈ words, w.before a s = true) : New1.tab.before a s = true := by
  have h5 : Cmp5.tab.before a s = true := unparts (wk h (.code Cmp5.yN Cmp5.yB 7 (some .int))) (wks h (.initialized Cmp5.yN.cls :: Cmp5.site))
  have hc : CodL.tab.before a s = true := unparts (wk h (.code CodL.yN CodL.yB 2 (some .byte))) (wks h (.initialized CodL.yN.cls :: CodL.site))
  have q5 : ∀ w ∈ Cmp5.tab :: words, w.before a s = true := fun w hw => (List.mem_cons.mp hw).elim (fun e => e ▸ h5) (h w)
  have h3 : Cmp3.tab.before a s = true := unparts (wk q5 (.code Cmp3.yN Cmp3.yB 6 (some (.array .byte)))) (wks q5 (.initialized Cmp3.yN.cls :: Cmp3.site))
  have q3 : ∀ w ∈ Cmp3.tab :: CodL.tab :: words, w.before a s = true := fun w hw => (List.mem_cons.mp hw).elim (fun e => e ▸ h3) fun hw => (List.mem_cons.mp hw).elim (fun e => e ▸ hc) (h w)
  have h4 : New4.tab.before a s = true := unparts (wk q3 (.code New4.yN New4.yB 6 none)) (wks q3 (.initialized New4.yN.cls :: New4.site))
  have q4 : ∀ w ∈ New4.tab :: words, w.before a s = true := fun w hw => (List.mem_cons.mp hw).elim (fun e => e ▸ h4) (h w)
  exact unparts (wk q4 (.code New1.yN New1.yB 2 none)) (wks q4 (.initialized New1.yN.cls :: New1.site))
/-- the words ride from the start Z to the walk's own state -/
theorem moved {Z s : State} {a0 args : Array Value} (hZ : Z.Warmed39 s.vm) (hw : ∀ d ∈ words, d.before a0 Z = true) : ∀ d ∈ words, d.before args s = true := fun d hd => by
  have q := hw d hd
  have t : ∀ d ∈ words, d = .arrayClass .byte ∨ (d.onTables && d.keepsFace) = true := by decide +kernel
  rcases t d hd with rfl | t
  · exact RoadKit.mvA hZ q
  · exact RoadKit.mv hZ q t
/-- WHAT COMES BACK, over the tables of the start Z: h the heap at the call, h' behind it -/
def Q (Z : State) (x : Addr) (A : Cell) (h : Heap) (v : Option Value) (h' : Heap) (L : List Loc) : Prop := v = none ∧ (∀ y ∈ L, y.base = x) ∧ RoadKit.Keep h h' [x] ∧ h'.size = h.size + 1 ∧ RoadKit.Exa Z h' x ST ∧ RoadKit.Fld Z h' x ST "value" "[B" (.ref h.size) ∧ RoadKit.Fld Z h' x ST "coder" "B" (.int 0) ∧
  (∃ V : Cell, RoadKit.Arr Z h' h.size V .byte ∧ V.vm = .none ∧ Z.vm.findClass "[B" = some V.cls ∧ V.slots.size = A.slots.size ∧ ∀ j, j < A.slots.size → V.slots[j]? = some (.int (lo8 (cv A j)))) ∧
  ∀ (O n d : String) (w : Value), RoadKit.Fld Z h x O n d w → RoadKit.slotOf Z O n d ≠ RoadKit.slotOf Z ST "value" "[B" → RoadKit.slotOf Z O n d ≠ RoadKit.slotOf Z ST "coder" "B" → RoadKit.Fld Z h' x O n d w
/-- **new String(chars) AT A CALL, IN THE ROAD'S FORM**: for specialBack behind newO: x the fresh String, b the char[] with the cell A -/
theorem back {p : Program} {l : Launch} {e : Env} {R : Room} {s : State} {args : Array Value} {below : List Frame} {len W : Nat} {Z : State} {a0 : Array Value} {h : Heap} (hZ : Z.Warmed39 s.vm) (hw : ∀ d ∈ words, d.before a0 Z = true) {kI : Nat} (wi : (Jvm.Cond.instantiable ST kI).before a0 Z = true)
    {x b : Addr} {A : Cell} {z : Int32} {v0 c0 : Value} (E : RoadKit.Exa Z h x ST) (V : RoadKit.Fld Z h x ST "value" "[B" v0) (C : RoadKit.Fld Z h x ST "coder" "B" c0) (K : RoadKit.Arr Z h b A .char) (hty : Typed .char A) (S : RoadKit.Sta Z h ST "COMPACT_STRINGS" "Z" (.int z)) (hz : ¬ z = 0)
    (l0 : 0 < A.slots.size) (l2 : A.slots.size ≤ 536870912) (hp : ∀ i, i < A.slots.size → ¬ 255 < cv A i) (hfr : 4 ≤ R.frames) (hlo : W + 65 ≤ R.locals) :
    Back l R p e below s args New1.yN len W (fun P a => a = #[.ref x, .ref b] ∧ P.U.heap = h ∧ P.cells + 1 ≤ R.cells ∧ P.slots + A.slots.size ≤ R.slots)
      (fun P _ v B => ∃ L, Q Z x A h v B.U.heap L ∧ B.locs = P.locs ++ L ∧ B.cells = P.cells + 1 ∧ B.slots = P.slots + A.slots.size) := by
  intro m meth c P g ig mk a X hg hsize hdg hW hn hp'
  obtain ⟨rfl, rfl, r1, r2⟩ := hp'
  have al : Z.vm.Alike P.U.vm := hZ.alike.trans X.warmed.alike
  obtain ⟨D, cfV, kV, iV, fV, hD, gV, stV, knV, obV, asV, slV⟩ := id V
  obtain ⟨D', cfC, kC, iC, fC, hD', gC, stC, -, -, asC, slC⟩ := id C
  cases hD.symm.trans hD'
  obtain ⟨D2, kD, e1, e2, e3, e4, e5⟩ := id E
  cases hD.symm.trans e1
  obtain ⟨c2, k2, i1, i2, i3, -⟩ := Cond.instantiable_spec wi
  cases e2.symm.trans i1
  cases e3.symm.trans i2
  obtain ⟨kU, u1, u2⟩ := al.2.2 _ _ e3
  have hB : Blank ST x D P.U := ⟨hD, ⟨knV, fun q hq => by rw [hq] at obV; cases obV⟩, by rw [al.findClass]; exact e2, kU, u1, by rw [u2]; exact i3, by rw [u2]; exact e5 i3⟩
  have F1 : Found ST "value" "[B" fV P.U := ⟨SBG.found_only al ⟨cfV, kV, iV, gV⟩, stV⟩
  have F2 : Found ST "coder" "B" fC P.U := ⟨SBG.found_only al ⟨cfC, kC, iC, gC⟩, stC⟩
  have hA : Ch b A P.U := ⟨⟨K.1, State.isArrayOf_alike al K.2.1, K.2.2, by omega⟩, hty⟩
  have hS : StaticIs P.U ST "COMPACT_STRINGS" "Z" (.int z) := by
    obtain ⟨cfS, iS, kS, fS, st, cS, t1, t2, t3, t4, t5, t6, t7⟩ := S
    exact StaticIs.there (s := { Z with heap := P.U.heap }) ⟨cfS, iS, kS, fS, st, cS, t1, t2, t3, t4, t5, (fun q => by rw [q] at t6; cases t6), t7⟩ al rfl
  obtain ⟨v, B, X', ⟨⟨hv, E', V', q1, q2, q3, q4, q5, q6, q7, q8, q9, q10, q11⟩, hl, hc, hs⟩, st⟩ := New1.pays x D fV fC b A z (tab_of (moved hZ hw)) hfr hlo m meth c P g ig mk _ X hg hsize hdg hW hn ⟨r1, r2, rfl, hB, F1, F2, hA, hS, hz, l0, l2, hp⟩
  have al' : Z.vm.Alike B.U.vm := hZ.alike.trans X'.warmed.alike
  have hsz : E'.slots.size = D.slots.size := by
    obtain ⟨-, -, -, kB, w1, w2, w3⟩ := q1
    obtain ⟨kB', y1, y2⟩ := al'.2.2 _ _ e3
    rw [q2.2.1] at w1
    cases w1.symm.trans y1
    rw [w3, e5 i3, y2]
  refine ⟨v, B, X', ⟨_, ⟨hv, ?_, ⟨by omega, fun y cy hy hn' => q10 y cy (by simpa using hn') hy, fun y cy hy => ?_⟩, q11, ⟨E', _, q1.1, by rw [q2.2.1]; exact e2, by rw [q2.2.1]; exact e3, by rw [q2.1]; exact obV, fun _ => by rw [hsz]; exact e5 i3⟩,
    ⟨E', cfV, kV, iV, fV, q1.1, gV, stV, by rw [q2.1]; exact knV, by rw [q2.1]; exact obV, by rw [q2.2.1]; exact asV, q3⟩, ⟨E', cfC, kC, iC, fC, q1.1, gC, stC, by rw [q2.1]; exact knV, by rw [q2.1]; exact obV, by rw [q2.2.1]; exact asC, q4⟩,
    ⟨V', ⟨q5.1, State.isArrayOf_alike al'.symm q5.2.1, q5.2.2.1⟩, q6, by rw [← al'.findClass]; exact q7, q8, fun j hj => by have := q9 j hj; rwa [Nat.zero_add] at this⟩, fun O n d w F n1 n2 => ?_⟩, hl, hc, hs⟩, st⟩
  · intro y hy
    simp only [List.mem_cons, List.not_mem_nil, or_false] at hy
    rcases hy with rfl | rfl <;> rfl
  · by_cases q : y = x
    · subst q
      cases hD.symm.trans hy
      exact ⟨E', q1.1, q2.2.1, q2.1, hsz⟩
    · exact ⟨cy, q10 y cy q hy, rfl, rfl, rfl⟩
  · obtain ⟨D3, cf, k, i, f, g1, g2, g3, g4, g5, g6, g7⟩ := F
    cases hD.symm.trans g1
    simp only [RoadKit.slotOf, g2, gV, gC, Option.map_some, Option.getD_some] at n1 n2
    exact ⟨E', cf, k, i, f, q1.1, g2, g3, by rw [q2.1]; exact g4, by rw [q2.1]; exact g5, by rw [q2.2.1]; exact g6, by rw [q2.2.2 f.slot (by simp [n1, n2])]; exact g7⟩
end StrChars.Road
namespace StrChars.Road
open Jvm Sem ClassFile Op Lib Jvm.Stand Jvm.Free Jvm.Free.XT
/-- WHAT COMES BACK, the byte[] as a list of values -/
def QA (Z : State) (x : Addr) (zn : Int32) (cs : List Int32) (h : Heap) (v : Option Value) (h' : Heap) (L : List Loc) : Prop := v = none ∧ (∀ y ∈ L, y.base = x) ∧ RoadKit.Keep h h' [x] ∧ h'.size = h.size + 1 ∧ RoadKit.Exa Z h' x ST ∧ RoadKit.Fld Z h' x ST "value" "[B" (.ref h.size) ∧ RoadKit.Fld Z h' x ST "coder" "B" (.int 0) ∧
  (∃ kb, Z.vm.findClass "[B" = some kb ∧ RoadKit.Arv Z h' h.size kb .byte zn (cs.map fun c => .int (lo8 c)) (.int 0)) ∧
  ∀ (O n d : String) (w : Value), RoadKit.Fld Z h x O n d w → RoadKit.slotOf Z O n d ≠ RoadKit.slotOf Z ST "value" "[B" → RoadKit.slotOf Z O n d ≠ RoadKit.slotOf Z ST "coder" "B" → RoadKit.Fld Z h' x O n d w
/-- **new String(chars) AT A CALL, THE ARRAYS AS LISTS**: the char[] at b holds cs, not empty, no char above 255 -/
theorem backArv {p : Program} {l : Launch} {e : Env} {R : Room} {s : State} {args : Array Value} {below : List Frame} {len W : Nat} {Z : State} {a0 : Array Value} {h : Heap} (hZ : Z.Warmed39 s.vm) (hw : ∀ d ∈ words, d.before a0 Z = true) {kI : Nat} (wi : (Jvm.Cond.instantiable ST kI).before a0 Z = true)
    {x b : Addr} {k : ClassId} {zn z : Int32} {cs : List Int32} {dv v0 c0 : Value} (E : RoadKit.Exa Z h x ST) (V : RoadKit.Fld Z h x ST "value" "[B" v0) (C : RoadKit.Fld Z h x ST "coder" "B" c0) (K : RoadKit.Arv Z h b k .char zn (cs.map Value.int) dv) (S : RoadKit.Sta Z h ST "COMPACT_STRINGS" "Z" (.int z)) (hz : ¬ z = 0)
    (hlen : zn.toNatClampNeg = cs.length) (h0 : 0 < cs.length) (hbig : cs.length ≤ 536870912) (hall : ∀ c ∈ cs, ¬ 255 < c) (hfr : 4 ≤ R.frames) (hlo : W + 65 ≤ R.locals) :
    Back l R p e below s args New1.yN len W (fun P a => a = #[.ref x, .ref b] ∧ P.U.heap = h ∧ P.cells + 1 ≤ R.cells ∧ P.slots + cs.length ≤ R.slots)
      (fun P _ v B => ∃ L, QA Z x zn cs h v B.U.heap L ∧ B.locs = P.locs ++ L ∧ B.cells = P.cells + 1 ∧ B.slots = P.slots + cs.length) := by
  obtain ⟨A, K1, K2, K3, K4, K5, K6⟩ := K
  have e : A.slots.size = cs.length := K3.trans hlen
  have hat : ∀ (i : Nat) (hi : i < cs.length), A.slots[i]? = some (.int cs[i]) := fun i hi => by rw [K5 i (by omega)]; simp [List.getD_eq_getElem?_getD, hi]
  have hcv : ∀ (i : Nat) (hi : i < cs.length), cv A i = cs[i] := fun i hi => by unfold cv; rw [hat i hi]
  have hty : Typed .char A := fun i v hv => by
    have hi : i < A.slots.size := (Array.getElem?_eq_some_iff.mp hv).1
    have q := K5 i hi
    rw [hv] at q
    rw [Option.some.inj q]
    exact K6 i hi
  refine Back.mono (back hZ hw wi E V C K1 hty S hz (by omega) (by omega) (fun i hi => by rw [hcv i (by omega)]; exact hall _ (List.getElem_mem _)) hfr hlo) (fun P a hp => ⟨hp.1, hp.2.1, hp.2.2.1, by rw [e]; exact hp.2.2.2⟩) (fun P a v B hp hq => ?_)
  obtain ⟨L, ⟨q1, q2, q3, q4, q5, q6, q7, ⟨V', v1, v2, v3, v4, v5⟩, q9⟩, hl, hc, hs⟩ := hq
  refine ⟨L, ⟨q1, q2, q3, q4, q5, q6, q7, ⟨V'.cls, v3, V', v1, rfl, by rw [v4, e, hlen], K4, fun i hi => ?_, fun i hi => ?_⟩, q9⟩, hl, hc, by rw [hs, e]⟩
  · have hi' : i < cs.length := by omega
    rw [v5 i (by omega), hcv i hi']; simp [List.getD_eq_getElem?_getD, hi']
  · have hi' : i < cs.length := by omega
    simp only [List.getD_eq_getElem?_getD, List.getElem?_map, List.getElem?_eq_getElem hi', Option.map_some, Option.getD_some]
    exact fits_lo8 _
end StrChars.Road
namespace StrChars.Road
open Jvm Sem ClassFile Op Lib Jvm.Stand Jvm.Free Jvm.Free.XT
/-- WHAT COMES BACK, in the writer's own shape -/
def QV (Z : State) (x : Addr) (N : Int32) (bs : List Int32) (h : Heap) (n0 : Nat) (v : Option Value) (h' : Heap) (L : List Loc) : Prop := v = none ∧ RoadKit.Fr n0 L ∧ RoadKit.Keep h h' [x] ∧ RoadKit.Exa Z h' x ST ∧ RoadKit.Fld Z h' x ST "coder" "B" (.int 0) ∧
  ∃ (t : Addr) (kb : ClassId), n0 ≤ t ∧ h.size ≤ t ∧ ¬ t = x ∧ RoadKit.Fld Z h' x ST "value" "[B" (.ref t) ∧ RoadKit.Arv Z h' t kb .byte N (bs.map Value.int) (.int 0)
/-- **new String(chars) AT A CALL, FOR THE WRITER**: a char[] of n known ints, each 0 to 255 -/
theorem backV {p : Program} {l : Launch} {e : Env} {R : Room} {s : State} {args : Array Value} {below : List Frame} {len W : Nat} {Z : State} {a0 : Array Value} {h : Heap} (hZ : Z.Warmed39 s.vm) (hw : ∀ d ∈ words, d.before a0 Z = true) {kI : Nat} (wi : (Jvm.Cond.instantiable ST kI).before a0 Z = true)
    {x b : Addr} {kC : ClassId} {cs bs : List Int32} {d v0 c0 : Value} {z N : Int32} {n n0 : Nat} (hx0 : n0 ≤ x) (hh0 : n0 ≤ h.size) (E : RoadKit.Exa Z h x ST) (V : RoadKit.Fld Z h x ST "value" "[B" v0) (C : RoadKit.Fld Z h x ST "coder" "B" c0) (K : RoadKit.Arv Z h b kC .char N (cs.map Value.int) d) (S : RoadKit.Sta Z h ST "COMPACT_STRINGS" "Z" (.int z)) (hz : ¬ z = 0)
    (hn : cs.length = n) (hN : N = Int32.ofNat n) (l0 : 0 < n) (l2 : n ≤ 4000) (hp : ∀ c ∈ cs, ¬ c < 0 ∧ ¬ (255 : Int32) < c) (hb : bs = cs.map (fun c => c.toInt8.toInt32)) (hfr : 4 ≤ R.frames) (hlo : W + 65 ≤ R.locals) :
    Back l R p e below s args (⟨"java/lang/String", "<init>", "([C)V"⟩ : MethodName) len W (fun P a => a = #[.ref x, .ref b] ∧ P.U.heap = h ∧ P.cells + 1 ≤ R.cells ∧ P.slots + n ≤ R.slots)
      (fun P _ v B => ∃ L, QV Z x N bs h n0 v B.U.heap L ∧ B.locs = P.locs ++ L ∧ B.cells = P.cells + 1 ∧ B.slots = P.slots + n) := by
  subst hn hN hb
  refine Back.mono (backArv hZ hw wi E V C K S hz (n32 (by omega)) l0 (by omega) (fun c hc => (hp c hc).2) hfr hlo) (fun P a hp => hp) (fun P a v B hp hq => ?_)
  obtain ⟨L, ⟨q1, q2, q3, q4, q5, q6, q7, ⟨kb, v1, v2⟩, q9⟩, hl, hc, hs⟩ := hq
  exact ⟨L, ⟨q1, fun y hy => by rw [q2 y hy]; exact hx0, q3, q5, q7, h.size, kb, hh0, Nat.le_refl _, Nat.ne_of_gt E.lt, q6, by rw [List.map_map]; exact v2⟩, hl, hc, hs⟩
end StrChars.Road
namespace StrChars
open Jvm Sem ClassFile Op Lib Jvm.Stand Jvm.Free.XT Jvm.Free.ALB Jvm.Free.JM Jvm.Free
open Jvm.Lib.Cold (StaticIs)
def hi8 (x : Int32) : Int32 := lo8 (x >>> ((8 : Int32) &&& 31))
/-- what StringUTF16.getChar makes of two bytes -/
def pairCh (u v : Int32) : Int32 := (((u &&& 255) <<< ((0 : Int32) &&& 31)) ||| ((v &&& 255) <<< ((8 : Int32) &&& 31))).toUInt32.toUInt16.toUInt32.toInt32
theorem shr0 (c : Int32) : c >>> ((0 : Int32) &&& 31) = c := by
  have e : ((0 : Int32) &&& 31) = 0 := by decide
  rw [e]
  apply Int32.toBitVec_inj.mp
  rw [Int32.toBitVec_shiftRight]
  have e1 : ((0 : Int32).toBitVec.smod 32) = 0#32 := by decide
  rw [e1, BitVec.sshiftRight_eq']
  exact BitVec.sshiftRight_zero
theorem lo8_and (x : Int32) : (lo8 x &&& 255).toBitVec.toNat = x.toBitVec.toNat % 256 := by
  have h : (lo8 x).toBitVec = (x.toBitVec.signExtend 8).signExtend 32 := by rw [lo8, Int8.toBitVec_toInt32, Int32.toBitVec_toInt8]
  rw [Int32.toBitVec_and, BitVec.toNat_and, h]
  have e : ((x.toBitVec.signExtend 8).signExtend 32).toNat % 256 = x.toBitVec.toNat % 256 := by
    rw [BitVec.toNat_signExtend]
    have hlt := x.toBitVec.isLt
    simp only [BitVec.toNat_setWidth, BitVec.toNat_signExtend]
    split <;> split <;> omega
  rw [← e]
  exact Nat.and_two_pow_sub_one_eq_mod _ 8
theorem pair_says {c : Int32} (h0 : ¬ c < 0) (h1 : ¬ 65535 < c) : pairCh (lo8 c) (hi8 c) = c := by
  rw [Int32.lt_iff_toInt_lt] at h0 h1
  have e0 : (0 : Int32).toInt = 0 := rfl
  have e1 : (65535 : Int32).toInt = 65535 := rfl
  have hc : c.toInt = c.toBitVec.toNat := by
    have := c.toBitVec.isLt
    have e : c.toInt = c.toBitVec.toInt := rfl
    rw [e] at h0 h1
    rw [e]
    rw [BitVec.toInt_eq_toNat_cond] at h0 h1 ⊢
    split at h0 <;> split <;> omega
  have hn : c.toBitVec.toNat < 65536 := by omega
  have a1 := lo8_and c
  have a2 : (hi8 c &&& 255).toBitVec.toNat = c.toBitVec.toNat / 256 := by
    rw [hi8, lo8_and]
    have e : ((8 : Int32) &&& 31) = 8 := by decide
    rw [e, Int32.toBitVec_shiftRight]
    have e2 : ((8 : Int32).toBitVec.smod 32) = 8#32 := by decide
    rw [e2, BitVec.sshiftRight_eq', BitVec.toNat_sshiftRight_of_msb_false (by rw [BitVec.msb_eq_false_iff_two_mul_lt]; omega)]
    show c.toBitVec.toNat >>> 8 % 256 = _
    rw [Nat.shiftRight_eq_div_pow]
    omega
  unfold pairCh
  apply Int32.toBitVec_inj.mp
  apply BitVec.eq_of_toNat_eq
  have f0 : ((0 : Int32) &&& 31) = 0 := by decide
  have f8 : ((8 : Int32) &&& 31) = 8 := by decide
  rw [f0, f8]
  have g : (((lo8 c &&& 255) <<< (0 : Int32)) ||| ((hi8 c &&& 255) <<< (8 : Int32))).toBitVec.toNat = c.toBitVec.toNat := by
    rw [Int32.toBitVec_or, Int32.toBitVec_shiftLeft, Int32.toBitVec_shiftLeft]
    have s0 : ((0 : Int32).toBitVec.smod 32) = 0#32 := by decide
    have s8 : ((8 : Int32).toBitVec.smod 32) = 8#32 := by decide
    rw [s0, s8, BitVec.toNat_or]
    simp only [BitVec.shiftLeft_eq', BitVec.toNat_shiftLeft, a1, a2]
    show (c.toBitVec.toNat % 256) <<< 0 % 2 ^ 32 ||| (c.toBitVec.toNat / 256) <<< 8 % 2 ^ 32 = _
    rw [Nat.shiftLeft_zero, Nat.mod_eq_of_lt (show c.toBitVec.toNat % 256 < 2 ^ 32 by omega), Nat.mod_eq_of_lt (show (c.toBitVec.toNat / 256) <<< 8 < 2 ^ 32 by rw [Nat.shiftLeft_eq]; omega), Nat.or_comm, ← Nat.shiftLeft_add_eq_or_of_lt (by omega), Nat.shiftLeft_eq]
    omega
  show BitVec.toNat (((((lo8 c &&& 255) <<< (0 : Int32)) ||| ((hi8 c &&& 255) <<< (8 : Int32))).toBitVec.setWidth 16).setWidth 32) = _
  rw [BitVec.toNat_setWidth, BitVec.toNat_setWidth, g]
  omega
end StrChars
namespace StrChars
open Jvm Sem ClassFile Op Lib Jvm.Stand Jvm.Free.XT Jvm.Free.ALB Jvm.Free.JM Jvm.Free
open Jvm.Lib.Cold (StaticIs)
theorem shr1 {n : Nat} (h : 2 * n < 2 ^ 31) : Int32.ofNat (2 * n) >>> ((1 : Int32) &&& 31) = Int32.ofNat n := by
  have e : ((1 : Int32) &&& 31) = 1 := by decide
  rw [e]
  apply Int32.toBitVec_inj.mp
  rw [Int32.toBitVec_shiftRight]
  have e1 : ((1 : Int32).toBitVec.smod 32) = 1#32 := by decide
  have hm : (BitVec.ofNat 32 (2 * n)).toNat = 2 * n := by rw [BitVec.toNat_ofNat, Nat.mod_eq_of_lt (by omega)]
  rw [e1, BitVec.sshiftRight_eq']
  apply BitVec.eq_of_toNat_eq
  show ((BitVec.ofNat 32 (2 * n)).sshiftRight 1).toNat = (BitVec.ofNat 32 n).toNat
  rw [BitVec.toNat_sshiftRight_of_msb_false (by rw [BitVec.msb_eq_false_iff_two_mul_lt, hm]; omega), hm, BitVec.toNat_ofNat, Nat.shiftRight_eq_div_pow]
  omega
/-- the array's cell V codes the n chars f 0 .. f (n - 1) by the coder cd, as the JDK does: coder 1 just where some char is above 255 -/
def Cod (cd : Int32) (n : Nat) (f : Nat → Int32) (V : Cell) : Prop := (cd = 0 ∧ V.slots.size = n ∧ ∀ j, j < n → V.slots[j]? = some (.int (lo8 (f j))) ∧ ¬ 255 < f j) ∨ (cd = 1 ∧ V.slots.size = 2 * n ∧ (∀ j, j < n → V.slots[2 * j]? = some (.int (lo8 (f j))) ∧ V.slots[2 * j + 1]? = some (.int (hi8 (f j)))) ∧ ∃ j, j < n ∧ 255 < f j)
theorem Cod.cd {cd : Int32} {n : Nat} {f : Nat → Int32} {V : Cell} (h : Cod cd n f V) : cd = 0 ∨ cd = 1 := h.imp (fun q => q.1) fun q => q.1
theorem Cod.len {cd : Int32} {n : Nat} {f : Nat → Int32} {V : Cell} (h : Cod cd n f V) (hs : V.slots.size < 2 ^ 31) : Int32.ofNat V.slots.size >>> (cd &&& 31) = Int32.ofNat n := by
  rcases h with ⟨rfl, h, -⟩ | ⟨rfl, h, -⟩
  · rw [shr0, h]
  · rw [h, shr1 (by omega)]
/-- **x is a String of the n chars f 0 .. f (n - 1)**, Latin-1 or UTF-16; its array at t has the cell V -/
def Txt (x t : Addr) (V : Cell) (cd : Int32) (n : Nat) (f : Nat → Int32) (U : State) : Prop := Exact "java/lang/String" x U ∧ Has x "java/lang/String" "value" "[B" (.ref t) U ∧ Has x "java/lang/String" "coder" "B" (.int cd) U ∧ XT.Arr .byte t V U ∧ Cod cd n f V ∧ ∀ j, j < n → ¬ f j < 0 ∧ ¬ 65535 < f j
theorem Txt.mv {x t : Addr} {V : Cell} {cd : Int32} {n : Nat} {f : Nat → Int32} {U U' : State} (h : Txt x t V cd n f U) (hal : U.vm.Alike U'.vm) (hh : U'.heap = U.heap) : Txt x t V cd n f U' := ⟨h.1.mv hal hh, h.2.1.mv hal hh, h.2.2.1.mv hal hh, h.2.2.2.1.mv hal hh, h.2.2.2.2⟩
namespace Cdr
def yN : MethodName := ⟨"java/lang/String", "coder", "()B"⟩
abbrev yB : ByteArray := jdk_42_method_152_code
theorem d0 : decode yB 0 = .ok (.getstatic 38, 3) := by decide +kernel
theorem d3 : decode yB 3 = .ok (.ifCond (.eq) 10, 3) := by decide +kernel
theorem d6 : decode yB 6 = .ok (.aload_n 0, 1) := by decide +kernel
theorem d7 : decode yB 7 = .ok (.getfield 15, 3) := by decide +kernel
theorem d10 : decode yB 10 = .ok (.goto 4, 3) := by decide +kernel
theorem d14 : decode yB 14 = .ok (.ireturn, 1) := by decide +kernel
def site : List Cond := [.fieldLink "java/lang/String" 38 "java/lang/String" "COMPACT_STRINGS" "Z", .fieldLink "java/lang/String" 15 "java/lang/String" "coder" "B"]
def tab : Cond := tabOf yN yB 1 (some .byte) site
def P (x : Addr) (cd z : Int32) (args : Array Value) (s : State) : Prop := args = #[.ref x] ∧ Has x "java/lang/String" "coder" "B" (.int cd) s ∧ (cd = 0 ∨ cd = 1) ∧ StaticIs s "java/lang/String" "COMPACT_STRINGS" "Z" (.int z) ∧ ¬ z = 0
def E (cd : Int32) (r : Option Value) (s u : State) : Prop := XT.PureE (some (.int cd)) r s u
theorem law (l : Launch) (x : Addr) (cd z : Int32) : Law l yN 1 0 0 0 yB 1 (some .byte) site (P x cd z) (E cd) [] 0 0 := by
  refine Law.of_walk (plainFor_of_name (by decide +kernel)) (by decide +kernel) (by decide +kernel) (by decide) (fun _ _ h => by rw [h.1]; rfl) (fun _ U U' hal hh h => ⟨h.1, h.2.1.mv hal hh, h.2.2.1, h.2.2.2.1.there hal hh, h.2.2.2.2⟩) (fun r U U' V V' h1 hal h2 h => XT.PureE.mv r U U' V V' h1 hal h2 h) ?_
  intro p e s m args below meth c s₁ X0 hexec hbytes hml hret hlk hnm hown hh0 W hP
  obtain ⟨rfl, hx, hc, s1, hz⟩ := hP
  have c1 : Steps p.tables e below (s₁.setTop (entryFrame m #[.ref x] 1)) (s₁.setTop (mkF m 0 #[.val (.ref x)] [])) := entry rfl
  obtain ⟨T2, X2, q2, st2⟩ := X0.sget hexec hown (wk W (.fieldLink "java/lang/String" 38 "java/lang/String" "COMPACT_STRINGS" "Z")) s1 (fun _ _ h => by rw [hh0]; exact h) (g := (mkF m 0 #[.val (.ref x)] [])) rfl (hb hbytes d0)
  have hh2 := q2.trans hh0
  have c3 : Steps p.tables e below (s₁.setTop (entryFrame m #[.ref x] 1)) (T2.setTop (mkF m 7 #[.val (.ref x)] [.ref x])) := (c1.trans (st2 _ (Steps.refl _))).trans (by
    refine XS.ifNo X2.here hexec rfl (hb hbytes d3) rfl (i0_eq_f hz) ?_
    refine XS.aloadN X2.here hexec rfl (hb hbytes d6) rfl rfl ?_
    exact Steps.refl _)
  obtain ⟨T4, X4, q4, st4⟩ := X2.hget hexec hown (wk W (.fieldLink "java/lang/String" 15 "java/lang/String" "coder" "B")) (hx.mv X2.warmed.alike hh2) (g := (mkF m 7 #[.val (.ref x)] [.ref x])) rfl (rest := []) rfl (hb hbytes d7)
  have c5 : Steps p.tables e below (s₁.setTop (entryFrame m #[.ref x] 1)) (T4.setTop (mkF m 14 #[.val (.ref x)] [.int cd])) := (c3.trans (st4 _ (Steps.refl _))).trans (by
    refine XS.goto X4.here hexec rfl (pc0 := 10) rfl (hb hbytes d10) (by decide) rfl ?_
    exact Steps.refl _)
  exact ⟨T4, some (.int cd), _, _, _, X4, rfl, rfl, rfl, (fun h => by cases h), ⟨rfl, q4.trans hh2⟩, fun fs hl => c5.trans (X4.ireturnOut hexec hret (by rcases hc with rfl | rfl <;> rfl) (Or.inr (Or.inr (Or.inl rfl))) (hb hbytes d14) hl)⟩
end Cdr
namespace Len
def yN : MethodName := ⟨"java/lang/String", "length", "()I"⟩
abbrev yB : ByteArray := jdk_42_method_54_code
theorem d0 : decode yB 0 = .ok (.aload_n 0, 1) := by decide +kernel
theorem d1 : decode yB 1 = .ok (.getfield 9, 3) := by decide +kernel
theorem d4 : decode yB 4 = .ok (.arraylength, 1) := by decide +kernel
theorem d5 : decode yB 5 = .ok (.aload_n 0, 1) := by decide +kernel
theorem d6 : decode yB 6 = .ok (.invokevirtual 335, 3) := by decide +kernel
theorem d9 : decode yB 9 = .ok (.ishr, 1) := by decide +kernel
theorem d10 : decode yB 10 = .ok (.ireturn, 1) := by decide +kernel
def site : List Cond := [.fieldLink "java/lang/String" 9 "java/lang/String" "value" "[B", Cdr.tab] ++ virtW "java/lang/String" 335 "java/lang/String" Cdr.yN Cdr.yN
def tab : Cond := tabOf yN yB 1 (some .int) site
def P (x t : Addr) (V : Cell) (cd : Int32) (n : Nat) (f : Nat → Int32) (z : Int32) (args : Array Value) (s : State) : Prop := args = #[.ref x] ∧ Txt x t V cd n f s ∧ StaticIs s "java/lang/String" "COMPACT_STRINGS" "Z" (.int z) ∧ ¬ z = 0
def E (n : Nat) (r : Option Value) (s u : State) : Prop := XT.PureE (some (.int (Int32.ofNat n))) r s u
/-- length() of a String of n chars, in either coding -/
theorem law (l : Launch) (x t : Addr) (V : Cell) (cd : Int32) (n : Nat) (f : Nat → Int32) (z : Int32) : Law l yN 1 0 1 13 yB 1 (some .int) site (P x t V cd n f z) (E n) [] 0 0 := by
  refine Law.of_walk (plainFor_of_name (by decide +kernel)) (by decide +kernel) (by decide +kernel) (by decide) (fun _ _ h => by rw [h.1]; rfl) (fun _ U U' hal hh h => ⟨h.1, h.2.1.mv hal hh, h.2.2.1.there hal hh, h.2.2.2⟩) (fun r U U' V V' h1 hal h2 h => XT.PureE.mv r U U' V V' h1 hal h2 h) ?_
  intro p e s m args below meth c s₁ X0 hexec hbytes hml hret hlk hnm hown hh0 W hP
  obtain ⟨rfl, hx, s1, hz⟩ := hP
  have v31 := hx.2.2.2.1.2.2.2
  have c1 : Steps p.tables e below (s₁.setTop (entryFrame m #[.ref x] 1)) (s₁.setTop (mkF m 1 #[.val (.ref x)] [.ref x])) := Steps.trans (entry rfl) (by
    show Steps p.tables e below (s₁.setTop (mkF m 0 #[.val (.ref x)] [])) _
    refine XS.aloadN X0.here hexec rfl (hb hbytes d0) rfl rfl ?_
    exact Steps.refl _)
  obtain ⟨T2, X2, q2, st2⟩ := X0.hget hexec hown (wk W (.fieldLink "java/lang/String" 9 "java/lang/String" "value" "[B")) (hx.mv X0.warmed.alike hh0).2.1 (g := (mkF m 1 #[.val (.ref x)] [.ref x])) rfl (rest := []) rfl (hb hbytes d1)
  have hh2 := q2.trans hh0
  have hx2 := hx.mv X2.warmed.alike hh2
  have c3 : Steps p.tables e below (s₁.setTop (entryFrame m #[.ref x] 1)) (T2.setTop (mkF m 6 #[.val (.ref x)] [.ref x, .int (Int32.ofNat V.slots.size)])) := (c1.trans (st2 _ (Steps.refl _))).trans (by
    refine X2.alen hexec hx2.2.2.2.1 rfl rfl (hb hbytes d4) ?_
    refine XS.aloadN X2.here hexec rfl (hb hbytes d5) rfl rfl ?_
    exact Steps.refl _)
  obtain ⟨v4, T4, X4, E4, g4⟩ := X2.callV hexec (Cdr.law l x cd z) hown (wks W (virtW "java/lang/String" 335 "java/lang/String" Cdr.yN Cdr.yN)) rfl (by decide) (wk W Cdr.tab) (W := 1) (Nat.le_of_ble_eq_true rfl) (Nat.le_of_ble_eq_true rfl) (Nat.le_refl _) (Nat.le_refl _) (hx2.1.fc X2.warmed.alike) hx2.1.is (g := (mkF m 6 #[.val (.ref x)] [.ref x, .int (Int32.ofNat V.slots.size)])) rfl (by rw [hml]; rfl) c3 (argsL := []) (rest := [.int (Int32.ofNat V.slots.size)]) rfl rfl (by show 2 * 0 + (1 + 0) ≤ _; decide) (hb hbytes d6) (⟨rfl, hx2.2.2.1, hx.2.2.2.2.1.cd, s1.there X2.warmed.alike hh2, hz⟩)
  obtain ⟨rfl, q4⟩ := E4
  have c5 : Steps p.tables e below (s₁.setTop (entryFrame m #[.ref x] 1)) (T4.setTop (mkF m 10 #[.val (.ref x)] [.int (Int32.ofNat V.slots.size >>> (cd &&& 31))])) := Steps.trans g4 (by
    refine ishr X4.here hexec rfl (hb hbytes d9) rfl ?_
    exact Steps.refl _)
  rw [hx.2.2.2.2.1.len v31] at c5
  exact ⟨T4, some (.int (Int32.ofNat n)), _, _, _, X4, rfl, rfl, rfl, (fun h => by cases h), ⟨rfl, q4.trans hh2⟩, fun fs hl => c5.trans (X4.ireturnOut hexec hret rfl (Or.inl rfl) (hb hbytes d10) hl)⟩
theorem pays {l : Launch} {R : Room} {p : Program} {e : Env} {below : List Frame} {s : State} {sargs : Array Value} {len W : Nat} (x t : Addr) (V : Cell) (cd : Int32) (n : Nat) (f : Nat → Int32) (z : Int32) (htab : tab.before sargs s = true) (hfr : 2 ≤ R.frames) (hlo : W + 25 ≤ R.locals) :
    Back l R p e below s sargs yN len W (fun A₁ a₁ => A₁.cells + 0 ≤ R.cells ∧ A₁.slots + 0 ≤ R.slots ∧ P x t V cd n f z a₁ A₁.U) (fun A₁ _ v₁ B₁ => E n v₁ A₁.U B₁.U ∧ B₁.locs = A₁.locs ++ [] ∧ B₁.cells = A₁.cells + 0 ∧ B₁.slots = A₁.slots + 0) :=
  (law l x t V cd n f z).pays htab hfr (by omega)
end Len
end StrChars
namespace StrChars.Road
open Jvm Sem ClassFile Op Lib Jvm.Stand Jvm.Free Jvm.Free.XT
open Jvm.Lib.Cold (StaticIs)
theorem consq {a : Array Value} {s : State} {c : Jvm.Cond} {L : List Jvm.Cond} (h0 : c.before a s = true) (h : ∀ w ∈ L, w.before a s = true) : ∀ w ∈ c :: L, w.before a s = true := fun w hw => (List.mem_cons.mp hw).elim (fun e => e ▸ h0) (h w)
/-- the words of String.length(), either coding -/
abbrev wordsLen : List Jvm.Cond := [.code Len.yN Len.yB 1 (some .int), .initialized ST, .fieldLink ST 9 ST "value" "[B", .fieldLink ST 38 ST "COMPACT_STRINGS" "Z", .fieldLink ST 15 ST "coder" "B", .code Cdr.yN Cdr.yB 1 (some .byte), .methodLink ST 335 Cdr.yN, .declares Cdr.yN, .selects ST Cdr.yN Cdr.yN, .instanceMethod Cdr.yN]
theorem tabLen_of {a : Array Value} {s : State} (h : ∀ w ∈ wordsLen, w.before a s = true) : Len.tab.before a s = true := by
  have hc : Cdr.tab.before a s = true := unparts (wk h (.code Cdr.yN Cdr.yB 1 (some .byte))) (wks h (.initialized Cdr.yN.cls :: Cdr.site))
  have q := consq hc h
  exact unparts (wk q (.code Len.yN Len.yB 1 (some .int))) (wks q (.initialized Len.yN.cls :: Len.site))
theorem movedLen {Z s : State} {a0 args : Array Value} (hZ : Z.Warmed39 s.vm) (hw : ∀ d ∈ wordsLen, d.before a0 Z = true) : ∀ d ∈ wordsLen, d.before args s = true := fun d hd => by
  have q := hw d hd
  have t : ∀ d ∈ wordsLen, d = .arrayClass .byte ∨ (d.onTables && d.keepsFace) = true := by decide +kernel
  rcases t d hd with rfl | t
  · exact RoadKit.mvA hZ q
  · exact RoadKit.mv hZ q t
/-- the bytes of the chars cs, low before high -/
def wideBytes : List Int32 → List Value
  | [] => []
  | c :: cs => .int (lo8 c) :: .int (hi8 c) :: wideBytes cs
theorem wide_lo (d : Value) : ∀ (cs : List Int32) (j : Nat), j < cs.length → (wideBytes cs).getD (2 * j) d = .int (lo8 (cs.getD j 0))
  | [], j, h => absurd h (Nat.not_lt_zero j)
  | c :: cs, 0, _ => rfl
  | c :: cs, j + 1, h => by
    have q := wide_lo d cs j (by simpa using h)
    rw [show 2 * (j + 1) = 2 * j + 1 + 1 from by omega]
    simpa [wideBytes] using q
theorem wide_hi (d : Value) : ∀ (cs : List Int32) (j : Nat), j < cs.length → (wideBytes cs).getD (2 * j + 1) d = .int (hi8 (cs.getD j 0))
  | [], j, h => absurd h (Nat.not_lt_zero j)
  | c :: cs, 0, _ => rfl
  | c :: cs, j + 1, h => by
    have q := wide_hi d cs j (by simpa using h)
    rw [show 2 * (j + 1) + 1 = 2 * j + 1 + 1 + 1 from by omega]
    simpa [wideBytes] using q
theorem low_at (d : Value) (cs : List Int32) (j : Nat) (h : j < cs.length) : (cs.map fun c => Value.int (lo8 c)).getD j d = .int (lo8 (cs.getD j 0)) := by
  simp [List.getD_eq_getElem?_getD, h]
/-- an array of N2 bytes vs codes the chars cs by the coder cd -/
def CodA (cs : List Int32) (cd N2 : Int32) (vs : List Value) : Prop := (cd = 0 ∧ N2 = Int32.ofNat cs.length ∧ vs = (cs.map fun c => Value.int (lo8 c)) ∧ ∀ c ∈ cs, ¬ 255 < c) ∨ (cd = 1 ∧ N2 = Int32.ofNat (2 * cs.length) ∧ vs = wideBytes cs ∧ ∃ c ∈ cs, 255 < c)
theorem CodA.cod {cs : List Int32} {cd N2 : Int32} {vs : List Value} {V : Cell} (h : CodA cs cd N2 vs) (hn : 2 * cs.length < 2 ^ 31) (hs : V.slots.size = N2.toNatClampNeg) (hv : RoadKit.Has V vs (.int 0)) : Cod cd cs.length (fun j => cs.getD j 0) V := by
  rcases h with ⟨rfl, rfl, rfl, h⟩ | ⟨rfl, rfl, rfl, c, hc, hw⟩
  · rw [n32 (by omega)] at hs
    exact Or.inl ⟨rfl, hs, fun j hj => ⟨by rw [hv j (by omega), low_at _ _ _ hj], by
      have e : cs.getD j 0 = cs[j] := by simp [List.getD_eq_getElem?_getD, hj]
      show ¬ 255 < cs.getD j 0
      rw [e]; exact h _ (List.getElem_mem _)⟩⟩
  · rw [n32 (by omega)] at hs
    obtain ⟨j, hj, rfl⟩ := List.getElem_of_mem hc
    exact Or.inr ⟨rfl, hs, fun j hj => ⟨by rw [hv _ (by omega), wide_lo _ _ _ hj], by rw [hv _ (by omega), wide_hi _ _ _ hj]⟩, j, hj, by
      have e : cs.getD j 0 = cs[j] := by simp [List.getD_eq_getElem?_getD, hj]
      show 255 < cs.getD j 0
      rw [e]; exact hw⟩
/-- an object of exactly java/lang/String, its two fields found: as the laws ask it -/
theorem strObj {Z U : State} {a0 : Array Value} {kI : Nat} (wi : (Jvm.Cond.instantiable ST kI).before a0 Z = true) (al : Z.vm.Alike U.vm) {x : Addr} {v0 c0 : Value} (E : RoadKit.Exa Z U.heap x ST) (V : RoadKit.Fld Z U.heap x ST "value" "[B" v0) (C : RoadKit.Fld Z U.heap x ST "coder" "B" c0) :
    ∃ (D : Cell) (fV fC : Field), Blank ST x D U ∧ Found ST "value" "[B" fV U ∧ Found ST "coder" "B" fC U ∧ D.slots[fV.slot]? = some v0 ∧ D.slots[fC.slot]? = some c0 ∧ RoadKit.slotOf Z ST "value" "[B" = fV.slot ∧ RoadKit.slotOf Z ST "coder" "B" = fC.slot := by
  obtain ⟨D, cfV, kV, iV, fV, hD, gV, stV, knV, obV, asV, slV⟩ := V
  obtain ⟨D', cfC, kC, iC, fC, hD', gC, stC, -, -, asC, slC⟩ := C
  cases hD.symm.trans hD'
  obtain ⟨D2, kD, e1, e2, e3, e4, e5⟩ := E
  cases hD.symm.trans e1
  obtain ⟨c2, k2, i1, i2, i3, -⟩ := Cond.instantiable_spec wi
  cases e2.symm.trans i1
  cases e3.symm.trans i2
  obtain ⟨kU, u1, u2⟩ := al.2.2 _ _ e3
  exact ⟨D, fV, fC, ⟨hD, ⟨knV, fun q hq => by rw [hq] at obV; cases obV⟩, by rw [al.findClass]; exact e2, kU, u1, by rw [u2]; exact i3, by rw [u2]; exact e5 i3⟩, ⟨SBG.found_only al ⟨cfV, kV, iV, gV⟩, stV⟩, ⟨SBG.found_only al ⟨cfC, kC, iC, gC⟩, stC⟩, slV, slC, by simp [RoadKit.slotOf, gV], by simp [RoadKit.slotOf, gC]⟩
theorem sta_is {Z U : State} (al : Z.vm.Alike U.vm) {C n d : String} {v : Value} (S : RoadKit.Sta Z U.heap C n d v) : StaticIs U C n d v := by
  obtain ⟨cfS, iS, kS, fS, st, cS, t1, t2, t3, t4, t5, t6, t7⟩ := S
  exact StaticIs.there (s := { Z with heap := U.heap }) ⟨cfS, iS, kS, fS, st, cS, t1, t2, t3, t4, t5, (fun q => by rw [q] at t6; cases t6), t7⟩ al rfl
/-- **length() OF SUCH A STRING** -/
theorem lenW {p : Program} {l : Launch} {e : Env} {R : Room} {s : State} {args : Array Value} {below : List Frame} {len W : Nat} {Z : State} {a0 : Array Value} {h : Heap} (hZ : Z.Warmed39 s.vm) (hw : ∀ d ∈ wordsLen, d.before a0 Z = true) {kI : Nat} (wi : (Jvm.Cond.instantiable ST kI).before a0 Z = true)
    {x t : Addr} {kb : ClassId} {cs : List Int32} {cd N2 z : Int32} {vs : List Value} (E : RoadKit.Exa Z h x ST) (V : RoadKit.Fld Z h x ST "value" "[B" (.ref t)) (C : RoadKit.Fld Z h x ST "coder" "B" (.int cd)) (K : RoadKit.Arv Z h t kb .byte N2 vs (.int 0)) (hc : CodA cs cd N2 vs) (hb : ∀ c ∈ cs, ¬ c < 0 ∧ ¬ (65535 : Int32) < c)
    (S : RoadKit.Sta Z h ST "COMPACT_STRINGS" "Z" (.int z)) (hz : ¬ z = 0) (l2 : cs.length ≤ 4000) (hfr : 2 ≤ R.frames) (hlo : W + 25 ≤ R.locals) :
    Back l R p e below s args (⟨"java/lang/String", "length", "()I"⟩ : MethodName) len W (fun P a => a = #[.ref x] ∧ P.U.heap = h ∧ P.cells + 0 ≤ R.cells ∧ P.slots + 0 ≤ R.slots)
      (fun P _ v B => ∃ L, (v = some (.int (Int32.ofNat cs.length)) ∧ L = [] ∧ B.U.heap = h) ∧ B.locs = P.locs ++ L ∧ B.cells = P.cells + 0 ∧ B.slots = P.slots + 0) := by
  obtain ⟨A, K1, K2, K3, K4, K5, K6⟩ := K
  have hcod := hc.cod (by omega) K3 K5
  intro m meth c P g ig mk a X hg hsize hdg hW hn hp'
  obtain ⟨rfl, rfl, r1, r2⟩ := hp'
  have al : Z.vm.Alike P.U.vm := hZ.alike.trans X.warmed.alike
  obtain ⟨D, fV, fC, hB, F1, F2, g1, g2, -, -⟩ := strObj wi al E V C
  have hx : Txt x t A cd cs.length (fun j => cs.getD j 0) P.U := ⟨⟨_, hB.2.2.1, D, hB.1, rfl, by cases q : D.vm <;> first | rfl | exact absurd q (hB.2.1.2 _)⟩, Has.of hB F1 g1, Has.of hB F2 g2, ⟨K1.1, State.isArrayOf_alike al K1.2.1, K1.2.2, by rcases hcod with ⟨-, q, -⟩ | ⟨-, q, -⟩ <;> omega⟩, hcod, fun j hj => by
    have e : cs.getD j 0 = cs[j] := by simp [List.getD_eq_getElem?_getD, hj]
    show ¬ cs.getD j 0 < 0 ∧ ¬ 65535 < cs.getD j 0
    rw [e]; exact hb _ (List.getElem_mem _)⟩
  obtain ⟨v, B, X', ⟨⟨hv, hh⟩, hl, hk, hs⟩, st⟩ := Len.pays x t A cd cs.length (fun j => cs.getD j 0) z (tabLen_of (movedLen hZ hw)) hfr hlo m meth c P g ig mk _ X hg hsize hdg hW hn ⟨r1, r2, rfl, hx, sta_is al S, hz⟩
  exact ⟨v, B, X', ⟨[], ⟨hv, rfl, hh⟩, hl, hk, hs⟩, st⟩
end StrChars.Road
namespace StrChars
open Jvm Sem ClassFile Op Lib Jvm.Stand Jvm.Free.XT Jvm.Free.ALB Jvm.Free.JM Jvm.Free
open Jvm.Lib.Cold (StaticIs)
/-- what place i of a byte[]'s cell holds -/
def yv (A : Cell) (i : Nat) : Int32 := match A.slots[i]? with | some (.int x) => x | _ => 0
theorem yv_get {a : Addr} {A : Cell} {U : State} (h : XT.Arr .byte a A U) (ht : Typed .byte A) {i : Nat} (hi : i < A.slots.size) : A.slots[i]? = some (.int (yv A i)) := by
  have e := Array.getElem?_eq_getElem hi
  have f := ht i _ e
  unfold yv; rw [e]
  generalize A.slots[i] = v at f
  cases v <;> simp [fits] at f ⊢
/-- the two arrays are equal, place for place -/
def EqC (A B : Cell) : Prop := A.slots.size = B.slots.size ∧ ∀ i, i < A.slots.size → yv A i = yv B i
/-- a boolean that says whether p -/
def Says01 (q : Prop) (r : Option Value) (s u : State) : Prop := ∃ v : Int32, r = some (.int v) ∧ u.heap = s.heap ∧ ((v = 1 ∧ q) ∨ (v = 0 ∧ ¬ q))
theorem Says01.mv {q : Prop} : ∀ r (U U' V V' : State), U'.heap = U.heap → V.vm.Alike V'.vm → V'.heap = V.heap → Says01 q r U V → Says01 q r U' V' :=
  fun r U U' V V' h1 _ h2 ⟨v, a, b, c⟩ => ⟨v, a, by rw [h1, h2]; exact b, c⟩
namespace LEq
def yN : MethodName := ⟨"java/lang/StringLatin1", "equals", "([B[B)Z"⟩
abbrev yB : ByteArray := jdk_43_method_13_code
theorem d0 : decode yB 0 = .ok (.aload_n 0, 1) := by decide +kernel
theorem d1 : decode yB 1 = .ok (.arraylength, 1) := by decide +kernel
theorem d2 : decode yB 2 = .ok (.aload_n 1, 1) := by decide +kernel
theorem d3 : decode yB 3 = .ok (.arraylength, 1) := by decide +kernel
theorem d4 : decode yB 4 = .ok (.if_icmp (.ne) 30, 3) := by decide +kernel
theorem d7 : decode yB 7 = .ok (.iconst 0, 1) := by decide +kernel
theorem d8 : decode yB 8 = .ok (.istore_n 2, 1) := by decide +kernel
theorem d9 : decode yB 9 = .ok (.iload_n 2, 1) := by decide +kernel
theorem d10 : decode yB 10 = .ok (.aload_n 0, 1) := by decide +kernel
theorem d11 : decode yB 11 = .ok (.arraylength, 1) := by decide +kernel
theorem d12 : decode yB 12 = .ok (.if_icmp (.ge) 20, 3) := by decide +kernel
theorem d15 : decode yB 15 = .ok (.aload_n 0, 1) := by decide +kernel
theorem d16 : decode yB 16 = .ok (.iload_n 2, 1) := by decide +kernel
theorem d17 : decode yB 17 = .ok (.baload, 1) := by decide +kernel
theorem d18 : decode yB 18 = .ok (.aload_n 1, 1) := by decide +kernel
theorem d19 : decode yB 19 = .ok (.iload_n 2, 1) := by decide +kernel
theorem d20 : decode yB 20 = .ok (.baload, 1) := by decide +kernel
theorem d21 : decode yB 21 = .ok (.if_icmp (.eq) 5, 3) := by decide +kernel
theorem d24 : decode yB 24 = .ok (.iconst 0, 1) := by decide +kernel
theorem d25 : decode yB 25 = .ok (.ireturn, 1) := by decide +kernel
theorem d26 : decode yB 26 = .ok (.iinc 2 1, 3) := by decide +kernel
theorem d29 : decode yB 29 = .ok (.goto (-20), 3) := by decide +kernel
theorem d32 : decode yB 32 = .ok (.iconst 1, 1) := by decide +kernel
theorem d33 : decode yB 33 = .ok (.ireturn, 1) := by decide +kernel
theorem d34 : decode yB 34 = .ok (.iconst 0, 1) := by decide +kernel
theorem d35 : decode yB 35 = .ok (.ireturn, 1) := by decide +kernel
def site : List Cond := []
def tab : Cond := tabOf yN yB 3 (some .boolean) site
def P (a : Addr) (A : Cell) (b : Addr) (B : Cell) (args : Array Value) (s : State) : Prop := args = #[.ref a, .ref b] ∧ XT.Arr .byte a A s ∧ Typed .byte A ∧ XT.Arr .byte b B s ∧ Typed .byte B
/-- whether two byte[] are equal, place for place -/
theorem law (l : Launch) (a : Addr) (A : Cell) (b : Addr) (B : Cell) : Law l yN 2 2 0 0 yB 3 (some .boolean) site (P a A b B) (Says01 (EqC A B)) [] 0 0 := by
  refine Law.of_walk (plainFor_of_name (by decide +kernel)) (by decide +kernel) (by decide +kernel) (by decide) (fun _ _ h => by rw [h.1]; rfl) (fun _ U U' hal hh h => ⟨h.1, h.2.1.mv hal hh, h.2.2.1, h.2.2.2.1.mv hal hh, h.2.2.2.2⟩) (fun r U U' V V' h1 hal h2 h => Says01.mv r U U' V V' h1 hal h2 h) ?_
  intro p e s m args below meth c s₁ X0 hexec hbytes hml hret hlk hnm hown hh0 W hP
  obtain ⟨rfl, hA, tA, hB, tB⟩ := hP
  have a31 := hA.2.2.2
  have b31 := hB.2.2.2
  have hA0 := hA.mv X0.warmed.alike hh0
  have hB0 := hB.mv X0.warmed.alike hh0
  have c1 : Steps p.tables e below (s₁.setTop (entryFrame m #[.ref a, .ref b] 3)) (s₁.setTop (mkF m 0 #[.val (.ref a), .val (.ref b), .unset] [])) := entry rfl
  have c2 : Steps p.tables e below (s₁.setTop (entryFrame m #[.ref a, .ref b] 3)) (s₁.setTop (mkF m 4 #[.val (.ref a), .val (.ref b), .unset] [.int (Int32.ofNat B.slots.size), .int (Int32.ofNat A.slots.size)])) := c1.trans (by
    refine XS.aloadN X0.here hexec rfl (hb hbytes d0) rfl rfl ?_
    refine X0.alen hexec hA0 rfl rfl (hb hbytes d1) ?_
    refine XS.aloadN X0.here hexec rfl (hb hbytes d2) rfl rfl ?_
    refine X0.alen hexec hB0 rfl rfl (hb hbytes d3) ?_
    exact Steps.refl _)
  by_cases hs : A.slots.size = B.slots.size
  · have c3 : Steps p.tables e below (s₁.setTop (entryFrame m #[.ref a, .ref b] 3)) (s₁.setTop (mkF m 9 #[.val (.ref a), .val (.ref b), .val (.int 0)] [])) := c2.trans (by
      refine XS.icmpNo X0.here hexec rfl (hb hbytes d4) rfl (ii_ne_f (by rw [hs])) ?_
      refine iconstV X0.here hexec rfl 0 (hb hbytes d7) (by decide) ?_
      refine XS.istoreN X0.here hexec rfl (hb hbytes d8) rfl rfl ?_
      exact Steps.refl _)
    have loop : ∀ (r i : Nat), i + r = A.slots.size → (∀ j, j < i → yv A j = yv B j) → Steps p.tables e below (s₁.setTop (entryFrame m #[.ref a, .ref b] 3)) (s₁.setTop (mkF m 9 #[.val (.ref a), .val (.ref b), .val (.int (Int32.ofNat i))] [])) → ∃ (pc : Nat) (Ls : Array Slot) (v : Int32), (pc = 25 ∨ pc = 33) ∧ ((v = 1 ∧ EqC A B) ∨ (v = 0 ∧ ¬ EqC A B)) ∧ Steps p.tables e below (s₁.setTop (entryFrame m #[.ref a, .ref b] 3)) (s₁.setTop (mkF m pc Ls [.int v])) := by
      intro r
      induction r with
      | zero =>
        intro i hi he cl
        exact ⟨33, _, 1, Or.inr rfl, Or.inl ⟨rfl, hs, fun j hj => he j (by omega)⟩, cl.trans (by
          refine XS.iloadN X0.here hexec rfl (hb hbytes d9) rfl ?_
          refine XS.aloadN X0.here hexec rfl (hb hbytes d10) rfl rfl ?_
          refine X0.alen hexec hA0 rfl rfl (hb hbytes d11) ?_
          refine XS.icmpYes X0.here hexec rfl (pc0 := 12) rfl (hb hbytes d12) rfl (ii_ge_t (nlt32 (by omega) (by omega))) (by decide) rfl ?_
          refine iconstV X0.here hexec rfl 1 (hb hbytes d32) (by decide) ?_
          exact Steps.refl _)⟩
      | succ r ih =>
        intro i hi he cl
        have c4 : Steps p.tables e below (s₁.setTop (entryFrame m #[.ref a, .ref b] 3)) (s₁.setTop (mkF m 21 #[.val (.ref a), .val (.ref b), .val (.int (Int32.ofNat i))] [.int (yv B i), .int (yv A i)])) := cl.trans (by
          refine XS.iloadN X0.here hexec rfl (hb hbytes d9) rfl ?_
          refine XS.aloadN X0.here hexec rfl (hb hbytes d10) rfl rfl ?_
          refine X0.alen hexec hA0 rfl rfl (hb hbytes d11) ?_
          refine XS.icmpNo X0.here hexec rfl (hb hbytes d12) rfl (ii_ge_f (lt32 (by omega) (by omega))) ?_
          refine XS.aloadN X0.here hexec rfl (hb hbytes d15) rfl rfl ?_
          refine XS.iloadN X0.here hexec rfl (hb hbytes d16) rfl ?_
          refine X0.aget hexec hA0 rfl (yv_get hA tA (i := i) (by omega)) rfl rfl (hb hbytes d17) ?_
          refine XS.aloadN X0.here hexec rfl (hb hbytes d18) rfl rfl ?_
          refine XS.iloadN X0.here hexec rfl (hb hbytes d19) rfl ?_
          refine X0.aget hexec hB0 rfl (yv_get hB tB (i := i) (by omega)) rfl rfl (hb hbytes d20) ?_
          exact Steps.refl _)
        by_cases hv : yv A i = yv B i
        · have c5 : Steps p.tables e below (s₁.setTop (entryFrame m #[.ref a, .ref b] 3)) (s₁.setTop (mkF m 9 #[.val (.ref a), .val (.ref b), .val (.int (Int32.ofNat i + 1))] [])) := c4.trans (by
            refine XS.icmpYes X0.here hexec rfl (pc0 := 21) rfl (hb hbytes d21) rfl (ii_eq_t hv) (by decide) rfl ?_
            refine iincV X0.here hexec rfl 1 (hb hbytes d26) (by decide) rfl rfl ?_
            refine XS.goto X0.here hexec rfl (pc0 := 29) rfl (hb hbytes d29) (by decide) rfl ?_
            exact Steps.refl _)
          rw [succ32] at c5
          exact ih (i + 1) (by omega) (fun j hj => by
            by_cases e : j = i
            · rw [e]; exact hv
            · exact he j (by omega)) c5
        · exact ⟨25, _, 0, Or.inl rfl, Or.inr ⟨rfl, fun q => hv (q.2 i (by omega))⟩, c4.trans (by
            refine XS.icmpNo X0.here hexec rfl (hb hbytes d21) rfl (ii_eq_f hv) ?_
            refine iconstV X0.here hexec rfl 0 (hb hbytes d24) (by decide) ?_
            exact Steps.refl _)⟩
    obtain ⟨pc, Ls, v, hpc, hv, cz⟩ := loop A.slots.size 0 (by omega) (fun j hj => absurd hj (Nat.not_lt_zero j)) c3
    have nv : narrow .boolean (.int v) = .int v := by rcases hv with ⟨rfl, -⟩ | ⟨rfl, -⟩ <;> rfl
    rcases hpc with rfl | rfl
    · exact ⟨s₁, some (.int v), _, _, _, X0, rfl, rfl, rfl, (fun h => by cases h), ⟨v, rfl, hh0, hv⟩, fun fs hl => cz.trans (X0.ireturnOut hexec hret nv (Or.inr (Or.inl rfl)) (hb hbytes d25) hl)⟩
    · exact ⟨s₁, some (.int v), _, _, _, X0, rfl, rfl, rfl, (fun h => by cases h), ⟨v, rfl, hh0, hv⟩, fun fs hl => cz.trans (X0.ireturnOut hexec hret nv (Or.inr (Or.inl rfl)) (hb hbytes d33) hl)⟩
  · have c3 : Steps p.tables e below (s₁.setTop (entryFrame m #[.ref a, .ref b] 3)) (s₁.setTop (mkF m 35 #[.val (.ref a), .val (.ref b), .unset] [.int 0])) := c2.trans (by
      refine XS.icmpYes X0.here hexec rfl (pc0 := 4) rfl (hb hbytes d4) rfl (ii_ne_t (ne32 a31 b31 hs)) (by decide) rfl ?_
      refine iconstV X0.here hexec rfl 0 (hb hbytes d34) (by decide) ?_
      exact Steps.refl _)
    exact ⟨s₁, some (.int 0), _, _, _, X0, rfl, rfl, rfl, (fun h => by cases h), ⟨0, rfl, hh0, Or.inr ⟨rfl, fun q => hs q.1⟩⟩, fun fs hl => c3.trans (X0.ireturnOut hexec hret rfl (Or.inr (Or.inl rfl)) (hb hbytes d35) hl)⟩
end LEq
theorem Cod.ty {cd : Int32} {n : Nat} {f : Nat → Int32} {V : Cell} (h : Cod cd n f V) : Typed .byte V := fun i v hv => by
  have hi : i < V.slots.size := (Array.getElem?_eq_some_iff.mp hv).1
  rcases h with ⟨-, k1, k2⟩ | ⟨-, k1, k2, -⟩
  · rw [(k2 i (by omega)).1] at hv; cases hv; exact fits_lo8 _
  · rcases Nat.mod_two_eq_zero_or_one i with e | e
    · obtain ⟨j, rfl⟩ : ∃ j, i = 2 * j := ⟨i / 2, by omega⟩
      rw [(k2 j (by omega)).1] at hv; cases hv; exact fits_lo8 _
    · obtain ⟨j, rfl⟩ : ∃ j, i = 2 * j + 1 := ⟨i / 2, by omega⟩
      rw [(k2 j (by omega)).2] at hv; cases hv; exact fits_lo8 _
/-- the same text -/
def SameT (n : Nat) (f : Nat → Int32) (k : Nat) (g : Nat → Int32) : Prop := n = k ∧ ∀ j, j < n → f j = g j
theorem lo8_inj {x y : Int32} (h0 : ¬ x < 0) (h1 : ¬ 255 < x) (k0 : ¬ y < 0) (k1 : ¬ 255 < y) (h : lo8 x = lo8 y) : x = y := by
  rw [← lo8_mask h0 h1, ← lo8_mask k0 k1, h]
/-- arrays coded by one coder are equal just where the texts are -/
theorem Cod.eqv {cd : Int32} {n k : Nat} {f g : Nat → Int32} {V V' : Cell} (h : Cod cd n f V) (h' : Cod cd k g V') (hf : ∀ j, j < n → ¬ f j < 0 ∧ ¬ 65535 < f j) (hg : ∀ j, j < k → ¬ g j < 0 ∧ ¬ 65535 < g j) : EqC V V' ↔ SameT n f k g := by
  have yvv : ∀ {W : Cell} {i : Nat} {x : Int32}, W.slots[i]? = some (.int x) → yv W i = x := fun q => by unfold yv; rw [q]
  rcases h with ⟨rfl, k1, k2⟩ | ⟨rfl, k1, k2, -⟩
  · rcases h' with ⟨-, m1, m2⟩ | ⟨e, -⟩
    · constructor
      · rintro ⟨e1, e2⟩
        refine ⟨by omega, fun j hj => ?_⟩
        have q := e2 j (by omega)
        rw [yvv (k2 j hj).1, yvv (m2 j (by omega)).1] at q
        exact lo8_inj (hf j hj).1 (k2 j hj).2 (hg j (by omega)).1 (m2 j (by omega)).2 q
      · rintro ⟨rfl, e2⟩
        refine ⟨by omega, fun j hj => ?_⟩
        rw [yvv (k2 j (by omega)).1, yvv (m2 j (by omega)).1, e2 j (by omega)]
    · exact absurd e (by decide)
  · rcases h' with ⟨e, -⟩ | ⟨-, m1, m2, -⟩
    · exact absurd e (by decide)
    · constructor
      · rintro ⟨e1, e2⟩
        refine ⟨by omega, fun j hj => ?_⟩
        have q1 := e2 (2 * j) (by omega)
        have q2 := e2 (2 * j + 1) (by omega)
        rw [yvv (k2 j hj).1, yvv (m2 j (by omega)).1] at q1
        rw [yvv (k2 j hj).2, yvv (m2 j (by omega)).2] at q2
        rw [← pair_says (hf j hj).1 (hf j hj).2, ← pair_says (hg j (by omega)).1 (hg j (by omega)).2, q1, q2]
      · rintro ⟨rfl, e2⟩
        refine ⟨by omega, fun i hi => ?_⟩
        rcases Nat.mod_two_eq_zero_or_one i with e | e
        · obtain ⟨j, rfl⟩ : ∃ j, i = 2 * j := ⟨i / 2, by omega⟩
          rw [yvv (k2 j (by omega)).1, yvv (m2 j (by omega)).1, e2 j (by omega)]
        · obtain ⟨j, rfl⟩ : ∃ j, i = 2 * j + 1 := ⟨i / 2, by omega⟩
          rw [yvv (k2 j (by omega)).2, yvv (m2 j (by omega)).2, e2 j (by omega)]
/-- two codings differ: so do the texts -/
theorem Cod.dif {cd cd' : Int32} {n k : Nat} {f g : Nat → Int32} {V V' : Cell} (h : Cod cd n f V) (h' : Cod cd' k g V') (hne : ¬ cd = cd') : ¬ SameT n f k g := by
  rintro ⟨rfl, e⟩
  rcases h with ⟨rfl, -, k2⟩ | ⟨rfl, -, -, j, hj, hw⟩
  · rcases h' with ⟨rfl, -⟩ | ⟨-, -, -, j, hj, hw⟩
    · exact hne rfl
    · exact (k2 j hj).2 (by rw [e j hj]; exact hw)
  · rcases h' with ⟨-, -, m2⟩ | ⟨rfl, -⟩
    · exact (m2 j hj).2 (by rw [← e j hj]; exact hw)
    · exact hne rfl
/-- an object of exactly C is an instance of C -/
theorem cinst {p : Program} {l : Launch} {e : Env} {R : Room} {s : State} {m : MethodId} {args : Array Value} {below : List Frame} {meth : Method} {c : Code} {T : State} {locs : List Loc} {cells slots : Nat} (X : Stand p l e R s m args below meth c T locs cells slots) (hexec : p.tables.exec = Jvm.exec) {own C : String} {index : Nat} (hown : s.vm.findClass own = some m.cls) (hlink : (Cond.classLink own index C).before args s = true) {a : Addr} (hE : Exact C a T)
    {g : JFrame} (hg : g.method = m) {rest : List Value} (hstack : g.stack = .ref a :: rest) (hdg : decode c.code g.pc = .ok (.instanceof index, 3)) :
    ∃ T', Stand p l e R s m args below meth c T' locs cells slots ∧ T'.heap = T.heap ∧ ∀ target, Steps p.tables e below (T'.setTop { g with pc := g.pc + 3, stack := .int 1 :: rest }) target → Steps p.tables e below (T.setTop g) target := by
  obtain ⟨cB, h1, D, h2, h3, h4⟩ := hE
  have h1' : s.vm.findClass C = some cB := by rw [← X.warmed.alike.findClass]; exact h1
  obtain ⟨vm', X', st⟩ := X.instanceofYes hexec hown hlink h2 h4 h1' (by rw [h3]; exact Jvm.Free.SB.assignable_self _ _) hg hstack hdg
  exact ⟨_, X', rfl, st⟩
theorem cself {p : Program} {l : Launch} {e : Env} {R : Room} {s : State} {m : MethodId} {args : Array Value} {below : List Frame} {meth : Method} {c : Code} {T : State} {locs : List Loc} {cells slots : Nat} (X : Stand p l e R s m args below meth c T locs cells slots) (hexec : p.tables.exec = Jvm.exec) {own C : String} {index : Nat} (hown : s.vm.findClass own = some m.cls) (hlink : (Cond.classLink own index C).before args s = true) {a : Addr} (hE : Exact C a T)
    {g : JFrame} (hg : g.method = m) {rest : List Value} (hstack : g.stack = .ref a :: rest) (hdg : decode c.code g.pc = .ok (.checkcast index, 3)) :
    ∃ T', Stand p l e R s m args below meth c T' locs cells slots ∧ T'.heap = T.heap ∧ ∀ target, Steps p.tables e below (T'.setTop { g with pc := g.pc + 3, stack := .ref a :: rest }) target → Steps p.tables e below (T.setTop g) target := by
  obtain ⟨cB, h1, D, h2, h3, h4⟩ := hE
  have h1' : s.vm.findClass C = some cB := by rw [← X.warmed.alike.findClass]; exact h1
  obtain ⟨vm', X', st⟩ := X.checkcastYes hexec hown hlink h2 h4 h1' (by rw [h3]; exact Jvm.Free.SB.assignable_self _ _) hg hstack hdg
  exact ⟨_, X', rfl, fun t h => st t (by rw [← hstack] at h; exact h)⟩
namespace SEq
def yN : MethodName := ⟨"java/lang/String", "equals", "(Ljava/lang/Object;)Z"⟩
abbrev yB : ByteArray := jdk_42_method_66_code
theorem d0 : decode yB 0 = .ok (.aload_n 0, 1) := by decide +kernel
theorem d1 : decode yB 1 = .ok (.aload_n 1, 1) := by decide +kernel
theorem d2 : decode yB 2 = .ok (.if_acmp (.ne) 5, 3) := by decide +kernel
theorem d5 : decode yB 5 = .ok (.iconst 1, 1) := by decide +kernel
theorem d6 : decode yB 6 = .ok (.ireturn, 1) := by decide +kernel
theorem d7 : decode yB 7 = .ok (.aload_n 1, 1) := by decide +kernel
theorem d8 : decode yB 8 = .ok (.instanceof 10, 3) := by decide +kernel
theorem d11 : decode yB 11 = .ok (.ifCond (.eq) 43, 3) := by decide +kernel
theorem d14 : decode yB 14 = .ok (.aload_n 1, 1) := by decide +kernel
theorem d15 : decode yB 15 = .ok (.checkcast 10, 3) := by decide +kernel
theorem d18 : decode yB 18 = .ok (.astore_n 2, 1) := by decide +kernel
theorem d19 : decode yB 19 = .ok (.getstatic 38, 3) := by decide +kernel
theorem d22 : decode yB 22 = .ok (.ifCond (.eq) 14, 3) := by decide +kernel
theorem d25 : decode yB 25 = .ok (.aload_n 0, 1) := by decide +kernel
theorem d26 : decode yB 26 = .ok (.getfield 15, 3) := by decide +kernel
theorem d29 : decode yB 29 = .ok (.aload_n 2, 1) := by decide +kernel
theorem d30 : decode yB 30 = .ok (.getfield 15, 3) := by decide +kernel
theorem d33 : decode yB 33 = .ok (.if_icmp (.ne) 21, 3) := by decide +kernel
theorem d36 : decode yB 36 = .ok (.aload_n 0, 1) := by decide +kernel
theorem d37 : decode yB 37 = .ok (.getfield 9, 3) := by decide +kernel
theorem d40 : decode yB 40 = .ok (.aload_n 2, 1) := by decide +kernel
theorem d41 : decode yB 41 = .ok (.getfield 9, 3) := by decide +kernel
theorem d44 : decode yB 44 = .ok (.invokestatic 541, 3) := by decide +kernel
theorem d47 : decode yB 47 = .ok (.ifCond (.eq) 7, 3) := by decide +kernel
theorem d50 : decode yB 50 = .ok (.iconst 1, 1) := by decide +kernel
theorem d51 : decode yB 51 = .ok (.goto 4, 3) := by decide +kernel
theorem d54 : decode yB 54 = .ok (.iconst 0, 1) := by decide +kernel
theorem d55 : decode yB 55 = .ok (.ireturn, 1) := by decide +kernel
def site : List Cond := [.classLink "java/lang/String" 10 "java/lang/String", .fieldLink "java/lang/String" 38 "java/lang/String" "COMPACT_STRINGS" "Z", .fieldLink "java/lang/String" 15 "java/lang/String" "coder" "B", .fieldLink "java/lang/String" 9 "java/lang/String" "value" "[B", LEq.tab] ++ staticW "java/lang/String" 541 LEq.yN
def tab : Cond := tabOf yN yB 3 (some .boolean) site
def P (x t : Addr) (V : Cell) (cd : Int32) (n : Nat) (f : Nat → Int32) (y t' : Addr) (V' : Cell) (cd' : Int32) (k : Nat) (g : Nat → Int32) (z : Int32) (args : Array Value) (s : State) : Prop := args = #[.ref x, .ref y] ∧ Txt x t V cd n f s ∧ Txt y t' V' cd' k g s ∧ StaticIs s "java/lang/String" "COMPACT_STRINGS" "Z" (.int z) ∧ ¬ z = 0
/-- equals(Object) of two Strings: whether the texts are the same -/
theorem law (l : Launch) (x t : Addr) (V : Cell) (cd : Int32) (n : Nat) (f : Nat → Int32) (y t' : Addr) (V' : Cell) (cd' : Int32) (k : Nat) (g : Nat → Int32) (z : Int32) : Law l yN 2 1 1 14 yB 3 (some .boolean) site (P x t V cd n f y t' V' cd' k g z) (Says01 (SameT n f k g)) [] 0 0 := by
  refine Law.of_walk (plainFor_of_name (by decide +kernel)) (by decide +kernel) (by decide +kernel) (by decide) (fun _ _ h => by rw [h.1]; rfl) (fun _ U U' hal hh h => ⟨h.1, h.2.1.mv hal hh, h.2.2.1.mv hal hh, h.2.2.2.1.there hal hh, h.2.2.2.2⟩) (fun r U U' V V' h1 hal h2 h => Says01.mv r U U' V V' h1 hal h2 h) ?_
  intro p e s m args below meth c s₁ X0 hexec hbytes hml hret hlk hnm hown hh0 W hP
  obtain ⟨rfl, hx, hy, s1, hz⟩ := hP
  have c1 : Steps p.tables e below (s₁.setTop (entryFrame m #[.ref x, .ref y] 3)) (s₁.setTop (mkF m 2 #[.val (.ref x), .val (.ref y), .unset] [.ref y, .ref x])) := Steps.trans (entry rfl) (by
    show Steps p.tables e below (s₁.setTop (mkF m 0 #[.val (.ref x), .val (.ref y), .unset] [])) _
    refine XS.aloadN X0.here hexec rfl (hb hbytes d0) rfl rfl ?_
    refine XS.aloadN X0.here hexec rfl (hb hbytes d1) rfl rfl ?_
    exact Steps.refl _)
  by_cases hxy : x = y
  · have c2 : Steps p.tables e below (s₁.setTop (entryFrame m #[.ref x, .ref y] 3)) (s₁.setTop (mkF m 6 #[.val (.ref x), .val (.ref y), .unset] [.int 1])) := c1.trans (by
      refine acmpNo X0.here hexec rfl (hb hbytes d2) rfl rfl rfl (by simp [acmp, hxy]) ?_
      refine iconstV X0.here hexec rfl 1 (hb hbytes d5) (by decide) ?_
      exact Steps.refl _)
    subst hxy
    have ec : cd = cd' := by
      obtain ⟨D, fd, a1, a2, a3⟩ := hx.2.2.1
      obtain ⟨D', fd', b1, b2, b3⟩ := hy.2.2.1
      cases a1.symm.trans b1
      obtain ⟨q1, q2, q3, q4⟩ := a2.1
      obtain ⟨r1, r2, r3, r4⟩ := b2.1
      cases q4.symm.trans r4
      cases a3.symm.trans b3; rfl
    have et : t = t' := by
      obtain ⟨D, fd, a1, a2, a3⟩ := hx.2.1
      obtain ⟨D', fd', b1, b2, b3⟩ := hy.2.1
      cases a1.symm.trans b1
      obtain ⟨q1, q2, q3, q4⟩ := a2.1
      obtain ⟨r1, r2, r3, r4⟩ := b2.1
      cases q4.symm.trans r4
      cases a3.symm.trans b3; rfl
    subst ec et
    have ev : V = V' := by cases hx.2.2.2.1.1.symm.trans hy.2.2.2.1.1; rfl
    subst ev
    have hs : SameT n f k g := (Cod.eqv hx.2.2.2.2.1 hy.2.2.2.2.1 hx.2.2.2.2.2 hy.2.2.2.2.2).mp ⟨rfl, fun _ _ => rfl⟩
    exact ⟨s₁, some (.int 1), _, _, _, X0, rfl, rfl, rfl, (fun h => by cases h), ⟨1, rfl, hh0, Or.inl ⟨rfl, hs⟩⟩, fun fs hl => c2.trans (X0.ireturnOut hexec hret rfl (Or.inr (Or.inl rfl)) (hb hbytes d6) hl)⟩
  · have c2 : Steps p.tables e below (s₁.setTop (entryFrame m #[.ref x, .ref y] 3)) (s₁.setTop (mkF m 8 #[.val (.ref x), .val (.ref y), .unset] [.ref y])) := c1.trans (by
      refine acmpYes X0.here hexec rfl (pc0 := 2) rfl (hb hbytes d2) rfl rfl rfl (by simp [acmp, hxy]) (by decide) rfl ?_
      refine XS.aloadN X0.here hexec rfl (hb hbytes d7) rfl rfl ?_
      exact Steps.refl _)
    obtain ⟨T3, X3, q3, st3⟩ := cinst X0 hexec hown (wk W (.classLink "java/lang/String" 10 "java/lang/String")) (hy.mv X0.warmed.alike hh0).1 (g := (mkF m 8 #[.val (.ref x), .val (.ref y), .unset] [.ref y])) rfl (rest := []) rfl (hb hbytes d8)
    have hh3 := q3.trans hh0
    have c4 : Steps p.tables e below (s₁.setTop (entryFrame m #[.ref x, .ref y] 3)) (T3.setTop (mkF m 15 #[.val (.ref x), .val (.ref y), .unset] [.ref y])) := (c2.trans (st3 _ (Steps.refl _))).trans (by
      refine XS.ifNo X3.here hexec rfl (hb hbytes d11) rfl (i0_eq_f (by decide)) ?_
      refine XS.aloadN X3.here hexec rfl (hb hbytes d14) rfl rfl ?_
      exact Steps.refl _)
    obtain ⟨T5, X5, q5, st5⟩ := cself X3 hexec hown (wk W (.classLink "java/lang/String" 10 "java/lang/String")) (hy.mv X3.warmed.alike hh3).1 (g := (mkF m 15 #[.val (.ref x), .val (.ref y), .unset] [.ref y])) rfl (rest := []) rfl (hb hbytes d15)
    have hh5 := q5.trans hh3
    have c6 : Steps p.tables e below (s₁.setTop (entryFrame m #[.ref x, .ref y] 3)) (T5.setTop (mkF m 19 #[.val (.ref x), .val (.ref y), .val (.ref y)] [])) := (c4.trans (st5 _ (Steps.refl _))).trans (by
      refine XS.astoreN X5.here hexec rfl (hb hbytes d18) rfl rfl rfl ?_
      exact Steps.refl _)
    obtain ⟨T7, X7, q7, st7⟩ := X5.sget hexec hown (wk W (.fieldLink "java/lang/String" 38 "java/lang/String" "COMPACT_STRINGS" "Z")) s1 (fun _ _ h => by rw [hh5]; exact h) (g := (mkF m 19 #[.val (.ref x), .val (.ref y), .val (.ref y)] [])) rfl (hb hbytes d19)
    have hh7 := q7.trans hh5
    have c8 : Steps p.tables e below (s₁.setTop (entryFrame m #[.ref x, .ref y] 3)) (T7.setTop (mkF m 26 #[.val (.ref x), .val (.ref y), .val (.ref y)] [.ref x])) := (c6.trans (st7 _ (Steps.refl _))).trans (by
      refine XS.ifNo X7.here hexec rfl (hb hbytes d22) rfl (i0_eq_f hz) ?_
      refine XS.aloadN X7.here hexec rfl (hb hbytes d25) rfl rfl ?_
      exact Steps.refl _)
    obtain ⟨T9, X9, q9, st9⟩ := X7.hget hexec hown (wk W (.fieldLink "java/lang/String" 15 "java/lang/String" "coder" "B")) (hx.mv X7.warmed.alike hh7).2.2.1 (g := (mkF m 26 #[.val (.ref x), .val (.ref y), .val (.ref y)] [.ref x])) rfl (rest := []) rfl (hb hbytes d26)
    have hh9 := q9.trans hh7
    have c10 : Steps p.tables e below (s₁.setTop (entryFrame m #[.ref x, .ref y] 3)) (T9.setTop (mkF m 30 #[.val (.ref x), .val (.ref y), .val (.ref y)] [.ref y, .int cd])) := (c8.trans (st9 _ (Steps.refl _))).trans (by
      refine XS.aloadN X9.here hexec rfl (hb hbytes d29) rfl rfl ?_
      exact Steps.refl _)
    obtain ⟨T11, X11, q11, st11⟩ := X9.hget hexec hown (wk W (.fieldLink "java/lang/String" 15 "java/lang/String" "coder" "B")) (hy.mv X9.warmed.alike hh9).2.2.1 (g := (mkF m 30 #[.val (.ref x), .val (.ref y), .val (.ref y)] [.ref y, .int cd])) rfl (rest := [.int cd]) rfl (hb hbytes d30)
    have hh11 := q11.trans hh9
    have c12 : Steps p.tables e below (s₁.setTop (entryFrame m #[.ref x, .ref y] 3)) (T11.setTop (mkF m 33 #[.val (.ref x), .val (.ref y), .val (.ref y)] [.int cd', .int cd])) := c10.trans (st11 _ (Steps.refl _))
    by_cases hcd : cd = cd'
    · subst hcd
      have c13 : Steps p.tables e below (s₁.setTop (entryFrame m #[.ref x, .ref y] 3)) (T11.setTop (mkF m 37 #[.val (.ref x), .val (.ref y), .val (.ref y)] [.ref x])) := c12.trans (by
        refine XS.icmpNo X11.here hexec rfl (hb hbytes d33) rfl (ii_ne_f rfl) ?_
        refine XS.aloadN X11.here hexec rfl (hb hbytes d36) rfl rfl ?_
        exact Steps.refl _)
      obtain ⟨T14, X14, q14, st14⟩ := X11.hget hexec hown (wk W (.fieldLink "java/lang/String" 9 "java/lang/String" "value" "[B")) (hx.mv X11.warmed.alike hh11).2.1 (g := (mkF m 37 #[.val (.ref x), .val (.ref y), .val (.ref y)] [.ref x])) rfl (rest := []) rfl (hb hbytes d37)
      have hh14 := q14.trans hh11
      have c15 : Steps p.tables e below (s₁.setTop (entryFrame m #[.ref x, .ref y] 3)) (T14.setTop (mkF m 41 #[.val (.ref x), .val (.ref y), .val (.ref y)] [.ref y, .ref t])) := (c13.trans (st14 _ (Steps.refl _))).trans (by
        refine XS.aloadN X14.here hexec rfl (hb hbytes d40) rfl rfl ?_
        exact Steps.refl _)
      obtain ⟨T16, X16, q16, st16⟩ := X14.hget hexec hown (wk W (.fieldLink "java/lang/String" 9 "java/lang/String" "value" "[B")) (hy.mv X14.warmed.alike hh14).2.1 (g := (mkF m 41 #[.val (.ref x), .val (.ref y), .val (.ref y)] [.ref y, .ref t])) rfl (rest := [.ref t]) rfl (hb hbytes d41)
      have hh16 := q16.trans hh14
      have c17 : Steps p.tables e below (s₁.setTop (entryFrame m #[.ref x, .ref y] 3)) (T16.setTop (mkF m 44 #[.val (.ref x), .val (.ref y), .val (.ref y)] [.ref t', .ref t])) := c15.trans (st16 _ (Steps.refl _))
      obtain ⟨v18, T18, X18, E18, g18⟩ := X16.callS hexec (LEq.law l t V t' V') hown (wks W (staticW "java/lang/String" 541 LEq.yN)) (wk W LEq.tab) (W := 0) (Nat.le_of_ble_eq_true rfl) (Nat.le_of_ble_eq_true rfl) (Nat.le_refl _) (Nat.le_refl _) (g := (mkF m 44 #[.val (.ref x), .val (.ref y), .val (.ref y)] [.ref t', .ref t])) rfl (by rw [hml]; rfl) c17 (argsL := [.ref t, .ref t']) (rest := []) rfl rfl (by show 2 * 0 + 0 ≤ _; decide) (hb hbytes d44) (⟨rfl, hx.2.2.2.1.mv X16.warmed.alike hh16, hx.2.2.2.2.1.ty, hy.2.2.2.1.mv X16.warmed.alike hh16, hy.2.2.2.2.1.ty⟩)
      obtain ⟨v, rfl, q18, hv⟩ := E18
      have iff := Cod.eqv hx.2.2.2.2.1 hy.2.2.2.2.1 hx.2.2.2.2.2 hy.2.2.2.2.2
      rcases hv with ⟨rfl, he⟩ | ⟨rfl, he⟩
      · have c19 : Steps p.tables e below (s₁.setTop (entryFrame m #[.ref x, .ref y] 3)) (T18.setTop (mkF m 55 #[.val (.ref x), .val (.ref y), .val (.ref y)] [.int 1])) := Steps.trans g18 (by
          refine XS.ifNo X18.here hexec rfl (hb hbytes d47) rfl (i0_eq_f (by decide)) ?_
          refine iconstV X18.here hexec rfl 1 (hb hbytes d50) (by decide) ?_
          refine XS.goto X18.here hexec rfl (pc0 := 51) rfl (hb hbytes d51) (by decide) rfl ?_
          exact Steps.refl _)
        exact ⟨T18, some (.int 1), _, _, _, X18, rfl, rfl, rfl, (fun h => by cases h), ⟨1, rfl, q18.trans hh16, Or.inl ⟨rfl, iff.mp he⟩⟩, fun fs hl => c19.trans (X18.ireturnOut hexec hret rfl (Or.inr (Or.inl rfl)) (hb hbytes d55) hl)⟩
      · have c19 : Steps p.tables e below (s₁.setTop (entryFrame m #[.ref x, .ref y] 3)) (T18.setTop (mkF m 55 #[.val (.ref x), .val (.ref y), .val (.ref y)] [.int 0])) := Steps.trans g18 (by
          refine XS.ifYes X18.here hexec rfl (pc0 := 47) rfl (hb hbytes d47) rfl (i0_eq_t rfl) (by decide) rfl ?_
          refine iconstV X18.here hexec rfl 0 (hb hbytes d54) (by decide) ?_
          exact Steps.refl _)
        exact ⟨T18, some (.int 0), _, _, _, X18, rfl, rfl, rfl, (fun h => by cases h), ⟨0, rfl, q18.trans hh16, Or.inr ⟨rfl, fun q => he (iff.mpr q)⟩⟩, fun fs hl => c19.trans (X18.ireturnOut hexec hret rfl (Or.inr (Or.inl rfl)) (hb hbytes d55) hl)⟩
    · have c13 : Steps p.tables e below (s₁.setTop (entryFrame m #[.ref x, .ref y] 3)) (T11.setTop (mkF m 55 #[.val (.ref x), .val (.ref y), .val (.ref y)] [.int 0])) := c12.trans (by
        refine XS.icmpYes X11.here hexec rfl (pc0 := 33) rfl (hb hbytes d33) rfl (ii_ne_t hcd) (by decide) rfl ?_
        refine iconstV X11.here hexec rfl 0 (hb hbytes d54) (by decide) ?_
        exact Steps.refl _)
      exact ⟨T11, some (.int 0), _, _, _, X11, rfl, rfl, rfl, (fun h => by cases h), ⟨0, rfl, hh11, Or.inr ⟨rfl, Cod.dif hx.2.2.2.2.1 hy.2.2.2.2.1 hcd⟩⟩, fun fs hl => c13.trans (X11.ireturnOut hexec hret rfl (Or.inr (Or.inl rfl)) (hb hbytes d55) hl)⟩
theorem pays {l : Launch} {R : Room} {p : Program} {e : Env} {below : List Frame} {s : State} {sargs : Array Value} {len W : Nat} (x t : Addr) (V : Cell) (cd : Int32) (n : Nat) (f : Nat → Int32) (y t' : Addr) (V' : Cell) (cd' : Int32) (k : Nat) (g : Nat → Int32) (z : Int32) (htab : tab.before sargs s = true) (hfr : 2 ≤ R.frames) (hlo : W + 28 ≤ R.locals) :
    Back l R p e below s sargs yN len W (fun A₁ a₁ => A₁.cells + 0 ≤ R.cells ∧ A₁.slots + 0 ≤ R.slots ∧ P x t V cd n f y t' V' cd' k g z a₁ A₁.U) (fun A₁ _ v₁ B₁ => Says01 (SameT n f k g) v₁ A₁.U B₁.U ∧ B₁.locs = A₁.locs ++ [] ∧ B₁.cells = A₁.cells + 0 ∧ B₁.slots = A₁.slots + 0) :=
  (law l x t V cd n f y t' V' cd' k g z).pays htab hfr (by omega)
end SEq
end StrChars
namespace StrChars.Road
open Jvm Sem ClassFile Op Lib Jvm.Stand Jvm.Free Jvm.Free.XT
open Jvm.Lib.Cold (StaticIs)
/-- the words of String.equals(Object) -/
abbrev wordsEq : List Jvm.Cond := [.code SEq.yN SEq.yB 3 (some .boolean), .initialized ST, .classLink ST 10 ST, .fieldLink ST 38 ST "COMPACT_STRINGS" "Z", .fieldLink ST 15 ST "coder" "B", .fieldLink ST 9 ST "value" "[B", .methodLink ST 541 LEq.yN, .static LEq.yN, .code LEq.yN LEq.yB 3 (some .boolean), .initialized "java/lang/StringLatin1"]
theorem tabEq_of {a : Array Value} {s : State} (h : ∀ w ∈ wordsEq, w.before a s = true) : SEq.tab.before a s = true := by
  have hl : LEq.tab.before a s = true := unparts (wk h (.code LEq.yN LEq.yB 3 (some .boolean))) (wks h (.initialized LEq.yN.cls :: LEq.site))
  have q := consq hl h
  exact unparts (wk q (.code SEq.yN SEq.yB 3 (some .boolean))) (wks q (.initialized SEq.yN.cls :: SEq.site))
theorem movedEq {Z s : State} {a0 args : Array Value} (hZ : Z.Warmed39 s.vm) (hw : ∀ d ∈ wordsEq, d.before a0 Z = true) : ∀ d ∈ wordsEq, d.before args s = true := fun d hd => by
  have t : ∀ d ∈ wordsEq, (d.onTables && d.keepsFace) = true := by decide +kernel
  exact RoadKit.mv hZ (hw d hd) (t d hd)
/-- the road's facts of a String, as the laws ask it -/
theorem txt_of {Z U : State} {a0 : Array Value} {kI : Nat} (wi : (Jvm.Cond.instantiable ST kI).before a0 Z = true) (al : Z.vm.Alike U.vm) {x t : Addr} {kb : ClassId} {cs : List Int32} {cd N2 : Int32} {vs : List Value} (E : RoadKit.Exa Z U.heap x ST) (V : RoadKit.Fld Z U.heap x ST "value" "[B" (.ref t)) (C : RoadKit.Fld Z U.heap x ST "coder" "B" (.int cd)) (K : RoadKit.Arv Z U.heap t kb .byte N2 vs (.int 0)) (hc : CodA cs cd N2 vs) (hb : ∀ c ∈ cs, ¬ c < 0 ∧ ¬ (65535 : Int32) < c) (l2 : cs.length ≤ 4000) :
    ∃ A, Txt x t A cd cs.length (fun j => cs.getD j 0) U := by
  obtain ⟨A, K1, K2, K3, K4, K5, K6⟩ := K
  have hcod := hc.cod (by omega) K3 K5
  obtain ⟨D, fV, fC, hB, F1, F2, g1, g2, -, -⟩ := strObj wi al E V C
  exact ⟨A, ⟨_, hB.2.2.1, D, hB.1, rfl, by cases q : D.vm <;> first | rfl | exact absurd q (hB.2.1.2 _)⟩, Has.of hB F1 g1, Has.of hB F2 g2, ⟨K1.1, State.isArrayOf_alike al K1.2.1, K1.2.2, by rcases hcod with ⟨-, q, -⟩ | ⟨-, q, -⟩ <;> omega⟩, hcod, fun j hj => by
    have e : cs.getD j 0 = cs[j] := by simp [List.getD_eq_getElem?_getD, hj]
    show ¬ cs.getD j 0 < 0 ∧ ¬ 65535 < cs.getD j 0
    rw [e]; exact hb _ (List.getElem_mem _)⟩
theorem same_list (cs ds : List Int32) : SameT cs.length (fun j => cs.getD j 0) ds.length (fun j => ds.getD j 0) ↔ cs = ds := by
  constructor
  · rintro ⟨e, q⟩
    refine List.ext_getElem e fun j h1 h2 => ?_
    have := q j h1
    simpa [List.getD_eq_getElem?_getD, h1, h2] using this
  · rintro rfl
    exact ⟨rfl, fun _ _ => rfl⟩
/-- **equals(Object) OF TWO SUCH STRINGS**: 1 just where the chars are the same -/
theorem eqW {p : Program} {l : Launch} {e : Env} {R : Room} {s : State} {args : Array Value} {below : List Frame} {len W : Nat} {Z : State} {a0 : Array Value} {h : Heap} (hZ : Z.Warmed39 s.vm) (hw : ∀ d ∈ wordsEq, d.before a0 Z = true) {kI : Nat} (wi : (Jvm.Cond.instantiable ST kI).before a0 Z = true)
    {x t : Addr} {kb : ClassId} {cs : List Int32} {cd N2 : Int32} {vs : List Value} (E : RoadKit.Exa Z h x ST) (V : RoadKit.Fld Z h x ST "value" "[B" (.ref t)) (C : RoadKit.Fld Z h x ST "coder" "B" (.int cd)) (K : RoadKit.Arv Z h t kb .byte N2 vs (.int 0)) (hc : CodA cs cd N2 vs) (hb : ∀ c ∈ cs, ¬ c < 0 ∧ ¬ (65535 : Int32) < c) (l2 : cs.length ≤ 4000)
    {y t' : Addr} {kb' : ClassId} {ds : List Int32} {cd' N2' : Int32} {vs' : List Value} (E' : RoadKit.Exa Z h y ST) (V' : RoadKit.Fld Z h y ST "value" "[B" (.ref t')) (C' : RoadKit.Fld Z h y ST "coder" "B" (.int cd')) (K' : RoadKit.Arv Z h t' kb' .byte N2' vs' (.int 0)) (hc' : CodA ds cd' N2' vs') (hb' : ∀ c ∈ ds, ¬ c < 0 ∧ ¬ (65535 : Int32) < c) (l2' : ds.length ≤ 4000)
    {z : Int32} (S : RoadKit.Sta Z h ST "COMPACT_STRINGS" "Z" (.int z)) (hz : ¬ z = 0) (hfr : 2 ≤ R.frames) (hlo : W + 28 ≤ R.locals) :
    Back l R p e below s args (⟨"java/lang/String", "equals", "(Ljava/lang/Object;)Z"⟩ : MethodName) len W (fun P a => a = #[.ref x, .ref y] ∧ P.U.heap = h ∧ P.cells + 0 ≤ R.cells ∧ P.slots + 0 ≤ R.slots)
      (fun P _ v B => ∃ L, (((v = some (.int 1) ∧ cs = ds) ∨ (v = some (.int 0) ∧ ¬ cs = ds)) ∧ L = [] ∧ B.U.heap = h) ∧ B.locs = P.locs ++ L ∧ B.cells = P.cells + 0 ∧ B.slots = P.slots + 0) := by
  intro m meth c P g ig mk a X hg hsize hdg hW hn hp'
  obtain ⟨rfl, rfl, r1, r2⟩ := hp'
  have al : Z.vm.Alike P.U.vm := hZ.alike.trans X.warmed.alike
  obtain ⟨A, hx⟩ := txt_of wi al E V C K hc hb l2
  obtain ⟨A', hy⟩ := txt_of wi al E' V' C' K' hc' hb' l2'
  obtain ⟨v, B, X', ⟨⟨w, hv, hh, hq⟩, hl, hk, hs⟩, st⟩ := SEq.pays x t A cd cs.length (fun j => cs.getD j 0) y t' A' cd' ds.length (fun j => ds.getD j 0) z (tabEq_of (movedEq hZ hw)) hfr hlo m meth c P g ig mk _ X hg hsize hdg hW hn ⟨r1, r2, rfl, hx, hy, sta_is al S, hz⟩
  refine ⟨v, B, X', ⟨[], ⟨?_, rfl, hh⟩, hl, hk, hs⟩, st⟩
  rcases hq with ⟨rfl, q⟩ | ⟨rfl, q⟩
  · exact Or.inl ⟨hv, (same_list cs ds).mp q⟩
  · exact Or.inr ⟨hv, fun e => q ((same_list cs ds).mpr e)⟩
end StrChars.Road
namespace StrChars.Road
open Jvm Sem ClassFile Op Lib Jvm.Stand Jvm.Free Jvm.Free.XT
open Jvm.Lib.Cold (StaticIs)
/-- what backV says of its String, as the contracts of this text ask it: cs's low bytes, coder 0 -/
theorem codOf {cs : List Int32} {n : Nat} (hn : cs.length = n) (hb : ∀ c ∈ cs, ¬ 255 < c) : CodA cs 0 (Int32.ofNat n) ((cs.map lo8).map Value.int) := Or.inl ⟨rfl, by rw [hn], by simp [List.map_map, Function.comp_def], hb⟩
end StrChars.Road
end Jvm.Pilot.@@N@@

namespace Jvm.Pilot.@@N@@
open Jvm Jvm.ClassFile Sem Op Lib Jvm.Free Jvm.Stand Jvm.LawKit Jvm.RoadKit Bundle Jvm.Pilot.@@N@@.Jvm.D
/-- x is a Latin-1 String of the chars cs, its bytes in the array t -/
def Str (Z : State) (h : Heap) (x t : Addr) (k : ClassId) (cs : List Int32) : Prop := Exa Z h x "java/lang/String" ∧ Fld Z h x "java/lang/String" "value" "[B" (.ref t) ∧ Fld Z h x "java/lang/String" "coder" "B" (.int 0) ∧ Arv Z h t k .byte (Int32.ofNat cs.length) ((cs.map fun c => c.toInt8.toInt32).map Value.int) (.int 0) ∧ (∀ c ∈ cs, ¬ c < 0 ∧ ¬ (255 : Int32) < c) ∧ cs.length ≤ 4000
theorem Str.ext {Z : State} {h h' : Heap} {x t : Addr} {k : ClassId} {cs : List Int32} (S : Str Z h x t k cs) (E : Ext h h') : Str Z h' x t k cs := ⟨S.1.ext E, S.2.1.ext E, S.2.2.1.ext E, S.2.2.2.1.ext E, S.2.2.2.2⟩
theorem Str.keep {Z : State} {h h' : Heap} {x t : Addr} {k : ClassId} {cs : List Int32} {ws : List Addr} (S : Str Z h x t k cs) (K : Keep h h' ws) (q : x ∉ ws) (r : t ∉ ws) : Str Z h' x t k cs := ⟨S.1.keep K, S.2.1.keep K q, S.2.2.1.keep K q, S.2.2.2.1.keep K r, S.2.2.2.2⟩
theorem Str.other {Z : State} {h h' : Heap} {x t a : Addr} {k : ClassId} {cs : List Int32} {sl : Nat} {v : Value} (S : Str Z h x t k cs) (W : Wr h h' a sl v) (q : x ≠ a) (r : t ≠ a) : Str Z h' x t k cs := ⟨S.1.wr W, S.2.1.other W (Or.inl q), S.2.2.1.other W (Or.inl q), S.2.2.2.1.other W r, S.2.2.2.2⟩
theorem Str.ltT {Z : State} {h : Heap} {x t : Addr} {k : ClassId} {cs : List Int32} (S : Str Z h x t k cs) : t < h.size := S.2.2.2.1.lt
theorem own_c0 {P : Int32 → Prop} : ∀ c ∈ ([] : List Int32), P c := fun _ q => nomatch q
theorem own_cS {P : Int32 → Prop} {y : Int32} {L : List Int32} (q : P y) (r : ∀ c ∈ L, P c) : ∀ c ∈ y :: L, P c := fun c z => (List.mem_cons.mp z).elim (fun u => u ▸ q) (r c)
theorem own_lit (x : Int32) (k : Nat) (hk : k < 2 ^ 31) : (x &&& (255 : Int32)) = Int32.ofNat (x &&& 255).toBitVec.toNat := by
  apply Int32.toBitVec_inj.mp
  show _ = BitVec.ofNat 32 _
  rw [BitVec.ofNat_toNat]; simp
theorem own_lt256 (x : Int32) : (x &&& 255).toBitVec.toNat < 256 := by
  simp only [Int32.toBitVec_and, BitVec.toNat_and]
  exact Nat.lt_succ_of_le Nat.and_le_right
theorem own_and255 (x : Int32) : ¬ nar .char ((x &&& (255 : Int32)).toUInt32.toUInt16.toUInt32.toInt32) < 0 ∧ ¬ (255 : Int32) < nar .char ((x &&& (255 : Int32)).toUInt32.toUInt16.toUInt32.toInt32) := by
  have t : ∀ k : Fin 256, ¬ nar .char ((Int32.ofNat k.val).toUInt32.toUInt16.toUInt32.toInt32) < 0 ∧ ¬ (255 : Int32) < nar .char ((Int32.ofNat k.val).toUInt32.toUInt16.toUInt32.toInt32) := by decide +kernel
  rw [own_lit x 0 (by decide)]
  exact t ⟨_, own_lt256 x⟩
theorem own_i2c255 (x : Int32) : nar .char ((x &&& (255 : Int32)).toUInt32.toUInt16.toUInt32.toInt32) = (x &&& (255 : Int32)) := by
  have t : ∀ k : Fin 256, nar .char ((Int32.ofNat k.val).toUInt32.toUInt16.toUInt32.toInt32) = Int32.ofNat k.val := by decide +kernel
  rw [own_lit x 0 (by decide)]
  exact t ⟨_, own_lt256 x⟩
theorem own_i2cr (x : Int32) : ¬ ((x &&& (255 : Int32)).toUInt32.toUInt16.toUInt32.toInt32) < 0 ∧ ¬ (255 : Int32) < ((x &&& (255 : Int32)).toUInt32.toUInt16.toUInt32.toInt32) := by
  have t : ∀ k : Fin 256, ¬ ((Int32.ofNat k.val).toUInt32.toUInt16.toUInt32.toInt32) < 0 ∧ ¬ (255 : Int32) < ((Int32.ofNat k.val).toUInt32.toUInt16.toUInt32.toInt32) := by decide +kernel
  rw [own_lit x 0 (by decide)]
  exact t ⟨_, own_lt256 x⟩
theorem own_rng {c : Int32} (h : ¬ c < 0 ∧ ¬ (255 : Int32) < c) : ∃ k : Fin 256, c = Int32.ofNat k.val := by
  obtain ⟨h0, h1⟩ := h
  rw [Int32.lt_iff_toInt_lt] at h0 h1
  have e1 : (255 : Int32).toInt = 255 := rfl
  have e2 : (0 : Int32).toInt = 0 := rfl
  refine ⟨⟨c.toInt.toNat, by omega⟩, ?_⟩
  apply Int32.toInt_inj.mp
  show c.toInt = (Int32.ofNat c.toInt.toNat).toInt
  rw [Int32.toInt_ofNat_of_lt (by omega)]
  omega
theorem own_narc {c : Int32} (h : ¬ c < 0 ∧ ¬ (255 : Int32) < c) : nar .char c = c := by
  have t : ∀ k : Fin 256, nar .char (Int32.ofNat k.val) = Int32.ofNat k.val := by decide +kernel
  obtain ⟨k, rfl⟩ := own_rng h
  exact t k
theorem own_fitsc {c : Int32} (h : ¬ c < 0 ∧ ¬ (255 : Int32) < c) : fits .char (.int c) = true := by
  have t : ∀ k : Fin 256, fits .char (.int (Int32.ofNat k.val)) = true := by decide +kernel
  obtain ⟨k, rfl⟩ := own_rng h
  exact t k
theorem own_up {cs : List Int32} (h : ∀ c ∈ cs, ¬ c < 0 ∧ ¬ (255 : Int32) < c) : ∀ c ∈ cs, ¬ c < 0 ∧ ¬ (65535 : Int32) < c := fun c hc => ⟨(h c hc).1, fun q => (h c hc).2 (by rw [Int32.lt_iff_toInt_lt] at q ⊢; have e1 : (65535 : Int32).toInt = 65535 := rfl; have e2 : (255 : Int32).toInt = 255 := rfl; omega)⟩
theorem own_hws {Z : State} {a0 : Array Value} (hw : ∀ d ∈ tables_1, d.before a0 Z = true) : ∀ d ∈ StrChars.Road.words, d.before a0 Z = true := fun d hd => hw d ((by decide +kernel : ∀ d ∈ StrChars.Road.words, d ∈ tables_1) d hd)
theorem own_ite {v : Option Value} {cs ds : List Int32} (h : (v = some (.int 1) ∧ cs = ds) ∨ (v = some (.int 0) ∧ ¬ cs = ds)) : v = some (.int (if cs = ds then (1 : Int32) else 0)) := by rcases h with ⟨rfl, h⟩ | ⟨rfl, h⟩ <;> simp [h]
theorem own_heq {Z : State} {a0 : Array Value} (hw : ∀ d ∈ tables_1, d.before a0 Z = true) : ∀ d ∈ StrChars.Road.wordsEq, d.before a0 Z = true := fun d hd => hw d ((by decide +kernel : ∀ d ∈ StrChars.Road.wordsEq, d ∈ tables_1) d hd)
theorem own_cod {Z : State} {h : Heap} {x t : Addr} {k : ClassId} {cs : List Int32} (S : Str Z h x t k cs) : StrChars.Road.CodA cs 0 (Int32.ofNat cs.length) ((cs.map fun c => c.toInt8.toInt32).map Value.int) := StrChars.Road.codOf rfl fun c hc => (S.2.2.2.2.1 c hc).2
theorem own_hln {Z : State} {a0 : Array Value} (hw : ∀ d ∈ tables_1, d.before a0 Z = true) : ∀ d ∈ StrChars.Road.wordsLen, d.before a0 Z = true := fun d hd => hw d ((by decide +kernel : ∀ d ∈ StrChars.Road.wordsLen, d ∈ tables_1) d hd)
end Jvm.Pilot.@@N@@
namespace Jvm.Pilot.@@N@@
open Jvm Jvm.ClassFile Sem Op Lib Jvm.Free Jvm.Stand Jvm.LawKit Jvm.RoadKit Bundle Jvm.Pilot.@@N@@.Jvm.D
theorem d1_0 : decode method_2_code 0 = .ok (.iload_n 0, 1) := by decide +kernel
theorem d1_1 : decode method_2_code 1 = .ok (.bipush 8, 2) := by decide +kernel
theorem d1_3 : decode method_2_code 3 = .ok (.iushr, 1) := by decide +kernel
theorem d1_4 : decode method_2_code 4 = .ok (.iconst 3, 1) := by decide +kernel
theorem d1_5 : decode method_2_code 5 = .ok (.iand, 1) := by decide +kernel
theorem d1_6 : decode method_2_code 6 = .ok (.ifCond .ne 8, 3) := by decide +kernel
theorem d1_9 : decode method_2_code 9 = .ok (.bipush 58, 2) := by decide +kernel
theorem d1_11 : decode method_2_code 11 = .ok (.goto 9, 3) := by decide +kernel
theorem d1_14 : decode method_2_code 14 = .ok (.iload_n 0, 1) := by decide +kernel
theorem d1_15 : decode method_2_code 15 = .ok (.sipush 255, 3) := by decide +kernel
theorem d1_18 : decode method_2_code 18 = .ok (.iand, 1) := by decide +kernel
theorem d1_19 : decode method_2_code 19 = .ok (.i2c, 1) := by decide +kernel
theorem d1_20 : decode method_2_code 20 = .ok (.ireturn, 1) := by decide +kernel
theorem d2_0 : decode method_3_code 0 = .ok (.iload_n 0, 1) := by decide +kernel
theorem d2_1 : decode method_3_code 1 = .ok (.ifCond .gt 14, 3) := by decide +kernel
theorem d2_4 : decode method_3_code 4 = .ok (.new 7, 3) := by decide +kernel
theorem d2_7 : decode method_3_code 7 = .ok (.dup, 1) := by decide +kernel
theorem d2_8 : decode method_3_code 8 = .ok (.iconst 0, 1) := by decide +kernel
theorem d2_9 : decode method_3_code 9 = .ok (.newarray .char, 2) := by decide +kernel
theorem d2_11 : decode method_3_code 11 = .ok (.invokespecial 9, 3) := by decide +kernel
theorem d2_14 : decode method_3_code 14 = .ok (.areturn, 1) := by decide +kernel
theorem d2_15 : decode method_3_code 15 = .ok (.iload_n 0, 1) := by decide +kernel
theorem d2_16 : decode method_3_code 16 = .ok (.iconst 1, 1) := by decide +kernel
theorem d2_17 : decode method_3_code 17 = .ok (.if_icmp .ne 20, 3) := by decide +kernel
theorem d2_20 : decode method_3_code 20 = .ok (.new 7, 3) := by decide +kernel
theorem d2_23 : decode method_3_code 23 = .ok (.dup, 1) := by decide +kernel
theorem d2_24 : decode method_3_code 24 = .ok (.iconst 1, 1) := by decide +kernel
theorem d2_25 : decode method_3_code 25 = .ok (.newarray .char, 2) := by decide +kernel
theorem d2_27 : decode method_3_code 27 = .ok (.dup, 1) := by decide +kernel
theorem d2_28 : decode method_3_code 28 = .ok (.iconst 0, 1) := by decide +kernel
theorem d2_29 : decode method_3_code 29 = .ok (.aload_n 1, 1) := by decide +kernel
theorem d2_30 : decode method_3_code 30 = .ok (.iload_n 2, 1) := by decide +kernel
theorem d2_31 : decode method_3_code 31 = .ok (.caload, 1) := by decide +kernel
theorem d2_32 : decode method_3_code 32 = .ok (.castore, 1) := by decide +kernel
theorem d2_33 : decode method_3_code 33 = .ok (.invokespecial 9, 3) := by decide +kernel
theorem d2_36 : decode method_3_code 36 = .ok (.areturn, 1) := by decide +kernel
theorem d2_37 : decode method_3_code 37 = .ok (.iload_n 0, 1) := by decide +kernel
theorem d2_38 : decode method_3_code 38 = .ok (.iconst 2, 1) := by decide +kernel
theorem d2_39 : decode method_3_code 39 = .ok (.if_icmp .ne 28, 3) := by decide +kernel
theorem d2_42 : decode method_3_code 42 = .ok (.new 7, 3) := by decide +kernel
theorem d2_45 : decode method_3_code 45 = .ok (.dup, 1) := by decide +kernel
theorem d2_46 : decode method_3_code 46 = .ok (.iconst 2, 1) := by decide +kernel
theorem d2_47 : decode method_3_code 47 = .ok (.newarray .char, 2) := by decide +kernel
theorem d2_49 : decode method_3_code 49 = .ok (.dup, 1) := by decide +kernel
theorem d2_50 : decode method_3_code 50 = .ok (.iconst 0, 1) := by decide +kernel
theorem d2_51 : decode method_3_code 51 = .ok (.aload_n 1, 1) := by decide +kernel
theorem d2_52 : decode method_3_code 52 = .ok (.iload_n 2, 1) := by decide +kernel
theorem d2_53 : decode method_3_code 53 = .ok (.caload, 1) := by decide +kernel
theorem d2_54 : decode method_3_code 54 = .ok (.castore, 1) := by decide +kernel
theorem d2_55 : decode method_3_code 55 = .ok (.dup, 1) := by decide +kernel
theorem d2_56 : decode method_3_code 56 = .ok (.iconst 1, 1) := by decide +kernel
theorem d2_57 : decode method_3_code 57 = .ok (.aload_n 1, 1) := by decide +kernel
theorem d2_58 : decode method_3_code 58 = .ok (.iload_n 2, 1) := by decide +kernel
theorem d2_59 : decode method_3_code 59 = .ok (.iconst 1, 1) := by decide +kernel
theorem d2_60 : decode method_3_code 60 = .ok (.iadd, 1) := by decide +kernel
theorem d2_61 : decode method_3_code 61 = .ok (.caload, 1) := by decide +kernel
theorem d2_62 : decode method_3_code 62 = .ok (.castore, 1) := by decide +kernel
theorem d2_63 : decode method_3_code 63 = .ok (.invokespecial 9, 3) := by decide +kernel
theorem d2_66 : decode method_3_code 66 = .ok (.areturn, 1) := by decide +kernel
theorem d2_67 : decode method_3_code 67 = .ok (.iload_n 0, 1) := by decide +kernel
theorem d2_68 : decode method_3_code 68 = .ok (.iconst 3, 1) := by decide +kernel
theorem d2_69 : decode method_3_code 69 = .ok (.if_icmp .ne 36, 3) := by decide +kernel
theorem d2_72 : decode method_3_code 72 = .ok (.new 7, 3) := by decide +kernel
theorem d2_75 : decode method_3_code 75 = .ok (.dup, 1) := by decide +kernel
theorem d2_76 : decode method_3_code 76 = .ok (.iconst 3, 1) := by decide +kernel
theorem d2_77 : decode method_3_code 77 = .ok (.newarray .char, 2) := by decide +kernel
theorem d2_79 : decode method_3_code 79 = .ok (.dup, 1) := by decide +kernel
theorem d2_80 : decode method_3_code 80 = .ok (.iconst 0, 1) := by decide +kernel
theorem d2_81 : decode method_3_code 81 = .ok (.aload_n 1, 1) := by decide +kernel
theorem d2_82 : decode method_3_code 82 = .ok (.iload_n 2, 1) := by decide +kernel
theorem d2_83 : decode method_3_code 83 = .ok (.caload, 1) := by decide +kernel
theorem d2_84 : decode method_3_code 84 = .ok (.castore, 1) := by decide +kernel
theorem d2_85 : decode method_3_code 85 = .ok (.dup, 1) := by decide +kernel
theorem d2_86 : decode method_3_code 86 = .ok (.iconst 1, 1) := by decide +kernel
theorem d2_87 : decode method_3_code 87 = .ok (.aload_n 1, 1) := by decide +kernel
theorem d2_88 : decode method_3_code 88 = .ok (.iload_n 2, 1) := by decide +kernel
theorem d2_89 : decode method_3_code 89 = .ok (.iconst 1, 1) := by decide +kernel
theorem d2_90 : decode method_3_code 90 = .ok (.iadd, 1) := by decide +kernel
theorem d2_91 : decode method_3_code 91 = .ok (.caload, 1) := by decide +kernel
theorem d2_92 : decode method_3_code 92 = .ok (.castore, 1) := by decide +kernel
theorem d2_93 : decode method_3_code 93 = .ok (.dup, 1) := by decide +kernel
theorem d2_94 : decode method_3_code 94 = .ok (.iconst 2, 1) := by decide +kernel
theorem d2_95 : decode method_3_code 95 = .ok (.aload_n 1, 1) := by decide +kernel
theorem d2_96 : decode method_3_code 96 = .ok (.iload_n 2, 1) := by decide +kernel
theorem d2_97 : decode method_3_code 97 = .ok (.iconst 2, 1) := by decide +kernel
theorem d2_98 : decode method_3_code 98 = .ok (.iadd, 1) := by decide +kernel
theorem d2_99 : decode method_3_code 99 = .ok (.caload, 1) := by decide +kernel
theorem d2_100 : decode method_3_code 100 = .ok (.castore, 1) := by decide +kernel
theorem d2_101 : decode method_3_code 101 = .ok (.invokespecial 9, 3) := by decide +kernel
theorem d2_104 : decode method_3_code 104 = .ok (.areturn, 1) := by decide +kernel
theorem d2_105 : decode method_3_code 105 = .ok (.new 7, 3) := by decide +kernel
theorem d2_108 : decode method_3_code 108 = .ok (.dup, 1) := by decide +kernel
theorem d2_109 : decode method_3_code 109 = .ok (.iconst 4, 1) := by decide +kernel
theorem d2_110 : decode method_3_code 110 = .ok (.newarray .char, 2) := by decide +kernel
theorem d2_112 : decode method_3_code 112 = .ok (.dup, 1) := by decide +kernel
theorem d2_113 : decode method_3_code 113 = .ok (.iconst 0, 1) := by decide +kernel
theorem d2_114 : decode method_3_code 114 = .ok (.aload_n 1, 1) := by decide +kernel
theorem d2_115 : decode method_3_code 115 = .ok (.iload_n 2, 1) := by decide +kernel
theorem d2_116 : decode method_3_code 116 = .ok (.caload, 1) := by decide +kernel
theorem d2_117 : decode method_3_code 117 = .ok (.castore, 1) := by decide +kernel
theorem d2_118 : decode method_3_code 118 = .ok (.dup, 1) := by decide +kernel
theorem d2_119 : decode method_3_code 119 = .ok (.iconst 1, 1) := by decide +kernel
theorem d2_120 : decode method_3_code 120 = .ok (.aload_n 1, 1) := by decide +kernel
theorem d2_121 : decode method_3_code 121 = .ok (.iload_n 2, 1) := by decide +kernel
theorem d2_122 : decode method_3_code 122 = .ok (.iconst 1, 1) := by decide +kernel
theorem d2_123 : decode method_3_code 123 = .ok (.iadd, 1) := by decide +kernel
theorem d2_124 : decode method_3_code 124 = .ok (.caload, 1) := by decide +kernel
theorem d2_125 : decode method_3_code 125 = .ok (.castore, 1) := by decide +kernel
theorem d2_126 : decode method_3_code 126 = .ok (.dup, 1) := by decide +kernel
theorem d2_127 : decode method_3_code 127 = .ok (.iconst 2, 1) := by decide +kernel
theorem d2_128 : decode method_3_code 128 = .ok (.aload_n 1, 1) := by decide +kernel
theorem d2_129 : decode method_3_code 129 = .ok (.iload_n 2, 1) := by decide +kernel
theorem d2_130 : decode method_3_code 130 = .ok (.iconst 2, 1) := by decide +kernel
theorem d2_131 : decode method_3_code 131 = .ok (.iadd, 1) := by decide +kernel
theorem d2_132 : decode method_3_code 132 = .ok (.caload, 1) := by decide +kernel
theorem d2_133 : decode method_3_code 133 = .ok (.castore, 1) := by decide +kernel
theorem d2_134 : decode method_3_code 134 = .ok (.dup, 1) := by decide +kernel
theorem d2_135 : decode method_3_code 135 = .ok (.iconst 3, 1) := by decide +kernel
theorem d2_136 : decode method_3_code 136 = .ok (.aload_n 1, 1) := by decide +kernel
theorem d2_137 : decode method_3_code 137 = .ok (.iload_n 2, 1) := by decide +kernel
theorem d2_138 : decode method_3_code 138 = .ok (.iconst 3, 1) := by decide +kernel
theorem d2_139 : decode method_3_code 139 = .ok (.iadd, 1) := by decide +kernel
theorem d2_140 : decode method_3_code 140 = .ok (.caload, 1) := by decide +kernel
theorem d2_141 : decode method_3_code 141 = .ok (.castore, 1) := by decide +kernel
theorem d2_142 : decode method_3_code 142 = .ok (.invokespecial 9, 3) := by decide +kernel
theorem d2_145 : decode method_3_code 145 = .ok (.areturn, 1) := by decide +kernel
theorem d3_0 : decode jdk_42_method_3_code 0 = .ok (.aload_n 0, 1) := by decide +kernel
theorem d3_1 : decode jdk_42_method_3_code 1 = .ok (.aload_n 1, 1) := by decide +kernel
theorem d3_2 : decode jdk_42_method_3_code 2 = .ok (.iconst 0, 1) := by decide +kernel
theorem d3_3 : decode jdk_42_method_3_code 3 = .ok (.aload_n 1, 1) := by decide +kernel
theorem d3_4 : decode jdk_42_method_3_code 4 = .ok (.arraylength, 1) := by decide +kernel
theorem d3_5 : decode jdk_42_method_3_code 5 = .ok (.aconst_null, 1) := by decide +kernel
theorem d3_6 : decode jdk_42_method_3_code 6 = .ok (.invokespecial 27, 3) := by decide +kernel
theorem d3_9 : decode jdk_42_method_3_code 9 = .ok (.return_, 1) := by decide +kernel
theorem d4_0 : decode jdk_42_method_149_code 0 = .ok (.aload_n 0, 1) := by decide +kernel
theorem d4_1 : decode jdk_42_method_149_code 1 = .ok (.invokespecial 1, 3) := by decide +kernel
theorem d4_4 : decode jdk_42_method_149_code 4 = .ok (.iload_n 3, 1) := by decide +kernel
theorem d4_5 : decode jdk_42_method_149_code 5 = .ok (.ifCond .ne 22, 3) := by decide +kernel
theorem d4_8 : decode jdk_42_method_149_code 8 = .ok (.aload_n 0, 1) := by decide +kernel
theorem d4_9 : decode jdk_42_method_149_code 9 = .ok (.ldc 7, 2) := by decide +kernel
theorem d4_11 : decode jdk_42_method_149_code 11 = .ok (.getfield 9, 3) := by decide +kernel
theorem d4_14 : decode jdk_42_method_149_code 14 = .ok (.putfield 9, 3) := by decide +kernel
theorem d4_17 : decode jdk_42_method_149_code 17 = .ok (.aload_n 0, 1) := by decide +kernel
theorem d4_18 : decode jdk_42_method_149_code 18 = .ok (.ldc 7, 2) := by decide +kernel
theorem d4_20 : decode jdk_42_method_149_code 20 = .ok (.getfield 15, 3) := by decide +kernel
theorem d4_23 : decode jdk_42_method_149_code 23 = .ok (.putfield 15, 3) := by decide +kernel
theorem d4_26 : decode jdk_42_method_149_code 26 = .ok (.return_, 1) := by decide +kernel
theorem d6_0 : decode prog_18_method_2_code 0 = .ok (.aload_n 0, 1) := by decide +kernel
theorem d6_1 : decode prog_18_method_2_code 1 = .ok (.bipush 58, 2) := by decide +kernel
theorem d6_3 : decode prog_18_method_2_code 3 = .ok (.invokevirtual 16, 3) := by decide +kernel
theorem d6_6 : decode prog_18_method_2_code 6 = .ok (.istore_n 1, 1) := by decide +kernel
theorem d6_7 : decode prog_18_method_2_code 7 = .ok (.iload_n 1, 1) := by decide +kernel
theorem d6_8 : decode prog_18_method_2_code 8 = .ok (.ifCond .ge 7, 3) := by decide +kernel
theorem d6_11 : decode prog_18_method_2_code 11 = .ok (.aload_n 0, 1) := by decide +kernel
theorem d6_12 : decode prog_18_method_2_code 12 = .ok (.goto 9, 3) := by decide +kernel
theorem d6_15 : decode prog_18_method_2_code 15 = .ok (.aload_n 0, 1) := by decide +kernel
theorem d6_16 : decode prog_18_method_2_code 16 = .ok (.iconst 0, 1) := by decide +kernel
theorem d6_17 : decode prog_18_method_2_code 17 = .ok (.iload_n 1, 1) := by decide +kernel
theorem d6_18 : decode prog_18_method_2_code 18 = .ok (.invokevirtual 22, 3) := by decide +kernel
theorem d6_21 : decode prog_18_method_2_code 21 = .ok (.astore_n 2, 1) := by decide +kernel
theorem d6_22 : decode prog_18_method_2_code 22 = .ok (.iload_n 1, 1) := by decide +kernel
theorem d6_23 : decode prog_18_method_2_code 23 = .ok (.ifCond .ge 7, 3) := by decide +kernel
theorem d6_26 : decode prog_18_method_2_code 26 = .ok (.aconst_null, 1) := by decide +kernel
theorem d6_27 : decode prog_18_method_2_code 27 = .ok (.goto 10, 3) := by decide +kernel
theorem d6_30 : decode prog_18_method_2_code 30 = .ok (.aload_n 0, 1) := by decide +kernel
theorem d6_31 : decode prog_18_method_2_code 31 = .ok (.iload_n 1, 1) := by decide +kernel
theorem d6_32 : decode prog_18_method_2_code 32 = .ok (.iconst 1, 1) := by decide +kernel
theorem d6_33 : decode prog_18_method_2_code 33 = .ok (.iadd, 1) := by decide +kernel
theorem d6_34 : decode prog_18_method_2_code 34 = .ok (.invokevirtual 26, 3) := by decide +kernel
theorem d6_37 : decode prog_18_method_2_code 37 = .ok (.astore_n 3, 1) := by decide +kernel
theorem d6_38 : decode prog_18_method_2_code 38 = .ok (.new 8, 3) := by decide +kernel
theorem d6_41 : decode prog_18_method_2_code 41 = .ok (.dup, 1) := by decide +kernel
theorem d6_42 : decode prog_18_method_2_code 42 = .ok (.aload_n 2, 1) := by decide +kernel
theorem d6_43 : decode prog_18_method_2_code 43 = .ok (.aload_n 3, 1) := by decide +kernel
theorem d6_44 : decode prog_18_method_2_code 44 = .ok (.invokespecial 29, 3) := by decide +kernel
theorem d6_47 : decode prog_18_method_2_code 47 = .ok (.areturn, 1) := by decide +kernel
theorem d7_0 : decode jdk_42_method_79_code 0 = .ok (.aload_n 0, 1) := by decide +kernel
theorem d7_1 : decode jdk_42_method_79_code 1 = .ok (.iload_n 1, 1) := by decide +kernel
theorem d7_2 : decode jdk_42_method_79_code 2 = .ok (.iconst 0, 1) := by decide +kernel
theorem d7_3 : decode jdk_42_method_79_code 3 = .ok (.invokevirtual 633, 3) := by decide +kernel
theorem d7_6 : decode jdk_42_method_79_code 6 = .ok (.ireturn, 1) := by decide +kernel
theorem d8_0 : decode jdk_42_method_80_code 0 = .ok (.aload_n 0, 1) := by decide +kernel
theorem d8_1 : decode jdk_42_method_80_code 1 = .ok (.invokevirtual 492, 3) := by decide +kernel
theorem d8_4 : decode jdk_42_method_80_code 4 = .ok (.ifCond .eq 19, 3) := by decide +kernel
theorem d8_7 : decode jdk_42_method_80_code 7 = .ok (.aload_n 0, 1) := by decide +kernel
theorem d8_8 : decode jdk_42_method_80_code 8 = .ok (.getfield 9, 3) := by decide +kernel
theorem d8_11 : decode jdk_42_method_80_code 11 = .ok (.iload_n 1, 1) := by decide +kernel
theorem d8_12 : decode jdk_42_method_80_code 12 = .ok (.iload_n 2, 1) := by decide +kernel
theorem d8_13 : decode jdk_42_method_80_code 13 = .ok (.aload_n 0, 1) := by decide +kernel
theorem d8_14 : decode jdk_42_method_80_code 14 = .ok (.invokevirtual 505, 3) := by decide +kernel
theorem d8_17 : decode jdk_42_method_80_code 17 = .ok (.invokestatic 637, 3) := by decide +kernel
theorem d8_20 : decode jdk_42_method_80_code 20 = .ok (.goto 16, 3) := by decide +kernel
theorem d8_36 : decode jdk_42_method_80_code 36 = .ok (.ireturn, 1) := by decide +kernel
theorem d9_0 : decode jdk_42_method_154_code 0 = .ok (.getstatic 38, 3) := by decide +kernel
theorem d9_3 : decode jdk_42_method_154_code 3 = .ok (.ifCond .eq 14, 3) := by decide +kernel
theorem d9_6 : decode jdk_42_method_154_code 6 = .ok (.aload_n 0, 1) := by decide +kernel
theorem d9_7 : decode jdk_42_method_154_code 7 = .ok (.getfield 15, 3) := by decide +kernel
theorem d9_10 : decode jdk_42_method_154_code 10 = .ok (.ifCond .ne 7, 3) := by decide +kernel
theorem d9_13 : decode jdk_42_method_154_code 13 = .ok (.iconst 1, 1) := by decide +kernel
theorem d9_14 : decode jdk_42_method_154_code 14 = .ok (.goto 4, 3) := by decide +kernel
theorem d9_18 : decode jdk_42_method_154_code 18 = .ok (.ireturn, 1) := by decide +kernel
theorem d12_0 : decode jdk_43_method_22_code 0 = .ok (.iload_n 1, 1) := by decide +kernel
theorem d12_1 : decode jdk_43_method_22_code 1 = .ok (.invokestatic 88, 3) := by decide +kernel
theorem d12_4 : decode jdk_43_method_22_code 4 = .ok (.ifCond .ne 5, 3) := by decide +kernel
theorem d12_9 : decode jdk_43_method_22_code 9 = .ok (.iload_n 2, 1) := by decide +kernel
theorem d12_10 : decode jdk_43_method_22_code 10 = .ok (.iconst 0, 1) := by decide +kernel
theorem d12_11 : decode jdk_43_method_22_code 11 = .ok (.invokestatic 92, 3) := by decide +kernel
theorem d12_14 : decode jdk_43_method_22_code 14 = .ok (.istore_n 2, 1) := by decide +kernel
theorem d12_15 : decode jdk_43_method_22_code 15 = .ok (.iload_n 3, 1) := by decide +kernel
theorem d12_16 : decode jdk_43_method_22_code 16 = .ok (.aload_n 0, 1) := by decide +kernel
theorem d12_17 : decode jdk_43_method_22_code 17 = .ok (.arraylength, 1) := by decide +kernel
theorem d12_18 : decode jdk_43_method_22_code 18 = .ok (.invokestatic 38, 3) := by decide +kernel
theorem d12_21 : decode jdk_43_method_22_code 21 = .ok (.istore_n 3, 1) := by decide +kernel
theorem d12_22 : decode jdk_43_method_22_code 22 = .ok (.iload_n 2, 1) := by decide +kernel
theorem d12_23 : decode jdk_43_method_22_code 23 = .ok (.iload_n 3, 1) := by decide +kernel
theorem d12_24 : decode jdk_43_method_22_code 24 = .ok (.if_icmp .lt 5, 3) := by decide +kernel
theorem d12_27 : decode jdk_43_method_22_code 27 = .ok (.iconst (-1), 1) := by decide +kernel
theorem d12_28 : decode jdk_43_method_22_code 28 = .ok (.ireturn, 1) := by decide +kernel
theorem d12_29 : decode jdk_43_method_22_code 29 = .ok (.aload_n 0, 1) := by decide +kernel
theorem d12_30 : decode jdk_43_method_22_code 30 = .ok (.iload_n 1, 1) := by decide +kernel
theorem d12_31 : decode jdk_43_method_22_code 31 = .ok (.iload_n 2, 1) := by decide +kernel
theorem d12_32 : decode jdk_43_method_22_code 32 = .ok (.iload_n 3, 1) := by decide +kernel
theorem d12_33 : decode jdk_43_method_22_code 33 = .ok (.invokestatic 95, 3) := by decide +kernel
theorem d12_36 : decode jdk_43_method_22_code 36 = .ok (.ireturn, 1) := by decide +kernel
theorem d13_0 : decode jdk_43_method_4_code 0 = .ok (.iload_n 0, 1) := by decide +kernel
theorem d13_1 : decode jdk_43_method_4_code 1 = .ok (.ifCond .lt 14, 3) := by decide +kernel
theorem d13_4 : decode jdk_43_method_4_code 4 = .ok (.iload_n 0, 1) := by decide +kernel
theorem d13_5 : decode jdk_43_method_4_code 5 = .ok (.sipush 255, 3) := by decide +kernel
theorem d13_8 : decode jdk_43_method_4_code 8 = .ok (.if_icmp .gt 7, 3) := by decide +kernel
theorem d13_11 : decode jdk_43_method_4_code 11 = .ok (.iconst 1, 1) := by decide +kernel
theorem d13_12 : decode jdk_43_method_4_code 12 = .ok (.goto 4, 3) := by decide +kernel
theorem d13_16 : decode jdk_43_method_4_code 16 = .ok (.ireturn, 1) := by decide +kernel
theorem d14_0 : decode jdk_29_method_65_code 0 = .ok (.iload_n 0, 1) := by decide +kernel
theorem d14_1 : decode jdk_29_method_65_code 1 = .ok (.iload_n 1, 1) := by decide +kernel
theorem d14_2 : decode jdk_29_method_65_code 2 = .ok (.if_icmp .lt 7, 3) := by decide +kernel
theorem d14_5 : decode jdk_29_method_65_code 5 = .ok (.iload_n 0, 1) := by decide +kernel
theorem d14_6 : decode jdk_29_method_65_code 6 = .ok (.goto 4, 3) := by decide +kernel
theorem d14_10 : decode jdk_29_method_65_code 10 = .ok (.ireturn, 1) := by decide +kernel
theorem d15_0 : decode jdk_29_method_69_code 0 = .ok (.iload_n 0, 1) := by decide +kernel
theorem d15_1 : decode jdk_29_method_69_code 1 = .ok (.iload_n 1, 1) := by decide +kernel
theorem d15_2 : decode jdk_29_method_69_code 2 = .ok (.if_icmp .gt 7, 3) := by decide +kernel
theorem d15_5 : decode jdk_29_method_69_code 5 = .ok (.iload_n 0, 1) := by decide +kernel
theorem d15_6 : decode jdk_29_method_69_code 6 = .ok (.goto 4, 3) := by decide +kernel
theorem d15_9 : decode jdk_29_method_69_code 9 = .ok (.iload_n 1, 1) := by decide +kernel
theorem d15_10 : decode jdk_29_method_69_code 10 = .ok (.ireturn, 1) := by decide +kernel
theorem d16_0 : decode prog_18_method_1_code 0 = .ok (.aload_n 0, 1) := by decide +kernel
theorem d16_1 : decode prog_18_method_1_code 1 = .ok (.invokespecial 1, 3) := by decide +kernel
theorem d16_4 : decode prog_18_method_1_code 4 = .ok (.aload_n 0, 1) := by decide +kernel
theorem d16_5 : decode prog_18_method_1_code 5 = .ok (.aload_n 1, 1) := by decide +kernel
theorem d16_6 : decode prog_18_method_1_code 6 = .ok (.putfield 7, 3) := by decide +kernel
theorem d16_9 : decode prog_18_method_1_code 9 = .ok (.aload_n 0, 1) := by decide +kernel
theorem d16_10 : decode prog_18_method_1_code 10 = .ok (.aload_n 2, 1) := by decide +kernel
theorem d16_11 : decode prog_18_method_1_code 11 = .ok (.putfield 13, 3) := by decide +kernel
theorem d16_14 : decode prog_18_method_1_code 14 = .ok (.return_, 1) := by decide +kernel
theorem d17_0 : decode jdk_30_method_1_code 0 = .ok (.aload_n 0, 1) := by decide +kernel
theorem d17_1 : decode jdk_30_method_1_code 1 = .ok (.invokespecial 1, 3) := by decide +kernel
theorem d17_4 : decode jdk_30_method_1_code 4 = .ok (.return_, 1) := by decide +kernel
theorem d18_0 : decode prog_18_method_6_code 0 = .ok (.aload_n 0, 1) := by decide +kernel
theorem d18_1 : decode prog_18_method_6_code 1 = .ok (.getfield 7, 3) := by decide +kernel
theorem d18_4 : decode prog_18_method_6_code 4 = .ok (.areturn, 1) := by decide +kernel
theorem d19_0 : decode jdk_42_method_66_code 0 = .ok (.aload_n 0, 1) := by decide +kernel
theorem d19_1 : decode jdk_42_method_66_code 1 = .ok (.aload_n 1, 1) := by decide +kernel
theorem d19_2 : decode jdk_42_method_66_code 2 = .ok (.if_acmp .ne 5, 3) := by decide +kernel
theorem d19_5 : decode jdk_42_method_66_code 5 = .ok (.iconst 1, 1) := by decide +kernel
theorem d19_6 : decode jdk_42_method_66_code 6 = .ok (.ireturn, 1) := by decide +kernel
theorem d20_0 : decode prog_18_method_7_code 0 = .ok (.aload_n 0, 1) := by decide +kernel
theorem d20_1 : decode prog_18_method_7_code 1 = .ok (.getfield 13, 3) := by decide +kernel
theorem d20_4 : decode prog_18_method_7_code 4 = .ok (.areturn, 1) := by decide +kernel
theorem d24_0 : decode jdk_43_method_23_code 0 = .ok (.iload_n 1, 1) := by decide +kernel
theorem d24_1 : decode jdk_43_method_23_code 1 = .ok (.i2b, 1) := by decide +kernel
theorem d24_2 : decode jdk_43_method_23_code 2 = .ok (.istore 4, 2) := by decide +kernel
theorem d24_4 : decode jdk_43_method_23_code 4 = .ok (.iload_n 2, 1) := by decide +kernel
theorem d24_5 : decode jdk_43_method_23_code 5 = .ok (.istore 5, 2) := by decide +kernel
theorem d24_7 : decode jdk_43_method_23_code 7 = .ok (.iload 5, 2) := by decide +kernel
theorem d24_9 : decode jdk_43_method_23_code 9 = .ok (.iload_n 3, 1) := by decide +kernel
theorem d24_10 : decode jdk_43_method_23_code 10 = .ok (.if_icmp .ge 21, 3) := by decide +kernel
theorem d24_13 : decode jdk_43_method_23_code 13 = .ok (.aload_n 0, 1) := by decide +kernel
theorem d24_14 : decode jdk_43_method_23_code 14 = .ok (.iload 5, 2) := by decide +kernel
theorem d24_16 : decode jdk_43_method_23_code 16 = .ok (.baload, 1) := by decide +kernel
theorem d24_17 : decode jdk_43_method_23_code 17 = .ok (.iload 4, 2) := by decide +kernel
theorem d24_19 : decode jdk_43_method_23_code 19 = .ok (.if_icmp .ne 6, 3) := by decide +kernel
theorem d24_22 : decode jdk_43_method_23_code 22 = .ok (.iload 5, 2) := by decide +kernel
theorem d24_24 : decode jdk_43_method_23_code 24 = .ok (.ireturn, 1) := by decide +kernel
theorem d24_25 : decode jdk_43_method_23_code 25 = .ok (.iinc 5 1, 3) := by decide +kernel
theorem d24_28 : decode jdk_43_method_23_code 28 = .ok (.goto (-21), 3) := by decide +kernel
theorem d24_31 : decode jdk_43_method_23_code 31 = .ok (.iconst (-1), 1) := by decide +kernel
theorem d24_32 : decode jdk_43_method_23_code 32 = .ok (.ireturn, 1) := by decide +kernel
theorem d25_0 : decode jdk_42_method_92_code 0 = .ok (.aload_n 0, 1) := by decide +kernel
theorem d25_1 : decode jdk_42_method_92_code 1 = .ok (.invokevirtual 505, 3) := by decide +kernel
theorem d25_4 : decode jdk_42_method_92_code 4 = .ok (.istore_n 3, 1) := by decide +kernel
theorem d25_5 : decode jdk_42_method_92_code 5 = .ok (.iload_n 1, 1) := by decide +kernel
theorem d25_6 : decode jdk_42_method_92_code 6 = .ok (.iload_n 2, 1) := by decide +kernel
theorem d25_7 : decode jdk_42_method_92_code 7 = .ok (.iload_n 3, 1) := by decide +kernel
theorem d25_8 : decode jdk_42_method_92_code 8 = .ok (.invokestatic 521, 3) := by decide +kernel
theorem d25_11 : decode jdk_42_method_92_code 11 = .ok (.iload_n 1, 1) := by decide +kernel
theorem d25_12 : decode jdk_42_method_92_code 12 = .ok (.ifCond .ne 10, 3) := by decide +kernel
theorem d25_15 : decode jdk_42_method_92_code 15 = .ok (.iload_n 2, 1) := by decide +kernel
theorem d25_16 : decode jdk_42_method_92_code 16 = .ok (.iload_n 3, 1) := by decide +kernel
theorem d25_17 : decode jdk_42_method_92_code 17 = .ok (.if_icmp .ne 5, 3) := by decide +kernel
theorem d25_22 : decode jdk_42_method_92_code 22 = .ok (.iload_n 2, 1) := by decide +kernel
theorem d25_23 : decode jdk_42_method_92_code 23 = .ok (.iload_n 1, 1) := by decide +kernel
theorem d25_24 : decode jdk_42_method_92_code 24 = .ok (.isub, 1) := by decide +kernel
theorem d25_25 : decode jdk_42_method_92_code 25 = .ok (.istore 4, 2) := by decide +kernel
theorem d25_27 : decode jdk_42_method_92_code 27 = .ok (.aload_n 0, 1) := by decide +kernel
theorem d25_28 : decode jdk_42_method_92_code 28 = .ok (.invokevirtual 492, 3) := by decide +kernel
theorem d25_31 : decode jdk_42_method_92_code 31 = .ok (.ifCond .eq 16, 3) := by decide +kernel
theorem d25_34 : decode jdk_42_method_92_code 34 = .ok (.aload_n 0, 1) := by decide +kernel
theorem d25_35 : decode jdk_42_method_92_code 35 = .ok (.getfield 9, 3) := by decide +kernel
theorem d25_38 : decode jdk_42_method_92_code 38 = .ok (.iload_n 1, 1) := by decide +kernel
theorem d25_39 : decode jdk_42_method_92_code 39 = .ok (.iload 4, 2) := by decide +kernel
theorem d25_41 : decode jdk_42_method_92_code 41 = .ok (.invokestatic 685, 3) := by decide +kernel
theorem d25_44 : decode jdk_42_method_92_code 44 = .ok (.goto 13, 3) := by decide +kernel
theorem d25_57 : decode jdk_42_method_92_code 57 = .ok (.areturn, 1) := by decide +kernel
theorem d26_0 : decode jdk_42_method_158_code 0 = .ok (.iload_n 0, 1) := by decide +kernel
theorem d26_1 : decode jdk_42_method_158_code 1 = .ok (.iload_n 1, 1) := by decide +kernel
theorem d26_2 : decode jdk_42_method_158_code 2 = .ok (.iload_n 2, 1) := by decide +kernel
theorem d26_3 : decode jdk_42_method_158_code 3 = .ok (.getstatic 1053, 3) := by decide +kernel
theorem d26_6 : decode jdk_42_method_158_code 6 = .ok (.invokestatic 1062, 3) := by decide +kernel
theorem d26_9 : decode jdk_42_method_158_code 9 = .ok (.pop, 1) := by decide +kernel
theorem d26_10 : decode jdk_42_method_158_code 10 = .ok (.return_, 1) := by decide +kernel
theorem d27_0 : decode jdk_41_method_12_code 0 = .ok (.iload_n 0, 1) := by decide +kernel
theorem d27_1 : decode jdk_41_method_12_code 1 = .ok (.ifCond .lt 13, 3) := by decide +kernel
theorem d27_4 : decode jdk_41_method_12_code 4 = .ok (.iload_n 0, 1) := by decide +kernel
theorem d27_5 : decode jdk_41_method_12_code 5 = .ok (.iload_n 1, 1) := by decide +kernel
theorem d27_6 : decode jdk_41_method_12_code 6 = .ok (.if_icmp .gt 8, 3) := by decide +kernel
theorem d27_9 : decode jdk_41_method_12_code 9 = .ok (.iload_n 1, 1) := by decide +kernel
theorem d27_10 : decode jdk_41_method_12_code 10 = .ok (.iload_n 2, 1) := by decide +kernel
theorem d27_11 : decode jdk_41_method_12_code 11 = .ok (.if_icmp .le 11, 3) := by decide +kernel
theorem d27_22 : decode jdk_41_method_12_code 22 = .ok (.iload_n 0, 1) := by decide +kernel
theorem d27_23 : decode jdk_41_method_12_code 23 = .ok (.ireturn, 1) := by decide +kernel
theorem d28_0 : decode jdk_43_method_47_code 0 = .ok (.iload_n 2, 1) := by decide +kernel
theorem d28_1 : decode jdk_43_method_47_code 1 = .ok (.ifCond .ne 6, 3) := by decide +kernel
theorem d28_4 : decode jdk_43_method_47_code 4 = .ok (.ldc 151, 2) := by decide +kernel
theorem d28_6 : decode jdk_43_method_47_code 6 = .ok (.areturn, 1) := by decide +kernel
theorem d28_7 : decode jdk_43_method_47_code 7 = .ok (.new 1, 3) := by decide +kernel
theorem d28_10 : decode jdk_43_method_47_code 10 = .ok (.dup, 1) := by decide +kernel
theorem d28_11 : decode jdk_43_method_47_code 11 = .ok (.aload_n 0, 1) := by decide +kernel
theorem d28_12 : decode jdk_43_method_47_code 12 = .ok (.iload_n 1, 1) := by decide +kernel
theorem d28_13 : decode jdk_43_method_47_code 13 = .ok (.iload_n 1, 1) := by decide +kernel
theorem d28_14 : decode jdk_43_method_47_code 14 = .ok (.iload_n 2, 1) := by decide +kernel
theorem d28_15 : decode jdk_43_method_47_code 15 = .ok (.iadd, 1) := by decide +kernel
theorem d28_16 : decode jdk_43_method_47_code 16 = .ok (.invokestatic 232, 3) := by decide +kernel
theorem d28_19 : decode jdk_43_method_47_code 19 = .ok (.iconst 0, 1) := by decide +kernel
theorem d28_20 : decode jdk_43_method_47_code 20 = .ok (.invokespecial 112, 3) := by decide +kernel
theorem d28_23 : decode jdk_43_method_47_code 23 = .ok (.areturn, 1) := by decide +kernel
theorem d29_0 : decode jdk_42_method_91_code 0 = .ok (.aload_n 0, 1) := by decide +kernel
theorem d29_1 : decode jdk_42_method_91_code 1 = .ok (.iload_n 1, 1) := by decide +kernel
theorem d29_2 : decode jdk_42_method_91_code 2 = .ok (.aload_n 0, 1) := by decide +kernel
theorem d29_3 : decode jdk_42_method_91_code 3 = .ok (.invokevirtual 505, 3) := by decide +kernel
theorem d29_6 : decode jdk_42_method_91_code 6 = .ok (.invokevirtual 681, 3) := by decide +kernel
theorem d29_9 : decode jdk_42_method_91_code 9 = .ok (.areturn, 1) := by decide +kernel
theorem d30_0 : decode jdk_65_method_132_code 0 = .ok (.iload_n 1, 1) := by decide +kernel
theorem d30_1 : decode jdk_65_method_132_code 1 = .ok (.ifCond .ne 9, 3) := by decide +kernel
theorem d30_4 : decode jdk_65_method_132_code 4 = .ok (.iload_n 2, 1) := by decide +kernel
theorem d30_5 : decode jdk_65_method_132_code 5 = .ok (.aload_n 0, 1) := by decide +kernel
theorem d30_6 : decode jdk_65_method_132_code 6 = .ok (.arraylength, 1) := by decide +kernel
theorem d30_7 : decode jdk_65_method_132_code 7 = .ok (.if_icmp .eq 10, 3) := by decide +kernel
theorem d30_10 : decode jdk_65_method_132_code 10 = .ok (.aload_n 0, 1) := by decide +kernel
theorem d30_11 : decode jdk_65_method_132_code 11 = .ok (.iload_n 1, 1) := by decide +kernel
theorem d30_12 : decode jdk_65_method_132_code 12 = .ok (.iload_n 2, 1) := by decide +kernel
theorem d30_13 : decode jdk_65_method_132_code 13 = .ok (.invokestatic 339, 3) := by decide +kernel
theorem d30_16 : decode jdk_65_method_132_code 16 = .ok (.areturn, 1) := by decide +kernel
theorem d31_0 : decode jdk_65_method_133_code 0 = .ok (.iload_n 1, 1) := by decide +kernel
theorem d31_1 : decode jdk_65_method_133_code 1 = .ok (.iload_n 2, 1) := by decide +kernel
theorem d31_2 : decode jdk_65_method_133_code 2 = .ok (.invokestatic 343, 3) := by decide +kernel
theorem d31_5 : decode jdk_65_method_133_code 5 = .ok (.iload_n 2, 1) := by decide +kernel
theorem d31_6 : decode jdk_65_method_133_code 6 = .ok (.iload_n 1, 1) := by decide +kernel
theorem d31_7 : decode jdk_65_method_133_code 7 = .ok (.isub, 1) := by decide +kernel
theorem d31_8 : decode jdk_65_method_133_code 8 = .ok (.istore_n 3, 1) := by decide +kernel
theorem d31_9 : decode jdk_65_method_133_code 9 = .ok (.iload_n 3, 1) := by decide +kernel
theorem d31_10 : decode jdk_65_method_133_code 10 = .ok (.newarray .byte, 2) := by decide +kernel
theorem d31_12 : decode jdk_65_method_133_code 12 = .ok (.astore 4, 2) := by decide +kernel
theorem d31_14 : decode jdk_65_method_133_code 14 = .ok (.aload_n 0, 1) := by decide +kernel
theorem d31_15 : decode jdk_65_method_133_code 15 = .ok (.iload_n 1, 1) := by decide +kernel
theorem d31_16 : decode jdk_65_method_133_code 16 = .ok (.aload 4, 2) := by decide +kernel
theorem d31_18 : decode jdk_65_method_133_code 18 = .ok (.iconst 0, 1) := by decide +kernel
theorem d31_19 : decode jdk_65_method_133_code 19 = .ok (.aload_n 0, 1) := by decide +kernel
theorem d31_20 : decode jdk_65_method_133_code 20 = .ok (.arraylength, 1) := by decide +kernel
theorem d31_21 : decode jdk_65_method_133_code 21 = .ok (.iload_n 1, 1) := by decide +kernel
theorem d31_22 : decode jdk_65_method_133_code 22 = .ok (.isub, 1) := by decide +kernel
theorem d31_23 : decode jdk_65_method_133_code 23 = .ok (.iload_n 3, 1) := by decide +kernel
theorem d31_24 : decode jdk_65_method_133_code 24 = .ok (.invokestatic 304, 3) := by decide +kernel
theorem d31_27 : decode jdk_65_method_133_code 27 = .ok (.invokestatic 150, 3) := by decide +kernel
theorem d31_30 : decode jdk_65_method_133_code 30 = .ok (.aload 4, 2) := by decide +kernel
theorem d31_32 : decode jdk_65_method_133_code 32 = .ok (.areturn, 1) := by decide +kernel
theorem d32_0 : decode jdk_65_method_131_code 0 = .ok (.iload_n 1, 1) := by decide +kernel
theorem d32_1 : decode jdk_65_method_131_code 1 = .ok (.iload_n 0, 1) := by decide +kernel
theorem d32_2 : decode jdk_65_method_131_code 2 = .ok (.if_icmp .ge 35, 3) := by decide +kernel
theorem d32_37 : decode jdk_65_method_131_code 37 = .ok (.return_, 1) := by decide +kernel
theorem d33_0 : decode jdk_42_method_151_code 0 = .ok (.aload_n 0, 1) := by decide +kernel
theorem d33_1 : decode jdk_42_method_151_code 1 = .ok (.invokespecial 1, 3) := by decide +kernel
theorem d33_4 : decode jdk_42_method_151_code 4 = .ok (.aload_n 0, 1) := by decide +kernel
theorem d33_5 : decode jdk_42_method_151_code 5 = .ok (.aload_n 1, 1) := by decide +kernel
theorem d33_6 : decode jdk_42_method_151_code 6 = .ok (.putfield 9, 3) := by decide +kernel
theorem d33_9 : decode jdk_42_method_151_code 9 = .ok (.aload_n 0, 1) := by decide +kernel
theorem d33_10 : decode jdk_42_method_151_code 10 = .ok (.iload_n 2, 1) := by decide +kernel
theorem d33_11 : decode jdk_42_method_151_code 11 = .ok (.putfield 15, 3) := by decide +kernel
theorem d33_14 : decode jdk_42_method_151_code 14 = .ok (.return_, 1) := by decide +kernel
theorem pn_0 : plainName "java/lang/String" = true := by first | (simp [plainName, overriddenIn]; done) | decide +kernel
theorem pn_1 : plainName "java/lang/StringLatin1" = true := by first | (simp [plainName, overriddenIn]; done) | decide +kernel
theorem pn_2 : plainFor (⟨"java/lang/Math", "max", "(II)I"⟩ : MethodName) = true := by decide +kernel
theorem pn_3 : plainFor (⟨"java/lang/Math", "min", "(II)I"⟩ : MethodName) = true := by decide +kernel
theorem pn_4 : plainName "java/util/Arrays" = true := by first | (simp [plainName, overriddenIn]; done) | decide +kernel
theorem pn_5 : plainName "jdk/internal/util/Preconditions" = true := by first | (simp [plainName, overriddenIn]; done) | decide +kernel
theorem pn_6 : plainName "java/lang/Record" = true := by first | (simp [plainName, overriddenIn]; done) | decide +kernel
theorem pn_7 : plainName "com/example/bolter/bolter/service/ParameterName" = true := by first | (simp [plainName, overriddenIn]; done) | decide +kernel
theorem pn_8 : plainName "com/example/bolter/bolter/service/ParameterNameOfPinLaw" = true := by first | (simp [plainName, overriddenIn]; done) | decide +kernel
theorem pd_0 : parseMethodDescriptor "([CIILjava/lang/Void;)V" = some ⟨[(.array .char), .int, .int, (.object "java/lang/Void")], none⟩ := by decide +kernel
theorem pd_1 : parseMethodDescriptor "(I)Z" = some ⟨[.int], some .boolean⟩ := by decide +kernel
theorem pd_2 : parseMethodDescriptor "(II)I" = some ⟨[.int, .int], some .int⟩ := by decide +kernel
theorem pd_3 : parseMethodDescriptor "([BIII)I" = some ⟨[(.array .byte), .int, .int, .int], some .int⟩ := by decide +kernel
theorem pd_4 : parseMethodDescriptor "()Z" = some ⟨[], some .boolean⟩ := by decide +kernel
theorem pd_5 : parseMethodDescriptor "()I" = some ⟨[], some .int⟩ := by decide +kernel
theorem pd_6 : parseMethodDescriptor "(II)V" = some ⟨[.int, .int], none⟩ := by decide +kernel
theorem pd_7 : parseMethodDescriptor "([BII)[B" = some ⟨[(.array .byte), .int, .int], some (.array .byte)⟩ := by decide +kernel
theorem pd_8 : parseMethodDescriptor "([BB)V" = some ⟨[(.array .byte), .byte], none⟩ := by decide +kernel
theorem pd_9 : parseMethodDescriptor "(IIILjava/util/function/BiFunction;)I" = some ⟨[.int, .int, .int, (.object "java/util/function/BiFunction")], some .int⟩ := by decide +kernel
theorem pd_10 : parseMethodDescriptor "(III)V" = some ⟨[.int, .int, .int], none⟩ := by decide +kernel
theorem pd_11 : parseMethodDescriptor "([BII)Ljava/lang/String;" = some ⟨[(.array .byte), .int, .int], some (.object "java/lang/String")⟩ := by decide +kernel
theorem pd_12 : parseMethodDescriptor "(II)Ljava/lang/String;" = some ⟨[.int, .int], some (.object "java/lang/String")⟩ := by decide +kernel
theorem pd_13 : parseMethodDescriptor "()V" = some ⟨[], none⟩ := by decide +kernel
theorem pd_14 : parseMethodDescriptor "(I)I" = some ⟨[.int], some .int⟩ := by decide +kernel
theorem pd_15 : parseMethodDescriptor "(Ljava/lang/String;Ljava/lang/String;)V" = some ⟨[(.object "java/lang/String"), (.object "java/lang/String")], none⟩ := by decide +kernel
theorem pd_16 : parseMethodDescriptor "(I)Ljava/lang/String;" = some ⟨[.int], some (.object "java/lang/String")⟩ := by decide +kernel
theorem pd_17 : parseMethodDescriptor "([C)V" = some ⟨[(.array .char)], none⟩ := by decide +kernel
theorem pd_18 : parseMethodDescriptor "(I)C" = some ⟨[.int], some .char⟩ := by decide +kernel
theorem pd_19 : parseMethodDescriptor "(I[CI)Ljava/lang/String;" = some ⟨[.int, (.array .char), .int], some (.object "java/lang/String")⟩ := by decide +kernel
theorem pd_20 : parseMethodDescriptor "(Ljava/lang/String;)Lcom/example/bolter/bolter/service/ParameterName;" = some ⟨[(.object "java/lang/String")], some (.object "com/example/bolter/bolter/service/ParameterName")⟩ := by decide +kernel
theorem pd_21 : parseMethodDescriptor "()Ljava/lang/String;" = some ⟨[], some (.object "java/lang/String")⟩ := by decide +kernel
theorem pd_22 : parseMethodDescriptor "(Ljava/lang/Object;)Z" = some ⟨[(.object "java/lang/Object")], some .boolean⟩ := by decide +kernel
theorem hw0 {Z : State} {a0 : Array Value} (hw : ∀ d ∈ tables_1, d.before a0 Z = true) : (Jvm.Cond.constant "com/example/bolter/bolter/service/ParameterNameOfPinLaw" (12 : Nat) (2147483647 : Int32)).before a0 Z = true := hw _ (List.mem_of_getElem? (i := 0) rfl)
theorem hw1 {Z : State} {a0 : Array Value} (hw : ∀ d ∈ tables_1, d.before a0 Z = true) : (Jvm.Cond.arrayClass Jvm.ClassFile.FieldType.char).before a0 Z = true := hw _ (List.mem_of_getElem? (i := 1) rfl)
theorem hw2 {Z : State} {a0 : Array Value} (hw : ∀ d ∈ tables_1, d.before a0 Z = true) : (Jvm.Cond.methodLink "com/example/bolter/bolter/service/ParameterNameOfPinLaw" (13 : Nat) ({ cls := "com/example/bolter/bolter/service/ParameterNameOfPinLaw", name := "ch", desc := "(I)C" } : Jvm.MethodName)).before a0 Z = true := hw _ (List.mem_of_getElem? (i := 2) rfl)
theorem hw3 {Z : State} {a0 : Array Value} (hw : ∀ d ∈ tables_1, d.before a0 Z = true) : (Jvm.Cond.static ({ cls := "com/example/bolter/bolter/service/ParameterNameOfPinLaw", name := "ch", desc := "(I)C" } : Jvm.MethodName)).before a0 Z = true := hw _ (List.mem_of_getElem? (i := 3) rfl)
theorem hw4 {Z : State} {a0 : Array Value} (hw : ∀ d ∈ tables_1, d.before a0 Z = true) : (Jvm.Cond.initialized "com/example/bolter/bolter/service/ParameterNameOfPinLaw").before a0 Z = true := hw _ (List.mem_of_getElem? (i := 4) rfl)
theorem hw5 {Z : State} {a0 : Array Value} (hw : ∀ d ∈ tables_1, d.before a0 Z = true) : (Jvm.Cond.code ({ cls := "com/example/bolter/bolter/service/ParameterNameOfPinLaw", name := "ch", desc := "(I)C" } : Jvm.MethodName) method_2_code (1 : Nat) (Option.some Jvm.ClassFile.FieldType.char)).before a0 Z = true := hw _ (List.mem_of_getElem? (i := 5) rfl)
theorem hw6 {Z : State} {a0 : Array Value} (hw : ∀ d ∈ tables_1, d.before a0 Z = true) : (Jvm.Cond.methodLink "com/example/bolter/bolter/service/ParameterNameOfPinLaw" (19 : Nat) ({ cls := "com/example/bolter/bolter/service/ParameterNameOfPinLaw", name := "mk", desc := "(I[CI)Ljava/lang/String;" } : Jvm.MethodName)).before a0 Z = true := hw _ (List.mem_of_getElem? (i := 6) rfl)
theorem hw7 {Z : State} {a0 : Array Value} (hw : ∀ d ∈ tables_1, d.before a0 Z = true) : (Jvm.Cond.static ({ cls := "com/example/bolter/bolter/service/ParameterNameOfPinLaw", name := "mk", desc := "(I[CI)Ljava/lang/String;" } : Jvm.MethodName)).before a0 Z = true := hw _ (List.mem_of_getElem? (i := 7) rfl)
theorem hw8 {Z : State} {a0 : Array Value} (hw : ∀ d ∈ tables_1, d.before a0 Z = true) : (Jvm.Cond.code ({ cls := "com/example/bolter/bolter/service/ParameterNameOfPinLaw", name := "mk", desc := "(I[CI)Ljava/lang/String;" } : Jvm.MethodName) method_3_code (3 : Nat) (Option.some (Jvm.ClassFile.FieldType.object "java/lang/String"))).before a0 Z = true := hw _ (List.mem_of_getElem? (i := 8) rfl)
theorem hw9 {Z : State} {a0 : Array Value} (hw : ∀ d ∈ tables_1, d.before a0 Z = true) : (Jvm.Cond.classLink "com/example/bolter/bolter/service/ParameterNameOfPinLaw" (7 : Nat) "java/lang/String").before a0 Z = true := hw _ (List.mem_of_getElem? (i := 9) rfl)
theorem hw10 {Z : State} {a0 : Array Value} (hw : ∀ d ∈ tables_1, d.before a0 Z = true) : (Jvm.Cond.instantiable "java/lang/String" (4 : Nat)).before a0 Z = true := hw _ (List.mem_of_getElem? (i := 10) rfl)
theorem hw11 {Z : State} {a0 : Array Value} (hw : ∀ d ∈ tables_1, d.before a0 Z = true) : (Jvm.Cond.initialized "java/lang/String").before a0 Z = true := hw _ (List.mem_of_getElem? (i := 11) rfl)
theorem hw12 {Z : State} {a0 : Array Value} (hw : ∀ d ∈ tables_1, d.before a0 Z = true) : (Jvm.Cond.methodLink "com/example/bolter/bolter/service/ParameterNameOfPinLaw" (9 : Nat) ({ cls := "java/lang/String", name := "<init>", desc := "([C)V" } : Jvm.MethodName)).before a0 Z = true := hw _ (List.mem_of_getElem? (i := 12) rfl)
theorem hw13 {Z : State} {a0 : Array Value} (hw : ∀ d ∈ tables_1, d.before a0 Z = true) : (Jvm.Cond.instanceMethod ({ cls := "java/lang/String", name := "<init>", desc := "([C)V" } : Jvm.MethodName)).before a0 Z = true := hw _ (List.mem_of_getElem? (i := 13) rfl)
theorem hw14 {Z : State} {a0 : Array Value} (hw : ∀ d ∈ tables_1, d.before a0 Z = true) : (Jvm.Cond.code ({ cls := "java/lang/String", name := "<init>", desc := "([C)V" } : Jvm.MethodName) jdk_42_method_3_code (2 : Nat) (Option.none : Option Jvm.ClassFile.FieldType)).before a0 Z = true := hw _ (List.mem_of_getElem? (i := 14) rfl)
theorem hw15 {Z : State} {a0 : Array Value} (hw : ∀ d ∈ tables_1, d.before a0 Z = true) : (Jvm.Cond.methodLink "java/lang/String" (27 : Nat) ({ cls := "java/lang/String", name := "<init>", desc := "([CIILjava/lang/Void;)V" } : Jvm.MethodName)).before a0 Z = true := hw _ (List.mem_of_getElem? (i := 15) rfl)
theorem hw16 {Z : State} {a0 : Array Value} (hw : ∀ d ∈ tables_1, d.before a0 Z = true) : (Jvm.Cond.instanceMethod ({ cls := "java/lang/String", name := "<init>", desc := "([CIILjava/lang/Void;)V" } : Jvm.MethodName)).before a0 Z = true := hw _ (List.mem_of_getElem? (i := 16) rfl)
theorem hw18 {Z : State} {a0 : Array Value} (hw : ∀ d ∈ tables_1, d.before a0 Z = true) : (Jvm.Cond.code ({ cls := "java/lang/String", name := "<init>", desc := "([CIILjava/lang/Void;)V" } : Jvm.MethodName) jdk_42_method_149_code (6 : Nat) (Option.none : Option Jvm.ClassFile.FieldType)).before a0 Z = true := hw _ (List.mem_of_getElem? (i := 18) rfl)
theorem hw19 {Z : State} {a0 : Array Value} (hw : ∀ d ∈ tables_1, d.before a0 Z = true) : (Jvm.Cond.methodLink "java/lang/String" (1 : Nat) ({ cls := "java/lang/Object", name := "<init>", desc := "()V" } : Jvm.MethodName)).before a0 Z = true := hw _ (List.mem_of_getElem? (i := 19) rfl)
theorem hw20 {Z : State} {a0 : Array Value} (hw : ∀ d ∈ tables_1, d.before a0 Z = true) : (Jvm.Cond.instanceMethod ({ cls := "java/lang/Object", name := "<init>", desc := "()V" } : Jvm.MethodName)).before a0 Z = true := hw _ (List.mem_of_getElem? (i := 20) rfl)
theorem hw21 {Z : State} {a0 : Array Value} (hw : ∀ d ∈ tables_1, d.before a0 Z = true) : (Jvm.Cond.code ({ cls := "java/lang/Object", name := "<init>", desc := "()V" } : Jvm.MethodName) object_method_1_code (1 : Nat) (Option.none : Option Jvm.ClassFile.FieldType)).before a0 Z = true := hw _ (List.mem_of_getElem? (i := 21) rfl)
theorem hw22 {Z : State} {a0 : Array Value} (hw : ∀ d ∈ tables_1, d.before a0 Z = true) : (Jvm.Cond.stringLink "java/lang/String" (7 : Nat) "").before a0 Z = true := hw _ (List.mem_of_getElem? (i := 22) rfl)
theorem hw23 {Z : State} {a0 : Array Value} (hw : ∀ d ∈ tables_1, d.before a0 Z = true) : (Jvm.Cond.arrayClass Jvm.ClassFile.FieldType.byte).before a0 Z = true := hw _ (List.mem_of_getElem? (i := 23) rfl)
theorem hw24 {Z : State} {a0 : Array Value} (hw : ∀ d ∈ tables_1, d.before a0 Z = true) : (Jvm.Cond.laysFinal "java/lang/String" "java/lang/String" "value" "[B").before a0 Z = true := hw _ (List.mem_of_getElem? (i := 24) rfl)
theorem hw25 {Z : State} {a0 : Array Value} (hw : ∀ d ∈ tables_1, d.before a0 Z = true) : (Jvm.Cond.laysFinal "java/lang/String" "java/lang/String" "coder" "B").before a0 Z = true := hw _ (List.mem_of_getElem? (i := 25) rfl)
theorem hw28 {Z : State} {a0 : Array Value} (hw : ∀ d ∈ tables_1, d.before a0 Z = true) : (Jvm.Cond.fieldLink "java/lang/String" (9 : Nat) "java/lang/String" "value" "[B").before a0 Z = true := hw _ (List.mem_of_getElem? (i := 28) rfl)
theorem hw29 {Z : State} {a0 : Array Value} (hw : ∀ d ∈ tables_1, d.before a0 Z = true) : (Jvm.Cond.fieldLink "java/lang/String" (15 : Nat) "java/lang/String" "coder" "B").before a0 Z = true := hw _ (List.mem_of_getElem? (i := 29) rfl)
theorem hw30 {Z : State} {a0 : Array Value} (hw : ∀ d ∈ tables_1, d.before a0 Z = true) : (Jvm.Cond.methodLink "com/example/bolter/bolter/service/ParameterNameOfPinLaw" (23 : Nat) ({ cls := "com/example/bolter/bolter/service/ParameterName", name := "of", desc := "(Ljava/lang/String;)Lcom/example/bolter/bolter/service/ParameterName;" } : Jvm.MethodName)).before a0 Z = true := hw _ (List.mem_of_getElem? (i := 30) rfl)
theorem hw31 {Z : State} {a0 : Array Value} (hw : ∀ d ∈ tables_1, d.before a0 Z = true) : (Jvm.Cond.static ({ cls := "com/example/bolter/bolter/service/ParameterName", name := "of", desc := "(Ljava/lang/String;)Lcom/example/bolter/bolter/service/ParameterName;" } : Jvm.MethodName)).before a0 Z = true := hw _ (List.mem_of_getElem? (i := 31) rfl)
theorem hw32 {Z : State} {a0 : Array Value} (hw : ∀ d ∈ tables_1, d.before a0 Z = true) : (Jvm.Cond.initialized "com/example/bolter/bolter/service/ParameterName").before a0 Z = true := hw _ (List.mem_of_getElem? (i := 32) rfl)
theorem hw33 {Z : State} {a0 : Array Value} (hw : ∀ d ∈ tables_1, d.before a0 Z = true) : (Jvm.Cond.code ({ cls := "com/example/bolter/bolter/service/ParameterName", name := "of", desc := "(Ljava/lang/String;)Lcom/example/bolter/bolter/service/ParameterName;" } : Jvm.MethodName) prog_18_method_2_code (4 : Nat) (Option.some (Jvm.ClassFile.FieldType.object "com/example/bolter/bolter/service/ParameterName"))).before a0 Z = true := hw _ (List.mem_of_getElem? (i := 33) rfl)
theorem hw34 {Z : State} {a0 : Array Value} (hw : ∀ d ∈ tables_1, d.before a0 Z = true) : (Jvm.Cond.methodLink "com/example/bolter/bolter/service/ParameterName" (16 : Nat) ({ cls := "java/lang/String", name := "indexOf", desc := "(I)I" } : Jvm.MethodName)).before a0 Z = true := hw _ (List.mem_of_getElem? (i := 34) rfl)
theorem hw35 {Z : State} {a0 : Array Value} (hw : ∀ d ∈ tables_1, d.before a0 Z = true) : (Jvm.Cond.declares ({ cls := "java/lang/String", name := "indexOf", desc := "(I)I" } : Jvm.MethodName)).before a0 Z = true := hw _ (List.mem_of_getElem? (i := 35) rfl)
theorem hw36 {Z : State} {a0 : Array Value} (hw : ∀ d ∈ tables_1, d.before a0 Z = true) : (Jvm.Cond.instanceMethod ({ cls := "java/lang/String", name := "indexOf", desc := "(I)I" } : Jvm.MethodName)).before a0 Z = true := hw _ (List.mem_of_getElem? (i := 36) rfl)
theorem hw37 {Z : State} {a0 : Array Value} (hw : ∀ d ∈ tables_1, d.before a0 Z = true) : (Jvm.Cond.selects "java/lang/String" ({ cls := "java/lang/String", name := "indexOf", desc := "(I)I" } : Jvm.MethodName) ({ cls := "java/lang/String", name := "indexOf", desc := "(I)I" } : Jvm.MethodName)).before a0 Z = true := hw _ (List.mem_of_getElem? (i := 37) rfl)
theorem hw38 {Z : State} {a0 : Array Value} (hw : ∀ d ∈ tables_1, d.before a0 Z = true) : (Jvm.Cond.code ({ cls := "java/lang/String", name := "indexOf", desc := "(I)I" } : Jvm.MethodName) jdk_42_method_79_code (2 : Nat) (Option.some Jvm.ClassFile.FieldType.int)).before a0 Z = true := hw _ (List.mem_of_getElem? (i := 38) rfl)
theorem hw39 {Z : State} {a0 : Array Value} (hw : ∀ d ∈ tables_1, d.before a0 Z = true) : (Jvm.Cond.methodLink "java/lang/String" (633 : Nat) ({ cls := "java/lang/String", name := "indexOf", desc := "(II)I" } : Jvm.MethodName)).before a0 Z = true := hw _ (List.mem_of_getElem? (i := 39) rfl)
theorem hw40 {Z : State} {a0 : Array Value} (hw : ∀ d ∈ tables_1, d.before a0 Z = true) : (Jvm.Cond.declares ({ cls := "java/lang/String", name := "indexOf", desc := "(II)I" } : Jvm.MethodName)).before a0 Z = true := hw _ (List.mem_of_getElem? (i := 40) rfl)
theorem hw41 {Z : State} {a0 : Array Value} (hw : ∀ d ∈ tables_1, d.before a0 Z = true) : (Jvm.Cond.instanceMethod ({ cls := "java/lang/String", name := "indexOf", desc := "(II)I" } : Jvm.MethodName)).before a0 Z = true := hw _ (List.mem_of_getElem? (i := 41) rfl)
theorem hw42 {Z : State} {a0 : Array Value} (hw : ∀ d ∈ tables_1, d.before a0 Z = true) : (Jvm.Cond.selects "java/lang/String" ({ cls := "java/lang/String", name := "indexOf", desc := "(II)I" } : Jvm.MethodName) ({ cls := "java/lang/String", name := "indexOf", desc := "(II)I" } : Jvm.MethodName)).before a0 Z = true := hw _ (List.mem_of_getElem? (i := 42) rfl)
theorem hw43 {Z : State} {a0 : Array Value} (hw : ∀ d ∈ tables_1, d.before a0 Z = true) : (Jvm.Cond.code ({ cls := "java/lang/String", name := "indexOf", desc := "(II)I" } : Jvm.MethodName) jdk_42_method_80_code (3 : Nat) (Option.some Jvm.ClassFile.FieldType.int)).before a0 Z = true := hw _ (List.mem_of_getElem? (i := 43) rfl)
theorem hw44 {Z : State} {a0 : Array Value} (hw : ∀ d ∈ tables_1, d.before a0 Z = true) : (Jvm.Cond.methodLink "java/lang/String" (492 : Nat) ({ cls := "java/lang/String", name := "isLatin1", desc := "()Z" } : Jvm.MethodName)).before a0 Z = true := hw _ (List.mem_of_getElem? (i := 44) rfl)
theorem hw45 {Z : State} {a0 : Array Value} (hw : ∀ d ∈ tables_1, d.before a0 Z = true) : (Jvm.Cond.declares ({ cls := "java/lang/String", name := "isLatin1", desc := "()Z" } : Jvm.MethodName)).before a0 Z = true := hw _ (List.mem_of_getElem? (i := 45) rfl)
theorem hw46 {Z : State} {a0 : Array Value} (hw : ∀ d ∈ tables_1, d.before a0 Z = true) : (Jvm.Cond.instanceMethod ({ cls := "java/lang/String", name := "isLatin1", desc := "()Z" } : Jvm.MethodName)).before a0 Z = true := hw _ (List.mem_of_getElem? (i := 46) rfl)
theorem hw47 {Z : State} {a0 : Array Value} (hw : ∀ d ∈ tables_1, d.before a0 Z = true) : (Jvm.Cond.selects "java/lang/String" ({ cls := "java/lang/String", name := "isLatin1", desc := "()Z" } : Jvm.MethodName) ({ cls := "java/lang/String", name := "isLatin1", desc := "()Z" } : Jvm.MethodName)).before a0 Z = true := hw _ (List.mem_of_getElem? (i := 47) rfl)
theorem hw48 {Z : State} {a0 : Array Value} (hw : ∀ d ∈ tables_1, d.before a0 Z = true) : (Jvm.Cond.code ({ cls := "java/lang/String", name := "isLatin1", desc := "()Z" } : Jvm.MethodName) jdk_42_method_154_code (1 : Nat) (Option.some Jvm.ClassFile.FieldType.boolean)).before a0 Z = true := hw _ (List.mem_of_getElem? (i := 48) rfl)
theorem hw49 {Z : State} {a0 : Array Value} (hw : ∀ d ∈ tables_1, d.before a0 Z = true) : (Jvm.Cond.fieldLink "java/lang/String" (38 : Nat) "java/lang/String" "COMPACT_STRINGS" "Z").before a0 Z = true := hw _ (List.mem_of_getElem? (i := 49) rfl)
theorem hw50 {Z : State} {a0 : Array Value} (hw : ∀ d ∈ tables_1, d.before a0 Z = true) : (Jvm.Cond.methodLink "java/lang/String" (505 : Nat) ({ cls := "java/lang/String", name := "length", desc := "()I" } : Jvm.MethodName)).before a0 Z = true := hw _ (List.mem_of_getElem? (i := 50) rfl)
theorem hw51 {Z : State} {a0 : Array Value} (hw : ∀ d ∈ tables_1, d.before a0 Z = true) : (Jvm.Cond.declares ({ cls := "java/lang/String", name := "length", desc := "()I" } : Jvm.MethodName)).before a0 Z = true := hw _ (List.mem_of_getElem? (i := 51) rfl)
theorem hw52 {Z : State} {a0 : Array Value} (hw : ∀ d ∈ tables_1, d.before a0 Z = true) : (Jvm.Cond.instanceMethod ({ cls := "java/lang/String", name := "length", desc := "()I" } : Jvm.MethodName)).before a0 Z = true := hw _ (List.mem_of_getElem? (i := 52) rfl)
theorem hw53 {Z : State} {a0 : Array Value} (hw : ∀ d ∈ tables_1, d.before a0 Z = true) : (Jvm.Cond.selects "java/lang/String" ({ cls := "java/lang/String", name := "length", desc := "()I" } : Jvm.MethodName) ({ cls := "java/lang/String", name := "length", desc := "()I" } : Jvm.MethodName)).before a0 Z = true := hw _ (List.mem_of_getElem? (i := 53) rfl)
theorem hw60 {Z : State} {a0 : Array Value} (hw : ∀ d ∈ tables_1, d.before a0 Z = true) : (Jvm.Cond.methodLink "java/lang/String" (637 : Nat) ({ cls := "java/lang/StringLatin1", name := "indexOf", desc := "([BIII)I" } : Jvm.MethodName)).before a0 Z = true := hw _ (List.mem_of_getElem? (i := 60) rfl)
theorem hw61 {Z : State} {a0 : Array Value} (hw : ∀ d ∈ tables_1, d.before a0 Z = true) : (Jvm.Cond.static ({ cls := "java/lang/StringLatin1", name := "indexOf", desc := "([BIII)I" } : Jvm.MethodName)).before a0 Z = true := hw _ (List.mem_of_getElem? (i := 61) rfl)
theorem hw62 {Z : State} {a0 : Array Value} (hw : ∀ d ∈ tables_1, d.before a0 Z = true) : (Jvm.Cond.initialized "java/lang/StringLatin1").before a0 Z = true := hw _ (List.mem_of_getElem? (i := 62) rfl)
theorem hw63 {Z : State} {a0 : Array Value} (hw : ∀ d ∈ tables_1, d.before a0 Z = true) : (Jvm.Cond.code ({ cls := "java/lang/StringLatin1", name := "indexOf", desc := "([BIII)I" } : Jvm.MethodName) jdk_43_method_22_code (4 : Nat) (Option.some Jvm.ClassFile.FieldType.int)).before a0 Z = true := hw _ (List.mem_of_getElem? (i := 63) rfl)
theorem hw64 {Z : State} {a0 : Array Value} (hw : ∀ d ∈ tables_1, d.before a0 Z = true) : (Jvm.Cond.methodLink "java/lang/StringLatin1" (88 : Nat) ({ cls := "java/lang/StringLatin1", name := "canEncode", desc := "(I)Z" } : Jvm.MethodName)).before a0 Z = true := hw _ (List.mem_of_getElem? (i := 64) rfl)
theorem hw65 {Z : State} {a0 : Array Value} (hw : ∀ d ∈ tables_1, d.before a0 Z = true) : (Jvm.Cond.static ({ cls := "java/lang/StringLatin1", name := "canEncode", desc := "(I)Z" } : Jvm.MethodName)).before a0 Z = true := hw _ (List.mem_of_getElem? (i := 65) rfl)
theorem hw66 {Z : State} {a0 : Array Value} (hw : ∀ d ∈ tables_1, d.before a0 Z = true) : (Jvm.Cond.code ({ cls := "java/lang/StringLatin1", name := "canEncode", desc := "(I)Z" } : Jvm.MethodName) jdk_43_method_4_code (1 : Nat) (Option.some Jvm.ClassFile.FieldType.boolean)).before a0 Z = true := hw _ (List.mem_of_getElem? (i := 66) rfl)
theorem hw67 {Z : State} {a0 : Array Value} (hw : ∀ d ∈ tables_1, d.before a0 Z = true) : (Jvm.Cond.methodLink "java/lang/StringLatin1" (92 : Nat) ({ cls := "java/lang/Math", name := "max", desc := "(II)I" } : Jvm.MethodName)).before a0 Z = true := hw _ (List.mem_of_getElem? (i := 67) rfl)
theorem hw68 {Z : State} {a0 : Array Value} (hw : ∀ d ∈ tables_1, d.before a0 Z = true) : (Jvm.Cond.static ({ cls := "java/lang/Math", name := "max", desc := "(II)I" } : Jvm.MethodName)).before a0 Z = true := hw _ (List.mem_of_getElem? (i := 68) rfl)
theorem hw69 {Z : State} {a0 : Array Value} (hw : ∀ d ∈ tables_1, d.before a0 Z = true) : (Jvm.Cond.initialized "java/lang/Math").before a0 Z = true := hw _ (List.mem_of_getElem? (i := 69) rfl)
theorem hw70 {Z : State} {a0 : Array Value} (hw : ∀ d ∈ tables_1, d.before a0 Z = true) : (Jvm.Cond.code ({ cls := "java/lang/Math", name := "max", desc := "(II)I" } : Jvm.MethodName) jdk_29_method_65_code (2 : Nat) (Option.some Jvm.ClassFile.FieldType.int)).before a0 Z = true := hw _ (List.mem_of_getElem? (i := 70) rfl)
theorem hw71 {Z : State} {a0 : Array Value} (hw : ∀ d ∈ tables_1, d.before a0 Z = true) : (Jvm.Cond.methodLink "java/lang/StringLatin1" (38 : Nat) ({ cls := "java/lang/Math", name := "min", desc := "(II)I" } : Jvm.MethodName)).before a0 Z = true := hw _ (List.mem_of_getElem? (i := 71) rfl)
theorem hw72 {Z : State} {a0 : Array Value} (hw : ∀ d ∈ tables_1, d.before a0 Z = true) : (Jvm.Cond.static ({ cls := "java/lang/Math", name := "min", desc := "(II)I" } : Jvm.MethodName)).before a0 Z = true := hw _ (List.mem_of_getElem? (i := 72) rfl)
theorem hw73 {Z : State} {a0 : Array Value} (hw : ∀ d ∈ tables_1, d.before a0 Z = true) : (Jvm.Cond.code ({ cls := "java/lang/Math", name := "min", desc := "(II)I" } : Jvm.MethodName) jdk_29_method_69_code (2 : Nat) (Option.some Jvm.ClassFile.FieldType.int)).before a0 Z = true := hw _ (List.mem_of_getElem? (i := 73) rfl)
theorem hw74 {Z : State} {a0 : Array Value} (hw : ∀ d ∈ tables_1, d.before a0 Z = true) : (Jvm.Cond.classLink "com/example/bolter/bolter/service/ParameterName" (8 : Nat) "com/example/bolter/bolter/service/ParameterName").before a0 Z = true := hw _ (List.mem_of_getElem? (i := 74) rfl)
theorem hw75 {Z : State} {a0 : Array Value} (hw : ∀ d ∈ tables_1, d.before a0 Z = true) : (Jvm.Cond.instantiable "com/example/bolter/bolter/service/ParameterName" (2 : Nat)).before a0 Z = true := hw _ (List.mem_of_getElem? (i := 75) rfl)
theorem hw76 {Z : State} {a0 : Array Value} (hw : ∀ d ∈ tables_1, d.before a0 Z = true) : (Jvm.Cond.methodLink "com/example/bolter/bolter/service/ParameterName" (29 : Nat) ({ cls := "com/example/bolter/bolter/service/ParameterName", name := "<init>", desc := "(Ljava/lang/String;Ljava/lang/String;)V" } : Jvm.MethodName)).before a0 Z = true := hw _ (List.mem_of_getElem? (i := 76) rfl)
theorem hw77 {Z : State} {a0 : Array Value} (hw : ∀ d ∈ tables_1, d.before a0 Z = true) : (Jvm.Cond.instanceMethod ({ cls := "com/example/bolter/bolter/service/ParameterName", name := "<init>", desc := "(Ljava/lang/String;Ljava/lang/String;)V" } : Jvm.MethodName)).before a0 Z = true := hw _ (List.mem_of_getElem? (i := 77) rfl)
theorem hw78 {Z : State} {a0 : Array Value} (hw : ∀ d ∈ tables_1, d.before a0 Z = true) : (Jvm.Cond.code ({ cls := "com/example/bolter/bolter/service/ParameterName", name := "<init>", desc := "(Ljava/lang/String;Ljava/lang/String;)V" } : Jvm.MethodName) prog_18_method_1_code (3 : Nat) (Option.none : Option Jvm.ClassFile.FieldType)).before a0 Z = true := hw _ (List.mem_of_getElem? (i := 78) rfl)
theorem hw79 {Z : State} {a0 : Array Value} (hw : ∀ d ∈ tables_1, d.before a0 Z = true) : (Jvm.Cond.methodLink "com/example/bolter/bolter/service/ParameterName" (1 : Nat) ({ cls := "java/lang/Record", name := "<init>", desc := "()V" } : Jvm.MethodName)).before a0 Z = true := hw _ (List.mem_of_getElem? (i := 79) rfl)
theorem hw80 {Z : State} {a0 : Array Value} (hw : ∀ d ∈ tables_1, d.before a0 Z = true) : (Jvm.Cond.instanceMethod ({ cls := "java/lang/Record", name := "<init>", desc := "()V" } : Jvm.MethodName)).before a0 Z = true := hw _ (List.mem_of_getElem? (i := 80) rfl)
theorem hw82 {Z : State} {a0 : Array Value} (hw : ∀ d ∈ tables_1, d.before a0 Z = true) : (Jvm.Cond.initialized "java/lang/Record").before a0 Z = true := hw _ (List.mem_of_getElem? (i := 82) rfl)
theorem hw83 {Z : State} {a0 : Array Value} (hw : ∀ d ∈ tables_1, d.before a0 Z = true) : (Jvm.Cond.code ({ cls := "java/lang/Record", name := "<init>", desc := "()V" } : Jvm.MethodName) jdk_30_method_1_code (1 : Nat) (Option.none : Option Jvm.ClassFile.FieldType)).before a0 Z = true := hw _ (List.mem_of_getElem? (i := 83) rfl)
theorem hw84 {Z : State} {a0 : Array Value} (hw : ∀ d ∈ tables_1, d.before a0 Z = true) : (Jvm.Cond.methodLink "java/lang/Record" (1 : Nat) ({ cls := "java/lang/Object", name := "<init>", desc := "()V" } : Jvm.MethodName)).before a0 Z = true := hw _ (List.mem_of_getElem? (i := 84) rfl)
theorem hw85 {Z : State} {a0 : Array Value} (hw : ∀ d ∈ tables_1, d.before a0 Z = true) : (Jvm.Cond.fieldLink "com/example/bolter/bolter/service/ParameterName" (7 : Nat) "com/example/bolter/bolter/service/ParameterName" "code" "Ljava/lang/String;").before a0 Z = true := hw _ (List.mem_of_getElem? (i := 85) rfl)
theorem hw86 {Z : State} {a0 : Array Value} (hw : ∀ d ∈ tables_1, d.before a0 Z = true) : (Jvm.Cond.laysFinal "com/example/bolter/bolter/service/ParameterName" "com/example/bolter/bolter/service/ParameterName" "code" "Ljava/lang/String;").before a0 Z = true := hw _ (List.mem_of_getElem? (i := 86) rfl)
theorem hw87 {Z : State} {a0 : Array Value} (hw : ∀ d ∈ tables_1, d.before a0 Z = true) : (Jvm.Cond.fieldLink "com/example/bolter/bolter/service/ParameterName" (13 : Nat) "com/example/bolter/bolter/service/ParameterName" "modifier" "Ljava/lang/String;").before a0 Z = true := hw _ (List.mem_of_getElem? (i := 87) rfl)
theorem hw88 {Z : State} {a0 : Array Value} (hw : ∀ d ∈ tables_1, d.before a0 Z = true) : (Jvm.Cond.laysFinal "com/example/bolter/bolter/service/ParameterName" "com/example/bolter/bolter/service/ParameterName" "modifier" "Ljava/lang/String;").before a0 Z = true := hw _ (List.mem_of_getElem? (i := 88) rfl)
theorem hw89 {Z : State} {a0 : Array Value} (hw : ∀ d ∈ tables_1, d.before a0 Z = true) : (Jvm.Cond.methodLink "com/example/bolter/bolter/service/ParameterNameOfPinLaw" (29 : Nat) ({ cls := "com/example/bolter/bolter/service/ParameterName", name := "code", desc := "()Ljava/lang/String;" } : Jvm.MethodName)).before a0 Z = true := hw _ (List.mem_of_getElem? (i := 89) rfl)
theorem hw90 {Z : State} {a0 : Array Value} (hw : ∀ d ∈ tables_1, d.before a0 Z = true) : (Jvm.Cond.declares ({ cls := "com/example/bolter/bolter/service/ParameterName", name := "code", desc := "()Ljava/lang/String;" } : Jvm.MethodName)).before a0 Z = true := hw _ (List.mem_of_getElem? (i := 90) rfl)
theorem hw91 {Z : State} {a0 : Array Value} (hw : ∀ d ∈ tables_1, d.before a0 Z = true) : (Jvm.Cond.instanceMethod ({ cls := "com/example/bolter/bolter/service/ParameterName", name := "code", desc := "()Ljava/lang/String;" } : Jvm.MethodName)).before a0 Z = true := hw _ (List.mem_of_getElem? (i := 91) rfl)
theorem hw92 {Z : State} {a0 : Array Value} (hw : ∀ d ∈ tables_1, d.before a0 Z = true) : (Jvm.Cond.selects "com/example/bolter/bolter/service/ParameterName" ({ cls := "com/example/bolter/bolter/service/ParameterName", name := "code", desc := "()Ljava/lang/String;" } : Jvm.MethodName) ({ cls := "com/example/bolter/bolter/service/ParameterName", name := "code", desc := "()Ljava/lang/String;" } : Jvm.MethodName)).before a0 Z = true := hw _ (List.mem_of_getElem? (i := 92) rfl)
theorem hw93 {Z : State} {a0 : Array Value} (hw : ∀ d ∈ tables_1, d.before a0 Z = true) : (Jvm.Cond.code ({ cls := "com/example/bolter/bolter/service/ParameterName", name := "code", desc := "()Ljava/lang/String;" } : Jvm.MethodName) prog_18_method_6_code (1 : Nat) (Option.some (Jvm.ClassFile.FieldType.object "java/lang/String"))).before a0 Z = true := hw _ (List.mem_of_getElem? (i := 93) rfl)
theorem hw94 {Z : State} {a0 : Array Value} (hw : ∀ d ∈ tables_1, d.before a0 Z = true) : (Jvm.Cond.methodLink "com/example/bolter/bolter/service/ParameterNameOfPinLaw" (33 : Nat) ({ cls := "java/lang/String", name := "equals", desc := "(Ljava/lang/Object;)Z" } : Jvm.MethodName)).before a0 Z = true := hw _ (List.mem_of_getElem? (i := 94) rfl)
theorem hw95 {Z : State} {a0 : Array Value} (hw : ∀ d ∈ tables_1, d.before a0 Z = true) : (Jvm.Cond.declares ({ cls := "java/lang/String", name := "equals", desc := "(Ljava/lang/Object;)Z" } : Jvm.MethodName)).before a0 Z = true := hw _ (List.mem_of_getElem? (i := 95) rfl)
theorem hw96 {Z : State} {a0 : Array Value} (hw : ∀ d ∈ tables_1, d.before a0 Z = true) : (Jvm.Cond.instanceMethod ({ cls := "java/lang/String", name := "equals", desc := "(Ljava/lang/Object;)Z" } : Jvm.MethodName)).before a0 Z = true := hw _ (List.mem_of_getElem? (i := 96) rfl)
theorem hw97 {Z : State} {a0 : Array Value} (hw : ∀ d ∈ tables_1, d.before a0 Z = true) : (Jvm.Cond.selects "java/lang/String" ({ cls := "java/lang/String", name := "equals", desc := "(Ljava/lang/Object;)Z" } : Jvm.MethodName) ({ cls := "java/lang/String", name := "equals", desc := "(Ljava/lang/Object;)Z" } : Jvm.MethodName)).before a0 Z = true := hw _ (List.mem_of_getElem? (i := 97) rfl)
theorem hw98 {Z : State} {a0 : Array Value} (hw : ∀ d ∈ tables_1, d.before a0 Z = true) : (Jvm.Cond.code ({ cls := "java/lang/String", name := "equals", desc := "(Ljava/lang/Object;)Z" } : Jvm.MethodName) jdk_42_method_66_code (3 : Nat) (Option.some Jvm.ClassFile.FieldType.boolean)).before a0 Z = true := hw _ (List.mem_of_getElem? (i := 98) rfl)
theorem hw99 {Z : State} {a0 : Array Value} (hw : ∀ d ∈ tables_1, d.before a0 Z = true) : (Jvm.Cond.methodLink "com/example/bolter/bolter/service/ParameterNameOfPinLaw" (37 : Nat) ({ cls := "com/example/bolter/bolter/service/ParameterName", name := "modifier", desc := "()Ljava/lang/String;" } : Jvm.MethodName)).before a0 Z = true := hw _ (List.mem_of_getElem? (i := 99) rfl)
theorem hw100 {Z : State} {a0 : Array Value} (hw : ∀ d ∈ tables_1, d.before a0 Z = true) : (Jvm.Cond.declares ({ cls := "com/example/bolter/bolter/service/ParameterName", name := "modifier", desc := "()Ljava/lang/String;" } : Jvm.MethodName)).before a0 Z = true := hw _ (List.mem_of_getElem? (i := 100) rfl)
theorem hw101 {Z : State} {a0 : Array Value} (hw : ∀ d ∈ tables_1, d.before a0 Z = true) : (Jvm.Cond.instanceMethod ({ cls := "com/example/bolter/bolter/service/ParameterName", name := "modifier", desc := "()Ljava/lang/String;" } : Jvm.MethodName)).before a0 Z = true := hw _ (List.mem_of_getElem? (i := 101) rfl)
theorem hw102 {Z : State} {a0 : Array Value} (hw : ∀ d ∈ tables_1, d.before a0 Z = true) : (Jvm.Cond.selects "com/example/bolter/bolter/service/ParameterName" ({ cls := "com/example/bolter/bolter/service/ParameterName", name := "modifier", desc := "()Ljava/lang/String;" } : Jvm.MethodName) ({ cls := "com/example/bolter/bolter/service/ParameterName", name := "modifier", desc := "()Ljava/lang/String;" } : Jvm.MethodName)).before a0 Z = true := hw _ (List.mem_of_getElem? (i := 102) rfl)
theorem hw103 {Z : State} {a0 : Array Value} (hw : ∀ d ∈ tables_1, d.before a0 Z = true) : (Jvm.Cond.code ({ cls := "com/example/bolter/bolter/service/ParameterName", name := "modifier", desc := "()Ljava/lang/String;" } : Jvm.MethodName) prog_18_method_7_code (1 : Nat) (Option.some (Jvm.ClassFile.FieldType.object "java/lang/String"))).before a0 Z = true := hw _ (List.mem_of_getElem? (i := 103) rfl)
theorem hw114 {Z : State} {a0 : Array Value} (hw : ∀ d ∈ tables_1, d.before a0 Z = true) : (Jvm.Cond.methodLink "java/lang/StringLatin1" (95 : Nat) ({ cls := "java/lang/StringLatin1", name := "indexOfChar", desc := "([BIII)I" } : Jvm.MethodName)).before a0 Z = true := hw _ (List.mem_of_getElem? (i := 114) rfl)
theorem hw115 {Z : State} {a0 : Array Value} (hw : ∀ d ∈ tables_1, d.before a0 Z = true) : (Jvm.Cond.static ({ cls := "java/lang/StringLatin1", name := "indexOfChar", desc := "([BIII)I" } : Jvm.MethodName)).before a0 Z = true := hw _ (List.mem_of_getElem? (i := 115) rfl)
theorem hw116 {Z : State} {a0 : Array Value} (hw : ∀ d ∈ tables_1, d.before a0 Z = true) : (Jvm.Cond.code ({ cls := "java/lang/StringLatin1", name := "indexOfChar", desc := "([BIII)I" } : Jvm.MethodName) jdk_43_method_23_code (6 : Nat) (Option.some Jvm.ClassFile.FieldType.int)).before a0 Z = true := hw _ (List.mem_of_getElem? (i := 116) rfl)
theorem hw117 {Z : State} {a0 : Array Value} (hw : ∀ d ∈ tables_1, d.before a0 Z = true) : (Jvm.Cond.methodLink "com/example/bolter/bolter/service/ParameterName" (22 : Nat) ({ cls := "java/lang/String", name := "substring", desc := "(II)Ljava/lang/String;" } : Jvm.MethodName)).before a0 Z = true := hw _ (List.mem_of_getElem? (i := 117) rfl)
theorem hw118 {Z : State} {a0 : Array Value} (hw : ∀ d ∈ tables_1, d.before a0 Z = true) : (Jvm.Cond.declares ({ cls := "java/lang/String", name := "substring", desc := "(II)Ljava/lang/String;" } : Jvm.MethodName)).before a0 Z = true := hw _ (List.mem_of_getElem? (i := 118) rfl)
theorem hw119 {Z : State} {a0 : Array Value} (hw : ∀ d ∈ tables_1, d.before a0 Z = true) : (Jvm.Cond.instanceMethod ({ cls := "java/lang/String", name := "substring", desc := "(II)Ljava/lang/String;" } : Jvm.MethodName)).before a0 Z = true := hw _ (List.mem_of_getElem? (i := 119) rfl)
theorem hw120 {Z : State} {a0 : Array Value} (hw : ∀ d ∈ tables_1, d.before a0 Z = true) : (Jvm.Cond.selects "java/lang/String" ({ cls := "java/lang/String", name := "substring", desc := "(II)Ljava/lang/String;" } : Jvm.MethodName) ({ cls := "java/lang/String", name := "substring", desc := "(II)Ljava/lang/String;" } : Jvm.MethodName)).before a0 Z = true := hw _ (List.mem_of_getElem? (i := 120) rfl)
theorem hw121 {Z : State} {a0 : Array Value} (hw : ∀ d ∈ tables_1, d.before a0 Z = true) : (Jvm.Cond.code ({ cls := "java/lang/String", name := "substring", desc := "(II)Ljava/lang/String;" } : Jvm.MethodName) jdk_42_method_92_code (5 : Nat) (Option.some (Jvm.ClassFile.FieldType.object "java/lang/String"))).before a0 Z = true := hw _ (List.mem_of_getElem? (i := 121) rfl)
theorem hw122 {Z : State} {a0 : Array Value} (hw : ∀ d ∈ tables_1, d.before a0 Z = true) : (Jvm.Cond.methodLink "java/lang/String" (521 : Nat) ({ cls := "java/lang/String", name := "checkBoundsBeginEnd", desc := "(III)V" } : Jvm.MethodName)).before a0 Z = true := hw _ (List.mem_of_getElem? (i := 122) rfl)
theorem hw123 {Z : State} {a0 : Array Value} (hw : ∀ d ∈ tables_1, d.before a0 Z = true) : (Jvm.Cond.static ({ cls := "java/lang/String", name := "checkBoundsBeginEnd", desc := "(III)V" } : Jvm.MethodName)).before a0 Z = true := hw _ (List.mem_of_getElem? (i := 123) rfl)
theorem hw124 {Z : State} {a0 : Array Value} (hw : ∀ d ∈ tables_1, d.before a0 Z = true) : (Jvm.Cond.code ({ cls := "java/lang/String", name := "checkBoundsBeginEnd", desc := "(III)V" } : Jvm.MethodName) jdk_42_method_158_code (3 : Nat) (Option.none : Option Jvm.ClassFile.FieldType)).before a0 Z = true := hw _ (List.mem_of_getElem? (i := 124) rfl)
theorem hw125 {Z : State} {a0 : Array Value} (hw : ∀ d ∈ tables_1, d.before a0 Z = true) : (Jvm.Cond.fieldLink "java/lang/String" (1053 : Nat) "jdk/internal/util/Preconditions" "SIOOBE_FORMATTER" "Ljava/util/function/BiFunction;").before a0 Z = true := hw _ (List.mem_of_getElem? (i := 125) rfl)
theorem hw126 {Z : State} {a0 : Array Value} (hw : ∀ d ∈ tables_1, d.before a0 Z = true) : (Jvm.Cond.initialized "jdk/internal/util/Preconditions").before a0 Z = true := hw _ (List.mem_of_getElem? (i := 126) rfl)
theorem hw127 {Z : State} {a0 : Array Value} (hw : ∀ d ∈ tables_1, d.before a0 Z = true) : (Jvm.Cond.methodLink "java/lang/String" (1062 : Nat) ({ cls := "jdk/internal/util/Preconditions", name := "checkFromToIndex", desc := "(IIILjava/util/function/BiFunction;)I" } : Jvm.MethodName)).before a0 Z = true := hw _ (List.mem_of_getElem? (i := 127) rfl)
theorem hw128 {Z : State} {a0 : Array Value} (hw : ∀ d ∈ tables_1, d.before a0 Z = true) : (Jvm.Cond.static ({ cls := "jdk/internal/util/Preconditions", name := "checkFromToIndex", desc := "(IIILjava/util/function/BiFunction;)I" } : Jvm.MethodName)).before a0 Z = true := hw _ (List.mem_of_getElem? (i := 128) rfl)
theorem hw129 {Z : State} {a0 : Array Value} (hw : ∀ d ∈ tables_1, d.before a0 Z = true) : (Jvm.Cond.code ({ cls := "jdk/internal/util/Preconditions", name := "checkFromToIndex", desc := "(IIILjava/util/function/BiFunction;)I" } : Jvm.MethodName) jdk_41_method_12_code (4 : Nat) (Option.some Jvm.ClassFile.FieldType.int)).before a0 Z = true := hw _ (List.mem_of_getElem? (i := 129) rfl)
theorem hw130 {Z : State} {a0 : Array Value} (hw : ∀ d ∈ tables_1, d.before a0 Z = true) : (Jvm.Cond.methodLink "java/lang/String" (685 : Nat) ({ cls := "java/lang/StringLatin1", name := "newString", desc := "([BII)Ljava/lang/String;" } : Jvm.MethodName)).before a0 Z = true := hw _ (List.mem_of_getElem? (i := 130) rfl)
theorem hw131 {Z : State} {a0 : Array Value} (hw : ∀ d ∈ tables_1, d.before a0 Z = true) : (Jvm.Cond.static ({ cls := "java/lang/StringLatin1", name := "newString", desc := "([BII)Ljava/lang/String;" } : Jvm.MethodName)).before a0 Z = true := hw _ (List.mem_of_getElem? (i := 131) rfl)
theorem hw132 {Z : State} {a0 : Array Value} (hw : ∀ d ∈ tables_1, d.before a0 Z = true) : (Jvm.Cond.code ({ cls := "java/lang/StringLatin1", name := "newString", desc := "([BII)Ljava/lang/String;" } : Jvm.MethodName) jdk_43_method_47_code (3 : Nat) (Option.some (Jvm.ClassFile.FieldType.object "java/lang/String"))).before a0 Z = true := hw _ (List.mem_of_getElem? (i := 132) rfl)
theorem hw133 {Z : State} {a0 : Array Value} (hw : ∀ d ∈ tables_1, d.before a0 Z = true) : (Jvm.Cond.stringLink "java/lang/StringLatin1" (151 : Nat) "").before a0 Z = true := hw _ (List.mem_of_getElem? (i := 133) rfl)
theorem hw134 {Z : State} {a0 : Array Value} (hw : ∀ d ∈ tables_1, d.before a0 Z = true) : (Jvm.Cond.methodLink "com/example/bolter/bolter/service/ParameterName" (26 : Nat) ({ cls := "java/lang/String", name := "substring", desc := "(I)Ljava/lang/String;" } : Jvm.MethodName)).before a0 Z = true := hw _ (List.mem_of_getElem? (i := 134) rfl)
theorem hw135 {Z : State} {a0 : Array Value} (hw : ∀ d ∈ tables_1, d.before a0 Z = true) : (Jvm.Cond.declares ({ cls := "java/lang/String", name := "substring", desc := "(I)Ljava/lang/String;" } : Jvm.MethodName)).before a0 Z = true := hw _ (List.mem_of_getElem? (i := 135) rfl)
theorem hw136 {Z : State} {a0 : Array Value} (hw : ∀ d ∈ tables_1, d.before a0 Z = true) : (Jvm.Cond.instanceMethod ({ cls := "java/lang/String", name := "substring", desc := "(I)Ljava/lang/String;" } : Jvm.MethodName)).before a0 Z = true := hw _ (List.mem_of_getElem? (i := 136) rfl)
theorem hw137 {Z : State} {a0 : Array Value} (hw : ∀ d ∈ tables_1, d.before a0 Z = true) : (Jvm.Cond.selects "java/lang/String" ({ cls := "java/lang/String", name := "substring", desc := "(I)Ljava/lang/String;" } : Jvm.MethodName) ({ cls := "java/lang/String", name := "substring", desc := "(I)Ljava/lang/String;" } : Jvm.MethodName)).before a0 Z = true := hw _ (List.mem_of_getElem? (i := 137) rfl)
theorem hw138 {Z : State} {a0 : Array Value} (hw : ∀ d ∈ tables_1, d.before a0 Z = true) : (Jvm.Cond.code ({ cls := "java/lang/String", name := "substring", desc := "(I)Ljava/lang/String;" } : Jvm.MethodName) jdk_42_method_91_code (2 : Nat) (Option.some (Jvm.ClassFile.FieldType.object "java/lang/String"))).before a0 Z = true := hw _ (List.mem_of_getElem? (i := 138) rfl)
theorem hw139 {Z : State} {a0 : Array Value} (hw : ∀ d ∈ tables_1, d.before a0 Z = true) : (Jvm.Cond.methodLink "java/lang/String" (681 : Nat) ({ cls := "java/lang/String", name := "substring", desc := "(II)Ljava/lang/String;" } : Jvm.MethodName)).before a0 Z = true := hw _ (List.mem_of_getElem? (i := 139) rfl)
theorem hw140 {Z : State} {a0 : Array Value} (hw : ∀ d ∈ tables_1, d.before a0 Z = true) : (Jvm.Cond.classLink "java/lang/StringLatin1" (1 : Nat) "java/lang/String").before a0 Z = true := hw _ (List.mem_of_getElem? (i := 140) rfl)
theorem hw141 {Z : State} {a0 : Array Value} (hw : ∀ d ∈ tables_1, d.before a0 Z = true) : (Jvm.Cond.methodLink "java/lang/StringLatin1" (232 : Nat) ({ cls := "java/util/Arrays", name := "copyOfRange", desc := "([BII)[B" } : Jvm.MethodName)).before a0 Z = true := hw _ (List.mem_of_getElem? (i := 141) rfl)
theorem hw142 {Z : State} {a0 : Array Value} (hw : ∀ d ∈ tables_1, d.before a0 Z = true) : (Jvm.Cond.static ({ cls := "java/util/Arrays", name := "copyOfRange", desc := "([BII)[B" } : Jvm.MethodName)).before a0 Z = true := hw _ (List.mem_of_getElem? (i := 142) rfl)
theorem hw143 {Z : State} {a0 : Array Value} (hw : ∀ d ∈ tables_1, d.before a0 Z = true) : (Jvm.Cond.initialized "java/util/Arrays").before a0 Z = true := hw _ (List.mem_of_getElem? (i := 143) rfl)
theorem hw144 {Z : State} {a0 : Array Value} (hw : ∀ d ∈ tables_1, d.before a0 Z = true) : (Jvm.Cond.code ({ cls := "java/util/Arrays", name := "copyOfRange", desc := "([BII)[B" } : Jvm.MethodName) jdk_65_method_132_code (3 : Nat) (Option.some (Jvm.ClassFile.FieldType.array Jvm.ClassFile.FieldType.byte))).before a0 Z = true := hw _ (List.mem_of_getElem? (i := 144) rfl)
theorem hw145 {Z : State} {a0 : Array Value} (hw : ∀ d ∈ tables_1, d.before a0 Z = true) : (Jvm.Cond.methodLink "java/util/Arrays" (339 : Nat) ({ cls := "java/util/Arrays", name := "copyOfRangeByte", desc := "([BII)[B" } : Jvm.MethodName)).before a0 Z = true := hw _ (List.mem_of_getElem? (i := 145) rfl)
theorem hw146 {Z : State} {a0 : Array Value} (hw : ∀ d ∈ tables_1, d.before a0 Z = true) : (Jvm.Cond.static ({ cls := "java/util/Arrays", name := "copyOfRangeByte", desc := "([BII)[B" } : Jvm.MethodName)).before a0 Z = true := hw _ (List.mem_of_getElem? (i := 146) rfl)
theorem hw147 {Z : State} {a0 : Array Value} (hw : ∀ d ∈ tables_1, d.before a0 Z = true) : (Jvm.Cond.code ({ cls := "java/util/Arrays", name := "copyOfRangeByte", desc := "([BII)[B" } : Jvm.MethodName) jdk_65_method_133_code (5 : Nat) (Option.some (Jvm.ClassFile.FieldType.array Jvm.ClassFile.FieldType.byte))).before a0 Z = true := hw _ (List.mem_of_getElem? (i := 147) rfl)
theorem hw148 {Z : State} {a0 : Array Value} (hw : ∀ d ∈ tables_1, d.before a0 Z = true) : (Jvm.Cond.methodLink "java/util/Arrays" (343 : Nat) ({ cls := "java/util/Arrays", name := "checkLength", desc := "(II)V" } : Jvm.MethodName)).before a0 Z = true := hw _ (List.mem_of_getElem? (i := 148) rfl)
theorem hw149 {Z : State} {a0 : Array Value} (hw : ∀ d ∈ tables_1, d.before a0 Z = true) : (Jvm.Cond.static ({ cls := "java/util/Arrays", name := "checkLength", desc := "(II)V" } : Jvm.MethodName)).before a0 Z = true := hw _ (List.mem_of_getElem? (i := 149) rfl)
theorem hw150 {Z : State} {a0 : Array Value} (hw : ∀ d ∈ tables_1, d.before a0 Z = true) : (Jvm.Cond.code ({ cls := "java/util/Arrays", name := "checkLength", desc := "(II)V" } : Jvm.MethodName) jdk_65_method_131_code (2 : Nat) (Option.none : Option Jvm.ClassFile.FieldType)).before a0 Z = true := hw _ (List.mem_of_getElem? (i := 150) rfl)
theorem hw151 {Z : State} {a0 : Array Value} (hw : ∀ d ∈ tables_1, d.before a0 Z = true) : (Jvm.Cond.methodLink "java/util/Arrays" (304 : Nat) ({ cls := "java/lang/Math", name := "min", desc := "(II)I" } : Jvm.MethodName)).before a0 Z = true := hw _ (List.mem_of_getElem? (i := 151) rfl)
theorem hw152 {Z : State} {a0 : Array Value} (hw : ∀ d ∈ tables_1, d.before a0 Z = true) : (Jvm.Cond.methodLink "java/util/Arrays" (150 : Nat) ({ cls := "java/lang/System", name := "arraycopy", desc := "(Ljava/lang/Object;ILjava/lang/Object;II)V" } : Jvm.MethodName)).before a0 Z = true := hw _ (List.mem_of_getElem? (i := 152) rfl)
theorem hw153 {Z : State} {a0 : Array Value} (hw : ∀ d ∈ tables_1, d.before a0 Z = true) : (Jvm.Cond.static ({ cls := "java/lang/System", name := "arraycopy", desc := "(Ljava/lang/Object;ILjava/lang/Object;II)V" } : Jvm.MethodName)).before a0 Z = true := hw _ (List.mem_of_getElem? (i := 153) rfl)
theorem hw154 {Z : State} {a0 : Array Value} (hw : ∀ d ∈ tables_1, d.before a0 Z = true) : (Jvm.Cond.initialized "java/lang/System").before a0 Z = true := hw _ (List.mem_of_getElem? (i := 154) rfl)
theorem hw155 {Z : State} {a0 : Array Value} (hw : ∀ d ∈ tables_1, d.before a0 Z = true) : (Jvm.Cond.native ({ cls := "java/lang/System", name := "arraycopy", desc := "(Ljava/lang/Object;ILjava/lang/Object;II)V" } : Jvm.MethodName)).before a0 Z = true := hw _ (List.mem_of_getElem? (i := 155) rfl)
theorem hw156 {Z : State} {a0 : Array Value} (hw : ∀ d ∈ tables_1, d.before a0 Z = true) : (Jvm.Cond.methodLink "java/lang/StringLatin1" (112 : Nat) ({ cls := "java/lang/String", name := "<init>", desc := "([BB)V" } : Jvm.MethodName)).before a0 Z = true := hw _ (List.mem_of_getElem? (i := 156) rfl)
theorem hw157 {Z : State} {a0 : Array Value} (hw : ∀ d ∈ tables_1, d.before a0 Z = true) : (Jvm.Cond.instanceMethod ({ cls := "java/lang/String", name := "<init>", desc := "([BB)V" } : Jvm.MethodName)).before a0 Z = true := hw _ (List.mem_of_getElem? (i := 157) rfl)
theorem hw158 {Z : State} {a0 : Array Value} (hw : ∀ d ∈ tables_1, d.before a0 Z = true) : (Jvm.Cond.code ({ cls := "java/lang/String", name := "<init>", desc := "([BB)V" } : Jvm.MethodName) jdk_42_method_151_code (3 : Nat) (Option.none : Option Jvm.ClassFile.FieldType)).before a0 Z = true := hw _ (List.mem_of_getElem? (i := 158) rfl)
theorem own_EW {Z : State} {a0 : Array Value} (hw : ∀ d ∈ tables_1, d.before a0 Z = true) : EW Z a0 EL := (EW.cons (hw22 hw) (by decide) (EW.cons (hw133 hw) (by decide) EW.nil))
theorem own_safeArv {Z : State} {vm : Vm} {h : Heap} {x : Addr} {k : ClassId} {ty : FieldType} {z : Int32} {vs : List Value} {d : Value} (hal : Z.vm.Alike vm) (F : Arv Z h x k ty z vs d) (ht : ty ≠ .byte) : Safe Z EL vm h x := by
  obtain ⟨c, A, -⟩ := F
  exact Safe.arr hal A ht
theorem own_z01 (P : Prop) [Decidable P] : (if P then (1 : Int32) else 0) = 0 ∨ (if P then (1 : Int32) else 0) = 1 := by by_cases h : P <;> simp [h]
theorem own_or3 (x : Int32) : (x &&& (3 : Int32)) = 0 ∨ (x &&& (3 : Int32)) = 1 ∨ (x &&& (3 : Int32)) = 2 ∨ (x &&& (3 : Int32)) = 3 := by
  have h : (x &&& 3).toBitVec.toNat < 4 := by
    simp only [Int32.toBitVec_and, BitVec.toNat_and]
    exact Nat.lt_succ_of_le Nat.and_le_right
  have e : (x &&& (3 : Int32)) = Int32.ofNat (x &&& 3).toBitVec.toNat := by
    apply Int32.toBitVec_inj.mp
    show _ = BitVec.ofNat 32 _
    rw [BitVec.ofNat_toNat]; simp
  have t : ∀ k : Fin 4, Int32.ofNat k.val = 0 ∨ Int32.ofNat k.val = 1 ∨ Int32.ofNat k.val = 2 ∨ Int32.ofNat k.val = 3 := by decide
  rw [e]
  exact t ⟨_, h⟩
abbrev Three (x : Int32) : Prop := x = 0 ∨ x = 1 ∨ x = 2
theorem own_rem3 (x : Int32) : Three ((x &&& (3 : Int32)) % (3 : Int32)) := by rcases own_or3 x with h | h | h | h <;> rw [h] <;> decide
theorem own_nlt {i n : Nat} (hi : i < 2 ^ 31) (hn : n < 2 ^ 31) : Int32.ofNat i < Int32.ofNat n ↔ i < n := by
  rw [Int32.lt_iff_toInt_lt, Int32.toInt_ofNat_of_lt hi, Int32.toInt_ofNat_of_lt hn]; omega
theorem own_nadd (i j : Nat) : Int32.ofNat i + Int32.ofNat j = Int32.ofNat (i + j) := by
  apply Int32.toBitVec_inj.mp
  show BitVec.ofNat 32 i + BitVec.ofNat 32 j = BitVec.ofNat 32 (i + j)
  rw [BitVec.ofNat_add]
theorem own_nadd1 (i : Nat) : Int32.ofNat i + (1 : Int32) = Int32.ofNat (i + 1) := own_nadd i 1
theorem own_nsub {i j : Nat} (h : j ≤ i) : Int32.ofNat i - Int32.ofNat j = Int32.ofNat (i - j) := by
  obtain ⟨k, rfl⟩ := Nat.exists_eq_add_of_le h
  rw [← own_nadd, Nat.add_sub_cancel_left]
  apply Int32.toBitVec_inj.mp
  show (BitVec.ofNat 32 j + BitVec.ofNat 32 k) - BitVec.ofNat 32 j = BitVec.ofNat 32 k
  rw [BitVec.add_comm, BitVec.add_sub_cancel]
theorem own_nneg {i : Nat} (hi : i < 2 ^ 31) : ¬ Int32.ofNat i < 0 := by
  rw [Int32.lt_iff_toInt_lt, Int32.toInt_ofNat_of_lt hi]; have : (0 : Int32).toInt = 0 := rfl; omega
theorem own_nclamp {i : Nat} (hi : i < 2 ^ 31) : (Int32.ofNat i).toNatClampNeg = i := by
  show (Int32.ofNat i).toInt.toNat = i
  rw [Int32.toInt_ofNat_of_lt hi]; rfl
theorem own_ninj {i j : Nat} (hi : i < 2 ^ 31) (hj : j < 2 ^ 31) (h : Int32.ofNat i = Int32.ofNat j) : i = j := by
  have := congrArg Int32.toInt h
  rw [Int32.toInt_ofNat_of_lt hi, Int32.toInt_ofNat_of_lt hj] at this; omega
theorem own_ne0 {i : Nat} (hi : i < 2 ^ 31) (h : ¬ i = 0) : ¬ Int32.ofNat i = (0 : Int32) := fun q => h (own_ninj hi (by decide) q)
theorem own_irr (x : Int32) : ¬ x < x := by rw [Int32.lt_iff_toInt_lt]; omega
theorem own_small {n : Nat} (h : n ≤ 4000) : n < 2 ^ 31 := by omega
theorem own_getb {cs : List Int32} {k : Nat} {c : Int32} {d : Value} (h : cs[k]? = some c) (hk : k < 2 ^ 31) : ((cs.map fun c => c.toInt8.toInt32).map Value.int).getD (Int32.ofNat k).toNatClampNeg d = .int c.toInt8.toInt32 := by
  rw [own_nclamp hk]; simp [List.getD_eq_getElem?_getD, h]
theorem own_dn {cs : List Int32} {k : Nat} (hk : k ≤ cs.length) (h : cs.drop k = []) : k = cs.length := by
  have := List.drop_eq_nil_iff.mp h; omega
theorem own_dc {cs r : List Int32} {k : Nat} {c : Int32} (h : cs.drop k = c :: r) : k < cs.length ∧ cs[k]? = some c ∧ cs.drop (k + 1) = r := by
  have h1 : k < cs.length := by
    apply Nat.lt_of_not_le
    intro q
    rw [List.drop_eq_nil_iff.mpr q] at h; cases h
  refine ⟨h1, ?_, ?_⟩
  · have := congrArg (fun l => l[0]?) h
    simpa using this
  · have := congrArg List.tail h
    simpa [List.tail_drop] using this

def own_ix : Nat → List Int32 → Int32
  | _, [] => -1
  | k, c :: r => if c = 58 then Int32.ofNat k else own_ix (k + 1) r
theorem own_lo58 {c : Int32} (h : ¬ c < 0 ∧ ¬ (255 : Int32) < c) : c.toInt8.toInt32 = 58 ↔ c = 58 := by
  have t : ∀ k : Fin 256, (Int32.ofNat k.val).toInt8.toInt32 = 58 ↔ Int32.ofNat k.val = 58 := by decide +kernel
  obtain ⟨k, rfl⟩ := own_rng h
  exact t k
theorem own_ixy {k : Nat} {c : Int32} {r : List Int32} (h : c = 58) : own_ix k (c :: r) = Int32.ofNat k := by simp [own_ix, h]
theorem own_ixn {k : Nat} {c : Int32} {r : List Int32} (h : ¬ c = 58) : own_ix k (c :: r) = own_ix (k + 1) r := by simp [own_ix, h]
theorem own_ix0 {cs : List Int32} (h : ¬ (0 : Int32) < Int32.ofNat cs.length) (hl : cs.length ≤ 4000) : own_ix 0 cs = -1 := by
  have : cs.length = 0 := by
    apply Nat.eq_zero_of_not_pos
    intro q
    exact h ((own_nlt (i := 0) (by decide) (own_small hl)).mpr q)
  rw [List.eq_nil_of_length_eq_zero this]; rfl
theorem own_mem {cs r : List Int32} {k : Nat} {c : Int32} (h : cs.drop k = c :: r) : c ∈ cs := List.mem_of_getElem? (own_dc h).2.1
theorem own_cut {cs : List Int32} {b n : Nat} (h : b + n ≤ cs.length) : ((cs.drop b).take n).length = n := by simp; omega
theorem own_us {cs : List Int32} {b n : Nat} {d : Value} (h : b + n ≤ cs.length) (hl : cs.length ≤ 4) : (((cs.drop b).take n).map fun c => c.toInt8.toInt32).map Value.int = (List.range (Int32.ofNat n).toNatClampNeg).map fun i => ((cs.map fun c => c.toInt8.toInt32).map Value.int).getD ((Int32.ofNat b).toNatClampNeg + i) d := by
  rw [own_nclamp (by omega), own_nclamp (by omega)]
  apply List.ext_getElem?
  intro i
  by_cases hi : i < n
  · simp [List.getElem?_take, hi, List.getElem?_drop, List.getD_eq_getElem?_getD]
    have : b + i < cs.length := by omega
    simp [this]
  · have h1 : n ≤ i := by omega
    simp [List.getElem?_take, hi, h1]
theorem own_sub {cs : List Int32} {b n : Nat} (hr : ∀ c ∈ cs, ¬ c < 0 ∧ ¬ (255 : Int32) < c) : ∀ c ∈ (cs.drop b).take n, ¬ c < 0 ∧ ¬ (255 : Int32) < c := fun c hc => hr c (List.mem_of_mem_drop (List.mem_of_mem_take hc))
theorem own_hge {i j : Nat} (h : i ≤ j) (hj : j < 2 ^ 31) : Int32.ofNat i < Int32.ofNat j ∨ Int32.ofNat i = Int32.ofNat j := by
  rcases Nat.lt_or_eq_of_le h with q | q
  · exact Or.inl ((own_nlt (by omega) hj).mpr q)
  · exact Or.inr (by rw [q])
theorem own_cpy {n : Nat} {d : Value} {us : List Value} (h : n < 2 ^ 31) : (([] ++ List.replicate n d).take (0 : Int32).toNatClampNeg) ++ us ++ (([] ++ List.replicate n d).drop ((0 : Int32).toNatClampNeg + (Int32.ofNat n).toNatClampNeg)) = us := by
  rw [own_nclamp h]
  have e : (0 : Int32).toNatClampNeg = 0 := rfl
  rw [e]; simp
theorem own_nself (b : Nat) : Int32.ofNat b - Int32.ofNat b = (0 : Int32) := by rw [own_nsub (Nat.le_refl b), Nat.sub_self]; rfl
theorem own_le {n m : Nat} (h : n ≤ m) (hm : m ≤ 4) : n = 0 ∨ n = 1 ∨ n = 2 ∨ n = 3 ∨ n = 4 := by omega
theorem own_rem5 (x : Int32) : ∃ n : Nat, n ≤ 4 ∧ (x &&& (2147483647 : Int32)) % (5 : Int32) = Int32.ofNat n := by
  obtain ⟨k, hk⟩ : ∃ k : Nat, k = (x &&& (2147483647 : Int32)).toBitVec.toNat := ⟨_, rfl⟩
  have hlt : k < 2 ^ 31 := by
    rw [hk]; simp only [Int32.toBitVec_and, BitVec.toNat_and]
    exact Nat.lt_of_le_of_lt Nat.and_le_right (by decide)
  have e : (x &&& (2147483647 : Int32)) = Int32.ofNat k := by
    apply Int32.toBitVec_inj.mp
    apply BitVec.eq_of_toNat_eq
    show _ = (BitVec.ofNat 32 k).toNat
    rw [← hk, BitVec.toNat_ofNat]
    omega
  refine ⟨k % 5, by omega, ?_⟩
  rw [e]
  apply Int32.toInt_inj.mp
  rw [Int32.toInt_mod, Int32.toInt_ofNat_of_lt hlt, Int32.toInt_ofNat_of_lt (by omega)]
  have e5 : (5 : Int32).toInt = 5 := rfl
  rw [e5, Int.tmod_eq_emod_of_nonneg (by omega)]
  omega
theorem own_ns2 {n k : Nat} (h : k + 1 ≤ n) : Int32.ofNat n - Int32.ofNat k - (1 : Int32) = Int32.ofNat (n - k - 1) := by
  rw [own_nsub (by omega)]
  exact own_nsub (j := 1) (by omega)
theorem own_ltn {i n : Nat} (hn : n ≤ 4) (hi : i ≤ 4) : Int32.ofNat i < Int32.ofNat n ↔ i < n := own_nlt (by omega) (by omega)
def own_kk (n : Nat) (c0 c1 c2 c3 i8 : Int32) : Prop := (i8 = -1 ∧ own_ix 0 (([c0, c1, c2, c3].drop 0).take n) = -1) ∨ ∃ k : Nat, k < n ∧ i8 = Int32.ofNat k ∧ own_ix 0 (([c0, c1, c2, c3].drop 0).take n) = Int32.ofNat k
theorem own_kN {n : Nat} {c0 c1 c2 c3 : Int32} (hn : n ≤ 4) (h0 : ¬ 0 < n ∨ ¬ c0 = 58) (h1 : ¬ 1 < n ∨ ¬ c1 = 58) (h2 : ¬ 2 < n ∨ ¬ c2 = 58) (h3 : ¬ 3 < n ∨ ¬ c3 = 58) : own_kk n c0 c1 c2 c3 (-1) := by
  left
  refine ⟨rfl, ?_⟩
  rcases own_le hn (Nat.le_refl 4) with rfl | rfl | rfl | rfl | rfl <;> simp_all [own_ix]
theorem own_k0 {n : Nat} {c0 c1 c2 c3 : Int32} (hn : n ≤ 4) (h0 : 0 < n) (e : c0 = 58) : own_kk n c0 c1 c2 c3 0 := by
  right
  refine ⟨0, h0, rfl, ?_⟩
  rcases own_le hn (Nat.le_refl 4) with rfl | rfl | rfl | rfl | rfl <;> simp_all [own_ix]
theorem own_k1 {n : Nat} {c0 c1 c2 c3 : Int32} (hn : n ≤ 4) (h0 : ¬ 0 < n ∨ ¬ c0 = 58) (h1 : 1 < n) (e : c1 = 58) : own_kk n c0 c1 c2 c3 1 := by
  right
  refine ⟨1, h1, rfl, ?_⟩
  rcases own_le hn (Nat.le_refl 4) with rfl | rfl | rfl | rfl | rfl <;> simp_all [own_ix]
theorem own_k2 {n : Nat} {c0 c1 c2 c3 : Int32} (hn : n ≤ 4) (h0 : ¬ 0 < n ∨ ¬ c0 = 58) (h1 : ¬ 1 < n ∨ ¬ c1 = 58) (h2 : 2 < n) (e : c2 = 58) : own_kk n c0 c1 c2 c3 2 := by
  right
  refine ⟨2, h2, rfl, ?_⟩
  rcases own_le hn (Nat.le_refl 4) with rfl | rfl | rfl | rfl | rfl <;> simp_all [own_ix]
theorem own_k3 {n : Nat} {c0 c1 c2 c3 : Int32} (hn : n ≤ 4) (h0 : ¬ 0 < n ∨ ¬ c0 = 58) (h1 : ¬ 1 < n ∨ ¬ c1 = 58) (h2 : ¬ 2 < n ∨ ¬ c2 = 58) (h3 : 3 < n) (e : c3 = 58) : own_kk n c0 c1 c2 c3 3 := by
  right
  refine ⟨3, h3, rfl, ?_⟩
  rcases own_le hn (Nat.le_refl 4) with rfl | rfl | rfl | rfl | rfl <;> simp_all [own_ix]
theorem own_tt {n k : Nat} {c0 c1 c2 c3 : Int32} (hk : k < n) (hn : n ≤ 4) : (([c0, c1, c2, c3].drop 0).take n).take k = ([c0, c1, c2, c3].drop 0).take k := by
  rw [List.take_take, Nat.min_eq_left (Nat.le_of_lt hk)]
theorem own_dd {n k : Nat} {c0 c1 c2 c3 : Int32} (hk : k < n) (hn : n ≤ 4) : (([c0, c1, c2, c3].drop 0).take n).drop (k + 1) = ([c0, c1, c2, c3].drop (k + 1)).take (n - k - 1) := by
  rw [List.drop_zero, List.drop_take]
  congr 1
theorem own_one {P : Prop} [Decidable P] (h : P) : ¬ (if P then (1 : Int32) else 0) = 0 := by rw [if_pos h]; decide
theorem own_len4 {n : Nat} {c0 c1 c2 c3 : Int32} (hn : n ≤ 4) : (([c0, c1, c2, c3].drop 0).take n).length = n := by simp; omega

theorem ef_s4e (m : MethodId) (a : Addr) (b : Addr) : entryFrame m #[(.ref a), (.ref b), (.int (0 : Int32)), (.int (0 : Int32)), .null] 6 = (mkF m 0 #[.val (.ref a), .val (.ref b), .val (.int (0 : Int32)), .val (.int (0 : Int32)), .val .null, uS] []) := by first | (simp [entryFrame, mkF, argsToLocals, Value.category]; done) | rfl
def Q_s4e (Z : State) (a : Addr) (b : Addr) (h0 : Heap) (n0 : Nat) (v : Option Value) (h : Heap) (L : List Loc) : Prop := ∃ (t : Addr) (kb : ClassId), v = none ∧ Fr n0 L ∧ Keep h0 h [a] ∧ Str Z h a t kb [] ∧ a ≠ t
set_option maxRecDepth 65536 in
set_option maxHeartbeats 40000000 in
theorem rm_s4e (l : Launch) (Z : State) (a0 : Array Value) (hw : ∀ d ∈ tables_1, d.before a0 Z = true) (ws : List Jvm.Cond) (a : Addr) (b : Addr) (h0 : Heap) (n0 : Nat) (Z0 : n0 ≤ h0.size) (P0 : Exa Z h0 a "java/lang/String") (P1 : Fld Z h0 a "java/lang/String" "value" "[B" .null) (P2 : Fld Z h0 a "java/lang/String" "coder" "B" (.int (0 : Int32))) (g_a : n0 ≤ a) :
    MetFree l (⟨"java/lang/String", "<init>", "([CIILjava/lang/Void;)V"⟩ : MethodName) (head1 (Jvm.Cond.code (⟨"java/lang/String", "<init>", "([CIILjava/lang/Void;)V"⟩ : MethodName) jdk_42_method_149_code 6 none :: ws) ({ frames := 1, cells := 4, slots := 8, locals := 12 } : Room)) (fun aR U => aR = #[(.ref a), (.ref b), (.int (0 : Int32)), (.int (0 : Int32)), .null] ∧ Z.Warmed39 U.vm ∧ U.heap = h0 ∧ CHv Z EL U.vm h0 ∧ ∀ x ∈ ([a] : List Addr), Safe Z EL U.vm h0 x) (fun _ _ _ _ _ => True) (fun _ U o U' => ∃ v L, o = .returned v ∧ Q_s4e Z a b h0 n0 v U'.heap L ∧ CHr Z EL U.vm U.heap U'.vm U'.heap ∧ ReturnedEndW U o U' L ({ frames := 1, cells := 4, slots := 8, locals := 12 } : Room).cells ({ frames := 1, cells := 4, slots := 8, locals := 12 } : Room).slots) := by
 refine MetFree.of_bodySF (plainFor_of_name pn_0) hisR ?_
 intro p e s m args below meth c s₁ Bd hml0 hP hK
 obtain ⟨rfl, hZ, hh, hCH, hSF⟩ := hP
 have hx := Bd.exec
 have hby := Bd.bytes
 have hml : c.maxLocals = 6 := hml0
 have hown : s.vm.findClass "java/lang/String" = some m.cls := findClass_of_methodNamed Bd.named
 have hnm := (name_of_methodNamed Bd.named Bd.method).1
 have X0 : Stand p l e ({ frames := 1, cells := 4, slots := 8, locals := 12 } : Room) (s.setVm s.vm) m #[(.ref a), (.ref b), (.int (0 : Int32)), (.int (0 : Int32)), .null] below meth c s₁ [] 0 0 := Stand.of_body Bd
 have e0 : s₁.heap = h0 := by rw [← hh, Bd.state]; rfl
 have N0 := Fr.nil n0
 show Goes p.tables e below _ _
 rw [ef_s4e m a b]
 refine Goes.named ?_
 intro QQ hQQ
 have hS0 : s.Since s.vm 0 := (State.WarmedH.refl s).since 0
 have hk0 : 0 ≤ h0.size := Nat.zero_le _
 have CR0 : CHr Z EL s.vm h0 s.vm h0 := CHr.refl hCH
 have sf0_a : Safe Z EL s.vm h0 a := hSF _ (List.mem_of_getElem? (i := 0) rfl)
 refine Goes.st (fun sT kT => XS.aloadN X0.here hx rfl (hb hby d4_0) rfl rfl kT) ?_
 show Goes _ _ _ _ (s₁.setTop (mkF m 1 #[.val (.ref a), .val (.ref b), .val (.int (0 : Int32)), .val (.int (0 : Int32)), .val .null, uS] [(.ref a)]))
 obtain ⟨T1, X1, e1, st1⟩ := initO X0 hx hZ hown (hw19 hw) (hw20 hw) (hw21 hw) e0 (g := (mkF m 1 #[.val (.ref a), .val (.ref b), .val (.int (0 : Int32)), .val (.int (0 : Int32)), .val .null, uS] [(.ref a)])) rfl (by rw [hml]; rfl) rfl (hb hby d4_1) (by decide) (W := 0) (by show 2 * 0 + _ ≤ _; exact Nat.le_of_eq rfl) (by decide)
 refine Goes.st st1 ?_
 show Goes _ _ _ _ (T1.setTop (mkF m 4 #[.val (.ref a), .val (.ref b), .val (.int (0 : Int32)), .val (.int (0 : Int32)), .val .null, uS] []))
 refine Goes.st (fun sT kT => XS.iloadN X1.here hx rfl (hb hby d4_4) rfl kT) ?_
 show Goes _ _ _ _ (T1.setTop (mkF m 5 #[.val (.ref a), .val (.ref b), .val (.int (0 : Int32)), .val (.int (0 : Int32)), .val .null, uS] [(.int (0 : Int32))]))
 refine Goes.st (fun sT kT => XS.ifNo X1.here hx rfl (hb hby d4_5) rfl ((if0 _ _).trans (teq (by decide : (0 : Int32) = (0 : Int32))).2) kT) ?_
 show Goes _ _ _ _ (T1.setTop (mkF m 8 #[.val (.ref a), .val (.ref b), .val (.int (0 : Int32)), .val (.int (0 : Int32)), .val .null, uS] []))
 refine Goes.st (fun sT kT => XS.aloadN X1.here hx rfl (hb hby d4_8) rfl rfl kT) ?_
 show Goes _ _ _ _ (T1.setTop (mkF m 9 #[.val (.ref a), .val (.ref b), .val (.int (0 : Int32)), .val (.int (0 : Int32)), .val .null, uS] [(.ref a)]))
 obtain ⟨b2, T2, h2, kk2, t2, kb2, X2, e2, E2, hS2, hk2, hZ2, hown2, Ex2, Cd2, Vf2, Av2, lb2, lt2, C2, Lt2, hne2, st2⟩ := ldcCH X1 hx hZ hown (hw22 hw) (own_wS hw) e1 hS0 hk0 (own_EW hw) (by decide +kernel) CR0.1 (vs := []) (z := (0 : Int32)) ⟨by decide, by decide⟩ (by decide) (by decide) (g := (mkF m 9 #[.val (.ref a), .val (.ref b), .val (.int (0 : Int32)), .val (.int (0 : Int32)), .val .null, uS] [(.ref a)])) rfl (hb hby d4_9) (n := 0) (by decide) (by decide) (by decide) (by decide)
 have CR2 : CHr Z EL s.vm h0 T2.vm h2 := CR0.trans C2
 have sf2_a : Safe Z EL T2.vm h2 a := C2.safe P0.lt sf0_a
 refine Goes.st st2 ?_
 show Goes _ _ _ _ (T2.setTop (mkF m 11 #[.val (.ref a), .val (.ref b), .val (.int (0 : Int32)), .val (.int (0 : Int32)), .val .null, uS] [(.ref b2), (.ref a)]))
 obtain ⟨T3, X3, e3, st3⟩ := getF X2 hx hZ2 hown2 (host := "") (Or.inl (hw28 hw)) Via.refl e2 Vf2 (g := (mkF m 11 #[.val (.ref a), .val (.ref b), .val (.int (0 : Int32)), .val (.int (0 : Int32)), .val .null, uS] [(.ref b2), (.ref a)])) rfl rfl (hb hby d4_11)
 refine Goes.st st3 ?_
 show Goes _ _ _ _ (T3.setTop (mkF m 14 #[.val (.ref a), .val (.ref b), .val (.int (0 : Int32)), .val (.int (0 : Int32)), .val .null, uS] [(.ref t2), (.ref a)]))
 have f4 : Exa Z h2 a "java/lang/String" := (P0.ext E2)
 have f5 : Fld Z h2 a "java/lang/String" "value" "[B" .null := (P1.ext E2)
 obtain ⟨T6, h6, X6, e6, W6, st6⟩ := putF X3 hx hZ2 hown2 (host := "") (Or.inl (hw28 hw)) Via.refl e3 f5 f4 (Or.inr ⟨(hw24 hw), rfl, hnm⟩) (hw10 hw) (ty := (.array .byte)) (by decide) rfl rfl (g := (mkF m 14 #[.val (.ref a), .val (.ref b), .val (.int (0 : Int32)), .val (.int (0 : Int32)), .val .null, uS] [(.ref t2), (.ref a)])) rfl rfl (hb hby d4_14)
 have N6 := Fr.snoc X6 N0 g_a
 have CR7 : CHr Z EL s.vm h0 T2.vm h6 := CR2.trans (CHr.wr W6 sf2_a CR2.1)
 have sf7_a : Safe Z EL T2.vm h6 a := Safe.wr W6 sf2_a CR2.1 sf2_a
 have F6 := f5.same W6
 refine Goes.st st6 ?_
 show Goes _ _ _ _ (T6.setTop (mkF m 17 #[.val (.ref a), .val (.ref b), .val (.int (0 : Int32)), .val (.int (0 : Int32)), .val .null, uS] []))
 refine Goes.st (fun sT kT => XS.aloadN X6.here hx rfl (hb hby d4_17) rfl rfl kT) ?_
 show Goes _ _ _ _ (T6.setTop (mkF m 18 #[.val (.ref a), .val (.ref b), .val (.int (0 : Int32)), .val (.int (0 : Int32)), .val .null, uS] [(.ref a)]))
 obtain ⟨b8, T8, h8, kk8, t8, kb8, X8, e8, E8, hS8, hk8, hZ8, hown8, Ex8, Cd8, Vf8, Av8, lb8, lt8, C8, Lt8, hne8, st8⟩ := ldcCH X6 hx hZ2 hown2 (hw22 hw) (own_wS hw) e6 hS2 (Nat.le_trans hk2 (Nat.le_of_eq W6.size.symm)) (own_EW hw) (by decide +kernel) CR7.1 (vs := []) (z := (0 : Int32)) ⟨by decide, by decide⟩ (by decide) (by decide) (g := (mkF m 18 #[.val (.ref a), .val (.ref b), .val (.int (0 : Int32)), .val (.int (0 : Int32)), .val .null, uS] [(.ref a)])) rfl (hb hby d4_18) (n := 0) (by decide) (by decide) (by decide) (by decide)
 have CR8 : CHr Z EL s.vm h0 T8.vm h8 := CR7.trans C8
 have sf8_a : Safe Z EL T8.vm h8 a := C8.safe (Nat.lt_of_lt_of_le P0.lt (Nat.le_trans E2.1 (Nat.le_of_eq W6.size.symm))) sf7_a
 refine Goes.st st8 ?_
 show Goes _ _ _ _ (T8.setTop (mkF m 20 #[.val (.ref a), .val (.ref b), .val (.int (0 : Int32)), .val (.int (0 : Int32)), .val .null, uS] [(.ref b8), (.ref a)]))
 obtain ⟨T9, X9, e9, st9⟩ := getF X8 hx hZ8 hown8 (host := "") (Or.inl (hw29 hw)) Via.refl e8 Cd8 (g := (mkF m 20 #[.val (.ref a), .val (.ref b), .val (.int (0 : Int32)), .val (.int (0 : Int32)), .val .null, uS] [(.ref b8), (.ref a)])) rfl rfl (hb hby d4_20)
 refine Goes.st st9 ?_
 show Goes _ _ _ _ (T9.setTop (mkF m 23 #[.val (.ref a), .val (.ref b), .val (.int (0 : Int32)), .val (.int (0 : Int32)), .val .null, uS] [(.int (0 : Int32)), (.ref a)]))
 have f10 : Exa Z h8 a "java/lang/String" := ((f4.wr W6).ext E8)
 have f11 : Fld Z h8 a "java/lang/String" "coder" "B" (.int (0 : Int32)) := (((P2.ext E2).other W6 (Or.inr (slot_ne (Or.inr (hw25 hw)) (Or.inr (hw24 hw)) (by decide) (t := .byte) (t' := (.array .byte)) (by decide) (by decide)))).ext E8)
 obtain ⟨T12, h12, X12, e12, W12, st12⟩ := putFN X9 hx hZ8 hown8 (hw29 hw) Via.refl e9 f11 f10 (Or.inr ⟨(hw25 hw), rfl, hnm⟩) (hw10 hw) (ty := .byte) (v' := (.int (0 : Int32))) (by decide) rfl (by decide) (g := (mkF m 23 #[.val (.ref a), .val (.ref b), .val (.int (0 : Int32)), .val (.int (0 : Int32)), .val .null, uS] [(.int (0 : Int32)), (.ref a)])) rfl rfl (hb hby d4_23)
 have N12 := Fr.snoc X12 N6 g_a
 have CR13 : CHr Z EL s.vm h0 T8.vm h12 := CR8.trans (CHr.wr W12 sf8_a CR8.1)
 have sf13_a : Safe Z EL T8.vm h12 a := Safe.wr W12 sf8_a CR8.1 sf8_a
 have F12 := f11.same W12
 refine Goes.st st12 ?_
 show Goes _ _ _ _ (T12.setTop (mkF m 26 #[.val (.ref a), .val (.ref b), .val (.int (0 : Int32)), .val (.int (0 : Int32)), .val .null, uS] []))
 have f15 : Exa Z h12 a "java/lang/String" := (f10.wr W12)
 have f16 : Fld Z h12 a "java/lang/String" "value" "[B" (.ref t2) := ((F6.ext E8).other W12 (Or.inr (slot_ne (Or.inr (hw24 hw)) (Or.inr (hw25 hw)) (by decide) (t := (.array .byte)) (t' := .byte) (by decide) (by decide))))
 have f17 : Arv Z h12 t2 kb2 .byte (0 : Int32) [] (.int (0 : Int32)) := (((Av2.other W6 (Ne.symm (hne2 _ sf2_a).2)).ext E8).other W12 (Ne.symm (hne2 _ sf2_a).2))
 have S14 : Str Z h12 a t2 kb2 [] := ⟨f15, f16, F12, f17, own_c0, Nat.zero_le _⟩
 have kp18 : Keep h0 h2 [a] := (Keep.refl h0 [a]).ext E2
 have kp19 : Keep h0 h6 [a] := kp18.wr W6 (Or.inl (List.mem_of_getElem? (i := 0) rfl))
 have kp20 : Keep h0 h8 [a] := kp19.ext E8
 have kp21 : Keep h0 h12 [a] := kp20.wr W12 (Or.inl (List.mem_of_getElem? (i := 0) rfl))
 obtain ⟨fs, hr, hrun, hended, hRW⟩ := X12.leaveW hS8 (by rw [e12]; exact (Nat.le_trans hk8 (Nat.le_of_eq W12.size.symm))) (v := none) (fun _ => rfl)
 subst hQQ
 have hCR : CHr Z EL s.vm s.heap T12.vm T12.heap := by rw [hh, e12]; exact CR13.trans (CHv.at X12 hZ8 (own_EW hw) CR13.1)
 refine ⟨_, _, X12.returnOut hx Bd.returns (hb hby d4_26) hr, hrun, hended, _, _, rfl, ?_, hCR, own_REmono hRW (by decide) (by decide)⟩
 show Q_s4e Z a b h0 n0 _ T12.heap _
 rw [e12]
 exact ⟨t2, kb2, rfl, N12, kp21, S14, (hne2 _ sf2_a).2⟩
theorem ef_s1e (m : MethodId) (a : Addr) (b : Addr) (kc : ClassId) : entryFrame m #[(.ref a), (.ref b)] 2 = (mkF m 0 #[.val (.ref a), .val (.ref b)] []) := by first | (simp [entryFrame, mkF, argsToLocals, Value.category]; done) | rfl
def Q_s1e (Z : State) (a : Addr) (b : Addr) (kc : ClassId) (h0 : Heap) (n0 : Nat) (v : Option Value) (h : Heap) (L : List Loc) : Prop := ∃ (t : Addr) (kb : ClassId), v = none ∧ Fr n0 L ∧ Keep h0 h [a] ∧ Str Z h a t kb [] ∧ a ≠ t
set_option maxRecDepth 65536 in
set_option maxHeartbeats 40000000 in
theorem rm_s1e (l : Launch) (Z : State) (a0 : Array Value) (hw : ∀ d ∈ tables_1, d.before a0 Z = true) (ws : List Jvm.Cond) (a : Addr) (b : Addr) (kc : ClassId) (h0 : Heap) (n0 : Nat) (Z0 : n0 ≤ h0.size) (P0 : Exa Z h0 a "java/lang/String") (P1 : Fld Z h0 a "java/lang/String" "value" "[B" .null) (P2 : Fld Z h0 a "java/lang/String" "coder" "B" (.int (0 : Int32))) (P3 : Arv Z h0 b kc .char (0 : Int32) [] (.int (0 : Int32))) (g_a : n0 ≤ a) :
    MetFree l (⟨"java/lang/String", "<init>", "([C)V"⟩ : MethodName) (head1 (Jvm.Cond.code (⟨"java/lang/String", "<init>", "([C)V"⟩ : MethodName) jdk_42_method_3_code 2 none :: ws) ({ frames := 2, cells := 4, slots := 8, locals := 29 } : Room)) (fun aR U => aR = #[(.ref a), (.ref b)] ∧ Z.Warmed39 U.vm ∧ U.heap = h0 ∧ CHv Z EL U.vm h0 ∧ ∀ x ∈ ([a] : List Addr), Safe Z EL U.vm h0 x) (fun _ _ _ _ _ => True) (fun _ U o U' => ∃ v L, o = .returned v ∧ Q_s1e Z a b kc h0 n0 v U'.heap L ∧ CHr Z EL U.vm U.heap U'.vm U'.heap ∧ ReturnedEndW U o U' L ({ frames := 2, cells := 4, slots := 8, locals := 29 } : Room).cells ({ frames := 2, cells := 4, slots := 8, locals := 29 } : Room).slots) := by
 refine MetFree.of_bodySF (plainFor_of_name pn_0) hisR ?_
 intro p e s m args below meth c s₁ Bd hml0 hP hK
 obtain ⟨rfl, hZ, hh, hCH, hSF⟩ := hP
 have hx := Bd.exec
 have hby := Bd.bytes
 have hml : c.maxLocals = 2 := hml0
 have hown : s.vm.findClass "java/lang/String" = some m.cls := findClass_of_methodNamed Bd.named
 have hnm := (name_of_methodNamed Bd.named Bd.method).1
 have X0 : Stand p l e ({ frames := 2, cells := 4, slots := 8, locals := 29 } : Room) (s.setVm s.vm) m #[(.ref a), (.ref b)] below meth c s₁ [] 0 0 := Stand.of_body Bd
 have e0 : s₁.heap = h0 := by rw [← hh, Bd.state]; rfl
 have N0 := Fr.nil n0
 show Goes p.tables e below _ _
 rw [ef_s1e m a b kc]
 refine Goes.named ?_
 intro QQ hQQ
 have hS0 : s.Since s.vm 0 := (State.WarmedH.refl s).since 0
 have hk0 : 0 ≤ h0.size := Nat.zero_le _
 have CR0 : CHr Z EL s.vm h0 s.vm h0 := CHr.refl hCH
 have sf0_a : Safe Z EL s.vm h0 a := hSF _ (List.mem_of_getElem? (i := 0) rfl)
 refine Goes.st (fun sT kT => XS.aloadN X0.here hx rfl (hb hby d3_0) rfl rfl kT) ?_
 show Goes _ _ _ _ (s₁.setTop (mkF m 1 #[.val (.ref a), .val (.ref b)] [(.ref a)]))
 refine Goes.st (fun sT kT => XS.aloadN X0.here hx rfl (hb hby d3_1) rfl rfl kT) ?_
 show Goes _ _ _ _ (s₁.setTop (mkF m 2 #[.val (.ref a), .val (.ref b)] [(.ref b), (.ref a)]))
 refine Goes.st (fun sT kT => XS.iconst X0.here hx rfl (hb hby d3_2) kT) ?_
 show Goes _ _ _ _ (s₁.setTop (mkF m 3 #[.val (.ref a), .val (.ref b)] [(.int (0 : Int32)), (.ref b), (.ref a)]))
 refine Goes.st (fun sT kT => XS.aloadN X0.here hx rfl (hb hby d3_3) rfl rfl kT) ?_
 show Goes _ _ _ _ (s₁.setTop (mkF m 4 #[.val (.ref a), .val (.ref b)] [(.ref b), (.int (0 : Int32)), (.ref b), (.ref a)]))
 obtain ⟨oc1, oA1, oq1, oS1, oM1, oH1, oG1⟩ := id P3
 refine Goes.st (fun sT kT => X0.arraylength hx (by rw [e0]; exact oA1.1) (State.isArrayOf_alike hZ.alike oA1.2.1) (g := (mkF m 4 #[.val (.ref a), .val (.ref b)] [(.ref b), (.int (0 : Int32)), (.ref b), (.ref a)])) rfl rfl (hb hby d3_4) _ kT) ?_
 rw [len_of oS1 oM1]
 show Goes _ _ _ _ (s₁.setTop (mkF m 5 #[.val (.ref a), .val (.ref b)] [(.int (0 : Int32)), (.int (0 : Int32)), (.ref b), (.ref a)]))
 refine Goes.st (fun sT kT => XS.aconstNull X0.here hx rfl (hb hby d3_5) kT) ?_
 show Goes _ _ _ _ (s₁.setTop (mkF m 6 #[.val (.ref a), .val (.ref b)] [.null, (.int (0 : Int32)), (.int (0 : Int32)), (.ref b), (.ref a)]))
 obtain ⟨_, _, ⟨T2, L2, k2, n2⟩, -, X2, hSr2, hgr2, ⟨Lc2, hQ2, l2, y2, z2, C2⟩, st2⟩ := X0.specialBackS hx (y := (⟨"java/lang/String", "<init>", "([CIILjava/lang/Void;)V"⟩ : MethodName)) rfl hown (mvT hZ (hw15 hw)) (mvT hZ (hw16 hw)) (mvT hZ (hw18 hw)) (by decide) (own_backW (W := 0) (xs := [a]) (rm_s4e l Z a0 hw [] a b h0 n0 Z0 P0 P1 P2 g_a) hZ (hw18 hw) (hw11 hw) (by decide) (by decide) (own_EW hw) CR0.1 (allS ⟨P0.lt, sf0_a⟩ all0)) (g := (mkF m 6 #[.val (.ref a), .val (.ref b)] [.null, (.int (0 : Int32)), (.int (0 : Int32)), (.ref b), (.ref a)])) rfl (by rw [hml]; rfl) (Steps.refl _) (a := a) (argsL := [(.ref b), (.int (0 : Int32)), (.int (0 : Int32)), .null]) (rest := []) (lenOf pd_0 rfl) rfl (by show 2 * 0 + _ ≤ _; exact Nat.le_of_eq rfl) (hb hby d3_6) (fun _ _ => ⟨rfl, e0, (by decide : 0 + 4 ≤ _), (by decide : 0 + 8 ≤ _)⟩)
 dsimp only [Pt.U, Pt.locs, Pt.cells, Pt.slots] at X2 l2 y2 z2 st2 hQ2 hSr2 hgr2 C2
 subst l2 y2 z2
 obtain ⟨X2, hS2, hZ2, hown2⟩ := rebS hS0 (by rw [e0]; exact hk0) X2 hSr2 hgr2 hZ hown
 obtain ⟨t2, kb2, rfl, N2q, K2, F2_0, ne2_0⟩ := hQ2
 have N2 := Fr.app N0 N2q
 have F2_0E := F2_0.1
 have CR3 : CHr Z EL s.vm h0 T2.vm T2.heap := CR0.trans (C2)
 have sf3_a : Safe Z EL T2.vm T2.heap a := C2.safe P0.lt sf0_a
 refine Goes.tr st2 ?_
 show Goes _ _ _ _ (T2.setTop (mkF m 9 #[.val (.ref a), .val (.ref b)] []))
 have kp4 : Keep h0 T2.heap [a] := (Keep.refl h0 [a]).trans K2 (allS (Or.inl (List.mem_of_getElem? (i := 0) rfl)) all0)
 obtain ⟨fs, hr, hrun, hended, hRW⟩ := X2.leaveW hS2 (Nat.le_refl _) (v := none) (fun _ => rfl)
 subst hQQ
 have hCR : CHr Z EL s.vm s.heap T2.vm T2.heap := by rw [hh]; exact CR3.trans (CHv.at X2 hZ2 (own_EW hw) CR3.1)
 refine ⟨_, _, X2.returnOut hx Bd.returns (hb hby d3_9) hr, hrun, hended, _, _, rfl, ?_, hCR, own_REmono hRW (by decide) (by decide)⟩
 show Q_s1e Z a b kc h0 n0 _ T2.heap _
 exact ⟨t2, kb2, rfl, N2, kp4, F2_0, ne2_0⟩
theorem ef_isL (m : MethodId) (a : Addr) (G1 : Int32) : entryFrame m #[(.ref a)] 1 = (mkF m 0 #[.val (.ref a)] []) := by first | (simp [entryFrame, mkF, argsToLocals, Value.category]; done) | rfl
def Q_isL (Z : State) (a : Addr) (G1 : Int32) (h0 : Heap) (n0 : Nat) (v : Option Value) (h : Heap) (L : List Loc) : Prop := v = some (.int (1 : Int32)) ∧ Fr n0 L ∧ h = h0
set_option maxRecDepth 65536 in
set_option maxHeartbeats 40000000 in
theorem rm_isL (l : Launch) (Z : State) (a0 : Array Value) (hw : ∀ d ∈ tables_1, d.before a0 Z = true) (ws : List Jvm.Cond) (a : Addr) (G1 : Int32) (h0 : Heap) (n0 : Nat) (Z0 : n0 ≤ h0.size) (P0 : Fld Z h0 a "java/lang/String" "coder" "B" (.int (0 : Int32))) (P1 : Old Z n0 h0) (O2 : Sta Z Z.heap "java/lang/String" "COMPACT_STRINGS" "Z" (.int G1)) (P5 : ¬ (G1 = (0 : Int32))) :
    MetFree l (⟨"java/lang/String", "isLatin1", "()Z"⟩ : MethodName) (head1 (Jvm.Cond.code (⟨"java/lang/String", "isLatin1", "()Z"⟩ : MethodName) jdk_42_method_154_code 1 (some .boolean) :: ws) ({ frames := 0, cells := 0, slots := 0, locals := 0 } : Room)) (fun aR U => aR = #[(.ref a)] ∧ Z.Warmed39 U.vm ∧ U.heap = h0) (fun _ _ _ _ _ => True) (fun _ U o U' => ∃ v L, o = .returned v ∧ Q_isL Z a G1 h0 n0 v U'.heap L ∧ FrameEnd U o U' L ({ frames := 0, cells := 0, slots := 0, locals := 0 } : Room).cells ({ frames := 0, cells := 0, slots := 0, locals := 0 } : Room).slots) := by
 refine MetFree.of_bodySF (plainFor_of_name pn_0) hisR ?_
 intro p e s m args below meth c s₁ Bd hml0 hP hK
 obtain ⟨rfl, hZ, hh⟩ := hP
 have hx := Bd.exec
 have hby := Bd.bytes
 have hml : c.maxLocals = 1 := hml0
 have hown : s.vm.findClass "java/lang/String" = some m.cls := findClass_of_methodNamed Bd.named
 have hnm := (name_of_methodNamed Bd.named Bd.method).1
 have X0 : Stand p l e ({ frames := 0, cells := 0, slots := 0, locals := 0 } : Room) s m #[(.ref a)] below meth c s₁ [] 0 0 := Stand.of_body Bd
 have e0 : s₁.heap = h0 := by rw [← hh, Bd.state]; rfl
 have N0 := Fr.nil n0
 show Goes p.tables e below _ _
 rw [ef_isL m a G1]
 refine Goes.named ?_
 intro QQ hQQ
 obtain ⟨T1, X1, e1, st1⟩ := getS2 X0 hx hZ hown (host := "") (Or.inl (hw49 hw)) Via.refl e0 (O2.ext P1.2) (g := (mkF m 0 #[.val (.ref a)] [])) rfl (hb hby d9_0)
 refine Goes.st st1 ?_
 show Goes _ _ _ _ (T1.setTop (mkF m 3 #[.val (.ref a)] [(.int G1)]))
 refine Goes.st (fun sT kT => XS.ifNo X1.here hx rfl (hb hby d9_3) rfl ((if0 _ _).trans (feq P5).1) kT) ?_
 show Goes _ _ _ _ (T1.setTop (mkF m 6 #[.val (.ref a)] []))
 refine Goes.st (fun sT kT => XS.aloadN X1.here hx rfl (hb hby d9_6) rfl rfl kT) ?_
 show Goes _ _ _ _ (T1.setTop (mkF m 7 #[.val (.ref a)] [(.ref a)]))
 obtain ⟨T2, X2, e2, st2⟩ := getF X1 hx hZ hown (host := "") (Or.inl (hw29 hw)) Via.refl e1 P0 (g := (mkF m 7 #[.val (.ref a)] [(.ref a)])) rfl rfl (hb hby d9_7)
 refine Goes.st st2 ?_
 show Goes _ _ _ _ (T2.setTop (mkF m 10 #[.val (.ref a)] [(.int (0 : Int32))]))
 refine Goes.st (fun sT kT => XS.ifNo X2.here hx rfl (hb hby d9_10) rfl ((if0 _ _).trans (teq (by decide : (0 : Int32) = (0 : Int32))).2) kT) ?_
 show Goes _ _ _ _ (T2.setTop (mkF m 13 #[.val (.ref a)] []))
 refine Goes.st (fun sT kT => XS.iconst X2.here hx rfl (hb hby d9_13) kT) ?_
 show Goes _ _ _ _ (T2.setTop (mkF m 14 #[.val (.ref a)] [(.int (1 : Int32))]))
 refine Goes.st (fun sT kT => XS.goto X2.here hx rfl (pc0 := 14) (pc' := 18) rfl (hb hby d9_14) (by decide) (by decide) kT) ?_
 show Goes _ _ _ _ (T2.setTop (mkF m 18 #[.val (.ref a)] [(.int (1 : Int32))]))
 obtain ⟨fs, hr, hrun, hended, hW, hsame⟩ := X2.leave (v := some (.int (1 : Int32))) (fun h => by rw [Bd.returns] at h; cases h)
 subst hQQ
 refine ⟨_, _, retN X2 hx (t := .boolean) Bd.returns (by simp) (hb hby d9_18) hr, hrun, hended, _, _, rfl, ?_, ⟨_, rfl⟩, hW, hsame.mono (by decide) (by decide)⟩
 show Q_isL Z a G1 h0 n0 _ T2.heap _
 rw [e2]
 exact ⟨rfl, N0, rfl⟩
theorem ef_canI (m : MethodId)  : entryFrame m #[(.int (58 : Int32))] 1 = (mkF m 0 #[.val (.int (58 : Int32))] []) := by first | (simp [entryFrame, mkF, argsToLocals, Value.category]; done) | rfl
def Q_canI (Z : State)  (h0 : Heap) (n0 : Nat) (v : Option Value) (h : Heap) (L : List Loc) : Prop := v = some (.int (1 : Int32)) ∧ Fr n0 L ∧ h = h0
set_option maxRecDepth 65536 in
set_option maxHeartbeats 40000000 in
theorem rm_canI (l : Launch) (Z : State) (a0 : Array Value) (hw : ∀ d ∈ tables_1, d.before a0 Z = true) (ws : List Jvm.Cond)  (h0 : Heap) (n0 : Nat) (Z0 : n0 ≤ h0.size) :
    MetFree l (⟨"java/lang/StringLatin1", "canEncode", "(I)Z"⟩ : MethodName) (head1 (Jvm.Cond.code (⟨"java/lang/StringLatin1", "canEncode", "(I)Z"⟩ : MethodName) jdk_43_method_4_code 1 (some .boolean) :: ws) ({ frames := 0, cells := 0, slots := 0, locals := 0 } : Room)) (fun aR U => aR = #[(.int (58 : Int32))] ∧ Z.Warmed39 U.vm ∧ U.heap = h0) (fun _ _ _ _ _ => True) (fun _ U o U' => ∃ v L, o = .returned v ∧ Q_canI Z  h0 n0 v U'.heap L ∧ FrameEnd U o U' L ({ frames := 0, cells := 0, slots := 0, locals := 0 } : Room).cells ({ frames := 0, cells := 0, slots := 0, locals := 0 } : Room).slots) := by
 refine MetFree.of_bodySF (plainFor_of_name pn_1) hisR ?_
 intro p e s m args below meth c s₁ Bd hml0 hP hK
 obtain ⟨rfl, hZ, hh⟩ := hP
 have hx := Bd.exec
 have hby := Bd.bytes
 have hml : c.maxLocals = 1 := hml0
 have hown : s.vm.findClass "java/lang/StringLatin1" = some m.cls := findClass_of_methodNamed Bd.named
 have hnm := (name_of_methodNamed Bd.named Bd.method).1
 have X0 : Stand p l e ({ frames := 0, cells := 0, slots := 0, locals := 0 } : Room) s m #[(.int (58 : Int32))] below meth c s₁ [] 0 0 := Stand.of_body Bd
 have e0 : s₁.heap = h0 := by rw [← hh, Bd.state]; rfl
 have N0 := Fr.nil n0
 show Goes p.tables e below _ _
 rw [ef_canI m ]
 refine Goes.named ?_
 intro QQ hQQ
 refine Goes.st (fun sT kT => XS.iloadN X0.here hx rfl (hb hby d13_0) rfl kT) ?_
 show Goes _ _ _ _ (s₁.setTop (mkF m 1 #[.val (.int (58 : Int32))] [(.int (58 : Int32))]))
 refine Goes.st (fun sT kT => XS.ifNo X0.here hx rfl (hb hby d13_1) rfl ((if0 _ _).trans (flt (by decide : ¬ ((58 : Int32) < (0 : Int32)))).1) kT) ?_
 show Goes _ _ _ _ (s₁.setTop (mkF m 4 #[.val (.int (58 : Int32))] []))
 refine Goes.st (fun sT kT => XS.iloadN X0.here hx rfl (hb hby d13_4) rfl kT) ?_
 show Goes _ _ _ _ (s₁.setTop (mkF m 5 #[.val (.int (58 : Int32))] [(.int (58 : Int32))]))
 refine Goes.st (fun sT kT => XS.sipush X0.here hx rfl (hb hby d13_5) kT) ?_
 show Goes _ _ _ _ (s₁.setTop (mkF m 8 #[.val (.int (58 : Int32))] [(.int (255 : Int32)), (.int (58 : Int32))]))
 refine Goes.st (fun sT kT => XS.icmpNo X0.here hx rfl (hb hby d13_8) rfl (flt (by decide : ¬ ((255 : Int32) < (58 : Int32)))).2.2.1 kT) ?_
 show Goes _ _ _ _ (s₁.setTop (mkF m 11 #[.val (.int (58 : Int32))] []))
 refine Goes.st (fun sT kT => XS.iconst X0.here hx rfl (hb hby d13_11) kT) ?_
 show Goes _ _ _ _ (s₁.setTop (mkF m 12 #[.val (.int (58 : Int32))] [(.int (1 : Int32))]))
 refine Goes.st (fun sT kT => XS.goto X0.here hx rfl (pc0 := 12) (pc' := 16) rfl (hb hby d13_12) (by decide) (by decide) kT) ?_
 show Goes _ _ _ _ (s₁.setTop (mkF m 16 #[.val (.int (58 : Int32))] [(.int (1 : Int32))]))
 obtain ⟨fs, hr, hrun, hended, hW, hsame⟩ := X0.leave (v := some (.int (1 : Int32))) (fun h => by rw [Bd.returns] at h; cases h)
 subst hQQ
 refine ⟨_, _, retN X0 hx (t := .boolean) Bd.returns (by simp) (hb hby d13_16) hr, hrun, hended, _, _, rfl, ?_, ⟨_, rfl⟩, hW, hsame.mono (by decide) (by decide)⟩
 show Q_canI Z  h0 n0 _ s₁.heap _
 rw [e0]
 exact ⟨rfl, N0, rfl⟩
theorem ef_max00 (m : MethodId)  : entryFrame m #[(.int (0 : Int32)), (.int (0 : Int32))] 2 = (mkF m 0 #[.val (.int (0 : Int32)), .val (.int (0 : Int32))] []) := by first | (simp [entryFrame, mkF, argsToLocals, Value.category]; done) | rfl
def Q_max00 (Z : State)  (h0 : Heap) (n0 : Nat) (v : Option Value) (h : Heap) (L : List Loc) : Prop := v = some (.int (0 : Int32)) ∧ Fr n0 L ∧ h = h0
set_option maxRecDepth 65536 in
set_option maxHeartbeats 40000000 in
theorem rm_max00 (l : Launch) (Z : State) (a0 : Array Value) (hw : ∀ d ∈ tables_1, d.before a0 Z = true) (ws : List Jvm.Cond)  (h0 : Heap) (n0 : Nat) (Z0 : n0 ≤ h0.size) :
    MetFree l (⟨"java/lang/Math", "max", "(II)I"⟩ : MethodName) (head1 (Jvm.Cond.code (⟨"java/lang/Math", "max", "(II)I"⟩ : MethodName) jdk_29_method_65_code 2 (some .int) :: ws) ({ frames := 0, cells := 0, slots := 0, locals := 0 } : Room)) (fun aR U => aR = #[(.int (0 : Int32)), (.int (0 : Int32))] ∧ Z.Warmed39 U.vm ∧ U.heap = h0) (fun _ _ _ _ _ => True) (fun _ U o U' => ∃ v L, o = .returned v ∧ Q_max00 Z  h0 n0 v U'.heap L ∧ FrameEnd U o U' L ({ frames := 0, cells := 0, slots := 0, locals := 0 } : Room).cells ({ frames := 0, cells := 0, slots := 0, locals := 0 } : Room).slots) := by
 refine MetFree.of_bodySF pn_2 hisR ?_
 intro p e s m args below meth c s₁ Bd hml0 hP hK
 obtain ⟨rfl, hZ, hh⟩ := hP
 have hx := Bd.exec
 have hby := Bd.bytes
 have hml : c.maxLocals = 2 := hml0
 have hown : s.vm.findClass "java/lang/Math" = some m.cls := findClass_of_methodNamed Bd.named
 have hnm := (name_of_methodNamed Bd.named Bd.method).1
 have X0 : Stand p l e ({ frames := 0, cells := 0, slots := 0, locals := 0 } : Room) s m #[(.int (0 : Int32)), (.int (0 : Int32))] below meth c s₁ [] 0 0 := Stand.of_body Bd
 have e0 : s₁.heap = h0 := by rw [← hh, Bd.state]; rfl
 have N0 := Fr.nil n0
 show Goes p.tables e below _ _
 rw [ef_max00 m ]
 refine Goes.named ?_
 intro QQ hQQ
 refine Goes.st (fun sT kT => XS.iloadN X0.here hx rfl (hb hby d14_0) rfl kT) ?_
 show Goes _ _ _ _ (s₁.setTop (mkF m 1 #[.val (.int (0 : Int32)), .val (.int (0 : Int32))] [(.int (0 : Int32))]))
 refine Goes.st (fun sT kT => XS.iloadN X0.here hx rfl (hb hby d14_1) rfl kT) ?_
 show Goes _ _ _ _ (s₁.setTop (mkF m 2 #[.val (.int (0 : Int32)), .val (.int (0 : Int32))] [(.int (0 : Int32)), (.int (0 : Int32))]))
 refine Goes.st (fun sT kT => XS.icmpNo X0.here hx rfl (hb hby d14_2) rfl (flt (by decide : ¬ ((0 : Int32) < (0 : Int32)))).1 kT) ?_
 show Goes _ _ _ _ (s₁.setTop (mkF m 5 #[.val (.int (0 : Int32)), .val (.int (0 : Int32))] []))
 refine Goes.st (fun sT kT => XS.iloadN X0.here hx rfl (hb hby d14_5) rfl kT) ?_
 show Goes _ _ _ _ (s₁.setTop (mkF m 6 #[.val (.int (0 : Int32)), .val (.int (0 : Int32))] [(.int (0 : Int32))]))
 refine Goes.st (fun sT kT => XS.goto X0.here hx rfl (pc0 := 6) (pc' := 10) rfl (hb hby d14_6) (by decide) (by decide) kT) ?_
 show Goes _ _ _ _ (s₁.setTop (mkF m 10 #[.val (.int (0 : Int32)), .val (.int (0 : Int32))] [(.int (0 : Int32))]))
 obtain ⟨fs, hr, hrun, hended, hW, hsame⟩ := X0.leave (v := some (.int (0 : Int32))) (fun h => by rw [Bd.returns] at h; cases h)
 subst hQQ
 refine ⟨_, _, retI X0 hx Bd.returns (hb hby d14_10) hr, hrun, hended, _, _, rfl, ?_, ⟨_, rfl⟩, hW, hsame.mono (by decide) (by decide)⟩
 show Q_max00 Z  h0 n0 _ s₁.heap _
 rw [e0]
 exact ⟨rfl, N0, rfl⟩
theorem ef_minxx (m : MethodId) (px : Int32) : entryFrame m #[(.int px), (.int px)] 2 = (mkF m 0 #[.val (.int px), .val (.int px)] []) := by first | (simp [entryFrame, mkF, argsToLocals, Value.category]; done) | rfl
def Q_minxx (Z : State) (px : Int32) (h0 : Heap) (n0 : Nat) (v : Option Value) (h : Heap) (L : List Loc) : Prop := v = some (.int px) ∧ Fr n0 L ∧ h = h0
set_option maxRecDepth 65536 in
set_option maxHeartbeats 40000000 in
theorem rm_minxx (l : Launch) (Z : State) (a0 : Array Value) (hw : ∀ d ∈ tables_1, d.before a0 Z = true) (ws : List Jvm.Cond) (px : Int32) (h0 : Heap) (n0 : Nat) (Z0 : n0 ≤ h0.size) :
    MetFree l (⟨"java/lang/Math", "min", "(II)I"⟩ : MethodName) (head1 (Jvm.Cond.code (⟨"java/lang/Math", "min", "(II)I"⟩ : MethodName) jdk_29_method_69_code 2 (some .int) :: ws) ({ frames := 0, cells := 0, slots := 0, locals := 0 } : Room)) (fun aR U => aR = #[(.int px), (.int px)] ∧ Z.Warmed39 U.vm ∧ U.heap = h0) (fun _ _ _ _ _ => True) (fun _ U o U' => ∃ v L, o = .returned v ∧ Q_minxx Z px h0 n0 v U'.heap L ∧ FrameEnd U o U' L ({ frames := 0, cells := 0, slots := 0, locals := 0 } : Room).cells ({ frames := 0, cells := 0, slots := 0, locals := 0 } : Room).slots) := by
 refine MetFree.of_bodySF pn_3 hisR ?_
 intro p e s m args below meth c s₁ Bd hml0 hP hK
 obtain ⟨rfl, hZ, hh⟩ := hP
 have hx := Bd.exec
 have hby := Bd.bytes
 have hml : c.maxLocals = 2 := hml0
 have hown : s.vm.findClass "java/lang/Math" = some m.cls := findClass_of_methodNamed Bd.named
 have hnm := (name_of_methodNamed Bd.named Bd.method).1
 have X0 : Stand p l e ({ frames := 0, cells := 0, slots := 0, locals := 0 } : Room) s m #[(.int px), (.int px)] below meth c s₁ [] 0 0 := Stand.of_body Bd
 have e0 : s₁.heap = h0 := by rw [← hh, Bd.state]; rfl
 have N0 := Fr.nil n0
 show Goes p.tables e below _ _
 rw [ef_minxx m px]
 refine Goes.named ?_
 intro QQ hQQ
 refine Goes.st (fun sT kT => XS.iloadN X0.here hx rfl (hb hby d15_0) rfl kT) ?_
 show Goes _ _ _ _ (s₁.setTop (mkF m 1 #[.val (.int px), .val (.int px)] [(.int px)]))
 refine Goes.st (fun sT kT => XS.iloadN X0.here hx rfl (hb hby d15_1) rfl kT) ?_
 show Goes _ _ _ _ (s₁.setTop (mkF m 2 #[.val (.int px), .val (.int px)] [(.int px), (.int px)]))
 refine Goes.st (fun sT kT => XS.icmpNo X0.here hx rfl (hb hby d15_2) rfl (flt (own_irr px)).2.2.1 kT) ?_
 show Goes _ _ _ _ (s₁.setTop (mkF m 5 #[.val (.int px), .val (.int px)] []))
 refine Goes.st (fun sT kT => XS.iloadN X0.here hx rfl (hb hby d15_5) rfl kT) ?_
 show Goes _ _ _ _ (s₁.setTop (mkF m 6 #[.val (.int px), .val (.int px)] [(.int px)]))
 refine Goes.st (fun sT kT => XS.goto X0.here hx rfl (pc0 := 6) (pc' := 10) rfl (hb hby d15_6) (by decide) (by decide) kT) ?_
 show Goes _ _ _ _ (s₁.setTop (mkF m 10 #[.val (.int px), .val (.int px)] [(.int px)]))
 obtain ⟨fs, hr, hrun, hended, hW, hsame⟩ := X0.leave (v := some (.int px)) (fun h => by rw [Bd.returns] at h; cases h)
 subst hQQ
 refine ⟨_, _, retI X0 hx Bd.returns (hb hby d15_10) hr, hrun, hended, _, _, rfl, ?_, ⟨_, rfl⟩, hW, hsame.mono (by decide) (by decide)⟩
 show Q_minxx Z px h0 n0 _ s₁.heap _
 rw [e0]
 exact ⟨rfl, N0, rfl⟩
theorem ef_minge (m : MethodId) (px : Int32) (py : Int32) : entryFrame m #[(.int px), (.int py)] 2 = (mkF m 0 #[.val (.int px), .val (.int py)] []) := by first | (simp [entryFrame, mkF, argsToLocals, Value.category]; done) | rfl
def Q_minge (Z : State) (px : Int32) (py : Int32) (h0 : Heap) (n0 : Nat) (v : Option Value) (h : Heap) (L : List Loc) : Prop := v = some (.int py) ∧ Fr n0 L ∧ h = h0
set_option maxRecDepth 65536 in
set_option maxHeartbeats 40000000 in
theorem rm_minge (l : Launch) (Z : State) (a0 : Array Value) (hw : ∀ d ∈ tables_1, d.before a0 Z = true) (ws : List Jvm.Cond) (px : Int32) (py : Int32) (h0 : Heap) (n0 : Nat) (Z0 : n0 ≤ h0.size) (hge : py < px ∨ py = px) :
    MetFree l (⟨"java/lang/Math", "min", "(II)I"⟩ : MethodName) (head1 (Jvm.Cond.code (⟨"java/lang/Math", "min", "(II)I"⟩ : MethodName) jdk_29_method_69_code 2 (some .int) :: ws) ({ frames := 0, cells := 0, slots := 0, locals := 0 } : Room)) (fun aR U => aR = #[(.int px), (.int py)] ∧ Z.Warmed39 U.vm ∧ U.heap = h0) (fun _ _ _ _ _ => True) (fun _ U o U' => ∃ v L, o = .returned v ∧ Q_minge Z px py h0 n0 v U'.heap L ∧ FrameEnd U o U' L ({ frames := 0, cells := 0, slots := 0, locals := 0 } : Room).cells ({ frames := 0, cells := 0, slots := 0, locals := 0 } : Room).slots) := by
 refine MetFree.of_bodySF pn_3 hisR ?_
 intro p e s m args below meth c s₁ Bd hml0 hP hK
 obtain ⟨rfl, hZ, hh⟩ := hP
 have hx := Bd.exec
 have hby := Bd.bytes
 have hml : c.maxLocals = 2 := hml0
 have hown : s.vm.findClass "java/lang/Math" = some m.cls := findClass_of_methodNamed Bd.named
 have hnm := (name_of_methodNamed Bd.named Bd.method).1
 have X0 : Stand p l e ({ frames := 0, cells := 0, slots := 0, locals := 0 } : Room) s m #[(.int px), (.int py)] below meth c s₁ [] 0 0 := Stand.of_body Bd
 have e0 : s₁.heap = h0 := by rw [← hh, Bd.state]; rfl
 have N0 := Fr.nil n0
 show Goes p.tables e below _ _
 rw [ef_minge m px py]
 refine Goes.named ?_
 intro QQ hQQ
 refine Goes.st (fun sT kT => XS.iloadN X0.here hx rfl (hb hby d15_0) rfl kT) ?_
 show Goes _ _ _ _ (s₁.setTop (mkF m 1 #[.val (.int px), .val (.int py)] [(.int px)]))
 refine Goes.st (fun sT kT => XS.iloadN X0.here hx rfl (hb hby d15_1) rfl kT) ?_
 show Goes _ _ _ _ (s₁.setTop (mkF m 2 #[.val (.int px), .val (.int py)] [(.int py), (.int px)]))
 by_cases cz1 : py < px
 case pos =>
  refine Goes.st (fun sT kT => XS.icmpYes X0.here hx rfl (pc0 := 2) (pc' := 9) rfl (hb hby d15_2) rfl (tlt cz1).2.2.1 (by decide) (by decide) kT) ?_
  show Goes _ _ _ _ (s₁.setTop (mkF m 9 #[.val (.int px), .val (.int py)] []))
  refine Goes.st (fun sT kT => XS.iloadN X0.here hx rfl (hb hby d15_9) rfl kT) ?_
  show Goes _ _ _ _ (s₁.setTop (mkF m 10 #[.val (.int px), .val (.int py)] [(.int py)]))
  obtain ⟨fs, hr, hrun, hended, hW, hsame⟩ := X0.leave (v := some (.int py)) (fun h => by rw [Bd.returns] at h; cases h)
  subst hQQ
  refine ⟨_, _, retI X0 hx Bd.returns (hb hby d15_10) hr, hrun, hended, _, _, rfl, ?_, ⟨_, rfl⟩, hW, hsame.mono (by decide) (by decide)⟩
  show Q_minge Z px py h0 n0 _ s₁.heap _
  rw [e0]
  exact ⟨rfl, N0, rfl⟩
 case neg =>
  refine Goes.st (fun sT kT => XS.icmpNo X0.here hx rfl (hb hby d15_2) rfl (flt cz1).2.2.1 kT) ?_
  show Goes _ _ _ _ (s₁.setTop (mkF m 5 #[.val (.int px), .val (.int py)] []))
  refine Goes.st (fun sT kT => XS.iloadN X0.here hx rfl (hb hby d15_5) rfl kT) ?_
  show Goes _ _ _ _ (s₁.setTop (mkF m 6 #[.val (.int px), .val (.int py)] [(.int px)]))
  refine Goes.st (fun sT kT => XS.goto X0.here hx rfl (pc0 := 6) (pc' := 10) rfl (hb hby d15_6) (by decide) (by decide) kT) ?_
  show Goes _ _ _ _ (s₁.setTop (mkF m 10 #[.val (.int px), .val (.int py)] [(.int px)]))
  obtain ⟨fs, hr, hrun, hended, hW, hsame⟩ := X0.leave (v := some (.int px)) (fun h => by rw [Bd.returns] at h; cases h)
  subst hQQ
  refine ⟨_, _, retI X0 hx Bd.returns (hb hby d15_10) hr, hrun, hended, _, _, rfl, ?_, ⟨_, rfl⟩, hW, hsame.mono (by decide) (by decide)⟩
  show Q_minge Z px py h0 n0 _ s₁.heap _
  rw [e0]
  exact ⟨(by rw [hge.resolve_left cz1]), N0, rfl⟩
theorem ef_ixc (m : MethodId) (t : Addr) (kb : ClassId) (cs : List Int32) : entryFrame m #[(.ref t), (.int (58 : Int32)), (.int (0 : Int32)), (.int (Int32.ofNat cs.length))] 6 = (mkF m 0 #[.val (.ref t), .val (.int (58 : Int32)), .val (.int (0 : Int32)), .val (.int (Int32.ofNat cs.length)), uS, uS] []) := by first | (simp [entryFrame, mkF, argsToLocals, Value.category]; done) | rfl
def Q_ixc (Z : State) (t : Addr) (kb : ClassId) (cs : List Int32) (h0 : Heap) (n0 : Nat) (v : Option Value) (h : Heap) (L : List Loc) : Prop := v = some (.int (own_ix 0 cs)) ∧ Fr n0 L ∧ h = h0
set_option maxRecDepth 65536 in
set_option maxHeartbeats 40000000 in
theorem rm_ixc (l : Launch) (Z : State) (a0 : Array Value) (hw : ∀ d ∈ tables_1, d.before a0 Z = true) (ws : List Jvm.Cond) (t : Addr) (kb : ClassId) (cs : List Int32) (h0 : Heap) (n0 : Nat) (Z0 : n0 ≤ h0.size) (P0 : Arv Z h0 t kb .byte (Int32.ofNat cs.length) ((cs.map fun c => c.toInt8.toInt32).map Value.int) (.int (0 : Int32))) (hrl : ∀ c ∈ cs, ¬ c < 0 ∧ ¬ (255 : Int32) < c) (hle : cs.length ≤ 4000) :
    MetFree l (⟨"java/lang/StringLatin1", "indexOfChar", "([BIII)I"⟩ : MethodName) (head1 (Jvm.Cond.code (⟨"java/lang/StringLatin1", "indexOfChar", "([BIII)I"⟩ : MethodName) jdk_43_method_23_code 6 (some .int) :: ws) ({ frames := 0, cells := 0, slots := 0, locals := 0 } : Room)) (fun aR U => aR = #[(.ref t), (.int (58 : Int32)), (.int (0 : Int32)), (.int (Int32.ofNat cs.length))] ∧ Z.Warmed39 U.vm ∧ U.heap = h0) (fun _ _ _ _ _ => True) (fun _ U o U' => ∃ v L, o = .returned v ∧ Q_ixc Z t kb cs h0 n0 v U'.heap L ∧ FrameEnd U o U' L ({ frames := 0, cells := 0, slots := 0, locals := 0 } : Room).cells ({ frames := 0, cells := 0, slots := 0, locals := 0 } : Room).slots) := by
 refine MetFree.of_bodySF (plainFor_of_name pn_1) hisR ?_
 intro p e s m args below meth c s₁ Bd hml0 hP hK
 obtain ⟨rfl, hZ, hh⟩ := hP
 have hx := Bd.exec
 have hby := Bd.bytes
 have hml : c.maxLocals = 6 := hml0
 have hown : s.vm.findClass "java/lang/StringLatin1" = some m.cls := findClass_of_methodNamed Bd.named
 have hnm := (name_of_methodNamed Bd.named Bd.method).1
 have X0 : Stand p l e ({ frames := 0, cells := 0, slots := 0, locals := 0 } : Room) s m #[(.ref t), (.int (58 : Int32)), (.int (0 : Int32)), (.int (Int32.ofNat cs.length))] below meth c s₁ [] 0 0 := Stand.of_body Bd
 have e0 : s₁.heap = h0 := by rw [← hh, Bd.state]; rfl
 have N0 := Fr.nil n0
 show Goes p.tables e below _ _
 rw [ef_ixc m t kb cs]
 refine Goes.named ?_
 intro QQ hQQ
 refine Goes.st (fun sT kT => XS.iloadN X0.here hx rfl (hb hby d24_0) rfl kT) ?_
 show Goes _ _ _ _ (s₁.setTop (mkF m 1 #[.val (.ref t), .val (.int (58 : Int32)), .val (.int (0 : Int32)), .val (.int (Int32.ofNat cs.length)), uS, uS] [(.int (58 : Int32))]))
 refine Goes.st (fun sT kT => XS.i2b X0.here hx rfl (hb hby d24_1) rfl kT) ?_
 show Goes _ _ _ _ (s₁.setTop (mkF m 2 #[.val (.ref t), .val (.int (58 : Int32)), .val (.int (0 : Int32)), .val (.int (Int32.ofNat cs.length)), uS, uS] [(.int (58 : Int32))]))
 refine Goes.st (fun sT kT => XS.istore X0.here hx rfl (hb hby d24_2) rfl (l' := #[.val (.ref t), .val (.int (58 : Int32)), .val (.int (0 : Int32)), .val (.int (Int32.ofNat cs.length)), .val (.int (58 : Int32)), uS]) rfl kT) ?_
 show Goes _ _ _ _ (s₁.setTop (mkF m 4 #[.val (.ref t), .val (.int (58 : Int32)), .val (.int (0 : Int32)), .val (.int (Int32.ofNat cs.length)), .val (.int (58 : Int32)), uS] []))
 refine Goes.st (fun sT kT => XS.iloadN X0.here hx rfl (hb hby d24_4) rfl kT) ?_
 show Goes _ _ _ _ (s₁.setTop (mkF m 5 #[.val (.ref t), .val (.int (58 : Int32)), .val (.int (0 : Int32)), .val (.int (Int32.ofNat cs.length)), .val (.int (58 : Int32)), uS] [(.int (0 : Int32))]))
 refine Goes.st (fun sT kT => XS.istore X0.here hx rfl (hb hby d24_5) rfl (l' := #[.val (.ref t), .val (.int (58 : Int32)), .val (.int (0 : Int32)), .val (.int (Int32.ofNat cs.length)), .val (.int (58 : Int32)), .val (.int (0 : Int32))]) rfl kT) ?_
 show Goes _ _ _ _ (s₁.setTop (mkF m 7 #[.val (.ref t), .val (.int (58 : Int32)), .val (.int (0 : Int32)), .val (.int (Int32.ofNat cs.length)), .val (.int (58 : Int32)), .val (.int (0 : Int32))] []))
 have loop : ∀ (r : List Int32) (k : Nat), k ≤ cs.length → cs.drop k = r → own_ix 0 cs = own_ix k r → Goes p.tables e below QQ (s₁.setTop (mkF m 7 #[.val (.ref t), .val (.int (58 : Int32)), .val (.int (0 : Int32)), .val (.int (Int32.ofNat cs.length)), .val (.int (58 : Int32)), .val (.int (Int32.ofNat k))] [])) := by
  intro r
  induction r with
  | nil =>
   intro k hk hd hi
   refine Goes.st (fun sT kT => XS.iload X0.here hx rfl (hb hby d24_7) rfl kT) ?_
   show Goes _ _ _ _ (s₁.setTop (mkF m 9 #[.val (.ref t), .val (.int (58 : Int32)), .val (.int (0 : Int32)), .val (.int (Int32.ofNat cs.length)), .val (.int (58 : Int32)), .val (.int (Int32.ofNat k))] [(.int (Int32.ofNat k))]))
   refine Goes.st (fun sT kT => XS.iloadN X0.here hx rfl (hb hby d24_9) rfl kT) ?_
   show Goes _ _ _ _ (s₁.setTop (mkF m 10 #[.val (.ref t), .val (.int (58 : Int32)), .val (.int (0 : Int32)), .val (.int (Int32.ofNat cs.length)), .val (.int (58 : Int32)), .val (.int (Int32.ofNat k))] [(.int (Int32.ofNat cs.length)), (.int (Int32.ofNat k))]))
   refine Goes.st (fun sT kT => XS.icmpYes X0.here hx rfl (pc0 := 10) (pc' := 31) rfl (hb hby d24_10) rfl (flt (by rw [own_dn hk hd]; exact own_irr _)).2.1 (by decide) (by decide) kT) ?_
   show Goes _ _ _ _ (s₁.setTop (mkF m 31 #[.val (.ref t), .val (.int (58 : Int32)), .val (.int (0 : Int32)), .val (.int (Int32.ofNat cs.length)), .val (.int (58 : Int32)), .val (.int (Int32.ofNat k))] []))
   refine Goes.st (fun sT kT => XS.iconst X0.here hx rfl (hb hby d24_31) kT) ?_
   show Goes _ _ _ _ (s₁.setTop (mkF m 32 #[.val (.ref t), .val (.int (58 : Int32)), .val (.int (0 : Int32)), .val (.int (Int32.ofNat cs.length)), .val (.int (58 : Int32)), .val (.int (Int32.ofNat k))] [(.int (-1 : Int32))]))
   obtain ⟨fs, hr, hrun, hended, hW, hsame⟩ := X0.leave (v := some (.int (-1 : Int32))) (fun h => by rw [Bd.returns] at h; cases h)
   subst hQQ
   refine ⟨_, _, retI X0 hx Bd.returns (hb hby d24_32) hr, hrun, hended, _, _, rfl, ?_, ⟨_, rfl⟩, hW, hsame.mono (by decide) (by decide)⟩
   show Q_ixc Z t kb cs h0 n0 _ s₁.heap _
   rw [e0]
   exact ⟨(by rw [hi]; rfl), N0, rfl⟩
  | cons c r ih =>
   intro k hk hd hi
   refine Goes.st (fun sT kT => XS.iload X0.here hx rfl (hb hby d24_7) rfl kT) ?_
   show Goes _ _ _ _ (s₁.setTop (mkF m 9 #[.val (.ref t), .val (.int (58 : Int32)), .val (.int (0 : Int32)), .val (.int (Int32.ofNat cs.length)), .val (.int (58 : Int32)), .val (.int (Int32.ofNat k))] [(.int (Int32.ofNat k))]))
   refine Goes.st (fun sT kT => XS.iloadN X0.here hx rfl (hb hby d24_9) rfl kT) ?_
   show Goes _ _ _ _ (s₁.setTop (mkF m 10 #[.val (.ref t), .val (.int (58 : Int32)), .val (.int (0 : Int32)), .val (.int (Int32.ofNat cs.length)), .val (.int (58 : Int32)), .val (.int (Int32.ofNat k))] [(.int (Int32.ofNat cs.length)), (.int (Int32.ofNat k))]))
   refine Goes.st (fun sT kT => XS.icmpNo X0.here hx rfl (hb hby d24_10) rfl (tlt ((own_nlt (by have := (own_dc hd).1; omega) (own_small hle)).mpr (own_dc hd).1)).2.1 kT) ?_
   show Goes _ _ _ _ (s₁.setTop (mkF m 13 #[.val (.ref t), .val (.int (58 : Int32)), .val (.int (0 : Int32)), .val (.int (Int32.ofNat cs.length)), .val (.int (58 : Int32)), .val (.int (Int32.ofNat k))] []))
   refine Goes.st (fun sT kT => XS.aloadN X0.here hx rfl (hb hby d24_13) rfl rfl kT) ?_
   show Goes _ _ _ _ (s₁.setTop (mkF m 14 #[.val (.ref t), .val (.int (58 : Int32)), .val (.int (0 : Int32)), .val (.int (Int32.ofNat cs.length)), .val (.int (58 : Int32)), .val (.int (Int32.ofNat k))] [(.ref t)]))
   refine Goes.st (fun sT kT => XS.iload X0.here hx rfl (hb hby d24_14) rfl kT) ?_
   show Goes _ _ _ _ (s₁.setTop (mkF m 16 #[.val (.ref t), .val (.int (58 : Int32)), .val (.int (0 : Int32)), .val (.int (Int32.ofNat cs.length)), .val (.int (58 : Int32)), .val (.int (Int32.ofNat k))] [(.int (Int32.ofNat k)), (.ref t)]))
   obtain ⟨oc1, oA1, oq1, oS1, oM1, oH1, oG1⟩ := id P0
   refine Goes.st (fun sT kT => X0.baloadBytes hx (j := (Int32.ofNat k)) (v := (.int (c.toInt8.toInt32))) (by rw [e0]; exact oA1.1) (State.isArrayOf_alike hZ.alike oA1.2.1) oA1.2.2 (inb_of oS1 ⟨own_nneg (by have := (own_dc hd).1; omega), (own_nlt (by have := (own_dc hd).1; omega) (own_small hle)).mpr (own_dc hd).1⟩) (oH1.at (inb_of oS1 ⟨own_nneg (by have := (own_dc hd).1; omega), (own_nlt (by have := (own_dc hd).1; omega) (own_small hle)).mpr (own_dc hd).1⟩) (own_getb (own_dc hd).2.1 (by have := (own_dc hd).1; omega))) (g := (mkF m 16 #[.val (.ref t), .val (.int (58 : Int32)), .val (.int (0 : Int32)), .val (.int (Int32.ofNat cs.length)), .val (.int (58 : Int32)), .val (.int (Int32.ofNat k))] [(.int (Int32.ofNat k)), (.ref t)])) rfl rfl (hb hby d24_16) _ kT) ?_
   show Goes _ _ _ _ (s₁.setTop (mkF m 17 #[.val (.ref t), .val (.int (58 : Int32)), .val (.int (0 : Int32)), .val (.int (Int32.ofNat cs.length)), .val (.int (58 : Int32)), .val (.int (Int32.ofNat k))] [(.int (c.toInt8.toInt32))]))
   refine Goes.st (fun sT kT => XS.iload X0.here hx rfl (hb hby d24_17) rfl kT) ?_
   show Goes _ _ _ _ (s₁.setTop (mkF m 19 #[.val (.ref t), .val (.int (58 : Int32)), .val (.int (0 : Int32)), .val (.int (Int32.ofNat cs.length)), .val (.int (58 : Int32)), .val (.int (Int32.ofNat k))] [(.int (58 : Int32)), (.int (c.toInt8.toInt32))]))
   by_cases cz2 : (c.toInt8.toInt32) = (58 : Int32)
   case pos =>
    refine Goes.st (fun sT kT => XS.icmpNo X0.here hx rfl (hb hby d24_19) rfl (teq cz2).2 kT) ?_
    show Goes _ _ _ _ (s₁.setTop (mkF m 22 #[.val (.ref t), .val (.int (58 : Int32)), .val (.int (0 : Int32)), .val (.int (Int32.ofNat cs.length)), .val (.int (58 : Int32)), .val (.int (Int32.ofNat k))] []))
    refine Goes.st (fun sT kT => XS.iload X0.here hx rfl (hb hby d24_22) rfl kT) ?_
    show Goes _ _ _ _ (s₁.setTop (mkF m 24 #[.val (.ref t), .val (.int (58 : Int32)), .val (.int (0 : Int32)), .val (.int (Int32.ofNat cs.length)), .val (.int (58 : Int32)), .val (.int (Int32.ofNat k))] [(.int (Int32.ofNat k))]))
    obtain ⟨fs, hr, hrun, hended, hW, hsame⟩ := X0.leave (v := some (.int (Int32.ofNat k))) (fun h => by rw [Bd.returns] at h; cases h)
    subst hQQ
    refine ⟨_, _, retI X0 hx Bd.returns (hb hby d24_24) hr, hrun, hended, _, _, rfl, ?_, ⟨_, rfl⟩, hW, hsame.mono (by decide) (by decide)⟩
    show Q_ixc Z t kb cs h0 n0 _ s₁.heap _
    rw [e0]
    exact ⟨(by rw [hi, own_ixy ((own_lo58 (hrl _ (own_mem hd))).mp cz2)]), N0, rfl⟩
   case neg =>
    refine Goes.st (fun sT kT => XS.icmpYes X0.here hx rfl (pc0 := 19) (pc' := 25) rfl (hb hby d24_19) rfl (feq cz2).2 (by decide) (by decide) kT) ?_
    show Goes _ _ _ _ (s₁.setTop (mkF m 25 #[.val (.ref t), .val (.int (58 : Int32)), .val (.int (0 : Int32)), .val (.int (Int32.ofNat cs.length)), .val (.int (58 : Int32)), .val (.int (Int32.ofNat k))] []))
    refine Goes.st (fun sT kT => XS.iinc X0.here hx rfl (hb hby d24_25) rfl (l' := #[.val (.ref t), .val (.int (58 : Int32)), .val (.int (0 : Int32)), .val (.int (Int32.ofNat cs.length)), .val (.int (58 : Int32)), .val (.int ((Int32.ofNat k) + (1 : Int32)))]) rfl kT) ?_
    show Goes _ _ _ _ (s₁.setTop (mkF m 28 #[.val (.ref t), .val (.int (58 : Int32)), .val (.int (0 : Int32)), .val (.int (Int32.ofNat cs.length)), .val (.int (58 : Int32)), .val (.int ((Int32.ofNat k) + (1 : Int32)))] []))
    refine Goes.st (fun sT kT => XS.goto X0.here hx rfl (pc0 := 28) (pc' := 7) rfl (hb hby d24_28) (by decide) (by decide) kT) ?_
    show Goes _ _ _ _ (s₁.setTop (mkF m 7 #[.val (.ref t), .val (.int (58 : Int32)), .val (.int (0 : Int32)), .val (.int (Int32.ofNat cs.length)), .val (.int (58 : Int32)), .val (.int ((Int32.ofNat k) + (1 : Int32)))] []))
    rw [own_nadd1 k]
    exact ih (k + 1) (own_dc hd).1 (own_dc hd).2.2 (hi.trans (own_ixn fun q => cz2 ((own_lo58 (hrl _ (own_mem hd))).mpr q)))
 exact loop cs 0 (Nat.zero_le _) rfl rfl
theorem ef_lix (m : MethodId) (t : Addr) (kb : ClassId) (cs : List Int32) : entryFrame m #[(.ref t), (.int (58 : Int32)), (.int (0 : Int32)), (.int (Int32.ofNat cs.length))] 4 = (mkF m 0 #[.val (.ref t), .val (.int (58 : Int32)), .val (.int (0 : Int32)), .val (.int (Int32.ofNat cs.length))] []) := by first | (simp [entryFrame, mkF, argsToLocals, Value.category]; done) | rfl
def Q_lix (Z : State) (t : Addr) (kb : ClassId) (cs : List Int32) (h0 : Heap) (n0 : Nat) (v : Option Value) (h : Heap) (L : List Loc) : Prop := v = some (.int (own_ix 0 cs)) ∧ Fr n0 L ∧ h = h0
set_option maxRecDepth 65536 in
set_option maxHeartbeats 40000000 in
theorem rm_lix (l : Launch) (Z : State) (a0 : Array Value) (hw : ∀ d ∈ tables_1, d.before a0 Z = true) (ws : List Jvm.Cond) (t : Addr) (kb : ClassId) (cs : List Int32) (h0 : Heap) (n0 : Nat) (Z0 : n0 ≤ h0.size) (P0 : Arv Z h0 t kb .byte (Int32.ofNat cs.length) ((cs.map fun c => c.toInt8.toInt32).map Value.int) (.int (0 : Int32))) (hrl : ∀ c ∈ cs, ¬ c < 0 ∧ ¬ (255 : Int32) < c) (hle : cs.length ≤ 4000) :
    MetFree l (⟨"java/lang/StringLatin1", "indexOf", "([BIII)I"⟩ : MethodName) (head1 (Jvm.Cond.code (⟨"java/lang/StringLatin1", "indexOf", "([BIII)I"⟩ : MethodName) jdk_43_method_22_code 4 (some .int) :: ws) ({ frames := 1, cells := 0, slots := 0, locals := 17 } : Room)) (fun aR U => aR = #[(.ref t), (.int (58 : Int32)), (.int (0 : Int32)), (.int (Int32.ofNat cs.length))] ∧ Z.Warmed39 U.vm ∧ U.heap = h0) (fun _ _ _ _ _ => True) (fun _ U o U' => ∃ v L, o = .returned v ∧ Q_lix Z t kb cs h0 n0 v U'.heap L ∧ FrameEnd U o U' L ({ frames := 1, cells := 0, slots := 0, locals := 17 } : Room).cells ({ frames := 1, cells := 0, slots := 0, locals := 17 } : Room).slots) := by
 refine MetFree.of_bodySF (plainFor_of_name pn_1) hisR ?_
 intro p e s m args below meth c s₁ Bd hml0 hP hK
 obtain ⟨rfl, hZ, hh⟩ := hP
 have hx := Bd.exec
 have hby := Bd.bytes
 have hml : c.maxLocals = 4 := hml0
 have hown : s.vm.findClass "java/lang/StringLatin1" = some m.cls := findClass_of_methodNamed Bd.named
 have hnm := (name_of_methodNamed Bd.named Bd.method).1
 have X0 : Stand p l e ({ frames := 1, cells := 0, slots := 0, locals := 17 } : Room) s m #[(.ref t), (.int (58 : Int32)), (.int (0 : Int32)), (.int (Int32.ofNat cs.length))] below meth c s₁ [] 0 0 := Stand.of_body Bd
 have e0 : s₁.heap = h0 := by rw [← hh, Bd.state]; rfl
 have N0 := Fr.nil n0
 show Goes p.tables e below _ _
 rw [ef_lix m t kb cs]
 refine Goes.named ?_
 intro QQ hQQ
 refine Goes.st (fun sT kT => XS.iloadN X0.here hx rfl (hb hby d12_0) rfl kT) ?_
 show Goes _ _ _ _ (s₁.setTop (mkF m 1 #[.val (.ref t), .val (.int (58 : Int32)), .val (.int (0 : Int32)), .val (.int (Int32.ofNat cs.length))] [(.int (58 : Int32))]))
 obtain ⟨_, _, ⟨T1, L1, k1, n1⟩, -, X1, ⟨Lc1, hQ1, l1, y1, z1⟩, st1⟩ := Jvm.LawKit.callS X0 hx (y := (⟨"java/lang/StringLatin1", "canEncode", "(I)Z"⟩ : MethodName)) hown (mvT hZ (hw64 hw)) (mvT hZ (hw65 hw)) (mvT hZ (hw62 hw)) (mvT hZ (hw66 hw)) (by decide) (backOf (W := 0) (rm_canI l Z a0 hw []  h0 n0 Z0 ) hZ (hw66 hw) (hw62 hw) (by decide) (by decide)) (g := (mkF m 1 #[.val (.ref t), .val (.int (58 : Int32)), .val (.int (0 : Int32)), .val (.int (Int32.ofNat cs.length))] [(.int (58 : Int32))])) rfl (by rw [hml]; rfl) (argsL := [(.int (58 : Int32))]) (rest := []) (lenOf pd_1 rfl) rfl (by show 2 * 0 + _ ≤ _; exact Nat.le_of_eq rfl) (hb hby d12_1) (fun _ _ => ⟨rfl, e0, (by decide : 0 + 0 ≤ _), (by decide : 0 + 0 ≤ _)⟩)
 dsimp only [Pt.U, Pt.locs, Pt.cells, Pt.slots] at X1 l1 y1 z1 st1 hQ1
 subst l1 y1 z1
 obtain ⟨rfl, N1q, K1⟩ := hQ1
 have N1 := Fr.app N0 N1q
 refine Goes.st st1 ?_
 show Goes _ _ _ _ (T1.setTop (mkF m 4 #[.val (.ref t), .val (.int (58 : Int32)), .val (.int (0 : Int32)), .val (.int (Int32.ofNat cs.length))] [(.int (1 : Int32))]))
 refine Goes.st (fun sT kT => XS.ifYes X1.here hx rfl (pc0 := 4) (pc' := 9) rfl (hb hby d12_4) rfl ((if0 _ _).trans (feq (by decide : ¬ ((1 : Int32) = (0 : Int32)))).2) (by decide) (by decide) kT) ?_
 show Goes _ _ _ _ (T1.setTop (mkF m 9 #[.val (.ref t), .val (.int (58 : Int32)), .val (.int (0 : Int32)), .val (.int (Int32.ofNat cs.length))] []))
 refine Goes.st (fun sT kT => XS.iloadN X1.here hx rfl (hb hby d12_9) rfl kT) ?_
 show Goes _ _ _ _ (T1.setTop (mkF m 10 #[.val (.ref t), .val (.int (58 : Int32)), .val (.int (0 : Int32)), .val (.int (Int32.ofNat cs.length))] [(.int (0 : Int32))]))
 refine Goes.st (fun sT kT => XS.iconst X1.here hx rfl (hb hby d12_10) kT) ?_
 show Goes _ _ _ _ (T1.setTop (mkF m 11 #[.val (.ref t), .val (.int (58 : Int32)), .val (.int (0 : Int32)), .val (.int (Int32.ofNat cs.length))] [(.int (0 : Int32)), (.int (0 : Int32))]))
 obtain ⟨_, _, ⟨T2, L2, k2, n2⟩, -, X2, ⟨Lc2, hQ2, l2, y2, z2⟩, st2⟩ := Jvm.LawKit.callS X1 hx (y := (⟨"java/lang/Math", "max", "(II)I"⟩ : MethodName)) hown (mvT hZ (hw67 hw)) (mvT hZ (hw68 hw)) (mvT hZ (hw69 hw)) (mvT hZ (hw70 hw)) (by decide) (backOf (W := 0) (rm_max00 l Z a0 hw []  h0 n0 Z0 ) hZ (hw70 hw) (hw69 hw) (by decide) (by decide)) (g := (mkF m 11 #[.val (.ref t), .val (.int (58 : Int32)), .val (.int (0 : Int32)), .val (.int (Int32.ofNat cs.length))] [(.int (0 : Int32)), (.int (0 : Int32))])) rfl (by rw [hml]; rfl) (argsL := [(.int (0 : Int32)), (.int (0 : Int32))]) (rest := []) (lenOf pd_2 rfl) rfl (by show 2 * 0 + _ ≤ _; exact Nat.le_of_eq rfl) (hb hby d12_11) (fun _ _ => ⟨rfl, K1, (by decide : 0 + 0 ≤ _), (by decide : 0 + 0 ≤ _)⟩)
 dsimp only [Pt.U, Pt.locs, Pt.cells, Pt.slots] at X2 l2 y2 z2 st2 hQ2
 subst l2 y2 z2
 obtain ⟨rfl, N2q, K2⟩ := hQ2
 have N2 := Fr.app N1 N2q
 refine Goes.st st2 ?_
 show Goes _ _ _ _ (T2.setTop (mkF m 14 #[.val (.ref t), .val (.int (58 : Int32)), .val (.int (0 : Int32)), .val (.int (Int32.ofNat cs.length))] [(.int (0 : Int32))]))
 refine Goes.st (fun sT kT => XS.istoreN X2.here hx rfl (hb hby d12_14) rfl (l' := #[.val (.ref t), .val (.int (58 : Int32)), .val (.int (0 : Int32)), .val (.int (Int32.ofNat cs.length))]) rfl kT) ?_
 show Goes _ _ _ _ (T2.setTop (mkF m 15 #[.val (.ref t), .val (.int (58 : Int32)), .val (.int (0 : Int32)), .val (.int (Int32.ofNat cs.length))] []))
 refine Goes.st (fun sT kT => XS.iloadN X2.here hx rfl (hb hby d12_15) rfl kT) ?_
 show Goes _ _ _ _ (T2.setTop (mkF m 16 #[.val (.ref t), .val (.int (58 : Int32)), .val (.int (0 : Int32)), .val (.int (Int32.ofNat cs.length))] [(.int (Int32.ofNat cs.length))]))
 refine Goes.st (fun sT kT => XS.aloadN X2.here hx rfl (hb hby d12_16) rfl rfl kT) ?_
 show Goes _ _ _ _ (T2.setTop (mkF m 17 #[.val (.ref t), .val (.int (58 : Int32)), .val (.int (0 : Int32)), .val (.int (Int32.ofNat cs.length))] [(.ref t), (.int (Int32.ofNat cs.length))]))
 obtain ⟨oc3, oA3, oq3, oS3, oM3, oH3, oG3⟩ := id P0
 refine Goes.st (fun sT kT => X2.arraylength hx (by rw [K2]; exact oA3.1) (State.isArrayOf_alike hZ.alike oA3.2.1) (g := (mkF m 17 #[.val (.ref t), .val (.int (58 : Int32)), .val (.int (0 : Int32)), .val (.int (Int32.ofNat cs.length))] [(.ref t), (.int (Int32.ofNat cs.length))])) rfl rfl (hb hby d12_17) _ kT) ?_
 rw [len_of oS3 oM3]
 show Goes _ _ _ _ (T2.setTop (mkF m 18 #[.val (.ref t), .val (.int (58 : Int32)), .val (.int (0 : Int32)), .val (.int (Int32.ofNat cs.length))] [(.int (Int32.ofNat cs.length)), (.int (Int32.ofNat cs.length))]))
 obtain ⟨_, _, ⟨T4, L4, k4, n4⟩, -, X4, ⟨Lc4, hQ4, l4, y4, z4⟩, st4⟩ := Jvm.LawKit.callS X2 hx (y := (⟨"java/lang/Math", "min", "(II)I"⟩ : MethodName)) hown (mvT hZ (hw71 hw)) (mvT hZ (hw72 hw)) (mvT hZ (hw69 hw)) (mvT hZ (hw73 hw)) (by decide) (backOf (W := 0) (rm_minxx l Z a0 hw [] (Int32.ofNat cs.length) h0 n0 Z0 ) hZ (hw73 hw) (hw69 hw) (by decide) (by decide)) (g := (mkF m 18 #[.val (.ref t), .val (.int (58 : Int32)), .val (.int (0 : Int32)), .val (.int (Int32.ofNat cs.length))] [(.int (Int32.ofNat cs.length)), (.int (Int32.ofNat cs.length))])) rfl (by rw [hml]; rfl) (argsL := [(.int (Int32.ofNat cs.length)), (.int (Int32.ofNat cs.length))]) (rest := []) (lenOf pd_2 rfl) rfl (by show 2 * 0 + _ ≤ _; exact Nat.le_of_eq rfl) (hb hby d12_18) (fun _ _ => ⟨rfl, K2, (by decide : 0 + 0 ≤ _), (by decide : 0 + 0 ≤ _)⟩)
 dsimp only [Pt.U, Pt.locs, Pt.cells, Pt.slots] at X4 l4 y4 z4 st4 hQ4
 subst l4 y4 z4
 obtain ⟨rfl, N4q, K4⟩ := hQ4
 have N4 := Fr.app N2 N4q
 refine Goes.st st4 ?_
 show Goes _ _ _ _ (T4.setTop (mkF m 21 #[.val (.ref t), .val (.int (58 : Int32)), .val (.int (0 : Int32)), .val (.int (Int32.ofNat cs.length))] [(.int (Int32.ofNat cs.length))]))
 refine Goes.st (fun sT kT => XS.istoreN X4.here hx rfl (hb hby d12_21) rfl (l' := #[.val (.ref t), .val (.int (58 : Int32)), .val (.int (0 : Int32)), .val (.int (Int32.ofNat cs.length))]) rfl kT) ?_
 show Goes _ _ _ _ (T4.setTop (mkF m 22 #[.val (.ref t), .val (.int (58 : Int32)), .val (.int (0 : Int32)), .val (.int (Int32.ofNat cs.length))] []))
 refine Goes.st (fun sT kT => XS.iloadN X4.here hx rfl (hb hby d12_22) rfl kT) ?_
 show Goes _ _ _ _ (T4.setTop (mkF m 23 #[.val (.ref t), .val (.int (58 : Int32)), .val (.int (0 : Int32)), .val (.int (Int32.ofNat cs.length))] [(.int (0 : Int32))]))
 refine Goes.st (fun sT kT => XS.iloadN X4.here hx rfl (hb hby d12_23) rfl kT) ?_
 show Goes _ _ _ _ (T4.setTop (mkF m 24 #[.val (.ref t), .val (.int (58 : Int32)), .val (.int (0 : Int32)), .val (.int (Int32.ofNat cs.length))] [(.int (Int32.ofNat cs.length)), (.int (0 : Int32))]))
 by_cases cz5 : (0 : Int32) < (Int32.ofNat cs.length)
 case pos =>
  refine Goes.st (fun sT kT => XS.icmpYes X4.here hx rfl (pc0 := 24) (pc' := 29) rfl (hb hby d12_24) rfl (tlt cz5).1 (by decide) (by decide) kT) ?_
  show Goes _ _ _ _ (T4.setTop (mkF m 29 #[.val (.ref t), .val (.int (58 : Int32)), .val (.int (0 : Int32)), .val (.int (Int32.ofNat cs.length))] []))
  refine Goes.st (fun sT kT => XS.aloadN X4.here hx rfl (hb hby d12_29) rfl rfl kT) ?_
  show Goes _ _ _ _ (T4.setTop (mkF m 30 #[.val (.ref t), .val (.int (58 : Int32)), .val (.int (0 : Int32)), .val (.int (Int32.ofNat cs.length))] [(.ref t)]))
  refine Goes.st (fun sT kT => XS.iloadN X4.here hx rfl (hb hby d12_30) rfl kT) ?_
  show Goes _ _ _ _ (T4.setTop (mkF m 31 #[.val (.ref t), .val (.int (58 : Int32)), .val (.int (0 : Int32)), .val (.int (Int32.ofNat cs.length))] [(.int (58 : Int32)), (.ref t)]))
  refine Goes.st (fun sT kT => XS.iloadN X4.here hx rfl (hb hby d12_31) rfl kT) ?_
  show Goes _ _ _ _ (T4.setTop (mkF m 32 #[.val (.ref t), .val (.int (58 : Int32)), .val (.int (0 : Int32)), .val (.int (Int32.ofNat cs.length))] [(.int (0 : Int32)), (.int (58 : Int32)), (.ref t)]))
  refine Goes.st (fun sT kT => XS.iloadN X4.here hx rfl (hb hby d12_32) rfl kT) ?_
  show Goes _ _ _ _ (T4.setTop (mkF m 33 #[.val (.ref t), .val (.int (58 : Int32)), .val (.int (0 : Int32)), .val (.int (Int32.ofNat cs.length))] [(.int (Int32.ofNat cs.length)), (.int (0 : Int32)), (.int (58 : Int32)), (.ref t)]))
  obtain ⟨_, _, ⟨T6, L6, k6, n6⟩, -, X6, ⟨Lc6, hQ6, l6, y6, z6⟩, st6⟩ := Jvm.LawKit.callS X4 hx (y := (⟨"java/lang/StringLatin1", "indexOfChar", "([BIII)I"⟩ : MethodName)) hown (mvT hZ (hw114 hw)) (mvT hZ (hw115 hw)) (mvT hZ (hw62 hw)) (mvT hZ (hw116 hw)) (by decide) (backOf (W := 0) (rm_ixc l Z a0 hw [] t kb cs h0 n0 Z0 P0 hrl hle) hZ (hw116 hw) (hw62 hw) (by decide) (by decide)) (g := (mkF m 33 #[.val (.ref t), .val (.int (58 : Int32)), .val (.int (0 : Int32)), .val (.int (Int32.ofNat cs.length))] [(.int (Int32.ofNat cs.length)), (.int (0 : Int32)), (.int (58 : Int32)), (.ref t)])) rfl (by rw [hml]; rfl) (argsL := [(.ref t), (.int (58 : Int32)), (.int (0 : Int32)), (.int (Int32.ofNat cs.length))]) (rest := []) (lenOf pd_3 rfl) rfl (by show 2 * 0 + _ ≤ _; exact Nat.le_of_eq rfl) (hb hby d12_33) (fun _ _ => ⟨rfl, K4, (by decide : 0 + 0 ≤ _), (by decide : 0 + 0 ≤ _)⟩)
  dsimp only [Pt.U, Pt.locs, Pt.cells, Pt.slots] at X6 l6 y6 z6 st6 hQ6
  subst l6 y6 z6
  obtain ⟨rfl, N6q, K6⟩ := hQ6
  have N6 := Fr.app N4 N6q
  refine Goes.st st6 ?_
  show Goes _ _ _ _ (T6.setTop (mkF m 36 #[.val (.ref t), .val (.int (58 : Int32)), .val (.int (0 : Int32)), .val (.int (Int32.ofNat cs.length))] [(.int (own_ix 0 cs))]))
  obtain ⟨fs, hr, hrun, hended, hW, hsame⟩ := X6.leave (v := some (.int (own_ix 0 cs))) (fun h => by rw [Bd.returns] at h; cases h)
  subst hQQ
  refine ⟨_, _, retI X6 hx Bd.returns (hb hby d12_36) hr, hrun, hended, _, _, rfl, ?_, ⟨_, rfl⟩, hW, hsame.mono (by decide) (by decide)⟩
  show Q_lix Z t kb cs h0 n0 _ T6.heap _
  rw [K6]
  exact ⟨rfl, N6, rfl⟩
 case neg =>
  refine Goes.st (fun sT kT => XS.icmpNo X4.here hx rfl (hb hby d12_24) rfl (flt cz5).1 kT) ?_
  show Goes _ _ _ _ (T4.setTop (mkF m 27 #[.val (.ref t), .val (.int (58 : Int32)), .val (.int (0 : Int32)), .val (.int (Int32.ofNat cs.length))] []))
  refine Goes.st (fun sT kT => XS.iconst X4.here hx rfl (hb hby d12_27) kT) ?_
  show Goes _ _ _ _ (T4.setTop (mkF m 28 #[.val (.ref t), .val (.int (58 : Int32)), .val (.int (0 : Int32)), .val (.int (Int32.ofNat cs.length))] [(.int (-1 : Int32))]))
  obtain ⟨fs, hr, hrun, hended, hW, hsame⟩ := X4.leave (v := some (.int (-1 : Int32))) (fun h => by rw [Bd.returns] at h; cases h)
  subst hQQ
  refine ⟨_, _, retI X4 hx Bd.returns (hb hby d12_28) hr, hrun, hended, _, _, rfl, ?_, ⟨_, rfl⟩, hW, hsame.mono (by decide) (by decide)⟩
  show Q_lix Z t kb cs h0 n0 _ T4.heap _
  rw [K4]
  exact ⟨(by rw [own_ix0 cz5 hle]), N4, rfl⟩
theorem ef_six2 (m : MethodId) (a : Addr) (t : Addr) (kb : ClassId) (cs : List Int32) (G1 : Int32) : entryFrame m #[(.ref a), (.int (58 : Int32)), (.int (0 : Int32))] 3 = (mkF m 0 #[.val (.ref a), .val (.int (58 : Int32)), .val (.int (0 : Int32))] []) := by first | (simp [entryFrame, mkF, argsToLocals, Value.category]; done) | rfl
def Q_six2 (Z : State) (a : Addr) (t : Addr) (kb : ClassId) (cs : List Int32) (G1 : Int32) (h0 : Heap) (n0 : Nat) (v : Option Value) (h : Heap) (L : List Loc) : Prop := v = some (.int (own_ix 0 cs)) ∧ Fr n0 L ∧ h = h0
set_option maxRecDepth 65536 in
set_option maxHeartbeats 40000000 in
theorem rm_six2 (l : Launch) (Z : State) (a0 : Array Value) (hw : ∀ d ∈ tables_1, d.before a0 Z = true) (ws : List Jvm.Cond) (a : Addr) (t : Addr) (kb : ClassId) (cs : List Int32) (G1 : Int32) (h0 : Heap) (n0 : Nat) (Z0 : n0 ≤ h0.size) (P0 : Str Z h0 a t kb cs) (P1 : Old Z n0 h0) (O2 : Sta Z Z.heap "java/lang/String" "COMPACT_STRINGS" "Z" (.int G1)) (P5 : ¬ (G1 = (0 : Int32))) :
    MetFree l (⟨"java/lang/String", "indexOf", "(II)I"⟩ : MethodName) (head1 (Jvm.Cond.code (⟨"java/lang/String", "indexOf", "(II)I"⟩ : MethodName) jdk_42_method_80_code 3 (some .int) :: ws) ({ frames := 2, cells := 0, slots := 0, locals := 36 } : Room)) (fun aR U => aR = #[(.ref a), (.int (58 : Int32)), (.int (0 : Int32))] ∧ Z.Warmed39 U.vm ∧ U.heap = h0) (fun _ _ _ _ _ => True) (fun _ U o U' => ∃ v L, o = .returned v ∧ Q_six2 Z a t kb cs G1 h0 n0 v U'.heap L ∧ FrameEnd U o U' L ({ frames := 2, cells := 0, slots := 0, locals := 36 } : Room).cells ({ frames := 2, cells := 0, slots := 0, locals := 36 } : Room).slots) := by
 refine MetFree.of_bodySF (plainFor_of_name pn_0) hisR ?_
 intro p e s m args below meth c s₁ Bd hml0 hP hK
 obtain ⟨rfl, hZ, hh⟩ := hP
 have hx := Bd.exec
 have hby := Bd.bytes
 have hml : c.maxLocals = 3 := hml0
 have hown : s.vm.findClass "java/lang/String" = some m.cls := findClass_of_methodNamed Bd.named
 have hnm := (name_of_methodNamed Bd.named Bd.method).1
 have X0 : Stand p l e ({ frames := 2, cells := 0, slots := 0, locals := 36 } : Room) s m #[(.ref a), (.int (58 : Int32)), (.int (0 : Int32))] below meth c s₁ [] 0 0 := Stand.of_body Bd
 have e0 : s₁.heap = h0 := by rw [← hh, Bd.state]; rfl
 have N0 := Fr.nil n0
 show Goes p.tables e below _ _
 rw [ef_six2 m a t kb cs G1]
 refine Goes.named ?_
 intro QQ hQQ
 refine Goes.st (fun sT kT => XS.aloadN X0.here hx rfl (hb hby d8_0) rfl rfl kT) ?_
 show Goes _ _ _ _ (s₁.setTop (mkF m 1 #[.val (.ref a), .val (.int (58 : Int32)), .val (.int (0 : Int32))] [(.ref a)]))
 obtain ⟨cq1, kq1, q1a, q1b, q1c⟩ := isOf hZ e0 P0.1
 obtain ⟨_, _, ⟨T1, L1, k1, n1⟩, -, X1, ⟨Lc1, hQ1, l1, y1, z1⟩, st1⟩ := X0.virtualBack hx (y := (⟨"java/lang/String", "isLatin1", "()Z"⟩ : MethodName)) (z := (⟨"java/lang/String", "isLatin1", "()Z"⟩ : MethodName)) hown (mvT hZ (hw44 hw)) (mvT hZ (hw45 hw)) (notFace_of_selects (args := #[]) (mvT hZ (hw47 hw))) (mvT hZ (hw47 hw)) (mvT hZ (hw46 hw)) (by decide) (backOf (W := 0) (rm_isL l Z a0 hw [] a G1 h0 n0 Z0 P0.2.2.1 P1 O2 P5) hZ (hw48 hw) (hw11 hw) (by decide) (by decide)) q1a q1c (g := (mkF m 1 #[.val (.ref a), .val (.int (58 : Int32)), .val (.int (0 : Int32))] [(.ref a)])) rfl (by rw [hml]; rfl) (Steps.refl _) (argsL := []) (rest := []) (lenOf pd_4 rfl) rfl (by show 2 * 0 + _ ≤ _; exact Nat.le_of_eq rfl) (hb hby d8_1) (fun _ _ => ⟨rfl, e0, (by decide : 0 + 0 ≤ _), (by decide : 0 + 0 ≤ _)⟩)
 dsimp only [Pt.U, Pt.locs, Pt.cells, Pt.slots] at X1 l1 y1 z1 st1 hQ1
 subst l1 y1 z1
 obtain ⟨rfl, N1q, K1⟩ := hQ1
 have N1 := Fr.app N0 N1q
 refine Goes.tr st1 ?_
 show Goes _ _ _ _ (T1.setTop (mkF m 4 #[.val (.ref a), .val (.int (58 : Int32)), .val (.int (0 : Int32))] [(.int (1 : Int32))]))
 refine Goes.st (fun sT kT => XS.ifNo X1.here hx rfl (hb hby d8_4) rfl ((if0 _ _).trans (feq (by decide : ¬ ((1 : Int32) = (0 : Int32)))).1) kT) ?_
 show Goes _ _ _ _ (T1.setTop (mkF m 7 #[.val (.ref a), .val (.int (58 : Int32)), .val (.int (0 : Int32))] []))
 refine Goes.st (fun sT kT => XS.aloadN X1.here hx rfl (hb hby d8_7) rfl rfl kT) ?_
 show Goes _ _ _ _ (T1.setTop (mkF m 8 #[.val (.ref a), .val (.int (58 : Int32)), .val (.int (0 : Int32))] [(.ref a)]))
 obtain ⟨T2, X2, e2, st2⟩ := getF X1 hx hZ hown (host := "") (Or.inl (hw28 hw)) Via.refl K1 P0.2.1 (g := (mkF m 8 #[.val (.ref a), .val (.int (58 : Int32)), .val (.int (0 : Int32))] [(.ref a)])) rfl rfl (hb hby d8_8)
 refine Goes.st st2 ?_
 show Goes _ _ _ _ (T2.setTop (mkF m 11 #[.val (.ref a), .val (.int (58 : Int32)), .val (.int (0 : Int32))] [(.ref t)]))
 refine Goes.st (fun sT kT => XS.iloadN X2.here hx rfl (hb hby d8_11) rfl kT) ?_
 show Goes _ _ _ _ (T2.setTop (mkF m 12 #[.val (.ref a), .val (.int (58 : Int32)), .val (.int (0 : Int32))] [(.int (58 : Int32)), (.ref t)]))
 refine Goes.st (fun sT kT => XS.iloadN X2.here hx rfl (hb hby d8_12) rfl kT) ?_
 show Goes _ _ _ _ (T2.setTop (mkF m 13 #[.val (.ref a), .val (.int (58 : Int32)), .val (.int (0 : Int32))] [(.int (0 : Int32)), (.int (58 : Int32)), (.ref t)]))
 refine Goes.st (fun sT kT => XS.aloadN X2.here hx rfl (hb hby d8_13) rfl rfl kT) ?_
 show Goes _ _ _ _ (T2.setTop (mkF m 14 #[.val (.ref a), .val (.int (58 : Int32)), .val (.int (0 : Int32))] [(.ref a), (.int (0 : Int32)), (.int (58 : Int32)), (.ref t)]))
 obtain ⟨cq3, kq3, q3a, q3b, q3c⟩ := isOf hZ e2 P0.1
 obtain ⟨_, _, ⟨T3, L3, k3, n3⟩, -, X3, ⟨Lc3, hQ3, l3, y3, z3⟩, st3⟩ := X2.virtualBack hx (y := (⟨"java/lang/String", "length", "()I"⟩ : MethodName)) (z := (⟨"java/lang/String", "length", "()I"⟩ : MethodName)) hown (mvT hZ (hw50 hw)) (mvT hZ (hw51 hw)) (notFace_of_selects (args := #[]) (mvT hZ (hw53 hw))) (mvT hZ (hw53 hw)) (mvT hZ (hw52 hw)) (by decide) (StrChars.Road.lenW (W := 3) hZ (own_hln hw) (kI := 4) (hw10 hw) P0.1 P0.2.1 P0.2.2.1 P0.2.2.2.1 (own_cod P0) (own_up P0.2.2.2.2.1) (O2.ext P1.2) P5 P0.2.2.2.2.2 (by decide) (by decide)) q3a q3c (g := (mkF m 14 #[.val (.ref a), .val (.int (58 : Int32)), .val (.int (0 : Int32))] [(.ref a), (.int (0 : Int32)), (.int (58 : Int32)), (.ref t)])) rfl (by rw [hml]; rfl) (Steps.refl _) (argsL := []) (rest := [(.int (0 : Int32)), (.int (58 : Int32)), (.ref t)]) (lenOf pd_5 rfl) rfl (by show 2 * 0 + _ ≤ _; exact Nat.le_of_eq rfl) (hb hby d8_14) (fun _ _ => ⟨rfl, e2, (by decide : 0 + 0 ≤ _), (by decide : 0 + 0 ≤ _)⟩)
 dsimp only [Pt.U, Pt.locs, Pt.cells, Pt.slots] at X3 l3 y3 z3 st3 hQ3
 subst l3 y3 z3
 obtain ⟨rfl, rfl, K3⟩ := hQ3
 have N3 := Fr.app N1 (Fr.nil n0)
 refine Goes.tr st3 ?_
 show Goes _ _ _ _ (T3.setTop (mkF m 17 #[.val (.ref a), .val (.int (58 : Int32)), .val (.int (0 : Int32))] [(.int (Int32.ofNat cs.length)), (.int (0 : Int32)), (.int (58 : Int32)), (.ref t)]))
 obtain ⟨_, _, ⟨T4, L4, k4, n4⟩, -, X4, ⟨Lc4, hQ4, l4, y4, z4⟩, st4⟩ := Jvm.LawKit.callS X3 hx (y := (⟨"java/lang/StringLatin1", "indexOf", "([BIII)I"⟩ : MethodName)) hown (mvT hZ (hw60 hw)) (mvT hZ (hw61 hw)) (mvT hZ (hw62 hw)) (mvT hZ (hw63 hw)) (by decide) (backOf (W := 0) (rm_lix l Z a0 hw [] t kb cs h0 n0 Z0 P0.2.2.2.1 P0.2.2.2.2.1 P0.2.2.2.2.2) hZ (hw63 hw) (hw62 hw) (by decide) (by decide)) (g := (mkF m 17 #[.val (.ref a), .val (.int (58 : Int32)), .val (.int (0 : Int32))] [(.int (Int32.ofNat cs.length)), (.int (0 : Int32)), (.int (58 : Int32)), (.ref t)])) rfl (by rw [hml]; rfl) (argsL := [(.ref t), (.int (58 : Int32)), (.int (0 : Int32)), (.int (Int32.ofNat cs.length))]) (rest := []) (lenOf pd_3 rfl) rfl (by show 2 * 0 + _ ≤ _; exact Nat.le_of_eq rfl) (hb hby d8_17) (fun _ _ => ⟨rfl, K3, (by decide : 0 + 0 ≤ _), (by decide : 0 + 0 ≤ _)⟩)
 dsimp only [Pt.U, Pt.locs, Pt.cells, Pt.slots] at X4 l4 y4 z4 st4 hQ4
 subst l4 y4 z4
 obtain ⟨rfl, N4q, K4⟩ := hQ4
 have N4 := Fr.app N3 N4q
 refine Goes.st st4 ?_
 show Goes _ _ _ _ (T4.setTop (mkF m 20 #[.val (.ref a), .val (.int (58 : Int32)), .val (.int (0 : Int32))] [(.int (own_ix 0 cs))]))
 refine Goes.st (fun sT kT => XS.goto X4.here hx rfl (pc0 := 20) (pc' := 36) rfl (hb hby d8_20) (by decide) (by decide) kT) ?_
 show Goes _ _ _ _ (T4.setTop (mkF m 36 #[.val (.ref a), .val (.int (58 : Int32)), .val (.int (0 : Int32))] [(.int (own_ix 0 cs))]))
 obtain ⟨fs, hr, hrun, hended, hW, hsame⟩ := X4.leave (v := some (.int (own_ix 0 cs))) (fun h => by rw [Bd.returns] at h; cases h)
 subst hQQ
 refine ⟨_, _, retI X4 hx Bd.returns (hb hby d8_36) hr, hrun, hended, _, _, rfl, ?_, ⟨_, rfl⟩, hW, hsame.mono (by decide) (by decide)⟩
 show Q_six2 Z a t kb cs G1 h0 n0 _ T4.heap _
 rw [K4]
 exact ⟨rfl, N4, rfl⟩
theorem ef_six1 (m : MethodId) (a : Addr) (t : Addr) (kb : ClassId) (cs : List Int32) (G1 : Int32) : entryFrame m #[(.ref a), (.int (58 : Int32))] 2 = (mkF m 0 #[.val (.ref a), .val (.int (58 : Int32))] []) := by first | (simp [entryFrame, mkF, argsToLocals, Value.category]; done) | rfl
def Q_six1 (Z : State) (a : Addr) (t : Addr) (kb : ClassId) (cs : List Int32) (G1 : Int32) (h0 : Heap) (n0 : Nat) (v : Option Value) (h : Heap) (L : List Loc) : Prop := v = some (.int (own_ix 0 cs)) ∧ Fr n0 L ∧ h = h0
set_option maxRecDepth 65536 in
set_option maxHeartbeats 40000000 in
theorem rm_six1 (l : Launch) (Z : State) (a0 : Array Value) (hw : ∀ d ∈ tables_1, d.before a0 Z = true) (ws : List Jvm.Cond) (a : Addr) (t : Addr) (kb : ClassId) (cs : List Int32) (G1 : Int32) (h0 : Heap) (n0 : Nat) (Z0 : n0 ≤ h0.size) (P0 : Str Z h0 a t kb cs) (P1 : Old Z n0 h0) (O2 : Sta Z Z.heap "java/lang/String" "COMPACT_STRINGS" "Z" (.int G1)) (P5 : ¬ (G1 = (0 : Int32))) :
    MetFree l (⟨"java/lang/String", "indexOf", "(I)I"⟩ : MethodName) (head1 (Jvm.Cond.code (⟨"java/lang/String", "indexOf", "(I)I"⟩ : MethodName) jdk_42_method_79_code 2 (some .int) :: ws) ({ frames := 3, cells := 0, slots := 0, locals := 50 } : Room)) (fun aR U => aR = #[(.ref a), (.int (58 : Int32))] ∧ Z.Warmed39 U.vm ∧ U.heap = h0) (fun _ _ _ _ _ => True) (fun _ U o U' => ∃ v L, o = .returned v ∧ Q_six1 Z a t kb cs G1 h0 n0 v U'.heap L ∧ FrameEnd U o U' L ({ frames := 3, cells := 0, slots := 0, locals := 50 } : Room).cells ({ frames := 3, cells := 0, slots := 0, locals := 50 } : Room).slots) := by
 refine MetFree.of_bodySF (plainFor_of_name pn_0) hisR ?_
 intro p e s m args below meth c s₁ Bd hml0 hP hK
 obtain ⟨rfl, hZ, hh⟩ := hP
 have hx := Bd.exec
 have hby := Bd.bytes
 have hml : c.maxLocals = 2 := hml0
 have hown : s.vm.findClass "java/lang/String" = some m.cls := findClass_of_methodNamed Bd.named
 have hnm := (name_of_methodNamed Bd.named Bd.method).1
 have X0 : Stand p l e ({ frames := 3, cells := 0, slots := 0, locals := 50 } : Room) s m #[(.ref a), (.int (58 : Int32))] below meth c s₁ [] 0 0 := Stand.of_body Bd
 have e0 : s₁.heap = h0 := by rw [← hh, Bd.state]; rfl
 have N0 := Fr.nil n0
 show Goes p.tables e below _ _
 rw [ef_six1 m a t kb cs G1]
 refine Goes.named ?_
 intro QQ hQQ
 refine Goes.st (fun sT kT => XS.aloadN X0.here hx rfl (hb hby d7_0) rfl rfl kT) ?_
 show Goes _ _ _ _ (s₁.setTop (mkF m 1 #[.val (.ref a), .val (.int (58 : Int32))] [(.ref a)]))
 refine Goes.st (fun sT kT => XS.iloadN X0.here hx rfl (hb hby d7_1) rfl kT) ?_
 show Goes _ _ _ _ (s₁.setTop (mkF m 2 #[.val (.ref a), .val (.int (58 : Int32))] [(.int (58 : Int32)), (.ref a)]))
 refine Goes.st (fun sT kT => XS.iconst X0.here hx rfl (hb hby d7_2) kT) ?_
 show Goes _ _ _ _ (s₁.setTop (mkF m 3 #[.val (.ref a), .val (.int (58 : Int32))] [(.int (0 : Int32)), (.int (58 : Int32)), (.ref a)]))
 obtain ⟨cq1, kq1, q1a, q1b, q1c⟩ := isOf hZ e0 P0.1
 obtain ⟨_, _, ⟨T1, L1, k1, n1⟩, -, X1, ⟨Lc1, hQ1, l1, y1, z1⟩, st1⟩ := X0.virtualBack hx (y := (⟨"java/lang/String", "indexOf", "(II)I"⟩ : MethodName)) (z := (⟨"java/lang/String", "indexOf", "(II)I"⟩ : MethodName)) hown (mvT hZ (hw39 hw)) (mvT hZ (hw40 hw)) (notFace_of_selects (args := #[]) (mvT hZ (hw42 hw))) (mvT hZ (hw42 hw)) (mvT hZ (hw41 hw)) (by decide) (backOf (W := 0) (rm_six2 l Z a0 hw [] a t kb cs G1 h0 n0 Z0 P0 P1 O2 P5) hZ (hw43 hw) (hw11 hw) (by decide) (by decide)) q1a q1c (g := (mkF m 3 #[.val (.ref a), .val (.int (58 : Int32))] [(.int (0 : Int32)), (.int (58 : Int32)), (.ref a)])) rfl (by rw [hml]; rfl) (Steps.refl _) (argsL := [(.int (58 : Int32)), (.int (0 : Int32))]) (rest := []) (lenOf pd_2 rfl) rfl (by show 2 * 0 + _ ≤ _; exact Nat.le_of_eq rfl) (hb hby d7_3) (fun _ _ => ⟨rfl, e0, (by decide : 0 + 0 ≤ _), (by decide : 0 + 0 ≤ _)⟩)
 dsimp only [Pt.U, Pt.locs, Pt.cells, Pt.slots] at X1 l1 y1 z1 st1 hQ1
 subst l1 y1 z1
 obtain ⟨rfl, N1q, K1⟩ := hQ1
 have N1 := Fr.app N0 N1q
 refine Goes.tr st1 ?_
 show Goes _ _ _ _ (T1.setTop (mkF m 6 #[.val (.ref a), .val (.int (58 : Int32))] [(.int (own_ix 0 cs))]))
 obtain ⟨fs, hr, hrun, hended, hW, hsame⟩ := X1.leave (v := some (.int (own_ix 0 cs))) (fun h => by rw [Bd.returns] at h; cases h)
 subst hQQ
 refine ⟨_, _, retI X1 hx Bd.returns (hb hby d7_6) hr, hrun, hended, _, _, rfl, ?_, ⟨_, rfl⟩, hW, hsame.mono (by decide) (by decide)⟩
 show Q_six1 Z a t kb cs G1 h0 n0 _ T1.heap _
 rw [K1]
 exact ⟨rfl, N1, rfl⟩
theorem ef_ckl (m : MethodId) (b : Nat) (en : Nat) : entryFrame m #[(.int (Int32.ofNat b)), (.int (Int32.ofNat en))] 2 = (mkF m 0 #[.val (.int (Int32.ofNat b)), .val (.int (Int32.ofNat en))] []) := by first | (simp [entryFrame, mkF, argsToLocals, Value.category]; done) | rfl
def Q_ckl (Z : State) (b : Nat) (en : Nat) (h0 : Heap) (n0 : Nat) (v : Option Value) (h : Heap) (L : List Loc) : Prop := v = none ∧ Fr n0 L ∧ h = h0
set_option maxRecDepth 65536 in
set_option maxHeartbeats 40000000 in
theorem rm_ckl (l : Launch) (Z : State) (a0 : Array Value) (hw : ∀ d ∈ tables_1, d.before a0 Z = true) (ws : List Jvm.Cond) (b : Nat) (en : Nat) (h0 : Heap) (n0 : Nat) (Z0 : n0 ≤ h0.size) (hbe : b ≤ en) (he4 : en ≤ 4) :
    MetFree l (⟨"java/util/Arrays", "checkLength", "(II)V"⟩ : MethodName) (head1 (Jvm.Cond.code (⟨"java/util/Arrays", "checkLength", "(II)V"⟩ : MethodName) jdk_65_method_131_code 2 none :: ws) ({ frames := 0, cells := 0, slots := 0, locals := 0 } : Room)) (fun aR U => aR = #[(.int (Int32.ofNat b)), (.int (Int32.ofNat en))] ∧ Z.Warmed39 U.vm ∧ U.heap = h0) (fun _ _ _ _ _ => True) (fun _ U o U' => ∃ v L, o = .returned v ∧ Q_ckl Z b en h0 n0 v U'.heap L ∧ FrameEnd U o U' L ({ frames := 0, cells := 0, slots := 0, locals := 0 } : Room).cells ({ frames := 0, cells := 0, slots := 0, locals := 0 } : Room).slots) := by
 refine MetFree.of_bodySF (plainFor_of_name pn_4) hisR ?_
 intro p e s m args below meth c s₁ Bd hml0 hP hK
 obtain ⟨rfl, hZ, hh⟩ := hP
 have hx := Bd.exec
 have hby := Bd.bytes
 have hml : c.maxLocals = 2 := hml0
 have hown : s.vm.findClass "java/util/Arrays" = some m.cls := findClass_of_methodNamed Bd.named
 have hnm := (name_of_methodNamed Bd.named Bd.method).1
 have X0 : Stand p l e ({ frames := 0, cells := 0, slots := 0, locals := 0 } : Room) s m #[(.int (Int32.ofNat b)), (.int (Int32.ofNat en))] below meth c s₁ [] 0 0 := Stand.of_body Bd
 have e0 : s₁.heap = h0 := by rw [← hh, Bd.state]; rfl
 have N0 := Fr.nil n0
 show Goes p.tables e below _ _
 rw [ef_ckl m b en]
 refine Goes.named ?_
 intro QQ hQQ
 refine Goes.st (fun sT kT => XS.iloadN X0.here hx rfl (hb hby d32_0) rfl kT) ?_
 show Goes _ _ _ _ (s₁.setTop (mkF m 1 #[.val (.int (Int32.ofNat b)), .val (.int (Int32.ofNat en))] [(.int (Int32.ofNat en))]))
 refine Goes.st (fun sT kT => XS.iloadN X0.here hx rfl (hb hby d32_1) rfl kT) ?_
 show Goes _ _ _ _ (s₁.setTop (mkF m 2 #[.val (.int (Int32.ofNat b)), .val (.int (Int32.ofNat en))] [(.int (Int32.ofNat b)), (.int (Int32.ofNat en))]))
 refine Goes.st (fun sT kT => XS.icmpYes X0.here hx rfl (pc0 := 2) (pc' := 37) rfl (hb hby d32_2) rfl (flt (fun q => Nat.not_lt.mpr hbe ((own_nlt (by omega) (by omega)).mp q))).2.1 (by decide) (by decide) kT) ?_
 show Goes _ _ _ _ (s₁.setTop (mkF m 37 #[.val (.int (Int32.ofNat b)), .val (.int (Int32.ofNat en))] []))
 obtain ⟨fs, hr, hrun, hended, hW, hsame⟩ := X0.leave (v := none) (fun _ => rfl)
 subst hQQ
 refine ⟨_, _, X0.returnOut hx Bd.returns (hb hby d32_37) hr, hrun, hended, _, _, rfl, ?_, ⟨_, rfl⟩, hW, hsame.mono (by decide) (by decide)⟩
 show Q_ckl Z b en h0 n0 _ s₁.heap _
 rw [e0]
 exact ⟨rfl, N0, rfl⟩
theorem ef_corb (m : MethodId) (t : Addr) (kb : ClassId) (cs : List Int32) (b : Nat) (en : Nat) : entryFrame m #[(.ref t), (.int (Int32.ofNat b)), (.int (Int32.ofNat en))] 5 = (mkF m 0 #[.val (.ref t), .val (.int (Int32.ofNat b)), .val (.int (Int32.ofNat en)), uS, uS] []) := by first | (simp [entryFrame, mkF, argsToLocals, Value.category]; done) | rfl
def Q_corb (Z : State) (t : Addr) (kb : ClassId) (cs : List Int32) (b : Nat) (en : Nat) (h0 : Heap) (n0 : Nat) (v : Option Value) (h : Heap) (L : List Loc) : Prop := ∃ (tz : Addr) (kz : ClassId), v = some (.ref tz) ∧ Fr n0 L ∧ Keep h0 h [] ∧ Arv Z h tz kz .byte (Int32.ofNat (en - b)) ((((cs.drop b).take (en - b)).map fun c => c.toInt8.toInt32).map Value.int) (.int (0 : Int32)) ∧ h0.size ≤ tz
set_option maxRecDepth 65536 in
set_option maxHeartbeats 40000000 in
theorem rm_corb (l : Launch) (Z : State) (a0 : Array Value) (hw : ∀ d ∈ tables_1, d.before a0 Z = true) (ws : List Jvm.Cond) (t : Addr) (kb : ClassId) (cs : List Int32) (b : Nat) (en : Nat) (h0 : Heap) (n0 : Nat) (Z0 : n0 ≤ h0.size) (P0 : Arv Z h0 t kb .byte (Int32.ofNat cs.length) ((cs.map fun c => c.toInt8.toInt32).map Value.int) (.int (0 : Int32))) (hbe : b < en) (he : en ≤ cs.length) (h4 : cs.length ≤ 4) :
    MetFree l (⟨"java/util/Arrays", "copyOfRangeByte", "([BII)[B"⟩ : MethodName) (head1 (Jvm.Cond.code (⟨"java/util/Arrays", "copyOfRangeByte", "([BII)[B"⟩ : MethodName) jdk_65_method_133_code 5 (some (.array .byte)) :: ws) ({ frames := 1, cells := 1, slots := 4, locals := 60 } : Room)) (fun aR U => aR = #[(.ref t), (.int (Int32.ofNat b)), (.int (Int32.ofNat en))] ∧ Z.Warmed39 U.vm ∧ U.heap = h0) (fun _ _ _ _ _ => True) (fun _ U o U' => ∃ v L, o = .returned v ∧ Q_corb Z t kb cs b en h0 n0 v U'.heap L ∧ FrameEnd U o U' L ({ frames := 1, cells := 1, slots := 4, locals := 60 } : Room).cells ({ frames := 1, cells := 1, slots := 4, locals := 60 } : Room).slots) := by
 refine MetFree.of_bodySF (plainFor_of_name pn_4) hisR ?_
 intro p e s m args below meth c s₁ Bd hml0 hP hK
 obtain ⟨rfl, hZ, hh⟩ := hP
 have hx := Bd.exec
 have hby := Bd.bytes
 have hml : c.maxLocals = 5 := hml0
 have hown : s.vm.findClass "java/util/Arrays" = some m.cls := findClass_of_methodNamed Bd.named
 have hnm := (name_of_methodNamed Bd.named Bd.method).1
 have X0 : Stand p l e ({ frames := 1, cells := 1, slots := 4, locals := 60 } : Room) s m #[(.ref t), (.int (Int32.ofNat b)), (.int (Int32.ofNat en))] below meth c s₁ [] 0 0 := Stand.of_body Bd
 have e0 : s₁.heap = h0 := by rw [← hh, Bd.state]; rfl
 have N0 := Fr.nil n0
 show Goes p.tables e below _ _
 rw [ef_corb m t kb cs b en]
 refine Goes.named ?_
 intro QQ hQQ
 refine Goes.st (fun sT kT => XS.iloadN X0.here hx rfl (hb hby d31_0) rfl kT) ?_
 show Goes _ _ _ _ (s₁.setTop (mkF m 1 #[.val (.ref t), .val (.int (Int32.ofNat b)), .val (.int (Int32.ofNat en)), uS, uS] [(.int (Int32.ofNat b))]))
 refine Goes.st (fun sT kT => XS.iloadN X0.here hx rfl (hb hby d31_1) rfl kT) ?_
 show Goes _ _ _ _ (s₁.setTop (mkF m 2 #[.val (.ref t), .val (.int (Int32.ofNat b)), .val (.int (Int32.ofNat en)), uS, uS] [(.int (Int32.ofNat en)), (.int (Int32.ofNat b))]))
 obtain ⟨_, _, ⟨T1, L1, k1, n1⟩, -, X1, ⟨Lc1, hQ1, l1, y1, z1⟩, st1⟩ := Jvm.LawKit.callS X0 hx (y := (⟨"java/util/Arrays", "checkLength", "(II)V"⟩ : MethodName)) hown (mvT hZ (hw148 hw)) (mvT hZ (hw149 hw)) (mvT hZ (hw143 hw)) (mvT hZ (hw150 hw)) (by decide) (backOf (W := 0) (rm_ckl l Z a0 hw [] b en h0 n0 Z0 (Nat.le_of_lt hbe) (Nat.le_trans he h4)) hZ (hw150 hw) (hw143 hw) (by decide) (by decide)) (g := (mkF m 2 #[.val (.ref t), .val (.int (Int32.ofNat b)), .val (.int (Int32.ofNat en)), uS, uS] [(.int (Int32.ofNat en)), (.int (Int32.ofNat b))])) rfl (by rw [hml]; rfl) (argsL := [(.int (Int32.ofNat b)), (.int (Int32.ofNat en))]) (rest := []) (lenOf pd_6 rfl) rfl (by show 2 * 0 + _ ≤ _; exact Nat.le_of_eq rfl) (hb hby d31_2) (fun _ _ => ⟨rfl, e0, (by decide : 0 + 0 ≤ _), (by decide : 0 + 0 ≤ _)⟩)
 dsimp only [Pt.U, Pt.locs, Pt.cells, Pt.slots] at X1 l1 y1 z1 st1 hQ1
 subst l1 y1 z1
 obtain ⟨rfl, N1q, K1⟩ := hQ1
 have N1 := Fr.app N0 N1q
 refine Goes.st st1 ?_
 show Goes _ _ _ _ (T1.setTop (mkF m 5 #[.val (.ref t), .val (.int (Int32.ofNat b)), .val (.int (Int32.ofNat en)), uS, uS] []))
 refine Goes.st (fun sT kT => XS.iloadN X1.here hx rfl (hb hby d31_5) rfl kT) ?_
 show Goes _ _ _ _ (T1.setTop (mkF m 6 #[.val (.ref t), .val (.int (Int32.ofNat b)), .val (.int (Int32.ofNat en)), uS, uS] [(.int (Int32.ofNat en))]))
 refine Goes.st (fun sT kT => XS.iloadN X1.here hx rfl (hb hby d31_6) rfl kT) ?_
 show Goes _ _ _ _ (T1.setTop (mkF m 7 #[.val (.ref t), .val (.int (Int32.ofNat b)), .val (.int (Int32.ofNat en)), uS, uS] [(.int (Int32.ofNat b)), (.int (Int32.ofNat en))]))
 refine Goes.st (fun sT kT => XS.isub X1.here hx rfl (hb hby d31_7) rfl kT) ?_
 show Goes _ _ _ _ (T1.setTop (mkF m 8 #[.val (.ref t), .val (.int (Int32.ofNat b)), .val (.int (Int32.ofNat en)), uS, uS] [(.int ((Int32.ofNat en) - (Int32.ofNat b)))]))
 rw [own_nsub (Nat.le_of_lt hbe)]
 show Goes _ _ _ _ (T1.setTop (mkF m 8 #[.val (.ref t), .val (.int (Int32.ofNat b)), .val (.int (Int32.ofNat en)), uS, uS] [(.int (Int32.ofNat (en - b)))]))
 refine Goes.st (fun sT kT => XS.istoreN X1.here hx rfl (hb hby d31_8) rfl (l' := #[.val (.ref t), .val (.int (Int32.ofNat b)), .val (.int (Int32.ofNat en)), .val (.int (Int32.ofNat (en - b))), uS]) rfl kT) ?_
 show Goes _ _ _ _ (T1.setTop (mkF m 9 #[.val (.ref t), .val (.int (Int32.ofNat b)), .val (.int (Int32.ofNat en)), .val (.int (Int32.ofNat (en - b))), uS] []))
 refine Goes.st (fun sT kT => XS.iloadN X1.here hx rfl (hb hby d31_9) rfl kT) ?_
 show Goes _ _ _ _ (T1.setTop (mkF m 10 #[.val (.ref t), .val (.int (Int32.ofNat b)), .val (.int (Int32.ofNat en)), .val (.int (Int32.ofNat (en - b))), uS] [(.int (Int32.ofNat (en - b)))]))
 obtain ⟨T2, h2, k2, X2, e2, E2, A2, st2⟩ := newP X1 hx hZ (aty := .byte) (hw23 hw) K1 (g := (mkF m 10 #[.val (.ref t), .val (.int (Int32.ofNat b)), .val (.int (Int32.ofNat en)), .val (.int (Int32.ofNat (en - b))), uS] [(.int (Int32.ofNat (en - b)))])) rfl (hb hby d31_10) rfl (own_nneg (by omega)) (cap := 4) (by rw [own_nclamp (by omega)]; omega) (by decide) (by decide) (by decide)
 obtain ⟨b2, g2⟩ : ∃ z, z = h0.size := ⟨_, rfl⟩
 rw [← g2] at A2 st2
 have V2 : Arv Z h2 b2 k2 .byte (Int32.ofNat (en - b)) [] (.int (0 : Int32)) := Arv.new A2 (own_nneg (by omega))
 refine Goes.st st2 ?_
 show Goes _ _ _ _ (T2.setTop (mkF m 12 #[.val (.ref t), .val (.int (Int32.ofNat b)), .val (.int (Int32.ofNat en)), .val (.int (Int32.ofNat (en - b))), uS] [(.ref b2)]))
 refine Goes.st (fun sT kT => XS.astore X2.here hx rfl (hb hby d31_12) rfl rfl (l' := #[.val (.ref t), .val (.int (Int32.ofNat b)), .val (.int (Int32.ofNat en)), .val (.int (Int32.ofNat (en - b))), .val (.ref b2)]) rfl kT) ?_
 show Goes _ _ _ _ (T2.setTop (mkF m 14 #[.val (.ref t), .val (.int (Int32.ofNat b)), .val (.int (Int32.ofNat en)), .val (.int (Int32.ofNat (en - b))), .val (.ref b2)] []))
 refine Goes.st (fun sT kT => XS.aloadN X2.here hx rfl (hb hby d31_14) rfl rfl kT) ?_
 show Goes _ _ _ _ (T2.setTop (mkF m 15 #[.val (.ref t), .val (.int (Int32.ofNat b)), .val (.int (Int32.ofNat en)), .val (.int (Int32.ofNat (en - b))), .val (.ref b2)] [(.ref t)]))
 refine Goes.st (fun sT kT => XS.iloadN X2.here hx rfl (hb hby d31_15) rfl kT) ?_
 show Goes _ _ _ _ (T2.setTop (mkF m 16 #[.val (.ref t), .val (.int (Int32.ofNat b)), .val (.int (Int32.ofNat en)), .val (.int (Int32.ofNat (en - b))), .val (.ref b2)] [(.int (Int32.ofNat b)), (.ref t)]))
 refine Goes.st (fun sT kT => XS.aload X2.here hx rfl (hb hby d31_16) rfl rfl kT) ?_
 show Goes _ _ _ _ (T2.setTop (mkF m 18 #[.val (.ref t), .val (.int (Int32.ofNat b)), .val (.int (Int32.ofNat en)), .val (.int (Int32.ofNat (en - b))), .val (.ref b2)] [(.ref b2), (.int (Int32.ofNat b)), (.ref t)]))
 refine Goes.st (fun sT kT => XS.iconst X2.here hx rfl (hb hby d31_18) kT) ?_
 show Goes _ _ _ _ (T2.setTop (mkF m 19 #[.val (.ref t), .val (.int (Int32.ofNat b)), .val (.int (Int32.ofNat en)), .val (.int (Int32.ofNat (en - b))), .val (.ref b2)] [(.int (0 : Int32)), (.ref b2), (.int (Int32.ofNat b)), (.ref t)]))
 refine Goes.st (fun sT kT => XS.aloadN X2.here hx rfl (hb hby d31_19) rfl rfl kT) ?_
 show Goes _ _ _ _ (T2.setTop (mkF m 20 #[.val (.ref t), .val (.int (Int32.ofNat b)), .val (.int (Int32.ofNat en)), .val (.int (Int32.ofNat (en - b))), .val (.ref b2)] [(.ref t), (.int (0 : Int32)), (.ref b2), (.int (Int32.ofNat b)), (.ref t)]))
 have f3 : Arv Z h2 t kb .byte (Int32.ofNat cs.length) ((cs.map fun c => c.toInt8.toInt32).map Value.int) (.int (0 : Int32)) := (P0.ext E2)
 obtain ⟨oc4, oA4, oq4, oS4, oM4, oH4, oG4⟩ := id f3
 refine Goes.st (fun sT kT => X2.arraylength hx (by rw [e2]; exact oA4.1) (State.isArrayOf_alike hZ.alike oA4.2.1) (g := (mkF m 20 #[.val (.ref t), .val (.int (Int32.ofNat b)), .val (.int (Int32.ofNat en)), .val (.int (Int32.ofNat (en - b))), .val (.ref b2)] [(.ref t), (.int (0 : Int32)), (.ref b2), (.int (Int32.ofNat b)), (.ref t)])) rfl rfl (hb hby d31_20) _ kT) ?_
 rw [len_of oS4 oM4]
 show Goes _ _ _ _ (T2.setTop (mkF m 21 #[.val (.ref t), .val (.int (Int32.ofNat b)), .val (.int (Int32.ofNat en)), .val (.int (Int32.ofNat (en - b))), .val (.ref b2)] [(.int (Int32.ofNat cs.length)), (.int (0 : Int32)), (.ref b2), (.int (Int32.ofNat b)), (.ref t)]))
 refine Goes.st (fun sT kT => XS.iloadN X2.here hx rfl (hb hby d31_21) rfl kT) ?_
 show Goes _ _ _ _ (T2.setTop (mkF m 22 #[.val (.ref t), .val (.int (Int32.ofNat b)), .val (.int (Int32.ofNat en)), .val (.int (Int32.ofNat (en - b))), .val (.ref b2)] [(.int (Int32.ofNat b)), (.int (Int32.ofNat cs.length)), (.int (0 : Int32)), (.ref b2), (.int (Int32.ofNat b)), (.ref t)]))
 refine Goes.st (fun sT kT => XS.isub X2.here hx rfl (hb hby d31_22) rfl kT) ?_
 show Goes _ _ _ _ (T2.setTop (mkF m 23 #[.val (.ref t), .val (.int (Int32.ofNat b)), .val (.int (Int32.ofNat en)), .val (.int (Int32.ofNat (en - b))), .val (.ref b2)] [(.int ((Int32.ofNat cs.length) - (Int32.ofNat b))), (.int (0 : Int32)), (.ref b2), (.int (Int32.ofNat b)), (.ref t)]))
 rw [own_nsub (Nat.le_trans (Nat.le_of_lt hbe) he)]
 show Goes _ _ _ _ (T2.setTop (mkF m 23 #[.val (.ref t), .val (.int (Int32.ofNat b)), .val (.int (Int32.ofNat en)), .val (.int (Int32.ofNat (en - b))), .val (.ref b2)] [(.int (Int32.ofNat (cs.length - b))), (.int (0 : Int32)), (.ref b2), (.int (Int32.ofNat b)), (.ref t)]))
 refine Goes.st (fun sT kT => XS.iloadN X2.here hx rfl (hb hby d31_23) rfl kT) ?_
 show Goes _ _ _ _ (T2.setTop (mkF m 24 #[.val (.ref t), .val (.int (Int32.ofNat b)), .val (.int (Int32.ofNat en)), .val (.int (Int32.ofNat (en - b))), .val (.ref b2)] [(.int (Int32.ofNat (en - b))), (.int (Int32.ofNat (cs.length - b))), (.int (0 : Int32)), (.ref b2), (.int (Int32.ofNat b)), (.ref t)]))
 obtain ⟨_, _, ⟨T5, L5, k5, n5⟩, -, X5, ⟨Lc5, hQ5, l5, y5, z5⟩, st5⟩ := Jvm.LawKit.callS X2 hx (y := (⟨"java/lang/Math", "min", "(II)I"⟩ : MethodName)) hown (mvT hZ (hw151 hw)) (mvT hZ (hw72 hw)) (mvT hZ (hw69 hw)) (mvT hZ (hw73 hw)) (by decide) (backOf (W := 4) (rm_minge l Z a0 hw [] (Int32.ofNat (cs.length - b)) (Int32.ofNat (en - b)) h2 n0 (Nat.le_trans Z0 E2.1) (own_hge (by omega) (by omega))) hZ (hw73 hw) (hw69 hw) (by decide) (by decide)) (g := (mkF m 24 #[.val (.ref t), .val (.int (Int32.ofNat b)), .val (.int (Int32.ofNat en)), .val (.int (Int32.ofNat (en - b))), .val (.ref b2)] [(.int (Int32.ofNat (en - b))), (.int (Int32.ofNat (cs.length - b))), (.int (0 : Int32)), (.ref b2), (.int (Int32.ofNat b)), (.ref t)])) rfl (by rw [hml]; rfl) (argsL := [(.int (Int32.ofNat (cs.length - b))), (.int (Int32.ofNat (en - b)))]) (rest := [(.int (0 : Int32)), (.ref b2), (.int (Int32.ofNat b)), (.ref t)]) (lenOf pd_2 rfl) rfl (by show 2 * 0 + _ ≤ _; exact Nat.le_of_eq rfl) (hb hby d31_24) (fun _ _ => ⟨rfl, e2, (by decide : 1 + 0 ≤ _), (by decide : 4 + 0 ≤ _)⟩)
 dsimp only [Pt.U, Pt.locs, Pt.cells, Pt.slots] at X5 l5 y5 z5 st5 hQ5
 subst l5 y5 z5
 obtain ⟨rfl, N5q, K5⟩ := hQ5
 have N5 := Fr.app N1 N5q
 refine Goes.st st5 ?_
 show Goes _ _ _ _ (T5.setTop (mkF m 27 #[.val (.ref t), .val (.int (Int32.ofNat b)), .val (.int (Int32.ofNat en)), .val (.int (Int32.ofNat (en - b))), .val (.ref b2)] [(.int (Int32.ofNat (en - b))), (.int (0 : Int32)), (.ref b2), (.int (Int32.ofNat b)), (.ref t)]))
 have Vp8 : Arv Z h2 b2 k2 .byte (Int32.ofNat (en - b)) ([] ++ List.replicate (en - b) (.int (0 : Int32))) (.int (0 : Int32)) := V2.pad (pad_rep [] _ (en - b))
 obtain ⟨T7, h7, Lc7, X7, e7, N7, K7, Ac7, st7⟩ := cpA X5 hx hZ hown (hw152 hw) (hw155 hw) (hw153 hw) (hw154 hw) K5 f3 Vp8 (Or.inl ⟨rfl, rfl⟩) (sp := (Int32.ofNat b)) (dp := (0 : Int32)) (nn := (Int32.ofNat (en - b))) (us := ((((cs.drop b).take (en - b)).map fun c => c.toInt8.toInt32).map Value.int)) (own_nneg (by omega)) (by decide) (own_nneg (by omega)) (by rw [own_nclamp (by omega), own_nclamp (by omega), own_nclamp (by omega)]; omega) (by rw [own_nclamp (by omega)]; exact Nat.le_of_eq (Nat.zero_add _)) (own_us (by omega) h4) (by rw [own_nclamp (by omega)]; have : (0 : Int32).toNatClampNeg = 0 := rfl; simp [this]) N5 (Nat.le_trans Z0 (Nat.le_of_eq g2.symm)) (g := (mkF m 27 #[.val (.ref t), .val (.int (Int32.ofNat b)), .val (.int (Int32.ofNat en)), .val (.int (Int32.ofNat (en - b))), .val (.ref b2)] [(.int (Int32.ofNat (en - b))), (.int (0 : Int32)), (.ref b2), (.int (Int32.ofNat b)), (.ref t)])) rfl (by rw [hml]; rfl) rfl (hb hby d31_27) (by decide) (W := 0) (by show 2 * 0 + _ ≤ _; exact Nat.le_of_eq rfl) (by decide)
 rw [own_cpy (by omega)] at Ac7
 refine Goes.st st7 ?_
 show Goes _ _ _ _ (T7.setTop (mkF m 30 #[.val (.ref t), .val (.int (Int32.ofNat b)), .val (.int (Int32.ofNat en)), .val (.int (Int32.ofNat (en - b))), .val (.ref b2)] []))
 refine Goes.st (fun sT kT => XS.aload X7.here hx rfl (hb hby d31_30) rfl rfl kT) ?_
 show Goes _ _ _ _ (T7.setTop (mkF m 32 #[.val (.ref t), .val (.int (Int32.ofNat b)), .val (.int (Int32.ofNat en)), .val (.int (Int32.ofNat (en - b))), .val (.ref b2)] [(.ref b2)]))
 have kp9 : Keep h0 h2 [] := (Keep.refl h0 []).ext E2
 have kp10 : Keep h0 h7 [] := kp9.trans K7 (allS (Or.inr (Nat.le_of_eq g2.symm)) all0)
 obtain ⟨fs, hr, hrun, hended, hW, hsame⟩ := X7.leave (v := some (.ref b2)) (fun h => by rw [Bd.returns] at h; cases h)
 subst hQQ
 refine ⟨_, _, retR X7 hx Bd.returns rfl rfl (hb hby d31_32) hr, hrun, hended, _, _, rfl, ?_, ⟨_, rfl⟩, hW, hsame.mono (by decide) (by decide)⟩
 show Q_corb Z t kb cs b en h0 n0 _ T7.heap _
 rw [e7]
 exact ⟨b2, k2, rfl, N7, kp10, Ac7, (Nat.le_of_eq g2.symm)⟩
theorem ef_cor (m : MethodId) (t : Addr) (kb : ClassId) (cs : List Int32) (b : Nat) (en : Nat) : entryFrame m #[(.ref t), (.int (Int32.ofNat b)), (.int (Int32.ofNat en))] 3 = (mkF m 0 #[.val (.ref t), .val (.int (Int32.ofNat b)), .val (.int (Int32.ofNat en))] []) := by first | (simp [entryFrame, mkF, argsToLocals, Value.category]; done) | rfl
def Q_cor (Z : State) (t : Addr) (kb : ClassId) (cs : List Int32) (b : Nat) (en : Nat) (h0 : Heap) (n0 : Nat) (v : Option Value) (h : Heap) (L : List Loc) : Prop := ∃ (tz : Addr) (kz : ClassId), v = some (.ref tz) ∧ Fr n0 L ∧ Keep h0 h [] ∧ Arv Z h tz kz .byte (Int32.ofNat (en - b)) ((((cs.drop b).take (en - b)).map fun c => c.toInt8.toInt32).map Value.int) (.int (0 : Int32)) ∧ h0.size ≤ tz
set_option maxRecDepth 65536 in
set_option maxHeartbeats 40000000 in
theorem rm_cor (l : Launch) (Z : State) (a0 : Array Value) (hw : ∀ d ∈ tables_1, d.before a0 Z = true) (ws : List Jvm.Cond) (t : Addr) (kb : ClassId) (cs : List Int32) (b : Nat) (en : Nat) (h0 : Heap) (n0 : Nat) (Z0 : n0 ≤ h0.size) (P0 : Arv Z h0 t kb .byte (Int32.ofNat cs.length) ((cs.map fun c => c.toInt8.toInt32).map Value.int) (.int (0 : Int32))) (hbe : b < en) (he : en ≤ cs.length) (h4 : cs.length ≤ 4) (hnw : ¬ (b = 0 ∧ en = cs.length)) :
    MetFree l (⟨"java/util/Arrays", "copyOfRange", "([BII)[B"⟩ : MethodName) (head1 (Jvm.Cond.code (⟨"java/util/Arrays", "copyOfRange", "([BII)[B"⟩ : MethodName) jdk_65_method_132_code 3 (some (.array .byte)) :: ws) ({ frames := 2, cells := 1, slots := 4, locals := 76 } : Room)) (fun aR U => aR = #[(.ref t), (.int (Int32.ofNat b)), (.int (Int32.ofNat en))] ∧ Z.Warmed39 U.vm ∧ U.heap = h0) (fun _ _ _ _ _ => True) (fun _ U o U' => ∃ v L, o = .returned v ∧ Q_cor Z t kb cs b en h0 n0 v U'.heap L ∧ FrameEnd U o U' L ({ frames := 2, cells := 1, slots := 4, locals := 76 } : Room).cells ({ frames := 2, cells := 1, slots := 4, locals := 76 } : Room).slots) := by
 refine MetFree.of_bodySF (plainFor_of_name pn_4) hisR ?_
 intro p e s m args below meth c s₁ Bd hml0 hP hK
 obtain ⟨rfl, hZ, hh⟩ := hP
 have hx := Bd.exec
 have hby := Bd.bytes
 have hml : c.maxLocals = 3 := hml0
 have hown : s.vm.findClass "java/util/Arrays" = some m.cls := findClass_of_methodNamed Bd.named
 have hnm := (name_of_methodNamed Bd.named Bd.method).1
 have X0 : Stand p l e ({ frames := 2, cells := 1, slots := 4, locals := 76 } : Room) s m #[(.ref t), (.int (Int32.ofNat b)), (.int (Int32.ofNat en))] below meth c s₁ [] 0 0 := Stand.of_body Bd
 have e0 : s₁.heap = h0 := by rw [← hh, Bd.state]; rfl
 have N0 := Fr.nil n0
 show Goes p.tables e below _ _
 rw [ef_cor m t kb cs b en]
 refine Goes.named ?_
 intro QQ hQQ
 refine Goes.st (fun sT kT => XS.iloadN X0.here hx rfl (hb hby d30_0) rfl kT) ?_
 show Goes _ _ _ _ (s₁.setTop (mkF m 1 #[.val (.ref t), .val (.int (Int32.ofNat b)), .val (.int (Int32.ofNat en))] [(.int (Int32.ofNat b))]))
 by_cases cz1 : (Int32.ofNat b) = (0 : Int32)
 case pos =>
  refine Goes.st (fun sT kT => XS.ifNo X0.here hx rfl (hb hby d30_1) rfl ((if0 _ _).trans (teq cz1).2) kT) ?_
  show Goes _ _ _ _ (s₁.setTop (mkF m 4 #[.val (.ref t), .val (.int (Int32.ofNat b)), .val (.int (Int32.ofNat en))] []))
  refine Goes.st (fun sT kT => XS.iloadN X0.here hx rfl (hb hby d30_4) rfl kT) ?_
  show Goes _ _ _ _ (s₁.setTop (mkF m 5 #[.val (.ref t), .val (.int (Int32.ofNat b)), .val (.int (Int32.ofNat en))] [(.int (Int32.ofNat en))]))
  refine Goes.st (fun sT kT => XS.aloadN X0.here hx rfl (hb hby d30_5) rfl rfl kT) ?_
  show Goes _ _ _ _ (s₁.setTop (mkF m 6 #[.val (.ref t), .val (.int (Int32.ofNat b)), .val (.int (Int32.ofNat en))] [(.ref t), (.int (Int32.ofNat en))]))
  obtain ⟨oc2, oA2, oq2, oS2, oM2, oH2, oG2⟩ := id P0
  refine Goes.st (fun sT kT => X0.arraylength hx (by rw [e0]; exact oA2.1) (State.isArrayOf_alike hZ.alike oA2.2.1) (g := (mkF m 6 #[.val (.ref t), .val (.int (Int32.ofNat b)), .val (.int (Int32.ofNat en))] [(.ref t), (.int (Int32.ofNat en))])) rfl rfl (hb hby d30_6) _ kT) ?_
  rw [len_of oS2 oM2]
  show Goes _ _ _ _ (s₁.setTop (mkF m 7 #[.val (.ref t), .val (.int (Int32.ofNat b)), .val (.int (Int32.ofNat en))] [(.int (Int32.ofNat cs.length)), (.int (Int32.ofNat en))]))
  refine Goes.st (fun sT kT => XS.icmpNo X0.here hx rfl (hb hby d30_7) rfl (feq (fun q => hnw ⟨own_ninj (by omega) (by decide) cz1, own_ninj (by omega) (by omega) q⟩)).1 kT) ?_
  show Goes _ _ _ _ (s₁.setTop (mkF m 10 #[.val (.ref t), .val (.int (Int32.ofNat b)), .val (.int (Int32.ofNat en))] []))
  refine Goes.st (fun sT kT => XS.aloadN X0.here hx rfl (hb hby d30_10) rfl rfl kT) ?_
  show Goes _ _ _ _ (s₁.setTop (mkF m 11 #[.val (.ref t), .val (.int (Int32.ofNat b)), .val (.int (Int32.ofNat en))] [(.ref t)]))
  refine Goes.st (fun sT kT => XS.iloadN X0.here hx rfl (hb hby d30_11) rfl kT) ?_
  show Goes _ _ _ _ (s₁.setTop (mkF m 12 #[.val (.ref t), .val (.int (Int32.ofNat b)), .val (.int (Int32.ofNat en))] [(.int (Int32.ofNat b)), (.ref t)]))
  refine Goes.st (fun sT kT => XS.iloadN X0.here hx rfl (hb hby d30_12) rfl kT) ?_
  show Goes _ _ _ _ (s₁.setTop (mkF m 13 #[.val (.ref t), .val (.int (Int32.ofNat b)), .val (.int (Int32.ofNat en))] [(.int (Int32.ofNat en)), (.int (Int32.ofNat b)), (.ref t)]))
  obtain ⟨_, _, ⟨T3, L3, k3, n3⟩, -, X3, ⟨Lc3, hQ3, l3, y3, z3⟩, st3⟩ := Jvm.LawKit.callS X0 hx (y := (⟨"java/util/Arrays", "copyOfRangeByte", "([BII)[B"⟩ : MethodName)) hown (mvT hZ (hw145 hw)) (mvT hZ (hw146 hw)) (mvT hZ (hw143 hw)) (mvT hZ (hw147 hw)) (by decide) (backOf (W := 0) (rm_corb l Z a0 hw [] t kb cs b en h0 n0 Z0 P0 hbe he h4) hZ (hw147 hw) (hw143 hw) (by decide) (by decide)) (g := (mkF m 13 #[.val (.ref t), .val (.int (Int32.ofNat b)), .val (.int (Int32.ofNat en))] [(.int (Int32.ofNat en)), (.int (Int32.ofNat b)), (.ref t)])) rfl (by rw [hml]; rfl) (argsL := [(.ref t), (.int (Int32.ofNat b)), (.int (Int32.ofNat en))]) (rest := []) (lenOf pd_7 rfl) rfl (by show 2 * 0 + _ ≤ _; exact Nat.le_of_eq rfl) (hb hby d30_13) (fun _ _ => ⟨rfl, e0, (by decide : 0 + 1 ≤ _), (by decide : 0 + 4 ≤ _)⟩)
  dsimp only [Pt.U, Pt.locs, Pt.cells, Pt.slots] at X3 l3 y3 z3 st3 hQ3
  subst l3 y3 z3
  obtain ⟨tz3, kz3, rfl, N3q, K3, F3_0, lo3_0⟩ := hQ3
  have N3 := Fr.app N0 N3q
  refine Goes.st st3 ?_
  show Goes _ _ _ _ (T3.setTop (mkF m 16 #[.val (.ref t), .val (.int (Int32.ofNat b)), .val (.int (Int32.ofNat en))] [(.ref tz3)]))
  have kp4 : Keep h0 T3.heap [] := (Keep.refl h0 []).trans K3 all0
  obtain ⟨fs, hr, hrun, hended, hW, hsame⟩ := X3.leave (v := some (.ref tz3)) (fun h => by rw [Bd.returns] at h; cases h)
  subst hQQ
  refine ⟨_, _, retR X3 hx Bd.returns rfl rfl (hb hby d30_16) hr, hrun, hended, _, _, rfl, ?_, ⟨_, rfl⟩, hW, hsame.mono (by decide) (by decide)⟩
  show Q_cor Z t kb cs b en h0 n0 _ T3.heap _
  exact ⟨tz3, kz3, rfl, N3, kp4, F3_0, lo3_0⟩
 case neg =>
  refine Goes.st (fun sT kT => XS.ifYes X0.here hx rfl (pc0 := 1) (pc' := 10) rfl (hb hby d30_1) rfl ((if0 _ _).trans (feq cz1).2) (by decide) (by decide) kT) ?_
  show Goes _ _ _ _ (s₁.setTop (mkF m 10 #[.val (.ref t), .val (.int (Int32.ofNat b)), .val (.int (Int32.ofNat en))] []))
  refine Goes.st (fun sT kT => XS.aloadN X0.here hx rfl (hb hby d30_10) rfl rfl kT) ?_
  show Goes _ _ _ _ (s₁.setTop (mkF m 11 #[.val (.ref t), .val (.int (Int32.ofNat b)), .val (.int (Int32.ofNat en))] [(.ref t)]))
  refine Goes.st (fun sT kT => XS.iloadN X0.here hx rfl (hb hby d30_11) rfl kT) ?_
  show Goes _ _ _ _ (s₁.setTop (mkF m 12 #[.val (.ref t), .val (.int (Int32.ofNat b)), .val (.int (Int32.ofNat en))] [(.int (Int32.ofNat b)), (.ref t)]))
  refine Goes.st (fun sT kT => XS.iloadN X0.here hx rfl (hb hby d30_12) rfl kT) ?_
  show Goes _ _ _ _ (s₁.setTop (mkF m 13 #[.val (.ref t), .val (.int (Int32.ofNat b)), .val (.int (Int32.ofNat en))] [(.int (Int32.ofNat en)), (.int (Int32.ofNat b)), (.ref t)]))
  obtain ⟨_, _, ⟨T5, L5, k5, n5⟩, -, X5, ⟨Lc5, hQ5, l5, y5, z5⟩, st5⟩ := Jvm.LawKit.callS X0 hx (y := (⟨"java/util/Arrays", "copyOfRangeByte", "([BII)[B"⟩ : MethodName)) hown (mvT hZ (hw145 hw)) (mvT hZ (hw146 hw)) (mvT hZ (hw143 hw)) (mvT hZ (hw147 hw)) (by decide) (backOf (W := 0) (rm_corb l Z a0 hw [] t kb cs b en h0 n0 Z0 P0 hbe he h4) hZ (hw147 hw) (hw143 hw) (by decide) (by decide)) (g := (mkF m 13 #[.val (.ref t), .val (.int (Int32.ofNat b)), .val (.int (Int32.ofNat en))] [(.int (Int32.ofNat en)), (.int (Int32.ofNat b)), (.ref t)])) rfl (by rw [hml]; rfl) (argsL := [(.ref t), (.int (Int32.ofNat b)), (.int (Int32.ofNat en))]) (rest := []) (lenOf pd_7 rfl) rfl (by show 2 * 0 + _ ≤ _; exact Nat.le_of_eq rfl) (hb hby d30_13) (fun _ _ => ⟨rfl, e0, (by decide : 0 + 1 ≤ _), (by decide : 0 + 4 ≤ _)⟩)
  dsimp only [Pt.U, Pt.locs, Pt.cells, Pt.slots] at X5 l5 y5 z5 st5 hQ5
  subst l5 y5 z5
  obtain ⟨tz5, kz5, rfl, N5q, K5, F5_0, lo5_0⟩ := hQ5
  have N5 := Fr.app N0 N5q
  refine Goes.st st5 ?_
  show Goes _ _ _ _ (T5.setTop (mkF m 16 #[.val (.ref t), .val (.int (Int32.ofNat b)), .val (.int (Int32.ofNat en))] [(.ref tz5)]))
  have kp6 : Keep h0 T5.heap [] := (Keep.refl h0 []).trans K5 all0
  obtain ⟨fs, hr, hrun, hended, hW, hsame⟩ := X5.leave (v := some (.ref tz5)) (fun h => by rw [Bd.returns] at h; cases h)
  subst hQQ
  refine ⟨_, _, retR X5 hx Bd.returns rfl rfl (hb hby d30_16) hr, hrun, hended, _, _, rfl, ?_, ⟨_, rfl⟩, hW, hsame.mono (by decide) (by decide)⟩
  show Q_cor Z t kb cs b en h0 n0 _ T5.heap _
  exact ⟨tz5, kz5, rfl, N5, kp6, F5_0, lo5_0⟩
theorem ef_sBB (m : MethodId) (a : Addr) (t : Addr) : entryFrame m #[(.ref a), (.ref t), (.int (0 : Int32))] 3 = (mkF m 0 #[.val (.ref a), .val (.ref t), .val (.int (0 : Int32))] []) := by first | (simp [entryFrame, mkF, argsToLocals, Value.category]; done) | rfl
def Q_sBB (Z : State) (a : Addr) (t : Addr) (h0 : Heap) (n0 : Nat) (v : Option Value) (h : Heap) (L : List Loc) : Prop := v = none ∧ Fr n0 L ∧ Keep h0 h [a] ∧ Exa Z h a "java/lang/String" ∧ Fld Z h a "java/lang/String" "value" "[B" (.ref t) ∧ Fld Z h a "java/lang/String" "coder" "B" (.int (0 : Int32))
set_option maxRecDepth 65536 in
set_option maxHeartbeats 40000000 in
theorem rm_sBB (l : Launch) (Z : State) (a0 : Array Value) (hw : ∀ d ∈ tables_1, d.before a0 Z = true) (ws : List Jvm.Cond) (a : Addr) (t : Addr) (h0 : Heap) (n0 : Nat) (Z0 : n0 ≤ h0.size) (P0 : Exa Z h0 a "java/lang/String") (P1 : Fld Z h0 a "java/lang/String" "value" "[B" .null) (P2 : Fld Z h0 a "java/lang/String" "coder" "B" (.int (0 : Int32))) (g_a : n0 ≤ a) :
    MetFree l (⟨"java/lang/String", "<init>", "([BB)V"⟩ : MethodName) (head1 (Jvm.Cond.code (⟨"java/lang/String", "<init>", "([BB)V"⟩ : MethodName) jdk_42_method_151_code 3 none :: ws) ({ frames := 1, cells := 0, slots := 0, locals := 12 } : Room)) (fun aR U => aR = #[(.ref a), (.ref t), (.int (0 : Int32))] ∧ Z.Warmed39 U.vm ∧ U.heap = h0) (fun _ _ _ _ _ => True) (fun _ U o U' => ∃ v L, o = .returned v ∧ Q_sBB Z a t h0 n0 v U'.heap L ∧ FrameEnd U o U' L ({ frames := 1, cells := 0, slots := 0, locals := 12 } : Room).cells ({ frames := 1, cells := 0, slots := 0, locals := 12 } : Room).slots) := by
 refine MetFree.of_bodySF (plainFor_of_name pn_0) hisR ?_
 intro p e s m args below meth c s₁ Bd hml0 hP hK
 obtain ⟨rfl, hZ, hh⟩ := hP
 have hx := Bd.exec
 have hby := Bd.bytes
 have hml : c.maxLocals = 3 := hml0
 have hown : s.vm.findClass "java/lang/String" = some m.cls := findClass_of_methodNamed Bd.named
 have hnm := (name_of_methodNamed Bd.named Bd.method).1
 have X0 : Stand p l e ({ frames := 1, cells := 0, slots := 0, locals := 12 } : Room) s m #[(.ref a), (.ref t), (.int (0 : Int32))] below meth c s₁ [] 0 0 := Stand.of_body Bd
 have e0 : s₁.heap = h0 := by rw [← hh, Bd.state]; rfl
 have N0 := Fr.nil n0
 show Goes p.tables e below _ _
 rw [ef_sBB m a t]
 refine Goes.named ?_
 intro QQ hQQ
 refine Goes.st (fun sT kT => XS.aloadN X0.here hx rfl (hb hby d33_0) rfl rfl kT) ?_
 show Goes _ _ _ _ (s₁.setTop (mkF m 1 #[.val (.ref a), .val (.ref t), .val (.int (0 : Int32))] [(.ref a)]))
 obtain ⟨T1, X1, e1, st1⟩ := initO X0 hx hZ hown (hw19 hw) (hw20 hw) (hw21 hw) e0 (g := (mkF m 1 #[.val (.ref a), .val (.ref t), .val (.int (0 : Int32))] [(.ref a)])) rfl (by rw [hml]; rfl) rfl (hb hby d33_1) (by decide) (W := 0) (by show 2 * 0 + _ ≤ _; exact Nat.le_of_eq rfl) (by decide)
 refine Goes.st st1 ?_
 show Goes _ _ _ _ (T1.setTop (mkF m 4 #[.val (.ref a), .val (.ref t), .val (.int (0 : Int32))] []))
 refine Goes.st (fun sT kT => XS.aloadN X1.here hx rfl (hb hby d33_4) rfl rfl kT) ?_
 show Goes _ _ _ _ (T1.setTop (mkF m 5 #[.val (.ref a), .val (.ref t), .val (.int (0 : Int32))] [(.ref a)]))
 refine Goes.st (fun sT kT => XS.aloadN X1.here hx rfl (hb hby d33_5) rfl rfl kT) ?_
 show Goes _ _ _ _ (T1.setTop (mkF m 6 #[.val (.ref a), .val (.ref t), .val (.int (0 : Int32))] [(.ref t), (.ref a)]))
 obtain ⟨T2, h2, X2, e2, W2, st2⟩ := putF X1 hx hZ hown (host := "") (Or.inl (hw28 hw)) Via.refl e1 P1 P0 (Or.inr ⟨(hw24 hw), rfl, hnm⟩) (hw10 hw) (ty := (.array .byte)) (by decide) rfl rfl (g := (mkF m 6 #[.val (.ref a), .val (.ref t), .val (.int (0 : Int32))] [(.ref t), (.ref a)])) rfl rfl (hb hby d33_6)
 have N2 := Fr.snoc X2 N0 g_a
 have F2 := P1.same W2
 refine Goes.st st2 ?_
 show Goes _ _ _ _ (T2.setTop (mkF m 9 #[.val (.ref a), .val (.ref t), .val (.int (0 : Int32))] []))
 refine Goes.st (fun sT kT => XS.aloadN X2.here hx rfl (hb hby d33_9) rfl rfl kT) ?_
 show Goes _ _ _ _ (T2.setTop (mkF m 10 #[.val (.ref a), .val (.ref t), .val (.int (0 : Int32))] [(.ref a)]))
 refine Goes.st (fun sT kT => XS.iloadN X2.here hx rfl (hb hby d33_10) rfl kT) ?_
 show Goes _ _ _ _ (T2.setTop (mkF m 11 #[.val (.ref a), .val (.ref t), .val (.int (0 : Int32))] [(.int (0 : Int32)), (.ref a)]))
 have f3 : Exa Z h2 a "java/lang/String" := (P0.wr W2)
 have f4 : Fld Z h2 a "java/lang/String" "coder" "B" (.int (0 : Int32)) := (P2.other W2 (Or.inr (slot_ne (Or.inr (hw25 hw)) (Or.inr (hw24 hw)) (by decide) (t := .byte) (t' := (.array .byte)) (by decide) (by decide))))
 obtain ⟨T5, h5, X5, e5, W5, st5⟩ := putFN X2 hx hZ hown (hw29 hw) Via.refl e2 f4 f3 (Or.inr ⟨(hw25 hw), rfl, hnm⟩) (hw10 hw) (ty := .byte) (v' := (.int (0 : Int32))) (by decide) rfl (by decide) (g := (mkF m 11 #[.val (.ref a), .val (.ref t), .val (.int (0 : Int32))] [(.int (0 : Int32)), (.ref a)])) rfl rfl (hb hby d33_11)
 have N5 := Fr.snoc X5 N2 g_a
 have F5 := f4.same W5
 refine Goes.st st5 ?_
 show Goes _ _ _ _ (T5.setTop (mkF m 14 #[.val (.ref a), .val (.ref t), .val (.int (0 : Int32))] []))
 have kp6 : Keep h0 h2 [a] := (Keep.refl h0 [a]).wr W2 (Or.inl (List.mem_of_getElem? (i := 0) rfl))
 have kp7 : Keep h0 h5 [a] := kp6.wr W5 (Or.inl (List.mem_of_getElem? (i := 0) rfl))
 have f8 : Exa Z h5 a "java/lang/String" := (f3.wr W5)
 have f9 : Fld Z h5 a "java/lang/String" "value" "[B" (.ref t) := (F2.other W5 (Or.inr (slot_ne (Or.inr (hw24 hw)) (Or.inr (hw25 hw)) (by decide) (t := (.array .byte)) (t' := .byte) (by decide) (by decide))))
 obtain ⟨fs, hr, hrun, hended, hW, hsame⟩ := X5.leave (v := none) (fun _ => rfl)
 subst hQQ
 refine ⟨_, _, X5.returnOut hx Bd.returns (hb hby d33_14) hr, hrun, hended, _, _, rfl, ?_, ⟨_, rfl⟩, hW, hsame.mono (by decide) (by decide)⟩
 show Q_sBB Z a t h0 n0 _ T5.heap _
 rw [e5]
 exact ⟨rfl, N5, kp7, f8, f9, F5⟩
theorem ef_nsP (m : MethodId) (t : Addr) (kb : ClassId) (cs : List Int32) (b : Nat) (n : Nat) : entryFrame m #[(.ref t), (.int (Int32.ofNat b)), (.int (Int32.ofNat n))] 3 = (mkF m 0 #[.val (.ref t), .val (.int (Int32.ofNat b)), .val (.int (Int32.ofNat n))] []) := by first | (simp [entryFrame, mkF, argsToLocals, Value.category]; done) | rfl
def Q_nsP (Z : State) (t : Addr) (kb : ClassId) (cs : List Int32) (b : Nat) (n : Nat) (h0 : Heap) (n0 : Nat) (v : Option Value) (h : Heap) (L : List Loc) : Prop := ∃ (r : Addr) (tz : Addr) (kz : ClassId), v = some (.ref r) ∧ Fr n0 L ∧ Keep h0 h [] ∧ Str Z h r tz kz ((cs.drop b).take n) ∧ h0.size ≤ r ∧ h0.size ≤ tz
set_option maxRecDepth 65536 in
set_option maxHeartbeats 40000000 in
theorem rm_nsP (l : Launch) (Z : State) (a0 : Array Value) (hw : ∀ d ∈ tables_1, d.before a0 Z = true) (ws : List Jvm.Cond) (t : Addr) (kb : ClassId) (cs : List Int32) (b : Nat) (n : Nat) (h0 : Heap) (n0 : Nat) (Z0 : n0 ≤ h0.size) (P0 : Arv Z h0 t kb .byte (Int32.ofNat cs.length) ((cs.map fun c => c.toInt8.toInt32).map Value.int) (.int (0 : Int32))) (hn : 0 < n) (hbn : b + n ≤ cs.length) (h4 : cs.length ≤ 4) (hnw : ¬ (b = 0 ∧ b + n = cs.length)) (hrl : ∀ c ∈ cs, ¬ c < 0 ∧ ¬ (255 : Int32) < c) :
    MetFree l (⟨"java/lang/StringLatin1", "newString", "([BII)Ljava/lang/String;"⟩ : MethodName) (head1 (Jvm.Cond.code (⟨"java/lang/StringLatin1", "newString", "([BII)Ljava/lang/String;"⟩ : MethodName) jdk_43_method_47_code 3 (some (.object "java/lang/String")) :: ws) ({ frames := 3, cells := 2, slots := 8, locals := 95 } : Room)) (fun aR U => aR = #[(.ref t), (.int (Int32.ofNat b)), (.int (Int32.ofNat n))] ∧ Z.Warmed39 U.vm ∧ U.heap = h0) (fun _ _ _ _ _ => True) (fun _ U o U' => ∃ v L, o = .returned v ∧ Q_nsP Z t kb cs b n h0 n0 v U'.heap L ∧ FrameEnd U o U' L ({ frames := 3, cells := 2, slots := 8, locals := 95 } : Room).cells ({ frames := 3, cells := 2, slots := 8, locals := 95 } : Room).slots) := by
 refine MetFree.of_bodySF (plainFor_of_name pn_1) hisR ?_
 intro p e s m args below meth c s₁ Bd hml0 hP hK
 obtain ⟨rfl, hZ, hh⟩ := hP
 have hx := Bd.exec
 have hby := Bd.bytes
 have hml : c.maxLocals = 3 := hml0
 have hown : s.vm.findClass "java/lang/StringLatin1" = some m.cls := findClass_of_methodNamed Bd.named
 have hnm := (name_of_methodNamed Bd.named Bd.method).1
 have X0 : Stand p l e ({ frames := 3, cells := 2, slots := 8, locals := 95 } : Room) s m #[(.ref t), (.int (Int32.ofNat b)), (.int (Int32.ofNat n))] below meth c s₁ [] 0 0 := Stand.of_body Bd
 have e0 : s₁.heap = h0 := by rw [← hh, Bd.state]; rfl
 have N0 := Fr.nil n0
 show Goes p.tables e below _ _
 rw [ef_nsP m t kb cs b n]
 refine Goes.named ?_
 intro QQ hQQ
 refine Goes.st (fun sT kT => XS.iloadN X0.here hx rfl (hb hby d28_0) rfl kT) ?_
 show Goes _ _ _ _ (s₁.setTop (mkF m 1 #[.val (.ref t), .val (.int (Int32.ofNat b)), .val (.int (Int32.ofNat n))] [(.int (Int32.ofNat n))]))
 refine Goes.st (fun sT kT => XS.ifYes X0.here hx rfl (pc0 := 1) (pc' := 7) rfl (hb hby d28_1) rfl ((if0 _ _).trans (feq (own_ne0 (by omega) (by omega))).2) (by decide) (by decide) kT) ?_
 show Goes _ _ _ _ (s₁.setTop (mkF m 7 #[.val (.ref t), .val (.int (Int32.ofNat b)), .val (.int (Int32.ofNat n))] []))
 obtain ⟨T1, h1, X1, e1, E1, A1, D1, -, st1⟩ := newO X0 hx hZ hown (hw140 hw) (hw10 hw) (hw11 hw) e0 (g := (mkF m 7 #[.val (.ref t), .val (.int (Int32.ofNat b)), .val (.int (Int32.ofNat n))] [])) rfl (hb hby d28_7) (by decide) (by decide)
 obtain ⟨b1, g1⟩ : ∃ z, z = h0.size := ⟨_, rfl⟩
 rw [← g1] at A1 D1 st1
 have F1_value : Fld Z h1 b1 "java/lang/String" "value" "[B" .null := D1 (Or.inr (hw24 hw)) (ty := (.array .byte)) (by decide)
 have F1_coder : Fld Z h1 b1 "java/lang/String" "coder" "B" (.int (0 : Int32)) := D1 (Or.inr (hw25 hw)) (ty := .byte) (by decide)
 refine Goes.st st1 ?_
 show Goes _ _ _ _ (T1.setTop (mkF m 10 #[.val (.ref t), .val (.int (Int32.ofNat b)), .val (.int (Int32.ofNat n))] [(.ref b1)]))
 refine Goes.st (fun sT kT => XS.dup X1.here hx rfl (hb hby d28_10) rfl rfl kT) ?_
 show Goes _ _ _ _ (T1.setTop (mkF m 11 #[.val (.ref t), .val (.int (Int32.ofNat b)), .val (.int (Int32.ofNat n))] [(.ref b1), (.ref b1)]))
 refine Goes.st (fun sT kT => XS.aloadN X1.here hx rfl (hb hby d28_11) rfl rfl kT) ?_
 show Goes _ _ _ _ (T1.setTop (mkF m 12 #[.val (.ref t), .val (.int (Int32.ofNat b)), .val (.int (Int32.ofNat n))] [(.ref t), (.ref b1), (.ref b1)]))
 refine Goes.st (fun sT kT => XS.iloadN X1.here hx rfl (hb hby d28_12) rfl kT) ?_
 show Goes _ _ _ _ (T1.setTop (mkF m 13 #[.val (.ref t), .val (.int (Int32.ofNat b)), .val (.int (Int32.ofNat n))] [(.int (Int32.ofNat b)), (.ref t), (.ref b1), (.ref b1)]))
 refine Goes.st (fun sT kT => XS.iloadN X1.here hx rfl (hb hby d28_13) rfl kT) ?_
 show Goes _ _ _ _ (T1.setTop (mkF m 14 #[.val (.ref t), .val (.int (Int32.ofNat b)), .val (.int (Int32.ofNat n))] [(.int (Int32.ofNat b)), (.int (Int32.ofNat b)), (.ref t), (.ref b1), (.ref b1)]))
 refine Goes.st (fun sT kT => XS.iloadN X1.here hx rfl (hb hby d28_14) rfl kT) ?_
 show Goes _ _ _ _ (T1.setTop (mkF m 15 #[.val (.ref t), .val (.int (Int32.ofNat b)), .val (.int (Int32.ofNat n))] [(.int (Int32.ofNat n)), (.int (Int32.ofNat b)), (.int (Int32.ofNat b)), (.ref t), (.ref b1), (.ref b1)]))
 refine Goes.st (fun sT kT => XS.iadd X1.here hx rfl (hb hby d28_15) rfl kT) ?_
 show Goes _ _ _ _ (T1.setTop (mkF m 16 #[.val (.ref t), .val (.int (Int32.ofNat b)), .val (.int (Int32.ofNat n))] [(.int ((Int32.ofNat b) + (Int32.ofNat n))), (.int (Int32.ofNat b)), (.ref t), (.ref b1), (.ref b1)]))
 rw [own_nadd]
 show Goes _ _ _ _ (T1.setTop (mkF m 16 #[.val (.ref t), .val (.int (Int32.ofNat b)), .val (.int (Int32.ofNat n))] [(.int (Int32.ofNat (b + n))), (.int (Int32.ofNat b)), (.ref t), (.ref b1), (.ref b1)]))
 have f3 : Arv Z h1 t kb .byte (Int32.ofNat cs.length) ((cs.map fun c => c.toInt8.toInt32).map Value.int) (.int (0 : Int32)) := (P0.ext E1)
 obtain ⟨_, _, ⟨T2, L2, k2, n2⟩, -, X2, ⟨Lc2, hQ2, l2, y2, z2⟩, st2⟩ := Jvm.LawKit.callS X1 hx (y := (⟨"java/util/Arrays", "copyOfRange", "([BII)[B"⟩ : MethodName)) hown (mvT hZ (hw141 hw)) (mvT hZ (hw142 hw)) (mvT hZ (hw143 hw)) (mvT hZ (hw144 hw)) (by decide) (backOf (W := 2) (rm_cor l Z a0 hw [] t kb cs b (b + n) h1 n0 (Nat.le_trans Z0 E1.1) f3 (by omega) hbn h4 hnw) hZ (hw144 hw) (hw143 hw) (by decide) (by decide)) (g := (mkF m 16 #[.val (.ref t), .val (.int (Int32.ofNat b)), .val (.int (Int32.ofNat n))] [(.int (Int32.ofNat (b + n))), (.int (Int32.ofNat b)), (.ref t), (.ref b1), (.ref b1)])) rfl (by rw [hml]; rfl) (argsL := [(.ref t), (.int (Int32.ofNat b)), (.int (Int32.ofNat (b + n)))]) (rest := [(.ref b1), (.ref b1)]) (lenOf pd_7 rfl) rfl (by show 2 * 0 + _ ≤ _; exact Nat.le_of_eq rfl) (hb hby d28_16) (fun _ _ => ⟨rfl, e1, (by decide : 1 + 1 ≤ _), (by decide : 4 + 4 ≤ _)⟩)
 dsimp only [Pt.U, Pt.locs, Pt.cells, Pt.slots] at X2 l2 y2 z2 st2 hQ2
 subst l2 y2 z2
 obtain ⟨tz2, kz2, rfl, N2q, K2, F2_0, lo2_0⟩ := hQ2
 have N2 := Fr.app N0 N2q
 refine Goes.st st2 ?_
 show Goes _ _ _ _ (T2.setTop (mkF m 19 #[.val (.ref t), .val (.int (Int32.ofNat b)), .val (.int (Int32.ofNat n))] [(.ref tz2), (.ref b1), (.ref b1)]))
 refine Goes.st (fun sT kT => XS.iconst X2.here hx rfl (hb hby d28_19) kT) ?_
 show Goes _ _ _ _ (T2.setTop (mkF m 20 #[.val (.ref t), .val (.int (Int32.ofNat b)), .val (.int (Int32.ofNat n))] [(.int (0 : Int32)), (.ref tz2), (.ref b1), (.ref b1)]))
 have f5 : Exa Z T2.heap b1 "java/lang/String" := (A1.keep K2)
 have f6 : Fld Z T2.heap b1 "java/lang/String" "value" "[B" .null := (F1_value.keep K2 nin0)
 have f7 : Fld Z T2.heap b1 "java/lang/String" "coder" "B" (.int (0 : Int32)) := (F1_coder.keep K2 nin0)
 obtain ⟨_, _, ⟨T4, L4, k4, n4⟩, -, X4, ⟨Lc4, hQ4, l4, y4, z4⟩, st4⟩ := X2.specialBack hx (y := (⟨"java/lang/String", "<init>", "([BB)V"⟩ : MethodName)) rfl hown (mvT hZ (hw156 hw)) (mvT hZ (hw157 hw)) (mvT hZ (hw158 hw)) (by decide) (backOf (W := 1) (rm_sBB l Z a0 hw [] b1 tz2 T2.heap n0 (Nat.le_trans Z0 (Nat.le_trans E1.1 K2.1)) f5 f6 f7 (Nat.le_trans Z0 (Nat.le_of_eq g1.symm))) hZ (hw158 hw) (hw11 hw) (by decide) (by decide)) (g := (mkF m 20 #[.val (.ref t), .val (.int (Int32.ofNat b)), .val (.int (Int32.ofNat n))] [(.int (0 : Int32)), (.ref tz2), (.ref b1), (.ref b1)])) rfl (by rw [hml]; rfl) (Steps.refl _) (a := b1) (argsL := [(.ref tz2), (.int (0 : Int32))]) (rest := [(.ref b1)]) (lenOf pd_8 rfl) rfl (by show 2 * 0 + _ ≤ _; exact Nat.le_of_eq rfl) (hb hby d28_20) (fun _ _ => ⟨rfl, rfl, (by decide : 2 + 0 ≤ _), (by decide : 8 + 0 ≤ _)⟩)
 dsimp only [Pt.U, Pt.locs, Pt.cells, Pt.slots] at X4 l4 y4 z4 st4 hQ4
 subst l4 y4 z4
 obtain ⟨rfl, N4q, K4, F4_0, F4_1, F4_2⟩ := hQ4
 have N4 := Fr.app N2 N4q
 refine Goes.tr st4 ?_
 show Goes _ _ _ _ (T4.setTop (mkF m 23 #[.val (.ref t), .val (.int (Int32.ofNat b)), .val (.int (Int32.ofNat n))] [(.ref b1)]))
 have f9 : Arv Z T4.heap tz2 kz2 .byte (Int32.ofNat ((b + n) - b)) ((((cs.drop b).take ((b + n) - b)).map fun c => c.toInt8.toInt32).map Value.int) (.int (0 : Int32)) := (F2_0.keep K4 (ninS (Ne.symm (Nat.ne_of_lt (Nat.lt_of_lt_of_le A1.lt lo2_0))) nin0))
 have Aq8 := f9
 rw [Nat.add_sub_cancel_left] at Aq8
 have S8 : Str Z T4.heap b1 tz2 kz2 ((cs.drop b).take n) := ⟨F4_0, F4_1, F4_2, by rw [own_cut hbn]; exact Aq8, own_sub hrl, by rw [own_cut hbn]; omega⟩
 have kp10 : Keep h0 h1 [] := (Keep.refl h0 []).ext E1
 have kp11 : Keep h0 T2.heap [] := kp10.trans K2 all0
 have kp12 : Keep h0 T4.heap [] := kp11.trans K4 (allS (Or.inr (Nat.le_of_eq g1.symm)) all0)
 obtain ⟨fs, hr, hrun, hended, hW, hsame⟩ := X4.leave (v := some (.ref b1)) (fun h => by rw [Bd.returns] at h; cases h)
 subst hQQ
 refine ⟨_, _, retR X4 hx Bd.returns rfl rfl (hb hby d28_23) hr, hrun, hended, _, _, rfl, ?_, ⟨_, rfl⟩, hW, hsame.mono (by decide) (by decide)⟩
 show Q_nsP Z t kb cs b n h0 n0 _ T4.heap _
 exact ⟨b1, tz2, kz2, rfl, N4, kp12, S8, (Nat.le_of_eq g1.symm), (Nat.le_trans E1.1 lo2_0)⟩
theorem ef_nsE (m : MethodId) (t : Addr) (pb : Int32) : entryFrame m #[(.ref t), (.int pb), (.int (0 : Int32))] 3 = (mkF m 0 #[.val (.ref t), .val (.int pb), .val (.int (0 : Int32))] []) := by first | (simp [entryFrame, mkF, argsToLocals, Value.category]; done) | rfl
def Q_nsE (Z : State) (t : Addr) (pb : Int32) (h0 : Heap) (n0 : Nat) (v : Option Value) (h : Heap) (L : List Loc) : Prop := ∃ (r : Addr) (tz : Addr) (kz : ClassId), v = some (.ref r) ∧ Fr n0 L ∧ Keep h0 h [] ∧ Str Z h r tz kz []
set_option maxRecDepth 65536 in
set_option maxHeartbeats 40000000 in
theorem rm_nsE (l : Launch) (Z : State) (a0 : Array Value) (hw : ∀ d ∈ tables_1, d.before a0 Z = true) (ws : List Jvm.Cond) (t : Addr) (pb : Int32) (h0 : Heap) (n0 : Nat) (Z0 : n0 ≤ h0.size) :
    MetFree l (⟨"java/lang/StringLatin1", "newString", "([BII)Ljava/lang/String;"⟩ : MethodName) (head1 (Jvm.Cond.code (⟨"java/lang/StringLatin1", "newString", "([BII)Ljava/lang/String;"⟩ : MethodName) jdk_43_method_47_code 3 (some (.object "java/lang/String")) :: ws) ({ frames := 0, cells := 2, slots := 4, locals := 0 } : Room)) (fun aR U => aR = #[(.ref t), (.int pb), (.int (0 : Int32))] ∧ Z.Warmed39 U.vm ∧ U.heap = h0 ∧ CHv Z EL U.vm h0 ∧ ∀ x ∈ ([] : List Addr), Safe Z EL U.vm h0 x) (fun _ _ _ _ _ => True) (fun _ U o U' => ∃ v L, o = .returned v ∧ Q_nsE Z t pb h0 n0 v U'.heap L ∧ CHr Z EL U.vm U.heap U'.vm U'.heap ∧ ReturnedEndW U o U' L ({ frames := 0, cells := 2, slots := 4, locals := 0 } : Room).cells ({ frames := 0, cells := 2, slots := 4, locals := 0 } : Room).slots) := by
 refine MetFree.of_bodySF (plainFor_of_name pn_1) hisR ?_
 intro p e s m args below meth c s₁ Bd hml0 hP hK
 obtain ⟨rfl, hZ, hh, hCH, hSF⟩ := hP
 have hx := Bd.exec
 have hby := Bd.bytes
 have hml : c.maxLocals = 3 := hml0
 have hown : s.vm.findClass "java/lang/StringLatin1" = some m.cls := findClass_of_methodNamed Bd.named
 have hnm := (name_of_methodNamed Bd.named Bd.method).1
 have X0 : Stand p l e ({ frames := 0, cells := 2, slots := 4, locals := 0 } : Room) (s.setVm s.vm) m #[(.ref t), (.int pb), (.int (0 : Int32))] below meth c s₁ [] 0 0 := Stand.of_body Bd
 have e0 : s₁.heap = h0 := by rw [← hh, Bd.state]; rfl
 have N0 := Fr.nil n0
 show Goes p.tables e below _ _
 rw [ef_nsE m t pb]
 refine Goes.named ?_
 intro QQ hQQ
 have hS0 : s.Since s.vm 0 := (State.WarmedH.refl s).since 0
 have hk0 : 0 ≤ h0.size := Nat.zero_le _
 have CR0 : CHr Z EL s.vm h0 s.vm h0 := CHr.refl hCH
 refine Goes.st (fun sT kT => XS.iloadN X0.here hx rfl (hb hby d28_0) rfl kT) ?_
 show Goes _ _ _ _ (s₁.setTop (mkF m 1 #[.val (.ref t), .val (.int pb), .val (.int (0 : Int32))] [(.int (0 : Int32))]))
 refine Goes.st (fun sT kT => XS.ifNo X0.here hx rfl (hb hby d28_1) rfl ((if0 _ _).trans (teq (by decide : (0 : Int32) = (0 : Int32))).2) kT) ?_
 show Goes _ _ _ _ (s₁.setTop (mkF m 4 #[.val (.ref t), .val (.int pb), .val (.int (0 : Int32))] []))
 obtain ⟨b1, T1, h1, kk1, t1, kb1, X1, e1, E1, hS1, hk1, hZ1, hown1, Ex1, Cd1, Vf1, Av1, lb1, lt1, C1, Lt1, hne1, st1⟩ := ldcCH X0 hx hZ hown (hw133 hw) (own_wS hw) e0 hS0 hk0 (own_EW hw) (by decide +kernel) CR0.1 (vs := []) (z := (0 : Int32)) ⟨by decide, by decide⟩ (by decide) (by decide) (g := (mkF m 4 #[.val (.ref t), .val (.int pb), .val (.int (0 : Int32))] [])) rfl (hb hby d28_4) (n := 0) (by decide) (by decide) (by decide) (by decide)
 have CR1 : CHr Z EL s.vm h0 T1.vm h1 := CR0.trans C1
 refine Goes.st st1 ?_
 show Goes _ _ _ _ (T1.setTop (mkF m 6 #[.val (.ref t), .val (.int pb), .val (.int (0 : Int32))] [(.ref b1)]))
 have S2 : Str Z h1 b1 t1 kb1 [] := ⟨Ex1, Vf1, Cd1, Av1, own_c0, Nat.zero_le _⟩
 have kp3 : Keep h0 h1 [] := (Keep.refl h0 []).ext E1
 obtain ⟨fs, hr, hrun, hended, hRW⟩ := X1.leaveW hS1 (by rw [e1]; exact hk1) (v := some (.ref b1)) (fun h => by rw [Bd.returns] at h; cases h)
 subst hQQ
 have hCR : CHr Z EL s.vm s.heap T1.vm T1.heap := by rw [hh, e1]; exact CR1.trans (CHv.at X1 hZ1 (own_EW hw) CR1.1)
 refine ⟨_, _, retR X1 hx Bd.returns rfl rfl (hb hby d28_6) hr, hrun, hended, _, _, rfl, ?_, hCR, own_REmono hRW (by decide) (by decide)⟩
 show Q_nsE Z t pb h0 n0 _ T1.heap _
 rw [e1]
 exact ⟨b1, t1, kb1, rfl, N0, kp3, S2⟩
theorem ef_cft (m : MethodId) (pb : Int32) (pe : Int32) (pl : Int32) (vF : Value) (rF : vF.isRef = true) : entryFrame m #[(.int pb), (.int pe), (.int pl), vF] 4 = (mkF m 0 #[.val (.int pb), .val (.int pe), .val (.int pl), .val vF] []) := by rcases ref_cases rF with rfl | ⟨_, rfl⟩ <;> (simp [entryFrame, mkF, argsToLocals, Value.category]; done)
def Q_cft (Z : State) (pb : Int32) (pe : Int32) (pl : Int32) (vF : Value) (h0 : Heap) (n0 : Nat) (v : Option Value) (h : Heap) (L : List Loc) : Prop := v = some (.int pb) ∧ Fr n0 L ∧ h = h0
set_option maxRecDepth 65536 in
set_option maxHeartbeats 40000000 in
theorem rm_cft (l : Launch) (Z : State) (a0 : Array Value) (hw : ∀ d ∈ tables_1, d.before a0 Z = true) (ws : List Jvm.Cond) (pb : Int32) (pe : Int32) (pl : Int32) (vF : Value) (h0 : Heap) (n0 : Nat) (Z0 : n0 ≤ h0.size) (g1 : ¬ pb < 0) (g2 : ¬ pe < pb) (g3 : ¬ pl < pe) (rF : vF.isRef = true) :
    MetFree l (⟨"jdk/internal/util/Preconditions", "checkFromToIndex", "(IIILjava/util/function/BiFunction;)I"⟩ : MethodName) (head1 (Jvm.Cond.code (⟨"jdk/internal/util/Preconditions", "checkFromToIndex", "(IIILjava/util/function/BiFunction;)I"⟩ : MethodName) jdk_41_method_12_code 4 (some .int) :: ws) ({ frames := 0, cells := 0, slots := 0, locals := 0 } : Room)) (fun aR U => aR = #[(.int pb), (.int pe), (.int pl), vF] ∧ Z.Warmed39 U.vm ∧ U.heap = h0) (fun _ _ _ _ _ => True) (fun _ U o U' => ∃ v L, o = .returned v ∧ Q_cft Z pb pe pl vF h0 n0 v U'.heap L ∧ FrameEnd U o U' L ({ frames := 0, cells := 0, slots := 0, locals := 0 } : Room).cells ({ frames := 0, cells := 0, slots := 0, locals := 0 } : Room).slots) := by
 refine MetFree.of_bodySF (plainFor_of_name pn_5) hisR ?_
 intro p e s m args below meth c s₁ Bd hml0 hP hK
 obtain ⟨rfl, hZ, hh⟩ := hP
 have hx := Bd.exec
 have hby := Bd.bytes
 have hml : c.maxLocals = 4 := hml0
 have hown : s.vm.findClass "jdk/internal/util/Preconditions" = some m.cls := findClass_of_methodNamed Bd.named
 have hnm := (name_of_methodNamed Bd.named Bd.method).1
 have X0 : Stand p l e ({ frames := 0, cells := 0, slots := 0, locals := 0 } : Room) s m #[(.int pb), (.int pe), (.int pl), vF] below meth c s₁ [] 0 0 := Stand.of_body Bd
 have e0 : s₁.heap = h0 := by rw [← hh, Bd.state]; rfl
 have N0 := Fr.nil n0
 show Goes p.tables e below _ _
 rw [ef_cft m pb pe pl vF rF]
 refine Goes.named ?_
 intro QQ hQQ
 refine Goes.st (fun sT kT => XS.iloadN X0.here hx rfl (hb hby d27_0) rfl kT) ?_
 show Goes _ _ _ _ (s₁.setTop (mkF m 1 #[.val (.int pb), .val (.int pe), .val (.int pl), .val vF] [(.int pb)]))
 refine Goes.st (fun sT kT => XS.ifNo X0.here hx rfl (hb hby d27_1) rfl ((if0 _ _).trans (flt g1).1) kT) ?_
 show Goes _ _ _ _ (s₁.setTop (mkF m 4 #[.val (.int pb), .val (.int pe), .val (.int pl), .val vF] []))
 refine Goes.st (fun sT kT => XS.iloadN X0.here hx rfl (hb hby d27_4) rfl kT) ?_
 show Goes _ _ _ _ (s₁.setTop (mkF m 5 #[.val (.int pb), .val (.int pe), .val (.int pl), .val vF] [(.int pb)]))
 refine Goes.st (fun sT kT => XS.iloadN X0.here hx rfl (hb hby d27_5) rfl kT) ?_
 show Goes _ _ _ _ (s₁.setTop (mkF m 6 #[.val (.int pb), .val (.int pe), .val (.int pl), .val vF] [(.int pe), (.int pb)]))
 refine Goes.st (fun sT kT => XS.icmpNo X0.here hx rfl (hb hby d27_6) rfl (flt g2).2.2.1 kT) ?_
 show Goes _ _ _ _ (s₁.setTop (mkF m 9 #[.val (.int pb), .val (.int pe), .val (.int pl), .val vF] []))
 refine Goes.st (fun sT kT => XS.iloadN X0.here hx rfl (hb hby d27_9) rfl kT) ?_
 show Goes _ _ _ _ (s₁.setTop (mkF m 10 #[.val (.int pb), .val (.int pe), .val (.int pl), .val vF] [(.int pe)]))
 refine Goes.st (fun sT kT => XS.iloadN X0.here hx rfl (hb hby d27_10) rfl kT) ?_
 show Goes _ _ _ _ (s₁.setTop (mkF m 11 #[.val (.int pb), .val (.int pe), .val (.int pl), .val vF] [(.int pl), (.int pe)]))
 refine Goes.st (fun sT kT => XS.icmpYes X0.here hx rfl (pc0 := 11) (pc' := 22) rfl (hb hby d27_11) rfl (flt g3).2.2.2 (by decide) (by decide) kT) ?_
 show Goes _ _ _ _ (s₁.setTop (mkF m 22 #[.val (.int pb), .val (.int pe), .val (.int pl), .val vF] []))
 refine Goes.st (fun sT kT => XS.iloadN X0.here hx rfl (hb hby d27_22) rfl kT) ?_
 show Goes _ _ _ _ (s₁.setTop (mkF m 23 #[.val (.int pb), .val (.int pe), .val (.int pl), .val vF] [(.int pb)]))
 obtain ⟨fs, hr, hrun, hended, hW, hsame⟩ := X0.leave (v := some (.int pb)) (fun h => by rw [Bd.returns] at h; cases h)
 subst hQQ
 refine ⟨_, _, retI X0 hx Bd.returns (hb hby d27_23) hr, hrun, hended, _, _, rfl, ?_, ⟨_, rfl⟩, hW, hsame.mono (by decide) (by decide)⟩
 show Q_cft Z pb pe pl vF h0 n0 _ s₁.heap _
 rw [e0]
 exact ⟨rfl, N0, rfl⟩
theorem ef_cbb (m : MethodId) (pb : Int32) (pe : Int32) (pl : Int32) (vF : Value) : entryFrame m #[(.int pb), (.int pe), (.int pl)] 3 = (mkF m 0 #[.val (.int pb), .val (.int pe), .val (.int pl)] []) := by first | (simp [entryFrame, mkF, argsToLocals, Value.category]; done) | rfl
def Q_cbb (Z : State) (pb : Int32) (pe : Int32) (pl : Int32) (vF : Value) (h0 : Heap) (n0 : Nat) (v : Option Value) (h : Heap) (L : List Loc) : Prop := v = none ∧ Fr n0 L ∧ h = h0
set_option maxRecDepth 65536 in
set_option maxHeartbeats 40000000 in
theorem rm_cbb (l : Launch) (Z : State) (a0 : Array Value) (hw : ∀ d ∈ tables_1, d.before a0 Z = true) (ws : List Jvm.Cond) (pb : Int32) (pe : Int32) (pl : Int32) (vF : Value) (h0 : Heap) (n0 : Nat) (Z0 : n0 ≤ h0.size) (P0 : Old Z n0 h0) (g1 : ¬ pb < 0) (g2 : ¬ pe < pb) (g3 : ¬ pl < pe) (OF : Sta Z Z.heap "jdk/internal/util/Preconditions" "SIOOBE_FORMATTER" "Ljava/util/function/BiFunction;" vF) (rF : vF.isRef = true) :
    MetFree l (⟨"java/lang/String", "checkBoundsBeginEnd", "(III)V"⟩ : MethodName) (head1 (Jvm.Cond.code (⟨"java/lang/String", "checkBoundsBeginEnd", "(III)V"⟩ : MethodName) jdk_42_method_158_code 3 none :: ws) ({ frames := 1, cells := 0, slots := 0, locals := 15 } : Room)) (fun aR U => aR = #[(.int pb), (.int pe), (.int pl)] ∧ Z.Warmed39 U.vm ∧ U.heap = h0) (fun _ _ _ _ _ => True) (fun _ U o U' => ∃ v L, o = .returned v ∧ Q_cbb Z pb pe pl vF h0 n0 v U'.heap L ∧ FrameEnd U o U' L ({ frames := 1, cells := 0, slots := 0, locals := 15 } : Room).cells ({ frames := 1, cells := 0, slots := 0, locals := 15 } : Room).slots) := by
 refine MetFree.of_bodySF (plainFor_of_name pn_0) hisR ?_
 intro p e s m args below meth c s₁ Bd hml0 hP hK
 obtain ⟨rfl, hZ, hh⟩ := hP
 have hx := Bd.exec
 have hby := Bd.bytes
 have hml : c.maxLocals = 3 := hml0
 have hown : s.vm.findClass "java/lang/String" = some m.cls := findClass_of_methodNamed Bd.named
 have hnm := (name_of_methodNamed Bd.named Bd.method).1
 have X0 : Stand p l e ({ frames := 1, cells := 0, slots := 0, locals := 15 } : Room) s m #[(.int pb), (.int pe), (.int pl)] below meth c s₁ [] 0 0 := Stand.of_body Bd
 have e0 : s₁.heap = h0 := by rw [← hh, Bd.state]; rfl
 have N0 := Fr.nil n0
 show Goes p.tables e below _ _
 rw [ef_cbb m pb pe pl vF]
 refine Goes.named ?_
 intro QQ hQQ
 refine Goes.st (fun sT kT => XS.iloadN X0.here hx rfl (hb hby d26_0) rfl kT) ?_
 show Goes _ _ _ _ (s₁.setTop (mkF m 1 #[.val (.int pb), .val (.int pe), .val (.int pl)] [(.int pb)]))
 refine Goes.st (fun sT kT => XS.iloadN X0.here hx rfl (hb hby d26_1) rfl kT) ?_
 show Goes _ _ _ _ (s₁.setTop (mkF m 2 #[.val (.int pb), .val (.int pe), .val (.int pl)] [(.int pe), (.int pb)]))
 refine Goes.st (fun sT kT => XS.iloadN X0.here hx rfl (hb hby d26_2) rfl kT) ?_
 show Goes _ _ _ _ (s₁.setTop (mkF m 3 #[.val (.int pb), .val (.int pe), .val (.int pl)] [(.int pl), (.int pe), (.int pb)]))
 obtain ⟨T1, X1, e1, st1⟩ := getS2 X0 hx hZ hown (host := "") (Or.inl (hw125 hw)) Via.refl e0 (OF.ext P0.2) (g := (mkF m 3 #[.val (.int pb), .val (.int pe), .val (.int pl)] [(.int pl), (.int pe), (.int pb)])) rfl (hb hby d26_3)
 refine Goes.st st1 ?_
 show Goes _ _ _ _ (T1.setTop (mkF m 6 #[.val (.int pb), .val (.int pe), .val (.int pl)] [vF, (.int pl), (.int pe), (.int pb)]))
 obtain ⟨_, _, ⟨T2, L2, k2, n2⟩, -, X2, ⟨Lc2, hQ2, l2, y2, z2⟩, st2⟩ := Jvm.LawKit.callS X1 hx (y := (⟨"jdk/internal/util/Preconditions", "checkFromToIndex", "(IIILjava/util/function/BiFunction;)I"⟩ : MethodName)) hown (mvT hZ (hw127 hw)) (mvT hZ (hw128 hw)) (mvT hZ (hw126 hw)) (mvT hZ (hw129 hw)) (by decide) (backOf (W := 0) (rm_cft l Z a0 hw [] pb pe pl vF h0 n0 Z0 g1 g2 g3 rF) hZ (hw129 hw) (hw126 hw) (by decide) (by decide)) (g := (mkF m 6 #[.val (.int pb), .val (.int pe), .val (.int pl)] [vF, (.int pl), (.int pe), (.int pb)])) rfl (by rw [hml]; rfl) (argsL := [(.int pb), (.int pe), (.int pl), vF]) (rest := []) (lenOf pd_9 rfl) rfl (by show 2 * 0 + _ ≤ _; exact Nat.le_of_eq rfl) (hb hby d26_6) (fun _ _ => ⟨rfl, e1, (by decide : 0 + 0 ≤ _), (by decide : 0 + 0 ≤ _)⟩)
 dsimp only [Pt.U, Pt.locs, Pt.cells, Pt.slots] at X2 l2 y2 z2 st2 hQ2
 subst l2 y2 z2
 obtain ⟨rfl, N2q, K2⟩ := hQ2
 have N2 := Fr.app N0 N2q
 refine Goes.st st2 ?_
 show Goes _ _ _ _ (T2.setTop (mkF m 9 #[.val (.int pb), .val (.int pe), .val (.int pl)] [(.int pb)]))
 refine Goes.st (fun sT kT => XS.pop X2.here hx rfl (hb hby d26_9) rfl rfl kT) ?_
 show Goes _ _ _ _ (T2.setTop (mkF m 10 #[.val (.int pb), .val (.int pe), .val (.int pl)] []))
 obtain ⟨fs, hr, hrun, hended, hW, hsame⟩ := X2.leave (v := none) (fun _ => rfl)
 subst hQQ
 refine ⟨_, _, X2.returnOut hx Bd.returns (hb hby d26_10) hr, hrun, hended, _, _, rfl, ?_, ⟨_, rfl⟩, hW, hsame.mono (by decide) (by decide)⟩
 show Q_cbb Z pb pe pl vF h0 n0 _ T2.heap _
 rw [K2]
 exact ⟨rfl, N2, rfl⟩
theorem ef_subP (m : MethodId) (a : Addr) (t : Addr) (kb : ClassId) (cs : List Int32) (G1 : Int32) (vF : Value) (b : Nat) (en : Nat) : entryFrame m #[(.ref a), (.int (Int32.ofNat b)), (.int (Int32.ofNat en))] 5 = (mkF m 0 #[.val (.ref a), .val (.int (Int32.ofNat b)), .val (.int (Int32.ofNat en)), uS, uS] []) := by first | (simp [entryFrame, mkF, argsToLocals, Value.category]; done) | rfl
def Q_subP (Z : State) (a : Addr) (t : Addr) (kb : ClassId) (cs : List Int32) (G1 : Int32) (vF : Value) (b : Nat) (en : Nat) (h0 : Heap) (n0 : Nat) (v : Option Value) (h : Heap) (L : List Loc) : Prop := ∃ (r : Addr) (tz : Addr) (kz : ClassId), v = some (.ref r) ∧ Fr n0 L ∧ Keep h0 h [] ∧ Str Z h r tz kz ((cs.drop b).take (en - b)) ∧ h0.size ≤ r ∧ h0.size ≤ tz
set_option maxRecDepth 65536 in
set_option maxHeartbeats 40000000 in
theorem rm_subP (l : Launch) (Z : State) (a0 : Array Value) (hw : ∀ d ∈ tables_1, d.before a0 Z = true) (ws : List Jvm.Cond) (a : Addr) (t : Addr) (kb : ClassId) (cs : List Int32) (G1 : Int32) (vF : Value) (b : Nat) (en : Nat) (h0 : Heap) (n0 : Nat) (Z0 : n0 ≤ h0.size) (P0 : Str Z h0 a t kb cs) (P1 : Old Z n0 h0) (O2 : Sta Z Z.heap "java/lang/String" "COMPACT_STRINGS" "Z" (.int G1)) (P5 : ¬ (G1 = (0 : Int32))) (OF : Sta Z Z.heap "jdk/internal/util/Preconditions" "SIOOBE_FORMATTER" "Ljava/util/function/BiFunction;" vF) (rF : vF.isRef = true) (hbe : b < en) (he : en ≤ cs.length) (h4 : cs.length ≤ 4) (hnw : ¬ (b = 0 ∧ en = cs.length)) :
    MetFree l (⟨"java/lang/String", "substring", "(II)Ljava/lang/String;"⟩ : MethodName) (head1 (Jvm.Cond.code (⟨"java/lang/String", "substring", "(II)Ljava/lang/String;"⟩ : MethodName) jdk_42_method_92_code 5 (some (.object "java/lang/String")) :: ws) ({ frames := 4, cells := 2, slots := 8, locals := 112 } : Room)) (fun aR U => aR = #[(.ref a), (.int (Int32.ofNat b)), (.int (Int32.ofNat en))] ∧ Z.Warmed39 U.vm ∧ U.heap = h0) (fun _ _ _ _ _ => True) (fun _ U o U' => ∃ v L, o = .returned v ∧ Q_subP Z a t kb cs G1 vF b en h0 n0 v U'.heap L ∧ FrameEnd U o U' L ({ frames := 4, cells := 2, slots := 8, locals := 112 } : Room).cells ({ frames := 4, cells := 2, slots := 8, locals := 112 } : Room).slots) := by
 refine MetFree.of_bodySF (plainFor_of_name pn_0) hisR ?_
 intro p e s m args below meth c s₁ Bd hml0 hP hK
 obtain ⟨rfl, hZ, hh⟩ := hP
 have hx := Bd.exec
 have hby := Bd.bytes
 have hml : c.maxLocals = 5 := hml0
 have hown : s.vm.findClass "java/lang/String" = some m.cls := findClass_of_methodNamed Bd.named
 have hnm := (name_of_methodNamed Bd.named Bd.method).1
 have X0 : Stand p l e ({ frames := 4, cells := 2, slots := 8, locals := 112 } : Room) s m #[(.ref a), (.int (Int32.ofNat b)), (.int (Int32.ofNat en))] below meth c s₁ [] 0 0 := Stand.of_body Bd
 have e0 : s₁.heap = h0 := by rw [← hh, Bd.state]; rfl
 have N0 := Fr.nil n0
 show Goes p.tables e below _ _
 rw [ef_subP m a t kb cs G1 vF b en]
 refine Goes.named ?_
 intro QQ hQQ
 refine Goes.st (fun sT kT => XS.aloadN X0.here hx rfl (hb hby d25_0) rfl rfl kT) ?_
 show Goes _ _ _ _ (s₁.setTop (mkF m 1 #[.val (.ref a), .val (.int (Int32.ofNat b)), .val (.int (Int32.ofNat en)), uS, uS] [(.ref a)]))
 obtain ⟨cq1, kq1, q1a, q1b, q1c⟩ := isOf hZ e0 P0.1
 obtain ⟨_, _, ⟨T1, L1, k1, n1⟩, -, X1, ⟨Lc1, hQ1, l1, y1, z1⟩, st1⟩ := X0.virtualBack hx (y := (⟨"java/lang/String", "length", "()I"⟩ : MethodName)) (z := (⟨"java/lang/String", "length", "()I"⟩ : MethodName)) hown (mvT hZ (hw50 hw)) (mvT hZ (hw51 hw)) (notFace_of_selects (args := #[]) (mvT hZ (hw53 hw))) (mvT hZ (hw53 hw)) (mvT hZ (hw52 hw)) (by decide) (StrChars.Road.lenW (W := 0) hZ (own_hln hw) (kI := 4) (hw10 hw) P0.1 P0.2.1 P0.2.2.1 P0.2.2.2.1 (own_cod P0) (own_up P0.2.2.2.2.1) (O2.ext P1.2) P5 P0.2.2.2.2.2 (by decide) (by decide)) q1a q1c (g := (mkF m 1 #[.val (.ref a), .val (.int (Int32.ofNat b)), .val (.int (Int32.ofNat en)), uS, uS] [(.ref a)])) rfl (by rw [hml]; rfl) (Steps.refl _) (argsL := []) (rest := []) (lenOf pd_5 rfl) rfl (by show 2 * 0 + _ ≤ _; exact Nat.le_of_eq rfl) (hb hby d25_1) (fun _ _ => ⟨rfl, e0, (by decide : 0 + 0 ≤ _), (by decide : 0 + 0 ≤ _)⟩)
 dsimp only [Pt.U, Pt.locs, Pt.cells, Pt.slots] at X1 l1 y1 z1 st1 hQ1
 subst l1 y1 z1
 obtain ⟨rfl, rfl, K1⟩ := hQ1
 have N1 := Fr.app N0 (Fr.nil n0)
 refine Goes.tr st1 ?_
 show Goes _ _ _ _ (T1.setTop (mkF m 4 #[.val (.ref a), .val (.int (Int32.ofNat b)), .val (.int (Int32.ofNat en)), uS, uS] [(.int (Int32.ofNat cs.length))]))
 refine Goes.st (fun sT kT => XS.istoreN X1.here hx rfl (hb hby d25_4) rfl (l' := #[.val (.ref a), .val (.int (Int32.ofNat b)), .val (.int (Int32.ofNat en)), .val (.int (Int32.ofNat cs.length)), uS]) rfl kT) ?_
 show Goes _ _ _ _ (T1.setTop (mkF m 5 #[.val (.ref a), .val (.int (Int32.ofNat b)), .val (.int (Int32.ofNat en)), .val (.int (Int32.ofNat cs.length)), uS] []))
 refine Goes.st (fun sT kT => XS.iloadN X1.here hx rfl (hb hby d25_5) rfl kT) ?_
 show Goes _ _ _ _ (T1.setTop (mkF m 6 #[.val (.ref a), .val (.int (Int32.ofNat b)), .val (.int (Int32.ofNat en)), .val (.int (Int32.ofNat cs.length)), uS] [(.int (Int32.ofNat b))]))
 refine Goes.st (fun sT kT => XS.iloadN X1.here hx rfl (hb hby d25_6) rfl kT) ?_
 show Goes _ _ _ _ (T1.setTop (mkF m 7 #[.val (.ref a), .val (.int (Int32.ofNat b)), .val (.int (Int32.ofNat en)), .val (.int (Int32.ofNat cs.length)), uS] [(.int (Int32.ofNat en)), (.int (Int32.ofNat b))]))
 refine Goes.st (fun sT kT => XS.iloadN X1.here hx rfl (hb hby d25_7) rfl kT) ?_
 show Goes _ _ _ _ (T1.setTop (mkF m 8 #[.val (.ref a), .val (.int (Int32.ofNat b)), .val (.int (Int32.ofNat en)), .val (.int (Int32.ofNat cs.length)), uS] [(.int (Int32.ofNat cs.length)), (.int (Int32.ofNat en)), (.int (Int32.ofNat b))]))
 obtain ⟨_, _, ⟨T2, L2, k2, n2⟩, -, X2, ⟨Lc2, hQ2, l2, y2, z2⟩, st2⟩ := Jvm.LawKit.callS X1 hx (y := (⟨"java/lang/String", "checkBoundsBeginEnd", "(III)V"⟩ : MethodName)) hown (mvT hZ (hw122 hw)) (mvT hZ (hw123 hw)) (mvT hZ (hw11 hw)) (mvT hZ (hw124 hw)) (by decide) (backOf (W := 0) (rm_cbb l Z a0 hw [] (Int32.ofNat b) (Int32.ofNat en) (Int32.ofNat cs.length) vF h0 n0 Z0 P1 (own_nneg (by omega)) (fun q => absurd ((own_nlt (by omega) (by omega)).mp q) (by omega)) (fun q => absurd ((own_nlt (by omega) (by omega)).mp q) (by omega)) OF rF) hZ (hw124 hw) (hw11 hw) (by decide) (by decide)) (g := (mkF m 8 #[.val (.ref a), .val (.int (Int32.ofNat b)), .val (.int (Int32.ofNat en)), .val (.int (Int32.ofNat cs.length)), uS] [(.int (Int32.ofNat cs.length)), (.int (Int32.ofNat en)), (.int (Int32.ofNat b))])) rfl (by rw [hml]; rfl) (argsL := [(.int (Int32.ofNat b)), (.int (Int32.ofNat en)), (.int (Int32.ofNat cs.length))]) (rest := []) (lenOf pd_10 rfl) rfl (by show 2 * 0 + _ ≤ _; exact Nat.le_of_eq rfl) (hb hby d25_8) (fun _ _ => ⟨rfl, K1, (by decide : 0 + 0 ≤ _), (by decide : 0 + 0 ≤ _)⟩)
 dsimp only [Pt.U, Pt.locs, Pt.cells, Pt.slots] at X2 l2 y2 z2 st2 hQ2
 subst l2 y2 z2
 obtain ⟨rfl, N2q, K2⟩ := hQ2
 have N2 := Fr.app N1 N2q
 refine Goes.st st2 ?_
 show Goes _ _ _ _ (T2.setTop (mkF m 11 #[.val (.ref a), .val (.int (Int32.ofNat b)), .val (.int (Int32.ofNat en)), .val (.int (Int32.ofNat cs.length)), uS] []))
 refine Goes.st (fun sT kT => XS.iloadN X2.here hx rfl (hb hby d25_11) rfl kT) ?_
 show Goes _ _ _ _ (T2.setTop (mkF m 12 #[.val (.ref a), .val (.int (Int32.ofNat b)), .val (.int (Int32.ofNat en)), .val (.int (Int32.ofNat cs.length)), uS] [(.int (Int32.ofNat b))]))
 by_cases cz3 : (Int32.ofNat b) = (0 : Int32)
 case pos =>
  refine Goes.st (fun sT kT => XS.ifNo X2.here hx rfl (hb hby d25_12) rfl ((if0 _ _).trans (teq cz3).2) kT) ?_
  show Goes _ _ _ _ (T2.setTop (mkF m 15 #[.val (.ref a), .val (.int (Int32.ofNat b)), .val (.int (Int32.ofNat en)), .val (.int (Int32.ofNat cs.length)), uS] []))
  refine Goes.st (fun sT kT => XS.iloadN X2.here hx rfl (hb hby d25_15) rfl kT) ?_
  show Goes _ _ _ _ (T2.setTop (mkF m 16 #[.val (.ref a), .val (.int (Int32.ofNat b)), .val (.int (Int32.ofNat en)), .val (.int (Int32.ofNat cs.length)), uS] [(.int (Int32.ofNat en))]))
  refine Goes.st (fun sT kT => XS.iloadN X2.here hx rfl (hb hby d25_16) rfl kT) ?_
  show Goes _ _ _ _ (T2.setTop (mkF m 17 #[.val (.ref a), .val (.int (Int32.ofNat b)), .val (.int (Int32.ofNat en)), .val (.int (Int32.ofNat cs.length)), uS] [(.int (Int32.ofNat cs.length)), (.int (Int32.ofNat en))]))
  refine Goes.st (fun sT kT => XS.icmpYes X2.here hx rfl (pc0 := 17) (pc' := 22) rfl (hb hby d25_17) rfl (feq (fun q => hnw ⟨own_ninj (by omega) (by decide) cz3, own_ninj (by omega) (by omega) q⟩)).2 (by decide) (by decide) kT) ?_
  show Goes _ _ _ _ (T2.setTop (mkF m 22 #[.val (.ref a), .val (.int (Int32.ofNat b)), .val (.int (Int32.ofNat en)), .val (.int (Int32.ofNat cs.length)), uS] []))
  refine Goes.st (fun sT kT => XS.iloadN X2.here hx rfl (hb hby d25_22) rfl kT) ?_
  show Goes _ _ _ _ (T2.setTop (mkF m 23 #[.val (.ref a), .val (.int (Int32.ofNat b)), .val (.int (Int32.ofNat en)), .val (.int (Int32.ofNat cs.length)), uS] [(.int (Int32.ofNat en))]))
  refine Goes.st (fun sT kT => XS.iloadN X2.here hx rfl (hb hby d25_23) rfl kT) ?_
  show Goes _ _ _ _ (T2.setTop (mkF m 24 #[.val (.ref a), .val (.int (Int32.ofNat b)), .val (.int (Int32.ofNat en)), .val (.int (Int32.ofNat cs.length)), uS] [(.int (Int32.ofNat b)), (.int (Int32.ofNat en))]))
  refine Goes.st (fun sT kT => XS.isub X2.here hx rfl (hb hby d25_24) rfl kT) ?_
  show Goes _ _ _ _ (T2.setTop (mkF m 25 #[.val (.ref a), .val (.int (Int32.ofNat b)), .val (.int (Int32.ofNat en)), .val (.int (Int32.ofNat cs.length)), uS] [(.int ((Int32.ofNat en) - (Int32.ofNat b)))]))
  rw [own_nsub (Nat.le_of_lt hbe)]
  show Goes _ _ _ _ (T2.setTop (mkF m 25 #[.val (.ref a), .val (.int (Int32.ofNat b)), .val (.int (Int32.ofNat en)), .val (.int (Int32.ofNat cs.length)), uS] [(.int (Int32.ofNat (en - b)))]))
  refine Goes.st (fun sT kT => XS.istore X2.here hx rfl (hb hby d25_25) rfl (l' := #[.val (.ref a), .val (.int (Int32.ofNat b)), .val (.int (Int32.ofNat en)), .val (.int (Int32.ofNat cs.length)), .val (.int (Int32.ofNat (en - b)))]) rfl kT) ?_
  show Goes _ _ _ _ (T2.setTop (mkF m 27 #[.val (.ref a), .val (.int (Int32.ofNat b)), .val (.int (Int32.ofNat en)), .val (.int (Int32.ofNat cs.length)), .val (.int (Int32.ofNat (en - b)))] []))
  refine Goes.st (fun sT kT => XS.aloadN X2.here hx rfl (hb hby d25_27) rfl rfl kT) ?_
  show Goes _ _ _ _ (T2.setTop (mkF m 28 #[.val (.ref a), .val (.int (Int32.ofNat b)), .val (.int (Int32.ofNat en)), .val (.int (Int32.ofNat cs.length)), .val (.int (Int32.ofNat (en - b)))] [(.ref a)]))
  obtain ⟨cq4, kq4, q4a, q4b, q4c⟩ := isOf hZ K2 P0.1
  obtain ⟨_, _, ⟨T4, L4, k4, n4⟩, -, X4, ⟨Lc4, hQ4, l4, y4, z4⟩, st4⟩ := X2.virtualBack hx (y := (⟨"java/lang/String", "isLatin1", "()Z"⟩ : MethodName)) (z := (⟨"java/lang/String", "isLatin1", "()Z"⟩ : MethodName)) hown (mvT hZ (hw44 hw)) (mvT hZ (hw45 hw)) (notFace_of_selects (args := #[]) (mvT hZ (hw47 hw))) (mvT hZ (hw47 hw)) (mvT hZ (hw46 hw)) (by decide) (backOf (W := 0) (rm_isL l Z a0 hw [] a G1 h0 n0 Z0 P0.2.2.1 P1 O2 P5) hZ (hw48 hw) (hw11 hw) (by decide) (by decide)) q4a q4c (g := (mkF m 28 #[.val (.ref a), .val (.int (Int32.ofNat b)), .val (.int (Int32.ofNat en)), .val (.int (Int32.ofNat cs.length)), .val (.int (Int32.ofNat (en - b)))] [(.ref a)])) rfl (by rw [hml]; rfl) (Steps.refl _) (argsL := []) (rest := []) (lenOf pd_4 rfl) rfl (by show 2 * 0 + _ ≤ _; exact Nat.le_of_eq rfl) (hb hby d25_28) (fun _ _ => ⟨rfl, K2, (by decide : 0 + 0 ≤ _), (by decide : 0 + 0 ≤ _)⟩)
  dsimp only [Pt.U, Pt.locs, Pt.cells, Pt.slots] at X4 l4 y4 z4 st4 hQ4
  subst l4 y4 z4
  obtain ⟨rfl, N4q, K4⟩ := hQ4
  have N4 := Fr.app N2 N4q
  refine Goes.tr st4 ?_
  show Goes _ _ _ _ (T4.setTop (mkF m 31 #[.val (.ref a), .val (.int (Int32.ofNat b)), .val (.int (Int32.ofNat en)), .val (.int (Int32.ofNat cs.length)), .val (.int (Int32.ofNat (en - b)))] [(.int (1 : Int32))]))
  refine Goes.st (fun sT kT => XS.ifNo X4.here hx rfl (hb hby d25_31) rfl ((if0 _ _).trans (feq (by decide : ¬ ((1 : Int32) = (0 : Int32)))).1) kT) ?_
  show Goes _ _ _ _ (T4.setTop (mkF m 34 #[.val (.ref a), .val (.int (Int32.ofNat b)), .val (.int (Int32.ofNat en)), .val (.int (Int32.ofNat cs.length)), .val (.int (Int32.ofNat (en - b)))] []))
  refine Goes.st (fun sT kT => XS.aloadN X4.here hx rfl (hb hby d25_34) rfl rfl kT) ?_
  show Goes _ _ _ _ (T4.setTop (mkF m 35 #[.val (.ref a), .val (.int (Int32.ofNat b)), .val (.int (Int32.ofNat en)), .val (.int (Int32.ofNat cs.length)), .val (.int (Int32.ofNat (en - b)))] [(.ref a)]))
  obtain ⟨T5, X5, e5, st5⟩ := getF X4 hx hZ hown (host := "") (Or.inl (hw28 hw)) Via.refl K4 P0.2.1 (g := (mkF m 35 #[.val (.ref a), .val (.int (Int32.ofNat b)), .val (.int (Int32.ofNat en)), .val (.int (Int32.ofNat cs.length)), .val (.int (Int32.ofNat (en - b)))] [(.ref a)])) rfl rfl (hb hby d25_35)
  refine Goes.st st5 ?_
  show Goes _ _ _ _ (T5.setTop (mkF m 38 #[.val (.ref a), .val (.int (Int32.ofNat b)), .val (.int (Int32.ofNat en)), .val (.int (Int32.ofNat cs.length)), .val (.int (Int32.ofNat (en - b)))] [(.ref t)]))
  refine Goes.st (fun sT kT => XS.iloadN X5.here hx rfl (hb hby d25_38) rfl kT) ?_
  show Goes _ _ _ _ (T5.setTop (mkF m 39 #[.val (.ref a), .val (.int (Int32.ofNat b)), .val (.int (Int32.ofNat en)), .val (.int (Int32.ofNat cs.length)), .val (.int (Int32.ofNat (en - b)))] [(.int (Int32.ofNat b)), (.ref t)]))
  refine Goes.st (fun sT kT => XS.iload X5.here hx rfl (hb hby d25_39) rfl kT) ?_
  show Goes _ _ _ _ (T5.setTop (mkF m 41 #[.val (.ref a), .val (.int (Int32.ofNat b)), .val (.int (Int32.ofNat en)), .val (.int (Int32.ofNat cs.length)), .val (.int (Int32.ofNat (en - b)))] [(.int (Int32.ofNat (en - b))), (.int (Int32.ofNat b)), (.ref t)]))
  obtain ⟨_, _, ⟨T6, L6, k6, n6⟩, -, X6, ⟨Lc6, hQ6, l6, y6, z6⟩, st6⟩ := Jvm.LawKit.callS X5 hx (y := (⟨"java/lang/StringLatin1", "newString", "([BII)Ljava/lang/String;"⟩ : MethodName)) hown (mvT hZ (hw130 hw)) (mvT hZ (hw131 hw)) (mvT hZ (hw62 hw)) (mvT hZ (hw132 hw)) (by decide) (backOf (W := 0) (rm_nsP l Z a0 hw [] t kb cs b (en - b) h0 n0 Z0 P0.2.2.2.1 (by omega) (by omega) h4 (fun q => hnw ⟨q.1, by omega⟩) P0.2.2.2.2.1) hZ (hw132 hw) (hw62 hw) (by decide) (by decide)) (g := (mkF m 41 #[.val (.ref a), .val (.int (Int32.ofNat b)), .val (.int (Int32.ofNat en)), .val (.int (Int32.ofNat cs.length)), .val (.int (Int32.ofNat (en - b)))] [(.int (Int32.ofNat (en - b))), (.int (Int32.ofNat b)), (.ref t)])) rfl (by rw [hml]; rfl) (argsL := [(.ref t), (.int (Int32.ofNat b)), (.int (Int32.ofNat (en - b)))]) (rest := []) (lenOf pd_11 rfl) rfl (by show 2 * 0 + _ ≤ _; exact Nat.le_of_eq rfl) (hb hby d25_41) (fun _ _ => ⟨rfl, e5, (by decide : 0 + 2 ≤ _), (by decide : 0 + 8 ≤ _)⟩)
  dsimp only [Pt.U, Pt.locs, Pt.cells, Pt.slots] at X6 l6 y6 z6 st6 hQ6
  subst l6 y6 z6
  obtain ⟨r6, tz6, kz6, rfl, N6q, K6, F6_0, lo6_0, lo6_1⟩ := hQ6
  have N6 := Fr.app N4 N6q
  have F6_0E := F6_0.1
  refine Goes.st st6 ?_
  show Goes _ _ _ _ (T6.setTop (mkF m 44 #[.val (.ref a), .val (.int (Int32.ofNat b)), .val (.int (Int32.ofNat en)), .val (.int (Int32.ofNat cs.length)), .val (.int (Int32.ofNat (en - b)))] [(.ref r6)]))
  refine Goes.st (fun sT kT => XS.goto X6.here hx rfl (pc0 := 44) (pc' := 57) rfl (hb hby d25_44) (by decide) (by decide) kT) ?_
  show Goes _ _ _ _ (T6.setTop (mkF m 57 #[.val (.ref a), .val (.int (Int32.ofNat b)), .val (.int (Int32.ofNat en)), .val (.int (Int32.ofNat cs.length)), .val (.int (Int32.ofNat (en - b)))] [(.ref r6)]))
  have kp7 : Keep h0 T6.heap [] := (Keep.refl h0 []).trans K6 all0
  obtain ⟨fs, hr, hrun, hended, hW, hsame⟩ := X6.leave (v := some (.ref r6)) (fun h => by rw [Bd.returns] at h; cases h)
  subst hQQ
  refine ⟨_, _, retR X6 hx Bd.returns rfl rfl (hb hby d25_57) hr, hrun, hended, _, _, rfl, ?_, ⟨_, rfl⟩, hW, hsame.mono (by decide) (by decide)⟩
  show Q_subP Z a t kb cs G1 vF b en h0 n0 _ T6.heap _
  exact ⟨r6, tz6, kz6, rfl, N6, kp7, F6_0, lo6_0, lo6_1⟩
 case neg =>
  refine Goes.st (fun sT kT => XS.ifYes X2.here hx rfl (pc0 := 12) (pc' := 22) rfl (hb hby d25_12) rfl ((if0 _ _).trans (feq cz3).2) (by decide) (by decide) kT) ?_
  show Goes _ _ _ _ (T2.setTop (mkF m 22 #[.val (.ref a), .val (.int (Int32.ofNat b)), .val (.int (Int32.ofNat en)), .val (.int (Int32.ofNat cs.length)), uS] []))
  refine Goes.st (fun sT kT => XS.iloadN X2.here hx rfl (hb hby d25_22) rfl kT) ?_
  show Goes _ _ _ _ (T2.setTop (mkF m 23 #[.val (.ref a), .val (.int (Int32.ofNat b)), .val (.int (Int32.ofNat en)), .val (.int (Int32.ofNat cs.length)), uS] [(.int (Int32.ofNat en))]))
  refine Goes.st (fun sT kT => XS.iloadN X2.here hx rfl (hb hby d25_23) rfl kT) ?_
  show Goes _ _ _ _ (T2.setTop (mkF m 24 #[.val (.ref a), .val (.int (Int32.ofNat b)), .val (.int (Int32.ofNat en)), .val (.int (Int32.ofNat cs.length)), uS] [(.int (Int32.ofNat b)), (.int (Int32.ofNat en))]))
  refine Goes.st (fun sT kT => XS.isub X2.here hx rfl (hb hby d25_24) rfl kT) ?_
  show Goes _ _ _ _ (T2.setTop (mkF m 25 #[.val (.ref a), .val (.int (Int32.ofNat b)), .val (.int (Int32.ofNat en)), .val (.int (Int32.ofNat cs.length)), uS] [(.int ((Int32.ofNat en) - (Int32.ofNat b)))]))
  rw [own_nsub (Nat.le_of_lt hbe)]
  show Goes _ _ _ _ (T2.setTop (mkF m 25 #[.val (.ref a), .val (.int (Int32.ofNat b)), .val (.int (Int32.ofNat en)), .val (.int (Int32.ofNat cs.length)), uS] [(.int (Int32.ofNat (en - b)))]))
  refine Goes.st (fun sT kT => XS.istore X2.here hx rfl (hb hby d25_25) rfl (l' := #[.val (.ref a), .val (.int (Int32.ofNat b)), .val (.int (Int32.ofNat en)), .val (.int (Int32.ofNat cs.length)), .val (.int (Int32.ofNat (en - b)))]) rfl kT) ?_
  show Goes _ _ _ _ (T2.setTop (mkF m 27 #[.val (.ref a), .val (.int (Int32.ofNat b)), .val (.int (Int32.ofNat en)), .val (.int (Int32.ofNat cs.length)), .val (.int (Int32.ofNat (en - b)))] []))
  refine Goes.st (fun sT kT => XS.aloadN X2.here hx rfl (hb hby d25_27) rfl rfl kT) ?_
  show Goes _ _ _ _ (T2.setTop (mkF m 28 #[.val (.ref a), .val (.int (Int32.ofNat b)), .val (.int (Int32.ofNat en)), .val (.int (Int32.ofNat cs.length)), .val (.int (Int32.ofNat (en - b)))] [(.ref a)]))
  obtain ⟨cq8, kq8, q8a, q8b, q8c⟩ := isOf hZ K2 P0.1
  obtain ⟨_, _, ⟨T8, L8, k8, n8⟩, -, X8, ⟨Lc8, hQ8, l8, y8, z8⟩, st8⟩ := X2.virtualBack hx (y := (⟨"java/lang/String", "isLatin1", "()Z"⟩ : MethodName)) (z := (⟨"java/lang/String", "isLatin1", "()Z"⟩ : MethodName)) hown (mvT hZ (hw44 hw)) (mvT hZ (hw45 hw)) (notFace_of_selects (args := #[]) (mvT hZ (hw47 hw))) (mvT hZ (hw47 hw)) (mvT hZ (hw46 hw)) (by decide) (backOf (W := 0) (rm_isL l Z a0 hw [] a G1 h0 n0 Z0 P0.2.2.1 P1 O2 P5) hZ (hw48 hw) (hw11 hw) (by decide) (by decide)) q8a q8c (g := (mkF m 28 #[.val (.ref a), .val (.int (Int32.ofNat b)), .val (.int (Int32.ofNat en)), .val (.int (Int32.ofNat cs.length)), .val (.int (Int32.ofNat (en - b)))] [(.ref a)])) rfl (by rw [hml]; rfl) (Steps.refl _) (argsL := []) (rest := []) (lenOf pd_4 rfl) rfl (by show 2 * 0 + _ ≤ _; exact Nat.le_of_eq rfl) (hb hby d25_28) (fun _ _ => ⟨rfl, K2, (by decide : 0 + 0 ≤ _), (by decide : 0 + 0 ≤ _)⟩)
  dsimp only [Pt.U, Pt.locs, Pt.cells, Pt.slots] at X8 l8 y8 z8 st8 hQ8
  subst l8 y8 z8
  obtain ⟨rfl, N8q, K8⟩ := hQ8
  have N8 := Fr.app N2 N8q
  refine Goes.tr st8 ?_
  show Goes _ _ _ _ (T8.setTop (mkF m 31 #[.val (.ref a), .val (.int (Int32.ofNat b)), .val (.int (Int32.ofNat en)), .val (.int (Int32.ofNat cs.length)), .val (.int (Int32.ofNat (en - b)))] [(.int (1 : Int32))]))
  refine Goes.st (fun sT kT => XS.ifNo X8.here hx rfl (hb hby d25_31) rfl ((if0 _ _).trans (feq (by decide : ¬ ((1 : Int32) = (0 : Int32)))).1) kT) ?_
  show Goes _ _ _ _ (T8.setTop (mkF m 34 #[.val (.ref a), .val (.int (Int32.ofNat b)), .val (.int (Int32.ofNat en)), .val (.int (Int32.ofNat cs.length)), .val (.int (Int32.ofNat (en - b)))] []))
  refine Goes.st (fun sT kT => XS.aloadN X8.here hx rfl (hb hby d25_34) rfl rfl kT) ?_
  show Goes _ _ _ _ (T8.setTop (mkF m 35 #[.val (.ref a), .val (.int (Int32.ofNat b)), .val (.int (Int32.ofNat en)), .val (.int (Int32.ofNat cs.length)), .val (.int (Int32.ofNat (en - b)))] [(.ref a)]))
  obtain ⟨T9, X9, e9, st9⟩ := getF X8 hx hZ hown (host := "") (Or.inl (hw28 hw)) Via.refl K8 P0.2.1 (g := (mkF m 35 #[.val (.ref a), .val (.int (Int32.ofNat b)), .val (.int (Int32.ofNat en)), .val (.int (Int32.ofNat cs.length)), .val (.int (Int32.ofNat (en - b)))] [(.ref a)])) rfl rfl (hb hby d25_35)
  refine Goes.st st9 ?_
  show Goes _ _ _ _ (T9.setTop (mkF m 38 #[.val (.ref a), .val (.int (Int32.ofNat b)), .val (.int (Int32.ofNat en)), .val (.int (Int32.ofNat cs.length)), .val (.int (Int32.ofNat (en - b)))] [(.ref t)]))
  refine Goes.st (fun sT kT => XS.iloadN X9.here hx rfl (hb hby d25_38) rfl kT) ?_
  show Goes _ _ _ _ (T9.setTop (mkF m 39 #[.val (.ref a), .val (.int (Int32.ofNat b)), .val (.int (Int32.ofNat en)), .val (.int (Int32.ofNat cs.length)), .val (.int (Int32.ofNat (en - b)))] [(.int (Int32.ofNat b)), (.ref t)]))
  refine Goes.st (fun sT kT => XS.iload X9.here hx rfl (hb hby d25_39) rfl kT) ?_
  show Goes _ _ _ _ (T9.setTop (mkF m 41 #[.val (.ref a), .val (.int (Int32.ofNat b)), .val (.int (Int32.ofNat en)), .val (.int (Int32.ofNat cs.length)), .val (.int (Int32.ofNat (en - b)))] [(.int (Int32.ofNat (en - b))), (.int (Int32.ofNat b)), (.ref t)]))
  obtain ⟨_, _, ⟨T10, L10, k10, n10⟩, -, X10, ⟨Lc10, hQ10, l10, y10, z10⟩, st10⟩ := Jvm.LawKit.callS X9 hx (y := (⟨"java/lang/StringLatin1", "newString", "([BII)Ljava/lang/String;"⟩ : MethodName)) hown (mvT hZ (hw130 hw)) (mvT hZ (hw131 hw)) (mvT hZ (hw62 hw)) (mvT hZ (hw132 hw)) (by decide) (backOf (W := 0) (rm_nsP l Z a0 hw [] t kb cs b (en - b) h0 n0 Z0 P0.2.2.2.1 (by omega) (by omega) h4 (fun q => hnw ⟨q.1, by omega⟩) P0.2.2.2.2.1) hZ (hw132 hw) (hw62 hw) (by decide) (by decide)) (g := (mkF m 41 #[.val (.ref a), .val (.int (Int32.ofNat b)), .val (.int (Int32.ofNat en)), .val (.int (Int32.ofNat cs.length)), .val (.int (Int32.ofNat (en - b)))] [(.int (Int32.ofNat (en - b))), (.int (Int32.ofNat b)), (.ref t)])) rfl (by rw [hml]; rfl) (argsL := [(.ref t), (.int (Int32.ofNat b)), (.int (Int32.ofNat (en - b)))]) (rest := []) (lenOf pd_11 rfl) rfl (by show 2 * 0 + _ ≤ _; exact Nat.le_of_eq rfl) (hb hby d25_41) (fun _ _ => ⟨rfl, e9, (by decide : 0 + 2 ≤ _), (by decide : 0 + 8 ≤ _)⟩)
  dsimp only [Pt.U, Pt.locs, Pt.cells, Pt.slots] at X10 l10 y10 z10 st10 hQ10
  subst l10 y10 z10
  obtain ⟨r10, tz10, kz10, rfl, N10q, K10, F10_0, lo10_0, lo10_1⟩ := hQ10
  have N10 := Fr.app N8 N10q
  have F10_0E := F10_0.1
  refine Goes.st st10 ?_
  show Goes _ _ _ _ (T10.setTop (mkF m 44 #[.val (.ref a), .val (.int (Int32.ofNat b)), .val (.int (Int32.ofNat en)), .val (.int (Int32.ofNat cs.length)), .val (.int (Int32.ofNat (en - b)))] [(.ref r10)]))
  refine Goes.st (fun sT kT => XS.goto X10.here hx rfl (pc0 := 44) (pc' := 57) rfl (hb hby d25_44) (by decide) (by decide) kT) ?_
  show Goes _ _ _ _ (T10.setTop (mkF m 57 #[.val (.ref a), .val (.int (Int32.ofNat b)), .val (.int (Int32.ofNat en)), .val (.int (Int32.ofNat cs.length)), .val (.int (Int32.ofNat (en - b)))] [(.ref r10)]))
  have kp11 : Keep h0 T10.heap [] := (Keep.refl h0 []).trans K10 all0
  obtain ⟨fs, hr, hrun, hended, hW, hsame⟩ := X10.leave (v := some (.ref r10)) (fun h => by rw [Bd.returns] at h; cases h)
  subst hQQ
  refine ⟨_, _, retR X10 hx Bd.returns rfl rfl (hb hby d25_57) hr, hrun, hended, _, _, rfl, ?_, ⟨_, rfl⟩, hW, hsame.mono (by decide) (by decide)⟩
  show Q_subP Z a t kb cs G1 vF b en h0 n0 _ T10.heap _
  exact ⟨r10, tz10, kz10, rfl, N10, kp11, F10_0, lo10_0, lo10_1⟩
theorem ef_subE (m : MethodId) (a : Addr) (t : Addr) (kb : ClassId) (cs : List Int32) (G1 : Int32) (vF : Value) (b : Nat) : entryFrame m #[(.ref a), (.int (Int32.ofNat b)), (.int (Int32.ofNat b))] 5 = (mkF m 0 #[.val (.ref a), .val (.int (Int32.ofNat b)), .val (.int (Int32.ofNat b)), uS, uS] []) := by first | (simp [entryFrame, mkF, argsToLocals, Value.category]; done) | rfl
def Q_subE (Z : State) (a : Addr) (t : Addr) (kb : ClassId) (cs : List Int32) (G1 : Int32) (vF : Value) (b : Nat) (h0 : Heap) (n0 : Nat) (v : Option Value) (h : Heap) (L : List Loc) : Prop := ∃ (r : Addr) (tz : Addr) (kz : ClassId), v = some (.ref r) ∧ Fr n0 L ∧ Keep h0 h [] ∧ Str Z h r tz kz []
set_option maxRecDepth 65536 in
set_option maxHeartbeats 40000000 in
theorem rm_subE (l : Launch) (Z : State) (a0 : Array Value) (hw : ∀ d ∈ tables_1, d.before a0 Z = true) (ws : List Jvm.Cond) (a : Addr) (t : Addr) (kb : ClassId) (cs : List Int32) (G1 : Int32) (vF : Value) (b : Nat) (h0 : Heap) (n0 : Nat) (Z0 : n0 ≤ h0.size) (P0 : Str Z h0 a t kb cs) (P1 : Old Z n0 h0) (O2 : Sta Z Z.heap "java/lang/String" "COMPACT_STRINGS" "Z" (.int G1)) (P5 : ¬ (G1 = (0 : Int32))) (OF : Sta Z Z.heap "jdk/internal/util/Preconditions" "SIOOBE_FORMATTER" "Ljava/util/function/BiFunction;" vF) (rF : vF.isRef = true) (he : b ≤ cs.length) (h4 : cs.length ≤ 4) (hnw : ¬ (b = 0 ∧ b = cs.length)) :
    MetFree l (⟨"java/lang/String", "substring", "(II)Ljava/lang/String;"⟩ : MethodName) (head1 (Jvm.Cond.code (⟨"java/lang/String", "substring", "(II)Ljava/lang/String;"⟩ : MethodName) jdk_42_method_92_code 5 (some (.object "java/lang/String")) :: ws) ({ frames := 3, cells := 2, slots := 4, locals := 40 } : Room)) (fun aR U => aR = #[(.ref a), (.int (Int32.ofNat b)), (.int (Int32.ofNat b))] ∧ Z.Warmed39 U.vm ∧ U.heap = h0 ∧ CHv Z EL U.vm h0 ∧ ∀ x ∈ ([] : List Addr), Safe Z EL U.vm h0 x) (fun _ _ _ _ _ => True) (fun _ U o U' => ∃ v L, o = .returned v ∧ Q_subE Z a t kb cs G1 vF b h0 n0 v U'.heap L ∧ CHr Z EL U.vm U.heap U'.vm U'.heap ∧ ReturnedEndW U o U' L ({ frames := 3, cells := 2, slots := 4, locals := 40 } : Room).cells ({ frames := 3, cells := 2, slots := 4, locals := 40 } : Room).slots) := by
 refine MetFree.of_bodySF (plainFor_of_name pn_0) hisR ?_
 intro p e s m args below meth c s₁ Bd hml0 hP hK
 obtain ⟨rfl, hZ, hh, hCH, hSF⟩ := hP
 have hx := Bd.exec
 have hby := Bd.bytes
 have hml : c.maxLocals = 5 := hml0
 have hown : s.vm.findClass "java/lang/String" = some m.cls := findClass_of_methodNamed Bd.named
 have hnm := (name_of_methodNamed Bd.named Bd.method).1
 have X0 : Stand p l e ({ frames := 3, cells := 2, slots := 4, locals := 40 } : Room) (s.setVm s.vm) m #[(.ref a), (.int (Int32.ofNat b)), (.int (Int32.ofNat b))] below meth c s₁ [] 0 0 := Stand.of_body Bd
 have e0 : s₁.heap = h0 := by rw [← hh, Bd.state]; rfl
 have N0 := Fr.nil n0
 show Goes p.tables e below _ _
 rw [ef_subE m a t kb cs G1 vF b]
 refine Goes.named ?_
 intro QQ hQQ
 have hS0 : s.Since s.vm 0 := (State.WarmedH.refl s).since 0
 have hk0 : 0 ≤ h0.size := Nat.zero_le _
 have CR0 : CHr Z EL s.vm h0 s.vm h0 := CHr.refl hCH
 refine Goes.st (fun sT kT => XS.aloadN X0.here hx rfl (hb hby d25_0) rfl rfl kT) ?_
 show Goes _ _ _ _ (s₁.setTop (mkF m 1 #[.val (.ref a), .val (.int (Int32.ofNat b)), .val (.int (Int32.ofNat b)), uS, uS] [(.ref a)]))
 obtain ⟨cq1, kq1, q1a, q1b, q1c⟩ := isOf hZ e0 P0.1
 obtain ⟨_, _, ⟨T1, L1, k1, n1⟩, -, X1, ⟨Lc1, hQ1, l1, y1, z1⟩, st1⟩ := X0.virtualBack hx (y := (⟨"java/lang/String", "length", "()I"⟩ : MethodName)) (z := (⟨"java/lang/String", "length", "()I"⟩ : MethodName)) hown (mvT hZ (hw50 hw)) (mvT hZ (hw51 hw)) (notFace_of_selects (args := #[]) (mvT hZ (hw53 hw))) (mvT hZ (hw53 hw)) (mvT hZ (hw52 hw)) (by decide) (StrChars.Road.lenW (W := 0) hZ (own_hln hw) (kI := 4) (hw10 hw) P0.1 P0.2.1 P0.2.2.1 P0.2.2.2.1 (own_cod P0) (own_up P0.2.2.2.2.1) (O2.ext P1.2) P5 P0.2.2.2.2.2 (by decide) (by decide)) q1a q1c (g := (mkF m 1 #[.val (.ref a), .val (.int (Int32.ofNat b)), .val (.int (Int32.ofNat b)), uS, uS] [(.ref a)])) rfl (by rw [hml]; rfl) (Steps.refl _) (argsL := []) (rest := []) (lenOf pd_5 rfl) rfl (by show 2 * 0 + _ ≤ _; exact Nat.le_of_eq rfl) (hb hby d25_1) (fun _ _ => ⟨rfl, e0, (by decide : 0 + 0 ≤ _), (by decide : 0 + 0 ≤ _)⟩)
 dsimp only [Pt.U, Pt.locs, Pt.cells, Pt.slots] at X1 l1 y1 z1 st1 hQ1
 subst l1 y1 z1
 obtain ⟨rfl, rfl, K1⟩ := hQ1
 have N1 := Fr.app N0 (Fr.nil n0)
 refine Goes.tr st1 ?_
 show Goes _ _ _ _ (T1.setTop (mkF m 4 #[.val (.ref a), .val (.int (Int32.ofNat b)), .val (.int (Int32.ofNat b)), uS, uS] [(.int (Int32.ofNat cs.length))]))
 refine Goes.st (fun sT kT => XS.istoreN X1.here hx rfl (hb hby d25_4) rfl (l' := #[.val (.ref a), .val (.int (Int32.ofNat b)), .val (.int (Int32.ofNat b)), .val (.int (Int32.ofNat cs.length)), uS]) rfl kT) ?_
 show Goes _ _ _ _ (T1.setTop (mkF m 5 #[.val (.ref a), .val (.int (Int32.ofNat b)), .val (.int (Int32.ofNat b)), .val (.int (Int32.ofNat cs.length)), uS] []))
 refine Goes.st (fun sT kT => XS.iloadN X1.here hx rfl (hb hby d25_5) rfl kT) ?_
 show Goes _ _ _ _ (T1.setTop (mkF m 6 #[.val (.ref a), .val (.int (Int32.ofNat b)), .val (.int (Int32.ofNat b)), .val (.int (Int32.ofNat cs.length)), uS] [(.int (Int32.ofNat b))]))
 refine Goes.st (fun sT kT => XS.iloadN X1.here hx rfl (hb hby d25_6) rfl kT) ?_
 show Goes _ _ _ _ (T1.setTop (mkF m 7 #[.val (.ref a), .val (.int (Int32.ofNat b)), .val (.int (Int32.ofNat b)), .val (.int (Int32.ofNat cs.length)), uS] [(.int (Int32.ofNat b)), (.int (Int32.ofNat b))]))
 refine Goes.st (fun sT kT => XS.iloadN X1.here hx rfl (hb hby d25_7) rfl kT) ?_
 show Goes _ _ _ _ (T1.setTop (mkF m 8 #[.val (.ref a), .val (.int (Int32.ofNat b)), .val (.int (Int32.ofNat b)), .val (.int (Int32.ofNat cs.length)), uS] [(.int (Int32.ofNat cs.length)), (.int (Int32.ofNat b)), (.int (Int32.ofNat b))]))
 obtain ⟨_, _, ⟨T2, L2, k2, n2⟩, -, X2, ⟨Lc2, hQ2, l2, y2, z2⟩, st2⟩ := Jvm.LawKit.callS X1 hx (y := (⟨"java/lang/String", "checkBoundsBeginEnd", "(III)V"⟩ : MethodName)) hown (mvT hZ (hw122 hw)) (mvT hZ (hw123 hw)) (mvT hZ (hw11 hw)) (mvT hZ (hw124 hw)) (by decide) (backOf (W := 0) (rm_cbb l Z a0 hw [] (Int32.ofNat b) (Int32.ofNat b) (Int32.ofNat cs.length) vF h0 n0 Z0 P1 (own_nneg (by omega)) (fun q => absurd ((own_nlt (by omega) (by omega)).mp q) (by omega)) (fun q => absurd ((own_nlt (by omega) (by omega)).mp q) (by omega)) OF rF) hZ (hw124 hw) (hw11 hw) (by decide) (by decide)) (g := (mkF m 8 #[.val (.ref a), .val (.int (Int32.ofNat b)), .val (.int (Int32.ofNat b)), .val (.int (Int32.ofNat cs.length)), uS] [(.int (Int32.ofNat cs.length)), (.int (Int32.ofNat b)), (.int (Int32.ofNat b))])) rfl (by rw [hml]; rfl) (argsL := [(.int (Int32.ofNat b)), (.int (Int32.ofNat b)), (.int (Int32.ofNat cs.length))]) (rest := []) (lenOf pd_10 rfl) rfl (by show 2 * 0 + _ ≤ _; exact Nat.le_of_eq rfl) (hb hby d25_8) (fun _ _ => ⟨rfl, K1, (by decide : 0 + 0 ≤ _), (by decide : 0 + 0 ≤ _)⟩)
 dsimp only [Pt.U, Pt.locs, Pt.cells, Pt.slots] at X2 l2 y2 z2 st2 hQ2
 subst l2 y2 z2
 obtain ⟨rfl, N2q, K2⟩ := hQ2
 have N2 := Fr.app N1 N2q
 refine Goes.st st2 ?_
 show Goes _ _ _ _ (T2.setTop (mkF m 11 #[.val (.ref a), .val (.int (Int32.ofNat b)), .val (.int (Int32.ofNat b)), .val (.int (Int32.ofNat cs.length)), uS] []))
 refine Goes.st (fun sT kT => XS.iloadN X2.here hx rfl (hb hby d25_11) rfl kT) ?_
 show Goes _ _ _ _ (T2.setTop (mkF m 12 #[.val (.ref a), .val (.int (Int32.ofNat b)), .val (.int (Int32.ofNat b)), .val (.int (Int32.ofNat cs.length)), uS] [(.int (Int32.ofNat b))]))
 by_cases cz3 : (Int32.ofNat b) = (0 : Int32)
 case pos =>
  refine Goes.st (fun sT kT => XS.ifNo X2.here hx rfl (hb hby d25_12) rfl ((if0 _ _).trans (teq cz3).2) kT) ?_
  show Goes _ _ _ _ (T2.setTop (mkF m 15 #[.val (.ref a), .val (.int (Int32.ofNat b)), .val (.int (Int32.ofNat b)), .val (.int (Int32.ofNat cs.length)), uS] []))
  refine Goes.st (fun sT kT => XS.iloadN X2.here hx rfl (hb hby d25_15) rfl kT) ?_
  show Goes _ _ _ _ (T2.setTop (mkF m 16 #[.val (.ref a), .val (.int (Int32.ofNat b)), .val (.int (Int32.ofNat b)), .val (.int (Int32.ofNat cs.length)), uS] [(.int (Int32.ofNat b))]))
  refine Goes.st (fun sT kT => XS.iloadN X2.here hx rfl (hb hby d25_16) rfl kT) ?_
  show Goes _ _ _ _ (T2.setTop (mkF m 17 #[.val (.ref a), .val (.int (Int32.ofNat b)), .val (.int (Int32.ofNat b)), .val (.int (Int32.ofNat cs.length)), uS] [(.int (Int32.ofNat cs.length)), (.int (Int32.ofNat b))]))
  refine Goes.st (fun sT kT => XS.icmpYes X2.here hx rfl (pc0 := 17) (pc' := 22) rfl (hb hby d25_17) rfl (feq (fun q => hnw ⟨own_ninj (by omega) (by decide) cz3, own_ninj (by omega) (by omega) q⟩)).2 (by decide) (by decide) kT) ?_
  show Goes _ _ _ _ (T2.setTop (mkF m 22 #[.val (.ref a), .val (.int (Int32.ofNat b)), .val (.int (Int32.ofNat b)), .val (.int (Int32.ofNat cs.length)), uS] []))
  refine Goes.st (fun sT kT => XS.iloadN X2.here hx rfl (hb hby d25_22) rfl kT) ?_
  show Goes _ _ _ _ (T2.setTop (mkF m 23 #[.val (.ref a), .val (.int (Int32.ofNat b)), .val (.int (Int32.ofNat b)), .val (.int (Int32.ofNat cs.length)), uS] [(.int (Int32.ofNat b))]))
  refine Goes.st (fun sT kT => XS.iloadN X2.here hx rfl (hb hby d25_23) rfl kT) ?_
  show Goes _ _ _ _ (T2.setTop (mkF m 24 #[.val (.ref a), .val (.int (Int32.ofNat b)), .val (.int (Int32.ofNat b)), .val (.int (Int32.ofNat cs.length)), uS] [(.int (Int32.ofNat b)), (.int (Int32.ofNat b))]))
  refine Goes.st (fun sT kT => XS.isub X2.here hx rfl (hb hby d25_24) rfl kT) ?_
  show Goes _ _ _ _ (T2.setTop (mkF m 25 #[.val (.ref a), .val (.int (Int32.ofNat b)), .val (.int (Int32.ofNat b)), .val (.int (Int32.ofNat cs.length)), uS] [(.int ((Int32.ofNat b) - (Int32.ofNat b)))]))
  rw [own_nself]
  show Goes _ _ _ _ (T2.setTop (mkF m 25 #[.val (.ref a), .val (.int (Int32.ofNat b)), .val (.int (Int32.ofNat b)), .val (.int (Int32.ofNat cs.length)), uS] [(.int (0 : Int32))]))
  refine Goes.st (fun sT kT => XS.istore X2.here hx rfl (hb hby d25_25) rfl (l' := #[.val (.ref a), .val (.int (Int32.ofNat b)), .val (.int (Int32.ofNat b)), .val (.int (Int32.ofNat cs.length)), .val (.int (0 : Int32))]) rfl kT) ?_
  show Goes _ _ _ _ (T2.setTop (mkF m 27 #[.val (.ref a), .val (.int (Int32.ofNat b)), .val (.int (Int32.ofNat b)), .val (.int (Int32.ofNat cs.length)), .val (.int (0 : Int32))] []))
  refine Goes.st (fun sT kT => XS.aloadN X2.here hx rfl (hb hby d25_27) rfl rfl kT) ?_
  show Goes _ _ _ _ (T2.setTop (mkF m 28 #[.val (.ref a), .val (.int (Int32.ofNat b)), .val (.int (Int32.ofNat b)), .val (.int (Int32.ofNat cs.length)), .val (.int (0 : Int32))] [(.ref a)]))
  obtain ⟨cq4, kq4, q4a, q4b, q4c⟩ := isOf hZ K2 P0.1
  obtain ⟨_, _, ⟨T4, L4, k4, n4⟩, -, X4, ⟨Lc4, hQ4, l4, y4, z4⟩, st4⟩ := X2.virtualBack hx (y := (⟨"java/lang/String", "isLatin1", "()Z"⟩ : MethodName)) (z := (⟨"java/lang/String", "isLatin1", "()Z"⟩ : MethodName)) hown (mvT hZ (hw44 hw)) (mvT hZ (hw45 hw)) (notFace_of_selects (args := #[]) (mvT hZ (hw47 hw))) (mvT hZ (hw47 hw)) (mvT hZ (hw46 hw)) (by decide) (backOf (W := 0) (rm_isL l Z a0 hw [] a G1 h0 n0 Z0 P0.2.2.1 P1 O2 P5) hZ (hw48 hw) (hw11 hw) (by decide) (by decide)) q4a q4c (g := (mkF m 28 #[.val (.ref a), .val (.int (Int32.ofNat b)), .val (.int (Int32.ofNat b)), .val (.int (Int32.ofNat cs.length)), .val (.int (0 : Int32))] [(.ref a)])) rfl (by rw [hml]; rfl) (Steps.refl _) (argsL := []) (rest := []) (lenOf pd_4 rfl) rfl (by show 2 * 0 + _ ≤ _; exact Nat.le_of_eq rfl) (hb hby d25_28) (fun _ _ => ⟨rfl, K2, (by decide : 0 + 0 ≤ _), (by decide : 0 + 0 ≤ _)⟩)
  dsimp only [Pt.U, Pt.locs, Pt.cells, Pt.slots] at X4 l4 y4 z4 st4 hQ4
  subst l4 y4 z4
  obtain ⟨rfl, N4q, K4⟩ := hQ4
  have N4 := Fr.app N2 N4q
  refine Goes.tr st4 ?_
  show Goes _ _ _ _ (T4.setTop (mkF m 31 #[.val (.ref a), .val (.int (Int32.ofNat b)), .val (.int (Int32.ofNat b)), .val (.int (Int32.ofNat cs.length)), .val (.int (0 : Int32))] [(.int (1 : Int32))]))
  refine Goes.st (fun sT kT => XS.ifNo X4.here hx rfl (hb hby d25_31) rfl ((if0 _ _).trans (feq (by decide : ¬ ((1 : Int32) = (0 : Int32)))).1) kT) ?_
  show Goes _ _ _ _ (T4.setTop (mkF m 34 #[.val (.ref a), .val (.int (Int32.ofNat b)), .val (.int (Int32.ofNat b)), .val (.int (Int32.ofNat cs.length)), .val (.int (0 : Int32))] []))
  refine Goes.st (fun sT kT => XS.aloadN X4.here hx rfl (hb hby d25_34) rfl rfl kT) ?_
  show Goes _ _ _ _ (T4.setTop (mkF m 35 #[.val (.ref a), .val (.int (Int32.ofNat b)), .val (.int (Int32.ofNat b)), .val (.int (Int32.ofNat cs.length)), .val (.int (0 : Int32))] [(.ref a)]))
  obtain ⟨T5, X5, e5, st5⟩ := getF X4 hx hZ hown (host := "") (Or.inl (hw28 hw)) Via.refl K4 P0.2.1 (g := (mkF m 35 #[.val (.ref a), .val (.int (Int32.ofNat b)), .val (.int (Int32.ofNat b)), .val (.int (Int32.ofNat cs.length)), .val (.int (0 : Int32))] [(.ref a)])) rfl rfl (hb hby d25_35)
  refine Goes.st st5 ?_
  show Goes _ _ _ _ (T5.setTop (mkF m 38 #[.val (.ref a), .val (.int (Int32.ofNat b)), .val (.int (Int32.ofNat b)), .val (.int (Int32.ofNat cs.length)), .val (.int (0 : Int32))] [(.ref t)]))
  refine Goes.st (fun sT kT => XS.iloadN X5.here hx rfl (hb hby d25_38) rfl kT) ?_
  show Goes _ _ _ _ (T5.setTop (mkF m 39 #[.val (.ref a), .val (.int (Int32.ofNat b)), .val (.int (Int32.ofNat b)), .val (.int (Int32.ofNat cs.length)), .val (.int (0 : Int32))] [(.int (Int32.ofNat b)), (.ref t)]))
  refine Goes.st (fun sT kT => XS.iload X5.here hx rfl (hb hby d25_39) rfl kT) ?_
  show Goes _ _ _ _ (T5.setTop (mkF m 41 #[.val (.ref a), .val (.int (Int32.ofNat b)), .val (.int (Int32.ofNat b)), .val (.int (Int32.ofNat cs.length)), .val (.int (0 : Int32))] [(.int (0 : Int32)), (.int (Int32.ofNat b)), (.ref t)]))
  obtain ⟨_, _, ⟨T6, L6, k6, n6⟩, -, X6, hSr6, hgr6, ⟨Lc6, hQ6, l6, y6, z6, C6⟩, st6⟩ := callSS X5 hx (y := (⟨"java/lang/StringLatin1", "newString", "([BII)Ljava/lang/String;"⟩ : MethodName)) hown (mvT hZ (hw130 hw)) (mvT hZ (hw131 hw)) (mvT hZ (hw62 hw)) (mvT hZ (hw132 hw)) (by decide) (own_backW (W := 0) (xs := []) (rm_nsE l Z a0 hw [] t (Int32.ofNat b) h0 n0 Z0 ) hZ (hw132 hw) (hw62 hw) (by decide) (by decide) (own_EW hw) CR0.1 all0) (g := (mkF m 41 #[.val (.ref a), .val (.int (Int32.ofNat b)), .val (.int (Int32.ofNat b)), .val (.int (Int32.ofNat cs.length)), .val (.int (0 : Int32))] [(.int (0 : Int32)), (.int (Int32.ofNat b)), (.ref t)])) rfl (by rw [hml]; rfl) (argsL := [(.ref t), (.int (Int32.ofNat b)), (.int (0 : Int32))]) (rest := []) (lenOf pd_11 rfl) rfl (by show 2 * 0 + _ ≤ _; exact Nat.le_of_eq rfl) (hb hby d25_41) (fun _ _ => ⟨rfl, e5, (by decide : 0 + 2 ≤ _), (by decide : 0 + 4 ≤ _)⟩)
  dsimp only [Pt.U, Pt.locs, Pt.cells, Pt.slots] at X6 l6 y6 z6 st6 hQ6 hSr6 hgr6 C6
  subst l6 y6 z6
  obtain ⟨X6, hS6, hZ6, hown6⟩ := rebS hS0 (by rw [e5]; exact hk0) X6 hSr6 hgr6 hZ hown
  obtain ⟨r6, tz6, kz6, rfl, N6q, K6, F6_0⟩ := hQ6
  have N6 := Fr.app N4 N6q
  have F6_0E := F6_0.1
  have CR7 : CHr Z EL s.vm h0 T6.vm T6.heap := CR0.trans (C6)
  refine Goes.tr st6 ?_
  show Goes _ _ _ _ (T6.setTop (mkF m 44 #[.val (.ref a), .val (.int (Int32.ofNat b)), .val (.int (Int32.ofNat b)), .val (.int (Int32.ofNat cs.length)), .val (.int (0 : Int32))] [(.ref r6)]))
  refine Goes.st (fun sT kT => XS.goto X6.here hx rfl (pc0 := 44) (pc' := 57) rfl (hb hby d25_44) (by decide) (by decide) kT) ?_
  show Goes _ _ _ _ (T6.setTop (mkF m 57 #[.val (.ref a), .val (.int (Int32.ofNat b)), .val (.int (Int32.ofNat b)), .val (.int (Int32.ofNat cs.length)), .val (.int (0 : Int32))] [(.ref r6)]))
  have kp8 : Keep h0 T6.heap [] := (Keep.refl h0 []).trans K6 all0
  obtain ⟨fs, hr, hrun, hended, hRW⟩ := X6.leaveW hS6 (Nat.le_refl _) (v := some (.ref r6)) (fun h => by rw [Bd.returns] at h; cases h)
  subst hQQ
  have hCR : CHr Z EL s.vm s.heap T6.vm T6.heap := by rw [hh]; exact CR7.trans (CHv.at X6 hZ6 (own_EW hw) CR7.1)
  refine ⟨_, _, retR X6 hx Bd.returns rfl rfl (hb hby d25_57) hr, hrun, hended, _, _, rfl, ?_, hCR, own_REmono hRW (by decide) (by decide)⟩
  show Q_subE Z a t kb cs G1 vF b h0 n0 _ T6.heap _
  exact ⟨r6, tz6, kz6, rfl, N6, kp8, F6_0⟩
 case neg =>
  refine Goes.st (fun sT kT => XS.ifYes X2.here hx rfl (pc0 := 12) (pc' := 22) rfl (hb hby d25_12) rfl ((if0 _ _).trans (feq cz3).2) (by decide) (by decide) kT) ?_
  show Goes _ _ _ _ (T2.setTop (mkF m 22 #[.val (.ref a), .val (.int (Int32.ofNat b)), .val (.int (Int32.ofNat b)), .val (.int (Int32.ofNat cs.length)), uS] []))
  refine Goes.st (fun sT kT => XS.iloadN X2.here hx rfl (hb hby d25_22) rfl kT) ?_
  show Goes _ _ _ _ (T2.setTop (mkF m 23 #[.val (.ref a), .val (.int (Int32.ofNat b)), .val (.int (Int32.ofNat b)), .val (.int (Int32.ofNat cs.length)), uS] [(.int (Int32.ofNat b))]))
  refine Goes.st (fun sT kT => XS.iloadN X2.here hx rfl (hb hby d25_23) rfl kT) ?_
  show Goes _ _ _ _ (T2.setTop (mkF m 24 #[.val (.ref a), .val (.int (Int32.ofNat b)), .val (.int (Int32.ofNat b)), .val (.int (Int32.ofNat cs.length)), uS] [(.int (Int32.ofNat b)), (.int (Int32.ofNat b))]))
  refine Goes.st (fun sT kT => XS.isub X2.here hx rfl (hb hby d25_24) rfl kT) ?_
  show Goes _ _ _ _ (T2.setTop (mkF m 25 #[.val (.ref a), .val (.int (Int32.ofNat b)), .val (.int (Int32.ofNat b)), .val (.int (Int32.ofNat cs.length)), uS] [(.int ((Int32.ofNat b) - (Int32.ofNat b)))]))
  rw [own_nself]
  show Goes _ _ _ _ (T2.setTop (mkF m 25 #[.val (.ref a), .val (.int (Int32.ofNat b)), .val (.int (Int32.ofNat b)), .val (.int (Int32.ofNat cs.length)), uS] [(.int (0 : Int32))]))
  refine Goes.st (fun sT kT => XS.istore X2.here hx rfl (hb hby d25_25) rfl (l' := #[.val (.ref a), .val (.int (Int32.ofNat b)), .val (.int (Int32.ofNat b)), .val (.int (Int32.ofNat cs.length)), .val (.int (0 : Int32))]) rfl kT) ?_
  show Goes _ _ _ _ (T2.setTop (mkF m 27 #[.val (.ref a), .val (.int (Int32.ofNat b)), .val (.int (Int32.ofNat b)), .val (.int (Int32.ofNat cs.length)), .val (.int (0 : Int32))] []))
  refine Goes.st (fun sT kT => XS.aloadN X2.here hx rfl (hb hby d25_27) rfl rfl kT) ?_
  show Goes _ _ _ _ (T2.setTop (mkF m 28 #[.val (.ref a), .val (.int (Int32.ofNat b)), .val (.int (Int32.ofNat b)), .val (.int (Int32.ofNat cs.length)), .val (.int (0 : Int32))] [(.ref a)]))
  obtain ⟨cq9, kq9, q9a, q9b, q9c⟩ := isOf hZ K2 P0.1
  obtain ⟨_, _, ⟨T9, L9, k9, n9⟩, -, X9, ⟨Lc9, hQ9, l9, y9, z9⟩, st9⟩ := X2.virtualBack hx (y := (⟨"java/lang/String", "isLatin1", "()Z"⟩ : MethodName)) (z := (⟨"java/lang/String", "isLatin1", "()Z"⟩ : MethodName)) hown (mvT hZ (hw44 hw)) (mvT hZ (hw45 hw)) (notFace_of_selects (args := #[]) (mvT hZ (hw47 hw))) (mvT hZ (hw47 hw)) (mvT hZ (hw46 hw)) (by decide) (backOf (W := 0) (rm_isL l Z a0 hw [] a G1 h0 n0 Z0 P0.2.2.1 P1 O2 P5) hZ (hw48 hw) (hw11 hw) (by decide) (by decide)) q9a q9c (g := (mkF m 28 #[.val (.ref a), .val (.int (Int32.ofNat b)), .val (.int (Int32.ofNat b)), .val (.int (Int32.ofNat cs.length)), .val (.int (0 : Int32))] [(.ref a)])) rfl (by rw [hml]; rfl) (Steps.refl _) (argsL := []) (rest := []) (lenOf pd_4 rfl) rfl (by show 2 * 0 + _ ≤ _; exact Nat.le_of_eq rfl) (hb hby d25_28) (fun _ _ => ⟨rfl, K2, (by decide : 0 + 0 ≤ _), (by decide : 0 + 0 ≤ _)⟩)
  dsimp only [Pt.U, Pt.locs, Pt.cells, Pt.slots] at X9 l9 y9 z9 st9 hQ9
  subst l9 y9 z9
  obtain ⟨rfl, N9q, K9⟩ := hQ9
  have N9 := Fr.app N2 N9q
  refine Goes.tr st9 ?_
  show Goes _ _ _ _ (T9.setTop (mkF m 31 #[.val (.ref a), .val (.int (Int32.ofNat b)), .val (.int (Int32.ofNat b)), .val (.int (Int32.ofNat cs.length)), .val (.int (0 : Int32))] [(.int (1 : Int32))]))
  refine Goes.st (fun sT kT => XS.ifNo X9.here hx rfl (hb hby d25_31) rfl ((if0 _ _).trans (feq (by decide : ¬ ((1 : Int32) = (0 : Int32)))).1) kT) ?_
  show Goes _ _ _ _ (T9.setTop (mkF m 34 #[.val (.ref a), .val (.int (Int32.ofNat b)), .val (.int (Int32.ofNat b)), .val (.int (Int32.ofNat cs.length)), .val (.int (0 : Int32))] []))
  refine Goes.st (fun sT kT => XS.aloadN X9.here hx rfl (hb hby d25_34) rfl rfl kT) ?_
  show Goes _ _ _ _ (T9.setTop (mkF m 35 #[.val (.ref a), .val (.int (Int32.ofNat b)), .val (.int (Int32.ofNat b)), .val (.int (Int32.ofNat cs.length)), .val (.int (0 : Int32))] [(.ref a)]))
  obtain ⟨T10, X10, e10, st10⟩ := getF X9 hx hZ hown (host := "") (Or.inl (hw28 hw)) Via.refl K9 P0.2.1 (g := (mkF m 35 #[.val (.ref a), .val (.int (Int32.ofNat b)), .val (.int (Int32.ofNat b)), .val (.int (Int32.ofNat cs.length)), .val (.int (0 : Int32))] [(.ref a)])) rfl rfl (hb hby d25_35)
  refine Goes.st st10 ?_
  show Goes _ _ _ _ (T10.setTop (mkF m 38 #[.val (.ref a), .val (.int (Int32.ofNat b)), .val (.int (Int32.ofNat b)), .val (.int (Int32.ofNat cs.length)), .val (.int (0 : Int32))] [(.ref t)]))
  refine Goes.st (fun sT kT => XS.iloadN X10.here hx rfl (hb hby d25_38) rfl kT) ?_
  show Goes _ _ _ _ (T10.setTop (mkF m 39 #[.val (.ref a), .val (.int (Int32.ofNat b)), .val (.int (Int32.ofNat b)), .val (.int (Int32.ofNat cs.length)), .val (.int (0 : Int32))] [(.int (Int32.ofNat b)), (.ref t)]))
  refine Goes.st (fun sT kT => XS.iload X10.here hx rfl (hb hby d25_39) rfl kT) ?_
  show Goes _ _ _ _ (T10.setTop (mkF m 41 #[.val (.ref a), .val (.int (Int32.ofNat b)), .val (.int (Int32.ofNat b)), .val (.int (Int32.ofNat cs.length)), .val (.int (0 : Int32))] [(.int (0 : Int32)), (.int (Int32.ofNat b)), (.ref t)]))
  obtain ⟨_, _, ⟨T11, L11, k11, n11⟩, -, X11, hSr11, hgr11, ⟨Lc11, hQ11, l11, y11, z11, C11⟩, st11⟩ := callSS X10 hx (y := (⟨"java/lang/StringLatin1", "newString", "([BII)Ljava/lang/String;"⟩ : MethodName)) hown (mvT hZ (hw130 hw)) (mvT hZ (hw131 hw)) (mvT hZ (hw62 hw)) (mvT hZ (hw132 hw)) (by decide) (own_backW (W := 0) (xs := []) (rm_nsE l Z a0 hw [] t (Int32.ofNat b) h0 n0 Z0 ) hZ (hw132 hw) (hw62 hw) (by decide) (by decide) (own_EW hw) CR0.1 all0) (g := (mkF m 41 #[.val (.ref a), .val (.int (Int32.ofNat b)), .val (.int (Int32.ofNat b)), .val (.int (Int32.ofNat cs.length)), .val (.int (0 : Int32))] [(.int (0 : Int32)), (.int (Int32.ofNat b)), (.ref t)])) rfl (by rw [hml]; rfl) (argsL := [(.ref t), (.int (Int32.ofNat b)), (.int (0 : Int32))]) (rest := []) (lenOf pd_11 rfl) rfl (by show 2 * 0 + _ ≤ _; exact Nat.le_of_eq rfl) (hb hby d25_41) (fun _ _ => ⟨rfl, e10, (by decide : 0 + 2 ≤ _), (by decide : 0 + 4 ≤ _)⟩)
  dsimp only [Pt.U, Pt.locs, Pt.cells, Pt.slots] at X11 l11 y11 z11 st11 hQ11 hSr11 hgr11 C11
  subst l11 y11 z11
  obtain ⟨X11, hS11, hZ11, hown11⟩ := rebS hS0 (by rw [e10]; exact hk0) X11 hSr11 hgr11 hZ hown
  obtain ⟨r11, tz11, kz11, rfl, N11q, K11, F11_0⟩ := hQ11
  have N11 := Fr.app N9 N11q
  have F11_0E := F11_0.1
  have CR12 : CHr Z EL s.vm h0 T11.vm T11.heap := CR0.trans (C11)
  refine Goes.tr st11 ?_
  show Goes _ _ _ _ (T11.setTop (mkF m 44 #[.val (.ref a), .val (.int (Int32.ofNat b)), .val (.int (Int32.ofNat b)), .val (.int (Int32.ofNat cs.length)), .val (.int (0 : Int32))] [(.ref r11)]))
  refine Goes.st (fun sT kT => XS.goto X11.here hx rfl (pc0 := 44) (pc' := 57) rfl (hb hby d25_44) (by decide) (by decide) kT) ?_
  show Goes _ _ _ _ (T11.setTop (mkF m 57 #[.val (.ref a), .val (.int (Int32.ofNat b)), .val (.int (Int32.ofNat b)), .val (.int (Int32.ofNat cs.length)), .val (.int (0 : Int32))] [(.ref r11)]))
  have kp13 : Keep h0 T11.heap [] := (Keep.refl h0 []).trans K11 all0
  obtain ⟨fs, hr, hrun, hended, hRW⟩ := X11.leaveW hS11 (Nat.le_refl _) (v := some (.ref r11)) (fun h => by rw [Bd.returns] at h; cases h)
  subst hQQ
  have hCR : CHr Z EL s.vm s.heap T11.vm T11.heap := by rw [hh]; exact CR12.trans (CHv.at X11 hZ11 (own_EW hw) CR12.1)
  refine ⟨_, _, retR X11 hx Bd.returns rfl rfl (hb hby d25_57) hr, hrun, hended, _, _, rfl, ?_, hCR, own_REmono hRW (by decide) (by decide)⟩
  show Q_subE Z a t kb cs G1 vF b h0 n0 _ T11.heap _
  exact ⟨r11, tz11, kz11, rfl, N11, kp13, F11_0⟩
theorem ef_sub1P (m : MethodId) (a : Addr) (t : Addr) (kb : ClassId) (cs : List Int32) (G1 : Int32) (vF : Value) (b : Nat) : entryFrame m #[(.ref a), (.int (Int32.ofNat b))] 2 = (mkF m 0 #[.val (.ref a), .val (.int (Int32.ofNat b))] []) := by first | (simp [entryFrame, mkF, argsToLocals, Value.category]; done) | rfl
def Q_sub1P (Z : State) (a : Addr) (t : Addr) (kb : ClassId) (cs : List Int32) (G1 : Int32) (vF : Value) (b : Nat) (h0 : Heap) (n0 : Nat) (v : Option Value) (h : Heap) (L : List Loc) : Prop := ∃ (r : Addr) (tz : Addr) (kz : ClassId), v = some (.ref r) ∧ Fr n0 L ∧ Keep h0 h [] ∧ Str Z h r tz kz ((cs.drop b).take (cs.length - b)) ∧ h0.size ≤ r ∧ h0.size ≤ tz
set_option maxRecDepth 65536 in
set_option maxHeartbeats 40000000 in
theorem rm_sub1P (l : Launch) (Z : State) (a0 : Array Value) (hw : ∀ d ∈ tables_1, d.before a0 Z = true) (ws : List Jvm.Cond) (a : Addr) (t : Addr) (kb : ClassId) (cs : List Int32) (G1 : Int32) (vF : Value) (b : Nat) (h0 : Heap) (n0 : Nat) (Z0 : n0 ≤ h0.size) (P0 : Str Z h0 a t kb cs) (P1 : Old Z n0 h0) (O2 : Sta Z Z.heap "java/lang/String" "COMPACT_STRINGS" "Z" (.int G1)) (P5 : ¬ (G1 = (0 : Int32))) (OF : Sta Z Z.heap "jdk/internal/util/Preconditions" "SIOOBE_FORMATTER" "Ljava/util/function/BiFunction;" vF) (rF : vF.isRef = true) (h0b : 0 < b) (he : b < cs.length) (h4 : cs.length ≤ 4) :
    MetFree l (⟨"java/lang/String", "substring", "(I)Ljava/lang/String;"⟩ : MethodName) (head1 (Jvm.Cond.code (⟨"java/lang/String", "substring", "(I)Ljava/lang/String;"⟩ : MethodName) jdk_42_method_91_code 2 (some (.object "java/lang/String")) :: ws) ({ frames := 5, cells := 2, slots := 8, locals := 130 } : Room)) (fun aR U => aR = #[(.ref a), (.int (Int32.ofNat b))] ∧ Z.Warmed39 U.vm ∧ U.heap = h0) (fun _ _ _ _ _ => True) (fun _ U o U' => ∃ v L, o = .returned v ∧ Q_sub1P Z a t kb cs G1 vF b h0 n0 v U'.heap L ∧ FrameEnd U o U' L ({ frames := 5, cells := 2, slots := 8, locals := 130 } : Room).cells ({ frames := 5, cells := 2, slots := 8, locals := 130 } : Room).slots) := by
 refine MetFree.of_bodySF (plainFor_of_name pn_0) hisR ?_
 intro p e s m args below meth c s₁ Bd hml0 hP hK
 obtain ⟨rfl, hZ, hh⟩ := hP
 have hx := Bd.exec
 have hby := Bd.bytes
 have hml : c.maxLocals = 2 := hml0
 have hown : s.vm.findClass "java/lang/String" = some m.cls := findClass_of_methodNamed Bd.named
 have hnm := (name_of_methodNamed Bd.named Bd.method).1
 have X0 : Stand p l e ({ frames := 5, cells := 2, slots := 8, locals := 130 } : Room) s m #[(.ref a), (.int (Int32.ofNat b))] below meth c s₁ [] 0 0 := Stand.of_body Bd
 have e0 : s₁.heap = h0 := by rw [← hh, Bd.state]; rfl
 have N0 := Fr.nil n0
 show Goes p.tables e below _ _
 rw [ef_sub1P m a t kb cs G1 vF b]
 refine Goes.named ?_
 intro QQ hQQ
 refine Goes.st (fun sT kT => XS.aloadN X0.here hx rfl (hb hby d29_0) rfl rfl kT) ?_
 show Goes _ _ _ _ (s₁.setTop (mkF m 1 #[.val (.ref a), .val (.int (Int32.ofNat b))] [(.ref a)]))
 refine Goes.st (fun sT kT => XS.iloadN X0.here hx rfl (hb hby d29_1) rfl kT) ?_
 show Goes _ _ _ _ (s₁.setTop (mkF m 2 #[.val (.ref a), .val (.int (Int32.ofNat b))] [(.int (Int32.ofNat b)), (.ref a)]))
 refine Goes.st (fun sT kT => XS.aloadN X0.here hx rfl (hb hby d29_2) rfl rfl kT) ?_
 show Goes _ _ _ _ (s₁.setTop (mkF m 3 #[.val (.ref a), .val (.int (Int32.ofNat b))] [(.ref a), (.int (Int32.ofNat b)), (.ref a)]))
 obtain ⟨cq1, kq1, q1a, q1b, q1c⟩ := isOf hZ e0 P0.1
 obtain ⟨_, _, ⟨T1, L1, k1, n1⟩, -, X1, ⟨Lc1, hQ1, l1, y1, z1⟩, st1⟩ := X0.virtualBack hx (y := (⟨"java/lang/String", "length", "()I"⟩ : MethodName)) (z := (⟨"java/lang/String", "length", "()I"⟩ : MethodName)) hown (mvT hZ (hw50 hw)) (mvT hZ (hw51 hw)) (notFace_of_selects (args := #[]) (mvT hZ (hw53 hw))) (mvT hZ (hw53 hw)) (mvT hZ (hw52 hw)) (by decide) (StrChars.Road.lenW (W := 2) hZ (own_hln hw) (kI := 4) (hw10 hw) P0.1 P0.2.1 P0.2.2.1 P0.2.2.2.1 (own_cod P0) (own_up P0.2.2.2.2.1) (O2.ext P1.2) P5 P0.2.2.2.2.2 (by decide) (by decide)) q1a q1c (g := (mkF m 3 #[.val (.ref a), .val (.int (Int32.ofNat b))] [(.ref a), (.int (Int32.ofNat b)), (.ref a)])) rfl (by rw [hml]; rfl) (Steps.refl _) (argsL := []) (rest := [(.int (Int32.ofNat b)), (.ref a)]) (lenOf pd_5 rfl) rfl (by show 2 * 0 + _ ≤ _; exact Nat.le_of_eq rfl) (hb hby d29_3) (fun _ _ => ⟨rfl, e0, (by decide : 0 + 0 ≤ _), (by decide : 0 + 0 ≤ _)⟩)
 dsimp only [Pt.U, Pt.locs, Pt.cells, Pt.slots] at X1 l1 y1 z1 st1 hQ1
 subst l1 y1 z1
 obtain ⟨rfl, rfl, K1⟩ := hQ1
 have N1 := Fr.app N0 (Fr.nil n0)
 refine Goes.tr st1 ?_
 show Goes _ _ _ _ (T1.setTop (mkF m 6 #[.val (.ref a), .val (.int (Int32.ofNat b))] [(.int (Int32.ofNat cs.length)), (.int (Int32.ofNat b)), (.ref a)]))
 obtain ⟨cq2, kq2, q2a, q2b, q2c⟩ := isOf hZ K1 P0.1
 obtain ⟨_, _, ⟨T2, L2, k2, n2⟩, -, X2, ⟨Lc2, hQ2, l2, y2, z2⟩, st2⟩ := X1.virtualBack hx (y := (⟨"java/lang/String", "substring", "(II)Ljava/lang/String;"⟩ : MethodName)) (z := (⟨"java/lang/String", "substring", "(II)Ljava/lang/String;"⟩ : MethodName)) hown (mvT hZ (hw139 hw)) (mvT hZ (hw118 hw)) (notFace_of_selects (args := #[]) (mvT hZ (hw120 hw))) (mvT hZ (hw120 hw)) (mvT hZ (hw119 hw)) (by decide) (backOf (W := 0) (rm_subP l Z a0 hw [] a t kb cs G1 vF b (cs.length) h0 n0 Z0 P0 P1 O2 P5 OF rF he (Nat.le_refl _) h4 (by omega)) hZ (hw121 hw) (hw11 hw) (by decide) (by decide)) q2a q2c (g := (mkF m 6 #[.val (.ref a), .val (.int (Int32.ofNat b))] [(.int (Int32.ofNat cs.length)), (.int (Int32.ofNat b)), (.ref a)])) rfl (by rw [hml]; rfl) (Steps.refl _) (argsL := [(.int (Int32.ofNat b)), (.int (Int32.ofNat cs.length))]) (rest := []) (lenOf pd_12 rfl) rfl (by show 2 * 0 + _ ≤ _; exact Nat.le_of_eq rfl) (hb hby d29_6) (fun _ _ => ⟨rfl, K1, (by decide : 0 + 2 ≤ _), (by decide : 0 + 8 ≤ _)⟩)
 dsimp only [Pt.U, Pt.locs, Pt.cells, Pt.slots] at X2 l2 y2 z2 st2 hQ2
 subst l2 y2 z2
 obtain ⟨r2, tz2, kz2, rfl, N2q, K2, F2_0, lo2_0, lo2_1⟩ := hQ2
 have N2 := Fr.app N1 N2q
 have F2_0E := F2_0.1
 refine Goes.tr st2 ?_
 show Goes _ _ _ _ (T2.setTop (mkF m 9 #[.val (.ref a), .val (.int (Int32.ofNat b))] [(.ref r2)]))
 have kp3 : Keep h0 T2.heap [] := (Keep.refl h0 []).trans K2 all0
 obtain ⟨fs, hr, hrun, hended, hW, hsame⟩ := X2.leave (v := some (.ref r2)) (fun h => by rw [Bd.returns] at h; cases h)
 subst hQQ
 refine ⟨_, _, retR X2 hx Bd.returns rfl rfl (hb hby d29_9) hr, hrun, hended, _, _, rfl, ?_, ⟨_, rfl⟩, hW, hsame.mono (by decide) (by decide)⟩
 show Q_sub1P Z a t kb cs G1 vF b h0 n0 _ T2.heap _
 exact ⟨r2, tz2, kz2, rfl, N2, kp3, F2_0, lo2_0, lo2_1⟩
theorem ef_sub1E (m : MethodId) (a : Addr) (t : Addr) (kb : ClassId) (cs : List Int32) (G1 : Int32) (vF : Value) : entryFrame m #[(.ref a), (.int (Int32.ofNat cs.length))] 2 = (mkF m 0 #[.val (.ref a), .val (.int (Int32.ofNat cs.length))] []) := by first | (simp [entryFrame, mkF, argsToLocals, Value.category]; done) | rfl
def Q_sub1E (Z : State) (a : Addr) (t : Addr) (kb : ClassId) (cs : List Int32) (G1 : Int32) (vF : Value) (h0 : Heap) (n0 : Nat) (v : Option Value) (h : Heap) (L : List Loc) : Prop := ∃ (r : Addr) (tz : Addr) (kz : ClassId), v = some (.ref r) ∧ Fr n0 L ∧ Keep h0 h [] ∧ Str Z h r tz kz []
set_option maxRecDepth 65536 in
set_option maxHeartbeats 40000000 in
theorem rm_sub1E (l : Launch) (Z : State) (a0 : Array Value) (hw : ∀ d ∈ tables_1, d.before a0 Z = true) (ws : List Jvm.Cond) (a : Addr) (t : Addr) (kb : ClassId) (cs : List Int32) (G1 : Int32) (vF : Value) (h0 : Heap) (n0 : Nat) (Z0 : n0 ≤ h0.size) (P0 : Str Z h0 a t kb cs) (P1 : Old Z n0 h0) (O2 : Sta Z Z.heap "java/lang/String" "COMPACT_STRINGS" "Z" (.int G1)) (P5 : ¬ (G1 = (0 : Int32))) (OF : Sta Z Z.heap "jdk/internal/util/Preconditions" "SIOOBE_FORMATTER" "Ljava/util/function/BiFunction;" vF) (rF : vF.isRef = true) (h0b : 0 < cs.length) (h4 : cs.length ≤ 4) :
    MetFree l (⟨"java/lang/String", "substring", "(I)Ljava/lang/String;"⟩ : MethodName) (head1 (Jvm.Cond.code (⟨"java/lang/String", "substring", "(I)Ljava/lang/String;"⟩ : MethodName) jdk_42_method_91_code 2 (some (.object "java/lang/String")) :: ws) ({ frames := 4, cells := 2, slots := 4, locals := 60 } : Room)) (fun aR U => aR = #[(.ref a), (.int (Int32.ofNat cs.length))] ∧ Z.Warmed39 U.vm ∧ U.heap = h0 ∧ CHv Z EL U.vm h0 ∧ ∀ x ∈ ([] : List Addr), Safe Z EL U.vm h0 x) (fun _ _ _ _ _ => True) (fun _ U o U' => ∃ v L, o = .returned v ∧ Q_sub1E Z a t kb cs G1 vF h0 n0 v U'.heap L ∧ CHr Z EL U.vm U.heap U'.vm U'.heap ∧ ReturnedEndW U o U' L ({ frames := 4, cells := 2, slots := 4, locals := 60 } : Room).cells ({ frames := 4, cells := 2, slots := 4, locals := 60 } : Room).slots) := by
 refine MetFree.of_bodySF (plainFor_of_name pn_0) hisR ?_
 intro p e s m args below meth c s₁ Bd hml0 hP hK
 obtain ⟨rfl, hZ, hh, hCH, hSF⟩ := hP
 have hx := Bd.exec
 have hby := Bd.bytes
 have hml : c.maxLocals = 2 := hml0
 have hown : s.vm.findClass "java/lang/String" = some m.cls := findClass_of_methodNamed Bd.named
 have hnm := (name_of_methodNamed Bd.named Bd.method).1
 have X0 : Stand p l e ({ frames := 4, cells := 2, slots := 4, locals := 60 } : Room) (s.setVm s.vm) m #[(.ref a), (.int (Int32.ofNat cs.length))] below meth c s₁ [] 0 0 := Stand.of_body Bd
 have e0 : s₁.heap = h0 := by rw [← hh, Bd.state]; rfl
 have N0 := Fr.nil n0
 show Goes p.tables e below _ _
 rw [ef_sub1E m a t kb cs G1 vF]
 refine Goes.named ?_
 intro QQ hQQ
 have hS0 : s.Since s.vm 0 := (State.WarmedH.refl s).since 0
 have hk0 : 0 ≤ h0.size := Nat.zero_le _
 have CR0 : CHr Z EL s.vm h0 s.vm h0 := CHr.refl hCH
 refine Goes.st (fun sT kT => XS.aloadN X0.here hx rfl (hb hby d29_0) rfl rfl kT) ?_
 show Goes _ _ _ _ (s₁.setTop (mkF m 1 #[.val (.ref a), .val (.int (Int32.ofNat cs.length))] [(.ref a)]))
 refine Goes.st (fun sT kT => XS.iloadN X0.here hx rfl (hb hby d29_1) rfl kT) ?_
 show Goes _ _ _ _ (s₁.setTop (mkF m 2 #[.val (.ref a), .val (.int (Int32.ofNat cs.length))] [(.int (Int32.ofNat cs.length)), (.ref a)]))
 refine Goes.st (fun sT kT => XS.aloadN X0.here hx rfl (hb hby d29_2) rfl rfl kT) ?_
 show Goes _ _ _ _ (s₁.setTop (mkF m 3 #[.val (.ref a), .val (.int (Int32.ofNat cs.length))] [(.ref a), (.int (Int32.ofNat cs.length)), (.ref a)]))
 obtain ⟨cq1, kq1, q1a, q1b, q1c⟩ := isOf hZ e0 P0.1
 obtain ⟨_, _, ⟨T1, L1, k1, n1⟩, -, X1, ⟨Lc1, hQ1, l1, y1, z1⟩, st1⟩ := X0.virtualBack hx (y := (⟨"java/lang/String", "length", "()I"⟩ : MethodName)) (z := (⟨"java/lang/String", "length", "()I"⟩ : MethodName)) hown (mvT hZ (hw50 hw)) (mvT hZ (hw51 hw)) (notFace_of_selects (args := #[]) (mvT hZ (hw53 hw))) (mvT hZ (hw53 hw)) (mvT hZ (hw52 hw)) (by decide) (StrChars.Road.lenW (W := 2) hZ (own_hln hw) (kI := 4) (hw10 hw) P0.1 P0.2.1 P0.2.2.1 P0.2.2.2.1 (own_cod P0) (own_up P0.2.2.2.2.1) (O2.ext P1.2) P5 P0.2.2.2.2.2 (by decide) (by decide)) q1a q1c (g := (mkF m 3 #[.val (.ref a), .val (.int (Int32.ofNat cs.length))] [(.ref a), (.int (Int32.ofNat cs.length)), (.ref a)])) rfl (by rw [hml]; rfl) (Steps.refl _) (argsL := []) (rest := [(.int (Int32.ofNat cs.length)), (.ref a)]) (lenOf pd_5 rfl) rfl (by show 2 * 0 + _ ≤ _; exact Nat.le_of_eq rfl) (hb hby d29_3) (fun _ _ => ⟨rfl, e0, (by decide : 0 + 0 ≤ _), (by decide : 0 + 0 ≤ _)⟩)
 dsimp only [Pt.U, Pt.locs, Pt.cells, Pt.slots] at X1 l1 y1 z1 st1 hQ1
 subst l1 y1 z1
 obtain ⟨rfl, rfl, K1⟩ := hQ1
 have N1 := Fr.app N0 (Fr.nil n0)
 refine Goes.tr st1 ?_
 show Goes _ _ _ _ (T1.setTop (mkF m 6 #[.val (.ref a), .val (.int (Int32.ofNat cs.length))] [(.int (Int32.ofNat cs.length)), (.int (Int32.ofNat cs.length)), (.ref a)]))
 obtain ⟨cq2, kq2, q2a, q2b, q2c⟩ := isOf hZ K1 P0.1
 obtain ⟨_, _, ⟨T2, L2, k2, n2⟩, -, X2, hSr2, hgr2, ⟨Lc2, hQ2, l2, y2, z2, C2⟩, st2⟩ := X1.virtualBackS hx (y := (⟨"java/lang/String", "substring", "(II)Ljava/lang/String;"⟩ : MethodName)) (z := (⟨"java/lang/String", "substring", "(II)Ljava/lang/String;"⟩ : MethodName)) hown (mvT hZ (hw139 hw)) (mvT hZ (hw118 hw)) (notFace_of_selects (args := #[]) (mvT hZ (hw120 hw))) (mvT hZ (hw120 hw)) (mvT hZ (hw119 hw)) (by decide) (own_backW (W := 0) (xs := []) (rm_subE l Z a0 hw [] a t kb cs G1 vF (cs.length) h0 n0 Z0 P0 P1 O2 P5 OF rF (Nat.le_refl _) h4 (by omega)) hZ (hw121 hw) (hw11 hw) (by decide) (by decide) (own_EW hw) CR0.1 all0) q2a q2c (g := (mkF m 6 #[.val (.ref a), .val (.int (Int32.ofNat cs.length))] [(.int (Int32.ofNat cs.length)), (.int (Int32.ofNat cs.length)), (.ref a)])) rfl (by rw [hml]; rfl) (Steps.refl _) (argsL := [(.int (Int32.ofNat cs.length)), (.int (Int32.ofNat cs.length))]) (rest := []) (lenOf pd_12 rfl) rfl (by show 2 * 0 + _ ≤ _; exact Nat.le_of_eq rfl) (hb hby d29_6) (fun _ _ => ⟨rfl, K1, (by decide : 0 + 2 ≤ _), (by decide : 0 + 4 ≤ _)⟩)
 dsimp only [Pt.U, Pt.locs, Pt.cells, Pt.slots] at X2 l2 y2 z2 st2 hQ2 hSr2 hgr2 C2
 subst l2 y2 z2
 obtain ⟨X2, hS2, hZ2, hown2⟩ := rebS hS0 (by rw [K1]; exact hk0) X2 hSr2 hgr2 hZ hown
 obtain ⟨r2, tz2, kz2, rfl, N2q, K2, F2_0⟩ := hQ2
 have N2 := Fr.app N1 N2q
 have F2_0E := F2_0.1
 have CR3 : CHr Z EL s.vm h0 T2.vm T2.heap := CR0.trans (C2)
 refine Goes.tr st2 ?_
 show Goes _ _ _ _ (T2.setTop (mkF m 9 #[.val (.ref a), .val (.int (Int32.ofNat cs.length))] [(.ref r2)]))
 have kp4 : Keep h0 T2.heap [] := (Keep.refl h0 []).trans K2 all0
 obtain ⟨fs, hr, hrun, hended, hRW⟩ := X2.leaveW hS2 (Nat.le_refl _) (v := some (.ref r2)) (fun h => by rw [Bd.returns] at h; cases h)
 subst hQQ
 have hCR : CHr Z EL s.vm s.heap T2.vm T2.heap := by rw [hh]; exact CR3.trans (CHv.at X2 hZ2 (own_EW hw) CR3.1)
 refine ⟨_, _, retR X2 hx Bd.returns rfl rfl (hb hby d29_9) hr, hrun, hended, _, _, rfl, ?_, hCR, own_REmono hRW (by decide) (by decide)⟩
 show Q_sub1E Z a t kb cs G1 vF h0 n0 _ T2.heap _
 exact ⟨r2, tz2, kz2, rfl, N2, kp4, F2_0⟩
theorem ef_rec (m : MethodId) (a : Addr) : entryFrame m #[(.ref a)] 1 = (mkF m 0 #[.val (.ref a)] []) := by first | (simp [entryFrame, mkF, argsToLocals, Value.category]; done) | rfl
def Q_rec (Z : State) (a : Addr) (h0 : Heap) (n0 : Nat) (v : Option Value) (h : Heap) (L : List Loc) : Prop := v = none ∧ Fr n0 L ∧ h = h0
set_option maxRecDepth 65536 in
set_option maxHeartbeats 40000000 in
theorem rm_rec (l : Launch) (Z : State) (a0 : Array Value) (hw : ∀ d ∈ tables_1, d.before a0 Z = true) (ws : List Jvm.Cond) (a : Addr) (h0 : Heap) (n0 : Nat) (Z0 : n0 ≤ h0.size) :
    MetFree l (⟨"java/lang/Record", "<init>", "()V"⟩ : MethodName) (head1 (Jvm.Cond.code (⟨"java/lang/Record", "<init>", "()V"⟩ : MethodName) jdk_30_method_1_code 1 none :: ws) ({ frames := 1, cells := 0, slots := 0, locals := 12 } : Room)) (fun aR U => aR = #[(.ref a)] ∧ Z.Warmed39 U.vm ∧ U.heap = h0) (fun _ _ _ _ _ => True) (fun _ U o U' => ∃ v L, o = .returned v ∧ Q_rec Z a h0 n0 v U'.heap L ∧ FrameEnd U o U' L ({ frames := 1, cells := 0, slots := 0, locals := 12 } : Room).cells ({ frames := 1, cells := 0, slots := 0, locals := 12 } : Room).slots) := by
 refine MetFree.of_bodySF (plainFor_of_name pn_6) hisR ?_
 intro p e s m args below meth c s₁ Bd hml0 hP hK
 obtain ⟨rfl, hZ, hh⟩ := hP
 have hx := Bd.exec
 have hby := Bd.bytes
 have hml : c.maxLocals = 1 := hml0
 have hown : s.vm.findClass "java/lang/Record" = some m.cls := findClass_of_methodNamed Bd.named
 have hnm := (name_of_methodNamed Bd.named Bd.method).1
 have X0 : Stand p l e ({ frames := 1, cells := 0, slots := 0, locals := 12 } : Room) s m #[(.ref a)] below meth c s₁ [] 0 0 := Stand.of_body Bd
 have e0 : s₁.heap = h0 := by rw [← hh, Bd.state]; rfl
 have N0 := Fr.nil n0
 show Goes p.tables e below _ _
 rw [ef_rec m a]
 refine Goes.named ?_
 intro QQ hQQ
 refine Goes.st (fun sT kT => XS.aloadN X0.here hx rfl (hb hby d17_0) rfl rfl kT) ?_
 show Goes _ _ _ _ (s₁.setTop (mkF m 1 #[.val (.ref a)] [(.ref a)]))
 obtain ⟨T1, X1, e1, st1⟩ := initO X0 hx hZ hown (hw84 hw) (hw20 hw) (hw21 hw) e0 (g := (mkF m 1 #[.val (.ref a)] [(.ref a)])) rfl (by rw [hml]; rfl) rfl (hb hby d17_1) (by decide) (W := 0) (by show 2 * 0 + _ ≤ _; exact Nat.le_of_eq rfl) (by decide)
 refine Goes.st st1 ?_
 show Goes _ _ _ _ (T1.setTop (mkF m 4 #[.val (.ref a)] []))
 obtain ⟨fs, hr, hrun, hended, hW, hsame⟩ := X1.leave (v := none) (fun _ => rfl)
 subst hQQ
 refine ⟨_, _, X1.returnOut hx Bd.returns (hb hby d17_4) hr, hrun, hended, _, _, rfl, ?_, ⟨_, rfl⟩, hW, hsame.mono (by decide) (by decide)⟩
 show Q_rec Z a h0 n0 _ T1.heap _
 rw [e1]
 exact ⟨rfl, N0, rfl⟩
theorem ef_pinit (m : MethodId) (a : Addr) (b : Addr) (u2 : Value) (r2 : u2.isRef = true) : entryFrame m #[(.ref a), (.ref b), u2] 3 = (mkF m 0 #[.val (.ref a), .val (.ref b), .val u2] []) := by rcases ref_cases r2 with rfl | ⟨_, rfl⟩ <;> (simp [entryFrame, mkF, argsToLocals, Value.category]; done)
def Q_pinit (Z : State) (a : Addr) (b : Addr) (u2 : Value) (h0 : Heap) (n0 : Nat) (v : Option Value) (h : Heap) (L : List Loc) : Prop := v = none ∧ Fr n0 L ∧ Keep h0 h [a] ∧ Exa Z h a "com/example/bolter/bolter/service/ParameterName" ∧ Fld Z h a "com/example/bolter/bolter/service/ParameterName" "code" "Ljava/lang/String;" (.ref b) ∧ Fld Z h a "com/example/bolter/bolter/service/ParameterName" "modifier" "Ljava/lang/String;" u2
set_option maxRecDepth 65536 in
set_option maxHeartbeats 40000000 in
theorem rm_pinit (l : Launch) (Z : State) (a0 : Array Value) (hw : ∀ d ∈ tables_1, d.before a0 Z = true) (ws : List Jvm.Cond) (a : Addr) (b : Addr) (u2 : Value) (h0 : Heap) (n0 : Nat) (Z0 : n0 ≤ h0.size) (P0 : Exa Z h0 a "com/example/bolter/bolter/service/ParameterName") (P1 : Fld Z h0 a "com/example/bolter/bolter/service/ParameterName" "code" "Ljava/lang/String;" .null) (P2 : Fld Z h0 a "com/example/bolter/bolter/service/ParameterName" "modifier" "Ljava/lang/String;" .null) (g_a : n0 ≤ a) (r2 : u2.isRef = true) :
    MetFree l (⟨"com/example/bolter/bolter/service/ParameterName", "<init>", "(Ljava/lang/String;Ljava/lang/String;)V"⟩ : MethodName) (head1 (Jvm.Cond.code (⟨"com/example/bolter/bolter/service/ParameterName", "<init>", "(Ljava/lang/String;Ljava/lang/String;)V"⟩ : MethodName) prog_18_method_1_code 3 none :: ws) ({ frames := 2, cells := 0, slots := 0, locals := 24 } : Room)) (fun aR U => aR = #[(.ref a), (.ref b), u2] ∧ Z.Warmed39 U.vm ∧ U.heap = h0) (fun _ _ _ _ _ => True) (fun _ U o U' => ∃ v L, o = .returned v ∧ Q_pinit Z a b u2 h0 n0 v U'.heap L ∧ FrameEnd U o U' L ({ frames := 2, cells := 0, slots := 0, locals := 24 } : Room).cells ({ frames := 2, cells := 0, slots := 0, locals := 24 } : Room).slots) := by
 refine MetFree.of_bodySF (plainFor_of_name pn_7) hisR ?_
 intro p e s m args below meth c s₁ Bd hml0 hP hK
 obtain ⟨rfl, hZ, hh⟩ := hP
 have hx := Bd.exec
 have hby := Bd.bytes
 have hml : c.maxLocals = 3 := hml0
 have hown : s.vm.findClass "com/example/bolter/bolter/service/ParameterName" = some m.cls := findClass_of_methodNamed Bd.named
 have hnm := (name_of_methodNamed Bd.named Bd.method).1
 have X0 : Stand p l e ({ frames := 2, cells := 0, slots := 0, locals := 24 } : Room) s m #[(.ref a), (.ref b), u2] below meth c s₁ [] 0 0 := Stand.of_body Bd
 have e0 : s₁.heap = h0 := by rw [← hh, Bd.state]; rfl
 have N0 := Fr.nil n0
 show Goes p.tables e below _ _
 rw [ef_pinit m a b u2 r2]
 refine Goes.named ?_
 intro QQ hQQ
 refine Goes.st (fun sT kT => XS.aloadN X0.here hx rfl (hb hby d16_0) rfl rfl kT) ?_
 show Goes _ _ _ _ (s₁.setTop (mkF m 1 #[.val (.ref a), .val (.ref b), .val u2] [(.ref a)]))
 obtain ⟨_, _, ⟨T1, L1, k1, n1⟩, -, X1, ⟨Lc1, hQ1, l1, y1, z1⟩, st1⟩ := X0.specialBack hx (y := (⟨"java/lang/Record", "<init>", "()V"⟩ : MethodName)) rfl hown (mvT hZ (hw79 hw)) (mvT hZ (hw80 hw)) (mvT hZ (hw83 hw)) (by decide) (backOf (W := 0) (rm_rec l Z a0 hw [] a h0 n0 Z0 ) hZ (hw83 hw) (hw82 hw) (by decide) (by decide)) (g := (mkF m 1 #[.val (.ref a), .val (.ref b), .val u2] [(.ref a)])) rfl (by rw [hml]; rfl) (Steps.refl _) (a := a) (argsL := []) (rest := []) (lenOf pd_13 rfl) rfl (by show 2 * 0 + _ ≤ _; exact Nat.le_of_eq rfl) (hb hby d16_1) (fun _ _ => ⟨rfl, e0, (by decide : 0 + 0 ≤ _), (by decide : 0 + 0 ≤ _)⟩)
 dsimp only [Pt.U, Pt.locs, Pt.cells, Pt.slots] at X1 l1 y1 z1 st1 hQ1
 subst l1 y1 z1
 obtain ⟨rfl, N1q, K1⟩ := hQ1
 have N1 := Fr.app N0 N1q
 refine Goes.tr st1 ?_
 show Goes _ _ _ _ (T1.setTop (mkF m 4 #[.val (.ref a), .val (.ref b), .val u2] []))
 refine Goes.st (fun sT kT => XS.aloadN X1.here hx rfl (hb hby d16_4) rfl rfl kT) ?_
 show Goes _ _ _ _ (T1.setTop (mkF m 5 #[.val (.ref a), .val (.ref b), .val u2] [(.ref a)]))
 refine Goes.st (fun sT kT => XS.aloadN X1.here hx rfl (hb hby d16_5) rfl rfl kT) ?_
 show Goes _ _ _ _ (T1.setTop (mkF m 6 #[.val (.ref a), .val (.ref b), .val u2] [(.ref b), (.ref a)]))
 obtain ⟨T2, h2, X2, e2, W2, st2⟩ := putF X1 hx hZ hown (host := "") (Or.inl (hw85 hw)) Via.refl K1 P1 P0 (Or.inr ⟨(hw86 hw), rfl, hnm⟩) (hw75 hw) (ty := (.object "java/lang/String")) (by decide) rfl rfl (g := (mkF m 6 #[.val (.ref a), .val (.ref b), .val u2] [(.ref b), (.ref a)])) rfl rfl (hb hby d16_6)
 have N2 := Fr.snoc X2 N1 g_a
 have F2 := P1.same W2
 refine Goes.st st2 ?_
 show Goes _ _ _ _ (T2.setTop (mkF m 9 #[.val (.ref a), .val (.ref b), .val u2] []))
 refine Goes.st (fun sT kT => XS.aloadN X2.here hx rfl (hb hby d16_9) rfl rfl kT) ?_
 show Goes _ _ _ _ (T2.setTop (mkF m 10 #[.val (.ref a), .val (.ref b), .val u2] [(.ref a)]))
 refine Goes.st (fun sT kT => XS.aloadN X2.here hx rfl (hb hby d16_10) rfl r2 kT) ?_
 show Goes _ _ _ _ (T2.setTop (mkF m 11 #[.val (.ref a), .val (.ref b), .val u2] [u2, (.ref a)]))
 have f3 : Exa Z h2 a "com/example/bolter/bolter/service/ParameterName" := (P0.wr W2)
 have f4 : Fld Z h2 a "com/example/bolter/bolter/service/ParameterName" "modifier" "Ljava/lang/String;" .null := (P2.other W2 (Or.inr (slot_ne (Or.inr (hw88 hw)) (Or.inr (hw86 hw)) (by decide) (t := (.object "java/lang/String")) (t' := (.object "java/lang/String")) (by decide) (by decide))))
 obtain ⟨T5, h5, X5, e5, W5, st5⟩ := putF X2 hx hZ hown (host := "") (Or.inl (hw87 hw)) Via.refl e2 f4 f3 (Or.inr ⟨(hw88 hw), rfl, hnm⟩) (hw75 hw) (ty := (.object "java/lang/String")) (by decide) (own_narR r2) (own_fitsR r2 rfl) (g := (mkF m 11 #[.val (.ref a), .val (.ref b), .val u2] [u2, (.ref a)])) rfl rfl (hb hby d16_11)
 have N5 := Fr.snoc X5 N2 g_a
 have F5 := f4.same W5
 refine Goes.st st5 ?_
 show Goes _ _ _ _ (T5.setTop (mkF m 14 #[.val (.ref a), .val (.ref b), .val u2] []))
 have kp6 : Keep h0 h2 [a] := (Keep.refl h0 [a]).wr W2 (Or.inl (List.mem_of_getElem? (i := 0) rfl))
 have kp7 : Keep h0 h5 [a] := kp6.wr W5 (Or.inl (List.mem_of_getElem? (i := 0) rfl))
 have f8 : Exa Z h5 a "com/example/bolter/bolter/service/ParameterName" := (f3.wr W5)
 have f9 : Fld Z h5 a "com/example/bolter/bolter/service/ParameterName" "code" "Ljava/lang/String;" (.ref b) := (F2.other W5 (Or.inr (slot_ne (Or.inr (hw86 hw)) (Or.inr (hw88 hw)) (by decide) (t := (.object "java/lang/String")) (t' := (.object "java/lang/String")) (by decide) (by decide))))
 obtain ⟨fs, hr, hrun, hended, hW, hsame⟩ := X5.leave (v := none) (fun _ => rfl)
 subst hQQ
 refine ⟨_, _, X5.returnOut hx Bd.returns (hb hby d16_14) hr, hrun, hended, _, _, rfl, ?_, ⟨_, rfl⟩, hW, hsame.mono (by decide) (by decide)⟩
 show Q_pinit Z a b u2 h0 n0 _ T5.heap _
 rw [e5]
 exact ⟨rfl, N5, kp7, f8, f9, F5⟩
theorem ef_gcode (m : MethodId) (a : Addr) (fr : Addr) : entryFrame m #[(.ref a)] 1 = (mkF m 0 #[.val (.ref a)] []) := by first | (simp [entryFrame, mkF, argsToLocals, Value.category]; done) | rfl
def Q_gcode (Z : State) (a : Addr) (fr : Addr) (h0 : Heap) (n0 : Nat) (v : Option Value) (h : Heap) (L : List Loc) : Prop := v = some (.ref fr) ∧ Fr n0 L ∧ h = h0
set_option maxRecDepth 65536 in
set_option maxHeartbeats 40000000 in
theorem rm_gcode (l : Launch) (Z : State) (a0 : Array Value) (hw : ∀ d ∈ tables_1, d.before a0 Z = true) (ws : List Jvm.Cond) (a : Addr) (fr : Addr) (h0 : Heap) (n0 : Nat) (Z0 : n0 ≤ h0.size) (P0 : Fld Z h0 a "com/example/bolter/bolter/service/ParameterName" "code" "Ljava/lang/String;" (.ref fr)) :
    MetFree l (⟨"com/example/bolter/bolter/service/ParameterName", "code", "()Ljava/lang/String;"⟩ : MethodName) (head1 (Jvm.Cond.code (⟨"com/example/bolter/bolter/service/ParameterName", "code", "()Ljava/lang/String;"⟩ : MethodName) prog_18_method_6_code 1 (some (.object "java/lang/String")) :: ws) ({ frames := 0, cells := 0, slots := 0, locals := 0 } : Room)) (fun aR U => aR = #[(.ref a)] ∧ Z.Warmed39 U.vm ∧ U.heap = h0) (fun _ _ _ _ _ => True) (fun _ U o U' => ∃ v L, o = .returned v ∧ Q_gcode Z a fr h0 n0 v U'.heap L ∧ FrameEnd U o U' L ({ frames := 0, cells := 0, slots := 0, locals := 0 } : Room).cells ({ frames := 0, cells := 0, slots := 0, locals := 0 } : Room).slots) := by
 refine MetFree.of_bodySF (plainFor_of_name pn_7) hisR ?_
 intro p e s m args below meth c s₁ Bd hml0 hP hK
 obtain ⟨rfl, hZ, hh⟩ := hP
 have hx := Bd.exec
 have hby := Bd.bytes
 have hml : c.maxLocals = 1 := hml0
 have hown : s.vm.findClass "com/example/bolter/bolter/service/ParameterName" = some m.cls := findClass_of_methodNamed Bd.named
 have hnm := (name_of_methodNamed Bd.named Bd.method).1
 have X0 : Stand p l e ({ frames := 0, cells := 0, slots := 0, locals := 0 } : Room) s m #[(.ref a)] below meth c s₁ [] 0 0 := Stand.of_body Bd
 have e0 : s₁.heap = h0 := by rw [← hh, Bd.state]; rfl
 have N0 := Fr.nil n0
 show Goes p.tables e below _ _
 rw [ef_gcode m a fr]
 refine Goes.named ?_
 intro QQ hQQ
 refine Goes.st (fun sT kT => XS.aloadN X0.here hx rfl (hb hby d18_0) rfl rfl kT) ?_
 show Goes _ _ _ _ (s₁.setTop (mkF m 1 #[.val (.ref a)] [(.ref a)]))
 obtain ⟨T1, X1, e1, st1⟩ := getF X0 hx hZ hown (host := "") (Or.inl (hw85 hw)) Via.refl e0 P0 (g := (mkF m 1 #[.val (.ref a)] [(.ref a)])) rfl rfl (hb hby d18_1)
 refine Goes.st st1 ?_
 show Goes _ _ _ _ (T1.setTop (mkF m 4 #[.val (.ref a)] [(.ref fr)]))
 obtain ⟨fs, hr, hrun, hended, hW, hsame⟩ := X1.leave (v := some (.ref fr)) (fun h => by rw [Bd.returns] at h; cases h)
 subst hQQ
 refine ⟨_, _, retR X1 hx Bd.returns rfl rfl (hb hby d18_4) hr, hrun, hended, _, _, rfl, ?_, ⟨_, rfl⟩, hW, hsame.mono (by decide) (by decide)⟩
 show Q_gcode Z a fr h0 n0 _ T1.heap _
 rw [e1]
 exact ⟨rfl, N0, rfl⟩
theorem ef_gmodN (m : MethodId) (a : Addr) : entryFrame m #[(.ref a)] 1 = (mkF m 0 #[.val (.ref a)] []) := by first | (simp [entryFrame, mkF, argsToLocals, Value.category]; done) | rfl
def Q_gmodN (Z : State) (a : Addr) (h0 : Heap) (n0 : Nat) (v : Option Value) (h : Heap) (L : List Loc) : Prop := v = some .null ∧ Fr n0 L ∧ h = h0
set_option maxRecDepth 65536 in
set_option maxHeartbeats 40000000 in
theorem rm_gmodN (l : Launch) (Z : State) (a0 : Array Value) (hw : ∀ d ∈ tables_1, d.before a0 Z = true) (ws : List Jvm.Cond) (a : Addr) (h0 : Heap) (n0 : Nat) (Z0 : n0 ≤ h0.size) (P0 : Fld Z h0 a "com/example/bolter/bolter/service/ParameterName" "modifier" "Ljava/lang/String;" .null) :
    MetFree l (⟨"com/example/bolter/bolter/service/ParameterName", "modifier", "()Ljava/lang/String;"⟩ : MethodName) (head1 (Jvm.Cond.code (⟨"com/example/bolter/bolter/service/ParameterName", "modifier", "()Ljava/lang/String;"⟩ : MethodName) prog_18_method_7_code 1 (some (.object "java/lang/String")) :: ws) ({ frames := 0, cells := 0, slots := 0, locals := 0 } : Room)) (fun aR U => aR = #[(.ref a)] ∧ Z.Warmed39 U.vm ∧ U.heap = h0) (fun _ _ _ _ _ => True) (fun _ U o U' => ∃ v L, o = .returned v ∧ Q_gmodN Z a h0 n0 v U'.heap L ∧ FrameEnd U o U' L ({ frames := 0, cells := 0, slots := 0, locals := 0 } : Room).cells ({ frames := 0, cells := 0, slots := 0, locals := 0 } : Room).slots) := by
 refine MetFree.of_bodySF (plainFor_of_name pn_7) hisR ?_
 intro p e s m args below meth c s₁ Bd hml0 hP hK
 obtain ⟨rfl, hZ, hh⟩ := hP
 have hx := Bd.exec
 have hby := Bd.bytes
 have hml : c.maxLocals = 1 := hml0
 have hown : s.vm.findClass "com/example/bolter/bolter/service/ParameterName" = some m.cls := findClass_of_methodNamed Bd.named
 have hnm := (name_of_methodNamed Bd.named Bd.method).1
 have X0 : Stand p l e ({ frames := 0, cells := 0, slots := 0, locals := 0 } : Room) s m #[(.ref a)] below meth c s₁ [] 0 0 := Stand.of_body Bd
 have e0 : s₁.heap = h0 := by rw [← hh, Bd.state]; rfl
 have N0 := Fr.nil n0
 show Goes p.tables e below _ _
 rw [ef_gmodN m a]
 refine Goes.named ?_
 intro QQ hQQ
 refine Goes.st (fun sT kT => XS.aloadN X0.here hx rfl (hb hby d20_0) rfl rfl kT) ?_
 show Goes _ _ _ _ (s₁.setTop (mkF m 1 #[.val (.ref a)] [(.ref a)]))
 obtain ⟨T1, X1, e1, st1⟩ := getF X0 hx hZ hown (host := "") (Or.inl (hw87 hw)) Via.refl e0 P0 (g := (mkF m 1 #[.val (.ref a)] [(.ref a)])) rfl rfl (hb hby d20_1)
 refine Goes.st st1 ?_
 show Goes _ _ _ _ (T1.setTop (mkF m 4 #[.val (.ref a)] [.null]))
 obtain ⟨fs, hr, hrun, hended, hW, hsame⟩ := X1.leave (v := some .null) (fun h => by rw [Bd.returns] at h; cases h)
 subst hQQ
 refine ⟨_, _, retR X1 hx Bd.returns rfl rfl (hb hby d20_4) hr, hrun, hended, _, _, rfl, ?_, ⟨_, rfl⟩, hW, hsame.mono (by decide) (by decide)⟩
 show Q_gmodN Z a h0 n0 _ T1.heap _
 rw [e1]
 exact ⟨rfl, N0, rfl⟩
theorem ef_gmodR (m : MethodId) (a : Addr) (fr : Addr) : entryFrame m #[(.ref a)] 1 = (mkF m 0 #[.val (.ref a)] []) := by first | (simp [entryFrame, mkF, argsToLocals, Value.category]; done) | rfl
def Q_gmodR (Z : State) (a : Addr) (fr : Addr) (h0 : Heap) (n0 : Nat) (v : Option Value) (h : Heap) (L : List Loc) : Prop := v = some (.ref fr) ∧ Fr n0 L ∧ h = h0
set_option maxRecDepth 65536 in
set_option maxHeartbeats 40000000 in
theorem rm_gmodR (l : Launch) (Z : State) (a0 : Array Value) (hw : ∀ d ∈ tables_1, d.before a0 Z = true) (ws : List Jvm.Cond) (a : Addr) (fr : Addr) (h0 : Heap) (n0 : Nat) (Z0 : n0 ≤ h0.size) (P0 : Fld Z h0 a "com/example/bolter/bolter/service/ParameterName" "modifier" "Ljava/lang/String;" (.ref fr)) :
    MetFree l (⟨"com/example/bolter/bolter/service/ParameterName", "modifier", "()Ljava/lang/String;"⟩ : MethodName) (head1 (Jvm.Cond.code (⟨"com/example/bolter/bolter/service/ParameterName", "modifier", "()Ljava/lang/String;"⟩ : MethodName) prog_18_method_7_code 1 (some (.object "java/lang/String")) :: ws) ({ frames := 0, cells := 0, slots := 0, locals := 0 } : Room)) (fun aR U => aR = #[(.ref a)] ∧ Z.Warmed39 U.vm ∧ U.heap = h0) (fun _ _ _ _ _ => True) (fun _ U o U' => ∃ v L, o = .returned v ∧ Q_gmodR Z a fr h0 n0 v U'.heap L ∧ FrameEnd U o U' L ({ frames := 0, cells := 0, slots := 0, locals := 0 } : Room).cells ({ frames := 0, cells := 0, slots := 0, locals := 0 } : Room).slots) := by
 refine MetFree.of_bodySF (plainFor_of_name pn_7) hisR ?_
 intro p e s m args below meth c s₁ Bd hml0 hP hK
 obtain ⟨rfl, hZ, hh⟩ := hP
 have hx := Bd.exec
 have hby := Bd.bytes
 have hml : c.maxLocals = 1 := hml0
 have hown : s.vm.findClass "com/example/bolter/bolter/service/ParameterName" = some m.cls := findClass_of_methodNamed Bd.named
 have hnm := (name_of_methodNamed Bd.named Bd.method).1
 have X0 : Stand p l e ({ frames := 0, cells := 0, slots := 0, locals := 0 } : Room) s m #[(.ref a)] below meth c s₁ [] 0 0 := Stand.of_body Bd
 have e0 : s₁.heap = h0 := by rw [← hh, Bd.state]; rfl
 have N0 := Fr.nil n0
 show Goes p.tables e below _ _
 rw [ef_gmodR m a fr]
 refine Goes.named ?_
 intro QQ hQQ
 refine Goes.st (fun sT kT => XS.aloadN X0.here hx rfl (hb hby d20_0) rfl rfl kT) ?_
 show Goes _ _ _ _ (s₁.setTop (mkF m 1 #[.val (.ref a)] [(.ref a)]))
 obtain ⟨T1, X1, e1, st1⟩ := getF X0 hx hZ hown (host := "") (Or.inl (hw87 hw)) Via.refl e0 P0 (g := (mkF m 1 #[.val (.ref a)] [(.ref a)])) rfl rfl (hb hby d20_1)
 refine Goes.st st1 ?_
 show Goes _ _ _ _ (T1.setTop (mkF m 4 #[.val (.ref a)] [(.ref fr)]))
 obtain ⟨fs, hr, hrun, hended, hW, hsame⟩ := X1.leave (v := some (.ref fr)) (fun h => by rw [Bd.returns] at h; cases h)
 subst hQQ
 refine ⟨_, _, retR X1 hx Bd.returns rfl rfl (hb hby d20_4) hr, hrun, hended, _, _, rfl, ?_, ⟨_, rfl⟩, hW, hsame.mono (by decide) (by decide)⟩
 show Q_gmodR Z a fr h0 n0 _ T1.heap _
 rw [e1]
 exact ⟨rfl, N0, rfl⟩
theorem ef_eqsame (m : MethodId) (a : Addr) : entryFrame m #[(.ref a), (.ref a)] 3 = (mkF m 0 #[.val (.ref a), .val (.ref a), uS] []) := by first | (simp [entryFrame, mkF, argsToLocals, Value.category]; done) | rfl
def Q_eqsame (Z : State) (a : Addr) (h0 : Heap) (n0 : Nat) (v : Option Value) (h : Heap) (L : List Loc) : Prop := v = some (.int (1 : Int32)) ∧ Fr n0 L ∧ h = h0
set_option maxRecDepth 65536 in
set_option maxHeartbeats 40000000 in
theorem rm_eqsame (l : Launch) (Z : State) (a0 : Array Value) (hw : ∀ d ∈ tables_1, d.before a0 Z = true) (ws : List Jvm.Cond) (a : Addr) (h0 : Heap) (n0 : Nat) (Z0 : n0 ≤ h0.size) :
    MetFree l (⟨"java/lang/String", "equals", "(Ljava/lang/Object;)Z"⟩ : MethodName) (head1 (Jvm.Cond.code (⟨"java/lang/String", "equals", "(Ljava/lang/Object;)Z"⟩ : MethodName) jdk_42_method_66_code 3 (some .boolean) :: ws) ({ frames := 0, cells := 0, slots := 0, locals := 0 } : Room)) (fun aR U => aR = #[(.ref a), (.ref a)] ∧ Z.Warmed39 U.vm ∧ U.heap = h0) (fun _ _ _ _ _ => True) (fun _ U o U' => ∃ v L, o = .returned v ∧ Q_eqsame Z a h0 n0 v U'.heap L ∧ FrameEnd U o U' L ({ frames := 0, cells := 0, slots := 0, locals := 0 } : Room).cells ({ frames := 0, cells := 0, slots := 0, locals := 0 } : Room).slots) := by
 refine MetFree.of_bodySF (plainFor_of_name pn_0) hisR ?_
 intro p e s m args below meth c s₁ Bd hml0 hP hK
 obtain ⟨rfl, hZ, hh⟩ := hP
 have hx := Bd.exec
 have hby := Bd.bytes
 have hml : c.maxLocals = 3 := hml0
 have hown : s.vm.findClass "java/lang/String" = some m.cls := findClass_of_methodNamed Bd.named
 have hnm := (name_of_methodNamed Bd.named Bd.method).1
 have X0 : Stand p l e ({ frames := 0, cells := 0, slots := 0, locals := 0 } : Room) s m #[(.ref a), (.ref a)] below meth c s₁ [] 0 0 := Stand.of_body Bd
 have e0 : s₁.heap = h0 := by rw [← hh, Bd.state]; rfl
 have N0 := Fr.nil n0
 show Goes p.tables e below _ _
 rw [ef_eqsame m a]
 refine Goes.named ?_
 intro QQ hQQ
 refine Goes.st (fun sT kT => XS.aloadN X0.here hx rfl (hb hby d19_0) rfl rfl kT) ?_
 show Goes _ _ _ _ (s₁.setTop (mkF m 1 #[.val (.ref a), .val (.ref a), uS] [(.ref a)]))
 refine Goes.st (fun sT kT => XS.aloadN X0.here hx rfl (hb hby d19_1) rfl rfl kT) ?_
 show Goes _ _ _ _ (s₁.setTop (mkF m 2 #[.val (.ref a), .val (.ref a), uS] [(.ref a), (.ref a)]))
 refine Goes.st (fun sT kT => Jvm.RoadKit.acmp (g := (mkF m 2 #[.val (.ref a), .val (.ref a), uS] [(.ref a), (.ref a)])) X0 hx rfl rfl rfl (pc0 := 2) (pc' := 5) (same := true) rfl (hb hby d19_2) rfl (decide_eq_true rfl) (by decide) (by decide) kT) ?_
 show Goes _ _ _ _ (s₁.setTop (mkF m 5 #[.val (.ref a), .val (.ref a), uS] []))
 refine Goes.st (fun sT kT => XS.iconst X0.here hx rfl (hb hby d19_5) kT) ?_
 show Goes _ _ _ _ (s₁.setTop (mkF m 6 #[.val (.ref a), .val (.ref a), uS] [(.int (1 : Int32))]))
 obtain ⟨fs, hr, hrun, hended, hW, hsame⟩ := X0.leave (v := some (.int (1 : Int32))) (fun h => by rw [Bd.returns] at h; cases h)
 subst hQQ
 refine ⟨_, _, retN X0 hx (t := .boolean) Bd.returns (by simp) (hb hby d19_6) hr, hrun, hended, _, _, rfl, ?_, ⟨_, rfl⟩, hW, hsame.mono (by decide) (by decide)⟩
 show Q_eqsame Z a h0 n0 _ s₁.heap _
 rw [e0]
 exact ⟨rfl, N0, rfl⟩
theorem ef_ofN (m : MethodId) (a : Addr) (t : Addr) (kb : ClassId) (cs : List Int32) (G1 : Int32) : entryFrame m #[(.ref a)] 4 = (mkF m 0 #[.val (.ref a), uS, uS, uS] []) := by first | (simp [entryFrame, mkF, argsToLocals, Value.category]; done) | rfl
def Q_ofN (Z : State) (a : Addr) (t : Addr) (kb : ClassId) (cs : List Int32) (G1 : Int32) (h0 : Heap) (n0 : Nat) (v : Option Value) (h : Heap) (L : List Loc) : Prop := ∃ (d : Addr), v = some (.ref d) ∧ Fr n0 L ∧ Keep h0 h [] ∧ Exa Z h d "com/example/bolter/bolter/service/ParameterName" ∧ Fld Z h d "com/example/bolter/bolter/service/ParameterName" "code" "Ljava/lang/String;" (.ref a) ∧ Fld Z h d "com/example/bolter/bolter/service/ParameterName" "modifier" "Ljava/lang/String;" .null ∧ h0.size ≤ d
set_option maxRecDepth 65536 in
set_option maxHeartbeats 40000000 in
theorem rm_ofN (l : Launch) (Z : State) (a0 : Array Value) (hw : ∀ d ∈ tables_1, d.before a0 Z = true) (ws : List Jvm.Cond) (a : Addr) (t : Addr) (kb : ClassId) (cs : List Int32) (G1 : Int32) (h0 : Heap) (n0 : Nat) (Z0 : n0 ≤ h0.size) (P0 : Str Z h0 a t kb cs) (P1 : Old Z n0 h0) (O2 : Sta Z Z.heap "java/lang/String" "COMPACT_STRINGS" "Z" (.int G1)) (P5 : ¬ (G1 = (0 : Int32))) (hix : own_ix 0 cs = -1) :
    MetFree l (⟨"com/example/bolter/bolter/service/ParameterName", "of", "(Ljava/lang/String;)Lcom/example/bolter/bolter/service/ParameterName;"⟩ : MethodName) (head1 (Jvm.Cond.code (⟨"com/example/bolter/bolter/service/ParameterName", "of", "(Ljava/lang/String;)Lcom/example/bolter/bolter/service/ParameterName;"⟩ : MethodName) prog_18_method_2_code 4 (some (.object "com/example/bolter/bolter/service/ParameterName")) :: ws) ({ frames := 4, cells := 1, slots := 2, locals := 63 } : Room)) (fun aR U => aR = #[(.ref a)] ∧ Z.Warmed39 U.vm ∧ U.heap = h0) (fun _ _ _ _ _ => True) (fun _ U o U' => ∃ v L, o = .returned v ∧ Q_ofN Z a t kb cs G1 h0 n0 v U'.heap L ∧ FrameEnd U o U' L ({ frames := 4, cells := 1, slots := 2, locals := 63 } : Room).cells ({ frames := 4, cells := 1, slots := 2, locals := 63 } : Room).slots) := by
 refine MetFree.of_bodySF (plainFor_of_name pn_7) hisR ?_
 intro p e s m args below meth c s₁ Bd hml0 hP hK
 obtain ⟨rfl, hZ, hh⟩ := hP
 have hx := Bd.exec
 have hby := Bd.bytes
 have hml : c.maxLocals = 4 := hml0
 have hown : s.vm.findClass "com/example/bolter/bolter/service/ParameterName" = some m.cls := findClass_of_methodNamed Bd.named
 have hnm := (name_of_methodNamed Bd.named Bd.method).1
 have X0 : Stand p l e ({ frames := 4, cells := 1, slots := 2, locals := 63 } : Room) s m #[(.ref a)] below meth c s₁ [] 0 0 := Stand.of_body Bd
 have e0 : s₁.heap = h0 := by rw [← hh, Bd.state]; rfl
 have N0 := Fr.nil n0
 show Goes p.tables e below _ _
 rw [ef_ofN m a t kb cs G1]
 refine Goes.named ?_
 intro QQ hQQ
 refine Goes.st (fun sT kT => XS.aloadN X0.here hx rfl (hb hby d6_0) rfl rfl kT) ?_
 show Goes _ _ _ _ (s₁.setTop (mkF m 1 #[.val (.ref a), uS, uS, uS] [(.ref a)]))
 refine Goes.st (fun sT kT => XS.bipush X0.here hx rfl (hb hby d6_1) kT) ?_
 show Goes _ _ _ _ (s₁.setTop (mkF m 3 #[.val (.ref a), uS, uS, uS] [(.int (58 : Int32)), (.ref a)]))
 obtain ⟨cq1, kq1, q1a, q1b, q1c⟩ := isOf hZ e0 P0.1
 obtain ⟨_, _, ⟨T1, L1, k1, n1⟩, -, X1, ⟨Lc1, hQ1, l1, y1, z1⟩, st1⟩ := X0.virtualBack hx (y := (⟨"java/lang/String", "indexOf", "(I)I"⟩ : MethodName)) (z := (⟨"java/lang/String", "indexOf", "(I)I"⟩ : MethodName)) hown (mvT hZ (hw34 hw)) (mvT hZ (hw35 hw)) (notFace_of_selects (args := #[]) (mvT hZ (hw37 hw))) (mvT hZ (hw37 hw)) (mvT hZ (hw36 hw)) (by decide) (backOf (W := 0) (rm_six1 l Z a0 hw [] a t kb cs G1 h0 n0 Z0 P0 P1 O2 P5) hZ (hw38 hw) (hw11 hw) (by decide) (by decide)) q1a q1c (g := (mkF m 3 #[.val (.ref a), uS, uS, uS] [(.int (58 : Int32)), (.ref a)])) rfl (by rw [hml]; rfl) (Steps.refl _) (argsL := [(.int (58 : Int32))]) (rest := []) (lenOf pd_14 rfl) rfl (by show 2 * 0 + _ ≤ _; exact Nat.le_of_eq rfl) (hb hby d6_3) (fun _ _ => ⟨rfl, e0, (by decide : 0 + 0 ≤ _), (by decide : 0 + 0 ≤ _)⟩)
 dsimp only [Pt.U, Pt.locs, Pt.cells, Pt.slots] at X1 l1 y1 z1 st1 hQ1
 subst l1 y1 z1
 obtain ⟨rfl, N1q, K1⟩ := hQ1
 have N1 := Fr.app N0 N1q
 refine Goes.tr st1 ?_
 show Goes _ _ _ _ (T1.setTop (mkF m 6 #[.val (.ref a), uS, uS, uS] [(.int (own_ix 0 cs))]))
 rw [hix]
 show Goes _ _ _ _ (T1.setTop (mkF m 6 #[.val (.ref a), uS, uS, uS] [(.int (-1 : Int32))]))
 refine Goes.st (fun sT kT => XS.istoreN X1.here hx rfl (hb hby d6_6) rfl (l' := #[.val (.ref a), .val (.int (-1 : Int32)), uS, uS]) rfl kT) ?_
 show Goes _ _ _ _ (T1.setTop (mkF m 7 #[.val (.ref a), .val (.int (-1 : Int32)), uS, uS] []))
 refine Goes.st (fun sT kT => XS.iloadN X1.here hx rfl (hb hby d6_7) rfl kT) ?_
 show Goes _ _ _ _ (T1.setTop (mkF m 8 #[.val (.ref a), .val (.int (-1 : Int32)), uS, uS] [(.int (-1 : Int32))]))
 refine Goes.st (fun sT kT => XS.ifNo X1.here hx rfl (hb hby d6_8) rfl ((if0 _ _).trans (tlt (by decide : (-1 : Int32) < (0 : Int32))).2.1) kT) ?_
 show Goes _ _ _ _ (T1.setTop (mkF m 11 #[.val (.ref a), .val (.int (-1 : Int32)), uS, uS] []))
 refine Goes.st (fun sT kT => XS.aloadN X1.here hx rfl (hb hby d6_11) rfl rfl kT) ?_
 show Goes _ _ _ _ (T1.setTop (mkF m 12 #[.val (.ref a), .val (.int (-1 : Int32)), uS, uS] [(.ref a)]))
 refine Goes.st (fun sT kT => XS.goto X1.here hx rfl (pc0 := 12) (pc' := 21) rfl (hb hby d6_12) (by decide) (by decide) kT) ?_
 show Goes _ _ _ _ (T1.setTop (mkF m 21 #[.val (.ref a), .val (.int (-1 : Int32)), uS, uS] [(.ref a)]))
 refine Goes.st (fun sT kT => XS.astoreN X1.here hx rfl (hb hby d6_21) rfl rfl (l' := #[.val (.ref a), .val (.int (-1 : Int32)), .val (.ref a), uS]) rfl kT) ?_
 show Goes _ _ _ _ (T1.setTop (mkF m 22 #[.val (.ref a), .val (.int (-1 : Int32)), .val (.ref a), uS] []))
 refine Goes.st (fun sT kT => XS.iloadN X1.here hx rfl (hb hby d6_22) rfl kT) ?_
 show Goes _ _ _ _ (T1.setTop (mkF m 23 #[.val (.ref a), .val (.int (-1 : Int32)), .val (.ref a), uS] [(.int (-1 : Int32))]))
 refine Goes.st (fun sT kT => XS.ifNo X1.here hx rfl (hb hby d6_23) rfl ((if0 _ _).trans (tlt (by decide : (-1 : Int32) < (0 : Int32))).2.1) kT) ?_
 show Goes _ _ _ _ (T1.setTop (mkF m 26 #[.val (.ref a), .val (.int (-1 : Int32)), .val (.ref a), uS] []))
 refine Goes.st (fun sT kT => XS.aconstNull X1.here hx rfl (hb hby d6_26) kT) ?_
 show Goes _ _ _ _ (T1.setTop (mkF m 27 #[.val (.ref a), .val (.int (-1 : Int32)), .val (.ref a), uS] [.null]))
 refine Goes.st (fun sT kT => XS.goto X1.here hx rfl (pc0 := 27) (pc' := 37) rfl (hb hby d6_27) (by decide) (by decide) kT) ?_
 show Goes _ _ _ _ (T1.setTop (mkF m 37 #[.val (.ref a), .val (.int (-1 : Int32)), .val (.ref a), uS] [.null]))
 refine Goes.st (fun sT kT => XS.astoreN X1.here hx rfl (hb hby d6_37) rfl rfl (l' := #[.val (.ref a), .val (.int (-1 : Int32)), .val (.ref a), .val .null]) rfl kT) ?_
 show Goes _ _ _ _ (T1.setTop (mkF m 38 #[.val (.ref a), .val (.int (-1 : Int32)), .val (.ref a), .val .null] []))
 obtain ⟨T2, h2, X2, e2, E2, A2, D2, -, st2⟩ := newO X1 hx hZ hown (hw74 hw) (hw75 hw) (hw32 hw) K1 (g := (mkF m 38 #[.val (.ref a), .val (.int (-1 : Int32)), .val (.ref a), .val .null] [])) rfl (hb hby d6_38) (by decide) (by decide)
 obtain ⟨b2, g2⟩ : ∃ z, z = h0.size := ⟨_, rfl⟩
 rw [← g2] at A2 D2 st2
 have F2_code : Fld Z h2 b2 "com/example/bolter/bolter/service/ParameterName" "code" "Ljava/lang/String;" .null := D2 (Or.inr (hw86 hw)) (ty := (.object "java/lang/String")) (by decide)
 have F2_modifier : Fld Z h2 b2 "com/example/bolter/bolter/service/ParameterName" "modifier" "Ljava/lang/String;" .null := D2 (Or.inr (hw88 hw)) (ty := (.object "java/lang/String")) (by decide)
 refine Goes.st st2 ?_
 show Goes _ _ _ _ (T2.setTop (mkF m 41 #[.val (.ref a), .val (.int (-1 : Int32)), .val (.ref a), .val .null] [(.ref b2)]))
 refine Goes.st (fun sT kT => XS.dup X2.here hx rfl (hb hby d6_41) rfl rfl kT) ?_
 show Goes _ _ _ _ (T2.setTop (mkF m 42 #[.val (.ref a), .val (.int (-1 : Int32)), .val (.ref a), .val .null] [(.ref b2), (.ref b2)]))
 refine Goes.st (fun sT kT => XS.aloadN X2.here hx rfl (hb hby d6_42) rfl rfl kT) ?_
 show Goes _ _ _ _ (T2.setTop (mkF m 43 #[.val (.ref a), .val (.int (-1 : Int32)), .val (.ref a), .val .null] [(.ref a), (.ref b2), (.ref b2)]))
 refine Goes.st (fun sT kT => XS.aloadN X2.here hx rfl (hb hby d6_43) rfl rfl kT) ?_
 show Goes _ _ _ _ (T2.setTop (mkF m 44 #[.val (.ref a), .val (.int (-1 : Int32)), .val (.ref a), .val .null] [.null, (.ref a), (.ref b2), (.ref b2)]))
 obtain ⟨_, _, ⟨T3, L3, k3, n3⟩, -, X3, ⟨Lc3, hQ3, l3, y3, z3⟩, st3⟩ := X2.specialBack hx (y := (⟨"com/example/bolter/bolter/service/ParameterName", "<init>", "(Ljava/lang/String;Ljava/lang/String;)V"⟩ : MethodName)) rfl hown (mvT hZ (hw76 hw)) (mvT hZ (hw77 hw)) (mvT hZ (hw78 hw)) (by decide) (backOf (W := 1) (rm_pinit l Z a0 hw [] b2 a (Value.null) h2 n0 (Nat.le_trans Z0 E2.1) A2 F2_code F2_modifier (Nat.le_trans Z0 (Nat.le_of_eq g2.symm)) rfl) hZ (hw78 hw) (hw32 hw) (by decide) (by decide)) (g := (mkF m 44 #[.val (.ref a), .val (.int (-1 : Int32)), .val (.ref a), .val .null] [.null, (.ref a), (.ref b2), (.ref b2)])) rfl (by rw [hml]; rfl) (Steps.refl _) (a := b2) (argsL := [(.ref a), .null]) (rest := [(.ref b2)]) (lenOf pd_15 rfl) rfl (by show 2 * 0 + _ ≤ _; exact Nat.le_of_eq rfl) (hb hby d6_44) (fun _ _ => ⟨rfl, e2, (by decide : 1 + 0 ≤ _), (by decide : 2 + 0 ≤ _)⟩)
 dsimp only [Pt.U, Pt.locs, Pt.cells, Pt.slots] at X3 l3 y3 z3 st3 hQ3
 subst l3 y3 z3
 obtain ⟨rfl, N3q, K3, F3_0, F3_1, F3_2⟩ := hQ3
 have N3 := Fr.app N1 N3q
 refine Goes.tr st3 ?_
 show Goes _ _ _ _ (T3.setTop (mkF m 47 #[.val (.ref a), .val (.int (-1 : Int32)), .val (.ref a), .val .null] [(.ref b2)]))
 have kp4 : Keep h0 h2 [] := (Keep.refl h0 []).ext E2
 have kp5 : Keep h0 T3.heap [] := kp4.trans K3 (allS (Or.inr (Nat.le_of_eq g2.symm)) all0)
 obtain ⟨fs, hr, hrun, hended, hW, hsame⟩ := X3.leave (v := some (.ref b2)) (fun h => by rw [Bd.returns] at h; cases h)
 subst hQQ
 refine ⟨_, _, retR X3 hx Bd.returns rfl rfl (hb hby d6_47) hr, hrun, hended, _, _, rfl, ?_, ⟨_, rfl⟩, hW, hsame.mono (by decide) (by decide)⟩
 show Q_ofN Z a t kb cs G1 h0 n0 _ T3.heap _
 exact ⟨b2, rfl, N3, kp5, F3_0, F3_1, F3_2, (Nat.le_of_eq g2.symm)⟩
theorem ef_ofK (m : MethodId) (a : Addr) (t : Addr) (kb : ClassId) (cs : List Int32) (G1 : Int32) (vF : Value) (k : Nat) : entryFrame m #[(.ref a)] 4 = (mkF m 0 #[.val (.ref a), uS, uS, uS] []) := by first | (simp [entryFrame, mkF, argsToLocals, Value.category]; done) | rfl
def Q_ofK (Z : State) (a : Addr) (t : Addr) (kb : ClassId) (cs : List Int32) (G1 : Int32) (vF : Value) (k : Nat) (h0 : Heap) (n0 : Nat) (v : Option Value) (h : Heap) (L : List Loc) : Prop := ∃ (d : Addr) (x1 : Addr) (y1 : Addr) (k1 : ClassId) (x2 : Addr) (y2 : Addr) (k2 : ClassId), v = some (.ref d) ∧ Fr n0 L ∧ Keep h0 h [] ∧ Exa Z h d "com/example/bolter/bolter/service/ParameterName" ∧ Fld Z h d "com/example/bolter/bolter/service/ParameterName" "code" "Ljava/lang/String;" (.ref x1) ∧ Fld Z h d "com/example/bolter/bolter/service/ParameterName" "modifier" "Ljava/lang/String;" (.ref x2) ∧ Str Z h x1 y1 k1 (cs.take k) ∧ Str Z h x2 y2 k2 (cs.drop (k + 1)) ∧ h0.size ≤ d
set_option maxRecDepth 65536 in
set_option maxHeartbeats 40000000 in
theorem rm_ofK (l : Launch) (Z : State) (a0 : Array Value) (hw : ∀ d ∈ tables_1, d.before a0 Z = true) (ws : List Jvm.Cond) (a : Addr) (t : Addr) (kb : ClassId) (cs : List Int32) (G1 : Int32) (vF : Value) (k : Nat) (h0 : Heap) (n0 : Nat) (Z0 : n0 ≤ h0.size) (P0 : Str Z h0 a t kb cs) (P1 : Old Z n0 h0) (O2 : Sta Z Z.heap "java/lang/String" "COMPACT_STRINGS" "Z" (.int G1)) (P5 : ¬ (G1 = (0 : Int32))) (OF : Sta Z Z.heap "jdk/internal/util/Preconditions" "SIOOBE_FORMATTER" "Ljava/util/function/BiFunction;" vF) (rF : vF.isRef = true) (hix : own_ix 0 cs = Int32.ofNat k) (hk : k < cs.length) (h4 : cs.length ≤ 4) :
    MetFree l (⟨"com/example/bolter/bolter/service/ParameterName", "of", "(Ljava/lang/String;)Lcom/example/bolter/bolter/service/ParameterName;"⟩ : MethodName) (head1 (Jvm.Cond.code (⟨"com/example/bolter/bolter/service/ParameterName", "of", "(Ljava/lang/String;)Lcom/example/bolter/bolter/service/ParameterName;"⟩ : MethodName) prog_18_method_2_code 4 (some (.object "com/example/bolter/bolter/service/ParameterName")) :: ws) ({ frames := 6, cells := 5, slots := 18, locals := 150 } : Room)) (fun aR U => aR = #[(.ref a)] ∧ Z.Warmed39 U.vm ∧ U.heap = h0 ∧ CHv Z EL U.vm h0 ∧ ∀ x ∈ ([] : List Addr), Safe Z EL U.vm h0 x) (fun _ _ _ _ _ => True) (fun _ U o U' => ∃ v L, o = .returned v ∧ Q_ofK Z a t kb cs G1 vF k h0 n0 v U'.heap L ∧ CHr Z EL U.vm U.heap U'.vm U'.heap ∧ ReturnedEndW U o U' L ({ frames := 6, cells := 5, slots := 18, locals := 150 } : Room).cells ({ frames := 6, cells := 5, slots := 18, locals := 150 } : Room).slots) := by
 refine MetFree.of_bodySF (plainFor_of_name pn_7) hisR ?_
 intro p e s m args below meth c s₁ Bd hml0 hP hK
 obtain ⟨rfl, hZ, hh, hCH, hSF⟩ := hP
 have hx := Bd.exec
 have hby := Bd.bytes
 have hml : c.maxLocals = 4 := hml0
 have hown : s.vm.findClass "com/example/bolter/bolter/service/ParameterName" = some m.cls := findClass_of_methodNamed Bd.named
 have hnm := (name_of_methodNamed Bd.named Bd.method).1
 have X0 : Stand p l e ({ frames := 6, cells := 5, slots := 18, locals := 150 } : Room) (s.setVm s.vm) m #[(.ref a)] below meth c s₁ [] 0 0 := Stand.of_body Bd
 have e0 : s₁.heap = h0 := by rw [← hh, Bd.state]; rfl
 have N0 := Fr.nil n0
 show Goes p.tables e below _ _
 rw [ef_ofK m a t kb cs G1 vF k]
 refine Goes.named ?_
 intro QQ hQQ
 have hS0 : s.Since s.vm 0 := (State.WarmedH.refl s).since 0
 have hk0 : 0 ≤ h0.size := Nat.zero_le _
 have CR0 : CHr Z EL s.vm h0 s.vm h0 := CHr.refl hCH
 refine Goes.st (fun sT kT => XS.aloadN X0.here hx rfl (hb hby d6_0) rfl rfl kT) ?_
 show Goes _ _ _ _ (s₁.setTop (mkF m 1 #[.val (.ref a), uS, uS, uS] [(.ref a)]))
 refine Goes.st (fun sT kT => XS.bipush X0.here hx rfl (hb hby d6_1) kT) ?_
 show Goes _ _ _ _ (s₁.setTop (mkF m 3 #[.val (.ref a), uS, uS, uS] [(.int (58 : Int32)), (.ref a)]))
 obtain ⟨cq1, kq1, q1a, q1b, q1c⟩ := isOf hZ e0 P0.1
 obtain ⟨_, _, ⟨T1, L1, k1, n1⟩, -, X1, ⟨Lc1, hQ1, l1, y1, z1⟩, st1⟩ := X0.virtualBack hx (y := (⟨"java/lang/String", "indexOf", "(I)I"⟩ : MethodName)) (z := (⟨"java/lang/String", "indexOf", "(I)I"⟩ : MethodName)) hown (mvT hZ (hw34 hw)) (mvT hZ (hw35 hw)) (notFace_of_selects (args := #[]) (mvT hZ (hw37 hw))) (mvT hZ (hw37 hw)) (mvT hZ (hw36 hw)) (by decide) (backOf (W := 0) (rm_six1 l Z a0 hw [] a t kb cs G1 h0 n0 Z0 P0 P1 O2 P5) hZ (hw38 hw) (hw11 hw) (by decide) (by decide)) q1a q1c (g := (mkF m 3 #[.val (.ref a), uS, uS, uS] [(.int (58 : Int32)), (.ref a)])) rfl (by rw [hml]; rfl) (Steps.refl _) (argsL := [(.int (58 : Int32))]) (rest := []) (lenOf pd_14 rfl) rfl (by show 2 * 0 + _ ≤ _; exact Nat.le_of_eq rfl) (hb hby d6_3) (fun _ _ => ⟨rfl, e0, (by decide : 0 + 0 ≤ _), (by decide : 0 + 0 ≤ _)⟩)
 dsimp only [Pt.U, Pt.locs, Pt.cells, Pt.slots] at X1 l1 y1 z1 st1 hQ1
 subst l1 y1 z1
 obtain ⟨rfl, N1q, K1⟩ := hQ1
 have N1 := Fr.app N0 N1q
 refine Goes.tr st1 ?_
 show Goes _ _ _ _ (T1.setTop (mkF m 6 #[.val (.ref a), uS, uS, uS] [(.int (own_ix 0 cs))]))
 rw [hix]
 show Goes _ _ _ _ (T1.setTop (mkF m 6 #[.val (.ref a), uS, uS, uS] [(.int (Int32.ofNat k))]))
 refine Goes.st (fun sT kT => XS.istoreN X1.here hx rfl (hb hby d6_6) rfl (l' := #[.val (.ref a), .val (.int (Int32.ofNat k)), uS, uS]) rfl kT) ?_
 show Goes _ _ _ _ (T1.setTop (mkF m 7 #[.val (.ref a), .val (.int (Int32.ofNat k)), uS, uS] []))
 refine Goes.st (fun sT kT => XS.iloadN X1.here hx rfl (hb hby d6_7) rfl kT) ?_
 show Goes _ _ _ _ (T1.setTop (mkF m 8 #[.val (.ref a), .val (.int (Int32.ofNat k)), uS, uS] [(.int (Int32.ofNat k))]))
 refine Goes.st (fun sT kT => XS.ifYes X1.here hx rfl (pc0 := 8) (pc' := 15) rfl (hb hby d6_8) rfl ((if0 _ _).trans (flt (own_nneg (by omega))).2.1) (by decide) (by decide) kT) ?_
 show Goes _ _ _ _ (T1.setTop (mkF m 15 #[.val (.ref a), .val (.int (Int32.ofNat k)), uS, uS] []))
 by_cases hkz : k = 0
 case pos =>
  rw [show Int32.ofNat k = (0 : Int32) from by rw [hkz]; rfl]
  show Goes _ _ _ _ (T1.setTop (mkF m 15 #[.val (.ref a), .val (.int (0 : Int32)), uS, uS] []))
  refine Goes.st (fun sT kT => XS.aloadN X1.here hx rfl (hb hby d6_15) rfl rfl kT) ?_
  show Goes _ _ _ _ (T1.setTop (mkF m 16 #[.val (.ref a), .val (.int (0 : Int32)), uS, uS] [(.ref a)]))
  refine Goes.st (fun sT kT => XS.iconst X1.here hx rfl (hb hby d6_16) kT) ?_
  show Goes _ _ _ _ (T1.setTop (mkF m 17 #[.val (.ref a), .val (.int (0 : Int32)), uS, uS] [(.int (0 : Int32)), (.ref a)]))
  refine Goes.st (fun sT kT => XS.iloadN X1.here hx rfl (hb hby d6_17) rfl kT) ?_
  show Goes _ _ _ _ (T1.setTop (mkF m 18 #[.val (.ref a), .val (.int (0 : Int32)), uS, uS] [(.int (0 : Int32)), (.int (0 : Int32)), (.ref a)]))
  obtain ⟨cq2, kq2, q2a, q2b, q2c⟩ := isOf hZ K1 P0.1
  obtain ⟨_, _, ⟨T2, L2, k2, n2⟩, -, X2, hSr2, hgr2, ⟨Lc2, hQ2, l2, y2, z2, C2⟩, st2⟩ := X1.virtualBackS hx (y := (⟨"java/lang/String", "substring", "(II)Ljava/lang/String;"⟩ : MethodName)) (z := (⟨"java/lang/String", "substring", "(II)Ljava/lang/String;"⟩ : MethodName)) hown (mvT hZ (hw117 hw)) (mvT hZ (hw118 hw)) (notFace_of_selects (args := #[]) (mvT hZ (hw120 hw))) (mvT hZ (hw120 hw)) (mvT hZ (hw119 hw)) (by decide) (own_backW (W := 0) (xs := []) (rm_subE l Z a0 hw [] a t kb cs G1 vF 0 h0 n0 Z0 P0 P1 O2 P5 OF rF (by omega) h4 (by omega)) hZ (hw121 hw) (hw11 hw) (by decide) (by decide) (own_EW hw) CR0.1 all0) q2a q2c (g := (mkF m 18 #[.val (.ref a), .val (.int (0 : Int32)), uS, uS] [(.int (0 : Int32)), (.int (0 : Int32)), (.ref a)])) rfl (by rw [hml]; rfl) (Steps.refl _) (argsL := [(.int (0 : Int32)), (.int (0 : Int32))]) (rest := []) (lenOf pd_12 rfl) rfl (by show 2 * 0 + _ ≤ _; exact Nat.le_of_eq rfl) (hb hby d6_18) (fun _ _ => ⟨rfl, K1, (by decide : 0 + 2 ≤ _), (by decide : 0 + 4 ≤ _)⟩)
  dsimp only [Pt.U, Pt.locs, Pt.cells, Pt.slots] at X2 l2 y2 z2 st2 hQ2 hSr2 hgr2 C2
  subst l2 y2 z2
  obtain ⟨X2, hS2, hZ2, hown2⟩ := rebS hS0 (by rw [K1]; exact hk0) X2 hSr2 hgr2 hZ hown
  obtain ⟨r2, tz2, kz2, rfl, N2q, K2, F2_0⟩ := hQ2
  have N2 := Fr.app N1 N2q
  have F2_0E := F2_0.1
  have CR3 : CHr Z EL s.vm h0 T2.vm T2.heap := CR0.trans (C2)
  refine Goes.tr st2 ?_
  show Goes _ _ _ _ (T2.setTop (mkF m 21 #[.val (.ref a), .val (.int (0 : Int32)), uS, uS] [(.ref r2)]))
  refine Goes.st (fun sT kT => XS.astoreN X2.here hx rfl (hb hby d6_21) rfl rfl (l' := #[.val (.ref a), .val (.int (0 : Int32)), .val (.ref r2), uS]) rfl kT) ?_
  show Goes _ _ _ _ (T2.setTop (mkF m 22 #[.val (.ref a), .val (.int (0 : Int32)), .val (.ref r2), uS] []))
  refine Goes.st (fun sT kT => XS.iloadN X2.here hx rfl (hb hby d6_22) rfl kT) ?_
  show Goes _ _ _ _ (T2.setTop (mkF m 23 #[.val (.ref a), .val (.int (0 : Int32)), .val (.ref r2), uS] [(.int (0 : Int32))]))
  refine Goes.st (fun sT kT => XS.ifYes X2.here hx rfl (pc0 := 23) (pc' := 30) rfl (hb hby d6_23) rfl ((if0 _ _).trans (flt (by decide : ¬ ((0 : Int32) < (0 : Int32)))).2.1) (by decide) (by decide) kT) ?_
  show Goes _ _ _ _ (T2.setTop (mkF m 30 #[.val (.ref a), .val (.int (0 : Int32)), .val (.ref r2), uS] []))
  refine Goes.st (fun sT kT => XS.aloadN X2.here hx rfl (hb hby d6_30) rfl rfl kT) ?_
  show Goes _ _ _ _ (T2.setTop (mkF m 31 #[.val (.ref a), .val (.int (0 : Int32)), .val (.ref r2), uS] [(.ref a)]))
  refine Goes.st (fun sT kT => XS.iloadN X2.here hx rfl (hb hby d6_31) rfl kT) ?_
  show Goes _ _ _ _ (T2.setTop (mkF m 32 #[.val (.ref a), .val (.int (0 : Int32)), .val (.ref r2), uS] [(.int (0 : Int32)), (.ref a)]))
  refine Goes.st (fun sT kT => XS.iconst X2.here hx rfl (hb hby d6_32) kT) ?_
  show Goes _ _ _ _ (T2.setTop (mkF m 33 #[.val (.ref a), .val (.int (0 : Int32)), .val (.ref r2), uS] [(.int (1 : Int32)), (.int (0 : Int32)), (.ref a)]))
  refine Goes.st (fun sT kT => XS.iadd X2.here hx rfl (hb hby d6_33) rfl kT) ?_
  show Goes _ _ _ _ (T2.setTop (mkF m 34 #[.val (.ref a), .val (.int (0 : Int32)), .val (.ref r2), uS] [(.int (1 : Int32)), (.ref a)]))
  by_cases hkl : k + 1 = cs.length
  case pos =>
   have hq : (1 : Int32) = Int32.ofNat cs.length := by rw [← hkl, hkz]; rfl
   rw [hq]
   show Goes _ _ _ _ (T2.setTop (mkF m 34 #[.val (.ref a), .val (.int (0 : Int32)), .val (.ref r2), uS] [(.int (Int32.ofNat cs.length)), (.ref a)]))
   have f5 : Str Z T2.heap a t kb cs := (P0.keep K2 nin0 nin0)
   have f6 : Old Z n0 T2.heap := (P1.keep K2 all0)
   have f7 : Exa Z T2.heap a "java/lang/String" := (P0.1.keep K2)
   obtain ⟨cq4, kq4, q4a, q4b, q4c⟩ := isOf hZ2 rfl f7
   obtain ⟨_, _, ⟨T4, L4, k4, n4⟩, -, X4, hSr4, hgr4, ⟨Lc4, hQ4, l4, y4, z4, C4⟩, st4⟩ := X2.virtualBackS hx (y := (⟨"java/lang/String", "substring", "(I)Ljava/lang/String;"⟩ : MethodName)) (z := (⟨"java/lang/String", "substring", "(I)Ljava/lang/String;"⟩ : MethodName)) hown2 (mvT hZ2 (hw134 hw)) (mvT hZ2 (hw135 hw)) (notFace_of_selects (args := #[]) (mvT hZ2 (hw137 hw))) (mvT hZ2 (hw137 hw)) (mvT hZ2 (hw136 hw)) (by decide) (own_backW (W := 0) (xs := []) (rm_sub1E l Z a0 hw [] a t kb cs G1 vF T2.heap n0 (Nat.le_trans Z0 K2.1) f5 f6 O2 P5 OF rF (by omega) h4) hZ2 (hw138 hw) (hw11 hw) (by decide) (by decide) (own_EW hw) CR3.1 all0) q4a q4c (g := (mkF m 34 #[.val (.ref a), .val (.int (0 : Int32)), .val (.ref r2), uS] [(.int (Int32.ofNat cs.length)), (.ref a)])) rfl (by rw [hml]; rfl) (Steps.refl _) (argsL := [(.int (Int32.ofNat cs.length))]) (rest := []) (lenOf pd_16 rfl) rfl (by show 2 * 0 + _ ≤ _; exact Nat.le_of_eq rfl) (hb hby d6_34) (fun _ _ => ⟨rfl, rfl, (by decide : 2 + 2 ≤ _), (by decide : 4 + 4 ≤ _)⟩)
   dsimp only [Pt.U, Pt.locs, Pt.cells, Pt.slots] at X4 l4 y4 z4 st4 hQ4 hSr4 hgr4 C4
   subst l4 y4 z4
   obtain ⟨X4, hS4, hZ4, hown4⟩ := rebS hS2 (Nat.le_refl _) X4 hSr4 hgr4 hZ2 hown2
   obtain ⟨r4, tz4, kz4, rfl, N4q, K4, F4_0⟩ := hQ4
   have N4 := Fr.app N2 N4q
   have F4_0E := F4_0.1
   have CR8 : CHr Z EL s.vm h0 T4.vm T4.heap := CR3.trans (C4)
   refine Goes.tr st4 ?_
   show Goes _ _ _ _ (T4.setTop (mkF m 37 #[.val (.ref a), .val (.int (0 : Int32)), .val (.ref r2), uS] [(.ref r4)]))
   refine Goes.st (fun sT kT => XS.astoreN X4.here hx rfl (hb hby d6_37) rfl rfl (l' := #[.val (.ref a), .val (.int (0 : Int32)), .val (.ref r2), .val (.ref r4)]) rfl kT) ?_
   show Goes _ _ _ _ (T4.setTop (mkF m 38 #[.val (.ref a), .val (.int (0 : Int32)), .val (.ref r2), .val (.ref r4)] []))
   obtain ⟨T9, h9, X9, e9, E9, A9, D9, -, st9⟩ := newO X4 hx hZ4 hown4 (hw74 hw) (hw75 hw) (hw32 hw) rfl (g := (mkF m 38 #[.val (.ref a), .val (.int (0 : Int32)), .val (.ref r2), .val (.ref r4)] [])) rfl (hb hby d6_38) (by decide) (by decide)
   obtain ⟨b9, g9⟩ : ∃ z, z = T4.heap.size := ⟨_, rfl⟩
   rw [← g9] at A9 D9 st9
   have CR10 : CHr Z EL s.vm h0 T4.vm h9 := CR8.trans (CHr.ext E9 CR8.1)
   have F9_code : Fld Z h9 b9 "com/example/bolter/bolter/service/ParameterName" "code" "Ljava/lang/String;" .null := D9 (Or.inr (hw86 hw)) (ty := (.object "java/lang/String")) (by decide)
   have F9_modifier : Fld Z h9 b9 "com/example/bolter/bolter/service/ParameterName" "modifier" "Ljava/lang/String;" .null := D9 (Or.inr (hw88 hw)) (ty := (.object "java/lang/String")) (by decide)
   refine Goes.st st9 ?_
   show Goes _ _ _ _ (T9.setTop (mkF m 41 #[.val (.ref a), .val (.int (0 : Int32)), .val (.ref r2), .val (.ref r4)] [(.ref b9)]))
   refine Goes.st (fun sT kT => XS.dup X9.here hx rfl (hb hby d6_41) rfl rfl kT) ?_
   show Goes _ _ _ _ (T9.setTop (mkF m 42 #[.val (.ref a), .val (.int (0 : Int32)), .val (.ref r2), .val (.ref r4)] [(.ref b9), (.ref b9)]))
   refine Goes.st (fun sT kT => XS.aloadN X9.here hx rfl (hb hby d6_42) rfl rfl kT) ?_
   show Goes _ _ _ _ (T9.setTop (mkF m 43 #[.val (.ref a), .val (.int (0 : Int32)), .val (.ref r2), .val (.ref r4)] [(.ref r2), (.ref b9), (.ref b9)]))
   refine Goes.st (fun sT kT => XS.aloadN X9.here hx rfl (hb hby d6_43) rfl rfl kT) ?_
   show Goes _ _ _ _ (T9.setTop (mkF m 44 #[.val (.ref a), .val (.int (0 : Int32)), .val (.ref r2), .val (.ref r4)] [(.ref r4), (.ref r2), (.ref b9), (.ref b9)]))
   obtain ⟨_, _, ⟨T11, L11, k11, n11⟩, -, X11, ⟨Lc11, hQ11, l11, y11, z11⟩, st11⟩ := X9.specialBack hx (y := (⟨"com/example/bolter/bolter/service/ParameterName", "<init>", "(Ljava/lang/String;Ljava/lang/String;)V"⟩ : MethodName)) rfl hown4 (mvT hZ4 (hw76 hw)) (mvT hZ4 (hw77 hw)) (mvT hZ4 (hw78 hw)) (by decide) (backOf (W := 1) (rm_pinit l Z a0 hw [] b9 r2 (Value.ref r4) h9 n0 (Nat.le_trans Z0 (Nat.le_trans (Nat.le_trans K2.1 K4.1) E9.1)) A9 F9_code F9_modifier (Nat.le_trans Z0 (Nat.le_trans (Nat.le_trans K2.1 K4.1) (Nat.le_of_eq g9.symm))) rfl) hZ4 (hw78 hw) (hw32 hw) (by decide) (by decide)) (g := (mkF m 44 #[.val (.ref a), .val (.int (0 : Int32)), .val (.ref r2), .val (.ref r4)] [(.ref r4), (.ref r2), (.ref b9), (.ref b9)])) rfl (by rw [hml]; rfl) (Steps.refl _) (a := b9) (argsL := [(.ref r2), (.ref r4)]) (rest := [(.ref b9)]) (lenOf pd_15 rfl) rfl (by show 2 * 0 + _ ≤ _; exact Nat.le_of_eq rfl) (hb hby d6_44) (fun _ _ => ⟨rfl, e9, (by decide : 5 + 0 ≤ _), (by decide : 10 + 0 ≤ _)⟩)
   dsimp only [Pt.U, Pt.locs, Pt.cells, Pt.slots] at X11 l11 y11 z11 st11 hQ11
   subst l11 y11 z11
   obtain ⟨rfl, N11q, K11, F11_0, F11_1, F11_2⟩ := hQ11
   have N11 := Fr.app N4 N11q
   have hs12 : ∀ x ∈ ([b9] : List Addr), Safe Z EL T4.vm h9 x := (allS (Safe.exa hZ4.alike A9 (by decide) (by decide)) all0)
   have CR12 : CHr Z EL s.vm h0 T4.vm T11.heap := CR10.trans (CHr.keep K11 hs12 CR10.1)
   refine Goes.tr st11 ?_
   show Goes _ _ _ _ (T11.setTop (mkF m 47 #[.val (.ref a), .val (.int (0 : Int32)), .val (.ref r2), .val (.ref r4)] [(.ref b9)]))
   have f13 : Str Z T11.heap r2 tz2 kz2 [] := (((F2_0.keep K4 nin0 nin0).ext E9).keep K11 (ninS (Nat.ne_of_lt (Nat.lt_of_lt_of_le F2_0.1.lt (Nat.le_trans K4.1 (Nat.le_of_eq g9.symm)))) nin0) (ninS (Nat.ne_of_lt (Nat.lt_of_lt_of_le F2_0.ltT (Nat.le_trans K4.1 (Nat.le_of_eq g9.symm)))) nin0))
   have S14 : Str Z T11.heap r2 tz2 kz2 (cs.take k) := by rw [show cs.take k = [] from by rw [hkz]; simp]; exact f13
   have f15 : Str Z T11.heap r4 tz4 kz4 [] := ((F4_0.ext E9).keep K11 (ninS (Nat.ne_of_lt (Nat.lt_of_lt_of_le F4_0.1.lt (Nat.le_of_eq g9.symm))) nin0) (ninS (Nat.ne_of_lt (Nat.lt_of_lt_of_le F4_0.ltT (Nat.le_of_eq g9.symm))) nin0))
   have S16 : Str Z T11.heap r4 tz4 kz4 (cs.drop (k + 1)) := by rw [show cs.drop (k + 1) = [] from by rw [hkl]; simp]; exact f15
   have kp17 : Keep h0 T2.heap [] := (Keep.refl h0 []).trans K2 all0
   have kp18 : Keep h0 T4.heap [] := kp17.trans K4 all0
   have kp19 : Keep h0 h9 [] := kp18.ext E9
   have kp20 : Keep h0 T11.heap [] := kp19.trans K11 (allS (Or.inr (Nat.le_trans (Nat.le_trans K2.1 K4.1) (Nat.le_of_eq g9.symm))) all0)
   obtain ⟨fs, hr, hrun, hended, hRW⟩ := X11.leaveW hS4 (Nat.le_trans (Nat.le_trans (Nat.le_refl _) E9.1) K11.1) (v := some (.ref b9)) (fun h => by rw [Bd.returns] at h; cases h)
   subst hQQ
   have hCR : CHr Z EL s.vm s.heap T11.vm T11.heap := by rw [hh]; exact CR12.trans (CHv.at X11 hZ4 (own_EW hw) CR12.1)
   refine ⟨_, _, retR X11 hx Bd.returns rfl rfl (hb hby d6_47) hr, hrun, hended, _, _, rfl, ?_, hCR, own_REmono hRW (by decide) (by decide)⟩
   show Q_ofK Z a t kb cs G1 vF k h0 n0 _ T11.heap _
   exact ⟨b9, r2, tz2, kz2, r4, tz4, kz4, rfl, N11, kp20, F11_0, F11_1, F11_2, S14, S16, (Nat.le_trans (Nat.le_trans K2.1 K4.1) (Nat.le_of_eq g9.symm))⟩
  case neg =>
   have f22 : Str Z T2.heap a t kb cs := (P0.keep K2 nin0 nin0)
   have f23 : Old Z n0 T2.heap := (P1.keep K2 all0)
   have f24 : Exa Z T2.heap a "java/lang/String" := (P0.1.keep K2)
   obtain ⟨cq21, kq21, q21a, q21b, q21c⟩ := isOf hZ2 rfl f24
   obtain ⟨_, _, ⟨T21, L21, k21, n21⟩, -, X21, ⟨Lc21, hQ21, l21, y21, z21⟩, st21⟩ := X2.virtualBack hx (y := (⟨"java/lang/String", "substring", "(I)Ljava/lang/String;"⟩ : MethodName)) (z := (⟨"java/lang/String", "substring", "(I)Ljava/lang/String;"⟩ : MethodName)) hown2 (mvT hZ2 (hw134 hw)) (mvT hZ2 (hw135 hw)) (notFace_of_selects (args := #[]) (mvT hZ2 (hw137 hw))) (mvT hZ2 (hw137 hw)) (mvT hZ2 (hw136 hw)) (by decide) (backOf (W := 0) (rm_sub1P l Z a0 hw [] a t kb cs G1 vF 1 T2.heap n0 (Nat.le_trans Z0 K2.1) f22 f23 O2 P5 OF rF (by omega) (by omega) h4) hZ2 (hw138 hw) (hw11 hw) (by decide) (by decide)) q21a q21c (g := (mkF m 34 #[.val (.ref a), .val (.int (0 : Int32)), .val (.ref r2), uS] [(.int (1 : Int32)), (.ref a)])) rfl (by rw [hml]; rfl) (Steps.refl _) (argsL := [(.int (1 : Int32))]) (rest := []) (lenOf pd_16 rfl) rfl (by show 2 * 0 + _ ≤ _; exact Nat.le_of_eq rfl) (hb hby d6_34) (fun _ _ => ⟨rfl, rfl, (by decide : 2 + 2 ≤ _), (by decide : 4 + 8 ≤ _)⟩)
   dsimp only [Pt.U, Pt.locs, Pt.cells, Pt.slots] at X21 l21 y21 z21 st21 hQ21
   subst l21 y21 z21
   obtain ⟨r21, tz21, kz21, rfl, N21q, K21, F21_0, lo21_0, lo21_1⟩ := hQ21
   have N21 := Fr.app N2 N21q
   have F21_0E := F21_0.1
   have hs25 : ∀ x ∈ ([] : List Addr), Safe Z EL T2.vm T2.heap x := all0
   have CR25 : CHr Z EL s.vm h0 T2.vm T21.heap := CR3.trans (CHr.keep K21 hs25 CR3.1)
   refine Goes.tr st21 ?_
   show Goes _ _ _ _ (T21.setTop (mkF m 37 #[.val (.ref a), .val (.int (0 : Int32)), .val (.ref r2), uS] [(.ref r21)]))
   refine Goes.st (fun sT kT => XS.astoreN X21.here hx rfl (hb hby d6_37) rfl rfl (l' := #[.val (.ref a), .val (.int (0 : Int32)), .val (.ref r2), .val (.ref r21)]) rfl kT) ?_
   show Goes _ _ _ _ (T21.setTop (mkF m 38 #[.val (.ref a), .val (.int (0 : Int32)), .val (.ref r2), .val (.ref r21)] []))
   obtain ⟨T26, h26, X26, e26, E26, A26, D26, -, st26⟩ := newO X21 hx hZ2 hown2 (hw74 hw) (hw75 hw) (hw32 hw) rfl (g := (mkF m 38 #[.val (.ref a), .val (.int (0 : Int32)), .val (.ref r2), .val (.ref r21)] [])) rfl (hb hby d6_38) (by decide) (by decide)
   obtain ⟨b26, g26⟩ : ∃ z, z = T21.heap.size := ⟨_, rfl⟩
   rw [← g26] at A26 D26 st26
   have CR27 : CHr Z EL s.vm h0 T2.vm h26 := CR25.trans (CHr.ext E26 CR25.1)
   have F26_code : Fld Z h26 b26 "com/example/bolter/bolter/service/ParameterName" "code" "Ljava/lang/String;" .null := D26 (Or.inr (hw86 hw)) (ty := (.object "java/lang/String")) (by decide)
   have F26_modifier : Fld Z h26 b26 "com/example/bolter/bolter/service/ParameterName" "modifier" "Ljava/lang/String;" .null := D26 (Or.inr (hw88 hw)) (ty := (.object "java/lang/String")) (by decide)
   refine Goes.st st26 ?_
   show Goes _ _ _ _ (T26.setTop (mkF m 41 #[.val (.ref a), .val (.int (0 : Int32)), .val (.ref r2), .val (.ref r21)] [(.ref b26)]))
   refine Goes.st (fun sT kT => XS.dup X26.here hx rfl (hb hby d6_41) rfl rfl kT) ?_
   show Goes _ _ _ _ (T26.setTop (mkF m 42 #[.val (.ref a), .val (.int (0 : Int32)), .val (.ref r2), .val (.ref r21)] [(.ref b26), (.ref b26)]))
   refine Goes.st (fun sT kT => XS.aloadN X26.here hx rfl (hb hby d6_42) rfl rfl kT) ?_
   show Goes _ _ _ _ (T26.setTop (mkF m 43 #[.val (.ref a), .val (.int (0 : Int32)), .val (.ref r2), .val (.ref r21)] [(.ref r2), (.ref b26), (.ref b26)]))
   refine Goes.st (fun sT kT => XS.aloadN X26.here hx rfl (hb hby d6_43) rfl rfl kT) ?_
   show Goes _ _ _ _ (T26.setTop (mkF m 44 #[.val (.ref a), .val (.int (0 : Int32)), .val (.ref r2), .val (.ref r21)] [(.ref r21), (.ref r2), (.ref b26), (.ref b26)]))
   obtain ⟨_, _, ⟨T28, L28, k28, n28⟩, -, X28, ⟨Lc28, hQ28, l28, y28, z28⟩, st28⟩ := X26.specialBack hx (y := (⟨"com/example/bolter/bolter/service/ParameterName", "<init>", "(Ljava/lang/String;Ljava/lang/String;)V"⟩ : MethodName)) rfl hown2 (mvT hZ2 (hw76 hw)) (mvT hZ2 (hw77 hw)) (mvT hZ2 (hw78 hw)) (by decide) (backOf (W := 1) (rm_pinit l Z a0 hw [] b26 r2 (Value.ref r21) h26 n0 (Nat.le_trans Z0 (Nat.le_trans (Nat.le_trans K2.1 K21.1) E26.1)) A26 F26_code F26_modifier (Nat.le_trans Z0 (Nat.le_trans (Nat.le_trans K2.1 K21.1) (Nat.le_of_eq g26.symm))) rfl) hZ2 (hw78 hw) (hw32 hw) (by decide) (by decide)) (g := (mkF m 44 #[.val (.ref a), .val (.int (0 : Int32)), .val (.ref r2), .val (.ref r21)] [(.ref r21), (.ref r2), (.ref b26), (.ref b26)])) rfl (by rw [hml]; rfl) (Steps.refl _) (a := b26) (argsL := [(.ref r2), (.ref r21)]) (rest := [(.ref b26)]) (lenOf pd_15 rfl) rfl (by show 2 * 0 + _ ≤ _; exact Nat.le_of_eq rfl) (hb hby d6_44) (fun _ _ => ⟨rfl, e26, (by decide : 5 + 0 ≤ _), (by decide : 14 + 0 ≤ _)⟩)
   dsimp only [Pt.U, Pt.locs, Pt.cells, Pt.slots] at X28 l28 y28 z28 st28 hQ28
   subst l28 y28 z28
   obtain ⟨rfl, N28q, K28, F28_0, F28_1, F28_2⟩ := hQ28
   have N28 := Fr.app N21 N28q
   have hs29 : ∀ x ∈ ([b26] : List Addr), Safe Z EL T2.vm h26 x := (allS (Safe.exa hZ2.alike A26 (by decide) (by decide)) all0)
   have CR29 : CHr Z EL s.vm h0 T2.vm T28.heap := CR27.trans (CHr.keep K28 hs29 CR27.1)
   refine Goes.tr st28 ?_
   show Goes _ _ _ _ (T28.setTop (mkF m 47 #[.val (.ref a), .val (.int (0 : Int32)), .val (.ref r2), .val (.ref r21)] [(.ref b26)]))
   have f30 : Str Z T28.heap r2 tz2 kz2 [] := (((F2_0.keep K21 nin0 nin0).ext E26).keep K28 (ninS (Nat.ne_of_lt (Nat.lt_of_lt_of_le F2_0.1.lt (Nat.le_trans K21.1 (Nat.le_of_eq g26.symm)))) nin0) (ninS (Nat.ne_of_lt (Nat.lt_of_lt_of_le F2_0.ltT (Nat.le_trans K21.1 (Nat.le_of_eq g26.symm)))) nin0))
   have S31 : Str Z T28.heap r2 tz2 kz2 (cs.take k) := by rw [show cs.take k = [] from by rw [hkz]; simp]; exact f30
   have f32 : Str Z T28.heap r21 tz21 kz21 ((cs.drop 1).take (cs.length - 1)) := ((F21_0.ext E26).keep K28 (ninS (Nat.ne_of_lt (Nat.lt_of_lt_of_le F21_0.1.lt (Nat.le_of_eq g26.symm))) nin0) (ninS (Nat.ne_of_lt (Nat.lt_of_lt_of_le F21_0.ltT (Nat.le_of_eq g26.symm))) nin0))
   have S33 : Str Z T28.heap r21 tz21 kz21 (cs.drop (k + 1)) := by rw [show cs.drop (k + 1) = ((cs.drop 1).take (cs.length - 1)) from by rw [hkz]; rw [List.take_of_length_le (by simp)]]; exact f32
   have kp34 : Keep h0 T2.heap [] := (Keep.refl h0 []).trans K2 all0
   have kp35 : Keep h0 T21.heap [] := kp34.trans K21 all0
   have kp36 : Keep h0 h26 [] := kp35.ext E26
   have kp37 : Keep h0 T28.heap [] := kp36.trans K28 (allS (Or.inr (Nat.le_trans (Nat.le_trans K2.1 K21.1) (Nat.le_of_eq g26.symm))) all0)
   obtain ⟨fs, hr, hrun, hended, hRW⟩ := X28.leaveW hS2 (Nat.le_trans (Nat.le_trans (Nat.le_trans (Nat.le_refl _) K21.1) E26.1) K28.1) (v := some (.ref b26)) (fun h => by rw [Bd.returns] at h; cases h)
   subst hQQ
   have hCR : CHr Z EL s.vm s.heap T28.vm T28.heap := by rw [hh]; exact CR29.trans (CHv.at X28 hZ2 (own_EW hw) CR29.1)
   refine ⟨_, _, retR X28 hx Bd.returns rfl rfl (hb hby d6_47) hr, hrun, hended, _, _, rfl, ?_, hCR, own_REmono hRW (by decide) (by decide)⟩
   show Q_ofK Z a t kb cs G1 vF k h0 n0 _ T28.heap _
   exact ⟨b26, r2, tz2, kz2, r21, tz21, kz21, rfl, N28, kp37, F28_0, F28_1, F28_2, S31, S33, (Nat.le_trans (Nat.le_trans K2.1 K21.1) (Nat.le_of_eq g26.symm))⟩
 case neg =>
  refine Goes.st (fun sT kT => XS.aloadN X1.here hx rfl (hb hby d6_15) rfl rfl kT) ?_
  show Goes _ _ _ _ (T1.setTop (mkF m 16 #[.val (.ref a), .val (.int (Int32.ofNat k)), uS, uS] [(.ref a)]))
  refine Goes.st (fun sT kT => XS.iconst X1.here hx rfl (hb hby d6_16) kT) ?_
  show Goes _ _ _ _ (T1.setTop (mkF m 17 #[.val (.ref a), .val (.int (Int32.ofNat k)), uS, uS] [(.int (0 : Int32)), (.ref a)]))
  refine Goes.st (fun sT kT => XS.iloadN X1.here hx rfl (hb hby d6_17) rfl kT) ?_
  show Goes _ _ _ _ (T1.setTop (mkF m 18 #[.val (.ref a), .val (.int (Int32.ofNat k)), uS, uS] [(.int (Int32.ofNat k)), (.int (0 : Int32)), (.ref a)]))
  obtain ⟨cq38, kq38, q38a, q38b, q38c⟩ := isOf hZ K1 P0.1
  obtain ⟨_, _, ⟨T38, L38, k38, n38⟩, -, X38, ⟨Lc38, hQ38, l38, y38, z38⟩, st38⟩ := X1.virtualBack hx (y := (⟨"java/lang/String", "substring", "(II)Ljava/lang/String;"⟩ : MethodName)) (z := (⟨"java/lang/String", "substring", "(II)Ljava/lang/String;"⟩ : MethodName)) hown (mvT hZ (hw117 hw)) (mvT hZ (hw118 hw)) (notFace_of_selects (args := #[]) (mvT hZ (hw120 hw))) (mvT hZ (hw120 hw)) (mvT hZ (hw119 hw)) (by decide) (backOf (W := 0) (rm_subP l Z a0 hw [] a t kb cs G1 vF 0 k h0 n0 Z0 P0 P1 O2 P5 OF rF (by omega) (by omega) h4 (by omega)) hZ (hw121 hw) (hw11 hw) (by decide) (by decide)) q38a q38c (g := (mkF m 18 #[.val (.ref a), .val (.int (Int32.ofNat k)), uS, uS] [(.int (Int32.ofNat k)), (.int (0 : Int32)), (.ref a)])) rfl (by rw [hml]; rfl) (Steps.refl _) (argsL := [(.int (0 : Int32)), (.int (Int32.ofNat k))]) (rest := []) (lenOf pd_12 rfl) rfl (by show 2 * 0 + _ ≤ _; exact Nat.le_of_eq rfl) (hb hby d6_18) (fun _ _ => ⟨rfl, K1, (by decide : 0 + 2 ≤ _), (by decide : 0 + 8 ≤ _)⟩)
  dsimp only [Pt.U, Pt.locs, Pt.cells, Pt.slots] at X38 l38 y38 z38 st38 hQ38
  subst l38 y38 z38
  obtain ⟨r38, tz38, kz38, rfl, N38q, K38, F38_0, lo38_0, lo38_1⟩ := hQ38
  have N38 := Fr.app N1 N38q
  have F38_0E := F38_0.1
  have hs39 : ∀ x ∈ ([] : List Addr), Safe Z EL s.vm h0 x := all0
  have CR39 : CHr Z EL s.vm h0 s.vm T38.heap := CR0.trans (CHr.keep K38 hs39 CR0.1)
  refine Goes.tr st38 ?_
  show Goes _ _ _ _ (T38.setTop (mkF m 21 #[.val (.ref a), .val (.int (Int32.ofNat k)), uS, uS] [(.ref r38)]))
  refine Goes.st (fun sT kT => XS.astoreN X38.here hx rfl (hb hby d6_21) rfl rfl (l' := #[.val (.ref a), .val (.int (Int32.ofNat k)), .val (.ref r38), uS]) rfl kT) ?_
  show Goes _ _ _ _ (T38.setTop (mkF m 22 #[.val (.ref a), .val (.int (Int32.ofNat k)), .val (.ref r38), uS] []))
  refine Goes.st (fun sT kT => XS.iloadN X38.here hx rfl (hb hby d6_22) rfl kT) ?_
  show Goes _ _ _ _ (T38.setTop (mkF m 23 #[.val (.ref a), .val (.int (Int32.ofNat k)), .val (.ref r38), uS] [(.int (Int32.ofNat k))]))
  refine Goes.st (fun sT kT => XS.ifYes X38.here hx rfl (pc0 := 23) (pc' := 30) rfl (hb hby d6_23) rfl ((if0 _ _).trans (flt (own_nneg (by omega))).2.1) (by decide) (by decide) kT) ?_
  show Goes _ _ _ _ (T38.setTop (mkF m 30 #[.val (.ref a), .val (.int (Int32.ofNat k)), .val (.ref r38), uS] []))
  refine Goes.st (fun sT kT => XS.aloadN X38.here hx rfl (hb hby d6_30) rfl rfl kT) ?_
  show Goes _ _ _ _ (T38.setTop (mkF m 31 #[.val (.ref a), .val (.int (Int32.ofNat k)), .val (.ref r38), uS] [(.ref a)]))
  refine Goes.st (fun sT kT => XS.iloadN X38.here hx rfl (hb hby d6_31) rfl kT) ?_
  show Goes _ _ _ _ (T38.setTop (mkF m 32 #[.val (.ref a), .val (.int (Int32.ofNat k)), .val (.ref r38), uS] [(.int (Int32.ofNat k)), (.ref a)]))
  refine Goes.st (fun sT kT => XS.iconst X38.here hx rfl (hb hby d6_32) kT) ?_
  show Goes _ _ _ _ (T38.setTop (mkF m 33 #[.val (.ref a), .val (.int (Int32.ofNat k)), .val (.ref r38), uS] [(.int (1 : Int32)), (.int (Int32.ofNat k)), (.ref a)]))
  refine Goes.st (fun sT kT => XS.iadd X38.here hx rfl (hb hby d6_33) rfl kT) ?_
  show Goes _ _ _ _ (T38.setTop (mkF m 34 #[.val (.ref a), .val (.int (Int32.ofNat k)), .val (.ref r38), uS] [(.int ((Int32.ofNat k) + (1 : Int32))), (.ref a)]))
  rw [own_nadd1]
  show Goes _ _ _ _ (T38.setTop (mkF m 34 #[.val (.ref a), .val (.int (Int32.ofNat k)), .val (.ref r38), uS] [(.int (Int32.ofNat (k + 1))), (.ref a)]))
  by_cases hkl : k + 1 = cs.length
  case pos =>
   have hq : ((Int32.ofNat (k + 1)) : Int32) = Int32.ofNat cs.length := by rw [← hkl]
   rw [hq]
   show Goes _ _ _ _ (T38.setTop (mkF m 34 #[.val (.ref a), .val (.int (Int32.ofNat k)), .val (.ref r38), uS] [(.int (Int32.ofNat cs.length)), (.ref a)]))
   have f41 : Str Z T38.heap a t kb cs := (P0.keep K38 nin0 nin0)
   have f42 : Old Z n0 T38.heap := (P1.keep K38 all0)
   have f43 : Exa Z T38.heap a "java/lang/String" := (P0.1.keep K38)
   obtain ⟨cq40, kq40, q40a, q40b, q40c⟩ := isOf hZ rfl f43
   obtain ⟨_, _, ⟨T40, L40, k40, n40⟩, -, X40, hSr40, hgr40, ⟨Lc40, hQ40, l40, y40, z40, C40⟩, st40⟩ := X38.virtualBackS hx (y := (⟨"java/lang/String", "substring", "(I)Ljava/lang/String;"⟩ : MethodName)) (z := (⟨"java/lang/String", "substring", "(I)Ljava/lang/String;"⟩ : MethodName)) hown (mvT hZ (hw134 hw)) (mvT hZ (hw135 hw)) (notFace_of_selects (args := #[]) (mvT hZ (hw137 hw))) (mvT hZ (hw137 hw)) (mvT hZ (hw136 hw)) (by decide) (own_backW (W := 0) (xs := []) (rm_sub1E l Z a0 hw [] a t kb cs G1 vF T38.heap n0 (Nat.le_trans Z0 K38.1) f41 f42 O2 P5 OF rF (by omega) h4) hZ (hw138 hw) (hw11 hw) (by decide) (by decide) (own_EW hw) CR39.1 all0) q40a q40c (g := (mkF m 34 #[.val (.ref a), .val (.int (Int32.ofNat k)), .val (.ref r38), uS] [(.int (Int32.ofNat cs.length)), (.ref a)])) rfl (by rw [hml]; rfl) (Steps.refl _) (argsL := [(.int (Int32.ofNat cs.length))]) (rest := []) (lenOf pd_16 rfl) rfl (by show 2 * 0 + _ ≤ _; exact Nat.le_of_eq rfl) (hb hby d6_34) (fun _ _ => ⟨rfl, rfl, (by decide : 2 + 2 ≤ _), (by decide : 8 + 4 ≤ _)⟩)
   dsimp only [Pt.U, Pt.locs, Pt.cells, Pt.slots] at X40 l40 y40 z40 st40 hQ40 hSr40 hgr40 C40
   subst l40 y40 z40
   obtain ⟨X40, hS40, hZ40, hown40⟩ := rebS hS0 (Nat.le_trans hk0 K38.1) X40 hSr40 hgr40 hZ hown
   obtain ⟨r40, tz40, kz40, rfl, N40q, K40, F40_0⟩ := hQ40
   have N40 := Fr.app N38 N40q
   have F40_0E := F40_0.1
   have CR44 : CHr Z EL s.vm h0 T40.vm T40.heap := CR39.trans (C40)
   refine Goes.tr st40 ?_
   show Goes _ _ _ _ (T40.setTop (mkF m 37 #[.val (.ref a), .val (.int (Int32.ofNat k)), .val (.ref r38), uS] [(.ref r40)]))
   refine Goes.st (fun sT kT => XS.astoreN X40.here hx rfl (hb hby d6_37) rfl rfl (l' := #[.val (.ref a), .val (.int (Int32.ofNat k)), .val (.ref r38), .val (.ref r40)]) rfl kT) ?_
   show Goes _ _ _ _ (T40.setTop (mkF m 38 #[.val (.ref a), .val (.int (Int32.ofNat k)), .val (.ref r38), .val (.ref r40)] []))
   obtain ⟨T45, h45, X45, e45, E45, A45, D45, -, st45⟩ := newO X40 hx hZ40 hown40 (hw74 hw) (hw75 hw) (hw32 hw) rfl (g := (mkF m 38 #[.val (.ref a), .val (.int (Int32.ofNat k)), .val (.ref r38), .val (.ref r40)] [])) rfl (hb hby d6_38) (by decide) (by decide)
   obtain ⟨b45, g45⟩ : ∃ z, z = T40.heap.size := ⟨_, rfl⟩
   rw [← g45] at A45 D45 st45
   have CR46 : CHr Z EL s.vm h0 T40.vm h45 := CR44.trans (CHr.ext E45 CR44.1)
   have F45_code : Fld Z h45 b45 "com/example/bolter/bolter/service/ParameterName" "code" "Ljava/lang/String;" .null := D45 (Or.inr (hw86 hw)) (ty := (.object "java/lang/String")) (by decide)
   have F45_modifier : Fld Z h45 b45 "com/example/bolter/bolter/service/ParameterName" "modifier" "Ljava/lang/String;" .null := D45 (Or.inr (hw88 hw)) (ty := (.object "java/lang/String")) (by decide)
   refine Goes.st st45 ?_
   show Goes _ _ _ _ (T45.setTop (mkF m 41 #[.val (.ref a), .val (.int (Int32.ofNat k)), .val (.ref r38), .val (.ref r40)] [(.ref b45)]))
   refine Goes.st (fun sT kT => XS.dup X45.here hx rfl (hb hby d6_41) rfl rfl kT) ?_
   show Goes _ _ _ _ (T45.setTop (mkF m 42 #[.val (.ref a), .val (.int (Int32.ofNat k)), .val (.ref r38), .val (.ref r40)] [(.ref b45), (.ref b45)]))
   refine Goes.st (fun sT kT => XS.aloadN X45.here hx rfl (hb hby d6_42) rfl rfl kT) ?_
   show Goes _ _ _ _ (T45.setTop (mkF m 43 #[.val (.ref a), .val (.int (Int32.ofNat k)), .val (.ref r38), .val (.ref r40)] [(.ref r38), (.ref b45), (.ref b45)]))
   refine Goes.st (fun sT kT => XS.aloadN X45.here hx rfl (hb hby d6_43) rfl rfl kT) ?_
   show Goes _ _ _ _ (T45.setTop (mkF m 44 #[.val (.ref a), .val (.int (Int32.ofNat k)), .val (.ref r38), .val (.ref r40)] [(.ref r40), (.ref r38), (.ref b45), (.ref b45)]))
   obtain ⟨_, _, ⟨T47, L47, k47, n47⟩, -, X47, ⟨Lc47, hQ47, l47, y47, z47⟩, st47⟩ := X45.specialBack hx (y := (⟨"com/example/bolter/bolter/service/ParameterName", "<init>", "(Ljava/lang/String;Ljava/lang/String;)V"⟩ : MethodName)) rfl hown40 (mvT hZ40 (hw76 hw)) (mvT hZ40 (hw77 hw)) (mvT hZ40 (hw78 hw)) (by decide) (backOf (W := 1) (rm_pinit l Z a0 hw [] b45 r38 (Value.ref r40) h45 n0 (Nat.le_trans Z0 (Nat.le_trans (Nat.le_trans K38.1 K40.1) E45.1)) A45 F45_code F45_modifier (Nat.le_trans Z0 (Nat.le_trans (Nat.le_trans K38.1 K40.1) (Nat.le_of_eq g45.symm))) rfl) hZ40 (hw78 hw) (hw32 hw) (by decide) (by decide)) (g := (mkF m 44 #[.val (.ref a), .val (.int (Int32.ofNat k)), .val (.ref r38), .val (.ref r40)] [(.ref r40), (.ref r38), (.ref b45), (.ref b45)])) rfl (by rw [hml]; rfl) (Steps.refl _) (a := b45) (argsL := [(.ref r38), (.ref r40)]) (rest := [(.ref b45)]) (lenOf pd_15 rfl) rfl (by show 2 * 0 + _ ≤ _; exact Nat.le_of_eq rfl) (hb hby d6_44) (fun _ _ => ⟨rfl, e45, (by decide : 5 + 0 ≤ _), (by decide : 14 + 0 ≤ _)⟩)
   dsimp only [Pt.U, Pt.locs, Pt.cells, Pt.slots] at X47 l47 y47 z47 st47 hQ47
   subst l47 y47 z47
   obtain ⟨rfl, N47q, K47, F47_0, F47_1, F47_2⟩ := hQ47
   have N47 := Fr.app N40 N47q
   have hs48 : ∀ x ∈ ([b45] : List Addr), Safe Z EL T40.vm h45 x := (allS (Safe.exa hZ40.alike A45 (by decide) (by decide)) all0)
   have CR48 : CHr Z EL s.vm h0 T40.vm T47.heap := CR46.trans (CHr.keep K47 hs48 CR46.1)
   refine Goes.tr st47 ?_
   show Goes _ _ _ _ (T47.setTop (mkF m 47 #[.val (.ref a), .val (.int (Int32.ofNat k)), .val (.ref r38), .val (.ref r40)] [(.ref b45)]))
   have f49 : Str Z T47.heap r38 tz38 kz38 ((cs.drop 0).take (k - 0)) := (((F38_0.keep K40 nin0 nin0).ext E45).keep K47 (ninS (Nat.ne_of_lt (Nat.lt_of_lt_of_le F38_0.1.lt (Nat.le_trans K40.1 (Nat.le_of_eq g45.symm)))) nin0) (ninS (Nat.ne_of_lt (Nat.lt_of_lt_of_le F38_0.ltT (Nat.le_trans K40.1 (Nat.le_of_eq g45.symm)))) nin0))
   have S50 : Str Z T47.heap r38 tz38 kz38 (cs.take k) := by rw [show cs.take k = ((cs.drop 0).take (k - 0)) from by simp]; exact f49
   have f51 : Str Z T47.heap r40 tz40 kz40 [] := ((F40_0.ext E45).keep K47 (ninS (Nat.ne_of_lt (Nat.lt_of_lt_of_le F40_0.1.lt (Nat.le_of_eq g45.symm))) nin0) (ninS (Nat.ne_of_lt (Nat.lt_of_lt_of_le F40_0.ltT (Nat.le_of_eq g45.symm))) nin0))
   have S52 : Str Z T47.heap r40 tz40 kz40 (cs.drop (k + 1)) := by rw [show cs.drop (k + 1) = [] from by rw [hkl]; simp]; exact f51
   have kp53 : Keep h0 T38.heap [] := (Keep.refl h0 []).trans K38 all0
   have kp54 : Keep h0 T40.heap [] := kp53.trans K40 all0
   have kp55 : Keep h0 h45 [] := kp54.ext E45
   have kp56 : Keep h0 T47.heap [] := kp55.trans K47 (allS (Or.inr (Nat.le_trans (Nat.le_trans K38.1 K40.1) (Nat.le_of_eq g45.symm))) all0)
   obtain ⟨fs, hr, hrun, hended, hRW⟩ := X47.leaveW hS40 (Nat.le_trans (Nat.le_trans (Nat.le_refl _) E45.1) K47.1) (v := some (.ref b45)) (fun h => by rw [Bd.returns] at h; cases h)
   subst hQQ
   have hCR : CHr Z EL s.vm s.heap T47.vm T47.heap := by rw [hh]; exact CR48.trans (CHv.at X47 hZ40 (own_EW hw) CR48.1)
   refine ⟨_, _, retR X47 hx Bd.returns rfl rfl (hb hby d6_47) hr, hrun, hended, _, _, rfl, ?_, hCR, own_REmono hRW (by decide) (by decide)⟩
   show Q_ofK Z a t kb cs G1 vF k h0 n0 _ T47.heap _
   exact ⟨b45, r38, tz38, kz38, r40, tz40, kz40, rfl, N47, kp56, F47_0, F47_1, F47_2, S50, S52, (Nat.le_trans (Nat.le_trans K38.1 K40.1) (Nat.le_of_eq g45.symm))⟩
  case neg =>
   have f58 : Str Z T38.heap a t kb cs := (P0.keep K38 nin0 nin0)
   have f59 : Old Z n0 T38.heap := (P1.keep K38 all0)
   have f60 : Exa Z T38.heap a "java/lang/String" := (P0.1.keep K38)
   obtain ⟨cq57, kq57, q57a, q57b, q57c⟩ := isOf hZ rfl f60
   obtain ⟨_, _, ⟨T57, L57, k57, n57⟩, -, X57, ⟨Lc57, hQ57, l57, y57, z57⟩, st57⟩ := X38.virtualBack hx (y := (⟨"java/lang/String", "substring", "(I)Ljava/lang/String;"⟩ : MethodName)) (z := (⟨"java/lang/String", "substring", "(I)Ljava/lang/String;"⟩ : MethodName)) hown (mvT hZ (hw134 hw)) (mvT hZ (hw135 hw)) (notFace_of_selects (args := #[]) (mvT hZ (hw137 hw))) (mvT hZ (hw137 hw)) (mvT hZ (hw136 hw)) (by decide) (backOf (W := 0) (rm_sub1P l Z a0 hw [] a t kb cs G1 vF (k + 1) T38.heap n0 (Nat.le_trans Z0 K38.1) f58 f59 O2 P5 OF rF (by omega) (by omega) h4) hZ (hw138 hw) (hw11 hw) (by decide) (by decide)) q57a q57c (g := (mkF m 34 #[.val (.ref a), .val (.int (Int32.ofNat k)), .val (.ref r38), uS] [(.int (Int32.ofNat (k + 1))), (.ref a)])) rfl (by rw [hml]; rfl) (Steps.refl _) (argsL := [(.int (Int32.ofNat (k + 1)))]) (rest := []) (lenOf pd_16 rfl) rfl (by show 2 * 0 + _ ≤ _; exact Nat.le_of_eq rfl) (hb hby d6_34) (fun _ _ => ⟨rfl, rfl, (by decide : 2 + 2 ≤ _), (by decide : 8 + 8 ≤ _)⟩)
   dsimp only [Pt.U, Pt.locs, Pt.cells, Pt.slots] at X57 l57 y57 z57 st57 hQ57
   subst l57 y57 z57
   obtain ⟨r57, tz57, kz57, rfl, N57q, K57, F57_0, lo57_0, lo57_1⟩ := hQ57
   have N57 := Fr.app N38 N57q
   have F57_0E := F57_0.1
   have hs61 : ∀ x ∈ ([] : List Addr), Safe Z EL s.vm T38.heap x := all0
   have CR61 : CHr Z EL s.vm h0 s.vm T57.heap := CR39.trans (CHr.keep K57 hs61 CR39.1)
   refine Goes.tr st57 ?_
   show Goes _ _ _ _ (T57.setTop (mkF m 37 #[.val (.ref a), .val (.int (Int32.ofNat k)), .val (.ref r38), uS] [(.ref r57)]))
   refine Goes.st (fun sT kT => XS.astoreN X57.here hx rfl (hb hby d6_37) rfl rfl (l' := #[.val (.ref a), .val (.int (Int32.ofNat k)), .val (.ref r38), .val (.ref r57)]) rfl kT) ?_
   show Goes _ _ _ _ (T57.setTop (mkF m 38 #[.val (.ref a), .val (.int (Int32.ofNat k)), .val (.ref r38), .val (.ref r57)] []))
   obtain ⟨T62, h62, X62, e62, E62, A62, D62, -, st62⟩ := newO X57 hx hZ hown (hw74 hw) (hw75 hw) (hw32 hw) rfl (g := (mkF m 38 #[.val (.ref a), .val (.int (Int32.ofNat k)), .val (.ref r38), .val (.ref r57)] [])) rfl (hb hby d6_38) (by decide) (by decide)
   obtain ⟨b62, g62⟩ : ∃ z, z = T57.heap.size := ⟨_, rfl⟩
   rw [← g62] at A62 D62 st62
   have CR63 : CHr Z EL s.vm h0 s.vm h62 := CR61.trans (CHr.ext E62 CR61.1)
   have F62_code : Fld Z h62 b62 "com/example/bolter/bolter/service/ParameterName" "code" "Ljava/lang/String;" .null := D62 (Or.inr (hw86 hw)) (ty := (.object "java/lang/String")) (by decide)
   have F62_modifier : Fld Z h62 b62 "com/example/bolter/bolter/service/ParameterName" "modifier" "Ljava/lang/String;" .null := D62 (Or.inr (hw88 hw)) (ty := (.object "java/lang/String")) (by decide)
   refine Goes.st st62 ?_
   show Goes _ _ _ _ (T62.setTop (mkF m 41 #[.val (.ref a), .val (.int (Int32.ofNat k)), .val (.ref r38), .val (.ref r57)] [(.ref b62)]))
   refine Goes.st (fun sT kT => XS.dup X62.here hx rfl (hb hby d6_41) rfl rfl kT) ?_
   show Goes _ _ _ _ (T62.setTop (mkF m 42 #[.val (.ref a), .val (.int (Int32.ofNat k)), .val (.ref r38), .val (.ref r57)] [(.ref b62), (.ref b62)]))
   refine Goes.st (fun sT kT => XS.aloadN X62.here hx rfl (hb hby d6_42) rfl rfl kT) ?_
   show Goes _ _ _ _ (T62.setTop (mkF m 43 #[.val (.ref a), .val (.int (Int32.ofNat k)), .val (.ref r38), .val (.ref r57)] [(.ref r38), (.ref b62), (.ref b62)]))
   refine Goes.st (fun sT kT => XS.aloadN X62.here hx rfl (hb hby d6_43) rfl rfl kT) ?_
   show Goes _ _ _ _ (T62.setTop (mkF m 44 #[.val (.ref a), .val (.int (Int32.ofNat k)), .val (.ref r38), .val (.ref r57)] [(.ref r57), (.ref r38), (.ref b62), (.ref b62)]))
   obtain ⟨_, _, ⟨T64, L64, k64, n64⟩, -, X64, ⟨Lc64, hQ64, l64, y64, z64⟩, st64⟩ := X62.specialBack hx (y := (⟨"com/example/bolter/bolter/service/ParameterName", "<init>", "(Ljava/lang/String;Ljava/lang/String;)V"⟩ : MethodName)) rfl hown (mvT hZ (hw76 hw)) (mvT hZ (hw77 hw)) (mvT hZ (hw78 hw)) (by decide) (backOf (W := 1) (rm_pinit l Z a0 hw [] b62 r38 (Value.ref r57) h62 n0 (Nat.le_trans Z0 (Nat.le_trans (Nat.le_trans K38.1 K57.1) E62.1)) A62 F62_code F62_modifier (Nat.le_trans Z0 (Nat.le_trans (Nat.le_trans K38.1 K57.1) (Nat.le_of_eq g62.symm))) rfl) hZ (hw78 hw) (hw32 hw) (by decide) (by decide)) (g := (mkF m 44 #[.val (.ref a), .val (.int (Int32.ofNat k)), .val (.ref r38), .val (.ref r57)] [(.ref r57), (.ref r38), (.ref b62), (.ref b62)])) rfl (by rw [hml]; rfl) (Steps.refl _) (a := b62) (argsL := [(.ref r38), (.ref r57)]) (rest := [(.ref b62)]) (lenOf pd_15 rfl) rfl (by show 2 * 0 + _ ≤ _; exact Nat.le_of_eq rfl) (hb hby d6_44) (fun _ _ => ⟨rfl, e62, (by decide : 5 + 0 ≤ _), (by decide : 18 + 0 ≤ _)⟩)
   dsimp only [Pt.U, Pt.locs, Pt.cells, Pt.slots] at X64 l64 y64 z64 st64 hQ64
   subst l64 y64 z64
   obtain ⟨rfl, N64q, K64, F64_0, F64_1, F64_2⟩ := hQ64
   have N64 := Fr.app N57 N64q
   have hs65 : ∀ x ∈ ([b62] : List Addr), Safe Z EL s.vm h62 x := (allS (Safe.exa hZ.alike A62 (by decide) (by decide)) all0)
   have CR65 : CHr Z EL s.vm h0 s.vm T64.heap := CR63.trans (CHr.keep K64 hs65 CR63.1)
   refine Goes.tr st64 ?_
   show Goes _ _ _ _ (T64.setTop (mkF m 47 #[.val (.ref a), .val (.int (Int32.ofNat k)), .val (.ref r38), .val (.ref r57)] [(.ref b62)]))
   have f66 : Str Z T64.heap r38 tz38 kz38 ((cs.drop 0).take (k - 0)) := (((F38_0.keep K57 nin0 nin0).ext E62).keep K64 (ninS (Nat.ne_of_lt (Nat.lt_of_lt_of_le F38_0.1.lt (Nat.le_trans K57.1 (Nat.le_of_eq g62.symm)))) nin0) (ninS (Nat.ne_of_lt (Nat.lt_of_lt_of_le F38_0.ltT (Nat.le_trans K57.1 (Nat.le_of_eq g62.symm)))) nin0))
   have S67 : Str Z T64.heap r38 tz38 kz38 (cs.take k) := by rw [show cs.take k = ((cs.drop 0).take (k - 0)) from by simp]; exact f66
   have f68 : Str Z T64.heap r57 tz57 kz57 ((cs.drop (k + 1)).take (cs.length - (k + 1))) := ((F57_0.ext E62).keep K64 (ninS (Nat.ne_of_lt (Nat.lt_of_lt_of_le F57_0.1.lt (Nat.le_of_eq g62.symm))) nin0) (ninS (Nat.ne_of_lt (Nat.lt_of_lt_of_le F57_0.ltT (Nat.le_of_eq g62.symm))) nin0))
   have S69 : Str Z T64.heap r57 tz57 kz57 (cs.drop (k + 1)) := by rw [show cs.drop (k + 1) = ((cs.drop (k + 1)).take (cs.length - (k + 1))) from by rw [List.take_of_length_le (by simp)]]; exact f68
   have kp70 : Keep h0 T38.heap [] := (Keep.refl h0 []).trans K38 all0
   have kp71 : Keep h0 T57.heap [] := kp70.trans K57 all0
   have kp72 : Keep h0 h62 [] := kp71.ext E62
   have kp73 : Keep h0 T64.heap [] := kp72.trans K64 (allS (Or.inr (Nat.le_trans (Nat.le_trans K38.1 K57.1) (Nat.le_of_eq g62.symm))) all0)
   obtain ⟨fs, hr, hrun, hended, hRW⟩ := X64.leaveW hS0 (Nat.le_trans (Nat.le_trans (Nat.le_trans (Nat.le_trans hk0 K38.1) K57.1) E62.1) K64.1) (v := some (.ref b62)) (fun h => by rw [Bd.returns] at h; cases h)
   subst hQQ
   have hCR : CHr Z EL s.vm s.heap T64.vm T64.heap := by rw [hh]; exact CR65.trans (CHv.at X64 hZ (own_EW hw) CR65.1)
   refine ⟨_, _, retR X64 hx Bd.returns rfl rfl (hb hby d6_47) hr, hrun, hended, _, _, rfl, ?_, hCR, own_REmono hRW (by decide) (by decide)⟩
   show Q_ofK Z a t kb cs G1 vF k h0 n0 _ T64.heap _
   exact ⟨b62, r38, tz38, kz38, r57, tz57, kz57, rfl, N64, kp73, F64_0, F64_1, F64_2, S67, S69, (Nat.le_trans (Nat.le_trans K38.1 K57.1) (Nat.le_of_eq g62.symm))⟩
theorem ef_ch (m : MethodId) (p0 : Int32) : entryFrame m #[(.int p0)] 1 = (mkF m 0 #[.val (.int p0)] []) := by first | (simp [entryFrame, mkF, argsToLocals, Value.category]; done) | rfl
def Q_ch (Z : State) (p0 : Int32) (h0 : Heap) (n0 : Nat) (v : Option Value) (h : Heap) (L : List Loc) : Prop := ∃ (cc : Int32), v = some (.int cc) ∧ Fr n0 L ∧ h = h0 ∧ (¬ cc < 0 ∧ ¬ (255 : Int32) < cc)
set_option maxRecDepth 65536 in
set_option maxHeartbeats 40000000 in
theorem rm_ch (l : Launch) (Z : State) (a0 : Array Value) (hw : ∀ d ∈ tables_1, d.before a0 Z = true) (ws : List Jvm.Cond) (p0 : Int32) (h0 : Heap) (n0 : Nat) (Z0 : n0 ≤ h0.size) :
    MetFree l (⟨"com/example/bolter/bolter/service/ParameterNameOfPinLaw", "ch", "(I)C"⟩ : MethodName) (head1 (Jvm.Cond.code (⟨"com/example/bolter/bolter/service/ParameterNameOfPinLaw", "ch", "(I)C"⟩ : MethodName) method_2_code 1 (some .char) :: ws) ({ frames := 0, cells := 0, slots := 0, locals := 0 } : Room)) (fun aR U => aR = #[(.int p0)] ∧ Z.Warmed39 U.vm ∧ U.heap = h0) (fun _ _ _ _ _ => True) (fun _ U o U' => ∃ v L, o = .returned v ∧ Q_ch Z p0 h0 n0 v U'.heap L ∧ FrameEnd U o U' L ({ frames := 0, cells := 0, slots := 0, locals := 0 } : Room).cells ({ frames := 0, cells := 0, slots := 0, locals := 0 } : Room).slots) := by
 refine MetFree.of_bodySF (plainFor_of_name pn_8) hisR ?_
 intro p e s m args below meth c s₁ Bd hml0 hP hK
 obtain ⟨rfl, hZ, hh⟩ := hP
 have hx := Bd.exec
 have hby := Bd.bytes
 have hml : c.maxLocals = 1 := hml0
 have hown : s.vm.findClass "com/example/bolter/bolter/service/ParameterNameOfPinLaw" = some m.cls := findClass_of_methodNamed Bd.named
 have hnm := (name_of_methodNamed Bd.named Bd.method).1
 have X0 : Stand p l e ({ frames := 0, cells := 0, slots := 0, locals := 0 } : Room) s m #[(.int p0)] below meth c s₁ [] 0 0 := Stand.of_body Bd
 have e0 : s₁.heap = h0 := by rw [← hh, Bd.state]; rfl
 have N0 := Fr.nil n0
 show Goes p.tables e below _ _
 rw [ef_ch m p0]
 refine Goes.named ?_
 intro QQ hQQ
 refine Goes.st (fun sT kT => XS.iloadN X0.here hx rfl (hb hby d1_0) rfl kT) ?_
 show Goes _ _ _ _ (s₁.setTop (mkF m 1 #[.val (.int p0)] [(.int p0)]))
 refine Goes.st (fun sT kT => XS.bipush X0.here hx rfl (hb hby d1_1) kT) ?_
 show Goes _ _ _ _ (s₁.setTop (mkF m 3 #[.val (.int p0)] [(.int (8 : Int32)), (.int p0)]))
 refine Goes.st (fun sT kT => XS.iushr X0.here hx rfl (hb hby d1_3) rfl kT) ?_
 show Goes _ _ _ _ (s₁.setTop (mkF m 4 #[.val (.int p0)] [(.int ((p0.toUInt32 >>> ((8 : Int32) &&& 31).toUInt32).toInt32))]))
 refine Goes.st (fun sT kT => XS.iconst X0.here hx rfl (hb hby d1_4) kT) ?_
 show Goes _ _ _ _ (s₁.setTop (mkF m 5 #[.val (.int p0)] [(.int (3 : Int32)), (.int ((p0.toUInt32 >>> ((8 : Int32) &&& 31).toUInt32).toInt32))]))
 refine Goes.st (fun sT kT => XS.iand X0.here hx rfl (hb hby d1_5) rfl kT) ?_
 show Goes _ _ _ _ (s₁.setTop (mkF m 6 #[.val (.int p0)] [(.int (((p0.toUInt32 >>> ((8 : Int32) &&& 31).toUInt32).toInt32) &&& (3 : Int32)))]))
 by_cases cz1 : (((p0.toUInt32 >>> ((8 : Int32) &&& 31).toUInt32).toInt32) &&& (3 : Int32)) = (0 : Int32)
 case pos =>
  refine Goes.st (fun sT kT => XS.ifNo X0.here hx rfl (hb hby d1_6) rfl ((if0 _ _).trans (teq cz1).2) kT) ?_
  show Goes _ _ _ _ (s₁.setTop (mkF m 9 #[.val (.int p0)] []))
  refine Goes.st (fun sT kT => XS.bipush X0.here hx rfl (hb hby d1_9) kT) ?_
  show Goes _ _ _ _ (s₁.setTop (mkF m 11 #[.val (.int p0)] [(.int (58 : Int32))]))
  refine Goes.st (fun sT kT => XS.goto X0.here hx rfl (pc0 := 11) (pc' := 20) rfl (hb hby d1_11) (by decide) (by decide) kT) ?_
  show Goes _ _ _ _ (s₁.setTop (mkF m 20 #[.val (.int p0)] [(.int (58 : Int32))]))
  obtain ⟨fs, hr, hrun, hended, hW, hsame⟩ := X0.leave (v := some (.int (58 : Int32))) (fun h => by rw [Bd.returns] at h; cases h)
  subst hQQ
  refine ⟨_, _, retN X0 hx (t := .char) Bd.returns (by simp) (hb hby d1_20) hr, hrun, hended, _, _, rfl, ?_, ⟨_, rfl⟩, hW, hsame.mono (by decide) (by decide)⟩
  show Q_ch Z p0 h0 n0 _ s₁.heap _
  rw [e0]
  exact ⟨(58 : Int32), rfl, N0, rfl, (by decide)⟩
 case neg =>
  refine Goes.st (fun sT kT => XS.ifYes X0.here hx rfl (pc0 := 6) (pc' := 14) rfl (hb hby d1_6) rfl ((if0 _ _).trans (feq cz1).2) (by decide) (by decide) kT) ?_
  show Goes _ _ _ _ (s₁.setTop (mkF m 14 #[.val (.int p0)] []))
  refine Goes.st (fun sT kT => XS.iloadN X0.here hx rfl (hb hby d1_14) rfl kT) ?_
  show Goes _ _ _ _ (s₁.setTop (mkF m 15 #[.val (.int p0)] [(.int p0)]))
  refine Goes.st (fun sT kT => XS.sipush X0.here hx rfl (hb hby d1_15) kT) ?_
  show Goes _ _ _ _ (s₁.setTop (mkF m 18 #[.val (.int p0)] [(.int (255 : Int32)), (.int p0)]))
  refine Goes.st (fun sT kT => XS.iand X0.here hx rfl (hb hby d1_18) rfl kT) ?_
  show Goes _ _ _ _ (s₁.setTop (mkF m 19 #[.val (.int p0)] [(.int (p0 &&& (255 : Int32)))]))
  refine Goes.st (fun sT kT => XS.i2c X0.here hx rfl (hb hby d1_19) rfl kT) ?_
  show Goes _ _ _ _ (s₁.setTop (mkF m 20 #[.val (.int p0)] [(.int ((p0 &&& (255 : Int32)).toUInt32.toUInt16.toUInt32.toInt32))]))
  obtain ⟨fs, hr, hrun, hended, hW, hsame⟩ := X0.leave (v := some (.int (nar .char ((p0 &&& (255 : Int32)).toUInt32.toUInt16.toUInt32.toInt32)))) (fun h => by rw [Bd.returns] at h; cases h)
  subst hQQ
  refine ⟨_, _, retN X0 hx (t := .char) Bd.returns (by simp) (hb hby d1_20) hr, hrun, hended, _, _, rfl, ?_, ⟨_, rfl⟩, hW, hsame.mono (by decide) (by decide)⟩
  show Q_ch Z p0 h0 n0 _ s₁.heap _
  rw [e0]
  exact ⟨(nar .char ((p0 &&& (255 : Int32)).toUInt32.toUInt16.toUInt32.toInt32)), rfl, N0, rfl, (own_and255 p0)⟩
theorem ef_mk0 (m : MethodId) (n : Nat) (b : Addr) (kc : ClassId) (c0 : Int32) (c1 : Int32) (c2 : Int32) (c3 : Int32) (G1 : Int32) : entryFrame m #[(.int (Int32.ofNat n)), (.ref b), (.int (0 : Int32))] 3 = (mkF m 0 #[.val (.int (Int32.ofNat n)), .val (.ref b), .val (.int (0 : Int32))] []) := by first | (simp [entryFrame, mkF, argsToLocals, Value.category]; done) | rfl
def Q_mk0 (Z : State) (n : Nat) (b : Addr) (kc : ClassId) (c0 : Int32) (c1 : Int32) (c2 : Int32) (c3 : Int32) (G1 : Int32) (h0 : Heap) (n0 : Nat) (v : Option Value) (h : Heap) (L : List Loc) : Prop := ∃ (r : Addr) (t : Addr) (kb : ClassId), v = some (.ref r) ∧ Fr n0 L ∧ Keep h0 h [] ∧ Str Z h r t kb (([c0, c1, c2, c3].drop 0).take n) ∧ h0.size ≤ r ∧ r ≠ t
set_option maxRecDepth 65536 in
set_option maxHeartbeats 40000000 in
theorem rm_mk0 (l : Launch) (Z : State) (a0 : Array Value) (hw : ∀ d ∈ tables_1, d.before a0 Z = true) (ws : List Jvm.Cond) (n : Nat) (b : Addr) (kc : ClassId) (c0 : Int32) (c1 : Int32) (c2 : Int32) (c3 : Int32) (G1 : Int32) (h0 : Heap) (n0 : Nat) (Z0 : n0 ≤ h0.size) (P0 : Arv Z h0 b kc .char (4 : Int32) [(.int c0), (.int c1), (.int c2), (.int c3)] (.int (0 : Int32))) (P1 : Old Z n0 h0) (O2 : Sta Z Z.heap "java/lang/String" "COMPACT_STRINGS" "Z" (.int G1)) (P5 : ¬ (G1 = (0 : Int32))) (hn : n ≤ 4) (rg_c0 : ¬ c0 < 0 ∧ ¬ (255 : Int32) < c0) (rg_c1 : ¬ c1 < 0 ∧ ¬ (255 : Int32) < c1) (rg_c2 : ¬ c2 < 0 ∧ ¬ (255 : Int32) < c2) (rg_c3 : ¬ c3 < 0 ∧ ¬ (255 : Int32) < c3) :
    MetFree l (⟨"com/example/bolter/bolter/service/ParameterNameOfPinLaw", "mk", "(I[CI)Ljava/lang/String;"⟩ : MethodName) (head1 (Jvm.Cond.code (⟨"com/example/bolter/bolter/service/ParameterNameOfPinLaw", "mk", "(I[CI)Ljava/lang/String;"⟩ : MethodName) method_3_code 3 (some (.object "java/lang/String")) :: ws) ({ frames := 4, cells := 6, slots := 12, locals := 66 } : Room)) (fun aR U => aR = #[(.int (Int32.ofNat n)), (.ref b), (.int (0 : Int32))] ∧ Z.Warmed39 U.vm ∧ U.heap = h0 ∧ CHv Z EL U.vm h0 ∧ ∀ x ∈ ([] : List Addr), Safe Z EL U.vm h0 x) (fun _ _ _ _ _ => True) (fun _ U o U' => ∃ v L, o = .returned v ∧ Q_mk0 Z n b kc c0 c1 c2 c3 G1 h0 n0 v U'.heap L ∧ CHr Z EL U.vm U.heap U'.vm U'.heap ∧ ReturnedEndW U o U' L ({ frames := 4, cells := 6, slots := 12, locals := 66 } : Room).cells ({ frames := 4, cells := 6, slots := 12, locals := 66 } : Room).slots) := by
 refine MetFree.of_bodySF (plainFor_of_name pn_8) hisR ?_
 intro p e s m args below meth c s₁ Bd hml0 hP hK
 obtain ⟨rfl, hZ, hh, hCH, hSF⟩ := hP
 have hx := Bd.exec
 have hby := Bd.bytes
 have hml : c.maxLocals = 3 := hml0
 have hown : s.vm.findClass "com/example/bolter/bolter/service/ParameterNameOfPinLaw" = some m.cls := findClass_of_methodNamed Bd.named
 have hnm := (name_of_methodNamed Bd.named Bd.method).1
 have X0 : Stand p l e ({ frames := 4, cells := 6, slots := 12, locals := 66 } : Room) (s.setVm s.vm) m #[(.int (Int32.ofNat n)), (.ref b), (.int (0 : Int32))] below meth c s₁ [] 0 0 := Stand.of_body Bd
 have e0 : s₁.heap = h0 := by rw [← hh, Bd.state]; rfl
 have N0 := Fr.nil n0
 show Goes p.tables e below _ _
 rw [ef_mk0 m n b kc c0 c1 c2 c3 G1]
 refine Goes.named ?_
 intro QQ hQQ
 have hS0 : s.Since s.vm 0 := (State.WarmedH.refl s).since 0
 have hk0 : 0 ≤ h0.size := Nat.zero_le _
 have CR0 : CHr Z EL s.vm h0 s.vm h0 := CHr.refl hCH
 by_cases hn0 : n = 0
 case pos =>
  rw [show Int32.ofNat n = (0 : Int32) from by rw [hn0]; rfl]
  show Goes _ _ _ _ (s₁.setTop (mkF m 0 #[.val (.int (0 : Int32)), .val (.ref b), .val (.int (0 : Int32))] []))
  refine Goes.st (fun sT kT => XS.iloadN X0.here hx rfl (hb hby d2_0) rfl kT) ?_
  show Goes _ _ _ _ (s₁.setTop (mkF m 1 #[.val (.int (0 : Int32)), .val (.ref b), .val (.int (0 : Int32))] [(.int (0 : Int32))]))
  refine Goes.st (fun sT kT => XS.ifNo X0.here hx rfl (hb hby d2_1) rfl ((if0 _ _).trans (flt (by decide : ¬ ((0 : Int32) < (0 : Int32)))).2.2.1) kT) ?_
  show Goes _ _ _ _ (s₁.setTop (mkF m 4 #[.val (.int (0 : Int32)), .val (.ref b), .val (.int (0 : Int32))] []))
  obtain ⟨T1, h1, X1, e1, E1, A1, D1, -, st1⟩ := newO X0 hx hZ hown (hw9 hw) (hw10 hw) (hw11 hw) e0 (g := (mkF m 4 #[.val (.int (0 : Int32)), .val (.ref b), .val (.int (0 : Int32))] [])) rfl (hb hby d2_4) (by decide) (by decide)
  obtain ⟨b1, g1⟩ : ∃ z, z = h0.size := ⟨_, rfl⟩
  rw [← g1] at A1 D1 st1
  have CR2 : CHr Z EL s.vm h0 s.vm h1 := CR0.trans (CHr.ext E1 CR0.1)
  have sf1_b1 : Safe Z EL s.vm h1 b1 := Safe.ext E1 CR0.1 (Safe.new (Nat.le_of_eq g1.symm))
  have F1_value : Fld Z h1 b1 "java/lang/String" "value" "[B" .null := D1 (Or.inr (hw24 hw)) (ty := (.array .byte)) (by decide)
  have F1_coder : Fld Z h1 b1 "java/lang/String" "coder" "B" (.int (0 : Int32)) := D1 (Or.inr (hw25 hw)) (ty := .byte) (by decide)
  refine Goes.st st1 ?_
  show Goes _ _ _ _ (T1.setTop (mkF m 7 #[.val (.int (0 : Int32)), .val (.ref b), .val (.int (0 : Int32))] [(.ref b1)]))
  refine Goes.st (fun sT kT => XS.dup X1.here hx rfl (hb hby d2_7) rfl rfl kT) ?_
  show Goes _ _ _ _ (T1.setTop (mkF m 8 #[.val (.int (0 : Int32)), .val (.ref b), .val (.int (0 : Int32))] [(.ref b1), (.ref b1)]))
  refine Goes.st (fun sT kT => XS.iconst X1.here hx rfl (hb hby d2_8) kT) ?_
  show Goes _ _ _ _ (T1.setTop (mkF m 9 #[.val (.int (0 : Int32)), .val (.ref b), .val (.int (0 : Int32))] [(.int (0 : Int32)), (.ref b1), (.ref b1)]))
  obtain ⟨T3, h3, k3, X3, e3, E3, A3, st3⟩ := newP X1 hx hZ (aty := .char) (hw1 hw) e1 (g := (mkF m 9 #[.val (.int (0 : Int32)), .val (.ref b), .val (.int (0 : Int32))] [(.int (0 : Int32)), (.ref b1), (.ref b1)])) rfl (hb hby d2_9) rfl (by decide) (cap := 0) (by decide) (by decide) (by decide) (by decide)
  obtain ⟨b3, g3⟩ : ∃ z, z = h1.size := ⟨_, rfl⟩
  rw [← g3] at A3 st3
  have CR4 : CHr Z EL s.vm h0 s.vm h3 := CR2.trans (CHr.ext E3 CR2.1)
  have sf4_b1 : Safe Z EL s.vm h3 b1 := Safe.ext E3 CR2.1 sf1_b1
  have V3 : Arv Z h3 b3 k3 .char (0 : Int32) [] (.int (0 : Int32)) := (Arv.new A3 (by decide)).pad (pad_rep [] (.int (0 : Int32)) 0)
  refine Goes.st st3 ?_
  show Goes _ _ _ _ (T3.setTop (mkF m 11 #[.val (.int (0 : Int32)), .val (.ref b), .val (.int (0 : Int32))] [(.ref b3), (.ref b1), (.ref b1)]))
  have f6 : Exa Z h3 b1 "java/lang/String" := (A1.ext E3)
  have f7 : Fld Z h3 b1 "java/lang/String" "value" "[B" .null := (F1_value.ext E3)
  have f8 : Fld Z h3 b1 "java/lang/String" "coder" "B" (.int (0 : Int32)) := (F1_coder.ext E3)
  have f9 : Old Z n0 h3 := ((P1.ext E1).ext E3)
  obtain ⟨_, _, ⟨T5, L5, k5, n5⟩, -, X5, hSr5, hgr5, ⟨Lc5, hQ5, l5, y5, z5, C5⟩, st5⟩ := X3.specialBackS hx (y := (⟨"java/lang/String", "<init>", "([C)V"⟩ : MethodName)) rfl hown (mvT hZ (hw12 hw)) (mvT hZ (hw13 hw)) (mvT hZ (hw14 hw)) (by decide) (own_backW (W := 1) (xs := [b1]) (rm_s1e l Z a0 hw [] b1 b3 k3 h3 n0 (Nat.le_trans Z0 (Nat.le_trans E1.1 E3.1)) f6 f7 f8 V3 (Nat.le_trans Z0 (Nat.le_of_eq g1.symm))) hZ (hw14 hw) (hw11 hw) (by decide) (by decide) (own_EW hw) CR4.1 (allS ⟨(Nat.lt_of_lt_of_le A1.lt E3.1), sf4_b1⟩ all0)) (g := (mkF m 11 #[.val (.int (0 : Int32)), .val (.ref b), .val (.int (0 : Int32))] [(.ref b3), (.ref b1), (.ref b1)])) rfl (by rw [hml]; rfl) (Steps.refl _) (a := b1) (argsL := [(.ref b3)]) (rest := [(.ref b1)]) (lenOf pd_17 rfl) rfl (by show 2 * 0 + _ ≤ _; exact Nat.le_of_eq rfl) (hb hby d2_11) (fun _ _ => ⟨rfl, e3, (by decide : 2 + 4 ≤ _), (by decide : 4 + 8 ≤ _)⟩)
  dsimp only [Pt.U, Pt.locs, Pt.cells, Pt.slots] at X5 l5 y5 z5 st5 hQ5 hSr5 hgr5 C5
  subst l5 y5 z5
  obtain ⟨X5, hS5, hZ5, hown5⟩ := rebS hS0 (by rw [e3]; exact (Nat.le_trans (Nat.le_trans hk0 E1.1) E3.1)) X5 hSr5 hgr5 hZ hown
  obtain ⟨t5, kb5, rfl, N5q, K5, F5_0, ne5_0⟩ := hQ5
  have N5 := Fr.app N0 N5q
  have F5_0E := F5_0.1
  have CR10 : CHr Z EL s.vm h0 T5.vm T5.heap := CR4.trans (C5)
  have sf10_b1 : Safe Z EL T5.vm T5.heap b1 := C5.safe (Nat.lt_of_lt_of_le A1.lt E3.1) sf4_b1
  refine Goes.tr st5 ?_
  show Goes _ _ _ _ (T5.setTop (mkF m 14 #[.val (.int (0 : Int32)), .val (.ref b), .val (.int (0 : Int32))] [(.ref b1)]))
  have S11 : Str Z T5.heap b1 t5 kb5 (([c0, c1, c2, c3].drop 0).take n) := by rw [show (([c0, c1, c2, c3].drop 0).take n) = [] from by rw [hn0]; rfl]; exact F5_0
  have kp12 : Keep h0 h1 [] := (Keep.refl h0 []).ext E1
  have kp13 : Keep h0 h3 [] := kp12.ext E3
  have kp14 : Keep h0 T5.heap [] := kp13.trans K5 (allS (Or.inr (Nat.le_of_eq g1.symm)) all0)
  obtain ⟨fs, hr, hrun, hended, hRW⟩ := X5.leaveW hS5 (Nat.le_refl _) (v := some (.ref b1)) (fun h => by rw [Bd.returns] at h; cases h)
  subst hQQ
  have hCR : CHr Z EL s.vm s.heap T5.vm T5.heap := by rw [hh]; exact CR10.trans (CHv.at X5 hZ5 (own_EW hw) CR10.1)
  refine ⟨_, _, retR X5 hx Bd.returns rfl rfl (hb hby d2_14) hr, hrun, hended, _, _, rfl, ?_, hCR, own_REmono hRW (by decide) (by decide)⟩
  show Q_mk0 Z n b kc c0 c1 c2 c3 G1 h0 n0 _ T5.heap _
  exact ⟨b1, t5, kb5, rfl, N5, kp14, S11, (Nat.le_of_eq g1.symm), ne5_0⟩
 case neg =>
  by_cases hn1 : n = 1
  case pos =>
   rw [show Int32.ofNat n = (1 : Int32) from by rw [hn1]; rfl]
   show Goes _ _ _ _ (s₁.setTop (mkF m 0 #[.val (.int (1 : Int32)), .val (.ref b), .val (.int (0 : Int32))] []))
   refine Goes.st (fun sT kT => XS.iloadN X0.here hx rfl (hb hby d2_0) rfl kT) ?_
   show Goes _ _ _ _ (s₁.setTop (mkF m 1 #[.val (.int (1 : Int32)), .val (.ref b), .val (.int (0 : Int32))] [(.int (1 : Int32))]))
   refine Goes.st (fun sT kT => XS.ifYes X0.here hx rfl (pc0 := 1) (pc' := 15) rfl (hb hby d2_1) rfl ((if0 _ _).trans (tlt (by decide : (0 : Int32) < (1 : Int32))).2.2.1) (by decide) (by decide) kT) ?_
   show Goes _ _ _ _ (s₁.setTop (mkF m 15 #[.val (.int (1 : Int32)), .val (.ref b), .val (.int (0 : Int32))] []))
   refine Goes.st (fun sT kT => XS.iloadN X0.here hx rfl (hb hby d2_15) rfl kT) ?_
   show Goes _ _ _ _ (s₁.setTop (mkF m 16 #[.val (.int (1 : Int32)), .val (.ref b), .val (.int (0 : Int32))] [(.int (1 : Int32))]))
   refine Goes.st (fun sT kT => XS.iconst X0.here hx rfl (hb hby d2_16) kT) ?_
   show Goes _ _ _ _ (s₁.setTop (mkF m 17 #[.val (.int (1 : Int32)), .val (.ref b), .val (.int (0 : Int32))] [(.int (1 : Int32)), (.int (1 : Int32))]))
   refine Goes.st (fun sT kT => XS.icmpNo X0.here hx rfl (hb hby d2_17) rfl (teq (by decide : (1 : Int32) = (1 : Int32))).2 kT) ?_
   show Goes _ _ _ _ (s₁.setTop (mkF m 20 #[.val (.int (1 : Int32)), .val (.ref b), .val (.int (0 : Int32))] []))
   obtain ⟨T15, h15, X15, e15, E15, A15, D15, -, st15⟩ := newO X0 hx hZ hown (hw9 hw) (hw10 hw) (hw11 hw) e0 (g := (mkF m 20 #[.val (.int (1 : Int32)), .val (.ref b), .val (.int (0 : Int32))] [])) rfl (hb hby d2_20) (by decide) (by decide)
   obtain ⟨b15, g15⟩ : ∃ z, z = h0.size := ⟨_, rfl⟩
   rw [← g15] at A15 D15 st15
   have CR16 : CHr Z EL s.vm h0 s.vm h15 := CR0.trans (CHr.ext E15 CR0.1)
   have sf15_b15 : Safe Z EL s.vm h15 b15 := Safe.ext E15 CR0.1 (Safe.new (Nat.le_of_eq g15.symm))
   have F15_value : Fld Z h15 b15 "java/lang/String" "value" "[B" .null := D15 (Or.inr (hw24 hw)) (ty := (.array .byte)) (by decide)
   have F15_coder : Fld Z h15 b15 "java/lang/String" "coder" "B" (.int (0 : Int32)) := D15 (Or.inr (hw25 hw)) (ty := .byte) (by decide)
   refine Goes.st st15 ?_
   show Goes _ _ _ _ (T15.setTop (mkF m 23 #[.val (.int (1 : Int32)), .val (.ref b), .val (.int (0 : Int32))] [(.ref b15)]))
   refine Goes.st (fun sT kT => XS.dup X15.here hx rfl (hb hby d2_23) rfl rfl kT) ?_
   show Goes _ _ _ _ (T15.setTop (mkF m 24 #[.val (.int (1 : Int32)), .val (.ref b), .val (.int (0 : Int32))] [(.ref b15), (.ref b15)]))
   refine Goes.st (fun sT kT => XS.iconst X15.here hx rfl (hb hby d2_24) kT) ?_
   show Goes _ _ _ _ (T15.setTop (mkF m 25 #[.val (.int (1 : Int32)), .val (.ref b), .val (.int (0 : Int32))] [(.int (1 : Int32)), (.ref b15), (.ref b15)]))
   obtain ⟨T17, h17, k17, X17, e17, E17, A17, st17⟩ := newP X15 hx hZ (aty := .char) (hw1 hw) e15 (g := (mkF m 25 #[.val (.int (1 : Int32)), .val (.ref b), .val (.int (0 : Int32))] [(.int (1 : Int32)), (.ref b15), (.ref b15)])) rfl (hb hby d2_25) rfl (by decide) (cap := 1) (by decide) (by decide) (by decide) (by decide)
   obtain ⟨b17, g17⟩ : ∃ z, z = h15.size := ⟨_, rfl⟩
   rw [← g17] at A17 st17
   have CR18 : CHr Z EL s.vm h0 s.vm h17 := CR16.trans (CHr.ext E17 CR16.1)
   have sf18_b15 : Safe Z EL s.vm h17 b15 := Safe.ext E17 CR16.1 sf15_b15
   have V17 : Arv Z h17 b17 k17 .char (1 : Int32) [(.int (0 : Int32))] (.int (0 : Int32)) := (Arv.new A17 (by decide)).pad (pad_rep [] (.int (0 : Int32)) 1)
   refine Goes.st st17 ?_
   show Goes _ _ _ _ (T17.setTop (mkF m 27 #[.val (.int (1 : Int32)), .val (.ref b), .val (.int (0 : Int32))] [(.ref b17), (.ref b15), (.ref b15)]))
   refine Goes.st (fun sT kT => XS.dup X17.here hx rfl (hb hby d2_27) rfl rfl kT) ?_
   show Goes _ _ _ _ (T17.setTop (mkF m 28 #[.val (.int (1 : Int32)), .val (.ref b), .val (.int (0 : Int32))] [(.ref b17), (.ref b17), (.ref b15), (.ref b15)]))
   refine Goes.st (fun sT kT => XS.iconst X17.here hx rfl (hb hby d2_28) kT) ?_
   show Goes _ _ _ _ (T17.setTop (mkF m 29 #[.val (.int (1 : Int32)), .val (.ref b), .val (.int (0 : Int32))] [(.int (0 : Int32)), (.ref b17), (.ref b17), (.ref b15), (.ref b15)]))
   refine Goes.st (fun sT kT => XS.aloadN X17.here hx rfl (hb hby d2_29) rfl rfl kT) ?_
   show Goes _ _ _ _ (T17.setTop (mkF m 30 #[.val (.int (1 : Int32)), .val (.ref b), .val (.int (0 : Int32))] [(.ref b), (.int (0 : Int32)), (.ref b17), (.ref b17), (.ref b15), (.ref b15)]))
   refine Goes.st (fun sT kT => XS.iloadN X17.here hx rfl (hb hby d2_30) rfl kT) ?_
   show Goes _ _ _ _ (T17.setTop (mkF m 31 #[.val (.int (1 : Int32)), .val (.ref b), .val (.int (0 : Int32))] [(.int (0 : Int32)), (.ref b), (.int (0 : Int32)), (.ref b17), (.ref b17), (.ref b15), (.ref b15)]))
   have f19 : Arv Z h17 b kc .char (4 : Int32) [(.int c0), (.int c1), (.int c2), (.int c3)] (.int (0 : Int32)) := ((P0.ext E15).ext E17)
   obtain ⟨oc20, oA20, oq20, oS20, oM20, oH20, oG20⟩ := id f19
   refine Goes.st (fun sT kT => X17.caload hx (j := (0 : Int32)) (v := (.int c0)) (by rw [e17]; exact oA20.1) (State.isArrayOf_alike hZ.alike oA20.2.1) oA20.2.2 (inb_of oS20 ⟨by decide, by decide⟩) (oH20.at (inb_of oS20 ⟨by decide, by decide⟩) rfl) (g := (mkF m 31 #[.val (.int (1 : Int32)), .val (.ref b), .val (.int (0 : Int32))] [(.int (0 : Int32)), (.ref b), (.int (0 : Int32)), (.ref b17), (.ref b17), (.ref b15), (.ref b15)])) rfl rfl (hb hby d2_31) _ kT) ?_
   show Goes _ _ _ _ (T17.setTop (mkF m 32 #[.val (.int (1 : Int32)), .val (.ref b), .val (.int (0 : Int32))] [(.int c0), (.int (0 : Int32)), (.ref b17), (.ref b17), (.ref b15), (.ref b15)]))
   obtain ⟨oc21, oA21, oq21, oS21, oM21, oH21, oG21⟩ := id V17
   obtain ⟨T22, h22, X22, e22, W22, st22⟩ := stC X17 hx hZ e17 oA21 (j := (0 : Int32)) (inb_of oS21 ⟨by decide, by decide⟩) (g := (mkF m 32 #[.val (.int (1 : Int32)), .val (.ref b), .val (.int (0 : Int32))] [(.int c0), (.int (0 : Int32)), (.ref b17), (.ref b17), (.ref b15), (.ref b15)])) rfl rfl (hb hby d2_32)
   rw [own_narc rg_c0] at W22
   have V22 : Arv Z h22 b17 k17 .char (1 : Int32) [(.int c0)] (.int (0 : Int32)) := Arv.set oA21 oq21 oS21 oM21 oH21 oG21 (own_fitsc rg_c0) W22 0 rfl (Nat.le_of_ble_eq_true rfl)
   have N22 := Fr.snoc X22 N0 (Nat.le_trans Z0 (Nat.le_trans E15.1 (Nat.le_of_eq g17.symm)))
   have CR23 : CHr Z EL s.vm h0 s.vm h22 := CR18.trans (CHr.wr W22 (own_safeArv hZ.alike V17 (by simp)) CR18.1)
   have sf23_b15 : Safe Z EL s.vm h22 b15 := Safe.wr W22 (own_safeArv hZ.alike V17 (by simp)) CR18.1 sf18_b15
   refine Goes.st st22 ?_
   show Goes _ _ _ _ (T22.setTop (mkF m 33 #[.val (.int (1 : Int32)), .val (.ref b), .val (.int (0 : Int32))] [(.ref b17), (.ref b15), (.ref b15)]))
   have f25 : Exa Z h22 b15 "java/lang/String" := ((A15.ext E17).wr W22)
   have f26 : Fld Z h22 b15 "java/lang/String" "value" "[B" .null := ((F15_value.ext E17).other W22 (Or.inl (Nat.ne_of_lt (Nat.lt_of_lt_of_le A15.lt (Nat.le_of_eq g17.symm)))))
   have f27 : Fld Z h22 b15 "java/lang/String" "coder" "B" (.int (0 : Int32)) := ((F15_coder.ext E17).other W22 (Or.inl (Nat.ne_of_lt (Nat.lt_of_lt_of_le A15.lt (Nat.le_of_eq g17.symm)))))
   have f28 : Old Z n0 h22 := (((P1.ext E15).ext E17).wr W22 (Nat.le_trans Z0 (Nat.le_trans E15.1 (Nat.le_of_eq g17.symm))))
   have hp29 : ∀ c ∈ ([c0] : List Int32), ¬ c < 0 ∧ ¬ (255 : Int32) < c := (own_cS rg_c0 own_c0)
   obtain ⟨_, _, ⟨T24, L24, k24, n24⟩, -, X24, ⟨Lc24, hQ24, l24, y24, z24⟩, st24⟩ := X22.specialBack hx (y := (⟨"java/lang/String", "<init>", "([C)V"⟩ : MethodName)) rfl hown (mvT hZ (hw12 hw)) (mvT hZ (hw13 hw)) (mvT hZ (hw14 hw)) (by decide) (StrChars.Road.backV (W := 1) hZ (own_hws hw) (kI := 4) (hw10 hw) (cs := ([c0] : List Int32)) (bs := ([c0] : List Int32).map (fun c => c.toInt8.toInt32)) (n := 1) (Nat.le_trans Z0 (Nat.le_of_eq g15.symm)) (Nat.le_trans Z0 (Nat.le_trans (Nat.le_trans E15.1 E17.1) (Nat.le_of_eq W22.size.symm))) f25 f26 f27 V22 (O2.ext f28.2) P5 rfl rfl (by decide) (by decide) hp29 rfl (by decide) (by decide)) (g := (mkF m 33 #[.val (.int (1 : Int32)), .val (.ref b), .val (.int (0 : Int32))] [(.ref b17), (.ref b15), (.ref b15)])) rfl (by rw [hml]; rfl) (Steps.refl _) (a := b15) (argsL := [(.ref b17)]) (rest := [(.ref b15)]) (lenOf pd_17 rfl) rfl (by show 2 * 0 + _ ≤ _; exact Nat.le_of_eq rfl) (hb hby d2_33) (fun _ _ => ⟨rfl, e22, (by decide : 2 + 1 ≤ _), (by decide : 5 + 1 ≤ _)⟩)
   dsimp only [Pt.U, Pt.locs, Pt.cells, Pt.slots] at X24 l24 y24 z24 st24 hQ24
   subst l24 y24 z24
   obtain ⟨rfl, N24q, K24, Ex24, Cd24, t24, kb24, lz24, lo24, tn24, Vf24, Av24⟩ := hQ24
   have N24 := Fr.app N22 N24q
   have S24 : Str Z T24.heap b15 t24 kb24 [c0] := ⟨Ex24, Vf24, Cd24, Av24, hp29, Nat.le_of_ble_eq_true rfl⟩
   have hs30 : ∀ x ∈ ([b15] : List Addr), Safe Z EL s.vm h22 x := (allS sf23_b15 all0)
   have CR30 : CHr Z EL s.vm h0 s.vm T24.heap := CR23.trans (CHr.keep K24 hs30 CR23.1)
   have sf30_b15 : Safe Z EL s.vm T24.heap b15 := Safe.keep K24 hs30 CR23.1 sf23_b15
   refine Goes.tr st24 ?_
   show Goes _ _ _ _ (T24.setTop (mkF m 36 #[.val (.int (1 : Int32)), .val (.ref b), .val (.int (0 : Int32))] [(.ref b15)]))
   have S31 : Str Z T24.heap b15 t24 kb24 (([c0, c1, c2, c3].drop 0).take n) := by rw [show (([c0, c1, c2, c3].drop 0).take n) = [c0] from by rw [hn1]; rfl]; exact S24
   have kp32 : Keep h0 h15 [] := (Keep.refl h0 []).ext E15
   have kp33 : Keep h0 h17 [] := kp32.ext E17
   have kp34 : Keep h0 h22 [] := kp33.wr W22 (Or.inr (Nat.le_trans E15.1 (Nat.le_of_eq g17.symm)))
   have kp35 : Keep h0 T24.heap [] := kp34.trans K24 (allS (Or.inr (Nat.le_of_eq g15.symm)) all0)
   obtain ⟨fs, hr, hrun, hended, hRW⟩ := X24.leaveW hS0 (Nat.le_trans (Nat.le_trans (Nat.le_trans (Nat.le_trans hk0 E15.1) E17.1) (Nat.le_of_eq W22.size.symm)) K24.1) (v := some (.ref b15)) (fun h => by rw [Bd.returns] at h; cases h)
   subst hQQ
   have hCR : CHr Z EL s.vm s.heap T24.vm T24.heap := by rw [hh]; exact CR30.trans (CHv.at X24 hZ (own_EW hw) CR30.1)
   refine ⟨_, _, retR X24 hx Bd.returns rfl rfl (hb hby d2_36) hr, hrun, hended, _, _, rfl, ?_, hCR, own_REmono hRW (by decide) (by decide)⟩
   show Q_mk0 Z n b kc c0 c1 c2 c3 G1 h0 n0 _ T24.heap _
   exact ⟨b15, t24, kb24, rfl, N24, kp35, S31, (Nat.le_of_eq g15.symm), (Ne.symm tn24)⟩
  case neg =>
   by_cases hn2 : n = 2
   case pos =>
    rw [show Int32.ofNat n = (2 : Int32) from by rw [hn2]; rfl]
    show Goes _ _ _ _ (s₁.setTop (mkF m 0 #[.val (.int (2 : Int32)), .val (.ref b), .val (.int (0 : Int32))] []))
    refine Goes.st (fun sT kT => XS.iloadN X0.here hx rfl (hb hby d2_0) rfl kT) ?_
    show Goes _ _ _ _ (s₁.setTop (mkF m 1 #[.val (.int (2 : Int32)), .val (.ref b), .val (.int (0 : Int32))] [(.int (2 : Int32))]))
    refine Goes.st (fun sT kT => XS.ifYes X0.here hx rfl (pc0 := 1) (pc' := 15) rfl (hb hby d2_1) rfl ((if0 _ _).trans (tlt (by decide : (0 : Int32) < (2 : Int32))).2.2.1) (by decide) (by decide) kT) ?_
    show Goes _ _ _ _ (s₁.setTop (mkF m 15 #[.val (.int (2 : Int32)), .val (.ref b), .val (.int (0 : Int32))] []))
    refine Goes.st (fun sT kT => XS.iloadN X0.here hx rfl (hb hby d2_15) rfl kT) ?_
    show Goes _ _ _ _ (s₁.setTop (mkF m 16 #[.val (.int (2 : Int32)), .val (.ref b), .val (.int (0 : Int32))] [(.int (2 : Int32))]))
    refine Goes.st (fun sT kT => XS.iconst X0.here hx rfl (hb hby d2_16) kT) ?_
    show Goes _ _ _ _ (s₁.setTop (mkF m 17 #[.val (.int (2 : Int32)), .val (.ref b), .val (.int (0 : Int32))] [(.int (1 : Int32)), (.int (2 : Int32))]))
    refine Goes.st (fun sT kT => XS.icmpYes X0.here hx rfl (pc0 := 17) (pc' := 37) rfl (hb hby d2_17) rfl (feq (by decide : ¬ ((2 : Int32) = (1 : Int32)))).2 (by decide) (by decide) kT) ?_
    show Goes _ _ _ _ (s₁.setTop (mkF m 37 #[.val (.int (2 : Int32)), .val (.ref b), .val (.int (0 : Int32))] []))
    refine Goes.st (fun sT kT => XS.iloadN X0.here hx rfl (hb hby d2_37) rfl kT) ?_
    show Goes _ _ _ _ (s₁.setTop (mkF m 38 #[.val (.int (2 : Int32)), .val (.ref b), .val (.int (0 : Int32))] [(.int (2 : Int32))]))
    refine Goes.st (fun sT kT => XS.iconst X0.here hx rfl (hb hby d2_38) kT) ?_
    show Goes _ _ _ _ (s₁.setTop (mkF m 39 #[.val (.int (2 : Int32)), .val (.ref b), .val (.int (0 : Int32))] [(.int (2 : Int32)), (.int (2 : Int32))]))
    refine Goes.st (fun sT kT => XS.icmpNo X0.here hx rfl (hb hby d2_39) rfl (teq (by decide : (2 : Int32) = (2 : Int32))).2 kT) ?_
    show Goes _ _ _ _ (s₁.setTop (mkF m 42 #[.val (.int (2 : Int32)), .val (.ref b), .val (.int (0 : Int32))] []))
    obtain ⟨T36, h36, X36, e36, E36, A36, D36, -, st36⟩ := newO X0 hx hZ hown (hw9 hw) (hw10 hw) (hw11 hw) e0 (g := (mkF m 42 #[.val (.int (2 : Int32)), .val (.ref b), .val (.int (0 : Int32))] [])) rfl (hb hby d2_42) (by decide) (by decide)
    obtain ⟨b36, g36⟩ : ∃ z, z = h0.size := ⟨_, rfl⟩
    rw [← g36] at A36 D36 st36
    have CR37 : CHr Z EL s.vm h0 s.vm h36 := CR0.trans (CHr.ext E36 CR0.1)
    have sf36_b36 : Safe Z EL s.vm h36 b36 := Safe.ext E36 CR0.1 (Safe.new (Nat.le_of_eq g36.symm))
    have F36_value : Fld Z h36 b36 "java/lang/String" "value" "[B" .null := D36 (Or.inr (hw24 hw)) (ty := (.array .byte)) (by decide)
    have F36_coder : Fld Z h36 b36 "java/lang/String" "coder" "B" (.int (0 : Int32)) := D36 (Or.inr (hw25 hw)) (ty := .byte) (by decide)
    refine Goes.st st36 ?_
    show Goes _ _ _ _ (T36.setTop (mkF m 45 #[.val (.int (2 : Int32)), .val (.ref b), .val (.int (0 : Int32))] [(.ref b36)]))
    refine Goes.st (fun sT kT => XS.dup X36.here hx rfl (hb hby d2_45) rfl rfl kT) ?_
    show Goes _ _ _ _ (T36.setTop (mkF m 46 #[.val (.int (2 : Int32)), .val (.ref b), .val (.int (0 : Int32))] [(.ref b36), (.ref b36)]))
    refine Goes.st (fun sT kT => XS.iconst X36.here hx rfl (hb hby d2_46) kT) ?_
    show Goes _ _ _ _ (T36.setTop (mkF m 47 #[.val (.int (2 : Int32)), .val (.ref b), .val (.int (0 : Int32))] [(.int (2 : Int32)), (.ref b36), (.ref b36)]))
    obtain ⟨T38, h38, k38, X38, e38, E38, A38, st38⟩ := newP X36 hx hZ (aty := .char) (hw1 hw) e36 (g := (mkF m 47 #[.val (.int (2 : Int32)), .val (.ref b), .val (.int (0 : Int32))] [(.int (2 : Int32)), (.ref b36), (.ref b36)])) rfl (hb hby d2_47) rfl (by decide) (cap := 2) (by decide) (by decide) (by decide) (by decide)
    obtain ⟨b38, g38⟩ : ∃ z, z = h36.size := ⟨_, rfl⟩
    rw [← g38] at A38 st38
    have CR39 : CHr Z EL s.vm h0 s.vm h38 := CR37.trans (CHr.ext E38 CR37.1)
    have sf39_b36 : Safe Z EL s.vm h38 b36 := Safe.ext E38 CR37.1 sf36_b36
    have V38 : Arv Z h38 b38 k38 .char (2 : Int32) [(.int (0 : Int32)), (.int (0 : Int32))] (.int (0 : Int32)) := (Arv.new A38 (by decide)).pad (pad_rep [] (.int (0 : Int32)) 2)
    refine Goes.st st38 ?_
    show Goes _ _ _ _ (T38.setTop (mkF m 49 #[.val (.int (2 : Int32)), .val (.ref b), .val (.int (0 : Int32))] [(.ref b38), (.ref b36), (.ref b36)]))
    refine Goes.st (fun sT kT => XS.dup X38.here hx rfl (hb hby d2_49) rfl rfl kT) ?_
    show Goes _ _ _ _ (T38.setTop (mkF m 50 #[.val (.int (2 : Int32)), .val (.ref b), .val (.int (0 : Int32))] [(.ref b38), (.ref b38), (.ref b36), (.ref b36)]))
    refine Goes.st (fun sT kT => XS.iconst X38.here hx rfl (hb hby d2_50) kT) ?_
    show Goes _ _ _ _ (T38.setTop (mkF m 51 #[.val (.int (2 : Int32)), .val (.ref b), .val (.int (0 : Int32))] [(.int (0 : Int32)), (.ref b38), (.ref b38), (.ref b36), (.ref b36)]))
    refine Goes.st (fun sT kT => XS.aloadN X38.here hx rfl (hb hby d2_51) rfl rfl kT) ?_
    show Goes _ _ _ _ (T38.setTop (mkF m 52 #[.val (.int (2 : Int32)), .val (.ref b), .val (.int (0 : Int32))] [(.ref b), (.int (0 : Int32)), (.ref b38), (.ref b38), (.ref b36), (.ref b36)]))
    refine Goes.st (fun sT kT => XS.iloadN X38.here hx rfl (hb hby d2_52) rfl kT) ?_
    show Goes _ _ _ _ (T38.setTop (mkF m 53 #[.val (.int (2 : Int32)), .val (.ref b), .val (.int (0 : Int32))] [(.int (0 : Int32)), (.ref b), (.int (0 : Int32)), (.ref b38), (.ref b38), (.ref b36), (.ref b36)]))
    have f40 : Arv Z h38 b kc .char (4 : Int32) [(.int c0), (.int c1), (.int c2), (.int c3)] (.int (0 : Int32)) := ((P0.ext E36).ext E38)
    obtain ⟨oc41, oA41, oq41, oS41, oM41, oH41, oG41⟩ := id f40
    refine Goes.st (fun sT kT => X38.caload hx (j := (0 : Int32)) (v := (.int c0)) (by rw [e38]; exact oA41.1) (State.isArrayOf_alike hZ.alike oA41.2.1) oA41.2.2 (inb_of oS41 ⟨by decide, by decide⟩) (oH41.at (inb_of oS41 ⟨by decide, by decide⟩) rfl) (g := (mkF m 53 #[.val (.int (2 : Int32)), .val (.ref b), .val (.int (0 : Int32))] [(.int (0 : Int32)), (.ref b), (.int (0 : Int32)), (.ref b38), (.ref b38), (.ref b36), (.ref b36)])) rfl rfl (hb hby d2_53) _ kT) ?_
    show Goes _ _ _ _ (T38.setTop (mkF m 54 #[.val (.int (2 : Int32)), .val (.ref b), .val (.int (0 : Int32))] [(.int c0), (.int (0 : Int32)), (.ref b38), (.ref b38), (.ref b36), (.ref b36)]))
    obtain ⟨oc42, oA42, oq42, oS42, oM42, oH42, oG42⟩ := id V38
    obtain ⟨T43, h43, X43, e43, W43, st43⟩ := stC X38 hx hZ e38 oA42 (j := (0 : Int32)) (inb_of oS42 ⟨by decide, by decide⟩) (g := (mkF m 54 #[.val (.int (2 : Int32)), .val (.ref b), .val (.int (0 : Int32))] [(.int c0), (.int (0 : Int32)), (.ref b38), (.ref b38), (.ref b36), (.ref b36)])) rfl rfl (hb hby d2_54)
    rw [own_narc rg_c0] at W43
    have V43 : Arv Z h43 b38 k38 .char (2 : Int32) [(.int c0), (.int (0 : Int32))] (.int (0 : Int32)) := Arv.set oA42 oq42 oS42 oM42 oH42 oG42 (own_fitsc rg_c0) W43 0 rfl (Nat.le_of_ble_eq_true rfl)
    have N43 := Fr.snoc X43 N0 (Nat.le_trans Z0 (Nat.le_trans E36.1 (Nat.le_of_eq g38.symm)))
    have CR44 : CHr Z EL s.vm h0 s.vm h43 := CR39.trans (CHr.wr W43 (own_safeArv hZ.alike V38 (by simp)) CR39.1)
    have sf44_b36 : Safe Z EL s.vm h43 b36 := Safe.wr W43 (own_safeArv hZ.alike V38 (by simp)) CR39.1 sf39_b36
    refine Goes.st st43 ?_
    show Goes _ _ _ _ (T43.setTop (mkF m 55 #[.val (.int (2 : Int32)), .val (.ref b), .val (.int (0 : Int32))] [(.ref b38), (.ref b36), (.ref b36)]))
    refine Goes.st (fun sT kT => XS.dup X43.here hx rfl (hb hby d2_55) rfl rfl kT) ?_
    show Goes _ _ _ _ (T43.setTop (mkF m 56 #[.val (.int (2 : Int32)), .val (.ref b), .val (.int (0 : Int32))] [(.ref b38), (.ref b38), (.ref b36), (.ref b36)]))
    refine Goes.st (fun sT kT => XS.iconst X43.here hx rfl (hb hby d2_56) kT) ?_
    show Goes _ _ _ _ (T43.setTop (mkF m 57 #[.val (.int (2 : Int32)), .val (.ref b), .val (.int (0 : Int32))] [(.int (1 : Int32)), (.ref b38), (.ref b38), (.ref b36), (.ref b36)]))
    refine Goes.st (fun sT kT => XS.aloadN X43.here hx rfl (hb hby d2_57) rfl rfl kT) ?_
    show Goes _ _ _ _ (T43.setTop (mkF m 58 #[.val (.int (2 : Int32)), .val (.ref b), .val (.int (0 : Int32))] [(.ref b), (.int (1 : Int32)), (.ref b38), (.ref b38), (.ref b36), (.ref b36)]))
    refine Goes.st (fun sT kT => XS.iloadN X43.here hx rfl (hb hby d2_58) rfl kT) ?_
    show Goes _ _ _ _ (T43.setTop (mkF m 59 #[.val (.int (2 : Int32)), .val (.ref b), .val (.int (0 : Int32))] [(.int (0 : Int32)), (.ref b), (.int (1 : Int32)), (.ref b38), (.ref b38), (.ref b36), (.ref b36)]))
    refine Goes.st (fun sT kT => XS.iconst X43.here hx rfl (hb hby d2_59) kT) ?_
    show Goes _ _ _ _ (T43.setTop (mkF m 60 #[.val (.int (2 : Int32)), .val (.ref b), .val (.int (0 : Int32))] [(.int (1 : Int32)), (.int (0 : Int32)), (.ref b), (.int (1 : Int32)), (.ref b38), (.ref b38), (.ref b36), (.ref b36)]))
    refine Goes.st (fun sT kT => XS.iadd X43.here hx rfl (hb hby d2_60) rfl kT) ?_
    show Goes _ _ _ _ (T43.setTop (mkF m 61 #[.val (.int (2 : Int32)), .val (.ref b), .val (.int (0 : Int32))] [(.int (1 : Int32)), (.ref b), (.int (1 : Int32)), (.ref b38), (.ref b38), (.ref b36), (.ref b36)]))
    have f45 : Arv Z h43 b kc .char (4 : Int32) [(.int c0), (.int c1), (.int c2), (.int c3)] (.int (0 : Int32)) := (f40.other W43 (Nat.ne_of_lt (Nat.lt_of_lt_of_le P0.lt (Nat.le_trans E36.1 (Nat.le_of_eq g38.symm)))))
    obtain ⟨oc46, oA46, oq46, oS46, oM46, oH46, oG46⟩ := id f45
    refine Goes.st (fun sT kT => X43.caload hx (j := (1 : Int32)) (v := (.int c1)) (by rw [e43]; exact oA46.1) (State.isArrayOf_alike hZ.alike oA46.2.1) oA46.2.2 (inb_of oS46 ⟨by decide, by decide⟩) (oH46.at (inb_of oS46 ⟨by decide, by decide⟩) rfl) (g := (mkF m 61 #[.val (.int (2 : Int32)), .val (.ref b), .val (.int (0 : Int32))] [(.int (1 : Int32)), (.ref b), (.int (1 : Int32)), (.ref b38), (.ref b38), (.ref b36), (.ref b36)])) rfl rfl (hb hby d2_61) _ kT) ?_
    show Goes _ _ _ _ (T43.setTop (mkF m 62 #[.val (.int (2 : Int32)), .val (.ref b), .val (.int (0 : Int32))] [(.int c1), (.int (1 : Int32)), (.ref b38), (.ref b38), (.ref b36), (.ref b36)]))
    obtain ⟨oc47, oA47, oq47, oS47, oM47, oH47, oG47⟩ := id V43
    obtain ⟨T48, h48, X48, e48, W48, st48⟩ := stC X43 hx hZ e43 oA47 (j := (1 : Int32)) (inb_of oS47 ⟨by decide, by decide⟩) (g := (mkF m 62 #[.val (.int (2 : Int32)), .val (.ref b), .val (.int (0 : Int32))] [(.int c1), (.int (1 : Int32)), (.ref b38), (.ref b38), (.ref b36), (.ref b36)])) rfl rfl (hb hby d2_62)
    rw [own_narc rg_c1] at W48
    have V48 : Arv Z h48 b38 k38 .char (2 : Int32) [(.int c0), (.int c1)] (.int (0 : Int32)) := Arv.set oA47 oq47 oS47 oM47 oH47 oG47 (own_fitsc rg_c1) W48 1 rfl (Nat.le_of_ble_eq_true rfl)
    have N48 := Fr.snoc X48 N43 (Nat.le_trans Z0 (Nat.le_trans E36.1 (Nat.le_of_eq g38.symm)))
    have CR49 : CHr Z EL s.vm h0 s.vm h48 := CR44.trans (CHr.wr W48 (own_safeArv hZ.alike V43 (by simp)) CR44.1)
    have sf49_b36 : Safe Z EL s.vm h48 b36 := Safe.wr W48 (own_safeArv hZ.alike V43 (by simp)) CR44.1 sf44_b36
    refine Goes.st st48 ?_
    show Goes _ _ _ _ (T48.setTop (mkF m 63 #[.val (.int (2 : Int32)), .val (.ref b), .val (.int (0 : Int32))] [(.ref b38), (.ref b36), (.ref b36)]))
    have f51 : Exa Z h48 b36 "java/lang/String" := (((A36.ext E38).wr W43).wr W48)
    have f52 : Fld Z h48 b36 "java/lang/String" "value" "[B" .null := (((F36_value.ext E38).other W43 (Or.inl (Nat.ne_of_lt (Nat.lt_of_lt_of_le A36.lt (Nat.le_of_eq g38.symm))))).other W48 (Or.inl (Nat.ne_of_lt (Nat.lt_of_lt_of_le A36.lt (Nat.le_of_eq g38.symm)))))
    have f53 : Fld Z h48 b36 "java/lang/String" "coder" "B" (.int (0 : Int32)) := (((F36_coder.ext E38).other W43 (Or.inl (Nat.ne_of_lt (Nat.lt_of_lt_of_le A36.lt (Nat.le_of_eq g38.symm))))).other W48 (Or.inl (Nat.ne_of_lt (Nat.lt_of_lt_of_le A36.lt (Nat.le_of_eq g38.symm)))))
    have f54 : Old Z n0 h48 := ((((P1.ext E36).ext E38).wr W43 (Nat.le_trans Z0 (Nat.le_trans E36.1 (Nat.le_of_eq g38.symm)))).wr W48 (Nat.le_trans Z0 (Nat.le_trans E36.1 (Nat.le_of_eq g38.symm))))
    have hp55 : ∀ c ∈ ([c0, c1] : List Int32), ¬ c < 0 ∧ ¬ (255 : Int32) < c := (own_cS rg_c0 (own_cS rg_c1 own_c0))
    obtain ⟨_, _, ⟨T50, L50, k50, n50⟩, -, X50, ⟨Lc50, hQ50, l50, y50, z50⟩, st50⟩ := X48.specialBack hx (y := (⟨"java/lang/String", "<init>", "([C)V"⟩ : MethodName)) rfl hown (mvT hZ (hw12 hw)) (mvT hZ (hw13 hw)) (mvT hZ (hw14 hw)) (by decide) (StrChars.Road.backV (W := 1) hZ (own_hws hw) (kI := 4) (hw10 hw) (cs := ([c0, c1] : List Int32)) (bs := ([c0, c1] : List Int32).map (fun c => c.toInt8.toInt32)) (n := 2) (Nat.le_trans Z0 (Nat.le_of_eq g36.symm)) (Nat.le_trans Z0 (Nat.le_trans (Nat.le_trans (Nat.le_trans E36.1 E38.1) (Nat.le_of_eq W43.size.symm)) (Nat.le_of_eq W48.size.symm))) f51 f52 f53 V48 (O2.ext f54.2) P5 rfl rfl (by decide) (by decide) hp55 rfl (by decide) (by decide)) (g := (mkF m 63 #[.val (.int (2 : Int32)), .val (.ref b), .val (.int (0 : Int32))] [(.ref b38), (.ref b36), (.ref b36)])) rfl (by rw [hml]; rfl) (Steps.refl _) (a := b36) (argsL := [(.ref b38)]) (rest := [(.ref b36)]) (lenOf pd_17 rfl) rfl (by show 2 * 0 + _ ≤ _; exact Nat.le_of_eq rfl) (hb hby d2_63) (fun _ _ => ⟨rfl, e48, (by decide : 2 + 1 ≤ _), (by decide : 6 + 2 ≤ _)⟩)
    dsimp only [Pt.U, Pt.locs, Pt.cells, Pt.slots] at X50 l50 y50 z50 st50 hQ50
    subst l50 y50 z50
    obtain ⟨rfl, N50q, K50, Ex50, Cd50, t50, kb50, lz50, lo50, tn50, Vf50, Av50⟩ := hQ50
    have N50 := Fr.app N48 N50q
    have S50 : Str Z T50.heap b36 t50 kb50 [c0, c1] := ⟨Ex50, Vf50, Cd50, Av50, hp55, Nat.le_of_ble_eq_true rfl⟩
    have hs56 : ∀ x ∈ ([b36] : List Addr), Safe Z EL s.vm h48 x := (allS sf49_b36 all0)
    have CR56 : CHr Z EL s.vm h0 s.vm T50.heap := CR49.trans (CHr.keep K50 hs56 CR49.1)
    have sf56_b36 : Safe Z EL s.vm T50.heap b36 := Safe.keep K50 hs56 CR49.1 sf49_b36
    refine Goes.tr st50 ?_
    show Goes _ _ _ _ (T50.setTop (mkF m 66 #[.val (.int (2 : Int32)), .val (.ref b), .val (.int (0 : Int32))] [(.ref b36)]))
    have S57 : Str Z T50.heap b36 t50 kb50 (([c0, c1, c2, c3].drop 0).take n) := by rw [show (([c0, c1, c2, c3].drop 0).take n) = [c0, c1] from by rw [hn2]; rfl]; exact S50
    have kp58 : Keep h0 h36 [] := (Keep.refl h0 []).ext E36
    have kp59 : Keep h0 h38 [] := kp58.ext E38
    have kp60 : Keep h0 h43 [] := kp59.wr W43 (Or.inr (Nat.le_trans E36.1 (Nat.le_of_eq g38.symm)))
    have kp61 : Keep h0 h48 [] := kp60.wr W48 (Or.inr (Nat.le_trans E36.1 (Nat.le_of_eq g38.symm)))
    have kp62 : Keep h0 T50.heap [] := kp61.trans K50 (allS (Or.inr (Nat.le_of_eq g36.symm)) all0)
    obtain ⟨fs, hr, hrun, hended, hRW⟩ := X50.leaveW hS0 (Nat.le_trans (Nat.le_trans (Nat.le_trans (Nat.le_trans (Nat.le_trans hk0 E36.1) E38.1) (Nat.le_of_eq W43.size.symm)) (Nat.le_of_eq W48.size.symm)) K50.1) (v := some (.ref b36)) (fun h => by rw [Bd.returns] at h; cases h)
    subst hQQ
    have hCR : CHr Z EL s.vm s.heap T50.vm T50.heap := by rw [hh]; exact CR56.trans (CHv.at X50 hZ (own_EW hw) CR56.1)
    refine ⟨_, _, retR X50 hx Bd.returns rfl rfl (hb hby d2_66) hr, hrun, hended, _, _, rfl, ?_, hCR, own_REmono hRW (by decide) (by decide)⟩
    show Q_mk0 Z n b kc c0 c1 c2 c3 G1 h0 n0 _ T50.heap _
    exact ⟨b36, t50, kb50, rfl, N50, kp62, S57, (Nat.le_of_eq g36.symm), (Ne.symm tn50)⟩
   case neg =>
    by_cases hn3 : n = 3
    case pos =>
     rw [show Int32.ofNat n = (3 : Int32) from by rw [hn3]; rfl]
     show Goes _ _ _ _ (s₁.setTop (mkF m 0 #[.val (.int (3 : Int32)), .val (.ref b), .val (.int (0 : Int32))] []))
     refine Goes.st (fun sT kT => XS.iloadN X0.here hx rfl (hb hby d2_0) rfl kT) ?_
     show Goes _ _ _ _ (s₁.setTop (mkF m 1 #[.val (.int (3 : Int32)), .val (.ref b), .val (.int (0 : Int32))] [(.int (3 : Int32))]))
     refine Goes.st (fun sT kT => XS.ifYes X0.here hx rfl (pc0 := 1) (pc' := 15) rfl (hb hby d2_1) rfl ((if0 _ _).trans (tlt (by decide : (0 : Int32) < (3 : Int32))).2.2.1) (by decide) (by decide) kT) ?_
     show Goes _ _ _ _ (s₁.setTop (mkF m 15 #[.val (.int (3 : Int32)), .val (.ref b), .val (.int (0 : Int32))] []))
     refine Goes.st (fun sT kT => XS.iloadN X0.here hx rfl (hb hby d2_15) rfl kT) ?_
     show Goes _ _ _ _ (s₁.setTop (mkF m 16 #[.val (.int (3 : Int32)), .val (.ref b), .val (.int (0 : Int32))] [(.int (3 : Int32))]))
     refine Goes.st (fun sT kT => XS.iconst X0.here hx rfl (hb hby d2_16) kT) ?_
     show Goes _ _ _ _ (s₁.setTop (mkF m 17 #[.val (.int (3 : Int32)), .val (.ref b), .val (.int (0 : Int32))] [(.int (1 : Int32)), (.int (3 : Int32))]))
     refine Goes.st (fun sT kT => XS.icmpYes X0.here hx rfl (pc0 := 17) (pc' := 37) rfl (hb hby d2_17) rfl (feq (by decide : ¬ ((3 : Int32) = (1 : Int32)))).2 (by decide) (by decide) kT) ?_
     show Goes _ _ _ _ (s₁.setTop (mkF m 37 #[.val (.int (3 : Int32)), .val (.ref b), .val (.int (0 : Int32))] []))
     refine Goes.st (fun sT kT => XS.iloadN X0.here hx rfl (hb hby d2_37) rfl kT) ?_
     show Goes _ _ _ _ (s₁.setTop (mkF m 38 #[.val (.int (3 : Int32)), .val (.ref b), .val (.int (0 : Int32))] [(.int (3 : Int32))]))
     refine Goes.st (fun sT kT => XS.iconst X0.here hx rfl (hb hby d2_38) kT) ?_
     show Goes _ _ _ _ (s₁.setTop (mkF m 39 #[.val (.int (3 : Int32)), .val (.ref b), .val (.int (0 : Int32))] [(.int (2 : Int32)), (.int (3 : Int32))]))
     refine Goes.st (fun sT kT => XS.icmpYes X0.here hx rfl (pc0 := 39) (pc' := 67) rfl (hb hby d2_39) rfl (feq (by decide : ¬ ((3 : Int32) = (2 : Int32)))).2 (by decide) (by decide) kT) ?_
     show Goes _ _ _ _ (s₁.setTop (mkF m 67 #[.val (.int (3 : Int32)), .val (.ref b), .val (.int (0 : Int32))] []))
     refine Goes.st (fun sT kT => XS.iloadN X0.here hx rfl (hb hby d2_67) rfl kT) ?_
     show Goes _ _ _ _ (s₁.setTop (mkF m 68 #[.val (.int (3 : Int32)), .val (.ref b), .val (.int (0 : Int32))] [(.int (3 : Int32))]))
     refine Goes.st (fun sT kT => XS.iconst X0.here hx rfl (hb hby d2_68) kT) ?_
     show Goes _ _ _ _ (s₁.setTop (mkF m 69 #[.val (.int (3 : Int32)), .val (.ref b), .val (.int (0 : Int32))] [(.int (3 : Int32)), (.int (3 : Int32))]))
     refine Goes.st (fun sT kT => XS.icmpNo X0.here hx rfl (hb hby d2_69) rfl (teq (by decide : (3 : Int32) = (3 : Int32))).2 kT) ?_
     show Goes _ _ _ _ (s₁.setTop (mkF m 72 #[.val (.int (3 : Int32)), .val (.ref b), .val (.int (0 : Int32))] []))
     obtain ⟨T63, h63, X63, e63, E63, A63, D63, -, st63⟩ := newO X0 hx hZ hown (hw9 hw) (hw10 hw) (hw11 hw) e0 (g := (mkF m 72 #[.val (.int (3 : Int32)), .val (.ref b), .val (.int (0 : Int32))] [])) rfl (hb hby d2_72) (by decide) (by decide)
     obtain ⟨b63, g63⟩ : ∃ z, z = h0.size := ⟨_, rfl⟩
     rw [← g63] at A63 D63 st63
     have CR64 : CHr Z EL s.vm h0 s.vm h63 := CR0.trans (CHr.ext E63 CR0.1)
     have sf63_b63 : Safe Z EL s.vm h63 b63 := Safe.ext E63 CR0.1 (Safe.new (Nat.le_of_eq g63.symm))
     have F63_value : Fld Z h63 b63 "java/lang/String" "value" "[B" .null := D63 (Or.inr (hw24 hw)) (ty := (.array .byte)) (by decide)
     have F63_coder : Fld Z h63 b63 "java/lang/String" "coder" "B" (.int (0 : Int32)) := D63 (Or.inr (hw25 hw)) (ty := .byte) (by decide)
     refine Goes.st st63 ?_
     show Goes _ _ _ _ (T63.setTop (mkF m 75 #[.val (.int (3 : Int32)), .val (.ref b), .val (.int (0 : Int32))] [(.ref b63)]))
     refine Goes.st (fun sT kT => XS.dup X63.here hx rfl (hb hby d2_75) rfl rfl kT) ?_
     show Goes _ _ _ _ (T63.setTop (mkF m 76 #[.val (.int (3 : Int32)), .val (.ref b), .val (.int (0 : Int32))] [(.ref b63), (.ref b63)]))
     refine Goes.st (fun sT kT => XS.iconst X63.here hx rfl (hb hby d2_76) kT) ?_
     show Goes _ _ _ _ (T63.setTop (mkF m 77 #[.val (.int (3 : Int32)), .val (.ref b), .val (.int (0 : Int32))] [(.int (3 : Int32)), (.ref b63), (.ref b63)]))
     obtain ⟨T65, h65, k65, X65, e65, E65, A65, st65⟩ := newP X63 hx hZ (aty := .char) (hw1 hw) e63 (g := (mkF m 77 #[.val (.int (3 : Int32)), .val (.ref b), .val (.int (0 : Int32))] [(.int (3 : Int32)), (.ref b63), (.ref b63)])) rfl (hb hby d2_77) rfl (by decide) (cap := 3) (by decide) (by decide) (by decide) (by decide)
     obtain ⟨b65, g65⟩ : ∃ z, z = h63.size := ⟨_, rfl⟩
     rw [← g65] at A65 st65
     have CR66 : CHr Z EL s.vm h0 s.vm h65 := CR64.trans (CHr.ext E65 CR64.1)
     have sf66_b63 : Safe Z EL s.vm h65 b63 := Safe.ext E65 CR64.1 sf63_b63
     have V65 : Arv Z h65 b65 k65 .char (3 : Int32) [(.int (0 : Int32)), (.int (0 : Int32)), (.int (0 : Int32))] (.int (0 : Int32)) := (Arv.new A65 (by decide)).pad (pad_rep [] (.int (0 : Int32)) 3)
     refine Goes.st st65 ?_
     show Goes _ _ _ _ (T65.setTop (mkF m 79 #[.val (.int (3 : Int32)), .val (.ref b), .val (.int (0 : Int32))] [(.ref b65), (.ref b63), (.ref b63)]))
     refine Goes.st (fun sT kT => XS.dup X65.here hx rfl (hb hby d2_79) rfl rfl kT) ?_
     show Goes _ _ _ _ (T65.setTop (mkF m 80 #[.val (.int (3 : Int32)), .val (.ref b), .val (.int (0 : Int32))] [(.ref b65), (.ref b65), (.ref b63), (.ref b63)]))
     refine Goes.st (fun sT kT => XS.iconst X65.here hx rfl (hb hby d2_80) kT) ?_
     show Goes _ _ _ _ (T65.setTop (mkF m 81 #[.val (.int (3 : Int32)), .val (.ref b), .val (.int (0 : Int32))] [(.int (0 : Int32)), (.ref b65), (.ref b65), (.ref b63), (.ref b63)]))
     refine Goes.st (fun sT kT => XS.aloadN X65.here hx rfl (hb hby d2_81) rfl rfl kT) ?_
     show Goes _ _ _ _ (T65.setTop (mkF m 82 #[.val (.int (3 : Int32)), .val (.ref b), .val (.int (0 : Int32))] [(.ref b), (.int (0 : Int32)), (.ref b65), (.ref b65), (.ref b63), (.ref b63)]))
     refine Goes.st (fun sT kT => XS.iloadN X65.here hx rfl (hb hby d2_82) rfl kT) ?_
     show Goes _ _ _ _ (T65.setTop (mkF m 83 #[.val (.int (3 : Int32)), .val (.ref b), .val (.int (0 : Int32))] [(.int (0 : Int32)), (.ref b), (.int (0 : Int32)), (.ref b65), (.ref b65), (.ref b63), (.ref b63)]))
     have f67 : Arv Z h65 b kc .char (4 : Int32) [(.int c0), (.int c1), (.int c2), (.int c3)] (.int (0 : Int32)) := ((P0.ext E63).ext E65)
     obtain ⟨oc68, oA68, oq68, oS68, oM68, oH68, oG68⟩ := id f67
     refine Goes.st (fun sT kT => X65.caload hx (j := (0 : Int32)) (v := (.int c0)) (by rw [e65]; exact oA68.1) (State.isArrayOf_alike hZ.alike oA68.2.1) oA68.2.2 (inb_of oS68 ⟨by decide, by decide⟩) (oH68.at (inb_of oS68 ⟨by decide, by decide⟩) rfl) (g := (mkF m 83 #[.val (.int (3 : Int32)), .val (.ref b), .val (.int (0 : Int32))] [(.int (0 : Int32)), (.ref b), (.int (0 : Int32)), (.ref b65), (.ref b65), (.ref b63), (.ref b63)])) rfl rfl (hb hby d2_83) _ kT) ?_
     show Goes _ _ _ _ (T65.setTop (mkF m 84 #[.val (.int (3 : Int32)), .val (.ref b), .val (.int (0 : Int32))] [(.int c0), (.int (0 : Int32)), (.ref b65), (.ref b65), (.ref b63), (.ref b63)]))
     obtain ⟨oc69, oA69, oq69, oS69, oM69, oH69, oG69⟩ := id V65
     obtain ⟨T70, h70, X70, e70, W70, st70⟩ := stC X65 hx hZ e65 oA69 (j := (0 : Int32)) (inb_of oS69 ⟨by decide, by decide⟩) (g := (mkF m 84 #[.val (.int (3 : Int32)), .val (.ref b), .val (.int (0 : Int32))] [(.int c0), (.int (0 : Int32)), (.ref b65), (.ref b65), (.ref b63), (.ref b63)])) rfl rfl (hb hby d2_84)
     rw [own_narc rg_c0] at W70
     have V70 : Arv Z h70 b65 k65 .char (3 : Int32) [(.int c0), (.int (0 : Int32)), (.int (0 : Int32))] (.int (0 : Int32)) := Arv.set oA69 oq69 oS69 oM69 oH69 oG69 (own_fitsc rg_c0) W70 0 rfl (Nat.le_of_ble_eq_true rfl)
     have N70 := Fr.snoc X70 N0 (Nat.le_trans Z0 (Nat.le_trans E63.1 (Nat.le_of_eq g65.symm)))
     have CR71 : CHr Z EL s.vm h0 s.vm h70 := CR66.trans (CHr.wr W70 (own_safeArv hZ.alike V65 (by simp)) CR66.1)
     have sf71_b63 : Safe Z EL s.vm h70 b63 := Safe.wr W70 (own_safeArv hZ.alike V65 (by simp)) CR66.1 sf66_b63
     refine Goes.st st70 ?_
     show Goes _ _ _ _ (T70.setTop (mkF m 85 #[.val (.int (3 : Int32)), .val (.ref b), .val (.int (0 : Int32))] [(.ref b65), (.ref b63), (.ref b63)]))
     refine Goes.st (fun sT kT => XS.dup X70.here hx rfl (hb hby d2_85) rfl rfl kT) ?_
     show Goes _ _ _ _ (T70.setTop (mkF m 86 #[.val (.int (3 : Int32)), .val (.ref b), .val (.int (0 : Int32))] [(.ref b65), (.ref b65), (.ref b63), (.ref b63)]))
     refine Goes.st (fun sT kT => XS.iconst X70.here hx rfl (hb hby d2_86) kT) ?_
     show Goes _ _ _ _ (T70.setTop (mkF m 87 #[.val (.int (3 : Int32)), .val (.ref b), .val (.int (0 : Int32))] [(.int (1 : Int32)), (.ref b65), (.ref b65), (.ref b63), (.ref b63)]))
     refine Goes.st (fun sT kT => XS.aloadN X70.here hx rfl (hb hby d2_87) rfl rfl kT) ?_
     show Goes _ _ _ _ (T70.setTop (mkF m 88 #[.val (.int (3 : Int32)), .val (.ref b), .val (.int (0 : Int32))] [(.ref b), (.int (1 : Int32)), (.ref b65), (.ref b65), (.ref b63), (.ref b63)]))
     refine Goes.st (fun sT kT => XS.iloadN X70.here hx rfl (hb hby d2_88) rfl kT) ?_
     show Goes _ _ _ _ (T70.setTop (mkF m 89 #[.val (.int (3 : Int32)), .val (.ref b), .val (.int (0 : Int32))] [(.int (0 : Int32)), (.ref b), (.int (1 : Int32)), (.ref b65), (.ref b65), (.ref b63), (.ref b63)]))
     refine Goes.st (fun sT kT => XS.iconst X70.here hx rfl (hb hby d2_89) kT) ?_
     show Goes _ _ _ _ (T70.setTop (mkF m 90 #[.val (.int (3 : Int32)), .val (.ref b), .val (.int (0 : Int32))] [(.int (1 : Int32)), (.int (0 : Int32)), (.ref b), (.int (1 : Int32)), (.ref b65), (.ref b65), (.ref b63), (.ref b63)]))
     refine Goes.st (fun sT kT => XS.iadd X70.here hx rfl (hb hby d2_90) rfl kT) ?_
     show Goes _ _ _ _ (T70.setTop (mkF m 91 #[.val (.int (3 : Int32)), .val (.ref b), .val (.int (0 : Int32))] [(.int (1 : Int32)), (.ref b), (.int (1 : Int32)), (.ref b65), (.ref b65), (.ref b63), (.ref b63)]))
     have f72 : Arv Z h70 b kc .char (4 : Int32) [(.int c0), (.int c1), (.int c2), (.int c3)] (.int (0 : Int32)) := (f67.other W70 (Nat.ne_of_lt (Nat.lt_of_lt_of_le P0.lt (Nat.le_trans E63.1 (Nat.le_of_eq g65.symm)))))
     obtain ⟨oc73, oA73, oq73, oS73, oM73, oH73, oG73⟩ := id f72
     refine Goes.st (fun sT kT => X70.caload hx (j := (1 : Int32)) (v := (.int c1)) (by rw [e70]; exact oA73.1) (State.isArrayOf_alike hZ.alike oA73.2.1) oA73.2.2 (inb_of oS73 ⟨by decide, by decide⟩) (oH73.at (inb_of oS73 ⟨by decide, by decide⟩) rfl) (g := (mkF m 91 #[.val (.int (3 : Int32)), .val (.ref b), .val (.int (0 : Int32))] [(.int (1 : Int32)), (.ref b), (.int (1 : Int32)), (.ref b65), (.ref b65), (.ref b63), (.ref b63)])) rfl rfl (hb hby d2_91) _ kT) ?_
     show Goes _ _ _ _ (T70.setTop (mkF m 92 #[.val (.int (3 : Int32)), .val (.ref b), .val (.int (0 : Int32))] [(.int c1), (.int (1 : Int32)), (.ref b65), (.ref b65), (.ref b63), (.ref b63)]))
     obtain ⟨oc74, oA74, oq74, oS74, oM74, oH74, oG74⟩ := id V70
     obtain ⟨T75, h75, X75, e75, W75, st75⟩ := stC X70 hx hZ e70 oA74 (j := (1 : Int32)) (inb_of oS74 ⟨by decide, by decide⟩) (g := (mkF m 92 #[.val (.int (3 : Int32)), .val (.ref b), .val (.int (0 : Int32))] [(.int c1), (.int (1 : Int32)), (.ref b65), (.ref b65), (.ref b63), (.ref b63)])) rfl rfl (hb hby d2_92)
     rw [own_narc rg_c1] at W75
     have V75 : Arv Z h75 b65 k65 .char (3 : Int32) [(.int c0), (.int c1), (.int (0 : Int32))] (.int (0 : Int32)) := Arv.set oA74 oq74 oS74 oM74 oH74 oG74 (own_fitsc rg_c1) W75 1 rfl (Nat.le_of_ble_eq_true rfl)
     have N75 := Fr.snoc X75 N70 (Nat.le_trans Z0 (Nat.le_trans E63.1 (Nat.le_of_eq g65.symm)))
     have CR76 : CHr Z EL s.vm h0 s.vm h75 := CR71.trans (CHr.wr W75 (own_safeArv hZ.alike V70 (by simp)) CR71.1)
     have sf76_b63 : Safe Z EL s.vm h75 b63 := Safe.wr W75 (own_safeArv hZ.alike V70 (by simp)) CR71.1 sf71_b63
     refine Goes.st st75 ?_
     show Goes _ _ _ _ (T75.setTop (mkF m 93 #[.val (.int (3 : Int32)), .val (.ref b), .val (.int (0 : Int32))] [(.ref b65), (.ref b63), (.ref b63)]))
     refine Goes.st (fun sT kT => XS.dup X75.here hx rfl (hb hby d2_93) rfl rfl kT) ?_
     show Goes _ _ _ _ (T75.setTop (mkF m 94 #[.val (.int (3 : Int32)), .val (.ref b), .val (.int (0 : Int32))] [(.ref b65), (.ref b65), (.ref b63), (.ref b63)]))
     refine Goes.st (fun sT kT => XS.iconst X75.here hx rfl (hb hby d2_94) kT) ?_
     show Goes _ _ _ _ (T75.setTop (mkF m 95 #[.val (.int (3 : Int32)), .val (.ref b), .val (.int (0 : Int32))] [(.int (2 : Int32)), (.ref b65), (.ref b65), (.ref b63), (.ref b63)]))
     refine Goes.st (fun sT kT => XS.aloadN X75.here hx rfl (hb hby d2_95) rfl rfl kT) ?_
     show Goes _ _ _ _ (T75.setTop (mkF m 96 #[.val (.int (3 : Int32)), .val (.ref b), .val (.int (0 : Int32))] [(.ref b), (.int (2 : Int32)), (.ref b65), (.ref b65), (.ref b63), (.ref b63)]))
     refine Goes.st (fun sT kT => XS.iloadN X75.here hx rfl (hb hby d2_96) rfl kT) ?_
     show Goes _ _ _ _ (T75.setTop (mkF m 97 #[.val (.int (3 : Int32)), .val (.ref b), .val (.int (0 : Int32))] [(.int (0 : Int32)), (.ref b), (.int (2 : Int32)), (.ref b65), (.ref b65), (.ref b63), (.ref b63)]))
     refine Goes.st (fun sT kT => XS.iconst X75.here hx rfl (hb hby d2_97) kT) ?_
     show Goes _ _ _ _ (T75.setTop (mkF m 98 #[.val (.int (3 : Int32)), .val (.ref b), .val (.int (0 : Int32))] [(.int (2 : Int32)), (.int (0 : Int32)), (.ref b), (.int (2 : Int32)), (.ref b65), (.ref b65), (.ref b63), (.ref b63)]))
     refine Goes.st (fun sT kT => XS.iadd X75.here hx rfl (hb hby d2_98) rfl kT) ?_
     show Goes _ _ _ _ (T75.setTop (mkF m 99 #[.val (.int (3 : Int32)), .val (.ref b), .val (.int (0 : Int32))] [(.int (2 : Int32)), (.ref b), (.int (2 : Int32)), (.ref b65), (.ref b65), (.ref b63), (.ref b63)]))
     have f77 : Arv Z h75 b kc .char (4 : Int32) [(.int c0), (.int c1), (.int c2), (.int c3)] (.int (0 : Int32)) := (f72.other W75 (Nat.ne_of_lt (Nat.lt_of_lt_of_le P0.lt (Nat.le_trans E63.1 (Nat.le_of_eq g65.symm)))))
     obtain ⟨oc78, oA78, oq78, oS78, oM78, oH78, oG78⟩ := id f77
     refine Goes.st (fun sT kT => X75.caload hx (j := (2 : Int32)) (v := (.int c2)) (by rw [e75]; exact oA78.1) (State.isArrayOf_alike hZ.alike oA78.2.1) oA78.2.2 (inb_of oS78 ⟨by decide, by decide⟩) (oH78.at (inb_of oS78 ⟨by decide, by decide⟩) rfl) (g := (mkF m 99 #[.val (.int (3 : Int32)), .val (.ref b), .val (.int (0 : Int32))] [(.int (2 : Int32)), (.ref b), (.int (2 : Int32)), (.ref b65), (.ref b65), (.ref b63), (.ref b63)])) rfl rfl (hb hby d2_99) _ kT) ?_
     show Goes _ _ _ _ (T75.setTop (mkF m 100 #[.val (.int (3 : Int32)), .val (.ref b), .val (.int (0 : Int32))] [(.int c2), (.int (2 : Int32)), (.ref b65), (.ref b65), (.ref b63), (.ref b63)]))
     obtain ⟨oc79, oA79, oq79, oS79, oM79, oH79, oG79⟩ := id V75
     obtain ⟨T80, h80, X80, e80, W80, st80⟩ := stC X75 hx hZ e75 oA79 (j := (2 : Int32)) (inb_of oS79 ⟨by decide, by decide⟩) (g := (mkF m 100 #[.val (.int (3 : Int32)), .val (.ref b), .val (.int (0 : Int32))] [(.int c2), (.int (2 : Int32)), (.ref b65), (.ref b65), (.ref b63), (.ref b63)])) rfl rfl (hb hby d2_100)
     rw [own_narc rg_c2] at W80
     have V80 : Arv Z h80 b65 k65 .char (3 : Int32) [(.int c0), (.int c1), (.int c2)] (.int (0 : Int32)) := Arv.set oA79 oq79 oS79 oM79 oH79 oG79 (own_fitsc rg_c2) W80 2 rfl (Nat.le_of_ble_eq_true rfl)
     have N80 := Fr.snoc X80 N75 (Nat.le_trans Z0 (Nat.le_trans E63.1 (Nat.le_of_eq g65.symm)))
     have CR81 : CHr Z EL s.vm h0 s.vm h80 := CR76.trans (CHr.wr W80 (own_safeArv hZ.alike V75 (by simp)) CR76.1)
     have sf81_b63 : Safe Z EL s.vm h80 b63 := Safe.wr W80 (own_safeArv hZ.alike V75 (by simp)) CR76.1 sf76_b63
     refine Goes.st st80 ?_
     show Goes _ _ _ _ (T80.setTop (mkF m 101 #[.val (.int (3 : Int32)), .val (.ref b), .val (.int (0 : Int32))] [(.ref b65), (.ref b63), (.ref b63)]))
     have f83 : Exa Z h80 b63 "java/lang/String" := ((((A63.ext E65).wr W70).wr W75).wr W80)
     have f84 : Fld Z h80 b63 "java/lang/String" "value" "[B" .null := ((((F63_value.ext E65).other W70 (Or.inl (Nat.ne_of_lt (Nat.lt_of_lt_of_le A63.lt (Nat.le_of_eq g65.symm))))).other W75 (Or.inl (Nat.ne_of_lt (Nat.lt_of_lt_of_le A63.lt (Nat.le_of_eq g65.symm))))).other W80 (Or.inl (Nat.ne_of_lt (Nat.lt_of_lt_of_le A63.lt (Nat.le_of_eq g65.symm)))))
     have f85 : Fld Z h80 b63 "java/lang/String" "coder" "B" (.int (0 : Int32)) := ((((F63_coder.ext E65).other W70 (Or.inl (Nat.ne_of_lt (Nat.lt_of_lt_of_le A63.lt (Nat.le_of_eq g65.symm))))).other W75 (Or.inl (Nat.ne_of_lt (Nat.lt_of_lt_of_le A63.lt (Nat.le_of_eq g65.symm))))).other W80 (Or.inl (Nat.ne_of_lt (Nat.lt_of_lt_of_le A63.lt (Nat.le_of_eq g65.symm)))))
     have f86 : Old Z n0 h80 := (((((P1.ext E63).ext E65).wr W70 (Nat.le_trans Z0 (Nat.le_trans E63.1 (Nat.le_of_eq g65.symm)))).wr W75 (Nat.le_trans Z0 (Nat.le_trans E63.1 (Nat.le_of_eq g65.symm)))).wr W80 (Nat.le_trans Z0 (Nat.le_trans E63.1 (Nat.le_of_eq g65.symm))))
     have hp87 : ∀ c ∈ ([c0, c1, c2] : List Int32), ¬ c < 0 ∧ ¬ (255 : Int32) < c := (own_cS rg_c0 (own_cS rg_c1 (own_cS rg_c2 own_c0)))
     obtain ⟨_, _, ⟨T82, L82, k82, n82⟩, -, X82, ⟨Lc82, hQ82, l82, y82, z82⟩, st82⟩ := X80.specialBack hx (y := (⟨"java/lang/String", "<init>", "([C)V"⟩ : MethodName)) rfl hown (mvT hZ (hw12 hw)) (mvT hZ (hw13 hw)) (mvT hZ (hw14 hw)) (by decide) (StrChars.Road.backV (W := 1) hZ (own_hws hw) (kI := 4) (hw10 hw) (cs := ([c0, c1, c2] : List Int32)) (bs := ([c0, c1, c2] : List Int32).map (fun c => c.toInt8.toInt32)) (n := 3) (Nat.le_trans Z0 (Nat.le_of_eq g63.symm)) (Nat.le_trans Z0 (Nat.le_trans (Nat.le_trans (Nat.le_trans (Nat.le_trans E63.1 E65.1) (Nat.le_of_eq W70.size.symm)) (Nat.le_of_eq W75.size.symm)) (Nat.le_of_eq W80.size.symm))) f83 f84 f85 V80 (O2.ext f86.2) P5 rfl rfl (by decide) (by decide) hp87 rfl (by decide) (by decide)) (g := (mkF m 101 #[.val (.int (3 : Int32)), .val (.ref b), .val (.int (0 : Int32))] [(.ref b65), (.ref b63), (.ref b63)])) rfl (by rw [hml]; rfl) (Steps.refl _) (a := b63) (argsL := [(.ref b65)]) (rest := [(.ref b63)]) (lenOf pd_17 rfl) rfl (by show 2 * 0 + _ ≤ _; exact Nat.le_of_eq rfl) (hb hby d2_101) (fun _ _ => ⟨rfl, e80, (by decide : 2 + 1 ≤ _), (by decide : 7 + 3 ≤ _)⟩)
     dsimp only [Pt.U, Pt.locs, Pt.cells, Pt.slots] at X82 l82 y82 z82 st82 hQ82
     subst l82 y82 z82
     obtain ⟨rfl, N82q, K82, Ex82, Cd82, t82, kb82, lz82, lo82, tn82, Vf82, Av82⟩ := hQ82
     have N82 := Fr.app N80 N82q
     have S82 : Str Z T82.heap b63 t82 kb82 [c0, c1, c2] := ⟨Ex82, Vf82, Cd82, Av82, hp87, Nat.le_of_ble_eq_true rfl⟩
     have hs88 : ∀ x ∈ ([b63] : List Addr), Safe Z EL s.vm h80 x := (allS sf81_b63 all0)
     have CR88 : CHr Z EL s.vm h0 s.vm T82.heap := CR81.trans (CHr.keep K82 hs88 CR81.1)
     have sf88_b63 : Safe Z EL s.vm T82.heap b63 := Safe.keep K82 hs88 CR81.1 sf81_b63
     refine Goes.tr st82 ?_
     show Goes _ _ _ _ (T82.setTop (mkF m 104 #[.val (.int (3 : Int32)), .val (.ref b), .val (.int (0 : Int32))] [(.ref b63)]))
     have S89 : Str Z T82.heap b63 t82 kb82 (([c0, c1, c2, c3].drop 0).take n) := by rw [show (([c0, c1, c2, c3].drop 0).take n) = [c0, c1, c2] from by rw [hn3]; rfl]; exact S82
     have kp90 : Keep h0 h63 [] := (Keep.refl h0 []).ext E63
     have kp91 : Keep h0 h65 [] := kp90.ext E65
     have kp92 : Keep h0 h70 [] := kp91.wr W70 (Or.inr (Nat.le_trans E63.1 (Nat.le_of_eq g65.symm)))
     have kp93 : Keep h0 h75 [] := kp92.wr W75 (Or.inr (Nat.le_trans E63.1 (Nat.le_of_eq g65.symm)))
     have kp94 : Keep h0 h80 [] := kp93.wr W80 (Or.inr (Nat.le_trans E63.1 (Nat.le_of_eq g65.symm)))
     have kp95 : Keep h0 T82.heap [] := kp94.trans K82 (allS (Or.inr (Nat.le_of_eq g63.symm)) all0)
     obtain ⟨fs, hr, hrun, hended, hRW⟩ := X82.leaveW hS0 (Nat.le_trans (Nat.le_trans (Nat.le_trans (Nat.le_trans (Nat.le_trans (Nat.le_trans hk0 E63.1) E65.1) (Nat.le_of_eq W70.size.symm)) (Nat.le_of_eq W75.size.symm)) (Nat.le_of_eq W80.size.symm)) K82.1) (v := some (.ref b63)) (fun h => by rw [Bd.returns] at h; cases h)
     subst hQQ
     have hCR : CHr Z EL s.vm s.heap T82.vm T82.heap := by rw [hh]; exact CR88.trans (CHv.at X82 hZ (own_EW hw) CR88.1)
     refine ⟨_, _, retR X82 hx Bd.returns rfl rfl (hb hby d2_104) hr, hrun, hended, _, _, rfl, ?_, hCR, own_REmono hRW (by decide) (by decide)⟩
     show Q_mk0 Z n b kc c0 c1 c2 c3 G1 h0 n0 _ T82.heap _
     exact ⟨b63, t82, kb82, rfl, N82, kp95, S89, (Nat.le_of_eq g63.symm), (Ne.symm tn82)⟩
    case neg =>
     rw [show Int32.ofNat n = (4 : Int32) from by rw [(show n = 4 by omega)]; rfl]
     show Goes _ _ _ _ (s₁.setTop (mkF m 0 #[.val (.int (4 : Int32)), .val (.ref b), .val (.int (0 : Int32))] []))
     refine Goes.st (fun sT kT => XS.iloadN X0.here hx rfl (hb hby d2_0) rfl kT) ?_
     show Goes _ _ _ _ (s₁.setTop (mkF m 1 #[.val (.int (4 : Int32)), .val (.ref b), .val (.int (0 : Int32))] [(.int (4 : Int32))]))
     refine Goes.st (fun sT kT => XS.ifYes X0.here hx rfl (pc0 := 1) (pc' := 15) rfl (hb hby d2_1) rfl ((if0 _ _).trans (tlt (by decide : (0 : Int32) < (4 : Int32))).2.2.1) (by decide) (by decide) kT) ?_
     show Goes _ _ _ _ (s₁.setTop (mkF m 15 #[.val (.int (4 : Int32)), .val (.ref b), .val (.int (0 : Int32))] []))
     refine Goes.st (fun sT kT => XS.iloadN X0.here hx rfl (hb hby d2_15) rfl kT) ?_
     show Goes _ _ _ _ (s₁.setTop (mkF m 16 #[.val (.int (4 : Int32)), .val (.ref b), .val (.int (0 : Int32))] [(.int (4 : Int32))]))
     refine Goes.st (fun sT kT => XS.iconst X0.here hx rfl (hb hby d2_16) kT) ?_
     show Goes _ _ _ _ (s₁.setTop (mkF m 17 #[.val (.int (4 : Int32)), .val (.ref b), .val (.int (0 : Int32))] [(.int (1 : Int32)), (.int (4 : Int32))]))
     refine Goes.st (fun sT kT => XS.icmpYes X0.here hx rfl (pc0 := 17) (pc' := 37) rfl (hb hby d2_17) rfl (feq (by decide : ¬ ((4 : Int32) = (1 : Int32)))).2 (by decide) (by decide) kT) ?_
     show Goes _ _ _ _ (s₁.setTop (mkF m 37 #[.val (.int (4 : Int32)), .val (.ref b), .val (.int (0 : Int32))] []))
     refine Goes.st (fun sT kT => XS.iloadN X0.here hx rfl (hb hby d2_37) rfl kT) ?_
     show Goes _ _ _ _ (s₁.setTop (mkF m 38 #[.val (.int (4 : Int32)), .val (.ref b), .val (.int (0 : Int32))] [(.int (4 : Int32))]))
     refine Goes.st (fun sT kT => XS.iconst X0.here hx rfl (hb hby d2_38) kT) ?_
     show Goes _ _ _ _ (s₁.setTop (mkF m 39 #[.val (.int (4 : Int32)), .val (.ref b), .val (.int (0 : Int32))] [(.int (2 : Int32)), (.int (4 : Int32))]))
     refine Goes.st (fun sT kT => XS.icmpYes X0.here hx rfl (pc0 := 39) (pc' := 67) rfl (hb hby d2_39) rfl (feq (by decide : ¬ ((4 : Int32) = (2 : Int32)))).2 (by decide) (by decide) kT) ?_
     show Goes _ _ _ _ (s₁.setTop (mkF m 67 #[.val (.int (4 : Int32)), .val (.ref b), .val (.int (0 : Int32))] []))
     refine Goes.st (fun sT kT => XS.iloadN X0.here hx rfl (hb hby d2_67) rfl kT) ?_
     show Goes _ _ _ _ (s₁.setTop (mkF m 68 #[.val (.int (4 : Int32)), .val (.ref b), .val (.int (0 : Int32))] [(.int (4 : Int32))]))
     refine Goes.st (fun sT kT => XS.iconst X0.here hx rfl (hb hby d2_68) kT) ?_
     show Goes _ _ _ _ (s₁.setTop (mkF m 69 #[.val (.int (4 : Int32)), .val (.ref b), .val (.int (0 : Int32))] [(.int (3 : Int32)), (.int (4 : Int32))]))
     refine Goes.st (fun sT kT => XS.icmpYes X0.here hx rfl (pc0 := 69) (pc' := 105) rfl (hb hby d2_69) rfl (feq (by decide : ¬ ((4 : Int32) = (3 : Int32)))).2 (by decide) (by decide) kT) ?_
     show Goes _ _ _ _ (s₁.setTop (mkF m 105 #[.val (.int (4 : Int32)), .val (.ref b), .val (.int (0 : Int32))] []))
     obtain ⟨T96, h96, X96, e96, E96, A96, D96, -, st96⟩ := newO X0 hx hZ hown (hw9 hw) (hw10 hw) (hw11 hw) e0 (g := (mkF m 105 #[.val (.int (4 : Int32)), .val (.ref b), .val (.int (0 : Int32))] [])) rfl (hb hby d2_105) (by decide) (by decide)
     obtain ⟨b96, g96⟩ : ∃ z, z = h0.size := ⟨_, rfl⟩
     rw [← g96] at A96 D96 st96
     have CR97 : CHr Z EL s.vm h0 s.vm h96 := CR0.trans (CHr.ext E96 CR0.1)
     have sf96_b96 : Safe Z EL s.vm h96 b96 := Safe.ext E96 CR0.1 (Safe.new (Nat.le_of_eq g96.symm))
     have F96_value : Fld Z h96 b96 "java/lang/String" "value" "[B" .null := D96 (Or.inr (hw24 hw)) (ty := (.array .byte)) (by decide)
     have F96_coder : Fld Z h96 b96 "java/lang/String" "coder" "B" (.int (0 : Int32)) := D96 (Or.inr (hw25 hw)) (ty := .byte) (by decide)
     refine Goes.st st96 ?_
     show Goes _ _ _ _ (T96.setTop (mkF m 108 #[.val (.int (4 : Int32)), .val (.ref b), .val (.int (0 : Int32))] [(.ref b96)]))
     refine Goes.st (fun sT kT => XS.dup X96.here hx rfl (hb hby d2_108) rfl rfl kT) ?_
     show Goes _ _ _ _ (T96.setTop (mkF m 109 #[.val (.int (4 : Int32)), .val (.ref b), .val (.int (0 : Int32))] [(.ref b96), (.ref b96)]))
     refine Goes.st (fun sT kT => XS.iconst X96.here hx rfl (hb hby d2_109) kT) ?_
     show Goes _ _ _ _ (T96.setTop (mkF m 110 #[.val (.int (4 : Int32)), .val (.ref b), .val (.int (0 : Int32))] [(.int (4 : Int32)), (.ref b96), (.ref b96)]))
     obtain ⟨T98, h98, k98, X98, e98, E98, A98, st98⟩ := newP X96 hx hZ (aty := .char) (hw1 hw) e96 (g := (mkF m 110 #[.val (.int (4 : Int32)), .val (.ref b), .val (.int (0 : Int32))] [(.int (4 : Int32)), (.ref b96), (.ref b96)])) rfl (hb hby d2_110) rfl (by decide) (cap := 4) (by decide) (by decide) (by decide) (by decide)
     obtain ⟨b98, g98⟩ : ∃ z, z = h96.size := ⟨_, rfl⟩
     rw [← g98] at A98 st98
     have CR99 : CHr Z EL s.vm h0 s.vm h98 := CR97.trans (CHr.ext E98 CR97.1)
     have sf99_b96 : Safe Z EL s.vm h98 b96 := Safe.ext E98 CR97.1 sf96_b96
     have V98 : Arv Z h98 b98 k98 .char (4 : Int32) [(.int (0 : Int32)), (.int (0 : Int32)), (.int (0 : Int32)), (.int (0 : Int32))] (.int (0 : Int32)) := (Arv.new A98 (by decide)).pad (pad_rep [] (.int (0 : Int32)) 4)
     refine Goes.st st98 ?_
     show Goes _ _ _ _ (T98.setTop (mkF m 112 #[.val (.int (4 : Int32)), .val (.ref b), .val (.int (0 : Int32))] [(.ref b98), (.ref b96), (.ref b96)]))
     refine Goes.st (fun sT kT => XS.dup X98.here hx rfl (hb hby d2_112) rfl rfl kT) ?_
     show Goes _ _ _ _ (T98.setTop (mkF m 113 #[.val (.int (4 : Int32)), .val (.ref b), .val (.int (0 : Int32))] [(.ref b98), (.ref b98), (.ref b96), (.ref b96)]))
     refine Goes.st (fun sT kT => XS.iconst X98.here hx rfl (hb hby d2_113) kT) ?_
     show Goes _ _ _ _ (T98.setTop (mkF m 114 #[.val (.int (4 : Int32)), .val (.ref b), .val (.int (0 : Int32))] [(.int (0 : Int32)), (.ref b98), (.ref b98), (.ref b96), (.ref b96)]))
     refine Goes.st (fun sT kT => XS.aloadN X98.here hx rfl (hb hby d2_114) rfl rfl kT) ?_
     show Goes _ _ _ _ (T98.setTop (mkF m 115 #[.val (.int (4 : Int32)), .val (.ref b), .val (.int (0 : Int32))] [(.ref b), (.int (0 : Int32)), (.ref b98), (.ref b98), (.ref b96), (.ref b96)]))
     refine Goes.st (fun sT kT => XS.iloadN X98.here hx rfl (hb hby d2_115) rfl kT) ?_
     show Goes _ _ _ _ (T98.setTop (mkF m 116 #[.val (.int (4 : Int32)), .val (.ref b), .val (.int (0 : Int32))] [(.int (0 : Int32)), (.ref b), (.int (0 : Int32)), (.ref b98), (.ref b98), (.ref b96), (.ref b96)]))
     have f100 : Arv Z h98 b kc .char (4 : Int32) [(.int c0), (.int c1), (.int c2), (.int c3)] (.int (0 : Int32)) := ((P0.ext E96).ext E98)
     obtain ⟨oc101, oA101, oq101, oS101, oM101, oH101, oG101⟩ := id f100
     refine Goes.st (fun sT kT => X98.caload hx (j := (0 : Int32)) (v := (.int c0)) (by rw [e98]; exact oA101.1) (State.isArrayOf_alike hZ.alike oA101.2.1) oA101.2.2 (inb_of oS101 ⟨by decide, by decide⟩) (oH101.at (inb_of oS101 ⟨by decide, by decide⟩) rfl) (g := (mkF m 116 #[.val (.int (4 : Int32)), .val (.ref b), .val (.int (0 : Int32))] [(.int (0 : Int32)), (.ref b), (.int (0 : Int32)), (.ref b98), (.ref b98), (.ref b96), (.ref b96)])) rfl rfl (hb hby d2_116) _ kT) ?_
     show Goes _ _ _ _ (T98.setTop (mkF m 117 #[.val (.int (4 : Int32)), .val (.ref b), .val (.int (0 : Int32))] [(.int c0), (.int (0 : Int32)), (.ref b98), (.ref b98), (.ref b96), (.ref b96)]))
     obtain ⟨oc102, oA102, oq102, oS102, oM102, oH102, oG102⟩ := id V98
     obtain ⟨T103, h103, X103, e103, W103, st103⟩ := stC X98 hx hZ e98 oA102 (j := (0 : Int32)) (inb_of oS102 ⟨by decide, by decide⟩) (g := (mkF m 117 #[.val (.int (4 : Int32)), .val (.ref b), .val (.int (0 : Int32))] [(.int c0), (.int (0 : Int32)), (.ref b98), (.ref b98), (.ref b96), (.ref b96)])) rfl rfl (hb hby d2_117)
     rw [own_narc rg_c0] at W103
     have V103 : Arv Z h103 b98 k98 .char (4 : Int32) [(.int c0), (.int (0 : Int32)), (.int (0 : Int32)), (.int (0 : Int32))] (.int (0 : Int32)) := Arv.set oA102 oq102 oS102 oM102 oH102 oG102 (own_fitsc rg_c0) W103 0 rfl (Nat.le_of_ble_eq_true rfl)
     have N103 := Fr.snoc X103 N0 (Nat.le_trans Z0 (Nat.le_trans E96.1 (Nat.le_of_eq g98.symm)))
     have CR104 : CHr Z EL s.vm h0 s.vm h103 := CR99.trans (CHr.wr W103 (own_safeArv hZ.alike V98 (by simp)) CR99.1)
     have sf104_b96 : Safe Z EL s.vm h103 b96 := Safe.wr W103 (own_safeArv hZ.alike V98 (by simp)) CR99.1 sf99_b96
     refine Goes.st st103 ?_
     show Goes _ _ _ _ (T103.setTop (mkF m 118 #[.val (.int (4 : Int32)), .val (.ref b), .val (.int (0 : Int32))] [(.ref b98), (.ref b96), (.ref b96)]))
     refine Goes.st (fun sT kT => XS.dup X103.here hx rfl (hb hby d2_118) rfl rfl kT) ?_
     show Goes _ _ _ _ (T103.setTop (mkF m 119 #[.val (.int (4 : Int32)), .val (.ref b), .val (.int (0 : Int32))] [(.ref b98), (.ref b98), (.ref b96), (.ref b96)]))
     refine Goes.st (fun sT kT => XS.iconst X103.here hx rfl (hb hby d2_119) kT) ?_
     show Goes _ _ _ _ (T103.setTop (mkF m 120 #[.val (.int (4 : Int32)), .val (.ref b), .val (.int (0 : Int32))] [(.int (1 : Int32)), (.ref b98), (.ref b98), (.ref b96), (.ref b96)]))
     refine Goes.st (fun sT kT => XS.aloadN X103.here hx rfl (hb hby d2_120) rfl rfl kT) ?_
     show Goes _ _ _ _ (T103.setTop (mkF m 121 #[.val (.int (4 : Int32)), .val (.ref b), .val (.int (0 : Int32))] [(.ref b), (.int (1 : Int32)), (.ref b98), (.ref b98), (.ref b96), (.ref b96)]))
     refine Goes.st (fun sT kT => XS.iloadN X103.here hx rfl (hb hby d2_121) rfl kT) ?_
     show Goes _ _ _ _ (T103.setTop (mkF m 122 #[.val (.int (4 : Int32)), .val (.ref b), .val (.int (0 : Int32))] [(.int (0 : Int32)), (.ref b), (.int (1 : Int32)), (.ref b98), (.ref b98), (.ref b96), (.ref b96)]))
     refine Goes.st (fun sT kT => XS.iconst X103.here hx rfl (hb hby d2_122) kT) ?_
     show Goes _ _ _ _ (T103.setTop (mkF m 123 #[.val (.int (4 : Int32)), .val (.ref b), .val (.int (0 : Int32))] [(.int (1 : Int32)), (.int (0 : Int32)), (.ref b), (.int (1 : Int32)), (.ref b98), (.ref b98), (.ref b96), (.ref b96)]))
     refine Goes.st (fun sT kT => XS.iadd X103.here hx rfl (hb hby d2_123) rfl kT) ?_
     show Goes _ _ _ _ (T103.setTop (mkF m 124 #[.val (.int (4 : Int32)), .val (.ref b), .val (.int (0 : Int32))] [(.int (1 : Int32)), (.ref b), (.int (1 : Int32)), (.ref b98), (.ref b98), (.ref b96), (.ref b96)]))
     have f105 : Arv Z h103 b kc .char (4 : Int32) [(.int c0), (.int c1), (.int c2), (.int c3)] (.int (0 : Int32)) := (f100.other W103 (Nat.ne_of_lt (Nat.lt_of_lt_of_le P0.lt (Nat.le_trans E96.1 (Nat.le_of_eq g98.symm)))))
     obtain ⟨oc106, oA106, oq106, oS106, oM106, oH106, oG106⟩ := id f105
     refine Goes.st (fun sT kT => X103.caload hx (j := (1 : Int32)) (v := (.int c1)) (by rw [e103]; exact oA106.1) (State.isArrayOf_alike hZ.alike oA106.2.1) oA106.2.2 (inb_of oS106 ⟨by decide, by decide⟩) (oH106.at (inb_of oS106 ⟨by decide, by decide⟩) rfl) (g := (mkF m 124 #[.val (.int (4 : Int32)), .val (.ref b), .val (.int (0 : Int32))] [(.int (1 : Int32)), (.ref b), (.int (1 : Int32)), (.ref b98), (.ref b98), (.ref b96), (.ref b96)])) rfl rfl (hb hby d2_124) _ kT) ?_
     show Goes _ _ _ _ (T103.setTop (mkF m 125 #[.val (.int (4 : Int32)), .val (.ref b), .val (.int (0 : Int32))] [(.int c1), (.int (1 : Int32)), (.ref b98), (.ref b98), (.ref b96), (.ref b96)]))
     obtain ⟨oc107, oA107, oq107, oS107, oM107, oH107, oG107⟩ := id V103
     obtain ⟨T108, h108, X108, e108, W108, st108⟩ := stC X103 hx hZ e103 oA107 (j := (1 : Int32)) (inb_of oS107 ⟨by decide, by decide⟩) (g := (mkF m 125 #[.val (.int (4 : Int32)), .val (.ref b), .val (.int (0 : Int32))] [(.int c1), (.int (1 : Int32)), (.ref b98), (.ref b98), (.ref b96), (.ref b96)])) rfl rfl (hb hby d2_125)
     rw [own_narc rg_c1] at W108
     have V108 : Arv Z h108 b98 k98 .char (4 : Int32) [(.int c0), (.int c1), (.int (0 : Int32)), (.int (0 : Int32))] (.int (0 : Int32)) := Arv.set oA107 oq107 oS107 oM107 oH107 oG107 (own_fitsc rg_c1) W108 1 rfl (Nat.le_of_ble_eq_true rfl)
     have N108 := Fr.snoc X108 N103 (Nat.le_trans Z0 (Nat.le_trans E96.1 (Nat.le_of_eq g98.symm)))
     have CR109 : CHr Z EL s.vm h0 s.vm h108 := CR104.trans (CHr.wr W108 (own_safeArv hZ.alike V103 (by simp)) CR104.1)
     have sf109_b96 : Safe Z EL s.vm h108 b96 := Safe.wr W108 (own_safeArv hZ.alike V103 (by simp)) CR104.1 sf104_b96
     refine Goes.st st108 ?_
     show Goes _ _ _ _ (T108.setTop (mkF m 126 #[.val (.int (4 : Int32)), .val (.ref b), .val (.int (0 : Int32))] [(.ref b98), (.ref b96), (.ref b96)]))
     refine Goes.st (fun sT kT => XS.dup X108.here hx rfl (hb hby d2_126) rfl rfl kT) ?_
     show Goes _ _ _ _ (T108.setTop (mkF m 127 #[.val (.int (4 : Int32)), .val (.ref b), .val (.int (0 : Int32))] [(.ref b98), (.ref b98), (.ref b96), (.ref b96)]))
     refine Goes.st (fun sT kT => XS.iconst X108.here hx rfl (hb hby d2_127) kT) ?_
     show Goes _ _ _ _ (T108.setTop (mkF m 128 #[.val (.int (4 : Int32)), .val (.ref b), .val (.int (0 : Int32))] [(.int (2 : Int32)), (.ref b98), (.ref b98), (.ref b96), (.ref b96)]))
     refine Goes.st (fun sT kT => XS.aloadN X108.here hx rfl (hb hby d2_128) rfl rfl kT) ?_
     show Goes _ _ _ _ (T108.setTop (mkF m 129 #[.val (.int (4 : Int32)), .val (.ref b), .val (.int (0 : Int32))] [(.ref b), (.int (2 : Int32)), (.ref b98), (.ref b98), (.ref b96), (.ref b96)]))
     refine Goes.st (fun sT kT => XS.iloadN X108.here hx rfl (hb hby d2_129) rfl kT) ?_
     show Goes _ _ _ _ (T108.setTop (mkF m 130 #[.val (.int (4 : Int32)), .val (.ref b), .val (.int (0 : Int32))] [(.int (0 : Int32)), (.ref b), (.int (2 : Int32)), (.ref b98), (.ref b98), (.ref b96), (.ref b96)]))
     refine Goes.st (fun sT kT => XS.iconst X108.here hx rfl (hb hby d2_130) kT) ?_
     show Goes _ _ _ _ (T108.setTop (mkF m 131 #[.val (.int (4 : Int32)), .val (.ref b), .val (.int (0 : Int32))] [(.int (2 : Int32)), (.int (0 : Int32)), (.ref b), (.int (2 : Int32)), (.ref b98), (.ref b98), (.ref b96), (.ref b96)]))
     refine Goes.st (fun sT kT => XS.iadd X108.here hx rfl (hb hby d2_131) rfl kT) ?_
     show Goes _ _ _ _ (T108.setTop (mkF m 132 #[.val (.int (4 : Int32)), .val (.ref b), .val (.int (0 : Int32))] [(.int (2 : Int32)), (.ref b), (.int (2 : Int32)), (.ref b98), (.ref b98), (.ref b96), (.ref b96)]))
     have f110 : Arv Z h108 b kc .char (4 : Int32) [(.int c0), (.int c1), (.int c2), (.int c3)] (.int (0 : Int32)) := (f105.other W108 (Nat.ne_of_lt (Nat.lt_of_lt_of_le P0.lt (Nat.le_trans E96.1 (Nat.le_of_eq g98.symm)))))
     obtain ⟨oc111, oA111, oq111, oS111, oM111, oH111, oG111⟩ := id f110
     refine Goes.st (fun sT kT => X108.caload hx (j := (2 : Int32)) (v := (.int c2)) (by rw [e108]; exact oA111.1) (State.isArrayOf_alike hZ.alike oA111.2.1) oA111.2.2 (inb_of oS111 ⟨by decide, by decide⟩) (oH111.at (inb_of oS111 ⟨by decide, by decide⟩) rfl) (g := (mkF m 132 #[.val (.int (4 : Int32)), .val (.ref b), .val (.int (0 : Int32))] [(.int (2 : Int32)), (.ref b), (.int (2 : Int32)), (.ref b98), (.ref b98), (.ref b96), (.ref b96)])) rfl rfl (hb hby d2_132) _ kT) ?_
     show Goes _ _ _ _ (T108.setTop (mkF m 133 #[.val (.int (4 : Int32)), .val (.ref b), .val (.int (0 : Int32))] [(.int c2), (.int (2 : Int32)), (.ref b98), (.ref b98), (.ref b96), (.ref b96)]))
     obtain ⟨oc112, oA112, oq112, oS112, oM112, oH112, oG112⟩ := id V108
     obtain ⟨T113, h113, X113, e113, W113, st113⟩ := stC X108 hx hZ e108 oA112 (j := (2 : Int32)) (inb_of oS112 ⟨by decide, by decide⟩) (g := (mkF m 133 #[.val (.int (4 : Int32)), .val (.ref b), .val (.int (0 : Int32))] [(.int c2), (.int (2 : Int32)), (.ref b98), (.ref b98), (.ref b96), (.ref b96)])) rfl rfl (hb hby d2_133)
     rw [own_narc rg_c2] at W113
     have V113 : Arv Z h113 b98 k98 .char (4 : Int32) [(.int c0), (.int c1), (.int c2), (.int (0 : Int32))] (.int (0 : Int32)) := Arv.set oA112 oq112 oS112 oM112 oH112 oG112 (own_fitsc rg_c2) W113 2 rfl (Nat.le_of_ble_eq_true rfl)
     have N113 := Fr.snoc X113 N108 (Nat.le_trans Z0 (Nat.le_trans E96.1 (Nat.le_of_eq g98.symm)))
     have CR114 : CHr Z EL s.vm h0 s.vm h113 := CR109.trans (CHr.wr W113 (own_safeArv hZ.alike V108 (by simp)) CR109.1)
     have sf114_b96 : Safe Z EL s.vm h113 b96 := Safe.wr W113 (own_safeArv hZ.alike V108 (by simp)) CR109.1 sf109_b96
     refine Goes.st st113 ?_
     show Goes _ _ _ _ (T113.setTop (mkF m 134 #[.val (.int (4 : Int32)), .val (.ref b), .val (.int (0 : Int32))] [(.ref b98), (.ref b96), (.ref b96)]))
     refine Goes.st (fun sT kT => XS.dup X113.here hx rfl (hb hby d2_134) rfl rfl kT) ?_
     show Goes _ _ _ _ (T113.setTop (mkF m 135 #[.val (.int (4 : Int32)), .val (.ref b), .val (.int (0 : Int32))] [(.ref b98), (.ref b98), (.ref b96), (.ref b96)]))
     refine Goes.st (fun sT kT => XS.iconst X113.here hx rfl (hb hby d2_135) kT) ?_
     show Goes _ _ _ _ (T113.setTop (mkF m 136 #[.val (.int (4 : Int32)), .val (.ref b), .val (.int (0 : Int32))] [(.int (3 : Int32)), (.ref b98), (.ref b98), (.ref b96), (.ref b96)]))
     refine Goes.st (fun sT kT => XS.aloadN X113.here hx rfl (hb hby d2_136) rfl rfl kT) ?_
     show Goes _ _ _ _ (T113.setTop (mkF m 137 #[.val (.int (4 : Int32)), .val (.ref b), .val (.int (0 : Int32))] [(.ref b), (.int (3 : Int32)), (.ref b98), (.ref b98), (.ref b96), (.ref b96)]))
     refine Goes.st (fun sT kT => XS.iloadN X113.here hx rfl (hb hby d2_137) rfl kT) ?_
     show Goes _ _ _ _ (T113.setTop (mkF m 138 #[.val (.int (4 : Int32)), .val (.ref b), .val (.int (0 : Int32))] [(.int (0 : Int32)), (.ref b), (.int (3 : Int32)), (.ref b98), (.ref b98), (.ref b96), (.ref b96)]))
     refine Goes.st (fun sT kT => XS.iconst X113.here hx rfl (hb hby d2_138) kT) ?_
     show Goes _ _ _ _ (T113.setTop (mkF m 139 #[.val (.int (4 : Int32)), .val (.ref b), .val (.int (0 : Int32))] [(.int (3 : Int32)), (.int (0 : Int32)), (.ref b), (.int (3 : Int32)), (.ref b98), (.ref b98), (.ref b96), (.ref b96)]))
     refine Goes.st (fun sT kT => XS.iadd X113.here hx rfl (hb hby d2_139) rfl kT) ?_
     show Goes _ _ _ _ (T113.setTop (mkF m 140 #[.val (.int (4 : Int32)), .val (.ref b), .val (.int (0 : Int32))] [(.int (3 : Int32)), (.ref b), (.int (3 : Int32)), (.ref b98), (.ref b98), (.ref b96), (.ref b96)]))
     have f115 : Arv Z h113 b kc .char (4 : Int32) [(.int c0), (.int c1), (.int c2), (.int c3)] (.int (0 : Int32)) := (f110.other W113 (Nat.ne_of_lt (Nat.lt_of_lt_of_le P0.lt (Nat.le_trans E96.1 (Nat.le_of_eq g98.symm)))))
     obtain ⟨oc116, oA116, oq116, oS116, oM116, oH116, oG116⟩ := id f115
     refine Goes.st (fun sT kT => X113.caload hx (j := (3 : Int32)) (v := (.int c3)) (by rw [e113]; exact oA116.1) (State.isArrayOf_alike hZ.alike oA116.2.1) oA116.2.2 (inb_of oS116 ⟨by decide, by decide⟩) (oH116.at (inb_of oS116 ⟨by decide, by decide⟩) rfl) (g := (mkF m 140 #[.val (.int (4 : Int32)), .val (.ref b), .val (.int (0 : Int32))] [(.int (3 : Int32)), (.ref b), (.int (3 : Int32)), (.ref b98), (.ref b98), (.ref b96), (.ref b96)])) rfl rfl (hb hby d2_140) _ kT) ?_
     show Goes _ _ _ _ (T113.setTop (mkF m 141 #[.val (.int (4 : Int32)), .val (.ref b), .val (.int (0 : Int32))] [(.int c3), (.int (3 : Int32)), (.ref b98), (.ref b98), (.ref b96), (.ref b96)]))
     obtain ⟨oc117, oA117, oq117, oS117, oM117, oH117, oG117⟩ := id V113
     obtain ⟨T118, h118, X118, e118, W118, st118⟩ := stC X113 hx hZ e113 oA117 (j := (3 : Int32)) (inb_of oS117 ⟨by decide, by decide⟩) (g := (mkF m 141 #[.val (.int (4 : Int32)), .val (.ref b), .val (.int (0 : Int32))] [(.int c3), (.int (3 : Int32)), (.ref b98), (.ref b98), (.ref b96), (.ref b96)])) rfl rfl (hb hby d2_141)
     rw [own_narc rg_c3] at W118
     have V118 : Arv Z h118 b98 k98 .char (4 : Int32) [(.int c0), (.int c1), (.int c2), (.int c3)] (.int (0 : Int32)) := Arv.set oA117 oq117 oS117 oM117 oH117 oG117 (own_fitsc rg_c3) W118 3 rfl (Nat.le_of_ble_eq_true rfl)
     have N118 := Fr.snoc X118 N113 (Nat.le_trans Z0 (Nat.le_trans E96.1 (Nat.le_of_eq g98.symm)))
     have CR119 : CHr Z EL s.vm h0 s.vm h118 := CR114.trans (CHr.wr W118 (own_safeArv hZ.alike V113 (by simp)) CR114.1)
     have sf119_b96 : Safe Z EL s.vm h118 b96 := Safe.wr W118 (own_safeArv hZ.alike V113 (by simp)) CR114.1 sf114_b96
     refine Goes.st st118 ?_
     show Goes _ _ _ _ (T118.setTop (mkF m 142 #[.val (.int (4 : Int32)), .val (.ref b), .val (.int (0 : Int32))] [(.ref b98), (.ref b96), (.ref b96)]))
     have f121 : Exa Z h118 b96 "java/lang/String" := (((((A96.ext E98).wr W103).wr W108).wr W113).wr W118)
     have f122 : Fld Z h118 b96 "java/lang/String" "value" "[B" .null := (((((F96_value.ext E98).other W103 (Or.inl (Nat.ne_of_lt (Nat.lt_of_lt_of_le A96.lt (Nat.le_of_eq g98.symm))))).other W108 (Or.inl (Nat.ne_of_lt (Nat.lt_of_lt_of_le A96.lt (Nat.le_of_eq g98.symm))))).other W113 (Or.inl (Nat.ne_of_lt (Nat.lt_of_lt_of_le A96.lt (Nat.le_of_eq g98.symm))))).other W118 (Or.inl (Nat.ne_of_lt (Nat.lt_of_lt_of_le A96.lt (Nat.le_of_eq g98.symm)))))
     have f123 : Fld Z h118 b96 "java/lang/String" "coder" "B" (.int (0 : Int32)) := (((((F96_coder.ext E98).other W103 (Or.inl (Nat.ne_of_lt (Nat.lt_of_lt_of_le A96.lt (Nat.le_of_eq g98.symm))))).other W108 (Or.inl (Nat.ne_of_lt (Nat.lt_of_lt_of_le A96.lt (Nat.le_of_eq g98.symm))))).other W113 (Or.inl (Nat.ne_of_lt (Nat.lt_of_lt_of_le A96.lt (Nat.le_of_eq g98.symm))))).other W118 (Or.inl (Nat.ne_of_lt (Nat.lt_of_lt_of_le A96.lt (Nat.le_of_eq g98.symm)))))
     have f124 : Old Z n0 h118 := ((((((P1.ext E96).ext E98).wr W103 (Nat.le_trans Z0 (Nat.le_trans E96.1 (Nat.le_of_eq g98.symm)))).wr W108 (Nat.le_trans Z0 (Nat.le_trans E96.1 (Nat.le_of_eq g98.symm)))).wr W113 (Nat.le_trans Z0 (Nat.le_trans E96.1 (Nat.le_of_eq g98.symm)))).wr W118 (Nat.le_trans Z0 (Nat.le_trans E96.1 (Nat.le_of_eq g98.symm))))
     have hp125 : ∀ c ∈ ([c0, c1, c2, c3] : List Int32), ¬ c < 0 ∧ ¬ (255 : Int32) < c := (own_cS rg_c0 (own_cS rg_c1 (own_cS rg_c2 (own_cS rg_c3 own_c0))))
     obtain ⟨_, _, ⟨T120, L120, k120, n120⟩, -, X120, ⟨Lc120, hQ120, l120, y120, z120⟩, st120⟩ := X118.specialBack hx (y := (⟨"java/lang/String", "<init>", "([C)V"⟩ : MethodName)) rfl hown (mvT hZ (hw12 hw)) (mvT hZ (hw13 hw)) (mvT hZ (hw14 hw)) (by decide) (StrChars.Road.backV (W := 1) hZ (own_hws hw) (kI := 4) (hw10 hw) (cs := ([c0, c1, c2, c3] : List Int32)) (bs := ([c0, c1, c2, c3] : List Int32).map (fun c => c.toInt8.toInt32)) (n := 4) (Nat.le_trans Z0 (Nat.le_of_eq g96.symm)) (Nat.le_trans Z0 (Nat.le_trans (Nat.le_trans (Nat.le_trans (Nat.le_trans (Nat.le_trans E96.1 E98.1) (Nat.le_of_eq W103.size.symm)) (Nat.le_of_eq W108.size.symm)) (Nat.le_of_eq W113.size.symm)) (Nat.le_of_eq W118.size.symm))) f121 f122 f123 V118 (O2.ext f124.2) P5 rfl rfl (by decide) (by decide) hp125 rfl (by decide) (by decide)) (g := (mkF m 142 #[.val (.int (4 : Int32)), .val (.ref b), .val (.int (0 : Int32))] [(.ref b98), (.ref b96), (.ref b96)])) rfl (by rw [hml]; rfl) (Steps.refl _) (a := b96) (argsL := [(.ref b98)]) (rest := [(.ref b96)]) (lenOf pd_17 rfl) rfl (by show 2 * 0 + _ ≤ _; exact Nat.le_of_eq rfl) (hb hby d2_142) (fun _ _ => ⟨rfl, e118, (by decide : 2 + 1 ≤ _), (by decide : 8 + 4 ≤ _)⟩)
     dsimp only [Pt.U, Pt.locs, Pt.cells, Pt.slots] at X120 l120 y120 z120 st120 hQ120
     subst l120 y120 z120
     obtain ⟨rfl, N120q, K120, Ex120, Cd120, t120, kb120, lz120, lo120, tn120, Vf120, Av120⟩ := hQ120
     have N120 := Fr.app N118 N120q
     have S120 : Str Z T120.heap b96 t120 kb120 [c0, c1, c2, c3] := ⟨Ex120, Vf120, Cd120, Av120, hp125, Nat.le_of_ble_eq_true rfl⟩
     have hs126 : ∀ x ∈ ([b96] : List Addr), Safe Z EL s.vm h118 x := (allS sf119_b96 all0)
     have CR126 : CHr Z EL s.vm h0 s.vm T120.heap := CR119.trans (CHr.keep K120 hs126 CR119.1)
     have sf126_b96 : Safe Z EL s.vm T120.heap b96 := Safe.keep K120 hs126 CR119.1 sf119_b96
     refine Goes.tr st120 ?_
     show Goes _ _ _ _ (T120.setTop (mkF m 145 #[.val (.int (4 : Int32)), .val (.ref b), .val (.int (0 : Int32))] [(.ref b96)]))
     have S127 : Str Z T120.heap b96 t120 kb120 (([c0, c1, c2, c3].drop 0).take n) := by rw [show (([c0, c1, c2, c3].drop 0).take n) = [c0, c1, c2, c3] from by rw [(show n = 4 by omega)]; rfl]; exact S120
     have kp128 : Keep h0 h96 [] := (Keep.refl h0 []).ext E96
     have kp129 : Keep h0 h98 [] := kp128.ext E98
     have kp130 : Keep h0 h103 [] := kp129.wr W103 (Or.inr (Nat.le_trans E96.1 (Nat.le_of_eq g98.symm)))
     have kp131 : Keep h0 h108 [] := kp130.wr W108 (Or.inr (Nat.le_trans E96.1 (Nat.le_of_eq g98.symm)))
     have kp132 : Keep h0 h113 [] := kp131.wr W113 (Or.inr (Nat.le_trans E96.1 (Nat.le_of_eq g98.symm)))
     have kp133 : Keep h0 h118 [] := kp132.wr W118 (Or.inr (Nat.le_trans E96.1 (Nat.le_of_eq g98.symm)))
     have kp134 : Keep h0 T120.heap [] := kp133.trans K120 (allS (Or.inr (Nat.le_of_eq g96.symm)) all0)
     obtain ⟨fs, hr, hrun, hended, hRW⟩ := X120.leaveW hS0 (Nat.le_trans (Nat.le_trans (Nat.le_trans (Nat.le_trans (Nat.le_trans (Nat.le_trans (Nat.le_trans hk0 E96.1) E98.1) (Nat.le_of_eq W103.size.symm)) (Nat.le_of_eq W108.size.symm)) (Nat.le_of_eq W113.size.symm)) (Nat.le_of_eq W118.size.symm)) K120.1) (v := some (.ref b96)) (fun h => by rw [Bd.returns] at h; cases h)
     subst hQQ
     have hCR : CHr Z EL s.vm s.heap T120.vm T120.heap := by rw [hh]; exact CR126.trans (CHv.at X120 hZ (own_EW hw) CR126.1)
     refine ⟨_, _, retR X120 hx Bd.returns rfl rfl (hb hby d2_145) hr, hrun, hended, _, _, rfl, ?_, hCR, own_REmono hRW (by decide) (by decide)⟩
     show Q_mk0 Z n b kc c0 c1 c2 c3 G1 h0 n0 _ T120.heap _
     exact ⟨b96, t120, kb120, rfl, N120, kp134, S127, (Nat.le_of_eq g96.symm), (Ne.symm tn120)⟩
theorem ef_mk1 (m : MethodId) (n : Nat) (b : Addr) (kc : ClassId) (c0 : Int32) (c1 : Int32) (c2 : Int32) (c3 : Int32) (G1 : Int32) : entryFrame m #[(.int (Int32.ofNat n)), (.ref b), (.int (1 : Int32))] 3 = (mkF m 0 #[.val (.int (Int32.ofNat n)), .val (.ref b), .val (.int (1 : Int32))] []) := by first | (simp [entryFrame, mkF, argsToLocals, Value.category]; done) | rfl
def Q_mk1 (Z : State) (n : Nat) (b : Addr) (kc : ClassId) (c0 : Int32) (c1 : Int32) (c2 : Int32) (c3 : Int32) (G1 : Int32) (h0 : Heap) (n0 : Nat) (v : Option Value) (h : Heap) (L : List Loc) : Prop := ∃ (r : Addr) (t : Addr) (kb : ClassId), v = some (.ref r) ∧ Fr n0 L ∧ Keep h0 h [] ∧ Str Z h r t kb (([c0, c1, c2, c3].drop 1).take n) ∧ h0.size ≤ r ∧ r ≠ t
set_option maxRecDepth 65536 in
set_option maxHeartbeats 40000000 in
theorem rm_mk1 (l : Launch) (Z : State) (a0 : Array Value) (hw : ∀ d ∈ tables_1, d.before a0 Z = true) (ws : List Jvm.Cond) (n : Nat) (b : Addr) (kc : ClassId) (c0 : Int32) (c1 : Int32) (c2 : Int32) (c3 : Int32) (G1 : Int32) (h0 : Heap) (n0 : Nat) (Z0 : n0 ≤ h0.size) (P0 : Arv Z h0 b kc .char (4 : Int32) [(.int c0), (.int c1), (.int c2), (.int c3)] (.int (0 : Int32))) (P1 : Old Z n0 h0) (O2 : Sta Z Z.heap "java/lang/String" "COMPACT_STRINGS" "Z" (.int G1)) (P5 : ¬ (G1 = (0 : Int32))) (hn : n ≤ 3) (rg_c0 : ¬ c0 < 0 ∧ ¬ (255 : Int32) < c0) (rg_c1 : ¬ c1 < 0 ∧ ¬ (255 : Int32) < c1) (rg_c2 : ¬ c2 < 0 ∧ ¬ (255 : Int32) < c2) (rg_c3 : ¬ c3 < 0 ∧ ¬ (255 : Int32) < c3) :
    MetFree l (⟨"com/example/bolter/bolter/service/ParameterNameOfPinLaw", "mk", "(I[CI)Ljava/lang/String;"⟩ : MethodName) (head1 (Jvm.Cond.code (⟨"com/example/bolter/bolter/service/ParameterNameOfPinLaw", "mk", "(I[CI)Ljava/lang/String;"⟩ : MethodName) method_3_code 3 (some (.object "java/lang/String")) :: ws) ({ frames := 4, cells := 6, slots := 12, locals := 66 } : Room)) (fun aR U => aR = #[(.int (Int32.ofNat n)), (.ref b), (.int (1 : Int32))] ∧ Z.Warmed39 U.vm ∧ U.heap = h0 ∧ CHv Z EL U.vm h0 ∧ ∀ x ∈ ([] : List Addr), Safe Z EL U.vm h0 x) (fun _ _ _ _ _ => True) (fun _ U o U' => ∃ v L, o = .returned v ∧ Q_mk1 Z n b kc c0 c1 c2 c3 G1 h0 n0 v U'.heap L ∧ CHr Z EL U.vm U.heap U'.vm U'.heap ∧ ReturnedEndW U o U' L ({ frames := 4, cells := 6, slots := 12, locals := 66 } : Room).cells ({ frames := 4, cells := 6, slots := 12, locals := 66 } : Room).slots) := by
 refine MetFree.of_bodySF (plainFor_of_name pn_8) hisR ?_
 intro p e s m args below meth c s₁ Bd hml0 hP hK
 obtain ⟨rfl, hZ, hh, hCH, hSF⟩ := hP
 have hx := Bd.exec
 have hby := Bd.bytes
 have hml : c.maxLocals = 3 := hml0
 have hown : s.vm.findClass "com/example/bolter/bolter/service/ParameterNameOfPinLaw" = some m.cls := findClass_of_methodNamed Bd.named
 have hnm := (name_of_methodNamed Bd.named Bd.method).1
 have X0 : Stand p l e ({ frames := 4, cells := 6, slots := 12, locals := 66 } : Room) (s.setVm s.vm) m #[(.int (Int32.ofNat n)), (.ref b), (.int (1 : Int32))] below meth c s₁ [] 0 0 := Stand.of_body Bd
 have e0 : s₁.heap = h0 := by rw [← hh, Bd.state]; rfl
 have N0 := Fr.nil n0
 show Goes p.tables e below _ _
 rw [ef_mk1 m n b kc c0 c1 c2 c3 G1]
 refine Goes.named ?_
 intro QQ hQQ
 have hS0 : s.Since s.vm 0 := (State.WarmedH.refl s).since 0
 have hk0 : 0 ≤ h0.size := Nat.zero_le _
 have CR0 : CHr Z EL s.vm h0 s.vm h0 := CHr.refl hCH
 by_cases hn0 : n = 0
 case pos =>
  rw [show Int32.ofNat n = (0 : Int32) from by rw [hn0]; rfl]
  show Goes _ _ _ _ (s₁.setTop (mkF m 0 #[.val (.int (0 : Int32)), .val (.ref b), .val (.int (1 : Int32))] []))
  refine Goes.st (fun sT kT => XS.iloadN X0.here hx rfl (hb hby d2_0) rfl kT) ?_
  show Goes _ _ _ _ (s₁.setTop (mkF m 1 #[.val (.int (0 : Int32)), .val (.ref b), .val (.int (1 : Int32))] [(.int (0 : Int32))]))
  refine Goes.st (fun sT kT => XS.ifNo X0.here hx rfl (hb hby d2_1) rfl ((if0 _ _).trans (flt (by decide : ¬ ((0 : Int32) < (0 : Int32)))).2.2.1) kT) ?_
  show Goes _ _ _ _ (s₁.setTop (mkF m 4 #[.val (.int (0 : Int32)), .val (.ref b), .val (.int (1 : Int32))] []))
  obtain ⟨T1, h1, X1, e1, E1, A1, D1, -, st1⟩ := newO X0 hx hZ hown (hw9 hw) (hw10 hw) (hw11 hw) e0 (g := (mkF m 4 #[.val (.int (0 : Int32)), .val (.ref b), .val (.int (1 : Int32))] [])) rfl (hb hby d2_4) (by decide) (by decide)
  obtain ⟨b1, g1⟩ : ∃ z, z = h0.size := ⟨_, rfl⟩
  rw [← g1] at A1 D1 st1
  have CR2 : CHr Z EL s.vm h0 s.vm h1 := CR0.trans (CHr.ext E1 CR0.1)
  have sf1_b1 : Safe Z EL s.vm h1 b1 := Safe.ext E1 CR0.1 (Safe.new (Nat.le_of_eq g1.symm))
  have F1_value : Fld Z h1 b1 "java/lang/String" "value" "[B" .null := D1 (Or.inr (hw24 hw)) (ty := (.array .byte)) (by decide)
  have F1_coder : Fld Z h1 b1 "java/lang/String" "coder" "B" (.int (0 : Int32)) := D1 (Or.inr (hw25 hw)) (ty := .byte) (by decide)
  refine Goes.st st1 ?_
  show Goes _ _ _ _ (T1.setTop (mkF m 7 #[.val (.int (0 : Int32)), .val (.ref b), .val (.int (1 : Int32))] [(.ref b1)]))
  refine Goes.st (fun sT kT => XS.dup X1.here hx rfl (hb hby d2_7) rfl rfl kT) ?_
  show Goes _ _ _ _ (T1.setTop (mkF m 8 #[.val (.int (0 : Int32)), .val (.ref b), .val (.int (1 : Int32))] [(.ref b1), (.ref b1)]))
  refine Goes.st (fun sT kT => XS.iconst X1.here hx rfl (hb hby d2_8) kT) ?_
  show Goes _ _ _ _ (T1.setTop (mkF m 9 #[.val (.int (0 : Int32)), .val (.ref b), .val (.int (1 : Int32))] [(.int (0 : Int32)), (.ref b1), (.ref b1)]))
  obtain ⟨T3, h3, k3, X3, e3, E3, A3, st3⟩ := newP X1 hx hZ (aty := .char) (hw1 hw) e1 (g := (mkF m 9 #[.val (.int (0 : Int32)), .val (.ref b), .val (.int (1 : Int32))] [(.int (0 : Int32)), (.ref b1), (.ref b1)])) rfl (hb hby d2_9) rfl (by decide) (cap := 0) (by decide) (by decide) (by decide) (by decide)
  obtain ⟨b3, g3⟩ : ∃ z, z = h1.size := ⟨_, rfl⟩
  rw [← g3] at A3 st3
  have CR4 : CHr Z EL s.vm h0 s.vm h3 := CR2.trans (CHr.ext E3 CR2.1)
  have sf4_b1 : Safe Z EL s.vm h3 b1 := Safe.ext E3 CR2.1 sf1_b1
  have V3 : Arv Z h3 b3 k3 .char (0 : Int32) [] (.int (0 : Int32)) := (Arv.new A3 (by decide)).pad (pad_rep [] (.int (0 : Int32)) 0)
  refine Goes.st st3 ?_
  show Goes _ _ _ _ (T3.setTop (mkF m 11 #[.val (.int (0 : Int32)), .val (.ref b), .val (.int (1 : Int32))] [(.ref b3), (.ref b1), (.ref b1)]))
  have f6 : Exa Z h3 b1 "java/lang/String" := (A1.ext E3)
  have f7 : Fld Z h3 b1 "java/lang/String" "value" "[B" .null := (F1_value.ext E3)
  have f8 : Fld Z h3 b1 "java/lang/String" "coder" "B" (.int (0 : Int32)) := (F1_coder.ext E3)
  have f9 : Old Z n0 h3 := ((P1.ext E1).ext E3)
  obtain ⟨_, _, ⟨T5, L5, k5, n5⟩, -, X5, hSr5, hgr5, ⟨Lc5, hQ5, l5, y5, z5, C5⟩, st5⟩ := X3.specialBackS hx (y := (⟨"java/lang/String", "<init>", "([C)V"⟩ : MethodName)) rfl hown (mvT hZ (hw12 hw)) (mvT hZ (hw13 hw)) (mvT hZ (hw14 hw)) (by decide) (own_backW (W := 1) (xs := [b1]) (rm_s1e l Z a0 hw [] b1 b3 k3 h3 n0 (Nat.le_trans Z0 (Nat.le_trans E1.1 E3.1)) f6 f7 f8 V3 (Nat.le_trans Z0 (Nat.le_of_eq g1.symm))) hZ (hw14 hw) (hw11 hw) (by decide) (by decide) (own_EW hw) CR4.1 (allS ⟨(Nat.lt_of_lt_of_le A1.lt E3.1), sf4_b1⟩ all0)) (g := (mkF m 11 #[.val (.int (0 : Int32)), .val (.ref b), .val (.int (1 : Int32))] [(.ref b3), (.ref b1), (.ref b1)])) rfl (by rw [hml]; rfl) (Steps.refl _) (a := b1) (argsL := [(.ref b3)]) (rest := [(.ref b1)]) (lenOf pd_17 rfl) rfl (by show 2 * 0 + _ ≤ _; exact Nat.le_of_eq rfl) (hb hby d2_11) (fun _ _ => ⟨rfl, e3, (by decide : 2 + 4 ≤ _), (by decide : 4 + 8 ≤ _)⟩)
  dsimp only [Pt.U, Pt.locs, Pt.cells, Pt.slots] at X5 l5 y5 z5 st5 hQ5 hSr5 hgr5 C5
  subst l5 y5 z5
  obtain ⟨X5, hS5, hZ5, hown5⟩ := rebS hS0 (by rw [e3]; exact (Nat.le_trans (Nat.le_trans hk0 E1.1) E3.1)) X5 hSr5 hgr5 hZ hown
  obtain ⟨t5, kb5, rfl, N5q, K5, F5_0, ne5_0⟩ := hQ5
  have N5 := Fr.app N0 N5q
  have F5_0E := F5_0.1
  have CR10 : CHr Z EL s.vm h0 T5.vm T5.heap := CR4.trans (C5)
  have sf10_b1 : Safe Z EL T5.vm T5.heap b1 := C5.safe (Nat.lt_of_lt_of_le A1.lt E3.1) sf4_b1
  refine Goes.tr st5 ?_
  show Goes _ _ _ _ (T5.setTop (mkF m 14 #[.val (.int (0 : Int32)), .val (.ref b), .val (.int (1 : Int32))] [(.ref b1)]))
  have S11 : Str Z T5.heap b1 t5 kb5 (([c0, c1, c2, c3].drop 1).take n) := by rw [show (([c0, c1, c2, c3].drop 1).take n) = [] from by rw [hn0]; rfl]; exact F5_0
  have kp12 : Keep h0 h1 [] := (Keep.refl h0 []).ext E1
  have kp13 : Keep h0 h3 [] := kp12.ext E3
  have kp14 : Keep h0 T5.heap [] := kp13.trans K5 (allS (Or.inr (Nat.le_of_eq g1.symm)) all0)
  obtain ⟨fs, hr, hrun, hended, hRW⟩ := X5.leaveW hS5 (Nat.le_refl _) (v := some (.ref b1)) (fun h => by rw [Bd.returns] at h; cases h)
  subst hQQ
  have hCR : CHr Z EL s.vm s.heap T5.vm T5.heap := by rw [hh]; exact CR10.trans (CHv.at X5 hZ5 (own_EW hw) CR10.1)
  refine ⟨_, _, retR X5 hx Bd.returns rfl rfl (hb hby d2_14) hr, hrun, hended, _, _, rfl, ?_, hCR, own_REmono hRW (by decide) (by decide)⟩
  show Q_mk1 Z n b kc c0 c1 c2 c3 G1 h0 n0 _ T5.heap _
  exact ⟨b1, t5, kb5, rfl, N5, kp14, S11, (Nat.le_of_eq g1.symm), ne5_0⟩
 case neg =>
  by_cases hn1 : n = 1
  case pos =>
   rw [show Int32.ofNat n = (1 : Int32) from by rw [hn1]; rfl]
   show Goes _ _ _ _ (s₁.setTop (mkF m 0 #[.val (.int (1 : Int32)), .val (.ref b), .val (.int (1 : Int32))] []))
   refine Goes.st (fun sT kT => XS.iloadN X0.here hx rfl (hb hby d2_0) rfl kT) ?_
   show Goes _ _ _ _ (s₁.setTop (mkF m 1 #[.val (.int (1 : Int32)), .val (.ref b), .val (.int (1 : Int32))] [(.int (1 : Int32))]))
   refine Goes.st (fun sT kT => XS.ifYes X0.here hx rfl (pc0 := 1) (pc' := 15) rfl (hb hby d2_1) rfl ((if0 _ _).trans (tlt (by decide : (0 : Int32) < (1 : Int32))).2.2.1) (by decide) (by decide) kT) ?_
   show Goes _ _ _ _ (s₁.setTop (mkF m 15 #[.val (.int (1 : Int32)), .val (.ref b), .val (.int (1 : Int32))] []))
   refine Goes.st (fun sT kT => XS.iloadN X0.here hx rfl (hb hby d2_15) rfl kT) ?_
   show Goes _ _ _ _ (s₁.setTop (mkF m 16 #[.val (.int (1 : Int32)), .val (.ref b), .val (.int (1 : Int32))] [(.int (1 : Int32))]))
   refine Goes.st (fun sT kT => XS.iconst X0.here hx rfl (hb hby d2_16) kT) ?_
   show Goes _ _ _ _ (s₁.setTop (mkF m 17 #[.val (.int (1 : Int32)), .val (.ref b), .val (.int (1 : Int32))] [(.int (1 : Int32)), (.int (1 : Int32))]))
   refine Goes.st (fun sT kT => XS.icmpNo X0.here hx rfl (hb hby d2_17) rfl (teq (by decide : (1 : Int32) = (1 : Int32))).2 kT) ?_
   show Goes _ _ _ _ (s₁.setTop (mkF m 20 #[.val (.int (1 : Int32)), .val (.ref b), .val (.int (1 : Int32))] []))
   obtain ⟨T15, h15, X15, e15, E15, A15, D15, -, st15⟩ := newO X0 hx hZ hown (hw9 hw) (hw10 hw) (hw11 hw) e0 (g := (mkF m 20 #[.val (.int (1 : Int32)), .val (.ref b), .val (.int (1 : Int32))] [])) rfl (hb hby d2_20) (by decide) (by decide)
   obtain ⟨b15, g15⟩ : ∃ z, z = h0.size := ⟨_, rfl⟩
   rw [← g15] at A15 D15 st15
   have CR16 : CHr Z EL s.vm h0 s.vm h15 := CR0.trans (CHr.ext E15 CR0.1)
   have sf15_b15 : Safe Z EL s.vm h15 b15 := Safe.ext E15 CR0.1 (Safe.new (Nat.le_of_eq g15.symm))
   have F15_value : Fld Z h15 b15 "java/lang/String" "value" "[B" .null := D15 (Or.inr (hw24 hw)) (ty := (.array .byte)) (by decide)
   have F15_coder : Fld Z h15 b15 "java/lang/String" "coder" "B" (.int (0 : Int32)) := D15 (Or.inr (hw25 hw)) (ty := .byte) (by decide)
   refine Goes.st st15 ?_
   show Goes _ _ _ _ (T15.setTop (mkF m 23 #[.val (.int (1 : Int32)), .val (.ref b), .val (.int (1 : Int32))] [(.ref b15)]))
   refine Goes.st (fun sT kT => XS.dup X15.here hx rfl (hb hby d2_23) rfl rfl kT) ?_
   show Goes _ _ _ _ (T15.setTop (mkF m 24 #[.val (.int (1 : Int32)), .val (.ref b), .val (.int (1 : Int32))] [(.ref b15), (.ref b15)]))
   refine Goes.st (fun sT kT => XS.iconst X15.here hx rfl (hb hby d2_24) kT) ?_
   show Goes _ _ _ _ (T15.setTop (mkF m 25 #[.val (.int (1 : Int32)), .val (.ref b), .val (.int (1 : Int32))] [(.int (1 : Int32)), (.ref b15), (.ref b15)]))
   obtain ⟨T17, h17, k17, X17, e17, E17, A17, st17⟩ := newP X15 hx hZ (aty := .char) (hw1 hw) e15 (g := (mkF m 25 #[.val (.int (1 : Int32)), .val (.ref b), .val (.int (1 : Int32))] [(.int (1 : Int32)), (.ref b15), (.ref b15)])) rfl (hb hby d2_25) rfl (by decide) (cap := 1) (by decide) (by decide) (by decide) (by decide)
   obtain ⟨b17, g17⟩ : ∃ z, z = h15.size := ⟨_, rfl⟩
   rw [← g17] at A17 st17
   have CR18 : CHr Z EL s.vm h0 s.vm h17 := CR16.trans (CHr.ext E17 CR16.1)
   have sf18_b15 : Safe Z EL s.vm h17 b15 := Safe.ext E17 CR16.1 sf15_b15
   have V17 : Arv Z h17 b17 k17 .char (1 : Int32) [(.int (0 : Int32))] (.int (0 : Int32)) := (Arv.new A17 (by decide)).pad (pad_rep [] (.int (0 : Int32)) 1)
   refine Goes.st st17 ?_
   show Goes _ _ _ _ (T17.setTop (mkF m 27 #[.val (.int (1 : Int32)), .val (.ref b), .val (.int (1 : Int32))] [(.ref b17), (.ref b15), (.ref b15)]))
   refine Goes.st (fun sT kT => XS.dup X17.here hx rfl (hb hby d2_27) rfl rfl kT) ?_
   show Goes _ _ _ _ (T17.setTop (mkF m 28 #[.val (.int (1 : Int32)), .val (.ref b), .val (.int (1 : Int32))] [(.ref b17), (.ref b17), (.ref b15), (.ref b15)]))
   refine Goes.st (fun sT kT => XS.iconst X17.here hx rfl (hb hby d2_28) kT) ?_
   show Goes _ _ _ _ (T17.setTop (mkF m 29 #[.val (.int (1 : Int32)), .val (.ref b), .val (.int (1 : Int32))] [(.int (0 : Int32)), (.ref b17), (.ref b17), (.ref b15), (.ref b15)]))
   refine Goes.st (fun sT kT => XS.aloadN X17.here hx rfl (hb hby d2_29) rfl rfl kT) ?_
   show Goes _ _ _ _ (T17.setTop (mkF m 30 #[.val (.int (1 : Int32)), .val (.ref b), .val (.int (1 : Int32))] [(.ref b), (.int (0 : Int32)), (.ref b17), (.ref b17), (.ref b15), (.ref b15)]))
   refine Goes.st (fun sT kT => XS.iloadN X17.here hx rfl (hb hby d2_30) rfl kT) ?_
   show Goes _ _ _ _ (T17.setTop (mkF m 31 #[.val (.int (1 : Int32)), .val (.ref b), .val (.int (1 : Int32))] [(.int (1 : Int32)), (.ref b), (.int (0 : Int32)), (.ref b17), (.ref b17), (.ref b15), (.ref b15)]))
   have f19 : Arv Z h17 b kc .char (4 : Int32) [(.int c0), (.int c1), (.int c2), (.int c3)] (.int (0 : Int32)) := ((P0.ext E15).ext E17)
   obtain ⟨oc20, oA20, oq20, oS20, oM20, oH20, oG20⟩ := id f19
   refine Goes.st (fun sT kT => X17.caload hx (j := (1 : Int32)) (v := (.int c1)) (by rw [e17]; exact oA20.1) (State.isArrayOf_alike hZ.alike oA20.2.1) oA20.2.2 (inb_of oS20 ⟨by decide, by decide⟩) (oH20.at (inb_of oS20 ⟨by decide, by decide⟩) rfl) (g := (mkF m 31 #[.val (.int (1 : Int32)), .val (.ref b), .val (.int (1 : Int32))] [(.int (1 : Int32)), (.ref b), (.int (0 : Int32)), (.ref b17), (.ref b17), (.ref b15), (.ref b15)])) rfl rfl (hb hby d2_31) _ kT) ?_
   show Goes _ _ _ _ (T17.setTop (mkF m 32 #[.val (.int (1 : Int32)), .val (.ref b), .val (.int (1 : Int32))] [(.int c1), (.int (0 : Int32)), (.ref b17), (.ref b17), (.ref b15), (.ref b15)]))
   obtain ⟨oc21, oA21, oq21, oS21, oM21, oH21, oG21⟩ := id V17
   obtain ⟨T22, h22, X22, e22, W22, st22⟩ := stC X17 hx hZ e17 oA21 (j := (0 : Int32)) (inb_of oS21 ⟨by decide, by decide⟩) (g := (mkF m 32 #[.val (.int (1 : Int32)), .val (.ref b), .val (.int (1 : Int32))] [(.int c1), (.int (0 : Int32)), (.ref b17), (.ref b17), (.ref b15), (.ref b15)])) rfl rfl (hb hby d2_32)
   rw [own_narc rg_c1] at W22
   have V22 : Arv Z h22 b17 k17 .char (1 : Int32) [(.int c1)] (.int (0 : Int32)) := Arv.set oA21 oq21 oS21 oM21 oH21 oG21 (own_fitsc rg_c1) W22 0 rfl (Nat.le_of_ble_eq_true rfl)
   have N22 := Fr.snoc X22 N0 (Nat.le_trans Z0 (Nat.le_trans E15.1 (Nat.le_of_eq g17.symm)))
   have CR23 : CHr Z EL s.vm h0 s.vm h22 := CR18.trans (CHr.wr W22 (own_safeArv hZ.alike V17 (by simp)) CR18.1)
   have sf23_b15 : Safe Z EL s.vm h22 b15 := Safe.wr W22 (own_safeArv hZ.alike V17 (by simp)) CR18.1 sf18_b15
   refine Goes.st st22 ?_
   show Goes _ _ _ _ (T22.setTop (mkF m 33 #[.val (.int (1 : Int32)), .val (.ref b), .val (.int (1 : Int32))] [(.ref b17), (.ref b15), (.ref b15)]))
   have f25 : Exa Z h22 b15 "java/lang/String" := ((A15.ext E17).wr W22)
   have f26 : Fld Z h22 b15 "java/lang/String" "value" "[B" .null := ((F15_value.ext E17).other W22 (Or.inl (Nat.ne_of_lt (Nat.lt_of_lt_of_le A15.lt (Nat.le_of_eq g17.symm)))))
   have f27 : Fld Z h22 b15 "java/lang/String" "coder" "B" (.int (0 : Int32)) := ((F15_coder.ext E17).other W22 (Or.inl (Nat.ne_of_lt (Nat.lt_of_lt_of_le A15.lt (Nat.le_of_eq g17.symm)))))
   have f28 : Old Z n0 h22 := (((P1.ext E15).ext E17).wr W22 (Nat.le_trans Z0 (Nat.le_trans E15.1 (Nat.le_of_eq g17.symm))))
   have hp29 : ∀ c ∈ ([c1] : List Int32), ¬ c < 0 ∧ ¬ (255 : Int32) < c := (own_cS rg_c1 own_c0)
   obtain ⟨_, _, ⟨T24, L24, k24, n24⟩, -, X24, ⟨Lc24, hQ24, l24, y24, z24⟩, st24⟩ := X22.specialBack hx (y := (⟨"java/lang/String", "<init>", "([C)V"⟩ : MethodName)) rfl hown (mvT hZ (hw12 hw)) (mvT hZ (hw13 hw)) (mvT hZ (hw14 hw)) (by decide) (StrChars.Road.backV (W := 1) hZ (own_hws hw) (kI := 4) (hw10 hw) (cs := ([c1] : List Int32)) (bs := ([c1] : List Int32).map (fun c => c.toInt8.toInt32)) (n := 1) (Nat.le_trans Z0 (Nat.le_of_eq g15.symm)) (Nat.le_trans Z0 (Nat.le_trans (Nat.le_trans E15.1 E17.1) (Nat.le_of_eq W22.size.symm))) f25 f26 f27 V22 (O2.ext f28.2) P5 rfl rfl (by decide) (by decide) hp29 rfl (by decide) (by decide)) (g := (mkF m 33 #[.val (.int (1 : Int32)), .val (.ref b), .val (.int (1 : Int32))] [(.ref b17), (.ref b15), (.ref b15)])) rfl (by rw [hml]; rfl) (Steps.refl _) (a := b15) (argsL := [(.ref b17)]) (rest := [(.ref b15)]) (lenOf pd_17 rfl) rfl (by show 2 * 0 + _ ≤ _; exact Nat.le_of_eq rfl) (hb hby d2_33) (fun _ _ => ⟨rfl, e22, (by decide : 2 + 1 ≤ _), (by decide : 5 + 1 ≤ _)⟩)
   dsimp only [Pt.U, Pt.locs, Pt.cells, Pt.slots] at X24 l24 y24 z24 st24 hQ24
   subst l24 y24 z24
   obtain ⟨rfl, N24q, K24, Ex24, Cd24, t24, kb24, lz24, lo24, tn24, Vf24, Av24⟩ := hQ24
   have N24 := Fr.app N22 N24q
   have S24 : Str Z T24.heap b15 t24 kb24 [c1] := ⟨Ex24, Vf24, Cd24, Av24, hp29, Nat.le_of_ble_eq_true rfl⟩
   have hs30 : ∀ x ∈ ([b15] : List Addr), Safe Z EL s.vm h22 x := (allS sf23_b15 all0)
   have CR30 : CHr Z EL s.vm h0 s.vm T24.heap := CR23.trans (CHr.keep K24 hs30 CR23.1)
   have sf30_b15 : Safe Z EL s.vm T24.heap b15 := Safe.keep K24 hs30 CR23.1 sf23_b15
   refine Goes.tr st24 ?_
   show Goes _ _ _ _ (T24.setTop (mkF m 36 #[.val (.int (1 : Int32)), .val (.ref b), .val (.int (1 : Int32))] [(.ref b15)]))
   have S31 : Str Z T24.heap b15 t24 kb24 (([c0, c1, c2, c3].drop 1).take n) := by rw [show (([c0, c1, c2, c3].drop 1).take n) = [c1] from by rw [hn1]; rfl]; exact S24
   have kp32 : Keep h0 h15 [] := (Keep.refl h0 []).ext E15
   have kp33 : Keep h0 h17 [] := kp32.ext E17
   have kp34 : Keep h0 h22 [] := kp33.wr W22 (Or.inr (Nat.le_trans E15.1 (Nat.le_of_eq g17.symm)))
   have kp35 : Keep h0 T24.heap [] := kp34.trans K24 (allS (Or.inr (Nat.le_of_eq g15.symm)) all0)
   obtain ⟨fs, hr, hrun, hended, hRW⟩ := X24.leaveW hS0 (Nat.le_trans (Nat.le_trans (Nat.le_trans (Nat.le_trans hk0 E15.1) E17.1) (Nat.le_of_eq W22.size.symm)) K24.1) (v := some (.ref b15)) (fun h => by rw [Bd.returns] at h; cases h)
   subst hQQ
   have hCR : CHr Z EL s.vm s.heap T24.vm T24.heap := by rw [hh]; exact CR30.trans (CHv.at X24 hZ (own_EW hw) CR30.1)
   refine ⟨_, _, retR X24 hx Bd.returns rfl rfl (hb hby d2_36) hr, hrun, hended, _, _, rfl, ?_, hCR, own_REmono hRW (by decide) (by decide)⟩
   show Q_mk1 Z n b kc c0 c1 c2 c3 G1 h0 n0 _ T24.heap _
   exact ⟨b15, t24, kb24, rfl, N24, kp35, S31, (Nat.le_of_eq g15.symm), (Ne.symm tn24)⟩
  case neg =>
   by_cases hn2 : n = 2
   case pos =>
    rw [show Int32.ofNat n = (2 : Int32) from by rw [hn2]; rfl]
    show Goes _ _ _ _ (s₁.setTop (mkF m 0 #[.val (.int (2 : Int32)), .val (.ref b), .val (.int (1 : Int32))] []))
    refine Goes.st (fun sT kT => XS.iloadN X0.here hx rfl (hb hby d2_0) rfl kT) ?_
    show Goes _ _ _ _ (s₁.setTop (mkF m 1 #[.val (.int (2 : Int32)), .val (.ref b), .val (.int (1 : Int32))] [(.int (2 : Int32))]))
    refine Goes.st (fun sT kT => XS.ifYes X0.here hx rfl (pc0 := 1) (pc' := 15) rfl (hb hby d2_1) rfl ((if0 _ _).trans (tlt (by decide : (0 : Int32) < (2 : Int32))).2.2.1) (by decide) (by decide) kT) ?_
    show Goes _ _ _ _ (s₁.setTop (mkF m 15 #[.val (.int (2 : Int32)), .val (.ref b), .val (.int (1 : Int32))] []))
    refine Goes.st (fun sT kT => XS.iloadN X0.here hx rfl (hb hby d2_15) rfl kT) ?_
    show Goes _ _ _ _ (s₁.setTop (mkF m 16 #[.val (.int (2 : Int32)), .val (.ref b), .val (.int (1 : Int32))] [(.int (2 : Int32))]))
    refine Goes.st (fun sT kT => XS.iconst X0.here hx rfl (hb hby d2_16) kT) ?_
    show Goes _ _ _ _ (s₁.setTop (mkF m 17 #[.val (.int (2 : Int32)), .val (.ref b), .val (.int (1 : Int32))] [(.int (1 : Int32)), (.int (2 : Int32))]))
    refine Goes.st (fun sT kT => XS.icmpYes X0.here hx rfl (pc0 := 17) (pc' := 37) rfl (hb hby d2_17) rfl (feq (by decide : ¬ ((2 : Int32) = (1 : Int32)))).2 (by decide) (by decide) kT) ?_
    show Goes _ _ _ _ (s₁.setTop (mkF m 37 #[.val (.int (2 : Int32)), .val (.ref b), .val (.int (1 : Int32))] []))
    refine Goes.st (fun sT kT => XS.iloadN X0.here hx rfl (hb hby d2_37) rfl kT) ?_
    show Goes _ _ _ _ (s₁.setTop (mkF m 38 #[.val (.int (2 : Int32)), .val (.ref b), .val (.int (1 : Int32))] [(.int (2 : Int32))]))
    refine Goes.st (fun sT kT => XS.iconst X0.here hx rfl (hb hby d2_38) kT) ?_
    show Goes _ _ _ _ (s₁.setTop (mkF m 39 #[.val (.int (2 : Int32)), .val (.ref b), .val (.int (1 : Int32))] [(.int (2 : Int32)), (.int (2 : Int32))]))
    refine Goes.st (fun sT kT => XS.icmpNo X0.here hx rfl (hb hby d2_39) rfl (teq (by decide : (2 : Int32) = (2 : Int32))).2 kT) ?_
    show Goes _ _ _ _ (s₁.setTop (mkF m 42 #[.val (.int (2 : Int32)), .val (.ref b), .val (.int (1 : Int32))] []))
    obtain ⟨T36, h36, X36, e36, E36, A36, D36, -, st36⟩ := newO X0 hx hZ hown (hw9 hw) (hw10 hw) (hw11 hw) e0 (g := (mkF m 42 #[.val (.int (2 : Int32)), .val (.ref b), .val (.int (1 : Int32))] [])) rfl (hb hby d2_42) (by decide) (by decide)
    obtain ⟨b36, g36⟩ : ∃ z, z = h0.size := ⟨_, rfl⟩
    rw [← g36] at A36 D36 st36
    have CR37 : CHr Z EL s.vm h0 s.vm h36 := CR0.trans (CHr.ext E36 CR0.1)
    have sf36_b36 : Safe Z EL s.vm h36 b36 := Safe.ext E36 CR0.1 (Safe.new (Nat.le_of_eq g36.symm))
    have F36_value : Fld Z h36 b36 "java/lang/String" "value" "[B" .null := D36 (Or.inr (hw24 hw)) (ty := (.array .byte)) (by decide)
    have F36_coder : Fld Z h36 b36 "java/lang/String" "coder" "B" (.int (0 : Int32)) := D36 (Or.inr (hw25 hw)) (ty := .byte) (by decide)
    refine Goes.st st36 ?_
    show Goes _ _ _ _ (T36.setTop (mkF m 45 #[.val (.int (2 : Int32)), .val (.ref b), .val (.int (1 : Int32))] [(.ref b36)]))
    refine Goes.st (fun sT kT => XS.dup X36.here hx rfl (hb hby d2_45) rfl rfl kT) ?_
    show Goes _ _ _ _ (T36.setTop (mkF m 46 #[.val (.int (2 : Int32)), .val (.ref b), .val (.int (1 : Int32))] [(.ref b36), (.ref b36)]))
    refine Goes.st (fun sT kT => XS.iconst X36.here hx rfl (hb hby d2_46) kT) ?_
    show Goes _ _ _ _ (T36.setTop (mkF m 47 #[.val (.int (2 : Int32)), .val (.ref b), .val (.int (1 : Int32))] [(.int (2 : Int32)), (.ref b36), (.ref b36)]))
    obtain ⟨T38, h38, k38, X38, e38, E38, A38, st38⟩ := newP X36 hx hZ (aty := .char) (hw1 hw) e36 (g := (mkF m 47 #[.val (.int (2 : Int32)), .val (.ref b), .val (.int (1 : Int32))] [(.int (2 : Int32)), (.ref b36), (.ref b36)])) rfl (hb hby d2_47) rfl (by decide) (cap := 2) (by decide) (by decide) (by decide) (by decide)
    obtain ⟨b38, g38⟩ : ∃ z, z = h36.size := ⟨_, rfl⟩
    rw [← g38] at A38 st38
    have CR39 : CHr Z EL s.vm h0 s.vm h38 := CR37.trans (CHr.ext E38 CR37.1)
    have sf39_b36 : Safe Z EL s.vm h38 b36 := Safe.ext E38 CR37.1 sf36_b36
    have V38 : Arv Z h38 b38 k38 .char (2 : Int32) [(.int (0 : Int32)), (.int (0 : Int32))] (.int (0 : Int32)) := (Arv.new A38 (by decide)).pad (pad_rep [] (.int (0 : Int32)) 2)
    refine Goes.st st38 ?_
    show Goes _ _ _ _ (T38.setTop (mkF m 49 #[.val (.int (2 : Int32)), .val (.ref b), .val (.int (1 : Int32))] [(.ref b38), (.ref b36), (.ref b36)]))
    refine Goes.st (fun sT kT => XS.dup X38.here hx rfl (hb hby d2_49) rfl rfl kT) ?_
    show Goes _ _ _ _ (T38.setTop (mkF m 50 #[.val (.int (2 : Int32)), .val (.ref b), .val (.int (1 : Int32))] [(.ref b38), (.ref b38), (.ref b36), (.ref b36)]))
    refine Goes.st (fun sT kT => XS.iconst X38.here hx rfl (hb hby d2_50) kT) ?_
    show Goes _ _ _ _ (T38.setTop (mkF m 51 #[.val (.int (2 : Int32)), .val (.ref b), .val (.int (1 : Int32))] [(.int (0 : Int32)), (.ref b38), (.ref b38), (.ref b36), (.ref b36)]))
    refine Goes.st (fun sT kT => XS.aloadN X38.here hx rfl (hb hby d2_51) rfl rfl kT) ?_
    show Goes _ _ _ _ (T38.setTop (mkF m 52 #[.val (.int (2 : Int32)), .val (.ref b), .val (.int (1 : Int32))] [(.ref b), (.int (0 : Int32)), (.ref b38), (.ref b38), (.ref b36), (.ref b36)]))
    refine Goes.st (fun sT kT => XS.iloadN X38.here hx rfl (hb hby d2_52) rfl kT) ?_
    show Goes _ _ _ _ (T38.setTop (mkF m 53 #[.val (.int (2 : Int32)), .val (.ref b), .val (.int (1 : Int32))] [(.int (1 : Int32)), (.ref b), (.int (0 : Int32)), (.ref b38), (.ref b38), (.ref b36), (.ref b36)]))
    have f40 : Arv Z h38 b kc .char (4 : Int32) [(.int c0), (.int c1), (.int c2), (.int c3)] (.int (0 : Int32)) := ((P0.ext E36).ext E38)
    obtain ⟨oc41, oA41, oq41, oS41, oM41, oH41, oG41⟩ := id f40
    refine Goes.st (fun sT kT => X38.caload hx (j := (1 : Int32)) (v := (.int c1)) (by rw [e38]; exact oA41.1) (State.isArrayOf_alike hZ.alike oA41.2.1) oA41.2.2 (inb_of oS41 ⟨by decide, by decide⟩) (oH41.at (inb_of oS41 ⟨by decide, by decide⟩) rfl) (g := (mkF m 53 #[.val (.int (2 : Int32)), .val (.ref b), .val (.int (1 : Int32))] [(.int (1 : Int32)), (.ref b), (.int (0 : Int32)), (.ref b38), (.ref b38), (.ref b36), (.ref b36)])) rfl rfl (hb hby d2_53) _ kT) ?_
    show Goes _ _ _ _ (T38.setTop (mkF m 54 #[.val (.int (2 : Int32)), .val (.ref b), .val (.int (1 : Int32))] [(.int c1), (.int (0 : Int32)), (.ref b38), (.ref b38), (.ref b36), (.ref b36)]))
    obtain ⟨oc42, oA42, oq42, oS42, oM42, oH42, oG42⟩ := id V38
    obtain ⟨T43, h43, X43, e43, W43, st43⟩ := stC X38 hx hZ e38 oA42 (j := (0 : Int32)) (inb_of oS42 ⟨by decide, by decide⟩) (g := (mkF m 54 #[.val (.int (2 : Int32)), .val (.ref b), .val (.int (1 : Int32))] [(.int c1), (.int (0 : Int32)), (.ref b38), (.ref b38), (.ref b36), (.ref b36)])) rfl rfl (hb hby d2_54)
    rw [own_narc rg_c1] at W43
    have V43 : Arv Z h43 b38 k38 .char (2 : Int32) [(.int c1), (.int (0 : Int32))] (.int (0 : Int32)) := Arv.set oA42 oq42 oS42 oM42 oH42 oG42 (own_fitsc rg_c1) W43 0 rfl (Nat.le_of_ble_eq_true rfl)
    have N43 := Fr.snoc X43 N0 (Nat.le_trans Z0 (Nat.le_trans E36.1 (Nat.le_of_eq g38.symm)))
    have CR44 : CHr Z EL s.vm h0 s.vm h43 := CR39.trans (CHr.wr W43 (own_safeArv hZ.alike V38 (by simp)) CR39.1)
    have sf44_b36 : Safe Z EL s.vm h43 b36 := Safe.wr W43 (own_safeArv hZ.alike V38 (by simp)) CR39.1 sf39_b36
    refine Goes.st st43 ?_
    show Goes _ _ _ _ (T43.setTop (mkF m 55 #[.val (.int (2 : Int32)), .val (.ref b), .val (.int (1 : Int32))] [(.ref b38), (.ref b36), (.ref b36)]))
    refine Goes.st (fun sT kT => XS.dup X43.here hx rfl (hb hby d2_55) rfl rfl kT) ?_
    show Goes _ _ _ _ (T43.setTop (mkF m 56 #[.val (.int (2 : Int32)), .val (.ref b), .val (.int (1 : Int32))] [(.ref b38), (.ref b38), (.ref b36), (.ref b36)]))
    refine Goes.st (fun sT kT => XS.iconst X43.here hx rfl (hb hby d2_56) kT) ?_
    show Goes _ _ _ _ (T43.setTop (mkF m 57 #[.val (.int (2 : Int32)), .val (.ref b), .val (.int (1 : Int32))] [(.int (1 : Int32)), (.ref b38), (.ref b38), (.ref b36), (.ref b36)]))
    refine Goes.st (fun sT kT => XS.aloadN X43.here hx rfl (hb hby d2_57) rfl rfl kT) ?_
    show Goes _ _ _ _ (T43.setTop (mkF m 58 #[.val (.int (2 : Int32)), .val (.ref b), .val (.int (1 : Int32))] [(.ref b), (.int (1 : Int32)), (.ref b38), (.ref b38), (.ref b36), (.ref b36)]))
    refine Goes.st (fun sT kT => XS.iloadN X43.here hx rfl (hb hby d2_58) rfl kT) ?_
    show Goes _ _ _ _ (T43.setTop (mkF m 59 #[.val (.int (2 : Int32)), .val (.ref b), .val (.int (1 : Int32))] [(.int (1 : Int32)), (.ref b), (.int (1 : Int32)), (.ref b38), (.ref b38), (.ref b36), (.ref b36)]))
    refine Goes.st (fun sT kT => XS.iconst X43.here hx rfl (hb hby d2_59) kT) ?_
    show Goes _ _ _ _ (T43.setTop (mkF m 60 #[.val (.int (2 : Int32)), .val (.ref b), .val (.int (1 : Int32))] [(.int (1 : Int32)), (.int (1 : Int32)), (.ref b), (.int (1 : Int32)), (.ref b38), (.ref b38), (.ref b36), (.ref b36)]))
    refine Goes.st (fun sT kT => XS.iadd X43.here hx rfl (hb hby d2_60) rfl kT) ?_
    show Goes _ _ _ _ (T43.setTop (mkF m 61 #[.val (.int (2 : Int32)), .val (.ref b), .val (.int (1 : Int32))] [(.int (2 : Int32)), (.ref b), (.int (1 : Int32)), (.ref b38), (.ref b38), (.ref b36), (.ref b36)]))
    have f45 : Arv Z h43 b kc .char (4 : Int32) [(.int c0), (.int c1), (.int c2), (.int c3)] (.int (0 : Int32)) := (f40.other W43 (Nat.ne_of_lt (Nat.lt_of_lt_of_le P0.lt (Nat.le_trans E36.1 (Nat.le_of_eq g38.symm)))))
    obtain ⟨oc46, oA46, oq46, oS46, oM46, oH46, oG46⟩ := id f45
    refine Goes.st (fun sT kT => X43.caload hx (j := (2 : Int32)) (v := (.int c2)) (by rw [e43]; exact oA46.1) (State.isArrayOf_alike hZ.alike oA46.2.1) oA46.2.2 (inb_of oS46 ⟨by decide, by decide⟩) (oH46.at (inb_of oS46 ⟨by decide, by decide⟩) rfl) (g := (mkF m 61 #[.val (.int (2 : Int32)), .val (.ref b), .val (.int (1 : Int32))] [(.int (2 : Int32)), (.ref b), (.int (1 : Int32)), (.ref b38), (.ref b38), (.ref b36), (.ref b36)])) rfl rfl (hb hby d2_61) _ kT) ?_
    show Goes _ _ _ _ (T43.setTop (mkF m 62 #[.val (.int (2 : Int32)), .val (.ref b), .val (.int (1 : Int32))] [(.int c2), (.int (1 : Int32)), (.ref b38), (.ref b38), (.ref b36), (.ref b36)]))
    obtain ⟨oc47, oA47, oq47, oS47, oM47, oH47, oG47⟩ := id V43
    obtain ⟨T48, h48, X48, e48, W48, st48⟩ := stC X43 hx hZ e43 oA47 (j := (1 : Int32)) (inb_of oS47 ⟨by decide, by decide⟩) (g := (mkF m 62 #[.val (.int (2 : Int32)), .val (.ref b), .val (.int (1 : Int32))] [(.int c2), (.int (1 : Int32)), (.ref b38), (.ref b38), (.ref b36), (.ref b36)])) rfl rfl (hb hby d2_62)
    rw [own_narc rg_c2] at W48
    have V48 : Arv Z h48 b38 k38 .char (2 : Int32) [(.int c1), (.int c2)] (.int (0 : Int32)) := Arv.set oA47 oq47 oS47 oM47 oH47 oG47 (own_fitsc rg_c2) W48 1 rfl (Nat.le_of_ble_eq_true rfl)
    have N48 := Fr.snoc X48 N43 (Nat.le_trans Z0 (Nat.le_trans E36.1 (Nat.le_of_eq g38.symm)))
    have CR49 : CHr Z EL s.vm h0 s.vm h48 := CR44.trans (CHr.wr W48 (own_safeArv hZ.alike V43 (by simp)) CR44.1)
    have sf49_b36 : Safe Z EL s.vm h48 b36 := Safe.wr W48 (own_safeArv hZ.alike V43 (by simp)) CR44.1 sf44_b36
    refine Goes.st st48 ?_
    show Goes _ _ _ _ (T48.setTop (mkF m 63 #[.val (.int (2 : Int32)), .val (.ref b), .val (.int (1 : Int32))] [(.ref b38), (.ref b36), (.ref b36)]))
    have f51 : Exa Z h48 b36 "java/lang/String" := (((A36.ext E38).wr W43).wr W48)
    have f52 : Fld Z h48 b36 "java/lang/String" "value" "[B" .null := (((F36_value.ext E38).other W43 (Or.inl (Nat.ne_of_lt (Nat.lt_of_lt_of_le A36.lt (Nat.le_of_eq g38.symm))))).other W48 (Or.inl (Nat.ne_of_lt (Nat.lt_of_lt_of_le A36.lt (Nat.le_of_eq g38.symm)))))
    have f53 : Fld Z h48 b36 "java/lang/String" "coder" "B" (.int (0 : Int32)) := (((F36_coder.ext E38).other W43 (Or.inl (Nat.ne_of_lt (Nat.lt_of_lt_of_le A36.lt (Nat.le_of_eq g38.symm))))).other W48 (Or.inl (Nat.ne_of_lt (Nat.lt_of_lt_of_le A36.lt (Nat.le_of_eq g38.symm)))))
    have f54 : Old Z n0 h48 := ((((P1.ext E36).ext E38).wr W43 (Nat.le_trans Z0 (Nat.le_trans E36.1 (Nat.le_of_eq g38.symm)))).wr W48 (Nat.le_trans Z0 (Nat.le_trans E36.1 (Nat.le_of_eq g38.symm))))
    have hp55 : ∀ c ∈ ([c1, c2] : List Int32), ¬ c < 0 ∧ ¬ (255 : Int32) < c := (own_cS rg_c1 (own_cS rg_c2 own_c0))
    obtain ⟨_, _, ⟨T50, L50, k50, n50⟩, -, X50, ⟨Lc50, hQ50, l50, y50, z50⟩, st50⟩ := X48.specialBack hx (y := (⟨"java/lang/String", "<init>", "([C)V"⟩ : MethodName)) rfl hown (mvT hZ (hw12 hw)) (mvT hZ (hw13 hw)) (mvT hZ (hw14 hw)) (by decide) (StrChars.Road.backV (W := 1) hZ (own_hws hw) (kI := 4) (hw10 hw) (cs := ([c1, c2] : List Int32)) (bs := ([c1, c2] : List Int32).map (fun c => c.toInt8.toInt32)) (n := 2) (Nat.le_trans Z0 (Nat.le_of_eq g36.symm)) (Nat.le_trans Z0 (Nat.le_trans (Nat.le_trans (Nat.le_trans E36.1 E38.1) (Nat.le_of_eq W43.size.symm)) (Nat.le_of_eq W48.size.symm))) f51 f52 f53 V48 (O2.ext f54.2) P5 rfl rfl (by decide) (by decide) hp55 rfl (by decide) (by decide)) (g := (mkF m 63 #[.val (.int (2 : Int32)), .val (.ref b), .val (.int (1 : Int32))] [(.ref b38), (.ref b36), (.ref b36)])) rfl (by rw [hml]; rfl) (Steps.refl _) (a := b36) (argsL := [(.ref b38)]) (rest := [(.ref b36)]) (lenOf pd_17 rfl) rfl (by show 2 * 0 + _ ≤ _; exact Nat.le_of_eq rfl) (hb hby d2_63) (fun _ _ => ⟨rfl, e48, (by decide : 2 + 1 ≤ _), (by decide : 6 + 2 ≤ _)⟩)
    dsimp only [Pt.U, Pt.locs, Pt.cells, Pt.slots] at X50 l50 y50 z50 st50 hQ50
    subst l50 y50 z50
    obtain ⟨rfl, N50q, K50, Ex50, Cd50, t50, kb50, lz50, lo50, tn50, Vf50, Av50⟩ := hQ50
    have N50 := Fr.app N48 N50q
    have S50 : Str Z T50.heap b36 t50 kb50 [c1, c2] := ⟨Ex50, Vf50, Cd50, Av50, hp55, Nat.le_of_ble_eq_true rfl⟩
    have hs56 : ∀ x ∈ ([b36] : List Addr), Safe Z EL s.vm h48 x := (allS sf49_b36 all0)
    have CR56 : CHr Z EL s.vm h0 s.vm T50.heap := CR49.trans (CHr.keep K50 hs56 CR49.1)
    have sf56_b36 : Safe Z EL s.vm T50.heap b36 := Safe.keep K50 hs56 CR49.1 sf49_b36
    refine Goes.tr st50 ?_
    show Goes _ _ _ _ (T50.setTop (mkF m 66 #[.val (.int (2 : Int32)), .val (.ref b), .val (.int (1 : Int32))] [(.ref b36)]))
    have S57 : Str Z T50.heap b36 t50 kb50 (([c0, c1, c2, c3].drop 1).take n) := by rw [show (([c0, c1, c2, c3].drop 1).take n) = [c1, c2] from by rw [hn2]; rfl]; exact S50
    have kp58 : Keep h0 h36 [] := (Keep.refl h0 []).ext E36
    have kp59 : Keep h0 h38 [] := kp58.ext E38
    have kp60 : Keep h0 h43 [] := kp59.wr W43 (Or.inr (Nat.le_trans E36.1 (Nat.le_of_eq g38.symm)))
    have kp61 : Keep h0 h48 [] := kp60.wr W48 (Or.inr (Nat.le_trans E36.1 (Nat.le_of_eq g38.symm)))
    have kp62 : Keep h0 T50.heap [] := kp61.trans K50 (allS (Or.inr (Nat.le_of_eq g36.symm)) all0)
    obtain ⟨fs, hr, hrun, hended, hRW⟩ := X50.leaveW hS0 (Nat.le_trans (Nat.le_trans (Nat.le_trans (Nat.le_trans (Nat.le_trans hk0 E36.1) E38.1) (Nat.le_of_eq W43.size.symm)) (Nat.le_of_eq W48.size.symm)) K50.1) (v := some (.ref b36)) (fun h => by rw [Bd.returns] at h; cases h)
    subst hQQ
    have hCR : CHr Z EL s.vm s.heap T50.vm T50.heap := by rw [hh]; exact CR56.trans (CHv.at X50 hZ (own_EW hw) CR56.1)
    refine ⟨_, _, retR X50 hx Bd.returns rfl rfl (hb hby d2_66) hr, hrun, hended, _, _, rfl, ?_, hCR, own_REmono hRW (by decide) (by decide)⟩
    show Q_mk1 Z n b kc c0 c1 c2 c3 G1 h0 n0 _ T50.heap _
    exact ⟨b36, t50, kb50, rfl, N50, kp62, S57, (Nat.le_of_eq g36.symm), (Ne.symm tn50)⟩
   case neg =>
    rw [show Int32.ofNat n = (3 : Int32) from by rw [(show n = 3 by omega)]; rfl]
    show Goes _ _ _ _ (s₁.setTop (mkF m 0 #[.val (.int (3 : Int32)), .val (.ref b), .val (.int (1 : Int32))] []))
    refine Goes.st (fun sT kT => XS.iloadN X0.here hx rfl (hb hby d2_0) rfl kT) ?_
    show Goes _ _ _ _ (s₁.setTop (mkF m 1 #[.val (.int (3 : Int32)), .val (.ref b), .val (.int (1 : Int32))] [(.int (3 : Int32))]))
    refine Goes.st (fun sT kT => XS.ifYes X0.here hx rfl (pc0 := 1) (pc' := 15) rfl (hb hby d2_1) rfl ((if0 _ _).trans (tlt (by decide : (0 : Int32) < (3 : Int32))).2.2.1) (by decide) (by decide) kT) ?_
    show Goes _ _ _ _ (s₁.setTop (mkF m 15 #[.val (.int (3 : Int32)), .val (.ref b), .val (.int (1 : Int32))] []))
    refine Goes.st (fun sT kT => XS.iloadN X0.here hx rfl (hb hby d2_15) rfl kT) ?_
    show Goes _ _ _ _ (s₁.setTop (mkF m 16 #[.val (.int (3 : Int32)), .val (.ref b), .val (.int (1 : Int32))] [(.int (3 : Int32))]))
    refine Goes.st (fun sT kT => XS.iconst X0.here hx rfl (hb hby d2_16) kT) ?_
    show Goes _ _ _ _ (s₁.setTop (mkF m 17 #[.val (.int (3 : Int32)), .val (.ref b), .val (.int (1 : Int32))] [(.int (1 : Int32)), (.int (3 : Int32))]))
    refine Goes.st (fun sT kT => XS.icmpYes X0.here hx rfl (pc0 := 17) (pc' := 37) rfl (hb hby d2_17) rfl (feq (by decide : ¬ ((3 : Int32) = (1 : Int32)))).2 (by decide) (by decide) kT) ?_
    show Goes _ _ _ _ (s₁.setTop (mkF m 37 #[.val (.int (3 : Int32)), .val (.ref b), .val (.int (1 : Int32))] []))
    refine Goes.st (fun sT kT => XS.iloadN X0.here hx rfl (hb hby d2_37) rfl kT) ?_
    show Goes _ _ _ _ (s₁.setTop (mkF m 38 #[.val (.int (3 : Int32)), .val (.ref b), .val (.int (1 : Int32))] [(.int (3 : Int32))]))
    refine Goes.st (fun sT kT => XS.iconst X0.here hx rfl (hb hby d2_38) kT) ?_
    show Goes _ _ _ _ (s₁.setTop (mkF m 39 #[.val (.int (3 : Int32)), .val (.ref b), .val (.int (1 : Int32))] [(.int (2 : Int32)), (.int (3 : Int32))]))
    refine Goes.st (fun sT kT => XS.icmpYes X0.here hx rfl (pc0 := 39) (pc' := 67) rfl (hb hby d2_39) rfl (feq (by decide : ¬ ((3 : Int32) = (2 : Int32)))).2 (by decide) (by decide) kT) ?_
    show Goes _ _ _ _ (s₁.setTop (mkF m 67 #[.val (.int (3 : Int32)), .val (.ref b), .val (.int (1 : Int32))] []))
    refine Goes.st (fun sT kT => XS.iloadN X0.here hx rfl (hb hby d2_67) rfl kT) ?_
    show Goes _ _ _ _ (s₁.setTop (mkF m 68 #[.val (.int (3 : Int32)), .val (.ref b), .val (.int (1 : Int32))] [(.int (3 : Int32))]))
    refine Goes.st (fun sT kT => XS.iconst X0.here hx rfl (hb hby d2_68) kT) ?_
    show Goes _ _ _ _ (s₁.setTop (mkF m 69 #[.val (.int (3 : Int32)), .val (.ref b), .val (.int (1 : Int32))] [(.int (3 : Int32)), (.int (3 : Int32))]))
    refine Goes.st (fun sT kT => XS.icmpNo X0.here hx rfl (hb hby d2_69) rfl (teq (by decide : (3 : Int32) = (3 : Int32))).2 kT) ?_
    show Goes _ _ _ _ (s₁.setTop (mkF m 72 #[.val (.int (3 : Int32)), .val (.ref b), .val (.int (1 : Int32))] []))
    obtain ⟨T63, h63, X63, e63, E63, A63, D63, -, st63⟩ := newO X0 hx hZ hown (hw9 hw) (hw10 hw) (hw11 hw) e0 (g := (mkF m 72 #[.val (.int (3 : Int32)), .val (.ref b), .val (.int (1 : Int32))] [])) rfl (hb hby d2_72) (by decide) (by decide)
    obtain ⟨b63, g63⟩ : ∃ z, z = h0.size := ⟨_, rfl⟩
    rw [← g63] at A63 D63 st63
    have CR64 : CHr Z EL s.vm h0 s.vm h63 := CR0.trans (CHr.ext E63 CR0.1)
    have sf63_b63 : Safe Z EL s.vm h63 b63 := Safe.ext E63 CR0.1 (Safe.new (Nat.le_of_eq g63.symm))
    have F63_value : Fld Z h63 b63 "java/lang/String" "value" "[B" .null := D63 (Or.inr (hw24 hw)) (ty := (.array .byte)) (by decide)
    have F63_coder : Fld Z h63 b63 "java/lang/String" "coder" "B" (.int (0 : Int32)) := D63 (Or.inr (hw25 hw)) (ty := .byte) (by decide)
    refine Goes.st st63 ?_
    show Goes _ _ _ _ (T63.setTop (mkF m 75 #[.val (.int (3 : Int32)), .val (.ref b), .val (.int (1 : Int32))] [(.ref b63)]))
    refine Goes.st (fun sT kT => XS.dup X63.here hx rfl (hb hby d2_75) rfl rfl kT) ?_
    show Goes _ _ _ _ (T63.setTop (mkF m 76 #[.val (.int (3 : Int32)), .val (.ref b), .val (.int (1 : Int32))] [(.ref b63), (.ref b63)]))
    refine Goes.st (fun sT kT => XS.iconst X63.here hx rfl (hb hby d2_76) kT) ?_
    show Goes _ _ _ _ (T63.setTop (mkF m 77 #[.val (.int (3 : Int32)), .val (.ref b), .val (.int (1 : Int32))] [(.int (3 : Int32)), (.ref b63), (.ref b63)]))
    obtain ⟨T65, h65, k65, X65, e65, E65, A65, st65⟩ := newP X63 hx hZ (aty := .char) (hw1 hw) e63 (g := (mkF m 77 #[.val (.int (3 : Int32)), .val (.ref b), .val (.int (1 : Int32))] [(.int (3 : Int32)), (.ref b63), (.ref b63)])) rfl (hb hby d2_77) rfl (by decide) (cap := 3) (by decide) (by decide) (by decide) (by decide)
    obtain ⟨b65, g65⟩ : ∃ z, z = h63.size := ⟨_, rfl⟩
    rw [← g65] at A65 st65
    have CR66 : CHr Z EL s.vm h0 s.vm h65 := CR64.trans (CHr.ext E65 CR64.1)
    have sf66_b63 : Safe Z EL s.vm h65 b63 := Safe.ext E65 CR64.1 sf63_b63
    have V65 : Arv Z h65 b65 k65 .char (3 : Int32) [(.int (0 : Int32)), (.int (0 : Int32)), (.int (0 : Int32))] (.int (0 : Int32)) := (Arv.new A65 (by decide)).pad (pad_rep [] (.int (0 : Int32)) 3)
    refine Goes.st st65 ?_
    show Goes _ _ _ _ (T65.setTop (mkF m 79 #[.val (.int (3 : Int32)), .val (.ref b), .val (.int (1 : Int32))] [(.ref b65), (.ref b63), (.ref b63)]))
    refine Goes.st (fun sT kT => XS.dup X65.here hx rfl (hb hby d2_79) rfl rfl kT) ?_
    show Goes _ _ _ _ (T65.setTop (mkF m 80 #[.val (.int (3 : Int32)), .val (.ref b), .val (.int (1 : Int32))] [(.ref b65), (.ref b65), (.ref b63), (.ref b63)]))
    refine Goes.st (fun sT kT => XS.iconst X65.here hx rfl (hb hby d2_80) kT) ?_
    show Goes _ _ _ _ (T65.setTop (mkF m 81 #[.val (.int (3 : Int32)), .val (.ref b), .val (.int (1 : Int32))] [(.int (0 : Int32)), (.ref b65), (.ref b65), (.ref b63), (.ref b63)]))
    refine Goes.st (fun sT kT => XS.aloadN X65.here hx rfl (hb hby d2_81) rfl rfl kT) ?_
    show Goes _ _ _ _ (T65.setTop (mkF m 82 #[.val (.int (3 : Int32)), .val (.ref b), .val (.int (1 : Int32))] [(.ref b), (.int (0 : Int32)), (.ref b65), (.ref b65), (.ref b63), (.ref b63)]))
    refine Goes.st (fun sT kT => XS.iloadN X65.here hx rfl (hb hby d2_82) rfl kT) ?_
    show Goes _ _ _ _ (T65.setTop (mkF m 83 #[.val (.int (3 : Int32)), .val (.ref b), .val (.int (1 : Int32))] [(.int (1 : Int32)), (.ref b), (.int (0 : Int32)), (.ref b65), (.ref b65), (.ref b63), (.ref b63)]))
    have f67 : Arv Z h65 b kc .char (4 : Int32) [(.int c0), (.int c1), (.int c2), (.int c3)] (.int (0 : Int32)) := ((P0.ext E63).ext E65)
    obtain ⟨oc68, oA68, oq68, oS68, oM68, oH68, oG68⟩ := id f67
    refine Goes.st (fun sT kT => X65.caload hx (j := (1 : Int32)) (v := (.int c1)) (by rw [e65]; exact oA68.1) (State.isArrayOf_alike hZ.alike oA68.2.1) oA68.2.2 (inb_of oS68 ⟨by decide, by decide⟩) (oH68.at (inb_of oS68 ⟨by decide, by decide⟩) rfl) (g := (mkF m 83 #[.val (.int (3 : Int32)), .val (.ref b), .val (.int (1 : Int32))] [(.int (1 : Int32)), (.ref b), (.int (0 : Int32)), (.ref b65), (.ref b65), (.ref b63), (.ref b63)])) rfl rfl (hb hby d2_83) _ kT) ?_
    show Goes _ _ _ _ (T65.setTop (mkF m 84 #[.val (.int (3 : Int32)), .val (.ref b), .val (.int (1 : Int32))] [(.int c1), (.int (0 : Int32)), (.ref b65), (.ref b65), (.ref b63), (.ref b63)]))
    obtain ⟨oc69, oA69, oq69, oS69, oM69, oH69, oG69⟩ := id V65
    obtain ⟨T70, h70, X70, e70, W70, st70⟩ := stC X65 hx hZ e65 oA69 (j := (0 : Int32)) (inb_of oS69 ⟨by decide, by decide⟩) (g := (mkF m 84 #[.val (.int (3 : Int32)), .val (.ref b), .val (.int (1 : Int32))] [(.int c1), (.int (0 : Int32)), (.ref b65), (.ref b65), (.ref b63), (.ref b63)])) rfl rfl (hb hby d2_84)
    rw [own_narc rg_c1] at W70
    have V70 : Arv Z h70 b65 k65 .char (3 : Int32) [(.int c1), (.int (0 : Int32)), (.int (0 : Int32))] (.int (0 : Int32)) := Arv.set oA69 oq69 oS69 oM69 oH69 oG69 (own_fitsc rg_c1) W70 0 rfl (Nat.le_of_ble_eq_true rfl)
    have N70 := Fr.snoc X70 N0 (Nat.le_trans Z0 (Nat.le_trans E63.1 (Nat.le_of_eq g65.symm)))
    have CR71 : CHr Z EL s.vm h0 s.vm h70 := CR66.trans (CHr.wr W70 (own_safeArv hZ.alike V65 (by simp)) CR66.1)
    have sf71_b63 : Safe Z EL s.vm h70 b63 := Safe.wr W70 (own_safeArv hZ.alike V65 (by simp)) CR66.1 sf66_b63
    refine Goes.st st70 ?_
    show Goes _ _ _ _ (T70.setTop (mkF m 85 #[.val (.int (3 : Int32)), .val (.ref b), .val (.int (1 : Int32))] [(.ref b65), (.ref b63), (.ref b63)]))
    refine Goes.st (fun sT kT => XS.dup X70.here hx rfl (hb hby d2_85) rfl rfl kT) ?_
    show Goes _ _ _ _ (T70.setTop (mkF m 86 #[.val (.int (3 : Int32)), .val (.ref b), .val (.int (1 : Int32))] [(.ref b65), (.ref b65), (.ref b63), (.ref b63)]))
    refine Goes.st (fun sT kT => XS.iconst X70.here hx rfl (hb hby d2_86) kT) ?_
    show Goes _ _ _ _ (T70.setTop (mkF m 87 #[.val (.int (3 : Int32)), .val (.ref b), .val (.int (1 : Int32))] [(.int (1 : Int32)), (.ref b65), (.ref b65), (.ref b63), (.ref b63)]))
    refine Goes.st (fun sT kT => XS.aloadN X70.here hx rfl (hb hby d2_87) rfl rfl kT) ?_
    show Goes _ _ _ _ (T70.setTop (mkF m 88 #[.val (.int (3 : Int32)), .val (.ref b), .val (.int (1 : Int32))] [(.ref b), (.int (1 : Int32)), (.ref b65), (.ref b65), (.ref b63), (.ref b63)]))
    refine Goes.st (fun sT kT => XS.iloadN X70.here hx rfl (hb hby d2_88) rfl kT) ?_
    show Goes _ _ _ _ (T70.setTop (mkF m 89 #[.val (.int (3 : Int32)), .val (.ref b), .val (.int (1 : Int32))] [(.int (1 : Int32)), (.ref b), (.int (1 : Int32)), (.ref b65), (.ref b65), (.ref b63), (.ref b63)]))
    refine Goes.st (fun sT kT => XS.iconst X70.here hx rfl (hb hby d2_89) kT) ?_
    show Goes _ _ _ _ (T70.setTop (mkF m 90 #[.val (.int (3 : Int32)), .val (.ref b), .val (.int (1 : Int32))] [(.int (1 : Int32)), (.int (1 : Int32)), (.ref b), (.int (1 : Int32)), (.ref b65), (.ref b65), (.ref b63), (.ref b63)]))
    refine Goes.st (fun sT kT => XS.iadd X70.here hx rfl (hb hby d2_90) rfl kT) ?_
    show Goes _ _ _ _ (T70.setTop (mkF m 91 #[.val (.int (3 : Int32)), .val (.ref b), .val (.int (1 : Int32))] [(.int (2 : Int32)), (.ref b), (.int (1 : Int32)), (.ref b65), (.ref b65), (.ref b63), (.ref b63)]))
    have f72 : Arv Z h70 b kc .char (4 : Int32) [(.int c0), (.int c1), (.int c2), (.int c3)] (.int (0 : Int32)) := (f67.other W70 (Nat.ne_of_lt (Nat.lt_of_lt_of_le P0.lt (Nat.le_trans E63.1 (Nat.le_of_eq g65.symm)))))
    obtain ⟨oc73, oA73, oq73, oS73, oM73, oH73, oG73⟩ := id f72
    refine Goes.st (fun sT kT => X70.caload hx (j := (2 : Int32)) (v := (.int c2)) (by rw [e70]; exact oA73.1) (State.isArrayOf_alike hZ.alike oA73.2.1) oA73.2.2 (inb_of oS73 ⟨by decide, by decide⟩) (oH73.at (inb_of oS73 ⟨by decide, by decide⟩) rfl) (g := (mkF m 91 #[.val (.int (3 : Int32)), .val (.ref b), .val (.int (1 : Int32))] [(.int (2 : Int32)), (.ref b), (.int (1 : Int32)), (.ref b65), (.ref b65), (.ref b63), (.ref b63)])) rfl rfl (hb hby d2_91) _ kT) ?_
    show Goes _ _ _ _ (T70.setTop (mkF m 92 #[.val (.int (3 : Int32)), .val (.ref b), .val (.int (1 : Int32))] [(.int c2), (.int (1 : Int32)), (.ref b65), (.ref b65), (.ref b63), (.ref b63)]))
    obtain ⟨oc74, oA74, oq74, oS74, oM74, oH74, oG74⟩ := id V70
    obtain ⟨T75, h75, X75, e75, W75, st75⟩ := stC X70 hx hZ e70 oA74 (j := (1 : Int32)) (inb_of oS74 ⟨by decide, by decide⟩) (g := (mkF m 92 #[.val (.int (3 : Int32)), .val (.ref b), .val (.int (1 : Int32))] [(.int c2), (.int (1 : Int32)), (.ref b65), (.ref b65), (.ref b63), (.ref b63)])) rfl rfl (hb hby d2_92)
    rw [own_narc rg_c2] at W75
    have V75 : Arv Z h75 b65 k65 .char (3 : Int32) [(.int c1), (.int c2), (.int (0 : Int32))] (.int (0 : Int32)) := Arv.set oA74 oq74 oS74 oM74 oH74 oG74 (own_fitsc rg_c2) W75 1 rfl (Nat.le_of_ble_eq_true rfl)
    have N75 := Fr.snoc X75 N70 (Nat.le_trans Z0 (Nat.le_trans E63.1 (Nat.le_of_eq g65.symm)))
    have CR76 : CHr Z EL s.vm h0 s.vm h75 := CR71.trans (CHr.wr W75 (own_safeArv hZ.alike V70 (by simp)) CR71.1)
    have sf76_b63 : Safe Z EL s.vm h75 b63 := Safe.wr W75 (own_safeArv hZ.alike V70 (by simp)) CR71.1 sf71_b63
    refine Goes.st st75 ?_
    show Goes _ _ _ _ (T75.setTop (mkF m 93 #[.val (.int (3 : Int32)), .val (.ref b), .val (.int (1 : Int32))] [(.ref b65), (.ref b63), (.ref b63)]))
    refine Goes.st (fun sT kT => XS.dup X75.here hx rfl (hb hby d2_93) rfl rfl kT) ?_
    show Goes _ _ _ _ (T75.setTop (mkF m 94 #[.val (.int (3 : Int32)), .val (.ref b), .val (.int (1 : Int32))] [(.ref b65), (.ref b65), (.ref b63), (.ref b63)]))
    refine Goes.st (fun sT kT => XS.iconst X75.here hx rfl (hb hby d2_94) kT) ?_
    show Goes _ _ _ _ (T75.setTop (mkF m 95 #[.val (.int (3 : Int32)), .val (.ref b), .val (.int (1 : Int32))] [(.int (2 : Int32)), (.ref b65), (.ref b65), (.ref b63), (.ref b63)]))
    refine Goes.st (fun sT kT => XS.aloadN X75.here hx rfl (hb hby d2_95) rfl rfl kT) ?_
    show Goes _ _ _ _ (T75.setTop (mkF m 96 #[.val (.int (3 : Int32)), .val (.ref b), .val (.int (1 : Int32))] [(.ref b), (.int (2 : Int32)), (.ref b65), (.ref b65), (.ref b63), (.ref b63)]))
    refine Goes.st (fun sT kT => XS.iloadN X75.here hx rfl (hb hby d2_96) rfl kT) ?_
    show Goes _ _ _ _ (T75.setTop (mkF m 97 #[.val (.int (3 : Int32)), .val (.ref b), .val (.int (1 : Int32))] [(.int (1 : Int32)), (.ref b), (.int (2 : Int32)), (.ref b65), (.ref b65), (.ref b63), (.ref b63)]))
    refine Goes.st (fun sT kT => XS.iconst X75.here hx rfl (hb hby d2_97) kT) ?_
    show Goes _ _ _ _ (T75.setTop (mkF m 98 #[.val (.int (3 : Int32)), .val (.ref b), .val (.int (1 : Int32))] [(.int (2 : Int32)), (.int (1 : Int32)), (.ref b), (.int (2 : Int32)), (.ref b65), (.ref b65), (.ref b63), (.ref b63)]))
    refine Goes.st (fun sT kT => XS.iadd X75.here hx rfl (hb hby d2_98) rfl kT) ?_
    show Goes _ _ _ _ (T75.setTop (mkF m 99 #[.val (.int (3 : Int32)), .val (.ref b), .val (.int (1 : Int32))] [(.int (3 : Int32)), (.ref b), (.int (2 : Int32)), (.ref b65), (.ref b65), (.ref b63), (.ref b63)]))
    have f77 : Arv Z h75 b kc .char (4 : Int32) [(.int c0), (.int c1), (.int c2), (.int c3)] (.int (0 : Int32)) := (f72.other W75 (Nat.ne_of_lt (Nat.lt_of_lt_of_le P0.lt (Nat.le_trans E63.1 (Nat.le_of_eq g65.symm)))))
    obtain ⟨oc78, oA78, oq78, oS78, oM78, oH78, oG78⟩ := id f77
    refine Goes.st (fun sT kT => X75.caload hx (j := (3 : Int32)) (v := (.int c3)) (by rw [e75]; exact oA78.1) (State.isArrayOf_alike hZ.alike oA78.2.1) oA78.2.2 (inb_of oS78 ⟨by decide, by decide⟩) (oH78.at (inb_of oS78 ⟨by decide, by decide⟩) rfl) (g := (mkF m 99 #[.val (.int (3 : Int32)), .val (.ref b), .val (.int (1 : Int32))] [(.int (3 : Int32)), (.ref b), (.int (2 : Int32)), (.ref b65), (.ref b65), (.ref b63), (.ref b63)])) rfl rfl (hb hby d2_99) _ kT) ?_
    show Goes _ _ _ _ (T75.setTop (mkF m 100 #[.val (.int (3 : Int32)), .val (.ref b), .val (.int (1 : Int32))] [(.int c3), (.int (2 : Int32)), (.ref b65), (.ref b65), (.ref b63), (.ref b63)]))
    obtain ⟨oc79, oA79, oq79, oS79, oM79, oH79, oG79⟩ := id V75
    obtain ⟨T80, h80, X80, e80, W80, st80⟩ := stC X75 hx hZ e75 oA79 (j := (2 : Int32)) (inb_of oS79 ⟨by decide, by decide⟩) (g := (mkF m 100 #[.val (.int (3 : Int32)), .val (.ref b), .val (.int (1 : Int32))] [(.int c3), (.int (2 : Int32)), (.ref b65), (.ref b65), (.ref b63), (.ref b63)])) rfl rfl (hb hby d2_100)
    rw [own_narc rg_c3] at W80
    have V80 : Arv Z h80 b65 k65 .char (3 : Int32) [(.int c1), (.int c2), (.int c3)] (.int (0 : Int32)) := Arv.set oA79 oq79 oS79 oM79 oH79 oG79 (own_fitsc rg_c3) W80 2 rfl (Nat.le_of_ble_eq_true rfl)
    have N80 := Fr.snoc X80 N75 (Nat.le_trans Z0 (Nat.le_trans E63.1 (Nat.le_of_eq g65.symm)))
    have CR81 : CHr Z EL s.vm h0 s.vm h80 := CR76.trans (CHr.wr W80 (own_safeArv hZ.alike V75 (by simp)) CR76.1)
    have sf81_b63 : Safe Z EL s.vm h80 b63 := Safe.wr W80 (own_safeArv hZ.alike V75 (by simp)) CR76.1 sf76_b63
    refine Goes.st st80 ?_
    show Goes _ _ _ _ (T80.setTop (mkF m 101 #[.val (.int (3 : Int32)), .val (.ref b), .val (.int (1 : Int32))] [(.ref b65), (.ref b63), (.ref b63)]))
    have f83 : Exa Z h80 b63 "java/lang/String" := ((((A63.ext E65).wr W70).wr W75).wr W80)
    have f84 : Fld Z h80 b63 "java/lang/String" "value" "[B" .null := ((((F63_value.ext E65).other W70 (Or.inl (Nat.ne_of_lt (Nat.lt_of_lt_of_le A63.lt (Nat.le_of_eq g65.symm))))).other W75 (Or.inl (Nat.ne_of_lt (Nat.lt_of_lt_of_le A63.lt (Nat.le_of_eq g65.symm))))).other W80 (Or.inl (Nat.ne_of_lt (Nat.lt_of_lt_of_le A63.lt (Nat.le_of_eq g65.symm)))))
    have f85 : Fld Z h80 b63 "java/lang/String" "coder" "B" (.int (0 : Int32)) := ((((F63_coder.ext E65).other W70 (Or.inl (Nat.ne_of_lt (Nat.lt_of_lt_of_le A63.lt (Nat.le_of_eq g65.symm))))).other W75 (Or.inl (Nat.ne_of_lt (Nat.lt_of_lt_of_le A63.lt (Nat.le_of_eq g65.symm))))).other W80 (Or.inl (Nat.ne_of_lt (Nat.lt_of_lt_of_le A63.lt (Nat.le_of_eq g65.symm)))))
    have f86 : Old Z n0 h80 := (((((P1.ext E63).ext E65).wr W70 (Nat.le_trans Z0 (Nat.le_trans E63.1 (Nat.le_of_eq g65.symm)))).wr W75 (Nat.le_trans Z0 (Nat.le_trans E63.1 (Nat.le_of_eq g65.symm)))).wr W80 (Nat.le_trans Z0 (Nat.le_trans E63.1 (Nat.le_of_eq g65.symm))))
    have hp87 : ∀ c ∈ ([c1, c2, c3] : List Int32), ¬ c < 0 ∧ ¬ (255 : Int32) < c := (own_cS rg_c1 (own_cS rg_c2 (own_cS rg_c3 own_c0)))
    obtain ⟨_, _, ⟨T82, L82, k82, n82⟩, -, X82, ⟨Lc82, hQ82, l82, y82, z82⟩, st82⟩ := X80.specialBack hx (y := (⟨"java/lang/String", "<init>", "([C)V"⟩ : MethodName)) rfl hown (mvT hZ (hw12 hw)) (mvT hZ (hw13 hw)) (mvT hZ (hw14 hw)) (by decide) (StrChars.Road.backV (W := 1) hZ (own_hws hw) (kI := 4) (hw10 hw) (cs := ([c1, c2, c3] : List Int32)) (bs := ([c1, c2, c3] : List Int32).map (fun c => c.toInt8.toInt32)) (n := 3) (Nat.le_trans Z0 (Nat.le_of_eq g63.symm)) (Nat.le_trans Z0 (Nat.le_trans (Nat.le_trans (Nat.le_trans (Nat.le_trans E63.1 E65.1) (Nat.le_of_eq W70.size.symm)) (Nat.le_of_eq W75.size.symm)) (Nat.le_of_eq W80.size.symm))) f83 f84 f85 V80 (O2.ext f86.2) P5 rfl rfl (by decide) (by decide) hp87 rfl (by decide) (by decide)) (g := (mkF m 101 #[.val (.int (3 : Int32)), .val (.ref b), .val (.int (1 : Int32))] [(.ref b65), (.ref b63), (.ref b63)])) rfl (by rw [hml]; rfl) (Steps.refl _) (a := b63) (argsL := [(.ref b65)]) (rest := [(.ref b63)]) (lenOf pd_17 rfl) rfl (by show 2 * 0 + _ ≤ _; exact Nat.le_of_eq rfl) (hb hby d2_101) (fun _ _ => ⟨rfl, e80, (by decide : 2 + 1 ≤ _), (by decide : 7 + 3 ≤ _)⟩)
    dsimp only [Pt.U, Pt.locs, Pt.cells, Pt.slots] at X82 l82 y82 z82 st82 hQ82
    subst l82 y82 z82
    obtain ⟨rfl, N82q, K82, Ex82, Cd82, t82, kb82, lz82, lo82, tn82, Vf82, Av82⟩ := hQ82
    have N82 := Fr.app N80 N82q
    have S82 : Str Z T82.heap b63 t82 kb82 [c1, c2, c3] := ⟨Ex82, Vf82, Cd82, Av82, hp87, Nat.le_of_ble_eq_true rfl⟩
    have hs88 : ∀ x ∈ ([b63] : List Addr), Safe Z EL s.vm h80 x := (allS sf81_b63 all0)
    have CR88 : CHr Z EL s.vm h0 s.vm T82.heap := CR81.trans (CHr.keep K82 hs88 CR81.1)
    have sf88_b63 : Safe Z EL s.vm T82.heap b63 := Safe.keep K82 hs88 CR81.1 sf81_b63
    refine Goes.tr st82 ?_
    show Goes _ _ _ _ (T82.setTop (mkF m 104 #[.val (.int (3 : Int32)), .val (.ref b), .val (.int (1 : Int32))] [(.ref b63)]))
    have S89 : Str Z T82.heap b63 t82 kb82 (([c0, c1, c2, c3].drop 1).take n) := by rw [show (([c0, c1, c2, c3].drop 1).take n) = [c1, c2, c3] from by rw [(show n = 3 by omega)]; rfl]; exact S82
    have kp90 : Keep h0 h63 [] := (Keep.refl h0 []).ext E63
    have kp91 : Keep h0 h65 [] := kp90.ext E65
    have kp92 : Keep h0 h70 [] := kp91.wr W70 (Or.inr (Nat.le_trans E63.1 (Nat.le_of_eq g65.symm)))
    have kp93 : Keep h0 h75 [] := kp92.wr W75 (Or.inr (Nat.le_trans E63.1 (Nat.le_of_eq g65.symm)))
    have kp94 : Keep h0 h80 [] := kp93.wr W80 (Or.inr (Nat.le_trans E63.1 (Nat.le_of_eq g65.symm)))
    have kp95 : Keep h0 T82.heap [] := kp94.trans K82 (allS (Or.inr (Nat.le_of_eq g63.symm)) all0)
    obtain ⟨fs, hr, hrun, hended, hRW⟩ := X82.leaveW hS0 (Nat.le_trans (Nat.le_trans (Nat.le_trans (Nat.le_trans (Nat.le_trans (Nat.le_trans hk0 E63.1) E65.1) (Nat.le_of_eq W70.size.symm)) (Nat.le_of_eq W75.size.symm)) (Nat.le_of_eq W80.size.symm)) K82.1) (v := some (.ref b63)) (fun h => by rw [Bd.returns] at h; cases h)
    subst hQQ
    have hCR : CHr Z EL s.vm s.heap T82.vm T82.heap := by rw [hh]; exact CR88.trans (CHv.at X82 hZ (own_EW hw) CR88.1)
    refine ⟨_, _, retR X82 hx Bd.returns rfl rfl (hb hby d2_104) hr, hrun, hended, _, _, rfl, ?_, hCR, own_REmono hRW (by decide) (by decide)⟩
    show Q_mk1 Z n b kc c0 c1 c2 c3 G1 h0 n0 _ T82.heap _
    exact ⟨b63, t82, kb82, rfl, N82, kp95, S89, (Nat.le_of_eq g63.symm), (Ne.symm tn82)⟩
theorem ef_mk2 (m : MethodId) (n : Nat) (b : Addr) (kc : ClassId) (c0 : Int32) (c1 : Int32) (c2 : Int32) (c3 : Int32) (G1 : Int32) : entryFrame m #[(.int (Int32.ofNat n)), (.ref b), (.int (2 : Int32))] 3 = (mkF m 0 #[.val (.int (Int32.ofNat n)), .val (.ref b), .val (.int (2 : Int32))] []) := by first | (simp [entryFrame, mkF, argsToLocals, Value.category]; done) | rfl
def Q_mk2 (Z : State) (n : Nat) (b : Addr) (kc : ClassId) (c0 : Int32) (c1 : Int32) (c2 : Int32) (c3 : Int32) (G1 : Int32) (h0 : Heap) (n0 : Nat) (v : Option Value) (h : Heap) (L : List Loc) : Prop := ∃ (r : Addr) (t : Addr) (kb : ClassId), v = some (.ref r) ∧ Fr n0 L ∧ Keep h0 h [] ∧ Str Z h r t kb (([c0, c1, c2, c3].drop 2).take n) ∧ h0.size ≤ r ∧ r ≠ t
set_option maxRecDepth 65536 in
set_option maxHeartbeats 40000000 in
theorem rm_mk2 (l : Launch) (Z : State) (a0 : Array Value) (hw : ∀ d ∈ tables_1, d.before a0 Z = true) (ws : List Jvm.Cond) (n : Nat) (b : Addr) (kc : ClassId) (c0 : Int32) (c1 : Int32) (c2 : Int32) (c3 : Int32) (G1 : Int32) (h0 : Heap) (n0 : Nat) (Z0 : n0 ≤ h0.size) (P0 : Arv Z h0 b kc .char (4 : Int32) [(.int c0), (.int c1), (.int c2), (.int c3)] (.int (0 : Int32))) (P1 : Old Z n0 h0) (O2 : Sta Z Z.heap "java/lang/String" "COMPACT_STRINGS" "Z" (.int G1)) (P5 : ¬ (G1 = (0 : Int32))) (hn : n ≤ 2) (rg_c0 : ¬ c0 < 0 ∧ ¬ (255 : Int32) < c0) (rg_c1 : ¬ c1 < 0 ∧ ¬ (255 : Int32) < c1) (rg_c2 : ¬ c2 < 0 ∧ ¬ (255 : Int32) < c2) (rg_c3 : ¬ c3 < 0 ∧ ¬ (255 : Int32) < c3) :
    MetFree l (⟨"com/example/bolter/bolter/service/ParameterNameOfPinLaw", "mk", "(I[CI)Ljava/lang/String;"⟩ : MethodName) (head1 (Jvm.Cond.code (⟨"com/example/bolter/bolter/service/ParameterNameOfPinLaw", "mk", "(I[CI)Ljava/lang/String;"⟩ : MethodName) method_3_code 3 (some (.object "java/lang/String")) :: ws) ({ frames := 4, cells := 6, slots := 12, locals := 66 } : Room)) (fun aR U => aR = #[(.int (Int32.ofNat n)), (.ref b), (.int (2 : Int32))] ∧ Z.Warmed39 U.vm ∧ U.heap = h0 ∧ CHv Z EL U.vm h0 ∧ ∀ x ∈ ([] : List Addr), Safe Z EL U.vm h0 x) (fun _ _ _ _ _ => True) (fun _ U o U' => ∃ v L, o = .returned v ∧ Q_mk2 Z n b kc c0 c1 c2 c3 G1 h0 n0 v U'.heap L ∧ CHr Z EL U.vm U.heap U'.vm U'.heap ∧ ReturnedEndW U o U' L ({ frames := 4, cells := 6, slots := 12, locals := 66 } : Room).cells ({ frames := 4, cells := 6, slots := 12, locals := 66 } : Room).slots) := by
 refine MetFree.of_bodySF (plainFor_of_name pn_8) hisR ?_
 intro p e s m args below meth c s₁ Bd hml0 hP hK
 obtain ⟨rfl, hZ, hh, hCH, hSF⟩ := hP
 have hx := Bd.exec
 have hby := Bd.bytes
 have hml : c.maxLocals = 3 := hml0
 have hown : s.vm.findClass "com/example/bolter/bolter/service/ParameterNameOfPinLaw" = some m.cls := findClass_of_methodNamed Bd.named
 have hnm := (name_of_methodNamed Bd.named Bd.method).1
 have X0 : Stand p l e ({ frames := 4, cells := 6, slots := 12, locals := 66 } : Room) (s.setVm s.vm) m #[(.int (Int32.ofNat n)), (.ref b), (.int (2 : Int32))] below meth c s₁ [] 0 0 := Stand.of_body Bd
 have e0 : s₁.heap = h0 := by rw [← hh, Bd.state]; rfl
 have N0 := Fr.nil n0
 show Goes p.tables e below _ _
 rw [ef_mk2 m n b kc c0 c1 c2 c3 G1]
 refine Goes.named ?_
 intro QQ hQQ
 have hS0 : s.Since s.vm 0 := (State.WarmedH.refl s).since 0
 have hk0 : 0 ≤ h0.size := Nat.zero_le _
 have CR0 : CHr Z EL s.vm h0 s.vm h0 := CHr.refl hCH
 by_cases hn0 : n = 0
 case pos =>
  rw [show Int32.ofNat n = (0 : Int32) from by rw [hn0]; rfl]
  show Goes _ _ _ _ (s₁.setTop (mkF m 0 #[.val (.int (0 : Int32)), .val (.ref b), .val (.int (2 : Int32))] []))
  refine Goes.st (fun sT kT => XS.iloadN X0.here hx rfl (hb hby d2_0) rfl kT) ?_
  show Goes _ _ _ _ (s₁.setTop (mkF m 1 #[.val (.int (0 : Int32)), .val (.ref b), .val (.int (2 : Int32))] [(.int (0 : Int32))]))
  refine Goes.st (fun sT kT => XS.ifNo X0.here hx rfl (hb hby d2_1) rfl ((if0 _ _).trans (flt (by decide : ¬ ((0 : Int32) < (0 : Int32)))).2.2.1) kT) ?_
  show Goes _ _ _ _ (s₁.setTop (mkF m 4 #[.val (.int (0 : Int32)), .val (.ref b), .val (.int (2 : Int32))] []))
  obtain ⟨T1, h1, X1, e1, E1, A1, D1, -, st1⟩ := newO X0 hx hZ hown (hw9 hw) (hw10 hw) (hw11 hw) e0 (g := (mkF m 4 #[.val (.int (0 : Int32)), .val (.ref b), .val (.int (2 : Int32))] [])) rfl (hb hby d2_4) (by decide) (by decide)
  obtain ⟨b1, g1⟩ : ∃ z, z = h0.size := ⟨_, rfl⟩
  rw [← g1] at A1 D1 st1
  have CR2 : CHr Z EL s.vm h0 s.vm h1 := CR0.trans (CHr.ext E1 CR0.1)
  have sf1_b1 : Safe Z EL s.vm h1 b1 := Safe.ext E1 CR0.1 (Safe.new (Nat.le_of_eq g1.symm))
  have F1_value : Fld Z h1 b1 "java/lang/String" "value" "[B" .null := D1 (Or.inr (hw24 hw)) (ty := (.array .byte)) (by decide)
  have F1_coder : Fld Z h1 b1 "java/lang/String" "coder" "B" (.int (0 : Int32)) := D1 (Or.inr (hw25 hw)) (ty := .byte) (by decide)
  refine Goes.st st1 ?_
  show Goes _ _ _ _ (T1.setTop (mkF m 7 #[.val (.int (0 : Int32)), .val (.ref b), .val (.int (2 : Int32))] [(.ref b1)]))
  refine Goes.st (fun sT kT => XS.dup X1.here hx rfl (hb hby d2_7) rfl rfl kT) ?_
  show Goes _ _ _ _ (T1.setTop (mkF m 8 #[.val (.int (0 : Int32)), .val (.ref b), .val (.int (2 : Int32))] [(.ref b1), (.ref b1)]))
  refine Goes.st (fun sT kT => XS.iconst X1.here hx rfl (hb hby d2_8) kT) ?_
  show Goes _ _ _ _ (T1.setTop (mkF m 9 #[.val (.int (0 : Int32)), .val (.ref b), .val (.int (2 : Int32))] [(.int (0 : Int32)), (.ref b1), (.ref b1)]))
  obtain ⟨T3, h3, k3, X3, e3, E3, A3, st3⟩ := newP X1 hx hZ (aty := .char) (hw1 hw) e1 (g := (mkF m 9 #[.val (.int (0 : Int32)), .val (.ref b), .val (.int (2 : Int32))] [(.int (0 : Int32)), (.ref b1), (.ref b1)])) rfl (hb hby d2_9) rfl (by decide) (cap := 0) (by decide) (by decide) (by decide) (by decide)
  obtain ⟨b3, g3⟩ : ∃ z, z = h1.size := ⟨_, rfl⟩
  rw [← g3] at A3 st3
  have CR4 : CHr Z EL s.vm h0 s.vm h3 := CR2.trans (CHr.ext E3 CR2.1)
  have sf4_b1 : Safe Z EL s.vm h3 b1 := Safe.ext E3 CR2.1 sf1_b1
  have V3 : Arv Z h3 b3 k3 .char (0 : Int32) [] (.int (0 : Int32)) := (Arv.new A3 (by decide)).pad (pad_rep [] (.int (0 : Int32)) 0)
  refine Goes.st st3 ?_
  show Goes _ _ _ _ (T3.setTop (mkF m 11 #[.val (.int (0 : Int32)), .val (.ref b), .val (.int (2 : Int32))] [(.ref b3), (.ref b1), (.ref b1)]))
  have f6 : Exa Z h3 b1 "java/lang/String" := (A1.ext E3)
  have f7 : Fld Z h3 b1 "java/lang/String" "value" "[B" .null := (F1_value.ext E3)
  have f8 : Fld Z h3 b1 "java/lang/String" "coder" "B" (.int (0 : Int32)) := (F1_coder.ext E3)
  have f9 : Old Z n0 h3 := ((P1.ext E1).ext E3)
  obtain ⟨_, _, ⟨T5, L5, k5, n5⟩, -, X5, hSr5, hgr5, ⟨Lc5, hQ5, l5, y5, z5, C5⟩, st5⟩ := X3.specialBackS hx (y := (⟨"java/lang/String", "<init>", "([C)V"⟩ : MethodName)) rfl hown (mvT hZ (hw12 hw)) (mvT hZ (hw13 hw)) (mvT hZ (hw14 hw)) (by decide) (own_backW (W := 1) (xs := [b1]) (rm_s1e l Z a0 hw [] b1 b3 k3 h3 n0 (Nat.le_trans Z0 (Nat.le_trans E1.1 E3.1)) f6 f7 f8 V3 (Nat.le_trans Z0 (Nat.le_of_eq g1.symm))) hZ (hw14 hw) (hw11 hw) (by decide) (by decide) (own_EW hw) CR4.1 (allS ⟨(Nat.lt_of_lt_of_le A1.lt E3.1), sf4_b1⟩ all0)) (g := (mkF m 11 #[.val (.int (0 : Int32)), .val (.ref b), .val (.int (2 : Int32))] [(.ref b3), (.ref b1), (.ref b1)])) rfl (by rw [hml]; rfl) (Steps.refl _) (a := b1) (argsL := [(.ref b3)]) (rest := [(.ref b1)]) (lenOf pd_17 rfl) rfl (by show 2 * 0 + _ ≤ _; exact Nat.le_of_eq rfl) (hb hby d2_11) (fun _ _ => ⟨rfl, e3, (by decide : 2 + 4 ≤ _), (by decide : 4 + 8 ≤ _)⟩)
  dsimp only [Pt.U, Pt.locs, Pt.cells, Pt.slots] at X5 l5 y5 z5 st5 hQ5 hSr5 hgr5 C5
  subst l5 y5 z5
  obtain ⟨X5, hS5, hZ5, hown5⟩ := rebS hS0 (by rw [e3]; exact (Nat.le_trans (Nat.le_trans hk0 E1.1) E3.1)) X5 hSr5 hgr5 hZ hown
  obtain ⟨t5, kb5, rfl, N5q, K5, F5_0, ne5_0⟩ := hQ5
  have N5 := Fr.app N0 N5q
  have F5_0E := F5_0.1
  have CR10 : CHr Z EL s.vm h0 T5.vm T5.heap := CR4.trans (C5)
  have sf10_b1 : Safe Z EL T5.vm T5.heap b1 := C5.safe (Nat.lt_of_lt_of_le A1.lt E3.1) sf4_b1
  refine Goes.tr st5 ?_
  show Goes _ _ _ _ (T5.setTop (mkF m 14 #[.val (.int (0 : Int32)), .val (.ref b), .val (.int (2 : Int32))] [(.ref b1)]))
  have S11 : Str Z T5.heap b1 t5 kb5 (([c0, c1, c2, c3].drop 2).take n) := by rw [show (([c0, c1, c2, c3].drop 2).take n) = [] from by rw [hn0]; rfl]; exact F5_0
  have kp12 : Keep h0 h1 [] := (Keep.refl h0 []).ext E1
  have kp13 : Keep h0 h3 [] := kp12.ext E3
  have kp14 : Keep h0 T5.heap [] := kp13.trans K5 (allS (Or.inr (Nat.le_of_eq g1.symm)) all0)
  obtain ⟨fs, hr, hrun, hended, hRW⟩ := X5.leaveW hS5 (Nat.le_refl _) (v := some (.ref b1)) (fun h => by rw [Bd.returns] at h; cases h)
  subst hQQ
  have hCR : CHr Z EL s.vm s.heap T5.vm T5.heap := by rw [hh]; exact CR10.trans (CHv.at X5 hZ5 (own_EW hw) CR10.1)
  refine ⟨_, _, retR X5 hx Bd.returns rfl rfl (hb hby d2_14) hr, hrun, hended, _, _, rfl, ?_, hCR, own_REmono hRW (by decide) (by decide)⟩
  show Q_mk2 Z n b kc c0 c1 c2 c3 G1 h0 n0 _ T5.heap _
  exact ⟨b1, t5, kb5, rfl, N5, kp14, S11, (Nat.le_of_eq g1.symm), ne5_0⟩
 case neg =>
  by_cases hn1 : n = 1
  case pos =>
   rw [show Int32.ofNat n = (1 : Int32) from by rw [hn1]; rfl]
   show Goes _ _ _ _ (s₁.setTop (mkF m 0 #[.val (.int (1 : Int32)), .val (.ref b), .val (.int (2 : Int32))] []))
   refine Goes.st (fun sT kT => XS.iloadN X0.here hx rfl (hb hby d2_0) rfl kT) ?_
   show Goes _ _ _ _ (s₁.setTop (mkF m 1 #[.val (.int (1 : Int32)), .val (.ref b), .val (.int (2 : Int32))] [(.int (1 : Int32))]))
   refine Goes.st (fun sT kT => XS.ifYes X0.here hx rfl (pc0 := 1) (pc' := 15) rfl (hb hby d2_1) rfl ((if0 _ _).trans (tlt (by decide : (0 : Int32) < (1 : Int32))).2.2.1) (by decide) (by decide) kT) ?_
   show Goes _ _ _ _ (s₁.setTop (mkF m 15 #[.val (.int (1 : Int32)), .val (.ref b), .val (.int (2 : Int32))] []))
   refine Goes.st (fun sT kT => XS.iloadN X0.here hx rfl (hb hby d2_15) rfl kT) ?_
   show Goes _ _ _ _ (s₁.setTop (mkF m 16 #[.val (.int (1 : Int32)), .val (.ref b), .val (.int (2 : Int32))] [(.int (1 : Int32))]))
   refine Goes.st (fun sT kT => XS.iconst X0.here hx rfl (hb hby d2_16) kT) ?_
   show Goes _ _ _ _ (s₁.setTop (mkF m 17 #[.val (.int (1 : Int32)), .val (.ref b), .val (.int (2 : Int32))] [(.int (1 : Int32)), (.int (1 : Int32))]))
   refine Goes.st (fun sT kT => XS.icmpNo X0.here hx rfl (hb hby d2_17) rfl (teq (by decide : (1 : Int32) = (1 : Int32))).2 kT) ?_
   show Goes _ _ _ _ (s₁.setTop (mkF m 20 #[.val (.int (1 : Int32)), .val (.ref b), .val (.int (2 : Int32))] []))
   obtain ⟨T15, h15, X15, e15, E15, A15, D15, -, st15⟩ := newO X0 hx hZ hown (hw9 hw) (hw10 hw) (hw11 hw) e0 (g := (mkF m 20 #[.val (.int (1 : Int32)), .val (.ref b), .val (.int (2 : Int32))] [])) rfl (hb hby d2_20) (by decide) (by decide)
   obtain ⟨b15, g15⟩ : ∃ z, z = h0.size := ⟨_, rfl⟩
   rw [← g15] at A15 D15 st15
   have CR16 : CHr Z EL s.vm h0 s.vm h15 := CR0.trans (CHr.ext E15 CR0.1)
   have sf15_b15 : Safe Z EL s.vm h15 b15 := Safe.ext E15 CR0.1 (Safe.new (Nat.le_of_eq g15.symm))
   have F15_value : Fld Z h15 b15 "java/lang/String" "value" "[B" .null := D15 (Or.inr (hw24 hw)) (ty := (.array .byte)) (by decide)
   have F15_coder : Fld Z h15 b15 "java/lang/String" "coder" "B" (.int (0 : Int32)) := D15 (Or.inr (hw25 hw)) (ty := .byte) (by decide)
   refine Goes.st st15 ?_
   show Goes _ _ _ _ (T15.setTop (mkF m 23 #[.val (.int (1 : Int32)), .val (.ref b), .val (.int (2 : Int32))] [(.ref b15)]))
   refine Goes.st (fun sT kT => XS.dup X15.here hx rfl (hb hby d2_23) rfl rfl kT) ?_
   show Goes _ _ _ _ (T15.setTop (mkF m 24 #[.val (.int (1 : Int32)), .val (.ref b), .val (.int (2 : Int32))] [(.ref b15), (.ref b15)]))
   refine Goes.st (fun sT kT => XS.iconst X15.here hx rfl (hb hby d2_24) kT) ?_
   show Goes _ _ _ _ (T15.setTop (mkF m 25 #[.val (.int (1 : Int32)), .val (.ref b), .val (.int (2 : Int32))] [(.int (1 : Int32)), (.ref b15), (.ref b15)]))
   obtain ⟨T17, h17, k17, X17, e17, E17, A17, st17⟩ := newP X15 hx hZ (aty := .char) (hw1 hw) e15 (g := (mkF m 25 #[.val (.int (1 : Int32)), .val (.ref b), .val (.int (2 : Int32))] [(.int (1 : Int32)), (.ref b15), (.ref b15)])) rfl (hb hby d2_25) rfl (by decide) (cap := 1) (by decide) (by decide) (by decide) (by decide)
   obtain ⟨b17, g17⟩ : ∃ z, z = h15.size := ⟨_, rfl⟩
   rw [← g17] at A17 st17
   have CR18 : CHr Z EL s.vm h0 s.vm h17 := CR16.trans (CHr.ext E17 CR16.1)
   have sf18_b15 : Safe Z EL s.vm h17 b15 := Safe.ext E17 CR16.1 sf15_b15
   have V17 : Arv Z h17 b17 k17 .char (1 : Int32) [(.int (0 : Int32))] (.int (0 : Int32)) := (Arv.new A17 (by decide)).pad (pad_rep [] (.int (0 : Int32)) 1)
   refine Goes.st st17 ?_
   show Goes _ _ _ _ (T17.setTop (mkF m 27 #[.val (.int (1 : Int32)), .val (.ref b), .val (.int (2 : Int32))] [(.ref b17), (.ref b15), (.ref b15)]))
   refine Goes.st (fun sT kT => XS.dup X17.here hx rfl (hb hby d2_27) rfl rfl kT) ?_
   show Goes _ _ _ _ (T17.setTop (mkF m 28 #[.val (.int (1 : Int32)), .val (.ref b), .val (.int (2 : Int32))] [(.ref b17), (.ref b17), (.ref b15), (.ref b15)]))
   refine Goes.st (fun sT kT => XS.iconst X17.here hx rfl (hb hby d2_28) kT) ?_
   show Goes _ _ _ _ (T17.setTop (mkF m 29 #[.val (.int (1 : Int32)), .val (.ref b), .val (.int (2 : Int32))] [(.int (0 : Int32)), (.ref b17), (.ref b17), (.ref b15), (.ref b15)]))
   refine Goes.st (fun sT kT => XS.aloadN X17.here hx rfl (hb hby d2_29) rfl rfl kT) ?_
   show Goes _ _ _ _ (T17.setTop (mkF m 30 #[.val (.int (1 : Int32)), .val (.ref b), .val (.int (2 : Int32))] [(.ref b), (.int (0 : Int32)), (.ref b17), (.ref b17), (.ref b15), (.ref b15)]))
   refine Goes.st (fun sT kT => XS.iloadN X17.here hx rfl (hb hby d2_30) rfl kT) ?_
   show Goes _ _ _ _ (T17.setTop (mkF m 31 #[.val (.int (1 : Int32)), .val (.ref b), .val (.int (2 : Int32))] [(.int (2 : Int32)), (.ref b), (.int (0 : Int32)), (.ref b17), (.ref b17), (.ref b15), (.ref b15)]))
   have f19 : Arv Z h17 b kc .char (4 : Int32) [(.int c0), (.int c1), (.int c2), (.int c3)] (.int (0 : Int32)) := ((P0.ext E15).ext E17)
   obtain ⟨oc20, oA20, oq20, oS20, oM20, oH20, oG20⟩ := id f19
   refine Goes.st (fun sT kT => X17.caload hx (j := (2 : Int32)) (v := (.int c2)) (by rw [e17]; exact oA20.1) (State.isArrayOf_alike hZ.alike oA20.2.1) oA20.2.2 (inb_of oS20 ⟨by decide, by decide⟩) (oH20.at (inb_of oS20 ⟨by decide, by decide⟩) rfl) (g := (mkF m 31 #[.val (.int (1 : Int32)), .val (.ref b), .val (.int (2 : Int32))] [(.int (2 : Int32)), (.ref b), (.int (0 : Int32)), (.ref b17), (.ref b17), (.ref b15), (.ref b15)])) rfl rfl (hb hby d2_31) _ kT) ?_
   show Goes _ _ _ _ (T17.setTop (mkF m 32 #[.val (.int (1 : Int32)), .val (.ref b), .val (.int (2 : Int32))] [(.int c2), (.int (0 : Int32)), (.ref b17), (.ref b17), (.ref b15), (.ref b15)]))
   obtain ⟨oc21, oA21, oq21, oS21, oM21, oH21, oG21⟩ := id V17
   obtain ⟨T22, h22, X22, e22, W22, st22⟩ := stC X17 hx hZ e17 oA21 (j := (0 : Int32)) (inb_of oS21 ⟨by decide, by decide⟩) (g := (mkF m 32 #[.val (.int (1 : Int32)), .val (.ref b), .val (.int (2 : Int32))] [(.int c2), (.int (0 : Int32)), (.ref b17), (.ref b17), (.ref b15), (.ref b15)])) rfl rfl (hb hby d2_32)
   rw [own_narc rg_c2] at W22
   have V22 : Arv Z h22 b17 k17 .char (1 : Int32) [(.int c2)] (.int (0 : Int32)) := Arv.set oA21 oq21 oS21 oM21 oH21 oG21 (own_fitsc rg_c2) W22 0 rfl (Nat.le_of_ble_eq_true rfl)
   have N22 := Fr.snoc X22 N0 (Nat.le_trans Z0 (Nat.le_trans E15.1 (Nat.le_of_eq g17.symm)))
   have CR23 : CHr Z EL s.vm h0 s.vm h22 := CR18.trans (CHr.wr W22 (own_safeArv hZ.alike V17 (by simp)) CR18.1)
   have sf23_b15 : Safe Z EL s.vm h22 b15 := Safe.wr W22 (own_safeArv hZ.alike V17 (by simp)) CR18.1 sf18_b15
   refine Goes.st st22 ?_
   show Goes _ _ _ _ (T22.setTop (mkF m 33 #[.val (.int (1 : Int32)), .val (.ref b), .val (.int (2 : Int32))] [(.ref b17), (.ref b15), (.ref b15)]))
   have f25 : Exa Z h22 b15 "java/lang/String" := ((A15.ext E17).wr W22)
   have f26 : Fld Z h22 b15 "java/lang/String" "value" "[B" .null := ((F15_value.ext E17).other W22 (Or.inl (Nat.ne_of_lt (Nat.lt_of_lt_of_le A15.lt (Nat.le_of_eq g17.symm)))))
   have f27 : Fld Z h22 b15 "java/lang/String" "coder" "B" (.int (0 : Int32)) := ((F15_coder.ext E17).other W22 (Or.inl (Nat.ne_of_lt (Nat.lt_of_lt_of_le A15.lt (Nat.le_of_eq g17.symm)))))
   have f28 : Old Z n0 h22 := (((P1.ext E15).ext E17).wr W22 (Nat.le_trans Z0 (Nat.le_trans E15.1 (Nat.le_of_eq g17.symm))))
   have hp29 : ∀ c ∈ ([c2] : List Int32), ¬ c < 0 ∧ ¬ (255 : Int32) < c := (own_cS rg_c2 own_c0)
   obtain ⟨_, _, ⟨T24, L24, k24, n24⟩, -, X24, ⟨Lc24, hQ24, l24, y24, z24⟩, st24⟩ := X22.specialBack hx (y := (⟨"java/lang/String", "<init>", "([C)V"⟩ : MethodName)) rfl hown (mvT hZ (hw12 hw)) (mvT hZ (hw13 hw)) (mvT hZ (hw14 hw)) (by decide) (StrChars.Road.backV (W := 1) hZ (own_hws hw) (kI := 4) (hw10 hw) (cs := ([c2] : List Int32)) (bs := ([c2] : List Int32).map (fun c => c.toInt8.toInt32)) (n := 1) (Nat.le_trans Z0 (Nat.le_of_eq g15.symm)) (Nat.le_trans Z0 (Nat.le_trans (Nat.le_trans E15.1 E17.1) (Nat.le_of_eq W22.size.symm))) f25 f26 f27 V22 (O2.ext f28.2) P5 rfl rfl (by decide) (by decide) hp29 rfl (by decide) (by decide)) (g := (mkF m 33 #[.val (.int (1 : Int32)), .val (.ref b), .val (.int (2 : Int32))] [(.ref b17), (.ref b15), (.ref b15)])) rfl (by rw [hml]; rfl) (Steps.refl _) (a := b15) (argsL := [(.ref b17)]) (rest := [(.ref b15)]) (lenOf pd_17 rfl) rfl (by show 2 * 0 + _ ≤ _; exact Nat.le_of_eq rfl) (hb hby d2_33) (fun _ _ => ⟨rfl, e22, (by decide : 2 + 1 ≤ _), (by decide : 5 + 1 ≤ _)⟩)
   dsimp only [Pt.U, Pt.locs, Pt.cells, Pt.slots] at X24 l24 y24 z24 st24 hQ24
   subst l24 y24 z24
   obtain ⟨rfl, N24q, K24, Ex24, Cd24, t24, kb24, lz24, lo24, tn24, Vf24, Av24⟩ := hQ24
   have N24 := Fr.app N22 N24q
   have S24 : Str Z T24.heap b15 t24 kb24 [c2] := ⟨Ex24, Vf24, Cd24, Av24, hp29, Nat.le_of_ble_eq_true rfl⟩
   have hs30 : ∀ x ∈ ([b15] : List Addr), Safe Z EL s.vm h22 x := (allS sf23_b15 all0)
   have CR30 : CHr Z EL s.vm h0 s.vm T24.heap := CR23.trans (CHr.keep K24 hs30 CR23.1)
   have sf30_b15 : Safe Z EL s.vm T24.heap b15 := Safe.keep K24 hs30 CR23.1 sf23_b15
   refine Goes.tr st24 ?_
   show Goes _ _ _ _ (T24.setTop (mkF m 36 #[.val (.int (1 : Int32)), .val (.ref b), .val (.int (2 : Int32))] [(.ref b15)]))
   have S31 : Str Z T24.heap b15 t24 kb24 (([c0, c1, c2, c3].drop 2).take n) := by rw [show (([c0, c1, c2, c3].drop 2).take n) = [c2] from by rw [hn1]; rfl]; exact S24
   have kp32 : Keep h0 h15 [] := (Keep.refl h0 []).ext E15
   have kp33 : Keep h0 h17 [] := kp32.ext E17
   have kp34 : Keep h0 h22 [] := kp33.wr W22 (Or.inr (Nat.le_trans E15.1 (Nat.le_of_eq g17.symm)))
   have kp35 : Keep h0 T24.heap [] := kp34.trans K24 (allS (Or.inr (Nat.le_of_eq g15.symm)) all0)
   obtain ⟨fs, hr, hrun, hended, hRW⟩ := X24.leaveW hS0 (Nat.le_trans (Nat.le_trans (Nat.le_trans (Nat.le_trans hk0 E15.1) E17.1) (Nat.le_of_eq W22.size.symm)) K24.1) (v := some (.ref b15)) (fun h => by rw [Bd.returns] at h; cases h)
   subst hQQ
   have hCR : CHr Z EL s.vm s.heap T24.vm T24.heap := by rw [hh]; exact CR30.trans (CHv.at X24 hZ (own_EW hw) CR30.1)
   refine ⟨_, _, retR X24 hx Bd.returns rfl rfl (hb hby d2_36) hr, hrun, hended, _, _, rfl, ?_, hCR, own_REmono hRW (by decide) (by decide)⟩
   show Q_mk2 Z n b kc c0 c1 c2 c3 G1 h0 n0 _ T24.heap _
   exact ⟨b15, t24, kb24, rfl, N24, kp35, S31, (Nat.le_of_eq g15.symm), (Ne.symm tn24)⟩
  case neg =>
   rw [show Int32.ofNat n = (2 : Int32) from by rw [(show n = 2 by omega)]; rfl]
   show Goes _ _ _ _ (s₁.setTop (mkF m 0 #[.val (.int (2 : Int32)), .val (.ref b), .val (.int (2 : Int32))] []))
   refine Goes.st (fun sT kT => XS.iloadN X0.here hx rfl (hb hby d2_0) rfl kT) ?_
   show Goes _ _ _ _ (s₁.setTop (mkF m 1 #[.val (.int (2 : Int32)), .val (.ref b), .val (.int (2 : Int32))] [(.int (2 : Int32))]))
   refine Goes.st (fun sT kT => XS.ifYes X0.here hx rfl (pc0 := 1) (pc' := 15) rfl (hb hby d2_1) rfl ((if0 _ _).trans (tlt (by decide : (0 : Int32) < (2 : Int32))).2.2.1) (by decide) (by decide) kT) ?_
   show Goes _ _ _ _ (s₁.setTop (mkF m 15 #[.val (.int (2 : Int32)), .val (.ref b), .val (.int (2 : Int32))] []))
   refine Goes.st (fun sT kT => XS.iloadN X0.here hx rfl (hb hby d2_15) rfl kT) ?_
   show Goes _ _ _ _ (s₁.setTop (mkF m 16 #[.val (.int (2 : Int32)), .val (.ref b), .val (.int (2 : Int32))] [(.int (2 : Int32))]))
   refine Goes.st (fun sT kT => XS.iconst X0.here hx rfl (hb hby d2_16) kT) ?_
   show Goes _ _ _ _ (s₁.setTop (mkF m 17 #[.val (.int (2 : Int32)), .val (.ref b), .val (.int (2 : Int32))] [(.int (1 : Int32)), (.int (2 : Int32))]))
   refine Goes.st (fun sT kT => XS.icmpYes X0.here hx rfl (pc0 := 17) (pc' := 37) rfl (hb hby d2_17) rfl (feq (by decide : ¬ ((2 : Int32) = (1 : Int32)))).2 (by decide) (by decide) kT) ?_
   show Goes _ _ _ _ (s₁.setTop (mkF m 37 #[.val (.int (2 : Int32)), .val (.ref b), .val (.int (2 : Int32))] []))
   refine Goes.st (fun sT kT => XS.iloadN X0.here hx rfl (hb hby d2_37) rfl kT) ?_
   show Goes _ _ _ _ (s₁.setTop (mkF m 38 #[.val (.int (2 : Int32)), .val (.ref b), .val (.int (2 : Int32))] [(.int (2 : Int32))]))
   refine Goes.st (fun sT kT => XS.iconst X0.here hx rfl (hb hby d2_38) kT) ?_
   show Goes _ _ _ _ (s₁.setTop (mkF m 39 #[.val (.int (2 : Int32)), .val (.ref b), .val (.int (2 : Int32))] [(.int (2 : Int32)), (.int (2 : Int32))]))
   refine Goes.st (fun sT kT => XS.icmpNo X0.here hx rfl (hb hby d2_39) rfl (teq (by decide : (2 : Int32) = (2 : Int32))).2 kT) ?_
   show Goes _ _ _ _ (s₁.setTop (mkF m 42 #[.val (.int (2 : Int32)), .val (.ref b), .val (.int (2 : Int32))] []))
   obtain ⟨T36, h36, X36, e36, E36, A36, D36, -, st36⟩ := newO X0 hx hZ hown (hw9 hw) (hw10 hw) (hw11 hw) e0 (g := (mkF m 42 #[.val (.int (2 : Int32)), .val (.ref b), .val (.int (2 : Int32))] [])) rfl (hb hby d2_42) (by decide) (by decide)
   obtain ⟨b36, g36⟩ : ∃ z, z = h0.size := ⟨_, rfl⟩
   rw [← g36] at A36 D36 st36
   have CR37 : CHr Z EL s.vm h0 s.vm h36 := CR0.trans (CHr.ext E36 CR0.1)
   have sf36_b36 : Safe Z EL s.vm h36 b36 := Safe.ext E36 CR0.1 (Safe.new (Nat.le_of_eq g36.symm))
   have F36_value : Fld Z h36 b36 "java/lang/String" "value" "[B" .null := D36 (Or.inr (hw24 hw)) (ty := (.array .byte)) (by decide)
   have F36_coder : Fld Z h36 b36 "java/lang/String" "coder" "B" (.int (0 : Int32)) := D36 (Or.inr (hw25 hw)) (ty := .byte) (by decide)
   refine Goes.st st36 ?_
   show Goes _ _ _ _ (T36.setTop (mkF m 45 #[.val (.int (2 : Int32)), .val (.ref b), .val (.int (2 : Int32))] [(.ref b36)]))
   refine Goes.st (fun sT kT => XS.dup X36.here hx rfl (hb hby d2_45) rfl rfl kT) ?_
   show Goes _ _ _ _ (T36.setTop (mkF m 46 #[.val (.int (2 : Int32)), .val (.ref b), .val (.int (2 : Int32))] [(.ref b36), (.ref b36)]))
   refine Goes.st (fun sT kT => XS.iconst X36.here hx rfl (hb hby d2_46) kT) ?_
   show Goes _ _ _ _ (T36.setTop (mkF m 47 #[.val (.int (2 : Int32)), .val (.ref b), .val (.int (2 : Int32))] [(.int (2 : Int32)), (.ref b36), (.ref b36)]))
   obtain ⟨T38, h38, k38, X38, e38, E38, A38, st38⟩ := newP X36 hx hZ (aty := .char) (hw1 hw) e36 (g := (mkF m 47 #[.val (.int (2 : Int32)), .val (.ref b), .val (.int (2 : Int32))] [(.int (2 : Int32)), (.ref b36), (.ref b36)])) rfl (hb hby d2_47) rfl (by decide) (cap := 2) (by decide) (by decide) (by decide) (by decide)
   obtain ⟨b38, g38⟩ : ∃ z, z = h36.size := ⟨_, rfl⟩
   rw [← g38] at A38 st38
   have CR39 : CHr Z EL s.vm h0 s.vm h38 := CR37.trans (CHr.ext E38 CR37.1)
   have sf39_b36 : Safe Z EL s.vm h38 b36 := Safe.ext E38 CR37.1 sf36_b36
   have V38 : Arv Z h38 b38 k38 .char (2 : Int32) [(.int (0 : Int32)), (.int (0 : Int32))] (.int (0 : Int32)) := (Arv.new A38 (by decide)).pad (pad_rep [] (.int (0 : Int32)) 2)
   refine Goes.st st38 ?_
   show Goes _ _ _ _ (T38.setTop (mkF m 49 #[.val (.int (2 : Int32)), .val (.ref b), .val (.int (2 : Int32))] [(.ref b38), (.ref b36), (.ref b36)]))
   refine Goes.st (fun sT kT => XS.dup X38.here hx rfl (hb hby d2_49) rfl rfl kT) ?_
   show Goes _ _ _ _ (T38.setTop (mkF m 50 #[.val (.int (2 : Int32)), .val (.ref b), .val (.int (2 : Int32))] [(.ref b38), (.ref b38), (.ref b36), (.ref b36)]))
   refine Goes.st (fun sT kT => XS.iconst X38.here hx rfl (hb hby d2_50) kT) ?_
   show Goes _ _ _ _ (T38.setTop (mkF m 51 #[.val (.int (2 : Int32)), .val (.ref b), .val (.int (2 : Int32))] [(.int (0 : Int32)), (.ref b38), (.ref b38), (.ref b36), (.ref b36)]))
   refine Goes.st (fun sT kT => XS.aloadN X38.here hx rfl (hb hby d2_51) rfl rfl kT) ?_
   show Goes _ _ _ _ (T38.setTop (mkF m 52 #[.val (.int (2 : Int32)), .val (.ref b), .val (.int (2 : Int32))] [(.ref b), (.int (0 : Int32)), (.ref b38), (.ref b38), (.ref b36), (.ref b36)]))
   refine Goes.st (fun sT kT => XS.iloadN X38.here hx rfl (hb hby d2_52) rfl kT) ?_
   show Goes _ _ _ _ (T38.setTop (mkF m 53 #[.val (.int (2 : Int32)), .val (.ref b), .val (.int (2 : Int32))] [(.int (2 : Int32)), (.ref b), (.int (0 : Int32)), (.ref b38), (.ref b38), (.ref b36), (.ref b36)]))
   have f40 : Arv Z h38 b kc .char (4 : Int32) [(.int c0), (.int c1), (.int c2), (.int c3)] (.int (0 : Int32)) := ((P0.ext E36).ext E38)
   obtain ⟨oc41, oA41, oq41, oS41, oM41, oH41, oG41⟩ := id f40
   refine Goes.st (fun sT kT => X38.caload hx (j := (2 : Int32)) (v := (.int c2)) (by rw [e38]; exact oA41.1) (State.isArrayOf_alike hZ.alike oA41.2.1) oA41.2.2 (inb_of oS41 ⟨by decide, by decide⟩) (oH41.at (inb_of oS41 ⟨by decide, by decide⟩) rfl) (g := (mkF m 53 #[.val (.int (2 : Int32)), .val (.ref b), .val (.int (2 : Int32))] [(.int (2 : Int32)), (.ref b), (.int (0 : Int32)), (.ref b38), (.ref b38), (.ref b36), (.ref b36)])) rfl rfl (hb hby d2_53) _ kT) ?_
   show Goes _ _ _ _ (T38.setTop (mkF m 54 #[.val (.int (2 : Int32)), .val (.ref b), .val (.int (2 : Int32))] [(.int c2), (.int (0 : Int32)), (.ref b38), (.ref b38), (.ref b36), (.ref b36)]))
   obtain ⟨oc42, oA42, oq42, oS42, oM42, oH42, oG42⟩ := id V38
   obtain ⟨T43, h43, X43, e43, W43, st43⟩ := stC X38 hx hZ e38 oA42 (j := (0 : Int32)) (inb_of oS42 ⟨by decide, by decide⟩) (g := (mkF m 54 #[.val (.int (2 : Int32)), .val (.ref b), .val (.int (2 : Int32))] [(.int c2), (.int (0 : Int32)), (.ref b38), (.ref b38), (.ref b36), (.ref b36)])) rfl rfl (hb hby d2_54)
   rw [own_narc rg_c2] at W43
   have V43 : Arv Z h43 b38 k38 .char (2 : Int32) [(.int c2), (.int (0 : Int32))] (.int (0 : Int32)) := Arv.set oA42 oq42 oS42 oM42 oH42 oG42 (own_fitsc rg_c2) W43 0 rfl (Nat.le_of_ble_eq_true rfl)
   have N43 := Fr.snoc X43 N0 (Nat.le_trans Z0 (Nat.le_trans E36.1 (Nat.le_of_eq g38.symm)))
   have CR44 : CHr Z EL s.vm h0 s.vm h43 := CR39.trans (CHr.wr W43 (own_safeArv hZ.alike V38 (by simp)) CR39.1)
   have sf44_b36 : Safe Z EL s.vm h43 b36 := Safe.wr W43 (own_safeArv hZ.alike V38 (by simp)) CR39.1 sf39_b36
   refine Goes.st st43 ?_
   show Goes _ _ _ _ (T43.setTop (mkF m 55 #[.val (.int (2 : Int32)), .val (.ref b), .val (.int (2 : Int32))] [(.ref b38), (.ref b36), (.ref b36)]))
   refine Goes.st (fun sT kT => XS.dup X43.here hx rfl (hb hby d2_55) rfl rfl kT) ?_
   show Goes _ _ _ _ (T43.setTop (mkF m 56 #[.val (.int (2 : Int32)), .val (.ref b), .val (.int (2 : Int32))] [(.ref b38), (.ref b38), (.ref b36), (.ref b36)]))
   refine Goes.st (fun sT kT => XS.iconst X43.here hx rfl (hb hby d2_56) kT) ?_
   show Goes _ _ _ _ (T43.setTop (mkF m 57 #[.val (.int (2 : Int32)), .val (.ref b), .val (.int (2 : Int32))] [(.int (1 : Int32)), (.ref b38), (.ref b38), (.ref b36), (.ref b36)]))
   refine Goes.st (fun sT kT => XS.aloadN X43.here hx rfl (hb hby d2_57) rfl rfl kT) ?_
   show Goes _ _ _ _ (T43.setTop (mkF m 58 #[.val (.int (2 : Int32)), .val (.ref b), .val (.int (2 : Int32))] [(.ref b), (.int (1 : Int32)), (.ref b38), (.ref b38), (.ref b36), (.ref b36)]))
   refine Goes.st (fun sT kT => XS.iloadN X43.here hx rfl (hb hby d2_58) rfl kT) ?_
   show Goes _ _ _ _ (T43.setTop (mkF m 59 #[.val (.int (2 : Int32)), .val (.ref b), .val (.int (2 : Int32))] [(.int (2 : Int32)), (.ref b), (.int (1 : Int32)), (.ref b38), (.ref b38), (.ref b36), (.ref b36)]))
   refine Goes.st (fun sT kT => XS.iconst X43.here hx rfl (hb hby d2_59) kT) ?_
   show Goes _ _ _ _ (T43.setTop (mkF m 60 #[.val (.int (2 : Int32)), .val (.ref b), .val (.int (2 : Int32))] [(.int (1 : Int32)), (.int (2 : Int32)), (.ref b), (.int (1 : Int32)), (.ref b38), (.ref b38), (.ref b36), (.ref b36)]))
   refine Goes.st (fun sT kT => XS.iadd X43.here hx rfl (hb hby d2_60) rfl kT) ?_
   show Goes _ _ _ _ (T43.setTop (mkF m 61 #[.val (.int (2 : Int32)), .val (.ref b), .val (.int (2 : Int32))] [(.int (3 : Int32)), (.ref b), (.int (1 : Int32)), (.ref b38), (.ref b38), (.ref b36), (.ref b36)]))
   have f45 : Arv Z h43 b kc .char (4 : Int32) [(.int c0), (.int c1), (.int c2), (.int c3)] (.int (0 : Int32)) := (f40.other W43 (Nat.ne_of_lt (Nat.lt_of_lt_of_le P0.lt (Nat.le_trans E36.1 (Nat.le_of_eq g38.symm)))))
   obtain ⟨oc46, oA46, oq46, oS46, oM46, oH46, oG46⟩ := id f45
   refine Goes.st (fun sT kT => X43.caload hx (j := (3 : Int32)) (v := (.int c3)) (by rw [e43]; exact oA46.1) (State.isArrayOf_alike hZ.alike oA46.2.1) oA46.2.2 (inb_of oS46 ⟨by decide, by decide⟩) (oH46.at (inb_of oS46 ⟨by decide, by decide⟩) rfl) (g := (mkF m 61 #[.val (.int (2 : Int32)), .val (.ref b), .val (.int (2 : Int32))] [(.int (3 : Int32)), (.ref b), (.int (1 : Int32)), (.ref b38), (.ref b38), (.ref b36), (.ref b36)])) rfl rfl (hb hby d2_61) _ kT) ?_
   show Goes _ _ _ _ (T43.setTop (mkF m 62 #[.val (.int (2 : Int32)), .val (.ref b), .val (.int (2 : Int32))] [(.int c3), (.int (1 : Int32)), (.ref b38), (.ref b38), (.ref b36), (.ref b36)]))
   obtain ⟨oc47, oA47, oq47, oS47, oM47, oH47, oG47⟩ := id V43
   obtain ⟨T48, h48, X48, e48, W48, st48⟩ := stC X43 hx hZ e43 oA47 (j := (1 : Int32)) (inb_of oS47 ⟨by decide, by decide⟩) (g := (mkF m 62 #[.val (.int (2 : Int32)), .val (.ref b), .val (.int (2 : Int32))] [(.int c3), (.int (1 : Int32)), (.ref b38), (.ref b38), (.ref b36), (.ref b36)])) rfl rfl (hb hby d2_62)
   rw [own_narc rg_c3] at W48
   have V48 : Arv Z h48 b38 k38 .char (2 : Int32) [(.int c2), (.int c3)] (.int (0 : Int32)) := Arv.set oA47 oq47 oS47 oM47 oH47 oG47 (own_fitsc rg_c3) W48 1 rfl (Nat.le_of_ble_eq_true rfl)
   have N48 := Fr.snoc X48 N43 (Nat.le_trans Z0 (Nat.le_trans E36.1 (Nat.le_of_eq g38.symm)))
   have CR49 : CHr Z EL s.vm h0 s.vm h48 := CR44.trans (CHr.wr W48 (own_safeArv hZ.alike V43 (by simp)) CR44.1)
   have sf49_b36 : Safe Z EL s.vm h48 b36 := Safe.wr W48 (own_safeArv hZ.alike V43 (by simp)) CR44.1 sf44_b36
   refine Goes.st st48 ?_
   show Goes _ _ _ _ (T48.setTop (mkF m 63 #[.val (.int (2 : Int32)), .val (.ref b), .val (.int (2 : Int32))] [(.ref b38), (.ref b36), (.ref b36)]))
   have f51 : Exa Z h48 b36 "java/lang/String" := (((A36.ext E38).wr W43).wr W48)
   have f52 : Fld Z h48 b36 "java/lang/String" "value" "[B" .null := (((F36_value.ext E38).other W43 (Or.inl (Nat.ne_of_lt (Nat.lt_of_lt_of_le A36.lt (Nat.le_of_eq g38.symm))))).other W48 (Or.inl (Nat.ne_of_lt (Nat.lt_of_lt_of_le A36.lt (Nat.le_of_eq g38.symm)))))
   have f53 : Fld Z h48 b36 "java/lang/String" "coder" "B" (.int (0 : Int32)) := (((F36_coder.ext E38).other W43 (Or.inl (Nat.ne_of_lt (Nat.lt_of_lt_of_le A36.lt (Nat.le_of_eq g38.symm))))).other W48 (Or.inl (Nat.ne_of_lt (Nat.lt_of_lt_of_le A36.lt (Nat.le_of_eq g38.symm)))))
   have f54 : Old Z n0 h48 := ((((P1.ext E36).ext E38).wr W43 (Nat.le_trans Z0 (Nat.le_trans E36.1 (Nat.le_of_eq g38.symm)))).wr W48 (Nat.le_trans Z0 (Nat.le_trans E36.1 (Nat.le_of_eq g38.symm))))
   have hp55 : ∀ c ∈ ([c2, c3] : List Int32), ¬ c < 0 ∧ ¬ (255 : Int32) < c := (own_cS rg_c2 (own_cS rg_c3 own_c0))
   obtain ⟨_, _, ⟨T50, L50, k50, n50⟩, -, X50, ⟨Lc50, hQ50, l50, y50, z50⟩, st50⟩ := X48.specialBack hx (y := (⟨"java/lang/String", "<init>", "([C)V"⟩ : MethodName)) rfl hown (mvT hZ (hw12 hw)) (mvT hZ (hw13 hw)) (mvT hZ (hw14 hw)) (by decide) (StrChars.Road.backV (W := 1) hZ (own_hws hw) (kI := 4) (hw10 hw) (cs := ([c2, c3] : List Int32)) (bs := ([c2, c3] : List Int32).map (fun c => c.toInt8.toInt32)) (n := 2) (Nat.le_trans Z0 (Nat.le_of_eq g36.symm)) (Nat.le_trans Z0 (Nat.le_trans (Nat.le_trans (Nat.le_trans E36.1 E38.1) (Nat.le_of_eq W43.size.symm)) (Nat.le_of_eq W48.size.symm))) f51 f52 f53 V48 (O2.ext f54.2) P5 rfl rfl (by decide) (by decide) hp55 rfl (by decide) (by decide)) (g := (mkF m 63 #[.val (.int (2 : Int32)), .val (.ref b), .val (.int (2 : Int32))] [(.ref b38), (.ref b36), (.ref b36)])) rfl (by rw [hml]; rfl) (Steps.refl _) (a := b36) (argsL := [(.ref b38)]) (rest := [(.ref b36)]) (lenOf pd_17 rfl) rfl (by show 2 * 0 + _ ≤ _; exact Nat.le_of_eq rfl) (hb hby d2_63) (fun _ _ => ⟨rfl, e48, (by decide : 2 + 1 ≤ _), (by decide : 6 + 2 ≤ _)⟩)
   dsimp only [Pt.U, Pt.locs, Pt.cells, Pt.slots] at X50 l50 y50 z50 st50 hQ50
   subst l50 y50 z50
   obtain ⟨rfl, N50q, K50, Ex50, Cd50, t50, kb50, lz50, lo50, tn50, Vf50, Av50⟩ := hQ50
   have N50 := Fr.app N48 N50q
   have S50 : Str Z T50.heap b36 t50 kb50 [c2, c3] := ⟨Ex50, Vf50, Cd50, Av50, hp55, Nat.le_of_ble_eq_true rfl⟩
   have hs56 : ∀ x ∈ ([b36] : List Addr), Safe Z EL s.vm h48 x := (allS sf49_b36 all0)
   have CR56 : CHr Z EL s.vm h0 s.vm T50.heap := CR49.trans (CHr.keep K50 hs56 CR49.1)
   have sf56_b36 : Safe Z EL s.vm T50.heap b36 := Safe.keep K50 hs56 CR49.1 sf49_b36
   refine Goes.tr st50 ?_
   show Goes _ _ _ _ (T50.setTop (mkF m 66 #[.val (.int (2 : Int32)), .val (.ref b), .val (.int (2 : Int32))] [(.ref b36)]))
   have S57 : Str Z T50.heap b36 t50 kb50 (([c0, c1, c2, c3].drop 2).take n) := by rw [show (([c0, c1, c2, c3].drop 2).take n) = [c2, c3] from by rw [(show n = 2 by omega)]; rfl]; exact S50
   have kp58 : Keep h0 h36 [] := (Keep.refl h0 []).ext E36
   have kp59 : Keep h0 h38 [] := kp58.ext E38
   have kp60 : Keep h0 h43 [] := kp59.wr W43 (Or.inr (Nat.le_trans E36.1 (Nat.le_of_eq g38.symm)))
   have kp61 : Keep h0 h48 [] := kp60.wr W48 (Or.inr (Nat.le_trans E36.1 (Nat.le_of_eq g38.symm)))
   have kp62 : Keep h0 T50.heap [] := kp61.trans K50 (allS (Or.inr (Nat.le_of_eq g36.symm)) all0)
   obtain ⟨fs, hr, hrun, hended, hRW⟩ := X50.leaveW hS0 (Nat.le_trans (Nat.le_trans (Nat.le_trans (Nat.le_trans (Nat.le_trans hk0 E36.1) E38.1) (Nat.le_of_eq W43.size.symm)) (Nat.le_of_eq W48.size.symm)) K50.1) (v := some (.ref b36)) (fun h => by rw [Bd.returns] at h; cases h)
   subst hQQ
   have hCR : CHr Z EL s.vm s.heap T50.vm T50.heap := by rw [hh]; exact CR56.trans (CHv.at X50 hZ (own_EW hw) CR56.1)
   refine ⟨_, _, retR X50 hx Bd.returns rfl rfl (hb hby d2_66) hr, hrun, hended, _, _, rfl, ?_, hCR, own_REmono hRW (by decide) (by decide)⟩
   show Q_mk2 Z n b kc c0 c1 c2 c3 G1 h0 n0 _ T50.heap _
   exact ⟨b36, t50, kb50, rfl, N50, kp62, S57, (Nat.le_of_eq g36.symm), (Ne.symm tn50)⟩
theorem ef_mk3 (m : MethodId) (n : Nat) (b : Addr) (kc : ClassId) (c0 : Int32) (c1 : Int32) (c2 : Int32) (c3 : Int32) (G1 : Int32) : entryFrame m #[(.int (Int32.ofNat n)), (.ref b), (.int (3 : Int32))] 3 = (mkF m 0 #[.val (.int (Int32.ofNat n)), .val (.ref b), .val (.int (3 : Int32))] []) := by first | (simp [entryFrame, mkF, argsToLocals, Value.category]; done) | rfl
def Q_mk3 (Z : State) (n : Nat) (b : Addr) (kc : ClassId) (c0 : Int32) (c1 : Int32) (c2 : Int32) (c3 : Int32) (G1 : Int32) (h0 : Heap) (n0 : Nat) (v : Option Value) (h : Heap) (L : List Loc) : Prop := ∃ (r : Addr) (t : Addr) (kb : ClassId), v = some (.ref r) ∧ Fr n0 L ∧ Keep h0 h [] ∧ Str Z h r t kb (([c0, c1, c2, c3].drop 3).take n) ∧ h0.size ≤ r ∧ r ≠ t
set_option maxRecDepth 65536 in
set_option maxHeartbeats 40000000 in
theorem rm_mk3 (l : Launch) (Z : State) (a0 : Array Value) (hw : ∀ d ∈ tables_1, d.before a0 Z = true) (ws : List Jvm.Cond) (n : Nat) (b : Addr) (kc : ClassId) (c0 : Int32) (c1 : Int32) (c2 : Int32) (c3 : Int32) (G1 : Int32) (h0 : Heap) (n0 : Nat) (Z0 : n0 ≤ h0.size) (P0 : Arv Z h0 b kc .char (4 : Int32) [(.int c0), (.int c1), (.int c2), (.int c3)] (.int (0 : Int32))) (P1 : Old Z n0 h0) (O2 : Sta Z Z.heap "java/lang/String" "COMPACT_STRINGS" "Z" (.int G1)) (P5 : ¬ (G1 = (0 : Int32))) (hn : n ≤ 1) (rg_c0 : ¬ c0 < 0 ∧ ¬ (255 : Int32) < c0) (rg_c1 : ¬ c1 < 0 ∧ ¬ (255 : Int32) < c1) (rg_c2 : ¬ c2 < 0 ∧ ¬ (255 : Int32) < c2) (rg_c3 : ¬ c3 < 0 ∧ ¬ (255 : Int32) < c3) :
    MetFree l (⟨"com/example/bolter/bolter/service/ParameterNameOfPinLaw", "mk", "(I[CI)Ljava/lang/String;"⟩ : MethodName) (head1 (Jvm.Cond.code (⟨"com/example/bolter/bolter/service/ParameterNameOfPinLaw", "mk", "(I[CI)Ljava/lang/String;"⟩ : MethodName) method_3_code 3 (some (.object "java/lang/String")) :: ws) ({ frames := 4, cells := 6, slots := 12, locals := 66 } : Room)) (fun aR U => aR = #[(.int (Int32.ofNat n)), (.ref b), (.int (3 : Int32))] ∧ Z.Warmed39 U.vm ∧ U.heap = h0 ∧ CHv Z EL U.vm h0 ∧ ∀ x ∈ ([] : List Addr), Safe Z EL U.vm h0 x) (fun _ _ _ _ _ => True) (fun _ U o U' => ∃ v L, o = .returned v ∧ Q_mk3 Z n b kc c0 c1 c2 c3 G1 h0 n0 v U'.heap L ∧ CHr Z EL U.vm U.heap U'.vm U'.heap ∧ ReturnedEndW U o U' L ({ frames := 4, cells := 6, slots := 12, locals := 66 } : Room).cells ({ frames := 4, cells := 6, slots := 12, locals := 66 } : Room).slots) := by
 refine MetFree.of_bodySF (plainFor_of_name pn_8) hisR ?_
 intro p e s m args below meth c s₁ Bd hml0 hP hK
 obtain ⟨rfl, hZ, hh, hCH, hSF⟩ := hP
 have hx := Bd.exec
 have hby := Bd.bytes
 have hml : c.maxLocals = 3 := hml0
 have hown : s.vm.findClass "com/example/bolter/bolter/service/ParameterNameOfPinLaw" = some m.cls := findClass_of_methodNamed Bd.named
 have hnm := (name_of_methodNamed Bd.named Bd.method).1
 have X0 : Stand p l e ({ frames := 4, cells := 6, slots := 12, locals := 66 } : Room) (s.setVm s.vm) m #[(.int (Int32.ofNat n)), (.ref b), (.int (3 : Int32))] below meth c s₁ [] 0 0 := Stand.of_body Bd
 have e0 : s₁.heap = h0 := by rw [← hh, Bd.state]; rfl
 have N0 := Fr.nil n0
 show Goes p.tables e below _ _
 rw [ef_mk3 m n b kc c0 c1 c2 c3 G1]
 refine Goes.named ?_
 intro QQ hQQ
 have hS0 : s.Since s.vm 0 := (State.WarmedH.refl s).since 0
 have hk0 : 0 ≤ h0.size := Nat.zero_le _
 have CR0 : CHr Z EL s.vm h0 s.vm h0 := CHr.refl hCH
 by_cases hn0 : n = 0
 case pos =>
  rw [show Int32.ofNat n = (0 : Int32) from by rw [hn0]; rfl]
  show Goes _ _ _ _ (s₁.setTop (mkF m 0 #[.val (.int (0 : Int32)), .val (.ref b), .val (.int (3 : Int32))] []))
  refine Goes.st (fun sT kT => XS.iloadN X0.here hx rfl (hb hby d2_0) rfl kT) ?_
  show Goes _ _ _ _ (s₁.setTop (mkF m 1 #[.val (.int (0 : Int32)), .val (.ref b), .val (.int (3 : Int32))] [(.int (0 : Int32))]))
  refine Goes.st (fun sT kT => XS.ifNo X0.here hx rfl (hb hby d2_1) rfl ((if0 _ _).trans (flt (by decide : ¬ ((0 : Int32) < (0 : Int32)))).2.2.1) kT) ?_
  show Goes _ _ _ _ (s₁.setTop (mkF m 4 #[.val (.int (0 : Int32)), .val (.ref b), .val (.int (3 : Int32))] []))
  obtain ⟨T1, h1, X1, e1, E1, A1, D1, -, st1⟩ := newO X0 hx hZ hown (hw9 hw) (hw10 hw) (hw11 hw) e0 (g := (mkF m 4 #[.val (.int (0 : Int32)), .val (.ref b), .val (.int (3 : Int32))] [])) rfl (hb hby d2_4) (by decide) (by decide)
  obtain ⟨b1, g1⟩ : ∃ z, z = h0.size := ⟨_, rfl⟩
  rw [← g1] at A1 D1 st1
  have CR2 : CHr Z EL s.vm h0 s.vm h1 := CR0.trans (CHr.ext E1 CR0.1)
  have sf1_b1 : Safe Z EL s.vm h1 b1 := Safe.ext E1 CR0.1 (Safe.new (Nat.le_of_eq g1.symm))
  have F1_value : Fld Z h1 b1 "java/lang/String" "value" "[B" .null := D1 (Or.inr (hw24 hw)) (ty := (.array .byte)) (by decide)
  have F1_coder : Fld Z h1 b1 "java/lang/String" "coder" "B" (.int (0 : Int32)) := D1 (Or.inr (hw25 hw)) (ty := .byte) (by decide)
  refine Goes.st st1 ?_
  show Goes _ _ _ _ (T1.setTop (mkF m 7 #[.val (.int (0 : Int32)), .val (.ref b), .val (.int (3 : Int32))] [(.ref b1)]))
  refine Goes.st (fun sT kT => XS.dup X1.here hx rfl (hb hby d2_7) rfl rfl kT) ?_
  show Goes _ _ _ _ (T1.setTop (mkF m 8 #[.val (.int (0 : Int32)), .val (.ref b), .val (.int (3 : Int32))] [(.ref b1), (.ref b1)]))
  refine Goes.st (fun sT kT => XS.iconst X1.here hx rfl (hb hby d2_8) kT) ?_
  show Goes _ _ _ _ (T1.setTop (mkF m 9 #[.val (.int (0 : Int32)), .val (.ref b), .val (.int (3 : Int32))] [(.int (0 : Int32)), (.ref b1), (.ref b1)]))
  obtain ⟨T3, h3, k3, X3, e3, E3, A3, st3⟩ := newP X1 hx hZ (aty := .char) (hw1 hw) e1 (g := (mkF m 9 #[.val (.int (0 : Int32)), .val (.ref b), .val (.int (3 : Int32))] [(.int (0 : Int32)), (.ref b1), (.ref b1)])) rfl (hb hby d2_9) rfl (by decide) (cap := 0) (by decide) (by decide) (by decide) (by decide)
  obtain ⟨b3, g3⟩ : ∃ z, z = h1.size := ⟨_, rfl⟩
  rw [← g3] at A3 st3
  have CR4 : CHr Z EL s.vm h0 s.vm h3 := CR2.trans (CHr.ext E3 CR2.1)
  have sf4_b1 : Safe Z EL s.vm h3 b1 := Safe.ext E3 CR2.1 sf1_b1
  have V3 : Arv Z h3 b3 k3 .char (0 : Int32) [] (.int (0 : Int32)) := (Arv.new A3 (by decide)).pad (pad_rep [] (.int (0 : Int32)) 0)
  refine Goes.st st3 ?_
  show Goes _ _ _ _ (T3.setTop (mkF m 11 #[.val (.int (0 : Int32)), .val (.ref b), .val (.int (3 : Int32))] [(.ref b3), (.ref b1), (.ref b1)]))
  have f6 : Exa Z h3 b1 "java/lang/String" := (A1.ext E3)
  have f7 : Fld Z h3 b1 "java/lang/String" "value" "[B" .null := (F1_value.ext E3)
  have f8 : Fld Z h3 b1 "java/lang/String" "coder" "B" (.int (0 : Int32)) := (F1_coder.ext E3)
  have f9 : Old Z n0 h3 := ((P1.ext E1).ext E3)
  obtain ⟨_, _, ⟨T5, L5, k5, n5⟩, -, X5, hSr5, hgr5, ⟨Lc5, hQ5, l5, y5, z5, C5⟩, st5⟩ := X3.specialBackS hx (y := (⟨"java/lang/String", "<init>", "([C)V"⟩ : MethodName)) rfl hown (mvT hZ (hw12 hw)) (mvT hZ (hw13 hw)) (mvT hZ (hw14 hw)) (by decide) (own_backW (W := 1) (xs := [b1]) (rm_s1e l Z a0 hw [] b1 b3 k3 h3 n0 (Nat.le_trans Z0 (Nat.le_trans E1.1 E3.1)) f6 f7 f8 V3 (Nat.le_trans Z0 (Nat.le_of_eq g1.symm))) hZ (hw14 hw) (hw11 hw) (by decide) (by decide) (own_EW hw) CR4.1 (allS ⟨(Nat.lt_of_lt_of_le A1.lt E3.1), sf4_b1⟩ all0)) (g := (mkF m 11 #[.val (.int (0 : Int32)), .val (.ref b), .val (.int (3 : Int32))] [(.ref b3), (.ref b1), (.ref b1)])) rfl (by rw [hml]; rfl) (Steps.refl _) (a := b1) (argsL := [(.ref b3)]) (rest := [(.ref b1)]) (lenOf pd_17 rfl) rfl (by show 2 * 0 + _ ≤ _; exact Nat.le_of_eq rfl) (hb hby d2_11) (fun _ _ => ⟨rfl, e3, (by decide : 2 + 4 ≤ _), (by decide : 4 + 8 ≤ _)⟩)
  dsimp only [Pt.U, Pt.locs, Pt.cells, Pt.slots] at X5 l5 y5 z5 st5 hQ5 hSr5 hgr5 C5
  subst l5 y5 z5
  obtain ⟨X5, hS5, hZ5, hown5⟩ := rebS hS0 (by rw [e3]; exact (Nat.le_trans (Nat.le_trans hk0 E1.1) E3.1)) X5 hSr5 hgr5 hZ hown
  obtain ⟨t5, kb5, rfl, N5q, K5, F5_0, ne5_0⟩ := hQ5
  have N5 := Fr.app N0 N5q
  have F5_0E := F5_0.1
  have CR10 : CHr Z EL s.vm h0 T5.vm T5.heap := CR4.trans (C5)
  have sf10_b1 : Safe Z EL T5.vm T5.heap b1 := C5.safe (Nat.lt_of_lt_of_le A1.lt E3.1) sf4_b1
  refine Goes.tr st5 ?_
  show Goes _ _ _ _ (T5.setTop (mkF m 14 #[.val (.int (0 : Int32)), .val (.ref b), .val (.int (3 : Int32))] [(.ref b1)]))
  have S11 : Str Z T5.heap b1 t5 kb5 (([c0, c1, c2, c3].drop 3).take n) := by rw [show (([c0, c1, c2, c3].drop 3).take n) = [] from by rw [hn0]; rfl]; exact F5_0
  have kp12 : Keep h0 h1 [] := (Keep.refl h0 []).ext E1
  have kp13 : Keep h0 h3 [] := kp12.ext E3
  have kp14 : Keep h0 T5.heap [] := kp13.trans K5 (allS (Or.inr (Nat.le_of_eq g1.symm)) all0)
  obtain ⟨fs, hr, hrun, hended, hRW⟩ := X5.leaveW hS5 (Nat.le_refl _) (v := some (.ref b1)) (fun h => by rw [Bd.returns] at h; cases h)
  subst hQQ
  have hCR : CHr Z EL s.vm s.heap T5.vm T5.heap := by rw [hh]; exact CR10.trans (CHv.at X5 hZ5 (own_EW hw) CR10.1)
  refine ⟨_, _, retR X5 hx Bd.returns rfl rfl (hb hby d2_14) hr, hrun, hended, _, _, rfl, ?_, hCR, own_REmono hRW (by decide) (by decide)⟩
  show Q_mk3 Z n b kc c0 c1 c2 c3 G1 h0 n0 _ T5.heap _
  exact ⟨b1, t5, kb5, rfl, N5, kp14, S11, (Nat.le_of_eq g1.symm), ne5_0⟩
 case neg =>
  rw [show Int32.ofNat n = (1 : Int32) from by rw [(show n = 1 by omega)]; rfl]
  show Goes _ _ _ _ (s₁.setTop (mkF m 0 #[.val (.int (1 : Int32)), .val (.ref b), .val (.int (3 : Int32))] []))
  refine Goes.st (fun sT kT => XS.iloadN X0.here hx rfl (hb hby d2_0) rfl kT) ?_
  show Goes _ _ _ _ (s₁.setTop (mkF m 1 #[.val (.int (1 : Int32)), .val (.ref b), .val (.int (3 : Int32))] [(.int (1 : Int32))]))
  refine Goes.st (fun sT kT => XS.ifYes X0.here hx rfl (pc0 := 1) (pc' := 15) rfl (hb hby d2_1) rfl ((if0 _ _).trans (tlt (by decide : (0 : Int32) < (1 : Int32))).2.2.1) (by decide) (by decide) kT) ?_
  show Goes _ _ _ _ (s₁.setTop (mkF m 15 #[.val (.int (1 : Int32)), .val (.ref b), .val (.int (3 : Int32))] []))
  refine Goes.st (fun sT kT => XS.iloadN X0.here hx rfl (hb hby d2_15) rfl kT) ?_
  show Goes _ _ _ _ (s₁.setTop (mkF m 16 #[.val (.int (1 : Int32)), .val (.ref b), .val (.int (3 : Int32))] [(.int (1 : Int32))]))
  refine Goes.st (fun sT kT => XS.iconst X0.here hx rfl (hb hby d2_16) kT) ?_
  show Goes _ _ _ _ (s₁.setTop (mkF m 17 #[.val (.int (1 : Int32)), .val (.ref b), .val (.int (3 : Int32))] [(.int (1 : Int32)), (.int (1 : Int32))]))
  refine Goes.st (fun sT kT => XS.icmpNo X0.here hx rfl (hb hby d2_17) rfl (teq (by decide : (1 : Int32) = (1 : Int32))).2 kT) ?_
  show Goes _ _ _ _ (s₁.setTop (mkF m 20 #[.val (.int (1 : Int32)), .val (.ref b), .val (.int (3 : Int32))] []))
  obtain ⟨T15, h15, X15, e15, E15, A15, D15, -, st15⟩ := newO X0 hx hZ hown (hw9 hw) (hw10 hw) (hw11 hw) e0 (g := (mkF m 20 #[.val (.int (1 : Int32)), .val (.ref b), .val (.int (3 : Int32))] [])) rfl (hb hby d2_20) (by decide) (by decide)
  obtain ⟨b15, g15⟩ : ∃ z, z = h0.size := ⟨_, rfl⟩
  rw [← g15] at A15 D15 st15
  have CR16 : CHr Z EL s.vm h0 s.vm h15 := CR0.trans (CHr.ext E15 CR0.1)
  have sf15_b15 : Safe Z EL s.vm h15 b15 := Safe.ext E15 CR0.1 (Safe.new (Nat.le_of_eq g15.symm))
  have F15_value : Fld Z h15 b15 "java/lang/String" "value" "[B" .null := D15 (Or.inr (hw24 hw)) (ty := (.array .byte)) (by decide)
  have F15_coder : Fld Z h15 b15 "java/lang/String" "coder" "B" (.int (0 : Int32)) := D15 (Or.inr (hw25 hw)) (ty := .byte) (by decide)
  refine Goes.st st15 ?_
  show Goes _ _ _ _ (T15.setTop (mkF m 23 #[.val (.int (1 : Int32)), .val (.ref b), .val (.int (3 : Int32))] [(.ref b15)]))
  refine Goes.st (fun sT kT => XS.dup X15.here hx rfl (hb hby d2_23) rfl rfl kT) ?_
  show Goes _ _ _ _ (T15.setTop (mkF m 24 #[.val (.int (1 : Int32)), .val (.ref b), .val (.int (3 : Int32))] [(.ref b15), (.ref b15)]))
  refine Goes.st (fun sT kT => XS.iconst X15.here hx rfl (hb hby d2_24) kT) ?_
  show Goes _ _ _ _ (T15.setTop (mkF m 25 #[.val (.int (1 : Int32)), .val (.ref b), .val (.int (3 : Int32))] [(.int (1 : Int32)), (.ref b15), (.ref b15)]))
  obtain ⟨T17, h17, k17, X17, e17, E17, A17, st17⟩ := newP X15 hx hZ (aty := .char) (hw1 hw) e15 (g := (mkF m 25 #[.val (.int (1 : Int32)), .val (.ref b), .val (.int (3 : Int32))] [(.int (1 : Int32)), (.ref b15), (.ref b15)])) rfl (hb hby d2_25) rfl (by decide) (cap := 1) (by decide) (by decide) (by decide) (by decide)
  obtain ⟨b17, g17⟩ : ∃ z, z = h15.size := ⟨_, rfl⟩
  rw [← g17] at A17 st17
  have CR18 : CHr Z EL s.vm h0 s.vm h17 := CR16.trans (CHr.ext E17 CR16.1)
  have sf18_b15 : Safe Z EL s.vm h17 b15 := Safe.ext E17 CR16.1 sf15_b15
  have V17 : Arv Z h17 b17 k17 .char (1 : Int32) [(.int (0 : Int32))] (.int (0 : Int32)) := (Arv.new A17 (by decide)).pad (pad_rep [] (.int (0 : Int32)) 1)
  refine Goes.st st17 ?_
  show Goes _ _ _ _ (T17.setTop (mkF m 27 #[.val (.int (1 : Int32)), .val (.ref b), .val (.int (3 : Int32))] [(.ref b17), (.ref b15), (.ref b15)]))
  refine Goes.st (fun sT kT => XS.dup X17.here hx rfl (hb hby d2_27) rfl rfl kT) ?_
  show Goes _ _ _ _ (T17.setTop (mkF m 28 #[.val (.int (1 : Int32)), .val (.ref b), .val (.int (3 : Int32))] [(.ref b17), (.ref b17), (.ref b15), (.ref b15)]))
  refine Goes.st (fun sT kT => XS.iconst X17.here hx rfl (hb hby d2_28) kT) ?_
  show Goes _ _ _ _ (T17.setTop (mkF m 29 #[.val (.int (1 : Int32)), .val (.ref b), .val (.int (3 : Int32))] [(.int (0 : Int32)), (.ref b17), (.ref b17), (.ref b15), (.ref b15)]))
  refine Goes.st (fun sT kT => XS.aloadN X17.here hx rfl (hb hby d2_29) rfl rfl kT) ?_
  show Goes _ _ _ _ (T17.setTop (mkF m 30 #[.val (.int (1 : Int32)), .val (.ref b), .val (.int (3 : Int32))] [(.ref b), (.int (0 : Int32)), (.ref b17), (.ref b17), (.ref b15), (.ref b15)]))
  refine Goes.st (fun sT kT => XS.iloadN X17.here hx rfl (hb hby d2_30) rfl kT) ?_
  show Goes _ _ _ _ (T17.setTop (mkF m 31 #[.val (.int (1 : Int32)), .val (.ref b), .val (.int (3 : Int32))] [(.int (3 : Int32)), (.ref b), (.int (0 : Int32)), (.ref b17), (.ref b17), (.ref b15), (.ref b15)]))
  have f19 : Arv Z h17 b kc .char (4 : Int32) [(.int c0), (.int c1), (.int c2), (.int c3)] (.int (0 : Int32)) := ((P0.ext E15).ext E17)
  obtain ⟨oc20, oA20, oq20, oS20, oM20, oH20, oG20⟩ := id f19
  refine Goes.st (fun sT kT => X17.caload hx (j := (3 : Int32)) (v := (.int c3)) (by rw [e17]; exact oA20.1) (State.isArrayOf_alike hZ.alike oA20.2.1) oA20.2.2 (inb_of oS20 ⟨by decide, by decide⟩) (oH20.at (inb_of oS20 ⟨by decide, by decide⟩) rfl) (g := (mkF m 31 #[.val (.int (1 : Int32)), .val (.ref b), .val (.int (3 : Int32))] [(.int (3 : Int32)), (.ref b), (.int (0 : Int32)), (.ref b17), (.ref b17), (.ref b15), (.ref b15)])) rfl rfl (hb hby d2_31) _ kT) ?_
  show Goes _ _ _ _ (T17.setTop (mkF m 32 #[.val (.int (1 : Int32)), .val (.ref b), .val (.int (3 : Int32))] [(.int c3), (.int (0 : Int32)), (.ref b17), (.ref b17), (.ref b15), (.ref b15)]))
  obtain ⟨oc21, oA21, oq21, oS21, oM21, oH21, oG21⟩ := id V17
  obtain ⟨T22, h22, X22, e22, W22, st22⟩ := stC X17 hx hZ e17 oA21 (j := (0 : Int32)) (inb_of oS21 ⟨by decide, by decide⟩) (g := (mkF m 32 #[.val (.int (1 : Int32)), .val (.ref b), .val (.int (3 : Int32))] [(.int c3), (.int (0 : Int32)), (.ref b17), (.ref b17), (.ref b15), (.ref b15)])) rfl rfl (hb hby d2_32)
  rw [own_narc rg_c3] at W22
  have V22 : Arv Z h22 b17 k17 .char (1 : Int32) [(.int c3)] (.int (0 : Int32)) := Arv.set oA21 oq21 oS21 oM21 oH21 oG21 (own_fitsc rg_c3) W22 0 rfl (Nat.le_of_ble_eq_true rfl)
  have N22 := Fr.snoc X22 N0 (Nat.le_trans Z0 (Nat.le_trans E15.1 (Nat.le_of_eq g17.symm)))
  have CR23 : CHr Z EL s.vm h0 s.vm h22 := CR18.trans (CHr.wr W22 (own_safeArv hZ.alike V17 (by simp)) CR18.1)
  have sf23_b15 : Safe Z EL s.vm h22 b15 := Safe.wr W22 (own_safeArv hZ.alike V17 (by simp)) CR18.1 sf18_b15
  refine Goes.st st22 ?_
  show Goes _ _ _ _ (T22.setTop (mkF m 33 #[.val (.int (1 : Int32)), .val (.ref b), .val (.int (3 : Int32))] [(.ref b17), (.ref b15), (.ref b15)]))
  have f25 : Exa Z h22 b15 "java/lang/String" := ((A15.ext E17).wr W22)
  have f26 : Fld Z h22 b15 "java/lang/String" "value" "[B" .null := ((F15_value.ext E17).other W22 (Or.inl (Nat.ne_of_lt (Nat.lt_of_lt_of_le A15.lt (Nat.le_of_eq g17.symm)))))
  have f27 : Fld Z h22 b15 "java/lang/String" "coder" "B" (.int (0 : Int32)) := ((F15_coder.ext E17).other W22 (Or.inl (Nat.ne_of_lt (Nat.lt_of_lt_of_le A15.lt (Nat.le_of_eq g17.symm)))))
  have f28 : Old Z n0 h22 := (((P1.ext E15).ext E17).wr W22 (Nat.le_trans Z0 (Nat.le_trans E15.1 (Nat.le_of_eq g17.symm))))
  have hp29 : ∀ c ∈ ([c3] : List Int32), ¬ c < 0 ∧ ¬ (255 : Int32) < c := (own_cS rg_c3 own_c0)
  obtain ⟨_, _, ⟨T24, L24, k24, n24⟩, -, X24, ⟨Lc24, hQ24, l24, y24, z24⟩, st24⟩ := X22.specialBack hx (y := (⟨"java/lang/String", "<init>", "([C)V"⟩ : MethodName)) rfl hown (mvT hZ (hw12 hw)) (mvT hZ (hw13 hw)) (mvT hZ (hw14 hw)) (by decide) (StrChars.Road.backV (W := 1) hZ (own_hws hw) (kI := 4) (hw10 hw) (cs := ([c3] : List Int32)) (bs := ([c3] : List Int32).map (fun c => c.toInt8.toInt32)) (n := 1) (Nat.le_trans Z0 (Nat.le_of_eq g15.symm)) (Nat.le_trans Z0 (Nat.le_trans (Nat.le_trans E15.1 E17.1) (Nat.le_of_eq W22.size.symm))) f25 f26 f27 V22 (O2.ext f28.2) P5 rfl rfl (by decide) (by decide) hp29 rfl (by decide) (by decide)) (g := (mkF m 33 #[.val (.int (1 : Int32)), .val (.ref b), .val (.int (3 : Int32))] [(.ref b17), (.ref b15), (.ref b15)])) rfl (by rw [hml]; rfl) (Steps.refl _) (a := b15) (argsL := [(.ref b17)]) (rest := [(.ref b15)]) (lenOf pd_17 rfl) rfl (by show 2 * 0 + _ ≤ _; exact Nat.le_of_eq rfl) (hb hby d2_33) (fun _ _ => ⟨rfl, e22, (by decide : 2 + 1 ≤ _), (by decide : 5 + 1 ≤ _)⟩)
  dsimp only [Pt.U, Pt.locs, Pt.cells, Pt.slots] at X24 l24 y24 z24 st24 hQ24
  subst l24 y24 z24
  obtain ⟨rfl, N24q, K24, Ex24, Cd24, t24, kb24, lz24, lo24, tn24, Vf24, Av24⟩ := hQ24
  have N24 := Fr.app N22 N24q
  have S24 : Str Z T24.heap b15 t24 kb24 [c3] := ⟨Ex24, Vf24, Cd24, Av24, hp29, Nat.le_of_ble_eq_true rfl⟩
  have hs30 : ∀ x ∈ ([b15] : List Addr), Safe Z EL s.vm h22 x := (allS sf23_b15 all0)
  have CR30 : CHr Z EL s.vm h0 s.vm T24.heap := CR23.trans (CHr.keep K24 hs30 CR23.1)
  have sf30_b15 : Safe Z EL s.vm T24.heap b15 := Safe.keep K24 hs30 CR23.1 sf23_b15
  refine Goes.tr st24 ?_
  show Goes _ _ _ _ (T24.setTop (mkF m 36 #[.val (.int (1 : Int32)), .val (.ref b), .val (.int (3 : Int32))] [(.ref b15)]))
  have S31 : Str Z T24.heap b15 t24 kb24 (([c0, c1, c2, c3].drop 3).take n) := by rw [show (([c0, c1, c2, c3].drop 3).take n) = [c3] from by rw [(show n = 1 by omega)]; rfl]; exact S24
  have kp32 : Keep h0 h15 [] := (Keep.refl h0 []).ext E15
  have kp33 : Keep h0 h17 [] := kp32.ext E17
  have kp34 : Keep h0 h22 [] := kp33.wr W22 (Or.inr (Nat.le_trans E15.1 (Nat.le_of_eq g17.symm)))
  have kp35 : Keep h0 T24.heap [] := kp34.trans K24 (allS (Or.inr (Nat.le_of_eq g15.symm)) all0)
  obtain ⟨fs, hr, hrun, hended, hRW⟩ := X24.leaveW hS0 (Nat.le_trans (Nat.le_trans (Nat.le_trans (Nat.le_trans hk0 E15.1) E17.1) (Nat.le_of_eq W22.size.symm)) K24.1) (v := some (.ref b15)) (fun h => by rw [Bd.returns] at h; cases h)
  subst hQQ
  have hCR : CHr Z EL s.vm s.heap T24.vm T24.heap := by rw [hh]; exact CR30.trans (CHv.at X24 hZ (own_EW hw) CR30.1)
  refine ⟨_, _, retR X24 hx Bd.returns rfl rfl (hb hby d2_36) hr, hrun, hended, _, _, rfl, ?_, hCR, own_REmono hRW (by decide) (by decide)⟩
  show Q_mk3 Z n b kc c0 c1 c2 c3 G1 h0 n0 _ T24.heap _
  exact ⟨b15, t24, kb24, rfl, N24, kp35, S31, (Nat.le_of_eq g15.symm), (Ne.symm tn24)⟩
theorem ef_mk4 (m : MethodId) (n : Nat) (b : Addr) (kc : ClassId) (c0 : Int32) (c1 : Int32) (c2 : Int32) (c3 : Int32) (G1 : Int32) : entryFrame m #[(.int (Int32.ofNat n)), (.ref b), (.int (4 : Int32))] 3 = (mkF m 0 #[.val (.int (Int32.ofNat n)), .val (.ref b), .val (.int (4 : Int32))] []) := by first | (simp [entryFrame, mkF, argsToLocals, Value.category]; done) | rfl
def Q_mk4 (Z : State) (n : Nat) (b : Addr) (kc : ClassId) (c0 : Int32) (c1 : Int32) (c2 : Int32) (c3 : Int32) (G1 : Int32) (h0 : Heap) (n0 : Nat) (v : Option Value) (h : Heap) (L : List Loc) : Prop := ∃ (r : Addr) (t : Addr) (kb : ClassId), v = some (.ref r) ∧ Fr n0 L ∧ Keep h0 h [] ∧ Str Z h r t kb (([c0, c1, c2, c3].drop 4).take n) ∧ h0.size ≤ r ∧ r ≠ t
set_option maxRecDepth 65536 in
set_option maxHeartbeats 40000000 in
theorem rm_mk4 (l : Launch) (Z : State) (a0 : Array Value) (hw : ∀ d ∈ tables_1, d.before a0 Z = true) (ws : List Jvm.Cond) (n : Nat) (b : Addr) (kc : ClassId) (c0 : Int32) (c1 : Int32) (c2 : Int32) (c3 : Int32) (G1 : Int32) (h0 : Heap) (n0 : Nat) (Z0 : n0 ≤ h0.size) (P0 : Arv Z h0 b kc .char (4 : Int32) [(.int c0), (.int c1), (.int c2), (.int c3)] (.int (0 : Int32))) (P1 : Old Z n0 h0) (O2 : Sta Z Z.heap "java/lang/String" "COMPACT_STRINGS" "Z" (.int G1)) (P5 : ¬ (G1 = (0 : Int32))) (hn : n ≤ 0) (rg_c0 : ¬ c0 < 0 ∧ ¬ (255 : Int32) < c0) (rg_c1 : ¬ c1 < 0 ∧ ¬ (255 : Int32) < c1) (rg_c2 : ¬ c2 < 0 ∧ ¬ (255 : Int32) < c2) (rg_c3 : ¬ c3 < 0 ∧ ¬ (255 : Int32) < c3) :
    MetFree l (⟨"com/example/bolter/bolter/service/ParameterNameOfPinLaw", "mk", "(I[CI)Ljava/lang/String;"⟩ : MethodName) (head1 (Jvm.Cond.code (⟨"com/example/bolter/bolter/service/ParameterNameOfPinLaw", "mk", "(I[CI)Ljava/lang/String;"⟩ : MethodName) method_3_code 3 (some (.object "java/lang/String")) :: ws) ({ frames := 4, cells := 6, slots := 12, locals := 66 } : Room)) (fun aR U => aR = #[(.int (Int32.ofNat n)), (.ref b), (.int (4 : Int32))] ∧ Z.Warmed39 U.vm ∧ U.heap = h0 ∧ CHv Z EL U.vm h0 ∧ ∀ x ∈ ([] : List Addr), Safe Z EL U.vm h0 x) (fun _ _ _ _ _ => True) (fun _ U o U' => ∃ v L, o = .returned v ∧ Q_mk4 Z n b kc c0 c1 c2 c3 G1 h0 n0 v U'.heap L ∧ CHr Z EL U.vm U.heap U'.vm U'.heap ∧ ReturnedEndW U o U' L ({ frames := 4, cells := 6, slots := 12, locals := 66 } : Room).cells ({ frames := 4, cells := 6, slots := 12, locals := 66 } : Room).slots) := by
 refine MetFree.of_bodySF (plainFor_of_name pn_8) hisR ?_
 intro p e s m args below meth c s₁ Bd hml0 hP hK
 obtain ⟨rfl, hZ, hh, hCH, hSF⟩ := hP
 have hx := Bd.exec
 have hby := Bd.bytes
 have hml : c.maxLocals = 3 := hml0
 have hown : s.vm.findClass "com/example/bolter/bolter/service/ParameterNameOfPinLaw" = some m.cls := findClass_of_methodNamed Bd.named
 have hnm := (name_of_methodNamed Bd.named Bd.method).1
 have X0 : Stand p l e ({ frames := 4, cells := 6, slots := 12, locals := 66 } : Room) (s.setVm s.vm) m #[(.int (Int32.ofNat n)), (.ref b), (.int (4 : Int32))] below meth c s₁ [] 0 0 := Stand.of_body Bd
 have e0 : s₁.heap = h0 := by rw [← hh, Bd.state]; rfl
 have N0 := Fr.nil n0
 show Goes p.tables e below _ _
 rw [ef_mk4 m n b kc c0 c1 c2 c3 G1]
 refine Goes.named ?_
 intro QQ hQQ
 have hS0 : s.Since s.vm 0 := (State.WarmedH.refl s).since 0
 have hk0 : 0 ≤ h0.size := Nat.zero_le _
 have CR0 : CHr Z EL s.vm h0 s.vm h0 := CHr.refl hCH
 rw [show Int32.ofNat n = (0 : Int32) from by rw [(show n = 0 by omega)]; rfl]
 show Goes _ _ _ _ (s₁.setTop (mkF m 0 #[.val (.int (0 : Int32)), .val (.ref b), .val (.int (4 : Int32))] []))
 refine Goes.st (fun sT kT => XS.iloadN X0.here hx rfl (hb hby d2_0) rfl kT) ?_
 show Goes _ _ _ _ (s₁.setTop (mkF m 1 #[.val (.int (0 : Int32)), .val (.ref b), .val (.int (4 : Int32))] [(.int (0 : Int32))]))
 refine Goes.st (fun sT kT => XS.ifNo X0.here hx rfl (hb hby d2_1) rfl ((if0 _ _).trans (flt (by decide : ¬ ((0 : Int32) < (0 : Int32)))).2.2.1) kT) ?_
 show Goes _ _ _ _ (s₁.setTop (mkF m 4 #[.val (.int (0 : Int32)), .val (.ref b), .val (.int (4 : Int32))] []))
 obtain ⟨T1, h1, X1, e1, E1, A1, D1, -, st1⟩ := newO X0 hx hZ hown (hw9 hw) (hw10 hw) (hw11 hw) e0 (g := (mkF m 4 #[.val (.int (0 : Int32)), .val (.ref b), .val (.int (4 : Int32))] [])) rfl (hb hby d2_4) (by decide) (by decide)
 obtain ⟨b1, g1⟩ : ∃ z, z = h0.size := ⟨_, rfl⟩
 rw [← g1] at A1 D1 st1
 have CR2 : CHr Z EL s.vm h0 s.vm h1 := CR0.trans (CHr.ext E1 CR0.1)
 have sf1_b1 : Safe Z EL s.vm h1 b1 := Safe.ext E1 CR0.1 (Safe.new (Nat.le_of_eq g1.symm))
 have F1_value : Fld Z h1 b1 "java/lang/String" "value" "[B" .null := D1 (Or.inr (hw24 hw)) (ty := (.array .byte)) (by decide)
 have F1_coder : Fld Z h1 b1 "java/lang/String" "coder" "B" (.int (0 : Int32)) := D1 (Or.inr (hw25 hw)) (ty := .byte) (by decide)
 refine Goes.st st1 ?_
 show Goes _ _ _ _ (T1.setTop (mkF m 7 #[.val (.int (0 : Int32)), .val (.ref b), .val (.int (4 : Int32))] [(.ref b1)]))
 refine Goes.st (fun sT kT => XS.dup X1.here hx rfl (hb hby d2_7) rfl rfl kT) ?_
 show Goes _ _ _ _ (T1.setTop (mkF m 8 #[.val (.int (0 : Int32)), .val (.ref b), .val (.int (4 : Int32))] [(.ref b1), (.ref b1)]))
 refine Goes.st (fun sT kT => XS.iconst X1.here hx rfl (hb hby d2_8) kT) ?_
 show Goes _ _ _ _ (T1.setTop (mkF m 9 #[.val (.int (0 : Int32)), .val (.ref b), .val (.int (4 : Int32))] [(.int (0 : Int32)), (.ref b1), (.ref b1)]))
 obtain ⟨T3, h3, k3, X3, e3, E3, A3, st3⟩ := newP X1 hx hZ (aty := .char) (hw1 hw) e1 (g := (mkF m 9 #[.val (.int (0 : Int32)), .val (.ref b), .val (.int (4 : Int32))] [(.int (0 : Int32)), (.ref b1), (.ref b1)])) rfl (hb hby d2_9) rfl (by decide) (cap := 0) (by decide) (by decide) (by decide) (by decide)
 obtain ⟨b3, g3⟩ : ∃ z, z = h1.size := ⟨_, rfl⟩
 rw [← g3] at A3 st3
 have CR4 : CHr Z EL s.vm h0 s.vm h3 := CR2.trans (CHr.ext E3 CR2.1)
 have sf4_b1 : Safe Z EL s.vm h3 b1 := Safe.ext E3 CR2.1 sf1_b1
 have V3 : Arv Z h3 b3 k3 .char (0 : Int32) [] (.int (0 : Int32)) := (Arv.new A3 (by decide)).pad (pad_rep [] (.int (0 : Int32)) 0)
 refine Goes.st st3 ?_
 show Goes _ _ _ _ (T3.setTop (mkF m 11 #[.val (.int (0 : Int32)), .val (.ref b), .val (.int (4 : Int32))] [(.ref b3), (.ref b1), (.ref b1)]))
 have f6 : Exa Z h3 b1 "java/lang/String" := (A1.ext E3)
 have f7 : Fld Z h3 b1 "java/lang/String" "value" "[B" .null := (F1_value.ext E3)
 have f8 : Fld Z h3 b1 "java/lang/String" "coder" "B" (.int (0 : Int32)) := (F1_coder.ext E3)
 have f9 : Old Z n0 h3 := ((P1.ext E1).ext E3)
 obtain ⟨_, _, ⟨T5, L5, k5, n5⟩, -, X5, hSr5, hgr5, ⟨Lc5, hQ5, l5, y5, z5, C5⟩, st5⟩ := X3.specialBackS hx (y := (⟨"java/lang/String", "<init>", "([C)V"⟩ : MethodName)) rfl hown (mvT hZ (hw12 hw)) (mvT hZ (hw13 hw)) (mvT hZ (hw14 hw)) (by decide) (own_backW (W := 1) (xs := [b1]) (rm_s1e l Z a0 hw [] b1 b3 k3 h3 n0 (Nat.le_trans Z0 (Nat.le_trans E1.1 E3.1)) f6 f7 f8 V3 (Nat.le_trans Z0 (Nat.le_of_eq g1.symm))) hZ (hw14 hw) (hw11 hw) (by decide) (by decide) (own_EW hw) CR4.1 (allS ⟨(Nat.lt_of_lt_of_le A1.lt E3.1), sf4_b1⟩ all0)) (g := (mkF m 11 #[.val (.int (0 : Int32)), .val (.ref b), .val (.int (4 : Int32))] [(.ref b3), (.ref b1), (.ref b1)])) rfl (by rw [hml]; rfl) (Steps.refl _) (a := b1) (argsL := [(.ref b3)]) (rest := [(.ref b1)]) (lenOf pd_17 rfl) rfl (by show 2 * 0 + _ ≤ _; exact Nat.le_of_eq rfl) (hb hby d2_11) (fun _ _ => ⟨rfl, e3, (by decide : 2 + 4 ≤ _), (by decide : 4 + 8 ≤ _)⟩)
 dsimp only [Pt.U, Pt.locs, Pt.cells, Pt.slots] at X5 l5 y5 z5 st5 hQ5 hSr5 hgr5 C5
 subst l5 y5 z5
 obtain ⟨X5, hS5, hZ5, hown5⟩ := rebS hS0 (by rw [e3]; exact (Nat.le_trans (Nat.le_trans hk0 E1.1) E3.1)) X5 hSr5 hgr5 hZ hown
 obtain ⟨t5, kb5, rfl, N5q, K5, F5_0, ne5_0⟩ := hQ5
 have N5 := Fr.app N0 N5q
 have F5_0E := F5_0.1
 have CR10 : CHr Z EL s.vm h0 T5.vm T5.heap := CR4.trans (C5)
 have sf10_b1 : Safe Z EL T5.vm T5.heap b1 := C5.safe (Nat.lt_of_lt_of_le A1.lt E3.1) sf4_b1
 refine Goes.tr st5 ?_
 show Goes _ _ _ _ (T5.setTop (mkF m 14 #[.val (.int (0 : Int32)), .val (.ref b), .val (.int (4 : Int32))] [(.ref b1)]))
 have S11 : Str Z T5.heap b1 t5 kb5 (([c0, c1, c2, c3].drop 4).take n) := by rw [show (([c0, c1, c2, c3].drop 4).take n) = [] from by rw [(show n = 0 by omega)]; rfl]; exact F5_0
 have kp12 : Keep h0 h1 [] := (Keep.refl h0 []).ext E1
 have kp13 : Keep h0 h3 [] := kp12.ext E3
 have kp14 : Keep h0 T5.heap [] := kp13.trans K5 (allS (Or.inr (Nat.le_of_eq g1.symm)) all0)
 obtain ⟨fs, hr, hrun, hended, hRW⟩ := X5.leaveW hS5 (Nat.le_refl _) (v := some (.ref b1)) (fun h => by rw [Bd.returns] at h; cases h)
 subst hQQ
 have hCR : CHr Z EL s.vm s.heap T5.vm T5.heap := by rw [hh]; exact CR10.trans (CHv.at X5 hZ5 (own_EW hw) CR10.1)
 refine ⟨_, _, retR X5 hx Bd.returns rfl rfl (hb hby d2_14) hr, hrun, hended, _, _, rfl, ?_, hCR, own_REmono hRW (by decide) (by decide)⟩
 show Q_mk4 Z n b kc c0 c1 c2 c3 G1 h0 n0 _ T5.heap _
 exact ⟨b1, t5, kb5, rfl, N5, kp14, S11, (Nat.le_of_eq g1.symm), ne5_0⟩
theorem ef_law (m : MethodId) (p0 : Int32) (p1 : Int32) (p2 : Int32) (p3 : Int32) (p4 : Int32) (G1 : Int32) (vF : Value) : entryFrame m #[(.int p0), (.int p1), (.int p2), (.int p3), (.int p4)] maxLocals = (mkF m 0 #[.val (.int p0), .val (.int p1), .val (.int p2), .val (.int p3), .val (.int p4), uS, uS, uS, uS, uS, uS, uS] []) := by first | (simp [entryFrame, mkF, argsToLocals, Value.category, maxLocals]; done) | rfl
def Q_law (Z : State) (p0 : Int32) (p1 : Int32) (p2 : Int32) (p3 : Int32) (p4 : Int32) (G1 : Int32) (vF : Value) (h0 : Heap) (n0 : Nat) (v : Option Value) (h : Heap) (L : List Loc) : Prop := v = some (.int (1 : Int32)) ∧ Fr n0 L
set_option maxRecDepth 65536 in
set_option maxHeartbeats 40000000 in
theorem rm_law (l : Launch) (Z : State) (a0 : Array Value) (hw : ∀ d ∈ tables_1, d.before a0 Z = true) (ws : List Jvm.Cond) (p0 : Int32) (p1 : Int32) (p2 : Int32) (p3 : Int32) (p4 : Int32) (G1 : Int32) (vF : Value) (h0 : Heap) (n0 : Nat) (Z0 : n0 ≤ h0.size) (P0 : Old Z n0 h0) (O2 : Sta Z Z.heap "java/lang/String" "COMPACT_STRINGS" "Z" (.int G1)) (P5 : ¬ (G1 = (0 : Int32))) (OF : Sta Z Z.heap "jdk/internal/util/Preconditions" "SIOOBE_FORMATTER" "Ljava/util/function/BiFunction;" vF) (rF : vF.isRef = true) :
    MetFree l x (head1 (Jvm.Cond.code x code maxLocals ret :: ws) room_1) (fun aR U => aR = #[(.int p0), (.int p1), (.int p2), (.int p3), (.int p4)] ∧ Z.Warmed39 U.vm ∧ U.heap = h0 ∧ CHv Z EL U.vm h0 ∧ ∀ x ∈ ([] : List Addr), Safe Z EL U.vm h0 x) (fun _ _ _ _ _ => True) (fun _ U o U' => ∃ v L, o = .returned v ∧ Q_law Z p0 p1 p2 p3 p4 G1 vF h0 n0 v U'.heap L ∧ CHr Z EL U.vm U.heap U'.vm U'.heap ∧ ReturnedEndW U o U' L room_1.cells room_1.slots) := by
 refine MetFree.of_bodySF (plainFor_of_name pn_8) hisR ?_
 intro p e s m args below meth c s₁ Bd hml0 hP hK
 obtain ⟨rfl, hZ, hh, hCH, hSF⟩ := hP
 have hx := Bd.exec
 have hby := Bd.bytes
 have hml : c.maxLocals = 12 := hml0
 have hown : s.vm.findClass "com/example/bolter/bolter/service/ParameterNameOfPinLaw" = some m.cls := findClass_of_methodNamed Bd.named
 have hnm := (name_of_methodNamed Bd.named Bd.method).1
 have X0 : Stand p l e room_1 (s.setVm s.vm) m #[(.int p0), (.int p1), (.int p2), (.int p3), (.int p4)] below meth c s₁ [] 0 0 := Stand.of_body Bd
 have e0 : s₁.heap = h0 := by rw [← hh, Bd.state]; rfl
 have N0 := Fr.nil n0
 show Goes p.tables e below _ _
 rw [ef_law m p0 p1 p2 p3 p4 G1 vF]
 refine Goes.named ?_
 intro QQ hQQ
 have hS0 : s.Since s.vm 0 := (State.WarmedH.refl s).since 0
 have hk0 : 0 ≤ h0.size := Nat.zero_le _
 have CR0 : CHr Z EL s.vm h0 s.vm h0 := CHr.refl hCH
 refine Goes.st (fun sT kT => XS.iloadN X0.here hx rfl (hb hby at_0) rfl kT) ?_
 show Goes _ _ _ _ (s₁.setTop (mkF m 1 #[.val (.int p0), .val (.int p1), .val (.int p2), .val (.int p3), .val (.int p4), uS, uS, uS, uS, uS, uS, uS] [(.int p0)]))
 refine Goes.st (fun sT kT => X0.ldcInt hx hown (mvT hZ (hw0 hw)) (g := (mkF m 1 #[.val (.int p0), .val (.int p1), .val (.int p2), .val (.int p3), .val (.int p4), uS, uS, uS, uS, uS, uS, uS] [(.int p0)])) rfl (hb hby at_1) _ kT) ?_
 show Goes _ _ _ _ (s₁.setTop (mkF m 3 #[.val (.int p0), .val (.int p1), .val (.int p2), .val (.int p3), .val (.int p4), uS, uS, uS, uS, uS, uS, uS] [(.int (2147483647 : Int32)), (.int p0)]))
 refine Goes.st (fun sT kT => XS.iand X0.here hx rfl (hb hby at_3) rfl kT) ?_
 show Goes _ _ _ _ (s₁.setTop (mkF m 4 #[.val (.int p0), .val (.int p1), .val (.int p2), .val (.int p3), .val (.int p4), uS, uS, uS, uS, uS, uS, uS] [(.int (p0 &&& (2147483647 : Int32)))]))
 refine Goes.st (fun sT kT => XS.iconst X0.here hx rfl (hb hby at_4) kT) ?_
 show Goes _ _ _ _ (s₁.setTop (mkF m 5 #[.val (.int p0), .val (.int p1), .val (.int p2), .val (.int p3), .val (.int p4), uS, uS, uS, uS, uS, uS, uS] [(.int (5 : Int32)), (.int (p0 &&& (2147483647 : Int32)))]))
 refine Goes.st (fun sT kT => iremM (g := (mkF m 5 #[.val (.int p0), .val (.int p1), .val (.int p2), .val (.int p3), .val (.int p4), uS, uS, uS, uS, uS, uS, uS] [(.int (5 : Int32)), (.int (p0 &&& (2147483647 : Int32)))])) X0 hx rfl (hb hby at_5) rfl (by decide) kT) ?_
 show Goes _ _ _ _ (s₁.setTop (mkF m 6 #[.val (.int p0), .val (.int p1), .val (.int p2), .val (.int p3), .val (.int p4), uS, uS, uS, uS, uS, uS, uS] [(.int ((p0 &&& (2147483647 : Int32)) % (5 : Int32)))]))
 obtain ⟨n, hn, hn'⟩ := own_rem5 p0
 rw [hn']
 show Goes _ _ _ _ (s₁.setTop (mkF m 6 #[.val (.int p0), .val (.int p1), .val (.int p2), .val (.int p3), .val (.int p4), uS, uS, uS, uS, uS, uS, uS] [(.int (Int32.ofNat n))]))
 refine Goes.st (fun sT kT => XS.istore X0.here hx rfl (hb hby at_6) rfl (l' := #[.val (.int p0), .val (.int p1), .val (.int p2), .val (.int p3), .val (.int p4), .val (.int (Int32.ofNat n)), uS, uS, uS, uS, uS, uS]) rfl kT) ?_
 show Goes _ _ _ _ (s₁.setTop (mkF m 8 #[.val (.int p0), .val (.int p1), .val (.int p2), .val (.int p3), .val (.int p4), .val (.int (Int32.ofNat n)), uS, uS, uS, uS, uS, uS] []))
 refine Goes.st (fun sT kT => XS.iconst X0.here hx rfl (hb hby at_8) kT) ?_
 show Goes _ _ _ _ (s₁.setTop (mkF m 9 #[.val (.int p0), .val (.int p1), .val (.int p2), .val (.int p3), .val (.int p4), .val (.int (Int32.ofNat n)), uS, uS, uS, uS, uS, uS] [(.int (4 : Int32))]))
 obtain ⟨T1, h1, k1, X1, e1, E1, A1, st1⟩ := newP X0 hx hZ (aty := .char) (hw1 hw) e0 (g := (mkF m 9 #[.val (.int p0), .val (.int p1), .val (.int p2), .val (.int p3), .val (.int p4), .val (.int (Int32.ofNat n)), uS, uS, uS, uS, uS, uS] [(.int (4 : Int32))])) rfl (hb hby at_9) rfl (by decide) (cap := 4) (by decide) (by decide) (by decide) (by decide)
 obtain ⟨b1, g1⟩ : ∃ z, z = h0.size := ⟨_, rfl⟩
 rw [← g1] at A1 st1
 have CR2 : CHr Z EL s.vm h0 s.vm h1 := CR0.trans (CHr.ext E1 CR0.1)
 have V1 : Arv Z h1 b1 k1 .char (4 : Int32) [(.int (0 : Int32)), (.int (0 : Int32)), (.int (0 : Int32)), (.int (0 : Int32))] (.int (0 : Int32)) := (Arv.new A1 (by decide)).pad (pad_rep [] (.int (0 : Int32)) 4)
 refine Goes.st st1 ?_
 show Goes _ _ _ _ (T1.setTop (mkF m 11 #[.val (.int p0), .val (.int p1), .val (.int p2), .val (.int p3), .val (.int p4), .val (.int (Int32.ofNat n)), uS, uS, uS, uS, uS, uS] [(.ref b1)]))
 refine Goes.st (fun sT kT => XS.astore X1.here hx rfl (hb hby at_11) rfl rfl (l' := #[.val (.int p0), .val (.int p1), .val (.int p2), .val (.int p3), .val (.int p4), .val (.int (Int32.ofNat n)), .val (.ref b1), uS, uS, uS, uS, uS]) rfl kT) ?_
 show Goes _ _ _ _ (T1.setTop (mkF m 13 #[.val (.int p0), .val (.int p1), .val (.int p2), .val (.int p3), .val (.int p4), .val (.int (Int32.ofNat n)), .val (.ref b1), uS, uS, uS, uS, uS] []))
 refine Goes.st (fun sT kT => XS.aload X1.here hx rfl (hb hby at_13) rfl rfl kT) ?_
 show Goes _ _ _ _ (T1.setTop (mkF m 15 #[.val (.int p0), .val (.int p1), .val (.int p2), .val (.int p3), .val (.int p4), .val (.int (Int32.ofNat n)), .val (.ref b1), uS, uS, uS, uS, uS] [(.ref b1)]))
 refine Goes.st (fun sT kT => XS.iconst X1.here hx rfl (hb hby at_15) kT) ?_
 show Goes _ _ _ _ (T1.setTop (mkF m 16 #[.val (.int p0), .val (.int p1), .val (.int p2), .val (.int p3), .val (.int p4), .val (.int (Int32.ofNat n)), .val (.ref b1), uS, uS, uS, uS, uS] [(.int (0 : Int32)), (.ref b1)]))
 refine Goes.st (fun sT kT => XS.iloadN X1.here hx rfl (hb hby at_16) rfl kT) ?_
 show Goes _ _ _ _ (T1.setTop (mkF m 17 #[.val (.int p0), .val (.int p1), .val (.int p2), .val (.int p3), .val (.int p4), .val (.int (Int32.ofNat n)), .val (.ref b1), uS, uS, uS, uS, uS] [(.int p1), (.int (0 : Int32)), (.ref b1)]))
 obtain ⟨_, _, ⟨T3, L3, k3, n3⟩, -, X3, ⟨Lc3, hQ3, l3, y3, z3⟩, st3⟩ := Jvm.LawKit.callS X1 hx (y := (⟨"com/example/bolter/bolter/service/ParameterNameOfPinLaw", "ch", "(I)C"⟩ : MethodName)) hown (mvT hZ (hw2 hw)) (mvT hZ (hw3 hw)) (mvT hZ (hw4 hw)) (mvT hZ (hw5 hw)) (by decide) (backOf (W := 2) (rm_ch l Z a0 hw [] p1 h1 n0 (Nat.le_trans Z0 E1.1) ) hZ (hw5 hw) (hw4 hw) (by decide) (by decide)) (g := (mkF m 17 #[.val (.int p0), .val (.int p1), .val (.int p2), .val (.int p3), .val (.int p4), .val (.int (Int32.ofNat n)), .val (.ref b1), uS, uS, uS, uS, uS] [(.int p1), (.int (0 : Int32)), (.ref b1)])) rfl (by rw [hml]; rfl) (argsL := [(.int p1)]) (rest := [(.int (0 : Int32)), (.ref b1)]) (lenOf pd_18 rfl) rfl (by show 2 * 0 + _ ≤ _; exact Nat.le_of_eq rfl) (hb hby at_17) (fun _ _ => ⟨rfl, e1, (by decide : 1 + 0 ≤ _), (by decide : 4 + 0 ≤ _)⟩)
 dsimp only [Pt.U, Pt.locs, Pt.cells, Pt.slots] at X3 l3 y3 z3 st3 hQ3
 subst l3 y3 z3
 obtain ⟨cc3, rfl, N3q, K3, rg_3⟩ := hQ3
 have N3 := Fr.app N0 N3q
 refine Goes.st st3 ?_
 show Goes _ _ _ _ (T3.setTop (mkF m 20 #[.val (.int p0), .val (.int p1), .val (.int p2), .val (.int p3), .val (.int p4), .val (.int (Int32.ofNat n)), .val (.ref b1), uS, uS, uS, uS, uS] [(.int cc3), (.int (0 : Int32)), (.ref b1)]))
 obtain ⟨oc4, oA4, oq4, oS4, oM4, oH4, oG4⟩ := id V1
 obtain ⟨T5, h5, X5, e5, W5, st5⟩ := stC X3 hx hZ K3 oA4 (j := (0 : Int32)) (inb_of oS4 ⟨by decide, by decide⟩) (g := (mkF m 20 #[.val (.int p0), .val (.int p1), .val (.int p2), .val (.int p3), .val (.int p4), .val (.int (Int32.ofNat n)), .val (.ref b1), uS, uS, uS, uS, uS] [(.int cc3), (.int (0 : Int32)), (.ref b1)])) rfl rfl (hb hby at_20)
 rw [own_narc rg_3] at W5
 have V5 : Arv Z h5 b1 k1 .char (4 : Int32) [(.int cc3), (.int (0 : Int32)), (.int (0 : Int32)), (.int (0 : Int32))] (.int (0 : Int32)) := Arv.set oA4 oq4 oS4 oM4 oH4 oG4 (own_fitsc rg_3) W5 0 rfl (Nat.le_of_ble_eq_true rfl)
 have N5 := Fr.snoc X5 N3 (Nat.le_trans Z0 (Nat.le_of_eq g1.symm))
 have CR6 : CHr Z EL s.vm h0 s.vm h5 := CR2.trans (CHr.wr W5 (own_safeArv hZ.alike V1 (by simp)) CR2.1)
 refine Goes.st st5 ?_
 show Goes _ _ _ _ (T5.setTop (mkF m 21 #[.val (.int p0), .val (.int p1), .val (.int p2), .val (.int p3), .val (.int p4), .val (.int (Int32.ofNat n)), .val (.ref b1), uS, uS, uS, uS, uS] []))
 refine Goes.st (fun sT kT => XS.aload X5.here hx rfl (hb hby at_21) rfl rfl kT) ?_
 show Goes _ _ _ _ (T5.setTop (mkF m 23 #[.val (.int p0), .val (.int p1), .val (.int p2), .val (.int p3), .val (.int p4), .val (.int (Int32.ofNat n)), .val (.ref b1), uS, uS, uS, uS, uS] [(.ref b1)]))
 refine Goes.st (fun sT kT => XS.iconst X5.here hx rfl (hb hby at_23) kT) ?_
 show Goes _ _ _ _ (T5.setTop (mkF m 24 #[.val (.int p0), .val (.int p1), .val (.int p2), .val (.int p3), .val (.int p4), .val (.int (Int32.ofNat n)), .val (.ref b1), uS, uS, uS, uS, uS] [(.int (1 : Int32)), (.ref b1)]))
 refine Goes.st (fun sT kT => XS.iloadN X5.here hx rfl (hb hby at_24) rfl kT) ?_
 show Goes _ _ _ _ (T5.setTop (mkF m 25 #[.val (.int p0), .val (.int p1), .val (.int p2), .val (.int p3), .val (.int p4), .val (.int (Int32.ofNat n)), .val (.ref b1), uS, uS, uS, uS, uS] [(.int p2), (.int (1 : Int32)), (.ref b1)]))
 obtain ⟨_, _, ⟨T7, L7, k7, n7⟩, -, X7, ⟨Lc7, hQ7, l7, y7, z7⟩, st7⟩ := Jvm.LawKit.callS X5 hx (y := (⟨"com/example/bolter/bolter/service/ParameterNameOfPinLaw", "ch", "(I)C"⟩ : MethodName)) hown (mvT hZ (hw2 hw)) (mvT hZ (hw3 hw)) (mvT hZ (hw4 hw)) (mvT hZ (hw5 hw)) (by decide) (backOf (W := 2) (rm_ch l Z a0 hw [] p2 h5 n0 (Nat.le_trans Z0 (Nat.le_trans E1.1 (Nat.le_of_eq W5.size.symm))) ) hZ (hw5 hw) (hw4 hw) (by decide) (by decide)) (g := (mkF m 25 #[.val (.int p0), .val (.int p1), .val (.int p2), .val (.int p3), .val (.int p4), .val (.int (Int32.ofNat n)), .val (.ref b1), uS, uS, uS, uS, uS] [(.int p2), (.int (1 : Int32)), (.ref b1)])) rfl (by rw [hml]; rfl) (argsL := [(.int p2)]) (rest := [(.int (1 : Int32)), (.ref b1)]) (lenOf pd_18 rfl) rfl (by show 2 * 0 + _ ≤ _; exact Nat.le_of_eq rfl) (hb hby at_25) (fun _ _ => ⟨rfl, e5, (by decide : 1 + 0 ≤ _), (by decide : 4 + 0 ≤ _)⟩)
 dsimp only [Pt.U, Pt.locs, Pt.cells, Pt.slots] at X7 l7 y7 z7 st7 hQ7
 subst l7 y7 z7
 obtain ⟨cc7, rfl, N7q, K7, rg_7⟩ := hQ7
 have N7 := Fr.app N5 N7q
 refine Goes.st st7 ?_
 show Goes _ _ _ _ (T7.setTop (mkF m 28 #[.val (.int p0), .val (.int p1), .val (.int p2), .val (.int p3), .val (.int p4), .val (.int (Int32.ofNat n)), .val (.ref b1), uS, uS, uS, uS, uS] [(.int cc7), (.int (1 : Int32)), (.ref b1)]))
 obtain ⟨oc8, oA8, oq8, oS8, oM8, oH8, oG8⟩ := id V5
 obtain ⟨T9, h9, X9, e9, W9, st9⟩ := stC X7 hx hZ K7 oA8 (j := (1 : Int32)) (inb_of oS8 ⟨by decide, by decide⟩) (g := (mkF m 28 #[.val (.int p0), .val (.int p1), .val (.int p2), .val (.int p3), .val (.int p4), .val (.int (Int32.ofNat n)), .val (.ref b1), uS, uS, uS, uS, uS] [(.int cc7), (.int (1 : Int32)), (.ref b1)])) rfl rfl (hb hby at_28)
 rw [own_narc rg_7] at W9
 have V9 : Arv Z h9 b1 k1 .char (4 : Int32) [(.int cc3), (.int cc7), (.int (0 : Int32)), (.int (0 : Int32))] (.int (0 : Int32)) := Arv.set oA8 oq8 oS8 oM8 oH8 oG8 (own_fitsc rg_7) W9 1 rfl (Nat.le_of_ble_eq_true rfl)
 have N9 := Fr.snoc X9 N7 (Nat.le_trans Z0 (Nat.le_of_eq g1.symm))
 have CR10 : CHr Z EL s.vm h0 s.vm h9 := CR6.trans (CHr.wr W9 (own_safeArv hZ.alike V5 (by simp)) CR6.1)
 refine Goes.st st9 ?_
 show Goes _ _ _ _ (T9.setTop (mkF m 29 #[.val (.int p0), .val (.int p1), .val (.int p2), .val (.int p3), .val (.int p4), .val (.int (Int32.ofNat n)), .val (.ref b1), uS, uS, uS, uS, uS] []))
 refine Goes.st (fun sT kT => XS.aload X9.here hx rfl (hb hby at_29) rfl rfl kT) ?_
 show Goes _ _ _ _ (T9.setTop (mkF m 31 #[.val (.int p0), .val (.int p1), .val (.int p2), .val (.int p3), .val (.int p4), .val (.int (Int32.ofNat n)), .val (.ref b1), uS, uS, uS, uS, uS] [(.ref b1)]))
 refine Goes.st (fun sT kT => XS.iconst X9.here hx rfl (hb hby at_31) kT) ?_
 show Goes _ _ _ _ (T9.setTop (mkF m 32 #[.val (.int p0), .val (.int p1), .val (.int p2), .val (.int p3), .val (.int p4), .val (.int (Int32.ofNat n)), .val (.ref b1), uS, uS, uS, uS, uS] [(.int (2 : Int32)), (.ref b1)]))
 refine Goes.st (fun sT kT => XS.iloadN X9.here hx rfl (hb hby at_32) rfl kT) ?_
 show Goes _ _ _ _ (T9.setTop (mkF m 33 #[.val (.int p0), .val (.int p1), .val (.int p2), .val (.int p3), .val (.int p4), .val (.int (Int32.ofNat n)), .val (.ref b1), uS, uS, uS, uS, uS] [(.int p3), (.int (2 : Int32)), (.ref b1)]))
 obtain ⟨_, _, ⟨T11, L11, k11, n11⟩, -, X11, ⟨Lc11, hQ11, l11, y11, z11⟩, st11⟩ := Jvm.LawKit.callS X9 hx (y := (⟨"com/example/bolter/bolter/service/ParameterNameOfPinLaw", "ch", "(I)C"⟩ : MethodName)) hown (mvT hZ (hw2 hw)) (mvT hZ (hw3 hw)) (mvT hZ (hw4 hw)) (mvT hZ (hw5 hw)) (by decide) (backOf (W := 2) (rm_ch l Z a0 hw [] p3 h9 n0 (Nat.le_trans Z0 (Nat.le_trans (Nat.le_trans E1.1 (Nat.le_of_eq W5.size.symm)) (Nat.le_of_eq W9.size.symm))) ) hZ (hw5 hw) (hw4 hw) (by decide) (by decide)) (g := (mkF m 33 #[.val (.int p0), .val (.int p1), .val (.int p2), .val (.int p3), .val (.int p4), .val (.int (Int32.ofNat n)), .val (.ref b1), uS, uS, uS, uS, uS] [(.int p3), (.int (2 : Int32)), (.ref b1)])) rfl (by rw [hml]; rfl) (argsL := [(.int p3)]) (rest := [(.int (2 : Int32)), (.ref b1)]) (lenOf pd_18 rfl) rfl (by show 2 * 0 + _ ≤ _; exact Nat.le_of_eq rfl) (hb hby at_33) (fun _ _ => ⟨rfl, e9, (by decide : 1 + 0 ≤ _), (by decide : 4 + 0 ≤ _)⟩)
 dsimp only [Pt.U, Pt.locs, Pt.cells, Pt.slots] at X11 l11 y11 z11 st11 hQ11
 subst l11 y11 z11
 obtain ⟨cc11, rfl, N11q, K11, rg_11⟩ := hQ11
 have N11 := Fr.app N9 N11q
 refine Goes.st st11 ?_
 show Goes _ _ _ _ (T11.setTop (mkF m 36 #[.val (.int p0), .val (.int p1), .val (.int p2), .val (.int p3), .val (.int p4), .val (.int (Int32.ofNat n)), .val (.ref b1), uS, uS, uS, uS, uS] [(.int cc11), (.int (2 : Int32)), (.ref b1)]))
 obtain ⟨oc12, oA12, oq12, oS12, oM12, oH12, oG12⟩ := id V9
 obtain ⟨T13, h13, X13, e13, W13, st13⟩ := stC X11 hx hZ K11 oA12 (j := (2 : Int32)) (inb_of oS12 ⟨by decide, by decide⟩) (g := (mkF m 36 #[.val (.int p0), .val (.int p1), .val (.int p2), .val (.int p3), .val (.int p4), .val (.int (Int32.ofNat n)), .val (.ref b1), uS, uS, uS, uS, uS] [(.int cc11), (.int (2 : Int32)), (.ref b1)])) rfl rfl (hb hby at_36)
 rw [own_narc rg_11] at W13
 have V13 : Arv Z h13 b1 k1 .char (4 : Int32) [(.int cc3), (.int cc7), (.int cc11), (.int (0 : Int32))] (.int (0 : Int32)) := Arv.set oA12 oq12 oS12 oM12 oH12 oG12 (own_fitsc rg_11) W13 2 rfl (Nat.le_of_ble_eq_true rfl)
 have N13 := Fr.snoc X13 N11 (Nat.le_trans Z0 (Nat.le_of_eq g1.symm))
 have CR14 : CHr Z EL s.vm h0 s.vm h13 := CR10.trans (CHr.wr W13 (own_safeArv hZ.alike V9 (by simp)) CR10.1)
 refine Goes.st st13 ?_
 show Goes _ _ _ _ (T13.setTop (mkF m 37 #[.val (.int p0), .val (.int p1), .val (.int p2), .val (.int p3), .val (.int p4), .val (.int (Int32.ofNat n)), .val (.ref b1), uS, uS, uS, uS, uS] []))
 refine Goes.st (fun sT kT => XS.aload X13.here hx rfl (hb hby at_37) rfl rfl kT) ?_
 show Goes _ _ _ _ (T13.setTop (mkF m 39 #[.val (.int p0), .val (.int p1), .val (.int p2), .val (.int p3), .val (.int p4), .val (.int (Int32.ofNat n)), .val (.ref b1), uS, uS, uS, uS, uS] [(.ref b1)]))
 refine Goes.st (fun sT kT => XS.iconst X13.here hx rfl (hb hby at_39) kT) ?_
 show Goes _ _ _ _ (T13.setTop (mkF m 40 #[.val (.int p0), .val (.int p1), .val (.int p2), .val (.int p3), .val (.int p4), .val (.int (Int32.ofNat n)), .val (.ref b1), uS, uS, uS, uS, uS] [(.int (3 : Int32)), (.ref b1)]))
 refine Goes.st (fun sT kT => XS.iload X13.here hx rfl (hb hby at_40) rfl kT) ?_
 show Goes _ _ _ _ (T13.setTop (mkF m 42 #[.val (.int p0), .val (.int p1), .val (.int p2), .val (.int p3), .val (.int p4), .val (.int (Int32.ofNat n)), .val (.ref b1), uS, uS, uS, uS, uS] [(.int p4), (.int (3 : Int32)), (.ref b1)]))
 obtain ⟨_, _, ⟨T15, L15, k15, n15⟩, -, X15, ⟨Lc15, hQ15, l15, y15, z15⟩, st15⟩ := Jvm.LawKit.callS X13 hx (y := (⟨"com/example/bolter/bolter/service/ParameterNameOfPinLaw", "ch", "(I)C"⟩ : MethodName)) hown (mvT hZ (hw2 hw)) (mvT hZ (hw3 hw)) (mvT hZ (hw4 hw)) (mvT hZ (hw5 hw)) (by decide) (backOf (W := 2) (rm_ch l Z a0 hw [] p4 h13 n0 (Nat.le_trans Z0 (Nat.le_trans (Nat.le_trans (Nat.le_trans E1.1 (Nat.le_of_eq W5.size.symm)) (Nat.le_of_eq W9.size.symm)) (Nat.le_of_eq W13.size.symm))) ) hZ (hw5 hw) (hw4 hw) (by decide) (by decide)) (g := (mkF m 42 #[.val (.int p0), .val (.int p1), .val (.int p2), .val (.int p3), .val (.int p4), .val (.int (Int32.ofNat n)), .val (.ref b1), uS, uS, uS, uS, uS] [(.int p4), (.int (3 : Int32)), (.ref b1)])) rfl (by rw [hml]; rfl) (argsL := [(.int p4)]) (rest := [(.int (3 : Int32)), (.ref b1)]) (lenOf pd_18 rfl) rfl (by show 2 * 0 + _ ≤ _; exact Nat.le_of_eq rfl) (hb hby at_42) (fun _ _ => ⟨rfl, e13, (by decide : 1 + 0 ≤ _), (by decide : 4 + 0 ≤ _)⟩)
 dsimp only [Pt.U, Pt.locs, Pt.cells, Pt.slots] at X15 l15 y15 z15 st15 hQ15
 subst l15 y15 z15
 obtain ⟨cc15, rfl, N15q, K15, rg_15⟩ := hQ15
 have N15 := Fr.app N13 N15q
 refine Goes.st st15 ?_
 show Goes _ _ _ _ (T15.setTop (mkF m 45 #[.val (.int p0), .val (.int p1), .val (.int p2), .val (.int p3), .val (.int p4), .val (.int (Int32.ofNat n)), .val (.ref b1), uS, uS, uS, uS, uS] [(.int cc15), (.int (3 : Int32)), (.ref b1)]))
 obtain ⟨oc16, oA16, oq16, oS16, oM16, oH16, oG16⟩ := id V13
 obtain ⟨T17, h17, X17, e17, W17, st17⟩ := stC X15 hx hZ K15 oA16 (j := (3 : Int32)) (inb_of oS16 ⟨by decide, by decide⟩) (g := (mkF m 45 #[.val (.int p0), .val (.int p1), .val (.int p2), .val (.int p3), .val (.int p4), .val (.int (Int32.ofNat n)), .val (.ref b1), uS, uS, uS, uS, uS] [(.int cc15), (.int (3 : Int32)), (.ref b1)])) rfl rfl (hb hby at_45)
 rw [own_narc rg_15] at W17
 have V17 : Arv Z h17 b1 k1 .char (4 : Int32) [(.int cc3), (.int cc7), (.int cc11), (.int cc15)] (.int (0 : Int32)) := Arv.set oA16 oq16 oS16 oM16 oH16 oG16 (own_fitsc rg_15) W17 3 rfl (Nat.le_of_ble_eq_true rfl)
 have N17 := Fr.snoc X17 N15 (Nat.le_trans Z0 (Nat.le_of_eq g1.symm))
 have CR18 : CHr Z EL s.vm h0 s.vm h17 := CR14.trans (CHr.wr W17 (own_safeArv hZ.alike V13 (by simp)) CR14.1)
 refine Goes.st st17 ?_
 show Goes _ _ _ _ (T17.setTop (mkF m 46 #[.val (.int p0), .val (.int p1), .val (.int p2), .val (.int p3), .val (.int p4), .val (.int (Int32.ofNat n)), .val (.ref b1), uS, uS, uS, uS, uS] []))
 refine Goes.st (fun sT kT => XS.iload X17.here hx rfl (hb hby at_46) rfl kT) ?_
 show Goes _ _ _ _ (T17.setTop (mkF m 48 #[.val (.int p0), .val (.int p1), .val (.int p2), .val (.int p3), .val (.int p4), .val (.int (Int32.ofNat n)), .val (.ref b1), uS, uS, uS, uS, uS] [(.int (Int32.ofNat n))]))
 refine Goes.st (fun sT kT => XS.aload X17.here hx rfl (hb hby at_48) rfl rfl kT) ?_
 show Goes _ _ _ _ (T17.setTop (mkF m 50 #[.val (.int p0), .val (.int p1), .val (.int p2), .val (.int p3), .val (.int p4), .val (.int (Int32.ofNat n)), .val (.ref b1), uS, uS, uS, uS, uS] [(.ref b1), (.int (Int32.ofNat n))]))
 refine Goes.st (fun sT kT => XS.iconst X17.here hx rfl (hb hby at_50) kT) ?_
 show Goes _ _ _ _ (T17.setTop (mkF m 51 #[.val (.int p0), .val (.int p1), .val (.int p2), .val (.int p3), .val (.int p4), .val (.int (Int32.ofNat n)), .val (.ref b1), uS, uS, uS, uS, uS] [(.int (0 : Int32)), (.ref b1), (.int (Int32.ofNat n))]))
 have f20 : Old Z n0 h17 := (((((P0.ext E1).wr W5 (Nat.le_trans Z0 (Nat.le_of_eq g1.symm))).wr W9 (Nat.le_trans Z0 (Nat.le_of_eq g1.symm))).wr W13 (Nat.le_trans Z0 (Nat.le_of_eq g1.symm))).wr W17 (Nat.le_trans Z0 (Nat.le_of_eq g1.symm)))
 obtain ⟨_, _, ⟨T19, L19, k19, n19⟩, -, X19, hSr19, hgr19, ⟨Lc19, hQ19, l19, y19, z19, C19⟩, st19⟩ := callSS X17 hx (y := (⟨"com/example/bolter/bolter/service/ParameterNameOfPinLaw", "mk", "(I[CI)Ljava/lang/String;"⟩ : MethodName)) hown (mvT hZ (hw6 hw)) (mvT hZ (hw7 hw)) (mvT hZ (hw4 hw)) (mvT hZ (hw8 hw)) (by decide) (own_backW (W := 0) (xs := []) (rm_mk0 l Z a0 hw [] n b1 k1 cc3 cc7 cc11 cc15 G1 h17 n0 (Nat.le_trans Z0 (Nat.le_trans (Nat.le_trans (Nat.le_trans (Nat.le_trans E1.1 (Nat.le_of_eq W5.size.symm)) (Nat.le_of_eq W9.size.symm)) (Nat.le_of_eq W13.size.symm)) (Nat.le_of_eq W17.size.symm))) V17 f20 O2 P5 hn rg_3 rg_7 rg_11 rg_15) hZ (hw8 hw) (hw4 hw) (by decide) (by decide) (own_EW hw) CR18.1 all0) (g := (mkF m 51 #[.val (.int p0), .val (.int p1), .val (.int p2), .val (.int p3), .val (.int p4), .val (.int (Int32.ofNat n)), .val (.ref b1), uS, uS, uS, uS, uS] [(.int (0 : Int32)), (.ref b1), (.int (Int32.ofNat n))])) rfl (by rw [hml]; rfl) (argsL := [(.int (Int32.ofNat n)), (.ref b1), (.int (0 : Int32))]) (rest := []) (lenOf pd_19 rfl) rfl (by show 2 * 0 + _ ≤ _; exact Nat.le_of_eq rfl) (hb hby at_51) (fun _ _ => ⟨rfl, e17, (by decide : 1 + 6 ≤ _), (by decide : 4 + 12 ≤ _)⟩)
 dsimp only [Pt.U, Pt.locs, Pt.cells, Pt.slots] at X19 l19 y19 z19 st19 hQ19 hSr19 hgr19 C19
 subst l19 y19 z19
 obtain ⟨X19, hS19, hZ19, hown19⟩ := rebS hS0 (by rw [e17]; exact (Nat.le_trans (Nat.le_trans (Nat.le_trans (Nat.le_trans (Nat.le_trans hk0 E1.1) (Nat.le_of_eq W5.size.symm)) (Nat.le_of_eq W9.size.symm)) (Nat.le_of_eq W13.size.symm)) (Nat.le_of_eq W17.size.symm))) X19 hSr19 hgr19 hZ hown
 obtain ⟨r19, t19, kb19, rfl, N19q, K19, F19_0, lo19_0, ne19_0⟩ := hQ19
 have N19 := Fr.app N17 N19q
 have F19_0E := F19_0.1
 have CR21 : CHr Z EL s.vm h0 T19.vm T19.heap := CR18.trans (C19)
 refine Goes.tr st19 ?_
 show Goes _ _ _ _ (T19.setTop (mkF m 54 #[.val (.int p0), .val (.int p1), .val (.int p2), .val (.int p3), .val (.int p4), .val (.int (Int32.ofNat n)), .val (.ref b1), uS, uS, uS, uS, uS] [(.ref r19)]))
 refine Goes.st (fun sT kT => XS.astore X19.here hx rfl (hb hby at_54) rfl rfl (l' := #[.val (.int p0), .val (.int p1), .val (.int p2), .val (.int p3), .val (.int p4), .val (.int (Int32.ofNat n)), .val (.ref b1), .val (.ref r19), uS, uS, uS, uS]) rfl kT) ?_
 show Goes _ _ _ _ (T19.setTop (mkF m 56 #[.val (.int p0), .val (.int p1), .val (.int p2), .val (.int p3), .val (.int p4), .val (.int (Int32.ofNat n)), .val (.ref b1), .val (.ref r19), uS, uS, uS, uS] []))
 refine Goes.st (fun sT kT => XS.iconst X19.here hx rfl (hb hby at_56) kT) ?_
 show Goes _ _ _ _ (T19.setTop (mkF m 57 #[.val (.int p0), .val (.int p1), .val (.int p2), .val (.int p3), .val (.int p4), .val (.int (Int32.ofNat n)), .val (.ref b1), .val (.ref r19), uS, uS, uS, uS] [(.int (-1 : Int32))]))
 refine Goes.st (fun sT kT => XS.istore X19.here hx rfl (hb hby at_57) rfl (l' := #[.val (.int p0), .val (.int p1), .val (.int p2), .val (.int p3), .val (.int p4), .val (.int (Int32.ofNat n)), .val (.ref b1), .val (.ref r19), .val (.int (-1 : Int32)), uS, uS, uS]) rfl kT) ?_
 show Goes _ _ _ _ (T19.setTop (mkF m 59 #[.val (.int p0), .val (.int p1), .val (.int p2), .val (.int p3), .val (.int p4), .val (.int (Int32.ofNat n)), .val (.ref b1), .val (.ref r19), .val (.int (-1 : Int32)), uS, uS, uS] []))
 have J139 : ∀ (i8 : Int32), own_kk n cc3 cc7 cc11 cc15 i8 → Goes p.tables e below QQ (T19.setTop (mkF m 139 #[.val (.int p0), .val (.int p1), .val (.int p2), .val (.int p3), .val (.int p4), .val (.int (Int32.ofNat n)), .val (.ref b1), .val (.ref r19), .val (.int i8), uS, uS, uS] [])) := by
  intro i8 hkk
  show Goes _ _ _ _ (T19.setTop (mkF m 139 #[.val (.int p0), .val (.int p1), .val (.int p2), .val (.int p3), .val (.int p4), .val (.int (Int32.ofNat n)), .val (.ref b1), .val (.ref r19), .val (.int i8), uS, uS, uS] []))
  rcases hkk with ⟨rfl, hix⟩ | ⟨k, hkn, rfl, hix⟩
  ·skip
   show Goes _ _ _ _ (T19.setTop (mkF m 139 #[.val (.int p0), .val (.int p1), .val (.int p2), .val (.int p3), .val (.int p4), .val (.int (Int32.ofNat n)), .val (.ref b1), .val (.ref r19), .val (.int (-1 : Int32)), uS, uS, uS] []))
   refine Goes.st (fun sT kT => XS.aload X19.here hx rfl (hb hby at_139) rfl rfl kT) ?_
   show Goes _ _ _ _ (T19.setTop (mkF m 141 #[.val (.int p0), .val (.int p1), .val (.int p2), .val (.int p3), .val (.int p4), .val (.int (Int32.ofNat n)), .val (.ref b1), .val (.ref r19), .val (.int (-1 : Int32)), uS, uS, uS] [(.ref r19)]))
   have f23 : Old Z n0 T19.heap := (f20.keep K19 all0)
   obtain ⟨_, _, ⟨T22, L22, k22, n22⟩, -, X22, ⟨Lc22, hQ22, l22, y22, z22⟩, st22⟩ := Jvm.LawKit.callS X19 hx (y := (⟨"com/example/bolter/bolter/service/ParameterName", "of", "(Ljava/lang/String;)Lcom/example/bolter/bolter/service/ParameterName;"⟩ : MethodName)) hown19 (mvT hZ19 (hw30 hw)) (mvT hZ19 (hw31 hw)) (mvT hZ19 (hw32 hw)) (mvT hZ19 (hw33 hw)) (by decide) (backOf (W := 0) (rm_ofN l Z a0 hw [] r19 t19 kb19 (([cc3, cc7, cc11, cc15].drop 0).take n) G1 T19.heap n0 (Nat.le_trans Z0 (Nat.le_trans (Nat.le_trans (Nat.le_trans (Nat.le_trans (Nat.le_trans E1.1 (Nat.le_of_eq W5.size.symm)) (Nat.le_of_eq W9.size.symm)) (Nat.le_of_eq W13.size.symm)) (Nat.le_of_eq W17.size.symm)) K19.1)) F19_0 f23 O2 P5 hix) hZ19 (hw33 hw) (hw32 hw) (by decide) (by decide)) (g := (mkF m 141 #[.val (.int p0), .val (.int p1), .val (.int p2), .val (.int p3), .val (.int p4), .val (.int (Int32.ofNat n)), .val (.ref b1), .val (.ref r19), .val (.int (-1 : Int32)), uS, uS, uS] [(.ref r19)])) rfl (by rw [hml]; rfl) (argsL := [(.ref r19)]) (rest := []) (lenOf pd_20 rfl) rfl (by show 2 * 0 + _ ≤ _; exact Nat.le_of_eq rfl) (hb hby at_141) (fun _ _ => ⟨rfl, rfl, (by decide : 7 + 1 ≤ _), (by decide : 16 + 2 ≤ _)⟩)
   dsimp only [Pt.U, Pt.locs, Pt.cells, Pt.slots] at X22 l22 y22 z22 st22 hQ22
   subst l22 y22 z22
   obtain ⟨d22, rfl, N22q, K22, F22_0, F22_1, F22_2, lo22_0⟩ := hQ22
   have N22 := Fr.app N19 N22q
   have hs24 : ∀ x ∈ ([] : List Addr), Safe Z EL T19.vm T19.heap x := all0
   have CR24 : CHr Z EL s.vm h0 T19.vm T22.heap := CR21.trans (CHr.keep K22 hs24 CR21.1)
   refine Goes.st st22 ?_
   show Goes _ _ _ _ (T22.setTop (mkF m 144 #[.val (.int p0), .val (.int p1), .val (.int p2), .val (.int p3), .val (.int p4), .val (.int (Int32.ofNat n)), .val (.ref b1), .val (.ref r19), .val (.int (-1 : Int32)), uS, uS, uS] [(.ref d22)]))
   refine Goes.st (fun sT kT => XS.astore X22.here hx rfl (hb hby at_144) rfl rfl (l' := #[.val (.int p0), .val (.int p1), .val (.int p2), .val (.int p3), .val (.int p4), .val (.int (Int32.ofNat n)), .val (.ref b1), .val (.ref r19), .val (.int (-1 : Int32)), .val (.ref d22), uS, uS]) rfl kT) ?_
   show Goes _ _ _ _ (T22.setTop (mkF m 146 #[.val (.int p0), .val (.int p1), .val (.int p2), .val (.int p3), .val (.int p4), .val (.int (Int32.ofNat n)), .val (.ref b1), .val (.ref r19), .val (.int (-1 : Int32)), .val (.ref d22), uS, uS] []))
   refine Goes.st (fun sT kT => XS.aload X22.here hx rfl (hb hby at_146) rfl rfl kT) ?_
   show Goes _ _ _ _ (T22.setTop (mkF m 148 #[.val (.int p0), .val (.int p1), .val (.int p2), .val (.int p3), .val (.int p4), .val (.int (Int32.ofNat n)), .val (.ref b1), .val (.ref r19), .val (.int (-1 : Int32)), .val (.ref d22), uS, uS] [(.ref d22)]))
   refine Goes.st (fun sT kT => XS.ifnullNo X22.here hx rfl (hb hby at_148) rfl kT) ?_
   show Goes _ _ _ _ (T22.setTop (mkF m 151 #[.val (.int p0), .val (.int p1), .val (.int p2), .val (.int p3), .val (.int p4), .val (.int (Int32.ofNat n)), .val (.ref b1), .val (.ref r19), .val (.int (-1 : Int32)), .val (.ref d22), uS, uS] []))
   refine Goes.st (fun sT kT => XS.aload X22.here hx rfl (hb hby at_151) rfl rfl kT) ?_
   show Goes _ _ _ _ (T22.setTop (mkF m 153 #[.val (.int p0), .val (.int p1), .val (.int p2), .val (.int p3), .val (.int p4), .val (.int (Int32.ofNat n)), .val (.ref b1), .val (.ref r19), .val (.int (-1 : Int32)), .val (.ref d22), uS, uS] [(.ref d22)]))
   obtain ⟨cq25, kq25, q25a, q25b, q25c⟩ := isOf hZ19 rfl F22_0
   obtain ⟨_, _, ⟨T25, L25, k25, n25⟩, -, X25, ⟨Lc25, hQ25, l25, y25, z25⟩, st25⟩ := X22.virtualBack hx (y := (⟨"com/example/bolter/bolter/service/ParameterName", "code", "()Ljava/lang/String;"⟩ : MethodName)) (z := (⟨"com/example/bolter/bolter/service/ParameterName", "code", "()Ljava/lang/String;"⟩ : MethodName)) hown19 (mvT hZ19 (hw89 hw)) (mvT hZ19 (hw90 hw)) (notFace_of_selects (args := #[]) (mvT hZ19 (hw92 hw))) (mvT hZ19 (hw92 hw)) (mvT hZ19 (hw91 hw)) (by decide) (backOf (W := 0) (rm_gcode l Z a0 hw [] d22 r19 T22.heap n0 (Nat.le_trans Z0 (Nat.le_trans (Nat.le_trans (Nat.le_trans (Nat.le_trans (Nat.le_trans (Nat.le_trans E1.1 (Nat.le_of_eq W5.size.symm)) (Nat.le_of_eq W9.size.symm)) (Nat.le_of_eq W13.size.symm)) (Nat.le_of_eq W17.size.symm)) K19.1) K22.1)) F22_1) hZ19 (hw93 hw) (hw32 hw) (by decide) (by decide)) q25a q25c (g := (mkF m 153 #[.val (.int p0), .val (.int p1), .val (.int p2), .val (.int p3), .val (.int p4), .val (.int (Int32.ofNat n)), .val (.ref b1), .val (.ref r19), .val (.int (-1 : Int32)), .val (.ref d22), uS, uS] [(.ref d22)])) rfl (by rw [hml]; rfl) (Steps.refl _) (argsL := []) (rest := []) (lenOf pd_21 rfl) rfl (by show 2 * 0 + _ ≤ _; exact Nat.le_of_eq rfl) (hb hby at_153) (fun _ _ => ⟨rfl, rfl, (by decide : 8 + 0 ≤ _), (by decide : 18 + 0 ≤ _)⟩)
   dsimp only [Pt.U, Pt.locs, Pt.cells, Pt.slots] at X25 l25 y25 z25 st25 hQ25
   subst l25 y25 z25
   obtain ⟨rfl, N25q, K25⟩ := hQ25
   have N25 := Fr.app N22 N25q
   refine Goes.tr st25 ?_
   show Goes _ _ _ _ (T25.setTop (mkF m 156 #[.val (.int p0), .val (.int p1), .val (.int p2), .val (.int p3), .val (.int p4), .val (.int (Int32.ofNat n)), .val (.ref b1), .val (.ref r19), .val (.int (-1 : Int32)), .val (.ref d22), uS, uS] [(.ref r19)]))
   refine Goes.st (fun sT kT => XS.ifnonnullYes X25.here hx rfl (pc0 := 156) (pc' := 161) rfl (hb hby at_156) rfl (by decide) (by decide) kT) ?_
   show Goes _ _ _ _ (T25.setTop (mkF m 161 #[.val (.int p0), .val (.int p1), .val (.int p2), .val (.int p3), .val (.int p4), .val (.int (Int32.ofNat n)), .val (.ref b1), .val (.ref r19), .val (.int (-1 : Int32)), .val (.ref d22), uS, uS] []))
   refine Goes.st (fun sT kT => XS.iload X25.here hx rfl (hb hby at_161) rfl kT) ?_
   show Goes _ _ _ _ (T25.setTop (mkF m 163 #[.val (.int p0), .val (.int p1), .val (.int p2), .val (.int p3), .val (.int p4), .val (.int (Int32.ofNat n)), .val (.ref b1), .val (.ref r19), .val (.int (-1 : Int32)), .val (.ref d22), uS, uS] [(.int (-1 : Int32))]))
   refine Goes.st (fun sT kT => XS.ifNo X25.here hx rfl (hb hby at_163) rfl ((if0 _ _).trans (tlt (by decide : (-1 : Int32) < (0 : Int32))).2.1) kT) ?_
   show Goes _ _ _ _ (T25.setTop (mkF m 166 #[.val (.int p0), .val (.int p1), .val (.int p2), .val (.int p3), .val (.int p4), .val (.int (Int32.ofNat n)), .val (.ref b1), .val (.ref r19), .val (.int (-1 : Int32)), .val (.ref d22), uS, uS] []))
   refine Goes.st (fun sT kT => XS.aload X25.here hx rfl (hb hby at_166) rfl rfl kT) ?_
   show Goes _ _ _ _ (T25.setTop (mkF m 168 #[.val (.int p0), .val (.int p1), .val (.int p2), .val (.int p3), .val (.int p4), .val (.int (Int32.ofNat n)), .val (.ref b1), .val (.ref r19), .val (.int (-1 : Int32)), .val (.ref d22), uS, uS] [(.ref d22)]))
   obtain ⟨cq26, kq26, q26a, q26b, q26c⟩ := isOf hZ19 K25 F22_0
   obtain ⟨_, _, ⟨T26, L26, k26, n26⟩, -, X26, ⟨Lc26, hQ26, l26, y26, z26⟩, st26⟩ := X25.virtualBack hx (y := (⟨"com/example/bolter/bolter/service/ParameterName", "code", "()Ljava/lang/String;"⟩ : MethodName)) (z := (⟨"com/example/bolter/bolter/service/ParameterName", "code", "()Ljava/lang/String;"⟩ : MethodName)) hown19 (mvT hZ19 (hw89 hw)) (mvT hZ19 (hw90 hw)) (notFace_of_selects (args := #[]) (mvT hZ19 (hw92 hw))) (mvT hZ19 (hw92 hw)) (mvT hZ19 (hw91 hw)) (by decide) (backOf (W := 0) (rm_gcode l Z a0 hw [] d22 r19 T22.heap n0 (Nat.le_trans Z0 (Nat.le_trans (Nat.le_trans (Nat.le_trans (Nat.le_trans (Nat.le_trans (Nat.le_trans E1.1 (Nat.le_of_eq W5.size.symm)) (Nat.le_of_eq W9.size.symm)) (Nat.le_of_eq W13.size.symm)) (Nat.le_of_eq W17.size.symm)) K19.1) K22.1)) F22_1) hZ19 (hw93 hw) (hw32 hw) (by decide) (by decide)) q26a q26c (g := (mkF m 168 #[.val (.int p0), .val (.int p1), .val (.int p2), .val (.int p3), .val (.int p4), .val (.int (Int32.ofNat n)), .val (.ref b1), .val (.ref r19), .val (.int (-1 : Int32)), .val (.ref d22), uS, uS] [(.ref d22)])) rfl (by rw [hml]; rfl) (Steps.refl _) (argsL := []) (rest := []) (lenOf pd_21 rfl) rfl (by show 2 * 0 + _ ≤ _; exact Nat.le_of_eq rfl) (hb hby at_168) (fun _ _ => ⟨rfl, K25, (by decide : 8 + 0 ≤ _), (by decide : 18 + 0 ≤ _)⟩)
   dsimp only [Pt.U, Pt.locs, Pt.cells, Pt.slots] at X26 l26 y26 z26 st26 hQ26
   subst l26 y26 z26
   obtain ⟨rfl, N26q, K26⟩ := hQ26
   have N26 := Fr.app N25 N26q
   refine Goes.tr st26 ?_
   show Goes _ _ _ _ (T26.setTop (mkF m 171 #[.val (.int p0), .val (.int p1), .val (.int p2), .val (.int p3), .val (.int p4), .val (.int (Int32.ofNat n)), .val (.ref b1), .val (.ref r19), .val (.int (-1 : Int32)), .val (.ref d22), uS, uS] [(.ref r19)]))
   refine Goes.st (fun sT kT => XS.aload X26.here hx rfl (hb hby at_171) rfl rfl kT) ?_
   show Goes _ _ _ _ (T26.setTop (mkF m 173 #[.val (.int p0), .val (.int p1), .val (.int p2), .val (.int p3), .val (.int p4), .val (.int (Int32.ofNat n)), .val (.ref b1), .val (.ref r19), .val (.int (-1 : Int32)), .val (.ref d22), uS, uS] [(.ref r19), (.ref r19)]))
   have f28 : Exa Z T22.heap r19 "java/lang/String" := (F19_0E.keep K22)
   obtain ⟨cq27, kq27, q27a, q27b, q27c⟩ := isOf hZ19 K26 f28
   obtain ⟨_, _, ⟨T27, L27, k27, n27⟩, -, X27, ⟨Lc27, hQ27, l27, y27, z27⟩, st27⟩ := X26.virtualBack hx (y := (⟨"java/lang/String", "equals", "(Ljava/lang/Object;)Z"⟩ : MethodName)) (z := (⟨"java/lang/String", "equals", "(Ljava/lang/Object;)Z"⟩ : MethodName)) hown19 (mvT hZ19 (hw94 hw)) (mvT hZ19 (hw95 hw)) (notFace_of_selects (args := #[]) (mvT hZ19 (hw97 hw))) (mvT hZ19 (hw97 hw)) (mvT hZ19 (hw96 hw)) (by decide) (backOf (W := 0) (rm_eqsame l Z a0 hw [] r19 T22.heap n0 (Nat.le_trans Z0 (Nat.le_trans (Nat.le_trans (Nat.le_trans (Nat.le_trans (Nat.le_trans (Nat.le_trans E1.1 (Nat.le_of_eq W5.size.symm)) (Nat.le_of_eq W9.size.symm)) (Nat.le_of_eq W13.size.symm)) (Nat.le_of_eq W17.size.symm)) K19.1) K22.1)) ) hZ19 (hw98 hw) (hw11 hw) (by decide) (by decide)) q27a q27c (g := (mkF m 173 #[.val (.int p0), .val (.int p1), .val (.int p2), .val (.int p3), .val (.int p4), .val (.int (Int32.ofNat n)), .val (.ref b1), .val (.ref r19), .val (.int (-1 : Int32)), .val (.ref d22), uS, uS] [(.ref r19), (.ref r19)])) rfl (by rw [hml]; rfl) (Steps.refl _) (argsL := [(.ref r19)]) (rest := []) (lenOf pd_22 rfl) rfl (by show 2 * 0 + _ ≤ _; exact Nat.le_of_eq rfl) (hb hby at_173) (fun _ _ => ⟨rfl, K26, (by decide : 8 + 0 ≤ _), (by decide : 18 + 0 ≤ _)⟩)
   dsimp only [Pt.U, Pt.locs, Pt.cells, Pt.slots] at X27 l27 y27 z27 st27 hQ27
   subst l27 y27 z27
   obtain ⟨rfl, N27q, K27⟩ := hQ27
   have N27 := Fr.app N26 N27q
   refine Goes.tr st27 ?_
   show Goes _ _ _ _ (T27.setTop (mkF m 176 #[.val (.int p0), .val (.int p1), .val (.int p2), .val (.int p3), .val (.int p4), .val (.int (Int32.ofNat n)), .val (.ref b1), .val (.ref r19), .val (.int (-1 : Int32)), .val (.ref d22), uS, uS] [(.int (1 : Int32))]))
   refine Goes.st (fun sT kT => XS.ifNo X27.here hx rfl (hb hby at_176) rfl ((if0 _ _).trans (feq (by decide : ¬ ((1 : Int32) = (0 : Int32)))).1) kT) ?_
   show Goes _ _ _ _ (T27.setTop (mkF m 179 #[.val (.int p0), .val (.int p1), .val (.int p2), .val (.int p3), .val (.int p4), .val (.int (Int32.ofNat n)), .val (.ref b1), .val (.ref r19), .val (.int (-1 : Int32)), .val (.ref d22), uS, uS] []))
   refine Goes.st (fun sT kT => XS.aload X27.here hx rfl (hb hby at_179) rfl rfl kT) ?_
   show Goes _ _ _ _ (T27.setTop (mkF m 181 #[.val (.int p0), .val (.int p1), .val (.int p2), .val (.int p3), .val (.int p4), .val (.int (Int32.ofNat n)), .val (.ref b1), .val (.ref r19), .val (.int (-1 : Int32)), .val (.ref d22), uS, uS] [(.ref d22)]))
   obtain ⟨cq29, kq29, q29a, q29b, q29c⟩ := isOf hZ19 K27 F22_0
   obtain ⟨_, _, ⟨T29, L29, k29, n29⟩, -, X29, ⟨Lc29, hQ29, l29, y29, z29⟩, st29⟩ := X27.virtualBack hx (y := (⟨"com/example/bolter/bolter/service/ParameterName", "modifier", "()Ljava/lang/String;"⟩ : MethodName)) (z := (⟨"com/example/bolter/bolter/service/ParameterName", "modifier", "()Ljava/lang/String;"⟩ : MethodName)) hown19 (mvT hZ19 (hw99 hw)) (mvT hZ19 (hw100 hw)) (notFace_of_selects (args := #[]) (mvT hZ19 (hw102 hw))) (mvT hZ19 (hw102 hw)) (mvT hZ19 (hw101 hw)) (by decide) (backOf (W := 0) (rm_gmodN l Z a0 hw [] d22 T22.heap n0 (Nat.le_trans Z0 (Nat.le_trans (Nat.le_trans (Nat.le_trans (Nat.le_trans (Nat.le_trans (Nat.le_trans E1.1 (Nat.le_of_eq W5.size.symm)) (Nat.le_of_eq W9.size.symm)) (Nat.le_of_eq W13.size.symm)) (Nat.le_of_eq W17.size.symm)) K19.1) K22.1)) F22_2) hZ19 (hw103 hw) (hw32 hw) (by decide) (by decide)) q29a q29c (g := (mkF m 181 #[.val (.int p0), .val (.int p1), .val (.int p2), .val (.int p3), .val (.int p4), .val (.int (Int32.ofNat n)), .val (.ref b1), .val (.ref r19), .val (.int (-1 : Int32)), .val (.ref d22), uS, uS] [(.ref d22)])) rfl (by rw [hml]; rfl) (Steps.refl _) (argsL := []) (rest := []) (lenOf pd_21 rfl) rfl (by show 2 * 0 + _ ≤ _; exact Nat.le_of_eq rfl) (hb hby at_181) (fun _ _ => ⟨rfl, K27, (by decide : 8 + 0 ≤ _), (by decide : 18 + 0 ≤ _)⟩)
   dsimp only [Pt.U, Pt.locs, Pt.cells, Pt.slots] at X29 l29 y29 z29 st29 hQ29
   subst l29 y29 z29
   obtain ⟨rfl, N29q, K29⟩ := hQ29
   have N29 := Fr.app N27 N29q
   refine Goes.tr st29 ?_
   show Goes _ _ _ _ (T29.setTop (mkF m 184 #[.val (.int p0), .val (.int p1), .val (.int p2), .val (.int p3), .val (.int p4), .val (.int (Int32.ofNat n)), .val (.ref b1), .val (.ref r19), .val (.int (-1 : Int32)), .val (.ref d22), uS, uS] [.null]))
   refine Goes.st (fun sT kT => XS.ifnonnullNo X29.here hx rfl (hb hby at_184) rfl kT) ?_
   show Goes _ _ _ _ (T29.setTop (mkF m 187 #[.val (.int p0), .val (.int p1), .val (.int p2), .val (.int p3), .val (.int p4), .val (.int (Int32.ofNat n)), .val (.ref b1), .val (.ref r19), .val (.int (-1 : Int32)), .val (.ref d22), uS, uS] []))
   refine Goes.st (fun sT kT => XS.iconst X29.here hx rfl (hb hby at_187) kT) ?_
   show Goes _ _ _ _ (T29.setTop (mkF m 188 #[.val (.int p0), .val (.int p1), .val (.int p2), .val (.int p3), .val (.int p4), .val (.int (Int32.ofNat n)), .val (.ref b1), .val (.ref r19), .val (.int (-1 : Int32)), .val (.ref d22), uS, uS] [(.int (1 : Int32))]))
   refine Goes.st (fun sT kT => XS.goto X29.here hx rfl (pc0 := 188) (pc' := 192) rfl (hb hby at_188) (by decide) (by decide) kT) ?_
   show Goes _ _ _ _ (T29.setTop (mkF m 192 #[.val (.int p0), .val (.int p1), .val (.int p2), .val (.int p3), .val (.int p4), .val (.int (Int32.ofNat n)), .val (.ref b1), .val (.ref r19), .val (.int (-1 : Int32)), .val (.ref d22), uS, uS] [(.int (1 : Int32))]))
   obtain ⟨fs, hr, hrun, hended, hRW⟩ := X29.leaveW hS19 (by rw [K29]; exact (Nat.le_trans (Nat.le_refl _) K22.1)) (v := some (.int (1 : Int32))) (fun h => by rw [Bd.returns] at h; cases h)
   subst hQQ
   have hCR : CHr Z EL s.vm s.heap T29.vm T29.heap := by rw [hh, K29]; exact CR24.trans (CHv.at X29 hZ19 (own_EW hw) CR24.1)
   refine ⟨_, _, retN X29 hx (t := .boolean) Bd.returns (by simp) (hb hby at_192) hr, hrun, hended, _, _, rfl, ?_, hCR, own_REmono hRW (by decide) (by decide)⟩
   show Q_law Z p0 p1 p2 p3 p4 G1 vF h0 n0 _ T29.heap _
   rw [K29]
   exact ⟨rfl, N29⟩
  ·skip
   by_cases hk0z : k = 0
   case pos =>
    subst hk0z
    show Goes _ _ _ _ (T19.setTop (mkF m 139 #[.val (.int p0), .val (.int p1), .val (.int p2), .val (.int p3), .val (.int p4), .val (.int (Int32.ofNat n)), .val (.ref b1), .val (.ref r19), .val (.int (0 : Int32)), uS, uS, uS] []))
    refine Goes.st (fun sT kT => XS.aload X19.here hx rfl (hb hby at_139) rfl rfl kT) ?_
    show Goes _ _ _ _ (T19.setTop (mkF m 141 #[.val (.int p0), .val (.int p1), .val (.int p2), .val (.int p3), .val (.int p4), .val (.int (Int32.ofNat n)), .val (.ref b1), .val (.ref r19), .val (.int (0 : Int32)), uS, uS, uS] [(.ref r19)]))
    have f31 : Old Z n0 T19.heap := (f20.keep K19 all0)
    obtain ⟨_, _, ⟨T30, L30, k30, n30⟩, -, X30, hSr30, hgr30, ⟨Lc30, hQ30, l30, y30, z30, C30⟩, st30⟩ := callSS X19 hx (y := (⟨"com/example/bolter/bolter/service/ParameterName", "of", "(Ljava/lang/String;)Lcom/example/bolter/bolter/service/ParameterName;"⟩ : MethodName)) hown19 (mvT hZ19 (hw30 hw)) (mvT hZ19 (hw31 hw)) (mvT hZ19 (hw32 hw)) (mvT hZ19 (hw33 hw)) (by decide) (own_backW (W := 0) (xs := []) (rm_ofK l Z a0 hw [] r19 t19 kb19 (([cc3, cc7, cc11, cc15].drop 0).take n) G1 vF 0 T19.heap n0 (Nat.le_trans Z0 (Nat.le_trans (Nat.le_trans (Nat.le_trans (Nat.le_trans (Nat.le_trans E1.1 (Nat.le_of_eq W5.size.symm)) (Nat.le_of_eq W9.size.symm)) (Nat.le_of_eq W13.size.symm)) (Nat.le_of_eq W17.size.symm)) K19.1)) F19_0 f31 O2 P5 OF rF hix (by rw [own_len4 hn]; exact hkn) (by rw [own_len4 hn]; exact hn)) hZ19 (hw33 hw) (hw32 hw) (by decide) (by decide) (own_EW hw) CR21.1 all0) (g := (mkF m 141 #[.val (.int p0), .val (.int p1), .val (.int p2), .val (.int p3), .val (.int p4), .val (.int (Int32.ofNat n)), .val (.ref b1), .val (.ref r19), .val (.int (0 : Int32)), uS, uS, uS] [(.ref r19)])) rfl (by rw [hml]; rfl) (argsL := [(.ref r19)]) (rest := []) (lenOf pd_20 rfl) rfl (by show 2 * 0 + _ ≤ _; exact Nat.le_of_eq rfl) (hb hby at_141) (fun _ _ => ⟨rfl, rfl, (by decide : 7 + 5 ≤ _), (by decide : 16 + 18 ≤ _)⟩)
    dsimp only [Pt.U, Pt.locs, Pt.cells, Pt.slots] at X30 l30 y30 z30 st30 hQ30 hSr30 hgr30 C30
    subst l30 y30 z30
    obtain ⟨X30, hS30, hZ30, hown30⟩ := rebS hS19 (Nat.le_refl _) X30 hSr30 hgr30 hZ19 hown19
    obtain ⟨d30, x130, y130, k130, x230, y230, k230, rfl, N30q, K30, F30_0, F30_1, F30_2, F30_3, F30_4, lo30_0⟩ := hQ30
    have N30 := Fr.app N19 N30q
    have F30_3E := F30_3.1
    have F30_4E := F30_4.1
    have CR32 : CHr Z EL s.vm h0 T30.vm T30.heap := CR21.trans (C30)
    refine Goes.tr st30 ?_
    show Goes _ _ _ _ (T30.setTop (mkF m 144 #[.val (.int p0), .val (.int p1), .val (.int p2), .val (.int p3), .val (.int p4), .val (.int (Int32.ofNat n)), .val (.ref b1), .val (.ref r19), .val (.int (0 : Int32)), uS, uS, uS] [(.ref d30)]))
    refine Goes.st (fun sT kT => XS.astore X30.here hx rfl (hb hby at_144) rfl rfl (l' := #[.val (.int p0), .val (.int p1), .val (.int p2), .val (.int p3), .val (.int p4), .val (.int (Int32.ofNat n)), .val (.ref b1), .val (.ref r19), .val (.int (0 : Int32)), .val (.ref d30), uS, uS]) rfl kT) ?_
    show Goes _ _ _ _ (T30.setTop (mkF m 146 #[.val (.int p0), .val (.int p1), .val (.int p2), .val (.int p3), .val (.int p4), .val (.int (Int32.ofNat n)), .val (.ref b1), .val (.ref r19), .val (.int (0 : Int32)), .val (.ref d30), uS, uS] []))
    refine Goes.st (fun sT kT => XS.aload X30.here hx rfl (hb hby at_146) rfl rfl kT) ?_
    show Goes _ _ _ _ (T30.setTop (mkF m 148 #[.val (.int p0), .val (.int p1), .val (.int p2), .val (.int p3), .val (.int p4), .val (.int (Int32.ofNat n)), .val (.ref b1), .val (.ref r19), .val (.int (0 : Int32)), .val (.ref d30), uS, uS] [(.ref d30)]))
    refine Goes.st (fun sT kT => XS.ifnullNo X30.here hx rfl (hb hby at_148) rfl kT) ?_
    show Goes _ _ _ _ (T30.setTop (mkF m 151 #[.val (.int p0), .val (.int p1), .val (.int p2), .val (.int p3), .val (.int p4), .val (.int (Int32.ofNat n)), .val (.ref b1), .val (.ref r19), .val (.int (0 : Int32)), .val (.ref d30), uS, uS] []))
    refine Goes.st (fun sT kT => XS.aload X30.here hx rfl (hb hby at_151) rfl rfl kT) ?_
    show Goes _ _ _ _ (T30.setTop (mkF m 153 #[.val (.int p0), .val (.int p1), .val (.int p2), .val (.int p3), .val (.int p4), .val (.int (Int32.ofNat n)), .val (.ref b1), .val (.ref r19), .val (.int (0 : Int32)), .val (.ref d30), uS, uS] [(.ref d30)]))
    obtain ⟨cq33, kq33, q33a, q33b, q33c⟩ := isOf hZ30 rfl F30_0
    obtain ⟨_, _, ⟨T33, L33, k33, n33⟩, -, X33, ⟨Lc33, hQ33, l33, y33, z33⟩, st33⟩ := X30.virtualBack hx (y := (⟨"com/example/bolter/bolter/service/ParameterName", "code", "()Ljava/lang/String;"⟩ : MethodName)) (z := (⟨"com/example/bolter/bolter/service/ParameterName", "code", "()Ljava/lang/String;"⟩ : MethodName)) hown30 (mvT hZ30 (hw89 hw)) (mvT hZ30 (hw90 hw)) (notFace_of_selects (args := #[]) (mvT hZ30 (hw92 hw))) (mvT hZ30 (hw92 hw)) (mvT hZ30 (hw91 hw)) (by decide) (backOf (W := 0) (rm_gcode l Z a0 hw [] d30 x130 T30.heap n0 (Nat.le_trans Z0 (Nat.le_trans (Nat.le_trans (Nat.le_trans (Nat.le_trans (Nat.le_trans (Nat.le_trans E1.1 (Nat.le_of_eq W5.size.symm)) (Nat.le_of_eq W9.size.symm)) (Nat.le_of_eq W13.size.symm)) (Nat.le_of_eq W17.size.symm)) K19.1) K30.1)) F30_1) hZ30 (hw93 hw) (hw32 hw) (by decide) (by decide)) q33a q33c (g := (mkF m 153 #[.val (.int p0), .val (.int p1), .val (.int p2), .val (.int p3), .val (.int p4), .val (.int (Int32.ofNat n)), .val (.ref b1), .val (.ref r19), .val (.int (0 : Int32)), .val (.ref d30), uS, uS] [(.ref d30)])) rfl (by rw [hml]; rfl) (Steps.refl _) (argsL := []) (rest := []) (lenOf pd_21 rfl) rfl (by show 2 * 0 + _ ≤ _; exact Nat.le_of_eq rfl) (hb hby at_153) (fun _ _ => ⟨rfl, rfl, (by decide : 12 + 0 ≤ _), (by decide : 34 + 0 ≤ _)⟩)
    dsimp only [Pt.U, Pt.locs, Pt.cells, Pt.slots] at X33 l33 y33 z33 st33 hQ33
    subst l33 y33 z33
    obtain ⟨rfl, N33q, K33⟩ := hQ33
    have N33 := Fr.app N30 N33q
    refine Goes.tr st33 ?_
    show Goes _ _ _ _ (T33.setTop (mkF m 156 #[.val (.int p0), .val (.int p1), .val (.int p2), .val (.int p3), .val (.int p4), .val (.int (Int32.ofNat n)), .val (.ref b1), .val (.ref r19), .val (.int (0 : Int32)), .val (.ref d30), uS, uS] [(.ref x130)]))
    refine Goes.st (fun sT kT => XS.ifnonnullYes X33.here hx rfl (pc0 := 156) (pc' := 161) rfl (hb hby at_156) rfl (by decide) (by decide) kT) ?_
    show Goes _ _ _ _ (T33.setTop (mkF m 161 #[.val (.int p0), .val (.int p1), .val (.int p2), .val (.int p3), .val (.int p4), .val (.int (Int32.ofNat n)), .val (.ref b1), .val (.ref r19), .val (.int (0 : Int32)), .val (.ref d30), uS, uS] []))
    refine Goes.st (fun sT kT => XS.iload X33.here hx rfl (hb hby at_161) rfl kT) ?_
    show Goes _ _ _ _ (T33.setTop (mkF m 163 #[.val (.int p0), .val (.int p1), .val (.int p2), .val (.int p3), .val (.int p4), .val (.int (Int32.ofNat n)), .val (.ref b1), .val (.ref r19), .val (.int (0 : Int32)), .val (.ref d30), uS, uS] [(.int (0 : Int32))]))
    refine Goes.st (fun sT kT => XS.ifYes X33.here hx rfl (pc0 := 163) (pc' := 193) rfl (hb hby at_163) rfl ((if0 _ _).trans (flt (by decide : ¬ ((0 : Int32) < (0 : Int32)))).2.1) (by decide) (by decide) kT) ?_
    show Goes _ _ _ _ (T33.setTop (mkF m 193 #[.val (.int p0), .val (.int p1), .val (.int p2), .val (.int p3), .val (.int p4), .val (.int (Int32.ofNat n)), .val (.ref b1), .val (.ref r19), .val (.int (0 : Int32)), .val (.ref d30), uS, uS] []))
    refine Goes.st (fun sT kT => XS.iload X33.here hx rfl (hb hby at_193) rfl kT) ?_
    show Goes _ _ _ _ (T33.setTop (mkF m 195 #[.val (.int p0), .val (.int p1), .val (.int p2), .val (.int p3), .val (.int p4), .val (.int (Int32.ofNat n)), .val (.ref b1), .val (.ref r19), .val (.int (0 : Int32)), .val (.ref d30), uS, uS] [(.int (0 : Int32))]))
    refine Goes.st (fun sT kT => XS.aload X33.here hx rfl (hb hby at_195) rfl rfl kT) ?_
    show Goes _ _ _ _ (T33.setTop (mkF m 197 #[.val (.int p0), .val (.int p1), .val (.int p2), .val (.int p3), .val (.int p4), .val (.int (Int32.ofNat n)), .val (.ref b1), .val (.ref r19), .val (.int (0 : Int32)), .val (.ref d30), uS, uS] [(.ref b1), (.int (0 : Int32))]))
    refine Goes.st (fun sT kT => XS.iconst X33.here hx rfl (hb hby at_197) kT) ?_
    show Goes _ _ _ _ (T33.setTop (mkF m 198 #[.val (.int p0), .val (.int p1), .val (.int p2), .val (.int p3), .val (.int p4), .val (.int (Int32.ofNat n)), .val (.ref b1), .val (.ref r19), .val (.int (0 : Int32)), .val (.ref d30), uS, uS] [(.int (0 : Int32)), (.ref b1), (.int (0 : Int32))]))
    have f35 : Arv Z T30.heap b1 k1 .char (4 : Int32) [(.int cc3), (.int cc7), (.int cc11), (.int cc15)] (.int (0 : Int32)) := ((V17.keep K19 nin0).keep K30 nin0)
    have f36 : Old Z n0 T30.heap := (f31.keep K30 all0)
    obtain ⟨_, _, ⟨T34, L34, k34, n34⟩, -, X34, hSr34, hgr34, ⟨Lc34, hQ34, l34, y34, z34, C34⟩, st34⟩ := callSS X33 hx (y := (⟨"com/example/bolter/bolter/service/ParameterNameOfPinLaw", "mk", "(I[CI)Ljava/lang/String;"⟩ : MethodName)) hown30 (mvT hZ30 (hw6 hw)) (mvT hZ30 (hw7 hw)) (mvT hZ30 (hw4 hw)) (mvT hZ30 (hw8 hw)) (by decide) (own_backW (W := 0) (xs := []) (rm_mk0 l Z a0 hw [] 0 b1 k1 cc3 cc7 cc11 cc15 G1 T30.heap n0 (Nat.le_trans Z0 (Nat.le_trans (Nat.le_trans (Nat.le_trans (Nat.le_trans (Nat.le_trans (Nat.le_trans E1.1 (Nat.le_of_eq W5.size.symm)) (Nat.le_of_eq W9.size.symm)) (Nat.le_of_eq W13.size.symm)) (Nat.le_of_eq W17.size.symm)) K19.1) K30.1)) f35 f36 O2 P5 (by decide) rg_3 rg_7 rg_11 rg_15) hZ30 (hw8 hw) (hw4 hw) (by decide) (by decide) (own_EW hw) CR32.1 all0) (g := (mkF m 198 #[.val (.int p0), .val (.int p1), .val (.int p2), .val (.int p3), .val (.int p4), .val (.int (Int32.ofNat n)), .val (.ref b1), .val (.ref r19), .val (.int (0 : Int32)), .val (.ref d30), uS, uS] [(.int (0 : Int32)), (.ref b1), (.int (0 : Int32))])) rfl (by rw [hml]; rfl) (argsL := [(.int (0 : Int32)), (.ref b1), (.int (0 : Int32))]) (rest := []) (lenOf pd_19 rfl) rfl (by show 2 * 0 + _ ≤ _; exact Nat.le_of_eq rfl) (hb hby at_198) (fun _ _ => ⟨rfl, K33, (by decide : 12 + 6 ≤ _), (by decide : 34 + 12 ≤ _)⟩)
    dsimp only [Pt.U, Pt.locs, Pt.cells, Pt.slots] at X34 l34 y34 z34 st34 hQ34 hSr34 hgr34 C34
    subst l34 y34 z34
    obtain ⟨X34, hS34, hZ34, hown34⟩ := rebS hS30 (by rw [K33]; exact (Nat.le_refl _)) X34 hSr34 hgr34 hZ30 hown30
    obtain ⟨r34, t34, kb34, rfl, N34q, K34, F34_0, lo34_0, ne34_0⟩ := hQ34
    have N34 := Fr.app N33 N34q
    have F34_0E := F34_0.1
    have CR37 : CHr Z EL s.vm h0 T34.vm T34.heap := CR32.trans (C34)
    refine Goes.tr st34 ?_
    show Goes _ _ _ _ (T34.setTop (mkF m 201 #[.val (.int p0), .val (.int p1), .val (.int p2), .val (.int p3), .val (.int p4), .val (.int (Int32.ofNat n)), .val (.ref b1), .val (.ref r19), .val (.int (0 : Int32)), .val (.ref d30), uS, uS] [(.ref r34)]))
    refine Goes.st (fun sT kT => XS.astore X34.here hx rfl (hb hby at_201) rfl rfl (l' := #[.val (.int p0), .val (.int p1), .val (.int p2), .val (.int p3), .val (.int p4), .val (.int (Int32.ofNat n)), .val (.ref b1), .val (.ref r19), .val (.int (0 : Int32)), .val (.ref d30), .val (.ref r34), uS]) rfl kT) ?_
    show Goes _ _ _ _ (T34.setTop (mkF m 203 #[.val (.int p0), .val (.int p1), .val (.int p2), .val (.int p3), .val (.int p4), .val (.int (Int32.ofNat n)), .val (.ref b1), .val (.ref r19), .val (.int (0 : Int32)), .val (.ref d30), .val (.ref r34), uS] []))
    refine Goes.st (fun sT kT => XS.iload X34.here hx rfl (hb hby at_203) rfl kT) ?_
    show Goes _ _ _ _ (T34.setTop (mkF m 205 #[.val (.int p0), .val (.int p1), .val (.int p2), .val (.int p3), .val (.int p4), .val (.int (Int32.ofNat n)), .val (.ref b1), .val (.ref r19), .val (.int (0 : Int32)), .val (.ref d30), .val (.ref r34), uS] [(.int (Int32.ofNat n))]))
    refine Goes.st (fun sT kT => XS.iload X34.here hx rfl (hb hby at_205) rfl kT) ?_
    show Goes _ _ _ _ (T34.setTop (mkF m 207 #[.val (.int p0), .val (.int p1), .val (.int p2), .val (.int p3), .val (.int p4), .val (.int (Int32.ofNat n)), .val (.ref b1), .val (.ref r19), .val (.int (0 : Int32)), .val (.ref d30), .val (.ref r34), uS] [(.int (0 : Int32)), (.int (Int32.ofNat n))]))
    refine Goes.st (fun sT kT => XS.isub X34.here hx rfl (hb hby at_207) rfl kT) ?_
    show Goes _ _ _ _ (T34.setTop (mkF m 208 #[.val (.int p0), .val (.int p1), .val (.int p2), .val (.int p3), .val (.int p4), .val (.int (Int32.ofNat n)), .val (.ref b1), .val (.ref r19), .val (.int (0 : Int32)), .val (.ref d30), .val (.ref r34), uS] [(.int ((Int32.ofNat n) - (0 : Int32)))]))
    refine Goes.st (fun sT kT => XS.iconst X34.here hx rfl (hb hby at_208) kT) ?_
    show Goes _ _ _ _ (T34.setTop (mkF m 209 #[.val (.int p0), .val (.int p1), .val (.int p2), .val (.int p3), .val (.int p4), .val (.int (Int32.ofNat n)), .val (.ref b1), .val (.ref r19), .val (.int (0 : Int32)), .val (.ref d30), .val (.ref r34), uS] [(.int (1 : Int32)), (.int ((Int32.ofNat n) - (0 : Int32)))]))
    refine Goes.st (fun sT kT => XS.isub X34.here hx rfl (hb hby at_209) rfl kT) ?_
    show Goes _ _ _ _ (T34.setTop (mkF m 210 #[.val (.int p0), .val (.int p1), .val (.int p2), .val (.int p3), .val (.int p4), .val (.int (Int32.ofNat n)), .val (.ref b1), .val (.ref r19), .val (.int (0 : Int32)), .val (.ref d30), .val (.ref r34), uS] [(.int (((Int32.ofNat n) - (0 : Int32)) - (1 : Int32)))]))
    rw [show (((Int32.ofNat n) - (0 : Int32)) - (1 : Int32)) = Int32.ofNat (n - 0 - 1) from own_ns2 (k := 0) (by omega)]
    show Goes _ _ _ _ (T34.setTop (mkF m 210 #[.val (.int p0), .val (.int p1), .val (.int p2), .val (.int p3), .val (.int p4), .val (.int (Int32.ofNat n)), .val (.ref b1), .val (.ref r19), .val (.int (0 : Int32)), .val (.ref d30), .val (.ref r34), uS] [(.int (Int32.ofNat (n - 0 - 1)))]))
    refine Goes.st (fun sT kT => XS.aload X34.here hx rfl (hb hby at_210) rfl rfl kT) ?_
    show Goes _ _ _ _ (T34.setTop (mkF m 212 #[.val (.int p0), .val (.int p1), .val (.int p2), .val (.int p3), .val (.int p4), .val (.int (Int32.ofNat n)), .val (.ref b1), .val (.ref r19), .val (.int (0 : Int32)), .val (.ref d30), .val (.ref r34), uS] [(.ref b1), (.int (Int32.ofNat (n - 0 - 1)))]))
    refine Goes.st (fun sT kT => XS.iload X34.here hx rfl (hb hby at_212) rfl kT) ?_
    show Goes _ _ _ _ (T34.setTop (mkF m 214 #[.val (.int p0), .val (.int p1), .val (.int p2), .val (.int p3), .val (.int p4), .val (.int (Int32.ofNat n)), .val (.ref b1), .val (.ref r19), .val (.int (0 : Int32)), .val (.ref d30), .val (.ref r34), uS] [(.int (0 : Int32)), (.ref b1), (.int (Int32.ofNat (n - 0 - 1)))]))
    refine Goes.st (fun sT kT => XS.iconst X34.here hx rfl (hb hby at_214) kT) ?_
    show Goes _ _ _ _ (T34.setTop (mkF m 215 #[.val (.int p0), .val (.int p1), .val (.int p2), .val (.int p3), .val (.int p4), .val (.int (Int32.ofNat n)), .val (.ref b1), .val (.ref r19), .val (.int (0 : Int32)), .val (.ref d30), .val (.ref r34), uS] [(.int (1 : Int32)), (.int (0 : Int32)), (.ref b1), (.int (Int32.ofNat (n - 0 - 1)))]))
    refine Goes.st (fun sT kT => XS.iadd X34.here hx rfl (hb hby at_215) rfl kT) ?_
    show Goes _ _ _ _ (T34.setTop (mkF m 216 #[.val (.int p0), .val (.int p1), .val (.int p2), .val (.int p3), .val (.int p4), .val (.int (Int32.ofNat n)), .val (.ref b1), .val (.ref r19), .val (.int (0 : Int32)), .val (.ref d30), .val (.ref r34), uS] [(.int (1 : Int32)), (.ref b1), (.int (Int32.ofNat (n - 0 - 1)))]))
    have f39 : Arv Z T34.heap b1 k1 .char (4 : Int32) [(.int cc3), (.int cc7), (.int cc11), (.int cc15)] (.int (0 : Int32)) := (f35.keep K34 nin0)
    have f40 : Old Z n0 T34.heap := (f36.keep K34 all0)
    obtain ⟨_, _, ⟨T38, L38, k38, n38⟩, -, X38, hSr38, hgr38, ⟨Lc38, hQ38, l38, y38, z38, C38⟩, st38⟩ := callSS X34 hx (y := (⟨"com/example/bolter/bolter/service/ParameterNameOfPinLaw", "mk", "(I[CI)Ljava/lang/String;"⟩ : MethodName)) hown34 (mvT hZ34 (hw6 hw)) (mvT hZ34 (hw7 hw)) (mvT hZ34 (hw4 hw)) (mvT hZ34 (hw8 hw)) (by decide) (own_backW (W := 0) (xs := []) (rm_mk1 l Z a0 hw [] (n - 0 - 1) b1 k1 cc3 cc7 cc11 cc15 G1 T34.heap n0 (Nat.le_trans Z0 (Nat.le_trans (Nat.le_trans (Nat.le_trans (Nat.le_trans (Nat.le_trans (Nat.le_trans (Nat.le_trans E1.1 (Nat.le_of_eq W5.size.symm)) (Nat.le_of_eq W9.size.symm)) (Nat.le_of_eq W13.size.symm)) (Nat.le_of_eq W17.size.symm)) K19.1) K30.1) K34.1)) f39 f40 O2 P5 (by omega) rg_3 rg_7 rg_11 rg_15) hZ34 (hw8 hw) (hw4 hw) (by decide) (by decide) (own_EW hw) CR37.1 all0) (g := (mkF m 216 #[.val (.int p0), .val (.int p1), .val (.int p2), .val (.int p3), .val (.int p4), .val (.int (Int32.ofNat n)), .val (.ref b1), .val (.ref r19), .val (.int (0 : Int32)), .val (.ref d30), .val (.ref r34), uS] [(.int (1 : Int32)), (.ref b1), (.int (Int32.ofNat (n - 0 - 1)))])) rfl (by rw [hml]; rfl) (argsL := [(.int (Int32.ofNat (n - 0 - 1))), (.ref b1), (.int (1 : Int32))]) (rest := []) (lenOf pd_19 rfl) rfl (by show 2 * 0 + _ ≤ _; exact Nat.le_of_eq rfl) (hb hby at_216) (fun _ _ => ⟨rfl, rfl, (by decide : 18 + 6 ≤ _), (by decide : 46 + 12 ≤ _)⟩)
    dsimp only [Pt.U, Pt.locs, Pt.cells, Pt.slots] at X38 l38 y38 z38 st38 hQ38 hSr38 hgr38 C38
    subst l38 y38 z38
    obtain ⟨X38, hS38, hZ38, hown38⟩ := rebS hS34 (Nat.le_refl _) X38 hSr38 hgr38 hZ34 hown34
    obtain ⟨r38, t38, kb38, rfl, N38q, K38, F38_0, lo38_0, ne38_0⟩ := hQ38
    have N38 := Fr.app N34 N38q
    have F38_0E := F38_0.1
    have CR41 : CHr Z EL s.vm h0 T38.vm T38.heap := CR37.trans (C38)
    refine Goes.tr st38 ?_
    show Goes _ _ _ _ (T38.setTop (mkF m 219 #[.val (.int p0), .val (.int p1), .val (.int p2), .val (.int p3), .val (.int p4), .val (.int (Int32.ofNat n)), .val (.ref b1), .val (.ref r19), .val (.int (0 : Int32)), .val (.ref d30), .val (.ref r34), uS] [(.ref r38)]))
    refine Goes.st (fun sT kT => XS.astore X38.here hx rfl (hb hby at_219) rfl rfl (l' := #[.val (.int p0), .val (.int p1), .val (.int p2), .val (.int p3), .val (.int p4), .val (.int (Int32.ofNat n)), .val (.ref b1), .val (.ref r19), .val (.int (0 : Int32)), .val (.ref d30), .val (.ref r34), .val (.ref r38)]) rfl kT) ?_
    show Goes _ _ _ _ (T38.setTop (mkF m 221 #[.val (.int p0), .val (.int p1), .val (.int p2), .val (.int p3), .val (.int p4), .val (.int (Int32.ofNat n)), .val (.ref b1), .val (.ref r19), .val (.int (0 : Int32)), .val (.ref d30), .val (.ref r34), .val (.ref r38)] []))
    refine Goes.st (fun sT kT => XS.aload X38.here hx rfl (hb hby at_221) rfl rfl kT) ?_
    show Goes _ _ _ _ (T38.setTop (mkF m 223 #[.val (.int p0), .val (.int p1), .val (.int p2), .val (.int p3), .val (.int p4), .val (.int (Int32.ofNat n)), .val (.ref b1), .val (.ref r19), .val (.int (0 : Int32)), .val (.ref d30), .val (.ref r34), .val (.ref r38)] [(.ref d30)]))
    have f43 : Fld Z T38.heap d30 "com/example/bolter/bolter/service/ParameterName" "modifier" "Ljava/lang/String;" (.ref x230) := ((F30_2.keep K34 nin0).keep K38 nin0)
    have f44 : Exa Z T38.heap d30 "com/example/bolter/bolter/service/ParameterName" := ((F30_0.keep K34).keep K38)
    obtain ⟨cq42, kq42, q42a, q42b, q42c⟩ := isOf hZ38 rfl f44
    obtain ⟨_, _, ⟨T42, L42, k42, n42⟩, -, X42, ⟨Lc42, hQ42, l42, y42, z42⟩, st42⟩ := X38.virtualBack hx (y := (⟨"com/example/bolter/bolter/service/ParameterName", "modifier", "()Ljava/lang/String;"⟩ : MethodName)) (z := (⟨"com/example/bolter/bolter/service/ParameterName", "modifier", "()Ljava/lang/String;"⟩ : MethodName)) hown38 (mvT hZ38 (hw99 hw)) (mvT hZ38 (hw100 hw)) (notFace_of_selects (args := #[]) (mvT hZ38 (hw102 hw))) (mvT hZ38 (hw102 hw)) (mvT hZ38 (hw101 hw)) (by decide) (backOf (W := 0) (rm_gmodR l Z a0 hw [] d30 x230 T38.heap n0 (Nat.le_trans Z0 (Nat.le_trans (Nat.le_trans (Nat.le_trans (Nat.le_trans (Nat.le_trans (Nat.le_trans (Nat.le_trans (Nat.le_trans E1.1 (Nat.le_of_eq W5.size.symm)) (Nat.le_of_eq W9.size.symm)) (Nat.le_of_eq W13.size.symm)) (Nat.le_of_eq W17.size.symm)) K19.1) K30.1) K34.1) K38.1)) f43) hZ38 (hw103 hw) (hw32 hw) (by decide) (by decide)) q42a q42c (g := (mkF m 223 #[.val (.int p0), .val (.int p1), .val (.int p2), .val (.int p3), .val (.int p4), .val (.int (Int32.ofNat n)), .val (.ref b1), .val (.ref r19), .val (.int (0 : Int32)), .val (.ref d30), .val (.ref r34), .val (.ref r38)] [(.ref d30)])) rfl (by rw [hml]; rfl) (Steps.refl _) (argsL := []) (rest := []) (lenOf pd_21 rfl) rfl (by show 2 * 0 + _ ≤ _; exact Nat.le_of_eq rfl) (hb hby at_223) (fun _ _ => ⟨rfl, rfl, (by decide : 24 + 0 ≤ _), (by decide : 58 + 0 ≤ _)⟩)
    dsimp only [Pt.U, Pt.locs, Pt.cells, Pt.slots] at X42 l42 y42 z42 st42 hQ42
    subst l42 y42 z42
    obtain ⟨rfl, N42q, K42⟩ := hQ42
    have N42 := Fr.app N38 N42q
    refine Goes.tr st42 ?_
    show Goes _ _ _ _ (T42.setTop (mkF m 226 #[.val (.int p0), .val (.int p1), .val (.int p2), .val (.int p3), .val (.int p4), .val (.int (Int32.ofNat n)), .val (.ref b1), .val (.ref r19), .val (.int (0 : Int32)), .val (.ref d30), .val (.ref r34), .val (.ref r38)] [(.ref x230)]))
    refine Goes.st (fun sT kT => XS.ifnullNo X42.here hx rfl (hb hby at_226) rfl kT) ?_
    show Goes _ _ _ _ (T42.setTop (mkF m 229 #[.val (.int p0), .val (.int p1), .val (.int p2), .val (.int p3), .val (.int p4), .val (.int (Int32.ofNat n)), .val (.ref b1), .val (.ref r19), .val (.int (0 : Int32)), .val (.ref d30), .val (.ref r34), .val (.ref r38)] []))
    refine Goes.st (fun sT kT => XS.aload X42.here hx rfl (hb hby at_229) rfl rfl kT) ?_
    show Goes _ _ _ _ (T42.setTop (mkF m 231 #[.val (.int p0), .val (.int p1), .val (.int p2), .val (.int p3), .val (.int p4), .val (.int (Int32.ofNat n)), .val (.ref b1), .val (.ref r19), .val (.int (0 : Int32)), .val (.ref d30), .val (.ref r34), .val (.ref r38)] [(.ref d30)]))
    have f46 : Fld Z T38.heap d30 "com/example/bolter/bolter/service/ParameterName" "code" "Ljava/lang/String;" (.ref x130) := ((F30_1.keep K34 nin0).keep K38 nin0)
    obtain ⟨cq45, kq45, q45a, q45b, q45c⟩ := isOf hZ38 K42 f44
    obtain ⟨_, _, ⟨T45, L45, k45, n45⟩, -, X45, ⟨Lc45, hQ45, l45, y45, z45⟩, st45⟩ := X42.virtualBack hx (y := (⟨"com/example/bolter/bolter/service/ParameterName", "code", "()Ljava/lang/String;"⟩ : MethodName)) (z := (⟨"com/example/bolter/bolter/service/ParameterName", "code", "()Ljava/lang/String;"⟩ : MethodName)) hown38 (mvT hZ38 (hw89 hw)) (mvT hZ38 (hw90 hw)) (notFace_of_selects (args := #[]) (mvT hZ38 (hw92 hw))) (mvT hZ38 (hw92 hw)) (mvT hZ38 (hw91 hw)) (by decide) (backOf (W := 0) (rm_gcode l Z a0 hw [] d30 x130 T38.heap n0 (Nat.le_trans Z0 (Nat.le_trans (Nat.le_trans (Nat.le_trans (Nat.le_trans (Nat.le_trans (Nat.le_trans (Nat.le_trans (Nat.le_trans E1.1 (Nat.le_of_eq W5.size.symm)) (Nat.le_of_eq W9.size.symm)) (Nat.le_of_eq W13.size.symm)) (Nat.le_of_eq W17.size.symm)) K19.1) K30.1) K34.1) K38.1)) f46) hZ38 (hw93 hw) (hw32 hw) (by decide) (by decide)) q45a q45c (g := (mkF m 231 #[.val (.int p0), .val (.int p1), .val (.int p2), .val (.int p3), .val (.int p4), .val (.int (Int32.ofNat n)), .val (.ref b1), .val (.ref r19), .val (.int (0 : Int32)), .val (.ref d30), .val (.ref r34), .val (.ref r38)] [(.ref d30)])) rfl (by rw [hml]; rfl) (Steps.refl _) (argsL := []) (rest := []) (lenOf pd_21 rfl) rfl (by show 2 * 0 + _ ≤ _; exact Nat.le_of_eq rfl) (hb hby at_231) (fun _ _ => ⟨rfl, K42, (by decide : 24 + 0 ≤ _), (by decide : 58 + 0 ≤ _)⟩)
    dsimp only [Pt.U, Pt.locs, Pt.cells, Pt.slots] at X45 l45 y45 z45 st45 hQ45
    subst l45 y45 z45
    obtain ⟨rfl, N45q, K45⟩ := hQ45
    have N45 := Fr.app N42 N45q
    refine Goes.tr st45 ?_
    show Goes _ _ _ _ (T45.setTop (mkF m 234 #[.val (.int p0), .val (.int p1), .val (.int p2), .val (.int p3), .val (.int p4), .val (.int (Int32.ofNat n)), .val (.ref b1), .val (.ref r19), .val (.int (0 : Int32)), .val (.ref d30), .val (.ref r34), .val (.ref r38)] [(.ref x130)]))
    refine Goes.st (fun sT kT => XS.aload X45.here hx rfl (hb hby at_234) rfl rfl kT) ?_
    show Goes _ _ _ _ (T45.setTop (mkF m 236 #[.val (.int p0), .val (.int p1), .val (.int p2), .val (.int p3), .val (.int p4), .val (.int (Int32.ofNat n)), .val (.ref b1), .val (.ref r19), .val (.int (0 : Int32)), .val (.ref d30), .val (.ref r34), .val (.ref r38)] [(.ref r34), (.ref x130)]))
    have f48 : Str Z T38.heap x130 y130 k130 ((([cc3, cc7, cc11, cc15].drop 0).take n).take 0) := ((F30_3.keep K34 nin0 nin0).keep K38 nin0 nin0)
    have f49 : Str Z T38.heap r34 t34 kb34 (([cc3, cc7, cc11, cc15].drop 0).take 0) := (F34_0.keep K38 nin0 nin0)
    have f50 : Old Z n0 T38.heap := (f40.keep K38 all0)
    have f51 : Exa Z T38.heap x130 "java/lang/String" := ((F30_3E.keep K34).keep K38)
    obtain ⟨cq47, kq47, q47a, q47b, q47c⟩ := isOf hZ38 K45 f51
    obtain ⟨_, _, ⟨T47, L47, k47, n47⟩, -, X47, ⟨Lc47, hQ47, l47, y47, z47⟩, st47⟩ := X45.virtualBack hx (y := (⟨"java/lang/String", "equals", "(Ljava/lang/Object;)Z"⟩ : MethodName)) (z := (⟨"java/lang/String", "equals", "(Ljava/lang/Object;)Z"⟩ : MethodName)) hown38 (mvT hZ38 (hw94 hw)) (mvT hZ38 (hw95 hw)) (notFace_of_selects (args := #[]) (mvT hZ38 (hw97 hw))) (mvT hZ38 (hw97 hw)) (mvT hZ38 (hw96 hw)) (by decide) (StrChars.Road.eqW (W := 0) hZ38 (own_heq hw) (kI := 4) (hw10 hw) f48.1 f48.2.1 f48.2.2.1 f48.2.2.2.1 (own_cod f48) (own_up f48.2.2.2.2.1) f48.2.2.2.2.2 f49.1 f49.2.1 f49.2.2.1 f49.2.2.2.1 (own_cod f49) (own_up f49.2.2.2.2.1) f49.2.2.2.2.2 (O2.ext f50.2) P5 (by decide) (by decide)) q47a q47c (g := (mkF m 236 #[.val (.int p0), .val (.int p1), .val (.int p2), .val (.int p3), .val (.int p4), .val (.int (Int32.ofNat n)), .val (.ref b1), .val (.ref r19), .val (.int (0 : Int32)), .val (.ref d30), .val (.ref r34), .val (.ref r38)] [(.ref r34), (.ref x130)])) rfl (by rw [hml]; rfl) (Steps.refl _) (argsL := [(.ref r34)]) (rest := []) (lenOf pd_22 rfl) rfl (by show 2 * 0 + _ ≤ _; exact Nat.le_of_eq rfl) (hb hby at_236) (fun _ _ => ⟨rfl, K45, (by decide : 24 + 0 ≤ _), (by decide : 58 + 0 ≤ _)⟩)
    dsimp only [Pt.U, Pt.locs, Pt.cells, Pt.slots] at X47 l47 y47 z47 st47 hQ47
    subst l47 y47 z47
    obtain ⟨hv47, rfl, K47⟩ := hQ47
    have hv47' := own_ite hv47
    subst hv47'
    have N47 := Fr.app N45 (Fr.nil n0)
    refine Goes.tr st47 ?_
    show Goes _ _ _ _ (T47.setTop (mkF m 239 #[.val (.int p0), .val (.int p1), .val (.int p2), .val (.int p3), .val (.int p4), .val (.int (Int32.ofNat n)), .val (.ref b1), .val (.ref r19), .val (.int (0 : Int32)), .val (.ref d30), .val (.ref r34), .val (.ref r38)] [(.int (if (((([cc3, cc7, cc11, cc15].drop 0).take n).take 0) : List Int32) = (([cc3, cc7, cc11, cc15].drop 0).take 0) then (1 : Int32) else 0))]))
    refine Goes.st (fun sT kT => XS.ifNo X47.here hx rfl (hb hby at_239) rfl ((if0 _ _).trans (feq (own_one (own_tt hkn hn))).1) kT) ?_
    show Goes _ _ _ _ (T47.setTop (mkF m 242 #[.val (.int p0), .val (.int p1), .val (.int p2), .val (.int p3), .val (.int p4), .val (.int (Int32.ofNat n)), .val (.ref b1), .val (.ref r19), .val (.int (0 : Int32)), .val (.ref d30), .val (.ref r34), .val (.ref r38)] []))
    refine Goes.st (fun sT kT => XS.aload X47.here hx rfl (hb hby at_242) rfl rfl kT) ?_
    show Goes _ _ _ _ (T47.setTop (mkF m 244 #[.val (.int p0), .val (.int p1), .val (.int p2), .val (.int p3), .val (.int p4), .val (.int (Int32.ofNat n)), .val (.ref b1), .val (.ref r19), .val (.int (0 : Int32)), .val (.ref d30), .val (.ref r34), .val (.ref r38)] [(.ref d30)]))
    obtain ⟨cq52, kq52, q52a, q52b, q52c⟩ := isOf hZ38 K47 f44
    obtain ⟨_, _, ⟨T52, L52, k52, n52⟩, -, X52, ⟨Lc52, hQ52, l52, y52, z52⟩, st52⟩ := X47.virtualBack hx (y := (⟨"com/example/bolter/bolter/service/ParameterName", "modifier", "()Ljava/lang/String;"⟩ : MethodName)) (z := (⟨"com/example/bolter/bolter/service/ParameterName", "modifier", "()Ljava/lang/String;"⟩ : MethodName)) hown38 (mvT hZ38 (hw99 hw)) (mvT hZ38 (hw100 hw)) (notFace_of_selects (args := #[]) (mvT hZ38 (hw102 hw))) (mvT hZ38 (hw102 hw)) (mvT hZ38 (hw101 hw)) (by decide) (backOf (W := 0) (rm_gmodR l Z a0 hw [] d30 x230 T38.heap n0 (Nat.le_trans Z0 (Nat.le_trans (Nat.le_trans (Nat.le_trans (Nat.le_trans (Nat.le_trans (Nat.le_trans (Nat.le_trans (Nat.le_trans E1.1 (Nat.le_of_eq W5.size.symm)) (Nat.le_of_eq W9.size.symm)) (Nat.le_of_eq W13.size.symm)) (Nat.le_of_eq W17.size.symm)) K19.1) K30.1) K34.1) K38.1)) f43) hZ38 (hw103 hw) (hw32 hw) (by decide) (by decide)) q52a q52c (g := (mkF m 244 #[.val (.int p0), .val (.int p1), .val (.int p2), .val (.int p3), .val (.int p4), .val (.int (Int32.ofNat n)), .val (.ref b1), .val (.ref r19), .val (.int (0 : Int32)), .val (.ref d30), .val (.ref r34), .val (.ref r38)] [(.ref d30)])) rfl (by rw [hml]; rfl) (Steps.refl _) (argsL := []) (rest := []) (lenOf pd_21 rfl) rfl (by show 2 * 0 + _ ≤ _; exact Nat.le_of_eq rfl) (hb hby at_244) (fun _ _ => ⟨rfl, K47, (by decide : 24 + 0 ≤ _), (by decide : 58 + 0 ≤ _)⟩)
    dsimp only [Pt.U, Pt.locs, Pt.cells, Pt.slots] at X52 l52 y52 z52 st52 hQ52
    subst l52 y52 z52
    obtain ⟨rfl, N52q, K52⟩ := hQ52
    have N52 := Fr.app N47 N52q
    refine Goes.tr st52 ?_
    show Goes _ _ _ _ (T52.setTop (mkF m 247 #[.val (.int p0), .val (.int p1), .val (.int p2), .val (.int p3), .val (.int p4), .val (.int (Int32.ofNat n)), .val (.ref b1), .val (.ref r19), .val (.int (0 : Int32)), .val (.ref d30), .val (.ref r34), .val (.ref r38)] [(.ref x230)]))
    refine Goes.st (fun sT kT => XS.aload X52.here hx rfl (hb hby at_247) rfl rfl kT) ?_
    show Goes _ _ _ _ (T52.setTop (mkF m 249 #[.val (.int p0), .val (.int p1), .val (.int p2), .val (.int p3), .val (.int p4), .val (.int (Int32.ofNat n)), .val (.ref b1), .val (.ref r19), .val (.int (0 : Int32)), .val (.ref d30), .val (.ref r34), .val (.ref r38)] [(.ref r38), (.ref x230)]))
    have f54 : Str Z T38.heap x230 y230 k230 ((([cc3, cc7, cc11, cc15].drop 0).take n).drop (0 + 1)) := ((F30_4.keep K34 nin0 nin0).keep K38 nin0 nin0)
    have f55 : Exa Z T38.heap x230 "java/lang/String" := ((F30_4E.keep K34).keep K38)
    obtain ⟨cq53, kq53, q53a, q53b, q53c⟩ := isOf hZ38 K52 f55
    obtain ⟨_, _, ⟨T53, L53, k53, n53⟩, -, X53, ⟨Lc53, hQ53, l53, y53, z53⟩, st53⟩ := X52.virtualBack hx (y := (⟨"java/lang/String", "equals", "(Ljava/lang/Object;)Z"⟩ : MethodName)) (z := (⟨"java/lang/String", "equals", "(Ljava/lang/Object;)Z"⟩ : MethodName)) hown38 (mvT hZ38 (hw94 hw)) (mvT hZ38 (hw95 hw)) (notFace_of_selects (args := #[]) (mvT hZ38 (hw97 hw))) (mvT hZ38 (hw97 hw)) (mvT hZ38 (hw96 hw)) (by decide) (StrChars.Road.eqW (W := 0) hZ38 (own_heq hw) (kI := 4) (hw10 hw) f54.1 f54.2.1 f54.2.2.1 f54.2.2.2.1 (own_cod f54) (own_up f54.2.2.2.2.1) f54.2.2.2.2.2 F38_0.1 F38_0.2.1 F38_0.2.2.1 F38_0.2.2.2.1 (own_cod F38_0) (own_up F38_0.2.2.2.2.1) F38_0.2.2.2.2.2 (O2.ext f50.2) P5 (by decide) (by decide)) q53a q53c (g := (mkF m 249 #[.val (.int p0), .val (.int p1), .val (.int p2), .val (.int p3), .val (.int p4), .val (.int (Int32.ofNat n)), .val (.ref b1), .val (.ref r19), .val (.int (0 : Int32)), .val (.ref d30), .val (.ref r34), .val (.ref r38)] [(.ref r38), (.ref x230)])) rfl (by rw [hml]; rfl) (Steps.refl _) (argsL := [(.ref r38)]) (rest := []) (lenOf pd_22 rfl) rfl (by show 2 * 0 + _ ≤ _; exact Nat.le_of_eq rfl) (hb hby at_249) (fun _ _ => ⟨rfl, K52, (by decide : 24 + 0 ≤ _), (by decide : 58 + 0 ≤ _)⟩)
    dsimp only [Pt.U, Pt.locs, Pt.cells, Pt.slots] at X53 l53 y53 z53 st53 hQ53
    subst l53 y53 z53
    obtain ⟨hv53, rfl, K53⟩ := hQ53
    have hv53' := own_ite hv53
    subst hv53'
    have N53 := Fr.app N52 (Fr.nil n0)
    refine Goes.tr st53 ?_
    show Goes _ _ _ _ (T53.setTop (mkF m 252 #[.val (.int p0), .val (.int p1), .val (.int p2), .val (.int p3), .val (.int p4), .val (.int (Int32.ofNat n)), .val (.ref b1), .val (.ref r19), .val (.int (0 : Int32)), .val (.ref d30), .val (.ref r34), .val (.ref r38)] [(.int (if (((([cc3, cc7, cc11, cc15].drop 0).take n).drop (0 + 1)) : List Int32) = (([cc3, cc7, cc11, cc15].drop 1).take (n - 0 - 1)) then (1 : Int32) else 0))]))
    refine Goes.st (fun sT kT => XS.ifNo X53.here hx rfl (hb hby at_252) rfl ((if0 _ _).trans (feq (own_one (own_dd hkn hn))).1) kT) ?_
    show Goes _ _ _ _ (T53.setTop (mkF m 255 #[.val (.int p0), .val (.int p1), .val (.int p2), .val (.int p3), .val (.int p4), .val (.int (Int32.ofNat n)), .val (.ref b1), .val (.ref r19), .val (.int (0 : Int32)), .val (.ref d30), .val (.ref r34), .val (.ref r38)] []))
    refine Goes.st (fun sT kT => XS.iconst X53.here hx rfl (hb hby at_255) kT) ?_
    show Goes _ _ _ _ (T53.setTop (mkF m 256 #[.val (.int p0), .val (.int p1), .val (.int p2), .val (.int p3), .val (.int p4), .val (.int (Int32.ofNat n)), .val (.ref b1), .val (.ref r19), .val (.int (0 : Int32)), .val (.ref d30), .val (.ref r34), .val (.ref r38)] [(.int (1 : Int32))]))
    refine Goes.st (fun sT kT => XS.goto X53.here hx rfl (pc0 := 256) (pc' := 260) rfl (hb hby at_256) (by decide) (by decide) kT) ?_
    show Goes _ _ _ _ (T53.setTop (mkF m 260 #[.val (.int p0), .val (.int p1), .val (.int p2), .val (.int p3), .val (.int p4), .val (.int (Int32.ofNat n)), .val (.ref b1), .val (.ref r19), .val (.int (0 : Int32)), .val (.ref d30), .val (.ref r34), .val (.ref r38)] [(.int (1 : Int32))]))
    obtain ⟨fs, hr, hrun, hended, hRW⟩ := X53.leaveW hS38 (by rw [K53]; exact (Nat.le_refl _)) (v := some (.int (1 : Int32))) (fun h => by rw [Bd.returns] at h; cases h)
    subst hQQ
    have hCR : CHr Z EL s.vm s.heap T53.vm T53.heap := by rw [hh, K53]; exact CR41.trans (CHv.at X53 hZ38 (own_EW hw) CR41.1)
    refine ⟨_, _, retN X53 hx (t := .boolean) Bd.returns (by simp) (hb hby at_260) hr, hrun, hended, _, _, rfl, ?_, hCR, own_REmono hRW (by decide) (by decide)⟩
    show Q_law Z p0 p1 p2 p3 p4 G1 vF h0 n0 _ T53.heap _
    rw [K53]
    exact ⟨rfl, N53⟩
   case neg =>
    by_cases hk1z : k = 1
    case pos =>
     subst hk1z
     show Goes _ _ _ _ (T19.setTop (mkF m 139 #[.val (.int p0), .val (.int p1), .val (.int p2), .val (.int p3), .val (.int p4), .val (.int (Int32.ofNat n)), .val (.ref b1), .val (.ref r19), .val (.int (1 : Int32)), uS, uS, uS] []))
     refine Goes.st (fun sT kT => XS.aload X19.here hx rfl (hb hby at_139) rfl rfl kT) ?_
     show Goes _ _ _ _ (T19.setTop (mkF m 141 #[.val (.int p0), .val (.int p1), .val (.int p2), .val (.int p3), .val (.int p4), .val (.int (Int32.ofNat n)), .val (.ref b1), .val (.ref r19), .val (.int (1 : Int32)), uS, uS, uS] [(.ref r19)]))
     have f57 : Old Z n0 T19.heap := (f20.keep K19 all0)
     obtain ⟨_, _, ⟨T56, L56, k56, n56⟩, -, X56, hSr56, hgr56, ⟨Lc56, hQ56, l56, y56, z56, C56⟩, st56⟩ := callSS X19 hx (y := (⟨"com/example/bolter/bolter/service/ParameterName", "of", "(Ljava/lang/String;)Lcom/example/bolter/bolter/service/ParameterName;"⟩ : MethodName)) hown19 (mvT hZ19 (hw30 hw)) (mvT hZ19 (hw31 hw)) (mvT hZ19 (hw32 hw)) (mvT hZ19 (hw33 hw)) (by decide) (own_backW (W := 0) (xs := []) (rm_ofK l Z a0 hw [] r19 t19 kb19 (([cc3, cc7, cc11, cc15].drop 0).take n) G1 vF 1 T19.heap n0 (Nat.le_trans Z0 (Nat.le_trans (Nat.le_trans (Nat.le_trans (Nat.le_trans (Nat.le_trans E1.1 (Nat.le_of_eq W5.size.symm)) (Nat.le_of_eq W9.size.symm)) (Nat.le_of_eq W13.size.symm)) (Nat.le_of_eq W17.size.symm)) K19.1)) F19_0 f57 O2 P5 OF rF hix (by rw [own_len4 hn]; exact hkn) (by rw [own_len4 hn]; exact hn)) hZ19 (hw33 hw) (hw32 hw) (by decide) (by decide) (own_EW hw) CR21.1 all0) (g := (mkF m 141 #[.val (.int p0), .val (.int p1), .val (.int p2), .val (.int p3), .val (.int p4), .val (.int (Int32.ofNat n)), .val (.ref b1), .val (.ref r19), .val (.int (1 : Int32)), uS, uS, uS] [(.ref r19)])) rfl (by rw [hml]; rfl) (argsL := [(.ref r19)]) (rest := []) (lenOf pd_20 rfl) rfl (by show 2 * 0 + _ ≤ _; exact Nat.le_of_eq rfl) (hb hby at_141) (fun _ _ => ⟨rfl, rfl, (by decide : 7 + 5 ≤ _), (by decide : 16 + 18 ≤ _)⟩)
     dsimp only [Pt.U, Pt.locs, Pt.cells, Pt.slots] at X56 l56 y56 z56 st56 hQ56 hSr56 hgr56 C56
     subst l56 y56 z56
     obtain ⟨X56, hS56, hZ56, hown56⟩ := rebS hS19 (Nat.le_refl _) X56 hSr56 hgr56 hZ19 hown19
     obtain ⟨d56, x156, y156, k156, x256, y256, k256, rfl, N56q, K56, F56_0, F56_1, F56_2, F56_3, F56_4, lo56_0⟩ := hQ56
     have N56 := Fr.app N19 N56q
     have F56_3E := F56_3.1
     have F56_4E := F56_4.1
     have CR58 : CHr Z EL s.vm h0 T56.vm T56.heap := CR21.trans (C56)
     refine Goes.tr st56 ?_
     show Goes _ _ _ _ (T56.setTop (mkF m 144 #[.val (.int p0), .val (.int p1), .val (.int p2), .val (.int p3), .val (.int p4), .val (.int (Int32.ofNat n)), .val (.ref b1), .val (.ref r19), .val (.int (1 : Int32)), uS, uS, uS] [(.ref d56)]))
     refine Goes.st (fun sT kT => XS.astore X56.here hx rfl (hb hby at_144) rfl rfl (l' := #[.val (.int p0), .val (.int p1), .val (.int p2), .val (.int p3), .val (.int p4), .val (.int (Int32.ofNat n)), .val (.ref b1), .val (.ref r19), .val (.int (1 : Int32)), .val (.ref d56), uS, uS]) rfl kT) ?_
     show Goes _ _ _ _ (T56.setTop (mkF m 146 #[.val (.int p0), .val (.int p1), .val (.int p2), .val (.int p3), .val (.int p4), .val (.int (Int32.ofNat n)), .val (.ref b1), .val (.ref r19), .val (.int (1 : Int32)), .val (.ref d56), uS, uS] []))
     refine Goes.st (fun sT kT => XS.aload X56.here hx rfl (hb hby at_146) rfl rfl kT) ?_
     show Goes _ _ _ _ (T56.setTop (mkF m 148 #[.val (.int p0), .val (.int p1), .val (.int p2), .val (.int p3), .val (.int p4), .val (.int (Int32.ofNat n)), .val (.ref b1), .val (.ref r19), .val (.int (1 : Int32)), .val (.ref d56), uS, uS] [(.ref d56)]))
     refine Goes.st (fun sT kT => XS.ifnullNo X56.here hx rfl (hb hby at_148) rfl kT) ?_
     show Goes _ _ _ _ (T56.setTop (mkF m 151 #[.val (.int p0), .val (.int p1), .val (.int p2), .val (.int p3), .val (.int p4), .val (.int (Int32.ofNat n)), .val (.ref b1), .val (.ref r19), .val (.int (1 : Int32)), .val (.ref d56), uS, uS] []))
     refine Goes.st (fun sT kT => XS.aload X56.here hx rfl (hb hby at_151) rfl rfl kT) ?_
     show Goes _ _ _ _ (T56.setTop (mkF m 153 #[.val (.int p0), .val (.int p1), .val (.int p2), .val (.int p3), .val (.int p4), .val (.int (Int32.ofNat n)), .val (.ref b1), .val (.ref r19), .val (.int (1 : Int32)), .val (.ref d56), uS, uS] [(.ref d56)]))
     obtain ⟨cq59, kq59, q59a, q59b, q59c⟩ := isOf hZ56 rfl F56_0
     obtain ⟨_, _, ⟨T59, L59, k59, n59⟩, -, X59, ⟨Lc59, hQ59, l59, y59, z59⟩, st59⟩ := X56.virtualBack hx (y := (⟨"com/example/bolter/bolter/service/ParameterName", "code", "()Ljava/lang/String;"⟩ : MethodName)) (z := (⟨"com/example/bolter/bolter/service/ParameterName", "code", "()Ljava/lang/String;"⟩ : MethodName)) hown56 (mvT hZ56 (hw89 hw)) (mvT hZ56 (hw90 hw)) (notFace_of_selects (args := #[]) (mvT hZ56 (hw92 hw))) (mvT hZ56 (hw92 hw)) (mvT hZ56 (hw91 hw)) (by decide) (backOf (W := 0) (rm_gcode l Z a0 hw [] d56 x156 T56.heap n0 (Nat.le_trans Z0 (Nat.le_trans (Nat.le_trans (Nat.le_trans (Nat.le_trans (Nat.le_trans (Nat.le_trans E1.1 (Nat.le_of_eq W5.size.symm)) (Nat.le_of_eq W9.size.symm)) (Nat.le_of_eq W13.size.symm)) (Nat.le_of_eq W17.size.symm)) K19.1) K56.1)) F56_1) hZ56 (hw93 hw) (hw32 hw) (by decide) (by decide)) q59a q59c (g := (mkF m 153 #[.val (.int p0), .val (.int p1), .val (.int p2), .val (.int p3), .val (.int p4), .val (.int (Int32.ofNat n)), .val (.ref b1), .val (.ref r19), .val (.int (1 : Int32)), .val (.ref d56), uS, uS] [(.ref d56)])) rfl (by rw [hml]; rfl) (Steps.refl _) (argsL := []) (rest := []) (lenOf pd_21 rfl) rfl (by show 2 * 0 + _ ≤ _; exact Nat.le_of_eq rfl) (hb hby at_153) (fun _ _ => ⟨rfl, rfl, (by decide : 12 + 0 ≤ _), (by decide : 34 + 0 ≤ _)⟩)
     dsimp only [Pt.U, Pt.locs, Pt.cells, Pt.slots] at X59 l59 y59 z59 st59 hQ59
     subst l59 y59 z59
     obtain ⟨rfl, N59q, K59⟩ := hQ59
     have N59 := Fr.app N56 N59q
     refine Goes.tr st59 ?_
     show Goes _ _ _ _ (T59.setTop (mkF m 156 #[.val (.int p0), .val (.int p1), .val (.int p2), .val (.int p3), .val (.int p4), .val (.int (Int32.ofNat n)), .val (.ref b1), .val (.ref r19), .val (.int (1 : Int32)), .val (.ref d56), uS, uS] [(.ref x156)]))
     refine Goes.st (fun sT kT => XS.ifnonnullYes X59.here hx rfl (pc0 := 156) (pc' := 161) rfl (hb hby at_156) rfl (by decide) (by decide) kT) ?_
     show Goes _ _ _ _ (T59.setTop (mkF m 161 #[.val (.int p0), .val (.int p1), .val (.int p2), .val (.int p3), .val (.int p4), .val (.int (Int32.ofNat n)), .val (.ref b1), .val (.ref r19), .val (.int (1 : Int32)), .val (.ref d56), uS, uS] []))
     refine Goes.st (fun sT kT => XS.iload X59.here hx rfl (hb hby at_161) rfl kT) ?_
     show Goes _ _ _ _ (T59.setTop (mkF m 163 #[.val (.int p0), .val (.int p1), .val (.int p2), .val (.int p3), .val (.int p4), .val (.int (Int32.ofNat n)), .val (.ref b1), .val (.ref r19), .val (.int (1 : Int32)), .val (.ref d56), uS, uS] [(.int (1 : Int32))]))
     refine Goes.st (fun sT kT => XS.ifYes X59.here hx rfl (pc0 := 163) (pc' := 193) rfl (hb hby at_163) rfl ((if0 _ _).trans (flt (by decide : ¬ ((1 : Int32) < (0 : Int32)))).2.1) (by decide) (by decide) kT) ?_
     show Goes _ _ _ _ (T59.setTop (mkF m 193 #[.val (.int p0), .val (.int p1), .val (.int p2), .val (.int p3), .val (.int p4), .val (.int (Int32.ofNat n)), .val (.ref b1), .val (.ref r19), .val (.int (1 : Int32)), .val (.ref d56), uS, uS] []))
     refine Goes.st (fun sT kT => XS.iload X59.here hx rfl (hb hby at_193) rfl kT) ?_
     show Goes _ _ _ _ (T59.setTop (mkF m 195 #[.val (.int p0), .val (.int p1), .val (.int p2), .val (.int p3), .val (.int p4), .val (.int (Int32.ofNat n)), .val (.ref b1), .val (.ref r19), .val (.int (1 : Int32)), .val (.ref d56), uS, uS] [(.int (1 : Int32))]))
     refine Goes.st (fun sT kT => XS.aload X59.here hx rfl (hb hby at_195) rfl rfl kT) ?_
     show Goes _ _ _ _ (T59.setTop (mkF m 197 #[.val (.int p0), .val (.int p1), .val (.int p2), .val (.int p3), .val (.int p4), .val (.int (Int32.ofNat n)), .val (.ref b1), .val (.ref r19), .val (.int (1 : Int32)), .val (.ref d56), uS, uS] [(.ref b1), (.int (1 : Int32))]))
     refine Goes.st (fun sT kT => XS.iconst X59.here hx rfl (hb hby at_197) kT) ?_
     show Goes _ _ _ _ (T59.setTop (mkF m 198 #[.val (.int p0), .val (.int p1), .val (.int p2), .val (.int p3), .val (.int p4), .val (.int (Int32.ofNat n)), .val (.ref b1), .val (.ref r19), .val (.int (1 : Int32)), .val (.ref d56), uS, uS] [(.int (0 : Int32)), (.ref b1), (.int (1 : Int32))]))
     have f61 : Arv Z T56.heap b1 k1 .char (4 : Int32) [(.int cc3), (.int cc7), (.int cc11), (.int cc15)] (.int (0 : Int32)) := ((V17.keep K19 nin0).keep K56 nin0)
     have f62 : Old Z n0 T56.heap := (f57.keep K56 all0)
     obtain ⟨_, _, ⟨T60, L60, k60, n60⟩, -, X60, hSr60, hgr60, ⟨Lc60, hQ60, l60, y60, z60, C60⟩, st60⟩ := callSS X59 hx (y := (⟨"com/example/bolter/bolter/service/ParameterNameOfPinLaw", "mk", "(I[CI)Ljava/lang/String;"⟩ : MethodName)) hown56 (mvT hZ56 (hw6 hw)) (mvT hZ56 (hw7 hw)) (mvT hZ56 (hw4 hw)) (mvT hZ56 (hw8 hw)) (by decide) (own_backW (W := 0) (xs := []) (rm_mk0 l Z a0 hw [] 1 b1 k1 cc3 cc7 cc11 cc15 G1 T56.heap n0 (Nat.le_trans Z0 (Nat.le_trans (Nat.le_trans (Nat.le_trans (Nat.le_trans (Nat.le_trans (Nat.le_trans E1.1 (Nat.le_of_eq W5.size.symm)) (Nat.le_of_eq W9.size.symm)) (Nat.le_of_eq W13.size.symm)) (Nat.le_of_eq W17.size.symm)) K19.1) K56.1)) f61 f62 O2 P5 (by decide) rg_3 rg_7 rg_11 rg_15) hZ56 (hw8 hw) (hw4 hw) (by decide) (by decide) (own_EW hw) CR58.1 all0) (g := (mkF m 198 #[.val (.int p0), .val (.int p1), .val (.int p2), .val (.int p3), .val (.int p4), .val (.int (Int32.ofNat n)), .val (.ref b1), .val (.ref r19), .val (.int (1 : Int32)), .val (.ref d56), uS, uS] [(.int (0 : Int32)), (.ref b1), (.int (1 : Int32))])) rfl (by rw [hml]; rfl) (argsL := [(.int (1 : Int32)), (.ref b1), (.int (0 : Int32))]) (rest := []) (lenOf pd_19 rfl) rfl (by show 2 * 0 + _ ≤ _; exact Nat.le_of_eq rfl) (hb hby at_198) (fun _ _ => ⟨rfl, K59, (by decide : 12 + 6 ≤ _), (by decide : 34 + 12 ≤ _)⟩)
     dsimp only [Pt.U, Pt.locs, Pt.cells, Pt.slots] at X60 l60 y60 z60 st60 hQ60 hSr60 hgr60 C60
     subst l60 y60 z60
     obtain ⟨X60, hS60, hZ60, hown60⟩ := rebS hS56 (by rw [K59]; exact (Nat.le_refl _)) X60 hSr60 hgr60 hZ56 hown56
     obtain ⟨r60, t60, kb60, rfl, N60q, K60, F60_0, lo60_0, ne60_0⟩ := hQ60
     have N60 := Fr.app N59 N60q
     have F60_0E := F60_0.1
     have CR63 : CHr Z EL s.vm h0 T60.vm T60.heap := CR58.trans (C60)
     refine Goes.tr st60 ?_
     show Goes _ _ _ _ (T60.setTop (mkF m 201 #[.val (.int p0), .val (.int p1), .val (.int p2), .val (.int p3), .val (.int p4), .val (.int (Int32.ofNat n)), .val (.ref b1), .val (.ref r19), .val (.int (1 : Int32)), .val (.ref d56), uS, uS] [(.ref r60)]))
     refine Goes.st (fun sT kT => XS.astore X60.here hx rfl (hb hby at_201) rfl rfl (l' := #[.val (.int p0), .val (.int p1), .val (.int p2), .val (.int p3), .val (.int p4), .val (.int (Int32.ofNat n)), .val (.ref b1), .val (.ref r19), .val (.int (1 : Int32)), .val (.ref d56), .val (.ref r60), uS]) rfl kT) ?_
     show Goes _ _ _ _ (T60.setTop (mkF m 203 #[.val (.int p0), .val (.int p1), .val (.int p2), .val (.int p3), .val (.int p4), .val (.int (Int32.ofNat n)), .val (.ref b1), .val (.ref r19), .val (.int (1 : Int32)), .val (.ref d56), .val (.ref r60), uS] []))
     refine Goes.st (fun sT kT => XS.iload X60.here hx rfl (hb hby at_203) rfl kT) ?_
     show Goes _ _ _ _ (T60.setTop (mkF m 205 #[.val (.int p0), .val (.int p1), .val (.int p2), .val (.int p3), .val (.int p4), .val (.int (Int32.ofNat n)), .val (.ref b1), .val (.ref r19), .val (.int (1 : Int32)), .val (.ref d56), .val (.ref r60), uS] [(.int (Int32.ofNat n))]))
     refine Goes.st (fun sT kT => XS.iload X60.here hx rfl (hb hby at_205) rfl kT) ?_
     show Goes _ _ _ _ (T60.setTop (mkF m 207 #[.val (.int p0), .val (.int p1), .val (.int p2), .val (.int p3), .val (.int p4), .val (.int (Int32.ofNat n)), .val (.ref b1), .val (.ref r19), .val (.int (1 : Int32)), .val (.ref d56), .val (.ref r60), uS] [(.int (1 : Int32)), (.int (Int32.ofNat n))]))
     refine Goes.st (fun sT kT => XS.isub X60.here hx rfl (hb hby at_207) rfl kT) ?_
     show Goes _ _ _ _ (T60.setTop (mkF m 208 #[.val (.int p0), .val (.int p1), .val (.int p2), .val (.int p3), .val (.int p4), .val (.int (Int32.ofNat n)), .val (.ref b1), .val (.ref r19), .val (.int (1 : Int32)), .val (.ref d56), .val (.ref r60), uS] [(.int ((Int32.ofNat n) - (1 : Int32)))]))
     refine Goes.st (fun sT kT => XS.iconst X60.here hx rfl (hb hby at_208) kT) ?_
     show Goes _ _ _ _ (T60.setTop (mkF m 209 #[.val (.int p0), .val (.int p1), .val (.int p2), .val (.int p3), .val (.int p4), .val (.int (Int32.ofNat n)), .val (.ref b1), .val (.ref r19), .val (.int (1 : Int32)), .val (.ref d56), .val (.ref r60), uS] [(.int (1 : Int32)), (.int ((Int32.ofNat n) - (1 : Int32)))]))
     refine Goes.st (fun sT kT => XS.isub X60.here hx rfl (hb hby at_209) rfl kT) ?_
     show Goes _ _ _ _ (T60.setTop (mkF m 210 #[.val (.int p0), .val (.int p1), .val (.int p2), .val (.int p3), .val (.int p4), .val (.int (Int32.ofNat n)), .val (.ref b1), .val (.ref r19), .val (.int (1 : Int32)), .val (.ref d56), .val (.ref r60), uS] [(.int (((Int32.ofNat n) - (1 : Int32)) - (1 : Int32)))]))
     rw [show (((Int32.ofNat n) - (1 : Int32)) - (1 : Int32)) = Int32.ofNat (n - 1 - 1) from own_ns2 (k := 1) (by omega)]
     show Goes _ _ _ _ (T60.setTop (mkF m 210 #[.val (.int p0), .val (.int p1), .val (.int p2), .val (.int p3), .val (.int p4), .val (.int (Int32.ofNat n)), .val (.ref b1), .val (.ref r19), .val (.int (1 : Int32)), .val (.ref d56), .val (.ref r60), uS] [(.int (Int32.ofNat (n - 1 - 1)))]))
     refine Goes.st (fun sT kT => XS.aload X60.here hx rfl (hb hby at_210) rfl rfl kT) ?_
     show Goes _ _ _ _ (T60.setTop (mkF m 212 #[.val (.int p0), .val (.int p1), .val (.int p2), .val (.int p3), .val (.int p4), .val (.int (Int32.ofNat n)), .val (.ref b1), .val (.ref r19), .val (.int (1 : Int32)), .val (.ref d56), .val (.ref r60), uS] [(.ref b1), (.int (Int32.ofNat (n - 1 - 1)))]))
     refine Goes.st (fun sT kT => XS.iload X60.here hx rfl (hb hby at_212) rfl kT) ?_
     show Goes _ _ _ _ (T60.setTop (mkF m 214 #[.val (.int p0), .val (.int p1), .val (.int p2), .val (.int p3), .val (.int p4), .val (.int (Int32.ofNat n)), .val (.ref b1), .val (.ref r19), .val (.int (1 : Int32)), .val (.ref d56), .val (.ref r60), uS] [(.int (1 : Int32)), (.ref b1), (.int (Int32.ofNat (n - 1 - 1)))]))
     refine Goes.st (fun sT kT => XS.iconst X60.here hx rfl (hb hby at_214) kT) ?_
     show Goes _ _ _ _ (T60.setTop (mkF m 215 #[.val (.int p0), .val (.int p1), .val (.int p2), .val (.int p3), .val (.int p4), .val (.int (Int32.ofNat n)), .val (.ref b1), .val (.ref r19), .val (.int (1 : Int32)), .val (.ref d56), .val (.ref r60), uS] [(.int (1 : Int32)), (.int (1 : Int32)), (.ref b1), (.int (Int32.ofNat (n - 1 - 1)))]))
     refine Goes.st (fun sT kT => XS.iadd X60.here hx rfl (hb hby at_215) rfl kT) ?_
     show Goes _ _ _ _ (T60.setTop (mkF m 216 #[.val (.int p0), .val (.int p1), .val (.int p2), .val (.int p3), .val (.int p4), .val (.int (Int32.ofNat n)), .val (.ref b1), .val (.ref r19), .val (.int (1 : Int32)), .val (.ref d56), .val (.ref r60), uS] [(.int (2 : Int32)), (.ref b1), (.int (Int32.ofNat (n - 1 - 1)))]))
     have f65 : Arv Z T60.heap b1 k1 .char (4 : Int32) [(.int cc3), (.int cc7), (.int cc11), (.int cc15)] (.int (0 : Int32)) := (f61.keep K60 nin0)
     have f66 : Old Z n0 T60.heap := (f62.keep K60 all0)
     obtain ⟨_, _, ⟨T64, L64, k64, n64⟩, -, X64, hSr64, hgr64, ⟨Lc64, hQ64, l64, y64, z64, C64⟩, st64⟩ := callSS X60 hx (y := (⟨"com/example/bolter/bolter/service/ParameterNameOfPinLaw", "mk", "(I[CI)Ljava/lang/String;"⟩ : MethodName)) hown60 (mvT hZ60 (hw6 hw)) (mvT hZ60 (hw7 hw)) (mvT hZ60 (hw4 hw)) (mvT hZ60 (hw8 hw)) (by decide) (own_backW (W := 0) (xs := []) (rm_mk2 l Z a0 hw [] (n - 1 - 1) b1 k1 cc3 cc7 cc11 cc15 G1 T60.heap n0 (Nat.le_trans Z0 (Nat.le_trans (Nat.le_trans (Nat.le_trans (Nat.le_trans (Nat.le_trans (Nat.le_trans (Nat.le_trans E1.1 (Nat.le_of_eq W5.size.symm)) (Nat.le_of_eq W9.size.symm)) (Nat.le_of_eq W13.size.symm)) (Nat.le_of_eq W17.size.symm)) K19.1) K56.1) K60.1)) f65 f66 O2 P5 (by omega) rg_3 rg_7 rg_11 rg_15) hZ60 (hw8 hw) (hw4 hw) (by decide) (by decide) (own_EW hw) CR63.1 all0) (g := (mkF m 216 #[.val (.int p0), .val (.int p1), .val (.int p2), .val (.int p3), .val (.int p4), .val (.int (Int32.ofNat n)), .val (.ref b1), .val (.ref r19), .val (.int (1 : Int32)), .val (.ref d56), .val (.ref r60), uS] [(.int (2 : Int32)), (.ref b1), (.int (Int32.ofNat (n - 1 - 1)))])) rfl (by rw [hml]; rfl) (argsL := [(.int (Int32.ofNat (n - 1 - 1))), (.ref b1), (.int (2 : Int32))]) (rest := []) (lenOf pd_19 rfl) rfl (by show 2 * 0 + _ ≤ _; exact Nat.le_of_eq rfl) (hb hby at_216) (fun _ _ => ⟨rfl, rfl, (by decide : 18 + 6 ≤ _), (by decide : 46 + 12 ≤ _)⟩)
     dsimp only [Pt.U, Pt.locs, Pt.cells, Pt.slots] at X64 l64 y64 z64 st64 hQ64 hSr64 hgr64 C64
     subst l64 y64 z64
     obtain ⟨X64, hS64, hZ64, hown64⟩ := rebS hS60 (Nat.le_refl _) X64 hSr64 hgr64 hZ60 hown60
     obtain ⟨r64, t64, kb64, rfl, N64q, K64, F64_0, lo64_0, ne64_0⟩ := hQ64
     have N64 := Fr.app N60 N64q
     have F64_0E := F64_0.1
     have CR67 : CHr Z EL s.vm h0 T64.vm T64.heap := CR63.trans (C64)
     refine Goes.tr st64 ?_
     show Goes _ _ _ _ (T64.setTop (mkF m 219 #[.val (.int p0), .val (.int p1), .val (.int p2), .val (.int p3), .val (.int p4), .val (.int (Int32.ofNat n)), .val (.ref b1), .val (.ref r19), .val (.int (1 : Int32)), .val (.ref d56), .val (.ref r60), uS] [(.ref r64)]))
     refine Goes.st (fun sT kT => XS.astore X64.here hx rfl (hb hby at_219) rfl rfl (l' := #[.val (.int p0), .val (.int p1), .val (.int p2), .val (.int p3), .val (.int p4), .val (.int (Int32.ofNat n)), .val (.ref b1), .val (.ref r19), .val (.int (1 : Int32)), .val (.ref d56), .val (.ref r60), .val (.ref r64)]) rfl kT) ?_
     show Goes _ _ _ _ (T64.setTop (mkF m 221 #[.val (.int p0), .val (.int p1), .val (.int p2), .val (.int p3), .val (.int p4), .val (.int (Int32.ofNat n)), .val (.ref b1), .val (.ref r19), .val (.int (1 : Int32)), .val (.ref d56), .val (.ref r60), .val (.ref r64)] []))
     refine Goes.st (fun sT kT => XS.aload X64.here hx rfl (hb hby at_221) rfl rfl kT) ?_
     show Goes _ _ _ _ (T64.setTop (mkF m 223 #[.val (.int p0), .val (.int p1), .val (.int p2), .val (.int p3), .val (.int p4), .val (.int (Int32.ofNat n)), .val (.ref b1), .val (.ref r19), .val (.int (1 : Int32)), .val (.ref d56), .val (.ref r60), .val (.ref r64)] [(.ref d56)]))
     have f69 : Fld Z T64.heap d56 "com/example/bolter/bolter/service/ParameterName" "modifier" "Ljava/lang/String;" (.ref x256) := ((F56_2.keep K60 nin0).keep K64 nin0)
     have f70 : Exa Z T64.heap d56 "com/example/bolter/bolter/service/ParameterName" := ((F56_0.keep K60).keep K64)
     obtain ⟨cq68, kq68, q68a, q68b, q68c⟩ := isOf hZ64 rfl f70
     obtain ⟨_, _, ⟨T68, L68, k68, n68⟩, -, X68, ⟨Lc68, hQ68, l68, y68, z68⟩, st68⟩ := X64.virtualBack hx (y := (⟨"com/example/bolter/bolter/service/ParameterName", "modifier", "()Ljava/lang/String;"⟩ : MethodName)) (z := (⟨"com/example/bolter/bolter/service/ParameterName", "modifier", "()Ljava/lang/String;"⟩ : MethodName)) hown64 (mvT hZ64 (hw99 hw)) (mvT hZ64 (hw100 hw)) (notFace_of_selects (args := #[]) (mvT hZ64 (hw102 hw))) (mvT hZ64 (hw102 hw)) (mvT hZ64 (hw101 hw)) (by decide) (backOf (W := 0) (rm_gmodR l Z a0 hw [] d56 x256 T64.heap n0 (Nat.le_trans Z0 (Nat.le_trans (Nat.le_trans (Nat.le_trans (Nat.le_trans (Nat.le_trans (Nat.le_trans (Nat.le_trans (Nat.le_trans E1.1 (Nat.le_of_eq W5.size.symm)) (Nat.le_of_eq W9.size.symm)) (Nat.le_of_eq W13.size.symm)) (Nat.le_of_eq W17.size.symm)) K19.1) K56.1) K60.1) K64.1)) f69) hZ64 (hw103 hw) (hw32 hw) (by decide) (by decide)) q68a q68c (g := (mkF m 223 #[.val (.int p0), .val (.int p1), .val (.int p2), .val (.int p3), .val (.int p4), .val (.int (Int32.ofNat n)), .val (.ref b1), .val (.ref r19), .val (.int (1 : Int32)), .val (.ref d56), .val (.ref r60), .val (.ref r64)] [(.ref d56)])) rfl (by rw [hml]; rfl) (Steps.refl _) (argsL := []) (rest := []) (lenOf pd_21 rfl) rfl (by show 2 * 0 + _ ≤ _; exact Nat.le_of_eq rfl) (hb hby at_223) (fun _ _ => ⟨rfl, rfl, (by decide : 24 + 0 ≤ _), (by decide : 58 + 0 ≤ _)⟩)
     dsimp only [Pt.U, Pt.locs, Pt.cells, Pt.slots] at X68 l68 y68 z68 st68 hQ68
     subst l68 y68 z68
     obtain ⟨rfl, N68q, K68⟩ := hQ68
     have N68 := Fr.app N64 N68q
     refine Goes.tr st68 ?_
     show Goes _ _ _ _ (T68.setTop (mkF m 226 #[.val (.int p0), .val (.int p1), .val (.int p2), .val (.int p3), .val (.int p4), .val (.int (Int32.ofNat n)), .val (.ref b1), .val (.ref r19), .val (.int (1 : Int32)), .val (.ref d56), .val (.ref r60), .val (.ref r64)] [(.ref x256)]))
     refine Goes.st (fun sT kT => XS.ifnullNo X68.here hx rfl (hb hby at_226) rfl kT) ?_
     show Goes _ _ _ _ (T68.setTop (mkF m 229 #[.val (.int p0), .val (.int p1), .val (.int p2), .val (.int p3), .val (.int p4), .val (.int (Int32.ofNat n)), .val (.ref b1), .val (.ref r19), .val (.int (1 : Int32)), .val (.ref d56), .val (.ref r60), .val (.ref r64)] []))
     refine Goes.st (fun sT kT => XS.aload X68.here hx rfl (hb hby at_229) rfl rfl kT) ?_
     show Goes _ _ _ _ (T68.setTop (mkF m 231 #[.val (.int p0), .val (.int p1), .val (.int p2), .val (.int p3), .val (.int p4), .val (.int (Int32.ofNat n)), .val (.ref b1), .val (.ref r19), .val (.int (1 : Int32)), .val (.ref d56), .val (.ref r60), .val (.ref r64)] [(.ref d56)]))
     have f72 : Fld Z T64.heap d56 "com/example/bolter/bolter/service/ParameterName" "code" "Ljava/lang/String;" (.ref x156) := ((F56_1.keep K60 nin0).keep K64 nin0)
     obtain ⟨cq71, kq71, q71a, q71b, q71c⟩ := isOf hZ64 K68 f70
     obtain ⟨_, _, ⟨T71, L71, k71, n71⟩, -, X71, ⟨Lc71, hQ71, l71, y71, z71⟩, st71⟩ := X68.virtualBack hx (y := (⟨"com/example/bolter/bolter/service/ParameterName", "code", "()Ljava/lang/String;"⟩ : MethodName)) (z := (⟨"com/example/bolter/bolter/service/ParameterName", "code", "()Ljava/lang/String;"⟩ : MethodName)) hown64 (mvT hZ64 (hw89 hw)) (mvT hZ64 (hw90 hw)) (notFace_of_selects (args := #[]) (mvT hZ64 (hw92 hw))) (mvT hZ64 (hw92 hw)) (mvT hZ64 (hw91 hw)) (by decide) (backOf (W := 0) (rm_gcode l Z a0 hw [] d56 x156 T64.heap n0 (Nat.le_trans Z0 (Nat.le_trans (Nat.le_trans (Nat.le_trans (Nat.le_trans (Nat.le_trans (Nat.le_trans (Nat.le_trans (Nat.le_trans E1.1 (Nat.le_of_eq W5.size.symm)) (Nat.le_of_eq W9.size.symm)) (Nat.le_of_eq W13.size.symm)) (Nat.le_of_eq W17.size.symm)) K19.1) K56.1) K60.1) K64.1)) f72) hZ64 (hw93 hw) (hw32 hw) (by decide) (by decide)) q71a q71c (g := (mkF m 231 #[.val (.int p0), .val (.int p1), .val (.int p2), .val (.int p3), .val (.int p4), .val (.int (Int32.ofNat n)), .val (.ref b1), .val (.ref r19), .val (.int (1 : Int32)), .val (.ref d56), .val (.ref r60), .val (.ref r64)] [(.ref d56)])) rfl (by rw [hml]; rfl) (Steps.refl _) (argsL := []) (rest := []) (lenOf pd_21 rfl) rfl (by show 2 * 0 + _ ≤ _; exact Nat.le_of_eq rfl) (hb hby at_231) (fun _ _ => ⟨rfl, K68, (by decide : 24 + 0 ≤ _), (by decide : 58 + 0 ≤ _)⟩)
     dsimp only [Pt.U, Pt.locs, Pt.cells, Pt.slots] at X71 l71 y71 z71 st71 hQ71
     subst l71 y71 z71
     obtain ⟨rfl, N71q, K71⟩ := hQ71
     have N71 := Fr.app N68 N71q
     refine Goes.tr st71 ?_
     show Goes _ _ _ _ (T71.setTop (mkF m 234 #[.val (.int p0), .val (.int p1), .val (.int p2), .val (.int p3), .val (.int p4), .val (.int (Int32.ofNat n)), .val (.ref b1), .val (.ref r19), .val (.int (1 : Int32)), .val (.ref d56), .val (.ref r60), .val (.ref r64)] [(.ref x156)]))
     refine Goes.st (fun sT kT => XS.aload X71.here hx rfl (hb hby at_234) rfl rfl kT) ?_
     show Goes _ _ _ _ (T71.setTop (mkF m 236 #[.val (.int p0), .val (.int p1), .val (.int p2), .val (.int p3), .val (.int p4), .val (.int (Int32.ofNat n)), .val (.ref b1), .val (.ref r19), .val (.int (1 : Int32)), .val (.ref d56), .val (.ref r60), .val (.ref r64)] [(.ref r60), (.ref x156)]))
     have f74 : Str Z T64.heap x156 y156 k156 ((([cc3, cc7, cc11, cc15].drop 0).take n).take 1) := ((F56_3.keep K60 nin0 nin0).keep K64 nin0 nin0)
     have f75 : Str Z T64.heap r60 t60 kb60 (([cc3, cc7, cc11, cc15].drop 0).take 1) := (F60_0.keep K64 nin0 nin0)
     have f76 : Old Z n0 T64.heap := (f66.keep K64 all0)
     have f77 : Exa Z T64.heap x156 "java/lang/String" := ((F56_3E.keep K60).keep K64)
     obtain ⟨cq73, kq73, q73a, q73b, q73c⟩ := isOf hZ64 K71 f77
     obtain ⟨_, _, ⟨T73, L73, k73, n73⟩, -, X73, ⟨Lc73, hQ73, l73, y73, z73⟩, st73⟩ := X71.virtualBack hx (y := (⟨"java/lang/String", "equals", "(Ljava/lang/Object;)Z"⟩ : MethodName)) (z := (⟨"java/lang/String", "equals", "(Ljava/lang/Object;)Z"⟩ : MethodName)) hown64 (mvT hZ64 (hw94 hw)) (mvT hZ64 (hw95 hw)) (notFace_of_selects (args := #[]) (mvT hZ64 (hw97 hw))) (mvT hZ64 (hw97 hw)) (mvT hZ64 (hw96 hw)) (by decide) (StrChars.Road.eqW (W := 0) hZ64 (own_heq hw) (kI := 4) (hw10 hw) f74.1 f74.2.1 f74.2.2.1 f74.2.2.2.1 (own_cod f74) (own_up f74.2.2.2.2.1) f74.2.2.2.2.2 f75.1 f75.2.1 f75.2.2.1 f75.2.2.2.1 (own_cod f75) (own_up f75.2.2.2.2.1) f75.2.2.2.2.2 (O2.ext f76.2) P5 (by decide) (by decide)) q73a q73c (g := (mkF m 236 #[.val (.int p0), .val (.int p1), .val (.int p2), .val (.int p3), .val (.int p4), .val (.int (Int32.ofNat n)), .val (.ref b1), .val (.ref r19), .val (.int (1 : Int32)), .val (.ref d56), .val (.ref r60), .val (.ref r64)] [(.ref r60), (.ref x156)])) rfl (by rw [hml]; rfl) (Steps.refl _) (argsL := [(.ref r60)]) (rest := []) (lenOf pd_22 rfl) rfl (by show 2 * 0 + _ ≤ _; exact Nat.le_of_eq rfl) (hb hby at_236) (fun _ _ => ⟨rfl, K71, (by decide : 24 + 0 ≤ _), (by decide : 58 + 0 ≤ _)⟩)
     dsimp only [Pt.U, Pt.locs, Pt.cells, Pt.slots] at X73 l73 y73 z73 st73 hQ73
     subst l73 y73 z73
     obtain ⟨hv73, rfl, K73⟩ := hQ73
     have hv73' := own_ite hv73
     subst hv73'
     have N73 := Fr.app N71 (Fr.nil n0)
     refine Goes.tr st73 ?_
     show Goes _ _ _ _ (T73.setTop (mkF m 239 #[.val (.int p0), .val (.int p1), .val (.int p2), .val (.int p3), .val (.int p4), .val (.int (Int32.ofNat n)), .val (.ref b1), .val (.ref r19), .val (.int (1 : Int32)), .val (.ref d56), .val (.ref r60), .val (.ref r64)] [(.int (if (((([cc3, cc7, cc11, cc15].drop 0).take n).take 1) : List Int32) = (([cc3, cc7, cc11, cc15].drop 0).take 1) then (1 : Int32) else 0))]))
     refine Goes.st (fun sT kT => XS.ifNo X73.here hx rfl (hb hby at_239) rfl ((if0 _ _).trans (feq (own_one (own_tt hkn hn))).1) kT) ?_
     show Goes _ _ _ _ (T73.setTop (mkF m 242 #[.val (.int p0), .val (.int p1), .val (.int p2), .val (.int p3), .val (.int p4), .val (.int (Int32.ofNat n)), .val (.ref b1), .val (.ref r19), .val (.int (1 : Int32)), .val (.ref d56), .val (.ref r60), .val (.ref r64)] []))
     refine Goes.st (fun sT kT => XS.aload X73.here hx rfl (hb hby at_242) rfl rfl kT) ?_
     show Goes _ _ _ _ (T73.setTop (mkF m 244 #[.val (.int p0), .val (.int p1), .val (.int p2), .val (.int p3), .val (.int p4), .val (.int (Int32.ofNat n)), .val (.ref b1), .val (.ref r19), .val (.int (1 : Int32)), .val (.ref d56), .val (.ref r60), .val (.ref r64)] [(.ref d56)]))
     obtain ⟨cq78, kq78, q78a, q78b, q78c⟩ := isOf hZ64 K73 f70
     obtain ⟨_, _, ⟨T78, L78, k78, n78⟩, -, X78, ⟨Lc78, hQ78, l78, y78, z78⟩, st78⟩ := X73.virtualBack hx (y := (⟨"com/example/bolter/bolter/service/ParameterName", "modifier", "()Ljava/lang/String;"⟩ : MethodName)) (z := (⟨"com/example/bolter/bolter/service/ParameterName", "modifier", "()Ljava/lang/String;"⟩ : MethodName)) hown64 (mvT hZ64 (hw99 hw)) (mvT hZ64 (hw100 hw)) (notFace_of_selects (args := #[]) (mvT hZ64 (hw102 hw))) (mvT hZ64 (hw102 hw)) (mvT hZ64 (hw101 hw)) (by decide) (backOf (W := 0) (rm_gmodR l Z a0 hw [] d56 x256 T64.heap n0 (Nat.le_trans Z0 (Nat.le_trans (Nat.le_trans (Nat.le_trans (Nat.le_trans (Nat.le_trans (Nat.le_trans (Nat.le_trans (Nat.le_trans E1.1 (Nat.le_of_eq W5.size.symm)) (Nat.le_of_eq W9.size.symm)) (Nat.le_of_eq W13.size.symm)) (Nat.le_of_eq W17.size.symm)) K19.1) K56.1) K60.1) K64.1)) f69) hZ64 (hw103 hw) (hw32 hw) (by decide) (by decide)) q78a q78c (g := (mkF m 244 #[.val (.int p0), .val (.int p1), .val (.int p2), .val (.int p3), .val (.int p4), .val (.int (Int32.ofNat n)), .val (.ref b1), .val (.ref r19), .val (.int (1 : Int32)), .val (.ref d56), .val (.ref r60), .val (.ref r64)] [(.ref d56)])) rfl (by rw [hml]; rfl) (Steps.refl _) (argsL := []) (rest := []) (lenOf pd_21 rfl) rfl (by show 2 * 0 + _ ≤ _; exact Nat.le_of_eq rfl) (hb hby at_244) (fun _ _ => ⟨rfl, K73, (by decide : 24 + 0 ≤ _), (by decide : 58 + 0 ≤ _)⟩)
     dsimp only [Pt.U, Pt.locs, Pt.cells, Pt.slots] at X78 l78 y78 z78 st78 hQ78
     subst l78 y78 z78
     obtain ⟨rfl, N78q, K78⟩ := hQ78
     have N78 := Fr.app N73 N78q
     refine Goes.tr st78 ?_
     show Goes _ _ _ _ (T78.setTop (mkF m 247 #[.val (.int p0), .val (.int p1), .val (.int p2), .val (.int p3), .val (.int p4), .val (.int (Int32.ofNat n)), .val (.ref b1), .val (.ref r19), .val (.int (1 : Int32)), .val (.ref d56), .val (.ref r60), .val (.ref r64)] [(.ref x256)]))
     refine Goes.st (fun sT kT => XS.aload X78.here hx rfl (hb hby at_247) rfl rfl kT) ?_
     show Goes _ _ _ _ (T78.setTop (mkF m 249 #[.val (.int p0), .val (.int p1), .val (.int p2), .val (.int p3), .val (.int p4), .val (.int (Int32.ofNat n)), .val (.ref b1), .val (.ref r19), .val (.int (1 : Int32)), .val (.ref d56), .val (.ref r60), .val (.ref r64)] [(.ref r64), (.ref x256)]))
     have f80 : Str Z T64.heap x256 y256 k256 ((([cc3, cc7, cc11, cc15].drop 0).take n).drop (1 + 1)) := ((F56_4.keep K60 nin0 nin0).keep K64 nin0 nin0)
     have f81 : Exa Z T64.heap x256 "java/lang/String" := ((F56_4E.keep K60).keep K64)
     obtain ⟨cq79, kq79, q79a, q79b, q79c⟩ := isOf hZ64 K78 f81
     obtain ⟨_, _, ⟨T79, L79, k79, n79⟩, -, X79, ⟨Lc79, hQ79, l79, y79, z79⟩, st79⟩ := X78.virtualBack hx (y := (⟨"java/lang/String", "equals", "(Ljava/lang/Object;)Z"⟩ : MethodName)) (z := (⟨"java/lang/String", "equals", "(Ljava/lang/Object;)Z"⟩ : MethodName)) hown64 (mvT hZ64 (hw94 hw)) (mvT hZ64 (hw95 hw)) (notFace_of_selects (args := #[]) (mvT hZ64 (hw97 hw))) (mvT hZ64 (hw97 hw)) (mvT hZ64 (hw96 hw)) (by decide) (StrChars.Road.eqW (W := 0) hZ64 (own_heq hw) (kI := 4) (hw10 hw) f80.1 f80.2.1 f80.2.2.1 f80.2.2.2.1 (own_cod f80) (own_up f80.2.2.2.2.1) f80.2.2.2.2.2 F64_0.1 F64_0.2.1 F64_0.2.2.1 F64_0.2.2.2.1 (own_cod F64_0) (own_up F64_0.2.2.2.2.1) F64_0.2.2.2.2.2 (O2.ext f76.2) P5 (by decide) (by decide)) q79a q79c (g := (mkF m 249 #[.val (.int p0), .val (.int p1), .val (.int p2), .val (.int p3), .val (.int p4), .val (.int (Int32.ofNat n)), .val (.ref b1), .val (.ref r19), .val (.int (1 : Int32)), .val (.ref d56), .val (.ref r60), .val (.ref r64)] [(.ref r64), (.ref x256)])) rfl (by rw [hml]; rfl) (Steps.refl _) (argsL := [(.ref r64)]) (rest := []) (lenOf pd_22 rfl) rfl (by show 2 * 0 + _ ≤ _; exact Nat.le_of_eq rfl) (hb hby at_249) (fun _ _ => ⟨rfl, K78, (by decide : 24 + 0 ≤ _), (by decide : 58 + 0 ≤ _)⟩)
     dsimp only [Pt.U, Pt.locs, Pt.cells, Pt.slots] at X79 l79 y79 z79 st79 hQ79
     subst l79 y79 z79
     obtain ⟨hv79, rfl, K79⟩ := hQ79
     have hv79' := own_ite hv79
     subst hv79'
     have N79 := Fr.app N78 (Fr.nil n0)
     refine Goes.tr st79 ?_
     show Goes _ _ _ _ (T79.setTop (mkF m 252 #[.val (.int p0), .val (.int p1), .val (.int p2), .val (.int p3), .val (.int p4), .val (.int (Int32.ofNat n)), .val (.ref b1), .val (.ref r19), .val (.int (1 : Int32)), .val (.ref d56), .val (.ref r60), .val (.ref r64)] [(.int (if (((([cc3, cc7, cc11, cc15].drop 0).take n).drop (1 + 1)) : List Int32) = (([cc3, cc7, cc11, cc15].drop 2).take (n - 1 - 1)) then (1 : Int32) else 0))]))
     refine Goes.st (fun sT kT => XS.ifNo X79.here hx rfl (hb hby at_252) rfl ((if0 _ _).trans (feq (own_one (own_dd hkn hn))).1) kT) ?_
     show Goes _ _ _ _ (T79.setTop (mkF m 255 #[.val (.int p0), .val (.int p1), .val (.int p2), .val (.int p3), .val (.int p4), .val (.int (Int32.ofNat n)), .val (.ref b1), .val (.ref r19), .val (.int (1 : Int32)), .val (.ref d56), .val (.ref r60), .val (.ref r64)] []))
     refine Goes.st (fun sT kT => XS.iconst X79.here hx rfl (hb hby at_255) kT) ?_
     show Goes _ _ _ _ (T79.setTop (mkF m 256 #[.val (.int p0), .val (.int p1), .val (.int p2), .val (.int p3), .val (.int p4), .val (.int (Int32.ofNat n)), .val (.ref b1), .val (.ref r19), .val (.int (1 : Int32)), .val (.ref d56), .val (.ref r60), .val (.ref r64)] [(.int (1 : Int32))]))
     refine Goes.st (fun sT kT => XS.goto X79.here hx rfl (pc0 := 256) (pc' := 260) rfl (hb hby at_256) (by decide) (by decide) kT) ?_
     show Goes _ _ _ _ (T79.setTop (mkF m 260 #[.val (.int p0), .val (.int p1), .val (.int p2), .val (.int p3), .val (.int p4), .val (.int (Int32.ofNat n)), .val (.ref b1), .val (.ref r19), .val (.int (1 : Int32)), .val (.ref d56), .val (.ref r60), .val (.ref r64)] [(.int (1 : Int32))]))
     obtain ⟨fs, hr, hrun, hended, hRW⟩ := X79.leaveW hS64 (by rw [K79]; exact (Nat.le_refl _)) (v := some (.int (1 : Int32))) (fun h => by rw [Bd.returns] at h; cases h)
     subst hQQ
     have hCR : CHr Z EL s.vm s.heap T79.vm T79.heap := by rw [hh, K79]; exact CR67.trans (CHv.at X79 hZ64 (own_EW hw) CR67.1)
     refine ⟨_, _, retN X79 hx (t := .boolean) Bd.returns (by simp) (hb hby at_260) hr, hrun, hended, _, _, rfl, ?_, hCR, own_REmono hRW (by decide) (by decide)⟩
     show Q_law Z p0 p1 p2 p3 p4 G1 vF h0 n0 _ T79.heap _
     rw [K79]
     exact ⟨rfl, N79⟩
    case neg =>
     by_cases hk2z : k = 2
     case pos =>
      subst hk2z
      show Goes _ _ _ _ (T19.setTop (mkF m 139 #[.val (.int p0), .val (.int p1), .val (.int p2), .val (.int p3), .val (.int p4), .val (.int (Int32.ofNat n)), .val (.ref b1), .val (.ref r19), .val (.int (2 : Int32)), uS, uS, uS] []))
      refine Goes.st (fun sT kT => XS.aload X19.here hx rfl (hb hby at_139) rfl rfl kT) ?_
      show Goes _ _ _ _ (T19.setTop (mkF m 141 #[.val (.int p0), .val (.int p1), .val (.int p2), .val (.int p3), .val (.int p4), .val (.int (Int32.ofNat n)), .val (.ref b1), .val (.ref r19), .val (.int (2 : Int32)), uS, uS, uS] [(.ref r19)]))
      have f83 : Old Z n0 T19.heap := (f20.keep K19 all0)
      obtain ⟨_, _, ⟨T82, L82, k82, n82⟩, -, X82, hSr82, hgr82, ⟨Lc82, hQ82, l82, y82, z82, C82⟩, st82⟩ := callSS X19 hx (y := (⟨"com/example/bolter/bolter/service/ParameterName", "of", "(Ljava/lang/String;)Lcom/example/bolter/bolter/service/ParameterName;"⟩ : MethodName)) hown19 (mvT hZ19 (hw30 hw)) (mvT hZ19 (hw31 hw)) (mvT hZ19 (hw32 hw)) (mvT hZ19 (hw33 hw)) (by decide) (own_backW (W := 0) (xs := []) (rm_ofK l Z a0 hw [] r19 t19 kb19 (([cc3, cc7, cc11, cc15].drop 0).take n) G1 vF 2 T19.heap n0 (Nat.le_trans Z0 (Nat.le_trans (Nat.le_trans (Nat.le_trans (Nat.le_trans (Nat.le_trans E1.1 (Nat.le_of_eq W5.size.symm)) (Nat.le_of_eq W9.size.symm)) (Nat.le_of_eq W13.size.symm)) (Nat.le_of_eq W17.size.symm)) K19.1)) F19_0 f83 O2 P5 OF rF hix (by rw [own_len4 hn]; exact hkn) (by rw [own_len4 hn]; exact hn)) hZ19 (hw33 hw) (hw32 hw) (by decide) (by decide) (own_EW hw) CR21.1 all0) (g := (mkF m 141 #[.val (.int p0), .val (.int p1), .val (.int p2), .val (.int p3), .val (.int p4), .val (.int (Int32.ofNat n)), .val (.ref b1), .val (.ref r19), .val (.int (2 : Int32)), uS, uS, uS] [(.ref r19)])) rfl (by rw [hml]; rfl) (argsL := [(.ref r19)]) (rest := []) (lenOf pd_20 rfl) rfl (by show 2 * 0 + _ ≤ _; exact Nat.le_of_eq rfl) (hb hby at_141) (fun _ _ => ⟨rfl, rfl, (by decide : 7 + 5 ≤ _), (by decide : 16 + 18 ≤ _)⟩)
      dsimp only [Pt.U, Pt.locs, Pt.cells, Pt.slots] at X82 l82 y82 z82 st82 hQ82 hSr82 hgr82 C82
      subst l82 y82 z82
      obtain ⟨X82, hS82, hZ82, hown82⟩ := rebS hS19 (Nat.le_refl _) X82 hSr82 hgr82 hZ19 hown19
      obtain ⟨d82, x182, y182, k182, x282, y282, k282, rfl, N82q, K82, F82_0, F82_1, F82_2, F82_3, F82_4, lo82_0⟩ := hQ82
      have N82 := Fr.app N19 N82q
      have F82_3E := F82_3.1
      have F82_4E := F82_4.1
      have CR84 : CHr Z EL s.vm h0 T82.vm T82.heap := CR21.trans (C82)
      refine Goes.tr st82 ?_
      show Goes _ _ _ _ (T82.setTop (mkF m 144 #[.val (.int p0), .val (.int p1), .val (.int p2), .val (.int p3), .val (.int p4), .val (.int (Int32.ofNat n)), .val (.ref b1), .val (.ref r19), .val (.int (2 : Int32)), uS, uS, uS] [(.ref d82)]))
      refine Goes.st (fun sT kT => XS.astore X82.here hx rfl (hb hby at_144) rfl rfl (l' := #[.val (.int p0), .val (.int p1), .val (.int p2), .val (.int p3), .val (.int p4), .val (.int (Int32.ofNat n)), .val (.ref b1), .val (.ref r19), .val (.int (2 : Int32)), .val (.ref d82), uS, uS]) rfl kT) ?_
      show Goes _ _ _ _ (T82.setTop (mkF m 146 #[.val (.int p0), .val (.int p1), .val (.int p2), .val (.int p3), .val (.int p4), .val (.int (Int32.ofNat n)), .val (.ref b1), .val (.ref r19), .val (.int (2 : Int32)), .val (.ref d82), uS, uS] []))
      refine Goes.st (fun sT kT => XS.aload X82.here hx rfl (hb hby at_146) rfl rfl kT) ?_
      show Goes _ _ _ _ (T82.setTop (mkF m 148 #[.val (.int p0), .val (.int p1), .val (.int p2), .val (.int p3), .val (.int p4), .val (.int (Int32.ofNat n)), .val (.ref b1), .val (.ref r19), .val (.int (2 : Int32)), .val (.ref d82), uS, uS] [(.ref d82)]))
      refine Goes.st (fun sT kT => XS.ifnullNo X82.here hx rfl (hb hby at_148) rfl kT) ?_
      show Goes _ _ _ _ (T82.setTop (mkF m 151 #[.val (.int p0), .val (.int p1), .val (.int p2), .val (.int p3), .val (.int p4), .val (.int (Int32.ofNat n)), .val (.ref b1), .val (.ref r19), .val (.int (2 : Int32)), .val (.ref d82), uS, uS] []))
      refine Goes.st (fun sT kT => XS.aload X82.here hx rfl (hb hby at_151) rfl rfl kT) ?_
      show Goes _ _ _ _ (T82.setTop (mkF m 153 #[.val (.int p0), .val (.int p1), .val (.int p2), .val (.int p3), .val (.int p4), .val (.int (Int32.ofNat n)), .val (.ref b1), .val (.ref r19), .val (.int (2 : Int32)), .val (.ref d82), uS, uS] [(.ref d82)]))
      obtain ⟨cq85, kq85, q85a, q85b, q85c⟩ := isOf hZ82 rfl F82_0
      obtain ⟨_, _, ⟨T85, L85, k85, n85⟩, -, X85, ⟨Lc85, hQ85, l85, y85, z85⟩, st85⟩ := X82.virtualBack hx (y := (⟨"com/example/bolter/bolter/service/ParameterName", "code", "()Ljava/lang/String;"⟩ : MethodName)) (z := (⟨"com/example/bolter/bolter/service/ParameterName", "code", "()Ljava/lang/String;"⟩ : MethodName)) hown82 (mvT hZ82 (hw89 hw)) (mvT hZ82 (hw90 hw)) (notFace_of_selects (args := #[]) (mvT hZ82 (hw92 hw))) (mvT hZ82 (hw92 hw)) (mvT hZ82 (hw91 hw)) (by decide) (backOf (W := 0) (rm_gcode l Z a0 hw [] d82 x182 T82.heap n0 (Nat.le_trans Z0 (Nat.le_trans (Nat.le_trans (Nat.le_trans (Nat.le_trans (Nat.le_trans (Nat.le_trans E1.1 (Nat.le_of_eq W5.size.symm)) (Nat.le_of_eq W9.size.symm)) (Nat.le_of_eq W13.size.symm)) (Nat.le_of_eq W17.size.symm)) K19.1) K82.1)) F82_1) hZ82 (hw93 hw) (hw32 hw) (by decide) (by decide)) q85a q85c (g := (mkF m 153 #[.val (.int p0), .val (.int p1), .val (.int p2), .val (.int p3), .val (.int p4), .val (.int (Int32.ofNat n)), .val (.ref b1), .val (.ref r19), .val (.int (2 : Int32)), .val (.ref d82), uS, uS] [(.ref d82)])) rfl (by rw [hml]; rfl) (Steps.refl _) (argsL := []) (rest := []) (lenOf pd_21 rfl) rfl (by show 2 * 0 + _ ≤ _; exact Nat.le_of_eq rfl) (hb hby at_153) (fun _ _ => ⟨rfl, rfl, (by decide : 12 + 0 ≤ _), (by decide : 34 + 0 ≤ _)⟩)
      dsimp only [Pt.U, Pt.locs, Pt.cells, Pt.slots] at X85 l85 y85 z85 st85 hQ85
      subst l85 y85 z85
      obtain ⟨rfl, N85q, K85⟩ := hQ85
      have N85 := Fr.app N82 N85q
      refine Goes.tr st85 ?_
      show Goes _ _ _ _ (T85.setTop (mkF m 156 #[.val (.int p0), .val (.int p1), .val (.int p2), .val (.int p3), .val (.int p4), .val (.int (Int32.ofNat n)), .val (.ref b1), .val (.ref r19), .val (.int (2 : Int32)), .val (.ref d82), uS, uS] [(.ref x182)]))
      refine Goes.st (fun sT kT => XS.ifnonnullYes X85.here hx rfl (pc0 := 156) (pc' := 161) rfl (hb hby at_156) rfl (by decide) (by decide) kT) ?_
      show Goes _ _ _ _ (T85.setTop (mkF m 161 #[.val (.int p0), .val (.int p1), .val (.int p2), .val (.int p3), .val (.int p4), .val (.int (Int32.ofNat n)), .val (.ref b1), .val (.ref r19), .val (.int (2 : Int32)), .val (.ref d82), uS, uS] []))
      refine Goes.st (fun sT kT => XS.iload X85.here hx rfl (hb hby at_161) rfl kT) ?_
      show Goes _ _ _ _ (T85.setTop (mkF m 163 #[.val (.int p0), .val (.int p1), .val (.int p2), .val (.int p3), .val (.int p4), .val (.int (Int32.ofNat n)), .val (.ref b1), .val (.ref r19), .val (.int (2 : Int32)), .val (.ref d82), uS, uS] [(.int (2 : Int32))]))
      refine Goes.st (fun sT kT => XS.ifYes X85.here hx rfl (pc0 := 163) (pc' := 193) rfl (hb hby at_163) rfl ((if0 _ _).trans (flt (by decide : ¬ ((2 : Int32) < (0 : Int32)))).2.1) (by decide) (by decide) kT) ?_
      show Goes _ _ _ _ (T85.setTop (mkF m 193 #[.val (.int p0), .val (.int p1), .val (.int p2), .val (.int p3), .val (.int p4), .val (.int (Int32.ofNat n)), .val (.ref b1), .val (.ref r19), .val (.int (2 : Int32)), .val (.ref d82), uS, uS] []))
      refine Goes.st (fun sT kT => XS.iload X85.here hx rfl (hb hby at_193) rfl kT) ?_
      show Goes _ _ _ _ (T85.setTop (mkF m 195 #[.val (.int p0), .val (.int p1), .val (.int p2), .val (.int p3), .val (.int p4), .val (.int (Int32.ofNat n)), .val (.ref b1), .val (.ref r19), .val (.int (2 : Int32)), .val (.ref d82), uS, uS] [(.int (2 : Int32))]))
      refine Goes.st (fun sT kT => XS.aload X85.here hx rfl (hb hby at_195) rfl rfl kT) ?_
      show Goes _ _ _ _ (T85.setTop (mkF m 197 #[.val (.int p0), .val (.int p1), .val (.int p2), .val (.int p3), .val (.int p4), .val (.int (Int32.ofNat n)), .val (.ref b1), .val (.ref r19), .val (.int (2 : Int32)), .val (.ref d82), uS, uS] [(.ref b1), (.int (2 : Int32))]))
      refine Goes.st (fun sT kT => XS.iconst X85.here hx rfl (hb hby at_197) kT) ?_
      show Goes _ _ _ _ (T85.setTop (mkF m 198 #[.val (.int p0), .val (.int p1), .val (.int p2), .val (.int p3), .val (.int p4), .val (.int (Int32.ofNat n)), .val (.ref b1), .val (.ref r19), .val (.int (2 : Int32)), .val (.ref d82), uS, uS] [(.int (0 : Int32)), (.ref b1), (.int (2 : Int32))]))
      have f87 : Arv Z T82.heap b1 k1 .char (4 : Int32) [(.int cc3), (.int cc7), (.int cc11), (.int cc15)] (.int (0 : Int32)) := ((V17.keep K19 nin0).keep K82 nin0)
      have f88 : Old Z n0 T82.heap := (f83.keep K82 all0)
      obtain ⟨_, _, ⟨T86, L86, k86, n86⟩, -, X86, hSr86, hgr86, ⟨Lc86, hQ86, l86, y86, z86, C86⟩, st86⟩ := callSS X85 hx (y := (⟨"com/example/bolter/bolter/service/ParameterNameOfPinLaw", "mk", "(I[CI)Ljava/lang/String;"⟩ : MethodName)) hown82 (mvT hZ82 (hw6 hw)) (mvT hZ82 (hw7 hw)) (mvT hZ82 (hw4 hw)) (mvT hZ82 (hw8 hw)) (by decide) (own_backW (W := 0) (xs := []) (rm_mk0 l Z a0 hw [] 2 b1 k1 cc3 cc7 cc11 cc15 G1 T82.heap n0 (Nat.le_trans Z0 (Nat.le_trans (Nat.le_trans (Nat.le_trans (Nat.le_trans (Nat.le_trans (Nat.le_trans E1.1 (Nat.le_of_eq W5.size.symm)) (Nat.le_of_eq W9.size.symm)) (Nat.le_of_eq W13.size.symm)) (Nat.le_of_eq W17.size.symm)) K19.1) K82.1)) f87 f88 O2 P5 (by decide) rg_3 rg_7 rg_11 rg_15) hZ82 (hw8 hw) (hw4 hw) (by decide) (by decide) (own_EW hw) CR84.1 all0) (g := (mkF m 198 #[.val (.int p0), .val (.int p1), .val (.int p2), .val (.int p3), .val (.int p4), .val (.int (Int32.ofNat n)), .val (.ref b1), .val (.ref r19), .val (.int (2 : Int32)), .val (.ref d82), uS, uS] [(.int (0 : Int32)), (.ref b1), (.int (2 : Int32))])) rfl (by rw [hml]; rfl) (argsL := [(.int (2 : Int32)), (.ref b1), (.int (0 : Int32))]) (rest := []) (lenOf pd_19 rfl) rfl (by show 2 * 0 + _ ≤ _; exact Nat.le_of_eq rfl) (hb hby at_198) (fun _ _ => ⟨rfl, K85, (by decide : 12 + 6 ≤ _), (by decide : 34 + 12 ≤ _)⟩)
      dsimp only [Pt.U, Pt.locs, Pt.cells, Pt.slots] at X86 l86 y86 z86 st86 hQ86 hSr86 hgr86 C86
      subst l86 y86 z86
      obtain ⟨X86, hS86, hZ86, hown86⟩ := rebS hS82 (by rw [K85]; exact (Nat.le_refl _)) X86 hSr86 hgr86 hZ82 hown82
      obtain ⟨r86, t86, kb86, rfl, N86q, K86, F86_0, lo86_0, ne86_0⟩ := hQ86
      have N86 := Fr.app N85 N86q
      have F86_0E := F86_0.1
      have CR89 : CHr Z EL s.vm h0 T86.vm T86.heap := CR84.trans (C86)
      refine Goes.tr st86 ?_
      show Goes _ _ _ _ (T86.setTop (mkF m 201 #[.val (.int p0), .val (.int p1), .val (.int p2), .val (.int p3), .val (.int p4), .val (.int (Int32.ofNat n)), .val (.ref b1), .val (.ref r19), .val (.int (2 : Int32)), .val (.ref d82), uS, uS] [(.ref r86)]))
      refine Goes.st (fun sT kT => XS.astore X86.here hx rfl (hb hby at_201) rfl rfl (l' := #[.val (.int p0), .val (.int p1), .val (.int p2), .val (.int p3), .val (.int p4), .val (.int (Int32.ofNat n)), .val (.ref b1), .val (.ref r19), .val (.int (2 : Int32)), .val (.ref d82), .val (.ref r86), uS]) rfl kT) ?_
      show Goes _ _ _ _ (T86.setTop (mkF m 203 #[.val (.int p0), .val (.int p1), .val (.int p2), .val (.int p3), .val (.int p4), .val (.int (Int32.ofNat n)), .val (.ref b1), .val (.ref r19), .val (.int (2 : Int32)), .val (.ref d82), .val (.ref r86), uS] []))
      refine Goes.st (fun sT kT => XS.iload X86.here hx rfl (hb hby at_203) rfl kT) ?_
      show Goes _ _ _ _ (T86.setTop (mkF m 205 #[.val (.int p0), .val (.int p1), .val (.int p2), .val (.int p3), .val (.int p4), .val (.int (Int32.ofNat n)), .val (.ref b1), .val (.ref r19), .val (.int (2 : Int32)), .val (.ref d82), .val (.ref r86), uS] [(.int (Int32.ofNat n))]))
      refine Goes.st (fun sT kT => XS.iload X86.here hx rfl (hb hby at_205) rfl kT) ?_
      show Goes _ _ _ _ (T86.setTop (mkF m 207 #[.val (.int p0), .val (.int p1), .val (.int p2), .val (.int p3), .val (.int p4), .val (.int (Int32.ofNat n)), .val (.ref b1), .val (.ref r19), .val (.int (2 : Int32)), .val (.ref d82), .val (.ref r86), uS] [(.int (2 : Int32)), (.int (Int32.ofNat n))]))
      refine Goes.st (fun sT kT => XS.isub X86.here hx rfl (hb hby at_207) rfl kT) ?_
      show Goes _ _ _ _ (T86.setTop (mkF m 208 #[.val (.int p0), .val (.int p1), .val (.int p2), .val (.int p3), .val (.int p4), .val (.int (Int32.ofNat n)), .val (.ref b1), .val (.ref r19), .val (.int (2 : Int32)), .val (.ref d82), .val (.ref r86), uS] [(.int ((Int32.ofNat n) - (2 : Int32)))]))
      refine Goes.st (fun sT kT => XS.iconst X86.here hx rfl (hb hby at_208) kT) ?_
      show Goes _ _ _ _ (T86.setTop (mkF m 209 #[.val (.int p0), .val (.int p1), .val (.int p2), .val (.int p3), .val (.int p4), .val (.int (Int32.ofNat n)), .val (.ref b1), .val (.ref r19), .val (.int (2 : Int32)), .val (.ref d82), .val (.ref r86), uS] [(.int (1 : Int32)), (.int ((Int32.ofNat n) - (2 : Int32)))]))
      refine Goes.st (fun sT kT => XS.isub X86.here hx rfl (hb hby at_209) rfl kT) ?_
      show Goes _ _ _ _ (T86.setTop (mkF m 210 #[.val (.int p0), .val (.int p1), .val (.int p2), .val (.int p3), .val (.int p4), .val (.int (Int32.ofNat n)), .val (.ref b1), .val (.ref r19), .val (.int (2 : Int32)), .val (.ref d82), .val (.ref r86), uS] [(.int (((Int32.ofNat n) - (2 : Int32)) - (1 : Int32)))]))
      rw [show (((Int32.ofNat n) - (2 : Int32)) - (1 : Int32)) = Int32.ofNat (n - 2 - 1) from own_ns2 (k := 2) (by omega)]
      show Goes _ _ _ _ (T86.setTop (mkF m 210 #[.val (.int p0), .val (.int p1), .val (.int p2), .val (.int p3), .val (.int p4), .val (.int (Int32.ofNat n)), .val (.ref b1), .val (.ref r19), .val (.int (2 : Int32)), .val (.ref d82), .val (.ref r86), uS] [(.int (Int32.ofNat (n - 2 - 1)))]))
      refine Goes.st (fun sT kT => XS.aload X86.here hx rfl (hb hby at_210) rfl rfl kT) ?_
      show Goes _ _ _ _ (T86.setTop (mkF m 212 #[.val (.int p0), .val (.int p1), .val (.int p2), .val (.int p3), .val (.int p4), .val (.int (Int32.ofNat n)), .val (.ref b1), .val (.ref r19), .val (.int (2 : Int32)), .val (.ref d82), .val (.ref r86), uS] [(.ref b1), (.int (Int32.ofNat (n - 2 - 1)))]))
      refine Goes.st (fun sT kT => XS.iload X86.here hx rfl (hb hby at_212) rfl kT) ?_
      show Goes _ _ _ _ (T86.setTop (mkF m 214 #[.val (.int p0), .val (.int p1), .val (.int p2), .val (.int p3), .val (.int p4), .val (.int (Int32.ofNat n)), .val (.ref b1), .val (.ref r19), .val (.int (2 : Int32)), .val (.ref d82), .val (.ref r86), uS] [(.int (2 : Int32)), (.ref b1), (.int (Int32.ofNat (n - 2 - 1)))]))
      refine Goes.st (fun sT kT => XS.iconst X86.here hx rfl (hb hby at_214) kT) ?_
      show Goes _ _ _ _ (T86.setTop (mkF m 215 #[.val (.int p0), .val (.int p1), .val (.int p2), .val (.int p3), .val (.int p4), .val (.int (Int32.ofNat n)), .val (.ref b1), .val (.ref r19), .val (.int (2 : Int32)), .val (.ref d82), .val (.ref r86), uS] [(.int (1 : Int32)), (.int (2 : Int32)), (.ref b1), (.int (Int32.ofNat (n - 2 - 1)))]))
      refine Goes.st (fun sT kT => XS.iadd X86.here hx rfl (hb hby at_215) rfl kT) ?_
      show Goes _ _ _ _ (T86.setTop (mkF m 216 #[.val (.int p0), .val (.int p1), .val (.int p2), .val (.int p3), .val (.int p4), .val (.int (Int32.ofNat n)), .val (.ref b1), .val (.ref r19), .val (.int (2 : Int32)), .val (.ref d82), .val (.ref r86), uS] [(.int (3 : Int32)), (.ref b1), (.int (Int32.ofNat (n - 2 - 1)))]))
      have f91 : Arv Z T86.heap b1 k1 .char (4 : Int32) [(.int cc3), (.int cc7), (.int cc11), (.int cc15)] (.int (0 : Int32)) := (f87.keep K86 nin0)
      have f92 : Old Z n0 T86.heap := (f88.keep K86 all0)
      obtain ⟨_, _, ⟨T90, L90, k90, n90⟩, -, X90, hSr90, hgr90, ⟨Lc90, hQ90, l90, y90, z90, C90⟩, st90⟩ := callSS X86 hx (y := (⟨"com/example/bolter/bolter/service/ParameterNameOfPinLaw", "mk", "(I[CI)Ljava/lang/String;"⟩ : MethodName)) hown86 (mvT hZ86 (hw6 hw)) (mvT hZ86 (hw7 hw)) (mvT hZ86 (hw4 hw)) (mvT hZ86 (hw8 hw)) (by decide) (own_backW (W := 0) (xs := []) (rm_mk3 l Z a0 hw [] (n - 2 - 1) b1 k1 cc3 cc7 cc11 cc15 G1 T86.heap n0 (Nat.le_trans Z0 (Nat.le_trans (Nat.le_trans (Nat.le_trans (Nat.le_trans (Nat.le_trans (Nat.le_trans (Nat.le_trans E1.1 (Nat.le_of_eq W5.size.symm)) (Nat.le_of_eq W9.size.symm)) (Nat.le_of_eq W13.size.symm)) (Nat.le_of_eq W17.size.symm)) K19.1) K82.1) K86.1)) f91 f92 O2 P5 (by omega) rg_3 rg_7 rg_11 rg_15) hZ86 (hw8 hw) (hw4 hw) (by decide) (by decide) (own_EW hw) CR89.1 all0) (g := (mkF m 216 #[.val (.int p0), .val (.int p1), .val (.int p2), .val (.int p3), .val (.int p4), .val (.int (Int32.ofNat n)), .val (.ref b1), .val (.ref r19), .val (.int (2 : Int32)), .val (.ref d82), .val (.ref r86), uS] [(.int (3 : Int32)), (.ref b1), (.int (Int32.ofNat (n - 2 - 1)))])) rfl (by rw [hml]; rfl) (argsL := [(.int (Int32.ofNat (n - 2 - 1))), (.ref b1), (.int (3 : Int32))]) (rest := []) (lenOf pd_19 rfl) rfl (by show 2 * 0 + _ ≤ _; exact Nat.le_of_eq rfl) (hb hby at_216) (fun _ _ => ⟨rfl, rfl, (by decide : 18 + 6 ≤ _), (by decide : 46 + 12 ≤ _)⟩)
      dsimp only [Pt.U, Pt.locs, Pt.cells, Pt.slots] at X90 l90 y90 z90 st90 hQ90 hSr90 hgr90 C90
      subst l90 y90 z90
      obtain ⟨X90, hS90, hZ90, hown90⟩ := rebS hS86 (Nat.le_refl _) X90 hSr90 hgr90 hZ86 hown86
      obtain ⟨r90, t90, kb90, rfl, N90q, K90, F90_0, lo90_0, ne90_0⟩ := hQ90
      have N90 := Fr.app N86 N90q
      have F90_0E := F90_0.1
      have CR93 : CHr Z EL s.vm h0 T90.vm T90.heap := CR89.trans (C90)
      refine Goes.tr st90 ?_
      show Goes _ _ _ _ (T90.setTop (mkF m 219 #[.val (.int p0), .val (.int p1), .val (.int p2), .val (.int p3), .val (.int p4), .val (.int (Int32.ofNat n)), .val (.ref b1), .val (.ref r19), .val (.int (2 : Int32)), .val (.ref d82), .val (.ref r86), uS] [(.ref r90)]))
      refine Goes.st (fun sT kT => XS.astore X90.here hx rfl (hb hby at_219) rfl rfl (l' := #[.val (.int p0), .val (.int p1), .val (.int p2), .val (.int p3), .val (.int p4), .val (.int (Int32.ofNat n)), .val (.ref b1), .val (.ref r19), .val (.int (2 : Int32)), .val (.ref d82), .val (.ref r86), .val (.ref r90)]) rfl kT) ?_
      show Goes _ _ _ _ (T90.setTop (mkF m 221 #[.val (.int p0), .val (.int p1), .val (.int p2), .val (.int p3), .val (.int p4), .val (.int (Int32.ofNat n)), .val (.ref b1), .val (.ref r19), .val (.int (2 : Int32)), .val (.ref d82), .val (.ref r86), .val (.ref r90)] []))
      refine Goes.st (fun sT kT => XS.aload X90.here hx rfl (hb hby at_221) rfl rfl kT) ?_
      show Goes _ _ _ _ (T90.setTop (mkF m 223 #[.val (.int p0), .val (.int p1), .val (.int p2), .val (.int p3), .val (.int p4), .val (.int (Int32.ofNat n)), .val (.ref b1), .val (.ref r19), .val (.int (2 : Int32)), .val (.ref d82), .val (.ref r86), .val (.ref r90)] [(.ref d82)]))
      have f95 : Fld Z T90.heap d82 "com/example/bolter/bolter/service/ParameterName" "modifier" "Ljava/lang/String;" (.ref x282) := ((F82_2.keep K86 nin0).keep K90 nin0)
      have f96 : Exa Z T90.heap d82 "com/example/bolter/bolter/service/ParameterName" := ((F82_0.keep K86).keep K90)
      obtain ⟨cq94, kq94, q94a, q94b, q94c⟩ := isOf hZ90 rfl f96
      obtain ⟨_, _, ⟨T94, L94, k94, n94⟩, -, X94, ⟨Lc94, hQ94, l94, y94, z94⟩, st94⟩ := X90.virtualBack hx (y := (⟨"com/example/bolter/bolter/service/ParameterName", "modifier", "()Ljava/lang/String;"⟩ : MethodName)) (z := (⟨"com/example/bolter/bolter/service/ParameterName", "modifier", "()Ljava/lang/String;"⟩ : MethodName)) hown90 (mvT hZ90 (hw99 hw)) (mvT hZ90 (hw100 hw)) (notFace_of_selects (args := #[]) (mvT hZ90 (hw102 hw))) (mvT hZ90 (hw102 hw)) (mvT hZ90 (hw101 hw)) (by decide) (backOf (W := 0) (rm_gmodR l Z a0 hw [] d82 x282 T90.heap n0 (Nat.le_trans Z0 (Nat.le_trans (Nat.le_trans (Nat.le_trans (Nat.le_trans (Nat.le_trans (Nat.le_trans (Nat.le_trans (Nat.le_trans E1.1 (Nat.le_of_eq W5.size.symm)) (Nat.le_of_eq W9.size.symm)) (Nat.le_of_eq W13.size.symm)) (Nat.le_of_eq W17.size.symm)) K19.1) K82.1) K86.1) K90.1)) f95) hZ90 (hw103 hw) (hw32 hw) (by decide) (by decide)) q94a q94c (g := (mkF m 223 #[.val (.int p0), .val (.int p1), .val (.int p2), .val (.int p3), .val (.int p4), .val (.int (Int32.ofNat n)), .val (.ref b1), .val (.ref r19), .val (.int (2 : Int32)), .val (.ref d82), .val (.ref r86), .val (.ref r90)] [(.ref d82)])) rfl (by rw [hml]; rfl) (Steps.refl _) (argsL := []) (rest := []) (lenOf pd_21 rfl) rfl (by show 2 * 0 + _ ≤ _; exact Nat.le_of_eq rfl) (hb hby at_223) (fun _ _ => ⟨rfl, rfl, (by decide : 24 + 0 ≤ _), (by decide : 58 + 0 ≤ _)⟩)
      dsimp only [Pt.U, Pt.locs, Pt.cells, Pt.slots] at X94 l94 y94 z94 st94 hQ94
      subst l94 y94 z94
      obtain ⟨rfl, N94q, K94⟩ := hQ94
      have N94 := Fr.app N90 N94q
      refine Goes.tr st94 ?_
      show Goes _ _ _ _ (T94.setTop (mkF m 226 #[.val (.int p0), .val (.int p1), .val (.int p2), .val (.int p3), .val (.int p4), .val (.int (Int32.ofNat n)), .val (.ref b1), .val (.ref r19), .val (.int (2 : Int32)), .val (.ref d82), .val (.ref r86), .val (.ref r90)] [(.ref x282)]))
      refine Goes.st (fun sT kT => XS.ifnullNo X94.here hx rfl (hb hby at_226) rfl kT) ?_
      show Goes _ _ _ _ (T94.setTop (mkF m 229 #[.val (.int p0), .val (.int p1), .val (.int p2), .val (.int p3), .val (.int p4), .val (.int (Int32.ofNat n)), .val (.ref b1), .val (.ref r19), .val (.int (2 : Int32)), .val (.ref d82), .val (.ref r86), .val (.ref r90)] []))
      refine Goes.st (fun sT kT => XS.aload X94.here hx rfl (hb hby at_229) rfl rfl kT) ?_
      show Goes _ _ _ _ (T94.setTop (mkF m 231 #[.val (.int p0), .val (.int p1), .val (.int p2), .val (.int p3), .val (.int p4), .val (.int (Int32.ofNat n)), .val (.ref b1), .val (.ref r19), .val (.int (2 : Int32)), .val (.ref d82), .val (.ref r86), .val (.ref r90)] [(.ref d82)]))
      have f98 : Fld Z T90.heap d82 "com/example/bolter/bolter/service/ParameterName" "code" "Ljava/lang/String;" (.ref x182) := ((F82_1.keep K86 nin0).keep K90 nin0)
      obtain ⟨cq97, kq97, q97a, q97b, q97c⟩ := isOf hZ90 K94 f96
      obtain ⟨_, _, ⟨T97, L97, k97, n97⟩, -, X97, ⟨Lc97, hQ97, l97, y97, z97⟩, st97⟩ := X94.virtualBack hx (y := (⟨"com/example/bolter/bolter/service/ParameterName", "code", "()Ljava/lang/String;"⟩ : MethodName)) (z := (⟨"com/example/bolter/bolter/service/ParameterName", "code", "()Ljava/lang/String;"⟩ : MethodName)) hown90 (mvT hZ90 (hw89 hw)) (mvT hZ90 (hw90 hw)) (notFace_of_selects (args := #[]) (mvT hZ90 (hw92 hw))) (mvT hZ90 (hw92 hw)) (mvT hZ90 (hw91 hw)) (by decide) (backOf (W := 0) (rm_gcode l Z a0 hw [] d82 x182 T90.heap n0 (Nat.le_trans Z0 (Nat.le_trans (Nat.le_trans (Nat.le_trans (Nat.le_trans (Nat.le_trans (Nat.le_trans (Nat.le_trans (Nat.le_trans E1.1 (Nat.le_of_eq W5.size.symm)) (Nat.le_of_eq W9.size.symm)) (Nat.le_of_eq W13.size.symm)) (Nat.le_of_eq W17.size.symm)) K19.1) K82.1) K86.1) K90.1)) f98) hZ90 (hw93 hw) (hw32 hw) (by decide) (by decide)) q97a q97c (g := (mkF m 231 #[.val (.int p0), .val (.int p1), .val (.int p2), .val (.int p3), .val (.int p4), .val (.int (Int32.ofNat n)), .val (.ref b1), .val (.ref r19), .val (.int (2 : Int32)), .val (.ref d82), .val (.ref r86), .val (.ref r90)] [(.ref d82)])) rfl (by rw [hml]; rfl) (Steps.refl _) (argsL := []) (rest := []) (lenOf pd_21 rfl) rfl (by show 2 * 0 + _ ≤ _; exact Nat.le_of_eq rfl) (hb hby at_231) (fun _ _ => ⟨rfl, K94, (by decide : 24 + 0 ≤ _), (by decide : 58 + 0 ≤ _)⟩)
      dsimp only [Pt.U, Pt.locs, Pt.cells, Pt.slots] at X97 l97 y97 z97 st97 hQ97
      subst l97 y97 z97
      obtain ⟨rfl, N97q, K97⟩ := hQ97
      have N97 := Fr.app N94 N97q
      refine Goes.tr st97 ?_
      show Goes _ _ _ _ (T97.setTop (mkF m 234 #[.val (.int p0), .val (.int p1), .val (.int p2), .val (.int p3), .val (.int p4), .val (.int (Int32.ofNat n)), .val (.ref b1), .val (.ref r19), .val (.int (2 : Int32)), .val (.ref d82), .val (.ref r86), .val (.ref r90)] [(.ref x182)]))
      refine Goes.st (fun sT kT => XS.aload X97.here hx rfl (hb hby at_234) rfl rfl kT) ?_
      show Goes _ _ _ _ (T97.setTop (mkF m 236 #[.val (.int p0), .val (.int p1), .val (.int p2), .val (.int p3), .val (.int p4), .val (.int (Int32.ofNat n)), .val (.ref b1), .val (.ref r19), .val (.int (2 : Int32)), .val (.ref d82), .val (.ref r86), .val (.ref r90)] [(.ref r86), (.ref x182)]))
      have f100 : Str Z T90.heap x182 y182 k182 ((([cc3, cc7, cc11, cc15].drop 0).take n).take 2) := ((F82_3.keep K86 nin0 nin0).keep K90 nin0 nin0)
      have f101 : Str Z T90.heap r86 t86 kb86 (([cc3, cc7, cc11, cc15].drop 0).take 2) := (F86_0.keep K90 nin0 nin0)
      have f102 : Old Z n0 T90.heap := (f92.keep K90 all0)
      have f103 : Exa Z T90.heap x182 "java/lang/String" := ((F82_3E.keep K86).keep K90)
      obtain ⟨cq99, kq99, q99a, q99b, q99c⟩ := isOf hZ90 K97 f103
      obtain ⟨_, _, ⟨T99, L99, k99, n99⟩, -, X99, ⟨Lc99, hQ99, l99, y99, z99⟩, st99⟩ := X97.virtualBack hx (y := (⟨"java/lang/String", "equals", "(Ljava/lang/Object;)Z"⟩ : MethodName)) (z := (⟨"java/lang/String", "equals", "(Ljava/lang/Object;)Z"⟩ : MethodName)) hown90 (mvT hZ90 (hw94 hw)) (mvT hZ90 (hw95 hw)) (notFace_of_selects (args := #[]) (mvT hZ90 (hw97 hw))) (mvT hZ90 (hw97 hw)) (mvT hZ90 (hw96 hw)) (by decide) (StrChars.Road.eqW (W := 0) hZ90 (own_heq hw) (kI := 4) (hw10 hw) f100.1 f100.2.1 f100.2.2.1 f100.2.2.2.1 (own_cod f100) (own_up f100.2.2.2.2.1) f100.2.2.2.2.2 f101.1 f101.2.1 f101.2.2.1 f101.2.2.2.1 (own_cod f101) (own_up f101.2.2.2.2.1) f101.2.2.2.2.2 (O2.ext f102.2) P5 (by decide) (by decide)) q99a q99c (g := (mkF m 236 #[.val (.int p0), .val (.int p1), .val (.int p2), .val (.int p3), .val (.int p4), .val (.int (Int32.ofNat n)), .val (.ref b1), .val (.ref r19), .val (.int (2 : Int32)), .val (.ref d82), .val (.ref r86), .val (.ref r90)] [(.ref r86), (.ref x182)])) rfl (by rw [hml]; rfl) (Steps.refl _) (argsL := [(.ref r86)]) (rest := []) (lenOf pd_22 rfl) rfl (by show 2 * 0 + _ ≤ _; exact Nat.le_of_eq rfl) (hb hby at_236) (fun _ _ => ⟨rfl, K97, (by decide : 24 + 0 ≤ _), (by decide : 58 + 0 ≤ _)⟩)
      dsimp only [Pt.U, Pt.locs, Pt.cells, Pt.slots] at X99 l99 y99 z99 st99 hQ99
      subst l99 y99 z99
      obtain ⟨hv99, rfl, K99⟩ := hQ99
      have hv99' := own_ite hv99
      subst hv99'
      have N99 := Fr.app N97 (Fr.nil n0)
      refine Goes.tr st99 ?_
      show Goes _ _ _ _ (T99.setTop (mkF m 239 #[.val (.int p0), .val (.int p1), .val (.int p2), .val (.int p3), .val (.int p4), .val (.int (Int32.ofNat n)), .val (.ref b1), .val (.ref r19), .val (.int (2 : Int32)), .val (.ref d82), .val (.ref r86), .val (.ref r90)] [(.int (if (((([cc3, cc7, cc11, cc15].drop 0).take n).take 2) : List Int32) = (([cc3, cc7, cc11, cc15].drop 0).take 2) then (1 : Int32) else 0))]))
      refine Goes.st (fun sT kT => XS.ifNo X99.here hx rfl (hb hby at_239) rfl ((if0 _ _).trans (feq (own_one (own_tt hkn hn))).1) kT) ?_
      show Goes _ _ _ _ (T99.setTop (mkF m 242 #[.val (.int p0), .val (.int p1), .val (.int p2), .val (.int p3), .val (.int p4), .val (.int (Int32.ofNat n)), .val (.ref b1), .val (.ref r19), .val (.int (2 : Int32)), .val (.ref d82), .val (.ref r86), .val (.ref r90)] []))
      refine Goes.st (fun sT kT => XS.aload X99.here hx rfl (hb hby at_242) rfl rfl kT) ?_
      show Goes _ _ _ _ (T99.setTop (mkF m 244 #[.val (.int p0), .val (.int p1), .val (.int p2), .val (.int p3), .val (.int p4), .val (.int (Int32.ofNat n)), .val (.ref b1), .val (.ref r19), .val (.int (2 : Int32)), .val (.ref d82), .val (.ref r86), .val (.ref r90)] [(.ref d82)]))
      obtain ⟨cq104, kq104, q104a, q104b, q104c⟩ := isOf hZ90 K99 f96
      obtain ⟨_, _, ⟨T104, L104, k104, n104⟩, -, X104, ⟨Lc104, hQ104, l104, y104, z104⟩, st104⟩ := X99.virtualBack hx (y := (⟨"com/example/bolter/bolter/service/ParameterName", "modifier", "()Ljava/lang/String;"⟩ : MethodName)) (z := (⟨"com/example/bolter/bolter/service/ParameterName", "modifier", "()Ljava/lang/String;"⟩ : MethodName)) hown90 (mvT hZ90 (hw99 hw)) (mvT hZ90 (hw100 hw)) (notFace_of_selects (args := #[]) (mvT hZ90 (hw102 hw))) (mvT hZ90 (hw102 hw)) (mvT hZ90 (hw101 hw)) (by decide) (backOf (W := 0) (rm_gmodR l Z a0 hw [] d82 x282 T90.heap n0 (Nat.le_trans Z0 (Nat.le_trans (Nat.le_trans (Nat.le_trans (Nat.le_trans (Nat.le_trans (Nat.le_trans (Nat.le_trans (Nat.le_trans E1.1 (Nat.le_of_eq W5.size.symm)) (Nat.le_of_eq W9.size.symm)) (Nat.le_of_eq W13.size.symm)) (Nat.le_of_eq W17.size.symm)) K19.1) K82.1) K86.1) K90.1)) f95) hZ90 (hw103 hw) (hw32 hw) (by decide) (by decide)) q104a q104c (g := (mkF m 244 #[.val (.int p0), .val (.int p1), .val (.int p2), .val (.int p3), .val (.int p4), .val (.int (Int32.ofNat n)), .val (.ref b1), .val (.ref r19), .val (.int (2 : Int32)), .val (.ref d82), .val (.ref r86), .val (.ref r90)] [(.ref d82)])) rfl (by rw [hml]; rfl) (Steps.refl _) (argsL := []) (rest := []) (lenOf pd_21 rfl) rfl (by show 2 * 0 + _ ≤ _; exact Nat.le_of_eq rfl) (hb hby at_244) (fun _ _ => ⟨rfl, K99, (by decide : 24 + 0 ≤ _), (by decide : 58 + 0 ≤ _)⟩)
      dsimp only [Pt.U, Pt.locs, Pt.cells, Pt.slots] at X104 l104 y104 z104 st104 hQ104
      subst l104 y104 z104
      obtain ⟨rfl, N104q, K104⟩ := hQ104
      have N104 := Fr.app N99 N104q
      refine Goes.tr st104 ?_
      show Goes _ _ _ _ (T104.setTop (mkF m 247 #[.val (.int p0), .val (.int p1), .val (.int p2), .val (.int p3), .val (.int p4), .val (.int (Int32.ofNat n)), .val (.ref b1), .val (.ref r19), .val (.int (2 : Int32)), .val (.ref d82), .val (.ref r86), .val (.ref r90)] [(.ref x282)]))
      refine Goes.st (fun sT kT => XS.aload X104.here hx rfl (hb hby at_247) rfl rfl kT) ?_
      show Goes _ _ _ _ (T104.setTop (mkF m 249 #[.val (.int p0), .val (.int p1), .val (.int p2), .val (.int p3), .val (.int p4), .val (.int (Int32.ofNat n)), .val (.ref b1), .val (.ref r19), .val (.int (2 : Int32)), .val (.ref d82), .val (.ref r86), .val (.ref r90)] [(.ref r90), (.ref x282)]))
      have f106 : Str Z T90.heap x282 y282 k282 ((([cc3, cc7, cc11, cc15].drop 0).take n).drop (2 + 1)) := ((F82_4.keep K86 nin0 nin0).keep K90 nin0 nin0)
      have f107 : Exa Z T90.heap x282 "java/lang/String" := ((F82_4E.keep K86).keep K90)
      obtain ⟨cq105, kq105, q105a, q105b, q105c⟩ := isOf hZ90 K104 f107
      obtain ⟨_, _, ⟨T105, L105, k105, n105⟩, -, X105, ⟨Lc105, hQ105, l105, y105, z105⟩, st105⟩ := X104.virtualBack hx (y := (⟨"java/lang/String", "equals", "(Ljava/lang/Object;)Z"⟩ : MethodName)) (z := (⟨"java/lang/String", "equals", "(Ljava/lang/Object;)Z"⟩ : MethodName)) hown90 (mvT hZ90 (hw94 hw)) (mvT hZ90 (hw95 hw)) (notFace_of_selects (args := #[]) (mvT hZ90 (hw97 hw))) (mvT hZ90 (hw97 hw)) (mvT hZ90 (hw96 hw)) (by decide) (StrChars.Road.eqW (W := 0) hZ90 (own_heq hw) (kI := 4) (hw10 hw) f106.1 f106.2.1 f106.2.2.1 f106.2.2.2.1 (own_cod f106) (own_up f106.2.2.2.2.1) f106.2.2.2.2.2 F90_0.1 F90_0.2.1 F90_0.2.2.1 F90_0.2.2.2.1 (own_cod F90_0) (own_up F90_0.2.2.2.2.1) F90_0.2.2.2.2.2 (O2.ext f102.2) P5 (by decide) (by decide)) q105a q105c (g := (mkF m 249 #[.val (.int p0), .val (.int p1), .val (.int p2), .val (.int p3), .val (.int p4), .val (.int (Int32.ofNat n)), .val (.ref b1), .val (.ref r19), .val (.int (2 : Int32)), .val (.ref d82), .val (.ref r86), .val (.ref r90)] [(.ref r90), (.ref x282)])) rfl (by rw [hml]; rfl) (Steps.refl _) (argsL := [(.ref r90)]) (rest := []) (lenOf pd_22 rfl) rfl (by show 2 * 0 + _ ≤ _; exact Nat.le_of_eq rfl) (hb hby at_249) (fun _ _ => ⟨rfl, K104, (by decide : 24 + 0 ≤ _), (by decide : 58 + 0 ≤ _)⟩)
      dsimp only [Pt.U, Pt.locs, Pt.cells, Pt.slots] at X105 l105 y105 z105 st105 hQ105
      subst l105 y105 z105
      obtain ⟨hv105, rfl, K105⟩ := hQ105
      have hv105' := own_ite hv105
      subst hv105'
      have N105 := Fr.app N104 (Fr.nil n0)
      refine Goes.tr st105 ?_
      show Goes _ _ _ _ (T105.setTop (mkF m 252 #[.val (.int p0), .val (.int p1), .val (.int p2), .val (.int p3), .val (.int p4), .val (.int (Int32.ofNat n)), .val (.ref b1), .val (.ref r19), .val (.int (2 : Int32)), .val (.ref d82), .val (.ref r86), .val (.ref r90)] [(.int (if (((([cc3, cc7, cc11, cc15].drop 0).take n).drop (2 + 1)) : List Int32) = (([cc3, cc7, cc11, cc15].drop 3).take (n - 2 - 1)) then (1 : Int32) else 0))]))
      refine Goes.st (fun sT kT => XS.ifNo X105.here hx rfl (hb hby at_252) rfl ((if0 _ _).trans (feq (own_one (own_dd hkn hn))).1) kT) ?_
      show Goes _ _ _ _ (T105.setTop (mkF m 255 #[.val (.int p0), .val (.int p1), .val (.int p2), .val (.int p3), .val (.int p4), .val (.int (Int32.ofNat n)), .val (.ref b1), .val (.ref r19), .val (.int (2 : Int32)), .val (.ref d82), .val (.ref r86), .val (.ref r90)] []))
      refine Goes.st (fun sT kT => XS.iconst X105.here hx rfl (hb hby at_255) kT) ?_
      show Goes _ _ _ _ (T105.setTop (mkF m 256 #[.val (.int p0), .val (.int p1), .val (.int p2), .val (.int p3), .val (.int p4), .val (.int (Int32.ofNat n)), .val (.ref b1), .val (.ref r19), .val (.int (2 : Int32)), .val (.ref d82), .val (.ref r86), .val (.ref r90)] [(.int (1 : Int32))]))
      refine Goes.st (fun sT kT => XS.goto X105.here hx rfl (pc0 := 256) (pc' := 260) rfl (hb hby at_256) (by decide) (by decide) kT) ?_
      show Goes _ _ _ _ (T105.setTop (mkF m 260 #[.val (.int p0), .val (.int p1), .val (.int p2), .val (.int p3), .val (.int p4), .val (.int (Int32.ofNat n)), .val (.ref b1), .val (.ref r19), .val (.int (2 : Int32)), .val (.ref d82), .val (.ref r86), .val (.ref r90)] [(.int (1 : Int32))]))
      obtain ⟨fs, hr, hrun, hended, hRW⟩ := X105.leaveW hS90 (by rw [K105]; exact (Nat.le_refl _)) (v := some (.int (1 : Int32))) (fun h => by rw [Bd.returns] at h; cases h)
      subst hQQ
      have hCR : CHr Z EL s.vm s.heap T105.vm T105.heap := by rw [hh, K105]; exact CR93.trans (CHv.at X105 hZ90 (own_EW hw) CR93.1)
      refine ⟨_, _, retN X105 hx (t := .boolean) Bd.returns (by simp) (hb hby at_260) hr, hrun, hended, _, _, rfl, ?_, hCR, own_REmono hRW (by decide) (by decide)⟩
      show Q_law Z p0 p1 p2 p3 p4 G1 vF h0 n0 _ T105.heap _
      rw [K105]
      exact ⟨rfl, N105⟩
     case neg =>
      have hk3z : k = 3 := by omega
      subst hk3z
      show Goes _ _ _ _ (T19.setTop (mkF m 139 #[.val (.int p0), .val (.int p1), .val (.int p2), .val (.int p3), .val (.int p4), .val (.int (Int32.ofNat n)), .val (.ref b1), .val (.ref r19), .val (.int (3 : Int32)), uS, uS, uS] []))
      refine Goes.st (fun sT kT => XS.aload X19.here hx rfl (hb hby at_139) rfl rfl kT) ?_
      show Goes _ _ _ _ (T19.setTop (mkF m 141 #[.val (.int p0), .val (.int p1), .val (.int p2), .val (.int p3), .val (.int p4), .val (.int (Int32.ofNat n)), .val (.ref b1), .val (.ref r19), .val (.int (3 : Int32)), uS, uS, uS] [(.ref r19)]))
      have f109 : Old Z n0 T19.heap := (f20.keep K19 all0)
      obtain ⟨_, _, ⟨T108, L108, k108, n108⟩, -, X108, hSr108, hgr108, ⟨Lc108, hQ108, l108, y108, z108, C108⟩, st108⟩ := callSS X19 hx (y := (⟨"com/example/bolter/bolter/service/ParameterName", "of", "(Ljava/lang/String;)Lcom/example/bolter/bolter/service/ParameterName;"⟩ : MethodName)) hown19 (mvT hZ19 (hw30 hw)) (mvT hZ19 (hw31 hw)) (mvT hZ19 (hw32 hw)) (mvT hZ19 (hw33 hw)) (by decide) (own_backW (W := 0) (xs := []) (rm_ofK l Z a0 hw [] r19 t19 kb19 (([cc3, cc7, cc11, cc15].drop 0).take n) G1 vF 3 T19.heap n0 (Nat.le_trans Z0 (Nat.le_trans (Nat.le_trans (Nat.le_trans (Nat.le_trans (Nat.le_trans E1.1 (Nat.le_of_eq W5.size.symm)) (Nat.le_of_eq W9.size.symm)) (Nat.le_of_eq W13.size.symm)) (Nat.le_of_eq W17.size.symm)) K19.1)) F19_0 f109 O2 P5 OF rF hix (by rw [own_len4 hn]; exact hkn) (by rw [own_len4 hn]; exact hn)) hZ19 (hw33 hw) (hw32 hw) (by decide) (by decide) (own_EW hw) CR21.1 all0) (g := (mkF m 141 #[.val (.int p0), .val (.int p1), .val (.int p2), .val (.int p3), .val (.int p4), .val (.int (Int32.ofNat n)), .val (.ref b1), .val (.ref r19), .val (.int (3 : Int32)), uS, uS, uS] [(.ref r19)])) rfl (by rw [hml]; rfl) (argsL := [(.ref r19)]) (rest := []) (lenOf pd_20 rfl) rfl (by show 2 * 0 + _ ≤ _; exact Nat.le_of_eq rfl) (hb hby at_141) (fun _ _ => ⟨rfl, rfl, (by decide : 7 + 5 ≤ _), (by decide : 16 + 18 ≤ _)⟩)
      dsimp only [Pt.U, Pt.locs, Pt.cells, Pt.slots] at X108 l108 y108 z108 st108 hQ108 hSr108 hgr108 C108
      subst l108 y108 z108
      obtain ⟨X108, hS108, hZ108, hown108⟩ := rebS hS19 (Nat.le_refl _) X108 hSr108 hgr108 hZ19 hown19
      obtain ⟨d108, x1108, y1108, k1108, x2108, y2108, k2108, rfl, N108q, K108, F108_0, F108_1, F108_2, F108_3, F108_4, lo108_0⟩ := hQ108
      have N108 := Fr.app N19 N108q
      have F108_3E := F108_3.1
      have F108_4E := F108_4.1
      have CR110 : CHr Z EL s.vm h0 T108.vm T108.heap := CR21.trans (C108)
      refine Goes.tr st108 ?_
      show Goes _ _ _ _ (T108.setTop (mkF m 144 #[.val (.int p0), .val (.int p1), .val (.int p2), .val (.int p3), .val (.int p4), .val (.int (Int32.ofNat n)), .val (.ref b1), .val (.ref r19), .val (.int (3 : Int32)), uS, uS, uS] [(.ref d108)]))
      refine Goes.st (fun sT kT => XS.astore X108.here hx rfl (hb hby at_144) rfl rfl (l' := #[.val (.int p0), .val (.int p1), .val (.int p2), .val (.int p3), .val (.int p4), .val (.int (Int32.ofNat n)), .val (.ref b1), .val (.ref r19), .val (.int (3 : Int32)), .val (.ref d108), uS, uS]) rfl kT) ?_
      show Goes _ _ _ _ (T108.setTop (mkF m 146 #[.val (.int p0), .val (.int p1), .val (.int p2), .val (.int p3), .val (.int p4), .val (.int (Int32.ofNat n)), .val (.ref b1), .val (.ref r19), .val (.int (3 : Int32)), .val (.ref d108), uS, uS] []))
      refine Goes.st (fun sT kT => XS.aload X108.here hx rfl (hb hby at_146) rfl rfl kT) ?_
      show Goes _ _ _ _ (T108.setTop (mkF m 148 #[.val (.int p0), .val (.int p1), .val (.int p2), .val (.int p3), .val (.int p4), .val (.int (Int32.ofNat n)), .val (.ref b1), .val (.ref r19), .val (.int (3 : Int32)), .val (.ref d108), uS, uS] [(.ref d108)]))
      refine Goes.st (fun sT kT => XS.ifnullNo X108.here hx rfl (hb hby at_148) rfl kT) ?_
      show Goes _ _ _ _ (T108.setTop (mkF m 151 #[.val (.int p0), .val (.int p1), .val (.int p2), .val (.int p3), .val (.int p4), .val (.int (Int32.ofNat n)), .val (.ref b1), .val (.ref r19), .val (.int (3 : Int32)), .val (.ref d108), uS, uS] []))
      refine Goes.st (fun sT kT => XS.aload X108.here hx rfl (hb hby at_151) rfl rfl kT) ?_
      show Goes _ _ _ _ (T108.setTop (mkF m 153 #[.val (.int p0), .val (.int p1), .val (.int p2), .val (.int p3), .val (.int p4), .val (.int (Int32.ofNat n)), .val (.ref b1), .val (.ref r19), .val (.int (3 : Int32)), .val (.ref d108), uS, uS] [(.ref d108)]))
      obtain ⟨cq111, kq111, q111a, q111b, q111c⟩ := isOf hZ108 rfl F108_0
      obtain ⟨_, _, ⟨T111, L111, k111, n111⟩, -, X111, ⟨Lc111, hQ111, l111, y111, z111⟩, st111⟩ := X108.virtualBack hx (y := (⟨"com/example/bolter/bolter/service/ParameterName", "code", "()Ljava/lang/String;"⟩ : MethodName)) (z := (⟨"com/example/bolter/bolter/service/ParameterName", "code", "()Ljava/lang/String;"⟩ : MethodName)) hown108 (mvT hZ108 (hw89 hw)) (mvT hZ108 (hw90 hw)) (notFace_of_selects (args := #[]) (mvT hZ108 (hw92 hw))) (mvT hZ108 (hw92 hw)) (mvT hZ108 (hw91 hw)) (by decide) (backOf (W := 0) (rm_gcode l Z a0 hw [] d108 x1108 T108.heap n0 (Nat.le_trans Z0 (Nat.le_trans (Nat.le_trans (Nat.le_trans (Nat.le_trans (Nat.le_trans (Nat.le_trans E1.1 (Nat.le_of_eq W5.size.symm)) (Nat.le_of_eq W9.size.symm)) (Nat.le_of_eq W13.size.symm)) (Nat.le_of_eq W17.size.symm)) K19.1) K108.1)) F108_1) hZ108 (hw93 hw) (hw32 hw) (by decide) (by decide)) q111a q111c (g := (mkF m 153 #[.val (.int p0), .val (.int p1), .val (.int p2), .val (.int p3), .val (.int p4), .val (.int (Int32.ofNat n)), .val (.ref b1), .val (.ref r19), .val (.int (3 : Int32)), .val (.ref d108), uS, uS] [(.ref d108)])) rfl (by rw [hml]; rfl) (Steps.refl _) (argsL := []) (rest := []) (lenOf pd_21 rfl) rfl (by show 2 * 0 + _ ≤ _; exact Nat.le_of_eq rfl) (hb hby at_153) (fun _ _ => ⟨rfl, rfl, (by decide : 12 + 0 ≤ _), (by decide : 34 + 0 ≤ _)⟩)
      dsimp only [Pt.U, Pt.locs, Pt.cells, Pt.slots] at X111 l111 y111 z111 st111 hQ111
      subst l111 y111 z111
      obtain ⟨rfl, N111q, K111⟩ := hQ111
      have N111 := Fr.app N108 N111q
      refine Goes.tr st111 ?_
      show Goes _ _ _ _ (T111.setTop (mkF m 156 #[.val (.int p0), .val (.int p1), .val (.int p2), .val (.int p3), .val (.int p4), .val (.int (Int32.ofNat n)), .val (.ref b1), .val (.ref r19), .val (.int (3 : Int32)), .val (.ref d108), uS, uS] [(.ref x1108)]))
      refine Goes.st (fun sT kT => XS.ifnonnullYes X111.here hx rfl (pc0 := 156) (pc' := 161) rfl (hb hby at_156) rfl (by decide) (by decide) kT) ?_
      show Goes _ _ _ _ (T111.setTop (mkF m 161 #[.val (.int p0), .val (.int p1), .val (.int p2), .val (.int p3), .val (.int p4), .val (.int (Int32.ofNat n)), .val (.ref b1), .val (.ref r19), .val (.int (3 : Int32)), .val (.ref d108), uS, uS] []))
      refine Goes.st (fun sT kT => XS.iload X111.here hx rfl (hb hby at_161) rfl kT) ?_
      show Goes _ _ _ _ (T111.setTop (mkF m 163 #[.val (.int p0), .val (.int p1), .val (.int p2), .val (.int p3), .val (.int p4), .val (.int (Int32.ofNat n)), .val (.ref b1), .val (.ref r19), .val (.int (3 : Int32)), .val (.ref d108), uS, uS] [(.int (3 : Int32))]))
      refine Goes.st (fun sT kT => XS.ifYes X111.here hx rfl (pc0 := 163) (pc' := 193) rfl (hb hby at_163) rfl ((if0 _ _).trans (flt (by decide : ¬ ((3 : Int32) < (0 : Int32)))).2.1) (by decide) (by decide) kT) ?_
      show Goes _ _ _ _ (T111.setTop (mkF m 193 #[.val (.int p0), .val (.int p1), .val (.int p2), .val (.int p3), .val (.int p4), .val (.int (Int32.ofNat n)), .val (.ref b1), .val (.ref r19), .val (.int (3 : Int32)), .val (.ref d108), uS, uS] []))
      refine Goes.st (fun sT kT => XS.iload X111.here hx rfl (hb hby at_193) rfl kT) ?_
      show Goes _ _ _ _ (T111.setTop (mkF m 195 #[.val (.int p0), .val (.int p1), .val (.int p2), .val (.int p3), .val (.int p4), .val (.int (Int32.ofNat n)), .val (.ref b1), .val (.ref r19), .val (.int (3 : Int32)), .val (.ref d108), uS, uS] [(.int (3 : Int32))]))
      refine Goes.st (fun sT kT => XS.aload X111.here hx rfl (hb hby at_195) rfl rfl kT) ?_
      show Goes _ _ _ _ (T111.setTop (mkF m 197 #[.val (.int p0), .val (.int p1), .val (.int p2), .val (.int p3), .val (.int p4), .val (.int (Int32.ofNat n)), .val (.ref b1), .val (.ref r19), .val (.int (3 : Int32)), .val (.ref d108), uS, uS] [(.ref b1), (.int (3 : Int32))]))
      refine Goes.st (fun sT kT => XS.iconst X111.here hx rfl (hb hby at_197) kT) ?_
      show Goes _ _ _ _ (T111.setTop (mkF m 198 #[.val (.int p0), .val (.int p1), .val (.int p2), .val (.int p3), .val (.int p4), .val (.int (Int32.ofNat n)), .val (.ref b1), .val (.ref r19), .val (.int (3 : Int32)), .val (.ref d108), uS, uS] [(.int (0 : Int32)), (.ref b1), (.int (3 : Int32))]))
      have f113 : Arv Z T108.heap b1 k1 .char (4 : Int32) [(.int cc3), (.int cc7), (.int cc11), (.int cc15)] (.int (0 : Int32)) := ((V17.keep K19 nin0).keep K108 nin0)
      have f114 : Old Z n0 T108.heap := (f109.keep K108 all0)
      obtain ⟨_, _, ⟨T112, L112, k112, n112⟩, -, X112, hSr112, hgr112, ⟨Lc112, hQ112, l112, y112, z112, C112⟩, st112⟩ := callSS X111 hx (y := (⟨"com/example/bolter/bolter/service/ParameterNameOfPinLaw", "mk", "(I[CI)Ljava/lang/String;"⟩ : MethodName)) hown108 (mvT hZ108 (hw6 hw)) (mvT hZ108 (hw7 hw)) (mvT hZ108 (hw4 hw)) (mvT hZ108 (hw8 hw)) (by decide) (own_backW (W := 0) (xs := []) (rm_mk0 l Z a0 hw [] 3 b1 k1 cc3 cc7 cc11 cc15 G1 T108.heap n0 (Nat.le_trans Z0 (Nat.le_trans (Nat.le_trans (Nat.le_trans (Nat.le_trans (Nat.le_trans (Nat.le_trans E1.1 (Nat.le_of_eq W5.size.symm)) (Nat.le_of_eq W9.size.symm)) (Nat.le_of_eq W13.size.symm)) (Nat.le_of_eq W17.size.symm)) K19.1) K108.1)) f113 f114 O2 P5 (by decide) rg_3 rg_7 rg_11 rg_15) hZ108 (hw8 hw) (hw4 hw) (by decide) (by decide) (own_EW hw) CR110.1 all0) (g := (mkF m 198 #[.val (.int p0), .val (.int p1), .val (.int p2), .val (.int p3), .val (.int p4), .val (.int (Int32.ofNat n)), .val (.ref b1), .val (.ref r19), .val (.int (3 : Int32)), .val (.ref d108), uS, uS] [(.int (0 : Int32)), (.ref b1), (.int (3 : Int32))])) rfl (by rw [hml]; rfl) (argsL := [(.int (3 : Int32)), (.ref b1), (.int (0 : Int32))]) (rest := []) (lenOf pd_19 rfl) rfl (by show 2 * 0 + _ ≤ _; exact Nat.le_of_eq rfl) (hb hby at_198) (fun _ _ => ⟨rfl, K111, (by decide : 12 + 6 ≤ _), (by decide : 34 + 12 ≤ _)⟩)
      dsimp only [Pt.U, Pt.locs, Pt.cells, Pt.slots] at X112 l112 y112 z112 st112 hQ112 hSr112 hgr112 C112
      subst l112 y112 z112
      obtain ⟨X112, hS112, hZ112, hown112⟩ := rebS hS108 (by rw [K111]; exact (Nat.le_refl _)) X112 hSr112 hgr112 hZ108 hown108
      obtain ⟨r112, t112, kb112, rfl, N112q, K112, F112_0, lo112_0, ne112_0⟩ := hQ112
      have N112 := Fr.app N111 N112q
      have F112_0E := F112_0.1
      have CR115 : CHr Z EL s.vm h0 T112.vm T112.heap := CR110.trans (C112)
      refine Goes.tr st112 ?_
      show Goes _ _ _ _ (T112.setTop (mkF m 201 #[.val (.int p0), .val (.int p1), .val (.int p2), .val (.int p3), .val (.int p4), .val (.int (Int32.ofNat n)), .val (.ref b1), .val (.ref r19), .val (.int (3 : Int32)), .val (.ref d108), uS, uS] [(.ref r112)]))
      refine Goes.st (fun sT kT => XS.astore X112.here hx rfl (hb hby at_201) rfl rfl (l' := #[.val (.int p0), .val (.int p1), .val (.int p2), .val (.int p3), .val (.int p4), .val (.int (Int32.ofNat n)), .val (.ref b1), .val (.ref r19), .val (.int (3 : Int32)), .val (.ref d108), .val (.ref r112), uS]) rfl kT) ?_
      show Goes _ _ _ _ (T112.setTop (mkF m 203 #[.val (.int p0), .val (.int p1), .val (.int p2), .val (.int p3), .val (.int p4), .val (.int (Int32.ofNat n)), .val (.ref b1), .val (.ref r19), .val (.int (3 : Int32)), .val (.ref d108), .val (.ref r112), uS] []))
      refine Goes.st (fun sT kT => XS.iload X112.here hx rfl (hb hby at_203) rfl kT) ?_
      show Goes _ _ _ _ (T112.setTop (mkF m 205 #[.val (.int p0), .val (.int p1), .val (.int p2), .val (.int p3), .val (.int p4), .val (.int (Int32.ofNat n)), .val (.ref b1), .val (.ref r19), .val (.int (3 : Int32)), .val (.ref d108), .val (.ref r112), uS] [(.int (Int32.ofNat n))]))
      refine Goes.st (fun sT kT => XS.iload X112.here hx rfl (hb hby at_205) rfl kT) ?_
      show Goes _ _ _ _ (T112.setTop (mkF m 207 #[.val (.int p0), .val (.int p1), .val (.int p2), .val (.int p3), .val (.int p4), .val (.int (Int32.ofNat n)), .val (.ref b1), .val (.ref r19), .val (.int (3 : Int32)), .val (.ref d108), .val (.ref r112), uS] [(.int (3 : Int32)), (.int (Int32.ofNat n))]))
      refine Goes.st (fun sT kT => XS.isub X112.here hx rfl (hb hby at_207) rfl kT) ?_
      show Goes _ _ _ _ (T112.setTop (mkF m 208 #[.val (.int p0), .val (.int p1), .val (.int p2), .val (.int p3), .val (.int p4), .val (.int (Int32.ofNat n)), .val (.ref b1), .val (.ref r19), .val (.int (3 : Int32)), .val (.ref d108), .val (.ref r112), uS] [(.int ((Int32.ofNat n) - (3 : Int32)))]))
      refine Goes.st (fun sT kT => XS.iconst X112.here hx rfl (hb hby at_208) kT) ?_
      show Goes _ _ _ _ (T112.setTop (mkF m 209 #[.val (.int p0), .val (.int p1), .val (.int p2), .val (.int p3), .val (.int p4), .val (.int (Int32.ofNat n)), .val (.ref b1), .val (.ref r19), .val (.int (3 : Int32)), .val (.ref d108), .val (.ref r112), uS] [(.int (1 : Int32)), (.int ((Int32.ofNat n) - (3 : Int32)))]))
      refine Goes.st (fun sT kT => XS.isub X112.here hx rfl (hb hby at_209) rfl kT) ?_
      show Goes _ _ _ _ (T112.setTop (mkF m 210 #[.val (.int p0), .val (.int p1), .val (.int p2), .val (.int p3), .val (.int p4), .val (.int (Int32.ofNat n)), .val (.ref b1), .val (.ref r19), .val (.int (3 : Int32)), .val (.ref d108), .val (.ref r112), uS] [(.int (((Int32.ofNat n) - (3 : Int32)) - (1 : Int32)))]))
      rw [show (((Int32.ofNat n) - (3 : Int32)) - (1 : Int32)) = Int32.ofNat (n - 3 - 1) from own_ns2 (k := 3) (by omega)]
      show Goes _ _ _ _ (T112.setTop (mkF m 210 #[.val (.int p0), .val (.int p1), .val (.int p2), .val (.int p3), .val (.int p4), .val (.int (Int32.ofNat n)), .val (.ref b1), .val (.ref r19), .val (.int (3 : Int32)), .val (.ref d108), .val (.ref r112), uS] [(.int (Int32.ofNat (n - 3 - 1)))]))
      refine Goes.st (fun sT kT => XS.aload X112.here hx rfl (hb hby at_210) rfl rfl kT) ?_
      show Goes _ _ _ _ (T112.setTop (mkF m 212 #[.val (.int p0), .val (.int p1), .val (.int p2), .val (.int p3), .val (.int p4), .val (.int (Int32.ofNat n)), .val (.ref b1), .val (.ref r19), .val (.int (3 : Int32)), .val (.ref d108), .val (.ref r112), uS] [(.ref b1), (.int (Int32.ofNat (n - 3 - 1)))]))
      refine Goes.st (fun sT kT => XS.iload X112.here hx rfl (hb hby at_212) rfl kT) ?_
      show Goes _ _ _ _ (T112.setTop (mkF m 214 #[.val (.int p0), .val (.int p1), .val (.int p2), .val (.int p3), .val (.int p4), .val (.int (Int32.ofNat n)), .val (.ref b1), .val (.ref r19), .val (.int (3 : Int32)), .val (.ref d108), .val (.ref r112), uS] [(.int (3 : Int32)), (.ref b1), (.int (Int32.ofNat (n - 3 - 1)))]))
      refine Goes.st (fun sT kT => XS.iconst X112.here hx rfl (hb hby at_214) kT) ?_
      show Goes _ _ _ _ (T112.setTop (mkF m 215 #[.val (.int p0), .val (.int p1), .val (.int p2), .val (.int p3), .val (.int p4), .val (.int (Int32.ofNat n)), .val (.ref b1), .val (.ref r19), .val (.int (3 : Int32)), .val (.ref d108), .val (.ref r112), uS] [(.int (1 : Int32)), (.int (3 : Int32)), (.ref b1), (.int (Int32.ofNat (n - 3 - 1)))]))
      refine Goes.st (fun sT kT => XS.iadd X112.here hx rfl (hb hby at_215) rfl kT) ?_
      show Goes _ _ _ _ (T112.setTop (mkF m 216 #[.val (.int p0), .val (.int p1), .val (.int p2), .val (.int p3), .val (.int p4), .val (.int (Int32.ofNat n)), .val (.ref b1), .val (.ref r19), .val (.int (3 : Int32)), .val (.ref d108), .val (.ref r112), uS] [(.int (4 : Int32)), (.ref b1), (.int (Int32.ofNat (n - 3 - 1)))]))
      have f117 : Arv Z T112.heap b1 k1 .char (4 : Int32) [(.int cc3), (.int cc7), (.int cc11), (.int cc15)] (.int (0 : Int32)) := (f113.keep K112 nin0)
      have f118 : Old Z n0 T112.heap := (f114.keep K112 all0)
      obtain ⟨_, _, ⟨T116, L116, k116, n116⟩, -, X116, hSr116, hgr116, ⟨Lc116, hQ116, l116, y116, z116, C116⟩, st116⟩ := callSS X112 hx (y := (⟨"com/example/bolter/bolter/service/ParameterNameOfPinLaw", "mk", "(I[CI)Ljava/lang/String;"⟩ : MethodName)) hown112 (mvT hZ112 (hw6 hw)) (mvT hZ112 (hw7 hw)) (mvT hZ112 (hw4 hw)) (mvT hZ112 (hw8 hw)) (by decide) (own_backW (W := 0) (xs := []) (rm_mk4 l Z a0 hw [] (n - 3 - 1) b1 k1 cc3 cc7 cc11 cc15 G1 T112.heap n0 (Nat.le_trans Z0 (Nat.le_trans (Nat.le_trans (Nat.le_trans (Nat.le_trans (Nat.le_trans (Nat.le_trans (Nat.le_trans E1.1 (Nat.le_of_eq W5.size.symm)) (Nat.le_of_eq W9.size.symm)) (Nat.le_of_eq W13.size.symm)) (Nat.le_of_eq W17.size.symm)) K19.1) K108.1) K112.1)) f117 f118 O2 P5 (by omega) rg_3 rg_7 rg_11 rg_15) hZ112 (hw8 hw) (hw4 hw) (by decide) (by decide) (own_EW hw) CR115.1 all0) (g := (mkF m 216 #[.val (.int p0), .val (.int p1), .val (.int p2), .val (.int p3), .val (.int p4), .val (.int (Int32.ofNat n)), .val (.ref b1), .val (.ref r19), .val (.int (3 : Int32)), .val (.ref d108), .val (.ref r112), uS] [(.int (4 : Int32)), (.ref b1), (.int (Int32.ofNat (n - 3 - 1)))])) rfl (by rw [hml]; rfl) (argsL := [(.int (Int32.ofNat (n - 3 - 1))), (.ref b1), (.int (4 : Int32))]) (rest := []) (lenOf pd_19 rfl) rfl (by show 2 * 0 + _ ≤ _; exact Nat.le_of_eq rfl) (hb hby at_216) (fun _ _ => ⟨rfl, rfl, (by decide : 18 + 6 ≤ _), (by decide : 46 + 12 ≤ _)⟩)
      dsimp only [Pt.U, Pt.locs, Pt.cells, Pt.slots] at X116 l116 y116 z116 st116 hQ116 hSr116 hgr116 C116
      subst l116 y116 z116
      obtain ⟨X116, hS116, hZ116, hown116⟩ := rebS hS112 (Nat.le_refl _) X116 hSr116 hgr116 hZ112 hown112
      obtain ⟨r116, t116, kb116, rfl, N116q, K116, F116_0, lo116_0, ne116_0⟩ := hQ116
      have N116 := Fr.app N112 N116q
      have F116_0E := F116_0.1
      have CR119 : CHr Z EL s.vm h0 T116.vm T116.heap := CR115.trans (C116)
      refine Goes.tr st116 ?_
      show Goes _ _ _ _ (T116.setTop (mkF m 219 #[.val (.int p0), .val (.int p1), .val (.int p2), .val (.int p3), .val (.int p4), .val (.int (Int32.ofNat n)), .val (.ref b1), .val (.ref r19), .val (.int (3 : Int32)), .val (.ref d108), .val (.ref r112), uS] [(.ref r116)]))
      refine Goes.st (fun sT kT => XS.astore X116.here hx rfl (hb hby at_219) rfl rfl (l' := #[.val (.int p0), .val (.int p1), .val (.int p2), .val (.int p3), .val (.int p4), .val (.int (Int32.ofNat n)), .val (.ref b1), .val (.ref r19), .val (.int (3 : Int32)), .val (.ref d108), .val (.ref r112), .val (.ref r116)]) rfl kT) ?_
      show Goes _ _ _ _ (T116.setTop (mkF m 221 #[.val (.int p0), .val (.int p1), .val (.int p2), .val (.int p3), .val (.int p4), .val (.int (Int32.ofNat n)), .val (.ref b1), .val (.ref r19), .val (.int (3 : Int32)), .val (.ref d108), .val (.ref r112), .val (.ref r116)] []))
      refine Goes.st (fun sT kT => XS.aload X116.here hx rfl (hb hby at_221) rfl rfl kT) ?_
      show Goes _ _ _ _ (T116.setTop (mkF m 223 #[.val (.int p0), .val (.int p1), .val (.int p2), .val (.int p3), .val (.int p4), .val (.int (Int32.ofNat n)), .val (.ref b1), .val (.ref r19), .val (.int (3 : Int32)), .val (.ref d108), .val (.ref r112), .val (.ref r116)] [(.ref d108)]))
      have f121 : Fld Z T116.heap d108 "com/example/bolter/bolter/service/ParameterName" "modifier" "Ljava/lang/String;" (.ref x2108) := ((F108_2.keep K112 nin0).keep K116 nin0)
      have f122 : Exa Z T116.heap d108 "com/example/bolter/bolter/service/ParameterName" := ((F108_0.keep K112).keep K116)
      obtain ⟨cq120, kq120, q120a, q120b, q120c⟩ := isOf hZ116 rfl f122
      obtain ⟨_, _, ⟨T120, L120, k120, n120⟩, -, X120, ⟨Lc120, hQ120, l120, y120, z120⟩, st120⟩ := X116.virtualBack hx (y := (⟨"com/example/bolter/bolter/service/ParameterName", "modifier", "()Ljava/lang/String;"⟩ : MethodName)) (z := (⟨"com/example/bolter/bolter/service/ParameterName", "modifier", "()Ljava/lang/String;"⟩ : MethodName)) hown116 (mvT hZ116 (hw99 hw)) (mvT hZ116 (hw100 hw)) (notFace_of_selects (args := #[]) (mvT hZ116 (hw102 hw))) (mvT hZ116 (hw102 hw)) (mvT hZ116 (hw101 hw)) (by decide) (backOf (W := 0) (rm_gmodR l Z a0 hw [] d108 x2108 T116.heap n0 (Nat.le_trans Z0 (Nat.le_trans (Nat.le_trans (Nat.le_trans (Nat.le_trans (Nat.le_trans (Nat.le_trans (Nat.le_trans (Nat.le_trans E1.1 (Nat.le_of_eq W5.size.symm)) (Nat.le_of_eq W9.size.symm)) (Nat.le_of_eq W13.size.symm)) (Nat.le_of_eq W17.size.symm)) K19.1) K108.1) K112.1) K116.1)) f121) hZ116 (hw103 hw) (hw32 hw) (by decide) (by decide)) q120a q120c (g := (mkF m 223 #[.val (.int p0), .val (.int p1), .val (.int p2), .val (.int p3), .val (.int p4), .val (.int (Int32.ofNat n)), .val (.ref b1), .val (.ref r19), .val (.int (3 : Int32)), .val (.ref d108), .val (.ref r112), .val (.ref r116)] [(.ref d108)])) rfl (by rw [hml]; rfl) (Steps.refl _) (argsL := []) (rest := []) (lenOf pd_21 rfl) rfl (by show 2 * 0 + _ ≤ _; exact Nat.le_of_eq rfl) (hb hby at_223) (fun _ _ => ⟨rfl, rfl, (by decide : 24 + 0 ≤ _), (by decide : 58 + 0 ≤ _)⟩)
      dsimp only [Pt.U, Pt.locs, Pt.cells, Pt.slots] at X120 l120 y120 z120 st120 hQ120
      subst l120 y120 z120
      obtain ⟨rfl, N120q, K120⟩ := hQ120
      have N120 := Fr.app N116 N120q
      refine Goes.tr st120 ?_
      show Goes _ _ _ _ (T120.setTop (mkF m 226 #[.val (.int p0), .val (.int p1), .val (.int p2), .val (.int p3), .val (.int p4), .val (.int (Int32.ofNat n)), .val (.ref b1), .val (.ref r19), .val (.int (3 : Int32)), .val (.ref d108), .val (.ref r112), .val (.ref r116)] [(.ref x2108)]))
      refine Goes.st (fun sT kT => XS.ifnullNo X120.here hx rfl (hb hby at_226) rfl kT) ?_
      show Goes _ _ _ _ (T120.setTop (mkF m 229 #[.val (.int p0), .val (.int p1), .val (.int p2), .val (.int p3), .val (.int p4), .val (.int (Int32.ofNat n)), .val (.ref b1), .val (.ref r19), .val (.int (3 : Int32)), .val (.ref d108), .val (.ref r112), .val (.ref r116)] []))
      refine Goes.st (fun sT kT => XS.aload X120.here hx rfl (hb hby at_229) rfl rfl kT) ?_
      show Goes _ _ _ _ (T120.setTop (mkF m 231 #[.val (.int p0), .val (.int p1), .val (.int p2), .val (.int p3), .val (.int p4), .val (.int (Int32.ofNat n)), .val (.ref b1), .val (.ref r19), .val (.int (3 : Int32)), .val (.ref d108), .val (.ref r112), .val (.ref r116)] [(.ref d108)]))
      have f124 : Fld Z T116.heap d108 "com/example/bolter/bolter/service/ParameterName" "code" "Ljava/lang/String;" (.ref x1108) := ((F108_1.keep K112 nin0).keep K116 nin0)
      obtain ⟨cq123, kq123, q123a, q123b, q123c⟩ := isOf hZ116 K120 f122
      obtain ⟨_, _, ⟨T123, L123, k123, n123⟩, -, X123, ⟨Lc123, hQ123, l123, y123, z123⟩, st123⟩ := X120.virtualBack hx (y := (⟨"com/example/bolter/bolter/service/ParameterName", "code", "()Ljava/lang/String;"⟩ : MethodName)) (z := (⟨"com/example/bolter/bolter/service/ParameterName", "code", "()Ljava/lang/String;"⟩ : MethodName)) hown116 (mvT hZ116 (hw89 hw)) (mvT hZ116 (hw90 hw)) (notFace_of_selects (args := #[]) (mvT hZ116 (hw92 hw))) (mvT hZ116 (hw92 hw)) (mvT hZ116 (hw91 hw)) (by decide) (backOf (W := 0) (rm_gcode l Z a0 hw [] d108 x1108 T116.heap n0 (Nat.le_trans Z0 (Nat.le_trans (Nat.le_trans (Nat.le_trans (Nat.le_trans (Nat.le_trans (Nat.le_trans (Nat.le_trans (Nat.le_trans E1.1 (Nat.le_of_eq W5.size.symm)) (Nat.le_of_eq W9.size.symm)) (Nat.le_of_eq W13.size.symm)) (Nat.le_of_eq W17.size.symm)) K19.1) K108.1) K112.1) K116.1)) f124) hZ116 (hw93 hw) (hw32 hw) (by decide) (by decide)) q123a q123c (g := (mkF m 231 #[.val (.int p0), .val (.int p1), .val (.int p2), .val (.int p3), .val (.int p4), .val (.int (Int32.ofNat n)), .val (.ref b1), .val (.ref r19), .val (.int (3 : Int32)), .val (.ref d108), .val (.ref r112), .val (.ref r116)] [(.ref d108)])) rfl (by rw [hml]; rfl) (Steps.refl _) (argsL := []) (rest := []) (lenOf pd_21 rfl) rfl (by show 2 * 0 + _ ≤ _; exact Nat.le_of_eq rfl) (hb hby at_231) (fun _ _ => ⟨rfl, K120, (by decide : 24 + 0 ≤ _), (by decide : 58 + 0 ≤ _)⟩)
      dsimp only [Pt.U, Pt.locs, Pt.cells, Pt.slots] at X123 l123 y123 z123 st123 hQ123
      subst l123 y123 z123
      obtain ⟨rfl, N123q, K123⟩ := hQ123
      have N123 := Fr.app N120 N123q
      refine Goes.tr st123 ?_
      show Goes _ _ _ _ (T123.setTop (mkF m 234 #[.val (.int p0), .val (.int p1), .val (.int p2), .val (.int p3), .val (.int p4), .val (.int (Int32.ofNat n)), .val (.ref b1), .val (.ref r19), .val (.int (3 : Int32)), .val (.ref d108), .val (.ref r112), .val (.ref r116)] [(.ref x1108)]))
      refine Goes.st (fun sT kT => XS.aload X123.here hx rfl (hb hby at_234) rfl rfl kT) ?_
      show Goes _ _ _ _ (T123.setTop (mkF m 236 #[.val (.int p0), .val (.int p1), .val (.int p2), .val (.int p3), .val (.int p4), .val (.int (Int32.ofNat n)), .val (.ref b1), .val (.ref r19), .val (.int (3 : Int32)), .val (.ref d108), .val (.ref r112), .val (.ref r116)] [(.ref r112), (.ref x1108)]))
      have f126 : Str Z T116.heap x1108 y1108 k1108 ((([cc3, cc7, cc11, cc15].drop 0).take n).take 3) := ((F108_3.keep K112 nin0 nin0).keep K116 nin0 nin0)
      have f127 : Str Z T116.heap r112 t112 kb112 (([cc3, cc7, cc11, cc15].drop 0).take 3) := (F112_0.keep K116 nin0 nin0)
      have f128 : Old Z n0 T116.heap := (f118.keep K116 all0)
      have f129 : Exa Z T116.heap x1108 "java/lang/String" := ((F108_3E.keep K112).keep K116)
      obtain ⟨cq125, kq125, q125a, q125b, q125c⟩ := isOf hZ116 K123 f129
      obtain ⟨_, _, ⟨T125, L125, k125, n125⟩, -, X125, ⟨Lc125, hQ125, l125, y125, z125⟩, st125⟩ := X123.virtualBack hx (y := (⟨"java/lang/String", "equals", "(Ljava/lang/Object;)Z"⟩ : MethodName)) (z := (⟨"java/lang/String", "equals", "(Ljava/lang/Object;)Z"⟩ : MethodName)) hown116 (mvT hZ116 (hw94 hw)) (mvT hZ116 (hw95 hw)) (notFace_of_selects (args := #[]) (mvT hZ116 (hw97 hw))) (mvT hZ116 (hw97 hw)) (mvT hZ116 (hw96 hw)) (by decide) (StrChars.Road.eqW (W := 0) hZ116 (own_heq hw) (kI := 4) (hw10 hw) f126.1 f126.2.1 f126.2.2.1 f126.2.2.2.1 (own_cod f126) (own_up f126.2.2.2.2.1) f126.2.2.2.2.2 f127.1 f127.2.1 f127.2.2.1 f127.2.2.2.1 (own_cod f127) (own_up f127.2.2.2.2.1) f127.2.2.2.2.2 (O2.ext f128.2) P5 (by decide) (by decide)) q125a q125c (g := (mkF m 236 #[.val (.int p0), .val (.int p1), .val (.int p2), .val (.int p3), .val (.int p4), .val (.int (Int32.ofNat n)), .val (.ref b1), .val (.ref r19), .val (.int (3 : Int32)), .val (.ref d108), .val (.ref r112), .val (.ref r116)] [(.ref r112), (.ref x1108)])) rfl (by rw [hml]; rfl) (Steps.refl _) (argsL := [(.ref r112)]) (rest := []) (lenOf pd_22 rfl) rfl (by show 2 * 0 + _ ≤ _; exact Nat.le_of_eq rfl) (hb hby at_236) (fun _ _ => ⟨rfl, K123, (by decide : 24 + 0 ≤ _), (by decide : 58 + 0 ≤ _)⟩)
      dsimp only [Pt.U, Pt.locs, Pt.cells, Pt.slots] at X125 l125 y125 z125 st125 hQ125
      subst l125 y125 z125
      obtain ⟨hv125, rfl, K125⟩ := hQ125
      have hv125' := own_ite hv125
      subst hv125'
      have N125 := Fr.app N123 (Fr.nil n0)
      refine Goes.tr st125 ?_
      show Goes _ _ _ _ (T125.setTop (mkF m 239 #[.val (.int p0), .val (.int p1), .val (.int p2), .val (.int p3), .val (.int p4), .val (.int (Int32.ofNat n)), .val (.ref b1), .val (.ref r19), .val (.int (3 : Int32)), .val (.ref d108), .val (.ref r112), .val (.ref r116)] [(.int (if (((([cc3, cc7, cc11, cc15].drop 0).take n).take 3) : List Int32) = (([cc3, cc7, cc11, cc15].drop 0).take 3) then (1 : Int32) else 0))]))
      refine Goes.st (fun sT kT => XS.ifNo X125.here hx rfl (hb hby at_239) rfl ((if0 _ _).trans (feq (own_one (own_tt hkn hn))).1) kT) ?_
      show Goes _ _ _ _ (T125.setTop (mkF m 242 #[.val (.int p0), .val (.int p1), .val (.int p2), .val (.int p3), .val (.int p4), .val (.int (Int32.ofNat n)), .val (.ref b1), .val (.ref r19), .val (.int (3 : Int32)), .val (.ref d108), .val (.ref r112), .val (.ref r116)] []))
      refine Goes.st (fun sT kT => XS.aload X125.here hx rfl (hb hby at_242) rfl rfl kT) ?_
      show Goes _ _ _ _ (T125.setTop (mkF m 244 #[.val (.int p0), .val (.int p1), .val (.int p2), .val (.int p3), .val (.int p4), .val (.int (Int32.ofNat n)), .val (.ref b1), .val (.ref r19), .val (.int (3 : Int32)), .val (.ref d108), .val (.ref r112), .val (.ref r116)] [(.ref d108)]))
      obtain ⟨cq130, kq130, q130a, q130b, q130c⟩ := isOf hZ116 K125 f122
      obtain ⟨_, _, ⟨T130, L130, k130, n130⟩, -, X130, ⟨Lc130, hQ130, l130, y130, z130⟩, st130⟩ := X125.virtualBack hx (y := (⟨"com/example/bolter/bolter/service/ParameterName", "modifier", "()Ljava/lang/String;"⟩ : MethodName)) (z := (⟨"com/example/bolter/bolter/service/ParameterName", "modifier", "()Ljava/lang/String;"⟩ : MethodName)) hown116 (mvT hZ116 (hw99 hw)) (mvT hZ116 (hw100 hw)) (notFace_of_selects (args := #[]) (mvT hZ116 (hw102 hw))) (mvT hZ116 (hw102 hw)) (mvT hZ116 (hw101 hw)) (by decide) (backOf (W := 0) (rm_gmodR l Z a0 hw [] d108 x2108 T116.heap n0 (Nat.le_trans Z0 (Nat.le_trans (Nat.le_trans (Nat.le_trans (Nat.le_trans (Nat.le_trans (Nat.le_trans (Nat.le_trans (Nat.le_trans E1.1 (Nat.le_of_eq W5.size.symm)) (Nat.le_of_eq W9.size.symm)) (Nat.le_of_eq W13.size.symm)) (Nat.le_of_eq W17.size.symm)) K19.1) K108.1) K112.1) K116.1)) f121) hZ116 (hw103 hw) (hw32 hw) (by decide) (by decide)) q130a q130c (g := (mkF m 244 #[.val (.int p0), .val (.int p1), .val (.int p2), .val (.int p3), .val (.int p4), .val (.int (Int32.ofNat n)), .val (.ref b1), .val (.ref r19), .val (.int (3 : Int32)), .val (.ref d108), .val (.ref r112), .val (.ref r116)] [(.ref d108)])) rfl (by rw [hml]; rfl) (Steps.refl _) (argsL := []) (rest := []) (lenOf pd_21 rfl) rfl (by show 2 * 0 + _ ≤ _; exact Nat.le_of_eq rfl) (hb hby at_244) (fun _ _ => ⟨rfl, K125, (by decide : 24 + 0 ≤ _), (by decide : 58 + 0 ≤ _)⟩)
      dsimp only [Pt.U, Pt.locs, Pt.cells, Pt.slots] at X130 l130 y130 z130 st130 hQ130
      subst l130 y130 z130
      obtain ⟨rfl, N130q, K130⟩ := hQ130
      have N130 := Fr.app N125 N130q
      refine Goes.tr st130 ?_
      show Goes _ _ _ _ (T130.setTop (mkF m 247 #[.val (.int p0), .val (.int p1), .val (.int p2), .val (.int p3), .val (.int p4), .val (.int (Int32.ofNat n)), .val (.ref b1), .val (.ref r19), .val (.int (3 : Int32)), .val (.ref d108), .val (.ref r112), .val (.ref r116)] [(.ref x2108)]))
      refine Goes.st (fun sT kT => XS.aload X130.here hx rfl (hb hby at_247) rfl rfl kT) ?_
      show Goes _ _ _ _ (T130.setTop (mkF m 249 #[.val (.int p0), .val (.int p1), .val (.int p2), .val (.int p3), .val (.int p4), .val (.int (Int32.ofNat n)), .val (.ref b1), .val (.ref r19), .val (.int (3 : Int32)), .val (.ref d108), .val (.ref r112), .val (.ref r116)] [(.ref r116), (.ref x2108)]))
      have f132 : Str Z T116.heap x2108 y2108 k2108 ((([cc3, cc7, cc11, cc15].drop 0).take n).drop (3 + 1)) := ((F108_4.keep K112 nin0 nin0).keep K116 nin0 nin0)
      have f133 : Exa Z T116.heap x2108 "java/lang/String" := ((F108_4E.keep K112).keep K116)
      obtain ⟨cq131, kq131, q131a, q131b, q131c⟩ := isOf hZ116 K130 f133
      obtain ⟨_, _, ⟨T131, L131, k131, n131⟩, -, X131, ⟨Lc131, hQ131, l131, y131, z131⟩, st131⟩ := X130.virtualBack hx (y := (⟨"java/lang/String", "equals", "(Ljava/lang/Object;)Z"⟩ : MethodName)) (z := (⟨"java/lang/String", "equals", "(Ljava/lang/Object;)Z"⟩ : MethodName)) hown116 (mvT hZ116 (hw94 hw)) (mvT hZ116 (hw95 hw)) (notFace_of_selects (args := #[]) (mvT hZ116 (hw97 hw))) (mvT hZ116 (hw97 hw)) (mvT hZ116 (hw96 hw)) (by decide) (StrChars.Road.eqW (W := 0) hZ116 (own_heq hw) (kI := 4) (hw10 hw) f132.1 f132.2.1 f132.2.2.1 f132.2.2.2.1 (own_cod f132) (own_up f132.2.2.2.2.1) f132.2.2.2.2.2 F116_0.1 F116_0.2.1 F116_0.2.2.1 F116_0.2.2.2.1 (own_cod F116_0) (own_up F116_0.2.2.2.2.1) F116_0.2.2.2.2.2 (O2.ext f128.2) P5 (by decide) (by decide)) q131a q131c (g := (mkF m 249 #[.val (.int p0), .val (.int p1), .val (.int p2), .val (.int p3), .val (.int p4), .val (.int (Int32.ofNat n)), .val (.ref b1), .val (.ref r19), .val (.int (3 : Int32)), .val (.ref d108), .val (.ref r112), .val (.ref r116)] [(.ref r116), (.ref x2108)])) rfl (by rw [hml]; rfl) (Steps.refl _) (argsL := [(.ref r116)]) (rest := []) (lenOf pd_22 rfl) rfl (by show 2 * 0 + _ ≤ _; exact Nat.le_of_eq rfl) (hb hby at_249) (fun _ _ => ⟨rfl, K130, (by decide : 24 + 0 ≤ _), (by decide : 58 + 0 ≤ _)⟩)
      dsimp only [Pt.U, Pt.locs, Pt.cells, Pt.slots] at X131 l131 y131 z131 st131 hQ131
      subst l131 y131 z131
      obtain ⟨hv131, rfl, K131⟩ := hQ131
      have hv131' := own_ite hv131
      subst hv131'
      have N131 := Fr.app N130 (Fr.nil n0)
      refine Goes.tr st131 ?_
      show Goes _ _ _ _ (T131.setTop (mkF m 252 #[.val (.int p0), .val (.int p1), .val (.int p2), .val (.int p3), .val (.int p4), .val (.int (Int32.ofNat n)), .val (.ref b1), .val (.ref r19), .val (.int (3 : Int32)), .val (.ref d108), .val (.ref r112), .val (.ref r116)] [(.int (if (((([cc3, cc7, cc11, cc15].drop 0).take n).drop (3 + 1)) : List Int32) = (([cc3, cc7, cc11, cc15].drop 4).take (n - 3 - 1)) then (1 : Int32) else 0))]))
      refine Goes.st (fun sT kT => XS.ifNo X131.here hx rfl (hb hby at_252) rfl ((if0 _ _).trans (feq (own_one (own_dd hkn hn))).1) kT) ?_
      show Goes _ _ _ _ (T131.setTop (mkF m 255 #[.val (.int p0), .val (.int p1), .val (.int p2), .val (.int p3), .val (.int p4), .val (.int (Int32.ofNat n)), .val (.ref b1), .val (.ref r19), .val (.int (3 : Int32)), .val (.ref d108), .val (.ref r112), .val (.ref r116)] []))
      refine Goes.st (fun sT kT => XS.iconst X131.here hx rfl (hb hby at_255) kT) ?_
      show Goes _ _ _ _ (T131.setTop (mkF m 256 #[.val (.int p0), .val (.int p1), .val (.int p2), .val (.int p3), .val (.int p4), .val (.int (Int32.ofNat n)), .val (.ref b1), .val (.ref r19), .val (.int (3 : Int32)), .val (.ref d108), .val (.ref r112), .val (.ref r116)] [(.int (1 : Int32))]))
      refine Goes.st (fun sT kT => XS.goto X131.here hx rfl (pc0 := 256) (pc' := 260) rfl (hb hby at_256) (by decide) (by decide) kT) ?_
      show Goes _ _ _ _ (T131.setTop (mkF m 260 #[.val (.int p0), .val (.int p1), .val (.int p2), .val (.int p3), .val (.int p4), .val (.int (Int32.ofNat n)), .val (.ref b1), .val (.ref r19), .val (.int (3 : Int32)), .val (.ref d108), .val (.ref r112), .val (.ref r116)] [(.int (1 : Int32))]))
      obtain ⟨fs, hr, hrun, hended, hRW⟩ := X131.leaveW hS116 (by rw [K131]; exact (Nat.le_refl _)) (v := some (.int (1 : Int32))) (fun h => by rw [Bd.returns] at h; cases h)
      subst hQQ
      have hCR : CHr Z EL s.vm s.heap T131.vm T131.heap := by rw [hh, K131]; exact CR119.trans (CHv.at X131 hZ116 (own_EW hw) CR119.1)
      refine ⟨_, _, retN X131 hx (t := .boolean) Bd.returns (by simp) (hb hby at_260) hr, hrun, hended, _, _, rfl, ?_, hCR, own_REmono hRW (by decide) (by decide)⟩
      show Q_law Z p0 p1 p2 p3 p4 G1 vF h0 n0 _ T131.heap _
      rw [K131]
      exact ⟨rfl, N131⟩
 show Goes _ _ _ _ (T19.setTop (mkF m 59 #[.val (.int p0), .val (.int p1), .val (.int p2), .val (.int p3), .val (.int p4), .val (.int (Int32.ofNat n)), .val (.ref b1), .val (.ref r19), .val (.int (-1 : Int32)), uS, uS, uS] []))
 refine Goes.st (fun sT kT => XS.iload X19.here hx rfl (hb hby at_59) rfl kT) ?_
 show Goes _ _ _ _ (T19.setTop (mkF m 61 #[.val (.int p0), .val (.int p1), .val (.int p2), .val (.int p3), .val (.int p4), .val (.int (Int32.ofNat n)), .val (.ref b1), .val (.ref r19), .val (.int (-1 : Int32)), uS, uS, uS] [(.int (Int32.ofNat n))]))
 by_cases cz134 : (0 : Int32) < (Int32.ofNat n)
 case pos =>
  refine Goes.st (fun sT kT => XS.ifNo X19.here hx rfl (hb hby at_61) rfl ((if0 _ _).trans (tlt cz134).2.2.2) kT) ?_
  show Goes _ _ _ _ (T19.setTop (mkF m 64 #[.val (.int p0), .val (.int p1), .val (.int p2), .val (.int p3), .val (.int p4), .val (.int (Int32.ofNat n)), .val (.ref b1), .val (.ref r19), .val (.int (-1 : Int32)), uS, uS, uS] []))
  refine Goes.st (fun sT kT => XS.aload X19.here hx rfl (hb hby at_64) rfl rfl kT) ?_
  show Goes _ _ _ _ (T19.setTop (mkF m 66 #[.val (.int p0), .val (.int p1), .val (.int p2), .val (.int p3), .val (.int p4), .val (.int (Int32.ofNat n)), .val (.ref b1), .val (.ref r19), .val (.int (-1 : Int32)), uS, uS, uS] [(.ref b1)]))
  refine Goes.st (fun sT kT => XS.iconst X19.here hx rfl (hb hby at_66) kT) ?_
  show Goes _ _ _ _ (T19.setTop (mkF m 67 #[.val (.int p0), .val (.int p1), .val (.int p2), .val (.int p3), .val (.int p4), .val (.int (Int32.ofNat n)), .val (.ref b1), .val (.ref r19), .val (.int (-1 : Int32)), uS, uS, uS] [(.int (0 : Int32)), (.ref b1)]))
  have f135 : Arv Z T19.heap b1 k1 .char (4 : Int32) [(.int cc3), (.int cc7), (.int cc11), (.int cc15)] (.int (0 : Int32)) := (V17.keep K19 nin0)
  obtain ⟨oc136, oA136, oq136, oS136, oM136, oH136, oG136⟩ := id f135
  refine Goes.st (fun sT kT => X19.caload hx (j := (0 : Int32)) (v := (.int cc3)) oA136.1 (State.isArrayOf_alike hZ19.alike oA136.2.1) oA136.2.2 (inb_of oS136 ⟨by decide, by decide⟩) (oH136.at (inb_of oS136 ⟨by decide, by decide⟩) rfl) (g := (mkF m 67 #[.val (.int p0), .val (.int p1), .val (.int p2), .val (.int p3), .val (.int p4), .val (.int (Int32.ofNat n)), .val (.ref b1), .val (.ref r19), .val (.int (-1 : Int32)), uS, uS, uS] [(.int (0 : Int32)), (.ref b1)])) rfl rfl (hb hby at_67) _ kT) ?_
  show Goes _ _ _ _ (T19.setTop (mkF m 68 #[.val (.int p0), .val (.int p1), .val (.int p2), .val (.int p3), .val (.int p4), .val (.int (Int32.ofNat n)), .val (.ref b1), .val (.ref r19), .val (.int (-1 : Int32)), uS, uS, uS] [(.int cc3)]))
  refine Goes.st (fun sT kT => XS.bipush X19.here hx rfl (hb hby at_68) kT) ?_
  show Goes _ _ _ _ (T19.setTop (mkF m 70 #[.val (.int p0), .val (.int p1), .val (.int p2), .val (.int p3), .val (.int p4), .val (.int (Int32.ofNat n)), .val (.ref b1), .val (.ref r19), .val (.int (-1 : Int32)), uS, uS, uS] [(.int (58 : Int32)), (.int cc3)]))
  by_cases cz137 : cc3 = (58 : Int32)
  case pos =>
   refine Goes.st (fun sT kT => XS.icmpNo X19.here hx rfl (hb hby at_70) rfl (teq cz137).2 kT) ?_
   show Goes _ _ _ _ (T19.setTop (mkF m 73 #[.val (.int p0), .val (.int p1), .val (.int p2), .val (.int p3), .val (.int p4), .val (.int (Int32.ofNat n)), .val (.ref b1), .val (.ref r19), .val (.int (-1 : Int32)), uS, uS, uS] []))
   refine Goes.st (fun sT kT => XS.iconst X19.here hx rfl (hb hby at_73) kT) ?_
   show Goes _ _ _ _ (T19.setTop (mkF m 74 #[.val (.int p0), .val (.int p1), .val (.int p2), .val (.int p3), .val (.int p4), .val (.int (Int32.ofNat n)), .val (.ref b1), .val (.ref r19), .val (.int (-1 : Int32)), uS, uS, uS] [(.int (0 : Int32))]))
   refine Goes.st (fun sT kT => XS.istore X19.here hx rfl (hb hby at_74) rfl (l' := #[.val (.int p0), .val (.int p1), .val (.int p2), .val (.int p3), .val (.int p4), .val (.int (Int32.ofNat n)), .val (.ref b1), .val (.ref r19), .val (.int (0 : Int32)), uS, uS, uS]) rfl kT) ?_
   show Goes _ _ _ _ (T19.setTop (mkF m 76 #[.val (.int p0), .val (.int p1), .val (.int p2), .val (.int p3), .val (.int p4), .val (.int (Int32.ofNat n)), .val (.ref b1), .val (.ref r19), .val (.int (0 : Int32)), uS, uS, uS] []))
   refine Goes.st (fun sT kT => XS.goto X19.here hx rfl (pc0 := 76) (pc' := 139) rfl (hb hby at_76) (by decide) (by decide) kT) ?_
   show Goes _ _ _ _ (T19.setTop (mkF m 139 #[.val (.int p0), .val (.int p1), .val (.int p2), .val (.int p3), .val (.int p4), .val (.int (Int32.ofNat n)), .val (.ref b1), .val (.ref r19), .val (.int (0 : Int32)), uS, uS, uS] []))
   exact J139 (0 : Int32) (own_k0 hn  ((own_ltn hn (by decide)).mp cz134) cz137)
  case neg =>
   refine Goes.st (fun sT kT => XS.icmpYes X19.here hx rfl (pc0 := 70) (pc' := 79) rfl (hb hby at_70) rfl (feq cz137).2 (by decide) (by decide) kT) ?_
   show Goes _ _ _ _ (T19.setTop (mkF m 79 #[.val (.int p0), .val (.int p1), .val (.int p2), .val (.int p3), .val (.int p4), .val (.int (Int32.ofNat n)), .val (.ref b1), .val (.ref r19), .val (.int (-1 : Int32)), uS, uS, uS] []))
   refine Goes.st (fun sT kT => XS.iload X19.here hx rfl (hb hby at_79) rfl kT) ?_
   show Goes _ _ _ _ (T19.setTop (mkF m 81 #[.val (.int p0), .val (.int p1), .val (.int p2), .val (.int p3), .val (.int p4), .val (.int (Int32.ofNat n)), .val (.ref b1), .val (.ref r19), .val (.int (-1 : Int32)), uS, uS, uS] [(.int (Int32.ofNat n))]))
   refine Goes.st (fun sT kT => XS.iconst X19.here hx rfl (hb hby at_81) kT) ?_
   show Goes _ _ _ _ (T19.setTop (mkF m 82 #[.val (.int p0), .val (.int p1), .val (.int p2), .val (.int p3), .val (.int p4), .val (.int (Int32.ofNat n)), .val (.ref b1), .val (.ref r19), .val (.int (-1 : Int32)), uS, uS, uS] [(.int (1 : Int32)), (.int (Int32.ofNat n))]))
   by_cases cz138 : (1 : Int32) < (Int32.ofNat n)
   case pos =>
    refine Goes.st (fun sT kT => XS.icmpNo X19.here hx rfl (hb hby at_82) rfl (tlt cz138).2.2.2 kT) ?_
    show Goes _ _ _ _ (T19.setTop (mkF m 85 #[.val (.int p0), .val (.int p1), .val (.int p2), .val (.int p3), .val (.int p4), .val (.int (Int32.ofNat n)), .val (.ref b1), .val (.ref r19), .val (.int (-1 : Int32)), uS, uS, uS] []))
    refine Goes.st (fun sT kT => XS.aload X19.here hx rfl (hb hby at_85) rfl rfl kT) ?_
    show Goes _ _ _ _ (T19.setTop (mkF m 87 #[.val (.int p0), .val (.int p1), .val (.int p2), .val (.int p3), .val (.int p4), .val (.int (Int32.ofNat n)), .val (.ref b1), .val (.ref r19), .val (.int (-1 : Int32)), uS, uS, uS] [(.ref b1)]))
    refine Goes.st (fun sT kT => XS.iconst X19.here hx rfl (hb hby at_87) kT) ?_
    show Goes _ _ _ _ (T19.setTop (mkF m 88 #[.val (.int p0), .val (.int p1), .val (.int p2), .val (.int p3), .val (.int p4), .val (.int (Int32.ofNat n)), .val (.ref b1), .val (.ref r19), .val (.int (-1 : Int32)), uS, uS, uS] [(.int (1 : Int32)), (.ref b1)]))
    obtain ⟨oc139, oA139, oq139, oS139, oM139, oH139, oG139⟩ := id f135
    refine Goes.st (fun sT kT => X19.caload hx (j := (1 : Int32)) (v := (.int cc7)) oA139.1 (State.isArrayOf_alike hZ19.alike oA139.2.1) oA139.2.2 (inb_of oS139 ⟨by decide, by decide⟩) (oH139.at (inb_of oS139 ⟨by decide, by decide⟩) rfl) (g := (mkF m 88 #[.val (.int p0), .val (.int p1), .val (.int p2), .val (.int p3), .val (.int p4), .val (.int (Int32.ofNat n)), .val (.ref b1), .val (.ref r19), .val (.int (-1 : Int32)), uS, uS, uS] [(.int (1 : Int32)), (.ref b1)])) rfl rfl (hb hby at_88) _ kT) ?_
    show Goes _ _ _ _ (T19.setTop (mkF m 89 #[.val (.int p0), .val (.int p1), .val (.int p2), .val (.int p3), .val (.int p4), .val (.int (Int32.ofNat n)), .val (.ref b1), .val (.ref r19), .val (.int (-1 : Int32)), uS, uS, uS] [(.int cc7)]))
    refine Goes.st (fun sT kT => XS.bipush X19.here hx rfl (hb hby at_89) kT) ?_
    show Goes _ _ _ _ (T19.setTop (mkF m 91 #[.val (.int p0), .val (.int p1), .val (.int p2), .val (.int p3), .val (.int p4), .val (.int (Int32.ofNat n)), .val (.ref b1), .val (.ref r19), .val (.int (-1 : Int32)), uS, uS, uS] [(.int (58 : Int32)), (.int cc7)]))
    by_cases cz140 : cc7 = (58 : Int32)
    case pos =>
     refine Goes.st (fun sT kT => XS.icmpNo X19.here hx rfl (hb hby at_91) rfl (teq cz140).2 kT) ?_
     show Goes _ _ _ _ (T19.setTop (mkF m 94 #[.val (.int p0), .val (.int p1), .val (.int p2), .val (.int p3), .val (.int p4), .val (.int (Int32.ofNat n)), .val (.ref b1), .val (.ref r19), .val (.int (-1 : Int32)), uS, uS, uS] []))
     refine Goes.st (fun sT kT => XS.iconst X19.here hx rfl (hb hby at_94) kT) ?_
     show Goes _ _ _ _ (T19.setTop (mkF m 95 #[.val (.int p0), .val (.int p1), .val (.int p2), .val (.int p3), .val (.int p4), .val (.int (Int32.ofNat n)), .val (.ref b1), .val (.ref r19), .val (.int (-1 : Int32)), uS, uS, uS] [(.int (1 : Int32))]))
     refine Goes.st (fun sT kT => XS.istore X19.here hx rfl (hb hby at_95) rfl (l' := #[.val (.int p0), .val (.int p1), .val (.int p2), .val (.int p3), .val (.int p4), .val (.int (Int32.ofNat n)), .val (.ref b1), .val (.ref r19), .val (.int (1 : Int32)), uS, uS, uS]) rfl kT) ?_
     show Goes _ _ _ _ (T19.setTop (mkF m 97 #[.val (.int p0), .val (.int p1), .val (.int p2), .val (.int p3), .val (.int p4), .val (.int (Int32.ofNat n)), .val (.ref b1), .val (.ref r19), .val (.int (1 : Int32)), uS, uS, uS] []))
     refine Goes.st (fun sT kT => XS.goto X19.here hx rfl (pc0 := 97) (pc' := 139) rfl (hb hby at_97) (by decide) (by decide) kT) ?_
     show Goes _ _ _ _ (T19.setTop (mkF m 139 #[.val (.int p0), .val (.int p1), .val (.int p2), .val (.int p3), .val (.int p4), .val (.int (Int32.ofNat n)), .val (.ref b1), .val (.ref r19), .val (.int (1 : Int32)), uS, uS, uS] []))
     exact J139 (1 : Int32) (own_k1 hn (Or.inr cz137) ((own_ltn hn (by decide)).mp cz138) cz140)
    case neg =>
     refine Goes.st (fun sT kT => XS.icmpYes X19.here hx rfl (pc0 := 91) (pc' := 100) rfl (hb hby at_91) rfl (feq cz140).2 (by decide) (by decide) kT) ?_
     show Goes _ _ _ _ (T19.setTop (mkF m 100 #[.val (.int p0), .val (.int p1), .val (.int p2), .val (.int p3), .val (.int p4), .val (.int (Int32.ofNat n)), .val (.ref b1), .val (.ref r19), .val (.int (-1 : Int32)), uS, uS, uS] []))
     refine Goes.st (fun sT kT => XS.iload X19.here hx rfl (hb hby at_100) rfl kT) ?_
     show Goes _ _ _ _ (T19.setTop (mkF m 102 #[.val (.int p0), .val (.int p1), .val (.int p2), .val (.int p3), .val (.int p4), .val (.int (Int32.ofNat n)), .val (.ref b1), .val (.ref r19), .val (.int (-1 : Int32)), uS, uS, uS] [(.int (Int32.ofNat n))]))
     refine Goes.st (fun sT kT => XS.iconst X19.here hx rfl (hb hby at_102) kT) ?_
     show Goes _ _ _ _ (T19.setTop (mkF m 103 #[.val (.int p0), .val (.int p1), .val (.int p2), .val (.int p3), .val (.int p4), .val (.int (Int32.ofNat n)), .val (.ref b1), .val (.ref r19), .val (.int (-1 : Int32)), uS, uS, uS] [(.int (2 : Int32)), (.int (Int32.ofNat n))]))
     by_cases cz141 : (2 : Int32) < (Int32.ofNat n)
     case pos =>
      refine Goes.st (fun sT kT => XS.icmpNo X19.here hx rfl (hb hby at_103) rfl (tlt cz141).2.2.2 kT) ?_
      show Goes _ _ _ _ (T19.setTop (mkF m 106 #[.val (.int p0), .val (.int p1), .val (.int p2), .val (.int p3), .val (.int p4), .val (.int (Int32.ofNat n)), .val (.ref b1), .val (.ref r19), .val (.int (-1 : Int32)), uS, uS, uS] []))
      refine Goes.st (fun sT kT => XS.aload X19.here hx rfl (hb hby at_106) rfl rfl kT) ?_
      show Goes _ _ _ _ (T19.setTop (mkF m 108 #[.val (.int p0), .val (.int p1), .val (.int p2), .val (.int p3), .val (.int p4), .val (.int (Int32.ofNat n)), .val (.ref b1), .val (.ref r19), .val (.int (-1 : Int32)), uS, uS, uS] [(.ref b1)]))
      refine Goes.st (fun sT kT => XS.iconst X19.here hx rfl (hb hby at_108) kT) ?_
      show Goes _ _ _ _ (T19.setTop (mkF m 109 #[.val (.int p0), .val (.int p1), .val (.int p2), .val (.int p3), .val (.int p4), .val (.int (Int32.ofNat n)), .val (.ref b1), .val (.ref r19), .val (.int (-1 : Int32)), uS, uS, uS] [(.int (2 : Int32)), (.ref b1)]))
      obtain ⟨oc142, oA142, oq142, oS142, oM142, oH142, oG142⟩ := id f135
      refine Goes.st (fun sT kT => X19.caload hx (j := (2 : Int32)) (v := (.int cc11)) oA142.1 (State.isArrayOf_alike hZ19.alike oA142.2.1) oA142.2.2 (inb_of oS142 ⟨by decide, by decide⟩) (oH142.at (inb_of oS142 ⟨by decide, by decide⟩) rfl) (g := (mkF m 109 #[.val (.int p0), .val (.int p1), .val (.int p2), .val (.int p3), .val (.int p4), .val (.int (Int32.ofNat n)), .val (.ref b1), .val (.ref r19), .val (.int (-1 : Int32)), uS, uS, uS] [(.int (2 : Int32)), (.ref b1)])) rfl rfl (hb hby at_109) _ kT) ?_
      show Goes _ _ _ _ (T19.setTop (mkF m 110 #[.val (.int p0), .val (.int p1), .val (.int p2), .val (.int p3), .val (.int p4), .val (.int (Int32.ofNat n)), .val (.ref b1), .val (.ref r19), .val (.int (-1 : Int32)), uS, uS, uS] [(.int cc11)]))
      refine Goes.st (fun sT kT => XS.bipush X19.here hx rfl (hb hby at_110) kT) ?_
      show Goes _ _ _ _ (T19.setTop (mkF m 112 #[.val (.int p0), .val (.int p1), .val (.int p2), .val (.int p3), .val (.int p4), .val (.int (Int32.ofNat n)), .val (.ref b1), .val (.ref r19), .val (.int (-1 : Int32)), uS, uS, uS] [(.int (58 : Int32)), (.int cc11)]))
      by_cases cz143 : cc11 = (58 : Int32)
      case pos =>
       refine Goes.st (fun sT kT => XS.icmpNo X19.here hx rfl (hb hby at_112) rfl (teq cz143).2 kT) ?_
       show Goes _ _ _ _ (T19.setTop (mkF m 115 #[.val (.int p0), .val (.int p1), .val (.int p2), .val (.int p3), .val (.int p4), .val (.int (Int32.ofNat n)), .val (.ref b1), .val (.ref r19), .val (.int (-1 : Int32)), uS, uS, uS] []))
       refine Goes.st (fun sT kT => XS.iconst X19.here hx rfl (hb hby at_115) kT) ?_
       show Goes _ _ _ _ (T19.setTop (mkF m 116 #[.val (.int p0), .val (.int p1), .val (.int p2), .val (.int p3), .val (.int p4), .val (.int (Int32.ofNat n)), .val (.ref b1), .val (.ref r19), .val (.int (-1 : Int32)), uS, uS, uS] [(.int (2 : Int32))]))
       refine Goes.st (fun sT kT => XS.istore X19.here hx rfl (hb hby at_116) rfl (l' := #[.val (.int p0), .val (.int p1), .val (.int p2), .val (.int p3), .val (.int p4), .val (.int (Int32.ofNat n)), .val (.ref b1), .val (.ref r19), .val (.int (2 : Int32)), uS, uS, uS]) rfl kT) ?_
       show Goes _ _ _ _ (T19.setTop (mkF m 118 #[.val (.int p0), .val (.int p1), .val (.int p2), .val (.int p3), .val (.int p4), .val (.int (Int32.ofNat n)), .val (.ref b1), .val (.ref r19), .val (.int (2 : Int32)), uS, uS, uS] []))
       refine Goes.st (fun sT kT => XS.goto X19.here hx rfl (pc0 := 118) (pc' := 139) rfl (hb hby at_118) (by decide) (by decide) kT) ?_
       show Goes _ _ _ _ (T19.setTop (mkF m 139 #[.val (.int p0), .val (.int p1), .val (.int p2), .val (.int p3), .val (.int p4), .val (.int (Int32.ofNat n)), .val (.ref b1), .val (.ref r19), .val (.int (2 : Int32)), uS, uS, uS] []))
       exact J139 (2 : Int32) (own_k2 hn (Or.inr cz137) (Or.inr cz140) ((own_ltn hn (by decide)).mp cz141) cz143)
      case neg =>
       refine Goes.st (fun sT kT => XS.icmpYes X19.here hx rfl (pc0 := 112) (pc' := 121) rfl (hb hby at_112) rfl (feq cz143).2 (by decide) (by decide) kT) ?_
       show Goes _ _ _ _ (T19.setTop (mkF m 121 #[.val (.int p0), .val (.int p1), .val (.int p2), .val (.int p3), .val (.int p4), .val (.int (Int32.ofNat n)), .val (.ref b1), .val (.ref r19), .val (.int (-1 : Int32)), uS, uS, uS] []))
       refine Goes.st (fun sT kT => XS.iload X19.here hx rfl (hb hby at_121) rfl kT) ?_
       show Goes _ _ _ _ (T19.setTop (mkF m 123 #[.val (.int p0), .val (.int p1), .val (.int p2), .val (.int p3), .val (.int p4), .val (.int (Int32.ofNat n)), .val (.ref b1), .val (.ref r19), .val (.int (-1 : Int32)), uS, uS, uS] [(.int (Int32.ofNat n))]))
       refine Goes.st (fun sT kT => XS.iconst X19.here hx rfl (hb hby at_123) kT) ?_
       show Goes _ _ _ _ (T19.setTop (mkF m 124 #[.val (.int p0), .val (.int p1), .val (.int p2), .val (.int p3), .val (.int p4), .val (.int (Int32.ofNat n)), .val (.ref b1), .val (.ref r19), .val (.int (-1 : Int32)), uS, uS, uS] [(.int (3 : Int32)), (.int (Int32.ofNat n))]))
       by_cases cz144 : (3 : Int32) < (Int32.ofNat n)
       case pos =>
        refine Goes.st (fun sT kT => XS.icmpNo X19.here hx rfl (hb hby at_124) rfl (tlt cz144).2.2.2 kT) ?_
        show Goes _ _ _ _ (T19.setTop (mkF m 127 #[.val (.int p0), .val (.int p1), .val (.int p2), .val (.int p3), .val (.int p4), .val (.int (Int32.ofNat n)), .val (.ref b1), .val (.ref r19), .val (.int (-1 : Int32)), uS, uS, uS] []))
        refine Goes.st (fun sT kT => XS.aload X19.here hx rfl (hb hby at_127) rfl rfl kT) ?_
        show Goes _ _ _ _ (T19.setTop (mkF m 129 #[.val (.int p0), .val (.int p1), .val (.int p2), .val (.int p3), .val (.int p4), .val (.int (Int32.ofNat n)), .val (.ref b1), .val (.ref r19), .val (.int (-1 : Int32)), uS, uS, uS] [(.ref b1)]))
        refine Goes.st (fun sT kT => XS.iconst X19.here hx rfl (hb hby at_129) kT) ?_
        show Goes _ _ _ _ (T19.setTop (mkF m 130 #[.val (.int p0), .val (.int p1), .val (.int p2), .val (.int p3), .val (.int p4), .val (.int (Int32.ofNat n)), .val (.ref b1), .val (.ref r19), .val (.int (-1 : Int32)), uS, uS, uS] [(.int (3 : Int32)), (.ref b1)]))
        obtain ⟨oc145, oA145, oq145, oS145, oM145, oH145, oG145⟩ := id f135
        refine Goes.st (fun sT kT => X19.caload hx (j := (3 : Int32)) (v := (.int cc15)) oA145.1 (State.isArrayOf_alike hZ19.alike oA145.2.1) oA145.2.2 (inb_of oS145 ⟨by decide, by decide⟩) (oH145.at (inb_of oS145 ⟨by decide, by decide⟩) rfl) (g := (mkF m 130 #[.val (.int p0), .val (.int p1), .val (.int p2), .val (.int p3), .val (.int p4), .val (.int (Int32.ofNat n)), .val (.ref b1), .val (.ref r19), .val (.int (-1 : Int32)), uS, uS, uS] [(.int (3 : Int32)), (.ref b1)])) rfl rfl (hb hby at_130) _ kT) ?_
        show Goes _ _ _ _ (T19.setTop (mkF m 131 #[.val (.int p0), .val (.int p1), .val (.int p2), .val (.int p3), .val (.int p4), .val (.int (Int32.ofNat n)), .val (.ref b1), .val (.ref r19), .val (.int (-1 : Int32)), uS, uS, uS] [(.int cc15)]))
        refine Goes.st (fun sT kT => XS.bipush X19.here hx rfl (hb hby at_131) kT) ?_
        show Goes _ _ _ _ (T19.setTop (mkF m 133 #[.val (.int p0), .val (.int p1), .val (.int p2), .val (.int p3), .val (.int p4), .val (.int (Int32.ofNat n)), .val (.ref b1), .val (.ref r19), .val (.int (-1 : Int32)), uS, uS, uS] [(.int (58 : Int32)), (.int cc15)]))
        by_cases cz146 : cc15 = (58 : Int32)
        case pos =>
         refine Goes.st (fun sT kT => XS.icmpNo X19.here hx rfl (hb hby at_133) rfl (teq cz146).2 kT) ?_
         show Goes _ _ _ _ (T19.setTop (mkF m 136 #[.val (.int p0), .val (.int p1), .val (.int p2), .val (.int p3), .val (.int p4), .val (.int (Int32.ofNat n)), .val (.ref b1), .val (.ref r19), .val (.int (-1 : Int32)), uS, uS, uS] []))
         refine Goes.st (fun sT kT => XS.iconst X19.here hx rfl (hb hby at_136) kT) ?_
         show Goes _ _ _ _ (T19.setTop (mkF m 137 #[.val (.int p0), .val (.int p1), .val (.int p2), .val (.int p3), .val (.int p4), .val (.int (Int32.ofNat n)), .val (.ref b1), .val (.ref r19), .val (.int (-1 : Int32)), uS, uS, uS] [(.int (3 : Int32))]))
         refine Goes.st (fun sT kT => XS.istore X19.here hx rfl (hb hby at_137) rfl (l' := #[.val (.int p0), .val (.int p1), .val (.int p2), .val (.int p3), .val (.int p4), .val (.int (Int32.ofNat n)), .val (.ref b1), .val (.ref r19), .val (.int (3 : Int32)), uS, uS, uS]) rfl kT) ?_
         show Goes _ _ _ _ (T19.setTop (mkF m 139 #[.val (.int p0), .val (.int p1), .val (.int p2), .val (.int p3), .val (.int p4), .val (.int (Int32.ofNat n)), .val (.ref b1), .val (.ref r19), .val (.int (3 : Int32)), uS, uS, uS] []))
         exact J139 (3 : Int32) (own_k3 hn (Or.inr cz137) (Or.inr cz140) (Or.inr cz143) ((own_ltn hn (by decide)).mp cz144) cz146)
        case neg =>
         refine Goes.st (fun sT kT => XS.icmpYes X19.here hx rfl (pc0 := 133) (pc' := 139) rfl (hb hby at_133) rfl (feq cz146).2 (by decide) (by decide) kT) ?_
         show Goes _ _ _ _ (T19.setTop (mkF m 139 #[.val (.int p0), .val (.int p1), .val (.int p2), .val (.int p3), .val (.int p4), .val (.int (Int32.ofNat n)), .val (.ref b1), .val (.ref r19), .val (.int (-1 : Int32)), uS, uS, uS] []))
         exact J139 (-1 : Int32) (own_kN hn (Or.inr cz137) (Or.inr cz140) (Or.inr cz143) (Or.inr cz146))
       case neg =>
        refine Goes.st (fun sT kT => XS.icmpYes X19.here hx rfl (pc0 := 124) (pc' := 139) rfl (hb hby at_124) rfl (flt cz144).2.2.2 (by decide) (by decide) kT) ?_
        show Goes _ _ _ _ (T19.setTop (mkF m 139 #[.val (.int p0), .val (.int p1), .val (.int p2), .val (.int p3), .val (.int p4), .val (.int (Int32.ofNat n)), .val (.ref b1), .val (.ref r19), .val (.int (-1 : Int32)), uS, uS, uS] []))
        exact J139 (-1 : Int32) (own_kN hn (Or.inr cz137) (Or.inr cz140) (Or.inr cz143) (Or.inl (fun q => cz144 ((own_ltn hn (by decide)).mpr q))))
     case neg =>
      refine Goes.st (fun sT kT => XS.icmpYes X19.here hx rfl (pc0 := 103) (pc' := 121) rfl (hb hby at_103) rfl (flt cz141).2.2.2 (by decide) (by decide) kT) ?_
      show Goes _ _ _ _ (T19.setTop (mkF m 121 #[.val (.int p0), .val (.int p1), .val (.int p2), .val (.int p3), .val (.int p4), .val (.int (Int32.ofNat n)), .val (.ref b1), .val (.ref r19), .val (.int (-1 : Int32)), uS, uS, uS] []))
      refine Goes.st (fun sT kT => XS.iload X19.here hx rfl (hb hby at_121) rfl kT) ?_
      show Goes _ _ _ _ (T19.setTop (mkF m 123 #[.val (.int p0), .val (.int p1), .val (.int p2), .val (.int p3), .val (.int p4), .val (.int (Int32.ofNat n)), .val (.ref b1), .val (.ref r19), .val (.int (-1 : Int32)), uS, uS, uS] [(.int (Int32.ofNat n))]))
      refine Goes.st (fun sT kT => XS.iconst X19.here hx rfl (hb hby at_123) kT) ?_
      show Goes _ _ _ _ (T19.setTop (mkF m 124 #[.val (.int p0), .val (.int p1), .val (.int p2), .val (.int p3), .val (.int p4), .val (.int (Int32.ofNat n)), .val (.ref b1), .val (.ref r19), .val (.int (-1 : Int32)), uS, uS, uS] [(.int (3 : Int32)), (.int (Int32.ofNat n))]))
      refine Goes.st (fun sT kT => XS.icmpYes X19.here hx rfl (pc0 := 124) (pc' := 139) rfl (hb hby at_124) rfl (flt (fun q => cz141 ((own_ltn hn (by decide)).mpr (Nat.lt_of_succ_lt ((own_ltn hn (by decide)).mp q))))).2.2.2 (by decide) (by decide) kT) ?_
      show Goes _ _ _ _ (T19.setTop (mkF m 139 #[.val (.int p0), .val (.int p1), .val (.int p2), .val (.int p3), .val (.int p4), .val (.int (Int32.ofNat n)), .val (.ref b1), .val (.ref r19), .val (.int (-1 : Int32)), uS, uS, uS] []))
      exact J139 (-1 : Int32) (own_kN hn (Or.inr cz137) (Or.inr cz140) (Or.inl (fun q => cz141 ((own_ltn hn (by decide)).mpr q))) (Or.inl (fun q => (fun q => cz141 ((own_ltn hn (by decide)).mpr (Nat.lt_of_succ_lt ((own_ltn hn (by decide)).mp q)))) ((own_ltn hn (by decide)).mpr q))))
   case neg =>
    refine Goes.st (fun sT kT => XS.icmpYes X19.here hx rfl (pc0 := 82) (pc' := 100) rfl (hb hby at_82) rfl (flt cz138).2.2.2 (by decide) (by decide) kT) ?_
    show Goes _ _ _ _ (T19.setTop (mkF m 100 #[.val (.int p0), .val (.int p1), .val (.int p2), .val (.int p3), .val (.int p4), .val (.int (Int32.ofNat n)), .val (.ref b1), .val (.ref r19), .val (.int (-1 : Int32)), uS, uS, uS] []))
    refine Goes.st (fun sT kT => XS.iload X19.here hx rfl (hb hby at_100) rfl kT) ?_
    show Goes _ _ _ _ (T19.setTop (mkF m 102 #[.val (.int p0), .val (.int p1), .val (.int p2), .val (.int p3), .val (.int p4), .val (.int (Int32.ofNat n)), .val (.ref b1), .val (.ref r19), .val (.int (-1 : Int32)), uS, uS, uS] [(.int (Int32.ofNat n))]))
    refine Goes.st (fun sT kT => XS.iconst X19.here hx rfl (hb hby at_102) kT) ?_
    show Goes _ _ _ _ (T19.setTop (mkF m 103 #[.val (.int p0), .val (.int p1), .val (.int p2), .val (.int p3), .val (.int p4), .val (.int (Int32.ofNat n)), .val (.ref b1), .val (.ref r19), .val (.int (-1 : Int32)), uS, uS, uS] [(.int (2 : Int32)), (.int (Int32.ofNat n))]))
    refine Goes.st (fun sT kT => XS.icmpYes X19.here hx rfl (pc0 := 103) (pc' := 121) rfl (hb hby at_103) rfl (flt (fun q => cz138 ((own_ltn hn (by decide)).mpr (Nat.lt_of_succ_lt ((own_ltn hn (by decide)).mp q))))).2.2.2 (by decide) (by decide) kT) ?_
    show Goes _ _ _ _ (T19.setTop (mkF m 121 #[.val (.int p0), .val (.int p1), .val (.int p2), .val (.int p3), .val (.int p4), .val (.int (Int32.ofNat n)), .val (.ref b1), .val (.ref r19), .val (.int (-1 : Int32)), uS, uS, uS] []))
    refine Goes.st (fun sT kT => XS.iload X19.here hx rfl (hb hby at_121) rfl kT) ?_
    show Goes _ _ _ _ (T19.setTop (mkF m 123 #[.val (.int p0), .val (.int p1), .val (.int p2), .val (.int p3), .val (.int p4), .val (.int (Int32.ofNat n)), .val (.ref b1), .val (.ref r19), .val (.int (-1 : Int32)), uS, uS, uS] [(.int (Int32.ofNat n))]))
    refine Goes.st (fun sT kT => XS.iconst X19.here hx rfl (hb hby at_123) kT) ?_
    show Goes _ _ _ _ (T19.setTop (mkF m 124 #[.val (.int p0), .val (.int p1), .val (.int p2), .val (.int p3), .val (.int p4), .val (.int (Int32.ofNat n)), .val (.ref b1), .val (.ref r19), .val (.int (-1 : Int32)), uS, uS, uS] [(.int (3 : Int32)), (.int (Int32.ofNat n))]))
    refine Goes.st (fun sT kT => XS.icmpYes X19.here hx rfl (pc0 := 124) (pc' := 139) rfl (hb hby at_124) rfl (flt (fun q => (fun q => cz138 ((own_ltn hn (by decide)).mpr (Nat.lt_of_succ_lt ((own_ltn hn (by decide)).mp q)))) ((own_ltn hn (by decide)).mpr (Nat.lt_of_succ_lt ((own_ltn hn (by decide)).mp q))))).2.2.2 (by decide) (by decide) kT) ?_
    show Goes _ _ _ _ (T19.setTop (mkF m 139 #[.val (.int p0), .val (.int p1), .val (.int p2), .val (.int p3), .val (.int p4), .val (.int (Int32.ofNat n)), .val (.ref b1), .val (.ref r19), .val (.int (-1 : Int32)), uS, uS, uS] []))
    exact J139 (-1 : Int32) (own_kN hn (Or.inr cz137) (Or.inl (fun q => cz138 ((own_ltn hn (by decide)).mpr q))) (Or.inl (fun q => (fun q => cz138 ((own_ltn hn (by decide)).mpr (Nat.lt_of_succ_lt ((own_ltn hn (by decide)).mp q)))) ((own_ltn hn (by decide)).mpr q))) (Or.inl (fun q => (fun q => (fun q => cz138 ((own_ltn hn (by decide)).mpr (Nat.lt_of_succ_lt ((own_ltn hn (by decide)).mp q)))) ((own_ltn hn (by decide)).mpr (Nat.lt_of_succ_lt ((own_ltn hn (by decide)).mp q)))) ((own_ltn hn (by decide)).mpr q))))
 case neg =>
  refine Goes.st (fun sT kT => XS.ifYes X19.here hx rfl (pc0 := 61) (pc' := 79) rfl (hb hby at_61) rfl ((if0 _ _).trans (flt cz134).2.2.2) (by decide) (by decide) kT) ?_
  show Goes _ _ _ _ (T19.setTop (mkF m 79 #[.val (.int p0), .val (.int p1), .val (.int p2), .val (.int p3), .val (.int p4), .val (.int (Int32.ofNat n)), .val (.ref b1), .val (.ref r19), .val (.int (-1 : Int32)), uS, uS, uS] []))
  refine Goes.st (fun sT kT => XS.iload X19.here hx rfl (hb hby at_79) rfl kT) ?_
  show Goes _ _ _ _ (T19.setTop (mkF m 81 #[.val (.int p0), .val (.int p1), .val (.int p2), .val (.int p3), .val (.int p4), .val (.int (Int32.ofNat n)), .val (.ref b1), .val (.ref r19), .val (.int (-1 : Int32)), uS, uS, uS] [(.int (Int32.ofNat n))]))
  refine Goes.st (fun sT kT => XS.iconst X19.here hx rfl (hb hby at_81) kT) ?_
  show Goes _ _ _ _ (T19.setTop (mkF m 82 #[.val (.int p0), .val (.int p1), .val (.int p2), .val (.int p3), .val (.int p4), .val (.int (Int32.ofNat n)), .val (.ref b1), .val (.ref r19), .val (.int (-1 : Int32)), uS, uS, uS] [(.int (1 : Int32)), (.int (Int32.ofNat n))]))
  refine Goes.st (fun sT kT => XS.icmpYes X19.here hx rfl (pc0 := 82) (pc' := 100) rfl (hb hby at_82) rfl (flt (fun q => cz134 ((own_ltn hn (by decide)).mpr (Nat.lt_of_succ_lt ((own_ltn hn (by decide)).mp q))))).2.2.2 (by decide) (by decide) kT) ?_
  show Goes _ _ _ _ (T19.setTop (mkF m 100 #[.val (.int p0), .val (.int p1), .val (.int p2), .val (.int p3), .val (.int p4), .val (.int (Int32.ofNat n)), .val (.ref b1), .val (.ref r19), .val (.int (-1 : Int32)), uS, uS, uS] []))
  refine Goes.st (fun sT kT => XS.iload X19.here hx rfl (hb hby at_100) rfl kT) ?_
  show Goes _ _ _ _ (T19.setTop (mkF m 102 #[.val (.int p0), .val (.int p1), .val (.int p2), .val (.int p3), .val (.int p4), .val (.int (Int32.ofNat n)), .val (.ref b1), .val (.ref r19), .val (.int (-1 : Int32)), uS, uS, uS] [(.int (Int32.ofNat n))]))
  refine Goes.st (fun sT kT => XS.iconst X19.here hx rfl (hb hby at_102) kT) ?_
  show Goes _ _ _ _ (T19.setTop (mkF m 103 #[.val (.int p0), .val (.int p1), .val (.int p2), .val (.int p3), .val (.int p4), .val (.int (Int32.ofNat n)), .val (.ref b1), .val (.ref r19), .val (.int (-1 : Int32)), uS, uS, uS] [(.int (2 : Int32)), (.int (Int32.ofNat n))]))
  refine Goes.st (fun sT kT => XS.icmpYes X19.here hx rfl (pc0 := 103) (pc' := 121) rfl (hb hby at_103) rfl (flt (fun q => (fun q => cz134 ((own_ltn hn (by decide)).mpr (Nat.lt_of_succ_lt ((own_ltn hn (by decide)).mp q)))) ((own_ltn hn (by decide)).mpr (Nat.lt_of_succ_lt ((own_ltn hn (by decide)).mp q))))).2.2.2 (by decide) (by decide) kT) ?_
  show Goes _ _ _ _ (T19.setTop (mkF m 121 #[.val (.int p0), .val (.int p1), .val (.int p2), .val (.int p3), .val (.int p4), .val (.int (Int32.ofNat n)), .val (.ref b1), .val (.ref r19), .val (.int (-1 : Int32)), uS, uS, uS] []))
  refine Goes.st (fun sT kT => XS.iload X19.here hx rfl (hb hby at_121) rfl kT) ?_
  show Goes _ _ _ _ (T19.setTop (mkF m 123 #[.val (.int p0), .val (.int p1), .val (.int p2), .val (.int p3), .val (.int p4), .val (.int (Int32.ofNat n)), .val (.ref b1), .val (.ref r19), .val (.int (-1 : Int32)), uS, uS, uS] [(.int (Int32.ofNat n))]))
  refine Goes.st (fun sT kT => XS.iconst X19.here hx rfl (hb hby at_123) kT) ?_
  show Goes _ _ _ _ (T19.setTop (mkF m 124 #[.val (.int p0), .val (.int p1), .val (.int p2), .val (.int p3), .val (.int p4), .val (.int (Int32.ofNat n)), .val (.ref b1), .val (.ref r19), .val (.int (-1 : Int32)), uS, uS, uS] [(.int (3 : Int32)), (.int (Int32.ofNat n))]))
  refine Goes.st (fun sT kT => XS.icmpYes X19.here hx rfl (pc0 := 124) (pc' := 139) rfl (hb hby at_124) rfl (flt (fun q => (fun q => (fun q => cz134 ((own_ltn hn (by decide)).mpr (Nat.lt_of_succ_lt ((own_ltn hn (by decide)).mp q)))) ((own_ltn hn (by decide)).mpr (Nat.lt_of_succ_lt ((own_ltn hn (by decide)).mp q)))) ((own_ltn hn (by decide)).mpr (Nat.lt_of_succ_lt ((own_ltn hn (by decide)).mp q))))).2.2.2 (by decide) (by decide) kT) ?_
  show Goes _ _ _ _ (T19.setTop (mkF m 139 #[.val (.int p0), .val (.int p1), .val (.int p2), .val (.int p3), .val (.int p4), .val (.int (Int32.ofNat n)), .val (.ref b1), .val (.ref r19), .val (.int (-1 : Int32)), uS, uS, uS] []))
  exact J139 (-1 : Int32) (own_kN hn (Or.inl (fun q => cz134 ((own_ltn hn (by decide)).mpr q))) (Or.inl (fun q => (fun q => cz134 ((own_ltn hn (by decide)).mpr (Nat.lt_of_succ_lt ((own_ltn hn (by decide)).mp q)))) ((own_ltn hn (by decide)).mpr q))) (Or.inl (fun q => (fun q => (fun q => cz134 ((own_ltn hn (by decide)).mpr (Nat.lt_of_succ_lt ((own_ltn hn (by decide)).mp q)))) ((own_ltn hn (by decide)).mpr (Nat.lt_of_succ_lt ((own_ltn hn (by decide)).mp q)))) ((own_ltn hn (by decide)).mpr q))) (Or.inl (fun q => (fun q => (fun q => (fun q => cz134 ((own_ltn hn (by decide)).mpr (Nat.lt_of_succ_lt ((own_ltn hn (by decide)).mp q)))) ((own_ltn hn (by decide)).mpr (Nat.lt_of_succ_lt ((own_ltn hn (by decide)).mp q)))) ((own_ltn hn (by decide)).mpr (Nat.lt_of_succ_lt ((own_ltn hn (by decide)).mp q)))) ((own_ltn hn (by decide)).mpr q))))
set_option maxRecDepth 65536 in
set_option maxHeartbeats 40000000 in
theorem comes_1 {Post : Tables → Env → Array Value → State → Outcome → State → Prop} (hpost : ∀ tb e args s v u, (limb_1_1.after args s (.returned v) u = true ∧ limb_1_2.after args s (.returned v) u = true ∧ True) → ReturnedEndW s (.returned v) u (Jvm.fieldLocs frame_1_writes args s ++ Jvm.arrayLocs frame_1_arrays args s ++ Jvm.staticLocs frame_1_statics s) 48 2240 → Post tb e args s (.returned v) u) :
    ArmFor flags0 classFile x code maxLocals ret World_1 tables_1 room_1 Calls_1 rest_1 Pre_1 Post := by
  intro l hfl _ _ p e ha hc hk s m args below hf hA hF happ hP
  obtain ⟨hcalls, hrest, hpre⟩ := hP
  obtain ⟨-, -, -, hnamed, -, -, -, hat⟩ := (Spec.applies_iff hf).mp happ
  obtain ⟨hg, hn⟩ := and_e (Cond.before_iff.mp (show (Jvm.Cond.and given_1 narrow_1).before args s = true from hpre))
  obtain ⟨gc, gr0⟩ := and_e hg
  obtain ⟨ga0, gr1⟩ := and_e gr0
  obtain ⟨ga1, gr2⟩ := and_e gr1
  obtain ⟨ga2, gr3⟩ := and_e gr2
  obtain ⟨ga3, gr4⟩ := and_e gr3
  obtain ⟨w0, w1, w2, w3, w4, rfl⟩ : ∃ w0 w1 w2 w3 w4 : Value, args = #[w0, w1, w2, w3, w4] := by
    have hs : args.size = 5 := by simpa [Cond.value, given_1] using gc
    obtain ⟨L⟩ := args
    match L, hs with
    | [w0, w1, w2, w3, w4], _ => exact ⟨w0, w1, w2, w3, w4, rfl⟩
  have hw := fun d (hd : d ∈ tables_1) => atoms_spec (ws := Jvm.Cond.code x code maxLocals ret :: tables_1) hat d (List.mem_cons_of_mem _ hd)
  obtain ⟨hsets, hown0⟩ := atoms_of _ (rest_1_c_eq ▸ (show rest_1_c.before _ s = true from hrest))
  have n5 := not_v (Cond.before_iff.mp (hsets _ (List.mem_of_getElem? (i := 2) rfl)))
  obtain ⟨i0, ei0⟩ := is_v ga0
  obtain rfl : w0 = (.int i0) := Option.some.inj ei0
  obtain ⟨i1, ei1⟩ := is_v ga1
  obtain rfl : w1 = (.int i1) := Option.some.inj ei1
  obtain ⟨i2, ei2⟩ := is_v ga2
  obtain rfl : w2 = (.int i2) := Option.some.inj ei2
  obtain ⟨i3, ei3⟩ := is_v ga3
  obtain rfl : w3 = (.int i3) := Option.some.inj ei3
  obtain ⟨i4, ei4⟩ := is_v gr4
  obtain rfl : w4 = (.int i4) := Option.some.inj ei4
  obtain ⟨iG, eG⟩ := is_v (Cond.before_iff.mp (hsets _ (List.mem_of_getElem? (i := 1) rfl)))
  have SG : Sta s s.heap "java/lang/String" "COMPACT_STRINGS" "Z" (.int iG) := Sta.start eG (Or.inl (hsets _ (List.mem_of_getElem? (i := 0) rfl)))
  have cG : ¬ (iG = (0 : Int32)) := gotF (Cond.eq_ints eG (Term.int_eval (0))) n5
  obtain ⟨vF, eF, rF⟩ := isR_v (Cond.before_iff.mp (hsets _ (List.mem_of_getElem? (i := 8) rfl)))
  have SF : Sta s s.heap "jdk/internal/util/Preconditions" "SIOOBE_FORMATTER" "Ljava/util/function/BiFunction;" vF := Sta.start eF (Or.inl (hsets _ (List.mem_of_getElem? (i := 7) rfl)))
  have hCH : CHv s EL s.vm s.heap := CHv.start (own_EW hw) (fun p hp => hcalls.1 p hp) (hsets _ (List.mem_of_getElem? (i := 2) rfl)) (hw23 hw) (hw10 hw)
  obtain ⟨n, o, h1, h2, h3, _, L, rfl, ⟨rfl, N⟩, -, hq⟩ := rm_law l s _ hw tables_1 i0 i1 i2 i3 i4 iG vF s.heap s.heap.size (Nat.le_refl _) (Old.start s) SG cG SF rF p e ha hc hk s m _ below hf ((Spec.applies_iff_loose hf).mp happ).1 ⟨rfl, State.Warmed39.refl s, rfl, hCH, all0⟩ trivial
  refine ⟨n, _, h1, h2, h3, hpost _ _ _ _ _ _ ⟨Cond.after_iff.mpr rfl, Cond.after_iff.mpr (eq_i res_at (Term.int_eval (1)) rfl), trivial⟩ ⟨hq.1, hq.2.1, hq.2.2.1, (hq.2.2.2.sift fun y hy => Or.inr (N y hy)).mono (by decide) (by decide)⟩⟩
theorem main_1_1 : Claimed_1_1 := comes_1 fun _ _ _ _ _ _ h hF => ⟨h.1, hF⟩
theorem main_1_2 : Claimed_1_2 := comes_1 fun _ _ _ _ _ _ h hF => ⟨h.2.1, hF⟩
end Jvm.Pilot.@@N@@
namespace Jvm.Pilot.@@N@@
open Jvm Jvm.ClassFile Sem Op Lib Jvm.Free Jvm.Stand Jvm.Pilot.@@N@@.Jvm.D
/-! MADE BY PROGRAM (witnessworld.py) out of the Statement's table words and the real class files: 24 classes; the members and pool entries that the words name. The judged class is class 1, her method 3. -/
namespace start1
open Jvm.ClassFile
def u (s : String) : CpInfo := .utf8 (stringToUtf16 s)
/-- a pool by its gaps: so many unusable entries, then the entry; so many at the end -/
def gap : Nat → List CpInfo → List CpInfo
  | 0, r => r
  | n + 1, r => .unusable :: gap n r
def poolList (es : List (Nat × CpInfo)) (last : Nat) : List CpInfo := es.foldr (fun e r => gap e.1 (e.2 :: r)) (gap last [])
def pool (es : List (Nat × CpInfo)) (last : Nat) : Array CpInfo := ⟨poolList es last⟩
def fileOf (pool : Array CpInfo) (this : Nat) (attrs : Array Attribute := #[]) (ms : Array MethodInfo := #[]) (fl : Nat := 33) (sup : Nat := 0) (ifs : Array Nat := #[]) (fds : Array FieldInfo := #[]) : ClassFile where
  minorVersion := 0
  majorVersion := 65
  constantPool := pool
  accessFlags := fl
  thisClass := this
  superClass := sup
  interfaces := ifs
  fields := fds
  methods := ms
  attributes := attrs
def plain (name : String) (sup : Option ClassId) : Class where
  name := name
  kind := .ordinary
  loader := none
  accessFlags := 33
  super := sup
  interfaces := #[]
  cf := none
  fields := #[]
  methods := #[]
  instanceTypes := #[]
  staticTypes := #[]
  resolved := #[]
  callSites := []
  init := .initialized
  statics := none
  mirror := none

def pool0 : Array CpInfo := pool [(5, u "<init>"), (0, u "()V"), (1, .class_ 10), (1, u "java/lang/Object")] 113

def k0c0 : Code := { maxStack := 0, maxLocals := 1, code := object_method_1_code, exceptionTable := #[], attributes := #[] }
def k0m0 : Method := { name := "<init>", desc := "()V", sig := { parameters := [], returnType := none }, accessFlags := 1, code := some k0c0 }
/-- java/lang/Object -/
def k0 : Class := { plain "java/lang/Object" none with
  accessFlags := 33
  interfaces := #[]
  cf := some (fileOf pool0 8 #[] #[{ accessFlags := 1, nameIndex := 5, descriptorIndex := 6, attributes := #[] }] 33 0 #[] #[])
  fields := #[]
  methods := #[k0m0]
  instanceTypes := #[]
  staticTypes := #[]
  resolved := Array.replicate 124 none
  statics := none }

def pool1 : Array CpInfo := pool [(2, .class_ 4), (1, u "java/lang/Object"), (0, u "<init>"), (0, u "()V"), (0, .class_ 8), (0, u "java/lang/String"), (0, .methodref 7 10), (0, .nameAndType 5 11), (0, u "([C)V"), (0, .integer 2147483647), (0, .methodref 14 15), (0, .class_ 16), (0, .nameAndType 17 18), (0, u "com/example/bolter/bolter/service/ParameterNameOfPinLaw"), (0, u "ch"), (0, u "(I)C"), (0, .methodref 14 20), (0, .nameAndType 21 22), (0, u "mk"), (0, u "(I[CI)Ljava/lang/String;"), (0, .methodref 24 25), (0, .class_ 26), (0, .nameAndType 27 28), (0, u "com/example/bolter/bolter/service/ParameterName"), (0, u "of"), (0, u "(Ljava/lang/String;)Lcom/example/bolter/bolter/service/ParameterName;"), (0, .methodref 24 30), (0, .nameAndType 31 32), (0, u "code"), (0, u "()Ljava/lang/String;"), (0, .methodref 7 34), (0, .nameAndType 35 36), (0, u "equals"), (0, u "(Ljava/lang/Object;)Z"), (0, .methodref 24 38), (0, .nameAndType 39 32), (0, u "modifier"), (3, u "law"), (0, u "(IIIII)Z")] 4

def k1m0 : Method := { name := "<init>", desc := "()V", sig := { parameters := [], returnType := none }, accessFlags := 1, code := none }
def k1c1 : Code := { maxStack := 2, maxLocals := 1, code := method_2_code, exceptionTable := #[], attributes := #[] }
def k1m1 : Method := { name := "ch", desc := "(I)C", sig := { parameters := [.int], returnType := some .char }, accessFlags := 10, code := some k1c1 }
def k1c2 : Code := { maxStack := 8, maxLocals := 3, code := method_3_code, exceptionTable := #[], attributes := #[] }
def k1m2 : Method := { name := "mk", desc := "(I[CI)Ljava/lang/String;", sig := { parameters := [.int, (.array .char), .int], returnType := some (.object "java/lang/String") }, accessFlags := 10, code := some k1c2 }
def k1c3 : Code := { maxStack := 4, maxLocals := 12, code := code, exceptionTable := #[], attributes := #[] }
def k1m3 : Method := { name := "law", desc := "(IIIII)Z", sig := { parameters := [.int, .int, .int, .int, .int], returnType := some .boolean }, accessFlags := 9, code := some k1c3 }
/-- com/example/bolter/bolter/service/ParameterNameOfPinLaw -/
def k1 : Class := { plain "com/example/bolter/bolter/service/ParameterNameOfPinLaw" (some 0) with
  accessFlags := 49
  interfaces := #[]
  cf := some (fileOf pool1 14 #[] #[{ accessFlags := 1, nameIndex := 5, descriptorIndex := 6, attributes := #[] }, { accessFlags := 10, nameIndex := 17, descriptorIndex := 18, attributes := #[] }, { accessFlags := 10, nameIndex := 21, descriptorIndex := 22, attributes := #[] }, { accessFlags := 9, nameIndex := 43, descriptorIndex := 44, attributes := #[] }] 49 2 #[] #[])
  fields := #[]
  methods := #[k1m0, k1m1, k1m2, k1m3]
  instanceTypes := #[]
  staticTypes := #[]
  resolved := Array.replicate 49 none
  statics := none }

def pool2 : Array CpInfo := pool [(1, .class_ 2), (0, u "java/io/Serializable"), (0, .class_ 4), (0, u "java/lang/Object")] 2

/-- java/io/Serializable -/
def k2 : Class := { plain "java/io/Serializable" (some 0) with
  accessFlags := 1537
  interfaces := #[]
  cf := some (fileOf pool2 1 #[] #[] 1537 3 #[] #[])
  fields := #[]
  methods := #[]
  instanceTypes := #[]
  staticTypes := #[]
  resolved := Array.replicate 7 none
  statics := none }

def pool3 : Array CpInfo := pool [(1, .class_ 2), (0, u "java/lang/Comparable"), (0, .class_ 4), (0, u "java/lang/Object")] 7

/-- java/lang/Comparable -/
def k3 : Class := { plain "java/lang/Comparable" (some 0) with
  accessFlags := 1537
  interfaces := #[]
  cf := some (fileOf pool3 1 #[] #[] 1537 3 #[] #[])
  fields := #[]
  methods := #[]
  instanceTypes := #[]
  staticTypes := #[]
  resolved := Array.replicate 12 none
  statics := none }

def pool4 : Array CpInfo := pool [(2, .class_ 4), (1, u "java/lang/CharSequence"), (42, .class_ 48), (0, u "java/lang/CharSequence$1CodePointIterator"), (10, .class_ 60), (0, u "java/lang/CharSequence$1CharIterator"), (5, .class_ 67), (0, u "java/lang/Object")] 63

/-- java/lang/CharSequence -/
def k4 : Class := { plain "java/lang/CharSequence" (some 0) with
  accessFlags := 1537
  interfaces := #[]
  cf := some (fileOf pool4 2 #[.nestMembers #[47, 59]] #[] 1537 66 #[] #[])
  fields := #[]
  methods := #[]
  instanceTypes := #[]
  staticTypes := #[]
  resolved := Array.replicate 131 none
  statics := none }

def pool5 : Array CpInfo := pool [(1, .class_ 2), (0, u "java/lang/constant/Constable"), (0, .class_ 4), (0, u "java/lang/Object")] 6

/-- java/lang/constant/Constable -/
def k5 : Class := { plain "java/lang/constant/Constable" (some 0) with
  accessFlags := 1537
  interfaces := #[]
  cf := some (fileOf pool5 1 #[] #[] 1537 3 #[] #[])
  fields := #[]
  methods := #[]
  instanceTypes := #[]
  staticTypes := #[]
  resolved := Array.replicate 11 none
  statics := none }

def pool6 : Array CpInfo := pool [(1, .class_ 2), (0, u "java/lang/constant/ConstantDesc"), (0, .class_ 4), (0, u "java/lang/Object")] 32

/-- java/lang/constant/ConstantDesc -/
def k6 : Class := { plain "java/lang/constant/ConstantDesc" (some 0) with
  accessFlags := 1537
  interfaces := #[]
  cf := some (fileOf pool6 1 #[] #[] 1537 3 #[] #[])
  fields := #[]
  methods := #[]
  instanceTypes := #[]
  staticTypes := #[]
  resolved := Array.replicate 37 none
  statics := none }

def pool7 : Array CpInfo := pool [(1, .methodref 2 3), (0, .class_ 4), (0, .nameAndType 5 6), (0, u "java/lang/Object"), (0, u "<init>"), (0, u "()V"), (0, .string 8), (0, u ""), (0, .fieldref 10 11), (0, .class_ 12), (0, .nameAndType 13 14), (0, u "java/lang/String"), (0, u "value"), (0, u "[B"), (0, .fieldref 10 16), (0, .nameAndType 17 18), (0, u "coder"), (0, u "B"), (2, u "hash"), (0, u "I"), (2, u "hashIsZero"), (0, u "Z"), (0, .methodref 10 28), (0, .nameAndType 5 29), (0, u "([CIILjava/lang/Void;)V"), (8, .fieldref 10 39), (0, .nameAndType 40 26), (0, u "COMPACT_STRINGS"), (1, .class_ 44), (1, u "java/lang/StringUTF16"), (0, u "compress"), (1, .methodref 42 48), (0, .nameAndType 49 50), (0, u "coderFromArrayLen"), (0, u "([BI)B"), (56, .class_ 109), (1, u "java/lang/StringLatin1"), (32, u "()Z"), (34, .methodref 42 178), (0, .nameAndType 45 179), (0, u "([CII)[B"), (31, u "([BB)V"), (122, u "()I"), (0, .methodref 10 336), (0, .nameAndType 17 337), (0, u "()B"), (154, .methodref 10 493), (0, .nameAndType 494 142), (0, u "isLatin1"), (10, .methodref 10 506), (0, .nameAndType 507 334), (0, u "length"), (5, u "checkFromToIndex"), (7, .methodref 10 522), (0, .nameAndType 523 524), (0, u "checkBoundsBeginEnd"), (0, u "(III)V"), (16, .methodref 107 542), (0, .nameAndType 543 544), (0, u "equals"), (0, u "([B[B)Z"), (28, u "(Ljava/lang/Object;)Z"), (1, .class_ 576), (0, u "java/lang/CharSequence"), (22, u "CASE_INSENSITIVE_ORDER"), (0, u "Ljava/util/Comparator;"), (32, .methodref 10 634), (0, .nameAndType 635 636), (0, u "indexOf"), (0, u "(II)I"), (0, .methodref 107 638), (0, .nameAndType 635 639), (0, u "([BIII)I"), (41, .methodref 10 682), (0, .nameAndType 683 684), (0, u "substring"), (0, u "(II)Ljava/lang/String;"), (0, .methodref 107 686), (0, .nameAndType 687 688), (0, u "newString"), (0, u "([BII)Ljava/lang/String;"), (76, u "(I)I"), (126, u "(I)Ljava/lang/String;"), (117, u "([C)V"), (42, .fieldref 1054 1055), (0, .class_ 1056), (0, .nameAndType 1057 1058), (0, u "jdk/internal/util/Preconditions"), (0, u "SIOOBE_FORMATTER"), (0, u "Ljava/util/function/BiFunction;"), (3, .methodref 1054 1063), (0, .nameAndType 513 1064), (0, u "(IIILjava/util/function/BiFunction;)I"), (36, u "serialPersistentFields"), (0, u "[Ljava/io/ObjectStreamField;"), (0, .class_ 1104), (0, u "java/lang/String$CaseInsensitiveComparator"), (1, .class_ 1107), (0, u "java/io/Serializable"), (0, .class_ 1109), (0, u "java/lang/Comparable"), (0, .class_ 1111), (0, u "java/lang/constant/Constable"), (0, .class_ 1113), (0, u "java/lang/constant/ConstantDesc"), (2, u "serialVersionUID"), (0, u "J"), (3, u "REPL"), (0, u "C"), (2, u "LATIN1"), (1, u "UTF16")] 323

def k7m0 : Method := { name := "<init>", desc := "()V", sig := { parameters := [], returnType := none }, accessFlags := 1, code := none }
def k7c1 : Code := { maxStack := 5, maxLocals := 2, code := jdk_42_method_3_code, exceptionTable := #[], attributes := #[] }
def k7m1 : Method := { name := "<init>", desc := "([C)V", sig := { parameters := [(.array .char)], returnType := none }, accessFlags := 1, code := some k7c1 }
def k7c2 : Code := { maxStack := 2, maxLocals := 1, code := jdk_42_method_54_code, exceptionTable := #[], attributes := #[] }
def k7m2 : Method := { name := "length", desc := "()I", sig := { parameters := [], returnType := some .int }, accessFlags := 1, code := some k7c2 }
def k7c3 : Code := { maxStack := 2, maxLocals := 3, code := jdk_42_method_66_code, exceptionTable := #[], attributes := #[] }
def k7m3 : Method := { name := "equals", desc := "(Ljava/lang/Object;)Z", sig := { parameters := [(.object "java/lang/Object")], returnType := some .boolean }, accessFlags := 1, code := some k7c3 }
def k7c4 : Code := { maxStack := 3, maxLocals := 2, code := jdk_42_method_79_code, exceptionTable := #[], attributes := #[] }
def k7m4 : Method := { name := "indexOf", desc := "(I)I", sig := { parameters := [.int], returnType := some .int }, accessFlags := 1, code := some k7c4 }
def k7c5 : Code := { maxStack := 4, maxLocals := 3, code := jdk_42_method_80_code, exceptionTable := #[], attributes := #[] }
def k7m5 : Method := { name := "indexOf", desc := "(II)I", sig := { parameters := [.int, .int], returnType := some .int }, accessFlags := 1, code := some k7c5 }
def k7c6 : Code := { maxStack := 3, maxLocals := 2, code := jdk_42_method_91_code, exceptionTable := #[], attributes := #[] }
def k7m6 : Method := { name := "substring", desc := "(I)Ljava/lang/String;", sig := { parameters := [.int], returnType := some (.object "java/lang/String") }, accessFlags := 1, code := some k7c6 }
def k7c7 : Code := { maxStack := 3, maxLocals := 5, code := jdk_42_method_92_code, exceptionTable := #[], attributes := #[] }
def k7m7 : Method := { name := "substring", desc := "(II)Ljava/lang/String;", sig := { parameters := [.int, .int], returnType := some (.object "java/lang/String") }, accessFlags := 1, code := some k7c7 }
def k7c8 : Code := { maxStack := 4, maxLocals := 6, code := jdk_42_method_149_code, exceptionTable := #[], attributes := #[] }
def k7m8 : Method := { name := "<init>", desc := "([CIILjava/lang/Void;)V", sig := { parameters := [(.array .char), .int, .int, (.object "java/lang/Void")], returnType := none }, accessFlags := 2, code := some k7c8 }
def k7c9 : Code := { maxStack := 2, maxLocals := 3, code := jdk_42_method_151_code, exceptionTable := #[], attributes := #[] }
def k7m9 : Method := { name := "<init>", desc := "([BB)V", sig := { parameters := [(.array .byte), .byte], returnType := none }, accessFlags := 0, code := some k7c9 }
def k7c10 : Code := { maxStack := 1, maxLocals := 1, code := jdk_42_method_152_code, exceptionTable := #[], attributes := #[] }
def k7m10 : Method := { name := "coder", desc := "()B", sig := { parameters := [], returnType := some .byte }, accessFlags := 0, code := some k7c10 }
def k7c11 : Code := { maxStack := 1, maxLocals := 1, code := jdk_42_method_154_code, exceptionTable := #[], attributes := #[] }
def k7m11 : Method := { name := "isLatin1", desc := "()Z", sig := { parameters := [], returnType := some .boolean }, accessFlags := 0, code := some k7c11 }
def k7c12 : Code := { maxStack := 4, maxLocals := 3, code := jdk_42_method_158_code, exceptionTable := #[], attributes := #[] }
def k7m12 : Method := { name := "checkBoundsBeginEnd", desc := "(III)V", sig := { parameters := [.int, .int, .int], returnType := none }, accessFlags := 8, code := some k7c12 }
/-- java/lang/String -/
def k7 : Class := { plain "java/lang/String" (some 0) with
  accessFlags := 49
  interfaces := #[2, 3, 4, 5, 6]
  cf := some (fileOf pool7 10 #[.nestMembers #[1103]] #[{ accessFlags := 1, nameIndex := 5, descriptorIndex := 6, attributes := #[] }, { accessFlags := 1, nameIndex := 5, descriptorIndex := 1010, attributes := #[] }, { accessFlags := 1, nameIndex := 507, descriptorIndex := 334, attributes := #[] }, { accessFlags := 1, nameIndex := 543, descriptorIndex := 573, attributes := #[] }, { accessFlags := 1, nameIndex := 635, descriptorIndex := 765, attributes := #[] }, { accessFlags := 1, nameIndex := 635, descriptorIndex := 636, attributes := #[] }, { accessFlags := 1, nameIndex := 683, descriptorIndex := 892, attributes := #[] }, { accessFlags := 1, nameIndex := 683, descriptorIndex := 684, attributes := #[] }, { accessFlags := 2, nameIndex := 5, descriptorIndex := 29, attributes := #[] }, { accessFlags := 0, nameIndex := 5, descriptorIndex := 211, attributes := #[] }, { accessFlags := 0, nameIndex := 17, descriptorIndex := 337, attributes := #[] }, { accessFlags := 0, nameIndex := 494, descriptorIndex := 142, attributes := #[] }, { accessFlags := 8, nameIndex := 523, descriptorIndex := 524, attributes := #[] }] 49 2 #[1106, 1108, 575, 1110, 1112] #[{ accessFlags := 18, nameIndex := 13, descriptorIndex := 14, attributes := #[] }, { accessFlags := 18, nameIndex := 17, descriptorIndex := 18, attributes := #[] }, { accessFlags := 2, nameIndex := 21, descriptorIndex := 22, attributes := #[] }, { accessFlags := 2, nameIndex := 25, descriptorIndex := 26, attributes := #[] }, { accessFlags := 26, nameIndex := 1116, descriptorIndex := 1117, attributes := #[] }, { accessFlags := 24, nameIndex := 40, descriptorIndex := 26, attributes := #[] }, { accessFlags := 26, nameIndex := 1101, descriptorIndex := 1102, attributes := #[] }, { accessFlags := 26, nameIndex := 1121, descriptorIndex := 1122, attributes := #[] }, { accessFlags := 25, nameIndex := 599, descriptorIndex := 600, attributes := #[] }, { accessFlags := 24, nameIndex := 1125, descriptorIndex := 18, attributes := #[] }, { accessFlags := 24, nameIndex := 1127, descriptorIndex := 18, attributes := #[] }])
  fields := #[{ name := "value", type := (.array .byte), accessFlags := 18, slot := 0, constantValue := 0 }, { name := "coder", type := .byte, accessFlags := 18, slot := 1, constantValue := 0 }, { name := "hash", type := .int, accessFlags := 2, slot := 2, constantValue := 0 }, { name := "hashIsZero", type := .boolean, accessFlags := 2, slot := 3, constantValue := 0 }, { name := "serialVersionUID", type := .long, accessFlags := 26, slot := 0, constantValue := 0 }, { name := "COMPACT_STRINGS", type := .boolean, accessFlags := 24, slot := 1, constantValue := 0 }, { name := "serialPersistentFields", type := (.array (.object "java/io/ObjectStreamField")), accessFlags := 26, slot := 2, constantValue := 0 }, { name := "REPL", type := .char, accessFlags := 26, slot := 3, constantValue := 0 }, { name := "CASE_INSENSITIVE_ORDER", type := (.object "java/util/Comparator"), accessFlags := 25, slot := 4, constantValue := 0 }, { name := "LATIN1", type := .byte, accessFlags := 24, slot := 5, constantValue := 0 }, { name := "UTF16", type := .byte, accessFlags := 24, slot := 6, constantValue := 0 }]
  methods := #[k7m0, k7m1, k7m2, k7m3, k7m4, k7m5, k7m6, k7m7, k7m8, k7m9, k7m10, k7m11, k7m12]
  instanceTypes := #[(.array .byte), .byte, .int, .boolean]
  staticTypes := #[.long, .boolean, (.array (.object "java/io/ObjectStreamField")), .char, (.object "java/util/Comparator"), .byte, .byte]
  resolved := Array.replicate 1451 none
  statics := some 0 }

def pool8 : Array CpInfo := pool [(1, .methodref 2 3), (0, .class_ 4), (0, .nameAndType 5 6), (0, u "java/lang/Object"), (0, u "<init>"), (0, u "()V"), (0, .class_ 8), (0, u "java/lang/Record")] 13

def k8c0 : Code := { maxStack := 1, maxLocals := 1, code := jdk_30_method_1_code, exceptionTable := #[], attributes := #[] }
def k8m0 : Method := { name := "<init>", desc := "()V", sig := { parameters := [], returnType := none }, accessFlags := 4, code := some k8c0 }
/-- java/lang/Record -/
def k8 : Class := { plain "java/lang/Record" (some 0) with
  accessFlags := 1057
  interfaces := #[]
  cf := some (fileOf pool8 7 #[] #[{ accessFlags := 4, nameIndex := 5, descriptorIndex := 6, attributes := #[] }] 1057 2 #[] #[])
  fields := #[]
  methods := #[k8m0]
  instanceTypes := #[]
  staticTypes := #[]
  resolved := Array.replicate 22 none
  statics := none }

def pool9 : Array CpInfo := pool [(1, .methodref 2 3), (0, .class_ 4), (0, .nameAndType 5 6), (0, u "java/lang/Record"), (0, u "<init>"), (0, u "()V"), (0, .fieldref 8 9), (0, .class_ 10), (0, .nameAndType 11 12), (0, u "com/example/bolter/bolter/service/ParameterName"), (0, u "code"), (0, u "Ljava/lang/String;"), (0, .fieldref 8 14), (0, .nameAndType 15 12), (0, u "modifier"), (0, .methodref 17 18), (0, .class_ 19), (0, .nameAndType 20 21), (0, u "java/lang/String"), (0, u "indexOf"), (0, u "(I)I"), (0, .methodref 17 23), (0, .nameAndType 24 25), (0, u "substring"), (0, u "(II)Ljava/lang/String;"), (0, .methodref 17 27), (0, .nameAndType 24 28), (0, u "(I)Ljava/lang/String;"), (0, .methodref 8 30), (0, .nameAndType 5 31), (0, u "(Ljava/lang/String;Ljava/lang/String;)V"), (15, u "of"), (0, u "(Ljava/lang/String;)Lcom/example/bolter/bolter/service/ParameterName;"), (1, u "()Ljava/lang/String;")] 23

def k9c0 : Code := { maxStack := 2, maxLocals := 3, code := prog_18_method_1_code, exceptionTable := #[], attributes := #[] }
def k9m0 : Method := { name := "<init>", desc := "(Ljava/lang/String;Ljava/lang/String;)V", sig := { parameters := [(.object "java/lang/String"), (.object "java/lang/String")], returnType := none }, accessFlags := 0, code := some k9c0 }
def k9c1 : Code := { maxStack := 4, maxLocals := 4, code := prog_18_method_2_code, exceptionTable := #[], attributes := #[] }
def k9m1 : Method := { name := "of", desc := "(Ljava/lang/String;)Lcom/example/bolter/bolter/service/ParameterName;", sig := { parameters := [(.object "java/lang/String")], returnType := some (.object "com/example/bolter/bolter/service/ParameterName") }, accessFlags := 8, code := some k9c1 }
def k9c2 : Code := { maxStack := 1, maxLocals := 1, code := prog_18_method_6_code, exceptionTable := #[], attributes := #[] }
def k9m2 : Method := { name := "code", desc := "()Ljava/lang/String;", sig := { parameters := [], returnType := some (.object "java/lang/String") }, accessFlags := 1, code := some k9c2 }
def k9c3 : Code := { maxStack := 1, maxLocals := 1, code := prog_18_method_7_code, exceptionTable := #[], attributes := #[] }
def k9m3 : Method := { name := "modifier", desc := "()Ljava/lang/String;", sig := { parameters := [], returnType := some (.object "java/lang/String") }, accessFlags := 1, code := some k9c3 }
/-- com/example/bolter/bolter/service/ParameterName -/
def k9 : Class := { plain "com/example/bolter/bolter/service/ParameterName" (some 8) with
  accessFlags := 48
  interfaces := #[]
  cf := some (fileOf pool9 8 #[] #[{ accessFlags := 0, nameIndex := 5, descriptorIndex := 31, attributes := #[] }, { accessFlags := 8, nameIndex := 47, descriptorIndex := 48, attributes := #[] }, { accessFlags := 1, nameIndex := 11, descriptorIndex := 50, attributes := #[] }, { accessFlags := 1, nameIndex := 15, descriptorIndex := 50, attributes := #[] }] 48 2 #[] #[{ accessFlags := 18, nameIndex := 11, descriptorIndex := 12, attributes := #[] }, { accessFlags := 18, nameIndex := 15, descriptorIndex := 12, attributes := #[] }])
  fields := #[{ name := "code", type := (.object "java/lang/String"), accessFlags := 18, slot := 0, constantValue := 0 }, { name := "modifier", type := (.object "java/lang/String"), accessFlags := 18, slot := 1, constantValue := 0 }]
  methods := #[k9m0, k9m1, k9m2, k9m3]
  instanceTypes := #[(.object "java/lang/String"), (.object "java/lang/String")]
  staticTypes := #[]
  resolved := Array.replicate 74 none
  statics := none }

def pool10 : Array CpInfo := pool [(1, .class_ 2), (0, u "java/lang/String"), (1, .class_ 6), (1, u "java/lang/Object"), (0, u "<init>"), (0, u "()V"), (5, .class_ 16), (1, u "java/lang/StringLatin1"), (21, .methodref 39 40), (0, .class_ 41), (0, .nameAndType 42 43), (0, u "java/lang/Math"), (0, u "min"), (0, u "(II)I"), (44, .methodref 14 89), (0, .nameAndType 90 91), (0, u "canEncode"), (0, u "(I)Z"), (0, .methodref 39 93), (0, .nameAndType 94 43), (0, u "max"), (0, .methodref 14 96), (0, .nameAndType 97 98), (0, u "indexOfChar"), (0, u "([BIII)I"), (2, u "indexOf"), (10, .methodref 1 113), (0, .nameAndType 7 114), (0, u "([BB)V"), (6, u "$assertionsDisabled"), (0, u "Z"), (8, .class_ 133), (1, u "java/util/Arrays"), (17, .string 152), (0, u ""), (43, u "newString"), (0, u "([BII)Ljava/lang/String;"), (23, .class_ 223), (1, u "java/lang/StringLatin1$LinesSpliterator"), (8, .methodref 131 233), (0, .nameAndType 234 235), (0, u "copyOfRange"), (0, u "([BII)[B"), (45, u "equals"), (0, u "([B[B)Z"), (107, .class_ 391), (0, u "java/lang/StringLatin1$CharsSpliterator")] 3

def k10m0 : Method := { name := "<init>", desc := "()V", sig := { parameters := [], returnType := none }, accessFlags := 0, code := none }
def k10c1 : Code := { maxStack := 2, maxLocals := 1, code := jdk_43_method_4_code, exceptionTable := #[], attributes := #[] }
def k10m1 : Method := { name := "canEncode", desc := "(I)Z", sig := { parameters := [.int], returnType := some .boolean }, accessFlags := 9, code := some k10c1 }
def k10c2 : Code := { maxStack := 3, maxLocals := 3, code := jdk_43_method_13_code, exceptionTable := #[], attributes := #[] }
def k10m2 : Method := { name := "equals", desc := "([B[B)Z", sig := { parameters := [(.array .byte), (.array .byte)], returnType := some .boolean }, accessFlags := 9, code := some k10c2 }
def k10c3 : Code := { maxStack := 4, maxLocals := 4, code := jdk_43_method_22_code, exceptionTable := #[], attributes := #[] }
def k10m3 : Method := { name := "indexOf", desc := "([BIII)I", sig := { parameters := [(.array .byte), .int, .int, .int], returnType := some .int }, accessFlags := 9, code := some k10c3 }
def k10c4 : Code := { maxStack := 2, maxLocals := 6, code := jdk_43_method_23_code, exceptionTable := #[], attributes := #[] }
def k10m4 : Method := { name := "indexOfChar", desc := "([BIII)I", sig := { parameters := [(.array .byte), .int, .int, .int], returnType := some .int }, accessFlags := 10, code := some k10c4 }
def k10c5 : Code := { maxStack := 6, maxLocals := 3, code := jdk_43_method_47_code, exceptionTable := #[], attributes := #[] }
def k10m5 : Method := { name := "newString", desc := "([BII)Ljava/lang/String;", sig := { parameters := [(.array .byte), .int, .int], returnType := some (.object "java/lang/String") }, accessFlags := 9, code := some k10c5 }
/-- java/lang/StringLatin1 -/
def k10 : Class := { plain "java/lang/StringLatin1" (some 0) with
  accessFlags := 48
  interfaces := #[]
  cf := some (fileOf pool10 14 #[.nestMembers #[390, 221]] #[{ accessFlags := 0, nameIndex := 7, descriptorIndex := 8, attributes := #[] }, { accessFlags := 9, nameIndex := 90, descriptorIndex := 91, attributes := #[] }, { accessFlags := 9, nameIndex := 281, descriptorIndex := 282, attributes := #[] }, { accessFlags := 9, nameIndex := 101, descriptorIndex := 98, attributes := #[] }, { accessFlags := 10, nameIndex := 97, descriptorIndex := 98, attributes := #[] }, { accessFlags := 9, nameIndex := 196, descriptorIndex := 197, attributes := #[] }] 48 4 #[] #[{ accessFlags := 4120, nameIndex := 121, descriptorIndex := 122, attributes := #[] }])
  fields := #[{ name := "$assertionsDisabled", type := .boolean, accessFlags := 4120, slot := 0, constantValue := 0 }]
  methods := #[k10m0, k10m1, k10m2, k10m3, k10m4, k10m5]
  instanceTypes := #[]
  staticTypes := #[.boolean]
  resolved := Array.replicate 395 none
  statics := none }

def pool11 : Array CpInfo := pool [(1, .class_ 2), (0, u "java/lang/Math"), (1, .class_ 6), (1, u "java/lang/Object"), (0, u "<init>"), (0, u "()V"), (89, .class_ 100), (1, u "java/lang/Math$RandomNumberGeneratorHolder"), (71, u "negativeZeroFloatBits"), (0, u "J"), (2, u "negativeZeroDoubleBits"), (21, u "max"), (2, u "min"), (43, u "$assertionsDisabled"), (0, u "Z"), (88, u "(II)I"), (2, u "twoToTheDoubleScaleDown"), (0, u "D"), (4, u "twoToTheDoubleScaleUp"), (9, u "E"), (3, u "PI"), (2, u "TAU"), (2, u "DEGREES_TO_RADIANS"), (0, u "RADIANS_TO_DEGREES")] 94

def k11m0 : Method := { name := "<init>", desc := "()V", sig := { parameters := [], returnType := none }, accessFlags := 2, code := none }
def k11c1 : Code := { maxStack := 2, maxLocals := 2, code := jdk_29_method_65_code, exceptionTable := #[], attributes := #[] }
def k11m1 : Method := { name := "max", desc := "(II)I", sig := { parameters := [.int, .int], returnType := some .int }, accessFlags := 9, code := some k11c1 }
def k11c2 : Code := { maxStack := 2, maxLocals := 2, code := jdk_29_method_69_code, exceptionTable := #[], attributes := #[] }
def k11m2 : Method := { name := "min", desc := "(II)I", sig := { parameters := [.int, .int], returnType := some .int }, accessFlags := 9, code := some k11c2 }
/-- java/lang/Math -/
def k11 : Class := { plain "java/lang/Math" (some 0) with
  accessFlags := 49
  interfaces := #[]
  cf := some (fileOf pool11 1 #[.nestMembers #[98]] #[{ accessFlags := 2, nameIndex := 7, descriptorIndex := 8, attributes := #[] }, { accessFlags := 9, nameIndex := 198, descriptorIndex := 335, attributes := #[] }, { accessFlags := 9, nameIndex := 201, descriptorIndex := 335, attributes := #[] }] 49 4 #[] #[{ accessFlags := 25, nameIndex := 354, descriptorIndex := 339, attributes := #[] }, { accessFlags := 25, nameIndex := 358, descriptorIndex := 339, attributes := #[] }, { accessFlags := 25, nameIndex := 361, descriptorIndex := 339, attributes := #[] }, { accessFlags := 26, nameIndex := 364, descriptorIndex := 339, attributes := #[] }, { accessFlags := 26, nameIndex := 365, descriptorIndex := 339, attributes := #[] }, { accessFlags := 26, nameIndex := 172, descriptorIndex := 173, attributes := #[] }, { accessFlags := 26, nameIndex := 176, descriptorIndex := 173, attributes := #[] }, { accessFlags := 8, nameIndex := 344, descriptorIndex := 339, attributes := #[] }, { accessFlags := 8, nameIndex := 338, descriptorIndex := 339, attributes := #[] }, { accessFlags := 4120, nameIndex := 245, descriptorIndex := 246, attributes := #[] }])
  fields := #[{ name := "E", type := .double, accessFlags := 25, slot := 0, constantValue := 0 }, { name := "PI", type := .double, accessFlags := 25, slot := 1, constantValue := 0 }, { name := "TAU", type := .double, accessFlags := 25, slot := 2, constantValue := 0 }, { name := "DEGREES_TO_RADIANS", type := .double, accessFlags := 26, slot := 3, constantValue := 0 }, { name := "RADIANS_TO_DEGREES", type := .double, accessFlags := 26, slot := 4, constantValue := 0 }, { name := "negativeZeroFloatBits", type := .long, accessFlags := 26, slot := 5, constantValue := 0 }, { name := "negativeZeroDoubleBits", type := .long, accessFlags := 26, slot := 6, constantValue := 0 }, { name := "twoToTheDoubleScaleUp", type := .double, accessFlags := 8, slot := 7, constantValue := 0 }, { name := "twoToTheDoubleScaleDown", type := .double, accessFlags := 8, slot := 8, constantValue := 0 }, { name := "$assertionsDisabled", type := .boolean, accessFlags := 4120, slot := 9, constantValue := 0 }]
  methods := #[k11m0, k11m1, k11m2]
  instanceTypes := #[]
  staticTypes := #[.double, .double, .double, .double, .double, .long, .long, .double, .double, .boolean]
  resolved := Array.replicate 460 none
  statics := none }

def pool12 : Array CpInfo := pool [(6, .class_ 8), (1, u "java/lang/Object"), (0, u "<init>"), (0, u "()V"), (1, .class_ 14), (1, u "java/lang/StringUTF16"), (31, u "$assertionsDisabled"), (0, u "Z"), (13, u "HI_BYTE_SHIFT"), (0, u "I"), (2, u "LO_BYTE_SHIFT"), (49, .methodref 12 116), (0, .nameAndType 117 118), (0, u "compress"), (0, u "([CI[BII)I"), (3, u "([CII)[B"), (138, u "coderFromArrayLen"), (0, u "([BI)B"), (106, .class_ 371), (1, u "java/lang/StringUTF16$LinesSpliterator"), (58, u "MAX_LENGTH"), (196, .class_ 628), (0, u "java/lang/StringUTF16$CodePointsSpliterator"), (0, .class_ 630), (0, u "java/lang/StringUTF16$CharsSpliterator")] 4

def k12m0 : Method := { name := "<init>", desc := "()V", sig := { parameters := [], returnType := none }, accessFlags := 0, code := none }
def k12c1 : Code := { maxStack := 2, maxLocals := 2, code := jdk_52_method_15_code, exceptionTable := #[], attributes := #[] }
def k12m1 : Method := { name := "coderFromArrayLen", desc := "([BI)B", sig := { parameters := [(.array .byte), .int], returnType := some .byte }, accessFlags := 8, code := some k12c1 }
def k12c2 : Code := { maxStack := 5, maxLocals := 6, code := jdk_52_method_16_code, exceptionTable := #[], attributes := #[] }
def k12m2 : Method := { name := "compress", desc := "([CII)[B", sig := { parameters := [(.array .char), .int, .int], returnType := some (.array .byte) }, accessFlags := 9, code := some k12c2 }
def k12c3 : Code := { maxStack := 3, maxLocals := 7, code := jdk_52_method_21_code, exceptionTable := #[], attributes := #[] }
def k12m3 : Method := { name := "compress", desc := "([CI[BII)I", sig := { parameters := [(.array .char), .int, (.array .byte), .int, .int], returnType := some .int }, accessFlags := 9, code := some k12c3 }
/-- java/lang/StringUTF16 -/
def k12 : Class := { plain "java/lang/StringUTF16" (some 0) with
  accessFlags := 48
  interfaces := #[]
  cf := some (fileOf pool12 12 #[.nestMembers #[627, 629, 369]] #[{ accessFlags := 0, nameIndex := 9, descriptorIndex := 10, attributes := #[] }, { accessFlags := 8, nameIndex := 261, descriptorIndex := 262, attributes := #[] }, { accessFlags := 9, nameIndex := 117, descriptorIndex := 122, attributes := #[] }, { accessFlags := 9, nameIndex := 117, descriptorIndex := 118, attributes := #[] }] 48 6 #[] #[{ accessFlags := 26, nameIndex := 61, descriptorIndex := 62, attributes := #[] }, { accessFlags := 26, nameIndex := 65, descriptorIndex := 62, attributes := #[] }, { accessFlags := 24, nameIndex := 430, descriptorIndex := 62, attributes := #[] }, { accessFlags := 4120, nameIndex := 46, descriptorIndex := 47, attributes := #[] }])
  fields := #[{ name := "HI_BYTE_SHIFT", type := .int, accessFlags := 26, slot := 0, constantValue := 0 }, { name := "LO_BYTE_SHIFT", type := .int, accessFlags := 26, slot := 1, constantValue := 0 }, { name := "MAX_LENGTH", type := .int, accessFlags := 24, slot := 2, constantValue := 0 }, { name := "$assertionsDisabled", type := .boolean, accessFlags := 4120, slot := 3, constantValue := 0 }]
  methods := #[k12m0, k12m1, k12m2, k12m3]
  instanceTypes := #[]
  staticTypes := #[.int, .int, .int, .boolean]
  resolved := Array.replicate 635 none
  statics := none }

def pool13 : Array CpInfo := pool [(2, .class_ 4), (1, u "java/lang/Object"), (0, u "<init>"), (0, u "()V"), (17, .class_ 26), (1, u "jdk/internal/util/Preconditions"), (20, u "checkFromToIndex"), (7, .class_ 56), (0, u "jdk/internal/util/Preconditions$4"), (57, .class_ 115), (0, u "jdk/internal/util/Preconditions$1"), (7, u "SIOOBE_FORMATTER"), (0, u "Ljava/util/function/BiFunction;"), (0, .class_ 126), (0, u "jdk/internal/util/Preconditions$2"), (3, u "AIOOBE_FORMATTER"), (0, .class_ 132), (0, u "jdk/internal/util/Preconditions$3"), (3, u "IOOBE_FORMATTER"), (46, u "(IIILjava/util/function/BiFunction;)I")] 10

def k13m0 : Method := { name := "<init>", desc := "()V", sig := { parameters := [], returnType := none }, accessFlags := 1, code := none }
def k13c1 : Code := { maxStack := 4, maxLocals := 4, code := jdk_41_method_12_code, exceptionTable := #[], attributes := #[] }
def k13m1 : Method := { name := "checkFromToIndex", desc := "(IIILjava/util/function/BiFunction;)I", sig := { parameters := [.int, .int, .int, (.object "java/util/function/BiFunction")], returnType := some .int }, accessFlags := 9, code := some k13c1 }
/-- jdk/internal/util/Preconditions -/
def k13 : Class := { plain "jdk/internal/util/Preconditions" (some 0) with
  accessFlags := 33
  interfaces := #[]
  cf := some (fileOf pool13 24 #[.nestMembers #[55, 131, 125, 114]] #[{ accessFlags := 1, nameIndex := 5, descriptorIndex := 6, attributes := #[] }, { accessFlags := 9, nameIndex := 47, descriptorIndex := 183, attributes := #[] }] 33 2 #[] #[{ accessFlags := 25, nameIndex := 123, descriptorIndex := 124, attributes := #[] }, { accessFlags := 25, nameIndex := 130, descriptorIndex := 124, attributes := #[] }, { accessFlags := 25, nameIndex := 136, descriptorIndex := 124, attributes := #[] }])
  fields := #[{ name := "SIOOBE_FORMATTER", type := (.object "java/util/function/BiFunction"), accessFlags := 25, slot := 0, constantValue := 0 }, { name := "AIOOBE_FORMATTER", type := (.object "java/util/function/BiFunction"), accessFlags := 25, slot := 1, constantValue := 0 }, { name := "IOOBE_FORMATTER", type := (.object "java/util/function/BiFunction"), accessFlags := 25, slot := 2, constantValue := 0 }]
  methods := #[k13m0, k13m1]
  instanceTypes := #[]
  staticTypes := #[(.object "java/util/function/BiFunction"), (.object "java/util/function/BiFunction"), (.object "java/util/function/BiFunction")]
  resolved := Array.replicate 194 none
  statics := some 1 }

def pool14 : Array CpInfo := pool [(2, .class_ 4), (1, u "java/lang/Object"), (0, u "<init>"), (0, u "()V"), (7, .class_ 16), (1, u "java/util/Arrays"), (57, .class_ 76), (1, u "java/util/Arrays$NaturalOrder"), (36, .class_ 115), (1, u "java/util/Arrays$LegacyMergeSort"), (1, u "Z"), (21, u "copyOfRange"), (10, .methodref 151 152), (0, .class_ 153), (0, .nameAndType 154 155), (0, u "java/lang/System"), (0, u "arraycopy"), (0, u "(Ljava/lang/Object;ILjava/lang/Object;II)V"), (148, .methodref 305 306), (0, .class_ 307), (0, .nameAndType 308 309), (0, u "java/lang/Math"), (0, u "min"), (0, u "(II)I"), (29, .methodref 14 340), (0, .nameAndType 341 342), (0, u "copyOfRangeByte"), (0, u "([BII)[B"), (0, .methodref 14 344), (0, .nameAndType 345 346), (0, u "checkLength"), (0, u "(II)V"), (28, .class_ 376), (0, u "java/util/Arrays$ArrayList"), (68, u "$assertionsDisabled"), (269, u "MIN_ARRAY_SORT_GRAN"), (0, u "I"), (2, u "INSERTIONSORT_THRESHOLD"), (255, .class_ 976), (0, u "java/util/Arrays$ArrayItr")] 52

def k14m0 : Method := { name := "<init>", desc := "()V", sig := { parameters := [], returnType := none }, accessFlags := 2, code := none }
def k14c1 : Code := { maxStack := 4, maxLocals := 2, code := jdk_65_method_131_code, exceptionTable := #[], attributes := #[] }
def k14m1 : Method := { name := "checkLength", desc := "(II)V", sig := { parameters := [.int, .int], returnType := none }, accessFlags := 10, code := some k14c1 }
def k14c2 : Code := { maxStack := 3, maxLocals := 3, code := jdk_65_method_132_code, exceptionTable := #[], attributes := #[] }
def k14m2 : Method := { name := "copyOfRange", desc := "([BII)[B", sig := { parameters := [(.array .byte), .int, .int], returnType := some (.array .byte) }, accessFlags := 9, code := some k14c2 }
def k14c3 : Code := { maxStack := 6, maxLocals := 5, code := jdk_65_method_133_code, exceptionTable := #[], attributes := #[] }
def k14m3 : Method := { name := "copyOfRangeByte", desc := "([BII)[B", sig := { parameters := [(.array .byte), .int, .int], returnType := some (.array .byte) }, accessFlags := 10, code := some k14c3 }
/-- java/util/Arrays -/
def k14 : Class := { plain "java/util/Arrays" (some 0) with
  accessFlags := 49
  interfaces := #[]
  cf := some (fileOf pool14 14 #[.nestMembers #[975, 375, 113, 74]] #[{ accessFlags := 2, nameIndex := 5, descriptorIndex := 6, attributes := #[] }, { accessFlags := 10, nameIndex := 345, descriptorIndex := 346, attributes := #[] }, { accessFlags := 9, nameIndex := 139, descriptorIndex := 342, attributes := #[] }, { accessFlags := 10, nameIndex := 341, descriptorIndex := 342, attributes := #[] }] 49 2 #[] #[{ accessFlags := 26, nameIndex := 715, descriptorIndex := 716, attributes := #[] }, { accessFlags := 26, nameIndex := 719, descriptorIndex := 716, attributes := #[] }, { accessFlags := 4120, nameIndex := 445, descriptorIndex := 117, attributes := #[] }])
  fields := #[{ name := "MIN_ARRAY_SORT_GRAN", type := .int, accessFlags := 26, slot := 0, constantValue := 0 }, { name := "INSERTIONSORT_THRESHOLD", type := .int, accessFlags := 26, slot := 1, constantValue := 0 }, { name := "$assertionsDisabled", type := .boolean, accessFlags := 4120, slot := 2, constantValue := 0 }]
  methods := #[k14m0, k14m1, k14m2, k14m3]
  instanceTypes := #[]
  staticTypes := #[.int, .int, .boolean]
  resolved := Array.replicate 1029 none
  statics := none }

def pool15 : Array CpInfo := pool [(2, .class_ 4), (1, u "java/lang/Object"), (0, u "<init>"), (0, u "()V"), (1, .class_ 10), (1, u "java/lang/System"), (0, u "allowSecurityManager"), (0, u "I"), (16, u "cons"), (0, u "Ljava/io/Console;"), (77, .class_ 110), (1, u "java/lang/System$CallersHolder"), (43, u "initialErrStream"), (0, u "Ljava/io/PrintStream;"), (19, u "security"), (0, u "Ljava/lang/SecurityManager;"), (31, .class_ 209), (0, u "java/lang/System$1"), (7, u "props"), (0, u "Ljava/util/Properties;"), (2, u "lineSeparator"), (0, u "Ljava/lang/String;"), (96, .class_ 321), (1, u "java/lang/System$LoggerFinder"), (5, .class_ 328), (0, u "java/lang/System$Logger"), (67, u "err"), (2, u "out"), (91, u "notSupportedJnuEncoding"), (15, u "in"), (17, u "initialIn"), (0, u "Ljava/io/InputStream;"), (35, u "bootLayer"), (0, u "Ljava/lang/ModuleLayer;"), (99, .class_ 664), (0, u "java/lang/System$2"), (9, u "NEVER"), (2, u "MAYBE"), (49, u "arraycopy"), (0, u "(Ljava/lang/Object;ILjava/lang/Object;II)V"), (72, .class_ 802), (0, u "java/lang/System$Logger$Level")] 31

def k15m0 : Method := { name := "<init>", desc := "()V", sig := { parameters := [], returnType := none }, accessFlags := 2, code := none }
def k15m1 : Method := { name := "arraycopy", desc := "(Ljava/lang/Object;ILjava/lang/Object;II)V", sig := { parameters := [(.object "java/lang/Object"), .int, (.object "java/lang/Object"), .int, .int], returnType := none }, accessFlags := 265, code := none }
/-- java/lang/System -/
def k15 : Class := { plain "java/lang/System" (some 0) with
  accessFlags := 49
  interfaces := #[]
  cf := some (fileOf pool15 8 #[.nestMembers #[319, 327, 801, 108, 663, 208]] #[{ accessFlags := 2, nameIndex := 5, descriptorIndex := 6, attributes := #[] }, { accessFlags := 265, nameIndex := 727, descriptorIndex := 728, attributes := #[] }] 49 2 #[] #[{ accessFlags := 25, nameIndex := 507, descriptorIndex := 526, attributes := #[] }, { accessFlags := 25, nameIndex := 399, descriptorIndex := 155, attributes := #[] }, { accessFlags := 25, nameIndex := 396, descriptorIndex := 155, attributes := #[] }, { accessFlags := 10, nameIndex := 525, descriptorIndex := 526, attributes := #[] }, { accessFlags := 26, nameIndex := 674, descriptorIndex := 12, attributes := #[] }, { accessFlags := 26, nameIndex := 677, descriptorIndex := 12, attributes := #[] }, { accessFlags := 10, nameIndex := 11, descriptorIndex := 12, attributes := #[] }, { accessFlags := 74, nameIndex := 175, descriptorIndex := 176, attributes := #[] }, { accessFlags := 10, nameIndex := 491, descriptorIndex := 222, attributes := #[] }, { accessFlags := 74, nameIndex := 29, descriptorIndex := 30, attributes := #[] }, { accessFlags := 74, nameIndex := 154, descriptorIndex := 155, attributes := #[] }, { accessFlags := 10, nameIndex := 217, descriptorIndex := 218, attributes := #[] }, { accessFlags := 10, nameIndex := 221, descriptorIndex := 222, attributes := #[] }, { accessFlags := 8, nameIndex := 562, descriptorIndex := 563, attributes := #[] }])
  fields := #[{ name := "in", type := (.object "java/io/InputStream"), accessFlags := 25, slot := 0, constantValue := 0 }, { name := "out", type := (.object "java/io/PrintStream"), accessFlags := 25, slot := 1, constantValue := 0 }, { name := "err", type := (.object "java/io/PrintStream"), accessFlags := 25, slot := 2, constantValue := 0 }, { name := "initialIn", type := (.object "java/io/InputStream"), accessFlags := 10, slot := 3, constantValue := 0 }, { name := "NEVER", type := .int, accessFlags := 26, slot := 4, constantValue := 0 }, { name := "MAYBE", type := .int, accessFlags := 26, slot := 5, constantValue := 0 }, { name := "allowSecurityManager", type := .int, accessFlags := 10, slot := 6, constantValue := 0 }, { name := "security", type := (.object "java/lang/SecurityManager"), accessFlags := 74, slot := 7, constantValue := 0 }, { name := "notSupportedJnuEncoding", type := (.object "java/lang/String"), accessFlags := 10, slot := 8, constantValue := 0 }, { name := "cons", type := (.object "java/io/Console"), accessFlags := 74, slot := 9, constantValue := 0 }, { name := "initialErrStream", type := (.object "java/io/PrintStream"), accessFlags := 74, slot := 10, constantValue := 0 }, { name := "props", type := (.object "java/util/Properties"), accessFlags := 10, slot := 11, constantValue := 0 }, { name := "lineSeparator", type := (.object "java/lang/String"), accessFlags := 10, slot := 12, constantValue := 0 }, { name := "bootLayer", type := (.object "java/lang/ModuleLayer"), accessFlags := 8, slot := 13, constantValue := 0 }]
  methods := #[k15m0, k15m1]
  instanceTypes := #[]
  staticTypes := #[(.object "java/io/InputStream"), (.object "java/io/PrintStream"), (.object "java/io/PrintStream"), (.object "java/io/InputStream"), .int, .int, .int, (.object "java/lang/SecurityManager"), (.object "java/lang/String"), (.object "java/io/Console"), (.object "java/io/PrintStream"), (.object "java/util/Properties"), (.object "java/lang/String"), (.object "java/lang/ModuleLayer")]
  resolved := Array.replicate 834 none
  statics := none }

def pool16 : Array CpInfo := pool [(9, u "<init>"), (6, .class_ 18), (1, u "java/lang/Object"), (0, u "()V"), (1, .class_ 23), (1, u "jdk/internal/util/ArraysSupport"), (0, u "LOG2_ARRAY_LONG_INDEX_SCALE"), (0, u "I"), (2, u "U"), (0, u "Ljdk/internal/misc/Unsafe;"), (8, u "BIG_ENDIAN"), (0, u "Z"), (8, u "LOG2_BYTE_BIT_SIZE"), (4, u "LOG2_ARRAY_INT_INDEX_SCALE"), (54, u "JLA"), (0, u "Ljdk/internal/access/JavaLangAccess;"), (11, u "LOG2_ARRAY_BOOLEAN_INDEX_SCALE"), (9, u "LOG2_ARRAY_BYTE_INDEX_SCALE"), (5, u "LOG2_ARRAY_CHAR_INDEX_SCALE"), (5, u "LOG2_ARRAY_SHORT_INDEX_SCALE"), (18, u "LOG2_ARRAY_FLOAT_INDEX_SCALE"), (24, u "LOG2_ARRAY_DOUBLE_INDEX_SCALE"), (89, u "T_BOOLEAN"), (2, u "T_CHAR"), (1, u "T_FLOAT"), (1, u "T_DOUBLE"), (1, u "T_BYTE"), (1, u "T_SHORT"), (1, u "T_INT"), (1, u "T_LONG"), (1, u "SOFT_MAX_ARRAY_LENGTH")] 83

def k16m0 : Method := { name := "<init>", desc := "()V", sig := { parameters := [], returnType := none }, accessFlags := 2, code := none }
/-- jdk/internal/util/ArraysSupport -/
def k16 : Class := { plain "jdk/internal/util/ArraysSupport" (some 0) with
  accessFlags := 33
  interfaces := #[]
  cf := some (fileOf pool16 21 #[] #[{ accessFlags := 2, nameIndex := 9, descriptorIndex := 19, attributes := #[] }] 33 16 #[] #[{ accessFlags := 24, nameIndex := 28, descriptorIndex := 29, attributes := #[] }, { accessFlags := 26, nameIndex := 38, descriptorIndex := 39, attributes := #[] }, { accessFlags := 25, nameIndex := 121, descriptorIndex := 25, attributes := #[] }, { accessFlags := 25, nameIndex := 131, descriptorIndex := 25, attributes := #[] }, { accessFlags := 25, nameIndex := 137, descriptorIndex := 25, attributes := #[] }, { accessFlags := 25, nameIndex := 143, descriptorIndex := 25, attributes := #[] }, { accessFlags := 25, nameIndex := 53, descriptorIndex := 25, attributes := #[] }, { accessFlags := 25, nameIndex := 24, descriptorIndex := 25, attributes := #[] }, { accessFlags := 25, nameIndex := 162, descriptorIndex := 25, attributes := #[] }, { accessFlags := 25, nameIndex := 187, descriptorIndex := 25, attributes := #[] }, { accessFlags := 26, nameIndex := 48, descriptorIndex := 25, attributes := #[] }, { accessFlags := 25, nameIndex := 277, descriptorIndex := 25, attributes := #[] }, { accessFlags := 25, nameIndex := 280, descriptorIndex := 25, attributes := #[] }, { accessFlags := 25, nameIndex := 282, descriptorIndex := 25, attributes := #[] }, { accessFlags := 25, nameIndex := 284, descriptorIndex := 25, attributes := #[] }, { accessFlags := 25, nameIndex := 286, descriptorIndex := 25, attributes := #[] }, { accessFlags := 25, nameIndex := 288, descriptorIndex := 25, attributes := #[] }, { accessFlags := 25, nameIndex := 290, descriptorIndex := 25, attributes := #[] }, { accessFlags := 25, nameIndex := 292, descriptorIndex := 25, attributes := #[] }, { accessFlags := 26, nameIndex := 108, descriptorIndex := 109, attributes := #[] }, { accessFlags := 25, nameIndex := 294, descriptorIndex := 25, attributes := #[] }])
  fields := #[{ name := "U", type := (.object "jdk/internal/misc/Unsafe"), accessFlags := 24, slot := 0, constantValue := 0 }, { name := "BIG_ENDIAN", type := .boolean, accessFlags := 26, slot := 1, constantValue := 0 }, { name := "LOG2_ARRAY_BOOLEAN_INDEX_SCALE", type := .int, accessFlags := 25, slot := 2, constantValue := 0 }, { name := "LOG2_ARRAY_BYTE_INDEX_SCALE", type := .int, accessFlags := 25, slot := 3, constantValue := 0 }, { name := "LOG2_ARRAY_CHAR_INDEX_SCALE", type := .int, accessFlags := 25, slot := 4, constantValue := 0 }, { name := "LOG2_ARRAY_SHORT_INDEX_SCALE", type := .int, accessFlags := 25, slot := 5, constantValue := 0 }, { name := "LOG2_ARRAY_INT_INDEX_SCALE", type := .int, accessFlags := 25, slot := 6, constantValue := 0 }, { name := "LOG2_ARRAY_LONG_INDEX_SCALE", type := .int, accessFlags := 25, slot := 7, constantValue := 0 }, { name := "LOG2_ARRAY_FLOAT_INDEX_SCALE", type := .int, accessFlags := 25, slot := 8, constantValue := 0 }, { name := "LOG2_ARRAY_DOUBLE_INDEX_SCALE", type := .int, accessFlags := 25, slot := 9, constantValue := 0 }, { name := "LOG2_BYTE_BIT_SIZE", type := .int, accessFlags := 26, slot := 10, constantValue := 0 }, { name := "T_BOOLEAN", type := .int, accessFlags := 25, slot := 11, constantValue := 0 }, { name := "T_CHAR", type := .int, accessFlags := 25, slot := 12, constantValue := 0 }, { name := "T_FLOAT", type := .int, accessFlags := 25, slot := 13, constantValue := 0 }, { name := "T_DOUBLE", type := .int, accessFlags := 25, slot := 14, constantValue := 0 }, { name := "T_BYTE", type := .int, accessFlags := 25, slot := 15, constantValue := 0 }, { name := "T_SHORT", type := .int, accessFlags := 25, slot := 16, constantValue := 0 }, { name := "T_INT", type := .int, accessFlags := 25, slot := 17, constantValue := 0 }, { name := "T_LONG", type := .int, accessFlags := 25, slot := 18, constantValue := 0 }, { name := "JLA", type := (.object "jdk/internal/access/JavaLangAccess"), accessFlags := 26, slot := 19, constantValue := 0 }, { name := "SOFT_MAX_ARRAY_LENGTH", type := .int, accessFlags := 25, slot := 20, constantValue := 0 }]
  methods := #[k16m0]
  instanceTypes := #[]
  staticTypes := #[(.object "jdk/internal/misc/Unsafe"), .boolean, .int, .int, .int, .int, .int, .int, .int, .int, .int, .int, .int, .int, .int, .int, .int, .int, .int, (.object "jdk/internal/access/JavaLangAccess"), .int]
  resolved := Array.replicate 378 none
  statics := none }

def pool17 : Array CpInfo := pool [(1, u "java/lang/Cloneable"), (0, .class_ 1), (0, u "java/lang/Object"), (0, .class_ 3)] 3

/-- java/lang/Cloneable -/
def k17 : Class := { plain "java/lang/Cloneable" (some 0) with
  accessFlags := 1537
  interfaces := #[]
  cf := some (fileOf pool17 2 #[] #[] 1537 4 #[] #[])
  fields := #[]
  methods := #[]
  instanceTypes := #[]
  staticTypes := #[]
  resolved := Array.replicate 8 none
  statics := none }

/-- the primitive byte -/
def k18 : Class := { plain "byte" none with kind := .primitive 'B', accessFlags := 0x411 }
/-- [B -/
def k19 : Class := { plain "[B" (some 0) with kind := .array 18 .byte, interfaces := #[17, 2], accessFlags := 1041 }

/-- the primitive char -/
def k20 : Class := { plain "char" none with kind := .primitive 'C', accessFlags := 0x411 }
/-- [C -/
def k21 : Class := { plain "[C" (some 0) with kind := .array 20 .char, interfaces := #[17, 2], accessFlags := 1041 }

/-- the primitive int -/
def k22 : Class := { plain "int" none with kind := .primitive 'I', accessFlags := 0x411 }
/-- [I -/
def k23 : Class := { plain "[I" (some 0) with kind := .array 22 .int, interfaces := #[17, 2], accessFlags := 1041 }

def heap : Heap := #[{ cls := 7, slots := #[.long 0, .int 1, .null, .int 0, .null, .int 0, .int 0], vm := .statics 7 },
  { cls := 13, slots := #[.null, .null, .null], vm := .statics 13 }]
def classes : Array Class := #[k0, k1, k2, k3, k4, k5, k6, k7, k8, k9, k10, k11, k12, k13, k14, k15, k16, k17, k18, k19, k20, k21, k22, k23]
def interned : List (Array UInt16 × Addr) := []
def slotsUsed : Nat := 10
def theMethod : MethodId := ⟨1, 3⟩
def args0 : Array Value := #[.int 7, .int 65, .int 66, .int 67, .int 68]
def aboutOver (below : List Frame) : State where
  vm := { classes := classes, interned := interned.toArray }
  heap := heap
  slotsUsed := slotsUsed
  threads := #[{ frames := .invoking theMethod args0 :: below }]
def below0 : List Frame := [.native { method := ⟨0, 0⟩, args := #[] }]
def about1 : State := aboutOver below0
def p0 : Program := .bare "" "" ""
def e0 : Env := launch0.env 0 0 0
theorem w_frames : about1.frames = Frame.invoking theMethod args0 :: below0 := rfl
set_option maxRecDepth 65536 in
theorem w_args : argsFit about1.vm theMethod args0 = true := by decide +kernel
set_option maxRecDepth 65536 in
theorem w_heap : heapFits about1 = true := by decide +kernel
set_option maxRecDepth 65536 in
theorem w_runnable : about1.curStatus? = some .runnable := by decide +kernel
set_option maxRecDepth 65536 in
theorem w_alone : about1.alone = true := by decide +kernel
set_option maxRecDepth 65536 in
theorem w_named : about1.methodNamed? x = some theMethod := by decide +kernel
set_option maxRecDepth 65536 in
theorem w_hears : about1.hears theMethod below0 = true := by decide +kernel
set_option maxRecDepth 65536 in
theorem w_ripe : about1.ripe theMethod args0 below0 = true := by decide +kernel
theorem w_running : about1.status = .running := rfl
set_option maxRecDepth 65536 in
theorem w_room : about1.hasRoom e0.platform room_1 = true :=
  launch0.hasRoom_least _ room_1 (by decide +kernel) (by decide +kernel) (by decide +kernel) (by decide +kernel) (by decide +kernel) (by decide +kernel)
theorem allAtoms_all (ts : List Jvm.Cond) (a : Array Jvm.Value) (st : Jvm.State) : (allAtoms ts).before a st = ts.all (fun c => c.before a st) := by
  induction ts with
  | nil => rfl
  | cons c t ih =>
    show (Jvm.Cond.and c (allAtoms t)).before a st = _
    rw [Jvm.Cond.before_and, ih, List.all_cons]
def words1 : List Jvm.Cond := Jvm.Cond.code x code maxLocals ret :: tables_1
/-- a 'code' word, met by the world's own term for the bytes: nothing is compared byte by byte -/
theorem code_word {y : MethodName} {bytes : ByteArray} {mx : Nat} {rt : Option FieldType} {a : Array Value} {s : State} {m : MethodId} {meth : Method} {c : Code} (h1 : s.methodNamed? y = some m) (h2 : s.vm.method? m = some meth) (h3 : meth.code = some c) (h4 : c.code = bytes)
    (h5 : (c.maxLocals == mx && c.exceptionTable.isEmpty && decide (c.maxStack ≤ mostOperands) && decide (meth.sig.returnType = rt) && !meth.locks && decide (parseMethodDescriptor y.desc = some meth.sig)) = true) : (Jvm.Cond.code y bytes mx rt).before a s = true := by
  simp only [Bool.and_eq_true, beq_iff_eq, Bool.not_eq_true', decide_eq_true_eq] at h5
  obtain ⟨⟨⟨⟨⟨g1, g2⟩, g3⟩, g4⟩, g5⟩, g6⟩ := h5
  simp [Cond.before, Cond.holds, Cond.value, h1, h2, h3, h4, g1, g2, g3, g4, g5, g6]
def isCode : Jvm.Cond → Bool
  | .code _ _ _ _ => true
  | _ => false
theorem all_split {L : List Jvm.Cond} {P : Jvm.Cond → Bool} (h1 : L.all (fun c => isCode c || P c) = true) (h2 : ∀ c ∈ L.filter isCode, P c = true) : L.all P = true := by
  refine List.all_eq_true.mpr fun c hc => ?_
  have h := List.all_eq_true.mp h1 c hc
  rcases Bool.eq_false_or_eq_true (isCode c) with hi | hi
  · exact h2 c (List.mem_filter.mpr ⟨hc, hi⟩)
  · simpa [hi] using h
set_option maxRecDepth 65536 in
theorem w_c0 : (Jvm.Cond.code x code maxLocals ret).before args0 about1 = true := code_word (m := ⟨1, 3⟩) (meth := k1m3) (c := k1c3) (by decide +kernel) rfl rfl rfl (by decide +kernel)
set_option maxRecDepth 65536 in
theorem w_c1 : (Jvm.Cond.code ({ cls := "com/example/bolter/bolter/service/ParameterNameOfPinLaw", name := "ch", desc := "(I)C" } : Jvm.MethodName) method_2_code (1 : Nat) (Option.some Jvm.ClassFile.FieldType.char)).before args0 about1 = true := code_word (m := ⟨1, 1⟩) (meth := k1m1) (c := k1c1) (by decide +kernel) rfl rfl rfl (by decide +kernel)
set_option maxRecDepth 65536 in
theorem w_c2 : (Jvm.Cond.code ({ cls := "com/example/bolter/bolter/service/ParameterNameOfPinLaw", name := "mk", desc := "(I[CI)Ljava/lang/String;" } : Jvm.MethodName) method_3_code (3 : Nat) (Option.some (Jvm.ClassFile.FieldType.object "java/lang/String"))).before args0 about1 = true := code_word (m := ⟨1, 2⟩) (meth := k1m2) (c := k1c2) (by decide +kernel) rfl rfl rfl (by decide +kernel)
set_option maxRecDepth 65536 in
theorem w_c3 : (Jvm.Cond.code ({ cls := "java/lang/String", name := "<init>", desc := "([C)V" } : Jvm.MethodName) jdk_42_method_3_code (2 : Nat) (Option.none : Option Jvm.ClassFile.FieldType)).before args0 about1 = true := code_word (m := ⟨7, 1⟩) (meth := k7m1) (c := k7c1) (by decide +kernel) rfl rfl rfl (by decide +kernel)
set_option maxRecDepth 65536 in
theorem w_c4 : (Jvm.Cond.code ({ cls := "java/lang/String", name := "<init>", desc := "([CIILjava/lang/Void;)V" } : Jvm.MethodName) jdk_42_method_149_code (6 : Nat) (Option.none : Option Jvm.ClassFile.FieldType)).before args0 about1 = true := code_word (m := ⟨7, 8⟩) (meth := k7m8) (c := k7c8) (by decide +kernel) rfl rfl rfl (by decide +kernel)
set_option maxRecDepth 65536 in
theorem w_c5 : (Jvm.Cond.code ({ cls := "java/lang/Object", name := "<init>", desc := "()V" } : Jvm.MethodName) object_method_1_code (1 : Nat) (Option.none : Option Jvm.ClassFile.FieldType)).before args0 about1 = true := code_word (m := ⟨0, 0⟩) (meth := k0m0) (c := k0c0) (by decide +kernel) rfl rfl rfl (by decide +kernel)
set_option maxRecDepth 65536 in
theorem w_c6 : (Jvm.Cond.code ({ cls := "com/example/bolter/bolter/service/ParameterName", name := "of", desc := "(Ljava/lang/String;)Lcom/example/bolter/bolter/service/ParameterName;" } : Jvm.MethodName) prog_18_method_2_code (4 : Nat) (Option.some (Jvm.ClassFile.FieldType.object "com/example/bolter/bolter/service/ParameterName"))).before args0 about1 = true := code_word (m := ⟨9, 1⟩) (meth := k9m1) (c := k9c1) (by decide +kernel) rfl rfl rfl (by decide +kernel)
set_option maxRecDepth 65536 in
theorem w_c7 : (Jvm.Cond.code ({ cls := "java/lang/String", name := "indexOf", desc := "(I)I" } : Jvm.MethodName) jdk_42_method_79_code (2 : Nat) (Option.some Jvm.ClassFile.FieldType.int)).before args0 about1 = true := code_word (m := ⟨7, 4⟩) (meth := k7m4) (c := k7c4) (by decide +kernel) rfl rfl rfl (by decide +kernel)
set_option maxRecDepth 65536 in
theorem w_c8 : (Jvm.Cond.code ({ cls := "java/lang/String", name := "indexOf", desc := "(II)I" } : Jvm.MethodName) jdk_42_method_80_code (3 : Nat) (Option.some Jvm.ClassFile.FieldType.int)).before args0 about1 = true := code_word (m := ⟨7, 5⟩) (meth := k7m5) (c := k7c5) (by decide +kernel) rfl rfl rfl (by decide +kernel)
set_option maxRecDepth 65536 in
theorem w_c9 : (Jvm.Cond.code ({ cls := "java/lang/String", name := "isLatin1", desc := "()Z" } : Jvm.MethodName) jdk_42_method_154_code (1 : Nat) (Option.some Jvm.ClassFile.FieldType.boolean)).before args0 about1 = true := code_word (m := ⟨7, 11⟩) (meth := k7m11) (c := k7c11) (by decide +kernel) rfl rfl rfl (by decide +kernel)
set_option maxRecDepth 65536 in
theorem w_c10 : (Jvm.Cond.code ({ cls := "java/lang/String", name := "length", desc := "()I" } : Jvm.MethodName) jdk_42_method_54_code (1 : Nat) (Option.some Jvm.ClassFile.FieldType.int)).before args0 about1 = true := code_word (m := ⟨7, 2⟩) (meth := k7m2) (c := k7c2) (by decide +kernel) rfl rfl rfl (by decide +kernel)
set_option maxRecDepth 65536 in
theorem w_c11 : (Jvm.Cond.code ({ cls := "java/lang/String", name := "coder", desc := "()B" } : Jvm.MethodName) jdk_42_method_152_code (1 : Nat) (Option.some Jvm.ClassFile.FieldType.byte)).before args0 about1 = true := code_word (m := ⟨7, 10⟩) (meth := k7m10) (c := k7c10) (by decide +kernel) rfl rfl rfl (by decide +kernel)
set_option maxRecDepth 65536 in
theorem w_c12 : (Jvm.Cond.code ({ cls := "java/lang/StringLatin1", name := "indexOf", desc := "([BIII)I" } : Jvm.MethodName) jdk_43_method_22_code (4 : Nat) (Option.some Jvm.ClassFile.FieldType.int)).before args0 about1 = true := code_word (m := ⟨10, 3⟩) (meth := k10m3) (c := k10c3) (by decide +kernel) rfl rfl rfl (by decide +kernel)
set_option maxRecDepth 65536 in
theorem w_c13 : (Jvm.Cond.code ({ cls := "java/lang/StringLatin1", name := "canEncode", desc := "(I)Z" } : Jvm.MethodName) jdk_43_method_4_code (1 : Nat) (Option.some Jvm.ClassFile.FieldType.boolean)).before args0 about1 = true := code_word (m := ⟨10, 1⟩) (meth := k10m1) (c := k10c1) (by decide +kernel) rfl rfl rfl (by decide +kernel)
set_option maxRecDepth 65536 in
theorem w_c14 : (Jvm.Cond.code ({ cls := "java/lang/Math", name := "max", desc := "(II)I" } : Jvm.MethodName) jdk_29_method_65_code (2 : Nat) (Option.some Jvm.ClassFile.FieldType.int)).before args0 about1 = true := code_word (m := ⟨11, 1⟩) (meth := k11m1) (c := k11c1) (by decide +kernel) rfl rfl rfl (by decide +kernel)
set_option maxRecDepth 65536 in
theorem w_c15 : (Jvm.Cond.code ({ cls := "java/lang/Math", name := "min", desc := "(II)I" } : Jvm.MethodName) jdk_29_method_69_code (2 : Nat) (Option.some Jvm.ClassFile.FieldType.int)).before args0 about1 = true := code_word (m := ⟨11, 2⟩) (meth := k11m2) (c := k11c2) (by decide +kernel) rfl rfl rfl (by decide +kernel)
set_option maxRecDepth 65536 in
theorem w_c16 : (Jvm.Cond.code ({ cls := "com/example/bolter/bolter/service/ParameterName", name := "<init>", desc := "(Ljava/lang/String;Ljava/lang/String;)V" } : Jvm.MethodName) prog_18_method_1_code (3 : Nat) (Option.none : Option Jvm.ClassFile.FieldType)).before args0 about1 = true := code_word (m := ⟨9, 0⟩) (meth := k9m0) (c := k9c0) (by decide +kernel) rfl rfl rfl (by decide +kernel)
set_option maxRecDepth 65536 in
theorem w_c17 : (Jvm.Cond.code ({ cls := "java/lang/Record", name := "<init>", desc := "()V" } : Jvm.MethodName) jdk_30_method_1_code (1 : Nat) (Option.none : Option Jvm.ClassFile.FieldType)).before args0 about1 = true := code_word (m := ⟨8, 0⟩) (meth := k8m0) (c := k8c0) (by decide +kernel) rfl rfl rfl (by decide +kernel)
set_option maxRecDepth 65536 in
theorem w_c18 : (Jvm.Cond.code ({ cls := "com/example/bolter/bolter/service/ParameterName", name := "code", desc := "()Ljava/lang/String;" } : Jvm.MethodName) prog_18_method_6_code (1 : Nat) (Option.some (Jvm.ClassFile.FieldType.object "java/lang/String"))).before args0 about1 = true := code_word (m := ⟨9, 2⟩) (meth := k9m2) (c := k9c2) (by decide +kernel) rfl rfl rfl (by decide +kernel)
set_option maxRecDepth 65536 in
theorem w_c19 : (Jvm.Cond.code ({ cls := "java/lang/String", name := "equals", desc := "(Ljava/lang/Object;)Z" } : Jvm.MethodName) jdk_42_method_66_code (3 : Nat) (Option.some Jvm.ClassFile.FieldType.boolean)).before args0 about1 = true := code_word (m := ⟨7, 3⟩) (meth := k7m3) (c := k7c3) (by decide +kernel) rfl rfl rfl (by decide +kernel)
set_option maxRecDepth 65536 in
theorem w_c20 : (Jvm.Cond.code ({ cls := "com/example/bolter/bolter/service/ParameterName", name := "modifier", desc := "()Ljava/lang/String;" } : Jvm.MethodName) prog_18_method_7_code (1 : Nat) (Option.some (Jvm.ClassFile.FieldType.object "java/lang/String"))).before args0 about1 = true := code_word (m := ⟨9, 3⟩) (meth := k9m3) (c := k9c3) (by decide +kernel) rfl rfl rfl (by decide +kernel)
set_option maxRecDepth 65536 in
theorem w_c21 : (Jvm.Cond.code ({ cls := "java/lang/StringUTF16", name := "compress", desc := "([CII)[B" } : Jvm.MethodName) jdk_52_method_16_code (6 : Nat) (Option.some (Jvm.ClassFile.FieldType.array Jvm.ClassFile.FieldType.byte))).before args0 about1 = true := code_word (m := ⟨12, 2⟩) (meth := k12m2) (c := k12c2) (by decide +kernel) rfl rfl rfl (by decide +kernel)
set_option maxRecDepth 65536 in
theorem w_c22 : (Jvm.Cond.code ({ cls := "java/lang/StringUTF16", name := "compress", desc := "([CI[BII)I" } : Jvm.MethodName) jdk_52_method_21_code (7 : Nat) (Option.some Jvm.ClassFile.FieldType.int)).before args0 about1 = true := code_word (m := ⟨12, 3⟩) (meth := k12m3) (c := k12c3) (by decide +kernel) rfl rfl rfl (by decide +kernel)
set_option maxRecDepth 65536 in
theorem w_c23 : (Jvm.Cond.code ({ cls := "java/lang/StringUTF16", name := "coderFromArrayLen", desc := "([BI)B" } : Jvm.MethodName) jdk_52_method_15_code (2 : Nat) (Option.some Jvm.ClassFile.FieldType.byte)).before args0 about1 = true := code_word (m := ⟨12, 1⟩) (meth := k12m1) (c := k12c1) (by decide +kernel) rfl rfl rfl (by decide +kernel)
set_option maxRecDepth 65536 in
theorem w_c24 : (Jvm.Cond.code ({ cls := "java/lang/StringLatin1", name := "indexOfChar", desc := "([BIII)I" } : Jvm.MethodName) jdk_43_method_23_code (6 : Nat) (Option.some Jvm.ClassFile.FieldType.int)).before args0 about1 = true := code_word (m := ⟨10, 4⟩) (meth := k10m4) (c := k10c4) (by decide +kernel) rfl rfl rfl (by decide +kernel)
set_option maxRecDepth 65536 in
theorem w_c25 : (Jvm.Cond.code ({ cls := "java/lang/String", name := "substring", desc := "(II)Ljava/lang/String;" } : Jvm.MethodName) jdk_42_method_92_code (5 : Nat) (Option.some (Jvm.ClassFile.FieldType.object "java/lang/String"))).before args0 about1 = true := code_word (m := ⟨7, 7⟩) (meth := k7m7) (c := k7c7) (by decide +kernel) rfl rfl rfl (by decide +kernel)
set_option maxRecDepth 65536 in
theorem w_c26 : (Jvm.Cond.code ({ cls := "java/lang/String", name := "checkBoundsBeginEnd", desc := "(III)V" } : Jvm.MethodName) jdk_42_method_158_code (3 : Nat) (Option.none : Option Jvm.ClassFile.FieldType)).before args0 about1 = true := code_word (m := ⟨7, 12⟩) (meth := k7m12) (c := k7c12) (by decide +kernel) rfl rfl rfl (by decide +kernel)
set_option maxRecDepth 65536 in
theorem w_c27 : (Jvm.Cond.code ({ cls := "jdk/internal/util/Preconditions", name := "checkFromToIndex", desc := "(IIILjava/util/function/BiFunction;)I" } : Jvm.MethodName) jdk_41_method_12_code (4 : Nat) (Option.some Jvm.ClassFile.FieldType.int)).before args0 about1 = true := code_word (m := ⟨13, 1⟩) (meth := k13m1) (c := k13c1) (by decide +kernel) rfl rfl rfl (by decide +kernel)
set_option maxRecDepth 65536 in
theorem w_c28 : (Jvm.Cond.code ({ cls := "java/lang/StringLatin1", name := "newString", desc := "([BII)Ljava/lang/String;" } : Jvm.MethodName) jdk_43_method_47_code (3 : Nat) (Option.some (Jvm.ClassFile.FieldType.object "java/lang/String"))).before args0 about1 = true := code_word (m := ⟨10, 5⟩) (meth := k10m5) (c := k10c5) (by decide +kernel) rfl rfl rfl (by decide +kernel)
set_option maxRecDepth 65536 in
theorem w_c29 : (Jvm.Cond.code ({ cls := "java/lang/String", name := "substring", desc := "(I)Ljava/lang/String;" } : Jvm.MethodName) jdk_42_method_91_code (2 : Nat) (Option.some (Jvm.ClassFile.FieldType.object "java/lang/String"))).before args0 about1 = true := code_word (m := ⟨7, 6⟩) (meth := k7m6) (c := k7c6) (by decide +kernel) rfl rfl rfl (by decide +kernel)
set_option maxRecDepth 65536 in
theorem w_c30 : (Jvm.Cond.code ({ cls := "java/util/Arrays", name := "copyOfRange", desc := "([BII)[B" } : Jvm.MethodName) jdk_65_method_132_code (3 : Nat) (Option.some (Jvm.ClassFile.FieldType.array Jvm.ClassFile.FieldType.byte))).before args0 about1 = true := code_word (m := ⟨14, 2⟩) (meth := k14m2) (c := k14c2) (by decide +kernel) rfl rfl rfl (by decide +kernel)
set_option maxRecDepth 65536 in
theorem w_c31 : (Jvm.Cond.code ({ cls := "java/util/Arrays", name := "copyOfRangeByte", desc := "([BII)[B" } : Jvm.MethodName) jdk_65_method_133_code (5 : Nat) (Option.some (Jvm.ClassFile.FieldType.array Jvm.ClassFile.FieldType.byte))).before args0 about1 = true := code_word (m := ⟨14, 3⟩) (meth := k14m3) (c := k14c3) (by decide +kernel) rfl rfl rfl (by decide +kernel)
set_option maxRecDepth 65536 in
theorem w_c32 : (Jvm.Cond.code ({ cls := "java/util/Arrays", name := "checkLength", desc := "(II)V" } : Jvm.MethodName) jdk_65_method_131_code (2 : Nat) (Option.none : Option Jvm.ClassFile.FieldType)).before args0 about1 = true := code_word (m := ⟨14, 1⟩) (meth := k14m1) (c := k14c1) (by decide +kernel) rfl rfl rfl (by decide +kernel)
set_option maxRecDepth 65536 in
theorem w_c33 : (Jvm.Cond.code ({ cls := "java/lang/String", name := "<init>", desc := "([BB)V" } : Jvm.MethodName) jdk_42_method_151_code (3 : Nat) (Option.none : Option Jvm.ClassFile.FieldType)).before args0 about1 = true := code_word (m := ⟨7, 9⟩) (meth := k7m9) (c := k7c9) (by decide +kernel) rfl rfl rfl (by decide +kernel)
set_option maxRecDepth 65536 in
theorem w_c34 : (Jvm.Cond.code ({ cls := "java/lang/StringLatin1", name := "equals", desc := "([B[B)Z" } : Jvm.MethodName) jdk_43_method_13_code (3 : Nat) (Option.some Jvm.ClassFile.FieldType.boolean)).before args0 about1 = true := code_word (m := ⟨10, 2⟩) (meth := k10m2) (c := k10c2) (by decide +kernel) rfl rfl rfl (by decide +kernel)
def codes1 : List Jvm.Cond := [Jvm.Cond.code x code maxLocals ret, Jvm.Cond.code ({ cls := "com/example/bolter/bolter/service/ParameterNameOfPinLaw", name := "ch", desc := "(I)C" } : Jvm.MethodName) method_2_code (1 : Nat) (Option.some Jvm.ClassFile.FieldType.char), Jvm.Cond.code ({ cls := "com/example/bolter/bolter/service/ParameterNameOfPinLaw", name := "mk", desc := "(I[CI)Ljava/lang/String;" } : Jvm.MethodName) method_3_code (3 : Nat) (Option.some (Jvm.ClassFile.FieldType.object "java/lang/String")), Jvm.Cond.code ({ cls := "java/lang/String", name := "<init>", desc := "([C)V" } : Jvm.MethodName) jdk_42_method_3_code (2 : Nat) (Option.none : Option Jvm.ClassFile.FieldType), Jvm.Cond.code ({ cls := "java/lang/String", name := "<init>", desc := "([CIILjava/lang/Void;)V" } : Jvm.MethodName) jdk_42_method_149_code (6 : Nat) (Option.none : Option Jvm.ClassFile.FieldType), Jvm.Cond.code ({ cls := "java/lang/Object", name := "<init>", desc := "()V" } : Jvm.MethodName) object_method_1_code (1 : Nat) (Option.none : Option Jvm.ClassFile.FieldType), Jvm.Cond.code ({ cls := "com/example/bolter/bolter/service/ParameterName", name := "of", desc := "(Ljava/lang/String;)Lcom/example/bolter/bolter/service/ParameterName;" } : Jvm.MethodName) prog_18_method_2_code (4 : Nat) (Option.some (Jvm.ClassFile.FieldType.object "com/example/bolter/bolter/service/ParameterName")), Jvm.Cond.code ({ cls := "java/lang/String", name := "indexOf", desc := "(I)I" } : Jvm.MethodName) jdk_42_method_79_code (2 : Nat) (Option.some Jvm.ClassFile.FieldType.int), Jvm.Cond.code ({ cls := "java/lang/String", name := "indexOf", desc := "(II)I" } : Jvm.MethodName) jdk_42_method_80_code (3 : Nat) (Option.some Jvm.ClassFile.FieldType.int), Jvm.Cond.code ({ cls := "java/lang/String", name := "isLatin1", desc := "()Z" } : Jvm.MethodName) jdk_42_method_154_code (1 : Nat) (Option.some Jvm.ClassFile.FieldType.boolean), Jvm.Cond.code ({ cls := "java/lang/String", name := "length", desc := "()I" } : Jvm.MethodName) jdk_42_method_54_code (1 : Nat) (Option.some Jvm.ClassFile.FieldType.int), Jvm.Cond.code ({ cls := "java/lang/String", name := "coder", desc := "()B" } : Jvm.MethodName) jdk_42_method_152_code (1 : Nat) (Option.some Jvm.ClassFile.FieldType.byte), Jvm.Cond.code ({ cls := "java/lang/StringLatin1", name := "indexOf", desc := "([BIII)I" } : Jvm.MethodName) jdk_43_method_22_code (4 : Nat) (Option.some Jvm.ClassFile.FieldType.int), Jvm.Cond.code ({ cls := "java/lang/StringLatin1", name := "canEncode", desc := "(I)Z" } : Jvm.MethodName) jdk_43_method_4_code (1 : Nat) (Option.some Jvm.ClassFile.FieldType.boolean), Jvm.Cond.code ({ cls := "java/lang/Math", name := "max", desc := "(II)I" } : Jvm.MethodName) jdk_29_method_65_code (2 : Nat) (Option.some Jvm.ClassFile.FieldType.int), Jvm.Cond.code ({ cls := "java/lang/Math", name := "min", desc := "(II)I" } : Jvm.MethodName) jdk_29_method_69_code (2 : Nat) (Option.some Jvm.ClassFile.FieldType.int), Jvm.Cond.code ({ cls := "com/example/bolter/bolter/service/ParameterName", name := "<init>", desc := "(Ljava/lang/String;Ljava/lang/String;)V" } : Jvm.MethodName) prog_18_method_1_code (3 : Nat) (Option.none : Option Jvm.ClassFile.FieldType), Jvm.Cond.code ({ cls := "java/lang/Record", name := "<init>", desc := "()V" } : Jvm.MethodName) jdk_30_method_1_code (1 : Nat) (Option.none : Option Jvm.ClassFile.FieldType), Jvm.Cond.code ({ cls := "com/example/bolter/bolter/service/ParameterName", name := "code", desc := "()Ljava/lang/String;" } : Jvm.MethodName) prog_18_method_6_code (1 : Nat) (Option.some (Jvm.ClassFile.FieldType.object "java/lang/String")), Jvm.Cond.code ({ cls := "java/lang/String", name := "equals", desc := "(Ljava/lang/Object;)Z" } : Jvm.MethodName) jdk_42_method_66_code (3 : Nat) (Option.some Jvm.ClassFile.FieldType.boolean), Jvm.Cond.code ({ cls := "com/example/bolter/bolter/service/ParameterName", name := "modifier", desc := "()Ljava/lang/String;" } : Jvm.MethodName) prog_18_method_7_code (1 : Nat) (Option.some (Jvm.ClassFile.FieldType.object "java/lang/String")), Jvm.Cond.code ({ cls := "java/lang/StringUTF16", name := "compress", desc := "([CII)[B" } : Jvm.MethodName) jdk_52_method_16_code (6 : Nat) (Option.some (Jvm.ClassFile.FieldType.array Jvm.ClassFile.FieldType.byte)), Jvm.Cond.code ({ cls := "java/lang/StringUTF16", name := "compress", desc := "([CI[BII)I" } : Jvm.MethodName) jdk_52_method_21_code (7 : Nat) (Option.some Jvm.ClassFile.FieldType.int), Jvm.Cond.code ({ cls := "java/lang/StringUTF16", name := "coderFromArrayLen", desc := "([BI)B" } : Jvm.MethodName) jdk_52_method_15_code (2 : Nat) (Option.some Jvm.ClassFile.FieldType.byte), Jvm.Cond.code ({ cls := "java/lang/StringLatin1", name := "indexOfChar", desc := "([BIII)I" } : Jvm.MethodName) jdk_43_method_23_code (6 : Nat) (Option.some Jvm.ClassFile.FieldType.int), Jvm.Cond.code ({ cls := "java/lang/String", name := "substring", desc := "(II)Ljava/lang/String;" } : Jvm.MethodName) jdk_42_method_92_code (5 : Nat) (Option.some (Jvm.ClassFile.FieldType.object "java/lang/String")), Jvm.Cond.code ({ cls := "java/lang/String", name := "checkBoundsBeginEnd", desc := "(III)V" } : Jvm.MethodName) jdk_42_method_158_code (3 : Nat) (Option.none : Option Jvm.ClassFile.FieldType), Jvm.Cond.code ({ cls := "jdk/internal/util/Preconditions", name := "checkFromToIndex", desc := "(IIILjava/util/function/BiFunction;)I" } : Jvm.MethodName) jdk_41_method_12_code (4 : Nat) (Option.some Jvm.ClassFile.FieldType.int), Jvm.Cond.code ({ cls := "java/lang/StringLatin1", name := "newString", desc := "([BII)Ljava/lang/String;" } : Jvm.MethodName) jdk_43_method_47_code (3 : Nat) (Option.some (Jvm.ClassFile.FieldType.object "java/lang/String")), Jvm.Cond.code ({ cls := "java/lang/String", name := "substring", desc := "(I)Ljava/lang/String;" } : Jvm.MethodName) jdk_42_method_91_code (2 : Nat) (Option.some (Jvm.ClassFile.FieldType.object "java/lang/String")), Jvm.Cond.code ({ cls := "java/util/Arrays", name := "copyOfRange", desc := "([BII)[B" } : Jvm.MethodName) jdk_65_method_132_code (3 : Nat) (Option.some (Jvm.ClassFile.FieldType.array Jvm.ClassFile.FieldType.byte)), Jvm.Cond.code ({ cls := "java/util/Arrays", name := "copyOfRangeByte", desc := "([BII)[B" } : Jvm.MethodName) jdk_65_method_133_code (5 : Nat) (Option.some (Jvm.ClassFile.FieldType.array Jvm.ClassFile.FieldType.byte)), Jvm.Cond.code ({ cls := "java/util/Arrays", name := "checkLength", desc := "(II)V" } : Jvm.MethodName) jdk_65_method_131_code (2 : Nat) (Option.none : Option Jvm.ClassFile.FieldType), Jvm.Cond.code ({ cls := "java/lang/String", name := "<init>", desc := "([BB)V" } : Jvm.MethodName) jdk_42_method_151_code (3 : Nat) (Option.none : Option Jvm.ClassFile.FieldType), Jvm.Cond.code ({ cls := "java/lang/StringLatin1", name := "equals", desc := "([B[B)Z" } : Jvm.MethodName) jdk_43_method_13_code (3 : Nat) (Option.some Jvm.ClassFile.FieldType.boolean)]
set_option maxRecDepth 65536 in
theorem codes_eq : words1.filter isCode = codes1 := rfl
theorem w_codes : ∀ c ∈ words1.filter isCode, c.before args0 about1 = true := by
  rw [codes_eq]
  intro c hc
  simp only [codes1, List.mem_cons, List.not_mem_nil, or_false] at hc
  rcases hc with rfl | rfl | rfl | rfl | rfl | rfl | rfl | rfl | rfl | rfl | rfl | rfl | rfl | rfl | rfl | rfl | rfl | rfl | rfl | rfl | rfl | rfl | rfl | rfl | rfl | rfl | rfl | rfl | rfl | rfl | rfl | rfl | rfl | rfl | rfl
  · exact w_c0
  · exact w_c1
  · exact w_c2
  · exact w_c3
  · exact w_c4
  · exact w_c5
  · exact w_c6
  · exact w_c7
  · exact w_c8
  · exact w_c9
  · exact w_c10
  · exact w_c11
  · exact w_c12
  · exact w_c13
  · exact w_c14
  · exact w_c15
  · exact w_c16
  · exact w_c17
  · exact w_c18
  · exact w_c19
  · exact w_c20
  · exact w_c21
  · exact w_c22
  · exact w_c23
  · exact w_c24
  · exact w_c25
  · exact w_c26
  · exact w_c27
  · exact w_c28
  · exact w_c29
  · exact w_c30
  · exact w_c31
  · exact w_c32
  · exact w_c33
  · exact w_c34
set_option maxRecDepth 65536 in
theorem w_t1 : (words1.take 24).all (fun c => isCode c || c.before args0 about1) = true := by decide +kernel
set_option maxRecDepth 65536 in
theorem w_t2 : ((words1.drop 24).take 24).all (fun c => isCode c || c.before args0 about1) = true := by decide +kernel
set_option maxRecDepth 65536 in
theorem w_t3 : (((words1.drop 24).drop 24).take 24).all (fun c => isCode c || c.before args0 about1) = true := by decide +kernel
set_option maxRecDepth 65536 in
theorem w_t4 : ((((words1.drop 24).drop 24).drop 24).take 24).all (fun c => isCode c || c.before args0 about1) = true := by decide +kernel
set_option maxRecDepth 65536 in
theorem w_t5 : (((((words1.drop 24).drop 24).drop 24).drop 24).take 24).all (fun c => isCode c || c.before args0 about1) = true := by decide +kernel
set_option maxRecDepth 65536 in
theorem w_t6 : ((((((words1.drop 24).drop 24).drop 24).drop 24).drop 24).take 24).all (fun c => isCode c || c.before args0 about1) = true := by decide +kernel
set_option maxRecDepth 65536 in
theorem w_t7 : ((((((words1.drop 24).drop 24).drop 24).drop 24).drop 24).drop 24).all (fun c => isCode c || c.before args0 about1) = true := by decide +kernel
theorem w_tables : (allAtoms (Jvm.Cond.code x code maxLocals ret :: tables_1)).before args0 about1 = true := by
  rw [allAtoms_all]
  show words1.all (fun c => c.before args0 about1) = true
  refine all_split ?_ w_codes
  rw [← List.take_append_drop 24 words1, List.all_append, w_t1, ← List.take_append_drop 24 (words1.drop 24), List.all_append, w_t2, ← List.take_append_drop 24 ((words1.drop 24).drop 24), List.all_append, w_t3, ← List.take_append_drop 24 (((words1.drop 24).drop 24).drop 24), List.all_append, w_t4, ← List.take_append_drop 24 ((((words1.drop 24).drop 24).drop 24).drop 24), List.all_append, w_t5, ← List.take_append_drop 24 (((((words1.drop 24).drop 24).drop 24).drop 24).drop 24), List.all_append, w_t6, w_t7]
  rfl
set_option maxRecDepth 65536 in
theorem w_rest : rest_1_c.before args0 about1 = true := by decide +kernel
set_option maxRecDepth 65536 in
theorem w_case : (Jvm.Cond.and given_1 narrow_1).before args0 about1 = true := by decide +kernel
set_option maxRecDepth 65536 in
theorem w_consts : constsHeld consts_1 about1 := Jvm.Lit.constsHeldB_iff.mp (by decide +kernel)
theorem w_applies : (headSpec (Jvm.Cond.code x code maxLocals ret :: tables_1) room_1).applies x e0.platform about1 = true :=
  (Spec.applies_iff w_frames).mpr ⟨w_running, w_runnable, w_alone, w_named, w_hears, w_ripe, w_room, w_tables⟩
theorem atStart : AtStart classFile x code maxLocals ret World_1 tables_1 room_1 Calls_1 rest_1 Pre_1 launch0 p0 e0 about1 theMethod args0 below0 :=
  ⟨lists_1, trivial, launch0.admits_env _ _ _, launch0.least_env, fairChoices_fair.cas, fairChoices_fair.clock, w_frames, w_args, w_heap, w_applies, ⟨w_consts, trivial⟩, w_rest, w_case⟩
end start1
theorem witness_1 : WitnessClaimed_1 := ⟨start1.p0, start1.e0, start1.about1, start1.theMethod, start1.args0, start1.below0, start1.atStart⟩
end Jvm.Pilot.@@N@@
