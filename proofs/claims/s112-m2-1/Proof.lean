import JvmDerived
import JvmDerived.Pilot.@@N@@Statement
import JvmDerived.Pilot.@@N@@Code
set_option linter.unusedVariables false
set_option linter.unusedSimpArgs false
namespace Jvm.RoadKit
open Sem ClassFile Op Lib Jvm.Stand Jvm.Free Jvm.LawKit
section Own
variable {tb : Tables} {e : Env} {below : List Frame} {Q : Outcome → State → Prop} {A B : State}
def Goes (tb : Tables) (e : Env) (below : List Frame) (Q : Outcome → State → Prop) (A : State) : Prop := ∃ s₂ o, Steps tb e below A s₂ ∧ s₂.status = .running ∧ Ended s₂ below o ∧ Q o s₂
theorem Goes.st (st : ∀ t, Steps tb e below A t → Steps tb e below B t) (k : Goes tb e below Q A) : Goes tb e below Q B := by
  obtain ⟨s, o, h1, h2⟩ := k
  exact ⟨s, o, st s h1, h2⟩
theorem Goes.tr (st : Steps tb e below B A) (k : Goes tb e below Q A) : Goes tb e below Q B := by
  obtain ⟨s, o, h1, h2⟩ := k
  exact ⟨s, o, st.trans h1, h2⟩
abbrev uS : Slot := .unset
theorem Goes.named (k : ∀ Q', Q' = Q → Goes tb e below Q' A) : Goes tb e below Q A := k Q rfl
theorem own_narb (c : Int32) : nar .byte (c.toInt8.toInt32) = c.toInt8.toInt32 := by simp [nar]
theorem own_fitsb (c : Int32) : fits .byte (.int c.toInt8.toInt32) = true := own_narb c ▸ fits_nar_byte _
theorem own_narZ {z : Int32} (h : z = 0 ∨ z = 1) : nar .boolean z = z := by rcases h with rfl | rfl <;> rfl
theorem own_narwZ {z : Int32} (h : z = 0 ∨ z = 1) : narrow .boolean (.int z) = .int z := by rcases h with rfl | rfl <;> rfl
theorem own_fitsZ {z : Int32} (h : z = 0 ∨ z = 1) : fits .boolean (.int z) = true := by rcases h with rfl | rfl <;> rfl
theorem own_cat {v : Value} (h : v.isRef = true) : v.category = 1 := by cases v <;> first | rfl | (simp [Value.isRef] at h)
theorem own_fitsR {v : Value} {t : FieldType} (h : v.isRef = true) (ht : t.isReference = true) : fits t v = true := by cases v <;> cases t <;> simp_all [Value.isRef, fits, FieldType.isReference]
theorem own_narR {v : Value} {t : FieldType} (h : v.isRef = true) : narrow t v = v := by cases v <;> cases t <;> first | rfl | (simp [Value.isRef] at h)
end Own
section New
variable {p : Program} {l : Launch} {e : Env} {R : Room} {s : State} {m : MethodId} {args : Array Value} {below : List Frame} {meth : Method} {c : Code} {T : State} {locs : List Loc} {cells slots : Nat}
theorem retI (X : Stand p l e R s m args below meth c T locs cells slots) (hx : p.tables.exec = Jvm.exec) {pc : Nat} {Ls : Array Slot} {z : Int32} {rest : List Value} (hret : meth.sig.returnType = some .int) (hd : decode c.code pc = .ok (.ireturn, 1)) {fs : List Frame}
    (hl : ∀ (f : JFrame) (acts : List Action), f.method = m → f.locked = none → f.entered = [] → (doReturn e (T.setTop f) acts (some (.int z))).1 = T.setFrames fs) : Steps p.tables e below (T.setTop (mkF m pc Ls (.int z :: rest))) (T.setFrames fs) :=
  retOut X hx (w := .int z) hret rfl (Or.inl ⟨rfl, Or.inl rfl, _, rfl⟩) hd hl
theorem retJ (X : Stand p l e R s m args below meth c T locs cells slots) (hx : p.tables.exec = Jvm.exec) {pc : Nat} {Ls : Array Slot} {z : Int64} {rest : List Value} (hret : meth.sig.returnType = some .long) (hd : decode c.code pc = .ok (.lreturn, 1)) {fs : List Frame}
    (hl : ∀ (f : JFrame) (acts : List Action), f.method = m → f.locked = none → f.entered = [] → (doReturn e (T.setTop f) acts (some (.long z))).1 = T.setFrames fs) : Steps p.tables e below (T.setTop (mkF m pc Ls (.long z :: rest))) (T.setFrames fs) :=
  retOut X hx (w := .long z) hret rfl (Or.inr (Or.inl ⟨rfl, rfl, _, rfl⟩)) hd hl
theorem retR (X : Stand p l e R s m args below meth c T locs cells slots) (hx : p.tables.exec = Jvm.exec) {pc : Nat} {Ls : Array Slot} {w : Value} {t : FieldType} {rest : List Value} (hret : meth.sig.returnType = some t) (ht : t.isReference = true) (hw : w.isRef = true) (hd : decode c.code pc = .ok (.areturn, 1)) {fs : List Frame}
    (hl : ∀ (f : JFrame) (acts : List Action), f.method = m → f.locked = none → f.entered = [] → (doReturn e (T.setTop f) acts (some w)).1 = T.setFrames fs) : Steps p.tables e below (T.setTop (mkF m pc Ls (w :: rest))) (T.setFrames fs) :=
  retOut X hx (w := w) hret (own_narR hw) (Or.inr (Or.inr (Or.inr (Or.inr ⟨rfl, ht, hw⟩)))) hd hl
end New
end Jvm.RoadKit
namespace Jvm.RoadKit
open Sem ClassFile Op Lib Jvm.Stand Jvm.Free Jvm.LawKit
section OwnW
variable {p : Program} {l : Launch} {e : Env} {R : Room} {s : State} {args : Array Value} {below : List Frame} {Z : State} {a0 : Array Value} {h : Heap} {vm0 : Vm} {EL : List (String × Nat)}
theorem own_REmono {s t : State} {o : Outcome} {L : List Loc} {k n k' n' : Nat} (h : ReturnedEndW s o t L k n) (hk : k ≤ k') (hn : n ≤ n') : ReturnedEndW s o t L k' n' := ⟨h.1, h.2.1, h.2.2.1, h.2.2.2.mono hk hn⟩
/-- a callee that may intern, and is told of some addresses that no constant's String lies there -/
theorem own_backW {y : MethodName} {bytes : ByteArray} {maxL : Nat} {ret : Option FieldType} {rm : Room} {len W : Nat} {as' : Array Value} {Q : Option Value → Heap → List Loc → Prop} {xs : List Addr}
    (hM : MetFree l y (head1 [Cond.code y bytes maxL ret] rm) (fun a U => a = as' ∧ Z.Warmed39 U.vm ∧ U.heap = h ∧ CHv Z EL U.vm h ∧ ∀ x ∈ xs, Safe Z EL U.vm h x) (fun _ _ _ _ _ => True) (fun _ U o U' => ∃ v L, o = .returned v ∧ Q v U'.heap L ∧ CHr Z EL U.vm U.heap U'.vm U'.heap ∧ ReturnedEndW U o U' L rm.cells rm.slots))
    (hZ : Z.Warmed39 vm0) (wc : (Cond.code y bytes maxL ret).before a0 Z = true) (wz : (Cond.initialized y.cls).before a0 Z = true) (hf : rm.frames + 1 ≤ R.frames) (hl : W + (maxL + 11) + rm.locals ≤ R.locals) (hEL : EW Z a0 EL) (H : CHv Z EL vm0 h) (hxs : ∀ x ∈ xs, x < h.size ∧ Safe Z EL vm0 h x) :
    BackS l R p e below (s.setVm vm0) args y len W (fun A a => a = as' ∧ A.U.heap = h ∧ A.cells + rm.cells ≤ R.cells ∧ A.slots + rm.slots ≤ R.slots)
      (fun A _ v B => ∃ L, Q v B.U.heap L ∧ B.locs = A.locs ++ L ∧ B.cells = A.cells + rm.cells ∧ B.slots = A.slots + rm.slots ∧ CHr Z EL vm0 h B.U.vm B.U.heap) := by
  refine BackS.of_freeW (bytes := bytes) (maxL := maxL) (ret := ret) (E := fun _ first o t L k n => k = rm.cells ∧ n = rm.slots ∧ (∃ v, o = .returned v ∧ Q v t.heap L) ∧ CHr Z EL first.vm first.heap t.vm t.heap) hM hf hl ?_ ?_ ?_ ?_ ?_
  · intro m meth c A a Y hp
    have hU : Z.Warmed39 A.U.vm := wtrans (s := s.setVm vm0) hZ Y.warmed
    refine ⟨?_, mv hU wc, mv hU wz, hp.2.2.1, hp.2.2.2⟩
    show (Cond.and _ .tt).before a A.U = true
    rw [Cond.before_and, mv hU wc]; rfl
  · intro m meth c A a g mk Y hp
    have C := CHv.at Y hZ hEL H
    exact ⟨hp.1, wtrans (s := s.setVm vm0) hZ Y.warmed, hp.2.1, C.1, fun x hx => C.safe (hxs x hx).1 (hxs x hx).2⟩
  · intros; trivial
  · rintro _ _ _ _ ⟨v, L, h1, h2, h3, h4⟩
    exact ⟨L, _, _, h4, rfl, rfl, ⟨v, h1, h2⟩, h3⟩
  · rintro m meth c A a g mk v t L k n Y hp _ _ ⟨e1, e2, ⟨v', e3, e4⟩, e5⟩
    cases e3
    subst e1 e2
    refine ⟨L, e4, rfl, rfl, rfl, (CHv.at Y hZ hEL H).trans ?_⟩
    rw [← hp.2.1]
    exact e5
end OwnW
end Jvm.RoadKit
namespace Jvm.Pilot.@@N@@
open Jvm Jvm.ClassFile Sem Op Lib Jvm.Free Jvm.Stand Jvm.LawKit Jvm.RoadKit Bundle Jvm.Pilot.@@N@@.Jvm.D
def EL : List (String × Nat) := consts_1
theorem own_wS {Z : State} {a0 : Array Value} (hw : ∀ d ∈ tables_1, d.before a0 Z = true) : ∀ d ∈ Bundle.stringAtoms, d.before a0 Z = true := fun d hd => hw d ((by decide +kernel : ∀ d ∈ Bundle.stringAtoms, d ∈ tables_1) d hd)
end Jvm.Pilot.@@N@@
/- laws to paste: Road.backV, Road.eqW, Road.lenW, Road.chN, Road.codOf (cut by pick.py; bodies as the Statement names them) -/
namespace Jvm.Pilot.@@N@@
namespace StrChars
open Jvm Sem ClassFile Op Lib Jvm.Stand Jvm.Free.XT Jvm.Free.ALB Jvm.Free.JM Jvm.Free
open Jvm.Lib.Cold (StaticIs)
/-- a char array whose places are chars -/
def Ch (a : Addr) (A : Cell) (U : State) : Prop := Arr .char a A U ∧ Typed .char A
theorem Ch.mv {a : Addr} {A : Cell} {U U' : State} (h : Ch a A U) (hal : U.vm.Alike U'.vm) (hh : U'.heap = U.heap) : Ch a A U' := ⟨h.1.mv hal hh, h.2⟩
theorem Ch.keep {a : Addr} {A : Cell} {U U' : State} (h : Ch a A U) (hal : U.vm.Alike U'.vm) (hk : U'.heap[a]? = some A) : Ch a A U' := ⟨h.1.keep hal hk, h.2⟩
/-- what place i of a char[]'s cell holds -/
def cv (A : Cell) (i : Nat) : Int32 := match A.slots[i]? with | some (.int x) => x | _ => 0
theorem Ch.get {a : Addr} {A : Cell} {U : State} (h : Ch a A U) {i : Nat} (hi : i < A.slots.size) : A.slots[i]? = some (.int (cv A i)) := by
  have e := Array.getElem?_eq_getElem hi
  have f := h.2 i _ e
  unfold cv; rw [e]
  generalize A.slots[i] = v at f
  cases v <;> simp [fits] at f ⊢
/-- the byte that i2b leaves of a char -/
def lo8 (x : Int32) : Int32 := x.toInt8.toInt32
theorem fits_lo8 (y : Int32) : fits .byte (.int (lo8 y)) = true := by
  have h1 := y.toInt8.le_toInt
  have h2 := y.toInt8.toInt_lt
  simp only [lo8, fits, Bool.and_eq_true, decide_eq_true_eq, Int32.le_iff_toInt_le, Int8.toInt_toInt32, show (-128 : Int32).toInt = -128 from by decide, show (127 : Int32).toInt = 127 from by decide]
  omega
/-- A' is A but that each place j of lo .. hi - 1 holds f j -/
def Laid (A A' : Cell) (lo hi : Nat) (f : Nat → Value) : Prop := A'.cls = A.cls ∧ A'.vm = A.vm ∧ A'.slots.size = A.slots.size ∧ ∀ i, A'.slots[i]? = if lo ≤ i ∧ i < hi then some (f i) else A.slots[i]?
theorem Laid.zero (A : Cell) (lo : Nat) (f : Nat → Value) : Laid A A lo (lo + 0) f := ⟨rfl, rfl, rfl, fun i => by rw [if_neg (by omega)]⟩
theorem Laid.step {A Ak : Cell} {lo k : Nat} {f : Nat → Value} {v : Value} (h : Laid A Ak lo k f) (hlo : lo ≤ k) (hk : k < Ak.slots.size) (hv : v = f k) : Laid A (Ak.setSlot k v) lo (k + 1) f := by
  refine ⟨h.1, h.2.1, by simpa [Cell.setSlot] using h.2.2.1, fun i => ?_⟩
  by_cases e : k = i
  · subst e; rw [Cell.slots_setSlot_self v hk, if_pos (by omega), hv]
  · rw [Cell.slots_setSlot_ne v e, h.2.2.2 i]
    by_cases q : lo ≤ i ∧ i < k
    · rw [if_pos q, if_pos (by omega)]
    · rw [if_neg q, if_neg (by omega)]
def U16 : String := "java/lang/StringUTF16"
namespace Cmp5
def yN : MethodName := ⟨"java/lang/StringUTF16", "compress", "([CI[BII)I"⟩
abbrev yB : ByteArray := jdk_52_method_21_code
theorem d0 : decode yB 0 = .ok (.iconst 0, 1) := by decide +kernel
theorem d1 : decode yB 1 = .ok (.istore 5, 2) := by decide +kernel
theorem d3 : decode yB 3 = .ok (.iload 5, 2) := by decide +kernel
theorem d5 : decode yB 5 = .ok (.iload 4, 2) := by decide +kernel
theorem d7 : decode yB 7 = .ok (.if_icmp (.ge) 37, 3) := by decide +kernel
theorem d10 : decode yB 10 = .ok (.aload_n 0, 1) := by decide +kernel
theorem d11 : decode yB 11 = .ok (.iload_n 1, 1) := by decide +kernel
theorem d12 : decode yB 12 = .ok (.caload, 1) := by decide +kernel
theorem d13 : decode yB 13 = .ok (.istore 6, 2) := by decide +kernel
theorem d15 : decode yB 15 = .ok (.iload 6, 2) := by decide +kernel
theorem d17 : decode yB 17 = .ok (.sipush 255, 3) := by decide +kernel
theorem d20 : decode yB 20 = .ok (.if_icmp (.le) 6, 3) := by decide +kernel
theorem d26 : decode yB 26 = .ok (.aload_n 2, 1) := by decide +kernel
theorem d27 : decode yB 27 = .ok (.iload_n 3, 1) := by decide +kernel
theorem d28 : decode yB 28 = .ok (.iload 6, 2) := by decide +kernel
theorem d30 : decode yB 30 = .ok (.i2b, 1) := by decide +kernel
theorem d31 : decode yB 31 = .ok (.bastore, 1) := by decide +kernel
theorem d32 : decode yB 32 = .ok (.iinc 1 1, 3) := by decide +kernel
theorem d35 : decode yB 35 = .ok (.iinc 3 1, 3) := by decide +kernel
theorem d38 : decode yB 38 = .ok (.iinc 5 1, 3) := by decide +kernel
theorem d41 : decode yB 41 = .ok (.goto (-38), 3) := by decide +kernel
theorem d44 : decode yB 44 = .ok (.iload 4, 2) := by decide +kernel
theorem d46 : decode yB 46 = .ok (.ireturn, 1) := by decide +kernel
def site : List Cond := []
def tab : Cond := tabOf yN yB 7 (some .int) site
def P (b : Addr) (A : Cell) (d : Addr) (B : Cell) (o q len : Nat) (args : Array Value) (s : State) : Prop := args = #[.ref b, .int (Int32.ofNat o), .ref d, .int (Int32.ofNat q), .int (Int32.ofNat len)] ∧ Ch b A s ∧ Arr .byte d B s ∧ b ≠ d ∧ o + len ≤ A.slots.size ∧ q + len ≤ B.slots.size ∧ ∀ i, i < len → ¬ 255 < cv A (o + i)
def E (b : Addr) (A : Cell) (d : Addr) (B : Cell) (o q len : Nat) (r : Option Value) (s u : State) : Prop := r = some (.int (Int32.ofNat len)) ∧ ∃ B', Put d B' s u ∧ Laid B B' q (q + len) (fun j => Value.int (lo8 (cv A (o + (j - q)))))
/-- no char of the range above 255: len; the places written hold each char's low byte -/
theorem law (l : Launch) (b : Addr) (A : Cell) (d : Addr) (B : Cell) (o q len : Nat) : Law l yN 5 5 0 0 yB 7 (some .int) site (P b A d B o q len) (E b A d B o q len) (copyLocs d q len) 0 0 := by
  refine Law.of_walk (plainFor_of_name (by decide +kernel)) (by decide +kernel) (by decide +kernel) (by decide) (fun _ _ h => by rw [h.1]; rfl) (fun _ U U' hal hh h => ⟨h.1, h.2.1.mv hal hh, h.2.2.1.mv hal hh, h.2.2.2⟩) (fun r U U' V V' h1 hal h2 h => ⟨h.1, h.2.elim fun B' q => ⟨B', q.1.mv h1 h2, q.2⟩⟩) ?_
  intro p e s m args below meth c s₁ X0 hexec hbytes hml hret hlk hnm hown hh0 W hP
  obtain ⟨rfl, hA, hB, hne, l1, l2, hp⟩ := hP
  have c1 : Steps p.tables e below (s₁.setTop (entryFrame m #[.ref b, .int (Int32.ofNat o), .ref d, .int (Int32.ofNat q), .int (Int32.ofNat len)] 7)) (s₁.setTop (mkF m 0 #[.val (.ref b), .val (.int (Int32.ofNat o)), .val (.ref d), .val (.int (Int32.ofNat q)), .val (.int (Int32.ofNat len)), .unset, .unset] [])) := entry rfl
  have hA0 := hA.1.mv X0.warmed.alike hh0
  have hB0 := hB.mv X0.warmed.alike hh0
  have a31 := hA.1.2.2.2
  have c2 : Steps p.tables e below (s₁.setTop (entryFrame m #[.ref b, .int (Int32.ofNat o), .ref d, .int (Int32.ofNat q), .int (Int32.ofNat len)] 7)) (s₁.setTop (mkF m 3 #[.val (.ref b), .val (.int (Int32.ofNat o)), .val (.ref d), .val (.int (Int32.ofNat q)), .val (.int (Int32.ofNat len)), .val (.int 0), .unset] [])) := c1.trans (by
    refine iconstV X0.here hexec rfl 0 (hb hbytes d0) (by decide) ?_
    refine XS.istore X0.here hexec rfl (hb hbytes d1) rfl rfl ?_
    exact Steps.refl _)
  have loop : ∀ (r i : Nat), i + r = len → ∀ (z : Slot), (z = .unset ∨ ∃ w, z = .val w ∧ w.category = 1) → ∀ (Tl : State) (Bk : Cell), Stand p l e { frames := 0, locals := 0, cells := 0, slots := 0 } s m #[.ref b, .int (Int32.ofNat o), .ref d, .int (Int32.ofNat q), .int (Int32.ofNat len)] below meth c Tl ([] ++ copyLocs d q i) 0 0 → Put d Bk s₁ Tl → Laid B Bk q (q + i) (fun j => Value.int (lo8 (cv A (o + (j - q))))) →
      Steps p.tables e below (s₁.setTop (entryFrame m #[.ref b, .int (Int32.ofNat o), .ref d, .int (Int32.ofNat q), .int (Int32.ofNat len)] 7)) (Tl.setTop (mkF m 3 #[.val (.ref b), .val (.int (Int32.ofNat (o + i))), .val (.ref d), .val (.int (Int32.ofNat (q + i))), .val (.int (Int32.ofNat len)), .val (.int (Int32.ofNat i)), z] [])) → ∃ (T' : State) (B' : Cell) (z' : Slot), Stand p l e { frames := 0, locals := 0, cells := 0, slots := 0 } s m #[.ref b, .int (Int32.ofNat o), .ref d, .int (Int32.ofNat q), .int (Int32.ofNat len)] below meth c T' ([] ++ copyLocs d q len) 0 0 ∧ Put d B' s₁ T' ∧ Laid B B' q (q + len) (fun j => Value.int (lo8 (cv A (o + (j - q))))) ∧
      Steps p.tables e below (s₁.setTop (entryFrame m #[.ref b, .int (Int32.ofNat o), .ref d, .int (Int32.ofNat q), .int (Int32.ofNat len)] 7)) (T'.setTop (mkF m 3 #[.val (.ref b), .val (.int (Int32.ofNat (o + len))), .val (.ref d), .val (.int (Int32.ofNat (q + len))), .val (.int (Int32.ofNat len)), .val (.int (Int32.ofNat len)), z'] [])) := by
    intro r
    induction r with
    | zero =>
      intro i hi z hz Tl Bk Xl pl fl cl
      have hil : i = len := by omega
      rw [hil] at Xl fl cl
      exact ⟨Tl, Bk, z, Xl, pl, fl, cl⟩
    | succ r ih =>
      intro i hi z hz Tl Bk Xl pl fl cl
      have all := X0.warmed.alike.symm.trans Xl.warmed.alike
      have hAl := hA0.keep all (pl.other hne hA0.1)
      have hBk := hB0.like all pl.1 fl.1 fl.2.1 fl.2.2.1
      have hlt : q + i < Bk.slots.size := by rw [fl.2.2.1]; omega
      have c3 : Steps p.tables e below (s₁.setTop (entryFrame m #[.ref b, .int (Int32.ofNat o), .ref d, .int (Int32.ofNat q), .int (Int32.ofNat len)] 7)) (Tl.setTop (mkF m 12 #[.val (.ref b), .val (.int (Int32.ofNat (o + i))), .val (.ref d), .val (.int (Int32.ofNat (q + i))), .val (.int (Int32.ofNat len)), .val (.int (Int32.ofNat i)), z] [.int (Int32.ofNat (o + i)), .ref b])) := cl.trans (by
        refine XS.iload Xl.here hexec rfl (hb hbytes d3) rfl ?_
        refine XS.iload Xl.here hexec rfl (hb hbytes d5) rfl ?_
        refine XS.icmpNo Xl.here hexec rfl (hb hbytes d7) rfl (ii_ge_f (lt32 (by omega) (by omega))) ?_
        refine XS.aloadN Xl.here hexec rfl (hb hbytes d10) rfl rfl ?_
        refine XS.iloadN Xl.here hexec rfl (hb hbytes d11) rfl ?_
        exact Steps.refl _)
      have c4 : Steps p.tables e below (s₁.setTop (entryFrame m #[.ref b, .int (Int32.ofNat o), .ref d, .int (Int32.ofNat q), .int (Int32.ofNat len)] 7)) (Tl.setTop (mkF m 13 #[.val (.ref b), .val (.int (Int32.ofNat (o + i))), .val (.ref d), .val (.int (Int32.ofNat (q + i))), .val (.int (Int32.ofNat len)), .val (.int (Int32.ofNat i)), z] [.int (cv A (o + i))])) := c3.trans (by
        refine Xl.aget hexec hAl rfl (hA.get (i := o + i) (by omega)) rfl rfl (hb hbytes d12) ?_
        exact Steps.refl _)
      have c5 : Steps p.tables e below (s₁.setTop (entryFrame m #[.ref b, .int (Int32.ofNat o), .ref d, .int (Int32.ofNat q), .int (Int32.ofNat len)] 7)) (Tl.setTop (mkF m 15 #[.val (.ref b), .val (.int (Int32.ofNat (o + i))), .val (.ref d), .val (.int (Int32.ofNat (q + i))), .val (.int (Int32.ofNat len)), .val (.int (Int32.ofNat i)), .val (.int (cv A (o + i)))] [])) := c4.trans (by
        refine XS.istoreS Xl.here hexec rfl (hb hbytes d13) rfl rfl hz ?_
        exact Steps.refl _)
      have c6 : Steps p.tables e below (s₁.setTop (entryFrame m #[.ref b, .int (Int32.ofNat o), .ref d, .int (Int32.ofNat q), .int (Int32.ofNat len)] 7)) (Tl.setTop (mkF m 31 #[.val (.ref b), .val (.int (Int32.ofNat (o + i))), .val (.ref d), .val (.int (Int32.ofNat (q + i))), .val (.int (Int32.ofNat len)), .val (.int (Int32.ofNat i)), .val (.int (cv A (o + i)))] [.int (lo8 (cv A (o + i))), .int (Int32.ofNat (q + i)), .ref d])) := c5.trans (by
        refine XS.iload Xl.here hexec rfl (hb hbytes d15) rfl ?_
        refine sipushV Xl.here hexec rfl 255 (hb hbytes d17) (by decide) ?_
        refine XS.icmpYes Xl.here hexec rfl (pc0 := 20) rfl (hb hbytes d20) rfl (ii_le_t (hp i (by omega))) (by decide) rfl ?_
        refine XS.aloadN Xl.here hexec rfl (hb hbytes d26) rfl rfl ?_
        refine XS.iloadN Xl.here hexec rfl (hb hbytes d27) rfl ?_
        refine XS.iload Xl.here hexec rfl (hb hbytes d28) rfl ?_
        refine i2b Xl.here hexec rfl (hb hbytes d30) rfl ?_
        exact Steps.refl _)
      obtain ⟨T7, X7, p7, st7⟩ := Xl.aput hexec hBk rfl hlt rfl (fits_lo8 (cv A (o + i))) (g := (mkF m 31 #[.val (.ref b), .val (.int (Int32.ofNat (o + i))), .val (.ref d), .val (.int (Int32.ofNat (q + i))), .val (.int (Int32.ofNat len)), .val (.int (Int32.ofNat i)), .val (.int (cv A (o + i)))] [.int (lo8 (cv A (o + i))), .int (Int32.ofNat (q + i)), .ref d])) rfl (rest := []) rfl (hb hbytes d31)
      have c8 : Steps p.tables e below (s₁.setTop (entryFrame m #[.ref b, .int (Int32.ofNat o), .ref d, .int (Int32.ofNat q), .int (Int32.ofNat len)] 7)) (T7.setTop (mkF m 32 #[.val (.ref b), .val (.int (Int32.ofNat (o + i))), .val (.ref d), .val (.int (Int32.ofNat (q + i))), .val (.int (Int32.ofNat len)), .val (.int (Int32.ofNat i)), .val (.int (cv A (o + i)))] [])) := c6.trans (st7 _ (Steps.refl _))
      have c9 : Steps p.tables e below (s₁.setTop (entryFrame m #[.ref b, .int (Int32.ofNat o), .ref d, .int (Int32.ofNat q), .int (Int32.ofNat len)] 7)) (T7.setTop (mkF m 3 #[.val (.ref b), .val (.int (Int32.ofNat (o + i) + 1)), .val (.ref d), .val (.int (Int32.ofNat (q + i) + 1)), .val (.int (Int32.ofNat len)), .val (.int (Int32.ofNat i + 1)), .val (.int (cv A (o + i)))] [])) := c8.trans (by
        refine iincV X7.here hexec rfl 1 (hb hbytes d32) (by decide) rfl rfl ?_
        refine iincV X7.here hexec rfl 1 (hb hbytes d35) (by decide) rfl rfl ?_
        refine iincV X7.here hexec rfl 1 (hb hbytes d38) (by decide) rfl rfl ?_
        refine XS.goto X7.here hexec rfl (pc0 := 41) rfl (hb hbytes d41) (by decide) rfl ?_
        exact Steps.refl _)
      have c10 : Steps p.tables e below (s₁.setTop (entryFrame m #[.ref b, .int (Int32.ofNat o), .ref d, .int (Int32.ofNat q), .int (Int32.ofNat len)] 7)) (T7.setTop (mkF m 3 #[.val (.ref b), .val (.int (Int32.ofNat (o + (i + 1)))), .val (.ref d), .val (.int (Int32.ofNat (q + (i + 1)))), .val (.int (Int32.ofNat len)), .val (.int (Int32.ofNat (i + 1))), .val (.int (cv A (o + i)))] [])) := by
        have := c9
        rw [succ32, succ32, succ32] at this
        exact this
      exact ih (i + 1) (by omega) _ (Or.inr ⟨_, rfl, rfl⟩) T7 _ (by rw [copyLocs_step, ← List.append_assoc]; exact X7) (pl.trans p7) (fl.step (by omega) hlt (by simp)) c10
  obtain ⟨T9, B9, z9, X9, p9, f9, g9⟩ := loop len 0 (by omega) .unset (Or.inl rfl) s₁ B (by simpa [copyLocs] using X0) ⟨hB0.1, fun _ _ => rfl, rfl⟩ (Laid.zero _ _ _) c2
  have c11 : Steps p.tables e below (s₁.setTop (entryFrame m #[.ref b, .int (Int32.ofNat o), .ref d, .int (Int32.ofNat q), .int (Int32.ofNat len)] 7)) (T9.setTop (mkF m 46 #[.val (.ref b), .val (.int (Int32.ofNat (o + len))), .val (.ref d), .val (.int (Int32.ofNat (q + len))), .val (.int (Int32.ofNat len)), .val (.int (Int32.ofNat len)), z9] [.int (Int32.ofNat len)])) := g9.trans (by
    refine XS.iload X9.here hexec rfl (hb hbytes d3) rfl ?_
    refine XS.iload X9.here hexec rfl (hb hbytes d5) rfl ?_
    refine XS.icmpYes X9.here hexec rfl (pc0 := 7) rfl (hb hbytes d7) rfl (ii_ge_t (nlt32 (by omega) (Nat.le_refl _))) (by decide) rfl ?_
    refine XS.iload X9.here hexec rfl (hb hbytes d44) rfl ?_
    exact Steps.refl _)
  exact ⟨T9, some (.int (Int32.ofNat len)), _, _, _, X9, by simp, rfl, rfl, (fun h => by cases h), ⟨rfl, B9, p9.from hh0, f9⟩, fun fs hl => c11.trans (X9.ireturnOut hexec hret rfl (Or.inl rfl) (hb hbytes d46) hl)⟩
end Cmp5
namespace Cmp3
def yN : MethodName := ⟨"java/lang/StringUTF16", "compress", "([CII)[B"⟩
abbrev yB : ByteArray := jdk_52_method_16_code
theorem d0 : decode yB 0 = .ok (.iload_n 2, 1) := by decide +kernel
theorem d1 : decode yB 1 = .ok (.newarray .byte, 2) := by decide +kernel
theorem d3 : decode yB 3 = .ok (.astore_n 3, 1) := by decide +kernel
theorem d4 : decode yB 4 = .ok (.aload_n 0, 1) := by decide +kernel
theorem d5 : decode yB 5 = .ok (.iload_n 1, 1) := by decide +kernel
theorem d6 : decode yB 6 = .ok (.aload_n 3, 1) := by decide +kernel
theorem d7 : decode yB 7 = .ok (.iconst 0, 1) := by decide +kernel
theorem d8 : decode yB 8 = .ok (.iload_n 2, 1) := by decide +kernel
theorem d9 : decode yB 9 = .ok (.invokestatic 115, 3) := by decide +kernel
theorem d12 : decode yB 12 = .ok (.istore 4, 2) := by decide +kernel
theorem d14 : decode yB 14 = .ok (.iload 4, 2) := by decide +kernel
theorem d16 : decode yB 16 = .ok (.iload_n 2, 1) := by decide +kernel
theorem d17 : decode yB 17 = .ok (.if_icmp (.eq) 40, 3) := by decide +kernel
theorem d57 : decode yB 57 = .ok (.aload_n 3, 1) := by decide +kernel
theorem d58 : decode yB 58 = .ok (.areturn, 1) := by decide +kernel
def site : List Cond := [.arrayClass .byte, Cmp5.tab] ++ staticW U16 115 Cmp5.yN
def tab : Cond := tabOf yN yB 6 (some (.array .byte)) site
def P (b : Addr) (A : Cell) (o len : Nat) (args : Array Value) (s : State) : Prop := args = #[.ref b, .int (Int32.ofNat o), .int (Int32.ofNat len)] ∧ Ch b A s ∧ o + len ≤ A.slots.size ∧ len ≤ 536870912 ∧ ∀ i, i < len → ¬ 255 < cv A (o + i)
def E (b : Addr) (A : Cell) (o len : Nat) (r : Option Value) (s u : State) : Prop := NewArr .byte "[B" len (fun j => .int (lo8 (cv A (o + j)))) r s u ∧ u.heap.size = s.heap.size + 1
/-- no char of the range above 255: a new byte[] of their low bytes -/
theorem law (l : Launch) (b : Addr) (A : Cell) (o len : Nat) : Law l yN 3 3 1 18 yB 6 (some (.array .byte)) site (P b A o len) (E b A o len) [] 1 len := by
  refine Law.of_walk (plainFor_of_name (by decide +kernel)) (by decide +kernel) (by decide +kernel) (by decide) (fun _ _ h => by rw [h.1]; rfl) (fun _ U U' hal hh h => ⟨h.1, h.2.1.mv hal hh, h.2.2⟩) (fun r U U' V V' h1 hal h2 h => ⟨NewArr.mv r U U' V V' h1 hal h2 h.1, by rw [h1, h2]; exact h.2⟩) ?_
  intro p e s m args below meth c s₁ X0 hexec hbytes hml hret hlk hnm hown hh0 W hP
  obtain ⟨rfl, hA, l1, l2, hp⟩ := hP
  have a31 := hA.1.2.2.2
  have c1 : Steps p.tables e below (s₁.setTop (entryFrame m #[.ref b, .int (Int32.ofNat o), .int (Int32.ofNat len)] 6)) (s₁.setTop (mkF m 0 #[.val (.ref b), .val (.int (Int32.ofNat o)), .val (.int (Int32.ofNat len)), .unset, .unset, .unset] [])) := entry rfl
  have c2 : Steps p.tables e below (s₁.setTop (entryFrame m #[.ref b, .int (Int32.ofNat o), .int (Int32.ofNat len)] 6)) (s₁.setTop (mkF m 1 #[.val (.ref b), .val (.int (Int32.ofNat o)), .val (.int (Int32.ofNat len)), .unset, .unset, .unset] [.int (Int32.ofNat len)])) := c1.trans (by
    refine XS.iloadN X0.here hexec rfl (hb hbytes d0) rfl ?_
    exact Steps.refl _)
  obtain ⟨T3, B3, X3, ba3, bs3, bv3, bh3, bf3, st3⟩ := X0.anew hexec (atype := .byte) (wk W (.arrayClass .byte)) rfl (by show len * 1 ≤ _; omega) (by omega) (g := (mkF m 1 #[.val (.ref b), .val (.int (Int32.ofNat o)), .val (.int (Int32.ofNat len)), .unset, .unset, .unset] [.int (Int32.ofNat len)])) rfl (hb hbytes d1) (rest := []) rfl (Nat.le_refl _) (by show 0 + len ≤ len; omega)
  rw [hh0] at ba3 st3
  have kp3 : XT.Kept s T3 := (XT.Kept.of_eq hh0).push bh3
  have hA3 := hA.keep X3.warmed.alike (kp3 _ _ hA.1.1)
  have hne : b ≠ s.heap.size := hA.1.ne
  have c4 : Steps p.tables e below (s₁.setTop (entryFrame m #[.ref b, .int (Int32.ofNat o), .int (Int32.ofNat len)] 6)) (T3.setTop (mkF m 3 #[.val (.ref b), .val (.int (Int32.ofNat o)), .val (.int (Int32.ofNat len)), .unset, .unset, .unset] [.ref s.heap.size])) := c2.trans (st3 _ (Steps.refl _))
  have c5 : Steps p.tables e below (s₁.setTop (entryFrame m #[.ref b, .int (Int32.ofNat o), .int (Int32.ofNat len)] 6)) (T3.setTop (mkF m 9 #[.val (.ref b), .val (.int (Int32.ofNat o)), .val (.int (Int32.ofNat len)), .val (.ref s.heap.size), .unset, .unset] [.int (Int32.ofNat len), .int 0, .ref s.heap.size, .int (Int32.ofNat o), .ref b])) := c4.trans (by
    refine XS.astoreN X3.here hexec rfl (hb hbytes d3) rfl rfl rfl ?_
    refine XS.aloadN X3.here hexec rfl (hb hbytes d4) rfl rfl ?_
    refine XS.iloadN X3.here hexec rfl (hb hbytes d5) rfl ?_
    refine XS.aloadN X3.here hexec rfl (hb hbytes d6) rfl rfl ?_
    refine iconstV X3.here hexec rfl 0 (hb hbytes d7) (by decide) ?_
    refine XS.iloadN X3.here hexec rfl (hb hbytes d8) rfl ?_
    exact Steps.refl _)
  obtain ⟨v6, T6, X6, E6, g6⟩ := X3.callS hexec (Cmp5.law l b A s.heap.size B3 o 0 len) hown (wks W (staticW U16 115 Cmp5.yN)) (wk W Cmp5.tab) (W := 0) (Nat.le_of_ble_eq_true rfl) (Nat.le_of_ble_eq_true rfl) (Nat.le_refl _) (by show 0 + len + 0 ≤ len; omega) (g := (mkF m 9 #[.val (.ref b), .val (.int (Int32.ofNat o)), .val (.int (Int32.ofNat len)), .val (.ref s.heap.size), .unset, .unset] [.int (Int32.ofNat len), .int (Int32.ofNat 0), .ref s.heap.size, .int (Int32.ofNat o), .ref b])) rfl (by rw [hml]; rfl) c5 (argsL := [.ref b, .int (Int32.ofNat o), .ref s.heap.size, .int (Int32.ofNat 0), .int (Int32.ofNat len)]) (rest := []) rfl rfl (by show 2 * 0 + 0 ≤ _; decide) (hb hbytes d9) (⟨rfl, hA3, ba3, hne, l1, by rw [bs3]; simp, hp⟩)
  obtain ⟨rfl, B6, p6, f6⟩ := E6
  have c7 : Steps p.tables e below (s₁.setTop (entryFrame m #[.ref b, .int (Int32.ofNat o), .int (Int32.ofNat len)] 6)) (T6.setTop (mkF m 12 #[.val (.ref b), .val (.int (Int32.ofNat o)), .val (.int (Int32.ofNat len)), .val (.ref s.heap.size), .unset, .unset] [.int (Int32.ofNat len)])) := g6
  have c8 : Steps p.tables e below (s₁.setTop (entryFrame m #[.ref b, .int (Int32.ofNat o), .int (Int32.ofNat len)] 6)) (T6.setTop (mkF m 58 #[.val (.ref b), .val (.int (Int32.ofNat o)), .val (.int (Int32.ofNat len)), .val (.ref s.heap.size), .val (.int (Int32.ofNat len)), .unset] [.ref s.heap.size])) := c7.trans (by
    refine XS.istore X6.here hexec rfl (hb hbytes d12) rfl rfl ?_
    refine XS.iload X6.here hexec rfl (hb hbytes d14) rfl ?_
    refine XS.iloadN X6.here hexec rfl (hb hbytes d16) rfl ?_
    refine XS.icmpYes X6.here hexec rfl (pc0 := 17) rfl (hb hbytes d17) rfl (ii_eq_t rfl) (by decide) rfl ?_
    refine XS.aloadN X6.here hexec rfl (hb hbytes d57) rfl rfl ?_
    exact Steps.refl _)
  have X8 := X6.wide (L' := []) (cells' := 1) (slots' := len) (fun x hx hlt => by
    simp only [List.nil_append, copyLocs, List.mem_map, List.mem_range] at hx
    obtain ⟨i, -, rfl⟩ := hx
    exact absurd hlt (Nat.lt_irrefl _)) (Nat.le_refl _) (by omega)
  exact ⟨T6, some (.ref s.heap.size), _, _, _, X8, rfl, rfl, rfl, (fun h => by cases h), ⟨⟨rfl, B6, ba3.like (X3.warmed.alike.symm.trans X6.warmed.alike) p6.1 f6.1 f6.2.1 f6.2.2.1, f6.2.1.trans bv3, by rw [X6.warmed.alike.findClass, f6.1]; exact bf3, by rw [f6.2.2.1, bs3]; simp, fun j hj => by rw [f6.2.2.2 j, if_pos (by omega)]; rfl, kp3.put p6 (Nat.le_refl _)⟩, by rw [p6.2.2, bh3, hh0]; simp⟩, fun fs hl => c8.trans (X8.areturnOut hexec rfl hret rfl (hb hbytes d58) hl)⟩
end Cmp3
namespace CodL
def yN : MethodName := ⟨"java/lang/StringUTF16", "coderFromArrayLen", "([BI)B"⟩
abbrev yB : ByteArray := jdk_52_method_15_code
theorem d0 : decode yB 0 = .ok (.iload_n 1, 1) := by decide +kernel
theorem d1 : decode yB 1 = .ok (.aload_n 0, 1) := by decide +kernel
theorem d2 : decode yB 2 = .ok (.arraylength, 1) := by decide +kernel
theorem d3 : decode yB 3 = .ok (.isub, 1) := by decide +kernel
theorem d4 : decode yB 4 = .ok (.bipush 31, 2) := by decide +kernel
theorem d6 : decode yB 6 = .ok (.iushr, 1) := by decide +kernel
theorem d7 : decode yB 7 = .ok (.i2b, 1) := by decide +kernel
theorem d8 : decode yB 8 = .ok (.ireturn, 1) := by decide +kernel
def site : List Cond := []
def tab : Cond := tabOf yN yB 2 (some .byte) site
def P (d : Addr) (B : Cell) (args : Array Value) (s : State) : Prop := args = #[.ref d, .int (Int32.ofNat B.slots.size)] ∧ Arr .byte d B s
def E (r : Option Value) (s u : State) : Prop := XT.PureE (some (.int 0)) r s u
/-- an array as long as the number of chars: LATIN1 -/
theorem law (l : Launch) (d : Addr) (B : Cell) : Law l yN 2 2 0 0 yB 2 (some .byte) site (P d B) E [] 0 0 := by
  refine Law.of_walk (plainFor_of_name (by decide +kernel)) (by decide +kernel) (by decide +kernel) (by decide) (fun _ _ h => by rw [h.1]; rfl) (fun _ U U' hal hh h => ⟨h.1, h.2.mv hal hh⟩) (fun r U U' V V' h1 hal h2 h => XT.PureE.mv r U U' V V' h1 hal h2 h) ?_
  intro p e s m args below meth c s₁ X0 hexec hbytes hml hret hlk hnm hown hh0 W hP
  obtain ⟨rfl, hB⟩ := hP
  have hB0 := hB.mv X0.warmed.alike hh0
  have c1 : Steps p.tables e below (s₁.setTop (entryFrame m #[.ref d, .int (Int32.ofNat B.slots.size)] 2)) (s₁.setTop (mkF m 0 #[.val (.ref d), .val (.int (Int32.ofNat B.slots.size))] [])) := entry rfl
  have c2 : Steps p.tables e below (s₁.setTop (entryFrame m #[.ref d, .int (Int32.ofNat B.slots.size)] 2)) (s₁.setTop (mkF m 2 #[.val (.ref d), .val (.int (Int32.ofNat B.slots.size))] [.ref d, .int (Int32.ofNat B.slots.size)])) := c1.trans (by
    refine XS.iloadN X0.here hexec rfl (hb hbytes d0) rfl ?_
    refine XS.aloadN X0.here hexec rfl (hb hbytes d1) rfl rfl ?_
    exact Steps.refl _)
  have c3 : Steps p.tables e below (s₁.setTop (entryFrame m #[.ref d, .int (Int32.ofNat B.slots.size)] 2)) (s₁.setTop (mkF m 8 #[.val (.ref d), .val (.int (Int32.ofNat B.slots.size))] [.int (lo8 (ushr (Int32.ofNat B.slots.size - Int32.ofNat B.slots.size) 31))])) := c2.trans (by
    refine X0.alen hexec hB0 rfl rfl (hb hbytes d2) ?_
    refine XS.isub X0.here hexec rfl (hb hbytes d3) rfl ?_
    refine bipushV X0.here hexec rfl 31 (hb hbytes d4) (by decide) ?_
    refine iushr X0.here hexec rfl (hb hbytes d6) rfl ?_
    refine i2b X0.here hexec rfl (hb hbytes d7) rfl ?_
    exact Steps.refl _)
  have e0 : lo8 (ushr (Int32.ofNat B.slots.size - Int32.ofNat B.slots.size) 31) = 0 := by rw [Int32.sub_self]; decide
  rw [e0] at c3
  exact ⟨s₁, some (.int 0), _, _, _, X0, rfl, rfl, rfl, (fun h => by cases h), ⟨rfl, hh0⟩, fun fs hl => c3.trans (X0.ireturnOut hexec hret rfl (Or.inr (Or.inr (Or.inl rfl))) (hb hbytes d8) hl)⟩
end CodL
/-- the String at a is Latin-1 over a new byte[] (the heap's one new cell): the low bytes of the len chars of A from o on; every cell but a is kept -/
def Got (a : Addr) (D : Cell) (fV fC : Field) (A : Cell) (o len : Nat) (r : Option Value) (s u : State) : Prop := r = none ∧ ∃ D' V : Cell, Blank "java/lang/String" a D' u ∧ Same D D' [fV.slot, fC.slot] ∧ D'.slots[fV.slot]? = some (.ref s.heap.size) ∧ D'.slots[fC.slot]? = some (.int 0) ∧ Arr .byte s.heap.size V u ∧ V.vm = .none ∧ u.vm.findClass "[B" = some V.cls ∧ V.slots.size = len ∧ (∀ j, j < len → V.slots[j]? = some (.int (lo8 (cv A (o + j))))) ∧ (∀ (y : Addr) (c : Cell), y ≠ a → s.heap[y]? = some c → u.heap[y]? = some c) ∧ u.heap.size = s.heap.size + 1
theorem Got.mv {a : Addr} {D A : Cell} {fV fC : Field} {o len : Nat} : ∀ r (U U' V V' : State), U'.heap = U.heap → V.vm.Alike V'.vm → V'.heap = V.heap → Got a D fV fC A o len r U V → Got a D fV fC A o len r U' V' :=
  fun r U U' V V' h1 hal h2 ⟨e0, D', X, a1, a2, a3, a4, a5, a6, a7, a8, a9, a10, a11⟩ => ⟨e0, D', X, a1.mv hal h2, a2, by rw [h1]; exact a3, a4, by rw [h1]; exact a5.mv hal h2, a6, by rw [hal.findClass]; exact a7, a8, a9, by rw [h1, h2]; exact a10, by rw [h1, h2]; exact a11⟩
namespace New4
def yN : MethodName := ⟨"java/lang/String", "<init>", "([CIILjava/lang/Void;)V"⟩
abbrev yB : ByteArray := jdk_42_method_149_code
theorem d0 : decode yB 0 = .ok (.aload_n 0, 1) := by decide +kernel
theorem d1 : decode yB 1 = .ok (.invokespecial 1, 3) := by decide +kernel
theorem d4 : decode yB 4 = .ok (.iload_n 3, 1) := by decide +kernel
theorem d5 : decode yB 5 = .ok (.ifCond (.ne) 22, 3) := by decide +kernel
theorem d27 : decode yB 27 = .ok (.getstatic 38, 3) := by decide +kernel
theorem d30 : decode yB 30 = .ok (.ifCond (.eq) 28, 3) := by decide +kernel
theorem d33 : decode yB 33 = .ok (.aload_n 1, 1) := by decide +kernel
theorem d34 : decode yB 34 = .ok (.iload_n 2, 1) := by decide +kernel
theorem d35 : decode yB 35 = .ok (.iload_n 3, 1) := by decide +kernel
theorem d36 : decode yB 36 = .ok (.invokestatic 177, 3) := by decide +kernel
theorem d39 : decode yB 39 = .ok (.astore 5, 2) := by decide +kernel
theorem d41 : decode yB 41 = .ok (.aload_n 0, 1) := by decide +kernel
theorem d42 : decode yB 42 = .ok (.aload 5, 2) := by decide +kernel
theorem d44 : decode yB 44 = .ok (.iload_n 3, 1) := by decide +kernel
theorem d45 : decode yB 45 = .ok (.invokestatic 47, 3) := by decide +kernel
theorem d48 : decode yB 48 = .ok (.putfield 15, 3) := by decide +kernel
theorem d51 : decode yB 51 = .ok (.aload_n 0, 1) := by decide +kernel
theorem d52 : decode yB 52 = .ok (.aload 5, 2) := by decide +kernel
theorem d54 : decode yB 54 = .ok (.putfield 9, 3) := by decide +kernel
theorem d57 : decode yB 57 = .ok (.return_, 1) := by decide +kernel
def site : List Cond := [.fieldLink "java/lang/String" 38 "java/lang/String" "COMPACT_STRINGS" "Z", Cmp3.tab, CodL.tab, .laysFinal "java/lang/String" "java/lang/String" "value" "[B", .fieldLink "java/lang/String" 9 "java/lang/String" "value" "[B", .laysFinal "java/lang/String" "java/lang/String" "coder" "B", .fieldLink "java/lang/String" 15 "java/lang/String" "coder" "B"] ++ objW "java/lang/String" 1 ++ staticW "java/lang/String" 177 Cmp3.yN ++ staticW "java/lang/String" 47 CodL.yN
def tab : Cond := tabOf yN yB 6 none site
def P (a : Addr) (D : Cell) (fV fC : Field) (b : Addr) (A : Cell) (z : Int32) (o len : Nat) (args : Array Value) (s : State) : Prop := args = #[.ref a, .ref b, .int (Int32.ofNat o), .int (Int32.ofNat len), .null] ∧ Blank "java/lang/String" a D s ∧ Found "java/lang/String" "value" "[B" fV s ∧ Found "java/lang/String" "coder" "B" fC s ∧ Ch b A s ∧ StaticIs s "java/lang/String" "COMPACT_STRINGS" "Z" (.int z) ∧ ¬ z = 0 ∧ 0 < len ∧ o + len ≤ A.slots.size ∧ len ≤ 536870912 ∧ ∀ i, i < len → ¬ 255 < cv A (o + i)
def E (a : Addr) (D : Cell) (fV fC : Field) (A : Cell) (o len : Nat) (r : Option Value) (s u : State) : Prop := Got a D fV fC A o len r s u
/-- len > 0, no char of the range above 255: a Latin-1 String of their low bytes -/
theorem law (l : Launch) (a : Addr) (D : Cell) (fV fC : Field) (b : Addr) (A : Cell) (z : Int32) (o len : Nat) : Law l yN 5 4 2 35 yB 6 none site (P a D fV fC b A z o len) (E a D fV fC A o len) [⟨a, fC.slot⟩, ⟨a, fV.slot⟩] 1 len := by
  refine Law.of_walk (plainFor_of_name (by decide +kernel)) (by decide +kernel) (by decide +kernel) (by decide) (fun _ _ h => by rw [h.1]; rfl) (fun _ U U' hal hh h => ⟨h.1, h.2.1.mv hal hh, h.2.2.1.al hal, h.2.2.2.1.al hal, h.2.2.2.2.1.mv hal hh, h.2.2.2.2.2.1.there hal hh, h.2.2.2.2.2.2⟩) (fun r U U' V V' h1 hal h2 h => Got.mv r U U' V V' h1 hal h2 h) ?_
  intro p e s m args below meth c s₁ X0 hexec hbytes hml hret hlk hnm hown hh0 W hP
  obtain ⟨rfl, hB, f1, f2, hA, s1, hz, l0, l1, l2, hp⟩ := hP
  have a31 := hA.1.2.2.2
  have c1 : Steps p.tables e below (s₁.setTop (entryFrame m #[.ref a, .ref b, .int (Int32.ofNat o), .int (Int32.ofNat len), .null] 6)) (s₁.setTop (mkF m 0 #[.val (.ref a), .val (.ref b), .val (.int (Int32.ofNat o)), .val (.int (Int32.ofNat len)), .val .null, .unset] [])) := entry rfl
  have c2 : Steps p.tables e below (s₁.setTop (entryFrame m #[.ref a, .ref b, .int (Int32.ofNat o), .int (Int32.ofNat len), .null] 6)) (s₁.setTop (mkF m 1 #[.val (.ref a), .val (.ref b), .val (.int (Int32.ofNat o)), .val (.int (Int32.ofNat len)), .val .null, .unset] [.ref a])) := c1.trans (by
    refine XS.aloadN X0.here hexec rfl (hb hbytes d0) rfl rfl ?_
    exact Steps.refl _)
  obtain ⟨T3, X3, q3, st3⟩ := X0.oinit hexec hown (wks W (objW "java/lang/String" 1)) (g := (mkF m 1 #[.val (.ref a), .val (.ref b), .val (.int (Int32.ofNat o)), .val (.int (Int32.ofNat len)), .val .null, .unset] [.ref a])) rfl (by rw [hml]; rfl) (rest := []) rfl (hb hbytes d1) (W := 0) (by show 2 * 0 + 0 ≤ _; decide) (Nat.le_of_ble_eq_true rfl) (Nat.le_of_ble_eq_true rfl)
  have hh3 := q3.trans hh0
  have c4 : Steps p.tables e below (s₁.setTop (entryFrame m #[.ref a, .ref b, .int (Int32.ofNat o), .int (Int32.ofNat len), .null] 6)) (T3.setTop (mkF m 27 #[.val (.ref a), .val (.ref b), .val (.int (Int32.ofNat o)), .val (.int (Int32.ofNat len)), .val .null, .unset] [])) := (c2.trans (st3 _ (Steps.refl _))).trans (by
    refine XS.iloadN X3.here hexec rfl (hb hbytes d4) rfl ?_
    refine XS.ifYes X3.here hexec rfl (pc0 := 5) rfl (hb hbytes d5) rfl (i0_ne_t (nz32 (by omega) l0)) (by decide) rfl ?_
    exact Steps.refl _)
  obtain ⟨T5, X5, q5, st5⟩ := X3.sget hexec hown (wk W (.fieldLink "java/lang/String" 38 "java/lang/String" "COMPACT_STRINGS" "Z")) s1 (fun _ _ h => by rw [hh3]; exact h) (g := (mkF m 27 #[.val (.ref a), .val (.ref b), .val (.int (Int32.ofNat o)), .val (.int (Int32.ofNat len)), .val .null, .unset] [])) rfl (hb hbytes d27)
  have hh5 := q5.trans hh3
  have c6 : Steps p.tables e below (s₁.setTop (entryFrame m #[.ref a, .ref b, .int (Int32.ofNat o), .int (Int32.ofNat len), .null] 6)) (T5.setTop (mkF m 30 #[.val (.ref a), .val (.ref b), .val (.int (Int32.ofNat o)), .val (.int (Int32.ofNat len)), .val .null, .unset] [.int z])) := c4.trans (st5 _ (Steps.refl _))
  have c7 : Steps p.tables e below (s₁.setTop (entryFrame m #[.ref a, .ref b, .int (Int32.ofNat o), .int (Int32.ofNat len), .null] 6)) (T5.setTop (mkF m 36 #[.val (.ref a), .val (.ref b), .val (.int (Int32.ofNat o)), .val (.int (Int32.ofNat len)), .val .null, .unset] [.int (Int32.ofNat len), .int (Int32.ofNat o), .ref b])) := c6.trans (by
    refine XS.ifNo X5.here hexec rfl (hb hbytes d30) rfl (i0_eq_f hz) ?_
    refine XS.aloadN X5.here hexec rfl (hb hbytes d33) rfl rfl ?_
    refine XS.iloadN X5.here hexec rfl (hb hbytes d34) rfl ?_
    refine XS.iloadN X5.here hexec rfl (hb hbytes d35) rfl ?_
    exact Steps.refl _)
  obtain ⟨v8, T8, X8, E8, g8⟩ := X5.callS hexec (Cmp3.law l b A o len) hown (wks W (staticW "java/lang/String" 177 Cmp3.yN)) (wk W Cmp3.tab) (W := 0) (Nat.le_of_ble_eq_true rfl) (Nat.le_of_ble_eq_true rfl) (Nat.le_refl _) (by show 0 + len ≤ len; omega) (g := (mkF m 36 #[.val (.ref a), .val (.ref b), .val (.int (Int32.ofNat o)), .val (.int (Int32.ofNat len)), .val .null, .unset] [.int (Int32.ofNat len), .int (Int32.ofNat o), .ref b])) rfl (by rw [hml]; rfl) c7 (argsL := [.ref b, .int (Int32.ofNat o), .int (Int32.ofNat len)]) (rest := []) rfl rfl (by show 2 * 0 + 0 ≤ _; decide) (hb hbytes d36) (⟨rfl, hA.mv X5.warmed.alike hh5, l1, l2, hp⟩)
  obtain ⟨e8, z8⟩ := E8
  obtain ⟨rfl, N, n1, n2, n3, n4, n5, n6⟩ := NewArr.mv _ T5 s _ _ hh5.symm (Vm.Alike.refl _) rfl e8
  rw [hh5] at z8
  have hB1 := hB.keep X8.warmed.alike (n6 _ _ hB.1)
  have hne : s.heap.size ≠ a := (Nat.ne_of_lt (Array.getElem?_eq_some_iff.mp hB.1).1).symm
  have c9 : Steps p.tables e below (s₁.setTop (entryFrame m #[.ref a, .ref b, .int (Int32.ofNat o), .int (Int32.ofNat len), .null] 6)) (T8.setTop (mkF m 39 #[.val (.ref a), .val (.ref b), .val (.int (Int32.ofNat o)), .val (.int (Int32.ofNat len)), .val .null, .unset] [.ref s.heap.size])) := g8
  have c10 : Steps p.tables e below (s₁.setTop (entryFrame m #[.ref a, .ref b, .int (Int32.ofNat o), .int (Int32.ofNat len), .null] 6)) (T8.setTop (mkF m 45 #[.val (.ref a), .val (.ref b), .val (.int (Int32.ofNat o)), .val (.int (Int32.ofNat len)), .val .null, .val (.ref s.heap.size)] [.int (Int32.ofNat N.slots.size), .ref s.heap.size, .ref a])) := by
    have hc : Steps p.tables e below (s₁.setTop (entryFrame m #[.ref a, .ref b, .int (Int32.ofNat o), .int (Int32.ofNat len), .null] 6)) (T8.setTop (mkF m 45 #[.val (.ref a), .val (.ref b), .val (.int (Int32.ofNat o)), .val (.int (Int32.ofNat len)), .val .null, .val (.ref s.heap.size)] [.int (Int32.ofNat len), .ref s.heap.size, .ref a])) := c9.trans (by
      refine XS.astore X8.here hexec rfl (hb hbytes d39) rfl rfl rfl ?_
      refine XS.aloadN X8.here hexec rfl (hb hbytes d41) rfl rfl ?_
      refine XS.aload X8.here hexec rfl (hb hbytes d42) rfl rfl ?_
      refine XS.iloadN X8.here hexec rfl (hb hbytes d44) rfl ?_
      exact Steps.refl _)
    rw [n4]; exact hc
  obtain ⟨v11, T11, X11, E11, g11⟩ := X8.callS hexec (CodL.law l s.heap.size N) hown (wks W (staticW "java/lang/String" 47 CodL.yN)) (wk W CodL.tab) (W := 1) (Nat.le_of_ble_eq_true rfl) (Nat.le_of_ble_eq_true rfl) (Nat.le_refl _) (by show 0 + len + 0 ≤ len; omega) (g := (mkF m 45 #[.val (.ref a), .val (.ref b), .val (.int (Int32.ofNat o)), .val (.int (Int32.ofNat len)), .val .null, .val (.ref s.heap.size)] [.int (Int32.ofNat N.slots.size), .ref s.heap.size, .ref a])) rfl (by rw [hml]; rfl) c10 (argsL := [.ref s.heap.size, .int (Int32.ofNat N.slots.size)]) (rest := [.ref a]) rfl rfl (by show 2 * 0 + (1 + 0) ≤ _; decide) (hb hbytes d45) (⟨rfl, n1⟩)
  obtain ⟨rfl, q11⟩ := E11
  have hB11 := hB1.mv (X8.warmed.alike.symm.trans X11.warmed.alike) q11
  have c12 : Steps p.tables e below (s₁.setTop (entryFrame m #[.ref a, .ref b, .int (Int32.ofNat o), .int (Int32.ofNat len), .null] 6)) (T11.setTop (mkF m 48 #[.val (.ref a), .val (.ref b), .val (.int (Int32.ofNat o)), .val (.int (Int32.ofNat len)), .val .null, .val (.ref s.heap.size)] [.int 0, .ref a])) := g11
  obtain ⟨T13, X13, p13, bl13, sl13, st13⟩ := X11.finit hexec hown (wk W (.fieldLink "java/lang/String" 15 "java/lang/String" "coder" "B")) (Or.inr ⟨_, (wk W (.laysFinal "java/lang/String" "java/lang/String" "coder" "B"))⟩) (Or.inl ⟨rfl, hnm⟩) f2 (Or.inl rfl) hB11 (t := .byte) (by decide +kernel) rfl (g := (mkF m 48 #[.val (.ref a), .val (.ref b), .val (.int (Int32.ofNat o)), .val (.int (Int32.ofNat len)), .val .null, .val (.ref s.heap.size)] [.int 0, .ref a])) rfl (rest := []) rfl (hb hbytes d48)
  have c14 : Steps p.tables e below (s₁.setTop (entryFrame m #[.ref a, .ref b, .int (Int32.ofNat o), .int (Int32.ofNat len), .null] 6)) (T13.setTop (mkF m 54 #[.val (.ref a), .val (.ref b), .val (.int (Int32.ofNat o)), .val (.int (Int32.ofNat len)), .val .null, .val (.ref s.heap.size)] [.ref s.heap.size, .ref a])) := (c12.trans (st13 _ (Steps.refl _))).trans (by
    refine XS.aloadN X13.here hexec rfl (hb hbytes d51) rfl rfl ?_
    refine XS.aload X13.here hexec rfl (hb hbytes d52) rfl rfl ?_
    exact Steps.refl _)
  obtain ⟨T15, X15, p15, bl15, sl15, st15⟩ := X13.finit hexec hown (wk W (.fieldLink "java/lang/String" 9 "java/lang/String" "value" "[B")) (Or.inr ⟨_, (wk W (.laysFinal "java/lang/String" "java/lang/String" "value" "[B"))⟩) (Or.inl ⟨rfl, hnm⟩) f1 (Or.inl rfl) bl13 (t := (.array .byte)) (by decide +kernel) rfl (g := (mkF m 54 #[.val (.ref a), .val (.ref b), .val (.int (Int32.ofNat o)), .val (.int (Int32.ofNat len)), .val .null, .val (.ref s.heap.size)] [.ref s.heap.size, .ref a])) rfl (rest := []) rfl (hb hbytes d54)
  have c16 : Steps p.tables e below (s₁.setTop (entryFrame m #[.ref a, .ref b, .int (Int32.ofNat o), .int (Int32.ofNat len), .null] 6)) (T15.setTop (mkF m 57 #[.val (.ref a), .val (.ref b), .val (.int (Int32.ofNat o)), .val (.int (Int32.ofNat len)), .val .null, .val (.ref s.heap.size)] [])) := c14.trans (st15 _ (Steps.refl _))
  have ap := apart (Or.inr ⟨_, (wk W (.laysFinal "java/lang/String" "java/lang/String" "value" "[B"))⟩) (Or.inr ⟨_, (wk W (.laysFinal "java/lang/String" "java/lang/String" "coder" "B"))⟩) f1 f2 (t₁ := .array .byte) (t₂ := .byte) (by decide +kernel) (by decide +kernel) (by decide)
  have al := X8.warmed.alike.symm.trans X15.warmed.alike
  have n7 : T11.heap[s.heap.size]? = some N := by rw [q11]; exact n1.1
  exact ⟨T15, none, _, _, _, X15, by simp, rfl, by omega, (fun _ => rfl), ⟨rfl, _, N, bl15, ((Same.refl D _).set _ (by simp)).set _ (by simp), sl15, (Cell.slots_setSlot_ne _ ap).trans sl13, n1.keep al (p15.other hne (p13.other hne n7)), n2, by rw [al.findClass]; exact n3, n4, n5, fun y c h1 h2 => p15.other h1 (p13.other h1 (by rw [q11]; exact n6 y c h2)), by rw [p15.2.2, p13.2.2, q11]; exact z8⟩, fun fs hl => c16.trans (X15.returnOut hexec hret (hb hbytes d57) hl)⟩
end New4
namespace New1
def yN : MethodName := ⟨"java/lang/String", "<init>", "([C)V"⟩
abbrev yB : ByteArray := jdk_42_method_3_code
theorem d0 : decode yB 0 = .ok (.aload_n 0, 1) := by decide +kernel
theorem d1 : decode yB 1 = .ok (.aload_n 1, 1) := by decide +kernel
theorem d2 : decode yB 2 = .ok (.iconst 0, 1) := by decide +kernel
theorem d3 : decode yB 3 = .ok (.aload_n 1, 1) := by decide +kernel
theorem d4 : decode yB 4 = .ok (.arraylength, 1) := by decide +kernel
theorem d5 : decode yB 5 = .ok (.aconst_null, 1) := by decide +kernel
theorem d6 : decode yB 6 = .ok (.invokespecial 27, 3) := by decide +kernel
theorem d9 : decode yB 9 = .ok (.return_, 1) := by decide +kernel
def site : List Cond := [New4.tab] ++ initW "java/lang/String" 27 New4.yN
def tab : Cond := tabOf yN yB 2 none site
def P (a : Addr) (D : Cell) (fV fC : Field) (b : Addr) (A : Cell) (z : Int32) (args : Array Value) (s : State) : Prop := args = #[.ref a, .ref b] ∧ Blank "java/lang/String" a D s ∧ Found "java/lang/String" "value" "[B" fV s ∧ Found "java/lang/String" "coder" "B" fC s ∧ Ch b A s ∧ StaticIs s "java/lang/String" "COMPACT_STRINGS" "Z" (.int z) ∧ ¬ z = 0 ∧ 0 < A.slots.size ∧ A.slots.size ≤ 536870912 ∧ ∀ i, i < A.slots.size → ¬ 255 < cv A i
def E (a : Addr) (D : Cell) (fV fC : Field) (A : Cell) (r : Option Value) (s u : State) : Prop := Got a D fV fC A 0 A.slots.size r s u
/-- new String(chars), not empty, no char above 255: a Latin-1 String of their low bytes -/
theorem law (l : Launch) (a : Addr) (D : Cell) (fV fC : Field) (b : Addr) (A : Cell) (z : Int32) : Law l yN 2 1 3 52 yB 2 none site (P a D fV fC b A z) (E a D fV fC A) [⟨a, fC.slot⟩, ⟨a, fV.slot⟩] 1 A.slots.size := by
  refine Law.of_walk (plainFor_of_name (by decide +kernel)) (by decide +kernel) (by decide +kernel) (by decide) (fun _ _ h => by rw [h.1]; rfl) (fun _ U U' hal hh h => ⟨h.1, h.2.1.mv hal hh, h.2.2.1.al hal, h.2.2.2.1.al hal, h.2.2.2.2.1.mv hal hh, h.2.2.2.2.2.1.there hal hh, h.2.2.2.2.2.2⟩) (fun r U U' V V' h1 hal h2 h => Got.mv r U U' V V' h1 hal h2 h) ?_
  intro p e s m args below meth c s₁ X0 hexec hbytes hml hret hlk hnm hown hh0 W hP
  obtain ⟨rfl, hB, f1, f2, hA, s1, hz, l0, l2, hp⟩ := hP
  have c1 : Steps p.tables e below (s₁.setTop (entryFrame m #[.ref a, .ref b] 2)) (s₁.setTop (mkF m 0 #[.val (.ref a), .val (.ref b)] [])) := entry rfl
  have c2 : Steps p.tables e below (s₁.setTop (entryFrame m #[.ref a, .ref b] 2)) (s₁.setTop (mkF m 6 #[.val (.ref a), .val (.ref b)] [.null, .int (Int32.ofNat A.slots.size), .int 0, .ref b, .ref a])) := c1.trans (by
    refine XS.aloadN X0.here hexec rfl (hb hbytes d0) rfl rfl ?_
    refine XS.aloadN X0.here hexec rfl (hb hbytes d1) rfl rfl ?_
    refine iconstV X0.here hexec rfl 0 (hb hbytes d2) (by decide) ?_
    refine XS.aloadN X0.here hexec rfl (hb hbytes d3) rfl rfl ?_
    refine X0.alen hexec (hA.1.mv X0.warmed.alike hh0) rfl rfl (hb hbytes d4) ?_
    refine XS.aconstNull X0.here hexec rfl (hb hbytes d5) ?_
    exact Steps.refl _)
  obtain ⟨v3, T3, X3, E3, g3⟩ := X0.callN hexec (New4.law l a D fV fC b A z 0 A.slots.size) rfl hown (wks W (initW "java/lang/String" 27 New4.yN)) (W New4.tab (by simp only [site, List.mem_cons, List.mem_append, true_or, or_true])) (W := 0) (Nat.le_of_ble_eq_true rfl) (Nat.le_of_ble_eq_true rfl) (Nat.le_refl _) (by show 0 + A.slots.size ≤ A.slots.size; omega) (g := (mkF m 6 #[.val (.ref a), .val (.ref b)] [.null, .int (Int32.ofNat A.slots.size), .int (Int32.ofNat 0), .ref b, .ref a])) rfl (by rw [hml]; rfl) c2 (argsL := [.ref b, .int (Int32.ofNat 0), .int (Int32.ofNat A.slots.size), .null]) (rest := []) rfl rfl (by show 2 * 0 + 0 ≤ _; decide) (hb hbytes d6) (⟨rfl, hB.mv X0.warmed.alike hh0, f1.al X0.warmed.alike, f2.al X0.warmed.alike, hA.mv X0.warmed.alike hh0, s1.there X0.warmed.alike hh0, hz, l0, by omega, l2, fun i hi => by rw [Nat.zero_add]; exact hp i hi⟩)
  have e0 := Got.mv _ s₁ s _ _ hh0.symm (Vm.Alike.refl _) rfl E3
  obtain rfl := e0.1
  have c4 : Steps p.tables e below (s₁.setTop (entryFrame m #[.ref a, .ref b] 2)) (T3.setTop (mkF m 9 #[.val (.ref a), .val (.ref b)] [])) := g3
  exact ⟨T3, none, _, _, _, X3, by simp, rfl, by omega, (fun _ => rfl), e0, fun fs hl => c4.trans (X3.returnOut hexec hret (hb hbytes d9) hl)⟩
theorem pays {l : Launch} {R : Room} {p : Program} {e : Env} {below : List Frame} {s : State} {sargs : Array Value} {len W : Nat} (a : Addr) (D : Cell) (fV fC : Field) (b : Addr) (A : Cell) (z : Int32) (htab : tab.before sargs s = true) (hfr : 4 ≤ R.frames) (hlo : W + 65 ≤ R.locals) :
    Back l R p e below s sargs yN len W (fun A₁ a₁ => A₁.cells + 1 ≤ R.cells ∧ A₁.slots + A.slots.size ≤ R.slots ∧ P a D fV fC b A z a₁ A₁.U) (fun A₁ _ v₁ B₁ => E a D fV fC A v₁ A₁.U B₁.U ∧ B₁.locs = A₁.locs ++ [⟨a, fC.slot⟩, ⟨a, fV.slot⟩] ∧ B₁.cells = A₁.cells + 1 ∧ B₁.slots = A₁.slots + A.slots.size) :=
  (law l a D fV fC b A z).pays htab hfr (by omega)
end New1
/-- the byte, read back as charAt reads it, is the char -/
theorem lo8_mask {x : Int32} (h0 : ¬ x < 0) (h1 : ¬ 255 < x) : lo8 x &&& 255 = x := by
  have t : ∀ k : Fin 256, lo8 (Int32.ofNat k.val) &&& 255 = Int32.ofNat k.val := by decide +kernel
  rw [Int32.lt_iff_toInt_lt] at h0 h1
  have e0 : (0 : Int32).toInt = 0 := rfl
  have e1 : (255 : Int32).toInt = 255 := rfl
  obtain ⟨k, hk⟩ : ∃ k : Nat, x.toInt = k := ⟨x.toInt.toNat, by omega⟩
  have hx : x = Int32.ofNat k := Int32.toInt_inj.mp (by rw [hk, Int32.toInt_ofNat_small (by omega)])
  rw [hx]
  exact t ⟨k, by omega⟩
end StrChars
namespace StrChars.Road
open Jvm Sem ClassFile Op Lib Jvm.Stand Jvm.Free Jvm.Free.XT
open Jvm.Lib.Cold (StaticIs)
abbrev ST : String := "java/lang/String"
/-- every table word that New1's law asks, flat -/
abbrev words : List Jvm.Cond := [.code New1.yN New1.yB 2 none, .initialized ST, .methodLink ST 27 New4.yN, .instanceMethod New4.yN,
  .code New4.yN New4.yB 6 none, .fieldLink ST 38 ST "COMPACT_STRINGS" "Z", .laysFinal ST ST "value" "[B", .fieldLink ST 9 ST "value" "[B", .laysFinal ST ST "coder" "B", .fieldLink ST 15 ST "coder" "B",
  .methodLink ST 1 Lib.objectInit, .instanceMethod Lib.objectInit, .code Lib.objectInit ⟨#[0xb1]⟩ 1 none, .methodLink ST 177 Cmp3.yN, .static Cmp3.yN, .methodLink ST 47 CodL.yN, .static CodL.yN,
  .code Cmp3.yN Cmp3.yB 6 (some (.array .byte)), .initialized U16, .arrayClass .byte, .methodLink U16 115 Cmp5.yN, .static Cmp5.yN, .code Cmp5.yN Cmp5.yB 7 (some .int), .code CodL.yN CodL.yB 2 (some .byte)]
theorem tab_of {a : Array Value} {s : State} (h : ∀ w ∈ words, w.before a s = true) : New1.tab.before a s = true := by
  have h5 : Cmp5.tab.before a s = true := unparts (wk h (.code Cmp5.yN Cmp5.yB 7 (some .int))) (wks h (.initialized Cmp5.yN.cls :: Cmp5.site))
  have hc : CodL.tab.before a s = true := unparts (wk h (.code CodL.yN CodL.yB 2 (some .byte))) (wks h (.initialized CodL.yN.cls :: CodL.site))
  have q5 : ∀ w ∈ Cmp5.tab :: words, w.before a s = true := fun w hw => (List.mem_cons.mp hw).elim (fun e => e ▸ h5) (h w)
  have h3 : Cmp3.tab.before a s = true := unparts (wk q5 (.code Cmp3.yN Cmp3.yB 6 (some (.array .byte)))) (wks q5 (.initialized Cmp3.yN.cls :: Cmp3.site))
  have q3 : ∀ w ∈ Cmp3.tab :: CodL.tab :: words, w.before a s = true := fun w hw => (List.mem_cons.mp hw).elim (fun e => e ▸ h3) fun hw => (List.mem_cons.mp hw).elim (fun e => e ▸ hc) (h w)
  have h4 : New4.tab.before a s = true := unparts (wk q3 (.code New4.yN New4.yB 6 none)) (wks q3 (.initialized New4.yN.cls :: New4.site))
  have q4 : ∀ w ∈ New4.tab :: words, w.before a s = true := fun w hw => (List.mem_cons.mp hw).elim (fun e => e ▸ h4) (h w)
  exact unparts (wk q4 (.code New1.yN New1.yB 2 none)) (wks q4 (.initialized New1.yN.cls :: New1.site))
/-- the words ride from the start Z to the walk's own state -/
theorem moved {Z s : State} {a0 args : Array Value} (hZ : Z.Warmed39 s.vm) (hw : ∀ d ∈ words, d.before a0 Z = true) : ∀ d ∈ words, d.before args s = true := fun d hd => by
  have q := hw d hd
  have t : ∀ d ∈ words, d = .arrayClass .byte ∨ (d.onTables && d.keepsFace) = true := by decide +kernel
  rcases t d hd with rfl | t
  · exact RoadKit.mvA hZ q
  · exact RoadKit.mv hZ q t
/-- WHAT COMES BACK, over the tables of the start Z: h the heap at the call, h' behind it -/
def Q (Z : State) (x : Addr) (A : Cell) (h : Heap) (v : Option Value) (h' : Heap) (L : List Loc) : Prop := v = none ∧ (∀ y ∈ L, y.base = x) ∧ RoadKit.Keep h h' [x] ∧ h'.size = h.size + 1 ∧ RoadKit.Exa Z h' x ST ∧ RoadKit.Fld Z h' x ST "value" "[B" (.ref h.size) ∧ RoadKit.Fld Z h' x ST "coder" "B" (.int 0) ∧
  (∃ V : Cell, RoadKit.Arr Z h' h.size V .byte ∧ V.vm = .none ∧ Z.vm.findClass "[B" = some V.cls ∧ V.slots.size = A.slots.size ∧ ∀ j, j < A.slots.size → V.slots[j]? = some (.int (lo8 (cv A j)))) ∧
  ∀ (O n d : String) (w : Value), RoadKit.Fld Z h x O n d w → RoadKit.slotOf Z O n d ≠ RoadKit.slotOf Z ST "value" "[B" → RoadKit.slotOf Z O n d ≠ RoadKit.slotOf Z ST "coder" "B" → RoadKit.Fld Z h' x O n d w
/-- **new String(chars) AT A CALL, IN THE ROAD'S FORM**: for specialBack behind newO: x the fresh String, b the char[] with the cell A -/
theorem back {p : Program} {l : Launch} {e : Env} {R : Room} {s : State} {args : Array Value} {below : List Frame} {len W : Nat} {Z : State} {a0 : Array Value} {h : Heap} (hZ : Z.Warmed39 s.vm) (hw : ∀ d ∈ words, d.before a0 Z = true) {kI : Nat} (wi : (Jvm.Cond.instantiable ST kI).before a0 Z = true)
    {x b : Addr} {A : Cell} {z : Int32} {v0 c0 : Value} (E : RoadKit.Exa Z h x ST) (V : RoadKit.Fld Z h x ST "value" "[B" v0) (C : RoadKit.Fld Z h x ST "coder" "B" c0) (K : RoadKit.Arr Z h b A .char) (hty : Typed .char A) (S : RoadKit.Sta Z h ST "COMPACT_STRINGS" "Z" (.int z)) (hz : ¬ z = 0)
    (l0 : 0 < A.slots.size) (l2 : A.slots.size ≤ 536870912) (hp : ∀ i, i < A.slots.size → ¬ 255 < cv A i) (hfr : 4 ≤ R.frames) (hlo : W + 65 ≤ R.locals) :
    Back l R p e below s args New1.yN len W (fun P a => a = #[.ref x, .ref b] ∧ P.U.heap = h ∧ P.cells + 1 ≤ R.cells ∧ P.slots + A.slots.size ≤ R.slots)
      (fun P _ v B => ∃ L, Q Z x A h v B.U.heap L ∧ B.locs = P.locs ++ L ∧ B.cells = P.cells + 1 ∧ B.slots = P.slots + A.slots.size) := by
  intro m meth c P g ig mk a X hg hsize hdg hW hn hp'
  obtain ⟨rfl, rfl, r1, r2⟩ := hp'
  have al : Z.vm.Alike P.U.vm := hZ.alike.trans X.warmed.alike
  obtain ⟨D, cfV, kV, iV, fV, hD, gV, stV, knV, obV, asV, slV⟩ := id V
  obtain ⟨D', cfC, kC, iC, fC, hD', gC, stC, -, -, asC, slC⟩ := id C
  cases hD.symm.trans hD'
  obtain ⟨D2, kD, e1, e2, e3, e4, e5⟩ := id E
  cases hD.symm.trans e1
  obtain ⟨c2, k2, i1, i2, i3, -⟩ := Cond.instantiable_spec wi
  cases e2.symm.trans i1
  cases e3.symm.trans i2
  obtain ⟨kU, u1, u2⟩ := al.2.2 _ _ e3
  have hB : Blank ST x D P.U := ⟨hD, ⟨knV, fun q hq => by rw [hq] at obV; cases obV⟩, by rw [al.findClass]; exact e2, kU, u1, by rw [u2]; exact i3, by rw [u2]; exact e5 i3⟩
  have F1 : Found ST "value" "[B" fV P.U := ⟨SBG.found_only al ⟨cfV, kV, iV, gV⟩, stV⟩
  have F2 : Found ST "coder" "B" fC P.U := ⟨SBG.found_only al ⟨cfC, kC, iC, gC⟩, stC⟩
  have hA : Ch b A P.U := ⟨⟨K.1, State.isArrayOf_alike al K.2.1, K.2.2, by omega⟩, hty⟩
  have hS : StaticIs P.U ST "COMPACT_STRINGS" "Z" (.int z) := by
    obtain ⟨cfS, iS, kS, fS, st, cS, t1, t2, t3, t4, t5, t6, t7⟩ := S
    exact StaticIs.there (s := { Z with heap := P.U.heap }) ⟨cfS, iS, kS, fS, st, cS, t1, t2, t3, t4, t5, (fun q => by rw [q] at t6; cases t6), t7⟩ al rfl
  obtain ⟨v, B, X', ⟨⟨hv, E', V', q1, q2, q3, q4, q5, q6, q7, q8, q9, q10, q11⟩, hl, hc, hs⟩, st⟩ := New1.pays x D fV fC b A z (tab_of (moved hZ hw)) hfr hlo m meth c P g ig mk _ X hg hsize hdg hW hn ⟨r1, r2, rfl, hB, F1, F2, hA, hS, hz, l0, l2, hp⟩
  have al' : Z.vm.Alike B.U.vm := hZ.alike.trans X'.warmed.alike
  have hsz : E'.slots.size = D.slots.size := by
    obtain ⟨-, -, -, kB, w1, w2, w3⟩ := q1
    obtain ⟨kB', y1, y2⟩ := al'.2.2 _ _ e3
    rw [q2.2.1] at w1
    cases w1.symm.trans y1
    rw [w3, e5 i3, y2]
  refine ⟨v, B, X', ⟨_, ⟨hv, ?_, ⟨by omega, fun y cy hy hn' => q10 y cy (by simpa using hn') hy, fun y cy hy => ?_⟩, q11, ⟨E', _, q1.1, by rw [q2.2.1]; exact e2, by rw [q2.2.1]; exact e3, by rw [q2.1]; exact obV, fun _ => by rw [hsz]; exact e5 i3⟩,
    ⟨E', cfV, kV, iV, fV, q1.1, gV, stV, by rw [q2.1]; exact knV, by rw [q2.1]; exact obV, by rw [q2.2.1]; exact asV, q3⟩, ⟨E', cfC, kC, iC, fC, q1.1, gC, stC, by rw [q2.1]; exact knV, by rw [q2.1]; exact obV, by rw [q2.2.1]; exact asC, q4⟩,
    ⟨V', ⟨q5.1, State.isArrayOf_alike al'.symm q5.2.1, q5.2.2.1⟩, q6, by rw [← al'.findClass]; exact q7, q8, fun j hj => by have := q9 j hj; rwa [Nat.zero_add] at this⟩, fun O n d w F n1 n2 => ?_⟩, hl, hc, hs⟩, st⟩
  · intro y hy
    simp only [List.mem_cons, List.not_mem_nil, or_false] at hy
    rcases hy with rfl | rfl <;> rfl
  · by_cases q : y = x
    · subst q
      cases hD.symm.trans hy
      exact ⟨E', q1.1, q2.2.1, q2.1, hsz⟩
    · exact ⟨cy, q10 y cy q hy, rfl, rfl, rfl⟩
  · obtain ⟨D3, cf, k, i, f, g1, g2, g3, g4, g5, g6, g7⟩ := F
    cases hD.symm.trans g1
    simp only [RoadKit.slotOf, g2, gV, gC, Option.map_some, Option.getD_some] at n1 n2
    exact ⟨E', cf, k, i, f, q1.1, g2, g3, by rw [q2.1]; exact g4, by rw [q2.1]; exact g5, by rw [q2.2.1]; exact g6, by rw [q2.2.2 f.slot (by simp [n1, n2])]; exact g7⟩
end StrChars.Road
namespace StrChars.Road
open Jvm Sem ClassFile Op Lib Jvm.Stand Jvm.Free Jvm.Free.XT
/-- WHAT COMES BACK, the byte[] as a list of values -/
def QA (Z : State) (x : Addr) (zn : Int32) (cs : List Int32) (h : Heap) (v : Option Value) (h' : Heap) (L : List Loc) : Prop := v = none ∧ (∀ y ∈ L, y.base = x) ∧ RoadKit.Keep h h' [x] ∧ h'.size = h.size + 1 ∧ RoadKit.Exa Z h' x ST ∧ RoadKit.Fld Z h' x ST "value" "[B" (.ref h.size) ∧ RoadKit.Fld Z h' x ST "coder" "B" (.int 0) ∧
  (∃ kb, Z.vm.findClass "[B" = some kb ∧ RoadKit.Arv Z h' h.size kb .byte zn (cs.map fun c => .int (lo8 c)) (.int 0)) ∧
  ∀ (O n d : String) (w : Value), RoadKit.Fld Z h x O n d w → RoadKit.slotOf Z O n d ≠ RoadKit.slotOf Z ST "value" "[B" → RoadKit.slotOf Z O n d ≠ RoadKit.slotOf Z ST "coder" "B" → RoadKit.Fld Z h' x O n d w
/-- **new String(chars) AT A CALL, THE ARRAYS AS LISTS**: the char[] at b holds cs, not empty, no char above 255 -/
theorem backArv {p : Program} {l : Launch} {e : Env} {R : Room} {s : State} {args : Array Value} {below : List Frame} {len W : Nat} {Z : State} {a0 : Array Value} {h : Heap} (hZ : Z.Warmed39 s.vm) (hw : ∀ d ∈ words, d.before a0 Z = true) {kI : Nat} (wi : (Jvm.Cond.instantiable ST kI).before a0 Z = true)
    {x b : Addr} {k : ClassId} {zn z : Int32} {cs : List Int32} {dv v0 c0 : Value} (E : RoadKit.Exa Z h x ST) (V : RoadKit.Fld Z h x ST "value" "[B" v0) (C : RoadKit.Fld Z h x ST "coder" "B" c0) (K : RoadKit.Arv Z h b k .char zn (cs.map Value.int) dv) (S : RoadKit.Sta Z h ST "COMPACT_STRINGS" "Z" (.int z)) (hz : ¬ z = 0)
    (hlen : zn.toNatClampNeg = cs.length) (h0 : 0 < cs.length) (hbig : cs.length ≤ 536870912) (hall : ∀ c ∈ cs, ¬ 255 < c) (hfr : 4 ≤ R.frames) (hlo : W + 65 ≤ R.locals) :
    Back l R p e below s args New1.yN len W (fun P a => a = #[.ref x, .ref b] ∧ P.U.heap = h ∧ P.cells + 1 ≤ R.cells ∧ P.slots + cs.length ≤ R.slots)
      (fun P _ v B => ∃ L, QA Z x zn cs h v B.U.heap L ∧ B.locs = P.locs ++ L ∧ B.cells = P.cells + 1 ∧ B.slots = P.slots + cs.length) := by
  obtain ⟨A, K1, K2, K3, K4, K5, K6⟩ := K
  have e : A.slots.size = cs.length := K3.trans hlen
  have hat : ∀ (i : Nat) (hi : i < cs.length), A.slots[i]? = some (.int cs[i]) := fun i hi => by rw [K5 i (by omega)]; simp [List.getD_eq_getElem?_getD, hi]
  have hcv : ∀ (i : Nat) (hi : i < cs.length), cv A i = cs[i] := fun i hi => by unfold cv; rw [hat i hi]
  have hty : Typed .char A := fun i v hv => by
    have hi : i < A.slots.size := (Array.getElem?_eq_some_iff.mp hv).1
    have q := K5 i hi
    rw [hv] at q
    rw [Option.some.inj q]
    exact K6 i hi
  refine Back.mono (back hZ hw wi E V C K1 hty S hz (by omega) (by omega) (fun i hi => by rw [hcv i (by omega)]; exact hall _ (List.getElem_mem _)) hfr hlo) (fun P a hp => ⟨hp.1, hp.2.1, hp.2.2.1, by rw [e]; exact hp.2.2.2⟩) (fun P a v B hp hq => ?_)
  obtain ⟨L, ⟨q1, q2, q3, q4, q5, q6, q7, ⟨V', v1, v2, v3, v4, v5⟩, q9⟩, hl, hc, hs⟩ := hq
  refine ⟨L, ⟨q1, q2, q3, q4, q5, q6, q7, ⟨V'.cls, v3, V', v1, rfl, by rw [v4, e, hlen], K4, fun i hi => ?_, fun i hi => ?_⟩, q9⟩, hl, hc, by rw [hs, e]⟩
  · have hi' : i < cs.length := by omega
    rw [v5 i (by omega), hcv i hi']; simp [List.getD_eq_getElem?_getD, hi']
  · have hi' : i < cs.length := by omega
    simp only [List.getD_eq_getElem?_getD, List.getElem?_map, List.getElem?_eq_getElem hi', Option.map_some, Option.getD_some]
    exact fits_lo8 _
end StrChars.Road
namespace StrChars.Road
open Jvm Sem ClassFile Op Lib Jvm.Stand Jvm.Free Jvm.Free.XT
/-- WHAT COMES BACK, in the writer's own shape -/
def QV (Z : State) (x : Addr) (N : Int32) (bs : List Int32) (h : Heap) (n0 : Nat) (v : Option Value) (h' : Heap) (L : List Loc) : Prop := v = none ∧ RoadKit.Fr n0 L ∧ RoadKit.Keep h h' [x] ∧ RoadKit.Exa Z h' x ST ∧ RoadKit.Fld Z h' x ST "coder" "B" (.int 0) ∧
  ∃ (t : Addr) (kb : ClassId), n0 ≤ t ∧ h.size ≤ t ∧ ¬ t = x ∧ RoadKit.Fld Z h' x ST "value" "[B" (.ref t) ∧ RoadKit.Arv Z h' t kb .byte N (bs.map Value.int) (.int 0)
/-- **new String(chars) AT A CALL, FOR THE WRITER**: a char[] of n known ints, each 0 to 255 -/
theorem backV {p : Program} {l : Launch} {e : Env} {R : Room} {s : State} {args : Array Value} {below : List Frame} {len W : Nat} {Z : State} {a0 : Array Value} {h : Heap} (hZ : Z.Warmed39 s.vm) (hw : ∀ d ∈ words, d.before a0 Z = true) {kI : Nat} (wi : (Jvm.Cond.instantiable ST kI).before a0 Z = true)
    {x b : Addr} {kC : ClassId} {cs bs : List Int32} {d v0 c0 : Value} {z N : Int32} {n n0 : Nat} (hx0 : n0 ≤ x) (hh0 : n0 ≤ h.size) (E : RoadKit.Exa Z h x ST) (V : RoadKit.Fld Z h x ST "value" "[B" v0) (C : RoadKit.Fld Z h x ST "coder" "B" c0) (K : RoadKit.Arv Z h b kC .char N (cs.map Value.int) d) (S : RoadKit.Sta Z h ST "COMPACT_STRINGS" "Z" (.int z)) (hz : ¬ z = 0)
    (hn : cs.length = n) (hN : N = Int32.ofNat n) (l0 : 0 < n) (l2 : n ≤ 4000) (hp : ∀ c ∈ cs, ¬ c < 0 ∧ ¬ (255 : Int32) < c) (hb : bs = cs.map (fun c => c.toInt8.toInt32)) (hfr : 4 ≤ R.frames) (hlo : W + 65 ≤ R.locals) :
    Back l R p e below s args (⟨"java/lang/String", "<init>", "([C)V"⟩ : MethodName) len W (fun P a => a = #[.ref x, .ref b] ∧ P.U.heap = h ∧ P.cells + 1 ≤ R.cells ∧ P.slots + n ≤ R.slots)
      (fun P _ v B => ∃ L, QV Z x N bs h n0 v B.U.heap L ∧ B.locs = P.locs ++ L ∧ B.cells = P.cells + 1 ∧ B.slots = P.slots + n) := by
  subst hn hN hb
  refine Back.mono (backArv hZ hw wi E V C K S hz (n32 (by omega)) l0 (by omega) (fun c hc => (hp c hc).2) hfr hlo) (fun P a hp => hp) (fun P a v B hp hq => ?_)
  obtain ⟨L, ⟨q1, q2, q3, q4, q5, q6, q7, ⟨kb, v1, v2⟩, q9⟩, hl, hc, hs⟩ := hq
  exact ⟨L, ⟨q1, fun y hy => by rw [q2 y hy]; exact hx0, q3, q5, q7, h.size, kb, hh0, Nat.le_refl _, Nat.ne_of_gt E.lt, q6, by rw [List.map_map]; exact v2⟩, hl, hc, hs⟩
end StrChars.Road
namespace StrChars
open Jvm Sem ClassFile Op Lib Jvm.Stand Jvm.Free.XT Jvm.Free.ALB Jvm.Free.JM Jvm.Free
open Jvm.Lib.Cold (StaticIs)
def hi8 (x : Int32) : Int32 := lo8 (x >>> ((8 : Int32) &&& 31))
/-- what StringUTF16.getChar makes of two bytes -/
def pairCh (u v : Int32) : Int32 := (((u &&& 255) <<< ((0 : Int32) &&& 31)) ||| ((v &&& 255) <<< ((8 : Int32) &&& 31))).toUInt32.toUInt16.toUInt32.toInt32
theorem shr0 (c : Int32) : c >>> ((0 : Int32) &&& 31) = c := by
  have e : ((0 : Int32) &&& 31) = 0 := by decide
  rw [e]
  apply Int32.toBitVec_inj.mp
  rw [Int32.toBitVec_shiftRight]
  have e1 : ((0 : Int32).toBitVec.smod 32) = 0#32 := by decide
  rw [e1, BitVec.sshiftRight_eq']
  exact BitVec.sshiftRight_zero
theorem lo8_and (x : Int32) : (lo8 x &&& 255).toBitVec.toNat = x.toBitVec.toNat % 256 := by
  have h : (lo8 x).toBitVec = (x.toBitVec.signExtend 8).signExtend 32 := by rw [lo8, Int8.toBitVec_toInt32, Int32.toBitVec_toInt8]
  rw [Int32.toBitVec_and, BitVec.toNat_and, h]
  have e : ((x.toBitVec.signExtend 8).signExtend 32).toNat % 256 = x.toBitVec.toNat % 256 := by
    rw [BitVec.toNat_signExtend]
    have hlt := x.toBitVec.isLt
    simp only [BitVec.toNat_setWidth, BitVec.toNat_signExtend]
    split <;> split <;> omega
  rw [← e]
  exact Nat.and_two_pow_sub_one_eq_mod _ 8
theorem pair_says {c : Int32} (h0 : ¬ c < 0) (h1 : ¬ 65535 < c) : pairCh (lo8 c) (hi8 c) = c := by
  rw [Int32.lt_iff_toInt_lt] at h0 h1
  have e0 : (0 : Int32).toInt = 0 := rfl
  have e1 : (65535 : Int32).toInt = 65535 := rfl
  have hc : c.toInt = c.toBitVec.toNat := by
    have := c.toBitVec.isLt
    have e : c.toInt = c.toBitVec.toInt := rfl
    rw [e] at h0 h1
    rw [e]
    rw [BitVec.toInt_eq_toNat_cond] at h0 h1 ⊢
    split at h0 <;> split <;> omega
  have hn : c.toBitVec.toNat < 65536 := by omega
  have a1 := lo8_and c
  have a2 : (hi8 c &&& 255).toBitVec.toNat = c.toBitVec.toNat / 256 := by
    rw [hi8, lo8_and]
    have e : ((8 : Int32) &&& 31) = 8 := by decide
    rw [e, Int32.toBitVec_shiftRight]
    have e2 : ((8 : Int32).toBitVec.smod 32) = 8#32 := by decide
    rw [e2, BitVec.sshiftRight_eq', BitVec.toNat_sshiftRight_of_msb_false (by rw [BitVec.msb_eq_false_iff_two_mul_lt]; omega)]
    show c.toBitVec.toNat >>> 8 % 256 = _
    rw [Nat.shiftRight_eq_div_pow]
    omega
  unfold pairCh
  apply Int32.toBitVec_inj.mp
  apply BitVec.eq_of_toNat_eq
  have f0 : ((0 : Int32) &&& 31) = 0 := by decide
  have f8 : ((8 : Int32) &&& 31) = 8 := by decide
  rw [f0, f8]
  have g : (((lo8 c &&& 255) <<< (0 : Int32)) ||| ((hi8 c &&& 255) <<< (8 : Int32))).toBitVec.toNat = c.toBitVec.toNat := by
    rw [Int32.toBitVec_or, Int32.toBitVec_shiftLeft, Int32.toBitVec_shiftLeft]
    have s0 : ((0 : Int32).toBitVec.smod 32) = 0#32 := by decide
    have s8 : ((8 : Int32).toBitVec.smod 32) = 8#32 := by decide
    rw [s0, s8, BitVec.toNat_or]
    simp only [BitVec.shiftLeft_eq', BitVec.toNat_shiftLeft, a1, a2]
    show (c.toBitVec.toNat % 256) <<< 0 % 2 ^ 32 ||| (c.toBitVec.toNat / 256) <<< 8 % 2 ^ 32 = _
    rw [Nat.shiftLeft_zero, Nat.mod_eq_of_lt (show c.toBitVec.toNat % 256 < 2 ^ 32 by omega), Nat.mod_eq_of_lt (show (c.toBitVec.toNat / 256) <<< 8 < 2 ^ 32 by rw [Nat.shiftLeft_eq]; omega), Nat.or_comm, ← Nat.shiftLeft_add_eq_or_of_lt (by omega), Nat.shiftLeft_eq]
    omega
  show BitVec.toNat (((((lo8 c &&& 255) <<< (0 : Int32)) ||| ((hi8 c &&& 255) <<< (8 : Int32))).toBitVec.setWidth 16).setWidth 32) = _
  rw [BitVec.toNat_setWidth, BitVec.toNat_setWidth, g]
  omega
end StrChars
namespace StrChars
open Jvm Sem ClassFile Op Lib Jvm.Stand Jvm.Free.XT Jvm.Free.ALB Jvm.Free.JM Jvm.Free
open Jvm.Lib.Cold (StaticIs)
theorem shr1 {n : Nat} (h : 2 * n < 2 ^ 31) : Int32.ofNat (2 * n) >>> ((1 : Int32) &&& 31) = Int32.ofNat n := by
  have e : ((1 : Int32) &&& 31) = 1 := by decide
  rw [e]
  apply Int32.toBitVec_inj.mp
  rw [Int32.toBitVec_shiftRight]
  have e1 : ((1 : Int32).toBitVec.smod 32) = 1#32 := by decide
  have hm : (BitVec.ofNat 32 (2 * n)).toNat = 2 * n := by rw [BitVec.toNat_ofNat, Nat.mod_eq_of_lt (by omega)]
  rw [e1, BitVec.sshiftRight_eq']
  apply BitVec.eq_of_toNat_eq
  show ((BitVec.ofNat 32 (2 * n)).sshiftRight 1).toNat = (BitVec.ofNat 32 n).toNat
  rw [BitVec.toNat_sshiftRight_of_msb_false (by rw [BitVec.msb_eq_false_iff_two_mul_lt, hm]; omega), hm, BitVec.toNat_ofNat, Nat.shiftRight_eq_div_pow]
  omega
/-- charAt's cast of a byte read back -/
def chr8 (u : Int32) : Int32 := (u &&& 255).toUInt32.toUInt16.toUInt32.toInt32
theorem chr8_lo8 {c : Int32} (h0 : ¬ c < 0) (h1 : ¬ 255 < c) : chr8 (lo8 c) = c := by
  have t : ∀ k : Fin 256, (Int32.ofNat k.val).toUInt32.toUInt16.toUInt32.toInt32 = Int32.ofNat k.val := by decide +kernel
  unfold chr8
  rw [lo8_mask h0 h1]
  rw [Int32.lt_iff_toInt_lt] at h0 h1
  have e0 : (0 : Int32).toInt = 0 := rfl
  have e1 : (255 : Int32).toInt = 255 := rfl
  obtain ⟨k, hk⟩ : ∃ k : Nat, c.toInt = k := ⟨c.toInt.toNat, by omega⟩
  have hx : c = Int32.ofNat k := Int32.toInt_inj.mp (by rw [hk, Int32.toInt_ofNat_small (by omega)])
  rw [hx]
  exact t ⟨k, by omega⟩
theorem narrow_ch {c : Int32} (h0 : ¬ c < 0) (h1 : ¬ 65535 < c) : narrow .char (.int c) = .int c := by
  have q : narrow .char (.int (pairCh (lo8 c) (hi8 c))) = .int (pairCh (lo8 c) (hi8 c)) := narrow_c _
  rwa [pair_says h0 h1] at q
/-- the array's cell V codes the n chars f 0 .. f (n - 1) by the coder cd, as the JDK does: coder 1 just where some char is above 255 -/
def Cod (cd : Int32) (n : Nat) (f : Nat → Int32) (V : Cell) : Prop := (cd = 0 ∧ V.slots.size = n ∧ ∀ j, j < n → V.slots[j]? = some (.int (lo8 (f j))) ∧ ¬ 255 < f j) ∨ (cd = 1 ∧ V.slots.size = 2 * n ∧ (∀ j, j < n → V.slots[2 * j]? = some (.int (lo8 (f j))) ∧ V.slots[2 * j + 1]? = some (.int (hi8 (f j)))) ∧ ∃ j, j < n ∧ 255 < f j)
theorem Cod.cd {cd : Int32} {n : Nat} {f : Nat → Int32} {V : Cell} (h : Cod cd n f V) : cd = 0 ∨ cd = 1 := h.imp (fun q => q.1) fun q => q.1
theorem Cod.len {cd : Int32} {n : Nat} {f : Nat → Int32} {V : Cell} (h : Cod cd n f V) (hs : V.slots.size < 2 ^ 31) : Int32.ofNat V.slots.size >>> (cd &&& 31) = Int32.ofNat n := by
  rcases h with ⟨rfl, h, -⟩ | ⟨rfl, h, -⟩
  · rw [shr0, h]
  · rw [h, shr1 (by omega)]
/-- **x is a String of the n chars f 0 .. f (n - 1)**, Latin-1 or UTF-16; its array at t has the cell V -/
def Txt (x t : Addr) (V : Cell) (cd : Int32) (n : Nat) (f : Nat → Int32) (U : State) : Prop := Exact "java/lang/String" x U ∧ Has x "java/lang/String" "value" "[B" (.ref t) U ∧ Has x "java/lang/String" "coder" "B" (.int cd) U ∧ XT.Arr .byte t V U ∧ Cod cd n f V ∧ ∀ j, j < n → ¬ f j < 0 ∧ ¬ 65535 < f j
theorem Txt.mv {x t : Addr} {V : Cell} {cd : Int32} {n : Nat} {f : Nat → Int32} {U U' : State} (h : Txt x t V cd n f U) (hal : U.vm.Alike U'.vm) (hh : U'.heap = U.heap) : Txt x t V cd n f U' := ⟨h.1.mv hal hh, h.2.1.mv hal hh, h.2.2.1.mv hal hh, h.2.2.2.1.mv hal hh, h.2.2.2.2⟩
namespace Cdr
def yN : MethodName := ⟨"java/lang/String", "coder", "()B"⟩
abbrev yB : ByteArray := jdk_42_method_152_code
theorem d0 : decode yB 0 = .ok (.getstatic 38, 3) := by decide +kernel
theorem d3 : decode yB 3 = .ok (.ifCond (.eq) 10, 3) := by decide +kernel
theorem d6 : decode yB 6 = .ok (.aload_n 0, 1) := by decide +kernel
theorem d7 : decode yB 7 = .ok (.getfield 15, 3) := by decide +kernel
theorem d10 : decode yB 10 = .ok (.goto 4, 3) := by decide +kernel
theorem d14 : decode yB 14 = .ok (.ireturn, 1) := by decide +kernel
def site : List Cond := [.fieldLink "java/lang/String" 38 "java/lang/String" "COMPACT_STRINGS" "Z", .fieldLink "java/lang/String" 15 "java/lang/String" "coder" "B"]
def tab : Cond := tabOf yN yB 1 (some .byte) site
def P (x : Addr) (cd z : Int32) (args : Array Value) (s : State) : Prop := args = #[.ref x] ∧ Has x "java/lang/String" "coder" "B" (.int cd) s ∧ (cd = 0 ∨ cd = 1) ∧ StaticIs s "java/lang/String" "COMPACT_STRINGS" "Z" (.int z) ∧ ¬ z = 0
def E (cd : Int32) (r : Option Value) (s u : State) : Prop := XT.PureE (some (.int cd)) r s u
theorem law (l : Launch) (x : Addr) (cd z : Int32) : Law l yN 1 0 0 0 yB 1 (some .byte) site (P x cd z) (E cd) [] 0 0 := by
  refine Law.of_walk (plainFor_of_name (by decide +kernel)) (by decide +kernel) (by decide +kernel) (by decide) (fun _ _ h => by rw [h.1]; rfl) (fun _ U U' hal hh h => ⟨h.1, h.2.1.mv hal hh, h.2.2.1, h.2.2.2.1.there hal hh, h.2.2.2.2⟩) (fun r U U' V V' h1 hal h2 h => XT.PureE.mv r U U' V V' h1 hal h2 h) ?_
  intro p e s m args below meth c s₁ X0 hexec hbytes hml hret hlk hnm hown hh0 W hP
  obtain ⟨rfl, hx, hc, s1, hz⟩ := hP
  have c1 : Steps p.tables e below (s₁.setTop (entryFrame m #[.ref x] 1)) (s₁.setTop (mkF m 0 #[.val (.ref x)] [])) := entry rfl
  obtain ⟨T2, X2, q2, st2⟩ := X0.sget hexec hown (wk W (.fieldLink "java/lang/String" 38 "java/lang/String" "COMPACT_STRINGS" "Z")) s1 (fun _ _ h => by rw [hh0]; exact h) (g := (mkF m 0 #[.val (.ref x)] [])) rfl (hb hbytes d0)
  have hh2 := q2.trans hh0
  have c3 : Steps p.tables e below (s₁.setTop (entryFrame m #[.ref x] 1)) (T2.setTop (mkF m 7 #[.val (.ref x)] [.ref x])) := (c1.trans (st2 _ (Steps.refl _))).trans (by
    refine XS.ifNo X2.here hexec rfl (hb hbytes d3) rfl (i0_eq_f hz) ?_
    refine XS.aloadN X2.here hexec rfl (hb hbytes d6) rfl rfl ?_
    exact Steps.refl _)
  obtain ⟨T4, X4, q4, st4⟩ := X2.hget hexec hown (wk W (.fieldLink "java/lang/String" 15 "java/lang/String" "coder" "B")) (hx.mv X2.warmed.alike hh2) (g := (mkF m 7 #[.val (.ref x)] [.ref x])) rfl (rest := []) rfl (hb hbytes d7)
  have c5 : Steps p.tables e below (s₁.setTop (entryFrame m #[.ref x] 1)) (T4.setTop (mkF m 14 #[.val (.ref x)] [.int cd])) := (c3.trans (st4 _ (Steps.refl _))).trans (by
    refine XS.goto X4.here hexec rfl (pc0 := 10) rfl (hb hbytes d10) (by decide) rfl ?_
    exact Steps.refl _)
  exact ⟨T4, some (.int cd), _, _, _, X4, rfl, rfl, rfl, (fun h => by cases h), ⟨rfl, q4.trans hh2⟩, fun fs hl => c5.trans (X4.ireturnOut hexec hret (by rcases hc with rfl | rfl <;> rfl) (Or.inr (Or.inr (Or.inl rfl))) (hb hbytes d14) hl)⟩
end Cdr
namespace Len
def yN : MethodName := ⟨"java/lang/String", "length", "()I"⟩
abbrev yB : ByteArray := jdk_42_method_54_code
theorem d0 : decode yB 0 = .ok (.aload_n 0, 1) := by decide +kernel
theorem d1 : decode yB 1 = .ok (.getfield 9, 3) := by decide +kernel
theorem d4 : decode yB 4 = .ok (.arraylength, 1) := by decide +kernel
theorem d5 : decode yB 5 = .ok (.aload_n 0, 1) := by decide +kernel
theorem d6 : decode yB 6 = .ok (.invokevirtual 335, 3) := by decide +kernel
theorem d9 : decode yB 9 = .ok (.ishr, 1) := by decide +kernel
theorem d10 : decode yB 10 = .ok (.ireturn, 1) := by decide +kernel
def site : List Cond := [.fieldLink "java/lang/String" 9 "java/lang/String" "value" "[B", Cdr.tab] ++ virtW "java/lang/String" 335 "java/lang/String" Cdr.yN Cdr.yN
def tab : Cond := tabOf yN yB 1 (some .int) site
def P (x t : Addr) (V : Cell) (cd : Int32) (n : Nat) (f : Nat → Int32) (z : Int32) (args : Array Value) (s : State) : Prop := args = #[.ref x] ∧ Txt x t V cd n f s ∧ StaticIs s "java/lang/String" "COMPACT_STRINGS" "Z" (.int z) ∧ ¬ z = 0
def E (n : Nat) (r : Option Value) (s u : State) : Prop := XT.PureE (some (.int (Int32.ofNat n))) r s u
/-- length() of a String of n chars, in either coding -/
theorem law (l : Launch) (x t : Addr) (V : Cell) (cd : Int32) (n : Nat) (f : Nat → Int32) (z : Int32) : Law l yN 1 0 1 13 yB 1 (some .int) site (P x t V cd n f z) (E n) [] 0 0 := by
  refine Law.of_walk (plainFor_of_name (by decide +kernel)) (by decide +kernel) (by decide +kernel) (by decide) (fun _ _ h => by rw [h.1]; rfl) (fun _ U U' hal hh h => ⟨h.1, h.2.1.mv hal hh, h.2.2.1.there hal hh, h.2.2.2⟩) (fun r U U' V V' h1 hal h2 h => XT.PureE.mv r U U' V V' h1 hal h2 h) ?_
  intro p e s m args below meth c s₁ X0 hexec hbytes hml hret hlk hnm hown hh0 W hP
  obtain ⟨rfl, hx, s1, hz⟩ := hP
  have v31 := hx.2.2.2.1.2.2.2
  have c1 : Steps p.tables e below (s₁.setTop (entryFrame m #[.ref x] 1)) (s₁.setTop (mkF m 1 #[.val (.ref x)] [.ref x])) := Steps.trans (entry rfl) (by
    show Steps p.tables e below (s₁.setTop (mkF m 0 #[.val (.ref x)] [])) _
    refine XS.aloadN X0.here hexec rfl (hb hbytes d0) rfl rfl ?_
    exact Steps.refl _)
  obtain ⟨T2, X2, q2, st2⟩ := X0.hget hexec hown (wk W (.fieldLink "java/lang/String" 9 "java/lang/String" "value" "[B")) (hx.mv X0.warmed.alike hh0).2.1 (g := (mkF m 1 #[.val (.ref x)] [.ref x])) rfl (rest := []) rfl (hb hbytes d1)
  have hh2 := q2.trans hh0
  have hx2 := hx.mv X2.warmed.alike hh2
  have c3 : Steps p.tables e below (s₁.setTop (entryFrame m #[.ref x] 1)) (T2.setTop (mkF m 6 #[.val (.ref x)] [.ref x, .int (Int32.ofNat V.slots.size)])) := (c1.trans (st2 _ (Steps.refl _))).trans (by
    refine X2.alen hexec hx2.2.2.2.1 rfl rfl (hb hbytes d4) ?_
    refine XS.aloadN X2.here hexec rfl (hb hbytes d5) rfl rfl ?_
    exact Steps.refl _)
  obtain ⟨v4, T4, X4, E4, g4⟩ := X2.callV hexec (Cdr.law l x cd z) hown (wks W (virtW "java/lang/String" 335 "java/lang/String" Cdr.yN Cdr.yN)) rfl (by decide) (wk W Cdr.tab) (W := 1) (Nat.le_of_ble_eq_true rfl) (Nat.le_of_ble_eq_true rfl) (Nat.le_refl _) (Nat.le_refl _) (hx2.1.fc X2.warmed.alike) hx2.1.is (g := (mkF m 6 #[.val (.ref x)] [.ref x, .int (Int32.ofNat V.slots.size)])) rfl (by rw [hml]; rfl) c3 (argsL := []) (rest := [.int (Int32.ofNat V.slots.size)]) rfl rfl (by show 2 * 0 + (1 + 0) ≤ _; decide) (hb hbytes d6) (⟨rfl, hx2.2.2.1, hx.2.2.2.2.1.cd, s1.there X2.warmed.alike hh2, hz⟩)
  obtain ⟨rfl, q4⟩ := E4
  have c5 : Steps p.tables e below (s₁.setTop (entryFrame m #[.ref x] 1)) (T4.setTop (mkF m 10 #[.val (.ref x)] [.int (Int32.ofNat V.slots.size >>> (cd &&& 31))])) := Steps.trans g4 (by
    refine ishr X4.here hexec rfl (hb hbytes d9) rfl ?_
    exact Steps.refl _)
  rw [hx.2.2.2.2.1.len v31] at c5
  exact ⟨T4, some (.int (Int32.ofNat n)), _, _, _, X4, rfl, rfl, rfl, (fun h => by cases h), ⟨rfl, q4.trans hh2⟩, fun fs hl => c5.trans (X4.ireturnOut hexec hret rfl (Or.inl rfl) (hb hbytes d10) hl)⟩
theorem pays {l : Launch} {R : Room} {p : Program} {e : Env} {below : List Frame} {s : State} {sargs : Array Value} {len W : Nat} (x t : Addr) (V : Cell) (cd : Int32) (n : Nat) (f : Nat → Int32) (z : Int32) (htab : tab.before sargs s = true) (hfr : 2 ≤ R.frames) (hlo : W + 25 ≤ R.locals) :
    Back l R p e below s sargs yN len W (fun A₁ a₁ => A₁.cells + 0 ≤ R.cells ∧ A₁.slots + 0 ≤ R.slots ∧ P x t V cd n f z a₁ A₁.U) (fun A₁ _ v₁ B₁ => E n v₁ A₁.U B₁.U ∧ B₁.locs = A₁.locs ++ [] ∧ B₁.cells = A₁.cells + 0 ∧ B₁.slots = A₁.slots + 0) :=
  (law l x t V cd n f z).pays htab hfr (by omega)
end Len
namespace IsL
def yN : MethodName := ⟨"java/lang/String", "isLatin1", "()Z"⟩
abbrev yB : ByteArray := jdk_42_method_154_code
theorem d0 : decode yB 0 = .ok (.getstatic 38, 3) := by decide +kernel
theorem d3 : decode yB 3 = .ok (.ifCond (.eq) 14, 3) := by decide +kernel
theorem d6 : decode yB 6 = .ok (.aload_n 0, 1) := by decide +kernel
theorem d7 : decode yB 7 = .ok (.getfield 15, 3) := by decide +kernel
theorem d10 : decode yB 10 = .ok (.ifCond (.ne) 7, 3) := by decide +kernel
theorem d13 : decode yB 13 = .ok (.iconst 1, 1) := by decide +kernel
theorem d14 : decode yB 14 = .ok (.goto 4, 3) := by decide +kernel
theorem d17 : decode yB 17 = .ok (.iconst 0, 1) := by decide +kernel
theorem d18 : decode yB 18 = .ok (.ireturn, 1) := by decide +kernel
def site : List Cond := [.fieldLink "java/lang/String" 38 "java/lang/String" "COMPACT_STRINGS" "Z", .fieldLink "java/lang/String" 15 "java/lang/String" "coder" "B"]
def tab : Cond := tabOf yN yB 1 (some .boolean) site
def P (x : Addr) (cd z : Int32) (args : Array Value) (s : State) : Prop := args = #[.ref x] ∧ Has x "java/lang/String" "coder" "B" (.int cd) s ∧ (cd = 0 ∨ cd = 1) ∧ StaticIs s "java/lang/String" "COMPACT_STRINGS" "Z" (.int z) ∧ ¬ z = 0
def E (cd : Int32) (r : Option Value) (s u : State) : Prop := XT.PureE (some (.int (1 - cd))) r s u
theorem law (l : Launch) (x : Addr) (cd z : Int32) : Law l yN 1 0 0 0 yB 1 (some .boolean) site (P x cd z) (E cd) [] 0 0 := by
  refine Law.of_walk (plainFor_of_name (by decide +kernel)) (by decide +kernel) (by decide +kernel) (by decide) (fun _ _ h => by rw [h.1]; rfl) (fun _ U U' hal hh h => ⟨h.1, h.2.1.mv hal hh, h.2.2.1, h.2.2.2.1.there hal hh, h.2.2.2.2⟩) (fun r U U' V V' h1 hal h2 h => XT.PureE.mv r U U' V V' h1 hal h2 h) ?_
  intro p e s m args below meth c s₁ X0 hexec hbytes hml hret hlk hnm hown hh0 W hP
  obtain ⟨rfl, hx, hc, s1, hz⟩ := hP
  have c1 : Steps p.tables e below (s₁.setTop (entryFrame m #[.ref x] 1)) (s₁.setTop (mkF m 0 #[.val (.ref x)] [])) := entry rfl
  obtain ⟨T2, X2, q2, st2⟩ := X0.sget hexec hown (wk W (.fieldLink "java/lang/String" 38 "java/lang/String" "COMPACT_STRINGS" "Z")) s1 (fun _ _ h => by rw [hh0]; exact h) (g := (mkF m 0 #[.val (.ref x)] [])) rfl (hb hbytes d0)
  have hh2 := q2.trans hh0
  have c3 : Steps p.tables e below (s₁.setTop (entryFrame m #[.ref x] 1)) (T2.setTop (mkF m 7 #[.val (.ref x)] [.ref x])) := (c1.trans (st2 _ (Steps.refl _))).trans (by
    refine XS.ifNo X2.here hexec rfl (hb hbytes d3) rfl (i0_eq_f hz) ?_
    refine XS.aloadN X2.here hexec rfl (hb hbytes d6) rfl rfl ?_
    exact Steps.refl _)
  obtain ⟨T4, X4, q4, st4⟩ := X2.hget hexec hown (wk W (.fieldLink "java/lang/String" 15 "java/lang/String" "coder" "B")) (hx.mv X2.warmed.alike hh2) (g := (mkF m 7 #[.val (.ref x)] [.ref x])) rfl (rest := []) rfl (hb hbytes d7)
  have c5 : Steps p.tables e below (s₁.setTop (entryFrame m #[.ref x] 1)) (T4.setTop (mkF m 10 #[.val (.ref x)] [.int cd])) := c3.trans (st4 _ (Steps.refl _))
  have c6 : Steps p.tables e below (s₁.setTop (entryFrame m #[.ref x] 1)) (T4.setTop (mkF m 18 #[.val (.ref x)] [.int (1 - cd)])) := by
    rcases hc with rfl | rfl
    · exact c5.trans (by
        refine XS.ifNo X4.here hexec rfl (hb hbytes d10) rfl (i0_ne_f rfl) ?_
        refine iconstV X4.here hexec rfl 1 (hb hbytes d13) (by decide) ?_
        refine XS.goto X4.here hexec rfl (pc0 := 14) rfl (hb hbytes d14) (by decide) rfl ?_
        exact Steps.refl _)
    · exact c5.trans (by
        refine XS.ifYes X4.here hexec rfl (pc0 := 10) rfl (hb hbytes d10) rfl (i0_ne_t (by decide)) (by decide) rfl ?_
        refine iconstV X4.here hexec rfl 0 (hb hbytes d17) (by decide) ?_
        exact Steps.refl _)
  exact ⟨T4, some (.int (1 - cd)), _, _, _, X4, rfl, rfl, rfl, (fun h => by cases h), ⟨rfl, q4.trans hh2⟩, fun fs hl => c6.trans (X4.ireturnOut hexec hret (by rcases hc with rfl | rfl <;> rfl) (Or.inr (Or.inl rfl)) (hb hbytes d18) hl)⟩
end IsL
namespace LChA
def yN : MethodName := ⟨"java/lang/StringLatin1", "charAt", "([BI)C"⟩
abbrev yB : ByteArray := jdk_43_method_2_code
theorem d0 : decode yB 0 = .ok (.iload_n 1, 1) := by decide +kernel
theorem d1 : decode yB 1 = .ok (.aload_n 0, 1) := by decide +kernel
theorem d2 : decode yB 2 = .ok (.arraylength, 1) := by decide +kernel
theorem d3 : decode yB 3 = .ok (.invokestatic 9, 3) := by decide +kernel
theorem d6 : decode yB 6 = .ok (.aload_n 0, 1) := by decide +kernel
theorem d7 : decode yB 7 = .ok (.iload_n 1, 1) := by decide +kernel
theorem d8 : decode yB 8 = .ok (.baload, 1) := by decide +kernel
theorem d9 : decode yB 9 = .ok (.sipush 255, 3) := by decide +kernel
theorem d12 : decode yB 12 = .ok (.iand, 1) := by decide +kernel
theorem d13 : decode yB 13 = .ok (.i2c, 1) := by decide +kernel
theorem d14 : decode yB 14 = .ok (.ireturn, 1) := by decide +kernel
def site : List Cond := [JO.Str_checkIndex.tab] ++ staticW "java/lang/StringLatin1" 9 JO.Str_checkIndex.yN
def tab : Cond := tabOf yN yB 2 (some .char) site
def P (t : Addr) (V : Cell) (i : Nat) (u : Int32) (fm : Value) (args : Array Value) (s : State) : Prop := args = #[.ref t, .int (Int32.ofNat i)] ∧ XT.Arr .byte t V s ∧ V.slots[i]? = some (.int u) ∧ (StaticIs s "jdk/internal/util/Preconditions" "SIOOBE_FORMATTER" "Ljava/util/function/BiFunction;" fm ∧ fm.isRef = true)
def E (u : Int32) (r : Option Value) (s w : State) : Prop := XT.PureE (some (.int (chr8 u))) r s w
theorem law (l : Launch) (t : Addr) (V : Cell) (i : Nat) (u : Int32) (fm : Value) : Law l yN 2 2 2 27 yB 2 (some .char) site (P t V i u fm) (E u) [] 0 0 := by
  refine Law.of_walk (plainFor_of_name (by decide +kernel)) (by decide +kernel) (by decide +kernel) (by decide) (fun _ _ h => by rw [h.1]; rfl) (fun _ U U' hal hh h => ⟨h.1, h.2.1.mv hal hh, h.2.2.1, h.2.2.2.1.there hal hh, h.2.2.2.2⟩) (fun r U U' V V' h1 hal h2 h => XT.PureE.mv r U U' V V' h1 hal h2 h) ?_
  intro p e s m args below meth c s₁ X0 hexec hbytes hml hret hlk hnm hown hh0 W hP
  obtain ⟨rfl, hV, hu, s1, rf⟩ := hP
  have v31 := hV.2.2.2
  have hi : i < V.slots.size := (Array.getElem?_eq_some_iff.mp hu).1
  have c1 : Steps p.tables e below (s₁.setTop (entryFrame m #[.ref t, .int (Int32.ofNat i)] 2)) (s₁.setTop (mkF m 0 #[.val (.ref t), .val (.int (Int32.ofNat i))] [])) := entry rfl
  have c2 : Steps p.tables e below (s₁.setTop (entryFrame m #[.ref t, .int (Int32.ofNat i)] 2)) (s₁.setTop (mkF m 3 #[.val (.ref t), .val (.int (Int32.ofNat i))] [.int (Int32.ofNat V.slots.size), .int (Int32.ofNat i)])) := c1.trans (by
    refine XS.iloadN X0.here hexec rfl (hb hbytes d0) rfl ?_
    refine XS.aloadN X0.here hexec rfl (hb hbytes d1) rfl rfl ?_
    refine X0.alen hexec (hV.mv X0.warmed.alike hh0) rfl rfl (hb hbytes d2) ?_
    exact Steps.refl _)
  obtain ⟨v3, T3, X3, E3, g3⟩ := X0.callS hexec (JO.Str_checkIndex.law l (Int32.ofNat i) (Int32.ofNat V.slots.size) fm) hown (wks W (staticW "java/lang/StringLatin1" 9 JO.Str_checkIndex.yN)) (wk W JO.Str_checkIndex.tab) (W := 0) (Nat.le_of_ble_eq_true rfl) (Nat.le_of_ble_eq_true rfl) (Nat.le_refl _) (Nat.le_refl _) (g := (mkF m 3 #[.val (.ref t), .val (.int (Int32.ofNat i))] [.int (Int32.ofNat V.slots.size), .int (Int32.ofNat i)])) rfl (by rw [hml]; rfl) c2 (argsL := [.int (Int32.ofNat i), .int (Int32.ofNat V.slots.size)]) (rest := []) rfl rfl (by show 2 * 0 + 0 ≤ _; decide) (hb hbytes d3) (⟨rfl, rf, s1.there X0.warmed.alike hh0, Int32.ofNat_not_neg (by omega), lt32 v31 hi⟩)
  obtain ⟨rfl, q3⟩ := E3
  have hh3 := q3.trans hh0
  have c4 : Steps p.tables e below (s₁.setTop (entryFrame m #[.ref t, .int (Int32.ofNat i)] 2)) (T3.setTop (mkF m 14 #[.val (.ref t), .val (.int (Int32.ofNat i))] [.int (chr8 u)])) := Steps.trans g3 (by
    refine XS.aloadN X3.here hexec rfl (hb hbytes d6) rfl rfl ?_
    refine XS.iloadN X3.here hexec rfl (hb hbytes d7) rfl ?_
    refine X3.aget hexec (hV.mv X3.warmed.alike hh3) rfl hu rfl rfl (hb hbytes d8) ?_
    refine sipushV X3.here hexec rfl 255 (hb hbytes d9) (by decide) ?_
    refine XS.iand X3.here hexec rfl (hb hbytes d12) rfl ?_
    refine i2c X3.here hexec rfl (hb hbytes d13) rfl ?_
    exact Steps.refl _)
  exact ⟨T3, some (.int (chr8 u)), _, _, _, X3, rfl, rfl, rfl, (fun h => by cases h), ⟨rfl, hh3⟩, fun fs hl => c4.trans (X3.ireturnOut hexec hret (narrow_c _) (Or.inr (Or.inr (Or.inr (Or.inl rfl)))) (hb hbytes d14) hl)⟩
end LChA
end StrChars
namespace StrChars.Road
open Jvm Sem ClassFile Op Lib Jvm.Stand Jvm.Free Jvm.Free.XT
open Jvm.Lib.Cold (StaticIs)
theorem consq {a : Array Value} {s : State} {c : Jvm.Cond} {L : List Jvm.Cond} (h0 : c.before a s = true) (h : ∀ w ∈ L, w.before a s = true) : ∀ w ∈ c :: L, w.before a s = true := fun w hw => (List.mem_cons.mp hw).elim (fun e => e ▸ h0) (h w)
/-- the words of String.length(), either coding -/
abbrev wordsLen : List Jvm.Cond := [.code Len.yN Len.yB 1 (some .int), .initialized ST, .fieldLink ST 9 ST "value" "[B", .fieldLink ST 38 ST "COMPACT_STRINGS" "Z", .fieldLink ST 15 ST "coder" "B", .code Cdr.yN Cdr.yB 1 (some .byte), .methodLink ST 335 Cdr.yN, .declares Cdr.yN, .selects ST Cdr.yN Cdr.yN, .instanceMethod Cdr.yN]
theorem tabLen_of {a : Array Value} {s : State} (h : ∀ w ∈ wordsLen, w.before a s = true) : Len.tab.before a s = true := by
  have hc : Cdr.tab.before a s = true := unparts (wk h (.code Cdr.yN Cdr.yB 1 (some .byte))) (wks h (.initialized Cdr.yN.cls :: Cdr.site))
  have q := consq hc h
  exact unparts (wk q (.code Len.yN Len.yB 1 (some .int))) (wks q (.initialized Len.yN.cls :: Len.site))
theorem movedLen {Z s : State} {a0 args : Array Value} (hZ : Z.Warmed39 s.vm) (hw : ∀ d ∈ wordsLen, d.before a0 Z = true) : ∀ d ∈ wordsLen, d.before args s = true := fun d hd => by
  have q := hw d hd
  have t : ∀ d ∈ wordsLen, d = .arrayClass .byte ∨ (d.onTables && d.keepsFace) = true := by decide +kernel
  rcases t d hd with rfl | t
  · exact RoadKit.mvA hZ q
  · exact RoadKit.mv hZ q t
/-- the bytes of the chars cs, low before high -/
def wideBytes : List Int32 → List Value
  | [] => []
  | c :: cs => .int (lo8 c) :: .int (hi8 c) :: wideBytes cs
theorem wide_lo (d : Value) : ∀ (cs : List Int32) (j : Nat), j < cs.length → (wideBytes cs).getD (2 * j) d = .int (lo8 (cs.getD j 0))
  | [], j, h => absurd h (Nat.not_lt_zero j)
  | c :: cs, 0, _ => rfl
  | c :: cs, j + 1, h => by
    have q := wide_lo d cs j (by simpa using h)
    rw [show 2 * (j + 1) = 2 * j + 1 + 1 from by omega]
    simpa [wideBytes] using q
theorem wide_hi (d : Value) : ∀ (cs : List Int32) (j : Nat), j < cs.length → (wideBytes cs).getD (2 * j + 1) d = .int (hi8 (cs.getD j 0))
  | [], j, h => absurd h (Nat.not_lt_zero j)
  | c :: cs, 0, _ => rfl
  | c :: cs, j + 1, h => by
    have q := wide_hi d cs j (by simpa using h)
    rw [show 2 * (j + 1) + 1 = 2 * j + 1 + 1 + 1 from by omega]
    simpa [wideBytes] using q
theorem low_at (d : Value) (cs : List Int32) (j : Nat) (h : j < cs.length) : (cs.map fun c => Value.int (lo8 c)).getD j d = .int (lo8 (cs.getD j 0)) := by
  simp [List.getD_eq_getElem?_getD, h]
/-- an array of N2 bytes vs codes the chars cs by the coder cd -/
def CodA (cs : List Int32) (cd N2 : Int32) (vs : List Value) : Prop := (cd = 0 ∧ N2 = Int32.ofNat cs.length ∧ vs = (cs.map fun c => Value.int (lo8 c)) ∧ ∀ c ∈ cs, ¬ 255 < c) ∨ (cd = 1 ∧ N2 = Int32.ofNat (2 * cs.length) ∧ vs = wideBytes cs ∧ ∃ c ∈ cs, 255 < c)
theorem CodA.cod {cs : List Int32} {cd N2 : Int32} {vs : List Value} {V : Cell} (h : CodA cs cd N2 vs) (hn : 2 * cs.length < 2 ^ 31) (hs : V.slots.size = N2.toNatClampNeg) (hv : RoadKit.Has V vs (.int 0)) : Cod cd cs.length (fun j => cs.getD j 0) V := by
  rcases h with ⟨rfl, rfl, rfl, h⟩ | ⟨rfl, rfl, rfl, c, hc, hw⟩
  · rw [n32 (by omega)] at hs
    exact Or.inl ⟨rfl, hs, fun j hj => ⟨by rw [hv j (by omega), low_at _ _ _ hj], by
      have e : cs.getD j 0 = cs[j] := by simp [List.getD_eq_getElem?_getD, hj]
      show ¬ 255 < cs.getD j 0
      rw [e]; exact h _ (List.getElem_mem _)⟩⟩
  · rw [n32 (by omega)] at hs
    obtain ⟨j, hj, rfl⟩ := List.getElem_of_mem hc
    exact Or.inr ⟨rfl, hs, fun j hj => ⟨by rw [hv _ (by omega), wide_lo _ _ _ hj], by rw [hv _ (by omega), wide_hi _ _ _ hj]⟩, j, hj, by
      have e : cs.getD j 0 = cs[j] := by simp [List.getD_eq_getElem?_getD, hj]
      show 255 < cs.getD j 0
      rw [e]; exact hw⟩
/-- an object of exactly java/lang/String, its two fields found: as the laws ask it -/
theorem strObj {Z U : State} {a0 : Array Value} {kI : Nat} (wi : (Jvm.Cond.instantiable ST kI).before a0 Z = true) (al : Z.vm.Alike U.vm) {x : Addr} {v0 c0 : Value} (E : RoadKit.Exa Z U.heap x ST) (V : RoadKit.Fld Z U.heap x ST "value" "[B" v0) (C : RoadKit.Fld Z U.heap x ST "coder" "B" c0) :
    ∃ (D : Cell) (fV fC : Field), Blank ST x D U ∧ Found ST "value" "[B" fV U ∧ Found ST "coder" "B" fC U ∧ D.slots[fV.slot]? = some v0 ∧ D.slots[fC.slot]? = some c0 ∧ RoadKit.slotOf Z ST "value" "[B" = fV.slot ∧ RoadKit.slotOf Z ST "coder" "B" = fC.slot := by
  obtain ⟨D, cfV, kV, iV, fV, hD, gV, stV, knV, obV, asV, slV⟩ := V
  obtain ⟨D', cfC, kC, iC, fC, hD', gC, stC, -, -, asC, slC⟩ := C
  cases hD.symm.trans hD'
  obtain ⟨D2, kD, e1, e2, e3, e4, e5⟩ := E
  cases hD.symm.trans e1
  obtain ⟨c2, k2, i1, i2, i3, -⟩ := Cond.instantiable_spec wi
  cases e2.symm.trans i1
  cases e3.symm.trans i2
  obtain ⟨kU, u1, u2⟩ := al.2.2 _ _ e3
  exact ⟨D, fV, fC, ⟨hD, ⟨knV, fun q hq => by rw [hq] at obV; cases obV⟩, by rw [al.findClass]; exact e2, kU, u1, by rw [u2]; exact i3, by rw [u2]; exact e5 i3⟩, ⟨SBG.found_only al ⟨cfV, kV, iV, gV⟩, stV⟩, ⟨SBG.found_only al ⟨cfC, kC, iC, gC⟩, stC⟩, slV, slC, by simp [RoadKit.slotOf, gV], by simp [RoadKit.slotOf, gC]⟩
theorem sta_is {Z U : State} (al : Z.vm.Alike U.vm) {C n d : String} {v : Value} (S : RoadKit.Sta Z U.heap C n d v) : StaticIs U C n d v := by
  obtain ⟨cfS, iS, kS, fS, st, cS, t1, t2, t3, t4, t5, t6, t7⟩ := S
  exact StaticIs.there (s := { Z with heap := U.heap }) ⟨cfS, iS, kS, fS, st, cS, t1, t2, t3, t4, t5, (fun q => by rw [q] at t6; cases t6), t7⟩ al rfl
/-- **length() OF SUCH A STRING** -/
theorem lenW {p : Program} {l : Launch} {e : Env} {R : Room} {s : State} {args : Array Value} {below : List Frame} {len W : Nat} {Z : State} {a0 : Array Value} {h : Heap} (hZ : Z.Warmed39 s.vm) (hw : ∀ d ∈ wordsLen, d.before a0 Z = true) {kI : Nat} (wi : (Jvm.Cond.instantiable ST kI).before a0 Z = true)
    {x t : Addr} {kb : ClassId} {cs : List Int32} {cd N2 z : Int32} {vs : List Value} (E : RoadKit.Exa Z h x ST) (V : RoadKit.Fld Z h x ST "value" "[B" (.ref t)) (C : RoadKit.Fld Z h x ST "coder" "B" (.int cd)) (K : RoadKit.Arv Z h t kb .byte N2 vs (.int 0)) (hc : CodA cs cd N2 vs) (hb : ∀ c ∈ cs, ¬ c < 0 ∧ ¬ (65535 : Int32) < c)
    (S : RoadKit.Sta Z h ST "COMPACT_STRINGS" "Z" (.int z)) (hz : ¬ z = 0) (l2 : cs.length ≤ 4000) (hfr : 2 ≤ R.frames) (hlo : W + 25 ≤ R.locals) :
    Back l R p e below s args (⟨"java/lang/String", "length", "()I"⟩ : MethodName) len W (fun P a => a = #[.ref x] ∧ P.U.heap = h ∧ P.cells + 0 ≤ R.cells ∧ P.slots + 0 ≤ R.slots)
      (fun P _ v B => ∃ L, (v = some (.int (Int32.ofNat cs.length)) ∧ L = [] ∧ B.U.heap = h) ∧ B.locs = P.locs ++ L ∧ B.cells = P.cells + 0 ∧ B.slots = P.slots + 0) := by
  obtain ⟨A, K1, K2, K3, K4, K5, K6⟩ := K
  have hcod := hc.cod (by omega) K3 K5
  intro m meth c P g ig mk a X hg hsize hdg hW hn hp'
  obtain ⟨rfl, rfl, r1, r2⟩ := hp'
  have al : Z.vm.Alike P.U.vm := hZ.alike.trans X.warmed.alike
  obtain ⟨D, fV, fC, hB, F1, F2, g1, g2, -, -⟩ := strObj wi al E V C
  have hx : Txt x t A cd cs.length (fun j => cs.getD j 0) P.U := ⟨⟨_, hB.2.2.1, D, hB.1, rfl, by cases q : D.vm <;> first | rfl | exact absurd q (hB.2.1.2 _)⟩, Has.of hB F1 g1, Has.of hB F2 g2, ⟨K1.1, State.isArrayOf_alike al K1.2.1, K1.2.2, by rcases hcod with ⟨-, q, -⟩ | ⟨-, q, -⟩ <;> omega⟩, hcod, fun j hj => by
    have e : cs.getD j 0 = cs[j] := by simp [List.getD_eq_getElem?_getD, hj]
    show ¬ cs.getD j 0 < 0 ∧ ¬ 65535 < cs.getD j 0
    rw [e]; exact hb _ (List.getElem_mem _)⟩
  obtain ⟨v, B, X', ⟨⟨hv, hh⟩, hl, hk, hs⟩, st⟩ := Len.pays x t A cd cs.length (fun j => cs.getD j 0) z (tabLen_of (movedLen hZ hw)) hfr hlo m meth c P g ig mk _ X hg hsize hdg hW hn ⟨r1, r2, rfl, hx, sta_is al S, hz⟩
  exact ⟨v, B, X', ⟨[], ⟨hv, rfl, hh⟩, hl, hk, hs⟩, st⟩
end StrChars.Road
namespace StrChars
open Jvm Sem ClassFile Op Lib Jvm.Stand Jvm.Free.XT Jvm.Free.ALB Jvm.Free.JM Jvm.Free
open Jvm.Lib.Cold (StaticIs)
/-- what place i of a byte[]'s cell holds -/
def yv (A : Cell) (i : Nat) : Int32 := match A.slots[i]? with | some (.int x) => x | _ => 0
theorem yv_get {a : Addr} {A : Cell} {U : State} (h : XT.Arr .byte a A U) (ht : Typed .byte A) {i : Nat} (hi : i < A.slots.size) : A.slots[i]? = some (.int (yv A i)) := by
  have e := Array.getElem?_eq_getElem hi
  have f := ht i _ e
  unfold yv; rw [e]
  generalize A.slots[i] = v at f
  cases v <;> simp [fits] at f ⊢
/-- the two arrays are equal, place for place -/
def EqC (A B : Cell) : Prop := A.slots.size = B.slots.size ∧ ∀ i, i < A.slots.size → yv A i = yv B i
/-- a boolean that says whether p -/
def Says01 (q : Prop) (r : Option Value) (s u : State) : Prop := ∃ v : Int32, r = some (.int v) ∧ u.heap = s.heap ∧ ((v = 1 ∧ q) ∨ (v = 0 ∧ ¬ q))
theorem Says01.mv {q : Prop} : ∀ r (U U' V V' : State), U'.heap = U.heap → V.vm.Alike V'.vm → V'.heap = V.heap → Says01 q r U V → Says01 q r U' V' :=
  fun r U U' V V' h1 _ h2 ⟨v, a, b, c⟩ => ⟨v, a, by rw [h1, h2]; exact b, c⟩
namespace LEq
def yN : MethodName := ⟨"java/lang/StringLatin1", "equals", "([B[B)Z"⟩
abbrev yB : ByteArray := jdk_43_method_13_code
theorem d0 : decode yB 0 = .ok (.aload_n 0, 1) := by decide +kernel
theorem d1 : decode yB 1 = .ok (.arraylength, 1) := by decide +kernel
theorem d2 : decode yB 2 = .ok (.aload_n 1, 1) := by decide +kernel
theorem d3 : decode yB 3 = .ok (.arraylength, 1) := by decide +kernel
theorem d4 : decode yB 4 = .ok (.if_icmp (.ne) 30, 3) := by decide +kernel
theorem d7 : decode yB 7 = .ok (.iconst 0, 1) := by decide +kernel
theorem d8 : decode yB 8 = .ok (.istore_n 2, 1) := by decide +kernel
theorem d9 : decode yB 9 = .ok (.iload_n 2, 1) := by decide +kernel
theorem d10 : decode yB 10 = .ok (.aload_n 0, 1) := by decide +kernel
theorem d11 : decode yB 11 = .ok (.arraylength, 1) := by decide +kernel
theorem d12 : decode yB 12 = .ok (.if_icmp (.ge) 20, 3) := by decide +kernel
theorem d15 : decode yB 15 = .ok (.aload_n 0, 1) := by decide +kernel
theorem d16 : decode yB 16 = .ok (.iload_n 2, 1) := by decide +kernel
theorem d17 : decode yB 17 = .ok (.baload, 1) := by decide +kernel
theorem d18 : decode yB 18 = .ok (.aload_n 1, 1) := by decide +kernel
theorem d19 : decode yB 19 = .ok (.iload_n 2, 1) := by decide +kernel
theorem d20 : decode yB 20 = .ok (.baload, 1) := by decide +kernel
theorem d21 : decode yB 21 = .ok (.if_icmp (.eq) 5, 3) := by decide +kernel
theorem d24 : decode yB 24 = .ok (.iconst 0, 1) := by decide +kernel
theorem d25 : decode yB 25 = .ok (.ireturn, 1) := by decide +kernel
theorem d26 : decode yB 26 = .ok (.iinc 2 1, 3) := by decide +kernel
theorem d29 : decode yB 29 = .ok (.goto (-20), 3) := by decide +kernel
theorem d32 : decode yB 32 = .ok (.iconst 1, 1) := by decide +kernel
theorem d33 : decode yB 33 = .ok (.ireturn, 1) := by decide +kernel
theorem d34 : decode yB 34 = .ok (.iconst 0, 1) := by decide +kernel
theorem d35 : decode yB 35 = .ok (.ireturn, 1) := by decide +kernel
def site : List Cond := []
def tab : Cond := tabOf yN yB 3 (some .boolean) site
def P (a : Addr) (A : Cell) (b : Addr) (B : Cell) (args : Array Value) (s : State) : Prop := args = #[.ref a, .ref b] ∧ XT.Arr .byte a A s ∧ Typed .byte A ∧ XT.Arr .byte b B s ∧ Typed .byte B
/-- whether two byte[] are equal, place for place -/
theorem law (l : Launch) (a : Addr) (A : Cell) (b : Addr) (B : Cell) : Law l yN 2 2 0 0 yB 3 (some .boolean) site (P a A b B) (Says01 (EqC A B)) [] 0 0 := by
  refine Law.of_walk (plainFor_of_name (by decide +kernel)) (by decide +kernel) (by decide +kernel) (by decide) (fun _ _ h => by rw [h.1]; rfl) (fun _ U U' hal hh h => ⟨h.1, h.2.1.mv hal hh, h.2.2.1, h.2.2.2.1.mv hal hh, h.2.2.2.2⟩) (fun r U U' V V' h1 hal h2 h => Says01.mv r U U' V V' h1 hal h2 h) ?_
  intro p e s m args below meth c s₁ X0 hexec hbytes hml hret hlk hnm hown hh0 W hP
  obtain ⟨rfl, hA, tA, hB, tB⟩ := hP
  have a31 := hA.2.2.2
  have b31 := hB.2.2.2
  have hA0 := hA.mv X0.warmed.alike hh0
  have hB0 := hB.mv X0.warmed.alike hh0
  have c1 : Steps p.tables e below (s₁.setTop (entryFrame m #[.ref a, .ref b] 3)) (s₁.setTop (mkF m 0 #[.val (.ref a), .val (.ref b), .unset] [])) := entry rfl
  have c2 : Steps p.tables e below (s₁.setTop (entryFrame m #[.ref a, .ref b] 3)) (s₁.setTop (mkF m 4 #[.val (.ref a), .val (.ref b), .unset] [.int (Int32.ofNat B.slots.size), .int (Int32.ofNat A.slots.size)])) := c1.trans (by
    refine XS.aloadN X0.here hexec rfl (hb hbytes d0) rfl rfl ?_
    refine X0.alen hexec hA0 rfl rfl (hb hbytes d1) ?_
    refine XS.aloadN X0.here hexec rfl (hb hbytes d2) rfl rfl ?_
    refine X0.alen hexec hB0 rfl rfl (hb hbytes d3) ?_
    exact Steps.refl _)
  by_cases hs : A.slots.size = B.slots.size
  · have c3 : Steps p.tables e below (s₁.setTop (entryFrame m #[.ref a, .ref b] 3)) (s₁.setTop (mkF m 9 #[.val (.ref a), .val (.ref b), .val (.int 0)] [])) := c2.trans (by
      refine XS.icmpNo X0.here hexec rfl (hb hbytes d4) rfl (ii_ne_f (by rw [hs])) ?_
      refine iconstV X0.here hexec rfl 0 (hb hbytes d7) (by decide) ?_
      refine XS.istoreN X0.here hexec rfl (hb hbytes d8) rfl rfl ?_
      exact Steps.refl _)
    have loop : ∀ (r i : Nat), i + r = A.slots.size → (∀ j, j < i → yv A j = yv B j) → Steps p.tables e below (s₁.setTop (entryFrame m #[.ref a, .ref b] 3)) (s₁.setTop (mkF m 9 #[.val (.ref a), .val (.ref b), .val (.int (Int32.ofNat i))] [])) → ∃ (pc : Nat) (Ls : Array Slot) (v : Int32), (pc = 25 ∨ pc = 33) ∧ ((v = 1 ∧ EqC A B) ∨ (v = 0 ∧ ¬ EqC A B)) ∧ Steps p.tables e below (s₁.setTop (entryFrame m #[.ref a, .ref b] 3)) (s₁.setTop (mkF m pc Ls [.int v])) := by
      intro r
      induction r with
      | zero =>
        intro i hi he cl
        exact ⟨33, _, 1, Or.inr rfl, Or.inl ⟨rfl, hs, fun j hj => he j (by omega)⟩, cl.trans (by
          refine XS.iloadN X0.here hexec rfl (hb hbytes d9) rfl ?_
          refine XS.aloadN X0.here hexec rfl (hb hbytes d10) rfl rfl ?_
          refine X0.alen hexec hA0 rfl rfl (hb hbytes d11) ?_
          refine XS.icmpYes X0.here hexec rfl (pc0 := 12) rfl (hb hbytes d12) rfl (ii_ge_t (nlt32 (by omega) (by omega))) (by decide) rfl ?_
          refine iconstV X0.here hexec rfl 1 (hb hbytes d32) (by decide) ?_
          exact Steps.refl _)⟩
      | succ r ih =>
        intro i hi he cl
        have c4 : Steps p.tables e below (s₁.setTop (entryFrame m #[.ref a, .ref b] 3)) (s₁.setTop (mkF m 21 #[.val (.ref a), .val (.ref b), .val (.int (Int32.ofNat i))] [.int (yv B i), .int (yv A i)])) := cl.trans (by
          refine XS.iloadN X0.here hexec rfl (hb hbytes d9) rfl ?_
          refine XS.aloadN X0.here hexec rfl (hb hbytes d10) rfl rfl ?_
          refine X0.alen hexec hA0 rfl rfl (hb hbytes d11) ?_
          refine XS.icmpNo X0.here hexec rfl (hb hbytes d12) rfl (ii_ge_f (lt32 (by omega) (by omega))) ?_
          refine XS.aloadN X0.here hexec rfl (hb hbytes d15) rfl rfl ?_
          refine XS.iloadN X0.here hexec rfl (hb hbytes d16) rfl ?_
          refine X0.aget hexec hA0 rfl (yv_get hA tA (i := i) (by omega)) rfl rfl (hb hbytes d17) ?_
          refine XS.aloadN X0.here hexec rfl (hb hbytes d18) rfl rfl ?_
          refine XS.iloadN X0.here hexec rfl (hb hbytes d19) rfl ?_
          refine X0.aget hexec hB0 rfl (yv_get hB tB (i := i) (by omega)) rfl rfl (hb hbytes d20) ?_
          exact Steps.refl _)
        by_cases hv : yv A i = yv B i
        · have c5 : Steps p.tables e below (s₁.setTop (entryFrame m #[.ref a, .ref b] 3)) (s₁.setTop (mkF m 9 #[.val (.ref a), .val (.ref b), .val (.int (Int32.ofNat i + 1))] [])) := c4.trans (by
            refine XS.icmpYes X0.here hexec rfl (pc0 := 21) rfl (hb hbytes d21) rfl (ii_eq_t hv) (by decide) rfl ?_
            refine iincV X0.here hexec rfl 1 (hb hbytes d26) (by decide) rfl rfl ?_
            refine XS.goto X0.here hexec rfl (pc0 := 29) rfl (hb hbytes d29) (by decide) rfl ?_
            exact Steps.refl _)
          rw [succ32] at c5
          exact ih (i + 1) (by omega) (fun j hj => by
            by_cases e : j = i
            · rw [e]; exact hv
            · exact he j (by omega)) c5
        · exact ⟨25, _, 0, Or.inl rfl, Or.inr ⟨rfl, fun q => hv (q.2 i (by omega))⟩, c4.trans (by
            refine XS.icmpNo X0.here hexec rfl (hb hbytes d21) rfl (ii_eq_f hv) ?_
            refine iconstV X0.here hexec rfl 0 (hb hbytes d24) (by decide) ?_
            exact Steps.refl _)⟩
    obtain ⟨pc, Ls, v, hpc, hv, cz⟩ := loop A.slots.size 0 (by omega) (fun j hj => absurd hj (Nat.not_lt_zero j)) c3
    have nv : narrow .boolean (.int v) = .int v := by rcases hv with ⟨rfl, -⟩ | ⟨rfl, -⟩ <;> rfl
    rcases hpc with rfl | rfl
    · exact ⟨s₁, some (.int v), _, _, _, X0, rfl, rfl, rfl, (fun h => by cases h), ⟨v, rfl, hh0, hv⟩, fun fs hl => cz.trans (X0.ireturnOut hexec hret nv (Or.inr (Or.inl rfl)) (hb hbytes d25) hl)⟩
    · exact ⟨s₁, some (.int v), _, _, _, X0, rfl, rfl, rfl, (fun h => by cases h), ⟨v, rfl, hh0, hv⟩, fun fs hl => cz.trans (X0.ireturnOut hexec hret nv (Or.inr (Or.inl rfl)) (hb hbytes d33) hl)⟩
  · have c3 : Steps p.tables e below (s₁.setTop (entryFrame m #[.ref a, .ref b] 3)) (s₁.setTop (mkF m 35 #[.val (.ref a), .val (.ref b), .unset] [.int 0])) := c2.trans (by
      refine XS.icmpYes X0.here hexec rfl (pc0 := 4) rfl (hb hbytes d4) rfl (ii_ne_t (ne32 a31 b31 hs)) (by decide) rfl ?_
      refine iconstV X0.here hexec rfl 0 (hb hbytes d34) (by decide) ?_
      exact Steps.refl _)
    exact ⟨s₁, some (.int 0), _, _, _, X0, rfl, rfl, rfl, (fun h => by cases h), ⟨0, rfl, hh0, Or.inr ⟨rfl, fun q => hs q.1⟩⟩, fun fs hl => c3.trans (X0.ireturnOut hexec hret rfl (Or.inr (Or.inl rfl)) (hb hbytes d35) hl)⟩
end LEq
theorem Cod.ty {cd : Int32} {n : Nat} {f : Nat → Int32} {V : Cell} (h : Cod cd n f V) : Typed .byte V := fun i v hv => by
  have hi : i < V.slots.size := (Array.getElem?_eq_some_iff.mp hv).1
  rcases h with ⟨-, k1, k2⟩ | ⟨-, k1, k2, -⟩
  · rw [(k2 i (by omega)).1] at hv; cases hv; exact fits_lo8 _
  · rcases Nat.mod_two_eq_zero_or_one i with e | e
    · obtain ⟨j, rfl⟩ : ∃ j, i = 2 * j := ⟨i / 2, by omega⟩
      rw [(k2 j (by omega)).1] at hv; cases hv; exact fits_lo8 _
    · obtain ⟨j, rfl⟩ : ∃ j, i = 2 * j + 1 := ⟨i / 2, by omega⟩
      rw [(k2 j (by omega)).2] at hv; cases hv; exact fits_lo8 _
/-- the same text -/
def SameT (n : Nat) (f : Nat → Int32) (k : Nat) (g : Nat → Int32) : Prop := n = k ∧ ∀ j, j < n → f j = g j
theorem lo8_inj {x y : Int32} (h0 : ¬ x < 0) (h1 : ¬ 255 < x) (k0 : ¬ y < 0) (k1 : ¬ 255 < y) (h : lo8 x = lo8 y) : x = y := by
  rw [← lo8_mask h0 h1, ← lo8_mask k0 k1, h]
/-- arrays coded by one coder are equal just where the texts are -/
theorem Cod.eqv {cd : Int32} {n k : Nat} {f g : Nat → Int32} {V V' : Cell} (h : Cod cd n f V) (h' : Cod cd k g V') (hf : ∀ j, j < n → ¬ f j < 0 ∧ ¬ 65535 < f j) (hg : ∀ j, j < k → ¬ g j < 0 ∧ ¬ 65535 < g j) : EqC V V' ↔ SameT n f k g := by
  have yvv : ∀ {W : Cell} {i : Nat} {x : Int32}, W.slots[i]? = some (.int x) → yv W i = x := fun q => by unfold yv; rw [q]
  rcases h with ⟨rfl, k1, k2⟩ | ⟨rfl, k1, k2, -⟩
  · rcases h' with ⟨-, m1, m2⟩ | ⟨e, -⟩
    · constructor
      · rintro ⟨e1, e2⟩
        refine ⟨by omega, fun j hj => ?_⟩
        have q := e2 j (by omega)
        rw [yvv (k2 j hj).1, yvv (m2 j (by omega)).1] at q
        exact lo8_inj (hf j hj).1 (k2 j hj).2 (hg j (by omega)).1 (m2 j (by omega)).2 q
      · rintro ⟨rfl, e2⟩
        refine ⟨by omega, fun j hj => ?_⟩
        rw [yvv (k2 j (by omega)).1, yvv (m2 j (by omega)).1, e2 j (by omega)]
    · exact absurd e (by decide)
  · rcases h' with ⟨e, -⟩ | ⟨-, m1, m2, -⟩
    · exact absurd e (by decide)
    · constructor
      · rintro ⟨e1, e2⟩
        refine ⟨by omega, fun j hj => ?_⟩
        have q1 := e2 (2 * j) (by omega)
        have q2 := e2 (2 * j + 1) (by omega)
        rw [yvv (k2 j hj).1, yvv (m2 j (by omega)).1] at q1
        rw [yvv (k2 j hj).2, yvv (m2 j (by omega)).2] at q2
        rw [← pair_says (hf j hj).1 (hf j hj).2, ← pair_says (hg j (by omega)).1 (hg j (by omega)).2, q1, q2]
      · rintro ⟨rfl, e2⟩
        refine ⟨by omega, fun i hi => ?_⟩
        rcases Nat.mod_two_eq_zero_or_one i with e | e
        · obtain ⟨j, rfl⟩ : ∃ j, i = 2 * j := ⟨i / 2, by omega⟩
          rw [yvv (k2 j (by omega)).1, yvv (m2 j (by omega)).1, e2 j (by omega)]
        · obtain ⟨j, rfl⟩ : ∃ j, i = 2 * j + 1 := ⟨i / 2, by omega⟩
          rw [yvv (k2 j (by omega)).2, yvv (m2 j (by omega)).2, e2 j (by omega)]
/-- two codings differ: so do the texts -/
theorem Cod.dif {cd cd' : Int32} {n k : Nat} {f g : Nat → Int32} {V V' : Cell} (h : Cod cd n f V) (h' : Cod cd' k g V') (hne : ¬ cd = cd') : ¬ SameT n f k g := by
  rintro ⟨rfl, e⟩
  rcases h with ⟨rfl, -, k2⟩ | ⟨rfl, -, -, j, hj, hw⟩
  · rcases h' with ⟨rfl, -⟩ | ⟨-, -, -, j, hj, hw⟩
    · exact hne rfl
    · exact (k2 j hj).2 (by rw [e j hj]; exact hw)
  · rcases h' with ⟨-, -, m2⟩ | ⟨rfl, -⟩
    · exact (m2 j hj).2 (by rw [← e j hj]; exact hw)
    · exact hne rfl
/-- an object of exactly C is an instance of C -/
theorem cinst {p : Program} {l : Launch} {e : Env} {R : Room} {s : State} {m : MethodId} {args : Array Value} {below : List Frame} {meth : Method} {c : Code} {T : State} {locs : List Loc} {cells slots : Nat} (X : Stand p l e R s m args below meth c T locs cells slots) (hexec : p.tables.exec = Jvm.exec) {own C : String} {index : Nat} (hown : s.vm.findClass own = some m.cls) (hlink : (Cond.classLink own index C).before args s = true) {a : Addr} (hE : Exact C a T)
    {g : JFrame} (hg : g.method = m) {rest : List Value} (hstack : g.stack = .ref a :: rest) (hdg : decode c.code g.pc = .ok (.instanceof index, 3)) :
    ∃ T', Stand p l e R s m args below meth c T' locs cells slots ∧ T'.heap = T.heap ∧ ∀ target, Steps p.tables e below (T'.setTop { g with pc := g.pc + 3, stack := .int 1 :: rest }) target → Steps p.tables e below (T.setTop g) target := by
  obtain ⟨cB, h1, D, h2, h3, h4⟩ := hE
  have h1' : s.vm.findClass C = some cB := by rw [← X.warmed.alike.findClass]; exact h1
  obtain ⟨vm', X', st⟩ := X.instanceofYes hexec hown hlink h2 h4 h1' (by rw [h3]; exact Jvm.Free.SB.assignable_self _ _) hg hstack hdg
  exact ⟨_, X', rfl, st⟩
theorem cself {p : Program} {l : Launch} {e : Env} {R : Room} {s : State} {m : MethodId} {args : Array Value} {below : List Frame} {meth : Method} {c : Code} {T : State} {locs : List Loc} {cells slots : Nat} (X : Stand p l e R s m args below meth c T locs cells slots) (hexec : p.tables.exec = Jvm.exec) {own C : String} {index : Nat} (hown : s.vm.findClass own = some m.cls) (hlink : (Cond.classLink own index C).before args s = true) {a : Addr} (hE : Exact C a T)
    {g : JFrame} (hg : g.method = m) {rest : List Value} (hstack : g.stack = .ref a :: rest) (hdg : decode c.code g.pc = .ok (.checkcast index, 3)) :
    ∃ T', Stand p l e R s m args below meth c T' locs cells slots ∧ T'.heap = T.heap ∧ ∀ target, Steps p.tables e below (T'.setTop { g with pc := g.pc + 3, stack := .ref a :: rest }) target → Steps p.tables e below (T.setTop g) target := by
  obtain ⟨cB, h1, D, h2, h3, h4⟩ := hE
  have h1' : s.vm.findClass C = some cB := by rw [← X.warmed.alike.findClass]; exact h1
  obtain ⟨vm', X', st⟩ := X.checkcastYes hexec hown hlink h2 h4 h1' (by rw [h3]; exact Jvm.Free.SB.assignable_self _ _) hg hstack hdg
  exact ⟨_, X', rfl, fun t h => st t (by rw [← hstack] at h; exact h)⟩
namespace SEq
def yN : MethodName := ⟨"java/lang/String", "equals", "(Ljava/lang/Object;)Z"⟩
abbrev yB : ByteArray := jdk_42_method_66_code
theorem d0 : decode yB 0 = .ok (.aload_n 0, 1) := by decide +kernel
theorem d1 : decode yB 1 = .ok (.aload_n 1, 1) := by decide +kernel
theorem d2 : decode yB 2 = .ok (.if_acmp (.ne) 5, 3) := by decide +kernel
theorem d5 : decode yB 5 = .ok (.iconst 1, 1) := by decide +kernel
theorem d6 : decode yB 6 = .ok (.ireturn, 1) := by decide +kernel
theorem d7 : decode yB 7 = .ok (.aload_n 1, 1) := by decide +kernel
theorem d8 : decode yB 8 = .ok (.instanceof 10, 3) := by decide +kernel
theorem d11 : decode yB 11 = .ok (.ifCond (.eq) 43, 3) := by decide +kernel
theorem d14 : decode yB 14 = .ok (.aload_n 1, 1) := by decide +kernel
theorem d15 : decode yB 15 = .ok (.checkcast 10, 3) := by decide +kernel
theorem d18 : decode yB 18 = .ok (.astore_n 2, 1) := by decide +kernel
theorem d19 : decode yB 19 = .ok (.getstatic 38, 3) := by decide +kernel
theorem d22 : decode yB 22 = .ok (.ifCond (.eq) 14, 3) := by decide +kernel
theorem d25 : decode yB 25 = .ok (.aload_n 0, 1) := by decide +kernel
theorem d26 : decode yB 26 = .ok (.getfield 15, 3) := by decide +kernel
theorem d29 : decode yB 29 = .ok (.aload_n 2, 1) := by decide +kernel
theorem d30 : decode yB 30 = .ok (.getfield 15, 3) := by decide +kernel
theorem d33 : decode yB 33 = .ok (.if_icmp (.ne) 21, 3) := by decide +kernel
theorem d36 : decode yB 36 = .ok (.aload_n 0, 1) := by decide +kernel
theorem d37 : decode yB 37 = .ok (.getfield 9, 3) := by decide +kernel
theorem d40 : decode yB 40 = .ok (.aload_n 2, 1) := by decide +kernel
theorem d41 : decode yB 41 = .ok (.getfield 9, 3) := by decide +kernel
theorem d44 : decode yB 44 = .ok (.invokestatic 541, 3) := by decide +kernel
theorem d47 : decode yB 47 = .ok (.ifCond (.eq) 7, 3) := by decide +kernel
theorem d50 : decode yB 50 = .ok (.iconst 1, 1) := by decide +kernel
theorem d51 : decode yB 51 = .ok (.goto 4, 3) := by decide +kernel
theorem d54 : decode yB 54 = .ok (.iconst 0, 1) := by decide +kernel
theorem d55 : decode yB 55 = .ok (.ireturn, 1) := by decide +kernel
def site : List Cond := [.classLink "java/lang/String" 10 "java/lang/String", .fieldLink "java/lang/String" 38 "java/lang/String" "COMPACT_STRINGS" "Z", .fieldLink "java/lang/String" 15 "java/lang/String" "coder" "B", .fieldLink "java/lang/String" 9 "java/lang/String" "value" "[B", LEq.tab] ++ staticW "java/lang/String" 541 LEq.yN
def tab : Cond := tabOf yN yB 3 (some .boolean) site
def P (x t : Addr) (V : Cell) (cd : Int32) (n : Nat) (f : Nat → Int32) (y t' : Addr) (V' : Cell) (cd' : Int32) (k : Nat) (g : Nat → Int32) (z : Int32) (args : Array Value) (s : State) : Prop := args = #[.ref x, .ref y] ∧ Txt x t V cd n f s ∧ Txt y t' V' cd' k g s ∧ StaticIs s "java/lang/String" "COMPACT_STRINGS" "Z" (.int z) ∧ ¬ z = 0
/-- equals(Object) of two Strings: whether the texts are the same -/
theorem law (l : Launch) (x t : Addr) (V : Cell) (cd : Int32) (n : Nat) (f : Nat → Int32) (y t' : Addr) (V' : Cell) (cd' : Int32) (k : Nat) (g : Nat → Int32) (z : Int32) : Law l yN 2 1 1 14 yB 3 (some .boolean) site (P x t V cd n f y t' V' cd' k g z) (Says01 (SameT n f k g)) [] 0 0 := by
  refine Law.of_walk (plainFor_of_name (by decide +kernel)) (by decide +kernel) (by decide +kernel) (by decide) (fun _ _ h => by rw [h.1]; rfl) (fun _ U U' hal hh h => ⟨h.1, h.2.1.mv hal hh, h.2.2.1.mv hal hh, h.2.2.2.1.there hal hh, h.2.2.2.2⟩) (fun r U U' V V' h1 hal h2 h => Says01.mv r U U' V V' h1 hal h2 h) ?_
  intro p e s m args below meth c s₁ X0 hexec hbytes hml hret hlk hnm hown hh0 W hP
  obtain ⟨rfl, hx, hy, s1, hz⟩ := hP
  have c1 : Steps p.tables e below (s₁.setTop (entryFrame m #[.ref x, .ref y] 3)) (s₁.setTop (mkF m 2 #[.val (.ref x), .val (.ref y), .unset] [.ref y, .ref x])) := Steps.trans (entry rfl) (by
    show Steps p.tables e below (s₁.setTop (mkF m 0 #[.val (.ref x), .val (.ref y), .unset] [])) _
    refine XS.aloadN X0.here hexec rfl (hb hbytes d0) rfl rfl ?_
    refine XS.aloadN X0.here hexec rfl (hb hbytes d1) rfl rfl ?_
    exact Steps.refl _)
  by_cases hxy : x = y
  · have c2 : Steps p.tables e below (s₁.setTop (entryFrame m #[.ref x, .ref y] 3)) (s₁.setTop (mkF m 6 #[.val (.ref x), .val (.ref y), .unset] [.int 1])) := c1.trans (by
      refine acmpNo X0.here hexec rfl (hb hbytes d2) rfl rfl rfl (by simp [acmp, hxy]) ?_
      refine iconstV X0.here hexec rfl 1 (hb hbytes d5) (by decide) ?_
      exact Steps.refl _)
    subst hxy
    have ec : cd = cd' := by
      obtain ⟨D, fd, a1, a2, a3⟩ := hx.2.2.1
      obtain ⟨D', fd', b1, b2, b3⟩ := hy.2.2.1
      cases a1.symm.trans b1
      obtain ⟨q1, q2, q3, q4⟩ := a2.1
      obtain ⟨r1, r2, r3, r4⟩ := b2.1
      cases q4.symm.trans r4
      cases a3.symm.trans b3; rfl
    have et : t = t' := by
      obtain ⟨D, fd, a1, a2, a3⟩ := hx.2.1
      obtain ⟨D', fd', b1, b2, b3⟩ := hy.2.1
      cases a1.symm.trans b1
      obtain ⟨q1, q2, q3, q4⟩ := a2.1
      obtain ⟨r1, r2, r3, r4⟩ := b2.1
      cases q4.symm.trans r4
      cases a3.symm.trans b3; rfl
    subst ec et
    have ev : V = V' := by cases hx.2.2.2.1.1.symm.trans hy.2.2.2.1.1; rfl
    subst ev
    have hs : SameT n f k g := (Cod.eqv hx.2.2.2.2.1 hy.2.2.2.2.1 hx.2.2.2.2.2 hy.2.2.2.2.2).mp ⟨rfl, fun _ _ => rfl⟩
    exact ⟨s₁, some (.int 1), _, _, _, X0, rfl, rfl, rfl, (fun h => by cases h), ⟨1, rfl, hh0, Or.inl ⟨rfl, hs⟩⟩, fun fs hl => c2.trans (X0.ireturnOut hexec hret rfl (Or.inr (Or.inl rfl)) (hb hbytes d6) hl)⟩
  · have c2 : Steps p.tables e below (s₁.setTop (entryFrame m #[.ref x, .ref y] 3)) (s₁.setTop (mkF m 8 #[.val (.ref x), .val (.ref y), .unset] [.ref y])) := c1.trans (by
      refine acmpYes X0.here hexec rfl (pc0 := 2) rfl (hb hbytes d2) rfl rfl rfl (by simp [acmp, hxy]) (by decide) rfl ?_
      refine XS.aloadN X0.here hexec rfl (hb hbytes d7) rfl rfl ?_
      exact Steps.refl _)
    obtain ⟨T3, X3, q3, st3⟩ := cinst X0 hexec hown (wk W (.classLink "java/lang/String" 10 "java/lang/String")) (hy.mv X0.warmed.alike hh0).1 (g := (mkF m 8 #[.val (.ref x), .val (.ref y), .unset] [.ref y])) rfl (rest := []) rfl (hb hbytes d8)
    have hh3 := q3.trans hh0
    have c4 : Steps p.tables e below (s₁.setTop (entryFrame m #[.ref x, .ref y] 3)) (T3.setTop (mkF m 15 #[.val (.ref x), .val (.ref y), .unset] [.ref y])) := (c2.trans (st3 _ (Steps.refl _))).trans (by
      refine XS.ifNo X3.here hexec rfl (hb hbytes d11) rfl (i0_eq_f (by decide)) ?_
      refine XS.aloadN X3.here hexec rfl (hb hbytes d14) rfl rfl ?_
      exact Steps.refl _)
    obtain ⟨T5, X5, q5, st5⟩ := cself X3 hexec hown (wk W (.classLink "java/lang/String" 10 "java/lang/String")) (hy.mv X3.warmed.alike hh3).1 (g := (mkF m 15 #[.val (.ref x), .val (.ref y), .unset] [.ref y])) rfl (rest := []) rfl (hb hbytes d15)
    have hh5 := q5.trans hh3
    have c6 : Steps p.tables e below (s₁.setTop (entryFrame m #[.ref x, .ref y] 3)) (T5.setTop (mkF m 19 #[.val (.ref x), .val (.ref y), .val (.ref y)] [])) := (c4.trans (st5 _ (Steps.refl _))).trans (by
      refine XS.astoreN X5.here hexec rfl (hb hbytes d18) rfl rfl rfl ?_
      exact Steps.refl _)
    obtain ⟨T7, X7, q7, st7⟩ := X5.sget hexec hown (wk W (.fieldLink "java/lang/String" 38 "java/lang/String" "COMPACT_STRINGS" "Z")) s1 (fun _ _ h => by rw [hh5]; exact h) (g := (mkF m 19 #[.val (.ref x), .val (.ref y), .val (.ref y)] [])) rfl (hb hbytes d19)
    have hh7 := q7.trans hh5
    have c8 : Steps p.tables e below (s₁.setTop (entryFrame m #[.ref x, .ref y] 3)) (T7.setTop (mkF m 26 #[.val (.ref x), .val (.ref y), .val (.ref y)] [.ref x])) := (c6.trans (st7 _ (Steps.refl _))).trans (by
      refine XS.ifNo X7.here hexec rfl (hb hbytes d22) rfl (i0_eq_f hz) ?_
      refine XS.aloadN X7.here hexec rfl (hb hbytes d25) rfl rfl ?_
      exact Steps.refl _)
    obtain ⟨T9, X9, q9, st9⟩ := X7.hget hexec hown (wk W (.fieldLink "java/lang/String" 15 "java/lang/String" "coder" "B")) (hx.mv X7.warmed.alike hh7).2.2.1 (g := (mkF m 26 #[.val (.ref x), .val (.ref y), .val (.ref y)] [.ref x])) rfl (rest := []) rfl (hb hbytes d26)
    have hh9 := q9.trans hh7
    have c10 : Steps p.tables e below (s₁.setTop (entryFrame m #[.ref x, .ref y] 3)) (T9.setTop (mkF m 30 #[.val (.ref x), .val (.ref y), .val (.ref y)] [.ref y, .int cd])) := (c8.trans (st9 _ (Steps.refl _))).trans (by
      refine XS.aloadN X9.here hexec rfl (hb hbytes d29) rfl rfl ?_
      exact Steps.refl _)
    obtain ⟨T11, X11, q11, st11⟩ := X9.hget hexec hown (wk W (.fieldLink "java/lang/String" 15 "java/lang/String" "coder" "B")) (hy.mv X9.warmed.alike hh9).2.2.1 (g := (mkF m 30 #[.val (.ref x), .val (.ref y), .val (.ref y)] [.ref y, .int cd])) rfl (rest := [.int cd]) rfl (hb hbytes d30)
    have hh11 := q11.trans hh9
    have c12 : Steps p.tables e below (s₁.setTop (entryFrame m #[.ref x, .ref y] 3)) (T11.setTop (mkF m 33 #[.val (.ref x), .val (.ref y), .val (.ref y)] [.int cd', .int cd])) := c10.trans (st11 _ (Steps.refl _))
    by_cases hcd : cd = cd'
    · subst hcd
      have c13 : Steps p.tables e below (s₁.setTop (entryFrame m #[.ref x, .ref y] 3)) (T11.setTop (mkF m 37 #[.val (.ref x), .val (.ref y), .val (.ref y)] [.ref x])) := c12.trans (by
        refine XS.icmpNo X11.here hexec rfl (hb hbytes d33) rfl (ii_ne_f rfl) ?_
        refine XS.aloadN X11.here hexec rfl (hb hbytes d36) rfl rfl ?_
        exact Steps.refl _)
      obtain ⟨T14, X14, q14, st14⟩ := X11.hget hexec hown (wk W (.fieldLink "java/lang/String" 9 "java/lang/String" "value" "[B")) (hx.mv X11.warmed.alike hh11).2.1 (g := (mkF m 37 #[.val (.ref x), .val (.ref y), .val (.ref y)] [.ref x])) rfl (rest := []) rfl (hb hbytes d37)
      have hh14 := q14.trans hh11
      have c15 : Steps p.tables e below (s₁.setTop (entryFrame m #[.ref x, .ref y] 3)) (T14.setTop (mkF m 41 #[.val (.ref x), .val (.ref y), .val (.ref y)] [.ref y, .ref t])) := (c13.trans (st14 _ (Steps.refl _))).trans (by
        refine XS.aloadN X14.here hexec rfl (hb hbytes d40) rfl rfl ?_
        exact Steps.refl _)
      obtain ⟨T16, X16, q16, st16⟩ := X14.hget hexec hown (wk W (.fieldLink "java/lang/String" 9 "java/lang/String" "value" "[B")) (hy.mv X14.warmed.alike hh14).2.1 (g := (mkF m 41 #[.val (.ref x), .val (.ref y), .val (.ref y)] [.ref y, .ref t])) rfl (rest := [.ref t]) rfl (hb hbytes d41)
      have hh16 := q16.trans hh14
      have c17 : Steps p.tables e below (s₁.setTop (entryFrame m #[.ref x, .ref y] 3)) (T16.setTop (mkF m 44 #[.val (.ref x), .val (.ref y), .val (.ref y)] [.ref t', .ref t])) := c15.trans (st16 _ (Steps.refl _))
      obtain ⟨v18, T18, X18, E18, g18⟩ := X16.callS hexec (LEq.law l t V t' V') hown (wks W (staticW "java/lang/String" 541 LEq.yN)) (wk W LEq.tab) (W := 0) (Nat.le_of_ble_eq_true rfl) (Nat.le_of_ble_eq_true rfl) (Nat.le_refl _) (Nat.le_refl _) (g := (mkF m 44 #[.val (.ref x), .val (.ref y), .val (.ref y)] [.ref t', .ref t])) rfl (by rw [hml]; rfl) c17 (argsL := [.ref t, .ref t']) (rest := []) rfl rfl (by show 2 * 0 + 0 ≤ _; decide) (hb hbytes d44) (⟨rfl, hx.2.2.2.1.mv X16.warmed.alike hh16, hx.2.2.2.2.1.ty, hy.2.2.2.1.mv X16.warmed.alike hh16, hy.2.2.2.2.1.ty⟩)
      obtain ⟨v, rfl, q18, hv⟩ := E18
      have iff := Cod.eqv hx.2.2.2.2.1 hy.2.2.2.2.1 hx.2.2.2.2.2 hy.2.2.2.2.2
      rcases hv with ⟨rfl, he⟩ | ⟨rfl, he⟩
      · have c19 : Steps p.tables e below (s₁.setTop (entryFrame m #[.ref x, .ref y] 3)) (T18.setTop (mkF m 55 #[.val (.ref x), .val (.ref y), .val (.ref y)] [.int 1])) := Steps.trans g18 (by
          refine XS.ifNo X18.here hexec rfl (hb hbytes d47) rfl (i0_eq_f (by decide)) ?_
          refine iconstV X18.here hexec rfl 1 (hb hbytes d50) (by decide) ?_
          refine XS.goto X18.here hexec rfl (pc0 := 51) rfl (hb hbytes d51) (by decide) rfl ?_
          exact Steps.refl _)
        exact ⟨T18, some (.int 1), _, _, _, X18, rfl, rfl, rfl, (fun h => by cases h), ⟨1, rfl, q18.trans hh16, Or.inl ⟨rfl, iff.mp he⟩⟩, fun fs hl => c19.trans (X18.ireturnOut hexec hret rfl (Or.inr (Or.inl rfl)) (hb hbytes d55) hl)⟩
      · have c19 : Steps p.tables e below (s₁.setTop (entryFrame m #[.ref x, .ref y] 3)) (T18.setTop (mkF m 55 #[.val (.ref x), .val (.ref y), .val (.ref y)] [.int 0])) := Steps.trans g18 (by
          refine XS.ifYes X18.here hexec rfl (pc0 := 47) rfl (hb hbytes d47) rfl (i0_eq_t rfl) (by decide) rfl ?_
          refine iconstV X18.here hexec rfl 0 (hb hbytes d54) (by decide) ?_
          exact Steps.refl _)
        exact ⟨T18, some (.int 0), _, _, _, X18, rfl, rfl, rfl, (fun h => by cases h), ⟨0, rfl, q18.trans hh16, Or.inr ⟨rfl, fun q => he (iff.mpr q)⟩⟩, fun fs hl => c19.trans (X18.ireturnOut hexec hret rfl (Or.inr (Or.inl rfl)) (hb hbytes d55) hl)⟩
    · have c13 : Steps p.tables e below (s₁.setTop (entryFrame m #[.ref x, .ref y] 3)) (T11.setTop (mkF m 55 #[.val (.ref x), .val (.ref y), .val (.ref y)] [.int 0])) := c12.trans (by
        refine XS.icmpYes X11.here hexec rfl (pc0 := 33) rfl (hb hbytes d33) rfl (ii_ne_t hcd) (by decide) rfl ?_
        refine iconstV X11.here hexec rfl 0 (hb hbytes d54) (by decide) ?_
        exact Steps.refl _)
      exact ⟨T11, some (.int 0), _, _, _, X11, rfl, rfl, rfl, (fun h => by cases h), ⟨0, rfl, hh11, Or.inr ⟨rfl, Cod.dif hx.2.2.2.2.1 hy.2.2.2.2.1 hcd⟩⟩, fun fs hl => c13.trans (X11.ireturnOut hexec hret rfl (Or.inr (Or.inl rfl)) (hb hbytes d55) hl)⟩
theorem pays {l : Launch} {R : Room} {p : Program} {e : Env} {below : List Frame} {s : State} {sargs : Array Value} {len W : Nat} (x t : Addr) (V : Cell) (cd : Int32) (n : Nat) (f : Nat → Int32) (y t' : Addr) (V' : Cell) (cd' : Int32) (k : Nat) (g : Nat → Int32) (z : Int32) (htab : tab.before sargs s = true) (hfr : 2 ≤ R.frames) (hlo : W + 28 ≤ R.locals) :
    Back l R p e below s sargs yN len W (fun A₁ a₁ => A₁.cells + 0 ≤ R.cells ∧ A₁.slots + 0 ≤ R.slots ∧ P x t V cd n f y t' V' cd' k g z a₁ A₁.U) (fun A₁ _ v₁ B₁ => Says01 (SameT n f k g) v₁ A₁.U B₁.U ∧ B₁.locs = A₁.locs ++ [] ∧ B₁.cells = A₁.cells + 0 ∧ B₁.slots = A₁.slots + 0) :=
  (law l x t V cd n f y t' V' cd' k g z).pays htab hfr (by omega)
end SEq
end StrChars
namespace StrChars.Road
open Jvm Sem ClassFile Op Lib Jvm.Stand Jvm.Free Jvm.Free.XT
open Jvm.Lib.Cold (StaticIs)
/-- the words of String.equals(Object) -/
abbrev wordsEq : List Jvm.Cond := [.code SEq.yN SEq.yB 3 (some .boolean), .initialized ST, .classLink ST 10 ST, .fieldLink ST 38 ST "COMPACT_STRINGS" "Z", .fieldLink ST 15 ST "coder" "B", .fieldLink ST 9 ST "value" "[B", .methodLink ST 541 LEq.yN, .static LEq.yN, .code LEq.yN LEq.yB 3 (some .boolean), .initialized "java/lang/StringLatin1"]
theorem tabEq_of {a : Array Value} {s : State} (h : ∀ w ∈ wordsEq, w.before a s = true) : SEq.tab.before a s = true := by
  have hl : LEq.tab.before a s = true := unparts (wk h (.code LEq.yN LEq.yB 3 (some .boolean))) (wks h (.initialized LEq.yN.cls :: LEq.site))
  have q := consq hl h
  exact unparts (wk q (.code SEq.yN SEq.yB 3 (some .boolean))) (wks q (.initialized SEq.yN.cls :: SEq.site))
theorem movedEq {Z s : State} {a0 args : Array Value} (hZ : Z.Warmed39 s.vm) (hw : ∀ d ∈ wordsEq, d.before a0 Z = true) : ∀ d ∈ wordsEq, d.before args s = true := fun d hd => by
  have t : ∀ d ∈ wordsEq, (d.onTables && d.keepsFace) = true := by decide +kernel
  exact RoadKit.mv hZ (hw d hd) (t d hd)
/-- the road's facts of a String, as the laws ask it -/
theorem txt_of {Z U : State} {a0 : Array Value} {kI : Nat} (wi : (Jvm.Cond.instantiable ST kI).before a0 Z = true) (al : Z.vm.Alike U.vm) {x t : Addr} {kb : ClassId} {cs : List Int32} {cd N2 : Int32} {vs : List Value} (E : RoadKit.Exa Z U.heap x ST) (V : RoadKit.Fld Z U.heap x ST "value" "[B" (.ref t)) (C : RoadKit.Fld Z U.heap x ST "coder" "B" (.int cd)) (K : RoadKit.Arv Z U.heap t kb .byte N2 vs (.int 0)) (hc : CodA cs cd N2 vs) (hb : ∀ c ∈ cs, ¬ c < 0 ∧ ¬ (65535 : Int32) < c) (l2 : cs.length ≤ 4000) :
    ∃ A, Txt x t A cd cs.length (fun j => cs.getD j 0) U := by
  obtain ⟨A, K1, K2, K3, K4, K5, K6⟩ := K
  have hcod := hc.cod (by omega) K3 K5
  obtain ⟨D, fV, fC, hB, F1, F2, g1, g2, -, -⟩ := strObj wi al E V C
  exact ⟨A, ⟨_, hB.2.2.1, D, hB.1, rfl, by cases q : D.vm <;> first | rfl | exact absurd q (hB.2.1.2 _)⟩, Has.of hB F1 g1, Has.of hB F2 g2, ⟨K1.1, State.isArrayOf_alike al K1.2.1, K1.2.2, by rcases hcod with ⟨-, q, -⟩ | ⟨-, q, -⟩ <;> omega⟩, hcod, fun j hj => by
    have e : cs.getD j 0 = cs[j] := by simp [List.getD_eq_getElem?_getD, hj]
    show ¬ cs.getD j 0 < 0 ∧ ¬ 65535 < cs.getD j 0
    rw [e]; exact hb _ (List.getElem_mem _)⟩
theorem same_list (cs ds : List Int32) : SameT cs.length (fun j => cs.getD j 0) ds.length (fun j => ds.getD j 0) ↔ cs = ds := by
  constructor
  · rintro ⟨e, q⟩
    refine List.ext_getElem e fun j h1 h2 => ?_
    have := q j h1
    simpa [List.getD_eq_getElem?_getD, h1, h2] using this
  · rintro rfl
    exact ⟨rfl, fun _ _ => rfl⟩
/-- **equals(Object) OF TWO SUCH STRINGS**: 1 just where the chars are the same -/
theorem eqW {p : Program} {l : Launch} {e : Env} {R : Room} {s : State} {args : Array Value} {below : List Frame} {len W : Nat} {Z : State} {a0 : Array Value} {h : Heap} (hZ : Z.Warmed39 s.vm) (hw : ∀ d ∈ wordsEq, d.before a0 Z = true) {kI : Nat} (wi : (Jvm.Cond.instantiable ST kI).before a0 Z = true)
    {x t : Addr} {kb : ClassId} {cs : List Int32} {cd N2 : Int32} {vs : List Value} (E : RoadKit.Exa Z h x ST) (V : RoadKit.Fld Z h x ST "value" "[B" (.ref t)) (C : RoadKit.Fld Z h x ST "coder" "B" (.int cd)) (K : RoadKit.Arv Z h t kb .byte N2 vs (.int 0)) (hc : CodA cs cd N2 vs) (hb : ∀ c ∈ cs, ¬ c < 0 ∧ ¬ (65535 : Int32) < c) (l2 : cs.length ≤ 4000)
    {y t' : Addr} {kb' : ClassId} {ds : List Int32} {cd' N2' : Int32} {vs' : List Value} (E' : RoadKit.Exa Z h y ST) (V' : RoadKit.Fld Z h y ST "value" "[B" (.ref t')) (C' : RoadKit.Fld Z h y ST "coder" "B" (.int cd')) (K' : RoadKit.Arv Z h t' kb' .byte N2' vs' (.int 0)) (hc' : CodA ds cd' N2' vs') (hb' : ∀ c ∈ ds, ¬ c < 0 ∧ ¬ (65535 : Int32) < c) (l2' : ds.length ≤ 4000)
    {z : Int32} (S : RoadKit.Sta Z h ST "COMPACT_STRINGS" "Z" (.int z)) (hz : ¬ z = 0) (hfr : 2 ≤ R.frames) (hlo : W + 28 ≤ R.locals) :
    Back l R p e below s args (⟨"java/lang/String", "equals", "(Ljava/lang/Object;)Z"⟩ : MethodName) len W (fun P a => a = #[.ref x, .ref y] ∧ P.U.heap = h ∧ P.cells + 0 ≤ R.cells ∧ P.slots + 0 ≤ R.slots)
      (fun P _ v B => ∃ L, (((v = some (.int 1) ∧ cs = ds) ∨ (v = some (.int 0) ∧ ¬ cs = ds)) ∧ L = [] ∧ B.U.heap = h) ∧ B.locs = P.locs ++ L ∧ B.cells = P.cells + 0 ∧ B.slots = P.slots + 0) := by
  intro m meth c P g ig mk a X hg hsize hdg hW hn hp'
  obtain ⟨rfl, rfl, r1, r2⟩ := hp'
  have al : Z.vm.Alike P.U.vm := hZ.alike.trans X.warmed.alike
  obtain ⟨A, hx⟩ := txt_of wi al E V C K hc hb l2
  obtain ⟨A', hy⟩ := txt_of wi al E' V' C' K' hc' hb' l2'
  obtain ⟨v, B, X', ⟨⟨w, hv, hh, hq⟩, hl, hk, hs⟩, st⟩ := SEq.pays x t A cd cs.length (fun j => cs.getD j 0) y t' A' cd' ds.length (fun j => ds.getD j 0) z (tabEq_of (movedEq hZ hw)) hfr hlo m meth c P g ig mk _ X hg hsize hdg hW hn ⟨r1, r2, rfl, hx, hy, sta_is al S, hz⟩
  refine ⟨v, B, X', ⟨[], ⟨?_, rfl, hh⟩, hl, hk, hs⟩, st⟩
  rcases hq with ⟨rfl, q⟩ | ⟨rfl, q⟩
  · exact Or.inl ⟨hv, (same_list cs ds).mp q⟩
  · exact Or.inr ⟨hv, fun e => q ((same_list cs ds).mpr e)⟩
end StrChars.Road
namespace StrChars
open Jvm Sem ClassFile Op Lib Jvm.Stand Jvm.Free.XT Jvm.Free.ALB Jvm.Free.JM Jvm.Free
open Jvm.Lib.Cold (StaticIs)
namespace ChN
def yN : MethodName := ⟨"java/lang/String", "charAt", "(I)C"⟩
abbrev yB : ByteArray := jdk_42_method_56_code
theorem d0 : decode yB 0 = .ok (.aload_n 0, 1) := by decide +kernel
theorem d1 : decode yB 1 = .ok (.invokevirtual 492, 3) := by decide +kernel
theorem d4 : decode yB 4 = .ok (.ifCond (.eq) 12, 3) := by decide +kernel
theorem d7 : decode yB 7 = .ok (.aload_n 0, 1) := by decide +kernel
theorem d8 : decode yB 8 = .ok (.getfield 9, 3) := by decide +kernel
theorem d11 : decode yB 11 = .ok (.iload_n 1, 1) := by decide +kernel
theorem d12 : decode yB 12 = .ok (.invokestatic 495, 3) := by decide +kernel
theorem d15 : decode yB 15 = .ok (.ireturn, 1) := by decide +kernel
def site : List Cond := [.fieldLink "java/lang/String" 9 "java/lang/String" "value" "[B", IsL.tab, LChA.tab] ++ virtW "java/lang/String" 492 "java/lang/String" IsL.yN IsL.yN ++ staticW "java/lang/String" 495 LChA.yN
def tab : Cond := tabOf yN yB 2 (some .char) site
def P (x t : Addr) (V : Cell) (n : Nat) (f : Nat → Int32) (z : Int32) (fm : Value) (i : Nat) (args : Array Value) (s : State) : Prop := args = #[.ref x, .int (Int32.ofNat i)] ∧ Txt x t V 0 n f s ∧ i < n ∧ StaticIs s "java/lang/String" "COMPACT_STRINGS" "Z" (.int z) ∧ ¬ z = 0 ∧ StaticIs s "jdk/internal/util/Preconditions" "SIOOBE_FORMATTER" "Ljava/util/function/BiFunction;" fm ∧ fm.isRef = true
def E (f : Nat → Int32) (i : Nat) (r : Option Value) (s u : State) : Prop := XT.PureE (some (.int (f i))) r s u
/-- charAt(i) of a Latin-1 String of n chars, i < n: f i -/
theorem law (l : Launch) (x t : Addr) (V : Cell) (n : Nat) (f : Nat → Int32) (z : Int32) (fm : Value) (i : Nat) : Law l yN 2 1 3 40 yB 2 (some .char) site (P x t V n f z fm i) (E f i) [] 0 0 := by
  refine Law.of_walk (plainFor_of_name (by decide +kernel)) (by decide +kernel) (by decide +kernel) (by decide) (fun _ _ h => by rw [h.1]; rfl) (fun _ U U' hal hh h => ⟨h.1, h.2.1.mv hal hh, h.2.2.1, h.2.2.2.1.there hal hh, h.2.2.2.2.1, h.2.2.2.2.2.1.there hal hh, h.2.2.2.2.2.2⟩) (fun r U U' V V' h1 hal h2 h => XT.PureE.mv r U U' V V' h1 hal h2 h) ?_
  intro p e s m args below meth c s₁ X0 hexec hbytes hml hret hlk hnm hown hh0 W hP
  obtain ⟨rfl, hx, hi, s1, hz, s3, rf⟩ := hP
  have v31 := hx.2.2.2.1.2.2.2
  have hr := hx.2.2.2.2.2 i hi
  have hx0 := hx.mv X0.warmed.alike hh0
  have c1 : Steps p.tables e below (s₁.setTop (entryFrame m #[.ref x, .int (Int32.ofNat i)] 2)) (s₁.setTop (mkF m 1 #[.val (.ref x), .val (.int (Int32.ofNat i))] [.ref x])) := Steps.trans (entry rfl) (by
    show Steps p.tables e below (s₁.setTop (mkF m 0 #[.val (.ref x), .val (.int (Int32.ofNat i))] [])) _
    refine XS.aloadN X0.here hexec rfl (hb hbytes d0) rfl rfl ?_
    exact Steps.refl _)
  obtain ⟨v2, T2, X2, E2, g2⟩ := X0.callV hexec (IsL.law l x 0 z) hown (wks W (virtW "java/lang/String" 492 "java/lang/String" IsL.yN IsL.yN)) rfl (by decide) (wk W IsL.tab) (W := 0) (Nat.le_of_ble_eq_true rfl) (Nat.le_of_ble_eq_true rfl) (Nat.le_refl _) (Nat.le_refl _) (hx0.1.fc X0.warmed.alike) hx0.1.is (g := (mkF m 1 #[.val (.ref x), .val (.int (Int32.ofNat i))] [.ref x])) rfl (by rw [hml]; rfl) c1 (argsL := []) (rest := []) rfl rfl (by show 2 * 0 + 0 ≤ _; decide) (hb hbytes d1) (⟨rfl, hx0.2.2.1, hx.2.2.2.2.1.cd, s1.there X0.warmed.alike hh0, hz⟩)
  obtain ⟨rfl, q2⟩ := E2
  have hh2 := q2.trans hh0
  have hx2 := hx.mv X2.warmed.alike hh2
  obtain ⟨-, k1, k2⟩ | ⟨k0, -⟩ := hx.2.2.2.2.1
  · have c3 : Steps p.tables e below (s₁.setTop (entryFrame m #[.ref x, .int (Int32.ofNat i)] 2)) (T2.setTop (mkF m 8 #[.val (.ref x), .val (.int (Int32.ofNat i))] [.ref x])) := Steps.trans g2 (by
      refine XS.ifNo X2.here hexec rfl (hb hbytes d4) rfl (i0_eq_f (by decide)) ?_
      refine XS.aloadN X2.here hexec rfl (hb hbytes d7) rfl rfl ?_
      exact Steps.refl _)
    obtain ⟨T4, X4, q4, st4⟩ := X2.hget hexec hown (wk W (.fieldLink "java/lang/String" 9 "java/lang/String" "value" "[B")) hx2.2.1 (g := (mkF m 8 #[.val (.ref x), .val (.int (Int32.ofNat i))] [.ref x])) rfl (rest := []) rfl (hb hbytes d8)
    have hh4 := q4.trans hh2
    have c5 : Steps p.tables e below (s₁.setTop (entryFrame m #[.ref x, .int (Int32.ofNat i)] 2)) (T4.setTop (mkF m 12 #[.val (.ref x), .val (.int (Int32.ofNat i))] [.int (Int32.ofNat i), .ref t])) := (c3.trans (st4 _ (Steps.refl _))).trans (by
      refine XS.iloadN X4.here hexec rfl (hb hbytes d11) rfl ?_
      exact Steps.refl _)
    obtain ⟨v6, T6, X6, E6, g6⟩ := X4.callS hexec (LChA.law l t V i (lo8 (f i)) fm) hown (wks W (staticW "java/lang/String" 495 LChA.yN)) (wk W LChA.tab) (W := 0) (Nat.le_of_ble_eq_true rfl) (Nat.le_of_ble_eq_true rfl) (Nat.le_refl _) (Nat.le_refl _) (g := (mkF m 12 #[.val (.ref x), .val (.int (Int32.ofNat i))] [.int (Int32.ofNat i), .ref t])) rfl (by rw [hml]; rfl) c5 (argsL := [.ref t, .int (Int32.ofNat i)]) (rest := []) rfl rfl (by show 2 * 0 + 0 ≤ _; decide) (hb hbytes d12) (⟨rfl, hx.2.2.2.1.mv X4.warmed.alike hh4, (k2 i hi).1, s3.there X4.warmed.alike hh4, rf⟩)
    obtain ⟨rfl, q6⟩ := E6
    rw [chr8_lo8 hr.1 (k2 i hi).2] at g6
    exact ⟨T6, some (.int (f i)), _, _, _, X6, rfl, rfl, rfl, (fun h => by cases h), ⟨rfl, q6.trans hh4⟩, fun fs hl => Steps.trans g6 (X6.ireturnOut hexec hret (narrow_ch hr.1 hr.2) (Or.inr (Or.inr (Or.inr (Or.inl rfl)))) (hb hbytes d15) hl)⟩
  · exact absurd k0 (by decide)
theorem pays {l : Launch} {R : Room} {p : Program} {e : Env} {below : List Frame} {s : State} {sargs : Array Value} {len W : Nat} (x t : Addr) (V : Cell) (n : Nat) (f : Nat → Int32) (z : Int32) (fm : Value) (i : Nat) (htab : tab.before sargs s = true) (hfr : 4 ≤ R.frames) (hlo : W + 53 ≤ R.locals) :
    Back l R p e below s sargs yN len W (fun A₁ a₁ => A₁.cells + 0 ≤ R.cells ∧ A₁.slots + 0 ≤ R.slots ∧ P x t V n f z fm i a₁ A₁.U) (fun A₁ _ v₁ B₁ => E f i v₁ A₁.U B₁.U ∧ B₁.locs = A₁.locs ++ [] ∧ B₁.cells = A₁.cells + 0 ∧ B₁.slots = A₁.slots + 0) :=
  (law l x t V n f z fm i).pays htab hfr (by omega)
end ChN
end StrChars
namespace StrChars.Road
open Jvm Sem ClassFile Op Lib Jvm.Stand Jvm.Free Jvm.Free.XT
open Jvm.Lib.Cold (StaticIs)
/-- the words of String.charAt(int), the Latin-1 road alone -/
abbrev wordsChN : List Jvm.Cond := [.code ChN.yN ChN.yB 2 (some .char), .initialized ST, .fieldLink ST 9 ST "value" "[B", .fieldLink ST 38 ST "COMPACT_STRINGS" "Z", .fieldLink ST 15 ST "coder" "B", .code IsL.yN IsL.yB 1 (some .boolean), .methodLink ST 492 IsL.yN, .declares IsL.yN, .selects ST IsL.yN IsL.yN, .instanceMethod IsL.yN,
  .methodLink ST 495 LChA.yN, .static LChA.yN, .code LChA.yN LChA.yB 2 (some .char), .initialized "java/lang/StringLatin1", .methodLink "java/lang/StringLatin1" 9 JO.Str_checkIndex.yN, .static JO.Str_checkIndex.yN, .code JO.Str_checkIndex.yN JO.Str_checkIndex.yB 2 none,
  .fieldLink ST 1053 "jdk/internal/util/Preconditions" "SIOOBE_FORMATTER" "Ljava/util/function/BiFunction;", .methodLink ST 1059 JC.PreCheck.yN, .static JC.PreCheck.yN, .code JC.PreCheck.yN JC.PreCheck.yB 3 (some .int), .initialized "jdk/internal/util/Preconditions"]
theorem tabChN_of {a : Array Value} {s : State} (h : ∀ w ∈ wordsChN, w.before a s = true) : ChN.tab.before a s = true := by
  have hp : JC.PreCheck.tab.before a s = true := unparts (wk h (.code JC.PreCheck.yN JC.PreCheck.yB 3 (some .int))) (wks h (.initialized JC.PreCheck.yN.cls :: JC.PreCheck.site))
  have qk := consq hp h
  have hk : JO.Str_checkIndex.tab.before a s = true := unparts (wk qk (.code JO.Str_checkIndex.yN JO.Str_checkIndex.yB 2 none)) (wks qk (.initialized JO.Str_checkIndex.yN.cls :: JO.Str_checkIndex.site))
  have ql := consq hk h
  have hl : LChA.tab.before a s = true := unparts (wk ql (.code LChA.yN LChA.yB 2 (some .char))) (wks ql (.initialized LChA.yN.cls :: LChA.site))
  have hi : IsL.tab.before a s = true := unparts (wk h (.code IsL.yN IsL.yB 1 (some .boolean))) (wks h (.initialized IsL.yN.cls :: IsL.site))
  have q := consq hi (consq hl h)
  exact unparts (wk q (.code ChN.yN ChN.yB 2 (some .char))) (wks q (.initialized ChN.yN.cls :: ChN.site))
theorem movedChN {Z s : State} {a0 args : Array Value} (hZ : Z.Warmed39 s.vm) (hw : ∀ d ∈ wordsChN, d.before a0 Z = true) : ∀ d ∈ wordsChN, d.before args s = true := fun d hd => by
  have t : ∀ d ∈ wordsChN, (d.onTables && d.keepsFace) = true := by decide +kernel
  exact RoadKit.mv hZ (hw d hd) (t d hd)
/-- **charAt(i) OF A LATIN-1 STRING**, i < n: the char -/
theorem chN {p : Program} {l : Launch} {e : Env} {R : Room} {s : State} {args : Array Value} {below : List Frame} {len W : Nat} {Z : State} {a0 : Array Value} {h : Heap} (hZ : Z.Warmed39 s.vm) (hw : ∀ d ∈ wordsChN, d.before a0 Z = true) {kI : Nat} (wi : (Jvm.Cond.instantiable ST kI).before a0 Z = true)
    {x t : Addr} {kb : ClassId} {cs : List Int32} {N2 z : Int32} {vs : List Value} {fm : Value} {i : Nat} {j : Int32} (E : RoadKit.Exa Z h x ST) (V : RoadKit.Fld Z h x ST "value" "[B" (.ref t)) (C : RoadKit.Fld Z h x ST "coder" "B" (.int 0)) (K : RoadKit.Arv Z h t kb .byte N2 vs (.int 0)) (hc : CodA cs 0 N2 vs) (hb : ∀ c ∈ cs, ¬ c < 0 ∧ ¬ (65535 : Int32) < c)
    (S : RoadKit.Sta Z h ST "COMPACT_STRINGS" "Z" (.int z)) (hz : ¬ z = 0) (F : RoadKit.Sta Z h "jdk/internal/util/Preconditions" "SIOOBE_FORMATTER" "Ljava/util/function/BiFunction;" fm) (rf : fm.isRef = true) (l2 : cs.length ≤ 4000) (hi : i < cs.length) (hj : j = Int32.ofNat i) (hfr : 4 ≤ R.frames) (hlo : W + 53 ≤ R.locals) :
    Back l R p e below s args (⟨"java/lang/String", "charAt", "(I)C"⟩ : MethodName) len W (fun P a => a = #[.ref x, .int j] ∧ P.U.heap = h ∧ P.cells + 0 ≤ R.cells ∧ P.slots + 0 ≤ R.slots)
      (fun P _ v B => ∃ L, (v = some (.int (cs.getD i 0)) ∧ L = [] ∧ B.U.heap = h) ∧ B.locs = P.locs ++ L ∧ B.cells = P.cells + 0 ∧ B.slots = P.slots + 0) := by
  subst hj
  intro m meth c P g ig mk a X hg hsize hdg hW hn hp'
  obtain ⟨rfl, rfl, r1, r2⟩ := hp'
  have al : Z.vm.Alike P.U.vm := hZ.alike.trans X.warmed.alike
  obtain ⟨A, hx⟩ := txt_of wi al E V C K hc hb l2
  obtain ⟨v, B, X', ⟨⟨hv, hh⟩, hl, hk, hs⟩, st⟩ := ChN.pays x t A cs.length (fun j => cs.getD j 0) z fm i (tabChN_of (movedChN hZ hw)) hfr hlo m meth c P g ig mk _ X hg hsize hdg hW hn ⟨r1, r2, rfl, hx, hi, sta_is al S, hz, sta_is al F, rf⟩
  exact ⟨v, B, X', ⟨[], ⟨hv, rfl, hh⟩, hl, hk, hs⟩, st⟩
/-- what backV says of its String, as the contracts of this text ask it: cs's low bytes, coder 0 -/
theorem codOf {cs : List Int32} {n : Nat} (hn : cs.length = n) (hb : ∀ c ∈ cs, ¬ 255 < c) : CodA cs 0 (Int32.ofNat n) ((cs.map lo8).map Value.int) := Or.inl ⟨rfl, by rw [hn], by simp [List.map_map, Function.comp_def], hb⟩
end StrChars.Road
end Jvm.Pilot.@@N@@

namespace Jvm.Pilot.@@N@@
open Jvm Jvm.ClassFile Sem Op Lib Jvm.Free Jvm.Stand Jvm.LawKit Jvm.RoadKit Bundle Jvm.Pilot.@@N@@.Jvm.D
/-- x is a Latin-1 String of the chars cs, its bytes in the array t -/
def Str (Z : State) (h : Heap) (x t : Addr) (k : ClassId) (cs : List Int32) : Prop := Exa Z h x "java/lang/String" ∧ Fld Z h x "java/lang/String" "value" "[B" (.ref t) ∧ Fld Z h x "java/lang/String" "coder" "B" (.int 0) ∧ Arv Z h t k .byte (Int32.ofNat cs.length) ((cs.map fun c => c.toInt8.toInt32).map Value.int) (.int 0) ∧ (∀ c ∈ cs, ¬ c < 0 ∧ ¬ (255 : Int32) < c) ∧ cs.length ≤ 4000
theorem Str.ext {Z : State} {h h' : Heap} {x t : Addr} {k : ClassId} {cs : List Int32} (S : Str Z h x t k cs) (E : Ext h h') : Str Z h' x t k cs := ⟨S.1.ext E, S.2.1.ext E, S.2.2.1.ext E, S.2.2.2.1.ext E, S.2.2.2.2⟩
theorem Str.keep {Z : State} {h h' : Heap} {x t : Addr} {k : ClassId} {cs : List Int32} {ws : List Addr} (S : Str Z h x t k cs) (K : Keep h h' ws) (q : x ∉ ws) (r : t ∉ ws) : Str Z h' x t k cs := ⟨S.1.keep K, S.2.1.keep K q, S.2.2.1.keep K q, S.2.2.2.1.keep K r, S.2.2.2.2⟩
theorem Str.other {Z : State} {h h' : Heap} {x t a : Addr} {k : ClassId} {cs : List Int32} {sl : Nat} {v : Value} (S : Str Z h x t k cs) (W : Wr h h' a sl v) (q : x ≠ a) (r : t ≠ a) : Str Z h' x t k cs := ⟨S.1.wr W, S.2.1.other W (Or.inl q), S.2.2.1.other W (Or.inl q), S.2.2.2.1.other W r, S.2.2.2.2⟩
theorem Str.ltT {Z : State} {h : Heap} {x t : Addr} {k : ClassId} {cs : List Int32} (S : Str Z h x t k cs) : t < h.size := S.2.2.2.1.lt
theorem own_c0 {P : Int32 → Prop} : ∀ c ∈ ([] : List Int32), P c := fun _ q => nomatch q
theorem own_cS {P : Int32 → Prop} {y : Int32} {L : List Int32} (q : P y) (r : ∀ c ∈ L, P c) : ∀ c ∈ y :: L, P c := fun c z => (List.mem_cons.mp z).elim (fun u => u ▸ q) (r c)
theorem own_lit (x : Int32) (k : Nat) (hk : k < 2 ^ 31) : (x &&& (255 : Int32)) = Int32.ofNat (x &&& 255).toBitVec.toNat := by
  apply Int32.toBitVec_inj.mp
  show _ = BitVec.ofNat 32 _
  rw [BitVec.ofNat_toNat]; simp
theorem own_lt256 (x : Int32) : (x &&& 255).toBitVec.toNat < 256 := by
  simp only [Int32.toBitVec_and, BitVec.toNat_and]
  exact Nat.lt_succ_of_le Nat.and_le_right
theorem own_and255 (x : Int32) : ¬ nar .char ((x &&& (255 : Int32)).toUInt32.toUInt16.toUInt32.toInt32) < 0 ∧ ¬ (255 : Int32) < nar .char ((x &&& (255 : Int32)).toUInt32.toUInt16.toUInt32.toInt32) := by
  have t : ∀ k : Fin 256, ¬ nar .char ((Int32.ofNat k.val).toUInt32.toUInt16.toUInt32.toInt32) < 0 ∧ ¬ (255 : Int32) < nar .char ((Int32.ofNat k.val).toUInt32.toUInt16.toUInt32.toInt32) := by decide +kernel
  rw [own_lit x 0 (by decide)]
  exact t ⟨_, own_lt256 x⟩
theorem own_i2c255 (x : Int32) : nar .char ((x &&& (255 : Int32)).toUInt32.toUInt16.toUInt32.toInt32) = (x &&& (255 : Int32)) := by
  have t : ∀ k : Fin 256, nar .char ((Int32.ofNat k.val).toUInt32.toUInt16.toUInt32.toInt32) = Int32.ofNat k.val := by decide +kernel
  rw [own_lit x 0 (by decide)]
  exact t ⟨_, own_lt256 x⟩
theorem own_i2cr (x : Int32) : ¬ ((x &&& (255 : Int32)).toUInt32.toUInt16.toUInt32.toInt32) < 0 ∧ ¬ (255 : Int32) < ((x &&& (255 : Int32)).toUInt32.toUInt16.toUInt32.toInt32) := by
  have t : ∀ k : Fin 256, ¬ ((Int32.ofNat k.val).toUInt32.toUInt16.toUInt32.toInt32) < 0 ∧ ¬ (255 : Int32) < ((Int32.ofNat k.val).toUInt32.toUInt16.toUInt32.toInt32) := by decide +kernel
  rw [own_lit x 0 (by decide)]
  exact t ⟨_, own_lt256 x⟩
theorem own_rng {c : Int32} (h : ¬ c < 0 ∧ ¬ (255 : Int32) < c) : ∃ k : Fin 256, c = Int32.ofNat k.val := by
  obtain ⟨h0, h1⟩ := h
  rw [Int32.lt_iff_toInt_lt] at h0 h1
  have e1 : (255 : Int32).toInt = 255 := rfl
  have e2 : (0 : Int32).toInt = 0 := rfl
  refine ⟨⟨c.toInt.toNat, by omega⟩, ?_⟩
  apply Int32.toInt_inj.mp
  show c.toInt = (Int32.ofNat c.toInt.toNat).toInt
  rw [Int32.toInt_ofNat_of_lt (by omega)]
  omega
theorem own_narc {c : Int32} (h : ¬ c < 0 ∧ ¬ (255 : Int32) < c) : nar .char c = c := by
  have t : ∀ k : Fin 256, nar .char (Int32.ofNat k.val) = Int32.ofNat k.val := by decide +kernel
  obtain ⟨k, rfl⟩ := own_rng h
  exact t k
theorem own_fitsc {c : Int32} (h : ¬ c < 0 ∧ ¬ (255 : Int32) < c) : fits .char (.int c) = true := by
  have t : ∀ k : Fin 256, fits .char (.int (Int32.ofNat k.val)) = true := by decide +kernel
  obtain ⟨k, rfl⟩ := own_rng h
  exact t k
theorem own_up {cs : List Int32} (h : ∀ c ∈ cs, ¬ c < 0 ∧ ¬ (255 : Int32) < c) : ∀ c ∈ cs, ¬ c < 0 ∧ ¬ (65535 : Int32) < c := fun c hc => ⟨(h c hc).1, fun q => (h c hc).2 (by rw [Int32.lt_iff_toInt_lt] at q ⊢; have e1 : (65535 : Int32).toInt = 65535 := rfl; have e2 : (255 : Int32).toInt = 255 := rfl; omega)⟩
theorem own_hws {Z : State} {a0 : Array Value} (hw : ∀ d ∈ tables_1, d.before a0 Z = true) : ∀ d ∈ StrChars.Road.words, d.before a0 Z = true := fun d hd => hw d ((by decide +kernel : ∀ d ∈ StrChars.Road.words, d ∈ tables_1) d hd)
theorem own_cod {Z : State} {h : Heap} {x t : Addr} {k : ClassId} {cs : List Int32} (S : Str Z h x t k cs) : StrChars.Road.CodA cs 0 (Int32.ofNat cs.length) ((cs.map fun c => c.toInt8.toInt32).map Value.int) := StrChars.Road.codOf rfl fun c hc => (S.2.2.2.2.1 c hc).2
theorem own_ite {v : Option Value} {cs ds : List Int32} (h : (v = some (.int 1) ∧ cs = ds) ∨ (v = some (.int 0) ∧ ¬ cs = ds)) : v = some (.int (if cs = ds then (1 : Int32) else 0)) := by rcases h with ⟨rfl, h⟩ | ⟨rfl, h⟩ <;> simp [h]
theorem own_heq {Z : State} {a0 : Array Value} (hw : ∀ d ∈ tables_1, d.before a0 Z = true) : ∀ d ∈ StrChars.Road.wordsEq, d.before a0 Z = true := fun d hd => hw d ((by decide +kernel : ∀ d ∈ StrChars.Road.wordsEq, d ∈ tables_1) d hd)
theorem own_hln {Z : State} {a0 : Array Value} (hw : ∀ d ∈ tables_1, d.before a0 Z = true) : ∀ d ∈ StrChars.Road.wordsLen, d.before a0 Z = true := fun d hd => hw d ((by decide +kernel : ∀ d ∈ StrChars.Road.wordsLen, d ∈ tables_1) d hd)
theorem own_hch {Z : State} {a0 : Array Value} (hw : ∀ d ∈ tables_1, d.before a0 Z = true) : ∀ d ∈ StrChars.Road.wordsChN, d.before a0 Z = true := fun d hd => hw d ((by decide +kernel : ∀ d ∈ StrChars.Road.wordsChN, d ∈ tables_1) d hd)
end Jvm.Pilot.@@N@@
namespace Jvm.Pilot.@@N@@
open Jvm Jvm.ClassFile Sem Op Lib Jvm.Free Jvm.Stand Jvm.LawKit Jvm.RoadKit Bundle Jvm.Pilot.@@N@@.Jvm.D
theorem d1_0 : decode prog_18_method_4_code 0 = .ok (.invokestatic 39, 3) := by decide +kernel
theorem d1_3 : decode prog_18_method_4_code 3 = .ok (.astore_n 1, 1) := by decide +kernel
theorem d1_4 : decode prog_18_method_4_code 4 = .ok (.aload_n 1, 1) := by decide +kernel
theorem d1_5 : decode prog_18_method_4_code 5 = .ok (.arraylength, 1) := by decide +kernel
theorem d1_6 : decode prog_18_method_4_code 6 = .ok (.istore_n 2, 1) := by decide +kernel
theorem d1_7 : decode prog_18_method_4_code 7 = .ok (.iconst 0, 1) := by decide +kernel
theorem d1_8 : decode prog_18_method_4_code 8 = .ok (.istore_n 3, 1) := by decide +kernel
theorem d1_9 : decode prog_18_method_4_code 9 = .ok (.iload_n 3, 1) := by decide +kernel
theorem d1_10 : decode prog_18_method_4_code 10 = .ok (.iload_n 2, 1) := by decide +kernel
theorem d1_11 : decode prog_18_method_4_code 11 = .ok (.if_icmp .ge 29, 3) := by decide +kernel
theorem d1_14 : decode prog_18_method_4_code 14 = .ok (.aload_n 1, 1) := by decide +kernel
theorem d1_15 : decode prog_18_method_4_code 15 = .ok (.iload_n 3, 1) := by decide +kernel
theorem d1_16 : decode prog_18_method_4_code 16 = .ok (.aaload, 1) := by decide +kernel
theorem d1_17 : decode prog_18_method_4_code 17 = .ok (.astore 4, 2) := by decide +kernel
theorem d1_19 : decode prog_18_method_4_code 19 = .ok (.aload 4, 2) := by decide +kernel
theorem d1_21 : decode prog_18_method_4_code 21 = .ok (.getfield 32, 3) := by decide +kernel
theorem d1_24 : decode prog_18_method_4_code 24 = .ok (.aload_n 0, 1) := by decide +kernel
theorem d1_25 : decode prog_18_method_4_code 25 = .ok (.invokevirtual 43, 3) := by decide +kernel
theorem d1_28 : decode prog_18_method_4_code 28 = .ok (.ifCond .eq 6, 3) := by decide +kernel
theorem d1_31 : decode prog_18_method_4_code 31 = .ok (.aload 4, 2) := by decide +kernel
theorem d1_33 : decode prog_18_method_4_code 33 = .ok (.areturn, 1) := by decide +kernel
theorem d1_34 : decode prog_18_method_4_code 34 = .ok (.iinc 3 1, 3) := by decide +kernel
theorem d1_37 : decode prog_18_method_4_code 37 = .ok (.goto (-28), 3) := by decide +kernel
theorem d1_40 : decode prog_18_method_4_code 40 = .ok (.aconst_null, 1) := by decide +kernel
theorem d1_41 : decode prog_18_method_4_code 41 = .ok (.areturn, 1) := by decide +kernel
theorem d2_0 : decode prog_18_method_1_code 0 = .ok (.getstatic 13, 3) := by decide +kernel
theorem d2_3 : decode prog_18_method_1_code 3 = .ok (.invokevirtual 17, 3) := by decide +kernel
theorem d2_6 : decode prog_18_method_1_code 6 = .ok (.checkcast 18, 3) := by decide +kernel
theorem d2_9 : decode prog_18_method_1_code 9 = .ok (.areturn, 1) := by decide +kernel
theorem d3_0 : decode jdk_42_method_66_code 0 = .ok (.aload_n 0, 1) := by decide +kernel
theorem d3_1 : decode jdk_42_method_66_code 1 = .ok (.aload_n 1, 1) := by decide +kernel
theorem d3_2 : decode jdk_42_method_66_code 2 = .ok (.if_acmp .ne 5, 3) := by decide +kernel
theorem d3_7 : decode jdk_42_method_66_code 7 = .ok (.aload_n 1, 1) := by decide +kernel
theorem d3_8 : decode jdk_42_method_66_code 8 = .ok (.instanceof 10, 3) := by decide +kernel
theorem d3_11 : decode jdk_42_method_66_code 11 = .ok (.ifCond .eq 43, 3) := by decide +kernel
theorem d3_54 : decode jdk_42_method_66_code 54 = .ok (.iconst 0, 1) := by decide +kernel
theorem d3_55 : decode jdk_42_method_66_code 55 = .ok (.ireturn, 1) := by decide +kernel
theorem d4_0 : decode method_4_code 0 = .ok (.aload_n 0, 1) := by decide +kernel
theorem d4_1 : decode method_4_code 1 = .ok (.ifnonnull 5, 3) := by decide +kernel
theorem d4_4 : decode method_4_code 4 = .ok (.aconst_null, 1) := by decide +kernel
theorem d4_5 : decode method_4_code 5 = .ok (.areturn, 1) := by decide +kernel
theorem d4_6 : decode method_4_code 6 = .ok (.aload_n 0, 1) := by decide +kernel
theorem d4_7 : decode method_4_code 7 = .ok (.ldc 7, 2) := by decide +kernel
theorem d4_9 : decode method_4_code 9 = .ok (.invokevirtual 50, 3) := by decide +kernel
theorem d4_12 : decode method_4_code 12 = .ok (.ifCond .eq 7, 3) := by decide +kernel
theorem d4_15 : decode method_4_code 15 = .ok (.getstatic 54, 3) := by decide +kernel
theorem d4_18 : decode method_4_code 18 = .ok (.areturn, 1) := by decide +kernel
theorem d4_19 : decode method_4_code 19 = .ok (.aload_n 0, 1) := by decide +kernel
theorem d4_20 : decode method_4_code 20 = .ok (.ldc 9, 2) := by decide +kernel
theorem d4_22 : decode method_4_code 22 = .ok (.invokevirtual 50, 3) := by decide +kernel
theorem d4_25 : decode method_4_code 25 = .ok (.ifCond .eq 7, 3) := by decide +kernel
theorem d4_28 : decode method_4_code 28 = .ok (.getstatic 58, 3) := by decide +kernel
theorem d4_31 : decode method_4_code 31 = .ok (.areturn, 1) := by decide +kernel
theorem d4_32 : decode method_4_code 32 = .ok (.aload_n 0, 1) := by decide +kernel
theorem d4_33 : decode method_4_code 33 = .ok (.ldc 11, 2) := by decide +kernel
theorem d4_35 : decode method_4_code 35 = .ok (.invokevirtual 50, 3) := by decide +kernel
theorem d4_38 : decode method_4_code 38 = .ok (.ifCond .eq 7, 3) := by decide +kernel
theorem d4_41 : decode method_4_code 41 = .ok (.getstatic 61, 3) := by decide +kernel
theorem d4_44 : decode method_4_code 44 = .ok (.areturn, 1) := by decide +kernel
theorem d4_45 : decode method_4_code 45 = .ok (.aconst_null, 1) := by decide +kernel
theorem d4_46 : decode method_4_code 46 = .ok (.areturn, 1) := by decide +kernel
theorem d7_0 : decode method_3_code 0 = .ok (.iload_n 1, 1) := by decide +kernel
theorem d7_1 : decode method_3_code 1 = .ok (.aload_n 0, 1) := by decide +kernel
theorem d7_2 : decode method_3_code 2 = .ok (.invokevirtual 15, 3) := by decide +kernel
theorem d7_5 : decode method_3_code 5 = .ok (.if_icmp .ge 11, 3) := by decide +kernel
theorem d7_8 : decode method_3_code 8 = .ok (.aload_n 0, 1) := by decide +kernel
theorem d7_9 : decode method_3_code 9 = .ok (.iload_n 1, 1) := by decide +kernel
theorem d7_10 : decode method_3_code 10 = .ok (.invokevirtual 46, 3) := by decide +kernel
theorem d7_13 : decode method_3_code 13 = .ok (.goto 5, 3) := by decide +kernel
theorem d7_16 : decode method_3_code 16 = .ok (.iload_n 2, 1) := by decide +kernel
theorem d7_17 : decode method_3_code 17 = .ok (.i2c, 1) := by decide +kernel
theorem d7_18 : decode method_3_code 18 = .ok (.ireturn, 1) := by decide +kernel
theorem d13_0 : decode jdk_42_method_3_code 0 = .ok (.aload_n 0, 1) := by decide +kernel
theorem d13_1 : decode jdk_42_method_3_code 1 = .ok (.aload_n 1, 1) := by decide +kernel
theorem d13_2 : decode jdk_42_method_3_code 2 = .ok (.iconst 0, 1) := by decide +kernel
theorem d13_3 : decode jdk_42_method_3_code 3 = .ok (.aload_n 1, 1) := by decide +kernel
theorem d13_4 : decode jdk_42_method_3_code 4 = .ok (.arraylength, 1) := by decide +kernel
theorem d13_5 : decode jdk_42_method_3_code 5 = .ok (.aconst_null, 1) := by decide +kernel
theorem d13_6 : decode jdk_42_method_3_code 6 = .ok (.invokespecial 27, 3) := by decide +kernel
theorem d13_9 : decode jdk_42_method_3_code 9 = .ok (.return_, 1) := by decide +kernel
theorem d14_0 : decode jdk_42_method_149_code 0 = .ok (.aload_n 0, 1) := by decide +kernel
theorem d14_1 : decode jdk_42_method_149_code 1 = .ok (.invokespecial 1, 3) := by decide +kernel
theorem d14_4 : decode jdk_42_method_149_code 4 = .ok (.iload_n 3, 1) := by decide +kernel
theorem d14_5 : decode jdk_42_method_149_code 5 = .ok (.ifCond .ne 22, 3) := by decide +kernel
theorem d14_8 : decode jdk_42_method_149_code 8 = .ok (.aload_n 0, 1) := by decide +kernel
theorem d14_9 : decode jdk_42_method_149_code 9 = .ok (.ldc 7, 2) := by decide +kernel
theorem d14_11 : decode jdk_42_method_149_code 11 = .ok (.getfield 9, 3) := by decide +kernel
theorem d14_14 : decode jdk_42_method_149_code 14 = .ok (.putfield 9, 3) := by decide +kernel
theorem d14_17 : decode jdk_42_method_149_code 17 = .ok (.aload_n 0, 1) := by decide +kernel
theorem d14_18 : decode jdk_42_method_149_code 18 = .ok (.ldc 7, 2) := by decide +kernel
theorem d14_20 : decode jdk_42_method_149_code 20 = .ok (.getfield 15, 3) := by decide +kernel
theorem d14_23 : decode jdk_42_method_149_code 23 = .ok (.putfield 15, 3) := by decide +kernel
theorem d14_26 : decode jdk_42_method_149_code 26 = .ok (.return_, 1) := by decide +kernel
theorem d20_0 : decode jdk_29_method_65_code 0 = .ok (.iload_n 0, 1) := by decide +kernel
theorem d20_1 : decode jdk_29_method_65_code 1 = .ok (.iload_n 1, 1) := by decide +kernel
theorem d20_2 : decode jdk_29_method_65_code 2 = .ok (.if_icmp .lt 7, 3) := by decide +kernel
theorem d20_5 : decode jdk_29_method_65_code 5 = .ok (.iload_n 0, 1) := by decide +kernel
theorem d20_6 : decode jdk_29_method_65_code 6 = .ok (.goto 4, 3) := by decide +kernel
theorem d20_9 : decode jdk_29_method_65_code 9 = .ok (.iload_n 1, 1) := by decide +kernel
theorem d20_10 : decode jdk_29_method_65_code 10 = .ok (.ireturn, 1) := by decide +kernel
theorem pn_0 : plainName "java/lang/String" = true := by first | (simp [plainName, overriddenIn]; done) | decide +kernel
theorem pn_1 : plainName "com/example/sillon/sillon/siri/GeneralMessageChannel" = true := by first | (simp [plainName, overriddenIn]; done) | decide +kernel
theorem pn_2 : plainName "com/example/sillon/sillon/siri/GeneralMessageChannelNamedPinLaw" = true := by first | (simp [plainName, overriddenIn]; done) | decide +kernel
theorem pn_3 : plainFor (⟨"java/lang/Math", "max", "(II)I"⟩ : MethodName) = true := by decide +kernel
theorem pd_0 : parseMethodDescriptor "([CIILjava/lang/Void;)V" = some ⟨[(.array .char), .int, .int, (.object "java/lang/Void")], none⟩ := by decide +kernel
theorem pd_1 : parseMethodDescriptor "()[Lcom/example/sillon/sillon/siri/GeneralMessageChannel;" = some ⟨[], some (.array (.object "com/example/sillon/sillon/siri/GeneralMessageChannel"))⟩ := by decide +kernel
theorem pd_2 : parseMethodDescriptor "(Ljava/lang/Object;)Z" = some ⟨[(.object "java/lang/Object")], some .boolean⟩ := by decide +kernel
theorem pd_3 : parseMethodDescriptor "()I" = some ⟨[], some .int⟩ := by decide +kernel
theorem pd_4 : parseMethodDescriptor "(I)C" = some ⟨[.int], some .char⟩ := by decide +kernel
theorem pd_5 : parseMethodDescriptor "([C)V" = some ⟨[(.array .char)], none⟩ := by decide +kernel
theorem pd_6 : parseMethodDescriptor "(Ljava/lang/String;)Lcom/example/sillon/sillon/siri/GeneralMessageChannel;" = some ⟨[(.object "java/lang/String")], some (.object "com/example/sillon/sillon/siri/GeneralMessageChannel")⟩ := by decide +kernel
theorem pd_7 : parseMethodDescriptor "(Ljava/lang/String;II)C" = some ⟨[(.object "java/lang/String"), .int, .int], some .char⟩ := by decide +kernel
theorem pd_8 : parseMethodDescriptor "(II)I" = some ⟨[.int, .int], some .int⟩ := by decide +kernel
theorem hw0 {Z : State} {a0 : Array Value} (hw : ∀ d ∈ tables_1, d.before a0 Z = true) : (Jvm.Cond.stringLink "com/example/sillon/sillon/siri/GeneralMessageChannelNamedPinLaw" (7 : Nat) "Perturbation").before a0 Z = true := hw _ (List.mem_of_getElem? (i := 0) rfl)
theorem hw1 {Z : State} {a0 : Array Value} (hw : ∀ d ∈ tables_1, d.before a0 Z = true) : (Jvm.Cond.initialized "java/lang/String").before a0 Z = true := hw _ (List.mem_of_getElem? (i := 1) rfl)
theorem hw2 {Z : State} {a0 : Array Value} (hw : ∀ d ∈ tables_1, d.before a0 Z = true) : (Jvm.Cond.instantiable "java/lang/String" (4 : Nat)).before a0 Z = true := hw _ (List.mem_of_getElem? (i := 2) rfl)
theorem hw3 {Z : State} {a0 : Array Value} (hw : ∀ d ∈ tables_1, d.before a0 Z = true) : (Jvm.Cond.arrayClass Jvm.ClassFile.FieldType.byte).before a0 Z = true := hw _ (List.mem_of_getElem? (i := 3) rfl)
theorem hw4 {Z : State} {a0 : Array Value} (hw : ∀ d ∈ tables_1, d.before a0 Z = true) : (Jvm.Cond.laysFinal "java/lang/String" "java/lang/String" "value" "[B").before a0 Z = true := hw _ (List.mem_of_getElem? (i := 4) rfl)
theorem hw5 {Z : State} {a0 : Array Value} (hw : ∀ d ∈ tables_1, d.before a0 Z = true) : (Jvm.Cond.laysFinal "java/lang/String" "java/lang/String" "coder" "B").before a0 Z = true := hw _ (List.mem_of_getElem? (i := 5) rfl)
theorem hw8 {Z : State} {a0 : Array Value} (hw : ∀ d ∈ tables_1, d.before a0 Z = true) : (Jvm.Cond.arrayClass Jvm.ClassFile.FieldType.char).before a0 Z = true := hw _ (List.mem_of_getElem? (i := 8) rfl)
theorem hw9 {Z : State} {a0 : Array Value} (hw : ∀ d ∈ tables_1, d.before a0 Z = true) : (Jvm.Cond.methodLink "com/example/sillon/sillon/siri/GeneralMessageChannelNamedPinLaw" (37 : Nat) ({ cls := "com/example/sillon/sillon/siri/GeneralMessageChannel", name := "named", desc := "(Ljava/lang/String;)Lcom/example/sillon/sillon/siri/GeneralMessageChannel;" } : Jvm.MethodName)).before a0 Z = true := hw _ (List.mem_of_getElem? (i := 9) rfl)
theorem hw10 {Z : State} {a0 : Array Value} (hw : ∀ d ∈ tables_1, d.before a0 Z = true) : (Jvm.Cond.static ({ cls := "com/example/sillon/sillon/siri/GeneralMessageChannel", name := "named", desc := "(Ljava/lang/String;)Lcom/example/sillon/sillon/siri/GeneralMessageChannel;" } : Jvm.MethodName)).before a0 Z = true := hw _ (List.mem_of_getElem? (i := 10) rfl)
theorem hw11 {Z : State} {a0 : Array Value} (hw : ∀ d ∈ tables_1, d.before a0 Z = true) : (Jvm.Cond.initialized "com/example/sillon/sillon/siri/GeneralMessageChannel").before a0 Z = true := hw _ (List.mem_of_getElem? (i := 11) rfl)
theorem hw12 {Z : State} {a0 : Array Value} (hw : ∀ d ∈ tables_1, d.before a0 Z = true) : (Jvm.Cond.code ({ cls := "com/example/sillon/sillon/siri/GeneralMessageChannel", name := "named", desc := "(Ljava/lang/String;)Lcom/example/sillon/sillon/siri/GeneralMessageChannel;" } : Jvm.MethodName) prog_18_method_4_code (5 : Nat) (Option.some (Jvm.ClassFile.FieldType.object "com/example/sillon/sillon/siri/GeneralMessageChannel"))).before a0 Z = true := hw _ (List.mem_of_getElem? (i := 12) rfl)
theorem hw13 {Z : State} {a0 : Array Value} (hw : ∀ d ∈ tables_1, d.before a0 Z = true) : (Jvm.Cond.methodLink "com/example/sillon/sillon/siri/GeneralMessageChannel" (39 : Nat) ({ cls := "com/example/sillon/sillon/siri/GeneralMessageChannel", name := "values", desc := "()[Lcom/example/sillon/sillon/siri/GeneralMessageChannel;" } : Jvm.MethodName)).before a0 Z = true := hw _ (List.mem_of_getElem? (i := 13) rfl)
theorem hw14 {Z : State} {a0 : Array Value} (hw : ∀ d ∈ tables_1, d.before a0 Z = true) : (Jvm.Cond.static ({ cls := "com/example/sillon/sillon/siri/GeneralMessageChannel", name := "values", desc := "()[Lcom/example/sillon/sillon/siri/GeneralMessageChannel;" } : Jvm.MethodName)).before a0 Z = true := hw _ (List.mem_of_getElem? (i := 14) rfl)
theorem hw15 {Z : State} {a0 : Array Value} (hw : ∀ d ∈ tables_1, d.before a0 Z = true) : (Jvm.Cond.code ({ cls := "com/example/sillon/sillon/siri/GeneralMessageChannel", name := "values", desc := "()[Lcom/example/sillon/sillon/siri/GeneralMessageChannel;" } : Jvm.MethodName) prog_18_method_1_code (0 : Nat) (Option.some (Jvm.ClassFile.FieldType.array (Jvm.ClassFile.FieldType.object "com/example/sillon/sillon/siri/GeneralMessageChannel")))).before a0 Z = true := hw _ (List.mem_of_getElem? (i := 15) rfl)
theorem hw16 {Z : State} {a0 : Array Value} (hw : ∀ d ∈ tables_1, d.before a0 Z = true) : (Jvm.Cond.fieldLink "com/example/sillon/sillon/siri/GeneralMessageChannel" (13 : Nat) "com/example/sillon/sillon/siri/GeneralMessageChannel" "$VALUES" "[Lcom/example/sillon/sillon/siri/GeneralMessageChannel;").before a0 Z = true := hw _ (List.mem_of_getElem? (i := 16) rfl)
theorem hw17 {Z : State} {a0 : Array Value} (hw : ∀ d ∈ tables_1, d.before a0 Z = true) : (Jvm.Cond.laysStatic "com/example/sillon/sillon/siri/GeneralMessageChannel" "$VALUES" "[Lcom/example/sillon/sillon/siri/GeneralMessageChannel;").before a0 Z = true := hw _ (List.mem_of_getElem? (i := 17) rfl)
theorem hw18 {Z : State} {a0 : Array Value} (hw : ∀ d ∈ tables_1, d.before a0 Z = true) : (Jvm.Cond.methodLink "com/example/sillon/sillon/siri/GeneralMessageChannel" (17 : Nat) ({ cls := "[Lcom/example/sillon/sillon/siri/GeneralMessageChannel;", name := "clone", desc := "()Ljava/lang/Object;" } : Jvm.MethodName)).before a0 Z = true := hw _ (List.mem_of_getElem? (i := 18) rfl)
theorem hw19 {Z : State} {a0 : Array Value} (hw : ∀ d ∈ tables_1, d.before a0 Z = true) : (Jvm.Cond.sameMethod "[Lcom/example/sillon/sillon/siri/GeneralMessageChannel;" "java/lang/Object" "clone" "()Ljava/lang/Object;").before a0 Z = true := hw _ (List.mem_of_getElem? (i := 19) rfl)
theorem hw21 {Z : State} {a0 : Array Value} (hw : ∀ d ∈ tables_1, d.before a0 Z = true) : (Jvm.Cond.instanceMethod ({ cls := "java/lang/Object", name := "clone", desc := "()Ljava/lang/Object;" } : Jvm.MethodName)).before a0 Z = true := hw _ (List.mem_of_getElem? (i := 21) rfl)
theorem hw22 {Z : State} {a0 : Array Value} (hw : ∀ d ∈ tables_1, d.before a0 Z = true) : (Jvm.Cond.selects "[Lcom/example/sillon/sillon/siri/GeneralMessageChannel;" ({ cls := "[Lcom/example/sillon/sillon/siri/GeneralMessageChannel;", name := "clone", desc := "()Ljava/lang/Object;" } : Jvm.MethodName) ({ cls := "java/lang/Object", name := "clone", desc := "()Ljava/lang/Object;" } : Jvm.MethodName)).before a0 Z = true := hw _ (List.mem_of_getElem? (i := 22) rfl)
theorem hw23 {Z : State} {a0 : Array Value} (hw : ∀ d ∈ tables_1, d.before a0 Z = true) : (Jvm.Cond.native ({ cls := "java/lang/Object", name := "clone", desc := "()Ljava/lang/Object;" } : Jvm.MethodName)).before a0 Z = true := hw _ (List.mem_of_getElem? (i := 23) rfl)
theorem hw24 {Z : State} {a0 : Array Value} (hw : ∀ d ∈ tables_1, d.before a0 Z = true) : (Jvm.Cond.castable "[Lcom/example/sillon/sillon/siri/GeneralMessageChannel;" "java/lang/Cloneable").before a0 Z = true := hw _ (List.mem_of_getElem? (i := 24) rfl)
theorem hw25 {Z : State} {a0 : Array Value} (hw : ∀ d ∈ tables_1, d.before a0 Z = true) : (Jvm.Cond.laysStatic "com/example/sillon/sillon/siri/GeneralMessageChannel" "PERTURBATION" "Lcom/example/sillon/sillon/siri/GeneralMessageChannel;").before a0 Z = true := hw _ (List.mem_of_getElem? (i := 25) rfl)
theorem hw26 {Z : State} {a0 : Array Value} (hw : ∀ d ∈ tables_1, d.before a0 Z = true) : (Jvm.Cond.laysStatic "com/example/sillon/sillon/siri/GeneralMessageChannel" "INFORMATION" "Lcom/example/sillon/sillon/siri/GeneralMessageChannel;").before a0 Z = true := hw _ (List.mem_of_getElem? (i := 26) rfl)
theorem hw27 {Z : State} {a0 : Array Value} (hw : ∀ d ∈ tables_1, d.before a0 Z = true) : (Jvm.Cond.laysStatic "com/example/sillon/sillon/siri/GeneralMessageChannel" "COMMERCIAL" "Lcom/example/sillon/sillon/siri/GeneralMessageChannel;").before a0 Z = true := hw _ (List.mem_of_getElem? (i := 27) rfl)
theorem hw29 {Z : State} {a0 : Array Value} (hw : ∀ d ∈ tables_1, d.before a0 Z = true) : (Jvm.Cond.classLink "com/example/sillon/sillon/siri/GeneralMessageChannel" (18 : Nat) "[Lcom/example/sillon/sillon/siri/GeneralMessageChannel;").before a0 Z = true := hw _ (List.mem_of_getElem? (i := 29) rfl)
theorem hw31 {Z : State} {a0 : Array Value} (hw : ∀ d ∈ tables_1, d.before a0 Z = true) : (Jvm.Cond.fieldLink "com/example/sillon/sillon/siri/GeneralMessageChannel" (32 : Nat) "com/example/sillon/sillon/siri/GeneralMessageChannel" "code" "Ljava/lang/String;").before a0 Z = true := hw _ (List.mem_of_getElem? (i := 31) rfl)
theorem hw33 {Z : State} {a0 : Array Value} (hw : ∀ d ∈ tables_1, d.before a0 Z = true) : (Jvm.Cond.methodLink "com/example/sillon/sillon/siri/GeneralMessageChannel" (43 : Nat) ({ cls := "java/lang/String", name := "equals", desc := "(Ljava/lang/Object;)Z" } : Jvm.MethodName)).before a0 Z = true := hw _ (List.mem_of_getElem? (i := 33) rfl)
theorem hw34 {Z : State} {a0 : Array Value} (hw : ∀ d ∈ tables_1, d.before a0 Z = true) : (Jvm.Cond.declares ({ cls := "java/lang/String", name := "equals", desc := "(Ljava/lang/Object;)Z" } : Jvm.MethodName)).before a0 Z = true := hw _ (List.mem_of_getElem? (i := 34) rfl)
theorem hw35 {Z : State} {a0 : Array Value} (hw : ∀ d ∈ tables_1, d.before a0 Z = true) : (Jvm.Cond.instanceMethod ({ cls := "java/lang/String", name := "equals", desc := "(Ljava/lang/Object;)Z" } : Jvm.MethodName)).before a0 Z = true := hw _ (List.mem_of_getElem? (i := 35) rfl)
theorem hw36 {Z : State} {a0 : Array Value} (hw : ∀ d ∈ tables_1, d.before a0 Z = true) : (Jvm.Cond.selects "java/lang/String" ({ cls := "java/lang/String", name := "equals", desc := "(Ljava/lang/Object;)Z" } : Jvm.MethodName) ({ cls := "java/lang/String", name := "equals", desc := "(Ljava/lang/Object;)Z" } : Jvm.MethodName)).before a0 Z = true := hw _ (List.mem_of_getElem? (i := 36) rfl)
theorem hw37 {Z : State} {a0 : Array Value} (hw : ∀ d ∈ tables_1, d.before a0 Z = true) : (Jvm.Cond.code ({ cls := "java/lang/String", name := "equals", desc := "(Ljava/lang/Object;)Z" } : Jvm.MethodName) jdk_42_method_66_code (3 : Nat) (Option.some Jvm.ClassFile.FieldType.boolean)).before a0 Z = true := hw _ (List.mem_of_getElem? (i := 37) rfl)
theorem hw38 {Z : State} {a0 : Array Value} (hw : ∀ d ∈ tables_1, d.before a0 Z = true) : (Jvm.Cond.methodLink "com/example/sillon/sillon/siri/GeneralMessageChannelNamedPinLaw" (43 : Nat) ({ cls := "com/example/sillon/sillon/siri/GeneralMessageChannelNamedPinLaw", name := "ref", desc := "(Ljava/lang/String;)Lcom/example/sillon/sillon/siri/GeneralMessageChannel;" } : Jvm.MethodName)).before a0 Z = true := hw _ (List.mem_of_getElem? (i := 38) rfl)
theorem hw39 {Z : State} {a0 : Array Value} (hw : ∀ d ∈ tables_1, d.before a0 Z = true) : (Jvm.Cond.static ({ cls := "com/example/sillon/sillon/siri/GeneralMessageChannelNamedPinLaw", name := "ref", desc := "(Ljava/lang/String;)Lcom/example/sillon/sillon/siri/GeneralMessageChannel;" } : Jvm.MethodName)).before a0 Z = true := hw _ (List.mem_of_getElem? (i := 39) rfl)
theorem hw40 {Z : State} {a0 : Array Value} (hw : ∀ d ∈ tables_1, d.before a0 Z = true) : (Jvm.Cond.initialized "com/example/sillon/sillon/siri/GeneralMessageChannelNamedPinLaw").before a0 Z = true := hw _ (List.mem_of_getElem? (i := 40) rfl)
theorem hw41 {Z : State} {a0 : Array Value} (hw : ∀ d ∈ tables_1, d.before a0 Z = true) : (Jvm.Cond.code ({ cls := "com/example/sillon/sillon/siri/GeneralMessageChannelNamedPinLaw", name := "ref", desc := "(Ljava/lang/String;)Lcom/example/sillon/sillon/siri/GeneralMessageChannel;" } : Jvm.MethodName) method_4_code (1 : Nat) (Option.some (Jvm.ClassFile.FieldType.object "com/example/sillon/sillon/siri/GeneralMessageChannel"))).before a0 Z = true := hw _ (List.mem_of_getElem? (i := 41) rfl)
theorem hw42 {Z : State} {a0 : Array Value} (hw : ∀ d ∈ tables_1, d.before a0 Z = true) : (Jvm.Cond.methodLink "com/example/sillon/sillon/siri/GeneralMessageChannelNamedPinLaw" (15 : Nat) ({ cls := "java/lang/String", name := "length", desc := "()I" } : Jvm.MethodName)).before a0 Z = true := hw _ (List.mem_of_getElem? (i := 42) rfl)
theorem hw43 {Z : State} {a0 : Array Value} (hw : ∀ d ∈ tables_1, d.before a0 Z = true) : (Jvm.Cond.declares ({ cls := "java/lang/String", name := "length", desc := "()I" } : Jvm.MethodName)).before a0 Z = true := hw _ (List.mem_of_getElem? (i := 43) rfl)
theorem hw44 {Z : State} {a0 : Array Value} (hw : ∀ d ∈ tables_1, d.before a0 Z = true) : (Jvm.Cond.instanceMethod ({ cls := "java/lang/String", name := "length", desc := "()I" } : Jvm.MethodName)).before a0 Z = true := hw _ (List.mem_of_getElem? (i := 44) rfl)
theorem hw45 {Z : State} {a0 : Array Value} (hw : ∀ d ∈ tables_1, d.before a0 Z = true) : (Jvm.Cond.selects "java/lang/String" ({ cls := "java/lang/String", name := "length", desc := "()I" } : Jvm.MethodName) ({ cls := "java/lang/String", name := "length", desc := "()I" } : Jvm.MethodName)).before a0 Z = true := hw _ (List.mem_of_getElem? (i := 45) rfl)
theorem hw47 {Z : State} {a0 : Array Value} (hw : ∀ d ∈ tables_1, d.before a0 Z = true) : (Jvm.Cond.fieldLink "java/lang/String" (9 : Nat) "java/lang/String" "value" "[B").before a0 Z = true := hw _ (List.mem_of_getElem? (i := 47) rfl)
theorem hw54 {Z : State} {a0 : Array Value} (hw : ∀ d ∈ tables_1, d.before a0 Z = true) : (Jvm.Cond.fieldLink "java/lang/String" (15 : Nat) "java/lang/String" "coder" "B").before a0 Z = true := hw _ (List.mem_of_getElem? (i := 54) rfl)
theorem hw55 {Z : State} {a0 : Array Value} (hw : ∀ d ∈ tables_1, d.before a0 Z = true) : (Jvm.Cond.methodLink "com/example/sillon/sillon/siri/GeneralMessageChannelNamedPinLaw" (27 : Nat) ({ cls := "com/example/sillon/sillon/siri/GeneralMessageChannelNamedPinLaw", name := "at", desc := "(Ljava/lang/String;II)C" } : Jvm.MethodName)).before a0 Z = true := hw _ (List.mem_of_getElem? (i := 55) rfl)
theorem hw56 {Z : State} {a0 : Array Value} (hw : ∀ d ∈ tables_1, d.before a0 Z = true) : (Jvm.Cond.static ({ cls := "com/example/sillon/sillon/siri/GeneralMessageChannelNamedPinLaw", name := "at", desc := "(Ljava/lang/String;II)C" } : Jvm.MethodName)).before a0 Z = true := hw _ (List.mem_of_getElem? (i := 56) rfl)
theorem hw57 {Z : State} {a0 : Array Value} (hw : ∀ d ∈ tables_1, d.before a0 Z = true) : (Jvm.Cond.code ({ cls := "com/example/sillon/sillon/siri/GeneralMessageChannelNamedPinLaw", name := "at", desc := "(Ljava/lang/String;II)C" } : Jvm.MethodName) method_3_code (3 : Nat) (Option.some Jvm.ClassFile.FieldType.char)).before a0 Z = true := hw _ (List.mem_of_getElem? (i := 57) rfl)
theorem hw58 {Z : State} {a0 : Array Value} (hw : ∀ d ∈ tables_1, d.before a0 Z = true) : (Jvm.Cond.methodLink "com/example/sillon/sillon/siri/GeneralMessageChannelNamedPinLaw" (46 : Nat) ({ cls := "java/lang/String", name := "charAt", desc := "(I)C" } : Jvm.MethodName)).before a0 Z = true := hw _ (List.mem_of_getElem? (i := 58) rfl)
theorem hw59 {Z : State} {a0 : Array Value} (hw : ∀ d ∈ tables_1, d.before a0 Z = true) : (Jvm.Cond.declares ({ cls := "java/lang/String", name := "charAt", desc := "(I)C" } : Jvm.MethodName)).before a0 Z = true := hw _ (List.mem_of_getElem? (i := 59) rfl)
theorem hw60 {Z : State} {a0 : Array Value} (hw : ∀ d ∈ tables_1, d.before a0 Z = true) : (Jvm.Cond.instanceMethod ({ cls := "java/lang/String", name := "charAt", desc := "(I)C" } : Jvm.MethodName)).before a0 Z = true := hw _ (List.mem_of_getElem? (i := 60) rfl)
theorem hw61 {Z : State} {a0 : Array Value} (hw : ∀ d ∈ tables_1, d.before a0 Z = true) : (Jvm.Cond.selects "java/lang/String" ({ cls := "java/lang/String", name := "charAt", desc := "(I)C" } : Jvm.MethodName) ({ cls := "java/lang/String", name := "charAt", desc := "(I)C" } : Jvm.MethodName)).before a0 Z = true := hw _ (List.mem_of_getElem? (i := 61) rfl)
theorem hw80 {Z : State} {a0 : Array Value} (hw : ∀ d ∈ tables_1, d.before a0 Z = true) : (Jvm.Cond.stringLink "com/example/sillon/sillon/siri/GeneralMessageChannelNamedPinLaw" (9 : Nat) "Information").before a0 Z = true := hw _ (List.mem_of_getElem? (i := 80) rfl)
theorem hw81 {Z : State} {a0 : Array Value} (hw : ∀ d ∈ tables_1, d.before a0 Z = true) : (Jvm.Cond.classLink "com/example/sillon/sillon/siri/GeneralMessageChannelNamedPinLaw" (16 : Nat) "java/lang/String").before a0 Z = true := hw _ (List.mem_of_getElem? (i := 81) rfl)
theorem hw82 {Z : State} {a0 : Array Value} (hw : ∀ d ∈ tables_1, d.before a0 Z = true) : (Jvm.Cond.methodLink "com/example/sillon/sillon/siri/GeneralMessageChannelNamedPinLaw" (34 : Nat) ({ cls := "java/lang/String", name := "<init>", desc := "([C)V" } : Jvm.MethodName)).before a0 Z = true := hw _ (List.mem_of_getElem? (i := 82) rfl)
theorem hw83 {Z : State} {a0 : Array Value} (hw : ∀ d ∈ tables_1, d.before a0 Z = true) : (Jvm.Cond.instanceMethod ({ cls := "java/lang/String", name := "<init>", desc := "([C)V" } : Jvm.MethodName)).before a0 Z = true := hw _ (List.mem_of_getElem? (i := 83) rfl)
theorem hw84 {Z : State} {a0 : Array Value} (hw : ∀ d ∈ tables_1, d.before a0 Z = true) : (Jvm.Cond.code ({ cls := "java/lang/String", name := "<init>", desc := "([C)V" } : Jvm.MethodName) jdk_42_method_3_code (2 : Nat) (Option.none : Option Jvm.ClassFile.FieldType)).before a0 Z = true := hw _ (List.mem_of_getElem? (i := 84) rfl)
theorem hw85 {Z : State} {a0 : Array Value} (hw : ∀ d ∈ tables_1, d.before a0 Z = true) : (Jvm.Cond.methodLink "java/lang/String" (27 : Nat) ({ cls := "java/lang/String", name := "<init>", desc := "([CIILjava/lang/Void;)V" } : Jvm.MethodName)).before a0 Z = true := hw _ (List.mem_of_getElem? (i := 85) rfl)
theorem hw86 {Z : State} {a0 : Array Value} (hw : ∀ d ∈ tables_1, d.before a0 Z = true) : (Jvm.Cond.instanceMethod ({ cls := "java/lang/String", name := "<init>", desc := "([CIILjava/lang/Void;)V" } : Jvm.MethodName)).before a0 Z = true := hw _ (List.mem_of_getElem? (i := 86) rfl)
theorem hw88 {Z : State} {a0 : Array Value} (hw : ∀ d ∈ tables_1, d.before a0 Z = true) : (Jvm.Cond.code ({ cls := "java/lang/String", name := "<init>", desc := "([CIILjava/lang/Void;)V" } : Jvm.MethodName) jdk_42_method_149_code (6 : Nat) (Option.none : Option Jvm.ClassFile.FieldType)).before a0 Z = true := hw _ (List.mem_of_getElem? (i := 88) rfl)
theorem hw89 {Z : State} {a0 : Array Value} (hw : ∀ d ∈ tables_1, d.before a0 Z = true) : (Jvm.Cond.methodLink "java/lang/String" (1 : Nat) ({ cls := "java/lang/Object", name := "<init>", desc := "()V" } : Jvm.MethodName)).before a0 Z = true := hw _ (List.mem_of_getElem? (i := 89) rfl)
theorem hw90 {Z : State} {a0 : Array Value} (hw : ∀ d ∈ tables_1, d.before a0 Z = true) : (Jvm.Cond.instanceMethod ({ cls := "java/lang/Object", name := "<init>", desc := "()V" } : Jvm.MethodName)).before a0 Z = true := hw _ (List.mem_of_getElem? (i := 90) rfl)
theorem hw91 {Z : State} {a0 : Array Value} (hw : ∀ d ∈ tables_1, d.before a0 Z = true) : (Jvm.Cond.code ({ cls := "java/lang/Object", name := "<init>", desc := "()V" } : Jvm.MethodName) object_method_1_code (1 : Nat) (Option.none : Option Jvm.ClassFile.FieldType)).before a0 Z = true := hw _ (List.mem_of_getElem? (i := 91) rfl)
theorem hw92 {Z : State} {a0 : Array Value} (hw : ∀ d ∈ tables_1, d.before a0 Z = true) : (Jvm.Cond.stringLink "java/lang/String" (7 : Nat) "").before a0 Z = true := hw _ (List.mem_of_getElem? (i := 92) rfl)
theorem hw93 {Z : State} {a0 : Array Value} (hw : ∀ d ∈ tables_1, d.before a0 Z = true) : (Jvm.Cond.classLink "java/lang/String" (10 : Nat) "java/lang/String").before a0 Z = true := hw _ (List.mem_of_getElem? (i := 93) rfl)
theorem hw97 {Z : State} {a0 : Array Value} (hw : ∀ d ∈ tables_1, d.before a0 Z = true) : (Jvm.Cond.methodLink "com/example/sillon/sillon/siri/GeneralMessageChannelNamedPinLaw" (50 : Nat) ({ cls := "java/lang/String", name := "equals", desc := "(Ljava/lang/Object;)Z" } : Jvm.MethodName)).before a0 Z = true := hw _ (List.mem_of_getElem? (i := 97) rfl)
theorem hw98 {Z : State} {a0 : Array Value} (hw : ∀ d ∈ tables_1, d.before a0 Z = true) : (Jvm.Cond.stringLink "com/example/sillon/sillon/siri/GeneralMessageChannelNamedPinLaw" (11 : Nat) "Commercial").before a0 Z = true := hw _ (List.mem_of_getElem? (i := 98) rfl)
theorem hw99 {Z : State} {a0 : Array Value} (hw : ∀ d ∈ tables_1, d.before a0 Z = true) : (Jvm.Cond.constant "com/example/sillon/sillon/siri/GeneralMessageChannelNamedPinLaw" (33 : Nat) (2147483647 : Int32)).before a0 Z = true := hw _ (List.mem_of_getElem? (i := 99) rfl)
theorem hw100 {Z : State} {a0 : Array Value} (hw : ∀ d ∈ tables_1, d.before a0 Z = true) : (Jvm.Cond.stringLink "com/example/sillon/sillon/siri/GeneralMessageChannelNamedPinLaw" (13 : Nat) "").before a0 Z = true := hw _ (List.mem_of_getElem? (i := 100) rfl)
theorem hw111 {Z : State} {a0 : Array Value} (hw : ∀ d ∈ tables_1, d.before a0 Z = true) : (Jvm.Cond.methodLink "com/example/sillon/sillon/siri/GeneralMessageChannelNamedPinLaw" (21 : Nat) ({ cls := "java/lang/Math", name := "max", desc := "(II)I" } : Jvm.MethodName)).before a0 Z = true := hw _ (List.mem_of_getElem? (i := 111) rfl)
theorem hw112 {Z : State} {a0 : Array Value} (hw : ∀ d ∈ tables_1, d.before a0 Z = true) : (Jvm.Cond.static ({ cls := "java/lang/Math", name := "max", desc := "(II)I" } : Jvm.MethodName)).before a0 Z = true := hw _ (List.mem_of_getElem? (i := 112) rfl)
theorem hw113 {Z : State} {a0 : Array Value} (hw : ∀ d ∈ tables_1, d.before a0 Z = true) : (Jvm.Cond.initialized "java/lang/Math").before a0 Z = true := hw _ (List.mem_of_getElem? (i := 113) rfl)
theorem hw114 {Z : State} {a0 : Array Value} (hw : ∀ d ∈ tables_1, d.before a0 Z = true) : (Jvm.Cond.code ({ cls := "java/lang/Math", name := "max", desc := "(II)I" } : Jvm.MethodName) jdk_29_method_65_code (2 : Nat) (Option.some Jvm.ClassFile.FieldType.int)).before a0 Z = true := hw _ (List.mem_of_getElem? (i := 114) rfl)
theorem hw115 {Z : State} {a0 : Array Value} (hw : ∀ d ∈ tables_1, d.before a0 Z = true) : (Jvm.Cond.fieldLink "com/example/sillon/sillon/siri/GeneralMessageChannelNamedPinLaw" (54 : Nat) "com/example/sillon/sillon/siri/GeneralMessageChannel" "PERTURBATION" "Lcom/example/sillon/sillon/siri/GeneralMessageChannel;").before a0 Z = true := hw _ (List.mem_of_getElem? (i := 115) rfl)
theorem hw116 {Z : State} {a0 : Array Value} (hw : ∀ d ∈ tables_1, d.before a0 Z = true) : (Jvm.Cond.fieldLink "com/example/sillon/sillon/siri/GeneralMessageChannelNamedPinLaw" (58 : Nat) "com/example/sillon/sillon/siri/GeneralMessageChannel" "INFORMATION" "Lcom/example/sillon/sillon/siri/GeneralMessageChannel;").before a0 Z = true := hw _ (List.mem_of_getElem? (i := 116) rfl)
theorem hw117 {Z : State} {a0 : Array Value} (hw : ∀ d ∈ tables_1, d.before a0 Z = true) : (Jvm.Cond.fieldLink "com/example/sillon/sillon/siri/GeneralMessageChannelNamedPinLaw" (61 : Nat) "com/example/sillon/sillon/siri/GeneralMessageChannel" "COMMERCIAL" "Lcom/example/sillon/sillon/siri/GeneralMessageChannel;").before a0 Z = true := hw _ (List.mem_of_getElem? (i := 117) rfl)
theorem own_EW {Z : State} {a0 : Array Value} (hw : ∀ d ∈ tables_1, d.before a0 Z = true) : EW Z a0 EL := (EW.cons (hw0 hw) (by decide) (EW.cons (hw80 hw) (by decide) (EW.cons (hw98 hw) (by decide) (EW.cons (hw100 hw) (by decide) (EW.cons (hw92 hw) (by decide) EW.nil)))))
theorem own_safeArv {Z : State} {vm : Vm} {h : Heap} {x : Addr} {k : ClassId} {ty : FieldType} {z : Int32} {vs : List Value} {d : Value} (hal : Z.vm.Alike vm) (F : Arv Z h x k ty z vs d) (ht : ty ≠ .byte) : Safe Z EL vm h x := by
  obtain ⟨c, A, -⟩ := F
  exact Safe.arr hal A ht
theorem own_nlt {i n : Nat} (hi : i < 2 ^ 31) (hn : n < 2 ^ 31) : Int32.ofNat i < Int32.ofNat n ↔ i < n := by
  rw [Int32.lt_iff_toInt_lt, Int32.toInt_ofNat_of_lt hi, Int32.toInt_ofNat_of_lt hn]; omega
theorem own_nadd (i j : Nat) : Int32.ofNat i + Int32.ofNat j = Int32.ofNat (i + j) := by
  apply Int32.toBitVec_inj.mp
  show BitVec.ofNat 32 i + BitVec.ofNat 32 j = BitVec.ofNat 32 (i + j)
  rw [BitVec.ofNat_add]
theorem own_nadd1 (i : Nat) : Int32.ofNat i + (1 : Int32) = Int32.ofNat (i + 1) := own_nadd i 1
theorem own_nsub {i j : Nat} (h : j ≤ i) : Int32.ofNat i - Int32.ofNat j = Int32.ofNat (i - j) := by
  obtain ⟨k, rfl⟩ := Nat.exists_eq_add_of_le h
  rw [← own_nadd, Nat.add_sub_cancel_left]
  apply Int32.toBitVec_inj.mp
  show (BitVec.ofNat 32 j + BitVec.ofNat 32 k) - BitVec.ofNat 32 j = BitVec.ofNat 32 k
  rw [BitVec.add_comm, BitVec.add_sub_cancel]
theorem own_nneg {i : Nat} (hi : i < 2 ^ 31) : ¬ Int32.ofNat i < 0 := by
  rw [Int32.lt_iff_toInt_lt, Int32.toInt_ofNat_of_lt hi]; have : (0 : Int32).toInt = 0 := rfl; omega
theorem own_nclamp {i : Nat} (hi : i < 2 ^ 31) : (Int32.ofNat i).toNatClampNeg = i := by
  show (Int32.ofNat i).toInt.toNat = i
  rw [Int32.toInt_ofNat_of_lt hi]; rfl
theorem own_ninj {i j : Nat} (hi : i < 2 ^ 31) (hj : j < 2 ^ 31) (h : Int32.ofNat i = Int32.ofNat j) : i = j := by
  have := congrArg Int32.toInt h
  rw [Int32.toInt_ofNat_of_lt hi, Int32.toInt_ofNat_of_lt hj] at this; omega
theorem own_ne0 {i : Nat} (hi : i < 2 ^ 31) (h : ¬ i = 0) : ¬ Int32.ofNat i = (0 : Int32) := fun q => h (own_ninj hi (by decide) q)
theorem own_irr (x : Int32) : ¬ x < x := by rw [Int32.lt_iff_toInt_lt]; omega
theorem own_small {n : Nat} (h : n ≤ 4000) : n < 2 ^ 31 := by omega
theorem own_getb {cs : List Int32} {k : Nat} {c : Int32} {d : Value} (h : cs[k]? = some c) (hk : k < 2 ^ 31) : ((cs.map fun c => c.toInt8.toInt32).map Value.int).getD (Int32.ofNat k).toNatClampNeg d = .int c.toInt8.toInt32 := by
  rw [own_nclamp hk]; simp [List.getD_eq_getElem?_getD, h]
theorem own_dn {cs : List Int32} {k : Nat} (hk : k ≤ cs.length) (h : cs.drop k = []) : k = cs.length := by
  have := List.drop_eq_nil_iff.mp h; omega
theorem own_dc {cs r : List Int32} {k : Nat} {c : Int32} (h : cs.drop k = c :: r) : k < cs.length ∧ cs[k]? = some c ∧ cs.drop (k + 1) = r := by
  have h1 : k < cs.length := by
    apply Nat.lt_of_not_le
    intro q
    rw [List.drop_eq_nil_iff.mpr q] at h; cases h
  refine ⟨h1, ?_, ?_⟩
  · have := congrArg (fun l => l[0]?) h
    simpa using this
  · have := congrArg List.tail h
    simpa [List.tail_drop] using this

theorem own_nmod {k n : Nat} (hk : k < 2 ^ 31) (hn : n < 2 ^ 31) (h0 : 0 < n) : Int32.ofNat k % Int32.ofNat n = Int32.ofNat (k % n) := by
  have hm := Nat.mod_lt k h0
  apply Int32.toInt_inj.mp
  rw [Int32.toInt_mod, Int32.toInt_ofNat_of_lt hk, Int32.toInt_ofNat_of_lt hn, Int32.toInt_ofNat_of_lt (by omega)]
  exact (Int.ofNat_tmod k n).symm
theorem own_sh14 (x : Int32) : ∃ n : Nat, n ≤ 13 ∧ ((x.toUInt32 >>> ((2 : Int32) &&& 31).toUInt32).toInt32) % (14 : Int32) = Int32.ofNat n := by
  have e1 : ((2 : Int32) &&& 31).toUInt32 = (2 : UInt32) := rfl
  rw [e1]
  have h : (x.toUInt32 >>> (2 : UInt32)).toNat < 2 ^ 31 := by
    rw [UInt32.toNat_shiftRight]
    have := x.toUInt32.toNat_lt
    show x.toUInt32.toNat >>> 2 < 2 ^ 31
    rw [Nat.shiftRight_eq_div_pow]; omega
  have e : (x.toUInt32 >>> (2 : UInt32)).toInt32 = Int32.ofNat (x.toUInt32 >>> (2 : UInt32)).toNat := by
    apply Int32.toBitVec_inj.mp
    show (x.toUInt32 >>> (2 : UInt32)).toBitVec = BitVec.ofNat 32 (x.toUInt32 >>> (2 : UInt32)).toBitVec.toNat
    rw [BitVec.ofNat_toNat]; simp
  refine ⟨(x.toUInt32 >>> (2 : UInt32)).toNat % 14, by omega, ?_⟩
  rw [e]
  exact own_nmod (n := 14) h (by decide) (by decide)
theorem own_and31 (x : Int32) : ∃ k : Nat, k < 2 ^ 31 ∧ (x &&& (2147483647 : Int32)) = Int32.ofNat k := by
  refine ⟨(x &&& 2147483647).toBitVec.toNat, ?_, ?_⟩
  · simp only [Int32.toBitVec_and, BitVec.toNat_and]
    exact Nat.lt_of_le_of_lt Nat.and_le_right (by decide)
  · apply Int32.toBitVec_inj.mp
    show _ = BitVec.ofNat 32 _
    rw [BitVec.ofNat_toNat]; simp
theorem own_remlen (x : Int32) {n : Nat} (h0 : 0 < n) (hn : n ≤ 13) : ∃ i : Nat, i < n ∧ (x &&& (2147483647 : Int32)) % Int32.ofNat n = Int32.ofNat i := by
  obtain ⟨k, hk, e⟩ := own_and31 x
  exact ⟨k % n, Nat.mod_lt _ h0, by rw [e]; exact own_nmod hk (by omega) h0⟩
theorem own_mx {k : Nat} (hk : k ≤ 12) {mm : Int32} (h : (mm = (0 : Int32) ∧ ¬ (0 : Int32) < Int32.ofNat k - (1 : Int32)) ∨ (mm = Int32.ofNat k - (1 : Int32) ∧ (0 : Int32) < Int32.ofNat k - (1 : Int32))) : ∃ n : Nat, n ≤ 13 ∧ mm = Int32.ofNat n := by
  rcases h with ⟨h, -⟩ | ⟨h, h2⟩
  · exact ⟨0, by decide, h⟩
  · by_cases q : k = 0
    · subst q; exact absurd h2 (by decide)
    · exact ⟨k - 1, by omega, h.trans (own_nsub (i := k) (j := 1) (by omega))⟩
theorem own_pos {x : Int32} (h : (0 : Int32) < x) : x ≠ 0 := fun q => by subst q; revert h; decide
theorem own_rg255 (x : Int32) : ¬ (x &&& (255 : Int32)) < 0 ∧ ¬ (255 : Int32) < (x &&& (255 : Int32)) := by
  have t : ∀ k : Fin 256, ¬ (Int32.ofNat k.val) < 0 ∧ ¬ (255 : Int32) < (Int32.ofNat k.val) := by decide +kernel
  rw [own_lit x 0 (by decide)]
  exact t ⟨_, own_lt256 x⟩
theorem own_nar2 {c : Int32} (h : ¬ c < 0 ∧ ¬ (255 : Int32) < c) : ¬ nar .char (c.toUInt32.toUInt16.toUInt32.toInt32) < 0 ∧ ¬ (255 : Int32) < nar .char (c.toUInt32.toUInt16.toUInt32.toInt32) := by
  have t : ∀ k : Fin 256, ¬ nar .char ((Int32.ofNat k.val).toUInt32.toUInt16.toUInt32.toInt32) < 0 ∧ ¬ (255 : Int32) < nar .char ((Int32.ofNat k.val).toUInt32.toUInt16.toUInt32.toInt32) := by decide +kernel
  obtain ⟨k, rfl⟩ := own_rng h
  exact t k
theorem own_rset {us : List Int32} {k : Nat} {z : Int32} (h : ∀ c ∈ us, ¬ c < 0 ∧ ¬ (255 : Int32) < c) (hz : ¬ z < 0 ∧ ¬ (255 : Int32) < z) : ∀ c ∈ us.set k z, ¬ c < 0 ∧ ¬ (255 : Int32) < c := fun c hc => (List.mem_or_eq_of_mem_set hc).elim (h c) (fun e => e ▸ hz)
theorem own_rrep (n : Nat) : ∀ c ∈ List.replicate n (0 : Int32), ¬ c < 0 ∧ ¬ (255 : Int32) < c := fun c hc => by rw [List.eq_of_mem_replicate hc]; decide
theorem own_nq {ds cs : List Int32} (h : (if ds = cs then (1 : Int32) else 0) = 0) : ¬ cs = ds := fun q => by rw [if_pos q.symm] at h; revert h; decide
theorem own_pq {ds cs : List Int32} (h : ¬ (if ds = cs then (1 : Int32) else 0) = 0) : cs = ds := Decidable.byContradiction fun q => h (if_neg fun z => q z.symm)
theorem own_nr {ds cs : List Int32} (h : (if cs = ds then (1 : Int32) else 0) = 0) : ¬ cs = ds := fun q => by rw [if_pos q] at h; revert h; decide
theorem own_pr {ds cs : List Int32} (h : ¬ (if cs = ds then (1 : Int32) else 0) = 0) : cs = ds := Decidable.byContradiction fun q => h (if_neg q)
theorem own_getm {cs : List Int32} {i : Nat} (h : i < cs.length) : cs.getD i 0 ∈ cs := by
  rw [List.getD_eq_getElem?_getD, List.getElem?_eq_getElem h]; exact List.getElem_mem h
theorem own_rgat {cs : List Int32} {i : Nat} (h : ∀ c ∈ cs, ¬ c < 0 ∧ ¬ (255 : Int32) < c) (hi : i < cs.length) : ¬ nar .char (cs.getD i 0) < 0 ∧ ¬ (255 : Int32) < nar .char (cs.getD i 0) := by
  rw [own_narc (h _ (own_getm hi))]; exact h _ (own_getm hi)
theorem own_l31 {n : Nat} (h : n ≤ 13) : n < 2 ^ 31 := by omega
theorem own_ib {k n : Nat} (hn : n < 2 ^ 31) (h : k < n) : ¬ Int32.ofNat k < 0 ∧ Int32.ofNat k < Int32.ofNat n := ⟨own_nneg (by omega), (own_nlt (by omega) hn).mpr h⟩
theorem own_gm (cs : List Int32) (k : Nat) : (cs.map Value.int).getD k (.int 0) = .int (cs.getD k 0) := by
  simp only [List.getD_eq_getElem?_getD, List.getElem?_map]
  cases cs[k]? <;> rfl
theorem own_padr (n i : Nat) : ((List.replicate n (0 : Int32)).map Value.int).getD i (.int 0) = ([] : List Value).getD i (.int 0) := by
  rw [own_gm]
  have : (List.replicate n (0 : Int32)).getD i 0 = 0 := by
    simp only [List.getD_eq_getElem?_getD, List.getElem?_replicate]
    split <;> rfl
  rw [this]; rfl
theorem own_ms (us : List Int32) (i : Nat) (z : Int32) : (us.map Value.int).set i (.int z) = (us.set i z).map Value.int := by rw [List.map_set]
def own_P : List Int32 := [80, 101, 114, 116, 117, 114, 98, 97, 116, 105, 111, 110]
def own_I : List Int32 := [73, 110, 102, 111, 114, 109, 97, 116, 105, 111, 110]
def own_C : List Int32 := [67, 111, 109, 109, 101, 114, 99, 105, 97, 108]
def own_pk (cs : List Int32) (a b c : Addr) : Value := if cs = own_P then .ref a else if cs = own_I then .ref b else if cs = own_C then .ref c else .null
theorem own_pkr (cs : List Int32) (a b c : Addr) : (own_pk cs a b c).isRef = true := by unfold own_pk; split <;> (try rfl) <;> split <;> (try rfl) <;> split <;> rfl
theorem own_slit {Z : State} {h : Heap} {x t : Addr} {k : ClassId} {cs : List Int32} {z : Int32} {vs : List Value} (E : Exa Z h x "java/lang/String") (V : Fld Z h x "java/lang/String" "value" "[B" (.ref t)) (C : Fld Z h x "java/lang/String" "coder" "B" (.int 0)) (A : Arv Z h t k .byte z vs (.int 0))
    (e1 : z = Int32.ofNat cs.length) (e2 : vs = cs.map Value.int) (e3 : cs.map (fun c => c.toInt8.toInt32) = cs) (r : ∀ c ∈ cs, ¬ c < 0 ∧ ¬ (255 : Int32) < c) (l : cs.length ≤ 4000) : Str Z h x t k cs := ⟨E, V, C, by rw [e3, ← e2, ← e1]; exact A, r, l⟩
def own_E1 (Z : State) (f : String) (x y t : Addr) (k : ClassId) (cs : List Int32) : Prop := Sta Z Z.heap "com/example/sillon/sillon/siri/GeneralMessageChannel" f "Lcom/example/sillon/sillon/siri/GeneralMessageChannel;" (.ref x) ∧ Exa Z Z.heap x "com/example/sillon/sillon/siri/GeneralMessageChannel" ∧ Fld Z Z.heap x "com/example/sillon/sillon/siri/GeneralMessageChannel" "code" "Ljava/lang/String;" (.ref y) ∧ Str Z Z.heap y t k cs
def own_En (Z : State) (aV : Addr) (kV : ClassId) (eP cP tP : Addr) (kP : ClassId) (eI cI tI : Addr) (kI : ClassId) (eC cC tC : Addr) (kC : ClassId) : Prop :=
  Sta Z Z.heap "com/example/sillon/sillon/siri/GeneralMessageChannel" "$VALUES" "[Lcom/example/sillon/sillon/siri/GeneralMessageChannel;" (.ref aV) ∧ Exa Z Z.heap aV "[Lcom/example/sillon/sillon/siri/GeneralMessageChannel;" ∧ Arv Z Z.heap aV kV (.object "com/example/sillon/sillon/siri/GeneralMessageChannel") (3 : Int32) [(.ref eP), (.ref eI), (.ref eC)] .null ∧ own_E1 Z "PERTURBATION" eP cP tP kP own_P ∧ own_E1 Z "INFORMATION" eI cI tI kI own_I ∧ own_E1 Z "COMMERCIAL" eC cC tC kC own_C
theorem own_capB {p : Program} {l : Launch} {e : Env} {R : Room} {s : State} {args : Array Value} {below : List Frame} {h : Heap} {y : MethodName} {len W k n cap : Nat} {as' : Array Value} {Q : Option Value → Heap → List Loc → Prop} (hc : n ≤ cap)
    (H : Back l R p e below s args y len W (fun P a => a = as' ∧ P.U.heap = h ∧ P.cells + k ≤ R.cells ∧ P.slots + n ≤ R.slots) (fun P _ v B => ∃ L, Q v B.U.heap L ∧ B.locs = P.locs ++ L ∧ B.cells = P.cells + k ∧ B.slots = P.slots + n)) :
    Back l R p e below s args y len W (fun P a => a = as' ∧ P.U.heap = h ∧ P.cells + k ≤ R.cells ∧ P.slots + cap ≤ R.slots) (fun P _ v B => ∃ L, Q v B.U.heap L ∧ B.locs = P.locs ++ L ∧ B.cells = P.cells + k ∧ B.slots = P.slots + cap) := by
  intro m meth c A g ig mk a X hg hsize hdg hW hn hp
  obtain ⟨v, B, X', ⟨L, q, l1, c1, s1⟩, hs⟩ := H m meth c A g ig mk a X hg hsize hdg hW hn ⟨hp.1, hp.2.1, hp.2.2.1, Nat.le_trans (Nat.add_le_add_left hc _) hp.2.2.2⟩
  exact ⟨v, (B.U, B.locs, B.cells, A.slots + cap), X'.more (Nat.le_refl _) (by rw [s1]; exact Nat.add_le_add_left hc _), ⟨L, q, l1, c1, rfl⟩, hs⟩
def own_el (args : Array Value) (s : State) (t : Term) : Nat → List Int32 → Prop
  | _, [] => True
  | i, c :: r => (Cond.eq (.elem t (.int (Int32.ofNat i))) (.int c)).value args s none s [] = some true ∧ own_el args s t (i + 1) r
theorem own_hl {args : Array Value} {s : State} {t : Term} {u : Addr} {cl : Cell} (ht : t.eval args s none [] s = some (.ref u)) (hc : s.heap[u]? = some cl) : ∀ (cs : List Int32) (i : Nat), i + cs.length < 2 ^ 31 → own_el args s t i cs → HasL cl i (cs.map Value.int)
  | [], _, _, _ => trivial
  | c :: r, i, hi, H => by
    have hi' : i + (r.length + 1) < 2 ^ 31 := hi
    refine ⟨?_, own_hl ht hc r (i + 1) (by omega) H.2⟩
    have q := (elem_in (eqv_i (Term.int_eval c) H.1) ht (Term.int_eval (Int32.ofNat i)) hc).2
    rwa [own_nclamp (by omega)] at q
theorem own_strS {s : State} {args : Array Value} {t : Term} {cs : List Int32} {n : Int32} (hf : Fit s) (w1 : (Cond.exactly t "java/lang/String").value args s none s [] = some true)
    (w2 : (Cond.eq (.field t "java/lang/String" "coder" "B") (.int 0)).value args s none s [] = some true) (w3 : (Cond.arrayOf (.field t "java/lang/String" "value" "[B") .byte).value args s none s [] = some true)
    (w4 : (Cond.eq (.length (.field t "java/lang/String" "value" "[B")) (.int n)).value args s none s [] = some true) (we : own_el args s (.field t "java/lang/String" "value" "[B") 0 cs)
    (hn : n = Int32.ofNat cs.length) (hl : cs.length ≤ 4000) (e3 : cs.map (fun c => c.toInt8.toInt32) = cs) (r : ∀ c ∈ cs, ¬ c < 0 ∧ ¬ (255 : Int32) < c) : ∃ (x u : Addr) (k : ClassId), t.eval args s none [] s = some (.ref x) ∧ Str s s.heap x u k cs := by
  obtain ⟨x, _, _, _, ex, -⟩ := Cond.exactly_spec (Cond.before_iff.mpr w1)
  have E := Exa.start ex w1
  have C : Fld s s.heap x "java/lang/String" "coder" "B" (.int 0) := Fld.start ((fld_at ex).symm.trans (eqv_i (Term.int_eval 0) w2))
  obtain ⟨u, c0, eu, hc0, e0, hs⟩ := Jvm.Free.SB.Term.length_small (eqv_i (Term.int_eval n) w4)
  have V : Fld s s.heap x "java/lang/String" "value" "[B" (.ref u) := Fld.start ((fld_at ex).symm.trans eu)
  obtain ⟨c, A⟩ := Arr.start eu w3
  have hc : s.arrayAt? u = some c := A.fin (Vm.Alike.refl _)
  obtain rfl : c0 = c := Option.some.inj (hc0.symm.trans hc)
  have e2 : c0.slots.size.toInt32 = n := (Value.int.inj e0).symm
  have F : Arv s s.heap u c0.cls .byte n (cs.map Value.int) (.int 0) := Arv.start hf A hs e2 (by rw [hn]; exact own_nneg (by omega)) (by rw [hn, own_nclamp (by omega), List.length_map]) (own_hl eu A.1 cs 0 (by omega) we)
  exact ⟨x, u, _, ex, own_slit E V C F hn rfl e3 r hl⟩
theorem own_E1S {s : State} {args : Array Value} {f : String} {cs : List Int32} {y u : Addr} {k : ClassId} (w0 : (Cond.initialized "com/example/sillon/sillon/siri/GeneralMessageChannel").before args s = true) (w1 : (Cond.laysStatic "com/example/sillon/sillon/siri/GeneralMessageChannel" f "Lcom/example/sillon/sillon/siri/GeneralMessageChannel;").before args s = true) (w2 : (Cond.exactly (.static "com/example/sillon/sillon/siri/GeneralMessageChannel" f "Lcom/example/sillon/sillon/siri/GeneralMessageChannel;") "com/example/sillon/sillon/siri/GeneralMessageChannel").value args s none s [] = some true)
    (ey : (Term.field (.static "com/example/sillon/sillon/siri/GeneralMessageChannel" f "Lcom/example/sillon/sillon/siri/GeneralMessageChannel;") "com/example/sillon/sillon/siri/GeneralMessageChannel" "code" "Ljava/lang/String;").eval args s none [] s = some (.ref y)) (S : Str s s.heap y u k cs) : ∃ x, (Term.static "com/example/sillon/sillon/siri/GeneralMessageChannel" f "Lcom/example/sillon/sillon/siri/GeneralMessageChannel;").eval args s none [] s = some (.ref x) ∧ own_E1 s f x y u k cs := by
  obtain ⟨x, _, _, _, ex, -⟩ := Cond.exactly_spec (Cond.before_iff.mpr w2)
  exact ⟨x, ex, Sta.start ex (Or.inr ⟨w0, w1⟩), Exa.start ex w2, Fld.start ((fld_at ex).symm.trans ey), S⟩
theorem own_elr {s : State} {args : Array Value} {t u : Term} {a b : Addr} {j : Int32} {cl : Cell} (h : (Cond.eq (.elem t (.int j)) u).value args s none s [] = some true) (ht : t.eval args s none [] s = some (.ref a)) (hu : u.eval args s none [] s = some (.ref b)) (hc : s.heap[a]? = some cl) : cl.slots[j.toNatClampNeg]? = some (.ref b) :=
  (elem_in (Cond.eq_refs (Cond.before_iff.mpr h) hu rfl) ht (Term.int_eval j) hc).2

theorem ef_s4e (m : MethodId) (a : Addr) (b : Addr) : entryFrame m #[(.ref a), (.ref b), (.int (0 : Int32)), (.int (0 : Int32)), .null] 6 = (mkF m 0 #[.val (.ref a), .val (.ref b), .val (.int (0 : Int32)), .val (.int (0 : Int32)), .val .null, uS] []) := by first | (simp [entryFrame, mkF, argsToLocals, Value.category]; done) | rfl
def Q_s4e (Z : State) (a : Addr) (b : Addr) (h0 : Heap) (n0 : Nat) (v : Option Value) (h : Heap) (L : List Loc) : Prop := ∃ (t : Addr) (kb : ClassId), v = none ∧ Fr n0 L ∧ Keep h0 h [a] ∧ Str Z h a t kb [] ∧ a ≠ t
set_option maxRecDepth 65536 in
set_option maxHeartbeats 40000000 in
theorem rm_s4e (l : Launch) (Z : State) (a0 : Array Value) (hw : ∀ d ∈ tables_1, d.before a0 Z = true) (ws : List Jvm.Cond) (a : Addr) (b : Addr) (h0 : Heap) (n0 : Nat) (Z0 : n0 ≤ h0.size) (P0 : Exa Z h0 a "java/lang/String") (P1 : Fld Z h0 a "java/lang/String" "value" "[B" .null) (P2 : Fld Z h0 a "java/lang/String" "coder" "B" (.int (0 : Int32))) (g_a : n0 ≤ a) :
    MetFree l (⟨"java/lang/String", "<init>", "([CIILjava/lang/Void;)V"⟩ : MethodName) (head1 (Jvm.Cond.code (⟨"java/lang/String", "<init>", "([CIILjava/lang/Void;)V"⟩ : MethodName) jdk_42_method_149_code 6 none :: ws) ({ frames := 1, cells := 4, slots := 8, locals := 12 } : Room)) (fun aR U => aR = #[(.ref a), (.ref b), (.int (0 : Int32)), (.int (0 : Int32)), .null] ∧ Z.Warmed39 U.vm ∧ U.heap = h0 ∧ CHv Z EL U.vm h0 ∧ ∀ x ∈ ([a] : List Addr), Safe Z EL U.vm h0 x) (fun _ _ _ _ _ => True) (fun _ U o U' => ∃ v L, o = .returned v ∧ Q_s4e Z a b h0 n0 v U'.heap L ∧ CHr Z EL U.vm U.heap U'.vm U'.heap ∧ ReturnedEndW U o U' L ({ frames := 1, cells := 4, slots := 8, locals := 12 } : Room).cells ({ frames := 1, cells := 4, slots := 8, locals := 12 } : Room).slots) := by
 refine MetFree.of_bodySF (plainFor_of_name pn_0) hisR ?_
 intro p e s m args below meth c s₁ Bd hml0 hP hK
 obtain ⟨rfl, hZ, hh, hCH, hSF⟩ := hP
 have hx := Bd.exec
 have hby := Bd.bytes
 have hml : c.maxLocals = 6 := hml0
 have hown : s.vm.findClass "java/lang/String" = some m.cls := findClass_of_methodNamed Bd.named
 have hnm := (name_of_methodNamed Bd.named Bd.method).1
 have X0 : Stand p l e ({ frames := 1, cells := 4, slots := 8, locals := 12 } : Room) (s.setVm s.vm) m #[(.ref a), (.ref b), (.int (0 : Int32)), (.int (0 : Int32)), .null] below meth c s₁ [] 0 0 := Stand.of_body Bd
 have e0 : s₁.heap = h0 := by rw [← hh, Bd.state]; rfl
 have N0 := Fr.nil n0
 show Goes p.tables e below _ _
 rw [ef_s4e m a b]
 refine Goes.named ?_
 intro QQ hQQ
 have hS0 : s.Since s.vm 0 := (State.WarmedH.refl s).since 0
 have hk0 : 0 ≤ h0.size := Nat.zero_le _
 have CR0 : CHr Z EL s.vm h0 s.vm h0 := CHr.refl hCH
 have sf0_a : Safe Z EL s.vm h0 a := hSF _ (List.mem_of_getElem? (i := 0) rfl)
 refine Goes.st (fun sT kT => XS.aloadN X0.here hx rfl (hb hby d14_0) rfl rfl kT) ?_
 show Goes _ _ _ _ (s₁.setTop (mkF m 1 #[.val (.ref a), .val (.ref b), .val (.int (0 : Int32)), .val (.int (0 : Int32)), .val .null, uS] [(.ref a)]))
 obtain ⟨T1, X1, e1, st1⟩ := initO X0 hx hZ hown (hw89 hw) (hw90 hw) (hw91 hw) e0 (g := (mkF m 1 #[.val (.ref a), .val (.ref b), .val (.int (0 : Int32)), .val (.int (0 : Int32)), .val .null, uS] [(.ref a)])) rfl (by rw [hml]; rfl) rfl (hb hby d14_1) (by decide) (W := 0) (by show 2 * 0 + _ ≤ _; exact Nat.le_of_eq rfl) (by decide)
 refine Goes.st st1 ?_
 show Goes _ _ _ _ (T1.setTop (mkF m 4 #[.val (.ref a), .val (.ref b), .val (.int (0 : Int32)), .val (.int (0 : Int32)), .val .null, uS] []))
 refine Goes.st (fun sT kT => XS.iloadN X1.here hx rfl (hb hby d14_4) rfl kT) ?_
 show Goes _ _ _ _ (T1.setTop (mkF m 5 #[.val (.ref a), .val (.ref b), .val (.int (0 : Int32)), .val (.int (0 : Int32)), .val .null, uS] [(.int (0 : Int32))]))
 refine Goes.st (fun sT kT => XS.ifNo X1.here hx rfl (hb hby d14_5) rfl ((if0 _ _).trans (teq (by decide : (0 : Int32) = (0 : Int32))).2) kT) ?_
 show Goes _ _ _ _ (T1.setTop (mkF m 8 #[.val (.ref a), .val (.ref b), .val (.int (0 : Int32)), .val (.int (0 : Int32)), .val .null, uS] []))
 refine Goes.st (fun sT kT => XS.aloadN X1.here hx rfl (hb hby d14_8) rfl rfl kT) ?_
 show Goes _ _ _ _ (T1.setTop (mkF m 9 #[.val (.ref a), .val (.ref b), .val (.int (0 : Int32)), .val (.int (0 : Int32)), .val .null, uS] [(.ref a)]))
 obtain ⟨b2, T2, h2, kk2, t2, kb2, X2, e2, E2, hS2, hk2, hZ2, hown2, Ex2, Cd2, Vf2, Av2, lb2, lt2, C2, Lt2, hne2, st2⟩ := ldcCH X1 hx hZ hown (hw92 hw) (own_wS hw) e1 hS0 hk0 (own_EW hw) (by decide +kernel) CR0.1 (vs := []) (z := (0 : Int32)) ⟨by decide, by decide⟩ (by decide) (by decide) (g := (mkF m 9 #[.val (.ref a), .val (.ref b), .val (.int (0 : Int32)), .val (.int (0 : Int32)), .val .null, uS] [(.ref a)])) rfl (hb hby d14_9) (n := 0) (by decide) (by decide) (by decide) (by decide)
 have CR2 : CHr Z EL s.vm h0 T2.vm h2 := CR0.trans C2
 have sf2_a : Safe Z EL T2.vm h2 a := C2.safe P0.lt sf0_a
 refine Goes.st st2 ?_
 show Goes _ _ _ _ (T2.setTop (mkF m 11 #[.val (.ref a), .val (.ref b), .val (.int (0 : Int32)), .val (.int (0 : Int32)), .val .null, uS] [(.ref b2), (.ref a)]))
 obtain ⟨T3, X3, e3, st3⟩ := getF X2 hx hZ2 hown2 (host := "") (Or.inl (hw47 hw)) Via.refl e2 Vf2 (g := (mkF m 11 #[.val (.ref a), .val (.ref b), .val (.int (0 : Int32)), .val (.int (0 : Int32)), .val .null, uS] [(.ref b2), (.ref a)])) rfl rfl (hb hby d14_11)
 refine Goes.st st3 ?_
 show Goes _ _ _ _ (T3.setTop (mkF m 14 #[.val (.ref a), .val (.ref b), .val (.int (0 : Int32)), .val (.int (0 : Int32)), .val .null, uS] [(.ref t2), (.ref a)]))
 have f4 : Exa Z h2 a "java/lang/String" := (P0.ext E2)
 have f5 : Fld Z h2 a "java/lang/String" "value" "[B" .null := (P1.ext E2)
 obtain ⟨T6, h6, X6, e6, W6, st6⟩ := putF X3 hx hZ2 hown2 (host := "") (Or.inl (hw47 hw)) Via.refl e3 f5 f4 (Or.inr ⟨(hw4 hw), rfl, hnm⟩) (hw2 hw) (ty := (.array .byte)) (by decide) rfl rfl (g := (mkF m 14 #[.val (.ref a), .val (.ref b), .val (.int (0 : Int32)), .val (.int (0 : Int32)), .val .null, uS] [(.ref t2), (.ref a)])) rfl rfl (hb hby d14_14)
 have N6 := Fr.snoc X6 N0 g_a
 have CR7 : CHr Z EL s.vm h0 T2.vm h6 := CR2.trans (CHr.wr W6 sf2_a CR2.1)
 have sf7_a : Safe Z EL T2.vm h6 a := Safe.wr W6 sf2_a CR2.1 sf2_a
 have F6 := f5.same W6
 refine Goes.st st6 ?_
 show Goes _ _ _ _ (T6.setTop (mkF m 17 #[.val (.ref a), .val (.ref b), .val (.int (0 : Int32)), .val (.int (0 : Int32)), .val .null, uS] []))
 refine Goes.st (fun sT kT => XS.aloadN X6.here hx rfl (hb hby d14_17) rfl rfl kT) ?_
 show Goes _ _ _ _ (T6.setTop (mkF m 18 #[.val (.ref a), .val (.ref b), .val (.int (0 : Int32)), .val (.int (0 : Int32)), .val .null, uS] [(.ref a)]))
 obtain ⟨b8, T8, h8, kk8, t8, kb8, X8, e8, E8, hS8, hk8, hZ8, hown8, Ex8, Cd8, Vf8, Av8, lb8, lt8, C8, Lt8, hne8, st8⟩ := ldcCH X6 hx hZ2 hown2 (hw92 hw) (own_wS hw) e6 hS2 (Nat.le_trans hk2 (Nat.le_of_eq W6.size.symm)) (own_EW hw) (by decide +kernel) CR7.1 (vs := []) (z := (0 : Int32)) ⟨by decide, by decide⟩ (by decide) (by decide) (g := (mkF m 18 #[.val (.ref a), .val (.ref b), .val (.int (0 : Int32)), .val (.int (0 : Int32)), .val .null, uS] [(.ref a)])) rfl (hb hby d14_18) (n := 0) (by decide) (by decide) (by decide) (by decide)
 have CR8 : CHr Z EL s.vm h0 T8.vm h8 := CR7.trans C8
 have sf8_a : Safe Z EL T8.vm h8 a := C8.safe (Nat.lt_of_lt_of_le P0.lt (Nat.le_trans E2.1 (Nat.le_of_eq W6.size.symm))) sf7_a
 refine Goes.st st8 ?_
 show Goes _ _ _ _ (T8.setTop (mkF m 20 #[.val (.ref a), .val (.ref b), .val (.int (0 : Int32)), .val (.int (0 : Int32)), .val .null, uS] [(.ref b8), (.ref a)]))
 obtain ⟨T9, X9, e9, st9⟩ := getF X8 hx hZ8 hown8 (host := "") (Or.inl (hw54 hw)) Via.refl e8 Cd8 (g := (mkF m 20 #[.val (.ref a), .val (.ref b), .val (.int (0 : Int32)), .val (.int (0 : Int32)), .val .null, uS] [(.ref b8), (.ref a)])) rfl rfl (hb hby d14_20)
 refine Goes.st st9 ?_
 show Goes _ _ _ _ (T9.setTop (mkF m 23 #[.val (.ref a), .val (.ref b), .val (.int (0 : Int32)), .val (.int (0 : Int32)), .val .null, uS] [(.int (0 : Int32)), (.ref a)]))
 have f10 : Exa Z h8 a "java/lang/String" := ((f4.wr W6).ext E8)
 have f11 : Fld Z h8 a "java/lang/String" "coder" "B" (.int (0 : Int32)) := (((P2.ext E2).other W6 (Or.inr (slot_ne (Or.inr (hw5 hw)) (Or.inr (hw4 hw)) (by decide) (t := .byte) (t' := (.array .byte)) (by decide) (by decide)))).ext E8)
 obtain ⟨T12, h12, X12, e12, W12, st12⟩ := putFN X9 hx hZ8 hown8 (hw54 hw) Via.refl e9 f11 f10 (Or.inr ⟨(hw5 hw), rfl, hnm⟩) (hw2 hw) (ty := .byte) (v' := (.int (0 : Int32))) (by decide) rfl (by decide) (g := (mkF m 23 #[.val (.ref a), .val (.ref b), .val (.int (0 : Int32)), .val (.int (0 : Int32)), .val .null, uS] [(.int (0 : Int32)), (.ref a)])) rfl rfl (hb hby d14_23)
 have N12 := Fr.snoc X12 N6 g_a
 have CR13 : CHr Z EL s.vm h0 T8.vm h12 := CR8.trans (CHr.wr W12 sf8_a CR8.1)
 have sf13_a : Safe Z EL T8.vm h12 a := Safe.wr W12 sf8_a CR8.1 sf8_a
 have F12 := f11.same W12
 refine Goes.st st12 ?_
 show Goes _ _ _ _ (T12.setTop (mkF m 26 #[.val (.ref a), .val (.ref b), .val (.int (0 : Int32)), .val (.int (0 : Int32)), .val .null, uS] []))
 have f15 : Exa Z h12 a "java/lang/String" := (f10.wr W12)
 have f16 : Fld Z h12 a "java/lang/String" "value" "[B" (.ref t2) := ((F6.ext E8).other W12 (Or.inr (slot_ne (Or.inr (hw4 hw)) (Or.inr (hw5 hw)) (by decide) (t := (.array .byte)) (t' := .byte) (by decide) (by decide))))
 have f17 : Arv Z h12 t2 kb2 .byte (0 : Int32) [] (.int (0 : Int32)) := (((Av2.other W6 (Ne.symm (hne2 _ sf2_a).2)).ext E8).other W12 (Ne.symm (hne2 _ sf2_a).2))
 have S14 : Str Z h12 a t2 kb2 [] := ⟨f15, f16, F12, f17, own_c0, Nat.zero_le _⟩
 have kp18 : Keep h0 h2 [a] := (Keep.refl h0 [a]).ext E2
 have kp19 : Keep h0 h6 [a] := kp18.wr W6 (Or.inl (List.mem_of_getElem? (i := 0) rfl))
 have kp20 : Keep h0 h8 [a] := kp19.ext E8
 have kp21 : Keep h0 h12 [a] := kp20.wr W12 (Or.inl (List.mem_of_getElem? (i := 0) rfl))
 obtain ⟨fs, hr, hrun, hended, hRW⟩ := X12.leaveW hS8 (by rw [e12]; exact (Nat.le_trans hk8 (Nat.le_of_eq W12.size.symm))) (v := none) (fun _ => rfl)
 subst hQQ
 have hCR : CHr Z EL s.vm s.heap T12.vm T12.heap := by rw [hh, e12]; exact CR13.trans (CHv.at X12 hZ8 (own_EW hw) CR13.1)
 refine ⟨_, _, X12.returnOut hx Bd.returns (hb hby d14_26) hr, hrun, hended, _, _, rfl, ?_, hCR, own_REmono hRW (by decide) (by decide)⟩
 show Q_s4e Z a b h0 n0 _ T12.heap _
 rw [e12]
 exact ⟨t2, kb2, rfl, N12, kp21, S14, (hne2 _ sf2_a).2⟩
theorem ef_s1e (m : MethodId) (a : Addr) (b : Addr) (kc : ClassId) : entryFrame m #[(.ref a), (.ref b)] 2 = (mkF m 0 #[.val (.ref a), .val (.ref b)] []) := by first | (simp [entryFrame, mkF, argsToLocals, Value.category]; done) | rfl
def Q_s1e (Z : State) (a : Addr) (b : Addr) (kc : ClassId) (h0 : Heap) (n0 : Nat) (v : Option Value) (h : Heap) (L : List Loc) : Prop := ∃ (t : Addr) (kb : ClassId), v = none ∧ Fr n0 L ∧ Keep h0 h [a] ∧ Str Z h a t kb [] ∧ a ≠ t
set_option maxRecDepth 65536 in
set_option maxHeartbeats 40000000 in
theorem rm_s1e (l : Launch) (Z : State) (a0 : Array Value) (hw : ∀ d ∈ tables_1, d.before a0 Z = true) (ws : List Jvm.Cond) (a : Addr) (b : Addr) (kc : ClassId) (h0 : Heap) (n0 : Nat) (Z0 : n0 ≤ h0.size) (P0 : Exa Z h0 a "java/lang/String") (P1 : Fld Z h0 a "java/lang/String" "value" "[B" .null) (P2 : Fld Z h0 a "java/lang/String" "coder" "B" (.int (0 : Int32))) (P3 : Arv Z h0 b kc .char (0 : Int32) [] (.int (0 : Int32))) (g_a : n0 ≤ a) :
    MetFree l (⟨"java/lang/String", "<init>", "([C)V"⟩ : MethodName) (head1 (Jvm.Cond.code (⟨"java/lang/String", "<init>", "([C)V"⟩ : MethodName) jdk_42_method_3_code 2 none :: ws) ({ frames := 2, cells := 4, slots := 8, locals := 29 } : Room)) (fun aR U => aR = #[(.ref a), (.ref b)] ∧ Z.Warmed39 U.vm ∧ U.heap = h0 ∧ CHv Z EL U.vm h0 ∧ ∀ x ∈ ([a] : List Addr), Safe Z EL U.vm h0 x) (fun _ _ _ _ _ => True) (fun _ U o U' => ∃ v L, o = .returned v ∧ Q_s1e Z a b kc h0 n0 v U'.heap L ∧ CHr Z EL U.vm U.heap U'.vm U'.heap ∧ ReturnedEndW U o U' L ({ frames := 2, cells := 4, slots := 8, locals := 29 } : Room).cells ({ frames := 2, cells := 4, slots := 8, locals := 29 } : Room).slots) := by
 refine MetFree.of_bodySF (plainFor_of_name pn_0) hisR ?_
 intro p e s m args below meth c s₁ Bd hml0 hP hK
 obtain ⟨rfl, hZ, hh, hCH, hSF⟩ := hP
 have hx := Bd.exec
 have hby := Bd.bytes
 have hml : c.maxLocals = 2 := hml0
 have hown : s.vm.findClass "java/lang/String" = some m.cls := findClass_of_methodNamed Bd.named
 have hnm := (name_of_methodNamed Bd.named Bd.method).1
 have X0 : Stand p l e ({ frames := 2, cells := 4, slots := 8, locals := 29 } : Room) (s.setVm s.vm) m #[(.ref a), (.ref b)] below meth c s₁ [] 0 0 := Stand.of_body Bd
 have e0 : s₁.heap = h0 := by rw [← hh, Bd.state]; rfl
 have N0 := Fr.nil n0
 show Goes p.tables e below _ _
 rw [ef_s1e m a b kc]
 refine Goes.named ?_
 intro QQ hQQ
 have hS0 : s.Since s.vm 0 := (State.WarmedH.refl s).since 0
 have hk0 : 0 ≤ h0.size := Nat.zero_le _
 have CR0 : CHr Z EL s.vm h0 s.vm h0 := CHr.refl hCH
 have sf0_a : Safe Z EL s.vm h0 a := hSF _ (List.mem_of_getElem? (i := 0) rfl)
 refine Goes.st (fun sT kT => XS.aloadN X0.here hx rfl (hb hby d13_0) rfl rfl kT) ?_
 show Goes _ _ _ _ (s₁.setTop (mkF m 1 #[.val (.ref a), .val (.ref b)] [(.ref a)]))
 refine Goes.st (fun sT kT => XS.aloadN X0.here hx rfl (hb hby d13_1) rfl rfl kT) ?_
 show Goes _ _ _ _ (s₁.setTop (mkF m 2 #[.val (.ref a), .val (.ref b)] [(.ref b), (.ref a)]))
 refine Goes.st (fun sT kT => XS.iconst X0.here hx rfl (hb hby d13_2) kT) ?_
 show Goes _ _ _ _ (s₁.setTop (mkF m 3 #[.val (.ref a), .val (.ref b)] [(.int (0 : Int32)), (.ref b), (.ref a)]))
 refine Goes.st (fun sT kT => XS.aloadN X0.here hx rfl (hb hby d13_3) rfl rfl kT) ?_
 show Goes _ _ _ _ (s₁.setTop (mkF m 4 #[.val (.ref a), .val (.ref b)] [(.ref b), (.int (0 : Int32)), (.ref b), (.ref a)]))
 obtain ⟨oc1, oA1, oq1, oS1, oM1, oH1, oG1⟩ := id P3
 refine Goes.st (fun sT kT => X0.arraylength hx (by rw [e0]; exact oA1.1) (State.isArrayOf_alike hZ.alike oA1.2.1) (g := (mkF m 4 #[.val (.ref a), .val (.ref b)] [(.ref b), (.int (0 : Int32)), (.ref b), (.ref a)])) rfl rfl (hb hby d13_4) _ kT) ?_
 rw [len_of oS1 oM1]
 show Goes _ _ _ _ (s₁.setTop (mkF m 5 #[.val (.ref a), .val (.ref b)] [(.int (0 : Int32)), (.int (0 : Int32)), (.ref b), (.ref a)]))
 refine Goes.st (fun sT kT => XS.aconstNull X0.here hx rfl (hb hby d13_5) kT) ?_
 show Goes _ _ _ _ (s₁.setTop (mkF m 6 #[.val (.ref a), .val (.ref b)] [.null, (.int (0 : Int32)), (.int (0 : Int32)), (.ref b), (.ref a)]))
 obtain ⟨_, _, ⟨T2, L2, k2, n2⟩, -, X2, hSr2, hgr2, ⟨Lc2, hQ2, l2, y2, z2, C2⟩, st2⟩ := X0.specialBackS hx (y := (⟨"java/lang/String", "<init>", "([CIILjava/lang/Void;)V"⟩ : MethodName)) rfl hown (mvT hZ (hw85 hw)) (mvT hZ (hw86 hw)) (mvT hZ (hw88 hw)) (by decide) (own_backW (W := 0) (xs := [a]) (rm_s4e l Z a0 hw [] a b h0 n0 Z0 P0 P1 P2 g_a) hZ (hw88 hw) (hw1 hw) (by decide) (by decide) (own_EW hw) CR0.1 (allS ⟨P0.lt, sf0_a⟩ all0)) (g := (mkF m 6 #[.val (.ref a), .val (.ref b)] [.null, (.int (0 : Int32)), (.int (0 : Int32)), (.ref b), (.ref a)])) rfl (by rw [hml]; rfl) (Steps.refl _) (a := a) (argsL := [(.ref b), (.int (0 : Int32)), (.int (0 : Int32)), .null]) (rest := []) (lenOf pd_0 rfl) rfl (by show 2 * 0 + _ ≤ _; exact Nat.le_of_eq rfl) (hb hby d13_6) (fun _ _ => ⟨rfl, e0, (by decide : 0 + 4 ≤ _), (by decide : 0 + 8 ≤ _)⟩)
 dsimp only [Pt.U, Pt.locs, Pt.cells, Pt.slots] at X2 l2 y2 z2 st2 hQ2 hSr2 hgr2 C2
 subst l2 y2 z2
 obtain ⟨X2, hS2, hZ2, hown2⟩ := rebS hS0 (by rw [e0]; exact hk0) X2 hSr2 hgr2 hZ hown
 obtain ⟨t2, kb2, rfl, N2q, K2, F2_0, ne2_0⟩ := hQ2
 have N2 := Fr.app N0 N2q
 have F2_0E := F2_0.1
 have CR3 : CHr Z EL s.vm h0 T2.vm T2.heap := CR0.trans (C2)
 have sf3_a : Safe Z EL T2.vm T2.heap a := C2.safe P0.lt sf0_a
 refine Goes.tr st2 ?_
 show Goes _ _ _ _ (T2.setTop (mkF m 9 #[.val (.ref a), .val (.ref b)] []))
 have kp4 : Keep h0 T2.heap [a] := (Keep.refl h0 [a]).trans K2 (allS (Or.inl (List.mem_of_getElem? (i := 0) rfl)) all0)
 obtain ⟨fs, hr, hrun, hended, hRW⟩ := X2.leaveW hS2 (Nat.le_refl _) (v := none) (fun _ => rfl)
 subst hQQ
 have hCR : CHr Z EL s.vm s.heap T2.vm T2.heap := by rw [hh]; exact CR3.trans (CHv.at X2 hZ2 (own_EW hw) CR3.1)
 refine ⟨_, _, X2.returnOut hx Bd.returns (hb hby d13_9) hr, hrun, hended, _, _, rfl, ?_, hCR, own_REmono hRW (by decide) (by decide)⟩
 show Q_s1e Z a b kc h0 n0 _ T2.heap _
 exact ⟨t2, kb2, rfl, N2, kp4, F2_0, ne2_0⟩
theorem ef_eqnull (m : MethodId) (a : Addr) : entryFrame m #[(.ref a), .null] 3 = (mkF m 0 #[.val (.ref a), .val .null, uS] []) := by first | (simp [entryFrame, mkF, argsToLocals, Value.category]; done) | rfl
def Q_eqnull (Z : State) (a : Addr) (h0 : Heap) (n0 : Nat) (v : Option Value) (h : Heap) (L : List Loc) : Prop := v = some (.int (0 : Int32)) ∧ Fr n0 L ∧ h = h0
set_option maxRecDepth 65536 in
set_option maxHeartbeats 40000000 in
theorem rm_eqnull (l : Launch) (Z : State) (a0 : Array Value) (hw : ∀ d ∈ tables_1, d.before a0 Z = true) (ws : List Jvm.Cond) (a : Addr) (h0 : Heap) (n0 : Nat) (Z0 : n0 ≤ h0.size) :
    MetFree l (⟨"java/lang/String", "equals", "(Ljava/lang/Object;)Z"⟩ : MethodName) (head1 (Jvm.Cond.code (⟨"java/lang/String", "equals", "(Ljava/lang/Object;)Z"⟩ : MethodName) jdk_42_method_66_code 3 (some .boolean) :: ws) ({ frames := 0, cells := 0, slots := 0, locals := 0 } : Room)) (fun aR U => aR = #[(.ref a), .null] ∧ Z.Warmed39 U.vm ∧ U.heap = h0) (fun _ _ _ _ _ => True) (fun _ U o U' => ∃ v L, o = .returned v ∧ Q_eqnull Z a h0 n0 v U'.heap L ∧ FrameEnd U o U' L ({ frames := 0, cells := 0, slots := 0, locals := 0 } : Room).cells ({ frames := 0, cells := 0, slots := 0, locals := 0 } : Room).slots) := by
 refine MetFree.of_bodySF (plainFor_of_name pn_0) hisR ?_
 intro p e s m args below meth c s₁ Bd hml0 hP hK
 obtain ⟨rfl, hZ, hh⟩ := hP
 have hx := Bd.exec
 have hby := Bd.bytes
 have hml : c.maxLocals = 3 := hml0
 have hown : s.vm.findClass "java/lang/String" = some m.cls := findClass_of_methodNamed Bd.named
 have hnm := (name_of_methodNamed Bd.named Bd.method).1
 have X0 : Stand p l e ({ frames := 0, cells := 0, slots := 0, locals := 0 } : Room) s m #[(.ref a), .null] below meth c s₁ [] 0 0 := Stand.of_body Bd
 have e0 : s₁.heap = h0 := by rw [← hh, Bd.state]; rfl
 have N0 := Fr.nil n0
 show Goes p.tables e below _ _
 rw [ef_eqnull m a]
 refine Goes.named ?_
 intro QQ hQQ
 refine Goes.st (fun sT kT => XS.aloadN X0.here hx rfl (hb hby d3_0) rfl rfl kT) ?_
 show Goes _ _ _ _ (s₁.setTop (mkF m 1 #[.val (.ref a), .val .null, uS] [(.ref a)]))
 refine Goes.st (fun sT kT => XS.aloadN X0.here hx rfl (hb hby d3_1) rfl rfl kT) ?_
 show Goes _ _ _ _ (s₁.setTop (mkF m 2 #[.val (.ref a), .val .null, uS] [.null, (.ref a)]))
 refine Goes.st (fun sT kT => Jvm.RoadKit.acmp (g := (mkF m 2 #[.val (.ref a), .val .null, uS] [.null, (.ref a)])) X0 hx rfl rfl rfl (pc0 := 2) (pc' := 7) (same := false) rfl (hb hby d3_2) rfl (decide_eq_false nofun) (by decide) (by decide) kT) ?_
 show Goes _ _ _ _ (s₁.setTop (mkF m 7 #[.val (.ref a), .val .null, uS] []))
 refine Goes.st (fun sT kT => XS.aloadN X0.here hx rfl (hb hby d3_7) rfl rfl kT) ?_
 show Goes _ _ _ _ (s₁.setTop (mkF m 8 #[.val (.ref a), .val .null, uS] [.null]))
 refine Goes.st (fun sT kT => X0.instanceofNull hx (g := (mkF m 8 #[.val (.ref a), .val .null, uS] [.null])) rfl rfl (hb hby d3_8) _ kT) ?_
 show Goes _ _ _ _ (s₁.setTop (mkF m 11 #[.val (.ref a), .val .null, uS] [(.int (0 : Int32))]))
 refine Goes.st (fun sT kT => XS.ifYes X0.here hx rfl (pc0 := 11) (pc' := 54) rfl (hb hby d3_11) rfl ((if0 _ _).trans (teq (by decide : (0 : Int32) = (0 : Int32))).1) (by decide) (by decide) kT) ?_
 show Goes _ _ _ _ (s₁.setTop (mkF m 54 #[.val (.ref a), .val .null, uS] []))
 refine Goes.st (fun sT kT => XS.iconst X0.here hx rfl (hb hby d3_54) kT) ?_
 show Goes _ _ _ _ (s₁.setTop (mkF m 55 #[.val (.ref a), .val .null, uS] [(.int (0 : Int32))]))
 obtain ⟨fs, hr, hrun, hended, hW, hsame⟩ := X0.leave (v := some (.int (0 : Int32))) (fun h => by rw [Bd.returns] at h; cases h)
 subst hQQ
 refine ⟨_, _, retN X0 hx (t := .boolean) Bd.returns (by simp) (hb hby d3_55) hr, hrun, hended, _, _, rfl, ?_, ⟨_, rfl⟩, hW, hsame.mono (by decide) (by decide)⟩
 show Q_eqnull Z a h0 n0 _ s₁.heap _
 rw [e0]
 exact ⟨rfl, N0, rfl⟩
theorem ef_vals (m : MethodId) (aV : Addr) (kV : ClassId) (eP : Addr) (cP : Addr) (tP : Addr) (kP : ClassId) (eI : Addr) (cI : Addr) (tI : Addr) (kI : ClassId) (eC : Addr) (cC : Addr) (tC : Addr) (kC : ClassId) : entryFrame m #[] 0 = (mkF m 0 #[] []) := by first | (simp [entryFrame, mkF, argsToLocals, Value.category]; done) | rfl
def Q_vals (Z : State) (aV : Addr) (kV : ClassId) (eP : Addr) (cP : Addr) (tP : Addr) (kP : ClassId) (eI : Addr) (cI : Addr) (tI : Addr) (kI : ClassId) (eC : Addr) (cC : Addr) (tC : Addr) (kC : ClassId) (h0 : Heap) (n0 : Nat) (v : Option Value) (h : Heap) (L : List Loc) : Prop := ∃ (r : Addr), v = some (.ref r) ∧ Fr n0 L ∧ Keep h0 h [] ∧ Arv Z h r kV (.object "com/example/sillon/sillon/siri/GeneralMessageChannel") (3 : Int32) [(.ref eP), (.ref eI), (.ref eC)] .null ∧ h0.size ≤ r
set_option maxRecDepth 65536 in
set_option maxHeartbeats 40000000 in
theorem rm_vals (l : Launch) (Z : State) (a0 : Array Value) (hw : ∀ d ∈ tables_1, d.before a0 Z = true) (ws : List Jvm.Cond) (aV : Addr) (kV : ClassId) (eP : Addr) (cP : Addr) (tP : Addr) (kP : ClassId) (eI : Addr) (cI : Addr) (tI : Addr) (kI : ClassId) (eC : Addr) (cC : Addr) (tC : Addr) (kC : ClassId) (h0 : Heap) (n0 : Nat) (Z0 : n0 ≤ h0.size) (P0 : Old Z n0 h0) (EN : own_En Z aV kV eP cP tP kP eI cI tI kI eC cC tC kC) :
    MetFree l (⟨"com/example/sillon/sillon/siri/GeneralMessageChannel", "values", "()[Lcom/example/sillon/sillon/siri/GeneralMessageChannel;"⟩ : MethodName) (head1 (Jvm.Cond.code (⟨"com/example/sillon/sillon/siri/GeneralMessageChannel", "values", "()[Lcom/example/sillon/sillon/siri/GeneralMessageChannel;"⟩ : MethodName) prog_18_method_1_code 0 (some (.array (.object "com/example/sillon/sillon/siri/GeneralMessageChannel"))) :: ws) ({ frames := 1, cells := 1, slots := 3, locals := 14 } : Room)) (fun aR U => aR = #[] ∧ Z.Warmed39 U.vm ∧ U.heap = h0) (fun _ _ _ _ _ => True) (fun _ U o U' => ∃ v L, o = .returned v ∧ Q_vals Z aV kV eP cP tP kP eI cI tI kI eC cC tC kC h0 n0 v U'.heap L ∧ FrameEnd U o U' L ({ frames := 1, cells := 1, slots := 3, locals := 14 } : Room).cells ({ frames := 1, cells := 1, slots := 3, locals := 14 } : Room).slots) := by
 refine MetFree.of_bodySF (plainFor_of_name pn_1) hisR ?_
 intro p e s m args below meth c s₁ Bd hml0 hP hK
 obtain ⟨rfl, hZ, hh⟩ := hP
 have hx := Bd.exec
 have hby := Bd.bytes
 have hml : c.maxLocals = 0 := hml0
 have hown : s.vm.findClass "com/example/sillon/sillon/siri/GeneralMessageChannel" = some m.cls := findClass_of_methodNamed Bd.named
 have hnm := (name_of_methodNamed Bd.named Bd.method).1
 have X0 : Stand p l e ({ frames := 1, cells := 1, slots := 3, locals := 14 } : Room) s m #[] below meth c s₁ [] 0 0 := Stand.of_body Bd
 have e0 : s₁.heap = h0 := by rw [← hh, Bd.state]; rfl
 have N0 := Fr.nil n0
 show Goes p.tables e below _ _
 rw [ef_vals m aV kV eP cP tP kP eI cI tI kI eC cC tC kC]
 refine Goes.named ?_
 intro QQ hQQ
 have G1 : Exa Z h0 aV "[Lcom/example/sillon/sillon/siri/GeneralMessageChannel;" := EN.2.1.ext P0.2
 have G2 : Arv Z h0 aV kV (.object "com/example/sillon/sillon/siri/GeneralMessageChannel") (3 : Int32) [(.ref eP), (.ref eI), (.ref eC)] .null := EN.2.2.1.ext P0.2
 obtain ⟨T3, X3, e3, st3⟩ := getS2 X0 hx hZ hown (host := "") (Or.inl (hw16 hw)) Via.refl e0 (EN.1.ext P0.2) (g := (mkF m 0 #[] [])) rfl (hb hby d2_0)
 refine Goes.st st3 ?_
 show Goes _ _ _ _ (T3.setTop (mkF m 3 #[] [(.ref aV)]))
 obtain ⟨T5, h5, X5, e5, E5, V5, D5, st5⟩ := cloneH X3 hx hZ hown (hw18 hw) (hw19 hw) (hw23 hw) (hw21 hw) (hw22 hw) (hw24 hw) e3 (Arv.arh G2) G1 (g := (mkF m 3 #[] [(.ref aV)])) rfl (by rw [hml]; rfl) rfl (hb hby d2_3) (by decide) (W := 0) (cap := 3) (by show 2 * 0 + _ ≤ _; exact Nat.le_of_eq rfl) (by decide) (by decide) (by decide) (by decide)
 obtain ⟨b5, g5⟩ : ∃ z, z = h0.size := ⟨_, rfl⟩
 rw [← g5] at V5 D5 st5
 have A5 : Arv Z h5 b5 kV (.object "com/example/sillon/sillon/siri/GeneralMessageChannel") (3 : Int32) [(.ref eP), (.ref eI), (.ref eC)] .null := V5
 refine Goes.st st5 ?_
 show Goes _ _ _ _ (T5.setTop (mkF m 6 #[] [(.ref b5)]))
 obtain ⟨T6, X6, e6, st6⟩ := castY X5 hx hZ hown (hw29 hw) e5 (Ins.self D5) (g := (mkF m 6 #[] [(.ref b5)])) rfl rfl (hb hby d2_6)
 refine Goes.st st6 ?_
 show Goes _ _ _ _ (T6.setTop (mkF m 9 #[] [(.ref b5)]))
 have kp7 : Keep h0 h5 [] := (Keep.refl h0 []).ext E5
 obtain ⟨fs, hr, hrun, hended, hW, hsame⟩ := X6.leave (v := some (.ref b5)) (fun h => by rw [Bd.returns] at h; cases h)
 subst hQQ
 refine ⟨_, _, retR X6 hx Bd.returns rfl rfl (hb hby d2_9) hr, hrun, hended, _, _, rfl, ?_, ⟨_, rfl⟩, hW, hsame.mono (by decide) (by decide)⟩
 show Q_vals Z aV kV eP cP tP kP eI cI tI kI eC cC tC kC h0 n0 _ T6.heap _
 rw [e6]
 exact ⟨b5, rfl, N0, kp7, A5, (Nat.le_of_eq g5.symm)⟩
theorem ef_namS (m : MethodId) (a : Addr) (t : Addr) (kb : ClassId) (cs : List Int32) (G1 : Int32) (aV : Addr) (kV : ClassId) (eP : Addr) (cP : Addr) (tP : Addr) (kP : ClassId) (eI : Addr) (cI : Addr) (tI : Addr) (kI : ClassId) (eC : Addr) (cC : Addr) (tC : Addr) (kC : ClassId) : entryFrame m #[(.ref a)] 5 = (mkF m 0 #[.val (.ref a), uS, uS, uS, uS] []) := by first | (simp [entryFrame, mkF, argsToLocals, Value.category]; done) | rfl
def Q_namS (Z : State) (a : Addr) (t : Addr) (kb : ClassId) (cs : List Int32) (G1 : Int32) (aV : Addr) (kV : ClassId) (eP : Addr) (cP : Addr) (tP : Addr) (kP : ClassId) (eI : Addr) (cI : Addr) (tI : Addr) (kI : ClassId) (eC : Addr) (cC : Addr) (tC : Addr) (kC : ClassId) (h0 : Heap) (n0 : Nat) (v : Option Value) (h : Heap) (L : List Loc) : Prop := v = some (own_pk cs eP eI eC) ∧ Fr n0 L ∧ Keep h0 h []
set_option maxRecDepth 65536 in
set_option maxHeartbeats 40000000 in
theorem rm_namS (l : Launch) (Z : State) (a0 : Array Value) (hw : ∀ d ∈ tables_1, d.before a0 Z = true) (ws : List Jvm.Cond) (a : Addr) (t : Addr) (kb : ClassId) (cs : List Int32) (G1 : Int32) (aV : Addr) (kV : ClassId) (eP : Addr) (cP : Addr) (tP : Addr) (kP : ClassId) (eI : Addr) (cI : Addr) (tI : Addr) (kI : ClassId) (eC : Addr) (cC : Addr) (tC : Addr) (kC : ClassId) (h0 : Heap) (n0 : Nat) (Z0 : n0 ≤ h0.size) (P0 : Str Z h0 a t kb cs) (P1 : Old Z n0 h0) (O2 : Sta Z Z.heap "java/lang/String" "COMPACT_STRINGS" "Z" (.int G1)) (P5 : ¬ (G1 = (0 : Int32))) (EN : own_En Z aV kV eP cP tP kP eI cI tI kI eC cC tC kC) :
    MetFree l (⟨"com/example/sillon/sillon/siri/GeneralMessageChannel", "named", "(Ljava/lang/String;)Lcom/example/sillon/sillon/siri/GeneralMessageChannel;"⟩ : MethodName) (head1 (Jvm.Cond.code (⟨"com/example/sillon/sillon/siri/GeneralMessageChannel", "named", "(Ljava/lang/String;)Lcom/example/sillon/sillon/siri/GeneralMessageChannel;"⟩ : MethodName) prog_18_method_4_code 5 (some (.object "com/example/sillon/sillon/siri/GeneralMessageChannel")) :: ws) ({ frames := 2, cells := 1, slots := 3, locals := 28 } : Room)) (fun aR U => aR = #[(.ref a)] ∧ Z.Warmed39 U.vm ∧ U.heap = h0) (fun _ _ _ _ _ => True) (fun _ U o U' => ∃ v L, o = .returned v ∧ Q_namS Z a t kb cs G1 aV kV eP cP tP kP eI cI tI kI eC cC tC kC h0 n0 v U'.heap L ∧ FrameEnd U o U' L ({ frames := 2, cells := 1, slots := 3, locals := 28 } : Room).cells ({ frames := 2, cells := 1, slots := 3, locals := 28 } : Room).slots) := by
 refine MetFree.of_bodySF (plainFor_of_name pn_1) hisR ?_
 intro p e s m args below meth c s₁ Bd hml0 hP hK
 obtain ⟨rfl, hZ, hh⟩ := hP
 have hx := Bd.exec
 have hby := Bd.bytes
 have hml : c.maxLocals = 5 := hml0
 have hown : s.vm.findClass "com/example/sillon/sillon/siri/GeneralMessageChannel" = some m.cls := findClass_of_methodNamed Bd.named
 have hnm := (name_of_methodNamed Bd.named Bd.method).1
 have X0 : Stand p l e ({ frames := 2, cells := 1, slots := 3, locals := 28 } : Room) s m #[(.ref a)] below meth c s₁ [] 0 0 := Stand.of_body Bd
 have e0 : s₁.heap = h0 := by rw [← hh, Bd.state]; rfl
 have N0 := Fr.nil n0
 show Goes p.tables e below _ _
 rw [ef_namS m a t kb cs G1 aV kV eP cP tP kP eI cI tI kI eC cC tC kC]
 refine Goes.named ?_
 intro QQ hQQ
 obtain ⟨_, _, ⟨T1, L1, k1, n1⟩, -, X1, ⟨Lc1, hQ1, l1, y1, z1⟩, st1⟩ := Jvm.LawKit.callS X0 hx (y := (⟨"com/example/sillon/sillon/siri/GeneralMessageChannel", "values", "()[Lcom/example/sillon/sillon/siri/GeneralMessageChannel;"⟩ : MethodName)) hown (mvT hZ (hw13 hw)) (mvT hZ (hw14 hw)) (mvT hZ (hw11 hw)) (mvT hZ (hw15 hw)) (by decide) (backOf (W := 0) (rm_vals l Z a0 hw [] aV kV eP cP tP kP eI cI tI kI eC cC tC kC h0 n0 Z0 P1 EN) hZ (hw15 hw) (hw11 hw) (by decide) (by decide)) (g := (mkF m 0 #[.val (.ref a), uS, uS, uS, uS] [])) rfl (by rw [hml]; rfl) (argsL := []) (rest := []) (lenOf pd_1 rfl) rfl (by show 2 * 0 + _ ≤ _; exact Nat.le_of_eq rfl) (hb hby d1_0) (fun _ _ => ⟨rfl, e0, (by decide : 0 + 1 ≤ _), (by decide : 0 + 3 ≤ _)⟩)
 dsimp only [Pt.U, Pt.locs, Pt.cells, Pt.slots] at X1 l1 y1 z1 st1 hQ1
 subst l1 y1 z1
 obtain ⟨r1, rfl, N1q, K1, F1_0, lo1_0⟩ := hQ1
 have N1 := Fr.app N0 N1q
 refine Goes.st st1 ?_
 show Goes _ _ _ _ (T1.setTop (mkF m 3 #[.val (.ref a), uS, uS, uS, uS] [(.ref r1)]))
 have f2 : Old Z n0 T1.heap := (P1.keep K1 all0)
 have G3 : Exa Z T1.heap eP "com/example/sillon/sillon/siri/GeneralMessageChannel" := EN.2.2.2.1.2.1.ext f2.2
 have G4 : Fld Z T1.heap eP "com/example/sillon/sillon/siri/GeneralMessageChannel" "code" "Ljava/lang/String;" (.ref cP) := EN.2.2.2.1.2.2.1.ext f2.2
 have G5 : Str Z T1.heap cP tP kP own_P := EN.2.2.2.1.2.2.2.ext f2.2
 have G6 : Exa Z T1.heap eI "com/example/sillon/sillon/siri/GeneralMessageChannel" := EN.2.2.2.2.1.2.1.ext f2.2
 have G7 : Fld Z T1.heap eI "com/example/sillon/sillon/siri/GeneralMessageChannel" "code" "Ljava/lang/String;" (.ref cI) := EN.2.2.2.2.1.2.2.1.ext f2.2
 have G8 : Str Z T1.heap cI tI kI own_I := EN.2.2.2.2.1.2.2.2.ext f2.2
 have G9 : Exa Z T1.heap eC "com/example/sillon/sillon/siri/GeneralMessageChannel" := EN.2.2.2.2.2.2.1.ext f2.2
 have G10 : Fld Z T1.heap eC "com/example/sillon/sillon/siri/GeneralMessageChannel" "code" "Ljava/lang/String;" (.ref cC) := EN.2.2.2.2.2.2.2.1.ext f2.2
 have G11 : Str Z T1.heap cC tC kC own_C := EN.2.2.2.2.2.2.2.2.ext f2.2
 refine Goes.st (fun sT kT => XS.astoreN X1.here hx rfl (hb hby d1_3) rfl rfl (l' := #[.val (.ref a), .val (.ref r1), uS, uS, uS]) rfl kT) ?_
 show Goes _ _ _ _ (T1.setTop (mkF m 4 #[.val (.ref a), .val (.ref r1), uS, uS, uS] []))
 refine Goes.st (fun sT kT => XS.aloadN X1.here hx rfl (hb hby d1_4) rfl rfl kT) ?_
 show Goes _ _ _ _ (T1.setTop (mkF m 5 #[.val (.ref a), .val (.ref r1), uS, uS, uS] [(.ref r1)]))
 obtain ⟨oc12, oA12, oq12, oS12, oM12, oH12, oG12⟩ := id F1_0
 refine Goes.st (fun sT kT => X1.arraylength hx oA12.1 (State.isArrayOf_alike hZ.alike oA12.2.1) (g := (mkF m 5 #[.val (.ref a), .val (.ref r1), uS, uS, uS] [(.ref r1)])) rfl rfl (hb hby d1_5) _ kT) ?_
 rw [len_of oS12 oM12]
 show Goes _ _ _ _ (T1.setTop (mkF m 6 #[.val (.ref a), .val (.ref r1), uS, uS, uS] [(.int (3 : Int32))]))
 refine Goes.st (fun sT kT => XS.istoreN X1.here hx rfl (hb hby d1_6) rfl (l' := #[.val (.ref a), .val (.ref r1), .val (.int (3 : Int32)), uS, uS]) rfl kT) ?_
 show Goes _ _ _ _ (T1.setTop (mkF m 7 #[.val (.ref a), .val (.ref r1), .val (.int (3 : Int32)), uS, uS] []))
 refine Goes.st (fun sT kT => XS.iconst X1.here hx rfl (hb hby d1_7) kT) ?_
 show Goes _ _ _ _ (T1.setTop (mkF m 8 #[.val (.ref a), .val (.ref r1), .val (.int (3 : Int32)), uS, uS] [(.int (0 : Int32))]))
 refine Goes.st (fun sT kT => XS.istoreN X1.here hx rfl (hb hby d1_8) rfl (l' := #[.val (.ref a), .val (.ref r1), .val (.int (3 : Int32)), .val (.int (0 : Int32)), uS]) rfl kT) ?_
 show Goes _ _ _ _ (T1.setTop (mkF m 9 #[.val (.ref a), .val (.ref r1), .val (.int (3 : Int32)), .val (.int (0 : Int32)), uS] []))
 refine Goes.st (fun sT kT => XS.iloadN X1.here hx rfl (hb hby d1_9) rfl kT) ?_
 show Goes _ _ _ _ (T1.setTop (mkF m 10 #[.val (.ref a), .val (.ref r1), .val (.int (3 : Int32)), .val (.int (0 : Int32)), uS] [(.int (0 : Int32))]))
 refine Goes.st (fun sT kT => XS.iloadN X1.here hx rfl (hb hby d1_10) rfl kT) ?_
 show Goes _ _ _ _ (T1.setTop (mkF m 11 #[.val (.ref a), .val (.ref r1), .val (.int (3 : Int32)), .val (.int (0 : Int32)), uS] [(.int (3 : Int32)), (.int (0 : Int32))]))
 refine Goes.st (fun sT kT => XS.icmpNo X1.here hx rfl (hb hby d1_11) rfl (tlt (by decide : (0 : Int32) < (3 : Int32))).2.1 kT) ?_
 show Goes _ _ _ _ (T1.setTop (mkF m 14 #[.val (.ref a), .val (.ref r1), .val (.int (3 : Int32)), .val (.int (0 : Int32)), uS] []))
 refine Goes.st (fun sT kT => XS.aloadN X1.here hx rfl (hb hby d1_14) rfl rfl kT) ?_
 show Goes _ _ _ _ (T1.setTop (mkF m 15 #[.val (.ref a), .val (.ref r1), .val (.int (3 : Int32)), .val (.int (0 : Int32)), uS] [(.ref r1)]))
 refine Goes.st (fun sT kT => XS.iloadN X1.here hx rfl (hb hby d1_15) rfl kT) ?_
 show Goes _ _ _ _ (T1.setTop (mkF m 16 #[.val (.ref a), .val (.ref r1), .val (.int (3 : Int32)), .val (.int (0 : Int32)), uS] [(.int (0 : Int32)), (.ref r1)]))
 obtain ⟨oc13, oA13, oq13, oS13, oM13, oH13, oG13⟩ := id F1_0
 refine Goes.st (fun sT kT => X1.aaload hx (j := (0 : Int32)) (v := (.ref eP)) oA13.1 (State.isArrayOf_alike hZ.alike oA13.2.1) rfl oA13.2.2 (inb_of oS13 ⟨by decide, by decide⟩) (oH13.at (inb_of oS13 ⟨by decide, by decide⟩) rfl) (g := (mkF m 16 #[.val (.ref a), .val (.ref r1), .val (.int (3 : Int32)), .val (.int (0 : Int32)), uS] [(.int (0 : Int32)), (.ref r1)])) rfl rfl (hb hby d1_16) _ kT) ?_
 show Goes _ _ _ _ (T1.setTop (mkF m 17 #[.val (.ref a), .val (.ref r1), .val (.int (3 : Int32)), .val (.int (0 : Int32)), uS] [(.ref eP)]))
 refine Goes.st (fun sT kT => XS.astore X1.here hx rfl (hb hby d1_17) rfl rfl (l' := #[.val (.ref a), .val (.ref r1), .val (.int (3 : Int32)), .val (.int (0 : Int32)), .val (.ref eP)]) rfl kT) ?_
 show Goes _ _ _ _ (T1.setTop (mkF m 19 #[.val (.ref a), .val (.ref r1), .val (.int (3 : Int32)), .val (.int (0 : Int32)), .val (.ref eP)] []))
 refine Goes.st (fun sT kT => XS.aload X1.here hx rfl (hb hby d1_19) rfl rfl kT) ?_
 show Goes _ _ _ _ (T1.setTop (mkF m 21 #[.val (.ref a), .val (.ref r1), .val (.int (3 : Int32)), .val (.int (0 : Int32)), .val (.ref eP)] [(.ref eP)]))
 obtain ⟨T14, X14, e14, st14⟩ := getF X1 hx hZ hown (host := "") (Or.inl (hw31 hw)) Via.refl rfl G4 (g := (mkF m 21 #[.val (.ref a), .val (.ref r1), .val (.int (3 : Int32)), .val (.int (0 : Int32)), .val (.ref eP)] [(.ref eP)])) rfl rfl (hb hby d1_21)
 refine Goes.st st14 ?_
 show Goes _ _ _ _ (T14.setTop (mkF m 24 #[.val (.ref a), .val (.ref r1), .val (.int (3 : Int32)), .val (.int (0 : Int32)), .val (.ref eP)] [(.ref cP)]))
 refine Goes.st (fun sT kT => XS.aloadN X14.here hx rfl (hb hby d1_24) rfl rfl kT) ?_
 show Goes _ _ _ _ (T14.setTop (mkF m 25 #[.val (.ref a), .val (.ref r1), .val (.int (3 : Int32)), .val (.int (0 : Int32)), .val (.ref eP)] [(.ref a), (.ref cP)]))
 have f16 : Str Z T1.heap a t kb cs := (P0.keep K1 nin0 nin0)
 obtain ⟨cq15, kq15, q15a, q15b, q15c⟩ := isOf hZ e14 G5.1
 obtain ⟨_, _, ⟨T15, L15, k15, n15⟩, -, X15, ⟨Lc15, hQ15, l15, y15, z15⟩, st15⟩ := X14.virtualBack hx (y := (⟨"java/lang/String", "equals", "(Ljava/lang/Object;)Z"⟩ : MethodName)) (z := (⟨"java/lang/String", "equals", "(Ljava/lang/Object;)Z"⟩ : MethodName)) hown (mvT hZ (hw33 hw)) (mvT hZ (hw34 hw)) (notFace_of_selects (args := #[]) (mvT hZ (hw36 hw))) (mvT hZ (hw36 hw)) (mvT hZ (hw35 hw)) (by decide) (StrChars.Road.eqW (W := 0) hZ (own_heq hw) (kI := 4) (hw2 hw) G5.1 G5.2.1 G5.2.2.1 G5.2.2.2.1 (own_cod G5) (own_up G5.2.2.2.2.1) G5.2.2.2.2.2 f16.1 f16.2.1 f16.2.2.1 f16.2.2.2.1 (own_cod f16) (own_up f16.2.2.2.2.1) f16.2.2.2.2.2 (O2.ext f2.2) P5 (by decide) (by decide)) q15a q15c (g := (mkF m 25 #[.val (.ref a), .val (.ref r1), .val (.int (3 : Int32)), .val (.int (0 : Int32)), .val (.ref eP)] [(.ref a), (.ref cP)])) rfl (by rw [hml]; rfl) (Steps.refl _) (argsL := [(.ref a)]) (rest := []) (lenOf pd_2 rfl) rfl (by show 2 * 0 + _ ≤ _; exact Nat.le_of_eq rfl) (hb hby d1_25) (fun _ _ => ⟨rfl, e14, (by decide : 1 + 0 ≤ _), (by decide : 3 + 0 ≤ _)⟩)
 dsimp only [Pt.U, Pt.locs, Pt.cells, Pt.slots] at X15 l15 y15 z15 st15 hQ15
 subst l15 y15 z15
 obtain ⟨hv15, rfl, K15⟩ := hQ15
 have hv15' := own_ite hv15
 subst hv15'
 have N15 := Fr.app N1 (Fr.nil n0)
 refine Goes.tr st15 ?_
 show Goes _ _ _ _ (T15.setTop (mkF m 28 #[.val (.ref a), .val (.ref r1), .val (.int (3 : Int32)), .val (.int (0 : Int32)), .val (.ref eP)] [(.int (if (own_P : List Int32) = cs then (1 : Int32) else 0))]))
 by_cases cz17 : (if (own_P : List Int32) = cs then (1 : Int32) else 0) = (0 : Int32)
 case pos =>
  refine Goes.st (fun sT kT => XS.ifYes X15.here hx rfl (pc0 := 28) (pc' := 34) rfl (hb hby d1_28) rfl ((if0 _ _).trans (teq cz17).1) (by decide) (by decide) kT) ?_
  show Goes _ _ _ _ (T15.setTop (mkF m 34 #[.val (.ref a), .val (.ref r1), .val (.int (3 : Int32)), .val (.int (0 : Int32)), .val (.ref eP)] []))
  refine Goes.st (fun sT kT => XS.iinc X15.here hx rfl (hb hby d1_34) rfl (l' := #[.val (.ref a), .val (.ref r1), .val (.int (3 : Int32)), .val (.int (1 : Int32)), .val (.ref eP)]) rfl kT) ?_
  show Goes _ _ _ _ (T15.setTop (mkF m 37 #[.val (.ref a), .val (.ref r1), .val (.int (3 : Int32)), .val (.int (1 : Int32)), .val (.ref eP)] []))
  refine Goes.st (fun sT kT => XS.goto X15.here hx rfl (pc0 := 37) (pc' := 9) rfl (hb hby d1_37) (by decide) (by decide) kT) ?_
  show Goes _ _ _ _ (T15.setTop (mkF m 9 #[.val (.ref a), .val (.ref r1), .val (.int (3 : Int32)), .val (.int (1 : Int32)), .val (.ref eP)] []))
  refine Goes.st (fun sT kT => XS.iloadN X15.here hx rfl (hb hby d1_9) rfl kT) ?_
  show Goes _ _ _ _ (T15.setTop (mkF m 10 #[.val (.ref a), .val (.ref r1), .val (.int (3 : Int32)), .val (.int (1 : Int32)), .val (.ref eP)] [(.int (1 : Int32))]))
  refine Goes.st (fun sT kT => XS.iloadN X15.here hx rfl (hb hby d1_10) rfl kT) ?_
  show Goes _ _ _ _ (T15.setTop (mkF m 11 #[.val (.ref a), .val (.ref r1), .val (.int (3 : Int32)), .val (.int (1 : Int32)), .val (.ref eP)] [(.int (3 : Int32)), (.int (1 : Int32))]))
  refine Goes.st (fun sT kT => XS.icmpNo X15.here hx rfl (hb hby d1_11) rfl (tlt (by decide : (1 : Int32) < (3 : Int32))).2.1 kT) ?_
  show Goes _ _ _ _ (T15.setTop (mkF m 14 #[.val (.ref a), .val (.ref r1), .val (.int (3 : Int32)), .val (.int (1 : Int32)), .val (.ref eP)] []))
  refine Goes.st (fun sT kT => XS.aloadN X15.here hx rfl (hb hby d1_14) rfl rfl kT) ?_
  show Goes _ _ _ _ (T15.setTop (mkF m 15 #[.val (.ref a), .val (.ref r1), .val (.int (3 : Int32)), .val (.int (1 : Int32)), .val (.ref eP)] [(.ref r1)]))
  refine Goes.st (fun sT kT => XS.iloadN X15.here hx rfl (hb hby d1_15) rfl kT) ?_
  show Goes _ _ _ _ (T15.setTop (mkF m 16 #[.val (.ref a), .val (.ref r1), .val (.int (3 : Int32)), .val (.int (1 : Int32)), .val (.ref eP)] [(.int (1 : Int32)), (.ref r1)]))
  obtain ⟨oc18, oA18, oq18, oS18, oM18, oH18, oG18⟩ := id F1_0
  refine Goes.st (fun sT kT => X15.aaload hx (j := (1 : Int32)) (v := (.ref eI)) (by rw [K15]; exact oA18.1) (State.isArrayOf_alike hZ.alike oA18.2.1) rfl oA18.2.2 (inb_of oS18 ⟨by decide, by decide⟩) (oH18.at (inb_of oS18 ⟨by decide, by decide⟩) rfl) (g := (mkF m 16 #[.val (.ref a), .val (.ref r1), .val (.int (3 : Int32)), .val (.int (1 : Int32)), .val (.ref eP)] [(.int (1 : Int32)), (.ref r1)])) rfl rfl (hb hby d1_16) _ kT) ?_
  show Goes _ _ _ _ (T15.setTop (mkF m 17 #[.val (.ref a), .val (.ref r1), .val (.int (3 : Int32)), .val (.int (1 : Int32)), .val (.ref eP)] [(.ref eI)]))
  refine Goes.st (fun sT kT => XS.astore X15.here hx rfl (hb hby d1_17) rfl rfl (l' := #[.val (.ref a), .val (.ref r1), .val (.int (3 : Int32)), .val (.int (1 : Int32)), .val (.ref eI)]) rfl kT) ?_
  show Goes _ _ _ _ (T15.setTop (mkF m 19 #[.val (.ref a), .val (.ref r1), .val (.int (3 : Int32)), .val (.int (1 : Int32)), .val (.ref eI)] []))
  refine Goes.st (fun sT kT => XS.aload X15.here hx rfl (hb hby d1_19) rfl rfl kT) ?_
  show Goes _ _ _ _ (T15.setTop (mkF m 21 #[.val (.ref a), .val (.ref r1), .val (.int (3 : Int32)), .val (.int (1 : Int32)), .val (.ref eI)] [(.ref eI)]))
  obtain ⟨T19, X19, e19, st19⟩ := getF X15 hx hZ hown (host := "") (Or.inl (hw31 hw)) Via.refl K15 G7 (g := (mkF m 21 #[.val (.ref a), .val (.ref r1), .val (.int (3 : Int32)), .val (.int (1 : Int32)), .val (.ref eI)] [(.ref eI)])) rfl rfl (hb hby d1_21)
  refine Goes.st st19 ?_
  show Goes _ _ _ _ (T19.setTop (mkF m 24 #[.val (.ref a), .val (.ref r1), .val (.int (3 : Int32)), .val (.int (1 : Int32)), .val (.ref eI)] [(.ref cI)]))
  refine Goes.st (fun sT kT => XS.aloadN X19.here hx rfl (hb hby d1_24) rfl rfl kT) ?_
  show Goes _ _ _ _ (T19.setTop (mkF m 25 #[.val (.ref a), .val (.ref r1), .val (.int (3 : Int32)), .val (.int (1 : Int32)), .val (.ref eI)] [(.ref a), (.ref cI)]))
  obtain ⟨cq20, kq20, q20a, q20b, q20c⟩ := isOf hZ e19 G8.1
  obtain ⟨_, _, ⟨T20, L20, k20, n20⟩, -, X20, ⟨Lc20, hQ20, l20, y20, z20⟩, st20⟩ := X19.virtualBack hx (y := (⟨"java/lang/String", "equals", "(Ljava/lang/Object;)Z"⟩ : MethodName)) (z := (⟨"java/lang/String", "equals", "(Ljava/lang/Object;)Z"⟩ : MethodName)) hown (mvT hZ (hw33 hw)) (mvT hZ (hw34 hw)) (notFace_of_selects (args := #[]) (mvT hZ (hw36 hw))) (mvT hZ (hw36 hw)) (mvT hZ (hw35 hw)) (by decide) (StrChars.Road.eqW (W := 0) hZ (own_heq hw) (kI := 4) (hw2 hw) G8.1 G8.2.1 G8.2.2.1 G8.2.2.2.1 (own_cod G8) (own_up G8.2.2.2.2.1) G8.2.2.2.2.2 f16.1 f16.2.1 f16.2.2.1 f16.2.2.2.1 (own_cod f16) (own_up f16.2.2.2.2.1) f16.2.2.2.2.2 (O2.ext f2.2) P5 (by decide) (by decide)) q20a q20c (g := (mkF m 25 #[.val (.ref a), .val (.ref r1), .val (.int (3 : Int32)), .val (.int (1 : Int32)), .val (.ref eI)] [(.ref a), (.ref cI)])) rfl (by rw [hml]; rfl) (Steps.refl _) (argsL := [(.ref a)]) (rest := []) (lenOf pd_2 rfl) rfl (by show 2 * 0 + _ ≤ _; exact Nat.le_of_eq rfl) (hb hby d1_25) (fun _ _ => ⟨rfl, e19, (by decide : 1 + 0 ≤ _), (by decide : 3 + 0 ≤ _)⟩)
  dsimp only [Pt.U, Pt.locs, Pt.cells, Pt.slots] at X20 l20 y20 z20 st20 hQ20
  subst l20 y20 z20
  obtain ⟨hv20, rfl, K20⟩ := hQ20
  have hv20' := own_ite hv20
  subst hv20'
  have N20 := Fr.app N15 (Fr.nil n0)
  refine Goes.tr st20 ?_
  show Goes _ _ _ _ (T20.setTop (mkF m 28 #[.val (.ref a), .val (.ref r1), .val (.int (3 : Int32)), .val (.int (1 : Int32)), .val (.ref eI)] [(.int (if (own_I : List Int32) = cs then (1 : Int32) else 0))]))
  by_cases cz21 : (if (own_I : List Int32) = cs then (1 : Int32) else 0) = (0 : Int32)
  case pos =>
   refine Goes.st (fun sT kT => XS.ifYes X20.here hx rfl (pc0 := 28) (pc' := 34) rfl (hb hby d1_28) rfl ((if0 _ _).trans (teq cz21).1) (by decide) (by decide) kT) ?_
   show Goes _ _ _ _ (T20.setTop (mkF m 34 #[.val (.ref a), .val (.ref r1), .val (.int (3 : Int32)), .val (.int (1 : Int32)), .val (.ref eI)] []))
   refine Goes.st (fun sT kT => XS.iinc X20.here hx rfl (hb hby d1_34) rfl (l' := #[.val (.ref a), .val (.ref r1), .val (.int (3 : Int32)), .val (.int (2 : Int32)), .val (.ref eI)]) rfl kT) ?_
   show Goes _ _ _ _ (T20.setTop (mkF m 37 #[.val (.ref a), .val (.ref r1), .val (.int (3 : Int32)), .val (.int (2 : Int32)), .val (.ref eI)] []))
   refine Goes.st (fun sT kT => XS.goto X20.here hx rfl (pc0 := 37) (pc' := 9) rfl (hb hby d1_37) (by decide) (by decide) kT) ?_
   show Goes _ _ _ _ (T20.setTop (mkF m 9 #[.val (.ref a), .val (.ref r1), .val (.int (3 : Int32)), .val (.int (2 : Int32)), .val (.ref eI)] []))
   refine Goes.st (fun sT kT => XS.iloadN X20.here hx rfl (hb hby d1_9) rfl kT) ?_
   show Goes _ _ _ _ (T20.setTop (mkF m 10 #[.val (.ref a), .val (.ref r1), .val (.int (3 : Int32)), .val (.int (2 : Int32)), .val (.ref eI)] [(.int (2 : Int32))]))
   refine Goes.st (fun sT kT => XS.iloadN X20.here hx rfl (hb hby d1_10) rfl kT) ?_
   show Goes _ _ _ _ (T20.setTop (mkF m 11 #[.val (.ref a), .val (.ref r1), .val (.int (3 : Int32)), .val (.int (2 : Int32)), .val (.ref eI)] [(.int (3 : Int32)), (.int (2 : Int32))]))
   refine Goes.st (fun sT kT => XS.icmpNo X20.here hx rfl (hb hby d1_11) rfl (tlt (by decide : (2 : Int32) < (3 : Int32))).2.1 kT) ?_
   show Goes _ _ _ _ (T20.setTop (mkF m 14 #[.val (.ref a), .val (.ref r1), .val (.int (3 : Int32)), .val (.int (2 : Int32)), .val (.ref eI)] []))
   refine Goes.st (fun sT kT => XS.aloadN X20.here hx rfl (hb hby d1_14) rfl rfl kT) ?_
   show Goes _ _ _ _ (T20.setTop (mkF m 15 #[.val (.ref a), .val (.ref r1), .val (.int (3 : Int32)), .val (.int (2 : Int32)), .val (.ref eI)] [(.ref r1)]))
   refine Goes.st (fun sT kT => XS.iloadN X20.here hx rfl (hb hby d1_15) rfl kT) ?_
   show Goes _ _ _ _ (T20.setTop (mkF m 16 #[.val (.ref a), .val (.ref r1), .val (.int (3 : Int32)), .val (.int (2 : Int32)), .val (.ref eI)] [(.int (2 : Int32)), (.ref r1)]))
   obtain ⟨oc22, oA22, oq22, oS22, oM22, oH22, oG22⟩ := id F1_0
   refine Goes.st (fun sT kT => X20.aaload hx (j := (2 : Int32)) (v := (.ref eC)) (by rw [K20]; exact oA22.1) (State.isArrayOf_alike hZ.alike oA22.2.1) rfl oA22.2.2 (inb_of oS22 ⟨by decide, by decide⟩) (oH22.at (inb_of oS22 ⟨by decide, by decide⟩) rfl) (g := (mkF m 16 #[.val (.ref a), .val (.ref r1), .val (.int (3 : Int32)), .val (.int (2 : Int32)), .val (.ref eI)] [(.int (2 : Int32)), (.ref r1)])) rfl rfl (hb hby d1_16) _ kT) ?_
   show Goes _ _ _ _ (T20.setTop (mkF m 17 #[.val (.ref a), .val (.ref r1), .val (.int (3 : Int32)), .val (.int (2 : Int32)), .val (.ref eI)] [(.ref eC)]))
   refine Goes.st (fun sT kT => XS.astore X20.here hx rfl (hb hby d1_17) rfl rfl (l' := #[.val (.ref a), .val (.ref r1), .val (.int (3 : Int32)), .val (.int (2 : Int32)), .val (.ref eC)]) rfl kT) ?_
   show Goes _ _ _ _ (T20.setTop (mkF m 19 #[.val (.ref a), .val (.ref r1), .val (.int (3 : Int32)), .val (.int (2 : Int32)), .val (.ref eC)] []))
   refine Goes.st (fun sT kT => XS.aload X20.here hx rfl (hb hby d1_19) rfl rfl kT) ?_
   show Goes _ _ _ _ (T20.setTop (mkF m 21 #[.val (.ref a), .val (.ref r1), .val (.int (3 : Int32)), .val (.int (2 : Int32)), .val (.ref eC)] [(.ref eC)]))
   obtain ⟨T23, X23, e23, st23⟩ := getF X20 hx hZ hown (host := "") (Or.inl (hw31 hw)) Via.refl K20 G10 (g := (mkF m 21 #[.val (.ref a), .val (.ref r1), .val (.int (3 : Int32)), .val (.int (2 : Int32)), .val (.ref eC)] [(.ref eC)])) rfl rfl (hb hby d1_21)
   refine Goes.st st23 ?_
   show Goes _ _ _ _ (T23.setTop (mkF m 24 #[.val (.ref a), .val (.ref r1), .val (.int (3 : Int32)), .val (.int (2 : Int32)), .val (.ref eC)] [(.ref cC)]))
   refine Goes.st (fun sT kT => XS.aloadN X23.here hx rfl (hb hby d1_24) rfl rfl kT) ?_
   show Goes _ _ _ _ (T23.setTop (mkF m 25 #[.val (.ref a), .val (.ref r1), .val (.int (3 : Int32)), .val (.int (2 : Int32)), .val (.ref eC)] [(.ref a), (.ref cC)]))
   obtain ⟨cq24, kq24, q24a, q24b, q24c⟩ := isOf hZ e23 G11.1
   obtain ⟨_, _, ⟨T24, L24, k24, n24⟩, -, X24, ⟨Lc24, hQ24, l24, y24, z24⟩, st24⟩ := X23.virtualBack hx (y := (⟨"java/lang/String", "equals", "(Ljava/lang/Object;)Z"⟩ : MethodName)) (z := (⟨"java/lang/String", "equals", "(Ljava/lang/Object;)Z"⟩ : MethodName)) hown (mvT hZ (hw33 hw)) (mvT hZ (hw34 hw)) (notFace_of_selects (args := #[]) (mvT hZ (hw36 hw))) (mvT hZ (hw36 hw)) (mvT hZ (hw35 hw)) (by decide) (StrChars.Road.eqW (W := 0) hZ (own_heq hw) (kI := 4) (hw2 hw) G11.1 G11.2.1 G11.2.2.1 G11.2.2.2.1 (own_cod G11) (own_up G11.2.2.2.2.1) G11.2.2.2.2.2 f16.1 f16.2.1 f16.2.2.1 f16.2.2.2.1 (own_cod f16) (own_up f16.2.2.2.2.1) f16.2.2.2.2.2 (O2.ext f2.2) P5 (by decide) (by decide)) q24a q24c (g := (mkF m 25 #[.val (.ref a), .val (.ref r1), .val (.int (3 : Int32)), .val (.int (2 : Int32)), .val (.ref eC)] [(.ref a), (.ref cC)])) rfl (by rw [hml]; rfl) (Steps.refl _) (argsL := [(.ref a)]) (rest := []) (lenOf pd_2 rfl) rfl (by show 2 * 0 + _ ≤ _; exact Nat.le_of_eq rfl) (hb hby d1_25) (fun _ _ => ⟨rfl, e23, (by decide : 1 + 0 ≤ _), (by decide : 3 + 0 ≤ _)⟩)
   dsimp only [Pt.U, Pt.locs, Pt.cells, Pt.slots] at X24 l24 y24 z24 st24 hQ24
   subst l24 y24 z24
   obtain ⟨hv24, rfl, K24⟩ := hQ24
   have hv24' := own_ite hv24
   subst hv24'
   have N24 := Fr.app N20 (Fr.nil n0)
   refine Goes.tr st24 ?_
   show Goes _ _ _ _ (T24.setTop (mkF m 28 #[.val (.ref a), .val (.ref r1), .val (.int (3 : Int32)), .val (.int (2 : Int32)), .val (.ref eC)] [(.int (if (own_C : List Int32) = cs then (1 : Int32) else 0))]))
   by_cases cz25 : (if (own_C : List Int32) = cs then (1 : Int32) else 0) = (0 : Int32)
   case pos =>
    refine Goes.st (fun sT kT => XS.ifYes X24.here hx rfl (pc0 := 28) (pc' := 34) rfl (hb hby d1_28) rfl ((if0 _ _).trans (teq cz25).1) (by decide) (by decide) kT) ?_
    show Goes _ _ _ _ (T24.setTop (mkF m 34 #[.val (.ref a), .val (.ref r1), .val (.int (3 : Int32)), .val (.int (2 : Int32)), .val (.ref eC)] []))
    refine Goes.st (fun sT kT => XS.iinc X24.here hx rfl (hb hby d1_34) rfl (l' := #[.val (.ref a), .val (.ref r1), .val (.int (3 : Int32)), .val (.int (3 : Int32)), .val (.ref eC)]) rfl kT) ?_
    show Goes _ _ _ _ (T24.setTop (mkF m 37 #[.val (.ref a), .val (.ref r1), .val (.int (3 : Int32)), .val (.int (3 : Int32)), .val (.ref eC)] []))
    refine Goes.st (fun sT kT => XS.goto X24.here hx rfl (pc0 := 37) (pc' := 9) rfl (hb hby d1_37) (by decide) (by decide) kT) ?_
    show Goes _ _ _ _ (T24.setTop (mkF m 9 #[.val (.ref a), .val (.ref r1), .val (.int (3 : Int32)), .val (.int (3 : Int32)), .val (.ref eC)] []))
    refine Goes.st (fun sT kT => XS.iloadN X24.here hx rfl (hb hby d1_9) rfl kT) ?_
    show Goes _ _ _ _ (T24.setTop (mkF m 10 #[.val (.ref a), .val (.ref r1), .val (.int (3 : Int32)), .val (.int (3 : Int32)), .val (.ref eC)] [(.int (3 : Int32))]))
    refine Goes.st (fun sT kT => XS.iloadN X24.here hx rfl (hb hby d1_10) rfl kT) ?_
    show Goes _ _ _ _ (T24.setTop (mkF m 11 #[.val (.ref a), .val (.ref r1), .val (.int (3 : Int32)), .val (.int (3 : Int32)), .val (.ref eC)] [(.int (3 : Int32)), (.int (3 : Int32))]))
    refine Goes.st (fun sT kT => XS.icmpYes X24.here hx rfl (pc0 := 11) (pc' := 40) rfl (hb hby d1_11) rfl (flt (by decide : ¬ ((3 : Int32) < (3 : Int32)))).2.1 (by decide) (by decide) kT) ?_
    show Goes _ _ _ _ (T24.setTop (mkF m 40 #[.val (.ref a), .val (.ref r1), .val (.int (3 : Int32)), .val (.int (3 : Int32)), .val (.ref eC)] []))
    refine Goes.st (fun sT kT => XS.aconstNull X24.here hx rfl (hb hby d1_40) kT) ?_
    show Goes _ _ _ _ (T24.setTop (mkF m 41 #[.val (.ref a), .val (.ref r1), .val (.int (3 : Int32)), .val (.int (3 : Int32)), .val (.ref eC)] [.null]))
    have kp26 : Keep h0 T1.heap [] := (Keep.refl h0 []).trans K1 all0
    obtain ⟨fs, hr, hrun, hended, hW, hsame⟩ := X24.leave (v := some .null) (fun h => by rw [Bd.returns] at h; cases h)
    subst hQQ
    refine ⟨_, _, retR X24 hx Bd.returns rfl rfl (hb hby d1_41) hr, hrun, hended, _, _, rfl, ?_, ⟨_, rfl⟩, hW, hsame.mono (by decide) (by decide)⟩
    show Q_namS Z a t kb cs G1 aV kV eP cP tP kP eI cI tI kI eC cC tC kC h0 n0 _ T24.heap _
    rw [K24]
    exact ⟨(congrArg some (by rw [own_pk, if_neg (own_nq cz17), if_neg (own_nq cz21), if_neg (own_nq cz25)])), N24, kp26⟩
   case neg =>
    refine Goes.st (fun sT kT => XS.ifNo X24.here hx rfl (hb hby d1_28) rfl ((if0 _ _).trans (feq cz25).1) kT) ?_
    show Goes _ _ _ _ (T24.setTop (mkF m 31 #[.val (.ref a), .val (.ref r1), .val (.int (3 : Int32)), .val (.int (2 : Int32)), .val (.ref eC)] []))
    refine Goes.st (fun sT kT => XS.aload X24.here hx rfl (hb hby d1_31) rfl rfl kT) ?_
    show Goes _ _ _ _ (T24.setTop (mkF m 33 #[.val (.ref a), .val (.ref r1), .val (.int (3 : Int32)), .val (.int (2 : Int32)), .val (.ref eC)] [(.ref eC)]))
    have kp27 : Keep h0 T1.heap [] := (Keep.refl h0 []).trans K1 all0
    obtain ⟨fs, hr, hrun, hended, hW, hsame⟩ := X24.leave (v := some (.ref eC)) (fun h => by rw [Bd.returns] at h; cases h)
    subst hQQ
    refine ⟨_, _, retR X24 hx Bd.returns rfl rfl (hb hby d1_33) hr, hrun, hended, _, _, rfl, ?_, ⟨_, rfl⟩, hW, hsame.mono (by decide) (by decide)⟩
    show Q_namS Z a t kb cs G1 aV kV eP cP tP kP eI cI tI kI eC cC tC kC h0 n0 _ T24.heap _
    rw [K24]
    exact ⟨(congrArg some (by rw [own_pk, if_neg (own_nq cz17), if_neg (own_nq cz21), if_pos (own_pq cz25)])), N24, kp27⟩
  case neg =>
   refine Goes.st (fun sT kT => XS.ifNo X20.here hx rfl (hb hby d1_28) rfl ((if0 _ _).trans (feq cz21).1) kT) ?_
   show Goes _ _ _ _ (T20.setTop (mkF m 31 #[.val (.ref a), .val (.ref r1), .val (.int (3 : Int32)), .val (.int (1 : Int32)), .val (.ref eI)] []))
   refine Goes.st (fun sT kT => XS.aload X20.here hx rfl (hb hby d1_31) rfl rfl kT) ?_
   show Goes _ _ _ _ (T20.setTop (mkF m 33 #[.val (.ref a), .val (.ref r1), .val (.int (3 : Int32)), .val (.int (1 : Int32)), .val (.ref eI)] [(.ref eI)]))
   have kp28 : Keep h0 T1.heap [] := (Keep.refl h0 []).trans K1 all0
   obtain ⟨fs, hr, hrun, hended, hW, hsame⟩ := X20.leave (v := some (.ref eI)) (fun h => by rw [Bd.returns] at h; cases h)
   subst hQQ
   refine ⟨_, _, retR X20 hx Bd.returns rfl rfl (hb hby d1_33) hr, hrun, hended, _, _, rfl, ?_, ⟨_, rfl⟩, hW, hsame.mono (by decide) (by decide)⟩
   show Q_namS Z a t kb cs G1 aV kV eP cP tP kP eI cI tI kI eC cC tC kC h0 n0 _ T20.heap _
   rw [K20]
   exact ⟨(congrArg some (by rw [own_pk, if_neg (own_nq cz17), if_pos (own_pq cz21)])), N20, kp28⟩
 case neg =>
  refine Goes.st (fun sT kT => XS.ifNo X15.here hx rfl (hb hby d1_28) rfl ((if0 _ _).trans (feq cz17).1) kT) ?_
  show Goes _ _ _ _ (T15.setTop (mkF m 31 #[.val (.ref a), .val (.ref r1), .val (.int (3 : Int32)), .val (.int (0 : Int32)), .val (.ref eP)] []))
  refine Goes.st (fun sT kT => XS.aload X15.here hx rfl (hb hby d1_31) rfl rfl kT) ?_
  show Goes _ _ _ _ (T15.setTop (mkF m 33 #[.val (.ref a), .val (.ref r1), .val (.int (3 : Int32)), .val (.int (0 : Int32)), .val (.ref eP)] [(.ref eP)]))
  have kp29 : Keep h0 T1.heap [] := (Keep.refl h0 []).trans K1 all0
  obtain ⟨fs, hr, hrun, hended, hW, hsame⟩ := X15.leave (v := some (.ref eP)) (fun h => by rw [Bd.returns] at h; cases h)
  subst hQQ
  refine ⟨_, _, retR X15 hx Bd.returns rfl rfl (hb hby d1_33) hr, hrun, hended, _, _, rfl, ?_, ⟨_, rfl⟩, hW, hsame.mono (by decide) (by decide)⟩
  show Q_namS Z a t kb cs G1 aV kV eP cP tP kP eI cI tI kI eC cC tC kC h0 n0 _ T15.heap _
  rw [K15]
  exact ⟨(congrArg some (by rw [own_pk, if_pos (own_pq cz17)])), N15, kp29⟩
theorem ef_namN (m : MethodId) (aV : Addr) (kV : ClassId) (eP : Addr) (cP : Addr) (tP : Addr) (kP : ClassId) (eI : Addr) (cI : Addr) (tI : Addr) (kI : ClassId) (eC : Addr) (cC : Addr) (tC : Addr) (kC : ClassId) : entryFrame m #[.null] 5 = (mkF m 0 #[.val .null, uS, uS, uS, uS] []) := by first | (simp [entryFrame, mkF, argsToLocals, Value.category]; done) | rfl
def Q_namN (Z : State) (aV : Addr) (kV : ClassId) (eP : Addr) (cP : Addr) (tP : Addr) (kP : ClassId) (eI : Addr) (cI : Addr) (tI : Addr) (kI : ClassId) (eC : Addr) (cC : Addr) (tC : Addr) (kC : ClassId) (h0 : Heap) (n0 : Nat) (v : Option Value) (h : Heap) (L : List Loc) : Prop := v = some .null ∧ Fr n0 L ∧ Keep h0 h []
set_option maxRecDepth 65536 in
set_option maxHeartbeats 40000000 in
theorem rm_namN (l : Launch) (Z : State) (a0 : Array Value) (hw : ∀ d ∈ tables_1, d.before a0 Z = true) (ws : List Jvm.Cond) (aV : Addr) (kV : ClassId) (eP : Addr) (cP : Addr) (tP : Addr) (kP : ClassId) (eI : Addr) (cI : Addr) (tI : Addr) (kI : ClassId) (eC : Addr) (cC : Addr) (tC : Addr) (kC : ClassId) (h0 : Heap) (n0 : Nat) (Z0 : n0 ≤ h0.size) (P0 : Old Z n0 h0) (EN : own_En Z aV kV eP cP tP kP eI cI tI kI eC cC tC kC) :
    MetFree l (⟨"com/example/sillon/sillon/siri/GeneralMessageChannel", "named", "(Ljava/lang/String;)Lcom/example/sillon/sillon/siri/GeneralMessageChannel;"⟩ : MethodName) (head1 (Jvm.Cond.code (⟨"com/example/sillon/sillon/siri/GeneralMessageChannel", "named", "(Ljava/lang/String;)Lcom/example/sillon/sillon/siri/GeneralMessageChannel;"⟩ : MethodName) prog_18_method_4_code 5 (some (.object "com/example/sillon/sillon/siri/GeneralMessageChannel")) :: ws) ({ frames := 2, cells := 1, slots := 3, locals := 28 } : Room)) (fun aR U => aR = #[.null] ∧ Z.Warmed39 U.vm ∧ U.heap = h0) (fun _ _ _ _ _ => True) (fun _ U o U' => ∃ v L, o = .returned v ∧ Q_namN Z aV kV eP cP tP kP eI cI tI kI eC cC tC kC h0 n0 v U'.heap L ∧ FrameEnd U o U' L ({ frames := 2, cells := 1, slots := 3, locals := 28 } : Room).cells ({ frames := 2, cells := 1, slots := 3, locals := 28 } : Room).slots) := by
 refine MetFree.of_bodySF (plainFor_of_name pn_1) hisR ?_
 intro p e s m args below meth c s₁ Bd hml0 hP hK
 obtain ⟨rfl, hZ, hh⟩ := hP
 have hx := Bd.exec
 have hby := Bd.bytes
 have hml : c.maxLocals = 5 := hml0
 have hown : s.vm.findClass "com/example/sillon/sillon/siri/GeneralMessageChannel" = some m.cls := findClass_of_methodNamed Bd.named
 have hnm := (name_of_methodNamed Bd.named Bd.method).1
 have X0 : Stand p l e ({ frames := 2, cells := 1, slots := 3, locals := 28 } : Room) s m #[.null] below meth c s₁ [] 0 0 := Stand.of_body Bd
 have e0 : s₁.heap = h0 := by rw [← hh, Bd.state]; rfl
 have N0 := Fr.nil n0
 show Goes p.tables e below _ _
 rw [ef_namN m aV kV eP cP tP kP eI cI tI kI eC cC tC kC]
 refine Goes.named ?_
 intro QQ hQQ
 obtain ⟨_, _, ⟨T1, L1, k1, n1⟩, -, X1, ⟨Lc1, hQ1, l1, y1, z1⟩, st1⟩ := Jvm.LawKit.callS X0 hx (y := (⟨"com/example/sillon/sillon/siri/GeneralMessageChannel", "values", "()[Lcom/example/sillon/sillon/siri/GeneralMessageChannel;"⟩ : MethodName)) hown (mvT hZ (hw13 hw)) (mvT hZ (hw14 hw)) (mvT hZ (hw11 hw)) (mvT hZ (hw15 hw)) (by decide) (backOf (W := 0) (rm_vals l Z a0 hw [] aV kV eP cP tP kP eI cI tI kI eC cC tC kC h0 n0 Z0 P0 EN) hZ (hw15 hw) (hw11 hw) (by decide) (by decide)) (g := (mkF m 0 #[.val .null, uS, uS, uS, uS] [])) rfl (by rw [hml]; rfl) (argsL := []) (rest := []) (lenOf pd_1 rfl) rfl (by show 2 * 0 + _ ≤ _; exact Nat.le_of_eq rfl) (hb hby d1_0) (fun _ _ => ⟨rfl, e0, (by decide : 0 + 1 ≤ _), (by decide : 0 + 3 ≤ _)⟩)
 dsimp only [Pt.U, Pt.locs, Pt.cells, Pt.slots] at X1 l1 y1 z1 st1 hQ1
 subst l1 y1 z1
 obtain ⟨r1, rfl, N1q, K1, F1_0, lo1_0⟩ := hQ1
 have N1 := Fr.app N0 N1q
 refine Goes.st st1 ?_
 show Goes _ _ _ _ (T1.setTop (mkF m 3 #[.val .null, uS, uS, uS, uS] [(.ref r1)]))
 have f2 : Old Z n0 T1.heap := (P0.keep K1 all0)
 have G3 : Exa Z T1.heap eP "com/example/sillon/sillon/siri/GeneralMessageChannel" := EN.2.2.2.1.2.1.ext f2.2
 have G4 : Fld Z T1.heap eP "com/example/sillon/sillon/siri/GeneralMessageChannel" "code" "Ljava/lang/String;" (.ref cP) := EN.2.2.2.1.2.2.1.ext f2.2
 have G5 : Str Z T1.heap cP tP kP own_P := EN.2.2.2.1.2.2.2.ext f2.2
 have G6 : Exa Z T1.heap eI "com/example/sillon/sillon/siri/GeneralMessageChannel" := EN.2.2.2.2.1.2.1.ext f2.2
 have G7 : Fld Z T1.heap eI "com/example/sillon/sillon/siri/GeneralMessageChannel" "code" "Ljava/lang/String;" (.ref cI) := EN.2.2.2.2.1.2.2.1.ext f2.2
 have G8 : Str Z T1.heap cI tI kI own_I := EN.2.2.2.2.1.2.2.2.ext f2.2
 have G9 : Exa Z T1.heap eC "com/example/sillon/sillon/siri/GeneralMessageChannel" := EN.2.2.2.2.2.2.1.ext f2.2
 have G10 : Fld Z T1.heap eC "com/example/sillon/sillon/siri/GeneralMessageChannel" "code" "Ljava/lang/String;" (.ref cC) := EN.2.2.2.2.2.2.2.1.ext f2.2
 have G11 : Str Z T1.heap cC tC kC own_C := EN.2.2.2.2.2.2.2.2.ext f2.2
 refine Goes.st (fun sT kT => XS.astoreN X1.here hx rfl (hb hby d1_3) rfl rfl (l' := #[.val .null, .val (.ref r1), uS, uS, uS]) rfl kT) ?_
 show Goes _ _ _ _ (T1.setTop (mkF m 4 #[.val .null, .val (.ref r1), uS, uS, uS] []))
 refine Goes.st (fun sT kT => XS.aloadN X1.here hx rfl (hb hby d1_4) rfl rfl kT) ?_
 show Goes _ _ _ _ (T1.setTop (mkF m 5 #[.val .null, .val (.ref r1), uS, uS, uS] [(.ref r1)]))
 obtain ⟨oc12, oA12, oq12, oS12, oM12, oH12, oG12⟩ := id F1_0
 refine Goes.st (fun sT kT => X1.arraylength hx oA12.1 (State.isArrayOf_alike hZ.alike oA12.2.1) (g := (mkF m 5 #[.val .null, .val (.ref r1), uS, uS, uS] [(.ref r1)])) rfl rfl (hb hby d1_5) _ kT) ?_
 rw [len_of oS12 oM12]
 show Goes _ _ _ _ (T1.setTop (mkF m 6 #[.val .null, .val (.ref r1), uS, uS, uS] [(.int (3 : Int32))]))
 refine Goes.st (fun sT kT => XS.istoreN X1.here hx rfl (hb hby d1_6) rfl (l' := #[.val .null, .val (.ref r1), .val (.int (3 : Int32)), uS, uS]) rfl kT) ?_
 show Goes _ _ _ _ (T1.setTop (mkF m 7 #[.val .null, .val (.ref r1), .val (.int (3 : Int32)), uS, uS] []))
 refine Goes.st (fun sT kT => XS.iconst X1.here hx rfl (hb hby d1_7) kT) ?_
 show Goes _ _ _ _ (T1.setTop (mkF m 8 #[.val .null, .val (.ref r1), .val (.int (3 : Int32)), uS, uS] [(.int (0 : Int32))]))
 refine Goes.st (fun sT kT => XS.istoreN X1.here hx rfl (hb hby d1_8) rfl (l' := #[.val .null, .val (.ref r1), .val (.int (3 : Int32)), .val (.int (0 : Int32)), uS]) rfl kT) ?_
 show Goes _ _ _ _ (T1.setTop (mkF m 9 #[.val .null, .val (.ref r1), .val (.int (3 : Int32)), .val (.int (0 : Int32)), uS] []))
 refine Goes.st (fun sT kT => XS.iloadN X1.here hx rfl (hb hby d1_9) rfl kT) ?_
 show Goes _ _ _ _ (T1.setTop (mkF m 10 #[.val .null, .val (.ref r1), .val (.int (3 : Int32)), .val (.int (0 : Int32)), uS] [(.int (0 : Int32))]))
 refine Goes.st (fun sT kT => XS.iloadN X1.here hx rfl (hb hby d1_10) rfl kT) ?_
 show Goes _ _ _ _ (T1.setTop (mkF m 11 #[.val .null, .val (.ref r1), .val (.int (3 : Int32)), .val (.int (0 : Int32)), uS] [(.int (3 : Int32)), (.int (0 : Int32))]))
 refine Goes.st (fun sT kT => XS.icmpNo X1.here hx rfl (hb hby d1_11) rfl (tlt (by decide : (0 : Int32) < (3 : Int32))).2.1 kT) ?_
 show Goes _ _ _ _ (T1.setTop (mkF m 14 #[.val .null, .val (.ref r1), .val (.int (3 : Int32)), .val (.int (0 : Int32)), uS] []))
 refine Goes.st (fun sT kT => XS.aloadN X1.here hx rfl (hb hby d1_14) rfl rfl kT) ?_
 show Goes _ _ _ _ (T1.setTop (mkF m 15 #[.val .null, .val (.ref r1), .val (.int (3 : Int32)), .val (.int (0 : Int32)), uS] [(.ref r1)]))
 refine Goes.st (fun sT kT => XS.iloadN X1.here hx rfl (hb hby d1_15) rfl kT) ?_
 show Goes _ _ _ _ (T1.setTop (mkF m 16 #[.val .null, .val (.ref r1), .val (.int (3 : Int32)), .val (.int (0 : Int32)), uS] [(.int (0 : Int32)), (.ref r1)]))
 obtain ⟨oc13, oA13, oq13, oS13, oM13, oH13, oG13⟩ := id F1_0
 refine Goes.st (fun sT kT => X1.aaload hx (j := (0 : Int32)) (v := (.ref eP)) oA13.1 (State.isArrayOf_alike hZ.alike oA13.2.1) rfl oA13.2.2 (inb_of oS13 ⟨by decide, by decide⟩) (oH13.at (inb_of oS13 ⟨by decide, by decide⟩) rfl) (g := (mkF m 16 #[.val .null, .val (.ref r1), .val (.int (3 : Int32)), .val (.int (0 : Int32)), uS] [(.int (0 : Int32)), (.ref r1)])) rfl rfl (hb hby d1_16) _ kT) ?_
 show Goes _ _ _ _ (T1.setTop (mkF m 17 #[.val .null, .val (.ref r1), .val (.int (3 : Int32)), .val (.int (0 : Int32)), uS] [(.ref eP)]))
 refine Goes.st (fun sT kT => XS.astore X1.here hx rfl (hb hby d1_17) rfl rfl (l' := #[.val .null, .val (.ref r1), .val (.int (3 : Int32)), .val (.int (0 : Int32)), .val (.ref eP)]) rfl kT) ?_
 show Goes _ _ _ _ (T1.setTop (mkF m 19 #[.val .null, .val (.ref r1), .val (.int (3 : Int32)), .val (.int (0 : Int32)), .val (.ref eP)] []))
 refine Goes.st (fun sT kT => XS.aload X1.here hx rfl (hb hby d1_19) rfl rfl kT) ?_
 show Goes _ _ _ _ (T1.setTop (mkF m 21 #[.val .null, .val (.ref r1), .val (.int (3 : Int32)), .val (.int (0 : Int32)), .val (.ref eP)] [(.ref eP)]))
 obtain ⟨T14, X14, e14, st14⟩ := getF X1 hx hZ hown (host := "") (Or.inl (hw31 hw)) Via.refl rfl G4 (g := (mkF m 21 #[.val .null, .val (.ref r1), .val (.int (3 : Int32)), .val (.int (0 : Int32)), .val (.ref eP)] [(.ref eP)])) rfl rfl (hb hby d1_21)
 refine Goes.st st14 ?_
 show Goes _ _ _ _ (T14.setTop (mkF m 24 #[.val .null, .val (.ref r1), .val (.int (3 : Int32)), .val (.int (0 : Int32)), .val (.ref eP)] [(.ref cP)]))
 refine Goes.st (fun sT kT => XS.aloadN X14.here hx rfl (hb hby d1_24) rfl rfl kT) ?_
 show Goes _ _ _ _ (T14.setTop (mkF m 25 #[.val .null, .val (.ref r1), .val (.int (3 : Int32)), .val (.int (0 : Int32)), .val (.ref eP)] [.null, (.ref cP)]))
 obtain ⟨cq15, kq15, q15a, q15b, q15c⟩ := isOf hZ e14 G5.1
 obtain ⟨_, _, ⟨T15, L15, k15, n15⟩, -, X15, ⟨Lc15, hQ15, l15, y15, z15⟩, st15⟩ := X14.virtualBack hx (y := (⟨"java/lang/String", "equals", "(Ljava/lang/Object;)Z"⟩ : MethodName)) (z := (⟨"java/lang/String", "equals", "(Ljava/lang/Object;)Z"⟩ : MethodName)) hown (mvT hZ (hw33 hw)) (mvT hZ (hw34 hw)) (notFace_of_selects (args := #[]) (mvT hZ (hw36 hw))) (mvT hZ (hw36 hw)) (mvT hZ (hw35 hw)) (by decide) (backOf (W := 0) (rm_eqnull l Z a0 hw [] cP T1.heap n0 (Nat.le_trans Z0 K1.1) ) hZ (hw37 hw) (hw1 hw) (by decide) (by decide)) q15a q15c (g := (mkF m 25 #[.val .null, .val (.ref r1), .val (.int (3 : Int32)), .val (.int (0 : Int32)), .val (.ref eP)] [.null, (.ref cP)])) rfl (by rw [hml]; rfl) (Steps.refl _) (argsL := [.null]) (rest := []) (lenOf pd_2 rfl) rfl (by show 2 * 0 + _ ≤ _; exact Nat.le_of_eq rfl) (hb hby d1_25) (fun _ _ => ⟨rfl, e14, (by decide : 1 + 0 ≤ _), (by decide : 3 + 0 ≤ _)⟩)
 dsimp only [Pt.U, Pt.locs, Pt.cells, Pt.slots] at X15 l15 y15 z15 st15 hQ15
 subst l15 y15 z15
 obtain ⟨rfl, N15q, K15⟩ := hQ15
 have N15 := Fr.app N1 N15q
 refine Goes.tr st15 ?_
 show Goes _ _ _ _ (T15.setTop (mkF m 28 #[.val .null, .val (.ref r1), .val (.int (3 : Int32)), .val (.int (0 : Int32)), .val (.ref eP)] [(.int (0 : Int32))]))
 refine Goes.st (fun sT kT => XS.ifYes X15.here hx rfl (pc0 := 28) (pc' := 34) rfl (hb hby d1_28) rfl ((if0 _ _).trans (teq (by decide : (0 : Int32) = (0 : Int32))).1) (by decide) (by decide) kT) ?_
 show Goes _ _ _ _ (T15.setTop (mkF m 34 #[.val .null, .val (.ref r1), .val (.int (3 : Int32)), .val (.int (0 : Int32)), .val (.ref eP)] []))
 refine Goes.st (fun sT kT => XS.iinc X15.here hx rfl (hb hby d1_34) rfl (l' := #[.val .null, .val (.ref r1), .val (.int (3 : Int32)), .val (.int (1 : Int32)), .val (.ref eP)]) rfl kT) ?_
 show Goes _ _ _ _ (T15.setTop (mkF m 37 #[.val .null, .val (.ref r1), .val (.int (3 : Int32)), .val (.int (1 : Int32)), .val (.ref eP)] []))
 refine Goes.st (fun sT kT => XS.goto X15.here hx rfl (pc0 := 37) (pc' := 9) rfl (hb hby d1_37) (by decide) (by decide) kT) ?_
 show Goes _ _ _ _ (T15.setTop (mkF m 9 #[.val .null, .val (.ref r1), .val (.int (3 : Int32)), .val (.int (1 : Int32)), .val (.ref eP)] []))
 refine Goes.st (fun sT kT => XS.iloadN X15.here hx rfl (hb hby d1_9) rfl kT) ?_
 show Goes _ _ _ _ (T15.setTop (mkF m 10 #[.val .null, .val (.ref r1), .val (.int (3 : Int32)), .val (.int (1 : Int32)), .val (.ref eP)] [(.int (1 : Int32))]))
 refine Goes.st (fun sT kT => XS.iloadN X15.here hx rfl (hb hby d1_10) rfl kT) ?_
 show Goes _ _ _ _ (T15.setTop (mkF m 11 #[.val .null, .val (.ref r1), .val (.int (3 : Int32)), .val (.int (1 : Int32)), .val (.ref eP)] [(.int (3 : Int32)), (.int (1 : Int32))]))
 refine Goes.st (fun sT kT => XS.icmpNo X15.here hx rfl (hb hby d1_11) rfl (tlt (by decide : (1 : Int32) < (3 : Int32))).2.1 kT) ?_
 show Goes _ _ _ _ (T15.setTop (mkF m 14 #[.val .null, .val (.ref r1), .val (.int (3 : Int32)), .val (.int (1 : Int32)), .val (.ref eP)] []))
 refine Goes.st (fun sT kT => XS.aloadN X15.here hx rfl (hb hby d1_14) rfl rfl kT) ?_
 show Goes _ _ _ _ (T15.setTop (mkF m 15 #[.val .null, .val (.ref r1), .val (.int (3 : Int32)), .val (.int (1 : Int32)), .val (.ref eP)] [(.ref r1)]))
 refine Goes.st (fun sT kT => XS.iloadN X15.here hx rfl (hb hby d1_15) rfl kT) ?_
 show Goes _ _ _ _ (T15.setTop (mkF m 16 #[.val .null, .val (.ref r1), .val (.int (3 : Int32)), .val (.int (1 : Int32)), .val (.ref eP)] [(.int (1 : Int32)), (.ref r1)]))
 obtain ⟨oc16, oA16, oq16, oS16, oM16, oH16, oG16⟩ := id F1_0
 refine Goes.st (fun sT kT => X15.aaload hx (j := (1 : Int32)) (v := (.ref eI)) (by rw [K15]; exact oA16.1) (State.isArrayOf_alike hZ.alike oA16.2.1) rfl oA16.2.2 (inb_of oS16 ⟨by decide, by decide⟩) (oH16.at (inb_of oS16 ⟨by decide, by decide⟩) rfl) (g := (mkF m 16 #[.val .null, .val (.ref r1), .val (.int (3 : Int32)), .val (.int (1 : Int32)), .val (.ref eP)] [(.int (1 : Int32)), (.ref r1)])) rfl rfl (hb hby d1_16) _ kT) ?_
 show Goes _ _ _ _ (T15.setTop (mkF m 17 #[.val .null, .val (.ref r1), .val (.int (3 : Int32)), .val (.int (1 : Int32)), .val (.ref eP)] [(.ref eI)]))
 refine Goes.st (fun sT kT => XS.astore X15.here hx rfl (hb hby d1_17) rfl rfl (l' := #[.val .null, .val (.ref r1), .val (.int (3 : Int32)), .val (.int (1 : Int32)), .val (.ref eI)]) rfl kT) ?_
 show Goes _ _ _ _ (T15.setTop (mkF m 19 #[.val .null, .val (.ref r1), .val (.int (3 : Int32)), .val (.int (1 : Int32)), .val (.ref eI)] []))
 refine Goes.st (fun sT kT => XS.aload X15.here hx rfl (hb hby d1_19) rfl rfl kT) ?_
 show Goes _ _ _ _ (T15.setTop (mkF m 21 #[.val .null, .val (.ref r1), .val (.int (3 : Int32)), .val (.int (1 : Int32)), .val (.ref eI)] [(.ref eI)]))
 obtain ⟨T17, X17, e17, st17⟩ := getF X15 hx hZ hown (host := "") (Or.inl (hw31 hw)) Via.refl K15 G7 (g := (mkF m 21 #[.val .null, .val (.ref r1), .val (.int (3 : Int32)), .val (.int (1 : Int32)), .val (.ref eI)] [(.ref eI)])) rfl rfl (hb hby d1_21)
 refine Goes.st st17 ?_
 show Goes _ _ _ _ (T17.setTop (mkF m 24 #[.val .null, .val (.ref r1), .val (.int (3 : Int32)), .val (.int (1 : Int32)), .val (.ref eI)] [(.ref cI)]))
 refine Goes.st (fun sT kT => XS.aloadN X17.here hx rfl (hb hby d1_24) rfl rfl kT) ?_
 show Goes _ _ _ _ (T17.setTop (mkF m 25 #[.val .null, .val (.ref r1), .val (.int (3 : Int32)), .val (.int (1 : Int32)), .val (.ref eI)] [.null, (.ref cI)]))
 obtain ⟨cq18, kq18, q18a, q18b, q18c⟩ := isOf hZ e17 G8.1
 obtain ⟨_, _, ⟨T18, L18, k18, n18⟩, -, X18, ⟨Lc18, hQ18, l18, y18, z18⟩, st18⟩ := X17.virtualBack hx (y := (⟨"java/lang/String", "equals", "(Ljava/lang/Object;)Z"⟩ : MethodName)) (z := (⟨"java/lang/String", "equals", "(Ljava/lang/Object;)Z"⟩ : MethodName)) hown (mvT hZ (hw33 hw)) (mvT hZ (hw34 hw)) (notFace_of_selects (args := #[]) (mvT hZ (hw36 hw))) (mvT hZ (hw36 hw)) (mvT hZ (hw35 hw)) (by decide) (backOf (W := 0) (rm_eqnull l Z a0 hw [] cI T1.heap n0 (Nat.le_trans Z0 K1.1) ) hZ (hw37 hw) (hw1 hw) (by decide) (by decide)) q18a q18c (g := (mkF m 25 #[.val .null, .val (.ref r1), .val (.int (3 : Int32)), .val (.int (1 : Int32)), .val (.ref eI)] [.null, (.ref cI)])) rfl (by rw [hml]; rfl) (Steps.refl _) (argsL := [.null]) (rest := []) (lenOf pd_2 rfl) rfl (by show 2 * 0 + _ ≤ _; exact Nat.le_of_eq rfl) (hb hby d1_25) (fun _ _ => ⟨rfl, e17, (by decide : 1 + 0 ≤ _), (by decide : 3 + 0 ≤ _)⟩)
 dsimp only [Pt.U, Pt.locs, Pt.cells, Pt.slots] at X18 l18 y18 z18 st18 hQ18
 subst l18 y18 z18
 obtain ⟨rfl, N18q, K18⟩ := hQ18
 have N18 := Fr.app N15 N18q
 refine Goes.tr st18 ?_
 show Goes _ _ _ _ (T18.setTop (mkF m 28 #[.val .null, .val (.ref r1), .val (.int (3 : Int32)), .val (.int (1 : Int32)), .val (.ref eI)] [(.int (0 : Int32))]))
 refine Goes.st (fun sT kT => XS.ifYes X18.here hx rfl (pc0 := 28) (pc' := 34) rfl (hb hby d1_28) rfl ((if0 _ _).trans (teq (by decide : (0 : Int32) = (0 : Int32))).1) (by decide) (by decide) kT) ?_
 show Goes _ _ _ _ (T18.setTop (mkF m 34 #[.val .null, .val (.ref r1), .val (.int (3 : Int32)), .val (.int (1 : Int32)), .val (.ref eI)] []))
 refine Goes.st (fun sT kT => XS.iinc X18.here hx rfl (hb hby d1_34) rfl (l' := #[.val .null, .val (.ref r1), .val (.int (3 : Int32)), .val (.int (2 : Int32)), .val (.ref eI)]) rfl kT) ?_
 show Goes _ _ _ _ (T18.setTop (mkF m 37 #[.val .null, .val (.ref r1), .val (.int (3 : Int32)), .val (.int (2 : Int32)), .val (.ref eI)] []))
 refine Goes.st (fun sT kT => XS.goto X18.here hx rfl (pc0 := 37) (pc' := 9) rfl (hb hby d1_37) (by decide) (by decide) kT) ?_
 show Goes _ _ _ _ (T18.setTop (mkF m 9 #[.val .null, .val (.ref r1), .val (.int (3 : Int32)), .val (.int (2 : Int32)), .val (.ref eI)] []))
 refine Goes.st (fun sT kT => XS.iloadN X18.here hx rfl (hb hby d1_9) rfl kT) ?_
 show Goes _ _ _ _ (T18.setTop (mkF m 10 #[.val .null, .val (.ref r1), .val (.int (3 : Int32)), .val (.int (2 : Int32)), .val (.ref eI)] [(.int (2 : Int32))]))
 refine Goes.st (fun sT kT => XS.iloadN X18.here hx rfl (hb hby d1_10) rfl kT) ?_
 show Goes _ _ _ _ (T18.setTop (mkF m 11 #[.val .null, .val (.ref r1), .val (.int (3 : Int32)), .val (.int (2 : Int32)), .val (.ref eI)] [(.int (3 : Int32)), (.int (2 : Int32))]))
 refine Goes.st (fun sT kT => XS.icmpNo X18.here hx rfl (hb hby d1_11) rfl (tlt (by decide : (2 : Int32) < (3 : Int32))).2.1 kT) ?_
 show Goes _ _ _ _ (T18.setTop (mkF m 14 #[.val .null, .val (.ref r1), .val (.int (3 : Int32)), .val (.int (2 : Int32)), .val (.ref eI)] []))
 refine Goes.st (fun sT kT => XS.aloadN X18.here hx rfl (hb hby d1_14) rfl rfl kT) ?_
 show Goes _ _ _ _ (T18.setTop (mkF m 15 #[.val .null, .val (.ref r1), .val (.int (3 : Int32)), .val (.int (2 : Int32)), .val (.ref eI)] [(.ref r1)]))
 refine Goes.st (fun sT kT => XS.iloadN X18.here hx rfl (hb hby d1_15) rfl kT) ?_
 show Goes _ _ _ _ (T18.setTop (mkF m 16 #[.val .null, .val (.ref r1), .val (.int (3 : Int32)), .val (.int (2 : Int32)), .val (.ref eI)] [(.int (2 : Int32)), (.ref r1)]))
 obtain ⟨oc19, oA19, oq19, oS19, oM19, oH19, oG19⟩ := id F1_0
 refine Goes.st (fun sT kT => X18.aaload hx (j := (2 : Int32)) (v := (.ref eC)) (by rw [K18]; exact oA19.1) (State.isArrayOf_alike hZ.alike oA19.2.1) rfl oA19.2.2 (inb_of oS19 ⟨by decide, by decide⟩) (oH19.at (inb_of oS19 ⟨by decide, by decide⟩) rfl) (g := (mkF m 16 #[.val .null, .val (.ref r1), .val (.int (3 : Int32)), .val (.int (2 : Int32)), .val (.ref eI)] [(.int (2 : Int32)), (.ref r1)])) rfl rfl (hb hby d1_16) _ kT) ?_
 show Goes _ _ _ _ (T18.setTop (mkF m 17 #[.val .null, .val (.ref r1), .val (.int (3 : Int32)), .val (.int (2 : Int32)), .val (.ref eI)] [(.ref eC)]))
 refine Goes.st (fun sT kT => XS.astore X18.here hx rfl (hb hby d1_17) rfl rfl (l' := #[.val .null, .val (.ref r1), .val (.int (3 : Int32)), .val (.int (2 : Int32)), .val (.ref eC)]) rfl kT) ?_
 show Goes _ _ _ _ (T18.setTop (mkF m 19 #[.val .null, .val (.ref r1), .val (.int (3 : Int32)), .val (.int (2 : Int32)), .val (.ref eC)] []))
 refine Goes.st (fun sT kT => XS.aload X18.here hx rfl (hb hby d1_19) rfl rfl kT) ?_
 show Goes _ _ _ _ (T18.setTop (mkF m 21 #[.val .null, .val (.ref r1), .val (.int (3 : Int32)), .val (.int (2 : Int32)), .val (.ref eC)] [(.ref eC)]))
 obtain ⟨T20, X20, e20, st20⟩ := getF X18 hx hZ hown (host := "") (Or.inl (hw31 hw)) Via.refl K18 G10 (g := (mkF m 21 #[.val .null, .val (.ref r1), .val (.int (3 : Int32)), .val (.int (2 : Int32)), .val (.ref eC)] [(.ref eC)])) rfl rfl (hb hby d1_21)
 refine Goes.st st20 ?_
 show Goes _ _ _ _ (T20.setTop (mkF m 24 #[.val .null, .val (.ref r1), .val (.int (3 : Int32)), .val (.int (2 : Int32)), .val (.ref eC)] [(.ref cC)]))
 refine Goes.st (fun sT kT => XS.aloadN X20.here hx rfl (hb hby d1_24) rfl rfl kT) ?_
 show Goes _ _ _ _ (T20.setTop (mkF m 25 #[.val .null, .val (.ref r1), .val (.int (3 : Int32)), .val (.int (2 : Int32)), .val (.ref eC)] [.null, (.ref cC)]))
 obtain ⟨cq21, kq21, q21a, q21b, q21c⟩ := isOf hZ e20 G11.1
 obtain ⟨_, _, ⟨T21, L21, k21, n21⟩, -, X21, ⟨Lc21, hQ21, l21, y21, z21⟩, st21⟩ := X20.virtualBack hx (y := (⟨"java/lang/String", "equals", "(Ljava/lang/Object;)Z"⟩ : MethodName)) (z := (⟨"java/lang/String", "equals", "(Ljava/lang/Object;)Z"⟩ : MethodName)) hown (mvT hZ (hw33 hw)) (mvT hZ (hw34 hw)) (notFace_of_selects (args := #[]) (mvT hZ (hw36 hw))) (mvT hZ (hw36 hw)) (mvT hZ (hw35 hw)) (by decide) (backOf (W := 0) (rm_eqnull l Z a0 hw [] cC T1.heap n0 (Nat.le_trans Z0 K1.1) ) hZ (hw37 hw) (hw1 hw) (by decide) (by decide)) q21a q21c (g := (mkF m 25 #[.val .null, .val (.ref r1), .val (.int (3 : Int32)), .val (.int (2 : Int32)), .val (.ref eC)] [.null, (.ref cC)])) rfl (by rw [hml]; rfl) (Steps.refl _) (argsL := [.null]) (rest := []) (lenOf pd_2 rfl) rfl (by show 2 * 0 + _ ≤ _; exact Nat.le_of_eq rfl) (hb hby d1_25) (fun _ _ => ⟨rfl, e20, (by decide : 1 + 0 ≤ _), (by decide : 3 + 0 ≤ _)⟩)
 dsimp only [Pt.U, Pt.locs, Pt.cells, Pt.slots] at X21 l21 y21 z21 st21 hQ21
 subst l21 y21 z21
 obtain ⟨rfl, N21q, K21⟩ := hQ21
 have N21 := Fr.app N18 N21q
 refine Goes.tr st21 ?_
 show Goes _ _ _ _ (T21.setTop (mkF m 28 #[.val .null, .val (.ref r1), .val (.int (3 : Int32)), .val (.int (2 : Int32)), .val (.ref eC)] [(.int (0 : Int32))]))
 refine Goes.st (fun sT kT => XS.ifYes X21.here hx rfl (pc0 := 28) (pc' := 34) rfl (hb hby d1_28) rfl ((if0 _ _).trans (teq (by decide : (0 : Int32) = (0 : Int32))).1) (by decide) (by decide) kT) ?_
 show Goes _ _ _ _ (T21.setTop (mkF m 34 #[.val .null, .val (.ref r1), .val (.int (3 : Int32)), .val (.int (2 : Int32)), .val (.ref eC)] []))
 refine Goes.st (fun sT kT => XS.iinc X21.here hx rfl (hb hby d1_34) rfl (l' := #[.val .null, .val (.ref r1), .val (.int (3 : Int32)), .val (.int (3 : Int32)), .val (.ref eC)]) rfl kT) ?_
 show Goes _ _ _ _ (T21.setTop (mkF m 37 #[.val .null, .val (.ref r1), .val (.int (3 : Int32)), .val (.int (3 : Int32)), .val (.ref eC)] []))
 refine Goes.st (fun sT kT => XS.goto X21.here hx rfl (pc0 := 37) (pc' := 9) rfl (hb hby d1_37) (by decide) (by decide) kT) ?_
 show Goes _ _ _ _ (T21.setTop (mkF m 9 #[.val .null, .val (.ref r1), .val (.int (3 : Int32)), .val (.int (3 : Int32)), .val (.ref eC)] []))
 refine Goes.st (fun sT kT => XS.iloadN X21.here hx rfl (hb hby d1_9) rfl kT) ?_
 show Goes _ _ _ _ (T21.setTop (mkF m 10 #[.val .null, .val (.ref r1), .val (.int (3 : Int32)), .val (.int (3 : Int32)), .val (.ref eC)] [(.int (3 : Int32))]))
 refine Goes.st (fun sT kT => XS.iloadN X21.here hx rfl (hb hby d1_10) rfl kT) ?_
 show Goes _ _ _ _ (T21.setTop (mkF m 11 #[.val .null, .val (.ref r1), .val (.int (3 : Int32)), .val (.int (3 : Int32)), .val (.ref eC)] [(.int (3 : Int32)), (.int (3 : Int32))]))
 refine Goes.st (fun sT kT => XS.icmpYes X21.here hx rfl (pc0 := 11) (pc' := 40) rfl (hb hby d1_11) rfl (flt (by decide : ¬ ((3 : Int32) < (3 : Int32)))).2.1 (by decide) (by decide) kT) ?_
 show Goes _ _ _ _ (T21.setTop (mkF m 40 #[.val .null, .val (.ref r1), .val (.int (3 : Int32)), .val (.int (3 : Int32)), .val (.ref eC)] []))
 refine Goes.st (fun sT kT => XS.aconstNull X21.here hx rfl (hb hby d1_40) kT) ?_
 show Goes _ _ _ _ (T21.setTop (mkF m 41 #[.val .null, .val (.ref r1), .val (.int (3 : Int32)), .val (.int (3 : Int32)), .val (.ref eC)] [.null]))
 have kp22 : Keep h0 T1.heap [] := (Keep.refl h0 []).trans K1 all0
 obtain ⟨fs, hr, hrun, hended, hW, hsame⟩ := X21.leave (v := some .null) (fun h => by rw [Bd.returns] at h; cases h)
 subst hQQ
 refine ⟨_, _, retR X21 hx Bd.returns rfl rfl (hb hby d1_41) hr, hrun, hended, _, _, rfl, ?_, ⟨_, rfl⟩, hW, hsame.mono (by decide) (by decide)⟩
 show Q_namN Z aV kV eP cP tP kP eI cI tI kI eC cC tC kC h0 n0 _ T21.heap _
 rw [K21]
 exact ⟨rfl, N21, kp22⟩
theorem ef_refS (m : MethodId) (a : Addr) (t : Addr) (kb : ClassId) (cs : List Int32) (G1 : Int32) (aV : Addr) (kV : ClassId) (eP : Addr) (cP : Addr) (tP : Addr) (kP : ClassId) (eI : Addr) (cI : Addr) (tI : Addr) (kI : ClassId) (eC : Addr) (cC : Addr) (tC : Addr) (kC : ClassId) : entryFrame m #[(.ref a)] 1 = (mkF m 0 #[.val (.ref a)] []) := by first | (simp [entryFrame, mkF, argsToLocals, Value.category]; done) | rfl
def Q_refS (Z : State) (a : Addr) (t : Addr) (kb : ClassId) (cs : List Int32) (G1 : Int32) (aV : Addr) (kV : ClassId) (eP : Addr) (cP : Addr) (tP : Addr) (kP : ClassId) (eI : Addr) (cI : Addr) (tI : Addr) (kI : ClassId) (eC : Addr) (cC : Addr) (tC : Addr) (kC : ClassId) (h0 : Heap) (n0 : Nat) (v : Option Value) (h : Heap) (L : List Loc) : Prop := v = some (own_pk cs eP eI eC) ∧ Fr n0 L ∧ Keep h0 h []
set_option maxRecDepth 65536 in
set_option maxHeartbeats 40000000 in
theorem rm_refS (l : Launch) (Z : State) (a0 : Array Value) (hw : ∀ d ∈ tables_1, d.before a0 Z = true) (ws : List Jvm.Cond) (a : Addr) (t : Addr) (kb : ClassId) (cs : List Int32) (G1 : Int32) (aV : Addr) (kV : ClassId) (eP : Addr) (cP : Addr) (tP : Addr) (kP : ClassId) (eI : Addr) (cI : Addr) (tI : Addr) (kI : ClassId) (eC : Addr) (cC : Addr) (tC : Addr) (kC : ClassId) (h0 : Heap) (n0 : Nat) (Z0 : n0 ≤ h0.size) (P0 : Str Z h0 a t kb cs) (P1 : Old Z n0 h0) (O2 : Sta Z Z.heap "java/lang/String" "COMPACT_STRINGS" "Z" (.int G1)) (P5 : ¬ (G1 = (0 : Int32))) (EN : own_En Z aV kV eP cP tP kP eI cI tI kI eC cC tC kC) :
    MetFree l (⟨"com/example/sillon/sillon/siri/GeneralMessageChannelNamedPinLaw", "ref", "(Ljava/lang/String;)Lcom/example/sillon/sillon/siri/GeneralMessageChannel;"⟩ : MethodName) (head1 (Jvm.Cond.code (⟨"com/example/sillon/sillon/siri/GeneralMessageChannelNamedPinLaw", "ref", "(Ljava/lang/String;)Lcom/example/sillon/sillon/siri/GeneralMessageChannel;"⟩ : MethodName) method_4_code 1 (some (.object "com/example/sillon/sillon/siri/GeneralMessageChannel")) :: ws) ({ frames := 2, cells := 6, slots := 144, locals := 28 } : Room)) (fun aR U => aR = #[(.ref a)] ∧ Z.Warmed39 U.vm ∧ U.heap = h0 ∧ CHv Z EL U.vm h0 ∧ ∀ x ∈ ([] : List Addr), Safe Z EL U.vm h0 x) (fun _ _ _ _ _ => True) (fun _ U o U' => ∃ v L, o = .returned v ∧ Q_refS Z a t kb cs G1 aV kV eP cP tP kP eI cI tI kI eC cC tC kC h0 n0 v U'.heap L ∧ CHr Z EL U.vm U.heap U'.vm U'.heap ∧ ReturnedEndW U o U' L ({ frames := 2, cells := 6, slots := 144, locals := 28 } : Room).cells ({ frames := 2, cells := 6, slots := 144, locals := 28 } : Room).slots) := by
 refine MetFree.of_bodySF (plainFor_of_name pn_2) hisR ?_
 intro p e s m args below meth c s₁ Bd hml0 hP hK
 obtain ⟨rfl, hZ, hh, hCH, hSF⟩ := hP
 have hx := Bd.exec
 have hby := Bd.bytes
 have hml : c.maxLocals = 1 := hml0
 have hown : s.vm.findClass "com/example/sillon/sillon/siri/GeneralMessageChannelNamedPinLaw" = some m.cls := findClass_of_methodNamed Bd.named
 have hnm := (name_of_methodNamed Bd.named Bd.method).1
 have X0 : Stand p l e ({ frames := 2, cells := 6, slots := 144, locals := 28 } : Room) (s.setVm s.vm) m #[(.ref a)] below meth c s₁ [] 0 0 := Stand.of_body Bd
 have e0 : s₁.heap = h0 := by rw [← hh, Bd.state]; rfl
 have N0 := Fr.nil n0
 show Goes p.tables e below _ _
 rw [ef_refS m a t kb cs G1 aV kV eP cP tP kP eI cI tI kI eC cC tC kC]
 refine Goes.named ?_
 intro QQ hQQ
 have hS0 : s.Since s.vm 0 := (State.WarmedH.refl s).since 0
 have hk0 : 0 ≤ h0.size := Nat.zero_le _
 have CR0 : CHr Z EL s.vm h0 s.vm h0 := CHr.refl hCH
 refine Goes.st (fun sT kT => XS.aloadN X0.here hx rfl (hb hby d4_0) rfl rfl kT) ?_
 show Goes _ _ _ _ (s₁.setTop (mkF m 1 #[.val (.ref a)] [(.ref a)]))
 refine Goes.st (fun sT kT => XS.ifnonnullYes X0.here hx rfl (pc0 := 1) (pc' := 6) rfl (hb hby d4_1) rfl (by decide) (by decide) kT) ?_
 show Goes _ _ _ _ (s₁.setTop (mkF m 6 #[.val (.ref a)] []))
 refine Goes.st (fun sT kT => XS.aloadN X0.here hx rfl (hb hby d4_6) rfl rfl kT) ?_
 show Goes _ _ _ _ (s₁.setTop (mkF m 7 #[.val (.ref a)] [(.ref a)]))
 obtain ⟨b1, T1, h1, kk1, t1, kb1, X1, e1, E1, hS1, hk1, hZ1, hown1, Ex1, Cd1, Vf1, Av1, lb1, lt1, C1, Lt1, hne1, st1⟩ := ldcCH X0 hx hZ hown (hw0 hw) (own_wS hw) e0 hS0 hk0 (own_EW hw) (by decide +kernel) CR0.1 (vs := [(.int (80 : Int32)), (.int (101 : Int32)), (.int (114 : Int32)), (.int (116 : Int32)), (.int (117 : Int32)), (.int (114 : Int32)), (.int (98 : Int32)), (.int (97 : Int32)), (.int (116 : Int32)), (.int (105 : Int32)), (.int (111 : Int32)), (.int (110 : Int32))]) (z := (12 : Int32)) ⟨by decide, by decide⟩ (by decide) (by decide) (g := (mkF m 7 #[.val (.ref a)] [(.ref a)])) rfl (hb hby d4_7) (n := 48) (by decide) (by decide) (by decide) (by decide)
 have CR1 : CHr Z EL s.vm h0 T1.vm h1 := CR0.trans C1
 refine Goes.st st1 ?_
 show Goes _ _ _ _ (T1.setTop (mkF m 9 #[.val (.ref a)] [(.ref b1), (.ref a)]))
 have S2 : Str Z h1 b1 t1 kb1 own_P := own_slit Ex1 Vf1 Cd1 Av1 rfl rfl (by decide +kernel) (by decide +kernel) (by decide)
 have f4 : Str Z h1 a t kb cs := (P0.ext E1)
 have f5 : Old Z n0 h1 := (P1.ext E1)
 have f6 : Exa Z h1 a "java/lang/String" := (P0.1.ext E1)
 obtain ⟨cq3, kq3, q3a, q3b, q3c⟩ := isOf hZ1 e1 f6
 obtain ⟨_, _, ⟨T3, L3, k3, n3⟩, -, X3, ⟨Lc3, hQ3, l3, y3, z3⟩, st3⟩ := X1.virtualBack hx (y := (⟨"java/lang/String", "equals", "(Ljava/lang/Object;)Z"⟩ : MethodName)) (z := (⟨"java/lang/String", "equals", "(Ljava/lang/Object;)Z"⟩ : MethodName)) hown1 (mvT hZ1 (hw97 hw)) (mvT hZ1 (hw34 hw)) (notFace_of_selects (args := #[]) (mvT hZ1 (hw36 hw))) (mvT hZ1 (hw36 hw)) (mvT hZ1 (hw35 hw)) (by decide) (StrChars.Road.eqW (W := 0) hZ1 (own_heq hw) (kI := 4) (hw2 hw) f4.1 f4.2.1 f4.2.2.1 f4.2.2.2.1 (own_cod f4) (own_up f4.2.2.2.2.1) f4.2.2.2.2.2 S2.1 S2.2.1 S2.2.2.1 S2.2.2.2.1 (own_cod S2) (own_up S2.2.2.2.2.1) S2.2.2.2.2.2 (O2.ext f5.2) P5 (by decide) (by decide)) q3a q3c (g := (mkF m 9 #[.val (.ref a)] [(.ref b1), (.ref a)])) rfl (by rw [hml]; rfl) (Steps.refl _) (argsL := [(.ref b1)]) (rest := []) (lenOf pd_2 rfl) rfl (by show 2 * 0 + _ ≤ _; exact Nat.le_of_eq rfl) (hb hby d4_9) (fun _ _ => ⟨rfl, e1, (by decide : 2 + 0 ≤ _), (by decide : 52 + 0 ≤ _)⟩)
 dsimp only [Pt.U, Pt.locs, Pt.cells, Pt.slots] at X3 l3 y3 z3 st3 hQ3
 subst l3 y3 z3
 obtain ⟨hv3, rfl, K3⟩ := hQ3
 have hv3' := own_ite hv3
 subst hv3'
 have N3 := Fr.app N0 (Fr.nil n0)
 refine Goes.tr st3 ?_
 show Goes _ _ _ _ (T3.setTop (mkF m 12 #[.val (.ref a)] [(.int (if (cs : List Int32) = own_P then (1 : Int32) else 0))]))
 by_cases cz7 : (if (cs : List Int32) = own_P then (1 : Int32) else 0) = (0 : Int32)
 case pos =>
  refine Goes.st (fun sT kT => XS.ifYes X3.here hx rfl (pc0 := 12) (pc' := 19) rfl (hb hby d4_12) rfl ((if0 _ _).trans (teq cz7).1) (by decide) (by decide) kT) ?_
  show Goes _ _ _ _ (T3.setTop (mkF m 19 #[.val (.ref a)] []))
  refine Goes.st (fun sT kT => XS.aloadN X3.here hx rfl (hb hby d4_19) rfl rfl kT) ?_
  show Goes _ _ _ _ (T3.setTop (mkF m 20 #[.val (.ref a)] [(.ref a)]))
  obtain ⟨b8, T8, h8, kk8, t8, kb8, X8, e8, E8, hS8, hk8, hZ8, hown8, Ex8, Cd8, Vf8, Av8, lb8, lt8, C8, Lt8, hne8, st8⟩ := ldcCH X3 hx hZ1 hown1 (hw80 hw) (own_wS hw) K3 hS1 hk1 (own_EW hw) (by decide +kernel) CR1.1 (vs := [(.int (73 : Int32)), (.int (110 : Int32)), (.int (102 : Int32)), (.int (111 : Int32)), (.int (114 : Int32)), (.int (109 : Int32)), (.int (97 : Int32)), (.int (116 : Int32)), (.int (105 : Int32)), (.int (111 : Int32)), (.int (110 : Int32))]) (z := (11 : Int32)) ⟨by decide, by decide⟩ (by decide) (by decide) (g := (mkF m 20 #[.val (.ref a)] [(.ref a)])) rfl (hb hby d4_20) (n := 44) (by decide) (by decide) (by decide) (by decide)
  have CR8 : CHr Z EL s.vm h0 T8.vm h8 := CR1.trans C8
  refine Goes.st st8 ?_
  show Goes _ _ _ _ (T8.setTop (mkF m 22 #[.val (.ref a)] [(.ref b8), (.ref a)]))
  have S9 : Str Z h8 b8 t8 kb8 own_I := own_slit Ex8 Vf8 Cd8 Av8 rfl rfl (by decide +kernel) (by decide +kernel) (by decide)
  have f11 : Str Z h8 a t kb cs := (f4.ext E8)
  have f12 : Old Z n0 h8 := (f5.ext E8)
  have f13 : Exa Z h8 a "java/lang/String" := (f6.ext E8)
  obtain ⟨cq10, kq10, q10a, q10b, q10c⟩ := isOf hZ8 e8 f13
  obtain ⟨_, _, ⟨T10, L10, k10, n10⟩, -, X10, ⟨Lc10, hQ10, l10, y10, z10⟩, st10⟩ := X8.virtualBack hx (y := (⟨"java/lang/String", "equals", "(Ljava/lang/Object;)Z"⟩ : MethodName)) (z := (⟨"java/lang/String", "equals", "(Ljava/lang/Object;)Z"⟩ : MethodName)) hown8 (mvT hZ8 (hw97 hw)) (mvT hZ8 (hw34 hw)) (notFace_of_selects (args := #[]) (mvT hZ8 (hw36 hw))) (mvT hZ8 (hw36 hw)) (mvT hZ8 (hw35 hw)) (by decide) (StrChars.Road.eqW (W := 0) hZ8 (own_heq hw) (kI := 4) (hw2 hw) f11.1 f11.2.1 f11.2.2.1 f11.2.2.2.1 (own_cod f11) (own_up f11.2.2.2.2.1) f11.2.2.2.2.2 S9.1 S9.2.1 S9.2.2.1 S9.2.2.2.1 (own_cod S9) (own_up S9.2.2.2.2.1) S9.2.2.2.2.2 (O2.ext f12.2) P5 (by decide) (by decide)) q10a q10c (g := (mkF m 22 #[.val (.ref a)] [(.ref b8), (.ref a)])) rfl (by rw [hml]; rfl) (Steps.refl _) (argsL := [(.ref b8)]) (rest := []) (lenOf pd_2 rfl) rfl (by show 2 * 0 + _ ≤ _; exact Nat.le_of_eq rfl) (hb hby d4_22) (fun _ _ => ⟨rfl, e8, (by decide : 4 + 0 ≤ _), (by decide : 100 + 0 ≤ _)⟩)
  dsimp only [Pt.U, Pt.locs, Pt.cells, Pt.slots] at X10 l10 y10 z10 st10 hQ10
  subst l10 y10 z10
  obtain ⟨hv10, rfl, K10⟩ := hQ10
  have hv10' := own_ite hv10
  subst hv10'
  have N10 := Fr.app N3 (Fr.nil n0)
  refine Goes.tr st10 ?_
  show Goes _ _ _ _ (T10.setTop (mkF m 25 #[.val (.ref a)] [(.int (if (cs : List Int32) = own_I then (1 : Int32) else 0))]))
  by_cases cz14 : (if (cs : List Int32) = own_I then (1 : Int32) else 0) = (0 : Int32)
  case pos =>
   refine Goes.st (fun sT kT => XS.ifYes X10.here hx rfl (pc0 := 25) (pc' := 32) rfl (hb hby d4_25) rfl ((if0 _ _).trans (teq cz14).1) (by decide) (by decide) kT) ?_
   show Goes _ _ _ _ (T10.setTop (mkF m 32 #[.val (.ref a)] []))
   refine Goes.st (fun sT kT => XS.aloadN X10.here hx rfl (hb hby d4_32) rfl rfl kT) ?_
   show Goes _ _ _ _ (T10.setTop (mkF m 33 #[.val (.ref a)] [(.ref a)]))
   obtain ⟨b15, T15, h15, kk15, t15, kb15, X15, e15, E15, hS15, hk15, hZ15, hown15, Ex15, Cd15, Vf15, Av15, lb15, lt15, C15, Lt15, hne15, st15⟩ := ldcCH X10 hx hZ8 hown8 (hw98 hw) (own_wS hw) K10 hS8 hk8 (own_EW hw) (by decide +kernel) CR8.1 (vs := [(.int (67 : Int32)), (.int (111 : Int32)), (.int (109 : Int32)), (.int (109 : Int32)), (.int (101 : Int32)), (.int (114 : Int32)), (.int (99 : Int32)), (.int (105 : Int32)), (.int (97 : Int32)), (.int (108 : Int32))]) (z := (10 : Int32)) ⟨by decide, by decide⟩ (by decide) (by decide) (g := (mkF m 33 #[.val (.ref a)] [(.ref a)])) rfl (hb hby d4_33) (n := 40) (by decide) (by decide) (by decide) (by decide)
   have CR15 : CHr Z EL s.vm h0 T15.vm h15 := CR8.trans C15
   refine Goes.st st15 ?_
   show Goes _ _ _ _ (T15.setTop (mkF m 35 #[.val (.ref a)] [(.ref b15), (.ref a)]))
   have S16 : Str Z h15 b15 t15 kb15 own_C := own_slit Ex15 Vf15 Cd15 Av15 rfl rfl (by decide +kernel) (by decide +kernel) (by decide)
   have f18 : Str Z h15 a t kb cs := (f11.ext E15)
   have f19 : Old Z n0 h15 := (f12.ext E15)
   have f20 : Exa Z h15 a "java/lang/String" := (f13.ext E15)
   obtain ⟨cq17, kq17, q17a, q17b, q17c⟩ := isOf hZ15 e15 f20
   obtain ⟨_, _, ⟨T17, L17, k17, n17⟩, -, X17, ⟨Lc17, hQ17, l17, y17, z17⟩, st17⟩ := X15.virtualBack hx (y := (⟨"java/lang/String", "equals", "(Ljava/lang/Object;)Z"⟩ : MethodName)) (z := (⟨"java/lang/String", "equals", "(Ljava/lang/Object;)Z"⟩ : MethodName)) hown15 (mvT hZ15 (hw97 hw)) (mvT hZ15 (hw34 hw)) (notFace_of_selects (args := #[]) (mvT hZ15 (hw36 hw))) (mvT hZ15 (hw36 hw)) (mvT hZ15 (hw35 hw)) (by decide) (StrChars.Road.eqW (W := 0) hZ15 (own_heq hw) (kI := 4) (hw2 hw) f18.1 f18.2.1 f18.2.2.1 f18.2.2.2.1 (own_cod f18) (own_up f18.2.2.2.2.1) f18.2.2.2.2.2 S16.1 S16.2.1 S16.2.2.1 S16.2.2.2.1 (own_cod S16) (own_up S16.2.2.2.2.1) S16.2.2.2.2.2 (O2.ext f19.2) P5 (by decide) (by decide)) q17a q17c (g := (mkF m 35 #[.val (.ref a)] [(.ref b15), (.ref a)])) rfl (by rw [hml]; rfl) (Steps.refl _) (argsL := [(.ref b15)]) (rest := []) (lenOf pd_2 rfl) rfl (by show 2 * 0 + _ ≤ _; exact Nat.le_of_eq rfl) (hb hby d4_35) (fun _ _ => ⟨rfl, e15, (by decide : 6 + 0 ≤ _), (by decide : 144 + 0 ≤ _)⟩)
   dsimp only [Pt.U, Pt.locs, Pt.cells, Pt.slots] at X17 l17 y17 z17 st17 hQ17
   subst l17 y17 z17
   obtain ⟨hv17, rfl, K17⟩ := hQ17
   have hv17' := own_ite hv17
   subst hv17'
   have N17 := Fr.app N10 (Fr.nil n0)
   refine Goes.tr st17 ?_
   show Goes _ _ _ _ (T17.setTop (mkF m 38 #[.val (.ref a)] [(.int (if (cs : List Int32) = own_C then (1 : Int32) else 0))]))
   by_cases cz21 : (if (cs : List Int32) = own_C then (1 : Int32) else 0) = (0 : Int32)
   case pos =>
    refine Goes.st (fun sT kT => XS.ifYes X17.here hx rfl (pc0 := 38) (pc' := 45) rfl (hb hby d4_38) rfl ((if0 _ _).trans (teq cz21).1) (by decide) (by decide) kT) ?_
    show Goes _ _ _ _ (T17.setTop (mkF m 45 #[.val (.ref a)] []))
    refine Goes.st (fun sT kT => XS.aconstNull X17.here hx rfl (hb hby d4_45) kT) ?_
    show Goes _ _ _ _ (T17.setTop (mkF m 46 #[.val (.ref a)] [.null]))
    have kp22 : Keep h0 h1 [] := (Keep.refl h0 []).ext E1
    have kp23 : Keep h0 h8 [] := kp22.ext E8
    have kp24 : Keep h0 h15 [] := kp23.ext E15
    obtain ⟨fs, hr, hrun, hended, hRW⟩ := X17.leaveW hS15 (by rw [K17]; exact hk15) (v := some .null) (fun h => by rw [Bd.returns] at h; cases h)
    subst hQQ
    have hCR : CHr Z EL s.vm s.heap T17.vm T17.heap := by rw [hh, K17]; exact CR15.trans (CHv.at X17 hZ15 (own_EW hw) CR15.1)
    refine ⟨_, _, retR X17 hx Bd.returns rfl rfl (hb hby d4_46) hr, hrun, hended, _, _, rfl, ?_, hCR, own_REmono hRW (by decide) (by decide)⟩
    show Q_refS Z a t kb cs G1 aV kV eP cP tP kP eI cI tI kI eC cC tC kC h0 n0 _ T17.heap _
    rw [K17]
    exact ⟨(congrArg some (by rw [own_pk, if_neg (own_nr cz7), if_neg (own_nr cz14), if_neg (own_nr cz21)])), N17, kp24⟩
   case neg =>
    refine Goes.st (fun sT kT => XS.ifNo X17.here hx rfl (hb hby d4_38) rfl ((if0 _ _).trans (feq cz21).1) kT) ?_
    show Goes _ _ _ _ (T17.setTop (mkF m 41 #[.val (.ref a)] []))
    obtain ⟨T25, X25, e25, st25⟩ := getS2 X17 hx hZ15 hown15 (host := "") (Or.inl (hw117 hw)) Via.refl K17 (EN.2.2.2.2.2.1.ext f19.2) (g := (mkF m 41 #[.val (.ref a)] [])) rfl (hb hby d4_41)
    refine Goes.st st25 ?_
    show Goes _ _ _ _ (T25.setTop (mkF m 44 #[.val (.ref a)] [(.ref eC)]))
    have kp26 : Keep h0 h1 [] := (Keep.refl h0 []).ext E1
    have kp27 : Keep h0 h8 [] := kp26.ext E8
    have kp28 : Keep h0 h15 [] := kp27.ext E15
    obtain ⟨fs, hr, hrun, hended, hRW⟩ := X25.leaveW hS15 (by rw [e25]; exact hk15) (v := some (.ref eC)) (fun h => by rw [Bd.returns] at h; cases h)
    subst hQQ
    have hCR : CHr Z EL s.vm s.heap T25.vm T25.heap := by rw [hh, e25]; exact CR15.trans (CHv.at X25 hZ15 (own_EW hw) CR15.1)
    refine ⟨_, _, retR X25 hx Bd.returns rfl rfl (hb hby d4_44) hr, hrun, hended, _, _, rfl, ?_, hCR, own_REmono hRW (by decide) (by decide)⟩
    show Q_refS Z a t kb cs G1 aV kV eP cP tP kP eI cI tI kI eC cC tC kC h0 n0 _ T25.heap _
    rw [e25]
    exact ⟨(congrArg some (by rw [own_pk, if_neg (own_nr cz7), if_neg (own_nr cz14), if_pos (own_pr cz21)])), N17, kp28⟩
  case neg =>
   refine Goes.st (fun sT kT => XS.ifNo X10.here hx rfl (hb hby d4_25) rfl ((if0 _ _).trans (feq cz14).1) kT) ?_
   show Goes _ _ _ _ (T10.setTop (mkF m 28 #[.val (.ref a)] []))
   obtain ⟨T29, X29, e29, st29⟩ := getS2 X10 hx hZ8 hown8 (host := "") (Or.inl (hw116 hw)) Via.refl K10 (EN.2.2.2.2.1.1.ext f12.2) (g := (mkF m 28 #[.val (.ref a)] [])) rfl (hb hby d4_28)
   refine Goes.st st29 ?_
   show Goes _ _ _ _ (T29.setTop (mkF m 31 #[.val (.ref a)] [(.ref eI)]))
   have kp30 : Keep h0 h1 [] := (Keep.refl h0 []).ext E1
   have kp31 : Keep h0 h8 [] := kp30.ext E8
   obtain ⟨fs, hr, hrun, hended, hRW⟩ := X29.leaveW hS8 (by rw [e29]; exact hk8) (v := some (.ref eI)) (fun h => by rw [Bd.returns] at h; cases h)
   subst hQQ
   have hCR : CHr Z EL s.vm s.heap T29.vm T29.heap := by rw [hh, e29]; exact CR8.trans (CHv.at X29 hZ8 (own_EW hw) CR8.1)
   refine ⟨_, _, retR X29 hx Bd.returns rfl rfl (hb hby d4_31) hr, hrun, hended, _, _, rfl, ?_, hCR, own_REmono hRW (by decide) (by decide)⟩
   show Q_refS Z a t kb cs G1 aV kV eP cP tP kP eI cI tI kI eC cC tC kC h0 n0 _ T29.heap _
   rw [e29]
   exact ⟨(congrArg some (by rw [own_pk, if_neg (own_nr cz7), if_pos (own_pr cz14)])), N10, kp31⟩
 case neg =>
  refine Goes.st (fun sT kT => XS.ifNo X3.here hx rfl (hb hby d4_12) rfl ((if0 _ _).trans (feq cz7).1) kT) ?_
  show Goes _ _ _ _ (T3.setTop (mkF m 15 #[.val (.ref a)] []))
  obtain ⟨T32, X32, e32, st32⟩ := getS2 X3 hx hZ1 hown1 (host := "") (Or.inl (hw115 hw)) Via.refl K3 (EN.2.2.2.1.1.ext f5.2) (g := (mkF m 15 #[.val (.ref a)] [])) rfl (hb hby d4_15)
  refine Goes.st st32 ?_
  show Goes _ _ _ _ (T32.setTop (mkF m 18 #[.val (.ref a)] [(.ref eP)]))
  have kp33 : Keep h0 h1 [] := (Keep.refl h0 []).ext E1
  obtain ⟨fs, hr, hrun, hended, hRW⟩ := X32.leaveW hS1 (by rw [e32]; exact hk1) (v := some (.ref eP)) (fun h => by rw [Bd.returns] at h; cases h)
  subst hQQ
  have hCR : CHr Z EL s.vm s.heap T32.vm T32.heap := by rw [hh, e32]; exact CR1.trans (CHv.at X32 hZ1 (own_EW hw) CR1.1)
  refine ⟨_, _, retR X32 hx Bd.returns rfl rfl (hb hby d4_18) hr, hrun, hended, _, _, rfl, ?_, hCR, own_REmono hRW (by decide) (by decide)⟩
  show Q_refS Z a t kb cs G1 aV kV eP cP tP kP eI cI tI kI eC cC tC kC h0 n0 _ T32.heap _
  rw [e32]
  exact ⟨(congrArg some (by rw [own_pk, if_pos (own_pr cz7)])), N3, kp33⟩
theorem ef_refN (m : MethodId)  : entryFrame m #[.null] 1 = (mkF m 0 #[.val .null] []) := by first | (simp [entryFrame, mkF, argsToLocals, Value.category]; done) | rfl
def Q_refN (Z : State)  (h0 : Heap) (n0 : Nat) (v : Option Value) (h : Heap) (L : List Loc) : Prop := v = some .null ∧ Fr n0 L ∧ h = h0
set_option maxRecDepth 65536 in
set_option maxHeartbeats 40000000 in
theorem rm_refN (l : Launch) (Z : State) (a0 : Array Value) (hw : ∀ d ∈ tables_1, d.before a0 Z = true) (ws : List Jvm.Cond)  (h0 : Heap) (n0 : Nat) (Z0 : n0 ≤ h0.size) :
    MetFree l (⟨"com/example/sillon/sillon/siri/GeneralMessageChannelNamedPinLaw", "ref", "(Ljava/lang/String;)Lcom/example/sillon/sillon/siri/GeneralMessageChannel;"⟩ : MethodName) (head1 (Jvm.Cond.code (⟨"com/example/sillon/sillon/siri/GeneralMessageChannelNamedPinLaw", "ref", "(Ljava/lang/String;)Lcom/example/sillon/sillon/siri/GeneralMessageChannel;"⟩ : MethodName) method_4_code 1 (some (.object "com/example/sillon/sillon/siri/GeneralMessageChannel")) :: ws) ({ frames := 0, cells := 0, slots := 0, locals := 0 } : Room)) (fun aR U => aR = #[.null] ∧ Z.Warmed39 U.vm ∧ U.heap = h0) (fun _ _ _ _ _ => True) (fun _ U o U' => ∃ v L, o = .returned v ∧ Q_refN Z  h0 n0 v U'.heap L ∧ FrameEnd U o U' L ({ frames := 0, cells := 0, slots := 0, locals := 0 } : Room).cells ({ frames := 0, cells := 0, slots := 0, locals := 0 } : Room).slots) := by
 refine MetFree.of_bodySF (plainFor_of_name pn_2) hisR ?_
 intro p e s m args below meth c s₁ Bd hml0 hP hK
 obtain ⟨rfl, hZ, hh⟩ := hP
 have hx := Bd.exec
 have hby := Bd.bytes
 have hml : c.maxLocals = 1 := hml0
 have hown : s.vm.findClass "com/example/sillon/sillon/siri/GeneralMessageChannelNamedPinLaw" = some m.cls := findClass_of_methodNamed Bd.named
 have hnm := (name_of_methodNamed Bd.named Bd.method).1
 have X0 : Stand p l e ({ frames := 0, cells := 0, slots := 0, locals := 0 } : Room) s m #[.null] below meth c s₁ [] 0 0 := Stand.of_body Bd
 have e0 : s₁.heap = h0 := by rw [← hh, Bd.state]; rfl
 have N0 := Fr.nil n0
 show Goes p.tables e below _ _
 rw [ef_refN m ]
 refine Goes.named ?_
 intro QQ hQQ
 refine Goes.st (fun sT kT => XS.aloadN X0.here hx rfl (hb hby d4_0) rfl rfl kT) ?_
 show Goes _ _ _ _ (s₁.setTop (mkF m 1 #[.val .null] [.null]))
 refine Goes.st (fun sT kT => XS.ifnonnullNo X0.here hx rfl (hb hby d4_1) rfl kT) ?_
 show Goes _ _ _ _ (s₁.setTop (mkF m 4 #[.val .null] []))
 refine Goes.st (fun sT kT => XS.aconstNull X0.here hx rfl (hb hby d4_4) kT) ?_
 show Goes _ _ _ _ (s₁.setTop (mkF m 5 #[.val .null] [.null]))
 obtain ⟨fs, hr, hrun, hended, hW, hsame⟩ := X0.leave (v := some .null) (fun h => by rw [Bd.returns] at h; cases h)
 subst hQQ
 refine ⟨_, _, retR X0 hx Bd.returns rfl rfl (hb hby d4_5) hr, hrun, hended, _, _, rfl, ?_, ⟨_, rfl⟩, hW, hsame.mono (by decide) (by decide)⟩
 show Q_refN Z  h0 n0 _ s₁.heap _
 rw [e0]
 exact ⟨rfl, N0, rfl⟩
theorem ef_att (m : MethodId) (a : Addr) (t : Addr) (kb : ClassId) (cs : List Int32) (i : Nat) (fl : Int32) (G1 : Int32) (vF : Value) : entryFrame m #[(.ref a), (.int (Int32.ofNat i)), (.int fl)] 3 = (mkF m 0 #[.val (.ref a), .val (.int (Int32.ofNat i)), .val (.int fl)] []) := by first | (simp [entryFrame, mkF, argsToLocals, Value.category]; done) | rfl
def Q_att (Z : State) (a : Addr) (t : Addr) (kb : ClassId) (cs : List Int32) (i : Nat) (fl : Int32) (G1 : Int32) (vF : Value) (h0 : Heap) (n0 : Nat) (v : Option Value) (h : Heap) (L : List Loc) : Prop := ∃ (cc : Int32), v = some (.int cc) ∧ Fr n0 L ∧ h = h0 ∧ (¬ cc < 0 ∧ ¬ (255 : Int32) < cc)
set_option maxRecDepth 65536 in
set_option maxHeartbeats 40000000 in
theorem rm_att (l : Launch) (Z : State) (a0 : Array Value) (hw : ∀ d ∈ tables_1, d.before a0 Z = true) (ws : List Jvm.Cond) (a : Addr) (t : Addr) (kb : ClassId) (cs : List Int32) (i : Nat) (fl : Int32) (G1 : Int32) (vF : Value) (h0 : Heap) (n0 : Nat) (Z0 : n0 ≤ h0.size) (P0 : Str Z h0 a t kb cs) (P1 : Old Z n0 h0) (hi4 : i ≤ 13) (rg_fl : ¬ fl < 0 ∧ ¬ (255 : Int32) < fl) (O2 : Sta Z Z.heap "java/lang/String" "COMPACT_STRINGS" "Z" (.int G1)) (P5 : ¬ (G1 = (0 : Int32))) (OF : Sta Z Z.heap "jdk/internal/util/Preconditions" "SIOOBE_FORMATTER" "Ljava/util/function/BiFunction;" vF) (rF : vF.isRef = true) :
    MetFree l (⟨"com/example/sillon/sillon/siri/GeneralMessageChannelNamedPinLaw", "at", "(Ljava/lang/String;II)C"⟩ : MethodName) (head1 (Jvm.Cond.code (⟨"com/example/sillon/sillon/siri/GeneralMessageChannelNamedPinLaw", "at", "(Ljava/lang/String;II)C"⟩ : MethodName) method_3_code 3 (some .char) :: ws) ({ frames := 4, cells := 0, slots := 0, locals := 53 } : Room)) (fun aR U => aR = #[(.ref a), (.int (Int32.ofNat i)), (.int fl)] ∧ Z.Warmed39 U.vm ∧ U.heap = h0) (fun _ _ _ _ _ => True) (fun _ U o U' => ∃ v L, o = .returned v ∧ Q_att Z a t kb cs i fl G1 vF h0 n0 v U'.heap L ∧ FrameEnd U o U' L ({ frames := 4, cells := 0, slots := 0, locals := 53 } : Room).cells ({ frames := 4, cells := 0, slots := 0, locals := 53 } : Room).slots) := by
 refine MetFree.of_bodySF (plainFor_of_name pn_2) hisR ?_
 intro p e s m args below meth c s₁ Bd hml0 hP hK
 obtain ⟨rfl, hZ, hh⟩ := hP
 have hx := Bd.exec
 have hby := Bd.bytes
 have hml : c.maxLocals = 3 := hml0
 have hown : s.vm.findClass "com/example/sillon/sillon/siri/GeneralMessageChannelNamedPinLaw" = some m.cls := findClass_of_methodNamed Bd.named
 have hnm := (name_of_methodNamed Bd.named Bd.method).1
 have X0 : Stand p l e ({ frames := 4, cells := 0, slots := 0, locals := 53 } : Room) s m #[(.ref a), (.int (Int32.ofNat i)), (.int fl)] below meth c s₁ [] 0 0 := Stand.of_body Bd
 have e0 : s₁.heap = h0 := by rw [← hh, Bd.state]; rfl
 have N0 := Fr.nil n0
 show Goes p.tables e below _ _
 rw [ef_att m a t kb cs i fl G1 vF]
 refine Goes.named ?_
 intro QQ hQQ
 refine Goes.st (fun sT kT => XS.iloadN X0.here hx rfl (hb hby d7_0) rfl kT) ?_
 show Goes _ _ _ _ (s₁.setTop (mkF m 1 #[.val (.ref a), .val (.int (Int32.ofNat i)), .val (.int fl)] [(.int (Int32.ofNat i))]))
 refine Goes.st (fun sT kT => XS.aloadN X0.here hx rfl (hb hby d7_1) rfl rfl kT) ?_
 show Goes _ _ _ _ (s₁.setTop (mkF m 2 #[.val (.ref a), .val (.int (Int32.ofNat i)), .val (.int fl)] [(.ref a), (.int (Int32.ofNat i))]))
 obtain ⟨cq1, kq1, q1a, q1b, q1c⟩ := isOf hZ e0 P0.1
 obtain ⟨_, _, ⟨T1, L1, k1, n1⟩, -, X1, ⟨Lc1, hQ1, l1, y1, z1⟩, st1⟩ := X0.virtualBack hx (y := (⟨"java/lang/String", "length", "()I"⟩ : MethodName)) (z := (⟨"java/lang/String", "length", "()I"⟩ : MethodName)) hown (mvT hZ (hw42 hw)) (mvT hZ (hw43 hw)) (notFace_of_selects (args := #[]) (mvT hZ (hw45 hw))) (mvT hZ (hw45 hw)) (mvT hZ (hw44 hw)) (by decide) (StrChars.Road.lenW (W := 1) hZ (own_hln hw) (kI := 4) (hw2 hw) P0.1 P0.2.1 P0.2.2.1 P0.2.2.2.1 (own_cod P0) (own_up P0.2.2.2.2.1) (O2.ext P1.2) P5 P0.2.2.2.2.2 (by decide) (by decide)) q1a q1c (g := (mkF m 2 #[.val (.ref a), .val (.int (Int32.ofNat i)), .val (.int fl)] [(.ref a), (.int (Int32.ofNat i))])) rfl (by rw [hml]; rfl) (Steps.refl _) (argsL := []) (rest := [(.int (Int32.ofNat i))]) (lenOf pd_3 rfl) rfl (by show 2 * 0 + _ ≤ _; exact Nat.le_of_eq rfl) (hb hby d7_2) (fun _ _ => ⟨rfl, e0, (by decide : 0 + 0 ≤ _), (by decide : 0 + 0 ≤ _)⟩)
 dsimp only [Pt.U, Pt.locs, Pt.cells, Pt.slots] at X1 l1 y1 z1 st1 hQ1
 subst l1 y1 z1
 obtain ⟨rfl, rfl, K1⟩ := hQ1
 have N1 := Fr.app N0 (Fr.nil n0)
 refine Goes.tr st1 ?_
 show Goes _ _ _ _ (T1.setTop (mkF m 5 #[.val (.ref a), .val (.int (Int32.ofNat i)), .val (.int fl)] [(.int (Int32.ofNat cs.length)), (.int (Int32.ofNat i))]))
 by_cases cz2 : (Int32.ofNat i) < (Int32.ofNat cs.length)
 case pos =>
  have hil : i < cs.length := (own_nlt (own_l31 hi4) (own_small P0.2.2.2.2.2)).mp cz2
  refine Goes.st (fun sT kT => XS.icmpNo X1.here hx rfl (hb hby d7_5) rfl (tlt cz2).2.1 kT) ?_
  show Goes _ _ _ _ (T1.setTop (mkF m 8 #[.val (.ref a), .val (.int (Int32.ofNat i)), .val (.int fl)] []))
  refine Goes.st (fun sT kT => XS.aloadN X1.here hx rfl (hb hby d7_8) rfl rfl kT) ?_
  show Goes _ _ _ _ (T1.setTop (mkF m 9 #[.val (.ref a), .val (.int (Int32.ofNat i)), .val (.int fl)] [(.ref a)]))
  refine Goes.st (fun sT kT => XS.iloadN X1.here hx rfl (hb hby d7_9) rfl kT) ?_
  show Goes _ _ _ _ (T1.setTop (mkF m 10 #[.val (.ref a), .val (.int (Int32.ofNat i)), .val (.int fl)] [(.int (Int32.ofNat i)), (.ref a)]))
  obtain ⟨cq3, kq3, q3a, q3b, q3c⟩ := isOf hZ K1 P0.1
  obtain ⟨_, _, ⟨T3, L3, k3, n3⟩, -, X3, ⟨Lc3, hQ3, l3, y3, z3⟩, st3⟩ := X1.virtualBack hx (y := (⟨"java/lang/String", "charAt", "(I)C"⟩ : MethodName)) (z := (⟨"java/lang/String", "charAt", "(I)C"⟩ : MethodName)) hown (mvT hZ (hw58 hw)) (mvT hZ (hw59 hw)) (notFace_of_selects (args := #[]) (mvT hZ (hw61 hw))) (mvT hZ (hw61 hw)) (mvT hZ (hw60 hw)) (by decide) (StrChars.Road.chN (W := 0) hZ (own_hch hw) (kI := 4) (hw2 hw) (i := i) P0.1 P0.2.1 P0.2.2.1 P0.2.2.2.1 (own_cod P0) (own_up P0.2.2.2.2.1) (O2.ext P1.2) P5 (OF.ext P1.2) rF P0.2.2.2.2.2 hil rfl (by decide) (by decide)) q3a q3c (g := (mkF m 10 #[.val (.ref a), .val (.int (Int32.ofNat i)), .val (.int fl)] [(.int (Int32.ofNat i)), (.ref a)])) rfl (by rw [hml]; rfl) (Steps.refl _) (argsL := [(.int (Int32.ofNat i))]) (rest := []) (lenOf pd_4 rfl) rfl (by show 2 * 0 + _ ≤ _; exact Nat.le_of_eq rfl) (hb hby d7_10) (fun _ _ => ⟨rfl, K1, (by decide : 0 + 0 ≤ _), (by decide : 0 + 0 ≤ _)⟩)
  dsimp only [Pt.U, Pt.locs, Pt.cells, Pt.slots] at X3 l3 y3 z3 st3 hQ3
  subst l3 y3 z3
  obtain ⟨rfl, rfl, K3⟩ := hQ3
  have N3 := Fr.app N1 (Fr.nil n0)
  refine Goes.tr st3 ?_
  show Goes _ _ _ _ (T3.setTop (mkF m 13 #[.val (.ref a), .val (.int (Int32.ofNat i)), .val (.int fl)] [(.int (cs.getD i 0))]))
  refine Goes.st (fun sT kT => XS.goto X3.here hx rfl (pc0 := 13) (pc' := 18) rfl (hb hby d7_13) (by decide) (by decide) kT) ?_
  show Goes _ _ _ _ (T3.setTop (mkF m 18 #[.val (.ref a), .val (.int (Int32.ofNat i)), .val (.int fl)] [(.int (cs.getD i 0))]))
  obtain ⟨fs, hr, hrun, hended, hW, hsame⟩ := X3.leave (v := some (.int (nar .char (cs.getD i 0)))) (fun h => by rw [Bd.returns] at h; cases h)
  subst hQQ
  refine ⟨_, _, retN X3 hx (t := .char) Bd.returns (by simp) (hb hby d7_18) hr, hrun, hended, _, _, rfl, ?_, ⟨_, rfl⟩, hW, hsame.mono (by decide) (by decide)⟩
  show Q_att Z a t kb cs i fl G1 vF h0 n0 _ T3.heap _
  rw [K3]
  exact ⟨(nar .char (cs.getD i 0)), rfl, N3, rfl, (own_rgat P0.2.2.2.2.1 hil)⟩
 case neg =>
  refine Goes.st (fun sT kT => XS.icmpYes X1.here hx rfl (pc0 := 5) (pc' := 16) rfl (hb hby d7_5) rfl (flt cz2).2.1 (by decide) (by decide) kT) ?_
  show Goes _ _ _ _ (T1.setTop (mkF m 16 #[.val (.ref a), .val (.int (Int32.ofNat i)), .val (.int fl)] []))
  refine Goes.st (fun sT kT => XS.iloadN X1.here hx rfl (hb hby d7_16) rfl kT) ?_
  show Goes _ _ _ _ (T1.setTop (mkF m 17 #[.val (.ref a), .val (.int (Int32.ofNat i)), .val (.int fl)] [(.int fl)]))
  refine Goes.st (fun sT kT => XS.i2c X1.here hx rfl (hb hby d7_17) rfl kT) ?_
  show Goes _ _ _ _ (T1.setTop (mkF m 18 #[.val (.ref a), .val (.int (Int32.ofNat i)), .val (.int fl)] [(.int (fl.toUInt32.toUInt16.toUInt32.toInt32))]))
  obtain ⟨fs, hr, hrun, hended, hW, hsame⟩ := X1.leave (v := some (.int (nar .char (fl.toUInt32.toUInt16.toUInt32.toInt32)))) (fun h => by rw [Bd.returns] at h; cases h)
  subst hQQ
  refine ⟨_, _, retN X1 hx (t := .char) Bd.returns (by simp) (hb hby d7_18) hr, hrun, hended, _, _, rfl, ?_, ⟨_, rfl⟩, hW, hsame.mono (by decide) (by decide)⟩
  show Q_att Z a t kb cs i fl G1 vF h0 n0 _ T1.heap _
  rw [K1]
  exact ⟨(nar .char (fl.toUInt32.toUInt16.toUInt32.toInt32)), rfl, N1, rfl, (own_nar2 rg_fl)⟩
theorem ef_maxx (m : MethodId) (xa : Int32) (xb : Int32) : entryFrame m #[(.int xa), (.int xb)] 2 = (mkF m 0 #[.val (.int xa), .val (.int xb)] []) := by first | (simp [entryFrame, mkF, argsToLocals, Value.category]; done) | rfl
def Q_maxx (Z : State) (xa : Int32) (xb : Int32) (h0 : Heap) (n0 : Nat) (v : Option Value) (h : Heap) (L : List Loc) : Prop := ∃ (mm : Int32), v = some (.int mm) ∧ Fr n0 L ∧ h = h0 ∧ ((mm = xa ∧ ¬ xa < xb) ∨ (mm = xb ∧ xa < xb))
set_option maxRecDepth 65536 in
set_option maxHeartbeats 40000000 in
theorem rm_maxx (l : Launch) (Z : State) (a0 : Array Value) (hw : ∀ d ∈ tables_1, d.before a0 Z = true) (ws : List Jvm.Cond) (xa : Int32) (xb : Int32) (h0 : Heap) (n0 : Nat) (Z0 : n0 ≤ h0.size) :
    MetFree l (⟨"java/lang/Math", "max", "(II)I"⟩ : MethodName) (head1 (Jvm.Cond.code (⟨"java/lang/Math", "max", "(II)I"⟩ : MethodName) jdk_29_method_65_code 2 (some .int) :: ws) ({ frames := 0, cells := 0, slots := 0, locals := 0 } : Room)) (fun aR U => aR = #[(.int xa), (.int xb)] ∧ Z.Warmed39 U.vm ∧ U.heap = h0) (fun _ _ _ _ _ => True) (fun _ U o U' => ∃ v L, o = .returned v ∧ Q_maxx Z xa xb h0 n0 v U'.heap L ∧ FrameEnd U o U' L ({ frames := 0, cells := 0, slots := 0, locals := 0 } : Room).cells ({ frames := 0, cells := 0, slots := 0, locals := 0 } : Room).slots) := by
 refine MetFree.of_bodySF pn_3 hisR ?_
 intro p e s m args below meth c s₁ Bd hml0 hP hK
 obtain ⟨rfl, hZ, hh⟩ := hP
 have hx := Bd.exec
 have hby := Bd.bytes
 have hml : c.maxLocals = 2 := hml0
 have hown : s.vm.findClass "java/lang/Math" = some m.cls := findClass_of_methodNamed Bd.named
 have hnm := (name_of_methodNamed Bd.named Bd.method).1
 have X0 : Stand p l e ({ frames := 0, cells := 0, slots := 0, locals := 0 } : Room) s m #[(.int xa), (.int xb)] below meth c s₁ [] 0 0 := Stand.of_body Bd
 have e0 : s₁.heap = h0 := by rw [← hh, Bd.state]; rfl
 have N0 := Fr.nil n0
 show Goes p.tables e below _ _
 rw [ef_maxx m xa xb]
 refine Goes.named ?_
 intro QQ hQQ
 refine Goes.st (fun sT kT => XS.iloadN X0.here hx rfl (hb hby d20_0) rfl kT) ?_
 show Goes _ _ _ _ (s₁.setTop (mkF m 1 #[.val (.int xa), .val (.int xb)] [(.int xa)]))
 refine Goes.st (fun sT kT => XS.iloadN X0.here hx rfl (hb hby d20_1) rfl kT) ?_
 show Goes _ _ _ _ (s₁.setTop (mkF m 2 #[.val (.int xa), .val (.int xb)] [(.int xb), (.int xa)]))
 by_cases cz1 : xa < xb
 case pos =>
  refine Goes.st (fun sT kT => XS.icmpYes X0.here hx rfl (pc0 := 2) (pc' := 9) rfl (hb hby d20_2) rfl (tlt cz1).1 (by decide) (by decide) kT) ?_
  show Goes _ _ _ _ (s₁.setTop (mkF m 9 #[.val (.int xa), .val (.int xb)] []))
  refine Goes.st (fun sT kT => XS.iloadN X0.here hx rfl (hb hby d20_9) rfl kT) ?_
  show Goes _ _ _ _ (s₁.setTop (mkF m 10 #[.val (.int xa), .val (.int xb)] [(.int xb)]))
  obtain ⟨fs, hr, hrun, hended, hW, hsame⟩ := X0.leave (v := some (.int xb)) (fun h => by rw [Bd.returns] at h; cases h)
  subst hQQ
  refine ⟨_, _, retI X0 hx Bd.returns (hb hby d20_10) hr, hrun, hended, _, _, rfl, ?_, ⟨_, rfl⟩, hW, hsame.mono (by decide) (by decide)⟩
  show Q_maxx Z xa xb h0 n0 _ s₁.heap _
  rw [e0]
  exact ⟨xb, rfl, N0, rfl, (Or.inr ⟨rfl, cz1⟩)⟩
 case neg =>
  refine Goes.st (fun sT kT => XS.icmpNo X0.here hx rfl (hb hby d20_2) rfl (flt cz1).1 kT) ?_
  show Goes _ _ _ _ (s₁.setTop (mkF m 5 #[.val (.int xa), .val (.int xb)] []))
  refine Goes.st (fun sT kT => XS.iloadN X0.here hx rfl (hb hby d20_5) rfl kT) ?_
  show Goes _ _ _ _ (s₁.setTop (mkF m 6 #[.val (.int xa), .val (.int xb)] [(.int xa)]))
  refine Goes.st (fun sT kT => XS.goto X0.here hx rfl (pc0 := 6) (pc' := 10) rfl (hb hby d20_6) (by decide) (by decide) kT) ?_
  show Goes _ _ _ _ (s₁.setTop (mkF m 10 #[.val (.int xa), .val (.int xb)] [(.int xa)]))
  obtain ⟨fs, hr, hrun, hended, hW, hsame⟩ := X0.leave (v := some (.int xa)) (fun h => by rw [Bd.returns] at h; cases h)
  subst hQQ
  refine ⟨_, _, retI X0 hx Bd.returns (hb hby d20_10) hr, hrun, hended, _, _, rfl, ?_, ⟨_, rfl⟩, hW, hsame.mono (by decide) (by decide)⟩
  show Q_maxx Z xa xb h0 n0 _ s₁.heap _
  rw [e0]
  exact ⟨xa, rfl, N0, rfl, (Or.inl ⟨rfl, cz1⟩)⟩
theorem ef_law (m : MethodId) (p0 : Int32) (p1 : Int32) (p2 : Int32) (p3 : Int32) (p4 : Int32) (p5 : Int32) (G1 : Int32) (vF : Value) (aV : Addr) (kV : ClassId) (eP : Addr) (cP : Addr) (tP : Addr) (kP : ClassId) (eI : Addr) (cI : Addr) (tI : Addr) (kI : ClassId) (eC : Addr) (cC : Addr) (tC : Addr) (kC : ClassId) : entryFrame m #[(.int p0), (.int p1), (.int p2), (.int p3), (.int p4), (.int p5)] maxLocals = (mkF m 0 #[.val (.int p0), .val (.int p1), .val (.int p2), .val (.int p3), .val (.int p4), .val (.int p5), uS, uS, uS, uS, uS, uS, uS] []) := by first | (simp [entryFrame, mkF, argsToLocals, Value.category, maxLocals]; done) | rfl
def Q_law (Z : State) (p0 : Int32) (p1 : Int32) (p2 : Int32) (p3 : Int32) (p4 : Int32) (p5 : Int32) (G1 : Int32) (vF : Value) (aV : Addr) (kV : ClassId) (eP : Addr) (cP : Addr) (tP : Addr) (kP : ClassId) (eI : Addr) (cI : Addr) (tI : Addr) (kI : ClassId) (eC : Addr) (cC : Addr) (tC : Addr) (kC : ClassId) (h0 : Heap) (n0 : Nat) (v : Option Value) (h : Heap) (L : List Loc) : Prop := v = some (.int (1 : Int32)) ∧ Fr n0 L
set_option maxRecDepth 65536 in
set_option maxHeartbeats 40000000 in
theorem rm_law (l : Launch) (Z : State) (a0 : Array Value) (hw : ∀ d ∈ tables_1, d.before a0 Z = true) (ws : List Jvm.Cond) (p0 : Int32) (p1 : Int32) (p2 : Int32) (p3 : Int32) (p4 : Int32) (p5 : Int32) (G1 : Int32) (vF : Value) (aV : Addr) (kV : ClassId) (eP : Addr) (cP : Addr) (tP : Addr) (kP : ClassId) (eI : Addr) (cI : Addr) (tI : Addr) (kI : ClassId) (eC : Addr) (cC : Addr) (tC : Addr) (kC : ClassId) (h0 : Heap) (n0 : Nat) (Z0 : n0 ≤ h0.size) (P0 : Old Z n0 h0) (O2 : Sta Z Z.heap "java/lang/String" "COMPACT_STRINGS" "Z" (.int G1)) (P5 : ¬ (G1 = (0 : Int32))) (OF : Sta Z Z.heap "jdk/internal/util/Preconditions" "SIOOBE_FORMATTER" "Ljava/util/function/BiFunction;" vF) (rF : vF.isRef = true) (EN : own_En Z aV kV eP cP tP kP eI cI tI kI eC cC tC kC) :
    MetFree l x (head1 (Jvm.Cond.code x code maxLocals ret :: ws) room_1) (fun aR U => aR = #[(.int p0), (.int p1), (.int p2), (.int p3), (.int p4), (.int p5)] ∧ Z.Warmed39 U.vm ∧ U.heap = h0 ∧ CHv Z EL U.vm h0 ∧ ∀ x ∈ ([] : List Addr), Safe Z EL U.vm h0 x) (fun _ _ _ _ _ => True) (fun _ U o U' => ∃ v L, o = .returned v ∧ Q_law Z p0 p1 p2 p3 p4 p5 G1 vF aV kV eP cP tP kP eI cI tI kI eC cC tC kC h0 n0 v U'.heap L ∧ CHr Z EL U.vm U.heap U'.vm U'.heap ∧ ReturnedEndW U o U' L room_1.cells room_1.slots) := by
 refine MetFree.of_bodySF (plainFor_of_name pn_2) hisR ?_
 intro p e s m args below meth c s₁ Bd hml0 hP hK
 obtain ⟨rfl, hZ, hh, hCH, hSF⟩ := hP
 have hx := Bd.exec
 have hby := Bd.bytes
 have hml : c.maxLocals = 13 := hml0
 have hown : s.vm.findClass "com/example/sillon/sillon/siri/GeneralMessageChannelNamedPinLaw" = some m.cls := findClass_of_methodNamed Bd.named
 have hnm := (name_of_methodNamed Bd.named Bd.method).1
 have X0 : Stand p l e room_1 (s.setVm s.vm) m #[(.int p0), (.int p1), (.int p2), (.int p3), (.int p4), (.int p5)] below meth c s₁ [] 0 0 := Stand.of_body Bd
 have e0 : s₁.heap = h0 := by rw [← hh, Bd.state]; rfl
 have N0 := Fr.nil n0
 show Goes p.tables e below _ _
 rw [ef_law m p0 p1 p2 p3 p4 p5 G1 vF aV kV eP cP tP kP eI cI tI kI eC cC tC kC]
 refine Goes.named ?_
 intro QQ hQQ
 have hS0 : s.Since s.vm 0 := (State.WarmedH.refl s).since 0
 have hk0 : 0 ≤ h0.size := Nat.zero_le _
 have CR0 : CHr Z EL s.vm h0 s.vm h0 := CHr.refl hCH
 refine Goes.st (fun sT kT => XS.iloadN X0.here hx rfl (hb hby at_0) rfl kT) ?_
 show Goes _ _ _ _ (s₁.setTop (mkF m 1 #[.val (.int p0), .val (.int p1), .val (.int p2), .val (.int p3), .val (.int p4), .val (.int p5), uS, uS, uS, uS, uS, uS, uS] [(.int p0)]))
 refine Goes.st (fun sT kT => XS.iconst X0.here hx rfl (hb hby at_1) kT) ?_
 show Goes _ _ _ _ (s₁.setTop (mkF m 2 #[.val (.int p0), .val (.int p1), .val (.int p2), .val (.int p3), .val (.int p4), .val (.int p5), uS, uS, uS, uS, uS, uS, uS] [(.int (3 : Int32)), (.int p0)]))
 refine Goes.st (fun sT kT => XS.iand X0.here hx rfl (hb hby at_2) rfl kT) ?_
 show Goes _ _ _ _ (s₁.setTop (mkF m 3 #[.val (.int p0), .val (.int p1), .val (.int p2), .val (.int p3), .val (.int p4), .val (.int p5), uS, uS, uS, uS, uS, uS, uS] [(.int (p0 &&& (3 : Int32)))]))
 refine Goes.st (fun sT kT => XS.istore X0.here hx rfl (hb hby at_3) rfl (l' := #[.val (.int p0), .val (.int p1), .val (.int p2), .val (.int p3), .val (.int p4), .val (.int p5), .val (.int (p0 &&& (3 : Int32))), uS, uS, uS, uS, uS, uS]) rfl kT) ?_
 show Goes _ _ _ _ (s₁.setTop (mkF m 5 #[.val (.int p0), .val (.int p1), .val (.int p2), .val (.int p3), .val (.int p4), .val (.int p5), .val (.int (p0 &&& (3 : Int32))), uS, uS, uS, uS, uS, uS] []))
 have Jja : ∀ (Tja : State) (hja : Heap) (Lja : List Loc) (vmja : Vm) (kja : Nat) (xq : Addr) (tq : Addr) (kq : ClassId) (ts : List Int32), Stand p l e room_1 (s.setVm vmja) m #[(.int p0), (.int p1), (.int p2), (.int p3), (.int p4), (.int p5)] below meth c Tja Lja 2 52 → Tja.heap = hja → Fr n0 Lja → n0 ≤ hja.size → Z.Warmed39 vmja → vmja.findClass "com/example/sillon/sillon/siri/GeneralMessageChannelNamedPinLaw" = some m.cls → s.Since vmja kja → kja ≤ hja.size → CHr Z EL s.vm h0 vmja hja → Str Z hja xq tq kq ts → Old Z n0 hja → ts.length ≤ 12 → Goes p.tables e below QQ (Tja.setTop (mkF m 39 #[.val (.int p0), .val (.int p1), .val (.int p2), .val (.int p3), .val (.int p4), .val (.int p5), .val (.int (p0 &&& (3 : Int32))), uS, uS, uS, uS, uS, uS] [(.ref xq)])) := by
  intro Tja hja Lja vmja kja xq tq kq ts Xja eja Nja Zja hZja hownja hSja hkja CRja Pja_0 Pja_1 hts
  show Goes _ _ _ _ (Tja.setTop (mkF m 39 #[.val (.int p0), .val (.int p1), .val (.int p2), .val (.int p3), .val (.int p4), .val (.int p5), .val (.int (p0 &&& (3 : Int32))), uS, uS, uS, uS, uS, uS] [(.ref xq)]))
  refine Goes.st (fun sT kT => XS.astore Xja.here hx rfl (hb hby at_39) rfl rfl (l' := #[.val (.int p0), .val (.int p1), .val (.int p2), .val (.int p3), .val (.int p4), .val (.int p5), .val (.int (p0 &&& (3 : Int32))), .val (.ref xq), uS, uS, uS, uS, uS]) rfl kT) ?_
  show Goes _ _ _ _ (Tja.setTop (mkF m 41 #[.val (.int p0), .val (.int p1), .val (.int p2), .val (.int p3), .val (.int p4), .val (.int p5), .val (.int (p0 &&& (3 : Int32))), .val (.ref xq), uS, uS, uS, uS, uS] []))
  refine Goes.st (fun sT kT => XS.iloadN Xja.here hx rfl (hb hby at_41) rfl kT) ?_
  show Goes _ _ _ _ (Tja.setTop (mkF m 42 #[.val (.int p0), .val (.int p1), .val (.int p2), .val (.int p3), .val (.int p4), .val (.int p5), .val (.int (p0 &&& (3 : Int32))), .val (.ref xq), uS, uS, uS, uS, uS] [(.int p1)]))
  refine Goes.st (fun sT kT => XS.iconst Xja.here hx rfl (hb hby at_42) kT) ?_
  show Goes _ _ _ _ (Tja.setTop (mkF m 43 #[.val (.int p0), .val (.int p1), .val (.int p2), .val (.int p3), .val (.int p4), .val (.int p5), .val (.int (p0 &&& (3 : Int32))), .val (.ref xq), uS, uS, uS, uS, uS] [(.int (3 : Int32)), (.int p1)]))
  refine Goes.st (fun sT kT => XS.iand Xja.here hx rfl (hb hby at_43) rfl kT) ?_
  show Goes _ _ _ _ (Tja.setTop (mkF m 44 #[.val (.int p0), .val (.int p1), .val (.int p2), .val (.int p3), .val (.int p4), .val (.int p5), .val (.int (p0 &&& (3 : Int32))), .val (.ref xq), uS, uS, uS, uS, uS] [(.int (p1 &&& (3 : Int32)))]))
  refine Goes.st (fun sT kT => XS.istore Xja.here hx rfl (hb hby at_44) rfl (l' := #[.val (.int p0), .val (.int p1), .val (.int p2), .val (.int p3), .val (.int p4), .val (.int p5), .val (.int (p0 &&& (3 : Int32))), .val (.ref xq), .val (.int (p1 &&& (3 : Int32))), uS, uS, uS, uS]) rfl kT) ?_
  show Goes _ _ _ _ (Tja.setTop (mkF m 46 #[.val (.int p0), .val (.int p1), .val (.int p2), .val (.int p3), .val (.int p4), .val (.int p5), .val (.int (p0 &&& (3 : Int32))), .val (.ref xq), .val (.int (p1 &&& (3 : Int32))), uS, uS, uS, uS] []))
  have Jjb : ∀ (Tjb : State) (hjb : Heap) (Ljb : List Loc) (vmjb : Vm) (kjb : Nat) (len : Nat), Stand p l e room_1 (s.setVm vmjb) m #[(.int p0), (.int p1), (.int p2), (.int p3), (.int p4), (.int p5)] below meth c Tjb Ljb 2 52 → Tjb.heap = hjb → Fr n0 Ljb → n0 ≤ hjb.size → Z.Warmed39 vmjb → vmjb.findClass "com/example/sillon/sillon/siri/GeneralMessageChannelNamedPinLaw" = some m.cls → s.Since vmjb kjb → kjb ≤ hjb.size → CHr Z EL s.vm h0 vmjb hjb → Str Z hjb xq tq kq ts → Old Z n0 hjb → len ≤ 13 → Goes p.tables e below QQ (Tjb.setTop (mkF m 109 #[.val (.int p0), .val (.int p1), .val (.int p2), .val (.int p3), .val (.int p4), .val (.int p5), .val (.int (p0 &&& (3 : Int32))), .val (.ref xq), .val (.int (p1 &&& (3 : Int32))), .val (.int (Int32.ofNat len)), uS, uS, uS] [])) := by
   intro Tjb hjb Ljb vmjb kjb len Xjb ejb Njb Zjb hZjb hownjb hSjb hkjb CRjb Pjb_0 Pjb_1 hlen
   show Goes _ _ _ _ (Tjb.setTop (mkF m 109 #[.val (.int p0), .val (.int p1), .val (.int p2), .val (.int p3), .val (.int p4), .val (.int p5), .val (.int (p0 &&& (3 : Int32))), .val (.ref xq), .val (.int (p1 &&& (3 : Int32))), .val (.int (Int32.ofNat len)), uS, uS, uS] []))
   refine Goes.st (fun sT kT => XS.iloadN Xjb.here hx rfl (hb hby at_109) rfl kT) ?_
   show Goes _ _ _ _ (Tjb.setTop (mkF m 110 #[.val (.int p0), .val (.int p1), .val (.int p2), .val (.int p3), .val (.int p4), .val (.int p5), .val (.int (p0 &&& (3 : Int32))), .val (.ref xq), .val (.int (p1 &&& (3 : Int32))), .val (.int (Int32.ofNat len)), uS, uS, uS] [(.int p2)]))
   refine Goes.st (fun sT kT => XS.sipush Xjb.here hx rfl (hb hby at_110) kT) ?_
   show Goes _ _ _ _ (Tjb.setTop (mkF m 113 #[.val (.int p0), .val (.int p1), .val (.int p2), .val (.int p3), .val (.int p4), .val (.int p5), .val (.int (p0 &&& (3 : Int32))), .val (.ref xq), .val (.int (p1 &&& (3 : Int32))), .val (.int (Int32.ofNat len)), uS, uS, uS] [(.int (255 : Int32)), (.int p2)]))
   refine Goes.st (fun sT kT => XS.iand Xjb.here hx rfl (hb hby at_113) rfl kT) ?_
   show Goes _ _ _ _ (Tjb.setTop (mkF m 114 #[.val (.int p0), .val (.int p1), .val (.int p2), .val (.int p3), .val (.int p4), .val (.int p5), .val (.int (p0 &&& (3 : Int32))), .val (.ref xq), .val (.int (p1 &&& (3 : Int32))), .val (.int (Int32.ofNat len)), uS, uS, uS] [(.int (p2 &&& (255 : Int32)))]))
   obtain ⟨fl, hfl⟩ : ∃ z, z = (p2 &&& (255 : Int32)) := ⟨_, rfl⟩
   have rg_fl : ¬ fl < 0 ∧ ¬ (255 : Int32) < fl := by rw [hfl]; exact own_rg255 p2
   rw [← hfl]
   show Goes _ _ _ _ (Tjb.setTop (mkF m 114 #[.val (.int p0), .val (.int p1), .val (.int p2), .val (.int p3), .val (.int p4), .val (.int p5), .val (.int (p0 &&& (3 : Int32))), .val (.ref xq), .val (.int (p1 &&& (3 : Int32))), .val (.int (Int32.ofNat len)), uS, uS, uS] [(.int fl)]))
   refine Goes.st (fun sT kT => XS.istore Xjb.here hx rfl (hb hby at_114) rfl (l' := #[.val (.int p0), .val (.int p1), .val (.int p2), .val (.int p3), .val (.int p4), .val (.int p5), .val (.int (p0 &&& (3 : Int32))), .val (.ref xq), .val (.int (p1 &&& (3 : Int32))), .val (.int (Int32.ofNat len)), .val (.int fl), uS, uS]) rfl kT) ?_
   show Goes _ _ _ _ (Tjb.setTop (mkF m 116 #[.val (.int p0), .val (.int p1), .val (.int p2), .val (.int p3), .val (.int p4), .val (.int p5), .val (.int (p0 &&& (3 : Int32))), .val (.ref xq), .val (.int (p1 &&& (3 : Int32))), .val (.int (Int32.ofNat len)), .val (.int fl), uS, uS] []))
   refine Goes.st (fun sT kT => XS.iload Xjb.here hx rfl (hb hby at_116) rfl kT) ?_
   show Goes _ _ _ _ (Tjb.setTop (mkF m 118 #[.val (.int p0), .val (.int p1), .val (.int p2), .val (.int p3), .val (.int p4), .val (.int p5), .val (.int (p0 &&& (3 : Int32))), .val (.ref xq), .val (.int (p1 &&& (3 : Int32))), .val (.int (Int32.ofNat len)), .val (.int fl), uS, uS] [(.int (Int32.ofNat len))]))
   obtain ⟨T1, h1, k1, X1, e1, E1, A1, st1⟩ := newP Xjb hx hZjb (aty := .char) (hw8 hw) ejb (g := (mkF m 118 #[.val (.int p0), .val (.int p1), .val (.int p2), .val (.int p3), .val (.int p4), .val (.int p5), .val (.int (p0 &&& (3 : Int32))), .val (.ref xq), .val (.int (p1 &&& (3 : Int32))), .val (.int (Int32.ofNat len)), .val (.int fl), uS, uS] [(.int (Int32.ofNat len))])) rfl (hb hby at_118) rfl (own_nneg (own_l31 hlen)) (cap := 13) (by rw [own_nclamp (own_l31 hlen)]; exact hlen) (by decide) (by decide) (by decide)
   obtain ⟨b1, g1⟩ : ∃ z, z = hjb.size := ⟨_, rfl⟩
   rw [← g1] at A1 st1
   have CR2 : CHr Z EL s.vm h0 vmjb h1 := CRjb.trans (CHr.ext E1 CRjb.1)
   have V1 : Arv Z h1 b1 k1 .char (Int32.ofNat len) [] (.int (0 : Int32)) := Arv.new A1 (own_nneg (own_l31 hlen))
   refine Goes.st st1 ?_
   show Goes _ _ _ _ (T1.setTop (mkF m 120 #[.val (.int p0), .val (.int p1), .val (.int p2), .val (.int p3), .val (.int p4), .val (.int p5), .val (.int (p0 &&& (3 : Int32))), .val (.ref xq), .val (.int (p1 &&& (3 : Int32))), .val (.int (Int32.ofNat len)), .val (.int fl), uS, uS] [(.ref b1)]))
   have Vp : Arv Z h1 b1 k1 .char (Int32.ofNat len) ((List.replicate len (0 : Int32)).map Value.int) (.int (0 : Int32)) := V1.pad (own_padr len)
   refine Goes.st (fun sT kT => XS.astore X1.here hx rfl (hb hby at_120) rfl rfl (l' := #[.val (.int p0), .val (.int p1), .val (.int p2), .val (.int p3), .val (.int p4), .val (.int p5), .val (.int (p0 &&& (3 : Int32))), .val (.ref xq), .val (.int (p1 &&& (3 : Int32))), .val (.int (Int32.ofNat len)), .val (.int fl), .val (.ref b1), uS]) rfl kT) ?_
   show Goes _ _ _ _ (T1.setTop (mkF m 122 #[.val (.int p0), .val (.int p1), .val (.int p2), .val (.int p3), .val (.int p4), .val (.int p5), .val (.int (p0 &&& (3 : Int32))), .val (.ref xq), .val (.int (p1 &&& (3 : Int32))), .val (.int (Int32.ofNat len)), .val (.int fl), .val (.ref b1), uS] []))
   have nb : n0 ≤ b1 := (Nat.le_trans Zjb (Nat.le_of_eq g1.symm))
   have nq : xq ≠ b1 := (Nat.ne_of_lt (Nat.lt_of_lt_of_le Pjb_0.1.lt (Nat.le_of_eq g1.symm)))
   have nt : tq ≠ b1 := (Nat.ne_of_lt (Nat.lt_of_lt_of_le Pjb_0.ltT (Nat.le_of_eq g1.symm)))
   have Jjp : ∀ (Tjp : State) (hjp : Heap) (Ljp : List Loc) (vmjp : Vm) (kjp : Nat) (us : List Int32), Stand p l e room_1 (s.setVm vmjp) m #[(.int p0), (.int p1), (.int p2), (.int p3), (.int p4), (.int p5)] below meth c Tjp Ljp 3 65 → Tjp.heap = hjp → Fr n0 Ljp → n0 ≤ hjp.size → Z.Warmed39 vmjp → vmjp.findClass "com/example/sillon/sillon/siri/GeneralMessageChannelNamedPinLaw" = some m.cls → s.Since vmjp kjp → kjp ≤ hjp.size → CHr Z EL s.vm h0 vmjp hjp → Arv Z hjp b1 k1 .char (Int32.ofNat len) (us.map Value.int) (.int (0 : Int32)) → Old Z n0 hjp → us.length = len → (∀ c ∈ us, ¬ c < 0 ∧ ¬ (255 : Int32) < c) → Goes p.tables e below QQ (Tjp.setTop (mkF m 405 #[.val (.int p0), .val (.int p1), .val (.int p2), .val (.int p3), .val (.int p4), .val (.int p5), .val (.int (p0 &&& (3 : Int32))), .val (.ref xq), .val (.int (p1 &&& (3 : Int32))), .val (.int (Int32.ofNat len)), .val (.int fl), .val (.ref b1), uS] [])) := by
    intro Tjp hjp Ljp vmjp kjp us Xjp ejp Njp Zjp hZjp hownjp hSjp hkjp CRjp Pjp_0 Pjp_1 hu hr
    show Goes _ _ _ _ (Tjp.setTop (mkF m 405 #[.val (.int p0), .val (.int p1), .val (.int p2), .val (.int p3), .val (.int p4), .val (.int p5), .val (.int (p0 &&& (3 : Int32))), .val (.ref xq), .val (.int (p1 &&& (3 : Int32))), .val (.int (Int32.ofNat len)), .val (.int fl), .val (.ref b1), uS] []))
    refine Goes.st (fun sT kT => XS.iload Xjp.here hx rfl (hb hby at_405) rfl kT) ?_
    show Goes _ _ _ _ (Tjp.setTop (mkF m 407 #[.val (.int p0), .val (.int p1), .val (.int p2), .val (.int p3), .val (.int p4), .val (.int p5), .val (.int (p0 &&& (3 : Int32))), .val (.ref xq), .val (.int (p1 &&& (3 : Int32))), .val (.int (Int32.ofNat len)), .val (.int fl), .val (.ref b1), uS] [(.int p5)]))
    refine Goes.st (fun sT kT => XS.iconst Xjp.here hx rfl (hb hby at_407) kT) ?_
    show Goes _ _ _ _ (Tjp.setTop (mkF m 408 #[.val (.int p0), .val (.int p1), .val (.int p2), .val (.int p3), .val (.int p4), .val (.int p5), .val (.int (p0 &&& (3 : Int32))), .val (.ref xq), .val (.int (p1 &&& (3 : Int32))), .val (.int (Int32.ofNat len)), .val (.int fl), .val (.ref b1), uS] [(.int (2 : Int32)), (.int p5)]))
    refine Goes.st (fun sT kT => XS.iand Xjp.here hx rfl (hb hby at_408) rfl kT) ?_
    show Goes _ _ _ _ (Tjp.setTop (mkF m 409 #[.val (.int p0), .val (.int p1), .val (.int p2), .val (.int p3), .val (.int p4), .val (.int p5), .val (.int (p0 &&& (3 : Int32))), .val (.ref xq), .val (.int (p1 &&& (3 : Int32))), .val (.int (Int32.ofNat len)), .val (.int fl), .val (.ref b1), uS] [(.int (p5 &&& (2 : Int32)))]))
    by_cases cz3 : (p5 &&& (2 : Int32)) = (0 : Int32)
    case pos =>
     refine Goes.st (fun sT kT => XS.ifYes Xjp.here hx rfl (pc0 := 409) (pc' := 416) rfl (hb hby at_409) rfl ((if0 _ _).trans (teq cz3).1) (by decide) (by decide) kT) ?_
     show Goes _ _ _ _ (Tjp.setTop (mkF m 416 #[.val (.int p0), .val (.int p1), .val (.int p2), .val (.int p3), .val (.int p4), .val (.int p5), .val (.int (p0 &&& (3 : Int32))), .val (.ref xq), .val (.int (p1 &&& (3 : Int32))), .val (.int (Int32.ofNat len)), .val (.int fl), .val (.ref b1), uS] []))
     rcases Nat.eq_zero_or_pos len with hz0 | hz0
     ·skip
      have hus : us = [] := List.length_eq_zero_iff.mp (hu.trans hz0)
      have Ve : Arv Z hjp b1 k1 .char (0 : Int32) [] (.int (0 : Int32)) := by have q := Pjp_0; rw [hus, hz0] at q; exact q
      show Goes _ _ _ _ (Tjp.setTop (mkF m 416 #[.val (.int p0), .val (.int p1), .val (.int p2), .val (.int p3), .val (.int p4), .val (.int p5), .val (.int (p0 &&& (3 : Int32))), .val (.ref xq), .val (.int (p1 &&& (3 : Int32))), .val (.int (Int32.ofNat len)), .val (.int fl), .val (.ref b1), uS] []))
      obtain ⟨T4, h4, X4, e4, E4, A4, D4, -, st4⟩ := newO Xjp hx hZjp hownjp (hw81 hw) (hw2 hw) (hw1 hw) ejp (g := (mkF m 416 #[.val (.int p0), .val (.int p1), .val (.int p2), .val (.int p3), .val (.int p4), .val (.int p5), .val (.int (p0 &&& (3 : Int32))), .val (.ref xq), .val (.int (p1 &&& (3 : Int32))), .val (.int (Int32.ofNat len)), .val (.int fl), .val (.ref b1), uS] [])) rfl (hb hby at_416) (by decide) (by decide)
      obtain ⟨b4, g4⟩ : ∃ z, z = hjp.size := ⟨_, rfl⟩
      rw [← g4] at A4 D4 st4
      have CR5 : CHr Z EL s.vm h0 vmjp h4 := CRjp.trans (CHr.ext E4 CRjp.1)
      have sf4_b4 : Safe Z EL vmjp h4 b4 := Safe.ext E4 CRjp.1 (Safe.new (Nat.le_of_eq g4.symm))
      have F4_value : Fld Z h4 b4 "java/lang/String" "value" "[B" .null := D4 (Or.inr (hw4 hw)) (ty := (.array .byte)) (by decide)
      have F4_coder : Fld Z h4 b4 "java/lang/String" "coder" "B" (.int (0 : Int32)) := D4 (Or.inr (hw5 hw)) (ty := .byte) (by decide)
      refine Goes.st st4 ?_
      show Goes _ _ _ _ (T4.setTop (mkF m 419 #[.val (.int p0), .val (.int p1), .val (.int p2), .val (.int p3), .val (.int p4), .val (.int p5), .val (.int (p0 &&& (3 : Int32))), .val (.ref xq), .val (.int (p1 &&& (3 : Int32))), .val (.int (Int32.ofNat len)), .val (.int fl), .val (.ref b1), uS] [(.ref b4)]))
      refine Goes.st (fun sT kT => XS.dup X4.here hx rfl (hb hby at_419) rfl rfl kT) ?_
      show Goes _ _ _ _ (T4.setTop (mkF m 420 #[.val (.int p0), .val (.int p1), .val (.int p2), .val (.int p3), .val (.int p4), .val (.int p5), .val (.int (p0 &&& (3 : Int32))), .val (.ref xq), .val (.int (p1 &&& (3 : Int32))), .val (.int (Int32.ofNat len)), .val (.int fl), .val (.ref b1), uS] [(.ref b4), (.ref b4)]))
      refine Goes.st (fun sT kT => XS.aload X4.here hx rfl (hb hby at_420) rfl rfl kT) ?_
      show Goes _ _ _ _ (T4.setTop (mkF m 422 #[.val (.int p0), .val (.int p1), .val (.int p2), .val (.int p3), .val (.int p4), .val (.int p5), .val (.int (p0 &&& (3 : Int32))), .val (.ref xq), .val (.int (p1 &&& (3 : Int32))), .val (.int (Int32.ofNat len)), .val (.int fl), .val (.ref b1), uS] [(.ref b1), (.ref b4), (.ref b4)]))
      have f7 : Arv Z h4 b1 k1 .char (0 : Int32) [] (.int (0 : Int32)) := (Ve.ext E4)
      obtain ⟨_, _, ⟨T6, L6, k6, n6⟩, -, X6, hSr6, hgr6, ⟨Lc6, hQ6, l6, y6, z6, C6⟩, st6⟩ := X4.specialBackS hx (y := (⟨"java/lang/String", "<init>", "([C)V"⟩ : MethodName)) rfl hownjp (mvT hZjp (hw82 hw)) (mvT hZjp (hw83 hw)) (mvT hZjp (hw84 hw)) (by decide) (own_backW (W := 1) (xs := [b4]) (rm_s1e l Z a0 hw [] b4 b1 k1 h4 n0 (Nat.le_trans Zjp E4.1) A4 F4_value F4_coder f7 (Nat.le_trans Zjp (Nat.le_of_eq g4.symm))) hZjp (hw84 hw) (hw1 hw) (by decide) (by decide) (own_EW hw) CR5.1 (allS ⟨A4.lt, sf4_b4⟩ all0)) (g := (mkF m 422 #[.val (.int p0), .val (.int p1), .val (.int p2), .val (.int p3), .val (.int p4), .val (.int p5), .val (.int (p0 &&& (3 : Int32))), .val (.ref xq), .val (.int (p1 &&& (3 : Int32))), .val (.int (Int32.ofNat len)), .val (.int fl), .val (.ref b1), uS] [(.ref b1), (.ref b4), (.ref b4)])) rfl (by rw [hml]; rfl) (Steps.refl _) (a := b4) (argsL := [(.ref b1)]) (rest := [(.ref b4)]) (lenOf pd_5 rfl) rfl (by show 2 * 0 + _ ≤ _; exact Nat.le_of_eq rfl) (hb hby at_422) (fun _ _ => ⟨rfl, e4, (by decide : 4 + 4 ≤ _), (by decide : 69 + 8 ≤ _)⟩)
      dsimp only [Pt.U, Pt.locs, Pt.cells, Pt.slots] at X6 l6 y6 z6 st6 hQ6 hSr6 hgr6 C6
      subst l6 y6 z6
      obtain ⟨X6, hS6, hZ6, hown6⟩ := rebS hSjp (by rw [e4]; exact (Nat.le_trans hkjp E4.1)) X6 hSr6 hgr6 hZjp hownjp
      obtain ⟨t6, kb6, rfl, N6q, K6, F6_0, ne6_0⟩ := hQ6
      have N6 := Fr.app Njp N6q
      have F6_0E := F6_0.1
      have CR8 : CHr Z EL s.vm h0 T6.vm T6.heap := CR5.trans (C6)
      have sf8_b4 : Safe Z EL T6.vm T6.heap b4 := C6.safe A4.lt sf4_b4
      refine Goes.tr st6 ?_
      show Goes _ _ _ _ (T6.setTop (mkF m 425 #[.val (.int p0), .val (.int p1), .val (.int p2), .val (.int p3), .val (.int p4), .val (.int p5), .val (.int (p0 &&& (3 : Int32))), .val (.ref xq), .val (.int (p1 &&& (3 : Int32))), .val (.int (Int32.ofNat len)), .val (.int fl), .val (.ref b1), uS] [(.ref b4)]))
      refine Goes.st (fun sT kT => XS.astore X6.here hx rfl (hb hby at_425) rfl rfl (l' := #[.val (.int p0), .val (.int p1), .val (.int p2), .val (.int p3), .val (.int p4), .val (.int p5), .val (.int (p0 &&& (3 : Int32))), .val (.ref xq), .val (.int (p1 &&& (3 : Int32))), .val (.int (Int32.ofNat len)), .val (.int fl), .val (.ref b1), .val (.ref b4)]) rfl kT) ?_
      show Goes _ _ _ _ (T6.setTop (mkF m 427 #[.val (.int p0), .val (.int p1), .val (.int p2), .val (.int p3), .val (.int p4), .val (.int p5), .val (.int (p0 &&& (3 : Int32))), .val (.ref xq), .val (.int (p1 &&& (3 : Int32))), .val (.int (Int32.ofNat len)), .val (.int fl), .val (.ref b1), .val (.ref b4)] []))
      refine Goes.st (fun sT kT => XS.aload X6.here hx rfl (hb hby at_427) rfl rfl kT) ?_
      show Goes _ _ _ _ (T6.setTop (mkF m 429 #[.val (.int p0), .val (.int p1), .val (.int p2), .val (.int p3), .val (.int p4), .val (.int p5), .val (.int (p0 &&& (3 : Int32))), .val (.ref xq), .val (.int (p1 &&& (3 : Int32))), .val (.int (Int32.ofNat len)), .val (.int fl), .val (.ref b1), .val (.ref b4)] [(.ref b4)]))
      have f10 : Old Z n0 T6.heap := ((Pjp_1.ext E4).keep K6 (allS (Nat.le_trans Zjp (Nat.le_of_eq g4.symm)) all0))
      obtain ⟨_, _, ⟨T9, L9, k9, n9⟩, -, X9, ⟨Lc9, hQ9, l9, y9, z9⟩, st9⟩ := Jvm.LawKit.callS X6 hx (y := (⟨"com/example/sillon/sillon/siri/GeneralMessageChannel", "named", "(Ljava/lang/String;)Lcom/example/sillon/sillon/siri/GeneralMessageChannel;"⟩ : MethodName)) hown6 (mvT hZ6 (hw9 hw)) (mvT hZ6 (hw10 hw)) (mvT hZ6 (hw11 hw)) (mvT hZ6 (hw12 hw)) (by decide) (backOf (W := 0) (rm_namS l Z a0 hw [] b4 t6 kb6 [] G1 aV kV eP cP tP kP eI cI tI kI eC cC tC kC T6.heap n0 (Nat.le_trans Zjp (Nat.le_trans E4.1 K6.1)) F6_0 f10 O2 P5 EN) hZ6 (hw12 hw) (hw11 hw) (by decide) (by decide)) (g := (mkF m 429 #[.val (.int p0), .val (.int p1), .val (.int p2), .val (.int p3), .val (.int p4), .val (.int p5), .val (.int (p0 &&& (3 : Int32))), .val (.ref xq), .val (.int (p1 &&& (3 : Int32))), .val (.int (Int32.ofNat len)), .val (.int fl), .val (.ref b1), .val (.ref b4)] [(.ref b4)])) rfl (by rw [hml]; rfl) (argsL := [(.ref b4)]) (rest := []) (lenOf pd_6 rfl) rfl (by show 2 * 0 + _ ≤ _; exact Nat.le_of_eq rfl) (hb hby at_429) (fun _ _ => ⟨rfl, rfl, (by decide : 8 + 1 ≤ _), (by decide : 77 + 3 ≤ _)⟩)
      dsimp only [Pt.U, Pt.locs, Pt.cells, Pt.slots] at X9 l9 y9 z9 st9 hQ9
      subst l9 y9 z9
      obtain ⟨rfl, N9q, K9⟩ := hQ9
      have N9 := Fr.app N6 N9q
      have hs11 : ∀ x ∈ ([] : List Addr), Safe Z EL T6.vm T6.heap x := all0
      have CR11 : CHr Z EL s.vm h0 T6.vm T9.heap := CR8.trans (CHr.keep K9 hs11 CR8.1)
      have sf11_b4 : Safe Z EL T6.vm T9.heap b4 := Safe.keep K9 hs11 CR8.1 sf8_b4
      refine Goes.st st9 ?_
      show Goes _ _ _ _ (T9.setTop (mkF m 432 #[.val (.int p0), .val (.int p1), .val (.int p2), .val (.int p3), .val (.int p4), .val (.int p5), .val (.int (p0 &&& (3 : Int32))), .val (.ref xq), .val (.int (p1 &&& (3 : Int32))), .val (.int (Int32.ofNat len)), .val (.int fl), .val (.ref b1), .val (.ref b4)] [(own_pk [] eP eI eC)]))
      refine Goes.st (fun sT kT => XS.aload X9.here hx rfl (hb hby at_432) rfl rfl kT) ?_
      show Goes _ _ _ _ (T9.setTop (mkF m 434 #[.val (.int p0), .val (.int p1), .val (.int p2), .val (.int p3), .val (.int p4), .val (.int p5), .val (.int (p0 &&& (3 : Int32))), .val (.ref xq), .val (.int (p1 &&& (3 : Int32))), .val (.int (Int32.ofNat len)), .val (.int fl), .val (.ref b1), .val (.ref b4)] [(.ref b4), (own_pk [] eP eI eC)]))
      have f13 : Str Z T9.heap b4 t6 kb6 [] := (F6_0.keep K9 nin0 nin0)
      have f14 : Old Z n0 T9.heap := (f10.keep K9 all0)
      obtain ⟨_, _, ⟨T12, L12, k12, n12⟩, -, X12, hSr12, hgr12, ⟨Lc12, hQ12, l12, y12, z12, C12⟩, st12⟩ := callSS X9 hx (y := (⟨"com/example/sillon/sillon/siri/GeneralMessageChannelNamedPinLaw", "ref", "(Ljava/lang/String;)Lcom/example/sillon/sillon/siri/GeneralMessageChannel;"⟩ : MethodName)) hown6 (mvT hZ6 (hw38 hw)) (mvT hZ6 (hw39 hw)) (mvT hZ6 (hw40 hw)) (mvT hZ6 (hw41 hw)) (by decide) (own_backW (W := 1) (xs := []) (rm_refS l Z a0 hw [] b4 t6 kb6 [] G1 aV kV eP cP tP kP eI cI tI kI eC cC tC kC T9.heap n0 (Nat.le_trans Zjp (Nat.le_trans (Nat.le_trans E4.1 K6.1) K9.1)) f13 f14 O2 P5 EN) hZ6 (hw41 hw) (hw40 hw) (by decide) (by decide) (own_EW hw) CR11.1 all0) (g := (mkF m 434 #[.val (.int p0), .val (.int p1), .val (.int p2), .val (.int p3), .val (.int p4), .val (.int p5), .val (.int (p0 &&& (3 : Int32))), .val (.ref xq), .val (.int (p1 &&& (3 : Int32))), .val (.int (Int32.ofNat len)), .val (.int fl), .val (.ref b1), .val (.ref b4)] [(.ref b4), (own_pk [] eP eI eC)])) rfl (by rw [hml]; rfl) (argsL := [(.ref b4)]) (rest := [(own_pk [] eP eI eC)]) (lenOf pd_6 rfl) rfl (by show 2 * 0 + (Value.category (own_pk [] eP eI eC) + 0) ≤ _; rw [own_cat (own_pkr [] eP eI eC)]; try decide) (hb hby at_434) (fun _ _ => ⟨rfl, rfl, (by decide : 9 + 6 ≤ _), (by decide : 80 + 144 ≤ _)⟩)
      dsimp only [Pt.U, Pt.locs, Pt.cells, Pt.slots] at X12 l12 y12 z12 st12 hQ12 hSr12 hgr12 C12
      subst l12 y12 z12
      obtain ⟨X12, hS12, hZ12, hown12⟩ := rebS hS6 (Nat.le_trans (Nat.le_refl _) K9.1) X12 hSr12 hgr12 hZ6 hown6
      obtain ⟨rfl, N12q, K12⟩ := hQ12
      have N12 := Fr.app N9 N12q
      have CR15 : CHr Z EL s.vm h0 T12.vm T12.heap := CR11.trans (C12)
      have sf15_b4 : Safe Z EL T12.vm T12.heap b4 := C12.safe (Nat.lt_of_lt_of_le A4.lt (Nat.le_trans K6.1 K9.1)) sf11_b4
      refine Goes.tr st12 ?_
      show Goes _ _ _ _ (T12.setTop (mkF m 437 #[.val (.int p0), .val (.int p1), .val (.int p2), .val (.int p3), .val (.int p4), .val (.int p5), .val (.int (p0 &&& (3 : Int32))), .val (.ref xq), .val (.int (p1 &&& (3 : Int32))), .val (.int (Int32.ofNat len)), .val (.int fl), .val (.ref b1), .val (.ref b4)] [(own_pk [] eP eI eC), (own_pk [] eP eI eC)]))
      refine Goes.st (fun sT kT => Jvm.RoadKit.acmp (g := (mkF m 437 #[.val (.int p0), .val (.int p1), .val (.int p2), .val (.int p3), .val (.int p4), .val (.int p5), .val (.int (p0 &&& (3 : Int32))), .val (.ref xq), .val (.int (p1 &&& (3 : Int32))), .val (.int (Int32.ofNat len)), .val (.int fl), .val (.ref b1), .val (.ref b4)] [(own_pk [] eP eI eC), (own_pk [] eP eI eC)])) X12 hx rfl (own_pkr [] eP eI eC) (own_pkr [] eP eI eC) (pc0 := 437) (pc' := 440) (same := true) rfl (hb hby at_437) rfl (decide_eq_true rfl) (by decide) (by decide) kT) ?_
      show Goes _ _ _ _ (T12.setTop (mkF m 440 #[.val (.int p0), .val (.int p1), .val (.int p2), .val (.int p3), .val (.int p4), .val (.int p5), .val (.int (p0 &&& (3 : Int32))), .val (.ref xq), .val (.int (p1 &&& (3 : Int32))), .val (.int (Int32.ofNat len)), .val (.int fl), .val (.ref b1), .val (.ref b4)] []))
      refine Goes.st (fun sT kT => XS.iconst X12.here hx rfl (hb hby at_440) kT) ?_
      show Goes _ _ _ _ (T12.setTop (mkF m 441 #[.val (.int p0), .val (.int p1), .val (.int p2), .val (.int p3), .val (.int p4), .val (.int p5), .val (.int (p0 &&& (3 : Int32))), .val (.ref xq), .val (.int (p1 &&& (3 : Int32))), .val (.int (Int32.ofNat len)), .val (.int fl), .val (.ref b1), .val (.ref b4)] [(.int (1 : Int32))]))
      refine Goes.st (fun sT kT => XS.goto X12.here hx rfl (pc0 := 441) (pc' := 445) rfl (hb hby at_441) (by decide) (by decide) kT) ?_
      show Goes _ _ _ _ (T12.setTop (mkF m 445 #[.val (.int p0), .val (.int p1), .val (.int p2), .val (.int p3), .val (.int p4), .val (.int p5), .val (.int (p0 &&& (3 : Int32))), .val (.ref xq), .val (.int (p1 &&& (3 : Int32))), .val (.int (Int32.ofNat len)), .val (.int fl), .val (.ref b1), .val (.ref b4)] [(.int (1 : Int32))]))
      obtain ⟨fs, hr, hrun, hended, hRW⟩ := X12.leaveW hS12 (Nat.le_refl _) (v := some (.int (1 : Int32))) (fun h => by rw [Bd.returns] at h; cases h)
      subst hQQ
      have hCR : CHr Z EL s.vm s.heap T12.vm T12.heap := by rw [hh]; exact CR15.trans (CHv.at X12 hZ12 (own_EW hw) CR15.1)
      refine ⟨_, _, retN X12 hx (t := .boolean) Bd.returns (by simp) (hb hby at_445) hr, hrun, hended, _, _, rfl, ?_, hCR, own_REmono hRW (by decide) (by decide)⟩
      show Q_law Z p0 p1 p2 p3 p4 p5 G1 vF aV kV eP cP tP kP eI cI tI kI eC cC tC kC h0 n0 _ T12.heap _
      exact ⟨rfl, N12⟩
     ·skip
      show Goes _ _ _ _ (Tjp.setTop (mkF m 416 #[.val (.int p0), .val (.int p1), .val (.int p2), .val (.int p3), .val (.int p4), .val (.int p5), .val (.int (p0 &&& (3 : Int32))), .val (.ref xq), .val (.int (p1 &&& (3 : Int32))), .val (.int (Int32.ofNat len)), .val (.int fl), .val (.ref b1), uS] []))
      obtain ⟨T16, h16, X16, e16, E16, A16, D16, -, st16⟩ := newO Xjp hx hZjp hownjp (hw81 hw) (hw2 hw) (hw1 hw) ejp (g := (mkF m 416 #[.val (.int p0), .val (.int p1), .val (.int p2), .val (.int p3), .val (.int p4), .val (.int p5), .val (.int (p0 &&& (3 : Int32))), .val (.ref xq), .val (.int (p1 &&& (3 : Int32))), .val (.int (Int32.ofNat len)), .val (.int fl), .val (.ref b1), uS] [])) rfl (hb hby at_416) (by decide) (by decide)
      obtain ⟨b16, g16⟩ : ∃ z, z = hjp.size := ⟨_, rfl⟩
      rw [← g16] at A16 D16 st16
      have CR17 : CHr Z EL s.vm h0 vmjp h16 := CRjp.trans (CHr.ext E16 CRjp.1)
      have sf16_b16 : Safe Z EL vmjp h16 b16 := Safe.ext E16 CRjp.1 (Safe.new (Nat.le_of_eq g16.symm))
      have F16_value : Fld Z h16 b16 "java/lang/String" "value" "[B" .null := D16 (Or.inr (hw4 hw)) (ty := (.array .byte)) (by decide)
      have F16_coder : Fld Z h16 b16 "java/lang/String" "coder" "B" (.int (0 : Int32)) := D16 (Or.inr (hw5 hw)) (ty := .byte) (by decide)
      refine Goes.st st16 ?_
      show Goes _ _ _ _ (T16.setTop (mkF m 419 #[.val (.int p0), .val (.int p1), .val (.int p2), .val (.int p3), .val (.int p4), .val (.int p5), .val (.int (p0 &&& (3 : Int32))), .val (.ref xq), .val (.int (p1 &&& (3 : Int32))), .val (.int (Int32.ofNat len)), .val (.int fl), .val (.ref b1), uS] [(.ref b16)]))
      refine Goes.st (fun sT kT => XS.dup X16.here hx rfl (hb hby at_419) rfl rfl kT) ?_
      show Goes _ _ _ _ (T16.setTop (mkF m 420 #[.val (.int p0), .val (.int p1), .val (.int p2), .val (.int p3), .val (.int p4), .val (.int p5), .val (.int (p0 &&& (3 : Int32))), .val (.ref xq), .val (.int (p1 &&& (3 : Int32))), .val (.int (Int32.ofNat len)), .val (.int fl), .val (.ref b1), uS] [(.ref b16), (.ref b16)]))
      refine Goes.st (fun sT kT => XS.aload X16.here hx rfl (hb hby at_420) rfl rfl kT) ?_
      show Goes _ _ _ _ (T16.setTop (mkF m 422 #[.val (.int p0), .val (.int p1), .val (.int p2), .val (.int p3), .val (.int p4), .val (.int p5), .val (.int (p0 &&& (3 : Int32))), .val (.ref xq), .val (.int (p1 &&& (3 : Int32))), .val (.int (Int32.ofNat len)), .val (.int fl), .val (.ref b1), uS] [(.ref b1), (.ref b16), (.ref b16)]))
      have f19 : Arv Z h16 b1 k1 .char (Int32.ofNat len) (us.map Value.int) (.int (0 : Int32)) := (Pjp_0.ext E16)
      have f20 : Old Z n0 h16 := (Pjp_1.ext E16)
      obtain ⟨_, _, ⟨T18, L18, k18, n18⟩, -, X18, ⟨Lc18, hQ18, l18, y18, z18⟩, st18⟩ := X16.specialBack hx (y := (⟨"java/lang/String", "<init>", "([C)V"⟩ : MethodName)) rfl hownjp (mvT hZjp (hw82 hw)) (mvT hZjp (hw83 hw)) (mvT hZjp (hw84 hw)) (by decide) (own_capB (cap := 13) hlen (StrChars.Road.backV (W := 1) hZjp (own_hws hw) (kI := 4) (hw2 hw) (cs := us) (bs := us.map (fun c => c.toInt8.toInt32)) (n := len) (Nat.le_trans Zjp (Nat.le_of_eq g16.symm)) (Nat.le_trans Zjp E16.1) A16 F16_value F16_coder f19 (O2.ext f20.2) P5 hu rfl hz0 (Nat.le_trans hlen (by decide)) hr rfl (by decide) (by decide))) (g := (mkF m 422 #[.val (.int p0), .val (.int p1), .val (.int p2), .val (.int p3), .val (.int p4), .val (.int p5), .val (.int (p0 &&& (3 : Int32))), .val (.ref xq), .val (.int (p1 &&& (3 : Int32))), .val (.int (Int32.ofNat len)), .val (.int fl), .val (.ref b1), uS] [(.ref b1), (.ref b16), (.ref b16)])) rfl (by rw [hml]; rfl) (Steps.refl _) (a := b16) (argsL := [(.ref b1)]) (rest := [(.ref b16)]) (lenOf pd_5 rfl) rfl (by show 2 * 0 + _ ≤ _; exact Nat.le_of_eq rfl) (hb hby at_422) (fun _ _ => ⟨rfl, e16, (by decide : 4 + 1 ≤ _), (by decide : 69 + 13 ≤ _)⟩)
      dsimp only [Pt.U, Pt.locs, Pt.cells, Pt.slots] at X18 l18 y18 z18 st18 hQ18
      subst l18 y18 z18
      obtain ⟨rfl, N18q, K18, Ex18, Cd18, t18, kb18, lz18, lo18, tn18, Vf18, Av18⟩ := hQ18
      have N18 := Fr.app Njp N18q
      have S18 : Str Z T18.heap b16 t18 kb18 us := ⟨Ex18, Vf18, Cd18, by rw [hu]; exact Av18, hr, by rw [hu]; exact Nat.le_trans hlen (by decide)⟩
      have hs21 : ∀ x ∈ ([b16] : List Addr), Safe Z EL vmjp h16 x := (allS sf16_b16 all0)
      have CR21 : CHr Z EL s.vm h0 vmjp T18.heap := CR17.trans (CHr.keep K18 hs21 CR17.1)
      have sf21_b16 : Safe Z EL vmjp T18.heap b16 := Safe.keep K18 hs21 CR17.1 sf16_b16
      refine Goes.tr st18 ?_
      show Goes _ _ _ _ (T18.setTop (mkF m 425 #[.val (.int p0), .val (.int p1), .val (.int p2), .val (.int p3), .val (.int p4), .val (.int p5), .val (.int (p0 &&& (3 : Int32))), .val (.ref xq), .val (.int (p1 &&& (3 : Int32))), .val (.int (Int32.ofNat len)), .val (.int fl), .val (.ref b1), uS] [(.ref b16)]))
      refine Goes.st (fun sT kT => XS.astore X18.here hx rfl (hb hby at_425) rfl rfl (l' := #[.val (.int p0), .val (.int p1), .val (.int p2), .val (.int p3), .val (.int p4), .val (.int p5), .val (.int (p0 &&& (3 : Int32))), .val (.ref xq), .val (.int (p1 &&& (3 : Int32))), .val (.int (Int32.ofNat len)), .val (.int fl), .val (.ref b1), .val (.ref b16)]) rfl kT) ?_
      show Goes _ _ _ _ (T18.setTop (mkF m 427 #[.val (.int p0), .val (.int p1), .val (.int p2), .val (.int p3), .val (.int p4), .val (.int p5), .val (.int (p0 &&& (3 : Int32))), .val (.ref xq), .val (.int (p1 &&& (3 : Int32))), .val (.int (Int32.ofNat len)), .val (.int fl), .val (.ref b1), .val (.ref b16)] []))
      refine Goes.st (fun sT kT => XS.aload X18.here hx rfl (hb hby at_427) rfl rfl kT) ?_
      show Goes _ _ _ _ (T18.setTop (mkF m 429 #[.val (.int p0), .val (.int p1), .val (.int p2), .val (.int p3), .val (.int p4), .val (.int p5), .val (.int (p0 &&& (3 : Int32))), .val (.ref xq), .val (.int (p1 &&& (3 : Int32))), .val (.int (Int32.ofNat len)), .val (.int fl), .val (.ref b1), .val (.ref b16)] [(.ref b16)]))
      have f23 : Old Z n0 T18.heap := (f20.keep K18 (allS (Nat.le_trans Zjp (Nat.le_of_eq g16.symm)) all0))
      obtain ⟨_, _, ⟨T22, L22, k22, n22⟩, -, X22, ⟨Lc22, hQ22, l22, y22, z22⟩, st22⟩ := Jvm.LawKit.callS X18 hx (y := (⟨"com/example/sillon/sillon/siri/GeneralMessageChannel", "named", "(Ljava/lang/String;)Lcom/example/sillon/sillon/siri/GeneralMessageChannel;"⟩ : MethodName)) hownjp (mvT hZjp (hw9 hw)) (mvT hZjp (hw10 hw)) (mvT hZjp (hw11 hw)) (mvT hZjp (hw12 hw)) (by decide) (backOf (W := 0) (rm_namS l Z a0 hw [] b16 t18 kb18 us G1 aV kV eP cP tP kP eI cI tI kI eC cC tC kC T18.heap n0 (Nat.le_trans Zjp (Nat.le_trans E16.1 K18.1)) S18 f23 O2 P5 EN) hZjp (hw12 hw) (hw11 hw) (by decide) (by decide)) (g := (mkF m 429 #[.val (.int p0), .val (.int p1), .val (.int p2), .val (.int p3), .val (.int p4), .val (.int p5), .val (.int (p0 &&& (3 : Int32))), .val (.ref xq), .val (.int (p1 &&& (3 : Int32))), .val (.int (Int32.ofNat len)), .val (.int fl), .val (.ref b1), .val (.ref b16)] [(.ref b16)])) rfl (by rw [hml]; rfl) (argsL := [(.ref b16)]) (rest := []) (lenOf pd_6 rfl) rfl (by show 2 * 0 + _ ≤ _; exact Nat.le_of_eq rfl) (hb hby at_429) (fun _ _ => ⟨rfl, rfl, (by decide : 5 + 1 ≤ _), (by decide : 82 + 3 ≤ _)⟩)
      dsimp only [Pt.U, Pt.locs, Pt.cells, Pt.slots] at X22 l22 y22 z22 st22 hQ22
      subst l22 y22 z22
      obtain ⟨rfl, N22q, K22⟩ := hQ22
      have N22 := Fr.app N18 N22q
      have hs24 : ∀ x ∈ ([] : List Addr), Safe Z EL vmjp T18.heap x := all0
      have CR24 : CHr Z EL s.vm h0 vmjp T22.heap := CR21.trans (CHr.keep K22 hs24 CR21.1)
      refine Goes.st st22 ?_
      show Goes _ _ _ _ (T22.setTop (mkF m 432 #[.val (.int p0), .val (.int p1), .val (.int p2), .val (.int p3), .val (.int p4), .val (.int p5), .val (.int (p0 &&& (3 : Int32))), .val (.ref xq), .val (.int (p1 &&& (3 : Int32))), .val (.int (Int32.ofNat len)), .val (.int fl), .val (.ref b1), .val (.ref b16)] [(own_pk us eP eI eC)]))
      refine Goes.st (fun sT kT => XS.aload X22.here hx rfl (hb hby at_432) rfl rfl kT) ?_
      show Goes _ _ _ _ (T22.setTop (mkF m 434 #[.val (.int p0), .val (.int p1), .val (.int p2), .val (.int p3), .val (.int p4), .val (.int p5), .val (.int (p0 &&& (3 : Int32))), .val (.ref xq), .val (.int (p1 &&& (3 : Int32))), .val (.int (Int32.ofNat len)), .val (.int fl), .val (.ref b1), .val (.ref b16)] [(.ref b16), (own_pk us eP eI eC)]))
      have f26 : Str Z T22.heap b16 t18 kb18 us := (S18.keep K22 nin0 nin0)
      have f27 : Old Z n0 T22.heap := (f23.keep K22 all0)
      obtain ⟨_, _, ⟨T25, L25, k25, n25⟩, -, X25, hSr25, hgr25, ⟨Lc25, hQ25, l25, y25, z25, C25⟩, st25⟩ := callSS X22 hx (y := (⟨"com/example/sillon/sillon/siri/GeneralMessageChannelNamedPinLaw", "ref", "(Ljava/lang/String;)Lcom/example/sillon/sillon/siri/GeneralMessageChannel;"⟩ : MethodName)) hownjp (mvT hZjp (hw38 hw)) (mvT hZjp (hw39 hw)) (mvT hZjp (hw40 hw)) (mvT hZjp (hw41 hw)) (by decide) (own_backW (W := 1) (xs := []) (rm_refS l Z a0 hw [] b16 t18 kb18 us G1 aV kV eP cP tP kP eI cI tI kI eC cC tC kC T22.heap n0 (Nat.le_trans Zjp (Nat.le_trans (Nat.le_trans E16.1 K18.1) K22.1)) f26 f27 O2 P5 EN) hZjp (hw41 hw) (hw40 hw) (by decide) (by decide) (own_EW hw) CR24.1 all0) (g := (mkF m 434 #[.val (.int p0), .val (.int p1), .val (.int p2), .val (.int p3), .val (.int p4), .val (.int p5), .val (.int (p0 &&& (3 : Int32))), .val (.ref xq), .val (.int (p1 &&& (3 : Int32))), .val (.int (Int32.ofNat len)), .val (.int fl), .val (.ref b1), .val (.ref b16)] [(.ref b16), (own_pk us eP eI eC)])) rfl (by rw [hml]; rfl) (argsL := [(.ref b16)]) (rest := [(own_pk us eP eI eC)]) (lenOf pd_6 rfl) rfl (by show 2 * 0 + (Value.category (own_pk us eP eI eC) + 0) ≤ _; rw [own_cat (own_pkr us eP eI eC)]; try decide) (hb hby at_434) (fun _ _ => ⟨rfl, rfl, (by decide : 6 + 6 ≤ _), (by decide : 85 + 144 ≤ _)⟩)
      dsimp only [Pt.U, Pt.locs, Pt.cells, Pt.slots] at X25 l25 y25 z25 st25 hQ25 hSr25 hgr25 C25
      subst l25 y25 z25
      obtain ⟨X25, hS25, hZ25, hown25⟩ := rebS hSjp (Nat.le_trans (Nat.le_trans (Nat.le_trans hkjp E16.1) K18.1) K22.1) X25 hSr25 hgr25 hZjp hownjp
      obtain ⟨rfl, N25q, K25⟩ := hQ25
      have N25 := Fr.app N22 N25q
      have CR28 : CHr Z EL s.vm h0 T25.vm T25.heap := CR24.trans (C25)
      refine Goes.tr st25 ?_
      show Goes _ _ _ _ (T25.setTop (mkF m 437 #[.val (.int p0), .val (.int p1), .val (.int p2), .val (.int p3), .val (.int p4), .val (.int p5), .val (.int (p0 &&& (3 : Int32))), .val (.ref xq), .val (.int (p1 &&& (3 : Int32))), .val (.int (Int32.ofNat len)), .val (.int fl), .val (.ref b1), .val (.ref b16)] [(own_pk us eP eI eC), (own_pk us eP eI eC)]))
      refine Goes.st (fun sT kT => Jvm.RoadKit.acmp (g := (mkF m 437 #[.val (.int p0), .val (.int p1), .val (.int p2), .val (.int p3), .val (.int p4), .val (.int p5), .val (.int (p0 &&& (3 : Int32))), .val (.ref xq), .val (.int (p1 &&& (3 : Int32))), .val (.int (Int32.ofNat len)), .val (.int fl), .val (.ref b1), .val (.ref b16)] [(own_pk us eP eI eC), (own_pk us eP eI eC)])) X25 hx rfl (own_pkr us eP eI eC) (own_pkr us eP eI eC) (pc0 := 437) (pc' := 440) (same := true) rfl (hb hby at_437) rfl (decide_eq_true rfl) (by decide) (by decide) kT) ?_
      show Goes _ _ _ _ (T25.setTop (mkF m 440 #[.val (.int p0), .val (.int p1), .val (.int p2), .val (.int p3), .val (.int p4), .val (.int p5), .val (.int (p0 &&& (3 : Int32))), .val (.ref xq), .val (.int (p1 &&& (3 : Int32))), .val (.int (Int32.ofNat len)), .val (.int fl), .val (.ref b1), .val (.ref b16)] []))
      refine Goes.st (fun sT kT => XS.iconst X25.here hx rfl (hb hby at_440) kT) ?_
      show Goes _ _ _ _ (T25.setTop (mkF m 441 #[.val (.int p0), .val (.int p1), .val (.int p2), .val (.int p3), .val (.int p4), .val (.int p5), .val (.int (p0 &&& (3 : Int32))), .val (.ref xq), .val (.int (p1 &&& (3 : Int32))), .val (.int (Int32.ofNat len)), .val (.int fl), .val (.ref b1), .val (.ref b16)] [(.int (1 : Int32))]))
      refine Goes.st (fun sT kT => XS.goto X25.here hx rfl (pc0 := 441) (pc' := 445) rfl (hb hby at_441) (by decide) (by decide) kT) ?_
      show Goes _ _ _ _ (T25.setTop (mkF m 445 #[.val (.int p0), .val (.int p1), .val (.int p2), .val (.int p3), .val (.int p4), .val (.int p5), .val (.int (p0 &&& (3 : Int32))), .val (.ref xq), .val (.int (p1 &&& (3 : Int32))), .val (.int (Int32.ofNat len)), .val (.int fl), .val (.ref b1), .val (.ref b16)] [(.int (1 : Int32))]))
      obtain ⟨fs, hr, hrun, hended, hRW⟩ := X25.leaveW hS25 (Nat.le_refl _) (v := some (.int (1 : Int32))) (fun h => by rw [Bd.returns] at h; cases h)
      subst hQQ
      have hCR : CHr Z EL s.vm s.heap T25.vm T25.heap := by rw [hh]; exact CR28.trans (CHv.at X25 hZ25 (own_EW hw) CR28.1)
      refine ⟨_, _, retN X25 hx (t := .boolean) Bd.returns (by simp) (hb hby at_445) hr, hrun, hended, _, _, rfl, ?_, hCR, own_REmono hRW (by decide) (by decide)⟩
      show Q_law Z p0 p1 p2 p3 p4 p5 G1 vF aV kV eP cP tP kP eI cI tI kI eC cC tC kC h0 n0 _ T25.heap _
      exact ⟨rfl, N25⟩
    case neg =>
     refine Goes.st (fun sT kT => XS.ifNo Xjp.here hx rfl (hb hby at_409) rfl ((if0 _ _).trans (feq cz3).1) kT) ?_
     show Goes _ _ _ _ (Tjp.setTop (mkF m 412 #[.val (.int p0), .val (.int p1), .val (.int p2), .val (.int p3), .val (.int p4), .val (.int p5), .val (.int (p0 &&& (3 : Int32))), .val (.ref xq), .val (.int (p1 &&& (3 : Int32))), .val (.int (Int32.ofNat len)), .val (.int fl), .val (.ref b1), uS] []))
     refine Goes.st (fun sT kT => XS.aconstNull Xjp.here hx rfl (hb hby at_412) kT) ?_
     show Goes _ _ _ _ (Tjp.setTop (mkF m 413 #[.val (.int p0), .val (.int p1), .val (.int p2), .val (.int p3), .val (.int p4), .val (.int p5), .val (.int (p0 &&& (3 : Int32))), .val (.ref xq), .val (.int (p1 &&& (3 : Int32))), .val (.int (Int32.ofNat len)), .val (.int fl), .val (.ref b1), uS] [.null]))
     refine Goes.st (fun sT kT => XS.goto Xjp.here hx rfl (pc0 := 413) (pc' := 425) rfl (hb hby at_413) (by decide) (by decide) kT) ?_
     show Goes _ _ _ _ (Tjp.setTop (mkF m 425 #[.val (.int p0), .val (.int p1), .val (.int p2), .val (.int p3), .val (.int p4), .val (.int p5), .val (.int (p0 &&& (3 : Int32))), .val (.ref xq), .val (.int (p1 &&& (3 : Int32))), .val (.int (Int32.ofNat len)), .val (.int fl), .val (.ref b1), uS] [.null]))
     refine Goes.st (fun sT kT => XS.astore Xjp.here hx rfl (hb hby at_425) rfl rfl (l' := #[.val (.int p0), .val (.int p1), .val (.int p2), .val (.int p3), .val (.int p4), .val (.int p5), .val (.int (p0 &&& (3 : Int32))), .val (.ref xq), .val (.int (p1 &&& (3 : Int32))), .val (.int (Int32.ofNat len)), .val (.int fl), .val (.ref b1), .val .null]) rfl kT) ?_
     show Goes _ _ _ _ (Tjp.setTop (mkF m 427 #[.val (.int p0), .val (.int p1), .val (.int p2), .val (.int p3), .val (.int p4), .val (.int p5), .val (.int (p0 &&& (3 : Int32))), .val (.ref xq), .val (.int (p1 &&& (3 : Int32))), .val (.int (Int32.ofNat len)), .val (.int fl), .val (.ref b1), .val .null] []))
     refine Goes.st (fun sT kT => XS.aload Xjp.here hx rfl (hb hby at_427) rfl rfl kT) ?_
     show Goes _ _ _ _ (Tjp.setTop (mkF m 429 #[.val (.int p0), .val (.int p1), .val (.int p2), .val (.int p3), .val (.int p4), .val (.int p5), .val (.int (p0 &&& (3 : Int32))), .val (.ref xq), .val (.int (p1 &&& (3 : Int32))), .val (.int (Int32.ofNat len)), .val (.int fl), .val (.ref b1), .val .null] [.null]))
     obtain ⟨_, _, ⟨T29, L29, k29, n29⟩, -, X29, ⟨Lc29, hQ29, l29, y29, z29⟩, st29⟩ := Jvm.LawKit.callS Xjp hx (y := (⟨"com/example/sillon/sillon/siri/GeneralMessageChannel", "named", "(Ljava/lang/String;)Lcom/example/sillon/sillon/siri/GeneralMessageChannel;"⟩ : MethodName)) hownjp (mvT hZjp (hw9 hw)) (mvT hZjp (hw10 hw)) (mvT hZjp (hw11 hw)) (mvT hZjp (hw12 hw)) (by decide) (backOf (W := 0) (rm_namN l Z a0 hw [] aV kV eP cP tP kP eI cI tI kI eC cC tC kC hjp n0 Zjp Pjp_1 EN) hZjp (hw12 hw) (hw11 hw) (by decide) (by decide)) (g := (mkF m 429 #[.val (.int p0), .val (.int p1), .val (.int p2), .val (.int p3), .val (.int p4), .val (.int p5), .val (.int (p0 &&& (3 : Int32))), .val (.ref xq), .val (.int (p1 &&& (3 : Int32))), .val (.int (Int32.ofNat len)), .val (.int fl), .val (.ref b1), .val .null] [.null])) rfl (by rw [hml]; rfl) (argsL := [.null]) (rest := []) (lenOf pd_6 rfl) rfl (by show 2 * 0 + _ ≤ _; exact Nat.le_of_eq rfl) (hb hby at_429) (fun _ _ => ⟨rfl, ejp, (by decide : 3 + 1 ≤ _), (by decide : 65 + 3 ≤ _)⟩)
     dsimp only [Pt.U, Pt.locs, Pt.cells, Pt.slots] at X29 l29 y29 z29 st29 hQ29
     subst l29 y29 z29
     obtain ⟨rfl, N29q, K29⟩ := hQ29
     have N29 := Fr.app Njp N29q
     have hs30 : ∀ x ∈ ([] : List Addr), Safe Z EL vmjp hjp x := all0
     have CR30 : CHr Z EL s.vm h0 vmjp T29.heap := CRjp.trans (CHr.keep K29 hs30 CRjp.1)
     refine Goes.st st29 ?_
     show Goes _ _ _ _ (T29.setTop (mkF m 432 #[.val (.int p0), .val (.int p1), .val (.int p2), .val (.int p3), .val (.int p4), .val (.int p5), .val (.int (p0 &&& (3 : Int32))), .val (.ref xq), .val (.int (p1 &&& (3 : Int32))), .val (.int (Int32.ofNat len)), .val (.int fl), .val (.ref b1), .val .null] [.null]))
     refine Goes.st (fun sT kT => XS.aload X29.here hx rfl (hb hby at_432) rfl rfl kT) ?_
     show Goes _ _ _ _ (T29.setTop (mkF m 434 #[.val (.int p0), .val (.int p1), .val (.int p2), .val (.int p3), .val (.int p4), .val (.int p5), .val (.int (p0 &&& (3 : Int32))), .val (.ref xq), .val (.int (p1 &&& (3 : Int32))), .val (.int (Int32.ofNat len)), .val (.int fl), .val (.ref b1), .val .null] [.null, .null]))
     obtain ⟨_, _, ⟨T31, L31, k31, n31⟩, -, X31, ⟨Lc31, hQ31, l31, y31, z31⟩, st31⟩ := Jvm.LawKit.callS X29 hx (y := (⟨"com/example/sillon/sillon/siri/GeneralMessageChannelNamedPinLaw", "ref", "(Ljava/lang/String;)Lcom/example/sillon/sillon/siri/GeneralMessageChannel;"⟩ : MethodName)) hownjp (mvT hZjp (hw38 hw)) (mvT hZjp (hw39 hw)) (mvT hZjp (hw40 hw)) (mvT hZjp (hw41 hw)) (by decide) (backOf (W := 1) (rm_refN l Z a0 hw []  T29.heap n0 (Nat.le_trans Zjp K29.1) ) hZjp (hw41 hw) (hw40 hw) (by decide) (by decide)) (g := (mkF m 434 #[.val (.int p0), .val (.int p1), .val (.int p2), .val (.int p3), .val (.int p4), .val (.int p5), .val (.int (p0 &&& (3 : Int32))), .val (.ref xq), .val (.int (p1 &&& (3 : Int32))), .val (.int (Int32.ofNat len)), .val (.int fl), .val (.ref b1), .val .null] [.null, .null])) rfl (by rw [hml]; rfl) (argsL := [.null]) (rest := [.null]) (lenOf pd_6 rfl) rfl (by show 2 * 0 + _ ≤ _; exact Nat.le_of_eq rfl) (hb hby at_434) (fun _ _ => ⟨rfl, rfl, (by decide : 4 + 0 ≤ _), (by decide : 68 + 0 ≤ _)⟩)
     dsimp only [Pt.U, Pt.locs, Pt.cells, Pt.slots] at X31 l31 y31 z31 st31 hQ31
     subst l31 y31 z31
     obtain ⟨rfl, N31q, K31⟩ := hQ31
     have N31 := Fr.app N29 N31q
     refine Goes.st st31 ?_
     show Goes _ _ _ _ (T31.setTop (mkF m 437 #[.val (.int p0), .val (.int p1), .val (.int p2), .val (.int p3), .val (.int p4), .val (.int p5), .val (.int (p0 &&& (3 : Int32))), .val (.ref xq), .val (.int (p1 &&& (3 : Int32))), .val (.int (Int32.ofNat len)), .val (.int fl), .val (.ref b1), .val .null] [.null, .null]))
     refine Goes.st (fun sT kT => Jvm.RoadKit.acmp (g := (mkF m 437 #[.val (.int p0), .val (.int p1), .val (.int p2), .val (.int p3), .val (.int p4), .val (.int p5), .val (.int (p0 &&& (3 : Int32))), .val (.ref xq), .val (.int (p1 &&& (3 : Int32))), .val (.int (Int32.ofNat len)), .val (.int fl), .val (.ref b1), .val .null] [.null, .null])) X31 hx rfl rfl rfl (pc0 := 437) (pc' := 440) (same := true) rfl (hb hby at_437) rfl (decide_eq_true rfl) (by decide) (by decide) kT) ?_
     show Goes _ _ _ _ (T31.setTop (mkF m 440 #[.val (.int p0), .val (.int p1), .val (.int p2), .val (.int p3), .val (.int p4), .val (.int p5), .val (.int (p0 &&& (3 : Int32))), .val (.ref xq), .val (.int (p1 &&& (3 : Int32))), .val (.int (Int32.ofNat len)), .val (.int fl), .val (.ref b1), .val .null] []))
     refine Goes.st (fun sT kT => XS.iconst X31.here hx rfl (hb hby at_440) kT) ?_
     show Goes _ _ _ _ (T31.setTop (mkF m 441 #[.val (.int p0), .val (.int p1), .val (.int p2), .val (.int p3), .val (.int p4), .val (.int p5), .val (.int (p0 &&& (3 : Int32))), .val (.ref xq), .val (.int (p1 &&& (3 : Int32))), .val (.int (Int32.ofNat len)), .val (.int fl), .val (.ref b1), .val .null] [(.int (1 : Int32))]))
     refine Goes.st (fun sT kT => XS.goto X31.here hx rfl (pc0 := 441) (pc' := 445) rfl (hb hby at_441) (by decide) (by decide) kT) ?_
     show Goes _ _ _ _ (T31.setTop (mkF m 445 #[.val (.int p0), .val (.int p1), .val (.int p2), .val (.int p3), .val (.int p4), .val (.int p5), .val (.int (p0 &&& (3 : Int32))), .val (.ref xq), .val (.int (p1 &&& (3 : Int32))), .val (.int (Int32.ofNat len)), .val (.int fl), .val (.ref b1), .val .null] [(.int (1 : Int32))]))
     obtain ⟨fs, hr, hrun, hended, hRW⟩ := X31.leaveW hSjp (by rw [K31]; exact (Nat.le_trans hkjp K29.1)) (v := some (.int (1 : Int32))) (fun h => by rw [Bd.returns] at h; cases h)
     subst hQQ
     have hCR : CHr Z EL s.vm s.heap T31.vm T31.heap := by rw [hh, K31]; exact CR30.trans (CHv.at X31 hZjp (own_EW hw) CR30.1)
     refine ⟨_, _, retN X31 hx (t := .boolean) Bd.returns (by simp) (hb hby at_445) hr, hrun, hended, _, _, rfl, ?_, hCR, own_REmono hRW (by decide) (by decide)⟩
     show Q_law Z p0 p1 p2 p3 p4 p5 G1 vF aV kV eP cP tP kP eI cI tI kI eC cC tC kC h0 n0 _ T31.heap _
     rw [K31]
     exact ⟨rfl, N31⟩
   show Goes _ _ _ _ (T1.setTop (mkF m 122 #[.val (.int p0), .val (.int p1), .val (.int p2), .val (.int p3), .val (.int p4), .val (.int p5), .val (.int (p0 &&& (3 : Int32))), .val (.ref xq), .val (.int (p1 &&& (3 : Int32))), .val (.int (Int32.ofNat len)), .val (.int fl), .val (.ref b1), uS] []))
   have Jjo : ∀ (Tjo : State) (hjo : Heap) (Ljo : List Loc) (vmjo : Vm) (kjo : Nat) (us : List Int32), Stand p l e room_1 (s.setVm vmjo) m #[(.int p0), (.int p1), (.int p2), (.int p3), (.int p4), (.int p5)] below meth c Tjo Ljo 3 65 → Tjo.heap = hjo → Fr n0 Ljo → n0 ≤ hjo.size → Z.Warmed39 vmjo → vmjo.findClass "com/example/sillon/sillon/siri/GeneralMessageChannelNamedPinLaw" = some m.cls → s.Since vmjo kjo → kjo ≤ hjo.size → CHr Z EL s.vm h0 vmjo hjo → Arv Z hjo b1 k1 .char (Int32.ofNat len) (us.map Value.int) (.int (0 : Int32)) → Old Z n0 hjo → us.length = len → (∀ c ∈ us, ¬ c < 0 ∧ ¬ (255 : Int32) < c) → Goes p.tables e below QQ (Tjo.setTop (mkF m 376 #[.val (.int p0), .val (.int p1), .val (.int p2), .val (.int p3), .val (.int p4), .val (.int p5), .val (.int (p0 &&& (3 : Int32))), .val (.ref xq), .val (.int (p1 &&& (3 : Int32))), .val (.int (Int32.ofNat len)), .val (.int fl), .val (.ref b1), uS] [])) := by
    intro Tjo hjo Ljo vmjo kjo us Xjo ejo Njo Zjo hZjo hownjo hSjo hkjo CRjo Pjo_0 Pjo_1 hu hr
    show Goes _ _ _ _ (Tjo.setTop (mkF m 376 #[.val (.int p0), .val (.int p1), .val (.int p2), .val (.int p3), .val (.int p4), .val (.int p5), .val (.int (p0 &&& (3 : Int32))), .val (.ref xq), .val (.int (p1 &&& (3 : Int32))), .val (.int (Int32.ofNat len)), .val (.int fl), .val (.ref b1), uS] []))
    refine Goes.st (fun sT kT => XS.iload Xjo.here hx rfl (hb hby at_376) rfl kT) ?_
    show Goes _ _ _ _ (Tjo.setTop (mkF m 378 #[.val (.int p0), .val (.int p1), .val (.int p2), .val (.int p3), .val (.int p4), .val (.int p5), .val (.int (p0 &&& (3 : Int32))), .val (.ref xq), .val (.int (p1 &&& (3 : Int32))), .val (.int (Int32.ofNat len)), .val (.int fl), .val (.ref b1), uS] [(.int p5)]))
    refine Goes.st (fun sT kT => XS.iconst Xjo.here hx rfl (hb hby at_378) kT) ?_
    show Goes _ _ _ _ (Tjo.setTop (mkF m 379 #[.val (.int p0), .val (.int p1), .val (.int p2), .val (.int p3), .val (.int p4), .val (.int p5), .val (.int (p0 &&& (3 : Int32))), .val (.ref xq), .val (.int (p1 &&& (3 : Int32))), .val (.int (Int32.ofNat len)), .val (.int fl), .val (.ref b1), uS] [(.int (1 : Int32)), (.int p5)]))
    refine Goes.st (fun sT kT => XS.iand Xjo.here hx rfl (hb hby at_379) rfl kT) ?_
    show Goes _ _ _ _ (Tjo.setTop (mkF m 380 #[.val (.int p0), .val (.int p1), .val (.int p2), .val (.int p3), .val (.int p4), .val (.int p5), .val (.int (p0 &&& (3 : Int32))), .val (.ref xq), .val (.int (p1 &&& (3 : Int32))), .val (.int (Int32.ofNat len)), .val (.int fl), .val (.ref b1), uS] [(.int (p5 &&& (1 : Int32)))]))
    by_cases cz32 : (p5 &&& (1 : Int32)) = (0 : Int32)
    case pos =>
     refine Goes.st (fun sT kT => XS.ifYes Xjo.here hx rfl (pc0 := 380) (pc' := 405) rfl (hb hby at_380) rfl ((if0 _ _).trans (teq cz32).1) (by decide) (by decide) kT) ?_
     show Goes _ _ _ _ (Tjo.setTop (mkF m 405 #[.val (.int p0), .val (.int p1), .val (.int p2), .val (.int p3), .val (.int p4), .val (.int p5), .val (.int (p0 &&& (3 : Int32))), .val (.ref xq), .val (.int (p1 &&& (3 : Int32))), .val (.int (Int32.ofNat len)), .val (.int fl), .val (.ref b1), uS] []))
     exact Jjp Tjo hjo _ vmjo _ us (Xjo.more (by decide) (by decide)) ejo Njo Zjo hZjo hownjo hSjo hkjo CRjo Pjo_0 Pjo_1 hu hr
    case neg =>
     refine Goes.st (fun sT kT => XS.ifNo Xjo.here hx rfl (hb hby at_380) rfl ((if0 _ _).trans (feq cz32).1) kT) ?_
     show Goes _ _ _ _ (Tjo.setTop (mkF m 383 #[.val (.int p0), .val (.int p1), .val (.int p2), .val (.int p3), .val (.int p4), .val (.int p5), .val (.int (p0 &&& (3 : Int32))), .val (.ref xq), .val (.int (p1 &&& (3 : Int32))), .val (.int (Int32.ofNat len)), .val (.int fl), .val (.ref b1), uS] []))
     refine Goes.st (fun sT kT => XS.iload Xjo.here hx rfl (hb hby at_383) rfl kT) ?_
     show Goes _ _ _ _ (Tjo.setTop (mkF m 385 #[.val (.int p0), .val (.int p1), .val (.int p2), .val (.int p3), .val (.int p4), .val (.int p5), .val (.int (p0 &&& (3 : Int32))), .val (.ref xq), .val (.int (p1 &&& (3 : Int32))), .val (.int (Int32.ofNat len)), .val (.int fl), .val (.ref b1), uS] [(.int (Int32.ofNat len))]))
     by_cases cz33 : (0 : Int32) < (Int32.ofNat len)
     case pos =>
      refine Goes.st (fun sT kT => XS.ifNo Xjo.here hx rfl (hb hby at_385) rfl ((if0 _ _).trans (tlt cz33).2.2.2) kT) ?_
      show Goes _ _ _ _ (Tjo.setTop (mkF m 388 #[.val (.int p0), .val (.int p1), .val (.int p2), .val (.int p3), .val (.int p4), .val (.int p5), .val (.int (p0 &&& (3 : Int32))), .val (.ref xq), .val (.int (p1 &&& (3 : Int32))), .val (.int (Int32.ofNat len)), .val (.int fl), .val (.ref b1), uS] []))
      refine Goes.st (fun sT kT => XS.aload Xjo.here hx rfl (hb hby at_388) rfl rfl kT) ?_
      show Goes _ _ _ _ (Tjo.setTop (mkF m 390 #[.val (.int p0), .val (.int p1), .val (.int p2), .val (.int p3), .val (.int p4), .val (.int p5), .val (.int (p0 &&& (3 : Int32))), .val (.ref xq), .val (.int (p1 &&& (3 : Int32))), .val (.int (Int32.ofNat len)), .val (.int fl), .val (.ref b1), uS] [(.ref b1)]))
      refine Goes.st (fun sT kT => XS.iloadN Xjo.here hx rfl (hb hby at_390) rfl kT) ?_
      show Goes _ _ _ _ (Tjo.setTop (mkF m 391 #[.val (.int p0), .val (.int p1), .val (.int p2), .val (.int p3), .val (.int p4), .val (.int p5), .val (.int (p0 &&& (3 : Int32))), .val (.ref xq), .val (.int (p1 &&& (3 : Int32))), .val (.int (Int32.ofNat len)), .val (.int fl), .val (.ref b1), uS] [(.int p3), (.ref b1)]))
      refine Goes.st (fun sT kT => Xjo.ldcInt hx hownjo (mvT hZjo (hw99 hw)) (g := (mkF m 391 #[.val (.int p0), .val (.int p1), .val (.int p2), .val (.int p3), .val (.int p4), .val (.int p5), .val (.int (p0 &&& (3 : Int32))), .val (.ref xq), .val (.int (p1 &&& (3 : Int32))), .val (.int (Int32.ofNat len)), .val (.int fl), .val (.ref b1), uS] [(.int p3), (.ref b1)])) rfl (hb hby at_391) _ kT) ?_
      show Goes _ _ _ _ (Tjo.setTop (mkF m 393 #[.val (.int p0), .val (.int p1), .val (.int p2), .val (.int p3), .val (.int p4), .val (.int p5), .val (.int (p0 &&& (3 : Int32))), .val (.ref xq), .val (.int (p1 &&& (3 : Int32))), .val (.int (Int32.ofNat len)), .val (.int fl), .val (.ref b1), uS] [(.int (2147483647 : Int32)), (.int p3), (.ref b1)]))
      refine Goes.st (fun sT kT => XS.iand Xjo.here hx rfl (hb hby at_393) rfl kT) ?_
      show Goes _ _ _ _ (Tjo.setTop (mkF m 394 #[.val (.int p0), .val (.int p1), .val (.int p2), .val (.int p3), .val (.int p4), .val (.int p5), .val (.int (p0 &&& (3 : Int32))), .val (.ref xq), .val (.int (p1 &&& (3 : Int32))), .val (.int (Int32.ofNat len)), .val (.int fl), .val (.ref b1), uS] [(.int (p3 &&& (2147483647 : Int32))), (.ref b1)]))
      refine Goes.st (fun sT kT => XS.iload Xjo.here hx rfl (hb hby at_394) rfl kT) ?_
      show Goes _ _ _ _ (Tjo.setTop (mkF m 396 #[.val (.int p0), .val (.int p1), .val (.int p2), .val (.int p3), .val (.int p4), .val (.int p5), .val (.int (p0 &&& (3 : Int32))), .val (.ref xq), .val (.int (p1 &&& (3 : Int32))), .val (.int (Int32.ofNat len)), .val (.int fl), .val (.ref b1), uS] [(.int (Int32.ofNat len)), (.int (p3 &&& (2147483647 : Int32))), (.ref b1)]))
      refine Goes.st (fun sT kT => iremM (g := (mkF m 396 #[.val (.int p0), .val (.int p1), .val (.int p2), .val (.int p3), .val (.int p4), .val (.int p5), .val (.int (p0 &&& (3 : Int32))), .val (.ref xq), .val (.int (p1 &&& (3 : Int32))), .val (.int (Int32.ofNat len)), .val (.int fl), .val (.ref b1), uS] [(.int (Int32.ofNat len)), (.int (p3 &&& (2147483647 : Int32))), (.ref b1)])) Xjo hx rfl (hb hby at_396) rfl (own_pos cz33) kT) ?_
      show Goes _ _ _ _ (Tjo.setTop (mkF m 397 #[.val (.int p0), .val (.int p1), .val (.int p2), .val (.int p3), .val (.int p4), .val (.int p5), .val (.int (p0 &&& (3 : Int32))), .val (.ref xq), .val (.int (p1 &&& (3 : Int32))), .val (.int (Int32.ofNat len)), .val (.int fl), .val (.ref b1), uS] [(.int ((p3 &&& (2147483647 : Int32)) % (Int32.ofNat len))), (.ref b1)]))
      obtain ⟨ix, hix, hixe⟩ : ∃ i : Nat, i < len ∧ ((p3 &&& (2147483647 : Int32)) % (Int32.ofNat len)) = Int32.ofNat i := own_remlen p3 ((own_nlt (i := 0) (n := len) (by decide) (own_l31 hlen)).mp cz33) hlen
      rw [hixe]
      show Goes _ _ _ _ (Tjo.setTop (mkF m 397 #[.val (.int p0), .val (.int p1), .val (.int p2), .val (.int p3), .val (.int p4), .val (.int p5), .val (.int (p0 &&& (3 : Int32))), .val (.ref xq), .val (.int (p1 &&& (3 : Int32))), .val (.int (Int32.ofNat len)), .val (.int fl), .val (.ref b1), uS] [(.int (Int32.ofNat ix)), (.ref b1)]))
      refine Goes.st (fun sT kT => XS.iload Xjo.here hx rfl (hb hby at_397) rfl kT) ?_
      show Goes _ _ _ _ (Tjo.setTop (mkF m 399 #[.val (.int p0), .val (.int p1), .val (.int p2), .val (.int p3), .val (.int p4), .val (.int p5), .val (.int (p0 &&& (3 : Int32))), .val (.ref xq), .val (.int (p1 &&& (3 : Int32))), .val (.int (Int32.ofNat len)), .val (.int fl), .val (.ref b1), uS] [(.int p4), (.int (Int32.ofNat ix)), (.ref b1)]))
      refine Goes.st (fun sT kT => XS.sipush Xjo.here hx rfl (hb hby at_399) kT) ?_
      show Goes _ _ _ _ (Tjo.setTop (mkF m 402 #[.val (.int p0), .val (.int p1), .val (.int p2), .val (.int p3), .val (.int p4), .val (.int p5), .val (.int (p0 &&& (3 : Int32))), .val (.ref xq), .val (.int (p1 &&& (3 : Int32))), .val (.int (Int32.ofNat len)), .val (.int fl), .val (.ref b1), uS] [(.int (255 : Int32)), (.int p4), (.int (Int32.ofNat ix)), (.ref b1)]))
      refine Goes.st (fun sT kT => XS.iand Xjo.here hx rfl (hb hby at_402) rfl kT) ?_
      show Goes _ _ _ _ (Tjo.setTop (mkF m 403 #[.val (.int p0), .val (.int p1), .val (.int p2), .val (.int p3), .val (.int p4), .val (.int p5), .val (.int (p0 &&& (3 : Int32))), .val (.ref xq), .val (.int (p1 &&& (3 : Int32))), .val (.int (Int32.ofNat len)), .val (.int fl), .val (.ref b1), uS] [(.int (p4 &&& (255 : Int32))), (.int (Int32.ofNat ix)), (.ref b1)]))
      refine Goes.st (fun sT kT => XS.i2c Xjo.here hx rfl (hb hby at_403) rfl kT) ?_
      show Goes _ _ _ _ (Tjo.setTop (mkF m 404 #[.val (.int p0), .val (.int p1), .val (.int p2), .val (.int p3), .val (.int p4), .val (.int p5), .val (.int (p0 &&& (3 : Int32))), .val (.ref xq), .val (.int (p1 &&& (3 : Int32))), .val (.int (Int32.ofNat len)), .val (.int fl), .val (.ref b1), uS] [(.int ((p4 &&& (255 : Int32)).toUInt32.toUInt16.toUInt32.toInt32)), (.int (Int32.ofNat ix)), (.ref b1)]))
      obtain ⟨oc34, oA34, oq34, oS34, oM34, oH34, oG34⟩ := id Pjo_0
      obtain ⟨T35, h35, X35, e35, W35, st35⟩ := stC Xjo hx hZjo ejo oA34 (j := (Int32.ofNat ix)) (inb_of oS34 (own_ib (own_l31 hlen) hix)) (g := (mkF m 404 #[.val (.int p0), .val (.int p1), .val (.int p2), .val (.int p3), .val (.int p4), .val (.int p5), .val (.int (p0 &&& (3 : Int32))), .val (.ref xq), .val (.int (p1 &&& (3 : Int32))), .val (.int (Int32.ofNat len)), .val (.int fl), .val (.ref b1), uS] [(.int ((p4 &&& (255 : Int32)).toUInt32.toUInt16.toUInt32.toInt32)), (.int (Int32.ofNat ix)), (.ref b1)])) rfl rfl (hb hby at_404)
      have V35 : Arv Z h35 b1 k1 .char (Int32.ofNat len) ((us.set ix (nar .char ((p4 &&& (255 : Int32)).toUInt32.toUInt16.toUInt32.toInt32))).map Value.int) (.int (0 : Int32)) := own_ms _ _ _ ▸ Arv.set oA34 oq34 oS34 oM34 oH34 oG34 (fits_nar_char _) W35 (ix) (own_nclamp (Nat.lt_trans hix (own_l31 hlen))) (by rw [List.length_map, hu]; exact hix)
      have N35 := Fr.snoc X35 Njo nb
      have CR36 : CHr Z EL s.vm h0 vmjo h35 := CRjo.trans (CHr.wr W35 (own_safeArv hZjo.alike Pjo_0 (by simp)) CRjo.1)
      refine Goes.st st35 ?_
      show Goes _ _ _ _ (T35.setTop (mkF m 405 #[.val (.int p0), .val (.int p1), .val (.int p2), .val (.int p3), .val (.int p4), .val (.int p5), .val (.int (p0 &&& (3 : Int32))), .val (.ref xq), .val (.int (p1 &&& (3 : Int32))), .val (.int (Int32.ofNat len)), .val (.int fl), .val (.ref b1), uS] []))
      have f37 : Old Z n0 h35 := (Pjo_1.wr W35 nb)
      exact Jjp T35 h35 _ vmjo _ (us.set ix (nar .char ((p4 &&& (255 : Int32)).toUInt32.toUInt16.toUInt32.toInt32))) (X35.more (by decide) (by decide)) e35 N35 (Nat.le_trans Zjo (Nat.le_of_eq W35.size.symm)) hZjo hownjo hSjo (Nat.le_trans hkjo (Nat.le_of_eq W35.size.symm)) CR36 V35 f37 (by rw [List.length_set]; exact hu) (own_rset hr (own_and255 p4))
     case neg =>
      refine Goes.st (fun sT kT => XS.ifYes Xjo.here hx rfl (pc0 := 385) (pc' := 405) rfl (hb hby at_385) rfl ((if0 _ _).trans (flt cz33).2.2.2) (by decide) (by decide) kT) ?_
      show Goes _ _ _ _ (Tjo.setTop (mkF m 405 #[.val (.int p0), .val (.int p1), .val (.int p2), .val (.int p3), .val (.int p4), .val (.int p5), .val (.int (p0 &&& (3 : Int32))), .val (.ref xq), .val (.int (p1 &&& (3 : Int32))), .val (.int (Int32.ofNat len)), .val (.int fl), .val (.ref b1), uS] []))
      exact Jjp Tjo hjo _ vmjo _ us (Xjo.more (by decide) (by decide)) ejo Njo Zjo hZjo hownjo hSjo hkjo CRjo Pjo_0 Pjo_1 hu hr
   show Goes _ _ _ _ (T1.setTop (mkF m 122 #[.val (.int p0), .val (.int p1), .val (.int p2), .val (.int p3), .val (.int p4), .val (.int p5), .val (.int (p0 &&& (3 : Int32))), .val (.ref xq), .val (.int (p1 &&& (3 : Int32))), .val (.int (Int32.ofNat len)), .val (.int fl), .val (.ref b1), uS] []))
   have Jjn : ∀ (Tjn : State) (hjn : Heap) (Ljn : List Loc) (vmjn : Vm) (kjn : Nat) (us : List Int32), Stand p l e room_1 (s.setVm vmjn) m #[(.int p0), (.int p1), (.int p2), (.int p3), (.int p4), (.int p5)] below meth c Tjn Ljn 3 65 → Tjn.heap = hjn → Fr n0 Ljn → n0 ≤ hjn.size → Z.Warmed39 vmjn → vmjn.findClass "com/example/sillon/sillon/siri/GeneralMessageChannelNamedPinLaw" = some m.cls → s.Since vmjn kjn → kjn ≤ hjn.size → CHr Z EL s.vm h0 vmjn hjn → Arv Z hjn b1 k1 .char (Int32.ofNat len) (us.map Value.int) (.int (0 : Int32)) → Old Z n0 hjn → Str Z hjn xq tq kq ts → us.length = len → (∀ c ∈ us, ¬ c < 0 ∧ ¬ (255 : Int32) < c) → Goes p.tables e below QQ (Tjn.setTop (mkF m 355 #[.val (.int p0), .val (.int p1), .val (.int p2), .val (.int p3), .val (.int p4), .val (.int p5), .val (.int (p0 &&& (3 : Int32))), .val (.ref xq), .val (.int (p1 &&& (3 : Int32))), .val (.int (Int32.ofNat len)), .val (.int fl), .val (.ref b1), uS] [])) := by
    intro Tjn hjn Ljn vmjn kjn us Xjn ejn Njn Zjn hZjn hownjn hSjn hkjn CRjn Pjn_0 Pjn_1 Pjn_2 hu hr
    show Goes _ _ _ _ (Tjn.setTop (mkF m 355 #[.val (.int p0), .val (.int p1), .val (.int p2), .val (.int p3), .val (.int p4), .val (.int p5), .val (.int (p0 &&& (3 : Int32))), .val (.ref xq), .val (.int (p1 &&& (3 : Int32))), .val (.int (Int32.ofNat len)), .val (.int fl), .val (.ref b1), uS] []))
    refine Goes.st (fun sT kT => XS.iload Xjn.here hx rfl (hb hby at_355) rfl kT) ?_
    show Goes _ _ _ _ (Tjn.setTop (mkF m 357 #[.val (.int p0), .val (.int p1), .val (.int p2), .val (.int p3), .val (.int p4), .val (.int p5), .val (.int (p0 &&& (3 : Int32))), .val (.ref xq), .val (.int (p1 &&& (3 : Int32))), .val (.int (Int32.ofNat len)), .val (.int fl), .val (.ref b1), uS] [(.int (Int32.ofNat len))]))
    refine Goes.st (fun sT kT => XS.bipush Xjn.here hx rfl (hb hby at_357) kT) ?_
    show Goes _ _ _ _ (Tjn.setTop (mkF m 359 #[.val (.int p0), .val (.int p1), .val (.int p2), .val (.int p3), .val (.int p4), .val (.int p5), .val (.int (p0 &&& (3 : Int32))), .val (.ref xq), .val (.int (p1 &&& (3 : Int32))), .val (.int (Int32.ofNat len)), .val (.int fl), .val (.ref b1), uS] [(.int (12 : Int32)), (.int (Int32.ofNat len))]))
    by_cases cz38 : (12 : Int32) < (Int32.ofNat len)
    case pos =>
     refine Goes.st (fun sT kT => XS.icmpNo Xjn.here hx rfl (hb hby at_359) rfl (tlt cz38).2.2.2 kT) ?_
     show Goes _ _ _ _ (Tjn.setTop (mkF m 362 #[.val (.int p0), .val (.int p1), .val (.int p2), .val (.int p3), .val (.int p4), .val (.int p5), .val (.int (p0 &&& (3 : Int32))), .val (.ref xq), .val (.int (p1 &&& (3 : Int32))), .val (.int (Int32.ofNat len)), .val (.int fl), .val (.ref b1), uS] []))
     refine Goes.st (fun sT kT => XS.aload Xjn.here hx rfl (hb hby at_362) rfl rfl kT) ?_
     show Goes _ _ _ _ (Tjn.setTop (mkF m 364 #[.val (.int p0), .val (.int p1), .val (.int p2), .val (.int p3), .val (.int p4), .val (.int p5), .val (.int (p0 &&& (3 : Int32))), .val (.ref xq), .val (.int (p1 &&& (3 : Int32))), .val (.int (Int32.ofNat len)), .val (.int fl), .val (.ref b1), uS] [(.ref b1)]))
     refine Goes.st (fun sT kT => XS.bipush Xjn.here hx rfl (hb hby at_364) kT) ?_
     show Goes _ _ _ _ (Tjn.setTop (mkF m 366 #[.val (.int p0), .val (.int p1), .val (.int p2), .val (.int p3), .val (.int p4), .val (.int p5), .val (.int (p0 &&& (3 : Int32))), .val (.ref xq), .val (.int (p1 &&& (3 : Int32))), .val (.int (Int32.ofNat len)), .val (.int fl), .val (.ref b1), uS] [(.int (12 : Int32)), (.ref b1)]))
     refine Goes.st (fun sT kT => XS.aload Xjn.here hx rfl (hb hby at_366) rfl rfl kT) ?_
     show Goes _ _ _ _ (Tjn.setTop (mkF m 368 #[.val (.int p0), .val (.int p1), .val (.int p2), .val (.int p3), .val (.int p4), .val (.int p5), .val (.int (p0 &&& (3 : Int32))), .val (.ref xq), .val (.int (p1 &&& (3 : Int32))), .val (.int (Int32.ofNat len)), .val (.int fl), .val (.ref b1), uS] [(.ref xq), (.int (12 : Int32)), (.ref b1)]))
     refine Goes.st (fun sT kT => XS.bipush Xjn.here hx rfl (hb hby at_368) kT) ?_
     show Goes _ _ _ _ (Tjn.setTop (mkF m 370 #[.val (.int p0), .val (.int p1), .val (.int p2), .val (.int p3), .val (.int p4), .val (.int p5), .val (.int (p0 &&& (3 : Int32))), .val (.ref xq), .val (.int (p1 &&& (3 : Int32))), .val (.int (Int32.ofNat len)), .val (.int fl), .val (.ref b1), uS] [(.int (12 : Int32)), (.ref xq), (.int (12 : Int32)), (.ref b1)]))
     refine Goes.st (fun sT kT => XS.iload Xjn.here hx rfl (hb hby at_370) rfl kT) ?_
     show Goes _ _ _ _ (Tjn.setTop (mkF m 372 #[.val (.int p0), .val (.int p1), .val (.int p2), .val (.int p3), .val (.int p4), .val (.int p5), .val (.int (p0 &&& (3 : Int32))), .val (.ref xq), .val (.int (p1 &&& (3 : Int32))), .val (.int (Int32.ofNat len)), .val (.int fl), .val (.ref b1), uS] [(.int fl), (.int (12 : Int32)), (.ref xq), (.int (12 : Int32)), (.ref b1)]))
     obtain ⟨_, _, ⟨T39, L39, k39, n39⟩, -, X39, ⟨Lc39, hQ39, l39, y39, z39⟩, st39⟩ := Jvm.LawKit.callS Xjn hx (y := (⟨"com/example/sillon/sillon/siri/GeneralMessageChannelNamedPinLaw", "at", "(Ljava/lang/String;II)C"⟩ : MethodName)) hownjn (mvT hZjn (hw55 hw)) (mvT hZjn (hw56 hw)) (mvT hZjn (hw40 hw)) (mvT hZjn (hw57 hw)) (by decide) (backOf (W := 2) (rm_att l Z a0 hw [] xq tq kq ts 12 fl G1 vF hjn n0 Zjn Pjn_2 Pjn_1 (by decide) rg_fl O2 P5 OF rF) hZjn (hw57 hw) (hw40 hw) (by decide) (by decide)) (g := (mkF m 372 #[.val (.int p0), .val (.int p1), .val (.int p2), .val (.int p3), .val (.int p4), .val (.int p5), .val (.int (p0 &&& (3 : Int32))), .val (.ref xq), .val (.int (p1 &&& (3 : Int32))), .val (.int (Int32.ofNat len)), .val (.int fl), .val (.ref b1), uS] [(.int fl), (.int (12 : Int32)), (.ref xq), (.int (12 : Int32)), (.ref b1)])) rfl (by rw [hml]; rfl) (argsL := [(.ref xq), (.int (12 : Int32)), (.int fl)]) (rest := [(.int (12 : Int32)), (.ref b1)]) (lenOf pd_7 rfl) rfl (by show 2 * 0 + _ ≤ _; exact Nat.le_of_eq rfl) (hb hby at_372) (fun _ _ => ⟨rfl, ejn, (by decide : 3 + 0 ≤ _), (by decide : 65 + 0 ≤ _)⟩)
     dsimp only [Pt.U, Pt.locs, Pt.cells, Pt.slots] at X39 l39 y39 z39 st39 hQ39
     subst l39 y39 z39
     obtain ⟨cc39, rfl, N39q, K39, rg_39⟩ := hQ39
     have N39 := Fr.app Njn N39q
     refine Goes.st st39 ?_
     show Goes _ _ _ _ (T39.setTop (mkF m 375 #[.val (.int p0), .val (.int p1), .val (.int p2), .val (.int p3), .val (.int p4), .val (.int p5), .val (.int (p0 &&& (3 : Int32))), .val (.ref xq), .val (.int (p1 &&& (3 : Int32))), .val (.int (Int32.ofNat len)), .val (.int fl), .val (.ref b1), uS] [(.int cc39), (.int (12 : Int32)), (.ref b1)]))
     obtain ⟨oc40, oA40, oq40, oS40, oM40, oH40, oG40⟩ := id Pjn_0
     obtain ⟨T41, h41, X41, e41, W41, st41⟩ := stC X39 hx hZjn K39 oA40 (j := (12 : Int32)) (inb_of oS40 ⟨by decide, cz38⟩) (g := (mkF m 375 #[.val (.int p0), .val (.int p1), .val (.int p2), .val (.int p3), .val (.int p4), .val (.int p5), .val (.int (p0 &&& (3 : Int32))), .val (.ref xq), .val (.int (p1 &&& (3 : Int32))), .val (.int (Int32.ofNat len)), .val (.int fl), .val (.ref b1), uS] [(.int cc39), (.int (12 : Int32)), (.ref b1)])) rfl rfl (hb hby at_375)
     rw [own_narc rg_39] at W41
     have V41 : Arv Z h41 b1 k1 .char (Int32.ofNat len) ((us.set 12 cc39).map Value.int) (.int (0 : Int32)) := own_ms _ _ _ ▸ Arv.set oA40 oq40 oS40 oM40 oH40 oG40 (own_fitsc rg_39) W41 (12) rfl (by rw [List.length_map, hu]; exact ((own_nlt (i := 12) (n := len) (by decide) (own_l31 hlen)).mp cz38))
     have N41 := Fr.snoc X41 N39 nb
     have CR42 : CHr Z EL s.vm h0 vmjn h41 := CRjn.trans (CHr.wr W41 (own_safeArv hZjn.alike Pjn_0 (by simp)) CRjn.1)
     refine Goes.st st41 ?_
     show Goes _ _ _ _ (T41.setTop (mkF m 376 #[.val (.int p0), .val (.int p1), .val (.int p2), .val (.int p3), .val (.int p4), .val (.int p5), .val (.int (p0 &&& (3 : Int32))), .val (.ref xq), .val (.int (p1 &&& (3 : Int32))), .val (.int (Int32.ofNat len)), .val (.int fl), .val (.ref b1), uS] []))
     have f43 : Old Z n0 h41 := (Pjn_1.wr W41 nb)
     exact Jjo T41 h41 _ vmjn _ (us.set 12 cc39) (X41.more (by decide) (by decide)) e41 N41 (Nat.le_trans Zjn (Nat.le_of_eq W41.size.symm)) hZjn hownjn hSjn (Nat.le_trans hkjn (Nat.le_of_eq W41.size.symm)) CR42 V41 f43 (by rw [List.length_set]; exact hu) (own_rset hr rg_39)
    case neg =>
     refine Goes.st (fun sT kT => XS.icmpYes Xjn.here hx rfl (pc0 := 359) (pc' := 376) rfl (hb hby at_359) rfl (flt cz38).2.2.2 (by decide) (by decide) kT) ?_
     show Goes _ _ _ _ (Tjn.setTop (mkF m 376 #[.val (.int p0), .val (.int p1), .val (.int p2), .val (.int p3), .val (.int p4), .val (.int p5), .val (.int (p0 &&& (3 : Int32))), .val (.ref xq), .val (.int (p1 &&& (3 : Int32))), .val (.int (Int32.ofNat len)), .val (.int fl), .val (.ref b1), uS] []))
     exact Jjo Tjn hjn _ vmjn _ us (Xjn.more (by decide) (by decide)) ejn Njn Zjn hZjn hownjn hSjn hkjn CRjn Pjn_0 Pjn_1 hu hr
   show Goes _ _ _ _ (T1.setTop (mkF m 122 #[.val (.int p0), .val (.int p1), .val (.int p2), .val (.int p3), .val (.int p4), .val (.int p5), .val (.int (p0 &&& (3 : Int32))), .val (.ref xq), .val (.int (p1 &&& (3 : Int32))), .val (.int (Int32.ofNat len)), .val (.int fl), .val (.ref b1), uS] []))
   have Jjm : ∀ (Tjm : State) (hjm : Heap) (Ljm : List Loc) (vmjm : Vm) (kjm : Nat) (us : List Int32), Stand p l e room_1 (s.setVm vmjm) m #[(.int p0), (.int p1), (.int p2), (.int p3), (.int p4), (.int p5)] below meth c Tjm Ljm 3 65 → Tjm.heap = hjm → Fr n0 Ljm → n0 ≤ hjm.size → Z.Warmed39 vmjm → vmjm.findClass "com/example/sillon/sillon/siri/GeneralMessageChannelNamedPinLaw" = some m.cls → s.Since vmjm kjm → kjm ≤ hjm.size → CHr Z EL s.vm h0 vmjm hjm → Arv Z hjm b1 k1 .char (Int32.ofNat len) (us.map Value.int) (.int (0 : Int32)) → Old Z n0 hjm → Str Z hjm xq tq kq ts → us.length = len → (∀ c ∈ us, ¬ c < 0 ∧ ¬ (255 : Int32) < c) → Goes p.tables e below QQ (Tjm.setTop (mkF m 334 #[.val (.int p0), .val (.int p1), .val (.int p2), .val (.int p3), .val (.int p4), .val (.int p5), .val (.int (p0 &&& (3 : Int32))), .val (.ref xq), .val (.int (p1 &&& (3 : Int32))), .val (.int (Int32.ofNat len)), .val (.int fl), .val (.ref b1), uS] [])) := by
    intro Tjm hjm Ljm vmjm kjm us Xjm ejm Njm Zjm hZjm hownjm hSjm hkjm CRjm Pjm_0 Pjm_1 Pjm_2 hu hr
    show Goes _ _ _ _ (Tjm.setTop (mkF m 334 #[.val (.int p0), .val (.int p1), .val (.int p2), .val (.int p3), .val (.int p4), .val (.int p5), .val (.int (p0 &&& (3 : Int32))), .val (.ref xq), .val (.int (p1 &&& (3 : Int32))), .val (.int (Int32.ofNat len)), .val (.int fl), .val (.ref b1), uS] []))
    refine Goes.st (fun sT kT => XS.iload Xjm.here hx rfl (hb hby at_334) rfl kT) ?_
    show Goes _ _ _ _ (Tjm.setTop (mkF m 336 #[.val (.int p0), .val (.int p1), .val (.int p2), .val (.int p3), .val (.int p4), .val (.int p5), .val (.int (p0 &&& (3 : Int32))), .val (.ref xq), .val (.int (p1 &&& (3 : Int32))), .val (.int (Int32.ofNat len)), .val (.int fl), .val (.ref b1), uS] [(.int (Int32.ofNat len))]))
    refine Goes.st (fun sT kT => XS.bipush Xjm.here hx rfl (hb hby at_336) kT) ?_
    show Goes _ _ _ _ (Tjm.setTop (mkF m 338 #[.val (.int p0), .val (.int p1), .val (.int p2), .val (.int p3), .val (.int p4), .val (.int p5), .val (.int (p0 &&& (3 : Int32))), .val (.ref xq), .val (.int (p1 &&& (3 : Int32))), .val (.int (Int32.ofNat len)), .val (.int fl), .val (.ref b1), uS] [(.int (11 : Int32)), (.int (Int32.ofNat len))]))
    by_cases cz44 : (11 : Int32) < (Int32.ofNat len)
    case pos =>
     refine Goes.st (fun sT kT => XS.icmpNo Xjm.here hx rfl (hb hby at_338) rfl (tlt cz44).2.2.2 kT) ?_
     show Goes _ _ _ _ (Tjm.setTop (mkF m 341 #[.val (.int p0), .val (.int p1), .val (.int p2), .val (.int p3), .val (.int p4), .val (.int p5), .val (.int (p0 &&& (3 : Int32))), .val (.ref xq), .val (.int (p1 &&& (3 : Int32))), .val (.int (Int32.ofNat len)), .val (.int fl), .val (.ref b1), uS] []))
     refine Goes.st (fun sT kT => XS.aload Xjm.here hx rfl (hb hby at_341) rfl rfl kT) ?_
     show Goes _ _ _ _ (Tjm.setTop (mkF m 343 #[.val (.int p0), .val (.int p1), .val (.int p2), .val (.int p3), .val (.int p4), .val (.int p5), .val (.int (p0 &&& (3 : Int32))), .val (.ref xq), .val (.int (p1 &&& (3 : Int32))), .val (.int (Int32.ofNat len)), .val (.int fl), .val (.ref b1), uS] [(.ref b1)]))
     refine Goes.st (fun sT kT => XS.bipush Xjm.here hx rfl (hb hby at_343) kT) ?_
     show Goes _ _ _ _ (Tjm.setTop (mkF m 345 #[.val (.int p0), .val (.int p1), .val (.int p2), .val (.int p3), .val (.int p4), .val (.int p5), .val (.int (p0 &&& (3 : Int32))), .val (.ref xq), .val (.int (p1 &&& (3 : Int32))), .val (.int (Int32.ofNat len)), .val (.int fl), .val (.ref b1), uS] [(.int (11 : Int32)), (.ref b1)]))
     refine Goes.st (fun sT kT => XS.aload Xjm.here hx rfl (hb hby at_345) rfl rfl kT) ?_
     show Goes _ _ _ _ (Tjm.setTop (mkF m 347 #[.val (.int p0), .val (.int p1), .val (.int p2), .val (.int p3), .val (.int p4), .val (.int p5), .val (.int (p0 &&& (3 : Int32))), .val (.ref xq), .val (.int (p1 &&& (3 : Int32))), .val (.int (Int32.ofNat len)), .val (.int fl), .val (.ref b1), uS] [(.ref xq), (.int (11 : Int32)), (.ref b1)]))
     refine Goes.st (fun sT kT => XS.bipush Xjm.here hx rfl (hb hby at_347) kT) ?_
     show Goes _ _ _ _ (Tjm.setTop (mkF m 349 #[.val (.int p0), .val (.int p1), .val (.int p2), .val (.int p3), .val (.int p4), .val (.int p5), .val (.int (p0 &&& (3 : Int32))), .val (.ref xq), .val (.int (p1 &&& (3 : Int32))), .val (.int (Int32.ofNat len)), .val (.int fl), .val (.ref b1), uS] [(.int (11 : Int32)), (.ref xq), (.int (11 : Int32)), (.ref b1)]))
     refine Goes.st (fun sT kT => XS.iload Xjm.here hx rfl (hb hby at_349) rfl kT) ?_
     show Goes _ _ _ _ (Tjm.setTop (mkF m 351 #[.val (.int p0), .val (.int p1), .val (.int p2), .val (.int p3), .val (.int p4), .val (.int p5), .val (.int (p0 &&& (3 : Int32))), .val (.ref xq), .val (.int (p1 &&& (3 : Int32))), .val (.int (Int32.ofNat len)), .val (.int fl), .val (.ref b1), uS] [(.int fl), (.int (11 : Int32)), (.ref xq), (.int (11 : Int32)), (.ref b1)]))
     obtain ⟨_, _, ⟨T45, L45, k45, n45⟩, -, X45, ⟨Lc45, hQ45, l45, y45, z45⟩, st45⟩ := Jvm.LawKit.callS Xjm hx (y := (⟨"com/example/sillon/sillon/siri/GeneralMessageChannelNamedPinLaw", "at", "(Ljava/lang/String;II)C"⟩ : MethodName)) hownjm (mvT hZjm (hw55 hw)) (mvT hZjm (hw56 hw)) (mvT hZjm (hw40 hw)) (mvT hZjm (hw57 hw)) (by decide) (backOf (W := 2) (rm_att l Z a0 hw [] xq tq kq ts 11 fl G1 vF hjm n0 Zjm Pjm_2 Pjm_1 (by decide) rg_fl O2 P5 OF rF) hZjm (hw57 hw) (hw40 hw) (by decide) (by decide)) (g := (mkF m 351 #[.val (.int p0), .val (.int p1), .val (.int p2), .val (.int p3), .val (.int p4), .val (.int p5), .val (.int (p0 &&& (3 : Int32))), .val (.ref xq), .val (.int (p1 &&& (3 : Int32))), .val (.int (Int32.ofNat len)), .val (.int fl), .val (.ref b1), uS] [(.int fl), (.int (11 : Int32)), (.ref xq), (.int (11 : Int32)), (.ref b1)])) rfl (by rw [hml]; rfl) (argsL := [(.ref xq), (.int (11 : Int32)), (.int fl)]) (rest := [(.int (11 : Int32)), (.ref b1)]) (lenOf pd_7 rfl) rfl (by show 2 * 0 + _ ≤ _; exact Nat.le_of_eq rfl) (hb hby at_351) (fun _ _ => ⟨rfl, ejm, (by decide : 3 + 0 ≤ _), (by decide : 65 + 0 ≤ _)⟩)
     dsimp only [Pt.U, Pt.locs, Pt.cells, Pt.slots] at X45 l45 y45 z45 st45 hQ45
     subst l45 y45 z45
     obtain ⟨cc45, rfl, N45q, K45, rg_45⟩ := hQ45
     have N45 := Fr.app Njm N45q
     refine Goes.st st45 ?_
     show Goes _ _ _ _ (T45.setTop (mkF m 354 #[.val (.int p0), .val (.int p1), .val (.int p2), .val (.int p3), .val (.int p4), .val (.int p5), .val (.int (p0 &&& (3 : Int32))), .val (.ref xq), .val (.int (p1 &&& (3 : Int32))), .val (.int (Int32.ofNat len)), .val (.int fl), .val (.ref b1), uS] [(.int cc45), (.int (11 : Int32)), (.ref b1)]))
     obtain ⟨oc46, oA46, oq46, oS46, oM46, oH46, oG46⟩ := id Pjm_0
     obtain ⟨T47, h47, X47, e47, W47, st47⟩ := stC X45 hx hZjm K45 oA46 (j := (11 : Int32)) (inb_of oS46 ⟨by decide, cz44⟩) (g := (mkF m 354 #[.val (.int p0), .val (.int p1), .val (.int p2), .val (.int p3), .val (.int p4), .val (.int p5), .val (.int (p0 &&& (3 : Int32))), .val (.ref xq), .val (.int (p1 &&& (3 : Int32))), .val (.int (Int32.ofNat len)), .val (.int fl), .val (.ref b1), uS] [(.int cc45), (.int (11 : Int32)), (.ref b1)])) rfl rfl (hb hby at_354)
     rw [own_narc rg_45] at W47
     have V47 : Arv Z h47 b1 k1 .char (Int32.ofNat len) ((us.set 11 cc45).map Value.int) (.int (0 : Int32)) := own_ms _ _ _ ▸ Arv.set oA46 oq46 oS46 oM46 oH46 oG46 (own_fitsc rg_45) W47 (11) rfl (by rw [List.length_map, hu]; exact ((own_nlt (i := 11) (n := len) (by decide) (own_l31 hlen)).mp cz44))
     have N47 := Fr.snoc X47 N45 nb
     have CR48 : CHr Z EL s.vm h0 vmjm h47 := CRjm.trans (CHr.wr W47 (own_safeArv hZjm.alike Pjm_0 (by simp)) CRjm.1)
     refine Goes.st st47 ?_
     show Goes _ _ _ _ (T47.setTop (mkF m 355 #[.val (.int p0), .val (.int p1), .val (.int p2), .val (.int p3), .val (.int p4), .val (.int p5), .val (.int (p0 &&& (3 : Int32))), .val (.ref xq), .val (.int (p1 &&& (3 : Int32))), .val (.int (Int32.ofNat len)), .val (.int fl), .val (.ref b1), uS] []))
     have f49 : Old Z n0 h47 := (Pjm_1.wr W47 nb)
     have f50 : Str Z h47 xq tq kq ts := (Pjm_2.other W47 nq nt)
     exact Jjn T47 h47 _ vmjm _ (us.set 11 cc45) (X47.more (by decide) (by decide)) e47 N47 (Nat.le_trans Zjm (Nat.le_of_eq W47.size.symm)) hZjm hownjm hSjm (Nat.le_trans hkjm (Nat.le_of_eq W47.size.symm)) CR48 V47 f49 f50 (by rw [List.length_set]; exact hu) (own_rset hr rg_45)
    case neg =>
     refine Goes.st (fun sT kT => XS.icmpYes Xjm.here hx rfl (pc0 := 338) (pc' := 355) rfl (hb hby at_338) rfl (flt cz44).2.2.2 (by decide) (by decide) kT) ?_
     show Goes _ _ _ _ (Tjm.setTop (mkF m 355 #[.val (.int p0), .val (.int p1), .val (.int p2), .val (.int p3), .val (.int p4), .val (.int p5), .val (.int (p0 &&& (3 : Int32))), .val (.ref xq), .val (.int (p1 &&& (3 : Int32))), .val (.int (Int32.ofNat len)), .val (.int fl), .val (.ref b1), uS] []))
     exact Jjn Tjm hjm _ vmjm _ us (Xjm.more (by decide) (by decide)) ejm Njm Zjm hZjm hownjm hSjm hkjm CRjm Pjm_0 Pjm_1 Pjm_2 hu hr
   show Goes _ _ _ _ (T1.setTop (mkF m 122 #[.val (.int p0), .val (.int p1), .val (.int p2), .val (.int p3), .val (.int p4), .val (.int p5), .val (.int (p0 &&& (3 : Int32))), .val (.ref xq), .val (.int (p1 &&& (3 : Int32))), .val (.int (Int32.ofNat len)), .val (.int fl), .val (.ref b1), uS] []))
   have Jjl : ∀ (Tjl : State) (hjl : Heap) (Ljl : List Loc) (vmjl : Vm) (kjl : Nat) (us : List Int32), Stand p l e room_1 (s.setVm vmjl) m #[(.int p0), (.int p1), (.int p2), (.int p3), (.int p4), (.int p5)] below meth c Tjl Ljl 3 65 → Tjl.heap = hjl → Fr n0 Ljl → n0 ≤ hjl.size → Z.Warmed39 vmjl → vmjl.findClass "com/example/sillon/sillon/siri/GeneralMessageChannelNamedPinLaw" = some m.cls → s.Since vmjl kjl → kjl ≤ hjl.size → CHr Z EL s.vm h0 vmjl hjl → Arv Z hjl b1 k1 .char (Int32.ofNat len) (us.map Value.int) (.int (0 : Int32)) → Old Z n0 hjl → Str Z hjl xq tq kq ts → us.length = len → (∀ c ∈ us, ¬ c < 0 ∧ ¬ (255 : Int32) < c) → Goes p.tables e below QQ (Tjl.setTop (mkF m 313 #[.val (.int p0), .val (.int p1), .val (.int p2), .val (.int p3), .val (.int p4), .val (.int p5), .val (.int (p0 &&& (3 : Int32))), .val (.ref xq), .val (.int (p1 &&& (3 : Int32))), .val (.int (Int32.ofNat len)), .val (.int fl), .val (.ref b1), uS] [])) := by
    intro Tjl hjl Ljl vmjl kjl us Xjl ejl Njl Zjl hZjl hownjl hSjl hkjl CRjl Pjl_0 Pjl_1 Pjl_2 hu hr
    show Goes _ _ _ _ (Tjl.setTop (mkF m 313 #[.val (.int p0), .val (.int p1), .val (.int p2), .val (.int p3), .val (.int p4), .val (.int p5), .val (.int (p0 &&& (3 : Int32))), .val (.ref xq), .val (.int (p1 &&& (3 : Int32))), .val (.int (Int32.ofNat len)), .val (.int fl), .val (.ref b1), uS] []))
    refine Goes.st (fun sT kT => XS.iload Xjl.here hx rfl (hb hby at_313) rfl kT) ?_
    show Goes _ _ _ _ (Tjl.setTop (mkF m 315 #[.val (.int p0), .val (.int p1), .val (.int p2), .val (.int p3), .val (.int p4), .val (.int p5), .val (.int (p0 &&& (3 : Int32))), .val (.ref xq), .val (.int (p1 &&& (3 : Int32))), .val (.int (Int32.ofNat len)), .val (.int fl), .val (.ref b1), uS] [(.int (Int32.ofNat len))]))
    refine Goes.st (fun sT kT => XS.bipush Xjl.here hx rfl (hb hby at_315) kT) ?_
    show Goes _ _ _ _ (Tjl.setTop (mkF m 317 #[.val (.int p0), .val (.int p1), .val (.int p2), .val (.int p3), .val (.int p4), .val (.int p5), .val (.int (p0 &&& (3 : Int32))), .val (.ref xq), .val (.int (p1 &&& (3 : Int32))), .val (.int (Int32.ofNat len)), .val (.int fl), .val (.ref b1), uS] [(.int (10 : Int32)), (.int (Int32.ofNat len))]))
    by_cases cz51 : (10 : Int32) < (Int32.ofNat len)
    case pos =>
     refine Goes.st (fun sT kT => XS.icmpNo Xjl.here hx rfl (hb hby at_317) rfl (tlt cz51).2.2.2 kT) ?_
     show Goes _ _ _ _ (Tjl.setTop (mkF m 320 #[.val (.int p0), .val (.int p1), .val (.int p2), .val (.int p3), .val (.int p4), .val (.int p5), .val (.int (p0 &&& (3 : Int32))), .val (.ref xq), .val (.int (p1 &&& (3 : Int32))), .val (.int (Int32.ofNat len)), .val (.int fl), .val (.ref b1), uS] []))
     refine Goes.st (fun sT kT => XS.aload Xjl.here hx rfl (hb hby at_320) rfl rfl kT) ?_
     show Goes _ _ _ _ (Tjl.setTop (mkF m 322 #[.val (.int p0), .val (.int p1), .val (.int p2), .val (.int p3), .val (.int p4), .val (.int p5), .val (.int (p0 &&& (3 : Int32))), .val (.ref xq), .val (.int (p1 &&& (3 : Int32))), .val (.int (Int32.ofNat len)), .val (.int fl), .val (.ref b1), uS] [(.ref b1)]))
     refine Goes.st (fun sT kT => XS.bipush Xjl.here hx rfl (hb hby at_322) kT) ?_
     show Goes _ _ _ _ (Tjl.setTop (mkF m 324 #[.val (.int p0), .val (.int p1), .val (.int p2), .val (.int p3), .val (.int p4), .val (.int p5), .val (.int (p0 &&& (3 : Int32))), .val (.ref xq), .val (.int (p1 &&& (3 : Int32))), .val (.int (Int32.ofNat len)), .val (.int fl), .val (.ref b1), uS] [(.int (10 : Int32)), (.ref b1)]))
     refine Goes.st (fun sT kT => XS.aload Xjl.here hx rfl (hb hby at_324) rfl rfl kT) ?_
     show Goes _ _ _ _ (Tjl.setTop (mkF m 326 #[.val (.int p0), .val (.int p1), .val (.int p2), .val (.int p3), .val (.int p4), .val (.int p5), .val (.int (p0 &&& (3 : Int32))), .val (.ref xq), .val (.int (p1 &&& (3 : Int32))), .val (.int (Int32.ofNat len)), .val (.int fl), .val (.ref b1), uS] [(.ref xq), (.int (10 : Int32)), (.ref b1)]))
     refine Goes.st (fun sT kT => XS.bipush Xjl.here hx rfl (hb hby at_326) kT) ?_
     show Goes _ _ _ _ (Tjl.setTop (mkF m 328 #[.val (.int p0), .val (.int p1), .val (.int p2), .val (.int p3), .val (.int p4), .val (.int p5), .val (.int (p0 &&& (3 : Int32))), .val (.ref xq), .val (.int (p1 &&& (3 : Int32))), .val (.int (Int32.ofNat len)), .val (.int fl), .val (.ref b1), uS] [(.int (10 : Int32)), (.ref xq), (.int (10 : Int32)), (.ref b1)]))
     refine Goes.st (fun sT kT => XS.iload Xjl.here hx rfl (hb hby at_328) rfl kT) ?_
     show Goes _ _ _ _ (Tjl.setTop (mkF m 330 #[.val (.int p0), .val (.int p1), .val (.int p2), .val (.int p3), .val (.int p4), .val (.int p5), .val (.int (p0 &&& (3 : Int32))), .val (.ref xq), .val (.int (p1 &&& (3 : Int32))), .val (.int (Int32.ofNat len)), .val (.int fl), .val (.ref b1), uS] [(.int fl), (.int (10 : Int32)), (.ref xq), (.int (10 : Int32)), (.ref b1)]))
     obtain ⟨_, _, ⟨T52, L52, k52, n52⟩, -, X52, ⟨Lc52, hQ52, l52, y52, z52⟩, st52⟩ := Jvm.LawKit.callS Xjl hx (y := (⟨"com/example/sillon/sillon/siri/GeneralMessageChannelNamedPinLaw", "at", "(Ljava/lang/String;II)C"⟩ : MethodName)) hownjl (mvT hZjl (hw55 hw)) (mvT hZjl (hw56 hw)) (mvT hZjl (hw40 hw)) (mvT hZjl (hw57 hw)) (by decide) (backOf (W := 2) (rm_att l Z a0 hw [] xq tq kq ts 10 fl G1 vF hjl n0 Zjl Pjl_2 Pjl_1 (by decide) rg_fl O2 P5 OF rF) hZjl (hw57 hw) (hw40 hw) (by decide) (by decide)) (g := (mkF m 330 #[.val (.int p0), .val (.int p1), .val (.int p2), .val (.int p3), .val (.int p4), .val (.int p5), .val (.int (p0 &&& (3 : Int32))), .val (.ref xq), .val (.int (p1 &&& (3 : Int32))), .val (.int (Int32.ofNat len)), .val (.int fl), .val (.ref b1), uS] [(.int fl), (.int (10 : Int32)), (.ref xq), (.int (10 : Int32)), (.ref b1)])) rfl (by rw [hml]; rfl) (argsL := [(.ref xq), (.int (10 : Int32)), (.int fl)]) (rest := [(.int (10 : Int32)), (.ref b1)]) (lenOf pd_7 rfl) rfl (by show 2 * 0 + _ ≤ _; exact Nat.le_of_eq rfl) (hb hby at_330) (fun _ _ => ⟨rfl, ejl, (by decide : 3 + 0 ≤ _), (by decide : 65 + 0 ≤ _)⟩)
     dsimp only [Pt.U, Pt.locs, Pt.cells, Pt.slots] at X52 l52 y52 z52 st52 hQ52
     subst l52 y52 z52
     obtain ⟨cc52, rfl, N52q, K52, rg_52⟩ := hQ52
     have N52 := Fr.app Njl N52q
     refine Goes.st st52 ?_
     show Goes _ _ _ _ (T52.setTop (mkF m 333 #[.val (.int p0), .val (.int p1), .val (.int p2), .val (.int p3), .val (.int p4), .val (.int p5), .val (.int (p0 &&& (3 : Int32))), .val (.ref xq), .val (.int (p1 &&& (3 : Int32))), .val (.int (Int32.ofNat len)), .val (.int fl), .val (.ref b1), uS] [(.int cc52), (.int (10 : Int32)), (.ref b1)]))
     obtain ⟨oc53, oA53, oq53, oS53, oM53, oH53, oG53⟩ := id Pjl_0
     obtain ⟨T54, h54, X54, e54, W54, st54⟩ := stC X52 hx hZjl K52 oA53 (j := (10 : Int32)) (inb_of oS53 ⟨by decide, cz51⟩) (g := (mkF m 333 #[.val (.int p0), .val (.int p1), .val (.int p2), .val (.int p3), .val (.int p4), .val (.int p5), .val (.int (p0 &&& (3 : Int32))), .val (.ref xq), .val (.int (p1 &&& (3 : Int32))), .val (.int (Int32.ofNat len)), .val (.int fl), .val (.ref b1), uS] [(.int cc52), (.int (10 : Int32)), (.ref b1)])) rfl rfl (hb hby at_333)
     rw [own_narc rg_52] at W54
     have V54 : Arv Z h54 b1 k1 .char (Int32.ofNat len) ((us.set 10 cc52).map Value.int) (.int (0 : Int32)) := own_ms _ _ _ ▸ Arv.set oA53 oq53 oS53 oM53 oH53 oG53 (own_fitsc rg_52) W54 (10) rfl (by rw [List.length_map, hu]; exact ((own_nlt (i := 10) (n := len) (by decide) (own_l31 hlen)).mp cz51))
     have N54 := Fr.snoc X54 N52 nb
     have CR55 : CHr Z EL s.vm h0 vmjl h54 := CRjl.trans (CHr.wr W54 (own_safeArv hZjl.alike Pjl_0 (by simp)) CRjl.1)
     refine Goes.st st54 ?_
     show Goes _ _ _ _ (T54.setTop (mkF m 334 #[.val (.int p0), .val (.int p1), .val (.int p2), .val (.int p3), .val (.int p4), .val (.int p5), .val (.int (p0 &&& (3 : Int32))), .val (.ref xq), .val (.int (p1 &&& (3 : Int32))), .val (.int (Int32.ofNat len)), .val (.int fl), .val (.ref b1), uS] []))
     have f56 : Old Z n0 h54 := (Pjl_1.wr W54 nb)
     have f57 : Str Z h54 xq tq kq ts := (Pjl_2.other W54 nq nt)
     exact Jjm T54 h54 _ vmjl _ (us.set 10 cc52) (X54.more (by decide) (by decide)) e54 N54 (Nat.le_trans Zjl (Nat.le_of_eq W54.size.symm)) hZjl hownjl hSjl (Nat.le_trans hkjl (Nat.le_of_eq W54.size.symm)) CR55 V54 f56 f57 (by rw [List.length_set]; exact hu) (own_rset hr rg_52)
    case neg =>
     refine Goes.st (fun sT kT => XS.icmpYes Xjl.here hx rfl (pc0 := 317) (pc' := 334) rfl (hb hby at_317) rfl (flt cz51).2.2.2 (by decide) (by decide) kT) ?_
     show Goes _ _ _ _ (Tjl.setTop (mkF m 334 #[.val (.int p0), .val (.int p1), .val (.int p2), .val (.int p3), .val (.int p4), .val (.int p5), .val (.int (p0 &&& (3 : Int32))), .val (.ref xq), .val (.int (p1 &&& (3 : Int32))), .val (.int (Int32.ofNat len)), .val (.int fl), .val (.ref b1), uS] []))
     exact Jjm Tjl hjl _ vmjl _ us (Xjl.more (by decide) (by decide)) ejl Njl Zjl hZjl hownjl hSjl hkjl CRjl Pjl_0 Pjl_1 Pjl_2 hu hr
   show Goes _ _ _ _ (T1.setTop (mkF m 122 #[.val (.int p0), .val (.int p1), .val (.int p2), .val (.int p3), .val (.int p4), .val (.int p5), .val (.int (p0 &&& (3 : Int32))), .val (.ref xq), .val (.int (p1 &&& (3 : Int32))), .val (.int (Int32.ofNat len)), .val (.int fl), .val (.ref b1), uS] []))
   have Jjk : ∀ (Tjk : State) (hjk : Heap) (Ljk : List Loc) (vmjk : Vm) (kjk : Nat) (us : List Int32), Stand p l e room_1 (s.setVm vmjk) m #[(.int p0), (.int p1), (.int p2), (.int p3), (.int p4), (.int p5)] below meth c Tjk Ljk 3 65 → Tjk.heap = hjk → Fr n0 Ljk → n0 ≤ hjk.size → Z.Warmed39 vmjk → vmjk.findClass "com/example/sillon/sillon/siri/GeneralMessageChannelNamedPinLaw" = some m.cls → s.Since vmjk kjk → kjk ≤ hjk.size → CHr Z EL s.vm h0 vmjk hjk → Arv Z hjk b1 k1 .char (Int32.ofNat len) (us.map Value.int) (.int (0 : Int32)) → Old Z n0 hjk → Str Z hjk xq tq kq ts → us.length = len → (∀ c ∈ us, ¬ c < 0 ∧ ¬ (255 : Int32) < c) → Goes p.tables e below QQ (Tjk.setTop (mkF m 292 #[.val (.int p0), .val (.int p1), .val (.int p2), .val (.int p3), .val (.int p4), .val (.int p5), .val (.int (p0 &&& (3 : Int32))), .val (.ref xq), .val (.int (p1 &&& (3 : Int32))), .val (.int (Int32.ofNat len)), .val (.int fl), .val (.ref b1), uS] [])) := by
    intro Tjk hjk Ljk vmjk kjk us Xjk ejk Njk Zjk hZjk hownjk hSjk hkjk CRjk Pjk_0 Pjk_1 Pjk_2 hu hr
    show Goes _ _ _ _ (Tjk.setTop (mkF m 292 #[.val (.int p0), .val (.int p1), .val (.int p2), .val (.int p3), .val (.int p4), .val (.int p5), .val (.int (p0 &&& (3 : Int32))), .val (.ref xq), .val (.int (p1 &&& (3 : Int32))), .val (.int (Int32.ofNat len)), .val (.int fl), .val (.ref b1), uS] []))
    refine Goes.st (fun sT kT => XS.iload Xjk.here hx rfl (hb hby at_292) rfl kT) ?_
    show Goes _ _ _ _ (Tjk.setTop (mkF m 294 #[.val (.int p0), .val (.int p1), .val (.int p2), .val (.int p3), .val (.int p4), .val (.int p5), .val (.int (p0 &&& (3 : Int32))), .val (.ref xq), .val (.int (p1 &&& (3 : Int32))), .val (.int (Int32.ofNat len)), .val (.int fl), .val (.ref b1), uS] [(.int (Int32.ofNat len))]))
    refine Goes.st (fun sT kT => XS.bipush Xjk.here hx rfl (hb hby at_294) kT) ?_
    show Goes _ _ _ _ (Tjk.setTop (mkF m 296 #[.val (.int p0), .val (.int p1), .val (.int p2), .val (.int p3), .val (.int p4), .val (.int p5), .val (.int (p0 &&& (3 : Int32))), .val (.ref xq), .val (.int (p1 &&& (3 : Int32))), .val (.int (Int32.ofNat len)), .val (.int fl), .val (.ref b1), uS] [(.int (9 : Int32)), (.int (Int32.ofNat len))]))
    by_cases cz58 : (9 : Int32) < (Int32.ofNat len)
    case pos =>
     refine Goes.st (fun sT kT => XS.icmpNo Xjk.here hx rfl (hb hby at_296) rfl (tlt cz58).2.2.2 kT) ?_
     show Goes _ _ _ _ (Tjk.setTop (mkF m 299 #[.val (.int p0), .val (.int p1), .val (.int p2), .val (.int p3), .val (.int p4), .val (.int p5), .val (.int (p0 &&& (3 : Int32))), .val (.ref xq), .val (.int (p1 &&& (3 : Int32))), .val (.int (Int32.ofNat len)), .val (.int fl), .val (.ref b1), uS] []))
     refine Goes.st (fun sT kT => XS.aload Xjk.here hx rfl (hb hby at_299) rfl rfl kT) ?_
     show Goes _ _ _ _ (Tjk.setTop (mkF m 301 #[.val (.int p0), .val (.int p1), .val (.int p2), .val (.int p3), .val (.int p4), .val (.int p5), .val (.int (p0 &&& (3 : Int32))), .val (.ref xq), .val (.int (p1 &&& (3 : Int32))), .val (.int (Int32.ofNat len)), .val (.int fl), .val (.ref b1), uS] [(.ref b1)]))
     refine Goes.st (fun sT kT => XS.bipush Xjk.here hx rfl (hb hby at_301) kT) ?_
     show Goes _ _ _ _ (Tjk.setTop (mkF m 303 #[.val (.int p0), .val (.int p1), .val (.int p2), .val (.int p3), .val (.int p4), .val (.int p5), .val (.int (p0 &&& (3 : Int32))), .val (.ref xq), .val (.int (p1 &&& (3 : Int32))), .val (.int (Int32.ofNat len)), .val (.int fl), .val (.ref b1), uS] [(.int (9 : Int32)), (.ref b1)]))
     refine Goes.st (fun sT kT => XS.aload Xjk.here hx rfl (hb hby at_303) rfl rfl kT) ?_
     show Goes _ _ _ _ (Tjk.setTop (mkF m 305 #[.val (.int p0), .val (.int p1), .val (.int p2), .val (.int p3), .val (.int p4), .val (.int p5), .val (.int (p0 &&& (3 : Int32))), .val (.ref xq), .val (.int (p1 &&& (3 : Int32))), .val (.int (Int32.ofNat len)), .val (.int fl), .val (.ref b1), uS] [(.ref xq), (.int (9 : Int32)), (.ref b1)]))
     refine Goes.st (fun sT kT => XS.bipush Xjk.here hx rfl (hb hby at_305) kT) ?_
     show Goes _ _ _ _ (Tjk.setTop (mkF m 307 #[.val (.int p0), .val (.int p1), .val (.int p2), .val (.int p3), .val (.int p4), .val (.int p5), .val (.int (p0 &&& (3 : Int32))), .val (.ref xq), .val (.int (p1 &&& (3 : Int32))), .val (.int (Int32.ofNat len)), .val (.int fl), .val (.ref b1), uS] [(.int (9 : Int32)), (.ref xq), (.int (9 : Int32)), (.ref b1)]))
     refine Goes.st (fun sT kT => XS.iload Xjk.here hx rfl (hb hby at_307) rfl kT) ?_
     show Goes _ _ _ _ (Tjk.setTop (mkF m 309 #[.val (.int p0), .val (.int p1), .val (.int p2), .val (.int p3), .val (.int p4), .val (.int p5), .val (.int (p0 &&& (3 : Int32))), .val (.ref xq), .val (.int (p1 &&& (3 : Int32))), .val (.int (Int32.ofNat len)), .val (.int fl), .val (.ref b1), uS] [(.int fl), (.int (9 : Int32)), (.ref xq), (.int (9 : Int32)), (.ref b1)]))
     obtain ⟨_, _, ⟨T59, L59, k59, n59⟩, -, X59, ⟨Lc59, hQ59, l59, y59, z59⟩, st59⟩ := Jvm.LawKit.callS Xjk hx (y := (⟨"com/example/sillon/sillon/siri/GeneralMessageChannelNamedPinLaw", "at", "(Ljava/lang/String;II)C"⟩ : MethodName)) hownjk (mvT hZjk (hw55 hw)) (mvT hZjk (hw56 hw)) (mvT hZjk (hw40 hw)) (mvT hZjk (hw57 hw)) (by decide) (backOf (W := 2) (rm_att l Z a0 hw [] xq tq kq ts 9 fl G1 vF hjk n0 Zjk Pjk_2 Pjk_1 (by decide) rg_fl O2 P5 OF rF) hZjk (hw57 hw) (hw40 hw) (by decide) (by decide)) (g := (mkF m 309 #[.val (.int p0), .val (.int p1), .val (.int p2), .val (.int p3), .val (.int p4), .val (.int p5), .val (.int (p0 &&& (3 : Int32))), .val (.ref xq), .val (.int (p1 &&& (3 : Int32))), .val (.int (Int32.ofNat len)), .val (.int fl), .val (.ref b1), uS] [(.int fl), (.int (9 : Int32)), (.ref xq), (.int (9 : Int32)), (.ref b1)])) rfl (by rw [hml]; rfl) (argsL := [(.ref xq), (.int (9 : Int32)), (.int fl)]) (rest := [(.int (9 : Int32)), (.ref b1)]) (lenOf pd_7 rfl) rfl (by show 2 * 0 + _ ≤ _; exact Nat.le_of_eq rfl) (hb hby at_309) (fun _ _ => ⟨rfl, ejk, (by decide : 3 + 0 ≤ _), (by decide : 65 + 0 ≤ _)⟩)
     dsimp only [Pt.U, Pt.locs, Pt.cells, Pt.slots] at X59 l59 y59 z59 st59 hQ59
     subst l59 y59 z59
     obtain ⟨cc59, rfl, N59q, K59, rg_59⟩ := hQ59
     have N59 := Fr.app Njk N59q
     refine Goes.st st59 ?_
     show Goes _ _ _ _ (T59.setTop (mkF m 312 #[.val (.int p0), .val (.int p1), .val (.int p2), .val (.int p3), .val (.int p4), .val (.int p5), .val (.int (p0 &&& (3 : Int32))), .val (.ref xq), .val (.int (p1 &&& (3 : Int32))), .val (.int (Int32.ofNat len)), .val (.int fl), .val (.ref b1), uS] [(.int cc59), (.int (9 : Int32)), (.ref b1)]))
     obtain ⟨oc60, oA60, oq60, oS60, oM60, oH60, oG60⟩ := id Pjk_0
     obtain ⟨T61, h61, X61, e61, W61, st61⟩ := stC X59 hx hZjk K59 oA60 (j := (9 : Int32)) (inb_of oS60 ⟨by decide, cz58⟩) (g := (mkF m 312 #[.val (.int p0), .val (.int p1), .val (.int p2), .val (.int p3), .val (.int p4), .val (.int p5), .val (.int (p0 &&& (3 : Int32))), .val (.ref xq), .val (.int (p1 &&& (3 : Int32))), .val (.int (Int32.ofNat len)), .val (.int fl), .val (.ref b1), uS] [(.int cc59), (.int (9 : Int32)), (.ref b1)])) rfl rfl (hb hby at_312)
     rw [own_narc rg_59] at W61
     have V61 : Arv Z h61 b1 k1 .char (Int32.ofNat len) ((us.set 9 cc59).map Value.int) (.int (0 : Int32)) := own_ms _ _ _ ▸ Arv.set oA60 oq60 oS60 oM60 oH60 oG60 (own_fitsc rg_59) W61 (9) rfl (by rw [List.length_map, hu]; exact ((own_nlt (i := 9) (n := len) (by decide) (own_l31 hlen)).mp cz58))
     have N61 := Fr.snoc X61 N59 nb
     have CR62 : CHr Z EL s.vm h0 vmjk h61 := CRjk.trans (CHr.wr W61 (own_safeArv hZjk.alike Pjk_0 (by simp)) CRjk.1)
     refine Goes.st st61 ?_
     show Goes _ _ _ _ (T61.setTop (mkF m 313 #[.val (.int p0), .val (.int p1), .val (.int p2), .val (.int p3), .val (.int p4), .val (.int p5), .val (.int (p0 &&& (3 : Int32))), .val (.ref xq), .val (.int (p1 &&& (3 : Int32))), .val (.int (Int32.ofNat len)), .val (.int fl), .val (.ref b1), uS] []))
     have f63 : Old Z n0 h61 := (Pjk_1.wr W61 nb)
     have f64 : Str Z h61 xq tq kq ts := (Pjk_2.other W61 nq nt)
     exact Jjl T61 h61 _ vmjk _ (us.set 9 cc59) (X61.more (by decide) (by decide)) e61 N61 (Nat.le_trans Zjk (Nat.le_of_eq W61.size.symm)) hZjk hownjk hSjk (Nat.le_trans hkjk (Nat.le_of_eq W61.size.symm)) CR62 V61 f63 f64 (by rw [List.length_set]; exact hu) (own_rset hr rg_59)
    case neg =>
     refine Goes.st (fun sT kT => XS.icmpYes Xjk.here hx rfl (pc0 := 296) (pc' := 313) rfl (hb hby at_296) rfl (flt cz58).2.2.2 (by decide) (by decide) kT) ?_
     show Goes _ _ _ _ (Tjk.setTop (mkF m 313 #[.val (.int p0), .val (.int p1), .val (.int p2), .val (.int p3), .val (.int p4), .val (.int p5), .val (.int (p0 &&& (3 : Int32))), .val (.ref xq), .val (.int (p1 &&& (3 : Int32))), .val (.int (Int32.ofNat len)), .val (.int fl), .val (.ref b1), uS] []))
     exact Jjl Tjk hjk _ vmjk _ us (Xjk.more (by decide) (by decide)) ejk Njk Zjk hZjk hownjk hSjk hkjk CRjk Pjk_0 Pjk_1 Pjk_2 hu hr
   show Goes _ _ _ _ (T1.setTop (mkF m 122 #[.val (.int p0), .val (.int p1), .val (.int p2), .val (.int p3), .val (.int p4), .val (.int p5), .val (.int (p0 &&& (3 : Int32))), .val (.ref xq), .val (.int (p1 &&& (3 : Int32))), .val (.int (Int32.ofNat len)), .val (.int fl), .val (.ref b1), uS] []))
   have Jjj : ∀ (Tjj : State) (hjj : Heap) (Ljj : List Loc) (vmjj : Vm) (kjj : Nat) (us : List Int32), Stand p l e room_1 (s.setVm vmjj) m #[(.int p0), (.int p1), (.int p2), (.int p3), (.int p4), (.int p5)] below meth c Tjj Ljj 3 65 → Tjj.heap = hjj → Fr n0 Ljj → n0 ≤ hjj.size → Z.Warmed39 vmjj → vmjj.findClass "com/example/sillon/sillon/siri/GeneralMessageChannelNamedPinLaw" = some m.cls → s.Since vmjj kjj → kjj ≤ hjj.size → CHr Z EL s.vm h0 vmjj hjj → Arv Z hjj b1 k1 .char (Int32.ofNat len) (us.map Value.int) (.int (0 : Int32)) → Old Z n0 hjj → Str Z hjj xq tq kq ts → us.length = len → (∀ c ∈ us, ¬ c < 0 ∧ ¬ (255 : Int32) < c) → Goes p.tables e below QQ (Tjj.setTop (mkF m 271 #[.val (.int p0), .val (.int p1), .val (.int p2), .val (.int p3), .val (.int p4), .val (.int p5), .val (.int (p0 &&& (3 : Int32))), .val (.ref xq), .val (.int (p1 &&& (3 : Int32))), .val (.int (Int32.ofNat len)), .val (.int fl), .val (.ref b1), uS] [])) := by
    intro Tjj hjj Ljj vmjj kjj us Xjj ejj Njj Zjj hZjj hownjj hSjj hkjj CRjj Pjj_0 Pjj_1 Pjj_2 hu hr
    show Goes _ _ _ _ (Tjj.setTop (mkF m 271 #[.val (.int p0), .val (.int p1), .val (.int p2), .val (.int p3), .val (.int p4), .val (.int p5), .val (.int (p0 &&& (3 : Int32))), .val (.ref xq), .val (.int (p1 &&& (3 : Int32))), .val (.int (Int32.ofNat len)), .val (.int fl), .val (.ref b1), uS] []))
    refine Goes.st (fun sT kT => XS.iload Xjj.here hx rfl (hb hby at_271) rfl kT) ?_
    show Goes _ _ _ _ (Tjj.setTop (mkF m 273 #[.val (.int p0), .val (.int p1), .val (.int p2), .val (.int p3), .val (.int p4), .val (.int p5), .val (.int (p0 &&& (3 : Int32))), .val (.ref xq), .val (.int (p1 &&& (3 : Int32))), .val (.int (Int32.ofNat len)), .val (.int fl), .val (.ref b1), uS] [(.int (Int32.ofNat len))]))
    refine Goes.st (fun sT kT => XS.bipush Xjj.here hx rfl (hb hby at_273) kT) ?_
    show Goes _ _ _ _ (Tjj.setTop (mkF m 275 #[.val (.int p0), .val (.int p1), .val (.int p2), .val (.int p3), .val (.int p4), .val (.int p5), .val (.int (p0 &&& (3 : Int32))), .val (.ref xq), .val (.int (p1 &&& (3 : Int32))), .val (.int (Int32.ofNat len)), .val (.int fl), .val (.ref b1), uS] [(.int (8 : Int32)), (.int (Int32.ofNat len))]))
    by_cases cz65 : (8 : Int32) < (Int32.ofNat len)
    case pos =>
     refine Goes.st (fun sT kT => XS.icmpNo Xjj.here hx rfl (hb hby at_275) rfl (tlt cz65).2.2.2 kT) ?_
     show Goes _ _ _ _ (Tjj.setTop (mkF m 278 #[.val (.int p0), .val (.int p1), .val (.int p2), .val (.int p3), .val (.int p4), .val (.int p5), .val (.int (p0 &&& (3 : Int32))), .val (.ref xq), .val (.int (p1 &&& (3 : Int32))), .val (.int (Int32.ofNat len)), .val (.int fl), .val (.ref b1), uS] []))
     refine Goes.st (fun sT kT => XS.aload Xjj.here hx rfl (hb hby at_278) rfl rfl kT) ?_
     show Goes _ _ _ _ (Tjj.setTop (mkF m 280 #[.val (.int p0), .val (.int p1), .val (.int p2), .val (.int p3), .val (.int p4), .val (.int p5), .val (.int (p0 &&& (3 : Int32))), .val (.ref xq), .val (.int (p1 &&& (3 : Int32))), .val (.int (Int32.ofNat len)), .val (.int fl), .val (.ref b1), uS] [(.ref b1)]))
     refine Goes.st (fun sT kT => XS.bipush Xjj.here hx rfl (hb hby at_280) kT) ?_
     show Goes _ _ _ _ (Tjj.setTop (mkF m 282 #[.val (.int p0), .val (.int p1), .val (.int p2), .val (.int p3), .val (.int p4), .val (.int p5), .val (.int (p0 &&& (3 : Int32))), .val (.ref xq), .val (.int (p1 &&& (3 : Int32))), .val (.int (Int32.ofNat len)), .val (.int fl), .val (.ref b1), uS] [(.int (8 : Int32)), (.ref b1)]))
     refine Goes.st (fun sT kT => XS.aload Xjj.here hx rfl (hb hby at_282) rfl rfl kT) ?_
     show Goes _ _ _ _ (Tjj.setTop (mkF m 284 #[.val (.int p0), .val (.int p1), .val (.int p2), .val (.int p3), .val (.int p4), .val (.int p5), .val (.int (p0 &&& (3 : Int32))), .val (.ref xq), .val (.int (p1 &&& (3 : Int32))), .val (.int (Int32.ofNat len)), .val (.int fl), .val (.ref b1), uS] [(.ref xq), (.int (8 : Int32)), (.ref b1)]))
     refine Goes.st (fun sT kT => XS.bipush Xjj.here hx rfl (hb hby at_284) kT) ?_
     show Goes _ _ _ _ (Tjj.setTop (mkF m 286 #[.val (.int p0), .val (.int p1), .val (.int p2), .val (.int p3), .val (.int p4), .val (.int p5), .val (.int (p0 &&& (3 : Int32))), .val (.ref xq), .val (.int (p1 &&& (3 : Int32))), .val (.int (Int32.ofNat len)), .val (.int fl), .val (.ref b1), uS] [(.int (8 : Int32)), (.ref xq), (.int (8 : Int32)), (.ref b1)]))
     refine Goes.st (fun sT kT => XS.iload Xjj.here hx rfl (hb hby at_286) rfl kT) ?_
     show Goes _ _ _ _ (Tjj.setTop (mkF m 288 #[.val (.int p0), .val (.int p1), .val (.int p2), .val (.int p3), .val (.int p4), .val (.int p5), .val (.int (p0 &&& (3 : Int32))), .val (.ref xq), .val (.int (p1 &&& (3 : Int32))), .val (.int (Int32.ofNat len)), .val (.int fl), .val (.ref b1), uS] [(.int fl), (.int (8 : Int32)), (.ref xq), (.int (8 : Int32)), (.ref b1)]))
     obtain ⟨_, _, ⟨T66, L66, k66, n66⟩, -, X66, ⟨Lc66, hQ66, l66, y66, z66⟩, st66⟩ := Jvm.LawKit.callS Xjj hx (y := (⟨"com/example/sillon/sillon/siri/GeneralMessageChannelNamedPinLaw", "at", "(Ljava/lang/String;II)C"⟩ : MethodName)) hownjj (mvT hZjj (hw55 hw)) (mvT hZjj (hw56 hw)) (mvT hZjj (hw40 hw)) (mvT hZjj (hw57 hw)) (by decide) (backOf (W := 2) (rm_att l Z a0 hw [] xq tq kq ts 8 fl G1 vF hjj n0 Zjj Pjj_2 Pjj_1 (by decide) rg_fl O2 P5 OF rF) hZjj (hw57 hw) (hw40 hw) (by decide) (by decide)) (g := (mkF m 288 #[.val (.int p0), .val (.int p1), .val (.int p2), .val (.int p3), .val (.int p4), .val (.int p5), .val (.int (p0 &&& (3 : Int32))), .val (.ref xq), .val (.int (p1 &&& (3 : Int32))), .val (.int (Int32.ofNat len)), .val (.int fl), .val (.ref b1), uS] [(.int fl), (.int (8 : Int32)), (.ref xq), (.int (8 : Int32)), (.ref b1)])) rfl (by rw [hml]; rfl) (argsL := [(.ref xq), (.int (8 : Int32)), (.int fl)]) (rest := [(.int (8 : Int32)), (.ref b1)]) (lenOf pd_7 rfl) rfl (by show 2 * 0 + _ ≤ _; exact Nat.le_of_eq rfl) (hb hby at_288) (fun _ _ => ⟨rfl, ejj, (by decide : 3 + 0 ≤ _), (by decide : 65 + 0 ≤ _)⟩)
     dsimp only [Pt.U, Pt.locs, Pt.cells, Pt.slots] at X66 l66 y66 z66 st66 hQ66
     subst l66 y66 z66
     obtain ⟨cc66, rfl, N66q, K66, rg_66⟩ := hQ66
     have N66 := Fr.app Njj N66q
     refine Goes.st st66 ?_
     show Goes _ _ _ _ (T66.setTop (mkF m 291 #[.val (.int p0), .val (.int p1), .val (.int p2), .val (.int p3), .val (.int p4), .val (.int p5), .val (.int (p0 &&& (3 : Int32))), .val (.ref xq), .val (.int (p1 &&& (3 : Int32))), .val (.int (Int32.ofNat len)), .val (.int fl), .val (.ref b1), uS] [(.int cc66), (.int (8 : Int32)), (.ref b1)]))
     obtain ⟨oc67, oA67, oq67, oS67, oM67, oH67, oG67⟩ := id Pjj_0
     obtain ⟨T68, h68, X68, e68, W68, st68⟩ := stC X66 hx hZjj K66 oA67 (j := (8 : Int32)) (inb_of oS67 ⟨by decide, cz65⟩) (g := (mkF m 291 #[.val (.int p0), .val (.int p1), .val (.int p2), .val (.int p3), .val (.int p4), .val (.int p5), .val (.int (p0 &&& (3 : Int32))), .val (.ref xq), .val (.int (p1 &&& (3 : Int32))), .val (.int (Int32.ofNat len)), .val (.int fl), .val (.ref b1), uS] [(.int cc66), (.int (8 : Int32)), (.ref b1)])) rfl rfl (hb hby at_291)
     rw [own_narc rg_66] at W68
     have V68 : Arv Z h68 b1 k1 .char (Int32.ofNat len) ((us.set 8 cc66).map Value.int) (.int (0 : Int32)) := own_ms _ _ _ ▸ Arv.set oA67 oq67 oS67 oM67 oH67 oG67 (own_fitsc rg_66) W68 (8) rfl (by rw [List.length_map, hu]; exact ((own_nlt (i := 8) (n := len) (by decide) (own_l31 hlen)).mp cz65))
     have N68 := Fr.snoc X68 N66 nb
     have CR69 : CHr Z EL s.vm h0 vmjj h68 := CRjj.trans (CHr.wr W68 (own_safeArv hZjj.alike Pjj_0 (by simp)) CRjj.1)
     refine Goes.st st68 ?_
     show Goes _ _ _ _ (T68.setTop (mkF m 292 #[.val (.int p0), .val (.int p1), .val (.int p2), .val (.int p3), .val (.int p4), .val (.int p5), .val (.int (p0 &&& (3 : Int32))), .val (.ref xq), .val (.int (p1 &&& (3 : Int32))), .val (.int (Int32.ofNat len)), .val (.int fl), .val (.ref b1), uS] []))
     have f70 : Old Z n0 h68 := (Pjj_1.wr W68 nb)
     have f71 : Str Z h68 xq tq kq ts := (Pjj_2.other W68 nq nt)
     exact Jjk T68 h68 _ vmjj _ (us.set 8 cc66) (X68.more (by decide) (by decide)) e68 N68 (Nat.le_trans Zjj (Nat.le_of_eq W68.size.symm)) hZjj hownjj hSjj (Nat.le_trans hkjj (Nat.le_of_eq W68.size.symm)) CR69 V68 f70 f71 (by rw [List.length_set]; exact hu) (own_rset hr rg_66)
    case neg =>
     refine Goes.st (fun sT kT => XS.icmpYes Xjj.here hx rfl (pc0 := 275) (pc' := 292) rfl (hb hby at_275) rfl (flt cz65).2.2.2 (by decide) (by decide) kT) ?_
     show Goes _ _ _ _ (Tjj.setTop (mkF m 292 #[.val (.int p0), .val (.int p1), .val (.int p2), .val (.int p3), .val (.int p4), .val (.int p5), .val (.int (p0 &&& (3 : Int32))), .val (.ref xq), .val (.int (p1 &&& (3 : Int32))), .val (.int (Int32.ofNat len)), .val (.int fl), .val (.ref b1), uS] []))
     exact Jjk Tjj hjj _ vmjj _ us (Xjj.more (by decide) (by decide)) ejj Njj Zjj hZjj hownjj hSjj hkjj CRjj Pjj_0 Pjj_1 Pjj_2 hu hr
   show Goes _ _ _ _ (T1.setTop (mkF m 122 #[.val (.int p0), .val (.int p1), .val (.int p2), .val (.int p3), .val (.int p4), .val (.int p5), .val (.int (p0 &&& (3 : Int32))), .val (.ref xq), .val (.int (p1 &&& (3 : Int32))), .val (.int (Int32.ofNat len)), .val (.int fl), .val (.ref b1), uS] []))
   have Jji : ∀ (Tji : State) (hji : Heap) (Lji : List Loc) (vmji : Vm) (kji : Nat) (us : List Int32), Stand p l e room_1 (s.setVm vmji) m #[(.int p0), (.int p1), (.int p2), (.int p3), (.int p4), (.int p5)] below meth c Tji Lji 3 65 → Tji.heap = hji → Fr n0 Lji → n0 ≤ hji.size → Z.Warmed39 vmji → vmji.findClass "com/example/sillon/sillon/siri/GeneralMessageChannelNamedPinLaw" = some m.cls → s.Since vmji kji → kji ≤ hji.size → CHr Z EL s.vm h0 vmji hji → Arv Z hji b1 k1 .char (Int32.ofNat len) (us.map Value.int) (.int (0 : Int32)) → Old Z n0 hji → Str Z hji xq tq kq ts → us.length = len → (∀ c ∈ us, ¬ c < 0 ∧ ¬ (255 : Int32) < c) → Goes p.tables e below QQ (Tji.setTop (mkF m 250 #[.val (.int p0), .val (.int p1), .val (.int p2), .val (.int p3), .val (.int p4), .val (.int p5), .val (.int (p0 &&& (3 : Int32))), .val (.ref xq), .val (.int (p1 &&& (3 : Int32))), .val (.int (Int32.ofNat len)), .val (.int fl), .val (.ref b1), uS] [])) := by
    intro Tji hji Lji vmji kji us Xji eji Nji Zji hZji hownji hSji hkji CRji Pji_0 Pji_1 Pji_2 hu hr
    show Goes _ _ _ _ (Tji.setTop (mkF m 250 #[.val (.int p0), .val (.int p1), .val (.int p2), .val (.int p3), .val (.int p4), .val (.int p5), .val (.int (p0 &&& (3 : Int32))), .val (.ref xq), .val (.int (p1 &&& (3 : Int32))), .val (.int (Int32.ofNat len)), .val (.int fl), .val (.ref b1), uS] []))
    refine Goes.st (fun sT kT => XS.iload Xji.here hx rfl (hb hby at_250) rfl kT) ?_
    show Goes _ _ _ _ (Tji.setTop (mkF m 252 #[.val (.int p0), .val (.int p1), .val (.int p2), .val (.int p3), .val (.int p4), .val (.int p5), .val (.int (p0 &&& (3 : Int32))), .val (.ref xq), .val (.int (p1 &&& (3 : Int32))), .val (.int (Int32.ofNat len)), .val (.int fl), .val (.ref b1), uS] [(.int (Int32.ofNat len))]))
    refine Goes.st (fun sT kT => XS.bipush Xji.here hx rfl (hb hby at_252) kT) ?_
    show Goes _ _ _ _ (Tji.setTop (mkF m 254 #[.val (.int p0), .val (.int p1), .val (.int p2), .val (.int p3), .val (.int p4), .val (.int p5), .val (.int (p0 &&& (3 : Int32))), .val (.ref xq), .val (.int (p1 &&& (3 : Int32))), .val (.int (Int32.ofNat len)), .val (.int fl), .val (.ref b1), uS] [(.int (7 : Int32)), (.int (Int32.ofNat len))]))
    by_cases cz72 : (7 : Int32) < (Int32.ofNat len)
    case pos =>
     refine Goes.st (fun sT kT => XS.icmpNo Xji.here hx rfl (hb hby at_254) rfl (tlt cz72).2.2.2 kT) ?_
     show Goes _ _ _ _ (Tji.setTop (mkF m 257 #[.val (.int p0), .val (.int p1), .val (.int p2), .val (.int p3), .val (.int p4), .val (.int p5), .val (.int (p0 &&& (3 : Int32))), .val (.ref xq), .val (.int (p1 &&& (3 : Int32))), .val (.int (Int32.ofNat len)), .val (.int fl), .val (.ref b1), uS] []))
     refine Goes.st (fun sT kT => XS.aload Xji.here hx rfl (hb hby at_257) rfl rfl kT) ?_
     show Goes _ _ _ _ (Tji.setTop (mkF m 259 #[.val (.int p0), .val (.int p1), .val (.int p2), .val (.int p3), .val (.int p4), .val (.int p5), .val (.int (p0 &&& (3 : Int32))), .val (.ref xq), .val (.int (p1 &&& (3 : Int32))), .val (.int (Int32.ofNat len)), .val (.int fl), .val (.ref b1), uS] [(.ref b1)]))
     refine Goes.st (fun sT kT => XS.bipush Xji.here hx rfl (hb hby at_259) kT) ?_
     show Goes _ _ _ _ (Tji.setTop (mkF m 261 #[.val (.int p0), .val (.int p1), .val (.int p2), .val (.int p3), .val (.int p4), .val (.int p5), .val (.int (p0 &&& (3 : Int32))), .val (.ref xq), .val (.int (p1 &&& (3 : Int32))), .val (.int (Int32.ofNat len)), .val (.int fl), .val (.ref b1), uS] [(.int (7 : Int32)), (.ref b1)]))
     refine Goes.st (fun sT kT => XS.aload Xji.here hx rfl (hb hby at_261) rfl rfl kT) ?_
     show Goes _ _ _ _ (Tji.setTop (mkF m 263 #[.val (.int p0), .val (.int p1), .val (.int p2), .val (.int p3), .val (.int p4), .val (.int p5), .val (.int (p0 &&& (3 : Int32))), .val (.ref xq), .val (.int (p1 &&& (3 : Int32))), .val (.int (Int32.ofNat len)), .val (.int fl), .val (.ref b1), uS] [(.ref xq), (.int (7 : Int32)), (.ref b1)]))
     refine Goes.st (fun sT kT => XS.bipush Xji.here hx rfl (hb hby at_263) kT) ?_
     show Goes _ _ _ _ (Tji.setTop (mkF m 265 #[.val (.int p0), .val (.int p1), .val (.int p2), .val (.int p3), .val (.int p4), .val (.int p5), .val (.int (p0 &&& (3 : Int32))), .val (.ref xq), .val (.int (p1 &&& (3 : Int32))), .val (.int (Int32.ofNat len)), .val (.int fl), .val (.ref b1), uS] [(.int (7 : Int32)), (.ref xq), (.int (7 : Int32)), (.ref b1)]))
     refine Goes.st (fun sT kT => XS.iload Xji.here hx rfl (hb hby at_265) rfl kT) ?_
     show Goes _ _ _ _ (Tji.setTop (mkF m 267 #[.val (.int p0), .val (.int p1), .val (.int p2), .val (.int p3), .val (.int p4), .val (.int p5), .val (.int (p0 &&& (3 : Int32))), .val (.ref xq), .val (.int (p1 &&& (3 : Int32))), .val (.int (Int32.ofNat len)), .val (.int fl), .val (.ref b1), uS] [(.int fl), (.int (7 : Int32)), (.ref xq), (.int (7 : Int32)), (.ref b1)]))
     obtain ⟨_, _, ⟨T73, L73, k73, n73⟩, -, X73, ⟨Lc73, hQ73, l73, y73, z73⟩, st73⟩ := Jvm.LawKit.callS Xji hx (y := (⟨"com/example/sillon/sillon/siri/GeneralMessageChannelNamedPinLaw", "at", "(Ljava/lang/String;II)C"⟩ : MethodName)) hownji (mvT hZji (hw55 hw)) (mvT hZji (hw56 hw)) (mvT hZji (hw40 hw)) (mvT hZji (hw57 hw)) (by decide) (backOf (W := 2) (rm_att l Z a0 hw [] xq tq kq ts 7 fl G1 vF hji n0 Zji Pji_2 Pji_1 (by decide) rg_fl O2 P5 OF rF) hZji (hw57 hw) (hw40 hw) (by decide) (by decide)) (g := (mkF m 267 #[.val (.int p0), .val (.int p1), .val (.int p2), .val (.int p3), .val (.int p4), .val (.int p5), .val (.int (p0 &&& (3 : Int32))), .val (.ref xq), .val (.int (p1 &&& (3 : Int32))), .val (.int (Int32.ofNat len)), .val (.int fl), .val (.ref b1), uS] [(.int fl), (.int (7 : Int32)), (.ref xq), (.int (7 : Int32)), (.ref b1)])) rfl (by rw [hml]; rfl) (argsL := [(.ref xq), (.int (7 : Int32)), (.int fl)]) (rest := [(.int (7 : Int32)), (.ref b1)]) (lenOf pd_7 rfl) rfl (by show 2 * 0 + _ ≤ _; exact Nat.le_of_eq rfl) (hb hby at_267) (fun _ _ => ⟨rfl, eji, (by decide : 3 + 0 ≤ _), (by decide : 65 + 0 ≤ _)⟩)
     dsimp only [Pt.U, Pt.locs, Pt.cells, Pt.slots] at X73 l73 y73 z73 st73 hQ73
     subst l73 y73 z73
     obtain ⟨cc73, rfl, N73q, K73, rg_73⟩ := hQ73
     have N73 := Fr.app Nji N73q
     refine Goes.st st73 ?_
     show Goes _ _ _ _ (T73.setTop (mkF m 270 #[.val (.int p0), .val (.int p1), .val (.int p2), .val (.int p3), .val (.int p4), .val (.int p5), .val (.int (p0 &&& (3 : Int32))), .val (.ref xq), .val (.int (p1 &&& (3 : Int32))), .val (.int (Int32.ofNat len)), .val (.int fl), .val (.ref b1), uS] [(.int cc73), (.int (7 : Int32)), (.ref b1)]))
     obtain ⟨oc74, oA74, oq74, oS74, oM74, oH74, oG74⟩ := id Pji_0
     obtain ⟨T75, h75, X75, e75, W75, st75⟩ := stC X73 hx hZji K73 oA74 (j := (7 : Int32)) (inb_of oS74 ⟨by decide, cz72⟩) (g := (mkF m 270 #[.val (.int p0), .val (.int p1), .val (.int p2), .val (.int p3), .val (.int p4), .val (.int p5), .val (.int (p0 &&& (3 : Int32))), .val (.ref xq), .val (.int (p1 &&& (3 : Int32))), .val (.int (Int32.ofNat len)), .val (.int fl), .val (.ref b1), uS] [(.int cc73), (.int (7 : Int32)), (.ref b1)])) rfl rfl (hb hby at_270)
     rw [own_narc rg_73] at W75
     have V75 : Arv Z h75 b1 k1 .char (Int32.ofNat len) ((us.set 7 cc73).map Value.int) (.int (0 : Int32)) := own_ms _ _ _ ▸ Arv.set oA74 oq74 oS74 oM74 oH74 oG74 (own_fitsc rg_73) W75 (7) rfl (by rw [List.length_map, hu]; exact ((own_nlt (i := 7) (n := len) (by decide) (own_l31 hlen)).mp cz72))
     have N75 := Fr.snoc X75 N73 nb
     have CR76 : CHr Z EL s.vm h0 vmji h75 := CRji.trans (CHr.wr W75 (own_safeArv hZji.alike Pji_0 (by simp)) CRji.1)
     refine Goes.st st75 ?_
     show Goes _ _ _ _ (T75.setTop (mkF m 271 #[.val (.int p0), .val (.int p1), .val (.int p2), .val (.int p3), .val (.int p4), .val (.int p5), .val (.int (p0 &&& (3 : Int32))), .val (.ref xq), .val (.int (p1 &&& (3 : Int32))), .val (.int (Int32.ofNat len)), .val (.int fl), .val (.ref b1), uS] []))
     have f77 : Old Z n0 h75 := (Pji_1.wr W75 nb)
     have f78 : Str Z h75 xq tq kq ts := (Pji_2.other W75 nq nt)
     exact Jjj T75 h75 _ vmji _ (us.set 7 cc73) (X75.more (by decide) (by decide)) e75 N75 (Nat.le_trans Zji (Nat.le_of_eq W75.size.symm)) hZji hownji hSji (Nat.le_trans hkji (Nat.le_of_eq W75.size.symm)) CR76 V75 f77 f78 (by rw [List.length_set]; exact hu) (own_rset hr rg_73)
    case neg =>
     refine Goes.st (fun sT kT => XS.icmpYes Xji.here hx rfl (pc0 := 254) (pc' := 271) rfl (hb hby at_254) rfl (flt cz72).2.2.2 (by decide) (by decide) kT) ?_
     show Goes _ _ _ _ (Tji.setTop (mkF m 271 #[.val (.int p0), .val (.int p1), .val (.int p2), .val (.int p3), .val (.int p4), .val (.int p5), .val (.int (p0 &&& (3 : Int32))), .val (.ref xq), .val (.int (p1 &&& (3 : Int32))), .val (.int (Int32.ofNat len)), .val (.int fl), .val (.ref b1), uS] []))
     exact Jjj Tji hji _ vmji _ us (Xji.more (by decide) (by decide)) eji Nji Zji hZji hownji hSji hkji CRji Pji_0 Pji_1 Pji_2 hu hr
   show Goes _ _ _ _ (T1.setTop (mkF m 122 #[.val (.int p0), .val (.int p1), .val (.int p2), .val (.int p3), .val (.int p4), .val (.int p5), .val (.int (p0 &&& (3 : Int32))), .val (.ref xq), .val (.int (p1 &&& (3 : Int32))), .val (.int (Int32.ofNat len)), .val (.int fl), .val (.ref b1), uS] []))
   have Jjh : ∀ (Tjh : State) (hjh : Heap) (Ljh : List Loc) (vmjh : Vm) (kjh : Nat) (us : List Int32), Stand p l e room_1 (s.setVm vmjh) m #[(.int p0), (.int p1), (.int p2), (.int p3), (.int p4), (.int p5)] below meth c Tjh Ljh 3 65 → Tjh.heap = hjh → Fr n0 Ljh → n0 ≤ hjh.size → Z.Warmed39 vmjh → vmjh.findClass "com/example/sillon/sillon/siri/GeneralMessageChannelNamedPinLaw" = some m.cls → s.Since vmjh kjh → kjh ≤ hjh.size → CHr Z EL s.vm h0 vmjh hjh → Arv Z hjh b1 k1 .char (Int32.ofNat len) (us.map Value.int) (.int (0 : Int32)) → Old Z n0 hjh → Str Z hjh xq tq kq ts → us.length = len → (∀ c ∈ us, ¬ c < 0 ∧ ¬ (255 : Int32) < c) → Goes p.tables e below QQ (Tjh.setTop (mkF m 229 #[.val (.int p0), .val (.int p1), .val (.int p2), .val (.int p3), .val (.int p4), .val (.int p5), .val (.int (p0 &&& (3 : Int32))), .val (.ref xq), .val (.int (p1 &&& (3 : Int32))), .val (.int (Int32.ofNat len)), .val (.int fl), .val (.ref b1), uS] [])) := by
    intro Tjh hjh Ljh vmjh kjh us Xjh ejh Njh Zjh hZjh hownjh hSjh hkjh CRjh Pjh_0 Pjh_1 Pjh_2 hu hr
    show Goes _ _ _ _ (Tjh.setTop (mkF m 229 #[.val (.int p0), .val (.int p1), .val (.int p2), .val (.int p3), .val (.int p4), .val (.int p5), .val (.int (p0 &&& (3 : Int32))), .val (.ref xq), .val (.int (p1 &&& (3 : Int32))), .val (.int (Int32.ofNat len)), .val (.int fl), .val (.ref b1), uS] []))
    refine Goes.st (fun sT kT => XS.iload Xjh.here hx rfl (hb hby at_229) rfl kT) ?_
    show Goes _ _ _ _ (Tjh.setTop (mkF m 231 #[.val (.int p0), .val (.int p1), .val (.int p2), .val (.int p3), .val (.int p4), .val (.int p5), .val (.int (p0 &&& (3 : Int32))), .val (.ref xq), .val (.int (p1 &&& (3 : Int32))), .val (.int (Int32.ofNat len)), .val (.int fl), .val (.ref b1), uS] [(.int (Int32.ofNat len))]))
    refine Goes.st (fun sT kT => XS.bipush Xjh.here hx rfl (hb hby at_231) kT) ?_
    show Goes _ _ _ _ (Tjh.setTop (mkF m 233 #[.val (.int p0), .val (.int p1), .val (.int p2), .val (.int p3), .val (.int p4), .val (.int p5), .val (.int (p0 &&& (3 : Int32))), .val (.ref xq), .val (.int (p1 &&& (3 : Int32))), .val (.int (Int32.ofNat len)), .val (.int fl), .val (.ref b1), uS] [(.int (6 : Int32)), (.int (Int32.ofNat len))]))
    by_cases cz79 : (6 : Int32) < (Int32.ofNat len)
    case pos =>
     refine Goes.st (fun sT kT => XS.icmpNo Xjh.here hx rfl (hb hby at_233) rfl (tlt cz79).2.2.2 kT) ?_
     show Goes _ _ _ _ (Tjh.setTop (mkF m 236 #[.val (.int p0), .val (.int p1), .val (.int p2), .val (.int p3), .val (.int p4), .val (.int p5), .val (.int (p0 &&& (3 : Int32))), .val (.ref xq), .val (.int (p1 &&& (3 : Int32))), .val (.int (Int32.ofNat len)), .val (.int fl), .val (.ref b1), uS] []))
     refine Goes.st (fun sT kT => XS.aload Xjh.here hx rfl (hb hby at_236) rfl rfl kT) ?_
     show Goes _ _ _ _ (Tjh.setTop (mkF m 238 #[.val (.int p0), .val (.int p1), .val (.int p2), .val (.int p3), .val (.int p4), .val (.int p5), .val (.int (p0 &&& (3 : Int32))), .val (.ref xq), .val (.int (p1 &&& (3 : Int32))), .val (.int (Int32.ofNat len)), .val (.int fl), .val (.ref b1), uS] [(.ref b1)]))
     refine Goes.st (fun sT kT => XS.bipush Xjh.here hx rfl (hb hby at_238) kT) ?_
     show Goes _ _ _ _ (Tjh.setTop (mkF m 240 #[.val (.int p0), .val (.int p1), .val (.int p2), .val (.int p3), .val (.int p4), .val (.int p5), .val (.int (p0 &&& (3 : Int32))), .val (.ref xq), .val (.int (p1 &&& (3 : Int32))), .val (.int (Int32.ofNat len)), .val (.int fl), .val (.ref b1), uS] [(.int (6 : Int32)), (.ref b1)]))
     refine Goes.st (fun sT kT => XS.aload Xjh.here hx rfl (hb hby at_240) rfl rfl kT) ?_
     show Goes _ _ _ _ (Tjh.setTop (mkF m 242 #[.val (.int p0), .val (.int p1), .val (.int p2), .val (.int p3), .val (.int p4), .val (.int p5), .val (.int (p0 &&& (3 : Int32))), .val (.ref xq), .val (.int (p1 &&& (3 : Int32))), .val (.int (Int32.ofNat len)), .val (.int fl), .val (.ref b1), uS] [(.ref xq), (.int (6 : Int32)), (.ref b1)]))
     refine Goes.st (fun sT kT => XS.bipush Xjh.here hx rfl (hb hby at_242) kT) ?_
     show Goes _ _ _ _ (Tjh.setTop (mkF m 244 #[.val (.int p0), .val (.int p1), .val (.int p2), .val (.int p3), .val (.int p4), .val (.int p5), .val (.int (p0 &&& (3 : Int32))), .val (.ref xq), .val (.int (p1 &&& (3 : Int32))), .val (.int (Int32.ofNat len)), .val (.int fl), .val (.ref b1), uS] [(.int (6 : Int32)), (.ref xq), (.int (6 : Int32)), (.ref b1)]))
     refine Goes.st (fun sT kT => XS.iload Xjh.here hx rfl (hb hby at_244) rfl kT) ?_
     show Goes _ _ _ _ (Tjh.setTop (mkF m 246 #[.val (.int p0), .val (.int p1), .val (.int p2), .val (.int p3), .val (.int p4), .val (.int p5), .val (.int (p0 &&& (3 : Int32))), .val (.ref xq), .val (.int (p1 &&& (3 : Int32))), .val (.int (Int32.ofNat len)), .val (.int fl), .val (.ref b1), uS] [(.int fl), (.int (6 : Int32)), (.ref xq), (.int (6 : Int32)), (.ref b1)]))
     obtain ⟨_, _, ⟨T80, L80, k80, n80⟩, -, X80, ⟨Lc80, hQ80, l80, y80, z80⟩, st80⟩ := Jvm.LawKit.callS Xjh hx (y := (⟨"com/example/sillon/sillon/siri/GeneralMessageChannelNamedPinLaw", "at", "(Ljava/lang/String;II)C"⟩ : MethodName)) hownjh (mvT hZjh (hw55 hw)) (mvT hZjh (hw56 hw)) (mvT hZjh (hw40 hw)) (mvT hZjh (hw57 hw)) (by decide) (backOf (W := 2) (rm_att l Z a0 hw [] xq tq kq ts 6 fl G1 vF hjh n0 Zjh Pjh_2 Pjh_1 (by decide) rg_fl O2 P5 OF rF) hZjh (hw57 hw) (hw40 hw) (by decide) (by decide)) (g := (mkF m 246 #[.val (.int p0), .val (.int p1), .val (.int p2), .val (.int p3), .val (.int p4), .val (.int p5), .val (.int (p0 &&& (3 : Int32))), .val (.ref xq), .val (.int (p1 &&& (3 : Int32))), .val (.int (Int32.ofNat len)), .val (.int fl), .val (.ref b1), uS] [(.int fl), (.int (6 : Int32)), (.ref xq), (.int (6 : Int32)), (.ref b1)])) rfl (by rw [hml]; rfl) (argsL := [(.ref xq), (.int (6 : Int32)), (.int fl)]) (rest := [(.int (6 : Int32)), (.ref b1)]) (lenOf pd_7 rfl) rfl (by show 2 * 0 + _ ≤ _; exact Nat.le_of_eq rfl) (hb hby at_246) (fun _ _ => ⟨rfl, ejh, (by decide : 3 + 0 ≤ _), (by decide : 65 + 0 ≤ _)⟩)
     dsimp only [Pt.U, Pt.locs, Pt.cells, Pt.slots] at X80 l80 y80 z80 st80 hQ80
     subst l80 y80 z80
     obtain ⟨cc80, rfl, N80q, K80, rg_80⟩ := hQ80
     have N80 := Fr.app Njh N80q
     refine Goes.st st80 ?_
     show Goes _ _ _ _ (T80.setTop (mkF m 249 #[.val (.int p0), .val (.int p1), .val (.int p2), .val (.int p3), .val (.int p4), .val (.int p5), .val (.int (p0 &&& (3 : Int32))), .val (.ref xq), .val (.int (p1 &&& (3 : Int32))), .val (.int (Int32.ofNat len)), .val (.int fl), .val (.ref b1), uS] [(.int cc80), (.int (6 : Int32)), (.ref b1)]))
     obtain ⟨oc81, oA81, oq81, oS81, oM81, oH81, oG81⟩ := id Pjh_0
     obtain ⟨T82, h82, X82, e82, W82, st82⟩ := stC X80 hx hZjh K80 oA81 (j := (6 : Int32)) (inb_of oS81 ⟨by decide, cz79⟩) (g := (mkF m 249 #[.val (.int p0), .val (.int p1), .val (.int p2), .val (.int p3), .val (.int p4), .val (.int p5), .val (.int (p0 &&& (3 : Int32))), .val (.ref xq), .val (.int (p1 &&& (3 : Int32))), .val (.int (Int32.ofNat len)), .val (.int fl), .val (.ref b1), uS] [(.int cc80), (.int (6 : Int32)), (.ref b1)])) rfl rfl (hb hby at_249)
     rw [own_narc rg_80] at W82
     have V82 : Arv Z h82 b1 k1 .char (Int32.ofNat len) ((us.set 6 cc80).map Value.int) (.int (0 : Int32)) := own_ms _ _ _ ▸ Arv.set oA81 oq81 oS81 oM81 oH81 oG81 (own_fitsc rg_80) W82 (6) rfl (by rw [List.length_map, hu]; exact ((own_nlt (i := 6) (n := len) (by decide) (own_l31 hlen)).mp cz79))
     have N82 := Fr.snoc X82 N80 nb
     have CR83 : CHr Z EL s.vm h0 vmjh h82 := CRjh.trans (CHr.wr W82 (own_safeArv hZjh.alike Pjh_0 (by simp)) CRjh.1)
     refine Goes.st st82 ?_
     show Goes _ _ _ _ (T82.setTop (mkF m 250 #[.val (.int p0), .val (.int p1), .val (.int p2), .val (.int p3), .val (.int p4), .val (.int p5), .val (.int (p0 &&& (3 : Int32))), .val (.ref xq), .val (.int (p1 &&& (3 : Int32))), .val (.int (Int32.ofNat len)), .val (.int fl), .val (.ref b1), uS] []))
     have f84 : Old Z n0 h82 := (Pjh_1.wr W82 nb)
     have f85 : Str Z h82 xq tq kq ts := (Pjh_2.other W82 nq nt)
     exact Jji T82 h82 _ vmjh _ (us.set 6 cc80) (X82.more (by decide) (by decide)) e82 N82 (Nat.le_trans Zjh (Nat.le_of_eq W82.size.symm)) hZjh hownjh hSjh (Nat.le_trans hkjh (Nat.le_of_eq W82.size.symm)) CR83 V82 f84 f85 (by rw [List.length_set]; exact hu) (own_rset hr rg_80)
    case neg =>
     refine Goes.st (fun sT kT => XS.icmpYes Xjh.here hx rfl (pc0 := 233) (pc' := 250) rfl (hb hby at_233) rfl (flt cz79).2.2.2 (by decide) (by decide) kT) ?_
     show Goes _ _ _ _ (Tjh.setTop (mkF m 250 #[.val (.int p0), .val (.int p1), .val (.int p2), .val (.int p3), .val (.int p4), .val (.int p5), .val (.int (p0 &&& (3 : Int32))), .val (.ref xq), .val (.int (p1 &&& (3 : Int32))), .val (.int (Int32.ofNat len)), .val (.int fl), .val (.ref b1), uS] []))
     exact Jji Tjh hjh _ vmjh _ us (Xjh.more (by decide) (by decide)) ejh Njh Zjh hZjh hownjh hSjh hkjh CRjh Pjh_0 Pjh_1 Pjh_2 hu hr
   show Goes _ _ _ _ (T1.setTop (mkF m 122 #[.val (.int p0), .val (.int p1), .val (.int p2), .val (.int p3), .val (.int p4), .val (.int p5), .val (.int (p0 &&& (3 : Int32))), .val (.ref xq), .val (.int (p1 &&& (3 : Int32))), .val (.int (Int32.ofNat len)), .val (.int fl), .val (.ref b1), uS] []))
   have Jjg : ∀ (Tjg : State) (hjg : Heap) (Ljg : List Loc) (vmjg : Vm) (kjg : Nat) (us : List Int32), Stand p l e room_1 (s.setVm vmjg) m #[(.int p0), (.int p1), (.int p2), (.int p3), (.int p4), (.int p5)] below meth c Tjg Ljg 3 65 → Tjg.heap = hjg → Fr n0 Ljg → n0 ≤ hjg.size → Z.Warmed39 vmjg → vmjg.findClass "com/example/sillon/sillon/siri/GeneralMessageChannelNamedPinLaw" = some m.cls → s.Since vmjg kjg → kjg ≤ hjg.size → CHr Z EL s.vm h0 vmjg hjg → Arv Z hjg b1 k1 .char (Int32.ofNat len) (us.map Value.int) (.int (0 : Int32)) → Old Z n0 hjg → Str Z hjg xq tq kq ts → us.length = len → (∀ c ∈ us, ¬ c < 0 ∧ ¬ (255 : Int32) < c) → Goes p.tables e below QQ (Tjg.setTop (mkF m 211 #[.val (.int p0), .val (.int p1), .val (.int p2), .val (.int p3), .val (.int p4), .val (.int p5), .val (.int (p0 &&& (3 : Int32))), .val (.ref xq), .val (.int (p1 &&& (3 : Int32))), .val (.int (Int32.ofNat len)), .val (.int fl), .val (.ref b1), uS] [])) := by
    intro Tjg hjg Ljg vmjg kjg us Xjg ejg Njg Zjg hZjg hownjg hSjg hkjg CRjg Pjg_0 Pjg_1 Pjg_2 hu hr
    show Goes _ _ _ _ (Tjg.setTop (mkF m 211 #[.val (.int p0), .val (.int p1), .val (.int p2), .val (.int p3), .val (.int p4), .val (.int p5), .val (.int (p0 &&& (3 : Int32))), .val (.ref xq), .val (.int (p1 &&& (3 : Int32))), .val (.int (Int32.ofNat len)), .val (.int fl), .val (.ref b1), uS] []))
    refine Goes.st (fun sT kT => XS.iload Xjg.here hx rfl (hb hby at_211) rfl kT) ?_
    show Goes _ _ _ _ (Tjg.setTop (mkF m 213 #[.val (.int p0), .val (.int p1), .val (.int p2), .val (.int p3), .val (.int p4), .val (.int p5), .val (.int (p0 &&& (3 : Int32))), .val (.ref xq), .val (.int (p1 &&& (3 : Int32))), .val (.int (Int32.ofNat len)), .val (.int fl), .val (.ref b1), uS] [(.int (Int32.ofNat len))]))
    refine Goes.st (fun sT kT => XS.iconst Xjg.here hx rfl (hb hby at_213) kT) ?_
    show Goes _ _ _ _ (Tjg.setTop (mkF m 214 #[.val (.int p0), .val (.int p1), .val (.int p2), .val (.int p3), .val (.int p4), .val (.int p5), .val (.int (p0 &&& (3 : Int32))), .val (.ref xq), .val (.int (p1 &&& (3 : Int32))), .val (.int (Int32.ofNat len)), .val (.int fl), .val (.ref b1), uS] [(.int (5 : Int32)), (.int (Int32.ofNat len))]))
    by_cases cz86 : (5 : Int32) < (Int32.ofNat len)
    case pos =>
     refine Goes.st (fun sT kT => XS.icmpNo Xjg.here hx rfl (hb hby at_214) rfl (tlt cz86).2.2.2 kT) ?_
     show Goes _ _ _ _ (Tjg.setTop (mkF m 217 #[.val (.int p0), .val (.int p1), .val (.int p2), .val (.int p3), .val (.int p4), .val (.int p5), .val (.int (p0 &&& (3 : Int32))), .val (.ref xq), .val (.int (p1 &&& (3 : Int32))), .val (.int (Int32.ofNat len)), .val (.int fl), .val (.ref b1), uS] []))
     refine Goes.st (fun sT kT => XS.aload Xjg.here hx rfl (hb hby at_217) rfl rfl kT) ?_
     show Goes _ _ _ _ (Tjg.setTop (mkF m 219 #[.val (.int p0), .val (.int p1), .val (.int p2), .val (.int p3), .val (.int p4), .val (.int p5), .val (.int (p0 &&& (3 : Int32))), .val (.ref xq), .val (.int (p1 &&& (3 : Int32))), .val (.int (Int32.ofNat len)), .val (.int fl), .val (.ref b1), uS] [(.ref b1)]))
     refine Goes.st (fun sT kT => XS.iconst Xjg.here hx rfl (hb hby at_219) kT) ?_
     show Goes _ _ _ _ (Tjg.setTop (mkF m 220 #[.val (.int p0), .val (.int p1), .val (.int p2), .val (.int p3), .val (.int p4), .val (.int p5), .val (.int (p0 &&& (3 : Int32))), .val (.ref xq), .val (.int (p1 &&& (3 : Int32))), .val (.int (Int32.ofNat len)), .val (.int fl), .val (.ref b1), uS] [(.int (5 : Int32)), (.ref b1)]))
     refine Goes.st (fun sT kT => XS.aload Xjg.here hx rfl (hb hby at_220) rfl rfl kT) ?_
     show Goes _ _ _ _ (Tjg.setTop (mkF m 222 #[.val (.int p0), .val (.int p1), .val (.int p2), .val (.int p3), .val (.int p4), .val (.int p5), .val (.int (p0 &&& (3 : Int32))), .val (.ref xq), .val (.int (p1 &&& (3 : Int32))), .val (.int (Int32.ofNat len)), .val (.int fl), .val (.ref b1), uS] [(.ref xq), (.int (5 : Int32)), (.ref b1)]))
     refine Goes.st (fun sT kT => XS.iconst Xjg.here hx rfl (hb hby at_222) kT) ?_
     show Goes _ _ _ _ (Tjg.setTop (mkF m 223 #[.val (.int p0), .val (.int p1), .val (.int p2), .val (.int p3), .val (.int p4), .val (.int p5), .val (.int (p0 &&& (3 : Int32))), .val (.ref xq), .val (.int (p1 &&& (3 : Int32))), .val (.int (Int32.ofNat len)), .val (.int fl), .val (.ref b1), uS] [(.int (5 : Int32)), (.ref xq), (.int (5 : Int32)), (.ref b1)]))
     refine Goes.st (fun sT kT => XS.iload Xjg.here hx rfl (hb hby at_223) rfl kT) ?_
     show Goes _ _ _ _ (Tjg.setTop (mkF m 225 #[.val (.int p0), .val (.int p1), .val (.int p2), .val (.int p3), .val (.int p4), .val (.int p5), .val (.int (p0 &&& (3 : Int32))), .val (.ref xq), .val (.int (p1 &&& (3 : Int32))), .val (.int (Int32.ofNat len)), .val (.int fl), .val (.ref b1), uS] [(.int fl), (.int (5 : Int32)), (.ref xq), (.int (5 : Int32)), (.ref b1)]))
     obtain ⟨_, _, ⟨T87, L87, k87, n87⟩, -, X87, ⟨Lc87, hQ87, l87, y87, z87⟩, st87⟩ := Jvm.LawKit.callS Xjg hx (y := (⟨"com/example/sillon/sillon/siri/GeneralMessageChannelNamedPinLaw", "at", "(Ljava/lang/String;II)C"⟩ : MethodName)) hownjg (mvT hZjg (hw55 hw)) (mvT hZjg (hw56 hw)) (mvT hZjg (hw40 hw)) (mvT hZjg (hw57 hw)) (by decide) (backOf (W := 2) (rm_att l Z a0 hw [] xq tq kq ts 5 fl G1 vF hjg n0 Zjg Pjg_2 Pjg_1 (by decide) rg_fl O2 P5 OF rF) hZjg (hw57 hw) (hw40 hw) (by decide) (by decide)) (g := (mkF m 225 #[.val (.int p0), .val (.int p1), .val (.int p2), .val (.int p3), .val (.int p4), .val (.int p5), .val (.int (p0 &&& (3 : Int32))), .val (.ref xq), .val (.int (p1 &&& (3 : Int32))), .val (.int (Int32.ofNat len)), .val (.int fl), .val (.ref b1), uS] [(.int fl), (.int (5 : Int32)), (.ref xq), (.int (5 : Int32)), (.ref b1)])) rfl (by rw [hml]; rfl) (argsL := [(.ref xq), (.int (5 : Int32)), (.int fl)]) (rest := [(.int (5 : Int32)), (.ref b1)]) (lenOf pd_7 rfl) rfl (by show 2 * 0 + _ ≤ _; exact Nat.le_of_eq rfl) (hb hby at_225) (fun _ _ => ⟨rfl, ejg, (by decide : 3 + 0 ≤ _), (by decide : 65 + 0 ≤ _)⟩)
     dsimp only [Pt.U, Pt.locs, Pt.cells, Pt.slots] at X87 l87 y87 z87 st87 hQ87
     subst l87 y87 z87
     obtain ⟨cc87, rfl, N87q, K87, rg_87⟩ := hQ87
     have N87 := Fr.app Njg N87q
     refine Goes.st st87 ?_
     show Goes _ _ _ _ (T87.setTop (mkF m 228 #[.val (.int p0), .val (.int p1), .val (.int p2), .val (.int p3), .val (.int p4), .val (.int p5), .val (.int (p0 &&& (3 : Int32))), .val (.ref xq), .val (.int (p1 &&& (3 : Int32))), .val (.int (Int32.ofNat len)), .val (.int fl), .val (.ref b1), uS] [(.int cc87), (.int (5 : Int32)), (.ref b1)]))
     obtain ⟨oc88, oA88, oq88, oS88, oM88, oH88, oG88⟩ := id Pjg_0
     obtain ⟨T89, h89, X89, e89, W89, st89⟩ := stC X87 hx hZjg K87 oA88 (j := (5 : Int32)) (inb_of oS88 ⟨by decide, cz86⟩) (g := (mkF m 228 #[.val (.int p0), .val (.int p1), .val (.int p2), .val (.int p3), .val (.int p4), .val (.int p5), .val (.int (p0 &&& (3 : Int32))), .val (.ref xq), .val (.int (p1 &&& (3 : Int32))), .val (.int (Int32.ofNat len)), .val (.int fl), .val (.ref b1), uS] [(.int cc87), (.int (5 : Int32)), (.ref b1)])) rfl rfl (hb hby at_228)
     rw [own_narc rg_87] at W89
     have V89 : Arv Z h89 b1 k1 .char (Int32.ofNat len) ((us.set 5 cc87).map Value.int) (.int (0 : Int32)) := own_ms _ _ _ ▸ Arv.set oA88 oq88 oS88 oM88 oH88 oG88 (own_fitsc rg_87) W89 (5) rfl (by rw [List.length_map, hu]; exact ((own_nlt (i := 5) (n := len) (by decide) (own_l31 hlen)).mp cz86))
     have N89 := Fr.snoc X89 N87 nb
     have CR90 : CHr Z EL s.vm h0 vmjg h89 := CRjg.trans (CHr.wr W89 (own_safeArv hZjg.alike Pjg_0 (by simp)) CRjg.1)
     refine Goes.st st89 ?_
     show Goes _ _ _ _ (T89.setTop (mkF m 229 #[.val (.int p0), .val (.int p1), .val (.int p2), .val (.int p3), .val (.int p4), .val (.int p5), .val (.int (p0 &&& (3 : Int32))), .val (.ref xq), .val (.int (p1 &&& (3 : Int32))), .val (.int (Int32.ofNat len)), .val (.int fl), .val (.ref b1), uS] []))
     have f91 : Old Z n0 h89 := (Pjg_1.wr W89 nb)
     have f92 : Str Z h89 xq tq kq ts := (Pjg_2.other W89 nq nt)
     exact Jjh T89 h89 _ vmjg _ (us.set 5 cc87) (X89.more (by decide) (by decide)) e89 N89 (Nat.le_trans Zjg (Nat.le_of_eq W89.size.symm)) hZjg hownjg hSjg (Nat.le_trans hkjg (Nat.le_of_eq W89.size.symm)) CR90 V89 f91 f92 (by rw [List.length_set]; exact hu) (own_rset hr rg_87)
    case neg =>
     refine Goes.st (fun sT kT => XS.icmpYes Xjg.here hx rfl (pc0 := 214) (pc' := 229) rfl (hb hby at_214) rfl (flt cz86).2.2.2 (by decide) (by decide) kT) ?_
     show Goes _ _ _ _ (Tjg.setTop (mkF m 229 #[.val (.int p0), .val (.int p1), .val (.int p2), .val (.int p3), .val (.int p4), .val (.int p5), .val (.int (p0 &&& (3 : Int32))), .val (.ref xq), .val (.int (p1 &&& (3 : Int32))), .val (.int (Int32.ofNat len)), .val (.int fl), .val (.ref b1), uS] []))
     exact Jjh Tjg hjg _ vmjg _ us (Xjg.more (by decide) (by decide)) ejg Njg Zjg hZjg hownjg hSjg hkjg CRjg Pjg_0 Pjg_1 Pjg_2 hu hr
   show Goes _ _ _ _ (T1.setTop (mkF m 122 #[.val (.int p0), .val (.int p1), .val (.int p2), .val (.int p3), .val (.int p4), .val (.int p5), .val (.int (p0 &&& (3 : Int32))), .val (.ref xq), .val (.int (p1 &&& (3 : Int32))), .val (.int (Int32.ofNat len)), .val (.int fl), .val (.ref b1), uS] []))
   have Jjf : ∀ (Tjf : State) (hjf : Heap) (Ljf : List Loc) (vmjf : Vm) (kjf : Nat) (us : List Int32), Stand p l e room_1 (s.setVm vmjf) m #[(.int p0), (.int p1), (.int p2), (.int p3), (.int p4), (.int p5)] below meth c Tjf Ljf 3 65 → Tjf.heap = hjf → Fr n0 Ljf → n0 ≤ hjf.size → Z.Warmed39 vmjf → vmjf.findClass "com/example/sillon/sillon/siri/GeneralMessageChannelNamedPinLaw" = some m.cls → s.Since vmjf kjf → kjf ≤ hjf.size → CHr Z EL s.vm h0 vmjf hjf → Arv Z hjf b1 k1 .char (Int32.ofNat len) (us.map Value.int) (.int (0 : Int32)) → Old Z n0 hjf → Str Z hjf xq tq kq ts → us.length = len → (∀ c ∈ us, ¬ c < 0 ∧ ¬ (255 : Int32) < c) → Goes p.tables e below QQ (Tjf.setTop (mkF m 193 #[.val (.int p0), .val (.int p1), .val (.int p2), .val (.int p3), .val (.int p4), .val (.int p5), .val (.int (p0 &&& (3 : Int32))), .val (.ref xq), .val (.int (p1 &&& (3 : Int32))), .val (.int (Int32.ofNat len)), .val (.int fl), .val (.ref b1), uS] [])) := by
    intro Tjf hjf Ljf vmjf kjf us Xjf ejf Njf Zjf hZjf hownjf hSjf hkjf CRjf Pjf_0 Pjf_1 Pjf_2 hu hr
    show Goes _ _ _ _ (Tjf.setTop (mkF m 193 #[.val (.int p0), .val (.int p1), .val (.int p2), .val (.int p3), .val (.int p4), .val (.int p5), .val (.int (p0 &&& (3 : Int32))), .val (.ref xq), .val (.int (p1 &&& (3 : Int32))), .val (.int (Int32.ofNat len)), .val (.int fl), .val (.ref b1), uS] []))
    refine Goes.st (fun sT kT => XS.iload Xjf.here hx rfl (hb hby at_193) rfl kT) ?_
    show Goes _ _ _ _ (Tjf.setTop (mkF m 195 #[.val (.int p0), .val (.int p1), .val (.int p2), .val (.int p3), .val (.int p4), .val (.int p5), .val (.int (p0 &&& (3 : Int32))), .val (.ref xq), .val (.int (p1 &&& (3 : Int32))), .val (.int (Int32.ofNat len)), .val (.int fl), .val (.ref b1), uS] [(.int (Int32.ofNat len))]))
    refine Goes.st (fun sT kT => XS.iconst Xjf.here hx rfl (hb hby at_195) kT) ?_
    show Goes _ _ _ _ (Tjf.setTop (mkF m 196 #[.val (.int p0), .val (.int p1), .val (.int p2), .val (.int p3), .val (.int p4), .val (.int p5), .val (.int (p0 &&& (3 : Int32))), .val (.ref xq), .val (.int (p1 &&& (3 : Int32))), .val (.int (Int32.ofNat len)), .val (.int fl), .val (.ref b1), uS] [(.int (4 : Int32)), (.int (Int32.ofNat len))]))
    by_cases cz93 : (4 : Int32) < (Int32.ofNat len)
    case pos =>
     refine Goes.st (fun sT kT => XS.icmpNo Xjf.here hx rfl (hb hby at_196) rfl (tlt cz93).2.2.2 kT) ?_
     show Goes _ _ _ _ (Tjf.setTop (mkF m 199 #[.val (.int p0), .val (.int p1), .val (.int p2), .val (.int p3), .val (.int p4), .val (.int p5), .val (.int (p0 &&& (3 : Int32))), .val (.ref xq), .val (.int (p1 &&& (3 : Int32))), .val (.int (Int32.ofNat len)), .val (.int fl), .val (.ref b1), uS] []))
     refine Goes.st (fun sT kT => XS.aload Xjf.here hx rfl (hb hby at_199) rfl rfl kT) ?_
     show Goes _ _ _ _ (Tjf.setTop (mkF m 201 #[.val (.int p0), .val (.int p1), .val (.int p2), .val (.int p3), .val (.int p4), .val (.int p5), .val (.int (p0 &&& (3 : Int32))), .val (.ref xq), .val (.int (p1 &&& (3 : Int32))), .val (.int (Int32.ofNat len)), .val (.int fl), .val (.ref b1), uS] [(.ref b1)]))
     refine Goes.st (fun sT kT => XS.iconst Xjf.here hx rfl (hb hby at_201) kT) ?_
     show Goes _ _ _ _ (Tjf.setTop (mkF m 202 #[.val (.int p0), .val (.int p1), .val (.int p2), .val (.int p3), .val (.int p4), .val (.int p5), .val (.int (p0 &&& (3 : Int32))), .val (.ref xq), .val (.int (p1 &&& (3 : Int32))), .val (.int (Int32.ofNat len)), .val (.int fl), .val (.ref b1), uS] [(.int (4 : Int32)), (.ref b1)]))
     refine Goes.st (fun sT kT => XS.aload Xjf.here hx rfl (hb hby at_202) rfl rfl kT) ?_
     show Goes _ _ _ _ (Tjf.setTop (mkF m 204 #[.val (.int p0), .val (.int p1), .val (.int p2), .val (.int p3), .val (.int p4), .val (.int p5), .val (.int (p0 &&& (3 : Int32))), .val (.ref xq), .val (.int (p1 &&& (3 : Int32))), .val (.int (Int32.ofNat len)), .val (.int fl), .val (.ref b1), uS] [(.ref xq), (.int (4 : Int32)), (.ref b1)]))
     refine Goes.st (fun sT kT => XS.iconst Xjf.here hx rfl (hb hby at_204) kT) ?_
     show Goes _ _ _ _ (Tjf.setTop (mkF m 205 #[.val (.int p0), .val (.int p1), .val (.int p2), .val (.int p3), .val (.int p4), .val (.int p5), .val (.int (p0 &&& (3 : Int32))), .val (.ref xq), .val (.int (p1 &&& (3 : Int32))), .val (.int (Int32.ofNat len)), .val (.int fl), .val (.ref b1), uS] [(.int (4 : Int32)), (.ref xq), (.int (4 : Int32)), (.ref b1)]))
     refine Goes.st (fun sT kT => XS.iload Xjf.here hx rfl (hb hby at_205) rfl kT) ?_
     show Goes _ _ _ _ (Tjf.setTop (mkF m 207 #[.val (.int p0), .val (.int p1), .val (.int p2), .val (.int p3), .val (.int p4), .val (.int p5), .val (.int (p0 &&& (3 : Int32))), .val (.ref xq), .val (.int (p1 &&& (3 : Int32))), .val (.int (Int32.ofNat len)), .val (.int fl), .val (.ref b1), uS] [(.int fl), (.int (4 : Int32)), (.ref xq), (.int (4 : Int32)), (.ref b1)]))
     obtain ⟨_, _, ⟨T94, L94, k94, n94⟩, -, X94, ⟨Lc94, hQ94, l94, y94, z94⟩, st94⟩ := Jvm.LawKit.callS Xjf hx (y := (⟨"com/example/sillon/sillon/siri/GeneralMessageChannelNamedPinLaw", "at", "(Ljava/lang/String;II)C"⟩ : MethodName)) hownjf (mvT hZjf (hw55 hw)) (mvT hZjf (hw56 hw)) (mvT hZjf (hw40 hw)) (mvT hZjf (hw57 hw)) (by decide) (backOf (W := 2) (rm_att l Z a0 hw [] xq tq kq ts 4 fl G1 vF hjf n0 Zjf Pjf_2 Pjf_1 (by decide) rg_fl O2 P5 OF rF) hZjf (hw57 hw) (hw40 hw) (by decide) (by decide)) (g := (mkF m 207 #[.val (.int p0), .val (.int p1), .val (.int p2), .val (.int p3), .val (.int p4), .val (.int p5), .val (.int (p0 &&& (3 : Int32))), .val (.ref xq), .val (.int (p1 &&& (3 : Int32))), .val (.int (Int32.ofNat len)), .val (.int fl), .val (.ref b1), uS] [(.int fl), (.int (4 : Int32)), (.ref xq), (.int (4 : Int32)), (.ref b1)])) rfl (by rw [hml]; rfl) (argsL := [(.ref xq), (.int (4 : Int32)), (.int fl)]) (rest := [(.int (4 : Int32)), (.ref b1)]) (lenOf pd_7 rfl) rfl (by show 2 * 0 + _ ≤ _; exact Nat.le_of_eq rfl) (hb hby at_207) (fun _ _ => ⟨rfl, ejf, (by decide : 3 + 0 ≤ _), (by decide : 65 + 0 ≤ _)⟩)
     dsimp only [Pt.U, Pt.locs, Pt.cells, Pt.slots] at X94 l94 y94 z94 st94 hQ94
     subst l94 y94 z94
     obtain ⟨cc94, rfl, N94q, K94, rg_94⟩ := hQ94
     have N94 := Fr.app Njf N94q
     refine Goes.st st94 ?_
     show Goes _ _ _ _ (T94.setTop (mkF m 210 #[.val (.int p0), .val (.int p1), .val (.int p2), .val (.int p3), .val (.int p4), .val (.int p5), .val (.int (p0 &&& (3 : Int32))), .val (.ref xq), .val (.int (p1 &&& (3 : Int32))), .val (.int (Int32.ofNat len)), .val (.int fl), .val (.ref b1), uS] [(.int cc94), (.int (4 : Int32)), (.ref b1)]))
     obtain ⟨oc95, oA95, oq95, oS95, oM95, oH95, oG95⟩ := id Pjf_0
     obtain ⟨T96, h96, X96, e96, W96, st96⟩ := stC X94 hx hZjf K94 oA95 (j := (4 : Int32)) (inb_of oS95 ⟨by decide, cz93⟩) (g := (mkF m 210 #[.val (.int p0), .val (.int p1), .val (.int p2), .val (.int p3), .val (.int p4), .val (.int p5), .val (.int (p0 &&& (3 : Int32))), .val (.ref xq), .val (.int (p1 &&& (3 : Int32))), .val (.int (Int32.ofNat len)), .val (.int fl), .val (.ref b1), uS] [(.int cc94), (.int (4 : Int32)), (.ref b1)])) rfl rfl (hb hby at_210)
     rw [own_narc rg_94] at W96
     have V96 : Arv Z h96 b1 k1 .char (Int32.ofNat len) ((us.set 4 cc94).map Value.int) (.int (0 : Int32)) := own_ms _ _ _ ▸ Arv.set oA95 oq95 oS95 oM95 oH95 oG95 (own_fitsc rg_94) W96 (4) rfl (by rw [List.length_map, hu]; exact ((own_nlt (i := 4) (n := len) (by decide) (own_l31 hlen)).mp cz93))
     have N96 := Fr.snoc X96 N94 nb
     have CR97 : CHr Z EL s.vm h0 vmjf h96 := CRjf.trans (CHr.wr W96 (own_safeArv hZjf.alike Pjf_0 (by simp)) CRjf.1)
     refine Goes.st st96 ?_
     show Goes _ _ _ _ (T96.setTop (mkF m 211 #[.val (.int p0), .val (.int p1), .val (.int p2), .val (.int p3), .val (.int p4), .val (.int p5), .val (.int (p0 &&& (3 : Int32))), .val (.ref xq), .val (.int (p1 &&& (3 : Int32))), .val (.int (Int32.ofNat len)), .val (.int fl), .val (.ref b1), uS] []))
     have f98 : Old Z n0 h96 := (Pjf_1.wr W96 nb)
     have f99 : Str Z h96 xq tq kq ts := (Pjf_2.other W96 nq nt)
     exact Jjg T96 h96 _ vmjf _ (us.set 4 cc94) (X96.more (by decide) (by decide)) e96 N96 (Nat.le_trans Zjf (Nat.le_of_eq W96.size.symm)) hZjf hownjf hSjf (Nat.le_trans hkjf (Nat.le_of_eq W96.size.symm)) CR97 V96 f98 f99 (by rw [List.length_set]; exact hu) (own_rset hr rg_94)
    case neg =>
     refine Goes.st (fun sT kT => XS.icmpYes Xjf.here hx rfl (pc0 := 196) (pc' := 211) rfl (hb hby at_196) rfl (flt cz93).2.2.2 (by decide) (by decide) kT) ?_
     show Goes _ _ _ _ (Tjf.setTop (mkF m 211 #[.val (.int p0), .val (.int p1), .val (.int p2), .val (.int p3), .val (.int p4), .val (.int p5), .val (.int (p0 &&& (3 : Int32))), .val (.ref xq), .val (.int (p1 &&& (3 : Int32))), .val (.int (Int32.ofNat len)), .val (.int fl), .val (.ref b1), uS] []))
     exact Jjg Tjf hjf _ vmjf _ us (Xjf.more (by decide) (by decide)) ejf Njf Zjf hZjf hownjf hSjf hkjf CRjf Pjf_0 Pjf_1 Pjf_2 hu hr
   show Goes _ _ _ _ (T1.setTop (mkF m 122 #[.val (.int p0), .val (.int p1), .val (.int p2), .val (.int p3), .val (.int p4), .val (.int p5), .val (.int (p0 &&& (3 : Int32))), .val (.ref xq), .val (.int (p1 &&& (3 : Int32))), .val (.int (Int32.ofNat len)), .val (.int fl), .val (.ref b1), uS] []))
   have Jje : ∀ (Tje : State) (hje : Heap) (Lje : List Loc) (vmje : Vm) (kje : Nat) (us : List Int32), Stand p l e room_1 (s.setVm vmje) m #[(.int p0), (.int p1), (.int p2), (.int p3), (.int p4), (.int p5)] below meth c Tje Lje 3 65 → Tje.heap = hje → Fr n0 Lje → n0 ≤ hje.size → Z.Warmed39 vmje → vmje.findClass "com/example/sillon/sillon/siri/GeneralMessageChannelNamedPinLaw" = some m.cls → s.Since vmje kje → kje ≤ hje.size → CHr Z EL s.vm h0 vmje hje → Arv Z hje b1 k1 .char (Int32.ofNat len) (us.map Value.int) (.int (0 : Int32)) → Old Z n0 hje → Str Z hje xq tq kq ts → us.length = len → (∀ c ∈ us, ¬ c < 0 ∧ ¬ (255 : Int32) < c) → Goes p.tables e below QQ (Tje.setTop (mkF m 175 #[.val (.int p0), .val (.int p1), .val (.int p2), .val (.int p3), .val (.int p4), .val (.int p5), .val (.int (p0 &&& (3 : Int32))), .val (.ref xq), .val (.int (p1 &&& (3 : Int32))), .val (.int (Int32.ofNat len)), .val (.int fl), .val (.ref b1), uS] [])) := by
    intro Tje hje Lje vmje kje us Xje eje Nje Zje hZje hownje hSje hkje CRje Pje_0 Pje_1 Pje_2 hu hr
    show Goes _ _ _ _ (Tje.setTop (mkF m 175 #[.val (.int p0), .val (.int p1), .val (.int p2), .val (.int p3), .val (.int p4), .val (.int p5), .val (.int (p0 &&& (3 : Int32))), .val (.ref xq), .val (.int (p1 &&& (3 : Int32))), .val (.int (Int32.ofNat len)), .val (.int fl), .val (.ref b1), uS] []))
    refine Goes.st (fun sT kT => XS.iload Xje.here hx rfl (hb hby at_175) rfl kT) ?_
    show Goes _ _ _ _ (Tje.setTop (mkF m 177 #[.val (.int p0), .val (.int p1), .val (.int p2), .val (.int p3), .val (.int p4), .val (.int p5), .val (.int (p0 &&& (3 : Int32))), .val (.ref xq), .val (.int (p1 &&& (3 : Int32))), .val (.int (Int32.ofNat len)), .val (.int fl), .val (.ref b1), uS] [(.int (Int32.ofNat len))]))
    refine Goes.st (fun sT kT => XS.iconst Xje.here hx rfl (hb hby at_177) kT) ?_
    show Goes _ _ _ _ (Tje.setTop (mkF m 178 #[.val (.int p0), .val (.int p1), .val (.int p2), .val (.int p3), .val (.int p4), .val (.int p5), .val (.int (p0 &&& (3 : Int32))), .val (.ref xq), .val (.int (p1 &&& (3 : Int32))), .val (.int (Int32.ofNat len)), .val (.int fl), .val (.ref b1), uS] [(.int (3 : Int32)), (.int (Int32.ofNat len))]))
    by_cases cz100 : (3 : Int32) < (Int32.ofNat len)
    case pos =>
     refine Goes.st (fun sT kT => XS.icmpNo Xje.here hx rfl (hb hby at_178) rfl (tlt cz100).2.2.2 kT) ?_
     show Goes _ _ _ _ (Tje.setTop (mkF m 181 #[.val (.int p0), .val (.int p1), .val (.int p2), .val (.int p3), .val (.int p4), .val (.int p5), .val (.int (p0 &&& (3 : Int32))), .val (.ref xq), .val (.int (p1 &&& (3 : Int32))), .val (.int (Int32.ofNat len)), .val (.int fl), .val (.ref b1), uS] []))
     refine Goes.st (fun sT kT => XS.aload Xje.here hx rfl (hb hby at_181) rfl rfl kT) ?_
     show Goes _ _ _ _ (Tje.setTop (mkF m 183 #[.val (.int p0), .val (.int p1), .val (.int p2), .val (.int p3), .val (.int p4), .val (.int p5), .val (.int (p0 &&& (3 : Int32))), .val (.ref xq), .val (.int (p1 &&& (3 : Int32))), .val (.int (Int32.ofNat len)), .val (.int fl), .val (.ref b1), uS] [(.ref b1)]))
     refine Goes.st (fun sT kT => XS.iconst Xje.here hx rfl (hb hby at_183) kT) ?_
     show Goes _ _ _ _ (Tje.setTop (mkF m 184 #[.val (.int p0), .val (.int p1), .val (.int p2), .val (.int p3), .val (.int p4), .val (.int p5), .val (.int (p0 &&& (3 : Int32))), .val (.ref xq), .val (.int (p1 &&& (3 : Int32))), .val (.int (Int32.ofNat len)), .val (.int fl), .val (.ref b1), uS] [(.int (3 : Int32)), (.ref b1)]))
     refine Goes.st (fun sT kT => XS.aload Xje.here hx rfl (hb hby at_184) rfl rfl kT) ?_
     show Goes _ _ _ _ (Tje.setTop (mkF m 186 #[.val (.int p0), .val (.int p1), .val (.int p2), .val (.int p3), .val (.int p4), .val (.int p5), .val (.int (p0 &&& (3 : Int32))), .val (.ref xq), .val (.int (p1 &&& (3 : Int32))), .val (.int (Int32.ofNat len)), .val (.int fl), .val (.ref b1), uS] [(.ref xq), (.int (3 : Int32)), (.ref b1)]))
     refine Goes.st (fun sT kT => XS.iconst Xje.here hx rfl (hb hby at_186) kT) ?_
     show Goes _ _ _ _ (Tje.setTop (mkF m 187 #[.val (.int p0), .val (.int p1), .val (.int p2), .val (.int p3), .val (.int p4), .val (.int p5), .val (.int (p0 &&& (3 : Int32))), .val (.ref xq), .val (.int (p1 &&& (3 : Int32))), .val (.int (Int32.ofNat len)), .val (.int fl), .val (.ref b1), uS] [(.int (3 : Int32)), (.ref xq), (.int (3 : Int32)), (.ref b1)]))
     refine Goes.st (fun sT kT => XS.iload Xje.here hx rfl (hb hby at_187) rfl kT) ?_
     show Goes _ _ _ _ (Tje.setTop (mkF m 189 #[.val (.int p0), .val (.int p1), .val (.int p2), .val (.int p3), .val (.int p4), .val (.int p5), .val (.int (p0 &&& (3 : Int32))), .val (.ref xq), .val (.int (p1 &&& (3 : Int32))), .val (.int (Int32.ofNat len)), .val (.int fl), .val (.ref b1), uS] [(.int fl), (.int (3 : Int32)), (.ref xq), (.int (3 : Int32)), (.ref b1)]))
     obtain ⟨_, _, ⟨T101, L101, k101, n101⟩, -, X101, ⟨Lc101, hQ101, l101, y101, z101⟩, st101⟩ := Jvm.LawKit.callS Xje hx (y := (⟨"com/example/sillon/sillon/siri/GeneralMessageChannelNamedPinLaw", "at", "(Ljava/lang/String;II)C"⟩ : MethodName)) hownje (mvT hZje (hw55 hw)) (mvT hZje (hw56 hw)) (mvT hZje (hw40 hw)) (mvT hZje (hw57 hw)) (by decide) (backOf (W := 2) (rm_att l Z a0 hw [] xq tq kq ts 3 fl G1 vF hje n0 Zje Pje_2 Pje_1 (by decide) rg_fl O2 P5 OF rF) hZje (hw57 hw) (hw40 hw) (by decide) (by decide)) (g := (mkF m 189 #[.val (.int p0), .val (.int p1), .val (.int p2), .val (.int p3), .val (.int p4), .val (.int p5), .val (.int (p0 &&& (3 : Int32))), .val (.ref xq), .val (.int (p1 &&& (3 : Int32))), .val (.int (Int32.ofNat len)), .val (.int fl), .val (.ref b1), uS] [(.int fl), (.int (3 : Int32)), (.ref xq), (.int (3 : Int32)), (.ref b1)])) rfl (by rw [hml]; rfl) (argsL := [(.ref xq), (.int (3 : Int32)), (.int fl)]) (rest := [(.int (3 : Int32)), (.ref b1)]) (lenOf pd_7 rfl) rfl (by show 2 * 0 + _ ≤ _; exact Nat.le_of_eq rfl) (hb hby at_189) (fun _ _ => ⟨rfl, eje, (by decide : 3 + 0 ≤ _), (by decide : 65 + 0 ≤ _)⟩)
     dsimp only [Pt.U, Pt.locs, Pt.cells, Pt.slots] at X101 l101 y101 z101 st101 hQ101
     subst l101 y101 z101
     obtain ⟨cc101, rfl, N101q, K101, rg_101⟩ := hQ101
     have N101 := Fr.app Nje N101q
     refine Goes.st st101 ?_
     show Goes _ _ _ _ (T101.setTop (mkF m 192 #[.val (.int p0), .val (.int p1), .val (.int p2), .val (.int p3), .val (.int p4), .val (.int p5), .val (.int (p0 &&& (3 : Int32))), .val (.ref xq), .val (.int (p1 &&& (3 : Int32))), .val (.int (Int32.ofNat len)), .val (.int fl), .val (.ref b1), uS] [(.int cc101), (.int (3 : Int32)), (.ref b1)]))
     obtain ⟨oc102, oA102, oq102, oS102, oM102, oH102, oG102⟩ := id Pje_0
     obtain ⟨T103, h103, X103, e103, W103, st103⟩ := stC X101 hx hZje K101 oA102 (j := (3 : Int32)) (inb_of oS102 ⟨by decide, cz100⟩) (g := (mkF m 192 #[.val (.int p0), .val (.int p1), .val (.int p2), .val (.int p3), .val (.int p4), .val (.int p5), .val (.int (p0 &&& (3 : Int32))), .val (.ref xq), .val (.int (p1 &&& (3 : Int32))), .val (.int (Int32.ofNat len)), .val (.int fl), .val (.ref b1), uS] [(.int cc101), (.int (3 : Int32)), (.ref b1)])) rfl rfl (hb hby at_192)
     rw [own_narc rg_101] at W103
     have V103 : Arv Z h103 b1 k1 .char (Int32.ofNat len) ((us.set 3 cc101).map Value.int) (.int (0 : Int32)) := own_ms _ _ _ ▸ Arv.set oA102 oq102 oS102 oM102 oH102 oG102 (own_fitsc rg_101) W103 (3) rfl (by rw [List.length_map, hu]; exact ((own_nlt (i := 3) (n := len) (by decide) (own_l31 hlen)).mp cz100))
     have N103 := Fr.snoc X103 N101 nb
     have CR104 : CHr Z EL s.vm h0 vmje h103 := CRje.trans (CHr.wr W103 (own_safeArv hZje.alike Pje_0 (by simp)) CRje.1)
     refine Goes.st st103 ?_
     show Goes _ _ _ _ (T103.setTop (mkF m 193 #[.val (.int p0), .val (.int p1), .val (.int p2), .val (.int p3), .val (.int p4), .val (.int p5), .val (.int (p0 &&& (3 : Int32))), .val (.ref xq), .val (.int (p1 &&& (3 : Int32))), .val (.int (Int32.ofNat len)), .val (.int fl), .val (.ref b1), uS] []))
     have f105 : Old Z n0 h103 := (Pje_1.wr W103 nb)
     have f106 : Str Z h103 xq tq kq ts := (Pje_2.other W103 nq nt)
     exact Jjf T103 h103 _ vmje _ (us.set 3 cc101) (X103.more (by decide) (by decide)) e103 N103 (Nat.le_trans Zje (Nat.le_of_eq W103.size.symm)) hZje hownje hSje (Nat.le_trans hkje (Nat.le_of_eq W103.size.symm)) CR104 V103 f105 f106 (by rw [List.length_set]; exact hu) (own_rset hr rg_101)
    case neg =>
     refine Goes.st (fun sT kT => XS.icmpYes Xje.here hx rfl (pc0 := 178) (pc' := 193) rfl (hb hby at_178) rfl (flt cz100).2.2.2 (by decide) (by decide) kT) ?_
     show Goes _ _ _ _ (Tje.setTop (mkF m 193 #[.val (.int p0), .val (.int p1), .val (.int p2), .val (.int p3), .val (.int p4), .val (.int p5), .val (.int (p0 &&& (3 : Int32))), .val (.ref xq), .val (.int (p1 &&& (3 : Int32))), .val (.int (Int32.ofNat len)), .val (.int fl), .val (.ref b1), uS] []))
     exact Jjf Tje hje _ vmje _ us (Xje.more (by decide) (by decide)) eje Nje Zje hZje hownje hSje hkje CRje Pje_0 Pje_1 Pje_2 hu hr
   show Goes _ _ _ _ (T1.setTop (mkF m 122 #[.val (.int p0), .val (.int p1), .val (.int p2), .val (.int p3), .val (.int p4), .val (.int p5), .val (.int (p0 &&& (3 : Int32))), .val (.ref xq), .val (.int (p1 &&& (3 : Int32))), .val (.int (Int32.ofNat len)), .val (.int fl), .val (.ref b1), uS] []))
   have Jjd : ∀ (Tjd : State) (hjd : Heap) (Ljd : List Loc) (vmjd : Vm) (kjd : Nat) (us : List Int32), Stand p l e room_1 (s.setVm vmjd) m #[(.int p0), (.int p1), (.int p2), (.int p3), (.int p4), (.int p5)] below meth c Tjd Ljd 3 65 → Tjd.heap = hjd → Fr n0 Ljd → n0 ≤ hjd.size → Z.Warmed39 vmjd → vmjd.findClass "com/example/sillon/sillon/siri/GeneralMessageChannelNamedPinLaw" = some m.cls → s.Since vmjd kjd → kjd ≤ hjd.size → CHr Z EL s.vm h0 vmjd hjd → Arv Z hjd b1 k1 .char (Int32.ofNat len) (us.map Value.int) (.int (0 : Int32)) → Old Z n0 hjd → Str Z hjd xq tq kq ts → us.length = len → (∀ c ∈ us, ¬ c < 0 ∧ ¬ (255 : Int32) < c) → Goes p.tables e below QQ (Tjd.setTop (mkF m 157 #[.val (.int p0), .val (.int p1), .val (.int p2), .val (.int p3), .val (.int p4), .val (.int p5), .val (.int (p0 &&& (3 : Int32))), .val (.ref xq), .val (.int (p1 &&& (3 : Int32))), .val (.int (Int32.ofNat len)), .val (.int fl), .val (.ref b1), uS] [])) := by
    intro Tjd hjd Ljd vmjd kjd us Xjd ejd Njd Zjd hZjd hownjd hSjd hkjd CRjd Pjd_0 Pjd_1 Pjd_2 hu hr
    show Goes _ _ _ _ (Tjd.setTop (mkF m 157 #[.val (.int p0), .val (.int p1), .val (.int p2), .val (.int p3), .val (.int p4), .val (.int p5), .val (.int (p0 &&& (3 : Int32))), .val (.ref xq), .val (.int (p1 &&& (3 : Int32))), .val (.int (Int32.ofNat len)), .val (.int fl), .val (.ref b1), uS] []))
    refine Goes.st (fun sT kT => XS.iload Xjd.here hx rfl (hb hby at_157) rfl kT) ?_
    show Goes _ _ _ _ (Tjd.setTop (mkF m 159 #[.val (.int p0), .val (.int p1), .val (.int p2), .val (.int p3), .val (.int p4), .val (.int p5), .val (.int (p0 &&& (3 : Int32))), .val (.ref xq), .val (.int (p1 &&& (3 : Int32))), .val (.int (Int32.ofNat len)), .val (.int fl), .val (.ref b1), uS] [(.int (Int32.ofNat len))]))
    refine Goes.st (fun sT kT => XS.iconst Xjd.here hx rfl (hb hby at_159) kT) ?_
    show Goes _ _ _ _ (Tjd.setTop (mkF m 160 #[.val (.int p0), .val (.int p1), .val (.int p2), .val (.int p3), .val (.int p4), .val (.int p5), .val (.int (p0 &&& (3 : Int32))), .val (.ref xq), .val (.int (p1 &&& (3 : Int32))), .val (.int (Int32.ofNat len)), .val (.int fl), .val (.ref b1), uS] [(.int (2 : Int32)), (.int (Int32.ofNat len))]))
    by_cases cz107 : (2 : Int32) < (Int32.ofNat len)
    case pos =>
     refine Goes.st (fun sT kT => XS.icmpNo Xjd.here hx rfl (hb hby at_160) rfl (tlt cz107).2.2.2 kT) ?_
     show Goes _ _ _ _ (Tjd.setTop (mkF m 163 #[.val (.int p0), .val (.int p1), .val (.int p2), .val (.int p3), .val (.int p4), .val (.int p5), .val (.int (p0 &&& (3 : Int32))), .val (.ref xq), .val (.int (p1 &&& (3 : Int32))), .val (.int (Int32.ofNat len)), .val (.int fl), .val (.ref b1), uS] []))
     refine Goes.st (fun sT kT => XS.aload Xjd.here hx rfl (hb hby at_163) rfl rfl kT) ?_
     show Goes _ _ _ _ (Tjd.setTop (mkF m 165 #[.val (.int p0), .val (.int p1), .val (.int p2), .val (.int p3), .val (.int p4), .val (.int p5), .val (.int (p0 &&& (3 : Int32))), .val (.ref xq), .val (.int (p1 &&& (3 : Int32))), .val (.int (Int32.ofNat len)), .val (.int fl), .val (.ref b1), uS] [(.ref b1)]))
     refine Goes.st (fun sT kT => XS.iconst Xjd.here hx rfl (hb hby at_165) kT) ?_
     show Goes _ _ _ _ (Tjd.setTop (mkF m 166 #[.val (.int p0), .val (.int p1), .val (.int p2), .val (.int p3), .val (.int p4), .val (.int p5), .val (.int (p0 &&& (3 : Int32))), .val (.ref xq), .val (.int (p1 &&& (3 : Int32))), .val (.int (Int32.ofNat len)), .val (.int fl), .val (.ref b1), uS] [(.int (2 : Int32)), (.ref b1)]))
     refine Goes.st (fun sT kT => XS.aload Xjd.here hx rfl (hb hby at_166) rfl rfl kT) ?_
     show Goes _ _ _ _ (Tjd.setTop (mkF m 168 #[.val (.int p0), .val (.int p1), .val (.int p2), .val (.int p3), .val (.int p4), .val (.int p5), .val (.int (p0 &&& (3 : Int32))), .val (.ref xq), .val (.int (p1 &&& (3 : Int32))), .val (.int (Int32.ofNat len)), .val (.int fl), .val (.ref b1), uS] [(.ref xq), (.int (2 : Int32)), (.ref b1)]))
     refine Goes.st (fun sT kT => XS.iconst Xjd.here hx rfl (hb hby at_168) kT) ?_
     show Goes _ _ _ _ (Tjd.setTop (mkF m 169 #[.val (.int p0), .val (.int p1), .val (.int p2), .val (.int p3), .val (.int p4), .val (.int p5), .val (.int (p0 &&& (3 : Int32))), .val (.ref xq), .val (.int (p1 &&& (3 : Int32))), .val (.int (Int32.ofNat len)), .val (.int fl), .val (.ref b1), uS] [(.int (2 : Int32)), (.ref xq), (.int (2 : Int32)), (.ref b1)]))
     refine Goes.st (fun sT kT => XS.iload Xjd.here hx rfl (hb hby at_169) rfl kT) ?_
     show Goes _ _ _ _ (Tjd.setTop (mkF m 171 #[.val (.int p0), .val (.int p1), .val (.int p2), .val (.int p3), .val (.int p4), .val (.int p5), .val (.int (p0 &&& (3 : Int32))), .val (.ref xq), .val (.int (p1 &&& (3 : Int32))), .val (.int (Int32.ofNat len)), .val (.int fl), .val (.ref b1), uS] [(.int fl), (.int (2 : Int32)), (.ref xq), (.int (2 : Int32)), (.ref b1)]))
     obtain ⟨_, _, ⟨T108, L108, k108, n108⟩, -, X108, ⟨Lc108, hQ108, l108, y108, z108⟩, st108⟩ := Jvm.LawKit.callS Xjd hx (y := (⟨"com/example/sillon/sillon/siri/GeneralMessageChannelNamedPinLaw", "at", "(Ljava/lang/String;II)C"⟩ : MethodName)) hownjd (mvT hZjd (hw55 hw)) (mvT hZjd (hw56 hw)) (mvT hZjd (hw40 hw)) (mvT hZjd (hw57 hw)) (by decide) (backOf (W := 2) (rm_att l Z a0 hw [] xq tq kq ts 2 fl G1 vF hjd n0 Zjd Pjd_2 Pjd_1 (by decide) rg_fl O2 P5 OF rF) hZjd (hw57 hw) (hw40 hw) (by decide) (by decide)) (g := (mkF m 171 #[.val (.int p0), .val (.int p1), .val (.int p2), .val (.int p3), .val (.int p4), .val (.int p5), .val (.int (p0 &&& (3 : Int32))), .val (.ref xq), .val (.int (p1 &&& (3 : Int32))), .val (.int (Int32.ofNat len)), .val (.int fl), .val (.ref b1), uS] [(.int fl), (.int (2 : Int32)), (.ref xq), (.int (2 : Int32)), (.ref b1)])) rfl (by rw [hml]; rfl) (argsL := [(.ref xq), (.int (2 : Int32)), (.int fl)]) (rest := [(.int (2 : Int32)), (.ref b1)]) (lenOf pd_7 rfl) rfl (by show 2 * 0 + _ ≤ _; exact Nat.le_of_eq rfl) (hb hby at_171) (fun _ _ => ⟨rfl, ejd, (by decide : 3 + 0 ≤ _), (by decide : 65 + 0 ≤ _)⟩)
     dsimp only [Pt.U, Pt.locs, Pt.cells, Pt.slots] at X108 l108 y108 z108 st108 hQ108
     subst l108 y108 z108
     obtain ⟨cc108, rfl, N108q, K108, rg_108⟩ := hQ108
     have N108 := Fr.app Njd N108q
     refine Goes.st st108 ?_
     show Goes _ _ _ _ (T108.setTop (mkF m 174 #[.val (.int p0), .val (.int p1), .val (.int p2), .val (.int p3), .val (.int p4), .val (.int p5), .val (.int (p0 &&& (3 : Int32))), .val (.ref xq), .val (.int (p1 &&& (3 : Int32))), .val (.int (Int32.ofNat len)), .val (.int fl), .val (.ref b1), uS] [(.int cc108), (.int (2 : Int32)), (.ref b1)]))
     obtain ⟨oc109, oA109, oq109, oS109, oM109, oH109, oG109⟩ := id Pjd_0
     obtain ⟨T110, h110, X110, e110, W110, st110⟩ := stC X108 hx hZjd K108 oA109 (j := (2 : Int32)) (inb_of oS109 ⟨by decide, cz107⟩) (g := (mkF m 174 #[.val (.int p0), .val (.int p1), .val (.int p2), .val (.int p3), .val (.int p4), .val (.int p5), .val (.int (p0 &&& (3 : Int32))), .val (.ref xq), .val (.int (p1 &&& (3 : Int32))), .val (.int (Int32.ofNat len)), .val (.int fl), .val (.ref b1), uS] [(.int cc108), (.int (2 : Int32)), (.ref b1)])) rfl rfl (hb hby at_174)
     rw [own_narc rg_108] at W110
     have V110 : Arv Z h110 b1 k1 .char (Int32.ofNat len) ((us.set 2 cc108).map Value.int) (.int (0 : Int32)) := own_ms _ _ _ ▸ Arv.set oA109 oq109 oS109 oM109 oH109 oG109 (own_fitsc rg_108) W110 (2) rfl (by rw [List.length_map, hu]; exact ((own_nlt (i := 2) (n := len) (by decide) (own_l31 hlen)).mp cz107))
     have N110 := Fr.snoc X110 N108 nb
     have CR111 : CHr Z EL s.vm h0 vmjd h110 := CRjd.trans (CHr.wr W110 (own_safeArv hZjd.alike Pjd_0 (by simp)) CRjd.1)
     refine Goes.st st110 ?_
     show Goes _ _ _ _ (T110.setTop (mkF m 175 #[.val (.int p0), .val (.int p1), .val (.int p2), .val (.int p3), .val (.int p4), .val (.int p5), .val (.int (p0 &&& (3 : Int32))), .val (.ref xq), .val (.int (p1 &&& (3 : Int32))), .val (.int (Int32.ofNat len)), .val (.int fl), .val (.ref b1), uS] []))
     have f112 : Old Z n0 h110 := (Pjd_1.wr W110 nb)
     have f113 : Str Z h110 xq tq kq ts := (Pjd_2.other W110 nq nt)
     exact Jje T110 h110 _ vmjd _ (us.set 2 cc108) (X110.more (by decide) (by decide)) e110 N110 (Nat.le_trans Zjd (Nat.le_of_eq W110.size.symm)) hZjd hownjd hSjd (Nat.le_trans hkjd (Nat.le_of_eq W110.size.symm)) CR111 V110 f112 f113 (by rw [List.length_set]; exact hu) (own_rset hr rg_108)
    case neg =>
     refine Goes.st (fun sT kT => XS.icmpYes Xjd.here hx rfl (pc0 := 160) (pc' := 175) rfl (hb hby at_160) rfl (flt cz107).2.2.2 (by decide) (by decide) kT) ?_
     show Goes _ _ _ _ (Tjd.setTop (mkF m 175 #[.val (.int p0), .val (.int p1), .val (.int p2), .val (.int p3), .val (.int p4), .val (.int p5), .val (.int (p0 &&& (3 : Int32))), .val (.ref xq), .val (.int (p1 &&& (3 : Int32))), .val (.int (Int32.ofNat len)), .val (.int fl), .val (.ref b1), uS] []))
     exact Jje Tjd hjd _ vmjd _ us (Xjd.more (by decide) (by decide)) ejd Njd Zjd hZjd hownjd hSjd hkjd CRjd Pjd_0 Pjd_1 Pjd_2 hu hr
   show Goes _ _ _ _ (T1.setTop (mkF m 122 #[.val (.int p0), .val (.int p1), .val (.int p2), .val (.int p3), .val (.int p4), .val (.int p5), .val (.int (p0 &&& (3 : Int32))), .val (.ref xq), .val (.int (p1 &&& (3 : Int32))), .val (.int (Int32.ofNat len)), .val (.int fl), .val (.ref b1), uS] []))
   have Jjc : ∀ (Tjc : State) (hjc : Heap) (Ljc : List Loc) (vmjc : Vm) (kjc : Nat) (us : List Int32), Stand p l e room_1 (s.setVm vmjc) m #[(.int p0), (.int p1), (.int p2), (.int p3), (.int p4), (.int p5)] below meth c Tjc Ljc 3 65 → Tjc.heap = hjc → Fr n0 Ljc → n0 ≤ hjc.size → Z.Warmed39 vmjc → vmjc.findClass "com/example/sillon/sillon/siri/GeneralMessageChannelNamedPinLaw" = some m.cls → s.Since vmjc kjc → kjc ≤ hjc.size → CHr Z EL s.vm h0 vmjc hjc → Arv Z hjc b1 k1 .char (Int32.ofNat len) (us.map Value.int) (.int (0 : Int32)) → Old Z n0 hjc → Str Z hjc xq tq kq ts → us.length = len → (∀ c ∈ us, ¬ c < 0 ∧ ¬ (255 : Int32) < c) → Goes p.tables e below QQ (Tjc.setTop (mkF m 139 #[.val (.int p0), .val (.int p1), .val (.int p2), .val (.int p3), .val (.int p4), .val (.int p5), .val (.int (p0 &&& (3 : Int32))), .val (.ref xq), .val (.int (p1 &&& (3 : Int32))), .val (.int (Int32.ofNat len)), .val (.int fl), .val (.ref b1), uS] [])) := by
    intro Tjc hjc Ljc vmjc kjc us Xjc ejc Njc Zjc hZjc hownjc hSjc hkjc CRjc Pjc_0 Pjc_1 Pjc_2 hu hr
    show Goes _ _ _ _ (Tjc.setTop (mkF m 139 #[.val (.int p0), .val (.int p1), .val (.int p2), .val (.int p3), .val (.int p4), .val (.int p5), .val (.int (p0 &&& (3 : Int32))), .val (.ref xq), .val (.int (p1 &&& (3 : Int32))), .val (.int (Int32.ofNat len)), .val (.int fl), .val (.ref b1), uS] []))
    refine Goes.st (fun sT kT => XS.iload Xjc.here hx rfl (hb hby at_139) rfl kT) ?_
    show Goes _ _ _ _ (Tjc.setTop (mkF m 141 #[.val (.int p0), .val (.int p1), .val (.int p2), .val (.int p3), .val (.int p4), .val (.int p5), .val (.int (p0 &&& (3 : Int32))), .val (.ref xq), .val (.int (p1 &&& (3 : Int32))), .val (.int (Int32.ofNat len)), .val (.int fl), .val (.ref b1), uS] [(.int (Int32.ofNat len))]))
    refine Goes.st (fun sT kT => XS.iconst Xjc.here hx rfl (hb hby at_141) kT) ?_
    show Goes _ _ _ _ (Tjc.setTop (mkF m 142 #[.val (.int p0), .val (.int p1), .val (.int p2), .val (.int p3), .val (.int p4), .val (.int p5), .val (.int (p0 &&& (3 : Int32))), .val (.ref xq), .val (.int (p1 &&& (3 : Int32))), .val (.int (Int32.ofNat len)), .val (.int fl), .val (.ref b1), uS] [(.int (1 : Int32)), (.int (Int32.ofNat len))]))
    by_cases cz114 : (1 : Int32) < (Int32.ofNat len)
    case pos =>
     refine Goes.st (fun sT kT => XS.icmpNo Xjc.here hx rfl (hb hby at_142) rfl (tlt cz114).2.2.2 kT) ?_
     show Goes _ _ _ _ (Tjc.setTop (mkF m 145 #[.val (.int p0), .val (.int p1), .val (.int p2), .val (.int p3), .val (.int p4), .val (.int p5), .val (.int (p0 &&& (3 : Int32))), .val (.ref xq), .val (.int (p1 &&& (3 : Int32))), .val (.int (Int32.ofNat len)), .val (.int fl), .val (.ref b1), uS] []))
     refine Goes.st (fun sT kT => XS.aload Xjc.here hx rfl (hb hby at_145) rfl rfl kT) ?_
     show Goes _ _ _ _ (Tjc.setTop (mkF m 147 #[.val (.int p0), .val (.int p1), .val (.int p2), .val (.int p3), .val (.int p4), .val (.int p5), .val (.int (p0 &&& (3 : Int32))), .val (.ref xq), .val (.int (p1 &&& (3 : Int32))), .val (.int (Int32.ofNat len)), .val (.int fl), .val (.ref b1), uS] [(.ref b1)]))
     refine Goes.st (fun sT kT => XS.iconst Xjc.here hx rfl (hb hby at_147) kT) ?_
     show Goes _ _ _ _ (Tjc.setTop (mkF m 148 #[.val (.int p0), .val (.int p1), .val (.int p2), .val (.int p3), .val (.int p4), .val (.int p5), .val (.int (p0 &&& (3 : Int32))), .val (.ref xq), .val (.int (p1 &&& (3 : Int32))), .val (.int (Int32.ofNat len)), .val (.int fl), .val (.ref b1), uS] [(.int (1 : Int32)), (.ref b1)]))
     refine Goes.st (fun sT kT => XS.aload Xjc.here hx rfl (hb hby at_148) rfl rfl kT) ?_
     show Goes _ _ _ _ (Tjc.setTop (mkF m 150 #[.val (.int p0), .val (.int p1), .val (.int p2), .val (.int p3), .val (.int p4), .val (.int p5), .val (.int (p0 &&& (3 : Int32))), .val (.ref xq), .val (.int (p1 &&& (3 : Int32))), .val (.int (Int32.ofNat len)), .val (.int fl), .val (.ref b1), uS] [(.ref xq), (.int (1 : Int32)), (.ref b1)]))
     refine Goes.st (fun sT kT => XS.iconst Xjc.here hx rfl (hb hby at_150) kT) ?_
     show Goes _ _ _ _ (Tjc.setTop (mkF m 151 #[.val (.int p0), .val (.int p1), .val (.int p2), .val (.int p3), .val (.int p4), .val (.int p5), .val (.int (p0 &&& (3 : Int32))), .val (.ref xq), .val (.int (p1 &&& (3 : Int32))), .val (.int (Int32.ofNat len)), .val (.int fl), .val (.ref b1), uS] [(.int (1 : Int32)), (.ref xq), (.int (1 : Int32)), (.ref b1)]))
     refine Goes.st (fun sT kT => XS.iload Xjc.here hx rfl (hb hby at_151) rfl kT) ?_
     show Goes _ _ _ _ (Tjc.setTop (mkF m 153 #[.val (.int p0), .val (.int p1), .val (.int p2), .val (.int p3), .val (.int p4), .val (.int p5), .val (.int (p0 &&& (3 : Int32))), .val (.ref xq), .val (.int (p1 &&& (3 : Int32))), .val (.int (Int32.ofNat len)), .val (.int fl), .val (.ref b1), uS] [(.int fl), (.int (1 : Int32)), (.ref xq), (.int (1 : Int32)), (.ref b1)]))
     obtain ⟨_, _, ⟨T115, L115, k115, n115⟩, -, X115, ⟨Lc115, hQ115, l115, y115, z115⟩, st115⟩ := Jvm.LawKit.callS Xjc hx (y := (⟨"com/example/sillon/sillon/siri/GeneralMessageChannelNamedPinLaw", "at", "(Ljava/lang/String;II)C"⟩ : MethodName)) hownjc (mvT hZjc (hw55 hw)) (mvT hZjc (hw56 hw)) (mvT hZjc (hw40 hw)) (mvT hZjc (hw57 hw)) (by decide) (backOf (W := 2) (rm_att l Z a0 hw [] xq tq kq ts 1 fl G1 vF hjc n0 Zjc Pjc_2 Pjc_1 (by decide) rg_fl O2 P5 OF rF) hZjc (hw57 hw) (hw40 hw) (by decide) (by decide)) (g := (mkF m 153 #[.val (.int p0), .val (.int p1), .val (.int p2), .val (.int p3), .val (.int p4), .val (.int p5), .val (.int (p0 &&& (3 : Int32))), .val (.ref xq), .val (.int (p1 &&& (3 : Int32))), .val (.int (Int32.ofNat len)), .val (.int fl), .val (.ref b1), uS] [(.int fl), (.int (1 : Int32)), (.ref xq), (.int (1 : Int32)), (.ref b1)])) rfl (by rw [hml]; rfl) (argsL := [(.ref xq), (.int (1 : Int32)), (.int fl)]) (rest := [(.int (1 : Int32)), (.ref b1)]) (lenOf pd_7 rfl) rfl (by show 2 * 0 + _ ≤ _; exact Nat.le_of_eq rfl) (hb hby at_153) (fun _ _ => ⟨rfl, ejc, (by decide : 3 + 0 ≤ _), (by decide : 65 + 0 ≤ _)⟩)
     dsimp only [Pt.U, Pt.locs, Pt.cells, Pt.slots] at X115 l115 y115 z115 st115 hQ115
     subst l115 y115 z115
     obtain ⟨cc115, rfl, N115q, K115, rg_115⟩ := hQ115
     have N115 := Fr.app Njc N115q
     refine Goes.st st115 ?_
     show Goes _ _ _ _ (T115.setTop (mkF m 156 #[.val (.int p0), .val (.int p1), .val (.int p2), .val (.int p3), .val (.int p4), .val (.int p5), .val (.int (p0 &&& (3 : Int32))), .val (.ref xq), .val (.int (p1 &&& (3 : Int32))), .val (.int (Int32.ofNat len)), .val (.int fl), .val (.ref b1), uS] [(.int cc115), (.int (1 : Int32)), (.ref b1)]))
     obtain ⟨oc116, oA116, oq116, oS116, oM116, oH116, oG116⟩ := id Pjc_0
     obtain ⟨T117, h117, X117, e117, W117, st117⟩ := stC X115 hx hZjc K115 oA116 (j := (1 : Int32)) (inb_of oS116 ⟨by decide, cz114⟩) (g := (mkF m 156 #[.val (.int p0), .val (.int p1), .val (.int p2), .val (.int p3), .val (.int p4), .val (.int p5), .val (.int (p0 &&& (3 : Int32))), .val (.ref xq), .val (.int (p1 &&& (3 : Int32))), .val (.int (Int32.ofNat len)), .val (.int fl), .val (.ref b1), uS] [(.int cc115), (.int (1 : Int32)), (.ref b1)])) rfl rfl (hb hby at_156)
     rw [own_narc rg_115] at W117
     have V117 : Arv Z h117 b1 k1 .char (Int32.ofNat len) ((us.set 1 cc115).map Value.int) (.int (0 : Int32)) := own_ms _ _ _ ▸ Arv.set oA116 oq116 oS116 oM116 oH116 oG116 (own_fitsc rg_115) W117 (1) rfl (by rw [List.length_map, hu]; exact ((own_nlt (i := 1) (n := len) (by decide) (own_l31 hlen)).mp cz114))
     have N117 := Fr.snoc X117 N115 nb
     have CR118 : CHr Z EL s.vm h0 vmjc h117 := CRjc.trans (CHr.wr W117 (own_safeArv hZjc.alike Pjc_0 (by simp)) CRjc.1)
     refine Goes.st st117 ?_
     show Goes _ _ _ _ (T117.setTop (mkF m 157 #[.val (.int p0), .val (.int p1), .val (.int p2), .val (.int p3), .val (.int p4), .val (.int p5), .val (.int (p0 &&& (3 : Int32))), .val (.ref xq), .val (.int (p1 &&& (3 : Int32))), .val (.int (Int32.ofNat len)), .val (.int fl), .val (.ref b1), uS] []))
     have f119 : Old Z n0 h117 := (Pjc_1.wr W117 nb)
     have f120 : Str Z h117 xq tq kq ts := (Pjc_2.other W117 nq nt)
     exact Jjd T117 h117 _ vmjc _ (us.set 1 cc115) (X117.more (by decide) (by decide)) e117 N117 (Nat.le_trans Zjc (Nat.le_of_eq W117.size.symm)) hZjc hownjc hSjc (Nat.le_trans hkjc (Nat.le_of_eq W117.size.symm)) CR118 V117 f119 f120 (by rw [List.length_set]; exact hu) (own_rset hr rg_115)
    case neg =>
     refine Goes.st (fun sT kT => XS.icmpYes Xjc.here hx rfl (pc0 := 142) (pc' := 157) rfl (hb hby at_142) rfl (flt cz114).2.2.2 (by decide) (by decide) kT) ?_
     show Goes _ _ _ _ (Tjc.setTop (mkF m 157 #[.val (.int p0), .val (.int p1), .val (.int p2), .val (.int p3), .val (.int p4), .val (.int p5), .val (.int (p0 &&& (3 : Int32))), .val (.ref xq), .val (.int (p1 &&& (3 : Int32))), .val (.int (Int32.ofNat len)), .val (.int fl), .val (.ref b1), uS] []))
     exact Jjd Tjc hjc _ vmjc _ us (Xjc.more (by decide) (by decide)) ejc Njc Zjc hZjc hownjc hSjc hkjc CRjc Pjc_0 Pjc_1 Pjc_2 hu hr
   show Goes _ _ _ _ (T1.setTop (mkF m 122 #[.val (.int p0), .val (.int p1), .val (.int p2), .val (.int p3), .val (.int p4), .val (.int p5), .val (.int (p0 &&& (3 : Int32))), .val (.ref xq), .val (.int (p1 &&& (3 : Int32))), .val (.int (Int32.ofNat len)), .val (.int fl), .val (.ref b1), uS] []))
   refine Goes.st (fun sT kT => XS.iload X1.here hx rfl (hb hby at_122) rfl kT) ?_
   show Goes _ _ _ _ (T1.setTop (mkF m 124 #[.val (.int p0), .val (.int p1), .val (.int p2), .val (.int p3), .val (.int p4), .val (.int p5), .val (.int (p0 &&& (3 : Int32))), .val (.ref xq), .val (.int (p1 &&& (3 : Int32))), .val (.int (Int32.ofNat len)), .val (.int fl), .val (.ref b1), uS] [(.int (Int32.ofNat len))]))
   by_cases cz121 : (0 : Int32) < (Int32.ofNat len)
   case pos =>
    refine Goes.st (fun sT kT => XS.ifNo X1.here hx rfl (hb hby at_124) rfl ((if0 _ _).trans (tlt cz121).2.2.2) kT) ?_
    show Goes _ _ _ _ (T1.setTop (mkF m 127 #[.val (.int p0), .val (.int p1), .val (.int p2), .val (.int p3), .val (.int p4), .val (.int p5), .val (.int (p0 &&& (3 : Int32))), .val (.ref xq), .val (.int (p1 &&& (3 : Int32))), .val (.int (Int32.ofNat len)), .val (.int fl), .val (.ref b1), uS] []))
    refine Goes.st (fun sT kT => XS.aload X1.here hx rfl (hb hby at_127) rfl rfl kT) ?_
    show Goes _ _ _ _ (T1.setTop (mkF m 129 #[.val (.int p0), .val (.int p1), .val (.int p2), .val (.int p3), .val (.int p4), .val (.int p5), .val (.int (p0 &&& (3 : Int32))), .val (.ref xq), .val (.int (p1 &&& (3 : Int32))), .val (.int (Int32.ofNat len)), .val (.int fl), .val (.ref b1), uS] [(.ref b1)]))
    refine Goes.st (fun sT kT => XS.iconst X1.here hx rfl (hb hby at_129) kT) ?_
    show Goes _ _ _ _ (T1.setTop (mkF m 130 #[.val (.int p0), .val (.int p1), .val (.int p2), .val (.int p3), .val (.int p4), .val (.int p5), .val (.int (p0 &&& (3 : Int32))), .val (.ref xq), .val (.int (p1 &&& (3 : Int32))), .val (.int (Int32.ofNat len)), .val (.int fl), .val (.ref b1), uS] [(.int (0 : Int32)), (.ref b1)]))
    refine Goes.st (fun sT kT => XS.aload X1.here hx rfl (hb hby at_130) rfl rfl kT) ?_
    show Goes _ _ _ _ (T1.setTop (mkF m 132 #[.val (.int p0), .val (.int p1), .val (.int p2), .val (.int p3), .val (.int p4), .val (.int p5), .val (.int (p0 &&& (3 : Int32))), .val (.ref xq), .val (.int (p1 &&& (3 : Int32))), .val (.int (Int32.ofNat len)), .val (.int fl), .val (.ref b1), uS] [(.ref xq), (.int (0 : Int32)), (.ref b1)]))
    refine Goes.st (fun sT kT => XS.iconst X1.here hx rfl (hb hby at_132) kT) ?_
    show Goes _ _ _ _ (T1.setTop (mkF m 133 #[.val (.int p0), .val (.int p1), .val (.int p2), .val (.int p3), .val (.int p4), .val (.int p5), .val (.int (p0 &&& (3 : Int32))), .val (.ref xq), .val (.int (p1 &&& (3 : Int32))), .val (.int (Int32.ofNat len)), .val (.int fl), .val (.ref b1), uS] [(.int (0 : Int32)), (.ref xq), (.int (0 : Int32)), (.ref b1)]))
    refine Goes.st (fun sT kT => XS.iload X1.here hx rfl (hb hby at_133) rfl kT) ?_
    show Goes _ _ _ _ (T1.setTop (mkF m 135 #[.val (.int p0), .val (.int p1), .val (.int p2), .val (.int p3), .val (.int p4), .val (.int p5), .val (.int (p0 &&& (3 : Int32))), .val (.ref xq), .val (.int (p1 &&& (3 : Int32))), .val (.int (Int32.ofNat len)), .val (.int fl), .val (.ref b1), uS] [(.int fl), (.int (0 : Int32)), (.ref xq), (.int (0 : Int32)), (.ref b1)]))
    have f123 : Str Z h1 xq tq kq ts := (Pjb_0.ext E1)
    have f124 : Old Z n0 h1 := (Pjb_1.ext E1)
    obtain ⟨_, _, ⟨T122, L122, k122, n122⟩, -, X122, ⟨Lc122, hQ122, l122, y122, z122⟩, st122⟩ := Jvm.LawKit.callS X1 hx (y := (⟨"com/example/sillon/sillon/siri/GeneralMessageChannelNamedPinLaw", "at", "(Ljava/lang/String;II)C"⟩ : MethodName)) hownjb (mvT hZjb (hw55 hw)) (mvT hZjb (hw56 hw)) (mvT hZjb (hw40 hw)) (mvT hZjb (hw57 hw)) (by decide) (backOf (W := 2) (rm_att l Z a0 hw [] xq tq kq ts 0 fl G1 vF h1 n0 (Nat.le_trans Zjb E1.1) f123 f124 (by decide) rg_fl O2 P5 OF rF) hZjb (hw57 hw) (hw40 hw) (by decide) (by decide)) (g := (mkF m 135 #[.val (.int p0), .val (.int p1), .val (.int p2), .val (.int p3), .val (.int p4), .val (.int p5), .val (.int (p0 &&& (3 : Int32))), .val (.ref xq), .val (.int (p1 &&& (3 : Int32))), .val (.int (Int32.ofNat len)), .val (.int fl), .val (.ref b1), uS] [(.int fl), (.int (0 : Int32)), (.ref xq), (.int (0 : Int32)), (.ref b1)])) rfl (by rw [hml]; rfl) (argsL := [(.ref xq), (.int (0 : Int32)), (.int fl)]) (rest := [(.int (0 : Int32)), (.ref b1)]) (lenOf pd_7 rfl) rfl (by show 2 * 0 + _ ≤ _; exact Nat.le_of_eq rfl) (hb hby at_135) (fun _ _ => ⟨rfl, e1, (by decide : 3 + 0 ≤ _), (by decide : 65 + 0 ≤ _)⟩)
    dsimp only [Pt.U, Pt.locs, Pt.cells, Pt.slots] at X122 l122 y122 z122 st122 hQ122
    subst l122 y122 z122
    obtain ⟨cc122, rfl, N122q, K122, rg_122⟩ := hQ122
    have N122 := Fr.app Njb N122q
    refine Goes.st st122 ?_
    show Goes _ _ _ _ (T122.setTop (mkF m 138 #[.val (.int p0), .val (.int p1), .val (.int p2), .val (.int p3), .val (.int p4), .val (.int p5), .val (.int (p0 &&& (3 : Int32))), .val (.ref xq), .val (.int (p1 &&& (3 : Int32))), .val (.int (Int32.ofNat len)), .val (.int fl), .val (.ref b1), uS] [(.int cc122), (.int (0 : Int32)), (.ref b1)]))
    obtain ⟨oc125, oA125, oq125, oS125, oM125, oH125, oG125⟩ := id Vp
    obtain ⟨T126, h126, X126, e126, W126, st126⟩ := stC X122 hx hZjb K122 oA125 (j := (0 : Int32)) (inb_of oS125 ⟨by decide, cz121⟩) (g := (mkF m 138 #[.val (.int p0), .val (.int p1), .val (.int p2), .val (.int p3), .val (.int p4), .val (.int p5), .val (.int (p0 &&& (3 : Int32))), .val (.ref xq), .val (.int (p1 &&& (3 : Int32))), .val (.int (Int32.ofNat len)), .val (.int fl), .val (.ref b1), uS] [(.int cc122), (.int (0 : Int32)), (.ref b1)])) rfl rfl (hb hby at_138)
    rw [own_narc rg_122] at W126
    have V126 : Arv Z h126 b1 k1 .char (Int32.ofNat len) (((List.replicate len (0 : Int32)).set 0 cc122).map Value.int) (.int (0 : Int32)) := own_ms _ _ _ ▸ Arv.set oA125 oq125 oS125 oM125 oH125 oG125 (own_fitsc rg_122) W126 (0) rfl (by rw [List.length_map, List.length_replicate]; exact ((own_nlt (i := 0) (n := len) (by decide) (own_l31 hlen)).mp cz121))
    have N126 := Fr.snoc X126 N122 nb
    have CR127 : CHr Z EL s.vm h0 vmjb h126 := CR2.trans (CHr.wr W126 (own_safeArv hZjb.alike Vp (by simp)) CR2.1)
    refine Goes.st st126 ?_
    show Goes _ _ _ _ (T126.setTop (mkF m 139 #[.val (.int p0), .val (.int p1), .val (.int p2), .val (.int p3), .val (.int p4), .val (.int p5), .val (.int (p0 &&& (3 : Int32))), .val (.ref xq), .val (.int (p1 &&& (3 : Int32))), .val (.int (Int32.ofNat len)), .val (.int fl), .val (.ref b1), uS] []))
    have f128 : Old Z n0 h126 := (f124.wr W126 nb)
    have f129 : Str Z h126 xq tq kq ts := (f123.other W126 nq nt)
    exact Jjc T126 h126 _ vmjb _ ((List.replicate len (0 : Int32)).set 0 cc122) (X126.more (by decide) (by decide)) e126 N126 (Nat.le_trans Zjb (Nat.le_trans E1.1 (Nat.le_of_eq W126.size.symm))) hZjb hownjb hSjb (Nat.le_trans (Nat.le_trans hkjb E1.1) (Nat.le_of_eq W126.size.symm)) CR127 V126 f128 f129 (by rw [List.length_set]; exact List.length_replicate) (own_rset (own_rrep len) rg_122)
   case neg =>
    refine Goes.st (fun sT kT => XS.ifYes X1.here hx rfl (pc0 := 124) (pc' := 139) rfl (hb hby at_124) rfl ((if0 _ _).trans (flt cz121).2.2.2) (by decide) (by decide) kT) ?_
    show Goes _ _ _ _ (T1.setTop (mkF m 139 #[.val (.int p0), .val (.int p1), .val (.int p2), .val (.int p3), .val (.int p4), .val (.int p5), .val (.int (p0 &&& (3 : Int32))), .val (.ref xq), .val (.int (p1 &&& (3 : Int32))), .val (.int (Int32.ofNat len)), .val (.int fl), .val (.ref b1), uS] []))
    have f130 : Old Z n0 h1 := (Pjb_1.ext E1)
    have f131 : Str Z h1 xq tq kq ts := (Pjb_0.ext E1)
    exact Jjc T1 h1 _ vmjb _ (List.replicate len (0 : Int32)) (X1.more (by decide) (by decide)) e1 Njb (Nat.le_trans Zjb E1.1) hZjb hownjb hSjb (Nat.le_trans hkjb E1.1) CR2 Vp f130 f131 List.length_replicate (own_rrep len)
  show Goes _ _ _ _ (Tja.setTop (mkF m 46 #[.val (.int p0), .val (.int p1), .val (.int p2), .val (.int p3), .val (.int p4), .val (.int p5), .val (.int (p0 &&& (3 : Int32))), .val (.ref xq), .val (.int (p1 &&& (3 : Int32))), uS, uS, uS, uS] []))
  refine Goes.st (fun sT kT => XS.iload Xja.here hx rfl (hb hby at_46) rfl kT) ?_
  show Goes _ _ _ _ (Tja.setTop (mkF m 48 #[.val (.int p0), .val (.int p1), .val (.int p2), .val (.int p3), .val (.int p4), .val (.int p5), .val (.int (p0 &&& (3 : Int32))), .val (.ref xq), .val (.int (p1 &&& (3 : Int32))), uS, uS, uS, uS] [(.int (p1 &&& (3 : Int32)))]))
  by_cases cz132 : (p1 &&& (3 : Int32)) = (0 : Int32)
  case pos =>
   refine Goes.st (fun sT kT => XS.ifNo Xja.here hx rfl (hb hby at_48) rfl ((if0 _ _).trans (teq cz132).2) kT) ?_
   show Goes _ _ _ _ (Tja.setTop (mkF m 51 #[.val (.int p0), .val (.int p1), .val (.int p2), .val (.int p3), .val (.int p4), .val (.int p5), .val (.int (p0 &&& (3 : Int32))), .val (.ref xq), .val (.int (p1 &&& (3 : Int32))), uS, uS, uS, uS] []))
   refine Goes.st (fun sT kT => XS.aload Xja.here hx rfl (hb hby at_51) rfl rfl kT) ?_
   show Goes _ _ _ _ (Tja.setTop (mkF m 53 #[.val (.int p0), .val (.int p1), .val (.int p2), .val (.int p3), .val (.int p4), .val (.int p5), .val (.int (p0 &&& (3 : Int32))), .val (.ref xq), .val (.int (p1 &&& (3 : Int32))), uS, uS, uS, uS] [(.ref xq)]))
   obtain ⟨cq133, kq133, q133a, q133b, q133c⟩ := isOf (s := s.setVm vmja) hZja eja Pja_0.1
   obtain ⟨_, _, ⟨T133, L133, k133, n133⟩, -, X133, ⟨Lc133, hQ133, l133, y133, z133⟩, st133⟩ := Xja.virtualBack hx (y := (⟨"java/lang/String", "length", "()I"⟩ : MethodName)) (z := (⟨"java/lang/String", "length", "()I"⟩ : MethodName)) hownja (mvT hZja (hw42 hw)) (mvT hZja (hw43 hw)) (notFace_of_selects (args := #[]) (mvT hZja (hw45 hw))) (mvT hZja (hw45 hw)) (mvT hZja (hw44 hw)) (by decide) (StrChars.Road.lenW (W := 0) hZja (own_hln hw) (kI := 4) (hw2 hw) Pja_0.1 Pja_0.2.1 Pja_0.2.2.1 Pja_0.2.2.2.1 (own_cod Pja_0) (own_up Pja_0.2.2.2.2.1) (O2.ext Pja_1.2) P5 Pja_0.2.2.2.2.2 (by decide) (by decide)) q133a q133c (g := (mkF m 53 #[.val (.int p0), .val (.int p1), .val (.int p2), .val (.int p3), .val (.int p4), .val (.int p5), .val (.int (p0 &&& (3 : Int32))), .val (.ref xq), .val (.int (p1 &&& (3 : Int32))), uS, uS, uS, uS] [(.ref xq)])) rfl (by rw [hml]; rfl) (Steps.refl _) (argsL := []) (rest := []) (lenOf pd_3 rfl) rfl (by show 2 * 0 + _ ≤ _; exact Nat.le_of_eq rfl) (hb hby at_53) (fun _ _ => ⟨rfl, eja, (by decide : 2 + 0 ≤ _), (by decide : 52 + 0 ≤ _)⟩)
   dsimp only [Pt.U, Pt.locs, Pt.cells, Pt.slots] at X133 l133 y133 z133 st133 hQ133
   subst l133 y133 z133
   obtain ⟨rfl, rfl, K133⟩ := hQ133
   have N133 := Fr.app Nja (Fr.nil n0)
   refine Goes.tr st133 ?_
   show Goes _ _ _ _ (T133.setTop (mkF m 56 #[.val (.int p0), .val (.int p1), .val (.int p2), .val (.int p3), .val (.int p4), .val (.int p5), .val (.int (p0 &&& (3 : Int32))), .val (.ref xq), .val (.int (p1 &&& (3 : Int32))), uS, uS, uS, uS] [(.int (Int32.ofNat ts.length))]))
   refine Goes.st (fun sT kT => XS.istore X133.here hx rfl (hb hby at_56) rfl (l' := #[.val (.int p0), .val (.int p1), .val (.int p2), .val (.int p3), .val (.int p4), .val (.int p5), .val (.int (p0 &&& (3 : Int32))), .val (.ref xq), .val (.int (p1 &&& (3 : Int32))), .val (.int (Int32.ofNat ts.length)), uS, uS, uS]) rfl kT) ?_
   show Goes _ _ _ _ (T133.setTop (mkF m 58 #[.val (.int p0), .val (.int p1), .val (.int p2), .val (.int p3), .val (.int p4), .val (.int p5), .val (.int (p0 &&& (3 : Int32))), .val (.ref xq), .val (.int (p1 &&& (3 : Int32))), .val (.int (Int32.ofNat ts.length)), uS, uS, uS] []))
   refine Goes.st (fun sT kT => XS.goto X133.here hx rfl (pc0 := 58) (pc' := 109) rfl (hb hby at_58) (by decide) (by decide) kT) ?_
   show Goes _ _ _ _ (T133.setTop (mkF m 109 #[.val (.int p0), .val (.int p1), .val (.int p2), .val (.int p3), .val (.int p4), .val (.int p5), .val (.int (p0 &&& (3 : Int32))), .val (.ref xq), .val (.int (p1 &&& (3 : Int32))), .val (.int (Int32.ofNat ts.length)), uS, uS, uS] []))
   exact Jjb T133 hja _ vmja _ ts.length (X133.more (by decide) (by decide)) K133 N133 Zja hZja hownja hSja hkja CRja Pja_0 Pja_1 (Nat.le_succ_of_le hts)
  case neg =>
   refine Goes.st (fun sT kT => XS.ifYes Xja.here hx rfl (pc0 := 48) (pc' := 61) rfl (hb hby at_48) rfl ((if0 _ _).trans (feq cz132).2) (by decide) (by decide) kT) ?_
   show Goes _ _ _ _ (Tja.setTop (mkF m 61 #[.val (.int p0), .val (.int p1), .val (.int p2), .val (.int p3), .val (.int p4), .val (.int p5), .val (.int (p0 &&& (3 : Int32))), .val (.ref xq), .val (.int (p1 &&& (3 : Int32))), uS, uS, uS, uS] []))
   refine Goes.st (fun sT kT => XS.iload Xja.here hx rfl (hb hby at_61) rfl kT) ?_
   show Goes _ _ _ _ (Tja.setTop (mkF m 63 #[.val (.int p0), .val (.int p1), .val (.int p2), .val (.int p3), .val (.int p4), .val (.int p5), .val (.int (p0 &&& (3 : Int32))), .val (.ref xq), .val (.int (p1 &&& (3 : Int32))), uS, uS, uS, uS] [(.int (p1 &&& (3 : Int32)))]))
   refine Goes.st (fun sT kT => XS.iconst Xja.here hx rfl (hb hby at_63) kT) ?_
   show Goes _ _ _ _ (Tja.setTop (mkF m 64 #[.val (.int p0), .val (.int p1), .val (.int p2), .val (.int p3), .val (.int p4), .val (.int p5), .val (.int (p0 &&& (3 : Int32))), .val (.ref xq), .val (.int (p1 &&& (3 : Int32))), uS, uS, uS, uS] [(.int (1 : Int32)), (.int (p1 &&& (3 : Int32)))]))
   by_cases cz134 : (p1 &&& (3 : Int32)) = (1 : Int32)
   case pos =>
    refine Goes.st (fun sT kT => XS.icmpNo Xja.here hx rfl (hb hby at_64) rfl (teq cz134).2 kT) ?_
    show Goes _ _ _ _ (Tja.setTop (mkF m 67 #[.val (.int p0), .val (.int p1), .val (.int p2), .val (.int p3), .val (.int p4), .val (.int p5), .val (.int (p0 &&& (3 : Int32))), .val (.ref xq), .val (.int (p1 &&& (3 : Int32))), uS, uS, uS, uS] []))
    refine Goes.st (fun sT kT => XS.iconst Xja.here hx rfl (hb hby at_67) kT) ?_
    show Goes _ _ _ _ (Tja.setTop (mkF m 68 #[.val (.int p0), .val (.int p1), .val (.int p2), .val (.int p3), .val (.int p4), .val (.int p5), .val (.int (p0 &&& (3 : Int32))), .val (.ref xq), .val (.int (p1 &&& (3 : Int32))), uS, uS, uS, uS] [(.int (0 : Int32))]))
    refine Goes.st (fun sT kT => XS.aload Xja.here hx rfl (hb hby at_68) rfl rfl kT) ?_
    show Goes _ _ _ _ (Tja.setTop (mkF m 70 #[.val (.int p0), .val (.int p1), .val (.int p2), .val (.int p3), .val (.int p4), .val (.int p5), .val (.int (p0 &&& (3 : Int32))), .val (.ref xq), .val (.int (p1 &&& (3 : Int32))), uS, uS, uS, uS] [(.ref xq), (.int (0 : Int32))]))
    obtain ⟨cq135, kq135, q135a, q135b, q135c⟩ := isOf (s := s.setVm vmja) hZja eja Pja_0.1
    obtain ⟨_, _, ⟨T135, L135, k135, n135⟩, -, X135, ⟨Lc135, hQ135, l135, y135, z135⟩, st135⟩ := Xja.virtualBack hx (y := (⟨"java/lang/String", "length", "()I"⟩ : MethodName)) (z := (⟨"java/lang/String", "length", "()I"⟩ : MethodName)) hownja (mvT hZja (hw42 hw)) (mvT hZja (hw43 hw)) (notFace_of_selects (args := #[]) (mvT hZja (hw45 hw))) (mvT hZja (hw45 hw)) (mvT hZja (hw44 hw)) (by decide) (StrChars.Road.lenW (W := 1) hZja (own_hln hw) (kI := 4) (hw2 hw) Pja_0.1 Pja_0.2.1 Pja_0.2.2.1 Pja_0.2.2.2.1 (own_cod Pja_0) (own_up Pja_0.2.2.2.2.1) (O2.ext Pja_1.2) P5 Pja_0.2.2.2.2.2 (by decide) (by decide)) q135a q135c (g := (mkF m 70 #[.val (.int p0), .val (.int p1), .val (.int p2), .val (.int p3), .val (.int p4), .val (.int p5), .val (.int (p0 &&& (3 : Int32))), .val (.ref xq), .val (.int (p1 &&& (3 : Int32))), uS, uS, uS, uS] [(.ref xq), (.int (0 : Int32))])) rfl (by rw [hml]; rfl) (Steps.refl _) (argsL := []) (rest := [(.int (0 : Int32))]) (lenOf pd_3 rfl) rfl (by show 2 * 0 + _ ≤ _; exact Nat.le_of_eq rfl) (hb hby at_70) (fun _ _ => ⟨rfl, eja, (by decide : 2 + 0 ≤ _), (by decide : 52 + 0 ≤ _)⟩)
    dsimp only [Pt.U, Pt.locs, Pt.cells, Pt.slots] at X135 l135 y135 z135 st135 hQ135
    subst l135 y135 z135
    obtain ⟨rfl, rfl, K135⟩ := hQ135
    have N135 := Fr.app Nja (Fr.nil n0)
    refine Goes.tr st135 ?_
    show Goes _ _ _ _ (T135.setTop (mkF m 73 #[.val (.int p0), .val (.int p1), .val (.int p2), .val (.int p3), .val (.int p4), .val (.int p5), .val (.int (p0 &&& (3 : Int32))), .val (.ref xq), .val (.int (p1 &&& (3 : Int32))), uS, uS, uS, uS] [(.int (Int32.ofNat ts.length)), (.int (0 : Int32))]))
    refine Goes.st (fun sT kT => XS.iconst X135.here hx rfl (hb hby at_73) kT) ?_
    show Goes _ _ _ _ (T135.setTop (mkF m 74 #[.val (.int p0), .val (.int p1), .val (.int p2), .val (.int p3), .val (.int p4), .val (.int p5), .val (.int (p0 &&& (3 : Int32))), .val (.ref xq), .val (.int (p1 &&& (3 : Int32))), uS, uS, uS, uS] [(.int (1 : Int32)), (.int (Int32.ofNat ts.length)), (.int (0 : Int32))]))
    refine Goes.st (fun sT kT => XS.isub X135.here hx rfl (hb hby at_74) rfl kT) ?_
    show Goes _ _ _ _ (T135.setTop (mkF m 75 #[.val (.int p0), .val (.int p1), .val (.int p2), .val (.int p3), .val (.int p4), .val (.int p5), .val (.int (p0 &&& (3 : Int32))), .val (.ref xq), .val (.int (p1 &&& (3 : Int32))), uS, uS, uS, uS] [(.int ((Int32.ofNat ts.length) - (1 : Int32))), (.int (0 : Int32))]))
    obtain ⟨_, _, ⟨T136, L136, k136, n136⟩, -, X136, ⟨Lc136, hQ136, l136, y136, z136⟩, st136⟩ := Jvm.LawKit.callS X135 hx (y := (⟨"java/lang/Math", "max", "(II)I"⟩ : MethodName)) hownja (mvT hZja (hw111 hw)) (mvT hZja (hw112 hw)) (mvT hZja (hw113 hw)) (mvT hZja (hw114 hw)) (by decide) (backOf (W := 0) (rm_maxx l Z a0 hw [] (0 : Int32) ((Int32.ofNat ts.length) - (1 : Int32)) hja n0 Zja ) hZja (hw114 hw) (hw113 hw) (by decide) (by decide)) (g := (mkF m 75 #[.val (.int p0), .val (.int p1), .val (.int p2), .val (.int p3), .val (.int p4), .val (.int p5), .val (.int (p0 &&& (3 : Int32))), .val (.ref xq), .val (.int (p1 &&& (3 : Int32))), uS, uS, uS, uS] [(.int ((Int32.ofNat ts.length) - (1 : Int32))), (.int (0 : Int32))])) rfl (by rw [hml]; rfl) (argsL := [(.int (0 : Int32)), (.int ((Int32.ofNat ts.length) - (1 : Int32)))]) (rest := []) (lenOf pd_8 rfl) rfl (by show 2 * 0 + _ ≤ _; exact Nat.le_of_eq rfl) (hb hby at_75) (fun _ _ => ⟨rfl, K135, (by decide : 2 + 0 ≤ _), (by decide : 52 + 0 ≤ _)⟩)
    dsimp only [Pt.U, Pt.locs, Pt.cells, Pt.slots] at X136 l136 y136 z136 st136 hQ136
    subst l136 y136 z136
    obtain ⟨mm136, rfl, N136q, K136, hm_136⟩ := hQ136
    have N136 := Fr.app N135 N136q
    refine Goes.st st136 ?_
    show Goes _ _ _ _ (T136.setTop (mkF m 78 #[.val (.int p0), .val (.int p1), .val (.int p2), .val (.int p3), .val (.int p4), .val (.int p5), .val (.int (p0 &&& (3 : Int32))), .val (.ref xq), .val (.int (p1 &&& (3 : Int32))), uS, uS, uS, uS] [(.int mm136)]))
    obtain ⟨nm, hnm, hnme⟩ := own_mx hts hm_136
    rw [hnme]
    show Goes _ _ _ _ (T136.setTop (mkF m 78 #[.val (.int p0), .val (.int p1), .val (.int p2), .val (.int p3), .val (.int p4), .val (.int p5), .val (.int (p0 &&& (3 : Int32))), .val (.ref xq), .val (.int (p1 &&& (3 : Int32))), uS, uS, uS, uS] [(.int (Int32.ofNat nm))]))
    refine Goes.st (fun sT kT => XS.istore X136.here hx rfl (hb hby at_78) rfl (l' := #[.val (.int p0), .val (.int p1), .val (.int p2), .val (.int p3), .val (.int p4), .val (.int p5), .val (.int (p0 &&& (3 : Int32))), .val (.ref xq), .val (.int (p1 &&& (3 : Int32))), .val (.int (Int32.ofNat nm)), uS, uS, uS]) rfl kT) ?_
    show Goes _ _ _ _ (T136.setTop (mkF m 80 #[.val (.int p0), .val (.int p1), .val (.int p2), .val (.int p3), .val (.int p4), .val (.int p5), .val (.int (p0 &&& (3 : Int32))), .val (.ref xq), .val (.int (p1 &&& (3 : Int32))), .val (.int (Int32.ofNat nm)), uS, uS, uS] []))
    refine Goes.st (fun sT kT => XS.goto X136.here hx rfl (pc0 := 80) (pc' := 109) rfl (hb hby at_80) (by decide) (by decide) kT) ?_
    show Goes _ _ _ _ (T136.setTop (mkF m 109 #[.val (.int p0), .val (.int p1), .val (.int p2), .val (.int p3), .val (.int p4), .val (.int p5), .val (.int (p0 &&& (3 : Int32))), .val (.ref xq), .val (.int (p1 &&& (3 : Int32))), .val (.int (Int32.ofNat nm)), uS, uS, uS] []))
    exact Jjb T136 hja _ vmja _ nm (X136.more (by decide) (by decide)) K136 N136 Zja hZja hownja hSja hkja CRja Pja_0 Pja_1 hnm
   case neg =>
    refine Goes.st (fun sT kT => XS.icmpYes Xja.here hx rfl (pc0 := 64) (pc' := 83) rfl (hb hby at_64) rfl (feq cz134).2 (by decide) (by decide) kT) ?_
    show Goes _ _ _ _ (Tja.setTop (mkF m 83 #[.val (.int p0), .val (.int p1), .val (.int p2), .val (.int p3), .val (.int p4), .val (.int p5), .val (.int (p0 &&& (3 : Int32))), .val (.ref xq), .val (.int (p1 &&& (3 : Int32))), uS, uS, uS, uS] []))
    refine Goes.st (fun sT kT => XS.iload Xja.here hx rfl (hb hby at_83) rfl kT) ?_
    show Goes _ _ _ _ (Tja.setTop (mkF m 85 #[.val (.int p0), .val (.int p1), .val (.int p2), .val (.int p3), .val (.int p4), .val (.int p5), .val (.int (p0 &&& (3 : Int32))), .val (.ref xq), .val (.int (p1 &&& (3 : Int32))), uS, uS, uS, uS] [(.int (p1 &&& (3 : Int32)))]))
    refine Goes.st (fun sT kT => XS.iconst Xja.here hx rfl (hb hby at_85) kT) ?_
    show Goes _ _ _ _ (Tja.setTop (mkF m 86 #[.val (.int p0), .val (.int p1), .val (.int p2), .val (.int p3), .val (.int p4), .val (.int p5), .val (.int (p0 &&& (3 : Int32))), .val (.ref xq), .val (.int (p1 &&& (3 : Int32))), uS, uS, uS, uS] [(.int (2 : Int32)), (.int (p1 &&& (3 : Int32)))]))
    by_cases cz137 : (p1 &&& (3 : Int32)) = (2 : Int32)
    case pos =>
     refine Goes.st (fun sT kT => XS.icmpNo Xja.here hx rfl (hb hby at_86) rfl (teq cz137).2 kT) ?_
     show Goes _ _ _ _ (Tja.setTop (mkF m 89 #[.val (.int p0), .val (.int p1), .val (.int p2), .val (.int p3), .val (.int p4), .val (.int p5), .val (.int (p0 &&& (3 : Int32))), .val (.ref xq), .val (.int (p1 &&& (3 : Int32))), uS, uS, uS, uS] []))
     refine Goes.st (fun sT kT => XS.aload Xja.here hx rfl (hb hby at_89) rfl rfl kT) ?_
     show Goes _ _ _ _ (Tja.setTop (mkF m 91 #[.val (.int p0), .val (.int p1), .val (.int p2), .val (.int p3), .val (.int p4), .val (.int p5), .val (.int (p0 &&& (3 : Int32))), .val (.ref xq), .val (.int (p1 &&& (3 : Int32))), uS, uS, uS, uS] [(.ref xq)]))
     obtain ⟨cq138, kq138, q138a, q138b, q138c⟩ := isOf (s := s.setVm vmja) hZja eja Pja_0.1
     obtain ⟨_, _, ⟨T138, L138, k138, n138⟩, -, X138, ⟨Lc138, hQ138, l138, y138, z138⟩, st138⟩ := Xja.virtualBack hx (y := (⟨"java/lang/String", "length", "()I"⟩ : MethodName)) (z := (⟨"java/lang/String", "length", "()I"⟩ : MethodName)) hownja (mvT hZja (hw42 hw)) (mvT hZja (hw43 hw)) (notFace_of_selects (args := #[]) (mvT hZja (hw45 hw))) (mvT hZja (hw45 hw)) (mvT hZja (hw44 hw)) (by decide) (StrChars.Road.lenW (W := 0) hZja (own_hln hw) (kI := 4) (hw2 hw) Pja_0.1 Pja_0.2.1 Pja_0.2.2.1 Pja_0.2.2.2.1 (own_cod Pja_0) (own_up Pja_0.2.2.2.2.1) (O2.ext Pja_1.2) P5 Pja_0.2.2.2.2.2 (by decide) (by decide)) q138a q138c (g := (mkF m 91 #[.val (.int p0), .val (.int p1), .val (.int p2), .val (.int p3), .val (.int p4), .val (.int p5), .val (.int (p0 &&& (3 : Int32))), .val (.ref xq), .val (.int (p1 &&& (3 : Int32))), uS, uS, uS, uS] [(.ref xq)])) rfl (by rw [hml]; rfl) (Steps.refl _) (argsL := []) (rest := []) (lenOf pd_3 rfl) rfl (by show 2 * 0 + _ ≤ _; exact Nat.le_of_eq rfl) (hb hby at_91) (fun _ _ => ⟨rfl, eja, (by decide : 2 + 0 ≤ _), (by decide : 52 + 0 ≤ _)⟩)
     dsimp only [Pt.U, Pt.locs, Pt.cells, Pt.slots] at X138 l138 y138 z138 st138 hQ138
     subst l138 y138 z138
     obtain ⟨rfl, rfl, K138⟩ := hQ138
     have N138 := Fr.app Nja (Fr.nil n0)
     refine Goes.tr st138 ?_
     show Goes _ _ _ _ (T138.setTop (mkF m 94 #[.val (.int p0), .val (.int p1), .val (.int p2), .val (.int p3), .val (.int p4), .val (.int p5), .val (.int (p0 &&& (3 : Int32))), .val (.ref xq), .val (.int (p1 &&& (3 : Int32))), uS, uS, uS, uS] [(.int (Int32.ofNat ts.length))]))
     refine Goes.st (fun sT kT => XS.iconst X138.here hx rfl (hb hby at_94) kT) ?_
     show Goes _ _ _ _ (T138.setTop (mkF m 95 #[.val (.int p0), .val (.int p1), .val (.int p2), .val (.int p3), .val (.int p4), .val (.int p5), .val (.int (p0 &&& (3 : Int32))), .val (.ref xq), .val (.int (p1 &&& (3 : Int32))), uS, uS, uS, uS] [(.int (1 : Int32)), (.int (Int32.ofNat ts.length))]))
     refine Goes.st (fun sT kT => XS.iadd X138.here hx rfl (hb hby at_95) rfl kT) ?_
     show Goes _ _ _ _ (T138.setTop (mkF m 96 #[.val (.int p0), .val (.int p1), .val (.int p2), .val (.int p3), .val (.int p4), .val (.int p5), .val (.int (p0 &&& (3 : Int32))), .val (.ref xq), .val (.int (p1 &&& (3 : Int32))), uS, uS, uS, uS] [(.int ((Int32.ofNat ts.length) + (1 : Int32)))]))
     rw [own_nadd1]
     show Goes _ _ _ _ (T138.setTop (mkF m 96 #[.val (.int p0), .val (.int p1), .val (.int p2), .val (.int p3), .val (.int p4), .val (.int p5), .val (.int (p0 &&& (3 : Int32))), .val (.ref xq), .val (.int (p1 &&& (3 : Int32))), uS, uS, uS, uS] [(.int (Int32.ofNat (ts.length + 1)))]))
     refine Goes.st (fun sT kT => XS.istore X138.here hx rfl (hb hby at_96) rfl (l' := #[.val (.int p0), .val (.int p1), .val (.int p2), .val (.int p3), .val (.int p4), .val (.int p5), .val (.int (p0 &&& (3 : Int32))), .val (.ref xq), .val (.int (p1 &&& (3 : Int32))), .val (.int (Int32.ofNat (ts.length + 1))), uS, uS, uS]) rfl kT) ?_
     show Goes _ _ _ _ (T138.setTop (mkF m 98 #[.val (.int p0), .val (.int p1), .val (.int p2), .val (.int p3), .val (.int p4), .val (.int p5), .val (.int (p0 &&& (3 : Int32))), .val (.ref xq), .val (.int (p1 &&& (3 : Int32))), .val (.int (Int32.ofNat (ts.length + 1))), uS, uS, uS] []))
     refine Goes.st (fun sT kT => XS.goto X138.here hx rfl (pc0 := 98) (pc' := 109) rfl (hb hby at_98) (by decide) (by decide) kT) ?_
     show Goes _ _ _ _ (T138.setTop (mkF m 109 #[.val (.int p0), .val (.int p1), .val (.int p2), .val (.int p3), .val (.int p4), .val (.int p5), .val (.int (p0 &&& (3 : Int32))), .val (.ref xq), .val (.int (p1 &&& (3 : Int32))), .val (.int (Int32.ofNat (ts.length + 1))), uS, uS, uS] []))
     exact Jjb T138 hja _ vmja _ (ts.length + 1) (X138.more (by decide) (by decide)) K138 N138 Zja hZja hownja hSja hkja CRja Pja_0 Pja_1 (Nat.succ_le_succ hts)
    case neg =>
     refine Goes.st (fun sT kT => XS.icmpYes Xja.here hx rfl (pc0 := 86) (pc' := 101) rfl (hb hby at_86) rfl (feq cz137).2 (by decide) (by decide) kT) ?_
     show Goes _ _ _ _ (Tja.setTop (mkF m 101 #[.val (.int p0), .val (.int p1), .val (.int p2), .val (.int p3), .val (.int p4), .val (.int p5), .val (.int (p0 &&& (3 : Int32))), .val (.ref xq), .val (.int (p1 &&& (3 : Int32))), uS, uS, uS, uS] []))
     refine Goes.st (fun sT kT => XS.iloadN Xja.here hx rfl (hb hby at_101) rfl kT) ?_
     show Goes _ _ _ _ (Tja.setTop (mkF m 102 #[.val (.int p0), .val (.int p1), .val (.int p2), .val (.int p3), .val (.int p4), .val (.int p5), .val (.int (p0 &&& (3 : Int32))), .val (.ref xq), .val (.int (p1 &&& (3 : Int32))), uS, uS, uS, uS] [(.int p1)]))
     refine Goes.st (fun sT kT => XS.iconst Xja.here hx rfl (hb hby at_102) kT) ?_
     show Goes _ _ _ _ (Tja.setTop (mkF m 103 #[.val (.int p0), .val (.int p1), .val (.int p2), .val (.int p3), .val (.int p4), .val (.int p5), .val (.int (p0 &&& (3 : Int32))), .val (.ref xq), .val (.int (p1 &&& (3 : Int32))), uS, uS, uS, uS] [(.int (2 : Int32)), (.int p1)]))
     refine Goes.st (fun sT kT => XS.iushr Xja.here hx rfl (hb hby at_103) rfl kT) ?_
     show Goes _ _ _ _ (Tja.setTop (mkF m 104 #[.val (.int p0), .val (.int p1), .val (.int p2), .val (.int p3), .val (.int p4), .val (.int p5), .val (.int (p0 &&& (3 : Int32))), .val (.ref xq), .val (.int (p1 &&& (3 : Int32))), uS, uS, uS, uS] [(.int ((p1.toUInt32 >>> ((2 : Int32) &&& 31).toUInt32).toInt32))]))
     refine Goes.st (fun sT kT => XS.bipush Xja.here hx rfl (hb hby at_104) kT) ?_
     show Goes _ _ _ _ (Tja.setTop (mkF m 106 #[.val (.int p0), .val (.int p1), .val (.int p2), .val (.int p3), .val (.int p4), .val (.int p5), .val (.int (p0 &&& (3 : Int32))), .val (.ref xq), .val (.int (p1 &&& (3 : Int32))), uS, uS, uS, uS] [(.int (14 : Int32)), (.int ((p1.toUInt32 >>> ((2 : Int32) &&& 31).toUInt32).toInt32))]))
     refine Goes.st (fun sT kT => iremM (g := (mkF m 106 #[.val (.int p0), .val (.int p1), .val (.int p2), .val (.int p3), .val (.int p4), .val (.int p5), .val (.int (p0 &&& (3 : Int32))), .val (.ref xq), .val (.int (p1 &&& (3 : Int32))), uS, uS, uS, uS] [(.int (14 : Int32)), (.int ((p1.toUInt32 >>> ((2 : Int32) &&& 31).toUInt32).toInt32))])) Xja hx rfl (hb hby at_106) rfl (by decide) kT) ?_
     show Goes _ _ _ _ (Tja.setTop (mkF m 107 #[.val (.int p0), .val (.int p1), .val (.int p2), .val (.int p3), .val (.int p4), .val (.int p5), .val (.int (p0 &&& (3 : Int32))), .val (.ref xq), .val (.int (p1 &&& (3 : Int32))), uS, uS, uS, uS] [(.int (((p1.toUInt32 >>> ((2 : Int32) &&& 31).toUInt32).toInt32) % (14 : Int32)))]))
     obtain ⟨nm, hnm, hnme⟩ : ∃ n : Nat, n ≤ 13 ∧ (((p1.toUInt32 >>> ((2 : Int32) &&& 31).toUInt32).toInt32) % (14 : Int32)) = Int32.ofNat n := own_sh14 p1
     rw [hnme]
     show Goes _ _ _ _ (Tja.setTop (mkF m 107 #[.val (.int p0), .val (.int p1), .val (.int p2), .val (.int p3), .val (.int p4), .val (.int p5), .val (.int (p0 &&& (3 : Int32))), .val (.ref xq), .val (.int (p1 &&& (3 : Int32))), uS, uS, uS, uS] [(.int (Int32.ofNat nm))]))
     refine Goes.st (fun sT kT => XS.istore Xja.here hx rfl (hb hby at_107) rfl (l' := #[.val (.int p0), .val (.int p1), .val (.int p2), .val (.int p3), .val (.int p4), .val (.int p5), .val (.int (p0 &&& (3 : Int32))), .val (.ref xq), .val (.int (p1 &&& (3 : Int32))), .val (.int (Int32.ofNat nm)), uS, uS, uS]) rfl kT) ?_
     show Goes _ _ _ _ (Tja.setTop (mkF m 109 #[.val (.int p0), .val (.int p1), .val (.int p2), .val (.int p3), .val (.int p4), .val (.int p5), .val (.int (p0 &&& (3 : Int32))), .val (.ref xq), .val (.int (p1 &&& (3 : Int32))), .val (.int (Int32.ofNat nm)), uS, uS, uS] []))
     exact Jjb Tja hja _ vmja _ nm (Xja.more (by decide) (by decide)) eja Nja Zja hZja hownja hSja hkja CRja Pja_0 Pja_1 hnm
 show Goes _ _ _ _ (s₁.setTop (mkF m 5 #[.val (.int p0), .val (.int p1), .val (.int p2), .val (.int p3), .val (.int p4), .val (.int p5), .val (.int (p0 &&& (3 : Int32))), uS, uS, uS, uS, uS, uS] []))
 refine Goes.st (fun sT kT => XS.iload X0.here hx rfl (hb hby at_5) rfl kT) ?_
 show Goes _ _ _ _ (s₁.setTop (mkF m 7 #[.val (.int p0), .val (.int p1), .val (.int p2), .val (.int p3), .val (.int p4), .val (.int p5), .val (.int (p0 &&& (3 : Int32))), uS, uS, uS, uS, uS, uS] [(.int (p0 &&& (3 : Int32)))]))
 by_cases cz139 : (p0 &&& (3 : Int32)) = (0 : Int32)
 case pos =>
  refine Goes.st (fun sT kT => XS.ifNo X0.here hx rfl (hb hby at_7) rfl ((if0 _ _).trans (teq cz139).2) kT) ?_
  show Goes _ _ _ _ (s₁.setTop (mkF m 10 #[.val (.int p0), .val (.int p1), .val (.int p2), .val (.int p3), .val (.int p4), .val (.int p5), .val (.int (p0 &&& (3 : Int32))), uS, uS, uS, uS, uS, uS] []))
  obtain ⟨b140, T140, h140, kk140, t140, kb140, X140, e140, E140, hS140, hk140, hZ140, hown140, Ex140, Cd140, Vf140, Av140, lb140, lt140, C140, Lt140, hne140, st140⟩ := ldcCH X0 hx hZ hown (hw0 hw) (own_wS hw) e0 hS0 hk0 (own_EW hw) (by decide +kernel) CR0.1 (vs := [(.int (80 : Int32)), (.int (101 : Int32)), (.int (114 : Int32)), (.int (116 : Int32)), (.int (117 : Int32)), (.int (114 : Int32)), (.int (98 : Int32)), (.int (97 : Int32)), (.int (116 : Int32)), (.int (105 : Int32)), (.int (111 : Int32)), (.int (110 : Int32))]) (z := (12 : Int32)) ⟨by decide, by decide⟩ (by decide) (by decide) (g := (mkF m 10 #[.val (.int p0), .val (.int p1), .val (.int p2), .val (.int p3), .val (.int p4), .val (.int p5), .val (.int (p0 &&& (3 : Int32))), uS, uS, uS, uS, uS, uS] [])) rfl (hb hby at_10) (n := 48) (by decide) (by decide) (by decide) (by decide)
  have CR140 : CHr Z EL s.vm h0 T140.vm h140 := CR0.trans C140
  refine Goes.st st140 ?_
  show Goes _ _ _ _ (T140.setTop (mkF m 12 #[.val (.int p0), .val (.int p1), .val (.int p2), .val (.int p3), .val (.int p4), .val (.int p5), .val (.int (p0 &&& (3 : Int32))), uS, uS, uS, uS, uS, uS] [(.ref b140)]))
  refine Goes.st (fun sT kT => XS.goto X140.here hx rfl (pc0 := 12) (pc' := 39) rfl (hb hby at_12) (by decide) (by decide) kT) ?_
  show Goes _ _ _ _ (T140.setTop (mkF m 39 #[.val (.int p0), .val (.int p1), .val (.int p2), .val (.int p3), .val (.int p4), .val (.int p5), .val (.int (p0 &&& (3 : Int32))), uS, uS, uS, uS, uS, uS] [(.ref b140)]))
  have S141 : Str Z h140 b140 t140 kb140 own_P := own_slit Ex140 Vf140 Cd140 Av140 rfl rfl (by decide +kernel) (by decide +kernel) (by decide)
  have f142 : Old Z n0 h140 := (P0.ext E140)
  exact Jja T140 h140 _ T140.vm _ b140 t140 kb140 own_P (X140.more (by decide) (by decide)) e140 N0 (Nat.le_trans Z0 E140.1) hZ140 hown140 hS140 hk140 CR140 S141 f142 (by decide)
 case neg =>
  refine Goes.st (fun sT kT => XS.ifYes X0.here hx rfl (pc0 := 7) (pc' := 15) rfl (hb hby at_7) rfl ((if0 _ _).trans (feq cz139).2) (by decide) (by decide) kT) ?_
  show Goes _ _ _ _ (s₁.setTop (mkF m 15 #[.val (.int p0), .val (.int p1), .val (.int p2), .val (.int p3), .val (.int p4), .val (.int p5), .val (.int (p0 &&& (3 : Int32))), uS, uS, uS, uS, uS, uS] []))
  refine Goes.st (fun sT kT => XS.iload X0.here hx rfl (hb hby at_15) rfl kT) ?_
  show Goes _ _ _ _ (s₁.setTop (mkF m 17 #[.val (.int p0), .val (.int p1), .val (.int p2), .val (.int p3), .val (.int p4), .val (.int p5), .val (.int (p0 &&& (3 : Int32))), uS, uS, uS, uS, uS, uS] [(.int (p0 &&& (3 : Int32)))]))
  refine Goes.st (fun sT kT => XS.iconst X0.here hx rfl (hb hby at_17) kT) ?_
  show Goes _ _ _ _ (s₁.setTop (mkF m 18 #[.val (.int p0), .val (.int p1), .val (.int p2), .val (.int p3), .val (.int p4), .val (.int p5), .val (.int (p0 &&& (3 : Int32))), uS, uS, uS, uS, uS, uS] [(.int (1 : Int32)), (.int (p0 &&& (3 : Int32)))]))
  by_cases cz143 : (p0 &&& (3 : Int32)) = (1 : Int32)
  case pos =>
   refine Goes.st (fun sT kT => XS.icmpNo X0.here hx rfl (hb hby at_18) rfl (teq cz143).2 kT) ?_
   show Goes _ _ _ _ (s₁.setTop (mkF m 21 #[.val (.int p0), .val (.int p1), .val (.int p2), .val (.int p3), .val (.int p4), .val (.int p5), .val (.int (p0 &&& (3 : Int32))), uS, uS, uS, uS, uS, uS] []))
   obtain ⟨b144, T144, h144, kk144, t144, kb144, X144, e144, E144, hS144, hk144, hZ144, hown144, Ex144, Cd144, Vf144, Av144, lb144, lt144, C144, Lt144, hne144, st144⟩ := ldcCH X0 hx hZ hown (hw80 hw) (own_wS hw) e0 hS0 hk0 (own_EW hw) (by decide +kernel) CR0.1 (vs := [(.int (73 : Int32)), (.int (110 : Int32)), (.int (102 : Int32)), (.int (111 : Int32)), (.int (114 : Int32)), (.int (109 : Int32)), (.int (97 : Int32)), (.int (116 : Int32)), (.int (105 : Int32)), (.int (111 : Int32)), (.int (110 : Int32))]) (z := (11 : Int32)) ⟨by decide, by decide⟩ (by decide) (by decide) (g := (mkF m 21 #[.val (.int p0), .val (.int p1), .val (.int p2), .val (.int p3), .val (.int p4), .val (.int p5), .val (.int (p0 &&& (3 : Int32))), uS, uS, uS, uS, uS, uS] [])) rfl (hb hby at_21) (n := 44) (by decide) (by decide) (by decide) (by decide)
   have CR144 : CHr Z EL s.vm h0 T144.vm h144 := CR0.trans C144
   refine Goes.st st144 ?_
   show Goes _ _ _ _ (T144.setTop (mkF m 23 #[.val (.int p0), .val (.int p1), .val (.int p2), .val (.int p3), .val (.int p4), .val (.int p5), .val (.int (p0 &&& (3 : Int32))), uS, uS, uS, uS, uS, uS] [(.ref b144)]))
   refine Goes.st (fun sT kT => XS.goto X144.here hx rfl (pc0 := 23) (pc' := 39) rfl (hb hby at_23) (by decide) (by decide) kT) ?_
   show Goes _ _ _ _ (T144.setTop (mkF m 39 #[.val (.int p0), .val (.int p1), .val (.int p2), .val (.int p3), .val (.int p4), .val (.int p5), .val (.int (p0 &&& (3 : Int32))), uS, uS, uS, uS, uS, uS] [(.ref b144)]))
   have S145 : Str Z h144 b144 t144 kb144 own_I := own_slit Ex144 Vf144 Cd144 Av144 rfl rfl (by decide +kernel) (by decide +kernel) (by decide)
   have f146 : Old Z n0 h144 := (P0.ext E144)
   exact Jja T144 h144 _ T144.vm _ b144 t144 kb144 own_I (X144.more (by decide) (by decide)) e144 N0 (Nat.le_trans Z0 E144.1) hZ144 hown144 hS144 hk144 CR144 S145 f146 (by decide)
  case neg =>
   refine Goes.st (fun sT kT => XS.icmpYes X0.here hx rfl (pc0 := 18) (pc' := 26) rfl (hb hby at_18) rfl (feq cz143).2 (by decide) (by decide) kT) ?_
   show Goes _ _ _ _ (s₁.setTop (mkF m 26 #[.val (.int p0), .val (.int p1), .val (.int p2), .val (.int p3), .val (.int p4), .val (.int p5), .val (.int (p0 &&& (3 : Int32))), uS, uS, uS, uS, uS, uS] []))
   refine Goes.st (fun sT kT => XS.iload X0.here hx rfl (hb hby at_26) rfl kT) ?_
   show Goes _ _ _ _ (s₁.setTop (mkF m 28 #[.val (.int p0), .val (.int p1), .val (.int p2), .val (.int p3), .val (.int p4), .val (.int p5), .val (.int (p0 &&& (3 : Int32))), uS, uS, uS, uS, uS, uS] [(.int (p0 &&& (3 : Int32)))]))
   refine Goes.st (fun sT kT => XS.iconst X0.here hx rfl (hb hby at_28) kT) ?_
   show Goes _ _ _ _ (s₁.setTop (mkF m 29 #[.val (.int p0), .val (.int p1), .val (.int p2), .val (.int p3), .val (.int p4), .val (.int p5), .val (.int (p0 &&& (3 : Int32))), uS, uS, uS, uS, uS, uS] [(.int (2 : Int32)), (.int (p0 &&& (3 : Int32)))]))
   by_cases cz147 : (p0 &&& (3 : Int32)) = (2 : Int32)
   case pos =>
    refine Goes.st (fun sT kT => XS.icmpNo X0.here hx rfl (hb hby at_29) rfl (teq cz147).2 kT) ?_
    show Goes _ _ _ _ (s₁.setTop (mkF m 32 #[.val (.int p0), .val (.int p1), .val (.int p2), .val (.int p3), .val (.int p4), .val (.int p5), .val (.int (p0 &&& (3 : Int32))), uS, uS, uS, uS, uS, uS] []))
    obtain ⟨b148, T148, h148, kk148, t148, kb148, X148, e148, E148, hS148, hk148, hZ148, hown148, Ex148, Cd148, Vf148, Av148, lb148, lt148, C148, Lt148, hne148, st148⟩ := ldcCH X0 hx hZ hown (hw98 hw) (own_wS hw) e0 hS0 hk0 (own_EW hw) (by decide +kernel) CR0.1 (vs := [(.int (67 : Int32)), (.int (111 : Int32)), (.int (109 : Int32)), (.int (109 : Int32)), (.int (101 : Int32)), (.int (114 : Int32)), (.int (99 : Int32)), (.int (105 : Int32)), (.int (97 : Int32)), (.int (108 : Int32))]) (z := (10 : Int32)) ⟨by decide, by decide⟩ (by decide) (by decide) (g := (mkF m 32 #[.val (.int p0), .val (.int p1), .val (.int p2), .val (.int p3), .val (.int p4), .val (.int p5), .val (.int (p0 &&& (3 : Int32))), uS, uS, uS, uS, uS, uS] [])) rfl (hb hby at_32) (n := 40) (by decide) (by decide) (by decide) (by decide)
    have CR148 : CHr Z EL s.vm h0 T148.vm h148 := CR0.trans C148
    refine Goes.st st148 ?_
    show Goes _ _ _ _ (T148.setTop (mkF m 34 #[.val (.int p0), .val (.int p1), .val (.int p2), .val (.int p3), .val (.int p4), .val (.int p5), .val (.int (p0 &&& (3 : Int32))), uS, uS, uS, uS, uS, uS] [(.ref b148)]))
    refine Goes.st (fun sT kT => XS.goto X148.here hx rfl (pc0 := 34) (pc' := 39) rfl (hb hby at_34) (by decide) (by decide) kT) ?_
    show Goes _ _ _ _ (T148.setTop (mkF m 39 #[.val (.int p0), .val (.int p1), .val (.int p2), .val (.int p3), .val (.int p4), .val (.int p5), .val (.int (p0 &&& (3 : Int32))), uS, uS, uS, uS, uS, uS] [(.ref b148)]))
    have S149 : Str Z h148 b148 t148 kb148 own_C := own_slit Ex148 Vf148 Cd148 Av148 rfl rfl (by decide +kernel) (by decide +kernel) (by decide)
    have f150 : Old Z n0 h148 := (P0.ext E148)
    exact Jja T148 h148 _ T148.vm _ b148 t148 kb148 own_C (X148.more (by decide) (by decide)) e148 N0 (Nat.le_trans Z0 E148.1) hZ148 hown148 hS148 hk148 CR148 S149 f150 (by decide)
   case neg =>
    refine Goes.st (fun sT kT => XS.icmpYes X0.here hx rfl (pc0 := 29) (pc' := 37) rfl (hb hby at_29) rfl (feq cz147).2 (by decide) (by decide) kT) ?_
    show Goes _ _ _ _ (s₁.setTop (mkF m 37 #[.val (.int p0), .val (.int p1), .val (.int p2), .val (.int p3), .val (.int p4), .val (.int p5), .val (.int (p0 &&& (3 : Int32))), uS, uS, uS, uS, uS, uS] []))
    obtain ⟨b151, T151, h151, kk151, t151, kb151, X151, e151, E151, hS151, hk151, hZ151, hown151, Ex151, Cd151, Vf151, Av151, lb151, lt151, C151, Lt151, hne151, st151⟩ := ldcCH X0 hx hZ hown (hw100 hw) (own_wS hw) e0 hS0 hk0 (own_EW hw) (by decide +kernel) CR0.1 (vs := []) (z := (0 : Int32)) ⟨by decide, by decide⟩ (by decide) (by decide) (g := (mkF m 37 #[.val (.int p0), .val (.int p1), .val (.int p2), .val (.int p3), .val (.int p4), .val (.int p5), .val (.int (p0 &&& (3 : Int32))), uS, uS, uS, uS, uS, uS] [])) rfl (hb hby at_37) (n := 0) (by decide) (by decide) (by decide) (by decide)
    have CR151 : CHr Z EL s.vm h0 T151.vm h151 := CR0.trans C151
    refine Goes.st st151 ?_
    show Goes _ _ _ _ (T151.setTop (mkF m 39 #[.val (.int p0), .val (.int p1), .val (.int p2), .val (.int p3), .val (.int p4), .val (.int p5), .val (.int (p0 &&& (3 : Int32))), uS, uS, uS, uS, uS, uS] [(.ref b151)]))
    have S152 : Str Z h151 b151 t151 kb151 [] := own_slit Ex151 Vf151 Cd151 Av151 rfl rfl (by decide +kernel) (by decide +kernel) (by decide)
    have f153 : Old Z n0 h151 := (P0.ext E151)
    exact Jja T151 h151 _ T151.vm _ b151 t151 kb151 [] (X151.more (by decide) (by decide)) e151 N0 (Nat.le_trans Z0 E151.1) hZ151 hown151 hS151 hk151 CR151 S152 f153 (by decide)
set_option maxRecDepth 65536 in
set_option maxHeartbeats 40000000 in
theorem comes_1 {Post : Tables → Env → Array Value → State → Outcome → State → Prop} (hpost : ∀ tb e args s v u, (limb_1_1.after args s (.returned v) u = true ∧ limb_1_2.after args s (.returned v) u = true ∧ True) → ReturnedEndW s (.returned v) u (Jvm.fieldLocs frame_1_writes args s ++ Jvm.arrayLocs frame_1_arrays args s ++ Jvm.staticLocs frame_1_statics s) 32 5312 → Post tb e args s (.returned v) u) :
    ArmFor flags0 classFile x code maxLocals ret World_1 tables_1 room_1 Calls_1 rest_1 Pre_1 Post := by
  intro l hfl _ _ p e ha hc hk s m args below hf hA hF happ hP
  obtain ⟨hcalls, hrest, hpre⟩ := hP
  obtain ⟨-, -, -, hnamed, -, -, -, hat⟩ := (Spec.applies_iff hf).mp happ
  obtain ⟨hg, hn⟩ := and_e (Cond.before_iff.mp (show (Jvm.Cond.and given_1 narrow_1).before args s = true from hpre))
  obtain ⟨gc, gr0⟩ := and_e hg
  obtain ⟨ga0, gr1⟩ := and_e gr0
  obtain ⟨ga1, gr2⟩ := and_e gr1
  obtain ⟨ga2, gr3⟩ := and_e gr2
  obtain ⟨ga3, gr4⟩ := and_e gr3
  obtain ⟨ga4, gr5⟩ := and_e gr4
  obtain ⟨w0, w1, w2, w3, w4, w5, rfl⟩ : ∃ w0 w1 w2 w3 w4 w5 : Value, args = #[w0, w1, w2, w3, w4, w5] := by
    have hs : args.size = 6 := by simpa [Cond.value, given_1] using gc
    obtain ⟨L⟩ := args
    match L, hs with
    | [w0, w1, w2, w3, w4, w5], _ => exact ⟨w0, w1, w2, w3, w4, w5, rfl⟩
  have hw := fun d (hd : d ∈ tables_1) => atoms_spec (ws := Jvm.Cond.code x code maxLocals ret :: tables_1) hat d (List.mem_cons_of_mem _ hd)
  obtain ⟨hsets, hown0⟩ := atoms_of _ (rest_1_c_eq ▸ (show rest_1_c.before _ s = true from hrest))
  have n5 := not_v (Cond.before_iff.mp (hsets _ (List.mem_of_getElem? (i := 2) rfl)))
  obtain ⟨i0, ei0⟩ := is_v ga0
  obtain rfl : w0 = (.int i0) := Option.some.inj ei0
  obtain ⟨i1, ei1⟩ := is_v ga1
  obtain rfl : w1 = (.int i1) := Option.some.inj ei1
  obtain ⟨i2, ei2⟩ := is_v ga2
  obtain rfl : w2 = (.int i2) := Option.some.inj ei2
  obtain ⟨i3, ei3⟩ := is_v ga3
  obtain rfl : w3 = (.int i3) := Option.some.inj ei3
  obtain ⟨i4, ei4⟩ := is_v ga4
  obtain rfl : w4 = (.int i4) := Option.some.inj ei4
  obtain ⟨i5, ei5⟩ := is_v gr5
  obtain rfl : w5 = (.int i5) := Option.some.inj ei5
  obtain ⟨iG, eG⟩ := is_v (Cond.before_iff.mp (hsets _ (List.mem_of_getElem? (i := 1) rfl)))
  have SG : Sta s s.heap "java/lang/String" "COMPACT_STRINGS" "Z" (.int iG) := Sta.start eG (Or.inl (hsets _ (List.mem_of_getElem? (i := 0) rfl)))
  have cG : ¬ (iG = (0 : Int32)) := gotF (Cond.eq_ints eG (Term.int_eval (0))) n5
  obtain ⟨vF, eF, rF⟩ := isR_v (Cond.before_iff.mp (hsets _ (List.mem_of_getElem? (i := 8) rfl)))
  have SF : Sta s s.heap "jdk/internal/util/Preconditions" "SIOOBE_FORMATTER" "Ljava/util/function/BiFunction;" vF := Sta.start eF (Or.inl (hsets _ (List.mem_of_getElem? (i := 7) rfl)))
  have hfit : Fit s := fun {y c} hc i hi => by
    obtain ⟨ha, rfl⟩ := Array.getElem?_eq_some_iff.mp hc
    have q := List.all_eq_true.mp ((Array.all_eq_true_iff_forall_mem.mp hF) _ (Array.getElem_mem ha)) i (List.mem_range.mpr hi)
    simpa [Array.getElem?_eq_getElem hi] using q
  obtain ⟨u0, v0⟩ := and_e hn
  obtain ⟨u1, v1⟩ := and_e v0
  obtain ⟨u2, v2⟩ := and_e v1
  obtain ⟨u3, v3⟩ := and_e v2
  obtain ⟨u4, v4⟩ := and_e v3
  obtain ⟨u5, v5⟩ := and_e v4
  obtain ⟨u6, v6⟩ := and_e v5
  obtain ⟨u7, v7⟩ := and_e v6
  obtain ⟨u8, v8⟩ := and_e v7
  obtain ⟨u9, v9⟩ := and_e v8
  obtain ⟨u10, v10⟩ := and_e v9
  obtain ⟨u11, v11⟩ := and_e v10
  obtain ⟨u12, v12⟩ := and_e v11
  obtain ⟨u13, v13⟩ := and_e v12
  obtain ⟨u14, v14⟩ := and_e v13
  obtain ⟨u15, v15⟩ := and_e v14
  obtain ⟨u16, v16⟩ := and_e v15
  obtain ⟨u17, v17⟩ := and_e v16
  obtain ⟨u18, v18⟩ := and_e v17
  obtain ⟨u19, v19⟩ := and_e v18
  obtain ⟨u20, v20⟩ := and_e v19
  obtain ⟨u21, v21⟩ := and_e v20
  obtain ⟨u22, v22⟩ := and_e v21
  obtain ⟨u23, v23⟩ := and_e v22
  obtain ⟨u24, v24⟩ := and_e v23
  obtain ⟨u25, v25⟩ := and_e v24
  obtain ⟨u26, v26⟩ := and_e v25
  obtain ⟨u27, v27⟩ := and_e v26
  obtain ⟨u28, v28⟩ := and_e v27
  obtain ⟨u29, v29⟩ := and_e v28
  obtain ⟨u30, v30⟩ := and_e v29
  obtain ⟨u31, v31⟩ := and_e v30
  obtain ⟨u32, v32⟩ := and_e v31
  obtain ⟨u33, v33⟩ := and_e v32
  obtain ⟨u34, v34⟩ := and_e v33
  obtain ⟨u35, v35⟩ := and_e v34
  obtain ⟨u36, v36⟩ := and_e v35
  obtain ⟨u37, v37⟩ := and_e v36
  obtain ⟨u38, v38⟩ := and_e v37
  obtain ⟨u39, v39⟩ := and_e v38
  obtain ⟨u40, v40⟩ := and_e v39
  obtain ⟨u41, v41⟩ := and_e v40
  obtain ⟨u42, v42⟩ := and_e v41
  obtain ⟨u43, v43⟩ := and_e v42
  obtain ⟨u44, v44⟩ := and_e v43
  obtain ⟨u45, v45⟩ := and_e v44
  obtain ⟨u46, v46⟩ := and_e v45
  obtain ⟨u47, v47⟩ := and_e v46
  obtain ⟨u48, v48⟩ := and_e v47
  obtain ⟨u49, v49⟩ := and_e v48
  obtain ⟨u50, v50⟩ := and_e v49
  obtain ⟨u51, v51⟩ := and_e v50
  obtain ⟨u52, v52⟩ := and_e v51
  obtain ⟨cP, tP, kP, ecP, SP⟩ := own_strS (cs := own_P) hfit u9 u12 u13 u14 ⟨u21, u22, u23, u24, u25, u26, u27, u28, u29, u30, u31, u32, trivial⟩ rfl (by decide) (by decide +kernel) (by decide +kernel)
  obtain ⟨eP, eeP, EEP⟩ := own_E1S (hw11 hw) (hw25 hw) u3 ecP SP
  obtain ⟨cI, tI, kI, ecI, SI⟩ := own_strS (cs := own_I) hfit u10 u15 u16 u17 ⟨u33, u34, u35, u36, u37, u38, u39, u40, u41, u42, u43, trivial⟩ rfl (by decide) (by decide +kernel) (by decide +kernel)
  obtain ⟨eI, eeI, EEI⟩ := own_E1S (hw11 hw) (hw26 hw) u5 ecI SI
  obtain ⟨cC, tC, kC, ecC, SC⟩ := own_strS (cs := own_C) hfit u11 u18 u19 u20 ⟨u44, u45, u46, u47, u48, u49, u50, u51, u52, v52, trivial⟩ rfl (by decide) (by decide +kernel) (by decide +kernel)
  obtain ⟨eC, eeC, EEC⟩ := own_E1S (hw11 hw) (hw27 hw) u7 ecC SC
  obtain ⟨aV, cV0, eV, hcV0, eV0, hsV⟩ := Jvm.Free.SB.Term.length_small (eqv_i (Term.int_eval (3)) u2)
  obtain ⟨cV, AV⟩ := Arr.start eV u0
  obtain rfl : cV0 = cV := Option.some.inj (hcV0.symm.trans (AV.fin (Vm.Alike.refl _)))
  have VV : Arv s s.heap aV cV0.cls (.object "com/example/sillon/sillon/siri/GeneralMessageChannel") (3 : Int32) [(.ref eP), (.ref eI), (.ref eC)] .null := Arv.start hfit AV hsV (Value.int.inj eV0).symm (by decide) rfl ⟨own_elr u4 eV eeP AV.1, own_elr u6 eV eeI AV.1, own_elr u8 eV eeC AV.1, trivial⟩
  have EN : own_En s aV cV0.cls eP cP tP kP eI cI tI kI eC cC tC kC := ⟨Sta.start eV (Or.inr ⟨(hw11 hw), (hw17 hw)⟩), Exa.start eV u1, VV, EEP, EEI, EEC⟩
  have hCH : CHv s EL s.vm s.heap := CHv.start (own_EW hw) (fun p hp => hcalls.1 p hp) (hsets _ (List.mem_of_getElem? (i := 2) rfl)) (hw3 hw) (hw2 hw)
  obtain ⟨n, o, h1, h2, h3, _, L, rfl, ⟨rfl, N⟩, -, hq⟩ := rm_law l s _ hw tables_1 i0 i1 i2 i3 i4 i5 iG vF aV cV0.cls eP cP tP kP eI cI tI kI eC cC tC kC s.heap s.heap.size (Nat.le_refl _) (Old.start s) SG cG SF rF EN p e ha hc hk s m _ below hf ((Spec.applies_iff_loose hf).mp happ).1 ⟨rfl, State.Warmed39.refl s, rfl, hCH, all0⟩ trivial
  refine ⟨n, _, h1, h2, h3, hpost _ _ _ _ _ _ ⟨Cond.after_iff.mpr rfl, Cond.after_iff.mpr (eq_i res_at (Term.int_eval (1)) rfl), trivial⟩ ⟨hq.1, hq.2.1, hq.2.2.1, (hq.2.2.2.sift fun y hy => Or.inr (N y hy)).mono (by decide) (by decide)⟩⟩
theorem main_1_1 : Claimed_1_1 := comes_1 fun _ _ _ _ _ _ h hF => ⟨h.1, hF⟩
theorem main_1_2 : Claimed_1_2 := comes_1 fun _ _ _ _ _ _ h hF => ⟨h.2.1, hF⟩
end Jvm.Pilot.@@N@@
namespace Jvm.Pilot.@@N@@
open Jvm Jvm.ClassFile Sem Op Lib Jvm.Free Jvm.Stand Jvm.Pilot.@@N@@.Jvm.D
/-! MADE BY PROGRAM (witnessworld.py) out of the Statement's table words and the real class files: 23 classes; the members and pool entries that the words name. The judged class is class 1, her method 1. -/
namespace start1
open Jvm.ClassFile
def u (s : String) : CpInfo := .utf8 (stringToUtf16 s)
/-- a pool by its gaps: so many unusable entries, then the entry; so many at the end -/
def gap : Nat → List CpInfo → List CpInfo
  | 0, r => r
  | n + 1, r => .unusable :: gap n r
def poolList (es : List (Nat × CpInfo)) (last : Nat) : List CpInfo := es.foldr (fun e r => gap e.1 (e.2 :: r)) (gap last [])
def pool (es : List (Nat × CpInfo)) (last : Nat) : Array CpInfo := ⟨poolList es last⟩
def fileOf (pool : Array CpInfo) (this : Nat) (attrs : Array Attribute := #[]) (ms : Array MethodInfo := #[]) (fl : Nat := 33) (sup : Nat := 0) (ifs : Array Nat := #[]) (fds : Array FieldInfo := #[]) : ClassFile where
  minorVersion := 0
  majorVersion := 65
  constantPool := pool
  accessFlags := fl
  thisClass := this
  superClass := sup
  interfaces := ifs
  fields := fds
  methods := ms
  attributes := attrs
def plain (name : String) (sup : Option ClassId) : Class where
  name := name
  kind := .ordinary
  loader := none
  accessFlags := 33
  super := sup
  interfaces := #[]
  cf := none
  fields := #[]
  methods := #[]
  instanceTypes := #[]
  staticTypes := #[]
  resolved := #[]
  callSites := []
  init := .initialized
  statics := none
  mirror := none

def pool0 : Array CpInfo := pool [(5, u "<init>"), (0, u "()V"), (1, .class_ 10), (1, u "java/lang/Object"), (85, u "clone"), (0, u "()Ljava/lang/Object;")] 26

def k0c0 : Code := { maxStack := 0, maxLocals := 1, code := object_method_1_code, exceptionTable := #[], attributes := #[] }
def k0m0 : Method := { name := "<init>", desc := "()V", sig := { parameters := [], returnType := none }, accessFlags := 1, code := some k0c0 }
def k0m1 : Method := { name := "clone", desc := "()Ljava/lang/Object;", sig := { parameters := [], returnType := some (.object "java/lang/Object") }, accessFlags := 260, code := none }
/-- java/lang/Object -/
def k0 : Class := { plain "java/lang/Object" none with
  accessFlags := 33
  interfaces := #[]
  cf := some (fileOf pool0 8 #[] #[{ accessFlags := 1, nameIndex := 5, descriptorIndex := 6, attributes := #[] }, { accessFlags := 260, nameIndex := 96, descriptorIndex := 97, attributes := #[] }] 33 0 #[] #[])
  fields := #[]
  methods := #[k0m0, k0m1]
  instanceTypes := #[]
  staticTypes := #[]
  resolved := Array.replicate 124 none
  statics := none }

def pool1 : Array CpInfo := pool [(2, .class_ 4), (1, u "java/lang/Object"), (0, u "<init>"), (0, u "()V"), (0, .string 8), (0, u "Perturbation"), (0, .string 10), (0, u "Information"), (0, .string 12), (0, u "Commercial"), (0, .string 14), (0, u ""), (0, .methodref 16 17), (0, .class_ 18), (0, .nameAndType 19 20), (0, u "java/lang/String"), (0, u "length"), (0, u "()I"), (0, .methodref 22 23), (0, .class_ 24), (0, .nameAndType 25 26), (0, u "java/lang/Math"), (0, u "max"), (0, u "(II)I"), (0, .methodref 28 29), (0, .class_ 30), (0, .nameAndType 31 32), (0, u "com/example/sillon/sillon/siri/GeneralMessageChannelNamedPinLaw"), (0, u "at"), (0, u "(Ljava/lang/String;II)C"), (0, .integer 2147483647), (0, .methodref 16 35), (0, .nameAndType 5 36), (0, u "([C)V"), (0, .methodref 38 39), (0, .class_ 40), (0, .nameAndType 41 42), (0, u "com/example/sillon/sillon/siri/GeneralMessageChannel"), (0, u "named"), (0, u "(Ljava/lang/String;)Lcom/example/sillon/sillon/siri/GeneralMessageChannel;"), (0, .methodref 28 44), (0, .nameAndType 45 42), (0, u "ref"), (0, .methodref 16 47), (0, .nameAndType 48 49), (0, u "charAt"), (0, u "(I)C"), (0, .methodref 16 51), (0, .nameAndType 52 53), (0, u "equals"), (0, u "(Ljava/lang/Object;)Z"), (0, .fieldref 38 55), (0, .nameAndType 56 57), (0, u "PERTURBATION"), (0, u "Lcom/example/sillon/sillon/siri/GeneralMessageChannel;"), (0, .fieldref 38 59), (0, .nameAndType 60 57), (0, u "INFORMATION"), (0, .fieldref 38 62), (0, .nameAndType 63 57), (0, u "COMMERCIAL"), (2, u "law"), (0, u "(IIIIII)Z")] 5

def k1m0 : Method := { name := "<init>", desc := "()V", sig := { parameters := [], returnType := none }, accessFlags := 1, code := none }
def k1c1 : Code := { maxStack := 5, maxLocals := 13, code := code, exceptionTable := #[], attributes := #[] }
def k1m1 : Method := { name := "law", desc := "(IIIIII)Z", sig := { parameters := [.int, .int, .int, .int, .int, .int], returnType := some .boolean }, accessFlags := 9, code := some k1c1 }
def k1c2 : Code := { maxStack := 2, maxLocals := 3, code := method_3_code, exceptionTable := #[], attributes := #[] }
def k1m2 : Method := { name := "at", desc := "(Ljava/lang/String;II)C", sig := { parameters := [(.object "java/lang/String"), .int, .int], returnType := some .char }, accessFlags := 10, code := some k1c2 }
def k1c3 : Code := { maxStack := 2, maxLocals := 1, code := method_4_code, exceptionTable := #[], attributes := #[] }
def k1m3 : Method := { name := "ref", desc := "(Ljava/lang/String;)Lcom/example/sillon/sillon/siri/GeneralMessageChannel;", sig := { parameters := [(.object "java/lang/String")], returnType := some (.object "com/example/sillon/sillon/siri/GeneralMessageChannel") }, accessFlags := 10, code := some k1c3 }
/-- com/example/sillon/sillon/siri/GeneralMessageChannelNamedPinLaw -/
def k1 : Class := { plain "com/example/sillon/sillon/siri/GeneralMessageChannelNamedPinLaw" (some 0) with
  accessFlags := 49
  interfaces := #[]
  cf := some (fileOf pool1 28 #[] #[{ accessFlags := 1, nameIndex := 5, descriptorIndex := 6, attributes := #[] }, { accessFlags := 9, nameIndex := 66, descriptorIndex := 67, attributes := #[] }, { accessFlags := 10, nameIndex := 31, descriptorIndex := 32, attributes := #[] }, { accessFlags := 10, nameIndex := 45, descriptorIndex := 42, attributes := #[] }] 49 2 #[] #[])
  fields := #[]
  methods := #[k1m0, k1m1, k1m2, k1m3]
  instanceTypes := #[]
  staticTypes := #[]
  resolved := Array.replicate 73 none
  statics := none }

def pool2 : Array CpInfo := pool [(1, .class_ 2), (0, u "java/io/Serializable"), (0, .class_ 4), (0, u "java/lang/Object")] 2

/-- java/io/Serializable -/
def k2 : Class := { plain "java/io/Serializable" (some 0) with
  accessFlags := 1537
  interfaces := #[]
  cf := some (fileOf pool2 1 #[] #[] 1537 3 #[] #[])
  fields := #[]
  methods := #[]
  instanceTypes := #[]
  staticTypes := #[]
  resolved := Array.replicate 7 none
  statics := none }

def pool3 : Array CpInfo := pool [(1, .class_ 2), (0, u "java/lang/Comparable"), (0, .class_ 4), (0, u "java/lang/Object")] 7

/-- java/lang/Comparable -/
def k3 : Class := { plain "java/lang/Comparable" (some 0) with
  accessFlags := 1537
  interfaces := #[]
  cf := some (fileOf pool3 1 #[] #[] 1537 3 #[] #[])
  fields := #[]
  methods := #[]
  instanceTypes := #[]
  staticTypes := #[]
  resolved := Array.replicate 12 none
  statics := none }

def pool4 : Array CpInfo := pool [(2, .class_ 4), (1, u "java/lang/CharSequence"), (42, .class_ 48), (0, u "java/lang/CharSequence$1CodePointIterator"), (10, .class_ 60), (0, u "java/lang/CharSequence$1CharIterator"), (5, .class_ 67), (0, u "java/lang/Object")] 63

/-- java/lang/CharSequence -/
def k4 : Class := { plain "java/lang/CharSequence" (some 0) with
  accessFlags := 1537
  interfaces := #[]
  cf := some (fileOf pool4 2 #[.nestMembers #[47, 59]] #[] 1537 66 #[] #[])
  fields := #[]
  methods := #[]
  instanceTypes := #[]
  staticTypes := #[]
  resolved := Array.replicate 131 none
  statics := none }

def pool5 : Array CpInfo := pool [(1, .class_ 2), (0, u "java/lang/constant/Constable"), (0, .class_ 4), (0, u "java/lang/Object")] 6

/-- java/lang/constant/Constable -/
def k5 : Class := { plain "java/lang/constant/Constable" (some 0) with
  accessFlags := 1537
  interfaces := #[]
  cf := some (fileOf pool5 1 #[] #[] 1537 3 #[] #[])
  fields := #[]
  methods := #[]
  instanceTypes := #[]
  staticTypes := #[]
  resolved := Array.replicate 11 none
  statics := none }

def pool6 : Array CpInfo := pool [(1, .class_ 2), (0, u "java/lang/constant/ConstantDesc"), (0, .class_ 4), (0, u "java/lang/Object")] 32

/-- java/lang/constant/ConstantDesc -/
def k6 : Class := { plain "java/lang/constant/ConstantDesc" (some 0) with
  accessFlags := 1537
  interfaces := #[]
  cf := some (fileOf pool6 1 #[] #[] 1537 3 #[] #[])
  fields := #[]
  methods := #[]
  instanceTypes := #[]
  staticTypes := #[]
  resolved := Array.replicate 37 none
  statics := none }

def pool7 : Array CpInfo := pool [(1, .methodref 2 3), (0, .class_ 4), (0, .nameAndType 5 6), (0, u "java/lang/Object"), (0, u "<init>"), (0, u "()V"), (0, .string 8), (0, u ""), (0, .fieldref 10 11), (0, .class_ 12), (0, .nameAndType 13 14), (0, u "java/lang/String"), (0, u "value"), (0, u "[B"), (0, .fieldref 10 16), (0, .nameAndType 17 18), (0, u "coder"), (0, u "B"), (2, u "hash"), (0, u "I"), (2, u "hashIsZero"), (0, u "Z"), (0, .methodref 10 28), (0, .nameAndType 5 29), (0, u "([CIILjava/lang/Void;)V"), (8, .fieldref 10 39), (0, .nameAndType 40 26), (0, u "COMPACT_STRINGS"), (1, .class_ 44), (1, u "java/lang/StringUTF16"), (0, u "compress"), (1, .methodref 42 48), (0, .nameAndType 49 50), (0, u "coderFromArrayLen"), (0, u "([BI)B"), (56, .class_ 109), (1, u "java/lang/StringLatin1"), (32, u "()Z"), (34, .methodref 42 178), (0, .nameAndType 45 179), (0, u "([CII)[B"), (154, u "()I"), (0, .methodref 10 336), (0, .nameAndType 17 337), (0, u "()B"), (25, u "([BI)C"), (27, u "(II)V"), (35, u "(I)C"), (64, .methodref 10 493), (0, .nameAndType 494 142), (0, u "isLatin1"), (0, .methodref 107 496), (0, .nameAndType 497 363), (0, u "charAt"), (3, u "checkIndex"), (5, u "length"), (33, .methodref 107 542), (0, .nameAndType 543 544), (0, u "equals"), (0, u "([B[B)Z"), (28, u "(Ljava/lang/Object;)Z"), (1, .class_ 576), (0, u "java/lang/CharSequence"), (22, u "CASE_INSENSITIVE_ORDER"), (0, u "Ljava/util/Comparator;"), (409, u "([C)V"), (42, .fieldref 1054 1055), (0, .class_ 1056), (0, .nameAndType 1057 1058), (0, u "jdk/internal/util/Preconditions"), (0, u "SIOOBE_FORMATTER"), (0, u "Ljava/util/function/BiFunction;"), (0, .methodref 1054 1060), (0, .nameAndType 501 1061), (0, u "(IILjava/util/function/BiFunction;)I"), (39, u "serialPersistentFields"), (0, u "[Ljava/io/ObjectStreamField;"), (0, .class_ 1104), (0, u "java/lang/String$CaseInsensitiveComparator"), (1, .class_ 1107), (0, u "java/io/Serializable"), (0, .class_ 1109), (0, u "java/lang/Comparable"), (0, .class_ 1111), (0, u "java/lang/constant/Constable"), (0, .class_ 1113), (0, u "java/lang/constant/ConstantDesc"), (2, u "serialVersionUID"), (0, u "J"), (3, u "REPL"), (0, u "C"), (2, u "LATIN1"), (1, u "UTF16")] 323

def k7m0 : Method := { name := "<init>", desc := "()V", sig := { parameters := [], returnType := none }, accessFlags := 1, code := none }
def k7c1 : Code := { maxStack := 5, maxLocals := 2, code := jdk_42_method_3_code, exceptionTable := #[], attributes := #[] }
def k7m1 : Method := { name := "<init>", desc := "([C)V", sig := { parameters := [(.array .char)], returnType := none }, accessFlags := 1, code := some k7c1 }
def k7c2 : Code := { maxStack := 2, maxLocals := 1, code := jdk_42_method_54_code, exceptionTable := #[], attributes := #[] }
def k7m2 : Method := { name := "length", desc := "()I", sig := { parameters := [], returnType := some .int }, accessFlags := 1, code := some k7c2 }
def k7c3 : Code := { maxStack := 2, maxLocals := 2, code := jdk_42_method_56_code, exceptionTable := #[], attributes := #[] }
def k7m3 : Method := { name := "charAt", desc := "(I)C", sig := { parameters := [.int], returnType := some .char }, accessFlags := 1, code := some k7c3 }
def k7c4 : Code := { maxStack := 2, maxLocals := 3, code := jdk_42_method_66_code, exceptionTable := #[], attributes := #[] }
def k7m4 : Method := { name := "equals", desc := "(Ljava/lang/Object;)Z", sig := { parameters := [(.object "java/lang/Object")], returnType := some .boolean }, accessFlags := 1, code := some k7c4 }
def k7c5 : Code := { maxStack := 4, maxLocals := 6, code := jdk_42_method_149_code, exceptionTable := #[], attributes := #[] }
def k7m5 : Method := { name := "<init>", desc := "([CIILjava/lang/Void;)V", sig := { parameters := [(.array .char), .int, .int, (.object "java/lang/Void")], returnType := none }, accessFlags := 2, code := some k7c5 }
def k7c6 : Code := { maxStack := 1, maxLocals := 1, code := jdk_42_method_152_code, exceptionTable := #[], attributes := #[] }
def k7m6 : Method := { name := "coder", desc := "()B", sig := { parameters := [], returnType := some .byte }, accessFlags := 0, code := some k7c6 }
def k7c7 : Code := { maxStack := 1, maxLocals := 1, code := jdk_42_method_154_code, exceptionTable := #[], attributes := #[] }
def k7m7 : Method := { name := "isLatin1", desc := "()Z", sig := { parameters := [], returnType := some .boolean }, accessFlags := 0, code := some k7c7 }
def k7c8 : Code := { maxStack := 3, maxLocals := 2, code := jdk_42_method_155_code, exceptionTable := #[], attributes := #[] }
def k7m8 : Method := { name := "checkIndex", desc := "(II)V", sig := { parameters := [.int, .int], returnType := none }, accessFlags := 8, code := some k7c8 }
/-- java/lang/String -/
def k7 : Class := { plain "java/lang/String" (some 0) with
  accessFlags := 49
  interfaces := #[2, 3, 4, 5, 6]
  cf := some (fileOf pool7 10 #[.nestMembers #[1103]] #[{ accessFlags := 1, nameIndex := 5, descriptorIndex := 6, attributes := #[] }, { accessFlags := 1, nameIndex := 5, descriptorIndex := 1010, attributes := #[] }, { accessFlags := 1, nameIndex := 507, descriptorIndex := 334, attributes := #[] }, { accessFlags := 1, nameIndex := 497, descriptorIndex := 427, attributes := #[] }, { accessFlags := 1, nameIndex := 543, descriptorIndex := 573, attributes := #[] }, { accessFlags := 2, nameIndex := 5, descriptorIndex := 29, attributes := #[] }, { accessFlags := 0, nameIndex := 17, descriptorIndex := 337, attributes := #[] }, { accessFlags := 0, nameIndex := 494, descriptorIndex := 142, attributes := #[] }, { accessFlags := 8, nameIndex := 501, descriptorIndex := 391, attributes := #[] }] 49 2 #[1106, 1108, 575, 1110, 1112] #[{ accessFlags := 18, nameIndex := 13, descriptorIndex := 14, attributes := #[] }, { accessFlags := 18, nameIndex := 17, descriptorIndex := 18, attributes := #[] }, { accessFlags := 2, nameIndex := 21, descriptorIndex := 22, attributes := #[] }, { accessFlags := 2, nameIndex := 25, descriptorIndex := 26, attributes := #[] }, { accessFlags := 26, nameIndex := 1116, descriptorIndex := 1117, attributes := #[] }, { accessFlags := 24, nameIndex := 40, descriptorIndex := 26, attributes := #[] }, { accessFlags := 26, nameIndex := 1101, descriptorIndex := 1102, attributes := #[] }, { accessFlags := 26, nameIndex := 1121, descriptorIndex := 1122, attributes := #[] }, { accessFlags := 25, nameIndex := 599, descriptorIndex := 600, attributes := #[] }, { accessFlags := 24, nameIndex := 1125, descriptorIndex := 18, attributes := #[] }, { accessFlags := 24, nameIndex := 1127, descriptorIndex := 18, attributes := #[] }])
  fields := #[{ name := "value", type := (.array .byte), accessFlags := 18, slot := 0, constantValue := 0 }, { name := "coder", type := .byte, accessFlags := 18, slot := 1, constantValue := 0 }, { name := "hash", type := .int, accessFlags := 2, slot := 2, constantValue := 0 }, { name := "hashIsZero", type := .boolean, accessFlags := 2, slot := 3, constantValue := 0 }, { name := "serialVersionUID", type := .long, accessFlags := 26, slot := 0, constantValue := 0 }, { name := "COMPACT_STRINGS", type := .boolean, accessFlags := 24, slot := 1, constantValue := 0 }, { name := "serialPersistentFields", type := (.array (.object "java/io/ObjectStreamField")), accessFlags := 26, slot := 2, constantValue := 0 }, { name := "REPL", type := .char, accessFlags := 26, slot := 3, constantValue := 0 }, { name := "CASE_INSENSITIVE_ORDER", type := (.object "java/util/Comparator"), accessFlags := 25, slot := 4, constantValue := 0 }, { name := "LATIN1", type := .byte, accessFlags := 24, slot := 5, constantValue := 0 }, { name := "UTF16", type := .byte, accessFlags := 24, slot := 6, constantValue := 0 }]
  methods := #[k7m0, k7m1, k7m2, k7m3, k7m4, k7m5, k7m6, k7m7, k7m8]
  instanceTypes := #[(.array .byte), .byte, .int, .boolean]
  staticTypes := #[.long, .boolean, (.array (.object "java/io/ObjectStreamField")), .char, (.object "java/util/Comparator"), .byte, .byte]
  resolved := Array.replicate 1451 none
  statics := some 0 }

def pool8 : Array CpInfo := pool [(2, .class_ 4), (1, u "java/lang/Enum"), (0, u "name"), (0, u "Ljava/lang/String;"), (2, u "ordinal"), (0, u "I"), (1, .class_ 14), (1, u "java/lang/Object"), (4, u "hash"), (86, .class_ 108), (1, u "java/lang/Enum$EnumDesc"), (2, .class_ 112), (0, u "java/lang/constant/Constable"), (0, .class_ 114), (0, u "java/lang/Comparable"), (0, .class_ 116), (0, u "java/io/Serializable")] 87

/-- java/lang/Enum -/
def k8 : Class := { plain "java/lang/Enum" (some 0) with
  accessFlags := 1057
  interfaces := #[5, 3, 2]
  cf := some (fileOf pool8 2 #[.nestMembers #[106]] #[] 1057 12 #[111, 113, 115] #[{ accessFlags := 18, nameIndex := 5, descriptorIndex := 6, attributes := #[] }, { accessFlags := 18, nameIndex := 9, descriptorIndex := 10, attributes := #[] }, { accessFlags := 2, nameIndex := 19, descriptorIndex := 10, attributes := #[] }])
  fields := #[{ name := "name", type := (.object "java/lang/String"), accessFlags := 18, slot := 0, constantValue := 0 }, { name := "ordinal", type := .int, accessFlags := 18, slot := 1, constantValue := 0 }, { name := "hash", type := .int, accessFlags := 2, slot := 2, constantValue := 0 }]
  methods := #[]
  instanceTypes := #[(.object "java/lang/String"), .int, .int]
  staticTypes := #[]
  resolved := Array.replicate 204 none
  statics := none }

def pool9 : Array CpInfo := pool [(1, .class_ 2), (0, u "com/example/sillon/sillon/siri/GeneralMessageChannel"), (2, u "PERTURBATION"), (0, u "Lcom/example/sillon/sillon/siri/GeneralMessageChannel;"), (2, u "INFORMATION"), (2, u "COMMERCIAL"), (0, .fieldref 1 14), (0, .nameAndType 15 16), (0, u "$VALUES"), (0, u "[Lcom/example/sillon/sillon/siri/GeneralMessageChannel;"), (0, .methodref 18 19), (0, .class_ 16), (0, .nameAndType 20 21), (0, u "clone"), (0, u "()Ljava/lang/Object;"), (1, .class_ 25), (1, u "java/lang/Enum"), (6, .fieldref 1 33), (0, .nameAndType 34 35), (0, u "code"), (0, u "Ljava/lang/String;"), (2, u "frenchName"), (0, .methodref 1 40), (0, .nameAndType 41 42), (0, u "values"), (0, u "()[Lcom/example/sillon/sillon/siri/GeneralMessageChannel;"), (0, .methodref 44 45), (0, .class_ 46), (0, .nameAndType 47 48), (0, u "java/lang/String"), (0, u "equals"), (0, u "(Ljava/lang/Object;)Z"), (33, u "(Ljava/lang/String;)Lcom/example/sillon/sillon/siri/GeneralMessageChannel;"), (3, u "named")] 9

def k9c0 : Code := { maxStack := 1, maxLocals := 0, code := prog_18_method_1_code, exceptionTable := #[], attributes := #[] }
def k9m0 : Method := { name := "values", desc := "()[Lcom/example/sillon/sillon/siri/GeneralMessageChannel;", sig := { parameters := [], returnType := some (.array (.object "com/example/sillon/sillon/siri/GeneralMessageChannel")) }, accessFlags := 9, code := some k9c0 }
def k9c1 : Code := { maxStack := 2, maxLocals := 5, code := prog_18_method_4_code, exceptionTable := #[], attributes := #[] }
def k9m1 : Method := { name := "named", desc := "(Ljava/lang/String;)Lcom/example/sillon/sillon/siri/GeneralMessageChannel;", sig := { parameters := [(.object "java/lang/String")], returnType := some (.object "com/example/sillon/sillon/siri/GeneralMessageChannel") }, accessFlags := 9, code := some k9c1 }
/-- com/example/sillon/sillon/siri/GeneralMessageChannel -/
def k9 : Class := { plain "com/example/sillon/sillon/siri/GeneralMessageChannel" (some 8) with
  accessFlags := 16433
  interfaces := #[]
  cf := some (fileOf pool9 1 #[] #[{ accessFlags := 9, nameIndex := 41, descriptorIndex := 42, attributes := #[] }, { accessFlags := 9, nameIndex := 86, descriptorIndex := 82, attributes := #[] }] 16433 23 #[] #[{ accessFlags := 16409, nameIndex := 5, descriptorIndex := 6, attributes := #[] }, { accessFlags := 16409, nameIndex := 9, descriptorIndex := 6, attributes := #[] }, { accessFlags := 16409, nameIndex := 12, descriptorIndex := 6, attributes := #[] }, { accessFlags := 18, nameIndex := 34, descriptorIndex := 35, attributes := #[] }, { accessFlags := 18, nameIndex := 38, descriptorIndex := 35, attributes := #[] }, { accessFlags := 4122, nameIndex := 15, descriptorIndex := 16, attributes := #[] }])
  fields := #[{ name := "PERTURBATION", type := (.object "com/example/sillon/sillon/siri/GeneralMessageChannel"), accessFlags := 16409, slot := 0, constantValue := 0 }, { name := "INFORMATION", type := (.object "com/example/sillon/sillon/siri/GeneralMessageChannel"), accessFlags := 16409, slot := 1, constantValue := 0 }, { name := "COMMERCIAL", type := (.object "com/example/sillon/sillon/siri/GeneralMessageChannel"), accessFlags := 16409, slot := 2, constantValue := 0 }, { name := "code", type := (.object "java/lang/String"), accessFlags := 18, slot := 3, constantValue := 0 }, { name := "frenchName", type := (.object "java/lang/String"), accessFlags := 18, slot := 4, constantValue := 0 }, { name := "$VALUES", type := (.array (.object "com/example/sillon/sillon/siri/GeneralMessageChannel")), accessFlags := 4122, slot := 3, constantValue := 0 }]
  methods := #[k9m0, k9m1]
  instanceTypes := #[(.object "java/lang/String"), .int, .int, (.object "java/lang/String"), (.object "java/lang/String")]
  staticTypes := #[(.object "com/example/sillon/sillon/siri/GeneralMessageChannel"), (.object "com/example/sillon/sillon/siri/GeneralMessageChannel"), (.object "com/example/sillon/sillon/siri/GeneralMessageChannel"), (.array (.object "com/example/sillon/sillon/siri/GeneralMessageChannel"))]
  resolved := Array.replicate 96 none
  statics := some 1 }

def pool10 : Array CpInfo := pool [(1, .class_ 2), (0, u "java/lang/Cloneable"), (0, .class_ 4), (0, u "java/lang/Object")] 2

/-- java/lang/Cloneable -/
def k10 : Class := { plain "java/lang/Cloneable" (some 0) with
  accessFlags := 1537
  interfaces := #[]
  cf := some (fileOf pool10 1 #[] #[] 1537 3 #[] #[])
  fields := #[]
  methods := #[]
  instanceTypes := #[]
  staticTypes := #[]
  resolved := Array.replicate 7 none
  statics := none }

def pool11 : Array CpInfo := pool [(1, .class_ 2), (0, u "java/lang/String"), (1, .class_ 6), (1, u "java/lang/Object"), (0, u "<init>"), (0, u "()V"), (0, .methodref 1 10), (0, .nameAndType 11 12), (0, u "checkIndex"), (0, u "(II)V"), (1, .class_ 16), (1, u "java/lang/StringLatin1"), (36, u "([BI)C"), (67, u "$assertionsDisabled"), (0, u "Z"), (98, .class_ 223), (1, u "java/lang/StringLatin1$LinesSpliterator"), (28, u "charAt"), (28, u "equals"), (0, u "([B[B)Z"), (107, .class_ 391), (0, u "java/lang/StringLatin1$CharsSpliterator")] 3

def k11m0 : Method := { name := "<init>", desc := "()V", sig := { parameters := [], returnType := none }, accessFlags := 0, code := none }
def k11c1 : Code := { maxStack := 2, maxLocals := 2, code := jdk_43_method_2_code, exceptionTable := #[], attributes := #[] }
def k11m1 : Method := { name := "charAt", desc := "([BI)C", sig := { parameters := [(.array .byte), .int], returnType := some .char }, accessFlags := 9, code := some k11c1 }
def k11c2 : Code := { maxStack := 3, maxLocals := 3, code := jdk_43_method_13_code, exceptionTable := #[], attributes := #[] }
def k11m2 : Method := { name := "equals", desc := "([B[B)Z", sig := { parameters := [(.array .byte), (.array .byte)], returnType := some .boolean }, accessFlags := 9, code := some k11c2 }
/-- java/lang/StringLatin1 -/
def k11 : Class := { plain "java/lang/StringLatin1" (some 0) with
  accessFlags := 48
  interfaces := #[]
  cf := some (fileOf pool11 14 #[.nestMembers #[390, 221]] #[{ accessFlags := 0, nameIndex := 7, descriptorIndex := 8, attributes := #[] }, { accessFlags := 9, nameIndex := 252, descriptorIndex := 53, attributes := #[] }, { accessFlags := 9, nameIndex := 281, descriptorIndex := 282, attributes := #[] }] 48 4 #[] #[{ accessFlags := 4120, nameIndex := 121, descriptorIndex := 122, attributes := #[] }])
  fields := #[{ name := "$assertionsDisabled", type := .boolean, accessFlags := 4120, slot := 0, constantValue := 0 }]
  methods := #[k11m0, k11m1, k11m2]
  instanceTypes := #[]
  staticTypes := #[.boolean]
  resolved := Array.replicate 395 none
  statics := none }

def pool12 : Array CpInfo := pool [(2, .class_ 4), (1, u "java/lang/Object"), (0, u "<init>"), (0, u "()V"), (17, .class_ 26), (1, u "jdk/internal/util/Preconditions"), (6, u "checkIndex"), (21, .class_ 56), (0, u "jdk/internal/util/Preconditions$4"), (57, .class_ 115), (0, u "jdk/internal/util/Preconditions$1"), (7, u "SIOOBE_FORMATTER"), (0, u "Ljava/util/function/BiFunction;"), (0, .class_ 126), (0, u "jdk/internal/util/Preconditions$2"), (3, u "AIOOBE_FORMATTER"), (0, .class_ 132), (0, u "jdk/internal/util/Preconditions$3"), (3, u "IOOBE_FORMATTER"), (41, u "(IILjava/util/function/BiFunction;)I")] 15

def k12m0 : Method := { name := "<init>", desc := "()V", sig := { parameters := [], returnType := none }, accessFlags := 1, code := none }
def k12c1 : Code := { maxStack := 3, maxLocals := 3, code := jdk_41_method_11_code, exceptionTable := #[], attributes := #[] }
def k12m1 : Method := { name := "checkIndex", desc := "(IILjava/util/function/BiFunction;)I", sig := { parameters := [.int, .int, (.object "java/util/function/BiFunction")], returnType := some .int }, accessFlags := 9, code := some k12c1 }
/-- jdk/internal/util/Preconditions -/
def k12 : Class := { plain "jdk/internal/util/Preconditions" (some 0) with
  accessFlags := 33
  interfaces := #[]
  cf := some (fileOf pool12 24 #[.nestMembers #[55, 131, 125, 114]] #[{ accessFlags := 1, nameIndex := 5, descriptorIndex := 6, attributes := #[] }, { accessFlags := 9, nameIndex := 33, descriptorIndex := 178, attributes := #[] }] 33 2 #[] #[{ accessFlags := 25, nameIndex := 123, descriptorIndex := 124, attributes := #[] }, { accessFlags := 25, nameIndex := 130, descriptorIndex := 124, attributes := #[] }, { accessFlags := 25, nameIndex := 136, descriptorIndex := 124, attributes := #[] }])
  fields := #[{ name := "SIOOBE_FORMATTER", type := (.object "java/util/function/BiFunction"), accessFlags := 25, slot := 0, constantValue := 0 }, { name := "AIOOBE_FORMATTER", type := (.object "java/util/function/BiFunction"), accessFlags := 25, slot := 1, constantValue := 0 }, { name := "IOOBE_FORMATTER", type := (.object "java/util/function/BiFunction"), accessFlags := 25, slot := 2, constantValue := 0 }]
  methods := #[k12m0, k12m1]
  instanceTypes := #[]
  staticTypes := #[(.object "java/util/function/BiFunction"), (.object "java/util/function/BiFunction"), (.object "java/util/function/BiFunction")]
  resolved := Array.replicate 194 none
  statics := some 2 }

def pool13 : Array CpInfo := pool [(6, .class_ 8), (1, u "java/lang/Object"), (0, u "<init>"), (0, u "()V"), (1, .class_ 14), (1, u "java/lang/StringUTF16"), (31, u "$assertionsDisabled"), (0, u "Z"), (13, u "HI_BYTE_SHIFT"), (0, u "I"), (2, u "LO_BYTE_SHIFT"), (49, .methodref 12 116), (0, .nameAndType 117 118), (0, u "compress"), (0, u "([CI[BII)I"), (3, u "([CII)[B"), (138, u "coderFromArrayLen"), (0, u "([BI)B"), (106, .class_ 371), (1, u "java/lang/StringUTF16$LinesSpliterator"), (58, u "MAX_LENGTH"), (196, .class_ 628), (0, u "java/lang/StringUTF16$CodePointsSpliterator"), (0, .class_ 630), (0, u "java/lang/StringUTF16$CharsSpliterator")] 4

def k13m0 : Method := { name := "<init>", desc := "()V", sig := { parameters := [], returnType := none }, accessFlags := 0, code := none }
def k13c1 : Code := { maxStack := 2, maxLocals := 2, code := jdk_52_method_15_code, exceptionTable := #[], attributes := #[] }
def k13m1 : Method := { name := "coderFromArrayLen", desc := "([BI)B", sig := { parameters := [(.array .byte), .int], returnType := some .byte }, accessFlags := 8, code := some k13c1 }
def k13c2 : Code := { maxStack := 5, maxLocals := 6, code := jdk_52_method_16_code, exceptionTable := #[], attributes := #[] }
def k13m2 : Method := { name := "compress", desc := "([CII)[B", sig := { parameters := [(.array .char), .int, .int], returnType := some (.array .byte) }, accessFlags := 9, code := some k13c2 }
def k13c3 : Code := { maxStack := 3, maxLocals := 7, code := jdk_52_method_21_code, exceptionTable := #[], attributes := #[] }
def k13m3 : Method := { name := "compress", desc := "([CI[BII)I", sig := { parameters := [(.array .char), .int, (.array .byte), .int, .int], returnType := some .int }, accessFlags := 9, code := some k13c3 }
/-- java/lang/StringUTF16 -/
def k13 : Class := { plain "java/lang/StringUTF16" (some 0) with
  accessFlags := 48
  interfaces := #[]
  cf := some (fileOf pool13 12 #[.nestMembers #[627, 629, 369]] #[{ accessFlags := 0, nameIndex := 9, descriptorIndex := 10, attributes := #[] }, { accessFlags := 8, nameIndex := 261, descriptorIndex := 262, attributes := #[] }, { accessFlags := 9, nameIndex := 117, descriptorIndex := 122, attributes := #[] }, { accessFlags := 9, nameIndex := 117, descriptorIndex := 118, attributes := #[] }] 48 6 #[] #[{ accessFlags := 26, nameIndex := 61, descriptorIndex := 62, attributes := #[] }, { accessFlags := 26, nameIndex := 65, descriptorIndex := 62, attributes := #[] }, { accessFlags := 24, nameIndex := 430, descriptorIndex := 62, attributes := #[] }, { accessFlags := 4120, nameIndex := 46, descriptorIndex := 47, attributes := #[] }])
  fields := #[{ name := "HI_BYTE_SHIFT", type := .int, accessFlags := 26, slot := 0, constantValue := 0 }, { name := "LO_BYTE_SHIFT", type := .int, accessFlags := 26, slot := 1, constantValue := 0 }, { name := "MAX_LENGTH", type := .int, accessFlags := 24, slot := 2, constantValue := 0 }, { name := "$assertionsDisabled", type := .boolean, accessFlags := 4120, slot := 3, constantValue := 0 }]
  methods := #[k13m0, k13m1, k13m2, k13m3]
  instanceTypes := #[]
  staticTypes := #[.int, .int, .int, .boolean]
  resolved := Array.replicate 635 none
  statics := none }

def pool14 : Array CpInfo := pool [(1, .class_ 2), (0, u "java/lang/Math"), (1, .class_ 6), (1, u "java/lang/Object"), (0, u "<init>"), (0, u "()V"), (89, .class_ 100), (1, u "java/lang/Math$RandomNumberGeneratorHolder"), (71, u "negativeZeroFloatBits"), (0, u "J"), (2, u "negativeZeroDoubleBits"), (21, u "max"), (46, u "$assertionsDisabled"), (0, u "Z"), (88, u "(II)I"), (2, u "twoToTheDoubleScaleDown"), (0, u "D"), (4, u "twoToTheDoubleScaleUp"), (9, u "E"), (3, u "PI"), (2, u "TAU"), (2, u "DEGREES_TO_RADIANS"), (0, u "RADIANS_TO_DEGREES")] 94

def k14m0 : Method := { name := "<init>", desc := "()V", sig := { parameters := [], returnType := none }, accessFlags := 2, code := none }
def k14c1 : Code := { maxStack := 2, maxLocals := 2, code := jdk_29_method_65_code, exceptionTable := #[], attributes := #[] }
def k14m1 : Method := { name := "max", desc := "(II)I", sig := { parameters := [.int, .int], returnType := some .int }, accessFlags := 9, code := some k14c1 }
/-- java/lang/Math -/
def k14 : Class := { plain "java/lang/Math" (some 0) with
  accessFlags := 49
  interfaces := #[]
  cf := some (fileOf pool14 1 #[.nestMembers #[98]] #[{ accessFlags := 2, nameIndex := 7, descriptorIndex := 8, attributes := #[] }, { accessFlags := 9, nameIndex := 198, descriptorIndex := 335, attributes := #[] }] 49 4 #[] #[{ accessFlags := 25, nameIndex := 354, descriptorIndex := 339, attributes := #[] }, { accessFlags := 25, nameIndex := 358, descriptorIndex := 339, attributes := #[] }, { accessFlags := 25, nameIndex := 361, descriptorIndex := 339, attributes := #[] }, { accessFlags := 26, nameIndex := 364, descriptorIndex := 339, attributes := #[] }, { accessFlags := 26, nameIndex := 365, descriptorIndex := 339, attributes := #[] }, { accessFlags := 26, nameIndex := 172, descriptorIndex := 173, attributes := #[] }, { accessFlags := 26, nameIndex := 176, descriptorIndex := 173, attributes := #[] }, { accessFlags := 8, nameIndex := 344, descriptorIndex := 339, attributes := #[] }, { accessFlags := 8, nameIndex := 338, descriptorIndex := 339, attributes := #[] }, { accessFlags := 4120, nameIndex := 245, descriptorIndex := 246, attributes := #[] }])
  fields := #[{ name := "E", type := .double, accessFlags := 25, slot := 0, constantValue := 0 }, { name := "PI", type := .double, accessFlags := 25, slot := 1, constantValue := 0 }, { name := "TAU", type := .double, accessFlags := 25, slot := 2, constantValue := 0 }, { name := "DEGREES_TO_RADIANS", type := .double, accessFlags := 26, slot := 3, constantValue := 0 }, { name := "RADIANS_TO_DEGREES", type := .double, accessFlags := 26, slot := 4, constantValue := 0 }, { name := "negativeZeroFloatBits", type := .long, accessFlags := 26, slot := 5, constantValue := 0 }, { name := "negativeZeroDoubleBits", type := .long, accessFlags := 26, slot := 6, constantValue := 0 }, { name := "twoToTheDoubleScaleUp", type := .double, accessFlags := 8, slot := 7, constantValue := 0 }, { name := "twoToTheDoubleScaleDown", type := .double, accessFlags := 8, slot := 8, constantValue := 0 }, { name := "$assertionsDisabled", type := .boolean, accessFlags := 4120, slot := 9, constantValue := 0 }]
  methods := #[k14m0, k14m1]
  instanceTypes := #[]
  staticTypes := #[.double, .double, .double, .double, .double, .long, .long, .double, .double, .boolean]
  resolved := Array.replicate 460 none
  statics := none }

def pool15 : Array CpInfo := pool [(9, u "<init>"), (6, .class_ 18), (1, u "java/lang/Object"), (0, u "()V"), (1, .class_ 23), (1, u "jdk/internal/util/ArraysSupport"), (0, u "LOG2_ARRAY_LONG_INDEX_SCALE"), (0, u "I"), (2, u "U"), (0, u "Ljdk/internal/misc/Unsafe;"), (8, u "BIG_ENDIAN"), (0, u "Z"), (8, u "LOG2_BYTE_BIT_SIZE"), (4, u "LOG2_ARRAY_INT_INDEX_SCALE"), (54, u "JLA"), (0, u "Ljdk/internal/access/JavaLangAccess;"), (11, u "LOG2_ARRAY_BOOLEAN_INDEX_SCALE"), (9, u "LOG2_ARRAY_BYTE_INDEX_SCALE"), (5, u "LOG2_ARRAY_CHAR_INDEX_SCALE"), (5, u "LOG2_ARRAY_SHORT_INDEX_SCALE"), (18, u "LOG2_ARRAY_FLOAT_INDEX_SCALE"), (24, u "LOG2_ARRAY_DOUBLE_INDEX_SCALE"), (89, u "T_BOOLEAN"), (2, u "T_CHAR"), (1, u "T_FLOAT"), (1, u "T_DOUBLE"), (1, u "T_BYTE"), (1, u "T_SHORT"), (1, u "T_INT"), (1, u "T_LONG"), (1, u "SOFT_MAX_ARRAY_LENGTH")] 83

def k15m0 : Method := { name := "<init>", desc := "()V", sig := { parameters := [], returnType := none }, accessFlags := 2, code := none }
/-- jdk/internal/util/ArraysSupport -/
def k15 : Class := { plain "jdk/internal/util/ArraysSupport" (some 0) with
  accessFlags := 33
  interfaces := #[]
  cf := some (fileOf pool15 21 #[] #[{ accessFlags := 2, nameIndex := 9, descriptorIndex := 19, attributes := #[] }] 33 16 #[] #[{ accessFlags := 24, nameIndex := 28, descriptorIndex := 29, attributes := #[] }, { accessFlags := 26, nameIndex := 38, descriptorIndex := 39, attributes := #[] }, { accessFlags := 25, nameIndex := 121, descriptorIndex := 25, attributes := #[] }, { accessFlags := 25, nameIndex := 131, descriptorIndex := 25, attributes := #[] }, { accessFlags := 25, nameIndex := 137, descriptorIndex := 25, attributes := #[] }, { accessFlags := 25, nameIndex := 143, descriptorIndex := 25, attributes := #[] }, { accessFlags := 25, nameIndex := 53, descriptorIndex := 25, attributes := #[] }, { accessFlags := 25, nameIndex := 24, descriptorIndex := 25, attributes := #[] }, { accessFlags := 25, nameIndex := 162, descriptorIndex := 25, attributes := #[] }, { accessFlags := 25, nameIndex := 187, descriptorIndex := 25, attributes := #[] }, { accessFlags := 26, nameIndex := 48, descriptorIndex := 25, attributes := #[] }, { accessFlags := 25, nameIndex := 277, descriptorIndex := 25, attributes := #[] }, { accessFlags := 25, nameIndex := 280, descriptorIndex := 25, attributes := #[] }, { accessFlags := 25, nameIndex := 282, descriptorIndex := 25, attributes := #[] }, { accessFlags := 25, nameIndex := 284, descriptorIndex := 25, attributes := #[] }, { accessFlags := 25, nameIndex := 286, descriptorIndex := 25, attributes := #[] }, { accessFlags := 25, nameIndex := 288, descriptorIndex := 25, attributes := #[] }, { accessFlags := 25, nameIndex := 290, descriptorIndex := 25, attributes := #[] }, { accessFlags := 25, nameIndex := 292, descriptorIndex := 25, attributes := #[] }, { accessFlags := 26, nameIndex := 108, descriptorIndex := 109, attributes := #[] }, { accessFlags := 25, nameIndex := 294, descriptorIndex := 25, attributes := #[] }])
  fields := #[{ name := "U", type := (.object "jdk/internal/misc/Unsafe"), accessFlags := 24, slot := 0, constantValue := 0 }, { name := "BIG_ENDIAN", type := .boolean, accessFlags := 26, slot := 1, constantValue := 0 }, { name := "LOG2_ARRAY_BOOLEAN_INDEX_SCALE", type := .int, accessFlags := 25, slot := 2, constantValue := 0 }, { name := "LOG2_ARRAY_BYTE_INDEX_SCALE", type := .int, accessFlags := 25, slot := 3, constantValue := 0 }, { name := "LOG2_ARRAY_CHAR_INDEX_SCALE", type := .int, accessFlags := 25, slot := 4, constantValue := 0 }, { name := "LOG2_ARRAY_SHORT_INDEX_SCALE", type := .int, accessFlags := 25, slot := 5, constantValue := 0 }, { name := "LOG2_ARRAY_INT_INDEX_SCALE", type := .int, accessFlags := 25, slot := 6, constantValue := 0 }, { name := "LOG2_ARRAY_LONG_INDEX_SCALE", type := .int, accessFlags := 25, slot := 7, constantValue := 0 }, { name := "LOG2_ARRAY_FLOAT_INDEX_SCALE", type := .int, accessFlags := 25, slot := 8, constantValue := 0 }, { name := "LOG2_ARRAY_DOUBLE_INDEX_SCALE", type := .int, accessFlags := 25, slot := 9, constantValue := 0 }, { name := "LOG2_BYTE_BIT_SIZE", type := .int, accessFlags := 26, slot := 10, constantValue := 0 }, { name := "T_BOOLEAN", type := .int, accessFlags := 25, slot := 11, constantValue := 0 }, { name := "T_CHAR", type := .int, accessFlags := 25, slot := 12, constantValue := 0 }, { name := "T_FLOAT", type := .int, accessFlags := 25, slot := 13, constantValue := 0 }, { name := "T_DOUBLE", type := .int, accessFlags := 25, slot := 14, constantValue := 0 }, { name := "T_BYTE", type := .int, accessFlags := 25, slot := 15, constantValue := 0 }, { name := "T_SHORT", type := .int, accessFlags := 25, slot := 16, constantValue := 0 }, { name := "T_INT", type := .int, accessFlags := 25, slot := 17, constantValue := 0 }, { name := "T_LONG", type := .int, accessFlags := 25, slot := 18, constantValue := 0 }, { name := "JLA", type := (.object "jdk/internal/access/JavaLangAccess"), accessFlags := 26, slot := 19, constantValue := 0 }, { name := "SOFT_MAX_ARRAY_LENGTH", type := .int, accessFlags := 25, slot := 20, constantValue := 0 }]
  methods := #[k15m0]
  instanceTypes := #[]
  staticTypes := #[(.object "jdk/internal/misc/Unsafe"), .boolean, .int, .int, .int, .int, .int, .int, .int, .int, .int, .int, .int, .int, .int, .int, .int, .int, .int, (.object "jdk/internal/access/JavaLangAccess"), .int]
  resolved := Array.replicate 378 none
  statics := none }

/-- the primitive byte -/
def k16 : Class := { plain "byte" none with kind := .primitive 'B', accessFlags := 0x411 }
/-- [B -/
def k17 : Class := { plain "[B" (some 0) with kind := .array 16 .byte, interfaces := #[10, 2], accessFlags := 1041 }

/-- the primitive char -/
def k18 : Class := { plain "char" none with kind := .primitive 'C', accessFlags := 0x411 }
/-- [C -/
def k19 : Class := { plain "[C" (some 0) with kind := .array 18 .char, interfaces := #[10, 2], accessFlags := 1041 }

/-- the primitive int -/
def k20 : Class := { plain "int" none with kind := .primitive 'I', accessFlags := 0x411 }
/-- [I -/
def k21 : Class := { plain "[I" (some 0) with kind := .array 20 .int, interfaces := #[10, 2], accessFlags := 1041 }

/-- [Lcom/example/sillon/sillon/siri/GeneralMessageChannel; -/
def k22 : Class := { plain "[Lcom/example/sillon/sillon/siri/GeneralMessageChannel;" (some 0) with kind := .array 9 (.object "com/example/sillon/sillon/siri/GeneralMessageChannel"), interfaces := #[10, 2], accessFlags := 1041 }

def heap : Heap := #[{ cls := 7, slots := #[.long 0, .int 1, .null, .int 0, .null, .int 0, .int 0], vm := .statics 7 },
  { cls := 9, slots := #[.ref 4, .ref 5, .ref 6, .ref 3], vm := .statics 9 },
  { cls := 12, slots := #[.null, .null, .null], vm := .statics 12 },
  { cls := 22, slots := #[.ref 4, .ref 5, .ref 6], vm := .none },
  { cls := 9, slots := #[.null, .int 0, .int 0, .ref 7, .null], vm := .none },
  { cls := 9, slots := #[.null, .int 1, .int 0, .ref 8, .null], vm := .none },
  { cls := 9, slots := #[.null, .int 2, .int 0, .ref 9, .null], vm := .none },
  { cls := 7, slots := #[.ref 10, .int 0, .int 0, .int 0], vm := .none },
  { cls := 7, slots := #[.ref 11, .int 0, .int 0, .int 0], vm := .none },
  { cls := 7, slots := #[.ref 12, .int 0, .int 0, .int 0], vm := .none },
  { cls := 17, slots := #[.int 80, .int 101, .int 114, .int 116, .int 117, .int 114, .int 98, .int 97, .int 116, .int 105, .int 111, .int 110], vm := .none },
  { cls := 17, slots := #[.int 73, .int 110, .int 102, .int 111, .int 114, .int 109, .int 97, .int 116, .int 105, .int 111, .int 110], vm := .none },
  { cls := 17, slots := #[.int 67, .int 111, .int 109, .int 109, .int 101, .int 114, .int 99, .int 105, .int 97, .int 108], vm := .none }]
def classes : Array Class := #[k0, k1, k2, k3, k4, k5, k6, k7, k8, k9, k10, k11, k12, k13, k14, k15, k16, k17, k18, k19, k20, k21, k22]
def interned : List (Array UInt16 × Addr) := []
def slotsUsed : Nat := 77
def theMethod : MethodId := ⟨1, 1⟩
def args0 : Array Value := #[.int 0, .int 0, .int 5, .int 2, .int 65, .int 0]
def aboutOver (below : List Frame) : State where
  vm := { classes := classes, interned := interned.toArray }
  heap := heap
  slotsUsed := slotsUsed
  threads := #[{ frames := .invoking theMethod args0 :: below }]
def below0 : List Frame := [.native { method := ⟨0, 0⟩, args := #[] }]
def about1 : State := aboutOver below0
def p0 : Program := .bare "" "" ""
def e0 : Env := launch0.env 0 0 0
theorem w_frames : about1.frames = Frame.invoking theMethod args0 :: below0 := rfl
set_option maxRecDepth 65536 in
theorem w_args : argsFit about1.vm theMethod args0 = true := by decide +kernel
set_option maxRecDepth 65536 in
theorem w_heap : heapFits about1 = true := by decide +kernel
set_option maxRecDepth 65536 in
theorem w_runnable : about1.curStatus? = some .runnable := by decide +kernel
set_option maxRecDepth 65536 in
theorem w_alone : about1.alone = true := by decide +kernel
set_option maxRecDepth 65536 in
theorem w_named : about1.methodNamed? x = some theMethod := by decide +kernel
set_option maxRecDepth 65536 in
theorem w_hears : about1.hears theMethod below0 = true := by decide +kernel
set_option maxRecDepth 65536 in
theorem w_ripe : about1.ripe theMethod args0 below0 = true := by decide +kernel
theorem w_running : about1.status = .running := rfl
set_option maxRecDepth 65536 in
theorem w_room : about1.hasRoom e0.platform room_1 = true :=
  launch0.hasRoom_least _ room_1 (by decide +kernel) (by decide +kernel) (by decide +kernel) (by decide +kernel) (by decide +kernel) (by decide +kernel)
theorem allAtoms_all (ts : List Jvm.Cond) (a : Array Jvm.Value) (st : Jvm.State) : (allAtoms ts).before a st = ts.all (fun c => c.before a st) := by
  induction ts with
  | nil => rfl
  | cons c t ih =>
    show (Jvm.Cond.and c (allAtoms t)).before a st = _
    rw [Jvm.Cond.before_and, ih, List.all_cons]
def words1 : List Jvm.Cond := Jvm.Cond.code x code maxLocals ret :: tables_1
/-- a 'code' word, met by the world's own term for the bytes: nothing is compared byte by byte -/
theorem code_word {y : MethodName} {bytes : ByteArray} {mx : Nat} {rt : Option FieldType} {a : Array Value} {s : State} {m : MethodId} {meth : Method} {c : Code} (h1 : s.methodNamed? y = some m) (h2 : s.vm.method? m = some meth) (h3 : meth.code = some c) (h4 : c.code = bytes)
    (h5 : (c.maxLocals == mx && c.exceptionTable.isEmpty && decide (c.maxStack ≤ mostOperands) && decide (meth.sig.returnType = rt) && !meth.locks && decide (parseMethodDescriptor y.desc = some meth.sig)) = true) : (Jvm.Cond.code y bytes mx rt).before a s = true := by
  simp only [Bool.and_eq_true, beq_iff_eq, Bool.not_eq_true', decide_eq_true_eq] at h5
  obtain ⟨⟨⟨⟨⟨g1, g2⟩, g3⟩, g4⟩, g5⟩, g6⟩ := h5
  simp [Cond.before, Cond.holds, Cond.value, h1, h2, h3, h4, g1, g2, g3, g4, g5, g6]
def isCode : Jvm.Cond → Bool
  | .code _ _ _ _ => true
  | _ => false
theorem all_split {L : List Jvm.Cond} {P : Jvm.Cond → Bool} (h1 : L.all (fun c => isCode c || P c) = true) (h2 : ∀ c ∈ L.filter isCode, P c = true) : L.all P = true := by
  refine List.all_eq_true.mpr fun c hc => ?_
  have h := List.all_eq_true.mp h1 c hc
  rcases Bool.eq_false_or_eq_true (isCode c) with hi | hi
  · exact h2 c (List.mem_filter.mpr ⟨hc, hi⟩)
  · simpa [hi] using h
set_option maxRecDepth 65536 in
theorem w_c0 : (Jvm.Cond.code x code maxLocals ret).before args0 about1 = true := code_word (m := ⟨1, 1⟩) (meth := k1m1) (c := k1c1) (by decide +kernel) rfl rfl rfl (by decide +kernel)
set_option maxRecDepth 65536 in
theorem w_c1 : (Jvm.Cond.code ({ cls := "com/example/sillon/sillon/siri/GeneralMessageChannel", name := "named", desc := "(Ljava/lang/String;)Lcom/example/sillon/sillon/siri/GeneralMessageChannel;" } : Jvm.MethodName) prog_18_method_4_code (5 : Nat) (Option.some (Jvm.ClassFile.FieldType.object "com/example/sillon/sillon/siri/GeneralMessageChannel"))).before args0 about1 = true := code_word (m := ⟨9, 1⟩) (meth := k9m1) (c := k9c1) (by decide +kernel) rfl rfl rfl (by decide +kernel)
set_option maxRecDepth 65536 in
theorem w_c2 : (Jvm.Cond.code ({ cls := "com/example/sillon/sillon/siri/GeneralMessageChannel", name := "values", desc := "()[Lcom/example/sillon/sillon/siri/GeneralMessageChannel;" } : Jvm.MethodName) prog_18_method_1_code (0 : Nat) (Option.some (Jvm.ClassFile.FieldType.array (Jvm.ClassFile.FieldType.object "com/example/sillon/sillon/siri/GeneralMessageChannel")))).before args0 about1 = true := code_word (m := ⟨9, 0⟩) (meth := k9m0) (c := k9c0) (by decide +kernel) rfl rfl rfl (by decide +kernel)
set_option maxRecDepth 65536 in
theorem w_c3 : (Jvm.Cond.code ({ cls := "java/lang/String", name := "equals", desc := "(Ljava/lang/Object;)Z" } : Jvm.MethodName) jdk_42_method_66_code (3 : Nat) (Option.some Jvm.ClassFile.FieldType.boolean)).before args0 about1 = true := code_word (m := ⟨7, 4⟩) (meth := k7m4) (c := k7c4) (by decide +kernel) rfl rfl rfl (by decide +kernel)
set_option maxRecDepth 65536 in
theorem w_c4 : (Jvm.Cond.code ({ cls := "com/example/sillon/sillon/siri/GeneralMessageChannelNamedPinLaw", name := "ref", desc := "(Ljava/lang/String;)Lcom/example/sillon/sillon/siri/GeneralMessageChannel;" } : Jvm.MethodName) method_4_code (1 : Nat) (Option.some (Jvm.ClassFile.FieldType.object "com/example/sillon/sillon/siri/GeneralMessageChannel"))).before args0 about1 = true := code_word (m := ⟨1, 3⟩) (meth := k1m3) (c := k1c3) (by decide +kernel) rfl rfl rfl (by decide +kernel)
set_option maxRecDepth 65536 in
theorem w_c5 : (Jvm.Cond.code ({ cls := "java/lang/String", name := "length", desc := "()I" } : Jvm.MethodName) jdk_42_method_54_code (1 : Nat) (Option.some Jvm.ClassFile.FieldType.int)).before args0 about1 = true := code_word (m := ⟨7, 2⟩) (meth := k7m2) (c := k7c2) (by decide +kernel) rfl rfl rfl (by decide +kernel)
set_option maxRecDepth 65536 in
theorem w_c6 : (Jvm.Cond.code ({ cls := "java/lang/String", name := "coder", desc := "()B" } : Jvm.MethodName) jdk_42_method_152_code (1 : Nat) (Option.some Jvm.ClassFile.FieldType.byte)).before args0 about1 = true := code_word (m := ⟨7, 6⟩) (meth := k7m6) (c := k7c6) (by decide +kernel) rfl rfl rfl (by decide +kernel)
set_option maxRecDepth 65536 in
theorem w_c7 : (Jvm.Cond.code ({ cls := "com/example/sillon/sillon/siri/GeneralMessageChannelNamedPinLaw", name := "at", desc := "(Ljava/lang/String;II)C" } : Jvm.MethodName) method_3_code (3 : Nat) (Option.some Jvm.ClassFile.FieldType.char)).before args0 about1 = true := code_word (m := ⟨1, 2⟩) (meth := k1m2) (c := k1c2) (by decide +kernel) rfl rfl rfl (by decide +kernel)
set_option maxRecDepth 65536 in
theorem w_c8 : (Jvm.Cond.code ({ cls := "java/lang/String", name := "charAt", desc := "(I)C" } : Jvm.MethodName) jdk_42_method_56_code (2 : Nat) (Option.some Jvm.ClassFile.FieldType.char)).before args0 about1 = true := code_word (m := ⟨7, 3⟩) (meth := k7m3) (c := k7c3) (by decide +kernel) rfl rfl rfl (by decide +kernel)
set_option maxRecDepth 65536 in
theorem w_c9 : (Jvm.Cond.code ({ cls := "java/lang/String", name := "isLatin1", desc := "()Z" } : Jvm.MethodName) jdk_42_method_154_code (1 : Nat) (Option.some Jvm.ClassFile.FieldType.boolean)).before args0 about1 = true := code_word (m := ⟨7, 7⟩) (meth := k7m7) (c := k7c7) (by decide +kernel) rfl rfl rfl (by decide +kernel)
set_option maxRecDepth 65536 in
theorem w_c10 : (Jvm.Cond.code ({ cls := "java/lang/StringLatin1", name := "charAt", desc := "([BI)C" } : Jvm.MethodName) jdk_43_method_2_code (2 : Nat) (Option.some Jvm.ClassFile.FieldType.char)).before args0 about1 = true := code_word (m := ⟨11, 1⟩) (meth := k11m1) (c := k11c1) (by decide +kernel) rfl rfl rfl (by decide +kernel)
set_option maxRecDepth 65536 in
theorem w_c11 : (Jvm.Cond.code ({ cls := "java/lang/String", name := "checkIndex", desc := "(II)V" } : Jvm.MethodName) jdk_42_method_155_code (2 : Nat) (Option.none : Option Jvm.ClassFile.FieldType)).before args0 about1 = true := code_word (m := ⟨7, 8⟩) (meth := k7m8) (c := k7c8) (by decide +kernel) rfl rfl rfl (by decide +kernel)
set_option maxRecDepth 65536 in
theorem w_c12 : (Jvm.Cond.code ({ cls := "jdk/internal/util/Preconditions", name := "checkIndex", desc := "(IILjava/util/function/BiFunction;)I" } : Jvm.MethodName) jdk_41_method_11_code (3 : Nat) (Option.some Jvm.ClassFile.FieldType.int)).before args0 about1 = true := code_word (m := ⟨12, 1⟩) (meth := k12m1) (c := k12c1) (by decide +kernel) rfl rfl rfl (by decide +kernel)
set_option maxRecDepth 65536 in
theorem w_c13 : (Jvm.Cond.code ({ cls := "java/lang/String", name := "<init>", desc := "([C)V" } : Jvm.MethodName) jdk_42_method_3_code (2 : Nat) (Option.none : Option Jvm.ClassFile.FieldType)).before args0 about1 = true := code_word (m := ⟨7, 1⟩) (meth := k7m1) (c := k7c1) (by decide +kernel) rfl rfl rfl (by decide +kernel)
set_option maxRecDepth 65536 in
theorem w_c14 : (Jvm.Cond.code ({ cls := "java/lang/String", name := "<init>", desc := "([CIILjava/lang/Void;)V" } : Jvm.MethodName) jdk_42_method_149_code (6 : Nat) (Option.none : Option Jvm.ClassFile.FieldType)).before args0 about1 = true := code_word (m := ⟨7, 5⟩) (meth := k7m5) (c := k7c5) (by decide +kernel) rfl rfl rfl (by decide +kernel)
set_option maxRecDepth 65536 in
theorem w_c15 : (Jvm.Cond.code ({ cls := "java/lang/Object", name := "<init>", desc := "()V" } : Jvm.MethodName) object_method_1_code (1 : Nat) (Option.none : Option Jvm.ClassFile.FieldType)).before args0 about1 = true := code_word (m := ⟨0, 0⟩) (meth := k0m0) (c := k0c0) (by decide +kernel) rfl rfl rfl (by decide +kernel)
set_option maxRecDepth 65536 in
theorem w_c16 : (Jvm.Cond.code ({ cls := "java/lang/StringLatin1", name := "equals", desc := "([B[B)Z" } : Jvm.MethodName) jdk_43_method_13_code (3 : Nat) (Option.some Jvm.ClassFile.FieldType.boolean)).before args0 about1 = true := code_word (m := ⟨11, 2⟩) (meth := k11m2) (c := k11c2) (by decide +kernel) rfl rfl rfl (by decide +kernel)
set_option maxRecDepth 65536 in
theorem w_c17 : (Jvm.Cond.code ({ cls := "java/lang/StringUTF16", name := "compress", desc := "([CII)[B" } : Jvm.MethodName) jdk_52_method_16_code (6 : Nat) (Option.some (Jvm.ClassFile.FieldType.array Jvm.ClassFile.FieldType.byte))).before args0 about1 = true := code_word (m := ⟨13, 2⟩) (meth := k13m2) (c := k13c2) (by decide +kernel) rfl rfl rfl (by decide +kernel)
set_option maxRecDepth 65536 in
theorem w_c18 : (Jvm.Cond.code ({ cls := "java/lang/StringUTF16", name := "compress", desc := "([CI[BII)I" } : Jvm.MethodName) jdk_52_method_21_code (7 : Nat) (Option.some Jvm.ClassFile.FieldType.int)).before args0 about1 = true := code_word (m := ⟨13, 3⟩) (meth := k13m3) (c := k13c3) (by decide +kernel) rfl rfl rfl (by decide +kernel)
set_option maxRecDepth 65536 in
theorem w_c19 : (Jvm.Cond.code ({ cls := "java/lang/StringUTF16", name := "coderFromArrayLen", desc := "([BI)B" } : Jvm.MethodName) jdk_52_method_15_code (2 : Nat) (Option.some Jvm.ClassFile.FieldType.byte)).before args0 about1 = true := code_word (m := ⟨13, 1⟩) (meth := k13m1) (c := k13c1) (by decide +kernel) rfl rfl rfl (by decide +kernel)
set_option maxRecDepth 65536 in
theorem w_c20 : (Jvm.Cond.code ({ cls := "java/lang/Math", name := "max", desc := "(II)I" } : Jvm.MethodName) jdk_29_method_65_code (2 : Nat) (Option.some Jvm.ClassFile.FieldType.int)).before args0 about1 = true := code_word (m := ⟨14, 1⟩) (meth := k14m1) (c := k14c1) (by decide +kernel) rfl rfl rfl (by decide +kernel)
def codes1 : List Jvm.Cond := [Jvm.Cond.code x code maxLocals ret, Jvm.Cond.code ({ cls := "com/example/sillon/sillon/siri/GeneralMessageChannel", name := "named", desc := "(Ljava/lang/String;)Lcom/example/sillon/sillon/siri/GeneralMessageChannel;" } : Jvm.MethodName) prog_18_method_4_code (5 : Nat) (Option.some (Jvm.ClassFile.FieldType.object "com/example/sillon/sillon/siri/GeneralMessageChannel")), Jvm.Cond.code ({ cls := "com/example/sillon/sillon/siri/GeneralMessageChannel", name := "values", desc := "()[Lcom/example/sillon/sillon/siri/GeneralMessageChannel;" } : Jvm.MethodName) prog_18_method_1_code (0 : Nat) (Option.some (Jvm.ClassFile.FieldType.array (Jvm.ClassFile.FieldType.object "com/example/sillon/sillon/siri/GeneralMessageChannel"))), Jvm.Cond.code ({ cls := "java/lang/String", name := "equals", desc := "(Ljava/lang/Object;)Z" } : Jvm.MethodName) jdk_42_method_66_code (3 : Nat) (Option.some Jvm.ClassFile.FieldType.boolean), Jvm.Cond.code ({ cls := "com/example/sillon/sillon/siri/GeneralMessageChannelNamedPinLaw", name := "ref", desc := "(Ljava/lang/String;)Lcom/example/sillon/sillon/siri/GeneralMessageChannel;" } : Jvm.MethodName) method_4_code (1 : Nat) (Option.some (Jvm.ClassFile.FieldType.object "com/example/sillon/sillon/siri/GeneralMessageChannel")), Jvm.Cond.code ({ cls := "java/lang/String", name := "length", desc := "()I" } : Jvm.MethodName) jdk_42_method_54_code (1 : Nat) (Option.some Jvm.ClassFile.FieldType.int), Jvm.Cond.code ({ cls := "java/lang/String", name := "coder", desc := "()B" } : Jvm.MethodName) jdk_42_method_152_code (1 : Nat) (Option.some Jvm.ClassFile.FieldType.byte), Jvm.Cond.code ({ cls := "com/example/sillon/sillon/siri/GeneralMessageChannelNamedPinLaw", name := "at", desc := "(Ljava/lang/String;II)C" } : Jvm.MethodName) method_3_code (3 : Nat) (Option.some Jvm.ClassFile.FieldType.char), Jvm.Cond.code ({ cls := "java/lang/String", name := "charAt", desc := "(I)C" } : Jvm.MethodName) jdk_42_method_56_code (2 : Nat) (Option.some Jvm.ClassFile.FieldType.char), Jvm.Cond.code ({ cls := "java/lang/String", name := "isLatin1", desc := "()Z" } : Jvm.MethodName) jdk_42_method_154_code (1 : Nat) (Option.some Jvm.ClassFile.FieldType.boolean), Jvm.Cond.code ({ cls := "java/lang/StringLatin1", name := "charAt", desc := "([BI)C" } : Jvm.MethodName) jdk_43_method_2_code (2 : Nat) (Option.some Jvm.ClassFile.FieldType.char), Jvm.Cond.code ({ cls := "java/lang/String", name := "checkIndex", desc := "(II)V" } : Jvm.MethodName) jdk_42_method_155_code (2 : Nat) (Option.none : Option Jvm.ClassFile.FieldType), Jvm.Cond.code ({ cls := "jdk/internal/util/Preconditions", name := "checkIndex", desc := "(IILjava/util/function/BiFunction;)I" } : Jvm.MethodName) jdk_41_method_11_code (3 : Nat) (Option.some Jvm.ClassFile.FieldType.int), Jvm.Cond.code ({ cls := "java/lang/String", name := "<init>", desc := "([C)V" } : Jvm.MethodName) jdk_42_method_3_code (2 : Nat) (Option.none : Option Jvm.ClassFile.FieldType), Jvm.Cond.code ({ cls := "java/lang/String", name := "<init>", desc := "([CIILjava/lang/Void;)V" } : Jvm.MethodName) jdk_42_method_149_code (6 : Nat) (Option.none : Option Jvm.ClassFile.FieldType), Jvm.Cond.code ({ cls := "java/lang/Object", name := "<init>", desc := "()V" } : Jvm.MethodName) object_method_1_code (1 : Nat) (Option.none : Option Jvm.ClassFile.FieldType), Jvm.Cond.code ({ cls := "java/lang/StringLatin1", name := "equals", desc := "([B[B)Z" } : Jvm.MethodName) jdk_43_method_13_code (3 : Nat) (Option.some Jvm.ClassFile.FieldType.boolean), Jvm.Cond.code ({ cls := "java/lang/StringUTF16", name := "compress", desc := "([CII)[B" } : Jvm.MethodName) jdk_52_method_16_code (6 : Nat) (Option.some (Jvm.ClassFile.FieldType.array Jvm.ClassFile.FieldType.byte)), Jvm.Cond.code ({ cls := "java/lang/StringUTF16", name := "compress", desc := "([CI[BII)I" } : Jvm.MethodName) jdk_52_method_21_code (7 : Nat) (Option.some Jvm.ClassFile.FieldType.int), Jvm.Cond.code ({ cls := "java/lang/StringUTF16", name := "coderFromArrayLen", desc := "([BI)B" } : Jvm.MethodName) jdk_52_method_15_code (2 : Nat) (Option.some Jvm.ClassFile.FieldType.byte), Jvm.Cond.code ({ cls := "java/lang/Math", name := "max", desc := "(II)I" } : Jvm.MethodName) jdk_29_method_65_code (2 : Nat) (Option.some Jvm.ClassFile.FieldType.int)]
set_option maxRecDepth 65536 in
theorem codes_eq : words1.filter isCode = codes1 := rfl
theorem w_codes : ∀ c ∈ words1.filter isCode, c.before args0 about1 = true := by
  rw [codes_eq]
  intro c hc
  simp only [codes1, List.mem_cons, List.not_mem_nil, or_false] at hc
  rcases hc with rfl | rfl | rfl | rfl | rfl | rfl | rfl | rfl | rfl | rfl | rfl | rfl | rfl | rfl | rfl | rfl | rfl | rfl | rfl | rfl | rfl
  · exact w_c0
  · exact w_c1
  · exact w_c2
  · exact w_c3
  · exact w_c4
  · exact w_c5
  · exact w_c6
  · exact w_c7
  · exact w_c8
  · exact w_c9
  · exact w_c10
  · exact w_c11
  · exact w_c12
  · exact w_c13
  · exact w_c14
  · exact w_c15
  · exact w_c16
  · exact w_c17
  · exact w_c18
  · exact w_c19
  · exact w_c20
set_option maxRecDepth 65536 in
theorem w_t1 : (words1.take 24).all (fun c => isCode c || c.before args0 about1) = true := by decide +kernel
set_option maxRecDepth 65536 in
theorem w_t2 : ((words1.drop 24).take 24).all (fun c => isCode c || c.before args0 about1) = true := by decide +kernel
set_option maxRecDepth 65536 in
theorem w_t3 : (((words1.drop 24).drop 24).take 24).all (fun c => isCode c || c.before args0 about1) = true := by decide +kernel
set_option maxRecDepth 65536 in
theorem w_t4 : ((((words1.drop 24).drop 24).drop 24).take 24).all (fun c => isCode c || c.before args0 about1) = true := by decide +kernel
set_option maxRecDepth 65536 in
theorem w_t5 : ((((words1.drop 24).drop 24).drop 24).drop 24).all (fun c => isCode c || c.before args0 about1) = true := by decide +kernel
theorem w_tables : (allAtoms (Jvm.Cond.code x code maxLocals ret :: tables_1)).before args0 about1 = true := by
  rw [allAtoms_all]
  show words1.all (fun c => c.before args0 about1) = true
  refine all_split ?_ w_codes
  rw [← List.take_append_drop 24 words1, List.all_append, w_t1, ← List.take_append_drop 24 (words1.drop 24), List.all_append, w_t2, ← List.take_append_drop 24 ((words1.drop 24).drop 24), List.all_append, w_t3, ← List.take_append_drop 24 (((words1.drop 24).drop 24).drop 24), List.all_append, w_t4, w_t5]
  rfl
set_option maxRecDepth 65536 in
theorem w_rest : rest_1_c.before args0 about1 = true := by decide +kernel
set_option maxRecDepth 65536 in
theorem w_case : (Jvm.Cond.and given_1 narrow_1).before args0 about1 = true := by decide +kernel
set_option maxRecDepth 65536 in
theorem w_consts : constsHeld consts_1 about1 := Jvm.Lit.constsHeldB_iff.mp (by decide +kernel)
theorem w_applies : (headSpec (Jvm.Cond.code x code maxLocals ret :: tables_1) room_1).applies x e0.platform about1 = true :=
  (Spec.applies_iff w_frames).mpr ⟨w_running, w_runnable, w_alone, w_named, w_hears, w_ripe, w_room, w_tables⟩
theorem atStart : AtStart classFile x code maxLocals ret World_1 tables_1 room_1 Calls_1 rest_1 Pre_1 launch0 p0 e0 about1 theMethod args0 below0 :=
  ⟨lists_1, trivial, launch0.admits_env _ _ _, launch0.least_env, fairChoices_fair.cas, fairChoices_fair.clock, w_frames, w_args, w_heap, w_applies, ⟨w_consts, trivial⟩, w_rest, w_case⟩
end start1
theorem witness_1 : WitnessClaimed_1 := ⟨start1.p0, start1.e0, start1.about1, start1.theMethod, start1.args0, start1.below0, start1.atStart⟩
end Jvm.Pilot.@@N@@
