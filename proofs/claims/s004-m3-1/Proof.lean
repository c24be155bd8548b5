import JvmDerived
import JvmDerived.Pilot.@@N@@Statement
import JvmDerived.Pilot.@@N@@Code
set_option linter.unusedVariables false
set_option linter.unusedSimpArgs false
namespace Jvm.RoadKit
open Sem ClassFile Op Lib Jvm.Stand Jvm.Free Jvm.LawKit
section Own
variable {tb : Tables} {e : Env} {below : List Frame} {Q : Outcome → State → Prop} {A B : State}
def Goes (tb : Tables) (e : Env) (below : List Frame) (Q : Outcome → State → Prop) (A : State) : Prop := ∃ s₂ o, Steps tb e below A s₂ ∧ s₂.status = .running ∧ Ended s₂ below o ∧ Q o s₂
theorem Goes.st (st : ∀ t, Steps tb e below A t → Steps tb e below B t) (k : Goes tb e below Q A) : Goes tb e below Q B := by
  obtain ⟨s, o, h1, h2⟩ := k
  exact ⟨s, o, st s h1, h2⟩
theorem Goes.tr (st : Steps tb e below B A) (k : Goes tb e below Q A) : Goes tb e below Q B := by
  obtain ⟨s, o, h1, h2⟩ := k
  exact ⟨s, o, st.trans h1, h2⟩
abbrev uS : Slot := .unset
theorem Goes.named (k : ∀ Q', Q' = Q → Goes tb e below Q' A) : Goes tb e below Q A := k Q rfl
theorem own_narb (c : Int32) : nar .byte (c.toInt8.toInt32) = c.toInt8.toInt32 := by simp [nar]
theorem own_fitsb (c : Int32) : fits .byte (.int c.toInt8.toInt32) = true := own_narb c ▸ fits_nar_byte _
theorem own_narZ {z : Int32} (h : z = 0 ∨ z = 1) : nar .boolean z = z := by rcases h with rfl | rfl <;> rfl
theorem own_narwZ {z : Int32} (h : z = 0 ∨ z = 1) : narrow .boolean (.int z) = .int z := by rcases h with rfl | rfl <;> rfl
theorem own_fitsZ {z : Int32} (h : z = 0 ∨ z = 1) : fits .boolean (.int z) = true := by rcases h with rfl | rfl <;> rfl
theorem own_cat {v : Value} (h : v.isRef = true) : v.category = 1 := by cases v <;> first | rfl | (simp [Value.isRef] at h)
theorem own_fitsR {v : Value} {t : FieldType} (h : v.isRef = true) (ht : t.isReference = true) : fits t v = true := by cases v <;> cases t <;> simp_all [Value.isRef, fits, FieldType.isReference]
theorem own_narR {v : Value} {t : FieldType} (h : v.isRef = true) : narrow t v = v := by cases v <;> cases t <;> first | rfl | (simp [Value.isRef] at h)
end Own
section New
variable {p : Program} {l : Launch} {e : Env} {R : Room} {s : State} {m : MethodId} {args : Array Value} {below : List Frame} {meth : Method} {c : Code} {T : State} {locs : List Loc} {cells slots : Nat}
theorem retI (X : Stand p l e R s m args below meth c T locs cells slots) (hx : p.tables.exec = Jvm.exec) {pc : Nat} {Ls : Array Slot} {z : Int32} {rest : List Value} (hret : meth.sig.returnType = some .int) (hd : decode c.code pc = .ok (.ireturn, 1)) {fs : List Frame}
    (hl : ∀ (f : JFrame) (acts : List Action), f.method = m → f.locked = none → f.entered = [] → (doReturn e (T.setTop f) acts (some (.int z))).1 = T.setFrames fs) : Steps p.tables e below (T.setTop (mkF m pc Ls (.int z :: rest))) (T.setFrames fs) :=
  retOut X hx (w := .int z) hret rfl (Or.inl ⟨rfl, Or.inl rfl, _, rfl⟩) hd hl
theorem retJ (X : Stand p l e R s m args below meth c T locs cells slots) (hx : p.tables.exec = Jvm.exec) {pc : Nat} {Ls : Array Slot} {z : Int64} {rest : List Value} (hret : meth.sig.returnType = some .long) (hd : decode c.code pc = .ok (.lreturn, 1)) {fs : List Frame}
    (hl : ∀ (f : JFrame) (acts : List Action), f.method = m → f.locked = none → f.entered = [] → (doReturn e (T.setTop f) acts (some (.long z))).1 = T.setFrames fs) : Steps p.tables e below (T.setTop (mkF m pc Ls (.long z :: rest))) (T.setFrames fs) :=
  retOut X hx (w := .long z) hret rfl (Or.inr (Or.inl ⟨rfl, rfl, _, rfl⟩)) hd hl
theorem retR (X : Stand p l e R s m args below meth c T locs cells slots) (hx : p.tables.exec = Jvm.exec) {pc : Nat} {Ls : Array Slot} {w : Value} {t : FieldType} {rest : List Value} (hret : meth.sig.returnType = some t) (ht : t.isReference = true) (hw : w.isRef = true) (hd : decode c.code pc = .ok (.areturn, 1)) {fs : List Frame}
    (hl : ∀ (f : JFrame) (acts : List Action), f.method = m → f.locked = none → f.entered = [] → (doReturn e (T.setTop f) acts (some w)).1 = T.setFrames fs) : Steps p.tables e below (T.setTop (mkF m pc Ls (w :: rest))) (T.setFrames fs) :=
  retOut X hx (w := w) hret (own_narR hw) (Or.inr (Or.inr (Or.inr (Or.inr ⟨rfl, ht, hw⟩)))) hd hl
end New
end Jvm.RoadKit
namespace Jvm.RoadKit
open Sem ClassFile Op Lib Jvm.Stand Jvm.Free Jvm.LawKit
section OwnW
variable {p : Program} {l : Launch} {e : Env} {R : Room} {s : State} {args : Array Value} {below : List Frame} {Z : State} {a0 : Array Value} {h : Heap} {vm0 : Vm} {EL : List (String × Nat)}
theorem own_REmono {s t : State} {o : Outcome} {L : List Loc} {k n k' n' : Nat} (h : ReturnedEndW s o t L k n) (hk : k ≤ k') (hn : n ≤ n') : ReturnedEndW s o t L k' n' := ⟨h.1, h.2.1, h.2.2.1, h.2.2.2.mono hk hn⟩
/-- a callee that may intern, and is told of some addresses that no constant's String lies there -/
theorem own_backW {y : MethodName} {bytes : ByteArray} {maxL : Nat} {ret : Option FieldType} {rm : Room} {len W : Nat} {as' : Array Value} {Q : Option Value → Heap → List Loc → Prop} {xs : List Addr}
    (hM : MetFree l y (head1 [Cond.code y bytes maxL ret] rm) (fun a U => a = as' ∧ Z.Warmed39 U.vm ∧ U.heap = h ∧ CHv Z EL U.vm h ∧ ∀ x ∈ xs, Safe Z EL U.vm h x) (fun _ _ _ _ _ => True) (fun _ U o U' => ∃ v L, o = .returned v ∧ Q v U'.heap L ∧ CHr Z EL U.vm U.heap U'.vm U'.heap ∧ ReturnedEndW U o U' L rm.cells rm.slots))
    (hZ : Z.Warmed39 vm0) (wc : (Cond.code y bytes maxL ret).before a0 Z = true) (wz : (Cond.initialized y.cls).before a0 Z = true) (hf : rm.frames + 1 ≤ R.frames) (hl : W + (maxL + 11) + rm.locals ≤ R.locals) (hEL : EW Z a0 EL) (H : CHv Z EL vm0 h) (hxs : ∀ x ∈ xs, x < h.size ∧ Safe Z EL vm0 h x) :
    BackS l R p e below (s.setVm vm0) args y len W (fun A a => a = as' ∧ A.U.heap = h ∧ A.cells + rm.cells ≤ R.cells ∧ A.slots + rm.slots ≤ R.slots)
      (fun A _ v B => ∃ L, Q v B.U.heap L ∧ B.locs = A.locs ++ L ∧ B.cells = A.cells + rm.cells ∧ B.slots = A.slots + rm.slots ∧ CHr Z EL vm0 h B.U.vm B.U.heap) := by
  refine BackS.of_freeW (bytes := bytes) (maxL := maxL) (ret := ret) (E := fun _ first o t L k n => k = rm.cells ∧ n = rm.slots ∧ (∃ v, o = .returned v ∧ Q v t.heap L) ∧ CHr Z EL first.vm first.heap t.vm t.heap) hM hf hl ?_ ?_ ?_ ?_ ?_
  · intro m meth c A a Y hp
    have hU : Z.Warmed39 A.U.vm := wtrans (s := s.setVm vm0) hZ Y.warmed
    refine ⟨?_, mv hU wc, mv hU wz, hp.2.2.1, hp.2.2.2⟩
    show (Cond.and _ .tt).before a A.U = true
    rw [Cond.before_and, mv hU wc]; rfl
  · intro m meth c A a g mk Y hp
    have C := CHv.at Y hZ hEL H
    exact ⟨hp.1, wtrans (s := s.setVm vm0) hZ Y.warmed, hp.2.1, C.1, fun x hx => C.safe (hxs x hx).1 (hxs x hx).2⟩
  · intros; trivial
  · rintro _ _ _ _ ⟨v, L, h1, h2, h3, h4⟩
    exact ⟨L, _, _, h4, rfl, rfl, ⟨v, h1, h2⟩, h3⟩
  · rintro m meth c A a g mk v t L k n Y hp _ _ ⟨e1, e2, ⟨v', e3, e4⟩, e5⟩
    cases e3
    subst e1 e2
    refine ⟨L, e4, rfl, rfl, rfl, (CHv.at Y hZ hEL H).trans ?_⟩
    rw [← hp.2.1]
    exact e5
end OwnW
end Jvm.RoadKit
namespace Jvm.Pilot.@@N@@
open Jvm Jvm.ClassFile Sem Op Lib Jvm.Free Jvm.Stand Jvm.LawKit Jvm.RoadKit Bundle Jvm.Pilot.@@N@@.Jvm.D
def EL : List (String × Nat) := consts_1
theorem own_wS {Z : State} {a0 : Array Value} (hw : ∀ d ∈ tables_1, d.before a0 Z = true) : ∀ d ∈ Bundle.stringAtoms, d.before a0 Z = true := fun d hd => hw d ((by decide +kernel : ∀ d ∈ Bundle.stringAtoms, d ∈ tables_1) d hd)
end Jvm.Pilot.@@N@@
/- laws to paste: Road.backV, Road.lenW, Road.chN, Road.codOf (cut by pick.py; bodies as the Statement names them) -/
namespace Jvm.Pilot.@@N@@
namespace StrChars
open Jvm Sem ClassFile Op Lib Jvm.Stand Jvm.Free.XT Jvm.Free.ALB Jvm.Free.JM Jvm.Free
open Jvm.Lib.Cold (StaticIs)
/-- a char array whose places are chars -/
def Ch (a : Addr) (A : Cell) (U : State) : Prop := Arr .char a A U ∧ Typed .char A
theorem Ch.mv {a : Addr} {A : Cell} {U U' : State} (h : Ch a A U) (hal : U.vm.Alike U'.vm) (hh : U'.heap = U.heap) : Ch a A U' := ⟨h.1.mv hal hh, h.2⟩
theorem Ch.keep {a : Addr} {A : Cell} {U U' : State} (h : Ch a A U) (hal : U.vm.Alike U'.vm) (hk : U'.heap[a]? = some A) : Ch a A U' := ⟨h.1.keep hal hk, h.2⟩
/-- what place i of a char[]'s cell holds -/
def cv (A : Cell) (i : Nat) : Int32 := match A.slots[i]? with | some (.int x) => x | _ => 0
theorem Ch.get {a : Addr} {A : Cell} {U : State} (h : Ch a A U) {i : Nat} (hi : i < A.slots.size) : A.slots[i]? = some (.int (cv A i)) := by
  have e := Array.getElem?_eq_getElem hi
  have f := h.2 i _ e
  unfold cv; rw [e]
  generalize A.slots[i] = v at f
  cases v <;> simp [fits] at f ⊢
/-- the byte that i2b leaves of a char -/
def lo8 (x : Int32) : Int32 := x.toInt8.toInt32
theorem fits_lo8 (y : Int32) : fits .byte (.int (lo8 y)) = true := by
  have h1 := y.toInt8.le_toInt
  have h2 := y.toInt8.toInt_lt
  simp only [lo8, fits, Bool.and_eq_true, decide_eq_true_eq, Int32.le_iff_toInt_le, Int8.toInt_toInt32, show (-128 : Int32).toInt = -128 from by decide, show (127 : Int32).toInt = 127 from by decide]
  omega
/-- A' is A but that each place j of lo .. hi - 1 holds f j -/
def Laid (A A' : Cell) (lo hi : Nat) (f : Nat → Value) : Prop := A'.cls = A.cls ∧ A'.vm = A.vm ∧ A'.slots.size = A.slots.size ∧ ∀ i, A'.slots[i]? = if lo ≤ i ∧ i < hi then some (f i) else A.slots[i]?
theorem Laid.zero (A : Cell) (lo : Nat) (f : Nat → Value) : Laid A A lo (lo + 0) f := ⟨rfl, rfl, rfl, fun i => by rw [if_neg (by omega)]⟩
theorem Laid.step {A Ak : Cell} {lo k : Nat} {f : Nat → Value} {v : Value} (h : Laid A Ak lo k f) (hlo : lo ≤ k) (hk : k < Ak.slots.size) (hv : v = f k) : Laid A (Ak.setSlot k v) lo (k + 1) f := by
  refine ⟨h.1, h.2.1, by simpa [Cell.setSlot] using h.2.2.1, fun i => ?_⟩
  by_cases e : k = i
  · subst e; rw [Cell.slots_setSlot_self v hk, if_pos (by omega), hv]
  · rw [Cell.slots_setSlot_ne v e, h.2.2.2 i]
    by_cases q : lo ≤ i ∧ i < k
    · rw [if_pos q, if_pos (by omega)]
    · rw [if_neg q, if_neg (by omega)]
def U16 : String := "java/lang/StringUTF16"
namespace Cmp5
def yN : MethodName := ⟨"java/lang/StringUTF16", "compress", "([CI[BII)I"⟩
abbrev yB : ByteArray := jdk_52_method_21_code
theorem d0 : decode yB 0 = .ok (.iconst 0, 1) := by decide +kernel
theorem d1 : decode yB 1 = .ok (.istore 5, 2) := by decide +kernel
theorem d3 : decode yB 3 = .ok (.iload 5, 2) := by decide +kernel
theorem d5 : decode yB 5 = .ok (.iload 4, 2) := by decide +kernel
theorem d7 : decode yB 7 = .ok (.if_icmp (.ge) 37, 3) := by decide +kernel
theorem d10 : decode yB 10 = .ok (.aload_n 0, 1) := by decide +kernel
theorem d11 : decode yB 11 = .ok (.iload_n 1, 1) := by decide +kernel
theorem d12 : decode yB 12 = .ok (.caload, 1) := by decide +kernel
theorem d13 : decode yB 13 = .ok (.istore 6, 2) := by decide +kernel
theorem d15 : decode yB 15 = .ok (.iload 6, 2) := by decide +kernel
theorem d17 : decode yB 17 = .ok (.sipush 255, 3) := by decide +kernel
theorem d20 : decode yB 20 = .ok (.if_icmp (.le) 6, 3) := by decide +kernel
theorem d26 : decode yB 26 = .ok (.aload_n 2, 1) := by decide +kernel
theorem d27 : decode yB 27 = .ok (.iload_n 3, 1) := by decide +kernel
theorem d28 : decode yB 28 = .ok (.iload 6, 2) := by decide +kernel
theorem d30 : decode yB 30 = .ok (.i2b, 1) := by decide +kernel
theorem d31 : decode yB 31 = .ok (.bastore, 1) := by decide +kernel
theorem d32 : decode yB 32 = .ok (.iinc 1 1, 3) := by decide +kernel
theorem d35 : decode yB 35 = .ok (.iinc 3 1, 3) := by decide +kernel
theorem d38 : decode yB 38 = .ok (.iinc 5 1, 3) := by decide +kernel
theorem d41 : decode yB 41 = .ok (.goto (-38), 3) := by decide +kernel
theorem d44 : decode yB 44 = .ok (.iload 4, 2) := by decide +kernel
theorem d46 : decode yB 46 = .ok (.ireturn, 1) := by decide +kernel
def site : List Cond := []
def tab : Cond := tabOf yN yB 7 (some .int) site
def P (b : Addr) (A : Cell) (d : Addr) (B : Cell) (o q len : Nat) (args : Array Value) (s : State) : Prop := args = #[.ref b, .int (Int32.ofNat o), .ref d, .int (Int32.ofNat q), .int (Int32.ofNat len)] ∧ Ch b A s ∧ Arr .byte d B s ∧ b ≠ d ∧ o + len ≤ A.slots.size ∧ q + len ≤ B.slots.size ∧ ∀ i, i < len → ¬ 255 < cv A (o + i)
def E (b : Addr) (A : Cell) (d : Addr) (B : Cell) (o q len : Nat) (r : Option Value) (s u : State) : Prop := r = some (.int (Int32.ofNat len)) ∧ ∃ B', Put d B' s u ∧ Laid B B' q (q + len) (fun j => Value.int (lo8 (cv A (o + (j - q)))))
/-- no char of the range above 255: len; the places written hold each char's low byte -/
theorem law (l : Launch) (b : Addr) (A : Cell) (d : Addr) (B : Cell) (o q len : Nat) : Law l yN 5 5 0 0 yB 7 (some .int) site (P b A d B o q len) (E b A d B o q len) (copyLocs d q len) 0 0 := by
  refine Law.of_walk (plainFor_of_name (by decide +kernel)) (by decide +kernel) (by decide +kernel) (by decide) (fun _ _ h => by rw [h.1]; rfl) (fun _ U U' hal hh h => ⟨h.1, h.2.1.mv hal hh, h.2.2.1.mv hal hh, h.2.2.2⟩) (fun r U U' V V' h1 hal h2 h => ⟨h.1, h.2.elim fun B' q => ⟨B', q.1.mv h1 h2, q.2⟩⟩) ?_
  intro p e s m args below meth c s₁ X0 hexec hbytes hml hret hlk hnm hown hh0 W hP
  obtain ⟨rfl, hA, hB, hne, l1, l2, hp⟩ := hP
  have c1 : Steps p.tables e below (s₁.setTop (entryFrame m #[.ref b, .int (Int32.ofNat o), .ref d, .int (Int32.ofNat q), .int (Int32.ofNat len)] 7)) (s₁.setTop (mkF m 0 #[.val (.ref b), .val (.int (Int32.ofNat o)), .val (.ref d), .val (.int (Int32.ofNat q)), .val (.int (Int32.ofNat len)), .unset, .unset] [])) := entry rfl
  have hA0 := hA.1.mv X0.warmed.alike hh0
  have hB0 := hB.mv X0.warmed.alike hh0
  have a31 := hA.1.2.2.2
  have c2 : Steps p.tables e below (s₁.setTop (entryFrame m #[.ref b, .int (Int32.ofNat o), .ref d, .int (Int32.ofNat q), .int (Int32.ofNat len)] 7)) (s₁.setTop (mkF m 3 #[.val (.ref b), .val (.int (Int32.ofNat o)), .val (.ref d), .val (.int (Int32.ofNat q)), .val (.int (Int32.ofNat len)), .val (.int 0), .unset] [])) := c1.trans (by
    refine iconstV X0.here hexec rfl 0 (hb hbytes d0) (by decide) ?_
    refine XS.istore X0.here hexec rfl (hb hbytes d1) rfl rfl ?_
    exact Steps.refl _)
  have loop : ∀ (r i : Nat), i + r = len → ∀ (z : Slot), (z = .unset ∨ ∃ w, z = .val w ∧ w.category = 1) → ∀ (Tl : State) (Bk : Cell), Stand p l e { frames := 0, locals := 0, cells := 0, slots := 0 } s m #[.ref b, .int (Int32.ofNat o), .ref d, .int (Int32.ofNat q), .int (Int32.ofNat len)] below meth c Tl ([] ++ copyLocs d q i) 0 0 → Put d Bk s₁ Tl → Laid B Bk q (q + i) (fun j => Value.int (lo8 (cv A (o + (j - q))))) →
      Steps p.tables e below (s₁.setTop (entryFrame m #[.ref b, .int (Int32.ofNat o), .ref d, .int (Int32.ofNat q), .int (Int32.ofNat len)] 7)) (Tl.setTop (mkF m 3 #[.val (.ref b), .val (.int (Int32.ofNat (o + i))), .val (.ref d), .val (.int (Int32.ofNat (q + i))), .val (.int (Int32.ofNat len)), .val (.int (Int32.ofNat i)), z] [])) → ∃ (T' : State) (B' : Cell) (z' : Slot), Stand p l e { frames := 0, locals := 0, cells := 0, slots := 0 } s m #[.ref b, .int (Int32.ofNat o), .ref d, .int (Int32.ofNat q), .int (Int32.ofNat len)] below meth c T' ([] ++ copyLocs d q len) 0 0 ∧ Put d B' s₁ T' ∧ Laid B B' q (q + len) (fun j => Value.int (lo8 (cv A (o + (j - q))))) ∧
      Steps p.tables e below (s₁.setTop (entryFrame m #[.ref b, .int (Int32.ofNat o), .ref d, .int (Int32.ofNat q), .int (Int32.ofNat len)] 7)) (T'.setTop (mkF m 3 #[.val (.ref b), .val (.int (Int32.ofNat (o + len))), .val (.ref d), .val (.int (Int32.ofNat (q + len))), .val (.int (Int32.ofNat len)), .val (.int (Int32.ofNat len)), z'] [])) := by
    intro r
    induction r with
    | zero =>
      intro i hi z hz Tl Bk Xl pl fl cl
      have hil : i = len := by omega
      rw [hil] at Xl fl cl
      exact ⟨Tl, Bk, z, Xl, pl, fl, cl⟩
    | succ r ih =>
      intro i hi z hz Tl Bk Xl pl fl cl
      have all := X0.warmed.alike.symm.trans Xl.warmed.alike
      have hAl := hA0.keep all (pl.other hne hA0.1)
      have hBk := hB0.like all pl.1 fl.1 fl.2.1 fl.2.2.1
      have hlt : q + i < Bk.slots.size := by rw [fl.2.2.1]; omega
      have c3 : Steps p.tables e below (s₁.setTop (entryFrame m #[.ref b, .int (Int32.ofNat o), .ref d, .int (Int32.ofNat q), .int (Int32.ofNat len)] 7)) (Tl.setTop (mkF m 12 #[.val (.ref b), .val (.int (Int32.ofNat (o + i))), .val (.ref d), .val (.int (Int32.ofNat (q + i))), .val (.int (Int32.ofNat len)), .val (.int (Int32.ofNat i)), z] [.int (Int32.ofNat (o + i)), .ref b])) := cl.trans (by
        refine XS.iload Xl.here hexec rfl (hb hbytes d3) rfl ?_
        refine XS.iload Xl.here hexec rfl (hb hbytes d5) rfl ?_
        refine XS.icmpNo Xl.here hexec rfl (hb hbytes d7) rfl (ii_ge_f (lt32 (by omega) (by omega))) ?_
        refine XS.aloadN Xl.here hexec rfl (hb hbytes d10) rfl rfl ?_
        refine XS.iloadN Xl.here hexec rfl (hb hbytes d11) rfl ?_
        exact Steps.refl _)
      have c4 : Steps p.tables e below (s₁.setTop (entryFrame m #[.ref b, .int (Int32.ofNat o), .ref d, .int (Int32.ofNat q), .int (Int32.ofNat len)] 7)) (Tl.setTop (mkF m 13 #[.val (.ref b), .val (.int (Int32.ofNat (o + i))), .val (.ref d), .val (.int (Int32.ofNat (q + i))), .val (.int (Int32.ofNat len)), .val (.int (Int32.ofNat i)), z] [.int (cv A (o + i))])) := c3.trans (by
        refine Xl.aget hexec hAl rfl (hA.get (i := o + i) (by omega)) rfl rfl (hb hbytes d12) ?_
        exact Steps.refl _)
      have c5 : Steps p.tables e below (s₁.setTop (entryFrame m #[.ref b, .int (Int32.ofNat o), .ref d, .int (Int32.ofNat q), .int (Int32.ofNat len)] 7)) (Tl.setTop (mkF m 15 #[.val (.ref b), .val (.int (Int32.ofNat (o + i))), .val (.ref d), .val (.int (Int32.ofNat (q + i))), .val (.int (Int32.ofNat len)), .val (.int (Int32.ofNat i)), .val (.int (cv A (o + i)))] [])) := c4.trans (by
        refine XS.istoreS Xl.here hexec rfl (hb hbytes d13) rfl rfl hz ?_
        exact Steps.refl _)
      have c6 : Steps p.tables e below (s₁.setTop (entryFrame m #[.ref b, .int (Int32.ofNat o), .ref d, .int (Int32.ofNat q), .int (Int32.ofNat len)] 7)) (Tl.setTop (mkF m 31 #[.val (.ref b), .val (.int (Int32.ofNat (o + i))), .val (.ref d), .val (.int (Int32.ofNat (q + i))), .val (.int (Int32.ofNat len)), .val (.int (Int32.ofNat i)), .val (.int (cv A (o + i)))] [.int (lo8 (cv A (o + i))), .int (Int32.ofNat (q + i)), .ref d])) := c5.trans (by
        refine XS.iload Xl.here hexec rfl (hb hbytes d15) rfl ?_
        refine sipushV Xl.here hexec rfl 255 (hb hbytes d17) (by decide) ?_
        refine XS.icmpYes Xl.here hexec rfl (pc0 := 20) rfl (hb hbytes d20) rfl (ii_le_t (hp i (by omega))) (by decide) rfl ?_
        refine XS.aloadN Xl.here hexec rfl (hb hbytes d26) rfl rfl ?_
        refine XS.iloadN Xl.here hexec rfl (hb hbytes d27) rfl ?_
        refine XS.iload Xl.here hexec rfl (hb hbytes d28) rfl ?_
        refine i2b Xl.here hexec rfl (hb hbytes d30) rfl ?_
        exact Steps.refl _)
      obtain ⟨T7, X7, p7, st7⟩ := Xl.aput hexec hBk rfl hlt rfl (fits_lo8 (cv A (o + i))) (g := (mkF m 31 #[.val (.ref b), .val (.int (Int32.ofNat (o + i))), .val (.ref d), .val (.int (Int32.ofNat (q + i))), .val (.int (Int32.ofNat len)), .val (.int (Int32.ofNat i)), .val (.int (cv A (o + i)))] [.int (lo8 (cv A (o + i))), .int (Int32.ofNat (q + i)), .ref d])) rfl (rest := []) rfl (hb hbytes d31)
      have c8 : Steps p.tables e below (s₁.setTop (entryFrame m #[.ref b, .int (Int32.ofNat o), .ref d, .int (Int32.ofNat q), .int (Int32.ofNat len)] 7)) (T7.setTop (mkF m 32 #[.val (.ref b), .val (.int (Int32.ofNat (o + i))), .val (.ref d), .val (.int (Int32.ofNat (q + i))), .val (.int (Int32.ofNat len)), .val (.int (Int32.ofNat i)), .val (.int (cv A (o + i)))] [])) := c6.trans (st7 _ (Steps.refl _))
      have c9 : Steps p.tables e below (s₁.setTop (entryFrame m #[.ref b, .int (Int32.ofNat o), .ref d, .int (Int32.ofNat q), .int (Int32.ofNat len)] 7)) (T7.setTop (mkF m 3 #[.val (.ref b), .val (.int (Int32.ofNat (o + i) + 1)), .val (.ref d), .val (.int (Int32.ofNat (q + i) + 1)), .val (.int (Int32.ofNat len)), .val (.int (Int32.ofNat i + 1)), .val (.int (cv A (o + i)))] [])) := c8.trans (by
        refine iincV X7.here hexec rfl 1 (hb hbytes d32) (by decide) rfl rfl ?_
        refine iincV X7.here hexec rfl 1 (hb hbytes d35) (by decide) rfl rfl ?_
        refine iincV X7.here hexec rfl 1 (hb hbytes d38) (by decide) rfl rfl ?_
        refine XS.goto X7.here hexec rfl (pc0 := 41) rfl (hb hbytes d41) (by decide) rfl ?_
        exact Steps.refl _)
      have c10 : Steps p.tables e below (s₁.setTop (entryFrame m #[.ref b, .int (Int32.ofNat o), .ref d, .int (Int32.ofNat q), .int (Int32.ofNat len)] 7)) (T7.setTop (mkF m 3 #[.val (.ref b), .val (.int (Int32.ofNat (o + (i + 1)))), .val (.ref d), .val (.int (Int32.ofNat (q + (i + 1)))), .val (.int (Int32.ofNat len)), .val (.int (Int32.ofNat (i + 1))), .val (.int (cv A (o + i)))] [])) := by
        have := c9
        rw [succ32, succ32, succ32] at this
        exact this
      exact ih (i + 1) (by omega) _ (Or.inr ⟨_, rfl, rfl⟩) T7 _ (by rw [copyLocs_step, ← List.append_assoc]; exact X7) (pl.trans p7) (fl.step (by omega) hlt (by simp)) c10
  obtain ⟨T9, B9, z9, X9, p9, f9, g9⟩ := loop len 0 (by omega) .unset (Or.inl rfl) s₁ B (by simpa [copyLocs] using X0) ⟨hB0.1, fun _ _ => rfl, rfl⟩ (Laid.zero _ _ _) c2
  have c11 : Steps p.tables e below (s₁.setTop (entryFrame m #[.ref b, .int (Int32.ofNat o), .ref d, .int (Int32.ofNat q), .int (Int32.ofNat len)] 7)) (T9.setTop (mkF m 46 #[.val (.ref b), .val (.int (Int32.ofNat (o + len))), .val (.ref d), .val (.int (Int32.ofNat (q + len))), .val (.int (Int32.ofNat len)), .val (.int (Int32.ofNat len)), z9] [.int (Int32.ofNat len)])) := g9.trans (by
    refine XS.iload X9.here hexec rfl (hb hbytes d3) rfl ?_
    refine XS.iload X9.here hexec rfl (hb hbytes d5) rfl ?_
    refine XS.icmpYes X9.here hexec rfl (pc0 := 7) rfl (hb hbytes d7) rfl (ii_ge_t (nlt32 (by omega) (Nat.le_refl _))) (by decide) rfl ?_
    refine XS.iload X9.here hexec rfl (hb hbytes d44) rfl ?_
    exact Steps.refl _)
  exact ⟨T9, some (.int (Int32.ofNat len)), _, _, _, X9, by simp, rfl, rfl, (fun h => by cases h), ⟨rfl, B9, p9.from hh0, f9⟩, fun fs hl => c11.trans (X9.ireturnOut hexec hret rfl (Or.inl rfl) (hb hbytes d46) hl)⟩
end Cmp5
namespace Cmp3
def yN : MethodName := ⟨"java/lang/StringUTF16", "compress", "([CII)[B"⟩
abbrev yB : ByteArray := jdk_52_method_16_code
theorem d0 : decode yB 0 = .ok (.iload_n 2, 1) := by decide +kernel
theorem d1 : decode yB 1 = .ok (.newarray .byte, 2) := by decide +kernel
theorem d3 : decode yB 3 = .ok (.astore_n 3, 1) := by decide +kernel
theorem d4 : decode yB 4 = .ok (.aload_n 0, 1) := by decide +kernel
theorem d5 : decode yB 5 = .ok (.iload_n 1, 1) := by decide +kernel
theorem d6 : decode yB 6 = .ok (.aload_n 3, 1) := by decide +kernel
theorem d7 : decode yB 7 = .ok (.iconst 0, 1) := by decide +kernel
theorem d8 : decode yB 8 = .ok (.iload_n 2, 1) := by decide +kernel
theorem d9 : decode yB 9 = .ok (.invokestatic 115, 3) := by decide +kernel
theorem d12 : decode yB 12 = .ok (.istore 4, 2) := by decide +kernel
theorem d14 : decode yB 14 = .ok (.iload 4, 2) := by decide +kernel
theorem d16 : decode yB 16 = .ok (.iload_n 2, 1) := by decide +kernel
theorem d17 : decode yB 17 = .ok (.if_icmp (.eq) 40, 3) := by decide +kernel
theorem d57 : decode yB 57 = .ok (.aload_n 3, 1) := by decide +kernel
theorem d58 : decode yB 58 = .ok (.areturn, 1) := by decide +kernel
def site : List Cond := [.arrayClass .byte, Cmp5.tab] ++ staticW U16 115 Cmp5.yN
def tab : Cond := tabOf yN yB 6 (some (.array .byte)) site
def P (b : Addr) (A : Cell) (o len : Nat) (args : Array Value) (s : State) : Prop := args = #[.ref b, .int (Int32.ofNat o), .int (Int32.ofNat len)] ∧ Ch b A s ∧ o + len ≤ A.slots.size ∧ len ≤ 536870912 ∧ ∀ i, i < len → ¬ 255 < cv A (o + i)
def E (b : Addr) (A : Cell) (o len : Nat) (r : Option Value) (s u : State) : Prop := NewArr .byte "[B" len (fun j => .int (lo8 (cv A (o + j)))) r s u ∧ u.heap.size = s.heap.size + 1
/-- no char of the range above 255: a new byte[] of their low bytes -/
theorem law (l : Launch) (b : Addr) (A : Cell) (o len : Nat) : Law l yN 3 3 1 18 yB 6 (some (.array .byte)) site (P b A o len) (E b A o len) [] 1 len := by
  refine Law.of_walk (plainFor_of_name (by decide +kernel)) (by decide +kernel) (by decide +kernel) (by decide) (fun _ _ h => by rw [h.1]; rfl) (fun _ U U' hal hh h => ⟨h.1, h.2.1.mv hal hh, h.2.2⟩) (fun r U U' V V' h1 hal h2 h => ⟨NewArr.mv r U U' V V' h1 hal h2 h.1, by rw [h1, h2]; exact h.2⟩) ?_
  intro p e s m args below meth c s₁ X0 hexec hbytes hml hret hlk hnm hown hh0 W hP
  obtain ⟨rfl, hA, l1, l2, hp⟩ := hP
  have a31 := hA.1.2.2.2
  have c1 : Steps p.tables e below (s₁.setTop (entryFrame m #[.ref b, .int (Int32.ofNat o), .int (Int32.ofNat len)] 6)) (s₁.setTop (mkF m 0 #[.val (.ref b), .val (.int (Int32.ofNat o)), .val (.int (Int32.ofNat len)), .unset, .unset, .unset] [])) := entry rfl
  have c2 : Steps p.tables e below (s₁.setTop (entryFrame m #[.ref b, .int (Int32.ofNat o), .int (Int32.ofNat len)] 6)) (s₁.setTop (mkF m 1 #[.val (.ref b), .val (.int (Int32.ofNat o)), .val (.int (Int32.ofNat len)), .unset, .unset, .unset] [.int (Int32.ofNat len)])) := c1.trans (by
    refine XS.iloadN X0.here hexec rfl (hb hbytes d0) rfl ?_
    exact Steps.refl _)
  obtain ⟨T3, B3, X3, ba3, bs3, bv3, bh3, bf3, st3⟩ := X0.anew hexec (atype := .byte) (wk W (.arrayClass .byte)) rfl (by show len * 1 ≤ _; omega) (by omega) (g := (mkF m 1 #[.val (.ref b), .val (.int (Int32.ofNat o)), .val (.int (Int32.ofNat len)), .unset, .unset, .unset] [.int (Int32.ofNat len)])) rfl (hb hbytes d1) (rest := []) rfl (Nat.le_refl _) (by show 0 + len ≤ len; omega)
  rw [hh0] at ba3 st3
  have kp3 : XT.Kept s T3 := (XT.Kept.of_eq hh0).push bh3
  have hA3 := hA.keep X3.warmed.alike (kp3 _ _ hA.1.1)
  have hne : b ≠ s.heap.size := hA.1.ne
  have c4 : Steps p.tables e below (s₁.setTop (entryFrame m #[.ref b, .int (Int32.ofNat o), .int (Int32.ofNat len)] 6)) (T3.setTop (mkF m 3 #[.val (.ref b), .val (.int (Int32.ofNat o)), .val (.int (Int32.ofNat len)), .unset, .unset, .unset] [.ref s.heap.size])) := c2.trans (st3 _ (Steps.refl _))
  have c5 : Steps p.tables e below (s₁.setTop (entryFrame m #[.ref b, .int (Int32.ofNat o), .int (Int32.ofNat len)] 6)) (T3.setTop (mkF m 9 #[.val (.ref b), .val (.int (Int32.ofNat o)), .val (.int (Int32.ofNat len)), .val (.ref s.heap.size), .unset, .unset] [.int (Int32.ofNat len), .int 0, .ref s.heap.size, .int (Int32.ofNat o), .ref b])) := c4.trans (by
    refine XS.astoreN X3.here hexec rfl (hb hbytes d3) rfl rfl rfl ?_
    refine XS.aloadN X3.here hexec rfl (hb hbytes d4) rfl rfl ?_
    refine XS.iloadN X3.here hexec rfl (hb hbytes d5) rfl ?_
    refine XS.aloadN X3.here hexec rfl (hb hbytes d6) rfl rfl ?_
    refine iconstV X3.here hexec rfl 0 (hb hbytes d7) (by decide) ?_
    refine XS.iloadN X3.here hexec rfl (hb hbytes d8) rfl ?_
    exact Steps.refl _)
  obtain ⟨v6, T6, X6, E6, g6⟩ := X3.callS hexec (Cmp5.law l b A s.heap.size B3 o 0 len) hown (wks W (staticW U16 115 Cmp5.yN)) (wk W Cmp5.tab) (W := 0) (Nat.le_of_ble_eq_true rfl) (Nat.le_of_ble_eq_true rfl) (Nat.le_refl _) (by show 0 + len + 0 ≤ len; omega) (g := (mkF m 9 #[.val (.ref b), .val (.int (Int32.ofNat o)), .val (.int (Int32.ofNat len)), .val (.ref s.heap.size), .unset, .unset] [.int (Int32.ofNat len), .int (Int32.ofNat 0), .ref s.heap.size, .int (Int32.ofNat o), .ref b])) rfl (by rw [hml]; rfl) c5 (argsL := [.ref b, .int (Int32.ofNat o), .ref s.heap.size, .int (Int32.ofNat 0), .int (Int32.ofNat len)]) (rest := []) rfl rfl (by show 2 * 0 + 0 ≤ _; decide) (hb hbytes d9) (⟨rfl, hA3, ba3, hne, l1, by rw [bs3]; simp, hp⟩)
  obtain ⟨rfl, B6, p6, f6⟩ := E6
  have c7 : Steps p.tables e below (s₁.setTop (entryFrame m #[.ref b, .int (Int32.ofNat o), .int (Int32.ofNat len)] 6)) (T6.setTop (mkF m 12 #[.val (.ref b), .val (.int (Int32.ofNat o)), .val (.int (Int32.ofNat len)), .val (.ref s.heap.size), .unset, .unset] [.int (Int32.ofNat len)])) := g6
  have c8 : Steps p.tables e below (s₁.setTop (entryFrame m #[.ref b, .int (Int32.ofNat o), .int (Int32.ofNat len)] 6)) (T6.setTop (mkF m 58 #[.val (.ref b), .val (.int (Int32.ofNat o)), .val (.int (Int32.ofNat len)), .val (.ref s.heap.size), .val (.int (Int32.ofNat len)), .unset] [.ref s.heap.size])) := c7.trans (by
    refine XS.istore X6.here hexec rfl (hb hbytes d12) rfl rfl ?_
    refine XS.iload X6.here hexec rfl (hb hbytes d14) rfl ?_
    refine XS.iloadN X6.here hexec rfl (hb hbytes d16) rfl ?_
    refine XS.icmpYes X6.here hexec rfl (pc0 := 17) rfl (hb hbytes d17) rfl (ii_eq_t rfl) (by decide) rfl ?_
    refine XS.aloadN X6.here hexec rfl (hb hbytes d57) rfl rfl ?_
    exact Steps.refl _)
  have X8 := X6.wide (L' := []) (cells' := 1) (slots' := len) (fun x hx hlt => by
    simp only [List.nil_append, copyLocs, List.mem_map, List.mem_range] at hx
    obtain ⟨i, -, rfl⟩ := hx
    exact absurd hlt (Nat.lt_irrefl _)) (Nat.le_refl _) (by omega)
  exact ⟨T6, some (.ref s.heap.size), _, _, _, X8, rfl, rfl, rfl, (fun h => by cases h), ⟨⟨rfl, B6, ba3.like (X3.warmed.alike.symm.trans X6.warmed.alike) p6.1 f6.1 f6.2.1 f6.2.2.1, f6.2.1.trans bv3, by rw [X6.warmed.alike.findClass, f6.1]; exact bf3, by rw [f6.2.2.1, bs3]; simp, fun j hj => by rw [f6.2.2.2 j, if_pos (by omega)]; rfl, kp3.put p6 (Nat.le_refl _)⟩, by rw [p6.2.2, bh3, hh0]; simp⟩, fun fs hl => c8.trans (X8.areturnOut hexec rfl hret rfl (hb hbytes d58) hl)⟩
end Cmp3
namespace CodL
def yN : MethodName := ⟨"java/lang/StringUTF16", "coderFromArrayLen", "([BI)B"⟩
abbrev yB : ByteArray := jdk_52_method_15_code
theorem d0 : decode yB 0 = .ok (.iload_n 1, 1) := by decide +kernel
theorem d1 : decode yB 1 = .ok (.aload_n 0, 1) := by decide +kernel
theorem d2 : decode yB 2 = .ok (.arraylength, 1) := by decide +kernel
theorem d3 : decode yB 3 = .ok (.isub, 1) := by decide +kernel
theorem d4 : decode yB 4 = .ok (.bipush 31, 2) := by decide +kernel
theorem d6 : decode yB 6 = .ok (.iushr, 1) := by decide +kernel
theorem d7 : decode yB 7 = .ok (.i2b, 1) := by decide +kernel
theorem d8 : decode yB 8 = .ok (.ireturn, 1) := by decide +kernel
def site : List Cond := []
def tab : Cond := tabOf yN yB 2 (some .byte) site
def P (d : Addr) (B : Cell) (args : Array Value) (s : State) : Prop := args = #[.ref d, .int (Int32.ofNat B.slots.size)] ∧ Arr .byte d B s
def E (r : Option Value) (s u : State) : Prop := XT.PureE (some (.int 0)) r s u
/-- an array as long as the number of chars: LATIN1 -/
theorem law (l : Launch) (d : Addr) (B : Cell) : Law l yN 2 2 0 0 yB 2 (some .byte) site (P d B) E [] 0 0 := by
  refine Law.of_walk (plainFor_of_name (by decide +kernel)) (by decide +kernel) (by decide +kernel) (by decide) (fun _ _ h => by rw [h.1]; rfl) (fun _ U U' hal hh h => ⟨h.1, h.2.mv hal hh⟩) (fun r U U' V V' h1 hal h2 h => XT.PureE.mv r U U' V V' h1 hal h2 h) ?_
  intro p e s m args below meth c s₁ X0 hexec hbytes hml hret hlk hnm hown hh0 W hP
  obtain ⟨rfl, hB⟩ := hP
  have hB0 := hB.mv X0.warmed.alike hh0
  have c1 : Steps p.tables e below (s₁.setTop (entryFrame m #[.ref d, .int (Int32.ofNat B.slots.size)] 2)) (s₁.setTop (mkF m 0 #[.val (.ref d), .val (.int (Int32.ofNat B.slots.size))] [])) := entry rfl
  have c2 : Steps p.tables e below (s₁.setTop (entryFrame m #[.ref d, .int (Int32.ofNat B.slots.size)] 2)) (s₁.setTop (mkF m 2 #[.val (.ref d), .val (.int (Int32.ofNat B.slots.size))] [.ref d, .int (Int32.ofNat B.slots.size)])) := c1.trans (by
    refine XS.iloadN X0.here hexec rfl (hb hbytes d0) rfl ?_
    refine XS.aloadN X0.here hexec rfl (hb hbytes d1) rfl rfl ?_
    exact Steps.refl _)
  have c3 : Steps p.tables e below (s₁.setTop (entryFrame m #[.ref d, .int (Int32.ofNat B.slots.size)] 2)) (s₁.setTop (mkF m 8 #[.val (.ref d), .val (.int (Int32.ofNat B.slots.size))] [.int (lo8 (ushr (Int32.ofNat B.slots.size - Int32.ofNat B.slots.size) 31))])) := c2.trans (by
    refine X0.alen hexec hB0 rfl rfl (hb hbytes d2) ?_
    refine XS.isub X0.here hexec rfl (hb hbytes d3) rfl ?_
    refine bipushV X0.here hexec rfl 31 (hb hbytes d4) (by decide) ?_
    refine iushr X0.here hexec rfl (hb hbytes d6) rfl ?_
    refine i2b X0.here hexec rfl (hb hbytes d7) rfl ?_
    exact Steps.refl _)
  have e0 : lo8 (ushr (Int32.ofNat B.slots.size - Int32.ofNat B.slots.size) 31) = 0 := by rw [Int32.sub_self]; decide
  rw [e0] at c3
  exact ⟨s₁, some (.int 0), _, _, _, X0, rfl, rfl, rfl, (fun h => by cases h), ⟨rfl, hh0⟩, fun fs hl => c3.trans (X0.ireturnOut hexec hret rfl (Or.inr (Or.inr (Or.inl rfl))) (hb hbytes d8) hl)⟩
end CodL
/-- the String at a is Latin-1 over a new byte[] (the heap's one new cell): the low bytes of the len chars of A from o on; every cell but a is kept -/
def Got (a : Addr) (D : Cell) (fV fC : Field) (A : Cell) (o len : Nat) (r : Option Value) (s u : State) : Prop := r = none ∧ ∃ D' V : Cell, Blank "java/lang/String" a D' u ∧ Same D D' [fV.slot, fC.slot] ∧ D'.slots[fV.slot]? = some (.ref s.heap.size) ∧ D'.slots[fC.slot]? = some (.int 0) ∧ Arr .byte s.heap.size V u ∧ V.vm = .none ∧ u.vm.findClass "[B" = some V.cls ∧ V.slots.size = len ∧ (∀ j, j < len → V.slots[j]? = some (.int (lo8 (cv A (o + j))))) ∧ (∀ (y : Addr) (c : Cell), y ≠ a → s.heap[y]? = some c → u.heap[y]? = some c) ∧ u.heap.size = s.heap.size + 1
theorem Got.mv {a : Addr} {D A : Cell} {fV fC : Field} {o len : Nat} : ∀ r (U U' V V' : State), U'.heap = U.heap → V.vm.Alike V'.vm → V'.heap = V.heap → Got a D fV fC A o len r U V → Got a D fV fC A o len r U' V' :=
  fun r U U' V V' h1 hal h2 ⟨e0, D', X, a1, a2, a3, a4, a5, a6, a7, a8, a9, a10, a11⟩ => ⟨e0, D', X, a1.mv hal h2, a2, by rw [h1]; exact a3, a4, by rw [h1]; exact a5.mv hal h2, a6, by rw [hal.findClass]; exact a7, a8, a9, by rw [h1, h2]; exact a10, by rw [h1, h2]; exact a11⟩
namespace New4
def yN : MethodName := ⟨"java/lang/String", "<init>", "([CIILjava/lang/Void;)V"⟩
abbrev yB : ByteArray := jdk_42_method_149_code
theorem d0 : decode yB 0 = .ok (.aload_n 0, 1) := by decide +kernel
theorem d1 : decode yB 1 = .ok (.invokespecial 1, 3) := by decide +kernel
theorem d4 : decode yB 4 = .ok (.iload_n 3, 1) := by decide +kernel
theorem d5 : decode yB 5 = .ok (.ifCond (.ne) 22, 3) := by decide +kernel
theorem d27 : decode yB 27 = .ok (.getstatic 38, 3) := by decide +kernel
theorem d30 : decode yB 30 = .ok (.ifCond (.eq) 28, 3) := by decide +kernel
theorem d33 : decode yB 33 = .ok (.aload_n 1, 1) := by decide +kernel
theorem d34 : decode yB 34 = .ok (.iload_n 2, 1) := by decide +kernel
theorem d35 : decode yB 35 = .ok (.iload_n 3, 1) := by decide +kernel
theorem d36 : decode yB 36 = .ok (.invokestatic 177, 3) := by decide +kernel
theorem d39 : decode yB 39 = .ok (.astore 5, 2) := by decide +kernel
theorem d41 : decode yB 41 = .ok (.aload_n 0, 1) := by decide +kernel
theorem d42 : decode yB 42 = .ok (.aload 5, 2) := by decide +kernel
theorem d44 : decode yB 44 = .ok (.iload_n 3, 1) := by decide +kernel
theorem d45 : decode yB 45 = .ok (.invokestatic 47, 3) := by decide +kernel
theorem d48 : decode yB 48 = .ok (.putfield 15, 3) := by decide +kernel
theorem d51 : decode yB 51 = .ok (.aload_n 0, 1) := by decide +kernel
theorem d52 : decode yB 52 = .ok (.aload 5, 2) := by decide +kernel
theorem d54 : decode yB 54 = .ok (.putfield 9, 3) := by decide +kernel
theorem d57 : decode yB 57 = .ok (.return_, 1) := by decide +kernel
def site : List Cond := [.fieldLink "java/lang/String" 38 "java/lang/String" "COMPACT_STRINGS" "Z", Cmp3.tab, CodL.tab, .laysFinal "java/lang/String" "java/lang/String" "value" "[B", .fieldLink "java/lang/String" 9 "java/lang/String" "value" "[B", .laysFinal "java/lang/String" "java/lang/String" "coder" "B", .fieldLink "java/lang/String" 15 "java/lang/String" "coder" "B"] ++ objW "java/lang/String" 1 ++ staticW "java/lang/String" 177 Cmp3.yN ++ staticW "java/lang/String" 47 CodL.yN
def tab : Cond := tabOf yN yB 6 none site
def P (a : Addr) (D : Cell) (fV fC : Field) (b : Addr) (A : Cell) (z : Int32) (o len : Nat) (args : Array Value) (s : State) : Prop := args = #[.ref a, .ref b, .int (Int32.ofNat o), .int (Int32.ofNat len), .null] ∧ Blank "java/lang/String" a D s ∧ Found "java/lang/String" "value" "[B" fV s ∧ Found "java/lang/String" "coder" "B" fC s ∧ Ch b A s ∧ StaticIs s "java/lang/String" "COMPACT_STRINGS" "Z" (.int z) ∧ ¬ z = 0 ∧ 0 < len ∧ o + len ≤ A.slots.size ∧ len ≤ 536870912 ∧ ∀ i, i < len → ¬ 255 < cv A (o + i)
def E (a : Addr) (D : Cell) (fV fC : Field) (A : Cell) (o len : Nat) (r : Option Value) (s u : State) : Prop := Got a D fV fC A o len r s u
/-- len > 0, no char of the range above 255: a Latin-1 String of their low bytes -/
theorem law (l : Launch) (a : Addr) (D : Cell) (fV fC : Field) (b : Addr) (A : Cell) (z : Int32) (o len : Nat) : Law l yN 5 4 2 35 yB 6 none site (P a D fV fC b A z o len) (E a D fV fC A o len) [⟨a, fC.slot⟩, ⟨a, fV.slot⟩] 1 len := by
  refine Law.of_walk (plainFor_of_name (by decide +kernel)) (by decide +kernel) (by decide +kernel) (by decide) (fun _ _ h => by rw [h.1]; rfl) (fun _ U U' hal hh h => ⟨h.1, h.2.1.mv hal hh, h.2.2.1.al hal, h.2.2.2.1.al hal, h.2.2.2.2.1.mv hal hh, h.2.2.2.2.2.1.there hal hh, h.2.2.2.2.2.2⟩) (fun r U U' V V' h1 hal h2 h => Got.mv r U U' V V' h1 hal h2 h) ?_
  intro p e s m args below meth c s₁ X0 hexec hbytes hml hret hlk hnm hown hh0 W hP
  obtain ⟨rfl, hB, f1, f2, hA, s1, hz, l0, l1, l2, hp⟩ := hP
  have a31 := hA.1.2.2.2
  have c1 : Steps p.tables e below (s₁.setTop (entryFrame m #[.ref a, .ref b, .int (Int32.ofNat o), .int (Int32.ofNat len), .null] 6)) (s₁.setTop (mkF m 0 #[.val (.ref a), .val (.ref b), .val (.int (Int32.ofNat o)), .val (.int (Int32.ofNat len)), .val .null, .unset] [])) := entry rfl
  have c2 : Steps p.tables e below (s₁.setTop (entryFrame m #[.ref a, .ref b, .int (Int32.ofNat o), .int (Int32.ofNat len), .null] 6)) (s₁.setTop (mkF m 1 #[.val (.ref a), .val (.ref b), .val (.int (Int32.ofNat o)), .val (.int (Int32.ofNat len)), .val .null, .unset] [.ref a])) := c1.trans (by
    refine XS.aloadN X0.here hexec rfl (hb hbytes d0) rfl rfl ?_
    exact Steps.refl _)
  obtain ⟨T3, X3, q3, st3⟩ := X0.oinit hexec hown (wks W (objW "java/lang/String" 1)) (g := (mkF m 1 #[.val (.ref a), .val (.ref b), .val (.int (Int32.ofNat o)), .val (.int (Int32.ofNat len)), .val .null, .unset] [.ref a])) rfl (by rw [hml]; rfl) (rest := []) rfl (hb hbytes d1) (W := 0) (by show 2 * 0 + 0 ≤ _; decide) (Nat.le_of_ble_eq_true rfl) (Nat.le_of_ble_eq_true rfl)
  have hh3 := q3.trans hh0
  have c4 : Steps p.tables e below (s₁.setTop (entryFrame m #[.ref a, .ref b, .int (Int32.ofNat o), .int (Int32.ofNat len), .null] 6)) (T3.setTop (mkF m 27 #[.val (.ref a), .val (.ref b), .val (.int (Int32.ofNat o)), .val (.int (Int32.ofNat len)), .val .null, .unset] [])) := (c2.trans (st3 _ (Steps.refl _))).trans (by
    refine XS.iloadN X3.here hexec rfl (hb hbytes d4) rfl ?_
    refine XS.ifYes X3.here hexec rfl (pc0 := 5) rfl (hb hbytes d5) rfl (i0_ne_t (nz32 (by omega) l0)) (by decide) rfl ?_
    exact Steps.refl _)
  obtain ⟨T5, X5, q5, st5⟩ := X3.sget hexec hown (wk W (.fieldLink "java/lang/String" 38 "java/lang/String" "COMPACT_STRINGS" "Z")) s1 (fun _ _ h => by rw [hh3]; exact h) (g := (mkF m 27 #[.val (.ref a), .val (.ref b), .val (.int (Int32.ofNat o)), .val (.int (Int32.ofNat len)), .val .null, .unset] [])) rfl (hb hbytes d27)
  have hh5 := q5.trans hh3
  have c6 : Steps p.tables e below (s₁.setTop (entryFrame m #[.ref a, .ref b, .int (Int32.ofNat o), .int (Int32.ofNat len), .null] 6)) (T5.setTop (mkF m 30 #[.val (.ref a), .val (.ref b), .val (.int (Int32.ofNat o)), .val (.int (Int32.ofNat len)), .val .null, .unset] [.int z])) := c4.trans (st5 _ (Steps.refl _))
  have c7 : Steps p.tables e below (s₁.setTop (entryFrame m #[.ref a, .ref b, .int (Int32.ofNat o), .int (Int32.ofNat len), .null] 6)) (T5.setTop (mkF m 36 #[.val (.ref a), .val (.ref b), .val (.int (Int32.ofNat o)), .val (.int (Int32.ofNat len)), .val .null, .unset] [.int (Int32.ofNat len), .int (Int32.ofNat o), .ref b])) := c6.trans (by
    refine XS.ifNo X5.here hexec rfl (hb hbytes d30) rfl (i0_eq_f hz) ?_
    refine XS.aloadN X5.here hexec rfl (hb hbytes d33) rfl rfl ?_
    refine XS.iloadN X5.here hexec rfl (hb hbytes d34) rfl ?_
    refine XS.iloadN X5.here hexec rfl (hb hbytes d35) rfl ?_
    exact Steps.refl _)
  obtain ⟨v8, T8, X8, E8, g8⟩ := X5.callS hexec (Cmp3.law l b A o len) hown (wks W (staticW "java/lang/String" 177 Cmp3.yN)) (wk W Cmp3.tab) (W := 0) (Nat.le_of_ble_eq_true rfl) (Nat.le_of_ble_eq_true rfl) (Nat.le_refl _) (by show 0 + len ≤ len; omega) (g := (mkF m 36 #[.val (.ref a), .val (.ref b), .val (.int (Int32.ofNat o)), .val (.int (Int32.ofNat len)), .val .null, .unset] [.int (Int32.ofNat len), .int (Int32.ofNat o), .ref b])) rfl (by rw [hml]; rfl) c7 (argsL := [.ref b, .int (Int32.ofNat o), .int (Int32.ofNat len)]) (rest := []) rfl rfl (by show 2 * 0 + 0 ≤ _; decide) (hb hbytes d36) (⟨rfl, hA.mv X5.warmed.alike hh5, l1, l2, hp⟩)
  obtain ⟨e8, z8⟩ := E8
  obtain ⟨rfl, N, n1, n2, n3, n4, n5, n6⟩ := NewArr.mv _ T5 s _ _ hh5.symm (Vm.Alike.refl _) rfl e8
  rw [hh5] at z8
  have hB1 := hB.keep X8.warmed.alike (n6 _ _ hB.1)
  have hne : s.heap.size ≠ a := (Nat.ne_of_lt (Array.getElem?_eq_some_iff.mp hB.1).1).symm
  have c9 : Steps p.tables e below (s₁.setTop (entryFrame m #[.ref a, .ref b, .int (Int32.ofNat o), .int (Int32.ofNat len), .null] 6)) (T8.setTop (mkF m 39 #[.val (.ref a), .val (.ref b), .val (.int (Int32.ofNat o)), .val (.int (Int32.ofNat len)), .val .null, .unset] [.ref s.heap.size])) := g8
  have c10 : Steps p.tables e below (s₁.setTop (entryFrame m #[.ref a, .ref b, .int (Int32.ofNat o), .int (Int32.ofNat len), .null] 6)) (T8.setTop (mkF m 45 #[.val (.ref a), .val (.ref b), .val (.int (Int32.ofNat o)), .val (.int (Int32.ofNat len)), .val .null, .val (.ref s.heap.size)] [.int (Int32.ofNat N.slots.size), .ref s.heap.size, .ref a])) := by
    have hc : Steps p.tables e below (s₁.setTop (entryFrame m #[.ref a, .ref b, .int (Int32.ofNat o), .int (Int32.ofNat len), .null] 6)) (T8.setTop (mkF m 45 #[.val (.ref a), .val (.ref b), .val (.int (Int32.ofNat o)), .val (.int (Int32.ofNat len)), .val .null, .val (.ref s.heap.size)] [.int (Int32.ofNat len), .ref s.heap.size, .ref a])) := c9.trans (by
      refine XS.astore X8.here hexec rfl (hb hbytes d39) rfl rfl rfl ?_
      refine XS.aloadN X8.here hexec rfl (hb hbytes d41) rfl rfl ?_
      refine XS.aload X8.here hexec rfl (hb hbytes d42) rfl rfl ?_
      refine XS.iloadN X8.here hexec rfl (hb hbytes d44) rfl ?_
      exact Steps.refl _)
    rw [n4]; exact hc
  obtain ⟨v11, T11, X11, E11, g11⟩ := X8.callS hexec (CodL.law l s.heap.size N) hown (wks W (staticW "java/lang/String" 47 CodL.yN)) (wk W CodL.tab) (W := 1) (Nat.le_of_ble_eq_true rfl) (Nat.le_of_ble_eq_true rfl) (Nat.le_refl _) (by show 0 + len + 0 ≤ len; omega) (g := (mkF m 45 #[.val (.ref a), .val (.ref b), .val (.int (Int32.ofNat o)), .val (.int (Int32.ofNat len)), .val .null, .val (.ref s.heap.size)] [.int (Int32.ofNat N.slots.size), .ref s.heap.size, .ref a])) rfl (by rw [hml]; rfl) c10 (argsL := [.ref s.heap.size, .int (Int32.ofNat N.slots.size)]) (rest := [.ref a]) rfl rfl (by show 2 * 0 + (1 + 0) ≤ _; decide) (hb hbytes d45) (⟨rfl, n1⟩)
  obtain ⟨rfl, q11⟩ := E11
  have hB11 := hB1.mv (X8.warmed.alike.symm.trans X11.warmed.alike) q11
  have c12 : Steps p.tables e below (s₁.setTop (entryFrame m #[.ref a, .ref b, .int (Int32.ofNat o), .int (Int32.ofNat len), .null] 6)) (T11.setTop (mkF m 48 #[.val (.ref a), .val (.ref b), .val (.int (Int32.ofNat o)), .val (.int (Int32.ofNat len)), .val .null, .val (.ref s.heap.size)] [.int 0, .ref a])) := g11
  obtain ⟨T13, X13, p13, bl13, sl13, st13⟩ := X11.finit hexec hown (wk W (.fieldLink "java/lang/String" 15 "java/lang/String" "coder" "B")) (Or.inr ⟨_, (wk W (.laysFinal "java/lang/String" "java/lang/String" "coder" "B"))⟩) (Or.inl ⟨rfl, hnm⟩) f2 (Or.inl rfl) hB11 (t := .byte) (by decide +kernel) rfl (g := (mkF m 48 #[.val (.ref a), .val (.ref b), .val (.int (Int32.ofNat o)), .val (.int (Int32.ofNat len)), .val .null, .val (.ref s.heap.size)] [.int 0, .ref a])) rfl (rest := []) rfl (hb hbytes d48)
  have c14 : Steps p.tables e below (s₁.setTop (entryFrame m #[.ref a, .ref b, .int (Int32.ofNat o), .int (Int32.ofNat len), .null] 6)) (T13.setTop (mkF m 54 #[.val (.ref a), .val (.ref b), .val (.int (Int32.ofNat o)), .val (.int (Int32.ofNat len)), .val .null, .val (.ref s.heap.size)] [.ref s.heap.size, .ref a])) := (c12.trans (st13 _ (Steps.refl _))).trans (by
    refine XS.aloadN X13.here hexec rfl (hb hbytes d51) rfl rfl ?_
    refine XS.aload X13.here hexec rfl (hb hbytes d52) rfl rfl ?_
    exact Steps.refl _)
  obtain ⟨T15, X15, p15, bl15, sl15, st15⟩ := X13.finit hexec hown (wk W (.fieldLink "java/lang/String" 9 "java/lang/String" "value" "[B")) (Or.inr ⟨_, (wk W (.laysFinal "java/lang/String" "java/lang/String" "value" "[B"))⟩) (Or.inl ⟨rfl, hnm⟩) f1 (Or.inl rfl) bl13 (t := (.array .byte)) (by decide +kernel) rfl (g := (mkF m 54 #[.val (.ref a), .val (.ref b), .val (.int (Int32.ofNat o)), .val (.int (Int32.ofNat len)), .val .null, .val (.ref s.heap.size)] [.ref s.heap.size, .ref a])) rfl (rest := []) rfl (hb hbytes d54)
  have c16 : Steps p.tables e below (s₁.setTop (entryFrame m #[.ref a, .ref b, .int (Int32.ofNat o), .int (Int32.ofNat len), .null] 6)) (T15.setTop (mkF m 57 #[.val (.ref a), .val (.ref b), .val (.int (Int32.ofNat o)), .val (.int (Int32.ofNat len)), .val .null, .val (.ref s.heap.size)] [])) := c14.trans (st15 _ (Steps.refl _))
  have ap := apart (Or.inr ⟨_, (wk W (.laysFinal "java/lang/String" "java/lang/String" "value" "[B"))⟩) (Or.inr ⟨_, (wk W (.laysFinal "java/lang/String" "java/lang/String" "coder" "B"))⟩) f1 f2 (t₁ := .array .byte) (t₂ := .byte) (by decide +kernel) (by decide +kernel) (by decide)
  have al := X8.warmed.alike.symm.trans X15.warmed.alike
  have n7 : T11.heap[s.heap.size]? = some N := by rw [q11]; exact n1.1
  exact ⟨T15, none, _, _, _, X15, by simp, rfl, by omega, (fun _ => rfl), ⟨rfl, _, N, bl15, ((Same.refl D _).set _ (by simp)).set _ (by simp), sl15, (Cell.slots_setSlot_ne _ ap).trans sl13, n1.keep al (p15.other hne (p13.other hne n7)), n2, by rw [al.findClass]; exact n3, n4, n5, fun y c h1 h2 => p15.other h1 (p13.other h1 (by rw [q11]; exact n6 y c h2)), by rw [p15.2.2, p13.2.2, q11]; exact z8⟩, fun fs hl => c16.trans (X15.returnOut hexec hret (hb hbytes d57) hl)⟩
end New4
namespace New1
def yN : MethodName := ⟨"java/lang/String", "<init>", "([C)V"⟩
abbrev yB : ByteArray := jdk_42_method_3_code
theorem d0 : decode yB 0 = .ok (.aload_n 0, 1) := by decide +kernel
theorem d1 : decode yB 1 = .ok (.aload_n 1, 1) := by decide +kernel
theorem d2 : decode yB 2 = .ok (.iconst 0, 1) := by decide +kernel
theorem d3 : decode yB 3 = .ok (.aload_n 1, 1) := by decide +kernel
theorem d4 : decode yB 4 = .ok (.arraylength, 1) := by decide +kernel
theorem d5 : decode yB 5 = .ok (.aconst_null, 1) := by decide +kernel
theorem d6 : decode yB 6 = .ok (.invokespecial 27, 3) := by decide +kernel
theorem d9 : decode yB 9 = .ok (.return_, 1) := by decide +kernel
def site : List Cond := [New4.tab] ++ initW "java/lang/String" 27 New4.yN
def tab : Cond := tabOf yN yB 2 none site
def P (a : Addr) (D : Cell) (fV fC : Field) (b : Addr) (A : Cell) (z : Int32) (args : Array Value) (s : State) : Prop := args = #[.ref a, .ref b] ∧ Blank "java/lang/String" a D s ∧ Found "java/lang/String" "value" "[B" fV s ∧ Found "java/lang/String" "coder" "B" fC s ∧ Ch b A s ∧ StaticIs s "java/lang/String" "COMPACT_STRINGS" "Z" (.int z) ∧ ¬ z = 0 ∧ 0 < A.slots.size ∧ A.slots.size ≤ 536870912 ∧ ∀ i, i < A.slots.size → ¬ 255 < cv A i
def E (a : Addr) (D : Cell) (fV fC : Field) (A : Cell) (r : Option Value) (s u : State) : Prop := Got a D fV fC A 0 A.slots.size r s u
/-- new String(chars), not empty, no char above 255: a Latin-1 String of their low bytes -/
theorem law (l : Launch) (a : Addr) (D : Cell) (fV fC : Field) (b : Addr) (A : Cell) (z : Int32) : Law l yN 2 1 3 52 yB 2 none site (P a D fV fC b A z) (E a D fV fC A) [⟨a, fC.slot⟩, ⟨a, fV.slot⟩] 1 A.slots.size := by
  refine Law.of_walk (plainFor_of_name (by decide +kernel)) (by decide +kernel) (by decide +kernel) (by decide) (fun _ _ h => by rw [h.1]; rfl) (fun _ U U' hal hh h => ⟨h.1, h.2.1.mv hal hh, h.2.2.1.al hal, h.2.2.2.1.al hal, h.2.2.2.2.1.mv hal hh, h.2.2.2.2.2.1.there hal hh, h.2.2.2.2.2.2⟩) (fun r U U' V V' h1 hal h2 h => Got.mv r U U' V V' h1 hal h2 h) ?_
  intro p e s m args below meth c s₁ X0 hexec hbytes hml hret hlk hnm hown hh0 W hP
  obtain ⟨rfl, hB, f1, f2, hA, s1, hz, l0, l2, hp⟩ := hP
  have c1 : Steps p.tables e below (s₁.setTop (entryFrame m #[.ref a, .ref b] 2)) (s₁.setTop (mkF m 0 #[.val (.ref a), .val (.ref b)] [])) := entry rfl
  have c2 : Steps p.tables e below (s₁.setTop (entryFrame m #[.ref a, .ref b] 2)) (s₁.setTop (mkF m 6 #[.val (.ref a), .val (.ref b)] [.null, .int (Int32.ofNat A.slots.size), .int 0, .ref b, .ref a])) := c1.trans (by
    refine XS.aloadN X0.here hexec rfl (hb hbytes d0) rfl rfl ?_
    refine XS.aloadN X0.here hexec rfl (hb hbytes d1) rfl rfl ?_
    refine iconstV X0.here hexec rfl 0 (hb hbytes d2) (by decide) ?_
    refine XS.aloadN X0.here hexec rfl (hb hbytes d3) rfl rfl ?_
    refine X0.alen hexec (hA.1.mv X0.warmed.alike hh0) rfl rfl (hb hbytes d4) ?_
    refine XS.aconstNull X0.here hexec rfl (hb hbytes d5) ?_
    exact Steps.refl _)
  obtain ⟨v3, T3, X3, E3, g3⟩ := X0.callN hexec (New4.law l a D fV fC b A z 0 A.slots.size) rfl hown (wks W (initW "java/lang/String" 27 New4.yN)) (W New4.tab (by simp only [site, List.mem_cons, List.mem_append, true_or, or_true])) (W := 0) (Nat.le_of_ble_eq_true rfl) (Nat.le_of_ble_eq_true rfl) (Nat.le_refl _) (by show 0 + A.slots.size ≤ A.slots.size; omega) (g := (mkF m 6 #[.val (.ref a), .val (.ref b)] [.null, .int (Int32.ofNat A.slots.size), .int (Int32.ofNat 0), .ref b, .ref a])) rfl (by rw [hml]; rfl) c2 (argsL := [.ref b, .int (Int32.ofNat 0), .int (Int32.ofNat A.slots.size), .null]) (rest := []) rfl rfl (by show 2 * 0 + 0 ≤ _; decide) (hb hbytes d6) (⟨rfl, hB.mv X0.warmed.alike hh0, f1.al X0.warmed.alike, f2.al X0.warmed.alike, hA.mv X0.warmed.alike hh0, s1.there X0.warmed.alike hh0, hz, l0, by omega, l2, fun i hi => by rw [Nat.zero_add]; exact hp i hi⟩)
  have e0 := Got.mv _ s₁ s _ _ hh0.symm (Vm.Alike.refl _) rfl E3
  obtain rfl := e0.1
  have c4 : Steps p.tables e below (s₁.setTop (entryFrame m #[.ref a, .ref b] 2)) (T3.setTop (mkF m 9 #[.val (.ref a), .val (.ref b)] [])) := g3
  exact ⟨T3, none, _, _, _, X3, by simp, rfl, by omega, (fun _ => rfl), e0, fun fs hl => c4.trans (X3.returnOut hexec hret (hb hbytes d9) hl)⟩
theorem pays {l : Launch} {R : Room} {p : Program} {e : Env} {below : List Frame} {s : State} {sargs : Array Value} {len W : Nat} (a : Addr) (D : Cell) (fV fC : Field) (b : Addr) (A : Cell) (z : Int32) (htab : tab.before sargs s = true) (hfr : 4 ≤ R.frames) (hlo : W + 65 ≤ R.locals) :
    Back l R p e below s sargs yN len W (fun A₁ a₁ => A₁.cells + 1 ≤ R.cells ∧ A₁.slots + A.slots.size ≤ R.slots ∧ P a D fV fC b A z a₁ A₁.U) (fun A₁ _ v₁ B₁ => E a D fV fC A v₁ A₁.U B₁.U ∧ B₁.locs = A₁.locs ++ [⟨a, fC.slot⟩, ⟨a, fV.slot⟩] ∧ B₁.cells = A₁.cells + 1 ∧ B₁.slots = A₁.slots + A.slots.size) :=
  (law l a D fV fC b A z).pays htab hfr (by omega)
end New1
/-- the byte, read back as charAt reads it, is the char -/
theorem lo8_mask {x : Int32} (h0 : ¬ x < 0) (h1 : ¬ 255 < x) : lo8 x &&& 255 = x := by
  have t : ∀ k : Fin 256, lo8 (Int32.ofNat k.val) &&& 255 = Int32.ofNat k.val := by decide +kernel
  rw [Int32.lt_iff_toInt_lt] at h0 h1
  have e0 : (0 : Int32).toInt = 0 := rfl
  have e1 : (255 : Int32).toInt = 255 := rfl
  obtain ⟨k, hk⟩ : ∃ k : Nat, x.toInt = k := ⟨x.toInt.toNat, by omega⟩
  have hx : x = Int32.ofNat k := Int32.toInt_inj.mp (by rw [hk, Int32.toInt_ofNat_small (by omega)])
  rw [hx]
  exact t ⟨k, by omega⟩
end StrChars
namespace StrChars.Road
open Jvm Sem ClassFile Op Lib Jvm.Stand Jvm.Free Jvm.Free.XT
open Jvm.Lib.Cold (StaticIs)
abbrev ST : String := "java/lang/String"
/-- every table word that New1's law asks, flat -/
abbrev words : List Jvm.Cond := [.code New1.yN New1.yB 2 none, .initialized ST, .methodLink ST 27 New4.yN, .instanceMethod New4.yN,
  .code New4.yN New4.yB 6 none, .fieldLink ST 38 ST "COMPACT_STRINGS" "Z", .laysFinal ST ST "value" "[B", .fieldLink ST 9 ST "value" "[B", .laysFinal ST ST "coder" "B", .fieldLink ST 15 ST "coder" "B",
  .methodLink ST 1 Lib.objectInit, .instanceMethod Lib.objectInit, .code Lib.objectInit ⟨#[0xb1]⟩ 1 none, .methodLink ST 177 Cmp3.yN, .static Cmp3.yN, .methodLink ST 47 CodL.yN, .static CodL.yN,
  .code Cmp3.yN Cmp3.yB 6 (some (.array .byte)), .initialized U16, .arrayClass .byte, .methodLink U16 115 Cmp5.yN, .static Cmp5.yN, .code Cmp5.yN Cmp5.yB 7 (some .int), .code CodL.yN CodL.yB 2 (some .byte)]
theorem tab_of {a : Array Value} {s : State} (h : ∀ w ∈ words, w.before a s = true) : New1.tab.before a s = true := by
  have h5 : Cmp5.tab.before a s = true := unparts (wk h (.code Cmp5.yN Cmp5.yB 7 (some .int))) (wks h (.initialized Cmp5.yN.cls :: Cmp5.site))
  have hc : CodL.tab.before a s = true := unparts (wk h (.code CodL.yN CodL.yB 2 (some .byte))) (wks h (.initialized CodL.yN.cls :: CodL.site))
  have q5 : ∀ w ∈ Cmp5.tab :: words, w.before a s = true := fun w hw => (List.mem_cons.mp hw).elim (fun e => e ▸ h5) (h w)
  have h3 : Cmp3.tab.before a s = true := unparts (wk q5 (.code Cmp3.yN Cmp3.yB 6 (some (.array .byte)))) (wks q5 (.initialized Cmp3.yN.cls :: Cmp3.site))
  have q3 : ∀ w ∈ Cmp3.tab :: CodL.tab :: words, w.before a s = true := fun w hw => (List.mem_cons.mp hw).elim (fun e => e ▸ h3) fun hw => (List.mem_cons.mp hw).elim (fun e => e ▸ hc) (h w)
  have h4 : New4.tab.before a s = true := unparts (wk q3 (.code New4.yN New4.yB 6 none)) (wks q3 (.initialized New4.yN.cls :: New4.site))
  have q4 : ∀ w ∈ New4.tab :: words, w.before a s = true := fun w hw => (List.mem_cons.mp hw).elim (fun e => e ▸ h4) (h w)
  exact unparts (wk q4 (.code New1.yN New1.yB 2 none)) (wks q4 (.initialized New1.yN.cls :: New1.site))
/-- the words ride from the start Z to the walk's own state -/
theorem moved {Z s : State} {a0 args : Array Value} (hZ : Z.Warmed39 s.vm) (hw : ∀ d ∈ words, d.before a0 Z = true) : ∀ d ∈ words, d.before args s = true := fun d hd => by
  have q := hw d hd
  have t : ∀ d ∈ words, d = .arrayClass .byte ∨ (d.onTables && d.keepsFace) = true := by decide +kernel
  rcases t d hd with rfl | t
  · exact RoadKit.mvA hZ q
  · exact RoadKit.mv hZ q t
/-- WHAT COMES BACK, over the tables of the start Z: h the heap at the call, h' behind it -/
def Q (Z : State) (x : Addr) (A : Cell) (h : Heap) (v : Option Value) (h' : Heap) (L : List Loc) : Prop := v = none ∧ (∀ y ∈ L, y.base = x) ∧ RoadKit.Keep h h' [x] ∧ h'.size = h.size + 1 ∧ RoadKit.Exa Z h' x ST ∧ RoadKit.Fld Z h' x ST "value" "[B" (.ref h.size) ∧ RoadKit.Fld Z h' x ST "coder" "B" (.int 0) ∧
  (∃ V : Cell, RoadKit.Arr Z h' h.size V .byte ∧ V.vm = .none ∧ Z.vm.findClass "[B" = some V.cls ∧ V.slots.size = A.slots.size ∧ ∀ j, j < A.slots.size → V.slots[j]? = some (.int (lo8 (cv A j)))) ∧
  ∀ (O n d : String) (w : Value), RoadKit.Fld Z h x O n d w → RoadKit.slotOf Z O n d ≠ RoadKit.slotOf Z ST "value" "[B" → RoadKit.slotOf Z O n d ≠ RoadKit.slotOf Z ST "coder" "B" → RoadKit.Fld Z h' x O n d w
/-- **new String(chars) AT A CALL, IN THE ROAD'S FORM**: for specialBack behind newO: x the fresh String, b the char[] with the cell A -/
theorem back {p : Program} {l : Launch} {e : Env} {R : Room} {s : State} {args : Array Value} {below : List Frame} {len W : Nat} {Z : State} {a0 : Array Value} {h : Heap} (hZ : Z.Warmed39 s.vm) (hw : ∀ d ∈ words, d.before a0 Z = true) {kI : Nat} (wi : (Jvm.Cond.instantiable ST kI).before a0 Z = true)
    {x b : Addr} {A : Cell} {z : Int32} {v0 c0 : Value} (E : RoadKit.Exa Z h x ST) (V : RoadKit.Fld Z h x ST "value" "[B" v0) (C : RoadKit.Fld Z h x ST "coder" "B" c0) (K : RoadKit.Arr Z h b A .char) (hty : Typed .char A) (S : RoadKit.Sta Z h ST "COMPACT_STRINGS" "Z" (.int z)) (hz : ¬ z = 0)
    (l0 : 0 < A.slots.size) (l2 : A.slots.size ≤ 536870912) (hp : ∀ i, i < A.slots.size → ¬ 255 < cv A i) (hfr : 4 ≤ R.frames) (hlo : W + 65 ≤ R.locals) :
    Back l R p e below s args New1.yN len W (fun P a => a = #[.ref x, .ref b] ∧ P.U.heap = h ∧ P.cells + 1 ≤ R.cells ∧ P.slots + A.slots.size ≤ R.slots)
      (fun P _ v B => ∃ L, Q Z x A h v B.U.heap L ∧ B.locs = P.locs ++ L ∧ B.cells = P.cells + 1 ∧ B.slots = P.slots + A.slots.size) := by
  intro m meth c P g ig mk a X hg hsize hdg hW hn hp'
  obtain ⟨rfl, rfl, r1, r2⟩ := hp'
  have al : Z.vm.Alike P.U.vm := hZ.alike.trans X.warmed.alike
  obtain ⟨D, cfV, kV, iV, fV, hD, gV, stV, knV, obV, asV, slV⟩ := id V
  obtain ⟨D', cfC, kC, iC, fC, hD', gC, stC, -, -, asC, slC⟩ := id C
  cases hD.symm.trans hD'
  obtain ⟨D2, kD, e1, e2, e3, e4, e5⟩ := id E
  cases hD.symm.trans e1
  obtain ⟨c2, k2, i1, i2, i3, -⟩ := Cond.instantiable_spec wi
  cases e2.symm.trans i1
  cases e3.symm.trans i2
  obtain ⟨kU, u1, u2⟩ := al.2.2 _ _ e3
  have hB : Blank ST x D P.U := ⟨hD, ⟨knV, fun q hq => by rw [hq] at obV; cases obV⟩, by rw [al.findClass]; exact e2, kU, u1, by rw [u2]; exact i3, by rw [u2]; exact e5 i3⟩
  have F1 : Found ST "value" "[B" fV P.U := ⟨SBG.found_only al ⟨cfV, kV, iV, gV⟩, stV⟩
  have F2 : Found ST "coder" "B" fC P.U := ⟨SBG.found_only al ⟨cfC, kC, iC, gC⟩, stC⟩
  have hA : Ch b A P.U := ⟨⟨K.1, State.isArrayOf_alike al K.2.1, K.2.2, by omega⟩, hty⟩
  have hS : StaticIs P.U ST "COMPACT_STRINGS" "Z" (.int z) := by
    obtain ⟨cfS, iS, kS, fS, st, cS, t1, t2, t3, t4, t5, t6, t7⟩ := S
    exact StaticIs.there (s := { Z with heap := P.U.heap }) ⟨cfS, iS, kS, fS, st, cS, t1, t2, t3, t4, t5, (fun q => by rw [q] at t6; cases t6), t7⟩ al rfl
  obtain ⟨v, B, X', ⟨⟨hv, E', V', q1, q2, q3, q4, q5, q6, q7, q8, q9, q10, q11⟩, hl, hc, hs⟩, st⟩ := New1.pays x D fV fC b A z (tab_of (moved hZ hw)) hfr hlo m meth c P g ig mk _ X hg hsize hdg hW hn ⟨r1, r2, rfl, hB, F1, F2, hA, hS, hz, l0, l2, hp⟩
  have al' : Z.vm.Alike B.U.vm := hZ.alike.trans X'.warmed.alike
  have hsz : E'.slots.size = D.slots.size := by
    obtain ⟨-, -, -, kB, w1, w2, w3⟩ := q1
    obtain ⟨kB', y1, y2⟩ := al'.2.2 _ _ e3
    rw [q2.2.1] at w1
    cases w1.symm.trans y1
    rw [w3, e5 i3, y2]
  refine ⟨v, B, X', ⟨_, ⟨hv, ?_, ⟨by omega, fun y cy hy hn' => q10 y cy (by simpa using hn') hy, fun y cy hy => ?_⟩, q11, ⟨E', _, q1.1, by rw [q2.2.1]; exact e2, by rw [q2.2.1]; exact e3, by rw [q2.1]; exact obV, fun _ => by rw [hsz]; exact e5 i3⟩,
    ⟨E', cfV, kV, iV, fV, q1.1, gV, stV, by rw [q2.1]; exact knV, by rw [q2.1]; exact obV, by rw [q2.2.1]; exact asV, q3⟩, ⟨E', cfC, kC, iC, fC, q1.1, gC, stC, by rw [q2.1]; exact knV, by rw [q2.1]; exact obV, by rw [q2.2.1]; exact asC, q4⟩,
    ⟨V', ⟨q5.1, State.isArrayOf_alike al'.symm q5.2.1, q5.2.2.1⟩, q6, by rw [← al'.findClass]; exact q7, q8, fun j hj => by have := q9 j hj; rwa [Nat.zero_add] at this⟩, fun O n d w F n1 n2 => ?_⟩, hl, hc, hs⟩, st⟩
  · intro y hy
    simp only [List.mem_cons, List.not_mem_nil, or_false] at hy
    rcases hy with rfl | rfl <;> rfl
  · by_cases q : y = x
    · subst q
      cases hD.symm.trans hy
      exact ⟨E', q1.1, q2.2.1, q2.1, hsz⟩
    · exact ⟨cy, q10 y cy q hy, rfl, rfl, rfl⟩
  · obtain ⟨D3, cf, k, i, f, g1, g2, g3, g4, g5, g6, g7⟩ := F
    cases hD.symm.trans g1
    simp only [RoadKit.slotOf, g2, gV, gC, Option.map_some, Option.getD_some] at n1 n2
    exact ⟨E', cf, k, i, f, q1.1, g2, g3, by rw [q2.1]; exact g4, by rw [q2.1]; exact g5, by rw [q2.2.1]; exact g6, by rw [q2.2.2 f.slot (by simp [n1, n2])]; exact g7⟩
end StrChars.Road
namespace StrChars.Road
open Jvm Sem ClassFile Op Lib Jvm.Stand Jvm.Free Jvm.Free.XT
/-- WHAT COMES BACK, the byte[] as a list of values -/
def QA (Z : State) (x : Addr) (zn : Int32) (cs : List Int32) (h : Heap) (v : Option Value) (h' : Heap) (L : List Loc) : Prop := v = none ∧ (∀ y ∈ L, y.base = x) ∧ RoadKit.Keep h h' [x] ∧ h'.size = h.size + 1 ∧ RoadKit.Exa Z h' x ST ∧ RoadKit.Fld Z h' x ST "value" "[B" (.ref h.size) ∧ RoadKit.Fld Z h' x ST "coder" "B" (.int 0) ∧
  (∃ kb, Z.vm.findClass "[B" = some kb ∧ RoadKit.Arv Z h' h.size kb .byte zn (cs.map fun c => .int (lo8 c)) (.int 0)) ∧
  ∀ (O n d : String) (w : Value), RoadKit.Fld Z h x O n d w → RoadKit.slotOf Z O n d ≠ RoadKit.slotOf Z ST "value" "[B" → RoadKit.slotOf Z O n d ≠ RoadKit.slotOf Z ST "coder" "B" → RoadKit.Fld Z h' x O n d w
/-- **new String(chars) AT A CALL, THE ARRAYS AS LISTS**: the char[] at b holds cs, not empty, no char above 255 -/
theorem backArv {p : Program} {l : Launch} {e : Env} {R : Room} {s : State} {args : Array Value} {below : List Frame} {len W : Nat} {Z : State} {a0 : Array Value} {h : Heap} (hZ : Z.Warmed39 s.vm) (hw : ∀ d ∈ words, d.before a0 Z = true) {kI : Nat} (wi : (Jvm.Cond.instantiable ST kI).before a0 Z = true)
    {x b : Addr} {k : ClassId} {zn z : Int32} {cs : List Int32} {dv v0 c0 : Value} (E : RoadKit.Exa Z h x ST) (V : RoadKit.Fld Z h x ST "value" "[B" v0) (C : RoadKit.Fld Z h x ST "coder" "B" c0) (K : RoadKit.Arv Z h b k .char zn (cs.map Value.int) dv) (S : RoadKit.Sta Z h ST "COMPACT_STRINGS" "Z" (.int z)) (hz : ¬ z = 0)
    (hlen : zn.toNatClampNeg = cs.length) (h0 : 0 < cs.length) (hbig : cs.length ≤ 536870912) (hall : ∀ c ∈ cs, ¬ 255 < c) (hfr : 4 ≤ R.frames) (hlo : W + 65 ≤ R.locals) :
    Back l R p e below s args New1.yN len W (fun P a => a = #[.ref x, .ref b] ∧ P.U.heap = h ∧ P.cells + 1 ≤ R.cells ∧ P.slots + cs.length ≤ R.slots)
      (fun P _ v B => ∃ L, QA Z x zn cs h v B.U.heap L ∧ B.locs = P.locs ++ L ∧ B.cells = P.cells + 1 ∧ B.slots = P.slots + cs.length) := by
  obtain ⟨A, K1, K2, K3, K4, K5, K6⟩ := K
  have e : A.slots.size = cs.length := K3.trans hlen
  have hat : ∀ (i : Nat) (hi : i < cs.length), A.slots[i]? = some (.int cs[i]) := fun i hi => by rw [K5 i (by omega)]; simp [List.getD_eq_getElem?_getD, hi]
  have hcv : ∀ (i : Nat) (hi : i < cs.length), cv A i = cs[i] := fun i hi => by unfold cv; rw [hat i hi]
  have hty : Typed .char A := fun i v hv => by
    have hi : i < A.slots.size := (Array.getElem?_eq_some_iff.mp hv).1
    have q := K5 i hi
    rw [hv] at q
    rw [Option.some.inj q]
    exact K6 i hi
  refine Back.mono (back hZ hw wi E V C K1 hty S hz (by omega) (by omega) (fun i hi => by rw [hcv i (by omega)]; exact hall _ (List.getElem_mem _)) hfr hlo) (fun P a hp => ⟨hp.1, hp.2.1, hp.2.2.1, by rw [e]; exact hp.2.2.2⟩) (fun P a v B hp hq => ?_)
  obtain ⟨L, ⟨q1, q2, q3, q4, q5, q6, q7, ⟨V', v1, v2, v3, v4, v5⟩, q9⟩, hl, hc, hs⟩ := hq
  refine ⟨L, ⟨q1, q2, q3, q4, q5, q6, q7, ⟨V'.cls, v3, V', v1, rfl, by rw [v4, e, hlen], K4, fun i hi => ?_, fun i hi => ?_⟩, q9⟩, hl, hc, by rw [hs, e]⟩
  · have hi' : i < cs.length := by omega
    rw [v5 i (by omega), hcv i hi']; simp [List.getD_eq_getElem?_getD, hi']
  · have hi' : i < cs.length := by omega
    simp only [List.getD_eq_getElem?_getD, List.getElem?_map, List.getElem?_eq_getElem hi', Option.map_some, Option.getD_some]
    exact fits_lo8 _
end StrChars.Road
namespace StrChars.Road
open Jvm Sem ClassFile Op Lib Jvm.Stand Jvm.Free Jvm.Free.XT
/-- WHAT COMES BACK, in the writer's own shape -/
def QV (Z : State) (x : Addr) (N : Int32) (bs : List Int32) (h : Heap) (n0 : Nat) (v : Option Value) (h' : Heap) (L : List Loc) : Prop := v = none ∧ RoadKit.Fr n0 L ∧ RoadKit.Keep h h' [x] ∧ RoadKit.Exa Z h' x ST ∧ RoadKit.Fld Z h' x ST "coder" "B" (.int 0) ∧
  ∃ (t : Addr) (kb : ClassId), n0 ≤ t ∧ h.size ≤ t ∧ ¬ t = x ∧ RoadKit.Fld Z h' x ST "value" "[B" (.ref t) ∧ RoadKit.Arv Z h' t kb .byte N (bs.map Value.int) (.int 0)
/-- **new String(chars) AT A CALL, FOR THE WRITER**: a char[] of n known ints, each 0 to 255 -/
theorem backV {p : Program} {l : Launch} {e : Env} {R : Room} {s : State} {args : Array Value} {below : List Frame} {len W : Nat} {Z : State} {a0 : Array Value} {h : Heap} (hZ : Z.Warmed39 s.vm) (hw : ∀ d ∈ words, d.before a0 Z = true) {kI : Nat} (wi : (Jvm.Cond.instantiable ST kI).before a0 Z = true)
    {x b : Addr} {kC : ClassId} {cs bs : List Int32} {d v0 c0 : Value} {z N : Int32} {n n0 : Nat} (hx0 : n0 ≤ x) (hh0 : n0 ≤ h.size) (E : RoadKit.Exa Z h x ST) (V : RoadKit.Fld Z h x ST "value" "[B" v0) (C : RoadKit.Fld Z h x ST "coder" "B" c0) (K : RoadKit.Arv Z h b kC .char N (cs.map Value.int) d) (S : RoadKit.Sta Z h ST "COMPACT_STRINGS" "Z" (.int z)) (hz : ¬ z = 0)
    (hn : cs.length = n) (hN : N = Int32.ofNat n) (l0 : 0 < n) (l2 : n ≤ 4000) (hp : ∀ c ∈ cs, ¬ c < 0 ∧ ¬ (255 : Int32) < c) (hb : bs = cs.map (fun c => c.toInt8.toInt32)) (hfr : 4 ≤ R.frames) (hlo : W + 65 ≤ R.locals) :
    Back l R p e below s args (⟨"java/lang/String", "<init>", "([C)V"⟩ : MethodName) len W (fun P a => a = #[.ref x, .ref b] ∧ P.U.heap = h ∧ P.cells + 1 ≤ R.cells ∧ P.slots + n ≤ R.slots)
      (fun P _ v B => ∃ L, QV Z x N bs h n0 v B.U.heap L ∧ B.locs = P.locs ++ L ∧ B.cells = P.cells + 1 ∧ B.slots = P.slots + n) := by
  subst hn hN hb
  refine Back.mono (backArv hZ hw wi E V C K S hz (n32 (by omega)) l0 (by omega) (fun c hc => (hp c hc).2) hfr hlo) (fun P a hp => hp) (fun P a v B hp hq => ?_)
  obtain ⟨L, ⟨q1, q2, q3, q4, q5, q6, q7, ⟨kb, v1, v2⟩, q9⟩, hl, hc, hs⟩ := hq
  exact ⟨L, ⟨q1, fun y hy => by rw [q2 y hy]; exact hx0, q3, q5, q7, h.size, kb, hh0, Nat.le_refl _, Nat.ne_of_gt E.lt, q6, by rw [List.map_map]; exact v2⟩, hl, hc, hs⟩
end StrChars.Road
namespace StrChars
open Jvm Sem ClassFile Op Lib Jvm.Stand Jvm.Free.XT Jvm.Free.ALB Jvm.Free.JM Jvm.Free
open Jvm.Lib.Cold (StaticIs)
def hi8 (x : Int32) : Int32 := lo8 (x >>> ((8 : Int32) &&& 31))
/-- what StringUTF16.getChar makes of two bytes -/
def pairCh (u v : Int32) : Int32 := (((u &&& 255) <<< ((0 : Int32) &&& 31)) ||| ((v &&& 255) <<< ((8 : Int32) &&& 31))).toUInt32.toUInt16.toUInt32.toInt32
theorem shr0 (c : Int32) : c >>> ((0 : Int32) &&& 31) = c := by
  have e : ((0 : Int32) &&& 31) = 0 := by decide
  rw [e]
  apply Int32.toBitVec_inj.mp
  rw [Int32.toBitVec_shiftRight]
  have e1 : ((0 : Int32).toBitVec.smod 32) = 0#32 := by decide
  rw [e1, BitVec.sshiftRight_eq']
  exact BitVec.sshiftRight_zero
theorem lo8_and (x : Int32) : (lo8 x &&& 255).toBitVec.toNat = x.toBitVec.toNat % 256 := by
  have h : (lo8 x).toBitVec = (x.toBitVec.signExtend 8).signExtend 32 := by rw [lo8, Int8.toBitVec_toInt32, Int32.toBitVec_toInt8]
  rw [Int32.toBitVec_and, BitVec.toNat_and, h]
  have e : ((x.toBitVec.signExtend 8).signExtend 32).toNat % 256 = x.toBitVec.toNat % 256 := by
    rw [BitVec.toNat_signExtend]
    have hlt := x.toBitVec.isLt
    simp only [BitVec.toNat_setWidth, BitVec.toNat_signExtend]
    split <;> split <;> omega
  rw [← e]
  exact Nat.and_two_pow_sub_one_eq_mod _ 8
theorem pair_says {c : Int32} (h0 : ¬ c < 0) (h1 : ¬ 65535 < c) : pairCh (lo8 c) (hi8 c) = c := by
  rw [Int32.lt_iff_toInt_lt] at h0 h1
  have e0 : (0 : Int32).toInt = 0 := rfl
  have e1 : (65535 : Int32).toInt = 65535 := rfl
  have hc : c.toInt = c.toBitVec.toNat := by
    have := c.toBitVec.isLt
    have e : c.toInt = c.toBitVec.toInt := rfl
    rw [e] at h0 h1
    rw [e]
    rw [BitVec.toInt_eq_toNat_cond] at h0 h1 ⊢
    split at h0 <;> split <;> omega
  have hn : c.toBitVec.toNat < 65536 := by omega
  have a1 := lo8_and c
  have a2 : (hi8 c &&& 255).toBitVec.toNat = c.toBitVec.toNat / 256 := by
    rw [hi8, lo8_and]
    have e : ((8 : Int32) &&& 31) = 8 := by decide
    rw [e, Int32.toBitVec_shiftRight]
    have e2 : ((8 : Int32).toBitVec.smod 32) = 8#32 := by decide
    rw [e2, BitVec.sshiftRight_eq', BitVec.toNat_sshiftRight_of_msb_false (by rw [BitVec.msb_eq_false_iff_two_mul_lt]; omega)]
    show c.toBitVec.toNat >>> 8 % 256 = _
    rw [Nat.shiftRight_eq_div_pow]
    omega
  unfold pairCh
  apply Int32.toBitVec_inj.mp
  apply BitVec.eq_of_toNat_eq
  have f0 : ((0 : Int32) &&& 31) = 0 := by decide
  have f8 : ((8 : Int32) &&& 31) = 8 := by decide
  rw [f0, f8]
  have g : (((lo8 c &&& 255) <<< (0 : Int32)) ||| ((hi8 c &&& 255) <<< (8 : Int32))).toBitVec.toNat = c.toBitVec.toNat := by
    rw [Int32.toBitVec_or, Int32.toBitVec_shiftLeft, Int32.toBitVec_shiftLeft]
    have s0 : ((0 : Int32).toBitVec.smod 32) = 0#32 := by decide
    have s8 : ((8 : Int32).toBitVec.smod 32) = 8#32 := by decide
    rw [s0, s8, BitVec.toNat_or]
    simp only [BitVec.shiftLeft_eq', BitVec.toNat_shiftLeft, a1, a2]
    show (c.toBitVec.toNat % 256) <<< 0 % 2 ^ 32 ||| (c.toBitVec.toNat / 256) <<< 8 % 2 ^ 32 = _
    rw [Nat.shiftLeft_zero, Nat.mod_eq_of_lt (show c.toBitVec.toNat % 256 < 2 ^ 32 by omega), Nat.mod_eq_of_lt (show (c.toBitVec.toNat / 256) <<< 8 < 2 ^ 32 by rw [Nat.shiftLeft_eq]; omega), Nat.or_comm, ← Nat.shiftLeft_add_eq_or_of_lt (by omega), Nat.shiftLeft_eq]
    omega
  show BitVec.toNat (((((lo8 c &&& 255) <<< (0 : Int32)) ||| ((hi8 c &&& 255) <<< (8 : Int32))).toBitVec.setWidth 16).setWidth 32) = _
  rw [BitVec.toNat_setWidth, BitVec.toNat_setWidth, g]
  omega
end StrChars
namespace StrChars
open Jvm Sem ClassFile Op Lib Jvm.Stand Jvm.Free.XT Jvm.Free.ALB Jvm.Free.JM Jvm.Free
open Jvm.Lib.Cold (StaticIs)
theorem shr1 {n : Nat} (h : 2 * n < 2 ^ 31) : Int32.ofNat (2 * n) >>> ((1 : Int32) &&& 31) = Int32.ofNat n := by
  have e : ((1 : Int32) &&& 31) = 1 := by decide
  rw [e]
  apply Int32.toBitVec_inj.mp
  rw [Int32.toBitVec_shiftRight]
  have e1 : ((1 : Int32).toBitVec.smod 32) = 1#32 := by decide
  have hm : (BitVec.ofNat 32 (2 * n)).toNat = 2 * n := by rw [BitVec.toNat_ofNat, Nat.mod_eq_of_lt (by omega)]
  rw [e1, BitVec.sshiftRight_eq']
  apply BitVec.eq_of_toNat_eq
  show ((BitVec.ofNat 32 (2 * n)).sshiftRight 1).toNat = (BitVec.ofNat 32 n).toNat
  rw [BitVec.toNat_sshiftRight_of_msb_false (by rw [BitVec.msb_eq_false_iff_two_mul_lt, hm]; omega), hm, BitVec.toNat_ofNat, Nat.shiftRight_eq_div_pow]
  omega
/-- charAt's cast of a byte read back -/
def chr8 (u : Int32) : Int32 := (u &&& 255).toUInt32.toUInt16.toUInt32.toInt32
theorem chr8_lo8 {c : Int32} (h0 : ¬ c < 0) (h1 : ¬ 255 < c) : chr8 (lo8 c) = c := by
  have t : ∀ k : Fin 256, (Int32.ofNat k.val).toUInt32.toUInt16.toUInt32.toInt32 = Int32.ofNat k.val := by decide +kernel
  unfold chr8
  rw [lo8_mask h0 h1]
  rw [Int32.lt_iff_toInt_lt] at h0 h1
  have e0 : (0 : Int32).toInt = 0 := rfl
  have e1 : (255 : Int32).toInt = 255 := rfl
  obtain ⟨k, hk⟩ : ∃ k : Nat, c.toInt = k := ⟨c.toInt.toNat, by omega⟩
  have hx : c = Int32.ofNat k := Int32.toInt_inj.mp (by rw [hk, Int32.toInt_ofNat_small (by omega)])
  rw [hx]
  exact t ⟨k, by omega⟩
theorem narrow_ch {c : Int32} (h0 : ¬ c < 0) (h1 : ¬ 65535 < c) : narrow .char (.int c) = .int c := by
  have q : narrow .char (.int (pairCh (lo8 c) (hi8 c))) = .int (pairCh (lo8 c) (hi8 c)) := narrow_c _
  rwa [pair_says h0 h1] at q
/-- the array's cell V codes the n chars f 0 .. f (n - 1) by the coder cd, as the JDK does: coder 1 just where some char is above 255 -/
def Cod (cd : Int32) (n : Nat) (f : Nat → Int32) (V : Cell) : Prop := (cd = 0 ∧ V.slots.size = n ∧ ∀ j, j < n → V.slots[j]? = some (.int (lo8 (f j))) ∧ ¬ 255 < f j) ∨ (cd = 1 ∧ V.slots.size = 2 * n ∧ (∀ j, j < n → V.slots[2 * j]? = some (.int (lo8 (f j))) ∧ V.slots[2 * j + 1]? = some (.int (hi8 (f j)))) ∧ ∃ j, j < n ∧ 255 < f j)
theorem Cod.cd {cd : Int32} {n : Nat} {f : Nat → Int32} {V : Cell} (h : Cod cd n f V) : cd = 0 ∨ cd = 1 := h.imp (fun q => q.1) fun q => q.1
theorem Cod.len {cd : Int32} {n : Nat} {f : Nat → Int32} {V : Cell} (h : Cod cd n f V) (hs : V.slots.size < 2 ^ 31) : Int32.ofNat V.slots.size >>> (cd &&& 31) = Int32.ofNat n := by
  rcases h with ⟨rfl, h, -⟩ | ⟨rfl, h, -⟩
  · rw [shr0, h]
  · rw [h, shr1 (by omega)]
/-- **x is a String of the n chars f 0 .. f (n - 1)**, Latin-1 or UTF-16; its array at t has the cell V -/
def Txt (x t : Addr) (V : Cell) (cd : Int32) (n : Nat) (f : Nat → Int32) (U : State) : Prop := Exact "java/lang/String" x U ∧ Has x "java/lang/String" "value" "[B" (.ref t) U ∧ Has x "java/lang/String" "coder" "B" (.int cd) U ∧ XT.Arr .byte t V U ∧ Cod cd n f V ∧ ∀ j, j < n → ¬ f j < 0 ∧ ¬ 65535 < f j
theorem Txt.mv {x t : Addr} {V : Cell} {cd : Int32} {n : Nat} {f : Nat → Int32} {U U' : State} (h : Txt x t V cd n f U) (hal : U.vm.Alike U'.vm) (hh : U'.heap = U.heap) : Txt x t V cd n f U' := ⟨h.1.mv hal hh, h.2.1.mv hal hh, h.2.2.1.mv hal hh, h.2.2.2.1.mv hal hh, h.2.2.2.2⟩
namespace Cdr
def yN : MethodName := ⟨"java/lang/String", "coder", "()B"⟩
abbrev yB : ByteArray := jdk_42_method_152_code
theorem d0 : decode yB 0 = .ok (.getstatic 38, 3) := by decide +kernel
theorem d3 : decode yB 3 = .ok (.ifCond (.eq) 10, 3) := by decide +kernel
theorem d6 : decode yB 6 = .ok (.aload_n 0, 1) := by decide +kernel
theorem d7 : decode yB 7 = .ok (.getfield 15, 3) := by decide +kernel
theorem d10 : decode yB 10 = .ok (.goto 4, 3) := by decide +kernel
theorem d14 : decode yB 14 = .ok (.ireturn, 1) := by decide +kernel
def site : List Cond := [.fieldLink "java/lang/String" 38 "java/lang/String" "COMPACT_STRINGS" "Z", .fieldLink "java/lang/String" 15 "java/lang/String" "coder" "B"]
def tab : Cond := tabOf yN yB 1 (some .byte) site
def P (x : Addr) (cd z : Int32) (args : Array Value) (s : State) : Prop := args = #[.ref x] ∧ Has x "java/lang/String" "coder" "B" (.int cd) s ∧ (cd = 0 ∨ cd = 1) ∧ StaticIs s "java/lang/String" "COMPACT_STRINGS" "Z" (.int z) ∧ ¬ z = 0
def E (cd : Int32) (r : Option Value) (s u : State) : Prop := XT.PureE (some (.int cd)) r s u
theorem law (l : Launch) (x : Addr) (cd z : Int32) : Law l yN 1 0 0 0 yB 1 (some .byte) site (P x cd z) (E cd) [] 0 0 := by
  refine Law.of_walk (plainFor_of_name (by decide +kernel)) (by decide +kernel) (by decide +kernel) (by decide) (fun _ _ h => by rw [h.1]; rfl) (fun _ U U' hal hh h => ⟨h.1, h.2.1.mv hal hh, h.2.2.1, h.2.2.2.1.there hal hh, h.2.2.2.2⟩) (fun r U U' V V' h1 hal h2 h => XT.PureE.mv r U U' V V' h1 hal h2 h) ?_
  intro p e s m args below meth c s₁ X0 hexec hbytes hml hret hlk hnm hown hh0 W hP
  obtain ⟨rfl, hx, hc, s1, hz⟩ := hP
  have c1 : Steps p.tables e below (s₁.setTop (entryFrame m #[.ref x] 1)) (s₁.setTop (mkF m 0 #[.val (.ref x)] [])) := entry rfl
  obtain ⟨T2, X2, q2, st2⟩ := X0.sget hexec hown (wk W (.fieldLink "java/lang/String" 38 "java/lang/String" "COMPACT_STRINGS" "Z")) s1 (fun _ _ h => by rw [hh0]; exact h) (g := (mkF m 0 #[.val (.ref x)] [])) rfl (hb hbytes d0)
  have hh2 := q2.trans hh0
  have c3 : Steps p.tables e below (s₁.setTop (entryFrame m #[.ref x] 1)) (T2.setTop (mkF m 7 #[.val (.ref x)] [.ref x])) := (c1.trans (st2 _ (Steps.refl _))).trans (by
    refine XS.ifNo X2.here hexec rfl (hb hbytes d3) rfl (i0_eq_f hz) ?_
    refine XS.aloadN X2.here hexec rfl (hb hbytes d6) rfl rfl ?_
    exact Steps.refl _)
  obtain ⟨T4, X4, q4, st4⟩ := X2.hget hexec hown (wk W (.fieldLink "java/lang/String" 15 "java/lang/String" "coder" "B")) (hx.mv X2.warmed.alike hh2) (g := (mkF m 7 #[.val (.ref x)] [.ref x])) rfl (rest := []) rfl (hb hbytes d7)
  have c5 : Steps p.tables e below (s₁.setTop (entryFrame m #[.ref x] 1)) (T4.setTop (mkF m 14 #[.val (.ref x)] [.int cd])) := (c3.trans (st4 _ (Steps.refl _))).trans (by
    refine XS.goto X4.here hexec rfl (pc0 := 10) rfl (hb hbytes d10) (by decide) rfl ?_
    exact Steps.refl _)
  exact ⟨T4, some (.int cd), _, _, _, X4, rfl, rfl, rfl, (fun h => by cases h), ⟨rfl, q4.trans hh2⟩, fun fs hl => c5.trans (X4.ireturnOut hexec hret (by rcases hc with rfl | rfl <;> rfl) (Or.inr (Or.inr (Or.inl rfl))) (hb hbytes d14) hl)⟩
end Cdr
namespace Len
def yN : MethodName := ⟨"java/lang/String", "length", "()I"⟩
abbrev yB : ByteArray := jdk_42_method_54_code
theorem d0 : decode yB 0 = .ok (.aload_n 0, 1) := by decide +kernel
theorem d1 : decode yB 1 = .ok (.getfield 9, 3) := by decide +kernel
theorem d4 : decode yB 4 = .ok (.arraylength, 1) := by decide +kernel
theorem d5 : decode yB 5 = .ok (.aload_n 0, 1) := by decide +kernel
theorem d6 : decode yB 6 = .ok (.invokevirtual 335, 3) := by decide +kernel
theorem d9 : decode yB 9 = .ok (.ishr, 1) := by decide +kernel
theorem d10 : decode yB 10 = .ok (.ireturn, 1) := by decide +kernel
def site : List Cond := [.fieldLink "java/lang/String" 9 "java/lang/String" "value" "[B", Cdr.tab] ++ virtW "java/lang/String" 335 "java/lang/String" Cdr.yN Cdr.yN
def tab : Cond := tabOf yN yB 1 (some .int) site
def P (x t : Addr) (V : Cell) (cd : Int32) (n : Nat) (f : Nat → Int32) (z : Int32) (args : Array Value) (s : State) : Prop := args = #[.ref x] ∧ Txt x t V cd n f s ∧ StaticIs s "java/lang/String" "COMPACT_STRINGS" "Z" (.int z) ∧ ¬ z = 0
def E (n : Nat) (r : Option Value) (s u : State) : Prop := XT.PureE (some (.int (Int32.ofNat n))) r s u
/-- length() of a String of n chars, in either coding -/
theorem law (l : Launch) (x t : Addr) (V : Cell) (cd : Int32) (n : Nat) (f : Nat → Int32) (z : Int32) : Law l yN 1 0 1 13 yB 1 (some .int) site (P x t V cd n f z) (E n) [] 0 0 := by
  refine Law.of_walk (plainFor_of_name (by decide +kernel)) (by decide +kernel) (by decide +kernel) (by decide) (fun _ _ h => by rw [h.1]; rfl) (fun _ U U' hal hh h => ⟨h.1, h.2.1.mv hal hh, h.2.2.1.there hal hh, h.2.2.2⟩) (fun r U U' V V' h1 hal h2 h => XT.PureE.mv r U U' V V' h1 hal h2 h) ?_
  intro p e s m args below meth c s₁ X0 hexec hbytes hml hret hlk hnm hown hh0 W hP
  obtain ⟨rfl, hx, s1, hz⟩ := hP
  have v31 := hx.2.2.2.1.2.2.2
  have c1 : Steps p.tables e below (s₁.setTop (entryFrame m #[.ref x] 1)) (s₁.setTop (mkF m 1 #[.val (.ref x)] [.ref x])) := Steps.trans (entry rfl) (by
    show Steps p.tables e below (s₁.setTop (mkF m 0 #[.val (.ref x)] [])) _
    refine XS.aloadN X0.here hexec rfl (hb hbytes d0) rfl rfl ?_
    exact Steps.refl _)
  obtain ⟨T2, X2, q2, st2⟩ := X0.hget hexec hown (wk W (.fieldLink "java/lang/String" 9 "java/lang/String" "value" "[B")) (hx.mv X0.warmed.alike hh0).2.1 (g := (mkF m 1 #[.val (.ref x)] [.ref x])) rfl (rest := []) rfl (hb hbytes d1)
  have hh2 := q2.trans hh0
  have hx2 := hx.mv X2.warmed.alike hh2
  have c3 : Steps p.tables e below (s₁.setTop (entryFrame m #[.ref x] 1)) (T2.setTop (mkF m 6 #[.val (.ref x)] [.ref x, .int (Int32.ofNat V.slots.size)])) := (c1.trans (st2 _ (Steps.refl _))).trans (by
    refine X2.alen hexec hx2.2.2.2.1 rfl rfl (hb hbytes d4) ?_
    refine XS.aloadN X2.here hexec rfl (hb hbytes d5) rfl rfl ?_
    exact Steps.refl _)
  obtain ⟨v4, T4, X4, E4, g4⟩ := X2.callV hexec (Cdr.law l x cd z) hown (wks W (virtW "java/lang/String" 335 "java/lang/String" Cdr.yN Cdr.yN)) rfl (by decide) (wk W Cdr.tab) (W := 1) (Nat.le_of_ble_eq_true rfl) (Nat.le_of_ble_eq_true rfl) (Nat.le_refl _) (Nat.le_refl _) (hx2.1.fc X2.warmed.alike) hx2.1.is (g := (mkF m 6 #[.val (.ref x)] [.ref x, .int (Int32.ofNat V.slots.size)])) rfl (by rw [hml]; rfl) c3 (argsL := []) (rest := [.int (Int32.ofNat V.slots.size)]) rfl rfl (by show 2 * 0 + (1 + 0) ≤ _; decide) (hb hbytes d6) (⟨rfl, hx2.2.2.1, hx.2.2.2.2.1.cd, s1.there X2.warmed.alike hh2, hz⟩)
  obtain ⟨rfl, q4⟩ := E4
  have c5 : Steps p.tables e below (s₁.setTop (entryFrame m #[.ref x] 1)) (T4.setTop (mkF m 10 #[.val (.ref x)] [.int (Int32.ofNat V.slots.size >>> (cd &&& 31))])) := Steps.trans g4 (by
    refine ishr X4.here hexec rfl (hb hbytes d9) rfl ?_
    exact Steps.refl _)
  rw [hx.2.2.2.2.1.len v31] at c5
  exact ⟨T4, some (.int (Int32.ofNat n)), _, _, _, X4, rfl, rfl, rfl, (fun h => by cases h), ⟨rfl, q4.trans hh2⟩, fun fs hl => c5.trans (X4.ireturnOut hexec hret rfl (Or.inl rfl) (hb hbytes d10) hl)⟩
theorem pays {l : Launch} {R : Room} {p : Program} {e : Env} {below : List Frame} {s : State} {sargs : Array Value} {len W : Nat} (x t : Addr) (V : Cell) (cd : Int32) (n : Nat) (f : Nat → Int32) (z : Int32) (htab : tab.before sargs s = true) (hfr : 2 ≤ R.frames) (hlo : W + 25 ≤ R.locals) :
    Back l R p e below s sargs yN len W (fun A₁ a₁ => A₁.cells + 0 ≤ R.cells ∧ A₁.slots + 0 ≤ R.slots ∧ P x t V cd n f z a₁ A₁.U) (fun A₁ _ v₁ B₁ => E n v₁ A₁.U B₁.U ∧ B₁.locs = A₁.locs ++ [] ∧ B₁.cells = A₁.cells + 0 ∧ B₁.slots = A₁.slots + 0) :=
  (law l x t V cd n f z).pays htab hfr (by omega)
end Len
namespace IsL
def yN : MethodName := ⟨"java/lang/String", "isLatin1", "()Z"⟩
abbrev yB : ByteArray := jdk_42_method_154_code
theorem d0 : decode yB 0 = .ok (.getstatic 38, 3) := by decide +kernel
theorem d3 : decode yB 3 = .ok (.ifCond (.eq) 14, 3) := by decide +kernel
theorem d6 : decode yB 6 = .ok (.aload_n 0, 1) := by decide +kernel
theorem d7 : decode yB 7 = .ok (.getfield 15, 3) := by decide +kernel
theorem d10 : decode yB 10 = .ok (.ifCond (.ne) 7, 3) := by decide +kernel
theorem d13 : decode yB 13 = .ok (.iconst 1, 1) := by decide +kernel
theorem d14 : decode yB 14 = .ok (.goto 4, 3) := by decide +kernel
theorem d17 : decode yB 17 = .ok (.iconst 0, 1) := by decide +kernel
theorem d18 : decode yB 18 = .ok (.ireturn, 1) := by decide +kernel
def site : List Cond := [.fieldLink "java/lang/String" 38 "java/lang/String" "COMPACT_STRINGS" "Z", .fieldLink "java/lang/String" 15 "java/lang/String" "coder" "B"]
def tab : Cond := tabOf yN yB 1 (some .boolean) site
def P (x : Addr) (cd z : Int32) (args : Array Value) (s : State) : Prop := args = #[.ref x] ∧ Has x "java/lang/String" "coder" "B" (.int cd) s ∧ (cd = 0 ∨ cd = 1) ∧ StaticIs s "java/lang/String" "COMPACT_STRINGS" "Z" (.int z) ∧ ¬ z = 0
def E (cd : Int32) (r : Option Value) (s u : State) : Prop := XT.PureE (some (.int (1 - cd))) r s u
theorem law (l : Launch) (x : Addr) (cd z : Int32) : Law l yN 1 0 0 0 yB 1 (some .boolean) site (P x cd z) (E cd) [] 0 0 := by
  refine Law.of_walk (plainFor_of_name (by decide +kernel)) (by decide +kernel) (by decide +kernel) (by decide) (fun _ _ h => by rw [h.1]; rfl) (fun _ U U' hal hh h => ⟨h.1, h.2.1.mv hal hh, h.2.2.1, h.2.2.2.1.there hal hh, h.2.2.2.2⟩) (fun r U U' V V' h1 hal h2 h => XT.PureE.mv r U U' V V' h1 hal h2 h) ?_
  intro p e s m args below meth c s₁ X0 hexec hbytes hml hret hlk hnm hown hh0 W hP
  obtain ⟨rfl, hx, hc, s1, hz⟩ := hP
  have c1 : Steps p.tables e below (s₁.setTop (entryFrame m #[.ref x] 1)) (s₁.setTop (mkF m 0 #[.val (.ref x)] [])) := entry rfl
  obtain ⟨T2, X2, q2, st2⟩ := X0.sget hexec hown (wk W (.fieldLink "java/lang/String" 38 "java/lang/String" "COMPACT_STRINGS" "Z")) s1 (fun _ _ h => by rw [hh0]; exact h) (g := (mkF m 0 #[.val (.ref x)] [])) rfl (hb hbytes d0)
  have hh2 := q2.trans hh0
  have c3 : Steps p.tables e below (s₁.setTop (entryFrame m #[.ref x] 1)) (T2.setTop (mkF m 7 #[.val (.ref x)] [.ref x])) := (c1.trans (st2 _ (Steps.refl _))).trans (by
    refine XS.ifNo X2.here hexec rfl (hb hbytes d3) rfl (i0_eq_f hz) ?_
    refine XS.aloadN X2.here hexec rfl (hb hbytes d6) rfl rfl ?_
    exact Steps.refl _)
  obtain ⟨T4, X4, q4, st4⟩ := X2.hget hexec hown (wk W (.fieldLink "java/lang/String" 15 "java/lang/String" "coder" "B")) (hx.mv X2.warmed.alike hh2) (g := (mkF m 7 #[.val (.ref x)] [.ref x])) rfl (rest := []) rfl (hb hbytes d7)
  have c5 : Steps p.tables e below (s₁.setTop (entryFrame m #[.ref x] 1)) (T4.setTop (mkF m 10 #[.val (.ref x)] [.int cd])) := c3.trans (st4 _ (Steps.refl _))
  have c6 : Steps p.tables e below (s₁.setTop (entryFrame m #[.ref x] 1)) (T4.setTop (mkF m 18 #[.val (.ref x)] [.int (1 - cd)])) := by
    rcases hc with rfl | rfl
    · exact c5.trans (by
        refine XS.ifNo X4.here hexec rfl (hb hbytes d10) rfl (i0_ne_f rfl) ?_
        refine iconstV X4.here hexec rfl 1 (hb hbytes d13) (by decide) ?_
        refine XS.goto X4.here hexec rfl (pc0 := 14) rfl (hb hbytes d14) (by decide) rfl ?_
        exact Steps.refl _)
    · exact c5.trans (by
        refine XS.ifYes X4.here hexec rfl (pc0 := 10) rfl (hb hbytes d10) rfl (i0_ne_t (by decide)) (by decide) rfl ?_
        refine iconstV X4.here hexec rfl 0 (hb hbytes d17) (by decide) ?_
        exact Steps.refl _)
  exact ⟨T4, some (.int (1 - cd)), _, _, _, X4, rfl, rfl, rfl, (fun h => by cases h), ⟨rfl, q4.trans hh2⟩, fun fs hl => c6.trans (X4.ireturnOut hexec hret (by rcases hc with rfl | rfl <;> rfl) (Or.inr (Or.inl rfl)) (hb hbytes d18) hl)⟩
end IsL
namespace LChA
def yN : MethodName := ⟨"java/lang/StringLatin1", "charAt", "([BI)C"⟩
abbrev yB : ByteArray := jdk_43_method_2_code
theorem d0 : decode yB 0 = .ok (.iload_n 1, 1) := by decide +kernel
theorem d1 : decode yB 1 = .ok (.aload_n 0, 1) := by decide +kernel
theorem d2 : decode yB 2 = .ok (.arraylength, 1) := by decide +kernel
theorem d3 : decode yB 3 = .ok (.invokestatic 9, 3) := by decide +kernel
theorem d6 : decode yB 6 = .ok (.aload_n 0, 1) := by decide +kernel
theorem d7 : decode yB 7 = .ok (.iload_n 1, 1) := by decide +kernel
theorem d8 : decode yB 8 = .ok (.baload, 1) := by decide +kernel
theorem d9 : decode yB 9 = .ok (.sipush 255, 3) := by decide +kernel
theorem d12 : decode yB 12 = .ok (.iand, 1) := by decide +kernel
theorem d13 : decode yB 13 = .ok (.i2c, 1) := by decide +kernel
theorem d14 : decode yB 14 = .ok (.ireturn, 1) := by decide +kernel
def site : List Cond := [JO.Str_checkIndex.tab] ++ staticW "java/lang/StringLatin1" 9 JO.Str_checkIndex.yN
def tab : Cond := tabOf yN yB 2 (some .char) site
def P (t : Addr) (V : Cell) (i : Nat) (u : Int32) (fm : Value) (args : Array Value) (s : State) : Prop := args = #[.ref t, .int (Int32.ofNat i)] ∧ XT.Arr .byte t V s ∧ V.slots[i]? = some (.int u) ∧ (StaticIs s "jdk/internal/util/Preconditions" "SIOOBE_FORMATTER" "Ljava/util/function/BiFunction;" fm ∧ fm.isRef = true)
def E (u : Int32) (r : Option Value) (s w : State) : Prop := XT.PureE (some (.int (chr8 u))) r s w
theorem law (l : Launch) (t : Addr) (V : Cell) (i : Nat) (u : Int32) (fm : Value) : Law l yN 2 2 2 27 yB 2 (some .char) site (P t V i u fm) (E u) [] 0 0 := by
  refine Law.of_walk (plainFor_of_name (by decide +kernel)) (by decide +kernel) (by decide +kernel) (by decide) (fun _ _ h => by rw [h.1]; rfl) (fun _ U U' hal hh h => ⟨h.1, h.2.1.mv hal hh, h.2.2.1, h.2.2.2.1.there hal hh, h.2.2.2.2⟩) (fun r U U' V V' h1 hal h2 h => XT.PureE.mv r U U' V V' h1 hal h2 h) ?_
  intro p e s m args below meth c s₁ X0 hexec hbytes hml hret hlk hnm hown hh0 W hP
  obtain ⟨rfl, hV, hu, s1, rf⟩ := hP
  have v31 := hV.2.2.2
  have hi : i < V.slots.size := (Array.getElem?_eq_some_iff.mp hu).1
  have c1 : Steps p.tables e below (s₁.setTop (entryFrame m #[.ref t, .int (Int32.ofNat i)] 2)) (s₁.setTop (mkF m 0 #[.val (.ref t), .val (.int (Int32.ofNat i))] [])) := entry rfl
  have c2 : Steps p.tables e below (s₁.setTop (entryFrame m #[.ref t, .int (Int32.ofNat i)] 2)) (s₁.setTop (mkF m 3 #[.val (.ref t), .val (.int (Int32.ofNat i))] [.int (Int32.ofNat V.slots.size), .int (Int32.ofNat i)])) := c1.trans (by
    refine XS.iloadN X0.here hexec rfl (hb hbytes d0) rfl ?_
    refine XS.aloadN X0.here hexec rfl (hb hbytes d1) rfl rfl ?_
    refine X0.alen hexec (hV.mv X0.warmed.alike hh0) rfl rfl (hb hbytes d2) ?_
    exact Steps.refl _)
  obtain ⟨v3, T3, X3, E3, g3⟩ := X0.callS hexec (JO.Str_checkIndex.law l (Int32.ofNat i) (Int32.ofNat V.slots.size) fm) hown (wks W (staticW "java/lang/StringLatin1" 9 JO.Str_checkIndex.yN)) (wk W JO.Str_checkIndex.tab) (W := 0) (Nat.le_of_ble_eq_true rfl) (Nat.le_of_ble_eq_true rfl) (Nat.le_refl _) (Nat.le_refl _) (g := (mkF m 3 #[.val (.ref t), .val (.int (Int32.ofNat i))] [.int (Int32.ofNat V.slots.size), .int (Int32.ofNat i)])) rfl (by rw [hml]; rfl) c2 (argsL := [.int (Int32.ofNat i), .int (Int32.ofNat V.slots.size)]) (rest := []) rfl rfl (by show 2 * 0 + 0 ≤ _; decide) (hb hbytes d3) (⟨rfl, rf, s1.there X0.warmed.alike hh0, Int32.ofNat_not_neg (by omega), lt32 v31 hi⟩)
  obtain ⟨rfl, q3⟩ := E3
  have hh3 := q3.trans hh0
  have c4 : Steps p.tables e below (s₁.setTop (entryFrame m #[.ref t, .int (Int32.ofNat i)] 2)) (T3.setTop (mkF m 14 #[.val (.ref t), .val (.int (Int32.ofNat i))] [.int (chr8 u)])) := Steps.trans g3 (by
    refine XS.aloadN X3.here hexec rfl (hb hbytes d6) rfl rfl ?_
    refine XS.iloadN X3.here hexec rfl (hb hbytes d7) rfl ?_
    refine X3.aget hexec (hV.mv X3.warmed.alike hh3) rfl hu rfl rfl (hb hbytes d8) ?_
    refine sipushV X3.here hexec rfl 255 (hb hbytes d9) (by decide) ?_
    refine XS.iand X3.here hexec rfl (hb hbytes d12) rfl ?_
    refine i2c X3.here hexec rfl (hb hbytes d13) rfl ?_
    exact Steps.refl _)
  exact ⟨T3, some (.int (chr8 u)), _, _, _, X3, rfl, rfl, rfl, (fun h => by cases h), ⟨rfl, hh3⟩, fun fs hl => c4.trans (X3.ireturnOut hexec hret (narrow_c _) (Or.inr (Or.inr (Or.inr (Or.inl rfl)))) (hb hbytes d14) hl)⟩
end LChA
end StrChars
namespace StrChars.Road
open Jvm Sem ClassFile Op Lib Jvm.Stand Jvm.Free Jvm.Free.XT
open Jvm.Lib.Cold (StaticIs)
theorem consq {a : Array Value} {s : State} {c : Jvm.Cond} {L : List Jvm.Cond} (h0 : c.before a s = true) (h : ∀ w ∈ L, w.before a s = true) : ∀ w ∈ c :: L, w.before a s = true := fun w hw => (List.mem_cons.mp hw).elim (fun e => e ▸ h0) (h w)
/-- the words of String.length(), either coding -/
abbrev wordsLen : List Jvm.Cond := [.code Len.yN Len.yB 1 (some .int), .initialized ST, .fieldLink ST 9 ST "value" "[B", .fieldLink ST 38 ST "COMPACT_STRINGS" "Z", .fieldLink ST 15 ST "coder" "B", .code Cdr.yN Cdr.yB 1 (some .byte), .methodLink ST 335 Cdr.yN, .declares Cdr.yN, .selects ST Cdr.yN Cdr.yN, .instanceMethod Cdr.yN]
theorem tabLen_of {a : Array Value} {s : State} (h : ∀ w ∈ wordsLen, w.before a s = true) : Len.tab.before a s = true := by
  have hc : Cdr.tab.before a s = true := unparts (wk h (.code Cdr.yN Cdr.yB 1 (some .byte))) (wks h (.initialized Cdr.yN.cls :: Cdr.site))
  have q := consq hc h
  exact unparts (wk q (.code Len.yN Len.yB 1 (some .int))) (wks q (.initialized Len.yN.cls :: Len.site))
theorem movedLen {Z s : State} {a0 args : Array Value} (hZ : Z.Warmed39 s.vm) (hw : ∀ d ∈ wordsLen, d.before a0 Z = true) : ∀ d ∈ wordsLen, d.before args s = true := fun d hd => by
  have q := hw d hd
  have t : ∀ d ∈ wordsLen, d = .arrayClass .byte ∨ (d.onTables && d.keepsFace) = true := by decide +kernel
  rcases t d hd with rfl | t
  · exact RoadKit.mvA hZ q
  · exact RoadKit.mv hZ q t
/-- the bytes of the chars cs, low before high -/
def wideBytes : List Int32 → List Value
  | [] => []
  | c :: cs => .int (lo8 c) :: .int (hi8 c) :: wideBytes cs
theorem wide_lo (d : Value) : ∀ (cs : List Int32) (j : Nat), j < cs.length → (wideBytes cs).getD (2 * j) d = .int (lo8 (cs.getD j 0))
  | [], j, h => absurd h (Nat.not_lt_zero j)
  | c :: cs, 0, _ => rfl
  | c :: cs, j + 1, h => by
    have q := wide_lo d cs j (by simpa using h)
    rw [show 2 * (j + 1) = 2 * j + 1 + 1 from by omega]
    simpa [wideBytes] using q
theorem wide_hi (d : Value) : ∀ (cs : List Int32) (j : Nat), j < cs.length → (wideBytes cs).getD (2 * j + 1) d = .int (hi8 (cs.getD j 0))
  | [], j, h => absurd h (Nat.not_lt_zero j)
  | c :: cs, 0, _ => rfl
  | c :: cs, j + 1, h => by
    have q := wide_hi d cs j (by simpa using h)
    rw [show 2 * (j + 1) + 1 = 2 * j + 1 + 1 + 1 from by omega]
    simpa [wideBytes] using q
theorem low_at (d : Value) (cs : List Int32) (j : Nat) (h : j < cs.length) : (cs.map fun c => Value.int (lo8 c)).getD j d = .int (lo8 (cs.getD j 0)) := by
  simp [List.getD_eq_getElem?_getD, h]
/-- an array of N2 bytes vs codes the chars cs by the coder cd -/
def CodA (cs : List Int32) (cd N2 : Int32) (vs : List Value) : Prop := (cd = 0 ∧ N2 = Int32.ofNat cs.length ∧ vs = (cs.map fun c => Value.int (lo8 c)) ∧ ∀ c ∈ cs, ¬ 255 < c) ∨ (cd = 1 ∧ N2 = Int32.ofNat (2 * cs.length) ∧ vs = wideBytes cs ∧ ∃ c ∈ cs, 255 < c)
theorem CodA.cod {cs : List Int32} {cd N2 : Int32} {vs : List Value} {V : Cell} (h : CodA cs cd N2 vs) (hn : 2 * cs.length < 2 ^ 31) (hs : V.slots.size = N2.toNatClampNeg) (hv : RoadKit.Has V vs (.int 0)) : Cod cd cs.length (fun j => cs.getD j 0) V := by
  rcases h with ⟨rfl, rfl, rfl, h⟩ | ⟨rfl, rfl, rfl, c, hc, hw⟩
  · rw [n32 (by omega)] at hs
    exact Or.inl ⟨rfl, hs, fun j hj => ⟨by rw [hv j (by omega), low_at _ _ _ hj], by
      have e : cs.getD j 0 = cs[j] := by simp [List.getD_eq_getElem?_getD, hj]
      show ¬ 255 < cs.getD j 0
      rw [e]; exact h _ (List.getElem_mem _)⟩⟩
  · rw [n32 (by omega)] at hs
    obtain ⟨j, hj, rfl⟩ := List.getElem_of_mem hc
    exact Or.inr ⟨rfl, hs, fun j hj => ⟨by rw [hv _ (by omega), wide_lo _ _ _ hj], by rw [hv _ (by omega), wide_hi _ _ _ hj]⟩, j, hj, by
      have e : cs.getD j 0 = cs[j] := by simp [List.getD_eq_getElem?_getD, hj]
      show 255 < cs.getD j 0
      rw [e]; exact hw⟩
/-- an object of exactly java/lang/String, its two fields found: as the laws ask it -/
theorem strObj {Z U : State} {a0 : Array Value} {kI : Nat} (wi : (Jvm.Cond.instantiable ST kI).before a0 Z = true) (al : Z.vm.Alike U.vm) {x : Addr} {v0 c0 : Value} (E : RoadKit.Exa Z U.heap x ST) (V : RoadKit.Fld Z U.heap x ST "value" "[B" v0) (C : RoadKit.Fld Z U.heap x ST "coder" "B" c0) :
    ∃ (D : Cell) (fV fC : Field), Blank ST x D U ∧ Found ST "value" "[B" fV U ∧ Found ST "coder" "B" fC U ∧ D.slots[fV.slot]? = some v0 ∧ D.slots[fC.slot]? = some c0 ∧ RoadKit.slotOf Z ST "value" "[B" = fV.slot ∧ RoadKit.slotOf Z ST "coder" "B" = fC.slot := by
  obtain ⟨D, cfV, kV, iV, fV, hD, gV, stV, knV, obV, asV, slV⟩ := V
  obtain ⟨D', cfC, kC, iC, fC, hD', gC, stC, -, -, asC, slC⟩ := C
  cases hD.symm.trans hD'
  obtain ⟨D2, kD, e1, e2, e3, e4, e5⟩ := E
  cases hD.symm.trans e1
  obtain ⟨c2, k2, i1, i2, i3, -⟩ := Cond.instantiable_spec wi
  cases e2.symm.trans i1
  cases e3.symm.trans i2
  obtain ⟨kU, u1, u2⟩ := al.2.2 _ _ e3
  exact ⟨D, fV, fC, ⟨hD, ⟨knV, fun q hq => by rw [hq] at obV; cases obV⟩, by rw [al.findClass]; exact e2, kU, u1, by rw [u2]; exact i3, by rw [u2]; exact e5 i3⟩, ⟨SBG.found_only al ⟨cfV, kV, iV, gV⟩, stV⟩, ⟨SBG.found_only al ⟨cfC, kC, iC, gC⟩, stC⟩, slV, slC, by simp [RoadKit.slotOf, gV], by simp [RoadKit.slotOf, gC]⟩
theorem sta_is {Z U : State} (al : Z.vm.Alike U.vm) {C n d : String} {v : Value} (S : RoadKit.Sta Z U.heap C n d v) : StaticIs U C n d v := by
  obtain ⟨cfS, iS, kS, fS, st, cS, t1, t2, t3, t4, t5, t6, t7⟩ := S
  exact StaticIs.there (s := { Z with heap := U.heap }) ⟨cfS, iS, kS, fS, st, cS, t1, t2, t3, t4, t5, (fun q => by rw [q] at t6; cases t6), t7⟩ al rfl
/-- **length() OF SUCH A STRING** -/
theorem lenW {p : Program} {l : Launch} {e : Env} {R : Room} {s : State} {args : Array Value} {below : List Frame} {len W : Nat} {Z : State} {a0 : Array Value} {h : Heap} (hZ : Z.Warmed39 s.vm) (hw : ∀ d ∈ wordsLen, d.before a0 Z = true) {kI : Nat} (wi : (Jvm.Cond.instantiable ST kI).before a0 Z = true)
    {x t : Addr} {kb : ClassId} {cs : List Int32} {cd N2 z : Int32} {vs : List Value} (E : RoadKit.Exa Z h x ST) (V : RoadKit.Fld Z h x ST "value" "[B" (.ref t)) (C : RoadKit.Fld Z h x ST "coder" "B" (.int cd)) (K : RoadKit.Arv Z h t kb .byte N2 vs (.int 0)) (hc : CodA cs cd N2 vs) (hb : ∀ c ∈ cs, ¬ c < 0 ∧ ¬ (65535 : Int32) < c)
    (S : RoadKit.Sta Z h ST "COMPACT_STRINGS" "Z" (.int z)) (hz : ¬ z = 0) (l2 : cs.length ≤ 4000) (hfr : 2 ≤ R.frames) (hlo : W + 25 ≤ R.locals) :
    Back l R p e below s args (⟨"java/lang/String", "length", "()I"⟩ : MethodName) len W (fun P a => a = #[.ref x] ∧ P.U.heap = h ∧ P.cells + 0 ≤ R.cells ∧ P.slots + 0 ≤ R.slots)
      (fun P _ v B => ∃ L, (v = some (.int (Int32.ofNat cs.length)) ∧ L = [] ∧ B.U.heap = h) ∧ B.locs = P.locs ++ L ∧ B.cells = P.cells + 0 ∧ B.slots = P.slots + 0) := by
  obtain ⟨A, K1, K2, K3, K4, K5, K6⟩ := K
  have hcod := hc.cod (by omega) K3 K5
  intro m meth c P g ig mk a X hg hsize hdg hW hn hp'
  obtain ⟨rfl, rfl, r1, r2⟩ := hp'
  have al : Z.vm.Alike P.U.vm := hZ.alike.trans X.warmed.alike
  obtain ⟨D, fV, fC, hB, F1, F2, g1, g2, -, -⟩ := strObj wi al E V C
  have hx : Txt x t A cd cs.length (fun j => cs.getD j 0) P.U := ⟨⟨_, hB.2.2.1, D, hB.1, rfl, by cases q : D.vm <;> first | rfl | exact absurd q (hB.2.1.2 _)⟩, Has.of hB F1 g1, Has.of hB F2 g2, ⟨K1.1, State.isArrayOf_alike al K1.2.1, K1.2.2, by rcases hcod with ⟨-, q, -⟩ | ⟨-, q, -⟩ <;> omega⟩, hcod, fun j hj => by
    have e : cs.getD j 0 = cs[j] := by simp [List.getD_eq_getElem?_getD, hj]
    show ¬ cs.getD j 0 < 0 ∧ ¬ 65535 < cs.getD j 0
    rw [e]; exact hb _ (List.getElem_mem _)⟩
  obtain ⟨v, B, X', ⟨⟨hv, hh⟩, hl, hk, hs⟩, st⟩ := Len.pays x t A cd cs.length (fun j => cs.getD j 0) z (tabLen_of (movedLen hZ hw)) hfr hlo m meth c P g ig mk _ X hg hsize hdg hW hn ⟨r1, r2, rfl, hx, sta_is al S, hz⟩
  exact ⟨v, B, X', ⟨[], ⟨hv, rfl, hh⟩, hl, hk, hs⟩, st⟩
end StrChars.Road
namespace StrChars.Road
open Jvm Sem ClassFile Op Lib Jvm.Stand Jvm.Free Jvm.Free.XT
open Jvm.Lib.Cold (StaticIs)
/-- the road's facts of a String, as the laws ask it -/
theorem txt_of {Z U : State} {a0 : Array Value} {kI : Nat} (wi : (Jvm.Cond.instantiable ST kI).before a0 Z = true) (al : Z.vm.Alike U.vm) {x t : Addr} {kb : ClassId} {cs : List Int32} {cd N2 : Int32} {vs : List Value} (E : RoadKit.Exa Z U.heap x ST) (V : RoadKit.Fld Z U.heap x ST "value" "[B" (.ref t)) (C : RoadKit.Fld Z U.heap x ST "coder" "B" (.int cd)) (K : RoadKit.Arv Z U.heap t kb .byte N2 vs (.int 0)) (hc : CodA cs cd N2 vs) (hb : ∀ c ∈ cs, ¬ c < 0 ∧ ¬ (65535 : Int32) < c) (l2 : cs.length ≤ 4000) :
    ∃ A, Txt x t A cd cs.length (fun j => cs.getD j 0) U := by
  obtain ⟨A, K1, K2, K3, K4, K5, K6⟩ := K
  have hcod := hc.cod (by omega) K3 K5
  obtain ⟨D, fV, fC, hB, F1, F2, g1, g2, -, -⟩ := strObj wi al E V C
  exact ⟨A, ⟨_, hB.2.2.1, D, hB.1, rfl, by cases q : D.vm <;> first | rfl | exact absurd q (hB.2.1.2 _)⟩, Has.of hB F1 g1, Has.of hB F2 g2, ⟨K1.1, State.isArrayOf_alike al K1.2.1, K1.2.2, by rcases hcod with ⟨-, q, -⟩ | ⟨-, q, -⟩ <;> omega⟩, hcod, fun j hj => by
    have e : cs.getD j 0 = cs[j] := by simp [List.getD_eq_getElem?_getD, hj]
    show ¬ cs.getD j 0 < 0 ∧ ¬ 65535 < cs.getD j 0
    rw [e]; exact hb _ (List.getElem_mem _)⟩
end StrChars.Road
namespace StrChars
open Jvm Sem ClassFile Op Lib Jvm.Stand Jvm.Free.XT Jvm.Free.ALB Jvm.Free.JM Jvm.Free
open Jvm.Lib.Cold (StaticIs)
namespace ChN
def yN : MethodName := ⟨"java/lang/String", "charAt", "(I)C"⟩
abbrev yB : ByteArray := jdk_42_method_56_code
theorem d0 : decode yB 0 = .ok (.aload_n 0, 1) := by decide +kernel
theorem d1 : decode yB 1 = .ok (.invokevirtual 492, 3) := by decide +kernel
theorem d4 : decode yB 4 = .ok (.ifCond (.eq) 12, 3) := by decide +kernel
theorem d7 : decode yB 7 = .ok (.aload_n 0, 1) := by decide +kernel
theorem d8 : decode yB 8 = .ok (.getfield 9, 3) := by decide +kernel
theorem d11 : decode yB 11 = .ok (.iload_n 1, 1) := by decide +kernel
theorem d12 : decode yB 12 = .ok (.invokestatic 495, 3) := by decide +kernel
theorem d15 : decode yB 15 = .ok (.ireturn, 1) := by decide +kernel
def site : List Cond := [.fieldLink "java/lang/String" 9 "java/lang/String" "value" "[B", IsL.tab, LChA.tab] ++ virtW "java/lang/String" 492 "java/lang/String" IsL.yN IsL.yN ++ staticW "java/lang/String" 495 LChA.yN
def tab : Cond := tabOf yN yB 2 (some .char) site
def P (x t : Addr) (V : Cell) (n : Nat) (f : Nat → Int32) (z : Int32) (fm : Value) (i : Nat) (args : Array Value) (s : State) : Prop := args = #[.ref x, .int (Int32.ofNat i)] ∧ Txt x t V 0 n f s ∧ i < n ∧ StaticIs s "java/lang/String" "COMPACT_STRINGS" "Z" (.int z) ∧ ¬ z = 0 ∧ StaticIs s "jdk/internal/util/Preconditions" "SIOOBE_FORMATTER" "Ljava/util/function/BiFunction;" fm ∧ fm.isRef = true
def E (f : Nat → Int32) (i : Nat) (r : Option Value) (s u : State) : Prop := XT.PureE (some (.int (f i))) r s u
/-- charAt(i) of a Latin-1 String of n chars, i < n: f i -/
theorem law (l : Launch) (x t : Addr) (V : Cell) (n : Nat) (f : Nat → Int32) (z : Int32) (fm : Value) (i : Nat) : Law l yN 2 1 3 40 yB 2 (some .char) site (P x t V n f z fm i) (E f i) [] 0 0 := by
  refine Law.of_walk (plainFor_of_name (by decide +kernel)) (by decide +kernel) (by decide +kernel) (by decide) (fun _ _ h => by rw [h.1]; rfl) (fun _ U U' hal hh h => ⟨h.1, h.2.1.mv hal hh, h.2.2.1, h.2.2.2.1.there hal hh, h.2.2.2.2.1, h.2.2.2.2.2.1.there hal hh, h.2.2.2.2.2.2⟩) (fun r U U' V V' h1 hal h2 h => XT.PureE.mv r U U' V V' h1 hal h2 h) ?_
  intro p e s m args below meth c s₁ X0 hexec hbytes hml hret hlk hnm hown hh0 W hP
  obtain ⟨rfl, hx, hi, s1, hz, s3, rf⟩ := hP
  have v31 := hx.2.2.2.1.2.2.2
  have hr := hx.2.2.2.2.2 i hi
  have hx0 := hx.mv X0.warmed.alike hh0
  have c1 : Steps p.tables e below (s₁.setTop (entryFrame m #[.ref x, .int (Int32.ofNat i)] 2)) (s₁.setTop (mkF m 1 #[.val (.ref x), .val (.int (Int32.ofNat i))] [.ref x])) := Steps.trans (entry rfl) (by
    show Steps p.tables e below (s₁.setTop (mkF m 0 #[.val (.ref x), .val (.int (Int32.ofNat i))] [])) _
    refine XS.aloadN X0.here hexec rfl (hb hbytes d0) rfl rfl ?_
    exact Steps.refl _)
  obtain ⟨v2, T2, X2, E2, g2⟩ := X0.callV hexec (IsL.law l x 0 z) hown (wks W (virtW "java/lang/String" 492 "java/lang/String" IsL.yN IsL.yN)) rfl (by decide) (wk W IsL.tab) (W := 0) (Nat.le_of_ble_eq_true rfl) (Nat.le_of_ble_eq_true rfl) (Nat.le_refl _) (Nat.le_refl _) (hx0.1.fc X0.warmed.alike) hx0.1.is (g := (mkF m 1 #[.val (.ref x), .val (.int (Int32.ofNat i))] [.ref x])) rfl (by rw [hml]; rfl) c1 (argsL := []) (rest := []) rfl rfl (by show 2 * 0 + 0 ≤ _; decide) (hb hbytes d1) (⟨rfl, hx0.2.2.1, hx.2.2.2.2.1.cd, s1.there X0.warmed.alike hh0, hz⟩)
  obtain ⟨rfl, q2⟩ := E2
  have hh2 := q2.trans hh0
  have hx2 := hx.mv X2.warmed.alike hh2
  obtain ⟨-, k1, k2⟩ | ⟨k0, -⟩ := hx.2.2.2.2.1
  · have c3 : Steps p.tables e below (s₁.setTop (entryFrame m #[.ref x, .int (Int32.ofNat i)] 2)) (T2.setTop (mkF m 8 #[.val (.ref x), .val (.int (Int32.ofNat i))] [.ref x])) := Steps.trans g2 (by
      refine XS.ifNo X2.here hexec rfl (hb hbytes d4) rfl (i0_eq_f (by decide)) ?_
      refine XS.aloadN X2.here hexec rfl (hb hbytes d7) rfl rfl ?_
      exact Steps.refl _)
    obtain ⟨T4, X4, q4, st4⟩ := X2.hget hexec hown (wk W (.fieldLink "java/lang/String" 9 "java/lang/String" "value" "[B")) hx2.2.1 (g := (mkF m 8 #[.val (.ref x), .val (.int (Int32.ofNat i))] [.ref x])) rfl (rest := []) rfl (hb hbytes d8)
    have hh4 := q4.trans hh2
    have c5 : Steps p.tables e below (s₁.setTop (entryFrame m #[.ref x, .int (Int32.ofNat i)] 2)) (T4.setTop (mkF m 12 #[.val (.ref x), .val (.int (Int32.ofNat i))] [.int (Int32.ofNat i), .ref t])) := (c3.trans (st4 _ (Steps.refl _))).trans (by
      refine XS.iloadN X4.here hexec rfl (hb hbytes d11) rfl ?_
      exact Steps.refl _)
    obtain ⟨v6, T6, X6, E6, g6⟩ := X4.callS hexec (LChA.law l t V i (lo8 (f i)) fm) hown (wks W (staticW "java/lang/String" 495 LChA.yN)) (wk W LChA.tab) (W := 0) (Nat.le_of_ble_eq_true rfl) (Nat.le_of_ble_eq_true rfl) (Nat.le_refl _) (Nat.le_refl _) (g := (mkF m 12 #[.val (.ref x), .val (.int (Int32.ofNat i))] [.int (Int32.ofNat i), .ref t])) rfl (by rw [hml]; rfl) c5 (argsL := [.ref t, .int (Int32.ofNat i)]) (rest := []) rfl rfl (by show 2 * 0 + 0 ≤ _; decide) (hb hbytes d12) (⟨rfl, hx.2.2.2.1.mv X4.warmed.alike hh4, (k2 i hi).1, s3.there X4.warmed.alike hh4, rf⟩)
    obtain ⟨rfl, q6⟩ := E6
    rw [chr8_lo8 hr.1 (k2 i hi).2] at g6
    exact ⟨T6, some (.int (f i)), _, _, _, X6, rfl, rfl, rfl, (fun h => by cases h), ⟨rfl, q6.trans hh4⟩, fun fs hl => Steps.trans g6 (X6.ireturnOut hexec hret (narrow_ch hr.1 hr.2) (Or.inr (Or.inr (Or.inr (Or.inl rfl)))) (hb hbytes d15) hl)⟩
  · exact absurd k0 (by decide)
theorem pays {l : Launch} {R : Room} {p : Program} {e : Env} {below : List Frame} {s : State} {sargs : Array Value} {len W : Nat} (x t : Addr) (V : Cell) (n : Nat) (f : Nat → Int32) (z : Int32) (fm : Value) (i : Nat) (htab : tab.before sargs s = true) (hfr : 4 ≤ R.frames) (hlo : W + 53 ≤ R.locals) :
    Back l R p e below s sargs yN len W (fun A₁ a₁ => A₁.cells + 0 ≤ R.cells ∧ A₁.slots + 0 ≤ R.slots ∧ P x t V n f z fm i a₁ A₁.U) (fun A₁ _ v₁ B₁ => E f i v₁ A₁.U B₁.U ∧ B₁.locs = A₁.locs ++ [] ∧ B₁.cells = A₁.cells + 0 ∧ B₁.slots = A₁.slots + 0) :=
  (law l x t V n f z fm i).pays htab hfr (by omega)
end ChN
end StrChars
namespace StrChars.Road
open Jvm Sem ClassFile Op Lib Jvm.Stand Jvm.Free Jvm.Free.XT
open Jvm.Lib.Cold (StaticIs)
/-- the words of String.charAt(int), the Latin-1 road alone -/
abbrev wordsChN : List Jvm.Cond := [.code ChN.yN ChN.yB 2 (some .char), .initialized ST, .fieldLink ST 9 ST "value" "[B", .fieldLink ST 38 ST "COMPACT_STRINGS" "Z", .fieldLink ST 15 ST "coder" "B", .code IsL.yN IsL.yB 1 (some .boolean), .methodLink ST 492 IsL.yN, .declares IsL.yN, .selects ST IsL.yN IsL.yN, .instanceMethod IsL.yN,
  .methodLink ST 495 LChA.yN, .static LChA.yN, .code LChA.yN LChA.yB 2 (some .char), .initialized "java/lang/StringLatin1", .methodLink "java/lang/StringLatin1" 9 JO.Str_checkIndex.yN, .static JO.Str_checkIndex.yN, .code JO.Str_checkIndex.yN JO.Str_checkIndex.yB 2 none,
  .fieldLink ST 1053 "jdk/internal/util/Preconditions" "SIOOBE_FORMATTER" "Ljava/util/function/BiFunction;", .methodLink ST 1059 JC.PreCheck.yN, .static JC.PreCheck.yN, .code JC.PreCheck.yN JC.PreCheck.yB 3 (some .int), .initialized "jdk/internal/util/Preconditions"]
theorem tabChN_of {a : Array Value} {s : State} (h : ∀ w ∈ wordsChN, w.before a s = true) : ChN.tab.before a s = true := by
  have hp : JC.PreCheck.tab.before a s = true := unparts (wk h (.code JC.PreCheck.yN JC.PreCheck.yB 3 (some .int))) (wks h (.initialized JC.PreCheck.yN.cls :: JC.PreCheck.site))
  have qk := consq hp h
  have hk : JO.Str_checkIndex.tab.before a s = true := unparts (wk qk (.code JO.Str_checkIndex.yN JO.Str_checkIndex.yB 2 none)) (wks qk (.initialized JO.Str_checkIndex.yN.cls :: JO.Str_checkIndex.site))
  have ql := consq hk h
  have hl : LChA.tab.before a s = true := unparts (wk ql (.code LChA.yN LChA.yB 2 (some .char))) (wks ql (.initialized LChA.yN.cls :: LChA.site))
  have hi : IsL.tab.before a s = true := unparts (wk h (.code IsL.yN IsL.yB 1 (some .boolean))) (wks h (.initialized IsL.yN.cls :: IsL.site))
  have q := consq hi (consq hl h)
  exact unparts (wk q (.code ChN.yN ChN.yB 2 (some .char))) (wks q (.initialized ChN.yN.cls :: ChN.site))
theorem movedChN {Z s : State} {a0 args : Array Value} (hZ : Z.Warmed39 s.vm) (hw : ∀ d ∈ wordsChN, d.before a0 Z = true) : ∀ d ∈ wordsChN, d.before args s = true := fun d hd => by
  have t : ∀ d ∈ wordsChN, (d.onTables && d.keepsFace) = true := by decide +kernel
  exact RoadKit.mv hZ (hw d hd) (t d hd)
/-- **charAt(i) OF A LATIN-1 STRING**, i < n: the char -/
theorem chN {p : Program} {l : Launch} {e : Env} {R : Room} {s : State} {args : Array Value} {below : List Frame} {len W : Nat} {Z : State} {a0 : Array Value} {h : Heap} (hZ : Z.Warmed39 s.vm) (hw : ∀ d ∈ wordsChN, d.before a0 Z = true) {kI : Nat} (wi : (Jvm.Cond.instantiable ST kI).before a0 Z = true)
    {x t : Addr} {kb : ClassId} {cs : List Int32} {N2 z : Int32} {vs : List Value} {fm : Value} {i : Nat} {j : Int32} (E : RoadKit.Exa Z h x ST) (V : RoadKit.Fld Z h x ST "value" "[B" (.ref t)) (C : RoadKit.Fld Z h x ST "coder" "B" (.int 0)) (K : RoadKit.Arv Z h t kb .byte N2 vs (.int 0)) (hc : CodA cs 0 N2 vs) (hb : ∀ c ∈ cs, ¬ c < 0 ∧ ¬ (65535 : Int32) < c)
    (S : RoadKit.Sta Z h ST "COMPACT_STRINGS" "Z" (.int z)) (hz : ¬ z = 0) (F : RoadKit.Sta Z h "jdk/internal/util/Preconditions" "SIOOBE_FORMATTER" "Ljava/util/function/BiFunction;" fm) (rf : fm.isRef = true) (l2 : cs.length ≤ 4000) (hi : i < cs.length) (hj : j = Int32.ofNat i) (hfr : 4 ≤ R.frames) (hlo : W + 53 ≤ R.locals) :
    Back l R p e below s args (⟨"java/lang/String", "charAt", "(I)C"⟩ : MethodName) len W (fun P a => a = #[.ref x, .int j] ∧ P.U.heap = h ∧ P.cells + 0 ≤ R.cells ∧ P.slots + 0 ≤ R.slots)
      (fun P _ v B => ∃ L, (v = some (.int (cs.getD i 0)) ∧ L = [] ∧ B.U.heap = h) ∧ B.locs = P.locs ++ L ∧ B.cells = P.cells + 0 ∧ B.slots = P.slots + 0) := by
  subst hj
  intro m meth c P g ig mk a X hg hsize hdg hW hn hp'
  obtain ⟨rfl, rfl, r1, r2⟩ := hp'
  have al : Z.vm.Alike P.U.vm := hZ.alike.trans X.warmed.alike
  obtain ⟨A, hx⟩ := txt_of wi al E V C K hc hb l2
  obtain ⟨v, B, X', ⟨⟨hv, hh⟩, hl, hk, hs⟩, st⟩ := ChN.pays x t A cs.length (fun j => cs.getD j 0) z fm i (tabChN_of (movedChN hZ hw)) hfr hlo m meth c P g ig mk _ X hg hsize hdg hW hn ⟨r1, r2, rfl, hx, hi, sta_is al S, hz, sta_is al F, rf⟩
  exact ⟨v, B, X', ⟨[], ⟨hv, rfl, hh⟩, hl, hk, hs⟩, st⟩
/-- what backV says of its String, as the contracts of this text ask it: cs's low bytes, coder 0 -/
theorem codOf {cs : List Int32} {n : Nat} (hn : cs.length = n) (hb : ∀ c ∈ cs, ¬ 255 < c) : CodA cs 0 (Int32.ofNat n) ((cs.map lo8).map Value.int) := Or.inl ⟨rfl, by rw [hn], by simp [List.map_map, Function.comp_def], hb⟩
end StrChars.Road
end Jvm.Pilot.@@N@@

namespace Jvm.Pilot.@@N@@
open Jvm Jvm.ClassFile Sem Op Lib Jvm.Free Jvm.Stand Jvm.LawKit Jvm.RoadKit Bundle Jvm.Pilot.@@N@@.Jvm.D
/-- x is a Latin-1 String of the chars cs, its bytes in the array t -/
def Str (Z : State) (h : Heap) (x t : Addr) (k : ClassId) (cs : List Int32) : Prop := Exa Z h x "java/lang/String" ∧ Fld Z h x "java/lang/String" "value" "[B" (.ref t) ∧ Fld Z h x "java/lang/String" "coder" "B" (.int 0) ∧ Arv Z h t k .byte (Int32.ofNat cs.length) ((cs.map fun c => c.toInt8.toInt32).map Value.int) (.int 0) ∧ (∀ c ∈ cs, ¬ c < 0 ∧ ¬ (255 : Int32) < c) ∧ cs.length ≤ 4000
theorem Str.ext {Z : State} {h h' : Heap} {x t : Addr} {k : ClassId} {cs : List Int32} (S : Str Z h x t k cs) (E : Ext h h') : Str Z h' x t k cs := ⟨S.1.ext E, S.2.1.ext E, S.2.2.1.ext E, S.2.2.2.1.ext E, S.2.2.2.2⟩
theorem Str.keep {Z : State} {h h' : Heap} {x t : Addr} {k : ClassId} {cs : List Int32} {ws : List Addr} (S : Str Z h x t k cs) (K : Keep h h' ws) (q : x ∉ ws) (r : t ∉ ws) : Str Z h' x t k cs := ⟨S.1.keep K, S.2.1.keep K q, S.2.2.1.keep K q, S.2.2.2.1.keep K r, S.2.2.2.2⟩
theorem Str.other {Z : State} {h h' : Heap} {x t a : Addr} {k : ClassId} {cs : List Int32} {sl : Nat} {v : Value} (S : Str Z h x t k cs) (W : Wr h h' a sl v) (q : x ≠ a) (r : t ≠ a) : Str Z h' x t k cs := ⟨S.1.wr W, S.2.1.other W (Or.inl q), S.2.2.1.other W (Or.inl q), S.2.2.2.1.other W r, S.2.2.2.2⟩
theorem Str.ltT {Z : State} {h : Heap} {x t : Addr} {k : ClassId} {cs : List Int32} (S : Str Z h x t k cs) : t < h.size := S.2.2.2.1.lt
theorem own_c0 {P : Int32 → Prop} : ∀ c ∈ ([] : List Int32), P c := fun _ q => nomatch q
theorem own_cS {P : Int32 → Prop} {y : Int32} {L : List Int32} (q : P y) (r : ∀ c ∈ L, P c) : ∀ c ∈ y :: L, P c := fun c z => (List.mem_cons.mp z).elim (fun u => u ▸ q) (r c)
theorem own_lit (x : Int32) (k : Nat) (hk : k < 2 ^ 31) : (x &&& (255 : Int32)) = Int32.ofNat (x &&& 255).toBitVec.toNat := by
  apply Int32.toBitVec_inj.mp
  show _ = BitVec.ofNat 32 _
  rw [BitVec.ofNat_toNat]; simp
theorem own_lt256 (x : Int32) : (x &&& 255).toBitVec.toNat < 256 := by
  simp only [Int32.toBitVec_and, BitVec.toNat_and]
  exact Nat.lt_succ_of_le Nat.and_le_right
theorem own_and255 (x : Int32) : ¬ nar .char ((x &&& (255 : Int32)).toUInt32.toUInt16.toUInt32.toInt32) < 0 ∧ ¬ (255 : Int32) < nar .char ((x &&& (255 : Int32)).toUInt32.toUInt16.toUInt32.toInt32) := by
  have t : ∀ k : Fin 256, ¬ nar .char ((Int32.ofNat k.val).toUInt32.toUInt16.toUInt32.toInt32) < 0 ∧ ¬ (255 : Int32) < nar .char ((Int32.ofNat k.val).toUInt32.toUInt16.toUInt32.toInt32) := by decide +kernel
  rw [own_lit x 0 (by decide)]
  exact t ⟨_, own_lt256 x⟩
theorem own_i2c255 (x : Int32) : nar .char ((x &&& (255 : Int32)).toUInt32.toUInt16.toUInt32.toInt32) = (x &&& (255 : Int32)) := by
  have t : ∀ k : Fin 256, nar .char ((Int32.ofNat k.val).toUInt32.toUInt16.toUInt32.toInt32) = Int32.ofNat k.val := by decide +kernel
  rw [own_lit x 0 (by decide)]
  exact t ⟨_, own_lt256 x⟩
theorem own_i2cr (x : Int32) : ¬ ((x &&& (255 : Int32)).toUInt32.toUInt16.toUInt32.toInt32) < 0 ∧ ¬ (255 : Int32) < ((x &&& (255 : Int32)).toUInt32.toUInt16.toUInt32.toInt32) := by
  have t : ∀ k : Fin 256, ¬ ((Int32.ofNat k.val).toUInt32.toUInt16.toUInt32.toInt32) < 0 ∧ ¬ (255 : Int32) < ((Int32.ofNat k.val).toUInt32.toUInt16.toUInt32.toInt32) := by decide +kernel
  rw [own_lit x 0 (by decide)]
  exact t ⟨_, own_lt256 x⟩
theorem own_rng {c : Int32} (h : ¬ c < 0 ∧ ¬ (255 : Int32) < c) : ∃ k : Fin 256, c = Int32.ofNat k.val := by
  obtain ⟨h0, h1⟩ := h
  rw [Int32.lt_iff_toInt_lt] at h0 h1
  have e1 : (255 : Int32).toInt = 255 := rfl
  have e2 : (0 : Int32).toInt = 0 := rfl
  refine ⟨⟨c.toInt.toNat, by omega⟩, ?_⟩
  apply Int32.toInt_inj.mp
  show c.toInt = (Int32.ofNat c.toInt.toNat).toInt
  rw [Int32.toInt_ofNat_of_lt (by omega)]
  omega
theorem own_narc {c : Int32} (h : ¬ c < 0 ∧ ¬ (255 : Int32) < c) : nar .char c = c := by
  have t : ∀ k : Fin 256, nar .char (Int32.ofNat k.val) = Int32.ofNat k.val := by decide +kernel
  obtain ⟨k, rfl⟩ := own_rng h
  exact t k
theorem own_fitsc {c : Int32} (h : ¬ c < 0 ∧ ¬ (255 : Int32) < c) : fits .char (.int c) = true := by
  have t : ∀ k : Fin 256, fits .char (.int (Int32.ofNat k.val)) = true := by decide +kernel
  obtain ⟨k, rfl⟩ := own_rng h
  exact t k
theorem own_up {cs : List Int32} (h : ∀ c ∈ cs, ¬ c < 0 ∧ ¬ (255 : Int32) < c) : ∀ c ∈ cs, ¬ c < 0 ∧ ¬ (65535 : Int32) < c := fun c hc => ⟨(h c hc).1, fun q => (h c hc).2 (by rw [Int32.lt_iff_toInt_lt] at q ⊢; have e1 : (65535 : Int32).toInt = 65535 := rfl; have e2 : (255 : Int32).toInt = 255 := rfl; omega)⟩
theorem own_hws {Z : State} {a0 : Array Value} (hw : ∀ d ∈ tables_1, d.before a0 Z = true) : ∀ d ∈ StrChars.Road.words, d.before a0 Z = true := fun d hd => hw d ((by decide +kernel : ∀ d ∈ StrChars.Road.words, d ∈ tables_1) d hd)
theorem own_cod {Z : State} {h : Heap} {x t : Addr} {k : ClassId} {cs : List Int32} (S : Str Z h x t k cs) : StrChars.Road.CodA cs 0 (Int32.ofNat cs.length) ((cs.map fun c => c.toInt8.toInt32).map Value.int) := StrChars.Road.codOf rfl fun c hc => (S.2.2.2.2.1 c hc).2
theorem own_hln {Z : State} {a0 : Array Value} (hw : ∀ d ∈ tables_1, d.before a0 Z = true) : ∀ d ∈ StrChars.Road.wordsLen, d.before a0 Z = true := fun d hd => hw d ((by decide +kernel : ∀ d ∈ StrChars.Road.wordsLen, d ∈ tables_1) d hd)
theorem own_hch {Z : State} {a0 : Array Value} (hw : ∀ d ∈ tables_1, d.before a0 Z = true) : ∀ d ∈ StrChars.Road.wordsChN, d.before a0 Z = true := fun d hd => hw d ((by decide +kernel : ∀ d ∈ StrChars.Road.wordsChN, d ∈ tables_1) d hd)
end Jvm.Pilot.@@N@@
namespace Jvm.Pilot.@@N@@
open Jvm Jvm.ClassFile Sem Op Lib Jvm.Free Jvm.Stand Jvm.LawKit Jvm.RoadKit Bundle Jvm.Pilot.@@N@@.Jvm.D
theorem d1_0 : decode method_4_code 0 = .ok (.iload_n 0, 1) := by decide +kernel
theorem d1_1 : decode method_4_code 1 = .ok (.bipush 7, 2) := by decide +kernel
theorem d1_3 : decode method_4_code 3 = .ok (.iand, 1) := by decide +kernel
theorem d1_4 : decode method_4_code 4 = .ok (.istore_n 1, 1) := by decide +kernel
theorem d1_5 : decode method_4_code 5 = .ok (.iload_n 1, 1) := by decide +kernel
theorem d1_6 : decode method_4_code 6 = .ok (.ifCond .ne 6, 3) := by decide +kernel
theorem d1_9 : decode method_4_code 9 = .ok (.bipush 125, 2) := by decide +kernel
theorem d1_11 : decode method_4_code 11 = .ok (.ireturn, 1) := by decide +kernel
theorem d1_12 : decode method_4_code 12 = .ok (.iload_n 1, 1) := by decide +kernel
theorem d1_13 : decode method_4_code 13 = .ok (.iconst 1, 1) := by decide +kernel
theorem d1_14 : decode method_4_code 14 = .ok (.if_icmp .ne 6, 3) := by decide +kernel
theorem d1_17 : decode method_4_code 17 = .ok (.bipush 39, 2) := by decide +kernel
theorem d1_19 : decode method_4_code 19 = .ok (.ireturn, 1) := by decide +kernel
theorem d1_20 : decode method_4_code 20 = .ok (.iload_n 1, 1) := by decide +kernel
theorem d1_21 : decode method_4_code 21 = .ok (.iconst 2, 1) := by decide +kernel
theorem d1_22 : decode method_4_code 22 = .ok (.if_icmp .ne 6, 3) := by decide +kernel
theorem d1_25 : decode method_4_code 25 = .ok (.bipush 34, 2) := by decide +kernel
theorem d1_27 : decode method_4_code 27 = .ok (.ireturn, 1) := by decide +kernel
theorem d1_28 : decode method_4_code 28 = .ok (.iload_n 1, 1) := by decide +kernel
theorem d1_29 : decode method_4_code 29 = .ok (.iconst 3, 1) := by decide +kernel
theorem d1_30 : decode method_4_code 30 = .ok (.if_icmp .ne 6, 3) := by decide +kernel
theorem d1_33 : decode method_4_code 33 = .ok (.bipush 92, 2) := by decide +kernel
theorem d1_35 : decode method_4_code 35 = .ok (.ireturn, 1) := by decide +kernel
theorem d1_36 : decode method_4_code 36 = .ok (.iload_n 0, 1) := by decide +kernel
theorem d1_37 : decode method_4_code 37 = .ok (.iconst 3, 1) := by decide +kernel
theorem d1_38 : decode method_4_code 38 = .ok (.iushr, 1) := by decide +kernel
theorem d1_39 : decode method_4_code 39 = .ok (.sipush 255, 3) := by decide +kernel
theorem d1_42 : decode method_4_code 42 = .ok (.iand, 1) := by decide +kernel
theorem d1_43 : decode method_4_code 43 = .ok (.i2c, 1) := by decide +kernel
theorem d1_44 : decode method_4_code 44 = .ok (.ireturn, 1) := by decide +kernel
theorem d2_0 : decode jdk_42_method_3_code 0 = .ok (.aload_n 0, 1) := by decide +kernel
theorem d2_1 : decode jdk_42_method_3_code 1 = .ok (.aload_n 1, 1) := by decide +kernel
theorem d2_2 : decode jdk_42_method_3_code 2 = .ok (.iconst 0, 1) := by decide +kernel
theorem d2_3 : decode jdk_42_method_3_code 3 = .ok (.aload_n 1, 1) := by decide +kernel
theorem d2_4 : decode jdk_42_method_3_code 4 = .ok (.arraylength, 1) := by decide +kernel
theorem d2_5 : decode jdk_42_method_3_code 5 = .ok (.aconst_null, 1) := by decide +kernel
theorem d2_6 : decode jdk_42_method_3_code 6 = .ok (.invokespecial 27, 3) := by decide +kernel
theorem d2_9 : decode jdk_42_method_3_code 9 = .ok (.return_, 1) := by decide +kernel
theorem d3_0 : decode jdk_42_method_149_code 0 = .ok (.aload_n 0, 1) := by decide +kernel
theorem d3_1 : decode jdk_42_method_149_code 1 = .ok (.invokespecial 1, 3) := by decide +kernel
theorem d3_4 : decode jdk_42_method_149_code 4 = .ok (.iload_n 3, 1) := by decide +kernel
theorem d3_5 : decode jdk_42_method_149_code 5 = .ok (.ifCond .ne 22, 3) := by decide +kernel
theorem d3_8 : decode jdk_42_method_149_code 8 = .ok (.aload_n 0, 1) := by decide +kernel
theorem d3_9 : decode jdk_42_method_149_code 9 = .ok (.ldc 7, 2) := by decide +kernel
theorem d3_11 : decode jdk_42_method_149_code 11 = .ok (.getfield 9, 3) := by decide +kernel
theorem d3_14 : decode jdk_42_method_149_code 14 = .ok (.putfield 9, 3) := by decide +kernel
theorem d3_17 : decode jdk_42_method_149_code 17 = .ok (.aload_n 0, 1) := by decide +kernel
theorem d3_18 : decode jdk_42_method_149_code 18 = .ok (.ldc 7, 2) := by decide +kernel
theorem d3_20 : decode jdk_42_method_149_code 20 = .ok (.getfield 15, 3) := by decide +kernel
theorem d3_23 : decode jdk_42_method_149_code 23 = .ok (.putfield 15, 3) := by decide +kernel
theorem d3_26 : decode jdk_42_method_149_code 26 = .ok (.return_, 1) := by decide +kernel
theorem d5_0 : decode prog_7_method_3_code 0 = .ok (.aload_n 0, 1) := by decide +kernel
theorem d5_1 : decode prog_7_method_3_code 1 = .ok (.invokevirtual 41, 3) := by decide +kernel
theorem d5_4 : decode prog_7_method_3_code 4 = .ok (.iconst 1, 1) := by decide +kernel
theorem d5_5 : decode prog_7_method_3_code 5 = .ok (.iadd, 1) := by decide +kernel
theorem d5_6 : decode prog_7_method_3_code 6 = .ok (.newarray .int, 2) := by decide +kernel
theorem d5_8 : decode prog_7_method_3_code 8 = .ok (.astore_n 1, 1) := by decide +kernel
theorem d5_9 : decode prog_7_method_3_code 9 = .ok (.aload_n 1, 1) := by decide +kernel
theorem d5_10 : decode prog_7_method_3_code 10 = .ok (.aload_n 0, 1) := by decide +kernel
theorem d5_11 : decode prog_7_method_3_code 11 = .ok (.invokevirtual 41, 3) := by decide +kernel
theorem d5_14 : decode prog_7_method_3_code 14 = .ok (.iconst (-1), 1) := by decide +kernel
theorem d5_15 : decode prog_7_method_3_code 15 = .ok (.iastore, 1) := by decide +kernel
theorem d5_16 : decode prog_7_method_3_code 16 = .ok (.iconst (-1), 1) := by decide +kernel
theorem d5_17 : decode prog_7_method_3_code 17 = .ok (.istore_n 2, 1) := by decide +kernel
theorem d5_18 : decode prog_7_method_3_code 18 = .ok (.iconst (-1), 1) := by decide +kernel
theorem d5_19 : decode prog_7_method_3_code 19 = .ok (.istore_n 3, 1) := by decide +kernel
theorem d5_20 : decode prog_7_method_3_code 20 = .ok (.iconst (-1), 1) := by decide +kernel
theorem d5_21 : decode prog_7_method_3_code 21 = .ok (.istore 4, 2) := by decide +kernel
theorem d5_23 : decode prog_7_method_3_code 23 = .ok (.iconst (-1), 1) := by decide +kernel
theorem d5_24 : decode prog_7_method_3_code 24 = .ok (.istore 5, 2) := by decide +kernel
theorem d5_26 : decode prog_7_method_3_code 26 = .ok (.aload_n 0, 1) := by decide +kernel
theorem d5_27 : decode prog_7_method_3_code 27 = .ok (.invokevirtual 41, 3) := by decide +kernel
theorem d5_30 : decode prog_7_method_3_code 30 = .ok (.iconst 1, 1) := by decide +kernel
theorem d5_31 : decode prog_7_method_3_code 31 = .ok (.isub, 1) := by decide +kernel
theorem d5_32 : decode prog_7_method_3_code 32 = .ok (.istore 6, 2) := by decide +kernel
theorem d5_34 : decode prog_7_method_3_code 34 = .ok (.iload 6, 2) := by decide +kernel
theorem d5_36 : decode prog_7_method_3_code 36 = .ok (.ifCond .lt 161, 3) := by decide +kernel
theorem d5_39 : decode prog_7_method_3_code 39 = .ok (.aload_n 0, 1) := by decide +kernel
theorem d5_40 : decode prog_7_method_3_code 40 = .ok (.iload 6, 2) := by decide +kernel
theorem d5_42 : decode prog_7_method_3_code 42 = .ok (.invokevirtual 47, 3) := by decide +kernel
theorem d5_45 : decode prog_7_method_3_code 45 = .ok (.istore 7, 2) := by decide +kernel
theorem d5_47 : decode prog_7_method_3_code 47 = .ok (.iload 7, 2) := by decide +kernel
theorem d5_49 : decode prog_7_method_3_code 49 = .ok (.bipush 125, 2) := by decide +kernel
theorem d5_51 : decode prog_7_method_3_code 51 = .ok (.if_icmp .ne 12, 3) := by decide +kernel
theorem d5_54 : decode prog_7_method_3_code 54 = .ok (.aload_n 1, 1) := by decide +kernel
theorem d5_55 : decode prog_7_method_3_code 55 = .ok (.iload 6, 2) := by decide +kernel
theorem d5_57 : decode prog_7_method_3_code 57 = .ok (.iload 6, 2) := by decide +kernel
theorem d5_59 : decode prog_7_method_3_code 59 = .ok (.iastore, 1) := by decide +kernel
theorem d5_60 : decode prog_7_method_3_code 60 = .ok (.goto 64, 3) := by decide +kernel
theorem d5_63 : decode prog_7_method_3_code 63 = .ok (.iload 7, 2) := by decide +kernel
theorem d5_65 : decode prog_7_method_3_code 65 = .ok (.bipush 39, 2) := by decide +kernel
theorem d5_67 : decode prog_7_method_3_code 67 = .ok (.if_icmp .eq 10, 3) := by decide +kernel
theorem d5_70 : decode prog_7_method_3_code 70 = .ok (.iload 7, 2) := by decide +kernel
theorem d5_72 : decode prog_7_method_3_code 72 = .ok (.bipush 34, 2) := by decide +kernel
theorem d5_74 : decode prog_7_method_3_code 74 = .ok (.if_icmp .ne 40, 3) := by decide +kernel
theorem d5_77 : decode prog_7_method_3_code 77 = .ok (.iload 7, 2) := by decide +kernel
theorem d5_79 : decode prog_7_method_3_code 79 = .ok (.bipush 39, 2) := by decide +kernel
theorem d5_81 : decode prog_7_method_3_code 81 = .ok (.if_icmp .ne 7, 3) := by decide +kernel
theorem d5_84 : decode prog_7_method_3_code 84 = .ok (.iload_n 2, 1) := by decide +kernel
theorem d5_85 : decode prog_7_method_3_code 85 = .ok (.goto 5, 3) := by decide +kernel
theorem d5_88 : decode prog_7_method_3_code 88 = .ok (.iload 4, 2) := by decide +kernel
theorem d5_90 : decode prog_7_method_3_code 90 = .ok (.istore 8, 2) := by decide +kernel
theorem d5_92 : decode prog_7_method_3_code 92 = .ok (.aload_n 1, 1) := by decide +kernel
theorem d5_93 : decode prog_7_method_3_code 93 = .ok (.iload 6, 2) := by decide +kernel
theorem d5_95 : decode prog_7_method_3_code 95 = .ok (.iload 8, 2) := by decide +kernel
theorem d5_97 : decode prog_7_method_3_code 97 = .ok (.ifCond .ge 7, 3) := by decide +kernel
theorem d5_100 : decode prog_7_method_3_code 100 = .ok (.iconst (-1), 1) := by decide +kernel
theorem d5_101 : decode prog_7_method_3_code 101 = .ok (.goto 9, 3) := by decide +kernel
theorem d5_104 : decode prog_7_method_3_code 104 = .ok (.aload_n 1, 1) := by decide +kernel
theorem d5_105 : decode prog_7_method_3_code 105 = .ok (.iload 8, 2) := by decide +kernel
theorem d5_107 : decode prog_7_method_3_code 107 = .ok (.iconst 1, 1) := by decide +kernel
theorem d5_108 : decode prog_7_method_3_code 108 = .ok (.iadd, 1) := by decide +kernel
theorem d5_109 : decode prog_7_method_3_code 109 = .ok (.iaload, 1) := by decide +kernel
theorem d5_110 : decode prog_7_method_3_code 110 = .ok (.iastore, 1) := by decide +kernel
theorem d5_111 : decode prog_7_method_3_code 111 = .ok (.goto 13, 3) := by decide +kernel
theorem d5_114 : decode prog_7_method_3_code 114 = .ok (.aload_n 1, 1) := by decide +kernel
theorem d5_115 : decode prog_7_method_3_code 115 = .ok (.iload 6, 2) := by decide +kernel
theorem d5_117 : decode prog_7_method_3_code 117 = .ok (.aload_n 1, 1) := by decide +kernel
theorem d5_118 : decode prog_7_method_3_code 118 = .ok (.iload 6, 2) := by decide +kernel
theorem d5_120 : decode prog_7_method_3_code 120 = .ok (.iconst 1, 1) := by decide +kernel
theorem d5_121 : decode prog_7_method_3_code 121 = .ok (.iadd, 1) := by decide +kernel
theorem d5_122 : decode prog_7_method_3_code 122 = .ok (.iaload, 1) := by decide +kernel
theorem d5_123 : decode prog_7_method_3_code 123 = .ok (.iastore, 1) := by decide +kernel
theorem d5_124 : decode prog_7_method_3_code 124 = .ok (.iload 7, 2) := by decide +kernel
theorem d5_126 : decode prog_7_method_3_code 126 = .ok (.bipush 92, 2) := by decide +kernel
theorem d5_128 : decode prog_7_method_3_code 128 = .ok (.if_icmp .ne 7, 3) := by decide +kernel
theorem d5_131 : decode prog_7_method_3_code 131 = .ok (.iload_n 3, 1) := by decide +kernel
theorem d5_132 : decode prog_7_method_3_code 132 = .ok (.goto 16, 3) := by decide +kernel
theorem d5_135 : decode prog_7_method_3_code 135 = .ok (.iload 7, 2) := by decide +kernel
theorem d5_137 : decode prog_7_method_3_code 137 = .ok (.bipush 39, 2) := by decide +kernel
theorem d5_139 : decode prog_7_method_3_code 139 = .ok (.if_icmp .ne 8, 3) := by decide +kernel
theorem d5_142 : decode prog_7_method_3_code 142 = .ok (.iload 6, 2) := by decide +kernel
theorem d5_144 : decode prog_7_method_3_code 144 = .ok (.goto 4, 3) := by decide +kernel
theorem d5_147 : decode prog_7_method_3_code 147 = .ok (.iload_n 2, 1) := by decide +kernel
theorem d5_148 : decode prog_7_method_3_code 148 = .ok (.istore 8, 2) := by decide +kernel
theorem d5_150 : decode prog_7_method_3_code 150 = .ok (.iload 7, 2) := by decide +kernel
theorem d5_152 : decode prog_7_method_3_code 152 = .ok (.bipush 92, 2) := by decide +kernel
theorem d5_154 : decode prog_7_method_3_code 154 = .ok (.if_icmp .ne 8, 3) := by decide +kernel
theorem d5_157 : decode prog_7_method_3_code 157 = .ok (.iload 5, 2) := by decide +kernel
theorem d5_159 : decode prog_7_method_3_code 159 = .ok (.goto 17, 3) := by decide +kernel
theorem d5_162 : decode prog_7_method_3_code 162 = .ok (.iload 7, 2) := by decide +kernel
theorem d5_164 : decode prog_7_method_3_code 164 = .ok (.bipush 34, 2) := by decide +kernel
theorem d5_166 : decode prog_7_method_3_code 166 = .ok (.if_icmp .ne 8, 3) := by decide +kernel
theorem d5_169 : decode prog_7_method_3_code 169 = .ok (.iload 6, 2) := by decide +kernel
theorem d5_171 : decode prog_7_method_3_code 171 = .ok (.goto 5, 3) := by decide +kernel
theorem d5_174 : decode prog_7_method_3_code 174 = .ok (.iload 4, 2) := by decide +kernel
theorem d5_176 : decode prog_7_method_3_code 176 = .ok (.istore 9, 2) := by decide +kernel
theorem d5_178 : decode prog_7_method_3_code 178 = .ok (.iload_n 2, 1) := by decide +kernel
theorem d5_179 : decode prog_7_method_3_code 179 = .ok (.istore_n 3, 1) := by decide +kernel
theorem d5_180 : decode prog_7_method_3_code 180 = .ok (.iload 8, 2) := by decide +kernel
theorem d5_182 : decode prog_7_method_3_code 182 = .ok (.istore_n 2, 1) := by decide +kernel
theorem d5_183 : decode prog_7_method_3_code 183 = .ok (.iload 4, 2) := by decide +kernel
theorem d5_185 : decode prog_7_method_3_code 185 = .ok (.istore 5, 2) := by decide +kernel
theorem d5_187 : decode prog_7_method_3_code 187 = .ok (.iload 9, 2) := by decide +kernel
theorem d5_189 : decode prog_7_method_3_code 189 = .ok (.istore 4, 2) := by decide +kernel
theorem d5_191 : decode prog_7_method_3_code 191 = .ok (.iinc 6 (-1), 3) := by decide +kernel
theorem d5_194 : decode prog_7_method_3_code 194 = .ok (.goto (-160), 3) := by decide +kernel
theorem d5_197 : decode prog_7_method_3_code 197 = .ok (.aload_n 1, 1) := by decide +kernel
theorem d5_198 : decode prog_7_method_3_code 198 = .ok (.areturn, 1) := by decide +kernel
theorem d8_0 : decode method_3_code 0 = .ok (.iload_n 3, 1) := by decide +kernel
theorem d8_1 : decode method_3_code 1 = .ok (.iload_n 2, 1) := by decide +kernel
theorem d8_2 : decode method_3_code 2 = .ok (.if_icmp .gt 15, 3) := by decide +kernel
theorem d8_5 : decode method_3_code 5 = .ok (.aload_n 0, 1) := by decide +kernel
theorem d8_6 : decode method_3_code 6 = .ok (.iload_n 3, 1) := by decide +kernel
theorem d8_7 : decode method_3_code 7 = .ok (.iaload, 1) := by decide +kernel
theorem d8_8 : decode method_3_code 8 = .ok (.aload_n 1, 1) := by decide +kernel
theorem d8_9 : decode method_3_code 9 = .ok (.iload_n 2, 1) := by decide +kernel
theorem d8_10 : decode method_3_code 10 = .ok (.iload_n 3, 1) := by decide +kernel
theorem d8_11 : decode method_3_code 11 = .ok (.invokestatic 28, 3) := by decide +kernel
theorem d8_14 : decode method_3_code 14 = .ok (.if_icmp .ne 7, 3) := by decide +kernel
theorem d8_17 : decode method_3_code 17 = .ok (.iconst 1, 1) := by decide +kernel
theorem d8_18 : decode method_3_code 18 = .ok (.goto 4, 3) := by decide +kernel
theorem d8_22 : decode method_3_code 22 = .ok (.ireturn, 1) := by decide +kernel
theorem d9_0 : decode method_5_code 0 = .ok (.iload_n 2, 1) := by decide +kernel
theorem d9_1 : decode method_5_code 1 = .ok (.istore_n 3, 1) := by decide +kernel
theorem d9_2 : decode method_5_code 2 = .ok (.aload_n 0, 1) := by decide +kernel
theorem d9_3 : decode method_5_code 3 = .ok (.iload_n 1, 1) := by decide +kernel
theorem d9_4 : decode method_5_code 4 = .ok (.iload_n 3, 1) := by decide +kernel
theorem d9_5 : decode method_5_code 5 = .ok (.invokestatic 32, 3) := by decide +kernel
theorem d9_8 : decode method_5_code 8 = .ok (.istore_n 3, 1) := by decide +kernel
theorem d9_9 : decode method_5_code 9 = .ok (.aload_n 0, 1) := by decide +kernel
theorem d9_10 : decode method_5_code 10 = .ok (.iload_n 1, 1) := by decide +kernel
theorem d9_11 : decode method_5_code 11 = .ok (.iload_n 3, 1) := by decide +kernel
theorem d9_12 : decode method_5_code 12 = .ok (.invokestatic 32, 3) := by decide +kernel
theorem d9_15 : decode method_5_code 15 = .ok (.istore_n 3, 1) := by decide +kernel
theorem d9_16 : decode method_5_code 16 = .ok (.aload_n 0, 1) := by decide +kernel
theorem d9_17 : decode method_5_code 17 = .ok (.iload_n 1, 1) := by decide +kernel
theorem d9_18 : decode method_5_code 18 = .ok (.iload_n 3, 1) := by decide +kernel
theorem d9_19 : decode method_5_code 19 = .ok (.invokestatic 32, 3) := by decide +kernel
theorem d9_22 : decode method_5_code 22 = .ok (.istore_n 3, 1) := by decide +kernel
theorem d9_23 : decode method_5_code 23 = .ok (.aload_n 0, 1) := by decide +kernel
theorem d9_24 : decode method_5_code 24 = .ok (.iload_n 1, 1) := by decide +kernel
theorem d9_25 : decode method_5_code 25 = .ok (.iload_n 3, 1) := by decide +kernel
theorem d9_26 : decode method_5_code 26 = .ok (.invokestatic 32, 3) := by decide +kernel
theorem d9_29 : decode method_5_code 29 = .ok (.istore_n 3, 1) := by decide +kernel
theorem d9_30 : decode method_5_code 30 = .ok (.aload_n 0, 1) := by decide +kernel
theorem d9_31 : decode method_5_code 31 = .ok (.iload_n 1, 1) := by decide +kernel
theorem d9_32 : decode method_5_code 32 = .ok (.iload_n 3, 1) := by decide +kernel
theorem d9_33 : decode method_5_code 33 = .ok (.invokestatic 32, 3) := by decide +kernel
theorem d9_36 : decode method_5_code 36 = .ok (.istore_n 3, 1) := by decide +kernel
theorem d9_37 : decode method_5_code 37 = .ok (.aload_n 0, 1) := by decide +kernel
theorem d9_38 : decode method_5_code 38 = .ok (.iload_n 1, 1) := by decide +kernel
theorem d9_39 : decode method_5_code 39 = .ok (.iload_n 3, 1) := by decide +kernel
theorem d9_40 : decode method_5_code 40 = .ok (.invokestatic 32, 3) := by decide +kernel
theorem d9_43 : decode method_5_code 43 = .ok (.istore_n 3, 1) := by decide +kernel
theorem d9_44 : decode method_5_code 44 = .ok (.iload_n 3, 1) := by decide +kernel
theorem d9_45 : decode method_5_code 45 = .ok (.iconst (-1), 1) := by decide +kernel
theorem d9_46 : decode method_5_code 46 = .ok (.if_icmp .ge 10, 3) := by decide +kernel
theorem d9_49 : decode method_5_code 49 = .ok (.iload_n 3, 1) := by decide +kernel
theorem d9_50 : decode method_5_code 50 = .ok (.ineg, 1) := by decide +kernel
theorem d9_51 : decode method_5_code 51 = .ok (.iconst 2, 1) := by decide +kernel
theorem d9_52 : decode method_5_code 52 = .ok (.isub, 1) := by decide +kernel
theorem d9_53 : decode method_5_code 53 = .ok (.goto 4, 3) := by decide +kernel
theorem d9_56 : decode method_5_code 56 = .ok (.iconst (-1), 1) := by decide +kernel
theorem d9_57 : decode method_5_code 57 = .ok (.ireturn, 1) := by decide +kernel
theorem d10_0 : decode method_6_code 0 = .ok (.iload_n 2, 1) := by decide +kernel
theorem d10_1 : decode method_6_code 1 = .ok (.ifCond .ge 5, 3) := by decide +kernel
theorem d10_4 : decode method_6_code 4 = .ok (.iload_n 2, 1) := by decide +kernel
theorem d10_5 : decode method_6_code 5 = .ok (.ireturn, 1) := by decide +kernel
theorem d10_6 : decode method_6_code 6 = .ok (.iload_n 2, 1) := by decide +kernel
theorem d10_7 : decode method_6_code 7 = .ok (.iload_n 1, 1) := by decide +kernel
theorem d10_8 : decode method_6_code 8 = .ok (.if_icmp .lt 5, 3) := by decide +kernel
theorem d10_11 : decode method_6_code 11 = .ok (.iconst (-1), 1) := by decide +kernel
theorem d10_12 : decode method_6_code 12 = .ok (.ireturn, 1) := by decide +kernel
theorem d10_13 : decode method_6_code 13 = .ok (.aload_n 0, 1) := by decide +kernel
theorem d10_14 : decode method_6_code 14 = .ok (.iload_n 2, 1) := by decide +kernel
theorem d10_15 : decode method_6_code 15 = .ok (.caload, 1) := by decide +kernel
theorem d10_16 : decode method_6_code 16 = .ok (.istore_n 3, 1) := by decide +kernel
theorem d10_17 : decode method_6_code 17 = .ok (.iload_n 3, 1) := by decide +kernel
theorem d10_18 : decode method_6_code 18 = .ok (.bipush 125, 2) := by decide +kernel
theorem d10_20 : decode method_6_code 20 = .ok (.if_icmp .ne 8, 3) := by decide +kernel
theorem d10_23 : decode method_6_code 23 = .ok (.iload_n 2, 1) := by decide +kernel
theorem d10_24 : decode method_6_code 24 = .ok (.ineg, 1) := by decide +kernel
theorem d10_25 : decode method_6_code 25 = .ok (.iconst 2, 1) := by decide +kernel
theorem d10_26 : decode method_6_code 26 = .ok (.isub, 1) := by decide +kernel
theorem d10_27 : decode method_6_code 27 = .ok (.ireturn, 1) := by decide +kernel
theorem d10_28 : decode method_6_code 28 = .ok (.iload_n 3, 1) := by decide +kernel
theorem d10_29 : decode method_6_code 29 = .ok (.bipush 39, 2) := by decide +kernel
theorem d10_31 : decode method_6_code 31 = .ok (.if_icmp .eq 9, 3) := by decide +kernel
theorem d10_34 : decode method_6_code 34 = .ok (.iload_n 3, 1) := by decide +kernel
theorem d10_35 : decode method_6_code 35 = .ok (.bipush 34, 2) := by decide +kernel
theorem d10_37 : decode method_6_code 37 = .ok (.if_icmp .ne 28, 3) := by decide +kernel
theorem d10_40 : decode method_6_code 40 = .ok (.aload_n 0, 1) := by decide +kernel
theorem d10_41 : decode method_6_code 41 = .ok (.iload_n 1, 1) := by decide +kernel
theorem d10_42 : decode method_6_code 42 = .ok (.iload_n 2, 1) := by decide +kernel
theorem d10_43 : decode method_6_code 43 = .ok (.iconst 1, 1) := by decide +kernel
theorem d10_44 : decode method_6_code 44 = .ok (.iadd, 1) := by decide +kernel
theorem d10_45 : decode method_6_code 45 = .ok (.iload_n 3, 1) := by decide +kernel
theorem d10_46 : decode method_6_code 46 = .ok (.invokestatic 35, 3) := by decide +kernel
theorem d10_49 : decode method_6_code 49 = .ok (.istore 4, 2) := by decide +kernel
theorem d10_51 : decode method_6_code 51 = .ok (.iload 4, 2) := by decide +kernel
theorem d10_53 : decode method_6_code 53 = .ok (.ifCond .ge 7, 3) := by decide +kernel
theorem d10_56 : decode method_6_code 56 = .ok (.iconst (-1), 1) := by decide +kernel
theorem d10_57 : decode method_6_code 57 = .ok (.goto 7, 3) := by decide +kernel
theorem d10_60 : decode method_6_code 60 = .ok (.iload 4, 2) := by decide +kernel
theorem d10_62 : decode method_6_code 62 = .ok (.iconst 1, 1) := by decide +kernel
theorem d10_63 : decode method_6_code 63 = .ok (.iadd, 1) := by decide +kernel
theorem d10_64 : decode method_6_code 64 = .ok (.ireturn, 1) := by decide +kernel
theorem d10_65 : decode method_6_code 65 = .ok (.iload_n 2, 1) := by decide +kernel
theorem d10_66 : decode method_6_code 66 = .ok (.iconst 1, 1) := by decide +kernel
theorem d10_67 : decode method_6_code 67 = .ok (.iadd, 1) := by decide +kernel
theorem d10_68 : decode method_6_code 68 = .ok (.ireturn, 1) := by decide +kernel
theorem d19_0 : decode method_7_code 0 = .ok (.iload_n 2, 1) := by decide +kernel
theorem d19_1 : decode method_7_code 1 = .ok (.istore 4, 2) := by decide +kernel
theorem d19_3 : decode method_7_code 3 = .ok (.aload_n 0, 1) := by decide +kernel
theorem d19_4 : decode method_7_code 4 = .ok (.iload_n 1, 1) := by decide +kernel
theorem d19_5 : decode method_7_code 5 = .ok (.iload 4, 2) := by decide +kernel
theorem d19_7 : decode method_7_code 7 = .ok (.iload_n 3, 1) := by decide +kernel
theorem d19_8 : decode method_7_code 8 = .ok (.invokestatic 39, 3) := by decide +kernel
theorem d19_11 : decode method_7_code 11 = .ok (.istore 4, 2) := by decide +kernel
theorem d19_13 : decode method_7_code 13 = .ok (.aload_n 0, 1) := by decide +kernel
theorem d19_14 : decode method_7_code 14 = .ok (.iload_n 1, 1) := by decide +kernel
theorem d19_15 : decode method_7_code 15 = .ok (.iload 4, 2) := by decide +kernel
theorem d19_17 : decode method_7_code 17 = .ok (.iload_n 3, 1) := by decide +kernel
theorem d19_18 : decode method_7_code 18 = .ok (.invokestatic 39, 3) := by decide +kernel
theorem d19_21 : decode method_7_code 21 = .ok (.istore 4, 2) := by decide +kernel
theorem d19_23 : decode method_7_code 23 = .ok (.aload_n 0, 1) := by decide +kernel
theorem d19_24 : decode method_7_code 24 = .ok (.iload_n 1, 1) := by decide +kernel
theorem d19_25 : decode method_7_code 25 = .ok (.iload 4, 2) := by decide +kernel
theorem d19_27 : decode method_7_code 27 = .ok (.iload_n 3, 1) := by decide +kernel
theorem d19_28 : decode method_7_code 28 = .ok (.invokestatic 39, 3) := by decide +kernel
theorem d19_31 : decode method_7_code 31 = .ok (.istore 4, 2) := by decide +kernel
theorem d19_33 : decode method_7_code 33 = .ok (.aload_n 0, 1) := by decide +kernel
theorem d19_34 : decode method_7_code 34 = .ok (.iload_n 1, 1) := by decide +kernel
theorem d19_35 : decode method_7_code 35 = .ok (.iload 4, 2) := by decide +kernel
theorem d19_37 : decode method_7_code 37 = .ok (.iload_n 3, 1) := by decide +kernel
theorem d19_38 : decode method_7_code 38 = .ok (.invokestatic 39, 3) := by decide +kernel
theorem d19_41 : decode method_7_code 41 = .ok (.istore 4, 2) := by decide +kernel
theorem d19_43 : decode method_7_code 43 = .ok (.aload_n 0, 1) := by decide +kernel
theorem d19_44 : decode method_7_code 44 = .ok (.iload_n 1, 1) := by decide +kernel
theorem d19_45 : decode method_7_code 45 = .ok (.iload 4, 2) := by decide +kernel
theorem d19_47 : decode method_7_code 47 = .ok (.iload_n 3, 1) := by decide +kernel
theorem d19_48 : decode method_7_code 48 = .ok (.invokestatic 39, 3) := by decide +kernel
theorem d19_51 : decode method_7_code 51 = .ok (.istore 4, 2) := by decide +kernel
theorem d19_53 : decode method_7_code 53 = .ok (.iload 4, 2) := by decide +kernel
theorem d19_55 : decode method_7_code 55 = .ok (.iload_n 1, 1) := by decide +kernel
theorem d19_56 : decode method_7_code 56 = .ok (.if_icmp .ge 16, 3) := by decide +kernel
theorem d19_59 : decode method_7_code 59 = .ok (.aload_n 0, 1) := by decide +kernel
theorem d19_60 : decode method_7_code 60 = .ok (.iload 4, 2) := by decide +kernel
theorem d19_62 : decode method_7_code 62 = .ok (.caload, 1) := by decide +kernel
theorem d19_63 : decode method_7_code 63 = .ok (.iload_n 3, 1) := by decide +kernel
theorem d19_64 : decode method_7_code 64 = .ok (.if_icmp .ne 8, 3) := by decide +kernel
theorem d19_67 : decode method_7_code 67 = .ok (.iload 4, 2) := by decide +kernel
theorem d19_69 : decode method_7_code 69 = .ok (.goto 4, 3) := by decide +kernel
theorem d19_72 : decode method_7_code 72 = .ok (.iconst (-1), 1) := by decide +kernel
theorem d19_73 : decode method_7_code 73 = .ok (.ireturn, 1) := by decide +kernel
theorem d20_0 : decode method_8_code 0 = .ok (.iload_n 2, 1) := by decide +kernel
theorem d20_1 : decode method_8_code 1 = .ok (.iload_n 1, 1) := by decide +kernel
theorem d20_2 : decode method_8_code 2 = .ok (.if_icmp .ge 10, 3) := by decide +kernel
theorem d20_5 : decode method_8_code 5 = .ok (.aload_n 0, 1) := by decide +kernel
theorem d20_6 : decode method_8_code 6 = .ok (.iload_n 2, 1) := by decide +kernel
theorem d20_7 : decode method_8_code 7 = .ok (.caload, 1) := by decide +kernel
theorem d20_8 : decode method_8_code 8 = .ok (.iload_n 3, 1) := by decide +kernel
theorem d20_9 : decode method_8_code 9 = .ok (.if_icmp .ne 5, 3) := by decide +kernel
theorem d20_12 : decode method_8_code 12 = .ok (.iload_n 2, 1) := by decide +kernel
theorem d20_13 : decode method_8_code 13 = .ok (.ireturn, 1) := by decide +kernel
theorem d20_14 : decode method_8_code 14 = .ok (.aload_n 0, 1) := by decide +kernel
theorem d20_15 : decode method_8_code 15 = .ok (.iload_n 2, 1) := by decide +kernel
theorem d20_16 : decode method_8_code 16 = .ok (.caload, 1) := by decide +kernel
theorem d20_17 : decode method_8_code 17 = .ok (.bipush 92, 2) := by decide +kernel
theorem d20_19 : decode method_8_code 19 = .ok (.if_icmp .ne 9, 3) := by decide +kernel
theorem d20_22 : decode method_8_code 22 = .ok (.iload_n 2, 1) := by decide +kernel
theorem d20_23 : decode method_8_code 23 = .ok (.iconst 2, 1) := by decide +kernel
theorem d20_24 : decode method_8_code 24 = .ok (.iadd, 1) := by decide +kernel
theorem d20_25 : decode method_8_code 25 = .ok (.goto 6, 3) := by decide +kernel
theorem d20_28 : decode method_8_code 28 = .ok (.iload_n 2, 1) := by decide +kernel
theorem d20_29 : decode method_8_code 29 = .ok (.iconst 1, 1) := by decide +kernel
theorem d20_30 : decode method_8_code 30 = .ok (.iadd, 1) := by decide +kernel
theorem d20_31 : decode method_8_code 31 = .ok (.ireturn, 1) := by decide +kernel
theorem pn_0 : plainName "java/lang/String" = true := by first | (simp [plainName, overriddenIn]; done) | decide +kernel
theorem pn_1 : plainName "com/example/warrant/warrant/messages/ExpressionParserEndsPinLaw" = true := by first | (simp [plainName, overriddenIn]; done) | decide +kernel
theorem pn_2 : plainName "com/example/warrant/warrant/messages/ExpressionParser" = true := by first | (simp [plainName, overriddenIn]; done) | decide +kernel
theorem pd_0 : parseMethodDescriptor "([CIILjava/lang/Void;)V" = some ⟨[(.array .char), .int, .int, (.object "java/lang/Void")], none⟩ := by decide +kernel
theorem pd_1 : parseMethodDescriptor "([CIIC)I" = some ⟨[(.array .char), .int, .int, .char], some .int⟩ := by decide +kernel
theorem pd_2 : parseMethodDescriptor "([CII)I" = some ⟨[(.array .char), .int, .int], some .int⟩ := by decide +kernel
theorem pd_3 : parseMethodDescriptor "()I" = some ⟨[], some .int⟩ := by decide +kernel
theorem pd_4 : parseMethodDescriptor "(I)C" = some ⟨[.int], some .char⟩ := by decide +kernel
theorem pd_5 : parseMethodDescriptor "(Ljava/lang/String;)[I" = some ⟨[(.object "java/lang/String")], some (.array .int)⟩ := by decide +kernel
theorem pd_6 : parseMethodDescriptor "([I[CII)Z" = some ⟨[(.array .int), (.array .char), .int, .int], some .boolean⟩ := by decide +kernel
theorem pd_7 : parseMethodDescriptor "([C)V" = some ⟨[(.array .char)], none⟩ := by decide +kernel
theorem hw0 {Z : State} {a0 : Array Value} (hw : ∀ d ∈ tables_1, d.before a0 Z = true) : (Jvm.Cond.arrayClass Jvm.ClassFile.FieldType.char).before a0 Z = true := hw _ (List.mem_of_getElem? (i := 0) rfl)
theorem hw1 {Z : State} {a0 : Array Value} (hw : ∀ d ∈ tables_1, d.before a0 Z = true) : (Jvm.Cond.methodLink "com/example/warrant/warrant/messages/ExpressionParserEndsPinLaw" (7 : Nat) ({ cls := "com/example/warrant/warrant/messages/ExpressionParserEndsPinLaw", name := "pick", desc := "(I)C" } : Jvm.MethodName)).before a0 Z = true := hw _ (List.mem_of_getElem? (i := 1) rfl)
theorem hw2 {Z : State} {a0 : Array Value} (hw : ∀ d ∈ tables_1, d.before a0 Z = true) : (Jvm.Cond.static ({ cls := "com/example/warrant/warrant/messages/ExpressionParserEndsPinLaw", name := "pick", desc := "(I)C" } : Jvm.MethodName)).before a0 Z = true := hw _ (List.mem_of_getElem? (i := 2) rfl)
theorem hw3 {Z : State} {a0 : Array Value} (hw : ∀ d ∈ tables_1, d.before a0 Z = true) : (Jvm.Cond.initialized "com/example/warrant/warrant/messages/ExpressionParserEndsPinLaw").before a0 Z = true := hw _ (List.mem_of_getElem? (i := 3) rfl)
theorem hw4 {Z : State} {a0 : Array Value} (hw : ∀ d ∈ tables_1, d.before a0 Z = true) : (Jvm.Cond.code ({ cls := "com/example/warrant/warrant/messages/ExpressionParserEndsPinLaw", name := "pick", desc := "(I)C" } : Jvm.MethodName) method_4_code (2 : Nat) (Option.some Jvm.ClassFile.FieldType.char)).before a0 Z = true := hw _ (List.mem_of_getElem? (i := 4) rfl)
theorem hw5 {Z : State} {a0 : Array Value} (hw : ∀ d ∈ tables_1, d.before a0 Z = true) : (Jvm.Cond.classLink "com/example/warrant/warrant/messages/ExpressionParserEndsPinLaw" (13 : Nat) "java/lang/String").before a0 Z = true := hw _ (List.mem_of_getElem? (i := 5) rfl)
theorem hw6 {Z : State} {a0 : Array Value} (hw : ∀ d ∈ tables_1, d.before a0 Z = true) : (Jvm.Cond.instantiable "java/lang/String" (4 : Nat)).before a0 Z = true := hw _ (List.mem_of_getElem? (i := 6) rfl)
theorem hw7 {Z : State} {a0 : Array Value} (hw : ∀ d ∈ tables_1, d.before a0 Z = true) : (Jvm.Cond.initialized "java/lang/String").before a0 Z = true := hw _ (List.mem_of_getElem? (i := 7) rfl)
theorem hw8 {Z : State} {a0 : Array Value} (hw : ∀ d ∈ tables_1, d.before a0 Z = true) : (Jvm.Cond.methodLink "com/example/warrant/warrant/messages/ExpressionParserEndsPinLaw" (15 : Nat) ({ cls := "java/lang/String", name := "<init>", desc := "([C)V" } : Jvm.MethodName)).before a0 Z = true := hw _ (List.mem_of_getElem? (i := 8) rfl)
theorem hw9 {Z : State} {a0 : Array Value} (hw : ∀ d ∈ tables_1, d.before a0 Z = true) : (Jvm.Cond.instanceMethod ({ cls := "java/lang/String", name := "<init>", desc := "([C)V" } : Jvm.MethodName)).before a0 Z = true := hw _ (List.mem_of_getElem? (i := 9) rfl)
theorem hw10 {Z : State} {a0 : Array Value} (hw : ∀ d ∈ tables_1, d.before a0 Z = true) : (Jvm.Cond.code ({ cls := "java/lang/String", name := "<init>", desc := "([C)V" } : Jvm.MethodName) jdk_42_method_3_code (2 : Nat) (Option.none : Option Jvm.ClassFile.FieldType)).before a0 Z = true := hw _ (List.mem_of_getElem? (i := 10) rfl)
theorem hw11 {Z : State} {a0 : Array Value} (hw : ∀ d ∈ tables_1, d.before a0 Z = true) : (Jvm.Cond.methodLink "java/lang/String" (27 : Nat) ({ cls := "java/lang/String", name := "<init>", desc := "([CIILjava/lang/Void;)V" } : Jvm.MethodName)).before a0 Z = true := hw _ (List.mem_of_getElem? (i := 11) rfl)
theorem hw12 {Z : State} {a0 : Array Value} (hw : ∀ d ∈ tables_1, d.before a0 Z = true) : (Jvm.Cond.instanceMethod ({ cls := "java/lang/String", name := "<init>", desc := "([CIILjava/lang/Void;)V" } : Jvm.MethodName)).before a0 Z = true := hw _ (List.mem_of_getElem? (i := 12) rfl)
theorem hw14 {Z : State} {a0 : Array Value} (hw : ∀ d ∈ tables_1, d.before a0 Z = true) : (Jvm.Cond.code ({ cls := "java/lang/String", name := "<init>", desc := "([CIILjava/lang/Void;)V" } : Jvm.MethodName) jdk_42_method_149_code (6 : Nat) (Option.none : Option Jvm.ClassFile.FieldType)).before a0 Z = true := hw _ (List.mem_of_getElem? (i := 14) rfl)
theorem hw15 {Z : State} {a0 : Array Value} (hw : ∀ d ∈ tables_1, d.before a0 Z = true) : (Jvm.Cond.methodLink "java/lang/String" (1 : Nat) ({ cls := "java/lang/Object", name := "<init>", desc := "()V" } : Jvm.MethodName)).before a0 Z = true := hw _ (List.mem_of_getElem? (i := 15) rfl)
theorem hw16 {Z : State} {a0 : Array Value} (hw : ∀ d ∈ tables_1, d.before a0 Z = true) : (Jvm.Cond.instanceMethod ({ cls := "java/lang/Object", name := "<init>", desc := "()V" } : Jvm.MethodName)).before a0 Z = true := hw _ (List.mem_of_getElem? (i := 16) rfl)
theorem hw17 {Z : State} {a0 : Array Value} (hw : ∀ d ∈ tables_1, d.before a0 Z = true) : (Jvm.Cond.code ({ cls := "java/lang/Object", name := "<init>", desc := "()V" } : Jvm.MethodName) object_method_1_code (1 : Nat) (Option.none : Option Jvm.ClassFile.FieldType)).before a0 Z = true := hw _ (List.mem_of_getElem? (i := 17) rfl)
theorem hw18 {Z : State} {a0 : Array Value} (hw : ∀ d ∈ tables_1, d.before a0 Z = true) : (Jvm.Cond.stringLink "java/lang/String" (7 : Nat) "").before a0 Z = true := hw _ (List.mem_of_getElem? (i := 18) rfl)
theorem hw19 {Z : State} {a0 : Array Value} (hw : ∀ d ∈ tables_1, d.before a0 Z = true) : (Jvm.Cond.arrayClass Jvm.ClassFile.FieldType.byte).before a0 Z = true := hw _ (List.mem_of_getElem? (i := 19) rfl)
theorem hw20 {Z : State} {a0 : Array Value} (hw : ∀ d ∈ tables_1, d.before a0 Z = true) : (Jvm.Cond.laysFinal "java/lang/String" "java/lang/String" "value" "[B").before a0 Z = true := hw _ (List.mem_of_getElem? (i := 20) rfl)
theorem hw21 {Z : State} {a0 : Array Value} (hw : ∀ d ∈ tables_1, d.before a0 Z = true) : (Jvm.Cond.laysFinal "java/lang/String" "java/lang/String" "coder" "B").before a0 Z = true := hw _ (List.mem_of_getElem? (i := 21) rfl)
theorem hw24 {Z : State} {a0 : Array Value} (hw : ∀ d ∈ tables_1, d.before a0 Z = true) : (Jvm.Cond.fieldLink "java/lang/String" (9 : Nat) "java/lang/String" "value" "[B").before a0 Z = true := hw _ (List.mem_of_getElem? (i := 24) rfl)
theorem hw25 {Z : State} {a0 : Array Value} (hw : ∀ d ∈ tables_1, d.before a0 Z = true) : (Jvm.Cond.fieldLink "java/lang/String" (15 : Nat) "java/lang/String" "coder" "B").before a0 Z = true := hw _ (List.mem_of_getElem? (i := 25) rfl)
theorem hw26 {Z : State} {a0 : Array Value} (hw : ∀ d ∈ tables_1, d.before a0 Z = true) : (Jvm.Cond.methodLink "com/example/warrant/warrant/messages/ExpressionParserEndsPinLaw" (18 : Nat) ({ cls := "com/example/warrant/warrant/messages/ExpressionParser", name := "ends", desc := "(Ljava/lang/String;)[I" } : Jvm.MethodName)).before a0 Z = true := hw _ (List.mem_of_getElem? (i := 26) rfl)
theorem hw27 {Z : State} {a0 : Array Value} (hw : ∀ d ∈ tables_1, d.before a0 Z = true) : (Jvm.Cond.static ({ cls := "com/example/warrant/warrant/messages/ExpressionParser", name := "ends", desc := "(Ljava/lang/String;)[I" } : Jvm.MethodName)).before a0 Z = true := hw _ (List.mem_of_getElem? (i := 27) rfl)
theorem hw28 {Z : State} {a0 : Array Value} (hw : ∀ d ∈ tables_1, d.before a0 Z = true) : (Jvm.Cond.initialized "com/example/warrant/warrant/messages/ExpressionParser").before a0 Z = true := hw _ (List.mem_of_getElem? (i := 28) rfl)
theorem hw29 {Z : State} {a0 : Array Value} (hw : ∀ d ∈ tables_1, d.before a0 Z = true) : (Jvm.Cond.code ({ cls := "com/example/warrant/warrant/messages/ExpressionParser", name := "ends", desc := "(Ljava/lang/String;)[I" } : Jvm.MethodName) prog_7_method_3_code (10 : Nat) (Option.some (Jvm.ClassFile.FieldType.array Jvm.ClassFile.FieldType.int))).before a0 Z = true := hw _ (List.mem_of_getElem? (i := 29) rfl)
theorem hw30 {Z : State} {a0 : Array Value} (hw : ∀ d ∈ tables_1, d.before a0 Z = true) : (Jvm.Cond.methodLink "com/example/warrant/warrant/messages/ExpressionParser" (41 : Nat) ({ cls := "java/lang/String", name := "length", desc := "()I" } : Jvm.MethodName)).before a0 Z = true := hw _ (List.mem_of_getElem? (i := 30) rfl)
theorem hw31 {Z : State} {a0 : Array Value} (hw : ∀ d ∈ tables_1, d.before a0 Z = true) : (Jvm.Cond.declares ({ cls := "java/lang/String", name := "length", desc := "()I" } : Jvm.MethodName)).before a0 Z = true := hw _ (List.mem_of_getElem? (i := 31) rfl)
theorem hw32 {Z : State} {a0 : Array Value} (hw : ∀ d ∈ tables_1, d.before a0 Z = true) : (Jvm.Cond.instanceMethod ({ cls := "java/lang/String", name := "length", desc := "()I" } : Jvm.MethodName)).before a0 Z = true := hw _ (List.mem_of_getElem? (i := 32) rfl)
theorem hw33 {Z : State} {a0 : Array Value} (hw : ∀ d ∈ tables_1, d.before a0 Z = true) : (Jvm.Cond.selects "java/lang/String" ({ cls := "java/lang/String", name := "length", desc := "()I" } : Jvm.MethodName) ({ cls := "java/lang/String", name := "length", desc := "()I" } : Jvm.MethodName)).before a0 Z = true := hw _ (List.mem_of_getElem? (i := 33) rfl)
theorem hw41 {Z : State} {a0 : Array Value} (hw : ∀ d ∈ tables_1, d.before a0 Z = true) : (Jvm.Cond.arrayClass Jvm.ClassFile.FieldType.int).before a0 Z = true := hw _ (List.mem_of_getElem? (i := 41) rfl)
theorem hw42 {Z : State} {a0 : Array Value} (hw : ∀ d ∈ tables_1, d.before a0 Z = true) : (Jvm.Cond.methodLink "com/example/warrant/warrant/messages/ExpressionParserEndsPinLaw" (24 : Nat) ({ cls := "com/example/warrant/warrant/messages/ExpressionParserEndsPinLaw", name := "at", desc := "([I[CII)Z" } : Jvm.MethodName)).before a0 Z = true := hw _ (List.mem_of_getElem? (i := 42) rfl)
theorem hw43 {Z : State} {a0 : Array Value} (hw : ∀ d ∈ tables_1, d.before a0 Z = true) : (Jvm.Cond.static ({ cls := "com/example/warrant/warrant/messages/ExpressionParserEndsPinLaw", name := "at", desc := "([I[CII)Z" } : Jvm.MethodName)).before a0 Z = true := hw _ (List.mem_of_getElem? (i := 43) rfl)
theorem hw44 {Z : State} {a0 : Array Value} (hw : ∀ d ∈ tables_1, d.before a0 Z = true) : (Jvm.Cond.code ({ cls := "com/example/warrant/warrant/messages/ExpressionParserEndsPinLaw", name := "at", desc := "([I[CII)Z" } : Jvm.MethodName) method_3_code (4 : Nat) (Option.some Jvm.ClassFile.FieldType.boolean)).before a0 Z = true := hw _ (List.mem_of_getElem? (i := 44) rfl)
theorem hw45 {Z : State} {a0 : Array Value} (hw : ∀ d ∈ tables_1, d.before a0 Z = true) : (Jvm.Cond.methodLink "com/example/warrant/warrant/messages/ExpressionParserEndsPinLaw" (28 : Nat) ({ cls := "com/example/warrant/warrant/messages/ExpressionParserEndsPinLaw", name := "reference", desc := "([CII)I" } : Jvm.MethodName)).before a0 Z = true := hw _ (List.mem_of_getElem? (i := 45) rfl)
theorem hw46 {Z : State} {a0 : Array Value} (hw : ∀ d ∈ tables_1, d.before a0 Z = true) : (Jvm.Cond.static ({ cls := "com/example/warrant/warrant/messages/ExpressionParserEndsPinLaw", name := "reference", desc := "([CII)I" } : Jvm.MethodName)).before a0 Z = true := hw _ (List.mem_of_getElem? (i := 46) rfl)
theorem hw47 {Z : State} {a0 : Array Value} (hw : ∀ d ∈ tables_1, d.before a0 Z = true) : (Jvm.Cond.code ({ cls := "com/example/warrant/warrant/messages/ExpressionParserEndsPinLaw", name := "reference", desc := "([CII)I" } : Jvm.MethodName) method_5_code (4 : Nat) (Option.some Jvm.ClassFile.FieldType.int)).before a0 Z = true := hw _ (List.mem_of_getElem? (i := 47) rfl)
theorem hw48 {Z : State} {a0 : Array Value} (hw : ∀ d ∈ tables_1, d.before a0 Z = true) : (Jvm.Cond.methodLink "com/example/warrant/warrant/messages/ExpressionParserEndsPinLaw" (32 : Nat) ({ cls := "com/example/warrant/warrant/messages/ExpressionParserEndsPinLaw", name := "step", desc := "([CII)I" } : Jvm.MethodName)).before a0 Z = true := hw _ (List.mem_of_getElem? (i := 48) rfl)
theorem hw49 {Z : State} {a0 : Array Value} (hw : ∀ d ∈ tables_1, d.before a0 Z = true) : (Jvm.Cond.static ({ cls := "com/example/warrant/warrant/messages/ExpressionParserEndsPinLaw", name := "step", desc := "([CII)I" } : Jvm.MethodName)).before a0 Z = true := hw _ (List.mem_of_getElem? (i := 49) rfl)
theorem hw50 {Z : State} {a0 : Array Value} (hw : ∀ d ∈ tables_1, d.before a0 Z = true) : (Jvm.Cond.code ({ cls := "com/example/warrant/warrant/messages/ExpressionParserEndsPinLaw", name := "step", desc := "([CII)I" } : Jvm.MethodName) method_6_code (5 : Nat) (Option.some Jvm.ClassFile.FieldType.int)).before a0 Z = true := hw _ (List.mem_of_getElem? (i := 50) rfl)
theorem hw61 {Z : State} {a0 : Array Value} (hw : ∀ d ∈ tables_1, d.before a0 Z = true) : (Jvm.Cond.methodLink "com/example/warrant/warrant/messages/ExpressionParser" (47 : Nat) ({ cls := "java/lang/String", name := "charAt", desc := "(I)C" } : Jvm.MethodName)).before a0 Z = true := hw _ (List.mem_of_getElem? (i := 61) rfl)
theorem hw62 {Z : State} {a0 : Array Value} (hw : ∀ d ∈ tables_1, d.before a0 Z = true) : (Jvm.Cond.declares ({ cls := "java/lang/String", name := "charAt", desc := "(I)C" } : Jvm.MethodName)).before a0 Z = true := hw _ (List.mem_of_getElem? (i := 62) rfl)
theorem hw63 {Z : State} {a0 : Array Value} (hw : ∀ d ∈ tables_1, d.before a0 Z = true) : (Jvm.Cond.instanceMethod ({ cls := "java/lang/String", name := "charAt", desc := "(I)C" } : Jvm.MethodName)).before a0 Z = true := hw _ (List.mem_of_getElem? (i := 63) rfl)
theorem hw64 {Z : State} {a0 : Array Value} (hw : ∀ d ∈ tables_1, d.before a0 Z = true) : (Jvm.Cond.selects "java/lang/String" ({ cls := "java/lang/String", name := "charAt", desc := "(I)C" } : Jvm.MethodName) ({ cls := "java/lang/String", name := "charAt", desc := "(I)C" } : Jvm.MethodName)).before a0 Z = true := hw _ (List.mem_of_getElem? (i := 64) rfl)
theorem hw83 {Z : State} {a0 : Array Value} (hw : ∀ d ∈ tables_1, d.before a0 Z = true) : (Jvm.Cond.methodLink "com/example/warrant/warrant/messages/ExpressionParserEndsPinLaw" (35 : Nat) ({ cls := "com/example/warrant/warrant/messages/ExpressionParserEndsPinLaw", name := "closing", desc := "([CIIC)I" } : Jvm.MethodName)).before a0 Z = true := hw _ (List.mem_of_getElem? (i := 83) rfl)
theorem hw84 {Z : State} {a0 : Array Value} (hw : ∀ d ∈ tables_1, d.before a0 Z = true) : (Jvm.Cond.static ({ cls := "com/example/warrant/warrant/messages/ExpressionParserEndsPinLaw", name := "closing", desc := "([CIIC)I" } : Jvm.MethodName)).before a0 Z = true := hw _ (List.mem_of_getElem? (i := 84) rfl)
theorem hw85 {Z : State} {a0 : Array Value} (hw : ∀ d ∈ tables_1, d.before a0 Z = true) : (Jvm.Cond.code ({ cls := "com/example/warrant/warrant/messages/ExpressionParserEndsPinLaw", name := "closing", desc := "([CIIC)I" } : Jvm.MethodName) method_7_code (5 : Nat) (Option.some Jvm.ClassFile.FieldType.int)).before a0 Z = true := hw _ (List.mem_of_getElem? (i := 85) rfl)
theorem hw86 {Z : State} {a0 : Array Value} (hw : ∀ d ∈ tables_1, d.before a0 Z = true) : (Jvm.Cond.methodLink "com/example/warrant/warrant/messages/ExpressionParserEndsPinLaw" (39 : Nat) ({ cls := "com/example/warrant/warrant/messages/ExpressionParserEndsPinLaw", name := "hop", desc := "([CIIC)I" } : Jvm.MethodName)).before a0 Z = true := hw _ (List.mem_of_getElem? (i := 86) rfl)
theorem hw87 {Z : State} {a0 : Array Value} (hw : ∀ d ∈ tables_1, d.before a0 Z = true) : (Jvm.Cond.static ({ cls := "com/example/warrant/warrant/messages/ExpressionParserEndsPinLaw", name := "hop", desc := "([CIIC)I" } : Jvm.MethodName)).before a0 Z = true := hw _ (List.mem_of_getElem? (i := 87) rfl)
theorem hw88 {Z : State} {a0 : Array Value} (hw : ∀ d ∈ tables_1, d.before a0 Z = true) : (Jvm.Cond.code ({ cls := "com/example/warrant/warrant/messages/ExpressionParserEndsPinLaw", name := "hop", desc := "([CIIC)I" } : Jvm.MethodName) method_8_code (4 : Nat) (Option.some Jvm.ClassFile.FieldType.int)).before a0 Z = true := hw _ (List.mem_of_getElem? (i := 88) rfl)
theorem own_EW {Z : State} {a0 : Array Value} (hw : ∀ d ∈ tables_1, d.before a0 Z = true) : EW Z a0 EL := (EW.cons (hw18 hw) (by decide) EW.nil)
theorem own_safeArv {Z : State} {vm : Vm} {h : Heap} {x : Addr} {k : ClassId} {ty : FieldType} {z : Int32} {vs : List Value} {d : Value} (hal : Z.vm.Alike vm) (F : Arv Z h x k ty z vs d) (ht : ty ≠ .byte) : Safe Z EL vm h x := by
  obtain ⟨c, A, -⟩ := F
  exact Safe.arr hal A ht
theorem own_nlt {i n : Nat} (hi : i < 2 ^ 31) (hn : n < 2 ^ 31) : Int32.ofNat i < Int32.ofNat n ↔ i < n := by
  rw [Int32.lt_iff_toInt_lt, Int32.toInt_ofNat_of_lt hi, Int32.toInt_ofNat_of_lt hn]; omega
theorem own_nadd (i j : Nat) : Int32.ofNat i + Int32.ofNat j = Int32.ofNat (i + j) := by
  apply Int32.toBitVec_inj.mp
  show BitVec.ofNat 32 i + BitVec.ofNat 32 j = BitVec.ofNat 32 (i + j)
  rw [BitVec.ofNat_add]
theorem own_nadd1 (i : Nat) : Int32.ofNat i + (1 : Int32) = Int32.ofNat (i + 1) := own_nadd i 1
theorem own_nsub {i j : Nat} (h : j ≤ i) : Int32.ofNat i - Int32.ofNat j = Int32.ofNat (i - j) := by
  obtain ⟨k, rfl⟩ := Nat.exists_eq_add_of_le h
  rw [← own_nadd, Nat.add_sub_cancel_left]
  apply Int32.toBitVec_inj.mp
  show (BitVec.ofNat 32 j + BitVec.ofNat 32 k) - BitVec.ofNat 32 j = BitVec.ofNat 32 k
  rw [BitVec.add_comm, BitVec.add_sub_cancel]
theorem own_nneg {i : Nat} (hi : i < 2 ^ 31) : ¬ Int32.ofNat i < 0 := by
  rw [Int32.lt_iff_toInt_lt, Int32.toInt_ofNat_of_lt hi]; have : (0 : Int32).toInt = 0 := rfl; omega
theorem own_nclamp {i : Nat} (hi : i < 2 ^ 31) : (Int32.ofNat i).toNatClampNeg = i := by
  show (Int32.ofNat i).toInt.toNat = i
  rw [Int32.toInt_ofNat_of_lt hi]; rfl
theorem own_ninj {i j : Nat} (hi : i < 2 ^ 31) (hj : j < 2 ^ 31) (h : Int32.ofNat i = Int32.ofNat j) : i = j := by
  have := congrArg Int32.toInt h
  rw [Int32.toInt_ofNat_of_lt hi, Int32.toInt_ofNat_of_lt hj] at this; omega
theorem own_ne0 {i : Nat} (hi : i < 2 ^ 31) (h : ¬ i = 0) : ¬ Int32.ofNat i = (0 : Int32) := fun q => h (own_ninj hi (by decide) q)
theorem own_irr (x : Int32) : ¬ x < x := by rw [Int32.lt_iff_toInt_lt]; omega
theorem own_small {n : Nat} (h : n ≤ 4000) : n < 2 ^ 31 := by omega
theorem own_getb {cs : List Int32} {k : Nat} {c : Int32} {d : Value} (h : cs[k]? = some c) (hk : k < 2 ^ 31) : ((cs.map fun c => c.toInt8.toInt32).map Value.int).getD (Int32.ofNat k).toNatClampNeg d = .int c.toInt8.toInt32 := by
  rw [own_nclamp hk]; simp [List.getD_eq_getElem?_getD, h]
theorem own_dn {cs : List Int32} {k : Nat} (hk : k ≤ cs.length) (h : cs.drop k = []) : k = cs.length := by
  have := List.drop_eq_nil_iff.mp h; omega
theorem own_dc {cs r : List Int32} {k : Nat} {c : Int32} (h : cs.drop k = c :: r) : k < cs.length ∧ cs[k]? = some c ∧ cs.drop (k + 1) = r := by
  have h1 : k < cs.length := by
    apply Nat.lt_of_not_le
    intro q
    rw [List.drop_eq_nil_iff.mpr q] at h; cases h
  refine ⟨h1, ?_, ?_⟩
  · have := congrArg (fun l => l[0]?) h
    simpa using this
  · have := congrArg List.tail h
    simpa [List.tail_drop] using this
def own_N (cs : List Int32) (w : Int32) (i : Nat) : Int32 :=
  if i < cs.length then (if cs.getD i 0 = 92 then own_N cs w (i + 2) else if cs.getD i 0 = w then Int32.ofNat i else own_N cs w (i + 1)) else -1
termination_by cs.length - i
decreasing_by all_goals omega
theorem own_N0 {cs : List Int32} {w : Int32} {i : Nat} (h : ¬ i < cs.length) : own_N cs w i = -1 := by rw [own_N, if_neg h]
theorem own_N1 {cs : List Int32} {w : Int32} {i : Nat} (h : i < cs.length) (q : cs.getD i 0 = 92) : own_N cs w i = own_N cs w (i + 2) := by rw [own_N, if_pos h, if_pos q]
theorem own_N2 {cs : List Int32} {w : Int32} {i : Nat} (h : i < cs.length) (q : ¬ cs.getD i 0 = 92) (r : cs.getD i 0 = w) : own_N cs w i = Int32.ofNat i := by rw [own_N, if_pos h, if_neg q, if_pos r]
theorem own_N3 {cs : List Int32} {w : Int32} {i : Nat} (h : i < cs.length) (q : ¬ cs.getD i 0 = 92) (r : ¬ cs.getD i 0 = w) : own_N cs w i = own_N cs w (i + 1) := by rw [own_N, if_pos h, if_neg q, if_neg r]
theorem own_Nr (cs : List Int32) (w : Int32) : ∀ (f i : Nat), cs.length - i ≤ f → own_N cs w i = -1 ∨ ∃ k, i ≤ k ∧ k < cs.length ∧ own_N cs w i = Int32.ofNat k := by
  intro f
  induction f with
  | zero => intro i hf; left; exact own_N0 (by omega)
  | succ f ih =>
    intro i hf
    by_cases h : i < cs.length
    · by_cases q : cs.getD i 0 = 92
      · rw [own_N1 h q]
        rcases ih (i + 2) (by omega) with e | ⟨k, k1, k2, k3⟩
        · exact Or.inl e
        · exact Or.inr ⟨k, by omega, k2, k3⟩
      · by_cases r : cs.getD i 0 = w
        · exact Or.inr ⟨i, Nat.le_refl _, h, own_N2 h q r⟩
        · rw [own_N3 h q r]
          rcases ih (i + 1) (by omega) with e | ⟨k, k1, k2, k3⟩
          · exact Or.inl e
          · exact Or.inr ⟨k, by omega, k2, k3⟩
    · exact Or.inl (own_N0 h)
def own_E (cs : List Int32) (i : Nat) : Int32 :=
  if i < cs.length then (if cs.getD i 0 = 125 then Int32.ofNat i else if cs.getD i 0 = 39 ∨ cs.getD i 0 = 34 then (if own_N cs (cs.getD i 0) (i + 1) < 0 then -1 else own_E cs (max (i + 1) ((own_N cs (cs.getD i 0) (i + 1)).toNatClampNeg + 1))) else own_E cs (i + 1)) else -1
termination_by cs.length - i
decreasing_by all_goals omega
theorem own_E0 {cs : List Int32} {i : Nat} (h : ¬ i < cs.length) : own_E cs i = -1 := by rw [own_E, if_neg h]
theorem own_E1 {cs : List Int32} {i : Nat} (h : i < cs.length) (q : cs.getD i 0 = 125) : own_E cs i = Int32.ofNat i := by rw [own_E, if_pos h, if_pos q]
theorem own_E2 {cs : List Int32} {i : Nat} (h : i < cs.length) (q : ¬ cs.getD i 0 = 125) (r : cs.getD i 0 = 39 ∨ cs.getD i 0 = 34) (t : own_N cs (cs.getD i 0) (i + 1) < 0) : own_E cs i = -1 := by rw [own_E, if_pos h, if_neg q, if_pos r, if_pos t]
theorem own_E3 {cs : List Int32} {i k : Nat} (hl : cs.length ≤ 4000) (h : i < cs.length) (q : ¬ cs.getD i 0 = 125) (r : cs.getD i 0 = 39 ∨ cs.getD i 0 = 34) (hk : i + 1 ≤ k) (k2 : k < cs.length) (t : own_N cs (cs.getD i 0) (i + 1) = Int32.ofNat k) : own_E cs i = own_E cs (k + 1) := by
  rw [own_E, if_pos h, if_neg q, if_pos r, t, if_neg (own_nneg (by omega)), own_nclamp (by omega), Nat.max_eq_right (by omega)]
theorem own_E4 {cs : List Int32} {i : Nat} (h : i < cs.length) (q : ¬ cs.getD i 0 = 125) (r : ¬ (cs.getD i 0 = 39 ∨ cs.getD i 0 = 34)) : own_E cs i = own_E cs (i + 1) := by rw [own_E, if_pos h, if_neg q, if_neg r]
-- the law's own
def own_hop (cs : List Int32) (n p : Nat) (w : Int32) : Nat := if n ≤ p then p else if cs.getD p 0 = w then p else if cs.getD p 0 = 92 then p + 2 else p + 1
theorem own_hl {cs : List Int32} {n p : Nat} {w : Int32} {k : Nat} (h : p ≤ k) : own_hop cs n p w ≤ k + 2 := by
  unfold own_hop
  split
  · omega
  · split
    · omega
    · split <;> omega
def own_h5 (cs : List Int32) (n f : Nat) (w : Int32) : Nat := own_hop cs n (own_hop cs n (own_hop cs n (own_hop cs n (own_hop cs n f w) w) w) w) w
def own_clo (cs : List Int32) (n f : Nat) (w : Int32) : Int32 := if own_h5 cs n f w < n ∧ cs.getD (own_h5 cs n f w) 0 = w then Int32.ofNat (own_h5 cs n f w) else -1
def own_stp (cs : List Int32) (n : Nat) (sv : Int32) : Int32 := if sv < 0 then sv else if sv < Int32.ofNat n then (if cs.getD sv.toNatClampNeg 0 = 125 then -sv - 2 else if cs.getD sv.toNatClampNeg 0 = 39 ∨ cs.getD sv.toNatClampNeg 0 = 34 then (if own_clo cs n (sv.toNatClampNeg + 1) (cs.getD sv.toNatClampNeg 0) < 0 then -1 else own_clo cs n (sv.toNatClampNeg + 1) (cs.getD sv.toNatClampNeg 0) + 1) else sv + 1) else -1
def own_s6 (cs : List Int32) (n : Nat) (sv : Int32) : Int32 := own_stp cs n (own_stp cs n (own_stp cs n (own_stp cs n (own_stp cs n (own_stp cs n sv)))))
def own_ref (cs : List Int32) (n i : Nat) : Int32 := if own_s6 cs n (Int32.ofNat i) < -1 then -own_s6 cs n (Int32.ofNat i) - 2 else -1
/-- one hop goes on where the text's first unescaped w lies -/
theorem own_hopN {cs : List Int32} {n p : Nat} {w : Int32} (hn : n = cs.length) (hw : ¬ w = 92) : own_N cs w (own_hop cs n p w) = own_N cs w p := by
  subst hn
  unfold own_hop
  by_cases h : cs.length ≤ p
  · rw [if_pos h]
  · rw [if_neg h]
    by_cases r : cs.getD p 0 = w
    · rw [if_pos r]
    · rw [if_neg r]
      by_cases q : cs.getD p 0 = 92
      · rw [if_pos q, own_N1 (by omega) q]
      · rw [if_neg q, own_N3 (by omega) q r]
theorem own_hopF {cs : List Int32} {n p : Nat} {w : Int32} : own_hop cs n p w = p ∧ (n ≤ p ∨ cs.getD p 0 = w) ∨ p < own_hop cs n p w := by
  unfold own_hop
  by_cases h : n ≤ p
  · left; rw [if_pos h]; exact ⟨rfl, Or.inl h⟩
  · rw [if_neg h]
    by_cases r : cs.getD p 0 = w
    · left; rw [if_pos r]; exact ⟨rfl, Or.inr r⟩
    · right; rw [if_neg r]; split <;> omega
theorem own_fix {cs : List Int32} {n p : Nat} {w : Int32} (h : n ≤ p ∨ cs.getD p 0 = w) : own_hop cs n p w = p := by
  unfold own_hop
  rcases h with h | h
  · rw [if_pos h]
  · rw [h]; simp
theorem own_h5e {cs : List Int32} {n f : Nat} {w : Int32} (h5 : n ≤ 5) (hf : 1 ≤ f) : n ≤ own_h5 cs n f w ∨ cs.getD (own_h5 cs n f w) 0 = w := by
  have key : ∀ p, (n ≤ own_hop cs n p w ∨ cs.getD (own_hop cs n p w) 0 = w) ∨ p < own_hop cs n p w := by
    intro p
    rcases own_hopF (cs := cs) (n := n) (p := p) (w := w) with ⟨e, q⟩ | q
    · left; rw [e]; exact q
    · exact Or.inr q
  have stay : ∀ p, (n ≤ p ∨ cs.getD p 0 = w) → (n ≤ own_hop cs n p w ∨ cs.getD (own_hop cs n p w) 0 = w) := by
    intro p h
    rw [own_fix h]; exact h
  have go : ∀ k p, ((n ≤ p ∨ cs.getD p 0 = w) ∨ k ≤ p) → ((n ≤ own_hop cs n p w ∨ cs.getD (own_hop cs n p w) 0 = w) ∨ k + 1 ≤ own_hop cs n p w) := by
    intro k p h
    rcases h with h | h
    · exact Or.inl (stay p h)
    · rcases key p with q | q
      · exact Or.inl q
      · exact Or.inr (by omega)
  have := go 5 _ (go 4 _ (go 3 _ (go 2 _ (go 1 f (Or.inr hf)))))
  rcases this with q | q
  · exact q
  · left; show n ≤ own_hop _ _ _ _; omega
theorem own_cloN {ds : List Int32} {n f : Nat} {w : Int32} (hn : n = ds.length) (h5 : n ≤ 5) (hf : 1 ≤ f) (hw : ¬ w = 92) : own_clo ds n f w = own_N ds w f := by
  have e : own_N ds w (own_h5 ds n f w) = own_N ds w f := by
    unfold own_h5
    rw [own_hopN hn hw, own_hopN hn hw, own_hopN hn hw, own_hopN hn hw, own_hopN hn hw]
  rw [← e]
  unfold own_clo
  by_cases h : own_h5 ds n f w < n
  · rcases own_h5e (cs := ds) (n := n) (f := f) (w := w) h5 hf with q | q
    · omega
    · rw [if_pos ⟨h, q⟩, own_N2 (by omega) (by rw [q]; exact hw) q]
  · rw [if_neg (fun q => h q.1), own_N0 (by omega)]
theorem own_gt {cs : List Int32} {n p : Nat} (h : p < n) : (cs.take n).getD p 0 = cs.getD p 0 := by
  simp [List.getD_eq_getElem?_getD, List.getElem?_take, h]
theorem own_hopT {cs : List Int32} {n p : Nat} {w : Int32} : own_hop (cs.take n) n p w = own_hop cs n p w := by
  unfold own_hop
  by_cases h : n ≤ p
  · rw [if_pos h, if_pos h]
  · rw [if_neg h, if_neg h, own_gt (by omega)]
theorem own_cloT {cs : List Int32} {n p : Nat} {w : Int32} : own_clo (cs.take n) n p w = own_clo cs n p w := by
  have e : own_h5 (cs.take n) n p w = own_h5 cs n p w := by
    unfold own_h5
    rw [own_hopT, own_hopT, own_hopT, own_hopT, own_hopT]
  unfold own_clo
  rw [e]
  by_cases h : own_h5 cs n p w < n
  · rw [own_gt h]
  · rw [if_neg (fun q => h q.1), if_neg (fun q => h q.1)]
def own_sok (sv : Int32) : Prop := sv < 0 ∨ ∃ k, k ≤ 5 ∧ sv = Int32.ofNat k
theorem own_cr {cs : List Int32} {n f : Nat} {w : Int32} : own_clo cs n f w = -1 ∨ ∃ k, k < n ∧ own_clo cs n f w = Int32.ofNat k := by
  unfold own_clo
  split
  case isTrue h => exact Or.inr ⟨_, h.1, rfl⟩
  case isFalse h => exact Or.inl rfl
theorem own_neg2 {k : Nat} (hk : k ≤ 5) : -Int32.ofNat k - 2 < -1 ∧ -(-Int32.ofNat k - 2) - 2 = Int32.ofNat k := by
  have t : ∀ k : Fin 6, -Int32.ofNat k.val - 2 < -1 ∧ -(-Int32.ofNat k.val - 2) - 2 = Int32.ofNat k.val := by decide +kernel
  exact t ⟨k, by omega⟩
theorem own_ltt {a : Int32} (h : a < -1) : a < 0 := by
  rw [Int32.lt_iff_toInt_lt] at h ⊢
  have : (0 : Int32).toInt = 0 := rfl
  have : (-1 : Int32).toInt = -1 := rfl
  omega
/-- the value that a state of the scan stands for -/
def own_val (ds : List Int32) (sv : Int32) : Int32 := if sv < 0 then (if sv < -1 then -sv - 2 else -1) else own_E ds sv.toNatClampNeg
theorem own_stpN {cs : List Int32} {n : Nat} {sv : Int32} (h : sv < 0) : own_stp cs n sv = sv := by rw [own_stp, if_pos h]
theorem own_stpK {cs : List Int32} {n k : Nat} (hn : n ≤ 5) (hl : n ≤ cs.length) (hk : k ≤ 5) : own_val (cs.take n) (own_stp cs n (Int32.ofNat k)) = own_E (cs.take n) k ∧ (own_stp cs n (Int32.ofNat k) < 0 ∨ ∃ j, k < j ∧ j ≤ n ∧ own_stp cs n (Int32.ofNat k) = Int32.ofNat j) := by
  have L : (cs.take n).length = n := by simp; omega
  have m1 : own_val (cs.take n) (-1) = -1 := by unfold own_val; rw [if_pos (by decide), if_neg (by decide)]
  have vj : ∀ j, j ≤ 5 → own_val (cs.take n) (Int32.ofNat j) = own_E (cs.take n) j := by
    intro j hj
    unfold own_val
    rw [if_neg (own_nneg (by omega)), own_nclamp (by omega)]
  unfold own_stp
  rw [if_neg (own_nneg (by omega)), own_nclamp (by omega)]
  by_cases h : k < n
  · rw [if_pos ((own_nlt (by omega) (by omega)).mpr h)]
    have gk := own_gt (cs := cs) h
    have kl : k < (cs.take n).length := by omega
    by_cases q : cs.getD k 0 = 125
    · rw [if_pos q]
      obtain ⟨a1, a2⟩ := own_neg2 hk
      refine ⟨?_, Or.inl (own_ltt a1)⟩
      unfold own_val
      rw [if_pos (own_ltt a1), if_pos a1, a2, own_E1 kl (by rw [gk]; exact q)]
    · rw [if_neg q]
      by_cases r : cs.getD k 0 = 39 ∨ cs.getD k 0 = 34
      · rw [if_pos r]
        have hw : ¬ cs.getD k 0 = 92 := by
          intro z
          rw [z] at r
          revert r; decide
        have ec : own_clo cs n (k + 1) (cs.getD k 0) = own_N (cs.take n) (cs.getD k 0) (k + 1) := by
          rw [← own_cloT]; exact own_cloN L.symm hn (by omega) hw
        rcases own_Nr (cs.take n) (cs.getD k 0) _ (k + 1) (Nat.le_refl _) with e | ⟨j, j1, j2, j3⟩
        · rw [ec, e, if_pos (by decide)]
          refine ⟨?_, Or.inl (by decide)⟩
          rw [m1, own_E2 kl (by rw [gk]; exact q) (by rw [gk]; exact r) (by rw [gk, e]; decide)]
        · rw [ec, j3, if_neg (own_nneg (by omega)), own_nadd1]
          refine ⟨?_, Or.inr ⟨j + 1, by omega, by omega, rfl⟩⟩
          rw [vj _ (by omega), own_E3 (by omega) kl (by rw [gk]; exact q) (by rw [gk]; exact r) j1 j2 (by rw [gk]; exact j3)]
      · rw [if_neg r, own_nadd1]
        refine ⟨?_, Or.inr ⟨k + 1, by omega, by omega, rfl⟩⟩
        rw [vj _ (by omega), own_E4 kl (by rw [gk]; exact q) (by rw [gk]; exact r)]
  · rw [if_neg (fun z => h ((own_nlt (by omega) (by omega)).mp z))]
    exact ⟨by rw [m1, own_E0 (by omega)], Or.inl (by decide)⟩
theorem own_sk {cs : List Int32} {n : Nat} {sv : Int32} (hn : n ≤ 5) (hl : n ≤ cs.length) (h : own_sok sv) : own_sok (own_stp cs n sv) := by
  rcases h with h | ⟨k, hk, rfl⟩
  · rw [own_stpN h]; exact Or.inl h
  · rcases (own_stpK hn hl hk).2 with q | ⟨j, _, j2, j3⟩
    · exact Or.inl q
    · exact Or.inr ⟨j, by omega, j3⟩
/-- what is kept from step to step: the value, and how far the scan has come -/
def own_inv (cs : List Int32) (n : Nat) (v : Int32) (d : Nat) (sv : Int32) : Prop := own_val (cs.take n) sv = v ∧ (sv < 0 ∨ ∃ k, d ≤ k ∧ k ≤ 5 ∧ sv = Int32.ofNat k)
theorem own_iv {cs : List Int32} {n d : Nat} {v sv : Int32} (hn : n ≤ 5) (hl : n ≤ cs.length) (h : own_inv cs n v d sv) : own_inv cs n v (d + 1) (own_stp cs n sv) := by
  obtain ⟨h1, h2⟩ := h
  rcases h2 with h2 | ⟨k, k1, k2, rfl⟩
  · rw [own_stpN h2]; exact ⟨h1, Or.inl h2⟩
  · obtain ⟨a, b⟩ := own_stpK (cs := cs) hn hl k2
    have : own_val (cs.take n) (Int32.ofNat k) = own_E (cs.take n) k := by
      unfold own_val
      rw [if_neg (own_nneg (by omega)), own_nclamp (by omega)]
    refine ⟨by rw [a, ← h1, this], ?_⟩
    rcases b with b | ⟨j, j1, j2, j3⟩
    · exact Or.inl b
    · exact Or.inr ⟨j, by omega, by omega, j3⟩
theorem own_plain {cs : List Int32} {n i : Nat} (hn : n ≤ 5) (hl : n ≤ cs.length) (hi : i ≤ n) : own_ref cs n i = own_E (cs.take n) i := by
  have h0 : own_inv cs n (own_E (cs.take n) i) 0 (Int32.ofNat i) := by
    refine ⟨?_, Or.inr ⟨i, by omega, by omega, rfl⟩⟩
    unfold own_val
    rw [if_neg (own_nneg (by omega)), own_nclamp (by omega)]
  have h6 := own_iv hn hl (own_iv hn hl (own_iv hn hl (own_iv hn hl (own_iv hn hl (own_iv hn hl h0)))))
  obtain ⟨a, b⟩ := h6
  rcases b with b | ⟨k, k1, k2, _⟩
  · unfold own_ref
    rw [← a]
    unfold own_val
    show (if own_s6 cs n (Int32.ofNat i) < -1 then _ else _) = _
    have b' : own_s6 cs n (Int32.ofNat i) < 0 := b
    show _ = if own_s6 cs n (Int32.ofNat i) < 0 then _ else _
    rw [if_pos b']
    rfl
  · omega

theorem own_gm (cs : List Int32) (k : Nat) : (cs.map Value.int).getD k (.int 0) = .int (cs.getD k 0) := by
  simp only [List.getD_eq_getElem?_getD, List.getElem?_map]
  cases cs[k]? <;> rfl
theorem own_gi {cs : List Int32} {k : Nat} (hk : k < 2 ^ 31) : (cs.map Value.int).getD (Int32.ofNat k).toNatClampNeg (.int 0) = .int (cs.getD k 0) := by rw [own_nclamp hk]; exact own_gm cs k
theorem own_gs {us : List Int32} {k : Nat} {z : Int32} (hk : k < 2 ^ 31) (h : us[k]? = some z) : (us.map Value.int).getD (Int32.ofNat k).toNatClampNeg (.int 0) = .int z := by
  rw [own_gi hk, List.getD_eq_getElem?_getD, h]; rfl
theorem own_ib {k n : Nat} (hn : n < 2 ^ 31) (h : k < n) : ¬ Int32.ofNat k < 0 ∧ Int32.ofNat k < Int32.ofNat n := ⟨own_nneg (by omega), (own_nlt (by omega) hn).mpr h⟩
theorem own_padr (n i : Nat) : ((List.replicate n (0 : Int32)).map Value.int).getD i (.int 0) = ([] : List Value).getD i (.int 0) := by
  rw [own_gm]
  have : (List.replicate n (0 : Int32)).getD i 0 = 0 := by
    simp only [List.getD_eq_getElem?_getD, List.getElem?_replicate]
    split <;> rfl
  rw [this]; rfl
theorem own_ms (us : List Int32) (i : Nat) (z : Int32) : (us.map Value.int).set i (.int z) = (us.set i z).map Value.int := by rw [List.map_set]
theorem own_sb (i : Nat) : Int32.ofNat (i + 1) - 1 = Int32.ofNat i := own_nsub (i := i + 1) (j := 1) (by omega)
theorem own_m1 (x : Int32) : x + (-1 : Int32) = x - 1 := by rw [Int32.sub_eq_add_neg]
theorem own_hv0 (cs : List Int32) : ∀ j, cs.length ≤ j → j ≤ cs.length → ((List.replicate (cs.length + 1) (0 : Int32)).set cs.length (-1))[j]? = some (own_E cs j) := by
  intro j h1 h2
  obtain rfl : j = cs.length := by omega
  rw [own_E0 (by omega)]
  simp
theorem own_hv {cs us : List Int32} {i : Nat} {z : Int32} (h : ∀ j, i + 1 ≤ j → j ≤ cs.length → us[j]? = some (own_E cs j)) (hz : z = own_E cs i) (hl : i < us.length) : ∀ j, i ≤ j → j ≤ cs.length → (us.set i z)[j]? = some (own_E cs j) := by
  intro j h1 h2
  by_cases e : i = j
  · subst e; rw [List.getElem?_set_self hl, hz]
  · rw [List.getElem?_set_ne e]; exact h j (by omega) h2
theorem own_rem6 (x : Int32) : ∃ n : Nat, n ≤ 5 ∧ (x &&& (7 : Int32)) % (6 : Int32) = Int32.ofNat n := by
  have t : ∀ k : Fin 8, ∃ n : Fin 6, (Int32.ofNat k.val) % (6 : Int32) = Int32.ofNat n.val := by decide +kernel
  have e : (x &&& (7 : Int32)) = Int32.ofNat (x &&& 7).toBitVec.toNat := by
    apply Int32.toBitVec_inj.mp
    show _ = BitVec.ofNat 32 _
    rw [BitVec.ofNat_toNat]; simp
  have h : (x &&& 7).toBitVec.toNat < 8 := by
    simp only [Int32.toBitVec_and, BitVec.toNat_and]
    exact Nat.lt_succ_of_le Nat.and_le_right
  obtain ⟨n, hn⟩ := t ⟨_, h⟩
  exact ⟨n.val, by omega, by rw [e]; exact hn⟩
theorem own_le5 {n : Nat} (h : n ≤ 5) : n = 0 ∨ n = 1 ∨ n = 2 ∨ n = 3 ∨ n = 4 ∨ n = 5 := by omega
theorem own_tl {cc ts : List Int32} {n : Nat} (hc : cc.length = 5) (hn : n ≤ 5) (h : ts = cc.take n) : ts.length = n := by rw [h, List.length_take, hc]; omega
theorem own_hat {cc ts us : List Int32} {n : Nat} (hc : cc.length = 5) (hn : n ≤ 5) (h : ts = cc.take n) (hv : ∀ j, j ≤ ts.length → us[j]? = some (own_E ts j)) (i : Nat) (hi : i ≤ n) : us[i]? = some (own_ref cc n i) := by
  rw [hv i (by rw [own_tl hc hn h]; exact hi), own_plain hn (by omega) hi, h]

theorem ef_s4e (m : MethodId) (a : Addr) (b : Addr) : entryFrame m #[(.ref a), (.ref b), (.int (0 : Int32)), (.int (0 : Int32)), .null] 6 = (mkF m 0 #[.val (.ref a), .val (.ref b), .val (.int (0 : Int32)), .val (.int (0 : Int32)), .val .null, uS] []) := by first | (simp [entryFrame, mkF, argsToLocals, Value.category]; done) | rfl
def Q_s4e (Z : State) (a : Addr) (b : Addr) (h0 : Heap) (n0 : Nat) (v : Option Value) (h : Heap) (L : List Loc) : Prop := ∃ (t : Addr) (kb : ClassId), v = none ∧ Fr n0 L ∧ Keep h0 h [a] ∧ Str Z h a t kb [] ∧ a ≠ t
set_option maxRecDepth 65536 in
set_option maxHeartbeats 40000000 in
theorem rm_s4e (l : Launch) (Z : State) (a0 : Array Value) (hw : ∀ d ∈ tables_1, d.before a0 Z = true) (ws : List Jvm.Cond) (a : Addr) (b : Addr) (h0 : Heap) (n0 : Nat) (Z0 : n0 ≤ h0.size) (P0 : Exa Z h0 a "java/lang/String") (P1 : Fld Z h0 a "java/lang/String" "value" "[B" .null) (P2 : Fld Z h0 a "java/lang/String" "coder" "B" (.int (0 : Int32))) (g_a : n0 ≤ a) :
    MetFree l (⟨"java/lang/String", "<init>", "([CIILjava/lang/Void;)V"⟩ : MethodName) (head1 (Jvm.Cond.code (⟨"java/lang/String", "<init>", "([CIILjava/lang/Void;)V"⟩ : MethodName) jdk_42_method_149_code 6 none :: ws) ({ frames := 1, cells := 4, slots := 8, locals := 12 } : Room)) (fun aR U => aR = #[(.ref a), (.ref b), (.int (0 : Int32)), (.int (0 : Int32)), .null] ∧ Z.Warmed39 U.vm ∧ U.heap = h0 ∧ CHv Z EL U.vm h0 ∧ ∀ x ∈ ([a] : List Addr), Safe Z EL U.vm h0 x) (fun _ _ _ _ _ => True) (fun _ U o U' => ∃ v L, o = .returned v ∧ Q_s4e Z a b h0 n0 v U'.heap L ∧ CHr Z EL U.vm U.heap U'.vm U'.heap ∧ ReturnedEndW U o U' L ({ frames := 1, cells := 4, slots := 8, locals := 12 } : Room).cells ({ frames := 1, cells := 4, slots := 8, locals := 12 } : Room).slots) := by
 refine MetFree.of_bodySF (plainFor_of_name pn_0) hisR ?_
 intro p e s m args below meth c s₁ Bd hml0 hP hK
 obtain ⟨rfl, hZ, hh, hCH, hSF⟩ := hP
 have hx := Bd.exec
 have hby := Bd.bytes
 have hml : c.maxLocals = 6 := hml0
 have hown : s.vm.findClass "java/lang/String" = some m.cls := findClass_of_methodNamed Bd.named
 have hnm := (name_of_methodNamed Bd.named Bd.method).1
 have X0 : Stand p l e ({ frames := 1, cells := 4, slots := 8, locals := 12 } : Room) (s.setVm s.vm) m #[(.ref a), (.ref b), (.int (0 : Int32)), (.int (0 : Int32)), .null] below meth c s₁ [] 0 0 := Stand.of_body Bd
 have e0 : s₁.heap = h0 := by rw [← hh, Bd.state]; rfl
 have N0 := Fr.nil n0
 show Goes p.tables e below _ _
 rw [ef_s4e m a b]
 refine Goes.named ?_
 intro QQ hQQ
 have hS0 : s.Since s.vm 0 := (State.WarmedH.refl s).since 0
 have hk0 : 0 ≤ h0.size := Nat.zero_le _
 have CR0 : CHr Z EL s.vm h0 s.vm h0 := CHr.refl hCH
 have sf0_a : Safe Z EL s.vm h0 a := hSF _ (List.mem_of_getElem? (i := 0) rfl)
 refine Goes.st (fun sT kT => XS.aloadN X0.here hx rfl (hb hby d3_0) rfl rfl kT) ?_
 show Goes _ _ _ _ (s₁.setTop (mkF m 1 #[.val (.ref a), .val (.ref b), .val (.int (0 : Int32)), .val (.int (0 : Int32)), .val .null, uS] [(.ref a)]))
 obtain ⟨T1, X1, e1, st1⟩ := initO X0 hx hZ hown (hw15 hw) (hw16 hw) (hw17 hw) e0 (g := (mkF m 1 #[.val (.ref a), .val (.ref b), .val (.int (0 : Int32)), .val (.int (0 : Int32)), .val .null, uS] [(.ref a)])) rfl (by rw [hml]; rfl) rfl (hb hby d3_1) (by decide) (W := 0) (by show 2 * 0 + _ ≤ _; exact Nat.le_of_eq rfl) (by decide)
 refine Goes.st st1 ?_
 show Goes _ _ _ _ (T1.setTop (mkF m 4 #[.val (.ref a), .val (.ref b), .val (.int (0 : Int32)), .val (.int (0 : Int32)), .val .null, uS] []))
 refine Goes.st (fun sT kT => XS.iloadN X1.here hx rfl (hb hby d3_4) rfl kT) ?_
 show Goes _ _ _ _ (T1.setTop (mkF m 5 #[.val (.ref a), .val (.ref b), .val (.int (0 : Int32)), .val (.int (0 : Int32)), .val .null, uS] [(.int (0 : Int32))]))
 refine Goes.st (fun sT kT => XS.ifNo X1.here hx rfl (hb hby d3_5) rfl ((if0 _ _).trans (teq (by decide : (0 : Int32) = (0 : Int32))).2) kT) ?_
 show Goes _ _ _ _ (T1.setTop (mkF m 8 #[.val (.ref a), .val (.ref b), .val (.int (0 : Int32)), .val (.int (0 : Int32)), .val .null, uS] []))
 refine Goes.st (fun sT kT => XS.aloadN X1.here hx rfl (hb hby d3_8) rfl rfl kT) ?_
 show Goes _ _ _ _ (T1.setTop (mkF m 9 #[.val (.ref a), .val (.ref b), .val (.int (0 : Int32)), .val (.int (0 : Int32)), .val .null, uS] [(.ref a)]))
 obtain ⟨b2, T2, h2, kk2, t2, kb2, X2, e2, E2, hS2, hk2, hZ2, hown2, Ex2, Cd2, Vf2, Av2, lb2, lt2, C2, Lt2, hne2, st2⟩ := ldcCH X1 hx hZ hown (hw18 hw) (own_wS hw) e1 hS0 hk0 (own_EW hw) (by decide +kernel) CR0.1 (vs := []) (z := (0 : Int32)) ⟨by decide, by decide⟩ (by decide) (by decide) (g := (mkF m 9 #[.val (.ref a), .val (.ref b), .val (.int (0 : Int32)), .val (.int (0 : Int32)), .val .null, uS] [(.ref a)])) rfl (hb hby d3_9) (n := 0) (by decide) (by decide) (by decide) (by decide)
 have CR2 : CHr Z EL s.vm h0 T2.vm h2 := CR0.trans C2
 have sf2_a : Safe Z EL T2.vm h2 a := C2.safe P0.lt sf0_a
 refine Goes.st st2 ?_
 show Goes _ _ _ _ (T2.setTop (mkF m 11 #[.val (.ref a), .val (.ref b), .val (.int (0 : Int32)), .val (.int (0 : Int32)), .val .null, uS] [(.ref b2), (.ref a)]))
 obtain ⟨T3, X3, e3, st3⟩ := getF X2 hx hZ2 hown2 (host := "") (Or.inl (hw24 hw)) Via.refl e2 Vf2 (g := (mkF m 11 #[.val (.ref a), .val (.ref b), .val (.int (0 : Int32)), .val (.int (0 : Int32)), .val .null, uS] [(.ref b2), (.ref a)])) rfl rfl (hb hby d3_11)
 refine Goes.st st3 ?_
 show Goes _ _ _ _ (T3.setTop (mkF m 14 #[.val (.ref a), .val (.ref b), .val (.int (0 : Int32)), .val (.int (0 : Int32)), .val .null, uS] [(.ref t2), (.ref a)]))
 have f4 : Exa Z h2 a "java/lang/String" := (P0.ext E2)
 have f5 : Fld Z h2 a "java/lang/String" "value" "[B" .null := (P1.ext E2)
 obtain ⟨T6, h6, X6, e6, W6, st6⟩ := putF X3 hx hZ2 hown2 (host := "") (Or.inl (hw24 hw)) Via.refl e3 f5 f4 (Or.inr ⟨(hw20 hw), rfl, hnm⟩) (hw6 hw) (ty := (.array .byte)) (by decide) rfl rfl (g := (mkF m 14 #[.val (.ref a), .val (.ref b), .val (.int (0 : Int32)), .val (.int (0 : Int32)), .val .null, uS] [(.ref t2), (.ref a)])) rfl rfl (hb hby d3_14)
 have N6 := Fr.snoc X6 N0 g_a
 have CR7 : CHr Z EL s.vm h0 T2.vm h6 := CR2.trans (CHr.wr W6 sf2_a CR2.1)
 have sf7_a : Safe Z EL T2.vm h6 a := Safe.wr W6 sf2_a CR2.1 sf2_a
 have F6 := f5.same W6
 refine Goes.st st6 ?_
 show Goes _ _ _ _ (T6.setTop (mkF m 17 #[.val (.ref a), .val (.ref b), .val (.int (0 : Int32)), .val (.int (0 : Int32)), .val .null, uS] []))
 refine Goes.st (fun sT kT => XS.aloadN X6.here hx rfl (hb hby d3_17) rfl rfl kT) ?_
 show Goes _ _ _ _ (T6.setTop (mkF m 18 #[.val (.ref a), .val (.ref b), .val (.int (0 : Int32)), .val (.int (0 : Int32)), .val .null, uS] [(.ref a)]))
 obtain ⟨b8, T8, h8, kk8, t8, kb8, X8, e8, E8, hS8, hk8, hZ8, hown8, Ex8, Cd8, Vf8, Av8, lb8, lt8, C8, Lt8, hne8, st8⟩ := ldcCH X6 hx hZ2 hown2 (hw18 hw) (own_wS hw) e6 hS2 (Nat.le_trans hk2 (Nat.le_of_eq W6.size.symm)) (own_EW hw) (by decide +kernel) CR7.1 (vs := []) (z := (0 : Int32)) ⟨by decide, by decide⟩ (by decide) (by decide) (g := (mkF m 18 #[.val (.ref a), .val (.ref b), .val (.int (0 : Int32)), .val (.int (0 : Int32)), .val .null, uS] [(.ref a)])) rfl (hb hby d3_18) (n := 0) (by decide) (by decide) (by decide) (by decide)
 have CR8 : CHr Z EL s.vm h0 T8.vm h8 := CR7.trans C8
 have sf8_a : Safe Z EL T8.vm h8 a := C8.safe (Nat.lt_of_lt_of_le P0.lt (Nat.le_trans E2.1 (Nat.le_of_eq W6.size.symm))) sf7_a
 refine Goes.st st8 ?_
 show Goes _ _ _ _ (T8.setTop (mkF m 20 #[.val (.ref a), .val (.ref b), .val (.int (0 : Int32)), .val (.int (0 : Int32)), .val .null, uS] [(.ref b8), (.ref a)]))
 obtain ⟨T9, X9, e9, st9⟩ := getF X8 hx hZ8 hown8 (host := "") (Or.inl (hw25 hw)) Via.refl e8 Cd8 (g := (mkF m 20 #[.val (.ref a), .val (.ref b), .val (.int (0 : Int32)), .val (.int (0 : Int32)), .val .null, uS] [(.ref b8), (.ref a)])) rfl rfl (hb hby d3_20)
 refine Goes.st st9 ?_
 show Goes _ _ _ _ (T9.setTop (mkF m 23 #[.val (.ref a), .val (.ref b), .val (.int (0 : Int32)), .val (.int (0 : Int32)), .val .null, uS] [(.int (0 : Int32)), (.ref a)]))
 have f10 : Exa Z h8 a "java/lang/String" := ((f4.wr W6).ext E8)
 have f11 : Fld Z h8 a "java/lang/String" "coder" "B" (.int (0 : Int32)) := (((P2.ext E2).other W6 (Or.inr (slot_ne (Or.inr (hw21 hw)) (Or.inr (hw20 hw)) (by decide) (t := .byte) (t' := (.array .byte)) (by decide) (by decide)))).ext E8)
 obtain ⟨T12, h12, X12, e12, W12, st12⟩ := putFN X9 hx hZ8 hown8 (hw25 hw) Via.refl e9 f11 f10 (Or.inr ⟨(hw21 hw), rfl, hnm⟩) (hw6 hw) (ty := .byte) (v' := (.int (0 : Int32))) (by decide) rfl (by decide) (g := (mkF m 23 #[.val (.ref a), .val (.ref b), .val (.int (0 : Int32)), .val (.int (0 : Int32)), .val .null, uS] [(.int (0 : Int32)), (.ref a)])) rfl rfl (hb hby d3_23)
 have N12 := Fr.snoc X12 N6 g_a
 have CR13 : CHr Z EL s.vm h0 T8.vm h12 := CR8.trans (CHr.wr W12 sf8_a CR8.1)
 have sf13_a : Safe Z EL T8.vm h12 a := Safe.wr W12 sf8_a CR8.1 sf8_a
 have F12 := f11.same W12
 refine Goes.st st12 ?_
 show Goes _ _ _ _ (T12.setTop (mkF m 26 #[.val (.ref a), .val (.ref b), .val (.int (0 : Int32)), .val (.int (0 : Int32)), .val .null, uS] []))
 have f15 : Exa Z h12 a "java/lang/String" := (f10.wr W12)
 have f16 : Fld Z h12 a "java/lang/String" "value" "[B" (.ref t2) := ((F6.ext E8).other W12 (Or.inr (slot_ne (Or.inr (hw20 hw)) (Or.inr (hw21 hw)) (by decide) (t := (.array .byte)) (t' := .byte) (by decide) (by decide))))
 have f17 : Arv Z h12 t2 kb2 .byte (0 : Int32) [] (.int (0 : Int32)) := (((Av2.other W6 (Ne.symm (hne2 _ sf2_a).2)).ext E8).other W12 (Ne.symm (hne2 _ sf2_a).2))
 have S14 : Str Z h12 a t2 kb2 [] := ⟨f15, f16, F12, f17, own_c0, Nat.zero_le _⟩
 have kp18 : Keep h0 h2 [a] := (Keep.refl h0 [a]).ext E2
 have kp19 : Keep h0 h6 [a] := kp18.wr W6 (Or.inl (List.mem_of_getElem? (i := 0) rfl))
 have kp20 : Keep h0 h8 [a] := kp19.ext E8
 have kp21 : Keep h0 h12 [a] := kp20.wr W12 (Or.inl (List.mem_of_getElem? (i := 0) rfl))
 obtain ⟨fs, hr, hrun, hended, hRW⟩ := X12.leaveW hS8 (by rw [e12]; exact (Nat.le_trans hk8 (Nat.le_of_eq W12.size.symm))) (v := none) (fun _ => rfl)
 subst hQQ
 have hCR : CHr Z EL s.vm s.heap T12.vm T12.heap := by rw [hh, e12]; exact CR13.trans (CHv.at X12 hZ8 (own_EW hw) CR13.1)
 refine ⟨_, _, X12.returnOut hx Bd.returns (hb hby d3_26) hr, hrun, hended, _, _, rfl, ?_, hCR, own_REmono hRW (by decide) (by decide)⟩
 show Q_s4e Z a b h0 n0 _ T12.heap _
 rw [e12]
 exact ⟨t2, kb2, rfl, N12, kp21, S14, (hne2 _ sf2_a).2⟩
theorem ef_s1e (m : MethodId) (a : Addr) (b : Addr) (kc : ClassId) : entryFrame m #[(.ref a), (.ref b)] 2 = (mkF m 0 #[.val (.ref a), .val (.ref b)] []) := by first | (simp [entryFrame, mkF, argsToLocals, Value.category]; done) | rfl
def Q_s1e (Z : State) (a : Addr) (b : Addr) (kc : ClassId) (h0 : Heap) (n0 : Nat) (v : Option Value) (h : Heap) (L : List Loc) : Prop := ∃ (t : Addr) (kb : ClassId), v = none ∧ Fr n0 L ∧ Keep h0 h [a] ∧ Str Z h a t kb [] ∧ a ≠ t
set_option maxRecDepth 65536 in
set_option maxHeartbeats 40000000 in
theorem rm_s1e (l : Launch) (Z : State) (a0 : Array Value) (hw : ∀ d ∈ tables_1, d.before a0 Z = true) (ws : List Jvm.Cond) (a : Addr) (b : Addr) (kc : ClassId) (h0 : Heap) (n0 : Nat) (Z0 : n0 ≤ h0.size) (P0 : Exa Z h0 a "java/lang/String") (P1 : Fld Z h0 a "java/lang/String" "value" "[B" .null) (P2 : Fld Z h0 a "java/lang/String" "coder" "B" (.int (0 : Int32))) (P3 : Arv Z h0 b kc .char (0 : Int32) [] (.int (0 : Int32))) (g_a : n0 ≤ a) :
    MetFree l (⟨"java/lang/String", "<init>", "([C)V"⟩ : MethodName) (head1 (Jvm.Cond.code (⟨"java/lang/String", "<init>", "([C)V"⟩ : MethodName) jdk_42_method_3_code 2 none :: ws) ({ frames := 2, cells := 4, slots := 8, locals := 29 } : Room)) (fun aR U => aR = #[(.ref a), (.ref b)] ∧ Z.Warmed39 U.vm ∧ U.heap = h0 ∧ CHv Z EL U.vm h0 ∧ ∀ x ∈ ([a] : List Addr), Safe Z EL U.vm h0 x) (fun _ _ _ _ _ => True) (fun _ U o U' => ∃ v L, o = .returned v ∧ Q_s1e Z a b kc h0 n0 v U'.heap L ∧ CHr Z EL U.vm U.heap U'.vm U'.heap ∧ ReturnedEndW U o U' L ({ frames := 2, cells := 4, slots := 8, locals := 29 } : Room).cells ({ frames := 2, cells := 4, slots := 8, locals := 29 } : Room).slots) := by
 refine MetFree.of_bodySF (plainFor_of_name pn_0) hisR ?_
 intro p e s m args below meth c s₁ Bd hml0 hP hK
 obtain ⟨rfl, hZ, hh, hCH, hSF⟩ := hP
 have hx := Bd.exec
 have hby := Bd.bytes
 have hml : c.maxLocals = 2 := hml0
 have hown : s.vm.findClass "java/lang/String" = some m.cls := findClass_of_methodNamed Bd.named
 have hnm := (name_of_methodNamed Bd.named Bd.method).1
 have X0 : Stand p l e ({ frames := 2, cells := 4, slots := 8, locals := 29 } : Room) (s.setVm s.vm) m #[(.ref a), (.ref b)] below meth c s₁ [] 0 0 := Stand.of_body Bd
 have e0 : s₁.heap = h0 := by rw [← hh, Bd.state]; rfl
 have N0 := Fr.nil n0
 show Goes p.tables e below _ _
 rw [ef_s1e m a b kc]
 refine Goes.named ?_
 intro QQ hQQ
 have hS0 : s.Since s.vm 0 := (State.WarmedH.refl s).since 0
 have hk0 : 0 ≤ h0.size := Nat.zero_le _
 have CR0 : CHr Z EL s.vm h0 s.vm h0 := CHr.refl hCH
 have sf0_a : Safe Z EL s.vm h0 a := hSF _ (List.mem_of_getElem? (i := 0) rfl)
 refine Goes.st (fun sT kT => XS.aloadN X0.here hx rfl (hb hby d2_0) rfl rfl kT) ?_
 show Goes _ _ _ _ (s₁.setTop (mkF m 1 #[.val (.ref a), .val (.ref b)] [(.ref a)]))
 refine Goes.st (fun sT kT => XS.aloadN X0.here hx rfl (hb hby d2_1) rfl rfl kT) ?_
 show Goes _ _ _ _ (s₁.setTop (mkF m 2 #[.val (.ref a), .val (.ref b)] [(.ref b), (.ref a)]))
 refine Goes.st (fun sT kT => XS.iconst X0.here hx rfl (hb hby d2_2) kT) ?_
 show Goes _ _ _ _ (s₁.setTop (mkF m 3 #[.val (.ref a), .val (.ref b)] [(.int (0 : Int32)), (.ref b), (.ref a)]))
 refine Goes.st (fun sT kT => XS.aloadN X0.here hx rfl (hb hby d2_3) rfl rfl kT) ?_
 show Goes _ _ _ _ (s₁.setTop (mkF m 4 #[.val (.ref a), .val (.ref b)] [(.ref b), (.int (0 : Int32)), (.ref b), (.ref a)]))
 obtain ⟨oc1, oA1, oq1, oS1, oM1, oH1, oG1⟩ := id P3
 refine Goes.st (fun sT kT => X0.arraylength hx (by rw [e0]; exact oA1.1) (State.isArrayOf_alike hZ.alike oA1.2.1) (g := (mkF m 4 #[.val (.ref a), .val (.ref b)] [(.ref b), (.int (0 : Int32)), (.ref b), (.ref a)])) rfl rfl (hb hby d2_4) _ kT) ?_
 rw [len_of oS1 oM1]
 show Goes _ _ _ _ (s₁.setTop (mkF m 5 #[.val (.ref a), .val (.ref b)] [(.int (0 : Int32)), (.int (0 : Int32)), (.ref b), (.ref a)]))
 refine Goes.st (fun sT kT => XS.aconstNull X0.here hx rfl (hb hby d2_5) kT) ?_
 show Goes _ _ _ _ (s₁.setTop (mkF m 6 #[.val (.ref a), .val (.ref b)] [.null, (.int (0 : Int32)), (.int (0 : Int32)), (.ref b), (.ref a)]))
 obtain ⟨_, _, ⟨T2, L2, k2, n2⟩, -, X2, hSr2, hgr2, ⟨Lc2, hQ2, l2, y2, z2, C2⟩, st2⟩ := X0.specialBackS hx (y := (⟨"java/lang/String", "<init>", "([CIILjava/lang/Void;)V"⟩ : MethodName)) rfl hown (mvT hZ (hw11 hw)) (mvT hZ (hw12 hw)) (mvT hZ (hw14 hw)) (by decide) (own_backW (W := 0) (xs := [a]) (rm_s4e l Z a0 hw [] a b h0 n0 Z0 P0 P1 P2 g_a) hZ (hw14 hw) (hw7 hw) (by decide) (by decide) (own_EW hw) CR0.1 (allS ⟨P0.lt, sf0_a⟩ all0)) (g := (mkF m 6 #[.val (.ref a), .val (.ref b)] [.null, (.int (0 : Int32)), (.int (0 : Int32)), (.ref b), (.ref a)])) rfl (by rw [hml]; rfl) (Steps.refl _) (a := a) (argsL := [(.ref b), (.int (0 : Int32)), (.int (0 : Int32)), .null]) (rest := []) (lenOf pd_0 rfl) rfl (by show 2 * 0 + _ ≤ _; exact Nat.le_of_eq rfl) (hb hby d2_6) (fun _ _ => ⟨rfl, e0, (by decide : 0 + 4 ≤ _), (by decide : 0 + 8 ≤ _)⟩)
 dsimp only [Pt.U, Pt.locs, Pt.cells, Pt.slots] at X2 l2 y2 z2 st2 hQ2 hSr2 hgr2 C2
 subst l2 y2 z2
 obtain ⟨X2, hS2, hZ2, hown2⟩ := rebS hS0 (by rw [e0]; exact hk0) X2 hSr2 hgr2 hZ hown
 obtain ⟨t2, kb2, rfl, N2q, K2, F2_0, ne2_0⟩ := hQ2
 have N2 := Fr.app N0 N2q
 have F2_0E := F2_0.1
 have CR3 : CHr Z EL s.vm h0 T2.vm T2.heap := CR0.trans (C2)
 have sf3_a : Safe Z EL T2.vm T2.heap a := C2.safe P0.lt sf0_a
 refine Goes.tr st2 ?_
 show Goes _ _ _ _ (T2.setTop (mkF m 9 #[.val (.ref a), .val (.ref b)] []))
 have kp4 : Keep h0 T2.heap [a] := (Keep.refl h0 [a]).trans K2 (allS (Or.inl (List.mem_of_getElem? (i := 0) rfl)) all0)
 obtain ⟨fs, hr, hrun, hended, hRW⟩ := X2.leaveW hS2 (Nat.le_refl _) (v := none) (fun _ => rfl)
 subst hQQ
 have hCR : CHr Z EL s.vm s.heap T2.vm T2.heap := by rw [hh]; exact CR3.trans (CHv.at X2 hZ2 (own_EW hw) CR3.1)
 refine ⟨_, _, X2.returnOut hx Bd.returns (hb hby d2_9) hr, hrun, hended, _, _, rfl, ?_, hCR, own_REmono hRW (by decide) (by decide)⟩
 show Q_s1e Z a b kc h0 n0 _ T2.heap _
 exact ⟨t2, kb2, rfl, N2, kp4, F2_0, ne2_0⟩
theorem ef_pick (m : MethodId) (p0 : Int32) : entryFrame m #[(.int p0)] 2 = (mkF m 0 #[.val (.int p0), uS] []) := by first | (simp [entryFrame, mkF, argsToLocals, Value.category]; done) | rfl
def Q_pick (Z : State) (p0 : Int32) (h0 : Heap) (n0 : Nat) (v : Option Value) (h : Heap) (L : List Loc) : Prop := ∃ (cc : Int32), v = some (.int cc) ∧ Fr n0 L ∧ h = h0 ∧ (¬ cc < 0 ∧ ¬ (255 : Int32) < cc)
set_option maxRecDepth 65536 in
set_option maxHeartbeats 40000000 in
theorem rm_pick (l : Launch) (Z : State) (a0 : Array Value) (hw : ∀ d ∈ tables_1, d.before a0 Z = true) (ws : List Jvm.Cond) (p0 : Int32) (h0 : Heap) (n0 : Nat) (Z0 : n0 ≤ h0.size) :
    MetFree l (⟨"com/example/warrant/warrant/messages/ExpressionParserEndsPinLaw", "pick", "(I)C"⟩ : MethodName) (head1 (Jvm.Cond.code (⟨"com/example/warrant/warrant/messages/ExpressionParserEndsPinLaw", "pick", "(I)C"⟩ : MethodName) method_4_code 2 (some .char) :: ws) ({ frames := 0, cells := 0, slots := 0, locals := 0 } : Room)) (fun aR U => aR = #[(.int p0)] ∧ Z.Warmed39 U.vm ∧ U.heap = h0) (fun _ _ _ _ _ => True) (fun _ U o U' => ∃ v L, o = .returned v ∧ Q_pick Z p0 h0 n0 v U'.heap L ∧ FrameEnd U o U' L ({ frames := 0, cells := 0, slots := 0, locals := 0 } : Room).cells ({ frames := 0, cells := 0, slots := 0, locals := 0 } : Room).slots) := by
 refine MetFree.of_bodySF (plainFor_of_name pn_1) hisR ?_
 intro p e s m args below meth c s₁ Bd hml0 hP hK
 obtain ⟨rfl, hZ, hh⟩ := hP
 have hx := Bd.exec
 have hby := Bd.bytes
 have hml : c.maxLocals = 2 := hml0
 have hown : s.vm.findClass "com/example/warrant/warrant/messages/ExpressionParserEndsPinLaw" = some m.cls := findClass_of_methodNamed Bd.named
 have hnm := (name_of_methodNamed Bd.named Bd.method).1
 have X0 : Stand p l e ({ frames := 0, cells := 0, slots := 0, locals := 0 } : Room) s m #[(.int p0)] below meth c s₁ [] 0 0 := Stand.of_body Bd
 have e0 : s₁.heap = h0 := by rw [← hh, Bd.state]; rfl
 have N0 := Fr.nil n0
 show Goes p.tables e below _ _
 rw [ef_pick m p0]
 refine Goes.named ?_
 intro QQ hQQ
 refine Goes.st (fun sT kT => XS.iloadN X0.here hx rfl (hb hby d1_0) rfl kT) ?_
 show Goes _ _ _ _ (s₁.setTop (mkF m 1 #[.val (.int p0), uS] [(.int p0)]))
 refine Goes.st (fun sT kT => XS.bipush X0.here hx rfl (hb hby d1_1) kT) ?_
 show Goes _ _ _ _ (s₁.setTop (mkF m 3 #[.val (.int p0), uS] [(.int (7 : Int32)), (.int p0)]))
 refine Goes.st (fun sT kT => XS.iand X0.here hx rfl (hb hby d1_3) rfl kT) ?_
 show Goes _ _ _ _ (s₁.setTop (mkF m 4 #[.val (.int p0), uS] [(.int (p0 &&& (7 : Int32)))]))
 refine Goes.st (fun sT kT => XS.istoreN X0.here hx rfl (hb hby d1_4) rfl (l' := #[.val (.int p0), .val (.int (p0 &&& (7 : Int32)))]) rfl kT) ?_
 show Goes _ _ _ _ (s₁.setTop (mkF m 5 #[.val (.int p0), .val (.int (p0 &&& (7 : Int32)))] []))
 refine Goes.st (fun sT kT => XS.iloadN X0.here hx rfl (hb hby d1_5) rfl kT) ?_
 show Goes _ _ _ _ (s₁.setTop (mkF m 6 #[.val (.int p0), .val (.int (p0 &&& (7 : Int32)))] [(.int (p0 &&& (7 : Int32)))]))
 by_cases cz1 : (p0 &&& (7 : Int32)) = (0 : Int32)
 case pos =>
  refine Goes.st (fun sT kT => XS.ifNo X0.here hx rfl (hb hby d1_6) rfl ((if0 _ _).trans (teq cz1).2) kT) ?_
  show Goes _ _ _ _ (s₁.setTop (mkF m 9 #[.val (.int p0), .val (.int (p0 &&& (7 : Int32)))] []))
  refine Goes.st (fun sT kT => XS.bipush X0.here hx rfl (hb hby d1_9) kT) ?_
  show Goes _ _ _ _ (s₁.setTop (mkF m 11 #[.val (.int p0), .val (.int (p0 &&& (7 : Int32)))] [(.int (125 : Int32))]))
  obtain ⟨fs, hr, hrun, hended, hW, hsame⟩ := X0.leave (v := some (.int (125 : Int32))) (fun h => by rw [Bd.returns] at h; cases h)
  subst hQQ
  refine ⟨_, _, retN X0 hx (t := .char) Bd.returns (by simp) (hb hby d1_11) hr, hrun, hended, _, _, rfl, ?_, ⟨_, rfl⟩, hW, hsame.mono (by decide) (by decide)⟩
  show Q_pick Z p0 h0 n0 _ s₁.heap _
  rw [e0]
  exact ⟨(125 : Int32), rfl, N0, rfl, (by decide)⟩
 case neg =>
  refine Goes.st (fun sT kT => XS.ifYes X0.here hx rfl (pc0 := 6) (pc' := 12) rfl (hb hby d1_6) rfl ((if0 _ _).trans (feq cz1).2) (by decide) (by decide) kT) ?_
  show Goes _ _ _ _ (s₁.setTop (mkF m 12 #[.val (.int p0), .val (.int (p0 &&& (7 : Int32)))] []))
  refine Goes.st (fun sT kT => XS.iloadN X0.here hx rfl (hb hby d1_12) rfl kT) ?_
  show Goes _ _ _ _ (s₁.setTop (mkF m 13 #[.val (.int p0), .val (.int (p0 &&& (7 : Int32)))] [(.int (p0 &&& (7 : Int32)))]))
  refine Goes.st (fun sT kT => XS.iconst X0.here hx rfl (hb hby d1_13) kT) ?_
  show Goes _ _ _ _ (s₁.setTop (mkF m 14 #[.val (.int p0), .val (.int (p0 &&& (7 : Int32)))] [(.int (1 : Int32)), (.int (p0 &&& (7 : Int32)))]))
  by_cases cz2 : (p0 &&& (7 : Int32)) = (1 : Int32)
  case pos =>
   refine Goes.st (fun sT kT => XS.icmpNo X0.here hx rfl (hb hby d1_14) rfl (teq cz2).2 kT) ?_
   show Goes _ _ _ _ (s₁.setTop (mkF m 17 #[.val (.int p0), .val (.int (p0 &&& (7 : Int32)))] []))
   refine Goes.st (fun sT kT => XS.bipush X0.here hx rfl (hb hby d1_17) kT) ?_
   show Goes _ _ _ _ (s₁.setTop (mkF m 19 #[.val (.int p0), .val (.int (p0 &&& (7 : Int32)))] [(.int (39 : Int32))]))
   obtain ⟨fs, hr, hrun, hended, hW, hsame⟩ := X0.leave (v := some (.int (39 : Int32))) (fun h => by rw [Bd.returns] at h; cases h)
   subst hQQ
   refine ⟨_, _, retN X0 hx (t := .char) Bd.returns (by simp) (hb hby d1_19) hr, hrun, hended, _, _, rfl, ?_, ⟨_, rfl⟩, hW, hsame.mono (by decide) (by decide)⟩
   show Q_pick Z p0 h0 n0 _ s₁.heap _
   rw [e0]
   exact ⟨(39 : Int32), rfl, N0, rfl, (by decide)⟩
  case neg =>
   refine Goes.st (fun sT kT => XS.icmpYes X0.here hx rfl (pc0 := 14) (pc' := 20) rfl (hb hby d1_14) rfl (feq cz2).2 (by decide) (by decide) kT) ?_
   show Goes _ _ _ _ (s₁.setTop (mkF m 20 #[.val (.int p0), .val (.int (p0 &&& (7 : Int32)))] []))
   refine Goes.st (fun sT kT => XS.iloadN X0.here hx rfl (hb hby d1_20) rfl kT) ?_
   show Goes _ _ _ _ (s₁.setTop (mkF m 21 #[.val (.int p0), .val (.int (p0 &&& (7 : Int32)))] [(.int (p0 &&& (7 : Int32)))]))
   refine Goes.st (fun sT kT => XS.iconst X0.here hx rfl (hb hby d1_21) kT) ?_
   show Goes _ _ _ _ (s₁.setTop (mkF m 22 #[.val (.int p0), .val (.int (p0 &&& (7 : Int32)))] [(.int (2 : Int32)), (.int (p0 &&& (7 : Int32)))]))
   by_cases cz3 : (p0 &&& (7 : Int32)) = (2 : Int32)
   case pos =>
    refine Goes.st (fun sT kT => XS.icmpNo X0.here hx rfl (hb hby d1_22) rfl (teq cz3).2 kT) ?_
    show Goes _ _ _ _ (s₁.setTop (mkF m 25 #[.val (.int p0), .val (.int (p0 &&& (7 : Int32)))] []))
    refine Goes.st (fun sT kT => XS.bipush X0.here hx rfl (hb hby d1_25) kT) ?_
    show Goes _ _ _ _ (s₁.setTop (mkF m 27 #[.val (.int p0), .val (.int (p0 &&& (7 : Int32)))] [(.int (34 : Int32))]))
    obtain ⟨fs, hr, hrun, hended, hW, hsame⟩ := X0.leave (v := some (.int (34 : Int32))) (fun h => by rw [Bd.returns] at h; cases h)
    subst hQQ
    refine ⟨_, _, retN X0 hx (t := .char) Bd.returns (by simp) (hb hby d1_27) hr, hrun, hended, _, _, rfl, ?_, ⟨_, rfl⟩, hW, hsame.mono (by decide) (by decide)⟩
    show Q_pick Z p0 h0 n0 _ s₁.heap _
    rw [e0]
    exact ⟨(34 : Int32), rfl, N0, rfl, (by decide)⟩
   case neg =>
    refine Goes.st (fun sT kT => XS.icmpYes X0.here hx rfl (pc0 := 22) (pc' := 28) rfl (hb hby d1_22) rfl (feq cz3).2 (by decide) (by decide) kT) ?_
    show Goes _ _ _ _ (s₁.setTop (mkF m 28 #[.val (.int p0), .val (.int (p0 &&& (7 : Int32)))] []))
    refine Goes.st (fun sT kT => XS.iloadN X0.here hx rfl (hb hby d1_28) rfl kT) ?_
    show Goes _ _ _ _ (s₁.setTop (mkF m 29 #[.val (.int p0), .val (.int (p0 &&& (7 : Int32)))] [(.int (p0 &&& (7 : Int32)))]))
    refine Goes.st (fun sT kT => XS.iconst X0.here hx rfl (hb hby d1_29) kT) ?_
    show Goes _ _ _ _ (s₁.setTop (mkF m 30 #[.val (.int p0), .val (.int (p0 &&& (7 : Int32)))] [(.int (3 : Int32)), (.int (p0 &&& (7 : Int32)))]))
    by_cases cz4 : (p0 &&& (7 : Int32)) = (3 : Int32)
    case pos =>
     refine Goes.st (fun sT kT => XS.icmpNo X0.here hx rfl (hb hby d1_30) rfl (teq cz4).2 kT) ?_
     show Goes _ _ _ _ (s₁.setTop (mkF m 33 #[.val (.int p0), .val (.int (p0 &&& (7 : Int32)))] []))
     refine Goes.st (fun sT kT => XS.bipush X0.here hx rfl (hb hby d1_33) kT) ?_
     show Goes _ _ _ _ (s₁.setTop (mkF m 35 #[.val (.int p0), .val (.int (p0 &&& (7 : Int32)))] [(.int (92 : Int32))]))
     obtain ⟨fs, hr, hrun, hended, hW, hsame⟩ := X0.leave (v := some (.int (92 : Int32))) (fun h => by rw [Bd.returns] at h; cases h)
     subst hQQ
     refine ⟨_, _, retN X0 hx (t := .char) Bd.returns (by simp) (hb hby d1_35) hr, hrun, hended, _, _, rfl, ?_, ⟨_, rfl⟩, hW, hsame.mono (by decide) (by decide)⟩
     show Q_pick Z p0 h0 n0 _ s₁.heap _
     rw [e0]
     exact ⟨(92 : Int32), rfl, N0, rfl, (by decide)⟩
    case neg =>
     refine Goes.st (fun sT kT => XS.icmpYes X0.here hx rfl (pc0 := 30) (pc' := 36) rfl (hb hby d1_30) rfl (feq cz4).2 (by decide) (by decide) kT) ?_
     show Goes _ _ _ _ (s₁.setTop (mkF m 36 #[.val (.int p0), .val (.int (p0 &&& (7 : Int32)))] []))
     refine Goes.st (fun sT kT => XS.iloadN X0.here hx rfl (hb hby d1_36) rfl kT) ?_
     show Goes _ _ _ _ (s₁.setTop (mkF m 37 #[.val (.int p0), .val (.int (p0 &&& (7 : Int32)))] [(.int p0)]))
     refine Goes.st (fun sT kT => XS.iconst X0.here hx rfl (hb hby d1_37) kT) ?_
     show Goes _ _ _ _ (s₁.setTop (mkF m 38 #[.val (.int p0), .val (.int (p0 &&& (7 : Int32)))] [(.int (3 : Int32)), (.int p0)]))
     refine Goes.st (fun sT kT => XS.iushr X0.here hx rfl (hb hby d1_38) rfl kT) ?_
     show Goes _ _ _ _ (s₁.setTop (mkF m 39 #[.val (.int p0), .val (.int (p0 &&& (7 : Int32)))] [(.int ((p0.toUInt32 >>> ((3 : Int32) &&& 31).toUInt32).toInt32))]))
     refine Goes.st (fun sT kT => XS.sipush X0.here hx rfl (hb hby d1_39) kT) ?_
     show Goes _ _ _ _ (s₁.setTop (mkF m 42 #[.val (.int p0), .val (.int (p0 &&& (7 : Int32)))] [(.int (255 : Int32)), (.int ((p0.toUInt32 >>> ((3 : Int32) &&& 31).toUInt32).toInt32))]))
     refine Goes.st (fun sT kT => XS.iand X0.here hx rfl (hb hby d1_42) rfl kT) ?_
     show Goes _ _ _ _ (s₁.setTop (mkF m 43 #[.val (.int p0), .val (.int (p0 &&& (7 : Int32)))] [(.int (((p0.toUInt32 >>> ((3 : Int32) &&& 31).toUInt32).toInt32) &&& (255 : Int32)))]))
     refine Goes.st (fun sT kT => XS.i2c X0.here hx rfl (hb hby d1_43) rfl kT) ?_
     show Goes _ _ _ _ (s₁.setTop (mkF m 44 #[.val (.int p0), .val (.int (p0 &&& (7 : Int32)))] [(.int ((((p0.toUInt32 >>> ((3 : Int32) &&& 31).toUInt32).toInt32) &&& (255 : Int32)).toUInt32.toUInt16.toUInt32.toInt32))]))
     obtain ⟨fs, hr, hrun, hended, hW, hsame⟩ := X0.leave (v := some (.int (nar .char ((((p0.toUInt32 >>> ((3 : Int32) &&& 31).toUInt32).toInt32) &&& (255 : Int32)).toUInt32.toUInt16.toUInt32.toInt32)))) (fun h => by rw [Bd.returns] at h; cases h)
     subst hQQ
     refine ⟨_, _, retN X0 hx (t := .char) Bd.returns (by simp) (hb hby d1_44) hr, hrun, hended, _, _, rfl, ?_, ⟨_, rfl⟩, hW, hsame.mono (by decide) (by decide)⟩
     show Q_pick Z p0 h0 n0 _ s₁.heap _
     rw [e0]
     exact ⟨(nar .char ((((p0.toUInt32 >>> ((3 : Int32) &&& 31).toUInt32).toInt32) &&& (255 : Int32)).toUInt32.toUInt16.toUInt32.toInt32)), rfl, N0, rfl, (own_and255 _)⟩
theorem ef_hop (m : MethodId) (b : Addr) (kc : ClassId) (cs : List Int32) (n : Nat) (pp : Nat) (ww : Int32) : entryFrame m #[(.ref b), (.int (Int32.ofNat n)), (.int (Int32.ofNat pp)), (.int ww)] 4 = (mkF m 0 #[.val (.ref b), .val (.int (Int32.ofNat n)), .val (.int (Int32.ofNat pp)), .val (.int ww)] []) := by first | (simp [entryFrame, mkF, argsToLocals, Value.category]; done) | rfl
def Q_hop (Z : State) (b : Addr) (kc : ClassId) (cs : List Int32) (n : Nat) (pp : Nat) (ww : Int32) (h0 : Heap) (n0 : Nat) (v : Option Value) (h : Heap) (L : List Loc) : Prop := v = some (.int (Int32.ofNat (own_hop cs n pp ww))) ∧ Fr n0 L ∧ h = h0
set_option maxRecDepth 65536 in
set_option maxHeartbeats 40000000 in
theorem rm_hop (l : Launch) (Z : State) (a0 : Array Value) (hw : ∀ d ∈ tables_1, d.before a0 Z = true) (ws : List Jvm.Cond) (b : Addr) (kc : ClassId) (cs : List Int32) (n : Nat) (pp : Nat) (ww : Int32) (h0 : Heap) (n0 : Nat) (Z0 : n0 ≤ h0.size) (P0 : Arv Z h0 b kc .char (5 : Int32) (cs.map Value.int) (.int (0 : Int32))) (hn : n ≤ 5) (hp : pp ≤ 40) :
    MetFree l (⟨"com/example/warrant/warrant/messages/ExpressionParserEndsPinLaw", "hop", "([CIIC)I"⟩ : MethodName) (head1 (Jvm.Cond.code (⟨"com/example/warrant/warrant/messages/ExpressionParserEndsPinLaw", "hop", "([CIIC)I"⟩ : MethodName) method_8_code 4 (some .int) :: ws) ({ frames := 0, cells := 0, slots := 0, locals := 0 } : Room)) (fun aR U => aR = #[(.ref b), (.int (Int32.ofNat n)), (.int (Int32.ofNat pp)), (.int ww)] ∧ Z.Warmed39 U.vm ∧ U.heap = h0) (fun _ _ _ _ _ => True) (fun _ U o U' => ∃ v L, o = .returned v ∧ Q_hop Z b kc cs n pp ww h0 n0 v U'.heap L ∧ FrameEnd U o U' L ({ frames := 0, cells := 0, slots := 0, locals := 0 } : Room).cells ({ frames := 0, cells := 0, slots := 0, locals := 0 } : Room).slots) := by
 refine MetFree.of_bodySF (plainFor_of_name pn_1) hisR ?_
 intro p e s m args below meth c s₁ Bd hml0 hP hK
 obtain ⟨rfl, hZ, hh⟩ := hP
 have hx := Bd.exec
 have hby := Bd.bytes
 have hml : c.maxLocals = 4 := hml0
 have hown : s.vm.findClass "com/example/warrant/warrant/messages/ExpressionParserEndsPinLaw" = some m.cls := findClass_of_methodNamed Bd.named
 have hnm := (name_of_methodNamed Bd.named Bd.method).1
 have X0 : Stand p l e ({ frames := 0, cells := 0, slots := 0, locals := 0 } : Room) s m #[(.ref b), (.int (Int32.ofNat n)), (.int (Int32.ofNat pp)), (.int ww)] below meth c s₁ [] 0 0 := Stand.of_body Bd
 have e0 : s₁.heap = h0 := by rw [← hh, Bd.state]; rfl
 have N0 := Fr.nil n0
 show Goes p.tables e below _ _
 rw [ef_hop m b kc cs n pp ww]
 refine Goes.named ?_
 intro QQ hQQ
 refine Goes.st (fun sT kT => XS.iloadN X0.here hx rfl (hb hby d20_0) rfl kT) ?_
 show Goes _ _ _ _ (s₁.setTop (mkF m 1 #[.val (.ref b), .val (.int (Int32.ofNat n)), .val (.int (Int32.ofNat pp)), .val (.int ww)] [(.int (Int32.ofNat pp))]))
 refine Goes.st (fun sT kT => XS.iloadN X0.here hx rfl (hb hby d20_1) rfl kT) ?_
 show Goes _ _ _ _ (s₁.setTop (mkF m 2 #[.val (.ref b), .val (.int (Int32.ofNat n)), .val (.int (Int32.ofNat pp)), .val (.int ww)] [(.int (Int32.ofNat n)), (.int (Int32.ofNat pp))]))
 by_cases cz1 : (Int32.ofNat pp) < (Int32.ofNat n)
 case pos =>
  have hlt : pp < n := (own_nlt (by omega) (by omega)).mp cz1
  refine Goes.st (fun sT kT => XS.icmpNo X0.here hx rfl (hb hby d20_2) rfl (tlt cz1).2.1 kT) ?_
  show Goes _ _ _ _ (s₁.setTop (mkF m 5 #[.val (.ref b), .val (.int (Int32.ofNat n)), .val (.int (Int32.ofNat pp)), .val (.int ww)] []))
  refine Goes.st (fun sT kT => XS.aloadN X0.here hx rfl (hb hby d20_5) rfl rfl kT) ?_
  show Goes _ _ _ _ (s₁.setTop (mkF m 6 #[.val (.ref b), .val (.int (Int32.ofNat n)), .val (.int (Int32.ofNat pp)), .val (.int ww)] [(.ref b)]))
  refine Goes.st (fun sT kT => XS.iloadN X0.here hx rfl (hb hby d20_6) rfl kT) ?_
  show Goes _ _ _ _ (s₁.setTop (mkF m 7 #[.val (.ref b), .val (.int (Int32.ofNat n)), .val (.int (Int32.ofNat pp)), .val (.int ww)] [(.int (Int32.ofNat pp)), (.ref b)]))
  obtain ⟨oc2, oA2, oq2, oS2, oM2, oH2, oG2⟩ := id P0
  refine Goes.st (fun sT kT => X0.caload hx (j := (Int32.ofNat pp)) (v := (.int (cs.getD pp 0))) (by rw [e0]; exact oA2.1) (State.isArrayOf_alike hZ.alike oA2.2.1) oA2.2.2 (inb_of oS2 (own_ib (n := 5) (by decide) (by have := hlt; omega))) (oH2.at (inb_of oS2 (own_ib (n := 5) (by decide) (by have := hlt; omega))) (own_gi (by omega))) (g := (mkF m 7 #[.val (.ref b), .val (.int (Int32.ofNat n)), .val (.int (Int32.ofNat pp)), .val (.int ww)] [(.int (Int32.ofNat pp)), (.ref b)])) rfl rfl (hb hby d20_7) _ kT) ?_
  show Goes _ _ _ _ (s₁.setTop (mkF m 8 #[.val (.ref b), .val (.int (Int32.ofNat n)), .val (.int (Int32.ofNat pp)), .val (.int ww)] [(.int (cs.getD pp 0))]))
  refine Goes.st (fun sT kT => XS.iloadN X0.here hx rfl (hb hby d20_8) rfl kT) ?_
  show Goes _ _ _ _ (s₁.setTop (mkF m 9 #[.val (.ref b), .val (.int (Int32.ofNat n)), .val (.int (Int32.ofNat pp)), .val (.int ww)] [(.int ww), (.int (cs.getD pp 0))]))
  by_cases cz3 : (cs.getD pp 0) = ww
  case pos =>
   refine Goes.st (fun sT kT => XS.icmpNo X0.here hx rfl (hb hby d20_9) rfl (teq cz3).2 kT) ?_
   show Goes _ _ _ _ (s₁.setTop (mkF m 12 #[.val (.ref b), .val (.int (Int32.ofNat n)), .val (.int (Int32.ofNat pp)), .val (.int ww)] []))
   refine Goes.st (fun sT kT => XS.iloadN X0.here hx rfl (hb hby d20_12) rfl kT) ?_
   show Goes _ _ _ _ (s₁.setTop (mkF m 13 #[.val (.ref b), .val (.int (Int32.ofNat n)), .val (.int (Int32.ofNat pp)), .val (.int ww)] [(.int (Int32.ofNat pp))]))
   obtain ⟨fs, hr, hrun, hended, hW, hsame⟩ := X0.leave (v := some (.int (Int32.ofNat pp))) (fun h => by rw [Bd.returns] at h; cases h)
   subst hQQ
   refine ⟨_, _, retI X0 hx Bd.returns (hb hby d20_13) hr, hrun, hended, _, _, rfl, ?_, ⟨_, rfl⟩, hW, hsame.mono (by decide) (by decide)⟩
   show Q_hop Z b kc cs n pp ww h0 n0 _ s₁.heap _
   rw [e0]
   exact ⟨(by rw [own_hop, if_neg (Nat.not_le_of_lt hlt), if_pos cz3]), N0, rfl⟩
  case neg =>
   refine Goes.st (fun sT kT => XS.icmpYes X0.here hx rfl (pc0 := 9) (pc' := 14) rfl (hb hby d20_9) rfl (feq cz3).2 (by decide) (by decide) kT) ?_
   show Goes _ _ _ _ (s₁.setTop (mkF m 14 #[.val (.ref b), .val (.int (Int32.ofNat n)), .val (.int (Int32.ofNat pp)), .val (.int ww)] []))
   refine Goes.st (fun sT kT => XS.aloadN X0.here hx rfl (hb hby d20_14) rfl rfl kT) ?_
   show Goes _ _ _ _ (s₁.setTop (mkF m 15 #[.val (.ref b), .val (.int (Int32.ofNat n)), .val (.int (Int32.ofNat pp)), .val (.int ww)] [(.ref b)]))
   refine Goes.st (fun sT kT => XS.iloadN X0.here hx rfl (hb hby d20_15) rfl kT) ?_
   show Goes _ _ _ _ (s₁.setTop (mkF m 16 #[.val (.ref b), .val (.int (Int32.ofNat n)), .val (.int (Int32.ofNat pp)), .val (.int ww)] [(.int (Int32.ofNat pp)), (.ref b)]))
   obtain ⟨oc4, oA4, oq4, oS4, oM4, oH4, oG4⟩ := id P0
   refine Goes.st (fun sT kT => X0.caload hx (j := (Int32.ofNat pp)) (v := (.int (cs.getD pp 0))) (by rw [e0]; exact oA4.1) (State.isArrayOf_alike hZ.alike oA4.2.1) oA4.2.2 (inb_of oS4 (own_ib (n := 5) (by decide) (by have := hlt; omega))) (oH4.at (inb_of oS4 (own_ib (n := 5) (by decide) (by have := hlt; omega))) (own_gi (by omega))) (g := (mkF m 16 #[.val (.ref b), .val (.int (Int32.ofNat n)), .val (.int (Int32.ofNat pp)), .val (.int ww)] [(.int (Int32.ofNat pp)), (.ref b)])) rfl rfl (hb hby d20_16) _ kT) ?_
   show Goes _ _ _ _ (s₁.setTop (mkF m 17 #[.val (.ref b), .val (.int (Int32.ofNat n)), .val (.int (Int32.ofNat pp)), .val (.int ww)] [(.int (cs.getD pp 0))]))
   refine Goes.st (fun sT kT => XS.bipush X0.here hx rfl (hb hby d20_17) kT) ?_
   show Goes _ _ _ _ (s₁.setTop (mkF m 19 #[.val (.ref b), .val (.int (Int32.ofNat n)), .val (.int (Int32.ofNat pp)), .val (.int ww)] [(.int (92 : Int32)), (.int (cs.getD pp 0))]))
   by_cases cz5 : (cs.getD pp 0) = (92 : Int32)
   case pos =>
    refine Goes.st (fun sT kT => XS.icmpNo X0.here hx rfl (hb hby d20_19) rfl (teq cz5).2 kT) ?_
    show Goes _ _ _ _ (s₁.setTop (mkF m 22 #[.val (.ref b), .val (.int (Int32.ofNat n)), .val (.int (Int32.ofNat pp)), .val (.int ww)] []))
    refine Goes.st (fun sT kT => XS.iloadN X0.here hx rfl (hb hby d20_22) rfl kT) ?_
    show Goes _ _ _ _ (s₁.setTop (mkF m 23 #[.val (.ref b), .val (.int (Int32.ofNat n)), .val (.int (Int32.ofNat pp)), .val (.int ww)] [(.int (Int32.ofNat pp))]))
    refine Goes.st (fun sT kT => XS.iconst X0.here hx rfl (hb hby d20_23) kT) ?_
    show Goes _ _ _ _ (s₁.setTop (mkF m 24 #[.val (.ref b), .val (.int (Int32.ofNat n)), .val (.int (Int32.ofNat pp)), .val (.int ww)] [(.int (2 : Int32)), (.int (Int32.ofNat pp))]))
    refine Goes.st (fun sT kT => XS.iadd X0.here hx rfl (hb hby d20_24) rfl kT) ?_
    show Goes _ _ _ _ (s₁.setTop (mkF m 25 #[.val (.ref b), .val (.int (Int32.ofNat n)), .val (.int (Int32.ofNat pp)), .val (.int ww)] [(.int ((Int32.ofNat pp) + (2 : Int32)))]))
    refine Goes.st (fun sT kT => XS.goto X0.here hx rfl (pc0 := 25) (pc' := 31) rfl (hb hby d20_25) (by decide) (by decide) kT) ?_
    show Goes _ _ _ _ (s₁.setTop (mkF m 31 #[.val (.ref b), .val (.int (Int32.ofNat n)), .val (.int (Int32.ofNat pp)), .val (.int ww)] [(.int ((Int32.ofNat pp) + (2 : Int32)))]))
    obtain ⟨fs, hr, hrun, hended, hW, hsame⟩ := X0.leave (v := some (.int ((Int32.ofNat pp) + (2 : Int32)))) (fun h => by rw [Bd.returns] at h; cases h)
    subst hQQ
    refine ⟨_, _, retI X0 hx Bd.returns (hb hby d20_31) hr, hrun, hended, _, _, rfl, ?_, ⟨_, rfl⟩, hW, hsame.mono (by decide) (by decide)⟩
    show Q_hop Z b kc cs n pp ww h0 n0 _ s₁.heap _
    rw [e0]
    exact ⟨(by rw [own_hop, if_neg (Nat.not_le_of_lt hlt), if_neg cz3, if_pos cz5, ← own_nadd]; rfl), N0, rfl⟩
   case neg =>
    refine Goes.st (fun sT kT => XS.icmpYes X0.here hx rfl (pc0 := 19) (pc' := 28) rfl (hb hby d20_19) rfl (feq cz5).2 (by decide) (by decide) kT) ?_
    show Goes _ _ _ _ (s₁.setTop (mkF m 28 #[.val (.ref b), .val (.int (Int32.ofNat n)), .val (.int (Int32.ofNat pp)), .val (.int ww)] []))
    refine Goes.st (fun sT kT => XS.iloadN X0.here hx rfl (hb hby d20_28) rfl kT) ?_
    show Goes _ _ _ _ (s₁.setTop (mkF m 29 #[.val (.ref b), .val (.int (Int32.ofNat n)), .val (.int (Int32.ofNat pp)), .val (.int ww)] [(.int (Int32.ofNat pp))]))
    refine Goes.st (fun sT kT => XS.iconst X0.here hx rfl (hb hby d20_29) kT) ?_
    show Goes _ _ _ _ (s₁.setTop (mkF m 30 #[.val (.ref b), .val (.int (Int32.ofNat n)), .val (.int (Int32.ofNat pp)), .val (.int ww)] [(.int (1 : Int32)), (.int (Int32.ofNat pp))]))
    refine Goes.st (fun sT kT => XS.iadd X0.here hx rfl (hb hby d20_30) rfl kT) ?_
    show Goes _ _ _ _ (s₁.setTop (mkF m 31 #[.val (.ref b), .val (.int (Int32.ofNat n)), .val (.int (Int32.ofNat pp)), .val (.int ww)] [(.int ((Int32.ofNat pp) + (1 : Int32)))]))
    obtain ⟨fs, hr, hrun, hended, hW, hsame⟩ := X0.leave (v := some (.int ((Int32.ofNat pp) + (1 : Int32)))) (fun h => by rw [Bd.returns] at h; cases h)
    subst hQQ
    refine ⟨_, _, retI X0 hx Bd.returns (hb hby d20_31) hr, hrun, hended, _, _, rfl, ?_, ⟨_, rfl⟩, hW, hsame.mono (by decide) (by decide)⟩
    show Q_hop Z b kc cs n pp ww h0 n0 _ s₁.heap _
    rw [e0]
    exact ⟨(by rw [own_hop, if_neg (Nat.not_le_of_lt hlt), if_neg cz3, if_neg cz5, ← own_nadd]; rfl), N0, rfl⟩
 case neg =>
  have hge : n ≤ pp := Nat.le_of_not_lt fun q => cz1 ((own_nlt (by omega) (by omega)).mpr q)
  refine Goes.st (fun sT kT => XS.icmpYes X0.here hx rfl (pc0 := 2) (pc' := 12) rfl (hb hby d20_2) rfl (flt cz1).2.1 (by decide) (by decide) kT) ?_
  show Goes _ _ _ _ (s₁.setTop (mkF m 12 #[.val (.ref b), .val (.int (Int32.ofNat n)), .val (.int (Int32.ofNat pp)), .val (.int ww)] []))
  refine Goes.st (fun sT kT => XS.iloadN X0.here hx rfl (hb hby d20_12) rfl kT) ?_
  show Goes _ _ _ _ (s₁.setTop (mkF m 13 #[.val (.ref b), .val (.int (Int32.ofNat n)), .val (.int (Int32.ofNat pp)), .val (.int ww)] [(.int (Int32.ofNat pp))]))
  obtain ⟨fs, hr, hrun, hended, hW, hsame⟩ := X0.leave (v := some (.int (Int32.ofNat pp))) (fun h => by rw [Bd.returns] at h; cases h)
  subst hQQ
  refine ⟨_, _, retI X0 hx Bd.returns (hb hby d20_13) hr, hrun, hended, _, _, rfl, ?_, ⟨_, rfl⟩, hW, hsame.mono (by decide) (by decide)⟩
  show Q_hop Z b kc cs n pp ww h0 n0 _ s₁.heap _
  rw [e0]
  exact ⟨(by rw [own_hop, if_pos hge]), N0, rfl⟩
theorem ef_clos (m : MethodId) (b : Addr) (kc : ClassId) (cs : List Int32) (n : Nat) (ff : Nat) (ww : Int32) : entryFrame m #[(.ref b), (.int (Int32.ofNat n)), (.int (Int32.ofNat ff)), (.int ww)] 5 = (mkF m 0 #[.val (.ref b), .val (.int (Int32.ofNat n)), .val (.int (Int32.ofNat ff)), .val (.int ww), uS] []) := by first | (simp [entryFrame, mkF, argsToLocals, Value.category]; done) | rfl
def Q_clos (Z : State) (b : Addr) (kc : ClassId) (cs : List Int32) (n : Nat) (ff : Nat) (ww : Int32) (h0 : Heap) (n0 : Nat) (v : Option Value) (h : Heap) (L : List Loc) : Prop := v = some (.int (own_clo cs n ff ww)) ∧ Fr n0 L ∧ h = h0
set_option maxRecDepth 65536 in
set_option maxHeartbeats 40000000 in
theorem rm_clos (l : Launch) (Z : State) (a0 : Array Value) (hw : ∀ d ∈ tables_1, d.before a0 Z = true) (ws : List Jvm.Cond) (b : Addr) (kc : ClassId) (cs : List Int32) (n : Nat) (ff : Nat) (ww : Int32) (h0 : Heap) (n0 : Nat) (Z0 : n0 ≤ h0.size) (P0 : Arv Z h0 b kc .char (5 : Int32) (cs.map Value.int) (.int (0 : Int32))) (hn : n ≤ 5) (hf : ff ≤ 10) :
    MetFree l (⟨"com/example/warrant/warrant/messages/ExpressionParserEndsPinLaw", "closing", "([CIIC)I"⟩ : MethodName) (head1 (Jvm.Cond.code (⟨"com/example/warrant/warrant/messages/ExpressionParserEndsPinLaw", "closing", "([CIIC)I"⟩ : MethodName) method_7_code 5 (some .int) :: ws) ({ frames := 1, cells := 0, slots := 0, locals := 24 } : Room)) (fun aR U => aR = #[(.ref b), (.int (Int32.ofNat n)), (.int (Int32.ofNat ff)), (.int ww)] ∧ Z.Warmed39 U.vm ∧ U.heap = h0) (fun _ _ _ _ _ => True) (fun _ U o U' => ∃ v L, o = .returned v ∧ Q_clos Z b kc cs n ff ww h0 n0 v U'.heap L ∧ FrameEnd U o U' L ({ frames := 1, cells := 0, slots := 0, locals := 24 } : Room).cells ({ frames := 1, cells := 0, slots := 0, locals := 24 } : Room).slots) := by
 refine MetFree.of_bodySF (plainFor_of_name pn_1) hisR ?_
 intro p e s m args below meth c s₁ Bd hml0 hP hK
 obtain ⟨rfl, hZ, hh⟩ := hP
 have hx := Bd.exec
 have hby := Bd.bytes
 have hml : c.maxLocals = 5 := hml0
 have hown : s.vm.findClass "com/example/warrant/warrant/messages/ExpressionParserEndsPinLaw" = some m.cls := findClass_of_methodNamed Bd.named
 have hnm := (name_of_methodNamed Bd.named Bd.method).1
 have X0 : Stand p l e ({ frames := 1, cells := 0, slots := 0, locals := 24 } : Room) s m #[(.ref b), (.int (Int32.ofNat n)), (.int (Int32.ofNat ff)), (.int ww)] below meth c s₁ [] 0 0 := Stand.of_body Bd
 have e0 : s₁.heap = h0 := by rw [← hh, Bd.state]; rfl
 have N0 := Fr.nil n0
 show Goes p.tables e below _ _
 rw [ef_clos m b kc cs n ff ww]
 refine Goes.named ?_
 intro QQ hQQ
 refine Goes.st (fun sT kT => XS.iloadN X0.here hx rfl (hb hby d19_0) rfl kT) ?_
 show Goes _ _ _ _ (s₁.setTop (mkF m 1 #[.val (.ref b), .val (.int (Int32.ofNat n)), .val (.int (Int32.ofNat ff)), .val (.int ww), uS] [(.int (Int32.ofNat ff))]))
 refine Goes.st (fun sT kT => XS.istore X0.here hx rfl (hb hby d19_1) rfl (l' := #[.val (.ref b), .val (.int (Int32.ofNat n)), .val (.int (Int32.ofNat ff)), .val (.int ww), .val (.int (Int32.ofNat ff))]) rfl kT) ?_
 show Goes _ _ _ _ (s₁.setTop (mkF m 3 #[.val (.ref b), .val (.int (Int32.ofNat n)), .val (.int (Int32.ofNat ff)), .val (.int ww), .val (.int (Int32.ofNat ff))] []))
 refine Goes.st (fun sT kT => XS.aloadN X0.here hx rfl (hb hby d19_3) rfl rfl kT) ?_
 show Goes _ _ _ _ (s₁.setTop (mkF m 4 #[.val (.ref b), .val (.int (Int32.ofNat n)), .val (.int (Int32.ofNat ff)), .val (.int ww), .val (.int (Int32.ofNat ff))] [(.ref b)]))
 refine Goes.st (fun sT kT => XS.iloadN X0.here hx rfl (hb hby d19_4) rfl kT) ?_
 show Goes _ _ _ _ (s₁.setTop (mkF m 5 #[.val (.ref b), .val (.int (Int32.ofNat n)), .val (.int (Int32.ofNat ff)), .val (.int ww), .val (.int (Int32.ofNat ff))] [(.int (Int32.ofNat n)), (.ref b)]))
 refine Goes.st (fun sT kT => XS.iload X0.here hx rfl (hb hby d19_5) rfl kT) ?_
 show Goes _ _ _ _ (s₁.setTop (mkF m 7 #[.val (.ref b), .val (.int (Int32.ofNat n)), .val (.int (Int32.ofNat ff)), .val (.int ww), .val (.int (Int32.ofNat ff))] [(.int (Int32.ofNat ff)), (.int (Int32.ofNat n)), (.ref b)]))
 refine Goes.st (fun sT kT => XS.iloadN X0.here hx rfl (hb hby d19_7) rfl kT) ?_
 show Goes _ _ _ _ (s₁.setTop (mkF m 8 #[.val (.ref b), .val (.int (Int32.ofNat n)), .val (.int (Int32.ofNat ff)), .val (.int ww), .val (.int (Int32.ofNat ff))] [(.int ww), (.int (Int32.ofNat ff)), (.int (Int32.ofNat n)), (.ref b)]))
 obtain ⟨_, _, ⟨T1, L1, k1, n1⟩, -, X1, ⟨Lc1, hQ1, l1, y1, z1⟩, st1⟩ := Jvm.LawKit.callS X0 hx (y := (⟨"com/example/warrant/warrant/messages/ExpressionParserEndsPinLaw", "hop", "([CIIC)I"⟩ : MethodName)) hown (mvT hZ (hw86 hw)) (mvT hZ (hw87 hw)) (mvT hZ (hw3 hw)) (mvT hZ (hw88 hw)) (by decide) (backOf (W := 0) (rm_hop l Z a0 hw [] b kc cs n ff ww h0 n0 Z0 P0 hn (Nat.le_trans hf (by decide))) hZ (hw88 hw) (hw3 hw) (by decide) (by decide)) (g := (mkF m 8 #[.val (.ref b), .val (.int (Int32.ofNat n)), .val (.int (Int32.ofNat ff)), .val (.int ww), .val (.int (Int32.ofNat ff))] [(.int ww), (.int (Int32.ofNat ff)), (.int (Int32.ofNat n)), (.ref b)])) rfl (by rw [hml]; rfl) (argsL := [(.ref b), (.int (Int32.ofNat n)), (.int (Int32.ofNat ff)), (.int ww)]) (rest := []) (lenOf pd_1 rfl) rfl (by show 2 * 0 + _ ≤ _; exact Nat.le_of_eq rfl) (hb hby d19_8) (fun _ _ => ⟨rfl, e0, (by decide : 0 + 0 ≤ _), (by decide : 0 + 0 ≤ _)⟩)
 dsimp only [Pt.U, Pt.locs, Pt.cells, Pt.slots] at X1 l1 y1 z1 st1 hQ1
 subst l1 y1 z1
 obtain ⟨rfl, N1q, K1⟩ := hQ1
 have N1 := Fr.app N0 N1q
 refine Goes.st st1 ?_
 show Goes _ _ _ _ (T1.setTop (mkF m 11 #[.val (.ref b), .val (.int (Int32.ofNat n)), .val (.int (Int32.ofNat ff)), .val (.int ww), .val (.int (Int32.ofNat ff))] [(.int (Int32.ofNat (own_hop cs n ff ww)))]))
 refine Goes.st (fun sT kT => XS.istore X1.here hx rfl (hb hby d19_11) rfl (l' := #[.val (.ref b), .val (.int (Int32.ofNat n)), .val (.int (Int32.ofNat ff)), .val (.int ww), .val (.int (Int32.ofNat (own_hop cs n ff ww)))]) rfl kT) ?_
 show Goes _ _ _ _ (T1.setTop (mkF m 13 #[.val (.ref b), .val (.int (Int32.ofNat n)), .val (.int (Int32.ofNat ff)), .val (.int ww), .val (.int (Int32.ofNat (own_hop cs n ff ww)))] []))
 refine Goes.st (fun sT kT => XS.aloadN X1.here hx rfl (hb hby d19_13) rfl rfl kT) ?_
 show Goes _ _ _ _ (T1.setTop (mkF m 14 #[.val (.ref b), .val (.int (Int32.ofNat n)), .val (.int (Int32.ofNat ff)), .val (.int ww), .val (.int (Int32.ofNat (own_hop cs n ff ww)))] [(.ref b)]))
 refine Goes.st (fun sT kT => XS.iloadN X1.here hx rfl (hb hby d19_14) rfl kT) ?_
 show Goes _ _ _ _ (T1.setTop (mkF m 15 #[.val (.ref b), .val (.int (Int32.ofNat n)), .val (.int (Int32.ofNat ff)), .val (.int ww), .val (.int (Int32.ofNat (own_hop cs n ff ww)))] [(.int (Int32.ofNat n)), (.ref b)]))
 refine Goes.st (fun sT kT => XS.iload X1.here hx rfl (hb hby d19_15) rfl kT) ?_
 show Goes _ _ _ _ (T1.setTop (mkF m 17 #[.val (.ref b), .val (.int (Int32.ofNat n)), .val (.int (Int32.ofNat ff)), .val (.int ww), .val (.int (Int32.ofNat (own_hop cs n ff ww)))] [(.int (Int32.ofNat (own_hop cs n ff ww))), (.int (Int32.ofNat n)), (.ref b)]))
 refine Goes.st (fun sT kT => XS.iloadN X1.here hx rfl (hb hby d19_17) rfl kT) ?_
 show Goes _ _ _ _ (T1.setTop (mkF m 18 #[.val (.ref b), .val (.int (Int32.ofNat n)), .val (.int (Int32.ofNat ff)), .val (.int ww), .val (.int (Int32.ofNat (own_hop cs n ff ww)))] [(.int ww), (.int (Int32.ofNat (own_hop cs n ff ww))), (.int (Int32.ofNat n)), (.ref b)]))
 obtain ⟨_, _, ⟨T2, L2, k2, n2⟩, -, X2, ⟨Lc2, hQ2, l2, y2, z2⟩, st2⟩ := Jvm.LawKit.callS X1 hx (y := (⟨"com/example/warrant/warrant/messages/ExpressionParserEndsPinLaw", "hop", "([CIIC)I"⟩ : MethodName)) hown (mvT hZ (hw86 hw)) (mvT hZ (hw87 hw)) (mvT hZ (hw3 hw)) (mvT hZ (hw88 hw)) (by decide) (backOf (W := 0) (rm_hop l Z a0 hw [] b kc cs n (own_hop cs n ff ww) ww h0 n0 Z0 P0 hn (Nat.le_trans (own_hl hf) (by decide))) hZ (hw88 hw) (hw3 hw) (by decide) (by decide)) (g := (mkF m 18 #[.val (.ref b), .val (.int (Int32.ofNat n)), .val (.int (Int32.ofNat ff)), .val (.int ww), .val (.int (Int32.ofNat (own_hop cs n ff ww)))] [(.int ww), (.int (Int32.ofNat (own_hop cs n ff ww))), (.int (Int32.ofNat n)), (.ref b)])) rfl (by rw [hml]; rfl) (argsL := [(.ref b), (.int (Int32.ofNat n)), (.int (Int32.ofNat (own_hop cs n ff ww))), (.int ww)]) (rest := []) (lenOf pd_1 rfl) rfl (by show 2 * 0 + _ ≤ _; exact Nat.le_of_eq rfl) (hb hby d19_18) (fun _ _ => ⟨rfl, K1, (by decide : 0 + 0 ≤ _), (by decide : 0 + 0 ≤ _)⟩)
 dsimp only [Pt.U, Pt.locs, Pt.cells, Pt.slots] at X2 l2 y2 z2 st2 hQ2
 subst l2 y2 z2
 obtain ⟨rfl, N2q, K2⟩ := hQ2
 have N2 := Fr.app N1 N2q
 refine Goes.st st2 ?_
 show Goes _ _ _ _ (T2.setTop (mkF m 21 #[.val (.ref b), .val (.int (Int32.ofNat n)), .val (.int (Int32.ofNat ff)), .val (.int ww), .val (.int (Int32.ofNat (own_hop cs n ff ww)))] [(.int (Int32.ofNat (own_hop cs n (own_hop cs n ff ww) ww)))]))
 refine Goes.st (fun sT kT => XS.istore X2.here hx rfl (hb hby d19_21) rfl (l' := #[.val (.ref b), .val (.int (Int32.ofNat n)), .val (.int (Int32.ofNat ff)), .val (.int ww), .val (.int (Int32.ofNat (own_hop cs n (own_hop cs n ff ww) ww)))]) rfl kT) ?_
 show Goes _ _ _ _ (T2.setTop (mkF m 23 #[.val (.ref b), .val (.int (Int32.ofNat n)), .val (.int (Int32.ofNat ff)), .val (.int ww), .val (.int (Int32.ofNat (own_hop cs n (own_hop cs n ff ww) ww)))] []))
 refine Goes.st (fun sT kT => XS.aloadN X2.here hx rfl (hb hby d19_23) rfl rfl kT) ?_
 show Goes _ _ _ _ (T2.setTop (mkF m 24 #[.val (.ref b), .val (.int (Int32.ofNat n)), .val (.int (Int32.ofNat ff)), .val (.int ww), .val (.int (Int32.ofNat (own_hop cs n (own_hop cs n ff ww) ww)))] [(.ref b)]))
 refine Goes.st (fun sT kT => XS.iloadN X2.here hx rfl (hb hby d19_24) rfl kT) ?_
 show Goes _ _ _ _ (T2.setTop (mkF m 25 #[.val (.ref b), .val (.int (Int32.ofNat n)), .val (.int (Int32.ofNat ff)), .val (.int ww), .val (.int (Int32.ofNat (own_hop cs n (own_hop cs n ff ww) ww)))] [(.int (Int32.ofNat n)), (.ref b)]))
 refine Goes.st (fun sT kT => XS.iload X2.here hx rfl (hb hby d19_25) rfl kT) ?_
 show Goes _ _ _ _ (T2.setTop (mkF m 27 #[.val (.ref b), .val (.int (Int32.ofNat n)), .val (.int (Int32.ofNat ff)), .val (.int ww), .val (.int (Int32.ofNat (own_hop cs n (own_hop cs n ff ww) ww)))] [(.int (Int32.ofNat (own_hop cs n (own_hop cs n ff ww) ww))), (.int (Int32.ofNat n)), (.ref b)]))
 refine Goes.st (fun sT kT => XS.iloadN X2.here hx rfl (hb hby d19_27) rfl kT) ?_
 show Goes _ _ _ _ (T2.setTop (mkF m 28 #[.val (.ref b), .val (.int (Int32.ofNat n)), .val (.int (Int32.ofNat ff)), .val (.int ww), .val (.int (Int32.ofNat (own_hop cs n (own_hop cs n ff ww) ww)))] [(.int ww), (.int (Int32.ofNat (own_hop cs n (own_hop cs n ff ww) ww))), (.int (Int32.ofNat n)), (.ref b)]))
 obtain ⟨_, _, ⟨T3, L3, k3, n3⟩, -, X3, ⟨Lc3, hQ3, l3, y3, z3⟩, st3⟩ := Jvm.LawKit.callS X2 hx (y := (⟨"com/example/warrant/warrant/messages/ExpressionParserEndsPinLaw", "hop", "([CIIC)I"⟩ : MethodName)) hown (mvT hZ (hw86 hw)) (mvT hZ (hw87 hw)) (mvT hZ (hw3 hw)) (mvT hZ (hw88 hw)) (by decide) (backOf (W := 0) (rm_hop l Z a0 hw [] b kc cs n (own_hop cs n (own_hop cs n ff ww) ww) ww h0 n0 Z0 P0 hn (Nat.le_trans (own_hl (own_hl hf)) (by decide))) hZ (hw88 hw) (hw3 hw) (by decide) (by decide)) (g := (mkF m 28 #[.val (.ref b), .val (.int (Int32.ofNat n)), .val (.int (Int32.ofNat ff)), .val (.int ww), .val (.int (Int32.ofNat (own_hop cs n (own_hop cs n ff ww) ww)))] [(.int ww), (.int (Int32.ofNat (own_hop cs n (own_hop cs n ff ww) ww))), (.int (Int32.ofNat n)), (.ref b)])) rfl (by rw [hml]; rfl) (argsL := [(.ref b), (.int (Int32.ofNat n)), (.int (Int32.ofNat (own_hop cs n (own_hop cs n ff ww) ww))), (.int ww)]) (rest := []) (lenOf pd_1 rfl) rfl (by show 2 * 0 + _ ≤ _; exact Nat.le_of_eq rfl) (hb hby d19_28) (fun _ _ => ⟨rfl, K2, (by decide : 0 + 0 ≤ _), (by decide : 0 + 0 ≤ _)⟩)
 dsimp only [Pt.U, Pt.locs, Pt.cells, Pt.slots] at X3 l3 y3 z3 st3 hQ3
 subst l3 y3 z3
 obtain ⟨rfl, N3q, K3⟩ := hQ3
 have N3 := Fr.app N2 N3q
 refine Goes.st st3 ?_
 show Goes _ _ _ _ (T3.setTop (mkF m 31 #[.val (.ref b), .val (.int (Int32.ofNat n)), .val (.int (Int32.ofNat ff)), .val (.int ww), .val (.int (Int32.ofNat (own_hop cs n (own_hop cs n ff ww) ww)))] [(.int (Int32.ofNat (own_hop cs n (own_hop cs n (own_hop cs n ff ww) ww) ww)))]))
 refine Goes.st (fun sT kT => XS.istore X3.here hx rfl (hb hby d19_31) rfl (l' := #[.val (.ref b), .val (.int (Int32.ofNat n)), .val (.int (Int32.ofNat ff)), .val (.int ww), .val (.int (Int32.ofNat (own_hop cs n (own_hop cs n (own_hop cs n ff ww) ww) ww)))]) rfl kT) ?_
 show Goes _ _ _ _ (T3.setTop (mkF m 33 #[.val (.ref b), .val (.int (Int32.ofNat n)), .val (.int (Int32.ofNat ff)), .val (.int ww), .val (.int (Int32.ofNat (own_hop cs n (own_hop cs n (own_hop cs n ff ww) ww) ww)))] []))
 refine Goes.st (fun sT kT => XS.aloadN X3.here hx rfl (hb hby d19_33) rfl rfl kT) ?_
 show Goes _ _ _ _ (T3.setTop (mkF m 34 #[.val (.ref b), .val (.int (Int32.ofNat n)), .val (.int (Int32.ofNat ff)), .val (.int ww), .val (.int (Int32.ofNat (own_hop cs n (own_hop cs n (own_hop cs n ff ww) ww) ww)))] [(.ref b)]))
 refine Goes.st (fun sT kT => XS.iloadN X3.here hx rfl (hb hby d19_34) rfl kT) ?_
 show Goes _ _ _ _ (T3.setTop (mkF m 35 #[.val (.ref b), .val (.int (Int32.ofNat n)), .val (.int (Int32.ofNat ff)), .val (.int ww), .val (.int (Int32.ofNat (own_hop cs n (own_hop cs n (own_hop cs n ff ww) ww) ww)))] [(.int (Int32.ofNat n)), (.ref b)]))
 refine Goes.st (fun sT kT => XS.iload X3.here hx rfl (hb hby d19_35) rfl kT) ?_
 show Goes _ _ _ _ (T3.setTop (mkF m 37 #[.val (.ref b), .val (.int (Int32.ofNat n)), .val (.int (Int32.ofNat ff)), .val (.int ww), .val (.int (Int32.ofNat (own_hop cs n (own_hop cs n (own_hop cs n ff ww) ww) ww)))] [(.int (Int32.ofNat (own_hop cs n (own_hop cs n (own_hop cs n ff ww) ww) ww))), (.int (Int32.ofNat n)), (.ref b)]))
 refine Goes.st (fun sT kT => XS.iloadN X3.here hx rfl (hb hby d19_37) rfl kT) ?_
 show Goes _ _ _ _ (T3.setTop (mkF m 38 #[.val (.ref b), .val (.int (Int32.ofNat n)), .val (.int (Int32.ofNat ff)), .val (.int ww), .val (.int (Int32.ofNat (own_hop cs n (own_hop cs n (own_hop cs n ff ww) ww) ww)))] [(.int ww), (.int (Int32.ofNat (own_hop cs n (own_hop cs n (own_hop cs n ff ww) ww) ww))), (.int (Int32.ofNat n)), (.ref b)]))
 obtain ⟨_, _, ⟨T4, L4, k4, n4⟩, -, X4, ⟨Lc4, hQ4, l4, y4, z4⟩, st4⟩ := Jvm.LawKit.callS X3 hx (y := (⟨"com/example/warrant/warrant/messages/ExpressionParserEndsPinLaw", "hop", "([CIIC)I"⟩ : MethodName)) hown (mvT hZ (hw86 hw)) (mvT hZ (hw87 hw)) (mvT hZ (hw3 hw)) (mvT hZ (hw88 hw)) (by decide) (backOf (W := 0) (rm_hop l Z a0 hw [] b kc cs n (own_hop cs n (own_hop cs n (own_hop cs n ff ww) ww) ww) ww h0 n0 Z0 P0 hn (Nat.le_trans (own_hl (own_hl (own_hl hf))) (by decide))) hZ (hw88 hw) (hw3 hw) (by decide) (by decide)) (g := (mkF m 38 #[.val (.ref b), .val (.int (Int32.ofNat n)), .val (.int (Int32.ofNat ff)), .val (.int ww), .val (.int (Int32.ofNat (own_hop cs n (own_hop cs n (own_hop cs n ff ww) ww) ww)))] [(.int ww), (.int (Int32.ofNat (own_hop cs n (own_hop cs n (own_hop cs n ff ww) ww) ww))), (.int (Int32.ofNat n)), (.ref b)])) rfl (by rw [hml]; rfl) (argsL := [(.ref b), (.int (Int32.ofNat n)), (.int (Int32.ofNat (own_hop cs n (own_hop cs n (own_hop cs n ff ww) ww) ww))), (.int ww)]) (rest := []) (lenOf pd_1 rfl) rfl (by show 2 * 0 + _ ≤ _; exact Nat.le_of_eq rfl) (hb hby d19_38) (fun _ _ => ⟨rfl, K3, (by decide : 0 + 0 ≤ _), (by decide : 0 + 0 ≤ _)⟩)
 dsimp only [Pt.U, Pt.locs, Pt.cells, Pt.slots] at X4 l4 y4 z4 st4 hQ4
 subst l4 y4 z4
 obtain ⟨rfl, N4q, K4⟩ := hQ4
 have N4 := Fr.app N3 N4q
 refine Goes.st st4 ?_
 show Goes _ _ _ _ (T4.setTop (mkF m 41 #[.val (.ref b), .val (.int (Int32.ofNat n)), .val (.int (Int32.ofNat ff)), .val (.int ww), .val (.int (Int32.ofNat (own_hop cs n (own_hop cs n (own_hop cs n ff ww) ww) ww)))] [(.int (Int32.ofNat (own_hop cs n (own_hop cs n (own_hop cs n (own_hop cs n ff ww) ww) ww) ww)))]))
 refine Goes.st (fun sT kT => XS.istore X4.here hx rfl (hb hby d19_41) rfl (l' := #[.val (.ref b), .val (.int (Int32.ofNat n)), .val (.int (Int32.ofNat ff)), .val (.int ww), .val (.int (Int32.ofNat (own_hop cs n (own_hop cs n (own_hop cs n (own_hop cs n ff ww) ww) ww) ww)))]) rfl kT) ?_
 show Goes _ _ _ _ (T4.setTop (mkF m 43 #[.val (.ref b), .val (.int (Int32.ofNat n)), .val (.int (Int32.ofNat ff)), .val (.int ww), .val (.int (Int32.ofNat (own_hop cs n (own_hop cs n (own_hop cs n (own_hop cs n ff ww) ww) ww) ww)))] []))
 refine Goes.st (fun sT kT => XS.aloadN X4.here hx rfl (hb hby d19_43) rfl rfl kT) ?_
 show Goes _ _ _ _ (T4.setTop (mkF m 44 #[.val (.ref b), .val (.int (Int32.ofNat n)), .val (.int (Int32.ofNat ff)), .val (.int ww), .val (.int (Int32.ofNat (own_hop cs n (own_hop cs n (own_hop cs n (own_hop cs n ff ww) ww) ww) ww)))] [(.ref b)]))
 refine Goes.st (fun sT kT => XS.iloadN X4.here hx rfl (hb hby d19_44) rfl kT) ?_
 show Goes _ _ _ _ (T4.setTop (mkF m 45 #[.val (.ref b), .val (.int (Int32.ofNat n)), .val (.int (Int32.ofNat ff)), .val (.int ww), .val (.int (Int32.ofNat (own_hop cs n (own_hop cs n (own_hop cs n (own_hop cs n ff ww) ww) ww) ww)))] [(.int (Int32.ofNat n)), (.ref b)]))
 refine Goes.st (fun sT kT => XS.iload X4.here hx rfl (hb hby d19_45) rfl kT) ?_
 show Goes _ _ _ _ (T4.setTop (mkF m 47 #[.val (.ref b), .val (.int (Int32.ofNat n)), .val (.int (Int32.ofNat ff)), .val (.int ww), .val (.int (Int32.ofNat (own_hop cs n (own_hop cs n (own_hop cs n (own_hop cs n ff ww) ww) ww) ww)))] [(.int (Int32.ofNat (own_hop cs n (own_hop cs n (own_hop cs n (own_hop cs n ff ww) ww) ww) ww))), (.int (Int32.ofNat n)), (.ref b)]))
 refine Goes.st (fun sT kT => XS.iloadN X4.here hx rfl (hb hby d19_47) rfl kT) ?_
 show Goes _ _ _ _ (T4.setTop (mkF m 48 #[.val (.ref b), .val (.int (Int32.ofNat n)), .val (.int (Int32.ofNat ff)), .val (.int ww), .val (.int (Int32.ofNat (own_hop cs n (own_hop cs n (own_hop cs n (own_hop cs n ff ww) ww) ww) ww)))] [(.int ww), (.int (Int32.ofNat (own_hop cs n (own_hop cs n (own_hop cs n (own_hop cs n ff ww) ww) ww) ww))), (.int (Int32.ofNat n)), (.ref b)]))
 obtain ⟨_, _, ⟨T5, L5, k5, n5⟩, -, X5, ⟨Lc5, hQ5, l5, y5, z5⟩, st5⟩ := Jvm.LawKit.callS X4 hx (y := (⟨"com/example/warrant/warrant/messages/ExpressionParserEndsPinLaw", "hop", "([CIIC)I"⟩ : MethodName)) hown (mvT hZ (hw86 hw)) (mvT hZ (hw87 hw)) (mvT hZ (hw3 hw)) (mvT hZ (hw88 hw)) (by decide) (backOf (W := 0) (rm_hop l Z a0 hw [] b kc cs n (own_hop cs n (own_hop cs n (own_hop cs n (own_hop cs n ff ww) ww) ww) ww) ww h0 n0 Z0 P0 hn (Nat.le_trans (own_hl (own_hl (own_hl (own_hl hf)))) (by decide))) hZ (hw88 hw) (hw3 hw) (by decide) (by decide)) (g := (mkF m 48 #[.val (.ref b), .val (.int (Int32.ofNat n)), .val (.int (Int32.ofNat ff)), .val (.int ww), .val (.int (Int32.ofNat (own_hop cs n (own_hop cs n (own_hop cs n (own_hop cs n ff ww) ww) ww) ww)))] [(.int ww), (.int (Int32.ofNat (own_hop cs n (own_hop cs n (own_hop cs n (own_hop cs n ff ww) ww) ww) ww))), (.int (Int32.ofNat n)), (.ref b)])) rfl (by rw [hml]; rfl) (argsL := [(.ref b), (.int (Int32.ofNat n)), (.int (Int32.ofNat (own_hop cs n (own_hop cs n (own_hop cs n (own_hop cs n ff ww) ww) ww) ww))), (.int ww)]) (rest := []) (lenOf pd_1 rfl) rfl (by show 2 * 0 + _ ≤ _; exact Nat.le_of_eq rfl) (hb hby d19_48) (fun _ _ => ⟨rfl, K4, (by decide : 0 + 0 ≤ _), (by decide : 0 + 0 ≤ _)⟩)
 dsimp only [Pt.U, Pt.locs, Pt.cells, Pt.slots] at X5 l5 y5 z5 st5 hQ5
 subst l5 y5 z5
 obtain ⟨rfl, N5q, K5⟩ := hQ5
 have N5 := Fr.app N4 N5q
 refine Goes.st st5 ?_
 show Goes _ _ _ _ (T5.setTop (mkF m 51 #[.val (.ref b), .val (.int (Int32.ofNat n)), .val (.int (Int32.ofNat ff)), .val (.int ww), .val (.int (Int32.ofNat (own_hop cs n (own_hop cs n (own_hop cs n (own_hop cs n ff ww) ww) ww) ww)))] [(.int (Int32.ofNat (own_hop cs n (own_hop cs n (own_hop cs n (own_hop cs n (own_hop cs n ff ww) ww) ww) ww) ww)))]))
 refine Goes.st (fun sT kT => XS.istore X5.here hx rfl (hb hby d19_51) rfl (l' := #[.val (.ref b), .val (.int (Int32.ofNat n)), .val (.int (Int32.ofNat ff)), .val (.int ww), .val (.int (Int32.ofNat (own_hop cs n (own_hop cs n (own_hop cs n (own_hop cs n (own_hop cs n ff ww) ww) ww) ww) ww)))]) rfl kT) ?_
 show Goes _ _ _ _ (T5.setTop (mkF m 53 #[.val (.ref b), .val (.int (Int32.ofNat n)), .val (.int (Int32.ofNat ff)), .val (.int ww), .val (.int (Int32.ofNat (own_hop cs n (own_hop cs n (own_hop cs n (own_hop cs n (own_hop cs n ff ww) ww) ww) ww) ww)))] []))
 have h5e : (own_h5 cs n ff ww) ≤ 20 := own_hl (own_hl (own_hl (own_hl (own_hl hf))))
 show Goes _ _ _ _ (T5.setTop (mkF m 53 #[.val (.ref b), .val (.int (Int32.ofNat n)), .val (.int (Int32.ofNat ff)), .val (.int ww), .val (.int (Int32.ofNat (own_h5 cs n ff ww)))] []))
 refine Goes.st (fun sT kT => XS.iload X5.here hx rfl (hb hby d19_53) rfl kT) ?_
 show Goes _ _ _ _ (T5.setTop (mkF m 55 #[.val (.ref b), .val (.int (Int32.ofNat n)), .val (.int (Int32.ofNat ff)), .val (.int ww), .val (.int (Int32.ofNat (own_h5 cs n ff ww)))] [(.int (Int32.ofNat (own_h5 cs n ff ww)))]))
 refine Goes.st (fun sT kT => XS.iloadN X5.here hx rfl (hb hby d19_55) rfl kT) ?_
 show Goes _ _ _ _ (T5.setTop (mkF m 56 #[.val (.ref b), .val (.int (Int32.ofNat n)), .val (.int (Int32.ofNat ff)), .val (.int ww), .val (.int (Int32.ofNat (own_h5 cs n ff ww)))] [(.int (Int32.ofNat n)), (.int (Int32.ofNat (own_h5 cs n ff ww)))]))
 by_cases cz6 : (Int32.ofNat (own_h5 cs n ff ww)) < (Int32.ofNat n)
 case pos =>
  have hlt : (own_h5 cs n ff ww) < n := (own_nlt (by omega) (by omega)).mp cz6
  refine Goes.st (fun sT kT => XS.icmpNo X5.here hx rfl (hb hby d19_56) rfl (tlt cz6).2.1 kT) ?_
  show Goes _ _ _ _ (T5.setTop (mkF m 59 #[.val (.ref b), .val (.int (Int32.ofNat n)), .val (.int (Int32.ofNat ff)), .val (.int ww), .val (.int (Int32.ofNat (own_h5 cs n ff ww)))] []))
  refine Goes.st (fun sT kT => XS.aloadN X5.here hx rfl (hb hby d19_59) rfl rfl kT) ?_
  show Goes _ _ _ _ (T5.setTop (mkF m 60 #[.val (.ref b), .val (.int (Int32.ofNat n)), .val (.int (Int32.ofNat ff)), .val (.int ww), .val (.int (Int32.ofNat (own_h5 cs n ff ww)))] [(.ref b)]))
  refine Goes.st (fun sT kT => XS.iload X5.here hx rfl (hb hby d19_60) rfl kT) ?_
  show Goes _ _ _ _ (T5.setTop (mkF m 62 #[.val (.ref b), .val (.int (Int32.ofNat n)), .val (.int (Int32.ofNat ff)), .val (.int ww), .val (.int (Int32.ofNat (own_h5 cs n ff ww)))] [(.int (Int32.ofNat (own_h5 cs n ff ww))), (.ref b)]))
  obtain ⟨oc7, oA7, oq7, oS7, oM7, oH7, oG7⟩ := id P0
  refine Goes.st (fun sT kT => X5.caload hx (j := (Int32.ofNat (own_h5 cs n ff ww))) (v := (.int (cs.getD (own_h5 cs n ff ww) 0))) (by rw [K5]; exact oA7.1) (State.isArrayOf_alike hZ.alike oA7.2.1) oA7.2.2 (inb_of oS7 (own_ib (n := 5) (by decide) (by omega))) (oH7.at (inb_of oS7 (own_ib (n := 5) (by decide) (by omega))) (own_gi (by omega))) (g := (mkF m 62 #[.val (.ref b), .val (.int (Int32.ofNat n)), .val (.int (Int32.ofNat ff)), .val (.int ww), .val (.int (Int32.ofNat (own_h5 cs n ff ww)))] [(.int (Int32.ofNat (own_h5 cs n ff ww))), (.ref b)])) rfl rfl (hb hby d19_62) _ kT) ?_
  show Goes _ _ _ _ (T5.setTop (mkF m 63 #[.val (.ref b), .val (.int (Int32.ofNat n)), .val (.int (Int32.ofNat ff)), .val (.int ww), .val (.int (Int32.ofNat (own_h5 cs n ff ww)))] [(.int (cs.getD (own_h5 cs n ff ww) 0))]))
  refine Goes.st (fun sT kT => XS.iloadN X5.here hx rfl (hb hby d19_63) rfl kT) ?_
  show Goes _ _ _ _ (T5.setTop (mkF m 64 #[.val (.ref b), .val (.int (Int32.ofNat n)), .val (.int (Int32.ofNat ff)), .val (.int ww), .val (.int (Int32.ofNat (own_h5 cs n ff ww)))] [(.int ww), (.int (cs.getD (own_h5 cs n ff ww) 0))]))
  by_cases cz8 : (cs.getD (own_h5 cs n ff ww) 0) = ww
  case pos =>
   refine Goes.st (fun sT kT => XS.icmpNo X5.here hx rfl (hb hby d19_64) rfl (teq cz8).2 kT) ?_
   show Goes _ _ _ _ (T5.setTop (mkF m 67 #[.val (.ref b), .val (.int (Int32.ofNat n)), .val (.int (Int32.ofNat ff)), .val (.int ww), .val (.int (Int32.ofNat (own_h5 cs n ff ww)))] []))
   refine Goes.st (fun sT kT => XS.iload X5.here hx rfl (hb hby d19_67) rfl kT) ?_
   show Goes _ _ _ _ (T5.setTop (mkF m 69 #[.val (.ref b), .val (.int (Int32.ofNat n)), .val (.int (Int32.ofNat ff)), .val (.int ww), .val (.int (Int32.ofNat (own_h5 cs n ff ww)))] [(.int (Int32.ofNat (own_h5 cs n ff ww)))]))
   refine Goes.st (fun sT kT => XS.goto X5.here hx rfl (pc0 := 69) (pc' := 73) rfl (hb hby d19_69) (by decide) (by decide) kT) ?_
   show Goes _ _ _ _ (T5.setTop (mkF m 73 #[.val (.ref b), .val (.int (Int32.ofNat n)), .val (.int (Int32.ofNat ff)), .val (.int ww), .val (.int (Int32.ofNat (own_h5 cs n ff ww)))] [(.int (Int32.ofNat (own_h5 cs n ff ww)))]))
   obtain ⟨fs, hr, hrun, hended, hW, hsame⟩ := X5.leave (v := some (.int (Int32.ofNat (own_h5 cs n ff ww)))) (fun h => by rw [Bd.returns] at h; cases h)
   subst hQQ
   refine ⟨_, _, retI X5 hx Bd.returns (hb hby d19_73) hr, hrun, hended, _, _, rfl, ?_, ⟨_, rfl⟩, hW, hsame.mono (by decide) (by decide)⟩
   show Q_clos Z b kc cs n ff ww h0 n0 _ T5.heap _
   rw [K5]
   exact ⟨(by rw [own_clo, if_pos ⟨hlt, cz8⟩]), N5, rfl⟩
  case neg =>
   refine Goes.st (fun sT kT => XS.icmpYes X5.here hx rfl (pc0 := 64) (pc' := 72) rfl (hb hby d19_64) rfl (feq cz8).2 (by decide) (by decide) kT) ?_
   show Goes _ _ _ _ (T5.setTop (mkF m 72 #[.val (.ref b), .val (.int (Int32.ofNat n)), .val (.int (Int32.ofNat ff)), .val (.int ww), .val (.int (Int32.ofNat (own_h5 cs n ff ww)))] []))
   refine Goes.st (fun sT kT => XS.iconst X5.here hx rfl (hb hby d19_72) kT) ?_
   show Goes _ _ _ _ (T5.setTop (mkF m 73 #[.val (.ref b), .val (.int (Int32.ofNat n)), .val (.int (Int32.ofNat ff)), .val (.int ww), .val (.int (Int32.ofNat (own_h5 cs n ff ww)))] [(.int (-1 : Int32))]))
   obtain ⟨fs, hr, hrun, hended, hW, hsame⟩ := X5.leave (v := some (.int (-1 : Int32))) (fun h => by rw [Bd.returns] at h; cases h)
   subst hQQ
   refine ⟨_, _, retI X5 hx Bd.returns (hb hby d19_73) hr, hrun, hended, _, _, rfl, ?_, ⟨_, rfl⟩, hW, hsame.mono (by decide) (by decide)⟩
   show Q_clos Z b kc cs n ff ww h0 n0 _ T5.heap _
   rw [K5]
   exact ⟨(by rw [own_clo, if_neg (fun q => cz8 q.2)]), N5, rfl⟩
 case neg =>
  have hlt : ¬ (own_h5 cs n ff ww) < n := fun q => cz6 ((own_nlt (by omega) (by omega)).mpr q)
  refine Goes.st (fun sT kT => XS.icmpYes X5.here hx rfl (pc0 := 56) (pc' := 72) rfl (hb hby d19_56) rfl (flt cz6).2.1 (by decide) (by decide) kT) ?_
  show Goes _ _ _ _ (T5.setTop (mkF m 72 #[.val (.ref b), .val (.int (Int32.ofNat n)), .val (.int (Int32.ofNat ff)), .val (.int ww), .val (.int (Int32.ofNat (own_h5 cs n ff ww)))] []))
  refine Goes.st (fun sT kT => XS.iconst X5.here hx rfl (hb hby d19_72) kT) ?_
  show Goes _ _ _ _ (T5.setTop (mkF m 73 #[.val (.ref b), .val (.int (Int32.ofNat n)), .val (.int (Int32.ofNat ff)), .val (.int ww), .val (.int (Int32.ofNat (own_h5 cs n ff ww)))] [(.int (-1 : Int32))]))
  obtain ⟨fs, hr, hrun, hended, hW, hsame⟩ := X5.leave (v := some (.int (-1 : Int32))) (fun h => by rw [Bd.returns] at h; cases h)
  subst hQQ
  refine ⟨_, _, retI X5 hx Bd.returns (hb hby d19_73) hr, hrun, hended, _, _, rfl, ?_, ⟨_, rfl⟩, hW, hsame.mono (by decide) (by decide)⟩
  show Q_clos Z b kc cs n ff ww h0 n0 _ T5.heap _
  rw [K5]
  exact ⟨(by rw [own_clo, if_neg (fun q => hlt q.1)]), N5, rfl⟩
theorem ef_stp (m : MethodId) (b : Addr) (kc : ClassId) (cs : List Int32) (n : Nat) (sv : Int32) : entryFrame m #[(.ref b), (.int (Int32.ofNat n)), (.int sv)] 5 = (mkF m 0 #[.val (.ref b), .val (.int (Int32.ofNat n)), .val (.int sv), uS, uS] []) := by first | (simp [entryFrame, mkF, argsToLocals, Value.category]; done) | rfl
def Q_stp (Z : State) (b : Addr) (kc : ClassId) (cs : List Int32) (n : Nat) (sv : Int32) (h0 : Heap) (n0 : Nat) (v : Option Value) (h : Heap) (L : List Loc) : Prop := v = some (.int (own_stp cs n sv)) ∧ Fr n0 L ∧ h = h0
set_option maxRecDepth 65536 in
set_option maxHeartbeats 40000000 in
theorem rm_stp (l : Launch) (Z : State) (a0 : Array Value) (hw : ∀ d ∈ tables_1, d.before a0 Z = true) (ws : List Jvm.Cond) (b : Addr) (kc : ClassId) (cs : List Int32) (n : Nat) (sv : Int32) (h0 : Heap) (n0 : Nat) (Z0 : n0 ≤ h0.size) (P0 : Arv Z h0 b kc .char (5 : Int32) (cs.map Value.int) (.int (0 : Int32))) (hn : n ≤ 5) (hs : own_sok sv) :
    MetFree l (⟨"com/example/warrant/warrant/messages/ExpressionParserEndsPinLaw", "step", "([CII)I"⟩ : MethodName) (head1 (Jvm.Cond.code (⟨"com/example/warrant/warrant/messages/ExpressionParserEndsPinLaw", "step", "([CII)I"⟩ : MethodName) method_6_code 5 (some .int) :: ws) ({ frames := 2, cells := 0, slots := 0, locals := 50 } : Room)) (fun aR U => aR = #[(.ref b), (.int (Int32.ofNat n)), (.int sv)] ∧ Z.Warmed39 U.vm ∧ U.heap = h0) (fun _ _ _ _ _ => True) (fun _ U o U' => ∃ v L, o = .returned v ∧ Q_stp Z b kc cs n sv h0 n0 v U'.heap L ∧ FrameEnd U o U' L ({ frames := 2, cells := 0, slots := 0, locals := 50 } : Room).cells ({ frames := 2, cells := 0, slots := 0, locals := 50 } : Room).slots) := by
 refine MetFree.of_bodySF (plainFor_of_name pn_1) hisR ?_
 intro p e s m args below meth c s₁ Bd hml0 hP hK
 obtain ⟨rfl, hZ, hh⟩ := hP
 have hx := Bd.exec
 have hby := Bd.bytes
 have hml : c.maxLocals = 5 := hml0
 have hown : s.vm.findClass "com/example/warrant/warrant/messages/ExpressionParserEndsPinLaw" = some m.cls := findClass_of_methodNamed Bd.named
 have hnm := (name_of_methodNamed Bd.named Bd.method).1
 have X0 : Stand p l e ({ frames := 2, cells := 0, slots := 0, locals := 50 } : Room) s m #[(.ref b), (.int (Int32.ofNat n)), (.int sv)] below meth c s₁ [] 0 0 := Stand.of_body Bd
 have e0 : s₁.heap = h0 := by rw [← hh, Bd.state]; rfl
 have N0 := Fr.nil n0
 show Goes p.tables e below _ _
 rw [ef_stp m b kc cs n sv]
 refine Goes.named ?_
 intro QQ hQQ
 rcases hs with hneg | ⟨k, hk, hsk⟩
 ·skip
  show Goes _ _ _ _ (s₁.setTop (mkF m 0 #[.val (.ref b), .val (.int (Int32.ofNat n)), .val (.int sv), uS, uS] []))
  refine Goes.st (fun sT kT => XS.iloadN X0.here hx rfl (hb hby d10_0) rfl kT) ?_
  show Goes _ _ _ _ (s₁.setTop (mkF m 1 #[.val (.ref b), .val (.int (Int32.ofNat n)), .val (.int sv), uS, uS] [(.int sv)]))
  refine Goes.st (fun sT kT => XS.ifNo X0.here hx rfl (hb hby d10_1) rfl ((if0 _ _).trans (tlt hneg).2.1) kT) ?_
  show Goes _ _ _ _ (s₁.setTop (mkF m 4 #[.val (.ref b), .val (.int (Int32.ofNat n)), .val (.int sv), uS, uS] []))
  refine Goes.st (fun sT kT => XS.iloadN X0.here hx rfl (hb hby d10_4) rfl kT) ?_
  show Goes _ _ _ _ (s₁.setTop (mkF m 5 #[.val (.ref b), .val (.int (Int32.ofNat n)), .val (.int sv), uS, uS] [(.int sv)]))
  obtain ⟨fs, hr, hrun, hended, hW, hsame⟩ := X0.leave (v := some (.int sv)) (fun h => by rw [Bd.returns] at h; cases h)
  subst hQQ
  refine ⟨_, _, retI X0 hx Bd.returns (hb hby d10_5) hr, hrun, hended, _, _, rfl, ?_, ⟨_, rfl⟩, hW, hsame.mono (by decide) (by decide)⟩
  show Q_stp Z b kc cs n sv h0 n0 _ s₁.heap _
  rw [e0]
  exact ⟨(by rw [own_stp, if_pos hneg]), N0, rfl⟩
 ·skip
  have hnn : ¬ sv < 0 := by rw [hsk]; exact own_nneg (by omega)
  have hcl : sv.toNatClampNeg = k := by rw [hsk]; exact own_nclamp (by omega)
  show Goes _ _ _ _ (s₁.setTop (mkF m 0 #[.val (.ref b), .val (.int (Int32.ofNat n)), .val (.int sv), uS, uS] []))
  refine Goes.st (fun sT kT => XS.iloadN X0.here hx rfl (hb hby d10_0) rfl kT) ?_
  show Goes _ _ _ _ (s₁.setTop (mkF m 1 #[.val (.ref b), .val (.int (Int32.ofNat n)), .val (.int sv), uS, uS] [(.int sv)]))
  refine Goes.st (fun sT kT => XS.ifYes X0.here hx rfl (pc0 := 1) (pc' := 6) rfl (hb hby d10_1) rfl ((if0 _ _).trans (flt hnn).2.1) (by decide) (by decide) kT) ?_
  show Goes _ _ _ _ (s₁.setTop (mkF m 6 #[.val (.ref b), .val (.int (Int32.ofNat n)), .val (.int sv), uS, uS] []))
  refine Goes.st (fun sT kT => XS.iloadN X0.here hx rfl (hb hby d10_6) rfl kT) ?_
  show Goes _ _ _ _ (s₁.setTop (mkF m 7 #[.val (.ref b), .val (.int (Int32.ofNat n)), .val (.int sv), uS, uS] [(.int sv)]))
  refine Goes.st (fun sT kT => XS.iloadN X0.here hx rfl (hb hby d10_7) rfl kT) ?_
  show Goes _ _ _ _ (s₁.setTop (mkF m 8 #[.val (.ref b), .val (.int (Int32.ofNat n)), .val (.int sv), uS, uS] [(.int (Int32.ofNat n)), (.int sv)]))
  by_cases cz1 : sv < (Int32.ofNat n)
  case pos =>
   have hlt : k < n := by rw [hsk] at cz1; exact (own_nlt (by omega) (by omega)).mp cz1
   refine Goes.st (fun sT kT => XS.icmpYes X0.here hx rfl (pc0 := 8) (pc' := 13) rfl (hb hby d10_8) rfl (tlt cz1).1 (by decide) (by decide) kT) ?_
   show Goes _ _ _ _ (s₁.setTop (mkF m 13 #[.val (.ref b), .val (.int (Int32.ofNat n)), .val (.int sv), uS, uS] []))
   refine Goes.st (fun sT kT => XS.aloadN X0.here hx rfl (hb hby d10_13) rfl rfl kT) ?_
   show Goes _ _ _ _ (s₁.setTop (mkF m 14 #[.val (.ref b), .val (.int (Int32.ofNat n)), .val (.int sv), uS, uS] [(.ref b)]))
   refine Goes.st (fun sT kT => XS.iloadN X0.here hx rfl (hb hby d10_14) rfl kT) ?_
   show Goes _ _ _ _ (s₁.setTop (mkF m 15 #[.val (.ref b), .val (.int (Int32.ofNat n)), .val (.int sv), uS, uS] [(.int sv), (.ref b)]))
   obtain ⟨oc2, oA2, oq2, oS2, oM2, oH2, oG2⟩ := id P0
   refine Goes.st (fun sT kT => X0.caload hx (j := sv) (v := (.int (cs.getD sv.toNatClampNeg 0))) (by rw [e0]; exact oA2.1) (State.isArrayOf_alike hZ.alike oA2.2.1) oA2.2.2 (inb_of oS2 (by rw [hsk]; exact own_ib (n := 5) (by decide) (by omega))) (oH2.at (inb_of oS2 (by rw [hsk]; exact own_ib (n := 5) (by decide) (by omega))) (own_gm cs _)) (g := (mkF m 15 #[.val (.ref b), .val (.int (Int32.ofNat n)), .val (.int sv), uS, uS] [(.int sv), (.ref b)])) rfl rfl (hb hby d10_15) _ kT) ?_
   show Goes _ _ _ _ (s₁.setTop (mkF m 16 #[.val (.ref b), .val (.int (Int32.ofNat n)), .val (.int sv), uS, uS] [(.int (cs.getD sv.toNatClampNeg 0))]))
   refine Goes.st (fun sT kT => XS.istoreN X0.here hx rfl (hb hby d10_16) rfl (l' := #[.val (.ref b), .val (.int (Int32.ofNat n)), .val (.int sv), .val (.int (cs.getD sv.toNatClampNeg 0)), uS]) rfl kT) ?_
   show Goes _ _ _ _ (s₁.setTop (mkF m 17 #[.val (.ref b), .val (.int (Int32.ofNat n)), .val (.int sv), .val (.int (cs.getD sv.toNatClampNeg 0)), uS] []))
   refine Goes.st (fun sT kT => XS.iloadN X0.here hx rfl (hb hby d10_17) rfl kT) ?_
   show Goes _ _ _ _ (s₁.setTop (mkF m 18 #[.val (.ref b), .val (.int (Int32.ofNat n)), .val (.int sv), .val (.int (cs.getD sv.toNatClampNeg 0)), uS] [(.int (cs.getD sv.toNatClampNeg 0))]))
   refine Goes.st (fun sT kT => XS.bipush X0.here hx rfl (hb hby d10_18) kT) ?_
   show Goes _ _ _ _ (s₁.setTop (mkF m 20 #[.val (.ref b), .val (.int (Int32.ofNat n)), .val (.int sv), .val (.int (cs.getD sv.toNatClampNeg 0)), uS] [(.int (125 : Int32)), (.int (cs.getD sv.toNatClampNeg 0))]))
   by_cases cz3 : (cs.getD sv.toNatClampNeg 0) = (125 : Int32)
   case pos =>
    refine Goes.st (fun sT kT => XS.icmpNo X0.here hx rfl (hb hby d10_20) rfl (teq cz3).2 kT) ?_
    show Goes _ _ _ _ (s₁.setTop (mkF m 23 #[.val (.ref b), .val (.int (Int32.ofNat n)), .val (.int sv), .val (.int (cs.getD sv.toNatClampNeg 0)), uS] []))
    refine Goes.st (fun sT kT => XS.iloadN X0.here hx rfl (hb hby d10_23) rfl kT) ?_
    show Goes _ _ _ _ (s₁.setTop (mkF m 24 #[.val (.ref b), .val (.int (Int32.ofNat n)), .val (.int sv), .val (.int (cs.getD sv.toNatClampNeg 0)), uS] [(.int sv)]))
    refine Goes.st (fun sT kT => XS.ineg X0.here hx rfl (hb hby d10_24) rfl kT) ?_
    show Goes _ _ _ _ (s₁.setTop (mkF m 25 #[.val (.ref b), .val (.int (Int32.ofNat n)), .val (.int sv), .val (.int (cs.getD sv.toNatClampNeg 0)), uS] [(.int (-sv))]))
    refine Goes.st (fun sT kT => XS.iconst X0.here hx rfl (hb hby d10_25) kT) ?_
    show Goes _ _ _ _ (s₁.setTop (mkF m 26 #[.val (.ref b), .val (.int (Int32.ofNat n)), .val (.int sv), .val (.int (cs.getD sv.toNatClampNeg 0)), uS] [(.int (2 : Int32)), (.int (-sv))]))
    refine Goes.st (fun sT kT => XS.isub X0.here hx rfl (hb hby d10_26) rfl kT) ?_
    show Goes _ _ _ _ (s₁.setTop (mkF m 27 #[.val (.ref b), .val (.int (Int32.ofNat n)), .val (.int sv), .val (.int (cs.getD sv.toNatClampNeg 0)), uS] [(.int ((-sv) - (2 : Int32)))]))
    obtain ⟨fs, hr, hrun, hended, hW, hsame⟩ := X0.leave (v := some (.int ((-sv) - (2 : Int32)))) (fun h => by rw [Bd.returns] at h; cases h)
    subst hQQ
    refine ⟨_, _, retI X0 hx Bd.returns (hb hby d10_27) hr, hrun, hended, _, _, rfl, ?_, ⟨_, rfl⟩, hW, hsame.mono (by decide) (by decide)⟩
    show Q_stp Z b kc cs n sv h0 n0 _ s₁.heap _
    rw [e0]
    exact ⟨(by rw [own_stp, if_neg hnn, if_pos cz1, if_pos cz3]), N0, rfl⟩
   case neg =>
    refine Goes.st (fun sT kT => XS.icmpYes X0.here hx rfl (pc0 := 20) (pc' := 28) rfl (hb hby d10_20) rfl (feq cz3).2 (by decide) (by decide) kT) ?_
    show Goes _ _ _ _ (s₁.setTop (mkF m 28 #[.val (.ref b), .val (.int (Int32.ofNat n)), .val (.int sv), .val (.int (cs.getD sv.toNatClampNeg 0)), uS] []))
    refine Goes.st (fun sT kT => XS.iloadN X0.here hx rfl (hb hby d10_28) rfl kT) ?_
    show Goes _ _ _ _ (s₁.setTop (mkF m 29 #[.val (.ref b), .val (.int (Int32.ofNat n)), .val (.int sv), .val (.int (cs.getD sv.toNatClampNeg 0)), uS] [(.int (cs.getD sv.toNatClampNeg 0))]))
    refine Goes.st (fun sT kT => XS.bipush X0.here hx rfl (hb hby d10_29) kT) ?_
    show Goes _ _ _ _ (s₁.setTop (mkF m 31 #[.val (.ref b), .val (.int (Int32.ofNat n)), .val (.int sv), .val (.int (cs.getD sv.toNatClampNeg 0)), uS] [(.int (39 : Int32)), (.int (cs.getD sv.toNatClampNeg 0))]))
    by_cases cz4 : (cs.getD sv.toNatClampNeg 0) = (39 : Int32)
    case pos =>
     refine Goes.st (fun sT kT => XS.icmpYes X0.here hx rfl (pc0 := 31) (pc' := 40) rfl (hb hby d10_31) rfl (teq cz4).1 (by decide) (by decide) kT) ?_
     show Goes _ _ _ _ (s₁.setTop (mkF m 40 #[.val (.ref b), .val (.int (Int32.ofNat n)), .val (.int sv), .val (.int (cs.getD sv.toNatClampNeg 0)), uS] []))
     refine Goes.st (fun sT kT => XS.aloadN X0.here hx rfl (hb hby d10_40) rfl rfl kT) ?_
     show Goes _ _ _ _ (s₁.setTop (mkF m 41 #[.val (.ref b), .val (.int (Int32.ofNat n)), .val (.int sv), .val (.int (cs.getD sv.toNatClampNeg 0)), uS] [(.ref b)]))
     refine Goes.st (fun sT kT => XS.iloadN X0.here hx rfl (hb hby d10_41) rfl kT) ?_
     show Goes _ _ _ _ (s₁.setTop (mkF m 42 #[.val (.ref b), .val (.int (Int32.ofNat n)), .val (.int sv), .val (.int (cs.getD sv.toNatClampNeg 0)), uS] [(.int (Int32.ofNat n)), (.ref b)]))
     refine Goes.st (fun sT kT => XS.iloadN X0.here hx rfl (hb hby d10_42) rfl kT) ?_
     show Goes _ _ _ _ (s₁.setTop (mkF m 43 #[.val (.ref b), .val (.int (Int32.ofNat n)), .val (.int sv), .val (.int (cs.getD sv.toNatClampNeg 0)), uS] [(.int sv), (.int (Int32.ofNat n)), (.ref b)]))
     refine Goes.st (fun sT kT => XS.iconst X0.here hx rfl (hb hby d10_43) kT) ?_
     show Goes _ _ _ _ (s₁.setTop (mkF m 44 #[.val (.ref b), .val (.int (Int32.ofNat n)), .val (.int sv), .val (.int (cs.getD sv.toNatClampNeg 0)), uS] [(.int (1 : Int32)), (.int sv), (.int (Int32.ofNat n)), (.ref b)]))
     refine Goes.st (fun sT kT => XS.iadd X0.here hx rfl (hb hby d10_44) rfl kT) ?_
     show Goes _ _ _ _ (s₁.setTop (mkF m 45 #[.val (.ref b), .val (.int (Int32.ofNat n)), .val (.int sv), .val (.int (cs.getD sv.toNatClampNeg 0)), uS] [(.int (sv + (1 : Int32))), (.int (Int32.ofNat n)), (.ref b)]))
     refine Goes.st (fun sT kT => XS.iloadN X0.here hx rfl (hb hby d10_45) rfl kT) ?_
     show Goes _ _ _ _ (s₁.setTop (mkF m 46 #[.val (.ref b), .val (.int (Int32.ofNat n)), .val (.int sv), .val (.int (cs.getD sv.toNatClampNeg 0)), uS] [(.int (cs.getD sv.toNatClampNeg 0)), (.int (sv + (1 : Int32))), (.int (Int32.ofNat n)), (.ref b)]))
     rw [show (sv + (1 : Int32)) = Int32.ofNat (sv.toNatClampNeg + 1) from by rw [hcl, hsk]; exact own_nadd1 k]
     show Goes _ _ _ _ (s₁.setTop (mkF m 46 #[.val (.ref b), .val (.int (Int32.ofNat n)), .val (.int sv), .val (.int (cs.getD sv.toNatClampNeg 0)), uS] [(.int (cs.getD sv.toNatClampNeg 0)), (.int (Int32.ofNat (sv.toNatClampNeg + 1))), (.int (Int32.ofNat n)), (.ref b)]))
     obtain ⟨_, _, ⟨T5, L5, k5, n5⟩, -, X5, ⟨Lc5, hQ5, l5, y5, z5⟩, st5⟩ := Jvm.LawKit.callS X0 hx (y := (⟨"com/example/warrant/warrant/messages/ExpressionParserEndsPinLaw", "closing", "([CIIC)I"⟩ : MethodName)) hown (mvT hZ (hw83 hw)) (mvT hZ (hw84 hw)) (mvT hZ (hw3 hw)) (mvT hZ (hw85 hw)) (by decide) (backOf (W := 0) (rm_clos l Z a0 hw [] b kc cs n (sv.toNatClampNeg + 1) (cs.getD sv.toNatClampNeg 0) h0 n0 Z0 P0 hn (by rw [hcl]; omega)) hZ (hw85 hw) (hw3 hw) (by decide) (by decide)) (g := (mkF m 46 #[.val (.ref b), .val (.int (Int32.ofNat n)), .val (.int sv), .val (.int (cs.getD sv.toNatClampNeg 0)), uS] [(.int (cs.getD sv.toNatClampNeg 0)), (.int (Int32.ofNat (sv.toNatClampNeg + 1))), (.int (Int32.ofNat n)), (.ref b)])) rfl (by rw [hml]; rfl) (argsL := [(.ref b), (.int (Int32.ofNat n)), (.int (Int32.ofNat (sv.toNatClampNeg + 1))), (.int (cs.getD sv.toNatClampNeg 0))]) (rest := []) (lenOf pd_1 rfl) rfl (by show 2 * 0 + _ ≤ _; exact Nat.le_of_eq rfl) (hb hby d10_46) (fun _ _ => ⟨rfl, e0, (by decide : 0 + 0 ≤ _), (by decide : 0 + 0 ≤ _)⟩)
     dsimp only [Pt.U, Pt.locs, Pt.cells, Pt.slots] at X5 l5 y5 z5 st5 hQ5
     subst l5 y5 z5
     obtain ⟨rfl, N5q, K5⟩ := hQ5
     have N5 := Fr.app N0 N5q
     refine Goes.st st5 ?_
     show Goes _ _ _ _ (T5.setTop (mkF m 49 #[.val (.ref b), .val (.int (Int32.ofNat n)), .val (.int sv), .val (.int (cs.getD sv.toNatClampNeg 0)), uS] [(.int (own_clo cs n (sv.toNatClampNeg + 1) (cs.getD sv.toNatClampNeg 0)))]))
     refine Goes.st (fun sT kT => XS.istore X5.here hx rfl (hb hby d10_49) rfl (l' := #[.val (.ref b), .val (.int (Int32.ofNat n)), .val (.int sv), .val (.int (cs.getD sv.toNatClampNeg 0)), .val (.int (own_clo cs n (sv.toNatClampNeg + 1) (cs.getD sv.toNatClampNeg 0)))]) rfl kT) ?_
     show Goes _ _ _ _ (T5.setTop (mkF m 51 #[.val (.ref b), .val (.int (Int32.ofNat n)), .val (.int sv), .val (.int (cs.getD sv.toNatClampNeg 0)), .val (.int (own_clo cs n (sv.toNatClampNeg + 1) (cs.getD sv.toNatClampNeg 0)))] []))
     refine Goes.st (fun sT kT => XS.iload X5.here hx rfl (hb hby d10_51) rfl kT) ?_
     show Goes _ _ _ _ (T5.setTop (mkF m 53 #[.val (.ref b), .val (.int (Int32.ofNat n)), .val (.int sv), .val (.int (cs.getD sv.toNatClampNeg 0)), .val (.int (own_clo cs n (sv.toNatClampNeg + 1) (cs.getD sv.toNatClampNeg 0)))] [(.int (own_clo cs n (sv.toNatClampNeg + 1) (cs.getD sv.toNatClampNeg 0)))]))
     by_cases cz6 : (own_clo cs n (sv.toNatClampNeg + 1) (cs.getD sv.toNatClampNeg 0)) < (0 : Int32)
     case pos =>
      refine Goes.st (fun sT kT => XS.ifNo X5.here hx rfl (hb hby d10_53) rfl ((if0 _ _).trans (tlt cz6).2.1) kT) ?_
      show Goes _ _ _ _ (T5.setTop (mkF m 56 #[.val (.ref b), .val (.int (Int32.ofNat n)), .val (.int sv), .val (.int (cs.getD sv.toNatClampNeg 0)), .val (.int (own_clo cs n (sv.toNatClampNeg + 1) (cs.getD sv.toNatClampNeg 0)))] []))
      refine Goes.st (fun sT kT => XS.iconst X5.here hx rfl (hb hby d10_56) kT) ?_
      show Goes _ _ _ _ (T5.setTop (mkF m 57 #[.val (.ref b), .val (.int (Int32.ofNat n)), .val (.int sv), .val (.int (cs.getD sv.toNatClampNeg 0)), .val (.int (own_clo cs n (sv.toNatClampNeg + 1) (cs.getD sv.toNatClampNeg 0)))] [(.int (-1 : Int32))]))
      refine Goes.st (fun sT kT => XS.goto X5.here hx rfl (pc0 := 57) (pc' := 64) rfl (hb hby d10_57) (by decide) (by decide) kT) ?_
      show Goes _ _ _ _ (T5.setTop (mkF m 64 #[.val (.ref b), .val (.int (Int32.ofNat n)), .val (.int sv), .val (.int (cs.getD sv.toNatClampNeg 0)), .val (.int (own_clo cs n (sv.toNatClampNeg + 1) (cs.getD sv.toNatClampNeg 0)))] [(.int (-1 : Int32))]))
      obtain ⟨fs, hr, hrun, hended, hW, hsame⟩ := X5.leave (v := some (.int (-1 : Int32))) (fun h => by rw [Bd.returns] at h; cases h)
      subst hQQ
      refine ⟨_, _, retI X5 hx Bd.returns (hb hby d10_64) hr, hrun, hended, _, _, rfl, ?_, ⟨_, rfl⟩, hW, hsame.mono (by decide) (by decide)⟩
      show Q_stp Z b kc cs n sv h0 n0 _ T5.heap _
      rw [K5]
      exact ⟨(by rw [own_stp, if_neg hnn, if_pos cz1, if_neg cz3, if_pos (Or.inl cz4), if_pos cz6]), N5, rfl⟩
     case neg =>
      refine Goes.st (fun sT kT => XS.ifYes X5.here hx rfl (pc0 := 53) (pc' := 60) rfl (hb hby d10_53) rfl ((if0 _ _).trans (flt cz6).2.1) (by decide) (by decide) kT) ?_
      show Goes _ _ _ _ (T5.setTop (mkF m 60 #[.val (.ref b), .val (.int (Int32.ofNat n)), .val (.int sv), .val (.int (cs.getD sv.toNatClampNeg 0)), .val (.int (own_clo cs n (sv.toNatClampNeg + 1) (cs.getD sv.toNatClampNeg 0)))] []))
      refine Goes.st (fun sT kT => XS.iload X5.here hx rfl (hb hby d10_60) rfl kT) ?_
      show Goes _ _ _ _ (T5.setTop (mkF m 62 #[.val (.ref b), .val (.int (Int32.ofNat n)), .val (.int sv), .val (.int (cs.getD sv.toNatClampNeg 0)), .val (.int (own_clo cs n (sv.toNatClampNeg + 1) (cs.getD sv.toNatClampNeg 0)))] [(.int (own_clo cs n (sv.toNatClampNeg + 1) (cs.getD sv.toNatClampNeg 0)))]))
      refine Goes.st (fun sT kT => XS.iconst X5.here hx rfl (hb hby d10_62) kT) ?_
      show Goes _ _ _ _ (T5.setTop (mkF m 63 #[.val (.ref b), .val (.int (Int32.ofNat n)), .val (.int sv), .val (.int (cs.getD sv.toNatClampNeg 0)), .val (.int (own_clo cs n (sv.toNatClampNeg + 1) (cs.getD sv.toNatClampNeg 0)))] [(.int (1 : Int32)), (.int (own_clo cs n (sv.toNatClampNeg + 1) (cs.getD sv.toNatClampNeg 0)))]))
      refine Goes.st (fun sT kT => XS.iadd X5.here hx rfl (hb hby d10_63) rfl kT) ?_
      show Goes _ _ _ _ (T5.setTop (mkF m 64 #[.val (.ref b), .val (.int (Int32.ofNat n)), .val (.int sv), .val (.int (cs.getD sv.toNatClampNeg 0)), .val (.int (own_clo cs n (sv.toNatClampNeg + 1) (cs.getD sv.toNatClampNeg 0)))] [(.int ((own_clo cs n (sv.toNatClampNeg + 1) (cs.getD sv.toNatClampNeg 0)) + (1 : Int32)))]))
      obtain ⟨fs, hr, hrun, hended, hW, hsame⟩ := X5.leave (v := some (.int ((own_clo cs n (sv.toNatClampNeg + 1) (cs.getD sv.toNatClampNeg 0)) + (1 : Int32)))) (fun h => by rw [Bd.returns] at h; cases h)
      subst hQQ
      refine ⟨_, _, retI X5 hx Bd.returns (hb hby d10_64) hr, hrun, hended, _, _, rfl, ?_, ⟨_, rfl⟩, hW, hsame.mono (by decide) (by decide)⟩
      show Q_stp Z b kc cs n sv h0 n0 _ T5.heap _
      rw [K5]
      exact ⟨(by rw [own_stp, if_neg hnn, if_pos cz1, if_neg cz3, if_pos (Or.inl cz4), if_neg cz6]), N5, rfl⟩
    case neg =>
     refine Goes.st (fun sT kT => XS.icmpNo X0.here hx rfl (hb hby d10_31) rfl (feq cz4).1 kT) ?_
     show Goes _ _ _ _ (s₁.setTop (mkF m 34 #[.val (.ref b), .val (.int (Int32.ofNat n)), .val (.int sv), .val (.int (cs.getD sv.toNatClampNeg 0)), uS] []))
     refine Goes.st (fun sT kT => XS.iloadN X0.here hx rfl (hb hby d10_34) rfl kT) ?_
     show Goes _ _ _ _ (s₁.setTop (mkF m 35 #[.val (.ref b), .val (.int (Int32.ofNat n)), .val (.int sv), .val (.int (cs.getD sv.toNatClampNeg 0)), uS] [(.int (cs.getD sv.toNatClampNeg 0))]))
     refine Goes.st (fun sT kT => XS.bipush X0.here hx rfl (hb hby d10_35) kT) ?_
     show Goes _ _ _ _ (s₁.setTop (mkF m 37 #[.val (.ref b), .val (.int (Int32.ofNat n)), .val (.int sv), .val (.int (cs.getD sv.toNatClampNeg 0)), uS] [(.int (34 : Int32)), (.int (cs.getD sv.toNatClampNeg 0))]))
     by_cases cz7 : (cs.getD sv.toNatClampNeg 0) = (34 : Int32)
     case pos =>
      refine Goes.st (fun sT kT => XS.icmpNo X0.here hx rfl (hb hby d10_37) rfl (teq cz7).2 kT) ?_
      show Goes _ _ _ _ (s₁.setTop (mkF m 40 #[.val (.ref b), .val (.int (Int32.ofNat n)), .val (.int sv), .val (.int (cs.getD sv.toNatClampNeg 0)), uS] []))
      refine Goes.st (fun sT kT => XS.aloadN X0.here hx rfl (hb hby d10_40) rfl rfl kT) ?_
      show Goes _ _ _ _ (s₁.setTop (mkF m 41 #[.val (.ref b), .val (.int (Int32.ofNat n)), .val (.int sv), .val (.int (cs.getD sv.toNatClampNeg 0)), uS] [(.ref b)]))
      refine Goes.st (fun sT kT => XS.iloadN X0.here hx rfl (hb hby d10_41) rfl kT) ?_
      show Goes _ _ _ _ (s₁.setTop (mkF m 42 #[.val (.ref b), .val (.int (Int32.ofNat n)), .val (.int sv), .val (.int (cs.getD sv.toNatClampNeg 0)), uS] [(.int (Int32.ofNat n)), (.ref b)]))
      refine Goes.st (fun sT kT => XS.iloadN X0.here hx rfl (hb hby d10_42) rfl kT) ?_
      show Goes _ _ _ _ (s₁.setTop (mkF m 43 #[.val (.ref b), .val (.int (Int32.ofNat n)), .val (.int sv), .val (.int (cs.getD sv.toNatClampNeg 0)), uS] [(.int sv), (.int (Int32.ofNat n)), (.ref b)]))
      refine Goes.st (fun sT kT => XS.iconst X0.here hx rfl (hb hby d10_43) kT) ?_
      show Goes _ _ _ _ (s₁.setTop (mkF m 44 #[.val (.ref b), .val (.int (Int32.ofNat n)), .val (.int sv), .val (.int (cs.getD sv.toNatClampNeg 0)), uS] [(.int (1 : Int32)), (.int sv), (.int (Int32.ofNat n)), (.ref b)]))
      refine Goes.st (fun sT kT => XS.iadd X0.here hx rfl (hb hby d10_44) rfl kT) ?_
      show Goes _ _ _ _ (s₁.setTop (mkF m 45 #[.val (.ref b), .val (.int (Int32.ofNat n)), .val (.int sv), .val (.int (cs.getD sv.toNatClampNeg 0)), uS] [(.int (sv + (1 : Int32))), (.int (Int32.ofNat n)), (.ref b)]))
      refine Goes.st (fun sT kT => XS.iloadN X0.here hx rfl (hb hby d10_45) rfl kT) ?_
      show Goes _ _ _ _ (s₁.setTop (mkF m 46 #[.val (.ref b), .val (.int (Int32.ofNat n)), .val (.int sv), .val (.int (cs.getD sv.toNatClampNeg 0)), uS] [(.int (cs.getD sv.toNatClampNeg 0)), (.int (sv + (1 : Int32))), (.int (Int32.ofNat n)), (.ref b)]))
      rw [show (sv + (1 : Int32)) = Int32.ofNat (sv.toNatClampNeg + 1) from by rw [hcl, hsk]; exact own_nadd1 k]
      show Goes _ _ _ _ (s₁.setTop (mkF m 46 #[.val (.ref b), .val (.int (Int32.ofNat n)), .val (.int sv), .val (.int (cs.getD sv.toNatClampNeg 0)), uS] [(.int (cs.getD sv.toNatClampNeg 0)), (.int (Int32.ofNat (sv.toNatClampNeg + 1))), (.int (Int32.ofNat n)), (.ref b)]))
      obtain ⟨_, _, ⟨T8, L8, k8, n8⟩, -, X8, ⟨Lc8, hQ8, l8, y8, z8⟩, st8⟩ := Jvm.LawKit.callS X0 hx (y := (⟨"com/example/warrant/warrant/messages/ExpressionParserEndsPinLaw", "closing", "([CIIC)I"⟩ : MethodName)) hown (mvT hZ (hw83 hw)) (mvT hZ (hw84 hw)) (mvT hZ (hw3 hw)) (mvT hZ (hw85 hw)) (by decide) (backOf (W := 0) (rm_clos l Z a0 hw [] b kc cs n (sv.toNatClampNeg + 1) (cs.getD sv.toNatClampNeg 0) h0 n0 Z0 P0 hn (by rw [hcl]; omega)) hZ (hw85 hw) (hw3 hw) (by decide) (by decide)) (g := (mkF m 46 #[.val (.ref b), .val (.int (Int32.ofNat n)), .val (.int sv), .val (.int (cs.getD sv.toNatClampNeg 0)), uS] [(.int (cs.getD sv.toNatClampNeg 0)), (.int (Int32.ofNat (sv.toNatClampNeg + 1))), (.int (Int32.ofNat n)), (.ref b)])) rfl (by rw [hml]; rfl) (argsL := [(.ref b), (.int (Int32.ofNat n)), (.int (Int32.ofNat (sv.toNatClampNeg + 1))), (.int (cs.getD sv.toNatClampNeg 0))]) (rest := []) (lenOf pd_1 rfl) rfl (by show 2 * 0 + _ ≤ _; exact Nat.le_of_eq rfl) (hb hby d10_46) (fun _ _ => ⟨rfl, e0, (by decide : 0 + 0 ≤ _), (by decide : 0 + 0 ≤ _)⟩)
      dsimp only [Pt.U, Pt.locs, Pt.cells, Pt.slots] at X8 l8 y8 z8 st8 hQ8
      subst l8 y8 z8
      obtain ⟨rfl, N8q, K8⟩ := hQ8
      have N8 := Fr.app N0 N8q
      refine Goes.st st8 ?_
      show Goes _ _ _ _ (T8.setTop (mkF m 49 #[.val (.ref b), .val (.int (Int32.ofNat n)), .val (.int sv), .val (.int (cs.getD sv.toNatClampNeg 0)), uS] [(.int (own_clo cs n (sv.toNatClampNeg + 1) (cs.getD sv.toNatClampNeg 0)))]))
      refine Goes.st (fun sT kT => XS.istore X8.here hx rfl (hb hby d10_49) rfl (l' := #[.val (.ref b), .val (.int (Int32.ofNat n)), .val (.int sv), .val (.int (cs.getD sv.toNatClampNeg 0)), .val (.int (own_clo cs n (sv.toNatClampNeg + 1) (cs.getD sv.toNatClampNeg 0)))]) rfl kT) ?_
      show Goes _ _ _ _ (T8.setTop (mkF m 51 #[.val (.ref b), .val (.int (Int32.ofNat n)), .val (.int sv), .val (.int (cs.getD sv.toNatClampNeg 0)), .val (.int (own_clo cs n (sv.toNatClampNeg + 1) (cs.getD sv.toNatClampNeg 0)))] []))
      refine Goes.st (fun sT kT => XS.iload X8.here hx rfl (hb hby d10_51) rfl kT) ?_
      show Goes _ _ _ _ (T8.setTop (mkF m 53 #[.val (.ref b), .val (.int (Int32.ofNat n)), .val (.int sv), .val (.int (cs.getD sv.toNatClampNeg 0)), .val (.int (own_clo cs n (sv.toNatClampNeg + 1) (cs.getD sv.toNatClampNeg 0)))] [(.int (own_clo cs n (sv.toNatClampNeg + 1) (cs.getD sv.toNatClampNeg 0)))]))
      by_cases cz9 : (own_clo cs n (sv.toNatClampNeg + 1) (cs.getD sv.toNatClampNeg 0)) < (0 : Int32)
      case pos =>
       refine Goes.st (fun sT kT => XS.ifNo X8.here hx rfl (hb hby d10_53) rfl ((if0 _ _).trans (tlt cz9).2.1) kT) ?_
       show Goes _ _ _ _ (T8.setTop (mkF m 56 #[.val (.ref b), .val (.int (Int32.ofNat n)), .val (.int sv), .val (.int (cs.getD sv.toNatClampNeg 0)), .val (.int (own_clo cs n (sv.toNatClampNeg + 1) (cs.getD sv.toNatClampNeg 0)))] []))
       refine Goes.st (fun sT kT => XS.iconst X8.here hx rfl (hb hby d10_56) kT) ?_
       show Goes _ _ _ _ (T8.setTop (mkF m 57 #[.val (.ref b), .val (.int (Int32.ofNat n)), .val (.int sv), .val (.int (cs.getD sv.toNatClampNeg 0)), .val (.int (own_clo cs n (sv.toNatClampNeg + 1) (cs.getD sv.toNatClampNeg 0)))] [(.int (-1 : Int32))]))
       refine Goes.st (fun sT kT => XS.goto X8.here hx rfl (pc0 := 57) (pc' := 64) rfl (hb hby d10_57) (by decide) (by decide) kT) ?_
       show Goes _ _ _ _ (T8.setTop (mkF m 64 #[.val (.ref b), .val (.int (Int32.ofNat n)), .val (.int sv), .val (.int (cs.getD sv.toNatClampNeg 0)), .val (.int (own_clo cs n (sv.toNatClampNeg + 1) (cs.getD sv.toNatClampNeg 0)))] [(.int (-1 : Int32))]))
       obtain ⟨fs, hr, hrun, hended, hW, hsame⟩ := X8.leave (v := some (.int (-1 : Int32))) (fun h => by rw [Bd.returns] at h; cases h)
       subst hQQ
       refine ⟨_, _, retI X8 hx Bd.returns (hb hby d10_64) hr, hrun, hended, _, _, rfl, ?_, ⟨_, rfl⟩, hW, hsame.mono (by decide) (by decide)⟩
       show Q_stp Z b kc cs n sv h0 n0 _ T8.heap _
       rw [K8]
       exact ⟨(by rw [own_stp, if_neg hnn, if_pos cz1, if_neg cz3, if_pos (Or.inr cz7), if_pos cz9]), N8, rfl⟩
      case neg =>
       refine Goes.st (fun sT kT => XS.ifYes X8.here hx rfl (pc0 := 53) (pc' := 60) rfl (hb hby d10_53) rfl ((if0 _ _).trans (flt cz9).2.1) (by decide) (by decide) kT) ?_
       show Goes _ _ _ _ (T8.setTop (mkF m 60 #[.val (.ref b), .val (.int (Int32.ofNat n)), .val (.int sv), .val (.int (cs.getD sv.toNatClampNeg 0)), .val (.int (own_clo cs n (sv.toNatClampNeg + 1) (cs.getD sv.toNatClampNeg 0)))] []))
       refine Goes.st (fun sT kT => XS.iload X8.here hx rfl (hb hby d10_60) rfl kT) ?_
       show Goes _ _ _ _ (T8.setTop (mkF m 62 #[.val (.ref b), .val (.int (Int32.ofNat n)), .val (.int sv), .val (.int (cs.getD sv.toNatClampNeg 0)), .val (.int (own_clo cs n (sv.toNatClampNeg + 1) (cs.getD sv.toNatClampNeg 0)))] [(.int (own_clo cs n (sv.toNatClampNeg + 1) (cs.getD sv.toNatClampNeg 0)))]))
       refine Goes.st (fun sT kT => XS.iconst X8.here hx rfl (hb hby d10_62) kT) ?_
       show Goes _ _ _ _ (T8.setTop (mkF m 63 #[.val (.ref b), .val (.int (Int32.ofNat n)), .val (.int sv), .val (.int (cs.getD sv.toNatClampNeg 0)), .val (.int (own_clo cs n (sv.toNatClampNeg + 1) (cs.getD sv.toNatClampNeg 0)))] [(.int (1 : Int32)), (.int (own_clo cs n (sv.toNatClampNeg + 1) (cs.getD sv.toNatClampNeg 0)))]))
       refine Goes.st (fun sT kT => XS.iadd X8.here hx rfl (hb hby d10_63) rfl kT) ?_
       show Goes _ _ _ _ (T8.setTop (mkF m 64 #[.val (.ref b), .val (.int (Int32.ofNat n)), .val (.int sv), .val (.int (cs.getD sv.toNatClampNeg 0)), .val (.int (own_clo cs n (sv.toNatClampNeg + 1) (cs.getD sv.toNatClampNeg 0)))] [(.int ((own_clo cs n (sv.toNatClampNeg + 1) (cs.getD sv.toNatClampNeg 0)) + (1 : Int32)))]))
       obtain ⟨fs, hr, hrun, hended, hW, hsame⟩ := X8.leave (v := some (.int ((own_clo cs n (sv.toNatClampNeg + 1) (cs.getD sv.toNatClampNeg 0)) + (1 : Int32)))) (fun h => by rw [Bd.returns] at h; cases h)
       subst hQQ
       refine ⟨_, _, retI X8 hx Bd.returns (hb hby d10_64) hr, hrun, hended, _, _, rfl, ?_, ⟨_, rfl⟩, hW, hsame.mono (by decide) (by decide)⟩
       show Q_stp Z b kc cs n sv h0 n0 _ T8.heap _
       rw [K8]
       exact ⟨(by rw [own_stp, if_neg hnn, if_pos cz1, if_neg cz3, if_pos (Or.inr cz7), if_neg cz9]), N8, rfl⟩
     case neg =>
      refine Goes.st (fun sT kT => XS.icmpYes X0.here hx rfl (pc0 := 37) (pc' := 65) rfl (hb hby d10_37) rfl (feq cz7).2 (by decide) (by decide) kT) ?_
      show Goes _ _ _ _ (s₁.setTop (mkF m 65 #[.val (.ref b), .val (.int (Int32.ofNat n)), .val (.int sv), .val (.int (cs.getD sv.toNatClampNeg 0)), uS] []))
      refine Goes.st (fun sT kT => XS.iloadN X0.here hx rfl (hb hby d10_65) rfl kT) ?_
      show Goes _ _ _ _ (s₁.setTop (mkF m 66 #[.val (.ref b), .val (.int (Int32.ofNat n)), .val (.int sv), .val (.int (cs.getD sv.toNatClampNeg 0)), uS] [(.int sv)]))
      refine Goes.st (fun sT kT => XS.iconst X0.here hx rfl (hb hby d10_66) kT) ?_
      show Goes _ _ _ _ (s₁.setTop (mkF m 67 #[.val (.ref b), .val (.int (Int32.ofNat n)), .val (.int sv), .val (.int (cs.getD sv.toNatClampNeg 0)), uS] [(.int (1 : Int32)), (.int sv)]))
      refine Goes.st (fun sT kT => XS.iadd X0.here hx rfl (hb hby d10_67) rfl kT) ?_
      show Goes _ _ _ _ (s₁.setTop (mkF m 68 #[.val (.ref b), .val (.int (Int32.ofNat n)), .val (.int sv), .val (.int (cs.getD sv.toNatClampNeg 0)), uS] [(.int (sv + (1 : Int32)))]))
      obtain ⟨fs, hr, hrun, hended, hW, hsame⟩ := X0.leave (v := some (.int (sv + (1 : Int32)))) (fun h => by rw [Bd.returns] at h; cases h)
      subst hQQ
      refine ⟨_, _, retI X0 hx Bd.returns (hb hby d10_68) hr, hrun, hended, _, _, rfl, ?_, ⟨_, rfl⟩, hW, hsame.mono (by decide) (by decide)⟩
      show Q_stp Z b kc cs n sv h0 n0 _ s₁.heap _
      rw [e0]
      exact ⟨(by rw [own_stp, if_neg hnn, if_pos cz1, if_neg cz3, if_neg (fun q => q.elim cz4 cz7)]), N0, rfl⟩
  case neg =>
   refine Goes.st (fun sT kT => XS.icmpNo X0.here hx rfl (hb hby d10_8) rfl (flt cz1).1 kT) ?_
   show Goes _ _ _ _ (s₁.setTop (mkF m 11 #[.val (.ref b), .val (.int (Int32.ofNat n)), .val (.int sv), uS, uS] []))
   refine Goes.st (fun sT kT => XS.iconst X0.here hx rfl (hb hby d10_11) kT) ?_
   show Goes _ _ _ _ (s₁.setTop (mkF m 12 #[.val (.ref b), .val (.int (Int32.ofNat n)), .val (.int sv), uS, uS] [(.int (-1 : Int32))]))
   obtain ⟨fs, hr, hrun, hended, hW, hsame⟩ := X0.leave (v := some (.int (-1 : Int32))) (fun h => by rw [Bd.returns] at h; cases h)
   subst hQQ
   refine ⟨_, _, retI X0 hx Bd.returns (hb hby d10_12) hr, hrun, hended, _, _, rfl, ?_, ⟨_, rfl⟩, hW, hsame.mono (by decide) (by decide)⟩
   show Q_stp Z b kc cs n sv h0 n0 _ s₁.heap _
   rw [e0]
   exact ⟨(by rw [own_stp, if_neg hnn, if_neg cz1]), N0, rfl⟩
theorem ef_refr (m : MethodId) (b : Addr) (kc : ClassId) (cs : List Int32) (n : Nat) (ii : Nat) : entryFrame m #[(.ref b), (.int (Int32.ofNat n)), (.int (Int32.ofNat ii))] 4 = (mkF m 0 #[.val (.ref b), .val (.int (Int32.ofNat n)), .val (.int (Int32.ofNat ii)), uS] []) := by first | (simp [entryFrame, mkF, argsToLocals, Value.category]; done) | rfl
def Q_refr (Z : State) (b : Addr) (kc : ClassId) (cs : List Int32) (n : Nat) (ii : Nat) (h0 : Heap) (n0 : Nat) (v : Option Value) (h : Heap) (L : List Loc) : Prop := v = some (.int (own_ref cs n ii)) ∧ Fr n0 L ∧ h = h0
set_option maxRecDepth 65536 in
set_option maxHeartbeats 40000000 in
theorem rm_refr (l : Launch) (Z : State) (a0 : Array Value) (hw : ∀ d ∈ tables_1, d.before a0 Z = true) (ws : List Jvm.Cond) (b : Addr) (kc : ClassId) (cs : List Int32) (n : Nat) (ii : Nat) (h0 : Heap) (n0 : Nat) (Z0 : n0 ≤ h0.size) (P0 : Arv Z h0 b kc .char (5 : Int32) (cs.map Value.int) (.int (0 : Int32))) (hn : n ≤ 5) (hl : n ≤ cs.length) (hi : ii ≤ 5) :
    MetFree l (⟨"com/example/warrant/warrant/messages/ExpressionParserEndsPinLaw", "reference", "([CII)I"⟩ : MethodName) (head1 (Jvm.Cond.code (⟨"com/example/warrant/warrant/messages/ExpressionParserEndsPinLaw", "reference", "([CII)I"⟩ : MethodName) method_5_code 4 (some .int) :: ws) ({ frames := 3, cells := 0, slots := 0, locals := 76 } : Room)) (fun aR U => aR = #[(.ref b), (.int (Int32.ofNat n)), (.int (Int32.ofNat ii))] ∧ Z.Warmed39 U.vm ∧ U.heap = h0) (fun _ _ _ _ _ => True) (fun _ U o U' => ∃ v L, o = .returned v ∧ Q_refr Z b kc cs n ii h0 n0 v U'.heap L ∧ FrameEnd U o U' L ({ frames := 3, cells := 0, slots := 0, locals := 76 } : Room).cells ({ frames := 3, cells := 0, slots := 0, locals := 76 } : Room).slots) := by
 refine MetFree.of_bodySF (plainFor_of_name pn_1) hisR ?_
 intro p e s m args below meth c s₁ Bd hml0 hP hK
 obtain ⟨rfl, hZ, hh⟩ := hP
 have hx := Bd.exec
 have hby := Bd.bytes
 have hml : c.maxLocals = 4 := hml0
 have hown : s.vm.findClass "com/example/warrant/warrant/messages/ExpressionParserEndsPinLaw" = some m.cls := findClass_of_methodNamed Bd.named
 have hnm := (name_of_methodNamed Bd.named Bd.method).1
 have X0 : Stand p l e ({ frames := 3, cells := 0, slots := 0, locals := 76 } : Room) s m #[(.ref b), (.int (Int32.ofNat n)), (.int (Int32.ofNat ii))] below meth c s₁ [] 0 0 := Stand.of_body Bd
 have e0 : s₁.heap = h0 := by rw [← hh, Bd.state]; rfl
 have N0 := Fr.nil n0
 show Goes p.tables e below _ _
 rw [ef_refr m b kc cs n ii]
 refine Goes.named ?_
 intro QQ hQQ
 refine Goes.st (fun sT kT => XS.iloadN X0.here hx rfl (hb hby d9_0) rfl kT) ?_
 show Goes _ _ _ _ (s₁.setTop (mkF m 1 #[.val (.ref b), .val (.int (Int32.ofNat n)), .val (.int (Int32.ofNat ii)), uS] [(.int (Int32.ofNat ii))]))
 refine Goes.st (fun sT kT => XS.istoreN X0.here hx rfl (hb hby d9_1) rfl (l' := #[.val (.ref b), .val (.int (Int32.ofNat n)), .val (.int (Int32.ofNat ii)), .val (.int (Int32.ofNat ii))]) rfl kT) ?_
 show Goes _ _ _ _ (s₁.setTop (mkF m 2 #[.val (.ref b), .val (.int (Int32.ofNat n)), .val (.int (Int32.ofNat ii)), .val (.int (Int32.ofNat ii))] []))
 refine Goes.st (fun sT kT => XS.aloadN X0.here hx rfl (hb hby d9_2) rfl rfl kT) ?_
 show Goes _ _ _ _ (s₁.setTop (mkF m 3 #[.val (.ref b), .val (.int (Int32.ofNat n)), .val (.int (Int32.ofNat ii)), .val (.int (Int32.ofNat ii))] [(.ref b)]))
 refine Goes.st (fun sT kT => XS.iloadN X0.here hx rfl (hb hby d9_3) rfl kT) ?_
 show Goes _ _ _ _ (s₁.setTop (mkF m 4 #[.val (.ref b), .val (.int (Int32.ofNat n)), .val (.int (Int32.ofNat ii)), .val (.int (Int32.ofNat ii))] [(.int (Int32.ofNat n)), (.ref b)]))
 refine Goes.st (fun sT kT => XS.iloadN X0.here hx rfl (hb hby d9_4) rfl kT) ?_
 show Goes _ _ _ _ (s₁.setTop (mkF m 5 #[.val (.ref b), .val (.int (Int32.ofNat n)), .val (.int (Int32.ofNat ii)), .val (.int (Int32.ofNat ii))] [(.int (Int32.ofNat ii)), (.int (Int32.ofNat n)), (.ref b)]))
 obtain ⟨_, _, ⟨T1, L1, k1, n1⟩, -, X1, ⟨Lc1, hQ1, l1, y1, z1⟩, st1⟩ := Jvm.LawKit.callS X0 hx (y := (⟨"com/example/warrant/warrant/messages/ExpressionParserEndsPinLaw", "step", "([CII)I"⟩ : MethodName)) hown (mvT hZ (hw48 hw)) (mvT hZ (hw49 hw)) (mvT hZ (hw3 hw)) (mvT hZ (hw50 hw)) (by decide) (backOf (W := 0) (rm_stp l Z a0 hw [] b kc cs n (Int32.ofNat ii) h0 n0 Z0 P0 hn (Or.inr ⟨ii, hi, rfl⟩)) hZ (hw50 hw) (hw3 hw) (by decide) (by decide)) (g := (mkF m 5 #[.val (.ref b), .val (.int (Int32.ofNat n)), .val (.int (Int32.ofNat ii)), .val (.int (Int32.ofNat ii))] [(.int (Int32.ofNat ii)), (.int (Int32.ofNat n)), (.ref b)])) rfl (by rw [hml]; rfl) (argsL := [(.ref b), (.int (Int32.ofNat n)), (.int (Int32.ofNat ii))]) (rest := []) (lenOf pd_2 rfl) rfl (by show 2 * 0 + _ ≤ _; exact Nat.le_of_eq rfl) (hb hby d9_5) (fun _ _ => ⟨rfl, e0, (by decide : 0 + 0 ≤ _), (by decide : 0 + 0 ≤ _)⟩)
 dsimp only [Pt.U, Pt.locs, Pt.cells, Pt.slots] at X1 l1 y1 z1 st1 hQ1
 subst l1 y1 z1
 obtain ⟨rfl, N1q, K1⟩ := hQ1
 have N1 := Fr.app N0 N1q
 refine Goes.st st1 ?_
 show Goes _ _ _ _ (T1.setTop (mkF m 8 #[.val (.ref b), .val (.int (Int32.ofNat n)), .val (.int (Int32.ofNat ii)), .val (.int (Int32.ofNat ii))] [(.int (own_stp cs n (Int32.ofNat ii)))]))
 refine Goes.st (fun sT kT => XS.istoreN X1.here hx rfl (hb hby d9_8) rfl (l' := #[.val (.ref b), .val (.int (Int32.ofNat n)), .val (.int (Int32.ofNat ii)), .val (.int (own_stp cs n (Int32.ofNat ii)))]) rfl kT) ?_
 show Goes _ _ _ _ (T1.setTop (mkF m 9 #[.val (.ref b), .val (.int (Int32.ofNat n)), .val (.int (Int32.ofNat ii)), .val (.int (own_stp cs n (Int32.ofNat ii)))] []))
 refine Goes.st (fun sT kT => XS.aloadN X1.here hx rfl (hb hby d9_9) rfl rfl kT) ?_
 show Goes _ _ _ _ (T1.setTop (mkF m 10 #[.val (.ref b), .val (.int (Int32.ofNat n)), .val (.int (Int32.ofNat ii)), .val (.int (own_stp cs n (Int32.ofNat ii)))] [(.ref b)]))
 refine Goes.st (fun sT kT => XS.iloadN X1.here hx rfl (hb hby d9_10) rfl kT) ?_
 show Goes _ _ _ _ (T1.setTop (mkF m 11 #[.val (.ref b), .val (.int (Int32.ofNat n)), .val (.int (Int32.ofNat ii)), .val (.int (own_stp cs n (Int32.ofNat ii)))] [(.int (Int32.ofNat n)), (.ref b)]))
 refine Goes.st (fun sT kT => XS.iloadN X1.here hx rfl (hb hby d9_11) rfl kT) ?_
 show Goes _ _ _ _ (T1.setTop (mkF m 12 #[.val (.ref b), .val (.int (Int32.ofNat n)), .val (.int (Int32.ofNat ii)), .val (.int (own_stp cs n (Int32.ofNat ii)))] [(.int (own_stp cs n (Int32.ofNat ii))), (.int (Int32.ofNat n)), (.ref b)]))
 obtain ⟨_, _, ⟨T2, L2, k2, n2⟩, -, X2, ⟨Lc2, hQ2, l2, y2, z2⟩, st2⟩ := Jvm.LawKit.callS X1 hx (y := (⟨"com/example/warrant/warrant/messages/ExpressionParserEndsPinLaw", "step", "([CII)I"⟩ : MethodName)) hown (mvT hZ (hw48 hw)) (mvT hZ (hw49 hw)) (mvT hZ (hw3 hw)) (mvT hZ (hw50 hw)) (by decide) (backOf (W := 0) (rm_stp l Z a0 hw [] b kc cs n (own_stp cs n (Int32.ofNat ii)) h0 n0 Z0 P0 hn (own_sk hn hl (Or.inr ⟨ii, hi, rfl⟩))) hZ (hw50 hw) (hw3 hw) (by decide) (by decide)) (g := (mkF m 12 #[.val (.ref b), .val (.int (Int32.ofNat n)), .val (.int (Int32.ofNat ii)), .val (.int (own_stp cs n (Int32.ofNat ii)))] [(.int (own_stp cs n (Int32.ofNat ii))), (.int (Int32.ofNat n)), (.ref b)])) rfl (by rw [hml]; rfl) (argsL := [(.ref b), (.int (Int32.ofNat n)), (.int (own_stp cs n (Int32.ofNat ii)))]) (rest := []) (lenOf pd_2 rfl) rfl (by show 2 * 0 + _ ≤ _; exact Nat.le_of_eq rfl) (hb hby d9_12) (fun _ _ => ⟨rfl, K1, (by decide : 0 + 0 ≤ _), (by decide : 0 + 0 ≤ _)⟩)
 dsimp only [Pt.U, Pt.locs, Pt.cells, Pt.slots] at X2 l2 y2 z2 st2 hQ2
 subst l2 y2 z2
 obtain ⟨rfl, N2q, K2⟩ := hQ2
 have N2 := Fr.app N1 N2q
 refine Goes.st st2 ?_
 show Goes _ _ _ _ (T2.setTop (mkF m 15 #[.val (.ref b), .val (.int (Int32.ofNat n)), .val (.int (Int32.ofNat ii)), .val (.int (own_stp cs n (Int32.ofNat ii)))] [(.int (own_stp cs n (own_stp cs n (Int32.ofNat ii))))]))
 refine Goes.st (fun sT kT => XS.istoreN X2.here hx rfl (hb hby d9_15) rfl (l' := #[.val (.ref b), .val (.int (Int32.ofNat n)), .val (.int (Int32.ofNat ii)), .val (.int (own_stp cs n (own_stp cs n (Int32.ofNat ii))))]) rfl kT) ?_
 show Goes _ _ _ _ (T2.setTop (mkF m 16 #[.val (.ref b), .val (.int (Int32.ofNat n)), .val (.int (Int32.ofNat ii)), .val (.int (own_stp cs n (own_stp cs n (Int32.ofNat ii))))] []))
 refine Goes.st (fun sT kT => XS.aloadN X2.here hx rfl (hb hby d9_16) rfl rfl kT) ?_
 show Goes _ _ _ _ (T2.setTop (mkF m 17 #[.val (.ref b), .val (.int (Int32.ofNat n)), .val (.int (Int32.ofNat ii)), .val (.int (own_stp cs n (own_stp cs n (Int32.ofNat ii))))] [(.ref b)]))
 refine Goes.st (fun sT kT => XS.iloadN X2.here hx rfl (hb hby d9_17) rfl kT) ?_
 show Goes _ _ _ _ (T2.setTop (mkF m 18 #[.val (.ref b), .val (.int (Int32.ofNat n)), .val (.int (Int32.ofNat ii)), .val (.int (own_stp cs n (own_stp cs n (Int32.ofNat ii))))] [(.int (Int32.ofNat n)), (.ref b)]))
 refine Goes.st (fun sT kT => XS.iloadN X2.here hx rfl (hb hby d9_18) rfl kT) ?_
 show Goes _ _ _ _ (T2.setTop (mkF m 19 #[.val (.ref b), .val (.int (Int32.ofNat n)), .val (.int (Int32.ofNat ii)), .val (.int (own_stp cs n (own_stp cs n (Int32.ofNat ii))))] [(.int (own_stp cs n (own_stp cs n (Int32.ofNat ii)))), (.int (Int32.ofNat n)), (.ref b)]))
 obtain ⟨_, _, ⟨T3, L3, k3, n3⟩, -, X3, ⟨Lc3, hQ3, l3, y3, z3⟩, st3⟩ := Jvm.LawKit.callS X2 hx (y := (⟨"com/example/warrant/warrant/messages/ExpressionParserEndsPinLaw", "step", "([CII)I"⟩ : MethodName)) hown (mvT hZ (hw48 hw)) (mvT hZ (hw49 hw)) (mvT hZ (hw3 hw)) (mvT hZ (hw50 hw)) (by decide) (backOf (W := 0) (rm_stp l Z a0 hw [] b kc cs n (own_stp cs n (own_stp cs n (Int32.ofNat ii))) h0 n0 Z0 P0 hn (own_sk hn hl (own_sk hn hl (Or.inr ⟨ii, hi, rfl⟩)))) hZ (hw50 hw) (hw3 hw) (by decide) (by decide)) (g := (mkF m 19 #[.val (.ref b), .val (.int (Int32.ofNat n)), .val (.int (Int32.ofNat ii)), .val (.int (own_stp cs n (own_stp cs n (Int32.ofNat ii))))] [(.int (own_stp cs n (own_stp cs n (Int32.ofNat ii)))), (.int (Int32.ofNat n)), (.ref b)])) rfl (by rw [hml]; rfl) (argsL := [(.ref b), (.int (Int32.ofNat n)), (.int (own_stp cs n (own_stp cs n (Int32.ofNat ii))))]) (rest := []) (lenOf pd_2 rfl) rfl (by show 2 * 0 + _ ≤ _; exact Nat.le_of_eq rfl) (hb hby d9_19) (fun _ _ => ⟨rfl, K2, (by decide : 0 + 0 ≤ _), (by decide : 0 + 0 ≤ _)⟩)
 dsimp only [Pt.U, Pt.locs, Pt.cells, Pt.slots] at X3 l3 y3 z3 st3 hQ3
 subst l3 y3 z3
 obtain ⟨rfl, N3q, K3⟩ := hQ3
 have N3 := Fr.app N2 N3q
 refine Goes.st st3 ?_
 show Goes _ _ _ _ (T3.setTop (mkF m 22 #[.val (.ref b), .val (.int (Int32.ofNat n)), .val (.int (Int32.ofNat ii)), .val (.int (own_stp cs n (own_stp cs n (Int32.ofNat ii))))] [(.int (own_stp cs n (own_stp cs n (own_stp cs n (Int32.ofNat ii)))))]))
 refine Goes.st (fun sT kT => XS.istoreN X3.here hx rfl (hb hby d9_22) rfl (l' := #[.val (.ref b), .val (.int (Int32.ofNat n)), .val (.int (Int32.ofNat ii)), .val (.int (own_stp cs n (own_stp cs n (own_stp cs n (Int32.ofNat ii)))))]) rfl kT) ?_
 show Goes _ _ _ _ (T3.setTop (mkF m 23 #[.val (.ref b), .val (.int (Int32.ofNat n)), .val (.int (Int32.ofNat ii)), .val (.int (own_stp cs n (own_stp cs n (own_stp cs n (Int32.ofNat ii)))))] []))
 refine Goes.st (fun sT kT => XS.aloadN X3.here hx rfl (hb hby d9_23) rfl rfl kT) ?_
 show Goes _ _ _ _ (T3.setTop (mkF m 24 #[.val (.ref b), .val (.int (Int32.ofNat n)), .val (.int (Int32.ofNat ii)), .val (.int (own_stp cs n (own_stp cs n (own_stp cs n (Int32.ofNat ii)))))] [(.ref b)]))
 refine Goes.st (fun sT kT => XS.iloadN X3.here hx rfl (hb hby d9_24) rfl kT) ?_
 show Goes _ _ _ _ (T3.setTop (mkF m 25 #[.val (.ref b), .val (.int (Int32.ofNat n)), .val (.int (Int32.ofNat ii)), .val (.int (own_stp cs n (own_stp cs n (own_stp cs n (Int32.ofNat ii)))))] [(.int (Int32.ofNat n)), (.ref b)]))
 refine Goes.st (fun sT kT => XS.iloadN X3.here hx rfl (hb hby d9_25) rfl kT) ?_
 show Goes _ _ _ _ (T3.setTop (mkF m 26 #[.val (.ref b), .val (.int (Int32.ofNat n)), .val (.int (Int32.ofNat ii)), .val (.int (own_stp cs n (own_stp cs n (own_stp cs n (Int32.ofNat ii)))))] [(.int (own_stp cs n (own_stp cs n (own_stp cs n (Int32.ofNat ii))))), (.int (Int32.ofNat n)), (.ref b)]))
 obtain ⟨_, _, ⟨T4, L4, k4, n4⟩, -, X4, ⟨Lc4, hQ4, l4, y4, z4⟩, st4⟩ := Jvm.LawKit.callS X3 hx (y := (⟨"com/example/warrant/warrant/messages/ExpressionParserEndsPinLaw", "step", "([CII)I"⟩ : MethodName)) hown (mvT hZ (hw48 hw)) (mvT hZ (hw49 hw)) (mvT hZ (hw3 hw)) (mvT hZ (hw50 hw)) (by decide) (backOf (W := 0) (rm_stp l Z a0 hw [] b kc cs n (own_stp cs n (own_stp cs n (own_stp cs n (Int32.ofNat ii)))) h0 n0 Z0 P0 hn (own_sk hn hl (own_sk hn hl (own_sk hn hl (Or.inr ⟨ii, hi, rfl⟩))))) hZ (hw50 hw) (hw3 hw) (by decide) (by decide)) (g := (mkF m 26 #[.val (.ref b), .val (.int (Int32.ofNat n)), .val (.int (Int32.ofNat ii)), .val (.int (own_stp cs n (own_stp cs n (own_stp cs n (Int32.ofNat ii)))))] [(.int (own_stp cs n (own_stp cs n (own_stp cs n (Int32.ofNat ii))))), (.int (Int32.ofNat n)), (.ref b)])) rfl (by rw [hml]; rfl) (argsL := [(.ref b), (.int (Int32.ofNat n)), (.int (own_stp cs n (own_stp cs n (own_stp cs n (Int32.ofNat ii)))))]) (rest := []) (lenOf pd_2 rfl) rfl (by show 2 * 0 + _ ≤ _; exact Nat.le_of_eq rfl) (hb hby d9_26) (fun _ _ => ⟨rfl, K3, (by decide : 0 + 0 ≤ _), (by decide : 0 + 0 ≤ _)⟩)
 dsimp only [Pt.U, Pt.locs, Pt.cells, Pt.slots] at X4 l4 y4 z4 st4 hQ4
 subst l4 y4 z4
 obtain ⟨rfl, N4q, K4⟩ := hQ4
 have N4 := Fr.app N3 N4q
 refine Goes.st st4 ?_
 show Goes _ _ _ _ (T4.setTop (mkF m 29 #[.val (.ref b), .val (.int (Int32.ofNat n)), .val (.int (Int32.ofNat ii)), .val (.int (own_stp cs n (own_stp cs n (own_stp cs n (Int32.ofNat ii)))))] [(.int (own_stp cs n (own_stp cs n (own_stp cs n (own_stp cs n (Int32.ofNat ii))))))]))
 refine Goes.st (fun sT kT => XS.istoreN X4.here hx rfl (hb hby d9_29) rfl (l' := #[.val (.ref b), .val (.int (Int32.ofNat n)), .val (.int (Int32.ofNat ii)), .val (.int (own_stp cs n (own_stp cs n (own_stp cs n (own_stp cs n (Int32.ofNat ii))))))]) rfl kT) ?_
 show Goes _ _ _ _ (T4.setTop (mkF m 30 #[.val (.ref b), .val (.int (Int32.ofNat n)), .val (.int (Int32.ofNat ii)), .val (.int (own_stp cs n (own_stp cs n (own_stp cs n (own_stp cs n (Int32.ofNat ii))))))] []))
 refine Goes.st (fun sT kT => XS.aloadN X4.here hx rfl (hb hby d9_30) rfl rfl kT) ?_
 show Goes _ _ _ _ (T4.setTop (mkF m 31 #[.val (.ref b), .val (.int (Int32.ofNat n)), .val (.int (Int32.ofNat ii)), .val (.int (own_stp cs n (own_stp cs n (own_stp cs n (own_stp cs n (Int32.ofNat ii))))))] [(.ref b)]))
 refine Goes.st (fun sT kT => XS.iloadN X4.here hx rfl (hb hby d9_31) rfl kT) ?_
 show Goes _ _ _ _ (T4.setTop (mkF m 32 #[.val (.ref b), .val (.int (Int32.ofNat n)), .val (.int (Int32.ofNat ii)), .val (.int (own_stp cs n (own_stp cs n (own_stp cs n (own_stp cs n (Int32.ofNat ii))))))] [(.int (Int32.ofNat n)), (.ref b)]))
 refine Goes.st (fun sT kT => XS.iloadN X4.here hx rfl (hb hby d9_32) rfl kT) ?_
 show Goes _ _ _ _ (T4.setTop (mkF m 33 #[.val (.ref b), .val (.int (Int32.ofNat n)), .val (.int (Int32.ofNat ii)), .val (.int (own_stp cs n (own_stp cs n (own_stp cs n (own_stp cs n (Int32.ofNat ii))))))] [(.int (own_stp cs n (own_stp cs n (own_stp cs n (own_stp cs n (Int32.ofNat ii)))))), (.int (Int32.ofNat n)), (.ref b)]))
 obtain ⟨_, _, ⟨T5, L5, k5, n5⟩, -, X5, ⟨Lc5, hQ5, l5, y5, z5⟩, st5⟩ := Jvm.LawKit.callS X4 hx (y := (⟨"com/example/warrant/warrant/messages/ExpressionParserEndsPinLaw", "step", "([CII)I"⟩ : MethodName)) hown (mvT hZ (hw48 hw)) (mvT hZ (hw49 hw)) (mvT hZ (hw3 hw)) (mvT hZ (hw50 hw)) (by decide) (backOf (W := 0) (rm_stp l Z a0 hw [] b kc cs n (own_stp cs n (own_stp cs n (own_stp cs n (own_stp cs n (Int32.ofNat ii))))) h0 n0 Z0 P0 hn (own_sk hn hl (own_sk hn hl (own_sk hn hl (own_sk hn hl (Or.inr ⟨ii, hi, rfl⟩)))))) hZ (hw50 hw) (hw3 hw) (by decide) (by decide)) (g := (mkF m 33 #[.val (.ref b), .val (.int (Int32.ofNat n)), .val (.int (Int32.ofNat ii)), .val (.int (own_stp cs n (own_stp cs n (own_stp cs n (own_stp cs n (Int32.ofNat ii))))))] [(.int (own_stp cs n (own_stp cs n (own_stp cs n (own_stp cs n (Int32.ofNat ii)))))), (.int (Int32.ofNat n)), (.ref b)])) rfl (by rw [hml]; rfl) (argsL := [(.ref b), (.int (Int32.ofNat n)), (.int (own_stp cs n (own_stp cs n (own_stp cs n (own_stp cs n (Int32.ofNat ii))))))]) (rest := []) (lenOf pd_2 rfl) rfl (by show 2 * 0 + _ ≤ _; exact Nat.le_of_eq rfl) (hb hby d9_33) (fun _ _ => ⟨rfl, K4, (by decide : 0 + 0 ≤ _), (by decide : 0 + 0 ≤ _)⟩)
 dsimp only [Pt.U, Pt.locs, Pt.cells, Pt.slots] at X5 l5 y5 z5 st5 hQ5
 subst l5 y5 z5
 obtain ⟨rfl, N5q, K5⟩ := hQ5
 have N5 := Fr.app N4 N5q
 refine Goes.st st5 ?_
 show Goes _ _ _ _ (T5.setTop (mkF m 36 #[.val (.ref b), .val (.int (Int32.ofNat n)), .val (.int (Int32.ofNat ii)), .val (.int (own_stp cs n (own_stp cs n (own_stp cs n (own_stp cs n (Int32.ofNat ii))))))] [(.int (own_stp cs n (own_stp cs n (own_stp cs n (own_stp cs n (own_stp cs n (Int32.ofNat ii)))))))]))
 refine Goes.st (fun sT kT => XS.istoreN X5.here hx rfl (hb hby d9_36) rfl (l' := #[.val (.ref b), .val (.int (Int32.ofNat n)), .val (.int (Int32.ofNat ii)), .val (.int (own_stp cs n (own_stp cs n (own_stp cs n (own_stp cs n (own_stp cs n (Int32.ofNat ii)))))))]) rfl kT) ?_
 show Goes _ _ _ _ (T5.setTop (mkF m 37 #[.val (.ref b), .val (.int (Int32.ofNat n)), .val (.int (Int32.ofNat ii)), .val (.int (own_stp cs n (own_stp cs n (own_stp cs n (own_stp cs n (own_stp cs n (Int32.ofNat ii)))))))] []))
 refine Goes.st (fun sT kT => XS.aloadN X5.here hx rfl (hb hby d9_37) rfl rfl kT) ?_
 show Goes _ _ _ _ (T5.setTop (mkF m 38 #[.val (.ref b), .val (.int (Int32.ofNat n)), .val (.int (Int32.ofNat ii)), .val (.int (own_stp cs n (own_stp cs n (own_stp cs n (own_stp cs n (own_stp cs n (Int32.ofNat ii)))))))] [(.ref b)]))
 refine Goes.st (fun sT kT => XS.iloadN X5.here hx rfl (hb hby d9_38) rfl kT) ?_
 show Goes _ _ _ _ (T5.setTop (mkF m 39 #[.val (.ref b), .val (.int (Int32.ofNat n)), .val (.int (Int32.ofNat ii)), .val (.int (own_stp cs n (own_stp cs n (own_stp cs n (own_stp cs n (own_stp cs n (Int32.ofNat ii)))))))] [(.int (Int32.ofNat n)), (.ref b)]))
 refine Goes.st (fun sT kT => XS.iloadN X5.here hx rfl (hb hby d9_39) rfl kT) ?_
 show Goes _ _ _ _ (T5.setTop (mkF m 40 #[.val (.ref b), .val (.int (Int32.ofNat n)), .val (.int (Int32.ofNat ii)), .val (.int (own_stp cs n (own_stp cs n (own_stp cs n (own_stp cs n (own_stp cs n (Int32.ofNat ii)))))))] [(.int (own_stp cs n (own_stp cs n (own_stp cs n (own_stp cs n (own_stp cs n (Int32.ofNat ii))))))), (.int (Int32.ofNat n)), (.ref b)]))
 obtain ⟨_, _, ⟨T6, L6, k6, n6⟩, -, X6, ⟨Lc6, hQ6, l6, y6, z6⟩, st6⟩ := Jvm.LawKit.callS X5 hx (y := (⟨"com/example/warrant/warrant/messages/ExpressionParserEndsPinLaw", "step", "([CII)I"⟩ : MethodName)) hown (mvT hZ (hw48 hw)) (mvT hZ (hw49 hw)) (mvT hZ (hw3 hw)) (mvT hZ (hw50 hw)) (by decide) (backOf (W := 0) (rm_stp l Z a0 hw [] b kc cs n (own_stp cs n (own_stp cs n (own_stp cs n (own_stp cs n (own_stp cs n (Int32.ofNat ii)))))) h0 n0 Z0 P0 hn (own_sk hn hl (own_sk hn hl (own_sk hn hl (own_sk hn hl (own_sk hn hl (Or.inr ⟨ii, hi, rfl⟩))))))) hZ (hw50 hw) (hw3 hw) (by decide) (by decide)) (g := (mkF m 40 #[.val (.ref b), .val (.int (Int32.ofNat n)), .val (.int (Int32.ofNat ii)), .val (.int (own_stp cs n (own_stp cs n (own_stp cs n (own_stp cs n (own_stp cs n (Int32.ofNat ii)))))))] [(.int (own_stp cs n (own_stp cs n (own_stp cs n (own_stp cs n (own_stp cs n (Int32.ofNat ii))))))), (.int (Int32.ofNat n)), (.ref b)])) rfl (by rw [hml]; rfl) (argsL := [(.ref b), (.int (Int32.ofNat n)), (.int (own_stp cs n (own_stp cs n (own_stp cs n (own_stp cs n (own_stp cs n (Int32.ofNat ii)))))))]) (rest := []) (lenOf pd_2 rfl) rfl (by show 2 * 0 + _ ≤ _; exact Nat.le_of_eq rfl) (hb hby d9_40) (fun _ _ => ⟨rfl, K5, (by decide : 0 + 0 ≤ _), (by decide : 0 + 0 ≤ _)⟩)
 dsimp only [Pt.U, Pt.locs, Pt.cells, Pt.slots] at X6 l6 y6 z6 st6 hQ6
 subst l6 y6 z6
 obtain ⟨rfl, N6q, K6⟩ := hQ6
 have N6 := Fr.app N5 N6q
 refine Goes.st st6 ?_
 show Goes _ _ _ _ (T6.setTop (mkF m 43 #[.val (.ref b), .val (.int (Int32.ofNat n)), .val (.int (Int32.ofNat ii)), .val (.int (own_stp cs n (own_stp cs n (own_stp cs n (own_stp cs n (own_stp cs n (Int32.ofNat ii)))))))] [(.int (own_stp cs n (own_stp cs n (own_stp cs n (own_stp cs n (own_stp cs n (own_stp cs n (Int32.ofNat ii))))))))]))
 refine Goes.st (fun sT kT => XS.istoreN X6.here hx rfl (hb hby d9_43) rfl (l' := #[.val (.ref b), .val (.int (Int32.ofNat n)), .val (.int (Int32.ofNat ii)), .val (.int (own_stp cs n (own_stp cs n (own_stp cs n (own_stp cs n (own_stp cs n (own_stp cs n (Int32.ofNat ii))))))))]) rfl kT) ?_
 show Goes _ _ _ _ (T6.setTop (mkF m 44 #[.val (.ref b), .val (.int (Int32.ofNat n)), .val (.int (Int32.ofNat ii)), .val (.int (own_stp cs n (own_stp cs n (own_stp cs n (own_stp cs n (own_stp cs n (own_stp cs n (Int32.ofNat ii))))))))] []))
 show Goes _ _ _ _ (T6.setTop (mkF m 44 #[.val (.ref b), .val (.int (Int32.ofNat n)), .val (.int (Int32.ofNat ii)), .val (.int (own_s6 cs n (Int32.ofNat ii)))] []))
 obtain ⟨z6, hz6⟩ : ∃ z, z = own_s6 cs n (Int32.ofNat ii) := ⟨_, rfl⟩
 rw [← hz6]
 show Goes _ _ _ _ (T6.setTop (mkF m 44 #[.val (.ref b), .val (.int (Int32.ofNat n)), .val (.int (Int32.ofNat ii)), .val (.int z6)] []))
 refine Goes.st (fun sT kT => XS.iloadN X6.here hx rfl (hb hby d9_44) rfl kT) ?_
 show Goes _ _ _ _ (T6.setTop (mkF m 45 #[.val (.ref b), .val (.int (Int32.ofNat n)), .val (.int (Int32.ofNat ii)), .val (.int z6)] [(.int z6)]))
 refine Goes.st (fun sT kT => XS.iconst X6.here hx rfl (hb hby d9_45) kT) ?_
 show Goes _ _ _ _ (T6.setTop (mkF m 46 #[.val (.ref b), .val (.int (Int32.ofNat n)), .val (.int (Int32.ofNat ii)), .val (.int z6)] [(.int (-1 : Int32)), (.int z6)]))
 by_cases cz7 : z6 < (-1 : Int32)
 case pos =>
  refine Goes.st (fun sT kT => XS.icmpNo X6.here hx rfl (hb hby d9_46) rfl (tlt cz7).2.1 kT) ?_
  show Goes _ _ _ _ (T6.setTop (mkF m 49 #[.val (.ref b), .val (.int (Int32.ofNat n)), .val (.int (Int32.ofNat ii)), .val (.int z6)] []))
  refine Goes.st (fun sT kT => XS.iloadN X6.here hx rfl (hb hby d9_49) rfl kT) ?_
  show Goes _ _ _ _ (T6.setTop (mkF m 50 #[.val (.ref b), .val (.int (Int32.ofNat n)), .val (.int (Int32.ofNat ii)), .val (.int z6)] [(.int z6)]))
  refine Goes.st (fun sT kT => XS.ineg X6.here hx rfl (hb hby d9_50) rfl kT) ?_
  show Goes _ _ _ _ (T6.setTop (mkF m 51 #[.val (.ref b), .val (.int (Int32.ofNat n)), .val (.int (Int32.ofNat ii)), .val (.int z6)] [(.int (-z6))]))
  refine Goes.st (fun sT kT => XS.iconst X6.here hx rfl (hb hby d9_51) kT) ?_
  show Goes _ _ _ _ (T6.setTop (mkF m 52 #[.val (.ref b), .val (.int (Int32.ofNat n)), .val (.int (Int32.ofNat ii)), .val (.int z6)] [(.int (2 : Int32)), (.int (-z6))]))
  refine Goes.st (fun sT kT => XS.isub X6.here hx rfl (hb hby d9_52) rfl kT) ?_
  show Goes _ _ _ _ (T6.setTop (mkF m 53 #[.val (.ref b), .val (.int (Int32.ofNat n)), .val (.int (Int32.ofNat ii)), .val (.int z6)] [(.int ((-z6) - (2 : Int32)))]))
  refine Goes.st (fun sT kT => XS.goto X6.here hx rfl (pc0 := 53) (pc' := 57) rfl (hb hby d9_53) (by decide) (by decide) kT) ?_
  show Goes _ _ _ _ (T6.setTop (mkF m 57 #[.val (.ref b), .val (.int (Int32.ofNat n)), .val (.int (Int32.ofNat ii)), .val (.int z6)] [(.int ((-z6) - (2 : Int32)))]))
  obtain ⟨fs, hr, hrun, hended, hW, hsame⟩ := X6.leave (v := some (.int ((-z6) - (2 : Int32)))) (fun h => by rw [Bd.returns] at h; cases h)
  subst hQQ
  refine ⟨_, _, retI X6 hx Bd.returns (hb hby d9_57) hr, hrun, hended, _, _, rfl, ?_, ⟨_, rfl⟩, hW, hsame.mono (by decide) (by decide)⟩
  show Q_refr Z b kc cs n ii h0 n0 _ T6.heap _
  rw [K6]
  exact ⟨(by rw [own_ref, ← hz6, if_pos cz7]), N6, rfl⟩
 case neg =>
  refine Goes.st (fun sT kT => XS.icmpYes X6.here hx rfl (pc0 := 46) (pc' := 56) rfl (hb hby d9_46) rfl (flt cz7).2.1 (by decide) (by decide) kT) ?_
  show Goes _ _ _ _ (T6.setTop (mkF m 56 #[.val (.ref b), .val (.int (Int32.ofNat n)), .val (.int (Int32.ofNat ii)), .val (.int z6)] []))
  refine Goes.st (fun sT kT => XS.iconst X6.here hx rfl (hb hby d9_56) kT) ?_
  show Goes _ _ _ _ (T6.setTop (mkF m 57 #[.val (.ref b), .val (.int (Int32.ofNat n)), .val (.int (Int32.ofNat ii)), .val (.int z6)] [(.int (-1 : Int32))]))
  obtain ⟨fs, hr, hrun, hended, hW, hsame⟩ := X6.leave (v := some (.int (-1 : Int32))) (fun h => by rw [Bd.returns] at h; cases h)
  subst hQQ
  refine ⟨_, _, retI X6 hx Bd.returns (hb hby d9_57) hr, hrun, hended, _, _, rfl, ?_, ⟨_, rfl⟩, hW, hsame.mono (by decide) (by decide)⟩
  show Q_refr Z b kc cs n ii h0 n0 _ T6.heap _
  rw [K6]
  exact ⟨(by rw [own_ref, ← hz6, if_neg cz7]), N6, rfl⟩
theorem ef_att (m : MethodId) (r : Addr) (kr : ClassId) (us : List Int32) (b : Addr) (kc : ClassId) (cs : List Int32) (n : Nat) (ii : Nat) : entryFrame m #[(.ref r), (.ref b), (.int (Int32.ofNat n)), (.int (Int32.ofNat ii))] 4 = (mkF m 0 #[.val (.ref r), .val (.ref b), .val (.int (Int32.ofNat n)), .val (.int (Int32.ofNat ii))] []) := by first | (simp [entryFrame, mkF, argsToLocals, Value.category]; done) | rfl
def Q_att (Z : State) (r : Addr) (kr : ClassId) (us : List Int32) (b : Addr) (kc : ClassId) (cs : List Int32) (n : Nat) (ii : Nat) (h0 : Heap) (n0 : Nat) (v : Option Value) (h : Heap) (L : List Loc) : Prop := v = some (.int (1 : Int32)) ∧ Fr n0 L ∧ h = h0
set_option maxRecDepth 65536 in
set_option maxHeartbeats 40000000 in
theorem rm_att (l : Launch) (Z : State) (a0 : Array Value) (hw : ∀ d ∈ tables_1, d.before a0 Z = true) (ws : List Jvm.Cond) (r : Addr) (kr : ClassId) (us : List Int32) (b : Addr) (kc : ClassId) (cs : List Int32) (n : Nat) (ii : Nat) (h0 : Heap) (n0 : Nat) (Z0 : n0 ≤ h0.size) (P0 : Arv Z h0 r kr .int (Int32.ofNat (n + 1)) (us.map Value.int) (.int (0 : Int32))) (P1 : Arv Z h0 b kc .char (5 : Int32) (cs.map Value.int) (.int (0 : Int32))) (hn : n ≤ 5) (hl : n ≤ cs.length) (hi : ii ≤ 5) (hat : ii ≤ n → us[ii]? = some (own_ref cs n ii)) :
    MetFree l (⟨"com/example/warrant/warrant/messages/ExpressionParserEndsPinLaw", "at", "([I[CII)Z"⟩ : MethodName) (head1 (Jvm.Cond.code (⟨"com/example/warrant/warrant/messages/ExpressionParserEndsPinLaw", "at", "([I[CII)Z"⟩ : MethodName) method_3_code 4 (some .boolean) :: ws) ({ frames := 4, cells := 0, slots := 0, locals := 100 } : Room)) (fun aR U => aR = #[(.ref r), (.ref b), (.int (Int32.ofNat n)), (.int (Int32.ofNat ii))] ∧ Z.Warmed39 U.vm ∧ U.heap = h0) (fun _ _ _ _ _ => True) (fun _ U o U' => ∃ v L, o = .returned v ∧ Q_att Z r kr us b kc cs n ii h0 n0 v U'.heap L ∧ FrameEnd U o U' L ({ frames := 4, cells := 0, slots := 0, locals := 100 } : Room).cells ({ frames := 4, cells := 0, slots := 0, locals := 100 } : Room).slots) := by
 refine MetFree.of_bodySF (plainFor_of_name pn_1) hisR ?_
 intro p e s m args below meth c s₁ Bd hml0 hP hK
 obtain ⟨rfl, hZ, hh⟩ := hP
 have hx := Bd.exec
 have hby := Bd.bytes
 have hml : c.maxLocals = 4 := hml0
 have hown : s.vm.findClass "com/example/warrant/warrant/messages/ExpressionParserEndsPinLaw" = some m.cls := findClass_of_methodNamed Bd.named
 have hnm := (name_of_methodNamed Bd.named Bd.method).1
 have X0 : Stand p l e ({ frames := 4, cells := 0, slots := 0, locals := 100 } : Room) s m #[(.ref r), (.ref b), (.int (Int32.ofNat n)), (.int (Int32.ofNat ii))] below meth c s₁ [] 0 0 := Stand.of_body Bd
 have e0 : s₁.heap = h0 := by rw [← hh, Bd.state]; rfl
 have N0 := Fr.nil n0
 show Goes p.tables e below _ _
 rw [ef_att m r kr us b kc cs n ii]
 refine Goes.named ?_
 intro QQ hQQ
 refine Goes.st (fun sT kT => XS.iloadN X0.here hx rfl (hb hby d8_0) rfl kT) ?_
 show Goes _ _ _ _ (s₁.setTop (mkF m 1 #[.val (.ref r), .val (.ref b), .val (.int (Int32.ofNat n)), .val (.int (Int32.ofNat ii))] [(.int (Int32.ofNat ii))]))
 refine Goes.st (fun sT kT => XS.iloadN X0.here hx rfl (hb hby d8_1) rfl kT) ?_
 show Goes _ _ _ _ (s₁.setTop (mkF m 2 #[.val (.ref r), .val (.ref b), .val (.int (Int32.ofNat n)), .val (.int (Int32.ofNat ii))] [(.int (Int32.ofNat n)), (.int (Int32.ofNat ii))]))
 by_cases cz1 : (Int32.ofNat n) < (Int32.ofNat ii)
 case pos =>
  refine Goes.st (fun sT kT => XS.icmpYes X0.here hx rfl (pc0 := 2) (pc' := 17) rfl (hb hby d8_2) rfl (tlt cz1).2.2.1 (by decide) (by decide) kT) ?_
  show Goes _ _ _ _ (s₁.setTop (mkF m 17 #[.val (.ref r), .val (.ref b), .val (.int (Int32.ofNat n)), .val (.int (Int32.ofNat ii))] []))
  refine Goes.st (fun sT kT => XS.iconst X0.here hx rfl (hb hby d8_17) kT) ?_
  show Goes _ _ _ _ (s₁.setTop (mkF m 18 #[.val (.ref r), .val (.ref b), .val (.int (Int32.ofNat n)), .val (.int (Int32.ofNat ii))] [(.int (1 : Int32))]))
  refine Goes.st (fun sT kT => XS.goto X0.here hx rfl (pc0 := 18) (pc' := 22) rfl (hb hby d8_18) (by decide) (by decide) kT) ?_
  show Goes _ _ _ _ (s₁.setTop (mkF m 22 #[.val (.ref r), .val (.ref b), .val (.int (Int32.ofNat n)), .val (.int (Int32.ofNat ii))] [(.int (1 : Int32))]))
  obtain ⟨fs, hr, hrun, hended, hW, hsame⟩ := X0.leave (v := some (.int (1 : Int32))) (fun h => by rw [Bd.returns] at h; cases h)
  subst hQQ
  refine ⟨_, _, retN X0 hx (t := .boolean) Bd.returns (by simp) (hb hby d8_22) hr, hrun, hended, _, _, rfl, ?_, ⟨_, rfl⟩, hW, hsame.mono (by decide) (by decide)⟩
  show Q_att Z r kr us b kc cs n ii h0 n0 _ s₁.heap _
  rw [e0]
  exact ⟨rfl, N0, rfl⟩
 case neg =>
  have hle : ii ≤ n := Nat.le_of_not_lt fun q => cz1 ((own_nlt (by omega) (by omega)).mpr q)
  refine Goes.st (fun sT kT => XS.icmpNo X0.here hx rfl (hb hby d8_2) rfl (flt cz1).2.2.1 kT) ?_
  show Goes _ _ _ _ (s₁.setTop (mkF m 5 #[.val (.ref r), .val (.ref b), .val (.int (Int32.ofNat n)), .val (.int (Int32.ofNat ii))] []))
  refine Goes.st (fun sT kT => XS.aloadN X0.here hx rfl (hb hby d8_5) rfl rfl kT) ?_
  show Goes _ _ _ _ (s₁.setTop (mkF m 6 #[.val (.ref r), .val (.ref b), .val (.int (Int32.ofNat n)), .val (.int (Int32.ofNat ii))] [(.ref r)]))
  refine Goes.st (fun sT kT => XS.iloadN X0.here hx rfl (hb hby d8_6) rfl kT) ?_
  show Goes _ _ _ _ (s₁.setTop (mkF m 7 #[.val (.ref r), .val (.ref b), .val (.int (Int32.ofNat n)), .val (.int (Int32.ofNat ii))] [(.int (Int32.ofNat ii)), (.ref r)]))
  obtain ⟨oc2, oA2, oq2, oS2, oM2, oH2, oG2⟩ := id P0
  refine Goes.st (fun sT kT => X0.iaload hx (j := (Int32.ofNat ii)) (v := (.int (own_ref cs n ii))) (by rw [e0]; exact oA2.1) (State.isArrayOf_alike hZ.alike oA2.2.1) oA2.2.2 (inb_of oS2 (own_ib (by omega) (by omega))) (oH2.at (inb_of oS2 (own_ib (by omega) (by omega))) (own_gs (by omega) (hat hle))) (g := (mkF m 7 #[.val (.ref r), .val (.ref b), .val (.int (Int32.ofNat n)), .val (.int (Int32.ofNat ii))] [(.int (Int32.ofNat ii)), (.ref r)])) rfl rfl (hb hby d8_7) _ kT) ?_
  show Goes _ _ _ _ (s₁.setTop (mkF m 8 #[.val (.ref r), .val (.ref b), .val (.int (Int32.ofNat n)), .val (.int (Int32.ofNat ii))] [(.int (own_ref cs n ii))]))
  refine Goes.st (fun sT kT => XS.aloadN X0.here hx rfl (hb hby d8_8) rfl rfl kT) ?_
  show Goes _ _ _ _ (s₁.setTop (mkF m 9 #[.val (.ref r), .val (.ref b), .val (.int (Int32.ofNat n)), .val (.int (Int32.ofNat ii))] [(.ref b), (.int (own_ref cs n ii))]))
  refine Goes.st (fun sT kT => XS.iloadN X0.here hx rfl (hb hby d8_9) rfl kT) ?_
  show Goes _ _ _ _ (s₁.setTop (mkF m 10 #[.val (.ref r), .val (.ref b), .val (.int (Int32.ofNat n)), .val (.int (Int32.ofNat ii))] [(.int (Int32.ofNat n)), (.ref b), (.int (own_ref cs n ii))]))
  refine Goes.st (fun sT kT => XS.iloadN X0.here hx rfl (hb hby d8_10) rfl kT) ?_
  show Goes _ _ _ _ (s₁.setTop (mkF m 11 #[.val (.ref r), .val (.ref b), .val (.int (Int32.ofNat n)), .val (.int (Int32.ofNat ii))] [(.int (Int32.ofNat ii)), (.int (Int32.ofNat n)), (.ref b), (.int (own_ref cs n ii))]))
  obtain ⟨_, _, ⟨T3, L3, k3, n3⟩, -, X3, ⟨Lc3, hQ3, l3, y3, z3⟩, st3⟩ := Jvm.LawKit.callS X0 hx (y := (⟨"com/example/warrant/warrant/messages/ExpressionParserEndsPinLaw", "reference", "([CII)I"⟩ : MethodName)) hown (mvT hZ (hw45 hw)) (mvT hZ (hw46 hw)) (mvT hZ (hw3 hw)) (mvT hZ (hw47 hw)) (by decide) (backOf (W := 1) (rm_refr l Z a0 hw [] b kc cs n ii h0 n0 Z0 P1 hn hl hi) hZ (hw47 hw) (hw3 hw) (by decide) (by decide)) (g := (mkF m 11 #[.val (.ref r), .val (.ref b), .val (.int (Int32.ofNat n)), .val (.int (Int32.ofNat ii))] [(.int (Int32.ofNat ii)), (.int (Int32.ofNat n)), (.ref b), (.int (own_ref cs n ii))])) rfl (by rw [hml]; rfl) (argsL := [(.ref b), (.int (Int32.ofNat n)), (.int (Int32.ofNat ii))]) (rest := [(.int (own_ref cs n ii))]) (lenOf pd_2 rfl) rfl (by show 2 * 0 + _ ≤ _; exact Nat.le_of_eq rfl) (hb hby d8_11) (fun _ _ => ⟨rfl, e0, (by decide : 0 + 0 ≤ _), (by decide : 0 + 0 ≤ _)⟩)
  dsimp only [Pt.U, Pt.locs, Pt.cells, Pt.slots] at X3 l3 y3 z3 st3 hQ3
  subst l3 y3 z3
  obtain ⟨rfl, N3q, K3⟩ := hQ3
  have N3 := Fr.app N0 N3q
  refine Goes.st st3 ?_
  show Goes _ _ _ _ (T3.setTop (mkF m 14 #[.val (.ref r), .val (.ref b), .val (.int (Int32.ofNat n)), .val (.int (Int32.ofNat ii))] [(.int (own_ref cs n ii)), (.int (own_ref cs n ii))]))
  refine Goes.st (fun sT kT => XS.icmpNo X3.here hx rfl (hb hby d8_14) rfl (teq rfl).2 kT) ?_
  show Goes _ _ _ _ (T3.setTop (mkF m 17 #[.val (.ref r), .val (.ref b), .val (.int (Int32.ofNat n)), .val (.int (Int32.ofNat ii))] []))
  refine Goes.st (fun sT kT => XS.iconst X3.here hx rfl (hb hby d8_17) kT) ?_
  show Goes _ _ _ _ (T3.setTop (mkF m 18 #[.val (.ref r), .val (.ref b), .val (.int (Int32.ofNat n)), .val (.int (Int32.ofNat ii))] [(.int (1 : Int32))]))
  refine Goes.st (fun sT kT => XS.goto X3.here hx rfl (pc0 := 18) (pc' := 22) rfl (hb hby d8_18) (by decide) (by decide) kT) ?_
  show Goes _ _ _ _ (T3.setTop (mkF m 22 #[.val (.ref r), .val (.ref b), .val (.int (Int32.ofNat n)), .val (.int (Int32.ofNat ii))] [(.int (1 : Int32))]))
  obtain ⟨fs, hr, hrun, hended, hW, hsame⟩ := X3.leave (v := some (.int (1 : Int32))) (fun h => by rw [Bd.returns] at h; cases h)
  subst hQQ
  refine ⟨_, _, retN X3 hx (t := .boolean) Bd.returns (by simp) (hb hby d8_22) hr, hrun, hended, _, _, rfl, ?_, ⟨_, rfl⟩, hW, hsame.mono (by decide) (by decide)⟩
  show Q_att Z r kr us b kc cs n ii h0 n0 _ T3.heap _
  rw [K3]
  exact ⟨rfl, N3, rfl⟩
theorem ef_ends (m : MethodId) (a : Addr) (t : Addr) (kb : ClassId) (cs : List Int32) (G1 : Int32) (vF : Value) : entryFrame m #[(.ref a)] 10 = (mkF m 0 #[.val (.ref a), uS, uS, uS, uS, uS, uS, uS, uS, uS] []) := by first | (simp [entryFrame, mkF, argsToLocals, Value.category]; done) | rfl
def Q_ends (Z : State) (a : Addr) (t : Addr) (kb : ClassId) (cs : List Int32) (G1 : Int32) (vF : Value) (h0 : Heap) (n0 : Nat) (v : Option Value) (h : Heap) (L : List Loc) : Prop := ∃ (r : Addr) (kr : ClassId) (us : List Int32), v = some (.ref r) ∧ Fr n0 L ∧ Keep h0 h [] ∧ Arv Z h r kr .int (Int32.ofNat (cs.length + 1)) (us.map Value.int) (.int (0 : Int32)) ∧ h0.size ≤ r ∧ (∀ j, j ≤ cs.length → us[j]? = some (own_E cs j))
set_option maxRecDepth 65536 in
set_option maxHeartbeats 40000000 in
theorem rm_ends (l : Launch) (Z : State) (a0 : Array Value) (hw : ∀ d ∈ tables_1, d.before a0 Z = true) (ws : List Jvm.Cond) (a : Addr) (t : Addr) (kb : ClassId) (cs : List Int32) (G1 : Int32) (vF : Value) (h0 : Heap) (n0 : Nat) (Z0 : n0 ≤ h0.size) (P0 : Str Z h0 a t kb cs) (P1 : Old Z n0 h0) (O2 : Sta Z Z.heap "java/lang/String" "COMPACT_STRINGS" "Z" (.int G1)) (P5 : ¬ (G1 = (0 : Int32))) (OF : Sta Z Z.heap "jdk/internal/util/Preconditions" "SIOOBE_FORMATTER" "Ljava/util/function/BiFunction;" vF) (rF : vF.isRef = true) (h5 : cs.length ≤ 5) :
    MetFree l (⟨"com/example/warrant/warrant/messages/ExpressionParser", "ends", "(Ljava/lang/String;)[I"⟩ : MethodName) (head1 (Jvm.Cond.code (⟨"com/example/warrant/warrant/messages/ExpressionParser", "ends", "(Ljava/lang/String;)[I"⟩ : MethodName) prog_7_method_3_code 10 (some (.array .int)) :: ws) ({ frames := 4, cells := 1, slots := 6, locals := 70 } : Room)) (fun aR U => aR = #[(.ref a)] ∧ Z.Warmed39 U.vm ∧ U.heap = h0) (fun _ _ _ _ _ => True) (fun _ U o U' => ∃ v L, o = .returned v ∧ Q_ends Z a t kb cs G1 vF h0 n0 v U'.heap L ∧ FrameEnd U o U' L ({ frames := 4, cells := 1, slots := 6, locals := 70 } : Room).cells ({ frames := 4, cells := 1, slots := 6, locals := 70 } : Room).slots) := by
 refine MetFree.of_bodySF (plainFor_of_name pn_2) hisR ?_
 intro p e s m args below meth c s₁ Bd hml0 hP hK
 obtain ⟨rfl, hZ, hh⟩ := hP
 have hx := Bd.exec
 have hby := Bd.bytes
 have hml : c.maxLocals = 10 := hml0
 have hown : s.vm.findClass "com/example/warrant/warrant/messages/ExpressionParser" = some m.cls := findClass_of_methodNamed Bd.named
 have hnm := (name_of_methodNamed Bd.named Bd.method).1
 have X0 : Stand p l e ({ frames := 4, cells := 1, slots := 6, locals := 70 } : Room) s m #[(.ref a)] below meth c s₁ [] 0 0 := Stand.of_body Bd
 have e0 : s₁.heap = h0 := by rw [← hh, Bd.state]; rfl
 have N0 := Fr.nil n0
 show Goes p.tables e below _ _
 rw [ef_ends m a t kb cs G1 vF]
 refine Goes.named ?_
 intro QQ hQQ
 refine Goes.st (fun sT kT => XS.aloadN X0.here hx rfl (hb hby d5_0) rfl rfl kT) ?_
 show Goes _ _ _ _ (s₁.setTop (mkF m 1 #[.val (.ref a), uS, uS, uS, uS, uS, uS, uS, uS, uS] [(.ref a)]))
 obtain ⟨cq1, kq1, q1a, q1b, q1c⟩ := isOf hZ e0 P0.1
 obtain ⟨_, _, ⟨T1, L1, k1, n1⟩, -, X1, ⟨Lc1, hQ1, l1, y1, z1⟩, st1⟩ := X0.virtualBack hx (y := (⟨"java/lang/String", "length", "()I"⟩ : MethodName)) (z := (⟨"java/lang/String", "length", "()I"⟩ : MethodName)) hown (mvT hZ (hw30 hw)) (mvT hZ (hw31 hw)) (notFace_of_selects (args := #[]) (mvT hZ (hw33 hw))) (mvT hZ (hw33 hw)) (mvT hZ (hw32 hw)) (by decide) (StrChars.Road.lenW (W := 0) hZ (own_hln hw) (kI := 4) (hw6 hw) P0.1 P0.2.1 P0.2.2.1 P0.2.2.2.1 (own_cod P0) (own_up P0.2.2.2.2.1) (O2.ext P1.2) P5 P0.2.2.2.2.2 (by decide) (by decide)) q1a q1c (g := (mkF m 1 #[.val (.ref a), uS, uS, uS, uS, uS, uS, uS, uS, uS] [(.ref a)])) rfl (by rw [hml]; rfl) (Steps.refl _) (argsL := []) (rest := []) (lenOf pd_3 rfl) rfl (by show 2 * 0 + _ ≤ _; exact Nat.le_of_eq rfl) (hb hby d5_1) (fun _ _ => ⟨rfl, e0, (by decide : 0 + 0 ≤ _), (by decide : 0 + 0 ≤ _)⟩)
 dsimp only [Pt.U, Pt.locs, Pt.cells, Pt.slots] at X1 l1 y1 z1 st1 hQ1
 subst l1 y1 z1
 obtain ⟨rfl, rfl, K1⟩ := hQ1
 have N1 := Fr.app N0 (Fr.nil n0)
 refine Goes.tr st1 ?_
 show Goes _ _ _ _ (T1.setTop (mkF m 4 #[.val (.ref a), uS, uS, uS, uS, uS, uS, uS, uS, uS] [(.int (Int32.ofNat cs.length))]))
 refine Goes.st (fun sT kT => XS.iconst X1.here hx rfl (hb hby d5_4) kT) ?_
 show Goes _ _ _ _ (T1.setTop (mkF m 5 #[.val (.ref a), uS, uS, uS, uS, uS, uS, uS, uS, uS] [(.int (1 : Int32)), (.int (Int32.ofNat cs.length))]))
 refine Goes.st (fun sT kT => XS.iadd X1.here hx rfl (hb hby d5_5) rfl kT) ?_
 show Goes _ _ _ _ (T1.setTop (mkF m 6 #[.val (.ref a), uS, uS, uS, uS, uS, uS, uS, uS, uS] [(.int ((Int32.ofNat cs.length) + (1 : Int32)))]))
 rw [own_nadd1]
 show Goes _ _ _ _ (T1.setTop (mkF m 6 #[.val (.ref a), uS, uS, uS, uS, uS, uS, uS, uS, uS] [(.int (Int32.ofNat (cs.length + 1)))]))
 obtain ⟨T2, h2, k2, X2, e2, E2, A2, st2⟩ := newP X1 hx hZ (aty := .int) (hw41 hw) K1 (g := (mkF m 6 #[.val (.ref a), uS, uS, uS, uS, uS, uS, uS, uS, uS] [(.int (Int32.ofNat (cs.length + 1)))])) rfl (hb hby d5_6) rfl (own_nneg (by omega)) (cap := 6) (by rw [own_nclamp (by omega)]; omega) (by decide) (by decide) (by decide)
 obtain ⟨b2, g2⟩ : ∃ z, z = h0.size := ⟨_, rfl⟩
 rw [← g2] at A2 st2
 have V2 : Arv Z h2 b2 k2 .int (Int32.ofNat (cs.length + 1)) [] (.int (0 : Int32)) := Arv.new A2 (own_nneg (by omega))
 refine Goes.st st2 ?_
 show Goes _ _ _ _ (T2.setTop (mkF m 8 #[.val (.ref a), uS, uS, uS, uS, uS, uS, uS, uS, uS] [(.ref b2)]))
 have Vp : Arv Z h2 b2 k2 .int (Int32.ofNat (cs.length + 1)) ((List.replicate (cs.length + 1) (0 : Int32)).map Value.int) (.int (0 : Int32)) := V2.pad (own_padr (cs.length + 1))
 refine Goes.st (fun sT kT => XS.astoreN X2.here hx rfl (hb hby d5_8) rfl rfl (l' := #[.val (.ref a), .val (.ref b2), uS, uS, uS, uS, uS, uS, uS, uS]) rfl kT) ?_
 show Goes _ _ _ _ (T2.setTop (mkF m 9 #[.val (.ref a), .val (.ref b2), uS, uS, uS, uS, uS, uS, uS, uS] []))
 refine Goes.st (fun sT kT => XS.aloadN X2.here hx rfl (hb hby d5_9) rfl rfl kT) ?_
 show Goes _ _ _ _ (T2.setTop (mkF m 10 #[.val (.ref a), .val (.ref b2), uS, uS, uS, uS, uS, uS, uS, uS] [(.ref b2)]))
 refine Goes.st (fun sT kT => XS.aloadN X2.here hx rfl (hb hby d5_10) rfl rfl kT) ?_
 show Goes _ _ _ _ (T2.setTop (mkF m 11 #[.val (.ref a), .val (.ref b2), uS, uS, uS, uS, uS, uS, uS, uS] [(.ref a), (.ref b2)]))
 have f4 : Str Z h2 a t kb cs := (P0.ext E2)
 have f5 : Old Z n0 h2 := (P1.ext E2)
 have f6 : Exa Z h2 a "java/lang/String" := (P0.1.ext E2)
 obtain ⟨cq3, kq3, q3a, q3b, q3c⟩ := isOf hZ e2 f6
 obtain ⟨_, _, ⟨T3, L3, k3, n3⟩, -, X3, ⟨Lc3, hQ3, l3, y3, z3⟩, st3⟩ := X2.virtualBack hx (y := (⟨"java/lang/String", "length", "()I"⟩ : MethodName)) (z := (⟨"java/lang/String", "length", "()I"⟩ : MethodName)) hown (mvT hZ (hw30 hw)) (mvT hZ (hw31 hw)) (notFace_of_selects (args := #[]) (mvT hZ (hw33 hw))) (mvT hZ (hw33 hw)) (mvT hZ (hw32 hw)) (by decide) (StrChars.Road.lenW (W := 1) hZ (own_hln hw) (kI := 4) (hw6 hw) f4.1 f4.2.1 f4.2.2.1 f4.2.2.2.1 (own_cod f4) (own_up f4.2.2.2.2.1) (O2.ext f5.2) P5 f4.2.2.2.2.2 (by decide) (by decide)) q3a q3c (g := (mkF m 11 #[.val (.ref a), .val (.ref b2), uS, uS, uS, uS, uS, uS, uS, uS] [(.ref a), (.ref b2)])) rfl (by rw [hml]; rfl) (Steps.refl _) (argsL := []) (rest := [(.ref b2)]) (lenOf pd_3 rfl) rfl (by show 2 * 0 + _ ≤ _; exact Nat.le_of_eq rfl) (hb hby d5_11) (fun _ _ => ⟨rfl, e2, (by decide : 1 + 0 ≤ _), (by decide : 6 + 0 ≤ _)⟩)
 dsimp only [Pt.U, Pt.locs, Pt.cells, Pt.slots] at X3 l3 y3 z3 st3 hQ3
 subst l3 y3 z3
 obtain ⟨rfl, rfl, K3⟩ := hQ3
 have N3 := Fr.app N1 (Fr.nil n0)
 refine Goes.tr st3 ?_
 show Goes _ _ _ _ (T3.setTop (mkF m 14 #[.val (.ref a), .val (.ref b2), uS, uS, uS, uS, uS, uS, uS, uS] [(.int (Int32.ofNat cs.length)), (.ref b2)]))
 refine Goes.st (fun sT kT => XS.iconst X3.here hx rfl (hb hby d5_14) kT) ?_
 show Goes _ _ _ _ (T3.setTop (mkF m 15 #[.val (.ref a), .val (.ref b2), uS, uS, uS, uS, uS, uS, uS, uS] [(.int (-1 : Int32)), (.int (Int32.ofNat cs.length)), (.ref b2)]))
 obtain ⟨oc7, oA7, oq7, oS7, oM7, oH7, oG7⟩ := id Vp
 obtain ⟨T8, h8, X8, e8, W8, st8⟩ := stI X3 hx hZ K3 oA7 (j := (Int32.ofNat cs.length)) (inb_of oS7 (own_ib (by omega) (by omega))) (g := (mkF m 15 #[.val (.ref a), .val (.ref b2), uS, uS, uS, uS, uS, uS, uS, uS] [(.int (-1 : Int32)), (.int (Int32.ofNat cs.length)), (.ref b2)])) rfl rfl (hb hby d5_15)
 have V8 : Arv Z h8 b2 k2 .int (Int32.ofNat (cs.length + 1)) (((List.replicate (cs.length + 1) (0 : Int32)).set cs.length (-1 : Int32)).map Value.int) (.int (0 : Int32)) := own_ms _ _ _ ▸ Arv.set oA7 oq7 oS7 oM7 oH7 oG7 rfl W8 (cs.length) (own_nclamp (by omega)) (by simp)
 have N8 := Fr.snoc X8 N3 (Nat.le_trans Z0 (Nat.le_of_eq g2.symm))
 refine Goes.st st8 ?_
 show Goes _ _ _ _ (T8.setTop (mkF m 16 #[.val (.ref a), .val (.ref b2), uS, uS, uS, uS, uS, uS, uS, uS] []))
 refine Goes.st (fun sT kT => XS.iconst X8.here hx rfl (hb hby d5_16) kT) ?_
 show Goes _ _ _ _ (T8.setTop (mkF m 17 #[.val (.ref a), .val (.ref b2), uS, uS, uS, uS, uS, uS, uS, uS] [(.int (-1 : Int32))]))
 refine Goes.st (fun sT kT => XS.istoreN X8.here hx rfl (hb hby d5_17) rfl (l' := #[.val (.ref a), .val (.ref b2), .val (.int (-1 : Int32)), uS, uS, uS, uS, uS, uS, uS]) rfl kT) ?_
 show Goes _ _ _ _ (T8.setTop (mkF m 18 #[.val (.ref a), .val (.ref b2), .val (.int (-1 : Int32)), uS, uS, uS, uS, uS, uS, uS] []))
 refine Goes.st (fun sT kT => XS.iconst X8.here hx rfl (hb hby d5_18) kT) ?_
 show Goes _ _ _ _ (T8.setTop (mkF m 19 #[.val (.ref a), .val (.ref b2), .val (.int (-1 : Int32)), uS, uS, uS, uS, uS, uS, uS] [(.int (-1 : Int32))]))
 refine Goes.st (fun sT kT => XS.istoreN X8.here hx rfl (hb hby d5_19) rfl (l' := #[.val (.ref a), .val (.ref b2), .val (.int (-1 : Int32)), .val (.int (-1 : Int32)), uS, uS, uS, uS, uS, uS]) rfl kT) ?_
 show Goes _ _ _ _ (T8.setTop (mkF m 20 #[.val (.ref a), .val (.ref b2), .val (.int (-1 : Int32)), .val (.int (-1 : Int32)), uS, uS, uS, uS, uS, uS] []))
 refine Goes.st (fun sT kT => XS.iconst X8.here hx rfl (hb hby d5_20) kT) ?_
 show Goes _ _ _ _ (T8.setTop (mkF m 21 #[.val (.ref a), .val (.ref b2), .val (.int (-1 : Int32)), .val (.int (-1 : Int32)), uS, uS, uS, uS, uS, uS] [(.int (-1 : Int32))]))
 refine Goes.st (fun sT kT => XS.istore X8.here hx rfl (hb hby d5_21) rfl (l' := #[.val (.ref a), .val (.ref b2), .val (.int (-1 : Int32)), .val (.int (-1 : Int32)), .val (.int (-1 : Int32)), uS, uS, uS, uS, uS]) rfl kT) ?_
 show Goes _ _ _ _ (T8.setTop (mkF m 23 #[.val (.ref a), .val (.ref b2), .val (.int (-1 : Int32)), .val (.int (-1 : Int32)), .val (.int (-1 : Int32)), uS, uS, uS, uS, uS] []))
 refine Goes.st (fun sT kT => XS.iconst X8.here hx rfl (hb hby d5_23) kT) ?_
 show Goes _ _ _ _ (T8.setTop (mkF m 24 #[.val (.ref a), .val (.ref b2), .val (.int (-1 : Int32)), .val (.int (-1 : Int32)), .val (.int (-1 : Int32)), uS, uS, uS, uS, uS] [(.int (-1 : Int32))]))
 refine Goes.st (fun sT kT => XS.istore X8.here hx rfl (hb hby d5_24) rfl (l' := #[.val (.ref a), .val (.ref b2), .val (.int (-1 : Int32)), .val (.int (-1 : Int32)), .val (.int (-1 : Int32)), .val (.int (-1 : Int32)), uS, uS, uS, uS]) rfl kT) ?_
 show Goes _ _ _ _ (T8.setTop (mkF m 26 #[.val (.ref a), .val (.ref b2), .val (.int (-1 : Int32)), .val (.int (-1 : Int32)), .val (.int (-1 : Int32)), .val (.int (-1 : Int32)), uS, uS, uS, uS] []))
 refine Goes.st (fun sT kT => XS.aloadN X8.here hx rfl (hb hby d5_26) rfl rfl kT) ?_
 show Goes _ _ _ _ (T8.setTop (mkF m 27 #[.val (.ref a), .val (.ref b2), .val (.int (-1 : Int32)), .val (.int (-1 : Int32)), .val (.int (-1 : Int32)), .val (.int (-1 : Int32)), uS, uS, uS, uS] [(.ref a)]))
 have f10 : Str Z h8 a t kb cs := (f4.other W8 (Nat.ne_of_lt (Nat.lt_of_lt_of_le P0.1.lt (Nat.le_of_eq g2.symm))) (Nat.ne_of_lt (Nat.lt_of_lt_of_le P0.ltT (Nat.le_of_eq g2.symm))))
 have f11 : Old Z n0 h8 := (f5.wr W8 (Nat.le_trans Z0 (Nat.le_of_eq g2.symm)))
 have f12 : Exa Z h8 a "java/lang/String" := (f6.wr W8)
 obtain ⟨cq9, kq9, q9a, q9b, q9c⟩ := isOf hZ e8 f12
 obtain ⟨_, _, ⟨T9, L9, k9, n9⟩, -, X9, ⟨Lc9, hQ9, l9, y9, z9⟩, st9⟩ := X8.virtualBack hx (y := (⟨"java/lang/String", "length", "()I"⟩ : MethodName)) (z := (⟨"java/lang/String", "length", "()I"⟩ : MethodName)) hown (mvT hZ (hw30 hw)) (mvT hZ (hw31 hw)) (notFace_of_selects (args := #[]) (mvT hZ (hw33 hw))) (mvT hZ (hw33 hw)) (mvT hZ (hw32 hw)) (by decide) (StrChars.Road.lenW (W := 0) hZ (own_hln hw) (kI := 4) (hw6 hw) f10.1 f10.2.1 f10.2.2.1 f10.2.2.2.1 (own_cod f10) (own_up f10.2.2.2.2.1) (O2.ext f11.2) P5 f10.2.2.2.2.2 (by decide) (by decide)) q9a q9c (g := (mkF m 27 #[.val (.ref a), .val (.ref b2), .val (.int (-1 : Int32)), .val (.int (-1 : Int32)), .val (.int (-1 : Int32)), .val (.int (-1 : Int32)), uS, uS, uS, uS] [(.ref a)])) rfl (by rw [hml]; rfl) (Steps.refl _) (argsL := []) (rest := []) (lenOf pd_3 rfl) rfl (by show 2 * 0 + _ ≤ _; exact Nat.le_of_eq rfl) (hb hby d5_27) (fun _ _ => ⟨rfl, e8, (by decide : 1 + 0 ≤ _), (by decide : 6 + 0 ≤ _)⟩)
 dsimp only [Pt.U, Pt.locs, Pt.cells, Pt.slots] at X9 l9 y9 z9 st9 hQ9
 subst l9 y9 z9
 obtain ⟨rfl, rfl, K9⟩ := hQ9
 have N9 := Fr.app N8 (Fr.nil n0)
 refine Goes.tr st9 ?_
 show Goes _ _ _ _ (T9.setTop (mkF m 30 #[.val (.ref a), .val (.ref b2), .val (.int (-1 : Int32)), .val (.int (-1 : Int32)), .val (.int (-1 : Int32)), .val (.int (-1 : Int32)), uS, uS, uS, uS] [(.int (Int32.ofNat cs.length))]))
 refine Goes.st (fun sT kT => XS.iconst X9.here hx rfl (hb hby d5_30) kT) ?_
 show Goes _ _ _ _ (T9.setTop (mkF m 31 #[.val (.ref a), .val (.ref b2), .val (.int (-1 : Int32)), .val (.int (-1 : Int32)), .val (.int (-1 : Int32)), .val (.int (-1 : Int32)), uS, uS, uS, uS] [(.int (1 : Int32)), (.int (Int32.ofNat cs.length))]))
 refine Goes.st (fun sT kT => XS.isub X9.here hx rfl (hb hby d5_31) rfl kT) ?_
 show Goes _ _ _ _ (T9.setTop (mkF m 32 #[.val (.ref a), .val (.ref b2), .val (.int (-1 : Int32)), .val (.int (-1 : Int32)), .val (.int (-1 : Int32)), .val (.int (-1 : Int32)), uS, uS, uS, uS] [(.int ((Int32.ofNat cs.length) - (1 : Int32)))]))
 refine Goes.st (fun sT kT => XS.istore X9.here hx rfl (hb hby d5_32) rfl (l' := #[.val (.ref a), .val (.ref b2), .val (.int (-1 : Int32)), .val (.int (-1 : Int32)), .val (.int (-1 : Int32)), .val (.int (-1 : Int32)), .val (.int ((Int32.ofNat cs.length) - (1 : Int32))), uS, uS, uS]) rfl kT) ?_
 show Goes _ _ _ _ (T9.setTop (mkF m 34 #[.val (.ref a), .val (.ref b2), .val (.int (-1 : Int32)), .val (.int (-1 : Int32)), .val (.int (-1 : Int32)), .val (.int (-1 : Int32)), .val (.int ((Int32.ofNat cs.length) - (1 : Int32))), uS, uS, uS] []))
 have Jjl : ∀ (i : Nat) (Tjl : State) (hjl : Heap) (Ljl : List Loc) (r : Addr) (kr : ClassId) (us : List Int32) (ix : Int32) (qa : Int32) (qb : Int32) (qc : Int32) (qd : Int32) (l7 : Slot) (l8 : Slot) (l9 : Slot), Stand p l e ({ frames := 4, cells := 1, slots := 6, locals := 70 } : Room) s m #[(.ref a)] below meth c Tjl Ljl 1 6 → Tjl.heap = hjl → Fr n0 Ljl → n0 ≤ hjl.size → Keep h0 hjl [] → n0 ≤ r → h0.size ≤ r → Arv Z hjl r kr .int (Int32.ofNat (cs.length + 1)) (us.map Value.int) (.int (0 : Int32)) → Str Z hjl a t kb cs → Old Z n0 hjl → a ≠ r → t ≠ r → ix = Int32.ofNat i - 1 → i ≤ cs.length → us.length = cs.length + 1 → (∀ j, i ≤ j → j ≤ cs.length → us[j]? = some (own_E cs j)) → qa = own_N cs 39 i → qb = own_N cs 39 (i + 1) → qc = own_N cs 34 i → qd = own_N cs 34 (i + 1) → (l7 = .unset ∨ ∃ w, l7 = .val w ∧ w.category = 1) → (l8 = .unset ∨ ∃ w, l8 = .val w ∧ w.category = 1) → (l9 = .unset ∨ ∃ w, l9 = .val w ∧ w.category = 1) → Goes p.tables e below QQ (Tjl.setTop (mkF m 34 #[.val (.ref a), .val (.ref r), .val (.int qa), .val (.int qb), .val (.int qc), .val (.int qd), .val (.int ix), l7, l8, l9] [])) := by
  intro i
  induction i with
  | zero =>
   intro Tjl hjl Ljl r kr us ix qa qb qc qd l7 l8 l9 Xjl ejl Njl Zjl Kjl n0jl_r l0jl_r Pjl_0 Pjl_1 Pjl_2 nejl_0 nejl_1 hix hile hlen hvs hqa hqb hqc hqd hl7 hl8 hl9
   show Goes _ _ _ _ (Tjl.setTop (mkF m 34 #[.val (.ref a), .val (.ref r), .val (.int qa), .val (.int qb), .val (.int qc), .val (.int qd), .val (.int ix), l7, l8, l9] []))
   obtain rfl : ix = (-1 : Int32) := by rw [hix]; rfl
   show Goes _ _ _ _ (Tjl.setTop (mkF m 34 #[.val (.ref a), .val (.ref r), .val (.int qa), .val (.int qb), .val (.int qc), .val (.int qd), .val (.int (-1 : Int32)), l7, l8, l9] []))
   refine Goes.st (fun sT kT => XS.iload Xjl.here hx rfl (hb hby d5_34) rfl kT) ?_
   show Goes _ _ _ _ (Tjl.setTop (mkF m 36 #[.val (.ref a), .val (.ref r), .val (.int qa), .val (.int qb), .val (.int qc), .val (.int qd), .val (.int (-1 : Int32)), l7, l8, l9] [(.int (-1 : Int32))]))
   refine Goes.st (fun sT kT => XS.ifYes Xjl.here hx rfl (pc0 := 36) (pc' := 197) rfl (hb hby d5_36) rfl ((if0 _ _).trans (tlt (by decide : (-1 : Int32) < (0 : Int32))).1) (by decide) (by decide) kT) ?_
   show Goes _ _ _ _ (Tjl.setTop (mkF m 197 #[.val (.ref a), .val (.ref r), .val (.int qa), .val (.int qb), .val (.int qc), .val (.int qd), .val (.int (-1 : Int32)), l7, l8, l9] []))
   refine Goes.st (fun sT kT => XS.aloadN Xjl.here hx rfl (hb hby d5_197) rfl rfl kT) ?_
   show Goes _ _ _ _ (Tjl.setTop (mkF m 198 #[.val (.ref a), .val (.ref r), .val (.int qa), .val (.int qb), .val (.int qc), .val (.int qd), .val (.int (-1 : Int32)), l7, l8, l9] [(.ref r)]))
   obtain ⟨fs, hr, hrun, hended, hW, hsame⟩ := Xjl.leave (v := some (.ref r)) (fun h => by rw [Bd.returns] at h; cases h)
   subst hQQ
   refine ⟨_, _, retR Xjl hx Bd.returns rfl rfl (hb hby d5_198) hr, hrun, hended, _, _, rfl, ?_, ⟨_, rfl⟩, hW, hsame.mono (by decide) (by decide)⟩
   show Q_ends Z a t kb cs G1 vF h0 n0 _ Tjl.heap _
   rw [ejl]
   exact ⟨r, kr, us, rfl, Njl, Kjl, Pjl_0, l0jl_r, (fun j hj => hvs j (Nat.zero_le _) hj)⟩
  | succ i ih =>
   intro Tjl hjl Ljl r kr us ix qa qb qc qd l7 l8 l9 Xjl ejl Njl Zjl Kjl n0jl_r l0jl_r Pjl_0 Pjl_1 Pjl_2 nejl_0 nejl_1 hix hile hlen hvs hqa hqb hqc hqd hl7 hl8 hl9
   show Goes _ _ _ _ (Tjl.setTop (mkF m 34 #[.val (.ref a), .val (.ref r), .val (.int qa), .val (.int qb), .val (.int qc), .val (.int qd), .val (.int ix), l7, l8, l9] []))
   obtain rfl : ix = Int32.ofNat i := by rw [hix]; exact own_sb i
   show Goes _ _ _ _ (Tjl.setTop (mkF m 34 #[.val (.ref a), .val (.ref r), .val (.int qa), .val (.int qb), .val (.int qc), .val (.int qd), .val (.int (Int32.ofNat i)), l7, l8, l9] []))
   refine Goes.st (fun sT kT => XS.iload Xjl.here hx rfl (hb hby d5_34) rfl kT) ?_
   show Goes _ _ _ _ (Tjl.setTop (mkF m 36 #[.val (.ref a), .val (.ref r), .val (.int qa), .val (.int qb), .val (.int qc), .val (.int qd), .val (.int (Int32.ofNat i)), l7, l8, l9] [(.int (Int32.ofNat i))]))
   have hil : i < cs.length := hile
   refine Goes.st (fun sT kT => XS.ifNo Xjl.here hx rfl (hb hby d5_36) rfl ((if0 _ _).trans (flt (own_nneg (by omega))).1) kT) ?_
   show Goes _ _ _ _ (Tjl.setTop (mkF m 39 #[.val (.ref a), .val (.ref r), .val (.int qa), .val (.int qb), .val (.int qc), .val (.int qd), .val (.int (Int32.ofNat i)), l7, l8, l9] []))
   refine Goes.st (fun sT kT => XS.aloadN Xjl.here hx rfl (hb hby d5_39) rfl rfl kT) ?_
   show Goes _ _ _ _ (Tjl.setTop (mkF m 40 #[.val (.ref a), .val (.ref r), .val (.int qa), .val (.int qb), .val (.int qc), .val (.int qd), .val (.int (Int32.ofNat i)), l7, l8, l9] [(.ref a)]))
   refine Goes.st (fun sT kT => XS.iload Xjl.here hx rfl (hb hby d5_40) rfl kT) ?_
   show Goes _ _ _ _ (Tjl.setTop (mkF m 42 #[.val (.ref a), .val (.ref r), .val (.int qa), .val (.int qb), .val (.int qc), .val (.int qd), .val (.int (Int32.ofNat i)), l7, l8, l9] [(.int (Int32.ofNat i)), (.ref a)]))
   obtain ⟨cq13, kq13, q13a, q13b, q13c⟩ := isOf hZ ejl Pjl_1.1
   obtain ⟨_, _, ⟨T13, L13, k13, n13⟩, -, X13, ⟨Lc13, hQ13, l13, y13, z13⟩, st13⟩ := Xjl.virtualBack hx (y := (⟨"java/lang/String", "charAt", "(I)C"⟩ : MethodName)) (z := (⟨"java/lang/String", "charAt", "(I)C"⟩ : MethodName)) hown (mvT hZ (hw61 hw)) (mvT hZ (hw62 hw)) (notFace_of_selects (args := #[]) (mvT hZ (hw64 hw))) (mvT hZ (hw64 hw)) (mvT hZ (hw63 hw)) (by decide) (StrChars.Road.chN (W := 0) hZ (own_hch hw) (kI := 4) (hw6 hw) (i := i) Pjl_1.1 Pjl_1.2.1 Pjl_1.2.2.1 Pjl_1.2.2.2.1 (own_cod Pjl_1) (own_up Pjl_1.2.2.2.2.1) (O2.ext Pjl_2.2) P5 (OF.ext Pjl_2.2) rF Pjl_1.2.2.2.2.2 hil rfl (by decide) (by decide)) q13a q13c (g := (mkF m 42 #[.val (.ref a), .val (.ref r), .val (.int qa), .val (.int qb), .val (.int qc), .val (.int qd), .val (.int (Int32.ofNat i)), l7, l8, l9] [(.int (Int32.ofNat i)), (.ref a)])) rfl (by rw [hml]; rfl) (Steps.refl _) (argsL := [(.int (Int32.ofNat i))]) (rest := []) (lenOf pd_4 rfl) rfl (by show 2 * 0 + _ ≤ _; exact Nat.le_of_eq rfl) (hb hby d5_42) (fun _ _ => ⟨rfl, ejl, (by decide : 1 + 0 ≤ _), (by decide : 6 + 0 ≤ _)⟩)
   dsimp only [Pt.U, Pt.locs, Pt.cells, Pt.slots] at X13 l13 y13 z13 st13 hQ13
   subst l13 y13 z13
   obtain ⟨rfl, rfl, K13⟩ := hQ13
   have N13 := Fr.app Njl (Fr.nil n0)
   refine Goes.tr st13 ?_
   show Goes _ _ _ _ (T13.setTop (mkF m 45 #[.val (.ref a), .val (.ref r), .val (.int qa), .val (.int qb), .val (.int qc), .val (.int qd), .val (.int (Int32.ofNat i)), l7, l8, l9] [(.int (cs.getD i 0))]))
   obtain ⟨ch, hch⟩ : ∃ z, z = cs.getD i 0 := ⟨_, rfl⟩
   rw [← hch]
   show Goes _ _ _ _ (T13.setTop (mkF m 45 #[.val (.ref a), .val (.ref r), .val (.int qa), .val (.int qb), .val (.int qc), .val (.int qd), .val (.int (Int32.ofNat i)), l7, l8, l9] [(.int ch)]))
   refine Goes.st (fun sT kT => XS.istore X13.here hx rfl (hb hby d5_45) rfl (XS.store1 (v := (.int ch)) rfl hl7 rfl) kT) ?_
   show Goes _ _ _ _ (T13.setTop (mkF m 47 #[.val (.ref a), .val (.ref r), .val (.int qa), .val (.int qb), .val (.int qc), .val (.int qd), .val (.int (Int32.ofNat i)), .val (.int ch), l8, l9] []))
   refine Goes.st (fun sT kT => XS.iload X13.here hx rfl (hb hby d5_47) rfl kT) ?_
   show Goes _ _ _ _ (T13.setTop (mkF m 49 #[.val (.ref a), .val (.ref r), .val (.int qa), .val (.int qb), .val (.int qc), .val (.int qd), .val (.int (Int32.ofNat i)), .val (.int ch), l8, l9] [(.int ch)]))
   refine Goes.st (fun sT kT => XS.bipush X13.here hx rfl (hb hby d5_49) kT) ?_
   show Goes _ _ _ _ (T13.setTop (mkF m 51 #[.val (.ref a), .val (.ref r), .val (.int qa), .val (.int qb), .val (.int qc), .val (.int qd), .val (.int (Int32.ofNat i)), .val (.int ch), l8, l9] [(.int (125 : Int32)), (.int ch)]))
   by_cases cz14 : ch = (125 : Int32)
   case pos =>
    refine Goes.st (fun sT kT => XS.icmpNo X13.here hx rfl (hb hby d5_51) rfl (teq cz14).2 kT) ?_
    show Goes _ _ _ _ (T13.setTop (mkF m 54 #[.val (.ref a), .val (.ref r), .val (.int qa), .val (.int qb), .val (.int qc), .val (.int qd), .val (.int (Int32.ofNat i)), .val (.int ch), l8, l9] []))
    refine Goes.st (fun sT kT => XS.aloadN X13.here hx rfl (hb hby d5_54) rfl rfl kT) ?_
    show Goes _ _ _ _ (T13.setTop (mkF m 55 #[.val (.ref a), .val (.ref r), .val (.int qa), .val (.int qb), .val (.int qc), .val (.int qd), .val (.int (Int32.ofNat i)), .val (.int ch), l8, l9] [(.ref r)]))
    refine Goes.st (fun sT kT => XS.iload X13.here hx rfl (hb hby d5_55) rfl kT) ?_
    show Goes _ _ _ _ (T13.setTop (mkF m 57 #[.val (.ref a), .val (.ref r), .val (.int qa), .val (.int qb), .val (.int qc), .val (.int qd), .val (.int (Int32.ofNat i)), .val (.int ch), l8, l9] [(.int (Int32.ofNat i)), (.ref r)]))
    refine Goes.st (fun sT kT => XS.iload X13.here hx rfl (hb hby d5_57) rfl kT) ?_
    show Goes _ _ _ _ (T13.setTop (mkF m 59 #[.val (.ref a), .val (.ref r), .val (.int qa), .val (.int qb), .val (.int qc), .val (.int qd), .val (.int (Int32.ofNat i)), .val (.int ch), l8, l9] [(.int (Int32.ofNat i)), (.int (Int32.ofNat i)), (.ref r)]))
    obtain ⟨oc15, oA15, oq15, oS15, oM15, oH15, oG15⟩ := id Pjl_0
    obtain ⟨T16, h16, X16, e16, W16, st16⟩ := stI X13 hx hZ K13 oA15 (j := (Int32.ofNat i)) (inb_of oS15 (own_ib (by omega) (by omega))) (g := (mkF m 59 #[.val (.ref a), .val (.ref r), .val (.int qa), .val (.int qb), .val (.int qc), .val (.int qd), .val (.int (Int32.ofNat i)), .val (.int ch), l8, l9] [(.int (Int32.ofNat i)), (.int (Int32.ofNat i)), (.ref r)])) rfl rfl (hb hby d5_59)
    have V16 : Arv Z h16 r kr .int (Int32.ofNat (cs.length + 1)) ((us.set i (Int32.ofNat i)).map Value.int) (.int (0 : Int32)) := own_ms _ _ _ ▸ Arv.set oA15 oq15 oS15 oM15 oH15 oG15 rfl W16 (i) (own_nclamp (by omega)) (by rw [List.length_map]; omega)
    have N16 := Fr.snoc X16 N13 n0jl_r
    refine Goes.st st16 ?_
    show Goes _ _ _ _ (T16.setTop (mkF m 60 #[.val (.ref a), .val (.ref r), .val (.int qa), .val (.int qb), .val (.int qc), .val (.int qd), .val (.int (Int32.ofNat i)), .val (.int ch), l8, l9] []))
    refine Goes.st (fun sT kT => XS.goto X16.here hx rfl (pc0 := 60) (pc' := 124) rfl (hb hby d5_60) (by decide) (by decide) kT) ?_
    show Goes _ _ _ _ (T16.setTop (mkF m 124 #[.val (.ref a), .val (.ref r), .val (.int qa), .val (.int qb), .val (.int qc), .val (.int qd), .val (.int (Int32.ofNat i)), .val (.int ch), l8, l9] []))
    refine Goes.st (fun sT kT => XS.iload X16.here hx rfl (hb hby d5_124) rfl kT) ?_
    show Goes _ _ _ _ (T16.setTop (mkF m 126 #[.val (.ref a), .val (.ref r), .val (.int qa), .val (.int qb), .val (.int qc), .val (.int qd), .val (.int (Int32.ofNat i)), .val (.int ch), l8, l9] [(.int ch)]))
    refine Goes.st (fun sT kT => XS.bipush X16.here hx rfl (hb hby d5_126) kT) ?_
    show Goes _ _ _ _ (T16.setTop (mkF m 128 #[.val (.ref a), .val (.ref r), .val (.int qa), .val (.int qb), .val (.int qc), .val (.int qd), .val (.int (Int32.ofNat i)), .val (.int ch), l8, l9] [(.int (92 : Int32)), (.int ch)]))
    refine Goes.st (fun sT kT => XS.icmpYes X16.here hx rfl (pc0 := 128) (pc' := 135) rfl (hb hby d5_128) rfl (feq (by rw [cz14]; decide)).2 (by decide) (by decide) kT) ?_
    show Goes _ _ _ _ (T16.setTop (mkF m 135 #[.val (.ref a), .val (.ref r), .val (.int qa), .val (.int qb), .val (.int qc), .val (.int qd), .val (.int (Int32.ofNat i)), .val (.int ch), l8, l9] []))
    refine Goes.st (fun sT kT => XS.iload X16.here hx rfl (hb hby d5_135) rfl kT) ?_
    show Goes _ _ _ _ (T16.setTop (mkF m 137 #[.val (.ref a), .val (.ref r), .val (.int qa), .val (.int qb), .val (.int qc), .val (.int qd), .val (.int (Int32.ofNat i)), .val (.int ch), l8, l9] [(.int ch)]))
    refine Goes.st (fun sT kT => XS.bipush X16.here hx rfl (hb hby d5_137) kT) ?_
    show Goes _ _ _ _ (T16.setTop (mkF m 139 #[.val (.ref a), .val (.ref r), .val (.int qa), .val (.int qb), .val (.int qc), .val (.int qd), .val (.int (Int32.ofNat i)), .val (.int ch), l8, l9] [(.int (39 : Int32)), (.int ch)]))
    refine Goes.st (fun sT kT => XS.icmpYes X16.here hx rfl (pc0 := 139) (pc' := 147) rfl (hb hby d5_139) rfl (feq (by rw [cz14]; decide)).2 (by decide) (by decide) kT) ?_
    show Goes _ _ _ _ (T16.setTop (mkF m 147 #[.val (.ref a), .val (.ref r), .val (.int qa), .val (.int qb), .val (.int qc), .val (.int qd), .val (.int (Int32.ofNat i)), .val (.int ch), l8, l9] []))
    refine Goes.st (fun sT kT => XS.iloadN X16.here hx rfl (hb hby d5_147) rfl kT) ?_
    show Goes _ _ _ _ (T16.setTop (mkF m 148 #[.val (.ref a), .val (.ref r), .val (.int qa), .val (.int qb), .val (.int qc), .val (.int qd), .val (.int (Int32.ofNat i)), .val (.int ch), l8, l9] [(.int qa)]))
    refine Goes.st (fun sT kT => XS.istore X16.here hx rfl (hb hby d5_148) rfl (XS.store1 (v := (.int qa)) rfl hl8 rfl) kT) ?_
    show Goes _ _ _ _ (T16.setTop (mkF m 150 #[.val (.ref a), .val (.ref r), .val (.int qa), .val (.int qb), .val (.int qc), .val (.int qd), .val (.int (Int32.ofNat i)), .val (.int ch), .val (.int qa), l9] []))
    refine Goes.st (fun sT kT => XS.iload X16.here hx rfl (hb hby d5_150) rfl kT) ?_
    show Goes _ _ _ _ (T16.setTop (mkF m 152 #[.val (.ref a), .val (.ref r), .val (.int qa), .val (.int qb), .val (.int qc), .val (.int qd), .val (.int (Int32.ofNat i)), .val (.int ch), .val (.int qa), l9] [(.int ch)]))
    refine Goes.st (fun sT kT => XS.bipush X16.here hx rfl (hb hby d5_152) kT) ?_
    show Goes _ _ _ _ (T16.setTop (mkF m 154 #[.val (.ref a), .val (.ref r), .val (.int qa), .val (.int qb), .val (.int qc), .val (.int qd), .val (.int (Int32.ofNat i)), .val (.int ch), .val (.int qa), l9] [(.int (92 : Int32)), (.int ch)]))
    refine Goes.st (fun sT kT => XS.icmpYes X16.here hx rfl (pc0 := 154) (pc' := 162) rfl (hb hby d5_154) rfl (feq (by rw [cz14]; decide)).2 (by decide) (by decide) kT) ?_
    show Goes _ _ _ _ (T16.setTop (mkF m 162 #[.val (.ref a), .val (.ref r), .val (.int qa), .val (.int qb), .val (.int qc), .val (.int qd), .val (.int (Int32.ofNat i)), .val (.int ch), .val (.int qa), l9] []))
    refine Goes.st (fun sT kT => XS.iload X16.here hx rfl (hb hby d5_162) rfl kT) ?_
    show Goes _ _ _ _ (T16.setTop (mkF m 164 #[.val (.ref a), .val (.ref r), .val (.int qa), .val (.int qb), .val (.int qc), .val (.int qd), .val (.int (Int32.ofNat i)), .val (.int ch), .val (.int qa), l9] [(.int ch)]))
    refine Goes.st (fun sT kT => XS.bipush X16.here hx rfl (hb hby d5_164) kT) ?_
    show Goes _ _ _ _ (T16.setTop (mkF m 166 #[.val (.ref a), .val (.ref r), .val (.int qa), .val (.int qb), .val (.int qc), .val (.int qd), .val (.int (Int32.ofNat i)), .val (.int ch), .val (.int qa), l9] [(.int (34 : Int32)), (.int ch)]))
    refine Goes.st (fun sT kT => XS.icmpYes X16.here hx rfl (pc0 := 166) (pc' := 174) rfl (hb hby d5_166) rfl (feq (by rw [cz14]; decide)).2 (by decide) (by decide) kT) ?_
    show Goes _ _ _ _ (T16.setTop (mkF m 174 #[.val (.ref a), .val (.ref r), .val (.int qa), .val (.int qb), .val (.int qc), .val (.int qd), .val (.int (Int32.ofNat i)), .val (.int ch), .val (.int qa), l9] []))
    refine Goes.st (fun sT kT => XS.iload X16.here hx rfl (hb hby d5_174) rfl kT) ?_
    show Goes _ _ _ _ (T16.setTop (mkF m 176 #[.val (.ref a), .val (.ref r), .val (.int qa), .val (.int qb), .val (.int qc), .val (.int qd), .val (.int (Int32.ofNat i)), .val (.int ch), .val (.int qa), l9] [(.int qc)]))
    refine Goes.st (fun sT kT => XS.istore X16.here hx rfl (hb hby d5_176) rfl (XS.store1 (v := (.int qc)) rfl hl9 rfl) kT) ?_
    show Goes _ _ _ _ (T16.setTop (mkF m 178 #[.val (.ref a), .val (.ref r), .val (.int qa), .val (.int qb), .val (.int qc), .val (.int qd), .val (.int (Int32.ofNat i)), .val (.int ch), .val (.int qa), .val (.int qc)] []))
    refine Goes.st (fun sT kT => XS.iloadN X16.here hx rfl (hb hby d5_178) rfl kT) ?_
    show Goes _ _ _ _ (T16.setTop (mkF m 179 #[.val (.ref a), .val (.ref r), .val (.int qa), .val (.int qb), .val (.int qc), .val (.int qd), .val (.int (Int32.ofNat i)), .val (.int ch), .val (.int qa), .val (.int qc)] [(.int qa)]))
    refine Goes.st (fun sT kT => XS.istoreN X16.here hx rfl (hb hby d5_179) rfl (l' := #[.val (.ref a), .val (.ref r), .val (.int qa), .val (.int qa), .val (.int qc), .val (.int qd), .val (.int (Int32.ofNat i)), .val (.int ch), .val (.int qa), .val (.int qc)]) rfl kT) ?_
    show Goes _ _ _ _ (T16.setTop (mkF m 180 #[.val (.ref a), .val (.ref r), .val (.int qa), .val (.int qa), .val (.int qc), .val (.int qd), .val (.int (Int32.ofNat i)), .val (.int ch), .val (.int qa), .val (.int qc)] []))
    refine Goes.st (fun sT kT => XS.iload X16.here hx rfl (hb hby d5_180) rfl kT) ?_
    show Goes _ _ _ _ (T16.setTop (mkF m 182 #[.val (.ref a), .val (.ref r), .val (.int qa), .val (.int qa), .val (.int qc), .val (.int qd), .val (.int (Int32.ofNat i)), .val (.int ch), .val (.int qa), .val (.int qc)] [(.int qa)]))
    refine Goes.st (fun sT kT => XS.istoreN X16.here hx rfl (hb hby d5_182) rfl (l' := #[.val (.ref a), .val (.ref r), .val (.int qa), .val (.int qa), .val (.int qc), .val (.int qd), .val (.int (Int32.ofNat i)), .val (.int ch), .val (.int qa), .val (.int qc)]) rfl kT) ?_
    show Goes _ _ _ _ (T16.setTop (mkF m 183 #[.val (.ref a), .val (.ref r), .val (.int qa), .val (.int qa), .val (.int qc), .val (.int qd), .val (.int (Int32.ofNat i)), .val (.int ch), .val (.int qa), .val (.int qc)] []))
    refine Goes.st (fun sT kT => XS.iload X16.here hx rfl (hb hby d5_183) rfl kT) ?_
    show Goes _ _ _ _ (T16.setTop (mkF m 185 #[.val (.ref a), .val (.ref r), .val (.int qa), .val (.int qa), .val (.int qc), .val (.int qd), .val (.int (Int32.ofNat i)), .val (.int ch), .val (.int qa), .val (.int qc)] [(.int qc)]))
    refine Goes.st (fun sT kT => XS.istore X16.here hx rfl (hb hby d5_185) rfl (l' := #[.val (.ref a), .val (.ref r), .val (.int qa), .val (.int qa), .val (.int qc), .val (.int qc), .val (.int (Int32.ofNat i)), .val (.int ch), .val (.int qa), .val (.int qc)]) rfl kT) ?_
    show Goes _ _ _ _ (T16.setTop (mkF m 187 #[.val (.ref a), .val (.ref r), .val (.int qa), .val (.int qa), .val (.int qc), .val (.int qc), .val (.int (Int32.ofNat i)), .val (.int ch), .val (.int qa), .val (.int qc)] []))
    refine Goes.st (fun sT kT => XS.iload X16.here hx rfl (hb hby d5_187) rfl kT) ?_
    show Goes _ _ _ _ (T16.setTop (mkF m 189 #[.val (.ref a), .val (.ref r), .val (.int qa), .val (.int qa), .val (.int qc), .val (.int qc), .val (.int (Int32.ofNat i)), .val (.int ch), .val (.int qa), .val (.int qc)] [(.int qc)]))
    refine Goes.st (fun sT kT => XS.istore X16.here hx rfl (hb hby d5_189) rfl (l' := #[.val (.ref a), .val (.ref r), .val (.int qa), .val (.int qa), .val (.int qc), .val (.int qc), .val (.int (Int32.ofNat i)), .val (.int ch), .val (.int qa), .val (.int qc)]) rfl kT) ?_
    show Goes _ _ _ _ (T16.setTop (mkF m 191 #[.val (.ref a), .val (.ref r), .val (.int qa), .val (.int qa), .val (.int qc), .val (.int qc), .val (.int (Int32.ofNat i)), .val (.int ch), .val (.int qa), .val (.int qc)] []))
    refine Goes.st (fun sT kT => XS.iinc X16.here hx rfl (hb hby d5_191) rfl (l' := #[.val (.ref a), .val (.ref r), .val (.int qa), .val (.int qa), .val (.int qc), .val (.int qc), .val (.int ((Int32.ofNat i) + (-1 : Int32))), .val (.int ch), .val (.int qa), .val (.int qc)]) rfl kT) ?_
    show Goes _ _ _ _ (T16.setTop (mkF m 194 #[.val (.ref a), .val (.ref r), .val (.int qa), .val (.int qa), .val (.int qc), .val (.int qc), .val (.int ((Int32.ofNat i) + (-1 : Int32))), .val (.int ch), .val (.int qa), .val (.int qc)] []))
    refine Goes.st (fun sT kT => XS.goto X16.here hx rfl (pc0 := 194) (pc' := 34) rfl (hb hby d5_194) (by decide) (by decide) kT) ?_
    show Goes _ _ _ _ (T16.setTop (mkF m 34 #[.val (.ref a), .val (.ref r), .val (.int qa), .val (.int qa), .val (.int qc), .val (.int qc), .val (.int ((Int32.ofNat i) + (-1 : Int32))), .val (.int ch), .val (.int qa), .val (.int qc)] []))
    have kp17 : Keep h0 h16 [] := Kjl.wr W16 (Or.inr l0jl_r)
    have f18 : Str Z h16 a t kb cs := (Pjl_1.other W16 nejl_0 nejl_1)
    have f19 : Old Z n0 h16 := (Pjl_2.wr W16 n0jl_r)
    exact ih T16 h16 _ r kr (us.set i (Int32.ofNat i)) ((Int32.ofNat i) + (-1 : Int32)) qa qa qc qc (.val (.int ch)) (.val (.int qa)) (.val (.int qc)) (X16.more (by decide) (by decide)) e16 N16 (Nat.le_trans Zjl (Nat.le_of_eq W16.size.symm)) kp17 n0jl_r l0jl_r V16 f18 f19 nejl_0 nejl_1 (own_m1 _) (Nat.le_of_lt hil) (by rw [List.length_set]; exact hlen) (own_hv hvs (own_E1 hil (hch.symm.trans cz14)).symm (by omega)) (hqa.trans (own_N3 hil (by rw [← hch, cz14]; decide) (by rw [← hch, cz14]; decide)).symm) hqa (hqc.trans (own_N3 hil (by rw [← hch, cz14]; decide) (by rw [← hch, cz14]; decide)).symm) hqc (Or.inr ⟨_, rfl, rfl⟩) (Or.inr ⟨_, rfl, rfl⟩) (Or.inr ⟨_, rfl, rfl⟩)
   case neg =>
    refine Goes.st (fun sT kT => XS.icmpYes X13.here hx rfl (pc0 := 51) (pc' := 63) rfl (hb hby d5_51) rfl (feq cz14).2 (by decide) (by decide) kT) ?_
    show Goes _ _ _ _ (T13.setTop (mkF m 63 #[.val (.ref a), .val (.ref r), .val (.int qa), .val (.int qb), .val (.int qc), .val (.int qd), .val (.int (Int32.ofNat i)), .val (.int ch), l8, l9] []))
    refine Goes.st (fun sT kT => XS.iload X13.here hx rfl (hb hby d5_63) rfl kT) ?_
    show Goes _ _ _ _ (T13.setTop (mkF m 65 #[.val (.ref a), .val (.ref r), .val (.int qa), .val (.int qb), .val (.int qc), .val (.int qd), .val (.int (Int32.ofNat i)), .val (.int ch), l8, l9] [(.int ch)]))
    refine Goes.st (fun sT kT => XS.bipush X13.here hx rfl (hb hby d5_65) kT) ?_
    show Goes _ _ _ _ (T13.setTop (mkF m 67 #[.val (.ref a), .val (.ref r), .val (.int qa), .val (.int qb), .val (.int qc), .val (.int qd), .val (.int (Int32.ofNat i)), .val (.int ch), l8, l9] [(.int (39 : Int32)), (.int ch)]))
    by_cases cz20 : ch = (39 : Int32)
    case pos =>
     refine Goes.st (fun sT kT => XS.icmpYes X13.here hx rfl (pc0 := 67) (pc' := 77) rfl (hb hby d5_67) rfl (teq cz20).1 (by decide) (by decide) kT) ?_
     show Goes _ _ _ _ (T13.setTop (mkF m 77 #[.val (.ref a), .val (.ref r), .val (.int qa), .val (.int qb), .val (.int qc), .val (.int qd), .val (.int (Int32.ofNat i)), .val (.int ch), l8, l9] []))
     refine Goes.st (fun sT kT => XS.iload X13.here hx rfl (hb hby d5_77) rfl kT) ?_
     show Goes _ _ _ _ (T13.setTop (mkF m 79 #[.val (.ref a), .val (.ref r), .val (.int qa), .val (.int qb), .val (.int qc), .val (.int qd), .val (.int (Int32.ofNat i)), .val (.int ch), l8, l9] [(.int ch)]))
     refine Goes.st (fun sT kT => XS.bipush X13.here hx rfl (hb hby d5_79) kT) ?_
     show Goes _ _ _ _ (T13.setTop (mkF m 81 #[.val (.ref a), .val (.ref r), .val (.int qa), .val (.int qb), .val (.int qc), .val (.int qd), .val (.int (Int32.ofNat i)), .val (.int ch), l8, l9] [(.int (39 : Int32)), (.int ch)]))
     refine Goes.st (fun sT kT => XS.icmpNo X13.here hx rfl (hb hby d5_81) rfl (teq cz20).2 kT) ?_
     show Goes _ _ _ _ (T13.setTop (mkF m 84 #[.val (.ref a), .val (.ref r), .val (.int qa), .val (.int qb), .val (.int qc), .val (.int qd), .val (.int (Int32.ofNat i)), .val (.int ch), l8, l9] []))
     refine Goes.st (fun sT kT => XS.iloadN X13.here hx rfl (hb hby d5_84) rfl kT) ?_
     show Goes _ _ _ _ (T13.setTop (mkF m 85 #[.val (.ref a), .val (.ref r), .val (.int qa), .val (.int qb), .val (.int qc), .val (.int qd), .val (.int (Int32.ofNat i)), .val (.int ch), l8, l9] [(.int qa)]))
     refine Goes.st (fun sT kT => XS.goto X13.here hx rfl (pc0 := 85) (pc' := 90) rfl (hb hby d5_85) (by decide) (by decide) kT) ?_
     show Goes _ _ _ _ (T13.setTop (mkF m 90 #[.val (.ref a), .val (.ref r), .val (.int qa), .val (.int qb), .val (.int qc), .val (.int qd), .val (.int (Int32.ofNat i)), .val (.int ch), l8, l9] [(.int qa)]))
     refine Goes.st (fun sT kT => XS.istore X13.here hx rfl (hb hby d5_90) rfl (XS.store1 (v := (.int qa)) rfl hl8 rfl) kT) ?_
     show Goes _ _ _ _ (T13.setTop (mkF m 92 #[.val (.ref a), .val (.ref r), .val (.int qa), .val (.int qb), .val (.int qc), .val (.int qd), .val (.int (Int32.ofNat i)), .val (.int ch), .val (.int qa), l9] []))
     refine Goes.st (fun sT kT => XS.aloadN X13.here hx rfl (hb hby d5_92) rfl rfl kT) ?_
     show Goes _ _ _ _ (T13.setTop (mkF m 93 #[.val (.ref a), .val (.ref r), .val (.int qa), .val (.int qb), .val (.int qc), .val (.int qd), .val (.int (Int32.ofNat i)), .val (.int ch), .val (.int qa), l9] [(.ref r)]))
     refine Goes.st (fun sT kT => XS.iload X13.here hx rfl (hb hby d5_93) rfl kT) ?_
     show Goes _ _ _ _ (T13.setTop (mkF m 95 #[.val (.ref a), .val (.ref r), .val (.int qa), .val (.int qb), .val (.int qc), .val (.int qd), .val (.int (Int32.ofNat i)), .val (.int ch), .val (.int qa), l9] [(.int (Int32.ofNat i)), (.ref r)]))
     refine Goes.st (fun sT kT => XS.iload X13.here hx rfl (hb hby d5_95) rfl kT) ?_
     show Goes _ _ _ _ (T13.setTop (mkF m 97 #[.val (.ref a), .val (.ref r), .val (.int qa), .val (.int qb), .val (.int qc), .val (.int qd), .val (.int (Int32.ofNat i)), .val (.int ch), .val (.int qa), l9] [(.int qa), (.int (Int32.ofNat i)), (.ref r)]))
     by_cases cz21 : qa < (0 : Int32)
     case pos =>
      refine Goes.st (fun sT kT => XS.ifNo X13.here hx rfl (hb hby d5_97) rfl ((if0 _ _).trans (tlt cz21).2.1) kT) ?_
      show Goes _ _ _ _ (T13.setTop (mkF m 100 #[.val (.ref a), .val (.ref r), .val (.int qa), .val (.int qb), .val (.int qc), .val (.int qd), .val (.int (Int32.ofNat i)), .val (.int ch), .val (.int qa), l9] [(.int (Int32.ofNat i)), (.ref r)]))
      refine Goes.st (fun sT kT => XS.iconst X13.here hx rfl (hb hby d5_100) kT) ?_
      show Goes _ _ _ _ (T13.setTop (mkF m 101 #[.val (.ref a), .val (.ref r), .val (.int qa), .val (.int qb), .val (.int qc), .val (.int qd), .val (.int (Int32.ofNat i)), .val (.int ch), .val (.int qa), l9] [(.int (-1 : Int32)), (.int (Int32.ofNat i)), (.ref r)]))
      refine Goes.st (fun sT kT => XS.goto X13.here hx rfl (pc0 := 101) (pc' := 110) rfl (hb hby d5_101) (by decide) (by decide) kT) ?_
      show Goes _ _ _ _ (T13.setTop (mkF m 110 #[.val (.ref a), .val (.ref r), .val (.int qa), .val (.int qb), .val (.int qc), .val (.int qd), .val (.int (Int32.ofNat i)), .val (.int ch), .val (.int qa), l9] [(.int (-1 : Int32)), (.int (Int32.ofNat i)), (.ref r)]))
      obtain ⟨oc22, oA22, oq22, oS22, oM22, oH22, oG22⟩ := id Pjl_0
      obtain ⟨T23, h23, X23, e23, W23, st23⟩ := stI X13 hx hZ K13 oA22 (j := (Int32.ofNat i)) (inb_of oS22 (own_ib (by omega) (by omega))) (g := (mkF m 110 #[.val (.ref a), .val (.ref r), .val (.int qa), .val (.int qb), .val (.int qc), .val (.int qd), .val (.int (Int32.ofNat i)), .val (.int ch), .val (.int qa), l9] [(.int (-1 : Int32)), (.int (Int32.ofNat i)), (.ref r)])) rfl rfl (hb hby d5_110)
      have V23 : Arv Z h23 r kr .int (Int32.ofNat (cs.length + 1)) ((us.set i (-1 : Int32)).map Value.int) (.int (0 : Int32)) := own_ms _ _ _ ▸ Arv.set oA22 oq22 oS22 oM22 oH22 oG22 rfl W23 (i) (own_nclamp (by omega)) (by rw [List.length_map]; omega)
      have N23 := Fr.snoc X23 N13 n0jl_r
      refine Goes.st st23 ?_
      show Goes _ _ _ _ (T23.setTop (mkF m 111 #[.val (.ref a), .val (.ref r), .val (.int qa), .val (.int qb), .val (.int qc), .val (.int qd), .val (.int (Int32.ofNat i)), .val (.int ch), .val (.int qa), l9] []))
      refine Goes.st (fun sT kT => XS.goto X23.here hx rfl (pc0 := 111) (pc' := 124) rfl (hb hby d5_111) (by decide) (by decide) kT) ?_
      show Goes _ _ _ _ (T23.setTop (mkF m 124 #[.val (.ref a), .val (.ref r), .val (.int qa), .val (.int qb), .val (.int qc), .val (.int qd), .val (.int (Int32.ofNat i)), .val (.int ch), .val (.int qa), l9] []))
      refine Goes.st (fun sT kT => XS.iload X23.here hx rfl (hb hby d5_124) rfl kT) ?_
      show Goes _ _ _ _ (T23.setTop (mkF m 126 #[.val (.ref a), .val (.ref r), .val (.int qa), .val (.int qb), .val (.int qc), .val (.int qd), .val (.int (Int32.ofNat i)), .val (.int ch), .val (.int qa), l9] [(.int ch)]))
      refine Goes.st (fun sT kT => XS.bipush X23.here hx rfl (hb hby d5_126) kT) ?_
      show Goes _ _ _ _ (T23.setTop (mkF m 128 #[.val (.ref a), .val (.ref r), .val (.int qa), .val (.int qb), .val (.int qc), .val (.int qd), .val (.int (Int32.ofNat i)), .val (.int ch), .val (.int qa), l9] [(.int (92 : Int32)), (.int ch)]))
      refine Goes.st (fun sT kT => XS.icmpYes X23.here hx rfl (pc0 := 128) (pc' := 135) rfl (hb hby d5_128) rfl (feq (by rw [cz20]; decide)).2 (by decide) (by decide) kT) ?_
      show Goes _ _ _ _ (T23.setTop (mkF m 135 #[.val (.ref a), .val (.ref r), .val (.int qa), .val (.int qb), .val (.int qc), .val (.int qd), .val (.int (Int32.ofNat i)), .val (.int ch), .val (.int qa), l9] []))
      refine Goes.st (fun sT kT => XS.iload X23.here hx rfl (hb hby d5_135) rfl kT) ?_
      show Goes _ _ _ _ (T23.setTop (mkF m 137 #[.val (.ref a), .val (.ref r), .val (.int qa), .val (.int qb), .val (.int qc), .val (.int qd), .val (.int (Int32.ofNat i)), .val (.int ch), .val (.int qa), l9] [(.int ch)]))
      refine Goes.st (fun sT kT => XS.bipush X23.here hx rfl (hb hby d5_137) kT) ?_
      show Goes _ _ _ _ (T23.setTop (mkF m 139 #[.val (.ref a), .val (.ref r), .val (.int qa), .val (.int qb), .val (.int qc), .val (.int qd), .val (.int (Int32.ofNat i)), .val (.int ch), .val (.int qa), l9] [(.int (39 : Int32)), (.int ch)]))
      refine Goes.st (fun sT kT => XS.icmpNo X23.here hx rfl (hb hby d5_139) rfl (teq cz20).2 kT) ?_
      show Goes _ _ _ _ (T23.setTop (mkF m 142 #[.val (.ref a), .val (.ref r), .val (.int qa), .val (.int qb), .val (.int qc), .val (.int qd), .val (.int (Int32.ofNat i)), .val (.int ch), .val (.int qa), l9] []))
      refine Goes.st (fun sT kT => XS.iload X23.here hx rfl (hb hby d5_142) rfl kT) ?_
      show Goes _ _ _ _ (T23.setTop (mkF m 144 #[.val (.ref a), .val (.ref r), .val (.int qa), .val (.int qb), .val (.int qc), .val (.int qd), .val (.int (Int32.ofNat i)), .val (.int ch), .val (.int qa), l9] [(.int (Int32.ofNat i))]))
      refine Goes.st (fun sT kT => XS.goto X23.here hx rfl (pc0 := 144) (pc' := 148) rfl (hb hby d5_144) (by decide) (by decide) kT) ?_
      show Goes _ _ _ _ (T23.setTop (mkF m 148 #[.val (.ref a), .val (.ref r), .val (.int qa), .val (.int qb), .val (.int qc), .val (.int qd), .val (.int (Int32.ofNat i)), .val (.int ch), .val (.int qa), l9] [(.int (Int32.ofNat i))]))
      refine Goes.st (fun sT kT => XS.istore X23.here hx rfl (hb hby d5_148) rfl (l' := #[.val (.ref a), .val (.ref r), .val (.int qa), .val (.int qb), .val (.int qc), .val (.int qd), .val (.int (Int32.ofNat i)), .val (.int ch), .val (.int (Int32.ofNat i)), l9]) rfl kT) ?_
      show Goes _ _ _ _ (T23.setTop (mkF m 150 #[.val (.ref a), .val (.ref r), .val (.int qa), .val (.int qb), .val (.int qc), .val (.int qd), .val (.int (Int32.ofNat i)), .val (.int ch), .val (.int (Int32.ofNat i)), l9] []))
      refine Goes.st (fun sT kT => XS.iload X23.here hx rfl (hb hby d5_150) rfl kT) ?_
      show Goes _ _ _ _ (T23.setTop (mkF m 152 #[.val (.ref a), .val (.ref r), .val (.int qa), .val (.int qb), .val (.int qc), .val (.int qd), .val (.int (Int32.ofNat i)), .val (.int ch), .val (.int (Int32.ofNat i)), l9] [(.int ch)]))
      refine Goes.st (fun sT kT => XS.bipush X23.here hx rfl (hb hby d5_152) kT) ?_
      show Goes _ _ _ _ (T23.setTop (mkF m 154 #[.val (.ref a), .val (.ref r), .val (.int qa), .val (.int qb), .val (.int qc), .val (.int qd), .val (.int (Int32.ofNat i)), .val (.int ch), .val (.int (Int32.ofNat i)), l9] [(.int (92 : Int32)), (.int ch)]))
      refine Goes.st (fun sT kT => XS.icmpYes X23.here hx rfl (pc0 := 154) (pc' := 162) rfl (hb hby d5_154) rfl (feq (by rw [cz20]; decide)).2 (by decide) (by decide) kT) ?_
      show Goes _ _ _ _ (T23.setTop (mkF m 162 #[.val (.ref a), .val (.ref r), .val (.int qa), .val (.int qb), .val (.int qc), .val (.int qd), .val (.int (Int32.ofNat i)), .val (.int ch), .val (.int (Int32.ofNat i)), l9] []))
      refine Goes.st (fun sT kT => XS.iload X23.here hx rfl (hb hby d5_162) rfl kT) ?_
      show Goes _ _ _ _ (T23.setTop (mkF m 164 #[.val (.ref a), .val (.ref r), .val (.int qa), .val (.int qb), .val (.int qc), .val (.int qd), .val (.int (Int32.ofNat i)), .val (.int ch), .val (.int (Int32.ofNat i)), l9] [(.int ch)]))
      refine Goes.st (fun sT kT => XS.bipush X23.here hx rfl (hb hby d5_164) kT) ?_
      show Goes _ _ _ _ (T23.setTop (mkF m 166 #[.val (.ref a), .val (.ref r), .val (.int qa), .val (.int qb), .val (.int qc), .val (.int qd), .val (.int (Int32.ofNat i)), .val (.int ch), .val (.int (Int32.ofNat i)), l9] [(.int (34 : Int32)), (.int ch)]))
      refine Goes.st (fun sT kT => XS.icmpYes X23.here hx rfl (pc0 := 166) (pc' := 174) rfl (hb hby d5_166) rfl (feq (by rw [cz20]; decide)).2 (by decide) (by decide) kT) ?_
      show Goes _ _ _ _ (T23.setTop (mkF m 174 #[.val (.ref a), .val (.ref r), .val (.int qa), .val (.int qb), .val (.int qc), .val (.int qd), .val (.int (Int32.ofNat i)), .val (.int ch), .val (.int (Int32.ofNat i)), l9] []))
      refine Goes.st (fun sT kT => XS.iload X23.here hx rfl (hb hby d5_174) rfl kT) ?_
      show Goes _ _ _ _ (T23.setTop (mkF m 176 #[.val (.ref a), .val (.ref r), .val (.int qa), .val (.int qb), .val (.int qc), .val (.int qd), .val (.int (Int32.ofNat i)), .val (.int ch), .val (.int (Int32.ofNat i)), l9] [(.int qc)]))
      refine Goes.st (fun sT kT => XS.istore X23.here hx rfl (hb hby d5_176) rfl (XS.store1 (v := (.int qc)) rfl hl9 rfl) kT) ?_
      show Goes _ _ _ _ (T23.setTop (mkF m 178 #[.val (.ref a), .val (.ref r), .val (.int qa), .val (.int qb), .val (.int qc), .val (.int qd), .val (.int (Int32.ofNat i)), .val (.int ch), .val (.int (Int32.ofNat i)), .val (.int qc)] []))
      refine Goes.st (fun sT kT => XS.iloadN X23.here hx rfl (hb hby d5_178) rfl kT) ?_
      show Goes _ _ _ _ (T23.setTop (mkF m 179 #[.val (.ref a), .val (.ref r), .val (.int qa), .val (.int qb), .val (.int qc), .val (.int qd), .val (.int (Int32.ofNat i)), .val (.int ch), .val (.int (Int32.ofNat i)), .val (.int qc)] [(.int qa)]))
      refine Goes.st (fun sT kT => XS.istoreN X23.here hx rfl (hb hby d5_179) rfl (l' := #[.val (.ref a), .val (.ref r), .val (.int qa), .val (.int qa), .val (.int qc), .val (.int qd), .val (.int (Int32.ofNat i)), .val (.int ch), .val (.int (Int32.ofNat i)), .val (.int qc)]) rfl kT) ?_
      show Goes _ _ _ _ (T23.setTop (mkF m 180 #[.val (.ref a), .val (.ref r), .val (.int qa), .val (.int qa), .val (.int qc), .val (.int qd), .val (.int (Int32.ofNat i)), .val (.int ch), .val (.int (Int32.ofNat i)), .val (.int qc)] []))
      refine Goes.st (fun sT kT => XS.iload X23.here hx rfl (hb hby d5_180) rfl kT) ?_
      show Goes _ _ _ _ (T23.setTop (mkF m 182 #[.val (.ref a), .val (.ref r), .val (.int qa), .val (.int qa), .val (.int qc), .val (.int qd), .val (.int (Int32.ofNat i)), .val (.int ch), .val (.int (Int32.ofNat i)), .val (.int qc)] [(.int (Int32.ofNat i))]))
      refine Goes.st (fun sT kT => XS.istoreN X23.here hx rfl (hb hby d5_182) rfl (l' := #[.val (.ref a), .val (.ref r), .val (.int (Int32.ofNat i)), .val (.int qa), .val (.int qc), .val (.int qd), .val (.int (Int32.ofNat i)), .val (.int ch), .val (.int (Int32.ofNat i)), .val (.int qc)]) rfl kT) ?_
      show Goes _ _ _ _ (T23.setTop (mkF m 183 #[.val (.ref a), .val (.ref r), .val (.int (Int32.ofNat i)), .val (.int qa), .val (.int qc), .val (.int qd), .val (.int (Int32.ofNat i)), .val (.int ch), .val (.int (Int32.ofNat i)), .val (.int qc)] []))
      refine Goes.st (fun sT kT => XS.iload X23.here hx rfl (hb hby d5_183) rfl kT) ?_
      show Goes _ _ _ _ (T23.setTop (mkF m 185 #[.val (.ref a), .val (.ref r), .val (.int (Int32.ofNat i)), .val (.int qa), .val (.int qc), .val (.int qd), .val (.int (Int32.ofNat i)), .val (.int ch), .val (.int (Int32.ofNat i)), .val (.int qc)] [(.int qc)]))
      refine Goes.st (fun sT kT => XS.istore X23.here hx rfl (hb hby d5_185) rfl (l' := #[.val (.ref a), .val (.ref r), .val (.int (Int32.ofNat i)), .val (.int qa), .val (.int qc), .val (.int qc), .val (.int (Int32.ofNat i)), .val (.int ch), .val (.int (Int32.ofNat i)), .val (.int qc)]) rfl kT) ?_
      show Goes _ _ _ _ (T23.setTop (mkF m 187 #[.val (.ref a), .val (.ref r), .val (.int (Int32.ofNat i)), .val (.int qa), .val (.int qc), .val (.int qc), .val (.int (Int32.ofNat i)), .val (.int ch), .val (.int (Int32.ofNat i)), .val (.int qc)] []))
      refine Goes.st (fun sT kT => XS.iload X23.here hx rfl (hb hby d5_187) rfl kT) ?_
      show Goes _ _ _ _ (T23.setTop (mkF m 189 #[.val (.ref a), .val (.ref r), .val (.int (Int32.ofNat i)), .val (.int qa), .val (.int qc), .val (.int qc), .val (.int (Int32.ofNat i)), .val (.int ch), .val (.int (Int32.ofNat i)), .val (.int qc)] [(.int qc)]))
      refine Goes.st (fun sT kT => XS.istore X23.here hx rfl (hb hby d5_189) rfl (l' := #[.val (.ref a), .val (.ref r), .val (.int (Int32.ofNat i)), .val (.int qa), .val (.int qc), .val (.int qc), .val (.int (Int32.ofNat i)), .val (.int ch), .val (.int (Int32.ofNat i)), .val (.int qc)]) rfl kT) ?_
      show Goes _ _ _ _ (T23.setTop (mkF m 191 #[.val (.ref a), .val (.ref r), .val (.int (Int32.ofNat i)), .val (.int qa), .val (.int qc), .val (.int qc), .val (.int (Int32.ofNat i)), .val (.int ch), .val (.int (Int32.ofNat i)), .val (.int qc)] []))
      refine Goes.st (fun sT kT => XS.iinc X23.here hx rfl (hb hby d5_191) rfl (l' := #[.val (.ref a), .val (.ref r), .val (.int (Int32.ofNat i)), .val (.int qa), .val (.int qc), .val (.int qc), .val (.int ((Int32.ofNat i) + (-1 : Int32))), .val (.int ch), .val (.int (Int32.ofNat i)), .val (.int qc)]) rfl kT) ?_
      show Goes _ _ _ _ (T23.setTop (mkF m 194 #[.val (.ref a), .val (.ref r), .val (.int (Int32.ofNat i)), .val (.int qa), .val (.int qc), .val (.int qc), .val (.int ((Int32.ofNat i) + (-1 : Int32))), .val (.int ch), .val (.int (Int32.ofNat i)), .val (.int qc)] []))
      refine Goes.st (fun sT kT => XS.goto X23.here hx rfl (pc0 := 194) (pc' := 34) rfl (hb hby d5_194) (by decide) (by decide) kT) ?_
      show Goes _ _ _ _ (T23.setTop (mkF m 34 #[.val (.ref a), .val (.ref r), .val (.int (Int32.ofNat i)), .val (.int qa), .val (.int qc), .val (.int qc), .val (.int ((Int32.ofNat i) + (-1 : Int32))), .val (.int ch), .val (.int (Int32.ofNat i)), .val (.int qc)] []))
      have kp24 : Keep h0 h23 [] := Kjl.wr W23 (Or.inr l0jl_r)
      have f25 : Str Z h23 a t kb cs := (Pjl_1.other W23 nejl_0 nejl_1)
      have f26 : Old Z n0 h23 := (Pjl_2.wr W23 n0jl_r)
      exact ih T23 h23 _ r kr (us.set i (-1 : Int32)) ((Int32.ofNat i) + (-1 : Int32)) (Int32.ofNat i) qa qc qc (.val (.int ch)) (.val (.int (Int32.ofNat i))) (.val (.int qc)) (X23.more (by decide) (by decide)) e23 N23 (Nat.le_trans Zjl (Nat.le_of_eq W23.size.symm)) kp24 n0jl_r l0jl_r V23 f25 f26 nejl_0 nejl_1 (own_m1 _) (Nat.le_of_lt hil) (by rw [List.length_set]; exact hlen) (own_hv hvs (own_E2 hil (fun q => cz14 (hch.trans q)) (Or.inl (hch.symm.trans cz20)) (by rw [← hch, cz20, ← hqa]; exact cz21)).symm (by omega)) ((own_N2 hil (by rw [← hch, cz20]; decide) (hch.symm.trans cz20)).symm) hqa (hqc.trans (own_N3 hil (by rw [← hch, cz20]; decide) (by rw [← hch, cz20]; decide)).symm) hqc (Or.inr ⟨_, rfl, rfl⟩) (Or.inr ⟨_, rfl, rfl⟩) (Or.inr ⟨_, rfl, rfl⟩)
     case neg =>
      obtain ⟨k, k1, k2, k3⟩ := (own_Nr cs 39 _ (i + 1) (Nat.le_refl _)).resolve_left (fun z => cz21 (by rw [hqa, z]; decide))
      have hqk : qa = Int32.ofNat k := hqa.trans k3
      refine Goes.st (fun sT kT => XS.ifYes X13.here hx rfl (pc0 := 97) (pc' := 104) rfl (hb hby d5_97) rfl ((if0 _ _).trans (flt cz21).2.1) (by decide) (by decide) kT) ?_
      show Goes _ _ _ _ (T13.setTop (mkF m 104 #[.val (.ref a), .val (.ref r), .val (.int qa), .val (.int qb), .val (.int qc), .val (.int qd), .val (.int (Int32.ofNat i)), .val (.int ch), .val (.int qa), l9] [(.int (Int32.ofNat i)), (.ref r)]))
      refine Goes.st (fun sT kT => XS.aloadN X13.here hx rfl (hb hby d5_104) rfl rfl kT) ?_
      show Goes _ _ _ _ (T13.setTop (mkF m 105 #[.val (.ref a), .val (.ref r), .val (.int qa), .val (.int qb), .val (.int qc), .val (.int qd), .val (.int (Int32.ofNat i)), .val (.int ch), .val (.int qa), l9] [(.ref r), (.int (Int32.ofNat i)), (.ref r)]))
      refine Goes.st (fun sT kT => XS.iload X13.here hx rfl (hb hby d5_105) rfl kT) ?_
      show Goes _ _ _ _ (T13.setTop (mkF m 107 #[.val (.ref a), .val (.ref r), .val (.int qa), .val (.int qb), .val (.int qc), .val (.int qd), .val (.int (Int32.ofNat i)), .val (.int ch), .val (.int qa), l9] [(.int qa), (.ref r), (.int (Int32.ofNat i)), (.ref r)]))
      refine Goes.st (fun sT kT => XS.iconst X13.here hx rfl (hb hby d5_107) kT) ?_
      show Goes _ _ _ _ (T13.setTop (mkF m 108 #[.val (.ref a), .val (.ref r), .val (.int qa), .val (.int qb), .val (.int qc), .val (.int qd), .val (.int (Int32.ofNat i)), .val (.int ch), .val (.int qa), l9] [(.int (1 : Int32)), (.int qa), (.ref r), (.int (Int32.ofNat i)), (.ref r)]))
      refine Goes.st (fun sT kT => XS.iadd X13.here hx rfl (hb hby d5_108) rfl kT) ?_
      show Goes _ _ _ _ (T13.setTop (mkF m 109 #[.val (.ref a), .val (.ref r), .val (.int qa), .val (.int qb), .val (.int qc), .val (.int qd), .val (.int (Int32.ofNat i)), .val (.int ch), .val (.int qa), l9] [(.int (qa + (1 : Int32))), (.ref r), (.int (Int32.ofNat i)), (.ref r)]))
      rw [show (qa + (1 : Int32)) = Int32.ofNat (k + 1) from by rw [hqk]; exact own_nadd1 k]
      show Goes _ _ _ _ (T13.setTop (mkF m 109 #[.val (.ref a), .val (.ref r), .val (.int qa), .val (.int qb), .val (.int qc), .val (.int qd), .val (.int (Int32.ofNat i)), .val (.int ch), .val (.int qa), l9] [(.int (Int32.ofNat (k + 1))), (.ref r), (.int (Int32.ofNat i)), (.ref r)]))
      obtain ⟨oc27, oA27, oq27, oS27, oM27, oH27, oG27⟩ := id Pjl_0
      refine Goes.st (fun sT kT => X13.iaload hx (j := (Int32.ofNat (k + 1))) (v := (.int (own_E cs (k + 1)))) (by rw [K13]; exact oA27.1) (State.isArrayOf_alike hZ.alike oA27.2.1) oA27.2.2 (inb_of oS27 (own_ib (by omega) (by omega))) (oH27.at (inb_of oS27 (own_ib (by omega) (by omega))) (own_gs (by omega) (hvs (k + 1) (by omega) (by omega)))) (g := (mkF m 109 #[.val (.ref a), .val (.ref r), .val (.int qa), .val (.int qb), .val (.int qc), .val (.int qd), .val (.int (Int32.ofNat i)), .val (.int ch), .val (.int qa), l9] [(.int (Int32.ofNat (k + 1))), (.ref r), (.int (Int32.ofNat i)), (.ref r)])) rfl rfl (hb hby d5_109) _ kT) ?_
      show Goes _ _ _ _ (T13.setTop (mkF m 110 #[.val (.ref a), .val (.ref r), .val (.int qa), .val (.int qb), .val (.int qc), .val (.int qd), .val (.int (Int32.ofNat i)), .val (.int ch), .val (.int qa), l9] [(.int (own_E cs (k + 1))), (.int (Int32.ofNat i)), (.ref r)]))
      obtain ⟨oc28, oA28, oq28, oS28, oM28, oH28, oG28⟩ := id Pjl_0
      obtain ⟨T29, h29, X29, e29, W29, st29⟩ := stI X13 hx hZ K13 oA28 (j := (Int32.ofNat i)) (inb_of oS28 (own_ib (by omega) (by omega))) (g := (mkF m 110 #[.val (.ref a), .val (.ref r), .val (.int qa), .val (.int qb), .val (.int qc), .val (.int qd), .val (.int (Int32.ofNat i)), .val (.int ch), .val (.int qa), l9] [(.int (own_E cs (k + 1))), (.int (Int32.ofNat i)), (.ref r)])) rfl rfl (hb hby d5_110)
      have V29 : Arv Z h29 r kr .int (Int32.ofNat (cs.length + 1)) ((us.set i (own_E cs (k + 1))).map Value.int) (.int (0 : Int32)) := own_ms _ _ _ ▸ Arv.set oA28 oq28 oS28 oM28 oH28 oG28 rfl W29 (i) (own_nclamp (by omega)) (by rw [List.length_map]; omega)
      have N29 := Fr.snoc X29 N13 n0jl_r
      refine Goes.st st29 ?_
      show Goes _ _ _ _ (T29.setTop (mkF m 111 #[.val (.ref a), .val (.ref r), .val (.int qa), .val (.int qb), .val (.int qc), .val (.int qd), .val (.int (Int32.ofNat i)), .val (.int ch), .val (.int qa), l9] []))
      refine Goes.st (fun sT kT => XS.goto X29.here hx rfl (pc0 := 111) (pc' := 124) rfl (hb hby d5_111) (by decide) (by decide) kT) ?_
      show Goes _ _ _ _ (T29.setTop (mkF m 124 #[.val (.ref a), .val (.ref r), .val (.int qa), .val (.int qb), .val (.int qc), .val (.int qd), .val (.int (Int32.ofNat i)), .val (.int ch), .val (.int qa), l9] []))
      refine Goes.st (fun sT kT => XS.iload X29.here hx rfl (hb hby d5_124) rfl kT) ?_
      show Goes _ _ _ _ (T29.setTop (mkF m 126 #[.val (.ref a), .val (.ref r), .val (.int qa), .val (.int qb), .val (.int qc), .val (.int qd), .val (.int (Int32.ofNat i)), .val (.int ch), .val (.int qa), l9] [(.int ch)]))
      refine Goes.st (fun sT kT => XS.bipush X29.here hx rfl (hb hby d5_126) kT) ?_
      show Goes _ _ _ _ (T29.setTop (mkF m 128 #[.val (.ref a), .val (.ref r), .val (.int qa), .val (.int qb), .val (.int qc), .val (.int qd), .val (.int (Int32.ofNat i)), .val (.int ch), .val (.int qa), l9] [(.int (92 : Int32)), (.int ch)]))
      refine Goes.st (fun sT kT => XS.icmpYes X29.here hx rfl (pc0 := 128) (pc' := 135) rfl (hb hby d5_128) rfl (feq (by rw [cz20]; decide)).2 (by decide) (by decide) kT) ?_
      show Goes _ _ _ _ (T29.setTop (mkF m 135 #[.val (.ref a), .val (.ref r), .val (.int qa), .val (.int qb), .val (.int qc), .val (.int qd), .val (.int (Int32.ofNat i)), .val (.int ch), .val (.int qa), l9] []))
      refine Goes.st (fun sT kT => XS.iload X29.here hx rfl (hb hby d5_135) rfl kT) ?_
      show Goes _ _ _ _ (T29.setTop (mkF m 137 #[.val (.ref a), .val (.ref r), .val (.int qa), .val (.int qb), .val (.int qc), .val (.int qd), .val (.int (Int32.ofNat i)), .val (.int ch), .val (.int qa), l9] [(.int ch)]))
      refine Goes.st (fun sT kT => XS.bipush X29.here hx rfl (hb hby d5_137) kT) ?_
      show Goes _ _ _ _ (T29.setTop (mkF m 139 #[.val (.ref a), .val (.ref r), .val (.int qa), .val (.int qb), .val (.int qc), .val (.int qd), .val (.int (Int32.ofNat i)), .val (.int ch), .val (.int qa), l9] [(.int (39 : Int32)), (.int ch)]))
      refine Goes.st (fun sT kT => XS.icmpNo X29.here hx rfl (hb hby d5_139) rfl (teq cz20).2 kT) ?_
      show Goes _ _ _ _ (T29.setTop (mkF m 142 #[.val (.ref a), .val (.ref r), .val (.int qa), .val (.int qb), .val (.int qc), .val (.int qd), .val (.int (Int32.ofNat i)), .val (.int ch), .val (.int qa), l9] []))
      refine Goes.st (fun sT kT => XS.iload X29.here hx rfl (hb hby d5_142) rfl kT) ?_
      show Goes _ _ _ _ (T29.setTop (mkF m 144 #[.val (.ref a), .val (.ref r), .val (.int qa), .val (.int qb), .val (.int qc), .val (.int qd), .val (.int (Int32.ofNat i)), .val (.int ch), .val (.int qa), l9] [(.int (Int32.ofNat i))]))
      refine Goes.st (fun sT kT => XS.goto X29.here hx rfl (pc0 := 144) (pc' := 148) rfl (hb hby d5_144) (by decide) (by decide) kT) ?_
      show Goes _ _ _ _ (T29.setTop (mkF m 148 #[.val (.ref a), .val (.ref r), .val (.int qa), .val (.int qb), .val (.int qc), .val (.int qd), .val (.int (Int32.ofNat i)), .val (.int ch), .val (.int qa), l9] [(.int (Int32.ofNat i))]))
      refine Goes.st (fun sT kT => XS.istore X29.here hx rfl (hb hby d5_148) rfl (l' := #[.val (.ref a), .val (.ref r), .val (.int qa), .val (.int qb), .val (.int qc), .val (.int qd), .val (.int (Int32.ofNat i)), .val (.int ch), .val (.int (Int32.ofNat i)), l9]) rfl kT) ?_
      show Goes _ _ _ _ (T29.setTop (mkF m 150 #[.val (.ref a), .val (.ref r), .val (.int qa), .val (.int qb), .val (.int qc), .val (.int qd), .val (.int (Int32.ofNat i)), .val (.int ch), .val (.int (Int32.ofNat i)), l9] []))
      refine Goes.st (fun sT kT => XS.iload X29.here hx rfl (hb hby d5_150) rfl kT) ?_
      show Goes _ _ _ _ (T29.setTop (mkF m 152 #[.val (.ref a), .val (.ref r), .val (.int qa), .val (.int qb), .val (.int qc), .val (.int qd), .val (.int (Int32.ofNat i)), .val (.int ch), .val (.int (Int32.ofNat i)), l9] [(.int ch)]))
      refine Goes.st (fun sT kT => XS.bipush X29.here hx rfl (hb hby d5_152) kT) ?_
      show Goes _ _ _ _ (T29.setTop (mkF m 154 #[.val (.ref a), .val (.ref r), .val (.int qa), .val (.int qb), .val (.int qc), .val (.int qd), .val (.int (Int32.ofNat i)), .val (.int ch), .val (.int (Int32.ofNat i)), l9] [(.int (92 : Int32)), (.int ch)]))
      refine Goes.st (fun sT kT => XS.icmpYes X29.here hx rfl (pc0 := 154) (pc' := 162) rfl (hb hby d5_154) rfl (feq (by rw [cz20]; decide)).2 (by decide) (by decide) kT) ?_
      show Goes _ _ _ _ (T29.setTop (mkF m 162 #[.val (.ref a), .val (.ref r), .val (.int qa), .val (.int qb), .val (.int qc), .val (.int qd), .val (.int (Int32.ofNat i)), .val (.int ch), .val (.int (Int32.ofNat i)), l9] []))
      refine Goes.st (fun sT kT => XS.iload X29.here hx rfl (hb hby d5_162) rfl kT) ?_
      show Goes _ _ _ _ (T29.setTop (mkF m 164 #[.val (.ref a), .val (.ref r), .val (.int qa), .val (.int qb), .val (.int qc), .val (.int qd), .val (.int (Int32.ofNat i)), .val (.int ch), .val (.int (Int32.ofNat i)), l9] [(.int ch)]))
      refine Goes.st (fun sT kT => XS.bipush X29.here hx rfl (hb hby d5_164) kT) ?_
      show Goes _ _ _ _ (T29.setTop (mkF m 166 #[.val (.ref a), .val (.ref r), .val (.int qa), .val (.int qb), .val (.int qc), .val (.int qd), .val (.int (Int32.ofNat i)), .val (.int ch), .val (.int (Int32.ofNat i)), l9] [(.int (34 : Int32)), (.int ch)]))
      refine Goes.st (fun sT kT => XS.icmpYes X29.here hx rfl (pc0 := 166) (pc' := 174) rfl (hb hby d5_166) rfl (feq (by rw [cz20]; decide)).2 (by decide) (by decide) kT) ?_
      show Goes _ _ _ _ (T29.setTop (mkF m 174 #[.val (.ref a), .val (.ref r), .val (.int qa), .val (.int qb), .val (.int qc), .val (.int qd), .val (.int (Int32.ofNat i)), .val (.int ch), .val (.int (Int32.ofNat i)), l9] []))
      refine Goes.st (fun sT kT => XS.iload X29.here hx rfl (hb hby d5_174) rfl kT) ?_
      show Goes _ _ _ _ (T29.setTop (mkF m 176 #[.val (.ref a), .val (.ref r), .val (.int qa), .val (.int qb), .val (.int qc), .val (.int qd), .val (.int (Int32.ofNat i)), .val (.int ch), .val (.int (Int32.ofNat i)), l9] [(.int qc)]))
      refine Goes.st (fun sT kT => XS.istore X29.here hx rfl (hb hby d5_176) rfl (XS.store1 (v := (.int qc)) rfl hl9 rfl) kT) ?_
      show Goes _ _ _ _ (T29.setTop (mkF m 178 #[.val (.ref a), .val (.ref r), .val (.int qa), .val (.int qb), .val (.int qc), .val (.int qd), .val (.int (Int32.ofNat i)), .val (.int ch), .val (.int (Int32.ofNat i)), .val (.int qc)] []))
      refine Goes.st (fun sT kT => XS.iloadN X29.here hx rfl (hb hby d5_178) rfl kT) ?_
      show Goes _ _ _ _ (T29.setTop (mkF m 179 #[.val (.ref a), .val (.ref r), .val (.int qa), .val (.int qb), .val (.int qc), .val (.int qd), .val (.int (Int32.ofNat i)), .val (.int ch), .val (.int (Int32.ofNat i)), .val (.int qc)] [(.int qa)]))
      refine Goes.st (fun sT kT => XS.istoreN X29.here hx rfl (hb hby d5_179) rfl (l' := #[.val (.ref a), .val (.ref r), .val (.int qa), .val (.int qa), .val (.int qc), .val (.int qd), .val (.int (Int32.ofNat i)), .val (.int ch), .val (.int (Int32.ofNat i)), .val (.int qc)]) rfl kT) ?_
      show Goes _ _ _ _ (T29.setTop (mkF m 180 #[.val (.ref a), .val (.ref r), .val (.int qa), .val (.int qa), .val (.int qc), .val (.int qd), .val (.int (Int32.ofNat i)), .val (.int ch), .val (.int (Int32.ofNat i)), .val (.int qc)] []))
      refine Goes.st (fun sT kT => XS.iload X29.here hx rfl (hb hby d5_180) rfl kT) ?_
      show Goes _ _ _ _ (T29.setTop (mkF m 182 #[.val (.ref a), .val (.ref r), .val (.int qa), .val (.int qa), .val (.int qc), .val (.int qd), .val (.int (Int32.ofNat i)), .val (.int ch), .val (.int (Int32.ofNat i)), .val (.int qc)] [(.int (Int32.ofNat i))]))
      refine Goes.st (fun sT kT => XS.istoreN X29.here hx rfl (hb hby d5_182) rfl (l' := #[.val (.ref a), .val (.ref r), .val (.int (Int32.ofNat i)), .val (.int qa), .val (.int qc), .val (.int qd), .val (.int (Int32.ofNat i)), .val (.int ch), .val (.int (Int32.ofNat i)), .val (.int qc)]) rfl kT) ?_
      show Goes _ _ _ _ (T29.setTop (mkF m 183 #[.val (.ref a), .val (.ref r), .val (.int (Int32.ofNat i)), .val (.int qa), .val (.int qc), .val (.int qd), .val (.int (Int32.ofNat i)), .val (.int ch), .val (.int (Int32.ofNat i)), .val (.int qc)] []))
      refine Goes.st (fun sT kT => XS.iload X29.here hx rfl (hb hby d5_183) rfl kT) ?_
      show Goes _ _ _ _ (T29.setTop (mkF m 185 #[.val (.ref a), .val (.ref r), .val (.int (Int32.ofNat i)), .val (.int qa), .val (.int qc), .val (.int qd), .val (.int (Int32.ofNat i)), .val (.int ch), .val (.int (Int32.ofNat i)), .val (.int qc)] [(.int qc)]))
      refine Goes.st (fun sT kT => XS.istore X29.here hx rfl (hb hby d5_185) rfl (l' := #[.val (.ref a), .val (.ref r), .val (.int (Int32.ofNat i)), .val (.int qa), .val (.int qc), .val (.int qc), .val (.int (Int32.ofNat i)), .val (.int ch), .val (.int (Int32.ofNat i)), .val (.int qc)]) rfl kT) ?_
      show Goes _ _ _ _ (T29.setTop (mkF m 187 #[.val (.ref a), .val (.ref r), .val (.int (Int32.ofNat i)), .val (.int qa), .val (.int qc), .val (.int qc), .val (.int (Int32.ofNat i)), .val (.int ch), .val (.int (Int32.ofNat i)), .val (.int qc)] []))
      refine Goes.st (fun sT kT => XS.iload X29.here hx rfl (hb hby d5_187) rfl kT) ?_
      show Goes _ _ _ _ (T29.setTop (mkF m 189 #[.val (.ref a), .val (.ref r), .val (.int (Int32.ofNat i)), .val (.int qa), .val (.int qc), .val (.int qc), .val (.int (Int32.ofNat i)), .val (.int ch), .val (.int (Int32.ofNat i)), .val (.int qc)] [(.int qc)]))
      refine Goes.st (fun sT kT => XS.istore X29.here hx rfl (hb hby d5_189) rfl (l' := #[.val (.ref a), .val (.ref r), .val (.int (Int32.ofNat i)), .val (.int qa), .val (.int qc), .val (.int qc), .val (.int (Int32.ofNat i)), .val (.int ch), .val (.int (Int32.ofNat i)), .val (.int qc)]) rfl kT) ?_
      show Goes _ _ _ _ (T29.setTop (mkF m 191 #[.val (.ref a), .val (.ref r), .val (.int (Int32.ofNat i)), .val (.int qa), .val (.int qc), .val (.int qc), .val (.int (Int32.ofNat i)), .val (.int ch), .val (.int (Int32.ofNat i)), .val (.int qc)] []))
      refine Goes.st (fun sT kT => XS.iinc X29.here hx rfl (hb hby d5_191) rfl (l' := #[.val (.ref a), .val (.ref r), .val (.int (Int32.ofNat i)), .val (.int qa), .val (.int qc), .val (.int qc), .val (.int ((Int32.ofNat i) + (-1 : Int32))), .val (.int ch), .val (.int (Int32.ofNat i)), .val (.int qc)]) rfl kT) ?_
      show Goes _ _ _ _ (T29.setTop (mkF m 194 #[.val (.ref a), .val (.ref r), .val (.int (Int32.ofNat i)), .val (.int qa), .val (.int qc), .val (.int qc), .val (.int ((Int32.ofNat i) + (-1 : Int32))), .val (.int ch), .val (.int (Int32.ofNat i)), .val (.int qc)] []))
      refine Goes.st (fun sT kT => XS.goto X29.here hx rfl (pc0 := 194) (pc' := 34) rfl (hb hby d5_194) (by decide) (by decide) kT) ?_
      show Goes _ _ _ _ (T29.setTop (mkF m 34 #[.val (.ref a), .val (.ref r), .val (.int (Int32.ofNat i)), .val (.int qa), .val (.int qc), .val (.int qc), .val (.int ((Int32.ofNat i) + (-1 : Int32))), .val (.int ch), .val (.int (Int32.ofNat i)), .val (.int qc)] []))
      have kp30 : Keep h0 h29 [] := Kjl.wr W29 (Or.inr l0jl_r)
      have f31 : Str Z h29 a t kb cs := (Pjl_1.other W29 nejl_0 nejl_1)
      have f32 : Old Z n0 h29 := (Pjl_2.wr W29 n0jl_r)
      exact ih T29 h29 _ r kr (us.set i (own_E cs (k + 1))) ((Int32.ofNat i) + (-1 : Int32)) (Int32.ofNat i) qa qc qc (.val (.int ch)) (.val (.int (Int32.ofNat i))) (.val (.int qc)) (X29.more (by decide) (by decide)) e29 N29 (Nat.le_trans Zjl (Nat.le_of_eq W29.size.symm)) kp30 n0jl_r l0jl_r V29 f31 f32 nejl_0 nejl_1 (own_m1 _) (Nat.le_of_lt hil) (by rw [List.length_set]; exact hlen) (own_hv hvs (own_E3 (by omega) hil (fun q => cz14 (hch.trans q)) (Or.inl (hch.symm.trans cz20)) k1 k2 (by rw [← hch, cz20]; exact k3)).symm (by omega)) ((own_N2 hil (by rw [← hch, cz20]; decide) (hch.symm.trans cz20)).symm) hqa (hqc.trans (own_N3 hil (by rw [← hch, cz20]; decide) (by rw [← hch, cz20]; decide)).symm) hqc (Or.inr ⟨_, rfl, rfl⟩) (Or.inr ⟨_, rfl, rfl⟩) (Or.inr ⟨_, rfl, rfl⟩)
    case neg =>
     refine Goes.st (fun sT kT => XS.icmpNo X13.here hx rfl (hb hby d5_67) rfl (feq cz20).1 kT) ?_
     show Goes _ _ _ _ (T13.setTop (mkF m 70 #[.val (.ref a), .val (.ref r), .val (.int qa), .val (.int qb), .val (.int qc), .val (.int qd), .val (.int (Int32.ofNat i)), .val (.int ch), l8, l9] []))
     refine Goes.st (fun sT kT => XS.iload X13.here hx rfl (hb hby d5_70) rfl kT) ?_
     show Goes _ _ _ _ (T13.setTop (mkF m 72 #[.val (.ref a), .val (.ref r), .val (.int qa), .val (.int qb), .val (.int qc), .val (.int qd), .val (.int (Int32.ofNat i)), .val (.int ch), l8, l9] [(.int ch)]))
     refine Goes.st (fun sT kT => XS.bipush X13.here hx rfl (hb hby d5_72) kT) ?_
     show Goes _ _ _ _ (T13.setTop (mkF m 74 #[.val (.ref a), .val (.ref r), .val (.int qa), .val (.int qb), .val (.int qc), .val (.int qd), .val (.int (Int32.ofNat i)), .val (.int ch), l8, l9] [(.int (34 : Int32)), (.int ch)]))
     by_cases cz33 : ch = (34 : Int32)
     case pos =>
      refine Goes.st (fun sT kT => XS.icmpNo X13.here hx rfl (hb hby d5_74) rfl (teq cz33).2 kT) ?_
      show Goes _ _ _ _ (T13.setTop (mkF m 77 #[.val (.ref a), .val (.ref r), .val (.int qa), .val (.int qb), .val (.int qc), .val (.int qd), .val (.int (Int32.ofNat i)), .val (.int ch), l8, l9] []))
      refine Goes.st (fun sT kT => XS.iload X13.here hx rfl (hb hby d5_77) rfl kT) ?_
      show Goes _ _ _ _ (T13.setTop (mkF m 79 #[.val (.ref a), .val (.ref r), .val (.int qa), .val (.int qb), .val (.int qc), .val (.int qd), .val (.int (Int32.ofNat i)), .val (.int ch), l8, l9] [(.int ch)]))
      refine Goes.st (fun sT kT => XS.bipush X13.here hx rfl (hb hby d5_79) kT) ?_
      show Goes _ _ _ _ (T13.setTop (mkF m 81 #[.val (.ref a), .val (.ref r), .val (.int qa), .val (.int qb), .val (.int qc), .val (.int qd), .val (.int (Int32.ofNat i)), .val (.int ch), l8, l9] [(.int (39 : Int32)), (.int ch)]))
      refine Goes.st (fun sT kT => XS.icmpYes X13.here hx rfl (pc0 := 81) (pc' := 88) rfl (hb hby d5_81) rfl (feq cz20).2 (by decide) (by decide) kT) ?_
      show Goes _ _ _ _ (T13.setTop (mkF m 88 #[.val (.ref a), .val (.ref r), .val (.int qa), .val (.int qb), .val (.int qc), .val (.int qd), .val (.int (Int32.ofNat i)), .val (.int ch), l8, l9] []))
      refine Goes.st (fun sT kT => XS.iload X13.here hx rfl (hb hby d5_88) rfl kT) ?_
      show Goes _ _ _ _ (T13.setTop (mkF m 90 #[.val (.ref a), .val (.ref r), .val (.int qa), .val (.int qb), .val (.int qc), .val (.int qd), .val (.int (Int32.ofNat i)), .val (.int ch), l8, l9] [(.int qc)]))
      refine Goes.st (fun sT kT => XS.istore X13.here hx rfl (hb hby d5_90) rfl (XS.store1 (v := (.int qc)) rfl hl8 rfl) kT) ?_
      show Goes _ _ _ _ (T13.setTop (mkF m 92 #[.val (.ref a), .val (.ref r), .val (.int qa), .val (.int qb), .val (.int qc), .val (.int qd), .val (.int (Int32.ofNat i)), .val (.int ch), .val (.int qc), l9] []))
      refine Goes.st (fun sT kT => XS.aloadN X13.here hx rfl (hb hby d5_92) rfl rfl kT) ?_
      show Goes _ _ _ _ (T13.setTop (mkF m 93 #[.val (.ref a), .val (.ref r), .val (.int qa), .val (.int qb), .val (.int qc), .val (.int qd), .val (.int (Int32.ofNat i)), .val (.int ch), .val (.int qc), l9] [(.ref r)]))
      refine Goes.st (fun sT kT => XS.iload X13.here hx rfl (hb hby d5_93) rfl kT) ?_
      show Goes _ _ _ _ (T13.setTop (mkF m 95 #[.val (.ref a), .val (.ref r), .val (.int qa), .val (.int qb), .val (.int qc), .val (.int qd), .val (.int (Int32.ofNat i)), .val (.int ch), .val (.int qc), l9] [(.int (Int32.ofNat i)), (.ref r)]))
      refine Goes.st (fun sT kT => XS.iload X13.here hx rfl (hb hby d5_95) rfl kT) ?_
      show Goes _ _ _ _ (T13.setTop (mkF m 97 #[.val (.ref a), .val (.ref r), .val (.int qa), .val (.int qb), .val (.int qc), .val (.int qd), .val (.int (Int32.ofNat i)), .val (.int ch), .val (.int qc), l9] [(.int qc), (.int (Int32.ofNat i)), (.ref r)]))
      by_cases cz34 : qc < (0 : Int32)
      case pos =>
       refine Goes.st (fun sT kT => XS.ifNo X13.here hx rfl (hb hby d5_97) rfl ((if0 _ _).trans (tlt cz34).2.1) kT) ?_
       show Goes _ _ _ _ (T13.setTop (mkF m 100 #[.val (.ref a), .val (.ref r), .val (.int qa), .val (.int qb), .val (.int qc), .val (.int qd), .val (.int (Int32.ofNat i)), .val (.int ch), .val (.int qc), l9] [(.int (Int32.ofNat i)), (.ref r)]))
       refine Goes.st (fun sT kT => XS.iconst X13.here hx rfl (hb hby d5_100) kT) ?_
       show Goes _ _ _ _ (T13.setTop (mkF m 101 #[.val (.ref a), .val (.ref r), .val (.int qa), .val (.int qb), .val (.int qc), .val (.int qd), .val (.int (Int32.ofNat i)), .val (.int ch), .val (.int qc), l9] [(.int (-1 : Int32)), (.int (Int32.ofNat i)), (.ref r)]))
       refine Goes.st (fun sT kT => XS.goto X13.here hx rfl (pc0 := 101) (pc' := 110) rfl (hb hby d5_101) (by decide) (by decide) kT) ?_
       show Goes _ _ _ _ (T13.setTop (mkF m 110 #[.val (.ref a), .val (.ref r), .val (.int qa), .val (.int qb), .val (.int qc), .val (.int qd), .val (.int (Int32.ofNat i)), .val (.int ch), .val (.int qc), l9] [(.int (-1 : Int32)), (.int (Int32.ofNat i)), (.ref r)]))
       obtain ⟨oc35, oA35, oq35, oS35, oM35, oH35, oG35⟩ := id Pjl_0
       obtain ⟨T36, h36, X36, e36, W36, st36⟩ := stI X13 hx hZ K13 oA35 (j := (Int32.ofNat i)) (inb_of oS35 (own_ib (by omega) (by omega))) (g := (mkF m 110 #[.val (.ref a), .val (.ref r), .val (.int qa), .val (.int qb), .val (.int qc), .val (.int qd), .val (.int (Int32.ofNat i)), .val (.int ch), .val (.int qc), l9] [(.int (-1 : Int32)), (.int (Int32.ofNat i)), (.ref r)])) rfl rfl (hb hby d5_110)
       have V36 : Arv Z h36 r kr .int (Int32.ofNat (cs.length + 1)) ((us.set i (-1 : Int32)).map Value.int) (.int (0 : Int32)) := own_ms _ _ _ ▸ Arv.set oA35 oq35 oS35 oM35 oH35 oG35 rfl W36 (i) (own_nclamp (by omega)) (by rw [List.length_map]; omega)
       have N36 := Fr.snoc X36 N13 n0jl_r
       refine Goes.st st36 ?_
       show Goes _ _ _ _ (T36.setTop (mkF m 111 #[.val (.ref a), .val (.ref r), .val (.int qa), .val (.int qb), .val (.int qc), .val (.int qd), .val (.int (Int32.ofNat i)), .val (.int ch), .val (.int qc), l9] []))
       refine Goes.st (fun sT kT => XS.goto X36.here hx rfl (pc0 := 111) (pc' := 124) rfl (hb hby d5_111) (by decide) (by decide) kT) ?_
       show Goes _ _ _ _ (T36.setTop (mkF m 124 #[.val (.ref a), .val (.ref r), .val (.int qa), .val (.int qb), .val (.int qc), .val (.int qd), .val (.int (Int32.ofNat i)), .val (.int ch), .val (.int qc), l9] []))
       refine Goes.st (fun sT kT => XS.iload X36.here hx rfl (hb hby d5_124) rfl kT) ?_
       show Goes _ _ _ _ (T36.setTop (mkF m 126 #[.val (.ref a), .val (.ref r), .val (.int qa), .val (.int qb), .val (.int qc), .val (.int qd), .val (.int (Int32.ofNat i)), .val (.int ch), .val (.int qc), l9] [(.int ch)]))
       refine Goes.st (fun sT kT => XS.bipush X36.here hx rfl (hb hby d5_126) kT) ?_
       show Goes _ _ _ _ (T36.setTop (mkF m 128 #[.val (.ref a), .val (.ref r), .val (.int qa), .val (.int qb), .val (.int qc), .val (.int qd), .val (.int (Int32.ofNat i)), .val (.int ch), .val (.int qc), l9] [(.int (92 : Int32)), (.int ch)]))
       refine Goes.st (fun sT kT => XS.icmpYes X36.here hx rfl (pc0 := 128) (pc' := 135) rfl (hb hby d5_128) rfl (feq (by rw [cz33]; decide)).2 (by decide) (by decide) kT) ?_
       show Goes _ _ _ _ (T36.setTop (mkF m 135 #[.val (.ref a), .val (.ref r), .val (.int qa), .val (.int qb), .val (.int qc), .val (.int qd), .val (.int (Int32.ofNat i)), .val (.int ch), .val (.int qc), l9] []))
       refine Goes.st (fun sT kT => XS.iload X36.here hx rfl (hb hby d5_135) rfl kT) ?_
       show Goes _ _ _ _ (T36.setTop (mkF m 137 #[.val (.ref a), .val (.ref r), .val (.int qa), .val (.int qb), .val (.int qc), .val (.int qd), .val (.int (Int32.ofNat i)), .val (.int ch), .val (.int qc), l9] [(.int ch)]))
       refine Goes.st (fun sT kT => XS.bipush X36.here hx rfl (hb hby d5_137) kT) ?_
       show Goes _ _ _ _ (T36.setTop (mkF m 139 #[.val (.ref a), .val (.ref r), .val (.int qa), .val (.int qb), .val (.int qc), .val (.int qd), .val (.int (Int32.ofNat i)), .val (.int ch), .val (.int qc), l9] [(.int (39 : Int32)), (.int ch)]))
       refine Goes.st (fun sT kT => XS.icmpYes X36.here hx rfl (pc0 := 139) (pc' := 147) rfl (hb hby d5_139) rfl (feq cz20).2 (by decide) (by decide) kT) ?_
       show Goes _ _ _ _ (T36.setTop (mkF m 147 #[.val (.ref a), .val (.ref r), .val (.int qa), .val (.int qb), .val (.int qc), .val (.int qd), .val (.int (Int32.ofNat i)), .val (.int ch), .val (.int qc), l9] []))
       refine Goes.st (fun sT kT => XS.iloadN X36.here hx rfl (hb hby d5_147) rfl kT) ?_
       show Goes _ _ _ _ (T36.setTop (mkF m 148 #[.val (.ref a), .val (.ref r), .val (.int qa), .val (.int qb), .val (.int qc), .val (.int qd), .val (.int (Int32.ofNat i)), .val (.int ch), .val (.int qc), l9] [(.int qa)]))
       refine Goes.st (fun sT kT => XS.istore X36.here hx rfl (hb hby d5_148) rfl (l' := #[.val (.ref a), .val (.ref r), .val (.int qa), .val (.int qb), .val (.int qc), .val (.int qd), .val (.int (Int32.ofNat i)), .val (.int ch), .val (.int qa), l9]) rfl kT) ?_
       show Goes _ _ _ _ (T36.setTop (mkF m 150 #[.val (.ref a), .val (.ref r), .val (.int qa), .val (.int qb), .val (.int qc), .val (.int qd), .val (.int (Int32.ofNat i)), .val (.int ch), .val (.int qa), l9] []))
       refine Goes.st (fun sT kT => XS.iload X36.here hx rfl (hb hby d5_150) rfl kT) ?_
       show Goes _ _ _ _ (T36.setTop (mkF m 152 #[.val (.ref a), .val (.ref r), .val (.int qa), .val (.int qb), .val (.int qc), .val (.int qd), .val (.int (Int32.ofNat i)), .val (.int ch), .val (.int qa), l9] [(.int ch)]))
       refine Goes.st (fun sT kT => XS.bipush X36.here hx rfl (hb hby d5_152) kT) ?_
       show Goes _ _ _ _ (T36.setTop (mkF m 154 #[.val (.ref a), .val (.ref r), .val (.int qa), .val (.int qb), .val (.int qc), .val (.int qd), .val (.int (Int32.ofNat i)), .val (.int ch), .val (.int qa), l9] [(.int (92 : Int32)), (.int ch)]))
       refine Goes.st (fun sT kT => XS.icmpYes X36.here hx rfl (pc0 := 154) (pc' := 162) rfl (hb hby d5_154) rfl (feq (by rw [cz33]; decide)).2 (by decide) (by decide) kT) ?_
       show Goes _ _ _ _ (T36.setTop (mkF m 162 #[.val (.ref a), .val (.ref r), .val (.int qa), .val (.int qb), .val (.int qc), .val (.int qd), .val (.int (Int32.ofNat i)), .val (.int ch), .val (.int qa), l9] []))
       refine Goes.st (fun sT kT => XS.iload X36.here hx rfl (hb hby d5_162) rfl kT) ?_
       show Goes _ _ _ _ (T36.setTop (mkF m 164 #[.val (.ref a), .val (.ref r), .val (.int qa), .val (.int qb), .val (.int qc), .val (.int qd), .val (.int (Int32.ofNat i)), .val (.int ch), .val (.int qa), l9] [(.int ch)]))
       refine Goes.st (fun sT kT => XS.bipush X36.here hx rfl (hb hby d5_164) kT) ?_
       show Goes _ _ _ _ (T36.setTop (mkF m 166 #[.val (.ref a), .val (.ref r), .val (.int qa), .val (.int qb), .val (.int qc), .val (.int qd), .val (.int (Int32.ofNat i)), .val (.int ch), .val (.int qa), l9] [(.int (34 : Int32)), (.int ch)]))
       refine Goes.st (fun sT kT => XS.icmpNo X36.here hx rfl (hb hby d5_166) rfl (teq cz33).2 kT) ?_
       show Goes _ _ _ _ (T36.setTop (mkF m 169 #[.val (.ref a), .val (.ref r), .val (.int qa), .val (.int qb), .val (.int qc), .val (.int qd), .val (.int (Int32.ofNat i)), .val (.int ch), .val (.int qa), l9] []))
       refine Goes.st (fun sT kT => XS.iload X36.here hx rfl (hb hby d5_169) rfl kT) ?_
       show Goes _ _ _ _ (T36.setTop (mkF m 171 #[.val (.ref a), .val (.ref r), .val (.int qa), .val (.int qb), .val (.int qc), .val (.int qd), .val (.int (Int32.ofNat i)), .val (.int ch), .val (.int qa), l9] [(.int (Int32.ofNat i))]))
       refine Goes.st (fun sT kT => XS.goto X36.here hx rfl (pc0 := 171) (pc' := 176) rfl (hb hby d5_171) (by decide) (by decide) kT) ?_
       show Goes _ _ _ _ (T36.setTop (mkF m 176 #[.val (.ref a), .val (.ref r), .val (.int qa), .val (.int qb), .val (.int qc), .val (.int qd), .val (.int (Int32.ofNat i)), .val (.int ch), .val (.int qa), l9] [(.int (Int32.ofNat i))]))
       refine Goes.st (fun sT kT => XS.istore X36.here hx rfl (hb hby d5_176) rfl (XS.store1 (v := (.int (Int32.ofNat i))) rfl hl9 rfl) kT) ?_
       show Goes _ _ _ _ (T36.setTop (mkF m 178 #[.val (.ref a), .val (.ref r), .val (.int qa), .val (.int qb), .val (.int qc), .val (.int qd), .val (.int (Int32.ofNat i)), .val (.int ch), .val (.int qa), .val (.int (Int32.ofNat i))] []))
       refine Goes.st (fun sT kT => XS.iloadN X36.here hx rfl (hb hby d5_178) rfl kT) ?_
       show Goes _ _ _ _ (T36.setTop (mkF m 179 #[.val (.ref a), .val (.ref r), .val (.int qa), .val (.int qb), .val (.int qc), .val (.int qd), .val (.int (Int32.ofNat i)), .val (.int ch), .val (.int qa), .val (.int (Int32.ofNat i))] [(.int qa)]))
       refine Goes.st (fun sT kT => XS.istoreN X36.here hx rfl (hb hby d5_179) rfl (l' := #[.val (.ref a), .val (.ref r), .val (.int qa), .val (.int qa), .val (.int qc), .val (.int qd), .val (.int (Int32.ofNat i)), .val (.int ch), .val (.int qa), .val (.int (Int32.ofNat i))]) rfl kT) ?_
       show Goes _ _ _ _ (T36.setTop (mkF m 180 #[.val (.ref a), .val (.ref r), .val (.int qa), .val (.int qa), .val (.int qc), .val (.int qd), .val (.int (Int32.ofNat i)), .val (.int ch), .val (.int qa), .val (.int (Int32.ofNat i))] []))
       refine Goes.st (fun sT kT => XS.iload X36.here hx rfl (hb hby d5_180) rfl kT) ?_
       show Goes _ _ _ _ (T36.setTop (mkF m 182 #[.val (.ref a), .val (.ref r), .val (.int qa), .val (.int qa), .val (.int qc), .val (.int qd), .val (.int (Int32.ofNat i)), .val (.int ch), .val (.int qa), .val (.int (Int32.ofNat i))] [(.int qa)]))
       refine Goes.st (fun sT kT => XS.istoreN X36.here hx rfl (hb hby d5_182) rfl (l' := #[.val (.ref a), .val (.ref r), .val (.int qa), .val (.int qa), .val (.int qc), .val (.int qd), .val (.int (Int32.ofNat i)), .val (.int ch), .val (.int qa), .val (.int (Int32.ofNat i))]) rfl kT) ?_
       show Goes _ _ _ _ (T36.setTop (mkF m 183 #[.val (.ref a), .val (.ref r), .val (.int qa), .val (.int qa), .val (.int qc), .val (.int qd), .val (.int (Int32.ofNat i)), .val (.int ch), .val (.int qa), .val (.int (Int32.ofNat i))] []))
       refine Goes.st (fun sT kT => XS.iload X36.here hx rfl (hb hby d5_183) rfl kT) ?_
       show Goes _ _ _ _ (T36.setTop (mkF m 185 #[.val (.ref a), .val (.ref r), .val (.int qa), .val (.int qa), .val (.int qc), .val (.int qd), .val (.int (Int32.ofNat i)), .val (.int ch), .val (.int qa), .val (.int (Int32.ofNat i))] [(.int qc)]))
       refine Goes.st (fun sT kT => XS.istore X36.here hx rfl (hb hby d5_185) rfl (l' := #[.val (.ref a), .val (.ref r), .val (.int qa), .val (.int qa), .val (.int qc), .val (.int qc), .val (.int (Int32.ofNat i)), .val (.int ch), .val (.int qa), .val (.int (Int32.ofNat i))]) rfl kT) ?_
       show Goes _ _ _ _ (T36.setTop (mkF m 187 #[.val (.ref a), .val (.ref r), .val (.int qa), .val (.int qa), .val (.int qc), .val (.int qc), .val (.int (Int32.ofNat i)), .val (.int ch), .val (.int qa), .val (.int (Int32.ofNat i))] []))
       refine Goes.st (fun sT kT => XS.iload X36.here hx rfl (hb hby d5_187) rfl kT) ?_
       show Goes _ _ _ _ (T36.setTop (mkF m 189 #[.val (.ref a), .val (.ref r), .val (.int qa), .val (.int qa), .val (.int qc), .val (.int qc), .val (.int (Int32.ofNat i)), .val (.int ch), .val (.int qa), .val (.int (Int32.ofNat i))] [(.int (Int32.ofNat i))]))
       refine Goes.st (fun sT kT => XS.istore X36.here hx rfl (hb hby d5_189) rfl (l' := #[.val (.ref a), .val (.ref r), .val (.int qa), .val (.int qa), .val (.int (Int32.ofNat i)), .val (.int qc), .val (.int (Int32.ofNat i)), .val (.int ch), .val (.int qa), .val (.int (Int32.ofNat i))]) rfl kT) ?_
       show Goes _ _ _ _ (T36.setTop (mkF m 191 #[.val (.ref a), .val (.ref r), .val (.int qa), .val (.int qa), .val (.int (Int32.ofNat i)), .val (.int qc), .val (.int (Int32.ofNat i)), .val (.int ch), .val (.int qa), .val (.int (Int32.ofNat i))] []))
       refine Goes.st (fun sT kT => XS.iinc X36.here hx rfl (hb hby d5_191) rfl (l' := #[.val (.ref a), .val (.ref r), .val (.int qa), .val (.int qa), .val (.int (Int32.ofNat i)), .val (.int qc), .val (.int ((Int32.ofNat i) + (-1 : Int32))), .val (.int ch), .val (.int qa), .val (.int (Int32.ofNat i))]) rfl kT) ?_
       show Goes _ _ _ _ (T36.setTop (mkF m 194 #[.val (.ref a), .val (.ref r), .val (.int qa), .val (.int qa), .val (.int (Int32.ofNat i)), .val (.int qc), .val (.int ((Int32.ofNat i) + (-1 : Int32))), .val (.int ch), .val (.int qa), .val (.int (Int32.ofNat i))] []))
       refine Goes.st (fun sT kT => XS.goto X36.here hx rfl (pc0 := 194) (pc' := 34) rfl (hb hby d5_194) (by decide) (by decide) kT) ?_
       show Goes _ _ _ _ (T36.setTop (mkF m 34 #[.val (.ref a), .val (.ref r), .val (.int qa), .val (.int qa), .val (.int (Int32.ofNat i)), .val (.int qc), .val (.int ((Int32.ofNat i) + (-1 : Int32))), .val (.int ch), .val (.int qa), .val (.int (Int32.ofNat i))] []))
       have kp37 : Keep h0 h36 [] := Kjl.wr W36 (Or.inr l0jl_r)
       have f38 : Str Z h36 a t kb cs := (Pjl_1.other W36 nejl_0 nejl_1)
       have f39 : Old Z n0 h36 := (Pjl_2.wr W36 n0jl_r)
       exact ih T36 h36 _ r kr (us.set i (-1 : Int32)) ((Int32.ofNat i) + (-1 : Int32)) qa qa (Int32.ofNat i) qc (.val (.int ch)) (.val (.int qa)) (.val (.int (Int32.ofNat i))) (X36.more (by decide) (by decide)) e36 N36 (Nat.le_trans Zjl (Nat.le_of_eq W36.size.symm)) kp37 n0jl_r l0jl_r V36 f38 f39 nejl_0 nejl_1 (own_m1 _) (Nat.le_of_lt hil) (by rw [List.length_set]; exact hlen) (own_hv hvs (own_E2 hil (fun q => cz14 (hch.trans q)) (Or.inr (hch.symm.trans cz33)) (by rw [← hch, cz33, ← hqc]; exact cz34)).symm (by omega)) (hqa.trans (own_N3 hil (by rw [← hch, cz33]; decide) (by rw [← hch, cz33]; decide)).symm) hqa ((own_N2 hil (by rw [← hch, cz33]; decide) (hch.symm.trans cz33)).symm) hqc (Or.inr ⟨_, rfl, rfl⟩) (Or.inr ⟨_, rfl, rfl⟩) (Or.inr ⟨_, rfl, rfl⟩)
      case neg =>
       obtain ⟨k, k1, k2, k3⟩ := (own_Nr cs 34 _ (i + 1) (Nat.le_refl _)).resolve_left (fun z => cz34 (by rw [hqc, z]; decide))
       have hqk : qc = Int32.ofNat k := hqc.trans k3
       refine Goes.st (fun sT kT => XS.ifYes X13.here hx rfl (pc0 := 97) (pc' := 104) rfl (hb hby d5_97) rfl ((if0 _ _).trans (flt cz34).2.1) (by decide) (by decide) kT) ?_
       show Goes _ _ _ _ (T13.setTop (mkF m 104 #[.val (.ref a), .val (.ref r), .val (.int qa), .val (.int qb), .val (.int qc), .val (.int qd), .val (.int (Int32.ofNat i)), .val (.int ch), .val (.int qc), l9] [(.int (Int32.ofNat i)), (.ref r)]))
       refine Goes.st (fun sT kT => XS.aloadN X13.here hx rfl (hb hby d5_104) rfl rfl kT) ?_
       show Goes _ _ _ _ (T13.setTop (mkF m 105 #[.val (.ref a), .val (.ref r), .val (.int qa), .val (.int qb), .val (.int qc), .val (.int qd), .val (.int (Int32.ofNat i)), .val (.int ch), .val (.int qc), l9] [(.ref r), (.int (Int32.ofNat i)), (.ref r)]))
       refine Goes.st (fun sT kT => XS.iload X13.here hx rfl (hb hby d5_105) rfl kT) ?_
       show Goes _ _ _ _ (T13.setTop (mkF m 107 #[.val (.ref a), .val (.ref r), .val (.int qa), .val (.int qb), .val (.int qc), .val (.int qd), .val (.int (Int32.ofNat i)), .val (.int ch), .val (.int qc), l9] [(.int qc), (.ref r), (.int (Int32.ofNat i)), (.ref r)]))
       refine Goes.st (fun sT kT => XS.iconst X13.here hx rfl (hb hby d5_107) kT) ?_
       show Goes _ _ _ _ (T13.setTop (mkF m 108 #[.val (.ref a), .val (.ref r), .val (.int qa), .val (.int qb), .val (.int qc), .val (.int qd), .val (.int (Int32.ofNat i)), .val (.int ch), .val (.int qc), l9] [(.int (1 : Int32)), (.int qc), (.ref r), (.int (Int32.ofNat i)), (.ref r)]))
       refine Goes.st (fun sT kT => XS.iadd X13.here hx rfl (hb hby d5_108) rfl kT) ?_
       show Goes _ _ _ _ (T13.setTop (mkF m 109 #[.val (.ref a), .val (.ref r), .val (.int qa), .val (.int qb), .val (.int qc), .val (.int qd), .val (.int (Int32.ofNat i)), .val (.int ch), .val (.int qc), l9] [(.int (qc + (1 : Int32))), (.ref r), (.int (Int32.ofNat i)), (.ref r)]))
       rw [show (qc + (1 : Int32)) = Int32.ofNat (k + 1) from by rw [hqk]; exact own_nadd1 k]
       show Goes _ _ _ _ (T13.setTop (mkF m 109 #[.val (.ref a), .val (.ref r), .val (.int qa), .val (.int qb), .val (.int qc), .val (.int qd), .val (.int (Int32.ofNat i)), .val (.int ch), .val (.int qc), l9] [(.int (Int32.ofNat (k + 1))), (.ref r), (.int (Int32.ofNat i)), (.ref r)]))
       obtain ⟨oc40, oA40, oq40, oS40, oM40, oH40, oG40⟩ := id Pjl_0
       refine Goes.st (fun sT kT => X13.iaload hx (j := (Int32.ofNat (k + 1))) (v := (.int (own_E cs (k + 1)))) (by rw [K13]; exact oA40.1) (State.isArrayOf_alike hZ.alike oA40.2.1) oA40.2.2 (inb_of oS40 (own_ib (by omega) (by omega))) (oH40.at (inb_of oS40 (own_ib (by omega) (by omega))) (own_gs (by omega) (hvs (k + 1) (by omega) (by omega)))) (g := (mkF m 109 #[.val (.ref a), .val (.ref r), .val (.int qa), .val (.int qb), .val (.int qc), .val (.int qd), .val (.int (Int32.ofNat i)), .val (.int ch), .val (.int qc), l9] [(.int (Int32.ofNat (k + 1))), (.ref r), (.int (Int32.ofNat i)), (.ref r)])) rfl rfl (hb hby d5_109) _ kT) ?_
       show Goes _ _ _ _ (T13.setTop (mkF m 110 #[.val (.ref a), .val (.ref r), .val (.int qa), .val (.int qb), .val (.int qc), .val (.int qd), .val (.int (Int32.ofNat i)), .val (.int ch), .val (.int qc), l9] [(.int (own_E cs (k + 1))), (.int (Int32.ofNat i)), (.ref r)]))
       obtain ⟨oc41, oA41, oq41, oS41, oM41, oH41, oG41⟩ := id Pjl_0
       obtain ⟨T42, h42, X42, e42, W42, st42⟩ := stI X13 hx hZ K13 oA41 (j := (Int32.ofNat i)) (inb_of oS41 (own_ib (by omega) (by omega))) (g := (mkF m 110 #[.val (.ref a), .val (.ref r), .val (.int qa), .val (.int qb), .val (.int qc), .val (.int qd), .val (.int (Int32.ofNat i)), .val (.int ch), .val (.int qc), l9] [(.int (own_E cs (k + 1))), (.int (Int32.ofNat i)), (.ref r)])) rfl rfl (hb hby d5_110)
       have V42 : Arv Z h42 r kr .int (Int32.ofNat (cs.length + 1)) ((us.set i (own_E cs (k + 1))).map Value.int) (.int (0 : Int32)) := own_ms _ _ _ ▸ Arv.set oA41 oq41 oS41 oM41 oH41 oG41 rfl W42 (i) (own_nclamp (by omega)) (by rw [List.length_map]; omega)
       have N42 := Fr.snoc X42 N13 n0jl_r
       refine Goes.st st42 ?_
       show Goes _ _ _ _ (T42.setTop (mkF m 111 #[.val (.ref a), .val (.ref r), .val (.int qa), .val (.int qb), .val (.int qc), .val (.int qd), .val (.int (Int32.ofNat i)), .val (.int ch), .val (.int qc), l9] []))
       refine Goes.st (fun sT kT => XS.goto X42.here hx rfl (pc0 := 111) (pc' := 124) rfl (hb hby d5_111) (by decide) (by decide) kT) ?_
       show Goes _ _ _ _ (T42.setTop (mkF m 124 #[.val (.ref a), .val (.ref r), .val (.int qa), .val (.int qb), .val (.int qc), .val (.int qd), .val (.int (Int32.ofNat i)), .val (.int ch), .val (.int qc), l9] []))
       refine Goes.st (fun sT kT => XS.iload X42.here hx rfl (hb hby d5_124) rfl kT) ?_
       show Goes _ _ _ _ (T42.setTop (mkF m 126 #[.val (.ref a), .val (.ref r), .val (.int qa), .val (.int qb), .val (.int qc), .val (.int qd), .val (.int (Int32.ofNat i)), .val (.int ch), .val (.int qc), l9] [(.int ch)]))
       refine Goes.st (fun sT kT => XS.bipush X42.here hx rfl (hb hby d5_126) kT) ?_
       show Goes _ _ _ _ (T42.setTop (mkF m 128 #[.val (.ref a), .val (.ref r), .val (.int qa), .val (.int qb), .val (.int qc), .val (.int qd), .val (.int (Int32.ofNat i)), .val (.int ch), .val (.int qc), l9] [(.int (92 : Int32)), (.int ch)]))
       refine Goes.st (fun sT kT => XS.icmpYes X42.here hx rfl (pc0 := 128) (pc' := 135) rfl (hb hby d5_128) rfl (feq (by rw [cz33]; decide)).2 (by decide) (by decide) kT) ?_
       show Goes _ _ _ _ (T42.setTop (mkF m 135 #[.val (.ref a), .val (.ref r), .val (.int qa), .val (.int qb), .val (.int qc), .val (.int qd), .val (.int (Int32.ofNat i)), .val (.int ch), .val (.int qc), l9] []))
       refine Goes.st (fun sT kT => XS.iload X42.here hx rfl (hb hby d5_135) rfl kT) ?_
       show Goes _ _ _ _ (T42.setTop (mkF m 137 #[.val (.ref a), .val (.ref r), .val (.int qa), .val (.int qb), .val (.int qc), .val (.int qd), .val (.int (Int32.ofNat i)), .val (.int ch), .val (.int qc), l9] [(.int ch)]))
       refine Goes.st (fun sT kT => XS.bipush X42.here hx rfl (hb hby d5_137) kT) ?_
       show Goes _ _ _ _ (T42.setTop (mkF m 139 #[.val (.ref a), .val (.ref r), .val (.int qa), .val (.int qb), .val (.int qc), .val (.int qd), .val (.int (Int32.ofNat i)), .val (.int ch), .val (.int qc), l9] [(.int (39 : Int32)), (.int ch)]))
       refine Goes.st (fun sT kT => XS.icmpYes X42.here hx rfl (pc0 := 139) (pc' := 147) rfl (hb hby d5_139) rfl (feq cz20).2 (by decide) (by decide) kT) ?_
       show Goes _ _ _ _ (T42.setTop (mkF m 147 #[.val (.ref a), .val (.ref r), .val (.int qa), .val (.int qb), .val (.int qc), .val (.int qd), .val (.int (Int32.ofNat i)), .val (.int ch), .val (.int qc), l9] []))
       refine Goes.st (fun sT kT => XS.iloadN X42.here hx rfl (hb hby d5_147) rfl kT) ?_
       show Goes _ _ _ _ (T42.setTop (mkF m 148 #[.val (.ref a), .val (.ref r), .val (.int qa), .val (.int qb), .val (.int qc), .val (.int qd), .val (.int (Int32.ofNat i)), .val (.int ch), .val (.int qc), l9] [(.int qa)]))
       refine Goes.st (fun sT kT => XS.istore X42.here hx rfl (hb hby d5_148) rfl (l' := #[.val (.ref a), .val (.ref r), .val (.int qa), .val (.int qb), .val (.int qc), .val (.int qd), .val (.int (Int32.ofNat i)), .val (.int ch), .val (.int qa), l9]) rfl kT) ?_
       show Goes _ _ _ _ (T42.setTop (mkF m 150 #[.val (.ref a), .val (.ref r), .val (.int qa), .val (.int qb), .val (.int qc), .val (.int qd), .val (.int (Int32.ofNat i)), .val (.int ch), .val (.int qa), l9] []))
       refine Goes.st (fun sT kT => XS.iload X42.here hx rfl (hb hby d5_150) rfl kT) ?_
       show Goes _ _ _ _ (T42.setTop (mkF m 152 #[.val (.ref a), .val (.ref r), .val (.int qa), .val (.int qb), .val (.int qc), .val (.int qd), .val (.int (Int32.ofNat i)), .val (.int ch), .val (.int qa), l9] [(.int ch)]))
       refine Goes.st (fun sT kT => XS.bipush X42.here hx rfl (hb hby d5_152) kT) ?_
       show Goes _ _ _ _ (T42.setTop (mkF m 154 #[.val (.ref a), .val (.ref r), .val (.int qa), .val (.int qb), .val (.int qc), .val (.int qd), .val (.int (Int32.ofNat i)), .val (.int ch), .val (.int qa), l9] [(.int (92 : Int32)), (.int ch)]))
       refine Goes.st (fun sT kT => XS.icmpYes X42.here hx rfl (pc0 := 154) (pc' := 162) rfl (hb hby d5_154) rfl (feq (by rw [cz33]; decide)).2 (by decide) (by decide) kT) ?_
       show Goes _ _ _ _ (T42.setTop (mkF m 162 #[.val (.ref a), .val (.ref r), .val (.int qa), .val (.int qb), .val (.int qc), .val (.int qd), .val (.int (Int32.ofNat i)), .val (.int ch), .val (.int qa), l9] []))
       refine Goes.st (fun sT kT => XS.iload X42.here hx rfl (hb hby d5_162) rfl kT) ?_
       show Goes _ _ _ _ (T42.setTop (mkF m 164 #[.val (.ref a), .val (.ref r), .val (.int qa), .val (.int qb), .val (.int qc), .val (.int qd), .val (.int (Int32.ofNat i)), .val (.int ch), .val (.int qa), l9] [(.int ch)]))
       refine Goes.st (fun sT kT => XS.bipush X42.here hx rfl (hb hby d5_164) kT) ?_
       show Goes _ _ _ _ (T42.setTop (mkF m 166 #[.val (.ref a), .val (.ref r), .val (.int qa), .val (.int qb), .val (.int qc), .val (.int qd), .val (.int (Int32.ofNat i)), .val (.int ch), .val (.int qa), l9] [(.int (34 : Int32)), (.int ch)]))
       refine Goes.st (fun sT kT => XS.icmpNo X42.here hx rfl (hb hby d5_166) rfl (teq cz33).2 kT) ?_
       show Goes _ _ _ _ (T42.setTop (mkF m 169 #[.val (.ref a), .val (.ref r), .val (.int qa), .val (.int qb), .val (.int qc), .val (.int qd), .val (.int (Int32.ofNat i)), .val (.int ch), .val (.int qa), l9] []))
       refine Goes.st (fun sT kT => XS.iload X42.here hx rfl (hb hby d5_169) rfl kT) ?_
       show Goes _ _ _ _ (T42.setTop (mkF m 171 #[.val (.ref a), .val (.ref r), .val (.int qa), .val (.int qb), .val (.int qc), .val (.int qd), .val (.int (Int32.ofNat i)), .val (.int ch), .val (.int qa), l9] [(.int (Int32.ofNat i))]))
       refine Goes.st (fun sT kT => XS.goto X42.here hx rfl (pc0 := 171) (pc' := 176) rfl (hb hby d5_171) (by decide) (by decide) kT) ?_
       show Goes _ _ _ _ (T42.setTop (mkF m 176 #[.val (.ref a), .val (.ref r), .val (.int qa), .val (.int qb), .val (.int qc), .val (.int qd), .val (.int (Int32.ofNat i)), .val (.int ch), .val (.int qa), l9] [(.int (Int32.ofNat i))]))
       refine Goes.st (fun sT kT => XS.istore X42.here hx rfl (hb hby d5_176) rfl (XS.store1 (v := (.int (Int32.ofNat i))) rfl hl9 rfl) kT) ?_
       show Goes _ _ _ _ (T42.setTop (mkF m 178 #[.val (.ref a), .val (.ref r), .val (.int qa), .val (.int qb), .val (.int qc), .val (.int qd), .val (.int (Int32.ofNat i)), .val (.int ch), .val (.int qa), .val (.int (Int32.ofNat i))] []))
       refine Goes.st (fun sT kT => XS.iloadN X42.here hx rfl (hb hby d5_178) rfl kT) ?_
       show Goes _ _ _ _ (T42.setTop (mkF m 179 #[.val (.ref a), .val (.ref r), .val (.int qa), .val (.int qb), .val (.int qc), .val (.int qd), .val (.int (Int32.ofNat i)), .val (.int ch), .val (.int qa), .val (.int (Int32.ofNat i))] [(.int qa)]))
       refine Goes.st (fun sT kT => XS.istoreN X42.here hx rfl (hb hby d5_179) rfl (l' := #[.val (.ref a), .val (.ref r), .val (.int qa), .val (.int qa), .val (.int qc), .val (.int qd), .val (.int (Int32.ofNat i)), .val (.int ch), .val (.int qa), .val (.int (Int32.ofNat i))]) rfl kT) ?_
       show Goes _ _ _ _ (T42.setTop (mkF m 180 #[.val (.ref a), .val (.ref r), .val (.int qa), .val (.int qa), .val (.int qc), .val (.int qd), .val (.int (Int32.ofNat i)), .val (.int ch), .val (.int qa), .val (.int (Int32.ofNat i))] []))
       refine Goes.st (fun sT kT => XS.iload X42.here hx rfl (hb hby d5_180) rfl kT) ?_
       show Goes _ _ _ _ (T42.setTop (mkF m 182 #[.val (.ref a), .val (.ref r), .val (.int qa), .val (.int qa), .val (.int qc), .val (.int qd), .val (.int (Int32.ofNat i)), .val (.int ch), .val (.int qa), .val (.int (Int32.ofNat i))] [(.int qa)]))
       refine Goes.st (fun sT kT => XS.istoreN X42.here hx rfl (hb hby d5_182) rfl (l' := #[.val (.ref a), .val (.ref r), .val (.int qa), .val (.int qa), .val (.int qc), .val (.int qd), .val (.int (Int32.ofNat i)), .val (.int ch), .val (.int qa), .val (.int (Int32.ofNat i))]) rfl kT) ?_
       show Goes _ _ _ _ (T42.setTop (mkF m 183 #[.val (.ref a), .val (.ref r), .val (.int qa), .val (.int qa), .val (.int qc), .val (.int qd), .val (.int (Int32.ofNat i)), .val (.int ch), .val (.int qa), .val (.int (Int32.ofNat i))] []))
       refine Goes.st (fun sT kT => XS.iload X42.here hx rfl (hb hby d5_183) rfl kT) ?_
       show Goes _ _ _ _ (T42.setTop (mkF m 185 #[.val (.ref a), .val (.ref r), .val (.int qa), .val (.int qa), .val (.int qc), .val (.int qd), .val (.int (Int32.ofNat i)), .val (.int ch), .val (.int qa), .val (.int (Int32.ofNat i))] [(.int qc)]))
       refine Goes.st (fun sT kT => XS.istore X42.here hx rfl (hb hby d5_185) rfl (l' := #[.val (.ref a), .val (.ref r), .val (.int qa), .val (.int qa), .val (.int qc), .val (.int qc), .val (.int (Int32.ofNat i)), .val (.int ch), .val (.int qa), .val (.int (Int32.ofNat i))]) rfl kT) ?_
       show Goes _ _ _ _ (T42.setTop (mkF m 187 #[.val (.ref a), .val (.ref r), .val (.int qa), .val (.int qa), .val (.int qc), .val (.int qc), .val (.int (Int32.ofNat i)), .val (.int ch), .val (.int qa), .val (.int (Int32.ofNat i))] []))
       refine Goes.st (fun sT kT => XS.iload X42.here hx rfl (hb hby d5_187) rfl kT) ?_
       show Goes _ _ _ _ (T42.setTop (mkF m 189 #[.val (.ref a), .val (.ref r), .val (.int qa), .val (.int qa), .val (.int qc), .val (.int qc), .val (.int (Int32.ofNat i)), .val (.int ch), .val (.int qa), .val (.int (Int32.ofNat i))] [(.int (Int32.ofNat i))]))
       refine Goes.st (fun sT kT => XS.istore X42.here hx rfl (hb hby d5_189) rfl (l' := #[.val (.ref a), .val (.ref r), .val (.int qa), .val (.int qa), .val (.int (Int32.ofNat i)), .val (.int qc), .val (.int (Int32.ofNat i)), .val (.int ch), .val (.int qa), .val (.int (Int32.ofNat i))]) rfl kT) ?_
       show Goes _ _ _ _ (T42.setTop (mkF m 191 #[.val (.ref a), .val (.ref r), .val (.int qa), .val (.int qa), .val (.int (Int32.ofNat i)), .val (.int qc), .val (.int (Int32.ofNat i)), .val (.int ch), .val (.int qa), .val (.int (Int32.ofNat i))] []))
       refine Goes.st (fun sT kT => XS.iinc X42.here hx rfl (hb hby d5_191) rfl (l' := #[.val (.ref a), .val (.ref r), .val (.int qa), .val (.int qa), .val (.int (Int32.ofNat i)), .val (.int qc), .val (.int ((Int32.ofNat i) + (-1 : Int32))), .val (.int ch), .val (.int qa), .val (.int (Int32.ofNat i))]) rfl kT) ?_
       show Goes _ _ _ _ (T42.setTop (mkF m 194 #[.val (.ref a), .val (.ref r), .val (.int qa), .val (.int qa), .val (.int (Int32.ofNat i)), .val (.int qc), .val (.int ((Int32.ofNat i) + (-1 : Int32))), .val (.int ch), .val (.int qa), .val (.int (Int32.ofNat i))] []))
       refine Goes.st (fun sT kT => XS.goto X42.here hx rfl (pc0 := 194) (pc' := 34) rfl (hb hby d5_194) (by decide) (by decide) kT) ?_
       show Goes _ _ _ _ (T42.setTop (mkF m 34 #[.val (.ref a), .val (.ref r), .val (.int qa), .val (.int qa), .val (.int (Int32.ofNat i)), .val (.int qc), .val (.int ((Int32.ofNat i) + (-1 : Int32))), .val (.int ch), .val (.int qa), .val (.int (Int32.ofNat i))] []))
       have kp43 : Keep h0 h42 [] := Kjl.wr W42 (Or.inr l0jl_r)
       have f44 : Str Z h42 a t kb cs := (Pjl_1.other W42 nejl_0 nejl_1)
       have f45 : Old Z n0 h42 := (Pjl_2.wr W42 n0jl_r)
       exact ih T42 h42 _ r kr (us.set i (own_E cs (k + 1))) ((Int32.ofNat i) + (-1 : Int32)) qa qa (Int32.ofNat i) qc (.val (.int ch)) (.val (.int qa)) (.val (.int (Int32.ofNat i))) (X42.more (by decide) (by decide)) e42 N42 (Nat.le_trans Zjl (Nat.le_of_eq W42.size.symm)) kp43 n0jl_r l0jl_r V42 f44 f45 nejl_0 nejl_1 (own_m1 _) (Nat.le_of_lt hil) (by rw [List.length_set]; exact hlen) (own_hv hvs (own_E3 (by omega) hil (fun q => cz14 (hch.trans q)) (Or.inr (hch.symm.trans cz33)) k1 k2 (by rw [← hch, cz33]; exact k3)).symm (by omega)) (hqa.trans (own_N3 hil (by rw [← hch, cz33]; decide) (by rw [← hch, cz33]; decide)).symm) hqa ((own_N2 hil (by rw [← hch, cz33]; decide) (hch.symm.trans cz33)).symm) hqc (Or.inr ⟨_, rfl, rfl⟩) (Or.inr ⟨_, rfl, rfl⟩) (Or.inr ⟨_, rfl, rfl⟩)
     case neg =>
      refine Goes.st (fun sT kT => XS.icmpYes X13.here hx rfl (pc0 := 74) (pc' := 114) rfl (hb hby d5_74) rfl (feq cz33).2 (by decide) (by decide) kT) ?_
      show Goes _ _ _ _ (T13.setTop (mkF m 114 #[.val (.ref a), .val (.ref r), .val (.int qa), .val (.int qb), .val (.int qc), .val (.int qd), .val (.int (Int32.ofNat i)), .val (.int ch), l8, l9] []))
      refine Goes.st (fun sT kT => XS.aloadN X13.here hx rfl (hb hby d5_114) rfl rfl kT) ?_
      show Goes _ _ _ _ (T13.setTop (mkF m 115 #[.val (.ref a), .val (.ref r), .val (.int qa), .val (.int qb), .val (.int qc), .val (.int qd), .val (.int (Int32.ofNat i)), .val (.int ch), l8, l9] [(.ref r)]))
      refine Goes.st (fun sT kT => XS.iload X13.here hx rfl (hb hby d5_115) rfl kT) ?_
      show Goes _ _ _ _ (T13.setTop (mkF m 117 #[.val (.ref a), .val (.ref r), .val (.int qa), .val (.int qb), .val (.int qc), .val (.int qd), .val (.int (Int32.ofNat i)), .val (.int ch), l8, l9] [(.int (Int32.ofNat i)), (.ref r)]))
      refine Goes.st (fun sT kT => XS.aloadN X13.here hx rfl (hb hby d5_117) rfl rfl kT) ?_
      show Goes _ _ _ _ (T13.setTop (mkF m 118 #[.val (.ref a), .val (.ref r), .val (.int qa), .val (.int qb), .val (.int qc), .val (.int qd), .val (.int (Int32.ofNat i)), .val (.int ch), l8, l9] [(.ref r), (.int (Int32.ofNat i)), (.ref r)]))
      refine Goes.st (fun sT kT => XS.iload X13.here hx rfl (hb hby d5_118) rfl kT) ?_
      show Goes _ _ _ _ (T13.setTop (mkF m 120 #[.val (.ref a), .val (.ref r), .val (.int qa), .val (.int qb), .val (.int qc), .val (.int qd), .val (.int (Int32.ofNat i)), .val (.int ch), l8, l9] [(.int (Int32.ofNat i)), (.ref r), (.int (Int32.ofNat i)), (.ref r)]))
      refine Goes.st (fun sT kT => XS.iconst X13.here hx rfl (hb hby d5_120) kT) ?_
      show Goes _ _ _ _ (T13.setTop (mkF m 121 #[.val (.ref a), .val (.ref r), .val (.int qa), .val (.int qb), .val (.int qc), .val (.int qd), .val (.int (Int32.ofNat i)), .val (.int ch), l8, l9] [(.int (1 : Int32)), (.int (Int32.ofNat i)), (.ref r), (.int (Int32.ofNat i)), (.ref r)]))
      refine Goes.st (fun sT kT => XS.iadd X13.here hx rfl (hb hby d5_121) rfl kT) ?_
      show Goes _ _ _ _ (T13.setTop (mkF m 122 #[.val (.ref a), .val (.ref r), .val (.int qa), .val (.int qb), .val (.int qc), .val (.int qd), .val (.int (Int32.ofNat i)), .val (.int ch), l8, l9] [(.int ((Int32.ofNat i) + (1 : Int32))), (.ref r), (.int (Int32.ofNat i)), (.ref r)]))
      rw [own_nadd1 i]
      show Goes _ _ _ _ (T13.setTop (mkF m 122 #[.val (.ref a), .val (.ref r), .val (.int qa), .val (.int qb), .val (.int qc), .val (.int qd), .val (.int (Int32.ofNat i)), .val (.int ch), l8, l9] [(.int (Int32.ofNat (i + 1))), (.ref r), (.int (Int32.ofNat i)), (.ref r)]))
      obtain ⟨oc46, oA46, oq46, oS46, oM46, oH46, oG46⟩ := id Pjl_0
      refine Goes.st (fun sT kT => X13.iaload hx (j := (Int32.ofNat (i + 1))) (v := (.int (own_E cs (i + 1)))) (by rw [K13]; exact oA46.1) (State.isArrayOf_alike hZ.alike oA46.2.1) oA46.2.2 (inb_of oS46 (own_ib (by omega) (by omega))) (oH46.at (inb_of oS46 (own_ib (by omega) (by omega))) (own_gs (by omega) (hvs (i + 1) (by omega) (by omega)))) (g := (mkF m 122 #[.val (.ref a), .val (.ref r), .val (.int qa), .val (.int qb), .val (.int qc), .val (.int qd), .val (.int (Int32.ofNat i)), .val (.int ch), l8, l9] [(.int (Int32.ofNat (i + 1))), (.ref r), (.int (Int32.ofNat i)), (.ref r)])) rfl rfl (hb hby d5_122) _ kT) ?_
      show Goes _ _ _ _ (T13.setTop (mkF m 123 #[.val (.ref a), .val (.ref r), .val (.int qa), .val (.int qb), .val (.int qc), .val (.int qd), .val (.int (Int32.ofNat i)), .val (.int ch), l8, l9] [(.int (own_E cs (i + 1))), (.int (Int32.ofNat i)), (.ref r)]))
      obtain ⟨oc47, oA47, oq47, oS47, oM47, oH47, oG47⟩ := id Pjl_0
      obtain ⟨T48, h48, X48, e48, W48, st48⟩ := stI X13 hx hZ K13 oA47 (j := (Int32.ofNat i)) (inb_of oS47 (own_ib (by omega) (by omega))) (g := (mkF m 123 #[.val (.ref a), .val (.ref r), .val (.int qa), .val (.int qb), .val (.int qc), .val (.int qd), .val (.int (Int32.ofNat i)), .val (.int ch), l8, l9] [(.int (own_E cs (i + 1))), (.int (Int32.ofNat i)), (.ref r)])) rfl rfl (hb hby d5_123)
      have V48 : Arv Z h48 r kr .int (Int32.ofNat (cs.length + 1)) ((us.set i (own_E cs (i + 1))).map Value.int) (.int (0 : Int32)) := own_ms _ _ _ ▸ Arv.set oA47 oq47 oS47 oM47 oH47 oG47 rfl W48 (i) (own_nclamp (by omega)) (by rw [List.length_map]; omega)
      have N48 := Fr.snoc X48 N13 n0jl_r
      refine Goes.st st48 ?_
      show Goes _ _ _ _ (T48.setTop (mkF m 124 #[.val (.ref a), .val (.ref r), .val (.int qa), .val (.int qb), .val (.int qc), .val (.int qd), .val (.int (Int32.ofNat i)), .val (.int ch), l8, l9] []))
      refine Goes.st (fun sT kT => XS.iload X48.here hx rfl (hb hby d5_124) rfl kT) ?_
      show Goes _ _ _ _ (T48.setTop (mkF m 126 #[.val (.ref a), .val (.ref r), .val (.int qa), .val (.int qb), .val (.int qc), .val (.int qd), .val (.int (Int32.ofNat i)), .val (.int ch), l8, l9] [(.int ch)]))
      refine Goes.st (fun sT kT => XS.bipush X48.here hx rfl (hb hby d5_126) kT) ?_
      show Goes _ _ _ _ (T48.setTop (mkF m 128 #[.val (.ref a), .val (.ref r), .val (.int qa), .val (.int qb), .val (.int qc), .val (.int qd), .val (.int (Int32.ofNat i)), .val (.int ch), l8, l9] [(.int (92 : Int32)), (.int ch)]))
      by_cases cz49 : ch = (92 : Int32)
      case pos =>
       refine Goes.st (fun sT kT => XS.icmpNo X48.here hx rfl (hb hby d5_128) rfl (teq cz49).2 kT) ?_
       show Goes _ _ _ _ (T48.setTop (mkF m 131 #[.val (.ref a), .val (.ref r), .val (.int qa), .val (.int qb), .val (.int qc), .val (.int qd), .val (.int (Int32.ofNat i)), .val (.int ch), l8, l9] []))
       refine Goes.st (fun sT kT => XS.iloadN X48.here hx rfl (hb hby d5_131) rfl kT) ?_
       show Goes _ _ _ _ (T48.setTop (mkF m 132 #[.val (.ref a), .val (.ref r), .val (.int qa), .val (.int qb), .val (.int qc), .val (.int qd), .val (.int (Int32.ofNat i)), .val (.int ch), l8, l9] [(.int qb)]))
       refine Goes.st (fun sT kT => XS.goto X48.here hx rfl (pc0 := 132) (pc' := 148) rfl (hb hby d5_132) (by decide) (by decide) kT) ?_
       show Goes _ _ _ _ (T48.setTop (mkF m 148 #[.val (.ref a), .val (.ref r), .val (.int qa), .val (.int qb), .val (.int qc), .val (.int qd), .val (.int (Int32.ofNat i)), .val (.int ch), l8, l9] [(.int qb)]))
       refine Goes.st (fun sT kT => XS.istore X48.here hx rfl (hb hby d5_148) rfl (XS.store1 (v := (.int qb)) rfl hl8 rfl) kT) ?_
       show Goes _ _ _ _ (T48.setTop (mkF m 150 #[.val (.ref a), .val (.ref r), .val (.int qa), .val (.int qb), .val (.int qc), .val (.int qd), .val (.int (Int32.ofNat i)), .val (.int ch), .val (.int qb), l9] []))
       refine Goes.st (fun sT kT => XS.iload X48.here hx rfl (hb hby d5_150) rfl kT) ?_
       show Goes _ _ _ _ (T48.setTop (mkF m 152 #[.val (.ref a), .val (.ref r), .val (.int qa), .val (.int qb), .val (.int qc), .val (.int qd), .val (.int (Int32.ofNat i)), .val (.int ch), .val (.int qb), l9] [(.int ch)]))
       refine Goes.st (fun sT kT => XS.bipush X48.here hx rfl (hb hby d5_152) kT) ?_
       show Goes _ _ _ _ (T48.setTop (mkF m 154 #[.val (.ref a), .val (.ref r), .val (.int qa), .val (.int qb), .val (.int qc), .val (.int qd), .val (.int (Int32.ofNat i)), .val (.int ch), .val (.int qb), l9] [(.int (92 : Int32)), (.int ch)]))
       refine Goes.st (fun sT kT => XS.icmpNo X48.here hx rfl (hb hby d5_154) rfl (teq cz49).2 kT) ?_
       show Goes _ _ _ _ (T48.setTop (mkF m 157 #[.val (.ref a), .val (.ref r), .val (.int qa), .val (.int qb), .val (.int qc), .val (.int qd), .val (.int (Int32.ofNat i)), .val (.int ch), .val (.int qb), l9] []))
       refine Goes.st (fun sT kT => XS.iload X48.here hx rfl (hb hby d5_157) rfl kT) ?_
       show Goes _ _ _ _ (T48.setTop (mkF m 159 #[.val (.ref a), .val (.ref r), .val (.int qa), .val (.int qb), .val (.int qc), .val (.int qd), .val (.int (Int32.ofNat i)), .val (.int ch), .val (.int qb), l9] [(.int qd)]))
       refine Goes.st (fun sT kT => XS.goto X48.here hx rfl (pc0 := 159) (pc' := 176) rfl (hb hby d5_159) (by decide) (by decide) kT) ?_
       show Goes _ _ _ _ (T48.setTop (mkF m 176 #[.val (.ref a), .val (.ref r), .val (.int qa), .val (.int qb), .val (.int qc), .val (.int qd), .val (.int (Int32.ofNat i)), .val (.int ch), .val (.int qb), l9] [(.int qd)]))
       refine Goes.st (fun sT kT => XS.istore X48.here hx rfl (hb hby d5_176) rfl (XS.store1 (v := (.int qd)) rfl hl9 rfl) kT) ?_
       show Goes _ _ _ _ (T48.setTop (mkF m 178 #[.val (.ref a), .val (.ref r), .val (.int qa), .val (.int qb), .val (.int qc), .val (.int qd), .val (.int (Int32.ofNat i)), .val (.int ch), .val (.int qb), .val (.int qd)] []))
       refine Goes.st (fun sT kT => XS.iloadN X48.here hx rfl (hb hby d5_178) rfl kT) ?_
       show Goes _ _ _ _ (T48.setTop (mkF m 179 #[.val (.ref a), .val (.ref r), .val (.int qa), .val (.int qb), .val (.int qc), .val (.int qd), .val (.int (Int32.ofNat i)), .val (.int ch), .val (.int qb), .val (.int qd)] [(.int qa)]))
       refine Goes.st (fun sT kT => XS.istoreN X48.here hx rfl (hb hby d5_179) rfl (l' := #[.val (.ref a), .val (.ref r), .val (.int qa), .val (.int qa), .val (.int qc), .val (.int qd), .val (.int (Int32.ofNat i)), .val (.int ch), .val (.int qb), .val (.int qd)]) rfl kT) ?_
       show Goes _ _ _ _ (T48.setTop (mkF m 180 #[.val (.ref a), .val (.ref r), .val (.int qa), .val (.int qa), .val (.int qc), .val (.int qd), .val (.int (Int32.ofNat i)), .val (.int ch), .val (.int qb), .val (.int qd)] []))
       refine Goes.st (fun sT kT => XS.iload X48.here hx rfl (hb hby d5_180) rfl kT) ?_
       show Goes _ _ _ _ (T48.setTop (mkF m 182 #[.val (.ref a), .val (.ref r), .val (.int qa), .val (.int qa), .val (.int qc), .val (.int qd), .val (.int (Int32.ofNat i)), .val (.int ch), .val (.int qb), .val (.int qd)] [(.int qb)]))
       refine Goes.st (fun sT kT => XS.istoreN X48.here hx rfl (hb hby d5_182) rfl (l' := #[.val (.ref a), .val (.ref r), .val (.int qb), .val (.int qa), .val (.int qc), .val (.int qd), .val (.int (Int32.ofNat i)), .val (.int ch), .val (.int qb), .val (.int qd)]) rfl kT) ?_
       show Goes _ _ _ _ (T48.setTop (mkF m 183 #[.val (.ref a), .val (.ref r), .val (.int qb), .val (.int qa), .val (.int qc), .val (.int qd), .val (.int (Int32.ofNat i)), .val (.int ch), .val (.int qb), .val (.int qd)] []))
       refine Goes.st (fun sT kT => XS.iload X48.here hx rfl (hb hby d5_183) rfl kT) ?_
       show Goes _ _ _ _ (T48.setTop (mkF m 185 #[.val (.ref a), .val (.ref r), .val (.int qb), .val (.int qa), .val (.int qc), .val (.int qd), .val (.int (Int32.ofNat i)), .val (.int ch), .val (.int qb), .val (.int qd)] [(.int qc)]))
       refine Goes.st (fun sT kT => XS.istore X48.here hx rfl (hb hby d5_185) rfl (l' := #[.val (.ref a), .val (.ref r), .val (.int qb), .val (.int qa), .val (.int qc), .val (.int qc), .val (.int (Int32.ofNat i)), .val (.int ch), .val (.int qb), .val (.int qd)]) rfl kT) ?_
       show Goes _ _ _ _ (T48.setTop (mkF m 187 #[.val (.ref a), .val (.ref r), .val (.int qb), .val (.int qa), .val (.int qc), .val (.int qc), .val (.int (Int32.ofNat i)), .val (.int ch), .val (.int qb), .val (.int qd)] []))
       refine Goes.st (fun sT kT => XS.iload X48.here hx rfl (hb hby d5_187) rfl kT) ?_
       show Goes _ _ _ _ (T48.setTop (mkF m 189 #[.val (.ref a), .val (.ref r), .val (.int qb), .val (.int qa), .val (.int qc), .val (.int qc), .val (.int (Int32.ofNat i)), .val (.int ch), .val (.int qb), .val (.int qd)] [(.int qd)]))
       refine Goes.st (fun sT kT => XS.istore X48.here hx rfl (hb hby d5_189) rfl (l' := #[.val (.ref a), .val (.ref r), .val (.int qb), .val (.int qa), .val (.int qd), .val (.int qc), .val (.int (Int32.ofNat i)), .val (.int ch), .val (.int qb), .val (.int qd)]) rfl kT) ?_
       show Goes _ _ _ _ (T48.setTop (mkF m 191 #[.val (.ref a), .val (.ref r), .val (.int qb), .val (.int qa), .val (.int qd), .val (.int qc), .val (.int (Int32.ofNat i)), .val (.int ch), .val (.int qb), .val (.int qd)] []))
       refine Goes.st (fun sT kT => XS.iinc X48.here hx rfl (hb hby d5_191) rfl (l' := #[.val (.ref a), .val (.ref r), .val (.int qb), .val (.int qa), .val (.int qd), .val (.int qc), .val (.int ((Int32.ofNat i) + (-1 : Int32))), .val (.int ch), .val (.int qb), .val (.int qd)]) rfl kT) ?_
       show Goes _ _ _ _ (T48.setTop (mkF m 194 #[.val (.ref a), .val (.ref r), .val (.int qb), .val (.int qa), .val (.int qd), .val (.int qc), .val (.int ((Int32.ofNat i) + (-1 : Int32))), .val (.int ch), .val (.int qb), .val (.int qd)] []))
       refine Goes.st (fun sT kT => XS.goto X48.here hx rfl (pc0 := 194) (pc' := 34) rfl (hb hby d5_194) (by decide) (by decide) kT) ?_
       show Goes _ _ _ _ (T48.setTop (mkF m 34 #[.val (.ref a), .val (.ref r), .val (.int qb), .val (.int qa), .val (.int qd), .val (.int qc), .val (.int ((Int32.ofNat i) + (-1 : Int32))), .val (.int ch), .val (.int qb), .val (.int qd)] []))
       have kp50 : Keep h0 h48 [] := Kjl.wr W48 (Or.inr l0jl_r)
       have f51 : Str Z h48 a t kb cs := (Pjl_1.other W48 nejl_0 nejl_1)
       have f52 : Old Z n0 h48 := (Pjl_2.wr W48 n0jl_r)
       exact ih T48 h48 _ r kr (us.set i (own_E cs (i + 1))) ((Int32.ofNat i) + (-1 : Int32)) qb qa qd qc (.val (.int ch)) (.val (.int qb)) (.val (.int qd)) (X48.more (by decide) (by decide)) e48 N48 (Nat.le_trans Zjl (Nat.le_of_eq W48.size.symm)) kp50 n0jl_r l0jl_r V48 f51 f52 nejl_0 nejl_1 (own_m1 _) (Nat.le_of_lt hil) (by rw [List.length_set]; exact hlen) (own_hv hvs (own_E4 hil (fun q => cz14 (hch.trans q)) (fun q => q.elim (fun q => cz20 (hch.trans q)) (fun q => cz33 (hch.trans q)))).symm (by omega)) (hqb.trans (own_N1 hil (hch.symm.trans cz49)).symm) hqa (hqd.trans (own_N1 hil (hch.symm.trans cz49)).symm) hqc (Or.inr ⟨_, rfl, rfl⟩) (Or.inr ⟨_, rfl, rfl⟩) (Or.inr ⟨_, rfl, rfl⟩)
      case neg =>
       refine Goes.st (fun sT kT => XS.icmpYes X48.here hx rfl (pc0 := 128) (pc' := 135) rfl (hb hby d5_128) rfl (feq cz49).2 (by decide) (by decide) kT) ?_
       show Goes _ _ _ _ (T48.setTop (mkF m 135 #[.val (.ref a), .val (.ref r), .val (.int qa), .val (.int qb), .val (.int qc), .val (.int qd), .val (.int (Int32.ofNat i)), .val (.int ch), l8, l9] []))
       refine Goes.st (fun sT kT => XS.iload X48.here hx rfl (hb hby d5_135) rfl kT) ?_
       show Goes _ _ _ _ (T48.setTop (mkF m 137 #[.val (.ref a), .val (.ref r), .val (.int qa), .val (.int qb), .val (.int qc), .val (.int qd), .val (.int (Int32.ofNat i)), .val (.int ch), l8, l9] [(.int ch)]))
       refine Goes.st (fun sT kT => XS.bipush X48.here hx rfl (hb hby d5_137) kT) ?_
       show Goes _ _ _ _ (T48.setTop (mkF m 139 #[.val (.ref a), .val (.ref r), .val (.int qa), .val (.int qb), .val (.int qc), .val (.int qd), .val (.int (Int32.ofNat i)), .val (.int ch), l8, l9] [(.int (39 : Int32)), (.int ch)]))
       refine Goes.st (fun sT kT => XS.icmpYes X48.here hx rfl (pc0 := 139) (pc' := 147) rfl (hb hby d5_139) rfl (feq cz20).2 (by decide) (by decide) kT) ?_
       show Goes _ _ _ _ (T48.setTop (mkF m 147 #[.val (.ref a), .val (.ref r), .val (.int qa), .val (.int qb), .val (.int qc), .val (.int qd), .val (.int (Int32.ofNat i)), .val (.int ch), l8, l9] []))
       refine Goes.st (fun sT kT => XS.iloadN X48.here hx rfl (hb hby d5_147) rfl kT) ?_
       show Goes _ _ _ _ (T48.setTop (mkF m 148 #[.val (.ref a), .val (.ref r), .val (.int qa), .val (.int qb), .val (.int qc), .val (.int qd), .val (.int (Int32.ofNat i)), .val (.int ch), l8, l9] [(.int qa)]))
       refine Goes.st (fun sT kT => XS.istore X48.here hx rfl (hb hby d5_148) rfl (XS.store1 (v := (.int qa)) rfl hl8 rfl) kT) ?_
       show Goes _ _ _ _ (T48.setTop (mkF m 150 #[.val (.ref a), .val (.ref r), .val (.int qa), .val (.int qb), .val (.int qc), .val (.int qd), .val (.int (Int32.ofNat i)), .val (.int ch), .val (.int qa), l9] []))
       refine Goes.st (fun sT kT => XS.iload X48.here hx rfl (hb hby d5_150) rfl kT) ?_
       show Goes _ _ _ _ (T48.setTop (mkF m 152 #[.val (.ref a), .val (.ref r), .val (.int qa), .val (.int qb), .val (.int qc), .val (.int qd), .val (.int (Int32.ofNat i)), .val (.int ch), .val (.int qa), l9] [(.int ch)]))
       refine Goes.st (fun sT kT => XS.bipush X48.here hx rfl (hb hby d5_152) kT) ?_
       show Goes _ _ _ _ (T48.setTop (mkF m 154 #[.val (.ref a), .val (.ref r), .val (.int qa), .val (.int qb), .val (.int qc), .val (.int qd), .val (.int (Int32.ofNat i)), .val (.int ch), .val (.int qa), l9] [(.int (92 : Int32)), (.int ch)]))
       refine Goes.st (fun sT kT => XS.icmpYes X48.here hx rfl (pc0 := 154) (pc' := 162) rfl (hb hby d5_154) rfl (feq cz49).2 (by decide) (by decide) kT) ?_
       show Goes _ _ _ _ (T48.setTop (mkF m 162 #[.val (.ref a), .val (.ref r), .val (.int qa), .val (.int qb), .val (.int qc), .val (.int qd), .val (.int (Int32.ofNat i)), .val (.int ch), .val (.int qa), l9] []))
       refine Goes.st (fun sT kT => XS.iload X48.here hx rfl (hb hby d5_162) rfl kT) ?_
       show Goes _ _ _ _ (T48.setTop (mkF m 164 #[.val (.ref a), .val (.ref r), .val (.int qa), .val (.int qb), .val (.int qc), .val (.int qd), .val (.int (Int32.ofNat i)), .val (.int ch), .val (.int qa), l9] [(.int ch)]))
       refine Goes.st (fun sT kT => XS.bipush X48.here hx rfl (hb hby d5_164) kT) ?_
       show Goes _ _ _ _ (T48.setTop (mkF m 166 #[.val (.ref a), .val (.ref r), .val (.int qa), .val (.int qb), .val (.int qc), .val (.int qd), .val (.int (Int32.ofNat i)), .val (.int ch), .val (.int qa), l9] [(.int (34 : Int32)), (.int ch)]))
       refine Goes.st (fun sT kT => XS.icmpYes X48.here hx rfl (pc0 := 166) (pc' := 174) rfl (hb hby d5_166) rfl (feq cz33).2 (by decide) (by decide) kT) ?_
       show Goes _ _ _ _ (T48.setTop (mkF m 174 #[.val (.ref a), .val (.ref r), .val (.int qa), .val (.int qb), .val (.int qc), .val (.int qd), .val (.int (Int32.ofNat i)), .val (.int ch), .val (.int qa), l9] []))
       refine Goes.st (fun sT kT => XS.iload X48.here hx rfl (hb hby d5_174) rfl kT) ?_
       show Goes _ _ _ _ (T48.setTop (mkF m 176 #[.val (.ref a), .val (.ref r), .val (.int qa), .val (.int qb), .val (.int qc), .val (.int qd), .val (.int (Int32.ofNat i)), .val (.int ch), .val (.int qa), l9] [(.int qc)]))
       refine Goes.st (fun sT kT => XS.istore X48.here hx rfl (hb hby d5_176) rfl (XS.store1 (v := (.int qc)) rfl hl9 rfl) kT) ?_
       show Goes _ _ _ _ (T48.setTop (mkF m 178 #[.val (.ref a), .val (.ref r), .val (.int qa), .val (.int qb), .val (.int qc), .val (.int qd), .val (.int (Int32.ofNat i)), .val (.int ch), .val (.int qa), .val (.int qc)] []))
       refine Goes.st (fun sT kT => XS.iloadN X48.here hx rfl (hb hby d5_178) rfl kT) ?_
       show Goes _ _ _ _ (T48.setTop (mkF m 179 #[.val (.ref a), .val (.ref r), .val (.int qa), .val (.int qb), .val (.int qc), .val (.int qd), .val (.int (Int32.ofNat i)), .val (.int ch), .val (.int qa), .val (.int qc)] [(.int qa)]))
       refine Goes.st (fun sT kT => XS.istoreN X48.here hx rfl (hb hby d5_179) rfl (l' := #[.val (.ref a), .val (.ref r), .val (.int qa), .val (.int qa), .val (.int qc), .val (.int qd), .val (.int (Int32.ofNat i)), .val (.int ch), .val (.int qa), .val (.int qc)]) rfl kT) ?_
       show Goes _ _ _ _ (T48.setTop (mkF m 180 #[.val (.ref a), .val (.ref r), .val (.int qa), .val (.int qa), .val (.int qc), .val (.int qd), .val (.int (Int32.ofNat i)), .val (.int ch), .val (.int qa), .val (.int qc)] []))
       refine Goes.st (fun sT kT => XS.iload X48.here hx rfl (hb hby d5_180) rfl kT) ?_
       show Goes _ _ _ _ (T48.setTop (mkF m 182 #[.val (.ref a), .val (.ref r), .val (.int qa), .val (.int qa), .val (.int qc), .val (.int qd), .val (.int (Int32.ofNat i)), .val (.int ch), .val (.int qa), .val (.int qc)] [(.int qa)]))
       refine Goes.st (fun sT kT => XS.istoreN X48.here hx rfl (hb hby d5_182) rfl (l' := #[.val (.ref a), .val (.ref r), .val (.int qa), .val (.int qa), .val (.int qc), .val (.int qd), .val (.int (Int32.ofNat i)), .val (.int ch), .val (.int qa), .val (.int qc)]) rfl kT) ?_
       show Goes _ _ _ _ (T48.setTop (mkF m 183 #[.val (.ref a), .val (.ref r), .val (.int qa), .val (.int qa), .val (.int qc), .val (.int qd), .val (.int (Int32.ofNat i)), .val (.int ch), .val (.int qa), .val (.int qc)] []))
       refine Goes.st (fun sT kT => XS.iload X48.here hx rfl (hb hby d5_183) rfl kT) ?_
       show Goes _ _ _ _ (T48.setTop (mkF m 185 #[.val (.ref a), .val (.ref r), .val (.int qa), .val (.int qa), .val (.int qc), .val (.int qd), .val (.int (Int32.ofNat i)), .val (.int ch), .val (.int qa), .val (.int qc)] [(.int qc)]))
       refine Goes.st (fun sT kT => XS.istore X48.here hx rfl (hb hby d5_185) rfl (l' := #[.val (.ref a), .val (.ref r), .val (.int qa), .val (.int qa), .val (.int qc), .val (.int qc), .val (.int (Int32.ofNat i)), .val (.int ch), .val (.int qa), .val (.int qc)]) rfl kT) ?_
       show Goes _ _ _ _ (T48.setTop (mkF m 187 #[.val (.ref a), .val (.ref r), .val (.int qa), .val (.int qa), .val (.int qc), .val (.int qc), .val (.int (Int32.ofNat i)), .val (.int ch), .val (.int qa), .val (.int qc)] []))
       refine Goes.st (fun sT kT => XS.iload X48.here hx rfl (hb hby d5_187) rfl kT) ?_
       show Goes _ _ _ _ (T48.setTop (mkF m 189 #[.val (.ref a), .val (.ref r), .val (.int qa), .val (.int qa), .val (.int qc), .val (.int qc), .val (.int (Int32.ofNat i)), .val (.int ch), .val (.int qa), .val (.int qc)] [(.int qc)]))
       refine Goes.st (fun sT kT => XS.istore X48.here hx rfl (hb hby d5_189) rfl (l' := #[.val (.ref a), .val (.ref r), .val (.int qa), .val (.int qa), .val (.int qc), .val (.int qc), .val (.int (Int32.ofNat i)), .val (.int ch), .val (.int qa), .val (.int qc)]) rfl kT) ?_
       show Goes _ _ _ _ (T48.setTop (mkF m 191 #[.val (.ref a), .val (.ref r), .val (.int qa), .val (.int qa), .val (.int qc), .val (.int qc), .val (.int (Int32.ofNat i)), .val (.int ch), .val (.int qa), .val (.int qc)] []))
       refine Goes.st (fun sT kT => XS.iinc X48.here hx rfl (hb hby d5_191) rfl (l' := #[.val (.ref a), .val (.ref r), .val (.int qa), .val (.int qa), .val (.int qc), .val (.int qc), .val (.int ((Int32.ofNat i) + (-1 : Int32))), .val (.int ch), .val (.int qa), .val (.int qc)]) rfl kT) ?_
       show Goes _ _ _ _ (T48.setTop (mkF m 194 #[.val (.ref a), .val (.ref r), .val (.int qa), .val (.int qa), .val (.int qc), .val (.int qc), .val (.int ((Int32.ofNat i) + (-1 : Int32))), .val (.int ch), .val (.int qa), .val (.int qc)] []))
       refine Goes.st (fun sT kT => XS.goto X48.here hx rfl (pc0 := 194) (pc' := 34) rfl (hb hby d5_194) (by decide) (by decide) kT) ?_
       show Goes _ _ _ _ (T48.setTop (mkF m 34 #[.val (.ref a), .val (.ref r), .val (.int qa), .val (.int qa), .val (.int qc), .val (.int qc), .val (.int ((Int32.ofNat i) + (-1 : Int32))), .val (.int ch), .val (.int qa), .val (.int qc)] []))
       have kp53 : Keep h0 h48 [] := Kjl.wr W48 (Or.inr l0jl_r)
       have f54 : Str Z h48 a t kb cs := (Pjl_1.other W48 nejl_0 nejl_1)
       have f55 : Old Z n0 h48 := (Pjl_2.wr W48 n0jl_r)
       exact ih T48 h48 _ r kr (us.set i (own_E cs (i + 1))) ((Int32.ofNat i) + (-1 : Int32)) qa qa qc qc (.val (.int ch)) (.val (.int qa)) (.val (.int qc)) (X48.more (by decide) (by decide)) e48 N48 (Nat.le_trans Zjl (Nat.le_of_eq W48.size.symm)) kp53 n0jl_r l0jl_r V48 f54 f55 nejl_0 nejl_1 (own_m1 _) (Nat.le_of_lt hil) (by rw [List.length_set]; exact hlen) (own_hv hvs (own_E4 hil (fun q => cz14 (hch.trans q)) (fun q => q.elim (fun q => cz20 (hch.trans q)) (fun q => cz33 (hch.trans q)))).symm (by omega)) (hqa.trans (own_N3 hil (fun q => cz49 (hch.trans q)) (fun q => cz20 (hch.trans q))).symm) hqa (hqc.trans (own_N3 hil (fun q => cz49 (hch.trans q)) (fun q => cz33 (hch.trans q))).symm) hqc (Or.inr ⟨_, rfl, rfl⟩) (Or.inr ⟨_, rfl, rfl⟩) (Or.inr ⟨_, rfl, rfl⟩)
 show Goes _ _ _ _ (T9.setTop (mkF m 34 #[.val (.ref a), .val (.ref b2), .val (.int (-1 : Int32)), .val (.int (-1 : Int32)), .val (.int (-1 : Int32)), .val (.int (-1 : Int32)), .val (.int ((Int32.ofNat cs.length) - (1 : Int32))), uS, uS, uS] []))
 have kp56 : Keep h0 h2 [] := (Keep.refl h0 []).ext E2
 have kp57 : Keep h0 h8 [] := kp56.wr W8 (Or.inr (Nat.le_of_eq g2.symm))
 exact Jjl cs.length T9 h8 _ b2 k2 ((List.replicate (cs.length + 1) (0 : Int32)).set cs.length (-1 : Int32)) ((Int32.ofNat cs.length) - (1 : Int32)) (-1 : Int32) (-1 : Int32) (-1 : Int32) (-1 : Int32) uS uS uS (X9.more (by decide) (by decide)) K9 N9 (Nat.le_trans Z0 (Nat.le_trans E2.1 (Nat.le_of_eq W8.size.symm))) kp57 (Nat.le_trans Z0 (Nat.le_of_eq g2.symm)) (Nat.le_of_eq g2.symm) V8 f10 f11 (Nat.ne_of_lt (Nat.lt_of_lt_of_le P0.1.lt (Nat.le_of_eq g2.symm))) (Nat.ne_of_lt (Nat.lt_of_lt_of_le P0.ltT (Nat.le_of_eq g2.symm))) rfl (Nat.le_refl _) (by simp) (own_hv0 cs) ((own_N0 (by omega)).symm) ((own_N0 (by omega)).symm) ((own_N0 (by omega)).symm) ((own_N0 (by omega)).symm) (Or.inl rfl) (Or.inl rfl) (Or.inl rfl)
theorem ef_law (m : MethodId) (p0 : Int32) (p1 : Int32) (p2 : Int32) (p3 : Int32) (p4 : Int32) (p5 : Int32) (G1 : Int32) (vF : Value) : entryFrame m #[(.int p0), (.int p1), (.int p2), (.int p3), (.int p4), (.int p5)] maxLocals = (mkF m 0 #[.val (.int p0), .val (.int p1), .val (.int p2), .val (.int p3), .val (.int p4), .val (.int p5), uS, uS, uS, uS] []) := by first | (simp [entryFrame, mkF, argsToLocals, Value.category, maxLocals]; done) | rfl
def Q_law (Z : State) (p0 : Int32) (p1 : Int32) (p2 : Int32) (p3 : Int32) (p4 : Int32) (p5 : Int32) (G1 : Int32) (vF : Value) (h0 : Heap) (n0 : Nat) (v : Option Value) (h : Heap) (L : List Loc) : Prop := v = some (.int (1 : Int32)) ∧ Fr n0 L
set_option maxRecDepth 65536 in
set_option maxHeartbeats 40000000 in
theorem rm_law (l : Launch) (Z : State) (a0 : Array Value) (hw : ∀ d ∈ tables_1, d.before a0 Z = true) (ws : List Jvm.Cond) (p0 : Int32) (p1 : Int32) (p2 : Int32) (p3 : Int32) (p4 : Int32) (p5 : Int32) (G1 : Int32) (vF : Value) (h0 : Heap) (n0 : Nat) (Z0 : n0 ≤ h0.size) (P0 : Old Z n0 h0) (O2 : Sta Z Z.heap "java/lang/String" "COMPACT_STRINGS" "Z" (.int G1)) (P5 : ¬ (G1 = (0 : Int32))) (OF : Sta Z Z.heap "jdk/internal/util/Preconditions" "SIOOBE_FORMATTER" "Ljava/util/function/BiFunction;" vF) (rF : vF.isRef = true) :
    MetFree l x (head1 (Jvm.Cond.code x code maxLocals ret :: ws) room_1) (fun aR U => aR = #[(.int p0), (.int p1), (.int p2), (.int p3), (.int p4), (.int p5)] ∧ Z.Warmed39 U.vm ∧ U.heap = h0 ∧ CHv Z EL U.vm h0 ∧ ∀ x ∈ ([] : List Addr), Safe Z EL U.vm h0 x) (fun _ _ _ _ _ => True) (fun _ U o U' => ∃ v L, o = .returned v ∧ Q_law Z p0 p1 p2 p3 p4 p5 G1 vF h0 n0 v U'.heap L ∧ CHr Z EL U.vm U.heap U'.vm U'.heap ∧ ReturnedEndW U o U' L room_1.cells room_1.slots) := by
 refine MetFree.of_bodySF (plainFor_of_name pn_1) hisR ?_
 intro p e s m args below meth c s₁ Bd hml0 hP hK
 obtain ⟨rfl, hZ, hh, hCH, hSF⟩ := hP
 have hx := Bd.exec
 have hby := Bd.bytes
 have hml : c.maxLocals = 10 := hml0
 have hown : s.vm.findClass "com/example/warrant/warrant/messages/ExpressionParserEndsPinLaw" = some m.cls := findClass_of_methodNamed Bd.named
 have hnm := (name_of_methodNamed Bd.named Bd.method).1
 have X0 : Stand p l e room_1 (s.setVm s.vm) m #[(.int p0), (.int p1), (.int p2), (.int p3), (.int p4), (.int p5)] below meth c s₁ [] 0 0 := Stand.of_body Bd
 have e0 : s₁.heap = h0 := by rw [← hh, Bd.state]; rfl
 have N0 := Fr.nil n0
 show Goes p.tables e below _ _
 rw [ef_law m p0 p1 p2 p3 p4 p5 G1 vF]
 refine Goes.named ?_
 intro QQ hQQ
 have hS0 : s.Since s.vm 0 := (State.WarmedH.refl s).since 0
 have hk0 : 0 ≤ h0.size := Nat.zero_le _
 have CR0 : CHr Z EL s.vm h0 s.vm h0 := CHr.refl hCH
 refine Goes.st (fun sT kT => XS.iloadN X0.here hx rfl (hb hby at_0) rfl kT) ?_
 show Goes _ _ _ _ (s₁.setTop (mkF m 1 #[.val (.int p0), .val (.int p1), .val (.int p2), .val (.int p3), .val (.int p4), .val (.int p5), uS, uS, uS, uS] [(.int p0)]))
 refine Goes.st (fun sT kT => XS.bipush X0.here hx rfl (hb hby at_1) kT) ?_
 show Goes _ _ _ _ (s₁.setTop (mkF m 3 #[.val (.int p0), .val (.int p1), .val (.int p2), .val (.int p3), .val (.int p4), .val (.int p5), uS, uS, uS, uS] [(.int (7 : Int32)), (.int p0)]))
 refine Goes.st (fun sT kT => XS.iand X0.here hx rfl (hb hby at_3) rfl kT) ?_
 show Goes _ _ _ _ (s₁.setTop (mkF m 4 #[.val (.int p0), .val (.int p1), .val (.int p2), .val (.int p3), .val (.int p4), .val (.int p5), uS, uS, uS, uS] [(.int (p0 &&& (7 : Int32)))]))
 refine Goes.st (fun sT kT => XS.bipush X0.here hx rfl (hb hby at_4) kT) ?_
 show Goes _ _ _ _ (s₁.setTop (mkF m 6 #[.val (.int p0), .val (.int p1), .val (.int p2), .val (.int p3), .val (.int p4), .val (.int p5), uS, uS, uS, uS] [(.int (6 : Int32)), (.int (p0 &&& (7 : Int32)))]))
 refine Goes.st (fun sT kT => iremM (g := (mkF m 6 #[.val (.int p0), .val (.int p1), .val (.int p2), .val (.int p3), .val (.int p4), .val (.int p5), uS, uS, uS, uS] [(.int (6 : Int32)), (.int (p0 &&& (7 : Int32)))])) X0 hx rfl (hb hby at_6) rfl (by decide) kT) ?_
 show Goes _ _ _ _ (s₁.setTop (mkF m 7 #[.val (.int p0), .val (.int p1), .val (.int p2), .val (.int p3), .val (.int p4), .val (.int p5), uS, uS, uS, uS] [(.int ((p0 &&& (7 : Int32)) % (6 : Int32)))]))
 obtain ⟨n, hn, hn'⟩ := own_rem6 p0
 rw [hn']
 show Goes _ _ _ _ (s₁.setTop (mkF m 7 #[.val (.int p0), .val (.int p1), .val (.int p2), .val (.int p3), .val (.int p4), .val (.int p5), uS, uS, uS, uS] [(.int (Int32.ofNat n))]))
 refine Goes.st (fun sT kT => XS.istore X0.here hx rfl (hb hby at_7) rfl (l' := #[.val (.int p0), .val (.int p1), .val (.int p2), .val (.int p3), .val (.int p4), .val (.int p5), .val (.int (Int32.ofNat n)), uS, uS, uS]) rfl kT) ?_
 show Goes _ _ _ _ (s₁.setTop (mkF m 9 #[.val (.int p0), .val (.int p1), .val (.int p2), .val (.int p3), .val (.int p4), .val (.int p5), .val (.int (Int32.ofNat n)), uS, uS, uS] []))
 refine Goes.st (fun sT kT => XS.iconst X0.here hx rfl (hb hby at_9) kT) ?_
 show Goes _ _ _ _ (s₁.setTop (mkF m 10 #[.val (.int p0), .val (.int p1), .val (.int p2), .val (.int p3), .val (.int p4), .val (.int p5), .val (.int (Int32.ofNat n)), uS, uS, uS] [(.int (5 : Int32))]))
 obtain ⟨T1, h1, k1, X1, e1, E1, A1, st1⟩ := newP X0 hx hZ (aty := .char) (hw0 hw) e0 (g := (mkF m 10 #[.val (.int p0), .val (.int p1), .val (.int p2), .val (.int p3), .val (.int p4), .val (.int p5), .val (.int (Int32.ofNat n)), uS, uS, uS] [(.int (5 : Int32))])) rfl (hb hby at_10) rfl (by decide) (cap := 5) (by decide) (by decide) (by decide) (by decide)
 obtain ⟨b1, g1⟩ : ∃ z, z = h0.size := ⟨_, rfl⟩
 rw [← g1] at A1 st1
 have CR2 : CHr Z EL s.vm h0 s.vm h1 := CR0.trans (CHr.ext E1 CR0.1)
 have V1 : Arv Z h1 b1 k1 .char (5 : Int32) [(.int (0 : Int32)), (.int (0 : Int32)), (.int (0 : Int32)), (.int (0 : Int32)), (.int (0 : Int32))] (.int (0 : Int32)) := (Arv.new A1 (by decide)).pad (pad_rep [] (.int (0 : Int32)) 5)
 refine Goes.st st1 ?_
 show Goes _ _ _ _ (T1.setTop (mkF m 12 #[.val (.int p0), .val (.int p1), .val (.int p2), .val (.int p3), .val (.int p4), .val (.int p5), .val (.int (Int32.ofNat n)), uS, uS, uS] [(.ref b1)]))
 refine Goes.st (fun sT kT => XS.dup X1.here hx rfl (hb hby at_12) rfl rfl kT) ?_
 show Goes _ _ _ _ (T1.setTop (mkF m 13 #[.val (.int p0), .val (.int p1), .val (.int p2), .val (.int p3), .val (.int p4), .val (.int p5), .val (.int (Int32.ofNat n)), uS, uS, uS] [(.ref b1), (.ref b1)]))
 refine Goes.st (fun sT kT => XS.iconst X1.here hx rfl (hb hby at_13) kT) ?_
 show Goes _ _ _ _ (T1.setTop (mkF m 14 #[.val (.int p0), .val (.int p1), .val (.int p2), .val (.int p3), .val (.int p4), .val (.int p5), .val (.int (Int32.ofNat n)), uS, uS, uS] [(.int (0 : Int32)), (.ref b1), (.ref b1)]))
 refine Goes.st (fun sT kT => XS.iloadN X1.here hx rfl (hb hby at_14) rfl kT) ?_
 show Goes _ _ _ _ (T1.setTop (mkF m 15 #[.val (.int p0), .val (.int p1), .val (.int p2), .val (.int p3), .val (.int p4), .val (.int p5), .val (.int (Int32.ofNat n)), uS, uS, uS] [(.int p1), (.int (0 : Int32)), (.ref b1), (.ref b1)]))
 obtain ⟨_, _, ⟨T3, L3, k3, n3⟩, -, X3, ⟨Lc3, hQ3, l3, y3, z3⟩, st3⟩ := Jvm.LawKit.callS X1 hx (y := (⟨"com/example/warrant/warrant/messages/ExpressionParserEndsPinLaw", "pick", "(I)C"⟩ : MethodName)) hown (mvT hZ (hw1 hw)) (mvT hZ (hw2 hw)) (mvT hZ (hw3 hw)) (mvT hZ (hw4 hw)) (by decide) (backOf (W := 3) (rm_pick l Z a0 hw [] p1 h1 n0 (Nat.le_trans Z0 E1.1) ) hZ (hw4 hw) (hw3 hw) (by decide) (by decide)) (g := (mkF m 15 #[.val (.int p0), .val (.int p1), .val (.int p2), .val (.int p3), .val (.int p4), .val (.int p5), .val (.int (Int32.ofNat n)), uS, uS, uS] [(.int p1), (.int (0 : Int32)), (.ref b1), (.ref b1)])) rfl (by rw [hml]; rfl) (argsL := [(.int p1)]) (rest := [(.int (0 : Int32)), (.ref b1), (.ref b1)]) (lenOf pd_4 rfl) rfl (by show 2 * 0 + _ ≤ _; exact Nat.le_of_eq rfl) (hb hby at_15) (fun _ _ => ⟨rfl, e1, (by decide : 1 + 0 ≤ _), (by decide : 5 + 0 ≤ _)⟩)
 dsimp only [Pt.U, Pt.locs, Pt.cells, Pt.slots] at X3 l3 y3 z3 st3 hQ3
 subst l3 y3 z3
 obtain ⟨cc3, rfl, N3q, K3, rg_3⟩ := hQ3
 have N3 := Fr.app N0 N3q
 refine Goes.st st3 ?_
 show Goes _ _ _ _ (T3.setTop (mkF m 18 #[.val (.int p0), .val (.int p1), .val (.int p2), .val (.int p3), .val (.int p4), .val (.int p5), .val (.int (Int32.ofNat n)), uS, uS, uS] [(.int cc3), (.int (0 : Int32)), (.ref b1), (.ref b1)]))
 obtain ⟨oc4, oA4, oq4, oS4, oM4, oH4, oG4⟩ := id V1
 obtain ⟨T5, h5, X5, e5, W5, st5⟩ := stC X3 hx hZ K3 oA4 (j := (0 : Int32)) (inb_of oS4 ⟨by decide, by decide⟩) (g := (mkF m 18 #[.val (.int p0), .val (.int p1), .val (.int p2), .val (.int p3), .val (.int p4), .val (.int p5), .val (.int (Int32.ofNat n)), uS, uS, uS] [(.int cc3), (.int (0 : Int32)), (.ref b1), (.ref b1)])) rfl rfl (hb hby at_18)
 rw [own_narc rg_3] at W5
 have V5 : Arv Z h5 b1 k1 .char (5 : Int32) [(.int cc3), (.int (0 : Int32)), (.int (0 : Int32)), (.int (0 : Int32)), (.int (0 : Int32))] (.int (0 : Int32)) := Arv.set oA4 oq4 oS4 oM4 oH4 oG4 (own_fitsc rg_3) W5 0 rfl (Nat.le_of_ble_eq_true rfl)
 have N5 := Fr.snoc X5 N3 (Nat.le_trans Z0 (Nat.le_of_eq g1.symm))
 have CR6 : CHr Z EL s.vm h0 s.vm h5 := CR2.trans (CHr.wr W5 (own_safeArv hZ.alike V1 (by simp)) CR2.1)
 refine Goes.st st5 ?_
 show Goes _ _ _ _ (T5.setTop (mkF m 19 #[.val (.int p0), .val (.int p1), .val (.int p2), .val (.int p3), .val (.int p4), .val (.int p5), .val (.int (Int32.ofNat n)), uS, uS, uS] [(.ref b1)]))
 refine Goes.st (fun sT kT => XS.dup X5.here hx rfl (hb hby at_19) rfl rfl kT) ?_
 show Goes _ _ _ _ (T5.setTop (mkF m 20 #[.val (.int p0), .val (.int p1), .val (.int p2), .val (.int p3), .val (.int p4), .val (.int p5), .val (.int (Int32.ofNat n)), uS, uS, uS] [(.ref b1), (.ref b1)]))
 refine Goes.st (fun sT kT => XS.iconst X5.here hx rfl (hb hby at_20) kT) ?_
 show Goes _ _ _ _ (T5.setTop (mkF m 21 #[.val (.int p0), .val (.int p1), .val (.int p2), .val (.int p3), .val (.int p4), .val (.int p5), .val (.int (Int32.ofNat n)), uS, uS, uS] [(.int (1 : Int32)), (.ref b1), (.ref b1)]))
 refine Goes.st (fun sT kT => XS.iloadN X5.here hx rfl (hb hby at_21) rfl kT) ?_
 show Goes _ _ _ _ (T5.setTop (mkF m 22 #[.val (.int p0), .val (.int p1), .val (.int p2), .val (.int p3), .val (.int p4), .val (.int p5), .val (.int (Int32.ofNat n)), uS, uS, uS] [(.int p2), (.int (1 : Int32)), (.ref b1), (.ref b1)]))
 obtain ⟨_, _, ⟨T7, L7, k7, n7⟩, -, X7, ⟨Lc7, hQ7, l7, y7, z7⟩, st7⟩ := Jvm.LawKit.callS X5 hx (y := (⟨"com/example/warrant/warrant/messages/ExpressionParserEndsPinLaw", "pick", "(I)C"⟩ : MethodName)) hown (mvT hZ (hw1 hw)) (mvT hZ (hw2 hw)) (mvT hZ (hw3 hw)) (mvT hZ (hw4 hw)) (by decide) (backOf (W := 3) (rm_pick l Z a0 hw [] p2 h5 n0 (Nat.le_trans Z0 (Nat.le_trans E1.1 (Nat.le_of_eq W5.size.symm))) ) hZ (hw4 hw) (hw3 hw) (by decide) (by decide)) (g := (mkF m 22 #[.val (.int p0), .val (.int p1), .val (.int p2), .val (.int p3), .val (.int p4), .val (.int p5), .val (.int (Int32.ofNat n)), uS, uS, uS] [(.int p2), (.int (1 : Int32)), (.ref b1), (.ref b1)])) rfl (by rw [hml]; rfl) (argsL := [(.int p2)]) (rest := [(.int (1 : Int32)), (.ref b1), (.ref b1)]) (lenOf pd_4 rfl) rfl (by show 2 * 0 + _ ≤ _; exact Nat.le_of_eq rfl) (hb hby at_22) (fun _ _ => ⟨rfl, e5, (by decide : 1 + 0 ≤ _), (by decide : 5 + 0 ≤ _)⟩)
 dsimp only [Pt.U, Pt.locs, Pt.cells, Pt.slots] at X7 l7 y7 z7 st7 hQ7
 subst l7 y7 z7
 obtain ⟨cc7, rfl, N7q, K7, rg_7⟩ := hQ7
 have N7 := Fr.app N5 N7q
 refine Goes.st st7 ?_
 show Goes _ _ _ _ (T7.setTop (mkF m 25 #[.val (.int p0), .val (.int p1), .val (.int p2), .val (.int p3), .val (.int p4), .val (.int p5), .val (.int (Int32.ofNat n)), uS, uS, uS] [(.int cc7), (.int (1 : Int32)), (.ref b1), (.ref b1)]))
 obtain ⟨oc8, oA8, oq8, oS8, oM8, oH8, oG8⟩ := id V5
 obtain ⟨T9, h9, X9, e9, W9, st9⟩ := stC X7 hx hZ K7 oA8 (j := (1 : Int32)) (inb_of oS8 ⟨by decide, by decide⟩) (g := (mkF m 25 #[.val (.int p0), .val (.int p1), .val (.int p2), .val (.int p3), .val (.int p4), .val (.int p5), .val (.int (Int32.ofNat n)), uS, uS, uS] [(.int cc7), (.int (1 : Int32)), (.ref b1), (.ref b1)])) rfl rfl (hb hby at_25)
 rw [own_narc rg_7] at W9
 have V9 : Arv Z h9 b1 k1 .char (5 : Int32) [(.int cc3), (.int cc7), (.int (0 : Int32)), (.int (0 : Int32)), (.int (0 : Int32))] (.int (0 : Int32)) := Arv.set oA8 oq8 oS8 oM8 oH8 oG8 (own_fitsc rg_7) W9 1 rfl (Nat.le_of_ble_eq_true rfl)
 have N9 := Fr.snoc X9 N7 (Nat.le_trans Z0 (Nat.le_of_eq g1.symm))
 have CR10 : CHr Z EL s.vm h0 s.vm h9 := CR6.trans (CHr.wr W9 (own_safeArv hZ.alike V5 (by simp)) CR6.1)
 refine Goes.st st9 ?_
 show Goes _ _ _ _ (T9.setTop (mkF m 26 #[.val (.int p0), .val (.int p1), .val (.int p2), .val (.int p3), .val (.int p4), .val (.int p5), .val (.int (Int32.ofNat n)), uS, uS, uS] [(.ref b1)]))
 refine Goes.st (fun sT kT => XS.dup X9.here hx rfl (hb hby at_26) rfl rfl kT) ?_
 show Goes _ _ _ _ (T9.setTop (mkF m 27 #[.val (.int p0), .val (.int p1), .val (.int p2), .val (.int p3), .val (.int p4), .val (.int p5), .val (.int (Int32.ofNat n)), uS, uS, uS] [(.ref b1), (.ref b1)]))
 refine Goes.st (fun sT kT => XS.iconst X9.here hx rfl (hb hby at_27) kT) ?_
 show Goes _ _ _ _ (T9.setTop (mkF m 28 #[.val (.int p0), .val (.int p1), .val (.int p2), .val (.int p3), .val (.int p4), .val (.int p5), .val (.int (Int32.ofNat n)), uS, uS, uS] [(.int (2 : Int32)), (.ref b1), (.ref b1)]))
 refine Goes.st (fun sT kT => XS.iloadN X9.here hx rfl (hb hby at_28) rfl kT) ?_
 show Goes _ _ _ _ (T9.setTop (mkF m 29 #[.val (.int p0), .val (.int p1), .val (.int p2), .val (.int p3), .val (.int p4), .val (.int p5), .val (.int (Int32.ofNat n)), uS, uS, uS] [(.int p3), (.int (2 : Int32)), (.ref b1), (.ref b1)]))
 obtain ⟨_, _, ⟨T11, L11, k11, n11⟩, -, X11, ⟨Lc11, hQ11, l11, y11, z11⟩, st11⟩ := Jvm.LawKit.callS X9 hx (y := (⟨"com/example/warrant/warrant/messages/ExpressionParserEndsPinLaw", "pick", "(I)C"⟩ : MethodName)) hown (mvT hZ (hw1 hw)) (mvT hZ (hw2 hw)) (mvT hZ (hw3 hw)) (mvT hZ (hw4 hw)) (by decide) (backOf (W := 3) (rm_pick l Z a0 hw [] p3 h9 n0 (Nat.le_trans Z0 (Nat.le_trans (Nat.le_trans E1.1 (Nat.le_of_eq W5.size.symm)) (Nat.le_of_eq W9.size.symm))) ) hZ (hw4 hw) (hw3 hw) (by decide) (by decide)) (g := (mkF m 29 #[.val (.int p0), .val (.int p1), .val (.int p2), .val (.int p3), .val (.int p4), .val (.int p5), .val (.int (Int32.ofNat n)), uS, uS, uS] [(.int p3), (.int (2 : Int32)), (.ref b1), (.ref b1)])) rfl (by rw [hml]; rfl) (argsL := [(.int p3)]) (rest := [(.int (2 : Int32)), (.ref b1), (.ref b1)]) (lenOf pd_4 rfl) rfl (by show 2 * 0 + _ ≤ _; exact Nat.le_of_eq rfl) (hb hby at_29) (fun _ _ => ⟨rfl, e9, (by decide : 1 + 0 ≤ _), (by decide : 5 + 0 ≤ _)⟩)
 dsimp only [Pt.U, Pt.locs, Pt.cells, Pt.slots] at X11 l11 y11 z11 st11 hQ11
 subst l11 y11 z11
 obtain ⟨cc11, rfl, N11q, K11, rg_11⟩ := hQ11
 have N11 := Fr.app N9 N11q
 refine Goes.st st11 ?_
 show Goes _ _ _ _ (T11.setTop (mkF m 32 #[.val (.int p0), .val (.int p1), .val (.int p2), .val (.int p3), .val (.int p4), .val (.int p5), .val (.int (Int32.ofNat n)), uS, uS, uS] [(.int cc11), (.int (2 : Int32)), (.ref b1), (.ref b1)]))
 obtain ⟨oc12, oA12, oq12, oS12, oM12, oH12, oG12⟩ := id V9
 obtain ⟨T13, h13, X13, e13, W13, st13⟩ := stC X11 hx hZ K11 oA12 (j := (2 : Int32)) (inb_of oS12 ⟨by decide, by decide⟩) (g := (mkF m 32 #[.val (.int p0), .val (.int p1), .val (.int p2), .val (.int p3), .val (.int p4), .val (.int p5), .val (.int (Int32.ofNat n)), uS, uS, uS] [(.int cc11), (.int (2 : Int32)), (.ref b1), (.ref b1)])) rfl rfl (hb hby at_32)
 rw [own_narc rg_11] at W13
 have V13 : Arv Z h13 b1 k1 .char (5 : Int32) [(.int cc3), (.int cc7), (.int cc11), (.int (0 : Int32)), (.int (0 : Int32))] (.int (0 : Int32)) := Arv.set oA12 oq12 oS12 oM12 oH12 oG12 (own_fitsc rg_11) W13 2 rfl (Nat.le_of_ble_eq_true rfl)
 have N13 := Fr.snoc X13 N11 (Nat.le_trans Z0 (Nat.le_of_eq g1.symm))
 have CR14 : CHr Z EL s.vm h0 s.vm h13 := CR10.trans (CHr.wr W13 (own_safeArv hZ.alike V9 (by simp)) CR10.1)
 refine Goes.st st13 ?_
 show Goes _ _ _ _ (T13.setTop (mkF m 33 #[.val (.int p0), .val (.int p1), .val (.int p2), .val (.int p3), .val (.int p4), .val (.int p5), .val (.int (Int32.ofNat n)), uS, uS, uS] [(.ref b1)]))
 refine Goes.st (fun sT kT => XS.dup X13.here hx rfl (hb hby at_33) rfl rfl kT) ?_
 show Goes _ _ _ _ (T13.setTop (mkF m 34 #[.val (.int p0), .val (.int p1), .val (.int p2), .val (.int p3), .val (.int p4), .val (.int p5), .val (.int (Int32.ofNat n)), uS, uS, uS] [(.ref b1), (.ref b1)]))
 refine Goes.st (fun sT kT => XS.iconst X13.here hx rfl (hb hby at_34) kT) ?_
 show Goes _ _ _ _ (T13.setTop (mkF m 35 #[.val (.int p0), .val (.int p1), .val (.int p2), .val (.int p3), .val (.int p4), .val (.int p5), .val (.int (Int32.ofNat n)), uS, uS, uS] [(.int (3 : Int32)), (.ref b1), (.ref b1)]))
 refine Goes.st (fun sT kT => XS.iload X13.here hx rfl (hb hby at_35) rfl kT) ?_
 show Goes _ _ _ _ (T13.setTop (mkF m 37 #[.val (.int p0), .val (.int p1), .val (.int p2), .val (.int p3), .val (.int p4), .val (.int p5), .val (.int (Int32.ofNat n)), uS, uS, uS] [(.int p4), (.int (3 : Int32)), (.ref b1), (.ref b1)]))
 obtain ⟨_, _, ⟨T15, L15, k15, n15⟩, -, X15, ⟨Lc15, hQ15, l15, y15, z15⟩, st15⟩ := Jvm.LawKit.callS X13 hx (y := (⟨"com/example/warrant/warrant/messages/ExpressionParserEndsPinLaw", "pick", "(I)C"⟩ : MethodName)) hown (mvT hZ (hw1 hw)) (mvT hZ (hw2 hw)) (mvT hZ (hw3 hw)) (mvT hZ (hw4 hw)) (by decide) (backOf (W := 3) (rm_pick l Z a0 hw [] p4 h13 n0 (Nat.le_trans Z0 (Nat.le_trans (Nat.le_trans (Nat.le_trans E1.1 (Nat.le_of_eq W5.size.symm)) (Nat.le_of_eq W9.size.symm)) (Nat.le_of_eq W13.size.symm))) ) hZ (hw4 hw) (hw3 hw) (by decide) (by decide)) (g := (mkF m 37 #[.val (.int p0), .val (.int p1), .val (.int p2), .val (.int p3), .val (.int p4), .val (.int p5), .val (.int (Int32.ofNat n)), uS, uS, uS] [(.int p4), (.int (3 : Int32)), (.ref b1), (.ref b1)])) rfl (by rw [hml]; rfl) (argsL := [(.int p4)]) (rest := [(.int (3 : Int32)), (.ref b1), (.ref b1)]) (lenOf pd_4 rfl) rfl (by show 2 * 0 + _ ≤ _; exact Nat.le_of_eq rfl) (hb hby at_37) (fun _ _ => ⟨rfl, e13, (by decide : 1 + 0 ≤ _), (by decide : 5 + 0 ≤ _)⟩)
 dsimp only [Pt.U, Pt.locs, Pt.cells, Pt.slots] at X15 l15 y15 z15 st15 hQ15
 subst l15 y15 z15
 obtain ⟨cc15, rfl, N15q, K15, rg_15⟩ := hQ15
 have N15 := Fr.app N13 N15q
 refine Goes.st st15 ?_
 show Goes _ _ _ _ (T15.setTop (mkF m 40 #[.val (.int p0), .val (.int p1), .val (.int p2), .val (.int p3), .val (.int p4), .val (.int p5), .val (.int (Int32.ofNat n)), uS, uS, uS] [(.int cc15), (.int (3 : Int32)), (.ref b1), (.ref b1)]))
 obtain ⟨oc16, oA16, oq16, oS16, oM16, oH16, oG16⟩ := id V13
 obtain ⟨T17, h17, X17, e17, W17, st17⟩ := stC X15 hx hZ K15 oA16 (j := (3 : Int32)) (inb_of oS16 ⟨by decide, by decide⟩) (g := (mkF m 40 #[.val (.int p0), .val (.int p1), .val (.int p2), .val (.int p3), .val (.int p4), .val (.int p5), .val (.int (Int32.ofNat n)), uS, uS, uS] [(.int cc15), (.int (3 : Int32)), (.ref b1), (.ref b1)])) rfl rfl (hb hby at_40)
 rw [own_narc rg_15] at W17
 have V17 : Arv Z h17 b1 k1 .char (5 : Int32) [(.int cc3), (.int cc7), (.int cc11), (.int cc15), (.int (0 : Int32))] (.int (0 : Int32)) := Arv.set oA16 oq16 oS16 oM16 oH16 oG16 (own_fitsc rg_15) W17 3 rfl (Nat.le_of_ble_eq_true rfl)
 have N17 := Fr.snoc X17 N15 (Nat.le_trans Z0 (Nat.le_of_eq g1.symm))
 have CR18 : CHr Z EL s.vm h0 s.vm h17 := CR14.trans (CHr.wr W17 (own_safeArv hZ.alike V13 (by simp)) CR14.1)
 refine Goes.st st17 ?_
 show Goes _ _ _ _ (T17.setTop (mkF m 41 #[.val (.int p0), .val (.int p1), .val (.int p2), .val (.int p3), .val (.int p4), .val (.int p5), .val (.int (Int32.ofNat n)), uS, uS, uS] [(.ref b1)]))
 refine Goes.st (fun sT kT => XS.dup X17.here hx rfl (hb hby at_41) rfl rfl kT) ?_
 show Goes _ _ _ _ (T17.setTop (mkF m 42 #[.val (.int p0), .val (.int p1), .val (.int p2), .val (.int p3), .val (.int p4), .val (.int p5), .val (.int (Int32.ofNat n)), uS, uS, uS] [(.ref b1), (.ref b1)]))
 refine Goes.st (fun sT kT => XS.iconst X17.here hx rfl (hb hby at_42) kT) ?_
 show Goes _ _ _ _ (T17.setTop (mkF m 43 #[.val (.int p0), .val (.int p1), .val (.int p2), .val (.int p3), .val (.int p4), .val (.int p5), .val (.int (Int32.ofNat n)), uS, uS, uS] [(.int (4 : Int32)), (.ref b1), (.ref b1)]))
 refine Goes.st (fun sT kT => XS.iload X17.here hx rfl (hb hby at_43) rfl kT) ?_
 show Goes _ _ _ _ (T17.setTop (mkF m 45 #[.val (.int p0), .val (.int p1), .val (.int p2), .val (.int p3), .val (.int p4), .val (.int p5), .val (.int (Int32.ofNat n)), uS, uS, uS] [(.int p5), (.int (4 : Int32)), (.ref b1), (.ref b1)]))
 obtain ⟨_, _, ⟨T19, L19, k19, n19⟩, -, X19, ⟨Lc19, hQ19, l19, y19, z19⟩, st19⟩ := Jvm.LawKit.callS X17 hx (y := (⟨"com/example/warrant/warrant/messages/ExpressionParserEndsPinLaw", "pick", "(I)C"⟩ : MethodName)) hown (mvT hZ (hw1 hw)) (mvT hZ (hw2 hw)) (mvT hZ (hw3 hw)) (mvT hZ (hw4 hw)) (by decide) (backOf (W := 3) (rm_pick l Z a0 hw [] p5 h17 n0 (Nat.le_trans Z0 (Nat.le_trans (Nat.le_trans (Nat.le_trans (Nat.le_trans E1.1 (Nat.le_of_eq W5.size.symm)) (Nat.le_of_eq W9.size.symm)) (Nat.le_of_eq W13.size.symm)) (Nat.le_of_eq W17.size.symm))) ) hZ (hw4 hw) (hw3 hw) (by decide) (by decide)) (g := (mkF m 45 #[.val (.int p0), .val (.int p1), .val (.int p2), .val (.int p3), .val (.int p4), .val (.int p5), .val (.int (Int32.ofNat n)), uS, uS, uS] [(.int p5), (.int (4 : Int32)), (.ref b1), (.ref b1)])) rfl (by rw [hml]; rfl) (argsL := [(.int p5)]) (rest := [(.int (4 : Int32)), (.ref b1), (.ref b1)]) (lenOf pd_4 rfl) rfl (by show 2 * 0 + _ ≤ _; exact Nat.le_of_eq rfl) (hb hby at_45) (fun _ _ => ⟨rfl, e17, (by decide : 1 + 0 ≤ _), (by decide : 5 + 0 ≤ _)⟩)
 dsimp only [Pt.U, Pt.locs, Pt.cells, Pt.slots] at X19 l19 y19 z19 st19 hQ19
 subst l19 y19 z19
 obtain ⟨cc19, rfl, N19q, K19, rg_19⟩ := hQ19
 have N19 := Fr.app N17 N19q
 refine Goes.st st19 ?_
 show Goes _ _ _ _ (T19.setTop (mkF m 48 #[.val (.int p0), .val (.int p1), .val (.int p2), .val (.int p3), .val (.int p4), .val (.int p5), .val (.int (Int32.ofNat n)), uS, uS, uS] [(.int cc19), (.int (4 : Int32)), (.ref b1), (.ref b1)]))
 obtain ⟨oc20, oA20, oq20, oS20, oM20, oH20, oG20⟩ := id V17
 obtain ⟨T21, h21, X21, e21, W21, st21⟩ := stC X19 hx hZ K19 oA20 (j := (4 : Int32)) (inb_of oS20 ⟨by decide, by decide⟩) (g := (mkF m 48 #[.val (.int p0), .val (.int p1), .val (.int p2), .val (.int p3), .val (.int p4), .val (.int p5), .val (.int (Int32.ofNat n)), uS, uS, uS] [(.int cc19), (.int (4 : Int32)), (.ref b1), (.ref b1)])) rfl rfl (hb hby at_48)
 rw [own_narc rg_19] at W21
 have V21 : Arv Z h21 b1 k1 .char (5 : Int32) [(.int cc3), (.int cc7), (.int cc11), (.int cc15), (.int cc19)] (.int (0 : Int32)) := Arv.set oA20 oq20 oS20 oM20 oH20 oG20 (own_fitsc rg_19) W21 4 rfl (Nat.le_of_ble_eq_true rfl)
 have N21 := Fr.snoc X21 N19 (Nat.le_trans Z0 (Nat.le_of_eq g1.symm))
 have CR22 : CHr Z EL s.vm h0 s.vm h21 := CR18.trans (CHr.wr W21 (own_safeArv hZ.alike V17 (by simp)) CR18.1)
 refine Goes.st st21 ?_
 show Goes _ _ _ _ (T21.setTop (mkF m 49 #[.val (.int p0), .val (.int p1), .val (.int p2), .val (.int p3), .val (.int p4), .val (.int p5), .val (.int (Int32.ofNat n)), uS, uS, uS] [(.ref b1)]))
 refine Goes.st (fun sT kT => XS.astore X21.here hx rfl (hb hby at_49) rfl rfl (l' := #[.val (.int p0), .val (.int p1), .val (.int p2), .val (.int p3), .val (.int p4), .val (.int p5), .val (.int (Int32.ofNat n)), .val (.ref b1), uS, uS]) rfl kT) ?_
 show Goes _ _ _ _ (T21.setTop (mkF m 51 #[.val (.int p0), .val (.int p1), .val (.int p2), .val (.int p3), .val (.int p4), .val (.int p5), .val (.int (Int32.ofNat n)), .val (.ref b1), uS, uS] []))
 have nb : n0 ≤ b1 := (Nat.le_trans Z0 (Nat.le_of_eq g1.symm))
 have Jjt : ∀ (Tjt : State) (hjt : Heap) (Ljt : List Loc) (vmjt : Vm) (kjt : Nat) (xs : Addr) (tq : Addr) (kq : ClassId) (ts : List Int32) (cc : List Int32) (m6 : Nat) (l8 : Slot), Stand p l e room_1 (s.setVm vmjt) m #[(.int p0), (.int p1), (.int p2), (.int p3), (.int p4), (.int p5)] below meth c Tjt Ljt 7 22 → Tjt.heap = hjt → Fr n0 Ljt → n0 ≤ hjt.size → Z.Warmed39 vmjt → vmjt.findClass "com/example/warrant/warrant/messages/ExpressionParserEndsPinLaw" = some m.cls → s.Since vmjt kjt → kjt ≤ hjt.size → CHr Z EL s.vm h0 vmjt hjt → Str Z hjt xs tq kq ts → Arv Z hjt b1 k1 .char (5 : Int32) (cc.map Value.int) (.int (0 : Int32)) → Old Z n0 hjt → m6 ≤ 5 → cc.length = 5 → ts = cc.take m6 → (l8 = .unset ∨ ∃ w, l8 = .val w ∧ w.category = 1) → Goes p.tables e below QQ (Tjt.setTop (mkF m 239 #[.val (.int p0), .val (.int p1), .val (.int p2), .val (.int p3), .val (.int p4), .val (.int p5), .val (.int (Int32.ofNat m6)), .val (.ref b1), l8, uS] [(.ref xs)])) := by
  intro Tjt hjt Ljt vmjt kjt xs tq kq ts cc m6 l8 Xjt ejt Njt Zjt hZjt hownjt hSjt hkjt CRjt Pjt_0 Pjt_1 Pjt_2 hm hcl hts hl8
  show Goes _ _ _ _ (Tjt.setTop (mkF m 239 #[.val (.int p0), .val (.int p1), .val (.int p2), .val (.int p3), .val (.int p4), .val (.int p5), .val (.int (Int32.ofNat m6)), .val (.ref b1), l8, uS] [(.ref xs)]))
  obtain ⟨_, _, ⟨T23, L23, k23, n23⟩, -, X23, ⟨Lc23, hQ23, l23, y23, z23⟩, st23⟩ := Jvm.LawKit.callS Xjt hx (y := (⟨"com/example/warrant/warrant/messages/ExpressionParser", "ends", "(Ljava/lang/String;)[I"⟩ : MethodName)) hownjt (mvT hZjt (hw26 hw)) (mvT hZjt (hw27 hw)) (mvT hZjt (hw28 hw)) (mvT hZjt (hw29 hw)) (by decide) (backOf (W := 0) (rm_ends l Z a0 hw [] xs tq kq ts G1 vF hjt n0 Zjt Pjt_0 Pjt_2 O2 P5 OF rF (by rw [own_tl hcl hm hts]; exact hm)) hZjt (hw29 hw) (hw28 hw) (by decide) (by decide)) (g := (mkF m 239 #[.val (.int p0), .val (.int p1), .val (.int p2), .val (.int p3), .val (.int p4), .val (.int p5), .val (.int (Int32.ofNat m6)), .val (.ref b1), l8, uS] [(.ref xs)])) rfl (by rw [hml]; rfl) (argsL := [(.ref xs)]) (rest := []) (lenOf pd_5 rfl) rfl (by show 2 * 0 + _ ≤ _; exact Nat.le_of_eq rfl) (hb hby at_239) (fun _ _ => ⟨rfl, ejt, (by decide : 7 + 1 ≤ _), (by decide : 22 + 6 ≤ _)⟩)
  dsimp only [Pt.U, Pt.locs, Pt.cells, Pt.slots] at X23 l23 y23 z23 st23 hQ23
  subst l23 y23 z23
  obtain ⟨r23, kr23, us23, rfl, N23q, K23, F23_0, lo23_0, hv_23⟩ := hQ23
  have N23 := Fr.app Njt N23q
  have hs24 : ∀ x ∈ ([] : List Addr), Safe Z EL vmjt hjt x := all0
  have CR24 : CHr Z EL s.vm h0 vmjt T23.heap := CRjt.trans (CHr.keep K23 hs24 CRjt.1)
  have Vr25 : Arv Z T23.heap r23 kr23 .int (Int32.ofNat (m6 + 1)) (us23.map Value.int) (.int (0 : Int32)) := by have q := F23_0; rw [own_tl hcl hm hts] at q; exact q
  refine Goes.st st23 ?_
  show Goes _ _ _ _ (T23.setTop (mkF m 242 #[.val (.int p0), .val (.int p1), .val (.int p2), .val (.int p3), .val (.int p4), .val (.int p5), .val (.int (Int32.ofNat m6)), .val (.ref b1), l8, uS] [(.ref r23)]))
  refine Goes.st (fun sT kT => XS.astore X23.here hx rfl (hb hby at_242) rfl rfl (l' := #[.val (.int p0), .val (.int p1), .val (.int p2), .val (.int p3), .val (.int p4), .val (.int p5), .val (.int (Int32.ofNat m6)), .val (.ref b1), l8, .val (.ref r23)]) rfl kT) ?_
  show Goes _ _ _ _ (T23.setTop (mkF m 244 #[.val (.int p0), .val (.int p1), .val (.int p2), .val (.int p3), .val (.int p4), .val (.int p5), .val (.int (Int32.ofNat m6)), .val (.ref b1), l8, .val (.ref r23)] []))
  refine Goes.st (fun sT kT => XS.aload X23.here hx rfl (hb hby at_244) rfl rfl kT) ?_
  show Goes _ _ _ _ (T23.setTop (mkF m 246 #[.val (.int p0), .val (.int p1), .val (.int p2), .val (.int p3), .val (.int p4), .val (.int p5), .val (.int (Int32.ofNat m6)), .val (.ref b1), l8, .val (.ref r23)] [(.ref r23)]))
  obtain ⟨oc26, oA26, oq26, oS26, oM26, oH26, oG26⟩ := id Vr25
  refine Goes.st (fun sT kT => X23.arraylength hx oA26.1 (State.isArrayOf_alike hZjt.alike oA26.2.1) (g := (mkF m 246 #[.val (.int p0), .val (.int p1), .val (.int p2), .val (.int p3), .val (.int p4), .val (.int p5), .val (.int (Int32.ofNat m6)), .val (.ref b1), l8, .val (.ref r23)] [(.ref r23)])) rfl rfl (hb hby at_246) _ kT) ?_
  rw [len_of oS26 oM26]
  show Goes _ _ _ _ (T23.setTop (mkF m 247 #[.val (.int p0), .val (.int p1), .val (.int p2), .val (.int p3), .val (.int p4), .val (.int p5), .val (.int (Int32.ofNat m6)), .val (.ref b1), l8, .val (.ref r23)] [(.int (Int32.ofNat (m6 + 1)))]))
  refine Goes.st (fun sT kT => XS.iload X23.here hx rfl (hb hby at_247) rfl kT) ?_
  show Goes _ _ _ _ (T23.setTop (mkF m 249 #[.val (.int p0), .val (.int p1), .val (.int p2), .val (.int p3), .val (.int p4), .val (.int p5), .val (.int (Int32.ofNat m6)), .val (.ref b1), l8, .val (.ref r23)] [(.int (Int32.ofNat m6)), (.int (Int32.ofNat (m6 + 1)))]))
  refine Goes.st (fun sT kT => XS.iconst X23.here hx rfl (hb hby at_249) kT) ?_
  show Goes _ _ _ _ (T23.setTop (mkF m 250 #[.val (.int p0), .val (.int p1), .val (.int p2), .val (.int p3), .val (.int p4), .val (.int p5), .val (.int (Int32.ofNat m6)), .val (.ref b1), l8, .val (.ref r23)] [(.int (1 : Int32)), (.int (Int32.ofNat m6)), (.int (Int32.ofNat (m6 + 1)))]))
  refine Goes.st (fun sT kT => XS.iadd X23.here hx rfl (hb hby at_250) rfl kT) ?_
  show Goes _ _ _ _ (T23.setTop (mkF m 251 #[.val (.int p0), .val (.int p1), .val (.int p2), .val (.int p3), .val (.int p4), .val (.int p5), .val (.int (Int32.ofNat m6)), .val (.ref b1), l8, .val (.ref r23)] [(.int ((Int32.ofNat m6) + (1 : Int32))), (.int (Int32.ofNat (m6 + 1)))]))
  refine Goes.st (fun sT kT => XS.icmpYes X23.here hx rfl (pc0 := 251) (pc' := 256) rfl (hb hby at_251) rfl (teq (own_nadd1 m6).symm).1 (by decide) (by decide) kT) ?_
  show Goes _ _ _ _ (T23.setTop (mkF m 256 #[.val (.int p0), .val (.int p1), .val (.int p2), .val (.int p3), .val (.int p4), .val (.int p5), .val (.int (Int32.ofNat m6)), .val (.ref b1), l8, .val (.ref r23)] []))
  refine Goes.st (fun sT kT => XS.aload X23.here hx rfl (hb hby at_256) rfl rfl kT) ?_
  show Goes _ _ _ _ (T23.setTop (mkF m 258 #[.val (.int p0), .val (.int p1), .val (.int p2), .val (.int p3), .val (.int p4), .val (.int p5), .val (.int (Int32.ofNat m6)), .val (.ref b1), l8, .val (.ref r23)] [(.ref r23)]))
  refine Goes.st (fun sT kT => XS.aload X23.here hx rfl (hb hby at_258) rfl rfl kT) ?_
  show Goes _ _ _ _ (T23.setTop (mkF m 260 #[.val (.int p0), .val (.int p1), .val (.int p2), .val (.int p3), .val (.int p4), .val (.int p5), .val (.int (Int32.ofNat m6)), .val (.ref b1), l8, .val (.ref r23)] [(.ref b1), (.ref r23)]))
  refine Goes.st (fun sT kT => XS.iload X23.here hx rfl (hb hby at_260) rfl kT) ?_
  show Goes _ _ _ _ (T23.setTop (mkF m 262 #[.val (.int p0), .val (.int p1), .val (.int p2), .val (.int p3), .val (.int p4), .val (.int p5), .val (.int (Int32.ofNat m6)), .val (.ref b1), l8, .val (.ref r23)] [(.int (Int32.ofNat m6)), (.ref b1), (.ref r23)]))
  refine Goes.st (fun sT kT => XS.iconst X23.here hx rfl (hb hby at_262) kT) ?_
  show Goes _ _ _ _ (T23.setTop (mkF m 263 #[.val (.int p0), .val (.int p1), .val (.int p2), .val (.int p3), .val (.int p4), .val (.int p5), .val (.int (Int32.ofNat m6)), .val (.ref b1), l8, .val (.ref r23)] [(.int (0 : Int32)), (.int (Int32.ofNat m6)), (.ref b1), (.ref r23)]))
  have f28 : Arv Z T23.heap b1 k1 .char (5 : Int32) (cc.map Value.int) (.int (0 : Int32)) := (Pjt_1.keep K23 nin0)
  obtain ⟨_, _, ⟨T27, L27, k27, n27⟩, -, X27, ⟨Lc27, hQ27, l27, y27, z27⟩, st27⟩ := Jvm.LawKit.callS X23 hx (y := (⟨"com/example/warrant/warrant/messages/ExpressionParserEndsPinLaw", "at", "([I[CII)Z"⟩ : MethodName)) hownjt (mvT hZjt (hw42 hw)) (mvT hZjt (hw43 hw)) (mvT hZjt (hw3 hw)) (mvT hZjt (hw44 hw)) (by decide) (backOf (W := 0) (rm_att l Z a0 hw [] r23 kr23 us23 b1 k1 cc m6 0 T23.heap n0 (Nat.le_trans Zjt K23.1) Vr25 f28 hm (by rw [hcl]; exact hm) (by decide) (own_hat hcl hm hts hv_23 _)) hZjt (hw44 hw) (hw3 hw) (by decide) (by decide)) (g := (mkF m 263 #[.val (.int p0), .val (.int p1), .val (.int p2), .val (.int p3), .val (.int p4), .val (.int p5), .val (.int (Int32.ofNat m6)), .val (.ref b1), l8, .val (.ref r23)] [(.int (0 : Int32)), (.int (Int32.ofNat m6)), (.ref b1), (.ref r23)])) rfl (by rw [hml]; rfl) (argsL := [(.ref r23), (.ref b1), (.int (Int32.ofNat m6)), (.int (0 : Int32))]) (rest := []) (lenOf pd_6 rfl) rfl (by show 2 * 0 + _ ≤ _; exact Nat.le_of_eq rfl) (hb hby at_263) (fun _ _ => ⟨rfl, rfl, (by decide : 8 + 0 ≤ _), (by decide : 28 + 0 ≤ _)⟩)
  dsimp only [Pt.U, Pt.locs, Pt.cells, Pt.slots] at X27 l27 y27 z27 st27 hQ27
  subst l27 y27 z27
  obtain ⟨rfl, N27q, K27⟩ := hQ27
  have N27 := Fr.app N23 N27q
  refine Goes.st st27 ?_
  show Goes _ _ _ _ (T27.setTop (mkF m 266 #[.val (.int p0), .val (.int p1), .val (.int p2), .val (.int p3), .val (.int p4), .val (.int p5), .val (.int (Int32.ofNat m6)), .val (.ref b1), l8, .val (.ref r23)] [(.int (1 : Int32))]))
  refine Goes.st (fun sT kT => XS.ifNo X27.here hx rfl (hb hby at_266) rfl ((if0 _ _).trans (feq (by decide : ¬ ((1 : Int32) = (0 : Int32)))).1) kT) ?_
  show Goes _ _ _ _ (T27.setTop (mkF m 269 #[.val (.int p0), .val (.int p1), .val (.int p2), .val (.int p3), .val (.int p4), .val (.int p5), .val (.int (Int32.ofNat m6)), .val (.ref b1), l8, .val (.ref r23)] []))
  refine Goes.st (fun sT kT => XS.aload X27.here hx rfl (hb hby at_269) rfl rfl kT) ?_
  show Goes _ _ _ _ (T27.setTop (mkF m 271 #[.val (.int p0), .val (.int p1), .val (.int p2), .val (.int p3), .val (.int p4), .val (.int p5), .val (.int (Int32.ofNat m6)), .val (.ref b1), l8, .val (.ref r23)] [(.ref r23)]))
  refine Goes.st (fun sT kT => XS.aload X27.here hx rfl (hb hby at_271) rfl rfl kT) ?_
  show Goes _ _ _ _ (T27.setTop (mkF m 273 #[.val (.int p0), .val (.int p1), .val (.int p2), .val (.int p3), .val (.int p4), .val (.int p5), .val (.int (Int32.ofNat m6)), .val (.ref b1), l8, .val (.ref r23)] [(.ref b1), (.ref r23)]))
  refine Goes.st (fun sT kT => XS.iload X27.here hx rfl (hb hby at_273) rfl kT) ?_
  show Goes _ _ _ _ (T27.setTop (mkF m 275 #[.val (.int p0), .val (.int p1), .val (.int p2), .val (.int p3), .val (.int p4), .val (.int p5), .val (.int (Int32.ofNat m6)), .val (.ref b1), l8, .val (.ref r23)] [(.int (Int32.ofNat m6)), (.ref b1), (.ref r23)]))
  refine Goes.st (fun sT kT => XS.iconst X27.here hx rfl (hb hby at_275) kT) ?_
  show Goes _ _ _ _ (T27.setTop (mkF m 276 #[.val (.int p0), .val (.int p1), .val (.int p2), .val (.int p3), .val (.int p4), .val (.int p5), .val (.int (Int32.ofNat m6)), .val (.ref b1), l8, .val (.ref r23)] [(.int (1 : Int32)), (.int (Int32.ofNat m6)), (.ref b1), (.ref r23)]))
  obtain ⟨_, _, ⟨T29, L29, k29, n29⟩, -, X29, ⟨Lc29, hQ29, l29, y29, z29⟩, st29⟩ := Jvm.LawKit.callS X27 hx (y := (⟨"com/example/warrant/warrant/messages/ExpressionParserEndsPinLaw", "at", "([I[CII)Z"⟩ : MethodName)) hownjt (mvT hZjt (hw42 hw)) (mvT hZjt (hw43 hw)) (mvT hZjt (hw3 hw)) (mvT hZjt (hw44 hw)) (by decide) (backOf (W := 0) (rm_att l Z a0 hw [] r23 kr23 us23 b1 k1 cc m6 1 T23.heap n0 (Nat.le_trans Zjt K23.1) Vr25 f28 hm (by rw [hcl]; exact hm) (by decide) (own_hat hcl hm hts hv_23 _)) hZjt (hw44 hw) (hw3 hw) (by decide) (by decide)) (g := (mkF m 276 #[.val (.int p0), .val (.int p1), .val (.int p2), .val (.int p3), .val (.int p4), .val (.int p5), .val (.int (Int32.ofNat m6)), .val (.ref b1), l8, .val (.ref r23)] [(.int (1 : Int32)), (.int (Int32.ofNat m6)), (.ref b1), (.ref r23)])) rfl (by rw [hml]; rfl) (argsL := [(.ref r23), (.ref b1), (.int (Int32.ofNat m6)), (.int (1 : Int32))]) (rest := []) (lenOf pd_6 rfl) rfl (by show 2 * 0 + _ ≤ _; exact Nat.le_of_eq rfl) (hb hby at_276) (fun _ _ => ⟨rfl, K27, (by decide : 8 + 0 ≤ _), (by decide : 28 + 0 ≤ _)⟩)
  dsimp only [Pt.U, Pt.locs, Pt.cells, Pt.slots] at X29 l29 y29 z29 st29 hQ29
  subst l29 y29 z29
  obtain ⟨rfl, N29q, K29⟩ := hQ29
  have N29 := Fr.app N27 N29q
  refine Goes.st st29 ?_
  show Goes _ _ _ _ (T29.setTop (mkF m 279 #[.val (.int p0), .val (.int p1), .val (.int p2), .val (.int p3), .val (.int p4), .val (.int p5), .val (.int (Int32.ofNat m6)), .val (.ref b1), l8, .val (.ref r23)] [(.int (1 : Int32))]))
  refine Goes.st (fun sT kT => XS.ifNo X29.here hx rfl (hb hby at_279) rfl ((if0 _ _).trans (feq (by decide : ¬ ((1 : Int32) = (0 : Int32)))).1) kT) ?_
  show Goes _ _ _ _ (T29.setTop (mkF m 282 #[.val (.int p0), .val (.int p1), .val (.int p2), .val (.int p3), .val (.int p4), .val (.int p5), .val (.int (Int32.ofNat m6)), .val (.ref b1), l8, .val (.ref r23)] []))
  refine Goes.st (fun sT kT => XS.aload X29.here hx rfl (hb hby at_282) rfl rfl kT) ?_
  show Goes _ _ _ _ (T29.setTop (mkF m 284 #[.val (.int p0), .val (.int p1), .val (.int p2), .val (.int p3), .val (.int p4), .val (.int p5), .val (.int (Int32.ofNat m6)), .val (.ref b1), l8, .val (.ref r23)] [(.ref r23)]))
  refine Goes.st (fun sT kT => XS.aload X29.here hx rfl (hb hby at_284) rfl rfl kT) ?_
  show Goes _ _ _ _ (T29.setTop (mkF m 286 #[.val (.int p0), .val (.int p1), .val (.int p2), .val (.int p3), .val (.int p4), .val (.int p5), .val (.int (Int32.ofNat m6)), .val (.ref b1), l8, .val (.ref r23)] [(.ref b1), (.ref r23)]))
  refine Goes.st (fun sT kT => XS.iload X29.here hx rfl (hb hby at_286) rfl kT) ?_
  show Goes _ _ _ _ (T29.setTop (mkF m 288 #[.val (.int p0), .val (.int p1), .val (.int p2), .val (.int p3), .val (.int p4), .val (.int p5), .val (.int (Int32.ofNat m6)), .val (.ref b1), l8, .val (.ref r23)] [(.int (Int32.ofNat m6)), (.ref b1), (.ref r23)]))
  refine Goes.st (fun sT kT => XS.iconst X29.here hx rfl (hb hby at_288) kT) ?_
  show Goes _ _ _ _ (T29.setTop (mkF m 289 #[.val (.int p0), .val (.int p1), .val (.int p2), .val (.int p3), .val (.int p4), .val (.int p5), .val (.int (Int32.ofNat m6)), .val (.ref b1), l8, .val (.ref r23)] [(.int (2 : Int32)), (.int (Int32.ofNat m6)), (.ref b1), (.ref r23)]))
  obtain ⟨_, _, ⟨T30, L30, k30, n30⟩, -, X30, ⟨Lc30, hQ30, l30, y30, z30⟩, st30⟩ := Jvm.LawKit.callS X29 hx (y := (⟨"com/example/warrant/warrant/messages/ExpressionParserEndsPinLaw", "at", "([I[CII)Z"⟩ : MethodName)) hownjt (mvT hZjt (hw42 hw)) (mvT hZjt (hw43 hw)) (mvT hZjt (hw3 hw)) (mvT hZjt (hw44 hw)) (by decide) (backOf (W := 0) (rm_att l Z a0 hw [] r23 kr23 us23 b1 k1 cc m6 2 T23.heap n0 (Nat.le_trans Zjt K23.1) Vr25 f28 hm (by rw [hcl]; exact hm) (by decide) (own_hat hcl hm hts hv_23 _)) hZjt (hw44 hw) (hw3 hw) (by decide) (by decide)) (g := (mkF m 289 #[.val (.int p0), .val (.int p1), .val (.int p2), .val (.int p3), .val (.int p4), .val (.int p5), .val (.int (Int32.ofNat m6)), .val (.ref b1), l8, .val (.ref r23)] [(.int (2 : Int32)), (.int (Int32.ofNat m6)), (.ref b1), (.ref r23)])) rfl (by rw [hml]; rfl) (argsL := [(.ref r23), (.ref b1), (.int (Int32.ofNat m6)), (.int (2 : Int32))]) (rest := []) (lenOf pd_6 rfl) rfl (by show 2 * 0 + _ ≤ _; exact Nat.le_of_eq rfl) (hb hby at_289) (fun _ _ => ⟨rfl, K29, (by decide : 8 + 0 ≤ _), (by decide : 28 + 0 ≤ _)⟩)
  dsimp only [Pt.U, Pt.locs, Pt.cells, Pt.slots] at X30 l30 y30 z30 st30 hQ30
  subst l30 y30 z30
  obtain ⟨rfl, N30q, K30⟩ := hQ30
  have N30 := Fr.app N29 N30q
  refine Goes.st st30 ?_
  show Goes _ _ _ _ (T30.setTop (mkF m 292 #[.val (.int p0), .val (.int p1), .val (.int p2), .val (.int p3), .val (.int p4), .val (.int p5), .val (.int (Int32.ofNat m6)), .val (.ref b1), l8, .val (.ref r23)] [(.int (1 : Int32))]))
  refine Goes.st (fun sT kT => XS.ifNo X30.here hx rfl (hb hby at_292) rfl ((if0 _ _).trans (feq (by decide : ¬ ((1 : Int32) = (0 : Int32)))).1) kT) ?_
  show Goes _ _ _ _ (T30.setTop (mkF m 295 #[.val (.int p0), .val (.int p1), .val (.int p2), .val (.int p3), .val (.int p4), .val (.int p5), .val (.int (Int32.ofNat m6)), .val (.ref b1), l8, .val (.ref r23)] []))
  refine Goes.st (fun sT kT => XS.aload X30.here hx rfl (hb hby at_295) rfl rfl kT) ?_
  show Goes _ _ _ _ (T30.setTop (mkF m 297 #[.val (.int p0), .val (.int p1), .val (.int p2), .val (.int p3), .val (.int p4), .val (.int p5), .val (.int (Int32.ofNat m6)), .val (.ref b1), l8, .val (.ref r23)] [(.ref r23)]))
  refine Goes.st (fun sT kT => XS.aload X30.here hx rfl (hb hby at_297) rfl rfl kT) ?_
  show Goes _ _ _ _ (T30.setTop (mkF m 299 #[.val (.int p0), .val (.int p1), .val (.int p2), .val (.int p3), .val (.int p4), .val (.int p5), .val (.int (Int32.ofNat m6)), .val (.ref b1), l8, .val (.ref r23)] [(.ref b1), (.ref r23)]))
  refine Goes.st (fun sT kT => XS.iload X30.here hx rfl (hb hby at_299) rfl kT) ?_
  show Goes _ _ _ _ (T30.setTop (mkF m 301 #[.val (.int p0), .val (.int p1), .val (.int p2), .val (.int p3), .val (.int p4), .val (.int p5), .val (.int (Int32.ofNat m6)), .val (.ref b1), l8, .val (.ref r23)] [(.int (Int32.ofNat m6)), (.ref b1), (.ref r23)]))
  refine Goes.st (fun sT kT => XS.iconst X30.here hx rfl (hb hby at_301) kT) ?_
  show Goes _ _ _ _ (T30.setTop (mkF m 302 #[.val (.int p0), .val (.int p1), .val (.int p2), .val (.int p3), .val (.int p4), .val (.int p5), .val (.int (Int32.ofNat m6)), .val (.ref b1), l8, .val (.ref r23)] [(.int (3 : Int32)), (.int (Int32.ofNat m6)), (.ref b1), (.ref r23)]))
  obtain ⟨_, _, ⟨T31, L31, k31, n31⟩, -, X31, ⟨Lc31, hQ31, l31, y31, z31⟩, st31⟩ := Jvm.LawKit.callS X30 hx (y := (⟨"com/example/warrant/warrant/messages/ExpressionParserEndsPinLaw", "at", "([I[CII)Z"⟩ : MethodName)) hownjt (mvT hZjt (hw42 hw)) (mvT hZjt (hw43 hw)) (mvT hZjt (hw3 hw)) (mvT hZjt (hw44 hw)) (by decide) (backOf (W := 0) (rm_att l Z a0 hw [] r23 kr23 us23 b1 k1 cc m6 3 T23.heap n0 (Nat.le_trans Zjt K23.1) Vr25 f28 hm (by rw [hcl]; exact hm) (by decide) (own_hat hcl hm hts hv_23 _)) hZjt (hw44 hw) (hw3 hw) (by decide) (by decide)) (g := (mkF m 302 #[.val (.int p0), .val (.int p1), .val (.int p2), .val (.int p3), .val (.int p4), .val (.int p5), .val (.int (Int32.ofNat m6)), .val (.ref b1), l8, .val (.ref r23)] [(.int (3 : Int32)), (.int (Int32.ofNat m6)), (.ref b1), (.ref r23)])) rfl (by rw [hml]; rfl) (argsL := [(.ref r23), (.ref b1), (.int (Int32.ofNat m6)), (.int (3 : Int32))]) (rest := []) (lenOf pd_6 rfl) rfl (by show 2 * 0 + _ ≤ _; exact Nat.le_of_eq rfl) (hb hby at_302) (fun _ _ => ⟨rfl, K30, (by decide : 8 + 0 ≤ _), (by decide : 28 + 0 ≤ _)⟩)
  dsimp only [Pt.U, Pt.locs, Pt.cells, Pt.slots] at X31 l31 y31 z31 st31 hQ31
  subst l31 y31 z31
  obtain ⟨rfl, N31q, K31⟩ := hQ31
  have N31 := Fr.app N30 N31q
  refine Goes.st st31 ?_
  show Goes _ _ _ _ (T31.setTop (mkF m 305 #[.val (.int p0), .val (.int p1), .val (.int p2), .val (.int p3), .val (.int p4), .val (.int p5), .val (.int (Int32.ofNat m6)), .val (.ref b1), l8, .val (.ref r23)] [(.int (1 : Int32))]))
  refine Goes.st (fun sT kT => XS.ifNo X31.here hx rfl (hb hby at_305) rfl ((if0 _ _).trans (feq (by decide : ¬ ((1 : Int32) = (0 : Int32)))).1) kT) ?_
  show Goes _ _ _ _ (T31.setTop (mkF m 308 #[.val (.int p0), .val (.int p1), .val (.int p2), .val (.int p3), .val (.int p4), .val (.int p5), .val (.int (Int32.ofNat m6)), .val (.ref b1), l8, .val (.ref r23)] []))
  refine Goes.st (fun sT kT => XS.aload X31.here hx rfl (hb hby at_308) rfl rfl kT) ?_
  show Goes _ _ _ _ (T31.setTop (mkF m 310 #[.val (.int p0), .val (.int p1), .val (.int p2), .val (.int p3), .val (.int p4), .val (.int p5), .val (.int (Int32.ofNat m6)), .val (.ref b1), l8, .val (.ref r23)] [(.ref r23)]))
  refine Goes.st (fun sT kT => XS.aload X31.here hx rfl (hb hby at_310) rfl rfl kT) ?_
  show Goes _ _ _ _ (T31.setTop (mkF m 312 #[.val (.int p0), .val (.int p1), .val (.int p2), .val (.int p3), .val (.int p4), .val (.int p5), .val (.int (Int32.ofNat m6)), .val (.ref b1), l8, .val (.ref r23)] [(.ref b1), (.ref r23)]))
  refine Goes.st (fun sT kT => XS.iload X31.here hx rfl (hb hby at_312) rfl kT) ?_
  show Goes _ _ _ _ (T31.setTop (mkF m 314 #[.val (.int p0), .val (.int p1), .val (.int p2), .val (.int p3), .val (.int p4), .val (.int p5), .val (.int (Int32.ofNat m6)), .val (.ref b1), l8, .val (.ref r23)] [(.int (Int32.ofNat m6)), (.ref b1), (.ref r23)]))
  refine Goes.st (fun sT kT => XS.iconst X31.here hx rfl (hb hby at_314) kT) ?_
  show Goes _ _ _ _ (T31.setTop (mkF m 315 #[.val (.int p0), .val (.int p1), .val (.int p2), .val (.int p3), .val (.int p4), .val (.int p5), .val (.int (Int32.ofNat m6)), .val (.ref b1), l8, .val (.ref r23)] [(.int (4 : Int32)), (.int (Int32.ofNat m6)), (.ref b1), (.ref r23)]))
  obtain ⟨_, _, ⟨T32, L32, k32, n32⟩, -, X32, ⟨Lc32, hQ32, l32, y32, z32⟩, st32⟩ := Jvm.LawKit.callS X31 hx (y := (⟨"com/example/warrant/warrant/messages/ExpressionParserEndsPinLaw", "at", "([I[CII)Z"⟩ : MethodName)) hownjt (mvT hZjt (hw42 hw)) (mvT hZjt (hw43 hw)) (mvT hZjt (hw3 hw)) (mvT hZjt (hw44 hw)) (by decide) (backOf (W := 0) (rm_att l Z a0 hw [] r23 kr23 us23 b1 k1 cc m6 4 T23.heap n0 (Nat.le_trans Zjt K23.1) Vr25 f28 hm (by rw [hcl]; exact hm) (by decide) (own_hat hcl hm hts hv_23 _)) hZjt (hw44 hw) (hw3 hw) (by decide) (by decide)) (g := (mkF m 315 #[.val (.int p0), .val (.int p1), .val (.int p2), .val (.int p3), .val (.int p4), .val (.int p5), .val (.int (Int32.ofNat m6)), .val (.ref b1), l8, .val (.ref r23)] [(.int (4 : Int32)), (.int (Int32.ofNat m6)), (.ref b1), (.ref r23)])) rfl (by rw [hml]; rfl) (argsL := [(.ref r23), (.ref b1), (.int (Int32.ofNat m6)), (.int (4 : Int32))]) (rest := []) (lenOf pd_6 rfl) rfl (by show 2 * 0 + _ ≤ _; exact Nat.le_of_eq rfl) (hb hby at_315) (fun _ _ => ⟨rfl, K31, (by decide : 8 + 0 ≤ _), (by decide : 28 + 0 ≤ _)⟩)
  dsimp only [Pt.U, Pt.locs, Pt.cells, Pt.slots] at X32 l32 y32 z32 st32 hQ32
  subst l32 y32 z32
  obtain ⟨rfl, N32q, K32⟩ := hQ32
  have N32 := Fr.app N31 N32q
  refine Goes.st st32 ?_
  show Goes _ _ _ _ (T32.setTop (mkF m 318 #[.val (.int p0), .val (.int p1), .val (.int p2), .val (.int p3), .val (.int p4), .val (.int p5), .val (.int (Int32.ofNat m6)), .val (.ref b1), l8, .val (.ref r23)] [(.int (1 : Int32))]))
  refine Goes.st (fun sT kT => XS.ifNo X32.here hx rfl (hb hby at_318) rfl ((if0 _ _).trans (feq (by decide : ¬ ((1 : Int32) = (0 : Int32)))).1) kT) ?_
  show Goes _ _ _ _ (T32.setTop (mkF m 321 #[.val (.int p0), .val (.int p1), .val (.int p2), .val (.int p3), .val (.int p4), .val (.int p5), .val (.int (Int32.ofNat m6)), .val (.ref b1), l8, .val (.ref r23)] []))
  refine Goes.st (fun sT kT => XS.aload X32.here hx rfl (hb hby at_321) rfl rfl kT) ?_
  show Goes _ _ _ _ (T32.setTop (mkF m 323 #[.val (.int p0), .val (.int p1), .val (.int p2), .val (.int p3), .val (.int p4), .val (.int p5), .val (.int (Int32.ofNat m6)), .val (.ref b1), l8, .val (.ref r23)] [(.ref r23)]))
  refine Goes.st (fun sT kT => XS.aload X32.here hx rfl (hb hby at_323) rfl rfl kT) ?_
  show Goes _ _ _ _ (T32.setTop (mkF m 325 #[.val (.int p0), .val (.int p1), .val (.int p2), .val (.int p3), .val (.int p4), .val (.int p5), .val (.int (Int32.ofNat m6)), .val (.ref b1), l8, .val (.ref r23)] [(.ref b1), (.ref r23)]))
  refine Goes.st (fun sT kT => XS.iload X32.here hx rfl (hb hby at_325) rfl kT) ?_
  show Goes _ _ _ _ (T32.setTop (mkF m 327 #[.val (.int p0), .val (.int p1), .val (.int p2), .val (.int p3), .val (.int p4), .val (.int p5), .val (.int (Int32.ofNat m6)), .val (.ref b1), l8, .val (.ref r23)] [(.int (Int32.ofNat m6)), (.ref b1), (.ref r23)]))
  refine Goes.st (fun sT kT => XS.iconst X32.here hx rfl (hb hby at_327) kT) ?_
  show Goes _ _ _ _ (T32.setTop (mkF m 328 #[.val (.int p0), .val (.int p1), .val (.int p2), .val (.int p3), .val (.int p4), .val (.int p5), .val (.int (Int32.ofNat m6)), .val (.ref b1), l8, .val (.ref r23)] [(.int (5 : Int32)), (.int (Int32.ofNat m6)), (.ref b1), (.ref r23)]))
  obtain ⟨_, _, ⟨T33, L33, k33, n33⟩, -, X33, ⟨Lc33, hQ33, l33, y33, z33⟩, st33⟩ := Jvm.LawKit.callS X32 hx (y := (⟨"com/example/warrant/warrant/messages/ExpressionParserEndsPinLaw", "at", "([I[CII)Z"⟩ : MethodName)) hownjt (mvT hZjt (hw42 hw)) (mvT hZjt (hw43 hw)) (mvT hZjt (hw3 hw)) (mvT hZjt (hw44 hw)) (by decide) (backOf (W := 0) (rm_att l Z a0 hw [] r23 kr23 us23 b1 k1 cc m6 5 T23.heap n0 (Nat.le_trans Zjt K23.1) Vr25 f28 hm (by rw [hcl]; exact hm) (by decide) (own_hat hcl hm hts hv_23 _)) hZjt (hw44 hw) (hw3 hw) (by decide) (by decide)) (g := (mkF m 328 #[.val (.int p0), .val (.int p1), .val (.int p2), .val (.int p3), .val (.int p4), .val (.int p5), .val (.int (Int32.ofNat m6)), .val (.ref b1), l8, .val (.ref r23)] [(.int (5 : Int32)), (.int (Int32.ofNat m6)), (.ref b1), (.ref r23)])) rfl (by rw [hml]; rfl) (argsL := [(.ref r23), (.ref b1), (.int (Int32.ofNat m6)), (.int (5 : Int32))]) (rest := []) (lenOf pd_6 rfl) rfl (by show 2 * 0 + _ ≤ _; exact Nat.le_of_eq rfl) (hb hby at_328) (fun _ _ => ⟨rfl, K32, (by decide : 8 + 0 ≤ _), (by decide : 28 + 0 ≤ _)⟩)
  dsimp only [Pt.U, Pt.locs, Pt.cells, Pt.slots] at X33 l33 y33 z33 st33 hQ33
  subst l33 y33 z33
  obtain ⟨rfl, N33q, K33⟩ := hQ33
  have N33 := Fr.app N32 N33q
  refine Goes.st st33 ?_
  show Goes _ _ _ _ (T33.setTop (mkF m 331 #[.val (.int p0), .val (.int p1), .val (.int p2), .val (.int p3), .val (.int p4), .val (.int p5), .val (.int (Int32.ofNat m6)), .val (.ref b1), l8, .val (.ref r23)] [(.int (1 : Int32))]))
  refine Goes.st (fun sT kT => XS.ifNo X33.here hx rfl (hb hby at_331) rfl ((if0 _ _).trans (feq (by decide : ¬ ((1 : Int32) = (0 : Int32)))).1) kT) ?_
  show Goes _ _ _ _ (T33.setTop (mkF m 334 #[.val (.int p0), .val (.int p1), .val (.int p2), .val (.int p3), .val (.int p4), .val (.int p5), .val (.int (Int32.ofNat m6)), .val (.ref b1), l8, .val (.ref r23)] []))
  refine Goes.st (fun sT kT => XS.iconst X33.here hx rfl (hb hby at_334) kT) ?_
  show Goes _ _ _ _ (T33.setTop (mkF m 335 #[.val (.int p0), .val (.int p1), .val (.int p2), .val (.int p3), .val (.int p4), .val (.int p5), .val (.int (Int32.ofNat m6)), .val (.ref b1), l8, .val (.ref r23)] [(.int (1 : Int32))]))
  refine Goes.st (fun sT kT => XS.goto X33.here hx rfl (pc0 := 335) (pc' := 339) rfl (hb hby at_335) (by decide) (by decide) kT) ?_
  show Goes _ _ _ _ (T33.setTop (mkF m 339 #[.val (.int p0), .val (.int p1), .val (.int p2), .val (.int p3), .val (.int p4), .val (.int p5), .val (.int (Int32.ofNat m6)), .val (.ref b1), l8, .val (.ref r23)] [(.int (1 : Int32))]))
  obtain ⟨fs, hr, hrun, hended, hRW⟩ := X33.leaveW hSjt (by rw [K33]; exact (Nat.le_trans hkjt K23.1)) (v := some (.int (1 : Int32))) (fun h => by rw [Bd.returns] at h; cases h)
  subst hQQ
  have hCR : CHr Z EL s.vm s.heap T33.vm T33.heap := by rw [hh, K33]; exact CR24.trans (CHv.at X33 hZjt (own_EW hw) CR24.1)
  refine ⟨_, _, retN X33 hx (t := .boolean) Bd.returns (by simp) (hb hby at_339) hr, hrun, hended, _, _, rfl, ?_, hCR, own_REmono hRW (by decide) (by decide)⟩
  show Q_law Z p0 p1 p2 p3 p4 p5 G1 vF h0 n0 _ T33.heap _
  rw [K33]
  exact ⟨rfl, N33⟩
 show Goes _ _ _ _ (T21.setTop (mkF m 51 #[.val (.int p0), .val (.int p1), .val (.int p2), .val (.int p3), .val (.int p4), .val (.int p5), .val (.int (Int32.ofNat n)), .val (.ref b1), uS, uS] []))
 rcases own_le5 hn with rfl | rfl | rfl | rfl | rfl | rfl
 ·skip
  show Goes _ _ _ _ (T21.setTop (mkF m 51 #[.val (.int p0), .val (.int p1), .val (.int p2), .val (.int p3), .val (.int p4), .val (.int p5), .val (.int (0 : Int32)), .val (.ref b1), uS, uS] []))
  refine Goes.st (fun sT kT => XS.iload X21.here hx rfl (hb hby at_51) rfl kT) ?_
  show Goes _ _ _ _ (T21.setTop (mkF m 53 #[.val (.int p0), .val (.int p1), .val (.int p2), .val (.int p3), .val (.int p4), .val (.int p5), .val (.int (0 : Int32)), .val (.ref b1), uS, uS] [(.int (0 : Int32))]))
  refine Goes.st (fun sT kT => XS.ifNo X21.here hx rfl (hb hby at_53) rfl ((if0 _ _).trans (teq (by decide : (0 : Int32) = (0 : Int32))).2) kT) ?_
  show Goes _ _ _ _ (T21.setTop (mkF m 56 #[.val (.int p0), .val (.int p1), .val (.int p2), .val (.int p3), .val (.int p4), .val (.int p5), .val (.int (0 : Int32)), .val (.ref b1), uS, uS] []))
  refine Goes.st (fun sT kT => XS.iconst X21.here hx rfl (hb hby at_56) kT) ?_
  show Goes _ _ _ _ (T21.setTop (mkF m 57 #[.val (.int p0), .val (.int p1), .val (.int p2), .val (.int p3), .val (.int p4), .val (.int p5), .val (.int (0 : Int32)), .val (.ref b1), uS, uS] [(.int (0 : Int32))]))
  obtain ⟨T34, h34, k34, X34, e34, E34, A34, st34⟩ := newP X21 hx hZ (aty := .char) (hw0 hw) e21 (g := (mkF m 57 #[.val (.int p0), .val (.int p1), .val (.int p2), .val (.int p3), .val (.int p4), .val (.int p5), .val (.int (0 : Int32)), .val (.ref b1), uS, uS] [(.int (0 : Int32))])) rfl (hb hby at_57) rfl (by decide) (cap := 0) (by decide) (by decide) (by decide) (by decide)
  obtain ⟨b34, g34⟩ : ∃ z, z = h21.size := ⟨_, rfl⟩
  rw [← g34] at A34 st34
  have CR35 : CHr Z EL s.vm h0 s.vm h34 := CR22.trans (CHr.ext E34 CR22.1)
  have V34 : Arv Z h34 b34 k34 .char (0 : Int32) [] (.int (0 : Int32)) := (Arv.new A34 (by decide)).pad (pad_rep [] (.int (0 : Int32)) 0)
  refine Goes.st st34 ?_
  show Goes _ _ _ _ (T34.setTop (mkF m 59 #[.val (.int p0), .val (.int p1), .val (.int p2), .val (.int p3), .val (.int p4), .val (.int p5), .val (.int (0 : Int32)), .val (.ref b1), uS, uS] [(.ref b34)]))
  refine Goes.st (fun sT kT => XS.astore X34.here hx rfl (hb hby at_59) rfl rfl (l' := #[.val (.int p0), .val (.int p1), .val (.int p2), .val (.int p3), .val (.int p4), .val (.int p5), .val (.int (0 : Int32)), .val (.ref b1), .val (.ref b34), uS]) rfl kT) ?_
  show Goes _ _ _ _ (T34.setTop (mkF m 61 #[.val (.int p0), .val (.int p1), .val (.int p2), .val (.int p3), .val (.int p4), .val (.int p5), .val (.int (0 : Int32)), .val (.ref b1), .val (.ref b34), uS] []))
  refine Goes.st (fun sT kT => XS.goto X34.here hx rfl (pc0 := 61) (pc' := 230) rfl (hb hby at_61) (by decide) (by decide) kT) ?_
  show Goes _ _ _ _ (T34.setTop (mkF m 230 #[.val (.int p0), .val (.int p1), .val (.int p2), .val (.int p3), .val (.int p4), .val (.int p5), .val (.int (0 : Int32)), .val (.ref b1), .val (.ref b34), uS] []))
  obtain ⟨T36, h36, X36, e36, E36, A36, D36, -, st36⟩ := newO X34 hx hZ hown (hw5 hw) (hw6 hw) (hw7 hw) e34 (g := (mkF m 230 #[.val (.int p0), .val (.int p1), .val (.int p2), .val (.int p3), .val (.int p4), .val (.int p5), .val (.int (0 : Int32)), .val (.ref b1), .val (.ref b34), uS] [])) rfl (hb hby at_230) (by decide) (by decide)
  obtain ⟨b36, g36⟩ : ∃ z, z = h34.size := ⟨_, rfl⟩
  rw [← g36] at A36 D36 st36
  have CR37 : CHr Z EL s.vm h0 s.vm h36 := CR35.trans (CHr.ext E36 CR35.1)
  have sf36_b36 : Safe Z EL s.vm h36 b36 := Safe.ext E36 CR35.1 (Safe.new (Nat.le_of_eq g36.symm))
  have F36_value : Fld Z h36 b36 "java/lang/String" "value" "[B" .null := D36 (Or.inr (hw20 hw)) (ty := (.array .byte)) (by decide)
  have F36_coder : Fld Z h36 b36 "java/lang/String" "coder" "B" (.int (0 : Int32)) := D36 (Or.inr (hw21 hw)) (ty := .byte) (by decide)
  refine Goes.st st36 ?_
  show Goes _ _ _ _ (T36.setTop (mkF m 233 #[.val (.int p0), .val (.int p1), .val (.int p2), .val (.int p3), .val (.int p4), .val (.int p5), .val (.int (0 : Int32)), .val (.ref b1), .val (.ref b34), uS] [(.ref b36)]))
  refine Goes.st (fun sT kT => XS.dup X36.here hx rfl (hb hby at_233) rfl rfl kT) ?_
  show Goes _ _ _ _ (T36.setTop (mkF m 234 #[.val (.int p0), .val (.int p1), .val (.int p2), .val (.int p3), .val (.int p4), .val (.int p5), .val (.int (0 : Int32)), .val (.ref b1), .val (.ref b34), uS] [(.ref b36), (.ref b36)]))
  refine Goes.st (fun sT kT => XS.aload X36.here hx rfl (hb hby at_234) rfl rfl kT) ?_
  show Goes _ _ _ _ (T36.setTop (mkF m 236 #[.val (.int p0), .val (.int p1), .val (.int p2), .val (.int p3), .val (.int p4), .val (.int p5), .val (.int (0 : Int32)), .val (.ref b1), .val (.ref b34), uS] [(.ref b34), (.ref b36), (.ref b36)]))
  have f39 : Arv Z h36 b34 k34 .char (0 : Int32) [] (.int (0 : Int32)) := (V34.ext E36)
  have f40 : Old Z n0 h36 := ((((((((P0.ext E1).wr W5 nb).wr W9 nb).wr W13 nb).wr W17 nb).wr W21 nb).ext E34).ext E36)
  obtain ⟨_, _, ⟨T38, L38, k38, n38⟩, -, X38, hSr38, hgr38, ⟨Lc38, hQ38, l38, y38, z38, C38⟩, st38⟩ := X36.specialBackS hx (y := (⟨"java/lang/String", "<init>", "([C)V"⟩ : MethodName)) rfl hown (mvT hZ (hw8 hw)) (mvT hZ (hw9 hw)) (mvT hZ (hw10 hw)) (by decide) (own_backW (W := 1) (xs := [b36]) (rm_s1e l Z a0 hw [] b36 b34 k34 h36 n0 (Nat.le_trans Z0 (Nat.le_trans (Nat.le_trans (Nat.le_trans (Nat.le_trans (Nat.le_trans (Nat.le_trans (Nat.le_trans E1.1 (Nat.le_of_eq W5.size.symm)) (Nat.le_of_eq W9.size.symm)) (Nat.le_of_eq W13.size.symm)) (Nat.le_of_eq W17.size.symm)) (Nat.le_of_eq W21.size.symm)) E34.1) E36.1)) A36 F36_value F36_coder f39 (Nat.le_trans Z0 (Nat.le_trans (Nat.le_trans (Nat.le_trans (Nat.le_trans (Nat.le_trans (Nat.le_trans (Nat.le_trans E1.1 (Nat.le_of_eq W5.size.symm)) (Nat.le_of_eq W9.size.symm)) (Nat.le_of_eq W13.size.symm)) (Nat.le_of_eq W17.size.symm)) (Nat.le_of_eq W21.size.symm)) E34.1) (Nat.le_of_eq g36.symm)))) hZ (hw10 hw) (hw7 hw) (by decide) (by decide) (own_EW hw) CR37.1 (allS ⟨A36.lt, sf36_b36⟩ all0)) (g := (mkF m 236 #[.val (.int p0), .val (.int p1), .val (.int p2), .val (.int p3), .val (.int p4), .val (.int p5), .val (.int (0 : Int32)), .val (.ref b1), .val (.ref b34), uS] [(.ref b34), (.ref b36), (.ref b36)])) rfl (by rw [hml]; rfl) (Steps.refl _) (a := b36) (argsL := [(.ref b34)]) (rest := [(.ref b36)]) (lenOf pd_7 rfl) rfl (by show 2 * 0 + _ ≤ _; exact Nat.le_of_eq rfl) (hb hby at_236) (fun _ _ => ⟨rfl, e36, (by decide : 3 + 4 ≤ _), (by decide : 9 + 8 ≤ _)⟩)
  dsimp only [Pt.U, Pt.locs, Pt.cells, Pt.slots] at X38 l38 y38 z38 st38 hQ38 hSr38 hgr38 C38
  subst l38 y38 z38
  obtain ⟨X38, hS38, hZ38, hown38⟩ := rebS hS0 (by rw [e36]; exact (Nat.le_trans (Nat.le_trans (Nat.le_trans (Nat.le_trans (Nat.le_trans (Nat.le_trans (Nat.le_trans (Nat.le_trans hk0 E1.1) (Nat.le_of_eq W5.size.symm)) (Nat.le_of_eq W9.size.symm)) (Nat.le_of_eq W13.size.symm)) (Nat.le_of_eq W17.size.symm)) (Nat.le_of_eq W21.size.symm)) E34.1) E36.1)) X38 hSr38 hgr38 hZ hown
  obtain ⟨t38, kb38, rfl, N38q, K38, F38_0, ne38_0⟩ := hQ38
  have N38 := Fr.app N21 N38q
  have F38_0E := F38_0.1
  have CR41 : CHr Z EL s.vm h0 T38.vm T38.heap := CR37.trans (C38)
  have sf41_b36 : Safe Z EL T38.vm T38.heap b36 := C38.safe A36.lt sf36_b36
  refine Goes.tr st38 ?_
  show Goes _ _ _ _ (T38.setTop (mkF m 239 #[.val (.int p0), .val (.int p1), .val (.int p2), .val (.int p3), .val (.int p4), .val (.int p5), .val (.int (0 : Int32)), .val (.ref b1), .val (.ref b34), uS] [(.ref b36)]))
  have f42 : Arv Z T38.heap b1 k1 .char (5 : Int32) [(.int cc3), (.int cc7), (.int cc11), (.int cc15), (.int cc19)] (.int (0 : Int32)) := (((V21.ext E34).ext E36).keep K38 (ninS (Nat.ne_of_lt (Nat.lt_of_lt_of_le A1.lt (Nat.le_trans (Nat.le_trans (Nat.le_trans (Nat.le_trans (Nat.le_trans (Nat.le_trans (Nat.le_of_eq W5.size.symm) (Nat.le_of_eq W9.size.symm)) (Nat.le_of_eq W13.size.symm)) (Nat.le_of_eq W17.size.symm)) (Nat.le_of_eq W21.size.symm)) E34.1) (Nat.le_of_eq g36.symm)))) nin0))
  have Vc43 : Arv Z T38.heap b1 k1 .char (5 : Int32) ([cc3, cc7, cc11, cc15, cc19].map Value.int) (.int (0 : Int32)) := f42
  have f44 : Old Z n0 T38.heap := (f40.keep K38 (allS (Nat.le_trans Z0 (Nat.le_trans (Nat.le_trans (Nat.le_trans (Nat.le_trans (Nat.le_trans (Nat.le_trans (Nat.le_trans E1.1 (Nat.le_of_eq W5.size.symm)) (Nat.le_of_eq W9.size.symm)) (Nat.le_of_eq W13.size.symm)) (Nat.le_of_eq W17.size.symm)) (Nat.le_of_eq W21.size.symm)) E34.1) (Nat.le_of_eq g36.symm))) all0))
  exact Jjt T38 T38.heap _ T38.vm _ b36 t38 kb38 [] [cc3, cc7, cc11, cc15, cc19] 0 (.val (.ref b34)) (X38.more (by decide) (by decide)) rfl N38 (Nat.le_trans Z0 (Nat.le_trans (Nat.le_trans (Nat.le_trans (Nat.le_trans (Nat.le_trans (Nat.le_trans (Nat.le_trans (Nat.le_trans E1.1 (Nat.le_of_eq W5.size.symm)) (Nat.le_of_eq W9.size.symm)) (Nat.le_of_eq W13.size.symm)) (Nat.le_of_eq W17.size.symm)) (Nat.le_of_eq W21.size.symm)) E34.1) E36.1) K38.1)) hZ38 hown38 hS38 (Nat.le_refl _) CR41 F38_0 Vc43 f44 (by decide) rfl rfl (Or.inr ⟨_, rfl, rfl⟩)
 ·skip
  show Goes _ _ _ _ (T21.setTop (mkF m 51 #[.val (.int p0), .val (.int p1), .val (.int p2), .val (.int p3), .val (.int p4), .val (.int p5), .val (.int (1 : Int32)), .val (.ref b1), uS, uS] []))
  refine Goes.st (fun sT kT => XS.iload X21.here hx rfl (hb hby at_51) rfl kT) ?_
  show Goes _ _ _ _ (T21.setTop (mkF m 53 #[.val (.int p0), .val (.int p1), .val (.int p2), .val (.int p3), .val (.int p4), .val (.int p5), .val (.int (1 : Int32)), .val (.ref b1), uS, uS] [(.int (1 : Int32))]))
  refine Goes.st (fun sT kT => XS.ifYes X21.here hx rfl (pc0 := 53) (pc' := 64) rfl (hb hby at_53) rfl ((if0 _ _).trans (feq (by decide : ¬ ((1 : Int32) = (0 : Int32)))).2) (by decide) (by decide) kT) ?_
  show Goes _ _ _ _ (T21.setTop (mkF m 64 #[.val (.int p0), .val (.int p1), .val (.int p2), .val (.int p3), .val (.int p4), .val (.int p5), .val (.int (1 : Int32)), .val (.ref b1), uS, uS] []))
  refine Goes.st (fun sT kT => XS.iload X21.here hx rfl (hb hby at_64) rfl kT) ?_
  show Goes _ _ _ _ (T21.setTop (mkF m 66 #[.val (.int p0), .val (.int p1), .val (.int p2), .val (.int p3), .val (.int p4), .val (.int p5), .val (.int (1 : Int32)), .val (.ref b1), uS, uS] [(.int (1 : Int32))]))
  refine Goes.st (fun sT kT => XS.iconst X21.here hx rfl (hb hby at_66) kT) ?_
  show Goes _ _ _ _ (T21.setTop (mkF m 67 #[.val (.int p0), .val (.int p1), .val (.int p2), .val (.int p3), .val (.int p4), .val (.int p5), .val (.int (1 : Int32)), .val (.ref b1), uS, uS] [(.int (1 : Int32)), (.int (1 : Int32))]))
  refine Goes.st (fun sT kT => XS.icmpNo X21.here hx rfl (hb hby at_67) rfl (teq (by decide : (1 : Int32) = (1 : Int32))).2 kT) ?_
  show Goes _ _ _ _ (T21.setTop (mkF m 70 #[.val (.int p0), .val (.int p1), .val (.int p2), .val (.int p3), .val (.int p4), .val (.int p5), .val (.int (1 : Int32)), .val (.ref b1), uS, uS] []))
  refine Goes.st (fun sT kT => XS.iconst X21.here hx rfl (hb hby at_70) kT) ?_
  show Goes _ _ _ _ (T21.setTop (mkF m 71 #[.val (.int p0), .val (.int p1), .val (.int p2), .val (.int p3), .val (.int p4), .val (.int p5), .val (.int (1 : Int32)), .val (.ref b1), uS, uS] [(.int (1 : Int32))]))
  obtain ⟨T45, h45, k45, X45, e45, E45, A45, st45⟩ := newP X21 hx hZ (aty := .char) (hw0 hw) e21 (g := (mkF m 71 #[.val (.int p0), .val (.int p1), .val (.int p2), .val (.int p3), .val (.int p4), .val (.int p5), .val (.int (1 : Int32)), .val (.ref b1), uS, uS] [(.int (1 : Int32))])) rfl (hb hby at_71) rfl (by decide) (cap := 1) (by decide) (by decide) (by decide) (by decide)
  obtain ⟨b45, g45⟩ : ∃ z, z = h21.size := ⟨_, rfl⟩
  rw [← g45] at A45 st45
  have CR46 : CHr Z EL s.vm h0 s.vm h45 := CR22.trans (CHr.ext E45 CR22.1)
  have V45 : Arv Z h45 b45 k45 .char (1 : Int32) [(.int (0 : Int32))] (.int (0 : Int32)) := (Arv.new A45 (by decide)).pad (pad_rep [] (.int (0 : Int32)) 1)
  refine Goes.st st45 ?_
  show Goes _ _ _ _ (T45.setTop (mkF m 73 #[.val (.int p0), .val (.int p1), .val (.int p2), .val (.int p3), .val (.int p4), .val (.int p5), .val (.int (1 : Int32)), .val (.ref b1), uS, uS] [(.ref b45)]))
  refine Goes.st (fun sT kT => XS.dup X45.here hx rfl (hb hby at_73) rfl rfl kT) ?_
  show Goes _ _ _ _ (T45.setTop (mkF m 74 #[.val (.int p0), .val (.int p1), .val (.int p2), .val (.int p3), .val (.int p4), .val (.int p5), .val (.int (1 : Int32)), .val (.ref b1), uS, uS] [(.ref b45), (.ref b45)]))
  refine Goes.st (fun sT kT => XS.iconst X45.here hx rfl (hb hby at_74) kT) ?_
  show Goes _ _ _ _ (T45.setTop (mkF m 75 #[.val (.int p0), .val (.int p1), .val (.int p2), .val (.int p3), .val (.int p4), .val (.int p5), .val (.int (1 : Int32)), .val (.ref b1), uS, uS] [(.int (0 : Int32)), (.ref b45), (.ref b45)]))
  refine Goes.st (fun sT kT => XS.aload X45.here hx rfl (hb hby at_75) rfl rfl kT) ?_
  show Goes _ _ _ _ (T45.setTop (mkF m 77 #[.val (.int p0), .val (.int p1), .val (.int p2), .val (.int p3), .val (.int p4), .val (.int p5), .val (.int (1 : Int32)), .val (.ref b1), uS, uS] [(.ref b1), (.int (0 : Int32)), (.ref b45), (.ref b45)]))
  refine Goes.st (fun sT kT => XS.iconst X45.here hx rfl (hb hby at_77) kT) ?_
  show Goes _ _ _ _ (T45.setTop (mkF m 78 #[.val (.int p0), .val (.int p1), .val (.int p2), .val (.int p3), .val (.int p4), .val (.int p5), .val (.int (1 : Int32)), .val (.ref b1), uS, uS] [(.int (0 : Int32)), (.ref b1), (.int (0 : Int32)), (.ref b45), (.ref b45)]))
  have f47 : Arv Z h45 b1 k1 .char (5 : Int32) [(.int cc3), (.int cc7), (.int cc11), (.int cc15), (.int cc19)] (.int (0 : Int32)) := (V21.ext E45)
  obtain ⟨oc48, oA48, oq48, oS48, oM48, oH48, oG48⟩ := id f47
  refine Goes.st (fun sT kT => X45.caload hx (j := (0 : Int32)) (v := (.int cc3)) (by rw [e45]; exact oA48.1) (State.isArrayOf_alike hZ.alike oA48.2.1) oA48.2.2 (inb_of oS48 ⟨by decide, by decide⟩) (oH48.at (inb_of oS48 ⟨by decide, by decide⟩) rfl) (g := (mkF m 78 #[.val (.int p0), .val (.int p1), .val (.int p2), .val (.int p3), .val (.int p4), .val (.int p5), .val (.int (1 : Int32)), .val (.ref b1), uS, uS] [(.int (0 : Int32)), (.ref b1), (.int (0 : Int32)), (.ref b45), (.ref b45)])) rfl rfl (hb hby at_78) _ kT) ?_
  show Goes _ _ _ _ (T45.setTop (mkF m 79 #[.val (.int p0), .val (.int p1), .val (.int p2), .val (.int p3), .val (.int p4), .val (.int p5), .val (.int (1 : Int32)), .val (.ref b1), uS, uS] [(.int cc3), (.int (0 : Int32)), (.ref b45), (.ref b45)]))
  obtain ⟨oc49, oA49, oq49, oS49, oM49, oH49, oG49⟩ := id V45
  obtain ⟨T50, h50, X50, e50, W50, st50⟩ := stC X45 hx hZ e45 oA49 (j := (0 : Int32)) (inb_of oS49 ⟨by decide, by decide⟩) (g := (mkF m 79 #[.val (.int p0), .val (.int p1), .val (.int p2), .val (.int p3), .val (.int p4), .val (.int p5), .val (.int (1 : Int32)), .val (.ref b1), uS, uS] [(.int cc3), (.int (0 : Int32)), (.ref b45), (.ref b45)])) rfl rfl (hb hby at_79)
  rw [own_narc rg_3] at W50
  have V50 : Arv Z h50 b45 k45 .char (1 : Int32) [(.int cc3)] (.int (0 : Int32)) := Arv.set oA49 oq49 oS49 oM49 oH49 oG49 (own_fitsc rg_3) W50 0 rfl (Nat.le_of_ble_eq_true rfl)
  have N50 := Fr.snoc X50 N21 (Nat.le_trans Z0 (Nat.le_trans (Nat.le_trans (Nat.le_trans (Nat.le_trans (Nat.le_trans (Nat.le_trans E1.1 (Nat.le_of_eq W5.size.symm)) (Nat.le_of_eq W9.size.symm)) (Nat.le_of_eq W13.size.symm)) (Nat.le_of_eq W17.size.symm)) (Nat.le_of_eq W21.size.symm)) (Nat.le_of_eq g45.symm)))
  have CR51 : CHr Z EL s.vm h0 s.vm h50 := CR46.trans (CHr.wr W50 (own_safeArv hZ.alike V45 (by simp)) CR46.1)
  refine Goes.st st50 ?_
  show Goes _ _ _ _ (T50.setTop (mkF m 80 #[.val (.int p0), .val (.int p1), .val (.int p2), .val (.int p3), .val (.int p4), .val (.int p5), .val (.int (1 : Int32)), .val (.ref b1), uS, uS] [(.ref b45)]))
  refine Goes.st (fun sT kT => XS.astore X50.here hx rfl (hb hby at_80) rfl rfl (l' := #[.val (.int p0), .val (.int p1), .val (.int p2), .val (.int p3), .val (.int p4), .val (.int p5), .val (.int (1 : Int32)), .val (.ref b1), .val (.ref b45), uS]) rfl kT) ?_
  show Goes _ _ _ _ (T50.setTop (mkF m 82 #[.val (.int p0), .val (.int p1), .val (.int p2), .val (.int p3), .val (.int p4), .val (.int p5), .val (.int (1 : Int32)), .val (.ref b1), .val (.ref b45), uS] []))
  refine Goes.st (fun sT kT => XS.goto X50.here hx rfl (pc0 := 82) (pc' := 230) rfl (hb hby at_82) (by decide) (by decide) kT) ?_
  show Goes _ _ _ _ (T50.setTop (mkF m 230 #[.val (.int p0), .val (.int p1), .val (.int p2), .val (.int p3), .val (.int p4), .val (.int p5), .val (.int (1 : Int32)), .val (.ref b1), .val (.ref b45), uS] []))
  obtain ⟨T52, h52, X52, e52, E52, A52, D52, -, st52⟩ := newO X50 hx hZ hown (hw5 hw) (hw6 hw) (hw7 hw) e50 (g := (mkF m 230 #[.val (.int p0), .val (.int p1), .val (.int p2), .val (.int p3), .val (.int p4), .val (.int p5), .val (.int (1 : Int32)), .val (.ref b1), .val (.ref b45), uS] [])) rfl (hb hby at_230) (by decide) (by decide)
  obtain ⟨b52, g52⟩ : ∃ z, z = h50.size := ⟨_, rfl⟩
  rw [← g52] at A52 D52 st52
  have CR53 : CHr Z EL s.vm h0 s.vm h52 := CR51.trans (CHr.ext E52 CR51.1)
  have sf52_b52 : Safe Z EL s.vm h52 b52 := Safe.ext E52 CR51.1 (Safe.new (Nat.le_of_eq g52.symm))
  have F52_value : Fld Z h52 b52 "java/lang/String" "value" "[B" .null := D52 (Or.inr (hw20 hw)) (ty := (.array .byte)) (by decide)
  have F52_coder : Fld Z h52 b52 "java/lang/String" "coder" "B" (.int (0 : Int32)) := D52 (Or.inr (hw21 hw)) (ty := .byte) (by decide)
  refine Goes.st st52 ?_
  show Goes _ _ _ _ (T52.setTop (mkF m 233 #[.val (.int p0), .val (.int p1), .val (.int p2), .val (.int p3), .val (.int p4), .val (.int p5), .val (.int (1 : Int32)), .val (.ref b1), .val (.ref b45), uS] [(.ref b52)]))
  refine Goes.st (fun sT kT => XS.dup X52.here hx rfl (hb hby at_233) rfl rfl kT) ?_
  show Goes _ _ _ _ (T52.setTop (mkF m 234 #[.val (.int p0), .val (.int p1), .val (.int p2), .val (.int p3), .val (.int p4), .val (.int p5), .val (.int (1 : Int32)), .val (.ref b1), .val (.ref b45), uS] [(.ref b52), (.ref b52)]))
  refine Goes.st (fun sT kT => XS.aload X52.here hx rfl (hb hby at_234) rfl rfl kT) ?_
  show Goes _ _ _ _ (T52.setTop (mkF m 236 #[.val (.int p0), .val (.int p1), .val (.int p2), .val (.int p3), .val (.int p4), .val (.int p5), .val (.int (1 : Int32)), .val (.ref b1), .val (.ref b45), uS] [(.ref b45), (.ref b52), (.ref b52)]))
  have f55 : Arv Z h52 b45 k45 .char (1 : Int32) [(.int cc3)] (.int (0 : Int32)) := (V50.ext E52)
  have f56 : Old Z n0 h52 := (((((((((P0.ext E1).wr W5 nb).wr W9 nb).wr W13 nb).wr W17 nb).wr W21 nb).ext E45).wr W50 (Nat.le_trans Z0 (Nat.le_trans (Nat.le_trans (Nat.le_trans (Nat.le_trans (Nat.le_trans (Nat.le_trans E1.1 (Nat.le_of_eq W5.size.symm)) (Nat.le_of_eq W9.size.symm)) (Nat.le_of_eq W13.size.symm)) (Nat.le_of_eq W17.size.symm)) (Nat.le_of_eq W21.size.symm)) (Nat.le_of_eq g45.symm)))).ext E52)
  have hp57 : ∀ c ∈ ([cc3] : List Int32), ¬ c < 0 ∧ ¬ (255 : Int32) < c := (own_cS rg_3 own_c0)
  obtain ⟨_, _, ⟨T54, L54, k54, n54⟩, -, X54, ⟨Lc54, hQ54, l54, y54, z54⟩, st54⟩ := X52.specialBack hx (y := (⟨"java/lang/String", "<init>", "([C)V"⟩ : MethodName)) rfl hown (mvT hZ (hw8 hw)) (mvT hZ (hw9 hw)) (mvT hZ (hw10 hw)) (by decide) (StrChars.Road.backV (W := 1) hZ (own_hws hw) (kI := 4) (hw6 hw) (cs := ([cc3] : List Int32)) (bs := ([cc3] : List Int32).map (fun c => c.toInt8.toInt32)) (n := 1) (Nat.le_trans Z0 (Nat.le_trans (Nat.le_trans (Nat.le_trans (Nat.le_trans (Nat.le_trans (Nat.le_trans (Nat.le_trans (Nat.le_trans E1.1 (Nat.le_of_eq W5.size.symm)) (Nat.le_of_eq W9.size.symm)) (Nat.le_of_eq W13.size.symm)) (Nat.le_of_eq W17.size.symm)) (Nat.le_of_eq W21.size.symm)) E45.1) (Nat.le_of_eq W50.size.symm)) (Nat.le_of_eq g52.symm))) (Nat.le_trans Z0 (Nat.le_trans (Nat.le_trans (Nat.le_trans (Nat.le_trans (Nat.le_trans (Nat.le_trans (Nat.le_trans (Nat.le_trans E1.1 (Nat.le_of_eq W5.size.symm)) (Nat.le_of_eq W9.size.symm)) (Nat.le_of_eq W13.size.symm)) (Nat.le_of_eq W17.size.symm)) (Nat.le_of_eq W21.size.symm)) E45.1) (Nat.le_of_eq W50.size.symm)) E52.1)) A52 F52_value F52_coder f55 (O2.ext f56.2) P5 rfl rfl (by decide) (by decide) hp57 rfl (by decide) (by decide)) (g := (mkF m 236 #[.val (.int p0), .val (.int p1), .val (.int p2), .val (.int p3), .val (.int p4), .val (.int p5), .val (.int (1 : Int32)), .val (.ref b1), .val (.ref b45), uS] [(.ref b45), (.ref b52), (.ref b52)])) rfl (by rw [hml]; rfl) (Steps.refl _) (a := b52) (argsL := [(.ref b45)]) (rest := [(.ref b52)]) (lenOf pd_7 rfl) rfl (by show 2 * 0 + _ ≤ _; exact Nat.le_of_eq rfl) (hb hby at_236) (fun _ _ => ⟨rfl, e52, (by decide : 3 + 1 ≤ _), (by decide : 10 + 1 ≤ _)⟩)
  dsimp only [Pt.U, Pt.locs, Pt.cells, Pt.slots] at X54 l54 y54 z54 st54 hQ54
  subst l54 y54 z54
  obtain ⟨rfl, N54q, K54, Ex54, Cd54, t54, kb54, lz54, lo54, tn54, Vf54, Av54⟩ := hQ54
  have N54 := Fr.app N50 N54q
  have S54 : Str Z T54.heap b52 t54 kb54 [cc3] := ⟨Ex54, Vf54, Cd54, Av54, hp57, Nat.le_of_ble_eq_true rfl⟩
  have hs58 : ∀ x ∈ ([b52] : List Addr), Safe Z EL s.vm h52 x := (allS sf52_b52 all0)
  have CR58 : CHr Z EL s.vm h0 s.vm T54.heap := CR53.trans (CHr.keep K54 hs58 CR53.1)
  have sf58_b52 : Safe Z EL s.vm T54.heap b52 := Safe.keep K54 hs58 CR53.1 sf52_b52
  refine Goes.tr st54 ?_
  show Goes _ _ _ _ (T54.setTop (mkF m 239 #[.val (.int p0), .val (.int p1), .val (.int p2), .val (.int p3), .val (.int p4), .val (.int p5), .val (.int (1 : Int32)), .val (.ref b1), .val (.ref b45), uS] [(.ref b52)]))
  have f59 : Arv Z T54.heap b1 k1 .char (5 : Int32) [(.int cc3), (.int cc7), (.int cc11), (.int cc15), (.int cc19)] (.int (0 : Int32)) := (((f47.other W50 (Nat.ne_of_lt (Nat.lt_of_lt_of_le A1.lt (Nat.le_trans (Nat.le_trans (Nat.le_trans (Nat.le_trans (Nat.le_trans (Nat.le_of_eq W5.size.symm) (Nat.le_of_eq W9.size.symm)) (Nat.le_of_eq W13.size.symm)) (Nat.le_of_eq W17.size.symm)) (Nat.le_of_eq W21.size.symm)) (Nat.le_of_eq g45.symm))))).ext E52).keep K54 (ninS (Nat.ne_of_lt (Nat.lt_of_lt_of_le A1.lt (Nat.le_trans (Nat.le_trans (Nat.le_trans (Nat.le_trans (Nat.le_trans (Nat.le_trans (Nat.le_trans (Nat.le_of_eq W5.size.symm) (Nat.le_of_eq W9.size.symm)) (Nat.le_of_eq W13.size.symm)) (Nat.le_of_eq W17.size.symm)) (Nat.le_of_eq W21.size.symm)) E45.1) (Nat.le_of_eq W50.size.symm)) (Nat.le_of_eq g52.symm)))) nin0))
  have Vc60 : Arv Z T54.heap b1 k1 .char (5 : Int32) ([cc3, cc7, cc11, cc15, cc19].map Value.int) (.int (0 : Int32)) := f59
  have f61 : Old Z n0 T54.heap := (f56.keep K54 (allS (Nat.le_trans Z0 (Nat.le_trans (Nat.le_trans (Nat.le_trans (Nat.le_trans (Nat.le_trans (Nat.le_trans (Nat.le_trans (Nat.le_trans E1.1 (Nat.le_of_eq W5.size.symm)) (Nat.le_of_eq W9.size.symm)) (Nat.le_of_eq W13.size.symm)) (Nat.le_of_eq W17.size.symm)) (Nat.le_of_eq W21.size.symm)) E45.1) (Nat.le_of_eq W50.size.symm)) (Nat.le_of_eq g52.symm))) all0))
  exact Jjt T54 T54.heap _ s.vm _ b52 t54 kb54 [cc3] [cc3, cc7, cc11, cc15, cc19] 1 (.val (.ref b45)) (X54.more (by decide) (by decide)) rfl N54 (Nat.le_trans Z0 (Nat.le_trans (Nat.le_trans (Nat.le_trans (Nat.le_trans (Nat.le_trans (Nat.le_trans (Nat.le_trans (Nat.le_trans (Nat.le_trans E1.1 (Nat.le_of_eq W5.size.symm)) (Nat.le_of_eq W9.size.symm)) (Nat.le_of_eq W13.size.symm)) (Nat.le_of_eq W17.size.symm)) (Nat.le_of_eq W21.size.symm)) E45.1) (Nat.le_of_eq W50.size.symm)) E52.1) K54.1)) hZ hown hS0 (Nat.le_trans (Nat.le_trans (Nat.le_trans (Nat.le_trans (Nat.le_trans (Nat.le_trans (Nat.le_trans (Nat.le_trans (Nat.le_trans (Nat.le_trans hk0 E1.1) (Nat.le_of_eq W5.size.symm)) (Nat.le_of_eq W9.size.symm)) (Nat.le_of_eq W13.size.symm)) (Nat.le_of_eq W17.size.symm)) (Nat.le_of_eq W21.size.symm)) E45.1) (Nat.le_of_eq W50.size.symm)) E52.1) K54.1) CR58 S54 Vc60 f61 (by decide) rfl rfl (Or.inr ⟨_, rfl, rfl⟩)
 ·skip
  show Goes _ _ _ _ (T21.setTop (mkF m 51 #[.val (.int p0), .val (.int p1), .val (.int p2), .val (.int p3), .val (.int p4), .val (.int p5), .val (.int (2 : Int32)), .val (.ref b1), uS, uS] []))
  refine Goes.st (fun sT kT => XS.iload X21.here hx rfl (hb hby at_51) rfl kT) ?_
  show Goes _ _ _ _ (T21.setTop (mkF m 53 #[.val (.int p0), .val (.int p1), .val (.int p2), .val (.int p3), .val (.int p4), .val (.int p5), .val (.int (2 : Int32)), .val (.ref b1), uS, uS] [(.int (2 : Int32))]))
  refine Goes.st (fun sT kT => XS.ifYes X21.here hx rfl (pc0 := 53) (pc' := 64) rfl (hb hby at_53) rfl ((if0 _ _).trans (feq (by decide : ¬ ((2 : Int32) = (0 : Int32)))).2) (by decide) (by decide) kT) ?_
  show Goes _ _ _ _ (T21.setTop (mkF m 64 #[.val (.int p0), .val (.int p1), .val (.int p2), .val (.int p3), .val (.int p4), .val (.int p5), .val (.int (2 : Int32)), .val (.ref b1), uS, uS] []))
  refine Goes.st (fun sT kT => XS.iload X21.here hx rfl (hb hby at_64) rfl kT) ?_
  show Goes _ _ _ _ (T21.setTop (mkF m 66 #[.val (.int p0), .val (.int p1), .val (.int p2), .val (.int p3), .val (.int p4), .val (.int p5), .val (.int (2 : Int32)), .val (.ref b1), uS, uS] [(.int (2 : Int32))]))
  refine Goes.st (fun sT kT => XS.iconst X21.here hx rfl (hb hby at_66) kT) ?_
  show Goes _ _ _ _ (T21.setTop (mkF m 67 #[.val (.int p0), .val (.int p1), .val (.int p2), .val (.int p3), .val (.int p4), .val (.int p5), .val (.int (2 : Int32)), .val (.ref b1), uS, uS] [(.int (1 : Int32)), (.int (2 : Int32))]))
  refine Goes.st (fun sT kT => XS.icmpYes X21.here hx rfl (pc0 := 67) (pc' := 85) rfl (hb hby at_67) rfl (feq (by decide : ¬ ((2 : Int32) = (1 : Int32)))).2 (by decide) (by decide) kT) ?_
  show Goes _ _ _ _ (T21.setTop (mkF m 85 #[.val (.int p0), .val (.int p1), .val (.int p2), .val (.int p3), .val (.int p4), .val (.int p5), .val (.int (2 : Int32)), .val (.ref b1), uS, uS] []))
  refine Goes.st (fun sT kT => XS.iload X21.here hx rfl (hb hby at_85) rfl kT) ?_
  show Goes _ _ _ _ (T21.setTop (mkF m 87 #[.val (.int p0), .val (.int p1), .val (.int p2), .val (.int p3), .val (.int p4), .val (.int p5), .val (.int (2 : Int32)), .val (.ref b1), uS, uS] [(.int (2 : Int32))]))
  refine Goes.st (fun sT kT => XS.iconst X21.here hx rfl (hb hby at_87) kT) ?_
  show Goes _ _ _ _ (T21.setTop (mkF m 88 #[.val (.int p0), .val (.int p1), .val (.int p2), .val (.int p3), .val (.int p4), .val (.int p5), .val (.int (2 : Int32)), .val (.ref b1), uS, uS] [(.int (2 : Int32)), (.int (2 : Int32))]))
  refine Goes.st (fun sT kT => XS.icmpNo X21.here hx rfl (hb hby at_88) rfl (teq (by decide : (2 : Int32) = (2 : Int32))).2 kT) ?_
  show Goes _ _ _ _ (T21.setTop (mkF m 91 #[.val (.int p0), .val (.int p1), .val (.int p2), .val (.int p3), .val (.int p4), .val (.int p5), .val (.int (2 : Int32)), .val (.ref b1), uS, uS] []))
  refine Goes.st (fun sT kT => XS.iconst X21.here hx rfl (hb hby at_91) kT) ?_
  show Goes _ _ _ _ (T21.setTop (mkF m 92 #[.val (.int p0), .val (.int p1), .val (.int p2), .val (.int p3), .val (.int p4), .val (.int p5), .val (.int (2 : Int32)), .val (.ref b1), uS, uS] [(.int (2 : Int32))]))
  obtain ⟨T62, h62, k62, X62, e62, E62, A62, st62⟩ := newP X21 hx hZ (aty := .char) (hw0 hw) e21 (g := (mkF m 92 #[.val (.int p0), .val (.int p1), .val (.int p2), .val (.int p3), .val (.int p4), .val (.int p5), .val (.int (2 : Int32)), .val (.ref b1), uS, uS] [(.int (2 : Int32))])) rfl (hb hby at_92) rfl (by decide) (cap := 2) (by decide) (by decide) (by decide) (by decide)
  obtain ⟨b62, g62⟩ : ∃ z, z = h21.size := ⟨_, rfl⟩
  rw [← g62] at A62 st62
  have CR63 : CHr Z EL s.vm h0 s.vm h62 := CR22.trans (CHr.ext E62 CR22.1)
  have V62 : Arv Z h62 b62 k62 .char (2 : Int32) [(.int (0 : Int32)), (.int (0 : Int32))] (.int (0 : Int32)) := (Arv.new A62 (by decide)).pad (pad_rep [] (.int (0 : Int32)) 2)
  refine Goes.st st62 ?_
  show Goes _ _ _ _ (T62.setTop (mkF m 94 #[.val (.int p0), .val (.int p1), .val (.int p2), .val (.int p3), .val (.int p4), .val (.int p5), .val (.int (2 : Int32)), .val (.ref b1), uS, uS] [(.ref b62)]))
  refine Goes.st (fun sT kT => XS.dup X62.here hx rfl (hb hby at_94) rfl rfl kT) ?_
  show Goes _ _ _ _ (T62.setTop (mkF m 95 #[.val (.int p0), .val (.int p1), .val (.int p2), .val (.int p3), .val (.int p4), .val (.int p5), .val (.int (2 : Int32)), .val (.ref b1), uS, uS] [(.ref b62), (.ref b62)]))
  refine Goes.st (fun sT kT => XS.iconst X62.here hx rfl (hb hby at_95) kT) ?_
  show Goes _ _ _ _ (T62.setTop (mkF m 96 #[.val (.int p0), .val (.int p1), .val (.int p2), .val (.int p3), .val (.int p4), .val (.int p5), .val (.int (2 : Int32)), .val (.ref b1), uS, uS] [(.int (0 : Int32)), (.ref b62), (.ref b62)]))
  refine Goes.st (fun sT kT => XS.aload X62.here hx rfl (hb hby at_96) rfl rfl kT) ?_
  show Goes _ _ _ _ (T62.setTop (mkF m 98 #[.val (.int p0), .val (.int p1), .val (.int p2), .val (.int p3), .val (.int p4), .val (.int p5), .val (.int (2 : Int32)), .val (.ref b1), uS, uS] [(.ref b1), (.int (0 : Int32)), (.ref b62), (.ref b62)]))
  refine Goes.st (fun sT kT => XS.iconst X62.here hx rfl (hb hby at_98) kT) ?_
  show Goes _ _ _ _ (T62.setTop (mkF m 99 #[.val (.int p0), .val (.int p1), .val (.int p2), .val (.int p3), .val (.int p4), .val (.int p5), .val (.int (2 : Int32)), .val (.ref b1), uS, uS] [(.int (0 : Int32)), (.ref b1), (.int (0 : Int32)), (.ref b62), (.ref b62)]))
  have f64 : Arv Z h62 b1 k1 .char (5 : Int32) [(.int cc3), (.int cc7), (.int cc11), (.int cc15), (.int cc19)] (.int (0 : Int32)) := (V21.ext E62)
  obtain ⟨oc65, oA65, oq65, oS65, oM65, oH65, oG65⟩ := id f64
  refine Goes.st (fun sT kT => X62.caload hx (j := (0 : Int32)) (v := (.int cc3)) (by rw [e62]; exact oA65.1) (State.isArrayOf_alike hZ.alike oA65.2.1) oA65.2.2 (inb_of oS65 ⟨by decide, by decide⟩) (oH65.at (inb_of oS65 ⟨by decide, by decide⟩) rfl) (g := (mkF m 99 #[.val (.int p0), .val (.int p1), .val (.int p2), .val (.int p3), .val (.int p4), .val (.int p5), .val (.int (2 : Int32)), .val (.ref b1), uS, uS] [(.int (0 : Int32)), (.ref b1), (.int (0 : Int32)), (.ref b62), (.ref b62)])) rfl rfl (hb hby at_99) _ kT) ?_
  show Goes _ _ _ _ (T62.setTop (mkF m 100 #[.val (.int p0), .val (.int p1), .val (.int p2), .val (.int p3), .val (.int p4), .val (.int p5), .val (.int (2 : Int32)), .val (.ref b1), uS, uS] [(.int cc3), (.int (0 : Int32)), (.ref b62), (.ref b62)]))
  obtain ⟨oc66, oA66, oq66, oS66, oM66, oH66, oG66⟩ := id V62
  obtain ⟨T67, h67, X67, e67, W67, st67⟩ := stC X62 hx hZ e62 oA66 (j := (0 : Int32)) (inb_of oS66 ⟨by decide, by decide⟩) (g := (mkF m 100 #[.val (.int p0), .val (.int p1), .val (.int p2), .val (.int p3), .val (.int p4), .val (.int p5), .val (.int (2 : Int32)), .val (.ref b1), uS, uS] [(.int cc3), (.int (0 : Int32)), (.ref b62), (.ref b62)])) rfl rfl (hb hby at_100)
  rw [own_narc rg_3] at W67
  have V67 : Arv Z h67 b62 k62 .char (2 : Int32) [(.int cc3), (.int (0 : Int32))] (.int (0 : Int32)) := Arv.set oA66 oq66 oS66 oM66 oH66 oG66 (own_fitsc rg_3) W67 0 rfl (Nat.le_of_ble_eq_true rfl)
  have N67 := Fr.snoc X67 N21 (Nat.le_trans Z0 (Nat.le_trans (Nat.le_trans (Nat.le_trans (Nat.le_trans (Nat.le_trans (Nat.le_trans E1.1 (Nat.le_of_eq W5.size.symm)) (Nat.le_of_eq W9.size.symm)) (Nat.le_of_eq W13.size.symm)) (Nat.le_of_eq W17.size.symm)) (Nat.le_of_eq W21.size.symm)) (Nat.le_of_eq g62.symm)))
  have CR68 : CHr Z EL s.vm h0 s.vm h67 := CR63.trans (CHr.wr W67 (own_safeArv hZ.alike V62 (by simp)) CR63.1)
  refine Goes.st st67 ?_
  show Goes _ _ _ _ (T67.setTop (mkF m 101 #[.val (.int p0), .val (.int p1), .val (.int p2), .val (.int p3), .val (.int p4), .val (.int p5), .val (.int (2 : Int32)), .val (.ref b1), uS, uS] [(.ref b62)]))
  refine Goes.st (fun sT kT => XS.dup X67.here hx rfl (hb hby at_101) rfl rfl kT) ?_
  show Goes _ _ _ _ (T67.setTop (mkF m 102 #[.val (.int p0), .val (.int p1), .val (.int p2), .val (.int p3), .val (.int p4), .val (.int p5), .val (.int (2 : Int32)), .val (.ref b1), uS, uS] [(.ref b62), (.ref b62)]))
  refine Goes.st (fun sT kT => XS.iconst X67.here hx rfl (hb hby at_102) kT) ?_
  show Goes _ _ _ _ (T67.setTop (mkF m 103 #[.val (.int p0), .val (.int p1), .val (.int p2), .val (.int p3), .val (.int p4), .val (.int p5), .val (.int (2 : Int32)), .val (.ref b1), uS, uS] [(.int (1 : Int32)), (.ref b62), (.ref b62)]))
  refine Goes.st (fun sT kT => XS.aload X67.here hx rfl (hb hby at_103) rfl rfl kT) ?_
  show Goes _ _ _ _ (T67.setTop (mkF m 105 #[.val (.int p0), .val (.int p1), .val (.int p2), .val (.int p3), .val (.int p4), .val (.int p5), .val (.int (2 : Int32)), .val (.ref b1), uS, uS] [(.ref b1), (.int (1 : Int32)), (.ref b62), (.ref b62)]))
  refine Goes.st (fun sT kT => XS.iconst X67.here hx rfl (hb hby at_105) kT) ?_
  show Goes _ _ _ _ (T67.setTop (mkF m 106 #[.val (.int p0), .val (.int p1), .val (.int p2), .val (.int p3), .val (.int p4), .val (.int p5), .val (.int (2 : Int32)), .val (.ref b1), uS, uS] [(.int (1 : Int32)), (.ref b1), (.int (1 : Int32)), (.ref b62), (.ref b62)]))
  have f69 : Arv Z h67 b1 k1 .char (5 : Int32) [(.int cc3), (.int cc7), (.int cc11), (.int cc15), (.int cc19)] (.int (0 : Int32)) := (f64.other W67 (Nat.ne_of_lt (Nat.lt_of_lt_of_le A1.lt (Nat.le_trans (Nat.le_trans (Nat.le_trans (Nat.le_trans (Nat.le_trans (Nat.le_of_eq W5.size.symm) (Nat.le_of_eq W9.size.symm)) (Nat.le_of_eq W13.size.symm)) (Nat.le_of_eq W17.size.symm)) (Nat.le_of_eq W21.size.symm)) (Nat.le_of_eq g62.symm)))))
  obtain ⟨oc70, oA70, oq70, oS70, oM70, oH70, oG70⟩ := id f69
  refine Goes.st (fun sT kT => X67.caload hx (j := (1 : Int32)) (v := (.int cc7)) (by rw [e67]; exact oA70.1) (State.isArrayOf_alike hZ.alike oA70.2.1) oA70.2.2 (inb_of oS70 ⟨by decide, by decide⟩) (oH70.at (inb_of oS70 ⟨by decide, by decide⟩) rfl) (g := (mkF m 106 #[.val (.int p0), .val (.int p1), .val (.int p2), .val (.int p3), .val (.int p4), .val (.int p5), .val (.int (2 : Int32)), .val (.ref b1), uS, uS] [(.int (1 : Int32)), (.ref b1), (.int (1 : Int32)), (.ref b62), (.ref b62)])) rfl rfl (hb hby at_106) _ kT) ?_
  show Goes _ _ _ _ (T67.setTop (mkF m 107 #[.val (.int p0), .val (.int p1), .val (.int p2), .val (.int p3), .val (.int p4), .val (.int p5), .val (.int (2 : Int32)), .val (.ref b1), uS, uS] [(.int cc7), (.int (1 : Int32)), (.ref b62), (.ref b62)]))
  obtain ⟨oc71, oA71, oq71, oS71, oM71, oH71, oG71⟩ := id V67
  obtain ⟨T72, h72, X72, e72, W72, st72⟩ := stC X67 hx hZ e67 oA71 (j := (1 : Int32)) (inb_of oS71 ⟨by decide, by decide⟩) (g := (mkF m 107 #[.val (.int p0), .val (.int p1), .val (.int p2), .val (.int p3), .val (.int p4), .val (.int p5), .val (.int (2 : Int32)), .val (.ref b1), uS, uS] [(.int cc7), (.int (1 : Int32)), (.ref b62), (.ref b62)])) rfl rfl (hb hby at_107)
  rw [own_narc rg_7] at W72
  have V72 : Arv Z h72 b62 k62 .char (2 : Int32) [(.int cc3), (.int cc7)] (.int (0 : Int32)) := Arv.set oA71 oq71 oS71 oM71 oH71 oG71 (own_fitsc rg_7) W72 1 rfl (Nat.le_of_ble_eq_true rfl)
  have N72 := Fr.snoc X72 N67 (Nat.le_trans Z0 (Nat.le_trans (Nat.le_trans (Nat.le_trans (Nat.le_trans (Nat.le_trans (Nat.le_trans E1.1 (Nat.le_of_eq W5.size.symm)) (Nat.le_of_eq W9.size.symm)) (Nat.le_of_eq W13.size.symm)) (Nat.le_of_eq W17.size.symm)) (Nat.le_of_eq W21.size.symm)) (Nat.le_of_eq g62.symm)))
  have CR73 : CHr Z EL s.vm h0 s.vm h72 := CR68.trans (CHr.wr W72 (own_safeArv hZ.alike V67 (by simp)) CR68.1)
  refine Goes.st st72 ?_
  show Goes _ _ _ _ (T72.setTop (mkF m 108 #[.val (.int p0), .val (.int p1), .val (.int p2), .val (.int p3), .val (.int p4), .val (.int p5), .val (.int (2 : Int32)), .val (.ref b1), uS, uS] [(.ref b62)]))
  refine Goes.st (fun sT kT => XS.astore X72.here hx rfl (hb hby at_108) rfl rfl (l' := #[.val (.int p0), .val (.int p1), .val (.int p2), .val (.int p3), .val (.int p4), .val (.int p5), .val (.int (2 : Int32)), .val (.ref b1), .val (.ref b62), uS]) rfl kT) ?_
  show Goes _ _ _ _ (T72.setTop (mkF m 110 #[.val (.int p0), .val (.int p1), .val (.int p2), .val (.int p3), .val (.int p4), .val (.int p5), .val (.int (2 : Int32)), .val (.ref b1), .val (.ref b62), uS] []))
  refine Goes.st (fun sT kT => XS.goto X72.here hx rfl (pc0 := 110) (pc' := 230) rfl (hb hby at_110) (by decide) (by decide) kT) ?_
  show Goes _ _ _ _ (T72.setTop (mkF m 230 #[.val (.int p0), .val (.int p1), .val (.int p2), .val (.int p3), .val (.int p4), .val (.int p5), .val (.int (2 : Int32)), .val (.ref b1), .val (.ref b62), uS] []))
  obtain ⟨T74, h74, X74, e74, E74, A74, D74, -, st74⟩ := newO X72 hx hZ hown (hw5 hw) (hw6 hw) (hw7 hw) e72 (g := (mkF m 230 #[.val (.int p0), .val (.int p1), .val (.int p2), .val (.int p3), .val (.int p4), .val (.int p5), .val (.int (2 : Int32)), .val (.ref b1), .val (.ref b62), uS] [])) rfl (hb hby at_230) (by decide) (by decide)
  obtain ⟨b74, g74⟩ : ∃ z, z = h72.size := ⟨_, rfl⟩
  rw [← g74] at A74 D74 st74
  have CR75 : CHr Z EL s.vm h0 s.vm h74 := CR73.trans (CHr.ext E74 CR73.1)
  have sf74_b74 : Safe Z EL s.vm h74 b74 := Safe.ext E74 CR73.1 (Safe.new (Nat.le_of_eq g74.symm))
  have F74_value : Fld Z h74 b74 "java/lang/String" "value" "[B" .null := D74 (Or.inr (hw20 hw)) (ty := (.array .byte)) (by decide)
  have F74_coder : Fld Z h74 b74 "java/lang/String" "coder" "B" (.int (0 : Int32)) := D74 (Or.inr (hw21 hw)) (ty := .byte) (by decide)
  refine Goes.st st74 ?_
  show Goes _ _ _ _ (T74.setTop (mkF m 233 #[.val (.int p0), .val (.int p1), .val (.int p2), .val (.int p3), .val (.int p4), .val (.int p5), .val (.int (2 : Int32)), .val (.ref b1), .val (.ref b62), uS] [(.ref b74)]))
  refine Goes.st (fun sT kT => XS.dup X74.here hx rfl (hb hby at_233) rfl rfl kT) ?_
  show Goes _ _ _ _ (T74.setTop (mkF m 234 #[.val (.int p0), .val (.int p1), .val (.int p2), .val (.int p3), .val (.int p4), .val (.int p5), .val (.int (2 : Int32)), .val (.ref b1), .val (.ref b62), uS] [(.ref b74), (.ref b74)]))
  refine Goes.st (fun sT kT => XS.aload X74.here hx rfl (hb hby at_234) rfl rfl kT) ?_
  show Goes _ _ _ _ (T74.setTop (mkF m 236 #[.val (.int p0), .val (.int p1), .val (.int p2), .val (.int p3), .val (.int p4), .val (.int p5), .val (.int (2 : Int32)), .val (.ref b1), .val (.ref b62), uS] [(.ref b62), (.ref b74), (.ref b74)]))
  have f77 : Arv Z h74 b62 k62 .char (2 : Int32) [(.int cc3), (.int cc7)] (.int (0 : Int32)) := (V72.ext E74)
  have f78 : Old Z n0 h74 := ((((((((((P0.ext E1).wr W5 nb).wr W9 nb).wr W13 nb).wr W17 nb).wr W21 nb).ext E62).wr W67 (Nat.le_trans Z0 (Nat.le_trans (Nat.le_trans (Nat.le_trans (Nat.le_trans (Nat.le_trans (Nat.le_trans E1.1 (Nat.le_of_eq W5.size.symm)) (Nat.le_of_eq W9.size.symm)) (Nat.le_of_eq W13.size.symm)) (Nat.le_of_eq W17.size.symm)) (Nat.le_of_eq W21.size.symm)) (Nat.le_of_eq g62.symm)))).wr W72 (Nat.le_trans Z0 (Nat.le_trans (Nat.le_trans (Nat.le_trans (Nat.le_trans (Nat.le_trans (Nat.le_trans E1.1 (Nat.le_of_eq W5.size.symm)) (Nat.le_of_eq W9.size.symm)) (Nat.le_of_eq W13.size.symm)) (Nat.le_of_eq W17.size.symm)) (Nat.le_of_eq W21.size.symm)) (Nat.le_of_eq g62.symm)))).ext E74)
  have hp79 : ∀ c ∈ ([cc3, cc7] : List Int32), ¬ c < 0 ∧ ¬ (255 : Int32) < c := (own_cS rg_3 (own_cS rg_7 own_c0))
  obtain ⟨_, _, ⟨T76, L76, k76, n76⟩, -, X76, ⟨Lc76, hQ76, l76, y76, z76⟩, st76⟩ := X74.specialBack hx (y := (⟨"java/lang/String", "<init>", "([C)V"⟩ : MethodName)) rfl hown (mvT hZ (hw8 hw)) (mvT hZ (hw9 hw)) (mvT hZ (hw10 hw)) (by decide) (StrChars.Road.backV (W := 1) hZ (own_hws hw) (kI := 4) (hw6 hw) (cs := ([cc3, cc7] : List Int32)) (bs := ([cc3, cc7] : List Int32).map (fun c => c.toInt8.toInt32)) (n := 2) (Nat.le_trans Z0 (Nat.le_trans (Nat.le_trans (Nat.le_trans (Nat.le_trans (Nat.le_trans (Nat.le_trans (Nat.le_trans (Nat.le_trans (Nat.le_trans E1.1 (Nat.le_of_eq W5.size.symm)) (Nat.le_of_eq W9.size.symm)) (Nat.le_of_eq W13.size.symm)) (Nat.le_of_eq W17.size.symm)) (Nat.le_of_eq W21.size.symm)) E62.1) (Nat.le_of_eq W67.size.symm)) (Nat.le_of_eq W72.size.symm)) (Nat.le_of_eq g74.symm))) (Nat.le_trans Z0 (Nat.le_trans (Nat.le_trans (Nat.le_trans (Nat.le_trans (Nat.le_trans (Nat.le_trans (Nat.le_trans (Nat.le_trans (Nat.le_trans E1.1 (Nat.le_of_eq W5.size.symm)) (Nat.le_of_eq W9.size.symm)) (Nat.le_of_eq W13.size.symm)) (Nat.le_of_eq W17.size.symm)) (Nat.le_of_eq W21.size.symm)) E62.1) (Nat.le_of_eq W67.size.symm)) (Nat.le_of_eq W72.size.symm)) E74.1)) A74 F74_value F74_coder f77 (O2.ext f78.2) P5 rfl rfl (by decide) (by decide) hp79 rfl (by decide) (by decide)) (g := (mkF m 236 #[.val (.int p0), .val (.int p1), .val (.int p2), .val (.int p3), .val (.int p4), .val (.int p5), .val (.int (2 : Int32)), .val (.ref b1), .val (.ref b62), uS] [(.ref b62), (.ref b74), (.ref b74)])) rfl (by rw [hml]; rfl) (Steps.refl _) (a := b74) (argsL := [(.ref b62)]) (rest := [(.ref b74)]) (lenOf pd_7 rfl) rfl (by show 2 * 0 + _ ≤ _; exact Nat.le_of_eq rfl) (hb hby at_236) (fun _ _ => ⟨rfl, e74, (by decide : 3 + 1 ≤ _), (by decide : 11 + 2 ≤ _)⟩)
  dsimp only [Pt.U, Pt.locs, Pt.cells, Pt.slots] at X76 l76 y76 z76 st76 hQ76
  subst l76 y76 z76
  obtain ⟨rfl, N76q, K76, Ex76, Cd76, t76, kb76, lz76, lo76, tn76, Vf76, Av76⟩ := hQ76
  have N76 := Fr.app N72 N76q
  have S76 : Str Z T76.heap b74 t76 kb76 [cc3, cc7] := ⟨Ex76, Vf76, Cd76, Av76, hp79, Nat.le_of_ble_eq_true rfl⟩
  have hs80 : ∀ x ∈ ([b74] : List Addr), Safe Z EL s.vm h74 x := (allS sf74_b74 all0)
  have CR80 : CHr Z EL s.vm h0 s.vm T76.heap := CR75.trans (CHr.keep K76 hs80 CR75.1)
  have sf80_b74 : Safe Z EL s.vm T76.heap b74 := Safe.keep K76 hs80 CR75.1 sf74_b74
  refine Goes.tr st76 ?_
  show Goes _ _ _ _ (T76.setTop (mkF m 239 #[.val (.int p0), .val (.int p1), .val (.int p2), .val (.int p3), .val (.int p4), .val (.int p5), .val (.int (2 : Int32)), .val (.ref b1), .val (.ref b62), uS] [(.ref b74)]))
  have f81 : Arv Z T76.heap b1 k1 .char (5 : Int32) [(.int cc3), (.int cc7), (.int cc11), (.int cc15), (.int cc19)] (.int (0 : Int32)) := (((f69.other W72 (Nat.ne_of_lt (Nat.lt_of_lt_of_le A1.lt (Nat.le_trans (Nat.le_trans (Nat.le_trans (Nat.le_trans (Nat.le_trans (Nat.le_of_eq W5.size.symm) (Nat.le_of_eq W9.size.symm)) (Nat.le_of_eq W13.size.symm)) (Nat.le_of_eq W17.size.symm)) (Nat.le_of_eq W21.size.symm)) (Nat.le_of_eq g62.symm))))).ext E74).keep K76 (ninS (Nat.ne_of_lt (Nat.lt_of_lt_of_le A1.lt (Nat.le_trans (Nat.le_trans (Nat.le_trans (Nat.le_trans (Nat.le_trans (Nat.le_trans (Nat.le_trans (Nat.le_trans (Nat.le_of_eq W5.size.symm) (Nat.le_of_eq W9.size.symm)) (Nat.le_of_eq W13.size.symm)) (Nat.le_of_eq W17.size.symm)) (Nat.le_of_eq W21.size.symm)) E62.1) (Nat.le_of_eq W67.size.symm)) (Nat.le_of_eq W72.size.symm)) (Nat.le_of_eq g74.symm)))) nin0))
  have Vc82 : Arv Z T76.heap b1 k1 .char (5 : Int32) ([cc3, cc7, cc11, cc15, cc19].map Value.int) (.int (0 : Int32)) := f81
  have f83 : Old Z n0 T76.heap := (f78.keep K76 (allS (Nat.le_trans Z0 (Nat.le_trans (Nat.le_trans (Nat.le_trans (Nat.le_trans (Nat.le_trans (Nat.le_trans (Nat.le_trans (Nat.le_trans (Nat.le_trans E1.1 (Nat.le_of_eq W5.size.symm)) (Nat.le_of_eq W9.size.symm)) (Nat.le_of_eq W13.size.symm)) (Nat.le_of_eq W17.size.symm)) (Nat.le_of_eq W21.size.symm)) E62.1) (Nat.le_of_eq W67.size.symm)) (Nat.le_of_eq W72.size.symm)) (Nat.le_of_eq g74.symm))) all0))
  exact Jjt T76 T76.heap _ s.vm _ b74 t76 kb76 [cc3, cc7] [cc3, cc7, cc11, cc15, cc19] 2 (.val (.ref b62)) (X76.more (by decide) (by decide)) rfl N76 (Nat.le_trans Z0 (Nat.le_trans (Nat.le_trans (Nat.le_trans (Nat.le_trans (Nat.le_trans (Nat.le_trans (Nat.le_trans (Nat.le_trans (Nat.le_trans (Nat.le_trans E1.1 (Nat.le_of_eq W5.size.symm)) (Nat.le_of_eq W9.size.symm)) (Nat.le_of_eq W13.size.symm)) (Nat.le_of_eq W17.size.symm)) (Nat.le_of_eq W21.size.symm)) E62.1) (Nat.le_of_eq W67.size.symm)) (Nat.le_of_eq W72.size.symm)) E74.1) K76.1)) hZ hown hS0 (Nat.le_trans (Nat.le_trans (Nat.le_trans (Nat.le_trans (Nat.le_trans (Nat.le_trans (Nat.le_trans (Nat.le_trans (Nat.le_trans (Nat.le_trans (Nat.le_trans hk0 E1.1) (Nat.le_of_eq W5.size.symm)) (Nat.le_of_eq W9.size.symm)) (Nat.le_of_eq W13.size.symm)) (Nat.le_of_eq W17.size.symm)) (Nat.le_of_eq W21.size.symm)) E62.1) (Nat.le_of_eq W67.size.symm)) (Nat.le_of_eq W72.size.symm)) E74.1) K76.1) CR80 S76 Vc82 f83 (by decide) rfl rfl (Or.inr ⟨_, rfl, rfl⟩)
 ·skip
  show Goes _ _ _ _ (T21.setTop (mkF m 51 #[.val (.int p0), .val (.int p1), .val (.int p2), .val (.int p3), .val (.int p4), .val (.int p5), .val (.int (3 : Int32)), .val (.ref b1), uS, uS] []))
  refine Goes.st (fun sT kT => XS.iload X21.here hx rfl (hb hby at_51) rfl kT) ?_
  show Goes _ _ _ _ (T21.setTop (mkF m 53 #[.val (.int p0), .val (.int p1), .val (.int p2), .val (.int p3), .val (.int p4), .val (.int p5), .val (.int (3 : Int32)), .val (.ref b1), uS, uS] [(.int (3 : Int32))]))
  refine Goes.st (fun sT kT => XS.ifYes X21.here hx rfl (pc0 := 53) (pc' := 64) rfl (hb hby at_53) rfl ((if0 _ _).trans (feq (by decide : ¬ ((3 : Int32) = (0 : Int32)))).2) (by decide) (by decide) kT) ?_
  show Goes _ _ _ _ (T21.setTop (mkF m 64 #[.val (.int p0), .val (.int p1), .val (.int p2), .val (.int p3), .val (.int p4), .val (.int p5), .val (.int (3 : Int32)), .val (.ref b1), uS, uS] []))
  refine Goes.st (fun sT kT => XS.iload X21.here hx rfl (hb hby at_64) rfl kT) ?_
  show Goes _ _ _ _ (T21.setTop (mkF m 66 #[.val (.int p0), .val (.int p1), .val (.int p2), .val (.int p3), .val (.int p4), .val (.int p5), .val (.int (3 : Int32)), .val (.ref b1), uS, uS] [(.int (3 : Int32))]))
  refine Goes.st (fun sT kT => XS.iconst X21.here hx rfl (hb hby at_66) kT) ?_
  show Goes _ _ _ _ (T21.setTop (mkF m 67 #[.val (.int p0), .val (.int p1), .val (.int p2), .val (.int p3), .val (.int p4), .val (.int p5), .val (.int (3 : Int32)), .val (.ref b1), uS, uS] [(.int (1 : Int32)), (.int (3 : Int32))]))
  refine Goes.st (fun sT kT => XS.icmpYes X21.here hx rfl (pc0 := 67) (pc' := 85) rfl (hb hby at_67) rfl (feq (by decide : ¬ ((3 : Int32) = (1 : Int32)))).2 (by decide) (by decide) kT) ?_
  show Goes _ _ _ _ (T21.setTop (mkF m 85 #[.val (.int p0), .val (.int p1), .val (.int p2), .val (.int p3), .val (.int p4), .val (.int p5), .val (.int (3 : Int32)), .val (.ref b1), uS, uS] []))
  refine Goes.st (fun sT kT => XS.iload X21.here hx rfl (hb hby at_85) rfl kT) ?_
  show Goes _ _ _ _ (T21.setTop (mkF m 87 #[.val (.int p0), .val (.int p1), .val (.int p2), .val (.int p3), .val (.int p4), .val (.int p5), .val (.int (3 : Int32)), .val (.ref b1), uS, uS] [(.int (3 : Int32))]))
  refine Goes.st (fun sT kT => XS.iconst X21.here hx rfl (hb hby at_87) kT) ?_
  show Goes _ _ _ _ (T21.setTop (mkF m 88 #[.val (.int p0), .val (.int p1), .val (.int p2), .val (.int p3), .val (.int p4), .val (.int p5), .val (.int (3 : Int32)), .val (.ref b1), uS, uS] [(.int (2 : Int32)), (.int (3 : Int32))]))
  refine Goes.st (fun sT kT => XS.icmpYes X21.here hx rfl (pc0 := 88) (pc' := 113) rfl (hb hby at_88) rfl (feq (by decide : ¬ ((3 : Int32) = (2 : Int32)))).2 (by decide) (by decide) kT) ?_
  show Goes _ _ _ _ (T21.setTop (mkF m 113 #[.val (.int p0), .val (.int p1), .val (.int p2), .val (.int p3), .val (.int p4), .val (.int p5), .val (.int (3 : Int32)), .val (.ref b1), uS, uS] []))
  refine Goes.st (fun sT kT => XS.iload X21.here hx rfl (hb hby at_113) rfl kT) ?_
  show Goes _ _ _ _ (T21.setTop (mkF m 115 #[.val (.int p0), .val (.int p1), .val (.int p2), .val (.int p3), .val (.int p4), .val (.int p5), .val (.int (3 : Int32)), .val (.ref b1), uS, uS] [(.int (3 : Int32))]))
  refine Goes.st (fun sT kT => XS.iconst X21.here hx rfl (hb hby at_115) kT) ?_
  show Goes _ _ _ _ (T21.setTop (mkF m 116 #[.val (.int p0), .val (.int p1), .val (.int p2), .val (.int p3), .val (.int p4), .val (.int p5), .val (.int (3 : Int32)), .val (.ref b1), uS, uS] [(.int (3 : Int32)), (.int (3 : Int32))]))
  refine Goes.st (fun sT kT => XS.icmpNo X21.here hx rfl (hb hby at_116) rfl (teq (by decide : (3 : Int32) = (3 : Int32))).2 kT) ?_
  show Goes _ _ _ _ (T21.setTop (mkF m 119 #[.val (.int p0), .val (.int p1), .val (.int p2), .val (.int p3), .val (.int p4), .val (.int p5), .val (.int (3 : Int32)), .val (.ref b1), uS, uS] []))
  refine Goes.st (fun sT kT => XS.iconst X21.here hx rfl (hb hby at_119) kT) ?_
  show Goes _ _ _ _ (T21.setTop (mkF m 120 #[.val (.int p0), .val (.int p1), .val (.int p2), .val (.int p3), .val (.int p4), .val (.int p5), .val (.int (3 : Int32)), .val (.ref b1), uS, uS] [(.int (3 : Int32))]))
  obtain ⟨T84, h84, k84, X84, e84, E84, A84, st84⟩ := newP X21 hx hZ (aty := .char) (hw0 hw) e21 (g := (mkF m 120 #[.val (.int p0), .val (.int p1), .val (.int p2), .val (.int p3), .val (.int p4), .val (.int p5), .val (.int (3 : Int32)), .val (.ref b1), uS, uS] [(.int (3 : Int32))])) rfl (hb hby at_120) rfl (by decide) (cap := 3) (by decide) (by decide) (by decide) (by decide)
  obtain ⟨b84, g84⟩ : ∃ z, z = h21.size := ⟨_, rfl⟩
  rw [← g84] at A84 st84
  have CR85 : CHr Z EL s.vm h0 s.vm h84 := CR22.trans (CHr.ext E84 CR22.1)
  have V84 : Arv Z h84 b84 k84 .char (3 : Int32) [(.int (0 : Int32)), (.int (0 : Int32)), (.int (0 : Int32))] (.int (0 : Int32)) := (Arv.new A84 (by decide)).pad (pad_rep [] (.int (0 : Int32)) 3)
  refine Goes.st st84 ?_
  show Goes _ _ _ _ (T84.setTop (mkF m 122 #[.val (.int p0), .val (.int p1), .val (.int p2), .val (.int p3), .val (.int p4), .val (.int p5), .val (.int (3 : Int32)), .val (.ref b1), uS, uS] [(.ref b84)]))
  refine Goes.st (fun sT kT => XS.dup X84.here hx rfl (hb hby at_122) rfl rfl kT) ?_
  show Goes _ _ _ _ (T84.setTop (mkF m 123 #[.val (.int p0), .val (.int p1), .val (.int p2), .val (.int p3), .val (.int p4), .val (.int p5), .val (.int (3 : Int32)), .val (.ref b1), uS, uS] [(.ref b84), (.ref b84)]))
  refine Goes.st (fun sT kT => XS.iconst X84.here hx rfl (hb hby at_123) kT) ?_
  show Goes _ _ _ _ (T84.setTop (mkF m 124 #[.val (.int p0), .val (.int p1), .val (.int p2), .val (.int p3), .val (.int p4), .val (.int p5), .val (.int (3 : Int32)), .val (.ref b1), uS, uS] [(.int (0 : Int32)), (.ref b84), (.ref b84)]))
  refine Goes.st (fun sT kT => XS.aload X84.here hx rfl (hb hby at_124) rfl rfl kT) ?_
  show Goes _ _ _ _ (T84.setTop (mkF m 126 #[.val (.int p0), .val (.int p1), .val (.int p2), .val (.int p3), .val (.int p4), .val (.int p5), .val (.int (3 : Int32)), .val (.ref b1), uS, uS] [(.ref b1), (.int (0 : Int32)), (.ref b84), (.ref b84)]))
  refine Goes.st (fun sT kT => XS.iconst X84.here hx rfl (hb hby at_126) kT) ?_
  show Goes _ _ _ _ (T84.setTop (mkF m 127 #[.val (.int p0), .val (.int p1), .val (.int p2), .val (.int p3), .val (.int p4), .val (.int p5), .val (.int (3 : Int32)), .val (.ref b1), uS, uS] [(.int (0 : Int32)), (.ref b1), (.int (0 : Int32)), (.ref b84), (.ref b84)]))
  have f86 : Arv Z h84 b1 k1 .char (5 : Int32) [(.int cc3), (.int cc7), (.int cc11), (.int cc15), (.int cc19)] (.int (0 : Int32)) := (V21.ext E84)
  obtain ⟨oc87, oA87, oq87, oS87, oM87, oH87, oG87⟩ := id f86
  refine Goes.st (fun sT kT => X84.caload hx (j := (0 : Int32)) (v := (.int cc3)) (by rw [e84]; exact oA87.1) (State.isArrayOf_alike hZ.alike oA87.2.1) oA87.2.2 (inb_of oS87 ⟨by decide, by decide⟩) (oH87.at (inb_of oS87 ⟨by decide, by decide⟩) rfl) (g := (mkF m 127 #[.val (.int p0), .val (.int p1), .val (.int p2), .val (.int p3), .val (.int p4), .val (.int p5), .val (.int (3 : Int32)), .val (.ref b1), uS, uS] [(.int (0 : Int32)), (.ref b1), (.int (0 : Int32)), (.ref b84), (.ref b84)])) rfl rfl (hb hby at_127) _ kT) ?_
  show Goes _ _ _ _ (T84.setTop (mkF m 128 #[.val (.int p0), .val (.int p1), .val (.int p2), .val (.int p3), .val (.int p4), .val (.int p5), .val (.int (3 : Int32)), .val (.ref b1), uS, uS] [(.int cc3), (.int (0 : Int32)), (.ref b84), (.ref b84)]))
  obtain ⟨oc88, oA88, oq88, oS88, oM88, oH88, oG88⟩ := id V84
  obtain ⟨T89, h89, X89, e89, W89, st89⟩ := stC X84 hx hZ e84 oA88 (j := (0 : Int32)) (inb_of oS88 ⟨by decide, by decide⟩) (g := (mkF m 128 #[.val (.int p0), .val (.int p1), .val (.int p2), .val (.int p3), .val (.int p4), .val (.int p5), .val (.int (3 : Int32)), .val (.ref b1), uS, uS] [(.int cc3), (.int (0 : Int32)), (.ref b84), (.ref b84)])) rfl rfl (hb hby at_128)
  rw [own_narc rg_3] at W89
  have V89 : Arv Z h89 b84 k84 .char (3 : Int32) [(.int cc3), (.int (0 : Int32)), (.int (0 : Int32))] (.int (0 : Int32)) := Arv.set oA88 oq88 oS88 oM88 oH88 oG88 (own_fitsc rg_3) W89 0 rfl (Nat.le_of_ble_eq_true rfl)
  have N89 := Fr.snoc X89 N21 (Nat.le_trans Z0 (Nat.le_trans (Nat.le_trans (Nat.le_trans (Nat.le_trans (Nat.le_trans (Nat.le_trans E1.1 (Nat.le_of_eq W5.size.symm)) (Nat.le_of_eq W9.size.symm)) (Nat.le_of_eq W13.size.symm)) (Nat.le_of_eq W17.size.symm)) (Nat.le_of_eq W21.size.symm)) (Nat.le_of_eq g84.symm)))
  have CR90 : CHr Z EL s.vm h0 s.vm h89 := CR85.trans (CHr.wr W89 (own_safeArv hZ.alike V84 (by simp)) CR85.1)
  refine Goes.st st89 ?_
  show Goes _ _ _ _ (T89.setTop (mkF m 129 #[.val (.int p0), .val (.int p1), .val (.int p2), .val (.int p3), .val (.int p4), .val (.int p5), .val (.int (3 : Int32)), .val (.ref b1), uS, uS] [(.ref b84)]))
  refine Goes.st (fun sT kT => XS.dup X89.here hx rfl (hb hby at_129) rfl rfl kT) ?_
  show Goes _ _ _ _ (T89.setTop (mkF m 130 #[.val (.int p0), .val (.int p1), .val (.int p2), .val (.int p3), .val (.int p4), .val (.int p5), .val (.int (3 : Int32)), .val (.ref b1), uS, uS] [(.ref b84), (.ref b84)]))
  refine Goes.st (fun sT kT => XS.iconst X89.here hx rfl (hb hby at_130) kT) ?_
  show Goes _ _ _ _ (T89.setTop (mkF m 131 #[.val (.int p0), .val (.int p1), .val (.int p2), .val (.int p3), .val (.int p4), .val (.int p5), .val (.int (3 : Int32)), .val (.ref b1), uS, uS] [(.int (1 : Int32)), (.ref b84), (.ref b84)]))
  refine Goes.st (fun sT kT => XS.aload X89.here hx rfl (hb hby at_131) rfl rfl kT) ?_
  show Goes _ _ _ _ (T89.setTop (mkF m 133 #[.val (.int p0), .val (.int p1), .val (.int p2), .val (.int p3), .val (.int p4), .val (.int p5), .val (.int (3 : Int32)), .val (.ref b1), uS, uS] [(.ref b1), (.int (1 : Int32)), (.ref b84), (.ref b84)]))
  refine Goes.st (fun sT kT => XS.iconst X89.here hx rfl (hb hby at_133) kT) ?_
  show Goes _ _ _ _ (T89.setTop (mkF m 134 #[.val (.int p0), .val (.int p1), .val (.int p2), .val (.int p3), .val (.int p4), .val (.int p5), .val (.int (3 : Int32)), .val (.ref b1), uS, uS] [(.int (1 : Int32)), (.ref b1), (.int (1 : Int32)), (.ref b84), (.ref b84)]))
  have f91 : Arv Z h89 b1 k1 .char (5 : Int32) [(.int cc3), (.int cc7), (.int cc11), (.int cc15), (.int cc19)] (.int (0 : Int32)) := (f86.other W89 (Nat.ne_of_lt (Nat.lt_of_lt_of_le A1.lt (Nat.le_trans (Nat.le_trans (Nat.le_trans (Nat.le_trans (Nat.le_trans (Nat.le_of_eq W5.size.symm) (Nat.le_of_eq W9.size.symm)) (Nat.le_of_eq W13.size.symm)) (Nat.le_of_eq W17.size.symm)) (Nat.le_of_eq W21.size.symm)) (Nat.le_of_eq g84.symm)))))
  obtain ⟨oc92, oA92, oq92, oS92, oM92, oH92, oG92⟩ := id f91
  refine Goes.st (fun sT kT => X89.caload hx (j := (1 : Int32)) (v := (.int cc7)) (by rw [e89]; exact oA92.1) (State.isArrayOf_alike hZ.alike oA92.2.1) oA92.2.2 (inb_of oS92 ⟨by decide, by decide⟩) (oH92.at (inb_of oS92 ⟨by decide, by decide⟩) rfl) (g := (mkF m 134 #[.val (.int p0), .val (.int p1), .val (.int p2), .val (.int p3), .val (.int p4), .val (.int p5), .val (.int (3 : Int32)), .val (.ref b1), uS, uS] [(.int (1 : Int32)), (.ref b1), (.int (1 : Int32)), (.ref b84), (.ref b84)])) rfl rfl (hb hby at_134) _ kT) ?_
  show Goes _ _ _ _ (T89.setTop (mkF m 135 #[.val (.int p0), .val (.int p1), .val (.int p2), .val (.int p3), .val (.int p4), .val (.int p5), .val (.int (3 : Int32)), .val (.ref b1), uS, uS] [(.int cc7), (.int (1 : Int32)), (.ref b84), (.ref b84)]))
  obtain ⟨oc93, oA93, oq93, oS93, oM93, oH93, oG93⟩ := id V89
  obtain ⟨T94, h94, X94, e94, W94, st94⟩ := stC X89 hx hZ e89 oA93 (j := (1 : Int32)) (inb_of oS93 ⟨by decide, by decide⟩) (g := (mkF m 135 #[.val (.int p0), .val (.int p1), .val (.int p2), .val (.int p3), .val (.int p4), .val (.int p5), .val (.int (3 : Int32)), .val (.ref b1), uS, uS] [(.int cc7), (.int (1 : Int32)), (.ref b84), (.ref b84)])) rfl rfl (hb hby at_135)
  rw [own_narc rg_7] at W94
  have V94 : Arv Z h94 b84 k84 .char (3 : Int32) [(.int cc3), (.int cc7), (.int (0 : Int32))] (.int (0 : Int32)) := Arv.set oA93 oq93 oS93 oM93 oH93 oG93 (own_fitsc rg_7) W94 1 rfl (Nat.le_of_ble_eq_true rfl)
  have N94 := Fr.snoc X94 N89 (Nat.le_trans Z0 (Nat.le_trans (Nat.le_trans (Nat.le_trans (Nat.le_trans (Nat.le_trans (Nat.le_trans E1.1 (Nat.le_of_eq W5.size.symm)) (Nat.le_of_eq W9.size.symm)) (Nat.le_of_eq W13.size.symm)) (Nat.le_of_eq W17.size.symm)) (Nat.le_of_eq W21.size.symm)) (Nat.le_of_eq g84.symm)))
  have CR95 : CHr Z EL s.vm h0 s.vm h94 := CR90.trans (CHr.wr W94 (own_safeArv hZ.alike V89 (by simp)) CR90.1)
  refine Goes.st st94 ?_
  show Goes _ _ _ _ (T94.setTop (mkF m 136 #[.val (.int p0), .val (.int p1), .val (.int p2), .val (.int p3), .val (.int p4), .val (.int p5), .val (.int (3 : Int32)), .val (.ref b1), uS, uS] [(.ref b84)]))
  refine Goes.st (fun sT kT => XS.dup X94.here hx rfl (hb hby at_136) rfl rfl kT) ?_
  show Goes _ _ _ _ (T94.setTop (mkF m 137 #[.val (.int p0), .val (.int p1), .val (.int p2), .val (.int p3), .val (.int p4), .val (.int p5), .val (.int (3 : Int32)), .val (.ref b1), uS, uS] [(.ref b84), (.ref b84)]))
  refine Goes.st (fun sT kT => XS.iconst X94.here hx rfl (hb hby at_137) kT) ?_
  show Goes _ _ _ _ (T94.setTop (mkF m 138 #[.val (.int p0), .val (.int p1), .val (.int p2), .val (.int p3), .val (.int p4), .val (.int p5), .val (.int (3 : Int32)), .val (.ref b1), uS, uS] [(.int (2 : Int32)), (.ref b84), (.ref b84)]))
  refine Goes.st (fun sT kT => XS.aload X94.here hx rfl (hb hby at_138) rfl rfl kT) ?_
  show Goes _ _ _ _ (T94.setTop (mkF m 140 #[.val (.int p0), .val (.int p1), .val (.int p2), .val (.int p3), .val (.int p4), .val (.int p5), .val (.int (3 : Int32)), .val (.ref b1), uS, uS] [(.ref b1), (.int (2 : Int32)), (.ref b84), (.ref b84)]))
  refine Goes.st (fun sT kT => XS.iconst X94.here hx rfl (hb hby at_140) kT) ?_
  show Goes _ _ _ _ (T94.setTop (mkF m 141 #[.val (.int p0), .val (.int p1), .val (.int p2), .val (.int p3), .val (.int p4), .val (.int p5), .val (.int (3 : Int32)), .val (.ref b1), uS, uS] [(.int (2 : Int32)), (.ref b1), (.int (2 : Int32)), (.ref b84), (.ref b84)]))
  have f96 : Arv Z h94 b1 k1 .char (5 : Int32) [(.int cc3), (.int cc7), (.int cc11), (.int cc15), (.int cc19)] (.int (0 : Int32)) := (f91.other W94 (Nat.ne_of_lt (Nat.lt_of_lt_of_le A1.lt (Nat.le_trans (Nat.le_trans (Nat.le_trans (Nat.le_trans (Nat.le_trans (Nat.le_of_eq W5.size.symm) (Nat.le_of_eq W9.size.symm)) (Nat.le_of_eq W13.size.symm)) (Nat.le_of_eq W17.size.symm)) (Nat.le_of_eq W21.size.symm)) (Nat.le_of_eq g84.symm)))))
  obtain ⟨oc97, oA97, oq97, oS97, oM97, oH97, oG97⟩ := id f96
  refine Goes.st (fun sT kT => X94.caload hx (j := (2 : Int32)) (v := (.int cc11)) (by rw [e94]; exact oA97.1) (State.isArrayOf_alike hZ.alike oA97.2.1) oA97.2.2 (inb_of oS97 ⟨by decide, by decide⟩) (oH97.at (inb_of oS97 ⟨by decide, by decide⟩) rfl) (g := (mkF m 141 #[.val (.int p0), .val (.int p1), .val (.int p2), .val (.int p3), .val (.int p4), .val (.int p5), .val (.int (3 : Int32)), .val (.ref b1), uS, uS] [(.int (2 : Int32)), (.ref b1), (.int (2 : Int32)), (.ref b84), (.ref b84)])) rfl rfl (hb hby at_141) _ kT) ?_
  show Goes _ _ _ _ (T94.setTop (mkF m 142 #[.val (.int p0), .val (.int p1), .val (.int p2), .val (.int p3), .val (.int p4), .val (.int p5), .val (.int (3 : Int32)), .val (.ref b1), uS, uS] [(.int cc11), (.int (2 : Int32)), (.ref b84), (.ref b84)]))
  obtain ⟨oc98, oA98, oq98, oS98, oM98, oH98, oG98⟩ := id V94
  obtain ⟨T99, h99, X99, e99, W99, st99⟩ := stC X94 hx hZ e94 oA98 (j := (2 : Int32)) (inb_of oS98 ⟨by decide, by decide⟩) (g := (mkF m 142 #[.val (.int p0), .val (.int p1), .val (.int p2), .val (.int p3), .val (.int p4), .val (.int p5), .val (.int (3 : Int32)), .val (.ref b1), uS, uS] [(.int cc11), (.int (2 : Int32)), (.ref b84), (.ref b84)])) rfl rfl (hb hby at_142)
  rw [own_narc rg_11] at W99
  have V99 : Arv Z h99 b84 k84 .char (3 : Int32) [(.int cc3), (.int cc7), (.int cc11)] (.int (0 : Int32)) := Arv.set oA98 oq98 oS98 oM98 oH98 oG98 (own_fitsc rg_11) W99 2 rfl (Nat.le_of_ble_eq_true rfl)
  have N99 := Fr.snoc X99 N94 (Nat.le_trans Z0 (Nat.le_trans (Nat.le_trans (Nat.le_trans (Nat.le_trans (Nat.le_trans (Nat.le_trans E1.1 (Nat.le_of_eq W5.size.symm)) (Nat.le_of_eq W9.size.symm)) (Nat.le_of_eq W13.size.symm)) (Nat.le_of_eq W17.size.symm)) (Nat.le_of_eq W21.size.symm)) (Nat.le_of_eq g84.symm)))
  have CR100 : CHr Z EL s.vm h0 s.vm h99 := CR95.trans (CHr.wr W99 (own_safeArv hZ.alike V94 (by simp)) CR95.1)
  refine Goes.st st99 ?_
  show Goes _ _ _ _ (T99.setTop (mkF m 143 #[.val (.int p0), .val (.int p1), .val (.int p2), .val (.int p3), .val (.int p4), .val (.int p5), .val (.int (3 : Int32)), .val (.ref b1), uS, uS] [(.ref b84)]))
  refine Goes.st (fun sT kT => XS.astore X99.here hx rfl (hb hby at_143) rfl rfl (l' := #[.val (.int p0), .val (.int p1), .val (.int p2), .val (.int p3), .val (.int p4), .val (.int p5), .val (.int (3 : Int32)), .val (.ref b1), .val (.ref b84), uS]) rfl kT) ?_
  show Goes _ _ _ _ (T99.setTop (mkF m 145 #[.val (.int p0), .val (.int p1), .val (.int p2), .val (.int p3), .val (.int p4), .val (.int p5), .val (.int (3 : Int32)), .val (.ref b1), .val (.ref b84), uS] []))
  refine Goes.st (fun sT kT => XS.goto X99.here hx rfl (pc0 := 145) (pc' := 230) rfl (hb hby at_145) (by decide) (by decide) kT) ?_
  show Goes _ _ _ _ (T99.setTop (mkF m 230 #[.val (.int p0), .val (.int p1), .val (.int p2), .val (.int p3), .val (.int p4), .val (.int p5), .val (.int (3 : Int32)), .val (.ref b1), .val (.ref b84), uS] []))
  obtain ⟨T101, h101, X101, e101, E101, A101, D101, -, st101⟩ := newO X99 hx hZ hown (hw5 hw) (hw6 hw) (hw7 hw) e99 (g := (mkF m 230 #[.val (.int p0), .val (.int p1), .val (.int p2), .val (.int p3), .val (.int p4), .val (.int p5), .val (.int (3 : Int32)), .val (.ref b1), .val (.ref b84), uS] [])) rfl (hb hby at_230) (by decide) (by decide)
  obtain ⟨b101, g101⟩ : ∃ z, z = h99.size := ⟨_, rfl⟩
  rw [← g101] at A101 D101 st101
  have CR102 : CHr Z EL s.vm h0 s.vm h101 := CR100.trans (CHr.ext E101 CR100.1)
  have sf101_b101 : Safe Z EL s.vm h101 b101 := Safe.ext E101 CR100.1 (Safe.new (Nat.le_of_eq g101.symm))
  have F101_value : Fld Z h101 b101 "java/lang/String" "value" "[B" .null := D101 (Or.inr (hw20 hw)) (ty := (.array .byte)) (by decide)
  have F101_coder : Fld Z h101 b101 "java/lang/String" "coder" "B" (.int (0 : Int32)) := D101 (Or.inr (hw21 hw)) (ty := .byte) (by decide)
  refine Goes.st st101 ?_
  show Goes _ _ _ _ (T101.setTop (mkF m 233 #[.val (.int p0), .val (.int p1), .val (.int p2), .val (.int p3), .val (.int p4), .val (.int p5), .val (.int (3 : Int32)), .val (.ref b1), .val (.ref b84), uS] [(.ref b101)]))
  refine Goes.st (fun sT kT => XS.dup X101.here hx rfl (hb hby at_233) rfl rfl kT) ?_
  show Goes _ _ _ _ (T101.setTop (mkF m 234 #[.val (.int p0), .val (.int p1), .val (.int p2), .val (.int p3), .val (.int p4), .val (.int p5), .val (.int (3 : Int32)), .val (.ref b1), .val (.ref b84), uS] [(.ref b101), (.ref b101)]))
  refine Goes.st (fun sT kT => XS.aload X101.here hx rfl (hb hby at_234) rfl rfl kT) ?_
  show Goes _ _ _ _ (T101.setTop (mkF m 236 #[.val (.int p0), .val (.int p1), .val (.int p2), .val (.int p3), .val (.int p4), .val (.int p5), .val (.int (3 : Int32)), .val (.ref b1), .val (.ref b84), uS] [(.ref b84), (.ref b101), (.ref b101)]))
  have f104 : Arv Z h101 b84 k84 .char (3 : Int32) [(.int cc3), (.int cc7), (.int cc11)] (.int (0 : Int32)) := (V99.ext E101)
  have f105 : Old Z n0 h101 := (((((((((((P0.ext E1).wr W5 nb).wr W9 nb).wr W13 nb).wr W17 nb).wr W21 nb).ext E84).wr W89 (Nat.le_trans Z0 (Nat.le_trans (Nat.le_trans (Nat.le_trans (Nat.le_trans (Nat.le_trans (Nat.le_trans E1.1 (Nat.le_of_eq W5.size.symm)) (Nat.le_of_eq W9.size.symm)) (Nat.le_of_eq W13.size.symm)) (Nat.le_of_eq W17.size.symm)) (Nat.le_of_eq W21.size.symm)) (Nat.le_of_eq g84.symm)))).wr W94 (Nat.le_trans Z0 (Nat.le_trans (Nat.le_trans (Nat.le_trans (Nat.le_trans (Nat.le_trans (Nat.le_trans E1.1 (Nat.le_of_eq W5.size.symm)) (Nat.le_of_eq W9.size.symm)) (Nat.le_of_eq W13.size.symm)) (Nat.le_of_eq W17.size.symm)) (Nat.le_of_eq W21.size.symm)) (Nat.le_of_eq g84.symm)))).wr W99 (Nat.le_trans Z0 (Nat.le_trans (Nat.le_trans (Nat.le_trans (Nat.le_trans (Nat.le_trans (Nat.le_trans E1.1 (Nat.le_of_eq W5.size.symm)) (Nat.le_of_eq W9.size.symm)) (Nat.le_of_eq W13.size.symm)) (Nat.le_of_eq W17.size.symm)) (Nat.le_of_eq W21.size.symm)) (Nat.le_of_eq g84.symm)))).ext E101)
  have hp106 : ∀ c ∈ ([cc3, cc7, cc11] : List Int32), ¬ c < 0 ∧ ¬ (255 : Int32) < c := (own_cS rg_3 (own_cS rg_7 (own_cS rg_11 own_c0)))
  obtain ⟨_, _, ⟨T103, L103, k103, n103⟩, -, X103, ⟨Lc103, hQ103, l103, y103, z103⟩, st103⟩ := X101.specialBack hx (y := (⟨"java/lang/String", "<init>", "([C)V"⟩ : MethodName)) rfl hown (mvT hZ (hw8 hw)) (mvT hZ (hw9 hw)) (mvT hZ (hw10 hw)) (by decide) (StrChars.Road.backV (W := 1) hZ (own_hws hw) (kI := 4) (hw6 hw) (cs := ([cc3, cc7, cc11] : List Int32)) (bs := ([cc3, cc7, cc11] : List Int32).map (fun c => c.toInt8.toInt32)) (n := 3) (Nat.le_trans Z0 (Nat.le_trans (Nat.le_trans (Nat.le_trans (Nat.le_trans (Nat.le_trans (Nat.le_trans (Nat.le_trans (Nat.le_trans (Nat.le_trans (Nat.le_trans E1.1 (Nat.le_of_eq W5.size.symm)) (Nat.le_of_eq W9.size.symm)) (Nat.le_of_eq W13.size.symm)) (Nat.le_of_eq W17.size.symm)) (Nat.le_of_eq W21.size.symm)) E84.1) (Nat.le_of_eq W89.size.symm)) (Nat.le_of_eq W94.size.symm)) (Nat.le_of_eq W99.size.symm)) (Nat.le_of_eq g101.symm))) (Nat.le_trans Z0 (Nat.le_trans (Nat.le_trans (Nat.le_trans (Nat.le_trans (Nat.le_trans (Nat.le_trans (Nat.le_trans (Nat.le_trans (Nat.le_trans (Nat.le_trans E1.1 (Nat.le_of_eq W5.size.symm)) (Nat.le_of_eq W9.size.symm)) (Nat.le_of_eq W13.size.symm)) (Nat.le_of_eq W17.size.symm)) (Nat.le_of_eq W21.size.symm)) E84.1) (Nat.le_of_eq W89.size.symm)) (Nat.le_of_eq W94.size.symm)) (Nat.le_of_eq W99.size.symm)) E101.1)) A101 F101_value F101_coder f104 (O2.ext f105.2) P5 rfl rfl (by decide) (by decide) hp106 rfl (by decide) (by decide)) (g := (mkF m 236 #[.val (.int p0), .val (.int p1), .val (.int p2), .val (.int p3), .val (.int p4), .val (.int p5), .val (.int (3 : Int32)), .val (.ref b1), .val (.ref b84), uS] [(.ref b84), (.ref b101), (.ref b101)])) rfl (by rw [hml]; rfl) (Steps.refl _) (a := b101) (argsL := [(.ref b84)]) (rest := [(.ref b101)]) (lenOf pd_7 rfl) rfl (by show 2 * 0 + _ ≤ _; exact Nat.le_of_eq rfl) (hb hby at_236) (fun _ _ => ⟨rfl, e101, (by decide : 3 + 1 ≤ _), (by decide : 12 + 3 ≤ _)⟩)
  dsimp only [Pt.U, Pt.locs, Pt.cells, Pt.slots] at X103 l103 y103 z103 st103 hQ103
  subst l103 y103 z103
  obtain ⟨rfl, N103q, K103, Ex103, Cd103, t103, kb103, lz103, lo103, tn103, Vf103, Av103⟩ := hQ103
  have N103 := Fr.app N99 N103q
  have S103 : Str Z T103.heap b101 t103 kb103 [cc3, cc7, cc11] := ⟨Ex103, Vf103, Cd103, Av103, hp106, Nat.le_of_ble_eq_true rfl⟩
  have hs107 : ∀ x ∈ ([b101] : List Addr), Safe Z EL s.vm h101 x := (allS sf101_b101 all0)
  have CR107 : CHr Z EL s.vm h0 s.vm T103.heap := CR102.trans (CHr.keep K103 hs107 CR102.1)
  have sf107_b101 : Safe Z EL s.vm T103.heap b101 := Safe.keep K103 hs107 CR102.1 sf101_b101
  refine Goes.tr st103 ?_
  show Goes _ _ _ _ (T103.setTop (mkF m 239 #[.val (.int p0), .val (.int p1), .val (.int p2), .val (.int p3), .val (.int p4), .val (.int p5), .val (.int (3 : Int32)), .val (.ref b1), .val (.ref b84), uS] [(.ref b101)]))
  have f108 : Arv Z T103.heap b1 k1 .char (5 : Int32) [(.int cc3), (.int cc7), (.int cc11), (.int cc15), (.int cc19)] (.int (0 : Int32)) := (((f96.other W99 (Nat.ne_of_lt (Nat.lt_of_lt_of_le A1.lt (Nat.le_trans (Nat.le_trans (Nat.le_trans (Nat.le_trans (Nat.le_trans (Nat.le_of_eq W5.size.symm) (Nat.le_of_eq W9.size.symm)) (Nat.le_of_eq W13.size.symm)) (Nat.le_of_eq W17.size.symm)) (Nat.le_of_eq W21.size.symm)) (Nat.le_of_eq g84.symm))))).ext E101).keep K103 (ninS (Nat.ne_of_lt (Nat.lt_of_lt_of_le A1.lt (Nat.le_trans (Nat.le_trans (Nat.le_trans (Nat.le_trans (Nat.le_trans (Nat.le_trans (Nat.le_trans (Nat.le_trans (Nat.le_trans (Nat.le_of_eq W5.size.symm) (Nat.le_of_eq W9.size.symm)) (Nat.le_of_eq W13.size.symm)) (Nat.le_of_eq W17.size.symm)) (Nat.le_of_eq W21.size.symm)) E84.1) (Nat.le_of_eq W89.size.symm)) (Nat.le_of_eq W94.size.symm)) (Nat.le_of_eq W99.size.symm)) (Nat.le_of_eq g101.symm)))) nin0))
  have Vc109 : Arv Z T103.heap b1 k1 .char (5 : Int32) ([cc3, cc7, cc11, cc15, cc19].map Value.int) (.int (0 : Int32)) := f108
  have f110 : Old Z n0 T103.heap := (f105.keep K103 (allS (Nat.le_trans Z0 (Nat.le_trans (Nat.le_trans (Nat.le_trans (Nat.le_trans (Nat.le_trans (Nat.le_trans (Nat.le_trans (Nat.le_trans (Nat.le_trans (Nat.le_trans E1.1 (Nat.le_of_eq W5.size.symm)) (Nat.le_of_eq W9.size.symm)) (Nat.le_of_eq W13.size.symm)) (Nat.le_of_eq W17.size.symm)) (Nat.le_of_eq W21.size.symm)) E84.1) (Nat.le_of_eq W89.size.symm)) (Nat.le_of_eq W94.size.symm)) (Nat.le_of_eq W99.size.symm)) (Nat.le_of_eq g101.symm))) all0))
  exact Jjt T103 T103.heap _ s.vm _ b101 t103 kb103 [cc3, cc7, cc11] [cc3, cc7, cc11, cc15, cc19] 3 (.val (.ref b84)) (X103.more (by decide) (by decide)) rfl N103 (Nat.le_trans Z0 (Nat.le_trans (Nat.le_trans (Nat.le_trans (Nat.le_trans (Nat.le_trans (Nat.le_trans (Nat.le_trans (Nat.le_trans (Nat.le_trans (Nat.le_trans (Nat.le_trans E1.1 (Nat.le_of_eq W5.size.symm)) (Nat.le_of_eq W9.size.symm)) (Nat.le_of_eq W13.size.symm)) (Nat.le_of_eq W17.size.symm)) (Nat.le_of_eq W21.size.symm)) E84.1) (Nat.le_of_eq W89.size.symm)) (Nat.le_of_eq W94.size.symm)) (Nat.le_of_eq W99.size.symm)) E101.1) K103.1)) hZ hown hS0 (Nat.le_trans (Nat.le_trans (Nat.le_trans (Nat.le_trans (Nat.le_trans (Nat.le_trans (Nat.le_trans (Nat.le_trans (Nat.le_trans (Nat.le_trans (Nat.le_trans (Nat.le_trans hk0 E1.1) (Nat.le_of_eq W5.size.symm)) (Nat.le_of_eq W9.size.symm)) (Nat.le_of_eq W13.size.symm)) (Nat.le_of_eq W17.size.symm)) (Nat.le_of_eq W21.size.symm)) E84.1) (Nat.le_of_eq W89.size.symm)) (Nat.le_of_eq W94.size.symm)) (Nat.le_of_eq W99.size.symm)) E101.1) K103.1) CR107 S103 Vc109 f110 (by decide) rfl rfl (Or.inr ⟨_, rfl, rfl⟩)
 ·skip
  show Goes _ _ _ _ (T21.setTop (mkF m 51 #[.val (.int p0), .val (.int p1), .val (.int p2), .val (.int p3), .val (.int p4), .val (.int p5), .val (.int (4 : Int32)), .val (.ref b1), uS, uS] []))
  refine Goes.st (fun sT kT => XS.iload X21.here hx rfl (hb hby at_51) rfl kT) ?_
  show Goes _ _ _ _ (T21.setTop (mkF m 53 #[.val (.int p0), .val (.int p1), .val (.int p2), .val (.int p3), .val (.int p4), .val (.int p5), .val (.int (4 : Int32)), .val (.ref b1), uS, uS] [(.int (4 : Int32))]))
  refine Goes.st (fun sT kT => XS.ifYes X21.here hx rfl (pc0 := 53) (pc' := 64) rfl (hb hby at_53) rfl ((if0 _ _).trans (feq (by decide : ¬ ((4 : Int32) = (0 : Int32)))).2) (by decide) (by decide) kT) ?_
  show Goes _ _ _ _ (T21.setTop (mkF m 64 #[.val (.int p0), .val (.int p1), .val (.int p2), .val (.int p3), .val (.int p4), .val (.int p5), .val (.int (4 : Int32)), .val (.ref b1), uS, uS] []))
  refine Goes.st (fun sT kT => XS.iload X21.here hx rfl (hb hby at_64) rfl kT) ?_
  show Goes _ _ _ _ (T21.setTop (mkF m 66 #[.val (.int p0), .val (.int p1), .val (.int p2), .val (.int p3), .val (.int p4), .val (.int p5), .val (.int (4 : Int32)), .val (.ref b1), uS, uS] [(.int (4 : Int32))]))
  refine Goes.st (fun sT kT => XS.iconst X21.here hx rfl (hb hby at_66) kT) ?_
  show Goes _ _ _ _ (T21.setTop (mkF m 67 #[.val (.int p0), .val (.int p1), .val (.int p2), .val (.int p3), .val (.int p4), .val (.int p5), .val (.int (4 : Int32)), .val (.ref b1), uS, uS] [(.int (1 : Int32)), (.int (4 : Int32))]))
  refine Goes.st (fun sT kT => XS.icmpYes X21.here hx rfl (pc0 := 67) (pc' := 85) rfl (hb hby at_67) rfl (feq (by decide : ¬ ((4 : Int32) = (1 : Int32)))).2 (by decide) (by decide) kT) ?_
  show Goes _ _ _ _ (T21.setTop (mkF m 85 #[.val (.int p0), .val (.int p1), .val (.int p2), .val (.int p3), .val (.int p4), .val (.int p5), .val (.int (4 : Int32)), .val (.ref b1), uS, uS] []))
  refine Goes.st (fun sT kT => XS.iload X21.here hx rfl (hb hby at_85) rfl kT) ?_
  show Goes _ _ _ _ (T21.setTop (mkF m 87 #[.val (.int p0), .val (.int p1), .val (.int p2), .val (.int p3), .val (.int p4), .val (.int p5), .val (.int (4 : Int32)), .val (.ref b1), uS, uS] [(.int (4 : Int32))]))
  refine Goes.st (fun sT kT => XS.iconst X21.here hx rfl (hb hby at_87) kT) ?_
  show Goes _ _ _ _ (T21.setTop (mkF m 88 #[.val (.int p0), .val (.int p1), .val (.int p2), .val (.int p3), .val (.int p4), .val (.int p5), .val (.int (4 : Int32)), .val (.ref b1), uS, uS] [(.int (2 : Int32)), (.int (4 : Int32))]))
  refine Goes.st (fun sT kT => XS.icmpYes X21.here hx rfl (pc0 := 88) (pc' := 113) rfl (hb hby at_88) rfl (feq (by decide : ¬ ((4 : Int32) = (2 : Int32)))).2 (by decide) (by decide) kT) ?_
  show Goes _ _ _ _ (T21.setTop (mkF m 113 #[.val (.int p0), .val (.int p1), .val (.int p2), .val (.int p3), .val (.int p4), .val (.int p5), .val (.int (4 : Int32)), .val (.ref b1), uS, uS] []))
  refine Goes.st (fun sT kT => XS.iload X21.here hx rfl (hb hby at_113) rfl kT) ?_
  show Goes _ _ _ _ (T21.setTop (mkF m 115 #[.val (.int p0), .val (.int p1), .val (.int p2), .val (.int p3), .val (.int p4), .val (.int p5), .val (.int (4 : Int32)), .val (.ref b1), uS, uS] [(.int (4 : Int32))]))
  refine Goes.st (fun sT kT => XS.iconst X21.here hx rfl (hb hby at_115) kT) ?_
  show Goes _ _ _ _ (T21.setTop (mkF m 116 #[.val (.int p0), .val (.int p1), .val (.int p2), .val (.int p3), .val (.int p4), .val (.int p5), .val (.int (4 : Int32)), .val (.ref b1), uS, uS] [(.int (3 : Int32)), (.int (4 : Int32))]))
  refine Goes.st (fun sT kT => XS.icmpYes X21.here hx rfl (pc0 := 116) (pc' := 148) rfl (hb hby at_116) rfl (feq (by decide : ¬ ((4 : Int32) = (3 : Int32)))).2 (by decide) (by decide) kT) ?_
  show Goes _ _ _ _ (T21.setTop (mkF m 148 #[.val (.int p0), .val (.int p1), .val (.int p2), .val (.int p3), .val (.int p4), .val (.int p5), .val (.int (4 : Int32)), .val (.ref b1), uS, uS] []))
  refine Goes.st (fun sT kT => XS.iload X21.here hx rfl (hb hby at_148) rfl kT) ?_
  show Goes _ _ _ _ (T21.setTop (mkF m 150 #[.val (.int p0), .val (.int p1), .val (.int p2), .val (.int p3), .val (.int p4), .val (.int p5), .val (.int (4 : Int32)), .val (.ref b1), uS, uS] [(.int (4 : Int32))]))
  refine Goes.st (fun sT kT => XS.iconst X21.here hx rfl (hb hby at_150) kT) ?_
  show Goes _ _ _ _ (T21.setTop (mkF m 151 #[.val (.int p0), .val (.int p1), .val (.int p2), .val (.int p3), .val (.int p4), .val (.int p5), .val (.int (4 : Int32)), .val (.ref b1), uS, uS] [(.int (4 : Int32)), (.int (4 : Int32))]))
  refine Goes.st (fun sT kT => XS.icmpNo X21.here hx rfl (hb hby at_151) rfl (teq (by decide : (4 : Int32) = (4 : Int32))).2 kT) ?_
  show Goes _ _ _ _ (T21.setTop (mkF m 154 #[.val (.int p0), .val (.int p1), .val (.int p2), .val (.int p3), .val (.int p4), .val (.int p5), .val (.int (4 : Int32)), .val (.ref b1), uS, uS] []))
  refine Goes.st (fun sT kT => XS.iconst X21.here hx rfl (hb hby at_154) kT) ?_
  show Goes _ _ _ _ (T21.setTop (mkF m 155 #[.val (.int p0), .val (.int p1), .val (.int p2), .val (.int p3), .val (.int p4), .val (.int p5), .val (.int (4 : Int32)), .val (.ref b1), uS, uS] [(.int (4 : Int32))]))
  obtain ⟨T111, h111, k111, X111, e111, E111, A111, st111⟩ := newP X21 hx hZ (aty := .char) (hw0 hw) e21 (g := (mkF m 155 #[.val (.int p0), .val (.int p1), .val (.int p2), .val (.int p3), .val (.int p4), .val (.int p5), .val (.int (4 : Int32)), .val (.ref b1), uS, uS] [(.int (4 : Int32))])) rfl (hb hby at_155) rfl (by decide) (cap := 4) (by decide) (by decide) (by decide) (by decide)
  obtain ⟨b111, g111⟩ : ∃ z, z = h21.size := ⟨_, rfl⟩
  rw [← g111] at A111 st111
  have CR112 : CHr Z EL s.vm h0 s.vm h111 := CR22.trans (CHr.ext E111 CR22.1)
  have V111 : Arv Z h111 b111 k111 .char (4 : Int32) [(.int (0 : Int32)), (.int (0 : Int32)), (.int (0 : Int32)), (.int (0 : Int32))] (.int (0 : Int32)) := (Arv.new A111 (by decide)).pad (pad_rep [] (.int (0 : Int32)) 4)
  refine Goes.st st111 ?_
  show Goes _ _ _ _ (T111.setTop (mkF m 157 #[.val (.int p0), .val (.int p1), .val (.int p2), .val (.int p3), .val (.int p4), .val (.int p5), .val (.int (4 : Int32)), .val (.ref b1), uS, uS] [(.ref b111)]))
  refine Goes.st (fun sT kT => XS.dup X111.here hx rfl (hb hby at_157) rfl rfl kT) ?_
  show Goes _ _ _ _ (T111.setTop (mkF m 158 #[.val (.int p0), .val (.int p1), .val (.int p2), .val (.int p3), .val (.int p4), .val (.int p5), .val (.int (4 : Int32)), .val (.ref b1), uS, uS] [(.ref b111), (.ref b111)]))
  refine Goes.st (fun sT kT => XS.iconst X111.here hx rfl (hb hby at_158) kT) ?_
  show Goes _ _ _ _ (T111.setTop (mkF m 159 #[.val (.int p0), .val (.int p1), .val (.int p2), .val (.int p3), .val (.int p4), .val (.int p5), .val (.int (4 : Int32)), .val (.ref b1), uS, uS] [(.int (0 : Int32)), (.ref b111), (.ref b111)]))
  refine Goes.st (fun sT kT => XS.aload X111.here hx rfl (hb hby at_159) rfl rfl kT) ?_
  show Goes _ _ _ _ (T111.setTop (mkF m 161 #[.val (.int p0), .val (.int p1), .val (.int p2), .val (.int p3), .val (.int p4), .val (.int p5), .val (.int (4 : Int32)), .val (.ref b1), uS, uS] [(.ref b1), (.int (0 : Int32)), (.ref b111), (.ref b111)]))
  refine Goes.st (fun sT kT => XS.iconst X111.here hx rfl (hb hby at_161) kT) ?_
  show Goes _ _ _ _ (T111.setTop (mkF m 162 #[.val (.int p0), .val (.int p1), .val (.int p2), .val (.int p3), .val (.int p4), .val (.int p5), .val (.int (4 : Int32)), .val (.ref b1), uS, uS] [(.int (0 : Int32)), (.ref b1), (.int (0 : Int32)), (.ref b111), (.ref b111)]))
  have f113 : Arv Z h111 b1 k1 .char (5 : Int32) [(.int cc3), (.int cc7), (.int cc11), (.int cc15), (.int cc19)] (.int (0 : Int32)) := (V21.ext E111)
  obtain ⟨oc114, oA114, oq114, oS114, oM114, oH114, oG114⟩ := id f113
  refine Goes.st (fun sT kT => X111.caload hx (j := (0 : Int32)) (v := (.int cc3)) (by rw [e111]; exact oA114.1) (State.isArrayOf_alike hZ.alike oA114.2.1) oA114.2.2 (inb_of oS114 ⟨by decide, by decide⟩) (oH114.at (inb_of oS114 ⟨by decide, by decide⟩) rfl) (g := (mkF m 162 #[.val (.int p0), .val (.int p1), .val (.int p2), .val (.int p3), .val (.int p4), .val (.int p5), .val (.int (4 : Int32)), .val (.ref b1), uS, uS] [(.int (0 : Int32)), (.ref b1), (.int (0 : Int32)), (.ref b111), (.ref b111)])) rfl rfl (hb hby at_162) _ kT) ?_
  show Goes _ _ _ _ (T111.setTop (mkF m 163 #[.val (.int p0), .val (.int p1), .val (.int p2), .val (.int p3), .val (.int p4), .val (.int p5), .val (.int (4 : Int32)), .val (.ref b1), uS, uS] [(.int cc3), (.int (0 : Int32)), (.ref b111), (.ref b111)]))
  obtain ⟨oc115, oA115, oq115, oS115, oM115, oH115, oG115⟩ := id V111
  obtain ⟨T116, h116, X116, e116, W116, st116⟩ := stC X111 hx hZ e111 oA115 (j := (0 : Int32)) (inb_of oS115 ⟨by decide, by decide⟩) (g := (mkF m 163 #[.val (.int p0), .val (.int p1), .val (.int p2), .val (.int p3), .val (.int p4), .val (.int p5), .val (.int (4 : Int32)), .val (.ref b1), uS, uS] [(.int cc3), (.int (0 : Int32)), (.ref b111), (.ref b111)])) rfl rfl (hb hby at_163)
  rw [own_narc rg_3] at W116
  have V116 : Arv Z h116 b111 k111 .char (4 : Int32) [(.int cc3), (.int (0 : Int32)), (.int (0 : Int32)), (.int (0 : Int32))] (.int (0 : Int32)) := Arv.set oA115 oq115 oS115 oM115 oH115 oG115 (own_fitsc rg_3) W116 0 rfl (Nat.le_of_ble_eq_true rfl)
  have N116 := Fr.snoc X116 N21 (Nat.le_trans Z0 (Nat.le_trans (Nat.le_trans (Nat.le_trans (Nat.le_trans (Nat.le_trans (Nat.le_trans E1.1 (Nat.le_of_eq W5.size.symm)) (Nat.le_of_eq W9.size.symm)) (Nat.le_of_eq W13.size.symm)) (Nat.le_of_eq W17.size.symm)) (Nat.le_of_eq W21.size.symm)) (Nat.le_of_eq g111.symm)))
  have CR117 : CHr Z EL s.vm h0 s.vm h116 := CR112.trans (CHr.wr W116 (own_safeArv hZ.alike V111 (by simp)) CR112.1)
  refine Goes.st st116 ?_
  show Goes _ _ _ _ (T116.setTop (mkF m 164 #[.val (.int p0), .val (.int p1), .val (.int p2), .val (.int p3), .val (.int p4), .val (.int p5), .val (.int (4 : Int32)), .val (.ref b1), uS, uS] [(.ref b111)]))
  refine Goes.st (fun sT kT => XS.dup X116.here hx rfl (hb hby at_164) rfl rfl kT) ?_
  show Goes _ _ _ _ (T116.setTop (mkF m 165 #[.val (.int p0), .val (.int p1), .val (.int p2), .val (.int p3), .val (.int p4), .val (.int p5), .val (.int (4 : Int32)), .val (.ref b1), uS, uS] [(.ref b111), (.ref b111)]))
  refine Goes.st (fun sT kT => XS.iconst X116.here hx rfl (hb hby at_165) kT) ?_
  show Goes _ _ _ _ (T116.setTop (mkF m 166 #[.val (.int p0), .val (.int p1), .val (.int p2), .val (.int p3), .val (.int p4), .val (.int p5), .val (.int (4 : Int32)), .val (.ref b1), uS, uS] [(.int (1 : Int32)), (.ref b111), (.ref b111)]))
  refine Goes.st (fun sT kT => XS.aload X116.here hx rfl (hb hby at_166) rfl rfl kT) ?_
  show Goes _ _ _ _ (T116.setTop (mkF m 168 #[.val (.int p0), .val (.int p1), .val (.int p2), .val (.int p3), .val (.int p4), .val (.int p5), .val (.int (4 : Int32)), .val (.ref b1), uS, uS] [(.ref b1), (.int (1 : Int32)), (.ref b111), (.ref b111)]))
  refine Goes.st (fun sT kT => XS.iconst X116.here hx rfl (hb hby at_168) kT) ?_
  show Goes _ _ _ _ (T116.setTop (mkF m 169 #[.val (.int p0), .val (.int p1), .val (.int p2), .val (.int p3), .val (.int p4), .val (.int p5), .val (.int (4 : Int32)), .val (.ref b1), uS, uS] [(.int (1 : Int32)), (.ref b1), (.int (1 : Int32)), (.ref b111), (.ref b111)]))
  have f118 : Arv Z h116 b1 k1 .char (5 : Int32) [(.int cc3), (.int cc7), (.int cc11), (.int cc15), (.int cc19)] (.int (0 : Int32)) := (f113.other W116 (Nat.ne_of_lt (Nat.lt_of_lt_of_le A1.lt (Nat.le_trans (Nat.le_trans (Nat.le_trans (Nat.le_trans (Nat.le_trans (Nat.le_of_eq W5.size.symm) (Nat.le_of_eq W9.size.symm)) (Nat.le_of_eq W13.size.symm)) (Nat.le_of_eq W17.size.symm)) (Nat.le_of_eq W21.size.symm)) (Nat.le_of_eq g111.symm)))))
  obtain ⟨oc119, oA119, oq119, oS119, oM119, oH119, oG119⟩ := id f118
  refine Goes.st (fun sT kT => X116.caload hx (j := (1 : Int32)) (v := (.int cc7)) (by rw [e116]; exact oA119.1) (State.isArrayOf_alike hZ.alike oA119.2.1) oA119.2.2 (inb_of oS119 ⟨by decide, by decide⟩) (oH119.at (inb_of oS119 ⟨by decide, by decide⟩) rfl) (g := (mkF m 169 #[.val (.int p0), .val (.int p1), .val (.int p2), .val (.int p3), .val (.int p4), .val (.int p5), .val (.int (4 : Int32)), .val (.ref b1), uS, uS] [(.int (1 : Int32)), (.ref b1), (.int (1 : Int32)), (.ref b111), (.ref b111)])) rfl rfl (hb hby at_169) _ kT) ?_
  show Goes _ _ _ _ (T116.setTop (mkF m 170 #[.val (.int p0), .val (.int p1), .val (.int p2), .val (.int p3), .val (.int p4), .val (.int p5), .val (.int (4 : Int32)), .val (.ref b1), uS, uS] [(.int cc7), (.int (1 : Int32)), (.ref b111), (.ref b111)]))
  obtain ⟨oc120, oA120, oq120, oS120, oM120, oH120, oG120⟩ := id V116
  obtain ⟨T121, h121, X121, e121, W121, st121⟩ := stC X116 hx hZ e116 oA120 (j := (1 : Int32)) (inb_of oS120 ⟨by decide, by decide⟩) (g := (mkF m 170 #[.val (.int p0), .val (.int p1), .val (.int p2), .val (.int p3), .val (.int p4), .val (.int p5), .val (.int (4 : Int32)), .val (.ref b1), uS, uS] [(.int cc7), (.int (1 : Int32)), (.ref b111), (.ref b111)])) rfl rfl (hb hby at_170)
  rw [own_narc rg_7] at W121
  have V121 : Arv Z h121 b111 k111 .char (4 : Int32) [(.int cc3), (.int cc7), (.int (0 : Int32)), (.int (0 : Int32))] (.int (0 : Int32)) := Arv.set oA120 oq120 oS120 oM120 oH120 oG120 (own_fitsc rg_7) W121 1 rfl (Nat.le_of_ble_eq_true rfl)
  have N121 := Fr.snoc X121 N116 (Nat.le_trans Z0 (Nat.le_trans (Nat.le_trans (Nat.le_trans (Nat.le_trans (Nat.le_trans (Nat.le_trans E1.1 (Nat.le_of_eq W5.size.symm)) (Nat.le_of_eq W9.size.symm)) (Nat.le_of_eq W13.size.symm)) (Nat.le_of_eq W17.size.symm)) (Nat.le_of_eq W21.size.symm)) (Nat.le_of_eq g111.symm)))
  have CR122 : CHr Z EL s.vm h0 s.vm h121 := CR117.trans (CHr.wr W121 (own_safeArv hZ.alike V116 (by simp)) CR117.1)
  refine Goes.st st121 ?_
  show Goes _ _ _ _ (T121.setTop (mkF m 171 #[.val (.int p0), .val (.int p1), .val (.int p2), .val (.int p3), .val (.int p4), .val (.int p5), .val (.int (4 : Int32)), .val (.ref b1), uS, uS] [(.ref b111)]))
  refine Goes.st (fun sT kT => XS.dup X121.here hx rfl (hb hby at_171) rfl rfl kT) ?_
  show Goes _ _ _ _ (T121.setTop (mkF m 172 #[.val (.int p0), .val (.int p1), .val (.int p2), .val (.int p3), .val (.int p4), .val (.int p5), .val (.int (4 : Int32)), .val (.ref b1), uS, uS] [(.ref b111), (.ref b111)]))
  refine Goes.st (fun sT kT => XS.iconst X121.here hx rfl (hb hby at_172) kT) ?_
  show Goes _ _ _ _ (T121.setTop (mkF m 173 #[.val (.int p0), .val (.int p1), .val (.int p2), .val (.int p3), .val (.int p4), .val (.int p5), .val (.int (4 : Int32)), .val (.ref b1), uS, uS] [(.int (2 : Int32)), (.ref b111), (.ref b111)]))
  refine Goes.st (fun sT kT => XS.aload X121.here hx rfl (hb hby at_173) rfl rfl kT) ?_
  show Goes _ _ _ _ (T121.setTop (mkF m 175 #[.val (.int p0), .val (.int p1), .val (.int p2), .val (.int p3), .val (.int p4), .val (.int p5), .val (.int (4 : Int32)), .val (.ref b1), uS, uS] [(.ref b1), (.int (2 : Int32)), (.ref b111), (.ref b111)]))
  refine Goes.st (fun sT kT => XS.iconst X121.here hx rfl (hb hby at_175) kT) ?_
  show Goes _ _ _ _ (T121.setTop (mkF m 176 #[.val (.int p0), .val (.int p1), .val (.int p2), .val (.int p3), .val (.int p4), .val (.int p5), .val (.int (4 : Int32)), .val (.ref b1), uS, uS] [(.int (2 : Int32)), (.ref b1), (.int (2 : Int32)), (.ref b111), (.ref b111)]))
  have f123 : Arv Z h121 b1 k1 .char (5 : Int32) [(.int cc3), (.int cc7), (.int cc11), (.int cc15), (.int cc19)] (.int (0 : Int32)) := (f118.other W121 (Nat.ne_of_lt (Nat.lt_of_lt_of_le A1.lt (Nat.le_trans (Nat.le_trans (Nat.le_trans (Nat.le_trans (Nat.le_trans (Nat.le_of_eq W5.size.symm) (Nat.le_of_eq W9.size.symm)) (Nat.le_of_eq W13.size.symm)) (Nat.le_of_eq W17.size.symm)) (Nat.le_of_eq W21.size.symm)) (Nat.le_of_eq g111.symm)))))
  obtain ⟨oc124, oA124, oq124, oS124, oM124, oH124, oG124⟩ := id f123
  refine Goes.st (fun sT kT => X121.caload hx (j := (2 : Int32)) (v := (.int cc11)) (by rw [e121]; exact oA124.1) (State.isArrayOf_alike hZ.alike oA124.2.1) oA124.2.2 (inb_of oS124 ⟨by decide, by decide⟩) (oH124.at (inb_of oS124 ⟨by decide, by decide⟩) rfl) (g := (mkF m 176 #[.val (.int p0), .val (.int p1), .val (.int p2), .val (.int p3), .val (.int p4), .val (.int p5), .val (.int (4 : Int32)), .val (.ref b1), uS, uS] [(.int (2 : Int32)), (.ref b1), (.int (2 : Int32)), (.ref b111), (.ref b111)])) rfl rfl (hb hby at_176) _ kT) ?_
  show Goes _ _ _ _ (T121.setTop (mkF m 177 #[.val (.int p0), .val (.int p1), .val (.int p2), .val (.int p3), .val (.int p4), .val (.int p5), .val (.int (4 : Int32)), .val (.ref b1), uS, uS] [(.int cc11), (.int (2 : Int32)), (.ref b111), (.ref b111)]))
  obtain ⟨oc125, oA125, oq125, oS125, oM125, oH125, oG125⟩ := id V121
  obtain ⟨T126, h126, X126, e126, W126, st126⟩ := stC X121 hx hZ e121 oA125 (j := (2 : Int32)) (inb_of oS125 ⟨by decide, by decide⟩) (g := (mkF m 177 #[.val (.int p0), .val (.int p1), .val (.int p2), .val (.int p3), .val (.int p4), .val (.int p5), .val (.int (4 : Int32)), .val (.ref b1), uS, uS] [(.int cc11), (.int (2 : Int32)), (.ref b111), (.ref b111)])) rfl rfl (hb hby at_177)
  rw [own_narc rg_11] at W126
  have V126 : Arv Z h126 b111 k111 .char (4 : Int32) [(.int cc3), (.int cc7), (.int cc11), (.int (0 : Int32))] (.int (0 : Int32)) := Arv.set oA125 oq125 oS125 oM125 oH125 oG125 (own_fitsc rg_11) W126 2 rfl (Nat.le_of_ble_eq_true rfl)
  have N126 := Fr.snoc X126 N121 (Nat.le_trans Z0 (Nat.le_trans (Nat.le_trans (Nat.le_trans (Nat.le_trans (Nat.le_trans (Nat.le_trans E1.1 (Nat.le_of_eq W5.size.symm)) (Nat.le_of_eq W9.size.symm)) (Nat.le_of_eq W13.size.symm)) (Nat.le_of_eq W17.size.symm)) (Nat.le_of_eq W21.size.symm)) (Nat.le_of_eq g111.symm)))
  have CR127 : CHr Z EL s.vm h0 s.vm h126 := CR122.trans (CHr.wr W126 (own_safeArv hZ.alike V121 (by simp)) CR122.1)
  refine Goes.st st126 ?_
  show Goes _ _ _ _ (T126.setTop (mkF m 178 #[.val (.int p0), .val (.int p1), .val (.int p2), .val (.int p3), .val (.int p4), .val (.int p5), .val (.int (4 : Int32)), .val (.ref b1), uS, uS] [(.ref b111)]))
  refine Goes.st (fun sT kT => XS.dup X126.here hx rfl (hb hby at_178) rfl rfl kT) ?_
  show Goes _ _ _ _ (T126.setTop (mkF m 179 #[.val (.int p0), .val (.int p1), .val (.int p2), .val (.int p3), .val (.int p4), .val (.int p5), .val (.int (4 : Int32)), .val (.ref b1), uS, uS] [(.ref b111), (.ref b111)]))
  refine Goes.st (fun sT kT => XS.iconst X126.here hx rfl (hb hby at_179) kT) ?_
  show Goes _ _ _ _ (T126.setTop (mkF m 180 #[.val (.int p0), .val (.int p1), .val (.int p2), .val (.int p3), .val (.int p4), .val (.int p5), .val (.int (4 : Int32)), .val (.ref b1), uS, uS] [(.int (3 : Int32)), (.ref b111), (.ref b111)]))
  refine Goes.st (fun sT kT => XS.aload X126.here hx rfl (hb hby at_180) rfl rfl kT) ?_
  show Goes _ _ _ _ (T126.setTop (mkF m 182 #[.val (.int p0), .val (.int p1), .val (.int p2), .val (.int p3), .val (.int p4), .val (.int p5), .val (.int (4 : Int32)), .val (.ref b1), uS, uS] [(.ref b1), (.int (3 : Int32)), (.ref b111), (.ref b111)]))
  refine Goes.st (fun sT kT => XS.iconst X126.here hx rfl (hb hby at_182) kT) ?_
  show Goes _ _ _ _ (T126.setTop (mkF m 183 #[.val (.int p0), .val (.int p1), .val (.int p2), .val (.int p3), .val (.int p4), .val (.int p5), .val (.int (4 : Int32)), .val (.ref b1), uS, uS] [(.int (3 : Int32)), (.ref b1), (.int (3 : Int32)), (.ref b111), (.ref b111)]))
  have f128 : Arv Z h126 b1 k1 .char (5 : Int32) [(.int cc3), (.int cc7), (.int cc11), (.int cc15), (.int cc19)] (.int (0 : Int32)) := (f123.other W126 (Nat.ne_of_lt (Nat.lt_of_lt_of_le A1.lt (Nat.le_trans (Nat.le_trans (Nat.le_trans (Nat.le_trans (Nat.le_trans (Nat.le_of_eq W5.size.symm) (Nat.le_of_eq W9.size.symm)) (Nat.le_of_eq W13.size.symm)) (Nat.le_of_eq W17.size.symm)) (Nat.le_of_eq W21.size.symm)) (Nat.le_of_eq g111.symm)))))
  obtain ⟨oc129, oA129, oq129, oS129, oM129, oH129, oG129⟩ := id f128
  refine Goes.st (fun sT kT => X126.caload hx (j := (3 : Int32)) (v := (.int cc15)) (by rw [e126]; exact oA129.1) (State.isArrayOf_alike hZ.alike oA129.2.1) oA129.2.2 (inb_of oS129 ⟨by decide, by decide⟩) (oH129.at (inb_of oS129 ⟨by decide, by decide⟩) rfl) (g := (mkF m 183 #[.val (.int p0), .val (.int p1), .val (.int p2), .val (.int p3), .val (.int p4), .val (.int p5), .val (.int (4 : Int32)), .val (.ref b1), uS, uS] [(.int (3 : Int32)), (.ref b1), (.int (3 : Int32)), (.ref b111), (.ref b111)])) rfl rfl (hb hby at_183) _ kT) ?_
  show Goes _ _ _ _ (T126.setTop (mkF m 184 #[.val (.int p0), .val (.int p1), .val (.int p2), .val (.int p3), .val (.int p4), .val (.int p5), .val (.int (4 : Int32)), .val (.ref b1), uS, uS] [(.int cc15), (.int (3 : Int32)), (.ref b111), (.ref b111)]))
  obtain ⟨oc130, oA130, oq130, oS130, oM130, oH130, oG130⟩ := id V126
  obtain ⟨T131, h131, X131, e131, W131, st131⟩ := stC X126 hx hZ e126 oA130 (j := (3 : Int32)) (inb_of oS130 ⟨by decide, by decide⟩) (g := (mkF m 184 #[.val (.int p0), .val (.int p1), .val (.int p2), .val (.int p3), .val (.int p4), .val (.int p5), .val (.int (4 : Int32)), .val (.ref b1), uS, uS] [(.int cc15), (.int (3 : Int32)), (.ref b111), (.ref b111)])) rfl rfl (hb hby at_184)
  rw [own_narc rg_15] at W131
  have V131 : Arv Z h131 b111 k111 .char (4 : Int32) [(.int cc3), (.int cc7), (.int cc11), (.int cc15)] (.int (0 : Int32)) := Arv.set oA130 oq130 oS130 oM130 oH130 oG130 (own_fitsc rg_15) W131 3 rfl (Nat.le_of_ble_eq_true rfl)
  have N131 := Fr.snoc X131 N126 (Nat.le_trans Z0 (Nat.le_trans (Nat.le_trans (Nat.le_trans (Nat.le_trans (Nat.le_trans (Nat.le_trans E1.1 (Nat.le_of_eq W5.size.symm)) (Nat.le_of_eq W9.size.symm)) (Nat.le_of_eq W13.size.symm)) (Nat.le_of_eq W17.size.symm)) (Nat.le_of_eq W21.size.symm)) (Nat.le_of_eq g111.symm)))
  have CR132 : CHr Z EL s.vm h0 s.vm h131 := CR127.trans (CHr.wr W131 (own_safeArv hZ.alike V126 (by simp)) CR127.1)
  refine Goes.st st131 ?_
  show Goes _ _ _ _ (T131.setTop (mkF m 185 #[.val (.int p0), .val (.int p1), .val (.int p2), .val (.int p3), .val (.int p4), .val (.int p5), .val (.int (4 : Int32)), .val (.ref b1), uS, uS] [(.ref b111)]))
  refine Goes.st (fun sT kT => XS.astore X131.here hx rfl (hb hby at_185) rfl rfl (l' := #[.val (.int p0), .val (.int p1), .val (.int p2), .val (.int p3), .val (.int p4), .val (.int p5), .val (.int (4 : Int32)), .val (.ref b1), .val (.ref b111), uS]) rfl kT) ?_
  show Goes _ _ _ _ (T131.setTop (mkF m 187 #[.val (.int p0), .val (.int p1), .val (.int p2), .val (.int p3), .val (.int p4), .val (.int p5), .val (.int (4 : Int32)), .val (.ref b1), .val (.ref b111), uS] []))
  refine Goes.st (fun sT kT => XS.goto X131.here hx rfl (pc0 := 187) (pc' := 230) rfl (hb hby at_187) (by decide) (by decide) kT) ?_
  show Goes _ _ _ _ (T131.setTop (mkF m 230 #[.val (.int p0), .val (.int p1), .val (.int p2), .val (.int p3), .val (.int p4), .val (.int p5), .val (.int (4 : Int32)), .val (.ref b1), .val (.ref b111), uS] []))
  obtain ⟨T133, h133, X133, e133, E133, A133, D133, -, st133⟩ := newO X131 hx hZ hown (hw5 hw) (hw6 hw) (hw7 hw) e131 (g := (mkF m 230 #[.val (.int p0), .val (.int p1), .val (.int p2), .val (.int p3), .val (.int p4), .val (.int p5), .val (.int (4 : Int32)), .val (.ref b1), .val (.ref b111), uS] [])) rfl (hb hby at_230) (by decide) (by decide)
  obtain ⟨b133, g133⟩ : ∃ z, z = h131.size := ⟨_, rfl⟩
  rw [← g133] at A133 D133 st133
  have CR134 : CHr Z EL s.vm h0 s.vm h133 := CR132.trans (CHr.ext E133 CR132.1)
  have sf133_b133 : Safe Z EL s.vm h133 b133 := Safe.ext E133 CR132.1 (Safe.new (Nat.le_of_eq g133.symm))
  have F133_value : Fld Z h133 b133 "java/lang/String" "value" "[B" .null := D133 (Or.inr (hw20 hw)) (ty := (.array .byte)) (by decide)
  have F133_coder : Fld Z h133 b133 "java/lang/String" "coder" "B" (.int (0 : Int32)) := D133 (Or.inr (hw21 hw)) (ty := .byte) (by decide)
  refine Goes.st st133 ?_
  show Goes _ _ _ _ (T133.setTop (mkF m 233 #[.val (.int p0), .val (.int p1), .val (.int p2), .val (.int p3), .val (.int p4), .val (.int p5), .val (.int (4 : Int32)), .val (.ref b1), .val (.ref b111), uS] [(.ref b133)]))
  refine Goes.st (fun sT kT => XS.dup X133.here hx rfl (hb hby at_233) rfl rfl kT) ?_
  show Goes _ _ _ _ (T133.setTop (mkF m 234 #[.val (.int p0), .val (.int p1), .val (.int p2), .val (.int p3), .val (.int p4), .val (.int p5), .val (.int (4 : Int32)), .val (.ref b1), .val (.ref b111), uS] [(.ref b133), (.ref b133)]))
  refine Goes.st (fun sT kT => XS.aload X133.here hx rfl (hb hby at_234) rfl rfl kT) ?_
  show Goes _ _ _ _ (T133.setTop (mkF m 236 #[.val (.int p0), .val (.int p1), .val (.int p2), .val (.int p3), .val (.int p4), .val (.int p5), .val (.int (4 : Int32)), .val (.ref b1), .val (.ref b111), uS] [(.ref b111), (.ref b133), (.ref b133)]))
  have f136 : Arv Z h133 b111 k111 .char (4 : Int32) [(.int cc3), (.int cc7), (.int cc11), (.int cc15)] (.int (0 : Int32)) := (V131.ext E133)
  have f137 : Old Z n0 h133 := ((((((((((((P0.ext E1).wr W5 nb).wr W9 nb).wr W13 nb).wr W17 nb).wr W21 nb).ext E111).wr W116 (Nat.le_trans Z0 (Nat.le_trans (Nat.le_trans (Nat.le_trans (Nat.le_trans (Nat.le_trans (Nat.le_trans E1.1 (Nat.le_of_eq W5.size.symm)) (Nat.le_of_eq W9.size.symm)) (Nat.le_of_eq W13.size.symm)) (Nat.le_of_eq W17.size.symm)) (Nat.le_of_eq W21.size.symm)) (Nat.le_of_eq g111.symm)))).wr W121 (Nat.le_trans Z0 (Nat.le_trans (Nat.le_trans (Nat.le_trans (Nat.le_trans (Nat.le_trans (Nat.le_trans E1.1 (Nat.le_of_eq W5.size.symm)) (Nat.le_of_eq W9.size.symm)) (Nat.le_of_eq W13.size.symm)) (Nat.le_of_eq W17.size.symm)) (Nat.le_of_eq W21.size.symm)) (Nat.le_of_eq g111.symm)))).wr W126 (Nat.le_trans Z0 (Nat.le_trans (Nat.le_trans (Nat.le_trans (Nat.le_trans (Nat.le_trans (Nat.le_trans E1.1 (Nat.le_of_eq W5.size.symm)) (Nat.le_of_eq W9.size.symm)) (Nat.le_of_eq W13.size.symm)) (Nat.le_of_eq W17.size.symm)) (Nat.le_of_eq W21.size.symm)) (Nat.le_of_eq g111.symm)))).wr W131 (Nat.le_trans Z0 (Nat.le_trans (Nat.le_trans (Nat.le_trans (Nat.le_trans (Nat.le_trans (Nat.le_trans E1.1 (Nat.le_of_eq W5.size.symm)) (Nat.le_of_eq W9.size.symm)) (Nat.le_of_eq W13.size.symm)) (Nat.le_of_eq W17.size.symm)) (Nat.le_of_eq W21.size.symm)) (Nat.le_of_eq g111.symm)))).ext E133)
  have hp138 : ∀ c ∈ ([cc3, cc7, cc11, cc15] : List Int32), ¬ c < 0 ∧ ¬ (255 : Int32) < c := (own_cS rg_3 (own_cS rg_7 (own_cS rg_11 (own_cS rg_15 own_c0))))
  obtain ⟨_, _, ⟨T135, L135, k135, n135⟩, -, X135, ⟨Lc135, hQ135, l135, y135, z135⟩, st135⟩ := X133.specialBack hx (y := (⟨"java/lang/String", "<init>", "([C)V"⟩ : MethodName)) rfl hown (mvT hZ (hw8 hw)) (mvT hZ (hw9 hw)) (mvT hZ (hw10 hw)) (by decide) (StrChars.Road.backV (W := 1) hZ (own_hws hw) (kI := 4) (hw6 hw) (cs := ([cc3, cc7, cc11, cc15] : List Int32)) (bs := ([cc3, cc7, cc11, cc15] : List Int32).map (fun c => c.toInt8.toInt32)) (n := 4) (Nat.le_trans Z0 (Nat.le_trans (Nat.le_trans (Nat.le_trans (Nat.le_trans (Nat.le_trans (Nat.le_trans (Nat.le_trans (Nat.le_trans (Nat.le_trans (Nat.le_trans (Nat.le_trans E1.1 (Nat.le_of_eq W5.size.symm)) (Nat.le_of_eq W9.size.symm)) (Nat.le_of_eq W13.size.symm)) (Nat.le_of_eq W17.size.symm)) (Nat.le_of_eq W21.size.symm)) E111.1) (Nat.le_of_eq W116.size.symm)) (Nat.le_of_eq W121.size.symm)) (Nat.le_of_eq W126.size.symm)) (Nat.le_of_eq W131.size.symm)) (Nat.le_of_eq g133.symm))) (Nat.le_trans Z0 (Nat.le_trans (Nat.le_trans (Nat.le_trans (Nat.le_trans (Nat.le_trans (Nat.le_trans (Nat.le_trans (Nat.le_trans (Nat.le_trans (Nat.le_trans (Nat.le_trans E1.1 (Nat.le_of_eq W5.size.symm)) (Nat.le_of_eq W9.size.symm)) (Nat.le_of_eq W13.size.symm)) (Nat.le_of_eq W17.size.symm)) (Nat.le_of_eq W21.size.symm)) E111.1) (Nat.le_of_eq W116.size.symm)) (Nat.le_of_eq W121.size.symm)) (Nat.le_of_eq W126.size.symm)) (Nat.le_of_eq W131.size.symm)) E133.1)) A133 F133_value F133_coder f136 (O2.ext f137.2) P5 rfl rfl (by decide) (by decide) hp138 rfl (by decide) (by decide)) (g := (mkF m 236 #[.val (.int p0), .val (.int p1), .val (.int p2), .val (.int p3), .val (.int p4), .val (.int p5), .val (.int (4 : Int32)), .val (.ref b1), .val (.ref b111), uS] [(.ref b111), (.ref b133), (.ref b133)])) rfl (by rw [hml]; rfl) (Steps.refl _) (a := b133) (argsL := [(.ref b111)]) (rest := [(.ref b133)]) (lenOf pd_7 rfl) rfl (by show 2 * 0 + _ ≤ _; exact Nat.le_of_eq rfl) (hb hby at_236) (fun _ _ => ⟨rfl, e133, (by decide : 3 + 1 ≤ _), (by decide : 13 + 4 ≤ _)⟩)
  dsimp only [Pt.U, Pt.locs, Pt.cells, Pt.slots] at X135 l135 y135 z135 st135 hQ135
  subst l135 y135 z135
  obtain ⟨rfl, N135q, K135, Ex135, Cd135, t135, kb135, lz135, lo135, tn135, Vf135, Av135⟩ := hQ135
  have N135 := Fr.app N131 N135q
  have S135 : Str Z T135.heap b133 t135 kb135 [cc3, cc7, cc11, cc15] := ⟨Ex135, Vf135, Cd135, Av135, hp138, Nat.le_of_ble_eq_true rfl⟩
  have hs139 : ∀ x ∈ ([b133] : List Addr), Safe Z EL s.vm h133 x := (allS sf133_b133 all0)
  have CR139 : CHr Z EL s.vm h0 s.vm T135.heap := CR134.trans (CHr.keep K135 hs139 CR134.1)
  have sf139_b133 : Safe Z EL s.vm T135.heap b133 := Safe.keep K135 hs139 CR134.1 sf133_b133
  refine Goes.tr st135 ?_
  show Goes _ _ _ _ (T135.setTop (mkF m 239 #[.val (.int p0), .val (.int p1), .val (.int p2), .val (.int p3), .val (.int p4), .val (.int p5), .val (.int (4 : Int32)), .val (.ref b1), .val (.ref b111), uS] [(.ref b133)]))
  have f140 : Arv Z T135.heap b1 k1 .char (5 : Int32) [(.int cc3), (.int cc7), (.int cc11), (.int cc15), (.int cc19)] (.int (0 : Int32)) := (((f128.other W131 (Nat.ne_of_lt (Nat.lt_of_lt_of_le A1.lt (Nat.le_trans (Nat.le_trans (Nat.le_trans (Nat.le_trans (Nat.le_trans (Nat.le_of_eq W5.size.symm) (Nat.le_of_eq W9.size.symm)) (Nat.le_of_eq W13.size.symm)) (Nat.le_of_eq W17.size.symm)) (Nat.le_of_eq W21.size.symm)) (Nat.le_of_eq g111.symm))))).ext E133).keep K135 (ninS (Nat.ne_of_lt (Nat.lt_of_lt_of_le A1.lt (Nat.le_trans (Nat.le_trans (Nat.le_trans (Nat.le_trans (Nat.le_trans (Nat.le_trans (Nat.le_trans (Nat.le_trans (Nat.le_trans (Nat.le_trans (Nat.le_of_eq W5.size.symm) (Nat.le_of_eq W9.size.symm)) (Nat.le_of_eq W13.size.symm)) (Nat.le_of_eq W17.size.symm)) (Nat.le_of_eq W21.size.symm)) E111.1) (Nat.le_of_eq W116.size.symm)) (Nat.le_of_eq W121.size.symm)) (Nat.le_of_eq W126.size.symm)) (Nat.le_of_eq W131.size.symm)) (Nat.le_of_eq g133.symm)))) nin0))
  have Vc141 : Arv Z T135.heap b1 k1 .char (5 : Int32) ([cc3, cc7, cc11, cc15, cc19].map Value.int) (.int (0 : Int32)) := f140
  have f142 : Old Z n0 T135.heap := (f137.keep K135 (allS (Nat.le_trans Z0 (Nat.le_trans (Nat.le_trans (Nat.le_trans (Nat.le_trans (Nat.le_trans (Nat.le_trans (Nat.le_trans (Nat.le_trans (Nat.le_trans (Nat.le_trans (Nat.le_trans E1.1 (Nat.le_of_eq W5.size.symm)) (Nat.le_of_eq W9.size.symm)) (Nat.le_of_eq W13.size.symm)) (Nat.le_of_eq W17.size.symm)) (Nat.le_of_eq W21.size.symm)) E111.1) (Nat.le_of_eq W116.size.symm)) (Nat.le_of_eq W121.size.symm)) (Nat.le_of_eq W126.size.symm)) (Nat.le_of_eq W131.size.symm)) (Nat.le_of_eq g133.symm))) all0))
  exact Jjt T135 T135.heap _ s.vm _ b133 t135 kb135 [cc3, cc7, cc11, cc15] [cc3, cc7, cc11, cc15, cc19] 4 (.val (.ref b111)) (X135.more (by decide) (by decide)) rfl N135 (Nat.le_trans Z0 (Nat.le_trans (Nat.le_trans (Nat.le_trans (Nat.le_trans (Nat.le_trans (Nat.le_trans (Nat.le_trans (Nat.le_trans (Nat.le_trans (Nat.le_trans (Nat.le_trans (Nat.le_trans E1.1 (Nat.le_of_eq W5.size.symm)) (Nat.le_of_eq W9.size.symm)) (Nat.le_of_eq W13.size.symm)) (Nat.le_of_eq W17.size.symm)) (Nat.le_of_eq W21.size.symm)) E111.1) (Nat.le_of_eq W116.size.symm)) (Nat.le_of_eq W121.size.symm)) (Nat.le_of_eq W126.size.symm)) (Nat.le_of_eq W131.size.symm)) E133.1) K135.1)) hZ hown hS0 (Nat.le_trans (Nat.le_trans (Nat.le_trans (Nat.le_trans (Nat.le_trans (Nat.le_trans (Nat.le_trans (Nat.le_trans (Nat.le_trans (Nat.le_trans (Nat.le_trans (Nat.le_trans (Nat.le_trans hk0 E1.1) (Nat.le_of_eq W5.size.symm)) (Nat.le_of_eq W9.size.symm)) (Nat.le_of_eq W13.size.symm)) (Nat.le_of_eq W17.size.symm)) (Nat.le_of_eq W21.size.symm)) E111.1) (Nat.le_of_eq W116.size.symm)) (Nat.le_of_eq W121.size.symm)) (Nat.le_of_eq W126.size.symm)) (Nat.le_of_eq W131.size.symm)) E133.1) K135.1) CR139 S135 Vc141 f142 (by decide) rfl rfl (Or.inr ⟨_, rfl, rfl⟩)
 ·skip
  show Goes _ _ _ _ (T21.setTop (mkF m 51 #[.val (.int p0), .val (.int p1), .val (.int p2), .val (.int p3), .val (.int p4), .val (.int p5), .val (.int (5 : Int32)), .val (.ref b1), uS, uS] []))
  refine Goes.st (fun sT kT => XS.iload X21.here hx rfl (hb hby at_51) rfl kT) ?_
  show Goes _ _ _ _ (T21.setTop (mkF m 53 #[.val (.int p0), .val (.int p1), .val (.int p2), .val (.int p3), .val (.int p4), .val (.int p5), .val (.int (5 : Int32)), .val (.ref b1), uS, uS] [(.int (5 : Int32))]))
  refine Goes.st (fun sT kT => XS.ifYes X21.here hx rfl (pc0 := 53) (pc' := 64) rfl (hb hby at_53) rfl ((if0 _ _).trans (feq (by decide : ¬ ((5 : Int32) = (0 : Int32)))).2) (by decide) (by decide) kT) ?_
  show Goes _ _ _ _ (T21.setTop (mkF m 64 #[.val (.int p0), .val (.int p1), .val (.int p2), .val (.int p3), .val (.int p4), .val (.int p5), .val (.int (5 : Int32)), .val (.ref b1), uS, uS] []))
  refine Goes.st (fun sT kT => XS.iload X21.here hx rfl (hb hby at_64) rfl kT) ?_
  show Goes _ _ _ _ (T21.setTop (mkF m 66 #[.val (.int p0), .val (.int p1), .val (.int p2), .val (.int p3), .val (.int p4), .val (.int p5), .val (.int (5 : Int32)), .val (.ref b1), uS, uS] [(.int (5 : Int32))]))
  refine Goes.st (fun sT kT => XS.iconst X21.here hx rfl (hb hby at_66) kT) ?_
  show Goes _ _ _ _ (T21.setTop (mkF m 67 #[.val (.int p0), .val (.int p1), .val (.int p2), .val (.int p3), .val (.int p4), .val (.int p5), .val (.int (5 : Int32)), .val (.ref b1), uS, uS] [(.int (1 : Int32)), (.int (5 : Int32))]))
  refine Goes.st (fun sT kT => XS.icmpYes X21.here hx rfl (pc0 := 67) (pc' := 85) rfl (hb hby at_67) rfl (feq (by decide : ¬ ((5 : Int32) = (1 : Int32)))).2 (by decide) (by decide) kT) ?_
  show Goes _ _ _ _ (T21.setTop (mkF m 85 #[.val (.int p0), .val (.int p1), .val (.int p2), .val (.int p3), .val (.int p4), .val (.int p5), .val (.int (5 : Int32)), .val (.ref b1), uS, uS] []))
  refine Goes.st (fun sT kT => XS.iload X21.here hx rfl (hb hby at_85) rfl kT) ?_
  show Goes _ _ _ _ (T21.setTop (mkF m 87 #[.val (.int p0), .val (.int p1), .val (.int p2), .val (.int p3), .val (.int p4), .val (.int p5), .val (.int (5 : Int32)), .val (.ref b1), uS, uS] [(.int (5 : Int32))]))
  refine Goes.st (fun sT kT => XS.iconst X21.here hx rfl (hb hby at_87) kT) ?_
  show Goes _ _ _ _ (T21.setTop (mkF m 88 #[.val (.int p0), .val (.int p1), .val (.int p2), .val (.int p3), .val (.int p4), .val (.int p5), .val (.int (5 : Int32)), .val (.ref b1), uS, uS] [(.int (2 : Int32)), (.int (5 : Int32))]))
  refine Goes.st (fun sT kT => XS.icmpYes X21.here hx rfl (pc0 := 88) (pc' := 113) rfl (hb hby at_88) rfl (feq (by decide : ¬ ((5 : Int32) = (2 : Int32)))).2 (by decide) (by decide) kT) ?_
  show Goes _ _ _ _ (T21.setTop (mkF m 113 #[.val (.int p0), .val (.int p1), .val (.int p2), .val (.int p3), .val (.int p4), .val (.int p5), .val (.int (5 : Int32)), .val (.ref b1), uS, uS] []))
  refine Goes.st (fun sT kT => XS.iload X21.here hx rfl (hb hby at_113) rfl kT) ?_
  show Goes _ _ _ _ (T21.setTop (mkF m 115 #[.val (.int p0), .val (.int p1), .val (.int p2), .val (.int p3), .val (.int p4), .val (.int p5), .val (.int (5 : Int32)), .val (.ref b1), uS, uS] [(.int (5 : Int32))]))
  refine Goes.st (fun sT kT => XS.iconst X21.here hx rfl (hb hby at_115) kT) ?_
  show Goes _ _ _ _ (T21.setTop (mkF m 116 #[.val (.int p0), .val (.int p1), .val (.int p2), .val (.int p3), .val (.int p4), .val (.int p5), .val (.int (5 : Int32)), .val (.ref b1), uS, uS] [(.int (3 : Int32)), (.int (5 : Int32))]))
  refine Goes.st (fun sT kT => XS.icmpYes X21.here hx rfl (pc0 := 116) (pc' := 148) rfl (hb hby at_116) rfl (feq (by decide : ¬ ((5 : Int32) = (3 : Int32)))).2 (by decide) (by decide) kT) ?_
  show Goes _ _ _ _ (T21.setTop (mkF m 148 #[.val (.int p0), .val (.int p1), .val (.int p2), .val (.int p3), .val (.int p4), .val (.int p5), .val (.int (5 : Int32)), .val (.ref b1), uS, uS] []))
  refine Goes.st (fun sT kT => XS.iload X21.here hx rfl (hb hby at_148) rfl kT) ?_
  show Goes _ _ _ _ (T21.setTop (mkF m 150 #[.val (.int p0), .val (.int p1), .val (.int p2), .val (.int p3), .val (.int p4), .val (.int p5), .val (.int (5 : Int32)), .val (.ref b1), uS, uS] [(.int (5 : Int32))]))
  refine Goes.st (fun sT kT => XS.iconst X21.here hx rfl (hb hby at_150) kT) ?_
  show Goes _ _ _ _ (T21.setTop (mkF m 151 #[.val (.int p0), .val (.int p1), .val (.int p2), .val (.int p3), .val (.int p4), .val (.int p5), .val (.int (5 : Int32)), .val (.ref b1), uS, uS] [(.int (4 : Int32)), (.int (5 : Int32))]))
  refine Goes.st (fun sT kT => XS.icmpYes X21.here hx rfl (pc0 := 151) (pc' := 190) rfl (hb hby at_151) rfl (feq (by decide : ¬ ((5 : Int32) = (4 : Int32)))).2 (by decide) (by decide) kT) ?_
  show Goes _ _ _ _ (T21.setTop (mkF m 190 #[.val (.int p0), .val (.int p1), .val (.int p2), .val (.int p3), .val (.int p4), .val (.int p5), .val (.int (5 : Int32)), .val (.ref b1), uS, uS] []))
  refine Goes.st (fun sT kT => XS.iconst X21.here hx rfl (hb hby at_190) kT) ?_
  show Goes _ _ _ _ (T21.setTop (mkF m 191 #[.val (.int p0), .val (.int p1), .val (.int p2), .val (.int p3), .val (.int p4), .val (.int p5), .val (.int (5 : Int32)), .val (.ref b1), uS, uS] [(.int (5 : Int32))]))
  obtain ⟨T143, h143, k143, X143, e143, E143, A143, st143⟩ := newP X21 hx hZ (aty := .char) (hw0 hw) e21 (g := (mkF m 191 #[.val (.int p0), .val (.int p1), .val (.int p2), .val (.int p3), .val (.int p4), .val (.int p5), .val (.int (5 : Int32)), .val (.ref b1), uS, uS] [(.int (5 : Int32))])) rfl (hb hby at_191) rfl (by decide) (cap := 5) (by decide) (by decide) (by decide) (by decide)
  obtain ⟨b143, g143⟩ : ∃ z, z = h21.size := ⟨_, rfl⟩
  rw [← g143] at A143 st143
  have CR144 : CHr Z EL s.vm h0 s.vm h143 := CR22.trans (CHr.ext E143 CR22.1)
  have V143 : Arv Z h143 b143 k143 .char (5 : Int32) [(.int (0 : Int32)), (.int (0 : Int32)), (.int (0 : Int32)), (.int (0 : Int32)), (.int (0 : Int32))] (.int (0 : Int32)) := (Arv.new A143 (by decide)).pad (pad_rep [] (.int (0 : Int32)) 5)
  refine Goes.st st143 ?_
  show Goes _ _ _ _ (T143.setTop (mkF m 193 #[.val (.int p0), .val (.int p1), .val (.int p2), .val (.int p3), .val (.int p4), .val (.int p5), .val (.int (5 : Int32)), .val (.ref b1), uS, uS] [(.ref b143)]))
  refine Goes.st (fun sT kT => XS.dup X143.here hx rfl (hb hby at_193) rfl rfl kT) ?_
  show Goes _ _ _ _ (T143.setTop (mkF m 194 #[.val (.int p0), .val (.int p1), .val (.int p2), .val (.int p3), .val (.int p4), .val (.int p5), .val (.int (5 : Int32)), .val (.ref b1), uS, uS] [(.ref b143), (.ref b143)]))
  refine Goes.st (fun sT kT => XS.iconst X143.here hx rfl (hb hby at_194) kT) ?_
  show Goes _ _ _ _ (T143.setTop (mkF m 195 #[.val (.int p0), .val (.int p1), .val (.int p2), .val (.int p3), .val (.int p4), .val (.int p5), .val (.int (5 : Int32)), .val (.ref b1), uS, uS] [(.int (0 : Int32)), (.ref b143), (.ref b143)]))
  refine Goes.st (fun sT kT => XS.aload X143.here hx rfl (hb hby at_195) rfl rfl kT) ?_
  show Goes _ _ _ _ (T143.setTop (mkF m 197 #[.val (.int p0), .val (.int p1), .val (.int p2), .val (.int p3), .val (.int p4), .val (.int p5), .val (.int (5 : Int32)), .val (.ref b1), uS, uS] [(.ref b1), (.int (0 : Int32)), (.ref b143), (.ref b143)]))
  refine Goes.st (fun sT kT => XS.iconst X143.here hx rfl (hb hby at_197) kT) ?_
  show Goes _ _ _ _ (T143.setTop (mkF m 198 #[.val (.int p0), .val (.int p1), .val (.int p2), .val (.int p3), .val (.int p4), .val (.int p5), .val (.int (5 : Int32)), .val (.ref b1), uS, uS] [(.int (0 : Int32)), (.ref b1), (.int (0 : Int32)), (.ref b143), (.ref b143)]))
  have f145 : Arv Z h143 b1 k1 .char (5 : Int32) [(.int cc3), (.int cc7), (.int cc11), (.int cc15), (.int cc19)] (.int (0 : Int32)) := (V21.ext E143)
  obtain ⟨oc146, oA146, oq146, oS146, oM146, oH146, oG146⟩ := id f145
  refine Goes.st (fun sT kT => X143.caload hx (j := (0 : Int32)) (v := (.int cc3)) (by rw [e143]; exact oA146.1) (State.isArrayOf_alike hZ.alike oA146.2.1) oA146.2.2 (inb_of oS146 ⟨by decide, by decide⟩) (oH146.at (inb_of oS146 ⟨by decide, by decide⟩) rfl) (g := (mkF m 198 #[.val (.int p0), .val (.int p1), .val (.int p2), .val (.int p3), .val (.int p4), .val (.int p5), .val (.int (5 : Int32)), .val (.ref b1), uS, uS] [(.int (0 : Int32)), (.ref b1), (.int (0 : Int32)), (.ref b143), (.ref b143)])) rfl rfl (hb hby at_198) _ kT) ?_
  show Goes _ _ _ _ (T143.setTop (mkF m 199 #[.val (.int p0), .val (.int p1), .val (.int p2), .val (.int p3), .val (.int p4), .val (.int p5), .val (.int (5 : Int32)), .val (.ref b1), uS, uS] [(.int cc3), (.int (0 : Int32)), (.ref b143), (.ref b143)]))
  obtain ⟨oc147, oA147, oq147, oS147, oM147, oH147, oG147⟩ := id V143
  obtain ⟨T148, h148, X148, e148, W148, st148⟩ := stC X143 hx hZ e143 oA147 (j := (0 : Int32)) (inb_of oS147 ⟨by decide, by decide⟩) (g := (mkF m 199 #[.val (.int p0), .val (.int p1), .val (.int p2), .val (.int p3), .val (.int p4), .val (.int p5), .val (.int (5 : Int32)), .val (.ref b1), uS, uS] [(.int cc3), (.int (0 : Int32)), (.ref b143), (.ref b143)])) rfl rfl (hb hby at_199)
  rw [own_narc rg_3] at W148
  have V148 : Arv Z h148 b143 k143 .char (5 : Int32) [(.int cc3), (.int (0 : Int32)), (.int (0 : Int32)), (.int (0 : Int32)), (.int (0 : Int32))] (.int (0 : Int32)) := Arv.set oA147 oq147 oS147 oM147 oH147 oG147 (own_fitsc rg_3) W148 0 rfl (Nat.le_of_ble_eq_true rfl)
  have N148 := Fr.snoc X148 N21 (Nat.le_trans Z0 (Nat.le_trans (Nat.le_trans (Nat.le_trans (Nat.le_trans (Nat.le_trans (Nat.le_trans E1.1 (Nat.le_of_eq W5.size.symm)) (Nat.le_of_eq W9.size.symm)) (Nat.le_of_eq W13.size.symm)) (Nat.le_of_eq W17.size.symm)) (Nat.le_of_eq W21.size.symm)) (Nat.le_of_eq g143.symm)))
  have CR149 : CHr Z EL s.vm h0 s.vm h148 := CR144.trans (CHr.wr W148 (own_safeArv hZ.alike V143 (by simp)) CR144.1)
  refine Goes.st st148 ?_
  show Goes _ _ _ _ (T148.setTop (mkF m 200 #[.val (.int p0), .val (.int p1), .val (.int p2), .val (.int p3), .val (.int p4), .val (.int p5), .val (.int (5 : Int32)), .val (.ref b1), uS, uS] [(.ref b143)]))
  refine Goes.st (fun sT kT => XS.dup X148.here hx rfl (hb hby at_200) rfl rfl kT) ?_
  show Goes _ _ _ _ (T148.setTop (mkF m 201 #[.val (.int p0), .val (.int p1), .val (.int p2), .val (.int p3), .val (.int p4), .val (.int p5), .val (.int (5 : Int32)), .val (.ref b1), uS, uS] [(.ref b143), (.ref b143)]))
  refine Goes.st (fun sT kT => XS.iconst X148.here hx rfl (hb hby at_201) kT) ?_
  show Goes _ _ _ _ (T148.setTop (mkF m 202 #[.val (.int p0), .val (.int p1), .val (.int p2), .val (.int p3), .val (.int p4), .val (.int p5), .val (.int (5 : Int32)), .val (.ref b1), uS, uS] [(.int (1 : Int32)), (.ref b143), (.ref b143)]))
  refine Goes.st (fun sT kT => XS.aload X148.here hx rfl (hb hby at_202) rfl rfl kT) ?_
  show Goes _ _ _ _ (T148.setTop (mkF m 204 #[.val (.int p0), .val (.int p1), .val (.int p2), .val (.int p3), .val (.int p4), .val (.int p5), .val (.int (5 : Int32)), .val (.ref b1), uS, uS] [(.ref b1), (.int (1 : Int32)), (.ref b143), (.ref b143)]))
  refine Goes.st (fun sT kT => XS.iconst X148.here hx rfl (hb hby at_204) kT) ?_
  show Goes _ _ _ _ (T148.setTop (mkF m 205 #[.val (.int p0), .val (.int p1), .val (.int p2), .val (.int p3), .val (.int p4), .val (.int p5), .val (.int (5 : Int32)), .val (.ref b1), uS, uS] [(.int (1 : Int32)), (.ref b1), (.int (1 : Int32)), (.ref b143), (.ref b143)]))
  have f150 : Arv Z h148 b1 k1 .char (5 : Int32) [(.int cc3), (.int cc7), (.int cc11), (.int cc15), (.int cc19)] (.int (0 : Int32)) := (f145.other W148 (Nat.ne_of_lt (Nat.lt_of_lt_of_le A1.lt (Nat.le_trans (Nat.le_trans (Nat.le_trans (Nat.le_trans (Nat.le_trans (Nat.le_of_eq W5.size.symm) (Nat.le_of_eq W9.size.symm)) (Nat.le_of_eq W13.size.symm)) (Nat.le_of_eq W17.size.symm)) (Nat.le_of_eq W21.size.symm)) (Nat.le_of_eq g143.symm)))))
  obtain ⟨oc151, oA151, oq151, oS151, oM151, oH151, oG151⟩ := id f150
  refine Goes.st (fun sT kT => X148.caload hx (j := (1 : Int32)) (v := (.int cc7)) (by rw [e148]; exact oA151.1) (State.isArrayOf_alike hZ.alike oA151.2.1) oA151.2.2 (inb_of oS151 ⟨by decide, by decide⟩) (oH151.at (inb_of oS151 ⟨by decide, by decide⟩) rfl) (g := (mkF m 205 #[.val (.int p0), .val (.int p1), .val (.int p2), .val (.int p3), .val (.int p4), .val (.int p5), .val (.int (5 : Int32)), .val (.ref b1), uS, uS] [(.int (1 : Int32)), (.ref b1), (.int (1 : Int32)), (.ref b143), (.ref b143)])) rfl rfl (hb hby at_205) _ kT) ?_
  show Goes _ _ _ _ (T148.setTop (mkF m 206 #[.val (.int p0), .val (.int p1), .val (.int p2), .val (.int p3), .val (.int p4), .val (.int p5), .val (.int (5 : Int32)), .val (.ref b1), uS, uS] [(.int cc7), (.int (1 : Int32)), (.ref b143), (.ref b143)]))
  obtain ⟨oc152, oA152, oq152, oS152, oM152, oH152, oG152⟩ := id V148
  obtain ⟨T153, h153, X153, e153, W153, st153⟩ := stC X148 hx hZ e148 oA152 (j := (1 : Int32)) (inb_of oS152 ⟨by decide, by decide⟩) (g := (mkF m 206 #[.val (.int p0), .val (.int p1), .val (.int p2), .val (.int p3), .val (.int p4), .val (.int p5), .val (.int (5 : Int32)), .val (.ref b1), uS, uS] [(.int cc7), (.int (1 : Int32)), (.ref b143), (.ref b143)])) rfl rfl (hb hby at_206)
  rw [own_narc rg_7] at W153
  have V153 : Arv Z h153 b143 k143 .char (5 : Int32) [(.int cc3), (.int cc7), (.int (0 : Int32)), (.int (0 : Int32)), (.int (0 : Int32))] (.int (0 : Int32)) := Arv.set oA152 oq152 oS152 oM152 oH152 oG152 (own_fitsc rg_7) W153 1 rfl (Nat.le_of_ble_eq_true rfl)
  have N153 := Fr.snoc X153 N148 (Nat.le_trans Z0 (Nat.le_trans (Nat.le_trans (Nat.le_trans (Nat.le_trans (Nat.le_trans (Nat.le_trans E1.1 (Nat.le_of_eq W5.size.symm)) (Nat.le_of_eq W9.size.symm)) (Nat.le_of_eq W13.size.symm)) (Nat.le_of_eq W17.size.symm)) (Nat.le_of_eq W21.size.symm)) (Nat.le_of_eq g143.symm)))
  have CR154 : CHr Z EL s.vm h0 s.vm h153 := CR149.trans (CHr.wr W153 (own_safeArv hZ.alike V148 (by simp)) CR149.1)
  refine Goes.st st153 ?_
  show Goes _ _ _ _ (T153.setTop (mkF m 207 #[.val (.int p0), .val (.int p1), .val (.int p2), .val (.int p3), .val (.int p4), .val (.int p5), .val (.int (5 : Int32)), .val (.ref b1), uS, uS] [(.ref b143)]))
  refine Goes.st (fun sT kT => XS.dup X153.here hx rfl (hb hby at_207) rfl rfl kT) ?_
  show Goes _ _ _ _ (T153.setTop (mkF m 208 #[.val (.int p0), .val (.int p1), .val (.int p2), .val (.int p3), .val (.int p4), .val (.int p5), .val (.int (5 : Int32)), .val (.ref b1), uS, uS] [(.ref b143), (.ref b143)]))
  refine Goes.st (fun sT kT => XS.iconst X153.here hx rfl (hb hby at_208) kT) ?_
  show Goes _ _ _ _ (T153.setTop (mkF m 209 #[.val (.int p0), .val (.int p1), .val (.int p2), .val (.int p3), .val (.int p4), .val (.int p5), .val (.int (5 : Int32)), .val (.ref b1), uS, uS] [(.int (2 : Int32)), (.ref b143), (.ref b143)]))
  refine Goes.st (fun sT kT => XS.aload X153.here hx rfl (hb hby at_209) rfl rfl kT) ?_
  show Goes _ _ _ _ (T153.setTop (mkF m 211 #[.val (.int p0), .val (.int p1), .val (.int p2), .val (.int p3), .val (.int p4), .val (.int p5), .val (.int (5 : Int32)), .val (.ref b1), uS, uS] [(.ref b1), (.int (2 : Int32)), (.ref b143), (.ref b143)]))
  refine Goes.st (fun sT kT => XS.iconst X153.here hx rfl (hb hby at_211) kT) ?_
  show Goes _ _ _ _ (T153.setTop (mkF m 212 #[.val (.int p0), .val (.int p1), .val (.int p2), .val (.int p3), .val (.int p4), .val (.int p5), .val (.int (5 : Int32)), .val (.ref b1), uS, uS] [(.int (2 : Int32)), (.ref b1), (.int (2 : Int32)), (.ref b143), (.ref b143)]))
  have f155 : Arv Z h153 b1 k1 .char (5 : Int32) [(.int cc3), (.int cc7), (.int cc11), (.int cc15), (.int cc19)] (.int (0 : Int32)) := (f150.other W153 (Nat.ne_of_lt (Nat.lt_of_lt_of_le A1.lt (Nat.le_trans (Nat.le_trans (Nat.le_trans (Nat.le_trans (Nat.le_trans (Nat.le_of_eq W5.size.symm) (Nat.le_of_eq W9.size.symm)) (Nat.le_of_eq W13.size.symm)) (Nat.le_of_eq W17.size.symm)) (Nat.le_of_eq W21.size.symm)) (Nat.le_of_eq g143.symm)))))
  obtain ⟨oc156, oA156, oq156, oS156, oM156, oH156, oG156⟩ := id f155
  refine Goes.st (fun sT kT => X153.caload hx (j := (2 : Int32)) (v := (.int cc11)) (by rw [e153]; exact oA156.1) (State.isArrayOf_alike hZ.alike oA156.2.1) oA156.2.2 (inb_of oS156 ⟨by decide, by decide⟩) (oH156.at (inb_of oS156 ⟨by decide, by decide⟩) rfl) (g := (mkF m 212 #[.val (.int p0), .val (.int p1), .val (.int p2), .val (.int p3), .val (.int p4), .val (.int p5), .val (.int (5 : Int32)), .val (.ref b1), uS, uS] [(.int (2 : Int32)), (.ref b1), (.int (2 : Int32)), (.ref b143), (.ref b143)])) rfl rfl (hb hby at_212) _ kT) ?_
  show Goes _ _ _ _ (T153.setTop (mkF m 213 #[.val (.int p0), .val (.int p1), .val (.int p2), .val (.int p3), .val (.int p4), .val (.int p5), .val (.int (5 : Int32)), .val (.ref b1), uS, uS] [(.int cc11), (.int (2 : Int32)), (.ref b143), (.ref b143)]))
  obtain ⟨oc157, oA157, oq157, oS157, oM157, oH157, oG157⟩ := id V153
  obtain ⟨T158, h158, X158, e158, W158, st158⟩ := stC X153 hx hZ e153 oA157 (j := (2 : Int32)) (inb_of oS157 ⟨by decide, by decide⟩) (g := (mkF m 213 #[.val (.int p0), .val (.int p1), .val (.int p2), .val (.int p3), .val (.int p4), .val (.int p5), .val (.int (5 : Int32)), .val (.ref b1), uS, uS] [(.int cc11), (.int (2 : Int32)), (.ref b143), (.ref b143)])) rfl rfl (hb hby at_213)
  rw [own_narc rg_11] at W158
  have V158 : Arv Z h158 b143 k143 .char (5 : Int32) [(.int cc3), (.int cc7), (.int cc11), (.int (0 : Int32)), (.int (0 : Int32))] (.int (0 : Int32)) := Arv.set oA157 oq157 oS157 oM157 oH157 oG157 (own_fitsc rg_11) W158 2 rfl (Nat.le_of_ble_eq_true rfl)
  have N158 := Fr.snoc X158 N153 (Nat.le_trans Z0 (Nat.le_trans (Nat.le_trans (Nat.le_trans (Nat.le_trans (Nat.le_trans (Nat.le_trans E1.1 (Nat.le_of_eq W5.size.symm)) (Nat.le_of_eq W9.size.symm)) (Nat.le_of_eq W13.size.symm)) (Nat.le_of_eq W17.size.symm)) (Nat.le_of_eq W21.size.symm)) (Nat.le_of_eq g143.symm)))
  have CR159 : CHr Z EL s.vm h0 s.vm h158 := CR154.trans (CHr.wr W158 (own_safeArv hZ.alike V153 (by simp)) CR154.1)
  refine Goes.st st158 ?_
  show Goes _ _ _ _ (T158.setTop (mkF m 214 #[.val (.int p0), .val (.int p1), .val (.int p2), .val (.int p3), .val (.int p4), .val (.int p5), .val (.int (5 : Int32)), .val (.ref b1), uS, uS] [(.ref b143)]))
  refine Goes.st (fun sT kT => XS.dup X158.here hx rfl (hb hby at_214) rfl rfl kT) ?_
  show Goes _ _ _ _ (T158.setTop (mkF m 215 #[.val (.int p0), .val (.int p1), .val (.int p2), .val (.int p3), .val (.int p4), .val (.int p5), .val (.int (5 : Int32)), .val (.ref b1), uS, uS] [(.ref b143), (.ref b143)]))
  refine Goes.st (fun sT kT => XS.iconst X158.here hx rfl (hb hby at_215) kT) ?_
  show Goes _ _ _ _ (T158.setTop (mkF m 216 #[.val (.int p0), .val (.int p1), .val (.int p2), .val (.int p3), .val (.int p4), .val (.int p5), .val (.int (5 : Int32)), .val (.ref b1), uS, uS] [(.int (3 : Int32)), (.ref b143), (.ref b143)]))
  refine Goes.st (fun sT kT => XS.aload X158.here hx rfl (hb hby at_216) rfl rfl kT) ?_
  show Goes _ _ _ _ (T158.setTop (mkF m 218 #[.val (.int p0), .val (.int p1), .val (.int p2), .val (.int p3), .val (.int p4), .val (.int p5), .val (.int (5 : Int32)), .val (.ref b1), uS, uS] [(.ref b1), (.int (3 : Int32)), (.ref b143), (.ref b143)]))
  refine Goes.st (fun sT kT => XS.iconst X158.here hx rfl (hb hby at_218) kT) ?_
  show Goes _ _ _ _ (T158.setTop (mkF m 219 #[.val (.int p0), .val (.int p1), .val (.int p2), .val (.int p3), .val (.int p4), .val (.int p5), .val (.int (5 : Int32)), .val (.ref b1), uS, uS] [(.int (3 : Int32)), (.ref b1), (.int (3 : Int32)), (.ref b143), (.ref b143)]))
  have f160 : Arv Z h158 b1 k1 .char (5 : Int32) [(.int cc3), (.int cc7), (.int cc11), (.int cc15), (.int cc19)] (.int (0 : Int32)) := (f155.other W158 (Nat.ne_of_lt (Nat.lt_of_lt_of_le A1.lt (Nat.le_trans (Nat.le_trans (Nat.le_trans (Nat.le_trans (Nat.le_trans (Nat.le_of_eq W5.size.symm) (Nat.le_of_eq W9.size.symm)) (Nat.le_of_eq W13.size.symm)) (Nat.le_of_eq W17.size.symm)) (Nat.le_of_eq W21.size.symm)) (Nat.le_of_eq g143.symm)))))
  obtain ⟨oc161, oA161, oq161, oS161, oM161, oH161, oG161⟩ := id f160
  refine Goes.st (fun sT kT => X158.caload hx (j := (3 : Int32)) (v := (.int cc15)) (by rw [e158]; exact oA161.1) (State.isArrayOf_alike hZ.alike oA161.2.1) oA161.2.2 (inb_of oS161 ⟨by decide, by decide⟩) (oH161.at (inb_of oS161 ⟨by decide, by decide⟩) rfl) (g := (mkF m 219 #[.val (.int p0), .val (.int p1), .val (.int p2), .val (.int p3), .val (.int p4), .val (.int p5), .val (.int (5 : Int32)), .val (.ref b1), uS, uS] [(.int (3 : Int32)), (.ref b1), (.int (3 : Int32)), (.ref b143), (.ref b143)])) rfl rfl (hb hby at_219) _ kT) ?_
  show Goes _ _ _ _ (T158.setTop (mkF m 220 #[.val (.int p0), .val (.int p1), .val (.int p2), .val (.int p3), .val (.int p4), .val (.int p5), .val (.int (5 : Int32)), .val (.ref b1), uS, uS] [(.int cc15), (.int (3 : Int32)), (.ref b143), (.ref b143)]))
  obtain ⟨oc162, oA162, oq162, oS162, oM162, oH162, oG162⟩ := id V158
  obtain ⟨T163, h163, X163, e163, W163, st163⟩ := stC X158 hx hZ e158 oA162 (j := (3 : Int32)) (inb_of oS162 ⟨by decide, by decide⟩) (g := (mkF m 220 #[.val (.int p0), .val (.int p1), .val (.int p2), .val (.int p3), .val (.int p4), .val (.int p5), .val (.int (5 : Int32)), .val (.ref b1), uS, uS] [(.int cc15), (.int (3 : Int32)), (.ref b143), (.ref b143)])) rfl rfl (hb hby at_220)
  rw [own_narc rg_15] at W163
  have V163 : Arv Z h163 b143 k143 .char (5 : Int32) [(.int cc3), (.int cc7), (.int cc11), (.int cc15), (.int (0 : Int32))] (.int (0 : Int32)) := Arv.set oA162 oq162 oS162 oM162 oH162 oG162 (own_fitsc rg_15) W163 3 rfl (Nat.le_of_ble_eq_true rfl)
  have N163 := Fr.snoc X163 N158 (Nat.le_trans Z0 (Nat.le_trans (Nat.le_trans (Nat.le_trans (Nat.le_trans (Nat.le_trans (Nat.le_trans E1.1 (Nat.le_of_eq W5.size.symm)) (Nat.le_of_eq W9.size.symm)) (Nat.le_of_eq W13.size.symm)) (Nat.le_of_eq W17.size.symm)) (Nat.le_of_eq W21.size.symm)) (Nat.le_of_eq g143.symm)))
  have CR164 : CHr Z EL s.vm h0 s.vm h163 := CR159.trans (CHr.wr W163 (own_safeArv hZ.alike V158 (by simp)) CR159.1)
  refine Goes.st st163 ?_
  show Goes _ _ _ _ (T163.setTop (mkF m 221 #[.val (.int p0), .val (.int p1), .val (.int p2), .val (.int p3), .val (.int p4), .val (.int p5), .val (.int (5 : Int32)), .val (.ref b1), uS, uS] [(.ref b143)]))
  refine Goes.st (fun sT kT => XS.dup X163.here hx rfl (hb hby at_221) rfl rfl kT) ?_
  show Goes _ _ _ _ (T163.setTop (mkF m 222 #[.val (.int p0), .val (.int p1), .val (.int p2), .val (.int p3), .val (.int p4), .val (.int p5), .val (.int (5 : Int32)), .val (.ref b1), uS, uS] [(.ref b143), (.ref b143)]))
  refine Goes.st (fun sT kT => XS.iconst X163.here hx rfl (hb hby at_222) kT) ?_
  show Goes _ _ _ _ (T163.setTop (mkF m 223 #[.val (.int p0), .val (.int p1), .val (.int p2), .val (.int p3), .val (.int p4), .val (.int p5), .val (.int (5 : Int32)), .val (.ref b1), uS, uS] [(.int (4 : Int32)), (.ref b143), (.ref b143)]))
  refine Goes.st (fun sT kT => XS.aload X163.here hx rfl (hb hby at_223) rfl rfl kT) ?_
  show Goes _ _ _ _ (T163.setTop (mkF m 225 #[.val (.int p0), .val (.int p1), .val (.int p2), .val (.int p3), .val (.int p4), .val (.int p5), .val (.int (5 : Int32)), .val (.ref b1), uS, uS] [(.ref b1), (.int (4 : Int32)), (.ref b143), (.ref b143)]))
  refine Goes.st (fun sT kT => XS.iconst X163.here hx rfl (hb hby at_225) kT) ?_
  show Goes _ _ _ _ (T163.setTop (mkF m 226 #[.val (.int p0), .val (.int p1), .val (.int p2), .val (.int p3), .val (.int p4), .val (.int p5), .val (.int (5 : Int32)), .val (.ref b1), uS, uS] [(.int (4 : Int32)), (.ref b1), (.int (4 : Int32)), (.ref b143), (.ref b143)]))
  have f165 : Arv Z h163 b1 k1 .char (5 : Int32) [(.int cc3), (.int cc7), (.int cc11), (.int cc15), (.int cc19)] (.int (0 : Int32)) := (f160.other W163 (Nat.ne_of_lt (Nat.lt_of_lt_of_le A1.lt (Nat.le_trans (Nat.le_trans (Nat.le_trans (Nat.le_trans (Nat.le_trans (Nat.le_of_eq W5.size.symm) (Nat.le_of_eq W9.size.symm)) (Nat.le_of_eq W13.size.symm)) (Nat.le_of_eq W17.size.symm)) (Nat.le_of_eq W21.size.symm)) (Nat.le_of_eq g143.symm)))))
  obtain ⟨oc166, oA166, oq166, oS166, oM166, oH166, oG166⟩ := id f165
  refine Goes.st (fun sT kT => X163.caload hx (j := (4 : Int32)) (v := (.int cc19)) (by rw [e163]; exact oA166.1) (State.isArrayOf_alike hZ.alike oA166.2.1) oA166.2.2 (inb_of oS166 ⟨by decide, by decide⟩) (oH166.at (inb_of oS166 ⟨by decide, by decide⟩) rfl) (g := (mkF m 226 #[.val (.int p0), .val (.int p1), .val (.int p2), .val (.int p3), .val (.int p4), .val (.int p5), .val (.int (5 : Int32)), .val (.ref b1), uS, uS] [(.int (4 : Int32)), (.ref b1), (.int (4 : Int32)), (.ref b143), (.ref b143)])) rfl rfl (hb hby at_226) _ kT) ?_
  show Goes _ _ _ _ (T163.setTop (mkF m 227 #[.val (.int p0), .val (.int p1), .val (.int p2), .val (.int p3), .val (.int p4), .val (.int p5), .val (.int (5 : Int32)), .val (.ref b1), uS, uS] [(.int cc19), (.int (4 : Int32)), (.ref b143), (.ref b143)]))
  obtain ⟨oc167, oA167, oq167, oS167, oM167, oH167, oG167⟩ := id V163
  obtain ⟨T168, h168, X168, e168, W168, st168⟩ := stC X163 hx hZ e163 oA167 (j := (4 : Int32)) (inb_of oS167 ⟨by decide, by decide⟩) (g := (mkF m 227 #[.val (.int p0), .val (.int p1), .val (.int p2), .val (.int p3), .val (.int p4), .val (.int p5), .val (.int (5 : Int32)), .val (.ref b1), uS, uS] [(.int cc19), (.int (4 : Int32)), (.ref b143), (.ref b143)])) rfl rfl (hb hby at_227)
  rw [own_narc rg_19] at W168
  have V168 : Arv Z h168 b143 k143 .char (5 : Int32) [(.int cc3), (.int cc7), (.int cc11), (.int cc15), (.int cc19)] (.int (0 : Int32)) := Arv.set oA167 oq167 oS167 oM167 oH167 oG167 (own_fitsc rg_19) W168 4 rfl (Nat.le_of_ble_eq_true rfl)
  have N168 := Fr.snoc X168 N163 (Nat.le_trans Z0 (Nat.le_trans (Nat.le_trans (Nat.le_trans (Nat.le_trans (Nat.le_trans (Nat.le_trans E1.1 (Nat.le_of_eq W5.size.symm)) (Nat.le_of_eq W9.size.symm)) (Nat.le_of_eq W13.size.symm)) (Nat.le_of_eq W17.size.symm)) (Nat.le_of_eq W21.size.symm)) (Nat.le_of_eq g143.symm)))
  have CR169 : CHr Z EL s.vm h0 s.vm h168 := CR164.trans (CHr.wr W168 (own_safeArv hZ.alike V163 (by simp)) CR164.1)
  refine Goes.st st168 ?_
  show Goes _ _ _ _ (T168.setTop (mkF m 228 #[.val (.int p0), .val (.int p1), .val (.int p2), .val (.int p3), .val (.int p4), .val (.int p5), .val (.int (5 : Int32)), .val (.ref b1), uS, uS] [(.ref b143)]))
  refine Goes.st (fun sT kT => XS.astore X168.here hx rfl (hb hby at_228) rfl rfl (l' := #[.val (.int p0), .val (.int p1), .val (.int p2), .val (.int p3), .val (.int p4), .val (.int p5), .val (.int (5 : Int32)), .val (.ref b1), .val (.ref b143), uS]) rfl kT) ?_
  show Goes _ _ _ _ (T168.setTop (mkF m 230 #[.val (.int p0), .val (.int p1), .val (.int p2), .val (.int p3), .val (.int p4), .val (.int p5), .val (.int (5 : Int32)), .val (.ref b1), .val (.ref b143), uS] []))
  obtain ⟨T170, h170, X170, e170, E170, A170, D170, -, st170⟩ := newO X168 hx hZ hown (hw5 hw) (hw6 hw) (hw7 hw) e168 (g := (mkF m 230 #[.val (.int p0), .val (.int p1), .val (.int p2), .val (.int p3), .val (.int p4), .val (.int p5), .val (.int (5 : Int32)), .val (.ref b1), .val (.ref b143), uS] [])) rfl (hb hby at_230) (by decide) (by decide)
  obtain ⟨b170, g170⟩ : ∃ z, z = h168.size := ⟨_, rfl⟩
  rw [← g170] at A170 D170 st170
  have CR171 : CHr Z EL s.vm h0 s.vm h170 := CR169.trans (CHr.ext E170 CR169.1)
  have sf170_b170 : Safe Z EL s.vm h170 b170 := Safe.ext E170 CR169.1 (Safe.new (Nat.le_of_eq g170.symm))
  have F170_value : Fld Z h170 b170 "java/lang/String" "value" "[B" .null := D170 (Or.inr (hw20 hw)) (ty := (.array .byte)) (by decide)
  have F170_coder : Fld Z h170 b170 "java/lang/String" "coder" "B" (.int (0 : Int32)) := D170 (Or.inr (hw21 hw)) (ty := .byte) (by decide)
  refine Goes.st st170 ?_
  show Goes _ _ _ _ (T170.setTop (mkF m 233 #[.val (.int p0), .val (.int p1), .val (.int p2), .val (.int p3), .val (.int p4), .val (.int p5), .val (.int (5 : Int32)), .val (.ref b1), .val (.ref b143), uS] [(.ref b170)]))
  refine Goes.st (fun sT kT => XS.dup X170.here hx rfl (hb hby at_233) rfl rfl kT) ?_
  show Goes _ _ _ _ (T170.setTop (mkF m 234 #[.val (.int p0), .val (.int p1), .val (.int p2), .val (.int p3), .val (.int p4), .val (.int p5), .val (.int (5 : Int32)), .val (.ref b1), .val (.ref b143), uS] [(.ref b170), (.ref b170)]))
  refine Goes.st (fun sT kT => XS.aload X170.here hx rfl (hb hby at_234) rfl rfl kT) ?_
  show Goes _ _ _ _ (T170.setTop (mkF m 236 #[.val (.int p0), .val (.int p1), .val (.int p2), .val (.int p3), .val (.int p4), .val (.int p5), .val (.int (5 : Int32)), .val (.ref b1), .val (.ref b143), uS] [(.ref b143), (.ref b170), (.ref b170)]))
  have f173 : Arv Z h170 b143 k143 .char (5 : Int32) [(.int cc3), (.int cc7), (.int cc11), (.int cc15), (.int cc19)] (.int (0 : Int32)) := (V168.ext E170)
  have f174 : Old Z n0 h170 := (((((((((((((P0.ext E1).wr W5 nb).wr W9 nb).wr W13 nb).wr W17 nb).wr W21 nb).ext E143).wr W148 (Nat.le_trans Z0 (Nat.le_trans (Nat.le_trans (Nat.le_trans (Nat.le_trans (Nat.le_trans (Nat.le_trans E1.1 (Nat.le_of_eq W5.size.symm)) (Nat.le_of_eq W9.size.symm)) (Nat.le_of_eq W13.size.symm)) (Nat.le_of_eq W17.size.symm)) (Nat.le_of_eq W21.size.symm)) (Nat.le_of_eq g143.symm)))).wr W153 (Nat.le_trans Z0 (Nat.le_trans (Nat.le_trans (Nat.le_trans (Nat.le_trans (Nat.le_trans (Nat.le_trans E1.1 (Nat.le_of_eq W5.size.symm)) (Nat.le_of_eq W9.size.symm)) (Nat.le_of_eq W13.size.symm)) (Nat.le_of_eq W17.size.symm)) (Nat.le_of_eq W21.size.symm)) (Nat.le_of_eq g143.symm)))).wr W158 (Nat.le_trans Z0 (Nat.le_trans (Nat.le_trans (Nat.le_trans (Nat.le_trans (Nat.le_trans (Nat.le_trans E1.1 (Nat.le_of_eq W5.size.symm)) (Nat.le_of_eq W9.size.symm)) (Nat.le_of_eq W13.size.symm)) (Nat.le_of_eq W17.size.symm)) (Nat.le_of_eq W21.size.symm)) (Nat.le_of_eq g143.symm)))).wr W163 (Nat.le_trans Z0 (Nat.le_trans (Nat.le_trans (Nat.le_trans (Nat.le_trans (Nat.le_trans (Nat.le_trans E1.1 (Nat.le_of_eq W5.size.symm)) (Nat.le_of_eq W9.size.symm)) (Nat.le_of_eq W13.size.symm)) (Nat.le_of_eq W17.size.symm)) (Nat.le_of_eq W21.size.symm)) (Nat.le_of_eq g143.symm)))).wr W168 (Nat.le_trans Z0 (Nat.le_trans (Nat.le_trans (Nat.le_trans (Nat.le_trans (Nat.le_trans (Nat.le_trans E1.1 (Nat.le_of_eq W5.size.symm)) (Nat.le_of_eq W9.size.symm)) (Nat.le_of_eq W13.size.symm)) (Nat.le_of_eq W17.size.symm)) (Nat.le_of_eq W21.size.symm)) (Nat.le_of_eq g143.symm)))).ext E170)
  have hp175 : ∀ c ∈ ([cc3, cc7, cc11, cc15, cc19] : List Int32), ¬ c < 0 ∧ ¬ (255 : Int32) < c := (own_cS rg_3 (own_cS rg_7 (own_cS rg_11 (own_cS rg_15 (own_cS rg_19 own_c0)))))
  obtain ⟨_, _, ⟨T172, L172, k172, n172⟩, -, X172, ⟨Lc172, hQ172, l172, y172, z172⟩, st172⟩ := X170.specialBack hx (y := (⟨"java/lang/String", "<init>", "([C)V"⟩ : MethodName)) rfl hown (mvT hZ (hw8 hw)) (mvT hZ (hw9 hw)) (mvT hZ (hw10 hw)) (by decide) (StrChars.Road.backV (W := 1) hZ (own_hws hw) (kI := 4) (hw6 hw) (cs := ([cc3, cc7, cc11, cc15, cc19] : List Int32)) (bs := ([cc3, cc7, cc11, cc15, cc19] : List Int32).map (fun c => c.toInt8.toInt32)) (n := 5) (Nat.le_trans Z0 (Nat.le_trans (Nat.le_trans (Nat.le_trans (Nat.le_trans (Nat.le_trans (Nat.le_trans (Nat.le_trans (Nat.le_trans (Nat.le_trans (Nat.le_trans (Nat.le_trans (Nat.le_trans E1.1 (Nat.le_of_eq W5.size.symm)) (Nat.le_of_eq W9.size.symm)) (Nat.le_of_eq W13.size.symm)) (Nat.le_of_eq W17.size.symm)) (Nat.le_of_eq W21.size.symm)) E143.1) (Nat.le_of_eq W148.size.symm)) (Nat.le_of_eq W153.size.symm)) (Nat.le_of_eq W158.size.symm)) (Nat.le_of_eq W163.size.symm)) (Nat.le_of_eq W168.size.symm)) (Nat.le_of_eq g170.symm))) (Nat.le_trans Z0 (Nat.le_trans (Nat.le_trans (Nat.le_trans (Nat.le_trans (Nat.le_trans (Nat.le_trans (Nat.le_trans (Nat.le_trans (Nat.le_trans (Nat.le_trans (Nat.le_trans (Nat.le_trans E1.1 (Nat.le_of_eq W5.size.symm)) (Nat.le_of_eq W9.size.symm)) (Nat.le_of_eq W13.size.symm)) (Nat.le_of_eq W17.size.symm)) (Nat.le_of_eq W21.size.symm)) E143.1) (Nat.le_of_eq W148.size.symm)) (Nat.le_of_eq W153.size.symm)) (Nat.le_of_eq W158.size.symm)) (Nat.le_of_eq W163.size.symm)) (Nat.le_of_eq W168.size.symm)) E170.1)) A170 F170_value F170_coder f173 (O2.ext f174.2) P5 rfl rfl (by decide) (by decide) hp175 rfl (by decide) (by decide)) (g := (mkF m 236 #[.val (.int p0), .val (.int p1), .val (.int p2), .val (.int p3), .val (.int p4), .val (.int p5), .val (.int (5 : Int32)), .val (.ref b1), .val (.ref b143), uS] [(.ref b143), (.ref b170), (.ref b170)])) rfl (by rw [hml]; rfl) (Steps.refl _) (a := b170) (argsL := [(.ref b143)]) (rest := [(.ref b170)]) (lenOf pd_7 rfl) rfl (by show 2 * 0 + _ ≤ _; exact Nat.le_of_eq rfl) (hb hby at_236) (fun _ _ => ⟨rfl, e170, (by decide : 3 + 1 ≤ _), (by decide : 14 + 5 ≤ _)⟩)
  dsimp only [Pt.U, Pt.locs, Pt.cells, Pt.slots] at X172 l172 y172 z172 st172 hQ172
  subst l172 y172 z172
  obtain ⟨rfl, N172q, K172, Ex172, Cd172, t172, kb172, lz172, lo172, tn172, Vf172, Av172⟩ := hQ172
  have N172 := Fr.app N168 N172q
  have S172 : Str Z T172.heap b170 t172 kb172 [cc3, cc7, cc11, cc15, cc19] := ⟨Ex172, Vf172, Cd172, Av172, hp175, Nat.le_of_ble_eq_true rfl⟩
  have hs176 : ∀ x ∈ ([b170] : List Addr), Safe Z EL s.vm h170 x := (allS sf170_b170 all0)
  have CR176 : CHr Z EL s.vm h0 s.vm T172.heap := CR171.trans (CHr.keep K172 hs176 CR171.1)
  have sf176_b170 : Safe Z EL s.vm T172.heap b170 := Safe.keep K172 hs176 CR171.1 sf170_b170
  refine Goes.tr st172 ?_
  show Goes _ _ _ _ (T172.setTop (mkF m 239 #[.val (.int p0), .val (.int p1), .val (.int p2), .val (.int p3), .val (.int p4), .val (.int p5), .val (.int (5 : Int32)), .val (.ref b1), .val (.ref b143), uS] [(.ref b170)]))
  have f177 : Arv Z T172.heap b1 k1 .char (5 : Int32) [(.int cc3), (.int cc7), (.int cc11), (.int cc15), (.int cc19)] (.int (0 : Int32)) := (((f165.other W168 (Nat.ne_of_lt (Nat.lt_of_lt_of_le A1.lt (Nat.le_trans (Nat.le_trans (Nat.le_trans (Nat.le_trans (Nat.le_trans (Nat.le_of_eq W5.size.symm) (Nat.le_of_eq W9.size.symm)) (Nat.le_of_eq W13.size.symm)) (Nat.le_of_eq W17.size.symm)) (Nat.le_of_eq W21.size.symm)) (Nat.le_of_eq g143.symm))))).ext E170).keep K172 (ninS (Nat.ne_of_lt (Nat.lt_of_lt_of_le A1.lt (Nat.le_trans (Nat.le_trans (Nat.le_trans (Nat.le_trans (Nat.le_trans (Nat.le_trans (Nat.le_trans (Nat.le_trans (Nat.le_trans (Nat.le_trans (Nat.le_trans (Nat.le_of_eq W5.size.symm) (Nat.le_of_eq W9.size.symm)) (Nat.le_of_eq W13.size.symm)) (Nat.le_of_eq W17.size.symm)) (Nat.le_of_eq W21.size.symm)) E143.1) (Nat.le_of_eq W148.size.symm)) (Nat.le_of_eq W153.size.symm)) (Nat.le_of_eq W158.size.symm)) (Nat.le_of_eq W163.size.symm)) (Nat.le_of_eq W168.size.symm)) (Nat.le_of_eq g170.symm)))) nin0))
  have Vc178 : Arv Z T172.heap b1 k1 .char (5 : Int32) ([cc3, cc7, cc11, cc15, cc19].map Value.int) (.int (0 : Int32)) := f177
  have f179 : Old Z n0 T172.heap := (f174.keep K172 (allS (Nat.le_trans Z0 (Nat.le_trans (Nat.le_trans (Nat.le_trans (Nat.le_trans (Nat.le_trans (Nat.le_trans (Nat.le_trans (Nat.le_trans (Nat.le_trans (Nat.le_trans (Nat.le_trans (Nat.le_trans E1.1 (Nat.le_of_eq W5.size.symm)) (Nat.le_of_eq W9.size.symm)) (Nat.le_of_eq W13.size.symm)) (Nat.le_of_eq W17.size.symm)) (Nat.le_of_eq W21.size.symm)) E143.1) (Nat.le_of_eq W148.size.symm)) (Nat.le_of_eq W153.size.symm)) (Nat.le_of_eq W158.size.symm)) (Nat.le_of_eq W163.size.symm)) (Nat.le_of_eq W168.size.symm)) (Nat.le_of_eq g170.symm))) all0))
  exact Jjt T172 T172.heap _ s.vm _ b170 t172 kb172 [cc3, cc7, cc11, cc15, cc19] [cc3, cc7, cc11, cc15, cc19] 5 (.val (.ref b143)) (X172.more (by decide) (by decide)) rfl N172 (Nat.le_trans Z0 (Nat.le_trans (Nat.le_trans (Nat.le_trans (Nat.le_trans (Nat.le_trans (Nat.le_trans (Nat.le_trans (Nat.le_trans (Nat.le_trans (Nat.le_trans (Nat.le_trans (Nat.le_trans (Nat.le_trans E1.1 (Nat.le_of_eq W5.size.symm)) (Nat.le_of_eq W9.size.symm)) (Nat.le_of_eq W13.size.symm)) (Nat.le_of_eq W17.size.symm)) (Nat.le_of_eq W21.size.symm)) E143.1) (Nat.le_of_eq W148.size.symm)) (Nat.le_of_eq W153.size.symm)) (Nat.le_of_eq W158.size.symm)) (Nat.le_of_eq W163.size.symm)) (Nat.le_of_eq W168.size.symm)) E170.1) K172.1)) hZ hown hS0 (Nat.le_trans (Nat.le_trans (Nat.le_trans (Nat.le_trans (Nat.le_trans (Nat.le_trans (Nat.le_trans (Nat.le_trans (Nat.le_trans (Nat.le_trans (Nat.le_trans (Nat.le_trans (Nat.le_trans (Nat.le_trans hk0 E1.1) (Nat.le_of_eq W5.size.symm)) (Nat.le_of_eq W9.size.symm)) (Nat.le_of_eq W13.size.symm)) (Nat.le_of_eq W17.size.symm)) (Nat.le_of_eq W21.size.symm)) E143.1) (Nat.le_of_eq W148.size.symm)) (Nat.le_of_eq W153.size.symm)) (Nat.le_of_eq W158.size.symm)) (Nat.le_of_eq W163.size.symm)) (Nat.le_of_eq W168.size.symm)) E170.1) K172.1) CR176 S172 Vc178 f179 (by decide) rfl rfl (Or.inr ⟨_, rfl, rfl⟩)
set_option maxRecDepth 65536 in
set_option maxHeartbeats 40000000 in
theorem comes_1 {Post : Tables → Env → Array Value → State → Outcome → State → Prop} (hpost : ∀ tb e args s v u, (limb_1_1.after args s (.returned v) u = true ∧ limb_1_2.after args s (.returned v) u = true ∧ True) → ReturnedEndW s (.returned v) u (Jvm.fieldLocs frame_1_writes args s ++ Jvm.arrayLocs frame_1_arrays args s ++ Jvm.staticLocs frame_1_statics s) 24 1152 → Post tb e args s (.returned v) u) :
    ArmFor flags0 classFile x code maxLocals ret World_1 tables_1 room_1 Calls_1 rest_1 Pre_1 Post := by
  intro l hfl _ _ p e ha hc hk s m args below hf hA hF happ hP
  obtain ⟨hcalls, hrest, hpre⟩ := hP
  obtain ⟨-, -, -, hnamed, -, -, -, hat⟩ := (Spec.applies_iff hf).mp happ
  obtain ⟨hg, hn⟩ := and_e (Cond.before_iff.mp (show (Jvm.Cond.and given_1 narrow_1).before args s = true from hpre))
  obtain ⟨gc, gr0⟩ := and_e hg
  obtain ⟨ga0, gr1⟩ := and_e gr0
  obtain ⟨ga1, gr2⟩ := and_e gr1
  obtain ⟨ga2, gr3⟩ := and_e gr2
  obtain ⟨ga3, gr4⟩ := and_e gr3
  obtain ⟨ga4, gr5⟩ := and_e gr4
  obtain ⟨w0, w1, w2, w3, w4, w5, rfl⟩ : ∃ w0 w1 w2 w3 w4 w5 : Value, args = #[w0, w1, w2, w3, w4, w5] := by
    have hs : args.size = 6 := by simpa [Cond.value, given_1] using gc
    obtain ⟨L⟩ := args
    match L, hs with
    | [w0, w1, w2, w3, w4, w5], _ => exact ⟨w0, w1, w2, w3, w4, w5, rfl⟩
  have hw := fun d (hd : d ∈ tables_1) => atoms_spec (ws := Jvm.Cond.code x code maxLocals ret :: tables_1) hat d (List.mem_cons_of_mem _ hd)
  obtain ⟨hsets, hown0⟩ := atoms_of _ (rest_1_c_eq ▸ (show rest_1_c.before _ s = true from hrest))
  have n5 := not_v (Cond.before_iff.mp (hsets _ (List.mem_of_getElem? (i := 2) rfl)))
  obtain ⟨i0, ei0⟩ := is_v ga0
  obtain rfl : w0 = (.int i0) := Option.some.inj ei0
  obtain ⟨i1, ei1⟩ := is_v ga1
  obtain rfl : w1 = (.int i1) := Option.some.inj ei1
  obtain ⟨i2, ei2⟩ := is_v ga2
  obtain rfl : w2 = (.int i2) := Option.some.inj ei2
  obtain ⟨i3, ei3⟩ := is_v ga3
  obtain rfl : w3 = (.int i3) := Option.some.inj ei3
  obtain ⟨i4, ei4⟩ := is_v ga4
  obtain rfl : w4 = (.int i4) := Option.some.inj ei4
  obtain ⟨i5, ei5⟩ := is_v gr5
  obtain rfl : w5 = (.int i5) := Option.some.inj ei5
  obtain ⟨iG, eG⟩ := is_v (Cond.before_iff.mp (hsets _ (List.mem_of_getElem? (i := 1) rfl)))
  have SG : Sta s s.heap "java/lang/String" "COMPACT_STRINGS" "Z" (.int iG) := Sta.start eG (Or.inl (hsets _ (List.mem_of_getElem? (i := 0) rfl)))
  have cG : ¬ (iG = (0 : Int32)) := gotF (Cond.eq_ints eG (Term.int_eval (0))) n5
  obtain ⟨vF, eF, rF⟩ := isR_v (Cond.before_iff.mp (hsets _ (List.mem_of_getElem? (i := 8) rfl)))
  have SF : Sta s s.heap "jdk/internal/util/Preconditions" "SIOOBE_FORMATTER" "Ljava/util/function/BiFunction;" vF := Sta.start eF (Or.inl (hsets _ (List.mem_of_getElem? (i := 7) rfl)))
  have hCH : CHv s EL s.vm s.heap := CHv.start (own_EW hw) (fun p hp => hcalls.1 p hp) (hsets _ (List.mem_of_getElem? (i := 2) rfl)) (hw19 hw) (hw6 hw)
  obtain ⟨n, o, h1, h2, h3, _, L, rfl, ⟨rfl, N⟩, -, hq⟩ := rm_law l s _ hw tables_1 i0 i1 i2 i3 i4 i5 iG vF s.heap s.heap.size (Nat.le_refl _) (Old.start s) SG cG SF rF p e ha hc hk s m _ below hf ((Spec.applies_iff_loose hf).mp happ).1 ⟨rfl, State.Warmed39.refl s, rfl, hCH, all0⟩ trivial
  refine ⟨n, _, h1, h2, h3, hpost _ _ _ _ _ _ ⟨Cond.after_iff.mpr rfl, Cond.after_iff.mpr (eq_i res_at (Term.int_eval (1)) rfl), trivial⟩ ⟨hq.1, hq.2.1, hq.2.2.1, (hq.2.2.2.sift fun y hy => Or.inr (N y hy)).mono (by decide) (by decide)⟩⟩
theorem main_1_1 : Claimed_1_1 := comes_1 fun _ _ _ _ _ _ h hF => ⟨h.1, hF⟩
theorem main_1_2 : Claimed_1_2 := comes_1 fun _ _ _ _ _ _ h hF => ⟨h.2.1, hF⟩
end Jvm.Pilot.@@N@@
namespace Jvm.Pilot.@@N@@
open Jvm Jvm.ClassFile Sem Op Lib Jvm.Free Jvm.Stand Jvm.Pilot.@@N@@.Jvm.D
/-! MADE BY PROGRAM (witnessworld.py) out of the Statement's table words and the real class files: 20 classes; the members and pool entries that the words name. The judged class is class 1, her method 1. -/
namespace start1
open Jvm.ClassFile
def u (s : String) : CpInfo := .utf8 (stringToUtf16 s)
/-- a pool by its gaps: so many unusable entries, then the entry; so many at the end -/
def gap : Nat → List CpInfo → List CpInfo
  | 0, r => r
  | n + 1, r => .unusable :: gap n r
def poolList (es : List (Nat × CpInfo)) (last : Nat) : List CpInfo := es.foldr (fun e r => gap e.1 (e.2 :: r)) (gap last [])
def pool (es : List (Nat × CpInfo)) (last : Nat) : Array CpInfo := ⟨poolList es last⟩
def fileOf (pool : Array CpInfo) (this : Nat) (attrs : Array Attribute := #[]) (ms : Array MethodInfo := #[]) (fl : Nat := 33) (sup : Nat := 0) (ifs : Array Nat := #[]) (fds : Array FieldInfo := #[]) : ClassFile where
  minorVersion := 0
  majorVersion := 65
  constantPool := pool
  accessFlags := fl
  thisClass := this
  superClass := sup
  interfaces := ifs
  fields := fds
  methods := ms
  attributes := attrs
def plain (name : String) (sup : Option ClassId) : Class where
  name := name
  kind := .ordinary
  loader := none
  accessFlags := 33
  super := sup
  interfaces := #[]
  cf := none
  fields := #[]
  methods := #[]
  instanceTypes := #[]
  staticTypes := #[]
  resolved := #[]
  callSites := []
  init := .initialized
  statics := none
  mirror := none

def pool0 : Array CpInfo := pool [(5, u "<init>"), (0, u "()V"), (1, .class_ 10), (1, u "java/lang/Object")] 113

def k0c0 : Code := { maxStack := 0, maxLocals := 1, code := object_method_1_code, exceptionTable := #[], attributes := #[] }
def k0m0 : Method := { name := "<init>", desc := "()V", sig := { parameters := [], returnType := none }, accessFlags := 1, code := some k0c0 }
/-- java/lang/Object -/
def k0 : Class := { plain "java/lang/Object" none with
  accessFlags := 33
  interfaces := #[]
  cf := some (fileOf pool0 8 #[] #[{ accessFlags := 1, nameIndex := 5, descriptorIndex := 6, attributes := #[] }] 33 0 #[] #[])
  fields := #[]
  methods := #[k0m0]
  instanceTypes := #[]
  staticTypes := #[]
  resolved := Array.replicate 124 none
  statics := none }

def pool1 : Array CpInfo := pool [(2, .class_ 4), (1, u "java/lang/Object"), (0, u "<init>"), (0, u "()V"), (0, .methodref 8 9), (0, .class_ 10), (0, .nameAndType 11 12), (0, u "com/example/warrant/warrant/messages/ExpressionParserEndsPinLaw"), (0, u "pick"), (0, u "(I)C"), (0, .class_ 14), (0, u "java/lang/String"), (0, .methodref 13 16), (0, .nameAndType 5 17), (0, u "([C)V"), (0, .methodref 19 20), (0, .class_ 21), (0, .nameAndType 22 23), (0, u "com/example/warrant/warrant/messages/ExpressionParser"), (0, u "ends"), (0, u "(Ljava/lang/String;)[I"), (0, .methodref 8 25), (0, .nameAndType 26 27), (0, u "at"), (0, u "([I[CII)Z"), (0, .methodref 8 29), (0, .nameAndType 30 31), (0, u "reference"), (0, u "([CII)I"), (0, .methodref 8 33), (0, .nameAndType 34 31), (0, u "step"), (0, .methodref 8 36), (0, .nameAndType 37 38), (0, u "closing"), (0, u "([CIIC)I"), (0, .methodref 8 40), (0, .nameAndType 41 38), (0, u "hop"), (2, u "law"), (0, u "(IIIIII)Z")] 7

def k1m0 : Method := { name := "<init>", desc := "()V", sig := { parameters := [], returnType := none }, accessFlags := 1, code := none }
def k1c1 : Code := { maxStack := 5, maxLocals := 10, code := code, exceptionTable := #[], attributes := #[] }
def k1m1 : Method := { name := "law", desc := "(IIIIII)Z", sig := { parameters := [.int, .int, .int, .int, .int, .int], returnType := some .boolean }, accessFlags := 9, code := some k1c1 }
def k1c2 : Code := { maxStack := 4, maxLocals := 4, code := method_3_code, exceptionTable := #[], attributes := #[] }
def k1m2 : Method := { name := "at", desc := "([I[CII)Z", sig := { parameters := [(.array .int), (.array .char), .int, .int], returnType := some .boolean }, accessFlags := 10, code := some k1c2 }
def k1c3 : Code := { maxStack := 2, maxLocals := 2, code := method_4_code, exceptionTable := #[], attributes := #[] }
def k1m3 : Method := { name := "pick", desc := "(I)C", sig := { parameters := [.int], returnType := some .char }, accessFlags := 10, code := some k1c3 }
def k1c4 : Code := { maxStack := 3, maxLocals := 4, code := method_5_code, exceptionTable := #[], attributes := #[] }
def k1m4 : Method := { name := "reference", desc := "([CII)I", sig := { parameters := [(.array .char), .int, .int], returnType := some .int }, accessFlags := 10, code := some k1c4 }
def k1c5 : Code := { maxStack := 4, maxLocals := 5, code := method_6_code, exceptionTable := #[], attributes := #[] }
def k1m5 : Method := { name := "step", desc := "([CII)I", sig := { parameters := [(.array .char), .int, .int], returnType := some .int }, accessFlags := 10, code := some k1c5 }
def k1c6 : Code := { maxStack := 4, maxLocals := 5, code := method_7_code, exceptionTable := #[], attributes := #[] }
def k1m6 : Method := { name := "closing", desc := "([CIIC)I", sig := { parameters := [(.array .char), .int, .int, .char], returnType := some .int }, accessFlags := 10, code := some k1c6 }
def k1c7 : Code := { maxStack := 2, maxLocals := 4, code := method_8_code, exceptionTable := #[], attributes := #[] }
def k1m7 : Method := { name := "hop", desc := "([CIIC)I", sig := { parameters := [(.array .char), .int, .int, .char], returnType := some .int }, accessFlags := 10, code := some k1c7 }
/-- com/example/warrant/warrant/messages/ExpressionParserEndsPinLaw -/
def k1 : Class := { plain "com/example/warrant/warrant/messages/ExpressionParserEndsPinLaw" (some 0) with
  accessFlags := 49
  interfaces := #[]
  cf := some (fileOf pool1 8 #[] #[{ accessFlags := 1, nameIndex := 5, descriptorIndex := 6, attributes := #[] }, { accessFlags := 9, nameIndex := 44, descriptorIndex := 45, attributes := #[] }, { accessFlags := 10, nameIndex := 26, descriptorIndex := 27, attributes := #[] }, { accessFlags := 10, nameIndex := 11, descriptorIndex := 12, attributes := #[] }, { accessFlags := 10, nameIndex := 30, descriptorIndex := 31, attributes := #[] }, { accessFlags := 10, nameIndex := 34, descriptorIndex := 31, attributes := #[] }, { accessFlags := 10, nameIndex := 37, descriptorIndex := 38, attributes := #[] }, { accessFlags := 10, nameIndex := 41, descriptorIndex := 38, attributes := #[] }] 49 2 #[] #[])
  fields := #[]
  methods := #[k1m0, k1m1, k1m2, k1m3, k1m4, k1m5, k1m6, k1m7]
  instanceTypes := #[]
  staticTypes := #[]
  resolved := Array.replicate 53 none
  statics := none }

def pool2 : Array CpInfo := pool [(1, .class_ 2), (0, u "java/io/Serializable"), (0, .class_ 4), (0, u "java/lang/Object")] 2

/-- java/io/Serializable -/
def k2 : Class := { plain "java/io/Serializable" (some 0) with
  accessFlags := 1537
  interfaces := #[]
  cf := some (fileOf pool2 1 #[] #[] 1537 3 #[] #[])
  fields := #[]
  methods := #[]
  instanceTypes := #[]
  staticTypes := #[]
  resolved := Array.replicate 7 none
  statics := none }

def pool3 : Array CpInfo := pool [(1, .class_ 2), (0, u "java/lang/Comparable"), (0, .class_ 4), (0, u "java/lang/Object")] 7

/-- java/lang/Comparable -/
def k3 : Class := { plain "java/lang/Comparable" (some 0) with
  accessFlags := 1537
  interfaces := #[]
  cf := some (fileOf pool3 1 #[] #[] 1537 3 #[] #[])
  fields := #[]
  methods := #[]
  instanceTypes := #[]
  staticTypes := #[]
  resolved := Array.replicate 12 none
  statics := none }

def pool4 : Array CpInfo := pool [(2, .class_ 4), (1, u "java/lang/CharSequence"), (42, .class_ 48), (0, u "java/lang/CharSequence$1CodePointIterator"), (10, .class_ 60), (0, u "java/lang/CharSequence$1CharIterator"), (5, .class_ 67), (0, u "java/lang/Object")] 63

/-- java/lang/CharSequence -/
def k4 : Class := { plain "java/lang/CharSequence" (some 0) with
  accessFlags := 1537
  interfaces := #[]
  cf := some (fileOf pool4 2 #[.nestMembers #[47, 59]] #[] 1537 66 #[] #[])
  fields := #[]
  methods := #[]
  instanceTypes := #[]
  staticTypes := #[]
  resolved := Array.replicate 131 none
  statics := none }

def pool5 : Array CpInfo := pool [(1, .class_ 2), (0, u "java/lang/constant/Constable"), (0, .class_ 4), (0, u "java/lang/Object")] 6

/-- java/lang/constant/Constable -/
def k5 : Class := { plain "java/lang/constant/Constable" (some 0) with
  accessFlags := 1537
  interfaces := #[]
  cf := some (fileOf pool5 1 #[] #[] 1537 3 #[] #[])
  fields := #[]
  methods := #[]
  instanceTypes := #[]
  staticTypes := #[]
  resolved := Array.replicate 11 none
  statics := none }

def pool6 : Array CpInfo := pool [(1, .class_ 2), (0, u "java/lang/constant/ConstantDesc"), (0, .class_ 4), (0, u "java/lang/Object")] 32

/-- java/lang/constant/ConstantDesc -/
def k6 : Class := { plain "java/lang/constant/ConstantDesc" (some 0) with
  accessFlags := 1537
  interfaces := #[]
  cf := some (fileOf pool6 1 #[] #[] 1537 3 #[] #[])
  fields := #[]
  methods := #[]
  instanceTypes := #[]
  staticTypes := #[]
  resolved := Array.replicate 37 none
  statics := none }

def pool7 : Array CpInfo := pool [(1, .methodref 2 3), (0, .class_ 4), (0, .nameAndType 5 6), (0, u "java/lang/Object"), (0, u "<init>"), (0, u "()V"), (0, .string 8), (0, u ""), (0, .fieldref 10 11), (0, .class_ 12), (0, .nameAndType 13 14), (0, u "java/lang/String"), (0, u "value"), (0, u "[B"), (0, .fieldref 10 16), (0, .nameAndType 17 18), (0, u "coder"), (0, u "B"), (2, u "hash"), (0, u "I"), (2, u "hashIsZero"), (0, u "Z"), (0, .methodref 10 28), (0, .nameAndType 5 29), (0, u "([CIILjava/lang/Void;)V"), (8, .fieldref 10 39), (0, .nameAndType 40 26), (0, u "COMPACT_STRINGS"), (1, .class_ 44), (1, u "java/lang/StringUTF16"), (0, u "compress"), (1, .methodref 42 48), (0, .nameAndType 49 50), (0, u "coderFromArrayLen"), (0, u "([BI)B"), (56, .class_ 109), (1, u "java/lang/StringLatin1"), (32, u "()Z"), (34, .methodref 42 178), (0, .nameAndType 45 179), (0, u "([CII)[B"), (154, u "()I"), (0, .methodref 10 336), (0, .nameAndType 17 337), (0, u "()B"), (25, u "([BI)C"), (27, u "(II)V"), (35, u "(I)C"), (64, .methodref 10 493), (0, .nameAndType 494 142), (0, u "isLatin1"), (0, .methodref 107 496), (0, .nameAndType 497 363), (0, u "charAt"), (3, u "checkIndex"), (5, u "length"), (67, .class_ 576), (0, u "java/lang/CharSequence"), (22, u "CASE_INSENSITIVE_ORDER"), (0, u "Ljava/util/Comparator;"), (409, u "([C)V"), (42, .fieldref 1054 1055), (0, .class_ 1056), (0, .nameAndType 1057 1058), (0, u "jdk/internal/util/Preconditions"), (0, u "SIOOBE_FORMATTER"), (0, u "Ljava/util/function/BiFunction;"), (0, .methodref 1054 1060), (0, .nameAndType 501 1061), (0, u "(IILjava/util/function/BiFunction;)I"), (39, u "serialPersistentFields"), (0, u "[Ljava/io/ObjectStreamField;"), (0, .class_ 1104), (0, u "java/lang/String$CaseInsensitiveComparator"), (1, .class_ 1107), (0, u "java/io/Serializable"), (0, .class_ 1109), (0, u "java/lang/Comparable"), (0, .class_ 1111), (0, u "java/lang/constant/Constable"), (0, .class_ 1113), (0, u "java/lang/constant/ConstantDesc"), (2, u "serialVersionUID"), (0, u "J"), (3, u "REPL"), (0, u "C"), (2, u "LATIN1"), (1, u "UTF16")] 323

def k7m0 : Method := { name := "<init>", desc := "()V", sig := { parameters := [], returnType := none }, accessFlags := 1, code := none }
def k7c1 : Code := { maxStack := 5, maxLocals := 2, code := jdk_42_method_3_code, exceptionTable := #[], attributes := #[] }
def k7m1 : Method := { name := "<init>", desc := "([C)V", sig := { parameters := [(.array .char)], returnType := none }, accessFlags := 1, code := some k7c1 }
def k7c2 : Code := { maxStack := 2, maxLocals := 1, code := jdk_42_method_54_code, exceptionTable := #[], attributes := #[] }
def k7m2 : Method := { name := "length", desc := "()I", sig := { parameters := [], returnType := some .int }, accessFlags := 1, code := some k7c2 }
def k7c3 : Code := { maxStack := 2, maxLocals := 2, code := jdk_42_method_56_code, exceptionTable := #[], attributes := #[] }
def k7m3 : Method := { name := "charAt", desc := "(I)C", sig := { parameters := [.int], returnType := some .char }, accessFlags := 1, code := some k7c3 }
def k7c4 : Code := { maxStack := 4, maxLocals := 6, code := jdk_42_method_149_code, exceptionTable := #[], attributes := #[] }
def k7m4 : Method := { name := "<init>", desc := "([CIILjava/lang/Void;)V", sig := { parameters := [(.array .char), .int, .int, (.object "java/lang/Void")], returnType := none }, accessFlags := 2, code := some k7c4 }
def k7c5 : Code := { maxStack := 1, maxLocals := 1, code := jdk_42_method_152_code, exceptionTable := #[], attributes := #[] }
def k7m5 : Method := { name := "coder", desc := "()B", sig := { parameters := [], returnType := some .byte }, accessFlags := 0, code := some k7c5 }
def k7c6 : Code := { maxStack := 1, maxLocals := 1, code := jdk_42_method_154_code, exceptionTable := #[], attributes := #[] }
def k7m6 : Method := { name := "isLatin1", desc := "()Z", sig := { parameters := [], returnType := some .boolean }, accessFlags := 0, code := some k7c6 }
def k7c7 : Code := { maxStack := 3, maxLocals := 2, code := jdk_42_method_155_code, exceptionTable := #[], attributes := #[] }
def k7m7 : Method := { name := "checkIndex", desc := "(II)V", sig := { parameters := [.int, .int], returnType := none }, accessFlags := 8, code := some k7c7 }
/-- java/lang/String -/
def k7 : Class := { plain "java/lang/String" (some 0) with
  accessFlags := 49
  interfaces := #[2, 3, 4, 5, 6]
  cf := some (fileOf pool7 10 #[.nestMembers #[1103]] #[{ accessFlags := 1, nameIndex := 5, descriptorIndex := 6, attributes := #[] }, { accessFlags := 1, nameIndex := 5, descriptorIndex := 1010, attributes := #[] }, { accessFlags := 1, nameIndex := 507, descriptorIndex := 334, attributes := #[] }, { accessFlags := 1, nameIndex := 497, descriptorIndex := 427, attributes := #[] }, { accessFlags := 2, nameIndex := 5, descriptorIndex := 29, attributes := #[] }, { accessFlags := 0, nameIndex := 17, descriptorIndex := 337, attributes := #[] }, { accessFlags := 0, nameIndex := 494, descriptorIndex := 142, attributes := #[] }, { accessFlags := 8, nameIndex := 501, descriptorIndex := 391, attributes := #[] }] 49 2 #[1106, 1108, 575, 1110, 1112] #[{ accessFlags := 18, nameIndex := 13, descriptorIndex := 14, attributes := #[] }, { accessFlags := 18, nameIndex := 17, descriptorIndex := 18, attributes := #[] }, { accessFlags := 2, nameIndex := 21, descriptorIndex := 22, attributes := #[] }, { accessFlags := 2, nameIndex := 25, descriptorIndex := 26, attributes := #[] }, { accessFlags := 26, nameIndex := 1116, descriptorIndex := 1117, attributes := #[] }, { accessFlags := 24, nameIndex := 40, descriptorIndex := 26, attributes := #[] }, { accessFlags := 26, nameIndex := 1101, descriptorIndex := 1102, attributes := #[] }, { accessFlags := 26, nameIndex := 1121, descriptorIndex := 1122, attributes := #[] }, { accessFlags := 25, nameIndex := 599, descriptorIndex := 600, attributes := #[] }, { accessFlags := 24, nameIndex := 1125, descriptorIndex := 18, attributes := #[] }, { accessFlags := 24, nameIndex := 1127, descriptorIndex := 18, attributes := #[] }])
  fields := #[{ name := "value", type := (.array .byte), accessFlags := 18, slot := 0, constantValue := 0 }, { name := "coder", type := .byte, accessFlags := 18, slot := 1, constantValue := 0 }, { name := "hash", type := .int, accessFlags := 2, slot := 2, constantValue := 0 }, { name := "hashIsZero", type := .boolean, accessFlags := 2, slot := 3, constantValue := 0 }, { name := "serialVersionUID", type := .long, accessFlags := 26, slot := 0, constantValue := 0 }, { name := "COMPACT_STRINGS", type := .boolean, accessFlags := 24, slot := 1, constantValue := 0 }, { name := "serialPersistentFields", type := (.array (.object "java/io/ObjectStreamField")), accessFlags := 26, slot := 2, constantValue := 0 }, { name := "REPL", type := .char, accessFlags := 26, slot := 3, constantValue := 0 }, { name := "CASE_INSENSITIVE_ORDER", type := (.object "java/util/Comparator"), accessFlags := 25, slot := 4, constantValue := 0 }, { name := "LATIN1", type := .byte, accessFlags := 24, slot := 5, constantValue := 0 }, { name := "UTF16", type := .byte, accessFlags := 24, slot := 6, constantValue := 0 }]
  methods := #[k7m0, k7m1, k7m2, k7m3, k7m4, k7m5, k7m6, k7m7]
  instanceTypes := #[(.array .byte), .byte, .int, .boolean]
  staticTypes := #[.long, .boolean, (.array (.object "java/io/ObjectStreamField")), .char, (.object "java/util/Comparator"), .byte, .byte]
  resolved := Array.replicate 1451 none
  statics := some 0 }

def pool8 : Array CpInfo := pool [(2, .class_ 4), (1, u "java/lang/Object"), (6, .class_ 13), (1, u "com/example/warrant/warrant/messages/ExpressionParser"), (0, u "steps"), (0, u "Ljava/util/List;"), (5, u "open"), (0, u "Ljava/util/Deque;"), (2, u "text"), (0, u "Ljava/lang/String;"), (6, u "tokens"), (7, .methodref 42 43), (0, .class_ 44), (0, .nameAndType 45 46), (0, u "java/lang/String"), (0, u "length"), (0, u "()I"), (0, .methodref 42 48), (0, .nameAndType 49 50), (0, u "charAt"), (0, u "(I)C"), (2, u "next"), (0, u "I"), (37, .class_ 94), (1, u "com/example/warrant/warrant/messages/ExpressionParser$Token"), (3, .class_ 100), (1, u "com/example/warrant/warrant/messages/ExpressionParser$Kind"), (21, u "PREFIX_OPERATORS"), (0, u "Ljava/util/Map;"), (5, .class_ 130), (0, u "com/example/warrant/warrant/messages/ExpressionParser$Prefix"), (18, .class_ 150), (0, u "com/example/warrant/warrant/messages/ExpressionParser$Parenthesis"), (17, .class_ 169), (0, u "com/example/warrant/warrant/messages/ExpressionParser$Index"), (3, u "INFIX_OPERATORS"), (0, .class_ 175), (0, u "com/example/warrant/warrant/messages/ExpressionParser$Infix"), (5, u "SHORT_CIRCUITS"), (5, .class_ 188), (0, u "com/example/warrant/warrant/messages/ExpressionParser$ShortCircuit"), (5, .class_ 195), (0, u "com/example/warrant/warrant/messages/ExpressionParser$Choice"), (28, .class_ 225), (0, u "com/example/warrant/warrant/messages/ExpressionParser$Arguments"), (9, .class_ 236), (0, u "com/example/warrant/warrant/messages/ExpressionParser$Otherwise"), (11, .class_ 249), (0, u "com/example/warrant/warrant/messages/ExpressionParser$Open"), (16, .class_ 267), (0, u "com/example/warrant/warrant/messages/ExpressionParser$Operator"), (21, u "NUMBER"), (0, u "Ljava/util/regex/Pattern;"), (60, u "SYMBOLS"), (28, u "WORDS"), (224, u "CONDITIONAL"), (2, u "OR"), (1, u "AND"), (1, u "EQUALITY"), (1, u "RELATIONAL"), (1, u "ADDITIVE"), (1, u "MULTIPLICATIVE"), (1, u "PREFIX"), (11, u "ends"), (0, u "(Ljava/lang/String;)[I")] 184

def k8c0 : Code := { maxStack := 5, maxLocals := 10, code := prog_7_method_3_code, exceptionTable := #[], attributes := #[] }
def k8m0 : Method := { name := "ends", desc := "(Ljava/lang/String;)[I", sig := { parameters := [(.object "java/lang/String")], returnType := some (.array .int) }, accessFlags := 8, code := some k8c0 }
/-- com/example/warrant/warrant/messages/ExpressionParser -/
def k8 : Class := { plain "com/example/warrant/warrant/messages/ExpressionParser" (some 0) with
  accessFlags := 48
  interfaces := #[]
  cf := some (fileOf pool8 11 #[.nestMembers #[194, 224, 168, 149, 235, 187, 174, 129, 266, 248, 92, 98]] #[{ accessFlags := 8, nameIndex := 632, descriptorIndex := 633, attributes := #[] }] 48 2 #[] #[{ accessFlags := 26, nameIndex := 289, descriptorIndex := 290, attributes := #[] }, { accessFlags := 26, nameIndex := 380, descriptorIndex := 123, attributes := #[] }, { accessFlags := 26, nameIndex := 351, descriptorIndex := 15, attributes := #[] }, { accessFlags := 26, nameIndex := 605, descriptorIndex := 54, attributes := #[] }, { accessFlags := 26, nameIndex := 608, descriptorIndex := 54, attributes := #[] }, { accessFlags := 26, nameIndex := 610, descriptorIndex := 54, attributes := #[] }, { accessFlags := 26, nameIndex := 612, descriptorIndex := 54, attributes := #[] }, { accessFlags := 26, nameIndex := 614, descriptorIndex := 54, attributes := #[] }, { accessFlags := 26, nameIndex := 616, descriptorIndex := 54, attributes := #[] }, { accessFlags := 26, nameIndex := 618, descriptorIndex := 54, attributes := #[] }, { accessFlags := 26, nameIndex := 620, descriptorIndex := 54, attributes := #[] }, { accessFlags := 26, nameIndex := 122, descriptorIndex := 123, attributes := #[] }, { accessFlags := 26, nameIndex := 173, descriptorIndex := 123, attributes := #[] }, { accessFlags := 26, nameIndex := 181, descriptorIndex := 123, attributes := #[] }, { accessFlags := 18, nameIndex := 25, descriptorIndex := 26, attributes := #[] }, { accessFlags := 18, nameIndex := 33, descriptorIndex := 15, attributes := #[] }, { accessFlags := 2, nameIndex := 53, descriptorIndex := 54, attributes := #[] }, { accessFlags := 18, nameIndex := 14, descriptorIndex := 15, attributes := #[] }, { accessFlags := 18, nameIndex := 21, descriptorIndex := 22, attributes := #[] }])
  fields := #[{ name := "NUMBER", type := (.object "java/util/regex/Pattern"), accessFlags := 26, slot := 0, constantValue := 0 }, { name := "WORDS", type := (.object "java/util/Map"), accessFlags := 26, slot := 1, constantValue := 0 }, { name := "SYMBOLS", type := (.object "java/util/List"), accessFlags := 26, slot := 2, constantValue := 0 }, { name := "CONDITIONAL", type := .int, accessFlags := 26, slot := 3, constantValue := 0 }, { name := "OR", type := .int, accessFlags := 26, slot := 4, constantValue := 0 }, { name := "AND", type := .int, accessFlags := 26, slot := 5, constantValue := 0 }, { name := "EQUALITY", type := .int, accessFlags := 26, slot := 6, constantValue := 0 }, { name := "RELATIONAL", type := .int, accessFlags := 26, slot := 7, constantValue := 0 }, { name := "ADDITIVE", type := .int, accessFlags := 26, slot := 8, constantValue := 0 }, { name := "MULTIPLICATIVE", type := .int, accessFlags := 26, slot := 9, constantValue := 0 }, { name := "PREFIX", type := .int, accessFlags := 26, slot := 10, constantValue := 0 }, { name := "PREFIX_OPERATORS", type := (.object "java/util/Map"), accessFlags := 26, slot := 11, constantValue := 0 }, { name := "INFIX_OPERATORS", type := (.object "java/util/Map"), accessFlags := 26, slot := 12, constantValue := 0 }, { name := "SHORT_CIRCUITS", type := (.object "java/util/Map"), accessFlags := 26, slot := 13, constantValue := 0 }, { name := "text", type := (.object "java/lang/String"), accessFlags := 18, slot := 0, constantValue := 0 }, { name := "tokens", type := (.object "java/util/List"), accessFlags := 18, slot := 1, constantValue := 0 }, { name := "next", type := .int, accessFlags := 2, slot := 2, constantValue := 0 }, { name := "steps", type := (.object "java/util/List"), accessFlags := 18, slot := 3, constantValue := 0 }, { name := "open", type := (.object "java/util/Deque"), accessFlags := 18, slot := 4, constantValue := 0 }]
  methods := #[k8m0]
  instanceTypes := #[(.object "java/lang/String"), (.object "java/util/List"), .int, (.object "java/util/List"), (.object "java/util/Deque")]
  staticTypes := #[(.object "java/util/regex/Pattern"), (.object "java/util/Map"), (.object "java/util/List"), .int, .int, .int, .int, .int, .int, .int, .int, (.object "java/util/Map"), (.object "java/util/Map"), (.object "java/util/Map")]
  resolved := Array.replicate 818 none
  statics := none }

def pool9 : Array CpInfo := pool [(6, .class_ 8), (1, u "java/lang/Object"), (0, u "<init>"), (0, u "()V"), (1, .class_ 14), (1, u "java/lang/StringUTF16"), (31, u "$assertionsDisabled"), (0, u "Z"), (13, u "HI_BYTE_SHIFT"), (0, u "I"), (2, u "LO_BYTE_SHIFT"), (49, .methodref 12 116), (0, .nameAndType 117 118), (0, u "compress"), (0, u "([CI[BII)I"), (3, u "([CII)[B"), (138, u "coderFromArrayLen"), (0, u "([BI)B"), (106, .class_ 371), (1, u "java/lang/StringUTF16$LinesSpliterator"), (58, u "MAX_LENGTH"), (196, .class_ 628), (0, u "java/lang/StringUTF16$CodePointsSpliterator"), (0, .class_ 630), (0, u "java/lang/StringUTF16$CharsSpliterator")] 4

def k9m0 : Method := { name := "<init>", desc := "()V", sig := { parameters := [], returnType := none }, accessFlags := 0, code := none }
def k9c1 : Code := { maxStack := 2, maxLocals := 2, code := jdk_52_method_15_code, exceptionTable := #[], attributes := #[] }
def k9m1 : Method := { name := "coderFromArrayLen", desc := "([BI)B", sig := { parameters := [(.array .byte), .int], returnType := some .byte }, accessFlags := 8, code := some k9c1 }
def k9c2 : Code := { maxStack := 5, maxLocals := 6, code := jdk_52_method_16_code, exceptionTable := #[], attributes := #[] }
def k9m2 : Method := { name := "compress", desc := "([CII)[B", sig := { parameters := [(.array .char), .int, .int], returnType := some (.array .byte) }, accessFlags := 9, code := some k9c2 }
def k9c3 : Code := { maxStack := 3, maxLocals := 7, code := jdk_52_method_21_code, exceptionTable := #[], attributes := #[] }
def k9m3 : Method := { name := "compress", desc := "([CI[BII)I", sig := { parameters := [(.array .char), .int, (.array .byte), .int, .int], returnType := some .int }, accessFlags := 9, code := some k9c3 }
/-- java/lang/StringUTF16 -/
def k9 : Class := { plain "java/lang/StringUTF16" (some 0) with
  accessFlags := 48
  interfaces := #[]
  cf := some (fileOf pool9 12 #[.nestMembers #[627, 629, 369]] #[{ accessFlags := 0, nameIndex := 9, descriptorIndex := 10, attributes := #[] }, { accessFlags := 8, nameIndex := 261, descriptorIndex := 262, attributes := #[] }, { accessFlags := 9, nameIndex := 117, descriptorIndex := 122, attributes := #[] }, { accessFlags := 9, nameIndex := 117, descriptorIndex := 118, attributes := #[] }] 48 6 #[] #[{ accessFlags := 26, nameIndex := 61, descriptorIndex := 62, attributes := #[] }, { accessFlags := 26, nameIndex := 65, descriptorIndex := 62, attributes := #[] }, { accessFlags := 24, nameIndex := 430, descriptorIndex := 62, attributes := #[] }, { accessFlags := 4120, nameIndex := 46, descriptorIndex := 47, attributes := #[] }])
  fields := #[{ name := "HI_BYTE_SHIFT", type := .int, accessFlags := 26, slot := 0, constantValue := 0 }, { name := "LO_BYTE_SHIFT", type := .int, accessFlags := 26, slot := 1, constantValue := 0 }, { name := "MAX_LENGTH", type := .int, accessFlags := 24, slot := 2, constantValue := 0 }, { name := "$assertionsDisabled", type := .boolean, accessFlags := 4120, slot := 3, constantValue := 0 }]
  methods := #[k9m0, k9m1, k9m2, k9m3]
  instanceTypes := #[]
  staticTypes := #[.int, .int, .int, .boolean]
  resolved := Array.replicate 635 none
  statics := none }

def pool10 : Array CpInfo := pool [(1, .class_ 2), (0, u "java/lang/String"), (1, .class_ 6), (1, u "java/lang/Object"), (0, u "<init>"), (0, u "()V"), (0, .methodref 1 10), (0, .nameAndType 11 12), (0, u "checkIndex"), (0, u "(II)V"), (1, .class_ 16), (1, u "java/lang/StringLatin1"), (36, u "([BI)C"), (67, u "$assertionsDisabled"), (0, u "Z"), (98, .class_ 223), (1, u "java/lang/StringLatin1$LinesSpliterator"), (28, u "charAt"), (137, .class_ 391), (0, u "java/lang/StringLatin1$CharsSpliterator")] 3

def k10m0 : Method := { name := "<init>", desc := "()V", sig := { parameters := [], returnType := none }, accessFlags := 0, code := none }
def k10c1 : Code := { maxStack := 2, maxLocals := 2, code := jdk_43_method_2_code, exceptionTable := #[], attributes := #[] }
def k10m1 : Method := { name := "charAt", desc := "([BI)C", sig := { parameters := [(.array .byte), .int], returnType := some .char }, accessFlags := 9, code := some k10c1 }
/-- java/lang/StringLatin1 -/
def k10 : Class := { plain "java/lang/StringLatin1" (some 0) with
  accessFlags := 48
  interfaces := #[]
  cf := some (fileOf pool10 14 #[.nestMembers #[390, 221]] #[{ accessFlags := 0, nameIndex := 7, descriptorIndex := 8, attributes := #[] }, { accessFlags := 9, nameIndex := 252, descriptorIndex := 53, attributes := #[] }] 48 4 #[] #[{ accessFlags := 4120, nameIndex := 121, descriptorIndex := 122, attributes := #[] }])
  fields := #[{ name := "$assertionsDisabled", type := .boolean, accessFlags := 4120, slot := 0, constantValue := 0 }]
  methods := #[k10m0, k10m1]
  instanceTypes := #[]
  staticTypes := #[.boolean]
  resolved := Array.replicate 395 none
  statics := none }

def pool11 : Array CpInfo := pool [(2, .class_ 4), (1, u "java/lang/Object"), (0, u "<init>"), (0, u "()V"), (17, .class_ 26), (1, u "jdk/internal/util/Preconditions"), (6, u "checkIndex"), (21, .class_ 56), (0, u "jdk/internal/util/Preconditions$4"), (57, .class_ 115), (0, u "jdk/internal/util/Preconditions$1"), (7, u "SIOOBE_FORMATTER"), (0, u "Ljava/util/function/BiFunction;"), (0, .class_ 126), (0, u "jdk/internal/util/Preconditions$2"), (3, u "AIOOBE_FORMATTER"), (0, .class_ 132), (0, u "jdk/internal/util/Preconditions$3"), (3, u "IOOBE_FORMATTER"), (41, u "(IILjava/util/function/BiFunction;)I")] 15

def k11m0 : Method := { name := "<init>", desc := "()V", sig := { parameters := [], returnType := none }, accessFlags := 1, code := none }
def k11c1 : Code := { maxStack := 3, maxLocals := 3, code := jdk_41_method_11_code, exceptionTable := #[], attributes := #[] }
def k11m1 : Method := { name := "checkIndex", desc := "(IILjava/util/function/BiFunction;)I", sig := { parameters := [.int, .int, (.object "java/util/function/BiFunction")], returnType := some .int }, accessFlags := 9, code := some k11c1 }
/-- jdk/internal/util/Preconditions -/
def k11 : Class := { plain "jdk/internal/util/Preconditions" (some 0) with
  accessFlags := 33
  interfaces := #[]
  cf := some (fileOf pool11 24 #[.nestMembers #[55, 131, 125, 114]] #[{ accessFlags := 1, nameIndex := 5, descriptorIndex := 6, attributes := #[] }, { accessFlags := 9, nameIndex := 33, descriptorIndex := 178, attributes := #[] }] 33 2 #[] #[{ accessFlags := 25, nameIndex := 123, descriptorIndex := 124, attributes := #[] }, { accessFlags := 25, nameIndex := 130, descriptorIndex := 124, attributes := #[] }, { accessFlags := 25, nameIndex := 136, descriptorIndex := 124, attributes := #[] }])
  fields := #[{ name := "SIOOBE_FORMATTER", type := (.object "java/util/function/BiFunction"), accessFlags := 25, slot := 0, constantValue := 0 }, { name := "AIOOBE_FORMATTER", type := (.object "java/util/function/BiFunction"), accessFlags := 25, slot := 1, constantValue := 0 }, { name := "IOOBE_FORMATTER", type := (.object "java/util/function/BiFunction"), accessFlags := 25, slot := 2, constantValue := 0 }]
  methods := #[k11m0, k11m1]
  instanceTypes := #[]
  staticTypes := #[(.object "java/util/function/BiFunction"), (.object "java/util/function/BiFunction"), (.object "java/util/function/BiFunction")]
  resolved := Array.replicate 194 none
  statics := some 1 }

def pool12 : Array CpInfo := pool [(9, u "<init>"), (6, .class_ 18), (1, u "java/lang/Object"), (0, u "()V"), (1, .class_ 23), (1, u "jdk/internal/util/ArraysSupport"), (0, u "LOG2_ARRAY_LONG_INDEX_SCALE"), (0, u "I"), (2, u "U"), (0, u "Ljdk/internal/misc/Unsafe;"), (8, u "BIG_ENDIAN"), (0, u "Z"), (8, u "LOG2_BYTE_BIT_SIZE"), (4, u "LOG2_ARRAY_INT_INDEX_SCALE"), (54, u "JLA"), (0, u "Ljdk/internal/access/JavaLangAccess;"), (11, u "LOG2_ARRAY_BOOLEAN_INDEX_SCALE"), (9, u "LOG2_ARRAY_BYTE_INDEX_SCALE"), (5, u "LOG2_ARRAY_CHAR_INDEX_SCALE"), (5, u "LOG2_ARRAY_SHORT_INDEX_SCALE"), (18, u "LOG2_ARRAY_FLOAT_INDEX_SCALE"), (24, u "LOG2_ARRAY_DOUBLE_INDEX_SCALE"), (89, u "T_BOOLEAN"), (2, u "T_CHAR"), (1, u "T_FLOAT"), (1, u "T_DOUBLE"), (1, u "T_BYTE"), (1, u "T_SHORT"), (1, u "T_INT"), (1, u "T_LONG"), (1, u "SOFT_MAX_ARRAY_LENGTH")] 83

def k12m0 : Method := { name := "<init>", desc := "()V", sig := { parameters := [], returnType := none }, accessFlags := 2, code := none }
/-- jdk/internal/util/ArraysSupport -/
def k12 : Class := { plain "jdk/internal/util/ArraysSupport" (some 0) with
  accessFlags := 33
  interfaces := #[]
  cf := some (fileOf pool12 21 #[] #[{ accessFlags := 2, nameIndex := 9, descriptorIndex := 19, attributes := #[] }] 33 16 #[] #[{ accessFlags := 24, nameIndex := 28, descriptorIndex := 29, attributes := #[] }, { accessFlags := 26, nameIndex := 38, descriptorIndex := 39, attributes := #[] }, { accessFlags := 25, nameIndex := 121, descriptorIndex := 25, attributes := #[] }, { accessFlags := 25, nameIndex := 131, descriptorIndex := 25, attributes := #[] }, { accessFlags := 25, nameIndex := 137, descriptorIndex := 25, attributes := #[] }, { accessFlags := 25, nameIndex := 143, descriptorIndex := 25, attributes := #[] }, { accessFlags := 25, nameIndex := 53, descriptorIndex := 25, attributes := #[] }, { accessFlags := 25, nameIndex := 24, descriptorIndex := 25, attributes := #[] }, { accessFlags := 25, nameIndex := 162, descriptorIndex := 25, attributes := #[] }, { accessFlags := 25, nameIndex := 187, descriptorIndex := 25, attributes := #[] }, { accessFlags := 26, nameIndex := 48, descriptorIndex := 25, attributes := #[] }, { accessFlags := 25, nameIndex := 277, descriptorIndex := 25, attributes := #[] }, { accessFlags := 25, nameIndex := 280, descriptorIndex := 25, attributes := #[] }, { accessFlags := 25, nameIndex := 282, descriptorIndex := 25, attributes := #[] }, { accessFlags := 25, nameIndex := 284, descriptorIndex := 25, attributes := #[] }, { accessFlags := 25, nameIndex := 286, descriptorIndex := 25, attributes := #[] }, { accessFlags := 25, nameIndex := 288, descriptorIndex := 25, attributes := #[] }, { accessFlags := 25, nameIndex := 290, descriptorIndex := 25, attributes := #[] }, { accessFlags := 25, nameIndex := 292, descriptorIndex := 25, attributes := #[] }, { accessFlags := 26, nameIndex := 108, descriptorIndex := 109, attributes := #[] }, { accessFlags := 25, nameIndex := 294, descriptorIndex := 25, attributes := #[] }])
  fields := #[{ name := "U", type := (.object "jdk/internal/misc/Unsafe"), accessFlags := 24, slot := 0, constantValue := 0 }, { name := "BIG_ENDIAN", type := .boolean, accessFlags := 26, slot := 1, constantValue := 0 }, { name := "LOG2_ARRAY_BOOLEAN_INDEX_SCALE", type := .int, accessFlags := 25, slot := 2, constantValue := 0 }, { name := "LOG2_ARRAY_BYTE_INDEX_SCALE", type := .int, accessFlags := 25, slot := 3, constantValue := 0 }, { name := "LOG2_ARRAY_CHAR_INDEX_SCALE", type := .int, accessFlags := 25, slot := 4, constantValue := 0 }, { name := "LOG2_ARRAY_SHORT_INDEX_SCALE", type := .int, accessFlags := 25, slot := 5, constantValue := 0 }, { name := "LOG2_ARRAY_INT_INDEX_SCALE", type := .int, accessFlags := 25, slot := 6, constantValue := 0 }, { name := "LOG2_ARRAY_LONG_INDEX_SCALE", type := .int, accessFlags := 25, slot := 7, constantValue := 0 }, { name := "LOG2_ARRAY_FLOAT_INDEX_SCALE", type := .int, accessFlags := 25, slot := 8, constantValue := 0 }, { name := "LOG2_ARRAY_DOUBLE_INDEX_SCALE", type := .int, accessFlags := 25, slot := 9, constantValue := 0 }, { name := "LOG2_BYTE_BIT_SIZE", type := .int, accessFlags := 26, slot := 10, constantValue := 0 }, { name := "T_BOOLEAN", type := .int, accessFlags := 25, slot := 11, constantValue := 0 }, { name := "T_CHAR", type := .int, accessFlags := 25, slot := 12, constantValue := 0 }, { name := "T_FLOAT", type := .int, accessFlags := 25, slot := 13, constantValue := 0 }, { name := "T_DOUBLE", type := .int, accessFlags := 25, slot := 14, constantValue := 0 }, { name := "T_BYTE", type := .int, accessFlags := 25, slot := 15, constantValue := 0 }, { name := "T_SHORT", type := .int, accessFlags := 25, slot := 16, constantValue := 0 }, { name := "T_INT", type := .int, accessFlags := 25, slot := 17, constantValue := 0 }, { name := "T_LONG", type := .int, accessFlags := 25, slot := 18, constantValue := 0 }, { name := "JLA", type := (.object "jdk/internal/access/JavaLangAccess"), accessFlags := 26, slot := 19, constantValue := 0 }, { name := "SOFT_MAX_ARRAY_LENGTH", type := .int, accessFlags := 25, slot := 20, constantValue := 0 }]
  methods := #[k12m0]
  instanceTypes := #[]
  staticTypes := #[(.object "jdk/internal/misc/Unsafe"), .boolean, .int, .int, .int, .int, .int, .int, .int, .int, .int, .int, .int, .int, .int, .int, .int, .int, .int, (.object "jdk/internal/access/JavaLangAccess"), .int]
  resolved := Array.replicate 378 none
  statics := none }

def pool13 : Array CpInfo := pool [(1, u "java/lang/Cloneable"), (0, .class_ 1), (0, u "java/lang/Object"), (0, .class_ 3)] 3

/-- java/lang/Cloneable -/
def k13 : Class := { plain "java/lang/Cloneable" (some 0) with
  accessFlags := 1537
  interfaces := #[]
  cf := some (fileOf pool13 2 #[] #[] 1537 4 #[] #[])
  fields := #[]
  methods := #[]
  instanceTypes := #[]
  staticTypes := #[]
  resolved := Array.replicate 8 none
  statics := none }

/-- the primitive byte -/
def k14 : Class := { plain "byte" none with kind := .primitive 'B', accessFlags := 0x411 }
/-- [B -/
def k15 : Class := { plain "[B" (some 0) with kind := .array 14 .byte, interfaces := #[13, 2], accessFlags := 1041 }

/-- the primitive char -/
def k16 : Class := { plain "char" none with kind := .primitive 'C', accessFlags := 0x411 }
/-- [C -/
def k17 : Class := { plain "[C" (some 0) with kind := .array 16 .char, interfaces := #[13, 2], accessFlags := 1041 }

/-- the primitive int -/
def k18 : Class := { plain "int" none with kind := .primitive 'I', accessFlags := 0x411 }
/-- [I -/
def k19 : Class := { plain "[I" (some 0) with kind := .array 18 .int, interfaces := #[13, 2], accessFlags := 1041 }

def heap : Heap := #[{ cls := 7, slots := #[.long 0, .int 1, .null, .int 0, .null, .int 0, .int 0], vm := .statics 7 },
  { cls := 11, slots := #[.null, .null, .null], vm := .statics 11 }]
def classes : Array Class := #[k0, k1, k2, k3, k4, k5, k6, k7, k8, k9, k10, k11, k12, k13, k14, k15, k16, k17, k18, k19]
def interned : List (Array UInt16 × Addr) := []
def slotsUsed : Nat := 10
def theMethod : MethodId := ⟨1, 1⟩
def args0 : Array Value := #[.int 3, .int 8, .int 1, .int 520, .int 0, .int 2]
def aboutOver (below : List Frame) : State where
  vm := { classes := classes, interned := interned.toArray }
  heap := heap
  slotsUsed := slotsUsed
  threads := #[{ frames := .invoking theMethod args0 :: below }]
def below0 : List Frame := [.native { method := ⟨0, 0⟩, args := #[] }]
def about1 : State := aboutOver below0
def p0 : Program := .bare "" "" ""
def e0 : Env := launch0.env 0 0 0
theorem w_frames : about1.frames = Frame.invoking theMethod args0 :: below0 := rfl
set_option maxRecDepth 65536 in
theorem w_args : argsFit about1.vm theMethod args0 = true := by decide +kernel
set_option maxRecDepth 65536 in
theorem w_heap : heapFits about1 = true := by decide +kernel
set_option maxRecDepth 65536 in
theorem w_runnable : about1.curStatus? = some .runnable := by decide +kernel
set_option maxRecDepth 65536 in
theorem w_alone : about1.alone = true := by decide +kernel
set_option maxRecDepth 65536 in
theorem w_named : about1.methodNamed? x = some theMethod := by decide +kernel
set_option maxRecDepth 65536 in
theorem w_hears : about1.hears theMethod below0 = true := by decide +kernel
set_option maxRecDepth 65536 in
theorem w_ripe : about1.ripe theMethod args0 below0 = true := by decide +kernel
theorem w_running : about1.status = .running := rfl
set_option maxRecDepth 65536 in
theorem w_room : about1.hasRoom e0.platform room_1 = true :=
  launch0.hasRoom_least _ room_1 (by decide +kernel) (by decide +kernel) (by decide +kernel) (by decide +kernel) (by decide +kernel) (by decide +kernel)
theorem allAtoms_all (ts : List Jvm.Cond) (a : Array Jvm.Value) (st : Jvm.State) : (allAtoms ts).before a st = ts.all (fun c => c.before a st) := by
  induction ts with
  | nil => rfl
  | cons c t ih =>
    show (Jvm.Cond.and c (allAtoms t)).before a st = _
    rw [Jvm.Cond.before_and, ih, List.all_cons]
def words1 : List Jvm.Cond := Jvm.Cond.code x code maxLocals ret :: tables_1
/-- a 'code' word, met by the world's own term for the bytes: nothing is compared byte by byte -/
theorem code_word {y : MethodName} {bytes : ByteArray} {mx : Nat} {rt : Option FieldType} {a : Array Value} {s : State} {m : MethodId} {meth : Method} {c : Code} (h1 : s.methodNamed? y = some m) (h2 : s.vm.method? m = some meth) (h3 : meth.code = some c) (h4 : c.code = bytes)
    (h5 : (c.maxLocals == mx && c.exceptionTable.isEmpty && decide (c.maxStack ≤ mostOperands) && decide (meth.sig.returnType = rt) && !meth.locks && decide (parseMethodDescriptor y.desc = some meth.sig)) = true) : (Jvm.Cond.code y bytes mx rt).before a s = true := by
  simp only [Bool.and_eq_true, beq_iff_eq, Bool.not_eq_true', decide_eq_true_eq] at h5
  obtain ⟨⟨⟨⟨⟨g1, g2⟩, g3⟩, g4⟩, g5⟩, g6⟩ := h5
  simp [Cond.before, Cond.holds, Cond.value, h1, h2, h3, h4, g1, g2, g3, g4, g5, g6]
def isCode : Jvm.Cond → Bool
  | .code _ _ _ _ => true
  | _ => false
theorem all_split {L : List Jvm.Cond} {P : Jvm.Cond → Bool} (h1 : L.all (fun c => isCode c || P c) = true) (h2 : ∀ c ∈ L.filter isCode, P c = true) : L.all P = true := by
  refine List.all_eq_true.mpr fun c hc => ?_
  have h := List.all_eq_true.mp h1 c hc
  rcases Bool.eq_false_or_eq_true (isCode c) with hi | hi
  · exact h2 c (List.mem_filter.mpr ⟨hc, hi⟩)
  · simpa [hi] using h
set_option maxRecDepth 65536 in
theorem w_c0 : (Jvm.Cond.code x code maxLocals ret).before args0 about1 = true := code_word (m := ⟨1, 1⟩) (meth := k1m1) (c := k1c1) (by decide +kernel) rfl rfl rfl (by decide +kernel)
set_option maxRecDepth 65536 in
theorem w_c1 : (Jvm.Cond.code ({ cls := "com/example/warrant/warrant/messages/ExpressionParserEndsPinLaw", name := "pick", desc := "(I)C" } : Jvm.MethodName) method_4_code (2 : Nat) (Option.some Jvm.ClassFile.FieldType.char)).before args0 about1 = true := code_word (m := ⟨1, 3⟩) (meth := k1m3) (c := k1c3) (by decide +kernel) rfl rfl rfl (by decide +kernel)
set_option maxRecDepth 65536 in
theorem w_c2 : (Jvm.Cond.code ({ cls := "java/lang/String", name := "<init>", desc := "([C)V" } : Jvm.MethodName) jdk_42_method_3_code (2 : Nat) (Option.none : Option Jvm.ClassFile.FieldType)).before args0 about1 = true := code_word (m := ⟨7, 1⟩) (meth := k7m1) (c := k7c1) (by decide +kernel) rfl rfl rfl (by decide +kernel)
set_option maxRecDepth 65536 in
theorem w_c3 : (Jvm.Cond.code ({ cls := "java/lang/String", name := "<init>", desc := "([CIILjava/lang/Void;)V" } : Jvm.MethodName) jdk_42_method_149_code (6 : Nat) (Option.none : Option Jvm.ClassFile.FieldType)).before args0 about1 = true := code_word (m := ⟨7, 4⟩) (meth := k7m4) (c := k7c4) (by decide +kernel) rfl rfl rfl (by decide +kernel)
set_option maxRecDepth 65536 in
theorem w_c4 : (Jvm.Cond.code ({ cls := "java/lang/Object", name := "<init>", desc := "()V" } : Jvm.MethodName) object_method_1_code (1 : Nat) (Option.none : Option Jvm.ClassFile.FieldType)).before args0 about1 = true := code_word (m := ⟨0, 0⟩) (meth := k0m0) (c := k0c0) (by decide +kernel) rfl rfl rfl (by decide +kernel)
set_option maxRecDepth 65536 in
theorem w_c5 : (Jvm.Cond.code ({ cls := "com/example/warrant/warrant/messages/ExpressionParser", name := "ends", desc := "(Ljava/lang/String;)[I" } : Jvm.MethodName) prog_7_method_3_code (10 : Nat) (Option.some (Jvm.ClassFile.FieldType.array Jvm.ClassFile.FieldType.int))).before args0 about1 = true := code_word (m := ⟨8, 0⟩) (meth := k8m0) (c := k8c0) (by decide +kernel) rfl rfl rfl (by decide +kernel)
set_option maxRecDepth 65536 in
theorem w_c6 : (Jvm.Cond.code ({ cls := "java/lang/String", name := "length", desc := "()I" } : Jvm.MethodName) jdk_42_method_54_code (1 : Nat) (Option.some Jvm.ClassFile.FieldType.int)).before args0 about1 = true := code_word (m := ⟨7, 2⟩) (meth := k7m2) (c := k7c2) (by decide +kernel) rfl rfl rfl (by decide +kernel)
set_option maxRecDepth 65536 in
theorem w_c7 : (Jvm.Cond.code ({ cls := "java/lang/String", name := "coder", desc := "()B" } : Jvm.MethodName) jdk_42_method_152_code (1 : Nat) (Option.some Jvm.ClassFile.FieldType.byte)).before args0 about1 = true := code_word (m := ⟨7, 5⟩) (meth := k7m5) (c := k7c5) (by decide +kernel) rfl rfl rfl (by decide +kernel)
set_option maxRecDepth 65536 in
theorem w_c8 : (Jvm.Cond.code ({ cls := "com/example/warrant/warrant/messages/ExpressionParserEndsPinLaw", name := "at", desc := "([I[CII)Z" } : Jvm.MethodName) method_3_code (4 : Nat) (Option.some Jvm.ClassFile.FieldType.boolean)).before args0 about1 = true := code_word (m := ⟨1, 2⟩) (meth := k1m2) (c := k1c2) (by decide +kernel) rfl rfl rfl (by decide +kernel)
set_option maxRecDepth 65536 in
theorem w_c9 : (Jvm.Cond.code ({ cls := "com/example/warrant/warrant/messages/ExpressionParserEndsPinLaw", name := "reference", desc := "([CII)I" } : Jvm.MethodName) method_5_code (4 : Nat) (Option.some Jvm.ClassFile.FieldType.int)).before args0 about1 = true := code_word (m := ⟨1, 4⟩) (meth := k1m4) (c := k1c4) (by decide +kernel) rfl rfl rfl (by decide +kernel)
set_option maxRecDepth 65536 in
theorem w_c10 : (Jvm.Cond.code ({ cls := "com/example/warrant/warrant/messages/ExpressionParserEndsPinLaw", name := "step", desc := "([CII)I" } : Jvm.MethodName) method_6_code (5 : Nat) (Option.some Jvm.ClassFile.FieldType.int)).before args0 about1 = true := code_word (m := ⟨1, 5⟩) (meth := k1m5) (c := k1c5) (by decide +kernel) rfl rfl rfl (by decide +kernel)
set_option maxRecDepth 65536 in
theorem w_c11 : (Jvm.Cond.code ({ cls := "java/lang/StringUTF16", name := "compress", desc := "([CII)[B" } : Jvm.MethodName) jdk_52_method_16_code (6 : Nat) (Option.some (Jvm.ClassFile.FieldType.array Jvm.ClassFile.FieldType.byte))).before args0 about1 = true := code_word (m := ⟨9, 2⟩) (meth := k9m2) (c := k9c2) (by decide +kernel) rfl rfl rfl (by decide +kernel)
set_option maxRecDepth 65536 in
theorem w_c12 : (Jvm.Cond.code ({ cls := "java/lang/StringUTF16", name := "compress", desc := "([CI[BII)I" } : Jvm.MethodName) jdk_52_method_21_code (7 : Nat) (Option.some Jvm.ClassFile.FieldType.int)).before args0 about1 = true := code_word (m := ⟨9, 3⟩) (meth := k9m3) (c := k9c3) (by decide +kernel) rfl rfl rfl (by decide +kernel)
set_option maxRecDepth 65536 in
theorem w_c13 : (Jvm.Cond.code ({ cls := "java/lang/StringUTF16", name := "coderFromArrayLen", desc := "([BI)B" } : Jvm.MethodName) jdk_52_method_15_code (2 : Nat) (Option.some Jvm.ClassFile.FieldType.byte)).before args0 about1 = true := code_word (m := ⟨9, 1⟩) (meth := k9m1) (c := k9c1) (by decide +kernel) rfl rfl rfl (by decide +kernel)
set_option maxRecDepth 65536 in
theorem w_c14 : (Jvm.Cond.code ({ cls := "java/lang/String", name := "charAt", desc := "(I)C" } : Jvm.MethodName) jdk_42_method_56_code (2 : Nat) (Option.some Jvm.ClassFile.FieldType.char)).before args0 about1 = true := code_word (m := ⟨7, 3⟩) (meth := k7m3) (c := k7c3) (by decide +kernel) rfl rfl rfl (by decide +kernel)
set_option maxRecDepth 65536 in
theorem w_c15 : (Jvm.Cond.code ({ cls := "java/lang/String", name := "isLatin1", desc := "()Z" } : Jvm.MethodName) jdk_42_method_154_code (1 : Nat) (Option.some Jvm.ClassFile.FieldType.boolean)).before args0 about1 = true := code_word (m := ⟨7, 6⟩) (meth := k7m6) (c := k7c6) (by decide +kernel) rfl rfl rfl (by decide +kernel)
set_option maxRecDepth 65536 in
theorem w_c16 : (Jvm.Cond.code ({ cls := "java/lang/StringLatin1", name := "charAt", desc := "([BI)C" } : Jvm.MethodName) jdk_43_method_2_code (2 : Nat) (Option.some Jvm.ClassFile.FieldType.char)).before args0 about1 = true := code_word (m := ⟨10, 1⟩) (meth := k10m1) (c := k10c1) (by decide +kernel) rfl rfl rfl (by decide +kernel)
set_option maxRecDepth 65536 in
theorem w_c17 : (Jvm.Cond.code ({ cls := "java/lang/String", name := "checkIndex", desc := "(II)V" } : Jvm.MethodName) jdk_42_method_155_code (2 : Nat) (Option.none : Option Jvm.ClassFile.FieldType)).before args0 about1 = true := code_word (m := ⟨7, 7⟩) (meth := k7m7) (c := k7c7) (by decide +kernel) rfl rfl rfl (by decide +kernel)
set_option maxRecDepth 65536 in
theorem w_c18 : (Jvm.Cond.code ({ cls := "jdk/internal/util/Preconditions", name := "checkIndex", desc := "(IILjava/util/function/BiFunction;)I" } : Jvm.MethodName) jdk_41_method_11_code (3 : Nat) (Option.some Jvm.ClassFile.FieldType.int)).before args0 about1 = true := code_word (m := ⟨11, 1⟩) (meth := k11m1) (c := k11c1) (by decide +kernel) rfl rfl rfl (by decide +kernel)
set_option maxRecDepth 65536 in
theorem w_c19 : (Jvm.Cond.code ({ cls := "com/example/warrant/warrant/messages/ExpressionParserEndsPinLaw", name := "closing", desc := "([CIIC)I" } : Jvm.MethodName) method_7_code (5 : Nat) (Option.some Jvm.ClassFile.FieldType.int)).before args0 about1 = true := code_word (m := ⟨1, 6⟩) (meth := k1m6) (c := k1c6) (by decide +kernel) rfl rfl rfl (by decide +kernel)
set_option maxRecDepth 65536 in
theorem w_c20 : (Jvm.Cond.code ({ cls := "com/example/warrant/warrant/messages/ExpressionParserEndsPinLaw", name := "hop", desc := "([CIIC)I" } : Jvm.MethodName) method_8_code (4 : Nat) (Option.some Jvm.ClassFile.FieldType.int)).before args0 about1 = true := code_word (m := ⟨1, 7⟩) (meth := k1m7) (c := k1c7) (by decide +kernel) rfl rfl rfl (by decide +kernel)
def codes1 : List Jvm.Cond := [Jvm.Cond.code x code maxLocals ret, Jvm.Cond.code ({ cls := "com/example/warrant/warrant/messages/ExpressionParserEndsPinLaw", name := "pick", desc := "(I)C" } : Jvm.MethodName) method_4_code (2 : Nat) (Option.some Jvm.ClassFile.FieldType.char), Jvm.Cond.code ({ cls := "java/lang/String", name := "<init>", desc := "([C)V" } : Jvm.MethodName) jdk_42_method_3_code (2 : Nat) (Option.none : Option Jvm.ClassFile.FieldType), Jvm.Cond.code ({ cls := "java/lang/String", name := "<init>", desc := "([CIILjava/lang/Void;)V" } : Jvm.MethodName) jdk_42_method_149_code (6 : Nat) (Option.none : Option Jvm.ClassFile.FieldType), Jvm.Cond.code ({ cls := "java/lang/Object", name := "<init>", desc := "()V" } : Jvm.MethodName) object_method_1_code (1 : Nat) (Option.none : Option Jvm.ClassFile.FieldType), Jvm.Cond.code ({ cls := "com/example/warrant/warrant/messages/ExpressionParser", name := "ends", desc := "(Ljava/lang/String;)[I" } : Jvm.MethodName) prog_7_method_3_code (10 : Nat) (Option.some (Jvm.ClassFile.FieldType.array Jvm.ClassFile.FieldType.int)), Jvm.Cond.code ({ cls := "java/lang/String", name := "length", desc := "()I" } : Jvm.MethodName) jdk_42_method_54_code (1 : Nat) (Option.some Jvm.ClassFile.FieldType.int), Jvm.Cond.code ({ cls := "java/lang/String", name := "coder", desc := "()B" } : Jvm.MethodName) jdk_42_method_152_code (1 : Nat) (Option.some Jvm.ClassFile.FieldType.byte), Jvm.Cond.code ({ cls := "com/example/warrant/warrant/messages/ExpressionParserEndsPinLaw", name := "at", desc := "([I[CII)Z" } : Jvm.MethodName) method_3_code (4 : Nat) (Option.some Jvm.ClassFile.FieldType.boolean), Jvm.Cond.code ({ cls := "com/example/warrant/warrant/messages/ExpressionParserEndsPinLaw", name := "reference", desc := "([CII)I" } : Jvm.MethodName) method_5_code (4 : Nat) (Option.some Jvm.ClassFile.FieldType.int), Jvm.Cond.code ({ cls := "com/example/warrant/warrant/messages/ExpressionParserEndsPinLaw", name := "step", desc := "([CII)I" } : Jvm.MethodName) method_6_code (5 : Nat) (Option.some Jvm.ClassFile.FieldType.int), Jvm.Cond.code ({ cls := "java/lang/StringUTF16", name := "compress", desc := "([CII)[B" } : Jvm.MethodName) jdk_52_method_16_code (6 : Nat) (Option.some (Jvm.ClassFile.FieldType.array Jvm.ClassFile.FieldType.byte)), Jvm.Cond.code ({ cls := "java/lang/StringUTF16", name := "compress", desc := "([CI[BII)I" } : Jvm.MethodName) jdk_52_method_21_code (7 : Nat) (Option.some Jvm.ClassFile.FieldType.int), Jvm.Cond.code ({ cls := "java/lang/StringUTF16", name := "coderFromArrayLen", desc := "([BI)B" } : Jvm.MethodName) jdk_52_method_15_code (2 : Nat) (Option.some Jvm.ClassFile.FieldType.byte), Jvm.Cond.code ({ cls := "java/lang/String", name := "charAt", desc := "(I)C" } : Jvm.MethodName) jdk_42_method_56_code (2 : Nat) (Option.some Jvm.ClassFile.FieldType.char), Jvm.Cond.code ({ cls := "java/lang/String", name := "isLatin1", desc := "()Z" } : Jvm.MethodName) jdk_42_method_154_code (1 : Nat) (Option.some Jvm.ClassFile.FieldType.boolean), Jvm.Cond.code ({ cls := "java/lang/StringLatin1", name := "charAt", desc := "([BI)C" } : Jvm.MethodName) jdk_43_method_2_code (2 : Nat) (Option.some Jvm.ClassFile.FieldType.char), Jvm.Cond.code ({ cls := "java/lang/String", name := "checkIndex", desc := "(II)V" } : Jvm.MethodName) jdk_42_method_155_code (2 : Nat) (Option.none : Option Jvm.ClassFile.FieldType), Jvm.Cond.code ({ cls := "jdk/internal/util/Preconditions", name := "checkIndex", desc := "(IILjava/util/function/BiFunction;)I" } : Jvm.MethodName) jdk_41_method_11_code (3 : Nat) (Option.some Jvm.ClassFile.FieldType.int), Jvm.Cond.code ({ cls := "com/example/warrant/warrant/messages/ExpressionParserEndsPinLaw", name := "closing", desc := "([CIIC)I" } : Jvm.MethodName) method_7_code (5 : Nat) (Option.some Jvm.ClassFile.FieldType.int), Jvm.Cond.code ({ cls := "com/example/warrant/warrant/messages/ExpressionParserEndsPinLaw", name := "hop", desc := "([CIIC)I" } : Jvm.MethodName) method_8_code (4 : Nat) (Option.some Jvm.ClassFile.FieldType.int)]
set_option maxRecDepth 65536 in
theorem codes_eq : words1.filter isCode = codes1 := rfl
theorem w_codes : ∀ c ∈ words1.filter isCode, c.before args0 about1 = true := by
  rw [codes_eq]
  intro c hc
  simp only [codes1, List.mem_cons, List.not_mem_nil, or_false] at hc
  rcases hc with rfl | rfl | rfl | rfl | rfl | rfl | rfl | rfl | rfl | rfl | rfl | rfl | rfl | rfl | rfl | rfl | rfl | rfl | rfl | rfl | rfl
  · exact w_c0
  · exact w_c1
  · exact w_c2
  · exact w_c3
  · exact w_c4
  · exact w_c5
  · exact w_c6
  · exact w_c7
  · exact w_c8
  · exact w_c9
  · exact w_c10
  · exact w_c11
  · exact w_c12
  · exact w_c13
  · exact w_c14
  · exact w_c15
  · exact w_c16
  · exact w_c17
  · exact w_c18
  · exact w_c19
  · exact w_c20
set_option maxRecDepth 65536 in
theorem w_t1 : (words1.take 24).all (fun c => isCode c || c.before args0 about1) = true := by decide +kernel
set_option maxRecDepth 65536 in
theorem w_t2 : ((words1.drop 24).take 24).all (fun c => isCode c || c.before args0 about1) = true := by decide +kernel
set_option maxRecDepth 65536 in
theorem w_t3 : (((words1.drop 24).drop 24).take 24).all (fun c => isCode c || c.before args0 about1) = true := by decide +kernel
set_option maxRecDepth 65536 in
theorem w_t4 : (((words1.drop 24).drop 24).drop 24).all (fun c => isCode c || c.before args0 about1) = true := by decide +kernel
theorem w_tables : (allAtoms (Jvm.Cond.code x code maxLocals ret :: tables_1)).before args0 about1 = true := by
  rw [allAtoms_all]
  show words1.all (fun c => c.before args0 about1) = true
  refine all_split ?_ w_codes
  rw [← List.take_append_drop 24 words1, List.all_append, w_t1, ← List.take_append_drop 24 (words1.drop 24), List.all_append, w_t2, ← List.take_append_drop 24 ((words1.drop 24).drop 24), List.all_append, w_t3, w_t4]
  rfl
set_option maxRecDepth 65536 in
theorem w_rest : rest_1_c.before args0 about1 = true := by decide +kernel
set_option maxRecDepth 65536 in
theorem w_case : (Jvm.Cond.and given_1 narrow_1).before args0 about1 = true := by decide +kernel
set_option maxRecDepth 65536 in
theorem w_consts : constsHeld consts_1 about1 := Jvm.Lit.constsHeldB_iff.mp (by decide +kernel)
theorem w_applies : (headSpec (Jvm.Cond.code x code maxLocals ret :: tables_1) room_1).applies x e0.platform about1 = true :=
  (Spec.applies_iff w_frames).mpr ⟨w_running, w_runnable, w_alone, w_named, w_hears, w_ripe, w_room, w_tables⟩
theorem atStart : AtStart classFile x code maxLocals ret World_1 tables_1 room_1 Calls_1 rest_1 Pre_1 launch0 p0 e0 about1 theMethod args0 below0 :=
  ⟨lists_1, trivial, launch0.admits_env _ _ _, launch0.least_env, fairChoices_fair.cas, fairChoices_fair.clock, w_frames, w_args, w_heap, w_applies, ⟨w_consts, trivial⟩, w_rest, w_case⟩
end start1
theorem witness_1 : WitnessClaimed_1 := ⟨start1.p0, start1.e0, start1.about1, start1.theMethod, start1.args0, start1.below0, start1.atStart⟩
end Jvm.Pilot.@@N@@
