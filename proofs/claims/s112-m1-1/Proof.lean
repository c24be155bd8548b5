import JvmDerived
import JvmDerived.Pilot.@@N@@Statement
import JvmDerived.Pilot.@@N@@Code
set_option linter.unusedVariables false
set_option linter.unusedSimpArgs false
namespace Jvm.RoadKit
open Sem ClassFile Op Lib Jvm.Stand Jvm.Free Jvm.LawKit
section Own
variable {tb : Tables} {e : Env} {below : List Frame} {Q : Outcome → State → Prop} {A B : State}
def Goes (tb : Tables) (e : Env) (below : List Frame) (Q : Outcome → State → Prop) (A : State) : Prop := ∃ s₂ o, Steps tb e below A s₂ ∧ s₂.status = .running ∧ Ended s₂ below o ∧ Q o s₂
theorem Goes.st (st : ∀ t, Steps tb e below A t → Steps tb e below B t) (k : Goes tb e below Q A) : Goes tb e below Q B := by
  obtain ⟨s, o, h1, h2⟩ := k
  exact ⟨s, o, st s h1, h2⟩
theorem Goes.tr (st : Steps tb e below B A) (k : Goes tb e below Q A) : Goes tb e below Q B := by
  obtain ⟨s, o, h1, h2⟩ := k
  exact ⟨s, o, st.trans h1, h2⟩
theorem Goes.named (k : ∀ Q', Q' = Q → Goes tb e below Q' A) : Goes tb e below Q A := k Q rfl
theorem own_narb (c : Int32) : nar .byte (c.toInt8.toInt32) = c.toInt8.toInt32 := by simp [nar]
theorem own_fitsb (c : Int32) : fits .byte (.int c.toInt8.toInt32) = true := own_narb c ▸ fits_nar_byte _
theorem own_narZ {z : Int32} (h : z = 0 ∨ z = 1) : nar .boolean z = z := by rcases h with rfl | rfl <;> rfl
theorem own_narwZ {z : Int32} (h : z = 0 ∨ z = 1) : narrow .boolean (.int z) = .int z := by rcases h with rfl | rfl <;> rfl
theorem own_fitsZ {z : Int32} (h : z = 0 ∨ z = 1) : fits .boolean (.int z) = true := by rcases h with rfl | rfl <;> rfl
theorem own_cat {v : Value} (h : v.isRef = true) : v.category = 1 := by cases v <;> first | rfl | (simp [Value.isRef] at h)
theorem own_fitsR {v : Value} {t : FieldType} (h : v.isRef = true) (ht : t.isReference = true) : fits t v = true := by cases v <;> cases t <;> simp_all [Value.isRef, fits, FieldType.isReference]
theorem own_narR {v : Value} {t : FieldType} (h : v.isRef = true) : narrow t v = v := by cases v <;> cases t <;> first | rfl | (simp [Value.isRef] at h)
end Own
section New
variable {p : Program} {l : Launch} {e : Env} {R : Room} {s : State} {m : MethodId} {args : Array Value} {below : List Frame} {meth : Method} {c : Code} {T : State} {locs : List Loc} {cells slots : Nat}
theorem retI (X : Stand p l e R s m args below meth c T locs cells slots) (hx : p.tables.exec = Jvm.exec) {pc : Nat} {Ls : Array Slot} {z : Int32} {rest : List Value} (hret : meth.sig.returnType = some .int) (hd : decode c.code pc = .ok (.ireturn, 1)) {fs : List Frame}
    (hl : ∀ (f : JFrame) (acts : List Action), f.method = m → f.locked = none → f.entered = [] → (doReturn e (T.setTop f) acts (some (.int z))).1 = T.setFrames fs) : Steps p.tables e below (T.setTop (mkF m pc Ls (.int z :: rest))) (T.setFrames fs) :=
  retOut X hx (w := .int z) hret rfl (Or.inl ⟨rfl, Or.inl rfl, _, rfl⟩) hd hl
theorem retJ (X : Stand p l e R s m args below meth c T locs cells slots) (hx : p.tables.exec = Jvm.exec) {pc : Nat} {Ls : Array Slot} {z : Int64} {rest : List Value} (hret : meth.sig.returnType = some .long) (hd : decode c.code pc = .ok (.lreturn, 1)) {fs : List Frame}
    (hl : ∀ (f : JFrame) (acts : List Action), f.method = m → f.locked = none → f.entered = [] → (doReturn e (T.setTop f) acts (some (.long z))).1 = T.setFrames fs) : Steps p.tables e below (T.setTop (mkF m pc Ls (.long z :: rest))) (T.setFrames fs) :=
  retOut X hx (w := .long z) hret rfl (Or.inr (Or.inl ⟨rfl, rfl, _, rfl⟩)) hd hl
theorem retR (X : Stand p l e R s m args below meth c T locs cells slots) (hx : p.tables.exec = Jvm.exec) {pc : Nat} {Ls : Array Slot} {w : Value} {t : FieldType} {rest : List Value} (hret : meth.sig.returnType = some t) (ht : t.isReference = true) (hw : w.isRef = true) (hd : decode c.code pc = .ok (.areturn, 1)) {fs : List Frame}
    (hl : ∀ (f : JFrame) (acts : List Action), f.method = m → f.locked = none → f.entered = [] → (doReturn e (T.setTop f) acts (some w)).1 = T.setFrames fs) : Steps p.tables e below (T.setTop (mkF m pc Ls (w :: rest))) (T.setFrames fs) :=
  retOut X hx (w := w) hret (own_narR hw) (Or.inr (Or.inr (Or.inr (Or.inr ⟨rfl, ht, hw⟩)))) hd hl
end New
end Jvm.RoadKit
namespace Jvm.RoadKit
open Sem ClassFile Op Lib Jvm.Stand Jvm.Free Jvm.LawKit
section OwnW
variable {p : Program} {l : Launch} {e : Env} {R : Room} {s : State} {args : Array Value} {below : List Frame} {Z : State} {a0 : Array Value} {h : Heap} {vm0 : Vm} {EL : List (String × Nat)}
theorem own_REmono {s t : State} {o : Outcome} {L : List Loc} {k n k' n' : Nat} (h : ReturnedEndW s o t L k n) (hk : k ≤ k') (hn : n ≤ n') : ReturnedEndW s o t L k' n' := ⟨h.1, h.2.1, h.2.2.1, h.2.2.2.mono hk hn⟩
/-- a callee that may intern, and is told of some addresses that no constant's String lies there -/
theorem own_backW {y : MethodName} {bytes : ByteArray} {maxL : Nat} {ret : Option FieldType} {rm : Room} {len W : Nat} {as' : Array Value} {Q : Option Value → Heap → List Loc → Prop} {xs : List Addr}
    (hM : MetFree l y (head1 [Cond.code y bytes maxL ret] rm) (fun a U => a = as' ∧ Z.Warmed39 U.vm ∧ U.heap = h ∧ CHv Z EL U.vm h ∧ ∀ x ∈ xs, Safe Z EL U.vm h x) (fun _ _ _ _ _ => True) (fun _ U o U' => ∃ v L, o = .returned v ∧ Q v U'.heap L ∧ CHr Z EL U.vm U.heap U'.vm U'.heap ∧ ReturnedEndW U o U' L rm.cells rm.slots))
    (hZ : Z.Warmed39 vm0) (wc : (Cond.code y bytes maxL ret).before a0 Z = true) (wz : (Cond.initialized y.cls).before a0 Z = true) (hf : rm.frames + 1 ≤ R.frames) (hl : W + (maxL + 11) + rm.locals ≤ R.locals) (hEL : EW Z a0 EL) (H : CHv Z EL vm0 h) (hxs : ∀ x ∈ xs, x < h.size ∧ Safe Z EL vm0 h x) :
    BackS l R p e below (s.setVm vm0) args y len W (fun A a => a = as' ∧ A.U.heap = h ∧ A.cells + rm.cells ≤ R.cells ∧ A.slots + rm.slots ≤ R.slots)
      (fun A _ v B => ∃ L, Q v B.U.heap L ∧ B.locs = A.locs ++ L ∧ B.cells = A.cells + rm.cells ∧ B.slots = A.slots + rm.slots ∧ CHr Z EL vm0 h B.U.vm B.U.heap) := by
  refine BackS.of_freeW (bytes := bytes) (maxL := maxL) (ret := ret) (E := fun _ first o t L k n => k = rm.cells ∧ n = rm.slots ∧ (∃ v, o = .returned v ∧ Q v t.heap L) ∧ CHr Z EL first.vm first.heap t.vm t.heap) hM hf hl ?_ ?_ ?_ ?_ ?_
  · intro m meth c A a Y hp
    have hU : Z.Warmed39 A.U.vm := wtrans (s := s.setVm vm0) hZ Y.warmed
    refine ⟨?_, mv hU wc, mv hU wz, hp.2.2.1, hp.2.2.2⟩
    show (Cond.and _ .tt).before a A.U = true
    rw [Cond.before_and, mv hU wc]; rfl
  · intro m meth c A a g mk Y hp
    have C := CHv.at Y hZ hEL H
    exact ⟨hp.1, wtrans (s := s.setVm vm0) hZ Y.warmed, hp.2.1, C.1, fun x hx => C.safe (hxs x hx).1 (hxs x hx).2⟩
  · intros; trivial
  · rintro _ _ _ _ ⟨v, L, h1, h2, h3, h4⟩
    exact ⟨L, _, _, h4, rfl, rfl, ⟨v, h1, h2⟩, h3⟩
  · rintro m meth c A a g mk v t L k n Y hp _ _ ⟨e1, e2, ⟨v', e3, e4⟩, e5⟩
    cases e3
    subst e1 e2
    refine ⟨L, e4, rfl, rfl, rfl, (CHv.at Y hZ hEL H).trans ?_⟩
    rw [← hp.2.1]
    exact e5
end OwnW
end Jvm.RoadKit
namespace Jvm.Pilot.@@N@@
open Jvm Jvm.ClassFile Sem Op Lib Jvm.Free Jvm.Stand Jvm.LawKit Jvm.RoadKit Bundle Jvm.Pilot.@@N@@.Jvm.D
def EL : List (String × Nat) := consts_1
theorem own_wS {Z : State} {a0 : Array Value} (hw : ∀ d ∈ tables_1, d.before a0 Z = true) : ∀ d ∈ Bundle.stringAtoms, d.before a0 Z = true := fun d hd => hw d ((by decide +kernel : ∀ d ∈ Bundle.stringAtoms, d ∈ tables_1) d hd)
end Jvm.Pilot.@@N@@
/- laws to paste: Road.backV, Road.eqW, Road.codOf (cut by pick.py; bodies as the Statement names them) -/
namespace Jvm.Pilot.@@N@@
namespace StrChars
open Jvm Sem ClassFile Op Lib Jvm.Stand Jvm.Free.XT Jvm.Free.ALB Jvm.Free.JM Jvm.Free
open Jvm.Lib.Cold (StaticIs)
/-- a char array whose places are chars -/
def Ch (a : Addr) (A : Cell) (U : State) : Prop := Arr .char a A U ∧ Typed .char A
theorem Ch.mv {a : Addr} {A : Cell} {U U' : State} (h : Ch a A U) (hal : U.vm.Alike U'.vm) (hh : U'.heap = U.heap) : Ch a A U' := ⟨h.1.mv hal hh, h.2⟩
theorem Ch.keep {a : Addr} {A : Cell} {U U' : State} (h : Ch a A U) (hal : U.vm.Alike U'.vm) (hk : U'.heap[a]? = some A) : Ch a A U' := ⟨h.1.keep hal hk, h.2⟩
/-- what place i of a char[]'s cell holds -/
def cv (A : Cell) (i : Nat) : Int32 := match A.slots[i]? with | some (.int x) => x | _ => 0
theorem Ch.get {a : Addr} {A : Cell} {U : State} (h : Ch a A U) {i : Nat} (hi : i < A.slots.size) : A.slots[i]? = some (.int (cv A i)) := by
  have e := Array.getElem?_eq_getElem hi
  have f := h.2 i _ e
  unfold cv; rw [e]
  generalize A.slots[i] = v at f
  cases v <;> simp [fits] at f ⊢
/-- the byte that i2b leaves of a char -/
def lo8 (x : Int32) : Int32 := x.toInt8.toInt32
theorem fits_lo8 (y : Int32) : fits .byte (.int (lo8 y)) = true := by
  have h1 := y.toInt8.le_toInt
  have h2 := y.toInt8.toInt_lt
  simp only [lo8, fits, Bool.and_eq_true, decide_eq_true_eq, Int32.le_iff_toInt_le, Int8.toInt_toInt32, show (-128 : Int32).toInt = -128 from by decide, show (127 : Int32).toInt = 127 from by decide]
  omega
/-- A' is A but that each place j of lo .. hi - 1 holds f j -/
def Laid (A A' : Cell) (lo hi : Nat) (f : Nat → Value) : Prop := A'.cls = A.cls ∧ A'.vm = A.vm ∧ A'.slots.size = A.slots.size ∧ ∀ i, A'.slots[i]? = if lo ≤ i ∧ i < hi then some (f i) else A.slots[i]?
theorem Laid.zero (A : Cell) (lo : Nat) (f : Nat → Value) : Laid A A lo (lo + 0) f := ⟨rfl, rfl, rfl, fun i => by rw [if_neg (by omega)]⟩
theorem Laid.step {A Ak : Cell} {lo k : Nat} {f : Nat → Value} {v : Value} (h : Laid A Ak lo k f) (hlo : lo ≤ k) (hk : k < Ak.slots.size) (hv : v = f k) : Laid A (Ak.setSlot k v) lo (k + 1) f := by
  refine ⟨h.1, h.2.1, by simpa [Cell.setSlot] using h.2.2.1, fun i => ?_⟩
  by_cases e : k = i
  · subst e; rw [Cell.slots_setSlot_self v hk, if_pos (by omega), hv]
  · rw [Cell.slots_setSlot_ne v e, h.2.2.2 i]
    by_cases q : lo ≤ i ∧ i < k
    · rw [if_pos q, if_pos (by omega)]
    · rw [if_neg q, if_neg (by omega)]
def U16 : String := "java/lang/StringUTF16"
namespace Cmp5
def yN : MethodName := ⟨"java/lang/StringUTF16", "compress", "([CI[BII)I"⟩
abbrev yB : ByteArray := jdk_52_method_21_code
theorem d0 : decode yB 0 = .ok (.iconst 0, 1) := by decide +kernel
theorem d1 : decode yB 1 = .ok (.istore 5, 2) := by decide +kernel
theorem d3 : decode yB 3 = .ok (.iload 5, 2) := by decide +kernel
theorem d5 : decode yB 5 = .ok (.iload 4, 2) := by decide +kernel
theorem d7 : decode yB 7 = .ok (.if_icmp (.ge) 37, 3) := by decide +kernel
theorem d10 : decode yB 10 = .ok (.aload_n 0, 1) := by decide +kernel
theorem d11 : decode yB 11 = .ok (.iload_n 1, 1) := by decide +kernel
theorem d12 : decode yB 12 = .ok (.caload, 1) := by decide +kernel
theorem d13 : decode yB 13 = .ok (.istore 6, 2) := by decide +kernel
theorem d15 : decode yB 15 = .ok (.iload 6, 2) := by decide +kernel
theorem d17 : decode yB 17 = .ok (.sipush 255, 3) := by decide +kernel
theorem d20 : decode yB 20 = .ok (.if_icmp (.le) 6, 3) := by decide +kernel
theorem d26 : decode yB 26 = .ok (.aload_n 2, 1) := by decide +kernel
theorem d27 : decode yB 27 = .ok (.iload_n 3, 1) := by decide +kernel
theorem d28 : decode yB 28 = .ok (.iload 6, 2) := by decide +kernel
theorem d30 : decode yB 30 = .ok (.i2b, 1) := by decide +kernel
theorem d31 : decode yB 31 = .ok (.bastore, 1) := by decide +kernel
theorem d32 : decode yB 32 = .ok (.iinc 1 1, 3) := by decide +kernel
theorem d35 : decode yB 35 = .ok (.iinc 3 1, 3) := by decide +kernel
theorem d38 : decode yB 38 = .ok (.iinc 5 1, 3) := by decide +kernel
theorem d41 : decode yB 41 = .ok (.goto (-38), 3) := by decide +kernel
theorem d44 : decode yB 44 = .ok (.iload 4, 2) := by decide +kernel
theorem d46 : decode yB 46 = .ok (.ireturn, 1) := by decide +kernel
def site : List Cond := []
def tab : Cond := tabOf yN yB 7 (some .int) site
def P (b : Addr) (A : Cell) (d : Addr) (B : Cell) (o q len : Nat) (args : Array Value) (s : State) : Prop := args = #[.ref b, .int (Int32.ofNat o), .ref d, .int (Int32.ofNat q), .int (Int32.ofNat len)] ∧ Ch b A s ∧ Arr .byte d B s ∧ b ≠ d ∧ o + len ≤ A.slots.size ∧ q + len ≤ B.slots.size ∧ ∀ i, i < len → ¬ 255 < cv A (o + i)
def E (b : Addr) (A : Cell) (d : Addr) (B : Cell) (o q len : Nat) (r : Option Value) (s u : State) : Prop := r = some (.int (Int32.ofNat len)) ∧ ∃ B', Put d B' s u ∧ Laid B B' q (q + len) (fun j => Value.int (lo8 (cv A (o + (j - q)))))
/-- no char of the range above 255: len; the places written hold each char's low byte -/
theorem law (l : Launch) (b : Addr) (A : Cell) (d : Addr) (B : Cell) (o q len : Nat) : Law l yN 5 5 0 0 yB 7 (some .int) site (P b A d B o q len) (E b A d B o q len) (copyLocs d q len) 0 0 := by
  refine Law.of_walk (plainFor_of_name (by decide +kernel)) (by decide +kernel) (by decide +kernel) (by decide) (fun _ _ h => by rw [h.1]; rfl) (fun _ U U' hal hh h => ⟨h.1, h.2.1.mv hal hh, h.2.2.1.mv hal hh, h.2.2.2⟩) (fun r U U' V V' h1 hal h2 h => ⟨h.1, h.2.elim fun B' q => ⟨B', q.1.mv h1 h2, q.2⟩⟩) ?_
  intro p e s m args below meth c s₁ X0 hexec hbytes hml hret hlk hnm hown hh0 W hP
  obtain ⟨rfl, hA, hB, hne, l1, l2, hp⟩ := hP
  have c1 : Steps p.tables e below (s₁.setTop (entryFrame m #[.ref b, .int (Int32.ofNat o), .ref d, .int (Int32.ofNat q), .int (Int32.ofNat len)] 7)) (s₁.setTop (mkF m 0 #[.val (.ref b), .val (.int (Int32.ofNat o)), .val (.ref d), .val (.int (Int32.ofNat q)), .val (.int (Int32.ofNat len)), .unset, .unset] [])) := entry rfl
  have hA0 := hA.1.mv X0.warmed.alike hh0
  have hB0 := hB.mv X0.warmed.alike hh0
  have a31 := hA.1.2.2.2
  have c2 : Steps p.tables e below (s₁.setTop (entryFrame m #[.ref b, .int (Int32.ofNat o), .ref d, .int (Int32.ofNat q), .int (Int32.ofNat len)] 7)) (s₁.setTop (mkF m 3 #[.val (.ref b), .val (.int (Int32.ofNat o)), .val (.ref d), .val (.int (Int32.ofNat q)), .val (.int (Int32.ofNat len)), .val (.int 0), .unset] [])) := c1.trans (by
    refine iconstV X0.here hexec rfl 0 (hb hbytes d0) (by decide) ?_
    refine XS.istore X0.here hexec rfl (hb hbytes d1) rfl rfl ?_
    exact Steps.refl _)
  have loop : ∀ (r i : Nat), i + r = len → ∀ (z : Slot), (z = .unset ∨ ∃ w, z = .val w ∧ w.category = 1) → ∀ (Tl : State) (Bk : Cell), Stand p l e { frames := 0, locals := 0, cells := 0, slots := 0 } s m #[.ref b, .int (Int32.ofNat o), .ref d, .int (Int32.ofNat q), .int (Int32.ofNat len)] below meth c Tl ([] ++ copyLocs d q i) 0 0 → Put d Bk s₁ Tl → Laid B Bk q (q + i) (fun j => Value.int (lo8 (cv A (o + (j - q))))) →
      Steps p.tables e below (s₁.setTop (entryFrame m #[.ref b, .int (Int32.ofNat o), .ref d, .int (Int32.ofNat q), .int (Int32.ofNat len)] 7)) (Tl.setTop (mkF m 3 #[.val (.ref b), .val (.int (Int32.ofNat (o + i))), .val (.ref d), .val (.int (Int32.ofNat (q + i))), .val (.int (Int32.ofNat len)), .val (.int (Int32.ofNat i)), z] [])) → ∃ (T' : State) (B' : Cell) (z' : Slot), Stand p l e { frames := 0, locals := 0, cells := 0, slots := 0 } s m #[.ref b, .int (Int32.ofNat o), .ref d, .int (Int32.ofNat q), .int (Int32.ofNat len)] below meth c T' ([] ++ copyLocs d q len) 0 0 ∧ Put d B' s₁ T' ∧ Laid B B' q (q + len) (fun j => Value.int (lo8 (cv A (o + (j - q))))) ∧
      Steps p.tables e below (s₁.setTop (entryFrame m #[.ref b, .int (Int32.ofNat o), .ref d, .int (Int32.ofNat q), .int (Int32.ofNat len)] 7)) (T'.setTop (mkF m 3 #[.val (.ref b), .val (.int (Int32.ofNat (o + len))), .val (.ref d), .val (.int (Int32.ofNat (q + len))), .val (.int (Int32.ofNat len)), .val (.int (Int32.ofNat len)), z'] [])) := by
    intro r
    induction r with
    | zero =>
      intro i hi z hz Tl Bk Xl pl fl cl
      have hil : i = len := by omega
      rw [hil] at Xl fl cl
      exact ⟨Tl, Bk, z, Xl, pl, fl, cl⟩
    | succ r ih =>
      intro i hi z hz Tl Bk Xl pl fl cl
      have all := X0.warmed.alike.symm.trans Xl.warmed.alike
      have hAl := hA0.keep all (pl.other hne hA0.1)
      have hBk := hB0.like all pl.1 fl.1 fl.2.1 fl.2.2.1
      have hlt : q + i < Bk.slots.size := by rw [fl.2.2.1]; omega
      have c3 : Steps p.tables e below (s₁.setTop (entryFrame m #[.ref b, .int (Int32.ofNat o), .ref d, .int (Int32.ofNat q), .int (Int32.ofNat len)] 7)) (Tl.setTop (mkF m 12 #[.val (.ref b), .val (.int (Int32.ofNat (o + i))), .val (.ref d), .val (.int (Int32.ofNat (q + i))), .val (.int (Int32.ofNat len)), .val (.int (Int32.ofNat i)), z] [.int (Int32.ofNat (o + i)), .ref b])) := cl.trans (by
        refine XS.iload Xl.here hexec rfl (hb hbytes d3) rfl ?_
        refine XS.iload Xl.here hexec rfl (hb hbytes d5) rfl ?_
        refine XS.icmpNo Xl.here hexec rfl (hb hbytes d7) rfl (ii_ge_f (lt32 (by omega) (by omega))) ?_
        refine XS.aloadN Xl.here hexec rfl (hb hbytes d10) rfl rfl ?_
        refine XS.iloadN Xl.here hexec rfl (hb hbytes d11) rfl ?_
        exact Steps.refl _)
      have c4 : Steps p.tables e below (s₁.setTop (entryFrame m #[.ref b, .int (Int32.ofNat o), .ref d, .int (Int32.ofNat q), .int (Int32.ofNat len)] 7)) (Tl.setTop (mkF m 13 #[.val (.ref b), .val (.int (Int32.ofNat (o + i))), .val (.ref d), .val (.int (Int32.ofNat (q + i))), .val (.int (Int32.ofNat len)), .val (.int (Int32.ofNat i)), z] [.int (cv A (o + i))])) := c3.trans (by
        refine Xl.aget hexec hAl rfl (hA.get (i := o + i) (by omega)) rfl rfl (hb hbytes d12) ?_
        exact Steps.refl _)
      have c5 : Steps p.tables e below (s₁.setTop (entryFrame m #[.ref b, .int (Int32.ofNat o), .ref d, .int (Int32.ofNat q), .int (Int32.ofNat len)] 7)) (Tl.setTop (mkF m 15 #[.val (.ref b), .val (.int (Int32.ofNat (o + i))), .val (.ref d), .val (.int (Int32.ofNat (q + i))), .val (.int (Int32.ofNat len)), .val (.int (Int32.ofNat i)), .val (.int (cv A (o + i)))] [])) := c4.trans (by
        refine XS.istoreS Xl.here hexec rfl (hb hbytes d13) rfl rfl hz ?_
        exact Steps.refl _)
      have c6 : Steps p.tables e below (s₁.setTop (entryFrame m #[.ref b, .int (Int32.ofNat o), .ref d, .int (Int32.ofNat q), .int (Int32.ofNat len)] 7)) (Tl.setTop (mkF m 31 #[.val (.ref b), .val (.int (Int32.ofNat (o + i))), .val (.ref d), .val (.int (Int32.ofNat (q + i))), .val (.int (Int32.ofNat len)), .val (.int (Int32.ofNat i)), .val (.int (cv A (o + i)))] [.int (lo8 (cv A (o + i))), .int (Int32.ofNat (q + i)), .ref d])) := c5.trans (by
        refine XS.iload Xl.here hexec rfl (hb hbytes d15) rfl ?_
        refine sipushV Xl.here hexec rfl 255 (hb hbytes d17) (by decide) ?_
        refine XS.icmpYes Xl.here hexec rfl (pc0 := 20) rfl (hb hbytes d20) rfl (ii_le_t (hp i (by omega))) (by decide) rfl ?_
        refine XS.aloadN Xl.here hexec rfl (hb hbytes d26) rfl rfl ?_
        refine XS.iloadN Xl.here hexec rfl (hb hbytes d27) rfl ?_
        refine XS.iload Xl.here hexec rfl (hb hbytes d28) rfl ?_
        refine i2b Xl.here hexec rfl (hb hbytes d30) rfl ?_
        exact Steps.refl _)
      obtain ⟨T7, X7, p7, st7⟩ := Xl.aput hexec hBk rfl hlt rfl (fits_lo8 (cv A (o + i))) (g := (mkF m 31 #[.val (.ref b), .val (.int (Int32.ofNat (o + i))), .val (.ref d), .val (.int (Int32.ofNat (q + i))), .val (.int (Int32.ofNat len)), .val (.int (Int32.ofNat i)), .val (.int (cv A (o + i)))] [.int (lo8 (cv A (o + i))), .int (Int32.ofNat (q + i)), .ref d])) rfl (rest := []) rfl (hb hbytes d31)
      have c8 : Steps p.tables e below (s₁.setTop (entryFrame m #[.ref b, .int (Int32.ofNat o), .ref d, .int (Int32.ofNat q), .int (Int32.ofNat len)] 7)) (T7.setTop (mkF m 32 #[.val (.ref b), .val (.int (Int32.ofNat (o + i))), .val (.ref d), .val (.int (Int32.ofNat (q + i))), .val (.int (Int32.ofNat len)), .val (.int (Int32.ofNat i)), .val (.int (cv A (o + i)))] [])) := c6.trans (st7 _ (Steps.refl _))
      have c9 : Steps p.tables e below (s₁.setTop (entryFrame m #[.ref b, .int (Int32.ofNat o), .ref d, .int (Int32.ofNat q), .int (Int32.ofNat len)] 7)) (T7.setTop (mkF m 3 #[.val (.ref b), .val (.int (Int32.ofNat (o + i) + 1)), .val (.ref d), .val (.int (Int32.ofNat (q + i) + 1)), .val (.int (Int32.ofNat len)), .val (.int (Int32.ofNat i + 1)), .val (.int (cv A (o + i)))] [])) := c8.trans (by
        refine iincV X7.here hexec rfl 1 (hb hbytes d32) (by decide) rfl rfl ?_
        refine iincV X7.here hexec rfl 1 (hb hbytes d35) (by decide) rfl rfl ?_
        refine iincV X7.here hexec rfl 1 (hb hbytes d38) (by decide) rfl rfl ?_
        refine XS.goto X7.here hexec rfl (pc0 := 41) rfl (hb hbytes d41) (by decide) rfl ?_
        exact Steps.refl _)
      have c10 : Steps p.tables e below (s₁.setTop (entryFrame m #[.ref b, .int (Int32.ofNat o), .ref d, .int (Int32.ofNat q), .int (Int32.ofNat len)] 7)) (T7.setTop (mkF m 3 #[.val (.ref b), .val (.int (Int32.ofNat (o + (i + 1)))), .val (.ref d), .val (.int (Int32.ofNat (q + (i + 1)))), .val (.int (Int32.ofNat len)), .val (.int (Int32.ofNat (i + 1))), .val (.int (cv A (o + i)))] [])) := by
        have := c9
        rw [succ32, succ32, succ32] at this
        exact this
      exact ih (i + 1) (by omega) _ (Or.inr ⟨_, rfl, rfl⟩) T7 _ (by rw [copyLocs_step, ← List.append_assoc]; exact X7) (pl.trans p7) (fl.step (by omega) hlt (by simp)) c10
  obtain ⟨T9, B9, z9, X9, p9, f9, g9⟩ := loop len 0 (by omega) .unset (Or.inl rfl) s₁ B (by simpa [copyLocs] using X0) ⟨hB0.1, fun _ _ => rfl, rfl⟩ (Laid.zero _ _ _) c2
  have c11 : Steps p.tables e below (s₁.setTop (entryFrame m #[.ref b, .int (Int32.ofNat o), .ref d, .int (Int32.ofNat q), .int (Int32.ofNat len)] 7)) (T9.setTop (mkF m 46 #[.val (.ref b), .val (.int (Int32.ofNat (o + len))), .val (.ref d), .val (.int (Int32.ofNat (q + len))), .val (.int (Int32.ofNat len)), .val (.int (Int32.ofNat len)), z9] [.int (Int32.ofNat len)])) := g9.trans (by
    refine XS.iload X9.here hexec rfl (hb hbytes d3) rfl ?_
    refine XS.iload X9.here hexec rfl (hb hbytes d5) rfl ?_
    refine XS.icmpYes X9.here hexec rfl (pc0 := 7) rfl (hb hbytes d7) rfl (ii_ge_t (nlt32 (by omega) (Nat.le_refl _))) (by decide) rfl ?_
    refine XS.iload X9.here hexec rfl (hb hbytes d44) rfl ?_
    exact Steps.refl _)
  exact ⟨T9, some (.int (Int32.ofNat len)), _, _, _, X9, by simp, rfl, rfl, (fun h => by cases h), ⟨rfl, B9, p9.from hh0, f9⟩, fun fs hl => c11.trans (X9.ireturnOut hexec hret rfl (Or.inl rfl) (hb hbytes d46) hl)⟩
end Cmp5
namespace Cmp3
def yN : MethodName := ⟨"java/lang/StringUTF16", "compress", "([CII)[B"⟩
abbrev yB : ByteArray := jdk_52_method_16_code
theorem d0 : decode yB 0 = .ok (.iload_n 2, 1) := by decide +kernel
theorem d1 : decode yB 1 = .ok (.newarray .byte, 2) := by decide +kernel
theorem d3 : decode yB 3 = .ok (.astore_n 3, 1) := by decide +kernel
theorem d4 : decode yB 4 = .ok (.aload_n 0, 1) := by decide +kernel
theorem d5 : decode yB 5 = .ok (.iload_n 1, 1) := by decide +kernel
theorem d6 : decode yB 6 = .ok (.aload_n 3, 1) := by decide +kernel
theorem d7 : decode yB 7 = .ok (.iconst 0, 1) := by decide +kernel
theorem d8 : decode yB 8 = .ok (.iload_n 2, 1) := by decide +kernel
theorem d9 : decode yB 9 = .ok (.invokestatic 115, 3) := by decide +kernel
theorem d12 : decode yB 12 = .ok (.istore 4, 2) := by decide +kernel
theorem d14 : decode yB 14 = .ok (.iload 4, 2) := by decide +kernel
theorem d16 : decode yB 16 = .ok (.iload_n 2, 1) := by decide +kernel
theorem d17 : decode yB 17 = .ok (.if_icmp (.eq) 40, 3) := by decide +kernel
theorem d57 : decode yB 57 = .ok (.aload_n 3, 1) := by decide +kernel
theorem d58 : decode yB 58 = .ok (.areturn, 1) := by decide +kernel
def site : List Cond := [.arrayClass .byte, Cmp5.tab] ++ staticW U16 115 Cmp5.yN
def tab : Cond := tabOf yN yB 6 (some (.array .byte)) site
def P (b : Addr) (A : Cell) (o len : Nat) (args : Array Value) (s : State) : Prop := args = #[.ref b, .int (Int32.ofNat o), .int (Int32.ofNat len)] ∧ Ch b A s ∧ o + len ≤ A.slots.size ∧ len ≤ 536870912 ∧ ∀ i, i < len → ¬ 255 < cv A (o + i)
def E (b : Addr) (A : Cell) (o len : Nat) (r : Option Value) (s u : State) : Prop := NewArr .byte "[B" len (fun j => .int (lo8 (cv A (o + j)))) r s u ∧ u.heap.size = s.heap.size + 1
/-- no char of the range above 255: a new byte[] of their low bytes -/
theorem law (l : Launch) (b : Addr) (A : Cell) (o len : Nat) : Law l yN 3 3 1 18 yB 6 (some (.array .byte)) site (P b A o len) (E b A o len) [] 1 len := by
  refine Law.of_walk (plainFor_of_name (by decide +kernel)) (by decide +kernel) (by decide +kernel) (by decide) (fun _ _ h => by rw [h.1]; rfl) (fun _ U U' hal hh h => ⟨h.1, h.2.1.mv hal hh, h.2.2⟩) (fun r U U' V V' h1 hal h2 h => ⟨NewArr.mv r U U' V V' h1 hal h2 h.1, by rw [h1, h2]; exact h.2⟩) ?_
  intro p e s m args below meth c s₁ X0 hexec hbytes hml hret hlk hnm hown hh0 W hP
  obtain ⟨rfl, hA, l1, l2, hp⟩ := hP
  have a31 := hA.1.2.2.2
  have c1 : Steps p.tables e below (s₁.setTop (entryFrame m #[.ref b, .int (Int32.ofNat o), .int (Int32.ofNat len)] 6)) (s₁.setTop (mkF m 0 #[.val (.ref b), .val (.int (Int32.ofNat o)), .val (.int (Int32.ofNat len)), .unset, .unset, .unset] [])) := entry rfl
  have c2 : Steps p.tables e below (s₁.setTop (entryFrame m #[.ref b, .int (Int32.ofNat o), .int (Int32.ofNat len)] 6)) (s₁.setTop (mkF m 1 #[.val (.ref b), .val (.int (Int32.ofNat o)), .val (.int (Int32.ofNat len)), .unset, .unset, .unset] [.int (Int32.ofNat len)])) := c1.trans (by
    refine XS.iloadN X0.here hexec rfl (hb hbytes d0) rfl ?_
    exact Steps.refl _)
  obtain ⟨T3, B3, X3, ba3, bs3, bv3, bh3, bf3, st3⟩ := X0.anew hexec (atype := .byte) (wk W (.arrayClass .byte)) rfl (by show len * 1 ≤ _; omega) (by omega) (g := (mkF m 1 #[.val (.ref b), .val (.int (Int32.ofNat o)), .val (.int (Int32.ofNat len)), .unset, .unset, .unset] [.int (Int32.ofNat len)])) rfl (hb hbytes d1) (rest := []) rfl (Nat.le_refl _) (by show 0 + len ≤ len; omega)
  rw [hh0] at ba3 st3
  have kp3 : XT.Kept s T3 := (XT.Kept.of_eq hh0).push bh3
  have hA3 := hA.keep X3.warmed.alike (kp3 _ _ hA.1.1)
  have hne : b ≠ s.heap.size := hA.1.ne
  have c4 : Steps p.tables e below (s₁.setTop (entryFrame m #[.ref b, .int (Int32.ofNat o), .int (Int32.ofNat len)] 6)) (T3.setTop (mkF m 3 #[.val (.ref b), .val (.int (Int32.ofNat o)), .val (.int (Int32.ofNat len)), .unset, .unset, .unset] [.ref s.heap.size])) := c2.trans (st3 _ (Steps.refl _))
  have c5 : Steps p.tables e below (s₁.setTop (entryFrame m #[.ref b, .int (Int32.ofNat o), .int (Int32.ofNat len)] 6)) (T3.setTop (mkF m 9 #[.val (.ref b), .val (.int (Int32.ofNat o)), .val (.int (Int32.ofNat len)), .val (.ref s.heap.size), .unset, .unset] [.int (Int32.ofNat len), .int 0, .ref s.heap.size, .int (Int32.ofNat o), .ref b])) := c4.trans (by
    refine XS.astoreN X3.here hexec rfl (hb hbytes d3) rfl rfl rfl ?_
    refine XS.aloadN X3.here hexec rfl (hb hbytes d4) rfl rfl ?_
    refine XS.iloadN X3.here hexec rfl (hb hbytes d5) rfl ?_
    refine XS.aloadN X3.here hexec rfl (hb hbytes d6) rfl rfl ?_
    refine iconstV X3.here hexec rfl 0 (hb hbytes d7) (by decide) ?_
    refine XS.iloadN X3.here hexec rfl (hb hbytes d8) rfl ?_
    exact Steps.refl _)
  obtain ⟨v6, T6, X6, E6, g6⟩ := X3.callS hexec (Cmp5.law l b A s.heap.size B3 o 0 len) hown (wks W (staticW U16 115 Cmp5.yN)) (wk W Cmp5.tab) (W := 0) (Nat.le_of_ble_eq_true rfl) (Nat.le_of_ble_eq_true rfl) (Nat.le_refl _) (by show 0 + len + 0 ≤ len; omega) (g := (mkF m 9 #[.val (.ref b), .val (.int (Int32.ofNat o)), .val (.int (Int32.ofNat len)), .val (.ref s.heap.size), .unset, .unset] [.int (Int32.ofNat len), .int (Int32.ofNat 0), .ref s.heap.size, .int (Int32.ofNat o), .ref b])) rfl (by rw [hml]; rfl) c5 (argsL := [.ref b, .int (Int32.ofNat o), .ref s.heap.size, .int (Int32.ofNat 0), .int (Int32.ofNat len)]) (rest := []) rfl rfl (by show 2 * 0 + 0 ≤ _; decide) (hb hbytes d9) (⟨rfl, hA3, ba3, hne, l1, by rw [bs3]; simp, hp⟩)
  obtain ⟨rfl, B6, p6, f6⟩ := E6
  have c7 : Steps p.tables e below (s₁.setTop (entryFrame m #[.ref b, .int (Int32.ofNat o), .int (Int32.ofNat len)] 6)) (T6.setTop (mkF m 12 #[.val (.ref b), .val (.int (Int32.ofNat o)), .val (.int (Int32.ofNat len)), .val (.ref s.heap.size), .unset, .unset] [.int (Int32.ofNat len)])) := g6
  have c8 : Steps p.tables e below (s₁.setTop (entryFrame m #[.ref b, .int (Int32.ofNat o), .int (Int32.ofNat len)] 6)) (T6.setTop (mkF m 58 #[.val (.ref b), .val (.int (Int32.ofNat o)), .val (.int (Int32.ofNat len)), .val (.ref s.heap.size), .val (.int (Int32.ofNat len)), .unset] [.ref s.heap.size])) := c7.trans (by
    refine XS.istore X6.here hexec rfl (hb hbytes d12) rfl rfl ?_
    refine XS.iload X6.here hexec rfl (hb hbytes d14) rfl ?_
    refine XS.iloadN X6.here hexec rfl (hb hbytes d16) rfl ?_
    refine XS.icmpYes X6.here hexec rfl (pc0 := 17) rfl (hb hbytes d17) rfl (ii_eq_t rfl) (by decide) rfl ?_
    refine XS.aloadN X6.here hexec rfl (hb hbytes d57) rfl rfl ?_
    exact Steps.refl _)
  have X8 := X6.wide (L' := []) (cells' := 1) (slots' := len) (fun x hx hlt => by
    simp only [List.nil_append, copyLocs, List.mem_map, List.mem_range] at hx
    obtain ⟨i, -, rfl⟩ := hx
    exact absurd hlt (Nat.lt_irrefl _)) (Nat.le_refl _) (by omega)
  exact ⟨T6, some (.ref s.heap.size), _, _, _, X8, rfl, rfl, rfl, (fun h => by cases h), ⟨⟨rfl, B6, ba3.like (X3.warmed.alike.symm.trans X6.warmed.alike) p6.1 f6.1 f6.2.1 f6.2.2.1, f6.2.1.trans bv3, by rw [X6.warmed.alike.findClass, f6.1]; exact bf3, by rw [f6.2.2.1, bs3]; simp, fun j hj => by rw [f6.2.2.2 j, if_pos (by omega)]; rfl, kp3.put p6 (Nat.le_refl _)⟩, by rw [p6.2.2, bh3, hh0]; simp⟩, fun fs hl => c8.trans (X8.areturnOut hexec rfl hret rfl (hb hbytes d58) hl)⟩
end Cmp3
namespace CodL
def yN : MethodName := ⟨"java/lang/StringUTF16", "coderFromArrayLen", "([BI)B"⟩
abbrev yB : ByteArray := jdk_52_method_15_code
theorem d0 : decode yB 0 = .ok (.iload_n 1, 1) := by decide +kernel
theorem d1 : decode yB 1 = .ok (.aload_n 0, 1) := by decide +kernel
theorem d2 : decode yB 2 = .ok (.arraylength, 1) := by decide +kernel
theorem d3 : decode yB 3 = .ok (.isub, 1) := by decide +kernel
theorem d4 : decode yB 4 = .ok (.bipush 31, 2) := by decide +kernel
theorem d6 : decode yB 6 = .ok (.iushr, 1) := by decide +kernel
theorem d7 : decode yB 7 = .ok (.i2b, 1) := by decide +kernel
theorem d8 : decode yB 8 = .ok (.ireturn, 1) := by decide +kernel
def site : List Cond := []
def tab : Cond := tabOf yN yB 2 (some .byte) site
def P (d : Addr) (B : Cell) (args : Array Value) (s : State) : Prop := args = #[.ref d, .int (Int32.ofNat B.slots.size)] ∧ Arr .byte d B s
def E (r : Option Value) (s u : State) : Prop := XT.PureE (some (.int 0)) r s u
/-- an array as long as the number of chars: LATIN1 -/
theorem law (l : Launch) (d : Addr) (B : Cell) : Law l yN 2 2 0 0 yB 2 (some .byte) site (P d B) E [] 0 0 := by
  refine Law.of_walk (plainFor_of_name (by decide +kernel)) (by decide +kernel) (by decide +kernel) (by decide) (fun _ _ h => by rw [h.1]; rfl) (fun _ U U' hal hh h => ⟨h.1, h.2.mv hal hh⟩) (fun r U U' V V' h1 hal h2 h => XT.PureE.mv r U U' V V' h1 hal h2 h) ?_
  intro p e s m args below meth c s₁ X0 hexec hbytes hml hret hlk hnm hown hh0 W hP
  obtain ⟨rfl, hB⟩ := hP
  have hB0 := hB.mv X0.warmed.alike hh0
  have c1 : Steps p.tables e below (s₁.setTop (entryFrame m #[.ref d, .int (Int32.ofNat B.slots.size)] 2)) (s₁.setTop (mkF m 0 #[.val (.ref d), .val (.int (Int32.ofNat B.slots.size))] [])) := entry rfl
  have c2 : Steps p.tables e below (s₁.setTop (entryFrame m #[.ref d, .int (Int32.ofNat B.slots.size)] 2)) (s₁.setTop (mkF m 2 #[.val (.ref d), .val (.int (Int32.ofNat B.slots.size))] [.ref d, .int (Int32.ofNat B.slots.size)])) := c1.trans (by
    refine XS.iloadN X0.here hexec rfl (hb hbytes d0) rfl ?_
    refine XS.aloadN X0.here hexec rfl (hb hbytes d1) rfl rfl ?_
    exact Steps.refl _)
  have c3 : Steps p.tables e below (s₁.setTop (entryFrame m #[.ref d, .int (Int32.ofNat B.slots.size)] 2)) (s₁.setTop (mkF m 8 #[.val (.ref d), .val (.int (Int32.ofNat B.slots.size))] [.int (lo8 (ushr (Int32.ofNat B.slots.size - Int32.ofNat B.slots.size) 31))])) := c2.trans (by
    refine X0.alen hexec hB0 rfl rfl (hb hbytes d2) ?_
    refine XS.isub X0.here hexec rfl (hb hbytes d3) rfl ?_
    refine bipushV X0.here hexec rfl 31 (hb hbytes d4) (by decide) ?_
    refine iushr X0.here hexec rfl (hb hbytes d6) rfl ?_
    refine i2b X0.here hexec rfl (hb hbytes d7) rfl ?_
    exact Steps.refl _)
  have e0 : lo8 (ushr (Int32.ofNat B.slots.size - Int32.ofNat B.slots.size) 31) = 0 := by rw [Int32.sub_self]; decide
  rw [e0] at c3
  exact ⟨s₁, some (.int 0), _, _, _, X0, rfl, rfl, rfl, (fun h => by cases h), ⟨rfl, hh0⟩, fun fs hl => c3.trans (X0.ireturnOut hexec hret rfl (Or.inr (Or.inr (Or.inl rfl))) (hb hbytes d8) hl)⟩
end CodL
/-- the String at a is Latin-1 over a new byte[] (the heap's one new cell): the low bytes of the len chars of A from o on; every cell but a is kept -/
def Got (a : Addr) (D : Cell) (fV fC : Field) (A : Cell) (o len : Nat) (r : Option Value) (s u : State) : Prop := r = none ∧ ∃ D' V : Cell, Blank "java/lang/String" a D' u ∧ Same D D' [fV.slot, fC.slot] ∧ D'.slots[fV.slot]? = some (.ref s.heap.size) ∧ D'.slots[fC.slot]? = some (.int 0) ∧ Arr .byte s.heap.size V u ∧ V.vm = .none ∧ u.vm.findClass "[B" = some V.cls ∧ V.slots.size = len ∧ (∀ j, j < len → V.slots[j]? = some (.int (lo8 (cv A (o + j))))) ∧ (∀ (y : Addr) (c : Cell), y ≠ a → s.heap[y]? = some c → u.heap[y]? = some c) ∧ u.heap.size = s.heap.size + 1
theorem Got.mv {a : Addr} {D A : Cell} {fV fC : Field} {o len : Nat} : ∀ r (U U' V V' : State), U'.heap = U.heap → V.vm.Alike V'.vm → V'.heap = V.heap → Got a D fV fC A o len r U V → Got a D fV fC A o len r U' V' :=
  fun r U U' V V' h1 hal h2 ⟨e0, D', X, a1, a2, a3, a4, a5, a6, a7, a8, a9, a10, a11⟩ => ⟨e0, D', X, a1.mv hal h2, a2, by rw [h1]; exact a3, a4, by rw [h1]; exact a5.mv hal h2, a6, by rw [hal.findClass]; exact a7, a8, a9, by rw [h1, h2]; exact a10, by rw [h1, h2]; exact a11⟩
namespace New4
def yN : MethodName := ⟨"java/lang/String", "<init>", "([CIILjava/lang/Void;)V"⟩
abbrev yB : ByteArray := jdk_42_method_149_code
theorem d0 : decode yB 0 = .ok (.aload_n 0, 1) := by decide +kernel
theorem d1 : decode yB 1 = .ok (.invokespecial 1, 3) := by decide +kernel
theorem d4 : decode yB 4 = .ok (.iload_n 3, 1) := by decide +kernel
theorem d5 : decode yB 5 = .ok (.ifCond (.ne) 22, 3) := by decide +kernel
theorem d27 : decode yB 27 = .ok (.getstatic 38, 3) := by decide +kernel
theorem d30 : decode yB 30 = .ok (.ifCond (.eq) 28, 3) := by decide +kernel
theorem d33 : decode yB 33 = .ok (.aload_n 1, 1) := by decide +kernel
theorem d34 : decode yB 34 = .ok (.iload_n 2, 1) := by decide +kernel
theorem d35 : decode yB 35 = .ok (.iload_n 3, 1) := by decide +kernel
theorem d36 : decode yB 36 = .ok (.invokestatic 177, 3) := by decide +kernel
theorem d39 : decode yB 39 = .ok (.astore 5, 2) := by decide +kernel
theorem d41 : decode yB 41 = .ok (.aload_n 0, 1) := by decide +kernel
theorem d42 : decode yB 42 = .ok (.aload 5, 2) := by decide +kernel
theorem d44 : decode yB 44 = .ok (.iload_n 3, 1) := by decide +kernel
theorem d45 : decode yB 45 = .ok (.invokestatic 47, 3) := by decide +kernel
theorem d48 : decode yB 48 = .ok (.putfield 15, 3) := by decide +kernel
theorem d51 : decode yB 51 = .ok (.aload_n 0, 1) := by decide +kernel
theorem d52 : decode yB 52 = .ok (.aload 5, 2) := by decide +kernel
theorem d54 : decode yB 54 = .ok (.putfield 9, 3) := by decide +kernel
theorem d57 : decode yB 57 = .ok (.return_, 1) := by decide +kernel
def site : List Cond := [.fieldLink "java/lang/String" 38 "java/lang/String" "COMPACT_STRINGS" "Z", Cmp3.tab, CodL.tab, .laysFinal "java/lang/String" "java/lang/String" "value" "[B", .fieldLink "java/lang/String" 9 "java/lang/String" "value" "[B", .laysFinal "java/lang/String" "java/lang/String" "coder" "B", .fieldLink "java/lang/String" 15 "java/lang/String" "coder" "B"] ++ objW "java/lang/String" 1 ++ staticW "java/lang/String" 177 Cmp3.yN ++ staticW "java/lang/String" 47 CodL.yN
def tab : Cond := tabOf yN yB 6 none site
def P (a : Addr) (D : Cell) (fV fC : Field) (b : Addr) (A : Cell) (z : Int32) (o len : Nat) (args : Array Value) (s : State) : Prop := args = #[.ref a, .ref b, .int (Int32.ofNat o), .int (Int32.ofNat len), .null] ∧ Blank "java/lang/String" a D s ∧ Found "java/lang/String" "value" "[B" fV s ∧ Found "java/lang/String" "coder" "B" fC s ∧ Ch b A s ∧ StaticIs s "java/lang/String" "COMPACT_STRINGS" "Z" (.int z) ∧ ¬ z = 0 ∧ 0 < len ∧ o + len ≤ A.slots.size ∧ len ≤ 536870912 ∧ ∀ i, i < len → ¬ 255 < cv A (o + i)
def E (a : Addr) (D : Cell) (fV fC : Field) (A : Cell) (o len : Nat) (r : Option Value) (s u : State) : Prop := Got a D fV fC A o len r s u
/-- len > 0, no char of the range above 255: a Latin-1 String of their low bytes -/
theorem law (l : Launch) (a : Addr) (D : Cell) (fV fC : Field) (b : Addr) (A : Cell) (z : Int32) (o len : Nat) : Law l yN 5 4 2 35 yB 6 none site (P a D fV fC b A z o len) (E a D fV fC A o len) [⟨a, fC.slot⟩, ⟨a, fV.slot⟩] 1 len := by
  refine Law.of_walk (plainFor_of_name (by decide +kernel)) (by decide +kernel) (by decide +kernel) (by decide) (fun _ _ h => by rw [h.1]; rfl) (fun _ U U' hal hh h => ⟨h.1, h.2.1.mv hal hh, h.2.2.1.al hal, h.2.2.2.1.al hal, h.2.2.2.2.1.mv hal hh, h.2.2.2.2.2.1.there hal hh, h.2.2.2.2.2.2⟩) (fun r U U' V V' h1 hal h2 h => Got.mv r U U' V V' h1 hal h2 h) ?_
  intro p e s m args below meth c s₁ X0 hexec hbytes hml hret hlk hnm hown hh0 W hP
  obtain ⟨rfl, hB, f1, f2, hA, s1, hz, l0, l1, l2, hp⟩ := hP
  have a31 := hA.1.2.2.2
  have c1 : Steps p.tables e below (s₁.setTop (entryFrame m #[.ref a, .ref b, .int (Int32.ofNat o), .int (Int32.ofNat len), .null] 6)) (s₁.setTop (mkF m 0 #[.val (.ref a), .val (.ref b), .val (.int (Int32.ofNat o)), .val (.int (Int32.ofNat len)), .val .null, .unset] [])) := entry rfl
  have c2 : Steps p.tables e below (s₁.setTop (entryFrame m #[.ref a, .ref b, .int (Int32.ofNat o), .int (Int32.ofNat len), .null] 6)) (s₁.setTop (mkF m 1 #[.val (.ref a), .val (.ref b), .val (.int (Int32.ofNat o)), .val (.int (Int32.ofNat len)), .val .null, .unset] [.ref a])) := c1.trans (by
    refine XS.aloadN X0.here hexec rfl (hb hbytes d0) rfl rfl ?_
    exact Steps.refl _)
  obtain ⟨T3, X3, q3, st3⟩ := X0.oinit hexec hown (wks W (objW "java/lang/String" 1)) (g := (mkF m 1 #[.val (.ref a), .val (.ref b), .val (.int (Int32.ofNat o)), .val (.int (Int32.ofNat len)), .val .null, .unset] [.ref a])) rfl (by rw [hml]; rfl) (rest := []) rfl (hb hbytes d1) (W := 0) (by show 2 * 0 + 0 ≤ _; decide) (Nat.le_of_ble_eq_true rfl) (Nat.le_of_ble_eq_true rfl)
  have hh3 := q3.trans hh0
  have c4 : Steps p.tables e below (s₁.setTop (entryFrame m #[.ref a, .ref b, .int (Int32.ofNat o), .int (Int32.ofNat len), .null] 6)) (T3.setTop (mkF m 27 #[.val (.ref a), .val (.ref b), .val (.int (Int32.ofNat o)), .val (.int (Int32.ofNat len)), .val .null, .unset] [])) := (c2.trans (st3 _ (Steps.refl _))).trans (by
    refine XS.iloadN X3.here hexec rfl (hb hbytes d4) rfl ?_
    refine XS.ifYes X3.here hexec rfl (pc0 := 5) rfl (hb hbytes d5) rfl (i0_ne_t (nz32 (by omega) l0)) (by decide) rfl ?_
    exact Steps.refl _)
  obtain ⟨T5, X5, q5, st5⟩ := X3.sget hexec hown (wk W (.fieldLink "java/lang/String" 38 "java/lang/String" "COMPACT_STRINGS" "Z")) s1 (fun _ _ h => by rw [hh3]; exact h) (g := (mkF m 27 #[.val (.ref a), .val (.ref b), .val (.int (Int32.ofNat o)), .val (.int (Int32.ofNat len)), .val .null, .unset] [])) rfl (hb hbytes d27)
  have hh5 := q5.trans hh3
  have c6 : Steps p.tables e below (s₁.setTop (entryFrame m #[.ref a, .ref b, .int (Int32.ofNat o), .int (Int32.ofNat len), .null] 6)) (T5.setTop (mkF m 30 #[.val (.ref a), .val (.ref b), .val (.int (Int32.ofNat o)), .val (.int (Int32.ofNat len)), .val .null, .unset] [.int z])) := c4.trans (st5 _ (Steps.refl _))
  have c7 : Steps p.tables e below (s₁.setTop (entryFrame m #[.ref a, .ref b, .int (Int32.ofNat o), .int (Int32.ofNat len), .null] 6)) (T5.setTop (mkF m 36 #[.val (.ref a), .val (.ref b), .val (.int (Int32.ofNat o)), .val (.int (Int32.ofNat len)), .val .null, .unset] [.int (Int32.ofNat len), .int (Int32.ofNat o), .ref b])) := c6.trans (by
    refine XS.ifNo X5.here hexec rfl (hb hbytes d30) rfl (i0_eq_f hz) ?_
    refine XS.aloadN X5.here hexec rfl (hb hbytes d33) rfl rfl ?_
    refine XS.iloadN X5.here hexec rfl (hb hbytes d34) rfl ?_
    refine XS.iloadN X5.here hexec rfl (hb hbytes d35) rfl ?_
    exact Steps.refl _)
  obtain ⟨v8, T8, X8, E8, g8⟩ := X5.callS hexec (Cmp3.law l b A o len) hown (wks W (staticW "java/lang/String" 177 Cmp3.yN)) (wk W Cmp3.tab) (W := 0) (Nat.le_of_ble_eq_true rfl) (Nat.le_of_ble_eq_true rfl) (Nat.le_refl _) (by show 0 + len ≤ len; omega) (g := (mkF m 36 #[.val (.ref a), .val (.ref b), .val (.int (Int32.ofNat o)), .val (.int (Int32.ofNat len)), .val .null, .unset] [.int (Int32.ofNat len), .int (Int32.ofNat o), .ref b])) rfl (by rw [hml]; rfl) c7 (argsL := [.ref b, .int (Int32.ofNat o), .int (Int32.ofNat len)]) (rest := []) rfl rfl (by show 2 * 0 + 0 ≤ _; decide) (hb hbytes d36) (⟨rfl, hA.mv X5.warmed.alike hh5, l1, l2, hp⟩)
  obtain ⟨e8, z8⟩ := E8
  obtain ⟨rfl, N, n1, n2, n3, n4, n5, n6⟩ := NewArr.mv _ T5 s _ _ hh5.symm (Vm.Alike.refl _) rfl e8
  rw [hh5] at z8
  have hB1 := hB.keep X8.warmed.alike (n6 _ _ hB.1)
  have hne : s.heap.size ≠ a := (Nat.ne_of_lt (Array.getElem?_eq_some_iff.mp hB.1).1).symm
  have c9 : Steps p.tables e below (s₁.setTop (entryFrame m #[.ref a, .ref b, .int (Int32.ofNat o), .int (Int32.ofNat len), .null] 6)) (T8.setTop (mkF m 39 #[.val (.ref a), .val (.ref b), .val (.int (Int32.ofNat o)), .val (.int (Int32.ofNat len)), .val .null, .unset] [.ref s.heap.size])) := g8
  have c10 : Steps p.tables e below (s₁.setTop (entryFrame m #[.ref a, .ref b, .int (Int32.ofNat o), .int (Int32.ofNat len), .null] 6)) (T8.setTop (mkF m 45 #[.val (.ref a), .val (.ref b), .val (.int (Int32.ofNat o)), .val (.int (Int32.ofNat len)), .val .null, .val (.ref s.heap.size)] [.int (Int32.ofNat N.slots.size), .ref s.heap.size, .ref a])) := by
    have hc : Steps p.tables e below (s₁.setTop (entryFrame m #[.ref a, .ref b, .int (Int32.ofNat o), .int (Int32.ofNat len), .null] 6)) (T8.setTop (mkF m 45 #[.val (.ref a), .val (.ref b), .val (.int (Int32.ofNat o)), .val (.int (Int32.ofNat len)), .val .null, .val (.ref s.heap.size)] [.int (Int32.ofNat len), .ref s.heap.size, .ref a])) := c9.trans (by
      refine XS.astore X8.here hexec rfl (hb hbytes d39) rfl rfl rfl ?_
      refine XS.aloadN X8.here hexec rfl (hb hbytes d41) rfl rfl ?_
      refine XS.aload X8.here hexec rfl (hb hbytes d42) rfl rfl ?_
      refine XS.iloadN X8.here hexec rfl (hb hbytes d44) rfl ?_
      exact Steps.refl _)
    rw [n4]; exact hc
  obtain ⟨v11, T11, X11, E11, g11⟩ := X8.callS hexec (CodL.law l s.heap.size N) hown (wks W (staticW "java/lang/String" 47 CodL.yN)) (wk W CodL.tab) (W := 1) (Nat.le_of_ble_eq_true rfl) (Nat.le_of_ble_eq_true rfl) (Nat.le_refl _) (by show 0 + len + 0 ≤ len; omega) (g := (mkF m 45 #[.val (.ref a), .val (.ref b), .val (.int (Int32.ofNat o)), .val (.int (Int32.ofNat len)), .val .null, .val (.ref s.heap.size)] [.int (Int32.ofNat N.slots.size), .ref s.heap.size, .ref a])) rfl (by rw [hml]; rfl) c10 (argsL := [.ref s.heap.size, .int (Int32.ofNat N.slots.size)]) (rest := [.ref a]) rfl rfl (by show 2 * 0 + (1 + 0) ≤ _; decide) (hb hbytes d45) (⟨rfl, n1⟩)
  obtain ⟨rfl, q11⟩ := E11
  have hB11 := hB1.mv (X8.warmed.alike.symm.trans X11.warmed.alike) q11
  have c12 : Steps p.tables e below (s₁.setTop (entryFrame m #[.ref a, .ref b, .int (Int32.ofNat o), .int (Int32.ofNat len), .null] 6)) (T11.setTop (mkF m 48 #[.val (.ref a), .val (.ref b), .val (.int (Int32.ofNat o)), .val (.int (Int32.ofNat len)), .val .null, .val (.ref s.heap.size)] [.int 0, .ref a])) := g11
  obtain ⟨T13, X13, p13, bl13, sl13, st13⟩ := X11.finit hexec hown (wk W (.fieldLink "java/lang/String" 15 "java/lang/String" "coder" "B")) (Or.inr ⟨_, (wk W (.laysFinal "java/lang/String" "java/lang/String" "coder" "B"))⟩) (Or.inl ⟨rfl, hnm⟩) f2 (Or.inl rfl) hB11 (t := .byte) (by decide +kernel) rfl (g := (mkF m 48 #[.val (.ref a), .val (.ref b), .val (.int (Int32.ofNat o)), .val (.int (Int32.ofNat len)), .val .null, .val (.ref s.heap.size)] [.int 0, .ref a])) rfl (rest := []) rfl (hb hbytes d48)
  have c14 : Steps p.tables e below (s₁.setTop (entryFrame m #[.ref a, .ref b, .int (Int32.ofNat o), .int (Int32.ofNat len), .null] 6)) (T13.setTop (mkF m 54 #[.val (.ref a), .val (.ref b), .val (.int (Int32.ofNat o)), .val (.int (Int32.ofNat len)), .val .null, .val (.ref s.heap.size)] [.ref s.heap.size, .ref a])) := (c12.trans (st13 _ (Steps.refl _))).trans (by
    refine XS.aloadN X13.here hexec rfl (hb hbytes d51) rfl rfl ?_
    refine XS.aload X13.here hexec rfl (hb hbytes d52) rfl rfl ?_
    exact Steps.refl _)
  obtain ⟨T15, X15, p15, bl15, sl15, st15⟩ := X13.finit hexec hown (wk W (.fieldLink "java/lang/String" 9 "java/lang/String" "value" "[B")) (Or.inr ⟨_, (wk W (.laysFinal "java/lang/String" "java/lang/String" "value" "[B"))⟩) (Or.inl ⟨rfl, hnm⟩) f1 (Or.inl rfl) bl13 (t := (.array .byte)) (by decide +kernel) rfl (g := (mkF m 54 #[.val (.ref a), .val (.ref b), .val (.int (Int32.ofNat o)), .val (.int (Int32.ofNat len)), .val .null, .val (.ref s.heap.size)] [.ref s.heap.size, .ref a])) rfl (rest := []) rfl (hb hbytes d54)
  have c16 : Steps p.tables e below (s₁.setTop (entryFrame m #[.ref a, .ref b, .int (Int32.ofNat o), .int (Int32.ofNat len), .null] 6)) (T15.setTop (mkF m 57 #[.val (.ref a), .val (.ref b), .val (.int (Int32.ofNat o)), .val (.int (Int32.ofNat len)), .val .null, .val (.ref s.heap.size)] [])) := c14.trans (st15 _ (Steps.refl _))
  have ap := apart (Or.inr ⟨_, (wk W (.laysFinal "java/lang/String" "java/lang/String" "value" "[B"))⟩) (Or.inr ⟨_, (wk W (.laysFinal "java/lang/String" "java/lang/String" "coder" "B"))⟩) f1 f2 (t₁ := .array .byte) (t₂ := .byte) (by decide +kernel) (by decide +kernel) (by decide)
  have al := X8.warmed.alike.symm.trans X15.warmed.alike
  have n7 : T11.heap[s.heap.size]? = some N := by rw [q11]; exact n1.1
  exact ⟨T15, none, _, _, _, X15, by simp, rfl, by omega, (fun _ => rfl), ⟨rfl, _, N, bl15, ((Same.refl D _).set _ (by simp)).set _ (by simp), sl15, (Cell.slots_setSlot_ne _ ap).trans sl13, n1.keep al (p15.other hne (p13.other hne n7)), n2, by rw [al.findClass]; exact n3, n4, n5, fun y c h1 h2 => p15.other h1 (p13.other h1 (by rw [q11]; exact n6 y c h2)), by rw [p15.2.2, p13.2.2, q11]; exact z8⟩, fun fs hl => c16.trans (X15.returnOut hexec hret (hb hbytes d57) hl)⟩
end New4
namespace New1
def yN : MethodName := ⟨"java/lang/String", "<init>", "([C)V"⟩
abbrev yB : ByteArray := jdk_42_method_3_code
theorem d0 : decode yB 0 = .ok (.aload_n 0, 1) := by decide +kernel
theorem d1 : decode yB 1 = .ok (.aload_n 1, 1) := by decide +kernel
theorem d2 : decode yB 2 = .ok (.iconst 0, 1) := by decide +kernel
theorem d3 : decode yB 3 = .ok (.aload_n 1, 1) := by decide +kernel
theorem d4 : decode yB 4 = .ok (.arraylength, 1) := by decide +kernel
theorem d5 : decode yB 5 = .ok (.aconst_null, 1) := by decide +kernel
theorem d6 : decode yB 6 = .ok (.invokespecial 27, 3) := by decide +kernel
theorem d9 : decode yB 9 = .ok (.return_, 1) := by decide +kernel
def site : List Cond := [New4.tab] ++ initW "java/lang/String" 27 New4.yN
def tab : Cond := tabOf yN yB 2 none site
def P (a : Addr) (D : Cell) (fV fC : Field) (b : Addr) (A : Cell) (z : Int32) (args : Array Value) (s : State) : Prop := args = #[.ref a, .ref b] ∧ Blank "java/lang/String" a D s ∧ Found "java/lang/String" "value" "[B" fV s ∧ Found "java/lang/String" "coder" "B" fC s ∧ Ch b A s ∧ StaticIs s "java/lang/String" "COMPACT_STRINGS" "Z" (.int z) ∧ ¬ z = 0 ∧ 0 < A.slots.size ∧ A.slots.size ≤ 536870912 ∧ ∀ i, i < A.slots.size → ¬ 255 < cv A i
def E (a : Addr) (D : Cell) (fV fC : Field) (A : Cell) (r : Option Value) (s u : State) : Prop := Got a D fV fC A 0 A.slots.size r s u
/-- new String(chars), not empty, no char above 255: a Latin-1 String of their low bytes -/
theorem law (l : Launch) (a : Addr) (D : Cell) (fV fC : Field) (b : Addr) (A : Cell) (z : Int32) : Law l yN 2 1 3 52 yB 2 none site (P a D fV fC b A z) (E a D fV fC A) [⟨a, fC.slot⟩, ⟨a, fV.slot⟩] 1 A.slots.size := by
  refine Law.of_walk (plainFor_of_name (by decide +kernel)) (by decide +kernel) (by decide +kernel) (by decide) (fun _ _ h => by rw [h.1]; rfl) (fun _ U U' hal hh h => ⟨h.1, h.2.1.mv hal hh, h.2.2.1.al hal, h.2.2.2.1.al hal, h.2.2.2.2.1.mv hal hh, h.2.2.2.2.2.1.there hal hh, h.2.2.2.2.2.2⟩) (fun r U U' V V' h1 hal h2 h => Got.mv r U U' V V' h1 hal h2 h) ?_
  intro p e s m args below meth c s₁ X0 hexec hbytes hml hret hlk hnm hown hh0 W hP
  obtain ⟨rfl, hB, f1, f2, hA, s1, hz, l0, l2, hp⟩ := hP
  have c1 : Steps p.tables e below (s₁.setTop (entryFrame m #[.ref a, .ref b] 2)) (s₁.setTop (mkF m 0 #[.val (.ref a), .val (.ref b)] [])) := entry rfl
  have c2 : Steps p.tables e below (s₁.setTop (entryFrame m #[.ref a, .ref b] 2)) (s₁.setTop (mkF m 6 #[.val (.ref a), .val (.ref b)] [.null, .int (Int32.ofNat A.slots.size), .int 0, .ref b, .ref a])) := c1.trans (by
    refine XS.aloadN X0.here hexec rfl (hb hbytes d0) rfl rfl ?_
    refine XS.aloadN X0.here hexec rfl (hb hbytes d1) rfl rfl ?_
    refine iconstV X0.here hexec rfl 0 (hb hbytes d2) (by decide) ?_
    refine XS.aloadN X0.here hexec rfl (hb hbytes d3) rfl rfl ?_
    refine X0.alen hexec (hA.1.mv X0.warmed.alike hh0) rfl rfl (hb hbytes d4) ?_
    refine XS.aconstNull X0.here hexec rfl (hb hbytes d5) ?_
    exact Steps.refl _)
  obtain ⟨v3, T3, X3, E3, g3⟩ := X0.callN hexec (New4.law l a D fV fC b A z 0 A.slots.size) rfl hown (wks W (initW "java/lang/String" 27 New4.yN)) (W New4.tab (by simp only [site, List.mem_cons, List.mem_append, true_or, or_true])) (W := 0) (Nat.le_of_ble_eq_true rfl) (Nat.le_of_ble_eq_true rfl) (Nat.le_refl _) (by show 0 + A.slots.size ≤ A.slots.size; omega) (g := (mkF m 6 #[.val (.ref a), .val (.ref b)] [.null, .int (Int32.ofNat A.slots.size), .int (Int32.ofNat 0), .ref b, .ref a])) rfl (by rw [hml]; rfl) c2 (argsL := [.ref b, .int (Int32.ofNat 0), .int (Int32.ofNat A.slots.size), .null]) (rest := []) rfl rfl (by show 2 * 0 + 0 ≤ _; decide) (hb hbytes d6) (⟨rfl, hB.mv X0.warmed.alike hh0, f1.al X0.warmed.alike, f2.al X0.warmed.alike, hA.mv X0.warmed.alike hh0, s1.there X0.warmed.alike hh0, hz, l0, by omega, l2, fun i hi => by rw [Nat.zero_add]; exact hp i hi⟩)
  have e0 := Got.mv _ s₁ s _ _ hh0.symm (Vm.Alike.refl _) rfl E3
  obtain rfl := e0.1
  have c4 : Steps p.tables e below (s₁.setTop (entryFrame m #[.ref a, .ref b] 2)) (T3.setTop (mkF m 9 #[.val (.ref a), .val (.ref b)] [])) := g3
  exact ⟨T3, none, _, _, _, X3, by simp, rfl, by omega, (fun _ => rfl), e0, fun fs hl => c4.trans (X3.returnOut hexec hret (hb hbytes d9) hl)⟩
theorem pays {l : Launch} {R : Room} {p : Program} {e : Env} {below : List Frame} {s : State} {sargs : Array Value} {len W : Nat} (a : Addr) (D : Cell) (fV fC : Field) (b : Addr) (A : Cell) (z : Int32) (htab : tab.before sargs s = true) (hfr : 4 ≤ R.frames) (hlo : W + 65 ≤ R.locals) :
    Back l R p e below s sargs yN len W (fun A₁ a₁ => A₁.cells + 1 ≤ R.cells ∧ A₁.slots + A.slots.size ≤ R.slots ∧ P a D fV fC b A z a₁ A₁.U) (fun A₁ _ v₁ B₁ => E a D fV fC A v₁ A₁.U B₁.U ∧ B₁.locs = A₁.locs ++ [⟨a, fC.slot⟩, ⟨a, fV.slot⟩] ∧ B₁.cells = A₁.cells + 1 ∧ B₁.slots = A₁.slots + A.slots.size) :=
  (law l a D fV fC b A z).pays htab hfr (by omega)
end New1
/-- the byte, read back as charAt reads it, is the char -/
theorem lo8_mask {x : Int32} (h0 : ¬ x < 0) (h1 : ¬ 255 < x) : lo8 x &&& 255 = x := by
  have t : ∀ k : Fin 256, lo8 (Int32.ofNat k.val) &&& 255 = Int32.ofNat k.val := by decide +kernel
  rw [Int32.lt_iff_toInt_lt] at h0 h1
  have e0 : (0 : Int32).toInt = 0 := rfl
  have e1 : (255 : Int32).toInt = 255 := rfl
  obtain ⟨k, hk⟩ : ∃ k : Nat, x.toInt = k := ⟨x.toInt.toNat, by omega⟩
  have hx : x = Int32.ofNat k := Int32.toInt_inj.mp (by rw [hk, Int32.toInt_ofNat_small (by omega)])
  rw [hx]
  exact t ⟨k, by omega⟩
end StrChars
namespace StrChars.Road
open Jvm Sem ClassFile Op Lib Jvm.Stand Jvm.Free Jvm.Free.XT
open Jvm.Lib.Cold (StaticIs)
abbrev ST : String := "java/lang/String"
/-- every table word that New1's law asks, flat -/
abbrev words : List Jvm.Cond := [.code New1.yN New1.yB 2 none, .initialized ST, .methodLink ST 27 New4.yN, .instanceMethod New4.yN,
  .code New4.yN New4.yB 6 none, .fieldLink ST 38 ST "COMPACT_STRINGS" "Z", .laysFinal ST ST "value" "[B", .fieldLink ST 9 ST "value" "[B", .laysFinal ST ST "coder" "B", .fieldLink ST 15 ST "coder" "B",
  .methodLink ST 1 Lib.objectInit, .instanceMethod Lib.objectInit, .code Lib.objectInit ⟨#[0xb1]⟩ 1 none, .methodLink ST 177 Cmp3.yN, .static Cmp3.yN, .methodLink ST 47 CodL.yN, .static CodL.yN,
  .code Cmp3.yN Cmp3.yB 6 (some (.array .byte)), .initialized U16, .arrayClass .byte, .methodLink U16 115 Cmp5.yN, .static Cmp5.yN, .code Cmp5.yN Cmp5.yB 7 (some .int), .code CodL.yN CodL.yB 2 (some .byte)]
theorem tab_of {a : Array Value} {s : State} (h : ∀ w ∈ words, w.before a s = true) : New1.tab.before a s = true := by
  have h5 : Cmp5.tab.before a s = true := unparts (wk h (.code Cmp5.yN Cmp5.yB 7 (some .int))) (wks h (.initialized Cmp5.yN.cls :: Cmp5.site))
  have hc : CodL.tab.before a s = true := unparts (wk h (.code CodL.yN CodL.yB 2 (some .byte))) (wks h (.initialized CodL.yN.cls :: CodL.site))
  have q5 : ∀ w ∈ Cmp5.tab :: words, w.before a s = true := fun w hw => (List.mem_cons.mp hw).elim (fun e => e ▸ h5) (h w)
  have h3 : Cmp3.tab.before a s = true := unparts (wk q5 (.code Cmp3.yN Cmp3.yB 6 (some (.array .byte)))) (wks q5 (.initialized Cmp3.yN.cls :: Cmp3.site))
  have q3 : ∀ w ∈ Cmp3.tab :: CodL.tab :: words, w.before a s = true := fun w hw => (List.mem_cons.mp hw).elim (fun e => e ▸ h3) fun hw => (List.mem_cons.mp hw).elim (fun e => e ▸ hc) (h w)
  have h4 : New4.tab.before a s = true := unparts (wk q3 (.code New4.yN New4.yB 6 none)) (wks q3 (.initialized New4.yN.cls :: New4.site))
  have q4 : ∀ w ∈ New4.tab :: words, w.before a s = true := fun w hw => (List.mem_cons.mp hw).elim (fun e => e ▸ h4) (h w)
  exact unparts (wk q4 (.code New1.yN New1.yB 2 none)) (wks q4 (.initialized New1.yN.cls :: New1.site))
/-- the words ride from the start Z to the walk's own state -/
theorem moved {Z s : State} {a0 args : Array Value} (hZ : Z.Warmed39 s.vm) (hw : ∀ d ∈ words, d.before a0 Z = true) : ∀ d ∈ words, d.before args s = true := fun d hd => by
  have q := hw d hd
  have t : ∀ d ∈ words, d = .arrayClass .byte ∨ (d.onTables && d.keepsFace) = true := by decide +kernel
  rcases t d hd with rfl | t
  · exact RoadKit.mvA hZ q
  · exact RoadKit.mv hZ q t
/-- WHAT COMES BACK, over the tables of the start Z: h the heap at the call, h' behind it -/
def Q (Z : State) (x : Addr) (A : Cell) (h : Heap) (v : Option Value) (h' : Heap) (L : List Loc) : Prop := v = none ∧ (∀ y ∈ L, y.base = x) ∧ RoadKit.Keep h h' [x] ∧ h'.size = h.size + 1 ∧ RoadKit.Exa Z h' x ST ∧ RoadKit.Fld Z h' x ST "value" "[B" (.ref h.size) ∧ RoadKit.Fld Z h' x ST "coder" "B" (.int 0) ∧
  (∃ V : Cell, RoadKit.Arr Z h' h.size V .byte ∧ V.vm = .none ∧ Z.vm.findClass "[B" = some V.cls ∧ V.slots.size = A.slots.size ∧ ∀ j, j < A.slots.size → V.slots[j]? = some (.int (lo8 (cv A j)))) ∧
  ∀ (O n d : String) (w : Value), RoadKit.Fld Z h x O n d w → RoadKit.slotOf Z O n d ≠ RoadKit.slotOf Z ST "value" "[B" → RoadKit.slotOf Z O n d ≠ RoadKit.slotOf Z ST "coder" "B" → RoadKit.Fld Z h' x O n d w
/-- **new String(chars) AT A CALL, IN THE ROAD'S FORM**: for specialBack behind newO: x the fresh String, b the char[] with the cell A -/
theorem back {p : Program} {l : Launch} {e : Env} {R : Room} {s : State} {args : Array Value} {below : List Frame} {len W : Nat} {Z : State} {a0 : Array Value} {h : Heap} (hZ : Z.Warmed39 s.vm) (hw : ∀ d ∈ words, d.before a0 Z = true) {kI : Nat} (wi : (Jvm.Cond.instantiable ST kI).before a0 Z = true)
    {x b : Addr} {A : Cell} {z : Int32} {v0 c0 : Value} (E : RoadKit.Exa Z h x ST) (V : RoadKit.Fld Z h x ST "value" "[B" v0) (C : RoadKit.Fld Z h x ST "coder" "B" c0) (K : RoadKit.Arr Z h b A .char) (hty : Typed .char A) (S : RoadKit.Sta Z h ST "COMPACT_STRINGS" "Z" (.int z)) (hz : ¬ z = 0)
    (l0 : 0 < A.slots.size) (l2 : A.slots.size ≤ 536870912) (hp : ∀ i, i < A.slots.size → ¬ 255 < cv A i) (hfr : 4 ≤ R.frames) (hlo : W + 65 ≤ R.locals) :
    Back l R p e below s args New1.yN len W (fun P a => a = #[.ref x, .ref b] ∧ P.U.heap = h ∧ P.cells + 1 ≤ R.cells ∧ P.slots + A.slots.size ≤ R.slots)
      (fun P _ v B => ∃ L, Q Z x A h v B.U.heap L ∧ B.locs = P.locs ++ L ∧ B.cells = P.cells + 1 ∧ B.slots = P.slots + A.slots.size) := by
  intro m meth c P g ig mk a X hg hsize hdg hW hn hp'
  obtain ⟨rfl, rfl, r1, r2⟩ := hp'
  have al : Z.vm.Alike P.U.vm := hZ.alike.trans X.warmed.alike
  obtain ⟨D, cfV, kV, iV, fV, hD, gV, stV, knV, obV, asV, slV⟩ := id V
  obtain ⟨D', cfC, kC, iC, fC, hD', gC, stC, -, -, asC, slC⟩ := id C
  cases hD.symm.trans hD'
  obtain ⟨D2, kD, e1, e2, e3, e4, e5⟩ := id E
  cases hD.symm.trans e1
  obtain ⟨c2, k2, i1, i2, i3, -⟩ := Cond.instantiable_spec wi
  cases e2.symm.trans i1
  cases e3.symm.trans i2
  obtain ⟨kU, u1, u2⟩ := al.2.2 _ _ e3
  have hB : Blank ST x D P.U := ⟨hD, ⟨knV, fun q hq => by rw [hq] at obV; cases obV⟩, by rw [al.findClass]; exact e2, kU, u1, by rw [u2]; exact i3, by rw [u2]; exact e5 i3⟩
  have F1 : Found ST "value" "[B" fV P.U := ⟨SBG.found_only al ⟨cfV, kV, iV, gV⟩, stV⟩
  have F2 : Found ST "coder" "B" fC P.U := ⟨SBG.found_only al ⟨cfC, kC, iC, gC⟩, stC⟩
  have hA : Ch b A P.U := ⟨⟨K.1, State.isArrayOf_alike al K.2.1, K.2.2, by omega⟩, hty⟩
  have hS : StaticIs P.U ST "COMPACT_STRINGS" "Z" (.int z) := by
    obtain ⟨cfS, iS, kS, fS, st, cS, t1, t2, t3, t4, t5, t6, t7⟩ := S
    exact StaticIs.there (s := { Z with heap := P.U.heap }) ⟨cfS, iS, kS, fS, st, cS, t1, t2, t3, t4, t5, (fun q => by rw [q] at t6; cases t6), t7⟩ al rfl
  obtain ⟨v, B, X', ⟨⟨hv, E', V', q1, q2, q3, q4, q5, q6, q7, q8, q9, q10, q11⟩, hl, hc, hs⟩, st⟩ := New1.pays x D fV fC b A z (tab_of (moved hZ hw)) hfr hlo m meth c P g ig mk _ X hg hsize hdg hW hn ⟨r1, r2, rfl, hB, F1, F2, hA, hS, hz, l0, l2, hp⟩
  have al' : Z.vm.Alike B.U.vm := hZ.alike.trans X'.warmed.alike
  have hsz : E'.slots.size = D.slots.size := by
    obtain ⟨-, -, -, kB, w1, w2, w3⟩ := q1
    obtain ⟨kB', y1, y2⟩ := al'.2.2 _ _ e3
    rw [q2.2.1] at w1
    cases w1.symm.trans y1
    rw [w3, e5 i3, y2]
  refine ⟨v, B, X', ⟨_, ⟨hv, ?_, ⟨by omega, fun y cy hy hn' => q10 y cy (by simpa using hn') hy, fun y cy hy => ?_⟩, q11, ⟨E', _, q1.1, by rw [q2.2.1]; exact e2, by rw [q2.2.1]; exact e3, by rw [q2.1]; exact obV, fun _ => by rw [hsz]; exact e5 i3⟩,
    ⟨E', cfV, kV, iV, fV, q1.1, gV, stV, by rw [q2.1]; exact knV, by rw [q2.1]; exact obV, by rw [q2.2.1]; exact asV, q3⟩, ⟨E', cfC, kC, iC, fC, q1.1, gC, stC, by rw [q2.1]; exact knV, by rw [q2.1]; exact obV, by rw [q2.2.1]; exact asC, q4⟩,
    ⟨V', ⟨q5.1, State.isArrayOf_alike al'.symm q5.2.1, q5.2.2.1⟩, q6, by rw [← al'.findClass]; exact q7, q8, fun j hj => by have := q9 j hj; rwa [Nat.zero_add] at this⟩, fun O n d w F n1 n2 => ?_⟩, hl, hc, hs⟩, st⟩
  · intro y hy
    simp only [List.mem_cons, List.not_mem_nil, or_false] at hy
    rcases hy with rfl | rfl <;> rfl
  · by_cases q : y = x
    · subst q
      cases hD.symm.trans hy
      exact ⟨E', q1.1, q2.2.1, q2.1, hsz⟩
    · exact ⟨cy, q10 y cy q hy, rfl, rfl, rfl⟩
  · obtain ⟨D3, cf, k, i, f, g1, g2, g3, g4, g5, g6, g7⟩ := F
    cases hD.symm.trans g1
    simp only [RoadKit.slotOf, g2, gV, gC, Option.map_some, Option.getD_some] at n1 n2
    exact ⟨E', cf, k, i, f, q1.1, g2, g3, by rw [q2.1]; exact g4, by rw [q2.1]; exact g5, by rw [q2.2.1]; exact g6, by rw [q2.2.2 f.slot (by simp [n1, n2])]; exact g7⟩
end StrChars.Road
namespace StrChars.Road
open Jvm Sem ClassFile Op Lib Jvm.Stand Jvm.Free Jvm.Free.XT
/-- WHAT COMES BACK, the byte[] as a list of values -/
def QA (Z : State) (x : Addr) (zn : Int32) (cs : List Int32) (h : Heap) (v : Option Value) (h' : Heap) (L : List Loc) : Prop := v = none ∧ (∀ y ∈ L, y.base = x) ∧ RoadKit.Keep h h' [x] ∧ h'.size = h.size + 1 ∧ RoadKit.Exa Z h' x ST ∧ RoadKit.Fld Z h' x ST "value" "[B" (.ref h.size) ∧ RoadKit.Fld Z h' x ST "coder" "B" (.int 0) ∧
  (∃ kb, Z.vm.findClass "[B" = some kb ∧ RoadKit.Arv Z h' h.size kb .byte zn (cs.map fun c => .int (lo8 c)) (.int 0)) ∧
  ∀ (O n d : String) (w : Value), RoadKit.Fld Z h x O n d w → RoadKit.slotOf Z O n d ≠ RoadKit.slotOf Z ST "value" "[B" → RoadKit.slotOf Z O n d ≠ RoadKit.slotOf Z ST "coder" "B" → RoadKit.Fld Z h' x O n d w
/-- **new String(chars) AT A CALL, THE ARRAYS AS LISTS**: the char[] at b holds cs, not empty, no char above 255 -/
theorem backArv {p : Program} {l : Launch} {e : Env} {R : Room} {s : State} {args : Array Value} {below : List Frame} {len W : Nat} {Z : State} {a0 : Array Value} {h : Heap} (hZ : Z.Warmed39 s.vm) (hw : ∀ d ∈ words, d.before a0 Z = true) {kI : Nat} (wi : (Jvm.Cond.instantiable ST kI).before a0 Z = true)
    {x b : Addr} {k : ClassId} {zn z : Int32} {cs : List Int32} {dv v0 c0 : Value} (E : RoadKit.Exa Z h x ST) (V : RoadKit.Fld Z h x ST "value" "[B" v0) (C : RoadKit.Fld Z h x ST "coder" "B" c0) (K : RoadKit.Arv Z h b k .char zn (cs.map Value.int) dv) (S : RoadKit.Sta Z h ST "COMPACT_STRINGS" "Z" (.int z)) (hz : ¬ z = 0)
    (hlen : zn.toNatClampNeg = cs.length) (h0 : 0 < cs.length) (hbig : cs.length ≤ 536870912) (hall : ∀ c ∈ cs, ¬ 255 < c) (hfr : 4 ≤ R.frames) (hlo : W + 65 ≤ R.locals) :
    Back l R p e below s args New1.yN len W (fun P a => a = #[.ref x, .ref b] ∧ P.U.heap = h ∧ P.cells + 1 ≤ R.cells ∧ P.slots + cs.length ≤ R.slots)
      (fun P _ v B => ∃ L, QA Z x zn cs h v B.U.heap L ∧ B.locs = P.locs ++ L ∧ B.cells = P.cells + 1 ∧ B.slots = P.slots + cs.length) := by
  obtain ⟨A, K1, K2, K3, K4, K5, K6⟩ := K
  have e : A.slots.size = cs.length := K3.trans hlen
  have hat : ∀ (i : Nat) (hi : i < cs.length), A.slots[i]? = some (.int cs[i]) := fun i hi => by rw [K5 i (by omega)]; simp [List.getD_eq_getElem?_getD, hi]
  have hcv : ∀ (i : Nat) (hi : i < cs.length), cv A i = cs[i] := fun i hi => by unfold cv; rw [hat i hi]
  have hty : Typed .char A := fun i v hv => by
    have hi : i < A.slots.size := (Array.getElem?_eq_some_iff.mp hv).1
    have q := K5 i hi
    rw [hv] at q
    rw [Option.some.inj q]
    exact K6 i hi
  refine Back.mono (back hZ hw wi E V C K1 hty S hz (by omega) (by omega) (fun i hi => by rw [hcv i (by omega)]; exact hall _ (List.getElem_mem _)) hfr hlo) (fun P a hp => ⟨hp.1, hp.2.1, hp.2.2.1, by rw [e]; exact hp.2.2.2⟩) (fun P a v B hp hq => ?_)
  obtain ⟨L, ⟨q1, q2, q3, q4, q5, q6, q7, ⟨V', v1, v2, v3, v4, v5⟩, q9⟩, hl, hc, hs⟩ := hq
  refine ⟨L, ⟨q1, q2, q3, q4, q5, q6, q7, ⟨V'.cls, v3, V', v1, rfl, by rw [v4, e, hlen], K4, fun i hi => ?_, fun i hi => ?_⟩, q9⟩, hl, hc, by rw [hs, e]⟩
  · have hi' : i < cs.length := by omega
    rw [v5 i (by omega), hcv i hi']; simp [List.getD_eq_getElem?_getD, hi']
  · have hi' : i < cs.length := by omega
    simp only [List.getD_eq_getElem?_getD, List.getElem?_map, List.getElem?_eq_getElem hi', Option.map_some, Option.getD_some]
    exact fits_lo8 _
end StrChars.Road
namespace StrChars.Road
open Jvm Sem ClassFile Op Lib Jvm.Stand Jvm.Free Jvm.Free.XT
/-- WHAT COMES BACK, in the writer's own shape -/
def QV (Z : State) (x : Addr) (N : Int32) (bs : List Int32) (h : Heap) (n0 : Nat) (v : Option Value) (h' : Heap) (L : List Loc) : Prop := v = none ∧ RoadKit.Fr n0 L ∧ RoadKit.Keep h h' [x] ∧ RoadKit.Exa Z h' x ST ∧ RoadKit.Fld Z h' x ST "coder" "B" (.int 0) ∧
  ∃ (t : Addr) (kb : ClassId), n0 ≤ t ∧ h.size ≤ t ∧ ¬ t = x ∧ RoadKit.Fld Z h' x ST "value" "[B" (.ref t) ∧ RoadKit.Arv Z h' t kb .byte N (bs.map Value.int) (.int 0)
/-- **new String(chars) AT A CALL, FOR THE WRITER**: a char[] of n known ints, each 0 to 255 -/
theorem backV {p : Program} {l : Launch} {e : Env} {R : Room} {s : State} {args : Array Value} {below : List Frame} {len W : Nat} {Z : State} {a0 : Array Value} {h : Heap} (hZ : Z.Warmed39 s.vm) (hw : ∀ d ∈ words, d.before a0 Z = true) {kI : Nat} (wi : (Jvm.Cond.instantiable ST kI).before a0 Z = true)
    {x b : Addr} {kC : ClassId} {cs bs : List Int32} {d v0 c0 : Value} {z N : Int32} {n n0 : Nat} (hx0 : n0 ≤ x) (hh0 : n0 ≤ h.size) (E : RoadKit.Exa Z h x ST) (V : RoadKit.Fld Z h x ST "value" "[B" v0) (C : RoadKit.Fld Z h x ST "coder" "B" c0) (K : RoadKit.Arv Z h b kC .char N (cs.map Value.int) d) (S : RoadKit.Sta Z h ST "COMPACT_STRINGS" "Z" (.int z)) (hz : ¬ z = 0)
    (hn : cs.length = n) (hN : N = Int32.ofNat n) (l0 : 0 < n) (l2 : n ≤ 4000) (hp : ∀ c ∈ cs, ¬ c < 0 ∧ ¬ (255 : Int32) < c) (hb : bs = cs.map (fun c => c.toInt8.toInt32)) (hfr : 4 ≤ R.frames) (hlo : W + 65 ≤ R.locals) :
    Back l R p e below s args (⟨"java/lang/String", "<init>", "([C)V"⟩ : MethodName) len W (fun P a => a = #[.ref x, .ref b] ∧ P.U.heap = h ∧ P.cells + 1 ≤ R.cells ∧ P.slots + n ≤ R.slots)
      (fun P _ v B => ∃ L, QV Z x N bs h n0 v B.U.heap L ∧ B.locs = P.locs ++ L ∧ B.cells = P.cells + 1 ∧ B.slots = P.slots + n) := by
  subst hn hN hb
  refine Back.mono (backArv hZ hw wi E V C K S hz (n32 (by omega)) l0 (by omega) (fun c hc => (hp c hc).2) hfr hlo) (fun P a hp => hp) (fun P a v B hp hq => ?_)
  obtain ⟨L, ⟨q1, q2, q3, q4, q5, q6, q7, ⟨kb, v1, v2⟩, q9⟩, hl, hc, hs⟩ := hq
  exact ⟨L, ⟨q1, fun y hy => by rw [q2 y hy]; exact hx0, q3, q5, q7, h.size, kb, hh0, Nat.le_refl _, Nat.ne_of_gt E.lt, q6, by rw [List.map_map]; exact v2⟩, hl, hc, hs⟩
end StrChars.Road
namespace StrChars
open Jvm Sem ClassFile Op Lib Jvm.Stand Jvm.Free.XT Jvm.Free.ALB Jvm.Free.JM Jvm.Free
open Jvm.Lib.Cold (StaticIs)
def hi8 (x : Int32) : Int32 := lo8 (x >>> ((8 : Int32) &&& 31))
/-- what StringUTF16.getChar makes of two bytes -/
def pairCh (u v : Int32) : Int32 := (((u &&& 255) <<< ((0 : Int32) &&& 31)) ||| ((v &&& 255) <<< ((8 : Int32) &&& 31))).toUInt32.toUInt16.toUInt32.toInt32
theorem lo8_and (x : Int32) : (lo8 x &&& 255).toBitVec.toNat = x.toBitVec.toNat % 256 := by
  have h : (lo8 x).toBitVec = (x.toBitVec.signExtend 8).signExtend 32 := by rw [lo8, Int8.toBitVec_toInt32, Int32.toBitVec_toInt8]
  rw [Int32.toBitVec_and, BitVec.toNat_and, h]
  have e : ((x.toBitVec.signExtend 8).signExtend 32).toNat % 256 = x.toBitVec.toNat % 256 := by
    rw [BitVec.toNat_signExtend]
    have hlt := x.toBitVec.isLt
    simp only [BitVec.toNat_setWidth, BitVec.toNat_signExtend]
    split <;> split <;> omega
  rw [← e]
  exact Nat.and_two_pow_sub_one_eq_mod _ 8
theorem pair_says {c : Int32} (h0 : ¬ c < 0) (h1 : ¬ 65535 < c) : pairCh (lo8 c) (hi8 c) = c := by
  rw [Int32.lt_iff_toInt_lt] at h0 h1
  have e0 : (0 : Int32).toInt = 0 := rfl
  have e1 : (65535 : Int32).toInt = 65535 := rfl
  have hc : c.toInt = c.toBitVec.toNat := by
    have := c.toBitVec.isLt
    have e : c.toInt = c.toBitVec.toInt := rfl
    rw [e] at h0 h1
    rw [e]
    rw [BitVec.toInt_eq_toNat_cond] at h0 h1 ⊢
    split at h0 <;> split <;> omega
  have hn : c.toBitVec.toNat < 65536 := by omega
  have a1 := lo8_and c
  have a2 : (hi8 c &&& 255).toBitVec.toNat = c.toBitVec.toNat / 256 := by
    rw [hi8, lo8_and]
    have e : ((8 : Int32) &&& 31) = 8 := by decide
    rw [e, Int32.toBitVec_shiftRight]
    have e2 : ((8 : Int32).toBitVec.smod 32) = 8#32 := by decide
    rw [e2, BitVec.sshiftRight_eq', BitVec.toNat_sshiftRight_of_msb_false (by rw [BitVec.msb_eq_false_iff_two_mul_lt]; omega)]
    show c.toBitVec.toNat >>> 8 % 256 = _
    rw [Nat.shiftRight_eq_div_pow]
    omega
  unfold pairCh
  apply Int32.toBitVec_inj.mp
  apply BitVec.eq_of_toNat_eq
  have f0 : ((0 : Int32) &&& 31) = 0 := by decide
  have f8 : ((8 : Int32) &&& 31) = 8 := by decide
  rw [f0, f8]
  have g : (((lo8 c &&& 255) <<< (0 : Int32)) ||| ((hi8 c &&& 255) <<< (8 : Int32))).toBitVec.toNat = c.toBitVec.toNat := by
    rw [Int32.toBitVec_or, Int32.toBitVec_shiftLeft, Int32.toBitVec_shiftLeft]
    have s0 : ((0 : Int32).toBitVec.smod 32) = 0#32 := by decide
    have s8 : ((8 : Int32).toBitVec.smod 32) = 8#32 := by decide
    rw [s0, s8, BitVec.toNat_or]
    simp only [BitVec.shiftLeft_eq', BitVec.toNat_shiftLeft, a1, a2]
    show (c.toBitVec.toNat % 256) <<< 0 % 2 ^ 32 ||| (c.toBitVec.toNat / 256) <<< 8 % 2 ^ 32 = _
    rw [Nat.shiftLeft_zero, Nat.mod_eq_of_lt (show c.toBitVec.toNat % 256 < 2 ^ 32 by omega), Nat.mod_eq_of_lt (show (c.toBitVec.toNat / 256) <<< 8 < 2 ^ 32 by rw [Nat.shiftLeft_eq]; omega), Nat.or_comm, ← Nat.shiftLeft_add_eq_or_of_lt (by omega), Nat.shiftLeft_eq]
    omega
  show BitVec.toNat (((((lo8 c &&& 255) <<< (0 : Int32)) ||| ((hi8 c &&& 255) <<< (8 : Int32))).toBitVec.setWidth 16).setWidth 32) = _
  rw [BitVec.toNat_setWidth, BitVec.toNat_setWidth, g]
  omega
end StrChars
namespace StrChars
open Jvm Sem ClassFile Op Lib Jvm.Stand Jvm.Free.XT Jvm.Free.ALB Jvm.Free.JM Jvm.Free
open Jvm.Lib.Cold (StaticIs)
/-- the array's cell V codes the n chars f 0 .. f (n - 1) by the coder cd, as the JDK does: coder 1 just where some char is above 255 -/
def Cod (cd : Int32) (n : Nat) (f : Nat → Int32) (V : Cell) : Prop := (cd = 0 ∧ V.slots.size = n ∧ ∀ j, j < n → V.slots[j]? = some (.int (lo8 (f j))) ∧ ¬ 255 < f j) ∨ (cd = 1 ∧ V.slots.size = 2 * n ∧ (∀ j, j < n → V.slots[2 * j]? = some (.int (lo8 (f j))) ∧ V.slots[2 * j + 1]? = some (.int (hi8 (f j)))) ∧ ∃ j, j < n ∧ 255 < f j)
/-- **x is a String of the n chars f 0 .. f (n - 1)**, Latin-1 or UTF-16; its array at t has the cell V -/
def Txt (x t : Addr) (V : Cell) (cd : Int32) (n : Nat) (f : Nat → Int32) (U : State) : Prop := Exact "java/lang/String" x U ∧ Has x "java/lang/String" "value" "[B" (.ref t) U ∧ Has x "java/lang/String" "coder" "B" (.int cd) U ∧ XT.Arr .byte t V U ∧ Cod cd n f V ∧ ∀ j, j < n → ¬ f j < 0 ∧ ¬ 65535 < f j
theorem Txt.mv {x t : Addr} {V : Cell} {cd : Int32} {n : Nat} {f : Nat → Int32} {U U' : State} (h : Txt x t V cd n f U) (hal : U.vm.Alike U'.vm) (hh : U'.heap = U.heap) : Txt x t V cd n f U' := ⟨h.1.mv hal hh, h.2.1.mv hal hh, h.2.2.1.mv hal hh, h.2.2.2.1.mv hal hh, h.2.2.2.2⟩
end StrChars
namespace StrChars.Road
open Jvm Sem ClassFile Op Lib Jvm.Stand Jvm.Free Jvm.Free.XT
open Jvm.Lib.Cold (StaticIs)
theorem consq {a : Array Value} {s : State} {c : Jvm.Cond} {L : List Jvm.Cond} (h0 : c.before a s = true) (h : ∀ w ∈ L, w.before a s = true) : ∀ w ∈ c :: L, w.before a s = true := fun w hw => (List.mem_cons.mp hw).elim (fun e => e ▸ h0) (h w)
/-- the bytes of the chars cs, low before high -/
def wideBytes : List Int32 → List Value
  | [] => []
  | c :: cs => .int (lo8 c) :: .int (hi8 c) :: wideBytes cs
theorem wide_lo (d : Value) : ∀ (cs : List Int32) (j : Nat), j < cs.length → (wideBytes cs).getD (2 * j) d = .int (lo8 (cs.getD j 0))
  | [], j, h => absurd h (Nat.not_lt_zero j)
  | c :: cs, 0, _ => rfl
  | c :: cs, j + 1, h => by
    have q := wide_lo d cs j (by simpa using h)
    rw [show 2 * (j + 1) = 2 * j + 1 + 1 from by omega]
    simpa [wideBytes] using q
theorem wide_hi (d : Value) : ∀ (cs : List Int32) (j : Nat), j < cs.length → (wideBytes cs).getD (2 * j + 1) d = .int (hi8 (cs.getD j 0))
  | [], j, h => absurd h (Nat.not_lt_zero j)
  | c :: cs, 0, _ => rfl
  | c :: cs, j + 1, h => by
    have q := wide_hi d cs j (by simpa using h)
    rw [show 2 * (j + 1) + 1 = 2 * j + 1 + 1 + 1 from by omega]
    simpa [wideBytes] using q
theorem low_at (d : Value) (cs : List Int32) (j : Nat) (h : j < cs.length) : (cs.map fun c => Value.int (lo8 c)).getD j d = .int (lo8 (cs.getD j 0)) := by
  simp [List.getD_eq_getElem?_getD, h]
/-- an array of N2 bytes vs codes the chars cs by the coder cd -/
def CodA (cs : List Int32) (cd N2 : Int32) (vs : List Value) : Prop := (cd = 0 ∧ N2 = Int32.ofNat cs.length ∧ vs = (cs.map fun c => Value.int (lo8 c)) ∧ ∀ c ∈ cs, ¬ 255 < c) ∨ (cd = 1 ∧ N2 = Int32.ofNat (2 * cs.length) ∧ vs = wideBytes cs ∧ ∃ c ∈ cs, 255 < c)
theorem CodA.cod {cs : List Int32} {cd N2 : Int32} {vs : List Value} {V : Cell} (h : CodA cs cd N2 vs) (hn : 2 * cs.length < 2 ^ 31) (hs : V.slots.size = N2.toNatClampNeg) (hv : RoadKit.Has V vs (.int 0)) : Cod cd cs.length (fun j => cs.getD j 0) V := by
  rcases h with ⟨rfl, rfl, rfl, h⟩ | ⟨rfl, rfl, rfl, c, hc, hw⟩
  · rw [n32 (by omega)] at hs
    exact Or.inl ⟨rfl, hs, fun j hj => ⟨by rw [hv j (by omega), low_at _ _ _ hj], by
      have e : cs.getD j 0 = cs[j] := by simp [List.getD_eq_getElem?_getD, hj]
      show ¬ 255 < cs.getD j 0
      rw [e]; exact h _ (List.getElem_mem _)⟩⟩
  · rw [n32 (by omega)] at hs
    obtain ⟨j, hj, rfl⟩ := List.getElem_of_mem hc
    exact Or.inr ⟨rfl, hs, fun j hj => ⟨by rw [hv _ (by omega), wide_lo _ _ _ hj], by rw [hv _ (by omega), wide_hi _ _ _ hj]⟩, j, hj, by
      have e : cs.getD j 0 = cs[j] := by simp [List.getD_eq_getElem?_getD, hj]
      show 255 < cs.getD j 0
      rw [e]; exact hw⟩
/-- an object of exactly java/lang/String, its two fields found: as the laws ask it -/
theorem strObj {Z U : State} {a0 : Array Value} {kI : Nat} (wi : (Jvm.Cond.instantiable ST kI).before a0 Z = true) (al : Z.vm.Alike U.vm) {x : Addr} {v0 c0 : Value} (E : RoadKit.Exa Z U.heap x ST) (V : RoadKit.Fld Z U.heap x ST "value" "[B" v0) (C : RoadKit.Fld Z U.heap x ST "coder" "B" c0) :
    ∃ (D : Cell) (fV fC : Field), Blank ST x D U ∧ Found ST "value" "[B" fV U ∧ Found ST "coder" "B" fC U ∧ D.slots[fV.slot]? = some v0 ∧ D.slots[fC.slot]? = some c0 ∧ RoadKit.slotOf Z ST "value" "[B" = fV.slot ∧ RoadKit.slotOf Z ST "coder" "B" = fC.slot := by
  obtain ⟨D, cfV, kV, iV, fV, hD, gV, stV, knV, obV, asV, slV⟩ := V
  obtain ⟨D', cfC, kC, iC, fC, hD', gC, stC, -, -, asC, slC⟩ := C
  cases hD.symm.trans hD'
  obtain ⟨D2, kD, e1, e2, e3, e4, e5⟩ := E
  cases hD.symm.trans e1
  obtain ⟨c2, k2, i1, i2, i3, -⟩ := Cond.instantiable_spec wi
  cases e2.symm.trans i1
  cases e3.symm.trans i2
  obtain ⟨kU, u1, u2⟩ := al.2.2 _ _ e3
  exact ⟨D, fV, fC, ⟨hD, ⟨knV, fun q hq => by rw [hq] at obV; cases obV⟩, by rw [al.findClass]; exact e2, kU, u1, by rw [u2]; exact i3, by rw [u2]; exact e5 i3⟩, ⟨SBG.found_only al ⟨cfV, kV, iV, gV⟩, stV⟩, ⟨SBG.found_only al ⟨cfC, kC, iC, gC⟩, stC⟩, slV, slC, by simp [RoadKit.slotOf, gV], by simp [RoadKit.slotOf, gC]⟩
theorem sta_is {Z U : State} (al : Z.vm.Alike U.vm) {C n d : String} {v : Value} (S : RoadKit.Sta Z U.heap C n d v) : StaticIs U C n d v := by
  obtain ⟨cfS, iS, kS, fS, st, cS, t1, t2, t3, t4, t5, t6, t7⟩ := S
  exact StaticIs.there (s := { Z with heap := U.heap }) ⟨cfS, iS, kS, fS, st, cS, t1, t2, t3, t4, t5, (fun q => by rw [q] at t6; cases t6), t7⟩ al rfl
end StrChars.Road
namespace StrChars
open Jvm Sem ClassFile Op Lib Jvm.Stand Jvm.Free.XT Jvm.Free.ALB Jvm.Free.JM Jvm.Free
open Jvm.Lib.Cold (StaticIs)
/-- what place i of a byte[]'s cell holds -/
def yv (A : Cell) (i : Nat) : Int32 := match A.slots[i]? with | some (.int x) => x | _ => 0
theorem yv_get {a : Addr} {A : Cell} {U : State} (h : XT.Arr .byte a A U) (ht : Typed .byte A) {i : Nat} (hi : i < A.slots.size) : A.slots[i]? = some (.int (yv A i)) := by
  have e := Array.getElem?_eq_getElem hi
  have f := ht i _ e
  unfold yv; rw [e]
  generalize A.slots[i] = v at f
  cases v <;> simp [fits] at f ⊢
/-- the two arrays are equal, place for place -/
def EqC (A B : Cell) : Prop := A.slots.size = B.slots.size ∧ ∀ i, i < A.slots.size → yv A i = yv B i
/-- a boolean that says whether p -/
def Says01 (q : Prop) (r : Option Value) (s u : State) : Prop := ∃ v : Int32, r = some (.int v) ∧ u.heap = s.heap ∧ ((v = 1 ∧ q) ∨ (v = 0 ∧ ¬ q))
theorem Says01.mv {q : Prop} : ∀ r (U U' V V' : State), U'.heap = U.heap → V.vm.Alike V'.vm → V'.heap = V.heap → Says01 q r U V → Says01 q r U' V' :=
  fun r U U' V V' h1 _ h2 ⟨v, a, b, c⟩ => ⟨v, a, by rw [h1, h2]; exact b, c⟩
namespace LEq
def yN : MethodName := ⟨"java/lang/StringLatin1", "equals", "([B[B)Z"⟩
abbrev yB : ByteArray := jdk_43_method_13_code
theorem d0 : decode yB 0 = .ok (.aload_n 0, 1) := by decide +kernel
theorem d1 : decode yB 1 = .ok (.arraylength, 1) := by decide +kernel
theorem d2 : decode yB 2 = .ok (.aload_n 1, 1) := by decide +kernel
theorem d3 : decode yB 3 = .ok (.arraylength, 1) := by decide +kernel
theorem d4 : decode yB 4 = .ok (.if_icmp (.ne) 30, 3) := by decide +kernel
theorem d7 : decode yB 7 = .ok (.iconst 0, 1) := by decide +kernel
theorem d8 : decode yB 8 = .ok (.istore_n 2, 1) := by decide +kernel
theorem d9 : decode yB 9 = .ok (.iload_n 2, 1) := by decide +kernel
theorem d10 : decode yB 10 = .ok (.aload_n 0, 1) := by decide +kernel
theorem d11 : decode yB 11 = .ok (.arraylength, 1) := by decide +kernel
theorem d12 : decode yB 12 = .ok (.if_icmp (.ge) 20, 3) := by decide +kernel
theorem d15 : decode yB 15 = .ok (.aload_n 0, 1) := by decide +kernel
theorem d16 : decode yB 16 = .ok (.iload_n 2, 1) := by decide +kernel
theorem d17 : decode yB 17 = .ok (.baload, 1) := by decide +kernel
theorem d18 : decode yB 18 = .ok (.aload_n 1, 1) := by decide +kernel
theorem d19 : decode yB 19 = .ok (.iload_n 2, 1) := by decide +kernel
theorem d20 : decode yB 20 = .ok (.baload, 1) := by decide +kernel
theorem d21 : decode yB 21 = .ok (.if_icmp (.eq) 5, 3) := by decide +kernel
theorem d24 : decode yB 24 = .ok (.iconst 0, 1) := by decide +kernel
theorem d25 : decode yB 25 = .ok (.ireturn, 1) := by decide +kernel
theorem d26 : decode yB 26 = .ok (.iinc 2 1, 3) := by decide +kernel
theorem d29 : decode yB 29 = .ok (.goto (-20), 3) := by decide +kernel
theorem d32 : decode yB 32 = .ok (.iconst 1, 1) := by decide +kernel
theorem d33 : decode yB 33 = .ok (.ireturn, 1) := by decide +kernel
theorem d34 : decode yB 34 = .ok (.iconst 0, 1) := by decide +kernel
theorem d35 : decode yB 35 = .ok (.ireturn, 1) := by decide +kernel
def site : List Cond := []
def tab : Cond := tabOf yN yB 3 (some .boolean) site
def P (a : Addr) (A : Cell) (b : Addr) (B : Cell) (args : Array Value) (s : State) : Prop := args = #[.ref a, .ref b] ∧ XT.Arr .byte a A s ∧ Typed .byte A ∧ XT.Arr .byte b B s ∧ Typed .byte B
/-- whether two byte[] are equal, place for place -/
theorem law (l : Launch) (a : Addr) (A : Cell) (b : Addr) (B : Cell) : Law l yN 2 2 0 0 yB 3 (some .boolean) site (P a A b B) (Says01 (EqC A B)) [] 0 0 := by
  refine Law.of_walk (plainFor_of_name (by decide +kernel)) (by decide +kernel) (by decide +kernel) (by decide) (fun _ _ h => by rw [h.1]; rfl) (fun _ U U' hal hh h => ⟨h.1, h.2.1.mv hal hh, h.2.2.1, h.2.2.2.1.mv hal hh, h.2.2.2.2⟩) (fun r U U' V V' h1 hal h2 h => Says01.mv r U U' V V' h1 hal h2 h) ?_
  intro p e s m args below meth c s₁ X0 hexec hbytes hml hret hlk hnm hown hh0 W hP
  obtain ⟨rfl, hA, tA, hB, tB⟩ := hP
  have a31 := hA.2.2.2
  have b31 := hB.2.2.2
  have hA0 := hA.mv X0.warmed.alike hh0
  have hB0 := hB.mv X0.warmed.alike hh0
  have c1 : Steps p.tables e below (s₁.setTop (entryFrame m #[.ref a, .ref b] 3)) (s₁.setTop (mkF m 0 #[.val (.ref a), .val (.ref b), .unset] [])) := entry rfl
  have c2 : Steps p.tables e below (s₁.setTop (entryFrame m #[.ref a, .ref b] 3)) (s₁.setTop (mkF m 4 #[.val (.ref a), .val (.ref b), .unset] [.int (Int32.ofNat B.slots.size), .int (Int32.ofNat A.slots.size)])) := c1.trans (by
    refine XS.aloadN X0.here hexec rfl (hb hbytes d0) rfl rfl ?_
    refine X0.alen hexec hA0 rfl rfl (hb hbytes d1) ?_
    refine XS.aloadN X0.here hexec rfl (hb hbytes d2) rfl rfl ?_
    refine X0.alen hexec hB0 rfl rfl (hb hbytes d3) ?_
    exact Steps.refl _)
  by_cases hs : A.slots.size = B.slots.size
  · have c3 : Steps p.tables e below (s₁.setTop (entryFrame m #[.ref a, .ref b] 3)) (s₁.setTop (mkF m 9 #[.val (.ref a), .val (.ref b), .val (.int 0)] [])) := c2.trans (by
      refine XS.icmpNo X0.here hexec rfl (hb hbytes d4) rfl (ii_ne_f (by rw [hs])) ?_
      refine iconstV X0.here hexec rfl 0 (hb hbytes d7) (by decide) ?_
      refine XS.istoreN X0.here hexec rfl (hb hbytes d8) rfl rfl ?_
      exact Steps.refl _)
    have loop : ∀ (r i : Nat), i + r = A.slots.size → (∀ j, j < i → yv A j = yv B j) → Steps p.tables e below (s₁.setTop (entryFrame m #[.ref a, .ref b] 3)) (s₁.setTop (mkF m 9 #[.val (.ref a), .val (.ref b), .val (.int (Int32.ofNat i))] [])) → ∃ (pc : Nat) (Ls : Array Slot) (v : Int32), (pc = 25 ∨ pc = 33) ∧ ((v = 1 ∧ EqC A B) ∨ (v = 0 ∧ ¬ EqC A B)) ∧ Steps p.tables e below (s₁.setTop (entryFrame m #[.ref a, .ref b] 3)) (s₁.setTop (mkF m pc Ls [.int v])) := by
      intro r
      induction r with
      | zero =>
        intro i hi he cl
        exact ⟨33, _, 1, Or.inr rfl, Or.inl ⟨rfl, hs, fun j hj => he j (by omega)⟩, cl.trans (by
          refine XS.iloadN X0.here hexec rfl (hb hbytes d9) rfl ?_
          refine XS.aloadN X0.here hexec rfl (hb hbytes d10) rfl rfl ?_
          refine X0.alen hexec hA0 rfl rfl (hb hbytes d11) ?_
          refine XS.icmpYes X0.here hexec rfl (pc0 := 12) rfl (hb hbytes d12) rfl (ii_ge_t (nlt32 (by omega) (by omega))) (by decide) rfl ?_
          refine iconstV X0.here hexec rfl 1 (hb hbytes d32) (by decide) ?_
          exact Steps.refl _)⟩
      | succ r ih =>
        intro i hi he cl
        have c4 : Steps p.tables e below (s₁.setTop (entryFrame m #[.ref a, .ref b] 3)) (s₁.setTop (mkF m 21 #[.val (.ref a), .val (.ref b), .val (.int (Int32.ofNat i))] [.int (yv B i), .int (yv A i)])) := cl.trans (by
          refine XS.iloadN X0.here hexec rfl (hb hbytes d9) rfl ?_
          refine XS.aloadN X0.here hexec rfl (hb hbytes d10) rfl rfl ?_
          refine X0.alen hexec hA0 rfl rfl (hb hbytes d11) ?_
          refine XS.icmpNo X0.here hexec rfl (hb hbytes d12) rfl (ii_ge_f (lt32 (by omega) (by omega))) ?_
          refine XS.aloadN X0.here hexec rfl (hb hbytes d15) rfl rfl ?_
          refine XS.iloadN X0.here hexec rfl (hb hbytes d16) rfl ?_
          refine X0.aget hexec hA0 rfl (yv_get hA tA (i := i) (by omega)) rfl rfl (hb hbytes d17) ?_
          refine XS.aloadN X0.here hexec rfl (hb hbytes d18) rfl rfl ?_
          refine XS.iloadN X0.here hexec rfl (hb hbytes d19) rfl ?_
          refine X0.aget hexec hB0 rfl (yv_get hB tB (i := i) (by omega)) rfl rfl (hb hbytes d20) ?_
          exact Steps.refl _)
        by_cases hv : yv A i = yv B i
        · have c5 : Steps p.tables e below (s₁.setTop (entryFrame m #[.ref a, .ref b] 3)) (s₁.setTop (mkF m 9 #[.val (.ref a), .val (.ref b), .val (.int (Int32.ofNat i + 1))] [])) := c4.trans (by
            refine XS.icmpYes X0.here hexec rfl (pc0 := 21) rfl (hb hbytes d21) rfl (ii_eq_t hv) (by decide) rfl ?_
            refine iincV X0.here hexec rfl 1 (hb hbytes d26) (by decide) rfl rfl ?_
            refine XS.goto X0.here hexec rfl (pc0 := 29) rfl (hb hbytes d29) (by decide) rfl ?_
            exact Steps.refl _)
          rw [succ32] at c5
          exact ih (i + 1) (by omega) (fun j hj => by
            by_cases e : j = i
            · rw [e]; exact hv
            · exact he j (by omega)) c5
        · exact ⟨25, _, 0, Or.inl rfl, Or.inr ⟨rfl, fun q => hv (q.2 i (by omega))⟩, c4.trans (by
            refine XS.icmpNo X0.here hexec rfl (hb hbytes d21) rfl (ii_eq_f hv) ?_
            refine iconstV X0.here hexec rfl 0 (hb hbytes d24) (by decide) ?_
            exact Steps.refl _)⟩
    obtain ⟨pc, Ls, v, hpc, hv, cz⟩ := loop A.slots.size 0 (by omega) (fun j hj => absurd hj (Nat.not_lt_zero j)) c3
    have nv : narrow .boolean (.int v) = .int v := by rcases hv with ⟨rfl, -⟩ | ⟨rfl, -⟩ <;> rfl
    rcases hpc with rfl | rfl
    · exact ⟨s₁, some (.int v), _, _, _, X0, rfl, rfl, rfl, (fun h => by cases h), ⟨v, rfl, hh0, hv⟩, fun fs hl => cz.trans (X0.ireturnOut hexec hret nv (Or.inr (Or.inl rfl)) (hb hbytes d25) hl)⟩
    · exact ⟨s₁, some (.int v), _, _, _, X0, rfl, rfl, rfl, (fun h => by cases h), ⟨v, rfl, hh0, hv⟩, fun fs hl => cz.trans (X0.ireturnOut hexec hret nv (Or.inr (Or.inl rfl)) (hb hbytes d33) hl)⟩
  · have c3 : Steps p.tables e below (s₁.setTop (entryFrame m #[.ref a, .ref b] 3)) (s₁.setTop (mkF m 35 #[.val (.ref a), .val (.ref b), .unset] [.int 0])) := c2.trans (by
      refine XS.icmpYes X0.here hexec rfl (pc0 := 4) rfl (hb hbytes d4) rfl (ii_ne_t (ne32 a31 b31 hs)) (by decide) rfl ?_
      refine iconstV X0.here hexec rfl 0 (hb hbytes d34) (by decide) ?_
      exact Steps.refl _)
    exact ⟨s₁, some (.int 0), _, _, _, X0, rfl, rfl, rfl, (fun h => by cases h), ⟨0, rfl, hh0, Or.inr ⟨rfl, fun q => hs q.1⟩⟩, fun fs hl => c3.trans (X0.ireturnOut hexec hret rfl (Or.inr (Or.inl rfl)) (hb hbytes d35) hl)⟩
end LEq
theorem Cod.ty {cd : Int32} {n : Nat} {f : Nat → Int32} {V : Cell} (h : Cod cd n f V) : Typed .byte V := fun i v hv => by
  have hi : i < V.slots.size := (Array.getElem?_eq_some_iff.mp hv).1
  rcases h with ⟨-, k1, k2⟩ | ⟨-, k1, k2, -⟩
  · rw [(k2 i (by omega)).1] at hv; cases hv; exact fits_lo8 _
  · rcases Nat.mod_two_eq_zero_or_one i with e | e
    · obtain ⟨j, rfl⟩ : ∃ j, i = 2 * j := ⟨i / 2, by omega⟩
      rw [(k2 j (by omega)).1] at hv; cases hv; exact fits_lo8 _
    · obtain ⟨j, rfl⟩ : ∃ j, i = 2 * j + 1 := ⟨i / 2, by omega⟩
      rw [(k2 j (by omega)).2] at hv; cases hv; exact fits_lo8 _
/-- the same text -/
def SameT (n : Nat) (f : Nat → Int32) (k : Nat) (g : Nat → Int32) : Prop := n = k ∧ ∀ j, j < n → f j = g j
theorem lo8_inj {x y : Int32} (h0 : ¬ x < 0) (h1 : ¬ 255 < x) (k0 : ¬ y < 0) (k1 : ¬ 255 < y) (h : lo8 x = lo8 y) : x = y := by
  rw [← lo8_mask h0 h1, ← lo8_mask k0 k1, h]
/-- arrays coded by one coder are equal just where the texts are -/
theorem Cod.eqv {cd : Int32} {n k : Nat} {f g : Nat → Int32} {V V' : Cell} (h : Cod cd n f V) (h' : Cod cd k g V') (hf : ∀ j, j < n → ¬ f j < 0 ∧ ¬ 65535 < f j) (hg : ∀ j, j < k → ¬ g j < 0 ∧ ¬ 65535 < g j) : EqC V V' ↔ SameT n f k g := by
  have yvv : ∀ {W : Cell} {i : Nat} {x : Int32}, W.slots[i]? = some (.int x) → yv W i = x := fun q => by unfold yv; rw [q]
  rcases h with ⟨rfl, k1, k2⟩ | ⟨rfl, k1, k2, -⟩
  · rcases h' with ⟨-, m1, m2⟩ | ⟨e, -⟩
    · constructor
      · rintro ⟨e1, e2⟩
        refine ⟨by omega, fun j hj => ?_⟩
        have q := e2 j (by omega)
        rw [yvv (k2 j hj).1, yvv (m2 j (by omega)).1] at q
        exact lo8_inj (hf j hj).1 (k2 j hj).2 (hg j (by omega)).1 (m2 j (by omega)).2 q
      · rintro ⟨rfl, e2⟩
        refine ⟨by omega, fun j hj => ?_⟩
        rw [yvv (k2 j (by omega)).1, yvv (m2 j (by omega)).1, e2 j (by omega)]
    · exact absurd e (by decide)
  · rcases h' with ⟨e, -⟩ | ⟨-, m1, m2, -⟩
    · exact absurd e (by decide)
    · constructor
      · rintro ⟨e1, e2⟩
        refine ⟨by omega, fun j hj => ?_⟩
        have q1 := e2 (2 * j) (by omega)
        have q2 := e2 (2 * j + 1) (by omega)
        rw [yvv (k2 j hj).1, yvv (m2 j (by omega)).1] at q1
        rw [yvv (k2 j hj).2, yvv (m2 j (by omega)).2] at q2
        rw [← pair_says (hf j hj).1 (hf j hj).2, ← pair_says (hg j (by omega)).1 (hg j (by omega)).2, q1, q2]
      · rintro ⟨rfl, e2⟩
        refine ⟨by omega, fun i hi => ?_⟩
        rcases Nat.mod_two_eq_zero_or_one i with e | e
        · obtain ⟨j, rfl⟩ : ∃ j, i = 2 * j := ⟨i / 2, by omega⟩
          rw [yvv (k2 j (by omega)).1, yvv (m2 j (by omega)).1, e2 j (by omega)]
        · obtain ⟨j, rfl⟩ : ∃ j, i = 2 * j + 1 := ⟨i / 2, by omega⟩
          rw [yvv (k2 j (by omega)).2, yvv (m2 j (by omega)).2, e2 j (by omega)]
/-- two codings differ: so do the texts -/
theorem Cod.dif {cd cd' : Int32} {n k : Nat} {f g : Nat → Int32} {V V' : Cell} (h : Cod cd n f V) (h' : Cod cd' k g V') (hne : ¬ cd = cd') : ¬ SameT n f k g := by
  rintro ⟨rfl, e⟩
  rcases h with ⟨rfl, -, k2⟩ | ⟨rfl, -, -, j, hj, hw⟩
  · rcases h' with ⟨rfl, -⟩ | ⟨-, -, -, j, hj, hw⟩
    · exact hne rfl
    · exact (k2 j hj).2 (by rw [e j hj]; exact hw)
  · rcases h' with ⟨-, -, m2⟩ | ⟨rfl, -⟩
    · exact (m2 j hj).2 (by rw [← e j hj]; exact hw)
    · exact hne rfl
/-- an object of exactly C is an instance of C -/
theorem cinst {p : Program} {l : Launch} {e : Env} {R : Room} {s : State} {m : MethodId} {args : Array Value} {below : List Frame} {meth : Method} {c : Code} {T : State} {locs : List Loc} {cells slots : Nat} (X : Stand p l e R s m args below meth c T locs cells slots) (hexec : p.tables.exec = Jvm.exec) {own C : String} {index : Nat} (hown : s.vm.findClass own = some m.cls) (hlink : (Cond.classLink own index C).before args s = true) {a : Addr} (hE : Exact C a T)
    {g : JFrame} (hg : g.method = m) {rest : List Value} (hstack : g.stack = .ref a :: rest) (hdg : decode c.code g.pc = .ok (.instanceof index, 3)) :
    ∃ T', Stand p l e R s m args below meth c T' locs cells slots ∧ T'.heap = T.heap ∧ ∀ target, Steps p.tables e below (T'.setTop { g with pc := g.pc + 3, stack := .int 1 :: rest }) target → Steps p.tables e below (T.setTop g) target := by
  obtain ⟨cB, h1, D, h2, h3, h4⟩ := hE
  have h1' : s.vm.findClass C = some cB := by rw [← X.warmed.alike.findClass]; exact h1
  obtain ⟨vm', X', st⟩ := X.instanceofYes hexec hown hlink h2 h4 h1' (by rw [h3]; exact Jvm.Free.SB.assignable_self _ _) hg hstack hdg
  exact ⟨_, X', rfl, st⟩
theorem cself {p : Program} {l : Launch} {e : Env} {R : Room} {s : State} {m : MethodId} {args : Array Value} {below : List Frame} {meth : Method} {c : Code} {T : State} {locs : List Loc} {cells slots : Nat} (X : Stand p l e R s m args below meth c T locs cells slots) (hexec : p.tables.exec = Jvm.exec) {own C : String} {index : Nat} (hown : s.vm.findClass own = some m.cls) (hlink : (Cond.classLink own index C).before args s = true) {a : Addr} (hE : Exact C a T)
    {g : JFrame} (hg : g.method = m) {rest : List Value} (hstack : g.stack = .ref a :: rest) (hdg : decode c.code g.pc = .ok (.checkcast index, 3)) :
    ∃ T', Stand p l e R s m args below meth c T' locs cells slots ∧ T'.heap = T.heap ∧ ∀ target, Steps p.tables e below (T'.setTop { g with pc := g.pc + 3, stack := .ref a :: rest }) target → Steps p.tables e below (T.setTop g) target := by
  obtain ⟨cB, h1, D, h2, h3, h4⟩ := hE
  have h1' : s.vm.findClass C = some cB := by rw [← X.warmed.alike.findClass]; exact h1
  obtain ⟨vm', X', st⟩ := X.checkcastYes hexec hown hlink h2 h4 h1' (by rw [h3]; exact Jvm.Free.SB.assignable_self _ _) hg hstack hdg
  exact ⟨_, X', rfl, fun t h => st t (by rw [← hstack] at h; exact h)⟩
namespace SEq
def yN : MethodName := ⟨"java/lang/String", "equals", "(Ljava/lang/Object;)Z"⟩
abbrev yB : ByteArray := jdk_42_method_66_code
theorem d0 : decode yB 0 = .ok (.aload_n 0, 1) := by decide +kernel
theorem d1 : decode yB 1 = .ok (.aload_n 1, 1) := by decide +kernel
theorem d2 : decode yB 2 = .ok (.if_acmp (.ne) 5, 3) := by decide +kernel
theorem d5 : decode yB 5 = .ok (.iconst 1, 1) := by decide +kernel
theorem d6 : decode yB 6 = .ok (.ireturn, 1) := by decide +kernel
theorem d7 : decode yB 7 = .ok (.aload_n 1, 1) := by decide +kernel
theorem d8 : decode yB 8 = .ok (.instanceof 10, 3) := by decide +kernel
theorem d11 : decode yB 11 = .ok (.ifCond (.eq) 43, 3) := by decide +kernel
theorem d14 : decode yB 14 = .ok (.aload_n 1, 1) := by decide +kernel
theorem d15 : decode yB 15 = .ok (.checkcast 10, 3) := by decide +kernel
theorem d18 : decode yB 18 = .ok (.astore_n 2, 1) := by decide +kernel
theorem d19 : decode yB 19 = .ok (.getstatic 38, 3) := by decide +kernel
theorem d22 : decode yB 22 = .ok (.ifCond (.eq) 14, 3) := by decide +kernel
theorem d25 : decode yB 25 = .ok (.aload_n 0, 1) := by decide +kernel
theorem d26 : decode yB 26 = .ok (.getfield 15, 3) := by decide +kernel
theorem d29 : decode yB 29 = .ok (.aload_n 2, 1) := by decide +kernel
theorem d30 : decode yB 30 = .ok (.getfield 15, 3) := by decide +kernel
theorem d33 : decode yB 33 = .ok (.if_icmp (.ne) 21, 3) := by decide +kernel
theorem d36 : decode yB 36 = .ok (.aload_n 0, 1) := by decide +kernel
theorem d37 : decode yB 37 = .ok (.getfield 9, 3) := by decide +kernel
theorem d40 : decode yB 40 = .ok (.aload_n 2, 1) := by decide +kernel
theorem d41 : decode yB 41 = .ok (.getfield 9, 3) := by decide +kernel
theorem d44 : decode yB 44 = .ok (.invokestatic 541, 3) := by decide +kernel
theorem d47 : decode yB 47 = .ok (.ifCond (.eq) 7, 3) := by decide +kernel
theorem d50 : decode yB 50 = .ok (.iconst 1, 1) := by decide +kernel
theorem d51 : decode yB 51 = .ok (.goto 4, 3) := by decide +kernel
theorem d54 : decode yB 54 = .ok (.iconst 0, 1) := by decide +kernel
theorem d55 : decode yB 55 = .ok (.ireturn, 1) := by decide +kernel
def site : List Cond := [.classLink "java/lang/String" 10 "java/lang/String", .fieldLink "java/lang/String" 38 "java/lang/String" "COMPACT_STRINGS" "Z", .fieldLink "java/lang/String" 15 "java/lang/String" "coder" "B", .fieldLink "java/lang/String" 9 "java/lang/String" "value" "[B", LEq.tab] ++ staticW "java/lang/String" 541 LEq.yN
def tab : Cond := tabOf yN yB 3 (some .boolean) site
def P (x t : Addr) (V : Cell) (cd : Int32) (n : Nat) (f : Nat → Int32) (y t' : Addr) (V' : Cell) (cd' : Int32) (k : Nat) (g : Nat → Int32) (z : Int32) (args : Array Value) (s : State) : Prop := args = #[.ref x, .ref y] ∧ Txt x t V cd n f s ∧ Txt y t' V' cd' k g s ∧ StaticIs s "java/lang/String" "COMPACT_STRINGS" "Z" (.int z) ∧ ¬ z = 0
/-- equals(Object) of two Strings: whether the texts are the same -/
theorem law (l : Launch) (x t : Addr) (V : Cell) (cd : Int32) (n : Nat) (f : Nat → Int32) (y t' : Addr) (V' : Cell) (cd' : Int32) (k : Nat) (g : Nat → Int32) (z : Int32) : Law l yN 2 1 1 14 yB 3 (some .boolean) site (P x t V cd n f y t' V' cd' k g z) (Says01 (SameT n f k g)) [] 0 0 := by
  refine Law.of_walk (plainFor_of_name (by decide +kernel)) (by decide +kernel) (by decide +kernel) (by decide) (fun _ _ h => by rw [h.1]; rfl) (fun _ U U' hal hh h => ⟨h.1, h.2.1.mv hal hh, h.2.2.1.mv hal hh, h.2.2.2.1.there hal hh, h.2.2.2.2⟩) (fun r U U' V V' h1 hal h2 h => Says01.mv r U U' V V' h1 hal h2 h) ?_
  intro p e s m args below meth c s₁ X0 hexec hbytes hml hret hlk hnm hown hh0 W hP
  obtain ⟨rfl, hx, hy, s1, hz⟩ := hP
  have c1 : Steps p.tables e below (s₁.setTop (entryFrame m #[.ref x, .ref y] 3)) (s₁.setTop (mkF m 2 #[.val (.ref x), .val (.ref y), .unset] [.ref y, .ref x])) := Steps.trans (entry rfl) (by
    show Steps p.tables e below (s₁.setTop (mkF m 0 #[.val (.ref x), .val (.ref y), .unset] [])) _
    refine XS.aloadN X0.here hexec rfl (hb hbytes d0) rfl rfl ?_
    refine XS.aloadN X0.here hexec rfl (hb hbytes d1) rfl rfl ?_
    exact Steps.refl _)
  by_cases hxy : x = y
  · have c2 : Steps p.tables e below (s₁.setTop (entryFrame m #[.ref x, .ref y] 3)) (s₁.setTop (mkF m 6 #[.val (.ref x), .val (.ref y), .unset] [.int 1])) := c1.trans (by
      refine acmpNo X0.here hexec rfl (hb hbytes d2) rfl rfl rfl (by simp [acmp, hxy]) ?_
      refine iconstV X0.here hexec rfl 1 (hb hbytes d5) (by decide) ?_
      exact Steps.refl _)
    subst hxy
    have ec : cd = cd' := by
      obtain ⟨D, fd, a1, a2, a3⟩ := hx.2.2.1
      obtain ⟨D', fd', b1, b2, b3⟩ := hy.2.2.1
      cases a1.symm.trans b1
      obtain ⟨q1, q2, q3, q4⟩ := a2.1
      obtain ⟨r1, r2, r3, r4⟩ := b2.1
      cases q4.symm.trans r4
      cases a3.symm.trans b3; rfl
    have et : t = t' := by
      obtain ⟨D, fd, a1, a2, a3⟩ := hx.2.1
      obtain ⟨D', fd', b1, b2, b3⟩ := hy.2.1
      cases a1.symm.trans b1
      obtain ⟨q1, q2, q3, q4⟩ := a2.1
      obtain ⟨r1, r2, r3, r4⟩ := b2.1
      cases q4.symm.trans r4
      cases a3.symm.trans b3; rfl
    subst ec et
    have ev : V = V' := by cases hx.2.2.2.1.1.symm.trans hy.2.2.2.1.1; rfl
    subst ev
    have hs : SameT n f k g := (Cod.eqv hx.2.2.2.2.1 hy.2.2.2.2.1 hx.2.2.2.2.2 hy.2.2.2.2.2).mp ⟨rfl, fun _ _ => rfl⟩
    exact ⟨s₁, some (.int 1), _, _, _, X0, rfl, rfl, rfl, (fun h => by cases h), ⟨1, rfl, hh0, Or.inl ⟨rfl, hs⟩⟩, fun fs hl => c2.trans (X0.ireturnOut hexec hret rfl (Or.inr (Or.inl rfl)) (hb hbytes d6) hl)⟩
  · have c2 : Steps p.tables e below (s₁.setTop (entryFrame m #[.ref x, .ref y] 3)) (s₁.setTop (mkF m 8 #[.val (.ref x), .val (.ref y), .unset] [.ref y])) := c1.trans (by
      refine acmpYes X0.here hexec rfl (pc0 := 2) rfl (hb hbytes d2) rfl rfl rfl (by simp [acmp, hxy]) (by decide) rfl ?_
      refine XS.aloadN X0.here hexec rfl (hb hbytes d7) rfl rfl ?_
      exact Steps.refl _)
    obtain ⟨T3, X3, q3, st3⟩ := cinst X0 hexec hown (wk W (.classLink "java/lang/String" 10 "java/lang/String")) (hy.mv X0.warmed.alike hh0).1 (g := (mkF m 8 #[.val (.ref x), .val (.ref y), .unset] [.ref y])) rfl (rest := []) rfl (hb hbytes d8)
    have hh3 := q3.trans hh0
    have c4 : Steps p.tables e below (s₁.setTop (entryFrame m #[.ref x, .ref y] 3)) (T3.setTop (mkF m 15 #[.val (.ref x), .val (.ref y), .unset] [.ref y])) := (c2.trans (st3 _ (Steps.refl _))).trans (by
      refine XS.ifNo X3.here hexec rfl (hb hbytes d11) rfl (i0_eq_f (by decide)) ?_
      refine XS.aloadN X3.here hexec rfl (hb hbytes d14) rfl rfl ?_
      exact Steps.refl _)
    obtain ⟨T5, X5, q5, st5⟩ := cself X3 hexec hown (wk W (.classLink "java/lang/String" 10 "java/lang/String")) (hy.mv X3.warmed.alike hh3).1 (g := (mkF m 15 #[.val (.ref x), .val (.ref y), .unset] [.ref y])) rfl (rest := []) rfl (hb hbytes d15)
    have hh5 := q5.trans hh3
    have c6 : Steps p.tables e below (s₁.setTop (entryFrame m #[.ref x, .ref y] 3)) (T5.setTop (mkF m 19 #[.val (.ref x), .val (.ref y), .val (.ref y)] [])) := (c4.trans (st5 _ (Steps.refl _))).trans (by
      refine XS.astoreN X5.here hexec rfl (hb hbytes d18) rfl rfl rfl ?_
      exact Steps.refl _)
    obtain ⟨T7, X7, q7, st7⟩ := X5.sget hexec hown (wk W (.fieldLink "java/lang/String" 38 "java/lang/String" "COMPACT_STRINGS" "Z")) s1 (fun _ _ h => by rw [hh5]; exact h) (g := (mkF m 19 #[.val (.ref x), .val (.ref y), .val (.ref y)] [])) rfl (hb hbytes d19)
    have hh7 := q7.trans hh5
    have c8 : Steps p.tables e below (s₁.setTop (entryFrame m #[.ref x, .ref y] 3)) (T7.setTop (mkF m 26 #[.val (.ref x), .val (.ref y), .val (.ref y)] [.ref x])) := (c6.trans (st7 _ (Steps.refl _))).trans (by
      refine XS.ifNo X7.here hexec rfl (hb hbytes d22) rfl (i0_eq_f hz) ?_
      refine XS.aloadN X7.here hexec rfl (hb hbytes d25) rfl rfl ?_
      exact Steps.refl _)
    obtain ⟨T9, X9, q9, st9⟩ := X7.hget hexec hown (wk W (.fieldLink "java/lang/String" 15 "java/lang/String" "coder" "B")) (hx.mv X7.warmed.alike hh7).2.2.1 (g := (mkF m 26 #[.val (.ref x), .val (.ref y), .val (.ref y)] [.ref x])) rfl (rest := []) rfl (hb hbytes d26)
    have hh9 := q9.trans hh7
    have c10 : Steps p.tables e below (s₁.setTop (entryFrame m #[.ref x, .ref y] 3)) (T9.setTop (mkF m 30 #[.val (.ref x), .val (.ref y), .val (.ref y)] [.ref y, .int cd])) := (c8.trans (st9 _ (Steps.refl _))).trans (by
      refine XS.aloadN X9.here hexec rfl (hb hbytes d29) rfl rfl ?_
      exact Steps.refl _)
    obtain ⟨T11, X11, q11, st11⟩ := X9.hget hexec hown (wk W (.fieldLink "java/lang/String" 15 "java/lang/String" "coder" "B")) (hy.mv X9.warmed.alike hh9).2.2.1 (g := (mkF m 30 #[.val (.ref x), .val (.ref y), .val (.ref y)] [.ref y, .int cd])) rfl (rest := [.int cd]) rfl (hb hbytes d30)
    have hh11 := q11.trans hh9
    have c12 : Steps p.tables e below (s₁.setTop (entryFrame m #[.ref x, .ref y] 3)) (T11.setTop (mkF m 33 #[.val (.ref x), .val (.ref y), .val (.ref y)] [.int cd', .int cd])) := c10.trans (st11 _ (Steps.refl _))
    by_cases hcd : cd = cd'
    · subst hcd
      have c13 : Steps p.tables e below (s₁.setTop (entryFrame m #[.ref x, .ref y] 3)) (T11.setTop (mkF m 37 #[.val (.ref x), .val (.ref y), .val (.ref y)] [.ref x])) := c12.trans (by
        refine XS.icmpNo X11.here hexec rfl (hb hbytes d33) rfl (ii_ne_f rfl) ?_
        refine XS.aloadN X11.here hexec rfl (hb hbytes d36) rfl rfl ?_
        exact Steps.refl _)
      obtain ⟨T14, X14, q14, st14⟩ := X11.hget hexec hown (wk W (.fieldLink "java/lang/String" 9 "java/lang/String" "value" "[B")) (hx.mv X11.warmed.alike hh11).2.1 (g := (mkF m 37 #[.val (.ref x), .val (.ref y), .val (.ref y)] [.ref x])) rfl (rest := []) rfl (hb hbytes d37)
      have hh14 := q14.trans hh11
      have c15 : Steps p.tables e below (s₁.setTop (entryFrame m #[.ref x, .ref y] 3)) (T14.setTop (mkF m 41 #[.val (.ref x), .val (.ref y), .val (.ref y)] [.ref y, .ref t])) := (c13.trans (st14 _ (Steps.refl _))).trans (by
        refine XS.aloadN X14.here hexec rfl (hb hbytes d40) rfl rfl ?_
        exact Steps.refl _)
      obtain ⟨T16, X16, q16, st16⟩ := X14.hget hexec hown (wk W (.fieldLink "java/lang/String" 9 "java/lang/String" "value" "[B")) (hy.mv X14.warmed.alike hh14).2.1 (g := (mkF m 41 #[.val (.ref x), .val (.ref y), .val (.ref y)] [.ref y, .ref t])) rfl (rest := [.ref t]) rfl (hb hbytes d41)
      have hh16 := q16.trans hh14
      have c17 : Steps p.tables e below (s₁.setTop (entryFrame m #[.ref x, .ref y] 3)) (T16.setTop (mkF m 44 #[.val (.ref x), .val (.ref y), .val (.ref y)] [.ref t', .ref t])) := c15.trans (st16 _ (Steps.refl _))
      obtain ⟨v18, T18, X18, E18, g18⟩ := X16.callS hexec (LEq.law l t V t' V') hown (wks W (staticW "java/lang/String" 541 LEq.yN)) (wk W LEq.tab) (W := 0) (Nat.le_of_ble_eq_true rfl) (Nat.le_of_ble_eq_true rfl) (Nat.le_refl _) (Nat.le_refl _) (g := (mkF m 44 #[.val (.ref x), .val (.ref y), .val (.ref y)] [.ref t', .ref t])) rfl (by rw [hml]; rfl) c17 (argsL := [.ref t, .ref t']) (rest := []) rfl rfl (by show 2 * 0 + 0 ≤ _; decide) (hb hbytes d44) (⟨rfl, hx.2.2.2.1.mv X16.warmed.alike hh16, hx.2.2.2.2.1.ty, hy.2.2.2.1.mv X16.warmed.alike hh16, hy.2.2.2.2.1.ty⟩)
      obtain ⟨v, rfl, q18, hv⟩ := E18
      have iff := Cod.eqv hx.2.2.2.2.1 hy.2.2.2.2.1 hx.2.2.2.2.2 hy.2.2.2.2.2
      rcases hv with ⟨rfl, he⟩ | ⟨rfl, he⟩
      · have c19 : Steps p.tables e below (s₁.setTop (entryFrame m #[.ref x, .ref y] 3)) (T18.setTop (mkF m 55 #[.val (.ref x), .val (.ref y), .val (.ref y)] [.int 1])) := Steps.trans g18 (by
          refine XS.ifNo X18.here hexec rfl (hb hbytes d47) rfl (i0_eq_f (by decide)) ?_
          refine iconstV X18.here hexec rfl 1 (hb hbytes d50) (by decide) ?_
          refine XS.goto X18.here hexec rfl (pc0 := 51) rfl (hb hbytes d51) (by decide) rfl ?_
          exact Steps.refl _)
        exact ⟨T18, some (.int 1), _, _, _, X18, rfl, rfl, rfl, (fun h => by cases h), ⟨1, rfl, q18.trans hh16, Or.inl ⟨rfl, iff.mp he⟩⟩, fun fs hl => c19.trans (X18.ireturnOut hexec hret rfl (Or.inr (Or.inl rfl)) (hb hbytes d55) hl)⟩
      · have c19 : Steps p.tables e below (s₁.setTop (entryFrame m #[.ref x, .ref y] 3)) (T18.setTop (mkF m 55 #[.val (.ref x), .val (.ref y), .val (.ref y)] [.int 0])) := Steps.trans g18 (by
          refine XS.ifYes X18.here hexec rfl (pc0 := 47) rfl (hb hbytes d47) rfl (i0_eq_t rfl) (by decide) rfl ?_
          refine iconstV X18.here hexec rfl 0 (hb hbytes d54) (by decide) ?_
          exact Steps.refl _)
        exact ⟨T18, some (.int 0), _, _, _, X18, rfl, rfl, rfl, (fun h => by cases h), ⟨0, rfl, q18.trans hh16, Or.inr ⟨rfl, fun q => he (iff.mpr q)⟩⟩, fun fs hl => c19.trans (X18.ireturnOut hexec hret rfl (Or.inr (Or.inl rfl)) (hb hbytes d55) hl)⟩
    · have c13 : Steps p.tables e below (s₁.setTop (entryFrame m #[.ref x, .ref y] 3)) (T11.setTop (mkF m 55 #[.val (.ref x), .val (.ref y), .val (.ref y)] [.int 0])) := c12.trans (by
        refine XS.icmpYes X11.here hexec rfl (pc0 := 33) rfl (hb hbytes d33) rfl (ii_ne_t hcd) (by decide) rfl ?_
        refine iconstV X11.here hexec rfl 0 (hb hbytes d54) (by decide) ?_
        exact Steps.refl _)
      exact ⟨T11, some (.int 0), _, _, _, X11, rfl, rfl, rfl, (fun h => by cases h), ⟨0, rfl, hh11, Or.inr ⟨rfl, Cod.dif hx.2.2.2.2.1 hy.2.2.2.2.1 hcd⟩⟩, fun fs hl => c13.trans (X11.ireturnOut hexec hret rfl (Or.inr (Or.inl rfl)) (hb hbytes d55) hl)⟩
theorem pays {l : Launch} {R : Room} {p : Program} {e : Env} {below : List Frame} {s : State} {sargs : Array Value} {len W : Nat} (x t : Addr) (V : Cell) (cd : Int32) (n : Nat) (f : Nat → Int32) (y t' : Addr) (V' : Cell) (cd' : Int32) (k : Nat) (g : Nat → Int32) (z : Int32) (htab : tab.before sargs s = true) (hfr : 2 ≤ R.frames) (hlo : W + 28 ≤ R.locals) :
    Back l R p e below s sargs yN len W (fun A₁ a₁ => A₁.cells + 0 ≤ R.cells ∧ A₁.slots + 0 ≤ R.slots ∧ P x t V cd n f y t' V' cd' k g z a₁ A₁.U) (fun A₁ _ v₁ B₁ => Says01 (SameT n f k g) v₁ A₁.U B₁.U ∧ B₁.locs = A₁.locs ++ [] ∧ B₁.cells = A₁.cells + 0 ∧ B₁.slots = A₁.slots + 0) :=
  (law l x t V cd n f y t' V' cd' k g z).pays htab hfr (by omega)
end SEq
end StrChars
namespace StrChars.Road
open Jvm Sem ClassFile Op Lib Jvm.Stand Jvm.Free Jvm.Free.XT
open Jvm.Lib.Cold (StaticIs)
/-- the words of String.equals(Object) -/
abbrev wordsEq : List Jvm.Cond := [.code SEq.yN SEq.yB 3 (some .boolean), .initialized ST, .classLink ST 10 ST, .fieldLink ST 38 ST "COMPACT_STRINGS" "Z", .fieldLink ST 15 ST "coder" "B", .fieldLink ST 9 ST "value" "[B", .methodLink ST 541 LEq.yN, .static LEq.yN, .code LEq.yN LEq.yB 3 (some .boolean), .initialized "java/lang/StringLatin1"]
theorem tabEq_of {a : Array Value} {s : State} (h : ∀ w ∈ wordsEq, w.before a s = true) : SEq.tab.before a s = true := by
  have hl : LEq.tab.before a s = true := unparts (wk h (.code LEq.yN LEq.yB 3 (some .boolean))) (wks h (.initialized LEq.yN.cls :: LEq.site))
  have q := consq hl h
  exact unparts (wk q (.code SEq.yN SEq.yB 3 (some .boolean))) (wks q (.initialized SEq.yN.cls :: SEq.site))
theorem movedEq {Z s : State} {a0 args : Array Value} (hZ : Z.Warmed39 s.vm) (hw : ∀ d ∈ wordsEq, d.before a0 Z = true) : ∀ d ∈ wordsEq, d.before args s = true := fun d hd => by
  have t : ∀ d ∈ wordsEq, (d.onTables && d.keepsFace) = true := by decide +kernel
  exact RoadKit.mv hZ (hw d hd) (t d hd)
/-- the road's facts of a String, as the laws ask it -/
theorem txt_of {Z U : State} {a0 : Array Value} {kI : Nat} (wi : (Jvm.Cond.instantiable ST kI).before a0 Z = true) (al : Z.vm.Alike U.vm) {x t : Addr} {kb : ClassId} {cs : List Int32} {cd N2 : Int32} {vs : List Value} (E : RoadKit.Exa Z U.heap x ST) (V : RoadKit.Fld Z U.heap x ST "value" "[B" (.ref t)) (C : RoadKit.Fld Z U.heap x ST "coder" "B" (.int cd)) (K : RoadKit.Arv Z U.heap t kb .byte N2 vs (.int 0)) (hc : CodA cs cd N2 vs) (hb : ∀ c ∈ cs, ¬ c < 0 ∧ ¬ (65535 : Int32) < c) (l2 : cs.length ≤ 4000) :
    ∃ A, Txt x t A cd cs.length (fun j => cs.getD j 0) U := by
  obtain ⟨A, K1, K2, K3, K4, K5, K6⟩ := K
  have hcod := hc.cod (by omega) K3 K5
  obtain ⟨D, fV, fC, hB, F1, F2, g1, g2, -, -⟩ := strObj wi al E V C
  exact ⟨A, ⟨_, hB.2.2.1, D, hB.1, rfl, by cases q : D.vm <;> first | rfl | exact absurd q (hB.2.1.2 _)⟩, Has.of hB F1 g1, Has.of hB F2 g2, ⟨K1.1, State.isArrayOf_alike al K1.2.1, K1.2.2, by rcases hcod with ⟨-, q, -⟩ | ⟨-, q, -⟩ <;> omega⟩, hcod, fun j hj => by
    have e : cs.getD j 0 = cs[j] := by simp [List.getD_eq_getElem?_getD, hj]
    show ¬ cs.getD j 0 < 0 ∧ ¬ 65535 < cs.getD j 0
    rw [e]; exact hb _ (List.getElem_mem _)⟩
theorem same_list (cs ds : List Int32) : SameT cs.length (fun j => cs.getD j 0) ds.length (fun j => ds.getD j 0) ↔ cs = ds := by
  constructor
  · rintro ⟨e, q⟩
    refine List.ext_getElem e fun j h1 h2 => ?_
    have := q j h1
    simpa [List.getD_eq_getElem?_getD, h1, h2] using this
  · rintro rfl
    exact ⟨rfl, fun _ _ => rfl⟩
/-- **equals(Object) OF TWO SUCH STRINGS**: 1 just where the chars are the same -/
theorem eqW {p : Program} {l : Launch} {e : Env} {R : Room} {s : State} {args : Array Value} {below : List Frame} {len W : Nat} {Z : State} {a0 : Array Value} {h : Heap} (hZ : Z.Warmed39 s.vm) (hw : ∀ d ∈ wordsEq, d.before a0 Z = true) {kI : Nat} (wi : (Jvm.Cond.instantiable ST kI).before a0 Z = true)
    {x t : Addr} {kb : ClassId} {cs : List Int32} {cd N2 : Int32} {vs : List Value} (E : RoadKit.Exa Z h x ST) (V : RoadKit.Fld Z h x ST "value" "[B" (.ref t)) (C : RoadKit.Fld Z h x ST "coder" "B" (.int cd)) (K : RoadKit.Arv Z h t kb .byte N2 vs (.int 0)) (hc : CodA cs cd N2 vs) (hb : ∀ c ∈ cs, ¬ c < 0 ∧ ¬ (65535 : Int32) < c) (l2 : cs.length ≤ 4000)
    {y t' : Addr} {kb' : ClassId} {ds : List Int32} {cd' N2' : Int32} {vs' : List Value} (E' : RoadKit.Exa Z h y ST) (V' : RoadKit.Fld Z h y ST "value" "[B" (.ref t')) (C' : RoadKit.Fld Z h y ST "coder" "B" (.int cd')) (K' : RoadKit.Arv Z h t' kb' .byte N2' vs' (.int 0)) (hc' : CodA ds cd' N2' vs') (hb' : ∀ c ∈ ds, ¬ c < 0 ∧ ¬ (65535 : Int32) < c) (l2' : ds.length ≤ 4000)
    {z : Int32} (S : RoadKit.Sta Z h ST "COMPACT_STRINGS" "Z" (.int z)) (hz : ¬ z = 0) (hfr : 2 ≤ R.frames) (hlo : W + 28 ≤ R.locals) :
    Back l R p e below s args (⟨"java/lang/String", "equals", "(Ljava/lang/Object;)Z"⟩ : MethodName) len W (fun P a => a = #[.ref x, .ref y] ∧ P.U.heap = h ∧ P.cells + 0 ≤ R.cells ∧ P.slots + 0 ≤ R.slots)
      (fun P _ v B => ∃ L, (((v = some (.int 1) ∧ cs = ds) ∨ (v = some (.int 0) ∧ ¬ cs = ds)) ∧ L = [] ∧ B.U.heap = h) ∧ B.locs = P.locs ++ L ∧ B.cells = P.cells + 0 ∧ B.slots = P.slots + 0) := by
  intro m meth c P g ig mk a X hg hsize hdg hW hn hp'
  obtain ⟨rfl, rfl, r1, r2⟩ := hp'
  have al : Z.vm.Alike P.U.vm := hZ.alike.trans X.warmed.alike
  obtain ⟨A, hx⟩ := txt_of wi al E V C K hc hb l2
  obtain ⟨A', hy⟩ := txt_of wi al E' V' C' K' hc' hb' l2'
  obtain ⟨v, B, X', ⟨⟨w, hv, hh, hq⟩, hl, hk, hs⟩, st⟩ := SEq.pays x t A cd cs.length (fun j => cs.getD j 0) y t' A' cd' ds.length (fun j => ds.getD j 0) z (tabEq_of (movedEq hZ hw)) hfr hlo m meth c P g ig mk _ X hg hsize hdg hW hn ⟨r1, r2, rfl, hx, hy, sta_is al S, hz⟩
  refine ⟨v, B, X', ⟨[], ⟨?_, rfl, hh⟩, hl, hk, hs⟩, st⟩
  rcases hq with ⟨rfl, q⟩ | ⟨rfl, q⟩
  · exact Or.inl ⟨hv, (same_list cs ds).mp q⟩
  · exact Or.inr ⟨hv, fun e => q ((same_list cs ds).mpr e)⟩
end StrChars.Road
namespace StrChars.Road
open Jvm Sem ClassFile Op Lib Jvm.Stand Jvm.Free Jvm.Free.XT
open Jvm.Lib.Cold (StaticIs)
/-- what backV says of its String, as the contracts of this text ask it: cs's low bytes, coder 0 -/
theorem codOf {cs : List Int32} {n : Nat} (hn : cs.length = n) (hb : ∀ c ∈ cs, ¬ 255 < c) : CodA cs 0 (Int32.ofNat n) ((cs.map lo8).map Value.int) := Or.inl ⟨rfl, by rw [hn], by simp [List.map_map, Function.comp_def], hb⟩
end StrChars.Road
end Jvm.Pilot.@@N@@

namespace Jvm.Pilot.@@N@@
open Jvm Jvm.ClassFile Sem Op Lib Jvm.Free Jvm.Stand Jvm.LawKit Jvm.RoadKit Bundle Jvm.Pilot.@@N@@.Jvm.D
/-- x is a Latin-1 String of the chars cs, its bytes in the array t -/
def Str (Z : State) (h : Heap) (x t : Addr) (k : ClassId) (cs : List Int32) : Prop := Exa Z h x "java/lang/String" ∧ Fld Z h x "java/lang/String" "value" "[B" (.ref t) ∧ Fld Z h x "java/lang/String" "coder" "B" (.int 0) ∧ Arv Z h t k .byte (Int32.ofNat cs.length) ((cs.map fun c => c.toInt8.toInt32).map Value.int) (.int 0) ∧ (∀ c ∈ cs, ¬ c < 0 ∧ ¬ (255 : Int32) < c) ∧ cs.length ≤ 4000
theorem Str.ext {Z : State} {h h' : Heap} {x t : Addr} {k : ClassId} {cs : List Int32} (S : Str Z h x t k cs) (E : Ext h h') : Str Z h' x t k cs := ⟨S.1.ext E, S.2.1.ext E, S.2.2.1.ext E, S.2.2.2.1.ext E, S.2.2.2.2⟩
theorem Str.keep {Z : State} {h h' : Heap} {x t : Addr} {k : ClassId} {cs : List Int32} {ws : List Addr} (S : Str Z h x t k cs) (K : Keep h h' ws) (q : x ∉ ws) (r : t ∉ ws) : Str Z h' x t k cs := ⟨S.1.keep K, S.2.1.keep K q, S.2.2.1.keep K q, S.2.2.2.1.keep K r, S.2.2.2.2⟩
theorem Str.other {Z : State} {h h' : Heap} {x t a : Addr} {k : ClassId} {cs : List Int32} {sl : Nat} {v : Value} (S : Str Z h x t k cs) (W : Wr h h' a sl v) (q : x ≠ a) (r : t ≠ a) : Str Z h' x t k cs := ⟨S.1.wr W, S.2.1.other W (Or.inl q), S.2.2.1.other W (Or.inl q), S.2.2.2.1.other W r, S.2.2.2.2⟩
theorem Str.ltT {Z : State} {h : Heap} {x t : Addr} {k : ClassId} {cs : List Int32} (S : Str Z h x t k cs) : t < h.size := S.2.2.2.1.lt
theorem own_c0 {P : Int32 → Prop} : ∀ c ∈ ([] : List Int32), P c := fun _ q => nomatch q
theorem own_cS {P : Int32 → Prop} {y : Int32} {L : List Int32} (q : P y) (r : ∀ c ∈ L, P c) : ∀ c ∈ y :: L, P c := fun c z => (List.mem_cons.mp z).elim (fun u => u ▸ q) (r c)
theorem own_lit (x : Int32) (k : Nat) (hk : k < 2 ^ 31) : (x &&& (255 : Int32)) = Int32.ofNat (x &&& 255).toBitVec.toNat := by
  apply Int32.toBitVec_inj.mp
  show _ = BitVec.ofNat 32 _
  rw [BitVec.ofNat_toNat]; simp
theorem own_lt256 (x : Int32) : (x &&& 255).toBitVec.toNat < 256 := by
  simp only [Int32.toBitVec_and, BitVec.toNat_and]
  exact Nat.lt_succ_of_le Nat.and_le_right
theorem own_and255 (x : Int32) : ¬ nar .char ((x &&& (255 : Int32)).toUInt32.toUInt16.toUInt32.toInt32) < 0 ∧ ¬ (255 : Int32) < nar .char ((x &&& (255 : Int32)).toUInt32.toUInt16.toUInt32.toInt32) := by
  have t : ∀ k : Fin 256, ¬ nar .char ((Int32.ofNat k.val).toUInt32.toUInt16.toUInt32.toInt32) < 0 ∧ ¬ (255 : Int32) < nar .char ((Int32.ofNat k.val).toUInt32.toUInt16.toUInt32.toInt32) := by decide +kernel
  rw [own_lit x 0 (by decide)]
  exact t ⟨_, own_lt256 x⟩
theorem own_i2c255 (x : Int32) : nar .char ((x &&& (255 : Int32)).toUInt32.toUInt16.toUInt32.toInt32) = (x &&& (255 : Int32)) := by
  have t : ∀ k : Fin 256, nar .char ((Int32.ofNat k.val).toUInt32.toUInt16.toUInt32.toInt32) = Int32.ofNat k.val := by decide +kernel
  rw [own_lit x 0 (by decide)]
  exact t ⟨_, own_lt256 x⟩
theorem own_i2cr (x : Int32) : ¬ ((x &&& (255 : Int32)).toUInt32.toUInt16.toUInt32.toInt32) < 0 ∧ ¬ (255 : Int32) < ((x &&& (255 : Int32)).toUInt32.toUInt16.toUInt32.toInt32) := by
  have t : ∀ k : Fin 256, ¬ ((Int32.ofNat k.val).toUInt32.toUInt16.toUInt32.toInt32) < 0 ∧ ¬ (255 : Int32) < ((Int32.ofNat k.val).toUInt32.toUInt16.toUInt32.toInt32) := by decide +kernel
  rw [own_lit x 0 (by decide)]
  exact t ⟨_, own_lt256 x⟩
theorem own_rng {c : Int32} (h : ¬ c < 0 ∧ ¬ (255 : Int32) < c) : ∃ k : Fin 256, c = Int32.ofNat k.val := by
  obtain ⟨h0, h1⟩ := h
  rw [Int32.lt_iff_toInt_lt] at h0 h1
  have e1 : (255 : Int32).toInt = 255 := rfl
  have e2 : (0 : Int32).toInt = 0 := rfl
  refine ⟨⟨c.toInt.toNat, by omega⟩, ?_⟩
  apply Int32.toInt_inj.mp
  show c.toInt = (Int32.ofNat c.toInt.toNat).toInt
  rw [Int32.toInt_ofNat_of_lt (by omega)]
  omega
theorem own_narc {c : Int32} (h : ¬ c < 0 ∧ ¬ (255 : Int32) < c) : nar .char c = c := by
  have t : ∀ k : Fin 256, nar .char (Int32.ofNat k.val) = Int32.ofNat k.val := by decide +kernel
  obtain ⟨k, rfl⟩ := own_rng h
  exact t k
theorem own_fitsc {c : Int32} (h : ¬ c < 0 ∧ ¬ (255 : Int32) < c) : fits .char (.int c) = true := by
  have t : ∀ k : Fin 256, fits .char (.int (Int32.ofNat k.val)) = true := by decide +kernel
  obtain ⟨k, rfl⟩ := own_rng h
  exact t k
theorem own_up {cs : List Int32} (h : ∀ c ∈ cs, ¬ c < 0 ∧ ¬ (255 : Int32) < c) : ∀ c ∈ cs, ¬ c < 0 ∧ ¬ (65535 : Int32) < c := fun c hc => ⟨(h c hc).1, fun q => (h c hc).2 (by rw [Int32.lt_iff_toInt_lt] at q ⊢; have e1 : (65535 : Int32).toInt = 65535 := rfl; have e2 : (255 : Int32).toInt = 255 := rfl; omega)⟩
theorem own_hws {Z : State} {a0 : Array Value} (hw : ∀ d ∈ tables_1, d.before a0 Z = true) : ∀ d ∈ StrChars.Road.words, d.before a0 Z = true := fun d hd => hw d ((by decide +kernel : ∀ d ∈ StrChars.Road.words, d ∈ tables_1) d hd)
theorem own_ite {v : Option Value} {cs ds : List Int32} (h : (v = some (.int 1) ∧ cs = ds) ∨ (v = some (.int 0) ∧ ¬ cs = ds)) : v = some (.int (if cs = ds then (1 : Int32) else 0)) := by rcases h with ⟨rfl, h⟩ | ⟨rfl, h⟩ <;> simp [h]
theorem own_heq {Z : State} {a0 : Array Value} (hw : ∀ d ∈ tables_1, d.before a0 Z = true) : ∀ d ∈ StrChars.Road.wordsEq, d.before a0 Z = true := fun d hd => hw d ((by decide +kernel : ∀ d ∈ StrChars.Road.wordsEq, d ∈ tables_1) d hd)
theorem own_cod {Z : State} {h : Heap} {x t : Addr} {k : ClassId} {cs : List Int32} (S : Str Z h x t k cs) : StrChars.Road.CodA cs 0 (Int32.ofNat cs.length) ((cs.map fun c => c.toInt8.toInt32).map Value.int) := StrChars.Road.codOf rfl fun c hc => (S.2.2.2.2.1 c hc).2
end Jvm.Pilot.@@N@@
namespace Jvm.Pilot.@@N@@
open Jvm Jvm.ClassFile Sem Op Lib Jvm.Free Jvm.Stand Jvm.LawKit Jvm.RoadKit Bundle Jvm.Pilot.@@N@@.Jvm.D
theorem d1_0 : decode method_2_code 0 = .ok (.iload_n 0, 1) := by decide +kernel
theorem d1_1 : decode method_2_code 1 = .ok (.ifCond .ne 14, 3) := by decide +kernel
theorem d1_4 : decode method_2_code 4 = .ok (.new 7, 3) := by decide +kernel
theorem d1_7 : decode method_2_code 7 = .ok (.dup, 1) := by decide +kernel
theorem d1_8 : decode method_2_code 8 = .ok (.iconst 0, 1) := by decide +kernel
theorem d1_9 : decode method_2_code 9 = .ok (.newarray .char, 2) := by decide +kernel
theorem d1_11 : decode method_2_code 11 = .ok (.invokespecial 9, 3) := by decide +kernel
theorem d1_14 : decode method_2_code 14 = .ok (.areturn, 1) := by decide +kernel
theorem d1_15 : decode method_2_code 15 = .ok (.iload_n 0, 1) := by decide +kernel
theorem d1_16 : decode method_2_code 16 = .ok (.iconst 1, 1) := by decide +kernel
theorem d1_17 : decode method_2_code 17 = .ok (.if_icmp .ne 8, 3) := by decide +kernel
theorem d1_20 : decode method_2_code 20 = .ok (.iload_n 1, 1) := by decide +kernel
theorem d1_21 : decode method_2_code 21 = .ok (.invokestatic 12, 3) := by decide +kernel
theorem d1_24 : decode method_2_code 24 = .ok (.areturn, 1) := by decide +kernel
theorem d1_25 : decode method_2_code 25 = .ok (.new 7, 3) := by decide +kernel
theorem d1_28 : decode method_2_code 28 = .ok (.dup, 1) := by decide +kernel
theorem d1_29 : decode method_2_code 29 = .ok (.iconst 2, 1) := by decide +kernel
theorem d1_30 : decode method_2_code 30 = .ok (.newarray .char, 2) := by decide +kernel
theorem d1_32 : decode method_2_code 32 = .ok (.dup, 1) := by decide +kernel
theorem d1_33 : decode method_2_code 33 = .ok (.iconst 0, 1) := by decide +kernel
theorem d1_34 : decode method_2_code 34 = .ok (.iload_n 1, 1) := by decide +kernel
theorem d1_35 : decode method_2_code 35 = .ok (.castore, 1) := by decide +kernel
theorem d1_36 : decode method_2_code 36 = .ok (.dup, 1) := by decide +kernel
theorem d1_37 : decode method_2_code 37 = .ok (.iconst 1, 1) := by decide +kernel
theorem d1_38 : decode method_2_code 38 = .ok (.iload_n 2, 1) := by decide +kernel
theorem d1_39 : decode method_2_code 39 = .ok (.castore, 1) := by decide +kernel
theorem d1_40 : decode method_2_code 40 = .ok (.invokespecial 9, 3) := by decide +kernel
theorem d1_43 : decode method_2_code 43 = .ok (.areturn, 1) := by decide +kernel
theorem d2_0 : decode jdk_42_method_3_code 0 = .ok (.aload_n 0, 1) := by decide +kernel
theorem d2_1 : decode jdk_42_method_3_code 1 = .ok (.aload_n 1, 1) := by decide +kernel
theorem d2_2 : decode jdk_42_method_3_code 2 = .ok (.iconst 0, 1) := by decide +kernel
theorem d2_3 : decode jdk_42_method_3_code 3 = .ok (.aload_n 1, 1) := by decide +kernel
theorem d2_4 : decode jdk_42_method_3_code 4 = .ok (.arraylength, 1) := by decide +kernel
theorem d2_5 : decode jdk_42_method_3_code 5 = .ok (.aconst_null, 1) := by decide +kernel
theorem d2_6 : decode jdk_42_method_3_code 6 = .ok (.invokespecial 27, 3) := by decide +kernel
theorem d2_9 : decode jdk_42_method_3_code 9 = .ok (.return_, 1) := by decide +kernel
theorem d3_0 : decode jdk_42_method_149_code 0 = .ok (.aload_n 0, 1) := by decide +kernel
theorem d3_1 : decode jdk_42_method_149_code 1 = .ok (.invokespecial 1, 3) := by decide +kernel
theorem d3_4 : decode jdk_42_method_149_code 4 = .ok (.iload_n 3, 1) := by decide +kernel
theorem d3_5 : decode jdk_42_method_149_code 5 = .ok (.ifCond .ne 22, 3) := by decide +kernel
theorem d3_8 : decode jdk_42_method_149_code 8 = .ok (.aload_n 0, 1) := by decide +kernel
theorem d3_9 : decode jdk_42_method_149_code 9 = .ok (.ldc 7, 2) := by decide +kernel
theorem d3_11 : decode jdk_42_method_149_code 11 = .ok (.getfield 9, 3) := by decide +kernel
theorem d3_14 : decode jdk_42_method_149_code 14 = .ok (.putfield 9, 3) := by decide +kernel
theorem d3_17 : decode jdk_42_method_149_code 17 = .ok (.aload_n 0, 1) := by decide +kernel
theorem d3_18 : decode jdk_42_method_149_code 18 = .ok (.ldc 7, 2) := by decide +kernel
theorem d3_20 : decode jdk_42_method_149_code 20 = .ok (.getfield 15, 3) := by decide +kernel
theorem d3_23 : decode jdk_42_method_149_code 23 = .ok (.putfield 15, 3) := by decide +kernel
theorem d3_26 : decode jdk_42_method_149_code 26 = .ok (.return_, 1) := by decide +kernel
theorem d8_0 : decode prog_40_method_1_code 0 = .ok (.aload_n 0, 1) := by decide +kernel
theorem d8_1 : decode prog_40_method_1_code 1 = .ok (.invokespecial 1, 3) := by decide +kernel
theorem d8_4 : decode prog_40_method_1_code 4 = .ok (.aload_n 0, 1) := by decide +kernel
theorem d8_5 : decode prog_40_method_1_code 5 = .ok (.aload_n 1, 1) := by decide +kernel
theorem d8_6 : decode prog_40_method_1_code 6 = .ok (.putfield 7, 3) := by decide +kernel
theorem d8_9 : decode prog_40_method_1_code 9 = .ok (.aload_n 0, 1) := by decide +kernel
theorem d8_10 : decode prog_40_method_1_code 10 = .ok (.aload_n 2, 1) := by decide +kernel
theorem d8_11 : decode prog_40_method_1_code 11 = .ok (.putfield 13, 3) := by decide +kernel
theorem d8_14 : decode prog_40_method_1_code 14 = .ok (.aload_n 0, 1) := by decide +kernel
theorem d8_15 : decode prog_40_method_1_code 15 = .ok (.aload_n 3, 1) := by decide +kernel
theorem d8_16 : decode prog_40_method_1_code 16 = .ok (.putfield 16, 3) := by decide +kernel
theorem d8_19 : decode prog_40_method_1_code 19 = .ok (.aload_n 0, 1) := by decide +kernel
theorem d8_20 : decode prog_40_method_1_code 20 = .ok (.aload 4, 2) := by decide +kernel
theorem d8_22 : decode prog_40_method_1_code 22 = .ok (.putfield 19, 3) := by decide +kernel
theorem d8_25 : decode prog_40_method_1_code 25 = .ok (.aload_n 0, 1) := by decide +kernel
theorem d8_26 : decode prog_40_method_1_code 26 = .ok (.aload 5, 2) := by decide +kernel
theorem d8_28 : decode prog_40_method_1_code 28 = .ok (.putfield 22, 3) := by decide +kernel
theorem d8_31 : decode prog_40_method_1_code 31 = .ok (.return_, 1) := by decide +kernel
theorem d9_0 : decode jdk_30_method_1_code 0 = .ok (.aload_n 0, 1) := by decide +kernel
theorem d9_1 : decode jdk_30_method_1_code 1 = .ok (.invokespecial 1, 3) := by decide +kernel
theorem d9_4 : decode jdk_30_method_1_code 4 = .ok (.return_, 1) := by decide +kernel
theorem d10_0 : decode prog_40_method_2_code 0 = .ok (.aload_n 0, 1) := by decide +kernel
theorem d10_1 : decode prog_40_method_2_code 1 = .ok (.getfield 7, 3) := by decide +kernel
theorem d10_4 : decode prog_40_method_2_code 4 = .ok (.aload_n 0, 1) := by decide +kernel
theorem d10_5 : decode prog_40_method_2_code 5 = .ok (.getfield 19, 3) := by decide +kernel
theorem d10_8 : decode prog_40_method_2_code 8 = .ok (.invokevirtual 25, 3) := by decide +kernel
theorem d10_11 : decode prog_40_method_2_code 11 = .ok (.ireturn, 1) := by decide +kernel
theorem d11_0 : decode jdk_42_method_66_code 0 = .ok (.aload_n 0, 1) := by decide +kernel
theorem d11_1 : decode jdk_42_method_66_code 1 = .ok (.aload_n 1, 1) := by decide +kernel
theorem d11_2 : decode jdk_42_method_66_code 2 = .ok (.if_acmp .ne 5, 3) := by decide +kernel
theorem d11_7 : decode jdk_42_method_66_code 7 = .ok (.aload_n 1, 1) := by decide +kernel
theorem d11_8 : decode jdk_42_method_66_code 8 = .ok (.instanceof 10, 3) := by decide +kernel
theorem d11_11 : decode jdk_42_method_66_code 11 = .ok (.ifCond .eq 43, 3) := by decide +kernel
theorem d11_54 : decode jdk_42_method_66_code 54 = .ok (.iconst 0, 1) := by decide +kernel
theorem d11_55 : decode jdk_42_method_66_code 55 = .ok (.ireturn, 1) := by decide +kernel
theorem d13_0 : decode jdk_42_method_139_code 0 = .ok (.getstatic 38, 3) := by decide +kernel
theorem d13_3 : decode jdk_42_method_139_code 3 = .ok (.ifCond .eq 23, 3) := by decide +kernel
theorem d13_6 : decode jdk_42_method_139_code 6 = .ok (.iload_n 0, 1) := by decide +kernel
theorem d13_7 : decode jdk_42_method_139_code 7 = .ok (.invokestatic 1015, 3) := by decide +kernel
theorem d13_10 : decode jdk_42_method_139_code 10 = .ok (.ifCond .eq 16, 3) := by decide +kernel
theorem d13_13 : decode jdk_42_method_139_code 13 = .ok (.new 10, 3) := by decide +kernel
theorem d13_16 : decode jdk_42_method_139_code 16 = .ok (.dup, 1) := by decide +kernel
theorem d13_17 : decode jdk_42_method_139_code 17 = .ok (.iload_n 0, 1) := by decide +kernel
theorem d13_18 : decode jdk_42_method_139_code 18 = .ok (.invokestatic 1018, 3) := by decide +kernel
theorem d13_21 : decode jdk_42_method_139_code 21 = .ok (.iconst 0, 1) := by decide +kernel
theorem d13_22 : decode jdk_42_method_139_code 22 = .ok (.invokespecial 209, 3) := by decide +kernel
theorem d13_25 : decode jdk_42_method_139_code 25 = .ok (.areturn, 1) := by decide +kernel
theorem d14_0 : decode jdk_43_method_3_code 0 = .ok (.iload_n 0, 1) := by decide +kernel
theorem d14_1 : decode jdk_43_method_3_code 1 = .ok (.sipush 255, 3) := by decide +kernel
theorem d14_4 : decode jdk_43_method_3_code 4 = .ok (.if_icmp .gt 7, 3) := by decide +kernel
theorem d14_7 : decode jdk_43_method_3_code 7 = .ok (.iconst 1, 1) := by decide +kernel
theorem d14_8 : decode jdk_43_method_3_code 8 = .ok (.goto 4, 3) := by decide +kernel
theorem d14_12 : decode jdk_43_method_3_code 12 = .ok (.ireturn, 1) := by decide +kernel
theorem d15_0 : decode jdk_43_method_46_code 0 = .ok (.iconst 1, 1) := by decide +kernel
theorem d15_1 : decode jdk_43_method_46_code 1 = .ok (.newarray .byte, 2) := by decide +kernel
theorem d15_3 : decode jdk_43_method_46_code 3 = .ok (.dup, 1) := by decide +kernel
theorem d15_4 : decode jdk_43_method_46_code 4 = .ok (.iconst 0, 1) := by decide +kernel
theorem d15_5 : decode jdk_43_method_46_code 5 = .ok (.iload_n 0, 1) := by decide +kernel
theorem d15_6 : decode jdk_43_method_46_code 6 = .ok (.i2b, 1) := by decide +kernel
theorem d15_7 : decode jdk_43_method_46_code 7 = .ok (.bastore, 1) := by decide +kernel
theorem d15_8 : decode jdk_43_method_46_code 8 = .ok (.areturn, 1) := by decide +kernel
theorem d16_0 : decode jdk_42_method_151_code 0 = .ok (.aload_n 0, 1) := by decide +kernel
theorem d16_1 : decode jdk_42_method_151_code 1 = .ok (.invokespecial 1, 3) := by decide +kernel
theorem d16_4 : decode jdk_42_method_151_code 4 = .ok (.aload_n 0, 1) := by decide +kernel
theorem d16_5 : decode jdk_42_method_151_code 5 = .ok (.aload_n 1, 1) := by decide +kernel
theorem d16_6 : decode jdk_42_method_151_code 6 = .ok (.putfield 9, 3) := by decide +kernel
theorem d16_9 : decode jdk_42_method_151_code 9 = .ok (.aload_n 0, 1) := by decide +kernel
theorem d16_10 : decode jdk_42_method_151_code 10 = .ok (.iload_n 2, 1) := by decide +kernel
theorem d16_11 : decode jdk_42_method_151_code 11 = .ok (.putfield 15, 3) := by decide +kernel
theorem d16_14 : decode jdk_42_method_151_code 14 = .ok (.return_, 1) := by decide +kernel
theorem pn_0 : plainName "java/lang/String" = true := by first | (simp [plainName, overriddenIn]; done) | decide +kernel
theorem pn_1 : plainName "java/lang/StringLatin1" = true := by first | (simp [plainName, overriddenIn]; done) | decide +kernel
theorem pn_2 : plainName "java/lang/Record" = true := by first | (simp [plainName, overriddenIn]; done) | decide +kernel
theorem pn_3 : plainName "com/example/sillon/sillon/transport/PartsMainIsMessagePinLaw" = true := by first | (simp [plainName, overriddenIn]; done) | decide +kernel
theorem pn_4 : plainName "com/example/sillon/sillon/transport/SoapOperation$Parts" = true := by first | (simp [plainName, overriddenIn]; done) | decide +kernel
theorem pd_0 : parseMethodDescriptor "([CIILjava/lang/Void;)V" = some ⟨[(.array .char), .int, .int, (.object "java/lang/Void")], none⟩ := by decide +kernel
theorem pd_1 : parseMethodDescriptor "(C)Z" = some ⟨[.char], some .boolean⟩ := by decide +kernel
theorem pd_2 : parseMethodDescriptor "(C)[B" = some ⟨[.char], some (.array .byte)⟩ := by decide +kernel
theorem pd_3 : parseMethodDescriptor "([BB)V" = some ⟨[(.array .byte), .byte], none⟩ := by decide +kernel
theorem pd_4 : parseMethodDescriptor "([C)V" = some ⟨[(.array .char)], none⟩ := by decide +kernel
theorem pd_5 : parseMethodDescriptor "(C)Ljava/lang/String;" = some ⟨[.char], some (.object "java/lang/String")⟩ := by decide +kernel
theorem pd_6 : parseMethodDescriptor "()V" = some ⟨[], none⟩ := by decide +kernel
theorem pd_7 : parseMethodDescriptor "(Ljava/lang/Object;)Z" = some ⟨[(.object "java/lang/Object")], some .boolean⟩ := by decide +kernel
theorem pd_8 : parseMethodDescriptor "(ICC)Ljava/lang/String;" = some ⟨[.int, .char, .char], some (.object "java/lang/String")⟩ := by decide +kernel
theorem pd_9 : parseMethodDescriptor "(Ljava/lang/String;Ljava/lang/String;Ljava/lang/String;Ljava/lang/String;Ljava/lang/String;)V" = some ⟨[(.object "java/lang/String"), (.object "java/lang/String"), (.object "java/lang/String"), (.object "java/lang/String"), (.object "java/lang/String")], none⟩ := by decide +kernel
theorem pd_10 : parseMethodDescriptor "()Z" = some ⟨[], some .boolean⟩ := by decide +kernel
theorem hw0 {Z : State} {a0 : Array Value} (hw : ∀ d ∈ tables_1, d.before a0 Z = true) : (Jvm.Cond.methodLink "com/example/sillon/sillon/transport/PartsMainIsMessagePinLaw" (16 : Nat) ({ cls := "com/example/sillon/sillon/transport/PartsMainIsMessagePinLaw", name := "make", desc := "(ICC)Ljava/lang/String;" } : Jvm.MethodName)).before a0 Z = true := hw _ (List.mem_of_getElem? (i := 0) rfl)
theorem hw1 {Z : State} {a0 : Array Value} (hw : ∀ d ∈ tables_1, d.before a0 Z = true) : (Jvm.Cond.static ({ cls := "com/example/sillon/sillon/transport/PartsMainIsMessagePinLaw", name := "make", desc := "(ICC)Ljava/lang/String;" } : Jvm.MethodName)).before a0 Z = true := hw _ (List.mem_of_getElem? (i := 1) rfl)
theorem hw2 {Z : State} {a0 : Array Value} (hw : ∀ d ∈ tables_1, d.before a0 Z = true) : (Jvm.Cond.initialized "com/example/sillon/sillon/transport/PartsMainIsMessagePinLaw").before a0 Z = true := hw _ (List.mem_of_getElem? (i := 2) rfl)
theorem hw3 {Z : State} {a0 : Array Value} (hw : ∀ d ∈ tables_1, d.before a0 Z = true) : (Jvm.Cond.code ({ cls := "com/example/sillon/sillon/transport/PartsMainIsMessagePinLaw", name := "make", desc := "(ICC)Ljava/lang/String;" } : Jvm.MethodName) method_2_code (3 : Nat) (Option.some (Jvm.ClassFile.FieldType.object "java/lang/String"))).before a0 Z = true := hw _ (List.mem_of_getElem? (i := 3) rfl)
theorem hw4 {Z : State} {a0 : Array Value} (hw : ∀ d ∈ tables_1, d.before a0 Z = true) : (Jvm.Cond.classLink "com/example/sillon/sillon/transport/PartsMainIsMessagePinLaw" (7 : Nat) "java/lang/String").before a0 Z = true := hw _ (List.mem_of_getElem? (i := 4) rfl)
theorem hw5 {Z : State} {a0 : Array Value} (hw : ∀ d ∈ tables_1, d.before a0 Z = true) : (Jvm.Cond.instantiable "java/lang/String" (4 : Nat)).before a0 Z = true := hw _ (List.mem_of_getElem? (i := 5) rfl)
theorem hw6 {Z : State} {a0 : Array Value} (hw : ∀ d ∈ tables_1, d.before a0 Z = true) : (Jvm.Cond.initialized "java/lang/String").before a0 Z = true := hw _ (List.mem_of_getElem? (i := 6) rfl)
theorem hw7 {Z : State} {a0 : Array Value} (hw : ∀ d ∈ tables_1, d.before a0 Z = true) : (Jvm.Cond.arrayClass Jvm.ClassFile.FieldType.char).before a0 Z = true := hw _ (List.mem_of_getElem? (i := 7) rfl)
theorem hw8 {Z : State} {a0 : Array Value} (hw : ∀ d ∈ tables_1, d.before a0 Z = true) : (Jvm.Cond.methodLink "com/example/sillon/sillon/transport/PartsMainIsMessagePinLaw" (9 : Nat) ({ cls := "java/lang/String", name := "<init>", desc := "([C)V" } : Jvm.MethodName)).before a0 Z = true := hw _ (List.mem_of_getElem? (i := 8) rfl)
theorem hw9 {Z : State} {a0 : Array Value} (hw : ∀ d ∈ tables_1, d.before a0 Z = true) : (Jvm.Cond.instanceMethod ({ cls := "java/lang/String", name := "<init>", desc := "([C)V" } : Jvm.MethodName)).before a0 Z = true := hw _ (List.mem_of_getElem? (i := 9) rfl)
theorem hw10 {Z : State} {a0 : Array Value} (hw : ∀ d ∈ tables_1, d.before a0 Z = true) : (Jvm.Cond.code ({ cls := "java/lang/String", name := "<init>", desc := "([C)V" } : Jvm.MethodName) jdk_42_method_3_code (2 : Nat) (Option.none : Option Jvm.ClassFile.FieldType)).before a0 Z = true := hw _ (List.mem_of_getElem? (i := 10) rfl)
theorem hw11 {Z : State} {a0 : Array Value} (hw : ∀ d ∈ tables_1, d.before a0 Z = true) : (Jvm.Cond.methodLink "java/lang/String" (27 : Nat) ({ cls := "java/lang/String", name := "<init>", desc := "([CIILjava/lang/Void;)V" } : Jvm.MethodName)).before a0 Z = true := hw _ (List.mem_of_getElem? (i := 11) rfl)
theorem hw12 {Z : State} {a0 : Array Value} (hw : ∀ d ∈ tables_1, d.before a0 Z = true) : (Jvm.Cond.instanceMethod ({ cls := "java/lang/String", name := "<init>", desc := "([CIILjava/lang/Void;)V" } : Jvm.MethodName)).before a0 Z = true := hw _ (List.mem_of_getElem? (i := 12) rfl)
theorem hw14 {Z : State} {a0 : Array Value} (hw : ∀ d ∈ tables_1, d.before a0 Z = true) : (Jvm.Cond.code ({ cls := "java/lang/String", name := "<init>", desc := "([CIILjava/lang/Void;)V" } : Jvm.MethodName) jdk_42_method_149_code (6 : Nat) (Option.none : Option Jvm.ClassFile.FieldType)).before a0 Z = true := hw _ (List.mem_of_getElem? (i := 14) rfl)
theorem hw15 {Z : State} {a0 : Array Value} (hw : ∀ d ∈ tables_1, d.before a0 Z = true) : (Jvm.Cond.methodLink "java/lang/String" (1 : Nat) ({ cls := "java/lang/Object", name := "<init>", desc := "()V" } : Jvm.MethodName)).before a0 Z = true := hw _ (List.mem_of_getElem? (i := 15) rfl)
theorem hw16 {Z : State} {a0 : Array Value} (hw : ∀ d ∈ tables_1, d.before a0 Z = true) : (Jvm.Cond.instanceMethod ({ cls := "java/lang/Object", name := "<init>", desc := "()V" } : Jvm.MethodName)).before a0 Z = true := hw _ (List.mem_of_getElem? (i := 16) rfl)
theorem hw17 {Z : State} {a0 : Array Value} (hw : ∀ d ∈ tables_1, d.before a0 Z = true) : (Jvm.Cond.code ({ cls := "java/lang/Object", name := "<init>", desc := "()V" } : Jvm.MethodName) object_method_1_code (1 : Nat) (Option.none : Option Jvm.ClassFile.FieldType)).before a0 Z = true := hw _ (List.mem_of_getElem? (i := 17) rfl)
theorem hw18 {Z : State} {a0 : Array Value} (hw : ∀ d ∈ tables_1, d.before a0 Z = true) : (Jvm.Cond.fieldLink "java/lang/String" (38 : Nat) "java/lang/String" "COMPACT_STRINGS" "Z").before a0 Z = true := hw _ (List.mem_of_getElem? (i := 18) rfl)
theorem hw23 {Z : State} {a0 : Array Value} (hw : ∀ d ∈ tables_1, d.before a0 Z = true) : (Jvm.Cond.arrayClass Jvm.ClassFile.FieldType.byte).before a0 Z = true := hw _ (List.mem_of_getElem? (i := 23) rfl)
theorem hw30 {Z : State} {a0 : Array Value} (hw : ∀ d ∈ tables_1, d.before a0 Z = true) : (Jvm.Cond.fieldLink "java/lang/String" (15 : Nat) "java/lang/String" "coder" "B").before a0 Z = true := hw _ (List.mem_of_getElem? (i := 30) rfl)
theorem hw31 {Z : State} {a0 : Array Value} (hw : ∀ d ∈ tables_1, d.before a0 Z = true) : (Jvm.Cond.laysFinal "java/lang/String" "java/lang/String" "coder" "B").before a0 Z = true := hw _ (List.mem_of_getElem? (i := 31) rfl)
theorem hw32 {Z : State} {a0 : Array Value} (hw : ∀ d ∈ tables_1, d.before a0 Z = true) : (Jvm.Cond.fieldLink "java/lang/String" (9 : Nat) "java/lang/String" "value" "[B").before a0 Z = true := hw _ (List.mem_of_getElem? (i := 32) rfl)
theorem hw33 {Z : State} {a0 : Array Value} (hw : ∀ d ∈ tables_1, d.before a0 Z = true) : (Jvm.Cond.laysFinal "java/lang/String" "java/lang/String" "value" "[B").before a0 Z = true := hw _ (List.mem_of_getElem? (i := 33) rfl)
theorem hw34 {Z : State} {a0 : Array Value} (hw : ∀ d ∈ tables_1, d.before a0 Z = true) : (Jvm.Cond.stringLink "java/lang/String" (7 : Nat) "").before a0 Z = true := hw _ (List.mem_of_getElem? (i := 34) rfl)
theorem hw37 {Z : State} {a0 : Array Value} (hw : ∀ d ∈ tables_1, d.before a0 Z = true) : (Jvm.Cond.classLink "com/example/sillon/sillon/transport/PartsMainIsMessagePinLaw" (22 : Nat) "com/example/sillon/sillon/transport/SoapOperation$Parts").before a0 Z = true := hw _ (List.mem_of_getElem? (i := 37) rfl)
theorem hw38 {Z : State} {a0 : Array Value} (hw : ∀ d ∈ tables_1, d.before a0 Z = true) : (Jvm.Cond.instantiable "com/example/sillon/sillon/transport/SoapOperation$Parts" (5 : Nat)).before a0 Z = true := hw _ (List.mem_of_getElem? (i := 38) rfl)
theorem hw39 {Z : State} {a0 : Array Value} (hw : ∀ d ∈ tables_1, d.before a0 Z = true) : (Jvm.Cond.initialized "com/example/sillon/sillon/transport/SoapOperation$Parts").before a0 Z = true := hw _ (List.mem_of_getElem? (i := 39) rfl)
theorem hw40 {Z : State} {a0 : Array Value} (hw : ∀ d ∈ tables_1, d.before a0 Z = true) : (Jvm.Cond.methodLink "com/example/sillon/sillon/transport/PartsMainIsMessagePinLaw" (24 : Nat) ({ cls := "com/example/sillon/sillon/transport/SoapOperation$Parts", name := "<init>", desc := "(Ljava/lang/String;Ljava/lang/String;Ljava/lang/String;Ljava/lang/String;Ljava/lang/String;)V" } : Jvm.MethodName)).before a0 Z = true := hw _ (List.mem_of_getElem? (i := 40) rfl)
theorem hw41 {Z : State} {a0 : Array Value} (hw : ∀ d ∈ tables_1, d.before a0 Z = true) : (Jvm.Cond.instanceMethod ({ cls := "com/example/sillon/sillon/transport/SoapOperation$Parts", name := "<init>", desc := "(Ljava/lang/String;Ljava/lang/String;Ljava/lang/String;Ljava/lang/String;Ljava/lang/String;)V" } : Jvm.MethodName)).before a0 Z = true := hw _ (List.mem_of_getElem? (i := 41) rfl)
theorem hw42 {Z : State} {a0 : Array Value} (hw : ∀ d ∈ tables_1, d.before a0 Z = true) : (Jvm.Cond.code ({ cls := "com/example/sillon/sillon/transport/SoapOperation$Parts", name := "<init>", desc := "(Ljava/lang/String;Ljava/lang/String;Ljava/lang/String;Ljava/lang/String;Ljava/lang/String;)V" } : Jvm.MethodName) prog_40_method_1_code (6 : Nat) (Option.none : Option Jvm.ClassFile.FieldType)).before a0 Z = true := hw _ (List.mem_of_getElem? (i := 42) rfl)
theorem hw43 {Z : State} {a0 : Array Value} (hw : ∀ d ∈ tables_1, d.before a0 Z = true) : (Jvm.Cond.methodLink "com/example/sillon/sillon/transport/SoapOperation$Parts" (1 : Nat) ({ cls := "java/lang/Record", name := "<init>", desc := "()V" } : Jvm.MethodName)).before a0 Z = true := hw _ (List.mem_of_getElem? (i := 43) rfl)
theorem hw44 {Z : State} {a0 : Array Value} (hw : ∀ d ∈ tables_1, d.before a0 Z = true) : (Jvm.Cond.instanceMethod ({ cls := "java/lang/Record", name := "<init>", desc := "()V" } : Jvm.MethodName)).before a0 Z = true := hw _ (List.mem_of_getElem? (i := 44) rfl)
theorem hw46 {Z : State} {a0 : Array Value} (hw : ∀ d ∈ tables_1, d.before a0 Z = true) : (Jvm.Cond.initialized "java/lang/Record").before a0 Z = true := hw _ (List.mem_of_getElem? (i := 46) rfl)
theorem hw47 {Z : State} {a0 : Array Value} (hw : ∀ d ∈ tables_1, d.before a0 Z = true) : (Jvm.Cond.code ({ cls := "java/lang/Record", name := "<init>", desc := "()V" } : Jvm.MethodName) jdk_30_method_1_code (1 : Nat) (Option.none : Option Jvm.ClassFile.FieldType)).before a0 Z = true := hw _ (List.mem_of_getElem? (i := 47) rfl)
theorem hw48 {Z : State} {a0 : Array Value} (hw : ∀ d ∈ tables_1, d.before a0 Z = true) : (Jvm.Cond.methodLink "java/lang/Record" (1 : Nat) ({ cls := "java/lang/Object", name := "<init>", desc := "()V" } : Jvm.MethodName)).before a0 Z = true := hw _ (List.mem_of_getElem? (i := 48) rfl)
theorem hw49 {Z : State} {a0 : Array Value} (hw : ∀ d ∈ tables_1, d.before a0 Z = true) : (Jvm.Cond.fieldLink "com/example/sillon/sillon/transport/SoapOperation$Parts" (7 : Nat) "com/example/sillon/sillon/transport/SoapOperation$Parts" "message" "Ljava/lang/String;").before a0 Z = true := hw _ (List.mem_of_getElem? (i := 49) rfl)
theorem hw50 {Z : State} {a0 : Array Value} (hw : ∀ d ∈ tables_1, d.before a0 Z = true) : (Jvm.Cond.laysFinal "com/example/sillon/sillon/transport/SoapOperation$Parts" "com/example/sillon/sillon/transport/SoapOperation$Parts" "message" "Ljava/lang/String;").before a0 Z = true := hw _ (List.mem_of_getElem? (i := 50) rfl)
theorem hw51 {Z : State} {a0 : Array Value} (hw : ∀ d ∈ tables_1, d.before a0 Z = true) : (Jvm.Cond.fieldLink "com/example/sillon/sillon/transport/SoapOperation$Parts" (13 : Nat) "com/example/sillon/sillon/transport/SoapOperation$Parts" "head" "Ljava/lang/String;").before a0 Z = true := hw _ (List.mem_of_getElem? (i := 51) rfl)
theorem hw52 {Z : State} {a0 : Array Value} (hw : ∀ d ∈ tables_1, d.before a0 Z = true) : (Jvm.Cond.laysFinal "com/example/sillon/sillon/transport/SoapOperation$Parts" "com/example/sillon/sillon/transport/SoapOperation$Parts" "head" "Ljava/lang/String;").before a0 Z = true := hw _ (List.mem_of_getElem? (i := 52) rfl)
theorem hw53 {Z : State} {a0 : Array Value} (hw : ∀ d ∈ tables_1, d.before a0 Z = true) : (Jvm.Cond.fieldLink "com/example/sillon/sillon/transport/SoapOperation$Parts" (16 : Nat) "com/example/sillon/sillon/transport/SoapOperation$Parts" "main" "Ljava/lang/String;").before a0 Z = true := hw _ (List.mem_of_getElem? (i := 53) rfl)
theorem hw54 {Z : State} {a0 : Array Value} (hw : ∀ d ∈ tables_1, d.before a0 Z = true) : (Jvm.Cond.laysFinal "com/example/sillon/sillon/transport/SoapOperation$Parts" "com/example/sillon/sillon/transport/SoapOperation$Parts" "main" "Ljava/lang/String;").before a0 Z = true := hw _ (List.mem_of_getElem? (i := 54) rfl)
theorem hw55 {Z : State} {a0 : Array Value} (hw : ∀ d ∈ tables_1, d.before a0 Z = true) : (Jvm.Cond.fieldLink "com/example/sillon/sillon/transport/SoapOperation$Parts" (19 : Nat) "com/example/sillon/sillon/transport/SoapOperation$Parts" "mainElement" "Ljava/lang/String;").before a0 Z = true := hw _ (List.mem_of_getElem? (i := 55) rfl)
theorem hw56 {Z : State} {a0 : Array Value} (hw : ∀ d ∈ tables_1, d.before a0 Z = true) : (Jvm.Cond.laysFinal "com/example/sillon/sillon/transport/SoapOperation$Parts" "com/example/sillon/sillon/transport/SoapOperation$Parts" "mainElement" "Ljava/lang/String;").before a0 Z = true := hw _ (List.mem_of_getElem? (i := 56) rfl)
theorem hw57 {Z : State} {a0 : Array Value} (hw : ∀ d ∈ tables_1, d.before a0 Z = true) : (Jvm.Cond.fieldLink "com/example/sillon/sillon/transport/SoapOperation$Parts" (22 : Nat) "com/example/sillon/sillon/transport/SoapOperation$Parts" "extension" "Ljava/lang/String;").before a0 Z = true := hw _ (List.mem_of_getElem? (i := 57) rfl)
theorem hw58 {Z : State} {a0 : Array Value} (hw : ∀ d ∈ tables_1, d.before a0 Z = true) : (Jvm.Cond.laysFinal "com/example/sillon/sillon/transport/SoapOperation$Parts" "com/example/sillon/sillon/transport/SoapOperation$Parts" "extension" "Ljava/lang/String;").before a0 Z = true := hw _ (List.mem_of_getElem? (i := 58) rfl)
theorem hw59 {Z : State} {a0 : Array Value} (hw : ∀ d ∈ tables_1, d.before a0 Z = true) : (Jvm.Cond.methodLink "com/example/sillon/sillon/transport/PartsMainIsMessagePinLaw" (27 : Nat) ({ cls := "com/example/sillon/sillon/transport/SoapOperation$Parts", name := "mainIsMessage", desc := "()Z" } : Jvm.MethodName)).before a0 Z = true := hw _ (List.mem_of_getElem? (i := 59) rfl)
theorem hw60 {Z : State} {a0 : Array Value} (hw : ∀ d ∈ tables_1, d.before a0 Z = true) : (Jvm.Cond.declares ({ cls := "com/example/sillon/sillon/transport/SoapOperation$Parts", name := "mainIsMessage", desc := "()Z" } : Jvm.MethodName)).before a0 Z = true := hw _ (List.mem_of_getElem? (i := 60) rfl)
theorem hw61 {Z : State} {a0 : Array Value} (hw : ∀ d ∈ tables_1, d.before a0 Z = true) : (Jvm.Cond.instanceMethod ({ cls := "com/example/sillon/sillon/transport/SoapOperation$Parts", name := "mainIsMessage", desc := "()Z" } : Jvm.MethodName)).before a0 Z = true := hw _ (List.mem_of_getElem? (i := 61) rfl)
theorem hw62 {Z : State} {a0 : Array Value} (hw : ∀ d ∈ tables_1, d.before a0 Z = true) : (Jvm.Cond.selects "com/example/sillon/sillon/transport/SoapOperation$Parts" ({ cls := "com/example/sillon/sillon/transport/SoapOperation$Parts", name := "mainIsMessage", desc := "()Z" } : Jvm.MethodName) ({ cls := "com/example/sillon/sillon/transport/SoapOperation$Parts", name := "mainIsMessage", desc := "()Z" } : Jvm.MethodName)).before a0 Z = true := hw _ (List.mem_of_getElem? (i := 62) rfl)
theorem hw63 {Z : State} {a0 : Array Value} (hw : ∀ d ∈ tables_1, d.before a0 Z = true) : (Jvm.Cond.code ({ cls := "com/example/sillon/sillon/transport/SoapOperation$Parts", name := "mainIsMessage", desc := "()Z" } : Jvm.MethodName) prog_40_method_2_code (1 : Nat) (Option.some Jvm.ClassFile.FieldType.boolean)).before a0 Z = true := hw _ (List.mem_of_getElem? (i := 63) rfl)
theorem hw64 {Z : State} {a0 : Array Value} (hw : ∀ d ∈ tables_1, d.before a0 Z = true) : (Jvm.Cond.methodLink "com/example/sillon/sillon/transport/SoapOperation$Parts" (25 : Nat) ({ cls := "java/lang/String", name := "equals", desc := "(Ljava/lang/Object;)Z" } : Jvm.MethodName)).before a0 Z = true := hw _ (List.mem_of_getElem? (i := 64) rfl)
theorem hw65 {Z : State} {a0 : Array Value} (hw : ∀ d ∈ tables_1, d.before a0 Z = true) : (Jvm.Cond.declares ({ cls := "java/lang/String", name := "equals", desc := "(Ljava/lang/Object;)Z" } : Jvm.MethodName)).before a0 Z = true := hw _ (List.mem_of_getElem? (i := 65) rfl)
theorem hw66 {Z : State} {a0 : Array Value} (hw : ∀ d ∈ tables_1, d.before a0 Z = true) : (Jvm.Cond.instanceMethod ({ cls := "java/lang/String", name := "equals", desc := "(Ljava/lang/Object;)Z" } : Jvm.MethodName)).before a0 Z = true := hw _ (List.mem_of_getElem? (i := 66) rfl)
theorem hw67 {Z : State} {a0 : Array Value} (hw : ∀ d ∈ tables_1, d.before a0 Z = true) : (Jvm.Cond.selects "java/lang/String" ({ cls := "java/lang/String", name := "equals", desc := "(Ljava/lang/Object;)Z" } : Jvm.MethodName) ({ cls := "java/lang/String", name := "equals", desc := "(Ljava/lang/Object;)Z" } : Jvm.MethodName)).before a0 Z = true := hw _ (List.mem_of_getElem? (i := 67) rfl)
theorem hw68 {Z : State} {a0 : Array Value} (hw : ∀ d ∈ tables_1, d.before a0 Z = true) : (Jvm.Cond.code ({ cls := "java/lang/String", name := "equals", desc := "(Ljava/lang/Object;)Z" } : Jvm.MethodName) jdk_42_method_66_code (3 : Nat) (Option.some Jvm.ClassFile.FieldType.boolean)).before a0 Z = true := hw _ (List.mem_of_getElem? (i := 68) rfl)
theorem hw69 {Z : State} {a0 : Array Value} (hw : ∀ d ∈ tables_1, d.before a0 Z = true) : (Jvm.Cond.classLink "java/lang/String" (10 : Nat) "java/lang/String").before a0 Z = true := hw _ (List.mem_of_getElem? (i := 69) rfl)
theorem hw72 {Z : State} {a0 : Array Value} (hw : ∀ d ∈ tables_1, d.before a0 Z = true) : (Jvm.Cond.initialized "java/lang/StringLatin1").before a0 Z = true := hw _ (List.mem_of_getElem? (i := 72) rfl)
theorem hw74 {Z : State} {a0 : Array Value} (hw : ∀ d ∈ tables_1, d.before a0 Z = true) : (Jvm.Cond.methodLink "com/example/sillon/sillon/transport/PartsMainIsMessagePinLaw" (12 : Nat) ({ cls := "java/lang/String", name := "valueOf", desc := "(C)Ljava/lang/String;" } : Jvm.MethodName)).before a0 Z = true := hw _ (List.mem_of_getElem? (i := 74) rfl)
theorem hw75 {Z : State} {a0 : Array Value} (hw : ∀ d ∈ tables_1, d.before a0 Z = true) : (Jvm.Cond.static ({ cls := "java/lang/String", name := "valueOf", desc := "(C)Ljava/lang/String;" } : Jvm.MethodName)).before a0 Z = true := hw _ (List.mem_of_getElem? (i := 75) rfl)
theorem hw76 {Z : State} {a0 : Array Value} (hw : ∀ d ∈ tables_1, d.before a0 Z = true) : (Jvm.Cond.code ({ cls := "java/lang/String", name := "valueOf", desc := "(C)Ljava/lang/String;" } : Jvm.MethodName) jdk_42_method_139_code (1 : Nat) (Option.some (Jvm.ClassFile.FieldType.object "java/lang/String"))).before a0 Z = true := hw _ (List.mem_of_getElem? (i := 76) rfl)
theorem hw77 {Z : State} {a0 : Array Value} (hw : ∀ d ∈ tables_1, d.before a0 Z = true) : (Jvm.Cond.methodLink "java/lang/String" (1015 : Nat) ({ cls := "java/lang/StringLatin1", name := "canEncode", desc := "(C)Z" } : Jvm.MethodName)).before a0 Z = true := hw _ (List.mem_of_getElem? (i := 77) rfl)
theorem hw78 {Z : State} {a0 : Array Value} (hw : ∀ d ∈ tables_1, d.before a0 Z = true) : (Jvm.Cond.static ({ cls := "java/lang/StringLatin1", name := "canEncode", desc := "(C)Z" } : Jvm.MethodName)).before a0 Z = true := hw _ (List.mem_of_getElem? (i := 78) rfl)
theorem hw79 {Z : State} {a0 : Array Value} (hw : ∀ d ∈ tables_1, d.before a0 Z = true) : (Jvm.Cond.code ({ cls := "java/lang/StringLatin1", name := "canEncode", desc := "(C)Z" } : Jvm.MethodName) jdk_43_method_3_code (1 : Nat) (Option.some Jvm.ClassFile.FieldType.boolean)).before a0 Z = true := hw _ (List.mem_of_getElem? (i := 79) rfl)
theorem hw80 {Z : State} {a0 : Array Value} (hw : ∀ d ∈ tables_1, d.before a0 Z = true) : (Jvm.Cond.methodLink "java/lang/String" (1018 : Nat) ({ cls := "java/lang/StringLatin1", name := "toBytes", desc := "(C)[B" } : Jvm.MethodName)).before a0 Z = true := hw _ (List.mem_of_getElem? (i := 80) rfl)
theorem hw81 {Z : State} {a0 : Array Value} (hw : ∀ d ∈ tables_1, d.before a0 Z = true) : (Jvm.Cond.static ({ cls := "java/lang/StringLatin1", name := "toBytes", desc := "(C)[B" } : Jvm.MethodName)).before a0 Z = true := hw _ (List.mem_of_getElem? (i := 81) rfl)
theorem hw82 {Z : State} {a0 : Array Value} (hw : ∀ d ∈ tables_1, d.before a0 Z = true) : (Jvm.Cond.code ({ cls := "java/lang/StringLatin1", name := "toBytes", desc := "(C)[B" } : Jvm.MethodName) jdk_43_method_46_code (1 : Nat) (Option.some (Jvm.ClassFile.FieldType.array Jvm.ClassFile.FieldType.byte))).before a0 Z = true := hw _ (List.mem_of_getElem? (i := 82) rfl)
theorem hw83 {Z : State} {a0 : Array Value} (hw : ∀ d ∈ tables_1, d.before a0 Z = true) : (Jvm.Cond.methodLink "java/lang/String" (209 : Nat) ({ cls := "java/lang/String", name := "<init>", desc := "([BB)V" } : Jvm.MethodName)).before a0 Z = true := hw _ (List.mem_of_getElem? (i := 83) rfl)
theorem hw84 {Z : State} {a0 : Array Value} (hw : ∀ d ∈ tables_1, d.before a0 Z = true) : (Jvm.Cond.instanceMethod ({ cls := "java/lang/String", name := "<init>", desc := "([BB)V" } : Jvm.MethodName)).before a0 Z = true := hw _ (List.mem_of_getElem? (i := 84) rfl)
theorem hw85 {Z : State} {a0 : Array Value} (hw : ∀ d ∈ tables_1, d.before a0 Z = true) : (Jvm.Cond.code ({ cls := "java/lang/String", name := "<init>", desc := "([BB)V" } : Jvm.MethodName) jdk_42_method_151_code (3 : Nat) (Option.none : Option Jvm.ClassFile.FieldType)).before a0 Z = true := hw _ (List.mem_of_getElem? (i := 85) rfl)
theorem own_EW {Z : State} {a0 : Array Value} (hw : ∀ d ∈ tables_1, d.before a0 Z = true) : EW Z a0 EL := (EW.cons (hw34 hw) (by decide) EW.nil)
theorem own_safeArv {Z : State} {vm : Vm} {h : Heap} {x : Addr} {k : ClassId} {ty : FieldType} {z : Int32} {vs : List Value} {d : Value} (hal : Z.vm.Alike vm) (F : Arv Z h x k ty z vs d) (ht : ty ≠ .byte) : Safe Z EL vm h x := by
  obtain ⟨c, A, -⟩ := F
  exact Safe.arr hal A ht
theorem own_z01 (P : Prop) [Decidable P] : (if P then (1 : Int32) else 0) = 0 ∨ (if P then (1 : Int32) else 0) = 1 := by by_cases h : P <;> simp [h]
theorem own_or3 (x : Int32) : (x &&& (3 : Int32)) = 0 ∨ (x &&& (3 : Int32)) = 1 ∨ (x &&& (3 : Int32)) = 2 ∨ (x &&& (3 : Int32)) = 3 := by
  have h : (x &&& 3).toBitVec.toNat < 4 := by
    simp only [Int32.toBitVec_and, BitVec.toNat_and]
    exact Nat.lt_succ_of_le Nat.and_le_right
  have e : (x &&& (3 : Int32)) = Int32.ofNat (x &&& 3).toBitVec.toNat := by
    apply Int32.toBitVec_inj.mp
    show _ = BitVec.ofNat 32 _
    rw [BitVec.ofNat_toNat]; simp
  have t : ∀ k : Fin 4, Int32.ofNat k.val = 0 ∨ Int32.ofNat k.val = 1 ∨ Int32.ofNat k.val = 2 ∨ Int32.ofNat k.val = 3 := by decide
  rw [e]
  exact t ⟨_, h⟩
abbrev Three (x : Int32) : Prop := x = 0 ∨ x = 1 ∨ x = 2
theorem own_rem3 (x : Int32) : Three ((x &&& (3 : Int32)) % (3 : Int32)) := by rcases own_or3 x with h | h | h | h <;> rw [h] <;> decide
def own_mk (n a b : Int32) : List Int32 := if n = 0 then [] else if n = 1 then [a] else [a, b]
theorem own_mk0 {n a b : Int32} (h : n = 0) : own_mk n a b = [] := by simp [own_mk, h]
theorem own_mk1 {n a b : Int32} (h0 : ¬ n = 0) (h : n = 1) : own_mk n a b = [a] := by simp [own_mk, h]
theorem own_mk2 {n a b : Int32} (h0 : ¬ n = 0) (h : ¬ n = 1) : own_mk n a b = [a, b] := by simp [own_mk, h0, h]
theorem own_mkeq {i j a b c d : Int32} (hi : Three i) (hj : Three j) : own_mk i a b = own_mk j c d ↔ i = j ∧ (i < 1 ∨ a = c) ∧ (i < 2 ∨ b = d) := by
  rcases hi with rfl | rfl | rfl <;> rcases hj with rfl | rfl | rfl <;> simp [own_mk] <;> decide
theorem ef_s4e (m : MethodId) (a : Addr) (b : Addr) : entryFrame m #[(.ref a), (.ref b), (.int (0 : Int32)), (.int (0 : Int32)), .null] 6 = (mkF m 0 #[.val (.ref a), .val (.ref b), .val (.int (0 : Int32)), .val (.int (0 : Int32)), .val .null, .unset] []) := by first | (simp [entryFrame, mkF, argsToLocals, Value.category]; done) | rfl
def Q_s4e (Z : State) (a : Addr) (b : Addr) (h0 : Heap) (n0 : Nat) (v : Option Value) (h : Heap) (L : List Loc) : Prop := ∃ (t : Addr) (kb : ClassId), v = none ∧ Fr n0 L ∧ Keep h0 h [a] ∧ Str Z h a t kb [] ∧ a ≠ t
set_option maxRecDepth 65536 in
set_option maxHeartbeats 40000000 in
theorem rm_s4e (l : Launch) (Z : State) (a0 : Array Value) (hw : ∀ d ∈ tables_1, d.before a0 Z = true) (ws : List Jvm.Cond) (a : Addr) (b : Addr) (h0 : Heap) (n0 : Nat) (Z0 : n0 ≤ h0.size) (P0 : Exa Z h0 a "java/lang/String") (P1 : Fld Z h0 a "java/lang/String" "value" "[B" .null) (P2 : Fld Z h0 a "java/lang/String" "coder" "B" (.int (0 : Int32))) (g_a : n0 ≤ a) :
    MetFree l (⟨"java/lang/String", "<init>", "([CIILjava/lang/Void;)V"⟩ : MethodName) (head1 (Jvm.Cond.code (⟨"java/lang/String", "<init>", "([CIILjava/lang/Void;)V"⟩ : MethodName) jdk_42_method_149_code 6 none :: ws) ({ frames := 1, cells := 4, slots := 8, locals := 12 } : Room)) (fun aR U => aR = #[(.ref a), (.ref b), (.int (0 : Int32)), (.int (0 : Int32)), .null] ∧ Z.Warmed39 U.vm ∧ U.heap = h0 ∧ CHv Z EL U.vm h0 ∧ ∀ x ∈ ([a] : List Addr), Safe Z EL U.vm h0 x) (fun _ _ _ _ _ => True) (fun _ U o U' => ∃ v L, o = .returned v ∧ Q_s4e Z a b h0 n0 v U'.heap L ∧ CHr Z EL U.vm U.heap U'.vm U'.heap ∧ ReturnedEndW U o U' L ({ frames := 1, cells := 4, slots := 8, locals := 12 } : Room).cells ({ frames := 1, cells := 4, slots := 8, locals := 12 } : Room).slots) := by
  refine MetFree.of_bodySF (plainFor_of_name pn_0) hisR ?_
  intro p e s m args below meth c s₁ Bd hml0 hP hK
  obtain ⟨rfl, hZ, hh, hCH, hSF⟩ := hP
  have hx := Bd.exec
  have hby := Bd.bytes
  have hml : c.maxLocals = 6 := hml0
  have hown : s.vm.findClass "java/lang/String" = some m.cls := findClass_of_methodNamed Bd.named
  have hnm := (name_of_methodNamed Bd.named Bd.method).1
  have X0 : Stand p l e ({ frames := 1, cells := 4, slots := 8, locals := 12 } : Room) (s.setVm s.vm) m #[(.ref a), (.ref b), (.int (0 : Int32)), (.int (0 : Int32)), .null] below meth c s₁ [] 0 0 := Stand.of_body Bd
  have e0 : s₁.heap = h0 := by rw [← hh, Bd.state]; rfl
  have N0 := Fr.nil n0
  show Goes p.tables e below _ _
  rw [ef_s4e m a b]
  refine Goes.named ?_
  intro QQ hQQ
  have hS0 : s.Since s.vm 0 := (State.WarmedH.refl s).since 0
  have hk0 : 0 ≤ h0.size := Nat.zero_le _
  have CR0 : CHr Z EL s.vm h0 s.vm h0 := CHr.refl hCH
  have sf0_a : Safe Z EL s.vm h0 a := hSF _ (List.mem_of_getElem? (i := 0) rfl)
  refine Goes.st (fun t k => XS.aloadN X0.here hx rfl (hb hby d3_0) rfl rfl k) ?_
  show Goes _ _ _ _ (s₁.setTop (mkF m 1 #[.val (.ref a), .val (.ref b), .val (.int (0 : Int32)), .val (.int (0 : Int32)), .val .null, .unset] [(.ref a)]))
  obtain ⟨T1, X1, e1, st1⟩ := initO X0 hx hZ hown (hw15 hw) (hw16 hw) (hw17 hw) e0 (g := (mkF m 1 #[.val (.ref a), .val (.ref b), .val (.int (0 : Int32)), .val (.int (0 : Int32)), .val .null, .unset] [(.ref a)])) rfl (by rw [hml]; rfl) rfl (hb hby d3_1) (by decide) (W := 0) (by show 2 * 0 + _ ≤ _; exact Nat.le_of_eq rfl) (by decide)
  refine Goes.st st1 ?_
  show Goes _ _ _ _ (T1.setTop (mkF m 4 #[.val (.ref a), .val (.ref b), .val (.int (0 : Int32)), .val (.int (0 : Int32)), .val .null, .unset] []))
  refine Goes.st (fun t k => XS.iloadN X1.here hx rfl (hb hby d3_4) rfl k) ?_
  show Goes _ _ _ _ (T1.setTop (mkF m 5 #[.val (.ref a), .val (.ref b), .val (.int (0 : Int32)), .val (.int (0 : Int32)), .val .null, .unset] [(.int (0 : Int32))]))
  refine Goes.st (fun t k => XS.ifNo X1.here hx rfl (hb hby d3_5) rfl ((if0 _ _).trans (teq (by decide : (0 : Int32) = (0 : Int32))).2) k) ?_
  show Goes _ _ _ _ (T1.setTop (mkF m 8 #[.val (.ref a), .val (.ref b), .val (.int (0 : Int32)), .val (.int (0 : Int32)), .val .null, .unset] []))
  refine Goes.st (fun t k => XS.aloadN X1.here hx rfl (hb hby d3_8) rfl rfl k) ?_
  show Goes _ _ _ _ (T1.setTop (mkF m 9 #[.val (.ref a), .val (.ref b), .val (.int (0 : Int32)), .val (.int (0 : Int32)), .val .null, .unset] [(.ref a)]))
  obtain ⟨b2, T2, h2, kk2, t2, kb2, X2, e2, E2, hS2, hk2, hZ2, hown2, Ex2, Cd2, Vf2, Av2, lb2, lt2, C2, Lt2, hne2, st2⟩ := ldcCH X1 hx hZ hown (hw34 hw) (own_wS hw) e1 hS0 hk0 (own_EW hw) (by decide +kernel) CR0.1 (vs := []) (z := (0 : Int32)) ⟨by decide, by decide⟩ (by decide) (by decide) (g := (mkF m 9 #[.val (.ref a), .val (.ref b), .val (.int (0 : Int32)), .val (.int (0 : Int32)), .val .null, .unset] [(.ref a)])) rfl (hb hby d3_9) (n := 0) (by decide) (by decide) (by decide) (by decide)
  have CR2 : CHr Z EL s.vm h0 T2.vm h2 := CR0.trans C2
  have sf2_a : Safe Z EL T2.vm h2 a := C2.safe P0.lt sf0_a
  refine Goes.st st2 ?_
  show Goes _ _ _ _ (T2.setTop (mkF m 11 #[.val (.ref a), .val (.ref b), .val (.int (0 : Int32)), .val (.int (0 : Int32)), .val .null, .unset] [(.ref b2), (.ref a)]))
  obtain ⟨T3, X3, e3, st3⟩ := getF X2 hx hZ2 hown2 (host := "") (Or.inl (hw32 hw)) Via.refl e2 Vf2 (g := (mkF m 11 #[.val (.ref a), .val (.ref b), .val (.int (0 : Int32)), .val (.int (0 : Int32)), .val .null, .unset] [(.ref b2), (.ref a)])) rfl rfl (hb hby d3_11)
  refine Goes.st st3 ?_
  show Goes _ _ _ _ (T3.setTop (mkF m 14 #[.val (.ref a), .val (.ref b), .val (.int (0 : Int32)), .val (.int (0 : Int32)), .val .null, .unset] [(.ref t2), (.ref a)]))
  have f4 : Exa Z h2 a "java/lang/String" := (P0.ext E2)
  have f5 : Fld Z h2 a "java/lang/String" "value" "[B" .null := (P1.ext E2)
  obtain ⟨T6, h6, X6, e6, W6, st6⟩ := putF X3 hx hZ2 hown2 (host := "") (Or.inl (hw32 hw)) Via.refl e3 f5 f4 (Or.inr ⟨(hw33 hw), rfl, hnm⟩) (hw5 hw) (ty := (.array .byte)) (by decide) rfl rfl (g := (mkF m 14 #[.val (.ref a), .val (.ref b), .val (.int (0 : Int32)), .val (.int (0 : Int32)), .val .null, .unset] [(.ref t2), (.ref a)])) rfl rfl (hb hby d3_14)
  have N6 := Fr.snoc X6 N0 g_a
  have CR7 : CHr Z EL s.vm h0 T2.vm h6 := CR2.trans (CHr.wr W6 sf2_a CR2.1)
  have sf7_a : Safe Z EL T2.vm h6 a := Safe.wr W6 sf2_a CR2.1 sf2_a
  have F6 := f5.same W6
  refine Goes.st st6 ?_
  show Goes _ _ _ _ (T6.setTop (mkF m 17 #[.val (.ref a), .val (.ref b), .val (.int (0 : Int32)), .val (.int (0 : Int32)), .val .null, .unset] []))
  refine Goes.st (fun t k => XS.aloadN X6.here hx rfl (hb hby d3_17) rfl rfl k) ?_
  show Goes _ _ _ _ (T6.setTop (mkF m 18 #[.val (.ref a), .val (.ref b), .val (.int (0 : Int32)), .val (.int (0 : Int32)), .val .null, .unset] [(.ref a)]))
  obtain ⟨b8, T8, h8, kk8, t8, kb8, X8, e8, E8, hS8, hk8, hZ8, hown8, Ex8, Cd8, Vf8, Av8, lb8, lt8, C8, Lt8, hne8, st8⟩ := ldcCH X6 hx hZ2 hown2 (hw34 hw) (own_wS hw) e6 hS2 (Nat.le_trans hk2 (Nat.le_of_eq W6.size.symm)) (own_EW hw) (by decide +kernel) CR7.1 (vs := []) (z := (0 : Int32)) ⟨by decide, by decide⟩ (by decide) (by decide) (g := (mkF m 18 #[.val (.ref a), .val (.ref b), .val (.int (0 : Int32)), .val (.int (0 : Int32)), .val .null, .unset] [(.ref a)])) rfl (hb hby d3_18) (n := 0) (by decide) (by decide) (by decide) (by decide)
  have CR8 : CHr Z EL s.vm h0 T8.vm h8 := CR7.trans C8
  have sf8_a : Safe Z EL T8.vm h8 a := C8.safe (Nat.lt_of_lt_of_le P0.lt (Nat.le_trans E2.1 (Nat.le_of_eq W6.size.symm))) sf7_a
  refine Goes.st st8 ?_
  show Goes _ _ _ _ (T8.setTop (mkF m 20 #[.val (.ref a), .val (.ref b), .val (.int (0 : Int32)), .val (.int (0 : Int32)), .val .null, .unset] [(.ref b8), (.ref a)]))
  obtain ⟨T9, X9, e9, st9⟩ := getF X8 hx hZ8 hown8 (host := "") (Or.inl (hw30 hw)) Via.refl e8 Cd8 (g := (mkF m 20 #[.val (.ref a), .val (.ref b), .val (.int (0 : Int32)), .val (.int (0 : Int32)), .val .null, .unset] [(.ref b8), (.ref a)])) rfl rfl (hb hby d3_20)
  refine Goes.st st9 ?_
  show Goes _ _ _ _ (T9.setTop (mkF m 23 #[.val (.ref a), .val (.ref b), .val (.int (0 : Int32)), .val (.int (0 : Int32)), .val .null, .unset] [(.int (0 : Int32)), (.ref a)]))
  have f10 : Exa Z h8 a "java/lang/String" := ((f4.wr W6).ext E8)
  have f11 : Fld Z h8 a "java/lang/String" "coder" "B" (.int (0 : Int32)) := (((P2.ext E2).other W6 (Or.inr (slot_ne (Or.inr (hw31 hw)) (Or.inr (hw33 hw)) (by decide) (t := .byte) (t' := (.array .byte)) (by decide) (by decide)))).ext E8)
  obtain ⟨T12, h12, X12, e12, W12, st12⟩ := putFN X9 hx hZ8 hown8 (hw30 hw) Via.refl e9 f11 f10 (Or.inr ⟨(hw31 hw), rfl, hnm⟩) (hw5 hw) (ty := .byte) (v' := (.int (0 : Int32))) (by decide) rfl (by decide) (g := (mkF m 23 #[.val (.ref a), .val (.ref b), .val (.int (0 : Int32)), .val (.int (0 : Int32)), .val .null, .unset] [(.int (0 : Int32)), (.ref a)])) rfl rfl (hb hby d3_23)
  have N12 := Fr.snoc X12 N6 g_a
  have CR13 : CHr Z EL s.vm h0 T8.vm h12 := CR8.trans (CHr.wr W12 sf8_a CR8.1)
  have sf13_a : Safe Z EL T8.vm h12 a := Safe.wr W12 sf8_a CR8.1 sf8_a
  have F12 := f11.same W12
  refine Goes.st st12 ?_
  show Goes _ _ _ _ (T12.setTop (mkF m 26 #[.val (.ref a), .val (.ref b), .val (.int (0 : Int32)), .val (.int (0 : Int32)), .val .null, .unset] []))
  have f15 : Exa Z h12 a "java/lang/String" := (f10.wr W12)
  have f16 : Fld Z h12 a "java/lang/String" "value" "[B" (.ref t2) := ((F6.ext E8).other W12 (Or.inr (slot_ne (Or.inr (hw33 hw)) (Or.inr (hw31 hw)) (by decide) (t := (.array .byte)) (t' := .byte) (by decide) (by decide))))
  have f17 : Arv Z h12 t2 kb2 .byte (0 : Int32) [] (.int (0 : Int32)) := (((Av2.other W6 (Ne.symm (hne2 _ sf2_a).2)).ext E8).other W12 (Ne.symm (hne2 _ sf2_a).2))
  have S14 : Str Z h12 a t2 kb2 [] := ⟨f15, f16, F12, f17, own_c0, Nat.zero_le _⟩
  have kp18 : Keep h0 h2 [a] := (Keep.refl h0 [a]).ext E2
  have kp19 : Keep h0 h6 [a] := kp18.wr W6 (Or.inl (List.mem_of_getElem? (i := 0) rfl))
  have kp20 : Keep h0 h8 [a] := kp19.ext E8
  have kp21 : Keep h0 h12 [a] := kp20.wr W12 (Or.inl (List.mem_of_getElem? (i := 0) rfl))
  obtain ⟨fs, hr, hrun, hended, hRW⟩ := X12.leaveW hS8 (by rw [e12]; exact (Nat.le_trans hk8 (Nat.le_of_eq W12.size.symm))) (v := none) (fun _ => rfl)
  subst hQQ
  have hCR : CHr Z EL s.vm s.heap T12.vm T12.heap := by rw [hh, e12]; exact CR13.trans (CHv.at X12 hZ8 (own_EW hw) CR13.1)
  refine ⟨_, _, X12.returnOut hx Bd.returns (hb hby d3_26) hr, hrun, hended, _, _, rfl, ?_, hCR, own_REmono hRW (by decide) (by decide)⟩
  show Q_s4e Z a b h0 n0 _ T12.heap _
  rw [e12]
  exact ⟨t2, kb2, rfl, N12, kp21, S14, (hne2 _ sf2_a).2⟩
theorem ef_s1e (m : MethodId) (a : Addr) (b : Addr) (kc : ClassId) : entryFrame m #[(.ref a), (.ref b)] 2 = (mkF m 0 #[.val (.ref a), .val (.ref b)] []) := by first | (simp [entryFrame, mkF, argsToLocals, Value.category]; done) | rfl
def Q_s1e (Z : State) (a : Addr) (b : Addr) (kc : ClassId) (h0 : Heap) (n0 : Nat) (v : Option Value) (h : Heap) (L : List Loc) : Prop := ∃ (t : Addr) (kb : ClassId), v = none ∧ Fr n0 L ∧ Keep h0 h [a] ∧ Str Z h a t kb [] ∧ a ≠ t
set_option maxRecDepth 65536 in
set_option maxHeartbeats 40000000 in
theorem rm_s1e (l : Launch) (Z : State) (a0 : Array Value) (hw : ∀ d ∈ tables_1, d.before a0 Z = true) (ws : List Jvm.Cond) (a : Addr) (b : Addr) (kc : ClassId) (h0 : Heap) (n0 : Nat) (Z0 : n0 ≤ h0.size) (P0 : Exa Z h0 a "java/lang/String") (P1 : Fld Z h0 a "java/lang/String" "value" "[B" .null) (P2 : Fld Z h0 a "java/lang/String" "coder" "B" (.int (0 : Int32))) (P3 : Arv Z h0 b kc .char (0 : Int32) [] (.int (0 : Int32))) (g_a : n0 ≤ a) :
    MetFree l (⟨"java/lang/String", "<init>", "([C)V"⟩ : MethodName) (head1 (Jvm.Cond.code (⟨"java/lang/String", "<init>", "([C)V"⟩ : MethodName) jdk_42_method_3_code 2 none :: ws) ({ frames := 2, cells := 4, slots := 8, locals := 29 } : Room)) (fun aR U => aR = #[(.ref a), (.ref b)] ∧ Z.Warmed39 U.vm ∧ U.heap = h0 ∧ CHv Z EL U.vm h0 ∧ ∀ x ∈ ([a] : List Addr), Safe Z EL U.vm h0 x) (fun _ _ _ _ _ => True) (fun _ U o U' => ∃ v L, o = .returned v ∧ Q_s1e Z a b kc h0 n0 v U'.heap L ∧ CHr Z EL U.vm U.heap U'.vm U'.heap ∧ ReturnedEndW U o U' L ({ frames := 2, cells := 4, slots := 8, locals := 29 } : Room).cells ({ frames := 2, cells := 4, slots := 8, locals := 29 } : Room).slots) := by
  refine MetFree.of_bodySF (plainFor_of_name pn_0) hisR ?_
  intro p e s m args below meth c s₁ Bd hml0 hP hK
  obtain ⟨rfl, hZ, hh, hCH, hSF⟩ := hP
  have hx := Bd.exec
  have hby := Bd.bytes
  have hml : c.maxLocals = 2 := hml0
  have hown : s.vm.findClass "java/lang/String" = some m.cls := findClass_of_methodNamed Bd.named
  have hnm := (name_of_methodNamed Bd.named Bd.method).1
  have X0 : Stand p l e ({ frames := 2, cells := 4, slots := 8, locals := 29 } : Room) (s.setVm s.vm) m #[(.ref a), (.ref b)] below meth c s₁ [] 0 0 := Stand.of_body Bd
  have e0 : s₁.heap = h0 := by rw [← hh, Bd.state]; rfl
  have N0 := Fr.nil n0
  show Goes p.tables e below _ _
  rw [ef_s1e m a b kc]
  refine Goes.named ?_
  intro QQ hQQ
  have hS0 : s.Since s.vm 0 := (State.WarmedH.refl s).since 0
  have hk0 : 0 ≤ h0.size := Nat.zero_le _
  have CR0 : CHr Z EL s.vm h0 s.vm h0 := CHr.refl hCH
  have sf0_a : Safe Z EL s.vm h0 a := hSF _ (List.mem_of_getElem? (i := 0) rfl)
  refine Goes.st (fun t k => XS.aloadN X0.here hx rfl (hb hby d2_0) rfl rfl k) ?_
  show Goes _ _ _ _ (s₁.setTop (mkF m 1 #[.val (.ref a), .val (.ref b)] [(.ref a)]))
  refine Goes.st (fun t k => XS.aloadN X0.here hx rfl (hb hby d2_1) rfl rfl k) ?_
  show Goes _ _ _ _ (s₁.setTop (mkF m 2 #[.val (.ref a), .val (.ref b)] [(.ref b), (.ref a)]))
  refine Goes.st (fun t k => XS.iconst X0.here hx rfl (hb hby d2_2) k) ?_
  show Goes _ _ _ _ (s₁.setTop (mkF m 3 #[.val (.ref a), .val (.ref b)] [(.int (0 : Int32)), (.ref b), (.ref a)]))
  refine Goes.st (fun t k => XS.aloadN X0.here hx rfl (hb hby d2_3) rfl rfl k) ?_
  show Goes _ _ _ _ (s₁.setTop (mkF m 4 #[.val (.ref a), .val (.ref b)] [(.ref b), (.int (0 : Int32)), (.ref b), (.ref a)]))
  obtain ⟨oc1, oA1, oq1, oS1, oM1, oH1, oG1⟩ := id P3
  refine Goes.st (fun t k => X0.arraylength hx (by rw [e0]; exact oA1.1) (State.isArrayOf_alike hZ.alike oA1.2.1) (g := (mkF m 4 #[.val (.ref a), .val (.ref b)] [(.ref b), (.int (0 : Int32)), (.ref b), (.ref a)])) rfl rfl (hb hby d2_4) _ k) ?_
  rw [len_of oS1 oM1]
  show Goes _ _ _ _ (s₁.setTop (mkF m 5 #[.val (.ref a), .val (.ref b)] [(.int (0 : Int32)), (.int (0 : Int32)), (.ref b), (.ref a)]))
  refine Goes.st (fun t k => XS.aconstNull X0.here hx rfl (hb hby d2_5) k) ?_
  show Goes _ _ _ _ (s₁.setTop (mkF m 6 #[.val (.ref a), .val (.ref b)] [.null, (.int (0 : Int32)), (.int (0 : Int32)), (.ref b), (.ref a)]))
  obtain ⟨_, _, ⟨T2, L2, k2, n2⟩, -, X2, hSr2, hgr2, ⟨Lc2, hQ2, l2, y2, z2, C2⟩, st2⟩ := X0.specialBackS hx (y := (⟨"java/lang/String", "<init>", "([CIILjava/lang/Void;)V"⟩ : MethodName)) rfl hown (mvT hZ (hw11 hw)) (mvT hZ (hw12 hw)) (mvT hZ (hw14 hw)) (by decide) (own_backW (W := 0) (xs := [a]) (rm_s4e l Z a0 hw [] a b h0 n0 Z0 P0 P1 P2 g_a) hZ (hw14 hw) (hw6 hw) (by decide) (by decide) (own_EW hw) CR0.1 (allS ⟨P0.lt, sf0_a⟩ all0)) (g := (mkF m 6 #[.val (.ref a), .val (.ref b)] [.null, (.int (0 : Int32)), (.int (0 : Int32)), (.ref b), (.ref a)])) rfl (by rw [hml]; rfl) (Steps.refl _) (a := a) (argsL := [(.ref b), (.int (0 : Int32)), (.int (0 : Int32)), .null]) (rest := []) (lenOf pd_0 rfl) rfl (by show 2 * 0 + _ ≤ _; exact Nat.le_of_eq rfl) (hb hby d2_6) (fun _ _ => ⟨rfl, e0, (by decide : 0 + 4 ≤ _), (by decide : 0 + 8 ≤ _)⟩)
  dsimp only [Pt.U, Pt.locs, Pt.cells, Pt.slots] at X2 l2 y2 z2 st2 hQ2 hSr2 hgr2 C2
  subst l2 y2 z2
  obtain ⟨X2, hS2, hZ2, hown2⟩ := rebS hS0 (by rw [e0]; exact hk0) X2 hSr2 hgr2 hZ hown
  obtain ⟨t2, kb2, rfl, N2q, K2, F2_0, ne2_0⟩ := hQ2
  have N2 := Fr.app N0 N2q
  have F2_0E := F2_0.1
  have CR3 : CHr Z EL s.vm h0 T2.vm T2.heap := CR0.trans (C2)
  have sf3_a : Safe Z EL T2.vm T2.heap a := C2.safe P0.lt sf0_a
  refine Goes.tr st2 ?_
  show Goes _ _ _ _ (T2.setTop (mkF m 9 #[.val (.ref a), .val (.ref b)] []))
  have kp4 : Keep h0 T2.heap [a] := (Keep.refl h0 [a]).trans K2 (allS (Or.inl (List.mem_of_getElem? (i := 0) rfl)) all0)
  obtain ⟨fs, hr, hrun, hended, hRW⟩ := X2.leaveW hS2 (Nat.le_refl _) (v := none) (fun _ => rfl)
  subst hQQ
  have hCR : CHr Z EL s.vm s.heap T2.vm T2.heap := by rw [hh]; exact CR3.trans (CHv.at X2 hZ2 (own_EW hw) CR3.1)
  refine ⟨_, _, X2.returnOut hx Bd.returns (hb hby d2_9) hr, hrun, hended, _, _, rfl, ?_, hCR, own_REmono hRW (by decide) (by decide)⟩
  show Q_s1e Z a b kc h0 n0 _ T2.heap _
  exact ⟨t2, kb2, rfl, N2, kp4, F2_0, ne2_0⟩
theorem ef_canE (m : MethodId) (cc : Int32) : entryFrame m #[(.int cc)] 1 = (mkF m 0 #[.val (.int cc)] []) := by first | (simp [entryFrame, mkF, argsToLocals, Value.category]; done) | rfl
def Q_canE (Z : State) (cc : Int32) (h0 : Heap) (n0 : Nat) (v : Option Value) (h : Heap) (L : List Loc) : Prop := v = some (.int (1 : Int32)) ∧ Fr n0 L ∧ h = h0
set_option maxRecDepth 65536 in
set_option maxHeartbeats 40000000 in
theorem rm_canE (l : Launch) (Z : State) (a0 : Array Value) (hw : ∀ d ∈ tables_1, d.before a0 Z = true) (ws : List Jvm.Cond) (cc : Int32) (h0 : Heap) (n0 : Nat) (Z0 : n0 ≤ h0.size) (rg_cc : ¬ cc < 0 ∧ ¬ (255 : Int32) < cc) :
    MetFree l (⟨"java/lang/StringLatin1", "canEncode", "(C)Z"⟩ : MethodName) (head1 (Jvm.Cond.code (⟨"java/lang/StringLatin1", "canEncode", "(C)Z"⟩ : MethodName) jdk_43_method_3_code 1 (some .boolean) :: ws) ({ frames := 0, cells := 0, slots := 0, locals := 0 } : Room)) (fun aR U => aR = #[(.int cc)] ∧ Z.Warmed39 U.vm ∧ U.heap = h0) (fun _ _ _ _ _ => True) (fun _ U o U' => ∃ v L, o = .returned v ∧ Q_canE Z cc h0 n0 v U'.heap L ∧ FrameEnd U o U' L ({ frames := 0, cells := 0, slots := 0, locals := 0 } : Room).cells ({ frames := 0, cells := 0, slots := 0, locals := 0 } : Room).slots) := by
  refine MetFree.of_bodySF (plainFor_of_name pn_1) hisR ?_
  intro p e s m args below meth c s₁ Bd hml0 hP hK
  obtain ⟨rfl, hZ, hh⟩ := hP
  have hx := Bd.exec
  have hby := Bd.bytes
  have hml : c.maxLocals = 1 := hml0
  have hown : s.vm.findClass "java/lang/StringLatin1" = some m.cls := findClass_of_methodNamed Bd.named
  have hnm := (name_of_methodNamed Bd.named Bd.method).1
  have X0 : Stand p l e ({ frames := 0, cells := 0, slots := 0, locals := 0 } : Room) s m #[(.int cc)] below meth c s₁ [] 0 0 := Stand.of_body Bd
  have e0 : s₁.heap = h0 := by rw [← hh, Bd.state]; rfl
  have N0 := Fr.nil n0
  show Goes p.tables e below _ _
  rw [ef_canE m cc]
  refine Goes.named ?_
  intro QQ hQQ
  refine Goes.st (fun t k => XS.iloadN X0.here hx rfl (hb hby d14_0) rfl k) ?_
  show Goes _ _ _ _ (s₁.setTop (mkF m 1 #[.val (.int cc)] [(.int cc)]))
  refine Goes.st (fun t k => XS.sipush X0.here hx rfl (hb hby d14_1) k) ?_
  show Goes _ _ _ _ (s₁.setTop (mkF m 4 #[.val (.int cc)] [(.int (255 : Int32)), (.int cc)]))
  refine Goes.st (fun t k => XS.icmpNo X0.here hx rfl (hb hby d14_4) rfl (flt rg_cc.2).2.2.1 k) ?_
  show Goes _ _ _ _ (s₁.setTop (mkF m 7 #[.val (.int cc)] []))
  refine Goes.st (fun t k => XS.iconst X0.here hx rfl (hb hby d14_7) k) ?_
  show Goes _ _ _ _ (s₁.setTop (mkF m 8 #[.val (.int cc)] [(.int (1 : Int32))]))
  refine Goes.st (fun t k => XS.goto X0.here hx rfl (pc0 := 8) (pc' := 12) rfl (hb hby d14_8) (by decide) (by decide) k) ?_
  show Goes _ _ _ _ (s₁.setTop (mkF m 12 #[.val (.int cc)] [(.int (1 : Int32))]))
  obtain ⟨fs, hr, hrun, hended, hW, hsame⟩ := X0.leave (v := some (.int (1 : Int32))) (fun h => by rw [Bd.returns] at h; cases h)
  subst hQQ
  refine ⟨_, _, retN X0 hx (t := .boolean) Bd.returns (by simp) (hb hby d14_12) hr, hrun, hended, _, _, rfl, ?_, ⟨_, rfl⟩, hW, hsame.mono (by decide) (by decide)⟩
  show Q_canE Z cc h0 n0 _ s₁.heap _
  rw [e0]
  exact ⟨rfl, N0, rfl⟩
theorem ef_toB (m : MethodId) (cc : Int32) : entryFrame m #[(.int cc)] 1 = (mkF m 0 #[.val (.int cc)] []) := by first | (simp [entryFrame, mkF, argsToLocals, Value.category]; done) | rfl
def Q_toB (Z : State) (cc : Int32) (h0 : Heap) (n0 : Nat) (v : Option Value) (h : Heap) (L : List Loc) : Prop := ∃ (t : Addr) (kb : ClassId), v = some (.ref t) ∧ Fr n0 L ∧ Keep h0 h [] ∧ Arv Z h t kb .byte (1 : Int32) [(.int (cc.toInt8.toInt32))] (.int (0 : Int32)) ∧ h0.size ≤ t
set_option maxRecDepth 65536 in
set_option maxHeartbeats 40000000 in
theorem rm_toB (l : Launch) (Z : State) (a0 : Array Value) (hw : ∀ d ∈ tables_1, d.before a0 Z = true) (ws : List Jvm.Cond) (cc : Int32) (h0 : Heap) (n0 : Nat) (Z0 : n0 ≤ h0.size) :
    MetFree l (⟨"java/lang/StringLatin1", "toBytes", "(C)[B"⟩ : MethodName) (head1 (Jvm.Cond.code (⟨"java/lang/StringLatin1", "toBytes", "(C)[B"⟩ : MethodName) jdk_43_method_46_code 1 (some (.array .byte)) :: ws) ({ frames := 0, cells := 1, slots := 1, locals := 0 } : Room)) (fun aR U => aR = #[(.int cc)] ∧ Z.Warmed39 U.vm ∧ U.heap = h0) (fun _ _ _ _ _ => True) (fun _ U o U' => ∃ v L, o = .returned v ∧ Q_toB Z cc h0 n0 v U'.heap L ∧ FrameEnd U o U' L ({ frames := 0, cells := 1, slots := 1, locals := 0 } : Room).cells ({ frames := 0, cells := 1, slots := 1, locals := 0 } : Room).slots) := by
  refine MetFree.of_bodySF (plainFor_of_name pn_1) hisR ?_
  intro p e s m args below meth c s₁ Bd hml0 hP hK
  obtain ⟨rfl, hZ, hh⟩ := hP
  have hx := Bd.exec
  have hby := Bd.bytes
  have hml : c.maxLocals = 1 := hml0
  have hown : s.vm.findClass "java/lang/StringLatin1" = some m.cls := findClass_of_methodNamed Bd.named
  have hnm := (name_of_methodNamed Bd.named Bd.method).1
  have X0 : Stand p l e ({ frames := 0, cells := 1, slots := 1, locals := 0 } : Room) s m #[(.int cc)] below meth c s₁ [] 0 0 := Stand.of_body Bd
  have e0 : s₁.heap = h0 := by rw [← hh, Bd.state]; rfl
  have N0 := Fr.nil n0
  show Goes p.tables e below _ _
  rw [ef_toB m cc]
  refine Goes.named ?_
  intro QQ hQQ
  refine Goes.st (fun t k => XS.iconst X0.here hx rfl (hb hby d15_0) k) ?_
  show Goes _ _ _ _ (s₁.setTop (mkF m 1 #[.val (.int cc)] [(.int (1 : Int32))]))
  obtain ⟨T1, h1, k1, X1, e1, E1, A1, st1⟩ := newP X0 hx hZ (aty := .byte) (hw23 hw) e0 (g := (mkF m 1 #[.val (.int cc)] [(.int (1 : Int32))])) rfl (hb hby d15_1) rfl (by decide) (cap := 1) (by decide) (by decide) (by decide) (by decide)
  obtain ⟨b1, g1⟩ : ∃ z, z = h0.size := ⟨_, rfl⟩
  rw [← g1] at A1 st1
  have V1 : Arv Z h1 b1 k1 .byte (1 : Int32) [(.int (0 : Int32))] (.int (0 : Int32)) := (Arv.new A1 (by decide)).pad (pad_rep [] (.int (0 : Int32)) 1)
  refine Goes.st st1 ?_
  show Goes _ _ _ _ (T1.setTop (mkF m 3 #[.val (.int cc)] [(.ref b1)]))
  refine Goes.st (fun t k => XS.dup X1.here hx rfl (hb hby d15_3) rfl rfl k) ?_
  show Goes _ _ _ _ (T1.setTop (mkF m 4 #[.val (.int cc)] [(.ref b1), (.ref b1)]))
  refine Goes.st (fun t k => XS.iconst X1.here hx rfl (hb hby d15_4) k) ?_
  show Goes _ _ _ _ (T1.setTop (mkF m 5 #[.val (.int cc)] [(.int (0 : Int32)), (.ref b1), (.ref b1)]))
  refine Goes.st (fun t k => XS.iloadN X1.here hx rfl (hb hby d15_5) rfl k) ?_
  show Goes _ _ _ _ (T1.setTop (mkF m 6 #[.val (.int cc)] [(.int cc), (.int (0 : Int32)), (.ref b1), (.ref b1)]))
  refine Goes.st (fun t k => XS.i2b X1.here hx rfl (hb hby d15_6) rfl k) ?_
  show Goes _ _ _ _ (T1.setTop (mkF m 7 #[.val (.int cc)] [(.int (cc.toInt8.toInt32)), (.int (0 : Int32)), (.ref b1), (.ref b1)]))
  obtain ⟨oc2, oA2, oq2, oS2, oM2, oH2, oG2⟩ := id V1
  obtain ⟨T3, h3, X3, e3, W3, st3⟩ := stB X1 hx hZ e1 oA2 (j := (0 : Int32)) (inb_of oS2 ⟨by decide, by decide⟩) (g := (mkF m 7 #[.val (.int cc)] [(.int (cc.toInt8.toInt32)), (.int (0 : Int32)), (.ref b1), (.ref b1)])) rfl rfl (hb hby d15_7)
  rw [own_narb] at W3
  have V3 : Arv Z h3 b1 k1 .byte (1 : Int32) [(.int (cc.toInt8.toInt32))] (.int (0 : Int32)) := Arv.set oA2 oq2 oS2 oM2 oH2 oG2 (own_fitsb _) W3 0 rfl (Nat.le_of_ble_eq_true rfl)
  have N3 := Fr.snoc X3 N0 (Nat.le_trans Z0 (Nat.le_of_eq g1.symm))
  refine Goes.st st3 ?_
  show Goes _ _ _ _ (T3.setTop (mkF m 8 #[.val (.int cc)] [(.ref b1)]))
  have kp4 : Keep h0 h1 [] := (Keep.refl h0 []).ext E1
  have kp5 : Keep h0 h3 [] := kp4.wr W3 (Or.inr (Nat.le_of_eq g1.symm))
  obtain ⟨fs, hr, hrun, hended, hW, hsame⟩ := X3.leave (v := some (.ref b1)) (fun h => by rw [Bd.returns] at h; cases h)
  subst hQQ
  refine ⟨_, _, retR X3 hx Bd.returns rfl rfl (hb hby d15_8) hr, hrun, hended, _, _, rfl, ?_, ⟨_, rfl⟩, hW, hsame.mono (by decide) (by decide)⟩
  show Q_toB Z cc h0 n0 _ T3.heap _
  rw [e3]
  exact ⟨b1, k1, rfl, N3, kp5, V3, (Nat.le_of_eq g1.symm)⟩
theorem ef_sBB (m : MethodId) (a : Addr) (t : Addr) : entryFrame m #[(.ref a), (.ref t), (.int (0 : Int32))] 3 = (mkF m 0 #[.val (.ref a), .val (.ref t), .val (.int (0 : Int32))] []) := by first | (simp [entryFrame, mkF, argsToLocals, Value.category]; done) | rfl
def Q_sBB (Z : State) (a : Addr) (t : Addr) (h0 : Heap) (n0 : Nat) (v : Option Value) (h : Heap) (L : List Loc) : Prop := v = none ∧ Fr n0 L ∧ Keep h0 h [a] ∧ Exa Z h a "java/lang/String" ∧ Fld Z h a "java/lang/String" "value" "[B" (.ref t) ∧ Fld Z h a "java/lang/String" "coder" "B" (.int (0 : Int32))
set_option maxRecDepth 65536 in
set_option maxHeartbeats 40000000 in
theorem rm_sBB (l : Launch) (Z : State) (a0 : Array Value) (hw : ∀ d ∈ tables_1, d.before a0 Z = true) (ws : List Jvm.Cond) (a : Addr) (t : Addr) (h0 : Heap) (n0 : Nat) (Z0 : n0 ≤ h0.size) (P0 : Exa Z h0 a "java/lang/String") (P1 : Fld Z h0 a "java/lang/String" "value" "[B" .null) (P2 : Fld Z h0 a "java/lang/String" "coder" "B" (.int (0 : Int32))) (g_a : n0 ≤ a) :
    MetFree l (⟨"java/lang/String", "<init>", "([BB)V"⟩ : MethodName) (head1 (Jvm.Cond.code (⟨"java/lang/String", "<init>", "([BB)V"⟩ : MethodName) jdk_42_method_151_code 3 none :: ws) ({ frames := 1, cells := 0, slots := 0, locals := 12 } : Room)) (fun aR U => aR = #[(.ref a), (.ref t), (.int (0 : Int32))] ∧ Z.Warmed39 U.vm ∧ U.heap = h0) (fun _ _ _ _ _ => True) (fun _ U o U' => ∃ v L, o = .returned v ∧ Q_sBB Z a t h0 n0 v U'.heap L ∧ FrameEnd U o U' L ({ frames := 1, cells := 0, slots := 0, locals := 12 } : Room).cells ({ frames := 1, cells := 0, slots := 0, locals := 12 } : Room).slots) := by
  refine MetFree.of_bodySF (plainFor_of_name pn_0) hisR ?_
  intro p e s m args below meth c s₁ Bd hml0 hP hK
  obtain ⟨rfl, hZ, hh⟩ := hP
  have hx := Bd.exec
  have hby := Bd.bytes
  have hml : c.maxLocals = 3 := hml0
  have hown : s.vm.findClass "java/lang/String" = some m.cls := findClass_of_methodNamed Bd.named
  have hnm := (name_of_methodNamed Bd.named Bd.method).1
  have X0 : Stand p l e ({ frames := 1, cells := 0, slots := 0, locals := 12 } : Room) s m #[(.ref a), (.ref t), (.int (0 : Int32))] below meth c s₁ [] 0 0 := Stand.of_body Bd
  have e0 : s₁.heap = h0 := by rw [← hh, Bd.state]; rfl
  have N0 := Fr.nil n0
  show Goes p.tables e below _ _
  rw [ef_sBB m a t]
  refine Goes.named ?_
  intro QQ hQQ
  refine Goes.st (fun t k => XS.aloadN X0.here hx rfl (hb hby d16_0) rfl rfl k) ?_
  show Goes _ _ _ _ (s₁.setTop (mkF m 1 #[.val (.ref a), .val (.ref t), .val (.int (0 : Int32))] [(.ref a)]))
  obtain ⟨T1, X1, e1, st1⟩ := initO X0 hx hZ hown (hw15 hw) (hw16 hw) (hw17 hw) e0 (g := (mkF m 1 #[.val (.ref a), .val (.ref t), .val (.int (0 : Int32))] [(.ref a)])) rfl (by rw [hml]; rfl) rfl (hb hby d16_1) (by decide) (W := 0) (by show 2 * 0 + _ ≤ _; exact Nat.le_of_eq rfl) (by decide)
  refine Goes.st st1 ?_
  show Goes _ _ _ _ (T1.setTop (mkF m 4 #[.val (.ref a), .val (.ref t), .val (.int (0 : Int32))] []))
  refine Goes.st (fun t k => XS.aloadN X1.here hx rfl (hb hby d16_4) rfl rfl k) ?_
  show Goes _ _ _ _ (T1.setTop (mkF m 5 #[.val (.ref a), .val (.ref t), .val (.int (0 : Int32))] [(.ref a)]))
  refine Goes.st (fun t k => XS.aloadN X1.here hx rfl (hb hby d16_5) rfl rfl k) ?_
  show Goes _ _ _ _ (T1.setTop (mkF m 6 #[.val (.ref a), .val (.ref t), .val (.int (0 : Int32))] [(.ref t), (.ref a)]))
  obtain ⟨T2, h2, X2, e2, W2, st2⟩ := putF X1 hx hZ hown (host := "") (Or.inl (hw32 hw)) Via.refl e1 P1 P0 (Or.inr ⟨(hw33 hw), rfl, hnm⟩) (hw5 hw) (ty := (.array .byte)) (by decide) rfl rfl (g := (mkF m 6 #[.val (.ref a), .val (.ref t), .val (.int (0 : Int32))] [(.ref t), (.ref a)])) rfl rfl (hb hby d16_6)
  have N2 := Fr.snoc X2 N0 g_a
  have F2 := P1.same W2
  refine Goes.st st2 ?_
  show Goes _ _ _ _ (T2.setTop (mkF m 9 #[.val (.ref a), .val (.ref t), .val (.int (0 : Int32))] []))
  refine Goes.st (fun t k => XS.aloadN X2.here hx rfl (hb hby d16_9) rfl rfl k) ?_
  show Goes _ _ _ _ (T2.setTop (mkF m 10 #[.val (.ref a), .val (.ref t), .val (.int (0 : Int32))] [(.ref a)]))
  refine Goes.st (fun t k => XS.iloadN X2.here hx rfl (hb hby d16_10) rfl k) ?_
  show Goes _ _ _ _ (T2.setTop (mkF m 11 #[.val (.ref a), .val (.ref t), .val (.int (0 : Int32))] [(.int (0 : Int32)), (.ref a)]))
  have f3 : Exa Z h2 a "java/lang/String" := (P0.wr W2)
  have f4 : Fld Z h2 a "java/lang/String" "coder" "B" (.int (0 : Int32)) := (P2.other W2 (Or.inr (slot_ne (Or.inr (hw31 hw)) (Or.inr (hw33 hw)) (by decide) (t := .byte) (t' := (.array .byte)) (by decide) (by decide))))
  obtain ⟨T5, h5, X5, e5, W5, st5⟩ := putFN X2 hx hZ hown (hw30 hw) Via.refl e2 f4 f3 (Or.inr ⟨(hw31 hw), rfl, hnm⟩) (hw5 hw) (ty := .byte) (v' := (.int (0 : Int32))) (by decide) rfl (by decide) (g := (mkF m 11 #[.val (.ref a), .val (.ref t), .val (.int (0 : Int32))] [(.int (0 : Int32)), (.ref a)])) rfl rfl (hb hby d16_11)
  have N5 := Fr.snoc X5 N2 g_a
  have F5 := f4.same W5
  refine Goes.st st5 ?_
  show Goes _ _ _ _ (T5.setTop (mkF m 14 #[.val (.ref a), .val (.ref t), .val (.int (0 : Int32))] []))
  have kp6 : Keep h0 h2 [a] := (Keep.refl h0 [a]).wr W2 (Or.inl (List.mem_of_getElem? (i := 0) rfl))
  have kp7 : Keep h0 h5 [a] := kp6.wr W5 (Or.inl (List.mem_of_getElem? (i := 0) rfl))
  have f8 : Exa Z h5 a "java/lang/String" := (f3.wr W5)
  have f9 : Fld Z h5 a "java/lang/String" "value" "[B" (.ref t) := (F2.other W5 (Or.inr (slot_ne (Or.inr (hw33 hw)) (Or.inr (hw31 hw)) (by decide) (t := (.array .byte)) (t' := .byte) (by decide) (by decide))))
  obtain ⟨fs, hr, hrun, hended, hW, hsame⟩ := X5.leave (v := none) (fun _ => rfl)
  subst hQQ
  refine ⟨_, _, X5.returnOut hx Bd.returns (hb hby d16_14) hr, hrun, hended, _, _, rfl, ?_, ⟨_, rfl⟩, hW, hsame.mono (by decide) (by decide)⟩
  show Q_sBB Z a t h0 n0 _ T5.heap _
  rw [e5]
  exact ⟨rfl, N5, kp7, f8, f9, F5⟩
theorem ef_valC (m : MethodId) (cc : Int32) (G1 : Int32) : entryFrame m #[(.int cc)] 1 = (mkF m 0 #[.val (.int cc)] []) := by first | (simp [entryFrame, mkF, argsToLocals, Value.category]; done) | rfl
def Q_valC (Z : State) (cc : Int32) (G1 : Int32) (h0 : Heap) (n0 : Nat) (v : Option Value) (h : Heap) (L : List Loc) : Prop := ∃ (r : Addr) (t : Addr) (kb : ClassId), v = some (.ref r) ∧ Fr n0 L ∧ Keep h0 h [] ∧ Str Z h r t kb [cc] ∧ h0.size ≤ r ∧ h0.size ≤ t ∧ r ≠ t
set_option maxRecDepth 65536 in
set_option maxHeartbeats 40000000 in
theorem rm_valC (l : Launch) (Z : State) (a0 : Array Value) (hw : ∀ d ∈ tables_1, d.before a0 Z = true) (ws : List Jvm.Cond) (cc : Int32) (G1 : Int32) (h0 : Heap) (n0 : Nat) (Z0 : n0 ≤ h0.size) (P0 : Old Z n0 h0) (rg_cc : ¬ cc < 0 ∧ ¬ (255 : Int32) < cc) (O2 : Sta Z Z.heap "java/lang/String" "COMPACT_STRINGS" "Z" (.int G1)) (P5 : ¬ (G1 = (0 : Int32))) :
    MetFree l (⟨"java/lang/String", "valueOf", "(C)Ljava/lang/String;"⟩ : MethodName) (head1 (Jvm.Cond.code (⟨"java/lang/String", "valueOf", "(C)Ljava/lang/String;"⟩ : MethodName) jdk_42_method_139_code 1 (some (.object "java/lang/String")) :: ws) ({ frames := 2, cells := 2, slots := 5, locals := 27 } : Room)) (fun aR U => aR = #[(.int cc)] ∧ Z.Warmed39 U.vm ∧ U.heap = h0) (fun _ _ _ _ _ => True) (fun _ U o U' => ∃ v L, o = .returned v ∧ Q_valC Z cc G1 h0 n0 v U'.heap L ∧ FrameEnd U o U' L ({ frames := 2, cells := 2, slots := 5, locals := 27 } : Room).cells ({ frames := 2, cells := 2, slots := 5, locals := 27 } : Room).slots) := by
  refine MetFree.of_bodySF (plainFor_of_name pn_0) hisR ?_
  intro p e s m args below meth c s₁ Bd hml0 hP hK
  obtain ⟨rfl, hZ, hh⟩ := hP
  have hx := Bd.exec
  have hby := Bd.bytes
  have hml : c.maxLocals = 1 := hml0
  have hown : s.vm.findClass "java/lang/String" = some m.cls := findClass_of_methodNamed Bd.named
  have hnm := (name_of_methodNamed Bd.named Bd.method).1
  have X0 : Stand p l e ({ frames := 2, cells := 2, slots := 5, locals := 27 } : Room) s m #[(.int cc)] below meth c s₁ [] 0 0 := Stand.of_body Bd
  have e0 : s₁.heap = h0 := by rw [← hh, Bd.state]; rfl
  have N0 := Fr.nil n0
  show Goes p.tables e below _ _
  rw [ef_valC m cc G1]
  refine Goes.named ?_
  intro QQ hQQ
  obtain ⟨T1, X1, e1, st1⟩ := getS2 X0 hx hZ hown (host := "") (Or.inl (hw18 hw)) Via.refl e0 (O2.ext P0.2) (g := (mkF m 0 #[.val (.int cc)] [])) rfl (hb hby d13_0)
  refine Goes.st st1 ?_
  show Goes _ _ _ _ (T1.setTop (mkF m 3 #[.val (.int cc)] [(.int G1)]))
  refine Goes.st (fun t k => XS.ifNo X1.here hx rfl (hb hby d13_3) rfl ((if0 _ _).trans (feq P5).1) k) ?_
  show Goes _ _ _ _ (T1.setTop (mkF m 6 #[.val (.int cc)] []))
  refine Goes.st (fun t k => XS.iloadN X1.here hx rfl (hb hby d13_6) rfl k) ?_
  show Goes _ _ _ _ (T1.setTop (mkF m 7 #[.val (.int cc)] [(.int cc)]))
  obtain ⟨_, _, ⟨T2, L2, k2, n2⟩, -, X2, ⟨Lc2, hQ2, l2, y2, z2⟩, st2⟩ := Jvm.LawKit.callS X1 hx (y := (⟨"java/lang/StringLatin1", "canEncode", "(C)Z"⟩ : MethodName)) hown (mvT hZ (hw77 hw)) (mvT hZ (hw78 hw)) (mvT hZ (hw72 hw)) (mvT hZ (hw79 hw)) (by decide) (backOf (W := 0) (rm_canE l Z a0 hw [] cc h0 n0 Z0 rg_cc) hZ (hw79 hw) (hw72 hw) (by decide) (by decide)) (g := (mkF m 7 #[.val (.int cc)] [(.int cc)])) rfl (by rw [hml]; rfl) (argsL := [(.int cc)]) (rest := []) (lenOf pd_1 rfl) rfl (by show 2 * 0 + _ ≤ _; exact Nat.le_of_eq rfl) (hb hby d13_7) (fun _ _ => ⟨rfl, e1, (by decide : 0 + 0 ≤ _), (by decide : 0 + 0 ≤ _)⟩)
  dsimp only [Pt.U, Pt.locs, Pt.cells, Pt.slots] at X2 l2 y2 z2 st2 hQ2
  subst l2 y2 z2
  obtain ⟨rfl, N2q, K2⟩ := hQ2
  have N2 := Fr.app N0 N2q
  refine Goes.st st2 ?_
  show Goes _ _ _ _ (T2.setTop (mkF m 10 #[.val (.int cc)] [(.int (1 : Int32))]))
  refine Goes.st (fun t k => XS.ifNo X2.here hx rfl (hb hby d13_10) rfl ((if0 _ _).trans (feq (by decide : ¬ ((1 : Int32) = (0 : Int32)))).1) k) ?_
  show Goes _ _ _ _ (T2.setTop (mkF m 13 #[.val (.int cc)] []))
  obtain ⟨T3, h3, X3, e3, E3, A3, D3, -, st3⟩ := newO X2 hx hZ hown (hw69 hw) (hw5 hw) (hw6 hw) K2 (g := (mkF m 13 #[.val (.int cc)] [])) rfl (hb hby d13_13) (by decide) (by decide)
  obtain ⟨b3, g3⟩ : ∃ z, z = h0.size := ⟨_, rfl⟩
  rw [← g3] at A3 D3 st3
  have F3_coder : Fld Z h3 b3 "java/lang/String" "coder" "B" (.int (0 : Int32)) := D3 (Or.inr (hw31 hw)) (ty := .byte) (by decide)
  have F3_value : Fld Z h3 b3 "java/lang/String" "value" "[B" .null := D3 (Or.inr (hw33 hw)) (ty := (.array .byte)) (by decide)
  refine Goes.st st3 ?_
  show Goes _ _ _ _ (T3.setTop (mkF m 16 #[.val (.int cc)] [(.ref b3)]))
  refine Goes.st (fun t k => XS.dup X3.here hx rfl (hb hby d13_16) rfl rfl k) ?_
  show Goes _ _ _ _ (T3.setTop (mkF m 17 #[.val (.int cc)] [(.ref b3), (.ref b3)]))
  refine Goes.st (fun t k => XS.iloadN X3.here hx rfl (hb hby d13_17) rfl k) ?_
  show Goes _ _ _ _ (T3.setTop (mkF m 18 #[.val (.int cc)] [(.int cc), (.ref b3), (.ref b3)]))
  obtain ⟨_, _, ⟨T4, L4, k4, n4⟩, -, X4, ⟨Lc4, hQ4, l4, y4, z4⟩, st4⟩ := Jvm.LawKit.callS X3 hx (y := (⟨"java/lang/StringLatin1", "toBytes", "(C)[B"⟩ : MethodName)) hown (mvT hZ (hw80 hw)) (mvT hZ (hw81 hw)) (mvT hZ (hw72 hw)) (mvT hZ (hw82 hw)) (by decide) (backOf (W := 2) (rm_toB l Z a0 hw [] cc h3 n0 (Nat.le_trans Z0 E3.1) ) hZ (hw82 hw) (hw72 hw) (by decide) (by decide)) (g := (mkF m 18 #[.val (.int cc)] [(.int cc), (.ref b3), (.ref b3)])) rfl (by rw [hml]; rfl) (argsL := [(.int cc)]) (rest := [(.ref b3), (.ref b3)]) (lenOf pd_2 rfl) rfl (by show 2 * 0 + _ ≤ _; exact Nat.le_of_eq rfl) (hb hby d13_18) (fun _ _ => ⟨rfl, e3, (by decide : 1 + 1 ≤ _), (by decide : 4 + 1 ≤ _)⟩)
  dsimp only [Pt.U, Pt.locs, Pt.cells, Pt.slots] at X4 l4 y4 z4 st4 hQ4
  subst l4 y4 z4
  obtain ⟨t4, kb4, rfl, N4q, K4, F4_0, lo4_0⟩ := hQ4
  have N4 := Fr.app N2 N4q
  refine Goes.st st4 ?_
  show Goes _ _ _ _ (T4.setTop (mkF m 21 #[.val (.int cc)] [(.ref t4), (.ref b3), (.ref b3)]))
  refine Goes.st (fun t k => XS.iconst X4.here hx rfl (hb hby d13_21) k) ?_
  show Goes _ _ _ _ (T4.setTop (mkF m 22 #[.val (.int cc)] [(.int (0 : Int32)), (.ref t4), (.ref b3), (.ref b3)]))
  have f6 : Exa Z T4.heap b3 "java/lang/String" := (A3.keep K4)
  have f7 : Fld Z T4.heap b3 "java/lang/String" "value" "[B" .null := (F3_value.keep K4 nin0)
  have f8 : Fld Z T4.heap b3 "java/lang/String" "coder" "B" (.int (0 : Int32)) := (F3_coder.keep K4 nin0)
  obtain ⟨_, _, ⟨T5, L5, k5, n5⟩, -, X5, ⟨Lc5, hQ5, l5, y5, z5⟩, st5⟩ := X4.specialBack hx (y := (⟨"java/lang/String", "<init>", "([BB)V"⟩ : MethodName)) rfl hown (mvT hZ (hw83 hw)) (mvT hZ (hw84 hw)) (mvT hZ (hw85 hw)) (by decide) (backOf (W := 1) (rm_sBB l Z a0 hw [] b3 t4 T4.heap n0 (Nat.le_trans Z0 (Nat.le_trans E3.1 K4.1)) f6 f7 f8 (Nat.le_trans Z0 (Nat.le_of_eq g3.symm))) hZ (hw85 hw) (hw6 hw) (by decide) (by decide)) (g := (mkF m 22 #[.val (.int cc)] [(.int (0 : Int32)), (.ref t4), (.ref b3), (.ref b3)])) rfl (by rw [hml]; rfl) (Steps.refl _) (a := b3) (argsL := [(.ref t4), (.int (0 : Int32))]) (rest := [(.ref b3)]) (lenOf pd_3 rfl) rfl (by show 2 * 0 + _ ≤ _; exact Nat.le_of_eq rfl) (hb hby d13_22) (fun _ _ => ⟨rfl, rfl, (by decide : 2 + 0 ≤ _), (by decide : 5 + 0 ≤ _)⟩)
  dsimp only [Pt.U, Pt.locs, Pt.cells, Pt.slots] at X5 l5 y5 z5 st5 hQ5
  subst l5 y5 z5
  obtain ⟨rfl, N5q, K5, F5_0, F5_1, F5_2⟩ := hQ5
  have N5 := Fr.app N4 N5q
  refine Goes.tr st5 ?_
  show Goes _ _ _ _ (T5.setTop (mkF m 25 #[.val (.int cc)] [(.ref b3)]))
  have f10 : Arv Z T5.heap t4 kb4 .byte (1 : Int32) [(.int (cc.toInt8.toInt32))] (.int (0 : Int32)) := (F4_0.keep K5 (ninS (Ne.symm (Nat.ne_of_lt (Nat.lt_of_lt_of_le A3.lt lo4_0))) nin0))
  have S9 : Str Z T5.heap b3 t4 kb4 [cc] := ⟨F5_0, F5_1, F5_2, f10, own_cS rg_cc own_c0, Nat.le_of_ble_eq_true rfl⟩
  have kp11 : Keep h0 h3 [] := (Keep.refl h0 []).ext E3
  have kp12 : Keep h0 T4.heap [] := kp11.trans K4 all0
  have kp13 : Keep h0 T5.heap [] := kp12.trans K5 (allS (Or.inr (Nat.le_of_eq g3.symm)) all0)
  obtain ⟨fs, hr, hrun, hended, hW, hsame⟩ := X5.leave (v := some (.ref b3)) (fun h => by rw [Bd.returns] at h; cases h)
  subst hQQ
  refine ⟨_, _, retR X5 hx Bd.returns rfl rfl (hb hby d13_25) hr, hrun, hended, _, _, rfl, ?_, ⟨_, rfl⟩, hW, hsame.mono (by decide) (by decide)⟩
  show Q_valC Z cc G1 h0 n0 _ T5.heap _
  exact ⟨b3, t4, kb4, rfl, N5, kp13, S9, (Nat.le_of_eq g3.symm), (Nat.le_trans E3.1 lo4_0), (Nat.ne_of_lt (Nat.lt_of_lt_of_le A3.lt lo4_0))⟩
theorem ef_rec (m : MethodId) (a : Addr) : entryFrame m #[(.ref a)] 1 = (mkF m 0 #[.val (.ref a)] []) := by first | (simp [entryFrame, mkF, argsToLocals, Value.category]; done) | rfl
def Q_rec (Z : State) (a : Addr) (h0 : Heap) (n0 : Nat) (v : Option Value) (h : Heap) (L : List Loc) : Prop := v = none ∧ Fr n0 L ∧ h = h0
set_option maxRecDepth 65536 in
set_option maxHeartbeats 40000000 in
theorem rm_rec (l : Launch) (Z : State) (a0 : Array Value) (hw : ∀ d ∈ tables_1, d.before a0 Z = true) (ws : List Jvm.Cond) (a : Addr) (h0 : Heap) (n0 : Nat) (Z0 : n0 ≤ h0.size) :
    MetFree l (⟨"java/lang/Record", "<init>", "()V"⟩ : MethodName) (head1 (Jvm.Cond.code (⟨"java/lang/Record", "<init>", "()V"⟩ : MethodName) jdk_30_method_1_code 1 none :: ws) ({ frames := 1, cells := 0, slots := 0, locals := 12 } : Room)) (fun aR U => aR = #[(.ref a)] ∧ Z.Warmed39 U.vm ∧ U.heap = h0) (fun _ _ _ _ _ => True) (fun _ U o U' => ∃ v L, o = .returned v ∧ Q_rec Z a h0 n0 v U'.heap L ∧ FrameEnd U o U' L ({ frames := 1, cells := 0, slots := 0, locals := 12 } : Room).cells ({ frames := 1, cells := 0, slots := 0, locals := 12 } : Room).slots) := by
  refine MetFree.of_bodySF (plainFor_of_name pn_2) hisR ?_
  intro p e s m args below meth c s₁ Bd hml0 hP hK
  obtain ⟨rfl, hZ, hh⟩ := hP
  have hx := Bd.exec
  have hby := Bd.bytes
  have hml : c.maxLocals = 1 := hml0
  have hown : s.vm.findClass "java/lang/Record" = some m.cls := findClass_of_methodNamed Bd.named
  have hnm := (name_of_methodNamed Bd.named Bd.method).1
  have X0 : Stand p l e ({ frames := 1, cells := 0, slots := 0, locals := 12 } : Room) s m #[(.ref a)] below meth c s₁ [] 0 0 := Stand.of_body Bd
  have e0 : s₁.heap = h0 := by rw [← hh, Bd.state]; rfl
  have N0 := Fr.nil n0
  show Goes p.tables e below _ _
  rw [ef_rec m a]
  refine Goes.named ?_
  intro QQ hQQ
  refine Goes.st (fun t k => XS.aloadN X0.here hx rfl (hb hby d9_0) rfl rfl k) ?_
  show Goes _ _ _ _ (s₁.setTop (mkF m 1 #[.val (.ref a)] [(.ref a)]))
  obtain ⟨T1, X1, e1, st1⟩ := initO X0 hx hZ hown (hw48 hw) (hw16 hw) (hw17 hw) e0 (g := (mkF m 1 #[.val (.ref a)] [(.ref a)])) rfl (by rw [hml]; rfl) rfl (hb hby d9_1) (by decide) (W := 0) (by show 2 * 0 + _ ≤ _; exact Nat.le_of_eq rfl) (by decide)
  refine Goes.st st1 ?_
  show Goes _ _ _ _ (T1.setTop (mkF m 4 #[.val (.ref a)] []))
  obtain ⟨fs, hr, hrun, hended, hW, hsame⟩ := X1.leave (v := none) (fun _ => rfl)
  subst hQQ
  refine ⟨_, _, X1.returnOut hx Bd.returns (hb hby d9_4) hr, hrun, hended, _, _, rfl, ?_, ⟨_, rfl⟩, hW, hsame.mono (by decide) (by decide)⟩
  show Q_rec Z a h0 n0 _ T1.heap _
  rw [e1]
  exact ⟨rfl, N0, rfl⟩
theorem ef_eqnull (m : MethodId) (a : Addr) : entryFrame m #[(.ref a), .null] 3 = (mkF m 0 #[.val (.ref a), .val .null, .unset] []) := by first | (simp [entryFrame, mkF, argsToLocals, Value.category]; done) | rfl
def Q_eqnull (Z : State) (a : Addr) (h0 : Heap) (n0 : Nat) (v : Option Value) (h : Heap) (L : List Loc) : Prop := v = some (.int (0 : Int32)) ∧ Fr n0 L ∧ h = h0
set_option maxRecDepth 65536 in
set_option maxHeartbeats 40000000 in
theorem rm_eqnull (l : Launch) (Z : State) (a0 : Array Value) (hw : ∀ d ∈ tables_1, d.before a0 Z = true) (ws : List Jvm.Cond) (a : Addr) (h0 : Heap) (n0 : Nat) (Z0 : n0 ≤ h0.size) :
    MetFree l (⟨"java/lang/String", "equals", "(Ljava/lang/Object;)Z"⟩ : MethodName) (head1 (Jvm.Cond.code (⟨"java/lang/String", "equals", "(Ljava/lang/Object;)Z"⟩ : MethodName) jdk_42_method_66_code 3 (some .boolean) :: ws) ({ frames := 0, cells := 0, slots := 0, locals := 0 } : Room)) (fun aR U => aR = #[(.ref a), .null] ∧ Z.Warmed39 U.vm ∧ U.heap = h0) (fun _ _ _ _ _ => True) (fun _ U o U' => ∃ v L, o = .returned v ∧ Q_eqnull Z a h0 n0 v U'.heap L ∧ FrameEnd U o U' L ({ frames := 0, cells := 0, slots := 0, locals := 0 } : Room).cells ({ frames := 0, cells := 0, slots := 0, locals := 0 } : Room).slots) := by
  refine MetFree.of_bodySF (plainFor_of_name pn_0) hisR ?_
  intro p e s m args below meth c s₁ Bd hml0 hP hK
  obtain ⟨rfl, hZ, hh⟩ := hP
  have hx := Bd.exec
  have hby := Bd.bytes
  have hml : c.maxLocals = 3 := hml0
  have hown : s.vm.findClass "java/lang/String" = some m.cls := findClass_of_methodNamed Bd.named
  have hnm := (name_of_methodNamed Bd.named Bd.method).1
  have X0 : Stand p l e ({ frames := 0, cells := 0, slots := 0, locals := 0 } : Room) s m #[(.ref a), .null] below meth c s₁ [] 0 0 := Stand.of_body Bd
  have e0 : s₁.heap = h0 := by rw [← hh, Bd.state]; rfl
  have N0 := Fr.nil n0
  show Goes p.tables e below _ _
  rw [ef_eqnull m a]
  refine Goes.named ?_
  intro QQ hQQ
  refine Goes.st (fun t k => XS.aloadN X0.here hx rfl (hb hby d11_0) rfl rfl k) ?_
  show Goes _ _ _ _ (s₁.setTop (mkF m 1 #[.val (.ref a), .val .null, .unset] [(.ref a)]))
  refine Goes.st (fun t k => XS.aloadN X0.here hx rfl (hb hby d11_1) rfl rfl k) ?_
  show Goes _ _ _ _ (s₁.setTop (mkF m 2 #[.val (.ref a), .val .null, .unset] [.null, (.ref a)]))
  refine Goes.st (fun t k => Jvm.RoadKit.acmp (g := (mkF m 2 #[.val (.ref a), .val .null, .unset] [.null, (.ref a)])) X0 hx rfl rfl rfl (pc0 := 2) (pc' := 7) (same := false) rfl (hb hby d11_2) rfl (decide_eq_false nofun) (by decide) (by decide) k) ?_
  show Goes _ _ _ _ (s₁.setTop (mkF m 7 #[.val (.ref a), .val .null, .unset] []))
  refine Goes.st (fun t k => XS.aloadN X0.here hx rfl (hb hby d11_7) rfl rfl k) ?_
  show Goes _ _ _ _ (s₁.setTop (mkF m 8 #[.val (.ref a), .val .null, .unset] [.null]))
  refine Goes.st (fun t k => X0.instanceofNull hx (g := (mkF m 8 #[.val (.ref a), .val .null, .unset] [.null])) rfl rfl (hb hby d11_8) _ k) ?_
  show Goes _ _ _ _ (s₁.setTop (mkF m 11 #[.val (.ref a), .val .null, .unset] [(.int (0 : Int32))]))
  refine Goes.st (fun t k => XS.ifYes X0.here hx rfl (pc0 := 11) (pc' := 54) rfl (hb hby d11_11) rfl ((if0 _ _).trans (teq (by decide : (0 : Int32) = (0 : Int32))).1) (by decide) (by decide) k) ?_
  show Goes _ _ _ _ (s₁.setTop (mkF m 54 #[.val (.ref a), .val .null, .unset] []))
  refine Goes.st (fun t k => XS.iconst X0.here hx rfl (hb hby d11_54) k) ?_
  show Goes _ _ _ _ (s₁.setTop (mkF m 55 #[.val (.ref a), .val .null, .unset] [(.int (0 : Int32))]))
  obtain ⟨fs, hr, hrun, hended, hW, hsame⟩ := X0.leave (v := some (.int (0 : Int32))) (fun h => by rw [Bd.returns] at h; cases h)
  subst hQQ
  refine ⟨_, _, retN X0 hx (t := .boolean) Bd.returns (by simp) (hb hby d11_55) hr, hrun, hended, _, _, rfl, ?_, ⟨_, rfl⟩, hW, hsame.mono (by decide) (by decide)⟩
  show Q_eqnull Z a h0 n0 _ s₁.heap _
  rw [e0]
  exact ⟨rfl, N0, rfl⟩
theorem ef_make (m : MethodId) (p0 : Int32) (c1 : Int32) (c2 : Int32) (G1 : Int32) : entryFrame m #[(.int p0), (.int c1), (.int c2)] 3 = (mkF m 0 #[.val (.int p0), .val (.int c1), .val (.int c2)] []) := by first | (simp [entryFrame, mkF, argsToLocals, Value.category]; done) | rfl
def Q_make (Z : State) (p0 : Int32) (c1 : Int32) (c2 : Int32) (G1 : Int32) (h0 : Heap) (n0 : Nat) (v : Option Value) (h : Heap) (L : List Loc) : Prop := ∃ (r : Addr) (t : Addr) (kb : ClassId), v = some (.ref r) ∧ Fr n0 L ∧ Keep h0 h [] ∧ Str Z h r t kb (own_mk p0 c1 c2) ∧ h0.size ≤ r ∧ r ≠ t
set_option maxRecDepth 65536 in
set_option maxHeartbeats 40000000 in
theorem rm_make (l : Launch) (Z : State) (a0 : Array Value) (hw : ∀ d ∈ tables_1, d.before a0 Z = true) (ws : List Jvm.Cond) (p0 : Int32) (c1 : Int32) (c2 : Int32) (G1 : Int32) (h0 : Heap) (n0 : Nat) (Z0 : n0 ≤ h0.size) (P0 : Old Z n0 h0) (rg_c1 : ¬ c1 < 0 ∧ ¬ (255 : Int32) < c1) (rg_c2 : ¬ c2 < 0 ∧ ¬ (255 : Int32) < c2) (O2 : Sta Z Z.heap "java/lang/String" "COMPACT_STRINGS" "Z" (.int G1)) (P5 : ¬ (G1 = (0 : Int32))) :
    MetFree l (⟨"com/example/sillon/sillon/transport/PartsMainIsMessagePinLaw", "make", "(ICC)Ljava/lang/String;"⟩ : MethodName) (head1 (Jvm.Cond.code (⟨"com/example/sillon/sillon/transport/PartsMainIsMessagePinLaw", "make", "(ICC)Ljava/lang/String;"⟩ : MethodName) method_2_code 3 (some (.object "java/lang/String")) :: ws) ({ frames := 4, cells := 6, slots := 12, locals := 66 } : Room)) (fun aR U => aR = #[(.int p0), (.int c1), (.int c2)] ∧ Z.Warmed39 U.vm ∧ U.heap = h0 ∧ CHv Z EL U.vm h0 ∧ ∀ x ∈ ([] : List Addr), Safe Z EL U.vm h0 x) (fun _ _ _ _ _ => True) (fun _ U o U' => ∃ v L, o = .returned v ∧ Q_make Z p0 c1 c2 G1 h0 n0 v U'.heap L ∧ CHr Z EL U.vm U.heap U'.vm U'.heap ∧ ReturnedEndW U o U' L ({ frames := 4, cells := 6, slots := 12, locals := 66 } : Room).cells ({ frames := 4, cells := 6, slots := 12, locals := 66 } : Room).slots) := by
  refine MetFree.of_bodySF (plainFor_of_name pn_3) hisR ?_
  intro p e s m args below meth c s₁ Bd hml0 hP hK
  obtain ⟨rfl, hZ, hh, hCH, hSF⟩ := hP
  have hx := Bd.exec
  have hby := Bd.bytes
  have hml : c.maxLocals = 3 := hml0
  have hown : s.vm.findClass "com/example/sillon/sillon/transport/PartsMainIsMessagePinLaw" = some m.cls := findClass_of_methodNamed Bd.named
  have hnm := (name_of_methodNamed Bd.named Bd.method).1
  have X0 : Stand p l e ({ frames := 4, cells := 6, slots := 12, locals := 66 } : Room) (s.setVm s.vm) m #[(.int p0), (.int c1), (.int c2)] below meth c s₁ [] 0 0 := Stand.of_body Bd
  have e0 : s₁.heap = h0 := by rw [← hh, Bd.state]; rfl
  have N0 := Fr.nil n0
  show Goes p.tables e below _ _
  rw [ef_make m p0 c1 c2 G1]
  refine Goes.named ?_
  intro QQ hQQ
  have hS0 : s.Since s.vm 0 := (State.WarmedH.refl s).since 0
  have hk0 : 0 ≤ h0.size := Nat.zero_le _
  have CR0 : CHr Z EL s.vm h0 s.vm h0 := CHr.refl hCH
  refine Goes.st (fun t k => XS.iloadN X0.here hx rfl (hb hby d1_0) rfl k) ?_
  show Goes _ _ _ _ (s₁.setTop (mkF m 1 #[.val (.int p0), .val (.int c1), .val (.int c2)] [(.int p0)]))
  by_cases cz1 : p0 = (0 : Int32)
  case pos =>
    refine Goes.st (fun t k => XS.ifNo X0.here hx rfl (hb hby d1_1) rfl ((if0 _ _).trans (teq cz1).2) k) ?_
    show Goes _ _ _ _ (s₁.setTop (mkF m 4 #[.val (.int p0), .val (.int c1), .val (.int c2)] []))
    obtain ⟨T2, h2, X2, e2, E2, A2, D2, -, st2⟩ := newO X0 hx hZ hown (hw4 hw) (hw5 hw) (hw6 hw) e0 (g := (mkF m 4 #[.val (.int p0), .val (.int c1), .val (.int c2)] [])) rfl (hb hby d1_4) (by decide) (by decide)
    obtain ⟨b2, g2⟩ : ∃ z, z = h0.size := ⟨_, rfl⟩
    rw [← g2] at A2 D2 st2
    have CR3 : CHr Z EL s.vm h0 s.vm h2 := CR0.trans (CHr.ext E2 CR0.1)
    have sf2_b2 : Safe Z EL s.vm h2 b2 := Safe.ext E2 CR0.1 (Safe.new (Nat.le_of_eq g2.symm))
    have F2_coder : Fld Z h2 b2 "java/lang/String" "coder" "B" (.int (0 : Int32)) := D2 (Or.inr (hw31 hw)) (ty := .byte) (by decide)
    have F2_value : Fld Z h2 b2 "java/lang/String" "value" "[B" .null := D2 (Or.inr (hw33 hw)) (ty := (.array .byte)) (by decide)
    refine Goes.st st2 ?_
    show Goes _ _ _ _ (T2.setTop (mkF m 7 #[.val (.int p0), .val (.int c1), .val (.int c2)] [(.ref b2)]))
    refine Goes.st (fun t k => XS.dup X2.here hx rfl (hb hby d1_7) rfl rfl k) ?_
    show Goes _ _ _ _ (T2.setTop (mkF m 8 #[.val (.int p0), .val (.int c1), .val (.int c2)] [(.ref b2), (.ref b2)]))
    refine Goes.st (fun t k => XS.iconst X2.here hx rfl (hb hby d1_8) k) ?_
    show Goes _ _ _ _ (T2.setTop (mkF m 9 #[.val (.int p0), .val (.int c1), .val (.int c2)] [(.int (0 : Int32)), (.ref b2), (.ref b2)]))
    obtain ⟨T4, h4, k4, X4, e4, E4, A4, st4⟩ := newP X2 hx hZ (aty := .char) (hw7 hw) e2 (g := (mkF m 9 #[.val (.int p0), .val (.int c1), .val (.int c2)] [(.int (0 : Int32)), (.ref b2), (.ref b2)])) rfl (hb hby d1_9) rfl (by decide) (cap := 0) (by decide) (by decide) (by decide) (by decide)
    obtain ⟨b4, g4⟩ : ∃ z, z = h2.size := ⟨_, rfl⟩
    rw [← g4] at A4 st4
    have CR5 : CHr Z EL s.vm h0 s.vm h4 := CR3.trans (CHr.ext E4 CR3.1)
    have sf5_b2 : Safe Z EL s.vm h4 b2 := Safe.ext E4 CR3.1 sf2_b2
    have V4 : Arv Z h4 b4 k4 .char (0 : Int32) [] (.int (0 : Int32)) := (Arv.new A4 (by decide)).pad (pad_rep [] (.int (0 : Int32)) 0)
    refine Goes.st st4 ?_
    show Goes _ _ _ _ (T4.setTop (mkF m 11 #[.val (.int p0), .val (.int c1), .val (.int c2)] [(.ref b4), (.ref b2), (.ref b2)]))
    have f7 : Exa Z h4 b2 "java/lang/String" := (A2.ext E4)
    have f8 : Fld Z h4 b2 "java/lang/String" "value" "[B" .null := (F2_value.ext E4)
    have f9 : Fld Z h4 b2 "java/lang/String" "coder" "B" (.int (0 : Int32)) := (F2_coder.ext E4)
    have f10 : Old Z n0 h4 := ((P0.ext E2).ext E4)
    obtain ⟨_, _, ⟨T6, L6, k6, n6⟩, -, X6, hSr6, hgr6, ⟨Lc6, hQ6, l6, y6, z6, C6⟩, st6⟩ := X4.specialBackS hx (y := (⟨"java/lang/String", "<init>", "([C)V"⟩ : MethodName)) rfl hown (mvT hZ (hw8 hw)) (mvT hZ (hw9 hw)) (mvT hZ (hw10 hw)) (by decide) (own_backW (W := 1) (xs := [b2]) (rm_s1e l Z a0 hw [] b2 b4 k4 h4 n0 (Nat.le_trans Z0 (Nat.le_trans E2.1 E4.1)) f7 f8 f9 V4 (Nat.le_trans Z0 (Nat.le_of_eq g2.symm))) hZ (hw10 hw) (hw6 hw) (by decide) (by decide) (own_EW hw) CR5.1 (allS ⟨(Nat.lt_of_lt_of_le A2.lt E4.1), sf5_b2⟩ all0)) (g := (mkF m 11 #[.val (.int p0), .val (.int c1), .val (.int c2)] [(.ref b4), (.ref b2), (.ref b2)])) rfl (by rw [hml]; rfl) (Steps.refl _) (a := b2) (argsL := [(.ref b4)]) (rest := [(.ref b2)]) (lenOf pd_4 rfl) rfl (by show 2 * 0 + _ ≤ _; exact Nat.le_of_eq rfl) (hb hby d1_11) (fun _ _ => ⟨rfl, e4, (by decide : 2 + 4 ≤ _), (by decide : 4 + 8 ≤ _)⟩)
    dsimp only [Pt.U, Pt.locs, Pt.cells, Pt.slots] at X6 l6 y6 z6 st6 hQ6 hSr6 hgr6 C6
    subst l6 y6 z6
    obtain ⟨X6, hS6, hZ6, hown6⟩ := rebS hS0 (by rw [e4]; exact (Nat.le_trans (Nat.le_trans hk0 E2.1) E4.1)) X6 hSr6 hgr6 hZ hown
    obtain ⟨t6, kb6, rfl, N6q, K6, F6_0, ne6_0⟩ := hQ6
    have N6 := Fr.app N0 N6q
    have F6_0E := F6_0.1
    have CR11 : CHr Z EL s.vm h0 T6.vm T6.heap := CR5.trans (C6)
    have sf11_b2 : Safe Z EL T6.vm T6.heap b2 := C6.safe (Nat.lt_of_lt_of_le A2.lt E4.1) sf5_b2
    refine Goes.tr st6 ?_
    show Goes _ _ _ _ (T6.setTop (mkF m 14 #[.val (.int p0), .val (.int c1), .val (.int c2)] [(.ref b2)]))
    have S12 : Str Z T6.heap b2 t6 kb6 (own_mk p0 c1 c2) := by rw [own_mk0 cz1]; exact F6_0
    have kp13 : Keep h0 h2 [] := (Keep.refl h0 []).ext E2
    have kp14 : Keep h0 h4 [] := kp13.ext E4
    have kp15 : Keep h0 T6.heap [] := kp14.trans K6 (allS (Or.inr (Nat.le_of_eq g2.symm)) all0)
    obtain ⟨fs, hr, hrun, hended, hRW⟩ := X6.leaveW hS6 (Nat.le_refl _) (v := some (.ref b2)) (fun h => by rw [Bd.returns] at h; cases h)
    subst hQQ
    have hCR : CHr Z EL s.vm s.heap T6.vm T6.heap := by rw [hh]; exact CR11.trans (CHv.at X6 hZ6 (own_EW hw) CR11.1)
    refine ⟨_, _, retR X6 hx Bd.returns rfl rfl (hb hby d1_14) hr, hrun, hended, _, _, rfl, ?_, hCR, own_REmono hRW (by decide) (by decide)⟩
    show Q_make Z p0 c1 c2 G1 h0 n0 _ T6.heap _
    exact ⟨b2, t6, kb6, rfl, N6, kp15, S12, (Nat.le_of_eq g2.symm), ne6_0⟩
  case neg =>
    refine Goes.st (fun t k => XS.ifYes X0.here hx rfl (pc0 := 1) (pc' := 15) rfl (hb hby d1_1) rfl ((if0 _ _).trans (feq cz1).2) (by decide) (by decide) k) ?_
    show Goes _ _ _ _ (s₁.setTop (mkF m 15 #[.val (.int p0), .val (.int c1), .val (.int c2)] []))
    refine Goes.st (fun t k => XS.iloadN X0.here hx rfl (hb hby d1_15) rfl k) ?_
    show Goes _ _ _ _ (s₁.setTop (mkF m 16 #[.val (.int p0), .val (.int c1), .val (.int c2)] [(.int p0)]))
    refine Goes.st (fun t k => XS.iconst X0.here hx rfl (hb hby d1_16) k) ?_
    show Goes _ _ _ _ (s₁.setTop (mkF m 17 #[.val (.int p0), .val (.int c1), .val (.int c2)] [(.int (1 : Int32)), (.int p0)]))
    by_cases cz16 : p0 = (1 : Int32)
    case pos =>
      refine Goes.st (fun t k => XS.icmpNo X0.here hx rfl (hb hby d1_17) rfl (teq cz16).2 k) ?_
      show Goes _ _ _ _ (s₁.setTop (mkF m 20 #[.val (.int p0), .val (.int c1), .val (.int c2)] []))
      refine Goes.st (fun t k => XS.iloadN X0.here hx rfl (hb hby d1_20) rfl k) ?_
      show Goes _ _ _ _ (s₁.setTop (mkF m 21 #[.val (.int p0), .val (.int c1), .val (.int c2)] [(.int c1)]))
      obtain ⟨_, _, ⟨T17, L17, k17, n17⟩, -, X17, ⟨Lc17, hQ17, l17, y17, z17⟩, st17⟩ := Jvm.LawKit.callS X0 hx (y := (⟨"java/lang/String", "valueOf", "(C)Ljava/lang/String;"⟩ : MethodName)) hown (mvT hZ (hw74 hw)) (mvT hZ (hw75 hw)) (mvT hZ (hw6 hw)) (mvT hZ (hw76 hw)) (by decide) (backOf (W := 0) (rm_valC l Z a0 hw [] c1 G1 h0 n0 Z0 P0 rg_c1 O2 P5) hZ (hw76 hw) (hw6 hw) (by decide) (by decide)) (g := (mkF m 21 #[.val (.int p0), .val (.int c1), .val (.int c2)] [(.int c1)])) rfl (by rw [hml]; rfl) (argsL := [(.int c1)]) (rest := []) (lenOf pd_5 rfl) rfl (by show 2 * 0 + _ ≤ _; exact Nat.le_of_eq rfl) (hb hby d1_21) (fun _ _ => ⟨rfl, e0, (by decide : 0 + 2 ≤ _), (by decide : 0 + 5 ≤ _)⟩)
      dsimp only [Pt.U, Pt.locs, Pt.cells, Pt.slots] at X17 l17 y17 z17 st17 hQ17
      subst l17 y17 z17
      obtain ⟨r17, t17, kb17, rfl, N17q, K17, F17_0, lo17_0, lo17_1, ne17_0⟩ := hQ17
      have N17 := Fr.app N0 N17q
      have F17_0E := F17_0.1
      have hs18 : ∀ x ∈ ([] : List Addr), Safe Z EL s.vm h0 x := all0
      have CR18 : CHr Z EL s.vm h0 s.vm T17.heap := CR0.trans (CHr.keep K17 hs18 CR0.1)
      refine Goes.st st17 ?_
      show Goes _ _ _ _ (T17.setTop (mkF m 24 #[.val (.int p0), .val (.int c1), .val (.int c2)] [(.ref r17)]))
      have S19 : Str Z T17.heap r17 t17 kb17 (own_mk p0 c1 c2) := by rw [own_mk1 cz1 cz16]; exact F17_0
      have kp20 : Keep h0 T17.heap [] := (Keep.refl h0 []).trans K17 all0
      obtain ⟨fs, hr, hrun, hended, hRW⟩ := X17.leaveW hS0 (Nat.le_trans hk0 K17.1) (v := some (.ref r17)) (fun h => by rw [Bd.returns] at h; cases h)
      subst hQQ
      have hCR : CHr Z EL s.vm s.heap T17.vm T17.heap := by rw [hh]; exact CR18.trans (CHv.at X17 hZ (own_EW hw) CR18.1)
      refine ⟨_, _, retR X17 hx Bd.returns rfl rfl (hb hby d1_24) hr, hrun, hended, _, _, rfl, ?_, hCR, own_REmono hRW (by decide) (by decide)⟩
      show Q_make Z p0 c1 c2 G1 h0 n0 _ T17.heap _
      exact ⟨r17, t17, kb17, rfl, N17, kp20, S19, lo17_0, ne17_0⟩
    case neg =>
      refine Goes.st (fun t k => XS.icmpYes X0.here hx rfl (pc0 := 17) (pc' := 25) rfl (hb hby d1_17) rfl (feq cz16).2 (by decide) (by decide) k) ?_
      show Goes _ _ _ _ (s₁.setTop (mkF m 25 #[.val (.int p0), .val (.int c1), .val (.int c2)] []))
      obtain ⟨T21, h21, X21, e21, E21, A21, D21, -, st21⟩ := newO X0 hx hZ hown (hw4 hw) (hw5 hw) (hw6 hw) e0 (g := (mkF m 25 #[.val (.int p0), .val (.int c1), .val (.int c2)] [])) rfl (hb hby d1_25) (by decide) (by decide)
      obtain ⟨b21, g21⟩ : ∃ z, z = h0.size := ⟨_, rfl⟩
      rw [← g21] at A21 D21 st21
      have CR22 : CHr Z EL s.vm h0 s.vm h21 := CR0.trans (CHr.ext E21 CR0.1)
      have sf21_b21 : Safe Z EL s.vm h21 b21 := Safe.ext E21 CR0.1 (Safe.new (Nat.le_of_eq g21.symm))
      have F21_coder : Fld Z h21 b21 "java/lang/String" "coder" "B" (.int (0 : Int32)) := D21 (Or.inr (hw31 hw)) (ty := .byte) (by decide)
      have F21_value : Fld Z h21 b21 "java/lang/String" "value" "[B" .null := D21 (Or.inr (hw33 hw)) (ty := (.array .byte)) (by decide)
      refine Goes.st st21 ?_
      show Goes _ _ _ _ (T21.setTop (mkF m 28 #[.val (.int p0), .val (.int c1), .val (.int c2)] [(.ref b21)]))
      refine Goes.st (fun t k => XS.dup X21.here hx rfl (hb hby d1_28) rfl rfl k) ?_
      show Goes _ _ _ _ (T21.setTop (mkF m 29 #[.val (.int p0), .val (.int c1), .val (.int c2)] [(.ref b21), (.ref b21)]))
      refine Goes.st (fun t k => XS.iconst X21.here hx rfl (hb hby d1_29) k) ?_
      show Goes _ _ _ _ (T21.setTop (mkF m 30 #[.val (.int p0), .val (.int c1), .val (.int c2)] [(.int (2 : Int32)), (.ref b21), (.ref b21)]))
      obtain ⟨T23, h23, k23, X23, e23, E23, A23, st23⟩ := newP X21 hx hZ (aty := .char) (hw7 hw) e21 (g := (mkF m 30 #[.val (.int p0), .val (.int c1), .val (.int c2)] [(.int (2 : Int32)), (.ref b21), (.ref b21)])) rfl (hb hby d1_30) rfl (by decide) (cap := 2) (by decide) (by decide) (by decide) (by decide)
      obtain ⟨b23, g23⟩ : ∃ z, z = h21.size := ⟨_, rfl⟩
      rw [← g23] at A23 st23
      have CR24 : CHr Z EL s.vm h0 s.vm h23 := CR22.trans (CHr.ext E23 CR22.1)
      have sf24_b21 : Safe Z EL s.vm h23 b21 := Safe.ext E23 CR22.1 sf21_b21
      have V23 : Arv Z h23 b23 k23 .char (2 : Int32) [(.int (0 : Int32)), (.int (0 : Int32))] (.int (0 : Int32)) := (Arv.new A23 (by decide)).pad (pad_rep [] (.int (0 : Int32)) 2)
      refine Goes.st st23 ?_
      show Goes _ _ _ _ (T23.setTop (mkF m 32 #[.val (.int p0), .val (.int c1), .val (.int c2)] [(.ref b23), (.ref b21), (.ref b21)]))
      refine Goes.st (fun t k => XS.dup X23.here hx rfl (hb hby d1_32) rfl rfl k) ?_
      show Goes _ _ _ _ (T23.setTop (mkF m 33 #[.val (.int p0), .val (.int c1), .val (.int c2)] [(.ref b23), (.ref b23), (.ref b21), (.ref b21)]))
      refine Goes.st (fun t k => XS.iconst X23.here hx rfl (hb hby d1_33) k) ?_
      show Goes _ _ _ _ (T23.setTop (mkF m 34 #[.val (.int p0), .val (.int c1), .val (.int c2)] [(.int (0 : Int32)), (.ref b23), (.ref b23), (.ref b21), (.ref b21)]))
      refine Goes.st (fun t k => XS.iloadN X23.here hx rfl (hb hby d1_34) rfl k) ?_
      show Goes _ _ _ _ (T23.setTop (mkF m 35 #[.val (.int p0), .val (.int c1), .val (.int c2)] [(.int c1), (.int (0 : Int32)), (.ref b23), (.ref b23), (.ref b21), (.ref b21)]))
      obtain ⟨oc25, oA25, oq25, oS25, oM25, oH25, oG25⟩ := id V23
      obtain ⟨T26, h26, X26, e26, W26, st26⟩ := stC X23 hx hZ e23 oA25 (j := (0 : Int32)) (inb_of oS25 ⟨by decide, by decide⟩) (g := (mkF m 35 #[.val (.int p0), .val (.int c1), .val (.int c2)] [(.int c1), (.int (0 : Int32)), (.ref b23), (.ref b23), (.ref b21), (.ref b21)])) rfl rfl (hb hby d1_35)
      rw [own_narc rg_c1] at W26
      have V26 : Arv Z h26 b23 k23 .char (2 : Int32) [(.int c1), (.int (0 : Int32))] (.int (0 : Int32)) := Arv.set oA25 oq25 oS25 oM25 oH25 oG25 (own_fitsc rg_c1) W26 0 rfl (Nat.le_of_ble_eq_true rfl)
      have N26 := Fr.snoc X26 N0 (Nat.le_trans Z0 (Nat.le_trans E21.1 (Nat.le_of_eq g23.symm)))
      have CR27 : CHr Z EL s.vm h0 s.vm h26 := CR24.trans (CHr.wr W26 (own_safeArv hZ.alike V23 (by simp)) CR24.1)
      have sf27_b21 : Safe Z EL s.vm h26 b21 := Safe.wr W26 (own_safeArv hZ.alike V23 (by simp)) CR24.1 sf24_b21
      refine Goes.st st26 ?_
      show Goes _ _ _ _ (T26.setTop (mkF m 36 #[.val (.int p0), .val (.int c1), .val (.int c2)] [(.ref b23), (.ref b21), (.ref b21)]))
      refine Goes.st (fun t k => XS.dup X26.here hx rfl (hb hby d1_36) rfl rfl k) ?_
      show Goes _ _ _ _ (T26.setTop (mkF m 37 #[.val (.int p0), .val (.int c1), .val (.int c2)] [(.ref b23), (.ref b23), (.ref b21), (.ref b21)]))
      refine Goes.st (fun t k => XS.iconst X26.here hx rfl (hb hby d1_37) k) ?_
      show Goes _ _ _ _ (T26.setTop (mkF m 38 #[.val (.int p0), .val (.int c1), .val (.int c2)] [(.int (1 : Int32)), (.ref b23), (.ref b23), (.ref b21), (.ref b21)]))
      refine Goes.st (fun t k => XS.iloadN X26.here hx rfl (hb hby d1_38) rfl k) ?_
      show Goes _ _ _ _ (T26.setTop (mkF m 39 #[.val (.int p0), .val (.int c1), .val (.int c2)] [(.int c2), (.int (1 : Int32)), (.ref b23), (.ref b23), (.ref b21), (.ref b21)]))
      obtain ⟨oc28, oA28, oq28, oS28, oM28, oH28, oG28⟩ := id V26
      obtain ⟨T29, h29, X29, e29, W29, st29⟩ := stC X26 hx hZ e26 oA28 (j := (1 : Int32)) (inb_of oS28 ⟨by decide, by decide⟩) (g := (mkF m 39 #[.val (.int p0), .val (.int c1), .val (.int c2)] [(.int c2), (.int (1 : Int32)), (.ref b23), (.ref b23), (.ref b21), (.ref b21)])) rfl rfl (hb hby d1_39)
      rw [own_narc rg_c2] at W29
      have V29 : Arv Z h29 b23 k23 .char (2 : Int32) [(.int c1), (.int c2)] (.int (0 : Int32)) := Arv.set oA28 oq28 oS28 oM28 oH28 oG28 (own_fitsc rg_c2) W29 1 rfl (Nat.le_of_ble_eq_true rfl)
      have N29 := Fr.snoc X29 N26 (Nat.le_trans Z0 (Nat.le_trans E21.1 (Nat.le_of_eq g23.symm)))
      have CR30 : CHr Z EL s.vm h0 s.vm h29 := CR27.trans (CHr.wr W29 (own_safeArv hZ.alike V26 (by simp)) CR27.1)
      have sf30_b21 : Safe Z EL s.vm h29 b21 := Safe.wr W29 (own_safeArv hZ.alike V26 (by simp)) CR27.1 sf27_b21
      refine Goes.st st29 ?_
      show Goes _ _ _ _ (T29.setTop (mkF m 40 #[.val (.int p0), .val (.int c1), .val (.int c2)] [(.ref b23), (.ref b21), (.ref b21)]))
      have f32 : Exa Z h29 b21 "java/lang/String" := (((A21.ext E23).wr W26).wr W29)
      have f33 : Fld Z h29 b21 "java/lang/String" "value" "[B" .null := (((F21_value.ext E23).other W26 (Or.inl (Nat.ne_of_lt (Nat.lt_of_lt_of_le A21.lt (Nat.le_of_eq g23.symm))))).other W29 (Or.inl (Nat.ne_of_lt (Nat.lt_of_lt_of_le A21.lt (Nat.le_of_eq g23.symm)))))
      have f34 : Fld Z h29 b21 "java/lang/String" "coder" "B" (.int (0 : Int32)) := (((F21_coder.ext E23).other W26 (Or.inl (Nat.ne_of_lt (Nat.lt_of_lt_of_le A21.lt (Nat.le_of_eq g23.symm))))).other W29 (Or.inl (Nat.ne_of_lt (Nat.lt_of_lt_of_le A21.lt (Nat.le_of_eq g23.symm)))))
      have f35 : Old Z n0 h29 := ((((P0.ext E21).ext E23).wr W26 (Nat.le_trans Z0 (Nat.le_trans E21.1 (Nat.le_of_eq g23.symm)))).wr W29 (Nat.le_trans Z0 (Nat.le_trans E21.1 (Nat.le_of_eq g23.symm))))
      have hp36 : ∀ c ∈ ([c1, c2] : List Int32), ¬ c < 0 ∧ ¬ (255 : Int32) < c := (own_cS rg_c1 (own_cS rg_c2 own_c0))
      obtain ⟨_, _, ⟨T31, L31, k31, n31⟩, -, X31, ⟨Lc31, hQ31, l31, y31, z31⟩, st31⟩ := X29.specialBack hx (y := (⟨"java/lang/String", "<init>", "([C)V"⟩ : MethodName)) rfl hown (mvT hZ (hw8 hw)) (mvT hZ (hw9 hw)) (mvT hZ (hw10 hw)) (by decide) (StrChars.Road.backV (W := 1) hZ (own_hws hw) (kI := 4) (hw5 hw) (cs := ([c1, c2] : List Int32)) (bs := ([c1, c2] : List Int32).map (fun c => c.toInt8.toInt32)) (n := 2) (Nat.le_trans Z0 (Nat.le_of_eq g21.symm)) (Nat.le_trans Z0 (Nat.le_trans (Nat.le_trans (Nat.le_trans E21.1 E23.1) (Nat.le_of_eq W26.size.symm)) (Nat.le_of_eq W29.size.symm))) f32 f33 f34 V29 (O2.ext f35.2) P5 rfl rfl (by decide) (by decide) hp36 rfl (by decide) (by decide)) (g := (mkF m 40 #[.val (.int p0), .val (.int c1), .val (.int c2)] [(.ref b23), (.ref b21), (.ref b21)])) rfl (by rw [hml]; rfl) (Steps.refl _) (a := b21) (argsL := [(.ref b23)]) (rest := [(.ref b21)]) (lenOf pd_4 rfl) rfl (by show 2 * 0 + _ ≤ _; exact Nat.le_of_eq rfl) (hb hby d1_40) (fun _ _ => ⟨rfl, e29, (by decide : 2 + 1 ≤ _), (by decide : 6 + 2 ≤ _)⟩)
      dsimp only [Pt.U, Pt.locs, Pt.cells, Pt.slots] at X31 l31 y31 z31 st31 hQ31
      subst l31 y31 z31
      obtain ⟨rfl, N31q, K31, Ex31, Cd31, t31, kb31, lz31, lo31, tn31, Vf31, Av31⟩ := hQ31
      have N31 := Fr.app N29 N31q
      have S31 : Str Z T31.heap b21 t31 kb31 [c1, c2] := ⟨Ex31, Vf31, Cd31, Av31, hp36, Nat.le_of_ble_eq_true rfl⟩
      have hs37 : ∀ x ∈ ([b21] : List Addr), Safe Z EL s.vm h29 x := (allS sf30_b21 all0)
      have CR37 : CHr Z EL s.vm h0 s.vm T31.heap := CR30.trans (CHr.keep K31 hs37 CR30.1)
      have sf37_b21 : Safe Z EL s.vm T31.heap b21 := Safe.keep K31 hs37 CR30.1 sf30_b21
      refine Goes.tr st31 ?_
      show Goes _ _ _ _ (T31.setTop (mkF m 43 #[.val (.int p0), .val (.int c1), .val (.int c2)] [(.ref b21)]))
      have S38 : Str Z T31.heap b21 t31 kb31 (own_mk p0 c1 c2) := by rw [own_mk2 cz1 cz16]; exact S31
      have kp39 : Keep h0 h21 [] := (Keep.refl h0 []).ext E21
      have kp40 : Keep h0 h23 [] := kp39.ext E23
      have kp41 : Keep h0 h26 [] := kp40.wr W26 (Or.inr (Nat.le_trans E21.1 (Nat.le_of_eq g23.symm)))
      have kp42 : Keep h0 h29 [] := kp41.wr W29 (Or.inr (Nat.le_trans E21.1 (Nat.le_of_eq g23.symm)))
      have kp43 : Keep h0 T31.heap [] := kp42.trans K31 (allS (Or.inr (Nat.le_of_eq g21.symm)) all0)
      obtain ⟨fs, hr, hrun, hended, hRW⟩ := X31.leaveW hS0 (Nat.le_trans (Nat.le_trans (Nat.le_trans (Nat.le_trans (Nat.le_trans hk0 E21.1) E23.1) (Nat.le_of_eq W26.size.symm)) (Nat.le_of_eq W29.size.symm)) K31.1) (v := some (.ref b21)) (fun h => by rw [Bd.returns] at h; cases h)
      subst hQQ
      have hCR : CHr Z EL s.vm s.heap T31.vm T31.heap := by rw [hh]; exact CR37.trans (CHv.at X31 hZ (own_EW hw) CR37.1)
      refine ⟨_, _, retR X31 hx Bd.returns rfl rfl (hb hby d1_43) hr, hrun, hended, _, _, rfl, ?_, hCR, own_REmono hRW (by decide) (by decide)⟩
      show Q_make Z p0 c1 c2 G1 h0 n0 _ T31.heap _
      exact ⟨b21, t31, kb31, rfl, N31, kp43, S38, (Nat.le_of_eq g21.symm), (Ne.symm tn31)⟩
theorem ef_pinit (m : MethodId) (a : Addr) (b : Addr) (u1 : Value) (u2 : Value) (r1 : u1.isRef = true) (r2 : u2.isRef = true) : entryFrame m #[(.ref a), (.ref b), u1, (.ref b), u2, .null] 6 = (mkF m 0 #[.val (.ref a), .val (.ref b), .val u1, .val (.ref b), .val u2, .val .null] []) := by rcases ref_cases r1 with rfl | ⟨_, rfl⟩ <;> rcases ref_cases r2 with rfl | ⟨_, rfl⟩ <;> (simp [entryFrame, mkF, argsToLocals, Value.category]; done)
def Q_pinit (Z : State) (a : Addr) (b : Addr) (u1 : Value) (u2 : Value) (h0 : Heap) (n0 : Nat) (v : Option Value) (h : Heap) (L : List Loc) : Prop := v = none ∧ Fr n0 L ∧ Keep h0 h [a] ∧ Exa Z h a "com/example/sillon/sillon/transport/SoapOperation$Parts" ∧ Fld Z h a "com/example/sillon/sillon/transport/SoapOperation$Parts" "message" "Ljava/lang/String;" (.ref b) ∧ Fld Z h a "com/example/sillon/sillon/transport/SoapOperation$Parts" "mainElement" "Ljava/lang/String;" u2
set_option maxRecDepth 65536 in
set_option maxHeartbeats 40000000 in
theorem rm_pinit (l : Launch) (Z : State) (a0 : Array Value) (hw : ∀ d ∈ tables_1, d.before a0 Z = true) (ws : List Jvm.Cond) (a : Addr) (b : Addr) (u1 : Value) (u2 : Value) (h0 : Heap) (n0 : Nat) (Z0 : n0 ≤ h0.size) (P0 : Exa Z h0 a "com/example/sillon/sillon/transport/SoapOperation$Parts") (P1 : Fld Z h0 a "com/example/sillon/sillon/transport/SoapOperation$Parts" "message" "Ljava/lang/String;" .null) (P2 : Fld Z h0 a "com/example/sillon/sillon/transport/SoapOperation$Parts" "head" "Ljava/lang/String;" .null) (P3 : Fld Z h0 a "com/example/sillon/sillon/transport/SoapOperation$Parts" "main" "Ljava/lang/String;" .null) (P4 : Fld Z h0 a "com/example/sillon/sillon/transport/SoapOperation$Parts" "mainElement" "Ljava/lang/String;" .null) (P5 : Fld Z h0 a "com/example/sillon/sillon/transport/SoapOperation$Parts" "extension" "Ljava/lang/String;" .null) (g_a : n0 ≤ a) (r1 : u1.isRef = true) (r2 : u2.isRef = true) :
    MetFree l (⟨"com/example/sillon/sillon/transport/SoapOperation$Parts", "<init>", "(Ljava/lang/String;Ljava/lang/String;Ljava/lang/String;Ljava/lang/String;Ljava/lang/String;)V"⟩ : MethodName) (head1 (Jvm.Cond.code (⟨"com/example/sillon/sillon/transport/SoapOperation$Parts", "<init>", "(Ljava/lang/String;Ljava/lang/String;Ljava/lang/String;Ljava/lang/String;Ljava/lang/String;)V"⟩ : MethodName) prog_40_method_1_code 6 none :: ws) ({ frames := 2, cells := 0, slots := 0, locals := 24 } : Room)) (fun aR U => aR = #[(.ref a), (.ref b), u1, (.ref b), u2, .null] ∧ Z.Warmed39 U.vm ∧ U.heap = h0) (fun _ _ _ _ _ => True) (fun _ U o U' => ∃ v L, o = .returned v ∧ Q_pinit Z a b u1 u2 h0 n0 v U'.heap L ∧ FrameEnd U o U' L ({ frames := 2, cells := 0, slots := 0, locals := 24 } : Room).cells ({ frames := 2, cells := 0, slots := 0, locals := 24 } : Room).slots) := by
  refine MetFree.of_bodySF (plainFor_of_name pn_4) hisR ?_
  intro p e s m args below meth c s₁ Bd hml0 hP hK
  obtain ⟨rfl, hZ, hh⟩ := hP
  have hx := Bd.exec
  have hby := Bd.bytes
  have hml : c.maxLocals = 6 := hml0
  have hown : s.vm.findClass "com/example/sillon/sillon/transport/SoapOperation$Parts" = some m.cls := findClass_of_methodNamed Bd.named
  have hnm := (name_of_methodNamed Bd.named Bd.method).1
  have X0 : Stand p l e ({ frames := 2, cells := 0, slots := 0, locals := 24 } : Room) s m #[(.ref a), (.ref b), u1, (.ref b), u2, .null] below meth c s₁ [] 0 0 := Stand.of_body Bd
  have e0 : s₁.heap = h0 := by rw [← hh, Bd.state]; rfl
  have N0 := Fr.nil n0
  show Goes p.tables e below _ _
  rw [ef_pinit m a b u1 u2 r1 r2]
  refine Goes.named ?_
  intro QQ hQQ
  refine Goes.st (fun t k => XS.aloadN X0.here hx rfl (hb hby d8_0) rfl rfl k) ?_
  show Goes _ _ _ _ (s₁.setTop (mkF m 1 #[.val (.ref a), .val (.ref b), .val u1, .val (.ref b), .val u2, .val .null] [(.ref a)]))
  obtain ⟨_, _, ⟨T1, L1, k1, n1⟩, -, X1, ⟨Lc1, hQ1, l1, y1, z1⟩, st1⟩ := X0.specialBack hx (y := (⟨"java/lang/Record", "<init>", "()V"⟩ : MethodName)) rfl hown (mvT hZ (hw43 hw)) (mvT hZ (hw44 hw)) (mvT hZ (hw47 hw)) (by decide) (backOf (W := 0) (rm_rec l Z a0 hw [] a h0 n0 Z0 ) hZ (hw47 hw) (hw46 hw) (by decide) (by decide)) (g := (mkF m 1 #[.val (.ref a), .val (.ref b), .val u1, .val (.ref b), .val u2, .val .null] [(.ref a)])) rfl (by rw [hml]; rfl) (Steps.refl _) (a := a) (argsL := []) (rest := []) (lenOf pd_6 rfl) rfl (by show 2 * 0 + _ ≤ _; exact Nat.le_of_eq rfl) (hb hby d8_1) (fun _ _ => ⟨rfl, e0, (by decide : 0 + 0 ≤ _), (by decide : 0 + 0 ≤ _)⟩)
  dsimp only [Pt.U, Pt.locs, Pt.cells, Pt.slots] at X1 l1 y1 z1 st1 hQ1
  subst l1 y1 z1
  obtain ⟨rfl, N1q, K1⟩ := hQ1
  have N1 := Fr.app N0 N1q
  refine Goes.tr st1 ?_
  show Goes _ _ _ _ (T1.setTop (mkF m 4 #[.val (.ref a), .val (.ref b), .val u1, .val (.ref b), .val u2, .val .null] []))
  refine Goes.st (fun t k => XS.aloadN X1.here hx rfl (hb hby d8_4) rfl rfl k) ?_
  show Goes _ _ _ _ (T1.setTop (mkF m 5 #[.val (.ref a), .val (.ref b), .val u1, .val (.ref b), .val u2, .val .null] [(.ref a)]))
  refine Goes.st (fun t k => XS.aloadN X1.here hx rfl (hb hby d8_5) rfl rfl k) ?_
  show Goes _ _ _ _ (T1.setTop (mkF m 6 #[.val (.ref a), .val (.ref b), .val u1, .val (.ref b), .val u2, .val .null] [(.ref b), (.ref a)]))
  obtain ⟨T2, h2, X2, e2, W2, st2⟩ := putF X1 hx hZ hown (host := "") (Or.inl (hw49 hw)) Via.refl K1 P1 P0 (Or.inr ⟨(hw50 hw), rfl, hnm⟩) (hw38 hw) (ty := (.object "java/lang/String")) (by decide) rfl rfl (g := (mkF m 6 #[.val (.ref a), .val (.ref b), .val u1, .val (.ref b), .val u2, .val .null] [(.ref b), (.ref a)])) rfl rfl (hb hby d8_6)
  have N2 := Fr.snoc X2 N1 g_a
  have F2 := P1.same W2
  refine Goes.st st2 ?_
  show Goes _ _ _ _ (T2.setTop (mkF m 9 #[.val (.ref a), .val (.ref b), .val u1, .val (.ref b), .val u2, .val .null] []))
  refine Goes.st (fun t k => XS.aloadN X2.here hx rfl (hb hby d8_9) rfl rfl k) ?_
  show Goes _ _ _ _ (T2.setTop (mkF m 10 #[.val (.ref a), .val (.ref b), .val u1, .val (.ref b), .val u2, .val .null] [(.ref a)]))
  refine Goes.st (fun t k => XS.aloadN X2.here hx rfl (hb hby d8_10) rfl r1 k) ?_
  show Goes _ _ _ _ (T2.setTop (mkF m 11 #[.val (.ref a), .val (.ref b), .val u1, .val (.ref b), .val u2, .val .null] [u1, (.ref a)]))
  have f3 : Exa Z h2 a "com/example/sillon/sillon/transport/SoapOperation$Parts" := (P0.wr W2)
  have f4 : Fld Z h2 a "com/example/sillon/sillon/transport/SoapOperation$Parts" "head" "Ljava/lang/String;" .null := (P2.other W2 (Or.inr (slot_ne (Or.inr (hw52 hw)) (Or.inr (hw50 hw)) (by decide) (t := (.object "java/lang/String")) (t' := (.object "java/lang/String")) (by decide) (by decide))))
  obtain ⟨T5, h5, X5, e5, W5, st5⟩ := putF X2 hx hZ hown (host := "") (Or.inl (hw51 hw)) Via.refl e2 f4 f3 (Or.inr ⟨(hw52 hw), rfl, hnm⟩) (hw38 hw) (ty := (.object "java/lang/String")) (by decide) (own_narR r1) (own_fitsR r1 rfl) (g := (mkF m 11 #[.val (.ref a), .val (.ref b), .val u1, .val (.ref b), .val u2, .val .null] [u1, (.ref a)])) rfl rfl (hb hby d8_11)
  have N5 := Fr.snoc X5 N2 g_a
  have F5 := f4.same W5
  refine Goes.st st5 ?_
  show Goes _ _ _ _ (T5.setTop (mkF m 14 #[.val (.ref a), .val (.ref b), .val u1, .val (.ref b), .val u2, .val .null] []))
  refine Goes.st (fun t k => XS.aloadN X5.here hx rfl (hb hby d8_14) rfl rfl k) ?_
  show Goes _ _ _ _ (T5.setTop (mkF m 15 #[.val (.ref a), .val (.ref b), .val u1, .val (.ref b), .val u2, .val .null] [(.ref a)]))
  refine Goes.st (fun t k => XS.aloadN X5.here hx rfl (hb hby d8_15) rfl rfl k) ?_
  show Goes _ _ _ _ (T5.setTop (mkF m 16 #[.val (.ref a), .val (.ref b), .val u1, .val (.ref b), .val u2, .val .null] [(.ref b), (.ref a)]))
  have f6 : Exa Z h5 a "com/example/sillon/sillon/transport/SoapOperation$Parts" := (f3.wr W5)
  have f7 : Fld Z h5 a "com/example/sillon/sillon/transport/SoapOperation$Parts" "main" "Ljava/lang/String;" .null := ((P3.other W2 (Or.inr (slot_ne (Or.inr (hw54 hw)) (Or.inr (hw50 hw)) (by decide) (t := (.object "java/lang/String")) (t' := (.object "java/lang/String")) (by decide) (by decide)))).other W5 (Or.inr (slot_ne (Or.inr (hw54 hw)) (Or.inr (hw52 hw)) (by decide) (t := (.object "java/lang/String")) (t' := (.object "java/lang/String")) (by decide) (by decide))))
  obtain ⟨T8, h8, X8, e8, W8, st8⟩ := putF X5 hx hZ hown (host := "") (Or.inl (hw53 hw)) Via.refl e5 f7 f6 (Or.inr ⟨(hw54 hw), rfl, hnm⟩) (hw38 hw) (ty := (.object "java/lang/String")) (by decide) rfl rfl (g := (mkF m 16 #[.val (.ref a), .val (.ref b), .val u1, .val (.ref b), .val u2, .val .null] [(.ref b), (.ref a)])) rfl rfl (hb hby d8_16)
  have N8 := Fr.snoc X8 N5 g_a
  have F8 := f7.same W8
  refine Goes.st st8 ?_
  show Goes _ _ _ _ (T8.setTop (mkF m 19 #[.val (.ref a), .val (.ref b), .val u1, .val (.ref b), .val u2, .val .null] []))
  refine Goes.st (fun t k => XS.aloadN X8.here hx rfl (hb hby d8_19) rfl rfl k) ?_
  show Goes _ _ _ _ (T8.setTop (mkF m 20 #[.val (.ref a), .val (.ref b), .val u1, .val (.ref b), .val u2, .val .null] [(.ref a)]))
  refine Goes.st (fun t k => XS.aload X8.here hx rfl (hb hby d8_20) rfl r2 k) ?_
  show Goes _ _ _ _ (T8.setTop (mkF m 22 #[.val (.ref a), .val (.ref b), .val u1, .val (.ref b), .val u2, .val .null] [u2, (.ref a)]))
  have f9 : Exa Z h8 a "com/example/sillon/sillon/transport/SoapOperation$Parts" := (f6.wr W8)
  have f10 : Fld Z h8 a "com/example/sillon/sillon/transport/SoapOperation$Parts" "mainElement" "Ljava/lang/String;" .null := (((P4.other W2 (Or.inr (slot_ne (Or.inr (hw56 hw)) (Or.inr (hw50 hw)) (by decide) (t := (.object "java/lang/String")) (t' := (.object "java/lang/String")) (by decide) (by decide)))).other W5 (Or.inr (slot_ne (Or.inr (hw56 hw)) (Or.inr (hw52 hw)) (by decide) (t := (.object "java/lang/String")) (t' := (.object "java/lang/String")) (by decide) (by decide)))).other W8 (Or.inr (slot_ne (Or.inr (hw56 hw)) (Or.inr (hw54 hw)) (by decide) (t := (.object "java/lang/String")) (t' := (.object "java/lang/String")) (by decide) (by decide))))
  obtain ⟨T11, h11, X11, e11, W11, st11⟩ := putF X8 hx hZ hown (host := "") (Or.inl (hw55 hw)) Via.refl e8 f10 f9 (Or.inr ⟨(hw56 hw), rfl, hnm⟩) (hw38 hw) (ty := (.object "java/lang/String")) (by decide) (own_narR r2) (own_fitsR r2 rfl) (g := (mkF m 22 #[.val (.ref a), .val (.ref b), .val u1, .val (.ref b), .val u2, .val .null] [u2, (.ref a)])) rfl rfl (hb hby d8_22)
  have N11 := Fr.snoc X11 N8 g_a
  have F11 := f10.same W11
  refine Goes.st st11 ?_
  show Goes _ _ _ _ (T11.setTop (mkF m 25 #[.val (.ref a), .val (.ref b), .val u1, .val (.ref b), .val u2, .val .null] []))
  refine Goes.st (fun t k => XS.aloadN X11.here hx rfl (hb hby d8_25) rfl rfl k) ?_
  show Goes _ _ _ _ (T11.setTop (mkF m 26 #[.val (.ref a), .val (.ref b), .val u1, .val (.ref b), .val u2, .val .null] [(.ref a)]))
  refine Goes.st (fun t k => XS.aload X11.here hx rfl (hb hby d8_26) rfl rfl k) ?_
  show Goes _ _ _ _ (T11.setTop (mkF m 28 #[.val (.ref a), .val (.ref b), .val u1, .val (.ref b), .val u2, .val .null] [.null, (.ref a)]))
  have f12 : Exa Z h11 a "com/example/sillon/sillon/transport/SoapOperation$Parts" := (f9.wr W11)
  have f13 : Fld Z h11 a "com/example/sillon/sillon/transport/SoapOperation$Parts" "extension" "Ljava/lang/String;" .null := ((((P5.other W2 (Or.inr (slot_ne (Or.inr (hw58 hw)) (Or.inr (hw50 hw)) (by decide) (t := (.object "java/lang/String")) (t' := (.object "java/lang/String")) (by decide) (by decide)))).other W5 (Or.inr (slot_ne (Or.inr (hw58 hw)) (Or.inr (hw52 hw)) (by decide) (t := (.object "java/lang/String")) (t' := (.object "java/lang/String")) (by decide) (by decide)))).other W8 (Or.inr (slot_ne (Or.inr (hw58 hw)) (Or.inr (hw54 hw)) (by decide) (t := (.object "java/lang/String")) (t' := (.object "java/lang/String")) (by decide) (by decide)))).other W11 (Or.inr (slot_ne (Or.inr (hw58 hw)) (Or.inr (hw56 hw)) (by decide) (t := (.object "java/lang/String")) (t' := (.object "java/lang/String")) (by decide) (by decide))))
  obtain ⟨T14, h14, X14, e14, W14, st14⟩ := putF X11 hx hZ hown (host := "") (Or.inl (hw57 hw)) Via.refl e11 f13 f12 (Or.inr ⟨(hw58 hw), rfl, hnm⟩) (hw38 hw) (ty := (.object "java/lang/String")) (by decide) rfl rfl (g := (mkF m 28 #[.val (.ref a), .val (.ref b), .val u1, .val (.ref b), .val u2, .val .null] [.null, (.ref a)])) rfl rfl (hb hby d8_28)
  have N14 := Fr.snoc X14 N11 g_a
  have F14 := f13.same W14
  refine Goes.st st14 ?_
  show Goes _ _ _ _ (T14.setTop (mkF m 31 #[.val (.ref a), .val (.ref b), .val u1, .val (.ref b), .val u2, .val .null] []))
  have kp15 : Keep h0 h2 [a] := (Keep.refl h0 [a]).wr W2 (Or.inl (List.mem_of_getElem? (i := 0) rfl))
  have kp16 : Keep h0 h5 [a] := kp15.wr W5 (Or.inl (List.mem_of_getElem? (i := 0) rfl))
  have kp17 : Keep h0 h8 [a] := kp16.wr W8 (Or.inl (List.mem_of_getElem? (i := 0) rfl))
  have kp18 : Keep h0 h11 [a] := kp17.wr W11 (Or.inl (List.mem_of_getElem? (i := 0) rfl))
  have kp19 : Keep h0 h14 [a] := kp18.wr W14 (Or.inl (List.mem_of_getElem? (i := 0) rfl))
  have f20 : Exa Z h14 a "com/example/sillon/sillon/transport/SoapOperation$Parts" := (f12.wr W14)
  have f21 : Fld Z h14 a "com/example/sillon/sillon/transport/SoapOperation$Parts" "message" "Ljava/lang/String;" (.ref b) := ((((F2.other W5 (Or.inr (slot_ne (Or.inr (hw50 hw)) (Or.inr (hw52 hw)) (by decide) (t := (.object "java/lang/String")) (t' := (.object "java/lang/String")) (by decide) (by decide)))).other W8 (Or.inr (slot_ne (Or.inr (hw50 hw)) (Or.inr (hw54 hw)) (by decide) (t := (.object "java/lang/String")) (t' := (.object "java/lang/String")) (by decide) (by decide)))).other W11 (Or.inr (slot_ne (Or.inr (hw50 hw)) (Or.inr (hw56 hw)) (by decide) (t := (.object "java/lang/String")) (t' := (.object "java/lang/String")) (by decide) (by decide)))).other W14 (Or.inr (slot_ne (Or.inr (hw50 hw)) (Or.inr (hw58 hw)) (by decide) (t := (.object "java/lang/String")) (t' := (.object "java/lang/String")) (by decide) (by decide))))
  have f22 : Fld Z h14 a "com/example/sillon/sillon/transport/SoapOperation$Parts" "mainElement" "Ljava/lang/String;" u2 := (F11.other W14 (Or.inr (slot_ne (Or.inr (hw56 hw)) (Or.inr (hw58 hw)) (by decide) (t := (.object "java/lang/String")) (t' := (.object "java/lang/String")) (by decide) (by decide))))
  obtain ⟨fs, hr, hrun, hended, hW, hsame⟩ := X14.leave (v := none) (fun _ => rfl)
  subst hQQ
  refine ⟨_, _, X14.returnOut hx Bd.returns (hb hby d8_31) hr, hrun, hended, _, _, rfl, ?_, ⟨_, rfl⟩, hW, hsame.mono (by decide) (by decide)⟩
  show Q_pinit Z a b u1 u2 h0 n0 _ T14.heap _
  rw [e14]
  exact ⟨rfl, N14, kp19, f20, f21, f22⟩
theorem ef_miN (m : MethodId) (a : Addr) (b : Addr) : entryFrame m #[(.ref a)] 1 = (mkF m 0 #[.val (.ref a)] []) := by first | (simp [entryFrame, mkF, argsToLocals, Value.category]; done) | rfl
def Q_miN (Z : State) (a : Addr) (b : Addr) (h0 : Heap) (n0 : Nat) (v : Option Value) (h : Heap) (L : List Loc) : Prop := v = some (.int (0 : Int32)) ∧ Fr n0 L ∧ h = h0
set_option maxRecDepth 65536 in
set_option maxHeartbeats 40000000 in
theorem rm_miN (l : Launch) (Z : State) (a0 : Array Value) (hw : ∀ d ∈ tables_1, d.before a0 Z = true) (ws : List Jvm.Cond) (a : Addr) (b : Addr) (h0 : Heap) (n0 : Nat) (Z0 : n0 ≤ h0.size) (P0 : Fld Z h0 a "com/example/sillon/sillon/transport/SoapOperation$Parts" "message" "Ljava/lang/String;" (.ref b)) (P1 : Fld Z h0 a "com/example/sillon/sillon/transport/SoapOperation$Parts" "mainElement" "Ljava/lang/String;" .null) (P2 : Exa Z h0 b "java/lang/String") :
    MetFree l (⟨"com/example/sillon/sillon/transport/SoapOperation$Parts", "mainIsMessage", "()Z"⟩ : MethodName) (head1 (Jvm.Cond.code (⟨"com/example/sillon/sillon/transport/SoapOperation$Parts", "mainIsMessage", "()Z"⟩ : MethodName) prog_40_method_2_code 1 (some .boolean) :: ws) ({ frames := 1, cells := 0, slots := 0, locals := 14 } : Room)) (fun aR U => aR = #[(.ref a)] ∧ Z.Warmed39 U.vm ∧ U.heap = h0) (fun _ _ _ _ _ => True) (fun _ U o U' => ∃ v L, o = .returned v ∧ Q_miN Z a b h0 n0 v U'.heap L ∧ FrameEnd U o U' L ({ frames := 1, cells := 0, slots := 0, locals := 14 } : Room).cells ({ frames := 1, cells := 0, slots := 0, locals := 14 } : Room).slots) := by
  refine MetFree.of_bodySF (plainFor_of_name pn_4) hisR ?_
  intro p e s m args below meth c s₁ Bd hml0 hP hK
  obtain ⟨rfl, hZ, hh⟩ := hP
  have hx := Bd.exec
  have hby := Bd.bytes
  have hml : c.maxLocals = 1 := hml0
  have hown : s.vm.findClass "com/example/sillon/sillon/transport/SoapOperation$Parts" = some m.cls := findClass_of_methodNamed Bd.named
  have hnm := (name_of_methodNamed Bd.named Bd.method).1
  have X0 : Stand p l e ({ frames := 1, cells := 0, slots := 0, locals := 14 } : Room) s m #[(.ref a)] below meth c s₁ [] 0 0 := Stand.of_body Bd
  have e0 : s₁.heap = h0 := by rw [← hh, Bd.state]; rfl
  have N0 := Fr.nil n0
  show Goes p.tables e below _ _
  rw [ef_miN m a b]
  refine Goes.named ?_
  intro QQ hQQ
  refine Goes.st (fun t k => XS.aloadN X0.here hx rfl (hb hby d10_0) rfl rfl k) ?_
  show Goes _ _ _ _ (s₁.setTop (mkF m 1 #[.val (.ref a)] [(.ref a)]))
  obtain ⟨T1, X1, e1, st1⟩ := getF X0 hx hZ hown (host := "") (Or.inl (hw49 hw)) Via.refl e0 P0 (g := (mkF m 1 #[.val (.ref a)] [(.ref a)])) rfl rfl (hb hby d10_1)
  refine Goes.st st1 ?_
  show Goes _ _ _ _ (T1.setTop (mkF m 4 #[.val (.ref a)] [(.ref b)]))
  refine Goes.st (fun t k => XS.aloadN X1.here hx rfl (hb hby d10_4) rfl rfl k) ?_
  show Goes _ _ _ _ (T1.setTop (mkF m 5 #[.val (.ref a)] [(.ref a), (.ref b)]))
  obtain ⟨T2, X2, e2, st2⟩ := getF X1 hx hZ hown (host := "") (Or.inl (hw55 hw)) Via.refl e1 P1 (g := (mkF m 5 #[.val (.ref a)] [(.ref a), (.ref b)])) rfl rfl (hb hby d10_5)
  refine Goes.st st2 ?_
  show Goes _ _ _ _ (T2.setTop (mkF m 8 #[.val (.ref a)] [.null, (.ref b)]))
  obtain ⟨cq3, kq3, q3a, q3b, q3c⟩ := isOf hZ e2 P2
  obtain ⟨_, _, ⟨T3, L3, k3, n3⟩, -, X3, ⟨Lc3, hQ3, l3, y3, z3⟩, st3⟩ := X2.virtualBack hx (y := (⟨"java/lang/String", "equals", "(Ljava/lang/Object;)Z"⟩ : MethodName)) (z := (⟨"java/lang/String", "equals", "(Ljava/lang/Object;)Z"⟩ : MethodName)) hown (mvT hZ (hw64 hw)) (mvT hZ (hw65 hw)) (notFace_of_selects (args := #[]) (mvT hZ (hw67 hw))) (mvT hZ (hw67 hw)) (mvT hZ (hw66 hw)) (by decide) (backOf (W := 0) (rm_eqnull l Z a0 hw [] b h0 n0 Z0 ) hZ (hw68 hw) (hw6 hw) (by decide) (by decide)) q3a q3c (g := (mkF m 8 #[.val (.ref a)] [.null, (.ref b)])) rfl (by rw [hml]; rfl) (Steps.refl _) (argsL := [.null]) (rest := []) (lenOf pd_7 rfl) rfl (by show 2 * 0 + _ ≤ _; exact Nat.le_of_eq rfl) (hb hby d10_8) (fun _ _ => ⟨rfl, e2, (by decide : 0 + 0 ≤ _), (by decide : 0 + 0 ≤ _)⟩)
  dsimp only [Pt.U, Pt.locs, Pt.cells, Pt.slots] at X3 l3 y3 z3 st3 hQ3
  subst l3 y3 z3
  obtain ⟨rfl, N3q, K3⟩ := hQ3
  have N3 := Fr.app N0 N3q
  refine Goes.tr st3 ?_
  show Goes _ _ _ _ (T3.setTop (mkF m 11 #[.val (.ref a)] [(.int (0 : Int32))]))
  obtain ⟨fs, hr, hrun, hended, hW, hsame⟩ := X3.leave (v := some (.int (0 : Int32))) (fun h => by rw [Bd.returns] at h; cases h)
  subst hQQ
  refine ⟨_, _, retN X3 hx (t := .boolean) Bd.returns (by simp) (hb hby d10_11) hr, hrun, hended, _, _, rfl, ?_, ⟨_, rfl⟩, hW, hsame.mono (by decide) (by decide)⟩
  show Q_miN Z a b h0 n0 _ T3.heap _
  rw [K3]
  exact ⟨rfl, N3, rfl⟩
theorem ef_miS (m : MethodId) (a : Addr) (b : Addr) (t1 : Addr) (kb1 : ClassId) (cs : List Int32) (b2 : Addr) (t2 : Addr) (kb2 : ClassId) (ds : List Int32) (G1 : Int32) : entryFrame m #[(.ref a)] 1 = (mkF m 0 #[.val (.ref a)] []) := by first | (simp [entryFrame, mkF, argsToLocals, Value.category]; done) | rfl
def Q_miS (Z : State) (a : Addr) (b : Addr) (t1 : Addr) (kb1 : ClassId) (cs : List Int32) (b2 : Addr) (t2 : Addr) (kb2 : ClassId) (ds : List Int32) (G1 : Int32) (h0 : Heap) (n0 : Nat) (v : Option Value) (h : Heap) (L : List Loc) : Prop := v = some (.int (if (cs : List Int32) = ds then (1 : Int32) else 0)) ∧ Fr n0 L ∧ h = h0
set_option maxRecDepth 65536 in
set_option maxHeartbeats 40000000 in
theorem rm_miS (l : Launch) (Z : State) (a0 : Array Value) (hw : ∀ d ∈ tables_1, d.before a0 Z = true) (ws : List Jvm.Cond) (a : Addr) (b : Addr) (t1 : Addr) (kb1 : ClassId) (cs : List Int32) (b2 : Addr) (t2 : Addr) (kb2 : ClassId) (ds : List Int32) (G1 : Int32) (h0 : Heap) (n0 : Nat) (Z0 : n0 ≤ h0.size) (P0 : Fld Z h0 a "com/example/sillon/sillon/transport/SoapOperation$Parts" "message" "Ljava/lang/String;" (.ref b)) (P1 : Fld Z h0 a "com/example/sillon/sillon/transport/SoapOperation$Parts" "mainElement" "Ljava/lang/String;" (.ref b2)) (P2 : Str Z h0 b t1 kb1 cs) (P3 : Str Z h0 b2 t2 kb2 ds) (P4 : Old Z n0 h0) (O2 : Sta Z Z.heap "java/lang/String" "COMPACT_STRINGS" "Z" (.int G1)) (P5 : ¬ (G1 = (0 : Int32))) :
    MetFree l (⟨"com/example/sillon/sillon/transport/SoapOperation$Parts", "mainIsMessage", "()Z"⟩ : MethodName) (head1 (Jvm.Cond.code (⟨"com/example/sillon/sillon/transport/SoapOperation$Parts", "mainIsMessage", "()Z"⟩ : MethodName) prog_40_method_2_code 1 (some .boolean) :: ws) ({ frames := 2, cells := 0, slots := 0, locals := 28 } : Room)) (fun aR U => aR = #[(.ref a)] ∧ Z.Warmed39 U.vm ∧ U.heap = h0) (fun _ _ _ _ _ => True) (fun _ U o U' => ∃ v L, o = .returned v ∧ Q_miS Z a b t1 kb1 cs b2 t2 kb2 ds G1 h0 n0 v U'.heap L ∧ FrameEnd U o U' L ({ frames := 2, cells := 0, slots := 0, locals := 28 } : Room).cells ({ frames := 2, cells := 0, slots := 0, locals := 28 } : Room).slots) := by
  refine MetFree.of_bodySF (plainFor_of_name pn_4) hisR ?_
  intro p e s m args below meth c s₁ Bd hml0 hP hK
  obtain ⟨rfl, hZ, hh⟩ := hP
  have hx := Bd.exec
  have hby := Bd.bytes
  have hml : c.maxLocals = 1 := hml0
  have hown : s.vm.findClass "com/example/sillon/sillon/transport/SoapOperation$Parts" = some m.cls := findClass_of_methodNamed Bd.named
  have hnm := (name_of_methodNamed Bd.named Bd.method).1
  have X0 : Stand p l e ({ frames := 2, cells := 0, slots := 0, locals := 28 } : Room) s m #[(.ref a)] below meth c s₁ [] 0 0 := Stand.of_body Bd
  have e0 : s₁.heap = h0 := by rw [← hh, Bd.state]; rfl
  have N0 := Fr.nil n0
  show Goes p.tables e below _ _
  rw [ef_miS m a b t1 kb1 cs b2 t2 kb2 ds G1]
  refine Goes.named ?_
  intro QQ hQQ
  refine Goes.st (fun t k => XS.aloadN X0.here hx rfl (hb hby d10_0) rfl rfl k) ?_
  show Goes _ _ _ _ (s₁.setTop (mkF m 1 #[.val (.ref a)] [(.ref a)]))
  obtain ⟨T1, X1, e1, st1⟩ := getF X0 hx hZ hown (host := "") (Or.inl (hw49 hw)) Via.refl e0 P0 (g := (mkF m 1 #[.val (.ref a)] [(.ref a)])) rfl rfl (hb hby d10_1)
  refine Goes.st st1 ?_
  show Goes _ _ _ _ (T1.setTop (mkF m 4 #[.val (.ref a)] [(.ref b)]))
  refine Goes.st (fun t k => XS.aloadN X1.here hx rfl (hb hby d10_4) rfl rfl k) ?_
  show Goes _ _ _ _ (T1.setTop (mkF m 5 #[.val (.ref a)] [(.ref a), (.ref b)]))
  obtain ⟨T2, X2, e2, st2⟩ := getF X1 hx hZ hown (host := "") (Or.inl (hw55 hw)) Via.refl e1 P1 (g := (mkF m 5 #[.val (.ref a)] [(.ref a), (.ref b)])) rfl rfl (hb hby d10_5)
  refine Goes.st st2 ?_
  show Goes _ _ _ _ (T2.setTop (mkF m 8 #[.val (.ref a)] [(.ref b2), (.ref b)]))
  obtain ⟨cq3, kq3, q3a, q3b, q3c⟩ := isOf hZ e2 P2.1
  obtain ⟨_, _, ⟨T3, L3, k3, n3⟩, -, X3, ⟨Lc3, hQ3, l3, y3, z3⟩, st3⟩ := X2.virtualBack hx (y := (⟨"java/lang/String", "equals", "(Ljava/lang/Object;)Z"⟩ : MethodName)) (z := (⟨"java/lang/String", "equals", "(Ljava/lang/Object;)Z"⟩ : MethodName)) hown (mvT hZ (hw64 hw)) (mvT hZ (hw65 hw)) (notFace_of_selects (args := #[]) (mvT hZ (hw67 hw))) (mvT hZ (hw67 hw)) (mvT hZ (hw66 hw)) (by decide) (StrChars.Road.eqW (W := 0) hZ (own_heq hw) (kI := 4) (hw5 hw) P2.1 P2.2.1 P2.2.2.1 P2.2.2.2.1 (own_cod P2) (own_up P2.2.2.2.2.1) P2.2.2.2.2.2 P3.1 P3.2.1 P3.2.2.1 P3.2.2.2.1 (own_cod P3) (own_up P3.2.2.2.2.1) P3.2.2.2.2.2 (O2.ext P4.2) P5 (by decide) (by decide)) q3a q3c (g := (mkF m 8 #[.val (.ref a)] [(.ref b2), (.ref b)])) rfl (by rw [hml]; rfl) (Steps.refl _) (argsL := [(.ref b2)]) (rest := []) (lenOf pd_7 rfl) rfl (by show 2 * 0 + _ ≤ _; exact Nat.le_of_eq rfl) (hb hby d10_8) (fun _ _ => ⟨rfl, e2, (by decide : 0 + 0 ≤ _), (by decide : 0 + 0 ≤ _)⟩)
  dsimp only [Pt.U, Pt.locs, Pt.cells, Pt.slots] at X3 l3 y3 z3 st3 hQ3
  subst l3 y3 z3
  obtain ⟨hv3, rfl, K3⟩ := hQ3
  have hv3' := own_ite hv3
  subst hv3'
  have N3 := Fr.app N0 (Fr.nil n0)
  refine Goes.tr st3 ?_
  show Goes _ _ _ _ (T3.setTop (mkF m 11 #[.val (.ref a)] [(.int (if (cs : List Int32) = ds then (1 : Int32) else 0))]))
  obtain ⟨fs, hr, hrun, hended, hW, hsame⟩ := X3.leave (v := some (.int (nar .boolean (if (cs : List Int32) = ds then (1 : Int32) else 0)))) (fun h => by rw [Bd.returns] at h; cases h)
  subst hQQ
  refine ⟨_, _, retN X3 hx (t := .boolean) Bd.returns (by simp) (hb hby d10_11) hr, hrun, hended, _, _, rfl, ?_, ⟨_, rfl⟩, hW, hsame.mono (by decide) (by decide)⟩
  show Q_miS Z a b t1 kb1 cs b2 t2 kb2 ds G1 h0 n0 _ T3.heap _
  rw [K3]
  exact ⟨(by rw [own_narZ (own_z01 _)]), N3, rfl⟩
theorem ef_law (m : MethodId) (p0 : Int32) (p1 : Int32) (p2 : Int32) (G1 : Int32) : entryFrame m #[(.int p0), (.int p1), (.int p2)] maxLocals = (mkF m 0 #[.val (.int p0), .val (.int p1), .val (.int p2), .unset, .unset, .unset, .unset, .unset, .unset, .unset, .unset, .unset, .unset, .unset, .unset, .unset, .unset] []) := by first | (simp [entryFrame, mkF, argsToLocals, Value.category, maxLocals]; done) | rfl
def Q_law (Z : State) (p0 : Int32) (p1 : Int32) (p2 : Int32) (G1 : Int32) (h0 : Heap) (n0 : Nat) (v : Option Value) (h : Heap) (L : List Loc) : Prop := v = some (.int (1 : Int32)) ∧ Fr n0 L
set_option maxRecDepth 65536 in
set_option maxHeartbeats 40000000 in
theorem rm_law (l : Launch) (Z : State) (a0 : Array Value) (hw : ∀ d ∈ tables_1, d.before a0 Z = true) (ws : List Jvm.Cond) (p0 : Int32) (p1 : Int32) (p2 : Int32) (G1 : Int32) (h0 : Heap) (n0 : Nat) (Z0 : n0 ≤ h0.size) (P0 : Old Z n0 h0) (O2 : Sta Z Z.heap "java/lang/String" "COMPACT_STRINGS" "Z" (.int G1)) (P5 : ¬ (G1 = (0 : Int32))) :
    MetFree l x (head1 (Jvm.Cond.code x code maxLocals ret :: ws) room_1) (fun aR U => aR = #[(.int p0), (.int p1), (.int p2)] ∧ Z.Warmed39 U.vm ∧ U.heap = h0 ∧ CHv Z EL U.vm h0 ∧ ∀ x ∈ ([] : List Addr), Safe Z EL U.vm h0 x) (fun _ _ _ _ _ => True) (fun _ U o U' => ∃ v L, o = .returned v ∧ Q_law Z p0 p1 p2 G1 h0 n0 v U'.heap L ∧ CHr Z EL U.vm U.heap U'.vm U'.heap ∧ ReturnedEndW U o U' L room_1.cells room_1.slots) := by
  refine MetFree.of_bodySF (plainFor_of_name pn_3) hisR ?_
  intro p e s m args below meth c s₁ Bd hml0 hP hK
  obtain ⟨rfl, hZ, hh, hCH, hSF⟩ := hP
  have hx := Bd.exec
  have hby := Bd.bytes
  have hml : c.maxLocals = 17 := hml0
  have hown : s.vm.findClass "com/example/sillon/sillon/transport/PartsMainIsMessagePinLaw" = some m.cls := findClass_of_methodNamed Bd.named
  have hnm := (name_of_methodNamed Bd.named Bd.method).1
  have X0 : Stand p l e room_1 (s.setVm s.vm) m #[(.int p0), (.int p1), (.int p2)] below meth c s₁ [] 0 0 := Stand.of_body Bd
  have e0 : s₁.heap = h0 := by rw [← hh, Bd.state]; rfl
  have N0 := Fr.nil n0
  show Goes p.tables e below _ _
  rw [ef_law m p0 p1 p2 G1]
  refine Goes.named ?_
  intro QQ hQQ
  have hS0 : s.Since s.vm 0 := (State.WarmedH.refl s).since 0
  have hk0 : 0 ≤ h0.size := Nat.zero_le _
  have CR0 : CHr Z EL s.vm h0 s.vm h0 := CHr.refl hCH
  have J13 : ∀ (i3 : Int32), Goes p.tables e below QQ (s₁.setTop (mkF m 13 #[.val (.int p0), .val (.int p1), .val (.int p2), .unset, .unset, .unset, .unset, .unset, .unset, .unset, .unset, .unset, .unset, .unset, .unset, .unset, .unset] [(.int i3)])) := by
    intro i3
    show Goes _ _ _ _ (s₁.setTop (mkF m 13 #[.val (.int p0), .val (.int p1), .val (.int p2), .unset, .unset, .unset, .unset, .unset, .unset, .unset, .unset, .unset, .unset, .unset, .unset, .unset, .unset] [(.int i3)]))
    refine Goes.st (fun t k => XS.istoreN X0.here hx rfl (hb hby at_13) rfl (l' := #[.val (.int p0), .val (.int p1), .val (.int p2), .val (.int i3), .unset, .unset, .unset, .unset, .unset, .unset, .unset, .unset, .unset, .unset, .unset, .unset, .unset]) rfl k) ?_
    show Goes _ _ _ _ (s₁.setTop (mkF m 14 #[.val (.int p0), .val (.int p1), .val (.int p2), .val (.int i3), .unset, .unset, .unset, .unset, .unset, .unset, .unset, .unset, .unset, .unset, .unset, .unset, .unset] []))
    have J28 : ∀ (i4 : Int32), Goes p.tables e below QQ (s₁.setTop (mkF m 28 #[.val (.int p0), .val (.int p1), .val (.int p2), .val (.int i3), .unset, .unset, .unset, .unset, .unset, .unset, .unset, .unset, .unset, .unset, .unset, .unset, .unset] [(.int i4)])) := by
      intro i4
      show Goes _ _ _ _ (s₁.setTop (mkF m 28 #[.val (.int p0), .val (.int p1), .val (.int p2), .val (.int i3), .unset, .unset, .unset, .unset, .unset, .unset, .unset, .unset, .unset, .unset, .unset, .unset, .unset] [(.int i4)]))
      refine Goes.st (fun t k => XS.istore X0.here hx rfl (hb hby at_28) rfl (l' := #[.val (.int p0), .val (.int p1), .val (.int p2), .val (.int i3), .val (.int i4), .unset, .unset, .unset, .unset, .unset, .unset, .unset, .unset, .unset, .unset, .unset, .unset]) rfl k) ?_
      show Goes _ _ _ _ (s₁.setTop (mkF m 30 #[.val (.int p0), .val (.int p1), .val (.int p2), .val (.int i3), .val (.int i4), .unset, .unset, .unset, .unset, .unset, .unset, .unset, .unset, .unset, .unset, .unset, .unset] []))
      have J44 : ∀ (i5 : Int32), Goes p.tables e below QQ (s₁.setTop (mkF m 44 #[.val (.int p0), .val (.int p1), .val (.int p2), .val (.int i3), .val (.int i4), .unset, .unset, .unset, .unset, .unset, .unset, .unset, .unset, .unset, .unset, .unset, .unset] [(.int i5)])) := by
        intro i5
        show Goes _ _ _ _ (s₁.setTop (mkF m 44 #[.val (.int p0), .val (.int p1), .val (.int p2), .val (.int i3), .val (.int i4), .unset, .unset, .unset, .unset, .unset, .unset, .unset, .unset, .unset, .unset, .unset, .unset] [(.int i5)]))
        refine Goes.st (fun t k => XS.istore X0.here hx rfl (hb hby at_44) rfl (l' := #[.val (.int p0), .val (.int p1), .val (.int p2), .val (.int i3), .val (.int i4), .val (.int i5), .unset, .unset, .unset, .unset, .unset, .unset, .unset, .unset, .unset, .unset, .unset]) rfl k) ?_
        show Goes _ _ _ _ (s₁.setTop (mkF m 46 #[.val (.int p0), .val (.int p1), .val (.int p2), .val (.int i3), .val (.int i4), .val (.int i5), .unset, .unset, .unset, .unset, .unset, .unset, .unset, .unset, .unset, .unset, .unset] []))
        refine Goes.st (fun t k => XS.iloadN X0.here hx rfl (hb hby at_46) rfl k) ?_
        show Goes _ _ _ _ (s₁.setTop (mkF m 47 #[.val (.int p0), .val (.int p1), .val (.int p2), .val (.int i3), .val (.int i4), .val (.int i5), .unset, .unset, .unset, .unset, .unset, .unset, .unset, .unset, .unset, .unset, .unset] [(.int p2)]))
        refine Goes.st (fun t k => XS.iconst X0.here hx rfl (hb hby at_47) k) ?_
        show Goes _ _ _ _ (s₁.setTop (mkF m 48 #[.val (.int p0), .val (.int p1), .val (.int p2), .val (.int i3), .val (.int i4), .val (.int i5), .unset, .unset, .unset, .unset, .unset, .unset, .unset, .unset, .unset, .unset, .unset] [(.int (3 : Int32)), (.int p2)]))
        refine Goes.st (fun t k => XS.iand X0.here hx rfl (hb hby at_48) rfl k) ?_
        show Goes _ _ _ _ (s₁.setTop (mkF m 49 #[.val (.int p0), .val (.int p1), .val (.int p2), .val (.int i3), .val (.int i4), .val (.int i5), .unset, .unset, .unset, .unset, .unset, .unset, .unset, .unset, .unset, .unset, .unset] [(.int (p2 &&& (3 : Int32)))]))
        refine Goes.st (fun t k => XS.iconst X0.here hx rfl (hb hby at_49) k) ?_
        show Goes _ _ _ _ (s₁.setTop (mkF m 50 #[.val (.int p0), .val (.int p1), .val (.int p2), .val (.int i3), .val (.int i4), .val (.int i5), .unset, .unset, .unset, .unset, .unset, .unset, .unset, .unset, .unset, .unset, .unset] [(.int (3 : Int32)), (.int (p2 &&& (3 : Int32)))]))
        refine Goes.st (fun t k => iremM (g := (mkF m 50 #[.val (.int p0), .val (.int p1), .val (.int p2), .val (.int i3), .val (.int i4), .val (.int i5), .unset, .unset, .unset, .unset, .unset, .unset, .unset, .unset, .unset, .unset, .unset] [(.int (3 : Int32)), (.int (p2 &&& (3 : Int32)))])) X0 hx rfl (hb hby at_50) rfl (by decide) k) ?_
        show Goes _ _ _ _ (s₁.setTop (mkF m 51 #[.val (.int p0), .val (.int p1), .val (.int p2), .val (.int i3), .val (.int i4), .val (.int i5), .unset, .unset, .unset, .unset, .unset, .unset, .unset, .unset, .unset, .unset, .unset] [(.int ((p2 &&& (3 : Int32)) % (3 : Int32)))]))
        obtain ⟨i6, hi6⟩ : ∃ z, z = ((p2 &&& (3 : Int32)) % (3 : Int32)) := ⟨_, rfl⟩
        have h3i6 : Three i6 := by rw [hi6]; exact own_rem3 p2
        rw [← hi6]
        show Goes _ _ _ _ (s₁.setTop (mkF m 51 #[.val (.int p0), .val (.int p1), .val (.int p2), .val (.int i3), .val (.int i4), .val (.int i5), .unset, .unset, .unset, .unset, .unset, .unset, .unset, .unset, .unset, .unset, .unset] [(.int i6)]))
        refine Goes.st (fun t k => XS.istore X0.here hx rfl (hb hby at_51) rfl (l' := #[.val (.int p0), .val (.int p1), .val (.int p2), .val (.int i3), .val (.int i4), .val (.int i5), .val (.int i6), .unset, .unset, .unset, .unset, .unset, .unset, .unset, .unset, .unset, .unset]) rfl k) ?_
        show Goes _ _ _ _ (s₁.setTop (mkF m 53 #[.val (.int p0), .val (.int p1), .val (.int p2), .val (.int i3), .val (.int i4), .val (.int i5), .val (.int i6), .unset, .unset, .unset, .unset, .unset, .unset, .unset, .unset, .unset, .unset] []))
        have J69 : ∀ (i7 : Int32), Three i7 → Goes p.tables e below QQ (s₁.setTop (mkF m 69 #[.val (.int p0), .val (.int p1), .val (.int p2), .val (.int i3), .val (.int i4), .val (.int i5), .val (.int i6), .unset, .unset, .unset, .unset, .unset, .unset, .unset, .unset, .unset, .unset] [(.int i7)])) := by
          intro i7 h3i7
          show Goes _ _ _ _ (s₁.setTop (mkF m 69 #[.val (.int p0), .val (.int p1), .val (.int p2), .val (.int i3), .val (.int i4), .val (.int i5), .val (.int i6), .unset, .unset, .unset, .unset, .unset, .unset, .unset, .unset, .unset, .unset] [(.int i7)]))
          refine Goes.st (fun t k => XS.istore X0.here hx rfl (hb hby at_69) rfl (l' := #[.val (.int p0), .val (.int p1), .val (.int p2), .val (.int i3), .val (.int i4), .val (.int i5), .val (.int i6), .val (.int i7), .unset, .unset, .unset, .unset, .unset, .unset, .unset, .unset, .unset]) rfl k) ?_
          show Goes _ _ _ _ (s₁.setTop (mkF m 71 #[.val (.int p0), .val (.int p1), .val (.int p2), .val (.int i3), .val (.int i4), .val (.int i5), .val (.int i6), .val (.int i7), .unset, .unset, .unset, .unset, .unset, .unset, .unset, .unset, .unset] []))
          refine Goes.st (fun t k => XS.iloadN X0.here hx rfl (hb hby at_71) rfl k) ?_
          show Goes _ _ _ _ (s₁.setTop (mkF m 72 #[.val (.int p0), .val (.int p1), .val (.int p2), .val (.int i3), .val (.int i4), .val (.int i5), .val (.int i6), .val (.int i7), .unset, .unset, .unset, .unset, .unset, .unset, .unset, .unset, .unset] [(.int p0)]))
          refine Goes.st (fun t k => XS.sipush X0.here hx rfl (hb hby at_72) k) ?_
          show Goes _ _ _ _ (s₁.setTop (mkF m 75 #[.val (.int p0), .val (.int p1), .val (.int p2), .val (.int i3), .val (.int i4), .val (.int i5), .val (.int i6), .val (.int i7), .unset, .unset, .unset, .unset, .unset, .unset, .unset, .unset, .unset] [(.int (255 : Int32)), (.int p0)]))
          refine Goes.st (fun t k => XS.iand X0.here hx rfl (hb hby at_75) rfl k) ?_
          show Goes _ _ _ _ (s₁.setTop (mkF m 76 #[.val (.int p0), .val (.int p1), .val (.int p2), .val (.int i3), .val (.int i4), .val (.int i5), .val (.int i6), .val (.int i7), .unset, .unset, .unset, .unset, .unset, .unset, .unset, .unset, .unset] [(.int (p0 &&& (255 : Int32)))]))
          refine Goes.st (fun t k => XS.i2c X0.here hx rfl (hb hby at_76) rfl k) ?_
          show Goes _ _ _ _ (s₁.setTop (mkF m 77 #[.val (.int p0), .val (.int p1), .val (.int p2), .val (.int i3), .val (.int i4), .val (.int i5), .val (.int i6), .val (.int i7), .unset, .unset, .unset, .unset, .unset, .unset, .unset, .unset, .unset] [(.int ((p0 &&& (255 : Int32)).toUInt32.toUInt16.toUInt32.toInt32))]))
          obtain ⟨c8, hc8⟩ : ∃ z, z = ((p0 &&& (255 : Int32)).toUInt32.toUInt16.toUInt32.toInt32) := ⟨_, rfl⟩
          have rg_c8 : ¬ c8 < 0 ∧ ¬ (255 : Int32) < c8 := by rw [hc8]; exact own_i2cr p0
          rw [← hc8]
          show Goes _ _ _ _ (s₁.setTop (mkF m 77 #[.val (.int p0), .val (.int p1), .val (.int p2), .val (.int i3), .val (.int i4), .val (.int i5), .val (.int i6), .val (.int i7), .unset, .unset, .unset, .unset, .unset, .unset, .unset, .unset, .unset] [(.int c8)]))
          refine Goes.st (fun t k => XS.istore X0.here hx rfl (hb hby at_77) rfl (l' := #[.val (.int p0), .val (.int p1), .val (.int p2), .val (.int i3), .val (.int i4), .val (.int i5), .val (.int i6), .val (.int i7), .val (.int c8), .unset, .unset, .unset, .unset, .unset, .unset, .unset, .unset]) rfl k) ?_
          show Goes _ _ _ _ (s₁.setTop (mkF m 79 #[.val (.int p0), .val (.int p1), .val (.int p2), .val (.int i3), .val (.int i4), .val (.int i5), .val (.int i6), .val (.int i7), .val (.int c8), .unset, .unset, .unset, .unset, .unset, .unset, .unset, .unset] []))
          refine Goes.st (fun t k => XS.iloadN X0.here hx rfl (hb hby at_79) rfl k) ?_
          show Goes _ _ _ _ (s₁.setTop (mkF m 80 #[.val (.int p0), .val (.int p1), .val (.int p2), .val (.int i3), .val (.int i4), .val (.int i5), .val (.int i6), .val (.int i7), .val (.int c8), .unset, .unset, .unset, .unset, .unset, .unset, .unset, .unset] [(.int p0)]))
          refine Goes.st (fun t k => XS.bipush X0.here hx rfl (hb hby at_80) k) ?_
          show Goes _ _ _ _ (s₁.setTop (mkF m 82 #[.val (.int p0), .val (.int p1), .val (.int p2), .val (.int i3), .val (.int i4), .val (.int i5), .val (.int i6), .val (.int i7), .val (.int c8), .unset, .unset, .unset, .unset, .unset, .unset, .unset, .unset] [(.int (8 : Int32)), (.int p0)]))
          refine Goes.st (fun t k => XS.iushr X0.here hx rfl (hb hby at_82) rfl k) ?_
          show Goes _ _ _ _ (s₁.setTop (mkF m 83 #[.val (.int p0), .val (.int p1), .val (.int p2), .val (.int i3), .val (.int i4), .val (.int i5), .val (.int i6), .val (.int i7), .val (.int c8), .unset, .unset, .unset, .unset, .unset, .unset, .unset, .unset] [(.int ((p0.toUInt32 >>> ((8 : Int32) &&& 31).toUInt32).toInt32))]))
          refine Goes.st (fun t k => XS.sipush X0.here hx rfl (hb hby at_83) k) ?_
          show Goes _ _ _ _ (s₁.setTop (mkF m 86 #[.val (.int p0), .val (.int p1), .val (.int p2), .val (.int i3), .val (.int i4), .val (.int i5), .val (.int i6), .val (.int i7), .val (.int c8), .unset, .unset, .unset, .unset, .unset, .unset, .unset, .unset] [(.int (255 : Int32)), (.int ((p0.toUInt32 >>> ((8 : Int32) &&& 31).toUInt32).toInt32))]))
          refine Goes.st (fun t k => XS.iand X0.here hx rfl (hb hby at_86) rfl k) ?_
          show Goes _ _ _ _ (s₁.setTop (mkF m 87 #[.val (.int p0), .val (.int p1), .val (.int p2), .val (.int i3), .val (.int i4), .val (.int i5), .val (.int i6), .val (.int i7), .val (.int c8), .unset, .unset, .unset, .unset, .unset, .unset, .unset, .unset] [(.int (((p0.toUInt32 >>> ((8 : Int32) &&& 31).toUInt32).toInt32) &&& (255 : Int32)))]))
          refine Goes.st (fun t k => XS.i2c X0.here hx rfl (hb hby at_87) rfl k) ?_
          show Goes _ _ _ _ (s₁.setTop (mkF m 88 #[.val (.int p0), .val (.int p1), .val (.int p2), .val (.int i3), .val (.int i4), .val (.int i5), .val (.int i6), .val (.int i7), .val (.int c8), .unset, .unset, .unset, .unset, .unset, .unset, .unset, .unset] [(.int ((((p0.toUInt32 >>> ((8 : Int32) &&& 31).toUInt32).toInt32) &&& (255 : Int32)).toUInt32.toUInt16.toUInt32.toInt32))]))
          obtain ⟨c9, hc9⟩ : ∃ z, z = ((((p0.toUInt32 >>> ((8 : Int32) &&& 31).toUInt32).toInt32) &&& (255 : Int32)).toUInt32.toUInt16.toUInt32.toInt32) := ⟨_, rfl⟩
          have rg_c9 : ¬ c9 < 0 ∧ ¬ (255 : Int32) < c9 := by rw [hc9]; exact own_i2cr ((p0.toUInt32 >>> ((8 : Int32) &&& 31).toUInt32).toInt32)
          rw [← hc9]
          show Goes _ _ _ _ (s₁.setTop (mkF m 88 #[.val (.int p0), .val (.int p1), .val (.int p2), .val (.int i3), .val (.int i4), .val (.int i5), .val (.int i6), .val (.int i7), .val (.int c8), .unset, .unset, .unset, .unset, .unset, .unset, .unset, .unset] [(.int c9)]))
          refine Goes.st (fun t k => XS.istore X0.here hx rfl (hb hby at_88) rfl (l' := #[.val (.int p0), .val (.int p1), .val (.int p2), .val (.int i3), .val (.int i4), .val (.int i5), .val (.int i6), .val (.int i7), .val (.int c8), .val (.int c9), .unset, .unset, .unset, .unset, .unset, .unset, .unset]) rfl k) ?_
          show Goes _ _ _ _ (s₁.setTop (mkF m 90 #[.val (.int p0), .val (.int p1), .val (.int p2), .val (.int i3), .val (.int i4), .val (.int i5), .val (.int i6), .val (.int i7), .val (.int c8), .val (.int c9), .unset, .unset, .unset, .unset, .unset, .unset, .unset] []))
          have J105 : ∀ (c10 : Int32), ¬ c10 < 0 ∧ ¬ (255 : Int32) < c10 → Goes p.tables e below QQ (s₁.setTop (mkF m 105 #[.val (.int p0), .val (.int p1), .val (.int p2), .val (.int i3), .val (.int i4), .val (.int i5), .val (.int i6), .val (.int i7), .val (.int c8), .val (.int c9), .unset, .unset, .unset, .unset, .unset, .unset, .unset] [(.int c10)])) := by
            intro c10 rg_c10
            show Goes _ _ _ _ (s₁.setTop (mkF m 105 #[.val (.int p0), .val (.int p1), .val (.int p2), .val (.int i3), .val (.int i4), .val (.int i5), .val (.int i6), .val (.int i7), .val (.int c8), .val (.int c9), .unset, .unset, .unset, .unset, .unset, .unset, .unset] [(.int c10)]))
            refine Goes.st (fun t k => XS.istore X0.here hx rfl (hb hby at_105) rfl (l' := #[.val (.int p0), .val (.int p1), .val (.int p2), .val (.int i3), .val (.int i4), .val (.int i5), .val (.int i6), .val (.int i7), .val (.int c8), .val (.int c9), .val (.int c10), .unset, .unset, .unset, .unset, .unset, .unset]) rfl k) ?_
            show Goes _ _ _ _ (s₁.setTop (mkF m 107 #[.val (.int p0), .val (.int p1), .val (.int p2), .val (.int i3), .val (.int i4), .val (.int i5), .val (.int i6), .val (.int i7), .val (.int c8), .val (.int c9), .val (.int c10), .unset, .unset, .unset, .unset, .unset, .unset] []))
            have J125 : ∀ (c11 : Int32), ¬ c11 < 0 ∧ ¬ (255 : Int32) < c11 → Goes p.tables e below QQ (s₁.setTop (mkF m 125 #[.val (.int p0), .val (.int p1), .val (.int p2), .val (.int i3), .val (.int i4), .val (.int i5), .val (.int i6), .val (.int i7), .val (.int c8), .val (.int c9), .val (.int c10), .unset, .unset, .unset, .unset, .unset, .unset] [(.int c11)])) := by
              intro c11 rg_c11
              show Goes _ _ _ _ (s₁.setTop (mkF m 125 #[.val (.int p0), .val (.int p1), .val (.int p2), .val (.int i3), .val (.int i4), .val (.int i5), .val (.int i6), .val (.int i7), .val (.int c8), .val (.int c9), .val (.int c10), .unset, .unset, .unset, .unset, .unset, .unset] [(.int c11)]))
              refine Goes.st (fun t k => XS.istore X0.here hx rfl (hb hby at_125) rfl (l' := #[.val (.int p0), .val (.int p1), .val (.int p2), .val (.int i3), .val (.int i4), .val (.int i5), .val (.int i6), .val (.int i7), .val (.int c8), .val (.int c9), .val (.int c10), .val (.int c11), .unset, .unset, .unset, .unset, .unset]) rfl k) ?_
              show Goes _ _ _ _ (s₁.setTop (mkF m 127 #[.val (.int p0), .val (.int p1), .val (.int p2), .val (.int i3), .val (.int i4), .val (.int i5), .val (.int i6), .val (.int i7), .val (.int c8), .val (.int c9), .val (.int c10), .val (.int c11), .unset, .unset, .unset, .unset, .unset] []))
              refine Goes.st (fun t k => XS.iload X0.here hx rfl (hb hby at_127) rfl k) ?_
              show Goes _ _ _ _ (s₁.setTop (mkF m 129 #[.val (.int p0), .val (.int p1), .val (.int p2), .val (.int i3), .val (.int i4), .val (.int i5), .val (.int i6), .val (.int i7), .val (.int c8), .val (.int c9), .val (.int c10), .val (.int c11), .unset, .unset, .unset, .unset, .unset] [(.int i6)]))
              refine Goes.st (fun t k => XS.iload X0.here hx rfl (hb hby at_129) rfl k) ?_
              show Goes _ _ _ _ (s₁.setTop (mkF m 131 #[.val (.int p0), .val (.int p1), .val (.int p2), .val (.int i3), .val (.int i4), .val (.int i5), .val (.int i6), .val (.int i7), .val (.int c8), .val (.int c9), .val (.int c10), .val (.int c11), .unset, .unset, .unset, .unset, .unset] [(.int c8), (.int i6)]))
              refine Goes.st (fun t k => XS.iload X0.here hx rfl (hb hby at_131) rfl k) ?_
              show Goes _ _ _ _ (s₁.setTop (mkF m 133 #[.val (.int p0), .val (.int p1), .val (.int p2), .val (.int i3), .val (.int i4), .val (.int i5), .val (.int i6), .val (.int i7), .val (.int c8), .val (.int c9), .val (.int c10), .val (.int c11), .unset, .unset, .unset, .unset, .unset] [(.int c9), (.int c8), (.int i6)]))
              obtain ⟨_, _, ⟨T1, L1, k1, n1⟩, -, X1, hSr1, hgr1, ⟨Lc1, hQ1, l1, y1, z1, C1⟩, st1⟩ := callSS X0 hx (y := (⟨"com/example/sillon/sillon/transport/PartsMainIsMessagePinLaw", "make", "(ICC)Ljava/lang/String;"⟩ : MethodName)) hown (mvT hZ (hw0 hw)) (mvT hZ (hw1 hw)) (mvT hZ (hw2 hw)) (mvT hZ (hw3 hw)) (by decide) (own_backW (W := 0) (xs := []) (rm_make l Z a0 hw [] i6 c8 c9 G1 h0 n0 Z0 P0 rg_c8 rg_c9 O2 P5) hZ (hw3 hw) (hw2 hw) (by decide) (by decide) (own_EW hw) CR0.1 all0) (g := (mkF m 133 #[.val (.int p0), .val (.int p1), .val (.int p2), .val (.int i3), .val (.int i4), .val (.int i5), .val (.int i6), .val (.int i7), .val (.int c8), .val (.int c9), .val (.int c10), .val (.int c11), .unset, .unset, .unset, .unset, .unset] [(.int c9), (.int c8), (.int i6)])) rfl (by rw [hml]; rfl) (argsL := [(.int i6), (.int c8), (.int c9)]) (rest := []) (lenOf pd_8 rfl) rfl (by show 2 * 0 + _ ≤ _; exact Nat.le_of_eq rfl) (hb hby at_133) (fun _ _ => ⟨rfl, e0, (by decide : 0 + 6 ≤ _), (by decide : 0 + 12 ≤ _)⟩)
              dsimp only [Pt.U, Pt.locs, Pt.cells, Pt.slots] at X1 l1 y1 z1 st1 hQ1 hSr1 hgr1 C1
              subst l1 y1 z1
              obtain ⟨X1, hS1, hZ1, hown1⟩ := rebS hS0 (by rw [e0]; exact hk0) X1 hSr1 hgr1 hZ hown
              obtain ⟨r1, t1, kb1, rfl, N1q, K1, F1_0, lo1_0, ne1_0⟩ := hQ1
              have N1 := Fr.app N0 N1q
              have F1_0E := F1_0.1
              have CR2 : CHr Z EL s.vm h0 T1.vm T1.heap := CR0.trans (C1)
              refine Goes.tr st1 ?_
              show Goes _ _ _ _ (T1.setTop (mkF m 136 #[.val (.int p0), .val (.int p1), .val (.int p2), .val (.int i3), .val (.int i4), .val (.int i5), .val (.int i6), .val (.int i7), .val (.int c8), .val (.int c9), .val (.int c10), .val (.int c11), .unset, .unset, .unset, .unset, .unset] [(.ref r1)]))
              refine Goes.st (fun t k => XS.astore X1.here hx rfl (hb hby at_136) rfl rfl (l' := #[.val (.int p0), .val (.int p1), .val (.int p2), .val (.int i3), .val (.int i4), .val (.int i5), .val (.int i6), .val (.int i7), .val (.int c8), .val (.int c9), .val (.int c10), .val (.int c11), .val (.ref r1), .unset, .unset, .unset, .unset]) rfl k) ?_
              show Goes _ _ _ _ (T1.setTop (mkF m 138 #[.val (.int p0), .val (.int p1), .val (.int p2), .val (.int i3), .val (.int i4), .val (.int i5), .val (.int i6), .val (.int i7), .val (.int c8), .val (.int c9), .val (.int c10), .val (.int c11), .val (.ref r1), .unset, .unset, .unset, .unset] []))
              refine Goes.st (fun t k => XS.iload X1.here hx rfl (hb hby at_138) rfl k) ?_
              show Goes _ _ _ _ (T1.setTop (mkF m 140 #[.val (.int p0), .val (.int p1), .val (.int p2), .val (.int i3), .val (.int i4), .val (.int i5), .val (.int i6), .val (.int i7), .val (.int c8), .val (.int c9), .val (.int c10), .val (.int c11), .val (.ref r1), .unset, .unset, .unset, .unset] [(.int i4)]))
              by_cases cz3 : i4 = (0 : Int32)
              case pos =>
                refine Goes.st (fun t k => XS.ifYes X1.here hx rfl (pc0 := 140) (pc' := 147) rfl (hb hby at_140) rfl ((if0 _ _).trans (teq cz3).1) (by decide) (by decide) k) ?_
                show Goes _ _ _ _ (T1.setTop (mkF m 147 #[.val (.int p0), .val (.int p1), .val (.int p2), .val (.int i3), .val (.int i4), .val (.int i5), .val (.int i6), .val (.int i7), .val (.int c8), .val (.int c9), .val (.int c10), .val (.int c11), .val (.ref r1), .unset, .unset, .unset, .unset] []))
                refine Goes.st (fun t k => XS.iload X1.here hx rfl (hb hby at_147) rfl k) ?_
                show Goes _ _ _ _ (T1.setTop (mkF m 149 #[.val (.int p0), .val (.int p1), .val (.int p2), .val (.int i3), .val (.int i4), .val (.int i5), .val (.int i6), .val (.int i7), .val (.int c8), .val (.int c9), .val (.int c10), .val (.int c11), .val (.ref r1), .unset, .unset, .unset, .unset] [(.int i7)]))
                refine Goes.st (fun t k => XS.iload X1.here hx rfl (hb hby at_149) rfl k) ?_
                show Goes _ _ _ _ (T1.setTop (mkF m 151 #[.val (.int p0), .val (.int p1), .val (.int p2), .val (.int i3), .val (.int i4), .val (.int i5), .val (.int i6), .val (.int i7), .val (.int c8), .val (.int c9), .val (.int c10), .val (.int c11), .val (.ref r1), .unset, .unset, .unset, .unset] [(.int c10), (.int i7)]))
                refine Goes.st (fun t k => XS.iload X1.here hx rfl (hb hby at_151) rfl k) ?_
                show Goes _ _ _ _ (T1.setTop (mkF m 153 #[.val (.int p0), .val (.int p1), .val (.int p2), .val (.int i3), .val (.int i4), .val (.int i5), .val (.int i6), .val (.int i7), .val (.int c8), .val (.int c9), .val (.int c10), .val (.int c11), .val (.ref r1), .unset, .unset, .unset, .unset] [(.int c11), (.int c10), (.int i7)]))
                have f5 : Old Z n0 T1.heap := (P0.keep K1 all0)
                obtain ⟨_, _, ⟨T4, L4, k4, n4⟩, -, X4, hSr4, hgr4, ⟨Lc4, hQ4, l4, y4, z4, C4⟩, st4⟩ := callSS X1 hx (y := (⟨"com/example/sillon/sillon/transport/PartsMainIsMessagePinLaw", "make", "(ICC)Ljava/lang/String;"⟩ : MethodName)) hown1 (mvT hZ1 (hw0 hw)) (mvT hZ1 (hw1 hw)) (mvT hZ1 (hw2 hw)) (mvT hZ1 (hw3 hw)) (by decide) (own_backW (W := 0) (xs := []) (rm_make l Z a0 hw [] i7 c10 c11 G1 T1.heap n0 (Nat.le_trans Z0 K1.1) f5 rg_c10 rg_c11 O2 P5) hZ1 (hw3 hw) (hw2 hw) (by decide) (by decide) (own_EW hw) CR2.1 all0) (g := (mkF m 153 #[.val (.int p0), .val (.int p1), .val (.int p2), .val (.int i3), .val (.int i4), .val (.int i5), .val (.int i6), .val (.int i7), .val (.int c8), .val (.int c9), .val (.int c10), .val (.int c11), .val (.ref r1), .unset, .unset, .unset, .unset] [(.int c11), (.int c10), (.int i7)])) rfl (by rw [hml]; rfl) (argsL := [(.int i7), (.int c10), (.int c11)]) (rest := []) (lenOf pd_8 rfl) rfl (by show 2 * 0 + _ ≤ _; exact Nat.le_of_eq rfl) (hb hby at_153) (fun _ _ => ⟨rfl, rfl, (by decide : 6 + 6 ≤ _), (by decide : 12 + 12 ≤ _)⟩)
                dsimp only [Pt.U, Pt.locs, Pt.cells, Pt.slots] at X4 l4 y4 z4 st4 hQ4 hSr4 hgr4 C4
                subst l4 y4 z4
                obtain ⟨X4, hS4, hZ4, hown4⟩ := rebS hS1 (Nat.le_refl _) X4 hSr4 hgr4 hZ1 hown1
                obtain ⟨r4, t4, kb4, rfl, N4q, K4, F4_0, lo4_0, ne4_0⟩ := hQ4
                have N4 := Fr.app N1 N4q
                have F4_0E := F4_0.1
                have CR6 : CHr Z EL s.vm h0 T4.vm T4.heap := CR2.trans (C4)
                refine Goes.tr st4 ?_
                show Goes _ _ _ _ (T4.setTop (mkF m 156 #[.val (.int p0), .val (.int p1), .val (.int p2), .val (.int i3), .val (.int i4), .val (.int i5), .val (.int i6), .val (.int i7), .val (.int c8), .val (.int c9), .val (.int c10), .val (.int c11), .val (.ref r1), .unset, .unset, .unset, .unset] [(.ref r4)]))
                refine Goes.st (fun t k => XS.astore X4.here hx rfl (hb hby at_156) rfl rfl (l' := #[.val (.int p0), .val (.int p1), .val (.int p2), .val (.int i3), .val (.int i4), .val (.int i5), .val (.int i6), .val (.int i7), .val (.int c8), .val (.int c9), .val (.int c10), .val (.int c11), .val (.ref r1), .val (.ref r4), .unset, .unset, .unset]) rfl k) ?_
                show Goes _ _ _ _ (T4.setTop (mkF m 158 #[.val (.int p0), .val (.int p1), .val (.int p2), .val (.int i3), .val (.int i4), .val (.int i5), .val (.int i6), .val (.int i7), .val (.int c8), .val (.int c9), .val (.int c10), .val (.int c11), .val (.ref r1), .val (.ref r4), .unset, .unset, .unset] []))
                refine Goes.st (fun t k => XS.iload X4.here hx rfl (hb hby at_158) rfl k) ?_
                show Goes _ _ _ _ (T4.setTop (mkF m 160 #[.val (.int p0), .val (.int p1), .val (.int p2), .val (.int i3), .val (.int i4), .val (.int i5), .val (.int i6), .val (.int i7), .val (.int c8), .val (.int c9), .val (.int c10), .val (.int c11), .val (.ref r1), .val (.ref r4), .unset, .unset, .unset] [(.int i5)]))
                by_cases cz7 : i5 = (0 : Int32)
                case pos =>
                  refine Goes.st (fun t k => XS.ifYes X4.here hx rfl (pc0 := 160) (pc' := 168) rfl (hb hby at_160) rfl ((if0 _ _).trans (teq cz7).1) (by decide) (by decide) k) ?_
                  show Goes _ _ _ _ (T4.setTop (mkF m 168 #[.val (.int p0), .val (.int p1), .val (.int p2), .val (.int i3), .val (.int i4), .val (.int i5), .val (.int i6), .val (.int i7), .val (.int c8), .val (.int c9), .val (.int c10), .val (.int c11), .val (.ref r1), .val (.ref r4), .unset, .unset, .unset] []))
                  refine Goes.st (fun t k => XS.aconstNull X4.here hx rfl (hb hby at_168) k) ?_
                  show Goes _ _ _ _ (T4.setTop (mkF m 169 #[.val (.int p0), .val (.int p1), .val (.int p2), .val (.int i3), .val (.int i4), .val (.int i5), .val (.int i6), .val (.int i7), .val (.int c8), .val (.int c9), .val (.int c10), .val (.int c11), .val (.ref r1), .val (.ref r4), .unset, .unset, .unset] [.null]))
                  refine Goes.st (fun t k => XS.astore X4.here hx rfl (hb hby at_169) rfl rfl (l' := #[.val (.int p0), .val (.int p1), .val (.int p2), .val (.int i3), .val (.int i4), .val (.int i5), .val (.int i6), .val (.int i7), .val (.int c8), .val (.int c9), .val (.int c10), .val (.int c11), .val (.ref r1), .val (.ref r4), .val .null, .unset, .unset]) rfl k) ?_
                  show Goes _ _ _ _ (T4.setTop (mkF m 171 #[.val (.int p0), .val (.int p1), .val (.int p2), .val (.int i3), .val (.int i4), .val (.int i5), .val (.int i6), .val (.int i7), .val (.int c8), .val (.int c9), .val (.int c10), .val (.int c11), .val (.ref r1), .val (.ref r4), .val .null, .unset, .unset] []))
                  obtain ⟨T8, h8, X8, e8, E8, A8, D8, -, st8⟩ := newO X4 hx hZ4 hown4 (hw37 hw) (hw38 hw) (hw39 hw) rfl (g := (mkF m 171 #[.val (.int p0), .val (.int p1), .val (.int p2), .val (.int i3), .val (.int i4), .val (.int i5), .val (.int i6), .val (.int i7), .val (.int c8), .val (.int c9), .val (.int c10), .val (.int c11), .val (.ref r1), .val (.ref r4), .val .null, .unset, .unset] [])) rfl (hb hby at_171) (by decide) (by decide)
                  obtain ⟨b8, g8⟩ : ∃ z, z = T4.heap.size := ⟨_, rfl⟩
                  rw [← g8] at A8 D8 st8
                  have CR9 : CHr Z EL s.vm h0 T4.vm h8 := CR6.trans (CHr.ext E8 CR6.1)
                  have F8_message : Fld Z h8 b8 "com/example/sillon/sillon/transport/SoapOperation$Parts" "message" "Ljava/lang/String;" .null := D8 (Or.inr (hw50 hw)) (ty := (.object "java/lang/String")) (by decide)
                  have F8_head : Fld Z h8 b8 "com/example/sillon/sillon/transport/SoapOperation$Parts" "head" "Ljava/lang/String;" .null := D8 (Or.inr (hw52 hw)) (ty := (.object "java/lang/String")) (by decide)
                  have F8_main : Fld Z h8 b8 "com/example/sillon/sillon/transport/SoapOperation$Parts" "main" "Ljava/lang/String;" .null := D8 (Or.inr (hw54 hw)) (ty := (.object "java/lang/String")) (by decide)
                  have F8_mainElement : Fld Z h8 b8 "com/example/sillon/sillon/transport/SoapOperation$Parts" "mainElement" "Ljava/lang/String;" .null := D8 (Or.inr (hw56 hw)) (ty := (.object "java/lang/String")) (by decide)
                  have F8_extension : Fld Z h8 b8 "com/example/sillon/sillon/transport/SoapOperation$Parts" "extension" "Ljava/lang/String;" .null := D8 (Or.inr (hw58 hw)) (ty := (.object "java/lang/String")) (by decide)
                  refine Goes.st st8 ?_
                  show Goes _ _ _ _ (T8.setTop (mkF m 174 #[.val (.int p0), .val (.int p1), .val (.int p2), .val (.int i3), .val (.int i4), .val (.int i5), .val (.int i6), .val (.int i7), .val (.int c8), .val (.int c9), .val (.int c10), .val (.int c11), .val (.ref r1), .val (.ref r4), .val .null, .unset, .unset] [(.ref b8)]))
                  refine Goes.st (fun t k => XS.dup X8.here hx rfl (hb hby at_174) rfl rfl k) ?_
                  show Goes _ _ _ _ (T8.setTop (mkF m 175 #[.val (.int p0), .val (.int p1), .val (.int p2), .val (.int i3), .val (.int i4), .val (.int i5), .val (.int i6), .val (.int i7), .val (.int c8), .val (.int c9), .val (.int c10), .val (.int c11), .val (.ref r1), .val (.ref r4), .val .null, .unset, .unset] [(.ref b8), (.ref b8)]))
                  refine Goes.st (fun t k => XS.aload X8.here hx rfl (hb hby at_175) rfl rfl k) ?_
                  show Goes _ _ _ _ (T8.setTop (mkF m 177 #[.val (.int p0), .val (.int p1), .val (.int p2), .val (.int i3), .val (.int i4), .val (.int i5), .val (.int i6), .val (.int i7), .val (.int c8), .val (.int c9), .val (.int c10), .val (.int c11), .val (.ref r1), .val (.ref r4), .val .null, .unset, .unset] [(.ref r1), (.ref b8), (.ref b8)]))
                  refine Goes.st (fun t k => XS.aload X8.here hx rfl (hb hby at_177) rfl rfl k) ?_
                  show Goes _ _ _ _ (T8.setTop (mkF m 179 #[.val (.int p0), .val (.int p1), .val (.int p2), .val (.int i3), .val (.int i4), .val (.int i5), .val (.int i6), .val (.int i7), .val (.int c8), .val (.int c9), .val (.int c10), .val (.int c11), .val (.ref r1), .val (.ref r4), .val .null, .unset, .unset] [.null, (.ref r1), (.ref b8), (.ref b8)]))
                  refine Goes.st (fun t k => XS.aload X8.here hx rfl (hb hby at_179) rfl rfl k) ?_
                  show Goes _ _ _ _ (T8.setTop (mkF m 181 #[.val (.int p0), .val (.int p1), .val (.int p2), .val (.int i3), .val (.int i4), .val (.int i5), .val (.int i6), .val (.int i7), .val (.int c8), .val (.int c9), .val (.int c10), .val (.int c11), .val (.ref r1), .val (.ref r4), .val .null, .unset, .unset] [(.ref r1), .null, (.ref r1), (.ref b8), (.ref b8)]))
                  refine Goes.st (fun t k => XS.aload X8.here hx rfl (hb hby at_181) rfl rfl k) ?_
                  show Goes _ _ _ _ (T8.setTop (mkF m 183 #[.val (.int p0), .val (.int p1), .val (.int p2), .val (.int i3), .val (.int i4), .val (.int i5), .val (.int i6), .val (.int i7), .val (.int c8), .val (.int c9), .val (.int c10), .val (.int c11), .val (.ref r1), .val (.ref r4), .val .null, .unset, .unset] [(.ref r4), (.ref r1), .null, (.ref r1), (.ref b8), (.ref b8)]))
                  refine Goes.st (fun t k => XS.aconstNull X8.here hx rfl (hb hby at_183) k) ?_
                  show Goes _ _ _ _ (T8.setTop (mkF m 184 #[.val (.int p0), .val (.int p1), .val (.int p2), .val (.int i3), .val (.int i4), .val (.int i5), .val (.int i6), .val (.int i7), .val (.int c8), .val (.int c9), .val (.int c10), .val (.int c11), .val (.ref r1), .val (.ref r4), .val .null, .unset, .unset] [.null, (.ref r4), (.ref r1), .null, (.ref r1), (.ref b8), (.ref b8)]))
                  obtain ⟨_, _, ⟨T10, L10, k10, n10⟩, -, X10, ⟨Lc10, hQ10, l10, y10, z10⟩, st10⟩ := X8.specialBack hx (y := (⟨"com/example/sillon/sillon/transport/SoapOperation$Parts", "<init>", "(Ljava/lang/String;Ljava/lang/String;Ljava/lang/String;Ljava/lang/String;Ljava/lang/String;)V"⟩ : MethodName)) rfl hown4 (mvT hZ4 (hw40 hw)) (mvT hZ4 (hw41 hw)) (mvT hZ4 (hw42 hw)) (by decide) (backOf (W := 1) (rm_pinit l Z a0 hw [] b8 r1 (Value.null) (Value.ref r4) h8 n0 (Nat.le_trans Z0 (Nat.le_trans (Nat.le_trans K1.1 K4.1) E8.1)) A8 F8_message F8_head F8_main F8_mainElement F8_extension (Nat.le_trans Z0 (Nat.le_trans (Nat.le_trans K1.1 K4.1) (Nat.le_of_eq g8.symm))) rfl rfl) hZ4 (hw42 hw) (hw39 hw) (by decide) (by decide)) (g := (mkF m 184 #[.val (.int p0), .val (.int p1), .val (.int p2), .val (.int i3), .val (.int i4), .val (.int i5), .val (.int i6), .val (.int i7), .val (.int c8), .val (.int c9), .val (.int c10), .val (.int c11), .val (.ref r1), .val (.ref r4), .val .null, .unset, .unset] [.null, (.ref r4), (.ref r1), .null, (.ref r1), (.ref b8), (.ref b8)])) rfl (by rw [hml]; rfl) (Steps.refl _) (a := b8) (argsL := [(.ref r1), .null, (.ref r1), (.ref r4), .null]) (rest := [(.ref b8)]) (lenOf pd_9 rfl) rfl (by show 2 * 0 + _ ≤ _; exact Nat.le_of_eq rfl) (hb hby at_184) (fun _ _ => ⟨rfl, e8, (by decide : 13 + 0 ≤ _), (by decide : 29 + 0 ≤ _)⟩)
                  dsimp only [Pt.U, Pt.locs, Pt.cells, Pt.slots] at X10 l10 y10 z10 st10 hQ10
                  subst l10 y10 z10
                  obtain ⟨rfl, N10q, K10, F10_0, F10_1, F10_2⟩ := hQ10
                  have N10 := Fr.app N4 N10q
                  have hs11 : ∀ x ∈ ([b8] : List Addr), Safe Z EL T4.vm h8 x := (allS (Safe.exa hZ4.alike A8 (by decide) (by decide)) all0)
                  have CR11 : CHr Z EL s.vm h0 T4.vm T10.heap := CR9.trans (CHr.keep K10 hs11 CR9.1)
                  refine Goes.tr st10 ?_
                  show Goes _ _ _ _ (T10.setTop (mkF m 187 #[.val (.int p0), .val (.int p1), .val (.int p2), .val (.int i3), .val (.int i4), .val (.int i5), .val (.int i6), .val (.int i7), .val (.int c8), .val (.int c9), .val (.int c10), .val (.int c11), .val (.ref r1), .val (.ref r4), .val .null, .unset, .unset] [(.ref b8)]))
                  refine Goes.st (fun t k => XS.astore X10.here hx rfl (hb hby at_187) rfl rfl (l' := #[.val (.int p0), .val (.int p1), .val (.int p2), .val (.int i3), .val (.int i4), .val (.int i5), .val (.int i6), .val (.int i7), .val (.int c8), .val (.int c9), .val (.int c10), .val (.int c11), .val (.ref r1), .val (.ref r4), .val .null, .val (.ref b8), .unset]) rfl k) ?_
                  show Goes _ _ _ _ (T10.setTop (mkF m 189 #[.val (.int p0), .val (.int p1), .val (.int p2), .val (.int i3), .val (.int i4), .val (.int i5), .val (.int i6), .val (.int i7), .val (.int c8), .val (.int c9), .val (.int c10), .val (.int c11), .val (.ref r1), .val (.ref r4), .val .null, .val (.ref b8), .unset] []))
                  refine Goes.st (fun t k => XS.iload X10.here hx rfl (hb hby at_189) rfl k) ?_
                  show Goes _ _ _ _ (T10.setTop (mkF m 191 #[.val (.int p0), .val (.int p1), .val (.int p2), .val (.int i3), .val (.int i4), .val (.int i5), .val (.int i6), .val (.int i7), .val (.int c8), .val (.int c9), .val (.int c10), .val (.int c11), .val (.ref r1), .val (.ref r4), .val .null, .val (.ref b8), .unset] [(.int i4)]))
                  refine Goes.st (fun t k => XS.ifYes X10.here hx rfl (pc0 := 191) (pc' := 200) rfl (hb hby at_191) rfl ((if0 _ _).trans (teq cz3).1) (by decide) (by decide) k) ?_
                  show Goes _ _ _ _ (T10.setTop (mkF m 200 #[.val (.int p0), .val (.int p1), .val (.int p2), .val (.int i3), .val (.int i4), .val (.int i5), .val (.int i6), .val (.int i7), .val (.int c8), .val (.int c9), .val (.int c10), .val (.int c11), .val (.ref r1), .val (.ref r4), .val .null, .val (.ref b8), .unset] []))
                  refine Goes.st (fun t k => XS.iload X10.here hx rfl (hb hby at_200) rfl k) ?_
                  show Goes _ _ _ _ (T10.setTop (mkF m 202 #[.val (.int p0), .val (.int p1), .val (.int p2), .val (.int i3), .val (.int i4), .val (.int i5), .val (.int i6), .val (.int i7), .val (.int c8), .val (.int c9), .val (.int c10), .val (.int c11), .val (.ref r1), .val (.ref r4), .val .null, .val (.ref b8), .unset] [(.int i6)]))
                  refine Goes.st (fun t k => XS.iload X10.here hx rfl (hb hby at_202) rfl k) ?_
                  show Goes _ _ _ _ (T10.setTop (mkF m 204 #[.val (.int p0), .val (.int p1), .val (.int p2), .val (.int i3), .val (.int i4), .val (.int i5), .val (.int i6), .val (.int i7), .val (.int c8), .val (.int c9), .val (.int c10), .val (.int c11), .val (.ref r1), .val (.ref r4), .val .null, .val (.ref b8), .unset] [(.int i7), (.int i6)]))
                  by_cases cz12 : i6 = i7
                  case pos =>
                    refine Goes.st (fun t k => XS.icmpNo X10.here hx rfl (hb hby at_204) rfl (teq cz12).2 k) ?_
                    show Goes _ _ _ _ (T10.setTop (mkF m 207 #[.val (.int p0), .val (.int p1), .val (.int p2), .val (.int i3), .val (.int i4), .val (.int i5), .val (.int i6), .val (.int i7), .val (.int c8), .val (.int c9), .val (.int c10), .val (.int c11), .val (.ref r1), .val (.ref r4), .val .null, .val (.ref b8), .unset] []))
                    refine Goes.st (fun t k => XS.iload X10.here hx rfl (hb hby at_207) rfl k) ?_
                    show Goes _ _ _ _ (T10.setTop (mkF m 209 #[.val (.int p0), .val (.int p1), .val (.int p2), .val (.int i3), .val (.int i4), .val (.int i5), .val (.int i6), .val (.int i7), .val (.int c8), .val (.int c9), .val (.int c10), .val (.int c11), .val (.ref r1), .val (.ref r4), .val .null, .val (.ref b8), .unset] [(.int i6)]))
                    refine Goes.st (fun t k => XS.iconst X10.here hx rfl (hb hby at_209) k) ?_
                    show Goes _ _ _ _ (T10.setTop (mkF m 210 #[.val (.int p0), .val (.int p1), .val (.int p2), .val (.int i3), .val (.int i4), .val (.int i5), .val (.int i6), .val (.int i7), .val (.int c8), .val (.int c9), .val (.int c10), .val (.int c11), .val (.ref r1), .val (.ref r4), .val .null, .val (.ref b8), .unset] [(.int (1 : Int32)), (.int i6)]))
                    by_cases cz13 : i6 < (1 : Int32)
                    case pos =>
                      refine Goes.st (fun t k => XS.icmpYes X10.here hx rfl (pc0 := 210) (pc' := 220) rfl (hb hby at_210) rfl (tlt cz13).1 (by decide) (by decide) k) ?_
                      show Goes _ _ _ _ (T10.setTop (mkF m 220 #[.val (.int p0), .val (.int p1), .val (.int p2), .val (.int i3), .val (.int i4), .val (.int i5), .val (.int i6), .val (.int i7), .val (.int c8), .val (.int c9), .val (.int c10), .val (.int c11), .val (.ref r1), .val (.ref r4), .val .null, .val (.ref b8), .unset] []))
                      refine Goes.st (fun t k => XS.iload X10.here hx rfl (hb hby at_220) rfl k) ?_
                      show Goes _ _ _ _ (T10.setTop (mkF m 222 #[.val (.int p0), .val (.int p1), .val (.int p2), .val (.int i3), .val (.int i4), .val (.int i5), .val (.int i6), .val (.int i7), .val (.int c8), .val (.int c9), .val (.int c10), .val (.int c11), .val (.ref r1), .val (.ref r4), .val .null, .val (.ref b8), .unset] [(.int i6)]))
                      refine Goes.st (fun t k => XS.iconst X10.here hx rfl (hb hby at_222) k) ?_
                      show Goes _ _ _ _ (T10.setTop (mkF m 223 #[.val (.int p0), .val (.int p1), .val (.int p2), .val (.int i3), .val (.int i4), .val (.int i5), .val (.int i6), .val (.int i7), .val (.int c8), .val (.int c9), .val (.int c10), .val (.int c11), .val (.ref r1), .val (.ref r4), .val .null, .val (.ref b8), .unset] [(.int (2 : Int32)), (.int i6)]))
                      by_cases cz14 : i6 < (2 : Int32)
                      case pos =>
                        refine Goes.st (fun t k => XS.icmpYes X10.here hx rfl (pc0 := 223) (pc' := 233) rfl (hb hby at_223) rfl (tlt cz14).1 (by decide) (by decide) k) ?_
                        show Goes _ _ _ _ (T10.setTop (mkF m 233 #[.val (.int p0), .val (.int p1), .val (.int p2), .val (.int i3), .val (.int i4), .val (.int i5), .val (.int i6), .val (.int i7), .val (.int c8), .val (.int c9), .val (.int c10), .val (.int c11), .val (.ref r1), .val (.ref r4), .val .null, .val (.ref b8), .unset] []))
                        refine Goes.st (fun t k => XS.iconst X10.here hx rfl (hb hby at_233) k) ?_
                        show Goes _ _ _ _ (T10.setTop (mkF m 234 #[.val (.int p0), .val (.int p1), .val (.int p2), .val (.int i3), .val (.int i4), .val (.int i5), .val (.int i6), .val (.int i7), .val (.int c8), .val (.int c9), .val (.int c10), .val (.int c11), .val (.ref r1), .val (.ref r4), .val .null, .val (.ref b8), .unset] [(.int (1 : Int32))]))
                        refine Goes.st (fun t k => XS.goto X10.here hx rfl (pc0 := 234) (pc' := 238) rfl (hb hby at_234) (by decide) (by decide) k) ?_
                        show Goes _ _ _ _ (T10.setTop (mkF m 238 #[.val (.int p0), .val (.int p1), .val (.int p2), .val (.int i3), .val (.int i4), .val (.int i5), .val (.int i6), .val (.int i7), .val (.int c8), .val (.int c9), .val (.int c10), .val (.int c11), .val (.ref r1), .val (.ref r4), .val .null, .val (.ref b8), .unset] [(.int (1 : Int32))]))
                        refine Goes.st (fun t k => XS.istore X10.here hx rfl (hb hby at_238) rfl (l' := #[.val (.int p0), .val (.int p1), .val (.int p2), .val (.int i3), .val (.int i4), .val (.int i5), .val (.int i6), .val (.int i7), .val (.int c8), .val (.int c9), .val (.int c10), .val (.int c11), .val (.ref r1), .val (.ref r4), .val .null, .val (.ref b8), .val (.int (1 : Int32))]) rfl k) ?_
                        show Goes _ _ _ _ (T10.setTop (mkF m 240 #[.val (.int p0), .val (.int p1), .val (.int p2), .val (.int i3), .val (.int i4), .val (.int i5), .val (.int i6), .val (.int i7), .val (.int c8), .val (.int c9), .val (.int c10), .val (.int c11), .val (.ref r1), .val (.ref r4), .val .null, .val (.ref b8), .val (.int (1 : Int32))] []))
                        refine Goes.st (fun t k => XS.aload X10.here hx rfl (hb hby at_240) rfl rfl k) ?_
                        show Goes _ _ _ _ (T10.setTop (mkF m 242 #[.val (.int p0), .val (.int p1), .val (.int p2), .val (.int i3), .val (.int i4), .val (.int i5), .val (.int i6), .val (.int i7), .val (.int c8), .val (.int c9), .val (.int c10), .val (.int c11), .val (.ref r1), .val (.ref r4), .val .null, .val (.ref b8), .val (.int (1 : Int32))] [(.ref b8)]))
                        have f16 : Str Z T10.heap r1 t1 kb1 (own_mk i6 c8 c9) := (((F1_0.keep K4 nin0 nin0).ext E8).keep K10 (ninS (Nat.ne_of_lt (Nat.lt_of_lt_of_le F1_0.1.lt (Nat.le_trans K4.1 (Nat.le_of_eq g8.symm)))) nin0) (ninS (Nat.ne_of_lt (Nat.lt_of_lt_of_le F1_0.ltT (Nat.le_trans K4.1 (Nat.le_of_eq g8.symm)))) nin0))
                        have f17 : Str Z T10.heap r4 t4 kb4 (own_mk i7 c10 c11) := ((F4_0.ext E8).keep K10 (ninS (Nat.ne_of_lt (Nat.lt_of_lt_of_le F4_0.1.lt (Nat.le_of_eq g8.symm))) nin0) (ninS (Nat.ne_of_lt (Nat.lt_of_lt_of_le F4_0.ltT (Nat.le_of_eq g8.symm))) nin0))
                        have f18 : Old Z n0 T10.heap := (((f5.keep K4 all0).ext E8).keep K10 (allS (Nat.le_trans Z0 (Nat.le_trans (Nat.le_trans K1.1 K4.1) (Nat.le_of_eq g8.symm))) all0))
                        obtain ⟨cq15, kq15, q15a, q15b, q15c⟩ := isOf hZ4 rfl F10_0
                        obtain ⟨_, _, ⟨T15, L15, k15, n15⟩, -, X15, ⟨Lc15, hQ15, l15, y15, z15⟩, st15⟩ := X10.virtualBack hx (y := (⟨"com/example/sillon/sillon/transport/SoapOperation$Parts", "mainIsMessage", "()Z"⟩ : MethodName)) (z := (⟨"com/example/sillon/sillon/transport/SoapOperation$Parts", "mainIsMessage", "()Z"⟩ : MethodName)) hown4 (mvT hZ4 (hw59 hw)) (mvT hZ4 (hw60 hw)) (notFace_of_selects (args := #[]) (mvT hZ4 (hw62 hw))) (mvT hZ4 (hw62 hw)) (mvT hZ4 (hw61 hw)) (by decide) (backOf (W := 0) (rm_miS l Z a0 hw [] b8 r1 t1 kb1 (own_mk i6 c8 c9) r4 t4 kb4 (own_mk i7 c10 c11) G1 T10.heap n0 (Nat.le_trans Z0 (Nat.le_trans (Nat.le_trans (Nat.le_trans K1.1 K4.1) E8.1) K10.1)) F10_1 F10_2 f16 f17 f18 O2 P5) hZ4 (hw63 hw) (hw39 hw) (by decide) (by decide)) q15a q15c (g := (mkF m 242 #[.val (.int p0), .val (.int p1), .val (.int p2), .val (.int i3), .val (.int i4), .val (.int i5), .val (.int i6), .val (.int i7), .val (.int c8), .val (.int c9), .val (.int c10), .val (.int c11), .val (.ref r1), .val (.ref r4), .val .null, .val (.ref b8), .val (.int (1 : Int32))] [(.ref b8)])) rfl (by rw [hml]; rfl) (Steps.refl _) (argsL := []) (rest := []) (lenOf pd_10 rfl) rfl (by show 2 * 0 + _ ≤ _; exact Nat.le_of_eq rfl) (hb hby at_242) (fun _ _ => ⟨rfl, rfl, (by decide : 13 + 0 ≤ _), (by decide : 29 + 0 ≤ _)⟩)
                        dsimp only [Pt.U, Pt.locs, Pt.cells, Pt.slots] at X15 l15 y15 z15 st15 hQ15
                        subst l15 y15 z15
                        obtain ⟨rfl, N15q, K15⟩ := hQ15
                        have N15 := Fr.app N10 N15q
                        refine Goes.tr st15 ?_
                        show Goes _ _ _ _ (T15.setTop (mkF m 245 #[.val (.int p0), .val (.int p1), .val (.int p2), .val (.int i3), .val (.int i4), .val (.int i5), .val (.int i6), .val (.int i7), .val (.int c8), .val (.int c9), .val (.int c10), .val (.int c11), .val (.ref r1), .val (.ref r4), .val .null, .val (.ref b8), .val (.int (1 : Int32))] [(.int (if ((own_mk i6 c8 c9) : List Int32) = (own_mk i7 c10 c11) then (1 : Int32) else 0))]))
                        refine Goes.st (fun t k => XS.iload X15.here hx rfl (hb hby at_245) rfl k) ?_
                        show Goes _ _ _ _ (T15.setTop (mkF m 247 #[.val (.int p0), .val (.int p1), .val (.int p2), .val (.int i3), .val (.int i4), .val (.int i5), .val (.int i6), .val (.int i7), .val (.int c8), .val (.int c9), .val (.int c10), .val (.int c11), .val (.ref r1), .val (.ref r4), .val .null, .val (.ref b8), .val (.int (1 : Int32))] [(.int (1 : Int32)), (.int (if ((own_mk i6 c8 c9) : List Int32) = (own_mk i7 c10 c11) then (1 : Int32) else 0))]))
                        refine Goes.st (fun t k => XS.icmpNo X15.here hx rfl (hb hby at_247) rfl (teq (if_pos ((own_mkeq h3i6 h3i7).mpr ⟨cz12, (Or.inl cz13), (Or.inl cz14)⟩))).2 k) ?_
                        show Goes _ _ _ _ (T15.setTop (mkF m 250 #[.val (.int p0), .val (.int p1), .val (.int p2), .val (.int i3), .val (.int i4), .val (.int i5), .val (.int i6), .val (.int i7), .val (.int c8), .val (.int c9), .val (.int c10), .val (.int c11), .val (.ref r1), .val (.ref r4), .val .null, .val (.ref b8), .val (.int (1 : Int32))] []))
                        refine Goes.st (fun t k => XS.iconst X15.here hx rfl (hb hby at_250) k) ?_
                        show Goes _ _ _ _ (T15.setTop (mkF m 251 #[.val (.int p0), .val (.int p1), .val (.int p2), .val (.int i3), .val (.int i4), .val (.int i5), .val (.int i6), .val (.int i7), .val (.int c8), .val (.int c9), .val (.int c10), .val (.int c11), .val (.ref r1), .val (.ref r4), .val .null, .val (.ref b8), .val (.int (1 : Int32))] [(.int (1 : Int32))]))
                        refine Goes.st (fun t k => XS.goto X15.here hx rfl (pc0 := 251) (pc' := 255) rfl (hb hby at_251) (by decide) (by decide) k) ?_
                        show Goes _ _ _ _ (T15.setTop (mkF m 255 #[.val (.int p0), .val (.int p1), .val (.int p2), .val (.int i3), .val (.int i4), .val (.int i5), .val (.int i6), .val (.int i7), .val (.int c8), .val (.int c9), .val (.int c10), .val (.int c11), .val (.ref r1), .val (.ref r4), .val .null, .val (.ref b8), .val (.int (1 : Int32))] [(.int (1 : Int32))]))
                        obtain ⟨fs, hr, hrun, hended, hRW⟩ := X15.leaveW hS4 (by rw [K15]; exact (Nat.le_trans (Nat.le_trans (Nat.le_refl _) E8.1) K10.1)) (v := some (.int (1 : Int32))) (fun h => by rw [Bd.returns] at h; cases h)
                        subst hQQ
                        have hCR : CHr Z EL s.vm s.heap T15.vm T15.heap := by rw [hh, K15]; exact CR11.trans (CHv.at X15 hZ4 (own_EW hw) CR11.1)
                        refine ⟨_, _, retN X15 hx (t := .boolean) Bd.returns (by simp) (hb hby at_255) hr, hrun, hended, _, _, rfl, ?_, hCR, own_REmono hRW (by decide) (by decide)⟩
                        show Q_law Z p0 p1 p2 G1 h0 n0 _ T15.heap _
                        rw [K15]
                        exact ⟨rfl, N15⟩
                      case neg =>
                        refine Goes.st (fun t k => XS.icmpNo X10.here hx rfl (hb hby at_223) rfl (flt cz14).1 k) ?_
                        show Goes _ _ _ _ (T10.setTop (mkF m 226 #[.val (.int p0), .val (.int p1), .val (.int p2), .val (.int i3), .val (.int i4), .val (.int i5), .val (.int i6), .val (.int i7), .val (.int c8), .val (.int c9), .val (.int c10), .val (.int c11), .val (.ref r1), .val (.ref r4), .val .null, .val (.ref b8), .unset] []))
                        refine Goes.st (fun t k => XS.iload X10.here hx rfl (hb hby at_226) rfl k) ?_
                        show Goes _ _ _ _ (T10.setTop (mkF m 228 #[.val (.int p0), .val (.int p1), .val (.int p2), .val (.int i3), .val (.int i4), .val (.int i5), .val (.int i6), .val (.int i7), .val (.int c8), .val (.int c9), .val (.int c10), .val (.int c11), .val (.ref r1), .val (.ref r4), .val .null, .val (.ref b8), .unset] [(.int c9)]))
                        refine Goes.st (fun t k => XS.iload X10.here hx rfl (hb hby at_228) rfl k) ?_
                        show Goes _ _ _ _ (T10.setTop (mkF m 230 #[.val (.int p0), .val (.int p1), .val (.int p2), .val (.int i3), .val (.int i4), .val (.int i5), .val (.int i6), .val (.int i7), .val (.int c8), .val (.int c9), .val (.int c10), .val (.int c11), .val (.ref r1), .val (.ref r4), .val .null, .val (.ref b8), .unset] [(.int c11), (.int c9)]))
                        by_cases cz19 : c9 = c11
                        case pos =>
                          refine Goes.st (fun t k => XS.icmpNo X10.here hx rfl (hb hby at_230) rfl (teq cz19).2 k) ?_
                          show Goes _ _ _ _ (T10.setTop (mkF m 233 #[.val (.int p0), .val (.int p1), .val (.int p2), .val (.int i3), .val (.int i4), .val (.int i5), .val (.int i6), .val (.int i7), .val (.int c8), .val (.int c9), .val (.int c10), .val (.int c11), .val (.ref r1), .val (.ref r4), .val .null, .val (.ref b8), .unset] []))
                          refine Goes.st (fun t k => XS.iconst X10.here hx rfl (hb hby at_233) k) ?_
                          show Goes _ _ _ _ (T10.setTop (mkF m 234 #[.val (.int p0), .val (.int p1), .val (.int p2), .val (.int i3), .val (.int i4), .val (.int i5), .val (.int i6), .val (.int i7), .val (.int c8), .val (.int c9), .val (.int c10), .val (.int c11), .val (.ref r1), .val (.ref r4), .val .null, .val (.ref b8), .unset] [(.int (1 : Int32))]))
                          refine Goes.st (fun t k => XS.goto X10.here hx rfl (pc0 := 234) (pc' := 238) rfl (hb hby at_234) (by decide) (by decide) k) ?_
                          show Goes _ _ _ _ (T10.setTop (mkF m 238 #[.val (.int p0), .val (.int p1), .val (.int p2), .val (.int i3), .val (.int i4), .val (.int i5), .val (.int i6), .val (.int i7), .val (.int c8), .val (.int c9), .val (.int c10), .val (.int c11), .val (.ref r1), .val (.ref r4), .val .null, .val (.ref b8), .unset] [(.int (1 : Int32))]))
                          refine Goes.st (fun t k => XS.istore X10.here hx rfl (hb hby at_238) rfl (l' := #[.val (.int p0), .val (.int p1), .val (.int p2), .val (.int i3), .val (.int i4), .val (.int i5), .val (.int i6), .val (.int i7), .val (.int c8), .val (.int c9), .val (.int c10), .val (.int c11), .val (.ref r1), .val (.ref r4), .val .null, .val (.ref b8), .val (.int (1 : Int32))]) rfl k) ?_
                          show Goes _ _ _ _ (T10.setTop (mkF m 240 #[.val (.int p0), .val (.int p1), .val (.int p2), .val (.int i3), .val (.int i4), .val (.int i5), .val (.int i6), .val (.int i7), .val (.int c8), .val (.int c9), .val (.int c10), .val (.int c11), .val (.ref r1), .val (.ref r4), .val .null, .val (.ref b8), .val (.int (1 : Int32))] []))
                          refine Goes.st (fun t k => XS.aload X10.here hx rfl (hb hby at_240) rfl rfl k) ?_
                          show Goes _ _ _ _ (T10.setTop (mkF m 242 #[.val (.int p0), .val (.int p1), .val (.int p2), .val (.int i3), .val (.int i4), .val (.int i5), .val (.int i6), .val (.int i7), .val (.int c8), .val (.int c9), .val (.int c10), .val (.int c11), .val (.ref r1), .val (.ref r4), .val .null, .val (.ref b8), .val (.int (1 : Int32))] [(.ref b8)]))
                          have f21 : Str Z T10.heap r1 t1 kb1 (own_mk i6 c8 c9) := (((F1_0.keep K4 nin0 nin0).ext E8).keep K10 (ninS (Nat.ne_of_lt (Nat.lt_of_lt_of_le F1_0.1.lt (Nat.le_trans K4.1 (Nat.le_of_eq g8.symm)))) nin0) (ninS (Nat.ne_of_lt (Nat.lt_of_lt_of_le F1_0.ltT (Nat.le_trans K4.1 (Nat.le_of_eq g8.symm)))) nin0))
                          have f22 : Str Z T10.heap r4 t4 kb4 (own_mk i7 c10 c11) := ((F4_0.ext E8).keep K10 (ninS (Nat.ne_of_lt (Nat.lt_of_lt_of_le F4_0.1.lt (Nat.le_of_eq g8.symm))) nin0) (ninS (Nat.ne_of_lt (Nat.lt_of_lt_of_le F4_0.ltT (Nat.le_of_eq g8.symm))) nin0))
                          have f23 : Old Z n0 T10.heap := (((f5.keep K4 all0).ext E8).keep K10 (allS (Nat.le_trans Z0 (Nat.le_trans (Nat.le_trans K1.1 K4.1) (Nat.le_of_eq g8.symm))) all0))
                          obtain ⟨cq20, kq20, q20a, q20b, q20c⟩ := isOf hZ4 rfl F10_0
                          obtain ⟨_, _, ⟨T20, L20, k20, n20⟩, -, X20, ⟨Lc20, hQ20, l20, y20, z20⟩, st20⟩ := X10.virtualBack hx (y := (⟨"com/example/sillon/sillon/transport/SoapOperation$Parts", "mainIsMessage", "()Z"⟩ : MethodName)) (z := (⟨"com/example/sillon/sillon/transport/SoapOperation$Parts", "mainIsMessage", "()Z"⟩ : MethodName)) hown4 (mvT hZ4 (hw59 hw)) (mvT hZ4 (hw60 hw)) (notFace_of_selects (args := #[]) (mvT hZ4 (hw62 hw))) (mvT hZ4 (hw62 hw)) (mvT hZ4 (hw61 hw)) (by decide) (backOf (W := 0) (rm_miS l Z a0 hw [] b8 r1 t1 kb1 (own_mk i6 c8 c9) r4 t4 kb4 (own_mk i7 c10 c11) G1 T10.heap n0 (Nat.le_trans Z0 (Nat.le_trans (Nat.le_trans (Nat.le_trans K1.1 K4.1) E8.1) K10.1)) F10_1 F10_2 f21 f22 f23 O2 P5) hZ4 (hw63 hw) (hw39 hw) (by decide) (by decide)) q20a q20c (g := (mkF m 242 #[.val (.int p0), .val (.int p1), .val (.int p2), .val (.int i3), .val (.int i4), .val (.int i5), .val (.int i6), .val (.int i7), .val (.int c8), .val (.int c9), .val (.int c10), .val (.int c11), .val (.ref r1), .val (.ref r4), .val .null, .val (.ref b8), .val (.int (1 : Int32))] [(.ref b8)])) rfl (by rw [hml]; rfl) (Steps.refl _) (argsL := []) (rest := []) (lenOf pd_10 rfl) rfl (by show 2 * 0 + _ ≤ _; exact Nat.le_of_eq rfl) (hb hby at_242) (fun _ _ => ⟨rfl, rfl, (by decide : 13 + 0 ≤ _), (by decide : 29 + 0 ≤ _)⟩)
                          dsimp only [Pt.U, Pt.locs, Pt.cells, Pt.slots] at X20 l20 y20 z20 st20 hQ20
                          subst l20 y20 z20
                          obtain ⟨rfl, N20q, K20⟩ := hQ20
                          have N20 := Fr.app N10 N20q
                          refine Goes.tr st20 ?_
                          show Goes _ _ _ _ (T20.setTop (mkF m 245 #[.val (.int p0), .val (.int p1), .val (.int p2), .val (.int i3), .val (.int i4), .val (.int i5), .val (.int i6), .val (.int i7), .val (.int c8), .val (.int c9), .val (.int c10), .val (.int c11), .val (.ref r1), .val (.ref r4), .val .null, .val (.ref b8), .val (.int (1 : Int32))] [(.int (if ((own_mk i6 c8 c9) : List Int32) = (own_mk i7 c10 c11) then (1 : Int32) else 0))]))
                          refine Goes.st (fun t k => XS.iload X20.here hx rfl (hb hby at_245) rfl k) ?_
                          show Goes _ _ _ _ (T20.setTop (mkF m 247 #[.val (.int p0), .val (.int p1), .val (.int p2), .val (.int i3), .val (.int i4), .val (.int i5), .val (.int i6), .val (.int i7), .val (.int c8), .val (.int c9), .val (.int c10), .val (.int c11), .val (.ref r1), .val (.ref r4), .val .null, .val (.ref b8), .val (.int (1 : Int32))] [(.int (1 : Int32)), (.int (if ((own_mk i6 c8 c9) : List Int32) = (own_mk i7 c10 c11) then (1 : Int32) else 0))]))
                          refine Goes.st (fun t k => XS.icmpNo X20.here hx rfl (hb hby at_247) rfl (teq (if_pos ((own_mkeq h3i6 h3i7).mpr ⟨cz12, (Or.inl cz13), (Or.inr cz19)⟩))).2 k) ?_
                          show Goes _ _ _ _ (T20.setTop (mkF m 250 #[.val (.int p0), .val (.int p1), .val (.int p2), .val (.int i3), .val (.int i4), .val (.int i5), .val (.int i6), .val (.int i7), .val (.int c8), .val (.int c9), .val (.int c10), .val (.int c11), .val (.ref r1), .val (.ref r4), .val .null, .val (.ref b8), .val (.int (1 : Int32))] []))
                          refine Goes.st (fun t k => XS.iconst X20.here hx rfl (hb hby at_250) k) ?_
                          show Goes _ _ _ _ (T20.setTop (mkF m 251 #[.val (.int p0), .val (.int p1), .val (.int p2), .val (.int i3), .val (.int i4), .val (.int i5), .val (.int i6), .val (.int i7), .val (.int c8), .val (.int c9), .val (.int c10), .val (.int c11), .val (.ref r1), .val (.ref r4), .val .null, .val (.ref b8), .val (.int (1 : Int32))] [(.int (1 : Int32))]))
                          refine Goes.st (fun t k => XS.goto X20.here hx rfl (pc0 := 251) (pc' := 255) rfl (hb hby at_251) (by decide) (by decide) k) ?_
                          show Goes _ _ _ _ (T20.setTop (mkF m 255 #[.val (.int p0), .val (.int p1), .val (.int p2), .val (.int i3), .val (.int i4), .val (.int i5), .val (.int i6), .val (.int i7), .val (.int c8), .val (.int c9), .val (.int c10), .val (.int c11), .val (.ref r1), .val (.ref r4), .val .null, .val (.ref b8), .val (.int (1 : Int32))] [(.int (1 : Int32))]))
                          obtain ⟨fs, hr, hrun, hended, hRW⟩ := X20.leaveW hS4 (by rw [K20]; exact (Nat.le_trans (Nat.le_trans (Nat.le_refl _) E8.1) K10.1)) (v := some (.int (1 : Int32))) (fun h => by rw [Bd.returns] at h; cases h)
                          subst hQQ
                          have hCR : CHr Z EL s.vm s.heap T20.vm T20.heap := by rw [hh, K20]; exact CR11.trans (CHv.at X20 hZ4 (own_EW hw) CR11.1)
                          refine ⟨_, _, retN X20 hx (t := .boolean) Bd.returns (by simp) (hb hby at_255) hr, hrun, hended, _, _, rfl, ?_, hCR, own_REmono hRW (by decide) (by decide)⟩
                          show Q_law Z p0 p1 p2 G1 h0 n0 _ T20.heap _
                          rw [K20]
                          exact ⟨rfl, N20⟩
                        case neg =>
                          refine Goes.st (fun t k => XS.icmpYes X10.here hx rfl (pc0 := 230) (pc' := 237) rfl (hb hby at_230) rfl (feq cz19).2 (by decide) (by decide) k) ?_
                          show Goes _ _ _ _ (T10.setTop (mkF m 237 #[.val (.int p0), .val (.int p1), .val (.int p2), .val (.int i3), .val (.int i4), .val (.int i5), .val (.int i6), .val (.int i7), .val (.int c8), .val (.int c9), .val (.int c10), .val (.int c11), .val (.ref r1), .val (.ref r4), .val .null, .val (.ref b8), .unset] []))
                          refine Goes.st (fun t k => XS.iconst X10.here hx rfl (hb hby at_237) k) ?_
                          show Goes _ _ _ _ (T10.setTop (mkF m 238 #[.val (.int p0), .val (.int p1), .val (.int p2), .val (.int i3), .val (.int i4), .val (.int i5), .val (.int i6), .val (.int i7), .val (.int c8), .val (.int c9), .val (.int c10), .val (.int c11), .val (.ref r1), .val (.ref r4), .val .null, .val (.ref b8), .unset] [(.int (0 : Int32))]))
                          refine Goes.st (fun t k => XS.istore X10.here hx rfl (hb hby at_238) rfl (l' := #[.val (.int p0), .val (.int p1), .val (.int p2), .val (.int i3), .val (.int i4), .val (.int i5), .val (.int i6), .val (.int i7), .val (.int c8), .val (.int c9), .val (.int c10), .val (.int c11), .val (.ref r1), .val (.ref r4), .val .null, .val (.ref b8), .val (.int (0 : Int32))]) rfl k) ?_
                          show Goes _ _ _ _ (T10.setTop (mkF m 240 #[.val (.int p0), .val (.int p1), .val (.int p2), .val (.int i3), .val (.int i4), .val (.int i5), .val (.int i6), .val (.int i7), .val (.int c8), .val (.int c9), .val (.int c10), .val (.int c11), .val (.ref r1), .val (.ref r4), .val .null, .val (.ref b8), .val (.int (0 : Int32))] []))
                          refine Goes.st (fun t k => XS.aload X10.here hx rfl (hb hby at_240) rfl rfl k) ?_
                          show Goes _ _ _ _ (T10.setTop (mkF m 242 #[.val (.int p0), .val (.int p1), .val (.int p2), .val (.int i3), .val (.int i4), .val (.int i5), .val (.int i6), .val (.int i7), .val (.int c8), .val (.int c9), .val (.int c10), .val (.int c11), .val (.ref r1), .val (.ref r4), .val .null, .val (.ref b8), .val (.int (0 : Int32))] [(.ref b8)]))
                          have f25 : Str Z T10.heap r1 t1 kb1 (own_mk i6 c8 c9) := (((F1_0.keep K4 nin0 nin0).ext E8).keep K10 (ninS (Nat.ne_of_lt (Nat.lt_of_lt_of_le F1_0.1.lt (Nat.le_trans K4.1 (Nat.le_of_eq g8.symm)))) nin0) (ninS (Nat.ne_of_lt (Nat.lt_of_lt_of_le F1_0.ltT (Nat.le_trans K4.1 (Nat.le_of_eq g8.symm)))) nin0))
                          have f26 : Str Z T10.heap r4 t4 kb4 (own_mk i7 c10 c11) := ((F4_0.ext E8).keep K10 (ninS (Nat.ne_of_lt (Nat.lt_of_lt_of_le F4_0.1.lt (Nat.le_of_eq g8.symm))) nin0) (ninS (Nat.ne_of_lt (Nat.lt_of_lt_of_le F4_0.ltT (Nat.le_of_eq g8.symm))) nin0))
                          have f27 : Old Z n0 T10.heap := (((f5.keep K4 all0).ext E8).keep K10 (allS (Nat.le_trans Z0 (Nat.le_trans (Nat.le_trans K1.1 K4.1) (Nat.le_of_eq g8.symm))) all0))
                          obtain ⟨cq24, kq24, q24a, q24b, q24c⟩ := isOf hZ4 rfl F10_0
                          obtain ⟨_, _, ⟨T24, L24, k24, n24⟩, -, X24, ⟨Lc24, hQ24, l24, y24, z24⟩, st24⟩ := X10.virtualBack hx (y := (⟨"com/example/sillon/sillon/transport/SoapOperation$Parts", "mainIsMessage", "()Z"⟩ : MethodName)) (z := (⟨"com/example/sillon/sillon/transport/SoapOperation$Parts", "mainIsMessage", "()Z"⟩ : MethodName)) hown4 (mvT hZ4 (hw59 hw)) (mvT hZ4 (hw60 hw)) (notFace_of_selects (args := #[]) (mvT hZ4 (hw62 hw))) (mvT hZ4 (hw62 hw)) (mvT hZ4 (hw61 hw)) (by decide) (backOf (W := 0) (rm_miS l Z a0 hw [] b8 r1 t1 kb1 (own_mk i6 c8 c9) r4 t4 kb4 (own_mk i7 c10 c11) G1 T10.heap n0 (Nat.le_trans Z0 (Nat.le_trans (Nat.le_trans (Nat.le_trans K1.1 K4.1) E8.1) K10.1)) F10_1 F10_2 f25 f26 f27 O2 P5) hZ4 (hw63 hw) (hw39 hw) (by decide) (by decide)) q24a q24c (g := (mkF m 242 #[.val (.int p0), .val (.int p1), .val (.int p2), .val (.int i3), .val (.int i4), .val (.int i5), .val (.int i6), .val (.int i7), .val (.int c8), .val (.int c9), .val (.int c10), .val (.int c11), .val (.ref r1), .val (.ref r4), .val .null, .val (.ref b8), .val (.int (0 : Int32))] [(.ref b8)])) rfl (by rw [hml]; rfl) (Steps.refl _) (argsL := []) (rest := []) (lenOf pd_10 rfl) rfl (by show 2 * 0 + _ ≤ _; exact Nat.le_of_eq rfl) (hb hby at_242) (fun _ _ => ⟨rfl, rfl, (by decide : 13 + 0 ≤ _), (by decide : 29 + 0 ≤ _)⟩)
                          dsimp only [Pt.U, Pt.locs, Pt.cells, Pt.slots] at X24 l24 y24 z24 st24 hQ24
                          subst l24 y24 z24
                          obtain ⟨rfl, N24q, K24⟩ := hQ24
                          have N24 := Fr.app N10 N24q
                          refine Goes.tr st24 ?_
                          show Goes _ _ _ _ (T24.setTop (mkF m 245 #[.val (.int p0), .val (.int p1), .val (.int p2), .val (.int i3), .val (.int i4), .val (.int i5), .val (.int i6), .val (.int i7), .val (.int c8), .val (.int c9), .val (.int c10), .val (.int c11), .val (.ref r1), .val (.ref r4), .val .null, .val (.ref b8), .val (.int (0 : Int32))] [(.int (if ((own_mk i6 c8 c9) : List Int32) = (own_mk i7 c10 c11) then (1 : Int32) else 0))]))
                          refine Goes.st (fun t k => XS.iload X24.here hx rfl (hb hby at_245) rfl k) ?_
                          show Goes _ _ _ _ (T24.setTop (mkF m 247 #[.val (.int p0), .val (.int p1), .val (.int p2), .val (.int i3), .val (.int i4), .val (.int i5), .val (.int i6), .val (.int i7), .val (.int c8), .val (.int c9), .val (.int c10), .val (.int c11), .val (.ref r1), .val (.ref r4), .val .null, .val (.ref b8), .val (.int (0 : Int32))] [(.int (0 : Int32)), (.int (if ((own_mk i6 c8 c9) : List Int32) = (own_mk i7 c10 c11) then (1 : Int32) else 0))]))
                          refine Goes.st (fun t k => XS.icmpNo X24.here hx rfl (hb hby at_247) rfl (teq (if_neg fun q => ((own_mkeq h3i6 h3i7).mp q).2.2.elim cz14 cz19)).2 k) ?_
                          show Goes _ _ _ _ (T24.setTop (mkF m 250 #[.val (.int p0), .val (.int p1), .val (.int p2), .val (.int i3), .val (.int i4), .val (.int i5), .val (.int i6), .val (.int i7), .val (.int c8), .val (.int c9), .val (.int c10), .val (.int c11), .val (.ref r1), .val (.ref r4), .val .null, .val (.ref b8), .val (.int (0 : Int32))] []))
                          refine Goes.st (fun t k => XS.iconst X24.here hx rfl (hb hby at_250) k) ?_
                          show Goes _ _ _ _ (T24.setTop (mkF m 251 #[.val (.int p0), .val (.int p1), .val (.int p2), .val (.int i3), .val (.int i4), .val (.int i5), .val (.int i6), .val (.int i7), .val (.int c8), .val (.int c9), .val (.int c10), .val (.int c11), .val (.ref r1), .val (.ref r4), .val .null, .val (.ref b8), .val (.int (0 : Int32))] [(.int (1 : Int32))]))
                          refine Goes.st (fun t k => XS.goto X24.here hx rfl (pc0 := 251) (pc' := 255) rfl (hb hby at_251) (by decide) (by decide) k) ?_
                          show Goes _ _ _ _ (T24.setTop (mkF m 255 #[.val (.int p0), .val (.int p1), .val (.int p2), .val (.int i3), .val (.int i4), .val (.int i5), .val (.int i6), .val (.int i7), .val (.int c8), .val (.int c9), .val (.int c10), .val (.int c11), .val (.ref r1), .val (.ref r4), .val .null, .val (.ref b8), .val (.int (0 : Int32))] [(.int (1 : Int32))]))
                          obtain ⟨fs, hr, hrun, hended, hRW⟩ := X24.leaveW hS4 (by rw [K24]; exact (Nat.le_trans (Nat.le_trans (Nat.le_refl _) E8.1) K10.1)) (v := some (.int (1 : Int32))) (fun h => by rw [Bd.returns] at h; cases h)
                          subst hQQ
                          have hCR : CHr Z EL s.vm s.heap T24.vm T24.heap := by rw [hh, K24]; exact CR11.trans (CHv.at X24 hZ4 (own_EW hw) CR11.1)
                          refine ⟨_, _, retN X24 hx (t := .boolean) Bd.returns (by simp) (hb hby at_255) hr, hrun, hended, _, _, rfl, ?_, hCR, own_REmono hRW (by decide) (by decide)⟩
                          show Q_law Z p0 p1 p2 G1 h0 n0 _ T24.heap _
                          rw [K24]
                          exact ⟨rfl, N24⟩
                    case neg =>
                      refine Goes.st (fun t k => XS.icmpNo X10.here hx rfl (hb hby at_210) rfl (flt cz13).1 k) ?_
                      show Goes _ _ _ _ (T10.setTop (mkF m 213 #[.val (.int p0), .val (.int p1), .val (.int p2), .val (.int i3), .val (.int i4), .val (.int i5), .val (.int i6), .val (.int i7), .val (.int c8), .val (.int c9), .val (.int c10), .val (.int c11), .val (.ref r1), .val (.ref r4), .val .null, .val (.ref b8), .unset] []))
                      refine Goes.st (fun t k => XS.iload X10.here hx rfl (hb hby at_213) rfl k) ?_
                      show Goes _ _ _ _ (T10.setTop (mkF m 215 #[.val (.int p0), .val (.int p1), .val (.int p2), .val (.int i3), .val (.int i4), .val (.int i5), .val (.int i6), .val (.int i7), .val (.int c8), .val (.int c9), .val (.int c10), .val (.int c11), .val (.ref r1), .val (.ref r4), .val .null, .val (.ref b8), .unset] [(.int c8)]))
                      refine Goes.st (fun t k => XS.iload X10.here hx rfl (hb hby at_215) rfl k) ?_
                      show Goes _ _ _ _ (T10.setTop (mkF m 217 #[.val (.int p0), .val (.int p1), .val (.int p2), .val (.int i3), .val (.int i4), .val (.int i5), .val (.int i6), .val (.int i7), .val (.int c8), .val (.int c9), .val (.int c10), .val (.int c11), .val (.ref r1), .val (.ref r4), .val .null, .val (.ref b8), .unset] [(.int c10), (.int c8)]))
                      by_cases cz28 : c8 = c10
                      case pos =>
                        refine Goes.st (fun t k => XS.icmpNo X10.here hx rfl (hb hby at_217) rfl (teq cz28).2 k) ?_
                        show Goes _ _ _ _ (T10.setTop (mkF m 220 #[.val (.int p0), .val (.int p1), .val (.int p2), .val (.int i3), .val (.int i4), .val (.int i5), .val (.int i6), .val (.int i7), .val (.int c8), .val (.int c9), .val (.int c10), .val (.int c11), .val (.ref r1), .val (.ref r4), .val .null, .val (.ref b8), .unset] []))
                        refine Goes.st (fun t k => XS.iload X10.here hx rfl (hb hby at_220) rfl k) ?_
                        show Goes _ _ _ _ (T10.setTop (mkF m 222 #[.val (.int p0), .val (.int p1), .val (.int p2), .val (.int i3), .val (.int i4), .val (.int i5), .val (.int i6), .val (.int i7), .val (.int c8), .val (.int c9), .val (.int c10), .val (.int c11), .val (.ref r1), .val (.ref r4), .val .null, .val (.ref b8), .unset] [(.int i6)]))
                        refine Goes.st (fun t k => XS.iconst X10.here hx rfl (hb hby at_222) k) ?_
                        show Goes _ _ _ _ (T10.setTop (mkF m 223 #[.val (.int p0), .val (.int p1), .val (.int p2), .val (.int i3), .val (.int i4), .val (.int i5), .val (.int i6), .val (.int i7), .val (.int c8), .val (.int c9), .val (.int c10), .val (.int c11), .val (.ref r1), .val (.ref r4), .val .null, .val (.ref b8), .unset] [(.int (2 : Int32)), (.int i6)]))
                        by_cases cz29 : i6 < (2 : Int32)
                        case pos =>
                          refine Goes.st (fun t k => XS.icmpYes X10.here hx rfl (pc0 := 223) (pc' := 233) rfl (hb hby at_223) rfl (tlt cz29).1 (by decide) (by decide) k) ?_
                          show Goes _ _ _ _ (T10.setTop (mkF m 233 #[.val (.int p0), .val (.int p1), .val (.int p2), .val (.int i3), .val (.int i4), .val (.int i5), .val (.int i6), .val (.int i7), .val (.int c8), .val (.int c9), .val (.int c10), .val (.int c11), .val (.ref r1), .val (.ref r4), .val .null, .val (.ref b8), .unset] []))
                          refine Goes.st (fun t k => XS.iconst X10.here hx rfl (hb hby at_233) k) ?_
                          show Goes _ _ _ _ (T10.setTop (mkF m 234 #[.val (.int p0), .val (.int p1), .val (.int p2), .val (.int i3), .val (.int i4), .val (.int i5), .val (.int i6), .val (.int i7), .val (.int c8), .val (.int c9), .val (.int c10), .val (.int c11), .val (.ref r1), .val (.ref r4), .val .null, .val (.ref b8), .unset] [(.int (1 : Int32))]))
                          refine Goes.st (fun t k => XS.goto X10.here hx rfl (pc0 := 234) (pc' := 238) rfl (hb hby at_234) (by decide) (by decide) k) ?_
                          show Goes _ _ _ _ (T10.setTop (mkF m 238 #[.val (.int p0), .val (.int p1), .val (.int p2), .val (.int i3), .val (.int i4), .val (.int i5), .val (.int i6), .val (.int i7), .val (.int c8), .val (.int c9), .val (.int c10), .val (.int c11), .val (.ref r1), .val (.ref r4), .val .null, .val (.ref b8), .unset] [(.int (1 : Int32))]))
                          refine Goes.st (fun t k => XS.istore X10.here hx rfl (hb hby at_238) rfl (l' := #[.val (.int p0), .val (.int p1), .val (.int p2), .val (.int i3), .val (.int i4), .val (.int i5), .val (.int i6), .val (.int i7), .val (.int c8), .val (.int c9), .val (.int c10), .val (.int c11), .val (.ref r1), .val (.ref r4), .val .null, .val (.ref b8), .val (.int (1 : Int32))]) rfl k) ?_
                          show Goes _ _ _ _ (T10.setTop (mkF m 240 #[.val (.int p0), .val (.int p1), .val (.int p2), .val (.int i3), .val (.int i4), .val (.int i5), .val (.int i6), .val (.int i7), .val (.int c8), .val (.int c9), .val (.int c10), .val (.int c11), .val (.ref r1), .val (.ref r4), .val .null, .val (.ref b8), .val (.int (1 : Int32))] []))
                          refine Goes.st (fun t k => XS.aload X10.here hx rfl (hb hby at_240) rfl rfl k) ?_
                          show Goes _ _ _ _ (T10.setTop (mkF m 242 #[.val (.int p0), .val (.int p1), .val (.int p2), .val (.int i3), .val (.int i4), .val (.int i5), .val (.int i6), .val (.int i7), .val (.int c8), .val (.int c9), .val (.int c10), .val (.int c11), .val (.ref r1), .val (.ref r4), .val .null, .val (.ref b8), .val (.int (1 : Int32))] [(.ref b8)]))
                          have f31 : Str Z T10.heap r1 t1 kb1 (own_mk i6 c8 c9) := (((F1_0.keep K4 nin0 nin0).ext E8).keep K10 (ninS (Nat.ne_of_lt (Nat.lt_of_lt_of_le F1_0.1.lt (Nat.le_trans K4.1 (Nat.le_of_eq g8.symm)))) nin0) (ninS (Nat.ne_of_lt (Nat.lt_of_lt_of_le F1_0.ltT (Nat.le_trans K4.1 (Nat.le_of_eq g8.symm)))) nin0))
                          have f32 : Str Z T10.heap r4 t4 kb4 (own_mk i7 c10 c11) := ((F4_0.ext E8).keep K10 (ninS (Nat.ne_of_lt (Nat.lt_of_lt_of_le F4_0.1.lt (Nat.le_of_eq g8.symm))) nin0) (ninS (Nat.ne_of_lt (Nat.lt_of_lt_of_le F4_0.ltT (Nat.le_of_eq g8.symm))) nin0))
                          have f33 : Old Z n0 T10.heap := (((f5.keep K4 all0).ext E8).keep K10 (allS (Nat.le_trans Z0 (Nat.le_trans (Nat.le_trans K1.1 K4.1) (Nat.le_of_eq g8.symm))) all0))
                          obtain ⟨cq30, kq30, q30a, q30b, q30c⟩ := isOf hZ4 rfl F10_0
                          obtain ⟨_, _, ⟨T30, L30, k30, n30⟩, -, X30, ⟨Lc30, hQ30, l30, y30, z30⟩, st30⟩ := X10.virtualBack hx (y := (⟨"com/example/sillon/sillon/transport/SoapOperation$Parts", "mainIsMessage", "()Z"⟩ : MethodName)) (z := (⟨"com/example/sillon/sillon/transport/SoapOperation$Parts", "mainIsMessage", "()Z"⟩ : MethodName)) hown4 (mvT hZ4 (hw59 hw)) (mvT hZ4 (hw60 hw)) (notFace_of_selects (args := #[]) (mvT hZ4 (hw62 hw))) (mvT hZ4 (hw62 hw)) (mvT hZ4 (hw61 hw)) (by decide) (backOf (W := 0) (rm_miS l Z a0 hw [] b8 r1 t1 kb1 (own_mk i6 c8 c9) r4 t4 kb4 (own_mk i7 c10 c11) G1 T10.heap n0 (Nat.le_trans Z0 (Nat.le_trans (Nat.le_trans (Nat.le_trans K1.1 K4.1) E8.1) K10.1)) F10_1 F10_2 f31 f32 f33 O2 P5) hZ4 (hw63 hw) (hw39 hw) (by decide) (by decide)) q30a q30c (g := (mkF m 242 #[.val (.int p0), .val (.int p1), .val (.int p2), .val (.int i3), .val (.int i4), .val (.int i5), .val (.int i6), .val (.int i7), .val (.int c8), .val (.int c9), .val (.int c10), .val (.int c11), .val (.ref r1), .val (.ref r4), .val .null, .val (.ref b8), .val (.int (1 : Int32))] [(.ref b8)])) rfl (by rw [hml]; rfl) (Steps.refl _) (argsL := []) (rest := []) (lenOf pd_10 rfl) rfl (by show 2 * 0 + _ ≤ _; exact Nat.le_of_eq rfl) (hb hby at_242) (fun _ _ => ⟨rfl, rfl, (by decide : 13 + 0 ≤ _), (by decide : 29 + 0 ≤ _)⟩)
                          dsimp only [Pt.U, Pt.locs, Pt.cells, Pt.slots] at X30 l30 y30 z30 st30 hQ30
                          subst l30 y30 z30
                          obtain ⟨rfl, N30q, K30⟩ := hQ30
                          have N30 := Fr.app N10 N30q
                          refine Goes.tr st30 ?_
                          show Goes _ _ _ _ (T30.setTop (mkF m 245 #[.val (.int p0), .val (.int p1), .val (.int p2), .val (.int i3), .val (.int i4), .val (.int i5), .val (.int i6), .val (.int i7), .val (.int c8), .val (.int c9), .val (.int c10), .val (.int c11), .val (.ref r1), .val (.ref r4), .val .null, .val (.ref b8), .val (.int (1 : Int32))] [(.int (if ((own_mk i6 c8 c9) : List Int32) = (own_mk i7 c10 c11) then (1 : Int32) else 0))]))
                          refine Goes.st (fun t k => XS.iload X30.here hx rfl (hb hby at_245) rfl k) ?_
                          show Goes _ _ _ _ (T30.setTop (mkF m 247 #[.val (.int p0), .val (.int p1), .val (.int p2), .val (.int i3), .val (.int i4), .val (.int i5), .val (.int i6), .val (.int i7), .val (.int c8), .val (.int c9), .val (.int c10), .val (.int c11), .val (.ref r1), .val (.ref r4), .val .null, .val (.ref b8), .val (.int (1 : Int32))] [(.int (1 : Int32)), (.int (if ((own_mk i6 c8 c9) : List Int32) = (own_mk i7 c10 c11) then (1 : Int32) else 0))]))
                          refine Goes.st (fun t k => XS.icmpNo X30.here hx rfl (hb hby at_247) rfl (teq (if_pos ((own_mkeq h3i6 h3i7).mpr ⟨cz12, (Or.inr cz28), (Or.inl cz29)⟩))).2 k) ?_
                          show Goes _ _ _ _ (T30.setTop (mkF m 250 #[.val (.int p0), .val (.int p1), .val (.int p2), .val (.int i3), .val (.int i4), .val (.int i5), .val (.int i6), .val (.int i7), .val (.int c8), .val (.int c9), .val (.int c10), .val (.int c11), .val (.ref r1), .val (.ref r4), .val .null, .val (.ref b8), .val (.int (1 : Int32))] []))
                          refine Goes.st (fun t k => XS.iconst X30.here hx rfl (hb hby at_250) k) ?_
                          show Goes _ _ _ _ (T30.setTop (mkF m 251 #[.val (.int p0), .val (.int p1), .val (.int p2), .val (.int i3), .val (.int i4), .val (.int i5), .val (.int i6), .val (.int i7), .val (.int c8), .val (.int c9), .val (.int c10), .val (.int c11), .val (.ref r1), .val (.ref r4), .val .null, .val (.ref b8), .val (.int (1 : Int32))] [(.int (1 : Int32))]))
                          refine Goes.st (fun t k => XS.goto X30.here hx rfl (pc0 := 251) (pc' := 255) rfl (hb hby at_251) (by decide) (by decide) k) ?_
                          show Goes _ _ _ _ (T30.setTop (mkF m 255 #[.val (.int p0), .val (.int p1), .val (.int p2), .val (.int i3), .val (.int i4), .val (.int i5), .val (.int i6), .val (.int i7), .val (.int c8), .val (.int c9), .val (.int c10), .val (.int c11), .val (.ref r1), .val (.ref r4), .val .null, .val (.ref b8), .val (.int (1 : Int32))] [(.int (1 : Int32))]))
                          obtain ⟨fs, hr, hrun, hended, hRW⟩ := X30.leaveW hS4 (by rw [K30]; exact (Nat.le_trans (Nat.le_trans (Nat.le_refl _) E8.1) K10.1)) (v := some (.int (1 : Int32))) (fun h => by rw [Bd.returns] at h; cases h)
                          subst hQQ
                          have hCR : CHr Z EL s.vm s.heap T30.vm T30.heap := by rw [hh, K30]; exact CR11.trans (CHv.at X30 hZ4 (own_EW hw) CR11.1)
                          refine ⟨_, _, retN X30 hx (t := .boolean) Bd.returns (by simp) (hb hby at_255) hr, hrun, hended, _, _, rfl, ?_, hCR, own_REmono hRW (by decide) (by decide)⟩
                          show Q_law Z p0 p1 p2 G1 h0 n0 _ T30.heap _
                          rw [K30]
                          exact ⟨rfl, N30⟩
                        case neg =>
                          refine Goes.st (fun t k => XS.icmpNo X10.here hx rfl (hb hby at_223) rfl (flt cz29).1 k) ?_
                          show Goes _ _ _ _ (T10.setTop (mkF m 226 #[.val (.int p0), .val (.int p1), .val (.int p2), .val (.int i3), .val (.int i4), .val (.int i5), .val (.int i6), .val (.int i7), .val (.int c8), .val (.int c9), .val (.int c10), .val (.int c11), .val (.ref r1), .val (.ref r4), .val .null, .val (.ref b8), .unset] []))
                          refine Goes.st (fun t k => XS.iload X10.here hx rfl (hb hby at_226) rfl k) ?_
                          show Goes _ _ _ _ (T10.setTop (mkF m 228 #[.val (.int p0), .val (.int p1), .val (.int p2), .val (.int i3), .val (.int i4), .val (.int i5), .val (.int i6), .val (.int i7), .val (.int c8), .val (.int c9), .val (.int c10), .val (.int c11), .val (.ref r1), .val (.ref r4), .val .null, .val (.ref b8), .unset] [(.int c9)]))
                          refine Goes.st (fun t k => XS.iload X10.here hx rfl (hb hby at_228) rfl k) ?_
                          show Goes _ _ _ _ (T10.setTop (mkF m 230 #[.val (.int p0), .val (.int p1), .val (.int p2), .val (.int i3), .val (.int i4), .val (.int i5), .val (.int i6), .val (.int i7), .val (.int c8), .val (.int c9), .val (.int c10), .val (.int c11), .val (.ref r1), .val (.ref r4), .val .null, .val (.ref b8), .unset] [(.int c11), (.int c9)]))
                          by_cases cz34 : c9 = c11
                          case pos =>
                            refine Goes.st (fun t k => XS.icmpNo X10.here hx rfl (hb hby at_230) rfl (teq cz34).2 k) ?_
                            show Goes _ _ _ _ (T10.setTop (mkF m 233 #[.val (.int p0), .val (.int p1), .val (.int p2), .val (.int i3), .val (.int i4), .val (.int i5), .val (.int i6), .val (.int i7), .val (.int c8), .val (.int c9), .val (.int c10), .val (.int c11), .val (.ref r1), .val (.ref r4), .val .null, .val (.ref b8), .unset] []))
                            refine Goes.st (fun t k => XS.iconst X10.here hx rfl (hb hby at_233) k) ?_
                            show Goes _ _ _ _ (T10.setTop (mkF m 234 #[.val (.int p0), .val (.int p1), .val (.int p2), .val (.int i3), .val (.int i4), .val (.int i5), .val (.int i6), .val (.int i7), .val (.int c8), .val (.int c9), .val (.int c10), .val (.int c11), .val (.ref r1), .val (.ref r4), .val .null, .val (.ref b8), .unset] [(.int (1 : Int32))]))
                            refine Goes.st (fun t k => XS.goto X10.here hx rfl (pc0 := 234) (pc' := 238) rfl (hb hby at_234) (by decide) (by decide) k) ?_
                            show Goes _ _ _ _ (T10.setTop (mkF m 238 #[.val (.int p0), .val (.int p1), .val (.int p2), .val (.int i3), .val (.int i4), .val (.int i5), .val (.int i6), .val (.int i7), .val (.int c8), .val (.int c9), .val (.int c10), .val (.int c11), .val (.ref r1), .val (.ref r4), .val .null, .val (.ref b8), .unset] [(.int (1 : Int32))]))
                            refine Goes.st (fun t k => XS.istore X10.here hx rfl (hb hby at_238) rfl (l' := #[.val (.int p0), .val (.int p1), .val (.int p2), .val (.int i3), .val (.int i4), .val (.int i5), .val (.int i6), .val (.int i7), .val (.int c8), .val (.int c9), .val (.int c10), .val (.int c11), .val (.ref r1), .val (.ref r4), .val .null, .val (.ref b8), .val (.int (1 : Int32))]) rfl k) ?_
                            show Goes _ _ _ _ (T10.setTop (mkF m 240 #[.val (.int p0), .val (.int p1), .val (.int p2), .val (.int i3), .val (.int i4), .val (.int i5), .val (.int i6), .val (.int i7), .val (.int c8), .val (.int c9), .val (.int c10), .val (.int c11), .val (.ref r1), .val (.ref r4), .val .null, .val (.ref b8), .val (.int (1 : Int32))] []))
                            refine Goes.st (fun t k => XS.aload X10.here hx rfl (hb hby at_240) rfl rfl k) ?_
                            show Goes _ _ _ _ (T10.setTop (mkF m 242 #[.val (.int p0), .val (.int p1), .val (.int p2), .val (.int i3), .val (.int i4), .val (.int i5), .val (.int i6), .val (.int i7), .val (.int c8), .val (.int c9), .val (.int c10), .val (.int c11), .val (.ref r1), .val (.ref r4), .val .null, .val (.ref b8), .val (.int (1 : Int32))] [(.ref b8)]))
                            have f36 : Str Z T10.heap r1 t1 kb1 (own_mk i6 c8 c9) := (((F1_0.keep K4 nin0 nin0).ext E8).keep K10 (ninS (Nat.ne_of_lt (Nat.lt_of_lt_of_le F1_0.1.lt (Nat.le_trans K4.1 (Nat.le_of_eq g8.symm)))) nin0) (ninS (Nat.ne_of_lt (Nat.lt_of_lt_of_le F1_0.ltT (Nat.le_trans K4.1 (Nat.le_of_eq g8.symm)))) nin0))
                            have f37 : Str Z T10.heap r4 t4 kb4 (own_mk i7 c10 c11) := ((F4_0.ext E8).keep K10 (ninS (Nat.ne_of_lt (Nat.lt_of_lt_of_le F4_0.1.lt (Nat.le_of_eq g8.symm))) nin0) (ninS (Nat.ne_of_lt (Nat.lt_of_lt_of_le F4_0.ltT (Nat.le_of_eq g8.symm))) nin0))
                            have f38 : Old Z n0 T10.heap := (((f5.keep K4 all0).ext E8).keep K10 (allS (Nat.le_trans Z0 (Nat.le_trans (Nat.le_trans K1.1 K4.1) (Nat.le_of_eq g8.symm))) all0))
                            obtain ⟨cq35, kq35, q35a, q35b, q35c⟩ := isOf hZ4 rfl F10_0
                            obtain ⟨_, _, ⟨T35, L35, k35, n35⟩, -, X35, ⟨Lc35, hQ35, l35, y35, z35⟩, st35⟩ := X10.virtualBack hx (y := (⟨"com/example/sillon/sillon/transport/SoapOperation$Parts", "mainIsMessage", "()Z"⟩ : MethodName)) (z := (⟨"com/example/sillon/sillon/transport/SoapOperation$Parts", "mainIsMessage", "()Z"⟩ : MethodName)) hown4 (mvT hZ4 (hw59 hw)) (mvT hZ4 (hw60 hw)) (notFace_of_selects (args := #[]) (mvT hZ4 (hw62 hw))) (mvT hZ4 (hw62 hw)) (mvT hZ4 (hw61 hw)) (by decide) (backOf (W := 0) (rm_miS l Z a0 hw [] b8 r1 t1 kb1 (own_mk i6 c8 c9) r4 t4 kb4 (own_mk i7 c10 c11) G1 T10.heap n0 (Nat.le_trans Z0 (Nat.le_trans (Nat.le_trans (Nat.le_trans K1.1 K4.1) E8.1) K10.1)) F10_1 F10_2 f36 f37 f38 O2 P5) hZ4 (hw63 hw) (hw39 hw) (by decide) (by decide)) q35a q35c (g := (mkF m 242 #[.val (.int p0), .val (.int p1), .val (.int p2), .val (.int i3), .val (.int i4), .val (.int i5), .val (.int i6), .val (.int i7), .val (.int c8), .val (.int c9), .val (.int c10), .val (.int c11), .val (.ref r1), .val (.ref r4), .val .null, .val (.ref b8), .val (.int (1 : Int32))] [(.ref b8)])) rfl (by rw [hml]; rfl) (Steps.refl _) (argsL := []) (rest := []) (lenOf pd_10 rfl) rfl (by show 2 * 0 + _ ≤ _; exact Nat.le_of_eq rfl) (hb hby at_242) (fun _ _ => ⟨rfl, rfl, (by decide : 13 + 0 ≤ _), (by decide : 29 + 0 ≤ _)⟩)
                            dsimp only [Pt.U, Pt.locs, Pt.cells, Pt.slots] at X35 l35 y35 z35 st35 hQ35
                            subst l35 y35 z35
                            obtain ⟨rfl, N35q, K35⟩ := hQ35
                            have N35 := Fr.app N10 N35q
                            refine Goes.tr st35 ?_
                            show Goes _ _ _ _ (T35.setTop (mkF m 245 #[.val (.int p0), .val (.int p1), .val (.int p2), .val (.int i3), .val (.int i4), .val (.int i5), .val (.int i6), .val (.int i7), .val (.int c8), .val (.int c9), .val (.int c10), .val (.int c11), .val (.ref r1), .val (.ref r4), .val .null, .val (.ref b8), .val (.int (1 : Int32))] [(.int (if ((own_mk i6 c8 c9) : List Int32) = (own_mk i7 c10 c11) then (1 : Int32) else 0))]))
                            refine Goes.st (fun t k => XS.iload X35.here hx rfl (hb hby at_245) rfl k) ?_
                            show Goes _ _ _ _ (T35.setTop (mkF m 247 #[.val (.int p0), .val (.int p1), .val (.int p2), .val (.int i3), .val (.int i4), .val (.int i5), .val (.int i6), .val (.int i7), .val (.int c8), .val (.int c9), .val (.int c10), .val (.int c11), .val (.ref r1), .val (.ref r4), .val .null, .val (.ref b8), .val (.int (1 : Int32))] [(.int (1 : Int32)), (.int (if ((own_mk i6 c8 c9) : List Int32) = (own_mk i7 c10 c11) then (1 : Int32) else 0))]))
                            refine Goes.st (fun t k => XS.icmpNo X35.here hx rfl (hb hby at_247) rfl (teq (if_pos ((own_mkeq h3i6 h3i7).mpr ⟨cz12, (Or.inr cz28), (Or.inr cz34)⟩))).2 k) ?_
                            show Goes _ _ _ _ (T35.setTop (mkF m 250 #[.val (.int p0), .val (.int p1), .val (.int p2), .val (.int i3), .val (.int i4), .val (.int i5), .val (.int i6), .val (.int i7), .val (.int c8), .val (.int c9), .val (.int c10), .val (.int c11), .val (.ref r1), .val (.ref r4), .val .null, .val (.ref b8), .val (.int (1 : Int32))] []))
                            refine Goes.st (fun t k => XS.iconst X35.here hx rfl (hb hby at_250) k) ?_
                            show Goes _ _ _ _ (T35.setTop (mkF m 251 #[.val (.int p0), .val (.int p1), .val (.int p2), .val (.int i3), .val (.int i4), .val (.int i5), .val (.int i6), .val (.int i7), .val (.int c8), .val (.int c9), .val (.int c10), .val (.int c11), .val (.ref r1), .val (.ref r4), .val .null, .val (.ref b8), .val (.int (1 : Int32))] [(.int (1 : Int32))]))
                            refine Goes.st (fun t k => XS.goto X35.here hx rfl (pc0 := 251) (pc' := 255) rfl (hb hby at_251) (by decide) (by decide) k) ?_
                            show Goes _ _ _ _ (T35.setTop (mkF m 255 #[.val (.int p0), .val (.int p1), .val (.int p2), .val (.int i3), .val (.int i4), .val (.int i5), .val (.int i6), .val (.int i7), .val (.int c8), .val (.int c9), .val (.int c10), .val (.int c11), .val (.ref r1), .val (.ref r4), .val .null, .val (.ref b8), .val (.int (1 : Int32))] [(.int (1 : Int32))]))
                            obtain ⟨fs, hr, hrun, hended, hRW⟩ := X35.leaveW hS4 (by rw [K35]; exact (Nat.le_trans (Nat.le_trans (Nat.le_refl _) E8.1) K10.1)) (v := some (.int (1 : Int32))) (fun h => by rw [Bd.returns] at h; cases h)
                            subst hQQ
                            have hCR : CHr Z EL s.vm s.heap T35.vm T35.heap := by rw [hh, K35]; exact CR11.trans (CHv.at X35 hZ4 (own_EW hw) CR11.1)
                            refine ⟨_, _, retN X35 hx (t := .boolean) Bd.returns (by simp) (hb hby at_255) hr, hrun, hended, _, _, rfl, ?_, hCR, own_REmono hRW (by decide) (by decide)⟩
                            show Q_law Z p0 p1 p2 G1 h0 n0 _ T35.heap _
                            rw [K35]
                            exact ⟨rfl, N35⟩
                          case neg =>
                            refine Goes.st (fun t k => XS.icmpYes X10.here hx rfl (pc0 := 230) (pc' := 237) rfl (hb hby at_230) rfl (feq cz34).2 (by decide) (by decide) k) ?_
                            show Goes _ _ _ _ (T10.setTop (mkF m 237 #[.val (.int p0), .val (.int p1), .val (.int p2), .val (.int i3), .val (.int i4), .val (.int i5), .val (.int i6), .val (.int i7), .val (.int c8), .val (.int c9), .val (.int c10), .val (.int c11), .val (.ref r1), .val (.ref r4), .val .null, .val (.ref b8), .unset] []))
                            refine Goes.st (fun t k => XS.iconst X10.here hx rfl (hb hby at_237) k) ?_
                            show Goes _ _ _ _ (T10.setTop (mkF m 238 #[.val (.int p0), .val (.int p1), .val (.int p2), .val (.int i3), .val (.int i4), .val (.int i5), .val (.int i6), .val (.int i7), .val (.int c8), .val (.int c9), .val (.int c10), .val (.int c11), .val (.ref r1), .val (.ref r4), .val .null, .val (.ref b8), .unset] [(.int (0 : Int32))]))
                            refine Goes.st (fun t k => XS.istore X10.here hx rfl (hb hby at_238) rfl (l' := #[.val (.int p0), .val (.int p1), .val (.int p2), .val (.int i3), .val (.int i4), .val (.int i5), .val (.int i6), .val (.int i7), .val (.int c8), .val (.int c9), .val (.int c10), .val (.int c11), .val (.ref r1), .val (.ref r4), .val .null, .val (.ref b8), .val (.int (0 : Int32))]) rfl k) ?_
                            show Goes _ _ _ _ (T10.setTop (mkF m 240 #[.val (.int p0), .val (.int p1), .val (.int p2), .val (.int i3), .val (.int i4), .val (.int i5), .val (.int i6), .val (.int i7), .val (.int c8), .val (.int c9), .val (.int c10), .val (.int c11), .val (.ref r1), .val (.ref r4), .val .null, .val (.ref b8), .val (.int (0 : Int32))] []))
                            refine Goes.st (fun t k => XS.aload X10.here hx rfl (hb hby at_240) rfl rfl k) ?_
                            show Goes _ _ _ _ (T10.setTop (mkF m 242 #[.val (.int p0), .val (.int p1), .val (.int p2), .val (.int i3), .val (.int i4), .val (.int i5), .val (.int i6), .val (.int i7), .val (.int c8), .val (.int c9), .val (.int c10), .val (.int c11), .val (.ref r1), .val (.ref r4), .val .null, .val (.ref b8), .val (.int (0 : Int32))] [(.ref b8)]))
                            have f40 : Str Z T10.heap r1 t1 kb1 (own_mk i6 c8 c9) := (((F1_0.keep K4 nin0 nin0).ext E8).keep K10 (ninS (Nat.ne_of_lt (Nat.lt_of_lt_of_le F1_0.1.lt (Nat.le_trans K4.1 (Nat.le_of_eq g8.symm)))) nin0) (ninS (Nat.ne_of_lt (Nat.lt_of_lt_of_le F1_0.ltT (Nat.le_trans K4.1 (Nat.le_of_eq g8.symm)))) nin0))
                            have f41 : Str Z T10.heap r4 t4 kb4 (own_mk i7 c10 c11) := ((F4_0.ext E8).keep K10 (ninS (Nat.ne_of_lt (Nat.lt_of_lt_of_le F4_0.1.lt (Nat.le_of_eq g8.symm))) nin0) (ninS (Nat.ne_of_lt (Nat.lt_of_lt_of_le F4_0.ltT (Nat.le_of_eq g8.symm))) nin0))
                            have f42 : Old Z n0 T10.heap := (((f5.keep K4 all0).ext E8).keep K10 (allS (Nat.le_trans Z0 (Nat.le_trans (Nat.le_trans K1.1 K4.1) (Nat.le_of_eq g8.symm))) all0))
                            obtain ⟨cq39, kq39, q39a, q39b, q39c⟩ := isOf hZ4 rfl F10_0
                            obtain ⟨_, _, ⟨T39, L39, k39, n39⟩, -, X39, ⟨Lc39, hQ39, l39, y39, z39⟩, st39⟩ := X10.virtualBack hx (y := (⟨"com/example/sillon/sillon/transport/SoapOperation$Parts", "mainIsMessage", "()Z"⟩ : MethodName)) (z := (⟨"com/example/sillon/sillon/transport/SoapOperation$Parts", "mainIsMessage", "()Z"⟩ : MethodName)) hown4 (mvT hZ4 (hw59 hw)) (mvT hZ4 (hw60 hw)) (notFace_of_selects (args := #[]) (mvT hZ4 (hw62 hw))) (mvT hZ4 (hw62 hw)) (mvT hZ4 (hw61 hw)) (by decide) (backOf (W := 0) (rm_miS l Z a0 hw [] b8 r1 t1 kb1 (own_mk i6 c8 c9) r4 t4 kb4 (own_mk i7 c10 c11) G1 T10.heap n0 (Nat.le_trans Z0 (Nat.le_trans (Nat.le_trans (Nat.le_trans K1.1 K4.1) E8.1) K10.1)) F10_1 F10_2 f40 f41 f42 O2 P5) hZ4 (hw63 hw) (hw39 hw) (by decide) (by decide)) q39a q39c (g := (mkF m 242 #[.val (.int p0), .val (.int p1), .val (.int p2), .val (.int i3), .val (.int i4), .val (.int i5), .val (.int i6), .val (.int i7), .val (.int c8), .val (.int c9), .val (.int c10), .val (.int c11), .val (.ref r1), .val (.ref r4), .val .null, .val (.ref b8), .val (.int (0 : Int32))] [(.ref b8)])) rfl (by rw [hml]; rfl) (Steps.refl _) (argsL := []) (rest := []) (lenOf pd_10 rfl) rfl (by show 2 * 0 + _ ≤ _; exact Nat.le_of_eq rfl) (hb hby at_242) (fun _ _ => ⟨rfl, rfl, (by decide : 13 + 0 ≤ _), (by decide : 29 + 0 ≤ _)⟩)
                            dsimp only [Pt.U, Pt.locs, Pt.cells, Pt.slots] at X39 l39 y39 z39 st39 hQ39
                            subst l39 y39 z39
                            obtain ⟨rfl, N39q, K39⟩ := hQ39
                            have N39 := Fr.app N10 N39q
                            refine Goes.tr st39 ?_
                            show Goes _ _ _ _ (T39.setTop (mkF m 245 #[.val (.int p0), .val (.int p1), .val (.int p2), .val (.int i3), .val (.int i4), .val (.int i5), .val (.int i6), .val (.int i7), .val (.int c8), .val (.int c9), .val (.int c10), .val (.int c11), .val (.ref r1), .val (.ref r4), .val .null, .val (.ref b8), .val (.int (0 : Int32))] [(.int (if ((own_mk i6 c8 c9) : List Int32) = (own_mk i7 c10 c11) then (1 : Int32) else 0))]))
                            refine Goes.st (fun t k => XS.iload X39.here hx rfl (hb hby at_245) rfl k) ?_
                            show Goes _ _ _ _ (T39.setTop (mkF m 247 #[.val (.int p0), .val (.int p1), .val (.int p2), .val (.int i3), .val (.int i4), .val (.int i5), .val (.int i6), .val (.int i7), .val (.int c8), .val (.int c9), .val (.int c10), .val (.int c11), .val (.ref r1), .val (.ref r4), .val .null, .val (.ref b8), .val (.int (0 : Int32))] [(.int (0 : Int32)), (.int (if ((own_mk i6 c8 c9) : List Int32) = (own_mk i7 c10 c11) then (1 : Int32) else 0))]))
                            refine Goes.st (fun t k => XS.icmpNo X39.here hx rfl (hb hby at_247) rfl (teq (if_neg fun q => ((own_mkeq h3i6 h3i7).mp q).2.2.elim cz29 cz34)).2 k) ?_
                            show Goes _ _ _ _ (T39.setTop (mkF m 250 #[.val (.int p0), .val (.int p1), .val (.int p2), .val (.int i3), .val (.int i4), .val (.int i5), .val (.int i6), .val (.int i7), .val (.int c8), .val (.int c9), .val (.int c10), .val (.int c11), .val (.ref r1), .val (.ref r4), .val .null, .val (.ref b8), .val (.int (0 : Int32))] []))
                            refine Goes.st (fun t k => XS.iconst X39.here hx rfl (hb hby at_250) k) ?_
                            show Goes _ _ _ _ (T39.setTop (mkF m 251 #[.val (.int p0), .val (.int p1), .val (.int p2), .val (.int i3), .val (.int i4), .val (.int i5), .val (.int i6), .val (.int i7), .val (.int c8), .val (.int c9), .val (.int c10), .val (.int c11), .val (.ref r1), .val (.ref r4), .val .null, .val (.ref b8), .val (.int (0 : Int32))] [(.int (1 : Int32))]))
                            refine Goes.st (fun t k => XS.goto X39.here hx rfl (pc0 := 251) (pc' := 255) rfl (hb hby at_251) (by decide) (by decide) k) ?_
                            show Goes _ _ _ _ (T39.setTop (mkF m 255 #[.val (.int p0), .val (.int p1), .val (.int p2), .val (.int i3), .val (.int i4), .val (.int i5), .val (.int i6), .val (.int i7), .val (.int c8), .val (.int c9), .val (.int c10), .val (.int c11), .val (.ref r1), .val (.ref r4), .val .null, .val (.ref b8), .val (.int (0 : Int32))] [(.int (1 : Int32))]))
                            obtain ⟨fs, hr, hrun, hended, hRW⟩ := X39.leaveW hS4 (by rw [K39]; exact (Nat.le_trans (Nat.le_trans (Nat.le_refl _) E8.1) K10.1)) (v := some (.int (1 : Int32))) (fun h => by rw [Bd.returns] at h; cases h)
                            subst hQQ
                            have hCR : CHr Z EL s.vm s.heap T39.vm T39.heap := by rw [hh, K39]; exact CR11.trans (CHv.at X39 hZ4 (own_EW hw) CR11.1)
                            refine ⟨_, _, retN X39 hx (t := .boolean) Bd.returns (by simp) (hb hby at_255) hr, hrun, hended, _, _, rfl, ?_, hCR, own_REmono hRW (by decide) (by decide)⟩
                            show Q_law Z p0 p1 p2 G1 h0 n0 _ T39.heap _
                            rw [K39]
                            exact ⟨rfl, N39⟩
                      case neg =>
                        refine Goes.st (fun t k => XS.icmpYes X10.here hx rfl (pc0 := 217) (pc' := 237) rfl (hb hby at_217) rfl (feq cz28).2 (by decide) (by decide) k) ?_
                        show Goes _ _ _ _ (T10.setTop (mkF m 237 #[.val (.int p0), .val (.int p1), .val (.int p2), .val (.int i3), .val (.int i4), .val (.int i5), .val (.int i6), .val (.int i7), .val (.int c8), .val (.int c9), .val (.int c10), .val (.int c11), .val (.ref r1), .val (.ref r4), .val .null, .val (.ref b8), .unset] []))
                        refine Goes.st (fun t k => XS.iconst X10.here hx rfl (hb hby at_237) k) ?_
                        show Goes _ _ _ _ (T10.setTop (mkF m 238 #[.val (.int p0), .val (.int p1), .val (.int p2), .val (.int i3), .val (.int i4), .val (.int i5), .val (.int i6), .val (.int i7), .val (.int c8), .val (.int c9), .val (.int c10), .val (.int c11), .val (.ref r1), .val (.ref r4), .val .null, .val (.ref b8), .unset] [(.int (0 : Int32))]))
                        refine Goes.st (fun t k => XS.istore X10.here hx rfl (hb hby at_238) rfl (l' := #[.val (.int p0), .val (.int p1), .val (.int p2), .val (.int i3), .val (.int i4), .val (.int i5), .val (.int i6), .val (.int i7), .val (.int c8), .val (.int c9), .val (.int c10), .val (.int c11), .val (.ref r1), .val (.ref r4), .val .null, .val (.ref b8), .val (.int (0 : Int32))]) rfl k) ?_
                        show Goes _ _ _ _ (T10.setTop (mkF m 240 #[.val (.int p0), .val (.int p1), .val (.int p2), .val (.int i3), .val (.int i4), .val (.int i5), .val (.int i6), .val (.int i7), .val (.int c8), .val (.int c9), .val (.int c10), .val (.int c11), .val (.ref r1), .val (.ref r4), .val .null, .val (.ref b8), .val (.int (0 : Int32))] []))
                        refine Goes.st (fun t k => XS.aload X10.here hx rfl (hb hby at_240) rfl rfl k) ?_
                        show Goes _ _ _ _ (T10.setTop (mkF m 242 #[.val (.int p0), .val (.int p1), .val (.int p2), .val (.int i3), .val (.int i4), .val (.int i5), .val (.int i6), .val (.int i7), .val (.int c8), .val (.int c9), .val (.int c10), .val (.int c11), .val (.ref r1), .val (.ref r4), .val .null, .val (.ref b8), .val (.int (0 : Int32))] [(.ref b8)]))
                        have f44 : Str Z T10.heap r1 t1 kb1 (own_mk i6 c8 c9) := (((F1_0.keep K4 nin0 nin0).ext E8).keep K10 (ninS (Nat.ne_of_lt (Nat.lt_of_lt_of_le F1_0.1.lt (Nat.le_trans K4.1 (Nat.le_of_eq g8.symm)))) nin0) (ninS (Nat.ne_of_lt (Nat.lt_of_lt_of_le F1_0.ltT (Nat.le_trans K4.1 (Nat.le_of_eq g8.symm)))) nin0))
                        have f45 : Str Z T10.heap r4 t4 kb4 (own_mk i7 c10 c11) := ((F4_0.ext E8).keep K10 (ninS (Nat.ne_of_lt (Nat.lt_of_lt_of_le F4_0.1.lt (Nat.le_of_eq g8.symm))) nin0) (ninS (Nat.ne_of_lt (Nat.lt_of_lt_of_le F4_0.ltT (Nat.le_of_eq g8.symm))) nin0))
                        have f46 : Old Z n0 T10.heap := (((f5.keep K4 all0).ext E8).keep K10 (allS (Nat.le_trans Z0 (Nat.le_trans (Nat.le_trans K1.1 K4.1) (Nat.le_of_eq g8.symm))) all0))
                        obtain ⟨cq43, kq43, q43a, q43b, q43c⟩ := isOf hZ4 rfl F10_0
                        obtain ⟨_, _, ⟨T43, L43, k43, n43⟩, -, X43, ⟨Lc43, hQ43, l43, y43, z43⟩, st43⟩ := X10.virtualBack hx (y := (⟨"com/example/sillon/sillon/transport/SoapOperation$Parts", "mainIsMessage", "()Z"⟩ : MethodName)) (z := (⟨"com/example/sillon/sillon/transport/SoapOperation$Parts", "mainIsMessage", "()Z"⟩ : MethodName)) hown4 (mvT hZ4 (hw59 hw)) (mvT hZ4 (hw60 hw)) (notFace_of_selects (args := #[]) (mvT hZ4 (hw62 hw))) (mvT hZ4 (hw62 hw)) (mvT hZ4 (hw61 hw)) (by decide) (backOf (W := 0) (rm_miS l Z a0 hw [] b8 r1 t1 kb1 (own_mk i6 c8 c9) r4 t4 kb4 (own_mk i7 c10 c11) G1 T10.heap n0 (Nat.le_trans Z0 (Nat.le_trans (Nat.le_trans (Nat.le_trans K1.1 K4.1) E8.1) K10.1)) F10_1 F10_2 f44 f45 f46 O2 P5) hZ4 (hw63 hw) (hw39 hw) (by decide) (by decide)) q43a q43c (g := (mkF m 242 #[.val (.int p0), .val (.int p1), .val (.int p2), .val (.int i3), .val (.int i4), .val (.int i5), .val (.int i6), .val (.int i7), .val (.int c8), .val (.int c9), .val (.int c10), .val (.int c11), .val (.ref r1), .val (.ref r4), .val .null, .val (.ref b8), .val (.int (0 : Int32))] [(.ref b8)])) rfl (by rw [hml]; rfl) (Steps.refl _) (argsL := []) (rest := []) (lenOf pd_10 rfl) rfl (by show 2 * 0 + _ ≤ _; exact Nat.le_of_eq rfl) (hb hby at_242) (fun _ _ => ⟨rfl, rfl, (by decide : 13 + 0 ≤ _), (by decide : 29 + 0 ≤ _)⟩)
                        dsimp only [Pt.U, Pt.locs, Pt.cells, Pt.slots] at X43 l43 y43 z43 st43 hQ43
                        subst l43 y43 z43
                        obtain ⟨rfl, N43q, K43⟩ := hQ43
                        have N43 := Fr.app N10 N43q
                        refine Goes.tr st43 ?_
                        show Goes _ _ _ _ (T43.setTop (mkF m 245 #[.val (.int p0), .val (.int p1), .val (.int p2), .val (.int i3), .val (.int i4), .val (.int i5), .val (.int i6), .val (.int i7), .val (.int c8), .val (.int c9), .val (.int c10), .val (.int c11), .val (.ref r1), .val (.ref r4), .val .null, .val (.ref b8), .val (.int (0 : Int32))] [(.int (if ((own_mk i6 c8 c9) : List Int32) = (own_mk i7 c10 c11) then (1 : Int32) else 0))]))
                        refine Goes.st (fun t k => XS.iload X43.here hx rfl (hb hby at_245) rfl k) ?_
                        show Goes _ _ _ _ (T43.setTop (mkF m 247 #[.val (.int p0), .val (.int p1), .val (.int p2), .val (.int i3), .val (.int i4), .val (.int i5), .val (.int i6), .val (.int i7), .val (.int c8), .val (.int c9), .val (.int c10), .val (.int c11), .val (.ref r1), .val (.ref r4), .val .null, .val (.ref b8), .val (.int (0 : Int32))] [(.int (0 : Int32)), (.int (if ((own_mk i6 c8 c9) : List Int32) = (own_mk i7 c10 c11) then (1 : Int32) else 0))]))
                        refine Goes.st (fun t k => XS.icmpNo X43.here hx rfl (hb hby at_247) rfl (teq (if_neg fun q => ((own_mkeq h3i6 h3i7).mp q).2.1.elim cz13 cz28)).2 k) ?_
                        show Goes _ _ _ _ (T43.setTop (mkF m 250 #[.val (.int p0), .val (.int p1), .val (.int p2), .val (.int i3), .val (.int i4), .val (.int i5), .val (.int i6), .val (.int i7), .val (.int c8), .val (.int c9), .val (.int c10), .val (.int c11), .val (.ref r1), .val (.ref r4), .val .null, .val (.ref b8), .val (.int (0 : Int32))] []))
                        refine Goes.st (fun t k => XS.iconst X43.here hx rfl (hb hby at_250) k) ?_
                        show Goes _ _ _ _ (T43.setTop (mkF m 251 #[.val (.int p0), .val (.int p1), .val (.int p2), .val (.int i3), .val (.int i4), .val (.int i5), .val (.int i6), .val (.int i7), .val (.int c8), .val (.int c9), .val (.int c10), .val (.int c11), .val (.ref r1), .val (.ref r4), .val .null, .val (.ref b8), .val (.int (0 : Int32))] [(.int (1 : Int32))]))
                        refine Goes.st (fun t k => XS.goto X43.here hx rfl (pc0 := 251) (pc' := 255) rfl (hb hby at_251) (by decide) (by decide) k) ?_
                        show Goes _ _ _ _ (T43.setTop (mkF m 255 #[.val (.int p0), .val (.int p1), .val (.int p2), .val (.int i3), .val (.int i4), .val (.int i5), .val (.int i6), .val (.int i7), .val (.int c8), .val (.int c9), .val (.int c10), .val (.int c11), .val (.ref r1), .val (.ref r4), .val .null, .val (.ref b8), .val (.int (0 : Int32))] [(.int (1 : Int32))]))
                        obtain ⟨fs, hr, hrun, hended, hRW⟩ := X43.leaveW hS4 (by rw [K43]; exact (Nat.le_trans (Nat.le_trans (Nat.le_refl _) E8.1) K10.1)) (v := some (.int (1 : Int32))) (fun h => by rw [Bd.returns] at h; cases h)
                        subst hQQ
                        have hCR : CHr Z EL s.vm s.heap T43.vm T43.heap := by rw [hh, K43]; exact CR11.trans (CHv.at X43 hZ4 (own_EW hw) CR11.1)
                        refine ⟨_, _, retN X43 hx (t := .boolean) Bd.returns (by simp) (hb hby at_255) hr, hrun, hended, _, _, rfl, ?_, hCR, own_REmono hRW (by decide) (by decide)⟩
                        show Q_law Z p0 p1 p2 G1 h0 n0 _ T43.heap _
                        rw [K43]
                        exact ⟨rfl, N43⟩
                  case neg =>
                    refine Goes.st (fun t k => XS.icmpYes X10.here hx rfl (pc0 := 204) (pc' := 237) rfl (hb hby at_204) rfl (feq cz12).2 (by decide) (by decide) k) ?_
                    show Goes _ _ _ _ (T10.setTop (mkF m 237 #[.val (.int p0), .val (.int p1), .val (.int p2), .val (.int i3), .val (.int i4), .val (.int i5), .val (.int i6), .val (.int i7), .val (.int c8), .val (.int c9), .val (.int c10), .val (.int c11), .val (.ref r1), .val (.ref r4), .val .null, .val (.ref b8), .unset] []))
                    refine Goes.st (fun t k => XS.iconst X10.here hx rfl (hb hby at_237) k) ?_
                    show Goes _ _ _ _ (T10.setTop (mkF m 238 #[.val (.int p0), .val (.int p1), .val (.int p2), .val (.int i3), .val (.int i4), .val (.int i5), .val (.int i6), .val (.int i7), .val (.int c8), .val (.int c9), .val (.int c10), .val (.int c11), .val (.ref r1), .val (.ref r4), .val .null, .val (.ref b8), .unset] [(.int (0 : Int32))]))
                    refine Goes.st (fun t k => XS.istore X10.here hx rfl (hb hby at_238) rfl (l' := #[.val (.int p0), .val (.int p1), .val (.int p2), .val (.int i3), .val (.int i4), .val (.int i5), .val (.int i6), .val (.int i7), .val (.int c8), .val (.int c9), .val (.int c10), .val (.int c11), .val (.ref r1), .val (.ref r4), .val .null, .val (.ref b8), .val (.int (0 : Int32))]) rfl k) ?_
                    show Goes _ _ _ _ (T10.setTop (mkF m 240 #[.val (.int p0), .val (.int p1), .val (.int p2), .val (.int i3), .val (.int i4), .val (.int i5), .val (.int i6), .val (.int i7), .val (.int c8), .val (.int c9), .val (.int c10), .val (.int c11), .val (.ref r1), .val (.ref r4), .val .null, .val (.ref b8), .val (.int (0 : Int32))] []))
                    refine Goes.st (fun t k => XS.aload X10.here hx rfl (hb hby at_240) rfl rfl k) ?_
                    show Goes _ _ _ _ (T10.setTop (mkF m 242 #[.val (.int p0), .val (.int p1), .val (.int p2), .val (.int i3), .val (.int i4), .val (.int i5), .val (.int i6), .val (.int i7), .val (.int c8), .val (.int c9), .val (.int c10), .val (.int c11), .val (.ref r1), .val (.ref r4), .val .null, .val (.ref b8), .val (.int (0 : Int32))] [(.ref b8)]))
                    have f48 : Str Z T10.heap r1 t1 kb1 (own_mk i6 c8 c9) := (((F1_0.keep K4 nin0 nin0).ext E8).keep K10 (ninS (Nat.ne_of_lt (Nat.lt_of_lt_of_le F1_0.1.lt (Nat.le_trans K4.1 (Nat.le_of_eq g8.symm)))) nin0) (ninS (Nat.ne_of_lt (Nat.lt_of_lt_of_le F1_0.ltT (Nat.le_trans K4.1 (Nat.le_of_eq g8.symm)))) nin0))
                    have f49 : Str Z T10.heap r4 t4 kb4 (own_mk i7 c10 c11) := ((F4_0.ext E8).keep K10 (ninS (Nat.ne_of_lt (Nat.lt_of_lt_of_le F4_0.1.lt (Nat.le_of_eq g8.symm))) nin0) (ninS (Nat.ne_of_lt (Nat.lt_of_lt_of_le F4_0.ltT (Nat.le_of_eq g8.symm))) nin0))
                    have f50 : Old Z n0 T10.heap := (((f5.keep K4 all0).ext E8).keep K10 (allS (Nat.le_trans Z0 (Nat.le_trans (Nat.le_trans K1.1 K4.1) (Nat.le_of_eq g8.symm))) all0))
                    obtain ⟨cq47, kq47, q47a, q47b, q47c⟩ := isOf hZ4 rfl F10_0
                    obtain ⟨_, _, ⟨T47, L47, k47, n47⟩, -, X47, ⟨Lc47, hQ47, l47, y47, z47⟩, st47⟩ := X10.virtualBack hx (y := (⟨"com/example/sillon/sillon/transport/SoapOperation$Parts", "mainIsMessage", "()Z"⟩ : MethodName)) (z := (⟨"com/example/sillon/sillon/transport/SoapOperation$Parts", "mainIsMessage", "()Z"⟩ : MethodName)) hown4 (mvT hZ4 (hw59 hw)) (mvT hZ4 (hw60 hw)) (notFace_of_selects (args := #[]) (mvT hZ4 (hw62 hw))) (mvT hZ4 (hw62 hw)) (mvT hZ4 (hw61 hw)) (by decide) (backOf (W := 0) (rm_miS l Z a0 hw [] b8 r1 t1 kb1 (own_mk i6 c8 c9) r4 t4 kb4 (own_mk i7 c10 c11) G1 T10.heap n0 (Nat.le_trans Z0 (Nat.le_trans (Nat.le_trans (Nat.le_trans K1.1 K4.1) E8.1) K10.1)) F10_1 F10_2 f48 f49 f50 O2 P5) hZ4 (hw63 hw) (hw39 hw) (by decide) (by decide)) q47a q47c (g := (mkF m 242 #[.val (.int p0), .val (.int p1), .val (.int p2), .val (.int i3), .val (.int i4), .val (.int i5), .val (.int i6), .val (.int i7), .val (.int c8), .val (.int c9), .val (.int c10), .val (.int c11), .val (.ref r1), .val (.ref r4), .val .null, .val (.ref b8), .val (.int (0 : Int32))] [(.ref b8)])) rfl (by rw [hml]; rfl) (Steps.refl _) (argsL := []) (rest := []) (lenOf pd_10 rfl) rfl (by show 2 * 0 + _ ≤ _; exact Nat.le_of_eq rfl) (hb hby at_242) (fun _ _ => ⟨rfl, rfl, (by decide : 13 + 0 ≤ _), (by decide : 29 + 0 ≤ _)⟩)
                    dsimp only [Pt.U, Pt.locs, Pt.cells, Pt.slots] at X47 l47 y47 z47 st47 hQ47
                    subst l47 y47 z47
                    obtain ⟨rfl, N47q, K47⟩ := hQ47
                    have N47 := Fr.app N10 N47q
                    refine Goes.tr st47 ?_
                    show Goes _ _ _ _ (T47.setTop (mkF m 245 #[.val (.int p0), .val (.int p1), .val (.int p2), .val (.int i3), .val (.int i4), .val (.int i5), .val (.int i6), .val (.int i7), .val (.int c8), .val (.int c9), .val (.int c10), .val (.int c11), .val (.ref r1), .val (.ref r4), .val .null, .val (.ref b8), .val (.int (0 : Int32))] [(.int (if ((own_mk i6 c8 c9) : List Int32) = (own_mk i7 c10 c11) then (1 : Int32) else 0))]))
                    refine Goes.st (fun t k => XS.iload X47.here hx rfl (hb hby at_245) rfl k) ?_
                    show Goes _ _ _ _ (T47.setTop (mkF m 247 #[.val (.int p0), .val (.int p1), .val (.int p2), .val (.int i3), .val (.int i4), .val (.int i5), .val (.int i6), .val (.int i7), .val (.int c8), .val (.int c9), .val (.int c10), .val (.int c11), .val (.ref r1), .val (.ref r4), .val .null, .val (.ref b8), .val (.int (0 : Int32))] [(.int (0 : Int32)), (.int (if ((own_mk i6 c8 c9) : List Int32) = (own_mk i7 c10 c11) then (1 : Int32) else 0))]))
                    refine Goes.st (fun t k => XS.icmpNo X47.here hx rfl (hb hby at_247) rfl (teq (if_neg fun q => cz12 ((own_mkeq h3i6 h3i7).mp q).1)).2 k) ?_
                    show Goes _ _ _ _ (T47.setTop (mkF m 250 #[.val (.int p0), .val (.int p1), .val (.int p2), .val (.int i3), .val (.int i4), .val (.int i5), .val (.int i6), .val (.int i7), .val (.int c8), .val (.int c9), .val (.int c10), .val (.int c11), .val (.ref r1), .val (.ref r4), .val .null, .val (.ref b8), .val (.int (0 : Int32))] []))
                    refine Goes.st (fun t k => XS.iconst X47.here hx rfl (hb hby at_250) k) ?_
                    show Goes _ _ _ _ (T47.setTop (mkF m 251 #[.val (.int p0), .val (.int p1), .val (.int p2), .val (.int i3), .val (.int i4), .val (.int i5), .val (.int i6), .val (.int i7), .val (.int c8), .val (.int c9), .val (.int c10), .val (.int c11), .val (.ref r1), .val (.ref r4), .val .null, .val (.ref b8), .val (.int (0 : Int32))] [(.int (1 : Int32))]))
                    refine Goes.st (fun t k => XS.goto X47.here hx rfl (pc0 := 251) (pc' := 255) rfl (hb hby at_251) (by decide) (by decide) k) ?_
                    show Goes _ _ _ _ (T47.setTop (mkF m 255 #[.val (.int p0), .val (.int p1), .val (.int p2), .val (.int i3), .val (.int i4), .val (.int i5), .val (.int i6), .val (.int i7), .val (.int c8), .val (.int c9), .val (.int c10), .val (.int c11), .val (.ref r1), .val (.ref r4), .val .null, .val (.ref b8), .val (.int (0 : Int32))] [(.int (1 : Int32))]))
                    obtain ⟨fs, hr, hrun, hended, hRW⟩ := X47.leaveW hS4 (by rw [K47]; exact (Nat.le_trans (Nat.le_trans (Nat.le_refl _) E8.1) K10.1)) (v := some (.int (1 : Int32))) (fun h => by rw [Bd.returns] at h; cases h)
                    subst hQQ
                    have hCR : CHr Z EL s.vm s.heap T47.vm T47.heap := by rw [hh, K47]; exact CR11.trans (CHv.at X47 hZ4 (own_EW hw) CR11.1)
                    refine ⟨_, _, retN X47 hx (t := .boolean) Bd.returns (by simp) (hb hby at_255) hr, hrun, hended, _, _, rfl, ?_, hCR, own_REmono hRW (by decide) (by decide)⟩
                    show Q_law Z p0 p1 p2 G1 h0 n0 _ T47.heap _
                    rw [K47]
                    exact ⟨rfl, N47⟩
                case neg =>
                  refine Goes.st (fun t k => XS.ifNo X4.here hx rfl (hb hby at_160) rfl ((if0 _ _).trans (feq cz7).1) k) ?_
                  show Goes _ _ _ _ (T4.setTop (mkF m 163 #[.val (.int p0), .val (.int p1), .val (.int p2), .val (.int i3), .val (.int i4), .val (.int i5), .val (.int i6), .val (.int i7), .val (.int c8), .val (.int c9), .val (.int c10), .val (.int c11), .val (.ref r1), .val (.ref r4), .unset, .unset, .unset] []))
                  refine Goes.st (fun t k => XS.aload X4.here hx rfl (hb hby at_163) rfl rfl k) ?_
                  show Goes _ _ _ _ (T4.setTop (mkF m 165 #[.val (.int p0), .val (.int p1), .val (.int p2), .val (.int i3), .val (.int i4), .val (.int i5), .val (.int i6), .val (.int i7), .val (.int c8), .val (.int c9), .val (.int c10), .val (.int c11), .val (.ref r1), .val (.ref r4), .unset, .unset, .unset] [(.ref r4)]))
                  refine Goes.st (fun t k => XS.goto X4.here hx rfl (pc0 := 165) (pc' := 169) rfl (hb hby at_165) (by decide) (by decide) k) ?_
                  show Goes _ _ _ _ (T4.setTop (mkF m 169 #[.val (.int p0), .val (.int p1), .val (.int p2), .val (.int i3), .val (.int i4), .val (.int i5), .val (.int i6), .val (.int i7), .val (.int c8), .val (.int c9), .val (.int c10), .val (.int c11), .val (.ref r1), .val (.ref r4), .unset, .unset, .unset] [(.ref r4)]))
                  refine Goes.st (fun t k => XS.astore X4.here hx rfl (hb hby at_169) rfl rfl (l' := #[.val (.int p0), .val (.int p1), .val (.int p2), .val (.int i3), .val (.int i4), .val (.int i5), .val (.int i6), .val (.int i7), .val (.int c8), .val (.int c9), .val (.int c10), .val (.int c11), .val (.ref r1), .val (.ref r4), .val (.ref r4), .unset, .unset]) rfl k) ?_
                  show Goes _ _ _ _ (T4.setTop (mkF m 171 #[.val (.int p0), .val (.int p1), .val (.int p2), .val (.int i3), .val (.int i4), .val (.int i5), .val (.int i6), .val (.int i7), .val (.int c8), .val (.int c9), .val (.int c10), .val (.int c11), .val (.ref r1), .val (.ref r4), .val (.ref r4), .unset, .unset] []))
                  obtain ⟨T51, h51, X51, e51, E51, A51, D51, -, st51⟩ := newO X4 hx hZ4 hown4 (hw37 hw) (hw38 hw) (hw39 hw) rfl (g := (mkF m 171 #[.val (.int p0), .val (.int p1), .val (.int p2), .val (.int i3), .val (.int i4), .val (.int i5), .val (.int i6), .val (.int i7), .val (.int c8), .val (.int c9), .val (.int c10), .val (.int c11), .val (.ref r1), .val (.ref r4), .val (.ref r4), .unset, .unset] [])) rfl (hb hby at_171) (by decide) (by decide)
                  obtain ⟨b51, g51⟩ : ∃ z, z = T4.heap.size := ⟨_, rfl⟩
                  rw [← g51] at A51 D51 st51
                  have CR52 : CHr Z EL s.vm h0 T4.vm h51 := CR6.trans (CHr.ext E51 CR6.1)
                  have F51_message : Fld Z h51 b51 "com/example/sillon/sillon/transport/SoapOperation$Parts" "message" "Ljava/lang/String;" .null := D51 (Or.inr (hw50 hw)) (ty := (.object "java/lang/String")) (by decide)
                  have F51_head : Fld Z h51 b51 "com/example/sillon/sillon/transport/SoapOperation$Parts" "head" "Ljava/lang/String;" .null := D51 (Or.inr (hw52 hw)) (ty := (.object "java/lang/String")) (by decide)
                  have F51_main : Fld Z h51 b51 "com/example/sillon/sillon/transport/SoapOperation$Parts" "main" "Ljava/lang/String;" .null := D51 (Or.inr (hw54 hw)) (ty := (.object "java/lang/String")) (by decide)
                  have F51_mainElement : Fld Z h51 b51 "com/example/sillon/sillon/transport/SoapOperation$Parts" "mainElement" "Ljava/lang/String;" .null := D51 (Or.inr (hw56 hw)) (ty := (.object "java/lang/String")) (by decide)
                  have F51_extension : Fld Z h51 b51 "com/example/sillon/sillon/transport/SoapOperation$Parts" "extension" "Ljava/lang/String;" .null := D51 (Or.inr (hw58 hw)) (ty := (.object "java/lang/String")) (by decide)
                  refine Goes.st st51 ?_
                  show Goes _ _ _ _ (T51.setTop (mkF m 174 #[.val (.int p0), .val (.int p1), .val (.int p2), .val (.int i3), .val (.int i4), .val (.int i5), .val (.int i6), .val (.int i7), .val (.int c8), .val (.int c9), .val (.int c10), .val (.int c11), .val (.ref r1), .val (.ref r4), .val (.ref r4), .unset, .unset] [(.ref b51)]))
                  refine Goes.st (fun t k => XS.dup X51.here hx rfl (hb hby at_174) rfl rfl k) ?_
                  show Goes _ _ _ _ (T51.setTop (mkF m 175 #[.val (.int p0), .val (.int p1), .val (.int p2), .val (.int i3), .val (.int i4), .val (.int i5), .val (.int i6), .val (.int i7), .val (.int c8), .val (.int c9), .val (.int c10), .val (.int c11), .val (.ref r1), .val (.ref r4), .val (.ref r4), .unset, .unset] [(.ref b51), (.ref b51)]))
                  refine Goes.st (fun t k => XS.aload X51.here hx rfl (hb hby at_175) rfl rfl k) ?_
                  show Goes _ _ _ _ (T51.setTop (mkF m 177 #[.val (.int p0), .val (.int p1), .val (.int p2), .val (.int i3), .val (.int i4), .val (.int i5), .val (.int i6), .val (.int i7), .val (.int c8), .val (.int c9), .val (.int c10), .val (.int c11), .val (.ref r1), .val (.ref r4), .val (.ref r4), .unset, .unset] [(.ref r1), (.ref b51), (.ref b51)]))
                  refine Goes.st (fun t k => XS.aload X51.here hx rfl (hb hby at_177) rfl rfl k) ?_
                  show Goes _ _ _ _ (T51.setTop (mkF m 179 #[.val (.int p0), .val (.int p1), .val (.int p2), .val (.int i3), .val (.int i4), .val (.int i5), .val (.int i6), .val (.int i7), .val (.int c8), .val (.int c9), .val (.int c10), .val (.int c11), .val (.ref r1), .val (.ref r4), .val (.ref r4), .unset, .unset] [(.ref r4), (.ref r1), (.ref b51), (.ref b51)]))
                  refine Goes.st (fun t k => XS.aload X51.here hx rfl (hb hby at_179) rfl rfl k) ?_
                  show Goes _ _ _ _ (T51.setTop (mkF m 181 #[.val (.int p0), .val (.int p1), .val (.int p2), .val (.int i3), .val (.int i4), .val (.int i5), .val (.int i6), .val (.int i7), .val (.int c8), .val (.int c9), .val (.int c10), .val (.int c11), .val (.ref r1), .val (.ref r4), .val (.ref r4), .unset, .unset] [(.ref r1), (.ref r4), (.ref r1), (.ref b51), (.ref b51)]))
                  refine Goes.st (fun t k => XS.aload X51.here hx rfl (hb hby at_181) rfl rfl k) ?_
                  show Goes _ _ _ _ (T51.setTop (mkF m 183 #[.val (.int p0), .val (.int p1), .val (.int p2), .val (.int i3), .val (.int i4), .val (.int i5), .val (.int i6), .val (.int i7), .val (.int c8), .val (.int c9), .val (.int c10), .val (.int c11), .val (.ref r1), .val (.ref r4), .val (.ref r4), .unset, .unset] [(.ref r4), (.ref r1), (.ref r4), (.ref r1), (.ref b51), (.ref b51)]))
                  refine Goes.st (fun t k => XS.aconstNull X51.here hx rfl (hb hby at_183) k) ?_
                  show Goes _ _ _ _ (T51.setTop (mkF m 184 #[.val (.int p0), .val (.int p1), .val (.int p2), .val (.int i3), .val (.int i4), .val (.int i5), .val (.int i6), .val (.int i7), .val (.int c8), .val (.int c9), .val (.int c10), .val (.int c11), .val (.ref r1), .val (.ref r4), .val (.ref r4), .unset, .unset] [.null, (.ref r4), (.ref r1), (.ref r4), (.ref r1), (.ref b51), (.ref b51)]))
                  obtain ⟨_, _, ⟨T53, L53, k53, n53⟩, -, X53, ⟨Lc53, hQ53, l53, y53, z53⟩, st53⟩ := X51.specialBack hx (y := (⟨"com/example/sillon/sillon/transport/SoapOperation$Parts", "<init>", "(Ljava/lang/String;Ljava/lang/String;Ljava/lang/String;Ljava/lang/String;Ljava/lang/String;)V"⟩ : MethodName)) rfl hown4 (mvT hZ4 (hw40 hw)) (mvT hZ4 (hw41 hw)) (mvT hZ4 (hw42 hw)) (by decide) (backOf (W := 1) (rm_pinit l Z a0 hw [] b51 r1 (Value.ref r4) (Value.ref r4) h51 n0 (Nat.le_trans Z0 (Nat.le_trans (Nat.le_trans K1.1 K4.1) E51.1)) A51 F51_message F51_head F51_main F51_mainElement F51_extension (Nat.le_trans Z0 (Nat.le_trans (Nat.le_trans K1.1 K4.1) (Nat.le_of_eq g51.symm))) rfl rfl) hZ4 (hw42 hw) (hw39 hw) (by decide) (by decide)) (g := (mkF m 184 #[.val (.int p0), .val (.int p1), .val (.int p2), .val (.int i3), .val (.int i4), .val (.int i5), .val (.int i6), .val (.int i7), .val (.int c8), .val (.int c9), .val (.int c10), .val (.int c11), .val (.ref r1), .val (.ref r4), .val (.ref r4), .unset, .unset] [.null, (.ref r4), (.ref r1), (.ref r4), (.ref r1), (.ref b51), (.ref b51)])) rfl (by rw [hml]; rfl) (Steps.refl _) (a := b51) (argsL := [(.ref r1), (.ref r4), (.ref r1), (.ref r4), .null]) (rest := [(.ref b51)]) (lenOf pd_9 rfl) rfl (by show 2 * 0 + _ ≤ _; exact Nat.le_of_eq rfl) (hb hby at_184) (fun _ _ => ⟨rfl, e51, (by decide : 13 + 0 ≤ _), (by decide : 29 + 0 ≤ _)⟩)
                  dsimp only [Pt.U, Pt.locs, Pt.cells, Pt.slots] at X53 l53 y53 z53 st53 hQ53
                  subst l53 y53 z53
                  obtain ⟨rfl, N53q, K53, F53_0, F53_1, F53_2⟩ := hQ53
                  have N53 := Fr.app N4 N53q
                  have hs54 : ∀ x ∈ ([b51] : List Addr), Safe Z EL T4.vm h51 x := (allS (Safe.exa hZ4.alike A51 (by decide) (by decide)) all0)
                  have CR54 : CHr Z EL s.vm h0 T4.vm T53.heap := CR52.trans (CHr.keep K53 hs54 CR52.1)
                  refine Goes.tr st53 ?_
                  show Goes _ _ _ _ (T53.setTop (mkF m 187 #[.val (.int p0), .val (.int p1), .val (.int p2), .val (.int i3), .val (.int i4), .val (.int i5), .val (.int i6), .val (.int i7), .val (.int c8), .val (.int c9), .val (.int c10), .val (.int c11), .val (.ref r1), .val (.ref r4), .val (.ref r4), .unset, .unset] [(.ref b51)]))
                  refine Goes.st (fun t k => XS.astore X53.here hx rfl (hb hby at_187) rfl rfl (l' := #[.val (.int p0), .val (.int p1), .val (.int p2), .val (.int i3), .val (.int i4), .val (.int i5), .val (.int i6), .val (.int i7), .val (.int c8), .val (.int c9), .val (.int c10), .val (.int c11), .val (.ref r1), .val (.ref r4), .val (.ref r4), .val (.ref b51), .unset]) rfl k) ?_
                  show Goes _ _ _ _ (T53.setTop (mkF m 189 #[.val (.int p0), .val (.int p1), .val (.int p2), .val (.int i3), .val (.int i4), .val (.int i5), .val (.int i6), .val (.int i7), .val (.int c8), .val (.int c9), .val (.int c10), .val (.int c11), .val (.ref r1), .val (.ref r4), .val (.ref r4), .val (.ref b51), .unset] []))
                  refine Goes.st (fun t k => XS.iload X53.here hx rfl (hb hby at_189) rfl k) ?_
                  show Goes _ _ _ _ (T53.setTop (mkF m 191 #[.val (.int p0), .val (.int p1), .val (.int p2), .val (.int i3), .val (.int i4), .val (.int i5), .val (.int i6), .val (.int i7), .val (.int c8), .val (.int c9), .val (.int c10), .val (.int c11), .val (.ref r1), .val (.ref r4), .val (.ref r4), .val (.ref b51), .unset] [(.int i4)]))
                  refine Goes.st (fun t k => XS.ifYes X53.here hx rfl (pc0 := 191) (pc' := 200) rfl (hb hby at_191) rfl ((if0 _ _).trans (teq cz3).1) (by decide) (by decide) k) ?_
                  show Goes _ _ _ _ (T53.setTop (mkF m 200 #[.val (.int p0), .val (.int p1), .val (.int p2), .val (.int i3), .val (.int i4), .val (.int i5), .val (.int i6), .val (.int i7), .val (.int c8), .val (.int c9), .val (.int c10), .val (.int c11), .val (.ref r1), .val (.ref r4), .val (.ref r4), .val (.ref b51), .unset] []))
                  refine Goes.st (fun t k => XS.iload X53.here hx rfl (hb hby at_200) rfl k) ?_
                  show Goes _ _ _ _ (T53.setTop (mkF m 202 #[.val (.int p0), .val (.int p1), .val (.int p2), .val (.int i3), .val (.int i4), .val (.int i5), .val (.int i6), .val (.int i7), .val (.int c8), .val (.int c9), .val (.int c10), .val (.int c11), .val (.ref r1), .val (.ref r4), .val (.ref r4), .val (.ref b51), .unset] [(.int i6)]))
                  refine Goes.st (fun t k => XS.iload X53.here hx rfl (hb hby at_202) rfl k) ?_
                  show Goes _ _ _ _ (T53.setTop (mkF m 204 #[.val (.int p0), .val (.int p1), .val (.int p2), .val (.int i3), .val (.int i4), .val (.int i5), .val (.int i6), .val (.int i7), .val (.int c8), .val (.int c9), .val (.int c10), .val (.int c11), .val (.ref r1), .val (.ref r4), .val (.ref r4), .val (.ref b51), .unset] [(.int i7), (.int i6)]))
                  by_cases cz55 : i6 = i7
                  case pos =>
                    refine Goes.st (fun t k => XS.icmpNo X53.here hx rfl (hb hby at_204) rfl (teq cz55).2 k) ?_
                    show Goes _ _ _ _ (T53.setTop (mkF m 207 #[.val (.int p0), .val (.int p1), .val (.int p2), .val (.int i3), .val (.int i4), .val (.int i5), .val (.int i6), .val (.int i7), .val (.int c8), .val (.int c9), .val (.int c10), .val (.int c11), .val (.ref r1), .val (.ref r4), .val (.ref r4), .val (.ref b51), .unset] []))
                    refine Goes.st (fun t k => XS.iload X53.here hx rfl (hb hby at_207) rfl k) ?_
                    show Goes _ _ _ _ (T53.setTop (mkF m 209 #[.val (.int p0), .val (.int p1), .val (.int p2), .val (.int i3), .val (.int i4), .val (.int i5), .val (.int i6), .val (.int i7), .val (.int c8), .val (.int c9), .val (.int c10), .val (.int c11), .val (.ref r1), .val (.ref r4), .val (.ref r4), .val (.ref b51), .unset] [(.int i6)]))
                    refine Goes.st (fun t k => XS.iconst X53.here hx rfl (hb hby at_209) k) ?_
                    show Goes _ _ _ _ (T53.setTop (mkF m 210 #[.val (.int p0), .val (.int p1), .val (.int p2), .val (.int i3), .val (.int i4), .val (.int i5), .val (.int i6), .val (.int i7), .val (.int c8), .val (.int c9), .val (.int c10), .val (.int c11), .val (.ref r1), .val (.ref r4), .val (.ref r4), .val (.ref b51), .unset] [(.int (1 : Int32)), (.int i6)]))
                    by_cases cz56 : i6 < (1 : Int32)
                    case pos =>
                      refine Goes.st (fun t k => XS.icmpYes X53.here hx rfl (pc0 := 210) (pc' := 220) rfl (hb hby at_210) rfl (tlt cz56).1 (by decide) (by decide) k) ?_
                      show Goes _ _ _ _ (T53.setTop (mkF m 220 #[.val (.int p0), .val (.int p1), .val (.int p2), .val (.int i3), .val (.int i4), .val (.int i5), .val (.int i6), .val (.int i7), .val (.int c8), .val (.int c9), .val (.int c10), .val (.int c11), .val (.ref r1), .val (.ref r4), .val (.ref r4), .val (.ref b51), .unset] []))
                      refine Goes.st (fun t k => XS.iload X53.here hx rfl (hb hby at_220) rfl k) ?_
                      show Goes _ _ _ _ (T53.setTop (mkF m 222 #[.val (.int p0), .val (.int p1), .val (.int p2), .val (.int i3), .val (.int i4), .val (.int i5), .val (.int i6), .val (.int i7), .val (.int c8), .val (.int c9), .val (.int c10), .val (.int c11), .val (.ref r1), .val (.ref r4), .val (.ref r4), .val (.ref b51), .unset] [(.int i6)]))
                      refine Goes.st (fun t k => XS.iconst X53.here hx rfl (hb hby at_222) k) ?_
                      show Goes _ _ _ _ (T53.setTop (mkF m 223 #[.val (.int p0), .val (.int p1), .val (.int p2), .val (.int i3), .val (.int i4), .val (.int i5), .val (.int i6), .val (.int i7), .val (.int c8), .val (.int c9), .val (.int c10), .val (.int c11), .val (.ref r1), .val (.ref r4), .val (.ref r4), .val (.ref b51), .unset] [(.int (2 : Int32)), (.int i6)]))
                      by_cases cz57 : i6 < (2 : Int32)
                      case pos =>
                        refine Goes.st (fun t k => XS.icmpYes X53.here hx rfl (pc0 := 223) (pc' := 233) rfl (hb hby at_223) rfl (tlt cz57).1 (by decide) (by decide) k) ?_
                        show Goes _ _ _ _ (T53.setTop (mkF m 233 #[.val (.int p0), .val (.int p1), .val (.int p2), .val (.int i3), .val (.int i4), .val (.int i5), .val (.int i6), .val (.int i7), .val (.int c8), .val (.int c9), .val (.int c10), .val (.int c11), .val (.ref r1), .val (.ref r4), .val (.ref r4), .val (.ref b51), .unset] []))
                        refine Goes.st (fun t k => XS.iconst X53.here hx rfl (hb hby at_233) k) ?_
                        show Goes _ _ _ _ (T53.setTop (mkF m 234 #[.val (.int p0), .val (.int p1), .val (.int p2), .val (.int i3), .val (.int i4), .val (.int i5), .val (.int i6), .val (.int i7), .val (.int c8), .val (.int c9), .val (.int c10), .val (.int c11), .val (.ref r1), .val (.ref r4), .val (.ref r4), .val (.ref b51), .unset] [(.int (1 : Int32))]))
                        refine Goes.st (fun t k => XS.goto X53.here hx rfl (pc0 := 234) (pc' := 238) rfl (hb hby at_234) (by decide) (by decide) k) ?_
                        show Goes _ _ _ _ (T53.setTop (mkF m 238 #[.val (.int p0), .val (.int p1), .val (.int p2), .val (.int i3), .val (.int i4), .val (.int i5), .val (.int i6), .val (.int i7), .val (.int c8), .val (.int c9), .val (.int c10), .val (.int c11), .val (.ref r1), .val (.ref r4), .val (.ref r4), .val (.ref b51), .unset] [(.int (1 : Int32))]))
                        refine Goes.st (fun t k => XS.istore X53.here hx rfl (hb hby at_238) rfl (l' := #[.val (.int p0), .val (.int p1), .val (.int p2), .val (.int i3), .val (.int i4), .val (.int i5), .val (.int i6), .val (.int i7), .val (.int c8), .val (.int c9), .val (.int c10), .val (.int c11), .val (.ref r1), .val (.ref r4), .val (.ref r4), .val (.ref b51), .val (.int (1 : Int32))]) rfl k) ?_
                        show Goes _ _ _ _ (T53.setTop (mkF m 240 #[.val (.int p0), .val (.int p1), .val (.int p2), .val (.int i3), .val (.int i4), .val (.int i5), .val (.int i6), .val (.int i7), .val (.int c8), .val (.int c9), .val (.int c10), .val (.int c11), .val (.ref r1), .val (.ref r4), .val (.ref r4), .val (.ref b51), .val (.int (1 : Int32))] []))
                        refine Goes.st (fun t k => XS.aload X53.here hx rfl (hb hby at_240) rfl rfl k) ?_
                        show Goes _ _ _ _ (T53.setTop (mkF m 242 #[.val (.int p0), .val (.int p1), .val (.int p2), .val (.int i3), .val (.int i4), .val (.int i5), .val (.int i6), .val (.int i7), .val (.int c8), .val (.int c9), .val (.int c10), .val (.int c11), .val (.ref r1), .val (.ref r4), .val (.ref r4), .val (.ref b51), .val (.int (1 : Int32))] [(.ref b51)]))
                        have f59 : Str Z T53.heap r1 t1 kb1 (own_mk i6 c8 c9) := (((F1_0.keep K4 nin0 nin0).ext E51).keep K53 (ninS (Nat.ne_of_lt (Nat.lt_of_lt_of_le F1_0.1.lt (Nat.le_trans K4.1 (Nat.le_of_eq g51.symm)))) nin0) (ninS (Nat.ne_of_lt (Nat.lt_of_lt_of_le F1_0.ltT (Nat.le_trans K4.1 (Nat.le_of_eq g51.symm)))) nin0))
                        have f60 : Str Z T53.heap r4 t4 kb4 (own_mk i7 c10 c11) := ((F4_0.ext E51).keep K53 (ninS (Nat.ne_of_lt (Nat.lt_of_lt_of_le F4_0.1.lt (Nat.le_of_eq g51.symm))) nin0) (ninS (Nat.ne_of_lt (Nat.lt_of_lt_of_le F4_0.ltT (Nat.le_of_eq g51.symm))) nin0))
                        have f61 : Old Z n0 T53.heap := (((f5.keep K4 all0).ext E51).keep K53 (allS (Nat.le_trans Z0 (Nat.le_trans (Nat.le_trans K1.1 K4.1) (Nat.le_of_eq g51.symm))) all0))
                        obtain ⟨cq58, kq58, q58a, q58b, q58c⟩ := isOf hZ4 rfl F53_0
                        obtain ⟨_, _, ⟨T58, L58, k58, n58⟩, -, X58, ⟨Lc58, hQ58, l58, y58, z58⟩, st58⟩ := X53.virtualBack hx (y := (⟨"com/example/sillon/sillon/transport/SoapOperation$Parts", "mainIsMessage", "()Z"⟩ : MethodName)) (z := (⟨"com/example/sillon/sillon/transport/SoapOperation$Parts", "mainIsMessage", "()Z"⟩ : MethodName)) hown4 (mvT hZ4 (hw59 hw)) (mvT hZ4 (hw60 hw)) (notFace_of_selects (args := #[]) (mvT hZ4 (hw62 hw))) (mvT hZ4 (hw62 hw)) (mvT hZ4 (hw61 hw)) (by decide) (backOf (W := 0) (rm_miS l Z a0 hw [] b51 r1 t1 kb1 (own_mk i6 c8 c9) r4 t4 kb4 (own_mk i7 c10 c11) G1 T53.heap n0 (Nat.le_trans Z0 (Nat.le_trans (Nat.le_trans (Nat.le_trans K1.1 K4.1) E51.1) K53.1)) F53_1 F53_2 f59 f60 f61 O2 P5) hZ4 (hw63 hw) (hw39 hw) (by decide) (by decide)) q58a q58c (g := (mkF m 242 #[.val (.int p0), .val (.int p1), .val (.int p2), .val (.int i3), .val (.int i4), .val (.int i5), .val (.int i6), .val (.int i7), .val (.int c8), .val (.int c9), .val (.int c10), .val (.int c11), .val (.ref r1), .val (.ref r4), .val (.ref r4), .val (.ref b51), .val (.int (1 : Int32))] [(.ref b51)])) rfl (by rw [hml]; rfl) (Steps.refl _) (argsL := []) (rest := []) (lenOf pd_10 rfl) rfl (by show 2 * 0 + _ ≤ _; exact Nat.le_of_eq rfl) (hb hby at_242) (fun _ _ => ⟨rfl, rfl, (by decide : 13 + 0 ≤ _), (by decide : 29 + 0 ≤ _)⟩)
                        dsimp only [Pt.U, Pt.locs, Pt.cells, Pt.slots] at X58 l58 y58 z58 st58 hQ58
                        subst l58 y58 z58
                        obtain ⟨rfl, N58q, K58⟩ := hQ58
                        have N58 := Fr.app N53 N58q
                        refine Goes.tr st58 ?_
                        show Goes _ _ _ _ (T58.setTop (mkF m 245 #[.val (.int p0), .val (.int p1), .val (.int p2), .val (.int i3), .val (.int i4), .val (.int i5), .val (.int i6), .val (.int i7), .val (.int c8), .val (.int c9), .val (.int c10), .val (.int c11), .val (.ref r1), .val (.ref r4), .val (.ref r4), .val (.ref b51), .val (.int (1 : Int32))] [(.int (if ((own_mk i6 c8 c9) : List Int32) = (own_mk i7 c10 c11) then (1 : Int32) else 0))]))
                        refine Goes.st (fun t k => XS.iload X58.here hx rfl (hb hby at_245) rfl k) ?_
                        show Goes _ _ _ _ (T58.setTop (mkF m 247 #[.val (.int p0), .val (.int p1), .val (.int p2), .val (.int i3), .val (.int i4), .val (.int i5), .val (.int i6), .val (.int i7), .val (.int c8), .val (.int c9), .val (.int c10), .val (.int c11), .val (.ref r1), .val (.ref r4), .val (.ref r4), .val (.ref b51), .val (.int (1 : Int32))] [(.int (1 : Int32)), (.int (if ((own_mk i6 c8 c9) : List Int32) = (own_mk i7 c10 c11) then (1 : Int32) else 0))]))
                        refine Goes.st (fun t k => XS.icmpNo X58.here hx rfl (hb hby at_247) rfl (teq (if_pos ((own_mkeq h3i6 h3i7).mpr ⟨cz55, (Or.inl cz56), (Or.inl cz57)⟩))).2 k) ?_
                        show Goes _ _ _ _ (T58.setTop (mkF m 250 #[.val (.int p0), .val (.int p1), .val (.int p2), .val (.int i3), .val (.int i4), .val (.int i5), .val (.int i6), .val (.int i7), .val (.int c8), .val (.int c9), .val (.int c10), .val (.int c11), .val (.ref r1), .val (.ref r4), .val (.ref r4), .val (.ref b51), .val (.int (1 : Int32))] []))
                        refine Goes.st (fun t k => XS.iconst X58.here hx rfl (hb hby at_250) k) ?_
                        show Goes _ _ _ _ (T58.setTop (mkF m 251 #[.val (.int p0), .val (.int p1), .val (.int p2), .val (.int i3), .val (.int i4), .val (.int i5), .val (.int i6), .val (.int i7), .val (.int c8), .val (.int c9), .val (.int c10), .val (.int c11), .val (.ref r1), .val (.ref r4), .val (.ref r4), .val (.ref b51), .val (.int (1 : Int32))] [(.int (1 : Int32))]))
                        refine Goes.st (fun t k => XS.goto X58.here hx rfl (pc0 := 251) (pc' := 255) rfl (hb hby at_251) (by decide) (by decide) k) ?_
                        show Goes _ _ _ _ (T58.setTop (mkF m 255 #[.val (.int p0), .val (.int p1), .val (.int p2), .val (.int i3), .val (.int i4), .val (.int i5), .val (.int i6), .val (.int i7), .val (.int c8), .val (.int c9), .val (.int c10), .val (.int c11), .val (.ref r1), .val (.ref r4), .val (.ref r4), .val (.ref b51), .val (.int (1 : Int32))] [(.int (1 : Int32))]))
                        obtain ⟨fs, hr, hrun, hended, hRW⟩ := X58.leaveW hS4 (by rw [K58]; exact (Nat.le_trans (Nat.le_trans (Nat.le_refl _) E51.1) K53.1)) (v := some (.int (1 : Int32))) (fun h => by rw [Bd.returns] at h; cases h)
                        subst hQQ
                        have hCR : CHr Z EL s.vm s.heap T58.vm T58.heap := by rw [hh, K58]; exact CR54.trans (CHv.at X58 hZ4 (own_EW hw) CR54.1)
                        refine ⟨_, _, retN X58 hx (t := .boolean) Bd.returns (by simp) (hb hby at_255) hr, hrun, hended, _, _, rfl, ?_, hCR, own_REmono hRW (by decide) (by decide)⟩
                        show Q_law Z p0 p1 p2 G1 h0 n0 _ T58.heap _
                        rw [K58]
                        exact ⟨rfl, N58⟩
                      case neg =>
                        refine Goes.st (fun t k => XS.icmpNo X53.here hx rfl (hb hby at_223) rfl (flt cz57).1 k) ?_
                        show Goes _ _ _ _ (T53.setTop (mkF m 226 #[.val (.int p0), .val (.int p1), .val (.int p2), .val (.int i3), .val (.int i4), .val (.int i5), .val (.int i6), .val (.int i7), .val (.int c8), .val (.int c9), .val (.int c10), .val (.int c11), .val (.ref r1), .val (.ref r4), .val (.ref r4), .val (.ref b51), .unset] []))
                        refine Goes.st (fun t k => XS.iload X53.here hx rfl (hb hby at_226) rfl k) ?_
                        show Goes _ _ _ _ (T53.setTop (mkF m 228 #[.val (.int p0), .val (.int p1), .val (.int p2), .val (.int i3), .val (.int i4), .val (.int i5), .val (.int i6), .val (.int i7), .val (.int c8), .val (.int c9), .val (.int c10), .val (.int c11), .val (.ref r1), .val (.ref r4), .val (.ref r4), .val (.ref b51), .unset] [(.int c9)]))
                        refine Goes.st (fun t k => XS.iload X53.here hx rfl (hb hby at_228) rfl k) ?_
                        show Goes _ _ _ _ (T53.setTop (mkF m 230 #[.val (.int p0), .val (.int p1), .val (.int p2), .val (.int i3), .val (.int i4), .val (.int i5), .val (.int i6), .val (.int i7), .val (.int c8), .val (.int c9), .val (.int c10), .val (.int c11), .val (.ref r1), .val (.ref r4), .val (.ref r4), .val (.ref b51), .unset] [(.int c11), (.int c9)]))
                        by_cases cz62 : c9 = c11
                        case pos =>
                          refine Goes.st (fun t k => XS.icmpNo X53.here hx rfl (hb hby at_230) rfl (teq cz62).2 k) ?_
                          show Goes _ _ _ _ (T53.setTop (mkF m 233 #[.val (.int p0), .val (.int p1), .val (.int p2), .val (.int i3), .val (.int i4), .val (.int i5), .val (.int i6), .val (.int i7), .val (.int c8), .val (.int c9), .val (.int c10), .val (.int c11), .val (.ref r1), .val (.ref r4), .val (.ref r4), .val (.ref b51), .unset] []))
                          refine Goes.st (fun t k => XS.iconst X53.here hx rfl (hb hby at_233) k) ?_
                          show Goes _ _ _ _ (T53.setTop (mkF m 234 #[.val (.int p0), .val (.int p1), .val (.int p2), .val (.int i3), .val (.int i4), .val (.int i5), .val (.int i6), .val (.int i7), .val (.int c8), .val (.int c9), .val (.int c10), .val (.int c11), .val (.ref r1), .val (.ref r4), .val (.ref r4), .val (.ref b51), .unset] [(.int (1 : Int32))]))
                          refine Goes.st (fun t k => XS.goto X53.here hx rfl (pc0 := 234) (pc' := 238) rfl (hb hby at_234) (by decide) (by decide) k) ?_
                          show Goes _ _ _ _ (T53.setTop (mkF m 238 #[.val (.int p0), .val (.int p1), .val (.int p2), .val (.int i3), .val (.int i4), .val (.int i5), .val (.int i6), .val (.int i7), .val (.int c8), .val (.int c9), .val (.int c10), .val (.int c11), .val (.ref r1), .val (.ref r4), .val (.ref r4), .val (.ref b51), .unset] [(.int (1 : Int32))]))
                          refine Goes.st (fun t k => XS.istore X53.here hx rfl (hb hby at_238) rfl (l' := #[.val (.int p0), .val (.int p1), .val (.int p2), .val (.int i3), .val (.int i4), .val (.int i5), .val (.int i6), .val (.int i7), .val (.int c8), .val (.int c9), .val (.int c10), .val (.int c11), .val (.ref r1), .val (.ref r4), .val (.ref r4), .val (.ref b51), .val (.int (1 : Int32))]) rfl k) ?_
                          show Goes _ _ _ _ (T53.setTop (mkF m 240 #[.val (.int p0), .val (.int p1), .val (.int p2), .val (.int i3), .val (.int i4), .val (.int i5), .val (.int i6), .val (.int i7), .val (.int c8), .val (.int c9), .val (.int c10), .val (.int c11), .val (.ref r1), .val (.ref r4), .val (.ref r4), .val (.ref b51), .val (.int (1 : Int32))] []))
                          refine Goes.st (fun t k => XS.aload X53.here hx rfl (hb hby at_240) rfl rfl k) ?_
                          show Goes _ _ _ _ (T53.setTop (mkF m 242 #[.val (.int p0), .val (.int p1), .val (.int p2), .val (.int i3), .val (.int i4), .val (.int i5), .val (.int i6), .val (.int i7), .val (.int c8), .val (.int c9), .val (.int c10), .val (.int c11), .val (.ref r1), .val (.ref r4), .val (.ref r4), .val (.ref b51), .val (.int (1 : Int32))] [(.ref b51)]))
                          have f64 : Str Z T53.heap r1 t1 kb1 (own_mk i6 c8 c9) := (((F1_0.keep K4 nin0 nin0).ext E51).keep K53 (ninS (Nat.ne_of_lt (Nat.lt_of_lt_of_le F1_0.1.lt (Nat.le_trans K4.1 (Nat.le_of_eq g51.symm)))) nin0) (ninS (Nat.ne_of_lt (Nat.lt_of_lt_of_le F1_0.ltT (Nat.le_trans K4.1 (Nat.le_of_eq g51.symm)))) nin0))
                          have f65 : Str Z T53.heap r4 t4 kb4 (own_mk i7 c10 c11) := ((F4_0.ext E51).keep K53 (ninS (Nat.ne_of_lt (Nat.lt_of_lt_of_le F4_0.1.lt (Nat.le_of_eq g51.symm))) nin0) (ninS (Nat.ne_of_lt (Nat.lt_of_lt_of_le F4_0.ltT (Nat.le_of_eq g51.symm))) nin0))
                          have f66 : Old Z n0 T53.heap := (((f5.keep K4 all0).ext E51).keep K53 (allS (Nat.le_trans Z0 (Nat.le_trans (Nat.le_trans K1.1 K4.1) (Nat.le_of_eq g51.symm))) all0))
                          obtain ⟨cq63, kq63, q63a, q63b, q63c⟩ := isOf hZ4 rfl F53_0
                          obtain ⟨_, _, ⟨T63, L63, k63, n63⟩, -, X63, ⟨Lc63, hQ63, l63, y63, z63⟩, st63⟩ := X53.virtualBack hx (y := (⟨"com/example/sillon/sillon/transport/SoapOperation$Parts", "mainIsMessage", "()Z"⟩ : MethodName)) (z := (⟨"com/example/sillon/sillon/transport/SoapOperation$Parts", "mainIsMessage", "()Z"⟩ : MethodName)) hown4 (mvT hZ4 (hw59 hw)) (mvT hZ4 (hw60 hw)) (notFace_of_selects (args := #[]) (mvT hZ4 (hw62 hw))) (mvT hZ4 (hw62 hw)) (mvT hZ4 (hw61 hw)) (by decide) (backOf (W := 0) (rm_miS l Z a0 hw [] b51 r1 t1 kb1 (own_mk i6 c8 c9) r4 t4 kb4 (own_mk i7 c10 c11) G1 T53.heap n0 (Nat.le_trans Z0 (Nat.le_trans (Nat.le_trans (Nat.le_trans K1.1 K4.1) E51.1) K53.1)) F53_1 F53_2 f64 f65 f66 O2 P5) hZ4 (hw63 hw) (hw39 hw) (by decide) (by decide)) q63a q63c (g := (mkF m 242 #[.val (.int p0), .val (.int p1), .val (.int p2), .val (.int i3), .val (.int i4), .val (.int i5), .val (.int i6), .val (.int i7), .val (.int c8), .val (.int c9), .val (.int c10), .val (.int c11), .val (.ref r1), .val (.ref r4), .val (.ref r4), .val (.ref b51), .val (.int (1 : Int32))] [(.ref b51)])) rfl (by rw [hml]; rfl) (Steps.refl _) (argsL := []) (rest := []) (lenOf pd_10 rfl) rfl (by show 2 * 0 + _ ≤ _; exact Nat.le_of_eq rfl) (hb hby at_242) (fun _ _ => ⟨rfl, rfl, (by decide : 13 + 0 ≤ _), (by decide : 29 + 0 ≤ _)⟩)
                          dsimp only [Pt.U, Pt.locs, Pt.cells, Pt.slots] at X63 l63 y63 z63 st63 hQ63
                          subst l63 y63 z63
                          obtain ⟨rfl, N63q, K63⟩ := hQ63
                          have N63 := Fr.app N53 N63q
                          refine Goes.tr st63 ?_
                          show Goes _ _ _ _ (T63.setTop (mkF m 245 #[.val (.int p0), .val (.int p1), .val (.int p2), .val (.int i3), .val (.int i4), .val (.int i5), .val (.int i6), .val (.int i7), .val (.int c8), .val (.int c9), .val (.int c10), .val (.int c11), .val (.ref r1), .val (.ref r4), .val (.ref r4), .val (.ref b51), .val (.int (1 : Int32))] [(.int (if ((own_mk i6 c8 c9) : List Int32) = (own_mk i7 c10 c11) then (1 : Int32) else 0))]))
                          refine Goes.st (fun t k => XS.iload X63.here hx rfl (hb hby at_245) rfl k) ?_
                          show Goes _ _ _ _ (T63.setTop (mkF m 247 #[.val (.int p0), .val (.int p1), .val (.int p2), .val (.int i3), .val (.int i4), .val (.int i5), .val (.int i6), .val (.int i7), .val (.int c8), .val (.int c9), .val (.int c10), .val (.int c11), .val (.ref r1), .val (.ref r4), .val (.ref r4), .val (.ref b51), .val (.int (1 : Int32))] [(.int (1 : Int32)), (.int (if ((own_mk i6 c8 c9) : List Int32) = (own_mk i7 c10 c11) then (1 : Int32) else 0))]))
                          refine Goes.st (fun t k => XS.icmpNo X63.here hx rfl (hb hby at_247) rfl (teq (if_pos ((own_mkeq h3i6 h3i7).mpr ⟨cz55, (Or.inl cz56), (Or.inr cz62)⟩))).2 k) ?_
                          show Goes _ _ _ _ (T63.setTop (mkF m 250 #[.val (.int p0), .val (.int p1), .val (.int p2), .val (.int i3), .val (.int i4), .val (.int i5), .val (.int i6), .val (.int i7), .val (.int c8), .val (.int c9), .val (.int c10), .val (.int c11), .val (.ref r1), .val (.ref r4), .val (.ref r4), .val (.ref b51), .val (.int (1 : Int32))] []))
                          refine Goes.st (fun t k => XS.iconst X63.here hx rfl (hb hby at_250) k) ?_
                          show Goes _ _ _ _ (T63.setTop (mkF m 251 #[.val (.int p0), .val (.int p1), .val (.int p2), .val (.int i3), .val (.int i4), .val (.int i5), .val (.int i6), .val (.int i7), .val (.int c8), .val (.int c9), .val (.int c10), .val (.int c11), .val (.ref r1), .val (.ref r4), .val (.ref r4), .val (.ref b51), .val (.int (1 : Int32))] [(.int (1 : Int32))]))
                          refine Goes.st (fun t k => XS.goto X63.here hx rfl (pc0 := 251) (pc' := 255) rfl (hb hby at_251) (by decide) (by decide) k) ?_
                          show Goes _ _ _ _ (T63.setTop (mkF m 255 #[.val (.int p0), .val (.int p1), .val (.int p2), .val (.int i3), .val (.int i4), .val (.int i5), .val (.int i6), .val (.int i7), .val (.int c8), .val (.int c9), .val (.int c10), .val (.int c11), .val (.ref r1), .val (.ref r4), .val (.ref r4), .val (.ref b51), .val (.int (1 : Int32))] [(.int (1 : Int32))]))
                          obtain ⟨fs, hr, hrun, hended, hRW⟩ := X63.leaveW hS4 (by rw [K63]; exact (Nat.le_trans (Nat.le_trans (Nat.le_refl _) E51.1) K53.1)) (v := some (.int (1 : Int32))) (fun h => by rw [Bd.returns] at h; cases h)
                          subst hQQ
                          have hCR : CHr Z EL s.vm s.heap T63.vm T63.heap := by rw [hh, K63]; exact CR54.trans (CHv.at X63 hZ4 (own_EW hw) CR54.1)
                          refine ⟨_, _, retN X63 hx (t := .boolean) Bd.returns (by simp) (hb hby at_255) hr, hrun, hended, _, _, rfl, ?_, hCR, own_REmono hRW (by decide) (by decide)⟩
                          show Q_law Z p0 p1 p2 G1 h0 n0 _ T63.heap _
                          rw [K63]
                          exact ⟨rfl, N63⟩
                        case neg =>
                          refine Goes.st (fun t k => XS.icmpYes X53.here hx rfl (pc0 := 230) (pc' := 237) rfl (hb hby at_230) rfl (feq cz62).2 (by decide) (by decide) k) ?_
                          show Goes _ _ _ _ (T53.setTop (mkF m 237 #[.val (.int p0), .val (.int p1), .val (.int p2), .val (.int i3), .val (.int i4), .val (.int i5), .val (.int i6), .val (.int i7), .val (.int c8), .val (.int c9), .val (.int c10), .val (.int c11), .val (.ref r1), .val (.ref r4), .val (.ref r4), .val (.ref b51), .unset] []))
                          refine Goes.st (fun t k => XS.iconst X53.here hx rfl (hb hby at_237) k) ?_
                          show Goes _ _ _ _ (T53.setTop (mkF m 238 #[.val (.int p0), .val (.int p1), .val (.int p2), .val (.int i3), .val (.int i4), .val (.int i5), .val (.int i6), .val (.int i7), .val (.int c8), .val (.int c9), .val (.int c10), .val (.int c11), .val (.ref r1), .val (.ref r4), .val (.ref r4), .val (.ref b51), .unset] [(.int (0 : Int32))]))
                          refine Goes.st (fun t k => XS.istore X53.here hx rfl (hb hby at_238) rfl (l' := #[.val (.int p0), .val (.int p1), .val (.int p2), .val (.int i3), .val (.int i4), .val (.int i5), .val (.int i6), .val (.int i7), .val (.int c8), .val (.int c9), .val (.int c10), .val (.int c11), .val (.ref r1), .val (.ref r4), .val (.ref r4), .val (.ref b51), .val (.int (0 : Int32))]) rfl k) ?_
                          show Goes _ _ _ _ (T53.setTop (mkF m 240 #[.val (.int p0), .val (.int p1), .val (.int p2), .val (.int i3), .val (.int i4), .val (.int i5), .val (.int i6), .val (.int i7), .val (.int c8), .val (.int c9), .val (.int c10), .val (.int c11), .val (.ref r1), .val (.ref r4), .val (.ref r4), .val (.ref b51), .val (.int (0 : Int32))] []))
                          refine Goes.st (fun t k => XS.aload X53.here hx rfl (hb hby at_240) rfl rfl k) ?_
                          show Goes _ _ _ _ (T53.setTop (mkF m 242 #[.val (.int p0), .val (.int p1), .val (.int p2), .val (.int i3), .val (.int i4), .val (.int i5), .val (.int i6), .val (.int i7), .val (.int c8), .val (.int c9), .val (.int c10), .val (.int c11), .val (.ref r1), .val (.ref r4), .val (.ref r4), .val (.ref b51), .val (.int (0 : Int32))] [(.ref b51)]))
                          have f68 : Str Z T53.heap r1 t1 kb1 (own_mk i6 c8 c9) := (((F1_0.keep K4 nin0 nin0).ext E51).keep K53 (ninS (Nat.ne_of_lt (Nat.lt_of_lt_of_le F1_0.1.lt (Nat.le_trans K4.1 (Nat.le_of_eq g51.symm)))) nin0) (ninS (Nat.ne_of_lt (Nat.lt_of_lt_of_le F1_0.ltT (Nat.le_trans K4.1 (Nat.le_of_eq g51.symm)))) nin0))
                          have f69 : Str Z T53.heap r4 t4 kb4 (own_mk i7 c10 c11) := ((F4_0.ext E51).keep K53 (ninS (Nat.ne_of_lt (Nat.lt_of_lt_of_le F4_0.1.lt (Nat.le_of_eq g51.symm))) nin0) (ninS (Nat.ne_of_lt (Nat.lt_of_lt_of_le F4_0.ltT (Nat.le_of_eq g51.symm))) nin0))
                          have f70 : Old Z n0 T53.heap := (((f5.keep K4 all0).ext E51).keep K53 (allS (Nat.le_trans Z0 (Nat.le_trans (Nat.le_trans K1.1 K4.1) (Nat.le_of_eq g51.symm))) all0))
                          obtain ⟨cq67, kq67, q67a, q67b, q67c⟩ := isOf hZ4 rfl F53_0
                          obtain ⟨_, _, ⟨T67, L67, k67, n67⟩, -, X67, ⟨Lc67, hQ67, l67, y67, z67⟩, st67⟩ := X53.virtualBack hx (y := (⟨"com/example/sillon/sillon/transport/SoapOperation$Parts", "mainIsMessage", "()Z"⟩ : MethodName)) (z := (⟨"com/example/sillon/sillon/transport/SoapOperation$Parts", "mainIsMessage", "()Z"⟩ : MethodName)) hown4 (mvT hZ4 (hw59 hw)) (mvT hZ4 (hw60 hw)) (notFace_of_selects (args := #[]) (mvT hZ4 (hw62 hw))) (mvT hZ4 (hw62 hw)) (mvT hZ4 (hw61 hw)) (by decide) (backOf (W := 0) (rm_miS l Z a0 hw [] b51 r1 t1 kb1 (own_mk i6 c8 c9) r4 t4 kb4 (own_mk i7 c10 c11) G1 T53.heap n0 (Nat.le_trans Z0 (Nat.le_trans (Nat.le_trans (Nat.le_trans K1.1 K4.1) E51.1) K53.1)) F53_1 F53_2 f68 f69 f70 O2 P5) hZ4 (hw63 hw) (hw39 hw) (by decide) (by decide)) q67a q67c (g := (mkF m 242 #[.val (.int p0), .val (.int p1), .val (.int p2), .val (.int i3), .val (.int i4), .val (.int i5), .val (.int i6), .val (.int i7), .val (.int c8), .val (.int c9), .val (.int c10), .val (.int c11), .val (.ref r1), .val (.ref r4), .val (.ref r4), .val (.ref b51), .val (.int (0 : Int32))] [(.ref b51)])) rfl (by rw [hml]; rfl) (Steps.refl _) (argsL := []) (rest := []) (lenOf pd_10 rfl) rfl (by show 2 * 0 + _ ≤ _; exact Nat.le_of_eq rfl) (hb hby at_242) (fun _ _ => ⟨rfl, rfl, (by decide : 13 + 0 ≤ _), (by decide : 29 + 0 ≤ _)⟩)
                          dsimp only [Pt.U, Pt.locs, Pt.cells, Pt.slots] at X67 l67 y67 z67 st67 hQ67
                          subst l67 y67 z67
                          obtain ⟨rfl, N67q, K67⟩ := hQ67
                          have N67 := Fr.app N53 N67q
                          refine Goes.tr st67 ?_
                          show Goes _ _ _ _ (T67.setTop (mkF m 245 #[.val (.int p0), .val (.int p1), .val (.int p2), .val (.int i3), .val (.int i4), .val (.int i5), .val (.int i6), .val (.int i7), .val (.int c8), .val (.int c9), .val (.int c10), .val (.int c11), .val (.ref r1), .val (.ref r4), .val (.ref r4), .val (.ref b51), .val (.int (0 : Int32))] [(.int (if ((own_mk i6 c8 c9) : List Int32) = (own_mk i7 c10 c11) then (1 : Int32) else 0))]))
                          refine Goes.st (fun t k => XS.iload X67.here hx rfl (hb hby at_245) rfl k) ?_
                          show Goes _ _ _ _ (T67.setTop (mkF m 247 #[.val (.int p0), .val (.int p1), .val (.int p2), .val (.int i3), .val (.int i4), .val (.int i5), .val (.int i6), .val (.int i7), .val (.int c8), .val (.int c9), .val (.int c10), .val (.int c11), .val (.ref r1), .val (.ref r4), .val (.ref r4), .val (.ref b51), .val (.int (0 : Int32))] [(.int (0 : Int32)), (.int (if ((own_mk i6 c8 c9) : List Int32) = (own_mk i7 c10 c11) then (1 : Int32) else 0))]))
                          refine Goes.st (fun t k => XS.icmpNo X67.here hx rfl (hb hby at_247) rfl (teq (if_neg fun q => ((own_mkeq h3i6 h3i7).mp q).2.2.elim cz57 cz62)).2 k) ?_
                          show Goes _ _ _ _ (T67.setTop (mkF m 250 #[.val (.int p0), .val (.int p1), .val (.int p2), .val (.int i3), .val (.int i4), .val (.int i5), .val (.int i6), .val (.int i7), .val (.int c8), .val (.int c9), .val (.int c10), .val (.int c11), .val (.ref r1), .val (.ref r4), .val (.ref r4), .val (.ref b51), .val (.int (0 : Int32))] []))
                          refine Goes.st (fun t k => XS.iconst X67.here hx rfl (hb hby at_250) k) ?_
                          show Goes _ _ _ _ (T67.setTop (mkF m 251 #[.val (.int p0), .val (.int p1), .val (.int p2), .val (.int i3), .val (.int i4), .val (.int i5), .val (.int i6), .val (.int i7), .val (.int c8), .val (.int c9), .val (.int c10), .val (.int c11), .val (.ref r1), .val (.ref r4), .val (.ref r4), .val (.ref b51), .val (.int (0 : Int32))] [(.int (1 : Int32))]))
                          refine Goes.st (fun t k => XS.goto X67.here hx rfl (pc0 := 251) (pc' := 255) rfl (hb hby at_251) (by decide) (by decide) k) ?_
                          show Goes _ _ _ _ (T67.setTop (mkF m 255 #[.val (.int p0), .val (.int p1), .val (.int p2), .val (.int i3), .val (.int i4), .val (.int i5), .val (.int i6), .val (.int i7), .val (.int c8), .val (.int c9), .val (.int c10), .val (.int c11), .val (.ref r1), .val (.ref r4), .val (.ref r4), .val (.ref b51), .val (.int (0 : Int32))] [(.int (1 : Int32))]))
                          obtain ⟨fs, hr, hrun, hended, hRW⟩ := X67.leaveW hS4 (by rw [K67]; exact (Nat.le_trans (Nat.le_trans (Nat.le_refl _) E51.1) K53.1)) (v := some (.int (1 : Int32))) (fun h => by rw [Bd.returns] at h; cases h)
                          subst hQQ
                          have hCR : CHr Z EL s.vm s.heap T67.vm T67.heap := by rw [hh, K67]; exact CR54.trans (CHv.at X67 hZ4 (own_EW hw) CR54.1)
                          refine ⟨_, _, retN X67 hx (t := .boolean) Bd.returns (by simp) (hb hby at_255) hr, hrun, hended, _, _, rfl, ?_, hCR, own_REmono hRW (by decide) (by decide)⟩
                          show Q_law Z p0 p1 p2 G1 h0 n0 _ T67.heap _
                          rw [K67]
                          exact ⟨rfl, N67⟩
                    case neg =>
                      refine Goes.st (fun t k => XS.icmpNo X53.here hx rfl (hb hby at_210) rfl (flt cz56).1 k) ?_
                      show Goes _ _ _ _ (T53.setTop (mkF m 213 #[.val (.int p0), .val (.int p1), .val (.int p2), .val (.int i3), .val (.int i4), .val (.int i5), .val (.int i6), .val (.int i7), .val (.int c8), .val (.int c9), .val (.int c10), .val (.int c11), .val (.ref r1), .val (.ref r4), .val (.ref r4), .val (.ref b51), .unset] []))
                      refine Goes.st (fun t k => XS.iload X53.here hx rfl (hb hby at_213) rfl k) ?_
                      show Goes _ _ _ _ (T53.setTop (mkF m 215 #[.val (.int p0), .val (.int p1), .val (.int p2), .val (.int i3), .val (.int i4), .val (.int i5), .val (.int i6), .val (.int i7), .val (.int c8), .val (.int c9), .val (.int c10), .val (.int c11), .val (.ref r1), .val (.ref r4), .val (.ref r4), .val (.ref b51), .unset] [(.int c8)]))
                      refine Goes.st (fun t k => XS.iload X53.here hx rfl (hb hby at_215) rfl k) ?_
                      show Goes _ _ _ _ (T53.setTop (mkF m 217 #[.val (.int p0), .val (.int p1), .val (.int p2), .val (.int i3), .val (.int i4), .val (.int i5), .val (.int i6), .val (.int i7), .val (.int c8), .val (.int c9), .val (.int c10), .val (.int c11), .val (.ref r1), .val (.ref r4), .val (.ref r4), .val (.ref b51), .unset] [(.int c10), (.int c8)]))
                      by_cases cz71 : c8 = c10
                      case pos =>
                        refine Goes.st (fun t k => XS.icmpNo X53.here hx rfl (hb hby at_217) rfl (teq cz71).2 k) ?_
                        show Goes _ _ _ _ (T53.setTop (mkF m 220 #[.val (.int p0), .val (.int p1), .val (.int p2), .val (.int i3), .val (.int i4), .val (.int i5), .val (.int i6), .val (.int i7), .val (.int c8), .val (.int c9), .val (.int c10), .val (.int c11), .val (.ref r1), .val (.ref r4), .val (.ref r4), .val (.ref b51), .unset] []))
                        refine Goes.st (fun t k => XS.iload X53.here hx rfl (hb hby at_220) rfl k) ?_
                        show Goes _ _ _ _ (T53.setTop (mkF m 222 #[.val (.int p0), .val (.int p1), .val (.int p2), .val (.int i3), .val (.int i4), .val (.int i5), .val (.int i6), .val (.int i7), .val (.int c8), .val (.int c9), .val (.int c10), .val (.int c11), .val (.ref r1), .val (.ref r4), .val (.ref r4), .val (.ref b51), .unset] [(.int i6)]))
                        refine Goes.st (fun t k => XS.iconst X53.here hx rfl (hb hby at_222) k) ?_
                        show Goes _ _ _ _ (T53.setTop (mkF m 223 #[.val (.int p0), .val (.int p1), .val (.int p2), .val (.int i3), .val (.int i4), .val (.int i5), .val (.int i6), .val (.int i7), .val (.int c8), .val (.int c9), .val (.int c10), .val (.int c11), .val (.ref r1), .val (.ref r4), .val (.ref r4), .val (.ref b51), .unset] [(.int (2 : Int32)), (.int i6)]))
                        by_cases cz72 : i6 < (2 : Int32)
                        case pos =>
                          refine Goes.st (fun t k => XS.icmpYes X53.here hx rfl (pc0 := 223) (pc' := 233) rfl (hb hby at_223) rfl (tlt cz72).1 (by decide) (by decide) k) ?_
                          show Goes _ _ _ _ (T53.setTop (mkF m 233 #[.val (.int p0), .val (.int p1), .val (.int p2), .val (.int i3), .val (.int i4), .val (.int i5), .val (.int i6), .val (.int i7), .val (.int c8), .val (.int c9), .val (.int c10), .val (.int c11), .val (.ref r1), .val (.ref r4), .val (.ref r4), .val (.ref b51), .unset] []))
                          refine Goes.st (fun t k => XS.iconst X53.here hx rfl (hb hby at_233) k) ?_
                          show Goes _ _ _ _ (T53.setTop (mkF m 234 #[.val (.int p0), .val (.int p1), .val (.int p2), .val (.int i3), .val (.int i4), .val (.int i5), .val (.int i6), .val (.int i7), .val (.int c8), .val (.int c9), .val (.int c10), .val (.int c11), .val (.ref r1), .val (.ref r4), .val (.ref r4), .val (.ref b51), .unset] [(.int (1 : Int32))]))
                          refine Goes.st (fun t k => XS.goto X53.here hx rfl (pc0 := 234) (pc' := 238) rfl (hb hby at_234) (by decide) (by decide) k) ?_
                          show Goes _ _ _ _ (T53.setTop (mkF m 238 #[.val (.int p0), .val (.int p1), .val (.int p2), .val (.int i3), .val (.int i4), .val (.int i5), .val (.int i6), .val (.int i7), .val (.int c8), .val (.int c9), .val (.int c10), .val (.int c11), .val (.ref r1), .val (.ref r4), .val (.ref r4), .val (.ref b51), .unset] [(.int (1 : Int32))]))
                          refine Goes.st (fun t k => XS.istore X53.here hx rfl (hb hby at_238) rfl (l' := #[.val (.int p0), .val (.int p1), .val (.int p2), .val (.int i3), .val (.int i4), .val (.int i5), .val (.int i6), .val (.int i7), .val (.int c8), .val (.int c9), .val (.int c10), .val (.int c11), .val (.ref r1), .val (.ref r4), .val (.ref r4), .val (.ref b51), .val (.int (1 : Int32))]) rfl k) ?_
                          show Goes _ _ _ _ (T53.setTop (mkF m 240 #[.val (.int p0), .val (.int p1), .val (.int p2), .val (.int i3), .val (.int i4), .val (.int i5), .val (.int i6), .val (.int i7), .val (.int c8), .val (.int c9), .val (.int c10), .val (.int c11), .val (.ref r1), .val (.ref r4), .val (.ref r4), .val (.ref b51), .val (.int (1 : Int32))] []))
                          refine Goes.st (fun t k => XS.aload X53.here hx rfl (hb hby at_240) rfl rfl k) ?_
                          show Goes _ _ _ _ (T53.setTop (mkF m 242 #[.val (.int p0), .val (.int p1), .val (.int p2), .val (.int i3), .val (.int i4), .val (.int i5), .val (.int i6), .val (.int i7), .val (.int c8), .val (.int c9), .val (.int c10), .val (.int c11), .val (.ref r1), .val (.ref r4), .val (.ref r4), .val (.ref b51), .val (.int (1 : Int32))] [(.ref b51)]))
                          have f74 : Str Z T53.heap r1 t1 kb1 (own_mk i6 c8 c9) := (((F1_0.keep K4 nin0 nin0).ext E51).keep K53 (ninS (Nat.ne_of_lt (Nat.lt_of_lt_of_le F1_0.1.lt (Nat.le_trans K4.1 (Nat.le_of_eq g51.symm)))) nin0) (ninS (Nat.ne_of_lt (Nat.lt_of_lt_of_le F1_0.ltT (Nat.le_trans K4.1 (Nat.le_of_eq g51.symm)))) nin0))
                          have f75 : Str Z T53.heap r4 t4 kb4 (own_mk i7 c10 c11) := ((F4_0.ext E51).keep K53 (ninS (Nat.ne_of_lt (Nat.lt_of_lt_of_le F4_0.1.lt (Nat.le_of_eq g51.symm))) nin0) (ninS (Nat.ne_of_lt (Nat.lt_of_lt_of_le F4_0.ltT (Nat.le_of_eq g51.symm))) nin0))
                          have f76 : Old Z n0 T53.heap := (((f5.keep K4 all0).ext E51).keep K53 (allS (Nat.le_trans Z0 (Nat.le_trans (Nat.le_trans K1.1 K4.1) (Nat.le_of_eq g51.symm))) all0))
                          obtain ⟨cq73, kq73, q73a, q73b, q73c⟩ := isOf hZ4 rfl F53_0
                          obtain ⟨_, _, ⟨T73, L73, k73, n73⟩, -, X73, ⟨Lc73, hQ73, l73, y73, z73⟩, st73⟩ := X53.virtualBack hx (y := (⟨"com/example/sillon/sillon/transport/SoapOperation$Parts", "mainIsMessage", "()Z"⟩ : MethodName)) (z := (⟨"com/example/sillon/sillon/transport/SoapOperation$Parts", "mainIsMessage", "()Z"⟩ : MethodName)) hown4 (mvT hZ4 (hw59 hw)) (mvT hZ4 (hw60 hw)) (notFace_of_selects (args := #[]) (mvT hZ4 (hw62 hw))) (mvT hZ4 (hw62 hw)) (mvT hZ4 (hw61 hw)) (by decide) (backOf (W := 0) (rm_miS l Z a0 hw [] b51 r1 t1 kb1 (own_mk i6 c8 c9) r4 t4 kb4 (own_mk i7 c10 c11) G1 T53.heap n0 (Nat.le_trans Z0 (Nat.le_trans (Nat.le_trans (Nat.le_trans K1.1 K4.1) E51.1) K53.1)) F53_1 F53_2 f74 f75 f76 O2 P5) hZ4 (hw63 hw) (hw39 hw) (by decide) (by decide)) q73a q73c (g := (mkF m 242 #[.val (.int p0), .val (.int p1), .val (.int p2), .val (.int i3), .val (.int i4), .val (.int i5), .val (.int i6), .val (.int i7), .val (.int c8), .val (.int c9), .val (.int c10), .val (.int c11), .val (.ref r1), .val (.ref r4), .val (.ref r4), .val (.ref b51), .val (.int (1 : Int32))] [(.ref b51)])) rfl (by rw [hml]; rfl) (Steps.refl _) (argsL := []) (rest := []) (lenOf pd_10 rfl) rfl (by show 2 * 0 + _ ≤ _; exact Nat.le_of_eq rfl) (hb hby at_242) (fun _ _ => ⟨rfl, rfl, (by decide : 13 + 0 ≤ _), (by decide : 29 + 0 ≤ _)⟩)
                          dsimp only [Pt.U, Pt.locs, Pt.cells, Pt.slots] at X73 l73 y73 z73 st73 hQ73
                          subst l73 y73 z73
                          obtain ⟨rfl, N73q, K73⟩ := hQ73
                          have N73 := Fr.app N53 N73q
                          refine Goes.tr st73 ?_
                          show Goes _ _ _ _ (T73.setTop (mkF m 245 #[.val (.int p0), .val (.int p1), .val (.int p2), .val (.int i3), .val (.int i4), .val (.int i5), .val (.int i6), .val (.int i7), .val (.int c8), .val (.int c9), .val (.int c10), .val (.int c11), .val (.ref r1), .val (.ref r4), .val (.ref r4), .val (.ref b51), .val (.int (1 : Int32))] [(.int (if ((own_mk i6 c8 c9) : List Int32) = (own_mk i7 c10 c11) then (1 : Int32) else 0))]))
                          refine Goes.st (fun t k => XS.iload X73.here hx rfl (hb hby at_245) rfl k) ?_
                          show Goes _ _ _ _ (T73.setTop (mkF m 247 #[.val (.int p0), .val (.int p1), .val (.int p2), .val (.int i3), .val (.int i4), .val (.int i5), .val (.int i6), .val (.int i7), .val (.int c8), .val (.int c9), .val (.int c10), .val (.int c11), .val (.ref r1), .val (.ref r4), .val (.ref r4), .val (.ref b51), .val (.int (1 : Int32))] [(.int (1 : Int32)), (.int (if ((own_mk i6 c8 c9) : List Int32) = (own_mk i7 c10 c11) then (1 : Int32) else 0))]))
                          refine Goes.st (fun t k => XS.icmpNo X73.here hx rfl (hb hby at_247) rfl (teq (if_pos ((own_mkeq h3i6 h3i7).mpr ⟨cz55, (Or.inr cz71), (Or.inl cz72)⟩))).2 k) ?_
                          show Goes _ _ _ _ (T73.setTop (mkF m 250 #[.val (.int p0), .val (.int p1), .val (.int p2), .val (.int i3), .val (.int i4), .val (.int i5), .val (.int i6), .val (.int i7), .val (.int c8), .val (.int c9), .val (.int c10), .val (.int c11), .val (.ref r1), .val (.ref r4), .val (.ref r4), .val (.ref b51), .val (.int (1 : Int32))] []))
                          refine Goes.st (fun t k => XS.iconst X73.here hx rfl (hb hby at_250) k) ?_
                          show Goes _ _ _ _ (T73.setTop (mkF m 251 #[.val (.int p0), .val (.int p1), .val (.int p2), .val (.int i3), .val (.int i4), .val (.int i5), .val (.int i6), .val (.int i7), .val (.int c8), .val (.int c9), .val (.int c10), .val (.int c11), .val (.ref r1), .val (.ref r4), .val (.ref r4), .val (.ref b51), .val (.int (1 : Int32))] [(.int (1 : Int32))]))
                          refine Goes.st (fun t k => XS.goto X73.here hx rfl (pc0 := 251) (pc' := 255) rfl (hb hby at_251) (by decide) (by decide) k) ?_
                          show Goes _ _ _ _ (T73.setTop (mkF m 255 #[.val (.int p0), .val (.int p1), .val (.int p2), .val (.int i3), .val (.int i4), .val (.int i5), .val (.int i6), .val (.int i7), .val (.int c8), .val (.int c9), .val (.int c10), .val (.int c11), .val (.ref r1), .val (.ref r4), .val (.ref r4), .val (.ref b51), .val (.int (1 : Int32))] [(.int (1 : Int32))]))
                          obtain ⟨fs, hr, hrun, hended, hRW⟩ := X73.leaveW hS4 (by rw [K73]; exact (Nat.le_trans (Nat.le_trans (Nat.le_refl _) E51.1) K53.1)) (v := some (.int (1 : Int32))) (fun h => by rw [Bd.returns] at h; cases h)
                          subst hQQ
                          have hCR : CHr Z EL s.vm s.heap T73.vm T73.heap := by rw [hh, K73]; exact CR54.trans (CHv.at X73 hZ4 (own_EW hw) CR54.1)
                          refine ⟨_, _, retN X73 hx (t := .boolean) Bd.returns (by simp) (hb hby at_255) hr, hrun, hended, _, _, rfl, ?_, hCR, own_REmono hRW (by decide) (by decide)⟩
                          show Q_law Z p0 p1 p2 G1 h0 n0 _ T73.heap _
                          rw [K73]
                          exact ⟨rfl, N73⟩
                        case neg =>
                          refine Goes.st (fun t k => XS.icmpNo X53.here hx rfl (hb hby at_223) rfl (flt cz72).1 k) ?_
                          show Goes _ _ _ _ (T53.setTop (mkF m 226 #[.val (.int p0), .val (.int p1), .val (.int p2), .val (.int i3), .val (.int i4), .val (.int i5), .val (.int i6), .val (.int i7), .val (.int c8), .val (.int c9), .val (.int c10), .val (.int c11), .val (.ref r1), .val (.ref r4), .val (.ref r4), .val (.ref b51), .unset] []))
                          refine Goes.st (fun t k => XS.iload X53.here hx rfl (hb hby at_226) rfl k) ?_
                          show Goes _ _ _ _ (T53.setTop (mkF m 228 #[.val (.int p0), .val (.int p1), .val (.int p2), .val (.int i3), .val (.int i4), .val (.int i5), .val (.int i6), .val (.int i7), .val (.int c8), .val (.int c9), .val (.int c10), .val (.int c11), .val (.ref r1), .val (.ref r4), .val (.ref r4), .val (.ref b51), .unset] [(.int c9)]))
                          refine Goes.st (fun t k => XS.iload X53.here hx rfl (hb hby at_228) rfl k) ?_
                          show Goes _ _ _ _ (T53.setTop (mkF m 230 #[.val (.int p0), .val (.int p1), .val (.int p2), .val (.int i3), .val (.int i4), .val (.int i5), .val (.int i6), .val (.int i7), .val (.int c8), .val (.int c9), .val (.int c10), .val (.int c11), .val (.ref r1), .val (.ref r4), .val (.ref r4), .val (.ref b51), .unset] [(.int c11), (.int c9)]))
                          by_cases cz77 : c9 = c11
                          case pos =>
                            refine Goes.st (fun t k => XS.icmpNo X53.here hx rfl (hb hby at_230) rfl (teq cz77).2 k) ?_
                            show Goes _ _ _ _ (T53.setTop (mkF m 233 #[.val (.int p0), .val (.int p1), .val (.int p2), .val (.int i3), .val (.int i4), .val (.int i5), .val (.int i6), .val (.int i7), .val (.int c8), .val (.int c9), .val (.int c10), .val (.int c11), .val (.ref r1), .val (.ref r4), .val (.ref r4), .val (.ref b51), .unset] []))
                            refine Goes.st (fun t k => XS.iconst X53.here hx rfl (hb hby at_233) k) ?_
                            show Goes _ _ _ _ (T53.setTop (mkF m 234 #[.val (.int p0), .val (.int p1), .val (.int p2), .val (.int i3), .val (.int i4), .val (.int i5), .val (.int i6), .val (.int i7), .val (.int c8), .val (.int c9), .val (.int c10), .val (.int c11), .val (.ref r1), .val (.ref r4), .val (.ref r4), .val (.ref b51), .unset] [(.int (1 : Int32))]))
                            refine Goes.st (fun t k => XS.goto X53.here hx rfl (pc0 := 234) (pc' := 238) rfl (hb hby at_234) (by decide) (by decide) k) ?_
                            show Goes _ _ _ _ (T53.setTop (mkF m 238 #[.val (.int p0), .val (.int p1), .val (.int p2), .val (.int i3), .val (.int i4), .val (.int i5), .val (.int i6), .val (.int i7), .val (.int c8), .val (.int c9), .val (.int c10), .val (.int c11), .val (.ref r1), .val (.ref r4), .val (.ref r4), .val (.ref b51), .unset] [(.int (1 : Int32))]))
                            refine Goes.st (fun t k => XS.istore X53.here hx rfl (hb hby at_238) rfl (l' := #[.val (.int p0), .val (.int p1), .val (.int p2), .val (.int i3), .val (.int i4), .val (.int i5), .val (.int i6), .val (.int i7), .val (.int c8), .val (.int c9), .val (.int c10), .val (.int c11), .val (.ref r1), .val (.ref r4), .val (.ref r4), .val (.ref b51), .val (.int (1 : Int32))]) rfl k) ?_
                            show Goes _ _ _ _ (T53.setTop (mkF m 240 #[.val (.int p0), .val (.int p1), .val (.int p2), .val (.int i3), .val (.int i4), .val (.int i5), .val (.int i6), .val (.int i7), .val (.int c8), .val (.int c9), .val (.int c10), .val (.int c11), .val (.ref r1), .val (.ref r4), .val (.ref r4), .val (.ref b51), .val (.int (1 : Int32))] []))
                            refine Goes.st (fun t k => XS.aload X53.here hx rfl (hb hby at_240) rfl rfl k) ?_
                            show Goes _ _ _ _ (T53.setTop (mkF m 242 #[.val (.int p0), .val (.int p1), .val (.int p2), .val (.int i3), .val (.int i4), .val (.int i5), .val (.int i6), .val (.int i7), .val (.int c8), .val (.int c9), .val (.int c10), .val (.int c11), .val (.ref r1), .val (.ref r4), .val (.ref r4), .val (.ref b51), .val (.int (1 : Int32))] [(.ref b51)]))
                            have f79 : Str Z T53.heap r1 t1 kb1 (own_mk i6 c8 c9) := (((F1_0.keep K4 nin0 nin0).ext E51).keep K53 (ninS (Nat.ne_of_lt (Nat.lt_of_lt_of_le F1_0.1.lt (Nat.le_trans K4.1 (Nat.le_of_eq g51.symm)))) nin0) (ninS (Nat.ne_of_lt (Nat.lt_of_lt_of_le F1_0.ltT (Nat.le_trans K4.1 (Nat.le_of_eq g51.symm)))) nin0))
                            have f80 : Str Z T53.heap r4 t4 kb4 (own_mk i7 c10 c11) := ((F4_0.ext E51).keep K53 (ninS (Nat.ne_of_lt (Nat.lt_of_lt_of_le F4_0.1.lt (Nat.le_of_eq g51.symm))) nin0) (ninS (Nat.ne_of_lt (Nat.lt_of_lt_of_le F4_0.ltT (Nat.le_of_eq g51.symm))) nin0))
                            have f81 : Old Z n0 T53.heap := (((f5.keep K4 all0).ext E51).keep K53 (allS (Nat.le_trans Z0 (Nat.le_trans (Nat.le_trans K1.1 K4.1) (Nat.le_of_eq g51.symm))) all0))
                            obtain ⟨cq78, kq78, q78a, q78b, q78c⟩ := isOf hZ4 rfl F53_0
                            obtain ⟨_, _, ⟨T78, L78, k78, n78⟩, -, X78, ⟨Lc78, hQ78, l78, y78, z78⟩, st78⟩ := X53.virtualBack hx (y := (⟨"com/example/sillon/sillon/transport/SoapOperation$Parts", "mainIsMessage", "()Z"⟩ : MethodName)) (z := (⟨"com/example/sillon/sillon/transport/SoapOperation$Parts", "mainIsMessage", "()Z"⟩ : MethodName)) hown4 (mvT hZ4 (hw59 hw)) (mvT hZ4 (hw60 hw)) (notFace_of_selects (args := #[]) (mvT hZ4 (hw62 hw))) (mvT hZ4 (hw62 hw)) (mvT hZ4 (hw61 hw)) (by decide) (backOf (W := 0) (rm_miS l Z a0 hw [] b51 r1 t1 kb1 (own_mk i6 c8 c9) r4 t4 kb4 (own_mk i7 c10 c11) G1 T53.heap n0 (Nat.le_trans Z0 (Nat.le_trans (Nat.le_trans (Nat.le_trans K1.1 K4.1) E51.1) K53.1)) F53_1 F53_2 f79 f80 f81 O2 P5) hZ4 (hw63 hw) (hw39 hw) (by decide) (by decide)) q78a q78c (g := (mkF m 242 #[.val (.int p0), .val (.int p1), .val (.int p2), .val (.int i3), .val (.int i4), .val (.int i5), .val (.int i6), .val (.int i7), .val (.int c8), .val (.int c9), .val (.int c10), .val (.int c11), .val (.ref r1), .val (.ref r4), .val (.ref r4), .val (.ref b51), .val (.int (1 : Int32))] [(.ref b51)])) rfl (by rw [hml]; rfl) (Steps.refl _) (argsL := []) (rest := []) (lenOf pd_10 rfl) rfl (by show 2 * 0 + _ ≤ _; exact Nat.le_of_eq rfl) (hb hby at_242) (fun _ _ => ⟨rfl, rfl, (by decide : 13 + 0 ≤ _), (by decide : 29 + 0 ≤ _)⟩)
                            dsimp only [Pt.U, Pt.locs, Pt.cells, Pt.slots] at X78 l78 y78 z78 st78 hQ78
                            subst l78 y78 z78
                            obtain ⟨rfl, N78q, K78⟩ := hQ78
                            have N78 := Fr.app N53 N78q
                            refine Goes.tr st78 ?_
                            show Goes _ _ _ _ (T78.setTop (mkF m 245 #[.val (.int p0), .val (.int p1), .val (.int p2), .val (.int i3), .val (.int i4), .val (.int i5), .val (.int i6), .val (.int i7), .val (.int c8), .val (.int c9), .val (.int c10), .val (.int c11), .val (.ref r1), .val (.ref r4), .val (.ref r4), .val (.ref b51), .val (.int (1 : Int32))] [(.int (if ((own_mk i6 c8 c9) : List Int32) = (own_mk i7 c10 c11) then (1 : Int32) else 0))]))
                            refine Goes.st (fun t k => XS.iload X78.here hx rfl (hb hby at_245) rfl k) ?_
                            show Goes _ _ _ _ (T78.setTop (mkF m 247 #[.val (.int p0), .val (.int p1), .val (.int p2), .val (.int i3), .val (.int i4), .val (.int i5), .val (.int i6), .val (.int i7), .val (.int c8), .val (.int c9), .val (.int c10), .val (.int c11), .val (.ref r1), .val (.ref r4), .val (.ref r4), .val (.ref b51), .val (.int (1 : Int32))] [(.int (1 : Int32)), (.int (if ((own_mk i6 c8 c9) : List Int32) = (own_mk i7 c10 c11) then (1 : Int32) else 0))]))
                            refine Goes.st (fun t k => XS.icmpNo X78.here hx rfl (hb hby at_247) rfl (teq (if_pos ((own_mkeq h3i6 h3i7).mpr ⟨cz55, (Or.inr cz71), (Or.inr cz77)⟩))).2 k) ?_
                            show Goes _ _ _ _ (T78.setTop (mkF m 250 #[.val (.int p0), .val (.int p1), .val (.int p2), .val (.int i3), .val (.int i4), .val (.int i5), .val (.int i6), .val (.int i7), .val (.int c8), .val (.int c9), .val (.int c10), .val (.int c11), .val (.ref r1), .val (.ref r4), .val (.ref r4), .val (.ref b51), .val (.int (1 : Int32))] []))
                            refine Goes.st (fun t k => XS.iconst X78.here hx rfl (hb hby at_250) k) ?_
                            show Goes _ _ _ _ (T78.setTop (mkF m 251 #[.val (.int p0), .val (.int p1), .val (.int p2), .val (.int i3), .val (.int i4), .val (.int i5), .val (.int i6), .val (.int i7), .val (.int c8), .val (.int c9), .val (.int c10), .val (.int c11), .val (.ref r1), .val (.ref r4), .val (.ref r4), .val (.ref b51), .val (.int (1 : Int32))] [(.int (1 : Int32))]))
                            refine Goes.st (fun t k => XS.goto X78.here hx rfl (pc0 := 251) (pc' := 255) rfl (hb hby at_251) (by decide) (by decide) k) ?_
                            show Goes _ _ _ _ (T78.setTop (mkF m 255 #[.val (.int p0), .val (.int p1), .val (.int p2), .val (.int i3), .val (.int i4), .val (.int i5), .val (.int i6), .val (.int i7), .val (.int c8), .val (.int c9), .val (.int c10), .val (.int c11), .val (.ref r1), .val (.ref r4), .val (.ref r4), .val (.ref b51), .val (.int (1 : Int32))] [(.int (1 : Int32))]))
                            obtain ⟨fs, hr, hrun, hended, hRW⟩ := X78.leaveW hS4 (by rw [K78]; exact (Nat.le_trans (Nat.le_trans (Nat.le_refl _) E51.1) K53.1)) (v := some (.int (1 : Int32))) (fun h => by rw [Bd.returns] at h; cases h)
                            subst hQQ
                            have hCR : CHr Z EL s.vm s.heap T78.vm T78.heap := by rw [hh, K78]; exact CR54.trans (CHv.at X78 hZ4 (own_EW hw) CR54.1)
                            refine ⟨_, _, retN X78 hx (t := .boolean) Bd.returns (by simp) (hb hby at_255) hr, hrun, hended, _, _, rfl, ?_, hCR, own_REmono hRW (by decide) (by decide)⟩
                            show Q_law Z p0 p1 p2 G1 h0 n0 _ T78.heap _
                            rw [K78]
                            exact ⟨rfl, N78⟩
                          case neg =>
                            refine Goes.st (fun t k => XS.icmpYes X53.here hx rfl (pc0 := 230) (pc' := 237) rfl (hb hby at_230) rfl (feq cz77).2 (by decide) (by decide) k) ?_
                            show Goes _ _ _ _ (T53.setTop (mkF m 237 #[.val (.int p0), .val (.int p1), .val (.int p2), .val (.int i3), .val (.int i4), .val (.int i5), .val (.int i6), .val (.int i7), .val (.int c8), .val (.int c9), .val (.int c10), .val (.int c11), .val (.ref r1), .val (.ref r4), .val (.ref r4), .val (.ref b51), .unset] []))
                            refine Goes.st (fun t k => XS.iconst X53.here hx rfl (hb hby at_237) k) ?_
                            show Goes _ _ _ _ (T53.setTop (mkF m 238 #[.val (.int p0), .val (.int p1), .val (.int p2), .val (.int i3), .val (.int i4), .val (.int i5), .val (.int i6), .val (.int i7), .val (.int c8), .val (.int c9), .val (.int c10), .val (.int c11), .val (.ref r1), .val (.ref r4), .val (.ref r4), .val (.ref b51), .unset] [(.int (0 : Int32))]))
                            refine Goes.st (fun t k => XS.istore X53.here hx rfl (hb hby at_238) rfl (l' := #[.val (.int p0), .val (.int p1), .val (.int p2), .val (.int i3), .val (.int i4), .val (.int i5), .val (.int i6), .val (.int i7), .val (.int c8), .val (.int c9), .val (.int c10), .val (.int c11), .val (.ref r1), .val (.ref r4), .val (.ref r4), .val (.ref b51), .val (.int (0 : Int32))]) rfl k) ?_
                            show Goes _ _ _ _ (T53.setTop (mkF m 240 #[.val (.int p0), .val (.int p1), .val (.int p2), .val (.int i3), .val (.int i4), .val (.int i5), .val (.int i6), .val (.int i7), .val (.int c8), .val (.int c9), .val (.int c10), .val (.int c11), .val (.ref r1), .val (.ref r4), .val (.ref r4), .val (.ref b51), .val (.int (0 : Int32))] []))
                            refine Goes.st (fun t k => XS.aload X53.here hx rfl (hb hby at_240) rfl rfl k) ?_
                            show Goes _ _ _ _ (T53.setTop (mkF m 242 #[.val (.int p0), .val (.int p1), .val (.int p2), .val (.int i3), .val (.int i4), .val (.int i5), .val (.int i6), .val (.int i7), .val (.int c8), .val (.int c9), .val (.int c10), .val (.int c11), .val (.ref r1), .val (.ref r4), .val (.ref r4), .val (.ref b51), .val (.int (0 : Int32))] [(.ref b51)]))
                            have f83 : Str Z T53.heap r1 t1 kb1 (own_mk i6 c8 c9) := (((F1_0.keep K4 nin0 nin0).ext E51).keep K53 (ninS (Nat.ne_of_lt (Nat.lt_of_lt_of_le F1_0.1.lt (Nat.le_trans K4.1 (Nat.le_of_eq g51.symm)))) nin0) (ninS (Nat.ne_of_lt (Nat.lt_of_lt_of_le F1_0.ltT (Nat.le_trans K4.1 (Nat.le_of_eq g51.symm)))) nin0))
                            have f84 : Str Z T53.heap r4 t4 kb4 (own_mk i7 c10 c11) := ((F4_0.ext E51).keep K53 (ninS (Nat.ne_of_lt (Nat.lt_of_lt_of_le F4_0.1.lt (Nat.le_of_eq g51.symm))) nin0) (ninS (Nat.ne_of_lt (Nat.lt_of_lt_of_le F4_0.ltT (Nat.le_of_eq g51.symm))) nin0))
                            have f85 : Old Z n0 T53.heap := (((f5.keep K4 all0).ext E51).keep K53 (allS (Nat.le_trans Z0 (Nat.le_trans (Nat.le_trans K1.1 K4.1) (Nat.le_of_eq g51.symm))) all0))
                            obtain ⟨cq82, kq82, q82a, q82b, q82c⟩ := isOf hZ4 rfl F53_0
                            obtain ⟨_, _, ⟨T82, L82, k82, n82⟩, -, X82, ⟨Lc82, hQ82, l82, y82, z82⟩, st82⟩ := X53.virtualBack hx (y := (⟨"com/example/sillon/sillon/transport/SoapOperation$Parts", "mainIsMessage", "()Z"⟩ : MethodName)) (z := (⟨"com/example/sillon/sillon/transport/SoapOperation$Parts", "mainIsMessage", "()Z"⟩ : MethodName)) hown4 (mvT hZ4 (hw59 hw)) (mvT hZ4 (hw60 hw)) (notFace_of_selects (args := #[]) (mvT hZ4 (hw62 hw))) (mvT hZ4 (hw62 hw)) (mvT hZ4 (hw61 hw)) (by decide) (backOf (W := 0) (rm_miS l Z a0 hw [] b51 r1 t1 kb1 (own_mk i6 c8 c9) r4 t4 kb4 (own_mk i7 c10 c11) G1 T53.heap n0 (Nat.le_trans Z0 (Nat.le_trans (Nat.le_trans (Nat.le_trans K1.1 K4.1) E51.1) K53.1)) F53_1 F53_2 f83 f84 f85 O2 P5) hZ4 (hw63 hw) (hw39 hw) (by decide) (by decide)) q82a q82c (g := (mkF m 242 #[.val (.int p0), .val (.int p1), .val (.int p2), .val (.int i3), .val (.int i4), .val (.int i5), .val (.int i6), .val (.int i7), .val (.int c8), .val (.int c9), .val (.int c10), .val (.int c11), .val (.ref r1), .val (.ref r4), .val (.ref r4), .val (.ref b51), .val (.int (0 : Int32))] [(.ref b51)])) rfl (by rw [hml]; rfl) (Steps.refl _) (argsL := []) (rest := []) (lenOf pd_10 rfl) rfl (by show 2 * 0 + _ ≤ _; exact Nat.le_of_eq rfl) (hb hby at_242) (fun _ _ => ⟨rfl, rfl, (by decide : 13 + 0 ≤ _), (by decide : 29 + 0 ≤ _)⟩)
                            dsimp only [Pt.U, Pt.locs, Pt.cells, Pt.slots] at X82 l82 y82 z82 st82 hQ82
                            subst l82 y82 z82
                            obtain ⟨rfl, N82q, K82⟩ := hQ82
                            have N82 := Fr.app N53 N82q
                            refine Goes.tr st82 ?_
                            show Goes _ _ _ _ (T82.setTop (mkF m 245 #[.val (.int p0), .val (.int p1), .val (.int p2), .val (.int i3), .val (.int i4), .val (.int i5), .val (.int i6), .val (.int i7), .val (.int c8), .val (.int c9), .val (.int c10), .val (.int c11), .val (.ref r1), .val (.ref r4), .val (.ref r4), .val (.ref b51), .val (.int (0 : Int32))] [(.int (if ((own_mk i6 c8 c9) : List Int32) = (own_mk i7 c10 c11) then (1 : Int32) else 0))]))
                            refine Goes.st (fun t k => XS.iload X82.here hx rfl (hb hby at_245) rfl k) ?_
                            show Goes _ _ _ _ (T82.setTop (mkF m 247 #[.val (.int p0), .val (.int p1), .val (.int p2), .val (.int i3), .val (.int i4), .val (.int i5), .val (.int i6), .val (.int i7), .val (.int c8), .val (.int c9), .val (.int c10), .val (.int c11), .val (.ref r1), .val (.ref r4), .val (.ref r4), .val (.ref b51), .val (.int (0 : Int32))] [(.int (0 : Int32)), (.int (if ((own_mk i6 c8 c9) : List Int32) = (own_mk i7 c10 c11) then (1 : Int32) else 0))]))
                            refine Goes.st (fun t k => XS.icmpNo X82.here hx rfl (hb hby at_247) rfl (teq (if_neg fun q => ((own_mkeq h3i6 h3i7).mp q).2.2.elim cz72 cz77)).2 k) ?_
                            show Goes _ _ _ _ (T82.setTop (mkF m 250 #[.val (.int p0), .val (.int p1), .val (.int p2), .val (.int i3), .val (.int i4), .val (.int i5), .val (.int i6), .val (.int i7), .val (.int c8), .val (.int c9), .val (.int c10), .val (.int c11), .val (.ref r1), .val (.ref r4), .val (.ref r4), .val (.ref b51), .val (.int (0 : Int32))] []))
                            refine Goes.st (fun t k => XS.iconst X82.here hx rfl (hb hby at_250) k) ?_
                            show Goes _ _ _ _ (T82.setTop (mkF m 251 #[.val (.int p0), .val (.int p1), .val (.int p2), .val (.int i3), .val (.int i4), .val (.int i5), .val (.int i6), .val (.int i7), .val (.int c8), .val (.int c9), .val (.int c10), .val (.int c11), .val (.ref r1), .val (.ref r4), .val (.ref r4), .val (.ref b51), .val (.int (0 : Int32))] [(.int (1 : Int32))]))
                            refine Goes.st (fun t k => XS.goto X82.here hx rfl (pc0 := 251) (pc' := 255) rfl (hb hby at_251) (by decide) (by decide) k) ?_
                            show Goes _ _ _ _ (T82.setTop (mkF m 255 #[.val (.int p0), .val (.int p1), .val (.int p2), .val (.int i3), .val (.int i4), .val (.int i5), .val (.int i6), .val (.int i7), .val (.int c8), .val (.int c9), .val (.int c10), .val (.int c11), .val (.ref r1), .val (.ref r4), .val (.ref r4), .val (.ref b51), .val (.int (0 : Int32))] [(.int (1 : Int32))]))
                            obtain ⟨fs, hr, hrun, hended, hRW⟩ := X82.leaveW hS4 (by rw [K82]; exact (Nat.le_trans (Nat.le_trans (Nat.le_refl _) E51.1) K53.1)) (v := some (.int (1 : Int32))) (fun h => by rw [Bd.returns] at h; cases h)
                            subst hQQ
                            have hCR : CHr Z EL s.vm s.heap T82.vm T82.heap := by rw [hh, K82]; exact CR54.trans (CHv.at X82 hZ4 (own_EW hw) CR54.1)
                            refine ⟨_, _, retN X82 hx (t := .boolean) Bd.returns (by simp) (hb hby at_255) hr, hrun, hended, _, _, rfl, ?_, hCR, own_REmono hRW (by decide) (by decide)⟩
                            show Q_law Z p0 p1 p2 G1 h0 n0 _ T82.heap _
                            rw [K82]
                            exact ⟨rfl, N82⟩
                      case neg =>
                        refine Goes.st (fun t k => XS.icmpYes X53.here hx rfl (pc0 := 217) (pc' := 237) rfl (hb hby at_217) rfl (feq cz71).2 (by decide) (by decide) k) ?_
                        show Goes _ _ _ _ (T53.setTop (mkF m 237 #[.val (.int p0), .val (.int p1), .val (.int p2), .val (.int i3), .val (.int i4), .val (.int i5), .val (.int i6), .val (.int i7), .val (.int c8), .val (.int c9), .val (.int c10), .val (.int c11), .val (.ref r1), .val (.ref r4), .val (.ref r4), .val (.ref b51), .unset] []))
                        refine Goes.st (fun t k => XS.iconst X53.here hx rfl (hb hby at_237) k) ?_
                        show Goes _ _ _ _ (T53.setTop (mkF m 238 #[.val (.int p0), .val (.int p1), .val (.int p2), .val (.int i3), .val (.int i4), .val (.int i5), .val (.int i6), .val (.int i7), .val (.int c8), .val (.int c9), .val (.int c10), .val (.int c11), .val (.ref r1), .val (.ref r4), .val (.ref r4), .val (.ref b51), .unset] [(.int (0 : Int32))]))
                        refine Goes.st (fun t k => XS.istore X53.here hx rfl (hb hby at_238) rfl (l' := #[.val (.int p0), .val (.int p1), .val (.int p2), .val (.int i3), .val (.int i4), .val (.int i5), .val (.int i6), .val (.int i7), .val (.int c8), .val (.int c9), .val (.int c10), .val (.int c11), .val (.ref r1), .val (.ref r4), .val (.ref r4), .val (.ref b51), .val (.int (0 : Int32))]) rfl k) ?_
                        show Goes _ _ _ _ (T53.setTop (mkF m 240 #[.val (.int p0), .val (.int p1), .val (.int p2), .val (.int i3), .val (.int i4), .val (.int i5), .val (.int i6), .val (.int i7), .val (.int c8), .val (.int c9), .val (.int c10), .val (.int c11), .val (.ref r1), .val (.ref r4), .val (.ref r4), .val (.ref b51), .val (.int (0 : Int32))] []))
                        refine Goes.st (fun t k => XS.aload X53.here hx rfl (hb hby at_240) rfl rfl k) ?_
                        show Goes _ _ _ _ (T53.setTop (mkF m 242 #[.val (.int p0), .val (.int p1), .val (.int p2), .val (.int i3), .val (.int i4), .val (.int i5), .val (.int i6), .val (.int i7), .val (.int c8), .val (.int c9), .val (.int c10), .val (.int c11), .val (.ref r1), .val (.ref r4), .val (.ref r4), .val (.ref b51), .val (.int (0 : Int32))] [(.ref b51)]))
                        have f87 : Str Z T53.heap r1 t1 kb1 (own_mk i6 c8 c9) := (((F1_0.keep K4 nin0 nin0).ext E51).keep K53 (ninS (Nat.ne_of_lt (Nat.lt_of_lt_of_le F1_0.1.lt (Nat.le_trans K4.1 (Nat.le_of_eq g51.symm)))) nin0) (ninS (Nat.ne_of_lt (Nat.lt_of_lt_of_le F1_0.ltT (Nat.le_trans K4.1 (Nat.le_of_eq g51.symm)))) nin0))
                        have f88 : Str Z T53.heap r4 t4 kb4 (own_mk i7 c10 c11) := ((F4_0.ext E51).keep K53 (ninS (Nat.ne_of_lt (Nat.lt_of_lt_of_le F4_0.1.lt (Nat.le_of_eq g51.symm))) nin0) (ninS (Nat.ne_of_lt (Nat.lt_of_lt_of_le F4_0.ltT (Nat.le_of_eq g51.symm))) nin0))
                        have f89 : Old Z n0 T53.heap := (((f5.keep K4 all0).ext E51).keep K53 (allS (Nat.le_trans Z0 (Nat.le_trans (Nat.le_trans K1.1 K4.1) (Nat.le_of_eq g51.symm))) all0))
                        obtain ⟨cq86, kq86, q86a, q86b, q86c⟩ := isOf hZ4 rfl F53_0
                        obtain ⟨_, _, ⟨T86, L86, k86, n86⟩, -, X86, ⟨Lc86, hQ86, l86, y86, z86⟩, st86⟩ := X53.virtualBack hx (y := (⟨"com/example/sillon/sillon/transport/SoapOperation$Parts", "mainIsMessage", "()Z"⟩ : MethodName)) (z := (⟨"com/example/sillon/sillon/transport/SoapOperation$Parts", "mainIsMessage", "()Z"⟩ : MethodName)) hown4 (mvT hZ4 (hw59 hw)) (mvT hZ4 (hw60 hw)) (notFace_of_selects (args := #[]) (mvT hZ4 (hw62 hw))) (mvT hZ4 (hw62 hw)) (mvT hZ4 (hw61 hw)) (by decide) (backOf (W := 0) (rm_miS l Z a0 hw [] b51 r1 t1 kb1 (own_mk i6 c8 c9) r4 t4 kb4 (own_mk i7 c10 c11) G1 T53.heap n0 (Nat.le_trans Z0 (Nat.le_trans (Nat.le_trans (Nat.le_trans K1.1 K4.1) E51.1) K53.1)) F53_1 F53_2 f87 f88 f89 O2 P5) hZ4 (hw63 hw) (hw39 hw) (by decide) (by decide)) q86a q86c (g := (mkF m 242 #[.val (.int p0), .val (.int p1), .val (.int p2), .val (.int i3), .val (.int i4), .val (.int i5), .val (.int i6), .val (.int i7), .val (.int c8), .val (.int c9), .val (.int c10), .val (.int c11), .val (.ref r1), .val (.ref r4), .val (.ref r4), .val (.ref b51), .val (.int (0 : Int32))] [(.ref b51)])) rfl (by rw [hml]; rfl) (Steps.refl _) (argsL := []) (rest := []) (lenOf pd_10 rfl) rfl (by show 2 * 0 + _ ≤ _; exact Nat.le_of_eq rfl) (hb hby at_242) (fun _ _ => ⟨rfl, rfl, (by decide : 13 + 0 ≤ _), (by decide : 29 + 0 ≤ _)⟩)
                        dsimp only [Pt.U, Pt.locs, Pt.cells, Pt.slots] at X86 l86 y86 z86 st86 hQ86
                        subst l86 y86 z86
                        obtain ⟨rfl, N86q, K86⟩ := hQ86
                        have N86 := Fr.app N53 N86q
                        refine Goes.tr st86 ?_
                        show Goes _ _ _ _ (T86.setTop (mkF m 245 #[.val (.int p0), .val (.int p1), .val (.int p2), .val (.int i3), .val (.int i4), .val (.int i5), .val (.int i6), .val (.int i7), .val (.int c8), .val (.int c9), .val (.int c10), .val (.int c11), .val (.ref r1), .val (.ref r4), .val (.ref r4), .val (.ref b51), .val (.int (0 : Int32))] [(.int (if ((own_mk i6 c8 c9) : List Int32) = (own_mk i7 c10 c11) then (1 : Int32) else 0))]))
                        refine Goes.st (fun t k => XS.iload X86.here hx rfl (hb hby at_245) rfl k) ?_
                        show Goes _ _ _ _ (T86.setTop (mkF m 247 #[.val (.int p0), .val (.int p1), .val (.int p2), .val (.int i3), .val (.int i4), .val (.int i5), .val (.int i6), .val (.int i7), .val (.int c8), .val (.int c9), .val (.int c10), .val (.int c11), .val (.ref r1), .val (.ref r4), .val (.ref r4), .val (.ref b51), .val (.int (0 : Int32))] [(.int (0 : Int32)), (.int (if ((own_mk i6 c8 c9) : List Int32) = (own_mk i7 c10 c11) then (1 : Int32) else 0))]))
                        refine Goes.st (fun t k => XS.icmpNo X86.here hx rfl (hb hby at_247) rfl (teq (if_neg fun q => ((own_mkeq h3i6 h3i7).mp q).2.1.elim cz56 cz71)).2 k) ?_
                        show Goes _ _ _ _ (T86.setTop (mkF m 250 #[.val (.int p0), .val (.int p1), .val (.int p2), .val (.int i3), .val (.int i4), .val (.int i5), .val (.int i6), .val (.int i7), .val (.int c8), .val (.int c9), .val (.int c10), .val (.int c11), .val (.ref r1), .val (.ref r4), .val (.ref r4), .val (.ref b51), .val (.int (0 : Int32))] []))
                        refine Goes.st (fun t k => XS.iconst X86.here hx rfl (hb hby at_250) k) ?_
                        show Goes _ _ _ _ (T86.setTop (mkF m 251 #[.val (.int p0), .val (.int p1), .val (.int p2), .val (.int i3), .val (.int i4), .val (.int i5), .val (.int i6), .val (.int i7), .val (.int c8), .val (.int c9), .val (.int c10), .val (.int c11), .val (.ref r1), .val (.ref r4), .val (.ref r4), .val (.ref b51), .val (.int (0 : Int32))] [(.int (1 : Int32))]))
                        refine Goes.st (fun t k => XS.goto X86.here hx rfl (pc0 := 251) (pc' := 255) rfl (hb hby at_251) (by decide) (by decide) k) ?_
                        show Goes _ _ _ _ (T86.setTop (mkF m 255 #[.val (.int p0), .val (.int p1), .val (.int p2), .val (.int i3), .val (.int i4), .val (.int i5), .val (.int i6), .val (.int i7), .val (.int c8), .val (.int c9), .val (.int c10), .val (.int c11), .val (.ref r1), .val (.ref r4), .val (.ref r4), .val (.ref b51), .val (.int (0 : Int32))] [(.int (1 : Int32))]))
                        obtain ⟨fs, hr, hrun, hended, hRW⟩ := X86.leaveW hS4 (by rw [K86]; exact (Nat.le_trans (Nat.le_trans (Nat.le_refl _) E51.1) K53.1)) (v := some (.int (1 : Int32))) (fun h => by rw [Bd.returns] at h; cases h)
                        subst hQQ
                        have hCR : CHr Z EL s.vm s.heap T86.vm T86.heap := by rw [hh, K86]; exact CR54.trans (CHv.at X86 hZ4 (own_EW hw) CR54.1)
                        refine ⟨_, _, retN X86 hx (t := .boolean) Bd.returns (by simp) (hb hby at_255) hr, hrun, hended, _, _, rfl, ?_, hCR, own_REmono hRW (by decide) (by decide)⟩
                        show Q_law Z p0 p1 p2 G1 h0 n0 _ T86.heap _
                        rw [K86]
                        exact ⟨rfl, N86⟩
                  case neg =>
                    refine Goes.st (fun t k => XS.icmpYes X53.here hx rfl (pc0 := 204) (pc' := 237) rfl (hb hby at_204) rfl (feq cz55).2 (by decide) (by decide) k) ?_
                    show Goes _ _ _ _ (T53.setTop (mkF m 237 #[.val (.int p0), .val (.int p1), .val (.int p2), .val (.int i3), .val (.int i4), .val (.int i5), .val (.int i6), .val (.int i7), .val (.int c8), .val (.int c9), .val (.int c10), .val (.int c11), .val (.ref r1), .val (.ref r4), .val (.ref r4), .val (.ref b51), .unset] []))
                    refine Goes.st (fun t k => XS.iconst X53.here hx rfl (hb hby at_237) k) ?_
                    show Goes _ _ _ _ (T53.setTop (mkF m 238 #[.val (.int p0), .val (.int p1), .val (.int p2), .val (.int i3), .val (.int i4), .val (.int i5), .val (.int i6), .val (.int i7), .val (.int c8), .val (.int c9), .val (.int c10), .val (.int c11), .val (.ref r1), .val (.ref r4), .val (.ref r4), .val (.ref b51), .unset] [(.int (0 : Int32))]))
                    refine Goes.st (fun t k => XS.istore X53.here hx rfl (hb hby at_238) rfl (l' := #[.val (.int p0), .val (.int p1), .val (.int p2), .val (.int i3), .val (.int i4), .val (.int i5), .val (.int i6), .val (.int i7), .val (.int c8), .val (.int c9), .val (.int c10), .val (.int c11), .val (.ref r1), .val (.ref r4), .val (.ref r4), .val (.ref b51), .val (.int (0 : Int32))]) rfl k) ?_
                    show Goes _ _ _ _ (T53.setTop (mkF m 240 #[.val (.int p0), .val (.int p1), .val (.int p2), .val (.int i3), .val (.int i4), .val (.int i5), .val (.int i6), .val (.int i7), .val (.int c8), .val (.int c9), .val (.int c10), .val (.int c11), .val (.ref r1), .val (.ref r4), .val (.ref r4), .val (.ref b51), .val (.int (0 : Int32))] []))
                    refine Goes.st (fun t k => XS.aload X53.here hx rfl (hb hby at_240) rfl rfl k) ?_
                    show Goes _ _ _ _ (T53.setTop (mkF m 242 #[.val (.int p0), .val (.int p1), .val (.int p2), .val (.int i3), .val (.int i4), .val (.int i5), .val (.int i6), .val (.int i7), .val (.int c8), .val (.int c9), .val (.int c10), .val (.int c11), .val (.ref r1), .val (.ref r4), .val (.ref r4), .val (.ref b51), .val (.int (0 : Int32))] [(.ref b51)]))
                    have f91 : Str Z T53.heap r1 t1 kb1 (own_mk i6 c8 c9) := (((F1_0.keep K4 nin0 nin0).ext E51).keep K53 (ninS (Nat.ne_of_lt (Nat.lt_of_lt_of_le F1_0.1.lt (Nat.le_trans K4.1 (Nat.le_of_eq g51.symm)))) nin0) (ninS (Nat.ne_of_lt (Nat.lt_of_lt_of_le F1_0.ltT (Nat.le_trans K4.1 (Nat.le_of_eq g51.symm)))) nin0))
                    have f92 : Str Z T53.heap r4 t4 kb4 (own_mk i7 c10 c11) := ((F4_0.ext E51).keep K53 (ninS (Nat.ne_of_lt (Nat.lt_of_lt_of_le F4_0.1.lt (Nat.le_of_eq g51.symm))) nin0) (ninS (Nat.ne_of_lt (Nat.lt_of_lt_of_le F4_0.ltT (Nat.le_of_eq g51.symm))) nin0))
                    have f93 : Old Z n0 T53.heap := (((f5.keep K4 all0).ext E51).keep K53 (allS (Nat.le_trans Z0 (Nat.le_trans (Nat.le_trans K1.1 K4.1) (Nat.le_of_eq g51.symm))) all0))
                    obtain ⟨cq90, kq90, q90a, q90b, q90c⟩ := isOf hZ4 rfl F53_0
                    obtain ⟨_, _, ⟨T90, L90, k90, n90⟩, -, X90, ⟨Lc90, hQ90, l90, y90, z90⟩, st90⟩ := X53.virtualBack hx (y := (⟨"com/example/sillon/sillon/transport/SoapOperation$Parts", "mainIsMessage", "()Z"⟩ : MethodName)) (z := (⟨"com/example/sillon/sillon/transport/SoapOperation$Parts", "mainIsMessage", "()Z"⟩ : MethodName)) hown4 (mvT hZ4 (hw59 hw)) (mvT hZ4 (hw60 hw)) (notFace_of_selects (args := #[]) (mvT hZ4 (hw62 hw))) (mvT hZ4 (hw62 hw)) (mvT hZ4 (hw61 hw)) (by decide) (backOf (W := 0) (rm_miS l Z a0 hw [] b51 r1 t1 kb1 (own_mk i6 c8 c9) r4 t4 kb4 (own_mk i7 c10 c11) G1 T53.heap n0 (Nat.le_trans Z0 (Nat.le_trans (Nat.le_trans (Nat.le_trans K1.1 K4.1) E51.1) K53.1)) F53_1 F53_2 f91 f92 f93 O2 P5) hZ4 (hw63 hw) (hw39 hw) (by decide) (by decide)) q90a q90c (g := (mkF m 242 #[.val (.int p0), .val (.int p1), .val (.int p2), .val (.int i3), .val (.int i4), .val (.int i5), .val (.int i6), .val (.int i7), .val (.int c8), .val (.int c9), .val (.int c10), .val (.int c11), .val (.ref r1), .val (.ref r4), .val (.ref r4), .val (.ref b51), .val (.int (0 : Int32))] [(.ref b51)])) rfl (by rw [hml]; rfl) (Steps.refl _) (argsL := []) (rest := []) (lenOf pd_10 rfl) rfl (by show 2 * 0 + _ ≤ _; exact Nat.le_of_eq rfl) (hb hby at_242) (fun _ _ => ⟨rfl, rfl, (by decide : 13 + 0 ≤ _), (by decide : 29 + 0 ≤ _)⟩)
                    dsimp only [Pt.U, Pt.locs, Pt.cells, Pt.slots] at X90 l90 y90 z90 st90 hQ90
                    subst l90 y90 z90
                    obtain ⟨rfl, N90q, K90⟩ := hQ90
                    have N90 := Fr.app N53 N90q
                    refine Goes.tr st90 ?_
                    show Goes _ _ _ _ (T90.setTop (mkF m 245 #[.val (.int p0), .val (.int p1), .val (.int p2), .val (.int i3), .val (.int i4), .val (.int i5), .val (.int i6), .val (.int i7), .val (.int c8), .val (.int c9), .val (.int c10), .val (.int c11), .val (.ref r1), .val (.ref r4), .val (.ref r4), .val (.ref b51), .val (.int (0 : Int32))] [(.int (if ((own_mk i6 c8 c9) : List Int32) = (own_mk i7 c10 c11) then (1 : Int32) else 0))]))
                    refine Goes.st (fun t k => XS.iload X90.here hx rfl (hb hby at_245) rfl k) ?_
                    show Goes _ _ _ _ (T90.setTop (mkF m 247 #[.val (.int p0), .val (.int p1), .val (.int p2), .val (.int i3), .val (.int i4), .val (.int i5), .val (.int i6), .val (.int i7), .val (.int c8), .val (.int c9), .val (.int c10), .val (.int c11), .val (.ref r1), .val (.ref r4), .val (.ref r4), .val (.ref b51), .val (.int (0 : Int32))] [(.int (0 : Int32)), (.int (if ((own_mk i6 c8 c9) : List Int32) = (own_mk i7 c10 c11) then (1 : Int32) else 0))]))
                    refine Goes.st (fun t k => XS.icmpNo X90.here hx rfl (hb hby at_247) rfl (teq (if_neg fun q => cz55 ((own_mkeq h3i6 h3i7).mp q).1)).2 k) ?_
                    show Goes _ _ _ _ (T90.setTop (mkF m 250 #[.val (.int p0), .val (.int p1), .val (.int p2), .val (.int i3), .val (.int i4), .val (.int i5), .val (.int i6), .val (.int i7), .val (.int c8), .val (.int c9), .val (.int c10), .val (.int c11), .val (.ref r1), .val (.ref r4), .val (.ref r4), .val (.ref b51), .val (.int (0 : Int32))] []))
                    refine Goes.st (fun t k => XS.iconst X90.here hx rfl (hb hby at_250) k) ?_
                    show Goes _ _ _ _ (T90.setTop (mkF m 251 #[.val (.int p0), .val (.int p1), .val (.int p2), .val (.int i3), .val (.int i4), .val (.int i5), .val (.int i6), .val (.int i7), .val (.int c8), .val (.int c9), .val (.int c10), .val (.int c11), .val (.ref r1), .val (.ref r4), .val (.ref r4), .val (.ref b51), .val (.int (0 : Int32))] [(.int (1 : Int32))]))
                    refine Goes.st (fun t k => XS.goto X90.here hx rfl (pc0 := 251) (pc' := 255) rfl (hb hby at_251) (by decide) (by decide) k) ?_
                    show Goes _ _ _ _ (T90.setTop (mkF m 255 #[.val (.int p0), .val (.int p1), .val (.int p2), .val (.int i3), .val (.int i4), .val (.int i5), .val (.int i6), .val (.int i7), .val (.int c8), .val (.int c9), .val (.int c10), .val (.int c11), .val (.ref r1), .val (.ref r4), .val (.ref r4), .val (.ref b51), .val (.int (0 : Int32))] [(.int (1 : Int32))]))
                    obtain ⟨fs, hr, hrun, hended, hRW⟩ := X90.leaveW hS4 (by rw [K90]; exact (Nat.le_trans (Nat.le_trans (Nat.le_refl _) E51.1) K53.1)) (v := some (.int (1 : Int32))) (fun h => by rw [Bd.returns] at h; cases h)
                    subst hQQ
                    have hCR : CHr Z EL s.vm s.heap T90.vm T90.heap := by rw [hh, K90]; exact CR54.trans (CHv.at X90 hZ4 (own_EW hw) CR54.1)
                    refine ⟨_, _, retN X90 hx (t := .boolean) Bd.returns (by simp) (hb hby at_255) hr, hrun, hended, _, _, rfl, ?_, hCR, own_REmono hRW (by decide) (by decide)⟩
                    show Q_law Z p0 p1 p2 G1 h0 n0 _ T90.heap _
                    rw [K90]
                    exact ⟨rfl, N90⟩
              case neg =>
                refine Goes.st (fun t k => XS.ifNo X1.here hx rfl (hb hby at_140) rfl ((if0 _ _).trans (feq cz3).1) k) ?_
                show Goes _ _ _ _ (T1.setTop (mkF m 143 #[.val (.int p0), .val (.int p1), .val (.int p2), .val (.int i3), .val (.int i4), .val (.int i5), .val (.int i6), .val (.int i7), .val (.int c8), .val (.int c9), .val (.int c10), .val (.int c11), .val (.ref r1), .unset, .unset, .unset, .unset] []))
                refine Goes.st (fun t k => XS.aconstNull X1.here hx rfl (hb hby at_143) k) ?_
                show Goes _ _ _ _ (T1.setTop (mkF m 144 #[.val (.int p0), .val (.int p1), .val (.int p2), .val (.int i3), .val (.int i4), .val (.int i5), .val (.int i6), .val (.int i7), .val (.int c8), .val (.int c9), .val (.int c10), .val (.int c11), .val (.ref r1), .unset, .unset, .unset, .unset] [.null]))
                refine Goes.st (fun t k => XS.goto X1.here hx rfl (pc0 := 144) (pc' := 156) rfl (hb hby at_144) (by decide) (by decide) k) ?_
                show Goes _ _ _ _ (T1.setTop (mkF m 156 #[.val (.int p0), .val (.int p1), .val (.int p2), .val (.int i3), .val (.int i4), .val (.int i5), .val (.int i6), .val (.int i7), .val (.int c8), .val (.int c9), .val (.int c10), .val (.int c11), .val (.ref r1), .unset, .unset, .unset, .unset] [.null]))
                refine Goes.st (fun t k => XS.astore X1.here hx rfl (hb hby at_156) rfl rfl (l' := #[.val (.int p0), .val (.int p1), .val (.int p2), .val (.int i3), .val (.int i4), .val (.int i5), .val (.int i6), .val (.int i7), .val (.int c8), .val (.int c9), .val (.int c10), .val (.int c11), .val (.ref r1), .val .null, .unset, .unset, .unset]) rfl k) ?_
                show Goes _ _ _ _ (T1.setTop (mkF m 158 #[.val (.int p0), .val (.int p1), .val (.int p2), .val (.int i3), .val (.int i4), .val (.int i5), .val (.int i6), .val (.int i7), .val (.int c8), .val (.int c9), .val (.int c10), .val (.int c11), .val (.ref r1), .val .null, .unset, .unset, .unset] []))
                refine Goes.st (fun t k => XS.iload X1.here hx rfl (hb hby at_158) rfl k) ?_
                show Goes _ _ _ _ (T1.setTop (mkF m 160 #[.val (.int p0), .val (.int p1), .val (.int p2), .val (.int i3), .val (.int i4), .val (.int i5), .val (.int i6), .val (.int i7), .val (.int c8), .val (.int c9), .val (.int c10), .val (.int c11), .val (.ref r1), .val .null, .unset, .unset, .unset] [(.int i5)]))
                by_cases cz94 : i5 = (0 : Int32)
                case pos =>
                  refine Goes.st (fun t k => XS.ifYes X1.here hx rfl (pc0 := 160) (pc' := 168) rfl (hb hby at_160) rfl ((if0 _ _).trans (teq cz94).1) (by decide) (by decide) k) ?_
                  show Goes _ _ _ _ (T1.setTop (mkF m 168 #[.val (.int p0), .val (.int p1), .val (.int p2), .val (.int i3), .val (.int i4), .val (.int i5), .val (.int i6), .val (.int i7), .val (.int c8), .val (.int c9), .val (.int c10), .val (.int c11), .val (.ref r1), .val .null, .unset, .unset, .unset] []))
                  refine Goes.st (fun t k => XS.aconstNull X1.here hx rfl (hb hby at_168) k) ?_
                  show Goes _ _ _ _ (T1.setTop (mkF m 169 #[.val (.int p0), .val (.int p1), .val (.int p2), .val (.int i3), .val (.int i4), .val (.int i5), .val (.int i6), .val (.int i7), .val (.int c8), .val (.int c9), .val (.int c10), .val (.int c11), .val (.ref r1), .val .null, .unset, .unset, .unset] [.null]))
                  refine Goes.st (fun t k => XS.astore X1.here hx rfl (hb hby at_169) rfl rfl (l' := #[.val (.int p0), .val (.int p1), .val (.int p2), .val (.int i3), .val (.int i4), .val (.int i5), .val (.int i6), .val (.int i7), .val (.int c8), .val (.int c9), .val (.int c10), .val (.int c11), .val (.ref r1), .val .null, .val .null, .unset, .unset]) rfl k) ?_
                  show Goes _ _ _ _ (T1.setTop (mkF m 171 #[.val (.int p0), .val (.int p1), .val (.int p2), .val (.int i3), .val (.int i4), .val (.int i5), .val (.int i6), .val (.int i7), .val (.int c8), .val (.int c9), .val (.int c10), .val (.int c11), .val (.ref r1), .val .null, .val .null, .unset, .unset] []))
                  obtain ⟨T95, h95, X95, e95, E95, A95, D95, -, st95⟩ := newO X1 hx hZ1 hown1 (hw37 hw) (hw38 hw) (hw39 hw) rfl (g := (mkF m 171 #[.val (.int p0), .val (.int p1), .val (.int p2), .val (.int i3), .val (.int i4), .val (.int i5), .val (.int i6), .val (.int i7), .val (.int c8), .val (.int c9), .val (.int c10), .val (.int c11), .val (.ref r1), .val .null, .val .null, .unset, .unset] [])) rfl (hb hby at_171) (by decide) (by decide)
                  obtain ⟨b95, g95⟩ : ∃ z, z = T1.heap.size := ⟨_, rfl⟩
                  rw [← g95] at A95 D95 st95
                  have CR96 : CHr Z EL s.vm h0 T1.vm h95 := CR2.trans (CHr.ext E95 CR2.1)
                  have F95_message : Fld Z h95 b95 "com/example/sillon/sillon/transport/SoapOperation$Parts" "message" "Ljava/lang/String;" .null := D95 (Or.inr (hw50 hw)) (ty := (.object "java/lang/String")) (by decide)
                  have F95_head : Fld Z h95 b95 "com/example/sillon/sillon/transport/SoapOperation$Parts" "head" "Ljava/lang/String;" .null := D95 (Or.inr (hw52 hw)) (ty := (.object "java/lang/String")) (by decide)
                  have F95_main : Fld Z h95 b95 "com/example/sillon/sillon/transport/SoapOperation$Parts" "main" "Ljava/lang/String;" .null := D95 (Or.inr (hw54 hw)) (ty := (.object "java/lang/String")) (by decide)
                  have F95_mainElement : Fld Z h95 b95 "com/example/sillon/sillon/transport/SoapOperation$Parts" "mainElement" "Ljava/lang/String;" .null := D95 (Or.inr (hw56 hw)) (ty := (.object "java/lang/String")) (by decide)
                  have F95_extension : Fld Z h95 b95 "com/example/sillon/sillon/transport/SoapOperation$Parts" "extension" "Ljava/lang/String;" .null := D95 (Or.inr (hw58 hw)) (ty := (.object "java/lang/String")) (by decide)
                  refine Goes.st st95 ?_
                  show Goes _ _ _ _ (T95.setTop (mkF m 174 #[.val (.int p0), .val (.int p1), .val (.int p2), .val (.int i3), .val (.int i4), .val (.int i5), .val (.int i6), .val (.int i7), .val (.int c8), .val (.int c9), .val (.int c10), .val (.int c11), .val (.ref r1), .val .null, .val .null, .unset, .unset] [(.ref b95)]))
                  refine Goes.st (fun t k => XS.dup X95.here hx rfl (hb hby at_174) rfl rfl k) ?_
                  show Goes _ _ _ _ (T95.setTop (mkF m 175 #[.val (.int p0), .val (.int p1), .val (.int p2), .val (.int i3), .val (.int i4), .val (.int i5), .val (.int i6), .val (.int i7), .val (.int c8), .val (.int c9), .val (.int c10), .val (.int c11), .val (.ref r1), .val .null, .val .null, .unset, .unset] [(.ref b95), (.ref b95)]))
                  refine Goes.st (fun t k => XS.aload X95.here hx rfl (hb hby at_175) rfl rfl k) ?_
                  show Goes _ _ _ _ (T95.setTop (mkF m 177 #[.val (.int p0), .val (.int p1), .val (.int p2), .val (.int i3), .val (.int i4), .val (.int i5), .val (.int i6), .val (.int i7), .val (.int c8), .val (.int c9), .val (.int c10), .val (.int c11), .val (.ref r1), .val .null, .val .null, .unset, .unset] [(.ref r1), (.ref b95), (.ref b95)]))
                  refine Goes.st (fun t k => XS.aload X95.here hx rfl (hb hby at_177) rfl rfl k) ?_
                  show Goes _ _ _ _ (T95.setTop (mkF m 179 #[.val (.int p0), .val (.int p1), .val (.int p2), .val (.int i3), .val (.int i4), .val (.int i5), .val (.int i6), .val (.int i7), .val (.int c8), .val (.int c9), .val (.int c10), .val (.int c11), .val (.ref r1), .val .null, .val .null, .unset, .unset] [.null, (.ref r1), (.ref b95), (.ref b95)]))
                  refine Goes.st (fun t k => XS.aload X95.here hx rfl (hb hby at_179) rfl rfl k) ?_
                  show Goes _ _ _ _ (T95.setTop (mkF m 181 #[.val (.int p0), .val (.int p1), .val (.int p2), .val (.int i3), .val (.int i4), .val (.int i5), .val (.int i6), .val (.int i7), .val (.int c8), .val (.int c9), .val (.int c10), .val (.int c11), .val (.ref r1), .val .null, .val .null, .unset, .unset] [(.ref r1), .null, (.ref r1), (.ref b95), (.ref b95)]))
                  refine Goes.st (fun t k => XS.aload X95.here hx rfl (hb hby at_181) rfl rfl k) ?_
                  show Goes _ _ _ _ (T95.setTop (mkF m 183 #[.val (.int p0), .val (.int p1), .val (.int p2), .val (.int i3), .val (.int i4), .val (.int i5), .val (.int i6), .val (.int i7), .val (.int c8), .val (.int c9), .val (.int c10), .val (.int c11), .val (.ref r1), .val .null, .val .null, .unset, .unset] [.null, (.ref r1), .null, (.ref r1), (.ref b95), (.ref b95)]))
                  refine Goes.st (fun t k => XS.aconstNull X95.here hx rfl (hb hby at_183) k) ?_
                  show Goes _ _ _ _ (T95.setTop (mkF m 184 #[.val (.int p0), .val (.int p1), .val (.int p2), .val (.int i3), .val (.int i4), .val (.int i5), .val (.int i6), .val (.int i7), .val (.int c8), .val (.int c9), .val (.int c10), .val (.int c11), .val (.ref r1), .val .null, .val .null, .unset, .unset] [.null, .null, (.ref r1), .null, (.ref r1), (.ref b95), (.ref b95)]))
                  obtain ⟨_, _, ⟨T97, L97, k97, n97⟩, -, X97, ⟨Lc97, hQ97, l97, y97, z97⟩, st97⟩ := X95.specialBack hx (y := (⟨"com/example/sillon/sillon/transport/SoapOperation$Parts", "<init>", "(Ljava/lang/String;Ljava/lang/String;Ljava/lang/String;Ljava/lang/String;Ljava/lang/String;)V"⟩ : MethodName)) rfl hown1 (mvT hZ1 (hw40 hw)) (mvT hZ1 (hw41 hw)) (mvT hZ1 (hw42 hw)) (by decide) (backOf (W := 1) (rm_pinit l Z a0 hw [] b95 r1 (Value.null) (Value.null) h95 n0 (Nat.le_trans Z0 (Nat.le_trans K1.1 E95.1)) A95 F95_message F95_head F95_main F95_mainElement F95_extension (Nat.le_trans Z0 (Nat.le_trans K1.1 (Nat.le_of_eq g95.symm))) rfl rfl) hZ1 (hw42 hw) (hw39 hw) (by decide) (by decide)) (g := (mkF m 184 #[.val (.int p0), .val (.int p1), .val (.int p2), .val (.int i3), .val (.int i4), .val (.int i5), .val (.int i6), .val (.int i7), .val (.int c8), .val (.int c9), .val (.int c10), .val (.int c11), .val (.ref r1), .val .null, .val .null, .unset, .unset] [.null, .null, (.ref r1), .null, (.ref r1), (.ref b95), (.ref b95)])) rfl (by rw [hml]; rfl) (Steps.refl _) (a := b95) (argsL := [(.ref r1), .null, (.ref r1), .null, .null]) (rest := [(.ref b95)]) (lenOf pd_9 rfl) rfl (by show 2 * 0 + _ ≤ _; exact Nat.le_of_eq rfl) (hb hby at_184) (fun _ _ => ⟨rfl, e95, (by decide : 7 + 0 ≤ _), (by decide : 17 + 0 ≤ _)⟩)
                  dsimp only [Pt.U, Pt.locs, Pt.cells, Pt.slots] at X97 l97 y97 z97 st97 hQ97
                  subst l97 y97 z97
                  obtain ⟨rfl, N97q, K97, F97_0, F97_1, F97_2⟩ := hQ97
                  have N97 := Fr.app N1 N97q
                  have hs98 : ∀ x ∈ ([b95] : List Addr), Safe Z EL T1.vm h95 x := (allS (Safe.exa hZ1.alike A95 (by decide) (by decide)) all0)
                  have CR98 : CHr Z EL s.vm h0 T1.vm T97.heap := CR96.trans (CHr.keep K97 hs98 CR96.1)
                  refine Goes.tr st97 ?_
                  show Goes _ _ _ _ (T97.setTop (mkF m 187 #[.val (.int p0), .val (.int p1), .val (.int p2), .val (.int i3), .val (.int i4), .val (.int i5), .val (.int i6), .val (.int i7), .val (.int c8), .val (.int c9), .val (.int c10), .val (.int c11), .val (.ref r1), .val .null, .val .null, .unset, .unset] [(.ref b95)]))
                  refine Goes.st (fun t k => XS.astore X97.here hx rfl (hb hby at_187) rfl rfl (l' := #[.val (.int p0), .val (.int p1), .val (.int p2), .val (.int i3), .val (.int i4), .val (.int i5), .val (.int i6), .val (.int i7), .val (.int c8), .val (.int c9), .val (.int c10), .val (.int c11), .val (.ref r1), .val .null, .val .null, .val (.ref b95), .unset]) rfl k) ?_
                  show Goes _ _ _ _ (T97.setTop (mkF m 189 #[.val (.int p0), .val (.int p1), .val (.int p2), .val (.int i3), .val (.int i4), .val (.int i5), .val (.int i6), .val (.int i7), .val (.int c8), .val (.int c9), .val (.int c10), .val (.int c11), .val (.ref r1), .val .null, .val .null, .val (.ref b95), .unset] []))
                  refine Goes.st (fun t k => XS.iload X97.here hx rfl (hb hby at_189) rfl k) ?_
                  show Goes _ _ _ _ (T97.setTop (mkF m 191 #[.val (.int p0), .val (.int p1), .val (.int p2), .val (.int i3), .val (.int i4), .val (.int i5), .val (.int i6), .val (.int i7), .val (.int c8), .val (.int c9), .val (.int c10), .val (.int c11), .val (.ref r1), .val .null, .val .null, .val (.ref b95), .unset] [(.int i4)]))
                  refine Goes.st (fun t k => XS.ifNo X97.here hx rfl (hb hby at_191) rfl ((if0 _ _).trans (feq cz3).1) k) ?_
                  show Goes _ _ _ _ (T97.setTop (mkF m 194 #[.val (.int p0), .val (.int p1), .val (.int p2), .val (.int i3), .val (.int i4), .val (.int i5), .val (.int i6), .val (.int i7), .val (.int c8), .val (.int c9), .val (.int c10), .val (.int c11), .val (.ref r1), .val .null, .val .null, .val (.ref b95), .unset] []))
                  refine Goes.st (fun t k => XS.iconst X97.here hx rfl (hb hby at_194) k) ?_
                  show Goes _ _ _ _ (T97.setTop (mkF m 195 #[.val (.int p0), .val (.int p1), .val (.int p2), .val (.int i3), .val (.int i4), .val (.int i5), .val (.int i6), .val (.int i7), .val (.int c8), .val (.int c9), .val (.int c10), .val (.int c11), .val (.ref r1), .val .null, .val .null, .val (.ref b95), .unset] [(.int (0 : Int32))]))
                  refine Goes.st (fun t k => XS.istore X97.here hx rfl (hb hby at_195) rfl (l' := #[.val (.int p0), .val (.int p1), .val (.int p2), .val (.int i3), .val (.int i4), .val (.int i5), .val (.int i6), .val (.int i7), .val (.int c8), .val (.int c9), .val (.int c10), .val (.int c11), .val (.ref r1), .val .null, .val .null, .val (.ref b95), .val (.int (0 : Int32))]) rfl k) ?_
                  show Goes _ _ _ _ (T97.setTop (mkF m 197 #[.val (.int p0), .val (.int p1), .val (.int p2), .val (.int i3), .val (.int i4), .val (.int i5), .val (.int i6), .val (.int i7), .val (.int c8), .val (.int c9), .val (.int c10), .val (.int c11), .val (.ref r1), .val .null, .val .null, .val (.ref b95), .val (.int (0 : Int32))] []))
                  refine Goes.st (fun t k => XS.goto X97.here hx rfl (pc0 := 197) (pc' := 240) rfl (hb hby at_197) (by decide) (by decide) k) ?_
                  show Goes _ _ _ _ (T97.setTop (mkF m 240 #[.val (.int p0), .val (.int p1), .val (.int p2), .val (.int i3), .val (.int i4), .val (.int i5), .val (.int i6), .val (.int i7), .val (.int c8), .val (.int c9), .val (.int c10), .val (.int c11), .val (.ref r1), .val .null, .val .null, .val (.ref b95), .val (.int (0 : Int32))] []))
                  refine Goes.st (fun t k => XS.aload X97.here hx rfl (hb hby at_240) rfl rfl k) ?_
                  show Goes _ _ _ _ (T97.setTop (mkF m 242 #[.val (.int p0), .val (.int p1), .val (.int p2), .val (.int i3), .val (.int i4), .val (.int i5), .val (.int i6), .val (.int i7), .val (.int c8), .val (.int c9), .val (.int c10), .val (.int c11), .val (.ref r1), .val .null, .val .null, .val (.ref b95), .val (.int (0 : Int32))] [(.ref b95)]))
                  have f100 : Exa Z T97.heap r1 "java/lang/String" := ((F1_0E.ext E95).keep K97)
                  obtain ⟨cq99, kq99, q99a, q99b, q99c⟩ := isOf hZ1 rfl F97_0
                  obtain ⟨_, _, ⟨T99, L99, k99, n99⟩, -, X99, ⟨Lc99, hQ99, l99, y99, z99⟩, st99⟩ := X97.virtualBack hx (y := (⟨"com/example/sillon/sillon/transport/SoapOperation$Parts", "mainIsMessage", "()Z"⟩ : MethodName)) (z := (⟨"com/example/sillon/sillon/transport/SoapOperation$Parts", "mainIsMessage", "()Z"⟩ : MethodName)) hown1 (mvT hZ1 (hw59 hw)) (mvT hZ1 (hw60 hw)) (notFace_of_selects (args := #[]) (mvT hZ1 (hw62 hw))) (mvT hZ1 (hw62 hw)) (mvT hZ1 (hw61 hw)) (by decide) (backOf (W := 0) (rm_miN l Z a0 hw [] b95 r1 T97.heap n0 (Nat.le_trans Z0 (Nat.le_trans (Nat.le_trans K1.1 E95.1) K97.1)) F97_1 F97_2 f100) hZ1 (hw63 hw) (hw39 hw) (by decide) (by decide)) q99a q99c (g := (mkF m 242 #[.val (.int p0), .val (.int p1), .val (.int p2), .val (.int i3), .val (.int i4), .val (.int i5), .val (.int i6), .val (.int i7), .val (.int c8), .val (.int c9), .val (.int c10), .val (.int c11), .val (.ref r1), .val .null, .val .null, .val (.ref b95), .val (.int (0 : Int32))] [(.ref b95)])) rfl (by rw [hml]; rfl) (Steps.refl _) (argsL := []) (rest := []) (lenOf pd_10 rfl) rfl (by show 2 * 0 + _ ≤ _; exact Nat.le_of_eq rfl) (hb hby at_242) (fun _ _ => ⟨rfl, rfl, (by decide : 7 + 0 ≤ _), (by decide : 17 + 0 ≤ _)⟩)
                  dsimp only [Pt.U, Pt.locs, Pt.cells, Pt.slots] at X99 l99 y99 z99 st99 hQ99
                  subst l99 y99 z99
                  obtain ⟨rfl, N99q, K99⟩ := hQ99
                  have N99 := Fr.app N97 N99q
                  refine Goes.tr st99 ?_
                  show Goes _ _ _ _ (T99.setTop (mkF m 245 #[.val (.int p0), .val (.int p1), .val (.int p2), .val (.int i3), .val (.int i4), .val (.int i5), .val (.int i6), .val (.int i7), .val (.int c8), .val (.int c9), .val (.int c10), .val (.int c11), .val (.ref r1), .val .null, .val .null, .val (.ref b95), .val (.int (0 : Int32))] [(.int (0 : Int32))]))
                  refine Goes.st (fun t k => XS.iload X99.here hx rfl (hb hby at_245) rfl k) ?_
                  show Goes _ _ _ _ (T99.setTop (mkF m 247 #[.val (.int p0), .val (.int p1), .val (.int p2), .val (.int i3), .val (.int i4), .val (.int i5), .val (.int i6), .val (.int i7), .val (.int c8), .val (.int c9), .val (.int c10), .val (.int c11), .val (.ref r1), .val .null, .val .null, .val (.ref b95), .val (.int (0 : Int32))] [(.int (0 : Int32)), (.int (0 : Int32))]))
                  refine Goes.st (fun t k => XS.icmpNo X99.here hx rfl (hb hby at_247) rfl (teq (by decide : (0 : Int32) = (0 : Int32))).2 k) ?_
                  show Goes _ _ _ _ (T99.setTop (mkF m 250 #[.val (.int p0), .val (.int p1), .val (.int p2), .val (.int i3), .val (.int i4), .val (.int i5), .val (.int i6), .val (.int i7), .val (.int c8), .val (.int c9), .val (.int c10), .val (.int c11), .val (.ref r1), .val .null, .val .null, .val (.ref b95), .val (.int (0 : Int32))] []))
                  refine Goes.st (fun t k => XS.iconst X99.here hx rfl (hb hby at_250) k) ?_
                  show Goes _ _ _ _ (T99.setTop (mkF m 251 #[.val (.int p0), .val (.int p1), .val (.int p2), .val (.int i3), .val (.int i4), .val (.int i5), .val (.int i6), .val (.int i7), .val (.int c8), .val (.int c9), .val (.int c10), .val (.int c11), .val (.ref r1), .val .null, .val .null, .val (.ref b95), .val (.int (0 : Int32))] [(.int (1 : Int32))]))
                  refine Goes.st (fun t k => XS.goto X99.here hx rfl (pc0 := 251) (pc' := 255) rfl (hb hby at_251) (by decide) (by decide) k) ?_
                  show Goes _ _ _ _ (T99.setTop (mkF m 255 #[.val (.int p0), .val (.int p1), .val (.int p2), .val (.int i3), .val (.int i4), .val (.int i5), .val (.int i6), .val (.int i7), .val (.int c8), .val (.int c9), .val (.int c10), .val (.int c11), .val (.ref r1), .val .null, .val .null, .val (.ref b95), .val (.int (0 : Int32))] [(.int (1 : Int32))]))
                  obtain ⟨fs, hr, hrun, hended, hRW⟩ := X99.leaveW hS1 (by rw [K99]; exact (Nat.le_trans (Nat.le_trans (Nat.le_refl _) E95.1) K97.1)) (v := some (.int (1 : Int32))) (fun h => by rw [Bd.returns] at h; cases h)
                  subst hQQ
                  have hCR : CHr Z EL s.vm s.heap T99.vm T99.heap := by rw [hh, K99]; exact CR98.trans (CHv.at X99 hZ1 (own_EW hw) CR98.1)
                  refine ⟨_, _, retN X99 hx (t := .boolean) Bd.returns (by simp) (hb hby at_255) hr, hrun, hended, _, _, rfl, ?_, hCR, own_REmono hRW (by decide) (by decide)⟩
                  show Q_law Z p0 p1 p2 G1 h0 n0 _ T99.heap _
                  rw [K99]
                  exact ⟨rfl, N99⟩
                case neg =>
                  refine Goes.st (fun t k => XS.ifNo X1.here hx rfl (hb hby at_160) rfl ((if0 _ _).trans (feq cz94).1) k) ?_
                  show Goes _ _ _ _ (T1.setTop (mkF m 163 #[.val (.int p0), .val (.int p1), .val (.int p2), .val (.int i3), .val (.int i4), .val (.int i5), .val (.int i6), .val (.int i7), .val (.int c8), .val (.int c9), .val (.int c10), .val (.int c11), .val (.ref r1), .val .null, .unset, .unset, .unset] []))
                  refine Goes.st (fun t k => XS.aload X1.here hx rfl (hb hby at_163) rfl rfl k) ?_
                  show Goes _ _ _ _ (T1.setTop (mkF m 165 #[.val (.int p0), .val (.int p1), .val (.int p2), .val (.int i3), .val (.int i4), .val (.int i5), .val (.int i6), .val (.int i7), .val (.int c8), .val (.int c9), .val (.int c10), .val (.int c11), .val (.ref r1), .val .null, .unset, .unset, .unset] [.null]))
                  refine Goes.st (fun t k => XS.goto X1.here hx rfl (pc0 := 165) (pc' := 169) rfl (hb hby at_165) (by decide) (by decide) k) ?_
                  show Goes _ _ _ _ (T1.setTop (mkF m 169 #[.val (.int p0), .val (.int p1), .val (.int p2), .val (.int i3), .val (.int i4), .val (.int i5), .val (.int i6), .val (.int i7), .val (.int c8), .val (.int c9), .val (.int c10), .val (.int c11), .val (.ref r1), .val .null, .unset, .unset, .unset] [.null]))
                  refine Goes.st (fun t k => XS.astore X1.here hx rfl (hb hby at_169) rfl rfl (l' := #[.val (.int p0), .val (.int p1), .val (.int p2), .val (.int i3), .val (.int i4), .val (.int i5), .val (.int i6), .val (.int i7), .val (.int c8), .val (.int c9), .val (.int c10), .val (.int c11), .val (.ref r1), .val .null, .val .null, .unset, .unset]) rfl k) ?_
                  show Goes _ _ _ _ (T1.setTop (mkF m 171 #[.val (.int p0), .val (.int p1), .val (.int p2), .val (.int i3), .val (.int i4), .val (.int i5), .val (.int i6), .val (.int i7), .val (.int c8), .val (.int c9), .val (.int c10), .val (.int c11), .val (.ref r1), .val .null, .val .null, .unset, .unset] []))
                  obtain ⟨T101, h101, X101, e101, E101, A101, D101, -, st101⟩ := newO X1 hx hZ1 hown1 (hw37 hw) (hw38 hw) (hw39 hw) rfl (g := (mkF m 171 #[.val (.int p0), .val (.int p1), .val (.int p2), .val (.int i3), .val (.int i4), .val (.int i5), .val (.int i6), .val (.int i7), .val (.int c8), .val (.int c9), .val (.int c10), .val (.int c11), .val (.ref r1), .val .null, .val .null, .unset, .unset] [])) rfl (hb hby at_171) (by decide) (by decide)
                  obtain ⟨b101, g101⟩ : ∃ z, z = T1.heap.size := ⟨_, rfl⟩
                  rw [← g101] at A101 D101 st101
                  have CR102 : CHr Z EL s.vm h0 T1.vm h101 := CR2.trans (CHr.ext E101 CR2.1)
                  have F101_message : Fld Z h101 b101 "com/example/sillon/sillon/transport/SoapOperation$Parts" "message" "Ljava/lang/String;" .null := D101 (Or.inr (hw50 hw)) (ty := (.object "java/lang/String")) (by decide)
                  have F101_head : Fld Z h101 b101 "com/example/sillon/sillon/transport/SoapOperation$Parts" "head" "Ljava/lang/String;" .null := D101 (Or.inr (hw52 hw)) (ty := (.object "java/lang/String")) (by decide)
                  have F101_main : Fld Z h101 b101 "com/example/sillon/sillon/transport/SoapOperation$Parts" "main" "Ljava/lang/String;" .null := D101 (Or.inr (hw54 hw)) (ty := (.object "java/lang/String")) (by decide)
                  have F101_mainElement : Fld Z h101 b101 "com/example/sillon/sillon/transport/SoapOperation$Parts" "mainElement" "Ljava/lang/String;" .null := D101 (Or.inr (hw56 hw)) (ty := (.object "java/lang/String")) (by decide)
                  have F101_extension : Fld Z h101 b101 "com/example/sillon/sillon/transport/SoapOperation$Parts" "extension" "Ljava/lang/String;" .null := D101 (Or.inr (hw58 hw)) (ty := (.object "java/lang/String")) (by decide)
                  refine Goes.st st101 ?_
                  show Goes _ _ _ _ (T101.setTop (mkF m 174 #[.val (.int p0), .val (.int p1), .val (.int p2), .val (.int i3), .val (.int i4), .val (.int i5), .val (.int i6), .val (.int i7), .val (.int c8), .val (.int c9), .val (.int c10), .val (.int c11), .val (.ref r1), .val .null, .val .null, .unset, .unset] [(.ref b101)]))
                  refine Goes.st (fun t k => XS.dup X101.here hx rfl (hb hby at_174) rfl rfl k) ?_
                  show Goes _ _ _ _ (T101.setTop (mkF m 175 #[.val (.int p0), .val (.int p1), .val (.int p2), .val (.int i3), .val (.int i4), .val (.int i5), .val (.int i6), .val (.int i7), .val (.int c8), .val (.int c9), .val (.int c10), .val (.int c11), .val (.ref r1), .val .null, .val .null, .unset, .unset] [(.ref b101), (.ref b101)]))
                  refine Goes.st (fun t k => XS.aload X101.here hx rfl (hb hby at_175) rfl rfl k) ?_
                  show Goes _ _ _ _ (T101.setTop (mkF m 177 #[.val (.int p0), .val (.int p1), .val (.int p2), .val (.int i3), .val (.int i4), .val (.int i5), .val (.int i6), .val (.int i7), .val (.int c8), .val (.int c9), .val (.int c10), .val (.int c11), .val (.ref r1), .val .null, .val .null, .unset, .unset] [(.ref r1), (.ref b101), (.ref b101)]))
                  refine Goes.st (fun t k => XS.aload X101.here hx rfl (hb hby at_177) rfl rfl k) ?_
                  show Goes _ _ _ _ (T101.setTop (mkF m 179 #[.val (.int p0), .val (.int p1), .val (.int p2), .val (.int i3), .val (.int i4), .val (.int i5), .val (.int i6), .val (.int i7), .val (.int c8), .val (.int c9), .val (.int c10), .val (.int c11), .val (.ref r1), .val .null, .val .null, .unset, .unset] [.null, (.ref r1), (.ref b101), (.ref b101)]))
                  refine Goes.st (fun t k => XS.aload X101.here hx rfl (hb hby at_179) rfl rfl k) ?_
                  show Goes _ _ _ _ (T101.setTop (mkF m 181 #[.val (.int p0), .val (.int p1), .val (.int p2), .val (.int i3), .val (.int i4), .val (.int i5), .val (.int i6), .val (.int i7), .val (.int c8), .val (.int c9), .val (.int c10), .val (.int c11), .val (.ref r1), .val .null, .val .null, .unset, .unset] [(.ref r1), .null, (.ref r1), (.ref b101), (.ref b101)]))
                  refine Goes.st (fun t k => XS.aload X101.here hx rfl (hb hby at_181) rfl rfl k) ?_
                  show Goes _ _ _ _ (T101.setTop (mkF m 183 #[.val (.int p0), .val (.int p1), .val (.int p2), .val (.int i3), .val (.int i4), .val (.int i5), .val (.int i6), .val (.int i7), .val (.int c8), .val (.int c9), .val (.int c10), .val (.int c11), .val (.ref r1), .val .null, .val .null, .unset, .unset] [.null, (.ref r1), .null, (.ref r1), (.ref b101), (.ref b101)]))
                  refine Goes.st (fun t k => XS.aconstNull X101.here hx rfl (hb hby at_183) k) ?_
                  show Goes _ _ _ _ (T101.setTop (mkF m 184 #[.val (.int p0), .val (.int p1), .val (.int p2), .val (.int i3), .val (.int i4), .val (.int i5), .val (.int i6), .val (.int i7), .val (.int c8), .val (.int c9), .val (.int c10), .val (.int c11), .val (.ref r1), .val .null, .val .null, .unset, .unset] [.null, .null, (.ref r1), .null, (.ref r1), (.ref b101), (.ref b101)]))
                  obtain ⟨_, _, ⟨T103, L103, k103, n103⟩, -, X103, ⟨Lc103, hQ103, l103, y103, z103⟩, st103⟩ := X101.specialBack hx (y := (⟨"com/example/sillon/sillon/transport/SoapOperation$Parts", "<init>", "(Ljava/lang/String;Ljava/lang/String;Ljava/lang/String;Ljava/lang/String;Ljava/lang/String;)V"⟩ : MethodName)) rfl hown1 (mvT hZ1 (hw40 hw)) (mvT hZ1 (hw41 hw)) (mvT hZ1 (hw42 hw)) (by decide) (backOf (W := 1) (rm_pinit l Z a0 hw [] b101 r1 (Value.null) (Value.null) h101 n0 (Nat.le_trans Z0 (Nat.le_trans K1.1 E101.1)) A101 F101_message F101_head F101_main F101_mainElement F101_extension (Nat.le_trans Z0 (Nat.le_trans K1.1 (Nat.le_of_eq g101.symm))) rfl rfl) hZ1 (hw42 hw) (hw39 hw) (by decide) (by decide)) (g := (mkF m 184 #[.val (.int p0), .val (.int p1), .val (.int p2), .val (.int i3), .val (.int i4), .val (.int i5), .val (.int i6), .val (.int i7), .val (.int c8), .val (.int c9), .val (.int c10), .val (.int c11), .val (.ref r1), .val .null, .val .null, .unset, .unset] [.null, .null, (.ref r1), .null, (.ref r1), (.ref b101), (.ref b101)])) rfl (by rw [hml]; rfl) (Steps.refl _) (a := b101) (argsL := [(.ref r1), .null, (.ref r1), .null, .null]) (rest := [(.ref b101)]) (lenOf pd_9 rfl) rfl (by show 2 * 0 + _ ≤ _; exact Nat.le_of_eq rfl) (hb hby at_184) (fun _ _ => ⟨rfl, e101, (by decide : 7 + 0 ≤ _), (by decide : 17 + 0 ≤ _)⟩)
                  dsimp only [Pt.U, Pt.locs, Pt.cells, Pt.slots] at X103 l103 y103 z103 st103 hQ103
                  subst l103 y103 z103
                  obtain ⟨rfl, N103q, K103, F103_0, F103_1, F103_2⟩ := hQ103
                  have N103 := Fr.app N1 N103q
                  have hs104 : ∀ x ∈ ([b101] : List Addr), Safe Z EL T1.vm h101 x := (allS (Safe.exa hZ1.alike A101 (by decide) (by decide)) all0)
                  have CR104 : CHr Z EL s.vm h0 T1.vm T103.heap := CR102.trans (CHr.keep K103 hs104 CR102.1)
                  refine Goes.tr st103 ?_
                  show Goes _ _ _ _ (T103.setTop (mkF m 187 #[.val (.int p0), .val (.int p1), .val (.int p2), .val (.int i3), .val (.int i4), .val (.int i5), .val (.int i6), .val (.int i7), .val (.int c8), .val (.int c9), .val (.int c10), .val (.int c11), .val (.ref r1), .val .null, .val .null, .unset, .unset] [(.ref b101)]))
                  refine Goes.st (fun t k => XS.astore X103.here hx rfl (hb hby at_187) rfl rfl (l' := #[.val (.int p0), .val (.int p1), .val (.int p2), .val (.int i3), .val (.int i4), .val (.int i5), .val (.int i6), .val (.int i7), .val (.int c8), .val (.int c9), .val (.int c10), .val (.int c11), .val (.ref r1), .val .null, .val .null, .val (.ref b101), .unset]) rfl k) ?_
                  show Goes _ _ _ _ (T103.setTop (mkF m 189 #[.val (.int p0), .val (.int p1), .val (.int p2), .val (.int i3), .val (.int i4), .val (.int i5), .val (.int i6), .val (.int i7), .val (.int c8), .val (.int c9), .val (.int c10), .val (.int c11), .val (.ref r1), .val .null, .val .null, .val (.ref b101), .unset] []))
                  refine Goes.st (fun t k => XS.iload X103.here hx rfl (hb hby at_189) rfl k) ?_
                  show Goes _ _ _ _ (T103.setTop (mkF m 191 #[.val (.int p0), .val (.int p1), .val (.int p2), .val (.int i3), .val (.int i4), .val (.int i5), .val (.int i6), .val (.int i7), .val (.int c8), .val (.int c9), .val (.int c10), .val (.int c11), .val (.ref r1), .val .null, .val .null, .val (.ref b101), .unset] [(.int i4)]))
                  refine Goes.st (fun t k => XS.ifNo X103.here hx rfl (hb hby at_191) rfl ((if0 _ _).trans (feq cz3).1) k) ?_
                  show Goes _ _ _ _ (T103.setTop (mkF m 194 #[.val (.int p0), .val (.int p1), .val (.int p2), .val (.int i3), .val (.int i4), .val (.int i5), .val (.int i6), .val (.int i7), .val (.int c8), .val (.int c9), .val (.int c10), .val (.int c11), .val (.ref r1), .val .null, .val .null, .val (.ref b101), .unset] []))
                  refine Goes.st (fun t k => XS.iconst X103.here hx rfl (hb hby at_194) k) ?_
                  show Goes _ _ _ _ (T103.setTop (mkF m 195 #[.val (.int p0), .val (.int p1), .val (.int p2), .val (.int i3), .val (.int i4), .val (.int i5), .val (.int i6), .val (.int i7), .val (.int c8), .val (.int c9), .val (.int c10), .val (.int c11), .val (.ref r1), .val .null, .val .null, .val (.ref b101), .unset] [(.int (0 : Int32))]))
                  refine Goes.st (fun t k => XS.istore X103.here hx rfl (hb hby at_195) rfl (l' := #[.val (.int p0), .val (.int p1), .val (.int p2), .val (.int i3), .val (.int i4), .val (.int i5), .val (.int i6), .val (.int i7), .val (.int c8), .val (.int c9), .val (.int c10), .val (.int c11), .val (.ref r1), .val .null, .val .null, .val (.ref b101), .val (.int (0 : Int32))]) rfl k) ?_
                  show Goes _ _ _ _ (T103.setTop (mkF m 197 #[.val (.int p0), .val (.int p1), .val (.int p2), .val (.int i3), .val (.int i4), .val (.int i5), .val (.int i6), .val (.int i7), .val (.int c8), .val (.int c9), .val (.int c10), .val (.int c11), .val (.ref r1), .val .null, .val .null, .val (.ref b101), .val (.int (0 : Int32))] []))
                  refine Goes.st (fun t k => XS.goto X103.here hx rfl (pc0 := 197) (pc' := 240) rfl (hb hby at_197) (by decide) (by decide) k) ?_
                  show Goes _ _ _ _ (T103.setTop (mkF m 240 #[.val (.int p0), .val (.int p1), .val (.int p2), .val (.int i3), .val (.int i4), .val (.int i5), .val (.int i6), .val (.int i7), .val (.int c8), .val (.int c9), .val (.int c10), .val (.int c11), .val (.ref r1), .val .null, .val .null, .val (.ref b101), .val (.int (0 : Int32))] []))
                  refine Goes.st (fun t k => XS.aload X103.here hx rfl (hb hby at_240) rfl rfl k) ?_
                  show Goes _ _ _ _ (T103.setTop (mkF m 242 #[.val (.int p0), .val (.int p1), .val (.int p2), .val (.int i3), .val (.int i4), .val (.int i5), .val (.int i6), .val (.int i7), .val (.int c8), .val (.int c9), .val (.int c10), .val (.int c11), .val (.ref r1), .val .null, .val .null, .val (.ref b101), .val (.int (0 : Int32))] [(.ref b101)]))
                  have f106 : Exa Z T103.heap r1 "java/lang/String" := ((F1_0E.ext E101).keep K103)
                  obtain ⟨cq105, kq105, q105a, q105b, q105c⟩ := isOf hZ1 rfl F103_0
                  obtain ⟨_, _, ⟨T105, L105, k105, n105⟩, -, X105, ⟨Lc105, hQ105, l105, y105, z105⟩, st105⟩ := X103.virtualBack hx (y := (⟨"com/example/sillon/sillon/transport/SoapOperation$Parts", "mainIsMessage", "()Z"⟩ : MethodName)) (z := (⟨"com/example/sillon/sillon/transport/SoapOperation$Parts", "mainIsMessage", "()Z"⟩ : MethodName)) hown1 (mvT hZ1 (hw59 hw)) (mvT hZ1 (hw60 hw)) (notFace_of_selects (args := #[]) (mvT hZ1 (hw62 hw))) (mvT hZ1 (hw62 hw)) (mvT hZ1 (hw61 hw)) (by decide) (backOf (W := 0) (rm_miN l Z a0 hw [] b101 r1 T103.heap n0 (Nat.le_trans Z0 (Nat.le_trans (Nat.le_trans K1.1 E101.1) K103.1)) F103_1 F103_2 f106) hZ1 (hw63 hw) (hw39 hw) (by decide) (by decide)) q105a q105c (g := (mkF m 242 #[.val (.int p0), .val (.int p1), .val (.int p2), .val (.int i3), .val (.int i4), .val (.int i5), .val (.int i6), .val (.int i7), .val (.int c8), .val (.int c9), .val (.int c10), .val (.int c11), .val (.ref r1), .val .null, .val .null, .val (.ref b101), .val (.int (0 : Int32))] [(.ref b101)])) rfl (by rw [hml]; rfl) (Steps.refl _) (argsL := []) (rest := []) (lenOf pd_10 rfl) rfl (by show 2 * 0 + _ ≤ _; exact Nat.le_of_eq rfl) (hb hby at_242) (fun _ _ => ⟨rfl, rfl, (by decide : 7 + 0 ≤ _), (by decide : 17 + 0 ≤ _)⟩)
                  dsimp only [Pt.U, Pt.locs, Pt.cells, Pt.slots] at X105 l105 y105 z105 st105 hQ105
                  subst l105 y105 z105
                  obtain ⟨rfl, N105q, K105⟩ := hQ105
                  have N105 := Fr.app N103 N105q
                  refine Goes.tr st105 ?_
                  show Goes _ _ _ _ (T105.setTop (mkF m 245 #[.val (.int p0), .val (.int p1), .val (.int p2), .val (.int i3), .val (.int i4), .val (.int i5), .val (.int i6), .val (.int i7), .val (.int c8), .val (.int c9), .val (.int c10), .val (.int c11), .val (.ref r1), .val .null, .val .null, .val (.ref b101), .val (.int (0 : Int32))] [(.int (0 : Int32))]))
                  refine Goes.st (fun t k => XS.iload X105.here hx rfl (hb hby at_245) rfl k) ?_
                  show Goes _ _ _ _ (T105.setTop (mkF m 247 #[.val (.int p0), .val (.int p1), .val (.int p2), .val (.int i3), .val (.int i4), .val (.int i5), .val (.int i6), .val (.int i7), .val (.int c8), .val (.int c9), .val (.int c10), .val (.int c11), .val (.ref r1), .val .null, .val .null, .val (.ref b101), .val (.int (0 : Int32))] [(.int (0 : Int32)), (.int (0 : Int32))]))
                  refine Goes.st (fun t k => XS.icmpNo X105.here hx rfl (hb hby at_247) rfl (teq (by decide : (0 : Int32) = (0 : Int32))).2 k) ?_
                  show Goes _ _ _ _ (T105.setTop (mkF m 250 #[.val (.int p0), .val (.int p1), .val (.int p2), .val (.int i3), .val (.int i4), .val (.int i5), .val (.int i6), .val (.int i7), .val (.int c8), .val (.int c9), .val (.int c10), .val (.int c11), .val (.ref r1), .val .null, .val .null, .val (.ref b101), .val (.int (0 : Int32))] []))
                  refine Goes.st (fun t k => XS.iconst X105.here hx rfl (hb hby at_250) k) ?_
                  show Goes _ _ _ _ (T105.setTop (mkF m 251 #[.val (.int p0), .val (.int p1), .val (.int p2), .val (.int i3), .val (.int i4), .val (.int i5), .val (.int i6), .val (.int i7), .val (.int c8), .val (.int c9), .val (.int c10), .val (.int c11), .val (.ref r1), .val .null, .val .null, .val (.ref b101), .val (.int (0 : Int32))] [(.int (1 : Int32))]))
                  refine Goes.st (fun t k => XS.goto X105.here hx rfl (pc0 := 251) (pc' := 255) rfl (hb hby at_251) (by decide) (by decide) k) ?_
                  show Goes _ _ _ _ (T105.setTop (mkF m 255 #[.val (.int p0), .val (.int p1), .val (.int p2), .val (.int i3), .val (.int i4), .val (.int i5), .val (.int i6), .val (.int i7), .val (.int c8), .val (.int c9), .val (.int c10), .val (.int c11), .val (.ref r1), .val .null, .val .null, .val (.ref b101), .val (.int (0 : Int32))] [(.int (1 : Int32))]))
                  obtain ⟨fs, hr, hrun, hended, hRW⟩ := X105.leaveW hS1 (by rw [K105]; exact (Nat.le_trans (Nat.le_trans (Nat.le_refl _) E101.1) K103.1)) (v := some (.int (1 : Int32))) (fun h => by rw [Bd.returns] at h; cases h)
                  subst hQQ
                  have hCR : CHr Z EL s.vm s.heap T105.vm T105.heap := by rw [hh, K105]; exact CR104.trans (CHv.at X105 hZ1 (own_EW hw) CR104.1)
                  refine ⟨_, _, retN X105 hx (t := .boolean) Bd.returns (by simp) (hb hby at_255) hr, hrun, hended, _, _, rfl, ?_, hCR, own_REmono hRW (by decide) (by decide)⟩
                  show Q_law Z p0 p1 p2 G1 h0 n0 _ T105.heap _
                  rw [K105]
                  exact ⟨rfl, N105⟩
            show Goes _ _ _ _ (s₁.setTop (mkF m 107 #[.val (.int p0), .val (.int p1), .val (.int p2), .val (.int i3), .val (.int i4), .val (.int i5), .val (.int i6), .val (.int i7), .val (.int c8), .val (.int c9), .val (.int c10), .unset, .unset, .unset, .unset, .unset, .unset] []))
            refine Goes.st (fun t k => XS.iloadN X0.here hx rfl (hb hby at_107) rfl k) ?_
            show Goes _ _ _ _ (s₁.setTop (mkF m 108 #[.val (.int p0), .val (.int p1), .val (.int p2), .val (.int i3), .val (.int i4), .val (.int i5), .val (.int i6), .val (.int i7), .val (.int c8), .val (.int c9), .val (.int c10), .unset, .unset, .unset, .unset, .unset, .unset] [(.int i3)]))
            by_cases cz107 : i3 = (0 : Int32)
            case pos =>
              refine Goes.st (fun t k => XS.ifYes X0.here hx rfl (pc0 := 108) (pc' := 116) rfl (hb hby at_108) rfl ((if0 _ _).trans (teq cz107).1) (by decide) (by decide) k) ?_
              show Goes _ _ _ _ (s₁.setTop (mkF m 116 #[.val (.int p0), .val (.int p1), .val (.int p2), .val (.int i3), .val (.int i4), .val (.int i5), .val (.int i6), .val (.int i7), .val (.int c8), .val (.int c9), .val (.int c10), .unset, .unset, .unset, .unset, .unset, .unset] []))
              refine Goes.st (fun t k => XS.iloadN X0.here hx rfl (hb hby at_116) rfl k) ?_
              show Goes _ _ _ _ (s₁.setTop (mkF m 117 #[.val (.int p0), .val (.int p1), .val (.int p2), .val (.int i3), .val (.int i4), .val (.int i5), .val (.int i6), .val (.int i7), .val (.int c8), .val (.int c9), .val (.int c10), .unset, .unset, .unset, .unset, .unset, .unset] [(.int p1)]))
              refine Goes.st (fun t k => XS.bipush X0.here hx rfl (hb hby at_117) k) ?_
              show Goes _ _ _ _ (s₁.setTop (mkF m 119 #[.val (.int p0), .val (.int p1), .val (.int p2), .val (.int i3), .val (.int i4), .val (.int i5), .val (.int i6), .val (.int i7), .val (.int c8), .val (.int c9), .val (.int c10), .unset, .unset, .unset, .unset, .unset, .unset] [(.int (8 : Int32)), (.int p1)]))
              refine Goes.st (fun t k => XS.iushr X0.here hx rfl (hb hby at_119) rfl k) ?_
              show Goes _ _ _ _ (s₁.setTop (mkF m 120 #[.val (.int p0), .val (.int p1), .val (.int p2), .val (.int i3), .val (.int i4), .val (.int i5), .val (.int i6), .val (.int i7), .val (.int c8), .val (.int c9), .val (.int c10), .unset, .unset, .unset, .unset, .unset, .unset] [(.int ((p1.toUInt32 >>> ((8 : Int32) &&& 31).toUInt32).toInt32))]))
              refine Goes.st (fun t k => XS.sipush X0.here hx rfl (hb hby at_120) k) ?_
              show Goes _ _ _ _ (s₁.setTop (mkF m 123 #[.val (.int p0), .val (.int p1), .val (.int p2), .val (.int i3), .val (.int i4), .val (.int i5), .val (.int i6), .val (.int i7), .val (.int c8), .val (.int c9), .val (.int c10), .unset, .unset, .unset, .unset, .unset, .unset] [(.int (255 : Int32)), (.int ((p1.toUInt32 >>> ((8 : Int32) &&& 31).toUInt32).toInt32))]))
              refine Goes.st (fun t k => XS.iand X0.here hx rfl (hb hby at_123) rfl k) ?_
              show Goes _ _ _ _ (s₁.setTop (mkF m 124 #[.val (.int p0), .val (.int p1), .val (.int p2), .val (.int i3), .val (.int i4), .val (.int i5), .val (.int i6), .val (.int i7), .val (.int c8), .val (.int c9), .val (.int c10), .unset, .unset, .unset, .unset, .unset, .unset] [(.int (((p1.toUInt32 >>> ((8 : Int32) &&& 31).toUInt32).toInt32) &&& (255 : Int32)))]))
              refine Goes.st (fun t k => XS.i2c X0.here hx rfl (hb hby at_124) rfl k) ?_
              show Goes _ _ _ _ (s₁.setTop (mkF m 125 #[.val (.int p0), .val (.int p1), .val (.int p2), .val (.int i3), .val (.int i4), .val (.int i5), .val (.int i6), .val (.int i7), .val (.int c8), .val (.int c9), .val (.int c10), .unset, .unset, .unset, .unset, .unset, .unset] [(.int ((((p1.toUInt32 >>> ((8 : Int32) &&& 31).toUInt32).toInt32) &&& (255 : Int32)).toUInt32.toUInt16.toUInt32.toInt32))]))
              exact J125 ((((p1.toUInt32 >>> ((8 : Int32) &&& 31).toUInt32).toInt32) &&& (255 : Int32)).toUInt32.toUInt16.toUInt32.toInt32) (own_i2cr ((p1.toUInt32 >>> ((8 : Int32) &&& 31).toUInt32).toInt32))
            case neg =>
              refine Goes.st (fun t k => XS.ifNo X0.here hx rfl (hb hby at_108) rfl ((if0 _ _).trans (feq cz107).1) k) ?_
              show Goes _ _ _ _ (s₁.setTop (mkF m 111 #[.val (.int p0), .val (.int p1), .val (.int p2), .val (.int i3), .val (.int i4), .val (.int i5), .val (.int i6), .val (.int i7), .val (.int c8), .val (.int c9), .val (.int c10), .unset, .unset, .unset, .unset, .unset, .unset] []))
              refine Goes.st (fun t k => XS.iload X0.here hx rfl (hb hby at_111) rfl k) ?_
              show Goes _ _ _ _ (s₁.setTop (mkF m 113 #[.val (.int p0), .val (.int p1), .val (.int p2), .val (.int i3), .val (.int i4), .val (.int i5), .val (.int i6), .val (.int i7), .val (.int c8), .val (.int c9), .val (.int c10), .unset, .unset, .unset, .unset, .unset, .unset] [(.int c9)]))
              refine Goes.st (fun t k => XS.goto X0.here hx rfl (pc0 := 113) (pc' := 125) rfl (hb hby at_113) (by decide) (by decide) k) ?_
              show Goes _ _ _ _ (s₁.setTop (mkF m 125 #[.val (.int p0), .val (.int p1), .val (.int p2), .val (.int i3), .val (.int i4), .val (.int i5), .val (.int i6), .val (.int i7), .val (.int c8), .val (.int c9), .val (.int c10), .unset, .unset, .unset, .unset, .unset, .unset] [(.int c9)]))
              exact J125 c9 rg_c9
          show Goes _ _ _ _ (s₁.setTop (mkF m 90 #[.val (.int p0), .val (.int p1), .val (.int p2), .val (.int i3), .val (.int i4), .val (.int i5), .val (.int i6), .val (.int i7), .val (.int c8), .val (.int c9), .unset, .unset, .unset, .unset, .unset, .unset, .unset] []))
          refine Goes.st (fun t k => XS.iloadN X0.here hx rfl (hb hby at_90) rfl k) ?_
          show Goes _ _ _ _ (s₁.setTop (mkF m 91 #[.val (.int p0), .val (.int p1), .val (.int p2), .val (.int i3), .val (.int i4), .val (.int i5), .val (.int i6), .val (.int i7), .val (.int c8), .val (.int c9), .unset, .unset, .unset, .unset, .unset, .unset, .unset] [(.int i3)]))
          by_cases cz108 : i3 = (0 : Int32)
          case pos =>
            refine Goes.st (fun t k => XS.ifYes X0.here hx rfl (pc0 := 91) (pc' := 99) rfl (hb hby at_91) rfl ((if0 _ _).trans (teq cz108).1) (by decide) (by decide) k) ?_
            show Goes _ _ _ _ (s₁.setTop (mkF m 99 #[.val (.int p0), .val (.int p1), .val (.int p2), .val (.int i3), .val (.int i4), .val (.int i5), .val (.int i6), .val (.int i7), .val (.int c8), .val (.int c9), .unset, .unset, .unset, .unset, .unset, .unset, .unset] []))
            refine Goes.st (fun t k => XS.iloadN X0.here hx rfl (hb hby at_99) rfl k) ?_
            show Goes _ _ _ _ (s₁.setTop (mkF m 100 #[.val (.int p0), .val (.int p1), .val (.int p2), .val (.int i3), .val (.int i4), .val (.int i5), .val (.int i6), .val (.int i7), .val (.int c8), .val (.int c9), .unset, .unset, .unset, .unset, .unset, .unset, .unset] [(.int p1)]))
            refine Goes.st (fun t k => XS.sipush X0.here hx rfl (hb hby at_100) k) ?_
            show Goes _ _ _ _ (s₁.setTop (mkF m 103 #[.val (.int p0), .val (.int p1), .val (.int p2), .val (.int i3), .val (.int i4), .val (.int i5), .val (.int i6), .val (.int i7), .val (.int c8), .val (.int c9), .unset, .unset, .unset, .unset, .unset, .unset, .unset] [(.int (255 : Int32)), (.int p1)]))
            refine Goes.st (fun t k => XS.iand X0.here hx rfl (hb hby at_103) rfl k) ?_
            show Goes _ _ _ _ (s₁.setTop (mkF m 104 #[.val (.int p0), .val (.int p1), .val (.int p2), .val (.int i3), .val (.int i4), .val (.int i5), .val (.int i6), .val (.int i7), .val (.int c8), .val (.int c9), .unset, .unset, .unset, .unset, .unset, .unset, .unset] [(.int (p1 &&& (255 : Int32)))]))
            refine Goes.st (fun t k => XS.i2c X0.here hx rfl (hb hby at_104) rfl k) ?_
            show Goes _ _ _ _ (s₁.setTop (mkF m 105 #[.val (.int p0), .val (.int p1), .val (.int p2), .val (.int i3), .val (.int i4), .val (.int i5), .val (.int i6), .val (.int i7), .val (.int c8), .val (.int c9), .unset, .unset, .unset, .unset, .unset, .unset, .unset] [(.int ((p1 &&& (255 : Int32)).toUInt32.toUInt16.toUInt32.toInt32))]))
            exact J105 ((p1 &&& (255 : Int32)).toUInt32.toUInt16.toUInt32.toInt32) (own_i2cr p1)
          case neg =>
            refine Goes.st (fun t k => XS.ifNo X0.here hx rfl (hb hby at_91) rfl ((if0 _ _).trans (feq cz108).1) k) ?_
            show Goes _ _ _ _ (s₁.setTop (mkF m 94 #[.val (.int p0), .val (.int p1), .val (.int p2), .val (.int i3), .val (.int i4), .val (.int i5), .val (.int i6), .val (.int i7), .val (.int c8), .val (.int c9), .unset, .unset, .unset, .unset, .unset, .unset, .unset] []))
            refine Goes.st (fun t k => XS.iload X0.here hx rfl (hb hby at_94) rfl k) ?_
            show Goes _ _ _ _ (s₁.setTop (mkF m 96 #[.val (.int p0), .val (.int p1), .val (.int p2), .val (.int i3), .val (.int i4), .val (.int i5), .val (.int i6), .val (.int i7), .val (.int c8), .val (.int c9), .unset, .unset, .unset, .unset, .unset, .unset, .unset] [(.int c8)]))
            refine Goes.st (fun t k => XS.goto X0.here hx rfl (pc0 := 96) (pc' := 105) rfl (hb hby at_96) (by decide) (by decide) k) ?_
            show Goes _ _ _ _ (s₁.setTop (mkF m 105 #[.val (.int p0), .val (.int p1), .val (.int p2), .val (.int i3), .val (.int i4), .val (.int i5), .val (.int i6), .val (.int i7), .val (.int c8), .val (.int c9), .unset, .unset, .unset, .unset, .unset, .unset, .unset] [(.int c8)]))
            exact J105 c8 rg_c8
        show Goes _ _ _ _ (s₁.setTop (mkF m 53 #[.val (.int p0), .val (.int p1), .val (.int p2), .val (.int i3), .val (.int i4), .val (.int i5), .val (.int i6), .unset, .unset, .unset, .unset, .unset, .unset, .unset, .unset, .unset, .unset] []))
        refine Goes.st (fun t k => XS.iloadN X0.here hx rfl (hb hby at_53) rfl k) ?_
        show Goes _ _ _ _ (s₁.setTop (mkF m 54 #[.val (.int p0), .val (.int p1), .val (.int p2), .val (.int i3), .val (.int i4), .val (.int i5), .val (.int i6), .unset, .unset, .unset, .unset, .unset, .unset, .unset, .unset, .unset, .unset] [(.int i3)]))
        by_cases cz109 : i3 = (0 : Int32)
        case pos =>
          refine Goes.st (fun t k => XS.ifYes X0.here hx rfl (pc0 := 54) (pc' := 62) rfl (hb hby at_54) rfl ((if0 _ _).trans (teq cz109).1) (by decide) (by decide) k) ?_
          show Goes _ _ _ _ (s₁.setTop (mkF m 62 #[.val (.int p0), .val (.int p1), .val (.int p2), .val (.int i3), .val (.int i4), .val (.int i5), .val (.int i6), .unset, .unset, .unset, .unset, .unset, .unset, .unset, .unset, .unset, .unset] []))
          refine Goes.st (fun t k => XS.iloadN X0.here hx rfl (hb hby at_62) rfl k) ?_
          show Goes _ _ _ _ (s₁.setTop (mkF m 63 #[.val (.int p0), .val (.int p1), .val (.int p2), .val (.int i3), .val (.int i4), .val (.int i5), .val (.int i6), .unset, .unset, .unset, .unset, .unset, .unset, .unset, .unset, .unset, .unset] [(.int p2)]))
          refine Goes.st (fun t k => XS.iconst X0.here hx rfl (hb hby at_63) k) ?_
          show Goes _ _ _ _ (s₁.setTop (mkF m 64 #[.val (.int p0), .val (.int p1), .val (.int p2), .val (.int i3), .val (.int i4), .val (.int i5), .val (.int i6), .unset, .unset, .unset, .unset, .unset, .unset, .unset, .unset, .unset, .unset] [(.int (2 : Int32)), (.int p2)]))
          refine Goes.st (fun t k => XS.iushr X0.here hx rfl (hb hby at_64) rfl k) ?_
          show Goes _ _ _ _ (s₁.setTop (mkF m 65 #[.val (.int p0), .val (.int p1), .val (.int p2), .val (.int i3), .val (.int i4), .val (.int i5), .val (.int i6), .unset, .unset, .unset, .unset, .unset, .unset, .unset, .unset, .unset, .unset] [(.int ((p2.toUInt32 >>> ((2 : Int32) &&& 31).toUInt32).toInt32))]))
          refine Goes.st (fun t k => XS.iconst X0.here hx rfl (hb hby at_65) k) ?_
          show Goes _ _ _ _ (s₁.setTop (mkF m 66 #[.val (.int p0), .val (.int p1), .val (.int p2), .val (.int i3), .val (.int i4), .val (.int i5), .val (.int i6), .unset, .unset, .unset, .unset, .unset, .unset, .unset, .unset, .unset, .unset] [(.int (3 : Int32)), (.int ((p2.toUInt32 >>> ((2 : Int32) &&& 31).toUInt32).toInt32))]))
          refine Goes.st (fun t k => XS.iand X0.here hx rfl (hb hby at_66) rfl k) ?_
          show Goes _ _ _ _ (s₁.setTop (mkF m 67 #[.val (.int p0), .val (.int p1), .val (.int p2), .val (.int i3), .val (.int i4), .val (.int i5), .val (.int i6), .unset, .unset, .unset, .unset, .unset, .unset, .unset, .unset, .unset, .unset] [(.int (((p2.toUInt32 >>> ((2 : Int32) &&& 31).toUInt32).toInt32) &&& (3 : Int32)))]))
          refine Goes.st (fun t k => XS.iconst X0.here hx rfl (hb hby at_67) k) ?_
          show Goes _ _ _ _ (s₁.setTop (mkF m 68 #[.val (.int p0), .val (.int p1), .val (.int p2), .val (.int i3), .val (.int i4), .val (.int i5), .val (.int i6), .unset, .unset, .unset, .unset, .unset, .unset, .unset, .unset, .unset, .unset] [(.int (3 : Int32)), (.int (((p2.toUInt32 >>> ((2 : Int32) &&& 31).toUInt32).toInt32) &&& (3 : Int32)))]))
          refine Goes.st (fun t k => iremM (g := (mkF m 68 #[.val (.int p0), .val (.int p1), .val (.int p2), .val (.int i3), .val (.int i4), .val (.int i5), .val (.int i6), .unset, .unset, .unset, .unset, .unset, .unset, .unset, .unset, .unset, .unset] [(.int (3 : Int32)), (.int (((p2.toUInt32 >>> ((2 : Int32) &&& 31).toUInt32).toInt32) &&& (3 : Int32)))])) X0 hx rfl (hb hby at_68) rfl (by decide) k) ?_
          show Goes _ _ _ _ (s₁.setTop (mkF m 69 #[.val (.int p0), .val (.int p1), .val (.int p2), .val (.int i3), .val (.int i4), .val (.int i5), .val (.int i6), .unset, .unset, .unset, .unset, .unset, .unset, .unset, .unset, .unset, .unset] [(.int ((((p2.toUInt32 >>> ((2 : Int32) &&& 31).toUInt32).toInt32) &&& (3 : Int32)) % (3 : Int32)))]))
          exact J69 ((((p2.toUInt32 >>> ((2 : Int32) &&& 31).toUInt32).toInt32) &&& (3 : Int32)) % (3 : Int32)) (own_rem3 ((p2.toUInt32 >>> ((2 : Int32) &&& 31).toUInt32).toInt32))
        case neg =>
          refine Goes.st (fun t k => XS.ifNo X0.here hx rfl (hb hby at_54) rfl ((if0 _ _).trans (feq cz109).1) k) ?_
          show Goes _ _ _ _ (s₁.setTop (mkF m 57 #[.val (.int p0), .val (.int p1), .val (.int p2), .val (.int i3), .val (.int i4), .val (.int i5), .val (.int i6), .unset, .unset, .unset, .unset, .unset, .unset, .unset, .unset, .unset, .unset] []))
          refine Goes.st (fun t k => XS.iload X0.here hx rfl (hb hby at_57) rfl k) ?_
          show Goes _ _ _ _ (s₁.setTop (mkF m 59 #[.val (.int p0), .val (.int p1), .val (.int p2), .val (.int i3), .val (.int i4), .val (.int i5), .val (.int i6), .unset, .unset, .unset, .unset, .unset, .unset, .unset, .unset, .unset, .unset] [(.int i6)]))
          refine Goes.st (fun t k => XS.goto X0.here hx rfl (pc0 := 59) (pc' := 69) rfl (hb hby at_59) (by decide) (by decide) k) ?_
          show Goes _ _ _ _ (s₁.setTop (mkF m 69 #[.val (.int p0), .val (.int p1), .val (.int p2), .val (.int i3), .val (.int i4), .val (.int i5), .val (.int i6), .unset, .unset, .unset, .unset, .unset, .unset, .unset, .unset, .unset, .unset] [(.int i6)]))
          exact J69 i6 h3i6
      show Goes _ _ _ _ (s₁.setTop (mkF m 30 #[.val (.int p0), .val (.int p1), .val (.int p2), .val (.int i3), .val (.int i4), .unset, .unset, .unset, .unset, .unset, .unset, .unset, .unset, .unset, .unset, .unset, .unset] []))
      refine Goes.st (fun t k => XS.iloadN X0.here hx rfl (hb hby at_30) rfl k) ?_
      show Goes _ _ _ _ (s₁.setTop (mkF m 31 #[.val (.int p0), .val (.int p1), .val (.int p2), .val (.int i3), .val (.int i4), .unset, .unset, .unset, .unset, .unset, .unset, .unset, .unset, .unset, .unset, .unset, .unset] [(.int p2)]))
      refine Goes.st (fun t k => XS.bipush X0.here hx rfl (hb hby at_31) k) ?_
      show Goes _ _ _ _ (s₁.setTop (mkF m 33 #[.val (.int p0), .val (.int p1), .val (.int p2), .val (.int i3), .val (.int i4), .unset, .unset, .unset, .unset, .unset, .unset, .unset, .unset, .unset, .unset, .unset, .unset] [(.int (7 : Int32)), (.int p2)]))
      refine Goes.st (fun t k => XS.iushr X0.here hx rfl (hb hby at_33) rfl k) ?_
      show Goes _ _ _ _ (s₁.setTop (mkF m 34 #[.val (.int p0), .val (.int p1), .val (.int p2), .val (.int i3), .val (.int i4), .unset, .unset, .unset, .unset, .unset, .unset, .unset, .unset, .unset, .unset, .unset, .unset] [(.int ((p2.toUInt32 >>> ((7 : Int32) &&& 31).toUInt32).toInt32))]))
      refine Goes.st (fun t k => XS.iconst X0.here hx rfl (hb hby at_34) k) ?_
      show Goes _ _ _ _ (s₁.setTop (mkF m 35 #[.val (.int p0), .val (.int p1), .val (.int p2), .val (.int i3), .val (.int i4), .unset, .unset, .unset, .unset, .unset, .unset, .unset, .unset, .unset, .unset, .unset, .unset] [(.int (1 : Int32)), (.int ((p2.toUInt32 >>> ((7 : Int32) &&& 31).toUInt32).toInt32))]))
      refine Goes.st (fun t k => XS.iand X0.here hx rfl (hb hby at_35) rfl k) ?_
      show Goes _ _ _ _ (s₁.setTop (mkF m 36 #[.val (.int p0), .val (.int p1), .val (.int p2), .val (.int i3), .val (.int i4), .unset, .unset, .unset, .unset, .unset, .unset, .unset, .unset, .unset, .unset, .unset, .unset] [(.int (((p2.toUInt32 >>> ((7 : Int32) &&& 31).toUInt32).toInt32) &&& (1 : Int32)))]))
      by_cases cz110 : (((p2.toUInt32 >>> ((7 : Int32) &&& 31).toUInt32).toInt32) &&& (1 : Int32)) = (0 : Int32)
      case pos =>
        refine Goes.st (fun t k => XS.ifYes X0.here hx rfl (pc0 := 36) (pc' := 43) rfl (hb hby at_36) rfl ((if0 _ _).trans (teq cz110).1) (by decide) (by decide) k) ?_
        show Goes _ _ _ _ (s₁.setTop (mkF m 43 #[.val (.int p0), .val (.int p1), .val (.int p2), .val (.int i3), .val (.int i4), .unset, .unset, .unset, .unset, .unset, .unset, .unset, .unset, .unset, .unset, .unset, .unset] []))
        refine Goes.st (fun t k => XS.iconst X0.here hx rfl (hb hby at_43) k) ?_
        show Goes _ _ _ _ (s₁.setTop (mkF m 44 #[.val (.int p0), .val (.int p1), .val (.int p2), .val (.int i3), .val (.int i4), .unset, .unset, .unset, .unset, .unset, .unset, .unset, .unset, .unset, .unset, .unset, .unset] [(.int (0 : Int32))]))
        exact J44 (0 : Int32)
      case neg =>
        refine Goes.st (fun t k => XS.ifNo X0.here hx rfl (hb hby at_36) rfl ((if0 _ _).trans (feq cz110).1) k) ?_
        show Goes _ _ _ _ (s₁.setTop (mkF m 39 #[.val (.int p0), .val (.int p1), .val (.int p2), .val (.int i3), .val (.int i4), .unset, .unset, .unset, .unset, .unset, .unset, .unset, .unset, .unset, .unset, .unset, .unset] []))
        refine Goes.st (fun t k => XS.iconst X0.here hx rfl (hb hby at_39) k) ?_
        show Goes _ _ _ _ (s₁.setTop (mkF m 40 #[.val (.int p0), .val (.int p1), .val (.int p2), .val (.int i3), .val (.int i4), .unset, .unset, .unset, .unset, .unset, .unset, .unset, .unset, .unset, .unset, .unset, .unset] [(.int (1 : Int32))]))
        refine Goes.st (fun t k => XS.goto X0.here hx rfl (pc0 := 40) (pc' := 44) rfl (hb hby at_40) (by decide) (by decide) k) ?_
        show Goes _ _ _ _ (s₁.setTop (mkF m 44 #[.val (.int p0), .val (.int p1), .val (.int p2), .val (.int i3), .val (.int i4), .unset, .unset, .unset, .unset, .unset, .unset, .unset, .unset, .unset, .unset, .unset, .unset] [(.int (1 : Int32))]))
        exact J44 (1 : Int32)
    show Goes _ _ _ _ (s₁.setTop (mkF m 14 #[.val (.int p0), .val (.int p1), .val (.int p2), .val (.int i3), .unset, .unset, .unset, .unset, .unset, .unset, .unset, .unset, .unset, .unset, .unset, .unset, .unset] []))
    refine Goes.st (fun t k => XS.iloadN X0.here hx rfl (hb hby at_14) rfl k) ?_
    show Goes _ _ _ _ (s₁.setTop (mkF m 15 #[.val (.int p0), .val (.int p1), .val (.int p2), .val (.int i3), .unset, .unset, .unset, .unset, .unset, .unset, .unset, .unset, .unset, .unset, .unset, .unset, .unset] [(.int p2)]))
    refine Goes.st (fun t k => XS.iconst X0.here hx rfl (hb hby at_15) k) ?_
    show Goes _ _ _ _ (s₁.setTop (mkF m 16 #[.val (.int p0), .val (.int p1), .val (.int p2), .val (.int i3), .unset, .unset, .unset, .unset, .unset, .unset, .unset, .unset, .unset, .unset, .unset, .unset, .unset] [(.int (5 : Int32)), (.int p2)]))
    refine Goes.st (fun t k => XS.iushr X0.here hx rfl (hb hby at_16) rfl k) ?_
    show Goes _ _ _ _ (s₁.setTop (mkF m 17 #[.val (.int p0), .val (.int p1), .val (.int p2), .val (.int i3), .unset, .unset, .unset, .unset, .unset, .unset, .unset, .unset, .unset, .unset, .unset, .unset, .unset] [(.int ((p2.toUInt32 >>> ((5 : Int32) &&& 31).toUInt32).toInt32))]))
    refine Goes.st (fun t k => XS.iconst X0.here hx rfl (hb hby at_17) k) ?_
    show Goes _ _ _ _ (s₁.setTop (mkF m 18 #[.val (.int p0), .val (.int p1), .val (.int p2), .val (.int i3), .unset, .unset, .unset, .unset, .unset, .unset, .unset, .unset, .unset, .unset, .unset, .unset, .unset] [(.int (3 : Int32)), (.int ((p2.toUInt32 >>> ((5 : Int32) &&& 31).toUInt32).toInt32))]))
    refine Goes.st (fun t k => XS.iand X0.here hx rfl (hb hby at_18) rfl k) ?_
    show Goes _ _ _ _ (s₁.setTop (mkF m 19 #[.val (.int p0), .val (.int p1), .val (.int p2), .val (.int i3), .unset, .unset, .unset, .unset, .unset, .unset, .unset, .unset, .unset, .unset, .unset, .unset, .unset] [(.int (((p2.toUInt32 >>> ((5 : Int32) &&& 31).toUInt32).toInt32) &&& (3 : Int32)))]))
    refine Goes.st (fun t k => XS.iconst X0.here hx rfl (hb hby at_19) k) ?_
    show Goes _ _ _ _ (s₁.setTop (mkF m 20 #[.val (.int p0), .val (.int p1), .val (.int p2), .val (.int i3), .unset, .unset, .unset, .unset, .unset, .unset, .unset, .unset, .unset, .unset, .unset, .unset, .unset] [(.int (3 : Int32)), (.int (((p2.toUInt32 >>> ((5 : Int32) &&& 31).toUInt32).toInt32) &&& (3 : Int32)))]))
    by_cases cz111 : (((p2.toUInt32 >>> ((5 : Int32) &&& 31).toUInt32).toInt32) &&& (3 : Int32)) = (3 : Int32)
    case pos =>
      refine Goes.st (fun t k => XS.icmpNo X0.here hx rfl (hb hby at_20) rfl (teq cz111).2 k) ?_
      show Goes _ _ _ _ (s₁.setTop (mkF m 23 #[.val (.int p0), .val (.int p1), .val (.int p2), .val (.int i3), .unset, .unset, .unset, .unset, .unset, .unset, .unset, .unset, .unset, .unset, .unset, .unset, .unset] []))
      refine Goes.st (fun t k => XS.iconst X0.here hx rfl (hb hby at_23) k) ?_
      show Goes _ _ _ _ (s₁.setTop (mkF m 24 #[.val (.int p0), .val (.int p1), .val (.int p2), .val (.int i3), .unset, .unset, .unset, .unset, .unset, .unset, .unset, .unset, .unset, .unset, .unset, .unset, .unset] [(.int (1 : Int32))]))
      refine Goes.st (fun t k => XS.goto X0.here hx rfl (pc0 := 24) (pc' := 28) rfl (hb hby at_24) (by decide) (by decide) k) ?_
      show Goes _ _ _ _ (s₁.setTop (mkF m 28 #[.val (.int p0), .val (.int p1), .val (.int p2), .val (.int i3), .unset, .unset, .unset, .unset, .unset, .unset, .unset, .unset, .unset, .unset, .unset, .unset, .unset] [(.int (1 : Int32))]))
      exact J28 (1 : Int32)
    case neg =>
      refine Goes.st (fun t k => XS.icmpYes X0.here hx rfl (pc0 := 20) (pc' := 27) rfl (hb hby at_20) rfl (feq cz111).2 (by decide) (by decide) k) ?_
      show Goes _ _ _ _ (s₁.setTop (mkF m 27 #[.val (.int p0), .val (.int p1), .val (.int p2), .val (.int i3), .unset, .unset, .unset, .unset, .unset, .unset, .unset, .unset, .unset, .unset, .unset, .unset, .unset] []))
      refine Goes.st (fun t k => XS.iconst X0.here hx rfl (hb hby at_27) k) ?_
      show Goes _ _ _ _ (s₁.setTop (mkF m 28 #[.val (.int p0), .val (.int p1), .val (.int p2), .val (.int i3), .unset, .unset, .unset, .unset, .unset, .unset, .unset, .unset, .unset, .unset, .unset, .unset, .unset] [(.int (0 : Int32))]))
      exact J28 (0 : Int32)
  show Goes _ _ _ _ (s₁.setTop (mkF m 0 #[.val (.int p0), .val (.int p1), .val (.int p2), .unset, .unset, .unset, .unset, .unset, .unset, .unset, .unset, .unset, .unset, .unset, .unset, .unset, .unset] []))
  refine Goes.st (fun t k => XS.iloadN X0.here hx rfl (hb hby at_0) rfl k) ?_
  show Goes _ _ _ _ (s₁.setTop (mkF m 1 #[.val (.int p0), .val (.int p1), .val (.int p2), .unset, .unset, .unset, .unset, .unset, .unset, .unset, .unset, .unset, .unset, .unset, .unset, .unset, .unset] [(.int p2)]))
  refine Goes.st (fun t k => XS.iconst X0.here hx rfl (hb hby at_1) k) ?_
  show Goes _ _ _ _ (s₁.setTop (mkF m 2 #[.val (.int p0), .val (.int p1), .val (.int p2), .unset, .unset, .unset, .unset, .unset, .unset, .unset, .unset, .unset, .unset, .unset, .unset, .unset, .unset] [(.int (4 : Int32)), (.int p2)]))
  refine Goes.st (fun t k => XS.iushr X0.here hx rfl (hb hby at_2) rfl k) ?_
  show Goes _ _ _ _ (s₁.setTop (mkF m 3 #[.val (.int p0), .val (.int p1), .val (.int p2), .unset, .unset, .unset, .unset, .unset, .unset, .unset, .unset, .unset, .unset, .unset, .unset, .unset, .unset] [(.int ((p2.toUInt32 >>> ((4 : Int32) &&& 31).toUInt32).toInt32))]))
  refine Goes.st (fun t k => XS.iconst X0.here hx rfl (hb hby at_3) k) ?_
  show Goes _ _ _ _ (s₁.setTop (mkF m 4 #[.val (.int p0), .val (.int p1), .val (.int p2), .unset, .unset, .unset, .unset, .unset, .unset, .unset, .unset, .unset, .unset, .unset, .unset, .unset, .unset] [(.int (1 : Int32)), (.int ((p2.toUInt32 >>> ((4 : Int32) &&& 31).toUInt32).toInt32))]))
  refine Goes.st (fun t k => XS.iand X0.here hx rfl (hb hby at_4) rfl k) ?_
  show Goes _ _ _ _ (s₁.setTop (mkF m 5 #[.val (.int p0), .val (.int p1), .val (.int p2), .unset, .unset, .unset, .unset, .unset, .unset, .unset, .unset, .unset, .unset, .unset, .unset, .unset, .unset] [(.int (((p2.toUInt32 >>> ((4 : Int32) &&& 31).toUInt32).toInt32) &&& (1 : Int32)))]))
  by_cases cz112 : (((p2.toUInt32 >>> ((4 : Int32) &&& 31).toUInt32).toInt32) &&& (1 : Int32)) = (0 : Int32)
  case pos =>
    refine Goes.st (fun t k => XS.ifYes X0.here hx rfl (pc0 := 5) (pc' := 12) rfl (hb hby at_5) rfl ((if0 _ _).trans (teq cz112).1) (by decide) (by decide) k) ?_
    show Goes _ _ _ _ (s₁.setTop (mkF m 12 #[.val (.int p0), .val (.int p1), .val (.int p2), .unset, .unset, .unset, .unset, .unset, .unset, .unset, .unset, .unset, .unset, .unset, .unset, .unset, .unset] []))
    refine Goes.st (fun t k => XS.iconst X0.here hx rfl (hb hby at_12) k) ?_
    show Goes _ _ _ _ (s₁.setTop (mkF m 13 #[.val (.int p0), .val (.int p1), .val (.int p2), .unset, .unset, .unset, .unset, .unset, .unset, .unset, .unset, .unset, .unset, .unset, .unset, .unset, .unset] [(.int (0 : Int32))]))
    exact J13 (0 : Int32)
  case neg =>
    refine Goes.st (fun t k => XS.ifNo X0.here hx rfl (hb hby at_5) rfl ((if0 _ _).trans (feq cz112).1) k) ?_
    show Goes _ _ _ _ (s₁.setTop (mkF m 8 #[.val (.int p0), .val (.int p1), .val (.int p2), .unset, .unset, .unset, .unset, .unset, .unset, .unset, .unset, .unset, .unset, .unset, .unset, .unset, .unset] []))
    refine Goes.st (fun t k => XS.iconst X0.here hx rfl (hb hby at_8) k) ?_
    show Goes _ _ _ _ (s₁.setTop (mkF m 9 #[.val (.int p0), .val (.int p1), .val (.int p2), .unset, .unset, .unset, .unset, .unset, .unset, .unset, .unset, .unset, .unset, .unset, .unset, .unset, .unset] [(.int (1 : Int32))]))
    refine Goes.st (fun t k => XS.goto X0.here hx rfl (pc0 := 9) (pc' := 13) rfl (hb hby at_9) (by decide) (by decide) k) ?_
    show Goes _ _ _ _ (s₁.setTop (mkF m 13 #[.val (.int p0), .val (.int p1), .val (.int p2), .unset, .unset, .unset, .unset, .unset, .unset, .unset, .unset, .unset, .unset, .unset, .unset, .unset, .unset] [(.int (1 : Int32))]))
    exact J13 (1 : Int32)
set_option maxRecDepth 65536 in
set_option maxHeartbeats 40000000 in
theorem comes_1 {Post : Tables → Env → Array Value → State → Outcome → State → Prop} (hpost : ∀ tb e args s v u, (limb_1_1.after args s (.returned v) u = true ∧ limb_1_2.after args s (.returned v) u = true ∧ True) → ReturnedEndW s (.returned v) u (Jvm.fieldLocs frame_1_writes args s ++ Jvm.arrayLocs frame_1_arrays args s ++ Jvm.staticLocs frame_1_statics s) 24 1152 → Post tb e args s (.returned v) u) :
    ArmFor flags0 classFile x code maxLocals ret World_1 tables_1 room_1 Calls_1 rest_1 Pre_1 Post := by
  intro l hfl _ _ p e ha hc hk s m args below hf hA hF happ hP
  obtain ⟨hcalls, hrest, hpre⟩ := hP
  obtain ⟨-, -, -, hnamed, -, -, -, hat⟩ := (Spec.applies_iff hf).mp happ
  obtain ⟨hg, hn⟩ := and_e (Cond.before_iff.mp (show (Jvm.Cond.and given_1 narrow_1).before args s = true from hpre))
  obtain ⟨gc, gr0⟩ := and_e hg
  obtain ⟨ga0, gr1⟩ := and_e gr0
  obtain ⟨ga1, gr2⟩ := and_e gr1
  obtain ⟨w0, w1, w2, rfl⟩ : ∃ w0 w1 w2 : Value, args = #[w0, w1, w2] := by
    have hs : args.size = 3 := by simpa [Cond.value, given_1] using gc
    obtain ⟨L⟩ := args
    match L, hs with
    | [w0, w1, w2], _ => exact ⟨w0, w1, w2, rfl⟩
  have hw := fun d (hd : d ∈ tables_1) => atoms_spec (ws := Jvm.Cond.code x code maxLocals ret :: tables_1) hat d (List.mem_cons_of_mem _ hd)
  obtain ⟨hsets, hown0⟩ := atoms_of _ (rest_1_c_eq ▸ (show rest_1_c.before _ s = true from hrest))
  have n5 := not_v (Cond.before_iff.mp (hsets _ (List.mem_of_getElem? (i := 2) rfl)))
  obtain ⟨i0, ei0⟩ := is_v ga0
  obtain rfl : w0 = (.int i0) := Option.some.inj ei0
  obtain ⟨i1, ei1⟩ := is_v ga1
  obtain rfl : w1 = (.int i1) := Option.some.inj ei1
  obtain ⟨i2, ei2⟩ := is_v gr2
  obtain rfl : w2 = (.int i2) := Option.some.inj ei2
  obtain ⟨iG, eG⟩ := is_v (Cond.before_iff.mp (hsets _ (List.mem_of_getElem? (i := 1) rfl)))
  have SG : Sta s s.heap "java/lang/String" "COMPACT_STRINGS" "Z" (.int iG) := Sta.start eG (Or.inl (hsets _ (List.mem_of_getElem? (i := 0) rfl)))
  have cG : ¬ (iG = (0 : Int32)) := gotF (Cond.eq_ints eG (Term.int_eval (0))) n5
  have hCH : CHv s EL s.vm s.heap := CHv.start (own_EW hw) (fun p hp => hcalls.1 p hp) (hsets _ (List.mem_of_getElem? (i := 2) rfl)) (hw23 hw) (hw5 hw)
  obtain ⟨n, o, h1, h2, h3, _, L, rfl, ⟨rfl, N⟩, -, hq⟩ := rm_law l s _ hw tables_1 i0 i1 i2 iG s.heap s.heap.size (Nat.le_refl _) (Old.start s) SG cG p e ha hc hk s m _ below hf ((Spec.applies_iff_loose hf).mp happ).1 ⟨rfl, State.Warmed39.refl s, rfl, hCH, all0⟩ trivial
  refine ⟨n, _, h1, h2, h3, hpost _ _ _ _ _ _ ⟨Cond.after_iff.mpr rfl, Cond.after_iff.mpr (eq_i res_at (Term.int_eval (1)) rfl), trivial⟩ ⟨hq.1, hq.2.1, hq.2.2.1, (hq.2.2.2.sift fun y hy => Or.inr (N y hy)).mono (by decide) (by decide)⟩⟩
theorem main_1_1 : Claimed_1_1 := comes_1 fun _ _ _ _ _ _ h hF => ⟨h.1, hF⟩
theorem main_1_2 : Claimed_1_2 := comes_1 fun _ _ _ _ _ _ h hF => ⟨h.2.1, hF⟩
end Jvm.Pilot.@@N@@
namespace Jvm.Pilot.@@N@@
open Jvm Jvm.ClassFile Sem Op Lib Jvm.Free Jvm.Stand Jvm.Pilot.@@N@@.Jvm.D
/-! MADE BY PROGRAM (witnessworld.py) out of the Statement's table words and the real class files: 21 classes; the members and pool entries that the words name. The judged class is class 1, her method 2. -/
namespace start1
open Jvm.ClassFile
def u (s : String) : CpInfo := .utf8 (stringToUtf16 s)
/-- a pool by its gaps: so many unusable entries, then the entry; so many at the end -/
def gap : Nat → List CpInfo → List CpInfo
  | 0, r => r
  | n + 1, r => .unusable :: gap n r
def poolList (es : List (Nat × CpInfo)) (last : Nat) : List CpInfo := es.foldr (fun e r => gap e.1 (e.2 :: r)) (gap last [])
def pool (es : List (Nat × CpInfo)) (last : Nat) : Array CpInfo := ⟨poolList es last⟩
def fileOf (pool : Array CpInfo) (this : Nat) (attrs : Array Attribute := #[]) (ms : Array MethodInfo := #[]) (fl : Nat := 33) (sup : Nat := 0) (ifs : Array Nat := #[]) (fds : Array FieldInfo := #[]) : ClassFile where
  minorVersion := 0
  majorVersion := 65
  constantPool := pool
  accessFlags := fl
  thisClass := this
  superClass := sup
  interfaces := ifs
  fields := fds
  methods := ms
  attributes := attrs
def plain (name : String) (sup : Option ClassId) : Class where
  name := name
  kind := .ordinary
  loader := none
  accessFlags := 33
  super := sup
  interfaces := #[]
  cf := none
  fields := #[]
  methods := #[]
  instanceTypes := #[]
  staticTypes := #[]
  resolved := #[]
  callSites := []
  init := .initialized
  statics := none
  mirror := none

def pool0 : Array CpInfo := pool [(5, u "<init>"), (0, u "()V"), (1, .class_ 10), (1, u "java/lang/Object")] 113

def k0c0 : Code := { maxStack := 0, maxLocals := 1, code := object_method_1_code, exceptionTable := #[], attributes := #[] }
def k0m0 : Method := { name := "<init>", desc := "()V", sig := { parameters := [], returnType := none }, accessFlags := 1, code := some k0c0 }
/-- java/lang/Object -/
def k0 : Class := { plain "java/lang/Object" none with
  accessFlags := 33
  interfaces := #[]
  cf := some (fileOf pool0 8 #[] #[{ accessFlags := 1, nameIndex := 5, descriptorIndex := 6, attributes := #[] }] 33 0 #[] #[])
  fields := #[]
  methods := #[k0m0]
  instanceTypes := #[]
  staticTypes := #[]
  resolved := Array.replicate 124 none
  statics := none }

def pool1 : Array CpInfo := pool [(2, .class_ 4), (1, u "java/lang/Object"), (0, u "<init>"), (0, u "()V"), (0, .class_ 8), (0, u "java/lang/String"), (0, .methodref 7 10), (0, .nameAndType 5 11), (0, u "([C)V"), (0, .methodref 7 13), (0, .nameAndType 14 15), (0, u "valueOf"), (0, u "(C)Ljava/lang/String;"), (0, .methodref 17 18), (0, .class_ 19), (0, .nameAndType 20 21), (0, u "com/example/sillon/sillon/transport/PartsMainIsMessagePinLaw"), (0, u "make"), (0, u "(ICC)Ljava/lang/String;"), (0, .class_ 23), (0, u "com/example/sillon/sillon/transport/SoapOperation$Parts"), (0, .methodref 22 25), (0, .nameAndType 5 26), (0, u "(Ljava/lang/String;Ljava/lang/String;Ljava/lang/String;Ljava/lang/String;Ljava/lang/String;)V"), (0, .methodref 22 28), (0, .nameAndType 29 30), (0, u "mainIsMessage"), (0, u "()Z"), (3, u "law"), (0, u "(III)Z")] 6

def k1m0 : Method := { name := "<init>", desc := "()V", sig := { parameters := [], returnType := none }, accessFlags := 1, code := none }
def k1c1 : Code := { maxStack := 6, maxLocals := 3, code := method_2_code, exceptionTable := #[], attributes := #[] }
def k1m1 : Method := { name := "make", desc := "(ICC)Ljava/lang/String;", sig := { parameters := [.int, .char, .char], returnType := some (.object "java/lang/String") }, accessFlags := 10, code := some k1c1 }
def k1c2 : Code := { maxStack := 7, maxLocals := 17, code := code, exceptionTable := #[], attributes := #[] }
def k1m2 : Method := { name := "law", desc := "(III)Z", sig := { parameters := [.int, .int, .int], returnType := some .boolean }, accessFlags := 9, code := some k1c2 }
/-- com/example/sillon/sillon/transport/PartsMainIsMessagePinLaw -/
def k1 : Class := { plain "com/example/sillon/sillon/transport/PartsMainIsMessagePinLaw" (some 0) with
  accessFlags := 49
  interfaces := #[]
  cf := some (fileOf pool1 17 #[] #[{ accessFlags := 1, nameIndex := 5, descriptorIndex := 6, attributes := #[] }, { accessFlags := 10, nameIndex := 20, descriptorIndex := 21, attributes := #[] }, { accessFlags := 9, nameIndex := 34, descriptorIndex := 35, attributes := #[] }] 49 2 #[] #[])
  fields := #[]
  methods := #[k1m0, k1m1, k1m2]
  instanceTypes := #[]
  staticTypes := #[]
  resolved := Array.replicate 42 none
  statics := none }

def pool2 : Array CpInfo := pool [(1, .class_ 2), (0, u "java/io/Serializable"), (0, .class_ 4), (0, u "java/lang/Object")] 2

/-- java/io/Serializable -/
def k2 : Class := { plain "java/io/Serializable" (some 0) with
  accessFlags := 1537
  interfaces := #[]
  cf := some (fileOf pool2 1 #[] #[] 1537 3 #[] #[])
  fields := #[]
  methods := #[]
  instanceTypes := #[]
  staticTypes := #[]
  resolved := Array.replicate 7 none
  statics := none }

def pool3 : Array CpInfo := pool [(1, .class_ 2), (0, u "java/lang/Comparable"), (0, .class_ 4), (0, u "java/lang/Object")] 7

/-- java/lang/Comparable -/
def k3 : Class := { plain "java/lang/Comparable" (some 0) with
  accessFlags := 1537
  interfaces := #[]
  cf := some (fileOf pool3 1 #[] #[] 1537 3 #[] #[])
  fields := #[]
  methods := #[]
  instanceTypes := #[]
  staticTypes := #[]
  resolved := Array.replicate 12 none
  statics := none }

def pool4 : Array CpInfo := pool [(2, .class_ 4), (1, u "java/lang/CharSequence"), (42, .class_ 48), (0, u "java/lang/CharSequence$1CodePointIterator"), (10, .class_ 60), (0, u "java/lang/CharSequence$1CharIterator"), (5, .class_ 67), (0, u "java/lang/Object")] 63

/-- java/lang/CharSequence -/
def k4 : Class := { plain "java/lang/CharSequence" (some 0) with
  accessFlags := 1537
  interfaces := #[]
  cf := some (fileOf pool4 2 #[.nestMembers #[47, 59]] #[] 1537 66 #[] #[])
  fields := #[]
  methods := #[]
  instanceTypes := #[]
  staticTypes := #[]
  resolved := Array.replicate 131 none
  statics := none }

def pool5 : Array CpInfo := pool [(1, .class_ 2), (0, u "java/lang/constant/Constable"), (0, .class_ 4), (0, u "java/lang/Object")] 6

/-- java/lang/constant/Constable -/
def k5 : Class := { plain "java/lang/constant/Constable" (some 0) with
  accessFlags := 1537
  interfaces := #[]
  cf := some (fileOf pool5 1 #[] #[] 1537 3 #[] #[])
  fields := #[]
  methods := #[]
  instanceTypes := #[]
  staticTypes := #[]
  resolved := Array.replicate 11 none
  statics := none }

def pool6 : Array CpInfo := pool [(1, .class_ 2), (0, u "java/lang/constant/ConstantDesc"), (0, .class_ 4), (0, u "java/lang/Object")] 32

/-- java/lang/constant/ConstantDesc -/
def k6 : Class := { plain "java/lang/constant/ConstantDesc" (some 0) with
  accessFlags := 1537
  interfaces := #[]
  cf := some (fileOf pool6 1 #[] #[] 1537 3 #[] #[])
  fields := #[]
  methods := #[]
  instanceTypes := #[]
  staticTypes := #[]
  resolved := Array.replicate 37 none
  statics := none }

def pool7 : Array CpInfo := pool [(1, .methodref 2 3), (0, .class_ 4), (0, .nameAndType 5 6), (0, u "java/lang/Object"), (0, u "<init>"), (0, u "()V"), (0, .string 8), (0, u ""), (0, .fieldref 10 11), (0, .class_ 12), (0, .nameAndType 13 14), (0, u "java/lang/String"), (0, u "value"), (0, u "[B"), (0, .fieldref 10 16), (0, .nameAndType 17 18), (0, u "coder"), (0, u "B"), (2, u "hash"), (0, u "I"), (2, u "hashIsZero"), (0, u "Z"), (0, .methodref 10 28), (0, .nameAndType 5 29), (0, u "([CIILjava/lang/Void;)V"), (8, .fieldref 10 39), (0, .nameAndType 40 26), (0, u "COMPACT_STRINGS"), (1, .class_ 44), (1, u "java/lang/StringUTF16"), (0, u "compress"), (1, .methodref 42 48), (0, .nameAndType 49 50), (0, u "coderFromArrayLen"), (0, u "([BI)B"), (2, u "toBytes"), (53, .class_ 109), (1, u "java/lang/StringLatin1"), (67, .methodref 42 178), (0, .nameAndType 45 179), (0, u "([CII)[B"), (29, .methodref 10 210), (0, .nameAndType 5 211), (0, u "([BB)V"), (157, u "(C)Z"), (171, .methodref 107 542), (0, .nameAndType 543 544), (0, u "equals"), (0, u "([B[B)Z"), (28, u "(Ljava/lang/Object;)Z"), (1, .class_ 576), (0, u "java/lang/CharSequence"), (22, u "CASE_INSENSITIVE_ORDER"), (0, u "Ljava/util/Comparator;"), (181, u "valueOf"), (0, u "(C)Ljava/lang/String;"), (226, u "([C)V"), (4, .methodref 107 1016), (0, .nameAndType 1017 369), (0, u "canEncode"), (0, .methodref 107 1019), (0, .nameAndType 53 1020), (0, u "(C)[B"), (80, u "serialPersistentFields"), (0, u "[Ljava/io/ObjectStreamField;"), (0, .class_ 1104), (0, u "java/lang/String$CaseInsensitiveComparator"), (1, .class_ 1107), (0, u "java/io/Serializable"), (0, .class_ 1109), (0, u "java/lang/Comparable"), (0, .class_ 1111), (0, u "java/lang/constant/Constable"), (0, .class_ 1113), (0, u "java/lang/constant/ConstantDesc"), (2, u "serialVersionUID"), (0, u "J"), (3, u "REPL"), (0, u "C"), (2, u "LATIN1"), (1, u "UTF16")] 323

def k7m0 : Method := { name := "<init>", desc := "()V", sig := { parameters := [], returnType := none }, accessFlags := 1, code := none }
def k7c1 : Code := { maxStack := 5, maxLocals := 2, code := jdk_42_method_3_code, exceptionTable := #[], attributes := #[] }
def k7m1 : Method := { name := "<init>", desc := "([C)V", sig := { parameters := [(.array .char)], returnType := none }, accessFlags := 1, code := some k7c1 }
def k7c2 : Code := { maxStack := 2, maxLocals := 3, code := jdk_42_method_66_code, exceptionTable := #[], attributes := #[] }
def k7m2 : Method := { name := "equals", desc := "(Ljava/lang/Object;)Z", sig := { parameters := [(.object "java/lang/Object")], returnType := some .boolean }, accessFlags := 1, code := some k7c2 }
def k7c3 : Code := { maxStack := 4, maxLocals := 1, code := jdk_42_method_139_code, exceptionTable := #[], attributes := #[] }
def k7m3 : Method := { name := "valueOf", desc := "(C)Ljava/lang/String;", sig := { parameters := [.char], returnType := some (.object "java/lang/String") }, accessFlags := 9, code := some k7c3 }
def k7c4 : Code := { maxStack := 4, maxLocals := 6, code := jdk_42_method_149_code, exceptionTable := #[], attributes := #[] }
def k7m4 : Method := { name := "<init>", desc := "([CIILjava/lang/Void;)V", sig := { parameters := [(.array .char), .int, .int, (.object "java/lang/Void")], returnType := none }, accessFlags := 2, code := some k7c4 }
def k7c5 : Code := { maxStack := 2, maxLocals := 3, code := jdk_42_method_151_code, exceptionTable := #[], attributes := #[] }
def k7m5 : Method := { name := "<init>", desc := "([BB)V", sig := { parameters := [(.array .byte), .byte], returnType := none }, accessFlags := 0, code := some k7c5 }
/-- java/lang/String -/
def k7 : Class := { plain "java/lang/String" (some 0) with
  accessFlags := 49
  interfaces := #[2, 3, 4, 5, 6]
  cf := some (fileOf pool7 10 #[.nestMembers #[1103]] #[{ accessFlags := 1, nameIndex := 5, descriptorIndex := 6, attributes := #[] }, { accessFlags := 1, nameIndex := 5, descriptorIndex := 1010, attributes := #[] }, { accessFlags := 1, nameIndex := 543, descriptorIndex := 573, attributes := #[] }, { accessFlags := 9, nameIndex := 782, descriptorIndex := 783, attributes := #[] }, { accessFlags := 2, nameIndex := 5, descriptorIndex := 29, attributes := #[] }, { accessFlags := 0, nameIndex := 5, descriptorIndex := 211, attributes := #[] }] 49 2 #[1106, 1108, 575, 1110, 1112] #[{ accessFlags := 18, nameIndex := 13, descriptorIndex := 14, attributes := #[] }, { accessFlags := 18, nameIndex := 17, descriptorIndex := 18, attributes := #[] }, { accessFlags := 2, nameIndex := 21, descriptorIndex := 22, attributes := #[] }, { accessFlags := 2, nameIndex := 25, descriptorIndex := 26, attributes := #[] }, { accessFlags := 26, nameIndex := 1116, descriptorIndex := 1117, attributes := #[] }, { accessFlags := 24, nameIndex := 40, descriptorIndex := 26, attributes := #[] }, { accessFlags := 26, nameIndex := 1101, descriptorIndex := 1102, attributes := #[] }, { accessFlags := 26, nameIndex := 1121, descriptorIndex := 1122, attributes := #[] }, { accessFlags := 25, nameIndex := 599, descriptorIndex := 600, attributes := #[] }, { accessFlags := 24, nameIndex := 1125, descriptorIndex := 18, attributes := #[] }, { accessFlags := 24, nameIndex := 1127, descriptorIndex := 18, attributes := #[] }])
  fields := #[{ name := "value", type := (.array .byte), accessFlags := 18, slot := 0, constantValue := 0 }, { name := "coder", type := .byte, accessFlags := 18, slot := 1, constantValue := 0 }, { name := "hash", type := .int, accessFlags := 2, slot := 2, constantValue := 0 }, { name := "hashIsZero", type := .boolean, accessFlags := 2, slot := 3, constantValue := 0 }, { name := "serialVersionUID", type := .long, accessFlags := 26, slot := 0, constantValue := 0 }, { name := "COMPACT_STRINGS", type := .boolean, accessFlags := 24, slot := 1, constantValue := 0 }, { name := "serialPersistentFields", type := (.array (.object "java/io/ObjectStreamField")), accessFlags := 26, slot := 2, constantValue := 0 }, { name := "REPL", type := .char, accessFlags := 26, slot := 3, constantValue := 0 }, { name := "CASE_INSENSITIVE_ORDER", type := (.object "java/util/Comparator"), accessFlags := 25, slot := 4, constantValue := 0 }, { name := "LATIN1", type := .byte, accessFlags := 24, slot := 5, constantValue := 0 }, { name := "UTF16", type := .byte, accessFlags := 24, slot := 6, constantValue := 0 }]
  methods := #[k7m0, k7m1, k7m2, k7m3, k7m4, k7m5]
  instanceTypes := #[(.array .byte), .byte, .int, .boolean]
  staticTypes := #[.long, .boolean, (.array (.object "java/io/ObjectStreamField")), .char, (.object "java/util/Comparator"), .byte, .byte]
  resolved := Array.replicate 1451 none
  statics := some 0 }

def pool8 : Array CpInfo := pool [(6, .class_ 8), (1, u "java/lang/Object"), (0, u "<init>"), (0, u "()V"), (1, .class_ 14), (1, u "java/lang/StringUTF16"), (31, u "$assertionsDisabled"), (0, u "Z"), (13, u "HI_BYTE_SHIFT"), (0, u "I"), (2, u "LO_BYTE_SHIFT"), (49, .methodref 12 116), (0, .nameAndType 117 118), (0, u "compress"), (0, u "([CI[BII)I"), (3, u "([CII)[B"), (138, u "coderFromArrayLen"), (0, u "([BI)B"), (106, .class_ 371), (1, u "java/lang/StringUTF16$LinesSpliterator"), (58, u "MAX_LENGTH"), (196, .class_ 628), (0, u "java/lang/StringUTF16$CodePointsSpliterator"), (0, .class_ 630), (0, u "java/lang/StringUTF16$CharsSpliterator")] 4

def k8m0 : Method := { name := "<init>", desc := "()V", sig := { parameters := [], returnType := none }, accessFlags := 0, code := none }
def k8c1 : Code := { maxStack := 2, maxLocals := 2, code := jdk_52_method_15_code, exceptionTable := #[], attributes := #[] }
def k8m1 : Method := { name := "coderFromArrayLen", desc := "([BI)B", sig := { parameters := [(.array .byte), .int], returnType := some .byte }, accessFlags := 8, code := some k8c1 }
def k8c2 : Code := { maxStack := 5, maxLocals := 6, code := jdk_52_method_16_code, exceptionTable := #[], attributes := #[] }
def k8m2 : Method := { name := "compress", desc := "([CII)[B", sig := { parameters := [(.array .char), .int, .int], returnType := some (.array .byte) }, accessFlags := 9, code := some k8c2 }
def k8c3 : Code := { maxStack := 3, maxLocals := 7, code := jdk_52_method_21_code, exceptionTable := #[], attributes := #[] }
def k8m3 : Method := { name := "compress", desc := "([CI[BII)I", sig := { parameters := [(.array .char), .int, (.array .byte), .int, .int], returnType := some .int }, accessFlags := 9, code := some k8c3 }
/-- java/lang/StringUTF16 -/
def k8 : Class := { plain "java/lang/StringUTF16" (some 0) with
  accessFlags := 48
  interfaces := #[]
  cf := some (fileOf pool8 12 #[.nestMembers #[627, 629, 369]] #[{ accessFlags := 0, nameIndex := 9, descriptorIndex := 10, attributes := #[] }, { accessFlags := 8, nameIndex := 261, descriptorIndex := 262, attributes := #[] }, { accessFlags := 9, nameIndex := 117, descriptorIndex := 122, attributes := #[] }, { accessFlags := 9, nameIndex := 117, descriptorIndex := 118, attributes := #[] }] 48 6 #[] #[{ accessFlags := 26, nameIndex := 61, descriptorIndex := 62, attributes := #[] }, { accessFlags := 26, nameIndex := 65, descriptorIndex := 62, attributes := #[] }, { accessFlags := 24, nameIndex := 430, descriptorIndex := 62, attributes := #[] }, { accessFlags := 4120, nameIndex := 46, descriptorIndex := 47, attributes := #[] }])
  fields := #[{ name := "HI_BYTE_SHIFT", type := .int, accessFlags := 26, slot := 0, constantValue := 0 }, { name := "LO_BYTE_SHIFT", type := .int, accessFlags := 26, slot := 1, constantValue := 0 }, { name := "MAX_LENGTH", type := .int, accessFlags := 24, slot := 2, constantValue := 0 }, { name := "$assertionsDisabled", type := .boolean, accessFlags := 4120, slot := 3, constantValue := 0 }]
  methods := #[k8m0, k8m1, k8m2, k8m3]
  instanceTypes := #[]
  staticTypes := #[.int, .int, .int, .boolean]
  resolved := Array.replicate 635 none
  statics := none }

def pool9 : Array CpInfo := pool [(1, .methodref 2 3), (0, .class_ 4), (0, .nameAndType 5 6), (0, u "java/lang/Object"), (0, u "<init>"), (0, u "()V"), (0, .class_ 8), (0, u "java/lang/Record")] 13

def k9c0 : Code := { maxStack := 1, maxLocals := 1, code := jdk_30_method_1_code, exceptionTable := #[], attributes := #[] }
def k9m0 : Method := { name := "<init>", desc := "()V", sig := { parameters := [], returnType := none }, accessFlags := 4, code := some k9c0 }
/-- java/lang/Record -/
def k9 : Class := { plain "java/lang/Record" (some 0) with
  accessFlags := 1057
  interfaces := #[]
  cf := some (fileOf pool9 7 #[] #[{ accessFlags := 4, nameIndex := 5, descriptorIndex := 6, attributes := #[] }] 1057 2 #[] #[])
  fields := #[]
  methods := #[k9m0]
  instanceTypes := #[]
  staticTypes := #[]
  resolved := Array.replicate 22 none
  statics := none }

def pool10 : Array CpInfo := pool [(1, .methodref 2 3), (0, .class_ 4), (0, .nameAndType 5 6), (0, u "java/lang/Record"), (0, u "<init>"), (0, u "()V"), (0, .fieldref 8 9), (0, .class_ 10), (0, .nameAndType 11 12), (0, u "com/example/sillon/sillon/transport/SoapOperation$Parts"), (0, u "message"), (0, u "Ljava/lang/String;"), (0, .fieldref 8 14), (0, .nameAndType 15 12), (0, u "head"), (0, .fieldref 8 17), (0, .nameAndType 18 12), (0, u "main"), (0, .fieldref 8 20), (0, .nameAndType 21 12), (0, u "mainElement"), (0, .fieldref 8 23), (0, .nameAndType 24 12), (0, u "extension"), (0, .methodref 26 27), (0, .class_ 28), (0, .nameAndType 29 30), (0, u "java/lang/String"), (0, u "equals"), (0, u "(Ljava/lang/Object;)Z"), (11, u "(Ljava/lang/String;Ljava/lang/String;Ljava/lang/String;Ljava/lang/String;Ljava/lang/String;)V"), (3, u "mainIsMessage"), (0, u "()Z"), (5, .class_ 54), (0, u "com/example/sillon/sillon/transport/SoapOperation")] 23

def k10c0 : Code := { maxStack := 2, maxLocals := 6, code := prog_40_method_1_code, exceptionTable := #[], attributes := #[] }
def k10m0 : Method := { name := "<init>", desc := "(Ljava/lang/String;Ljava/lang/String;Ljava/lang/String;Ljava/lang/String;Ljava/lang/String;)V", sig := { parameters := [(.object "java/lang/String"), (.object "java/lang/String"), (.object "java/lang/String"), (.object "java/lang/String"), (.object "java/lang/String")], returnType := none }, accessFlags := 0, code := some k10c0 }
def k10c1 : Code := { maxStack := 2, maxLocals := 1, code := prog_40_method_2_code, exceptionTable := #[], attributes := #[] }
def k10m1 : Method := { name := "mainIsMessage", desc := "()Z", sig := { parameters := [], returnType := some .boolean }, accessFlags := 0, code := some k10c1 }
/-- com/example/sillon/sillon/transport/SoapOperation$Parts -/
def k10 : Class := { plain "com/example/sillon/sillon/transport/SoapOperation$Parts" (some 9) with
  accessFlags := 48
  interfaces := #[]
  cf := some (fileOf pool10 8 #[.nestHost 53] #[{ accessFlags := 0, nameIndex := 5, descriptorIndex := 42, attributes := #[] }, { accessFlags := 0, nameIndex := 46, descriptorIndex := 47, attributes := #[] }] 48 2 #[] #[{ accessFlags := 18, nameIndex := 11, descriptorIndex := 12, attributes := #[] }, { accessFlags := 18, nameIndex := 15, descriptorIndex := 12, attributes := #[] }, { accessFlags := 18, nameIndex := 18, descriptorIndex := 12, attributes := #[] }, { accessFlags := 18, nameIndex := 21, descriptorIndex := 12, attributes := #[] }, { accessFlags := 18, nameIndex := 24, descriptorIndex := 12, attributes := #[] }])
  fields := #[{ name := "message", type := (.object "java/lang/String"), accessFlags := 18, slot := 0, constantValue := 0 }, { name := "head", type := (.object "java/lang/String"), accessFlags := 18, slot := 1, constantValue := 0 }, { name := "main", type := (.object "java/lang/String"), accessFlags := 18, slot := 2, constantValue := 0 }, { name := "mainElement", type := (.object "java/lang/String"), accessFlags := 18, slot := 3, constantValue := 0 }, { name := "extension", type := (.object "java/lang/String"), accessFlags := 18, slot := 4, constantValue := 0 }]
  methods := #[k10m0, k10m1]
  instanceTypes := #[(.object "java/lang/String"), (.object "java/lang/String"), (.object "java/lang/String"), (.object "java/lang/String"), (.object "java/lang/String")]
  staticTypes := #[]
  resolved := Array.replicate 78 none
  statics := none }

def pool11 : Array CpInfo := pool [(4, .class_ 6), (1, u "java/lang/Object"), (0, u "<init>"), (0, u "()V"), (5, .class_ 16), (1, u "java/lang/StringLatin1"), (73, u "canEncode"), (14, u "(C)Z"), (15, u "$assertionsDisabled"), (0, u "Z"), (98, .class_ 223), (1, u "java/lang/StringLatin1$LinesSpliterator"), (57, u "equals"), (0, u "([B[B)Z"), (97, u "toBytes"), (1, u "(C)[B"), (7, .class_ 391), (0, u "java/lang/StringLatin1$CharsSpliterator")] 3

def k11m0 : Method := { name := "<init>", desc := "()V", sig := { parameters := [], returnType := none }, accessFlags := 0, code := none }
def k11c1 : Code := { maxStack := 2, maxLocals := 1, code := jdk_43_method_3_code, exceptionTable := #[], attributes := #[] }
def k11m1 : Method := { name := "canEncode", desc := "(C)Z", sig := { parameters := [.char], returnType := some .boolean }, accessFlags := 9, code := some k11c1 }
def k11c2 : Code := { maxStack := 3, maxLocals := 3, code := jdk_43_method_13_code, exceptionTable := #[], attributes := #[] }
def k11m2 : Method := { name := "equals", desc := "([B[B)Z", sig := { parameters := [(.array .byte), (.array .byte)], returnType := some .boolean }, accessFlags := 9, code := some k11c2 }
def k11c3 : Code := { maxStack := 4, maxLocals := 1, code := jdk_43_method_46_code, exceptionTable := #[], attributes := #[] }
def k11m3 : Method := { name := "toBytes", desc := "(C)[B", sig := { parameters := [.char], returnType := some (.array .byte) }, accessFlags := 9, code := some k11c3 }
/-- java/lang/StringLatin1 -/
def k11 : Class := { plain "java/lang/StringLatin1" (some 0) with
  accessFlags := 48
  interfaces := #[]
  cf := some (fileOf pool11 14 #[.nestMembers #[390, 221]] #[{ accessFlags := 0, nameIndex := 7, descriptorIndex := 8, attributes := #[] }, { accessFlags := 9, nameIndex := 90, descriptorIndex := 105, attributes := #[] }, { accessFlags := 9, nameIndex := 281, descriptorIndex := 282, attributes := #[] }, { accessFlags := 9, nameIndex := 380, descriptorIndex := 382, attributes := #[] }] 48 4 #[] #[{ accessFlags := 4120, nameIndex := 121, descriptorIndex := 122, attributes := #[] }])
  fields := #[{ name := "$assertionsDisabled", type := .boolean, accessFlags := 4120, slot := 0, constantValue := 0 }]
  methods := #[k11m0, k11m1, k11m2, k11m3]
  instanceTypes := #[]
  staticTypes := #[.boolean]
  resolved := Array.replicate 395 none
  statics := none }

def pool12 : Array CpInfo := pool [(2, .class_ 4), (1, u "java/lang/Object"), (0, u "<init>"), (0, u "()V"), (17, .class_ 26), (1, u "jdk/internal/util/Preconditions"), (28, .class_ 56), (0, u "jdk/internal/util/Preconditions$4"), (57, .class_ 115), (0, u "jdk/internal/util/Preconditions$1"), (7, u "SIOOBE_FORMATTER"), (0, u "Ljava/util/function/BiFunction;"), (0, .class_ 126), (0, u "jdk/internal/util/Preconditions$2"), (3, u "AIOOBE_FORMATTER"), (0, .class_ 132), (0, u "jdk/internal/util/Preconditions$3"), (3, u "IOOBE_FORMATTER")] 57

def k12m0 : Method := { name := "<init>", desc := "()V", sig := { parameters := [], returnType := none }, accessFlags := 1, code := none }
/-- jdk/internal/util/Preconditions -/
def k12 : Class := { plain "jdk/internal/util/Preconditions" (some 0) with
  accessFlags := 33
  interfaces := #[]
  cf := some (fileOf pool12 24 #[.nestMembers #[55, 131, 125, 114]] #[{ accessFlags := 1, nameIndex := 5, descriptorIndex := 6, attributes := #[] }] 33 2 #[] #[{ accessFlags := 25, nameIndex := 123, descriptorIndex := 124, attributes := #[] }, { accessFlags := 25, nameIndex := 130, descriptorIndex := 124, attributes := #[] }, { accessFlags := 25, nameIndex := 136, descriptorIndex := 124, attributes := #[] }])
  fields := #[{ name := "SIOOBE_FORMATTER", type := (.object "java/util/function/BiFunction"), accessFlags := 25, slot := 0, constantValue := 0 }, { name := "AIOOBE_FORMATTER", type := (.object "java/util/function/BiFunction"), accessFlags := 25, slot := 1, constantValue := 0 }, { name := "IOOBE_FORMATTER", type := (.object "java/util/function/BiFunction"), accessFlags := 25, slot := 2, constantValue := 0 }]
  methods := #[k12m0]
  instanceTypes := #[]
  staticTypes := #[(.object "java/util/function/BiFunction"), (.object "java/util/function/BiFunction"), (.object "java/util/function/BiFunction")]
  resolved := Array.replicate 194 none
  statics := some 1 }

def pool13 : Array CpInfo := pool [(9, u "<init>"), (6, .class_ 18), (1, u "java/lang/Object"), (0, u "()V"), (1, .class_ 23), (1, u "jdk/internal/util/ArraysSupport"), (0, u "LOG2_ARRAY_LONG_INDEX_SCALE"), (0, u "I"), (2, u "U"), (0, u "Ljdk/internal/misc/Unsafe;"), (8, u "BIG_ENDIAN"), (0, u "Z"), (8, u "LOG2_BYTE_BIT_SIZE"), (4, u "LOG2_ARRAY_INT_INDEX_SCALE"), (54, u "JLA"), (0, u "Ljdk/internal/access/JavaLangAccess;"), (11, u "LOG2_ARRAY_BOOLEAN_INDEX_SCALE"), (9, u "LOG2_ARRAY_BYTE_INDEX_SCALE"), (5, u "LOG2_ARRAY_CHAR_INDEX_SCALE"), (5, u "LOG2_ARRAY_SHORT_INDEX_SCALE"), (18, u "LOG2_ARRAY_FLOAT_INDEX_SCALE"), (24, u "LOG2_ARRAY_DOUBLE_INDEX_SCALE"), (89, u "T_BOOLEAN"), (2, u "T_CHAR"), (1, u "T_FLOAT"), (1, u "T_DOUBLE"), (1, u "T_BYTE"), (1, u "T_SHORT"), (1, u "T_INT"), (1, u "T_LONG"), (1, u "SOFT_MAX_ARRAY_LENGTH")] 83

def k13m0 : Method := { name := "<init>", desc := "()V", sig := { parameters := [], returnType := none }, accessFlags := 2, code := none }
/-- jdk/internal/util/ArraysSupport -/
def k13 : Class := { plain "jdk/internal/util/ArraysSupport" (some 0) with
  accessFlags := 33
  interfaces := #[]
  cf := some (fileOf pool13 21 #[] #[{ accessFlags := 2, nameIndex := 9, descriptorIndex := 19, attributes := #[] }] 33 16 #[] #[{ accessFlags := 24, nameIndex := 28, descriptorIndex := 29, attributes := #[] }, { accessFlags := 26, nameIndex := 38, descriptorIndex := 39, attributes := #[] }, { accessFlags := 25, nameIndex := 121, descriptorIndex := 25, attributes := #[] }, { accessFlags := 25, nameIndex := 131, descriptorIndex := 25, attributes := #[] }, { accessFlags := 25, nameIndex := 137, descriptorIndex := 25, attributes := #[] }, { accessFlags := 25, nameIndex := 143, descriptorIndex := 25, attributes := #[] }, { accessFlags := 25, nameIndex := 53, descriptorIndex := 25, attributes := #[] }, { accessFlags := 25, nameIndex := 24, descriptorIndex := 25, attributes := #[] }, { accessFlags := 25, nameIndex := 162, descriptorIndex := 25, attributes := #[] }, { accessFlags := 25, nameIndex := 187, descriptorIndex := 25, attributes := #[] }, { accessFlags := 26, nameIndex := 48, descriptorIndex := 25, attributes := #[] }, { accessFlags := 25, nameIndex := 277, descriptorIndex := 25, attributes := #[] }, { accessFlags := 25, nameIndex := 280, descriptorIndex := 25, attributes := #[] }, { accessFlags := 25, nameIndex := 282, descriptorIndex := 25, attributes := #[] }, { accessFlags := 25, nameIndex := 284, descriptorIndex := 25, attributes := #[] }, { accessFlags := 25, nameIndex := 286, descriptorIndex := 25, attributes := #[] }, { accessFlags := 25, nameIndex := 288, descriptorIndex := 25, attributes := #[] }, { accessFlags := 25, nameIndex := 290, descriptorIndex := 25, attributes := #[] }, { accessFlags := 25, nameIndex := 292, descriptorIndex := 25, attributes := #[] }, { accessFlags := 26, nameIndex := 108, descriptorIndex := 109, attributes := #[] }, { accessFlags := 25, nameIndex := 294, descriptorIndex := 25, attributes := #[] }])
  fields := #[{ name := "U", type := (.object "jdk/internal/misc/Unsafe"), accessFlags := 24, slot := 0, constantValue := 0 }, { name := "BIG_ENDIAN", type := .boolean, accessFlags := 26, slot := 1, constantValue := 0 }, { name := "LOG2_ARRAY_BOOLEAN_INDEX_SCALE", type := .int, accessFlags := 25, slot := 2, constantValue := 0 }, { name := "LOG2_ARRAY_BYTE_INDEX_SCALE", type := .int, accessFlags := 25, slot := 3, constantValue := 0 }, { name := "LOG2_ARRAY_CHAR_INDEX_SCALE", type := .int, accessFlags := 25, slot := 4, constantValue := 0 }, { name := "LOG2_ARRAY_SHORT_INDEX_SCALE", type := .int, accessFlags := 25, slot := 5, constantValue := 0 }, { name := "LOG2_ARRAY_INT_INDEX_SCALE", type := .int, accessFlags := 25, slot := 6, constantValue := 0 }, { name := "LOG2_ARRAY_LONG_INDEX_SCALE", type := .int, accessFlags := 25, slot := 7, constantValue := 0 }, { name := "LOG2_ARRAY_FLOAT_INDEX_SCALE", type := .int, accessFlags := 25, slot := 8, constantValue := 0 }, { name := "LOG2_ARRAY_DOUBLE_INDEX_SCALE", type := .int, accessFlags := 25, slot := 9, constantValue := 0 }, { name := "LOG2_BYTE_BIT_SIZE", type := .int, accessFlags := 26, slot := 10, constantValue := 0 }, { name := "T_BOOLEAN", type := .int, accessFlags := 25, slot := 11, constantValue := 0 }, { name := "T_CHAR", type := .int, accessFlags := 25, slot := 12, constantValue := 0 }, { name := "T_FLOAT", type := .int, accessFlags := 25, slot := 13, constantValue := 0 }, { name := "T_DOUBLE", type := .int, accessFlags := 25, slot := 14, constantValue := 0 }, { name := "T_BYTE", type := .int, accessFlags := 25, slot := 15, constantValue := 0 }, { name := "T_SHORT", type := .int, accessFlags := 25, slot := 16, constantValue := 0 }, { name := "T_INT", type := .int, accessFlags := 25, slot := 17, constantValue := 0 }, { name := "T_LONG", type := .int, accessFlags := 25, slot := 18, constantValue := 0 }, { name := "JLA", type := (.object "jdk/internal/access/JavaLangAccess"), accessFlags := 26, slot := 19, constantValue := 0 }, { name := "SOFT_MAX_ARRAY_LENGTH", type := .int, accessFlags := 25, slot := 20, constantValue := 0 }]
  methods := #[k13m0]
  instanceTypes := #[]
  staticTypes := #[(.object "jdk/internal/misc/Unsafe"), .boolean, .int, .int, .int, .int, .int, .int, .int, .int, .int, .int, .int, .int, .int, .int, .int, .int, .int, (.object "jdk/internal/access/JavaLangAccess"), .int]
  resolved := Array.replicate 378 none
  statics := none }

def pool14 : Array CpInfo := pool [(1, u "java/lang/Cloneable"), (0, .class_ 1), (0, u "java/lang/Object"), (0, .class_ 3)] 3

/-- java/lang/Cloneable -/
def k14 : Class := { plain "java/lang/Cloneable" (some 0) with
  accessFlags := 1537
  interfaces := #[]
  cf := some (fileOf pool14 2 #[] #[] 1537 4 #[] #[])
  fields := #[]
  methods := #[]
  instanceTypes := #[]
  staticTypes := #[]
  resolved := Array.replicate 8 none
  statics := none }

/-- the primitive byte -/
def k15 : Class := { plain "byte" none with kind := .primitive 'B', accessFlags := 0x411 }
/-- [B -/
def k16 : Class := { plain "[B" (some 0) with kind := .array 15 .byte, interfaces := #[14, 2], accessFlags := 1041 }

/-- the primitive char -/
def k17 : Class := { plain "char" none with kind := .primitive 'C', accessFlags := 0x411 }
/-- [C -/
def k18 : Class := { plain "[C" (some 0) with kind := .array 17 .char, interfaces := #[14, 2], accessFlags := 1041 }

/-- the primitive int -/
def k19 : Class := { plain "int" none with kind := .primitive 'I', accessFlags := 0x411 }
/-- [I -/
def k20 : Class := { plain "[I" (some 0) with kind := .array 19 .int, interfaces := #[14, 2], accessFlags := 1041 }

def heap : Heap := #[{ cls := 7, slots := #[.long 0, .int 1, .null, .int 0, .null, .int 0, .int 0], vm := .statics 7 },
  { cls := 12, slots := #[.null, .null, .null], vm := .statics 12 }]
def classes : Array Class := #[k0, k1, k2, k3, k4, k5, k6, k7, k8, k9, k10, k11, k12, k13, k14, k15, k16, k17, k18, k19, k20]
def interned : List (Array UInt16 × Addr) := []
def slotsUsed : Nat := 10
def theMethod : MethodId := ⟨1, 2⟩
def args0 : Array Value := #[.int 5, .int 7, .int 2]
def aboutOver (below : List Frame) : State where
  vm := { classes := classes, interned := interned.toArray }
  heap := heap
  slotsUsed := slotsUsed
  threads := #[{ frames := .invoking theMethod args0 :: below }]
def below0 : List Frame := [.native { method := ⟨0, 0⟩, args := #[] }]
def about1 : State := aboutOver below0
def p0 : Program := .bare "" "" ""
def e0 : Env := launch0.env 0 0 0
theorem w_frames : about1.frames = Frame.invoking theMethod args0 :: below0 := rfl
set_option maxRecDepth 65536 in
theorem w_args : argsFit about1.vm theMethod args0 = true := by decide +kernel
set_option maxRecDepth 65536 in
theorem w_heap : heapFits about1 = true := by decide +kernel
set_option maxRecDepth 65536 in
theorem w_runnable : about1.curStatus? = some .runnable := by decide +kernel
set_option maxRecDepth 65536 in
theorem w_alone : about1.alone = true := by decide +kernel
set_option maxRecDepth 65536 in
theorem w_named : about1.methodNamed? x = some theMethod := by decide +kernel
set_option maxRecDepth 65536 in
theorem w_hears : about1.hears theMethod below0 = true := by decide +kernel
set_option maxRecDepth 65536 in
theorem w_ripe : about1.ripe theMethod args0 below0 = true := by decide +kernel
theorem w_running : about1.status = .running := rfl
set_option maxRecDepth 65536 in
theorem w_room : about1.hasRoom e0.platform room_1 = true :=
  launch0.hasRoom_least _ room_1 (by decide +kernel) (by decide +kernel) (by decide +kernel) (by decide +kernel) (by decide +kernel) (by decide +kernel)
theorem allAtoms_all (ts : List Jvm.Cond) (a : Array Jvm.Value) (st : Jvm.State) : (allAtoms ts).before a st = ts.all (fun c => c.before a st) := by
  induction ts with
  | nil => rfl
  | cons c t ih =>
    show (Jvm.Cond.and c (allAtoms t)).before a st = _
    rw [Jvm.Cond.before_and, ih, List.all_cons]
def words1 : List Jvm.Cond := Jvm.Cond.code x code maxLocals ret :: tables_1
/-- a 'code' word, met by the world's own term for the bytes: nothing is compared byte by byte -/
theorem code_word {y : MethodName} {bytes : ByteArray} {mx : Nat} {rt : Option FieldType} {a : Array Value} {s : State} {m : MethodId} {meth : Method} {c : Code} (h1 : s.methodNamed? y = some m) (h2 : s.vm.method? m = some meth) (h3 : meth.code = some c) (h4 : c.code = bytes)
    (h5 : (c.maxLocals == mx && c.exceptionTable.isEmpty && decide (c.maxStack ≤ mostOperands) && decide (meth.sig.returnType = rt) && !meth.locks && decide (parseMethodDescriptor y.desc = some meth.sig)) = true) : (Jvm.Cond.code y bytes mx rt).before a s = true := by
  simp only [Bool.and_eq_true, beq_iff_eq, Bool.not_eq_true', decide_eq_true_eq] at h5
  obtain ⟨⟨⟨⟨⟨g1, g2⟩, g3⟩, g4⟩, g5⟩, g6⟩ := h5
  simp [Cond.before, Cond.holds, Cond.value, h1, h2, h3, h4, g1, g2, g3, g4, g5, g6]
def isCode : Jvm.Cond → Bool
  | .code _ _ _ _ => true
  | _ => false
theorem all_split {L : List Jvm.Cond} {P : Jvm.Cond → Bool} (h1 : L.all (fun c => isCode c || P c) = true) (h2 : ∀ c ∈ L.filter isCode, P c = true) : L.all P = true := by
  refine List.all_eq_true.mpr fun c hc => ?_
  have h := List.all_eq_true.mp h1 c hc
  rcases Bool.eq_false_or_eq_true (isCode c) with hi | hi
  · exact h2 c (List.mem_filter.mpr ⟨hc, hi⟩)
  · simpa [hi] using h
set_option maxRecDepth 65536 in
theorem w_c0 : (Jvm.Cond.code x code maxLocals ret).before args0 about1 = true := code_word (m := ⟨1, 2⟩) (meth := k1m2) (c := k1c2) (by decide +kernel) rfl rfl rfl (by decide +kernel)
set_option maxRecDepth 65536 in
theorem w_c1 : (Jvm.Cond.code ({ cls := "com/example/sillon/sillon/transport/PartsMainIsMessagePinLaw", name := "make", desc := "(ICC)Ljava/lang/String;" } : Jvm.MethodName) method_2_code (3 : Nat) (Option.some (Jvm.ClassFile.FieldType.object "java/lang/String"))).before args0 about1 = true := code_word (m := ⟨1, 1⟩) (meth := k1m1) (c := k1c1) (by decide +kernel) rfl rfl rfl (by decide +kernel)
set_option maxRecDepth 65536 in
theorem w_c2 : (Jvm.Cond.code ({ cls := "java/lang/String", name := "<init>", desc := "([C)V" } : Jvm.MethodName) jdk_42_method_3_code (2 : Nat) (Option.none : Option Jvm.ClassFile.FieldType)).before args0 about1 = true := code_word (m := ⟨7, 1⟩) (meth := k7m1) (c := k7c1) (by decide +kernel) rfl rfl rfl (by decide +kernel)
set_option maxRecDepth 65536 in
theorem w_c3 : (Jvm.Cond.code ({ cls := "java/lang/String", name := "<init>", desc := "([CIILjava/lang/Void;)V" } : Jvm.MethodName) jdk_42_method_149_code (6 : Nat) (Option.none : Option Jvm.ClassFile.FieldType)).before args0 about1 = true := code_word (m := ⟨7, 4⟩) (meth := k7m4) (c := k7c4) (by decide +kernel) rfl rfl rfl (by decide +kernel)
set_option maxRecDepth 65536 in
theorem w_c4 : (Jvm.Cond.code ({ cls := "java/lang/Object", name := "<init>", desc := "()V" } : Jvm.MethodName) object_method_1_code (1 : Nat) (Option.none : Option Jvm.ClassFile.FieldType)).before args0 about1 = true := code_word (m := ⟨0, 0⟩) (meth := k0m0) (c := k0c0) (by decide +kernel) rfl rfl rfl (by decide +kernel)
set_option maxRecDepth 65536 in
theorem w_c5 : (Jvm.Cond.code ({ cls := "java/lang/StringUTF16", name := "compress", desc := "([CII)[B" } : Jvm.MethodName) jdk_52_method_16_code (6 : Nat) (Option.some (Jvm.ClassFile.FieldType.array Jvm.ClassFile.FieldType.byte))).before args0 about1 = true := code_word (m := ⟨8, 2⟩) (meth := k8m2) (c := k8c2) (by decide +kernel) rfl rfl rfl (by decide +kernel)
set_option maxRecDepth 65536 in
theorem w_c6 : (Jvm.Cond.code ({ cls := "java/lang/StringUTF16", name := "compress", desc := "([CI[BII)I" } : Jvm.MethodName) jdk_52_method_21_code (7 : Nat) (Option.some Jvm.ClassFile.FieldType.int)).before args0 about1 = true := code_word (m := ⟨8, 3⟩) (meth := k8m3) (c := k8c3) (by decide +kernel) rfl rfl rfl (by decide +kernel)
set_option maxRecDepth 65536 in
theorem w_c7 : (Jvm.Cond.code ({ cls := "java/lang/StringUTF16", name := "coderFromArrayLen", desc := "([BI)B" } : Jvm.MethodName) jdk_52_method_15_code (2 : Nat) (Option.some Jvm.ClassFile.FieldType.byte)).before args0 about1 = true := code_word (m := ⟨8, 1⟩) (meth := k8m1) (c := k8c1) (by decide +kernel) rfl rfl rfl (by decide +kernel)
set_option maxRecDepth 65536 in
theorem w_c8 : (Jvm.Cond.code ({ cls := "com/example/sillon/sillon/transport/SoapOperation$Parts", name := "<init>", desc := "(Ljava/lang/String;Ljava/lang/String;Ljava/lang/String;Ljava/lang/String;Ljava/lang/String;)V" } : Jvm.MethodName) prog_40_method_1_code (6 : Nat) (Option.none : Option Jvm.ClassFile.FieldType)).before args0 about1 = true := code_word (m := ⟨10, 0⟩) (meth := k10m0) (c := k10c0) (by decide +kernel) rfl rfl rfl (by decide +kernel)
set_option maxRecDepth 65536 in
theorem w_c9 : (Jvm.Cond.code ({ cls := "java/lang/Record", name := "<init>", desc := "()V" } : Jvm.MethodName) jdk_30_method_1_code (1 : Nat) (Option.none : Option Jvm.ClassFile.FieldType)).before args0 about1 = true := code_word (m := ⟨9, 0⟩) (meth := k9m0) (c := k9c0) (by decide +kernel) rfl rfl rfl (by decide +kernel)
set_option maxRecDepth 65536 in
theorem w_c10 : (Jvm.Cond.code ({ cls := "com/example/sillon/sillon/transport/SoapOperation$Parts", name := "mainIsMessage", desc := "()Z" } : Jvm.MethodName) prog_40_method_2_code (1 : Nat) (Option.some Jvm.ClassFile.FieldType.boolean)).before args0 about1 = true := code_word (m := ⟨10, 1⟩) (meth := k10m1) (c := k10c1) (by decide +kernel) rfl rfl rfl (by decide +kernel)
set_option maxRecDepth 65536 in
theorem w_c11 : (Jvm.Cond.code ({ cls := "java/lang/String", name := "equals", desc := "(Ljava/lang/Object;)Z" } : Jvm.MethodName) jdk_42_method_66_code (3 : Nat) (Option.some Jvm.ClassFile.FieldType.boolean)).before args0 about1 = true := code_word (m := ⟨7, 2⟩) (meth := k7m2) (c := k7c2) (by decide +kernel) rfl rfl rfl (by decide +kernel)
set_option maxRecDepth 65536 in
theorem w_c12 : (Jvm.Cond.code ({ cls := "java/lang/StringLatin1", name := "equals", desc := "([B[B)Z" } : Jvm.MethodName) jdk_43_method_13_code (3 : Nat) (Option.some Jvm.ClassFile.FieldType.boolean)).before args0 about1 = true := code_word (m := ⟨11, 2⟩) (meth := k11m2) (c := k11c2) (by decide +kernel) rfl rfl rfl (by decide +kernel)
set_option maxRecDepth 65536 in
theorem w_c13 : (Jvm.Cond.code ({ cls := "java/lang/String", name := "valueOf", desc := "(C)Ljava/lang/String;" } : Jvm.MethodName) jdk_42_method_139_code (1 : Nat) (Option.some (Jvm.ClassFile.FieldType.object "java/lang/String"))).before args0 about1 = true := code_word (m := ⟨7, 3⟩) (meth := k7m3) (c := k7c3) (by decide +kernel) rfl rfl rfl (by decide +kernel)
set_option maxRecDepth 65536 in
theorem w_c14 : (Jvm.Cond.code ({ cls := "java/lang/StringLatin1", name := "canEncode", desc := "(C)Z" } : Jvm.MethodName) jdk_43_method_3_code (1 : Nat) (Option.some Jvm.ClassFile.FieldType.boolean)).before args0 about1 = true := code_word (m := ⟨11, 1⟩) (meth := k11m1) (c := k11c1) (by decide +kernel) rfl rfl rfl (by decide +kernel)
set_option maxRecDepth 65536 in
theorem w_c15 : (Jvm.Cond.code ({ cls := "java/lang/StringLatin1", name := "toBytes", desc := "(C)[B" } : Jvm.MethodName) jdk_43_method_46_code (1 : Nat) (Option.some (Jvm.ClassFile.FieldType.array Jvm.ClassFile.FieldType.byte))).before args0 about1 = true := code_word (m := ⟨11, 3⟩) (meth := k11m3) (c := k11c3) (by decide +kernel) rfl rfl rfl (by decide +kernel)
set_option maxRecDepth 65536 in
theorem w_c16 : (Jvm.Cond.code ({ cls := "java/lang/String", name := "<init>", desc := "([BB)V" } : Jvm.MethodName) jdk_42_method_151_code (3 : Nat) (Option.none : Option Jvm.ClassFile.FieldType)).before args0 about1 = true := code_word (m := ⟨7, 5⟩) (meth := k7m5) (c := k7c5) (by decide +kernel) rfl rfl rfl (by decide +kernel)
def codes1 : List Jvm.Cond := [Jvm.Cond.code x code maxLocals ret, Jvm.Cond.code ({ cls := "com/example/sillon/sillon/transport/PartsMainIsMessagePinLaw", name := "make", desc := "(ICC)Ljava/lang/String;" } : Jvm.MethodName) method_2_code (3 : Nat) (Option.some (Jvm.ClassFile.FieldType.object "java/lang/String")), Jvm.Cond.code ({ cls := "java/lang/String", name := "<init>", desc := "([C)V" } : Jvm.MethodName) jdk_42_method_3_code (2 : Nat) (Option.none : Option Jvm.ClassFile.FieldType), Jvm.Cond.code ({ cls := "java/lang/String", name := "<init>", desc := "([CIILjava/lang/Void;)V" } : Jvm.MethodName) jdk_42_method_149_code (6 : Nat) (Option.none : Option Jvm.ClassFile.FieldType), Jvm.Cond.code ({ cls := "java/lang/Object", name := "<init>", desc := "()V" } : Jvm.MethodName) object_method_1_code (1 : Nat) (Option.none : Option Jvm.ClassFile.FieldType), Jvm.Cond.code ({ cls := "java/lang/StringUTF16", name := "compress", desc := "([CII)[B" } : Jvm.MethodName) jdk_52_method_16_code (6 : Nat) (Option.some (Jvm.ClassFile.FieldType.array Jvm.ClassFile.FieldType.byte)), Jvm.Cond.code ({ cls := "java/lang/StringUTF16", name := "compress", desc := "([CI[BII)I" } : Jvm.MethodName) jdk_52_method_21_code (7 : Nat) (Option.some Jvm.ClassFile.FieldType.int), Jvm.Cond.code ({ cls := "java/lang/StringUTF16", name := "coderFromArrayLen", desc := "([BI)B" } : Jvm.MethodName) jdk_52_method_15_code (2 : Nat) (Option.some Jvm.ClassFile.FieldType.byte), Jvm.Cond.code ({ cls := "com/example/sillon/sillon/transport/SoapOperation$Parts", name := "<init>", desc := "(Ljava/lang/String;Ljava/lang/String;Ljava/lang/String;Ljava/lang/String;Ljava/lang/String;)V" } : Jvm.MethodName) prog_40_method_1_code (6 : Nat) (Option.none : Option Jvm.ClassFile.FieldType), Jvm.Cond.code ({ cls := "java/lang/Record", name := "<init>", desc := "()V" } : Jvm.MethodName) jdk_30_method_1_code (1 : Nat) (Option.none : Option Jvm.ClassFile.FieldType), Jvm.Cond.code ({ cls := "com/example/sillon/sillon/transport/SoapOperation$Parts", name := "mainIsMessage", desc := "()Z" } : Jvm.MethodName) prog_40_method_2_code (1 : Nat) (Option.some Jvm.ClassFile.FieldType.boolean), Jvm.Cond.code ({ cls := "java/lang/String", name := "equals", desc := "(Ljava/lang/Object;)Z" } : Jvm.MethodName) jdk_42_method_66_code (3 : Nat) (Option.some Jvm.ClassFile.FieldType.boolean), Jvm.Cond.code ({ cls := "java/lang/StringLatin1", name := "equals", desc := "([B[B)Z" } : Jvm.MethodName) jdk_43_method_13_code (3 : Nat) (Option.some Jvm.ClassFile.FieldType.boolean), Jvm.Cond.code ({ cls := "java/lang/String", name := "valueOf", desc := "(C)Ljava/lang/String;" } : Jvm.MethodName) jdk_42_method_139_code (1 : Nat) (Option.some (Jvm.ClassFile.FieldType.object "java/lang/String")), Jvm.Cond.code ({ cls := "java/lang/StringLatin1", name := "canEncode", desc := "(C)Z" } : Jvm.MethodName) jdk_43_method_3_code (1 : Nat) (Option.some Jvm.ClassFile.FieldType.boolean), Jvm.Cond.code ({ cls := "java/lang/StringLatin1", name := "toBytes", desc := "(C)[B" } : Jvm.MethodName) jdk_43_method_46_code (1 : Nat) (Option.some (Jvm.ClassFile.FieldType.array Jvm.ClassFile.FieldType.byte)), Jvm.Cond.code ({ cls := "java/lang/String", name := "<init>", desc := "([BB)V" } : Jvm.MethodName) jdk_42_method_151_code (3 : Nat) (Option.none : Option Jvm.ClassFile.FieldType)]
set_option maxRecDepth 65536 in
theorem codes_eq : words1.filter isCode = codes1 := rfl
theorem w_codes : ∀ c ∈ words1.filter isCode, c.before args0 about1 = true := by
  rw [codes_eq]
  intro c hc
  simp only [codes1, List.mem_cons, List.not_mem_nil, or_false] at hc
  rcases hc with rfl | rfl | rfl | rfl | rfl | rfl | rfl | rfl | rfl | rfl | rfl | rfl | rfl | rfl | rfl | rfl | rfl
  · exact w_c0
  · exact w_c1
  · exact w_c2
  · exact w_c3
  · exact w_c4
  · exact w_c5
  · exact w_c6
  · exact w_c7
  · exact w_c8
  · exact w_c9
  · exact w_c10
  · exact w_c11
  · exact w_c12
  · exact w_c13
  · exact w_c14
  · exact w_c15
  · exact w_c16
set_option maxRecDepth 65536 in
theorem w_t1 : (words1.take 24).all (fun c => isCode c || c.before args0 about1) = true := by decide +kernel
set_option maxRecDepth 65536 in
theorem w_t2 : ((words1.drop 24).take 24).all (fun c => isCode c || c.before args0 about1) = true := by decide +kernel
set_option maxRecDepth 65536 in
theorem w_t3 : (((words1.drop 24).drop 24).take 24).all (fun c => isCode c || c.before args0 about1) = true := by decide +kernel
set_option maxRecDepth 65536 in
theorem w_t4 : (((words1.drop 24).drop 24).drop 24).all (fun c => isCode c || c.before args0 about1) = true := by decide +kernel
theorem w_tables : (allAtoms (Jvm.Cond.code x code maxLocals ret :: tables_1)).before args0 about1 = true := by
  rw [allAtoms_all]
  show words1.all (fun c => c.before args0 about1) = true
  refine all_split ?_ w_codes
  rw [← List.take_append_drop 24 words1, List.all_append, w_t1, ← List.take_append_drop 24 (words1.drop 24), List.all_append, w_t2, ← List.take_append_drop 24 ((words1.drop 24).drop 24), List.all_append, w_t3, w_t4]
  rfl
set_option maxRecDepth 65536 in
theorem w_rest : rest_1_c.before args0 about1 = true := by decide +kernel
set_option maxRecDepth 65536 in
theorem w_case : (Jvm.Cond.and given_1 narrow_1).before args0 about1 = true := by decide +kernel
set_option maxRecDepth 65536 in
theorem w_consts : constsHeld consts_1 about1 := Jvm.Lit.constsHeldB_iff.mp (by decide +kernel)
theorem w_applies : (headSpec (Jvm.Cond.code x code maxLocals ret :: tables_1) room_1).applies x e0.platform about1 = true :=
  (Spec.applies_iff w_frames).mpr ⟨w_running, w_runnable, w_alone, w_named, w_hears, w_ripe, w_room, w_tables⟩
theorem atStart : AtStart classFile x code maxLocals ret World_1 tables_1 room_1 Calls_1 rest_1 Pre_1 launch0 p0 e0 about1 theMethod args0 below0 :=
  ⟨lists_1, trivial, launch0.admits_env _ _ _, launch0.least_env, fairChoices_fair.cas, fairChoices_fair.clock, w_frames, w_args, w_heap, w_applies, ⟨w_consts, trivial⟩, w_rest, w_case⟩
end start1
theorem witness_1 : WitnessClaimed_1 := ⟨start1.p0, start1.e0, start1.about1, start1.theMethod, start1.args0, start1.below0, start1.atStart⟩
end Jvm.Pilot.@@N@@
