import JvmDerived
import JvmDerived.Pilot.@@N@@Statement
import JvmDerived.Pilot.@@N@@Code
set_option linter.unusedVariables false
set_option linter.unusedSimpArgs false
namespace Jvm.RoadKit
open Sem ClassFile Op Lib Jvm.Stand Jvm.Free Jvm.LawKit
section Own
variable {tb : Tables} {e : Env} {below : List Frame} {Q : Outcome → State → Prop} {A B : State}
def Goes (tb : Tables) (e : Env) (below : List Frame) (Q : Outcome → State → Prop) (A : State) : Prop := ∃ s₂ o, Steps tb e below A s₂ ∧ s₂.status = .running ∧ Ended s₂ below o ∧ Q o s₂
theorem Goes.st (st : ∀ t, Steps tb e below A t → Steps tb e below B t) (k : Goes tb e below Q A) : Goes tb e below Q B := by
  obtain ⟨s, o, h1, h2⟩ := k
  exact ⟨s, o, st s h1, h2⟩
theorem Goes.tr (st : Steps tb e below B A) (k : Goes tb e below Q A) : Goes tb e below Q B := by
  obtain ⟨s, o, h1, h2⟩ := k
  exact ⟨s, o, st.trans h1, h2⟩
theorem Goes.named (k : ∀ Q', Q' = Q → Goes tb e below Q' A) : Goes tb e below Q A := k Q rfl
theorem own_narb (c : Int32) : nar .byte (c.toInt8.toInt32) = c.toInt8.toInt32 := by simp [nar]
theorem own_fitsb (c : Int32) : fits .byte (.int c.toInt8.toInt32) = true := own_narb c ▸ fits_nar_byte _
theorem own_narZ {z : Int32} (h : z = 0 ∨ z = 1) : nar .boolean z = z := by rcases h with rfl | rfl <;> rfl
theorem own_narwZ {z : Int32} (h : z = 0 ∨ z = 1) : narrow .boolean (.int z) = .int z := by rcases h with rfl | rfl <;> rfl
theorem own_fitsZ {z : Int32} (h : z = 0 ∨ z = 1) : fits .boolean (.int z) = true := by rcases h with rfl | rfl <;> rfl
theorem own_cat {v : Value} (h : v.isRef = true) : v.category = 1 := by cases v <;> first | rfl | (simp [Value.isRef] at h)
theorem own_fitsR {v : Value} {t : FieldType} (h : v.isRef = true) (ht : t.isReference = true) : fits t v = true := by cases v <;> cases t <;> simp_all [Value.isRef, fits, FieldType.isReference]
theorem own_narR {v : Value} {t : FieldType} (h : v.isRef = true) : narrow t v = v := by cases v <;> cases t <;> first | rfl | (simp [Value.isRef] at h)
end Own
section New
variable {p : Program} {l : Launch} {e : Env} {R : Room} {s : State} {m : MethodId} {args : Array Value} {below : List Frame} {meth : Method} {c : Code} {T : State} {locs : List Loc} {cells slots : Nat}
theorem retI (X : Stand p l e R s m args below meth c T locs cells slots) (hx : p.tables.exec = Jvm.exec) {pc : Nat} {Ls : Array Slot} {z : Int32} {rest : List Value} (hret : meth.sig.returnType = some .int) (hd : decode c.code pc = .ok (.ireturn, 1)) {fs : List Frame}
    (hl : ∀ (f : JFrame) (acts : List Action), f.method = m → f.locked = none → f.entered = [] → (doReturn e (T.setTop f) acts (some (.int z))).1 = T.setFrames fs) : Steps p.tables e below (T.setTop (mkF m pc Ls (.int z :: rest))) (T.setFrames fs) :=
  retOut X hx (w := .int z) hret rfl (Or.inl ⟨rfl, Or.inl rfl, _, rfl⟩) hd hl
theorem retJ (X : Stand p l e R s m args below meth c T locs cells slots) (hx : p.tables.exec = Jvm.exec) {pc : Nat} {Ls : Array Slot} {z : Int64} {rest : List Value} (hret : meth.sig.returnType = some .long) (hd : decode c.code pc = .ok (.lreturn, 1)) {fs : List Frame}
    (hl : ∀ (f : JFrame) (acts : List Action), f.method = m → f.locked = none → f.entered = [] → (doReturn e (T.setTop f) acts (some (.long z))).1 = T.setFrames fs) : Steps p.tables e below (T.setTop (mkF m pc Ls (.long z :: rest))) (T.setFrames fs) :=
  retOut X hx (w := .long z) hret rfl (Or.inr (Or.inl ⟨rfl, rfl, _, rfl⟩)) hd hl
theorem retR (X : Stand p l e R s m args below meth c T locs cells slots) (hx : p.tables.exec = Jvm.exec) {pc : Nat} {Ls : Array Slot} {w : Value} {t : FieldType} {rest : List Value} (hret : meth.sig.returnType = some t) (ht : t.isReference = true) (hw : w.isRef = true) (hd : decode c.code pc = .ok (.areturn, 1)) {fs : List Frame}
    (hl : ∀ (f : JFrame) (acts : List Action), f.method = m → f.locked = none → f.entered = [] → (doReturn e (T.setTop f) acts (some w)).1 = T.setFrames fs) : Steps p.tables e below (T.setTop (mkF m pc Ls (w :: rest))) (T.setFrames fs) :=
  retOut X hx (w := w) hret (own_narR hw) (Or.inr (Or.inr (Or.inr (Or.inr ⟨rfl, ht, hw⟩)))) hd hl
end New
end Jvm.RoadKit
namespace Jvm.RoadKit
open Sem ClassFile Op Lib Jvm.Stand Jvm.Free Jvm.LawKit
section OwnW
variable {p : Program} {l : Launch} {e : Env} {R : Room} {s : State} {args : Array Value} {below : List Frame} {Z : State} {a0 : Array Value} {h : Heap} {vm0 : Vm} {EL : List (String × Nat)}
theorem own_REmono {s t : State} {o : Outcome} {L : List Loc} {k n k' n' : Nat} (h : ReturnedEndW s o t L k n) (hk : k ≤ k') (hn : n ≤ n') : ReturnedEndW s o t L k' n' := ⟨h.1, h.2.1, h.2.2.1, h.2.2.2.mono hk hn⟩
/-- a callee that may intern, and is told of some addresses that no constant's String lies there -/
theorem own_backW {y : MethodName} {bytes : ByteArray} {maxL : Nat} {ret : Option FieldType} {rm : Room} {len W : Nat} {as' : Array Value} {Q : Option Value → Heap → List Loc → Prop} {xs : List Addr}
    (hM : MetFree l y (head1 [Cond.code y bytes maxL ret] rm) (fun a U => a = as' ∧ Z.Warmed39 U.vm ∧ U.heap = h ∧ CHv Z EL U.vm h ∧ ∀ x ∈ xs, Safe Z EL U.vm h x) (fun _ _ _ _ _ => True) (fun _ U o U' => ∃ v L, o = .returned v ∧ Q v U'.heap L ∧ CHr Z EL U.vm U.heap U'.vm U'.heap ∧ ReturnedEndW U o U' L rm.cells rm.slots))
    (hZ : Z.Warmed39 vm0) (wc : (Cond.code y bytes maxL ret).before a0 Z = true) (wz : (Cond.initialized y.cls).before a0 Z = true) (hf : rm.frames + 1 ≤ R.frames) (hl : W + (maxL + 11) + rm.locals ≤ R.locals) (hEL : EW Z a0 EL) (H : CHv Z EL vm0 h) (hxs : ∀ x ∈ xs, x < h.size ∧ Safe Z EL vm0 h x) :
    BackS l R p e below (s.setVm vm0) args y len W (fun A a => a = as' ∧ A.U.heap = h ∧ A.cells + rm.cells ≤ R.cells ∧ A.slots + rm.slots ≤ R.slots)
      (fun A _ v B => ∃ L, Q v B.U.heap L ∧ B.locs = A.locs ++ L ∧ B.cells = A.cells + rm.cells ∧ B.slots = A.slots + rm.slots ∧ CHr Z EL vm0 h B.U.vm B.U.heap) := by
  refine BackS.of_freeW (bytes := bytes) (maxL := maxL) (ret := ret) (E := fun _ first o t L k n => k = rm.cells ∧ n = rm.slots ∧ (∃ v, o = .returned v ∧ Q v t.heap L) ∧ CHr Z EL first.vm first.heap t.vm t.heap) hM hf hl ?_ ?_ ?_ ?_ ?_
  · intro m meth c A a Y hp
    have hU : Z.Warmed39 A.U.vm := wtrans (s := s.setVm vm0) hZ Y.warmed
    refine ⟨?_, mv hU wc, mv hU wz, hp.2.2.1, hp.2.2.2⟩
    show (Cond.and _ .tt).before a A.U = true
    rw [Cond.before_and, mv hU wc]; rfl
  · intro m meth c A a g mk Y hp
    have C := CHv.at Y hZ hEL H
    exact ⟨hp.1, wtrans (s := s.setVm vm0) hZ Y.warmed, hp.2.1, C.1, fun x hx => C.safe (hxs x hx).1 (hxs x hx).2⟩
  · intros; trivial
  · rintro _ _ _ _ ⟨v, L, h1, h2, h3, h4⟩
    exact ⟨L, _, _, h4, rfl, rfl, ⟨v, h1, h2⟩, h3⟩
  · rintro m meth c A a g mk v t L k n Y hp _ _ ⟨e1, e2, ⟨v', e3, e4⟩, e5⟩
    cases e3
    subst e1 e2
    refine ⟨L, e4, rfl, rfl, rfl, (CHv.at Y hZ hEL H).trans ?_⟩
    rw [← hp.2.1]
    exact e5
end OwnW
end Jvm.RoadKit
namespace Jvm.Pilot.@@N@@
open Jvm Jvm.ClassFile Sem Op Lib Jvm.Free Jvm.Stand Jvm.LawKit Jvm.RoadKit Bundle Jvm.Pilot.@@N@@.Jvm.D
def EL : List (String × Nat) := consts_1
theorem own_wS {Z : State} {a0 : Array Value} (hw : ∀ d ∈ tables_1, d.before a0 Z = true) : ∀ d ∈ Bundle.stringAtoms, d.before a0 Z = true := fun d hd => hw d ((by decide +kernel : ∀ d ∈ Bundle.stringAtoms, d ∈ tables_1) d hd)
end Jvm.Pilot.@@N@@
/- laws to paste: Road.backV (cut by pick.py; bodies as the Statement names them) -/
namespace Jvm.Pilot.@@N@@
namespace StrChars
open Jvm Sem ClassFile Op Lib Jvm.Stand Jvm.Free.XT Jvm.Free.ALB Jvm.Free.JM Jvm.Free
open Jvm.Lib.Cold (StaticIs)
/-- a char array whose places are chars -/
def Ch (a : Addr) (A : Cell) (U : State) : Prop := Arr .char a A U ∧ Typed .char A
theorem Ch.mv {a : Addr} {A : Cell} {U U' : State} (h : Ch a A U) (hal : U.vm.Alike U'.vm) (hh : U'.heap = U.heap) : Ch a A U' := ⟨h.1.mv hal hh, h.2⟩
theorem Ch.keep {a : Addr} {A : Cell} {U U' : State} (h : Ch a A U) (hal : U.vm.Alike U'.vm) (hk : U'.heap[a]? = some A) : Ch a A U' := ⟨h.1.keep hal hk, h.2⟩
/-- what place i of a char[]'s cell holds -/
def cv (A : Cell) (i : Nat) : Int32 := match A.slots[i]? with | some (.int x) => x | _ => 0
theorem Ch.get {a : Addr} {A : Cell} {U : State} (h : Ch a A U) {i : Nat} (hi : i < A.slots.size) : A.slots[i]? = some (.int (cv A i)) := by
  have e := Array.getElem?_eq_getElem hi
  have f := h.2 i _ e
  unfold cv; rw [e]
  generalize A.slots[i] = v at f
  cases v <;> simp [fits] at f ⊢
/-- the byte that i2b leaves of a char -/
def lo8 (x : Int32) : Int32 := x.toInt8.toInt32
theorem fits_lo8 (y : Int32) : fits .byte (.int (lo8 y)) = true := by
  have h1 := y.toInt8.le_toInt
  have h2 := y.toInt8.toInt_lt
  simp only [lo8, fits, Bool.and_eq_true, decide_eq_true_eq, Int32.le_iff_toInt_le, Int8.toInt_toInt32, show (-128 : Int32).toInt = -128 from by decide, show (127 : Int32).toInt = 127 from by decide]
  omega
/-- A' is A but that each place j of lo .. hi - 1 holds f j -/
def Laid (A A' : Cell) (lo hi : Nat) (f : Nat → Value) : Prop := A'.cls = A.cls ∧ A'.vm = A.vm ∧ A'.slots.size = A.slots.size ∧ ∀ i, A'.slots[i]? = if lo ≤ i ∧ i < hi then some (f i) else A.slots[i]?
theorem Laid.zero (A : Cell) (lo : Nat) (f : Nat → Value) : Laid A A lo (lo + 0) f := ⟨rfl, rfl, rfl, fun i => by rw [if_neg (by omega)]⟩
theorem Laid.step {A Ak : Cell} {lo k : Nat} {f : Nat → Value} {v : Value} (h : Laid A Ak lo k f) (hlo : lo ≤ k) (hk : k < Ak.slots.size) (hv : v = f k) : Laid A (Ak.setSlot k v) lo (k + 1) f := by
  refine ⟨h.1, h.2.1, by simpa [Cell.setSlot] using h.2.2.1, fun i => ?_⟩
  by_cases e : k = i
  · subst e; rw [Cell.slots_setSlot_self v hk, if_pos (by omega), hv]
  · rw [Cell.slots_setSlot_ne v e, h.2.2.2 i]
    by_cases q : lo ≤ i ∧ i < k
    · rw [if_pos q, if_pos (by omega)]
    · rw [if_neg q, if_neg (by omega)]
def U16 : String := "java/lang/StringUTF16"
namespace Cmp5
def yN : MethodName := ⟨"java/lang/StringUTF16", "compress", "([CI[BII)I"⟩
abbrev yB : ByteArray := jdk_52_method_21_code
theorem d0 : decode yB 0 = .ok (.iconst 0, 1) := by decide +kernel
theorem d1 : decode yB 1 = .ok (.istore 5, 2) := by decide +kernel
theorem d3 : decode yB 3 = .ok (.iload 5, 2) := by decide +kernel
theorem d5 : decode yB 5 = .ok (.iload 4, 2) := by decide +kernel
theorem d7 : decode yB 7 = .ok (.if_icmp (.ge) 37, 3) := by decide +kernel
theorem d10 : decode yB 10 = .ok (.aload_n 0, 1) := by decide +kernel
theorem d11 : decode yB 11 = .ok (.iload_n 1, 1) := by decide +kernel
theorem d12 : decode yB 12 = .ok (.caload, 1) := by decide +kernel
theorem d13 : decode yB 13 = .ok (.istore 6, 2) := by decide +kernel
theorem d15 : decode yB 15 = .ok (.iload 6, 2) := by decide +kernel
theorem d17 : decode yB 17 = .ok (.sipush 255, 3) := by decide +kernel
theorem d20 : decode yB 20 = .ok (.if_icmp (.le) 6, 3) := by decide +kernel
theorem d26 : decode yB 26 = .ok (.aload_n 2, 1) := by decide +kernel
theorem d27 : decode yB 27 = .ok (.iload_n 3, 1) := by decide +kernel
theorem d28 : decode yB 28 = .ok (.iload 6, 2) := by decide +kernel
theorem d30 : decode yB 30 = .ok (.i2b, 1) := by decide +kernel
theorem d31 : decode yB 31 = .ok (.bastore, 1) := by decide +kernel
theorem d32 : decode yB 32 = .ok (.iinc 1 1, 3) := by decide +kernel
theorem d35 : decode yB 35 = .ok (.iinc 3 1, 3) := by decide +kernel
theorem d38 : decode yB 38 = .ok (.iinc 5 1, 3) := by decide +kernel
theorem d41 : decode yB 41 = .ok (.goto (-38), 3) := by decide +kernel
theorem d44 : decode yB 44 = .ok (.iload 4, 2) := by decide +kernel
theorem d46 : decode yB 46 = .ok (.ireturn, 1) := by decide +kernel
def site : List Cond := []
def tab : Cond := tabOf yN yB 7 (some .int) site
def P (b : Addr) (A : Cell) (d : Addr) (B : Cell) (o q len : Nat) (args : Array Value) (s : State) : Prop := args = #[.ref b, .int (Int32.ofNat o), .ref d, .int (Int32.ofNat q), .int (Int32.ofNat len)] ∧ Ch b A s ∧ Arr .byte d B s ∧ b ≠ d ∧ o + len ≤ A.slots.size ∧ q + len ≤ B.slots.size ∧ ∀ i, i < len → ¬ 255 < cv A (o + i)
def E (b : Addr) (A : Cell) (d : Addr) (B : Cell) (o q len : Nat) (r : Option Value) (s u : State) : Prop := r = some (.int (Int32.ofNat len)) ∧ ∃ B', Put d B' s u ∧ Laid B B' q (q + len) (fun j => Value.int (lo8 (cv A (o + (j - q)))))
/-- no char of the range above 255: len; the places written hold each char's low byte -/
theorem law (l : Launch) (b : Addr) (A : Cell) (d : Addr) (B : Cell) (o q len : Nat) : Law l yN 5 5 0 0 yB 7 (some .int) site (P b A d B o q len) (E b A d B o q len) (copyLocs d q len) 0 0 := by
  refine Law.of_walk (plainFor_of_name (by decide +kernel)) (by decide +kernel) (by decide +kernel) (by decide) (fun _ _ h => by rw [h.1]; rfl) (fun _ U U' hal hh h => ⟨h.1, h.2.1.mv hal hh, h.2.2.1.mv hal hh, h.2.2.2⟩) (fun r U U' V V' h1 hal h2 h => ⟨h.1, h.2.elim fun B' q => ⟨B', q.1.mv h1 h2, q.2⟩⟩) ?_
  intro p e s m args below meth c s₁ X0 hexec hbytes hml hret hlk hnm hown hh0 W hP
  obtain ⟨rfl, hA, hB, hne, l1, l2, hp⟩ := hP
  have c1 : Steps p.tables e below (s₁.setTop (entryFrame m #[.ref b, .int (Int32.ofNat o), .ref d, .int (Int32.ofNat q), .int (Int32.ofNat len)] 7)) (s₁.setTop (mkF m 0 #[.val (.ref b), .val (.int (Int32.ofNat o)), .val (.ref d), .val (.int (Int32.ofNat q)), .val (.int (Int32.ofNat len)), .unset, .unset] [])) := entry rfl
  have hA0 := hA.1.mv X0.warmed.alike hh0
  have hB0 := hB.mv X0.warmed.alike hh0
  have a31 := hA.1.2.2.2
  have c2 : Steps p.tables e below (s₁.setTop (entryFrame m #[.ref b, .int (Int32.ofNat o), .ref d, .int (Int32.ofNat q), .int (Int32.ofNat len)] 7)) (s₁.setTop (mkF m 3 #[.val (.ref b), .val (.int (Int32.ofNat o)), .val (.ref d), .val (.int (Int32.ofNat q)), .val (.int (Int32.ofNat len)), .val (.int 0), .unset] [])) := c1.trans (by
    refine iconstV X0.here hexec rfl 0 (hb hbytes d0) (by decide) ?_
    refine XS.istore X0.here hexec rfl (hb hbytes d1) rfl rfl ?_
    exact Steps.refl _)
  have loop : ∀ (r i : Nat), i + r = len → ∀ (z : Slot), (z = .unset ∨ ∃ w, z = .val w ∧ w.category = 1) → ∀ (Tl : State) (Bk : Cell), Stand p l e { frames := 0, locals := 0, cells := 0, slots := 0 } s m #[.ref b, .int (Int32.ofNat o), .ref d, .int (Int32.ofNat q), .int (Int32.ofNat len)] below meth c Tl ([] ++ copyLocs d q i) 0 0 → Put d Bk s₁ Tl → Laid B Bk q (q + i) (fun j => Value.int (lo8 (cv A (o + (j - q))))) →
      Steps p.tables e below (s₁.setTop (entryFrame m #[.ref b, .int (Int32.ofNat o), .ref d, .int (Int32.ofNat q), .int (Int32.ofNat len)] 7)) (Tl.setTop (mkF m 3 #[.val (.ref b), .val (.int (Int32.ofNat (o + i))), .val (.ref d), .val (.int (Int32.ofNat (q + i))), .val (.int (Int32.ofNat len)), .val (.int (Int32.ofNat i)), z] [])) → ∃ (T' : State) (B' : Cell) (z' : Slot), Stand p l e { frames := 0, locals := 0, cells := 0, slots := 0 } s m #[.ref b, .int (Int32.ofNat o), .ref d, .int (Int32.ofNat q), .int (Int32.ofNat len)] below meth c T' ([] ++ copyLocs d q len) 0 0 ∧ Put d B' s₁ T' ∧ Laid B B' q (q + len) (fun j => Value.int (lo8 (cv A (o + (j - q))))) ∧
      Steps p.tables e below (s₁.setTop (entryFrame m #[.ref b, .int (Int32.ofNat o), .ref d, .int (Int32.ofNat q), .int (Int32.ofNat len)] 7)) (T'.setTop (mkF m 3 #[.val (.ref b), .val (.int (Int32.ofNat (o + len))), .val (.ref d), .val (.int (Int32.ofNat (q + len))), .val (.int (Int32.ofNat len)), .val (.int (Int32.ofNat len)), z'] [])) := by
    intro r
    induction r with
    | zero =>
      intro i hi z hz Tl Bk Xl pl fl cl
      have hil : i = len := by omega
      rw [hil] at Xl fl cl
      exact ⟨Tl, Bk, z, Xl, pl, fl, cl⟩
    | succ r ih =>
      intro i hi z hz Tl Bk Xl pl fl cl
      have all := X0.warmed.alike.symm.trans Xl.warmed.alike
      have hAl := hA0.keep all (pl.other hne hA0.1)
      have hBk := hB0.like all pl.1 fl.1 fl.2.1 fl.2.2.1
      have hlt : q + i < Bk.slots.size := by rw [fl.2.2.1]; omega
      have c3 : Steps p.tables e below (s₁.setTop (entryFrame m #[.ref b, .int (Int32.ofNat o), .ref d, .int (Int32.ofNat q), .int (Int32.ofNat len)] 7)) (Tl.setTop (mkF m 12 #[.val (.ref b), .val (.int (Int32.ofNat (o + i))), .val (.ref d), .val (.int (Int32.ofNat (q + i))), .val (.int (Int32.ofNat len)), .val (.int (Int32.ofNat i)), z] [.int (Int32.ofNat (o + i)), .ref b])) := cl.trans (by
        refine XS.iload Xl.here hexec rfl (hb hbytes d3) rfl ?_
        refine XS.iload Xl.here hexec rfl (hb hbytes d5) rfl ?_
        refine XS.icmpNo Xl.here hexec rfl (hb hbytes d7) rfl (ii_ge_f (lt32 (by omega) (by omega))) ?_
        refine XS.aloadN Xl.here hexec rfl (hb hbytes d10) rfl rfl ?_
        refine XS.iloadN Xl.here hexec rfl (hb hbytes d11) rfl ?_
        exact Steps.refl _)
      have c4 : Steps p.tables e below (s₁.setTop (entryFrame m #[.ref b, .int (Int32.ofNat o), .ref d, .int (Int32.ofNat q), .int (Int32.ofNat len)] 7)) (Tl.setTop (mkF m 13 #[.val (.ref b), .val (.int (Int32.ofNat (o + i))), .val (.ref d), .val (.int (Int32.ofNat (q + i))), .val (.int (Int32.ofNat len)), .val (.int (Int32.ofNat i)), z] [.int (cv A (o + i))])) := c3.trans (by
        refine Xl.aget hexec hAl rfl (hA.get (i := o + i) (by omega)) rfl rfl (hb hbytes d12) ?_
        exact Steps.refl _)
      have c5 : Steps p.tables e below (s₁.setTop (entryFrame m #[.ref b, .int (Int32.ofNat o), .ref d, .int (Int32.ofNat q), .int (Int32.ofNat len)] 7)) (Tl.setTop (mkF m 15 #[.val (.ref b), .val (.int (Int32.ofNat (o + i))), .val (.ref d), .val (.int (Int32.ofNat (q + i))), .val (.int (Int32.ofNat len)), .val (.int (Int32.ofNat i)), .val (.int (cv A (o + i)))] [])) := c4.trans (by
        refine XS.istoreS Xl.here hexec rfl (hb hbytes d13) rfl rfl hz ?_
        exact Steps.refl _)
      have c6 : Steps p.tables e below (s₁.setTop (entryFrame m #[.ref b, .int (Int32.ofNat o), .ref d, .int (Int32.ofNat q), .int (Int32.ofNat len)] 7)) (Tl.setTop (mkF m 31 #[.val (.ref b), .val (.int (Int32.ofNat (o + i))), .val (.ref d), .val (.int (Int32.ofNat (q + i))), .val (.int (Int32.ofNat len)), .val (.int (Int32.ofNat i)), .val (.int (cv A (o + i)))] [.int (lo8 (cv A (o + i))), .int (Int32.ofNat (q + i)), .ref d])) := c5.trans (by
        refine XS.iload Xl.here hexec rfl (hb hbytes d15) rfl ?_
        refine sipushV Xl.here hexec rfl 255 (hb hbytes d17) (by decide) ?_
        refine XS.icmpYes Xl.here hexec rfl (pc0 := 20) rfl (hb hbytes d20) rfl (ii_le_t (hp i (by omega))) (by decide) rfl ?_
        refine XS.aloadN Xl.here hexec rfl (hb hbytes d26) rfl rfl ?_
        refine XS.iloadN Xl.here hexec rfl (hb hbytes d27) rfl ?_
        refine XS.iload Xl.here hexec rfl (hb hbytes d28) rfl ?_
        refine i2b Xl.here hexec rfl (hb hbytes d30) rfl ?_
        exact Steps.refl _)
      obtain ⟨T7, X7, p7, st7⟩ := Xl.aput hexec hBk rfl hlt rfl (fits_lo8 (cv A (o + i))) (g := (mkF m 31 #[.val (.ref b), .val (.int (Int32.ofNat (o + i))), .val (.ref d), .val (.int (Int32.ofNat (q + i))), .val (.int (Int32.ofNat len)), .val (.int (Int32.ofNat i)), .val (.int (cv A (o + i)))] [.int (lo8 (cv A (o + i))), .int (Int32.ofNat (q + i)), .ref d])) rfl (rest := []) rfl (hb hbytes d31)
      have c8 : Steps p.tables e below (s₁.setTop (entryFrame m #[.ref b, .int (Int32.ofNat o), .ref d, .int (Int32.ofNat q), .int (Int32.ofNat len)] 7)) (T7.setTop (mkF m 32 #[.val (.ref b), .val (.int (Int32.ofNat (o + i))), .val (.ref d), .val (.int (Int32.ofNat (q + i))), .val (.int (Int32.ofNat len)), .val (.int (Int32.ofNat i)), .val (.int (cv A (o + i)))] [])) := c6.trans (st7 _ (Steps.refl _))
      have c9 : Steps p.tables e below (s₁.setTop (entryFrame m #[.ref b, .int (Int32.ofNat o), .ref d, .int (Int32.ofNat q), .int (Int32.ofNat len)] 7)) (T7.setTop (mkF m 3 #[.val (.ref b), .val (.int (Int32.ofNat (o + i) + 1)), .val (.ref d), .val (.int (Int32.ofNat (q + i) + 1)), .val (.int (Int32.ofNat len)), .val (.int (Int32.ofNat i + 1)), .val (.int (cv A (o + i)))] [])) := c8.trans (by
        refine iincV X7.here hexec rfl 1 (hb hbytes d32) (by decide) rfl rfl ?_
        refine iincV X7.here hexec rfl 1 (hb hbytes d35) (by decide) rfl rfl ?_
        refine iincV X7.here hexec rfl 1 (hb hbytes d38) (by decide) rfl rfl ?_
        refine XS.goto X7.here hexec rfl (pc0 := 41) rfl (hb hbytes d41) (by decide) rfl ?_
        exact Steps.refl _)
      have c10 : Steps p.tables e below (s₁.setTop (entryFrame m #[.ref b, .int (Int32.ofNat o), .ref d, .int (Int32.ofNat q), .int (Int32.ofNat len)] 7)) (T7.setTop (mkF m 3 #[.val (.ref b), .val (.int (Int32.ofNat (o + (i + 1)))), .val (.ref d), .val (.int (Int32.ofNat (q + (i + 1)))), .val (.int (Int32.ofNat len)), .val (.int (Int32.ofNat (i + 1))), .val (.int (cv A (o + i)))] [])) := by
        have := c9
        rw [succ32, succ32, succ32] at this
        exact this
      exact ih (i + 1) (by omega) _ (Or.inr ⟨_, rfl, rfl⟩) T7 _ (by rw [copyLocs_step, ← List.append_assoc]; exact X7) (pl.trans p7) (fl.step (by omega) hlt (by simp)) c10
  obtain ⟨T9, B9, z9, X9, p9, f9, g9⟩ := loop len 0 (by omega) .unset (Or.inl rfl) s₁ B (by simpa [copyLocs] using X0) ⟨hB0.1, fun _ _ => rfl, rfl⟩ (Laid.zero _ _ _) c2
  have c11 : Steps p.tables e below (s₁.setTop (entryFrame m #[.ref b, .int (Int32.ofNat o), .ref d, .int (Int32.ofNat q), .int (Int32.ofNat len)] 7)) (T9.setTop (mkF m 46 #[.val (.ref b), .val (.int (Int32.ofNat (o + len))), .val (.ref d), .val (.int (Int32.ofNat (q + len))), .val (.int (Int32.ofNat len)), .val (.int (Int32.ofNat len)), z9] [.int (Int32.ofNat len)])) := g9.trans (by
    refine XS.iload X9.here hexec rfl (hb hbytes d3) rfl ?_
    refine XS.iload X9.here hexec rfl (hb hbytes d5) rfl ?_
    refine XS.icmpYes X9.here hexec rfl (pc0 := 7) rfl (hb hbytes d7) rfl (ii_ge_t (nlt32 (by omega) (Nat.le_refl _))) (by decide) rfl ?_
    refine XS.iload X9.here hexec rfl (hb hbytes d44) rfl ?_
    exact Steps.refl _)
  exact ⟨T9, some (.int (Int32.ofNat len)), _, _, _, X9, by simp, rfl, rfl, (fun h => by cases h), ⟨rfl, B9, p9.from hh0, f9⟩, fun fs hl => c11.trans (X9.ireturnOut hexec hret rfl (Or.inl rfl) (hb hbytes d46) hl)⟩
end Cmp5
namespace Cmp3
def yN : MethodName := ⟨"java/lang/StringUTF16", "compress", "([CII)[B"⟩
abbrev yB : ByteArray := jdk_52_method_16_code
theorem d0 : decode yB 0 = .ok (.iload_n 2, 1) := by decide +kernel
theorem d1 : decode yB 1 = .ok (.newarray .byte, 2) := by decide +kernel
theorem d3 : decode yB 3 = .ok (.astore_n 3, 1) := by decide +kernel
theorem d4 : decode yB 4 = .ok (.aload_n 0, 1) := by decide +kernel
theorem d5 : decode yB 5 = .ok (.iload_n 1, 1) := by decide +kernel
theorem d6 : decode yB 6 = .ok (.aload_n 3, 1) := by decide +kernel
theorem d7 : decode yB 7 = .ok (.iconst 0, 1) := by decide +kernel
theorem d8 : decode yB 8 = .ok (.iload_n 2, 1) := by decide +kernel
theorem d9 : decode yB 9 = .ok (.invokestatic 115, 3) := by decide +kernel
theorem d12 : decode yB 12 = .ok (.istore 4, 2) := by decide +kernel
theorem d14 : decode yB 14 = .ok (.iload 4, 2) := by decide +kernel
theorem d16 : decode yB 16 = .ok (.iload_n 2, 1) := by decide +kernel
theorem d17 : decode yB 17 = .ok (.if_icmp (.eq) 40, 3) := by decide +kernel
theorem d57 : decode yB 57 = .ok (.aload_n 3, 1) := by decide +kernel
theorem d58 : decode yB 58 = .ok (.areturn, 1) := by decide +kernel
def site : List Cond := [.arrayClass .byte, Cmp5.tab] ++ staticW U16 115 Cmp5.yN
def tab : Cond := tabOf yN yB 6 (some (.array .byte)) site
def P (b : Addr) (A : Cell) (o len : Nat) (args : Array Value) (s : State) : Prop := args = #[.ref b, .int (Int32.ofNat o), .int (Int32.ofNat len)] ∧ Ch b A s ∧ o + len ≤ A.slots.size ∧ len ≤ 536870912 ∧ ∀ i, i < len → ¬ 255 < cv A (o + i)
def E (b : Addr) (A : Cell) (o len : Nat) (r : Option Value) (s u : State) : Prop := NewArr .byte "[B" len (fun j => .int (lo8 (cv A (o + j)))) r s u ∧ u.heap.size = s.heap.size + 1
/-- no char of the range above 255: a new byte[] of their low bytes -/
theorem law (l : Launch) (b : Addr) (A : Cell) (o len : Nat) : Law l yN 3 3 1 18 yB 6 (some (.array .byte)) site (P b A o len) (E b A o len) [] 1 len := by
  refine Law.of_walk (plainFor_of_name (by decide +kernel)) (by decide +kernel) (by decide +kernel) (by decide) (fun _ _ h => by rw [h.1]; rfl) (fun _ U U' hal hh h => ⟨h.1, h.2.1.mv hal hh, h.2.2⟩) (fun r U U' V V' h1 hal h2 h => ⟨NewArr.mv r U U' V V' h1 hal h2 h.1, by rw [h1, h2]; exact h.2⟩) ?_
  intro p e s m args below meth c s₁ X0 hexec hbytes hml hret hlk hnm hown hh0 W hP
  obtain ⟨rfl, hA, l1, l2, hp⟩ := hP
  have a31 := hA.1.2.2.2
  have c1 : Steps p.tables e below (s₁.setTop (entryFrame m #[.ref b, .int (Int32.ofNat o), .int (Int32.ofNat len)] 6)) (s₁.setTop (mkF m 0 #[.val (.ref b), .val (.int (Int32.ofNat o)), .val (.int (Int32.ofNat len)), .unset, .unset, .unset] [])) := entry rfl
  have c2 : Steps p.tables e below (s₁.setTop (entryFrame m #[.ref b, .int (Int32.ofNat o), .int (Int32.ofNat len)] 6)) (s₁.setTop (mkF m 1 #[.val (.ref b), .val (.int (Int32.ofNat o)), .val (.int (Int32.ofNat len)), .unset, .unset, .unset] [.int (Int32.ofNat len)])) := c1.trans (by
    refine XS.iloadN X0.here hexec rfl (hb hbytes d0) rfl ?_
    exact Steps.refl _)
  obtain ⟨T3, B3, X3, ba3, bs3, bv3, bh3, bf3, st3⟩ := X0.anew hexec (atype := .byte) (wk W (.arrayClass .byte)) rfl (by show len * 1 ≤ _; omega) (by omega) (g := (mkF m 1 #[.val (.ref b), .val (.int (Int32.ofNat o)), .val (.int (Int32.ofNat len)), .unset, .unset, .unset] [.int (Int32.ofNat len)])) rfl (hb hbytes d1) (rest := []) rfl (Nat.le_refl _) (by show 0 + len ≤ len; omega)
  rw [hh0] at ba3 st3
  have kp3 : XT.Kept s T3 := (XT.Kept.of_eq hh0).push bh3
  have hA3 := hA.keep X3.warmed.alike (kp3 _ _ hA.1.1)
  have hne : b ≠ s.heap.size := hA.1.ne
  have c4 : Steps p.tables e below (s₁.setTop (entryFrame m #[.ref b, .int (Int32.ofNat o), .int (Int32.ofNat len)] 6)) (T3.setTop (mkF m 3 #[.val (.ref b), .val (.int (Int32.ofNat o)), .val (.int (Int32.ofNat len)), .unset, .unset, .unset] [.ref s.heap.size])) := c2.trans (st3 _ (Steps.refl _))
  have c5 : Steps p.tables e below (s₁.setTop (entryFrame m #[.ref b, .int (Int32.ofNat o), .int (Int32.ofNat len)] 6)) (T3.setTop (mkF m 9 #[.val (.ref b), .val (.int (Int32.ofNat o)), .val (.int (Int32.ofNat len)), .val (.ref s.heap.size), .unset, .unset] [.int (Int32.ofNat len), .int 0, .ref s.heap.size, .int (Int32.ofNat o), .ref b])) := c4.trans (by
    refine XS.astoreN X3.here hexec rfl (hb hbytes d3) rfl rfl rfl ?_
    refine XS.aloadN X3.here hexec rfl (hb hbytes d4) rfl rfl ?_
    refine XS.iloadN X3.here hexec rfl (hb hbytes d5) rfl ?_
    refine XS.aloadN X3.here hexec rfl (hb hbytes d6) rfl rfl ?_
    refine iconstV X3.here hexec rfl 0 (hb hbytes d7) (by decide) ?_
    refine XS.iloadN X3.here hexec rfl (hb hbytes d8) rfl ?_
    exact Steps.refl _)
  obtain ⟨v6, T6, X6, E6, g6⟩ := X3.callS hexec (Cmp5.law l b A s.heap.size B3 o 0 len) hown (wks W (staticW U16 115 Cmp5.yN)) (wk W Cmp5.tab) (W := 0) (Nat.le_of_ble_eq_true rfl) (Nat.le_of_ble_eq_true rfl) (Nat.le_refl _) (by show 0 + len + 0 ≤ len; omega) (g := (mkF m 9 #[.val (.ref b), .val (.int (Int32.ofNat o)), .val (.int (Int32.ofNat len)), .val (.ref s.heap.size), .unset, .unset] [.int (Int32.ofNat len), .int (Int32.ofNat 0), .ref s.heap.size, .int (Int32.ofNat o), .ref b])) rfl (by rw [hml]; rfl) c5 (argsL := [.ref b, .int (Int32.ofNat o), .ref s.heap.size, .int (Int32.ofNat 0), .int (Int32.ofNat len)]) (rest := []) rfl rfl (by show 2 * 0 + 0 ≤ _; decide) (hb hbytes d9) (⟨rfl, hA3, ba3, hne, l1, by rw [bs3]; simp, hp⟩)
  obtain ⟨rfl, B6, p6, f6⟩ := E6
  have c7 : Steps p.tables e below (s₁.setTop (entryFrame m #[.ref b, .int (Int32.ofNat o), .int (Int32.ofNat len)] 6)) (T6.setTop (mkF m 12 #[.val (.ref b), .val (.int (Int32.ofNat o)), .val (.int (Int32.ofNat len)), .val (.ref s.heap.size), .unset, .unset] [.int (Int32.ofNat len)])) := g6
  have c8 : Steps p.tables e below (s₁.setTop (entryFrame m #[.ref b, .int (Int32.ofNat o), .int (Int32.ofNat len)] 6)) (T6.setTop (mkF m 58 #[.val (.ref b), .val (.int (Int32.ofNat o)), .val (.int (Int32.ofNat len)), .val (.ref s.heap.size), .val (.int (Int32.ofNat len)), .unset] [.ref s.heap.size])) := c7.trans (by
    refine XS.istore X6.here hexec rfl (hb hbytes d12) rfl rfl ?_
    refine XS.iload X6.here hexec rfl (hb hbytes d14) rfl ?_
    refine XS.iloadN X6.here hexec rfl (hb hbytes d16) rfl ?_
    refine XS.icmpYes X6.here hexec rfl (pc0 := 17) rfl (hb hbytes d17) rfl (ii_eq_t rfl) (by decide) rfl ?_
    refine XS.aloadN X6.here hexec rfl (hb hbytes d57) rfl rfl ?_
    exact Steps.refl _)
  have X8 := X6.wide (L' := []) (cells' := 1) (slots' := len) (fun x hx hlt => by
    simp only [List.nil_append, copyLocs, List.mem_map, List.mem_range] at hx
    obtain ⟨i, -, rfl⟩ := hx
    exact absurd hlt (Nat.lt_irrefl _)) (Nat.le_refl _) (by omega)
  exact ⟨T6, some (.ref s.heap.size), _, _, _, X8, rfl, rfl, rfl, (fun h => by cases h), ⟨⟨rfl, B6, ba3.like (X3.warmed.alike.symm.trans X6.warmed.alike) p6.1 f6.1 f6.2.1 f6.2.2.1, f6.2.1.trans bv3, by rw [X6.warmed.alike.findClass, f6.1]; exact bf3, by rw [f6.2.2.1, bs3]; simp, fun j hj => by rw [f6.2.2.2 j, if_pos (by omega)]; rfl, kp3.put p6 (Nat.le_refl _)⟩, by rw [p6.2.2, bh3, hh0]; simp⟩, fun fs hl => c8.trans (X8.areturnOut hexec rfl hret rfl (hb hbytes d58) hl)⟩
end Cmp3
namespace CodL
def yN : MethodName := ⟨"java/lang/StringUTF16", "coderFromArrayLen", "([BI)B"⟩
abbrev yB : ByteArray := jdk_52_method_15_code
theorem d0 : decode yB 0 = .ok (.iload_n 1, 1) := by decide +kernel
theorem d1 : decode yB 1 = .ok (.aload_n 0, 1) := by decide +kernel
theorem d2 : decode yB 2 = .ok (.arraylength, 1) := by decide +kernel
theorem d3 : decode yB 3 = .ok (.isub, 1) := by decide +kernel
theorem d4 : decode yB 4 = .ok (.bipush 31, 2) := by decide +kernel
theorem d6 : decode yB 6 = .ok (.iushr, 1) := by decide +kernel
theorem d7 : decode yB 7 = .ok (.i2b, 1) := by decide +kernel
theorem d8 : decode yB 8 = .ok (.ireturn, 1) := by decide +kernel
def site : List Cond := []
def tab : Cond := tabOf yN yB 2 (some .byte) site
def P (d : Addr) (B : Cell) (args : Array Value) (s : State) : Prop := args = #[.ref d, .int (Int32.ofNat B.slots.size)] ∧ Arr .byte d B s
def E (r : Option Value) (s u : State) : Prop := XT.PureE (some (.int 0)) r s u
/-- an array as long as the number of chars: LATIN1 -/
theorem law (l : Launch) (d : Addr) (B : Cell) : Law l yN 2 2 0 0 yB 2 (some .byte) site (P d B) E [] 0 0 := by
  refine Law.of_walk (plainFor_of_name (by decide +kernel)) (by decide +kernel) (by decide +kernel) (by decide) (fun _ _ h => by rw [h.1]; rfl) (fun _ U U' hal hh h => ⟨h.1, h.2.mv hal hh⟩) (fun r U U' V V' h1 hal h2 h => XT.PureE.mv r U U' V V' h1 hal h2 h) ?_
  intro p e s m args below meth c s₁ X0 hexec hbytes hml hret hlk hnm hown hh0 W hP
  obtain ⟨rfl, hB⟩ := hP
  have hB0 := hB.mv X0.warmed.alike hh0
  have c1 : Steps p.tables e below (s₁.setTop (entryFrame m #[.ref d, .int (Int32.ofNat B.slots.size)] 2)) (s₁.setTop (mkF m 0 #[.val (.ref d), .val (.int (Int32.ofNat B.slots.size))] [])) := entry rfl
  have c2 : Steps p.tables e below (s₁.setTop (entryFrame m #[.ref d, .int (Int32.ofNat B.slots.size)] 2)) (s₁.setTop (mkF m 2 #[.val (.ref d), .val (.int (Int32.ofNat B.slots.size))] [.ref d, .int (Int32.ofNat B.slots.size)])) := c1.trans (by
    refine XS.iloadN X0.here hexec rfl (hb hbytes d0) rfl ?_
    refine XS.aloadN X0.here hexec rfl (hb hbytes d1) rfl rfl ?_
    exact Steps.refl _)
  have c3 : Steps p.tables e below (s₁.setTop (entryFrame m #[.ref d, .int (Int32.ofNat B.slots.size)] 2)) (s₁.setTop (mkF m 8 #[.val (.ref d), .val (.int (Int32.ofNat B.slots.size))] [.int (lo8 (ushr (Int32.ofNat B.slots.size - Int32.ofNat B.slots.size) 31))])) := c2.trans (by
    refine X0.alen hexec hB0 rfl rfl (hb hbytes d2) ?_
    refine XS.isub X0.here hexec rfl (hb hbytes d3) rfl ?_
    refine bipushV X0.here hexec rfl 31 (hb hbytes d4) (by decide) ?_
    refine iushr X0.here hexec rfl (hb hbytes d6) rfl ?_
    refine i2b X0.here hexec rfl (hb hbytes d7) rfl ?_
    exact Steps.refl _)
  have e0 : lo8 (ushr (Int32.ofNat B.slots.size - Int32.ofNat B.slots.size) 31) = 0 := by rw [Int32.sub_self]; decide
  rw [e0] at c3
  exact ⟨s₁, some (.int 0), _, _, _, X0, rfl, rfl, rfl, (fun h => by cases h), ⟨rfl, hh0⟩, fun fs hl => c3.trans (X0.ireturnOut hexec hret rfl (Or.inr (Or.inr (Or.inl rfl))) (hb hbytes d8) hl)⟩
end CodL
/-- the String at a is Latin-1 over a new byte[] (the heap's one new cell): the low bytes of the len chars of A from o on; every cell but a is kept -/
def Got (a : Addr) (D : Cell) (fV fC : Field) (A : Cell) (o len : Nat) (r : Option Value) (s u : State) : Prop := r = none ∧ ∃ D' V : Cell, Blank "java/lang/String" a D' u ∧ Same D D' [fV.slot, fC.slot] ∧ D'.slots[fV.slot]? = some (.ref s.heap.size) ∧ D'.slots[fC.slot]? = some (.int 0) ∧ Arr .byte s.heap.size V u ∧ V.vm = .none ∧ u.vm.findClass "[B" = some V.cls ∧ V.slots.size = len ∧ (∀ j, j < len → V.slots[j]? = some (.int (lo8 (cv A (o + j))))) ∧ (∀ (y : Addr) (c : Cell), y ≠ a → s.heap[y]? = some c → u.heap[y]? = some c) ∧ u.heap.size = s.heap.size + 1
theorem Got.mv {a : Addr} {D A : Cell} {fV fC : Field} {o len : Nat} : ∀ r (U U' V V' : State), U'.heap = U.heap → V.vm.Alike V'.vm → V'.heap = V.heap → Got a D fV fC A o len r U V → Got a D fV fC A o len r U' V' :=
  fun r U U' V V' h1 hal h2 ⟨e0, D', X, a1, a2, a3, a4, a5, a6, a7, a8, a9, a10, a11⟩ => ⟨e0, D', X, a1.mv hal h2, a2, by rw [h1]; exact a3, a4, by rw [h1]; exact a5.mv hal h2, a6, by rw [hal.findClass]; exact a7, a8, a9, by rw [h1, h2]; exact a10, by rw [h1, h2]; exact a11⟩
namespace New4
def yN : MethodName := ⟨"java/lang/String", "<init>", "([CIILjava/lang/Void;)V"⟩
abbrev yB : ByteArray := jdk_42_method_149_code
theorem d0 : decode yB 0 = .ok (.aload_n 0, 1) := by decide +kernel
theorem d1 : decode yB 1 = .ok (.invokespecial 1, 3) := by decide +kernel
theorem d4 : decode yB 4 = .ok (.iload_n 3, 1) := by decide +kernel
theorem d5 : decode yB 5 = .ok (.ifCond (.ne) 22, 3) := by decide +kernel
theorem d27 : decode yB 27 = .ok (.getstatic 38, 3) := by decide +kernel
theorem d30 : decode yB 30 = .ok (.ifCond (.eq) 28, 3) := by decide +kernel
theorem d33 : decode yB 33 = .ok (.aload_n 1, 1) := by decide +kernel
theorem d34 : decode yB 34 = .ok (.iload_n 2, 1) := by decide +kernel
theorem d35 : decode yB 35 = .ok (.iload_n 3, 1) := by decide +kernel
theorem d36 : decode yB 36 = .ok (.invokestatic 177, 3) := by decide +kernel
theorem d39 : decode yB 39 = .ok (.astore 5, 2) := by decide +kernel
theorem d41 : decode yB 41 = .ok (.aload_n 0, 1) := by decide +kernel
theorem d42 : decode yB 42 = .ok (.aload 5, 2) := by decide +kernel
theorem d44 : decode yB 44 = .ok (.iload_n 3, 1) := by decide +kernel
theorem d45 : decode yB 45 = .ok (.invokestatic 47, 3) := by decide +kernel
theorem d48 : decode yB 48 = .ok (.putfield 15, 3) := by decide +kernel
theorem d51 : decode yB 51 = .ok (.aload_n 0, 1) := by decide +kernel
theorem d52 : decode yB 52 = .ok (.aload 5, 2) := by decide +kernel
theorem d54 : decode yB 54 = .ok (.putfield 9, 3) := by decide +kernel
theorem d57 : decode yB 57 = .ok (.return_, 1) := by decide +kernel
def site : List Cond := [.fieldLink "java/lang/String" 38 "java/lang/String" "COMPACT_STRINGS" "Z", Cmp3.tab, CodL.tab, .laysFinal "java/lang/String" "java/lang/String" "value" "[B", .fieldLink "java/lang/String" 9 "java/lang/String" "value" "[B", .laysFinal "java/lang/String" "java/lang/String" "coder" "B", .fieldLink "java/lang/String" 15 "java/lang/String" "coder" "B"] ++ objW "java/lang/String" 1 ++ staticW "java/lang/String" 177 Cmp3.yN ++ staticW "java/lang/String" 47 CodL.yN
def tab : Cond := tabOf yN yB 6 none site
def P (a : Addr) (D : Cell) (fV fC : Field) (b : Addr) (A : Cell) (z : Int32) (o len : Nat) (args : Array Value) (s : State) : Prop := args = #[.ref a, .ref b, .int (Int32.ofNat o), .int (Int32.ofNat len), .null] ∧ Blank "java/lang/String" a D s ∧ Found "java/lang/String" "value" "[B" fV s ∧ Found "java/lang/String" "coder" "B" fC s ∧ Ch b A s ∧ StaticIs s "java/lang/String" "COMPACT_STRINGS" "Z" (.int z) ∧ ¬ z = 0 ∧ 0 < len ∧ o + len ≤ A.slots.size ∧ len ≤ 536870912 ∧ ∀ i, i < len → ¬ 255 < cv A (o + i)
def E (a : Addr) (D : Cell) (fV fC : Field) (A : Cell) (o len : Nat) (r : Option Value) (s u : State) : Prop := Got a D fV fC A o len r s u
/-- len > 0, no char of the range above 255: a Latin-1 String of their low bytes -/
theorem law (l : Launch) (a : Addr) (D : Cell) (fV fC : Field) (b : Addr) (A : Cell) (z : Int32) (o len : Nat) : Law l yN 5 4 2 35 yB 6 none site (P a D fV fC b A z o len) (E a D fV fC A o len) [⟨a, fC.slot⟩, ⟨a, fV.slot⟩] 1 len := by
  refine Law.of_walk (plainFor_of_name (by decide +kernel)) (by decide +kernel) (by decide +kernel) (by decide) (fun _ _ h => by rw [h.1]; rfl) (fun _ U U' hal hh h => ⟨h.1, h.2.1.mv hal hh, h.2.2.1.al hal, h.2.2.2.1.al hal, h.2.2.2.2.1.mv hal hh, h.2.2.2.2.2.1.there hal hh, h.2.2.2.2.2.2⟩) (fun r U U' V V' h1 hal h2 h => Got.mv r U U' V V' h1 hal h2 h) ?_
  intro p e s m args below meth c s₁ X0 hexec hbytes hml hret hlk hnm hown hh0 W hP
  obtain ⟨rfl, hB, f1, f2, hA, s1, hz, l0, l1, l2, hp⟩ := hP
  have a31 := hA.1.2.2.2
  have c1 : Steps p.tables e below (s₁.setTop (entryFrame m #[.ref a, .ref b, .int (Int32.ofNat o), .int (Int32.ofNat len), .null] 6)) (s₁.setTop (mkF m 0 #[.val (.ref a), .val (.ref b), .val (.int (Int32.ofNat o)), .val (.int (Int32.ofNat len)), .val .null, .unset] [])) := entry rfl
  have c2 : Steps p.tables e below (s₁.setTop (entryFrame m #[.ref a, .ref b, .int (Int32.ofNat o), .int (Int32.ofNat len), .null] 6)) (s₁.setTop (mkF m 1 #[.val (.ref a), .val (.ref b), .val (.int (Int32.ofNat o)), .val (.int (Int32.ofNat len)), .val .null, .unset] [.ref a])) := c1.trans (by
    refine XS.aloadN X0.here hexec rfl (hb hbytes d0) rfl rfl ?_
    exact Steps.refl _)
  obtain ⟨T3, X3, q3, st3⟩ := X0.oinit hexec hown (wks W (objW "java/lang/String" 1)) (g := (mkF m 1 #[.val (.ref a), .val (.ref b), .val (.int (Int32.ofNat o)), .val (.int (Int32.ofNat len)), .val .null, .unset] [.ref a])) rfl (by rw [hml]; rfl) (rest := []) rfl (hb hbytes d1) (W := 0) (by show 2 * 0 + 0 ≤ _; decide) (Nat.le_of_ble_eq_true rfl) (Nat.le_of_ble_eq_true rfl)
  have hh3 := q3.trans hh0
  have c4 : Steps p.tables e below (s₁.setTop (entryFrame m #[.ref a, .ref b, .int (Int32.ofNat o), .int (Int32.ofNat len), .null] 6)) (T3.setTop (mkF m 27 #[.val (.ref a), .val (.ref b), .val (.int (Int32.ofNat o)), .val (.int (Int32.ofNat len)), .val .null, .unset] [])) := (c2.trans (st3 _ (Steps.refl _))).trans (by
    refine XS.iloadN X3.here hexec rfl (hb hbytes d4) rfl ?_
    refine XS.ifYes X3.here hexec rfl (pc0 := 5) rfl (hb hbytes d5) rfl (i0_ne_t (nz32 (by omega) l0)) (by decide) rfl ?_
    exact Steps.refl _)
  obtain ⟨T5, X5, q5, st5⟩ := X3.sget hexec hown (wk W (.fieldLink "java/lang/String" 38 "java/lang/String" "COMPACT_STRINGS" "Z")) s1 (fun _ _ h => by rw [hh3]; exact h) (g := (mkF m 27 #[.val (.ref a), .val (.ref b), .val (.int (Int32.ofNat o)), .val (.int (Int32.ofNat len)), .val .null, .unset] [])) rfl (hb hbytes d27)
  have hh5 := q5.trans hh3
  have c6 : Steps p.tables e below (s₁.setTop (entryFrame m #[.ref a, .ref b, .int (Int32.ofNat o), .int (Int32.ofNat len), .null] 6)) (T5.setTop (mkF m 30 #[.val (.ref a), .val (.ref b), .val (.int (Int32.ofNat o)), .val (.int (Int32.ofNat len)), .val .null, .unset] [.int z])) := c4.trans (st5 _ (Steps.refl _))
  have c7 : Steps p.tables e below (s₁.setTop (entryFrame m #[.ref a, .ref b, .int (Int32.ofNat o), .int (Int32.ofNat len), .null] 6)) (T5.setTop (mkF m 36 #[.val (.ref a), .val (.ref b), .val (.int (Int32.ofNat o)), .val (.int (Int32.ofNat len)), .val .null, .unset] [.int (Int32.ofNat len), .int (Int32.ofNat o), .ref b])) := c6.trans (by
    refine XS.ifNo X5.here hexec rfl (hb hbytes d30) rfl (i0_eq_f hz) ?_
    refine XS.aloadN X5.here hexec rfl (hb hbytes d33) rfl rfl ?_
    refine XS.iloadN X5.here hexec rfl (hb hbytes d34) rfl ?_
    refine XS.iloadN X5.here hexec rfl (hb hbytes d35) rfl ?_
    exact Steps.refl _)
  obtain ⟨v8, T8, X8, E8, g8⟩ := X5.callS hexec (Cmp3.law l b A o len) hown (wks W (staticW "java/lang/String" 177 Cmp3.yN)) (wk W Cmp3.tab) (W := 0) (Nat.le_of_ble_eq_true rfl) (Nat.le_of_ble_eq_true rfl) (Nat.le_refl _) (by show 0 + len ≤ len; omega) (g := (mkF m 36 #[.val (.ref a), .val (.ref b), .val (.int (Int32.ofNat o)), .val (.int (Int32.ofNat len)), .val .null, .unset] [.int (Int32.ofNat len), .int (Int32.ofNat o), .ref b])) rfl (by rw [hml]; rfl) c7 (argsL := [.ref b, .int (Int32.ofNat o), .int (Int32.ofNat len)]) (rest := []) rfl rfl (by show 2 * 0 + 0 ≤ _; decide) (hb hbytes d36) (⟨rfl, hA.mv X5.warmed.alike hh5, l1, l2, hp⟩)
  obtain ⟨e8, z8⟩ := E8
  obtain ⟨rfl, N, n1, n2, n3, n4, n5, n6⟩ := NewArr.mv _ T5 s _ _ hh5.symm (Vm.Alike.refl _) rfl e8
  rw [hh5] at z8
  have hB1 := hB.keep X8.warmed.alike (n6 _ _ hB.1)
  have hne : s.heap.size ≠ a := (Nat.ne_of_lt (Array.getElem?_eq_some_iff.mp hB.1).1).symm
  have c9 : Steps p.tables e below (s₁.setTop (entryFrame m #[.ref a, .ref b, .int (Int32.ofNat o), .int (Int32.ofNat len), .null] 6)) (T8.setTop (mkF m 39 #[.val (.ref a), .val (.ref b), .val (.int (Int32.ofNat o)), .val (.int (Int32.ofNat len)), .val .null, .unset] [.ref s.heap.size])) := g8
  have c10 : Steps p.tables e below (s₁.setTop (entryFrame m #[.ref a, .ref b, .int (Int32.ofNat o), .int (Int32.ofNat len), .null] 6)) (T8.setTop (mkF m 45 #[.val (.ref a), .val (.ref b), .val (.int (Int32.ofNat o)), .val (.int (Int32.ofNat len)), .val .null, .val (.ref s.heap.size)] [.int (Int32.ofNat N.slots.size), .ref s.heap.size, .ref a])) := by
    have hc : Steps p.tables e below (s₁.setTop (entryFrame m #[.ref a, .ref b, .int (Int32.ofNat o), .int (Int32.ofNat len), .null] 6)) (T8.setTop (mkF m 45 #[.val (.ref a), .val (.ref b), .val (.int (Int32.ofNat o)), .val (.int (Int32.ofNat len)), .val .null, .val (.ref s.heap.size)] [.int (Int32.ofNat len), .ref s.heap.size, .ref a])) := c9.trans (by
      refine XS.astore X8.here hexec rfl (hb hbytes d39) rfl rfl rfl ?_
      refine XS.aloadN X8.here hexec rfl (hb hbytes d41) rfl rfl ?_
      refine XS.aload X8.here hexec rfl (hb hbytes d42) rfl rfl ?_
      refine XS.iloadN X8.here hexec rfl (hb hbytes d44) rfl ?_
      exact Steps.refl _)
    rw [n4]; exact hc
  obtain ⟨v11, T11, X11, E11, g11⟩ := X8.callS hexec (CodL.law l s.heap.size N) hown (wks W (staticW "java/lang/String" 47 CodL.yN)) (wk W CodL.tab) (W := 1) (Nat.le_of_ble_eq_true rfl) (Nat.le_of_ble_eq_true rfl) (Nat.le_refl _) (by show 0 + len + 0 ≤ len; omega) (g := (mkF m 45 #[.val (.ref a), .val (.ref b), .val (.int (Int32.ofNat o)), .val (.int (Int32.ofNat len)), .val .null, .val (.ref s.heap.size)] [.int (Int32.ofNat N.slots.size), .ref s.heap.size, .ref a])) rfl (by rw [hml]; rfl) c10 (argsL := [.ref s.heap.size, .int (Int32.ofNat N.slots.size)]) (rest := [.ref a]) rfl rfl (by show 2 * 0 + (1 + 0) ≤ _; decide) (hb hbytes d45) (⟨rfl, n1⟩)
  obtain ⟨rfl, q11⟩ := E11
  have hB11 := hB1.mv (X8.warmed.alike.symm.trans X11.warmed.alike) q11
  have c12 : Steps p.tables e below (s₁.setTop (entryFrame m #[.ref a, .ref b, .int (Int32.ofNat o), .int (Int32.ofNat len), .null] 6)) (T11.setTop (mkF m 48 #[.val (.ref a), .val (.ref b), .val (.int (Int32.ofNat o)), .val (.int (Int32.ofNat len)), .val .null, .val (.ref s.heap.size)] [.int 0, .ref a])) := g11
  obtain ⟨T13, X13, p13, bl13, sl13, st13⟩ := X11.finit hexec hown (wk W (.fieldLink "java/lang/String" 15 "java/lang/String" "coder" "B")) (Or.inr ⟨_, (wk W (.laysFinal "java/lang/String" "java/lang/String" "coder" "B"))⟩) (Or.inl ⟨rfl, hnm⟩) f2 (Or.inl rfl) hB11 (t := .byte) (by decide +kernel) rfl (g := (mkF m 48 #[.val (.ref a), .val (.ref b), .val (.int (Int32.ofNat o)), .val (.int (Int32.ofNat len)), .val .null, .val (.ref s.heap.size)] [.int 0, .ref a])) rfl (rest := []) rfl (hb hbytes d48)
  have c14 : Steps p.tables e below (s₁.setTop (entryFrame m #[.ref a, .ref b, .int (Int32.ofNat o), .int (Int32.ofNat len), .null] 6)) (T13.setTop (mkF m 54 #[.val (.ref a), .val (.ref b), .val (.int (Int32.ofNat o)), .val (.int (Int32.ofNat len)), .val .null, .val (.ref s.heap.size)] [.ref s.heap.size, .ref a])) := (c12.trans (st13 _ (Steps.refl _))).trans (by
    refine XS.aloadN X13.here hexec rfl (hb hbytes d51) rfl rfl ?_
    refine XS.aload X13.here hexec rfl (hb hbytes d52) rfl rfl ?_
    exact Steps.refl _)
  obtain ⟨T15, X15, p15, bl15, sl15, st15⟩ := X13.finit hexec hown (wk W (.fieldLink "java/lang/String" 9 "java/lang/String" "value" "[B")) (Or.inr ⟨_, (wk W (.laysFinal "java/lang/String" "java/lang/String" "value" "[B"))⟩) (Or.inl ⟨rfl, hnm⟩) f1 (Or.inl rfl) bl13 (t := (.array .byte)) (by decide +kernel) rfl (g := (mkF m 54 #[.val (.ref a), .val (.ref b), .val (.int (Int32.ofNat o)), .val (.int (Int32.ofNat len)), .val .null, .val (.ref s.heap.size)] [.ref s.heap.size, .ref a])) rfl (rest := []) rfl (hb hbytes d54)
  have c16 : Steps p.tables e below (s₁.setTop (entryFrame m #[.ref a, .ref b, .int (Int32.ofNat o), .int (Int32.ofNat len), .null] 6)) (T15.setTop (mkF m 57 #[.val (.ref a), .val (.ref b), .val (.int (Int32.ofNat o)), .val (.int (Int32.ofNat len)), .val .null, .val (.ref s.heap.size)] [])) := c14.trans (st15 _ (Steps.refl _))
  have ap := apart (Or.inr ⟨_, (wk W (.laysFinal "java/lang/String" "java/lang/String" "value" "[B"))⟩) (Or.inr ⟨_, (wk W (.laysFinal "java/lang/String" "java/lang/String" "coder" "B"))⟩) f1 f2 (t₁ := .array .byte) (t₂ := .byte) (by decide +kernel) (by decide +kernel) (by decide)
  have al := X8.warmed.alike.symm.trans X15.warmed.alike
  have n7 : T11.heap[s.heap.size]? = some N := by rw [q11]; exact n1.1
  exact ⟨T15, none, _, _, _, X15, by simp, rfl, by omega, (fun _ => rfl), ⟨rfl, _, N, bl15, ((Same.refl D _).set _ (by simp)).set _ (by simp), sl15, (Cell.slots_setSlot_ne _ ap).trans sl13, n1.keep al (p15.other hne (p13.other hne n7)), n2, by rw [al.findClass]; exact n3, n4, n5, fun y c h1 h2 => p15.other h1 (p13.other h1 (by rw [q11]; exact n6 y c h2)), by rw [p15.2.2, p13.2.2, q11]; exact z8⟩, fun fs hl => c16.trans (X15.returnOut hexec hret (hb hbytes d57) hl)⟩
end New4
namespace New1
def yN : MethodName := ⟨"java/lang/String", "<init>", "([C)V"⟩
abbrev yB : ByteArray := jdk_42_method_3_code
theorem d0 : decode yB 0 = .ok (.aload_n 0, 1) := by decide +kernel
theorem d1 : decode yB 1 = .ok (.aload_n 1, 1) := by decide +kernel
theorem d2 : decode yB 2 = .ok (.iconst 0, 1) := by decide +kernel
theorem d3 : decode yB 3 = .ok (.aload_n 1, 1) := by decide +kernel
theorem d4 : decode yB 4 = .ok (.arraylength, 1) := by decide +kernel
theorem d5 : decode yB 5 = .ok (.aconst_null, 1) := by decide +kernel
theorem d6 : decode yB 6 = .ok (.invokespecial 27, 3) := by decide +kernel
theorem d9 : decode yB 9 = .ok (.return_, 1) := by decide +kernel
def site : List Cond := [New4.tab] ++ initW "java/lang/String" 27 New4.yN
def tab : Cond := tabOf yN yB 2 none site
def P (a : Addr) (D : Cell) (fV fC : Field) (b : Addr) (A : Cell) (z : Int32) (args : Array Value) (s : State) : Prop := args = #[.ref a, .ref b] ∧ Blank "java/lang/String" a D s ∧ Found "java/lang/String" "value" "[B" fV s ∧ Found "java/lang/String" "coder" "B" fC s ∧ Ch b A s ∧ StaticIs s "java/lang/String" "COMPACT_STRINGS" "Z" (.int z) ∧ ¬ z = 0 ∧ 0 < A.slots.size ∧ A.slots.size ≤ 536870912 ∧ ∀ i, i < A.slots.size → ¬ 255 < cv A i
def E (a : Addr) (D : Cell) (fV fC : Field) (A : Cell) (r : Option Value) (s u : State) : Prop := Got a D fV fC A 0 A.slots.size r s u
/-- new String(chars), not empty, no char above 255: a Latin-1 String of their low bytes -/
theorem law (l : Launch) (a : Addr) (D : Cell) (fV fC : Field) (b : Addr) (A : Cell) (z : Int32) : Law l yN 2 1 3 52 yB 2 none site (P a D fV fC b A z) (E a D fV fC A) [⟨a, fC.slot⟩, ⟨a, fV.slot⟩] 1 A.slots.size := by
  refine Law.of_walk (plainFor_of_name (by decide +kernel)) (by decide +kernel) (by decide +kernel) (by decide) (fun _ _ h => by rw [h.1]; rfl) (fun _ U U' hal hh h => ⟨h.1, h.2.1.mv hal hh, h.2.2.1.al hal, h.2.2.2.1.al hal, h.2.2.2.2.1.mv hal hh, h.2.2.2.2.2.1.there hal hh, h.2.2.2.2.2.2⟩) (fun r U U' V V' h1 hal h2 h => Got.mv r U U' V V' h1 hal h2 h) ?_
  intro p e s m args below meth c s₁ X0 hexec hbytes hml hret hlk hnm hown hh0 W hP
  obtain ⟨rfl, hB, f1, f2, hA, s1, hz, l0, l2, hp⟩ := hP
  have c1 : Steps p.tables e below (s₁.setTop (entryFrame m #[.ref a, .ref b] 2)) (s₁.setTop (mkF m 0 #[.val (.ref a), .val (.ref b)] [])) := entry rfl
  have c2 : Steps p.tables e below (s₁.setTop (entryFrame m #[.ref a, .ref b] 2)) (s₁.setTop (mkF m 6 #[.val (.ref a), .val (.ref b)] [.null, .int (Int32.ofNat A.slots.size), .int 0, .ref b, .ref a])) := c1.trans (by
    refine XS.aloadN X0.here hexec rfl (hb hbytes d0) rfl rfl ?_
    refine XS.aloadN X0.here hexec rfl (hb hbytes d1) rfl rfl ?_
    refine iconstV X0.here hexec rfl 0 (hb hbytes d2) (by decide) ?_
    refine XS.aloadN X0.here hexec rfl (hb hbytes d3) rfl rfl ?_
    refine X0.alen hexec (hA.1.mv X0.warmed.alike hh0) rfl rfl (hb hbytes d4) ?_
    refine XS.aconstNull X0.here hexec rfl (hb hbytes d5) ?_
    exact Steps.refl _)
  obtain ⟨v3, T3, X3, E3, g3⟩ := X0.callN hexec (New4.law l a D fV fC b A z 0 A.slots.size) rfl hown (wks W (initW "java/lang/String" 27 New4.yN)) (W New4.tab (by simp only [site, List.mem_cons, List.mem_append, true_or, or_true])) (W := 0) (Nat.le_of_ble_eq_true rfl) (Nat.le_of_ble_eq_true rfl) (Nat.le_refl _) (by show 0 + A.slots.size ≤ A.slots.size; omega) (g := (mkF m 6 #[.val (.ref a), .val (.ref b)] [.null, .int (Int32.ofNat A.slots.size), .int (Int32.ofNat 0), .ref b, .ref a])) rfl (by rw [hml]; rfl) c2 (argsL := [.ref b, .int (Int32.ofNat 0), .int (Int32.ofNat A.slots.size), .null]) (rest := []) rfl rfl (by show 2 * 0 + 0 ≤ _; decide) (hb hbytes d6) (⟨rfl, hB.mv X0.warmed.alike hh0, f1.al X0.warmed.alike, f2.al X0.warmed.alike, hA.mv X0.warmed.alike hh0, s1.there X0.warmed.alike hh0, hz, l0, by omega, l2, fun i hi => by rw [Nat.zero_add]; exact hp i hi⟩)
  have e0 := Got.mv _ s₁ s _ _ hh0.symm (Vm.Alike.refl _) rfl E3
  obtain rfl := e0.1
  have c4 : Steps p.tables e below (s₁.setTop (entryFrame m #[.ref a, .ref b] 2)) (T3.setTop (mkF m 9 #[.val (.ref a), .val (.ref b)] [])) := g3
  exact ⟨T3, none, _, _, _, X3, by simp, rfl, by omega, (fun _ => rfl), e0, fun fs hl => c4.trans (X3.returnOut hexec hret (hb hbytes d9) hl)⟩
theorem pays {l : Launch} {R : Room} {p : Program} {e : Env} {below : List Frame} {s : State} {sargs : Array Value} {len W : Nat} (a : Addr) (D : Cell) (fV fC : Field) (b : Addr) (A : Cell) (z : Int32) (htab : tab.before sargs s = true) (hfr : 4 ≤ R.frames) (hlo : W + 65 ≤ R.locals) :
    Back l R p e below s sargs yN len W (fun A₁ a₁ => A₁.cells + 1 ≤ R.cells ∧ A₁.slots + A.slots.size ≤ R.slots ∧ P a D fV fC b A z a₁ A₁.U) (fun A₁ _ v₁ B₁ => E a D fV fC A v₁ A₁.U B₁.U ∧ B₁.locs = A₁.locs ++ [⟨a, fC.slot⟩, ⟨a, fV.slot⟩] ∧ B₁.cells = A₁.cells + 1 ∧ B₁.slots = A₁.slots + A.slots.size) :=
  (law l a D fV fC b A z).pays htab hfr (by omega)
end New1
end StrChars
namespace StrChars.Road
open Jvm Sem ClassFile Op Lib Jvm.Stand Jvm.Free Jvm.Free.XT
open Jvm.Lib.Cold (StaticIs)
abbrev ST : String := "java/lang/String"
/-- every table word that New1's law asks, flat -/
abbrev words : List Jvm.Cond := [.code New1.yN New1.yB 2 none, .initialized ST, .methodLink ST 27 New4.yN, .instanceMethod New4.yN,
  .code New4.yN New4.yB 6 none, .fieldLink ST 38 ST "COMPACT_STRINGS" "Z", .laysFinal ST ST "value" "[B", .fieldLink ST 9 ST "value" "[B", .laysFinal ST ST "coder" "B", .fieldLink ST 15 ST "coder" "B",
  .methodLink ST 1 Lib.objectInit, .instanceMethod Lib.objectInit, .code Lib.objectInit ⟨#[0xb1]⟩ 1 none, .methodLink ST 177 Cmp3.yN, .static Cmp3.yN, .methodLink ST 47 CodL.yN, .static CodL.yN,
  .code Cmp3.yN Cmp3.yB 6 (some (.array .byte)), .initialized U16, .arrayClass .byte, .methodLink U16 115 Cmp5.yN, .static Cmp5.yN, .code Cmp5.yN Cmp5.yB 7 (some .int), .code CodL.yN CodL.yB 2 (some .byte)]
theorem tab_of {a : Array Value} {s : State} (h : ∀ w ∈ words, w.before a s = true) : New1.tab.before a s = true := by
  have h5 : Cmp5.tab.before a s = true := unparts (wk h (.code Cmp5.yN Cmp5.yB 7 (some .int))) (wks h (.initialized Cmp5.yN.cls :: Cmp5.site))
  have hc : CodL.tab.before a s = true := unparts (wk h (.code CodL.yN CodL.yB 2 (some .byte))) (wks h (.initialized CodL.yN.cls :: CodL.site))
  have q5 : ∀ w ∈ Cmp5.tab :: words, w.before a s = true := fun w hw => (List.mem_cons.mp hw).elim (fun e => e ▸ h5) (h w)
  have h3 : Cmp3.tab.before a s = true := unparts (wk q5 (.code Cmp3.yN Cmp3.yB 6 (some (.array .byte)))) (wks q5 (.initialized Cmp3.yN.cls :: Cmp3.site))
  have q3 : ∀ w ∈ Cmp3.tab :: CodL.tab :: words, w.before a s = true := fun w hw => (List.mem_cons.mp hw).elim (fun e => e ▸ h3) fun hw => (List.mem_cons.mp hw).elim (fun e => e ▸ hc) (h w)
  have h4 : New4.tab.before a s = true := unparts (wk q3 (.code New4.yN New4.yB 6 none)) (wks q3 (.initialized New4.yN.cls :: New4.site))
  have q4 : ∀ w ∈ New4.tab :: words, w.before a s = true := fun w hw => (List.mem_cons.mp hw).elim (fun e => e ▸ h4) (h w)
  exact unparts (wk q4 (.code New1.yN New1.yB 2 none)) (wks q4 (.initialized New1.yN.cls :: New1.site))
/-- the words ride from the start Z to the walk's own state -/
theorem moved {Z s : State} {a0 args : Array Value} (hZ : Z.Warmed39 s.vm) (hw : ∀ d ∈ words, d.before a0 Z = true) : ∀ d ∈ words, d.before args s = true := fun d hd => by
  have q := hw d hd
  have t : ∀ d ∈ words, d = .arrayClass .byte ∨ (d.onTables && d.keepsFace) = true := by decide +kernel
  rcases t d hd with rfl | t
  · exact RoadKit.mvA hZ q
  · exact RoadKit.mv hZ q t
/-- WHAT COMES BACK, over the tables of the start Z: h the heap at the call, h' behind it -/
def Q (Z : State) (x : Addr) (A : Cell) (h : Heap) (v : Option Value) (h' : Heap) (L : List Loc) : Prop := v = none ∧ (∀ y ∈ L, y.base = x) ∧ RoadKit.Keep h h' [x] ∧ h'.size = h.size + 1 ∧ RoadKit.Exa Z h' x ST ∧ RoadKit.Fld Z h' x ST "value" "[B" (.ref h.size) ∧ RoadKit.Fld Z h' x ST "coder" "B" (.int 0) ∧
  (∃ V : Cell, RoadKit.Arr Z h' h.size V .byte ∧ V.vm = .none ∧ Z.vm.findClass "[B" = some V.cls ∧ V.slots.size = A.slots.size ∧ ∀ j, j < A.slots.size → V.slots[j]? = some (.int (lo8 (cv A j)))) ∧
  ∀ (O n d : String) (w : Value), RoadKit.Fld Z h x O n d w → RoadKit.slotOf Z O n d ≠ RoadKit.slotOf Z ST "value" "[B" → RoadKit.slotOf Z O n d ≠ RoadKit.slotOf Z ST "coder" "B" → RoadKit.Fld Z h' x O n d w
/-- **new String(chars) AT A CALL, IN THE ROAD'S FORM**: for specialBack behind newO: x the fresh String, b the char[] with the cell A -/
theorem back {p : Program} {l : Launch} {e : Env} {R : Room} {s : State} {args : Array Value} {below : List Frame} {len W : Nat} {Z : State} {a0 : Array Value} {h : Heap} (hZ : Z.Warmed39 s.vm) (hw : ∀ d ∈ words, d.before a0 Z = true) {kI : Nat} (wi : (Jvm.Cond.instantiable ST kI).before a0 Z = true)
    {x b : Addr} {A : Cell} {z : Int32} {v0 c0 : Value} (E : RoadKit.Exa Z h x ST) (V : RoadKit.Fld Z h x ST "value" "[B" v0) (C : RoadKit.Fld Z h x ST "coder" "B" c0) (K : RoadKit.Arr Z h b A .char) (hty : Typed .char A) (S : RoadKit.Sta Z h ST "COMPACT_STRINGS" "Z" (.int z)) (hz : ¬ z = 0)
    (l0 : 0 < A.slots.size) (l2 : A.slots.size ≤ 536870912) (hp : ∀ i, i < A.slots.size → ¬ 255 < cv A i) (hfr : 4 ≤ R.frames) (hlo : W + 65 ≤ R.locals) :
    Back l R p e below s args New1.yN len W (fun P a => a = #[.ref x, .ref b] ∧ P.U.heap = h ∧ P.cells + 1 ≤ R.cells ∧ P.slots + A.slots.size ≤ R.slots)
      (fun P _ v B => ∃ L, Q Z x A h v B.U.heap L ∧ B.locs = P.locs ++ L ∧ B.cells = P.cells + 1 ∧ B.slots = P.slots + A.slots.size) := by
  intro m meth c P g ig mk a X hg hsize hdg hW hn hp'
  obtain ⟨rfl, rfl, r1, r2⟩ := hp'
  have al : Z.vm.Alike P.U.vm := hZ.alike.trans X.warmed.alike
  obtain ⟨D, cfV, kV, iV, fV, hD, gV, stV, knV, obV, asV, slV⟩ := id V
  obtain ⟨D', cfC, kC, iC, fC, hD', gC, stC, -, -, asC, slC⟩ := id C
  cases hD.symm.trans hD'
  obtain ⟨D2, kD, e1, e2, e3, e4, e5⟩ := id E
  cases hD.symm.trans e1
  obtain ⟨c2, k2, i1, i2, i3, -⟩ := Cond.instantiable_spec wi
  cases e2.symm.trans i1
  cases e3.symm.trans i2
  obtain ⟨kU, u1, u2⟩ := al.2.2 _ _ e3
  have hB : Blank ST x D P.U := ⟨hD, ⟨knV, fun q hq => by rw [hq] at obV; cases obV⟩, by rw [al.findClass]; exact e2, kU, u1, by rw [u2]; exact i3, by rw [u2]; exact e5 i3⟩
  have F1 : Found ST "value" "[B" fV P.U := ⟨SBG.found_only al ⟨cfV, kV, iV, gV⟩, stV⟩
  have F2 : Found ST "coder" "B" fC P.U := ⟨SBG.found_only al ⟨cfC, kC, iC, gC⟩, stC⟩
  have hA : Ch b A P.U := ⟨⟨K.1, State.isArrayOf_alike al K.2.1, K.2.2, by omega⟩, hty⟩
  have hS : StaticIs P.U ST "COMPACT_STRINGS" "Z" (.int z) := by
    obtain ⟨cfS, iS, kS, fS, st, cS, t1, t2, t3, t4, t5, t6, t7⟩ := S
    exact StaticIs.there (s := { Z with heap := P.U.heap }) ⟨cfS, iS, kS, fS, st, cS, t1, t2, t3, t4, t5, (fun q => by rw [q] at t6; cases t6), t7⟩ al rfl
  obtain ⟨v, B, X', ⟨⟨hv, E', V', q1, q2, q3, q4, q5, q6, q7, q8, q9, q10, q11⟩, hl, hc, hs⟩, st⟩ := New1.pays x D fV fC b A z (tab_of (moved hZ hw)) hfr hlo m meth c P g ig mk _ X hg hsize hdg hW hn ⟨r1, r2, rfl, hB, F1, F2, hA, hS, hz, l0, l2, hp⟩
  have al' : Z.vm.Alike B.U.vm := hZ.alike.trans X'.warmed.alike
  have hsz : E'.slots.size = D.slots.size := by
    obtain ⟨-, -, -, kB, w1, w2, w3⟩ := q1
    obtain ⟨kB', y1, y2⟩ := al'.2.2 _ _ e3
    rw [q2.2.1] at w1
    cases w1.symm.trans y1
    rw [w3, e5 i3, y2]
  refine ⟨v, B, X', ⟨_, ⟨hv, ?_, ⟨by omega, fun y cy hy hn' => q10 y cy (by simpa using hn') hy, fun y cy hy => ?_⟩, q11, ⟨E', _, q1.1, by rw [q2.2.1]; exact e2, by rw [q2.2.1]; exact e3, by rw [q2.1]; exact obV, fun _ => by rw [hsz]; exact e5 i3⟩,
    ⟨E', cfV, kV, iV, fV, q1.1, gV, stV, by rw [q2.1]; exact knV, by rw [q2.1]; exact obV, by rw [q2.2.1]; exact asV, q3⟩, ⟨E', cfC, kC, iC, fC, q1.1, gC, stC, by rw [q2.1]; exact knV, by rw [q2.1]; exact obV, by rw [q2.2.1]; exact asC, q4⟩,
    ⟨V', ⟨q5.1, State.isArrayOf_alike al'.symm q5.2.1, q5.2.2.1⟩, q6, by rw [← al'.findClass]; exact q7, q8, fun j hj => by have := q9 j hj; rwa [Nat.zero_add] at this⟩, fun O n d w F n1 n2 => ?_⟩, hl, hc, hs⟩, st⟩
  · intro y hy
    simp only [List.mem_cons, List.not_mem_nil, or_false] at hy
    rcases hy with rfl | rfl <;> rfl
  · by_cases q : y = x
    · subst q
      cases hD.symm.trans hy
      exact ⟨E', q1.1, q2.2.1, q2.1, hsz⟩
    · exact ⟨cy, q10 y cy q hy, rfl, rfl, rfl⟩
  · obtain ⟨D3, cf, k, i, f, g1, g2, g3, g4, g5, g6, g7⟩ := F
    cases hD.symm.trans g1
    simp only [RoadKit.slotOf, g2, gV, gC, Option.map_some, Option.getD_some] at n1 n2
    exact ⟨E', cf, k, i, f, q1.1, g2, g3, by rw [q2.1]; exact g4, by rw [q2.1]; exact g5, by rw [q2.2.1]; exact g6, by rw [q2.2.2 f.slot (by simp [n1, n2])]; exact g7⟩
end StrChars.Road
namespace StrChars.Road
open Jvm Sem ClassFile Op Lib Jvm.Stand Jvm.Free Jvm.Free.XT
/-- WHAT COMES BACK, the byte[] as a list of values -/
def QA (Z : State) (x : Addr) (zn : Int32) (cs : List Int32) (h : Heap) (v : Option Value) (h' : Heap) (L : List Loc) : Prop := v = none ∧ (∀ y ∈ L, y.base = x) ∧ RoadKit.Keep h h' [x] ∧ h'.size = h.size + 1 ∧ RoadKit.Exa Z h' x ST ∧ RoadKit.Fld Z h' x ST "value" "[B" (.ref h.size) ∧ RoadKit.Fld Z h' x ST "coder" "B" (.int 0) ∧
  (∃ kb, Z.vm.findClass "[B" = some kb ∧ RoadKit.Arv Z h' h.size kb .byte zn (cs.map fun c => .int (lo8 c)) (.int 0)) ∧
  ∀ (O n d : String) (w : Value), RoadKit.Fld Z h x O n d w → RoadKit.slotOf Z O n d ≠ RoadKit.slotOf Z ST "value" "[B" → RoadKit.slotOf Z O n d ≠ RoadKit.slotOf Z ST "coder" "B" → RoadKit.Fld Z h' x O n d w
/-- **new String(chars) AT A CALL, THE ARRAYS AS LISTS**: the char[] at b holds cs, not empty, no char above 255 -/
theorem backArv {p : Program} {l : Launch} {e : Env} {R : Room} {s : State} {args : Array Value} {below : List Frame} {len W : Nat} {Z : State} {a0 : Array Value} {h : Heap} (hZ : Z.Warmed39 s.vm) (hw : ∀ d ∈ words, d.before a0 Z = true) {kI : Nat} (wi : (Jvm.Cond.instantiable ST kI).before a0 Z = true)
    {x b : Addr} {k : ClassId} {zn z : Int32} {cs : List Int32} {dv v0 c0 : Value} (E : RoadKit.Exa Z h x ST) (V : RoadKit.Fld Z h x ST "value" "[B" v0) (C : RoadKit.Fld Z h x ST "coder" "B" c0) (K : RoadKit.Arv Z h b k .char zn (cs.map Value.int) dv) (S : RoadKit.Sta Z h ST "COMPACT_STRINGS" "Z" (.int z)) (hz : ¬ z = 0)
    (hlen : zn.toNatClampNeg = cs.length) (h0 : 0 < cs.length) (hbig : cs.length ≤ 536870912) (hall : ∀ c ∈ cs, ¬ 255 < c) (hfr : 4 ≤ R.frames) (hlo : W + 65 ≤ R.locals) :
    Back l R p e below s args New1.yN len W (fun P a => a = #[.ref x, .ref b] ∧ P.U.heap = h ∧ P.cells + 1 ≤ R.cells ∧ P.slots + cs.length ≤ R.slots)
      (fun P _ v B => ∃ L, QA Z x zn cs h v B.U.heap L ∧ B.locs = P.locs ++ L ∧ B.cells = P.cells + 1 ∧ B.slots = P.slots + cs.length) := by
  obtain ⟨A, K1, K2, K3, K4, K5, K6⟩ := K
  have e : A.slots.size = cs.length := K3.trans hlen
  have hat : ∀ (i : Nat) (hi : i < cs.length), A.slots[i]? = some (.int cs[i]) := fun i hi => by rw [K5 i (by omega)]; simp [List.getD_eq_getElem?_getD, hi]
  have hcv : ∀ (i : Nat) (hi : i < cs.length), cv A i = cs[i] := fun i hi => by unfold cv; rw [hat i hi]
  have hty : Typed .char A := fun i v hv => by
    have hi : i < A.slots.size := (Array.getElem?_eq_some_iff.mp hv).1
    have q := K5 i hi
    rw [hv] at q
    rw [Option.some.inj q]
    exact K6 i hi
  refine Back.mono (back hZ hw wi E V C K1 hty S hz (by omega) (by omega) (fun i hi => by rw [hcv i (by omega)]; exact hall _ (List.getElem_mem _)) hfr hlo) (fun P a hp => ⟨hp.1, hp.2.1, hp.2.2.1, by rw [e]; exact hp.2.2.2⟩) (fun P a v B hp hq => ?_)
  obtain ⟨L, ⟨q1, q2, q3, q4, q5, q6, q7, ⟨V', v1, v2, v3, v4, v5⟩, q9⟩, hl, hc, hs⟩ := hq
  refine ⟨L, ⟨q1, q2, q3, q4, q5, q6, q7, ⟨V'.cls, v3, V', v1, rfl, by rw [v4, e, hlen], K4, fun i hi => ?_, fun i hi => ?_⟩, q9⟩, hl, hc, by rw [hs, e]⟩
  · have hi' : i < cs.length := by omega
    rw [v5 i (by omega), hcv i hi']; simp [List.getD_eq_getElem?_getD, hi']
  · have hi' : i < cs.length := by omega
    simp only [List.getD_eq_getElem?_getD, List.getElem?_map, List.getElem?_eq_getElem hi', Option.map_some, Option.getD_some]
    exact fits_lo8 _
end StrChars.Road
namespace StrChars.Road
open Jvm Sem ClassFile Op Lib Jvm.Stand Jvm.Free Jvm.Free.XT
/-- WHAT COMES BACK, in the writer's own shape -/
def QV (Z : State) (x : Addr) (N : Int32) (bs : List Int32) (h : Heap) (n0 : Nat) (v : Option Value) (h' : Heap) (L : List Loc) : Prop := v = none ∧ RoadKit.Fr n0 L ∧ RoadKit.Keep h h' [x] ∧ RoadKit.Exa Z h' x ST ∧ RoadKit.Fld Z h' x ST "coder" "B" (.int 0) ∧
  ∃ (t : Addr) (kb : ClassId), n0 ≤ t ∧ h.size ≤ t ∧ ¬ t = x ∧ RoadKit.Fld Z h' x ST "value" "[B" (.ref t) ∧ RoadKit.Arv Z h' t kb .byte N (bs.map Value.int) (.int 0)
/-- **new String(chars) AT A CALL, FOR THE WRITER**: a char[] of n known ints, each 0 to 255 -/
theorem backV {p : Program} {l : Launch} {e : Env} {R : Room} {s : State} {args : Array Value} {below : List Frame} {len W : Nat} {Z : State} {a0 : Array Value} {h : Heap} (hZ : Z.Warmed39 s.vm) (hw : ∀ d ∈ words, d.before a0 Z = true) {kI : Nat} (wi : (Jvm.Cond.instantiable ST kI).before a0 Z = true)
    {x b : Addr} {kC : ClassId} {cs bs : List Int32} {d v0 c0 : Value} {z N : Int32} {n n0 : Nat} (hx0 : n0 ≤ x) (hh0 : n0 ≤ h.size) (E : RoadKit.Exa Z h x ST) (V : RoadKit.Fld Z h x ST "value" "[B" v0) (C : RoadKit.Fld Z h x ST "coder" "B" c0) (K : RoadKit.Arv Z h b kC .char N (cs.map Value.int) d) (S : RoadKit.Sta Z h ST "COMPACT_STRINGS" "Z" (.int z)) (hz : ¬ z = 0)
    (hn : cs.length = n) (hN : N = Int32.ofNat n) (l0 : 0 < n) (l2 : n ≤ 4000) (hp : ∀ c ∈ cs, ¬ c < 0 ∧ ¬ (255 : Int32) < c) (hb : bs = cs.map (fun c => c.toInt8.toInt32)) (hfr : 4 ≤ R.frames) (hlo : W + 65 ≤ R.locals) :
    Back l R p e below s args (⟨"java/lang/String", "<init>", "([C)V"⟩ : MethodName) len W (fun P a => a = #[.ref x, .ref b] ∧ P.U.heap = h ∧ P.cells + 1 ≤ R.cells ∧ P.slots + n ≤ R.slots)
      (fun P _ v B => ∃ L, QV Z x N bs h n0 v B.U.heap L ∧ B.locs = P.locs ++ L ∧ B.cells = P.cells + 1 ∧ B.slots = P.slots + n) := by
  subst hn hN hb
  refine Back.mono (backArv hZ hw wi E V C K S hz (n32 (by omega)) l0 (by omega) (fun c hc => (hp c hc).2) hfr hlo) (fun P a hp => hp) (fun P a v B hp hq => ?_)
  obtain ⟨L, ⟨q1, q2, q3, q4, q5, q6, q7, ⟨kb, v1, v2⟩, q9⟩, hl, hc, hs⟩ := hq
  exact ⟨L, ⟨q1, fun y hy => by rw [q2 y hy]; exact hx0, q3, q5, q7, h.size, kb, hh0, Nat.le_refl _, Nat.ne_of_gt E.lt, q6, by rw [List.map_map]; exact v2⟩, hl, hc, hs⟩
end StrChars.Road
end Jvm.Pilot.@@N@@

namespace Jvm.Pilot.@@N@@
open Jvm Jvm.ClassFile Sem Op Lib Jvm.Free Jvm.Stand Jvm.LawKit Jvm.RoadKit Bundle Jvm.Pilot.@@N@@.Jvm.D
/-- x is a Latin-1 String of the chars cs, its bytes in the array t -/
def Str (Z : State) (h : Heap) (x t : Addr) (k : ClassId) (cs : List Int32) : Prop := Exa Z h x "java/lang/String" ∧ Fld Z h x "java/lang/String" "value" "[B" (.ref t) ∧ Fld Z h x "java/lang/String" "coder" "B" (.int 0) ∧ Arv Z h t k .byte (Int32.ofNat cs.length) ((cs.map fun c => c.toInt8.toInt32).map Value.int) (.int 0) ∧ (∀ c ∈ cs, ¬ c < 0 ∧ ¬ (255 : Int32) < c) ∧ cs.length ≤ 4000
theorem Str.ext {Z : State} {h h' : Heap} {x t : Addr} {k : ClassId} {cs : List Int32} (S : Str Z h x t k cs) (E : Ext h h') : Str Z h' x t k cs := ⟨S.1.ext E, S.2.1.ext E, S.2.2.1.ext E, S.2.2.2.1.ext E, S.2.2.2.2⟩
theorem Str.keep {Z : State} {h h' : Heap} {x t : Addr} {k : ClassId} {cs : List Int32} {ws : List Addr} (S : Str Z h x t k cs) (K : Keep h h' ws) (q : x ∉ ws) (r : t ∉ ws) : Str Z h' x t k cs := ⟨S.1.keep K, S.2.1.keep K q, S.2.2.1.keep K q, S.2.2.2.1.keep K r, S.2.2.2.2⟩
theorem Str.other {Z : State} {h h' : Heap} {x t a : Addr} {k : ClassId} {cs : List Int32} {sl : Nat} {v : Value} (S : Str Z h x t k cs) (W : Wr h h' a sl v) (q : x ≠ a) (r : t ≠ a) : Str Z h' x t k cs := ⟨S.1.wr W, S.2.1.other W (Or.inl q), S.2.2.1.other W (Or.inl q), S.2.2.2.1.other W r, S.2.2.2.2⟩
theorem Str.ltT {Z : State} {h : Heap} {x t : Addr} {k : ClassId} {cs : List Int32} (S : Str Z h x t k cs) : t < h.size := S.2.2.2.1.lt
theorem own_c0 {P : Int32 → Prop} : ∀ c ∈ ([] : List Int32), P c := fun _ q => nomatch q
theorem own_cS {P : Int32 → Prop} {y : Int32} {L : List Int32} (q : P y) (r : ∀ c ∈ L, P c) : ∀ c ∈ y :: L, P c := fun c z => (List.mem_cons.mp z).elim (fun u => u ▸ q) (r c)
theorem own_lit (x : Int32) (k : Nat) (hk : k < 2 ^ 31) : (x &&& (255 : Int32)) = Int32.ofNat (x &&& 255).toBitVec.toNat := by
  apply Int32.toBitVec_inj.mp
  show _ = BitVec.ofNat 32 _
  rw [BitVec.ofNat_toNat]; simp
theorem own_lt256 (x : Int32) : (x &&& 255).toBitVec.toNat < 256 := by
  simp only [Int32.toBitVec_and, BitVec.toNat_and]
  exact Nat.lt_succ_of_le Nat.and_le_right
theorem own_and255 (x : Int32) : ¬ nar .char ((x &&& (255 : Int32)).toUInt32.toUInt16.toUInt32.toInt32) < 0 ∧ ¬ (255 : Int32) < nar .char ((x &&& (255 : Int32)).toUInt32.toUInt16.toUInt32.toInt32) := by
  have t : ∀ k : Fin 256, ¬ nar .char ((Int32.ofNat k.val).toUInt32.toUInt16.toUInt32.toInt32) < 0 ∧ ¬ (255 : Int32) < nar .char ((Int32.ofNat k.val).toUInt32.toUInt16.toUInt32.toInt32) := by decide +kernel
  rw [own_lit x 0 (by decide)]
  exact t ⟨_, own_lt256 x⟩
theorem own_i2c255 (x : Int32) : nar .char ((x &&& (255 : Int32)).toUInt32.toUInt16.toUInt32.toInt32) = (x &&& (255 : Int32)) := by
  have t : ∀ k : Fin 256, nar .char ((Int32.ofNat k.val).toUInt32.toUInt16.toUInt32.toInt32) = Int32.ofNat k.val := by decide +kernel
  rw [own_lit x 0 (by decide)]
  exact t ⟨_, own_lt256 x⟩
theorem own_i2cr (x : Int32) : ¬ ((x &&& (255 : Int32)).toUInt32.toUInt16.toUInt32.toInt32) < 0 ∧ ¬ (255 : Int32) < ((x &&& (255 : Int32)).toUInt32.toUInt16.toUInt32.toInt32) := by
  have t : ∀ k : Fin 256, ¬ ((Int32.ofNat k.val).toUInt32.toUInt16.toUInt32.toInt32) < 0 ∧ ¬ (255 : Int32) < ((Int32.ofNat k.val).toUInt32.toUInt16.toUInt32.toInt32) := by decide +kernel
  rw [own_lit x 0 (by decide)]
  exact t ⟨_, own_lt256 x⟩
theorem own_rng {c : Int32} (h : ¬ c < 0 ∧ ¬ (255 : Int32) < c) : ∃ k : Fin 256, c = Int32.ofNat k.val := by
  obtain ⟨h0, h1⟩ := h
  rw [Int32.lt_iff_toInt_lt] at h0 h1
  have e1 : (255 : Int32).toInt = 255 := rfl
  have e2 : (0 : Int32).toInt = 0 := rfl
  refine ⟨⟨c.toInt.toNat, by omega⟩, ?_⟩
  apply Int32.toInt_inj.mp
  show c.toInt = (Int32.ofNat c.toInt.toNat).toInt
  rw [Int32.toInt_ofNat_of_lt (by omega)]
  omega
theorem own_narc {c : Int32} (h : ¬ c < 0 ∧ ¬ (255 : Int32) < c) : nar .char c = c := by
  have t : ∀ k : Fin 256, nar .char (Int32.ofNat k.val) = Int32.ofNat k.val := by decide +kernel
  obtain ⟨k, rfl⟩ := own_rng h
  exact t k
theorem own_fitsc {c : Int32} (h : ¬ c < 0 ∧ ¬ (255 : Int32) < c) : fits .char (.int c) = true := by
  have t : ∀ k : Fin 256, fits .char (.int (Int32.ofNat k.val)) = true := by decide +kernel
  obtain ⟨k, rfl⟩ := own_rng h
  exact t k
theorem own_up {cs : List Int32} (h : ∀ c ∈ cs, ¬ c < 0 ∧ ¬ (255 : Int32) < c) : ∀ c ∈ cs, ¬ c < 0 ∧ ¬ (65535 : Int32) < c := fun c hc => ⟨(h c hc).1, fun q => (h c hc).2 (by rw [Int32.lt_iff_toInt_lt] at q ⊢; have e1 : (65535 : Int32).toInt = 65535 := rfl; have e2 : (255 : Int32).toInt = 255 := rfl; omega)⟩
theorem own_hws {Z : State} {a0 : Array Value} (hw : ∀ d ∈ tables_1, d.before a0 Z = true) : ∀ d ∈ StrChars.Road.words, d.before a0 Z = true := fun d hd => hw d ((by decide +kernel : ∀ d ∈ StrChars.Road.words, d ∈ tables_1) d hd)
end Jvm.Pilot.@@N@@
namespace Jvm.Pilot.@@N@@
open Jvm Jvm.ClassFile Sem Op Lib Jvm.Free Jvm.Stand Jvm.LawKit Jvm.RoadKit Bundle Jvm.Pilot.@@N@@.Jvm.D
theorem d1_0 : decode jdk_42_method_3_code 0 = .ok (.aload_n 0, 1) := by decide +kernel
theorem d1_1 : decode jdk_42_method_3_code 1 = .ok (.aload_n 1, 1) := by decide +kernel
theorem d1_2 : decode jdk_42_method_3_code 2 = .ok (.iconst 0, 1) := by decide +kernel
theorem d1_3 : decode jdk_42_method_3_code 3 = .ok (.aload_n 1, 1) := by decide +kernel
theorem d1_4 : decode jdk_42_method_3_code 4 = .ok (.arraylength, 1) := by decide +kernel
theorem d1_5 : decode jdk_42_method_3_code 5 = .ok (.aconst_null, 1) := by decide +kernel
theorem d1_6 : decode jdk_42_method_3_code 6 = .ok (.invokespecial 27, 3) := by decide +kernel
theorem d1_9 : decode jdk_42_method_3_code 9 = .ok (.return_, 1) := by decide +kernel
theorem d2_0 : decode jdk_42_method_149_code 0 = .ok (.aload_n 0, 1) := by decide +kernel
theorem d2_1 : decode jdk_42_method_149_code 1 = .ok (.invokespecial 1, 3) := by decide +kernel
theorem d2_4 : decode jdk_42_method_149_code 4 = .ok (.iload_n 3, 1) := by decide +kernel
theorem d2_5 : decode jdk_42_method_149_code 5 = .ok (.ifCond .ne 22, 3) := by decide +kernel
theorem d2_8 : decode jdk_42_method_149_code 8 = .ok (.aload_n 0, 1) := by decide +kernel
theorem d2_9 : decode jdk_42_method_149_code 9 = .ok (.ldc 7, 2) := by decide +kernel
theorem d2_11 : decode jdk_42_method_149_code 11 = .ok (.getfield 9, 3) := by decide +kernel
theorem d2_14 : decode jdk_42_method_149_code 14 = .ok (.putfield 9, 3) := by decide +kernel
theorem d2_17 : decode jdk_42_method_149_code 17 = .ok (.aload_n 0, 1) := by decide +kernel
theorem d2_18 : decode jdk_42_method_149_code 18 = .ok (.ldc 7, 2) := by decide +kernel
theorem d2_20 : decode jdk_42_method_149_code 20 = .ok (.getfield 15, 3) := by decide +kernel
theorem d2_23 : decode jdk_42_method_149_code 23 = .ok (.putfield 15, 3) := by decide +kernel
theorem d2_26 : decode jdk_42_method_149_code 26 = .ok (.return_, 1) := by decide +kernel
theorem d7_0 : decode prog_77_method_1_code 0 = .ok (.aload_n 0, 1) := by decide +kernel
theorem d7_1 : decode prog_77_method_1_code 1 = .ok (.invokespecial 1, 3) := by decide +kernel
theorem d7_4 : decode prog_77_method_1_code 4 = .ok (.return_, 1) := by decide +kernel
theorem d8_0 : decode prog_77_method_2_code 0 = .ok (.aload_n 0, 1) := by decide +kernel
theorem d8_1 : decode prog_77_method_2_code 1 = .ok (.getfield 7, 3) := by decide +kernel
theorem d8_4 : decode prog_77_method_2_code 4 = .ok (.ifnonnull 7, 3) := by decide +kernel
theorem d8_7 : decode prog_77_method_2_code 7 = .ok (.iconst 1, 1) := by decide +kernel
theorem d8_8 : decode prog_77_method_2_code 8 = .ok (.goto 4, 3) := by decide +kernel
theorem d8_11 : decode prog_77_method_2_code 11 = .ok (.iconst 0, 1) := by decide +kernel
theorem d8_12 : decode prog_77_method_2_code 12 = .ok (.ireturn, 1) := by decide +kernel
theorem d9_0 : decode prog_77_method_3_code 0 = .ok (.aload_n 0, 1) := by decide +kernel
theorem d9_1 : decode prog_77_method_3_code 1 = .ok (.aload_n 1, 1) := by decide +kernel
theorem d9_2 : decode prog_77_method_3_code 2 = .ok (.putfield 7, 3) := by decide +kernel
theorem d9_5 : decode prog_77_method_3_code 5 = .ok (.return_, 1) := by decide +kernel
theorem pn_0 : plainName "java/lang/String" = true := by first | (simp [plainName, overriddenIn]; done) | decide +kernel
theorem pn_1 : plainName "com/example/tenon/tenon/registry/Validity" = true := by first | (simp [plainName, overriddenIn]; done) | decide +kernel
theorem pn_2 : plainName "com/example/tenon/tenon/registry/ValidityIsValidPinLaw" = true := by first | (simp [plainName, overriddenIn]; done) | decide +kernel
theorem pd_0 : parseMethodDescriptor "([CIILjava/lang/Void;)V" = some ⟨[(.array .char), .int, .int, (.object "java/lang/Void")], none⟩ := by decide +kernel
theorem pd_1 : parseMethodDescriptor "([C)V" = some ⟨[(.array .char)], none⟩ := by decide +kernel
theorem pd_2 : parseMethodDescriptor "()V" = some ⟨[], none⟩ := by decide +kernel
theorem pd_3 : parseMethodDescriptor "()Z" = some ⟨[], some .boolean⟩ := by decide +kernel
theorem pd_4 : parseMethodDescriptor "(Ljava/lang/String;)V" = some ⟨[(.object "java/lang/String")], none⟩ := by decide +kernel
theorem hw0 {Z : State} {a0 : Array Value} (hw : ∀ d ∈ tables_1, d.before a0 Z = true) : (Jvm.Cond.arrayClass Jvm.ClassFile.FieldType.char).before a0 Z = true := hw _ (List.mem_of_getElem? (i := 0) rfl)
theorem hw1 {Z : State} {a0 : Array Value} (hw : ∀ d ∈ tables_1, d.before a0 Z = true) : (Jvm.Cond.classLink "com/example/tenon/tenon/registry/ValidityIsValidPinLaw" (7 : Nat) "java/lang/String").before a0 Z = true := hw _ (List.mem_of_getElem? (i := 1) rfl)
theorem hw2 {Z : State} {a0 : Array Value} (hw : ∀ d ∈ tables_1, d.before a0 Z = true) : (Jvm.Cond.instantiable "java/lang/String" (4 : Nat)).before a0 Z = true := hw _ (List.mem_of_getElem? (i := 2) rfl)
theorem hw3 {Z : State} {a0 : Array Value} (hw : ∀ d ∈ tables_1, d.before a0 Z = true) : (Jvm.Cond.initialized "java/lang/String").before a0 Z = true := hw _ (List.mem_of_getElem? (i := 3) rfl)
theorem hw4 {Z : State} {a0 : Array Value} (hw : ∀ d ∈ tables_1, d.before a0 Z = true) : (Jvm.Cond.methodLink "com/example/tenon/tenon/registry/ValidityIsValidPinLaw" (9 : Nat) ({ cls := "java/lang/String", name := "<init>", desc := "([C)V" } : Jvm.MethodName)).before a0 Z = true := hw _ (List.mem_of_getElem? (i := 4) rfl)
theorem hw5 {Z : State} {a0 : Array Value} (hw : ∀ d ∈ tables_1, d.before a0 Z = true) : (Jvm.Cond.instanceMethod ({ cls := "java/lang/String", name := "<init>", desc := "([C)V" } : Jvm.MethodName)).before a0 Z = true := hw _ (List.mem_of_getElem? (i := 5) rfl)
theorem hw6 {Z : State} {a0 : Array Value} (hw : ∀ d ∈ tables_1, d.before a0 Z = true) : (Jvm.Cond.code ({ cls := "java/lang/String", name := "<init>", desc := "([C)V" } : Jvm.MethodName) jdk_42_method_3_code (2 : Nat) (Option.none : Option Jvm.ClassFile.FieldType)).before a0 Z = true := hw _ (List.mem_of_getElem? (i := 6) rfl)
theorem hw7 {Z : State} {a0 : Array Value} (hw : ∀ d ∈ tables_1, d.before a0 Z = true) : (Jvm.Cond.methodLink "java/lang/String" (27 : Nat) ({ cls := "java/lang/String", name := "<init>", desc := "([CIILjava/lang/Void;)V" } : Jvm.MethodName)).before a0 Z = true := hw _ (List.mem_of_getElem? (i := 7) rfl)
theorem hw8 {Z : State} {a0 : Array Value} (hw : ∀ d ∈ tables_1, d.before a0 Z = true) : (Jvm.Cond.instanceMethod ({ cls := "java/lang/String", name := "<init>", desc := "([CIILjava/lang/Void;)V" } : Jvm.MethodName)).before a0 Z = true := hw _ (List.mem_of_getElem? (i := 8) rfl)
theorem hw10 {Z : State} {a0 : Array Value} (hw : ∀ d ∈ tables_1, d.before a0 Z = true) : (Jvm.Cond.code ({ cls := "java/lang/String", name := "<init>", desc := "([CIILjava/lang/Void;)V" } : Jvm.MethodName) jdk_42_method_149_code (6 : Nat) (Option.none : Option Jvm.ClassFile.FieldType)).before a0 Z = true := hw _ (List.mem_of_getElem? (i := 10) rfl)
theorem hw11 {Z : State} {a0 : Array Value} (hw : ∀ d ∈ tables_1, d.before a0 Z = true) : (Jvm.Cond.methodLink "java/lang/String" (1 : Nat) ({ cls := "java/lang/Object", name := "<init>", desc := "()V" } : Jvm.MethodName)).before a0 Z = true := hw _ (List.mem_of_getElem? (i := 11) rfl)
theorem hw12 {Z : State} {a0 : Array Value} (hw : ∀ d ∈ tables_1, d.before a0 Z = true) : (Jvm.Cond.instanceMethod ({ cls := "java/lang/Object", name := "<init>", desc := "()V" } : Jvm.MethodName)).before a0 Z = true := hw _ (List.mem_of_getElem? (i := 12) rfl)
theorem hw13 {Z : State} {a0 : Array Value} (hw : ∀ d ∈ tables_1, d.before a0 Z = true) : (Jvm.Cond.code ({ cls := "java/lang/Object", name := "<init>", desc := "()V" } : Jvm.MethodName) object_method_1_code (1 : Nat) (Option.none : Option Jvm.ClassFile.FieldType)).before a0 Z = true := hw _ (List.mem_of_getElem? (i := 13) rfl)
theorem hw19 {Z : State} {a0 : Array Value} (hw : ∀ d ∈ tables_1, d.before a0 Z = true) : (Jvm.Cond.arrayClass Jvm.ClassFile.FieldType.byte).before a0 Z = true := hw _ (List.mem_of_getElem? (i := 19) rfl)
theorem hw26 {Z : State} {a0 : Array Value} (hw : ∀ d ∈ tables_1, d.before a0 Z = true) : (Jvm.Cond.fieldLink "java/lang/String" (15 : Nat) "java/lang/String" "coder" "B").before a0 Z = true := hw _ (List.mem_of_getElem? (i := 26) rfl)
theorem hw27 {Z : State} {a0 : Array Value} (hw : ∀ d ∈ tables_1, d.before a0 Z = true) : (Jvm.Cond.laysFinal "java/lang/String" "java/lang/String" "coder" "B").before a0 Z = true := hw _ (List.mem_of_getElem? (i := 27) rfl)
theorem hw28 {Z : State} {a0 : Array Value} (hw : ∀ d ∈ tables_1, d.before a0 Z = true) : (Jvm.Cond.fieldLink "java/lang/String" (9 : Nat) "java/lang/String" "value" "[B").before a0 Z = true := hw _ (List.mem_of_getElem? (i := 28) rfl)
theorem hw29 {Z : State} {a0 : Array Value} (hw : ∀ d ∈ tables_1, d.before a0 Z = true) : (Jvm.Cond.laysFinal "java/lang/String" "java/lang/String" "value" "[B").before a0 Z = true := hw _ (List.mem_of_getElem? (i := 29) rfl)
theorem hw30 {Z : State} {a0 : Array Value} (hw : ∀ d ∈ tables_1, d.before a0 Z = true) : (Jvm.Cond.classLink "com/example/tenon/tenon/registry/ValidityIsValidPinLaw" (12 : Nat) "com/example/tenon/tenon/registry/Validity").before a0 Z = true := hw _ (List.mem_of_getElem? (i := 30) rfl)
theorem hw31 {Z : State} {a0 : Array Value} (hw : ∀ d ∈ tables_1, d.before a0 Z = true) : (Jvm.Cond.instantiable "com/example/tenon/tenon/registry/Validity" (1 : Nat)).before a0 Z = true := hw _ (List.mem_of_getElem? (i := 31) rfl)
theorem hw32 {Z : State} {a0 : Array Value} (hw : ∀ d ∈ tables_1, d.before a0 Z = true) : (Jvm.Cond.initialized "com/example/tenon/tenon/registry/Validity").before a0 Z = true := hw _ (List.mem_of_getElem? (i := 32) rfl)
theorem hw33 {Z : State} {a0 : Array Value} (hw : ∀ d ∈ tables_1, d.before a0 Z = true) : (Jvm.Cond.methodLink "com/example/tenon/tenon/registry/ValidityIsValidPinLaw" (14 : Nat) ({ cls := "com/example/tenon/tenon/registry/Validity", name := "<init>", desc := "()V" } : Jvm.MethodName)).before a0 Z = true := hw _ (List.mem_of_getElem? (i := 33) rfl)
theorem hw34 {Z : State} {a0 : Array Value} (hw : ∀ d ∈ tables_1, d.before a0 Z = true) : (Jvm.Cond.instanceMethod ({ cls := "com/example/tenon/tenon/registry/Validity", name := "<init>", desc := "()V" } : Jvm.MethodName)).before a0 Z = true := hw _ (List.mem_of_getElem? (i := 34) rfl)
theorem hw35 {Z : State} {a0 : Array Value} (hw : ∀ d ∈ tables_1, d.before a0 Z = true) : (Jvm.Cond.code ({ cls := "com/example/tenon/tenon/registry/Validity", name := "<init>", desc := "()V" } : Jvm.MethodName) prog_77_method_1_code (1 : Nat) (Option.none : Option Jvm.ClassFile.FieldType)).before a0 Z = true := hw _ (List.mem_of_getElem? (i := 35) rfl)
theorem hw36 {Z : State} {a0 : Array Value} (hw : ∀ d ∈ tables_1, d.before a0 Z = true) : (Jvm.Cond.methodLink "com/example/tenon/tenon/registry/Validity" (1 : Nat) ({ cls := "java/lang/Object", name := "<init>", desc := "()V" } : Jvm.MethodName)).before a0 Z = true := hw _ (List.mem_of_getElem? (i := 36) rfl)
theorem hw37 {Z : State} {a0 : Array Value} (hw : ∀ d ∈ tables_1, d.before a0 Z = true) : (Jvm.Cond.methodLink "com/example/tenon/tenon/registry/ValidityIsValidPinLaw" (15 : Nat) ({ cls := "com/example/tenon/tenon/registry/Validity", name := "isValid", desc := "()Z" } : Jvm.MethodName)).before a0 Z = true := hw _ (List.mem_of_getElem? (i := 37) rfl)
theorem hw38 {Z : State} {a0 : Array Value} (hw : ∀ d ∈ tables_1, d.before a0 Z = true) : (Jvm.Cond.declares ({ cls := "com/example/tenon/tenon/registry/Validity", name := "isValid", desc := "()Z" } : Jvm.MethodName)).before a0 Z = true := hw _ (List.mem_of_getElem? (i := 38) rfl)
theorem hw39 {Z : State} {a0 : Array Value} (hw : ∀ d ∈ tables_1, d.before a0 Z = true) : (Jvm.Cond.instanceMethod ({ cls := "com/example/tenon/tenon/registry/Validity", name := "isValid", desc := "()Z" } : Jvm.MethodName)).before a0 Z = true := hw _ (List.mem_of_getElem? (i := 39) rfl)
theorem hw40 {Z : State} {a0 : Array Value} (hw : ∀ d ∈ tables_1, d.before a0 Z = true) : (Jvm.Cond.selects "com/example/tenon/tenon/registry/Validity" ({ cls := "com/example/tenon/tenon/registry/Validity", name := "isValid", desc := "()Z" } : Jvm.MethodName) ({ cls := "com/example/tenon/tenon/registry/Validity", name := "isValid", desc := "()Z" } : Jvm.MethodName)).before a0 Z = true := hw _ (List.mem_of_getElem? (i := 40) rfl)
theorem hw41 {Z : State} {a0 : Array Value} (hw : ∀ d ∈ tables_1, d.before a0 Z = true) : (Jvm.Cond.code ({ cls := "com/example/tenon/tenon/registry/Validity", name := "isValid", desc := "()Z" } : Jvm.MethodName) prog_77_method_2_code (1 : Nat) (Option.some Jvm.ClassFile.FieldType.boolean)).before a0 Z = true := hw _ (List.mem_of_getElem? (i := 41) rfl)
theorem hw42 {Z : State} {a0 : Array Value} (hw : ∀ d ∈ tables_1, d.before a0 Z = true) : (Jvm.Cond.fieldLink "com/example/tenon/tenon/registry/Validity" (7 : Nat) "com/example/tenon/tenon/registry/Validity" "reason" "Ljava/lang/String;").before a0 Z = true := hw _ (List.mem_of_getElem? (i := 42) rfl)
theorem hw43 {Z : State} {a0 : Array Value} (hw : ∀ d ∈ tables_1, d.before a0 Z = true) : (Jvm.Cond.lays "com/example/tenon/tenon/registry/Validity" "com/example/tenon/tenon/registry/Validity" "reason" "Ljava/lang/String;").before a0 Z = true := hw _ (List.mem_of_getElem? (i := 43) rfl)
theorem hw44 {Z : State} {a0 : Array Value} (hw : ∀ d ∈ tables_1, d.before a0 Z = true) : (Jvm.Cond.methodLink "com/example/tenon/tenon/registry/ValidityIsValidPinLaw" (19 : Nat) ({ cls := "com/example/tenon/tenon/registry/Validity", name := "invalidate", desc := "(Ljava/lang/String;)V" } : Jvm.MethodName)).before a0 Z = true := hw _ (List.mem_of_getElem? (i := 44) rfl)
theorem hw45 {Z : State} {a0 : Array Value} (hw : ∀ d ∈ tables_1, d.before a0 Z = true) : (Jvm.Cond.declares ({ cls := "com/example/tenon/tenon/registry/Validity", name := "invalidate", desc := "(Ljava/lang/String;)V" } : Jvm.MethodName)).before a0 Z = true := hw _ (List.mem_of_getElem? (i := 45) rfl)
theorem hw46 {Z : State} {a0 : Array Value} (hw : ∀ d ∈ tables_1, d.before a0 Z = true) : (Jvm.Cond.instanceMethod ({ cls := "com/example/tenon/tenon/registry/Validity", name := "invalidate", desc := "(Ljava/lang/String;)V" } : Jvm.MethodName)).before a0 Z = true := hw _ (List.mem_of_getElem? (i := 46) rfl)
theorem hw47 {Z : State} {a0 : Array Value} (hw : ∀ d ∈ tables_1, d.before a0 Z = true) : (Jvm.Cond.selects "com/example/tenon/tenon/registry/Validity" ({ cls := "com/example/tenon/tenon/registry/Validity", name := "invalidate", desc := "(Ljava/lang/String;)V" } : Jvm.MethodName) ({ cls := "com/example/tenon/tenon/registry/Validity", name := "invalidate", desc := "(Ljava/lang/String;)V" } : Jvm.MethodName)).before a0 Z = true := hw _ (List.mem_of_getElem? (i := 47) rfl)
theorem hw48 {Z : State} {a0 : Array Value} (hw : ∀ d ∈ tables_1, d.before a0 Z = true) : (Jvm.Cond.code ({ cls := "com/example/tenon/tenon/registry/Validity", name := "invalidate", desc := "(Ljava/lang/String;)V" } : Jvm.MethodName) prog_77_method_3_code (2 : Nat) (Option.none : Option Jvm.ClassFile.FieldType)).before a0 Z = true := hw _ (List.mem_of_getElem? (i := 48) rfl)
theorem hw49 {Z : State} {a0 : Array Value} (hw : ∀ d ∈ tables_1, d.before a0 Z = true) : (Jvm.Cond.stringLink "java/lang/String" (7 : Nat) "").before a0 Z = true := hw _ (List.mem_of_getElem? (i := 49) rfl)
theorem own_EW {Z : State} {a0 : Array Value} (hw : ∀ d ∈ tables_1, d.before a0 Z = true) : EW Z a0 EL := (EW.cons (hw49 hw) (by decide) EW.nil)
theorem own_safeArv {Z : State} {vm : Vm} {h : Heap} {x : Addr} {k : ClassId} {ty : FieldType} {z : Int32} {vs : List Value} {d : Value} (hal : Z.vm.Alike vm) (F : Arv Z h x k ty z vs d) (ht : ty ≠ .byte) : Safe Z EL vm h x := by
  obtain ⟨c, A, -⟩ := F
  exact Safe.arr hal A ht
theorem ef_s4e (m : MethodId) (a : Addr) (b : Addr) : entryFrame m #[(.ref a), (.ref b), (.int (0 : Int32)), (.int (0 : Int32)), .null] 6 = (mkF m 0 #[.val (.ref a), .val (.ref b), .val (.int (0 : Int32)), .val (.int (0 : Int32)), .val .null, .unset] []) := by first | (simp [entryFrame, mkF, argsToLocals, Value.category]; done) | rfl
def Q_s4e (Z : State) (a : Addr) (b : Addr) (h0 : Heap) (n0 : Nat) (v : Option Value) (h : Heap) (L : List Loc) : Prop := ∃ (t : Addr) (kb : ClassId), v = none ∧ Fr n0 L ∧ Keep h0 h [a] ∧ Str Z h a t kb [] ∧ a ≠ t
set_option maxRecDepth 65536 in
set_option maxHeartbeats 40000000 in
theorem rm_s4e (l : Launch) (Z : State) (a0 : Array Value) (hw : ∀ d ∈ tables_1, d.before a0 Z = true) (ws : List Jvm.Cond) (a : Addr) (b : Addr) (h0 : Heap) (n0 : Nat) (Z0 : n0 ≤ h0.size) (P0 : Exa Z h0 a "java/lang/String") (P1 : Fld Z h0 a "java/lang/String" "value" "[B" .null) (P2 : Fld Z h0 a "java/lang/String" "coder" "B" (.int (0 : Int32))) (g_a : n0 ≤ a) :
    MetFree l (⟨"java/lang/String", "<init>", "([CIILjava/lang/Void;)V"⟩ : MethodName) (head1 (Jvm.Cond.code (⟨"java/lang/String", "<init>", "([CIILjava/lang/Void;)V"⟩ : MethodName) jdk_42_method_149_code 6 none :: ws) ({ frames := 1, cells := 4, slots := 8, locals := 12 } : Room)) (fun aR U => aR = #[(.ref a), (.ref b), (.int (0 : Int32)), (.int (0 : Int32)), .null] ∧ Z.Warmed39 U.vm ∧ U.heap = h0 ∧ CHv Z EL U.vm h0 ∧ ∀ x ∈ ([a] : List Addr), Safe Z EL U.vm h0 x) (fun _ _ _ _ _ => True) (fun _ U o U' => ∃ v L, o = .returned v ∧ Q_s4e Z a b h0 n0 v U'.heap L ∧ CHr Z EL U.vm U.heap U'.vm U'.heap ∧ ReturnedEndW U o U' L ({ frames := 1, cells := 4, slots := 8, locals := 12 } : Room).cells ({ frames := 1, cells := 4, slots := 8, locals := 12 } : Room).slots) := by
  refine MetFree.of_bodySF (plainFor_of_name pn_0) hisR ?_
  intro p e s m args below meth c s₁ Bd hml0 hP hK
  obtain ⟨rfl, hZ, hh, hCH, hSF⟩ := hP
  have hx := Bd.exec
  have hby := Bd.bytes
  have hml : c.maxLocals = 6 := hml0
  have hown : s.vm.findClass "java/lang/String" = some m.cls := findClass_of_methodNamed Bd.named
  have hnm := (name_of_methodNamed Bd.named Bd.method).1
  have X0 : Stand p l e ({ frames := 1, cells := 4, slots := 8, locals := 12 } : Room) (s.setVm s.vm) m #[(.ref a), (.ref b), (.int (0 : Int32)), (.int (0 : Int32)), .null] below meth c s₁ [] 0 0 := Stand.of_body Bd
  have e0 : s₁.heap = h0 := by rw [← hh, Bd.state]; rfl
  have N0 := Fr.nil n0
  show Goes p.tables e below _ _
  rw [ef_s4e m a b]
  refine Goes.named ?_
  intro QQ hQQ
  have hS0 : s.Since s.vm 0 := (State.WarmedH.refl s).since 0
  have hk0 : 0 ≤ h0.size := Nat.zero_le _
  have CR0 : CHr Z EL s.vm h0 s.vm h0 := CHr.refl hCH
  have sf0_a : Safe Z EL s.vm h0 a := hSF _ (List.mem_of_getElem? (i := 0) rfl)
  refine Goes.st (fun t k => XS.aloadN X0.here hx rfl (hb hby d2_0) rfl rfl k) ?_
  show Goes _ _ _ _ (s₁.setTop (mkF m 1 #[.val (.ref a), .val (.ref b), .val (.int (0 : Int32)), .val (.int (0 : Int32)), .val .null, .unset] [(.ref a)]))
  obtain ⟨T1, X1, e1, st1⟩ := initO X0 hx hZ hown (hw11 hw) (hw12 hw) (hw13 hw) e0 (g := (mkF m 1 #[.val (.ref a), .val (.ref b), .val (.int (0 : Int32)), .val (.int (0 : Int32)), .val .null, .unset] [(.ref a)])) rfl (by rw [hml]; rfl) rfl (hb hby d2_1) (by decide) (W := 0) (by show 2 * 0 + _ ≤ _; exact Nat.le_of_eq rfl) (by decide)
  refine Goes.st st1 ?_
  show Goes _ _ _ _ (T1.setTop (mkF m 4 #[.val (.ref a), .val (.ref b), .val (.int (0 : Int32)), .val (.int (0 : Int32)), .val .null, .unset] []))
  refine Goes.st (fun t k => XS.iloadN X1.here hx rfl (hb hby d2_4) rfl k) ?_
  show Goes _ _ _ _ (T1.setTop (mkF m 5 #[.val (.ref a), .val (.ref b), .val (.int (0 : Int32)), .val (.int (0 : Int32)), .val .null, .unset] [(.int (0 : Int32))]))
  refine Goes.st (fun t k => XS.ifNo X1.here hx rfl (hb hby d2_5) rfl ((if0 _ _).trans (teq (by decide : (0 : Int32) = (0 : Int32))).2) k) ?_
  show Goes _ _ _ _ (T1.setTop (mkF m 8 #[.val (.ref a), .val (.ref b), .val (.int (0 : Int32)), .val (.int (0 : Int32)), .val .null, .unset] []))
  refine Goes.st (fun t k => XS.aloadN X1.here hx rfl (hb hby d2_8) rfl rfl k) ?_
  show Goes _ _ _ _ (T1.setTop (mkF m 9 #[.val (.ref a), .val (.ref b), .val (.int (0 : Int32)), .val (.int (0 : Int32)), .val .null, .unset] [(.ref a)]))
  obtain ⟨b2, T2, h2, kk2, t2, kb2, X2, e2, E2, hS2, hk2, hZ2, hown2, Ex2, Cd2, Vf2, Av2, lb2, lt2, C2, Lt2, hne2, st2⟩ := ldcCH X1 hx hZ hown (hw49 hw) (own_wS hw) e1 hS0 hk0 (own_EW hw) (by decide +kernel) CR0.1 (vs := []) (z := (0 : Int32)) ⟨by decide, by decide⟩ (by decide) (by decide) (g := (mkF m 9 #[.val (.ref a), .val (.ref b), .val (.int (0 : Int32)), .val (.int (0 : Int32)), .val .null, .unset] [(.ref a)])) rfl (hb hby d2_9) (n := 0) (by decide) (by decide) (by decide) (by decide)
  have CR2 : CHr Z EL s.vm h0 T2.vm h2 := CR0.trans C2
  have sf2_a : Safe Z EL T2.vm h2 a := C2.safe P0.lt sf0_a
  refine Goes.st st2 ?_
  show Goes _ _ _ _ (T2.setTop (mkF m 11 #[.val (.ref a), .val (.ref b), .val (.int (0 : Int32)), .val (.int (0 : Int32)), .val .null, .unset] [(.ref b2), (.ref a)]))
  obtain ⟨T3, X3, e3, st3⟩ := getF X2 hx hZ2 hown2 (host := "") (Or.inl (hw28 hw)) Via.refl e2 Vf2 (g := (mkF m 11 #[.val (.ref a), .val (.ref b), .val (.int (0 : Int32)), .val (.int (0 : Int32)), .val .null, .unset] [(.ref b2), (.ref a)])) rfl rfl (hb hby d2_11)
  refine Goes.st st3 ?_
  show Goes _ _ _ _ (T3.setTop (mkF m 14 #[.val (.ref a), .val (.ref b), .val (.int (0 : Int32)), .val (.int (0 : Int32)), .val .null, .unset] [(.ref t2), (.ref a)]))
  have f4 : Exa Z h2 a "java/lang/String" := (P0.ext E2)
  have f5 : Fld Z h2 a "java/lang/String" "value" "[B" .null := (P1.ext E2)
  obtain ⟨T6, h6, X6, e6, W6, st6⟩ := putF X3 hx hZ2 hown2 (host := "") (Or.inl (hw28 hw)) Via.refl e3 f5 f4 (Or.inr ⟨(hw29 hw), rfl, hnm⟩) (hw2 hw) (ty := (.array .byte)) (by decide) rfl rfl (g := (mkF m 14 #[.val (.ref a), .val (.ref b), .val (.int (0 : Int32)), .val (.int (0 : Int32)), .val .null, .unset] [(.ref t2), (.ref a)])) rfl rfl (hb hby d2_14)
  have N6 := Fr.snoc X6 N0 g_a
  have CR7 : CHr Z EL s.vm h0 T2.vm h6 := CR2.trans (CHr.wr W6 sf2_a CR2.1)
  have sf7_a : Safe Z EL T2.vm h6 a := Safe.wr W6 sf2_a CR2.1 sf2_a
  have F6 := f5.same W6
  refine Goes.st st6 ?_
  show Goes _ _ _ _ (T6.setTop (mkF m 17 #[.val (.ref a), .val (.ref b), .val (.int (0 : Int32)), .val (.int (0 : Int32)), .val .null, .unset] []))
  refine Goes.st (fun t k => XS.aloadN X6.here hx rfl (hb hby d2_17) rfl rfl k) ?_
  show Goes _ _ _ _ (T6.setTop (mkF m 18 #[.val (.ref a), .val (.ref b), .val (.int (0 : Int32)), .val (.int (0 : Int32)), .val .null, .unset] [(.ref a)]))
  obtain ⟨b8, T8, h8, kk8, t8, kb8, X8, e8, E8, hS8, hk8, hZ8, hown8, Ex8, Cd8, Vf8, Av8, lb8, lt8, C8, Lt8, hne8, st8⟩ := ldcCH X6 hx hZ2 hown2 (hw49 hw) (own_wS hw) e6 hS2 (Nat.le_trans hk2 (Nat.le_of_eq W6.size.symm)) (own_EW hw) (by decide +kernel) CR7.1 (vs := []) (z := (0 : Int32)) ⟨by decide, by decide⟩ (by decide) (by decide) (g := (mkF m 18 #[.val (.ref a), .val (.ref b), .val (.int (0 : Int32)), .val (.int (0 : Int32)), .val .null, .unset] [(.ref a)])) rfl (hb hby d2_18) (n := 0) (by decide) (by decide) (by decide) (by decide)
  have CR8 : CHr Z EL s.vm h0 T8.vm h8 := CR7.trans C8
  have sf8_a : Safe Z EL T8.vm h8 a := C8.safe (Nat.lt_of_lt_of_le P0.lt (Nat.le_trans E2.1 (Nat.le_of_eq W6.size.symm))) sf7_a
  refine Goes.st st8 ?_
  show Goes _ _ _ _ (T8.setTop (mkF m 20 #[.val (.ref a), .val (.ref b), .val (.int (0 : Int32)), .val (.int (0 : Int32)), .val .null, .unset] [(.ref b8), (.ref a)]))
  obtain ⟨T9, X9, e9, st9⟩ := getF X8 hx hZ8 hown8 (host := "") (Or.inl (hw26 hw)) Via.refl e8 Cd8 (g := (mkF m 20 #[.val (.ref a), .val (.ref b), .val (.int (0 : Int32)), .val (.int (0 : Int32)), .val .null, .unset] [(.ref b8), (.ref a)])) rfl rfl (hb hby d2_20)
  refine Goes.st st9 ?_
  show Goes _ _ _ _ (T9.setTop (mkF m 23 #[.val (.ref a), .val (.ref b), .val (.int (0 : Int32)), .val (.int (0 : Int32)), .val .null, .unset] [(.int (0 : Int32)), (.ref a)]))
  have f10 : Exa Z h8 a "java/lang/String" := ((f4.wr W6).ext E8)
  have f11 : Fld Z h8 a "java/lang/String" "coder" "B" (.int (0 : Int32)) := (((P2.ext E2).other W6 (Or.inr (slot_ne (Or.inr (hw27 hw)) (Or.inr (hw29 hw)) (by decide) (t := .byte) (t' := (.array .byte)) (by decide) (by decide)))).ext E8)
  obtain ⟨T12, h12, X12, e12, W12, st12⟩ := putFN X9 hx hZ8 hown8 (hw26 hw) Via.refl e9 f11 f10 (Or.inr ⟨(hw27 hw), rfl, hnm⟩) (hw2 hw) (ty := .byte) (v' := (.int (0 : Int32))) (by decide) rfl (by decide) (g := (mkF m 23 #[.val (.ref a), .val (.ref b), .val (.int (0 : Int32)), .val (.int (0 : Int32)), .val .null, .unset] [(.int (0 : Int32)), (.ref a)])) rfl rfl (hb hby d2_23)
  have N12 := Fr.snoc X12 N6 g_a
  have CR13 : CHr Z EL s.vm h0 T8.vm h12 := CR8.trans (CHr.wr W12 sf8_a CR8.1)
  have sf13_a : Safe Z EL T8.vm h12 a := Safe.wr W12 sf8_a CR8.1 sf8_a
  have F12 := f11.same W12
  refine Goes.st st12 ?_
  show Goes _ _ _ _ (T12.setTop (mkF m 26 #[.val (.ref a), .val (.ref b), .val (.int (0 : Int32)), .val (.int (0 : Int32)), .val .null, .unset] []))
  have f15 : Exa Z h12 a "java/lang/String" := (f10.wr W12)
  have f16 : Fld Z h12 a "java/lang/String" "value" "[B" (.ref t2) := ((F6.ext E8).other W12 (Or.inr (slot_ne (Or.inr (hw29 hw)) (Or.inr (hw27 hw)) (by decide) (t := (.array .byte)) (t' := .byte) (by decide) (by decide))))
  have f17 : Arv Z h12 t2 kb2 .byte (0 : Int32) [] (.int (0 : Int32)) := (((Av2.other W6 (Ne.symm (hne2 _ sf2_a).2)).ext E8).other W12 (Ne.symm (hne2 _ sf2_a).2))
  have S14 : Str Z h12 a t2 kb2 [] := ⟨f15, f16, F12, f17, own_c0, Nat.zero_le _⟩
  have kp18 : Keep h0 h2 [a] := (Keep.refl h0 [a]).ext E2
  have kp19 : Keep h0 h6 [a] := kp18.wr W6 (Or.inl (List.mem_of_getElem? (i := 0) rfl))
  have kp20 : Keep h0 h8 [a] := kp19.ext E8
  have kp21 : Keep h0 h12 [a] := kp20.wr W12 (Or.inl (List.mem_of_getElem? (i := 0) rfl))
  obtain ⟨fs, hr, hrun, hended, hRW⟩ := X12.leaveW hS8 (by rw [e12]; exact (Nat.le_trans hk8 (Nat.le_of_eq W12.size.symm))) (v := none) (fun _ => rfl)
  subst hQQ
  have hCR : CHr Z EL s.vm s.heap T12.vm T12.heap := by rw [hh, e12]; exact CR13.trans (CHv.at X12 hZ8 (own_EW hw) CR13.1)
  refine ⟨_, _, X12.returnOut hx Bd.returns (hb hby d2_26) hr, hrun, hended, _, _, rfl, ?_, hCR, own_REmono hRW (by decide) (by decide)⟩
  show Q_s4e Z a b h0 n0 _ T12.heap _
  rw [e12]
  exact ⟨t2, kb2, rfl, N12, kp21, S14, (hne2 _ sf2_a).2⟩
theorem ef_s1e (m : MethodId) (a : Addr) (b : Addr) (kc : ClassId) : entryFrame m #[(.ref a), (.ref b)] 2 = (mkF m 0 #[.val (.ref a), .val (.ref b)] []) := by first | (simp [entryFrame, mkF, argsToLocals, Value.category]; done) | rfl
def Q_s1e (Z : State) (a : Addr) (b : Addr) (kc : ClassId) (h0 : Heap) (n0 : Nat) (v : Option Value) (h : Heap) (L : List Loc) : Prop := ∃ (t : Addr) (kb : ClassId), v = none ∧ Fr n0 L ∧ Keep h0 h [a] ∧ Str Z h a t kb [] ∧ a ≠ t
set_option maxRecDepth 65536 in
set_option maxHeartbeats 40000000 in
theorem rm_s1e (l : Launch) (Z : State) (a0 : Array Value) (hw : ∀ d ∈ tables_1, d.before a0 Z = true) (ws : List Jvm.Cond) (a : Addr) (b : Addr) (kc : ClassId) (h0 : Heap) (n0 : Nat) (Z0 : n0 ≤ h0.size) (P0 : Exa Z h0 a "java/lang/String") (P1 : Fld Z h0 a "java/lang/String" "value" "[B" .null) (P2 : Fld Z h0 a "java/lang/String" "coder" "B" (.int (0 : Int32))) (P3 : Arv Z h0 b kc .char (0 : Int32) [] (.int (0 : Int32))) (g_a : n0 ≤ a) :
    MetFree l (⟨"java/lang/String", "<init>", "([C)V"⟩ : MethodName) (head1 (Jvm.Cond.code (⟨"java/lang/String", "<init>", "([C)V"⟩ : MethodName) jdk_42_method_3_code 2 none :: ws) ({ frames := 2, cells := 4, slots := 8, locals := 29 } : Room)) (fun aR U => aR = #[(.ref a), (.ref b)] ∧ Z.Warmed39 U.vm ∧ U.heap = h0 ∧ CHv Z EL U.vm h0 ∧ ∀ x ∈ ([a] : List Addr), Safe Z EL U.vm h0 x) (fun _ _ _ _ _ => True) (fun _ U o U' => ∃ v L, o = .returned v ∧ Q_s1e Z a b kc h0 n0 v U'.heap L ∧ CHr Z EL U.vm U.heap U'.vm U'.heap ∧ ReturnedEndW U o U' L ({ frames := 2, cells := 4, slots := 8, locals := 29 } : Room).cells ({ frames := 2, cells := 4, slots := 8, locals := 29 } : Room).slots) := by
  refine MetFree.of_bodySF (plainFor_of_name pn_0) hisR ?_
  intro p e s m args below meth c s₁ Bd hml0 hP hK
  obtain ⟨rfl, hZ, hh, hCH, hSF⟩ := hP
  have hx := Bd.exec
  have hby := Bd.bytes
  have hml : c.maxLocals = 2 := hml0
  have hown : s.vm.findClass "java/lang/String" = some m.cls := findClass_of_methodNamed Bd.named
  have hnm := (name_of_methodNamed Bd.named Bd.method).1
  have X0 : Stand p l e ({ frames := 2, cells := 4, slots := 8, locals := 29 } : Room) (s.setVm s.vm) m #[(.ref a), (.ref b)] below meth c s₁ [] 0 0 := Stand.of_body Bd
  have e0 : s₁.heap = h0 := by rw [← hh, Bd.state]; rfl
  have N0 := Fr.nil n0
  show Goes p.tables e below _ _
  rw [ef_s1e m a b kc]
  refine Goes.named ?_
  intro QQ hQQ
  have hS0 : s.Since s.vm 0 := (State.WarmedH.refl s).since 0
  have hk0 : 0 ≤ h0.size := Nat.zero_le _
  have CR0 : CHr Z EL s.vm h0 s.vm h0 := CHr.refl hCH
  have sf0_a : Safe Z EL s.vm h0 a := hSF _ (List.mem_of_getElem? (i := 0) rfl)
  refine Goes.st (fun t k => XS.aloadN X0.here hx rfl (hb hby d1_0) rfl rfl k) ?_
  show Goes _ _ _ _ (s₁.setTop (mkF m 1 #[.val (.ref a), .val (.ref b)] [(.ref a)]))
  refine Goes.st (fun t k => XS.aloadN X0.here hx rfl (hb hby d1_1) rfl rfl k) ?_
  show Goes _ _ _ _ (s₁.setTop (mkF m 2 #[.val (.ref a), .val (.ref b)] [(.ref b), (.ref a)]))
  refine Goes.st (fun t k => XS.iconst X0.here hx rfl (hb hby d1_2) k) ?_
  show Goes _ _ _ _ (s₁.setTop (mkF m 3 #[.val (.ref a), .val (.ref b)] [(.int (0 : Int32)), (.ref b), (.ref a)]))
  refine Goes.st (fun t k => XS.aloadN X0.here hx rfl (hb hby d1_3) rfl rfl k) ?_
  show Goes _ _ _ _ (s₁.setTop (mkF m 4 #[.val (.ref a), .val (.ref b)] [(.ref b), (.int (0 : Int32)), (.ref b), (.ref a)]))
  obtain ⟨oc1, oA1, oq1, oS1, oM1, oH1, oG1⟩ := id P3
  refine Goes.st (fun t k => X0.arraylength hx (by rw [e0]; exact oA1.1) (State.isArrayOf_alike hZ.alike oA1.2.1) (g := (mkF m 4 #[.val (.ref a), .val (.ref b)] [(.ref b), (.int (0 : Int32)), (.ref b), (.ref a)])) rfl rfl (hb hby d1_4) _ k) ?_
  rw [len_of oS1 oM1]
  show Goes _ _ _ _ (s₁.setTop (mkF m 5 #[.val (.ref a), .val (.ref b)] [(.int (0 : Int32)), (.int (0 : Int32)), (.ref b), (.ref a)]))
  refine Goes.st (fun t k => XS.aconstNull X0.here hx rfl (hb hby d1_5) k) ?_
  show Goes _ _ _ _ (s₁.setTop (mkF m 6 #[.val (.ref a), .val (.ref b)] [.null, (.int (0 : Int32)), (.int (0 : Int32)), (.ref b), (.ref a)]))
  obtain ⟨_, _, ⟨T2, L2, k2, n2⟩, -, X2, hSr2, hgr2, ⟨Lc2, hQ2, l2, y2, z2, C2⟩, st2⟩ := X0.specialBackS hx (y := (⟨"java/lang/String", "<init>", "([CIILjava/lang/Void;)V"⟩ : MethodName)) rfl hown (mvT hZ (hw7 hw)) (mvT hZ (hw8 hw)) (mvT hZ (hw10 hw)) (by decide) (own_backW (W := 0) (xs := [a]) (rm_s4e l Z a0 hw [] a b h0 n0 Z0 P0 P1 P2 g_a) hZ (hw10 hw) (hw3 hw) (by decide) (by decide) (own_EW hw) CR0.1 (allS ⟨P0.lt, sf0_a⟩ all0)) (g := (mkF m 6 #[.val (.ref a), .val (.ref b)] [.null, (.int (0 : Int32)), (.int (0 : Int32)), (.ref b), (.ref a)])) rfl (by rw [hml]; rfl) (Steps.refl _) (a := a) (argsL := [(.ref b), (.int (0 : Int32)), (.int (0 : Int32)), .null]) (rest := []) (lenOf pd_0 rfl) rfl (by show 2 * 0 + _ ≤ _; exact Nat.le_of_eq rfl) (hb hby d1_6) (fun _ _ => ⟨rfl, e0, (by decide : 0 + 4 ≤ _), (by decide : 0 + 8 ≤ _)⟩)
  dsimp only [Pt.U, Pt.locs, Pt.cells, Pt.slots] at X2 l2 y2 z2 st2 hQ2 hSr2 hgr2 C2
  subst l2 y2 z2
  obtain ⟨X2, hS2, hZ2, hown2⟩ := rebS hS0 (by rw [e0]; exact hk0) X2 hSr2 hgr2 hZ hown
  obtain ⟨t2, kb2, rfl, N2q, K2, F2_0, ne2_0⟩ := hQ2
  have N2 := Fr.app N0 N2q
  have F2_0E := F2_0.1
  have CR3 : CHr Z EL s.vm h0 T2.vm T2.heap := CR0.trans (C2)
  have sf3_a : Safe Z EL T2.vm T2.heap a := C2.safe P0.lt sf0_a
  refine Goes.tr st2 ?_
  show Goes _ _ _ _ (T2.setTop (mkF m 9 #[.val (.ref a), .val (.ref b)] []))
  have kp4 : Keep h0 T2.heap [a] := (Keep.refl h0 [a]).trans K2 (allS (Or.inl (List.mem_of_getElem? (i := 0) rfl)) all0)
  obtain ⟨fs, hr, hrun, hended, hRW⟩ := X2.leaveW hS2 (Nat.le_refl _) (v := none) (fun _ => rfl)
  subst hQQ
  have hCR : CHr Z EL s.vm s.heap T2.vm T2.heap := by rw [hh]; exact CR3.trans (CHv.at X2 hZ2 (own_EW hw) CR3.1)
  refine ⟨_, _, X2.returnOut hx Bd.returns (hb hby d1_9) hr, hrun, hended, _, _, rfl, ?_, hCR, own_REmono hRW (by decide) (by decide)⟩
  show Q_s1e Z a b kc h0 n0 _ T2.heap _
  exact ⟨t2, kb2, rfl, N2, kp4, F2_0, ne2_0⟩
theorem ef_vinit (m : MethodId) (a : Addr) : entryFrame m #[(.ref a)] 1 = (mkF m 0 #[.val (.ref a)] []) := by first | (simp [entryFrame, mkF, argsToLocals, Value.category]; done) | rfl
def Q_vinit (Z : State) (a : Addr) (h0 : Heap) (n0 : Nat) (v : Option Value) (h : Heap) (L : List Loc) : Prop := v = none ∧ Fr n0 L ∧ h = h0
set_option maxRecDepth 65536 in
set_option maxHeartbeats 40000000 in
theorem rm_vinit (l : Launch) (Z : State) (a0 : Array Value) (hw : ∀ d ∈ tables_1, d.before a0 Z = true) (ws : List Jvm.Cond) (a : Addr) (h0 : Heap) (n0 : Nat) (Z0 : n0 ≤ h0.size) :
    MetFree l (⟨"com/example/tenon/tenon/registry/Validity", "<init>", "()V"⟩ : MethodName) (head1 (Jvm.Cond.code (⟨"com/example/tenon/tenon/registry/Validity", "<init>", "()V"⟩ : MethodName) prog_77_method_1_code 1 none :: ws) ({ frames := 1, cells := 0, slots := 0, locals := 12 } : Room)) (fun aR U => aR = #[(.ref a)] ∧ Z.Warmed39 U.vm ∧ U.heap = h0) (fun _ _ _ _ _ => True) (fun _ U o U' => ∃ v L, o = .returned v ∧ Q_vinit Z a h0 n0 v U'.heap L ∧ FrameEnd U o U' L ({ frames := 1, cells := 0, slots := 0, locals := 12 } : Room).cells ({ frames := 1, cells := 0, slots := 0, locals := 12 } : Room).slots) := by
  refine MetFree.of_bodySF (plainFor_of_name pn_1) hisR ?_
  intro p e s m args below meth c s₁ Bd hml0 hP hK
  obtain ⟨rfl, hZ, hh⟩ := hP
  have hx := Bd.exec
  have hby := Bd.bytes
  have hml : c.maxLocals = 1 := hml0
  have hown : s.vm.findClass "com/example/tenon/tenon/registry/Validity" = some m.cls := findClass_of_methodNamed Bd.named
  have hnm := (name_of_methodNamed Bd.named Bd.method).1
  have X0 : Stand p l e ({ frames := 1, cells := 0, slots := 0, locals := 12 } : Room) s m #[(.ref a)] below meth c s₁ [] 0 0 := Stand.of_body Bd
  have e0 : s₁.heap = h0 := by rw [← hh, Bd.state]; rfl
  have N0 := Fr.nil n0
  show Goes p.tables e below _ _
  rw [ef_vinit m a]
  refine Goes.named ?_
  intro QQ hQQ
  refine Goes.st (fun t k => XS.aloadN X0.here hx rfl (hb hby d7_0) rfl rfl k) ?_
  show Goes _ _ _ _ (s₁.setTop (mkF m 1 #[.val (.ref a)] [(.ref a)]))
  obtain ⟨T1, X1, e1, st1⟩ := initO X0 hx hZ hown (hw36 hw) (hw12 hw) (hw13 hw) e0 (g := (mkF m 1 #[.val (.ref a)] [(.ref a)])) rfl (by rw [hml]; rfl) rfl (hb hby d7_1) (by decide) (W := 0) (by show 2 * 0 + _ ≤ _; exact Nat.le_of_eq rfl) (by decide)
  refine Goes.st st1 ?_
  show Goes _ _ _ _ (T1.setTop (mkF m 4 #[.val (.ref a)] []))
  obtain ⟨fs, hr, hrun, hended, hW, hsame⟩ := X1.leave (v := none) (fun _ => rfl)
  subst hQQ
  refine ⟨_, _, X1.returnOut hx Bd.returns (hb hby d7_4) hr, hrun, hended, _, _, rfl, ?_, ⟨_, rfl⟩, hW, hsame.mono (by decide) (by decide)⟩
  show Q_vinit Z a h0 n0 _ T1.heap _
  rw [e1]
  exact ⟨rfl, N0, rfl⟩
theorem ef_ivN (m : MethodId) (a : Addr) : entryFrame m #[(.ref a)] 1 = (mkF m 0 #[.val (.ref a)] []) := by first | (simp [entryFrame, mkF, argsToLocals, Value.category]; done) | rfl
def Q_ivN (Z : State) (a : Addr) (h0 : Heap) (n0 : Nat) (v : Option Value) (h : Heap) (L : List Loc) : Prop := v = some (.int (1 : Int32)) ∧ Fr n0 L ∧ h = h0
set_option maxRecDepth 65536 in
set_option maxHeartbeats 40000000 in
theorem rm_ivN (l : Launch) (Z : State) (a0 : Array Value) (hw : ∀ d ∈ tables_1, d.before a0 Z = true) (ws : List Jvm.Cond) (a : Addr) (h0 : Heap) (n0 : Nat) (Z0 : n0 ≤ h0.size) (P0 : Fld Z h0 a "com/example/tenon/tenon/registry/Validity" "reason" "Ljava/lang/String;" .null) :
    MetFree l (⟨"com/example/tenon/tenon/registry/Validity", "isValid", "()Z"⟩ : MethodName) (head1 (Jvm.Cond.code (⟨"com/example/tenon/tenon/registry/Validity", "isValid", "()Z"⟩ : MethodName) prog_77_method_2_code 1 (some .boolean) :: ws) ({ frames := 0, cells := 0, slots := 0, locals := 0 } : Room)) (fun aR U => aR = #[(.ref a)] ∧ Z.Warmed39 U.vm ∧ U.heap = h0) (fun _ _ _ _ _ => True) (fun _ U o U' => ∃ v L, o = .returned v ∧ Q_ivN Z a h0 n0 v U'.heap L ∧ FrameEnd U o U' L ({ frames := 0, cells := 0, slots := 0, locals := 0 } : Room).cells ({ frames := 0, cells := 0, slots := 0, locals := 0 } : Room).slots) := by
  refine MetFree.of_bodySF (plainFor_of_name pn_1) hisR ?_
  intro p e s m args below meth c s₁ Bd hml0 hP hK
  obtain ⟨rfl, hZ, hh⟩ := hP
  have hx := Bd.exec
  have hby := Bd.bytes
  have hml : c.maxLocals = 1 := hml0
  have hown : s.vm.findClass "com/example/tenon/tenon/registry/Validity" = some m.cls := findClass_of_methodNamed Bd.named
  have hnm := (name_of_methodNamed Bd.named Bd.method).1
  have X0 : Stand p l e ({ frames := 0, cells := 0, slots := 0, locals := 0 } : Room) s m #[(.ref a)] below meth c s₁ [] 0 0 := Stand.of_body Bd
  have e0 : s₁.heap = h0 := by rw [← hh, Bd.state]; rfl
  have N0 := Fr.nil n0
  show Goes p.tables e below _ _
  rw [ef_ivN m a]
  refine Goes.named ?_
  intro QQ hQQ
  refine Goes.st (fun t k => XS.aloadN X0.here hx rfl (hb hby d8_0) rfl rfl k) ?_
  show Goes _ _ _ _ (s₁.setTop (mkF m 1 #[.val (.ref a)] [(.ref a)]))
  obtain ⟨T1, X1, e1, st1⟩ := getF X0 hx hZ hown (host := "") (Or.inl (hw42 hw)) Via.refl e0 P0 (g := (mkF m 1 #[.val (.ref a)] [(.ref a)])) rfl rfl (hb hby d8_1)
  refine Goes.st st1 ?_
  show Goes _ _ _ _ (T1.setTop (mkF m 4 #[.val (.ref a)] [.null]))
  refine Goes.st (fun t k => XS.ifnonnullNo X1.here hx rfl (hb hby d8_4) rfl k) ?_
  show Goes _ _ _ _ (T1.setTop (mkF m 7 #[.val (.ref a)] []))
  refine Goes.st (fun t k => XS.iconst X1.here hx rfl (hb hby d8_7) k) ?_
  show Goes _ _ _ _ (T1.setTop (mkF m 8 #[.val (.ref a)] [(.int (1 : Int32))]))
  refine Goes.st (fun t k => XS.goto X1.here hx rfl (pc0 := 8) (pc' := 12) rfl (hb hby d8_8) (by decide) (by decide) k) ?_
  show Goes _ _ _ _ (T1.setTop (mkF m 12 #[.val (.ref a)] [(.int (1 : Int32))]))
  obtain ⟨fs, hr, hrun, hended, hW, hsame⟩ := X1.leave (v := some (.int (1 : Int32))) (fun h => by rw [Bd.returns] at h; cases h)
  subst hQQ
  refine ⟨_, _, retN X1 hx (t := .boolean) Bd.returns (by simp) (hb hby d8_12) hr, hrun, hended, _, _, rfl, ?_, ⟨_, rfl⟩, hW, hsame.mono (by decide) (by decide)⟩
  show Q_ivN Z a h0 n0 _ T1.heap _
  rw [e1]
  exact ⟨rfl, N0, rfl⟩
theorem ef_ivR (m : MethodId) (a : Addr) (r : Addr) : entryFrame m #[(.ref a)] 1 = (mkF m 0 #[.val (.ref a)] []) := by first | (simp [entryFrame, mkF, argsToLocals, Value.category]; done) | rfl
def Q_ivR (Z : State) (a : Addr) (r : Addr) (h0 : Heap) (n0 : Nat) (v : Option Value) (h : Heap) (L : List Loc) : Prop := v = some (.int (0 : Int32)) ∧ Fr n0 L ∧ h = h0
set_option maxRecDepth 65536 in
set_option maxHeartbeats 40000000 in
theorem rm_ivR (l : Launch) (Z : State) (a0 : Array Value) (hw : ∀ d ∈ tables_1, d.before a0 Z = true) (ws : List Jvm.Cond) (a : Addr) (r : Addr) (h0 : Heap) (n0 : Nat) (Z0 : n0 ≤ h0.size) (P0 : Fld Z h0 a "com/example/tenon/tenon/registry/Validity" "reason" "Ljava/lang/String;" (.ref r)) :
    MetFree l (⟨"com/example/tenon/tenon/registry/Validity", "isValid", "()Z"⟩ : MethodName) (head1 (Jvm.Cond.code (⟨"com/example/tenon/tenon/registry/Validity", "isValid", "()Z"⟩ : MethodName) prog_77_method_2_code 1 (some .boolean) :: ws) ({ frames := 0, cells := 0, slots := 0, locals := 0 } : Room)) (fun aR U => aR = #[(.ref a)] ∧ Z.Warmed39 U.vm ∧ U.heap = h0) (fun _ _ _ _ _ => True) (fun _ U o U' => ∃ v L, o = .returned v ∧ Q_ivR Z a r h0 n0 v U'.heap L ∧ FrameEnd U o U' L ({ frames := 0, cells := 0, slots := 0, locals := 0 } : Room).cells ({ frames := 0, cells := 0, slots := 0, locals := 0 } : Room).slots) := by
  refine MetFree.of_bodySF (plainFor_of_name pn_1) hisR ?_
  intro p e s m args below meth c s₁ Bd hml0 hP hK
  obtain ⟨rfl, hZ, hh⟩ := hP
  have hx := Bd.exec
  have hby := Bd.bytes
  have hml : c.maxLocals = 1 := hml0
  have hown : s.vm.findClass "com/example/tenon/tenon/registry/Validity" = some m.cls := findClass_of_methodNamed Bd.named
  have hnm := (name_of_methodNamed Bd.named Bd.method).1
  have X0 : Stand p l e ({ frames := 0, cells := 0, slots := 0, locals := 0 } : Room) s m #[(.ref a)] below meth c s₁ [] 0 0 := Stand.of_body Bd
  have e0 : s₁.heap = h0 := by rw [← hh, Bd.state]; rfl
  have N0 := Fr.nil n0
  show Goes p.tables e below _ _
  rw [ef_ivR m a r]
  refine Goes.named ?_
  intro QQ hQQ
  refine Goes.st (fun t k => XS.aloadN X0.here hx rfl (hb hby d8_0) rfl rfl k) ?_
  show Goes _ _ _ _ (s₁.setTop (mkF m 1 #[.val (.ref a)] [(.ref a)]))
  obtain ⟨T1, X1, e1, st1⟩ := getF X0 hx hZ hown (host := "") (Or.inl (hw42 hw)) Via.refl e0 P0 (g := (mkF m 1 #[.val (.ref a)] [(.ref a)])) rfl rfl (hb hby d8_1)
  refine Goes.st st1 ?_
  show Goes _ _ _ _ (T1.setTop (mkF m 4 #[.val (.ref a)] [(.ref r)]))
  refine Goes.st (fun t k => XS.ifnonnullYes X1.here hx rfl (pc0 := 4) (pc' := 11) rfl (hb hby d8_4) rfl (by decide) (by decide) k) ?_
  show Goes _ _ _ _ (T1.setTop (mkF m 11 #[.val (.ref a)] []))
  refine Goes.st (fun t k => XS.iconst X1.here hx rfl (hb hby d8_11) k) ?_
  show Goes _ _ _ _ (T1.setTop (mkF m 12 #[.val (.ref a)] [(.int (0 : Int32))]))
  obtain ⟨fs, hr, hrun, hended, hW, hsame⟩ := X1.leave (v := some (.int (0 : Int32))) (fun h => by rw [Bd.returns] at h; cases h)
  subst hQQ
  refine ⟨_, _, retN X1 hx (t := .boolean) Bd.returns (by simp) (hb hby d8_12) hr, hrun, hended, _, _, rfl, ?_, ⟨_, rfl⟩, hW, hsame.mono (by decide) (by decide)⟩
  show Q_ivR Z a r h0 n0 _ T1.heap _
  rw [e1]
  exact ⟨rfl, N0, rfl⟩
theorem ef_inv (m : MethodId) (a : Addr) (b : Addr) (u0 : Value) : entryFrame m #[(.ref a), (.ref b)] 2 = (mkF m 0 #[.val (.ref a), .val (.ref b)] []) := by first | (simp [entryFrame, mkF, argsToLocals, Value.category]; done) | rfl
def Q_inv (Z : State) (a : Addr) (b : Addr) (u0 : Value) (h0 : Heap) (n0 : Nat) (v : Option Value) (h : Heap) (L : List Loc) : Prop := v = none ∧ Fr n0 L ∧ Keep h0 h [a] ∧ Exa Z h a "com/example/tenon/tenon/registry/Validity" ∧ Fld Z h a "com/example/tenon/tenon/registry/Validity" "reason" "Ljava/lang/String;" (.ref b)
set_option maxRecDepth 65536 in
set_option maxHeartbeats 40000000 in
theorem rm_inv (l : Launch) (Z : State) (a0 : Array Value) (hw : ∀ d ∈ tables_1, d.before a0 Z = true) (ws : List Jvm.Cond) (a : Addr) (b : Addr) (u0 : Value) (h0 : Heap) (n0 : Nat) (Z0 : n0 ≤ h0.size) (P0 : Exa Z h0 a "com/example/tenon/tenon/registry/Validity") (P1 : Fld Z h0 a "com/example/tenon/tenon/registry/Validity" "reason" "Ljava/lang/String;" u0) (g_a : n0 ≤ a) :
    MetFree l (⟨"com/example/tenon/tenon/registry/Validity", "invalidate", "(Ljava/lang/String;)V"⟩ : MethodName) (head1 (Jvm.Cond.code (⟨"com/example/tenon/tenon/registry/Validity", "invalidate", "(Ljava/lang/String;)V"⟩ : MethodName) prog_77_method_3_code 2 none :: ws) ({ frames := 0, cells := 0, slots := 0, locals := 0 } : Room)) (fun aR U => aR = #[(.ref a), (.ref b)] ∧ Z.Warmed39 U.vm ∧ U.heap = h0) (fun _ _ _ _ _ => True) (fun _ U o U' => ∃ v L, o = .returned v ∧ Q_inv Z a b u0 h0 n0 v U'.heap L ∧ FrameEnd U o U' L ({ frames := 0, cells := 0, slots := 0, locals := 0 } : Room).cells ({ frames := 0, cells := 0, slots := 0, locals := 0 } : Room).slots) := by
  refine MetFree.of_bodySF (plainFor_of_name pn_1) hisR ?_
  intro p e s m args below meth c s₁ Bd hml0 hP hK
  obtain ⟨rfl, hZ, hh⟩ := hP
  have hx := Bd.exec
  have hby := Bd.bytes
  have hml : c.maxLocals = 2 := hml0
  have hown : s.vm.findClass "com/example/tenon/tenon/registry/Validity" = some m.cls := findClass_of_methodNamed Bd.named
  have hnm := (name_of_methodNamed Bd.named Bd.method).1
  have X0 : Stand p l e ({ frames := 0, cells := 0, slots := 0, locals := 0 } : Room) s m #[(.ref a), (.ref b)] below meth c s₁ [] 0 0 := Stand.of_body Bd
  have e0 : s₁.heap = h0 := by rw [← hh, Bd.state]; rfl
  have N0 := Fr.nil n0
  show Goes p.tables e below _ _
  rw [ef_inv m a b u0]
  refine Goes.named ?_
  intro QQ hQQ
  refine Goes.st (fun t k => XS.aloadN X0.here hx rfl (hb hby d9_0) rfl rfl k) ?_
  show Goes _ _ _ _ (s₁.setTop (mkF m 1 #[.val (.ref a), .val (.ref b)] [(.ref a)]))
  refine Goes.st (fun t k => XS.aloadN X0.here hx rfl (hb hby d9_1) rfl rfl k) ?_
  show Goes _ _ _ _ (s₁.setTop (mkF m 2 #[.val (.ref a), .val (.ref b)] [(.ref b), (.ref a)]))
  obtain ⟨T1, h1, X1, e1, W1, st1⟩ := putF X0 hx hZ hown (host := "") (Or.inl (hw42 hw)) Via.refl e0 P1 P0 (Or.inl (hw43 hw)) (hw31 hw) (ty := (.object "java/lang/String")) (by decide) rfl rfl (g := (mkF m 2 #[.val (.ref a), .val (.ref b)] [(.ref b), (.ref a)])) rfl rfl (hb hby d9_2)
  have N1 := Fr.snoc X1 N0 g_a
  have F1 := P1.same W1
  refine Goes.st st1 ?_
  show Goes _ _ _ _ (T1.setTop (mkF m 5 #[.val (.ref a), .val (.ref b)] []))
  have kp2 : Keep h0 h1 [a] := (Keep.refl h0 [a]).wr W1 (Or.inl (List.mem_of_getElem? (i := 0) rfl))
  have f3 : Exa Z h1 a "com/example/tenon/tenon/registry/Validity" := (P0.wr W1)
  obtain ⟨fs, hr, hrun, hended, hW, hsame⟩ := X1.leave (v := none) (fun _ => rfl)
  subst hQQ
  refine ⟨_, _, X1.returnOut hx Bd.returns (hb hby d9_5) hr, hrun, hended, _, _, rfl, ?_, ⟨_, rfl⟩, hW, hsame.mono (by decide) (by decide)⟩
  show Q_inv Z a b u0 h0 n0 _ T1.heap _
  rw [e1]
  exact ⟨rfl, N1, kp2, f3, F1⟩
theorem ef_law (m : MethodId) (p0 : Int32) (p1 : Int32) (p2 : Int32) (G1 : Int32) : entryFrame m #[(.int p0), (.int p1), (.int p2)] maxLocals = (mkF m 0 #[.val (.int p0), .val (.int p1), .val (.int p2), .unset, .unset, .unset, .unset, .unset, .unset, .unset, .unset, .unset, .unset] []) := by first | (simp [entryFrame, mkF, argsToLocals, Value.category, maxLocals]; done) | rfl
def Q_law (Z : State) (p0 : Int32) (p1 : Int32) (p2 : Int32) (G1 : Int32) (h0 : Heap) (n0 : Nat) (v : Option Value) (h : Heap) (L : List Loc) : Prop := v = some (.int (1 : Int32)) ∧ Fr n0 L
set_option maxRecDepth 65536 in
set_option maxHeartbeats 40000000 in
theorem rm_law (l : Launch) (Z : State) (a0 : Array Value) (hw : ∀ d ∈ tables_1, d.before a0 Z = true) (ws : List Jvm.Cond) (p0 : Int32) (p1 : Int32) (p2 : Int32) (G1 : Int32) (h0 : Heap) (n0 : Nat) (Z0 : n0 ≤ h0.size) (P0 : Old Z n0 h0) (O2 : Sta Z Z.heap "java/lang/String" "COMPACT_STRINGS" "Z" (.int G1)) (P5 : ¬ (G1 = (0 : Int32))) :
    MetFree l x (head1 (Jvm.Cond.code x code maxLocals ret :: ws) room_1) (fun aR U => aR = #[(.int p0), (.int p1), (.int p2)] ∧ Z.Warmed39 U.vm ∧ U.heap = h0 ∧ CHv Z EL U.vm h0 ∧ ∀ x ∈ ([] : List Addr), Safe Z EL U.vm h0 x) (fun _ _ _ _ _ => True) (fun _ U o U' => ∃ v L, o = .returned v ∧ Q_law Z p0 p1 p2 G1 h0 n0 v U'.heap L ∧ CHr Z EL U.vm U.heap U'.vm U'.heap ∧ ReturnedEndW U o U' L room_1.cells room_1.slots) := by
  refine MetFree.of_bodySF (plainFor_of_name pn_2) hisR ?_
  intro p e s m args below meth c s₁ Bd hml0 hP hK
  obtain ⟨rfl, hZ, hh, hCH, hSF⟩ := hP
  have hx := Bd.exec
  have hby := Bd.bytes
  have hml : c.maxLocals = 13 := hml0
  have hown : s.vm.findClass "com/example/tenon/tenon/registry/ValidityIsValidPinLaw" = some m.cls := findClass_of_methodNamed Bd.named
  have hnm := (name_of_methodNamed Bd.named Bd.method).1
  have X0 : Stand p l e room_1 (s.setVm s.vm) m #[(.int p0), (.int p1), (.int p2)] below meth c s₁ [] 0 0 := Stand.of_body Bd
  have e0 : s₁.heap = h0 := by rw [← hh, Bd.state]; rfl
  have N0 := Fr.nil n0
  show Goes p.tables e below _ _
  rw [ef_law m p0 p1 p2 G1]
  refine Goes.named ?_
  intro QQ hQQ
  have hS0 : s.Since s.vm 0 := (State.WarmedH.refl s).since 0
  have hk0 : 0 ≤ h0.size := Nat.zero_le _
  have CR0 : CHr Z EL s.vm h0 s.vm h0 := CHr.refl hCH
  refine Goes.st (fun t k => XS.iconst X0.here hx rfl (hb hby at_0) k) ?_
  show Goes _ _ _ _ (s₁.setTop (mkF m 1 #[.val (.int p0), .val (.int p1), .val (.int p2), .unset, .unset, .unset, .unset, .unset, .unset, .unset, .unset, .unset, .unset] [(.int (2 : Int32))]))
  obtain ⟨T1, h1, k1, X1, e1, E1, A1, st1⟩ := newP X0 hx hZ (aty := .char) (hw0 hw) e0 (g := (mkF m 1 #[.val (.int p0), .val (.int p1), .val (.int p2), .unset, .unset, .unset, .unset, .unset, .unset, .unset, .unset, .unset, .unset] [(.int (2 : Int32))])) rfl (hb hby at_1) rfl (by decide) (cap := 2) (by decide) (by decide) (by decide) (by decide)
  obtain ⟨b1, g1⟩ : ∃ z, z = h0.size := ⟨_, rfl⟩
  rw [← g1] at A1 st1
  have CR2 : CHr Z EL s.vm h0 s.vm h1 := CR0.trans (CHr.ext E1 CR0.1)
  have V1 : Arv Z h1 b1 k1 .char (2 : Int32) [(.int (0 : Int32)), (.int (0 : Int32))] (.int (0 : Int32)) := (Arv.new A1 (by decide)).pad (pad_rep [] (.int (0 : Int32)) 2)
  refine Goes.st st1 ?_
  show Goes _ _ _ _ (T1.setTop (mkF m 3 #[.val (.int p0), .val (.int p1), .val (.int p2), .unset, .unset, .unset, .unset, .unset, .unset, .unset, .unset, .unset, .unset] [(.ref b1)]))
  refine Goes.st (fun t k => XS.dup X1.here hx rfl (hb hby at_3) rfl rfl k) ?_
  show Goes _ _ _ _ (T1.setTop (mkF m 4 #[.val (.int p0), .val (.int p1), .val (.int p2), .unset, .unset, .unset, .unset, .unset, .unset, .unset, .unset, .unset, .unset] [(.ref b1), (.ref b1)]))
  refine Goes.st (fun t k => XS.iconst X1.here hx rfl (hb hby at_4) k) ?_
  show Goes _ _ _ _ (T1.setTop (mkF m 5 #[.val (.int p0), .val (.int p1), .val (.int p2), .unset, .unset, .unset, .unset, .unset, .unset, .unset, .unset, .unset, .unset] [(.int (0 : Int32)), (.ref b1), (.ref b1)]))
  refine Goes.st (fun t k => XS.iloadN X1.here hx rfl (hb hby at_5) rfl k) ?_
  show Goes _ _ _ _ (T1.setTop (mkF m 6 #[.val (.int p0), .val (.int p1), .val (.int p2), .unset, .unset, .unset, .unset, .unset, .unset, .unset, .unset, .unset, .unset] [(.int p0), (.int (0 : Int32)), (.ref b1), (.ref b1)]))
  refine Goes.st (fun t k => XS.sipush X1.here hx rfl (hb hby at_6) k) ?_
  show Goes _ _ _ _ (T1.setTop (mkF m 9 #[.val (.int p0), .val (.int p1), .val (.int p2), .unset, .unset, .unset, .unset, .unset, .unset, .unset, .unset, .unset, .unset] [(.int (255 : Int32)), (.int p0), (.int (0 : Int32)), (.ref b1), (.ref b1)]))
  refine Goes.st (fun t k => XS.iand X1.here hx rfl (hb hby at_9) rfl k) ?_
  show Goes _ _ _ _ (T1.setTop (mkF m 10 #[.val (.int p0), .val (.int p1), .val (.int p2), .unset, .unset, .unset, .unset, .unset, .unset, .unset, .unset, .unset, .unset] [(.int (p0 &&& (255 : Int32))), (.int (0 : Int32)), (.ref b1), (.ref b1)]))
  refine Goes.st (fun t k => XS.i2c X1.here hx rfl (hb hby at_10) rfl k) ?_
  show Goes _ _ _ _ (T1.setTop (mkF m 11 #[.val (.int p0), .val (.int p1), .val (.int p2), .unset, .unset, .unset, .unset, .unset, .unset, .unset, .unset, .unset, .unset] [(.int ((p0 &&& (255 : Int32)).toUInt32.toUInt16.toUInt32.toInt32)), (.int (0 : Int32)), (.ref b1), (.ref b1)]))
  obtain ⟨oc3, oA3, oq3, oS3, oM3, oH3, oG3⟩ := id V1
  obtain ⟨T4, h4, X4, e4, W4, st4⟩ := stC X1 hx hZ e1 oA3 (j := (0 : Int32)) (inb_of oS3 ⟨by decide, by decide⟩) (g := (mkF m 11 #[.val (.int p0), .val (.int p1), .val (.int p2), .unset, .unset, .unset, .unset, .unset, .unset, .unset, .unset, .unset, .unset] [(.int ((p0 &&& (255 : Int32)).toUInt32.toUInt16.toUInt32.toInt32)), (.int (0 : Int32)), (.ref b1), (.ref b1)])) rfl rfl (hb hby at_11)
  obtain ⟨ch4, hch4⟩ : ∃ z, z = nar .char ((p0 &&& (255 : Int32)).toUInt32.toUInt16.toUInt32.toInt32) := ⟨_, rfl⟩
  rw [← hch4] at W4
  have rg4 : ¬ ch4 < 0 ∧ ¬ (255 : Int32) < ch4 := by rw [hch4]; exact own_and255 p0
  have V4 : Arv Z h4 b1 k1 .char (2 : Int32) [(.int ch4), (.int (0 : Int32))] (.int (0 : Int32)) := Arv.set oA3 oq3 oS3 oM3 oH3 oG3 (by rw [hch4]; exact fits_nar_char _) W4 0 rfl (Nat.le_of_ble_eq_true rfl)
  have N4 := Fr.snoc X4 N0 (Nat.le_trans Z0 (Nat.le_of_eq g1.symm))
  have CR5 : CHr Z EL s.vm h0 s.vm h4 := CR2.trans (CHr.wr W4 (own_safeArv hZ.alike V1 (by simp)) CR2.1)
  refine Goes.st st4 ?_
  show Goes _ _ _ _ (T4.setTop (mkF m 12 #[.val (.int p0), .val (.int p1), .val (.int p2), .unset, .unset, .unset, .unset, .unset, .unset, .unset, .unset, .unset, .unset] [(.ref b1)]))
  refine Goes.st (fun t k => XS.dup X4.here hx rfl (hb hby at_12) rfl rfl k) ?_
  show Goes _ _ _ _ (T4.setTop (mkF m 13 #[.val (.int p0), .val (.int p1), .val (.int p2), .unset, .unset, .unset, .unset, .unset, .unset, .unset, .unset, .unset, .unset] [(.ref b1), (.ref b1)]))
  refine Goes.st (fun t k => XS.iconst X4.here hx rfl (hb hby at_13) k) ?_
  show Goes _ _ _ _ (T4.setTop (mkF m 14 #[.val (.int p0), .val (.int p1), .val (.int p2), .unset, .unset, .unset, .unset, .unset, .unset, .unset, .unset, .unset, .unset] [(.int (1 : Int32)), (.ref b1), (.ref b1)]))
  refine Goes.st (fun t k => XS.iloadN X4.here hx rfl (hb hby at_14) rfl k) ?_
  show Goes _ _ _ _ (T4.setTop (mkF m 15 #[.val (.int p0), .val (.int p1), .val (.int p2), .unset, .unset, .unset, .unset, .unset, .unset, .unset, .unset, .unset, .unset] [(.int p1), (.int (1 : Int32)), (.ref b1), (.ref b1)]))
  refine Goes.st (fun t k => XS.sipush X4.here hx rfl (hb hby at_15) k) ?_
  show Goes _ _ _ _ (T4.setTop (mkF m 18 #[.val (.int p0), .val (.int p1), .val (.int p2), .unset, .unset, .unset, .unset, .unset, .unset, .unset, .unset, .unset, .unset] [(.int (255 : Int32)), (.int p1), (.int (1 : Int32)), (.ref b1), (.ref b1)]))
  refine Goes.st (fun t k => XS.iand X4.here hx rfl (hb hby at_18) rfl k) ?_
  show Goes _ _ _ _ (T4.setTop (mkF m 19 #[.val (.int p0), .val (.int p1), .val (.int p2), .unset, .unset, .unset, .unset, .unset, .unset, .unset, .unset, .unset, .unset] [(.int (p1 &&& (255 : Int32))), (.int (1 : Int32)), (.ref b1), (.ref b1)]))
  refine Goes.st (fun t k => XS.i2c X4.here hx rfl (hb hby at_19) rfl k) ?_
  show Goes _ _ _ _ (T4.setTop (mkF m 20 #[.val (.int p0), .val (.int p1), .val (.int p2), .unset, .unset, .unset, .unset, .unset, .unset, .unset, .unset, .unset, .unset] [(.int ((p1 &&& (255 : Int32)).toUInt32.toUInt16.toUInt32.toInt32)), (.int (1 : Int32)), (.ref b1), (.ref b1)]))
  obtain ⟨oc6, oA6, oq6, oS6, oM6, oH6, oG6⟩ := id V4
  obtain ⟨T7, h7, X7, e7, W7, st7⟩ := stC X4 hx hZ e4 oA6 (j := (1 : Int32)) (inb_of oS6 ⟨by decide, by decide⟩) (g := (mkF m 20 #[.val (.int p0), .val (.int p1), .val (.int p2), .unset, .unset, .unset, .unset, .unset, .unset, .unset, .unset, .unset, .unset] [(.int ((p1 &&& (255 : Int32)).toUInt32.toUInt16.toUInt32.toInt32)), (.int (1 : Int32)), (.ref b1), (.ref b1)])) rfl rfl (hb hby at_20)
  obtain ⟨ch7, hch7⟩ : ∃ z, z = nar .char ((p1 &&& (255 : Int32)).toUInt32.toUInt16.toUInt32.toInt32) := ⟨_, rfl⟩
  rw [← hch7] at W7
  have rg7 : ¬ ch7 < 0 ∧ ¬ (255 : Int32) < ch7 := by rw [hch7]; exact own_and255 p1
  have V7 : Arv Z h7 b1 k1 .char (2 : Int32) [(.int ch4), (.int ch7)] (.int (0 : Int32)) := Arv.set oA6 oq6 oS6 oM6 oH6 oG6 (by rw [hch7]; exact fits_nar_char _) W7 1 rfl (Nat.le_of_ble_eq_true rfl)
  have N7 := Fr.snoc X7 N4 (Nat.le_trans Z0 (Nat.le_of_eq g1.symm))
  have CR8 : CHr Z EL s.vm h0 s.vm h7 := CR5.trans (CHr.wr W7 (own_safeArv hZ.alike V4 (by simp)) CR5.1)
  refine Goes.st st7 ?_
  show Goes _ _ _ _ (T7.setTop (mkF m 21 #[.val (.int p0), .val (.int p1), .val (.int p2), .unset, .unset, .unset, .unset, .unset, .unset, .unset, .unset, .unset, .unset] [(.ref b1)]))
  refine Goes.st (fun t k => XS.astoreN X7.here hx rfl (hb hby at_21) rfl rfl (l' := #[.val (.int p0), .val (.int p1), .val (.int p2), .val (.ref b1), .unset, .unset, .unset, .unset, .unset, .unset, .unset, .unset, .unset]) rfl k) ?_
  show Goes _ _ _ _ (T7.setTop (mkF m 22 #[.val (.int p0), .val (.int p1), .val (.int p2), .val (.ref b1), .unset, .unset, .unset, .unset, .unset, .unset, .unset, .unset, .unset] []))
  refine Goes.st (fun t k => XS.iconst X7.here hx rfl (hb hby at_22) k) ?_
  show Goes _ _ _ _ (T7.setTop (mkF m 23 #[.val (.int p0), .val (.int p1), .val (.int p2), .val (.ref b1), .unset, .unset, .unset, .unset, .unset, .unset, .unset, .unset, .unset] [(.int (1 : Int32))]))
  obtain ⟨T9, h9, k9, X9, e9, E9, A9, st9⟩ := newP X7 hx hZ (aty := .char) (hw0 hw) e7 (g := (mkF m 23 #[.val (.int p0), .val (.int p1), .val (.int p2), .val (.ref b1), .unset, .unset, .unset, .unset, .unset, .unset, .unset, .unset, .unset] [(.int (1 : Int32))])) rfl (hb hby at_23) rfl (by decide) (cap := 1) (by decide) (by decide) (by decide) (by decide)
  obtain ⟨b9, g9⟩ : ∃ z, z = h7.size := ⟨_, rfl⟩
  rw [← g9] at A9 st9
  have CR10 : CHr Z EL s.vm h0 s.vm h9 := CR8.trans (CHr.ext E9 CR8.1)
  have V9 : Arv Z h9 b9 k9 .char (1 : Int32) [(.int (0 : Int32))] (.int (0 : Int32)) := (Arv.new A9 (by decide)).pad (pad_rep [] (.int (0 : Int32)) 1)
  refine Goes.st st9 ?_
  show Goes _ _ _ _ (T9.setTop (mkF m 25 #[.val (.int p0), .val (.int p1), .val (.int p2), .val (.ref b1), .unset, .unset, .unset, .unset, .unset, .unset, .unset, .unset, .unset] [(.ref b9)]))
  refine Goes.st (fun t k => XS.dup X9.here hx rfl (hb hby at_25) rfl rfl k) ?_
  show Goes _ _ _ _ (T9.setTop (mkF m 26 #[.val (.int p0), .val (.int p1), .val (.int p2), .val (.ref b1), .unset, .unset, .unset, .unset, .unset, .unset, .unset, .unset, .unset] [(.ref b9), (.ref b9)]))
  refine Goes.st (fun t k => XS.iconst X9.here hx rfl (hb hby at_26) k) ?_
  show Goes _ _ _ _ (T9.setTop (mkF m 27 #[.val (.int p0), .val (.int p1), .val (.int p2), .val (.ref b1), .unset, .unset, .unset, .unset, .unset, .unset, .unset, .unset, .unset] [(.int (0 : Int32)), (.ref b9), (.ref b9)]))
  refine Goes.st (fun t k => XS.iloadN X9.here hx rfl (hb hby at_27) rfl k) ?_
  show Goes _ _ _ _ (T9.setTop (mkF m 28 #[.val (.int p0), .val (.int p1), .val (.int p2), .val (.ref b1), .unset, .unset, .unset, .unset, .unset, .unset, .unset, .unset, .unset] [(.int p0), (.int (0 : Int32)), (.ref b9), (.ref b9)]))
  refine Goes.st (fun t k => XS.bipush X9.here hx rfl (hb hby at_28) k) ?_
  show Goes _ _ _ _ (T9.setTop (mkF m 30 #[.val (.int p0), .val (.int p1), .val (.int p2), .val (.ref b1), .unset, .unset, .unset, .unset, .unset, .unset, .unset, .unset, .unset] [(.int (8 : Int32)), (.int p0), (.int (0 : Int32)), (.ref b9), (.ref b9)]))
  refine Goes.st (fun t k => XS.iushr X9.here hx rfl (hb hby at_30) rfl k) ?_
  show Goes _ _ _ _ (T9.setTop (mkF m 31 #[.val (.int p0), .val (.int p1), .val (.int p2), .val (.ref b1), .unset, .unset, .unset, .unset, .unset, .unset, .unset, .unset, .unset] [(.int ((p0.toUInt32 >>> ((8 : Int32) &&& 31).toUInt32).toInt32)), (.int (0 : Int32)), (.ref b9), (.ref b9)]))
  refine Goes.st (fun t k => XS.sipush X9.here hx rfl (hb hby at_31) k) ?_
  show Goes _ _ _ _ (T9.setTop (mkF m 34 #[.val (.int p0), .val (.int p1), .val (.int p2), .val (.ref b1), .unset, .unset, .unset, .unset, .unset, .unset, .unset, .unset, .unset] [(.int (255 : Int32)), (.int ((p0.toUInt32 >>> ((8 : Int32) &&& 31).toUInt32).toInt32)), (.int (0 : Int32)), (.ref b9), (.ref b9)]))
  refine Goes.st (fun t k => XS.iand X9.here hx rfl (hb hby at_34) rfl k) ?_
  show Goes _ _ _ _ (T9.setTop (mkF m 35 #[.val (.int p0), .val (.int p1), .val (.int p2), .val (.ref b1), .unset, .unset, .unset, .unset, .unset, .unset, .unset, .unset, .unset] [(.int (((p0.toUInt32 >>> ((8 : Int32) &&& 31).toUInt32).toInt32) &&& (255 : Int32))), (.int (0 : Int32)), (.ref b9), (.ref b9)]))
  refine Goes.st (fun t k => XS.i2c X9.here hx rfl (hb hby at_35) rfl k) ?_
  show Goes _ _ _ _ (T9.setTop (mkF m 36 #[.val (.int p0), .val (.int p1), .val (.int p2), .val (.ref b1), .unset, .unset, .unset, .unset, .unset, .unset, .unset, .unset, .unset] [(.int ((((p0.toUInt32 >>> ((8 : Int32) &&& 31).toUInt32).toInt32) &&& (255 : Int32)).toUInt32.toUInt16.toUInt32.toInt32)), (.int (0 : Int32)), (.ref b9), (.ref b9)]))
  obtain ⟨oc11, oA11, oq11, oS11, oM11, oH11, oG11⟩ := id V9
  obtain ⟨T12, h12, X12, e12, W12, st12⟩ := stC X9 hx hZ e9 oA11 (j := (0 : Int32)) (inb_of oS11 ⟨by decide, by decide⟩) (g := (mkF m 36 #[.val (.int p0), .val (.int p1), .val (.int p2), .val (.ref b1), .unset, .unset, .unset, .unset, .unset, .unset, .unset, .unset, .unset] [(.int ((((p0.toUInt32 >>> ((8 : Int32) &&& 31).toUInt32).toInt32) &&& (255 : Int32)).toUInt32.toUInt16.toUInt32.toInt32)), (.int (0 : Int32)), (.ref b9), (.ref b9)])) rfl rfl (hb hby at_36)
  obtain ⟨ch12, hch12⟩ : ∃ z, z = nar .char ((((p0.toUInt32 >>> ((8 : Int32) &&& 31).toUInt32).toInt32) &&& (255 : Int32)).toUInt32.toUInt16.toUInt32.toInt32) := ⟨_, rfl⟩
  rw [← hch12] at W12
  have rg12 : ¬ ch12 < 0 ∧ ¬ (255 : Int32) < ch12 := by rw [hch12]; exact own_and255 ((p0.toUInt32 >>> ((8 : Int32) &&& 31).toUInt32).toInt32)
  have V12 : Arv Z h12 b9 k9 .char (1 : Int32) [(.int ch12)] (.int (0 : Int32)) := Arv.set oA11 oq11 oS11 oM11 oH11 oG11 (by rw [hch12]; exact fits_nar_char _) W12 0 rfl (Nat.le_of_ble_eq_true rfl)
  have N12 := Fr.snoc X12 N7 (Nat.le_trans Z0 (Nat.le_trans (Nat.le_trans (Nat.le_trans E1.1 (Nat.le_of_eq W4.size.symm)) (Nat.le_of_eq W7.size.symm)) (Nat.le_of_eq g9.symm)))
  have CR13 : CHr Z EL s.vm h0 s.vm h12 := CR10.trans (CHr.wr W12 (own_safeArv hZ.alike V9 (by simp)) CR10.1)
  refine Goes.st st12 ?_
  show Goes _ _ _ _ (T12.setTop (mkF m 37 #[.val (.int p0), .val (.int p1), .val (.int p2), .val (.ref b1), .unset, .unset, .unset, .unset, .unset, .unset, .unset, .unset, .unset] [(.ref b9)]))
  refine Goes.st (fun t k => XS.astore X12.here hx rfl (hb hby at_37) rfl rfl (l' := #[.val (.int p0), .val (.int p1), .val (.int p2), .val (.ref b1), .val (.ref b9), .unset, .unset, .unset, .unset, .unset, .unset, .unset, .unset]) rfl k) ?_
  show Goes _ _ _ _ (T12.setTop (mkF m 39 #[.val (.int p0), .val (.int p1), .val (.int p2), .val (.ref b1), .val (.ref b9), .unset, .unset, .unset, .unset, .unset, .unset, .unset, .unset] []))
  refine Goes.st (fun t k => XS.iloadN X12.here hx rfl (hb hby at_39) rfl k) ?_
  show Goes _ _ _ _ (T12.setTop (mkF m 40 #[.val (.int p0), .val (.int p1), .val (.int p2), .val (.ref b1), .val (.ref b9), .unset, .unset, .unset, .unset, .unset, .unset, .unset, .unset] [(.int p2)]))
  refine Goes.st (fun t k => XS.iconst X12.here hx rfl (hb hby at_40) k) ?_
  show Goes _ _ _ _ (T12.setTop (mkF m 41 #[.val (.int p0), .val (.int p1), .val (.int p2), .val (.ref b1), .val (.ref b9), .unset, .unset, .unset, .unset, .unset, .unset, .unset, .unset] [(.int (4 : Int32)), (.int p2)]))
  refine Goes.st (fun t k => XS.iand X12.here hx rfl (hb hby at_41) rfl k) ?_
  show Goes _ _ _ _ (T12.setTop (mkF m 42 #[.val (.int p0), .val (.int p1), .val (.int p2), .val (.ref b1), .val (.ref b9), .unset, .unset, .unset, .unset, .unset, .unset, .unset, .unset] [(.int (p2 &&& (4 : Int32)))]))
  by_cases c14 : (p2 &&& (4 : Int32)) = (0 : Int32)
  case pos =>
    refine Goes.st (fun t k => XS.ifYes X12.here hx rfl (pc0 := 42) (pc' := 58) rfl (hb hby at_42) rfl ((if0 _ _).trans (teq c14).1) (by decide) (by decide) k) ?_
    show Goes _ _ _ _ (T12.setTop (mkF m 58 #[.val (.int p0), .val (.int p1), .val (.int p2), .val (.ref b1), .val (.ref b9), .unset, .unset, .unset, .unset, .unset, .unset, .unset, .unset] []))
    obtain ⟨T15, h15, X15, e15, E15, A15, D15, -, st15⟩ := newO X12 hx hZ hown (hw1 hw) (hw2 hw) (hw3 hw) e12 (g := (mkF m 58 #[.val (.int p0), .val (.int p1), .val (.int p2), .val (.ref b1), .val (.ref b9), .unset, .unset, .unset, .unset, .unset, .unset, .unset, .unset] [])) rfl (hb hby at_58) (by decide) (by decide)
    obtain ⟨b15, g15⟩ : ∃ z, z = h12.size := ⟨_, rfl⟩
    rw [← g15] at A15 D15 st15
    have CR16 : CHr Z EL s.vm h0 s.vm h15 := CR13.trans (CHr.ext E15 CR13.1)
    have sf15_b15 : Safe Z EL s.vm h15 b15 := Safe.ext E15 CR13.1 (Safe.new (Nat.le_of_eq g15.symm))
    have F15_coder : Fld Z h15 b15 "java/lang/String" "coder" "B" (.int (0 : Int32)) := D15 (Or.inr (hw27 hw)) (ty := .byte) (by decide)
    have F15_value : Fld Z h15 b15 "java/lang/String" "value" "[B" .null := D15 (Or.inr (hw29 hw)) (ty := (.array .byte)) (by decide)
    refine Goes.st st15 ?_
    show Goes _ _ _ _ (T15.setTop (mkF m 61 #[.val (.int p0), .val (.int p1), .val (.int p2), .val (.ref b1), .val (.ref b9), .unset, .unset, .unset, .unset, .unset, .unset, .unset, .unset] [(.ref b15)]))
    refine Goes.st (fun t k => XS.dup X15.here hx rfl (hb hby at_61) rfl rfl k) ?_
    show Goes _ _ _ _ (T15.setTop (mkF m 62 #[.val (.int p0), .val (.int p1), .val (.int p2), .val (.ref b1), .val (.ref b9), .unset, .unset, .unset, .unset, .unset, .unset, .unset, .unset] [(.ref b15), (.ref b15)]))
    refine Goes.st (fun t k => XS.aloadN X15.here hx rfl (hb hby at_62) rfl rfl k) ?_
    show Goes _ _ _ _ (T15.setTop (mkF m 63 #[.val (.int p0), .val (.int p1), .val (.int p2), .val (.ref b1), .val (.ref b9), .unset, .unset, .unset, .unset, .unset, .unset, .unset, .unset] [(.ref b1), (.ref b15), (.ref b15)]))
    have f18 : Arv Z h15 b1 k1 .char (2 : Int32) [(.int ch4), (.int ch7)] (.int (0 : Int32)) := (((V7.ext E9).other W12 (Nat.ne_of_lt (Nat.lt_of_lt_of_le A1.lt (Nat.le_trans (Nat.le_trans (Nat.le_of_eq W4.size.symm) (Nat.le_of_eq W7.size.symm)) (Nat.le_of_eq g9.symm))))).ext E15)
    have f19 : Old Z n0 h15 := ((((((P0.ext E1).wr W4 (Nat.le_trans Z0 (Nat.le_of_eq g1.symm))).wr W7 (Nat.le_trans Z0 (Nat.le_of_eq g1.symm))).ext E9).wr W12 (Nat.le_trans Z0 (Nat.le_trans (Nat.le_trans (Nat.le_trans E1.1 (Nat.le_of_eq W4.size.symm)) (Nat.le_of_eq W7.size.symm)) (Nat.le_of_eq g9.symm)))).ext E15)
    have hp20 : ∀ c ∈ ([ch4, ch7] : List Int32), ¬ c < 0 ∧ ¬ (255 : Int32) < c := (own_cS rg4 (own_cS rg7 own_c0))
    obtain ⟨_, _, ⟨T17, L17, k17, n17⟩, -, X17, ⟨Lc17, hQ17, l17, y17, z17⟩, st17⟩ := X15.specialBack hx (y := (⟨"java/lang/String", "<init>", "([C)V"⟩ : MethodName)) rfl hown (mvT hZ (hw4 hw)) (mvT hZ (hw5 hw)) (mvT hZ (hw6 hw)) (by decide) (StrChars.Road.backV (W := 1) hZ (own_hws hw) (kI := 4) (hw2 hw) (cs := ([ch4, ch7] : List Int32)) (bs := ([ch4, ch7] : List Int32).map (fun c => c.toInt8.toInt32)) (n := 2) (Nat.le_trans Z0 (Nat.le_trans (Nat.le_trans (Nat.le_trans (Nat.le_trans (Nat.le_trans E1.1 (Nat.le_of_eq W4.size.symm)) (Nat.le_of_eq W7.size.symm)) E9.1) (Nat.le_of_eq W12.size.symm)) (Nat.le_of_eq g15.symm))) (Nat.le_trans Z0 (Nat.le_trans (Nat.le_trans (Nat.le_trans (Nat.le_trans (Nat.le_trans E1.1 (Nat.le_of_eq W4.size.symm)) (Nat.le_of_eq W7.size.symm)) E9.1) (Nat.le_of_eq W12.size.symm)) E15.1)) A15 F15_value F15_coder f18 (O2.ext f19.2) P5 rfl rfl (by decide) (by decide) hp20 rfl (by decide) (by decide)) (g := (mkF m 63 #[.val (.int p0), .val (.int p1), .val (.int p2), .val (.ref b1), .val (.ref b9), .unset, .unset, .unset, .unset, .unset, .unset, .unset, .unset] [(.ref b1), (.ref b15), (.ref b15)])) rfl (by rw [hml]; rfl) (Steps.refl _) (a := b15) (argsL := [(.ref b1)]) (rest := [(.ref b15)]) (lenOf pd_1 rfl) rfl (by show 2 * 0 + _ ≤ _; exact Nat.le_of_eq rfl) (hb hby at_63) (fun _ _ => ⟨rfl, e15, (by decide : 3 + 1 ≤ _), (by decide : 7 + 2 ≤ _)⟩)
    dsimp only [Pt.U, Pt.locs, Pt.cells, Pt.slots] at X17 l17 y17 z17 st17 hQ17
    subst l17 y17 z17
    obtain ⟨rfl, N17q, K17, Ex17, Cd17, t17, kb17, lz17, lo17, tn17, Vf17, Av17⟩ := hQ17
    have N17 := Fr.app N12 N17q
    have S17 : Str Z T17.heap b15 t17 kb17 [ch4, ch7] := ⟨Ex17, Vf17, Cd17, Av17, hp20, Nat.le_of_ble_eq_true rfl⟩
    have hs21 : ∀ x ∈ ([b15] : List Addr), Safe Z EL s.vm h15 x := (allS sf15_b15 all0)
    have CR21 : CHr Z EL s.vm h0 s.vm T17.heap := CR16.trans (CHr.keep K17 hs21 CR16.1)
    have sf21_b15 : Safe Z EL s.vm T17.heap b15 := Safe.keep K17 hs21 CR16.1 sf15_b15
    refine Goes.tr st17 ?_
    show Goes _ _ _ _ (T17.setTop (mkF m 66 #[.val (.int p0), .val (.int p1), .val (.int p2), .val (.ref b1), .val (.ref b9), .unset, .unset, .unset, .unset, .unset, .unset, .unset, .unset] [(.ref b15)]))
    refine Goes.st (fun t k => XS.astore X17.here hx rfl (hb hby at_66) rfl rfl (l' := #[.val (.int p0), .val (.int p1), .val (.int p2), .val (.ref b1), .val (.ref b9), .val (.ref b15), .unset, .unset, .unset, .unset, .unset, .unset, .unset]) rfl k) ?_
    show Goes _ _ _ _ (T17.setTop (mkF m 68 #[.val (.int p0), .val (.int p1), .val (.int p2), .val (.ref b1), .val (.ref b9), .val (.ref b15), .unset, .unset, .unset, .unset, .unset, .unset, .unset] []))
    refine Goes.st (fun t k => XS.iloadN X17.here hx rfl (hb hby at_68) rfl k) ?_
    show Goes _ _ _ _ (T17.setTop (mkF m 69 #[.val (.int p0), .val (.int p1), .val (.int p2), .val (.ref b1), .val (.ref b9), .val (.ref b15), .unset, .unset, .unset, .unset, .unset, .unset, .unset] [(.int p2)]))
    refine Goes.st (fun t k => XS.bipush X17.here hx rfl (hb hby at_69) k) ?_
    show Goes _ _ _ _ (T17.setTop (mkF m 71 #[.val (.int p0), .val (.int p1), .val (.int p2), .val (.ref b1), .val (.ref b9), .val (.ref b15), .unset, .unset, .unset, .unset, .unset, .unset, .unset] [(.int (8 : Int32)), (.int p2)]))
    refine Goes.st (fun t k => XS.iand X17.here hx rfl (hb hby at_71) rfl k) ?_
    show Goes _ _ _ _ (T17.setTop (mkF m 72 #[.val (.int p0), .val (.int p1), .val (.int p2), .val (.ref b1), .val (.ref b9), .val (.ref b15), .unset, .unset, .unset, .unset, .unset, .unset, .unset] [(.int (p2 &&& (8 : Int32)))]))
    by_cases c22 : (p2 &&& (8 : Int32)) = (0 : Int32)
    case pos =>
      refine Goes.st (fun t k => XS.ifYes X17.here hx rfl (pc0 := 72) (pc' := 88) rfl (hb hby at_72) rfl ((if0 _ _).trans (teq c22).1) (by decide) (by decide) k) ?_
      show Goes _ _ _ _ (T17.setTop (mkF m 88 #[.val (.int p0), .val (.int p1), .val (.int p2), .val (.ref b1), .val (.ref b9), .val (.ref b15), .unset, .unset, .unset, .unset, .unset, .unset, .unset] []))
      obtain ⟨T23, h23, X23, e23, E23, A23, D23, -, st23⟩ := newO X17 hx hZ hown (hw1 hw) (hw2 hw) (hw3 hw) rfl (g := (mkF m 88 #[.val (.int p0), .val (.int p1), .val (.int p2), .val (.ref b1), .val (.ref b9), .val (.ref b15), .unset, .unset, .unset, .unset, .unset, .unset, .unset] [])) rfl (hb hby at_88) (by decide) (by decide)
      obtain ⟨b23, g23⟩ : ∃ z, z = T17.heap.size := ⟨_, rfl⟩
      rw [← g23] at A23 D23 st23
      have CR24 : CHr Z EL s.vm h0 s.vm h23 := CR21.trans (CHr.ext E23 CR21.1)
      have sf23_b23 : Safe Z EL s.vm h23 b23 := Safe.ext E23 CR21.1 (Safe.new (Nat.le_of_eq g23.symm))
      have F23_coder : Fld Z h23 b23 "java/lang/String" "coder" "B" (.int (0 : Int32)) := D23 (Or.inr (hw27 hw)) (ty := .byte) (by decide)
      have F23_value : Fld Z h23 b23 "java/lang/String" "value" "[B" .null := D23 (Or.inr (hw29 hw)) (ty := (.array .byte)) (by decide)
      refine Goes.st st23 ?_
      show Goes _ _ _ _ (T23.setTop (mkF m 91 #[.val (.int p0), .val (.int p1), .val (.int p2), .val (.ref b1), .val (.ref b9), .val (.ref b15), .unset, .unset, .unset, .unset, .unset, .unset, .unset] [(.ref b23)]))
      refine Goes.st (fun t k => XS.dup X23.here hx rfl (hb hby at_91) rfl rfl k) ?_
      show Goes _ _ _ _ (T23.setTop (mkF m 92 #[.val (.int p0), .val (.int p1), .val (.int p2), .val (.ref b1), .val (.ref b9), .val (.ref b15), .unset, .unset, .unset, .unset, .unset, .unset, .unset] [(.ref b23), (.ref b23)]))
      refine Goes.st (fun t k => XS.aload X23.here hx rfl (hb hby at_92) rfl rfl k) ?_
      show Goes _ _ _ _ (T23.setTop (mkF m 94 #[.val (.int p0), .val (.int p1), .val (.int p2), .val (.ref b1), .val (.ref b9), .val (.ref b15), .unset, .unset, .unset, .unset, .unset, .unset, .unset] [(.ref b9), (.ref b23), (.ref b23)]))
      have f26 : Arv Z h23 b9 k9 .char (1 : Int32) [(.int ch12)] (.int (0 : Int32)) := (((V12.ext E15).keep K17 (ninS (Nat.ne_of_lt (Nat.lt_of_lt_of_le A9.lt (Nat.le_trans (Nat.le_of_eq W12.size.symm) (Nat.le_of_eq g15.symm)))) nin0)).ext E23)
      have f27 : Old Z n0 h23 := ((f19.keep K17 (allS (Nat.le_trans Z0 (Nat.le_trans (Nat.le_trans (Nat.le_trans (Nat.le_trans (Nat.le_trans E1.1 (Nat.le_of_eq W4.size.symm)) (Nat.le_of_eq W7.size.symm)) E9.1) (Nat.le_of_eq W12.size.symm)) (Nat.le_of_eq g15.symm))) all0)).ext E23)
      have hp28 : ∀ c ∈ ([ch12] : List Int32), ¬ c < 0 ∧ ¬ (255 : Int32) < c := (own_cS rg12 own_c0)
      obtain ⟨_, _, ⟨T25, L25, k25, n25⟩, -, X25, ⟨Lc25, hQ25, l25, y25, z25⟩, st25⟩ := X23.specialBack hx (y := (⟨"java/lang/String", "<init>", "([C)V"⟩ : MethodName)) rfl hown (mvT hZ (hw4 hw)) (mvT hZ (hw5 hw)) (mvT hZ (hw6 hw)) (by decide) (StrChars.Road.backV (W := 1) hZ (own_hws hw) (kI := 4) (hw2 hw) (cs := ([ch12] : List Int32)) (bs := ([ch12] : List Int32).map (fun c => c.toInt8.toInt32)) (n := 1) (Nat.le_trans Z0 (Nat.le_trans (Nat.le_trans (Nat.le_trans (Nat.le_trans (Nat.le_trans (Nat.le_trans (Nat.le_trans E1.1 (Nat.le_of_eq W4.size.symm)) (Nat.le_of_eq W7.size.symm)) E9.1) (Nat.le_of_eq W12.size.symm)) E15.1) K17.1) (Nat.le_of_eq g23.symm))) (Nat.le_trans Z0 (Nat.le_trans (Nat.le_trans (Nat.le_trans (Nat.le_trans (Nat.le_trans (Nat.le_trans (Nat.le_trans E1.1 (Nat.le_of_eq W4.size.symm)) (Nat.le_of_eq W7.size.symm)) E9.1) (Nat.le_of_eq W12.size.symm)) E15.1) K17.1) E23.1)) A23 F23_value F23_coder f26 (O2.ext f27.2) P5 rfl rfl (by decide) (by decide) hp28 rfl (by decide) (by decide)) (g := (mkF m 94 #[.val (.int p0), .val (.int p1), .val (.int p2), .val (.ref b1), .val (.ref b9), .val (.ref b15), .unset, .unset, .unset, .unset, .unset, .unset, .unset] [(.ref b9), (.ref b23), (.ref b23)])) rfl (by rw [hml]; rfl) (Steps.refl _) (a := b23) (argsL := [(.ref b9)]) (rest := [(.ref b23)]) (lenOf pd_1 rfl) rfl (by show 2 * 0 + _ ≤ _; exact Nat.le_of_eq rfl) (hb hby at_94) (fun _ _ => ⟨rfl, e23, (by decide : 5 + 1 ≤ _), (by decide : 13 + 1 ≤ _)⟩)
      dsimp only [Pt.U, Pt.locs, Pt.cells, Pt.slots] at X25 l25 y25 z25 st25 hQ25
      subst l25 y25 z25
      obtain ⟨rfl, N25q, K25, Ex25, Cd25, t25, kb25, lz25, lo25, tn25, Vf25, Av25⟩ := hQ25
      have N25 := Fr.app N17 N25q
      have S25 : Str Z T25.heap b23 t25 kb25 [ch12] := ⟨Ex25, Vf25, Cd25, Av25, hp28, Nat.le_of_ble_eq_true rfl⟩
      have hs29 : ∀ x ∈ ([b23] : List Addr), Safe Z EL s.vm h23 x := (allS sf23_b23 all0)
      have CR29 : CHr Z EL s.vm h0 s.vm T25.heap := CR24.trans (CHr.keep K25 hs29 CR24.1)
      have sf29_b23 : Safe Z EL s.vm T25.heap b23 := Safe.keep K25 hs29 CR24.1 sf23_b23
      refine Goes.tr st25 ?_
      show Goes _ _ _ _ (T25.setTop (mkF m 97 #[.val (.int p0), .val (.int p1), .val (.int p2), .val (.ref b1), .val (.ref b9), .val (.ref b15), .unset, .unset, .unset, .unset, .unset, .unset, .unset] [(.ref b23)]))
      refine Goes.st (fun t k => XS.astore X25.here hx rfl (hb hby at_97) rfl rfl (l' := #[.val (.int p0), .val (.int p1), .val (.int p2), .val (.ref b1), .val (.ref b9), .val (.ref b15), .val (.ref b23), .unset, .unset, .unset, .unset, .unset, .unset]) rfl k) ?_
      show Goes _ _ _ _ (T25.setTop (mkF m 99 #[.val (.int p0), .val (.int p1), .val (.int p2), .val (.ref b1), .val (.ref b9), .val (.ref b15), .val (.ref b23), .unset, .unset, .unset, .unset, .unset, .unset] []))
      refine Goes.st (fun t k => XS.iloadN X25.here hx rfl (hb hby at_99) rfl k) ?_
      show Goes _ _ _ _ (T25.setTop (mkF m 100 #[.val (.int p0), .val (.int p1), .val (.int p2), .val (.ref b1), .val (.ref b9), .val (.ref b15), .val (.ref b23), .unset, .unset, .unset, .unset, .unset, .unset] [(.int p2)]))
      refine Goes.st (fun t k => XS.iconst X25.here hx rfl (hb hby at_100) k) ?_
      show Goes _ _ _ _ (T25.setTop (mkF m 101 #[.val (.int p0), .val (.int p1), .val (.int p2), .val (.ref b1), .val (.ref b9), .val (.ref b15), .val (.ref b23), .unset, .unset, .unset, .unset, .unset, .unset] [(.int (1 : Int32)), (.int p2)]))
      refine Goes.st (fun t k => XS.iand X25.here hx rfl (hb hby at_101) rfl k) ?_
      show Goes _ _ _ _ (T25.setTop (mkF m 102 #[.val (.int p0), .val (.int p1), .val (.int p2), .val (.ref b1), .val (.ref b9), .val (.ref b15), .val (.ref b23), .unset, .unset, .unset, .unset, .unset, .unset] [(.int (p2 &&& (1 : Int32)))]))
      by_cases c30 : (p2 &&& (1 : Int32)) = (0 : Int32)
      case pos =>
        refine Goes.st (fun t k => XS.ifYes X25.here hx rfl (pc0 := 102) (pc' := 109) rfl (hb hby at_102) rfl ((if0 _ _).trans (teq c30).1) (by decide) (by decide) k) ?_
        show Goes _ _ _ _ (T25.setTop (mkF m 109 #[.val (.int p0), .val (.int p1), .val (.int p2), .val (.ref b1), .val (.ref b9), .val (.ref b15), .val (.ref b23), .unset, .unset, .unset, .unset, .unset, .unset] []))
        refine Goes.st (fun t k => XS.iconst X25.here hx rfl (hb hby at_109) k) ?_
        show Goes _ _ _ _ (T25.setTop (mkF m 110 #[.val (.int p0), .val (.int p1), .val (.int p2), .val (.ref b1), .val (.ref b9), .val (.ref b15), .val (.ref b23), .unset, .unset, .unset, .unset, .unset, .unset] [(.int (0 : Int32))]))
        refine Goes.st (fun t k => XS.istore X25.here hx rfl (hb hby at_110) rfl (l' := #[.val (.int p0), .val (.int p1), .val (.int p2), .val (.ref b1), .val (.ref b9), .val (.ref b15), .val (.ref b23), .val (.int (0 : Int32)), .unset, .unset, .unset, .unset, .unset]) rfl k) ?_
        show Goes _ _ _ _ (T25.setTop (mkF m 112 #[.val (.int p0), .val (.int p1), .val (.int p2), .val (.ref b1), .val (.ref b9), .val (.ref b15), .val (.ref b23), .val (.int (0 : Int32)), .unset, .unset, .unset, .unset, .unset] []))
        refine Goes.st (fun t k => XS.iloadN X25.here hx rfl (hb hby at_112) rfl k) ?_
        show Goes _ _ _ _ (T25.setTop (mkF m 113 #[.val (.int p0), .val (.int p1), .val (.int p2), .val (.ref b1), .val (.ref b9), .val (.ref b15), .val (.ref b23), .val (.int (0 : Int32)), .unset, .unset, .unset, .unset, .unset] [(.int p2)]))
        refine Goes.st (fun t k => XS.iconst X25.here hx rfl (hb hby at_113) k) ?_
        show Goes _ _ _ _ (T25.setTop (mkF m 114 #[.val (.int p0), .val (.int p1), .val (.int p2), .val (.ref b1), .val (.ref b9), .val (.ref b15), .val (.ref b23), .val (.int (0 : Int32)), .unset, .unset, .unset, .unset, .unset] [(.int (2 : Int32)), (.int p2)]))
        refine Goes.st (fun t k => XS.iand X25.here hx rfl (hb hby at_114) rfl k) ?_
        show Goes _ _ _ _ (T25.setTop (mkF m 115 #[.val (.int p0), .val (.int p1), .val (.int p2), .val (.ref b1), .val (.ref b9), .val (.ref b15), .val (.ref b23), .val (.int (0 : Int32)), .unset, .unset, .unset, .unset, .unset] [(.int (p2 &&& (2 : Int32)))]))
        by_cases c31 : (p2 &&& (2 : Int32)) = (0 : Int32)
        case pos =>
          refine Goes.st (fun t k => XS.ifYes X25.here hx rfl (pc0 := 115) (pc' := 122) rfl (hb hby at_115) rfl ((if0 _ _).trans (teq c31).1) (by decide) (by decide) k) ?_
          show Goes _ _ _ _ (T25.setTop (mkF m 122 #[.val (.int p0), .val (.int p1), .val (.int p2), .val (.ref b1), .val (.ref b9), .val (.ref b15), .val (.ref b23), .val (.int (0 : Int32)), .unset, .unset, .unset, .unset, .unset] []))
          refine Goes.st (fun t k => XS.iconst X25.here hx rfl (hb hby at_122) k) ?_
          show Goes _ _ _ _ (T25.setTop (mkF m 123 #[.val (.int p0), .val (.int p1), .val (.int p2), .val (.ref b1), .val (.ref b9), .val (.ref b15), .val (.ref b23), .val (.int (0 : Int32)), .unset, .unset, .unset, .unset, .unset] [(.int (0 : Int32))]))
          refine Goes.st (fun t k => XS.istore X25.here hx rfl (hb hby at_123) rfl (l' := #[.val (.int p0), .val (.int p1), .val (.int p2), .val (.ref b1), .val (.ref b9), .val (.ref b15), .val (.ref b23), .val (.int (0 : Int32)), .val (.int (0 : Int32)), .unset, .unset, .unset, .unset]) rfl k) ?_
          show Goes _ _ _ _ (T25.setTop (mkF m 125 #[.val (.int p0), .val (.int p1), .val (.int p2), .val (.ref b1), .val (.ref b9), .val (.ref b15), .val (.ref b23), .val (.int (0 : Int32)), .val (.int (0 : Int32)), .unset, .unset, .unset, .unset] []))
          obtain ⟨T32, h32, X32, e32, E32, A32, D32, -, st32⟩ := newO X25 hx hZ hown (hw30 hw) (hw31 hw) (hw32 hw) rfl (g := (mkF m 125 #[.val (.int p0), .val (.int p1), .val (.int p2), .val (.ref b1), .val (.ref b9), .val (.ref b15), .val (.ref b23), .val (.int (0 : Int32)), .val (.int (0 : Int32)), .unset, .unset, .unset, .unset] [])) rfl (hb hby at_125) (by decide) (by decide)
          obtain ⟨b32, g32⟩ : ∃ z, z = T25.heap.size := ⟨_, rfl⟩
          rw [← g32] at A32 D32 st32
          have CR33 : CHr Z EL s.vm h0 s.vm h32 := CR29.trans (CHr.ext E32 CR29.1)
          have F32_reason : Fld Z h32 b32 "com/example/tenon/tenon/registry/Validity" "reason" "Ljava/lang/String;" .null := D32 (Or.inl (hw43 hw)) (ty := (.object "java/lang/String")) (by decide)
          refine Goes.st st32 ?_
          show Goes _ _ _ _ (T32.setTop (mkF m 128 #[.val (.int p0), .val (.int p1), .val (.int p2), .val (.ref b1), .val (.ref b9), .val (.ref b15), .val (.ref b23), .val (.int (0 : Int32)), .val (.int (0 : Int32)), .unset, .unset, .unset, .unset] [(.ref b32)]))
          refine Goes.st (fun t k => XS.dup X32.here hx rfl (hb hby at_128) rfl rfl k) ?_
          show Goes _ _ _ _ (T32.setTop (mkF m 129 #[.val (.int p0), .val (.int p1), .val (.int p2), .val (.ref b1), .val (.ref b9), .val (.ref b15), .val (.ref b23), .val (.int (0 : Int32)), .val (.int (0 : Int32)), .unset, .unset, .unset, .unset] [(.ref b32), (.ref b32)]))
          obtain ⟨_, _, ⟨T34, L34, k34, n34⟩, -, X34, ⟨Lc34, hQ34, l34, y34, z34⟩, st34⟩ := X32.specialBack hx (y := (⟨"com/example/tenon/tenon/registry/Validity", "<init>", "()V"⟩ : MethodName)) rfl hown (mvT hZ (hw33 hw)) (mvT hZ (hw34 hw)) (mvT hZ (hw35 hw)) (by decide) (backOf (W := 1) (rm_vinit l Z a0 hw [] b32 h32 n0 (Nat.le_trans Z0 (Nat.le_trans (Nat.le_trans (Nat.le_trans (Nat.le_trans (Nat.le_trans (Nat.le_trans (Nat.le_trans (Nat.le_trans (Nat.le_trans E1.1 (Nat.le_of_eq W4.size.symm)) (Nat.le_of_eq W7.size.symm)) E9.1) (Nat.le_of_eq W12.size.symm)) E15.1) K17.1) E23.1) K25.1) E32.1)) ) hZ (hw35 hw) (hw32 hw) (by decide) (by decide)) (g := (mkF m 129 #[.val (.int p0), .val (.int p1), .val (.int p2), .val (.ref b1), .val (.ref b9), .val (.ref b15), .val (.ref b23), .val (.int (0 : Int32)), .val (.int (0 : Int32)), .unset, .unset, .unset, .unset] [(.ref b32), (.ref b32)])) rfl (by rw [hml]; rfl) (Steps.refl _) (a := b32) (argsL := []) (rest := [(.ref b32)]) (lenOf pd_2 rfl) rfl (by show 2 * 0 + _ ≤ _; exact Nat.le_of_eq rfl) (hb hby at_129) (fun _ _ => ⟨rfl, e32, (by decide : 7 + 0 ≤ _), (by decide : 15 + 0 ≤ _)⟩)
          dsimp only [Pt.U, Pt.locs, Pt.cells, Pt.slots] at X34 l34 y34 z34 st34 hQ34
          subst l34 y34 z34
          obtain ⟨rfl, N34q, K34⟩ := hQ34
          have N34 := Fr.app N25 N34q
          refine Goes.tr st34 ?_
          show Goes _ _ _ _ (T34.setTop (mkF m 132 #[.val (.int p0), .val (.int p1), .val (.int p2), .val (.ref b1), .val (.ref b9), .val (.ref b15), .val (.ref b23), .val (.int (0 : Int32)), .val (.int (0 : Int32)), .unset, .unset, .unset, .unset] [(.ref b32)]))
          refine Goes.st (fun t k => XS.astore X34.here hx rfl (hb hby at_132) rfl rfl (l' := #[.val (.int p0), .val (.int p1), .val (.int p2), .val (.ref b1), .val (.ref b9), .val (.ref b15), .val (.ref b23), .val (.int (0 : Int32)), .val (.int (0 : Int32)), .val (.ref b32), .unset, .unset, .unset]) rfl k) ?_
          show Goes _ _ _ _ (T34.setTop (mkF m 134 #[.val (.int p0), .val (.int p1), .val (.int p2), .val (.ref b1), .val (.ref b9), .val (.ref b15), .val (.ref b23), .val (.int (0 : Int32)), .val (.int (0 : Int32)), .val (.ref b32), .unset, .unset, .unset] []))
          refine Goes.st (fun t k => XS.aload X34.here hx rfl (hb hby at_134) rfl rfl k) ?_
          show Goes _ _ _ _ (T34.setTop (mkF m 136 #[.val (.int p0), .val (.int p1), .val (.int p2), .val (.ref b1), .val (.ref b9), .val (.ref b15), .val (.ref b23), .val (.int (0 : Int32)), .val (.int (0 : Int32)), .val (.ref b32), .unset, .unset, .unset] [(.ref b32)]))
          obtain ⟨cq35, kq35, q35a, q35b, q35c⟩ := isOf hZ K34 A32
          obtain ⟨_, _, ⟨T35, L35, k35, n35⟩, -, X35, ⟨Lc35, hQ35, l35, y35, z35⟩, st35⟩ := X34.virtualBack hx (y := (⟨"com/example/tenon/tenon/registry/Validity", "isValid", "()Z"⟩ : MethodName)) (z := (⟨"com/example/tenon/tenon/registry/Validity", "isValid", "()Z"⟩ : MethodName)) hown (mvT hZ (hw37 hw)) (mvT hZ (hw38 hw)) (notFace_of_selects (args := #[]) (mvT hZ (hw40 hw))) (mvT hZ (hw40 hw)) (mvT hZ (hw39 hw)) (by decide) (backOf (W := 0) (rm_ivN l Z a0 hw [] b32 h32 n0 (Nat.le_trans Z0 (Nat.le_trans (Nat.le_trans (Nat.le_trans (Nat.le_trans (Nat.le_trans (Nat.le_trans (Nat.le_trans (Nat.le_trans (Nat.le_trans E1.1 (Nat.le_of_eq W4.size.symm)) (Nat.le_of_eq W7.size.symm)) E9.1) (Nat.le_of_eq W12.size.symm)) E15.1) K17.1) E23.1) K25.1) E32.1)) F32_reason) hZ (hw41 hw) (hw32 hw) (by decide) (by decide)) q35a q35c (g := (mkF m 136 #[.val (.int p0), .val (.int p1), .val (.int p2), .val (.ref b1), .val (.ref b9), .val (.ref b15), .val (.ref b23), .val (.int (0 : Int32)), .val (.int (0 : Int32)), .val (.ref b32), .unset, .unset, .unset] [(.ref b32)])) rfl (by rw [hml]; rfl) (Steps.refl _) (argsL := []) (rest := []) (lenOf pd_3 rfl) rfl (by show 2 * 0 + _ ≤ _; exact Nat.le_of_eq rfl) (hb hby at_136) (fun _ _ => ⟨rfl, K34, (by decide : 7 + 0 ≤ _), (by decide : 15 + 0 ≤ _)⟩)
          dsimp only [Pt.U, Pt.locs, Pt.cells, Pt.slots] at X35 l35 y35 z35 st35 hQ35
          subst l35 y35 z35
          obtain ⟨rfl, N35q, K35⟩ := hQ35
          have N35 := Fr.app N34 N35q
          refine Goes.tr st35 ?_
          show Goes _ _ _ _ (T35.setTop (mkF m 139 #[.val (.int p0), .val (.int p1), .val (.int p2), .val (.ref b1), .val (.ref b9), .val (.ref b15), .val (.ref b23), .val (.int (0 : Int32)), .val (.int (0 : Int32)), .val (.ref b32), .unset, .unset, .unset] [(.int (1 : Int32))]))
          refine Goes.st (fun t k => XS.istore X35.here hx rfl (hb hby at_139) rfl (l' := #[.val (.int p0), .val (.int p1), .val (.int p2), .val (.ref b1), .val (.ref b9), .val (.ref b15), .val (.ref b23), .val (.int (0 : Int32)), .val (.int (0 : Int32)), .val (.ref b32), .val (.int (1 : Int32)), .unset, .unset]) rfl k) ?_
          show Goes _ _ _ _ (T35.setTop (mkF m 141 #[.val (.int p0), .val (.int p1), .val (.int p2), .val (.ref b1), .val (.ref b9), .val (.ref b15), .val (.ref b23), .val (.int (0 : Int32)), .val (.int (0 : Int32)), .val (.ref b32), .val (.int (1 : Int32)), .unset, .unset] []))
          refine Goes.st (fun t k => XS.iload X35.here hx rfl (hb hby at_141) rfl k) ?_
          show Goes _ _ _ _ (T35.setTop (mkF m 143 #[.val (.int p0), .val (.int p1), .val (.int p2), .val (.ref b1), .val (.ref b9), .val (.ref b15), .val (.ref b23), .val (.int (0 : Int32)), .val (.int (0 : Int32)), .val (.ref b32), .val (.int (1 : Int32)), .unset, .unset] [(.int (0 : Int32))]))
          refine Goes.st (fun t k => XS.ifYes X35.here hx rfl (pc0 := 143) (pc' := 153) rfl (hb hby at_143) rfl ((if0 _ _).trans (teq (by decide : (0 : Int32) = (0 : Int32))).1) (by decide) (by decide) k) ?_
          show Goes _ _ _ _ (T35.setTop (mkF m 153 #[.val (.int p0), .val (.int p1), .val (.int p2), .val (.ref b1), .val (.ref b9), .val (.ref b15), .val (.ref b23), .val (.int (0 : Int32)), .val (.int (0 : Int32)), .val (.ref b32), .val (.int (1 : Int32)), .unset, .unset] []))
          refine Goes.st (fun t k => XS.aload X35.here hx rfl (hb hby at_153) rfl rfl k) ?_
          show Goes _ _ _ _ (T35.setTop (mkF m 155 #[.val (.int p0), .val (.int p1), .val (.int p2), .val (.ref b1), .val (.ref b9), .val (.ref b15), .val (.ref b23), .val (.int (0 : Int32)), .val (.int (0 : Int32)), .val (.ref b32), .val (.int (1 : Int32)), .unset, .unset] [(.ref b32)]))
          obtain ⟨cq36, kq36, q36a, q36b, q36c⟩ := isOf hZ K35 A32
          obtain ⟨_, _, ⟨T36, L36, k36, n36⟩, -, X36, ⟨Lc36, hQ36, l36, y36, z36⟩, st36⟩ := X35.virtualBack hx (y := (⟨"com/example/tenon/tenon/registry/Validity", "isValid", "()Z"⟩ : MethodName)) (z := (⟨"com/example/tenon/tenon/registry/Validity", "isValid", "()Z"⟩ : MethodName)) hown (mvT hZ (hw37 hw)) (mvT hZ (hw38 hw)) (notFace_of_selects (args := #[]) (mvT hZ (hw40 hw))) (mvT hZ (hw40 hw)) (mvT hZ (hw39 hw)) (by decide) (backOf (W := 0) (rm_ivN l Z a0 hw [] b32 h32 n0 (Nat.le_trans Z0 (Nat.le_trans (Nat.le_trans (Nat.le_trans (Nat.le_trans (Nat.le_trans (Nat.le_trans (Nat.le_trans (Nat.le_trans (Nat.le_trans E1.1 (Nat.le_of_eq W4.size.symm)) (Nat.le_of_eq W7.size.symm)) E9.1) (Nat.le_of_eq W12.size.symm)) E15.1) K17.1) E23.1) K25.1) E32.1)) F32_reason) hZ (hw41 hw) (hw32 hw) (by decide) (by decide)) q36a q36c (g := (mkF m 155 #[.val (.int p0), .val (.int p1), .val (.int p2), .val (.ref b1), .val (.ref b9), .val (.ref b15), .val (.ref b23), .val (.int (0 : Int32)), .val (.int (0 : Int32)), .val (.ref b32), .val (.int (1 : Int32)), .unset, .unset] [(.ref b32)])) rfl (by rw [hml]; rfl) (Steps.refl _) (argsL := []) (rest := []) (lenOf pd_3 rfl) rfl (by show 2 * 0 + _ ≤ _; exact Nat.le_of_eq rfl) (hb hby at_155) (fun _ _ => ⟨rfl, K35, (by decide : 7 + 0 ≤ _), (by decide : 15 + 0 ≤ _)⟩)
          dsimp only [Pt.U, Pt.locs, Pt.cells, Pt.slots] at X36 l36 y36 z36 st36 hQ36
          subst l36 y36 z36
          obtain ⟨rfl, N36q, K36⟩ := hQ36
          have N36 := Fr.app N35 N36q
          refine Goes.tr st36 ?_
          show Goes _ _ _ _ (T36.setTop (mkF m 158 #[.val (.int p0), .val (.int p1), .val (.int p2), .val (.ref b1), .val (.ref b9), .val (.ref b15), .val (.ref b23), .val (.int (0 : Int32)), .val (.int (0 : Int32)), .val (.ref b32), .val (.int (1 : Int32)), .unset, .unset] [(.int (1 : Int32))]))
          refine Goes.st (fun t k => XS.iload X36.here hx rfl (hb hby at_158) rfl k) ?_
          show Goes _ _ _ _ (T36.setTop (mkF m 160 #[.val (.int p0), .val (.int p1), .val (.int p2), .val (.ref b1), .val (.ref b9), .val (.ref b15), .val (.ref b23), .val (.int (0 : Int32)), .val (.int (0 : Int32)), .val (.ref b32), .val (.int (1 : Int32)), .unset, .unset] [(.int (0 : Int32)), (.int (1 : Int32))]))
          refine Goes.st (fun t k => XS.ifNo X36.here hx rfl (hb hby at_160) rfl ((if0 _ _).trans (teq (by decide : (0 : Int32) = (0 : Int32))).2) k) ?_
          show Goes _ _ _ _ (T36.setTop (mkF m 163 #[.val (.int p0), .val (.int p1), .val (.int p2), .val (.ref b1), .val (.ref b9), .val (.ref b15), .val (.ref b23), .val (.int (0 : Int32)), .val (.int (0 : Int32)), .val (.ref b32), .val (.int (1 : Int32)), .unset, .unset] [(.int (1 : Int32))]))
          refine Goes.st (fun t k => XS.iconst X36.here hx rfl (hb hby at_163) k) ?_
          show Goes _ _ _ _ (T36.setTop (mkF m 164 #[.val (.int p0), .val (.int p1), .val (.int p2), .val (.ref b1), .val (.ref b9), .val (.ref b15), .val (.ref b23), .val (.int (0 : Int32)), .val (.int (0 : Int32)), .val (.ref b32), .val (.int (1 : Int32)), .unset, .unset] [(.int (1 : Int32)), (.int (1 : Int32))]))
          refine Goes.st (fun t k => XS.goto X36.here hx rfl (pc0 := 164) (pc' := 168) rfl (hb hby at_164) (by decide) (by decide) k) ?_
          show Goes _ _ _ _ (T36.setTop (mkF m 168 #[.val (.int p0), .val (.int p1), .val (.int p2), .val (.ref b1), .val (.ref b9), .val (.ref b15), .val (.ref b23), .val (.int (0 : Int32)), .val (.int (0 : Int32)), .val (.ref b32), .val (.int (1 : Int32)), .unset, .unset] [(.int (1 : Int32)), (.int (1 : Int32))]))
          refine Goes.st (fun t k => XS.icmpNo X36.here hx rfl (hb hby at_168) rfl (teq (by decide : (1 : Int32) = (1 : Int32))).2 k) ?_
          show Goes _ _ _ _ (T36.setTop (mkF m 171 #[.val (.int p0), .val (.int p1), .val (.int p2), .val (.ref b1), .val (.ref b9), .val (.ref b15), .val (.ref b23), .val (.int (0 : Int32)), .val (.int (0 : Int32)), .val (.ref b32), .val (.int (1 : Int32)), .unset, .unset] []))
          refine Goes.st (fun t k => XS.iconst X36.here hx rfl (hb hby at_171) k) ?_
          show Goes _ _ _ _ (T36.setTop (mkF m 172 #[.val (.int p0), .val (.int p1), .val (.int p2), .val (.ref b1), .val (.ref b9), .val (.ref b15), .val (.ref b23), .val (.int (0 : Int32)), .val (.int (0 : Int32)), .val (.ref b32), .val (.int (1 : Int32)), .unset, .unset] [(.int (1 : Int32))]))
          refine Goes.st (fun t k => XS.goto X36.here hx rfl (pc0 := 172) (pc' := 176) rfl (hb hby at_172) (by decide) (by decide) k) ?_
          show Goes _ _ _ _ (T36.setTop (mkF m 176 #[.val (.int p0), .val (.int p1), .val (.int p2), .val (.ref b1), .val (.ref b9), .val (.ref b15), .val (.ref b23), .val (.int (0 : Int32)), .val (.int (0 : Int32)), .val (.ref b32), .val (.int (1 : Int32)), .unset, .unset] [(.int (1 : Int32))]))
          refine Goes.st (fun t k => XS.istore X36.here hx rfl (hb hby at_176) rfl (l' := #[.val (.int p0), .val (.int p1), .val (.int p2), .val (.ref b1), .val (.ref b9), .val (.ref b15), .val (.ref b23), .val (.int (0 : Int32)), .val (.int (0 : Int32)), .val (.ref b32), .val (.int (1 : Int32)), .val (.int (1 : Int32)), .unset]) rfl k) ?_
          show Goes _ _ _ _ (T36.setTop (mkF m 178 #[.val (.int p0), .val (.int p1), .val (.int p2), .val (.ref b1), .val (.ref b9), .val (.ref b15), .val (.ref b23), .val (.int (0 : Int32)), .val (.int (0 : Int32)), .val (.ref b32), .val (.int (1 : Int32)), .val (.int (1 : Int32)), .unset] []))
          refine Goes.st (fun t k => XS.iload X36.here hx rfl (hb hby at_178) rfl k) ?_
          show Goes _ _ _ _ (T36.setTop (mkF m 180 #[.val (.int p0), .val (.int p1), .val (.int p2), .val (.ref b1), .val (.ref b9), .val (.ref b15), .val (.ref b23), .val (.int (0 : Int32)), .val (.int (0 : Int32)), .val (.ref b32), .val (.int (1 : Int32)), .val (.int (1 : Int32)), .unset] [(.int (0 : Int32))]))
          refine Goes.st (fun t k => XS.ifYes X36.here hx rfl (pc0 := 180) (pc' := 190) rfl (hb hby at_180) rfl ((if0 _ _).trans (teq (by decide : (0 : Int32) = (0 : Int32))).1) (by decide) (by decide) k) ?_
          show Goes _ _ _ _ (T36.setTop (mkF m 190 #[.val (.int p0), .val (.int p1), .val (.int p2), .val (.ref b1), .val (.ref b9), .val (.ref b15), .val (.ref b23), .val (.int (0 : Int32)), .val (.int (0 : Int32)), .val (.ref b32), .val (.int (1 : Int32)), .val (.int (1 : Int32)), .unset] []))
          refine Goes.st (fun t k => XS.aload X36.here hx rfl (hb hby at_190) rfl rfl k) ?_
          show Goes _ _ _ _ (T36.setTop (mkF m 192 #[.val (.int p0), .val (.int p1), .val (.int p2), .val (.ref b1), .val (.ref b9), .val (.ref b15), .val (.ref b23), .val (.int (0 : Int32)), .val (.int (0 : Int32)), .val (.ref b32), .val (.int (1 : Int32)), .val (.int (1 : Int32)), .unset] [(.ref b32)]))
          obtain ⟨cq37, kq37, q37a, q37b, q37c⟩ := isOf hZ K36 A32
          obtain ⟨_, _, ⟨T37, L37, k37, n37⟩, -, X37, ⟨Lc37, hQ37, l37, y37, z37⟩, st37⟩ := X36.virtualBack hx (y := (⟨"com/example/tenon/tenon/registry/Validity", "isValid", "()Z"⟩ : MethodName)) (z := (⟨"com/example/tenon/tenon/registry/Validity", "isValid", "()Z"⟩ : MethodName)) hown (mvT hZ (hw37 hw)) (mvT hZ (hw38 hw)) (notFace_of_selects (args := #[]) (mvT hZ (hw40 hw))) (mvT hZ (hw40 hw)) (mvT hZ (hw39 hw)) (by decide) (backOf (W := 0) (rm_ivN l Z a0 hw [] b32 h32 n0 (Nat.le_trans Z0 (Nat.le_trans (Nat.le_trans (Nat.le_trans (Nat.le_trans (Nat.le_trans (Nat.le_trans (Nat.le_trans (Nat.le_trans (Nat.le_trans E1.1 (Nat.le_of_eq W4.size.symm)) (Nat.le_of_eq W7.size.symm)) E9.1) (Nat.le_of_eq W12.size.symm)) E15.1) K17.1) E23.1) K25.1) E32.1)) F32_reason) hZ (hw41 hw) (hw32 hw) (by decide) (by decide)) q37a q37c (g := (mkF m 192 #[.val (.int p0), .val (.int p1), .val (.int p2), .val (.ref b1), .val (.ref b9), .val (.ref b15), .val (.ref b23), .val (.int (0 : Int32)), .val (.int (0 : Int32)), .val (.ref b32), .val (.int (1 : Int32)), .val (.int (1 : Int32)), .unset] [(.ref b32)])) rfl (by rw [hml]; rfl) (Steps.refl _) (argsL := []) (rest := []) (lenOf pd_3 rfl) rfl (by show 2 * 0 + _ ≤ _; exact Nat.le_of_eq rfl) (hb hby at_192) (fun _ _ => ⟨rfl, K36, (by decide : 7 + 0 ≤ _), (by decide : 15 + 0 ≤ _)⟩)
          dsimp only [Pt.U, Pt.locs, Pt.cells, Pt.slots] at X37 l37 y37 z37 st37 hQ37
          subst l37 y37 z37
          obtain ⟨rfl, N37q, K37⟩ := hQ37
          have N37 := Fr.app N36 N37q
          refine Goes.tr st37 ?_
          show Goes _ _ _ _ (T37.setTop (mkF m 195 #[.val (.int p0), .val (.int p1), .val (.int p2), .val (.ref b1), .val (.ref b9), .val (.ref b15), .val (.ref b23), .val (.int (0 : Int32)), .val (.int (0 : Int32)), .val (.ref b32), .val (.int (1 : Int32)), .val (.int (1 : Int32)), .unset] [(.int (1 : Int32))]))
          refine Goes.st (fun t k => XS.iload X37.here hx rfl (hb hby at_195) rfl k) ?_
          show Goes _ _ _ _ (T37.setTop (mkF m 197 #[.val (.int p0), .val (.int p1), .val (.int p2), .val (.ref b1), .val (.ref b9), .val (.ref b15), .val (.ref b23), .val (.int (0 : Int32)), .val (.int (0 : Int32)), .val (.ref b32), .val (.int (1 : Int32)), .val (.int (1 : Int32)), .unset] [(.int (0 : Int32)), (.int (1 : Int32))]))
          refine Goes.st (fun t k => XS.ifNo X37.here hx rfl (hb hby at_197) rfl ((if0 _ _).trans (teq (by decide : (0 : Int32) = (0 : Int32))).2) k) ?_
          show Goes _ _ _ _ (T37.setTop (mkF m 200 #[.val (.int p0), .val (.int p1), .val (.int p2), .val (.ref b1), .val (.ref b9), .val (.ref b15), .val (.ref b23), .val (.int (0 : Int32)), .val (.int (0 : Int32)), .val (.ref b32), .val (.int (1 : Int32)), .val (.int (1 : Int32)), .unset] [(.int (1 : Int32))]))
          refine Goes.st (fun t k => XS.iload X37.here hx rfl (hb hby at_200) rfl k) ?_
          show Goes _ _ _ _ (T37.setTop (mkF m 202 #[.val (.int p0), .val (.int p1), .val (.int p2), .val (.ref b1), .val (.ref b9), .val (.ref b15), .val (.ref b23), .val (.int (0 : Int32)), .val (.int (0 : Int32)), .val (.ref b32), .val (.int (1 : Int32)), .val (.int (1 : Int32)), .unset] [(.int (0 : Int32)), (.int (1 : Int32))]))
          refine Goes.st (fun t k => XS.ifNo X37.here hx rfl (hb hby at_202) rfl ((if0 _ _).trans (teq (by decide : (0 : Int32) = (0 : Int32))).2) k) ?_
          show Goes _ _ _ _ (T37.setTop (mkF m 205 #[.val (.int p0), .val (.int p1), .val (.int p2), .val (.ref b1), .val (.ref b9), .val (.ref b15), .val (.ref b23), .val (.int (0 : Int32)), .val (.int (0 : Int32)), .val (.ref b32), .val (.int (1 : Int32)), .val (.int (1 : Int32)), .unset] [(.int (1 : Int32))]))
          refine Goes.st (fun t k => XS.iconst X37.here hx rfl (hb hby at_205) k) ?_
          show Goes _ _ _ _ (T37.setTop (mkF m 206 #[.val (.int p0), .val (.int p1), .val (.int p2), .val (.ref b1), .val (.ref b9), .val (.ref b15), .val (.ref b23), .val (.int (0 : Int32)), .val (.int (0 : Int32)), .val (.ref b32), .val (.int (1 : Int32)), .val (.int (1 : Int32)), .unset] [(.int (1 : Int32)), (.int (1 : Int32))]))
          refine Goes.st (fun t k => XS.goto X37.here hx rfl (pc0 := 206) (pc' := 210) rfl (hb hby at_206) (by decide) (by decide) k) ?_
          show Goes _ _ _ _ (T37.setTop (mkF m 210 #[.val (.int p0), .val (.int p1), .val (.int p2), .val (.ref b1), .val (.ref b9), .val (.ref b15), .val (.ref b23), .val (.int (0 : Int32)), .val (.int (0 : Int32)), .val (.ref b32), .val (.int (1 : Int32)), .val (.int (1 : Int32)), .unset] [(.int (1 : Int32)), (.int (1 : Int32))]))
          refine Goes.st (fun t k => XS.icmpNo X37.here hx rfl (hb hby at_210) rfl (teq (by decide : (1 : Int32) = (1 : Int32))).2 k) ?_
          show Goes _ _ _ _ (T37.setTop (mkF m 213 #[.val (.int p0), .val (.int p1), .val (.int p2), .val (.ref b1), .val (.ref b9), .val (.ref b15), .val (.ref b23), .val (.int (0 : Int32)), .val (.int (0 : Int32)), .val (.ref b32), .val (.int (1 : Int32)), .val (.int (1 : Int32)), .unset] []))
          refine Goes.st (fun t k => XS.iconst X37.here hx rfl (hb hby at_213) k) ?_
          show Goes _ _ _ _ (T37.setTop (mkF m 214 #[.val (.int p0), .val (.int p1), .val (.int p2), .val (.ref b1), .val (.ref b9), .val (.ref b15), .val (.ref b23), .val (.int (0 : Int32)), .val (.int (0 : Int32)), .val (.ref b32), .val (.int (1 : Int32)), .val (.int (1 : Int32)), .unset] [(.int (1 : Int32))]))
          refine Goes.st (fun t k => XS.goto X37.here hx rfl (pc0 := 214) (pc' := 218) rfl (hb hby at_214) (by decide) (by decide) k) ?_
          show Goes _ _ _ _ (T37.setTop (mkF m 218 #[.val (.int p0), .val (.int p1), .val (.int p2), .val (.ref b1), .val (.ref b9), .val (.ref b15), .val (.ref b23), .val (.int (0 : Int32)), .val (.int (0 : Int32)), .val (.ref b32), .val (.int (1 : Int32)), .val (.int (1 : Int32)), .unset] [(.int (1 : Int32))]))
          refine Goes.st (fun t k => XS.istore X37.here hx rfl (hb hby at_218) rfl (l' := #[.val (.int p0), .val (.int p1), .val (.int p2), .val (.ref b1), .val (.ref b9), .val (.ref b15), .val (.ref b23), .val (.int (0 : Int32)), .val (.int (0 : Int32)), .val (.ref b32), .val (.int (1 : Int32)), .val (.int (1 : Int32)), .val (.int (1 : Int32))]) rfl k) ?_
          show Goes _ _ _ _ (T37.setTop (mkF m 220 #[.val (.int p0), .val (.int p1), .val (.int p2), .val (.ref b1), .val (.ref b9), .val (.ref b15), .val (.ref b23), .val (.int (0 : Int32)), .val (.int (0 : Int32)), .val (.ref b32), .val (.int (1 : Int32)), .val (.int (1 : Int32)), .val (.int (1 : Int32))] []))
          refine Goes.st (fun t k => XS.iload X37.here hx rfl (hb hby at_220) rfl k) ?_
          show Goes _ _ _ _ (T37.setTop (mkF m 222 #[.val (.int p0), .val (.int p1), .val (.int p2), .val (.ref b1), .val (.ref b9), .val (.ref b15), .val (.ref b23), .val (.int (0 : Int32)), .val (.int (0 : Int32)), .val (.ref b32), .val (.int (1 : Int32)), .val (.int (1 : Int32)), .val (.int (1 : Int32))] [(.int (1 : Int32))]))
          refine Goes.st (fun t k => XS.ifNo X37.here hx rfl (hb hby at_222) rfl ((if0 _ _).trans (feq (by decide : ¬ ((1 : Int32) = (0 : Int32)))).1) k) ?_
          show Goes _ _ _ _ (T37.setTop (mkF m 225 #[.val (.int p0), .val (.int p1), .val (.int p2), .val (.ref b1), .val (.ref b9), .val (.ref b15), .val (.ref b23), .val (.int (0 : Int32)), .val (.int (0 : Int32)), .val (.ref b32), .val (.int (1 : Int32)), .val (.int (1 : Int32)), .val (.int (1 : Int32))] []))
          refine Goes.st (fun t k => XS.iload X37.here hx rfl (hb hby at_225) rfl k) ?_
          show Goes _ _ _ _ (T37.setTop (mkF m 227 #[.val (.int p0), .val (.int p1), .val (.int p2), .val (.ref b1), .val (.ref b9), .val (.ref b15), .val (.ref b23), .val (.int (0 : Int32)), .val (.int (0 : Int32)), .val (.ref b32), .val (.int (1 : Int32)), .val (.int (1 : Int32)), .val (.int (1 : Int32))] [(.int (1 : Int32))]))
          refine Goes.st (fun t k => XS.ifNo X37.here hx rfl (hb hby at_227) rfl ((if0 _ _).trans (feq (by decide : ¬ ((1 : Int32) = (0 : Int32)))).1) k) ?_
          show Goes _ _ _ _ (T37.setTop (mkF m 230 #[.val (.int p0), .val (.int p1), .val (.int p2), .val (.ref b1), .val (.ref b9), .val (.ref b15), .val (.ref b23), .val (.int (0 : Int32)), .val (.int (0 : Int32)), .val (.ref b32), .val (.int (1 : Int32)), .val (.int (1 : Int32)), .val (.int (1 : Int32))] []))
          refine Goes.st (fun t k => XS.iload X37.here hx rfl (hb hby at_230) rfl k) ?_
          show Goes _ _ _ _ (T37.setTop (mkF m 232 #[.val (.int p0), .val (.int p1), .val (.int p2), .val (.ref b1), .val (.ref b9), .val (.ref b15), .val (.ref b23), .val (.int (0 : Int32)), .val (.int (0 : Int32)), .val (.ref b32), .val (.int (1 : Int32)), .val (.int (1 : Int32)), .val (.int (1 : Int32))] [(.int (1 : Int32))]))
          refine Goes.st (fun t k => XS.ifNo X37.here hx rfl (hb hby at_232) rfl ((if0 _ _).trans (feq (by decide : ¬ ((1 : Int32) = (0 : Int32)))).1) k) ?_
          show Goes _ _ _ _ (T37.setTop (mkF m 235 #[.val (.int p0), .val (.int p1), .val (.int p2), .val (.ref b1), .val (.ref b9), .val (.ref b15), .val (.ref b23), .val (.int (0 : Int32)), .val (.int (0 : Int32)), .val (.ref b32), .val (.int (1 : Int32)), .val (.int (1 : Int32)), .val (.int (1 : Int32))] []))
          refine Goes.st (fun t k => XS.iconst X37.here hx rfl (hb hby at_235) k) ?_
          show Goes _ _ _ _ (T37.setTop (mkF m 236 #[.val (.int p0), .val (.int p1), .val (.int p2), .val (.ref b1), .val (.ref b9), .val (.ref b15), .val (.ref b23), .val (.int (0 : Int32)), .val (.int (0 : Int32)), .val (.ref b32), .val (.int (1 : Int32)), .val (.int (1 : Int32)), .val (.int (1 : Int32))] [(.int (1 : Int32))]))
          refine Goes.st (fun t k => XS.goto X37.here hx rfl (pc0 := 236) (pc' := 240) rfl (hb hby at_236) (by decide) (by decide) k) ?_
          show Goes _ _ _ _ (T37.setTop (mkF m 240 #[.val (.int p0), .val (.int p1), .val (.int p2), .val (.ref b1), .val (.ref b9), .val (.ref b15), .val (.ref b23), .val (.int (0 : Int32)), .val (.int (0 : Int32)), .val (.ref b32), .val (.int (1 : Int32)), .val (.int (1 : Int32)), .val (.int (1 : Int32))] [(.int (1 : Int32))]))
          obtain ⟨fs, hr, hrun, hended, hRW⟩ := X37.leaveW hS0 (by rw [K37]; exact (Nat.le_trans (Nat.le_trans (Nat.le_trans (Nat.le_trans (Nat.le_trans (Nat.le_trans (Nat.le_trans (Nat.le_trans (Nat.le_trans (Nat.le_trans hk0 E1.1) (Nat.le_of_eq W4.size.symm)) (Nat.le_of_eq W7.size.symm)) E9.1) (Nat.le_of_eq W12.size.symm)) E15.1) K17.1) E23.1) K25.1) E32.1)) (v := some (.int (1 : Int32))) (fun h => by rw [Bd.returns] at h; cases h)
          subst hQQ
          have hCR : CHr Z EL s.vm s.heap T37.vm T37.heap := by rw [hh, K37]; exact CR33.trans (CHv.at X37 hZ (own_EW hw) CR33.1)
          refine ⟨_, _, retN X37 hx (t := .boolean) Bd.returns (by simp) (hb hby at_240) hr, hrun, hended, _, _, rfl, ?_, hCR, own_REmono hRW (by decide) (by decide)⟩
          show Q_law Z p0 p1 p2 G1 h0 n0 _ T37.heap _
          rw [K37]
          exact ⟨rfl, N37⟩
        case neg =>
          refine Goes.st (fun t k => XS.ifNo X25.here hx rfl (hb hby at_115) rfl ((if0 _ _).trans (feq c31).1) k) ?_
          show Goes _ _ _ _ (T25.setTop (mkF m 118 #[.val (.int p0), .val (.int p1), .val (.int p2), .val (.ref b1), .val (.ref b9), .val (.ref b15), .val (.ref b23), .val (.int (0 : Int32)), .unset, .unset, .unset, .unset, .unset] []))
          refine Goes.st (fun t k => XS.iconst X25.here hx rfl (hb hby at_118) k) ?_
          show Goes _ _ _ _ (T25.setTop (mkF m 119 #[.val (.int p0), .val (.int p1), .val (.int p2), .val (.ref b1), .val (.ref b9), .val (.ref b15), .val (.ref b23), .val (.int (0 : Int32)), .unset, .unset, .unset, .unset, .unset] [(.int (1 : Int32))]))
          refine Goes.st (fun t k => XS.goto X25.here hx rfl (pc0 := 119) (pc' := 123) rfl (hb hby at_119) (by decide) (by decide) k) ?_
          show Goes _ _ _ _ (T25.setTop (mkF m 123 #[.val (.int p0), .val (.int p1), .val (.int p2), .val (.ref b1), .val (.ref b9), .val (.ref b15), .val (.ref b23), .val (.int (0 : Int32)), .unset, .unset, .unset, .unset, .unset] [(.int (1 : Int32))]))
          refine Goes.st (fun t k => XS.istore X25.here hx rfl (hb hby at_123) rfl (l' := #[.val (.int p0), .val (.int p1), .val (.int p2), .val (.ref b1), .val (.ref b9), .val (.ref b15), .val (.ref b23), .val (.int (0 : Int32)), .val (.int (1 : Int32)), .unset, .unset, .unset, .unset]) rfl k) ?_
          show Goes _ _ _ _ (T25.setTop (mkF m 125 #[.val (.int p0), .val (.int p1), .val (.int p2), .val (.ref b1), .val (.ref b9), .val (.ref b15), .val (.ref b23), .val (.int (0 : Int32)), .val (.int (1 : Int32)), .unset, .unset, .unset, .unset] []))
          obtain ⟨T38, h38, X38, e38, E38, A38, D38, -, st38⟩ := newO X25 hx hZ hown (hw30 hw) (hw31 hw) (hw32 hw) rfl (g := (mkF m 125 #[.val (.int p0), .val (.int p1), .val (.int p2), .val (.ref b1), .val (.ref b9), .val (.ref b15), .val (.ref b23), .val (.int (0 : Int32)), .val (.int (1 : Int32)), .unset, .unset, .unset, .unset] [])) rfl (hb hby at_125) (by decide) (by decide)
          obtain ⟨b38, g38⟩ : ∃ z, z = T25.heap.size := ⟨_, rfl⟩
          rw [← g38] at A38 D38 st38
          have CR39 : CHr Z EL s.vm h0 s.vm h38 := CR29.trans (CHr.ext E38 CR29.1)
          have F38_reason : Fld Z h38 b38 "com/example/tenon/tenon/registry/Validity" "reason" "Ljava/lang/String;" .null := D38 (Or.inl (hw43 hw)) (ty := (.object "java/lang/String")) (by decide)
          refine Goes.st st38 ?_
          show Goes _ _ _ _ (T38.setTop (mkF m 128 #[.val (.int p0), .val (.int p1), .val (.int p2), .val (.ref b1), .val (.ref b9), .val (.ref b15), .val (.ref b23), .val (.int (0 : Int32)), .val (.int (1 : Int32)), .unset, .unset, .unset, .unset] [(.ref b38)]))
          refine Goes.st (fun t k => XS.dup X38.here hx rfl (hb hby at_128) rfl rfl k) ?_
          show Goes _ _ _ _ (T38.setTop (mkF m 129 #[.val (.int p0), .val (.int p1), .val (.int p2), .val (.ref b1), .val (.ref b9), .val (.ref b15), .val (.ref b23), .val (.int (0 : Int32)), .val (.int (1 : Int32)), .unset, .unset, .unset, .unset] [(.ref b38), (.ref b38)]))
          obtain ⟨_, _, ⟨T40, L40, k40, n40⟩, -, X40, ⟨Lc40, hQ40, l40, y40, z40⟩, st40⟩ := X38.specialBack hx (y := (⟨"com/example/tenon/tenon/registry/Validity", "<init>", "()V"⟩ : MethodName)) rfl hown (mvT hZ (hw33 hw)) (mvT hZ (hw34 hw)) (mvT hZ (hw35 hw)) (by decide) (backOf (W := 1) (rm_vinit l Z a0 hw [] b38 h38 n0 (Nat.le_trans Z0 (Nat.le_trans (Nat.le_trans (Nat.le_trans (Nat.le_trans (Nat.le_trans (Nat.le_trans (Nat.le_trans (Nat.le_trans (Nat.le_trans E1.1 (Nat.le_of_eq W4.size.symm)) (Nat.le_of_eq W7.size.symm)) E9.1) (Nat.le_of_eq W12.size.symm)) E15.1) K17.1) E23.1) K25.1) E38.1)) ) hZ (hw35 hw) (hw32 hw) (by decide) (by decide)) (g := (mkF m 129 #[.val (.int p0), .val (.int p1), .val (.int p2), .val (.ref b1), .val (.ref b9), .val (.ref b15), .val (.ref b23), .val (.int (0 : Int32)), .val (.int (1 : Int32)), .unset, .unset, .unset, .unset] [(.ref b38), (.ref b38)])) rfl (by rw [hml]; rfl) (Steps.refl _) (a := b38) (argsL := []) (rest := [(.ref b38)]) (lenOf pd_2 rfl) rfl (by show 2 * 0 + _ ≤ _; exact Nat.le_of_eq rfl) (hb hby at_129) (fun _ _ => ⟨rfl, e38, (by decide : 7 + 0 ≤ _), (by decide : 15 + 0 ≤ _)⟩)
          dsimp only [Pt.U, Pt.locs, Pt.cells, Pt.slots] at X40 l40 y40 z40 st40 hQ40
          subst l40 y40 z40
          obtain ⟨rfl, N40q, K40⟩ := hQ40
          have N40 := Fr.app N25 N40q
          refine Goes.tr st40 ?_
          show Goes _ _ _ _ (T40.setTop (mkF m 132 #[.val (.int p0), .val (.int p1), .val (.int p2), .val (.ref b1), .val (.ref b9), .val (.ref b15), .val (.ref b23), .val (.int (0 : Int32)), .val (.int (1 : Int32)), .unset, .unset, .unset, .unset] [(.ref b38)]))
          refine Goes.st (fun t k => XS.astore X40.here hx rfl (hb hby at_132) rfl rfl (l' := #[.val (.int p0), .val (.int p1), .val (.int p2), .val (.ref b1), .val (.ref b9), .val (.ref b15), .val (.ref b23), .val (.int (0 : Int32)), .val (.int (1 : Int32)), .val (.ref b38), .unset, .unset, .unset]) rfl k) ?_
          show Goes _ _ _ _ (T40.setTop (mkF m 134 #[.val (.int p0), .val (.int p1), .val (.int p2), .val (.ref b1), .val (.ref b9), .val (.ref b15), .val (.ref b23), .val (.int (0 : Int32)), .val (.int (1 : Int32)), .val (.ref b38), .unset, .unset, .unset] []))
          refine Goes.st (fun t k => XS.aload X40.here hx rfl (hb hby at_134) rfl rfl k) ?_
          show Goes _ _ _ _ (T40.setTop (mkF m 136 #[.val (.int p0), .val (.int p1), .val (.int p2), .val (.ref b1), .val (.ref b9), .val (.ref b15), .val (.ref b23), .val (.int (0 : Int32)), .val (.int (1 : Int32)), .val (.ref b38), .unset, .unset, .unset] [(.ref b38)]))
          obtain ⟨cq41, kq41, q41a, q41b, q41c⟩ := isOf hZ K40 A38
          obtain ⟨_, _, ⟨T41, L41, k41, n41⟩, -, X41, ⟨Lc41, hQ41, l41, y41, z41⟩, st41⟩ := X40.virtualBack hx (y := (⟨"com/example/tenon/tenon/registry/Validity", "isValid", "()Z"⟩ : MethodName)) (z := (⟨"com/example/tenon/tenon/registry/Validity", "isValid", "()Z"⟩ : MethodName)) hown (mvT hZ (hw37 hw)) (mvT hZ (hw38 hw)) (notFace_of_selects (args := #[]) (mvT hZ (hw40 hw))) (mvT hZ (hw40 hw)) (mvT hZ (hw39 hw)) (by decide) (backOf (W := 0) (rm_ivN l Z a0 hw [] b38 h38 n0 (Nat.le_trans Z0 (Nat.le_trans (Nat.le_trans (Nat.le_trans (Nat.le_trans (Nat.le_trans (Nat.le_trans (Nat.le_trans (Nat.le_trans (Nat.le_trans E1.1 (Nat.le_of_eq W4.size.symm)) (Nat.le_of_eq W7.size.symm)) E9.1) (Nat.le_of_eq W12.size.symm)) E15.1) K17.1) E23.1) K25.1) E38.1)) F38_reason) hZ (hw41 hw) (hw32 hw) (by decide) (by decide)) q41a q41c (g := (mkF m 136 #[.val (.int p0), .val (.int p1), .val (.int p2), .val (.ref b1), .val (.ref b9), .val (.ref b15), .val (.ref b23), .val (.int (0 : Int32)), .val (.int (1 : Int32)), .val (.ref b38), .unset, .unset, .unset] [(.ref b38)])) rfl (by rw [hml]; rfl) (Steps.refl _) (argsL := []) (rest := []) (lenOf pd_3 rfl) rfl (by show 2 * 0 + _ ≤ _; exact Nat.le_of_eq rfl) (hb hby at_136) (fun _ _ => ⟨rfl, K40, (by decide : 7 + 0 ≤ _), (by decide : 15 + 0 ≤ _)⟩)
          dsimp only [Pt.U, Pt.locs, Pt.cells, Pt.slots] at X41 l41 y41 z41 st41 hQ41
          subst l41 y41 z41
          obtain ⟨rfl, N41q, K41⟩ := hQ41
          have N41 := Fr.app N40 N41q
          refine Goes.tr st41 ?_
          show Goes _ _ _ _ (T41.setTop (mkF m 139 #[.val (.int p0), .val (.int p1), .val (.int p2), .val (.ref b1), .val (.ref b9), .val (.ref b15), .val (.ref b23), .val (.int (0 : Int32)), .val (.int (1 : Int32)), .val (.ref b38), .unset, .unset, .unset] [(.int (1 : Int32))]))
          refine Goes.st (fun t k => XS.istore X41.here hx rfl (hb hby at_139) rfl (l' := #[.val (.int p0), .val (.int p1), .val (.int p2), .val (.ref b1), .val (.ref b9), .val (.ref b15), .val (.ref b23), .val (.int (0 : Int32)), .val (.int (1 : Int32)), .val (.ref b38), .val (.int (1 : Int32)), .unset, .unset]) rfl k) ?_
          show Goes _ _ _ _ (T41.setTop (mkF m 141 #[.val (.int p0), .val (.int p1), .val (.int p2), .val (.ref b1), .val (.ref b9), .val (.ref b15), .val (.ref b23), .val (.int (0 : Int32)), .val (.int (1 : Int32)), .val (.ref b38), .val (.int (1 : Int32)), .unset, .unset] []))
          refine Goes.st (fun t k => XS.iload X41.here hx rfl (hb hby at_141) rfl k) ?_
          show Goes _ _ _ _ (T41.setTop (mkF m 143 #[.val (.int p0), .val (.int p1), .val (.int p2), .val (.ref b1), .val (.ref b9), .val (.ref b15), .val (.ref b23), .val (.int (0 : Int32)), .val (.int (1 : Int32)), .val (.ref b38), .val (.int (1 : Int32)), .unset, .unset] [(.int (0 : Int32))]))
          refine Goes.st (fun t k => XS.ifYes X41.here hx rfl (pc0 := 143) (pc' := 153) rfl (hb hby at_143) rfl ((if0 _ _).trans (teq (by decide : (0 : Int32) = (0 : Int32))).1) (by decide) (by decide) k) ?_
          show Goes _ _ _ _ (T41.setTop (mkF m 153 #[.val (.int p0), .val (.int p1), .val (.int p2), .val (.ref b1), .val (.ref b9), .val (.ref b15), .val (.ref b23), .val (.int (0 : Int32)), .val (.int (1 : Int32)), .val (.ref b38), .val (.int (1 : Int32)), .unset, .unset] []))
          refine Goes.st (fun t k => XS.aload X41.here hx rfl (hb hby at_153) rfl rfl k) ?_
          show Goes _ _ _ _ (T41.setTop (mkF m 155 #[.val (.int p0), .val (.int p1), .val (.int p2), .val (.ref b1), .val (.ref b9), .val (.ref b15), .val (.ref b23), .val (.int (0 : Int32)), .val (.int (1 : Int32)), .val (.ref b38), .val (.int (1 : Int32)), .unset, .unset] [(.ref b38)]))
          obtain ⟨cq42, kq42, q42a, q42b, q42c⟩ := isOf hZ K41 A38
          obtain ⟨_, _, ⟨T42, L42, k42, n42⟩, -, X42, ⟨Lc42, hQ42, l42, y42, z42⟩, st42⟩ := X41.virtualBack hx (y := (⟨"com/example/tenon/tenon/registry/Validity", "isValid", "()Z"⟩ : MethodName)) (z := (⟨"com/example/tenon/tenon/registry/Validity", "isValid", "()Z"⟩ : MethodName)) hown (mvT hZ (hw37 hw)) (mvT hZ (hw38 hw)) (notFace_of_selects (args := #[]) (mvT hZ (hw40 hw))) (mvT hZ (hw40 hw)) (mvT hZ (hw39 hw)) (by decide) (backOf (W := 0) (rm_ivN l Z a0 hw [] b38 h38 n0 (Nat.le_trans Z0 (Nat.le_trans (Nat.le_trans (Nat.le_trans (Nat.le_trans (Nat.le_trans (Nat.le_trans (Nat.le_trans (Nat.le_trans (Nat.le_trans E1.1 (Nat.le_of_eq W4.size.symm)) (Nat.le_of_eq W7.size.symm)) E9.1) (Nat.le_of_eq W12.size.symm)) E15.1) K17.1) E23.1) K25.1) E38.1)) F38_reason) hZ (hw41 hw) (hw32 hw) (by decide) (by decide)) q42a q42c (g := (mkF m 155 #[.val (.int p0), .val (.int p1), .val (.int p2), .val (.ref b1), .val (.ref b9), .val (.ref b15), .val (.ref b23), .val (.int (0 : Int32)), .val (.int (1 : Int32)), .val (.ref b38), .val (.int (1 : Int32)), .unset, .unset] [(.ref b38)])) rfl (by rw [hml]; rfl) (Steps.refl _) (argsL := []) (rest := []) (lenOf pd_3 rfl) rfl (by show 2 * 0 + _ ≤ _; exact Nat.le_of_eq rfl) (hb hby at_155) (fun _ _ => ⟨rfl, K41, (by decide : 7 + 0 ≤ _), (by decide : 15 + 0 ≤ _)⟩)
          dsimp only [Pt.U, Pt.locs, Pt.cells, Pt.slots] at X42 l42 y42 z42 st42 hQ42
          subst l42 y42 z42
          obtain ⟨rfl, N42q, K42⟩ := hQ42
          have N42 := Fr.app N41 N42q
          refine Goes.tr st42 ?_
          show Goes _ _ _ _ (T42.setTop (mkF m 158 #[.val (.int p0), .val (.int p1), .val (.int p2), .val (.ref b1), .val (.ref b9), .val (.ref b15), .val (.ref b23), .val (.int (0 : Int32)), .val (.int (1 : Int32)), .val (.ref b38), .val (.int (1 : Int32)), .unset, .unset] [(.int (1 : Int32))]))
          refine Goes.st (fun t k => XS.iload X42.here hx rfl (hb hby at_158) rfl k) ?_
          show Goes _ _ _ _ (T42.setTop (mkF m 160 #[.val (.int p0), .val (.int p1), .val (.int p2), .val (.ref b1), .val (.ref b9), .val (.ref b15), .val (.ref b23), .val (.int (0 : Int32)), .val (.int (1 : Int32)), .val (.ref b38), .val (.int (1 : Int32)), .unset, .unset] [(.int (0 : Int32)), (.int (1 : Int32))]))
          refine Goes.st (fun t k => XS.ifNo X42.here hx rfl (hb hby at_160) rfl ((if0 _ _).trans (teq (by decide : (0 : Int32) = (0 : Int32))).2) k) ?_
          show Goes _ _ _ _ (T42.setTop (mkF m 163 #[.val (.int p0), .val (.int p1), .val (.int p2), .val (.ref b1), .val (.ref b9), .val (.ref b15), .val (.ref b23), .val (.int (0 : Int32)), .val (.int (1 : Int32)), .val (.ref b38), .val (.int (1 : Int32)), .unset, .unset] [(.int (1 : Int32))]))
          refine Goes.st (fun t k => XS.iconst X42.here hx rfl (hb hby at_163) k) ?_
          show Goes _ _ _ _ (T42.setTop (mkF m 164 #[.val (.int p0), .val (.int p1), .val (.int p2), .val (.ref b1), .val (.ref b9), .val (.ref b15), .val (.ref b23), .val (.int (0 : Int32)), .val (.int (1 : Int32)), .val (.ref b38), .val (.int (1 : Int32)), .unset, .unset] [(.int (1 : Int32)), (.int (1 : Int32))]))
          refine Goes.st (fun t k => XS.goto X42.here hx rfl (pc0 := 164) (pc' := 168) rfl (hb hby at_164) (by decide) (by decide) k) ?_
          show Goes _ _ _ _ (T42.setTop (mkF m 168 #[.val (.int p0), .val (.int p1), .val (.int p2), .val (.ref b1), .val (.ref b9), .val (.ref b15), .val (.ref b23), .val (.int (0 : Int32)), .val (.int (1 : Int32)), .val (.ref b38), .val (.int (1 : Int32)), .unset, .unset] [(.int (1 : Int32)), (.int (1 : Int32))]))
          refine Goes.st (fun t k => XS.icmpNo X42.here hx rfl (hb hby at_168) rfl (teq (by decide : (1 : Int32) = (1 : Int32))).2 k) ?_
          show Goes _ _ _ _ (T42.setTop (mkF m 171 #[.val (.int p0), .val (.int p1), .val (.int p2), .val (.ref b1), .val (.ref b9), .val (.ref b15), .val (.ref b23), .val (.int (0 : Int32)), .val (.int (1 : Int32)), .val (.ref b38), .val (.int (1 : Int32)), .unset, .unset] []))
          refine Goes.st (fun t k => XS.iconst X42.here hx rfl (hb hby at_171) k) ?_
          show Goes _ _ _ _ (T42.setTop (mkF m 172 #[.val (.int p0), .val (.int p1), .val (.int p2), .val (.ref b1), .val (.ref b9), .val (.ref b15), .val (.ref b23), .val (.int (0 : Int32)), .val (.int (1 : Int32)), .val (.ref b38), .val (.int (1 : Int32)), .unset, .unset] [(.int (1 : Int32))]))
          refine Goes.st (fun t k => XS.goto X42.here hx rfl (pc0 := 172) (pc' := 176) rfl (hb hby at_172) (by decide) (by decide) k) ?_
          show Goes _ _ _ _ (T42.setTop (mkF m 176 #[.val (.int p0), .val (.int p1), .val (.int p2), .val (.ref b1), .val (.ref b9), .val (.ref b15), .val (.ref b23), .val (.int (0 : Int32)), .val (.int (1 : Int32)), .val (.ref b38), .val (.int (1 : Int32)), .unset, .unset] [(.int (1 : Int32))]))
          refine Goes.st (fun t k => XS.istore X42.here hx rfl (hb hby at_176) rfl (l' := #[.val (.int p0), .val (.int p1), .val (.int p2), .val (.ref b1), .val (.ref b9), .val (.ref b15), .val (.ref b23), .val (.int (0 : Int32)), .val (.int (1 : Int32)), .val (.ref b38), .val (.int (1 : Int32)), .val (.int (1 : Int32)), .unset]) rfl k) ?_
          show Goes _ _ _ _ (T42.setTop (mkF m 178 #[.val (.int p0), .val (.int p1), .val (.int p2), .val (.ref b1), .val (.ref b9), .val (.ref b15), .val (.ref b23), .val (.int (0 : Int32)), .val (.int (1 : Int32)), .val (.ref b38), .val (.int (1 : Int32)), .val (.int (1 : Int32)), .unset] []))
          refine Goes.st (fun t k => XS.iload X42.here hx rfl (hb hby at_178) rfl k) ?_
          show Goes _ _ _ _ (T42.setTop (mkF m 180 #[.val (.int p0), .val (.int p1), .val (.int p2), .val (.ref b1), .val (.ref b9), .val (.ref b15), .val (.ref b23), .val (.int (0 : Int32)), .val (.int (1 : Int32)), .val (.ref b38), .val (.int (1 : Int32)), .val (.int (1 : Int32)), .unset] [(.int (1 : Int32))]))
          refine Goes.st (fun t k => XS.ifNo X42.here hx rfl (hb hby at_180) rfl ((if0 _ _).trans (feq (by decide : ¬ ((1 : Int32) = (0 : Int32)))).1) k) ?_
          show Goes _ _ _ _ (T42.setTop (mkF m 183 #[.val (.int p0), .val (.int p1), .val (.int p2), .val (.ref b1), .val (.ref b9), .val (.ref b15), .val (.ref b23), .val (.int (0 : Int32)), .val (.int (1 : Int32)), .val (.ref b38), .val (.int (1 : Int32)), .val (.int (1 : Int32)), .unset] []))
          refine Goes.st (fun t k => XS.aload X42.here hx rfl (hb hby at_183) rfl rfl k) ?_
          show Goes _ _ _ _ (T42.setTop (mkF m 185 #[.val (.int p0), .val (.int p1), .val (.int p2), .val (.ref b1), .val (.ref b9), .val (.ref b15), .val (.ref b23), .val (.int (0 : Int32)), .val (.int (1 : Int32)), .val (.ref b38), .val (.int (1 : Int32)), .val (.int (1 : Int32)), .unset] [(.ref b38)]))
          refine Goes.st (fun t k => XS.aload X42.here hx rfl (hb hby at_185) rfl rfl k) ?_
          show Goes _ _ _ _ (T42.setTop (mkF m 187 #[.val (.int p0), .val (.int p1), .val (.int p2), .val (.ref b1), .val (.ref b9), .val (.ref b15), .val (.ref b23), .val (.int (0 : Int32)), .val (.int (1 : Int32)), .val (.ref b38), .val (.int (1 : Int32)), .val (.int (1 : Int32)), .unset] [(.ref b23), (.ref b38)]))
          obtain ⟨cq43, kq43, q43a, q43b, q43c⟩ := isOf hZ K42 A38
          obtain ⟨_, _, ⟨T43, L43, k43, n43⟩, -, X43, ⟨Lc43, hQ43, l43, y43, z43⟩, st43⟩ := X42.virtualBack hx (y := (⟨"com/example/tenon/tenon/registry/Validity", "invalidate", "(Ljava/lang/String;)V"⟩ : MethodName)) (z := (⟨"com/example/tenon/tenon/registry/Validity", "invalidate", "(Ljava/lang/String;)V"⟩ : MethodName)) hown (mvT hZ (hw44 hw)) (mvT hZ (hw45 hw)) (notFace_of_selects (args := #[]) (mvT hZ (hw47 hw))) (mvT hZ (hw47 hw)) (mvT hZ (hw46 hw)) (by decide) (backOf (W := 0) (rm_inv l Z a0 hw [] b38 b23 (Value.null) h38 n0 (Nat.le_trans Z0 (Nat.le_trans (Nat.le_trans (Nat.le_trans (Nat.le_trans (Nat.le_trans (Nat.le_trans (Nat.le_trans (Nat.le_trans (Nat.le_trans E1.1 (Nat.le_of_eq W4.size.symm)) (Nat.le_of_eq W7.size.symm)) E9.1) (Nat.le_of_eq W12.size.symm)) E15.1) K17.1) E23.1) K25.1) E38.1)) A38 F38_reason (Nat.le_trans Z0 (Nat.le_trans (Nat.le_trans (Nat.le_trans (Nat.le_trans (Nat.le_trans (Nat.le_trans (Nat.le_trans (Nat.le_trans (Nat.le_trans E1.1 (Nat.le_of_eq W4.size.symm)) (Nat.le_of_eq W7.size.symm)) E9.1) (Nat.le_of_eq W12.size.symm)) E15.1) K17.1) E23.1) K25.1) (Nat.le_of_eq g38.symm)))) hZ (hw48 hw) (hw32 hw) (by decide) (by decide)) q43a q43c (g := (mkF m 187 #[.val (.int p0), .val (.int p1), .val (.int p2), .val (.ref b1), .val (.ref b9), .val (.ref b15), .val (.ref b23), .val (.int (0 : Int32)), .val (.int (1 : Int32)), .val (.ref b38), .val (.int (1 : Int32)), .val (.int (1 : Int32)), .unset] [(.ref b23), (.ref b38)])) rfl (by rw [hml]; rfl) (Steps.refl _) (argsL := [(.ref b23)]) (rest := []) (lenOf pd_4 rfl) rfl (by show 2 * 0 + _ ≤ _; exact Nat.le_of_eq rfl) (hb hby at_187) (fun _ _ => ⟨rfl, K42, (by decide : 7 + 0 ≤ _), (by decide : 15 + 0 ≤ _)⟩)
          dsimp only [Pt.U, Pt.locs, Pt.cells, Pt.slots] at X43 l43 y43 z43 st43 hQ43
          subst l43 y43 z43
          obtain ⟨rfl, N43q, K43, F43_0, F43_1⟩ := hQ43
          have N43 := Fr.app N42 N43q
          have hs44 : ∀ x ∈ ([b38] : List Addr), Safe Z EL s.vm h38 x := (allS (Safe.exa hZ.alike A38 (by decide) (by decide)) all0)
          have CR44 : CHr Z EL s.vm h0 s.vm T43.heap := CR39.trans (CHr.keep K43 hs44 CR39.1)
          refine Goes.tr st43 ?_
          show Goes _ _ _ _ (T43.setTop (mkF m 190 #[.val (.int p0), .val (.int p1), .val (.int p2), .val (.ref b1), .val (.ref b9), .val (.ref b15), .val (.ref b23), .val (.int (0 : Int32)), .val (.int (1 : Int32)), .val (.ref b38), .val (.int (1 : Int32)), .val (.int (1 : Int32)), .unset] []))
          refine Goes.st (fun t k => XS.aload X43.here hx rfl (hb hby at_190) rfl rfl k) ?_
          show Goes _ _ _ _ (T43.setTop (mkF m 192 #[.val (.int p0), .val (.int p1), .val (.int p2), .val (.ref b1), .val (.ref b9), .val (.ref b15), .val (.ref b23), .val (.int (0 : Int32)), .val (.int (1 : Int32)), .val (.ref b38), .val (.int (1 : Int32)), .val (.int (1 : Int32)), .unset] [(.ref b38)]))
          obtain ⟨cq45, kq45, q45a, q45b, q45c⟩ := isOf hZ rfl F43_0
          obtain ⟨_, _, ⟨T45, L45, k45, n45⟩, -, X45, ⟨Lc45, hQ45, l45, y45, z45⟩, st45⟩ := X43.virtualBack hx (y := (⟨"com/example/tenon/tenon/registry/Validity", "isValid", "()Z"⟩ : MethodName)) (z := (⟨"com/example/tenon/tenon/registry/Validity", "isValid", "()Z"⟩ : MethodName)) hown (mvT hZ (hw37 hw)) (mvT hZ (hw38 hw)) (notFace_of_selects (args := #[]) (mvT hZ (hw40 hw))) (mvT hZ (hw40 hw)) (mvT hZ (hw39 hw)) (by decide) (backOf (W := 0) (rm_ivR l Z a0 hw [] b38 b23 T43.heap n0 (Nat.le_trans Z0 (Nat.le_trans (Nat.le_trans (Nat.le_trans (Nat.le_trans (Nat.le_trans (Nat.le_trans (Nat.le_trans (Nat.le_trans (Nat.le_trans (Nat.le_trans E1.1 (Nat.le_of_eq W4.size.symm)) (Nat.le_of_eq W7.size.symm)) E9.1) (Nat.le_of_eq W12.size.symm)) E15.1) K17.1) E23.1) K25.1) E38.1) K43.1)) F43_1) hZ (hw41 hw) (hw32 hw) (by decide) (by decide)) q45a q45c (g := (mkF m 192 #[.val (.int p0), .val (.int p1), .val (.int p2), .val (.ref b1), .val (.ref b9), .val (.ref b15), .val (.ref b23), .val (.int (0 : Int32)), .val (.int (1 : Int32)), .val (.ref b38), .val (.int (1 : Int32)), .val (.int (1 : Int32)), .unset] [(.ref b38)])) rfl (by rw [hml]; rfl) (Steps.refl _) (argsL := []) (rest := []) (lenOf pd_3 rfl) rfl (by show 2 * 0 + _ ≤ _; exact Nat.le_of_eq rfl) (hb hby at_192) (fun _ _ => ⟨rfl, rfl, (by decide : 7 + 0 ≤ _), (by decide : 15 + 0 ≤ _)⟩)
          dsimp only [Pt.U, Pt.locs, Pt.cells, Pt.slots] at X45 l45 y45 z45 st45 hQ45
          subst l45 y45 z45
          obtain ⟨rfl, N45q, K45⟩ := hQ45
          have N45 := Fr.app N43 N45q
          refine Goes.tr st45 ?_
          show Goes _ _ _ _ (T45.setTop (mkF m 195 #[.val (.int p0), .val (.int p1), .val (.int p2), .val (.ref b1), .val (.ref b9), .val (.ref b15), .val (.ref b23), .val (.int (0 : Int32)), .val (.int (1 : Int32)), .val (.ref b38), .val (.int (1 : Int32)), .val (.int (1 : Int32)), .unset] [(.int (0 : Int32))]))
          refine Goes.st (fun t k => XS.iload X45.here hx rfl (hb hby at_195) rfl k) ?_
          show Goes _ _ _ _ (T45.setTop (mkF m 197 #[.val (.int p0), .val (.int p1), .val (.int p2), .val (.ref b1), .val (.ref b9), .val (.ref b15), .val (.ref b23), .val (.int (0 : Int32)), .val (.int (1 : Int32)), .val (.ref b38), .val (.int (1 : Int32)), .val (.int (1 : Int32)), .unset] [(.int (0 : Int32)), (.int (0 : Int32))]))
          refine Goes.st (fun t k => XS.ifNo X45.here hx rfl (hb hby at_197) rfl ((if0 _ _).trans (teq (by decide : (0 : Int32) = (0 : Int32))).2) k) ?_
          show Goes _ _ _ _ (T45.setTop (mkF m 200 #[.val (.int p0), .val (.int p1), .val (.int p2), .val (.ref b1), .val (.ref b9), .val (.ref b15), .val (.ref b23), .val (.int (0 : Int32)), .val (.int (1 : Int32)), .val (.ref b38), .val (.int (1 : Int32)), .val (.int (1 : Int32)), .unset] [(.int (0 : Int32))]))
          refine Goes.st (fun t k => XS.iload X45.here hx rfl (hb hby at_200) rfl k) ?_
          show Goes _ _ _ _ (T45.setTop (mkF m 202 #[.val (.int p0), .val (.int p1), .val (.int p2), .val (.ref b1), .val (.ref b9), .val (.ref b15), .val (.ref b23), .val (.int (0 : Int32)), .val (.int (1 : Int32)), .val (.ref b38), .val (.int (1 : Int32)), .val (.int (1 : Int32)), .unset] [(.int (1 : Int32)), (.int (0 : Int32))]))
          refine Goes.st (fun t k => XS.ifYes X45.here hx rfl (pc0 := 202) (pc' := 209) rfl (hb hby at_202) rfl ((if0 _ _).trans (feq (by decide : ¬ ((1 : Int32) = (0 : Int32)))).2) (by decide) (by decide) k) ?_
          show Goes _ _ _ _ (T45.setTop (mkF m 209 #[.val (.int p0), .val (.int p1), .val (.int p2), .val (.ref b1), .val (.ref b9), .val (.ref b15), .val (.ref b23), .val (.int (0 : Int32)), .val (.int (1 : Int32)), .val (.ref b38), .val (.int (1 : Int32)), .val (.int (1 : Int32)), .unset] [(.int (0 : Int32))]))
          refine Goes.st (fun t k => XS.iconst X45.here hx rfl (hb hby at_209) k) ?_
          show Goes _ _ _ _ (T45.setTop (mkF m 210 #[.val (.int p0), .val (.int p1), .val (.int p2), .val (.ref b1), .val (.ref b9), .val (.ref b15), .val (.ref b23), .val (.int (0 : Int32)), .val (.int (1 : Int32)), .val (.ref b38), .val (.int (1 : Int32)), .val (.int (1 : Int32)), .unset] [(.int (0 : Int32)), (.int (0 : Int32))]))
          refine Goes.st (fun t k => XS.icmpNo X45.here hx rfl (hb hby at_210) rfl (teq (by decide : (0 : Int32) = (0 : Int32))).2 k) ?_
          show Goes _ _ _ _ (T45.setTop (mkF m 213 #[.val (.int p0), .val (.int p1), .val (.int p2), .val (.ref b1), .val (.ref b9), .val (.ref b15), .val (.ref b23), .val (.int (0 : Int32)), .val (.int (1 : Int32)), .val (.ref b38), .val (.int (1 : Int32)), .val (.int (1 : Int32)), .unset] []))
          refine Goes.st (fun t k => XS.iconst X45.here hx rfl (hb hby at_213) k) ?_
          show Goes _ _ _ _ (T45.setTop (mkF m 214 #[.val (.int p0), .val (.int p1), .val (.int p2), .val (.ref b1), .val (.ref b9), .val (.ref b15), .val (.ref b23), .val (.int (0 : Int32)), .val (.int (1 : Int32)), .val (.ref b38), .val (.int (1 : Int32)), .val (.int (1 : Int32)), .unset] [(.int (1 : Int32))]))
          refine Goes.st (fun t k => XS.goto X45.here hx rfl (pc0 := 214) (pc' := 218) rfl (hb hby at_214) (by decide) (by decide) k) ?_
          show Goes _ _ _ _ (T45.setTop (mkF m 218 #[.val (.int p0), .val (.int p1), .val (.int p2), .val (.ref b1), .val (.ref b9), .val (.ref b15), .val (.ref b23), .val (.int (0 : Int32)), .val (.int (1 : Int32)), .val (.ref b38), .val (.int (1 : Int32)), .val (.int (1 : Int32)), .unset] [(.int (1 : Int32))]))
          refine Goes.st (fun t k => XS.istore X45.here hx rfl (hb hby at_218) rfl (l' := #[.val (.int p0), .val (.int p1), .val (.int p2), .val (.ref b1), .val (.ref b9), .val (.ref b15), .val (.ref b23), .val (.int (0 : Int32)), .val (.int (1 : Int32)), .val (.ref b38), .val (.int (1 : Int32)), .val (.int (1 : Int32)), .val (.int (1 : Int32))]) rfl k) ?_
          show Goes _ _ _ _ (T45.setTop (mkF m 220 #[.val (.int p0), .val (.int p1), .val (.int p2), .val (.ref b1), .val (.ref b9), .val (.ref b15), .val (.ref b23), .val (.int (0 : Int32)), .val (.int (1 : Int32)), .val (.ref b38), .val (.int (1 : Int32)), .val (.int (1 : Int32)), .val (.int (1 : Int32))] []))
          refine Goes.st (fun t k => XS.iload X45.here hx rfl (hb hby at_220) rfl k) ?_
          show Goes _ _ _ _ (T45.setTop (mkF m 222 #[.val (.int p0), .val (.int p1), .val (.int p2), .val (.ref b1), .val (.ref b9), .val (.ref b15), .val (.ref b23), .val (.int (0 : Int32)), .val (.int (1 : Int32)), .val (.ref b38), .val (.int (1 : Int32)), .val (.int (1 : Int32)), .val (.int (1 : Int32))] [(.int (1 : Int32))]))
          refine Goes.st (fun t k => XS.ifNo X45.here hx rfl (hb hby at_222) rfl ((if0 _ _).trans (feq (by decide : ¬ ((1 : Int32) = (0 : Int32)))).1) k) ?_
          show Goes _ _ _ _ (T45.setTop (mkF m 225 #[.val (.int p0), .val (.int p1), .val (.int p2), .val (.ref b1), .val (.ref b9), .val (.ref b15), .val (.ref b23), .val (.int (0 : Int32)), .val (.int (1 : Int32)), .val (.ref b38), .val (.int (1 : Int32)), .val (.int (1 : Int32)), .val (.int (1 : Int32))] []))
          refine Goes.st (fun t k => XS.iload X45.here hx rfl (hb hby at_225) rfl k) ?_
          show Goes _ _ _ _ (T45.setTop (mkF m 227 #[.val (.int p0), .val (.int p1), .val (.int p2), .val (.ref b1), .val (.ref b9), .val (.ref b15), .val (.ref b23), .val (.int (0 : Int32)), .val (.int (1 : Int32)), .val (.ref b38), .val (.int (1 : Int32)), .val (.int (1 : Int32)), .val (.int (1 : Int32))] [(.int (1 : Int32))]))
          refine Goes.st (fun t k => XS.ifNo X45.here hx rfl (hb hby at_227) rfl ((if0 _ _).trans (feq (by decide : ¬ ((1 : Int32) = (0 : Int32)))).1) k) ?_
          show Goes _ _ _ _ (T45.setTop (mkF m 230 #[.val (.int p0), .val (.int p1), .val (.int p2), .val (.ref b1), .val (.ref b9), .val (.ref b15), .val (.ref b23), .val (.int (0 : Int32)), .val (.int (1 : Int32)), .val (.ref b38), .val (.int (1 : Int32)), .val (.int (1 : Int32)), .val (.int (1 : Int32))] []))
          refine Goes.st (fun t k => XS.iload X45.here hx rfl (hb hby at_230) rfl k) ?_
          show Goes _ _ _ _ (T45.setTop (mkF m 232 #[.val (.int p0), .val (.int p1), .val (.int p2), .val (.ref b1), .val (.ref b9), .val (.ref b15), .val (.ref b23), .val (.int (0 : Int32)), .val (.int (1 : Int32)), .val (.ref b38), .val (.int (1 : Int32)), .val (.int (1 : Int32)), .val (.int (1 : Int32))] [(.int (1 : Int32))]))
          refine Goes.st (fun t k => XS.ifNo X45.here hx rfl (hb hby at_232) rfl ((if0 _ _).trans (feq (by decide : ¬ ((1 : Int32) = (0 : Int32)))).1) k) ?_
          show Goes _ _ _ _ (T45.setTop (mkF m 235 #[.val (.int p0), .val (.int p1), .val (.int p2), .val (.ref b1), .val (.ref b9), .val (.ref b15), .val (.ref b23), .val (.int (0 : Int32)), .val (.int (1 : Int32)), .val (.ref b38), .val (.int (1 : Int32)), .val (.int (1 : Int32)), .val (.int (1 : Int32))] []))
          refine Goes.st (fun t k => XS.iconst X45.here hx rfl (hb hby at_235) k) ?_
          show Goes _ _ _ _ (T45.setTop (mkF m 236 #[.val (.int p0), .val (.int p1), .val (.int p2), .val (.ref b1), .val (.ref b9), .val (.ref b15), .val (.ref b23), .val (.int (0 : Int32)), .val (.int (1 : Int32)), .val (.ref b38), .val (.int (1 : Int32)), .val (.int (1 : Int32)), .val (.int (1 : Int32))] [(.int (1 : Int32))]))
          refine Goes.st (fun t k => XS.goto X45.here hx rfl (pc0 := 236) (pc' := 240) rfl (hb hby at_236) (by decide) (by decide) k) ?_
          show Goes _ _ _ _ (T45.setTop (mkF m 240 #[.val (.int p0), .val (.int p1), .val (.int p2), .val (.ref b1), .val (.ref b9), .val (.ref b15), .val (.ref b23), .val (.int (0 : Int32)), .val (.int (1 : Int32)), .val (.ref b38), .val (.int (1 : Int32)), .val (.int (1 : Int32)), .val (.int (1 : Int32))] [(.int (1 : Int32))]))
          obtain ⟨fs, hr, hrun, hended, hRW⟩ := X45.leaveW hS0 (by rw [K45]; exact (Nat.le_trans (Nat.le_trans (Nat.le_trans (Nat.le_trans (Nat.le_trans (Nat.le_trans (Nat.le_trans (Nat.le_trans (Nat.le_trans (Nat.le_trans (Nat.le_trans hk0 E1.1) (Nat.le_of_eq W4.size.symm)) (Nat.le_of_eq W7.size.symm)) E9.1) (Nat.le_of_eq W12.size.symm)) E15.1) K17.1) E23.1) K25.1) E38.1) K43.1)) (v := some (.int (1 : Int32))) (fun h => by rw [Bd.returns] at h; cases h)
          subst hQQ
          have hCR : CHr Z EL s.vm s.heap T45.vm T45.heap := by rw [hh, K45]; exact CR44.trans (CHv.at X45 hZ (own_EW hw) CR44.1)
          refine ⟨_, _, retN X45 hx (t := .boolean) Bd.returns (by simp) (hb hby at_240) hr, hrun, hended, _, _, rfl, ?_, hCR, own_REmono hRW (by decide) (by decide)⟩
          show Q_law Z p0 p1 p2 G1 h0 n0 _ T45.heap _
          rw [K45]
          exact ⟨rfl, N45⟩
      case neg =>
        refine Goes.st (fun t k => XS.ifNo X25.here hx rfl (hb hby at_102) rfl ((if0 _ _).trans (feq c30).1) k) ?_
        show Goes _ _ _ _ (T25.setTop (mkF m 105 #[.val (.int p0), .val (.int p1), .val (.int p2), .val (.ref b1), .val (.ref b9), .val (.ref b15), .val (.ref b23), .unset, .unset, .unset, .unset, .unset, .unset] []))
        refine Goes.st (fun t k => XS.iconst X25.here hx rfl (hb hby at_105) k) ?_
        show Goes _ _ _ _ (T25.setTop (mkF m 106 #[.val (.int p0), .val (.int p1), .val (.int p2), .val (.ref b1), .val (.ref b9), .val (.ref b15), .val (.ref b23), .unset, .unset, .unset, .unset, .unset, .unset] [(.int (1 : Int32))]))
        refine Goes.st (fun t k => XS.goto X25.here hx rfl (pc0 := 106) (pc' := 110) rfl (hb hby at_106) (by decide) (by decide) k) ?_
        show Goes _ _ _ _ (T25.setTop (mkF m 110 #[.val (.int p0), .val (.int p1), .val (.int p2), .val (.ref b1), .val (.ref b9), .val (.ref b15), .val (.ref b23), .unset, .unset, .unset, .unset, .unset, .unset] [(.int (1 : Int32))]))
        refine Goes.st (fun t k => XS.istore X25.here hx rfl (hb hby at_110) rfl (l' := #[.val (.int p0), .val (.int p1), .val (.int p2), .val (.ref b1), .val (.ref b9), .val (.ref b15), .val (.ref b23), .val (.int (1 : Int32)), .unset, .unset, .unset, .unset, .unset]) rfl k) ?_
        show Goes _ _ _ _ (T25.setTop (mkF m 112 #[.val (.int p0), .val (.int p1), .val (.int p2), .val (.ref b1), .val (.ref b9), .val (.ref b15), .val (.ref b23), .val (.int (1 : Int32)), .unset, .unset, .unset, .unset, .unset] []))
        refine Goes.st (fun t k => XS.iloadN X25.here hx rfl (hb hby at_112) rfl k) ?_
        show Goes _ _ _ _ (T25.setTop (mkF m 113 #[.val (.int p0), .val (.int p1), .val (.int p2), .val (.ref b1), .val (.ref b9), .val (.ref b15), .val (.ref b23), .val (.int (1 : Int32)), .unset, .unset, .unset, .unset, .unset] [(.int p2)]))
        refine Goes.st (fun t k => XS.iconst X25.here hx rfl (hb hby at_113) k) ?_
        show Goes _ _ _ _ (T25.setTop (mkF m 114 #[.val (.int p0), .val (.int p1), .val (.int p2), .val (.ref b1), .val (.ref b9), .val (.ref b15), .val (.ref b23), .val (.int (1 : Int32)), .unset, .unset, .unset, .unset, .unset] [(.int (2 : Int32)), (.int p2)]))
        refine Goes.st (fun t k => XS.iand X25.here hx rfl (hb hby at_114) rfl k) ?_
        show Goes _ _ _ _ (T25.setTop (mkF m 115 #[.val (.int p0), .val (.int p1), .val (.int p2), .val (.ref b1), .val (.ref b9), .val (.ref b15), .val (.ref b23), .val (.int (1 : Int32)), .unset, .unset, .unset, .unset, .unset] [(.int (p2 &&& (2 : Int32)))]))
        by_cases c46 : (p2 &&& (2 : Int32)) = (0 : Int32)
        case pos =>
          refine Goes.st (fun t k => XS.ifYes X25.here hx rfl (pc0 := 115) (pc' := 122) rfl (hb hby at_115) rfl ((if0 _ _).trans (teq c46).1) (by decide) (by decide) k) ?_
          show Goes _ _ _ _ (T25.setTop (mkF m 122 #[.val (.int p0), .val (.int p1), .val (.int p2), .val (.ref b1), .val (.ref b9), .val (.ref b15), .val (.ref b23), .val (.int (1 : Int32)), .unset, .unset, .unset, .unset, .unset] []))
          refine Goes.st (fun t k => XS.iconst X25.here hx rfl (hb hby at_122) k) ?_
          show Goes _ _ _ _ (T25.setTop (mkF m 123 #[.val (.int p0), .val (.int p1), .val (.int p2), .val (.ref b1), .val (.ref b9), .val (.ref b15), .val (.ref b23), .val (.int (1 : Int32)), .unset, .unset, .unset, .unset, .unset] [(.int (0 : Int32))]))
          refine Goes.st (fun t k => XS.istore X25.here hx rfl (hb hby at_123) rfl (l' := #[.val (.int p0), .val (.int p1), .val (.int p2), .val (.ref b1), .val (.ref b9), .val (.ref b15), .val (.ref b23), .val (.int (1 : Int32)), .val (.int (0 : Int32)), .unset, .unset, .unset, .unset]) rfl k) ?_
          show Goes _ _ _ _ (T25.setTop (mkF m 125 #[.val (.int p0), .val (.int p1), .val (.int p2), .val (.ref b1), .val (.ref b9), .val (.ref b15), .val (.ref b23), .val (.int (1 : Int32)), .val (.int (0 : Int32)), .unset, .unset, .unset, .unset] []))
          obtain ⟨T47, h47, X47, e47, E47, A47, D47, -, st47⟩ := newO X25 hx hZ hown (hw30 hw) (hw31 hw) (hw32 hw) rfl (g := (mkF m 125 #[.val (.int p0), .val (.int p1), .val (.int p2), .val (.ref b1), .val (.ref b9), .val (.ref b15), .val (.ref b23), .val (.int (1 : Int32)), .val (.int (0 : Int32)), .unset, .unset, .unset, .unset] [])) rfl (hb hby at_125) (by decide) (by decide)
          obtain ⟨b47, g47⟩ : ∃ z, z = T25.heap.size := ⟨_, rfl⟩
          rw [← g47] at A47 D47 st47
          have CR48 : CHr Z EL s.vm h0 s.vm h47 := CR29.trans (CHr.ext E47 CR29.1)
          have F47_reason : Fld Z h47 b47 "com/example/tenon/tenon/registry/Validity" "reason" "Ljava/lang/String;" .null := D47 (Or.inl (hw43 hw)) (ty := (.object "java/lang/String")) (by decide)
          refine Goes.st st47 ?_
          show Goes _ _ _ _ (T47.setTop (mkF m 128 #[.val (.int p0), .val (.int p1), .val (.int p2), .val (.ref b1), .val (.ref b9), .val (.ref b15), .val (.ref b23), .val (.int (1 : Int32)), .val (.int (0 : Int32)), .unset, .unset, .unset, .unset] [(.ref b47)]))
          refine Goes.st (fun t k => XS.dup X47.here hx rfl (hb hby at_128) rfl rfl k) ?_
          show Goes _ _ _ _ (T47.setTop (mkF m 129 #[.val (.int p0), .val (.int p1), .val (.int p2), .val (.ref b1), .val (.ref b9), .val (.ref b15), .val (.ref b23), .val (.int (1 : Int32)), .val (.int (0 : Int32)), .unset, .unset, .unset, .unset] [(.ref b47), (.ref b47)]))
          obtain ⟨_, _, ⟨T49, L49, k49, n49⟩, -, X49, ⟨Lc49, hQ49, l49, y49, z49⟩, st49⟩ := X47.specialBack hx (y := (⟨"com/example/tenon/tenon/registry/Validity", "<init>", "()V"⟩ : MethodName)) rfl hown (mvT hZ (hw33 hw)) (mvT hZ (hw34 hw)) (mvT hZ (hw35 hw)) (by decide) (backOf (W := 1) (rm_vinit l Z a0 hw [] b47 h47 n0 (Nat.le_trans Z0 (Nat.le_trans (Nat.le_trans (Nat.le_trans (Nat.le_trans (Nat.le_trans (Nat.le_trans (Nat.le_trans (Nat.le_trans (Nat.le_trans E1.1 (Nat.le_of_eq W4.size.symm)) (Nat.le_of_eq W7.size.symm)) E9.1) (Nat.le_of_eq W12.size.symm)) E15.1) K17.1) E23.1) K25.1) E47.1)) ) hZ (hw35 hw) (hw32 hw) (by decide) (by decide)) (g := (mkF m 129 #[.val (.int p0), .val (.int p1), .val (.int p2), .val (.ref b1), .val (.ref b9), .val (.ref b15), .val (.ref b23), .val (.int (1 : Int32)), .val (.int (0 : Int32)), .unset, .unset, .unset, .unset] [(.ref b47), (.ref b47)])) rfl (by rw [hml]; rfl) (Steps.refl _) (a := b47) (argsL := []) (rest := [(.ref b47)]) (lenOf pd_2 rfl) rfl (by show 2 * 0 + _ ≤ _; exact Nat.le_of_eq rfl) (hb hby at_129) (fun _ _ => ⟨rfl, e47, (by decide : 7 + 0 ≤ _), (by decide : 15 + 0 ≤ _)⟩)
          dsimp only [Pt.U, Pt.locs, Pt.cells, Pt.slots] at X49 l49 y49 z49 st49 hQ49
          subst l49 y49 z49
          obtain ⟨rfl, N49q, K49⟩ := hQ49
          have N49 := Fr.app N25 N49q
          refine Goes.tr st49 ?_
          show Goes _ _ _ _ (T49.setTop (mkF m 132 #[.val (.int p0), .val (.int p1), .val (.int p2), .val (.ref b1), .val (.ref b9), .val (.ref b15), .val (.ref b23), .val (.int (1 : Int32)), .val (.int (0 : Int32)), .unset, .unset, .unset, .unset] [(.ref b47)]))
          refine Goes.st (fun t k => XS.astore X49.here hx rfl (hb hby at_132) rfl rfl (l' := #[.val (.int p0), .val (.int p1), .val (.int p2), .val (.ref b1), .val (.ref b9), .val (.ref b15), .val (.ref b23), .val (.int (1 : Int32)), .val (.int (0 : Int32)), .val (.ref b47), .unset, .unset, .unset]) rfl k) ?_
          show Goes _ _ _ _ (T49.setTop (mkF m 134 #[.val (.int p0), .val (.int p1), .val (.int p2), .val (.ref b1), .val (.ref b9), .val (.ref b15), .val (.ref b23), .val (.int (1 : Int32)), .val (.int (0 : Int32)), .val (.ref b47), .unset, .unset, .unset] []))
          refine Goes.st (fun t k => XS.aload X49.here hx rfl (hb hby at_134) rfl rfl k) ?_
          show Goes _ _ _ _ (T49.setTop (mkF m 136 #[.val (.int p0), .val (.int p1), .val (.int p2), .val (.ref b1), .val (.ref b9), .val (.ref b15), .val (.ref b23), .val (.int (1 : Int32)), .val (.int (0 : Int32)), .val (.ref b47), .unset, .unset, .unset] [(.ref b47)]))
          obtain ⟨cq50, kq50, q50a, q50b, q50c⟩ := isOf hZ K49 A47
          obtain ⟨_, _, ⟨T50, L50, k50, n50⟩, -, X50, ⟨Lc50, hQ50, l50, y50, z50⟩, st50⟩ := X49.virtualBack hx (y := (⟨"com/example/tenon/tenon/registry/Validity", "isValid", "()Z"⟩ : MethodName)) (z := (⟨"com/example/tenon/tenon/registry/Validity", "isValid", "()Z"⟩ : MethodName)) hown (mvT hZ (hw37 hw)) (mvT hZ (hw38 hw)) (notFace_of_selects (args := #[]) (mvT hZ (hw40 hw))) (mvT hZ (hw40 hw)) (mvT hZ (hw39 hw)) (by decide) (backOf (W := 0) (rm_ivN l Z a0 hw [] b47 h47 n0 (Nat.le_trans Z0 (Nat.le_trans (Nat.le_trans (Nat.le_trans (Nat.le_trans (Nat.le_trans (Nat.le_trans (Nat.le_trans (Nat.le_trans (Nat.le_trans E1.1 (Nat.le_of_eq W4.size.symm)) (Nat.le_of_eq W7.size.symm)) E9.1) (Nat.le_of_eq W12.size.symm)) E15.1) K17.1) E23.1) K25.1) E47.1)) F47_reason) hZ (hw41 hw) (hw32 hw) (by decide) (by decide)) q50a q50c (g := (mkF m 136 #[.val (.int p0), .val (.int p1), .val (.int p2), .val (.ref b1), .val (.ref b9), .val (.ref b15), .val (.ref b23), .val (.int (1 : Int32)), .val (.int (0 : Int32)), .val (.ref b47), .unset, .unset, .unset] [(.ref b47)])) rfl (by rw [hml]; rfl) (Steps.refl _) (argsL := []) (rest := []) (lenOf pd_3 rfl) rfl (by show 2 * 0 + _ ≤ _; exact Nat.le_of_eq rfl) (hb hby at_136) (fun _ _ => ⟨rfl, K49, (by decide : 7 + 0 ≤ _), (by decide : 15 + 0 ≤ _)⟩)
          dsimp only [Pt.U, Pt.locs, Pt.cells, Pt.slots] at X50 l50 y50 z50 st50 hQ50
          subst l50 y50 z50
          obtain ⟨rfl, N50q, K50⟩ := hQ50
          have N50 := Fr.app N49 N50q
          refine Goes.tr st50 ?_
          show Goes _ _ _ _ (T50.setTop (mkF m 139 #[.val (.int p0), .val (.int p1), .val (.int p2), .val (.ref b1), .val (.ref b9), .val (.ref b15), .val (.ref b23), .val (.int (1 : Int32)), .val (.int (0 : Int32)), .val (.ref b47), .unset, .unset, .unset] [(.int (1 : Int32))]))
          refine Goes.st (fun t k => XS.istore X50.here hx rfl (hb hby at_139) rfl (l' := #[.val (.int p0), .val (.int p1), .val (.int p2), .val (.ref b1), .val (.ref b9), .val (.ref b15), .val (.ref b23), .val (.int (1 : Int32)), .val (.int (0 : Int32)), .val (.ref b47), .val (.int (1 : Int32)), .unset, .unset]) rfl k) ?_
          show Goes _ _ _ _ (T50.setTop (mkF m 141 #[.val (.int p0), .val (.int p1), .val (.int p2), .val (.ref b1), .val (.ref b9), .val (.ref b15), .val (.ref b23), .val (.int (1 : Int32)), .val (.int (0 : Int32)), .val (.ref b47), .val (.int (1 : Int32)), .unset, .unset] []))
          refine Goes.st (fun t k => XS.iload X50.here hx rfl (hb hby at_141) rfl k) ?_
          show Goes _ _ _ _ (T50.setTop (mkF m 143 #[.val (.int p0), .val (.int p1), .val (.int p2), .val (.ref b1), .val (.ref b9), .val (.ref b15), .val (.ref b23), .val (.int (1 : Int32)), .val (.int (0 : Int32)), .val (.ref b47), .val (.int (1 : Int32)), .unset, .unset] [(.int (1 : Int32))]))
          refine Goes.st (fun t k => XS.ifNo X50.here hx rfl (hb hby at_143) rfl ((if0 _ _).trans (feq (by decide : ¬ ((1 : Int32) = (0 : Int32)))).1) k) ?_
          show Goes _ _ _ _ (T50.setTop (mkF m 146 #[.val (.int p0), .val (.int p1), .val (.int p2), .val (.ref b1), .val (.ref b9), .val (.ref b15), .val (.ref b23), .val (.int (1 : Int32)), .val (.int (0 : Int32)), .val (.ref b47), .val (.int (1 : Int32)), .unset, .unset] []))
          refine Goes.st (fun t k => XS.aload X50.here hx rfl (hb hby at_146) rfl rfl k) ?_
          show Goes _ _ _ _ (T50.setTop (mkF m 148 #[.val (.int p0), .val (.int p1), .val (.int p2), .val (.ref b1), .val (.ref b9), .val (.ref b15), .val (.ref b23), .val (.int (1 : Int32)), .val (.int (0 : Int32)), .val (.ref b47), .val (.int (1 : Int32)), .unset, .unset] [(.ref b47)]))
          refine Goes.st (fun t k => XS.aload X50.here hx rfl (hb hby at_148) rfl rfl k) ?_
          show Goes _ _ _ _ (T50.setTop (mkF m 150 #[.val (.int p0), .val (.int p1), .val (.int p2), .val (.ref b1), .val (.ref b9), .val (.ref b15), .val (.ref b23), .val (.int (1 : Int32)), .val (.int (0 : Int32)), .val (.ref b47), .val (.int (1 : Int32)), .unset, .unset] [(.ref b15), (.ref b47)]))
          obtain ⟨cq51, kq51, q51a, q51b, q51c⟩ := isOf hZ K50 A47
          obtain ⟨_, _, ⟨T51, L51, k51, n51⟩, -, X51, ⟨Lc51, hQ51, l51, y51, z51⟩, st51⟩ := X50.virtualBack hx (y := (⟨"com/example/tenon/tenon/registry/Validity", "invalidate", "(Ljava/lang/String;)V"⟩ : MethodName)) (z := (⟨"com/example/tenon/tenon/registry/Validity", "invalidate", "(Ljava/lang/String;)V"⟩ : MethodName)) hown (mvT hZ (hw44 hw)) (mvT hZ (hw45 hw)) (notFace_of_selects (args := #[]) (mvT hZ (hw47 hw))) (mvT hZ (hw47 hw)) (mvT hZ (hw46 hw)) (by decide) (backOf (W := 0) (rm_inv l Z a0 hw [] b47 b15 (Value.null) h47 n0 (Nat.le_trans Z0 (Nat.le_trans (Nat.le_trans (Nat.le_trans (Nat.le_trans (Nat.le_trans (Nat.le_trans (Nat.le_trans (Nat.le_trans (Nat.le_trans E1.1 (Nat.le_of_eq W4.size.symm)) (Nat.le_of_eq W7.size.symm)) E9.1) (Nat.le_of_eq W12.size.symm)) E15.1) K17.1) E23.1) K25.1) E47.1)) A47 F47_reason (Nat.le_trans Z0 (Nat.le_trans (Nat.le_trans (Nat.le_trans (Nat.le_trans (Nat.le_trans (Nat.le_trans (Nat.le_trans (Nat.le_trans (Nat.le_trans E1.1 (Nat.le_of_eq W4.size.symm)) (Nat.le_of_eq W7.size.symm)) E9.1) (Nat.le_of_eq W12.size.symm)) E15.1) K17.1) E23.1) K25.1) (Nat.le_of_eq g47.symm)))) hZ (hw48 hw) (hw32 hw) (by decide) (by decide)) q51a q51c (g := (mkF m 150 #[.val (.int p0), .val (.int p1), .val (.int p2), .val (.ref b1), .val (.ref b9), .val (.ref b15), .val (.ref b23), .val (.int (1 : Int32)), .val (.int (0 : Int32)), .val (.ref b47), .val (.int (1 : Int32)), .unset, .unset] [(.ref b15), (.ref b47)])) rfl (by rw [hml]; rfl) (Steps.refl _) (argsL := [(.ref b15)]) (rest := []) (lenOf pd_4 rfl) rfl (by show 2 * 0 + _ ≤ _; exact Nat.le_of_eq rfl) (hb hby at_150) (fun _ _ => ⟨rfl, K50, (by decide : 7 + 0 ≤ _), (by decide : 15 + 0 ≤ _)⟩)
          dsimp only [Pt.U, Pt.locs, Pt.cells, Pt.slots] at X51 l51 y51 z51 st51 hQ51
          subst l51 y51 z51
          obtain ⟨rfl, N51q, K51, F51_0, F51_1⟩ := hQ51
          have N51 := Fr.app N50 N51q
          have hs52 : ∀ x ∈ ([b47] : List Addr), Safe Z EL s.vm h47 x := (allS (Safe.exa hZ.alike A47 (by decide) (by decide)) all0)
          have CR52 : CHr Z EL s.vm h0 s.vm T51.heap := CR48.trans (CHr.keep K51 hs52 CR48.1)
          refine Goes.tr st51 ?_
          show Goes _ _ _ _ (T51.setTop (mkF m 153 #[.val (.int p0), .val (.int p1), .val (.int p2), .val (.ref b1), .val (.ref b9), .val (.ref b15), .val (.ref b23), .val (.int (1 : Int32)), .val (.int (0 : Int32)), .val (.ref b47), .val (.int (1 : Int32)), .unset, .unset] []))
          refine Goes.st (fun t k => XS.aload X51.here hx rfl (hb hby at_153) rfl rfl k) ?_
          show Goes _ _ _ _ (T51.setTop (mkF m 155 #[.val (.int p0), .val (.int p1), .val (.int p2), .val (.ref b1), .val (.ref b9), .val (.ref b15), .val (.ref b23), .val (.int (1 : Int32)), .val (.int (0 : Int32)), .val (.ref b47), .val (.int (1 : Int32)), .unset, .unset] [(.ref b47)]))
          obtain ⟨cq53, kq53, q53a, q53b, q53c⟩ := isOf hZ rfl F51_0
          obtain ⟨_, _, ⟨T53, L53, k53, n53⟩, -, X53, ⟨Lc53, hQ53, l53, y53, z53⟩, st53⟩ := X51.virtualBack hx (y := (⟨"com/example/tenon/tenon/registry/Validity", "isValid", "()Z"⟩ : MethodName)) (z := (⟨"com/example/tenon/tenon/registry/Validity", "isValid", "()Z"⟩ : MethodName)) hown (mvT hZ (hw37 hw)) (mvT hZ (hw38 hw)) (notFace_of_selects (args := #[]) (mvT hZ (hw40 hw))) (mvT hZ (hw40 hw)) (mvT hZ (hw39 hw)) (by decide) (backOf (W := 0) (rm_ivR l Z a0 hw [] b47 b15 T51.heap n0 (Nat.le_trans Z0 (Nat.le_trans (Nat.le_trans (Nat.le_trans (Nat.le_trans (Nat.le_trans (Nat.le_trans (Nat.le_trans (Nat.le_trans (Nat.le_trans (Nat.le_trans E1.1 (Nat.le_of_eq W4.size.symm)) (Nat.le_of_eq W7.size.symm)) E9.1) (Nat.le_of_eq W12.size.symm)) E15.1) K17.1) E23.1) K25.1) E47.1) K51.1)) F51_1) hZ (hw41 hw) (hw32 hw) (by decide) (by decide)) q53a q53c (g := (mkF m 155 #[.val (.int p0), .val (.int p1), .val (.int p2), .val (.ref b1), .val (.ref b9), .val (.ref b15), .val (.ref b23), .val (.int (1 : Int32)), .val (.int (0 : Int32)), .val (.ref b47), .val (.int (1 : Int32)), .unset, .unset] [(.ref b47)])) rfl (by rw [hml]; rfl) (Steps.refl _) (argsL := []) (rest := []) (lenOf pd_3 rfl) rfl (by show 2 * 0 + _ ≤ _; exact Nat.le_of_eq rfl) (hb hby at_155) (fun _ _ => ⟨rfl, rfl, (by decide : 7 + 0 ≤ _), (by decide : 15 + 0 ≤ _)⟩)
          dsimp only [Pt.U, Pt.locs, Pt.cells, Pt.slots] at X53 l53 y53 z53 st53 hQ53
          subst l53 y53 z53
          obtain ⟨rfl, N53q, K53⟩ := hQ53
          have N53 := Fr.app N51 N53q
          refine Goes.tr st53 ?_
          show Goes _ _ _ _ (T53.setTop (mkF m 158 #[.val (.int p0), .val (.int p1), .val (.int p2), .val (.ref b1), .val (.ref b9), .val (.ref b15), .val (.ref b23), .val (.int (1 : Int32)), .val (.int (0 : Int32)), .val (.ref b47), .val (.int (1 : Int32)), .unset, .unset] [(.int (0 : Int32))]))
          refine Goes.st (fun t k => XS.iload X53.here hx rfl (hb hby at_158) rfl k) ?_
          show Goes _ _ _ _ (T53.setTop (mkF m 160 #[.val (.int p0), .val (.int p1), .val (.int p2), .val (.ref b1), .val (.ref b9), .val (.ref b15), .val (.ref b23), .val (.int (1 : Int32)), .val (.int (0 : Int32)), .val (.ref b47), .val (.int (1 : Int32)), .unset, .unset] [(.int (1 : Int32)), (.int (0 : Int32))]))
          refine Goes.st (fun t k => XS.ifYes X53.here hx rfl (pc0 := 160) (pc' := 167) rfl (hb hby at_160) rfl ((if0 _ _).trans (feq (by decide : ¬ ((1 : Int32) = (0 : Int32)))).2) (by decide) (by decide) k) ?_
          show Goes _ _ _ _ (T53.setTop (mkF m 167 #[.val (.int p0), .val (.int p1), .val (.int p2), .val (.ref b1), .val (.ref b9), .val (.ref b15), .val (.ref b23), .val (.int (1 : Int32)), .val (.int (0 : Int32)), .val (.ref b47), .val (.int (1 : Int32)), .unset, .unset] [(.int (0 : Int32))]))
          refine Goes.st (fun t k => XS.iconst X53.here hx rfl (hb hby at_167) k) ?_
          show Goes _ _ _ _ (T53.setTop (mkF m 168 #[.val (.int p0), .val (.int p1), .val (.int p2), .val (.ref b1), .val (.ref b9), .val (.ref b15), .val (.ref b23), .val (.int (1 : Int32)), .val (.int (0 : Int32)), .val (.ref b47), .val (.int (1 : Int32)), .unset, .unset] [(.int (0 : Int32)), (.int (0 : Int32))]))
          refine Goes.st (fun t k => XS.icmpNo X53.here hx rfl (hb hby at_168) rfl (teq (by decide : (0 : Int32) = (0 : Int32))).2 k) ?_
          show Goes _ _ _ _ (T53.setTop (mkF m 171 #[.val (.int p0), .val (.int p1), .val (.int p2), .val (.ref b1), .val (.ref b9), .val (.ref b15), .val (.ref b23), .val (.int (1 : Int32)), .val (.int (0 : Int32)), .val (.ref b47), .val (.int (1 : Int32)), .unset, .unset] []))
          refine Goes.st (fun t k => XS.iconst X53.here hx rfl (hb hby at_171) k) ?_
          show Goes _ _ _ _ (T53.setTop (mkF m 172 #[.val (.int p0), .val (.int p1), .val (.int p2), .val (.ref b1), .val (.ref b9), .val (.ref b15), .val (.ref b23), .val (.int (1 : Int32)), .val (.int (0 : Int32)), .val (.ref b47), .val (.int (1 : Int32)), .unset, .unset] [(.int (1 : Int32))]))
          refine Goes.st (fun t k => XS.goto X53.here hx rfl (pc0 := 172) (pc' := 176) rfl (hb hby at_172) (by decide) (by decide) k) ?_
          show Goes _ _ _ _ (T53.setTop (mkF m 176 #[.val (.int p0), .val (.int p1), .val (.int p2), .val (.ref b1), .val (.ref b9), .val (.ref b15), .val (.ref b23), .val (.int (1 : Int32)), .val (.int (0 : Int32)), .val (.ref b47), .val (.int (1 : Int32)), .unset, .unset] [(.int (1 : Int32))]))
          refine Goes.st (fun t k => XS.istore X53.here hx rfl (hb hby at_176) rfl (l' := #[.val (.int p0), .val (.int p1), .val (.int p2), .val (.ref b1), .val (.ref b9), .val (.ref b15), .val (.ref b23), .val (.int (1 : Int32)), .val (.int (0 : Int32)), .val (.ref b47), .val (.int (1 : Int32)), .val (.int (1 : Int32)), .unset]) rfl k) ?_
          show Goes _ _ _ _ (T53.setTop (mkF m 178 #[.val (.int p0), .val (.int p1), .val (.int p2), .val (.ref b1), .val (.ref b9), .val (.ref b15), .val (.ref b23), .val (.int (1 : Int32)), .val (.int (0 : Int32)), .val (.ref b47), .val (.int (1 : Int32)), .val (.int (1 : Int32)), .unset] []))
          refine Goes.st (fun t k => XS.iload X53.here hx rfl (hb hby at_178) rfl k) ?_
          show Goes _ _ _ _ (T53.setTop (mkF m 180 #[.val (.int p0), .val (.int p1), .val (.int p2), .val (.ref b1), .val (.ref b9), .val (.ref b15), .val (.ref b23), .val (.int (1 : Int32)), .val (.int (0 : Int32)), .val (.ref b47), .val (.int (1 : Int32)), .val (.int (1 : Int32)), .unset] [(.int (0 : Int32))]))
          refine Goes.st (fun t k => XS.ifYes X53.here hx rfl (pc0 := 180) (pc' := 190) rfl (hb hby at_180) rfl ((if0 _ _).trans (teq (by decide : (0 : Int32) = (0 : Int32))).1) (by decide) (by decide) k) ?_
          show Goes _ _ _ _ (T53.setTop (mkF m 190 #[.val (.int p0), .val (.int p1), .val (.int p2), .val (.ref b1), .val (.ref b9), .val (.ref b15), .val (.ref b23), .val (.int (1 : Int32)), .val (.int (0 : Int32)), .val (.ref b47), .val (.int (1 : Int32)), .val (.int (1 : Int32)), .unset] []))
          refine Goes.st (fun t k => XS.aload X53.here hx rfl (hb hby at_190) rfl rfl k) ?_
          show Goes _ _ _ _ (T53.setTop (mkF m 192 #[.val (.int p0), .val (.int p1), .val (.int p2), .val (.ref b1), .val (.ref b9), .val (.ref b15), .val (.ref b23), .val (.int (1 : Int32)), .val (.int (0 : Int32)), .val (.ref b47), .val (.int (1 : Int32)), .val (.int (1 : Int32)), .unset] [(.ref b47)]))
          obtain ⟨cq54, kq54, q54a, q54b, q54c⟩ := isOf hZ K53 F51_0
          obtain ⟨_, _, ⟨T54, L54, k54, n54⟩, -, X54, ⟨Lc54, hQ54, l54, y54, z54⟩, st54⟩ := X53.virtualBack hx (y := (⟨"com/example/tenon/tenon/registry/Validity", "isValid", "()Z"⟩ : MethodName)) (z := (⟨"com/example/tenon/tenon/registry/Validity", "isValid", "()Z"⟩ : MethodName)) hown (mvT hZ (hw37 hw)) (mvT hZ (hw38 hw)) (notFace_of_selects (args := #[]) (mvT hZ (hw40 hw))) (mvT hZ (hw40 hw)) (mvT hZ (hw39 hw)) (by decide) (backOf (W := 0) (rm_ivR l Z a0 hw [] b47 b15 T51.heap n0 (Nat.le_trans Z0 (Nat.le_trans (Nat.le_trans (Nat.le_trans (Nat.le_trans (Nat.le_trans (Nat.le_trans (Nat.le_trans (Nat.le_trans (Nat.le_trans (Nat.le_trans E1.1 (Nat.le_of_eq W4.size.symm)) (Nat.le_of_eq W7.size.symm)) E9.1) (Nat.le_of_eq W12.size.symm)) E15.1) K17.1) E23.1) K25.1) E47.1) K51.1)) F51_1) hZ (hw41 hw) (hw32 hw) (by decide) (by decide)) q54a q54c (g := (mkF m 192 #[.val (.int p0), .val (.int p1), .val (.int p2), .val (.ref b1), .val (.ref b9), .val (.ref b15), .val (.ref b23), .val (.int (1 : Int32)), .val (.int (0 : Int32)), .val (.ref b47), .val (.int (1 : Int32)), .val (.int (1 : Int32)), .unset] [(.ref b47)])) rfl (by rw [hml]; rfl) (Steps.refl _) (argsL := []) (rest := []) (lenOf pd_3 rfl) rfl (by show 2 * 0 + _ ≤ _; exact Nat.le_of_eq rfl) (hb hby at_192) (fun _ _ => ⟨rfl, K53, (by decide : 7 + 0 ≤ _), (by decide : 15 + 0 ≤ _)⟩)
          dsimp only [Pt.U, Pt.locs, Pt.cells, Pt.slots] at X54 l54 y54 z54 st54 hQ54
          subst l54 y54 z54
          obtain ⟨rfl, N54q, K54⟩ := hQ54
          have N54 := Fr.app N53 N54q
          refine Goes.tr st54 ?_
          show Goes _ _ _ _ (T54.setTop (mkF m 195 #[.val (.int p0), .val (.int p1), .val (.int p2), .val (.ref b1), .val (.ref b9), .val (.ref b15), .val (.ref b23), .val (.int (1 : Int32)), .val (.int (0 : Int32)), .val (.ref b47), .val (.int (1 : Int32)), .val (.int (1 : Int32)), .unset] [(.int (0 : Int32))]))
          refine Goes.st (fun t k => XS.iload X54.here hx rfl (hb hby at_195) rfl k) ?_
          show Goes _ _ _ _ (T54.setTop (mkF m 197 #[.val (.int p0), .val (.int p1), .val (.int p2), .val (.ref b1), .val (.ref b9), .val (.ref b15), .val (.ref b23), .val (.int (1 : Int32)), .val (.int (0 : Int32)), .val (.ref b47), .val (.int (1 : Int32)), .val (.int (1 : Int32)), .unset] [(.int (1 : Int32)), (.int (0 : Int32))]))
          refine Goes.st (fun t k => XS.ifYes X54.here hx rfl (pc0 := 197) (pc' := 209) rfl (hb hby at_197) rfl ((if0 _ _).trans (feq (by decide : ¬ ((1 : Int32) = (0 : Int32)))).2) (by decide) (by decide) k) ?_
          show Goes _ _ _ _ (T54.setTop (mkF m 209 #[.val (.int p0), .val (.int p1), .val (.int p2), .val (.ref b1), .val (.ref b9), .val (.ref b15), .val (.ref b23), .val (.int (1 : Int32)), .val (.int (0 : Int32)), .val (.ref b47), .val (.int (1 : Int32)), .val (.int (1 : Int32)), .unset] [(.int (0 : Int32))]))
          refine Goes.st (fun t k => XS.iconst X54.here hx rfl (hb hby at_209) k) ?_
          show Goes _ _ _ _ (T54.setTop (mkF m 210 #[.val (.int p0), .val (.int p1), .val (.int p2), .val (.ref b1), .val (.ref b9), .val (.ref b15), .val (.ref b23), .val (.int (1 : Int32)), .val (.int (0 : Int32)), .val (.ref b47), .val (.int (1 : Int32)), .val (.int (1 : Int32)), .unset] [(.int (0 : Int32)), (.int (0 : Int32))]))
          refine Goes.st (fun t k => XS.icmpNo X54.here hx rfl (hb hby at_210) rfl (teq (by decide : (0 : Int32) = (0 : Int32))).2 k) ?_
          show Goes _ _ _ _ (T54.setTop (mkF m 213 #[.val (.int p0), .val (.int p1), .val (.int p2), .val (.ref b1), .val (.ref b9), .val (.ref b15), .val (.ref b23), .val (.int (1 : Int32)), .val (.int (0 : Int32)), .val (.ref b47), .val (.int (1 : Int32)), .val (.int (1 : Int32)), .unset] []))
          refine Goes.st (fun t k => XS.iconst X54.here hx rfl (hb hby at_213) k) ?_
          show Goes _ _ _ _ (T54.setTop (mkF m 214 #[.val (.int p0), .val (.int p1), .val (.int p2), .val (.ref b1), .val (.ref b9), .val (.ref b15), .val (.ref b23), .val (.int (1 : Int32)), .val (.int (0 : Int32)), .val (.ref b47), .val (.int (1 : Int32)), .val (.int (1 : Int32)), .unset] [(.int (1 : Int32))]))
          refine Goes.st (fun t k => XS.goto X54.here hx rfl (pc0 := 214) (pc' := 218) rfl (hb hby at_214) (by decide) (by decide) k) ?_
          show Goes _ _ _ _ (T54.setTop (mkF m 218 #[.val (.int p0), .val (.int p1), .val (.int p2), .val (.ref b1), .val (.ref b9), .val (.ref b15), .val (.ref b23), .val (.int (1 : Int32)), .val (.int (0 : Int32)), .val (.ref b47), .val (.int (1 : Int32)), .val (.int (1 : Int32)), .unset] [(.int (1 : Int32))]))
          refine Goes.st (fun t k => XS.istore X54.here hx rfl (hb hby at_218) rfl (l' := #[.val (.int p0), .val (.int p1), .val (.int p2), .val (.ref b1), .val (.ref b9), .val (.ref b15), .val (.ref b23), .val (.int (1 : Int32)), .val (.int (0 : Int32)), .val (.ref b47), .val (.int (1 : Int32)), .val (.int (1 : Int32)), .val (.int (1 : Int32))]) rfl k) ?_
          show Goes _ _ _ _ (T54.setTop (mkF m 220 #[.val (.int p0), .val (.int p1), .val (.int p2), .val (.ref b1), .val (.ref b9), .val (.ref b15), .val (.ref b23), .val (.int (1 : Int32)), .val (.int (0 : Int32)), .val (.ref b47), .val (.int (1 : Int32)), .val (.int (1 : Int32)), .val (.int (1 : Int32))] []))
          refine Goes.st (fun t k => XS.iload X54.here hx rfl (hb hby at_220) rfl k) ?_
          show Goes _ _ _ _ (T54.setTop (mkF m 222 #[.val (.int p0), .val (.int p1), .val (.int p2), .val (.ref b1), .val (.ref b9), .val (.ref b15), .val (.ref b23), .val (.int (1 : Int32)), .val (.int (0 : Int32)), .val (.ref b47), .val (.int (1 : Int32)), .val (.int (1 : Int32)), .val (.int (1 : Int32))] [(.int (1 : Int32))]))
          refine Goes.st (fun t k => XS.ifNo X54.here hx rfl (hb hby at_222) rfl ((if0 _ _).trans (feq (by decide : ¬ ((1 : Int32) = (0 : Int32)))).1) k) ?_
          show Goes _ _ _ _ (T54.setTop (mkF m 225 #[.val (.int p0), .val (.int p1), .val (.int p2), .val (.ref b1), .val (.ref b9), .val (.ref b15), .val (.ref b23), .val (.int (1 : Int32)), .val (.int (0 : Int32)), .val (.ref b47), .val (.int (1 : Int32)), .val (.int (1 : Int32)), .val (.int (1 : Int32))] []))
          refine Goes.st (fun t k => XS.iload X54.here hx rfl (hb hby at_225) rfl k) ?_
          show Goes _ _ _ _ (T54.setTop (mkF m 227 #[.val (.int p0), .val (.int p1), .val (.int p2), .val (.ref b1), .val (.ref b9), .val (.ref b15), .val (.ref b23), .val (.int (1 : Int32)), .val (.int (0 : Int32)), .val (.ref b47), .val (.int (1 : Int32)), .val (.int (1 : Int32)), .val (.int (1 : Int32))] [(.int (1 : Int32))]))
          refine Goes.st (fun t k => XS.ifNo X54.here hx rfl (hb hby at_227) rfl ((if0 _ _).trans (feq (by decide : ¬ ((1 : Int32) = (0 : Int32)))).1) k) ?_
          show Goes _ _ _ _ (T54.setTop (mkF m 230 #[.val (.int p0), .val (.int p1), .val (.int p2), .val (.ref b1), .val (.ref b9), .val (.ref b15), .val (.ref b23), .val (.int (1 : Int32)), .val (.int (0 : Int32)), .val (.ref b47), .val (.int (1 : Int32)), .val (.int (1 : Int32)), .val (.int (1 : Int32))] []))
          refine Goes.st (fun t k => XS.iload X54.here hx rfl (hb hby at_230) rfl k) ?_
          show Goes _ _ _ _ (T54.setTop (mkF m 232 #[.val (.int p0), .val (.int p1), .val (.int p2), .val (.ref b1), .val (.ref b9), .val (.ref b15), .val (.ref b23), .val (.int (1 : Int32)), .val (.int (0 : Int32)), .val (.ref b47), .val (.int (1 : Int32)), .val (.int (1 : Int32)), .val (.int (1 : Int32))] [(.int (1 : Int32))]))
          refine Goes.st (fun t k => XS.ifNo X54.here hx rfl (hb hby at_232) rfl ((if0 _ _).trans (feq (by decide : ¬ ((1 : Int32) = (0 : Int32)))).1) k) ?_
          show Goes _ _ _ _ (T54.setTop (mkF m 235 #[.val (.int p0), .val (.int p1), .val (.int p2), .val (.ref b1), .val (.ref b9), .val (.ref b15), .val (.ref b23), .val (.int (1 : Int32)), .val (.int (0 : Int32)), .val (.ref b47), .val (.int (1 : Int32)), .val (.int (1 : Int32)), .val (.int (1 : Int32))] []))
          refine Goes.st (fun t k => XS.iconst X54.here hx rfl (hb hby at_235) k) ?_
          show Goes _ _ _ _ (T54.setTop (mkF m 236 #[.val (.int p0), .val (.int p1), .val (.int p2), .val (.ref b1), .val (.ref b9), .val (.ref b15), .val (.ref b23), .val (.int (1 : Int32)), .val (.int (0 : Int32)), .val (.ref b47), .val (.int (1 : Int32)), .val (.int (1 : Int32)), .val (.int (1 : Int32))] [(.int (1 : Int32))]))
          refine Goes.st (fun t k => XS.goto X54.here hx rfl (pc0 := 236) (pc' := 240) rfl (hb hby at_236) (by decide) (by decide) k) ?_
          show Goes _ _ _ _ (T54.setTop (mkF m 240 #[.val (.int p0), .val (.int p1), .val (.int p2), .val (.ref b1), .val (.ref b9), .val (.ref b15), .val (.ref b23), .val (.int (1 : Int32)), .val (.int (0 : Int32)), .val (.ref b47), .val (.int (1 : Int32)), .val (.int (1 : Int32)), .val (.int (1 : Int32))] [(.int (1 : Int32))]))
          obtain ⟨fs, hr, hrun, hended, hRW⟩ := X54.leaveW hS0 (by rw [K54]; exact (Nat.le_trans (Nat.le_trans (Nat.le_trans (Nat.le_trans (Nat.le_trans (Nat.le_trans (Nat.le_trans (Nat.le_trans (Nat.le_trans (Nat.le_trans (Nat.le_trans hk0 E1.1) (Nat.le_of_eq W4.size.symm)) (Nat.le_of_eq W7.size.symm)) E9.1) (Nat.le_of_eq W12.size.symm)) E15.1) K17.1) E23.1) K25.1) E47.1) K51.1)) (v := some (.int (1 : Int32))) (fun h => by rw [Bd.returns] at h; cases h)
          subst hQQ
          have hCR : CHr Z EL s.vm s.heap T54.vm T54.heap := by rw [hh, K54]; exact CR52.trans (CHv.at X54 hZ (own_EW hw) CR52.1)
          refine ⟨_, _, retN X54 hx (t := .boolean) Bd.returns (by simp) (hb hby at_240) hr, hrun, hended, _, _, rfl, ?_, hCR, own_REmono hRW (by decide) (by decide)⟩
          show Q_law Z p0 p1 p2 G1 h0 n0 _ T54.heap _
          rw [K54]
          exact ⟨rfl, N54⟩
        case neg =>
          refine Goes.st (fun t k => XS.ifNo X25.here hx rfl (hb hby at_115) rfl ((if0 _ _).trans (feq c46).1) k) ?_
          show Goes _ _ _ _ (T25.setTop (mkF m 118 #[.val (.int p0), .val (.int p1), .val (.int p2), .val (.ref b1), .val (.ref b9), .val (.ref b15), .val (.ref b23), .val (.int (1 : Int32)), .unset, .unset, .unset, .unset, .unset] []))
          refine Goes.st (fun t k => XS.iconst X25.here hx rfl (hb hby at_118) k) ?_
          show Goes _ _ _ _ (T25.setTop (mkF m 119 #[.val (.int p0), .val (.int p1), .val (.int p2), .val (.ref b1), .val (.ref b9), .val (.ref b15), .val (.ref b23), .val (.int (1 : Int32)), .unset, .unset, .unset, .unset, .unset] [(.int (1 : Int32))]))
          refine Goes.st (fun t k => XS.goto X25.here hx rfl (pc0 := 119) (pc' := 123) rfl (hb hby at_119) (by decide) (by decide) k) ?_
          show Goes _ _ _ _ (T25.setTop (mkF m 123 #[.val (.int p0), .val (.int p1), .val (.int p2), .val (.ref b1), .val (.ref b9), .val (.ref b15), .val (.ref b23), .val (.int (1 : Int32)), .unset, .unset, .unset, .unset, .unset] [(.int (1 : Int32))]))
          refine Goes.st (fun t k => XS.istore X25.here hx rfl (hb hby at_123) rfl (l' := #[.val (.int p0), .val (.int p1), .val (.int p2), .val (.ref b1), .val (.ref b9), .val (.ref b15), .val (.ref b23), .val (.int (1 : Int32)), .val (.int (1 : Int32)), .unset, .unset, .unset, .unset]) rfl k) ?_
          show Goes _ _ _ _ (T25.setTop (mkF m 125 #[.val (.int p0), .val (.int p1), .val (.int p2), .val (.ref b1), .val (.ref b9), .val (.ref b15), .val (.ref b23), .val (.int (1 : Int32)), .val (.int (1 : Int32)), .unset, .unset, .unset, .unset] []))
          obtain ⟨T55, h55, X55, e55, E55, A55, D55, -, st55⟩ := newO X25 hx hZ hown (hw30 hw) (hw31 hw) (hw32 hw) rfl (g := (mkF m 125 #[.val (.int p0), .val (.int p1), .val (.int p2), .val (.ref b1), .val (.ref b9), .val (.ref b15), .val (.ref b23), .val (.int (1 : Int32)), .val (.int (1 : Int32)), .unset, .unset, .unset, .unset] [])) rfl (hb hby at_125) (by decide) (by decide)
          obtain ⟨b55, g55⟩ : ∃ z, z = T25.heap.size := ⟨_, rfl⟩
          rw [← g55] at A55 D55 st55
          have CR56 : CHr Z EL s.vm h0 s.vm h55 := CR29.trans (CHr.ext E55 CR29.1)
          have F55_reason : Fld Z h55 b55 "com/example/tenon/tenon/registry/Validity" "reason" "Ljava/lang/String;" .null := D55 (Or.inl (hw43 hw)) (ty := (.object "java/lang/String")) (by decide)
          refine Goes.st st55 ?_
          show Goes _ _ _ _ (T55.setTop (mkF m 128 #[.val (.int p0), .val (.int p1), .val (.int p2), .val (.ref b1), .val (.ref b9), .val (.ref b15), .val (.ref b23), .val (.int (1 : Int32)), .val (.int (1 : Int32)), .unset, .unset, .unset, .unset] [(.ref b55)]))
          refine Goes.st (fun t k => XS.dup X55.here hx rfl (hb hby at_128) rfl rfl k) ?_
          show Goes _ _ _ _ (T55.setTop (mkF m 129 #[.val (.int p0), .val (.int p1), .val (.int p2), .val (.ref b1), .val (.ref b9), .val (.ref b15), .val (.ref b23), .val (.int (1 : Int32)), .val (.int (1 : Int32)), .unset, .unset, .unset, .unset] [(.ref b55), (.ref b55)]))
          obtain ⟨_, _, ⟨T57, L57, k57, n57⟩, -, X57, ⟨Lc57, hQ57, l57, y57, z57⟩, st57⟩ := X55.specialBack hx (y := (⟨"com/example/tenon/tenon/registry/Validity", "<init>", "()V"⟩ : MethodName)) rfl hown (mvT hZ (hw33 hw)) (mvT hZ (hw34 hw)) (mvT hZ (hw35 hw)) (by decide) (backOf (W := 1) (rm_vinit l Z a0 hw [] b55 h55 n0 (Nat.le_trans Z0 (Nat.le_trans (Nat.le_trans (Nat.le_trans (Nat.le_trans (Nat.le_trans (Nat.le_trans (Nat.le_trans (Nat.le_trans (Nat.le_trans E1.1 (Nat.le_of_eq W4.size.symm)) (Nat.le_of_eq W7.size.symm)) E9.1) (Nat.le_of_eq W12.size.symm)) E15.1) K17.1) E23.1) K25.1) E55.1)) ) hZ (hw35 hw) (hw32 hw) (by decide) (by decide)) (g := (mkF m 129 #[.val (.int p0), .val (.int p1), .val (.int p2), .val (.ref b1), .val (.ref b9), .val (.ref b15), .val (.ref b23), .val (.int (1 : Int32)), .val (.int (1 : Int32)), .unset, .unset, .unset, .unset] [(.ref b55), (.ref b55)])) rfl (by rw [hml]; rfl) (Steps.refl _) (a := b55) (argsL := []) (rest := [(.ref b55)]) (lenOf pd_2 rfl) rfl (by show 2 * 0 + _ ≤ _; exact Nat.le_of_eq rfl) (hb hby at_129) (fun _ _ => ⟨rfl, e55, (by decide : 7 + 0 ≤ _), (by decide : 15 + 0 ≤ _)⟩)
          dsimp only [Pt.U, Pt.locs, Pt.cells, Pt.slots] at X57 l57 y57 z57 st57 hQ57
          subst l57 y57 z57
          obtain ⟨rfl, N57q, K57⟩ := hQ57
          have N57 := Fr.app N25 N57q
          refine Goes.tr st57 ?_
          show Goes _ _ _ _ (T57.setTop (mkF m 132 #[.val (.int p0), .val (.int p1), .val (.int p2), .val (.ref b1), .val (.ref b9), .val (.ref b15), .val (.ref b23), .val (.int (1 : Int32)), .val (.int (1 : Int32)), .unset, .unset, .unset, .unset] [(.ref b55)]))
          refine Goes.st (fun t k => XS.astore X57.here hx rfl (hb hby at_132) rfl rfl (l' := #[.val (.int p0), .val (.int p1), .val (.int p2), .val (.ref b1), .val (.ref b9), .val (.ref b15), .val (.ref b23), .val (.int (1 : Int32)), .val (.int (1 : Int32)), .val (.ref b55), .unset, .unset, .unset]) rfl k) ?_
          show Goes _ _ _ _ (T57.setTop (mkF m 134 #[.val (.int p0), .val (.int p1), .val (.int p2), .val (.ref b1), .val (.ref b9), .val (.ref b15), .val (.ref b23), .val (.int (1 : Int32)), .val (.int (1 : Int32)), .val (.ref b55), .unset, .unset, .unset] []))
          refine Goes.st (fun t k => XS.aload X57.here hx rfl (hb hby at_134) rfl rfl k) ?_
          show Goes _ _ _ _ (T57.setTop (mkF m 136 #[.val (.int p0), .val (.int p1), .val (.int p2), .val (.ref b1), .val (.ref b9), .val (.ref b15), .val (.ref b23), .val (.int (1 : Int32)), .val (.int (1 : Int32)), .val (.ref b55), .unset, .unset, .unset] [(.ref b55)]))
          obtain ⟨cq58, kq58, q58a, q58b, q58c⟩ := isOf hZ K57 A55
          obtain ⟨_, _, ⟨T58, L58, k58, n58⟩, -, X58, ⟨Lc58, hQ58, l58, y58, z58⟩, st58⟩ := X57.virtualBack hx (y := (⟨"com/example/tenon/tenon/registry/Validity", "isValid", "()Z"⟩ : MethodName)) (z := (⟨"com/example/tenon/tenon/registry/Validity", "isValid", "()Z"⟩ : MethodName)) hown (mvT hZ (hw37 hw)) (mvT hZ (hw38 hw)) (notFace_of_selects (args := #[]) (mvT hZ (hw40 hw))) (mvT hZ (hw40 hw)) (mvT hZ (hw39 hw)) (by decide) (backOf (W := 0) (rm_ivN l Z a0 hw [] b55 h55 n0 (Nat.le_trans Z0 (Nat.le_trans (Nat.le_trans (Nat.le_trans (Nat.le_trans (Nat.le_trans (Nat.le_trans (Nat.le_trans (Nat.le_trans (Nat.le_trans E1.1 (Nat.le_of_eq W4.size.symm)) (Nat.le_of_eq W7.size.symm)) E9.1) (Nat.le_of_eq W12.size.symm)) E15.1) K17.1) E23.1) K25.1) E55.1)) F55_reason) hZ (hw41 hw) (hw32 hw) (by decide) (by decide)) q58a q58c (g := (mkF m 136 #[.val (.int p0), .val (.int p1), .val (.int p2), .val (.ref b1), .val (.ref b9), .val (.ref b15), .val (.ref b23), .val (.int (1 : Int32)), .val (.int (1 : Int32)), .val (.ref b55), .unset, .unset, .unset] [(.ref b55)])) rfl (by rw [hml]; rfl) (Steps.refl _) (argsL := []) (rest := []) (lenOf pd_3 rfl) rfl (by show 2 * 0 + _ ≤ _; exact Nat.le_of_eq rfl) (hb hby at_136) (fun _ _ => ⟨rfl, K57, (by decide : 7 + 0 ≤ _), (by decide : 15 + 0 ≤ _)⟩)
          dsimp only [Pt.U, Pt.locs, Pt.cells, Pt.slots] at X58 l58 y58 z58 st58 hQ58
          subst l58 y58 z58
          obtain ⟨rfl, N58q, K58⟩ := hQ58
          have N58 := Fr.app N57 N58q
          refine Goes.tr st58 ?_
          show Goes _ _ _ _ (T58.setTop (mkF m 139 #[.val (.int p0), .val (.int p1), .val (.int p2), .val (.ref b1), .val (.ref b9), .val (.ref b15), .val (.ref b23), .val (.int (1 : Int32)), .val (.int (1 : Int32)), .val (.ref b55), .unset, .unset, .unset] [(.int (1 : Int32))]))
          refine Goes.st (fun t k => XS.istore X58.here hx rfl (hb hby at_139) rfl (l' := #[.val (.int p0), .val (.int p1), .val (.int p2), .val (.ref b1), .val (.ref b9), .val (.ref b15), .val (.ref b23), .val (.int (1 : Int32)), .val (.int (1 : Int32)), .val (.ref b55), .val (.int (1 : Int32)), .unset, .unset]) rfl k) ?_
          show Goes _ _ _ _ (T58.setTop (mkF m 141 #[.val (.int p0), .val (.int p1), .val (.int p2), .val (.ref b1), .val (.ref b9), .val (.ref b15), .val (.ref b23), .val (.int (1 : Int32)), .val (.int (1 : Int32)), .val (.ref b55), .val (.int (1 : Int32)), .unset, .unset] []))
          refine Goes.st (fun t k => XS.iload X58.here hx rfl (hb hby at_141) rfl k) ?_
          show Goes _ _ _ _ (T58.setTop (mkF m 143 #[.val (.int p0), .val (.int p1), .val (.int p2), .val (.ref b1), .val (.ref b9), .val (.ref b15), .val (.ref b23), .val (.int (1 : Int32)), .val (.int (1 : Int32)), .val (.ref b55), .val (.int (1 : Int32)), .unset, .unset] [(.int (1 : Int32))]))
          refine Goes.st (fun t k => XS.ifNo X58.here hx rfl (hb hby at_143) rfl ((if0 _ _).trans (feq (by decide : ¬ ((1 : Int32) = (0 : Int32)))).1) k) ?_
          show Goes _ _ _ _ (T58.setTop (mkF m 146 #[.val (.int p0), .val (.int p1), .val (.int p2), .val (.ref b1), .val (.ref b9), .val (.ref b15), .val (.ref b23), .val (.int (1 : Int32)), .val (.int (1 : Int32)), .val (.ref b55), .val (.int (1 : Int32)), .unset, .unset] []))
          refine Goes.st (fun t k => XS.aload X58.here hx rfl (hb hby at_146) rfl rfl k) ?_
          show Goes _ _ _ _ (T58.setTop (mkF m 148 #[.val (.int p0), .val (.int p1), .val (.int p2), .val (.ref b1), .val (.ref b9), .val (.ref b15), .val (.ref b23), .val (.int (1 : Int32)), .val (.int (1 : Int32)), .val (.ref b55), .val (.int (1 : Int32)), .unset, .unset] [(.ref b55)]))
          refine Goes.st (fun t k => XS.aload X58.here hx rfl (hb hby at_148) rfl rfl k) ?_
          show Goes _ _ _ _ (T58.setTop (mkF m 150 #[.val (.int p0), .val (.int p1), .val (.int p2), .val (.ref b1), .val (.ref b9), .val (.ref b15), .val (.ref b23), .val (.int (1 : Int32)), .val (.int (1 : Int32)), .val (.ref b55), .val (.int (1 : Int32)), .unset, .unset] [(.ref b15), (.ref b55)]))
          obtain ⟨cq59, kq59, q59a, q59b, q59c⟩ := isOf hZ K58 A55
          obtain ⟨_, _, ⟨T59, L59, k59, n59⟩, -, X59, ⟨Lc59, hQ59, l59, y59, z59⟩, st59⟩ := X58.virtualBack hx (y := (⟨"com/example/tenon/tenon/registry/Validity", "invalidate", "(Ljava/lang/String;)V"⟩ : MethodName)) (z := (⟨"com/example/tenon/tenon/registry/Validity", "invalidate", "(Ljava/lang/String;)V"⟩ : MethodName)) hown (mvT hZ (hw44 hw)) (mvT hZ (hw45 hw)) (notFace_of_selects (args := #[]) (mvT hZ (hw47 hw))) (mvT hZ (hw47 hw)) (mvT hZ (hw46 hw)) (by decide) (backOf (W := 0) (rm_inv l Z a0 hw [] b55 b15 (Value.null) h55 n0 (Nat.le_trans Z0 (Nat.le_trans (Nat.le_trans (Nat.le_trans (Nat.le_trans (Nat.le_trans (Nat.le_trans (Nat.le_trans (Nat.le_trans (Nat.le_trans E1.1 (Nat.le_of_eq W4.size.symm)) (Nat.le_of_eq W7.size.symm)) E9.1) (Nat.le_of_eq W12.size.symm)) E15.1) K17.1) E23.1) K25.1) E55.1)) A55 F55_reason (Nat.le_trans Z0 (Nat.le_trans (Nat.le_trans (Nat.le_trans (Nat.le_trans (Nat.le_trans (Nat.le_trans (Nat.le_trans (Nat.le_trans (Nat.le_trans E1.1 (Nat.le_of_eq W4.size.symm)) (Nat.le_of_eq W7.size.symm)) E9.1) (Nat.le_of_eq W12.size.symm)) E15.1) K17.1) E23.1) K25.1) (Nat.le_of_eq g55.symm)))) hZ (hw48 hw) (hw32 hw) (by decide) (by decide)) q59a q59c (g := (mkF m 150 #[.val (.int p0), .val (.int p1), .val (.int p2), .val (.ref b1), .val (.ref b9), .val (.ref b15), .val (.ref b23), .val (.int (1 : Int32)), .val (.int (1 : Int32)), .val (.ref b55), .val (.int (1 : Int32)), .unset, .unset] [(.ref b15), (.ref b55)])) rfl (by rw [hml]; rfl) (Steps.refl _) (argsL := [(.ref b15)]) (rest := []) (lenOf pd_4 rfl) rfl (by show 2 * 0 + _ ≤ _; exact Nat.le_of_eq rfl) (hb hby at_150) (fun _ _ => ⟨rfl, K58, (by decide : 7 + 0 ≤ _), (by decide : 15 + 0 ≤ _)⟩)
          dsimp only [Pt.U, Pt.locs, Pt.cells, Pt.slots] at X59 l59 y59 z59 st59 hQ59
          subst l59 y59 z59
          obtain ⟨rfl, N59q, K59, F59_0, F59_1⟩ := hQ59
          have N59 := Fr.app N58 N59q
          have hs60 : ∀ x ∈ ([b55] : List Addr), Safe Z EL s.vm h55 x := (allS (Safe.exa hZ.alike A55 (by decide) (by decide)) all0)
          have CR60 : CHr Z EL s.vm h0 s.vm T59.heap := CR56.trans (CHr.keep K59 hs60 CR56.1)
          refine Goes.tr st59 ?_
          show Goes _ _ _ _ (T59.setTop (mkF m 153 #[.val (.int p0), .val (.int p1), .val (.int p2), .val (.ref b1), .val (.ref b9), .val (.ref b15), .val (.ref b23), .val (.int (1 : Int32)), .val (.int (1 : Int32)), .val (.ref b55), .val (.int (1 : Int32)), .unset, .unset] []))
          refine Goes.st (fun t k => XS.aload X59.here hx rfl (hb hby at_153) rfl rfl k) ?_
          show Goes _ _ _ _ (T59.setTop (mkF m 155 #[.val (.int p0), .val (.int p1), .val (.int p2), .val (.ref b1), .val (.ref b9), .val (.ref b15), .val (.ref b23), .val (.int (1 : Int32)), .val (.int (1 : Int32)), .val (.ref b55), .val (.int (1 : Int32)), .unset, .unset] [(.ref b55)]))
          obtain ⟨cq61, kq61, q61a, q61b, q61c⟩ := isOf hZ rfl F59_0
          obtain ⟨_, _, ⟨T61, L61, k61, n61⟩, -, X61, ⟨Lc61, hQ61, l61, y61, z61⟩, st61⟩ := X59.virtualBack hx (y := (⟨"com/example/tenon/tenon/registry/Validity", "isValid", "()Z"⟩ : MethodName)) (z := (⟨"com/example/tenon/tenon/registry/Validity", "isValid", "()Z"⟩ : MethodName)) hown (mvT hZ (hw37 hw)) (mvT hZ (hw38 hw)) (notFace_of_selects (args := #[]) (mvT hZ (hw40 hw))) (mvT hZ (hw40 hw)) (mvT hZ (hw39 hw)) (by decide) (backOf (W := 0) (rm_ivR l Z a0 hw [] b55 b15 T59.heap n0 (Nat.le_trans Z0 (Nat.le_trans (Nat.le_trans (Nat.le_trans (Nat.le_trans (Nat.le_trans (Nat.le_trans (Nat.le_trans (Nat.le_trans (Nat.le_trans (Nat.le_trans E1.1 (Nat.le_of_eq W4.size.symm)) (Nat.le_of_eq W7.size.symm)) E9.1) (Nat.le_of_eq W12.size.symm)) E15.1) K17.1) E23.1) K25.1) E55.1) K59.1)) F59_1) hZ (hw41 hw) (hw32 hw) (by decide) (by decide)) q61a q61c (g := (mkF m 155 #[.val (.int p0), .val (.int p1), .val (.int p2), .val (.ref b1), .val (.ref b9), .val (.ref b15), .val (.ref b23), .val (.int (1 : Int32)), .val (.int (1 : Int32)), .val (.ref b55), .val (.int (1 : Int32)), .unset, .unset] [(.ref b55)])) rfl (by rw [hml]; rfl) (Steps.refl _) (argsL := []) (rest := []) (lenOf pd_3 rfl) rfl (by show 2 * 0 + _ ≤ _; exact Nat.le_of_eq rfl) (hb hby at_155) (fun _ _ => ⟨rfl, rfl, (by decide : 7 + 0 ≤ _), (by decide : 15 + 0 ≤ _)⟩)
          dsimp only [Pt.U, Pt.locs, Pt.cells, Pt.slots] at X61 l61 y61 z61 st61 hQ61
          subst l61 y61 z61
          obtain ⟨rfl, N61q, K61⟩ := hQ61
          have N61 := Fr.app N59 N61q
          refine Goes.tr st61 ?_
          show Goes _ _ _ _ (T61.setTop (mkF m 158 #[.val (.int p0), .val (.int p1), .val (.int p2), .val (.ref b1), .val (.ref b9), .val (.ref b15), .val (.ref b23), .val (.int (1 : Int32)), .val (.int (1 : Int32)), .val (.ref b55), .val (.int (1 : Int32)), .unset, .unset] [(.int (0 : Int32))]))
          refine Goes.st (fun t k => XS.iload X61.here hx rfl (hb hby at_158) rfl k) ?_
          show Goes _ _ _ _ (T61.setTop (mkF m 160 #[.val (.int p0), .val (.int p1), .val (.int p2), .val (.ref b1), .val (.ref b9), .val (.ref b15), .val (.ref b23), .val (.int (1 : Int32)), .val (.int (1 : Int32)), .val (.ref b55), .val (.int (1 : Int32)), .unset, .unset] [(.int (1 : Int32)), (.int (0 : Int32))]))
          refine Goes.st (fun t k => XS.ifYes X61.here hx rfl (pc0 := 160) (pc' := 167) rfl (hb hby at_160) rfl ((if0 _ _).trans (feq (by decide : ¬ ((1 : Int32) = (0 : Int32)))).2) (by decide) (by decide) k) ?_
          show Goes _ _ _ _ (T61.setTop (mkF m 167 #[.val (.int p0), .val (.int p1), .val (.int p2), .val (.ref b1), .val (.ref b9), .val (.ref b15), .val (.ref b23), .val (.int (1 : Int32)), .val (.int (1 : Int32)), .val (.ref b55), .val (.int (1 : Int32)), .unset, .unset] [(.int (0 : Int32))]))
          refine Goes.st (fun t k => XS.iconst X61.here hx rfl (hb hby at_167) k) ?_
          show Goes _ _ _ _ (T61.setTop (mkF m 168 #[.val (.int p0), .val (.int p1), .val (.int p2), .val (.ref b1), .val (.ref b9), .val (.ref b15), .val (.ref b23), .val (.int (1 : Int32)), .val (.int (1 : Int32)), .val (.ref b55), .val (.int (1 : Int32)), .unset, .unset] [(.int (0 : Int32)), (.int (0 : Int32))]))
          refine Goes.st (fun t k => XS.icmpNo X61.here hx rfl (hb hby at_168) rfl (teq (by decide : (0 : Int32) = (0 : Int32))).2 k) ?_
          show Goes _ _ _ _ (T61.setTop (mkF m 171 #[.val (.int p0), .val (.int p1), .val (.int p2), .val (.ref b1), .val (.ref b9), .val (.ref b15), .val (.ref b23), .val (.int (1 : Int32)), .val (.int (1 : Int32)), .val (.ref b55), .val (.int (1 : Int32)), .unset, .unset] []))
          refine Goes.st (fun t k => XS.iconst X61.here hx rfl (hb hby at_171) k) ?_
          show Goes _ _ _ _ (T61.setTop (mkF m 172 #[.val (.int p0), .val (.int p1), .val (.int p2), .val (.ref b1), .val (.ref b9), .val (.ref b15), .val (.ref b23), .val (.int (1 : Int32)), .val (.int (1 : Int32)), .val (.ref b55), .val (.int (1 : Int32)), .unset, .unset] [(.int (1 : Int32))]))
          refine Goes.st (fun t k => XS.goto X61.here hx rfl (pc0 := 172) (pc' := 176) rfl (hb hby at_172) (by decide) (by decide) k) ?_
          show Goes _ _ _ _ (T61.setTop (mkF m 176 #[.val (.int p0), .val (.int p1), .val (.int p2), .val (.ref b1), .val (.ref b9), .val (.ref b15), .val (.ref b23), .val (.int (1 : Int32)), .val (.int (1 : Int32)), .val (.ref b55), .val (.int (1 : Int32)), .unset, .unset] [(.int (1 : Int32))]))
          refine Goes.st (fun t k => XS.istore X61.here hx rfl (hb hby at_176) rfl (l' := #[.val (.int p0), .val (.int p1), .val (.int p2), .val (.ref b1), .val (.ref b9), .val (.ref b15), .val (.ref b23), .val (.int (1 : Int32)), .val (.int (1 : Int32)), .val (.ref b55), .val (.int (1 : Int32)), .val (.int (1 : Int32)), .unset]) rfl k) ?_
          show Goes _ _ _ _ (T61.setTop (mkF m 178 #[.val (.int p0), .val (.int p1), .val (.int p2), .val (.ref b1), .val (.ref b9), .val (.ref b15), .val (.ref b23), .val (.int (1 : Int32)), .val (.int (1 : Int32)), .val (.ref b55), .val (.int (1 : Int32)), .val (.int (1 : Int32)), .unset] []))
          refine Goes.st (fun t k => XS.iload X61.here hx rfl (hb hby at_178) rfl k) ?_
          show Goes _ _ _ _ (T61.setTop (mkF m 180 #[.val (.int p0), .val (.int p1), .val (.int p2), .val (.ref b1), .val (.ref b9), .val (.ref b15), .val (.ref b23), .val (.int (1 : Int32)), .val (.int (1 : Int32)), .val (.ref b55), .val (.int (1 : Int32)), .val (.int (1 : Int32)), .unset] [(.int (1 : Int32))]))
          refine Goes.st (fun t k => XS.ifNo X61.here hx rfl (hb hby at_180) rfl ((if0 _ _).trans (feq (by decide : ¬ ((1 : Int32) = (0 : Int32)))).1) k) ?_
          show Goes _ _ _ _ (T61.setTop (mkF m 183 #[.val (.int p0), .val (.int p1), .val (.int p2), .val (.ref b1), .val (.ref b9), .val (.ref b15), .val (.ref b23), .val (.int (1 : Int32)), .val (.int (1 : Int32)), .val (.ref b55), .val (.int (1 : Int32)), .val (.int (1 : Int32)), .unset] []))
          refine Goes.st (fun t k => XS.aload X61.here hx rfl (hb hby at_183) rfl rfl k) ?_
          show Goes _ _ _ _ (T61.setTop (mkF m 185 #[.val (.int p0), .val (.int p1), .val (.int p2), .val (.ref b1), .val (.ref b9), .val (.ref b15), .val (.ref b23), .val (.int (1 : Int32)), .val (.int (1 : Int32)), .val (.ref b55), .val (.int (1 : Int32)), .val (.int (1 : Int32)), .unset] [(.ref b55)]))
          refine Goes.st (fun t k => XS.aload X61.here hx rfl (hb hby at_185) rfl rfl k) ?_
          show Goes _ _ _ _ (T61.setTop (mkF m 187 #[.val (.int p0), .val (.int p1), .val (.int p2), .val (.ref b1), .val (.ref b9), .val (.ref b15), .val (.ref b23), .val (.int (1 : Int32)), .val (.int (1 : Int32)), .val (.ref b55), .val (.int (1 : Int32)), .val (.int (1 : Int32)), .unset] [(.ref b23), (.ref b55)]))
          obtain ⟨cq62, kq62, q62a, q62b, q62c⟩ := isOf hZ K61 F59_0
          obtain ⟨_, _, ⟨T62, L62, k62, n62⟩, -, X62, ⟨Lc62, hQ62, l62, y62, z62⟩, st62⟩ := X61.virtualBack hx (y := (⟨"com/example/tenon/tenon/registry/Validity", "invalidate", "(Ljava/lang/String;)V"⟩ : MethodName)) (z := (⟨"com/example/tenon/tenon/registry/Validity", "invalidate", "(Ljava/lang/String;)V"⟩ : MethodName)) hown (mvT hZ (hw44 hw)) (mvT hZ (hw45 hw)) (notFace_of_selects (args := #[]) (mvT hZ (hw47 hw))) (mvT hZ (hw47 hw)) (mvT hZ (hw46 hw)) (by decide) (backOf (W := 0) (rm_inv l Z a0 hw [] b55 b23 (Value.ref b15) T59.heap n0 (Nat.le_trans Z0 (Nat.le_trans (Nat.le_trans (Nat.le_trans (Nat.le_trans (Nat.le_trans (Nat.le_trans (Nat.le_trans (Nat.le_trans (Nat.le_trans (Nat.le_trans E1.1 (Nat.le_of_eq W4.size.symm)) (Nat.le_of_eq W7.size.symm)) E9.1) (Nat.le_of_eq W12.size.symm)) E15.1) K17.1) E23.1) K25.1) E55.1) K59.1)) F59_0 F59_1 (Nat.le_trans Z0 (Nat.le_trans (Nat.le_trans (Nat.le_trans (Nat.le_trans (Nat.le_trans (Nat.le_trans (Nat.le_trans (Nat.le_trans (Nat.le_trans E1.1 (Nat.le_of_eq W4.size.symm)) (Nat.le_of_eq W7.size.symm)) E9.1) (Nat.le_of_eq W12.size.symm)) E15.1) K17.1) E23.1) K25.1) (Nat.le_of_eq g55.symm)))) hZ (hw48 hw) (hw32 hw) (by decide) (by decide)) q62a q62c (g := (mkF m 187 #[.val (.int p0), .val (.int p1), .val (.int p2), .val (.ref b1), .val (.ref b9), .val (.ref b15), .val (.ref b23), .val (.int (1 : Int32)), .val (.int (1 : Int32)), .val (.ref b55), .val (.int (1 : Int32)), .val (.int (1 : Int32)), .unset] [(.ref b23), (.ref b55)])) rfl (by rw [hml]; rfl) (Steps.refl _) (argsL := [(.ref b23)]) (rest := []) (lenOf pd_4 rfl) rfl (by show 2 * 0 + _ ≤ _; exact Nat.le_of_eq rfl) (hb hby at_187) (fun _ _ => ⟨rfl, K61, (by decide : 7 + 0 ≤ _), (by decide : 15 + 0 ≤ _)⟩)
          dsimp only [Pt.U, Pt.locs, Pt.cells, Pt.slots] at X62 l62 y62 z62 st62 hQ62
          subst l62 y62 z62
          obtain ⟨rfl, N62q, K62, F62_0, F62_1⟩ := hQ62
          have N62 := Fr.app N61 N62q
          have hs63 : ∀ x ∈ ([b55] : List Addr), Safe Z EL s.vm T59.heap x := (allS (Safe.exa hZ.alike F59_0 (by decide) (by decide)) all0)
          have CR63 : CHr Z EL s.vm h0 s.vm T62.heap := CR60.trans (CHr.keep K62 hs63 CR60.1)
          refine Goes.tr st62 ?_
          show Goes _ _ _ _ (T62.setTop (mkF m 190 #[.val (.int p0), .val (.int p1), .val (.int p2), .val (.ref b1), .val (.ref b9), .val (.ref b15), .val (.ref b23), .val (.int (1 : Int32)), .val (.int (1 : Int32)), .val (.ref b55), .val (.int (1 : Int32)), .val (.int (1 : Int32)), .unset] []))
          refine Goes.st (fun t k => XS.aload X62.here hx rfl (hb hby at_190) rfl rfl k) ?_
          show Goes _ _ _ _ (T62.setTop (mkF m 192 #[.val (.int p0), .val (.int p1), .val (.int p2), .val (.ref b1), .val (.ref b9), .val (.ref b15), .val (.ref b23), .val (.int (1 : Int32)), .val (.int (1 : Int32)), .val (.ref b55), .val (.int (1 : Int32)), .val (.int (1 : Int32)), .unset] [(.ref b55)]))
          obtain ⟨cq64, kq64, q64a, q64b, q64c⟩ := isOf hZ rfl F62_0
          obtain ⟨_, _, ⟨T64, L64, k64, n64⟩, -, X64, ⟨Lc64, hQ64, l64, y64, z64⟩, st64⟩ := X62.virtualBack hx (y := (⟨"com/example/tenon/tenon/registry/Validity", "isValid", "()Z"⟩ : MethodName)) (z := (⟨"com/example/tenon/tenon/registry/Validity", "isValid", "()Z"⟩ : MethodName)) hown (mvT hZ (hw37 hw)) (mvT hZ (hw38 hw)) (notFace_of_selects (args := #[]) (mvT hZ (hw40 hw))) (mvT hZ (hw40 hw)) (mvT hZ (hw39 hw)) (by decide) (backOf (W := 0) (rm_ivR l Z a0 hw [] b55 b23 T62.heap n0 (Nat.le_trans Z0 (Nat.le_trans (Nat.le_trans (Nat.le_trans (Nat.le_trans (Nat.le_trans (Nat.le_trans (Nat.le_trans (Nat.le_trans (Nat.le_trans (Nat.le_trans (Nat.le_trans E1.1 (Nat.le_of_eq W4.size.symm)) (Nat.le_of_eq W7.size.symm)) E9.1) (Nat.le_of_eq W12.size.symm)) E15.1) K17.1) E23.1) K25.1) E55.1) K59.1) K62.1)) F62_1) hZ (hw41 hw) (hw32 hw) (by decide) (by decide)) q64a q64c (g := (mkF m 192 #[.val (.int p0), .val (.int p1), .val (.int p2), .val (.ref b1), .val (.ref b9), .val (.ref b15), .val (.ref b23), .val (.int (1 : Int32)), .val (.int (1 : Int32)), .val (.ref b55), .val (.int (1 : Int32)), .val (.int (1 : Int32)), .unset] [(.ref b55)])) rfl (by rw [hml]; rfl) (Steps.refl _) (argsL := []) (rest := []) (lenOf pd_3 rfl) rfl (by show 2 * 0 + _ ≤ _; exact Nat.le_of_eq rfl) (hb hby at_192) (fun _ _ => ⟨rfl, rfl, (by decide : 7 + 0 ≤ _), (by decide : 15 + 0 ≤ _)⟩)
          dsimp only [Pt.U, Pt.locs, Pt.cells, Pt.slots] at X64 l64 y64 z64 st64 hQ64
          subst l64 y64 z64
          obtain ⟨rfl, N64q, K64⟩ := hQ64
          have N64 := Fr.app N62 N64q
          refine Goes.tr st64 ?_
          show Goes _ _ _ _ (T64.setTop (mkF m 195 #[.val (.int p0), .val (.int p1), .val (.int p2), .val (.ref b1), .val (.ref b9), .val (.ref b15), .val (.ref b23), .val (.int (1 : Int32)), .val (.int (1 : Int32)), .val (.ref b55), .val (.int (1 : Int32)), .val (.int (1 : Int32)), .unset] [(.int (0 : Int32))]))
          refine Goes.st (fun t k => XS.iload X64.here hx rfl (hb hby at_195) rfl k) ?_
          show Goes _ _ _ _ (T64.setTop (mkF m 197 #[.val (.int p0), .val (.int p1), .val (.int p2), .val (.ref b1), .val (.ref b9), .val (.ref b15), .val (.ref b23), .val (.int (1 : Int32)), .val (.int (1 : Int32)), .val (.ref b55), .val (.int (1 : Int32)), .val (.int (1 : Int32)), .unset] [(.int (1 : Int32)), (.int (0 : Int32))]))
          refine Goes.st (fun t k => XS.ifYes X64.here hx rfl (pc0 := 197) (pc' := 209) rfl (hb hby at_197) rfl ((if0 _ _).trans (feq (by decide : ¬ ((1 : Int32) = (0 : Int32)))).2) (by decide) (by decide) k) ?_
          show Goes _ _ _ _ (T64.setTop (mkF m 209 #[.val (.int p0), .val (.int p1), .val (.int p2), .val (.ref b1), .val (.ref b9), .val (.ref b15), .val (.ref b23), .val (.int (1 : Int32)), .val (.int (1 : Int32)), .val (.ref b55), .val (.int (1 : Int32)), .val (.int (1 : Int32)), .unset] [(.int (0 : Int32))]))
          refine Goes.st (fun t k => XS.iconst X64.here hx rfl (hb hby at_209) k) ?_
          show Goes _ _ _ _ (T64.setTop (mkF m 210 #[.val (.int p0), .val (.int p1), .val (.int p2), .val (.ref b1), .val (.ref b9), .val (.ref b15), .val (.ref b23), .val (.int (1 : Int32)), .val (.int (1 : Int32)), .val (.ref b55), .val (.int (1 : Int32)), .val (.int (1 : Int32)), .unset] [(.int (0 : Int32)), (.int (0 : Int32))]))
          refine Goes.st (fun t k => XS.icmpNo X64.here hx rfl (hb hby at_210) rfl (teq (by decide : (0 : Int32) = (0 : Int32))).2 k) ?_
          show Goes _ _ _ _ (T64.setTop (mkF m 213 #[.val (.int p0), .val (.int p1), .val (.int p2), .val (.ref b1), .val (.ref b9), .val (.ref b15), .val (.ref b23), .val (.int (1 : Int32)), .val (.int (1 : Int32)), .val (.ref b55), .val (.int (1 : Int32)), .val (.int (1 : Int32)), .unset] []))
          refine Goes.st (fun t k => XS.iconst X64.here hx rfl (hb hby at_213) k) ?_
          show Goes _ _ _ _ (T64.setTop (mkF m 214 #[.val (.int p0), .val (.int p1), .val (.int p2), .val (.ref b1), .val (.ref b9), .val (.ref b15), .val (.ref b23), .val (.int (1 : Int32)), .val (.int (1 : Int32)), .val (.ref b55), .val (.int (1 : Int32)), .val (.int (1 : Int32)), .unset] [(.int (1 : Int32))]))
          refine Goes.st (fun t k => XS.goto X64.here hx rfl (pc0 := 214) (pc' := 218) rfl (hb hby at_214) (by decide) (by decide) k) ?_
          show Goes _ _ _ _ (T64.setTop (mkF m 218 #[.val (.int p0), .val (.int p1), .val (.int p2), .val (.ref b1), .val (.ref b9), .val (.ref b15), .val (.ref b23), .val (.int (1 : Int32)), .val (.int (1 : Int32)), .val (.ref b55), .val (.int (1 : Int32)), .val (.int (1 : Int32)), .unset] [(.int (1 : Int32))]))
          refine Goes.st (fun t k => XS.istore X64.here hx rfl (hb hby at_218) rfl (l' := #[.val (.int p0), .val (.int p1), .val (.int p2), .val (.ref b1), .val (.ref b9), .val (.ref b15), .val (.ref b23), .val (.int (1 : Int32)), .val (.int (1 : Int32)), .val (.ref b55), .val (.int (1 : Int32)), .val (.int (1 : Int32)), .val (.int (1 : Int32))]) rfl k) ?_
          show Goes _ _ _ _ (T64.setTop (mkF m 220 #[.val (.int p0), .val (.int p1), .val (.int p2), .val (.ref b1), .val (.ref b9), .val (.ref b15), .val (.ref b23), .val (.int (1 : Int32)), .val (.int (1 : Int32)), .val (.ref b55), .val (.int (1 : Int32)), .val (.int (1 : Int32)), .val (.int (1 : Int32))] []))
          refine Goes.st (fun t k => XS.iload X64.here hx rfl (hb hby at_220) rfl k) ?_
          show Goes _ _ _ _ (T64.setTop (mkF m 222 #[.val (.int p0), .val (.int p1), .val (.int p2), .val (.ref b1), .val (.ref b9), .val (.ref b15), .val (.ref b23), .val (.int (1 : Int32)), .val (.int (1 : Int32)), .val (.ref b55), .val (.int (1 : Int32)), .val (.int (1 : Int32)), .val (.int (1 : Int32))] [(.int (1 : Int32))]))
          refine Goes.st (fun t k => XS.ifNo X64.here hx rfl (hb hby at_222) rfl ((if0 _ _).trans (feq (by decide : ¬ ((1 : Int32) = (0 : Int32)))).1) k) ?_
          show Goes _ _ _ _ (T64.setTop (mkF m 225 #[.val (.int p0), .val (.int p1), .val (.int p2), .val (.ref b1), .val (.ref b9), .val (.ref b15), .val (.ref b23), .val (.int (1 : Int32)), .val (.int (1 : Int32)), .val (.ref b55), .val (.int (1 : Int32)), .val (.int (1 : Int32)), .val (.int (1 : Int32))] []))
          refine Goes.st (fun t k => XS.iload X64.here hx rfl (hb hby at_225) rfl k) ?_
          show Goes _ _ _ _ (T64.setTop (mkF m 227 #[.val (.int p0), .val (.int p1), .val (.int p2), .val (.ref b1), .val (.ref b9), .val (.ref b15), .val (.ref b23), .val (.int (1 : Int32)), .val (.int (1 : Int32)), .val (.ref b55), .val (.int (1 : Int32)), .val (.int (1 : Int32)), .val (.int (1 : Int32))] [(.int (1 : Int32))]))
          refine Goes.st (fun t k => XS.ifNo X64.here hx rfl (hb hby at_227) rfl ((if0 _ _).trans (feq (by decide : ¬ ((1 : Int32) = (0 : Int32)))).1) k) ?_
          show Goes _ _ _ _ (T64.setTop (mkF m 230 #[.val (.int p0), .val (.int p1), .val (.int p2), .val (.ref b1), .val (.ref b9), .val (.ref b15), .val (.ref b23), .val (.int (1 : Int32)), .val (.int (1 : Int32)), .val (.ref b55), .val (.int (1 : Int32)), .val (.int (1 : Int32)), .val (.int (1 : Int32))] []))
          refine Goes.st (fun t k => XS.iload X64.here hx rfl (hb hby at_230) rfl k) ?_
          show Goes _ _ _ _ (T64.setTop (mkF m 232 #[.val (.int p0), .val (.int p1), .val (.int p2), .val (.ref b1), .val (.ref b9), .val (.ref b15), .val (.ref b23), .val (.int (1 : Int32)), .val (.int (1 : Int32)), .val (.ref b55), .val (.int (1 : Int32)), .val (.int (1 : Int32)), .val (.int (1 : Int32))] [(.int (1 : Int32))]))
          refine Goes.st (fun t k => XS.ifNo X64.here hx rfl (hb hby at_232) rfl ((if0 _ _).trans (feq (by decide : ¬ ((1 : Int32) = (0 : Int32)))).1) k) ?_
          show Goes _ _ _ _ (T64.setTop (mkF m 235 #[.val (.int p0), .val (.int p1), .val (.int p2), .val (.ref b1), .val (.ref b9), .val (.ref b15), .val (.ref b23), .val (.int (1 : Int32)), .val (.int (1 : Int32)), .val (.ref b55), .val (.int (1 : Int32)), .val (.int (1 : Int32)), .val (.int (1 : Int32))] []))
          refine Goes.st (fun t k => XS.iconst X64.here hx rfl (hb hby at_235) k) ?_
          show Goes _ _ _ _ (T64.setTop (mkF m 236 #[.val (.int p0), .val (.int p1), .val (.int p2), .val (.ref b1), .val (.ref b9), .val (.ref b15), .val (.ref b23), .val (.int (1 : Int32)), .val (.int (1 : Int32)), .val (.ref b55), .val (.int (1 : Int32)), .val (.int (1 : Int32)), .val (.int (1 : Int32))] [(.int (1 : Int32))]))
          refine Goes.st (fun t k => XS.goto X64.here hx rfl (pc0 := 236) (pc' := 240) rfl (hb hby at_236) (by decide) (by decide) k) ?_
          show Goes _ _ _ _ (T64.setTop (mkF m 240 #[.val (.int p0), .val (.int p1), .val (.int p2), .val (.ref b1), .val (.ref b9), .val (.ref b15), .val (.ref b23), .val (.int (1 : Int32)), .val (.int (1 : Int32)), .val (.ref b55), .val (.int (1 : Int32)), .val (.int (1 : Int32)), .val (.int (1 : Int32))] [(.int (1 : Int32))]))
          obtain ⟨fs, hr, hrun, hended, hRW⟩ := X64.leaveW hS0 (by rw [K64]; exact (Nat.le_trans (Nat.le_trans (Nat.le_trans (Nat.le_trans (Nat.le_trans (Nat.le_trans (Nat.le_trans (Nat.le_trans (Nat.le_trans (Nat.le_trans (Nat.le_trans (Nat.le_trans hk0 E1.1) (Nat.le_of_eq W4.size.symm)) (Nat.le_of_eq W7.size.symm)) E9.1) (Nat.le_of_eq W12.size.symm)) E15.1) K17.1) E23.1) K25.1) E55.1) K59.1) K62.1)) (v := some (.int (1 : Int32))) (fun h => by rw [Bd.returns] at h; cases h)
          subst hQQ
          have hCR : CHr Z EL s.vm s.heap T64.vm T64.heap := by rw [hh, K64]; exact CR63.trans (CHv.at X64 hZ (own_EW hw) CR63.1)
          refine ⟨_, _, retN X64 hx (t := .boolean) Bd.returns (by simp) (hb hby at_240) hr, hrun, hended, _, _, rfl, ?_, hCR, own_REmono hRW (by decide) (by decide)⟩
          show Q_law Z p0 p1 p2 G1 h0 n0 _ T64.heap _
          rw [K64]
          exact ⟨rfl, N64⟩
    case neg =>
      refine Goes.st (fun t k => XS.ifNo X17.here hx rfl (hb hby at_72) rfl ((if0 _ _).trans (feq c22).1) k) ?_
      show Goes _ _ _ _ (T17.setTop (mkF m 75 #[.val (.int p0), .val (.int p1), .val (.int p2), .val (.ref b1), .val (.ref b9), .val (.ref b15), .unset, .unset, .unset, .unset, .unset, .unset, .unset] []))
      obtain ⟨T65, h65, X65, e65, E65, A65, D65, -, st65⟩ := newO X17 hx hZ hown (hw1 hw) (hw2 hw) (hw3 hw) rfl (g := (mkF m 75 #[.val (.int p0), .val (.int p1), .val (.int p2), .val (.ref b1), .val (.ref b9), .val (.ref b15), .unset, .unset, .unset, .unset, .unset, .unset, .unset] [])) rfl (hb hby at_75) (by decide) (by decide)
      obtain ⟨b65, g65⟩ : ∃ z, z = T17.heap.size := ⟨_, rfl⟩
      rw [← g65] at A65 D65 st65
      have CR66 : CHr Z EL s.vm h0 s.vm h65 := CR21.trans (CHr.ext E65 CR21.1)
      have sf65_b65 : Safe Z EL s.vm h65 b65 := Safe.ext E65 CR21.1 (Safe.new (Nat.le_of_eq g65.symm))
      have F65_coder : Fld Z h65 b65 "java/lang/String" "coder" "B" (.int (0 : Int32)) := D65 (Or.inr (hw27 hw)) (ty := .byte) (by decide)
      have F65_value : Fld Z h65 b65 "java/lang/String" "value" "[B" .null := D65 (Or.inr (hw29 hw)) (ty := (.array .byte)) (by decide)
      refine Goes.st st65 ?_
      show Goes _ _ _ _ (T65.setTop (mkF m 78 #[.val (.int p0), .val (.int p1), .val (.int p2), .val (.ref b1), .val (.ref b9), .val (.ref b15), .unset, .unset, .unset, .unset, .unset, .unset, .unset] [(.ref b65)]))
      refine Goes.st (fun t k => XS.dup X65.here hx rfl (hb hby at_78) rfl rfl k) ?_
      show Goes _ _ _ _ (T65.setTop (mkF m 79 #[.val (.int p0), .val (.int p1), .val (.int p2), .val (.ref b1), .val (.ref b9), .val (.ref b15), .unset, .unset, .unset, .unset, .unset, .unset, .unset] [(.ref b65), (.ref b65)]))
      refine Goes.st (fun t k => XS.iconst X65.here hx rfl (hb hby at_79) k) ?_
      show Goes _ _ _ _ (T65.setTop (mkF m 80 #[.val (.int p0), .val (.int p1), .val (.int p2), .val (.ref b1), .val (.ref b9), .val (.ref b15), .unset, .unset, .unset, .unset, .unset, .unset, .unset] [(.int (0 : Int32)), (.ref b65), (.ref b65)]))
      obtain ⟨T67, h67, k67, X67, e67, E67, A67, st67⟩ := newP X65 hx hZ (aty := .char) (hw0 hw) e65 (g := (mkF m 80 #[.val (.int p0), .val (.int p1), .val (.int p2), .val (.ref b1), .val (.ref b9), .val (.ref b15), .unset, .unset, .unset, .unset, .unset, .unset, .unset] [(.int (0 : Int32)), (.ref b65), (.ref b65)])) rfl (hb hby at_80) rfl (by decide) (cap := 0) (by decide) (by decide) (by decide) (by decide)
      obtain ⟨b67, g67⟩ : ∃ z, z = h65.size := ⟨_, rfl⟩
      rw [← g67] at A67 st67
      have CR68 : CHr Z EL s.vm h0 s.vm h67 := CR66.trans (CHr.ext E67 CR66.1)
      have sf68_b65 : Safe Z EL s.vm h67 b65 := Safe.ext E67 CR66.1 sf65_b65
      have V67 : Arv Z h67 b67 k67 .char (0 : Int32) [] (.int (0 : Int32)) := (Arv.new A67 (by decide)).pad (pad_rep [] (.int (0 : Int32)) 0)
      refine Goes.st st67 ?_
      show Goes _ _ _ _ (T67.setTop (mkF m 82 #[.val (.int p0), .val (.int p1), .val (.int p2), .val (.ref b1), .val (.ref b9), .val (.ref b15), .unset, .unset, .unset, .unset, .unset, .unset, .unset] [(.ref b67), (.ref b65), (.ref b65)]))
      have f70 : Exa Z h67 b65 "java/lang/String" := (A65.ext E67)
      have f71 : Fld Z h67 b65 "java/lang/String" "value" "[B" .null := (F65_value.ext E67)
      have f72 : Fld Z h67 b65 "java/lang/String" "coder" "B" (.int (0 : Int32)) := (F65_coder.ext E67)
      have f73 : Old Z n0 h67 := (((f19.keep K17 (allS (Nat.le_trans Z0 (Nat.le_trans (Nat.le_trans (Nat.le_trans (Nat.le_trans (Nat.le_trans E1.1 (Nat.le_of_eq W4.size.symm)) (Nat.le_of_eq W7.size.symm)) E9.1) (Nat.le_of_eq W12.size.symm)) (Nat.le_of_eq g15.symm))) all0)).ext E65).ext E67)
      obtain ⟨_, _, ⟨T69, L69, k69, n69⟩, -, X69, hSr69, hgr69, ⟨Lc69, hQ69, l69, y69, z69, C69⟩, st69⟩ := X67.specialBackS hx (y := (⟨"java/lang/String", "<init>", "([C)V"⟩ : MethodName)) rfl hown (mvT hZ (hw4 hw)) (mvT hZ (hw5 hw)) (mvT hZ (hw6 hw)) (by decide) (own_backW (W := 1) (xs := [b65]) (rm_s1e l Z a0 hw [] b65 b67 k67 h67 n0 (Nat.le_trans Z0 (Nat.le_trans (Nat.le_trans (Nat.le_trans (Nat.le_trans (Nat.le_trans (Nat.le_trans (Nat.le_trans (Nat.le_trans E1.1 (Nat.le_of_eq W4.size.symm)) (Nat.le_of_eq W7.size.symm)) E9.1) (Nat.le_of_eq W12.size.symm)) E15.1) K17.1) E65.1) E67.1)) f70 f71 f72 V67 (Nat.le_trans Z0 (Nat.le_trans (Nat.le_trans (Nat.le_trans (Nat.le_trans (Nat.le_trans (Nat.le_trans (Nat.le_trans E1.1 (Nat.le_of_eq W4.size.symm)) (Nat.le_of_eq W7.size.symm)) E9.1) (Nat.le_of_eq W12.size.symm)) E15.1) K17.1) (Nat.le_of_eq g65.symm)))) hZ (hw6 hw) (hw3 hw) (by decide) (by decide) (own_EW hw) CR68.1 (allS ⟨(Nat.lt_of_lt_of_le A65.lt E67.1), sf68_b65⟩ all0)) (g := (mkF m 82 #[.val (.int p0), .val (.int p1), .val (.int p2), .val (.ref b1), .val (.ref b9), .val (.ref b15), .unset, .unset, .unset, .unset, .unset, .unset, .unset] [(.ref b67), (.ref b65), (.ref b65)])) rfl (by rw [hml]; rfl) (Steps.refl _) (a := b65) (argsL := [(.ref b67)]) (rest := [(.ref b65)]) (lenOf pd_1 rfl) rfl (by show 2 * 0 + _ ≤ _; exact Nat.le_of_eq rfl) (hb hby at_82) (fun _ _ => ⟨rfl, e67, (by decide : 6 + 4 ≤ _), (by decide : 13 + 8 ≤ _)⟩)
      dsimp only [Pt.U, Pt.locs, Pt.cells, Pt.slots] at X69 l69 y69 z69 st69 hQ69 hSr69 hgr69 C69
      subst l69 y69 z69
      obtain ⟨X69, hS69, hZ69, hown69⟩ := rebS hS0 (by rw [e67]; exact (Nat.le_trans (Nat.le_trans (Nat.le_trans (Nat.le_trans (Nat.le_trans (Nat.le_trans (Nat.le_trans (Nat.le_trans (Nat.le_trans hk0 E1.1) (Nat.le_of_eq W4.size.symm)) (Nat.le_of_eq W7.size.symm)) E9.1) (Nat.le_of_eq W12.size.symm)) E15.1) K17.1) E65.1) E67.1)) X69 hSr69 hgr69 hZ hown
      obtain ⟨t69, kb69, rfl, N69q, K69, F69_0, ne69_0⟩ := hQ69
      have N69 := Fr.app N17 N69q
      have F69_0E := F69_0.1
      have CR74 : CHr Z EL s.vm h0 T69.vm T69.heap := CR68.trans (C69)
      have sf74_b65 : Safe Z EL T69.vm T69.heap b65 := C69.safe (Nat.lt_of_lt_of_le A65.lt E67.1) sf68_b65
      refine Goes.tr st69 ?_
      show Goes _ _ _ _ (T69.setTop (mkF m 85 #[.val (.int p0), .val (.int p1), .val (.int p2), .val (.ref b1), .val (.ref b9), .val (.ref b15), .unset, .unset, .unset, .unset, .unset, .unset, .unset] [(.ref b65)]))
      refine Goes.st (fun t k => XS.goto X69.here hx rfl (pc0 := 85) (pc' := 97) rfl (hb hby at_85) (by decide) (by decide) k) ?_
      show Goes _ _ _ _ (T69.setTop (mkF m 97 #[.val (.int p0), .val (.int p1), .val (.int p2), .val (.ref b1), .val (.ref b9), .val (.ref b15), .unset, .unset, .unset, .unset, .unset, .unset, .unset] [(.ref b65)]))
      refine Goes.st (fun t k => XS.astore X69.here hx rfl (hb hby at_97) rfl rfl (l' := #[.val (.int p0), .val (.int p1), .val (.int p2), .val (.ref b1), .val (.ref b9), .val (.ref b15), .val (.ref b65), .unset, .unset, .unset, .unset, .unset, .unset]) rfl k) ?_
      show Goes _ _ _ _ (T69.setTop (mkF m 99 #[.val (.int p0), .val (.int p1), .val (.int p2), .val (.ref b1), .val (.ref b9), .val (.ref b15), .val (.ref b65), .unset, .unset, .unset, .unset, .unset, .unset] []))
      refine Goes.st (fun t k => XS.iloadN X69.here hx rfl (hb hby at_99) rfl k) ?_
      show Goes _ _ _ _ (T69.setTop (mkF m 100 #[.val (.int p0), .val (.int p1), .val (.int p2), .val (.ref b1), .val (.ref b9), .val (.ref b15), .val (.ref b65), .unset, .unset, .unset, .unset, .unset, .unset] [(.int p2)]))
      refine Goes.st (fun t k => XS.iconst X69.here hx rfl (hb hby at_100) k) ?_
      show Goes _ _ _ _ (T69.setTop (mkF m 101 #[.val (.int p0), .val (.int p1), .val (.int p2), .val (.ref b1), .val (.ref b9), .val (.ref b15), .val (.ref b65), .unset, .unset, .unset, .unset, .unset, .unset] [(.int (1 : Int32)), (.int p2)]))
      refine Goes.st (fun t k => XS.iand X69.here hx rfl (hb hby at_101) rfl k) ?_
      show Goes _ _ _ _ (T69.setTop (mkF m 102 #[.val (.int p0), .val (.int p1), .val (.int p2), .val (.ref b1), .val (.ref b9), .val (.ref b15), .val (.ref b65), .unset, .unset, .unset, .unset, .unset, .unset] [(.int (p2 &&& (1 : Int32)))]))
      by_cases c75 : (p2 &&& (1 : Int32)) = (0 : Int32)
      case pos =>
        refine Goes.st (fun t k => XS.ifYes X69.here hx rfl (pc0 := 102) (pc' := 109) rfl (hb hby at_102) rfl ((if0 _ _).trans (teq c75).1) (by decide) (by decide) k) ?_
        show Goes _ _ _ _ (T69.setTop (mkF m 109 #[.val (.int p0), .val (.int p1), .val (.int p2), .val (.ref b1), .val (.ref b9), .val (.ref b15), .val (.ref b65), .unset, .unset, .unset, .unset, .unset, .unset] []))
        refine Goes.st (fun t k => XS.iconst X69.here hx rfl (hb hby at_109) k) ?_
        show Goes _ _ _ _ (T69.setTop (mkF m 110 #[.val (.int p0), .val (.int p1), .val (.int p2), .val (.ref b1), .val (.ref b9), .val (.ref b15), .val (.ref b65), .unset, .unset, .unset, .unset, .unset, .unset] [(.int (0 : Int32))]))
        refine Goes.st (fun t k => XS.istore X69.here hx rfl (hb hby at_110) rfl (l' := #[.val (.int p0), .val (.int p1), .val (.int p2), .val (.ref b1), .val (.ref b9), .val (.ref b15), .val (.ref b65), .val (.int (0 : Int32)), .unset, .unset, .unset, .unset, .unset]) rfl k) ?_
        show Goes _ _ _ _ (T69.setTop (mkF m 112 #[.val (.int p0), .val (.int p1), .val (.int p2), .val (.ref b1), .val (.ref b9), .val (.ref b15), .val (.ref b65), .val (.int (0 : Int32)), .unset, .unset, .unset, .unset, .unset] []))
        refine Goes.st (fun t k => XS.iloadN X69.here hx rfl (hb hby at_112) rfl k) ?_
        show Goes _ _ _ _ (T69.setTop (mkF m 113 #[.val (.int p0), .val (.int p1), .val (.int p2), .val (.ref b1), .val (.ref b9), .val (.ref b15), .val (.ref b65), .val (.int (0 : Int32)), .unset, .unset, .unset, .unset, .unset] [(.int p2)]))
        refine Goes.st (fun t k => XS.iconst X69.here hx rfl (hb hby at_113) k) ?_
        show Goes _ _ _ _ (T69.setTop (mkF m 114 #[.val (.int p0), .val (.int p1), .val (.int p2), .val (.ref b1), .val (.ref b9), .val (.ref b15), .val (.ref b65), .val (.int (0 : Int32)), .unset, .unset, .unset, .unset, .unset] [(.int (2 : Int32)), (.int p2)]))
        refine Goes.st (fun t k => XS.iand X69.here hx rfl (hb hby at_114) rfl k) ?_
        show Goes _ _ _ _ (T69.setTop (mkF m 115 #[.val (.int p0), .val (.int p1), .val (.int p2), .val (.ref b1), .val (.ref b9), .val (.ref b15), .val (.ref b65), .val (.int (0 : Int32)), .unset, .unset, .unset, .unset, .unset] [(.int (p2 &&& (2 : Int32)))]))
        by_cases c76 : (p2 &&& (2 : Int32)) = (0 : Int32)
        case pos =>
          refine Goes.st (fun t k => XS.ifYes X69.here hx rfl (pc0 := 115) (pc' := 122) rfl (hb hby at_115) rfl ((if0 _ _).trans (teq c76).1) (by decide) (by decide) k) ?_
          show Goes _ _ _ _ (T69.setTop (mkF m 122 #[.val (.int p0), .val (.int p1), .val (.int p2), .val (.ref b1), .val (.ref b9), .val (.ref b15), .val (.ref b65), .val (.int (0 : Int32)), .unset, .unset, .unset, .unset, .unset] []))
          refine Goes.st (fun t k => XS.iconst X69.here hx rfl (hb hby at_122) k) ?_
          show Goes _ _ _ _ (T69.setTop (mkF m 123 #[.val (.int p0), .val (.int p1), .val (.int p2), .val (.ref b1), .val (.ref b9), .val (.ref b15), .val (.ref b65), .val (.int (0 : Int32)), .unset, .unset, .unset, .unset, .unset] [(.int (0 : Int32))]))
          refine Goes.st (fun t k => XS.istore X69.here hx rfl (hb hby at_123) rfl (l' := #[.val (.int p0), .val (.int p1), .val (.int p2), .val (.ref b1), .val (.ref b9), .val (.ref b15), .val (.ref b65), .val (.int (0 : Int32)), .val (.int (0 : Int32)), .unset, .unset, .unset, .unset]) rfl k) ?_
          show Goes _ _ _ _ (T69.setTop (mkF m 125 #[.val (.int p0), .val (.int p1), .val (.int p2), .val (.ref b1), .val (.ref b9), .val (.ref b15), .val (.ref b65), .val (.int (0 : Int32)), .val (.int (0 : Int32)), .unset, .unset, .unset, .unset] []))
          obtain ⟨T77, h77, X77, e77, E77, A77, D77, -, st77⟩ := newO X69 hx hZ69 hown69 (hw30 hw) (hw31 hw) (hw32 hw) rfl (g := (mkF m 125 #[.val (.int p0), .val (.int p1), .val (.int p2), .val (.ref b1), .val (.ref b9), .val (.ref b15), .val (.ref b65), .val (.int (0 : Int32)), .val (.int (0 : Int32)), .unset, .unset, .unset, .unset] [])) rfl (hb hby at_125) (by decide) (by decide)
          obtain ⟨b77, g77⟩ : ∃ z, z = T69.heap.size := ⟨_, rfl⟩
          rw [← g77] at A77 D77 st77
          have CR78 : CHr Z EL s.vm h0 T69.vm h77 := CR74.trans (CHr.ext E77 CR74.1)
          have sf78_b65 : Safe Z EL T69.vm h77 b65 := Safe.ext E77 CR74.1 sf74_b65
          have F77_reason : Fld Z h77 b77 "com/example/tenon/tenon/registry/Validity" "reason" "Ljava/lang/String;" .null := D77 (Or.inl (hw43 hw)) (ty := (.object "java/lang/String")) (by decide)
          refine Goes.st st77 ?_
          show Goes _ _ _ _ (T77.setTop (mkF m 128 #[.val (.int p0), .val (.int p1), .val (.int p2), .val (.ref b1), .val (.ref b9), .val (.ref b15), .val (.ref b65), .val (.int (0 : Int32)), .val (.int (0 : Int32)), .unset, .unset, .unset, .unset] [(.ref b77)]))
          refine Goes.st (fun t k => XS.dup X77.here hx rfl (hb hby at_128) rfl rfl k) ?_
          show Goes _ _ _ _ (T77.setTop (mkF m 129 #[.val (.int p0), .val (.int p1), .val (.int p2), .val (.ref b1), .val (.ref b9), .val (.ref b15), .val (.ref b65), .val (.int (0 : Int32)), .val (.int (0 : Int32)), .unset, .unset, .unset, .unset] [(.ref b77), (.ref b77)]))
          obtain ⟨_, _, ⟨T79, L79, k79, n79⟩, -, X79, ⟨Lc79, hQ79, l79, y79, z79⟩, st79⟩ := X77.specialBack hx (y := (⟨"com/example/tenon/tenon/registry/Validity", "<init>", "()V"⟩ : MethodName)) rfl hown69 (mvT hZ69 (hw33 hw)) (mvT hZ69 (hw34 hw)) (mvT hZ69 (hw35 hw)) (by decide) (backOf (W := 1) (rm_vinit l Z a0 hw [] b77 h77 n0 (Nat.le_trans Z0 (Nat.le_trans (Nat.le_trans (Nat.le_trans (Nat.le_trans (Nat.le_trans (Nat.le_trans (Nat.le_trans (Nat.le_trans (Nat.le_trans (Nat.le_trans E1.1 (Nat.le_of_eq W4.size.symm)) (Nat.le_of_eq W7.size.symm)) E9.1) (Nat.le_of_eq W12.size.symm)) E15.1) K17.1) E65.1) E67.1) K69.1) E77.1)) ) hZ69 (hw35 hw) (hw32 hw) (by decide) (by decide)) (g := (mkF m 129 #[.val (.int p0), .val (.int p1), .val (.int p2), .val (.ref b1), .val (.ref b9), .val (.ref b15), .val (.ref b65), .val (.int (0 : Int32)), .val (.int (0 : Int32)), .unset, .unset, .unset, .unset] [(.ref b77), (.ref b77)])) rfl (by rw [hml]; rfl) (Steps.refl _) (a := b77) (argsL := []) (rest := [(.ref b77)]) (lenOf pd_2 rfl) rfl (by show 2 * 0 + _ ≤ _; exact Nat.le_of_eq rfl) (hb hby at_129) (fun _ _ => ⟨rfl, e77, (by decide : 11 + 0 ≤ _), (by decide : 22 + 0 ≤ _)⟩)
          dsimp only [Pt.U, Pt.locs, Pt.cells, Pt.slots] at X79 l79 y79 z79 st79 hQ79
          subst l79 y79 z79
          obtain ⟨rfl, N79q, K79⟩ := hQ79
          have N79 := Fr.app N69 N79q
          refine Goes.tr st79 ?_
          show Goes _ _ _ _ (T79.setTop (mkF m 132 #[.val (.int p0), .val (.int p1), .val (.int p2), .val (.ref b1), .val (.ref b9), .val (.ref b15), .val (.ref b65), .val (.int (0 : Int32)), .val (.int (0 : Int32)), .unset, .unset, .unset, .unset] [(.ref b77)]))
          refine Goes.st (fun t k => XS.astore X79.here hx rfl (hb hby at_132) rfl rfl (l' := #[.val (.int p0), .val (.int p1), .val (.int p2), .val (.ref b1), .val (.ref b9), .val (.ref b15), .val (.ref b65), .val (.int (0 : Int32)), .val (.int (0 : Int32)), .val (.ref b77), .unset, .unset, .unset]) rfl k) ?_
          show Goes _ _ _ _ (T79.setTop (mkF m 134 #[.val (.int p0), .val (.int p1), .val (.int p2), .val (.ref b1), .val (.ref b9), .val (.ref b15), .val (.ref b65), .val (.int (0 : Int32)), .val (.int (0 : Int32)), .val (.ref b77), .unset, .unset, .unset] []))
          refine Goes.st (fun t k => XS.aload X79.here hx rfl (hb hby at_134) rfl rfl k) ?_
          show Goes _ _ _ _ (T79.setTop (mkF m 136 #[.val (.int p0), .val (.int p1), .val (.int p2), .val (.ref b1), .val (.ref b9), .val (.ref b15), .val (.ref b65), .val (.int (0 : Int32)), .val (.int (0 : Int32)), .val (.ref b77), .unset, .unset, .unset] [(.ref b77)]))
          obtain ⟨cq80, kq80, q80a, q80b, q80c⟩ := isOf hZ69 K79 A77
          obtain ⟨_, _, ⟨T80, L80, k80, n80⟩, -, X80, ⟨Lc80, hQ80, l80, y80, z80⟩, st80⟩ := X79.virtualBack hx (y := (⟨"com/example/tenon/tenon/registry/Validity", "isValid", "()Z"⟩ : MethodName)) (z := (⟨"com/example/tenon/tenon/registry/Validity", "isValid", "()Z"⟩ : MethodName)) hown69 (mvT hZ69 (hw37 hw)) (mvT hZ69 (hw38 hw)) (notFace_of_selects (args := #[]) (mvT hZ69 (hw40 hw))) (mvT hZ69 (hw40 hw)) (mvT hZ69 (hw39 hw)) (by decide) (backOf (W := 0) (rm_ivN l Z a0 hw [] b77 h77 n0 (Nat.le_trans Z0 (Nat.le_trans (Nat.le_trans (Nat.le_trans (Nat.le_trans (Nat.le_trans (Nat.le_trans (Nat.le_trans (Nat.le_trans (Nat.le_trans (Nat.le_trans E1.1 (Nat.le_of_eq W4.size.symm)) (Nat.le_of_eq W7.size.symm)) E9.1) (Nat.le_of_eq W12.size.symm)) E15.1) K17.1) E65.1) E67.1) K69.1) E77.1)) F77_reason) hZ69 (hw41 hw) (hw32 hw) (by decide) (by decide)) q80a q80c (g := (mkF m 136 #[.val (.int p0), .val (.int p1), .val (.int p2), .val (.ref b1), .val (.ref b9), .val (.ref b15), .val (.ref b65), .val (.int (0 : Int32)), .val (.int (0 : Int32)), .val (.ref b77), .unset, .unset, .unset] [(.ref b77)])) rfl (by rw [hml]; rfl) (Steps.refl _) (argsL := []) (rest := []) (lenOf pd_3 rfl) rfl (by show 2 * 0 + _ ≤ _; exact Nat.le_of_eq rfl) (hb hby at_136) (fun _ _ => ⟨rfl, K79, (by decide : 11 + 0 ≤ _), (by decide : 22 + 0 ≤ _)⟩)
          dsimp only [Pt.U, Pt.locs, Pt.cells, Pt.slots] at X80 l80 y80 z80 st80 hQ80
          subst l80 y80 z80
          obtain ⟨rfl, N80q, K80⟩ := hQ80
          have N80 := Fr.app N79 N80q
          refine Goes.tr st80 ?_
          show Goes _ _ _ _ (T80.setTop (mkF m 139 #[.val (.int p0), .val (.int p1), .val (.int p2), .val (.ref b1), .val (.ref b9), .val (.ref b15), .val (.ref b65), .val (.int (0 : Int32)), .val (.int (0 : Int32)), .val (.ref b77), .unset, .unset, .unset] [(.int (1 : Int32))]))
          refine Goes.st (fun t k => XS.istore X80.here hx rfl (hb hby at_139) rfl (l' := #[.val (.int p0), .val (.int p1), .val (.int p2), .val (.ref b1), .val (.ref b9), .val (.ref b15), .val (.ref b65), .val (.int (0 : Int32)), .val (.int (0 : Int32)), .val (.ref b77), .val (.int (1 : Int32)), .unset, .unset]) rfl k) ?_
          show Goes _ _ _ _ (T80.setTop (mkF m 141 #[.val (.int p0), .val (.int p1), .val (.int p2), .val (.ref b1), .val (.ref b9), .val (.ref b15), .val (.ref b65), .val (.int (0 : Int32)), .val (.int (0 : Int32)), .val (.ref b77), .val (.int (1 : Int32)), .unset, .unset] []))
          refine Goes.st (fun t k => XS.iload X80.here hx rfl (hb hby at_141) rfl k) ?_
          show Goes _ _ _ _ (T80.setTop (mkF m 143 #[.val (.int p0), .val (.int p1), .val (.int p2), .val (.ref b1), .val (.ref b9), .val (.ref b15), .val (.ref b65), .val (.int (0 : Int32)), .val (.int (0 : Int32)), .val (.ref b77), .val (.int (1 : Int32)), .unset, .unset] [(.int (0 : Int32))]))
          refine Goes.st (fun t k => XS.ifYes X80.here hx rfl (pc0 := 143) (pc' := 153) rfl (hb hby at_143) rfl ((if0 _ _).trans (teq (by decide : (0 : Int32) = (0 : Int32))).1) (by decide) (by decide) k) ?_
          show Goes _ _ _ _ (T80.setTop (mkF m 153 #[.val (.int p0), .val (.int p1), .val (.int p2), .val (.ref b1), .val (.ref b9), .val (.ref b15), .val (.ref b65), .val (.int (0 : Int32)), .val (.int (0 : Int32)), .val (.ref b77), .val (.int (1 : Int32)), .unset, .unset] []))
          refine Goes.st (fun t k => XS.aload X80.here hx rfl (hb hby at_153) rfl rfl k) ?_
          show Goes _ _ _ _ (T80.setTop (mkF m 155 #[.val (.int p0), .val (.int p1), .val (.int p2), .val (.ref b1), .val (.ref b9), .val (.ref b15), .val (.ref b65), .val (.int (0 : Int32)), .val (.int (0 : Int32)), .val (.ref b77), .val (.int (1 : Int32)), .unset, .unset] [(.ref b77)]))
          obtain ⟨cq81, kq81, q81a, q81b, q81c⟩ := isOf hZ69 K80 A77
          obtain ⟨_, _, ⟨T81, L81, k81, n81⟩, -, X81, ⟨Lc81, hQ81, l81, y81, z81⟩, st81⟩ := X80.virtualBack hx (y := (⟨"com/example/tenon/tenon/registry/Validity", "isValid", "()Z"⟩ : MethodName)) (z := (⟨"com/example/tenon/tenon/registry/Validity", "isValid", "()Z"⟩ : MethodName)) hown69 (mvT hZ69 (hw37 hw)) (mvT hZ69 (hw38 hw)) (notFace_of_selects (args := #[]) (mvT hZ69 (hw40 hw))) (mvT hZ69 (hw40 hw)) (mvT hZ69 (hw39 hw)) (by decide) (backOf (W := 0) (rm_ivN l Z a0 hw [] b77 h77 n0 (Nat.le_trans Z0 (Nat.le_trans (Nat.le_trans (Nat.le_trans (Nat.le_trans (Nat.le_trans (Nat.le_trans (Nat.le_trans (Nat.le_trans (Nat.le_trans (Nat.le_trans E1.1 (Nat.le_of_eq W4.size.symm)) (Nat.le_of_eq W7.size.symm)) E9.1) (Nat.le_of_eq W12.size.symm)) E15.1) K17.1) E65.1) E67.1) K69.1) E77.1)) F77_reason) hZ69 (hw41 hw) (hw32 hw) (by decide) (by decide)) q81a q81c (g := (mkF m 155 #[.val (.int p0), .val (.int p1), .val (.int p2), .val (.ref b1), .val (.ref b9), .val (.ref b15), .val (.ref b65), .val (.int (0 : Int32)), .val (.int (0 : Int32)), .val (.ref b77), .val (.int (1 : Int32)), .unset, .unset] [(.ref b77)])) rfl (by rw [hml]; rfl) (Steps.refl _) (argsL := []) (rest := []) (lenOf pd_3 rfl) rfl (by show 2 * 0 + _ ≤ _; exact Nat.le_of_eq rfl) (hb hby at_155) (fun _ _ => ⟨rfl, K80, (by decide : 11 + 0 ≤ _), (by decide : 22 + 0 ≤ _)⟩)
          dsimp only [Pt.U, Pt.locs, Pt.cells, Pt.slots] at X81 l81 y81 z81 st81 hQ81
          subst l81 y81 z81
          obtain ⟨rfl, N81q, K81⟩ := hQ81
          have N81 := Fr.app N80 N81q
          refine Goes.tr st81 ?_
          show Goes _ _ _ _ (T81.setTop (mkF m 158 #[.val (.int p0), .val (.int p1), .val (.int p2), .val (.ref b1), .val (.ref b9), .val (.ref b15), .val (.ref b65), .val (.int (0 : Int32)), .val (.int (0 : Int32)), .val (.ref b77), .val (.int (1 : Int32)), .unset, .unset] [(.int (1 : Int32))]))
          refine Goes.st (fun t k => XS.iload X81.here hx rfl (hb hby at_158) rfl k) ?_
          show Goes _ _ _ _ (T81.setTop (mkF m 160 #[.val (.int p0), .val (.int p1), .val (.int p2), .val (.ref b1), .val (.ref b9), .val (.ref b15), .val (.ref b65), .val (.int (0 : Int32)), .val (.int (0 : Int32)), .val (.ref b77), .val (.int (1 : Int32)), .unset, .unset] [(.int (0 : Int32)), (.int (1 : Int32))]))
          refine Goes.st (fun t k => XS.ifNo X81.here hx rfl (hb hby at_160) rfl ((if0 _ _).trans (teq (by decide : (0 : Int32) = (0 : Int32))).2) k) ?_
          show Goes _ _ _ _ (T81.setTop (mkF m 163 #[.val (.int p0), .val (.int p1), .val (.int p2), .val (.ref b1), .val (.ref b9), .val (.ref b15), .val (.ref b65), .val (.int (0 : Int32)), .val (.int (0 : Int32)), .val (.ref b77), .val (.int (1 : Int32)), .unset, .unset] [(.int (1 : Int32))]))
          refine Goes.st (fun t k => XS.iconst X81.here hx rfl (hb hby at_163) k) ?_
          show Goes _ _ _ _ (T81.setTop (mkF m 164 #[.val (.int p0), .val (.int p1), .val (.int p2), .val (.ref b1), .val (.ref b9), .val (.ref b15), .val (.ref b65), .val (.int (0 : Int32)), .val (.int (0 : Int32)), .val (.ref b77), .val (.int (1 : Int32)), .unset, .unset] [(.int (1 : Int32)), (.int (1 : Int32))]))
          refine Goes.st (fun t k => XS.goto X81.here hx rfl (pc0 := 164) (pc' := 168) rfl (hb hby at_164) (by decide) (by decide) k) ?_
          show Goes _ _ _ _ (T81.setTop (mkF m 168 #[.val (.int p0), .val (.int p1), .val (.int p2), .val (.ref b1), .val (.ref b9), .val (.ref b15), .val (.ref b65), .val (.int (0 : Int32)), .val (.int (0 : Int32)), .val (.ref b77), .val (.int (1 : Int32)), .unset, .unset] [(.int (1 : Int32)), (.int (1 : Int32))]))
          refine Goes.st (fun t k => XS.icmpNo X81.here hx rfl (hb hby at_168) rfl (teq (by decide : (1 : Int32) = (1 : Int32))).2 k) ?_
          show Goes _ _ _ _ (T81.setTop (mkF m 171 #[.val (.int p0), .val (.int p1), .val (.int p2), .val (.ref b1), .val (.ref b9), .val (.ref b15), .val (.ref b65), .val (.int (0 : Int32)), .val (.int (0 : Int32)), .val (.ref b77), .val (.int (1 : Int32)), .unset, .unset] []))
          refine Goes.st (fun t k => XS.iconst X81.here hx rfl (hb hby at_171) k) ?_
          show Goes _ _ _ _ (T81.setTop (mkF m 172 #[.val (.int p0), .val (.int p1), .val (.int p2), .val (.ref b1), .val (.ref b9), .val (.ref b15), .val (.ref b65), .val (.int (0 : Int32)), .val (.int (0 : Int32)), .val (.ref b77), .val (.int (1 : Int32)), .unset, .unset] [(.int (1 : Int32))]))
          refine Goes.st (fun t k => XS.goto X81.here hx rfl (pc0 := 172) (pc' := 176) rfl (hb hby at_172) (by decide) (by decide) k) ?_
          show Goes _ _ _ _ (T81.setTop (mkF m 176 #[.val (.int p0), .val (.int p1), .val (.int p2), .val (.ref b1), .val (.ref b9), .val (.ref b15), .val (.ref b65), .val (.int (0 : Int32)), .val (.int (0 : Int32)), .val (.ref b77), .val (.int (1 : Int32)), .unset, .unset] [(.int (1 : Int32))]))
          refine Goes.st (fun t k => XS.istore X81.here hx rfl (hb hby at_176) rfl (l' := #[.val (.int p0), .val (.int p1), .val (.int p2), .val (.ref b1), .val (.ref b9), .val (.ref b15), .val (.ref b65), .val (.int (0 : Int32)), .val (.int (0 : Int32)), .val (.ref b77), .val (.int (1 : Int32)), .val (.int (1 : Int32)), .unset]) rfl k) ?_
          show Goes _ _ _ _ (T81.setTop (mkF m 178 #[.val (.int p0), .val (.int p1), .val (.int p2), .val (.ref b1), .val (.ref b9), .val (.ref b15), .val (.ref b65), .val (.int (0 : Int32)), .val (.int (0 : Int32)), .val (.ref b77), .val (.int (1 : Int32)), .val (.int (1 : Int32)), .unset] []))
          refine Goes.st (fun t k => XS.iload X81.here hx rfl (hb hby at_178) rfl k) ?_
          show Goes _ _ _ _ (T81.setTop (mkF m 180 #[.val (.int p0), .val (.int p1), .val (.int p2), .val (.ref b1), .val (.ref b9), .val (.ref b15), .val (.ref b65), .val (.int (0 : Int32)), .val (.int (0 : Int32)), .val (.ref b77), .val (.int (1 : Int32)), .val (.int (1 : Int32)), .unset] [(.int (0 : Int32))]))
          refine Goes.st (fun t k => XS.ifYes X81.here hx rfl (pc0 := 180) (pc' := 190) rfl (hb hby at_180) rfl ((if0 _ _).trans (teq (by decide : (0 : Int32) = (0 : Int32))).1) (by decide) (by decide) k) ?_
          show Goes _ _ _ _ (T81.setTop (mkF m 190 #[.val (.int p0), .val (.int p1), .val (.int p2), .val (.ref b1), .val (.ref b9), .val (.ref b15), .val (.ref b65), .val (.int (0 : Int32)), .val (.int (0 : Int32)), .val (.ref b77), .val (.int (1 : Int32)), .val (.int (1 : Int32)), .unset] []))
          refine Goes.st (fun t k => XS.aload X81.here hx rfl (hb hby at_190) rfl rfl k) ?_
          show Goes _ _ _ _ (T81.setTop (mkF m 192 #[.val (.int p0), .val (.int p1), .val (.int p2), .val (.ref b1), .val (.ref b9), .val (.ref b15), .val (.ref b65), .val (.int (0 : Int32)), .val (.int (0 : Int32)), .val (.ref b77), .val (.int (1 : Int32)), .val (.int (1 : Int32)), .unset] [(.ref b77)]))
          obtain ⟨cq82, kq82, q82a, q82b, q82c⟩ := isOf hZ69 K81 A77
          obtain ⟨_, _, ⟨T82, L82, k82, n82⟩, -, X82, ⟨Lc82, hQ82, l82, y82, z82⟩, st82⟩ := X81.virtualBack hx (y := (⟨"com/example/tenon/tenon/registry/Validity", "isValid", "()Z"⟩ : MethodName)) (z := (⟨"com/example/tenon/tenon/registry/Validity", "isValid", "()Z"⟩ : MethodName)) hown69 (mvT hZ69 (hw37 hw)) (mvT hZ69 (hw38 hw)) (notFace_of_selects (args := #[]) (mvT hZ69 (hw40 hw))) (mvT hZ69 (hw40 hw)) (mvT hZ69 (hw39 hw)) (by decide) (backOf (W := 0) (rm_ivN l Z a0 hw [] b77 h77 n0 (Nat.le_trans Z0 (Nat.le_trans (Nat.le_trans (Nat.le_trans (Nat.le_trans (Nat.le_trans (Nat.le_trans (Nat.le_trans (Nat.le_trans (Nat.le_trans (Nat.le_trans E1.1 (Nat.le_of_eq W4.size.symm)) (Nat.le_of_eq W7.size.symm)) E9.1) (Nat.le_of_eq W12.size.symm)) E15.1) K17.1) E65.1) E67.1) K69.1) E77.1)) F77_reason) hZ69 (hw41 hw) (hw32 hw) (by decide) (by decide)) q82a q82c (g := (mkF m 192 #[.val (.int p0), .val (.int p1), .val (.int p2), .val (.ref b1), .val (.ref b9), .val (.ref b15), .val (.ref b65), .val (.int (0 : Int32)), .val (.int (0 : Int32)), .val (.ref b77), .val (.int (1 : Int32)), .val (.int (1 : Int32)), .unset] [(.ref b77)])) rfl (by rw [hml]; rfl) (Steps.refl _) (argsL := []) (rest := []) (lenOf pd_3 rfl) rfl (by show 2 * 0 + _ ≤ _; exact Nat.le_of_eq rfl) (hb hby at_192) (fun _ _ => ⟨rfl, K81, (by decide : 11 + 0 ≤ _), (by decide : 22 + 0 ≤ _)⟩)
          dsimp only [Pt.U, Pt.locs, Pt.cells, Pt.slots] at X82 l82 y82 z82 st82 hQ82
          subst l82 y82 z82
          obtain ⟨rfl, N82q, K82⟩ := hQ82
          have N82 := Fr.app N81 N82q
          refine Goes.tr st82 ?_
          show Goes _ _ _ _ (T82.setTop (mkF m 195 #[.val (.int p0), .val (.int p1), .val (.int p2), .val (.ref b1), .val (.ref b9), .val (.ref b15), .val (.ref b65), .val (.int (0 : Int32)), .val (.int (0 : Int32)), .val (.ref b77), .val (.int (1 : Int32)), .val (.int (1 : Int32)), .unset] [(.int (1 : Int32))]))
          refine Goes.st (fun t k => XS.iload X82.here hx rfl (hb hby at_195) rfl k) ?_
          show Goes _ _ _ _ (T82.setTop (mkF m 197 #[.val (.int p0), .val (.int p1), .val (.int p2), .val (.ref b1), .val (.ref b9), .val (.ref b15), .val (.ref b65), .val (.int (0 : Int32)), .val (.int (0 : Int32)), .val (.ref b77), .val (.int (1 : Int32)), .val (.int (1 : Int32)), .unset] [(.int (0 : Int32)), (.int (1 : Int32))]))
          refine Goes.st (fun t k => XS.ifNo X82.here hx rfl (hb hby at_197) rfl ((if0 _ _).trans (teq (by decide : (0 : Int32) = (0 : Int32))).2) k) ?_
          show Goes _ _ _ _ (T82.setTop (mkF m 200 #[.val (.int p0), .val (.int p1), .val (.int p2), .val (.ref b1), .val (.ref b9), .val (.ref b15), .val (.ref b65), .val (.int (0 : Int32)), .val (.int (0 : Int32)), .val (.ref b77), .val (.int (1 : Int32)), .val (.int (1 : Int32)), .unset] [(.int (1 : Int32))]))
          refine Goes.st (fun t k => XS.iload X82.here hx rfl (hb hby at_200) rfl k) ?_
          show Goes _ _ _ _ (T82.setTop (mkF m 202 #[.val (.int p0), .val (.int p1), .val (.int p2), .val (.ref b1), .val (.ref b9), .val (.ref b15), .val (.ref b65), .val (.int (0 : Int32)), .val (.int (0 : Int32)), .val (.ref b77), .val (.int (1 : Int32)), .val (.int (1 : Int32)), .unset] [(.int (0 : Int32)), (.int (1 : Int32))]))
          refine Goes.st (fun t k => XS.ifNo X82.here hx rfl (hb hby at_202) rfl ((if0 _ _).trans (teq (by decide : (0 : Int32) = (0 : Int32))).2) k) ?_
          show Goes _ _ _ _ (T82.setTop (mkF m 205 #[.val (.int p0), .val (.int p1), .val (.int p2), .val (.ref b1), .val (.ref b9), .val (.ref b15), .val (.ref b65), .val (.int (0 : Int32)), .val (.int (0 : Int32)), .val (.ref b77), .val (.int (1 : Int32)), .val (.int (1 : Int32)), .unset] [(.int (1 : Int32))]))
          refine Goes.st (fun t k => XS.iconst X82.here hx rfl (hb hby at_205) k) ?_
          show Goes _ _ _ _ (T82.setTop (mkF m 206 #[.val (.int p0), .val (.int p1), .val (.int p2), .val (.ref b1), .val (.ref b9), .val (.ref b15), .val (.ref b65), .val (.int (0 : Int32)), .val (.int (0 : Int32)), .val (.ref b77), .val (.int (1 : Int32)), .val (.int (1 : Int32)), .unset] [(.int (1 : Int32)), (.int (1 : Int32))]))
          refine Goes.st (fun t k => XS.goto X82.here hx rfl (pc0 := 206) (pc' := 210) rfl (hb hby at_206) (by decide) (by decide) k) ?_
          show Goes _ _ _ _ (T82.setTop (mkF m 210 #[.val (.int p0), .val (.int p1), .val (.int p2), .val (.ref b1), .val (.ref b9), .val (.ref b15), .val (.ref b65), .val (.int (0 : Int32)), .val (.int (0 : Int32)), .val (.ref b77), .val (.int (1 : Int32)), .val (.int (1 : Int32)), .unset] [(.int (1 : Int32)), (.int (1 : Int32))]))
          refine Goes.st (fun t k => XS.icmpNo X82.here hx rfl (hb hby at_210) rfl (teq (by decide : (1 : Int32) = (1 : Int32))).2 k) ?_
          show Goes _ _ _ _ (T82.setTop (mkF m 213 #[.val (.int p0), .val (.int p1), .val (.int p2), .val (.ref b1), .val (.ref b9), .val (.ref b15), .val (.ref b65), .val (.int (0 : Int32)), .val (.int (0 : Int32)), .val (.ref b77), .val (.int (1 : Int32)), .val (.int (1 : Int32)), .unset] []))
          refine Goes.st (fun t k => XS.iconst X82.here hx rfl (hb hby at_213) k) ?_
          show Goes _ _ _ _ (T82.setTop (mkF m 214 #[.val (.int p0), .val (.int p1), .val (.int p2), .val (.ref b1), .val (.ref b9), .val (.ref b15), .val (.ref b65), .val (.int (0 : Int32)), .val (.int (0 : Int32)), .val (.ref b77), .val (.int (1 : Int32)), .val (.int (1 : Int32)), .unset] [(.int (1 : Int32))]))
          refine Goes.st (fun t k => XS.goto X82.here hx rfl (pc0 := 214) (pc' := 218) rfl (hb hby at_214) (by decide) (by decide) k) ?_
          show Goes _ _ _ _ (T82.setTop (mkF m 218 #[.val (.int p0), .val (.int p1), .val (.int p2), .val (.ref b1), .val (.ref b9), .val (.ref b15), .val (.ref b65), .val (.int (0 : Int32)), .val (.int (0 : Int32)), .val (.ref b77), .val (.int (1 : Int32)), .val (.int (1 : Int32)), .unset] [(.int (1 : Int32))]))
          refine Goes.st (fun t k => XS.istore X82.here hx rfl (hb hby at_218) rfl (l' := #[.val (.int p0), .val (.int p1), .val (.int p2), .val (.ref b1), .val (.ref b9), .val (.ref b15), .val (.ref b65), .val (.int (0 : Int32)), .val (.int (0 : Int32)), .val (.ref b77), .val (.int (1 : Int32)), .val (.int (1 : Int32)), .val (.int (1 : Int32))]) rfl k) ?_
          show Goes _ _ _ _ (T82.setTop (mkF m 220 #[.val (.int p0), .val (.int p1), .val (.int p2), .val (.ref b1), .val (.ref b9), .val (.ref b15), .val (.ref b65), .val (.int (0 : Int32)), .val (.int (0 : Int32)), .val (.ref b77), .val (.int (1 : Int32)), .val (.int (1 : Int32)), .val (.int (1 : Int32))] []))
          refine Goes.st (fun t k => XS.iload X82.here hx rfl (hb hby at_220) rfl k) ?_
          show Goes _ _ _ _ (T82.setTop (mkF m 222 #[.val (.int p0), .val (.int p1), .val (.int p2), .val (.ref b1), .val (.ref b9), .val (.ref b15), .val (.ref b65), .val (.int (0 : Int32)), .val (.int (0 : Int32)), .val (.ref b77), .val (.int (1 : Int32)), .val (.int (1 : Int32)), .val (.int (1 : Int32))] [(.int (1 : Int32))]))
          refine Goes.st (fun t k => XS.ifNo X82.here hx rfl (hb hby at_222) rfl ((if0 _ _).trans (feq (by decide : ¬ ((1 : Int32) = (0 : Int32)))).1) k) ?_
          show Goes _ _ _ _ (T82.setTop (mkF m 225 #[.val (.int p0), .val (.int p1), .val (.int p2), .val (.ref b1), .val (.ref b9), .val (.ref b15), .val (.ref b65), .val (.int (0 : Int32)), .val (.int (0 : Int32)), .val (.ref b77), .val (.int (1 : Int32)), .val (.int (1 : Int32)), .val (.int (1 : Int32))] []))
          refine Goes.st (fun t k => XS.iload X82.here hx rfl (hb hby at_225) rfl k) ?_
          show Goes _ _ _ _ (T82.setTop (mkF m 227 #[.val (.int p0), .val (.int p1), .val (.int p2), .val (.ref b1), .val (.ref b9), .val (.ref b15), .val (.ref b65), .val (.int (0 : Int32)), .val (.int (0 : Int32)), .val (.ref b77), .val (.int (1 : Int32)), .val (.int (1 : Int32)), .val (.int (1 : Int32))] [(.int (1 : Int32))]))
          refine Goes.st (fun t k => XS.ifNo X82.here hx rfl (hb hby at_227) rfl ((if0 _ _).trans (feq (by decide : ¬ ((1 : Int32) = (0 : Int32)))).1) k) ?_
          show Goes _ _ _ _ (T82.setTop (mkF m 230 #[.val (.int p0), .val (.int p1), .val (.int p2), .val (.ref b1), .val (.ref b9), .val (.ref b15), .val (.ref b65), .val (.int (0 : Int32)), .val (.int (0 : Int32)), .val (.ref b77), .val (.int (1 : Int32)), .val (.int (1 : Int32)), .val (.int (1 : Int32))] []))
          refine Goes.st (fun t k => XS.iload X82.here hx rfl (hb hby at_230) rfl k) ?_
          show Goes _ _ _ _ (T82.setTop (mkF m 232 #[.val (.int p0), .val (.int p1), .val (.int p2), .val (.ref b1), .val (.ref b9), .val (.ref b15), .val (.ref b65), .val (.int (0 : Int32)), .val (.int (0 : Int32)), .val (.ref b77), .val (.int (1 : Int32)), .val (.int (1 : Int32)), .val (.int (1 : Int32))] [(.int (1 : Int32))]))
          refine Goes.st (fun t k => XS.ifNo X82.here hx rfl (hb hby at_232) rfl ((if0 _ _).trans (feq (by decide : ¬ ((1 : Int32) = (0 : Int32)))).1) k) ?_
          show Goes _ _ _ _ (T82.setTop (mkF m 235 #[.val (.int p0), .val (.int p1), .val (.int p2), .val (.ref b1), .val (.ref b9), .val (.ref b15), .val (.ref b65), .val (.int (0 : Int32)), .val (.int (0 : Int32)), .val (.ref b77), .val (.int (1 : Int32)), .val (.int (1 : Int32)), .val (.int (1 : Int32))] []))
          refine Goes.st (fun t k => XS.iconst X82.here hx rfl (hb hby at_235) k) ?_
          show Goes _ _ _ _ (T82.setTop (mkF m 236 #[.val (.int p0), .val (.int p1), .val (.int p2), .val (.ref b1), .val (.ref b9), .val (.ref b15), .val (.ref b65), .val (.int (0 : Int32)), .val (.int (0 : Int32)), .val (.ref b77), .val (.int (1 : Int32)), .val (.int (1 : Int32)), .val (.int (1 : Int32))] [(.int (1 : Int32))]))
          refine Goes.st (fun t k => XS.goto X82.here hx rfl (pc0 := 236) (pc' := 240) rfl (hb hby at_236) (by decide) (by decide) k) ?_
          show Goes _ _ _ _ (T82.setTop (mkF m 240 #[.val (.int p0), .val (.int p1), .val (.int p2), .val (.ref b1), .val (.ref b9), .val (.ref b15), .val (.ref b65), .val (.int (0 : Int32)), .val (.int (0 : Int32)), .val (.ref b77), .val (.int (1 : Int32)), .val (.int (1 : Int32)), .val (.int (1 : Int32))] [(.int (1 : Int32))]))
          obtain ⟨fs, hr, hrun, hended, hRW⟩ := X82.leaveW hS69 (by rw [K82]; exact (Nat.le_trans (Nat.le_refl _) E77.1)) (v := some (.int (1 : Int32))) (fun h => by rw [Bd.returns] at h; cases h)
          subst hQQ
          have hCR : CHr Z EL s.vm s.heap T82.vm T82.heap := by rw [hh, K82]; exact CR78.trans (CHv.at X82 hZ69 (own_EW hw) CR78.1)
          refine ⟨_, _, retN X82 hx (t := .boolean) Bd.returns (by simp) (hb hby at_240) hr, hrun, hended, _, _, rfl, ?_, hCR, own_REmono hRW (by decide) (by decide)⟩
          show Q_law Z p0 p1 p2 G1 h0 n0 _ T82.heap _
          rw [K82]
          exact ⟨rfl, N82⟩
        case neg =>
          refine Goes.st (fun t k => XS.ifNo X69.here hx rfl (hb hby at_115) rfl ((if0 _ _).trans (feq c76).1) k) ?_
          show Goes _ _ _ _ (T69.setTop (mkF m 118 #[.val (.int p0), .val (.int p1), .val (.int p2), .val (.ref b1), .val (.ref b9), .val (.ref b15), .val (.ref b65), .val (.int (0 : Int32)), .unset, .unset, .unset, .unset, .unset] []))
          refine Goes.st (fun t k => XS.iconst X69.here hx rfl (hb hby at_118) k) ?_
          show Goes _ _ _ _ (T69.setTop (mkF m 119 #[.val (.int p0), .val (.int p1), .val (.int p2), .val (.ref b1), .val (.ref b9), .val (.ref b15), .val (.ref b65), .val (.int (0 : Int32)), .unset, .unset, .unset, .unset, .unset] [(.int (1 : Int32))]))
          refine Goes.st (fun t k => XS.goto X69.here hx rfl (pc0 := 119) (pc' := 123) rfl (hb hby at_119) (by decide) (by decide) k) ?_
          show Goes _ _ _ _ (T69.setTop (mkF m 123 #[.val (.int p0), .val (.int p1), .val (.int p2), .val (.ref b1), .val (.ref b9), .val (.ref b15), .val (.ref b65), .val (.int (0 : Int32)), .unset, .unset, .unset, .unset, .unset] [(.int (1 : Int32))]))
          refine Goes.st (fun t k => XS.istore X69.here hx rfl (hb hby at_123) rfl (l' := #[.val (.int p0), .val (.int p1), .val (.int p2), .val (.ref b1), .val (.ref b9), .val (.ref b15), .val (.ref b65), .val (.int (0 : Int32)), .val (.int (1 : Int32)), .unset, .unset, .unset, .unset]) rfl k) ?_
          show Goes _ _ _ _ (T69.setTop (mkF m 125 #[.val (.int p0), .val (.int p1), .val (.int p2), .val (.ref b1), .val (.ref b9), .val (.ref b15), .val (.ref b65), .val (.int (0 : Int32)), .val (.int (1 : Int32)), .unset, .unset, .unset, .unset] []))
          obtain ⟨T83, h83, X83, e83, E83, A83, D83, -, st83⟩ := newO X69 hx hZ69 hown69 (hw30 hw) (hw31 hw) (hw32 hw) rfl (g := (mkF m 125 #[.val (.int p0), .val (.int p1), .val (.int p2), .val (.ref b1), .val (.ref b9), .val (.ref b15), .val (.ref b65), .val (.int (0 : Int32)), .val (.int (1 : Int32)), .unset, .unset, .unset, .unset] [])) rfl (hb hby at_125) (by decide) (by decide)
          obtain ⟨b83, g83⟩ : ∃ z, z = T69.heap.size := ⟨_, rfl⟩
          rw [← g83] at A83 D83 st83
          have CR84 : CHr Z EL s.vm h0 T69.vm h83 := CR74.trans (CHr.ext E83 CR74.1)
          have sf84_b65 : Safe Z EL T69.vm h83 b65 := Safe.ext E83 CR74.1 sf74_b65
          have F83_reason : Fld Z h83 b83 "com/example/tenon/tenon/registry/Validity" "reason" "Ljava/lang/String;" .null := D83 (Or.inl (hw43 hw)) (ty := (.object "java/lang/String")) (by decide)
          refine Goes.st st83 ?_
          show Goes _ _ _ _ (T83.setTop (mkF m 128 #[.val (.int p0), .val (.int p1), .val (.int p2), .val (.ref b1), .val (.ref b9), .val (.ref b15), .val (.ref b65), .val (.int (0 : Int32)), .val (.int (1 : Int32)), .unset, .unset, .unset, .unset] [(.ref b83)]))
          refine Goes.st (fun t k => XS.dup X83.here hx rfl (hb hby at_128) rfl rfl k) ?_
          show Goes _ _ _ _ (T83.setTop (mkF m 129 #[.val (.int p0), .val (.int p1), .val (.int p2), .val (.ref b1), .val (.ref b9), .val (.ref b15), .val (.ref b65), .val (.int (0 : Int32)), .val (.int (1 : Int32)), .unset, .unset, .unset, .unset] [(.ref b83), (.ref b83)]))
          obtain ⟨_, _, ⟨T85, L85, k85, n85⟩, -, X85, ⟨Lc85, hQ85, l85, y85, z85⟩, st85⟩ := X83.specialBack hx (y := (⟨"com/example/tenon/tenon/registry/Validity", "<init>", "()V"⟩ : MethodName)) rfl hown69 (mvT hZ69 (hw33 hw)) (mvT hZ69 (hw34 hw)) (mvT hZ69 (hw35 hw)) (by decide) (backOf (W := 1) (rm_vinit l Z a0 hw [] b83 h83 n0 (Nat.le_trans Z0 (Nat.le_trans (Nat.le_trans (Nat.le_trans (Nat.le_trans (Nat.le_trans (Nat.le_trans (Nat.le_trans (Nat.le_trans (Nat.le_trans (Nat.le_trans E1.1 (Nat.le_of_eq W4.size.symm)) (Nat.le_of_eq W7.size.symm)) E9.1) (Nat.le_of_eq W12.size.symm)) E15.1) K17.1) E65.1) E67.1) K69.1) E83.1)) ) hZ69 (hw35 hw) (hw32 hw) (by decide) (by decide)) (g := (mkF m 129 #[.val (.int p0), .val (.int p1), .val (.int p2), .val (.ref b1), .val (.ref b9), .val (.ref b15), .val (.ref b65), .val (.int (0 : Int32)), .val (.int (1 : Int32)), .unset, .unset, .unset, .unset] [(.ref b83), (.ref b83)])) rfl (by rw [hml]; rfl) (Steps.refl _) (a := b83) (argsL := []) (rest := [(.ref b83)]) (lenOf pd_2 rfl) rfl (by show 2 * 0 + _ ≤ _; exact Nat.le_of_eq rfl) (hb hby at_129) (fun _ _ => ⟨rfl, e83, (by decide : 11 + 0 ≤ _), (by decide : 22 + 0 ≤ _)⟩)
          dsimp only [Pt.U, Pt.locs, Pt.cells, Pt.slots] at X85 l85 y85 z85 st85 hQ85
          subst l85 y85 z85
          obtain ⟨rfl, N85q, K85⟩ := hQ85
          have N85 := Fr.app N69 N85q
          refine Goes.tr st85 ?_
          show Goes _ _ _ _ (T85.setTop (mkF m 132 #[.val (.int p0), .val (.int p1), .val (.int p2), .val (.ref b1), .val (.ref b9), .val (.ref b15), .val (.ref b65), .val (.int (0 : Int32)), .val (.int (1 : Int32)), .unset, .unset, .unset, .unset] [(.ref b83)]))
          refine Goes.st (fun t k => XS.astore X85.here hx rfl (hb hby at_132) rfl rfl (l' := #[.val (.int p0), .val (.int p1), .val (.int p2), .val (.ref b1), .val (.ref b9), .val (.ref b15), .val (.ref b65), .val (.int (0 : Int32)), .val (.int (1 : Int32)), .val (.ref b83), .unset, .unset, .unset]) rfl k) ?_
          show Goes _ _ _ _ (T85.setTop (mkF m 134 #[.val (.int p0), .val (.int p1), .val (.int p2), .val (.ref b1), .val (.ref b9), .val (.ref b15), .val (.ref b65), .val (.int (0 : Int32)), .val (.int (1 : Int32)), .val (.ref b83), .unset, .unset, .unset] []))
          refine Goes.st (fun t k => XS.aload X85.here hx rfl (hb hby at_134) rfl rfl k) ?_
          show Goes _ _ _ _ (T85.setTop (mkF m 136 #[.val (.int p0), .val (.int p1), .val (.int p2), .val (.ref b1), .val (.ref b9), .val (.ref b15), .val (.ref b65), .val (.int (0 : Int32)), .val (.int (1 : Int32)), .val (.ref b83), .unset, .unset, .unset] [(.ref b83)]))
          obtain ⟨cq86, kq86, q86a, q86b, q86c⟩ := isOf hZ69 K85 A83
          obtain ⟨_, _, ⟨T86, L86, k86, n86⟩, -, X86, ⟨Lc86, hQ86, l86, y86, z86⟩, st86⟩ := X85.virtualBack hx (y := (⟨"com/example/tenon/tenon/registry/Validity", "isValid", "()Z"⟩ : MethodName)) (z := (⟨"com/example/tenon/tenon/registry/Validity", "isValid", "()Z"⟩ : MethodName)) hown69 (mvT hZ69 (hw37 hw)) (mvT hZ69 (hw38 hw)) (notFace_of_selects (args := #[]) (mvT hZ69 (hw40 hw))) (mvT hZ69 (hw40 hw)) (mvT hZ69 (hw39 hw)) (by decide) (backOf (W := 0) (rm_ivN l Z a0 hw [] b83 h83 n0 (Nat.le_trans Z0 (Nat.le_trans (Nat.le_trans (Nat.le_trans (Nat.le_trans (Nat.le_trans (Nat.le_trans (Nat.le_trans (Nat.le_trans (Nat.le_trans (Nat.le_trans E1.1 (Nat.le_of_eq W4.size.symm)) (Nat.le_of_eq W7.size.symm)) E9.1) (Nat.le_of_eq W12.size.symm)) E15.1) K17.1) E65.1) E67.1) K69.1) E83.1)) F83_reason) hZ69 (hw41 hw) (hw32 hw) (by decide) (by decide)) q86a q86c (g := (mkF m 136 #[.val (.int p0), .val (.int p1), .val (.int p2), .val (.ref b1), .val (.ref b9), .val (.ref b15), .val (.ref b65), .val (.int (0 : Int32)), .val (.int (1 : Int32)), .val (.ref b83), .unset, .unset, .unset] [(.ref b83)])) rfl (by rw [hml]; rfl) (Steps.refl _) (argsL := []) (rest := []) (lenOf pd_3 rfl) rfl (by show 2 * 0 + _ ≤ _; exact Nat.le_of_eq rfl) (hb hby at_136) (fun _ _ => ⟨rfl, K85, (by decide : 11 + 0 ≤ _), (by decide : 22 + 0 ≤ _)⟩)
          dsimp only [Pt.U, Pt.locs, Pt.cells, Pt.slots] at X86 l86 y86 z86 st86 hQ86
          subst l86 y86 z86
          obtain ⟨rfl, N86q, K86⟩ := hQ86
          have N86 := Fr.app N85 N86q
          refine Goes.tr st86 ?_
          show Goes _ _ _ _ (T86.setTop (mkF m 139 #[.val (.int p0), .val (.int p1), .val (.int p2), .val (.ref b1), .val (.ref b9), .val (.ref b15), .val (.ref b65), .val (.int (0 : Int32)), .val (.int (1 : Int32)), .val (.ref b83), .unset, .unset, .unset] [(.int (1 : Int32))]))
          refine Goes.st (fun t k => XS.istore X86.here hx rfl (hb hby at_139) rfl (l' := #[.val (.int p0), .val (.int p1), .val (.int p2), .val (.ref b1), .val (.ref b9), .val (.ref b15), .val (.ref b65), .val (.int (0 : Int32)), .val (.int (1 : Int32)), .val (.ref b83), .val (.int (1 : Int32)), .unset, .unset]) rfl k) ?_
          show Goes _ _ _ _ (T86.setTop (mkF m 141 #[.val (.int p0), .val (.int p1), .val (.int p2), .val (.ref b1), .val (.ref b9), .val (.ref b15), .val (.ref b65), .val (.int (0 : Int32)), .val (.int (1 : Int32)), .val (.ref b83), .val (.int (1 : Int32)), .unset, .unset] []))
          refine Goes.st (fun t k => XS.iload X86.here hx rfl (hb hby at_141) rfl k) ?_
          show Goes _ _ _ _ (T86.setTop (mkF m 143 #[.val (.int p0), .val (.int p1), .val (.int p2), .val (.ref b1), .val (.ref b9), .val (.ref b15), .val (.ref b65), .val (.int (0 : Int32)), .val (.int (1 : Int32)), .val (.ref b83), .val (.int (1 : Int32)), .unset, .unset] [(.int (0 : Int32))]))
          refine Goes.st (fun t k => XS.ifYes X86.here hx rfl (pc0 := 143) (pc' := 153) rfl (hb hby at_143) rfl ((if0 _ _).trans (teq (by decide : (0 : Int32) = (0 : Int32))).1) (by decide) (by decide) k) ?_
          show Goes _ _ _ _ (T86.setTop (mkF m 153 #[.val (.int p0), .val (.int p1), .val (.int p2), .val (.ref b1), .val (.ref b9), .val (.ref b15), .val (.ref b65), .val (.int (0 : Int32)), .val (.int (1 : Int32)), .val (.ref b83), .val (.int (1 : Int32)), .unset, .unset] []))
          refine Goes.st (fun t k => XS.aload X86.here hx rfl (hb hby at_153) rfl rfl k) ?_
          show Goes _ _ _ _ (T86.setTop (mkF m 155 #[.val (.int p0), .val (.int p1), .val (.int p2), .val (.ref b1), .val (.ref b9), .val (.ref b15), .val (.ref b65), .val (.int (0 : Int32)), .val (.int (1 : Int32)), .val (.ref b83), .val (.int (1 : Int32)), .unset, .unset] [(.ref b83)]))
          obtain ⟨cq87, kq87, q87a, q87b, q87c⟩ := isOf hZ69 K86 A83
          obtain ⟨_, _, ⟨T87, L87, k87, n87⟩, -, X87, ⟨Lc87, hQ87, l87, y87, z87⟩, st87⟩ := X86.virtualBack hx (y := (⟨"com/example/tenon/tenon/registry/Validity", "isValid", "()Z"⟩ : MethodName)) (z := (⟨"com/example/tenon/tenon/registry/Validity", "isValid", "()Z"⟩ : MethodName)) hown69 (mvT hZ69 (hw37 hw)) (mvT hZ69 (hw38 hw)) (notFace_of_selects (args := #[]) (mvT hZ69 (hw40 hw))) (mvT hZ69 (hw40 hw)) (mvT hZ69 (hw39 hw)) (by decide) (backOf (W := 0) (rm_ivN l Z a0 hw [] b83 h83 n0 (Nat.le_trans Z0 (Nat.le_trans (Nat.le_trans (Nat.le_trans (Nat.le_trans (Nat.le_trans (Nat.le_trans (Nat.le_trans (Nat.le_trans (Nat.le_trans (Nat.le_trans E1.1 (Nat.le_of_eq W4.size.symm)) (Nat.le_of_eq W7.size.symm)) E9.1) (Nat.le_of_eq W12.size.symm)) E15.1) K17.1) E65.1) E67.1) K69.1) E83.1)) F83_reason) hZ69 (hw41 hw) (hw32 hw) (by decide) (by decide)) q87a q87c (g := (mkF m 155 #[.val (.int p0), .val (.int p1), .val (.int p2), .val (.ref b1), .val (.ref b9), .val (.ref b15), .val (.ref b65), .val (.int (0 : Int32)), .val (.int (1 : Int32)), .val (.ref b83), .val (.int (1 : Int32)), .unset, .unset] [(.ref b83)])) rfl (by rw [hml]; rfl) (Steps.refl _) (argsL := []) (rest := []) (lenOf pd_3 rfl) rfl (by show 2 * 0 + _ ≤ _; exact Nat.le_of_eq rfl) (hb hby at_155) (fun _ _ => ⟨rfl, K86, (by decide : 11 + 0 ≤ _), (by decide : 22 + 0 ≤ _)⟩)
          dsimp only [Pt.U, Pt.locs, Pt.cells, Pt.slots] at X87 l87 y87 z87 st87 hQ87
          subst l87 y87 z87
          obtain ⟨rfl, N87q, K87⟩ := hQ87
          have N87 := Fr.app N86 N87q
          refine Goes.tr st87 ?_
          show Goes _ _ _ _ (T87.setTop (mkF m 158 #[.val (.int p0), .val (.int p1), .val (.int p2), .val (.ref b1), .val (.ref b9), .val (.ref b15), .val (.ref b65), .val (.int (0 : Int32)), .val (.int (1 : Int32)), .val (.ref b83), .val (.int (1 : Int32)), .unset, .unset] [(.int (1 : Int32))]))
          refine Goes.st (fun t k => XS.iload X87.here hx rfl (hb hby at_158) rfl k) ?_
          show Goes _ _ _ _ (T87.setTop (mkF m 160 #[.val (.int p0), .val (.int p1), .val (.int p2), .val (.ref b1), .val (.ref b9), .val (.ref b15), .val (.ref b65), .val (.int (0 : Int32)), .val (.int (1 : Int32)), .val (.ref b83), .val (.int (1 : Int32)), .unset, .unset] [(.int (0 : Int32)), (.int (1 : Int32))]))
          refine Goes.st (fun t k => XS.ifNo X87.here hx rfl (hb hby at_160) rfl ((if0 _ _).trans (teq (by decide : (0 : Int32) = (0 : Int32))).2) k) ?_
          show Goes _ _ _ _ (T87.setTop (mkF m 163 #[.val (.int p0), .val (.int p1), .val (.int p2), .val (.ref b1), .val (.ref b9), .val (.ref b15), .val (.ref b65), .val (.int (0 : Int32)), .val (.int (1 : Int32)), .val (.ref b83), .val (.int (1 : Int32)), .unset, .unset] [(.int (1 : Int32))]))
          refine Goes.st (fun t k => XS.iconst X87.here hx rfl (hb hby at_163) k) ?_
          show Goes _ _ _ _ (T87.setTop (mkF m 164 #[.val (.int p0), .val (.int p1), .val (.int p2), .val (.ref b1), .val (.ref b9), .val (.ref b15), .val (.ref b65), .val (.int (0 : Int32)), .val (.int (1 : Int32)), .val (.ref b83), .val (.int (1 : Int32)), .unset, .unset] [(.int (1 : Int32)), (.int (1 : Int32))]))
          refine Goes.st (fun t k => XS.goto X87.here hx rfl (pc0 := 164) (pc' := 168) rfl (hb hby at_164) (by decide) (by decide) k) ?_
          show Goes _ _ _ _ (T87.setTop (mkF m 168 #[.val (.int p0), .val (.int p1), .val (.int p2), .val (.ref b1), .val (.ref b9), .val (.ref b15), .val (.ref b65), .val (.int (0 : Int32)), .val (.int (1 : Int32)), .val (.ref b83), .val (.int (1 : Int32)), .unset, .unset] [(.int (1 : Int32)), (.int (1 : Int32))]))
          refine Goes.st (fun t k => XS.icmpNo X87.here hx rfl (hb hby at_168) rfl (teq (by decide : (1 : Int32) = (1 : Int32))).2 k) ?_
          show Goes _ _ _ _ (T87.setTop (mkF m 171 #[.val (.int p0), .val (.int p1), .val (.int p2), .val (.ref b1), .val (.ref b9), .val (.ref b15), .val (.ref b65), .val (.int (0 : Int32)), .val (.int (1 : Int32)), .val (.ref b83), .val (.int (1 : Int32)), .unset, .unset] []))
          refine Goes.st (fun t k => XS.iconst X87.here hx rfl (hb hby at_171) k) ?_
          show Goes _ _ _ _ (T87.setTop (mkF m 172 #[.val (.int p0), .val (.int p1), .val (.int p2), .val (.ref b1), .val (.ref b9), .val (.ref b15), .val (.ref b65), .val (.int (0 : Int32)), .val (.int (1 : Int32)), .val (.ref b83), .val (.int (1 : Int32)), .unset, .unset] [(.int (1 : Int32))]))
          refine Goes.st (fun t k => XS.goto X87.here hx rfl (pc0 := 172) (pc' := 176) rfl (hb hby at_172) (by decide) (by decide) k) ?_
          show Goes _ _ _ _ (T87.setTop (mkF m 176 #[.val (.int p0), .val (.int p1), .val (.int p2), .val (.ref b1), .val (.ref b9), .val (.ref b15), .val (.ref b65), .val (.int (0 : Int32)), .val (.int (1 : Int32)), .val (.ref b83), .val (.int (1 : Int32)), .unset, .unset] [(.int (1 : Int32))]))
          refine Goes.st (fun t k => XS.istore X87.here hx rfl (hb hby at_176) rfl (l' := #[.val (.int p0), .val (.int p1), .val (.int p2), .val (.ref b1), .val (.ref b9), .val (.ref b15), .val (.ref b65), .val (.int (0 : Int32)), .val (.int (1 : Int32)), .val (.ref b83), .val (.int (1 : Int32)), .val (.int (1 : Int32)), .unset]) rfl k) ?_
          show Goes _ _ _ _ (T87.setTop (mkF m 178 #[.val (.int p0), .val (.int p1), .val (.int p2), .val (.ref b1), .val (.ref b9), .val (.ref b15), .val (.ref b65), .val (.int (0 : Int32)), .val (.int (1 : Int32)), .val (.ref b83), .val (.int (1 : Int32)), .val (.int (1 : Int32)), .unset] []))
          refine Goes.st (fun t k => XS.iload X87.here hx rfl (hb hby at_178) rfl k) ?_
          show Goes _ _ _ _ (T87.setTop (mkF m 180 #[.val (.int p0), .val (.int p1), .val (.int p2), .val (.ref b1), .val (.ref b9), .val (.ref b15), .val (.ref b65), .val (.int (0 : Int32)), .val (.int (1 : Int32)), .val (.ref b83), .val (.int (1 : Int32)), .val (.int (1 : Int32)), .unset] [(.int (1 : Int32))]))
          refine Goes.st (fun t k => XS.ifNo X87.here hx rfl (hb hby at_180) rfl ((if0 _ _).trans (feq (by decide : ¬ ((1 : Int32) = (0 : Int32)))).1) k) ?_
          show Goes _ _ _ _ (T87.setTop (mkF m 183 #[.val (.int p0), .val (.int p1), .val (.int p2), .val (.ref b1), .val (.ref b9), .val (.ref b15), .val (.ref b65), .val (.int (0 : Int32)), .val (.int (1 : Int32)), .val (.ref b83), .val (.int (1 : Int32)), .val (.int (1 : Int32)), .unset] []))
          refine Goes.st (fun t k => XS.aload X87.here hx rfl (hb hby at_183) rfl rfl k) ?_
          show Goes _ _ _ _ (T87.setTop (mkF m 185 #[.val (.int p0), .val (.int p1), .val (.int p2), .val (.ref b1), .val (.ref b9), .val (.ref b15), .val (.ref b65), .val (.int (0 : Int32)), .val (.int (1 : Int32)), .val (.ref b83), .val (.int (1 : Int32)), .val (.int (1 : Int32)), .unset] [(.ref b83)]))
          refine Goes.st (fun t k => XS.aload X87.here hx rfl (hb hby at_185) rfl rfl k) ?_
          show Goes _ _ _ _ (T87.setTop (mkF m 187 #[.val (.int p0), .val (.int p1), .val (.int p2), .val (.ref b1), .val (.ref b9), .val (.ref b15), .val (.ref b65), .val (.int (0 : Int32)), .val (.int (1 : Int32)), .val (.ref b83), .val (.int (1 : Int32)), .val (.int (1 : Int32)), .unset] [(.ref b65), (.ref b83)]))
          obtain ⟨cq88, kq88, q88a, q88b, q88c⟩ := isOf hZ69 K87 A83
          obtain ⟨_, _, ⟨T88, L88, k88, n88⟩, -, X88, ⟨Lc88, hQ88, l88, y88, z88⟩, st88⟩ := X87.virtualBack hx (y := (⟨"com/example/tenon/tenon/registry/Validity", "invalidate", "(Ljava/lang/String;)V"⟩ : MethodName)) (z := (⟨"com/example/tenon/tenon/registry/Validity", "invalidate", "(Ljava/lang/String;)V"⟩ : MethodName)) hown69 (mvT hZ69 (hw44 hw)) (mvT hZ69 (hw45 hw)) (notFace_of_selects (args := #[]) (mvT hZ69 (hw47 hw))) (mvT hZ69 (hw47 hw)) (mvT hZ69 (hw46 hw)) (by decide) (backOf (W := 0) (rm_inv l Z a0 hw [] b83 b65 (Value.null) h83 n0 (Nat.le_trans Z0 (Nat.le_trans (Nat.le_trans (Nat.le_trans (Nat.le_trans (Nat.le_trans (Nat.le_trans (Nat.le_trans (Nat.le_trans (Nat.le_trans (Nat.le_trans E1.1 (Nat.le_of_eq W4.size.symm)) (Nat.le_of_eq W7.size.symm)) E9.1) (Nat.le_of_eq W12.size.symm)) E15.1) K17.1) E65.1) E67.1) K69.1) E83.1)) A83 F83_reason (Nat.le_trans Z0 (Nat.le_trans (Nat.le_trans (Nat.le_trans (Nat.le_trans (Nat.le_trans (Nat.le_trans (Nat.le_trans (Nat.le_trans (Nat.le_trans (Nat.le_trans E1.1 (Nat.le_of_eq W4.size.symm)) (Nat.le_of_eq W7.size.symm)) E9.1) (Nat.le_of_eq W12.size.symm)) E15.1) K17.1) E65.1) E67.1) K69.1) (Nat.le_of_eq g83.symm)))) hZ69 (hw48 hw) (hw32 hw) (by decide) (by decide)) q88a q88c (g := (mkF m 187 #[.val (.int p0), .val (.int p1), .val (.int p2), .val (.ref b1), .val (.ref b9), .val (.ref b15), .val (.ref b65), .val (.int (0 : Int32)), .val (.int (1 : Int32)), .val (.ref b83), .val (.int (1 : Int32)), .val (.int (1 : Int32)), .unset] [(.ref b65), (.ref b83)])) rfl (by rw [hml]; rfl) (Steps.refl _) (argsL := [(.ref b65)]) (rest := []) (lenOf pd_4 rfl) rfl (by show 2 * 0 + _ ≤ _; exact Nat.le_of_eq rfl) (hb hby at_187) (fun _ _ => ⟨rfl, K87, (by decide : 11 + 0 ≤ _), (by decide : 22 + 0 ≤ _)⟩)
          dsimp only [Pt.U, Pt.locs, Pt.cells, Pt.slots] at X88 l88 y88 z88 st88 hQ88
          subst l88 y88 z88
          obtain ⟨rfl, N88q, K88, F88_0, F88_1⟩ := hQ88
          have N88 := Fr.app N87 N88q
          have hs89 : ∀ x ∈ ([b83] : List Addr), Safe Z EL T69.vm h83 x := (allS (Safe.exa hZ69.alike A83 (by decide) (by decide)) all0)
          have CR89 : CHr Z EL s.vm h0 T69.vm T88.heap := CR84.trans (CHr.keep K88 hs89 CR84.1)
          have sf89_b65 : Safe Z EL T69.vm T88.heap b65 := Safe.keep K88 hs89 CR84.1 sf84_b65
          refine Goes.tr st88 ?_
          show Goes _ _ _ _ (T88.setTop (mkF m 190 #[.val (.int p0), .val (.int p1), .val (.int p2), .val (.ref b1), .val (.ref b9), .val (.ref b15), .val (.ref b65), .val (.int (0 : Int32)), .val (.int (1 : Int32)), .val (.ref b83), .val (.int (1 : Int32)), .val (.int (1 : Int32)), .unset] []))
          refine Goes.st (fun t k => XS.aload X88.here hx rfl (hb hby at_190) rfl rfl k) ?_
          show Goes _ _ _ _ (T88.setTop (mkF m 192 #[.val (.int p0), .val (.int p1), .val (.int p2), .val (.ref b1), .val (.ref b9), .val (.ref b15), .val (.ref b65), .val (.int (0 : Int32)), .val (.int (1 : Int32)), .val (.ref b83), .val (.int (1 : Int32)), .val (.int (1 : Int32)), .unset] [(.ref b83)]))
          obtain ⟨cq90, kq90, q90a, q90b, q90c⟩ := isOf hZ69 rfl F88_0
          obtain ⟨_, _, ⟨T90, L90, k90, n90⟩, -, X90, ⟨Lc90, hQ90, l90, y90, z90⟩, st90⟩ := X88.virtualBack hx (y := (⟨"com/example/tenon/tenon/registry/Validity", "isValid", "()Z"⟩ : MethodName)) (z := (⟨"com/example/tenon/tenon/registry/Validity", "isValid", "()Z"⟩ : MethodName)) hown69 (mvT hZ69 (hw37 hw)) (mvT hZ69 (hw38 hw)) (notFace_of_selects (args := #[]) (mvT hZ69 (hw40 hw))) (mvT hZ69 (hw40 hw)) (mvT hZ69 (hw39 hw)) (by decide) (backOf (W := 0) (rm_ivR l Z a0 hw [] b83 b65 T88.heap n0 (Nat.le_trans Z0 (Nat.le_trans (Nat.le_trans (Nat.le_trans (Nat.le_trans (Nat.le_trans (Nat.le_trans (Nat.le_trans (Nat.le_trans (Nat.le_trans (Nat.le_trans (Nat.le_trans E1.1 (Nat.le_of_eq W4.size.symm)) (Nat.le_of_eq W7.size.symm)) E9.1) (Nat.le_of_eq W12.size.symm)) E15.1) K17.1) E65.1) E67.1) K69.1) E83.1) K88.1)) F88_1) hZ69 (hw41 hw) (hw32 hw) (by decide) (by decide)) q90a q90c (g := (mkF m 192 #[.val (.int p0), .val (.int p1), .val (.int p2), .val (.ref b1), .val (.ref b9), .val (.ref b15), .val (.ref b65), .val (.int (0 : Int32)), .val (.int (1 : Int32)), .val (.ref b83), .val (.int (1 : Int32)), .val (.int (1 : Int32)), .unset] [(.ref b83)])) rfl (by rw [hml]; rfl) (Steps.refl _) (argsL := []) (rest := []) (lenOf pd_3 rfl) rfl (by show 2 * 0 + _ ≤ _; exact Nat.le_of_eq rfl) (hb hby at_192) (fun _ _ => ⟨rfl, rfl, (by decide : 11 + 0 ≤ _), (by decide : 22 + 0 ≤ _)⟩)
          dsimp only [Pt.U, Pt.locs, Pt.cells, Pt.slots] at X90 l90 y90 z90 st90 hQ90
          subst l90 y90 z90
          obtain ⟨rfl, N90q, K90⟩ := hQ90
          have N90 := Fr.app N88 N90q
          refine Goes.tr st90 ?_
          show Goes _ _ _ _ (T90.setTop (mkF m 195 #[.val (.int p0), .val (.int p1), .val (.int p2), .val (.ref b1), .val (.ref b9), .val (.ref b15), .val (.ref b65), .val (.int (0 : Int32)), .val (.int (1 : Int32)), .val (.ref b83), .val (.int (1 : Int32)), .val (.int (1 : Int32)), .unset] [(.int (0 : Int32))]))
          refine Goes.st (fun t k => XS.iload X90.here hx rfl (hb hby at_195) rfl k) ?_
          show Goes _ _ _ _ (T90.setTop (mkF m 197 #[.val (.int p0), .val (.int p1), .val (.int p2), .val (.ref b1), .val (.ref b9), .val (.ref b15), .val (.ref b65), .val (.int (0 : Int32)), .val (.int (1 : Int32)), .val (.ref b83), .val (.int (1 : Int32)), .val (.int (1 : Int32)), .unset] [(.int (0 : Int32)), (.int (0 : Int32))]))
          refine Goes.st (fun t k => XS.ifNo X90.here hx rfl (hb hby at_197) rfl ((if0 _ _).trans (teq (by decide : (0 : Int32) = (0 : Int32))).2) k) ?_
          show Goes _ _ _ _ (T90.setTop (mkF m 200 #[.val (.int p0), .val (.int p1), .val (.int p2), .val (.ref b1), .val (.ref b9), .val (.ref b15), .val (.ref b65), .val (.int (0 : Int32)), .val (.int (1 : Int32)), .val (.ref b83), .val (.int (1 : Int32)), .val (.int (1 : Int32)), .unset] [(.int (0 : Int32))]))
          refine Goes.st (fun t k => XS.iload X90.here hx rfl (hb hby at_200) rfl k) ?_
          show Goes _ _ _ _ (T90.setTop (mkF m 202 #[.val (.int p0), .val (.int p1), .val (.int p2), .val (.ref b1), .val (.ref b9), .val (.ref b15), .val (.ref b65), .val (.int (0 : Int32)), .val (.int (1 : Int32)), .val (.ref b83), .val (.int (1 : Int32)), .val (.int (1 : Int32)), .unset] [(.int (1 : Int32)), (.int (0 : Int32))]))
          refine Goes.st (fun t k => XS.ifYes X90.here hx rfl (pc0 := 202) (pc' := 209) rfl (hb hby at_202) rfl ((if0 _ _).trans (feq (by decide : ¬ ((1 : Int32) = (0 : Int32)))).2) (by decide) (by decide) k) ?_
          show Goes _ _ _ _ (T90.setTop (mkF m 209 #[.val (.int p0), .val (.int p1), .val (.int p2), .val (.ref b1), .val (.ref b9), .val (.ref b15), .val (.ref b65), .val (.int (0 : Int32)), .val (.int (1 : Int32)), .val (.ref b83), .val (.int (1 : Int32)), .val (.int (1 : Int32)), .unset] [(.int (0 : Int32))]))
          refine Goes.st (fun t k => XS.iconst X90.here hx rfl (hb hby at_209) k) ?_
          show Goes _ _ _ _ (T90.setTop (mkF m 210 #[.val (.int p0), .val (.int p1), .val (.int p2), .val (.ref b1), .val (.ref b9), .val (.ref b15), .val (.ref b65), .val (.int (0 : Int32)), .val (.int (1 : Int32)), .val (.ref b83), .val (.int (1 : Int32)), .val (.int (1 : Int32)), .unset] [(.int (0 : Int32)), (.int (0 : Int32))]))
          refine Goes.st (fun t k => XS.icmpNo X90.here hx rfl (hb hby at_210) rfl (teq (by decide : (0 : Int32) = (0 : Int32))).2 k) ?_
          show Goes _ _ _ _ (T90.setTop (mkF m 213 #[.val (.int p0), .val (.int p1), .val (.int p2), .val (.ref b1), .val (.ref b9), .val (.ref b15), .val (.ref b65), .val (.int (0 : Int32)), .val (.int (1 : Int32)), .val (.ref b83), .val (.int (1 : Int32)), .val (.int (1 : Int32)), .unset] []))
          refine Goes.st (fun t k => XS.iconst X90.here hx rfl (hb hby at_213) k) ?_
          show Goes _ _ _ _ (T90.setTop (mkF m 214 #[.val (.int p0), .val (.int p1), .val (.int p2), .val (.ref b1), .val (.ref b9), .val (.ref b15), .val (.ref b65), .val (.int (0 : Int32)), .val (.int (1 : Int32)), .val (.ref b83), .val (.int (1 : Int32)), .val (.int (1 : Int32)), .unset] [(.int (1 : Int32))]))
          refine Goes.st (fun t k => XS.goto X90.here hx rfl (pc0 := 214) (pc' := 218) rfl (hb hby at_214) (by decide) (by decide) k) ?_
          show Goes _ _ _ _ (T90.setTop (mkF m 218 #[.val (.int p0), .val (.int p1), .val (.int p2), .val (.ref b1), .val (.ref b9), .val (.ref b15), .val (.ref b65), .val (.int (0 : Int32)), .val (.int (1 : Int32)), .val (.ref b83), .val (.int (1 : Int32)), .val (.int (1 : Int32)), .unset] [(.int (1 : Int32))]))
          refine Goes.st (fun t k => XS.istore X90.here hx rfl (hb hby at_218) rfl (l' := #[.val (.int p0), .val (.int p1), .val (.int p2), .val (.ref b1), .val (.ref b9), .val (.ref b15), .val (.ref b65), .val (.int (0 : Int32)), .val (.int (1 : Int32)), .val (.ref b83), .val (.int (1 : Int32)), .val (.int (1 : Int32)), .val (.int (1 : Int32))]) rfl k) ?_
          show Goes _ _ _ _ (T90.setTop (mkF m 220 #[.val (.int p0), .val (.int p1), .val (.int p2), .val (.ref b1), .val (.ref b9), .val (.ref b15), .val (.ref b65), .val (.int (0 : Int32)), .val (.int (1 : Int32)), .val (.ref b83), .val (.int (1 : Int32)), .val (.int (1 : Int32)), .val (.int (1 : Int32))] []))
          refine Goes.st (fun t k => XS.iload X90.here hx rfl (hb hby at_220) rfl k) ?_
          show Goes _ _ _ _ (T90.setTop (mkF m 222 #[.val (.int p0), .val (.int p1), .val (.int p2), .val (.ref b1), .val (.ref b9), .val (.ref b15), .val (.ref b65), .val (.int (0 : Int32)), .val (.int (1 : Int32)), .val (.ref b83), .val (.int (1 : Int32)), .val (.int (1 : Int32)), .val (.int (1 : Int32))] [(.int (1 : Int32))]))
          refine Goes.st (fun t k => XS.ifNo X90.here hx rfl (hb hby at_222) rfl ((if0 _ _).trans (feq (by decide : ¬ ((1 : Int32) = (0 : Int32)))).1) k) ?_
          show Goes _ _ _ _ (T90.setTop (mkF m 225 #[.val (.int p0), .val (.int p1), .val (.int p2), .val (.ref b1), .val (.ref b9), .val (.ref b15), .val (.ref b65), .val (.int (0 : Int32)), .val (.int (1 : Int32)), .val (.ref b83), .val (.int (1 : Int32)), .val (.int (1 : Int32)), .val (.int (1 : Int32))] []))
          refine Goes.st (fun t k => XS.iload X90.here hx rfl (hb hby at_225) rfl k) ?_
          show Goes _ _ _ _ (T90.setTop (mkF m 227 #[.val (.int p0), .val (.int p1), .val (.int p2), .val (.ref b1), .val (.ref b9), .val (.ref b15), .val (.ref b65), .val (.int (0 : Int32)), .val (.int (1 : Int32)), .val (.ref b83), .val (.int (1 : Int32)), .val (.int (1 : Int32)), .val (.int (1 : Int32))] [(.int (1 : Int32))]))
          refine Goes.st (fun t k => XS.ifNo X90.here hx rfl (hb hby at_227) rfl ((if0 _ _).trans (feq (by decide : ¬ ((1 : Int32) = (0 : Int32)))).1) k) ?_
          show Goes _ _ _ _ (T90.setTop (mkF m 230 #[.val (.int p0), .val (.int p1), .val (.int p2), .val (.ref b1), .val (.ref b9), .val (.ref b15), .val (.ref b65), .val (.int (0 : Int32)), .val (.int (1 : Int32)), .val (.ref b83), .val (.int (1 : Int32)), .val (.int (1 : Int32)), .val (.int (1 : Int32))] []))
          refine Goes.st (fun t k => XS.iload X90.here hx rfl (hb hby at_230) rfl k) ?_
          show Goes _ _ _ _ (T90.setTop (mkF m 232 #[.val (.int p0), .val (.int p1), .val (.int p2), .val (.ref b1), .val (.ref b9), .val (.ref b15), .val (.ref b65), .val (.int (0 : Int32)), .val (.int (1 : Int32)), .val (.ref b83), .val (.int (1 : Int32)), .val (.int (1 : Int32)), .val (.int (1 : Int32))] [(.int (1 : Int32))]))
          refine Goes.st (fun t k => XS.ifNo X90.here hx rfl (hb hby at_232) rfl ((if0 _ _).trans (feq (by decide : ¬ ((1 : Int32) = (0 : Int32)))).1) k) ?_
          show Goes _ _ _ _ (T90.setTop (mkF m 235 #[.val (.int p0), .val (.int p1), .val (.int p2), .val (.ref b1), .val (.ref b9), .val (.ref b15), .val (.ref b65), .val (.int (0 : Int32)), .val (.int (1 : Int32)), .val (.ref b83), .val (.int (1 : Int32)), .val (.int (1 : Int32)), .val (.int (1 : Int32))] []))
          refine Goes.st (fun t k => XS.iconst X90.here hx rfl (hb hby at_235) k) ?_
          show Goes _ _ _ _ (T90.setTop (mkF m 236 #[.val (.int p0), .val (.int p1), .val (.int p2), .val (.ref b1), .val (.ref b9), .val (.ref b15), .val (.ref b65), .val (.int (0 : Int32)), .val (.int (1 : Int32)), .val (.ref b83), .val (.int (1 : Int32)), .val (.int (1 : Int32)), .val (.int (1 : Int32))] [(.int (1 : Int32))]))
          refine Goes.st (fun t k => XS.goto X90.here hx rfl (pc0 := 236) (pc' := 240) rfl (hb hby at_236) (by decide) (by decide) k) ?_
          show Goes _ _ _ _ (T90.setTop (mkF m 240 #[.val (.int p0), .val (.int p1), .val (.int p2), .val (.ref b1), .val (.ref b9), .val (.ref b15), .val (.ref b65), .val (.int (0 : Int32)), .val (.int (1 : Int32)), .val (.ref b83), .val (.int (1 : Int32)), .val (.int (1 : Int32)), .val (.int (1 : Int32))] [(.int (1 : Int32))]))
          obtain ⟨fs, hr, hrun, hended, hRW⟩ := X90.leaveW hS69 (by rw [K90]; exact (Nat.le_trans (Nat.le_trans (Nat.le_refl _) E83.1) K88.1)) (v := some (.int (1 : Int32))) (fun h => by rw [Bd.returns] at h; cases h)
          subst hQQ
          have hCR : CHr Z EL s.vm s.heap T90.vm T90.heap := by rw [hh, K90]; exact CR89.trans (CHv.at X90 hZ69 (own_EW hw) CR89.1)
          refine ⟨_, _, retN X90 hx (t := .boolean) Bd.returns (by simp) (hb hby at_240) hr, hrun, hended, _, _, rfl, ?_, hCR, own_REmono hRW (by decide) (by decide)⟩
          show Q_law Z p0 p1 p2 G1 h0 n0 _ T90.heap _
          rw [K90]
          exact ⟨rfl, N90⟩
      case neg =>
        refine Goes.st (fun t k => XS.ifNo X69.here hx rfl (hb hby at_102) rfl ((if0 _ _).trans (feq c75).1) k) ?_
        show Goes _ _ _ _ (T69.setTop (mkF m 105 #[.val (.int p0), .val (.int p1), .val (.int p2), .val (.ref b1), .val (.ref b9), .val (.ref b15), .val (.ref b65), .unset, .unset, .unset, .unset, .unset, .unset] []))
        refine Goes.st (fun t k => XS.iconst X69.here hx rfl (hb hby at_105) k) ?_
        show Goes _ _ _ _ (T69.setTop (mkF m 106 #[.val (.int p0), .val (.int p1), .val (.int p2), .val (.ref b1), .val (.ref b9), .val (.ref b15), .val (.ref b65), .unset, .unset, .unset, .unset, .unset, .unset] [(.int (1 : Int32))]))
        refine Goes.st (fun t k => XS.goto X69.here hx rfl (pc0 := 106) (pc' := 110) rfl (hb hby at_106) (by decide) (by decide) k) ?_
        show Goes _ _ _ _ (T69.setTop (mkF m 110 #[.val (.int p0), .val (.int p1), .val (.int p2), .val (.ref b1), .val (.ref b9), .val (.ref b15), .val (.ref b65), .unset, .unset, .unset, .unset, .unset, .unset] [(.int (1 : Int32))]))
        refine Goes.st (fun t k => XS.istore X69.here hx rfl (hb hby at_110) rfl (l' := #[.val (.int p0), .val (.int p1), .val (.int p2), .val (.ref b1), .val (.ref b9), .val (.ref b15), .val (.ref b65), .val (.int (1 : Int32)), .unset, .unset, .unset, .unset, .unset]) rfl k) ?_
        show Goes _ _ _ _ (T69.setTop (mkF m 112 #[.val (.int p0), .val (.int p1), .val (.int p2), .val (.ref b1), .val (.ref b9), .val (.ref b15), .val (.ref b65), .val (.int (1 : Int32)), .unset, .unset, .unset, .unset, .unset] []))
        refine Goes.st (fun t k => XS.iloadN X69.here hx rfl (hb hby at_112) rfl k) ?_
        show Goes _ _ _ _ (T69.setTop (mkF m 113 #[.val (.int p0), .val (.int p1), .val (.int p2), .val (.ref b1), .val (.ref b9), .val (.ref b15), .val (.ref b65), .val (.int (1 : Int32)), .unset, .unset, .unset, .unset, .unset] [(.int p2)]))
        refine Goes.st (fun t k => XS.iconst X69.here hx rfl (hb hby at_113) k) ?_
        show Goes _ _ _ _ (T69.setTop (mkF m 114 #[.val (.int p0), .val (.int p1), .val (.int p2), .val (.ref b1), .val (.ref b9), .val (.ref b15), .val (.ref b65), .val (.int (1 : Int32)), .unset, .unset, .unset, .unset, .unset] [(.int (2 : Int32)), (.int p2)]))
        refine Goes.st (fun t k => XS.iand X69.here hx rfl (hb hby at_114) rfl k) ?_
        show Goes _ _ _ _ (T69.setTop (mkF m 115 #[.val (.int p0), .val (.int p1), .val (.int p2), .val (.ref b1), .val (.ref b9), .val (.ref b15), .val (.ref b65), .val (.int (1 : Int32)), .unset, .unset, .unset, .unset, .unset] [(.int (p2 &&& (2 : Int32)))]))
        by_cases c91 : (p2 &&& (2 : Int32)) = (0 : Int32)
        case pos =>
          refine Goes.st (fun t k => XS.ifYes X69.here hx rfl (pc0 := 115) (pc' := 122) rfl (hb hby at_115) rfl ((if0 _ _).trans (teq c91).1) (by decide) (by decide) k) ?_
          show Goes _ _ _ _ (T69.setTop (mkF m 122 #[.val (.int p0), .val (.int p1), .val (.int p2), .val (.ref b1), .val (.ref b9), .val (.ref b15), .val (.ref b65), .val (.int (1 : Int32)), .unset, .unset, .unset, .unset, .unset] []))
          refine Goes.st (fun t k => XS.iconst X69.here hx rfl (hb hby at_122) k) ?_
          show Goes _ _ _ _ (T69.setTop (mkF m 123 #[.val (.int p0), .val (.int p1), .val (.int p2), .val (.ref b1), .val (.ref b9), .val (.ref b15), .val (.ref b65), .val (.int (1 : Int32)), .unset, .unset, .unset, .unset, .unset] [(.int (0 : Int32))]))
          refine Goes.st (fun t k => XS.istore X69.here hx rfl (hb hby at_123) rfl (l' := #[.val (.int p0), .val (.int p1), .val (.int p2), .val (.ref b1), .val (.ref b9), .val (.ref b15), .val (.ref b65), .val (.int (1 : Int32)), .val (.int (0 : Int32)), .unset, .unset, .unset, .unset]) rfl k) ?_
          show Goes _ _ _ _ (T69.setTop (mkF m 125 #[.val (.int p0), .val (.int p1), .val (.int p2), .val (.ref b1), .val (.ref b9), .val (.ref b15), .val (.ref b65), .val (.int (1 : Int32)), .val (.int (0 : Int32)), .unset, .unset, .unset, .unset] []))
          obtain ⟨T92, h92, X92, e92, E92, A92, D92, -, st92⟩ := newO X69 hx hZ69 hown69 (hw30 hw) (hw31 hw) (hw32 hw) rfl (g := (mkF m 125 #[.val (.int p0), .val (.int p1), .val (.int p2), .val (.ref b1), .val (.ref b9), .val (.ref b15), .val (.ref b65), .val (.int (1 : Int32)), .val (.int (0 : Int32)), .unset, .unset, .unset, .unset] [])) rfl (hb hby at_125) (by decide) (by decide)
          obtain ⟨b92, g92⟩ : ∃ z, z = T69.heap.size := ⟨_, rfl⟩
          rw [← g92] at A92 D92 st92
          have CR93 : CHr Z EL s.vm h0 T69.vm h92 := CR74.trans (CHr.ext E92 CR74.1)
          have sf93_b65 : Safe Z EL T69.vm h92 b65 := Safe.ext E92 CR74.1 sf74_b65
          have F92_reason : Fld Z h92 b92 "com/example/tenon/tenon/registry/Validity" "reason" "Ljava/lang/String;" .null := D92 (Or.inl (hw43 hw)) (ty := (.object "java/lang/String")) (by decide)
          refine Goes.st st92 ?_
          show Goes _ _ _ _ (T92.setTop (mkF m 128 #[.val (.int p0), .val (.int p1), .val (.int p2), .val (.ref b1), .val (.ref b9), .val (.ref b15), .val (.ref b65), .val (.int (1 : Int32)), .val (.int (0 : Int32)), .unset, .unset, .unset, .unset] [(.ref b92)]))
          refine Goes.st (fun t k => XS.dup X92.here hx rfl (hb hby at_128) rfl rfl k) ?_
          show Goes _ _ _ _ (T92.setTop (mkF m 129 #[.val (.int p0), .val (.int p1), .val (.int p2), .val (.ref b1), .val (.ref b9), .val (.ref b15), .val (.ref b65), .val (.int (1 : Int32)), .val (.int (0 : Int32)), .unset, .unset, .unset, .unset] [(.ref b92), (.ref b92)]))
          obtain ⟨_, _, ⟨T94, L94, k94, n94⟩, -, X94, ⟨Lc94, hQ94, l94, y94, z94⟩, st94⟩ := X92.specialBack hx (y := (⟨"com/example/tenon/tenon/registry/Validity", "<init>", "()V"⟩ : MethodName)) rfl hown69 (mvT hZ69 (hw33 hw)) (mvT hZ69 (hw34 hw)) (mvT hZ69 (hw35 hw)) (by decide) (backOf (W := 1) (rm_vinit l Z a0 hw [] b92 h92 n0 (Nat.le_trans Z0 (Nat.le_trans (Nat.le_trans (Nat.le_trans (Nat.le_trans (Nat.le_trans (Nat.le_trans (Nat.le_trans (Nat.le_trans (Nat.le_trans (Nat.le_trans E1.1 (Nat.le_of_eq W4.size.symm)) (Nat.le_of_eq W7.size.symm)) E9.1) (Nat.le_of_eq W12.size.symm)) E15.1) K17.1) E65.1) E67.1) K69.1) E92.1)) ) hZ69 (hw35 hw) (hw32 hw) (by decide) (by decide)) (g := (mkF m 129 #[.val (.int p0), .val (.int p1), .val (.int p2), .val (.ref b1), .val (.ref b9), .val (.ref b15), .val (.ref b65), .val (.int (1 : Int32)), .val (.int (0 : Int32)), .unset, .unset, .unset, .unset] [(.ref b92), (.ref b92)])) rfl (by rw [hml]; rfl) (Steps.refl _) (a := b92) (argsL := []) (rest := [(.ref b92)]) (lenOf pd_2 rfl) rfl (by show 2 * 0 + _ ≤ _; exact Nat.le_of_eq rfl) (hb hby at_129) (fun _ _ => ⟨rfl, e92, (by decide : 11 + 0 ≤ _), (by decide : 22 + 0 ≤ _)⟩)
          dsimp only [Pt.U, Pt.locs, Pt.cells, Pt.slots] at X94 l94 y94 z94 st94 hQ94
          subst l94 y94 z94
          obtain ⟨rfl, N94q, K94⟩ := hQ94
          have N94 := Fr.app N69 N94q
          refine Goes.tr st94 ?_
          show Goes _ _ _ _ (T94.setTop (mkF m 132 #[.val (.int p0), .val (.int p1), .val (.int p2), .val (.ref b1), .val (.ref b9), .val (.ref b15), .val (.ref b65), .val (.int (1 : Int32)), .val (.int (0 : Int32)), .unset, .unset, .unset, .unset] [(.ref b92)]))
          refine Goes.st (fun t k => XS.astore X94.here hx rfl (hb hby at_132) rfl rfl (l' := #[.val (.int p0), .val (.int p1), .val (.int p2), .val (.ref b1), .val (.ref b9), .val (.ref b15), .val (.ref b65), .val (.int (1 : Int32)), .val (.int (0 : Int32)), .val (.ref b92), .unset, .unset, .unset]) rfl k) ?_
          show Goes _ _ _ _ (T94.setTop (mkF m 134 #[.val (.int p0), .val (.int p1), .val (.int p2), .val (.ref b1), .val (.ref b9), .val (.ref b15), .val (.ref b65), .val (.int (1 : Int32)), .val (.int (0 : Int32)), .val (.ref b92), .unset, .unset, .unset] []))
          refine Goes.st (fun t k => XS.aload X94.here hx rfl (hb hby at_134) rfl rfl k) ?_
          show Goes _ _ _ _ (T94.setTop (mkF m 136 #[.val (.int p0), .val (.int p1), .val (.int p2), .val (.ref b1), .val (.ref b9), .val (.ref b15), .val (.ref b65), .val (.int (1 : Int32)), .val (.int (0 : Int32)), .val (.ref b92), .unset, .unset, .unset] [(.ref b92)]))
          obtain ⟨cq95, kq95, q95a, q95b, q95c⟩ := isOf hZ69 K94 A92
          obtain ⟨_, _, ⟨T95, L95, k95, n95⟩, -, X95, ⟨Lc95, hQ95, l95, y95, z95⟩, st95⟩ := X94.virtualBack hx (y := (⟨"com/example/tenon/tenon/registry/Validity", "isValid", "()Z"⟩ : MethodName)) (z := (⟨"com/example/tenon/tenon/registry/Validity", "isValid", "()Z"⟩ : MethodName)) hown69 (mvT hZ69 (hw37 hw)) (mvT hZ69 (hw38 hw)) (notFace_of_selects (args := #[]) (mvT hZ69 (hw40 hw))) (mvT hZ69 (hw40 hw)) (mvT hZ69 (hw39 hw)) (by decide) (backOf (W := 0) (rm_ivN l Z a0 hw [] b92 h92 n0 (Nat.le_trans Z0 (Nat.le_trans (Nat.le_trans (Nat.le_trans (Nat.le_trans (Nat.le_trans (Nat.le_trans (Nat.le_trans (Nat.le_trans (Nat.le_trans (Nat.le_trans E1.1 (Nat.le_of_eq W4.size.symm)) (Nat.le_of_eq W7.size.symm)) E9.1) (Nat.le_of_eq W12.size.symm)) E15.1) K17.1) E65.1) E67.1) K69.1) E92.1)) F92_reason) hZ69 (hw41 hw) (hw32 hw) (by decide) (by decide)) q95a q95c (g := (mkF m 136 #[.val (.int p0), .val (.int p1), .val (.int p2), .val (.ref b1), .val (.ref b9), .val (.ref b15), .val (.ref b65), .val (.int (1 : Int32)), .val (.int (0 : Int32)), .val (.ref b92), .unset, .unset, .unset] [(.ref b92)])) rfl (by rw [hml]; rfl) (Steps.refl _) (argsL := []) (rest := []) (lenOf pd_3 rfl) rfl (by show 2 * 0 + _ ≤ _; exact Nat.le_of_eq rfl) (hb hby at_136) (fun _ _ => ⟨rfl, K94, (by decide : 11 + 0 ≤ _), (by decide : 22 + 0 ≤ _)⟩)
          dsimp only [Pt.U, Pt.locs, Pt.cells, Pt.slots] at X95 l95 y95 z95 st95 hQ95
          subst l95 y95 z95
          obtain ⟨rfl, N95q, K95⟩ := hQ95
          have N95 := Fr.app N94 N95q
          refine Goes.tr st95 ?_
          show Goes _ _ _ _ (T95.setTop (mkF m 139 #[.val (.int p0), .val (.int p1), .val (.int p2), .val (.ref b1), .val (.ref b9), .val (.ref b15), .val (.ref b65), .val (.int (1 : Int32)), .val (.int (0 : Int32)), .val (.ref b92), .unset, .unset, .unset] [(.int (1 : Int32))]))
          refine Goes.st (fun t k => XS.istore X95.here hx rfl (hb hby at_139) rfl (l' := #[.val (.int p0), .val (.int p1), .val (.int p2), .val (.ref b1), .val (.ref b9), .val (.ref b15), .val (.ref b65), .val (.int (1 : Int32)), .val (.int (0 : Int32)), .val (.ref b92), .val (.int (1 : Int32)), .unset, .unset]) rfl k) ?_
          show Goes _ _ _ _ (T95.setTop (mkF m 141 #[.val (.int p0), .val (.int p1), .val (.int p2), .val (.ref b1), .val (.ref b9), .val (.ref b15), .val (.ref b65), .val (.int (1 : Int32)), .val (.int (0 : Int32)), .val (.ref b92), .val (.int (1 : Int32)), .unset, .unset] []))
          refine Goes.st (fun t k => XS.iload X95.here hx rfl (hb hby at_141) rfl k) ?_
          show Goes _ _ _ _ (T95.setTop (mkF m 143 #[.val (.int p0), .val (.int p1), .val (.int p2), .val (.ref b1), .val (.ref b9), .val (.ref b15), .val (.ref b65), .val (.int (1 : Int32)), .val (.int (0 : Int32)), .val (.ref b92), .val (.int (1 : Int32)), .unset, .unset] [(.int (1 : Int32))]))
          refine Goes.st (fun t k => XS.ifNo X95.here hx rfl (hb hby at_143) rfl ((if0 _ _).trans (feq (by decide : ¬ ((1 : Int32) = (0 : Int32)))).1) k) ?_
          show Goes _ _ _ _ (T95.setTop (mkF m 146 #[.val (.int p0), .val (.int p1), .val (.int p2), .val (.ref b1), .val (.ref b9), .val (.ref b15), .val (.ref b65), .val (.int (1 : Int32)), .val (.int (0 : Int32)), .val (.ref b92), .val (.int (1 : Int32)), .unset, .unset] []))
          refine Goes.st (fun t k => XS.aload X95.here hx rfl (hb hby at_146) rfl rfl k) ?_
          show Goes _ _ _ _ (T95.setTop (mkF m 148 #[.val (.int p0), .val (.int p1), .val (.int p2), .val (.ref b1), .val (.ref b9), .val (.ref b15), .val (.ref b65), .val (.int (1 : Int32)), .val (.int (0 : Int32)), .val (.ref b92), .val (.int (1 : Int32)), .unset, .unset] [(.ref b92)]))
          refine Goes.st (fun t k => XS.aload X95.here hx rfl (hb hby at_148) rfl rfl k) ?_
          show Goes _ _ _ _ (T95.setTop (mkF m 150 #[.val (.int p0), .val (.int p1), .val (.int p2), .val (.ref b1), .val (.ref b9), .val (.ref b15), .val (.ref b65), .val (.int (1 : Int32)), .val (.int (0 : Int32)), .val (.ref b92), .val (.int (1 : Int32)), .unset, .unset] [(.ref b15), (.ref b92)]))
          obtain ⟨cq96, kq96, q96a, q96b, q96c⟩ := isOf hZ69 K95 A92
          obtain ⟨_, _, ⟨T96, L96, k96, n96⟩, -, X96, ⟨Lc96, hQ96, l96, y96, z96⟩, st96⟩ := X95.virtualBack hx (y := (⟨"com/example/tenon/tenon/registry/Validity", "invalidate", "(Ljava/lang/String;)V"⟩ : MethodName)) (z := (⟨"com/example/tenon/tenon/registry/Validity", "invalidate", "(Ljava/lang/String;)V"⟩ : MethodName)) hown69 (mvT hZ69 (hw44 hw)) (mvT hZ69 (hw45 hw)) (notFace_of_selects (args := #[]) (mvT hZ69 (hw47 hw))) (mvT hZ69 (hw47 hw)) (mvT hZ69 (hw46 hw)) (by decide) (backOf (W := 0) (rm_inv l Z a0 hw [] b92 b15 (Value.null) h92 n0 (Nat.le_trans Z0 (Nat.le_trans (Nat.le_trans (Nat.le_trans (Nat.le_trans (Nat.le_trans (Nat.le_trans (Nat.le_trans (Nat.le_trans (Nat.le_trans (Nat.le_trans E1.1 (Nat.le_of_eq W4.size.symm)) (Nat.le_of_eq W7.size.symm)) E9.1) (Nat.le_of_eq W12.size.symm)) E15.1) K17.1) E65.1) E67.1) K69.1) E92.1)) A92 F92_reason (Nat.le_trans Z0 (Nat.le_trans (Nat.le_trans (Nat.le_trans (Nat.le_trans (Nat.le_trans (Nat.le_trans (Nat.le_trans (Nat.le_trans (Nat.le_trans (Nat.le_trans E1.1 (Nat.le_of_eq W4.size.symm)) (Nat.le_of_eq W7.size.symm)) E9.1) (Nat.le_of_eq W12.size.symm)) E15.1) K17.1) E65.1) E67.1) K69.1) (Nat.le_of_eq g92.symm)))) hZ69 (hw48 hw) (hw32 hw) (by decide) (by decide)) q96a q96c (g := (mkF m 150 #[.val (.int p0), .val (.int p1), .val (.int p2), .val (.ref b1), .val (.ref b9), .val (.ref b15), .val (.ref b65), .val (.int (1 : Int32)), .val (.int (0 : Int32)), .val (.ref b92), .val (.int (1 : Int32)), .unset, .unset] [(.ref b15), (.ref b92)])) rfl (by rw [hml]; rfl) (Steps.refl _) (argsL := [(.ref b15)]) (rest := []) (lenOf pd_4 rfl) rfl (by show 2 * 0 + _ ≤ _; exact Nat.le_of_eq rfl) (hb hby at_150) (fun _ _ => ⟨rfl, K95, (by decide : 11 + 0 ≤ _), (by decide : 22 + 0 ≤ _)⟩)
          dsimp only [Pt.U, Pt.locs, Pt.cells, Pt.slots] at X96 l96 y96 z96 st96 hQ96
          subst l96 y96 z96
          obtain ⟨rfl, N96q, K96, F96_0, F96_1⟩ := hQ96
          have N96 := Fr.app N95 N96q
          have hs97 : ∀ x ∈ ([b92] : List Addr), Safe Z EL T69.vm h92 x := (allS (Safe.exa hZ69.alike A92 (by decide) (by decide)) all0)
          have CR97 : CHr Z EL s.vm h0 T69.vm T96.heap := CR93.trans (CHr.keep K96 hs97 CR93.1)
          have sf97_b65 : Safe Z EL T69.vm T96.heap b65 := Safe.keep K96 hs97 CR93.1 sf93_b65
          refine Goes.tr st96 ?_
          show Goes _ _ _ _ (T96.setTop (mkF m 153 #[.val (.int p0), .val (.int p1), .val (.int p2), .val (.ref b1), .val (.ref b9), .val (.ref b15), .val (.ref b65), .val (.int (1 : Int32)), .val (.int (0 : Int32)), .val (.ref b92), .val (.int (1 : Int32)), .unset, .unset] []))
          refine Goes.st (fun t k => XS.aload X96.here hx rfl (hb hby at_153) rfl rfl k) ?_
          show Goes _ _ _ _ (T96.setTop (mkF m 155 #[.val (.int p0), .val (.int p1), .val (.int p2), .val (.ref b1), .val (.ref b9), .val (.ref b15), .val (.ref b65), .val (.int (1 : Int32)), .val (.int (0 : Int32)), .val (.ref b92), .val (.int (1 : Int32)), .unset, .unset] [(.ref b92)]))
          obtain ⟨cq98, kq98, q98a, q98b, q98c⟩ := isOf hZ69 rfl F96_0
          obtain ⟨_, _, ⟨T98, L98, k98, n98⟩, -, X98, ⟨Lc98, hQ98, l98, y98, z98⟩, st98⟩ := X96.virtualBack hx (y := (⟨"com/example/tenon/tenon/registry/Validity", "isValid", "()Z"⟩ : MethodName)) (z := (⟨"com/example/tenon/tenon/registry/Validity", "isValid", "()Z"⟩ : MethodName)) hown69 (mvT hZ69 (hw37 hw)) (mvT hZ69 (hw38 hw)) (notFace_of_selects (args := #[]) (mvT hZ69 (hw40 hw))) (mvT hZ69 (hw40 hw)) (mvT hZ69 (hw39 hw)) (by decide) (backOf (W := 0) (rm_ivR l Z a0 hw [] b92 b15 T96.heap n0 (Nat.le_trans Z0 (Nat.le_trans (Nat.le_trans (Nat.le_trans (Nat.le_trans (Nat.le_trans (Nat.le_trans (Nat.le_trans (Nat.le_trans (Nat.le_trans (Nat.le_trans (Nat.le_trans E1.1 (Nat.le_of_eq W4.size.symm)) (Nat.le_of_eq W7.size.symm)) E9.1) (Nat.le_of_eq W12.size.symm)) E15.1) K17.1) E65.1) E67.1) K69.1) E92.1) K96.1)) F96_1) hZ69 (hw41 hw) (hw32 hw) (by decide) (by decide)) q98a q98c (g := (mkF m 155 #[.val (.int p0), .val (.int p1), .val (.int p2), .val (.ref b1), .val (.ref b9), .val (.ref b15), .val (.ref b65), .val (.int (1 : Int32)), .val (.int (0 : Int32)), .val (.ref b92), .val (.int (1 : Int32)), .unset, .unset] [(.ref b92)])) rfl (by rw [hml]; rfl) (Steps.refl _) (argsL := []) (rest := []) (lenOf pd_3 rfl) rfl (by show 2 * 0 + _ ≤ _; exact Nat.le_of_eq rfl) (hb hby at_155) (fun _ _ => ⟨rfl, rfl, (by decide : 11 + 0 ≤ _), (by decide : 22 + 0 ≤ _)⟩)
          dsimp only [Pt.U, Pt.locs, Pt.cells, Pt.slots] at X98 l98 y98 z98 st98 hQ98
          subst l98 y98 z98
          obtain ⟨rfl, N98q, K98⟩ := hQ98
          have N98 := Fr.app N96 N98q
          refine Goes.tr st98 ?_
          show Goes _ _ _ _ (T98.setTop (mkF m 158 #[.val (.int p0), .val (.int p1), .val (.int p2), .val (.ref b1), .val (.ref b9), .val (.ref b15), .val (.ref b65), .val (.int (1 : Int32)), .val (.int (0 : Int32)), .val (.ref b92), .val (.int (1 : Int32)), .unset, .unset] [(.int (0 : Int32))]))
          refine Goes.st (fun t k => XS.iload X98.here hx rfl (hb hby at_158) rfl k) ?_
          show Goes _ _ _ _ (T98.setTop (mkF m 160 #[.val (.int p0), .val (.int p1), .val (.int p2), .val (.ref b1), .val (.ref b9), .val (.ref b15), .val (.ref b65), .val (.int (1 : Int32)), .val (.int (0 : Int32)), .val (.ref b92), .val (.int (1 : Int32)), .unset, .unset] [(.int (1 : Int32)), (.int (0 : Int32))]))
          refine Goes.st (fun t k => XS.ifYes X98.here hx rfl (pc0 := 160) (pc' := 167) rfl (hb hby at_160) rfl ((if0 _ _).trans (feq (by decide : ¬ ((1 : Int32) = (0 : Int32)))).2) (by decide) (by decide) k) ?_
          show Goes _ _ _ _ (T98.setTop (mkF m 167 #[.val (.int p0), .val (.int p1), .val (.int p2), .val (.ref b1), .val (.ref b9), .val (.ref b15), .val (.ref b65), .val (.int (1 : Int32)), .val (.int (0 : Int32)), .val (.ref b92), .val (.int (1 : Int32)), .unset, .unset] [(.int (0 : Int32))]))
          refine Goes.st (fun t k => XS.iconst X98.here hx rfl (hb hby at_167) k) ?_
          show Goes _ _ _ _ (T98.setTop (mkF m 168 #[.val (.int p0), .val (.int p1), .val (.int p2), .val (.ref b1), .val (.ref b9), .val (.ref b15), .val (.ref b65), .val (.int (1 : Int32)), .val (.int (0 : Int32)), .val (.ref b92), .val (.int (1 : Int32)), .unset, .unset] [(.int (0 : Int32)), (.int (0 : Int32))]))
          refine Goes.st (fun t k => XS.icmpNo X98.here hx rfl (hb hby at_168) rfl (teq (by decide : (0 : Int32) = (0 : Int32))).2 k) ?_
          show Goes _ _ _ _ (T98.setTop (mkF m 171 #[.val (.int p0), .val (.int p1), .val (.int p2), .val (.ref b1), .val (.ref b9), .val (.ref b15), .val (.ref b65), .val (.int (1 : Int32)), .val (.int (0 : Int32)), .val (.ref b92), .val (.int (1 : Int32)), .unset, .unset] []))
          refine Goes.st (fun t k => XS.iconst X98.here hx rfl (hb hby at_171) k) ?_
          show Goes _ _ _ _ (T98.setTop (mkF m 172 #[.val (.int p0), .val (.int p1), .val (.int p2), .val (.ref b1), .val (.ref b9), .val (.ref b15), .val (.ref b65), .val (.int (1 : Int32)), .val (.int (0 : Int32)), .val (.ref b92), .val (.int (1 : Int32)), .unset, .unset] [(.int (1 : Int32))]))
          refine Goes.st (fun t k => XS.goto X98.here hx rfl (pc0 := 172) (pc' := 176) rfl (hb hby at_172) (by decide) (by decide) k) ?_
          show Goes _ _ _ _ (T98.setTop (mkF m 176 #[.val (.int p0), .val (.int p1), .val (.int p2), .val (.ref b1), .val (.ref b9), .val (.ref b15), .val (.ref b65), .val (.int (1 : Int32)), .val (.int (0 : Int32)), .val (.ref b92), .val (.int (1 : Int32)), .unset, .unset] [(.int (1 : Int32))]))
          refine Goes.st (fun t k => XS.istore X98.here hx rfl (hb hby at_176) rfl (l' := #[.val (.int p0), .val (.int p1), .val (.int p2), .val (.ref b1), .val (.ref b9), .val (.ref b15), .val (.ref b65), .val (.int (1 : Int32)), .val (.int (0 : Int32)), .val (.ref b92), .val (.int (1 : Int32)), .val (.int (1 : Int32)), .unset]) rfl k) ?_
          show Goes _ _ _ _ (T98.setTop (mkF m 178 #[.val (.int p0), .val (.int p1), .val (.int p2), .val (.ref b1), .val (.ref b9), .val (.ref b15), .val (.ref b65), .val (.int (1 : Int32)), .val (.int (0 : Int32)), .val (.ref b92), .val (.int (1 : Int32)), .val (.int (1 : Int32)), .unset] []))
          refine Goes.st (fun t k => XS.iload X98.here hx rfl (hb hby at_178) rfl k) ?_
          show Goes _ _ _ _ (T98.setTop (mkF m 180 #[.val (.int p0), .val (.int p1), .val (.int p2), .val (.ref b1), .val (.ref b9), .val (.ref b15), .val (.ref b65), .val (.int (1 : Int32)), .val (.int (0 : Int32)), .val (.ref b92), .val (.int (1 : Int32)), .val (.int (1 : Int32)), .unset] [(.int (0 : Int32))]))
          refine Goes.st (fun t k => XS.ifYes X98.here hx rfl (pc0 := 180) (pc' := 190) rfl (hb hby at_180) rfl ((if0 _ _).trans (teq (by decide : (0 : Int32) = (0 : Int32))).1) (by decide) (by decide) k) ?_
          show Goes _ _ _ _ (T98.setTop (mkF m 190 #[.val (.int p0), .val (.int p1), .val (.int p2), .val (.ref b1), .val (.ref b9), .val (.ref b15), .val (.ref b65), .val (.int (1 : Int32)), .val (.int (0 : Int32)), .val (.ref b92), .val (.int (1 : Int32)), .val (.int (1 : Int32)), .unset] []))
          refine Goes.st (fun t k => XS.aload X98.here hx rfl (hb hby at_190) rfl rfl k) ?_
          show Goes _ _ _ _ (T98.setTop (mkF m 192 #[.val (.int p0), .val (.int p1), .val (.int p2), .val (.ref b1), .val (.ref b9), .val (.ref b15), .val (.ref b65), .val (.int (1 : Int32)), .val (.int (0 : Int32)), .val (.ref b92), .val (.int (1 : Int32)), .val (.int (1 : Int32)), .unset] [(.ref b92)]))
          obtain ⟨cq99, kq99, q99a, q99b, q99c⟩ := isOf hZ69 K98 F96_0
          obtain ⟨_, _, ⟨T99, L99, k99, n99⟩, -, X99, ⟨Lc99, hQ99, l99, y99, z99⟩, st99⟩ := X98.virtualBack hx (y := (⟨"com/example/tenon/tenon/registry/Validity", "isValid", "()Z"⟩ : MethodName)) (z := (⟨"com/example/tenon/tenon/registry/Validity", "isValid", "()Z"⟩ : MethodName)) hown69 (mvT hZ69 (hw37 hw)) (mvT hZ69 (hw38 hw)) (notFace_of_selects (args := #[]) (mvT hZ69 (hw40 hw))) (mvT hZ69 (hw40 hw)) (mvT hZ69 (hw39 hw)) (by decide) (backOf (W := 0) (rm_ivR l Z a0 hw [] b92 b15 T96.heap n0 (Nat.le_trans Z0 (Nat.le_trans (Nat.le_trans (Nat.le_trans (Nat.le_trans (Nat.le_trans (Nat.le_trans (Nat.le_trans (Nat.le_trans (Nat.le_trans (Nat.le_trans (Nat.le_trans E1.1 (Nat.le_of_eq W4.size.symm)) (Nat.le_of_eq W7.size.symm)) E9.1) (Nat.le_of_eq W12.size.symm)) E15.1) K17.1) E65.1) E67.1) K69.1) E92.1) K96.1)) F96_1) hZ69 (hw41 hw) (hw32 hw) (by decide) (by decide)) q99a q99c (g := (mkF m 192 #[.val (.int p0), .val (.int p1), .val (.int p2), .val (.ref b1), .val (.ref b9), .val (.ref b15), .val (.ref b65), .val (.int (1 : Int32)), .val (.int (0 : Int32)), .val (.ref b92), .val (.int (1 : Int32)), .val (.int (1 : Int32)), .unset] [(.ref b92)])) rfl (by rw [hml]; rfl) (Steps.refl _) (argsL := []) (rest := []) (lenOf pd_3 rfl) rfl (by show 2 * 0 + _ ≤ _; exact Nat.le_of_eq rfl) (hb hby at_192) (fun _ _ => ⟨rfl, K98, (by decide : 11 + 0 ≤ _), (by decide : 22 + 0 ≤ _)⟩)
          dsimp only [Pt.U, Pt.locs, Pt.cells, Pt.slots] at X99 l99 y99 z99 st99 hQ99
          subst l99 y99 z99
          obtain ⟨rfl, N99q, K99⟩ := hQ99
          have N99 := Fr.app N98 N99q
          refine Goes.tr st99 ?_
          show Goes _ _ _ _ (T99.setTop (mkF m 195 #[.val (.int p0), .val (.int p1), .val (.int p2), .val (.ref b1), .val (.ref b9), .val (.ref b15), .val (.ref b65), .val (.int (1 : Int32)), .val (.int (0 : Int32)), .val (.ref b92), .val (.int (1 : Int32)), .val (.int (1 : Int32)), .unset] [(.int (0 : Int32))]))
          refine Goes.st (fun t k => XS.iload X99.here hx rfl (hb hby at_195) rfl k) ?_
          show Goes _ _ _ _ (T99.setTop (mkF m 197 #[.val (.int p0), .val (.int p1), .val (.int p2), .val (.ref b1), .val (.ref b9), .val (.ref b15), .val (.ref b65), .val (.int (1 : Int32)), .val (.int (0 : Int32)), .val (.ref b92), .val (.int (1 : Int32)), .val (.int (1 : Int32)), .unset] [(.int (1 : Int32)), (.int (0 : Int32))]))
          refine Goes.st (fun t k => XS.ifYes X99.here hx rfl (pc0 := 197) (pc' := 209) rfl (hb hby at_197) rfl ((if0 _ _).trans (feq (by decide : ¬ ((1 : Int32) = (0 : Int32)))).2) (by decide) (by decide) k) ?_
          show Goes _ _ _ _ (T99.setTop (mkF m 209 #[.val (.int p0), .val (.int p1), .val (.int p2), .val (.ref b1), .val (.ref b9), .val (.ref b15), .val (.ref b65), .val (.int (1 : Int32)), .val (.int (0 : Int32)), .val (.ref b92), .val (.int (1 : Int32)), .val (.int (1 : Int32)), .unset] [(.int (0 : Int32))]))
          refine Goes.st (fun t k => XS.iconst X99.here hx rfl (hb hby at_209) k) ?_
          show Goes _ _ _ _ (T99.setTop (mkF m 210 #[.val (.int p0), .val (.int p1), .val (.int p2), .val (.ref b1), .val (.ref b9), .val (.ref b15), .val (.ref b65), .val (.int (1 : Int32)), .val (.int (0 : Int32)), .val (.ref b92), .val (.int (1 : Int32)), .val (.int (1 : Int32)), .unset] [(.int (0 : Int32)), (.int (0 : Int32))]))
          refine Goes.st (fun t k => XS.icmpNo X99.here hx rfl (hb hby at_210) rfl (teq (by decide : (0 : Int32) = (0 : Int32))).2 k) ?_
          show Goes _ _ _ _ (T99.setTop (mkF m 213 #[.val (.int p0), .val (.int p1), .val (.int p2), .val (.ref b1), .val (.ref b9), .val (.ref b15), .val (.ref b65), .val (.int (1 : Int32)), .val (.int (0 : Int32)), .val (.ref b92), .val (.int (1 : Int32)), .val (.int (1 : Int32)), .unset] []))
          refine Goes.st (fun t k => XS.iconst X99.here hx rfl (hb hby at_213) k) ?_
          show Goes _ _ _ _ (T99.setTop (mkF m 214 #[.val (.int p0), .val (.int p1), .val (.int p2), .val (.ref b1), .val (.ref b9), .val (.ref b15), .val (.ref b65), .val (.int (1 : Int32)), .val (.int (0 : Int32)), .val (.ref b92), .val (.int (1 : Int32)), .val (.int (1 : Int32)), .unset] [(.int (1 : Int32))]))
          refine Goes.st (fun t k => XS.goto X99.here hx rfl (pc0 := 214) (pc' := 218) rfl (hb hby at_214) (by decide) (by decide) k) ?_
          show Goes _ _ _ _ (T99.setTop (mkF m 218 #[.val (.int p0), .val (.int p1), .val (.int p2), .val (.ref b1), .val (.ref b9), .val (.ref b15), .val (.ref b65), .val (.int (1 : Int32)), .val (.int (0 : Int32)), .val (.ref b92), .val (.int (1 : Int32)), .val (.int (1 : Int32)), .unset] [(.int (1 : Int32))]))
          refine Goes.st (fun t k => XS.istore X99.here hx rfl (hb hby at_218) rfl (l' := #[.val (.int p0), .val (.int p1), .val (.int p2), .val (.ref b1), .val (.ref b9), .val (.ref b15), .val (.ref b65), .val (.int (1 : Int32)), .val (.int (0 : Int32)), .val (.ref b92), .val (.int (1 : Int32)), .val (.int (1 : Int32)), .val (.int (1 : Int32))]) rfl k) ?_
          show Goes _ _ _ _ (T99.setTop (mkF m 220 #[.val (.int p0), .val (.int p1), .val (.int p2), .val (.ref b1), .val (.ref b9), .val (.ref b15), .val (.ref b65), .val (.int (1 : Int32)), .val (.int (0 : Int32)), .val (.ref b92), .val (.int (1 : Int32)), .val (.int (1 : Int32)), .val (.int (1 : Int32))] []))
          refine Goes.st (fun t k => XS.iload X99.here hx rfl (hb hby at_220) rfl k) ?_
          show Goes _ _ _ _ (T99.setTop (mkF m 222 #[.val (.int p0), .val (.int p1), .val (.int p2), .val (.ref b1), .val (.ref b9), .val (.ref b15), .val (.ref b65), .val (.int (1 : Int32)), .val (.int (0 : Int32)), .val (.ref b92), .val (.int (1 : Int32)), .val (.int (1 : Int32)), .val (.int (1 : Int32))] [(.int (1 : Int32))]))
          refine Goes.st (fun t k => XS.ifNo X99.here hx rfl (hb hby at_222) rfl ((if0 _ _).trans (feq (by decide : ¬ ((1 : Int32) = (0 : Int32)))).1) k) ?_
          show Goes _ _ _ _ (T99.setTop (mkF m 225 #[.val (.int p0), .val (.int p1), .val (.int p2), .val (.ref b1), .val (.ref b9), .val (.ref b15), .val (.ref b65), .val (.int (1 : Int32)), .val (.int (0 : Int32)), .val (.ref b92), .val (.int (1 : Int32)), .val (.int (1 : Int32)), .val (.int (1 : Int32))] []))
          refine Goes.st (fun t k => XS.iload X99.here hx rfl (hb hby at_225) rfl k) ?_
          show Goes _ _ _ _ (T99.setTop (mkF m 227 #[.val (.int p0), .val (.int p1), .val (.int p2), .val (.ref b1), .val (.ref b9), .val (.ref b15), .val (.ref b65), .val (.int (1 : Int32)), .val (.int (0 : Int32)), .val (.ref b92), .val (.int (1 : Int32)), .val (.int (1 : Int32)), .val (.int (1 : Int32))] [(.int (1 : Int32))]))
          refine Goes.st (fun t k => XS.ifNo X99.here hx rfl (hb hby at_227) rfl ((if0 _ _).trans (feq (by decide : ¬ ((1 : Int32) = (0 : Int32)))).1) k) ?_
          show Goes _ _ _ _ (T99.setTop (mkF m 230 #[.val (.int p0), .val (.int p1), .val (.int p2), .val (.ref b1), .val (.ref b9), .val (.ref b15), .val (.ref b65), .val (.int (1 : Int32)), .val (.int (0 : Int32)), .val (.ref b92), .val (.int (1 : Int32)), .val (.int (1 : Int32)), .val (.int (1 : Int32))] []))
          refine Goes.st (fun t k => XS.iload X99.here hx rfl (hb hby at_230) rfl k) ?_
          show Goes _ _ _ _ (T99.setTop (mkF m 232 #[.val (.int p0), .val (.int p1), .val (.int p2), .val (.ref b1), .val (.ref b9), .val (.ref b15), .val (.ref b65), .val (.int (1 : Int32)), .val (.int (0 : Int32)), .val (.ref b92), .val (.int (1 : Int32)), .val (.int (1 : Int32)), .val (.int (1 : Int32))] [(.int (1 : Int32))]))
          refine Goes.st (fun t k => XS.ifNo X99.here hx rfl (hb hby at_232) rfl ((if0 _ _).trans (feq (by decide : ¬ ((1 : Int32) = (0 : Int32)))).1) k) ?_
          show Goes _ _ _ _ (T99.setTop (mkF m 235 #[.val (.int p0), .val (.int p1), .val (.int p2), .val (.ref b1), .val (.ref b9), .val (.ref b15), .val (.ref b65), .val (.int (1 : Int32)), .val (.int (0 : Int32)), .val (.ref b92), .val (.int (1 : Int32)), .val (.int (1 : Int32)), .val (.int (1 : Int32))] []))
          refine Goes.st (fun t k => XS.iconst X99.here hx rfl (hb hby at_235) k) ?_
          show Goes _ _ _ _ (T99.setTop (mkF m 236 #[.val (.int p0), .val (.int p1), .val (.int p2), .val (.ref b1), .val (.ref b9), .val (.ref b15), .val (.ref b65), .val (.int (1 : Int32)), .val (.int (0 : Int32)), .val (.ref b92), .val (.int (1 : Int32)), .val (.int (1 : Int32)), .val (.int (1 : Int32))] [(.int (1 : Int32))]))
          refine Goes.st (fun t k => XS.goto X99.here hx rfl (pc0 := 236) (pc' := 240) rfl (hb hby at_236) (by decide) (by decide) k) ?_
          show Goes _ _ _ _ (T99.setTop (mkF m 240 #[.val (.int p0), .val (.int p1), .val (.int p2), .val (.ref b1), .val (.ref b9), .val (.ref b15), .val (.ref b65), .val (.int (1 : Int32)), .val (.int (0 : Int32)), .val (.ref b92), .val (.int (1 : Int32)), .val (.int (1 : Int32)), .val (.int (1 : Int32))] [(.int (1 : Int32))]))
          obtain ⟨fs, hr, hrun, hended, hRW⟩ := X99.leaveW hS69 (by rw [K99]; exact (Nat.le_trans (Nat.le_trans (Nat.le_refl _) E92.1) K96.1)) (v := some (.int (1 : Int32))) (fun h => by rw [Bd.returns] at h; cases h)
          subst hQQ
          have hCR : CHr Z EL s.vm s.heap T99.vm T99.heap := by rw [hh, K99]; exact CR97.trans (CHv.at X99 hZ69 (own_EW hw) CR97.1)
          refine ⟨_, _, retN X99 hx (t := .boolean) Bd.returns (by simp) (hb hby at_240) hr, hrun, hended, _, _, rfl, ?_, hCR, own_REmono hRW (by decide) (by decide)⟩
          show Q_law Z p0 p1 p2 G1 h0 n0 _ T99.heap _
          rw [K99]
          exact ⟨rfl, N99⟩
        case neg =>
          refine Goes.st (fun t k => XS.ifNo X69.here hx rfl (hb hby at_115) rfl ((if0 _ _).trans (feq c91).1) k) ?_
          show Goes _ _ _ _ (T69.setTop (mkF m 118 #[.val (.int p0), .val (.int p1), .val (.int p2), .val (.ref b1), .val (.ref b9), .val (.ref b15), .val (.ref b65), .val (.int (1 : Int32)), .unset, .unset, .unset, .unset, .unset] []))
          refine Goes.st (fun t k => XS.iconst X69.here hx rfl (hb hby at_118) k) ?_
          show Goes _ _ _ _ (T69.setTop (mkF m 119 #[.val (.int p0), .val (.int p1), .val (.int p2), .val (.ref b1), .val (.ref b9), .val (.ref b15), .val (.ref b65), .val (.int (1 : Int32)), .unset, .unset, .unset, .unset, .unset] [(.int (1 : Int32))]))
          refine Goes.st (fun t k => XS.goto X69.here hx rfl (pc0 := 119) (pc' := 123) rfl (hb hby at_119) (by decide) (by decide) k) ?_
          show Goes _ _ _ _ (T69.setTop (mkF m 123 #[.val (.int p0), .val (.int p1), .val (.int p2), .val (.ref b1), .val (.ref b9), .val (.ref b15), .val (.ref b65), .val (.int (1 : Int32)), .unset, .unset, .unset, .unset, .unset] [(.int (1 : Int32))]))
          refine Goes.st (fun t k => XS.istore X69.here hx rfl (hb hby at_123) rfl (l' := #[.val (.int p0), .val (.int p1), .val (.int p2), .val (.ref b1), .val (.ref b9), .val (.ref b15), .val (.ref b65), .val (.int (1 : Int32)), .val (.int (1 : Int32)), .unset, .unset, .unset, .unset]) rfl k) ?_
          show Goes _ _ _ _ (T69.setTop (mkF m 125 #[.val (.int p0), .val (.int p1), .val (.int p2), .val (.ref b1), .val (.ref b9), .val (.ref b15), .val (.ref b65), .val (.int (1 : Int32)), .val (.int (1 : Int32)), .unset, .unset, .unset, .unset] []))
          obtain ⟨T100, h100, X100, e100, E100, A100, D100, -, st100⟩ := newO X69 hx hZ69 hown69 (hw30 hw) (hw31 hw) (hw32 hw) rfl (g := (mkF m 125 #[.val (.int p0), .val (.int p1), .val (.int p2), .val (.ref b1), .val (.ref b9), .val (.ref b15), .val (.ref b65), .val (.int (1 : Int32)), .val (.int (1 : Int32)), .unset, .unset, .unset, .unset] [])) rfl (hb hby at_125) (by decide) (by decide)
          obtain ⟨b100, g100⟩ : ∃ z, z = T69.heap.size := ⟨_, rfl⟩
          rw [← g100] at A100 D100 st100
          have CR101 : CHr Z EL s.vm h0 T69.vm h100 := CR74.trans (CHr.ext E100 CR74.1)
          have sf101_b65 : Safe Z EL T69.vm h100 b65 := Safe.ext E100 CR74.1 sf74_b65
          have F100_reason : Fld Z h100 b100 "com/example/tenon/tenon/registry/Validity" "reason" "Ljava/lang/String;" .null := D100 (Or.inl (hw43 hw)) (ty := (.object "java/lang/String")) (by decide)
          refine Goes.st st100 ?_
          show Goes _ _ _ _ (T100.setTop (mkF m 128 #[.val (.int p0), .val (.int p1), .val (.int p2), .val (.ref b1), .val (.ref b9), .val (.ref b15), .val (.ref b65), .val (.int (1 : Int32)), .val (.int (1 : Int32)), .unset, .unset, .unset, .unset] [(.ref b100)]))
          refine Goes.st (fun t k => XS.dup X100.here hx rfl (hb hby at_128) rfl rfl k) ?_
          show Goes _ _ _ _ (T100.setTop (mkF m 129 #[.val (.int p0), .val (.int p1), .val (.int p2), .val (.ref b1), .val (.ref b9), .val (.ref b15), .val (.ref b65), .val (.int (1 : Int32)), .val (.int (1 : Int32)), .unset, .unset, .unset, .unset] [(.ref b100), (.ref b100)]))
          obtain ⟨_, _, ⟨T102, L102, k102, n102⟩, -, X102, ⟨Lc102, hQ102, l102, y102, z102⟩, st102⟩ := X100.specialBack hx (y := (⟨"com/example/tenon/tenon/registry/Validity", "<init>", "()V"⟩ : MethodName)) rfl hown69 (mvT hZ69 (hw33 hw)) (mvT hZ69 (hw34 hw)) (mvT hZ69 (hw35 hw)) (by decide) (backOf (W := 1) (rm_vinit l Z a0 hw [] b100 h100 n0 (Nat.le_trans Z0 (Nat.le_trans (Nat.le_trans (Nat.le_trans (Nat.le_trans (Nat.le_trans (Nat.le_trans (Nat.le_trans (Nat.le_trans (Nat.le_trans (Nat.le_trans E1.1 (Nat.le_of_eq W4.size.symm)) (Nat.le_of_eq W7.size.symm)) E9.1) (Nat.le_of_eq W12.size.symm)) E15.1) K17.1) E65.1) E67.1) K69.1) E100.1)) ) hZ69 (hw35 hw) (hw32 hw) (by decide) (by decide)) (g := (mkF m 129 #[.val (.int p0), .val (.int p1), .val (.int p2), .val (.ref b1), .val (.ref b9), .val (.ref b15), .val (.ref b65), .val (.int (1 : Int32)), .val (.int (1 : Int32)), .unset, .unset, .unset, .unset] [(.ref b100), (.ref b100)])) rfl (by rw [hml]; rfl) (Steps.refl _) (a := b100) (argsL := []) (rest := [(.ref b100)]) (lenOf pd_2 rfl) rfl (by show 2 * 0 + _ ≤ _; exact Nat.le_of_eq rfl) (hb hby at_129) (fun _ _ => ⟨rfl, e100, (by decide : 11 + 0 ≤ _), (by decide : 22 + 0 ≤ _)⟩)
          dsimp only [Pt.U, Pt.locs, Pt.cells, Pt.slots] at X102 l102 y102 z102 st102 hQ102
          subst l102 y102 z102
          obtain ⟨rfl, N102q, K102⟩ := hQ102
          have N102 := Fr.app N69 N102q
          refine Goes.tr st102 ?_
          show Goes _ _ _ _ (T102.setTop (mkF m 132 #[.val (.int p0), .val (.int p1), .val (.int p2), .val (.ref b1), .val (.ref b9), .val (.ref b15), .val (.ref b65), .val (.int (1 : Int32)), .val (.int (1 : Int32)), .unset, .unset, .unset, .unset] [(.ref b100)]))
          refine Goes.st (fun t k => XS.astore X102.here hx rfl (hb hby at_132) rfl rfl (l' := #[.val (.int p0), .val (.int p1), .val (.int p2), .val (.ref b1), .val (.ref b9), .val (.ref b15), .val (.ref b65), .val (.int (1 : Int32)), .val (.int (1 : Int32)), .val (.ref b100), .unset, .unset, .unset]) rfl k) ?_
          show Goes _ _ _ _ (T102.setTop (mkF m 134 #[.val (.int p0), .val (.int p1), .val (.int p2), .val (.ref b1), .val (.ref b9), .val (.ref b15), .val (.ref b65), .val (.int (1 : Int32)), .val (.int (1 : Int32)), .val (.ref b100), .unset, .unset, .unset] []))
          refine Goes.st (fun t k => XS.aload X102.here hx rfl (hb hby at_134) rfl rfl k) ?_
          show Goes _ _ _ _ (T102.setTop (mkF m 136 #[.val (.int p0), .val (.int p1), .val (.int p2), .val (.ref b1), .val (.ref b9), .val (.ref b15), .val (.ref b65), .val (.int (1 : Int32)), .val (.int (1 : Int32)), .val (.ref b100), .unset, .unset, .unset] [(.ref b100)]))
          obtain ⟨cq103, kq103, q103a, q103b, q103c⟩ := isOf hZ69 K102 A100
          obtain ⟨_, _, ⟨T103, L103, k103, n103⟩, -, X103, ⟨Lc103, hQ103, l103, y103, z103⟩, st103⟩ := X102.virtualBack hx (y := (⟨"com/example/tenon/tenon/registry/Validity", "isValid", "()Z"⟩ : MethodName)) (z := (⟨"com/example/tenon/tenon/registry/Validity", "isValid", "()Z"⟩ : MethodName)) hown69 (mvT hZ69 (hw37 hw)) (mvT hZ69 (hw38 hw)) (notFace_of_selects (args := #[]) (mvT hZ69 (hw40 hw))) (mvT hZ69 (hw40 hw)) (mvT hZ69 (hw39 hw)) (by decide) (backOf (W := 0) (rm_ivN l Z a0 hw [] b100 h100 n0 (Nat.le_trans Z0 (Nat.le_trans (Nat.le_trans (Nat.le_trans (Nat.le_trans (Nat.le_trans (Nat.le_trans (Nat.le_trans (Nat.le_trans (Nat.le_trans (Nat.le_trans E1.1 (Nat.le_of_eq W4.size.symm)) (Nat.le_of_eq W7.size.symm)) E9.1) (Nat.le_of_eq W12.size.symm)) E15.1) K17.1) E65.1) E67.1) K69.1) E100.1)) F100_reason) hZ69 (hw41 hw) (hw32 hw) (by decide) (by decide)) q103a q103c (g := (mkF m 136 #[.val (.int p0), .val (.int p1), .val (.int p2), .val (.ref b1), .val (.ref b9), .val (.ref b15), .val (.ref b65), .val (.int (1 : Int32)), .val (.int (1 : Int32)), .val (.ref b100), .unset, .unset, .unset] [(.ref b100)])) rfl (by rw [hml]; rfl) (Steps.refl _) (argsL := []) (rest := []) (lenOf pd_3 rfl) rfl (by show 2 * 0 + _ ≤ _; exact Nat.le_of_eq rfl) (hb hby at_136) (fun _ _ => ⟨rfl, K102, (by decide : 11 + 0 ≤ _), (by decide : 22 + 0 ≤ _)⟩)
          dsimp only [Pt.U, Pt.locs, Pt.cells, Pt.slots] at X103 l103 y103 z103 st103 hQ103
          subst l103 y103 z103
          obtain ⟨rfl, N103q, K103⟩ := hQ103
          have N103 := Fr.app N102 N103q
          refine Goes.tr st103 ?_
          show Goes _ _ _ _ (T103.setTop (mkF m 139 #[.val (.int p0), .val (.int p1), .val (.int p2), .val (.ref b1), .val (.ref b9), .val (.ref b15), .val (.ref b65), .val (.int (1 : Int32)), .val (.int (1 : Int32)), .val (.ref b100), .unset, .unset, .unset] [(.int (1 : Int32))]))
          refine Goes.st (fun t k => XS.istore X103.here hx rfl (hb hby at_139) rfl (l' := #[.val (.int p0), .val (.int p1), .val (.int p2), .val (.ref b1), .val (.ref b9), .val (.ref b15), .val (.ref b65), .val (.int (1 : Int32)), .val (.int (1 : Int32)), .val (.ref b100), .val (.int (1 : Int32)), .unset, .unset]) rfl k) ?_
          show Goes _ _ _ _ (T103.setTop (mkF m 141 #[.val (.int p0), .val (.int p1), .val (.int p2), .val (.ref b1), .val (.ref b9), .val (.ref b15), .val (.ref b65), .val (.int (1 : Int32)), .val (.int (1 : Int32)), .val (.ref b100), .val (.int (1 : Int32)), .unset, .unset] []))
          refine Goes.st (fun t k => XS.iload X103.here hx rfl (hb hby at_141) rfl k) ?_
          show Goes _ _ _ _ (T103.setTop (mkF m 143 #[.val (.int p0), .val (.int p1), .val (.int p2), .val (.ref b1), .val (.ref b9), .val (.ref b15), .val (.ref b65), .val (.int (1 : Int32)), .val (.int (1 : Int32)), .val (.ref b100), .val (.int (1 : Int32)), .unset, .unset] [(.int (1 : Int32))]))
          refine Goes.st (fun t k => XS.ifNo X103.here hx rfl (hb hby at_143) rfl ((if0 _ _).trans (feq (by decide : ¬ ((1 : Int32) = (0 : Int32)))).1) k) ?_
          show Goes _ _ _ _ (T103.setTop (mkF m 146 #[.val (.int p0), .val (.int p1), .val (.int p2), .val (.ref b1), .val (.ref b9), .val (.ref b15), .val (.ref b65), .val (.int (1 : Int32)), .val (.int (1 : Int32)), .val (.ref b100), .val (.int (1 : Int32)), .unset, .unset] []))
          refine Goes.st (fun t k => XS.aload X103.here hx rfl (hb hby at_146) rfl rfl k) ?_
          show Goes _ _ _ _ (T103.setTop (mkF m 148 #[.val (.int p0), .val (.int p1), .val (.int p2), .val (.ref b1), .val (.ref b9), .val (.ref b15), .val (.ref b65), .val (.int (1 : Int32)), .val (.int (1 : Int32)), .val (.ref b100), .val (.int (1 : Int32)), .unset, .unset] [(.ref b100)]))
          refine Goes.st (fun t k => XS.aload X103.here hx rfl (hb hby at_148) rfl rfl k) ?_
          show Goes _ _ _ _ (T103.setTop (mkF m 150 #[.val (.int p0), .val (.int p1), .val (.int p2), .val (.ref b1), .val (.ref b9), .val (.ref b15), .val (.ref b65), .val (.int (1 : Int32)), .val (.int (1 : Int32)), .val (.ref b100), .val (.int (1 : Int32)), .unset, .unset] [(.ref b15), (.ref b100)]))
          obtain ⟨cq104, kq104, q104a, q104b, q104c⟩ := isOf hZ69 K103 A100
          obtain ⟨_, _, ⟨T104, L104, k104, n104⟩, -, X104, ⟨Lc104, hQ104, l104, y104, z104⟩, st104⟩ := X103.virtualBack hx (y := (⟨"com/example/tenon/tenon/registry/Validity", "invalidate", "(Ljava/lang/String;)V"⟩ : MethodName)) (z := (⟨"com/example/tenon/tenon/registry/Validity", "invalidate", "(Ljava/lang/String;)V"⟩ : MethodName)) hown69 (mvT hZ69 (hw44 hw)) (mvT hZ69 (hw45 hw)) (notFace_of_selects (args := #[]) (mvT hZ69 (hw47 hw))) (mvT hZ69 (hw47 hw)) (mvT hZ69 (hw46 hw)) (by decide) (backOf (W := 0) (rm_inv l Z a0 hw [] b100 b15 (Value.null) h100 n0 (Nat.le_trans Z0 (Nat.le_trans (Nat.le_trans (Nat.le_trans (Nat.le_trans (Nat.le_trans (Nat.le_trans (Nat.le_trans (Nat.le_trans (Nat.le_trans (Nat.le_trans E1.1 (Nat.le_of_eq W4.size.symm)) (Nat.le_of_eq W7.size.symm)) E9.1) (Nat.le_of_eq W12.size.symm)) E15.1) K17.1) E65.1) E67.1) K69.1) E100.1)) A100 F100_reason (Nat.le_trans Z0 (Nat.le_trans (Nat.le_trans (Nat.le_trans (Nat.le_trans (Nat.le_trans (Nat.le_trans (Nat.le_trans (Nat.le_trans (Nat.le_trans (Nat.le_trans E1.1 (Nat.le_of_eq W4.size.symm)) (Nat.le_of_eq W7.size.symm)) E9.1) (Nat.le_of_eq W12.size.symm)) E15.1) K17.1) E65.1) E67.1) K69.1) (Nat.le_of_eq g100.symm)))) hZ69 (hw48 hw) (hw32 hw) (by decide) (by decide)) q104a q104c (g := (mkF m 150 #[.val (.int p0), .val (.int p1), .val (.int p2), .val (.ref b1), .val (.ref b9), .val (.ref b15), .val (.ref b65), .val (.int (1 : Int32)), .val (.int (1 : Int32)), .val (.ref b100), .val (.int (1 : Int32)), .unset, .unset] [(.ref b15), (.ref b100)])) rfl (by rw [hml]; rfl) (Steps.refl _) (argsL := [(.ref b15)]) (rest := []) (lenOf pd_4 rfl) rfl (by show 2 * 0 + _ ≤ _; exact Nat.le_of_eq rfl) (hb hby at_150) (fun _ _ => ⟨rfl, K103, (by decide : 11 + 0 ≤ _), (by decide : 22 + 0 ≤ _)⟩)
          dsimp only [Pt.U, Pt.locs, Pt.cells, Pt.slots] at X104 l104 y104 z104 st104 hQ104
          subst l104 y104 z104
          obtain ⟨rfl, N104q, K104, F104_0, F104_1⟩ := hQ104
          have N104 := Fr.app N103 N104q
          have hs105 : ∀ x ∈ ([b100] : List Addr), Safe Z EL T69.vm h100 x := (allS (Safe.exa hZ69.alike A100 (by decide) (by decide)) all0)
          have CR105 : CHr Z EL s.vm h0 T69.vm T104.heap := CR101.trans (CHr.keep K104 hs105 CR101.1)
          have sf105_b65 : Safe Z EL T69.vm T104.heap b65 := Safe.keep K104 hs105 CR101.1 sf101_b65
          refine Goes.tr st104 ?_
          show Goes _ _ _ _ (T104.setTop (mkF m 153 #[.val (.int p0), .val (.int p1), .val (.int p2), .val (.ref b1), .val (.ref b9), .val (.ref b15), .val (.ref b65), .val (.int (1 : Int32)), .val (.int (1 : Int32)), .val (.ref b100), .val (.int (1 : Int32)), .unset, .unset] []))
          refine Goes.st (fun t k => XS.aload X104.here hx rfl (hb hby at_153) rfl rfl k) ?_
          show Goes _ _ _ _ (T104.setTop (mkF m 155 #[.val (.int p0), .val (.int p1), .val (.int p2), .val (.ref b1), .val (.ref b9), .val (.ref b15), .val (.ref b65), .val (.int (1 : Int32)), .val (.int (1 : Int32)), .val (.ref b100), .val (.int (1 : Int32)), .unset, .unset] [(.ref b100)]))
          obtain ⟨cq106, kq106, q106a, q106b, q106c⟩ := isOf hZ69 rfl F104_0
          obtain ⟨_, _, ⟨T106, L106, k106, n106⟩, -, X106, ⟨Lc106, hQ106, l106, y106, z106⟩, st106⟩ := X104.virtualBack hx (y := (⟨"com/example/tenon/tenon/registry/Validity", "isValid", "()Z"⟩ : MethodName)) (z := (⟨"com/example/tenon/tenon/registry/Validity", "isValid", "()Z"⟩ : MethodName)) hown69 (mvT hZ69 (hw37 hw)) (mvT hZ69 (hw38 hw)) (notFace_of_selects (args := #[]) (mvT hZ69 (hw40 hw))) (mvT hZ69 (hw40 hw)) (mvT hZ69 (hw39 hw)) (by decide) (backOf (W := 0) (rm_ivR l Z a0 hw [] b100 b15 T104.heap n0 (Nat.le_trans Z0 (Nat.le_trans (Nat.le_trans (Nat.le_trans (Nat.le_trans (Nat.le_trans (Nat.le_trans (Nat.le_trans (Nat.le_trans (Nat.le_trans (Nat.le_trans (Nat.le_trans E1.1 (Nat.le_of_eq W4.size.symm)) (Nat.le_of_eq W7.size.symm)) E9.1) (Nat.le_of_eq W12.size.symm)) E15.1) K17.1) E65.1) E67.1) K69.1) E100.1) K104.1)) F104_1) hZ69 (hw41 hw) (hw32 hw) (by decide) (by decide)) q106a q106c (g := (mkF m 155 #[.val (.int p0), .val (.int p1), .val (.int p2), .val (.ref b1), .val (.ref b9), .val (.ref b15), .val (.ref b65), .val (.int (1 : Int32)), .val (.int (1 : Int32)), .val (.ref b100), .val (.int (1 : Int32)), .unset, .unset] [(.ref b100)])) rfl (by rw [hml]; rfl) (Steps.refl _) (argsL := []) (rest := []) (lenOf pd_3 rfl) rfl (by show 2 * 0 + _ ≤ _; exact Nat.le_of_eq rfl) (hb hby at_155) (fun _ _ => ⟨rfl, rfl, (by decide : 11 + 0 ≤ _), (by decide : 22 + 0 ≤ _)⟩)
          dsimp only [Pt.U, Pt.locs, Pt.cells, Pt.slots] at X106 l106 y106 z106 st106 hQ106
          subst l106 y106 z106
          obtain ⟨rfl, N106q, K106⟩ := hQ106
          have N106 := Fr.app N104 N106q
          refine Goes.tr st106 ?_
          show Goes _ _ _ _ (T106.setTop (mkF m 158 #[.val (.int p0), .val (.int p1), .val (.int p2), .val (.ref b1), .val (.ref b9), .val (.ref b15), .val (.ref b65), .val (.int (1 : Int32)), .val (.int (1 : Int32)), .val (.ref b100), .val (.int (1 : Int32)), .unset, .unset] [(.int (0 : Int32))]))
          refine Goes.st (fun t k => XS.iload X106.here hx rfl (hb hby at_158) rfl k) ?_
          show Goes _ _ _ _ (T106.setTop (mkF m 160 #[.val (.int p0), .val (.int p1), .val (.int p2), .val (.ref b1), .val (.ref b9), .val (.ref b15), .val (.ref b65), .val (.int (1 : Int32)), .val (.int (1 : Int32)), .val (.ref b100), .val (.int (1 : Int32)), .unset, .unset] [(.int (1 : Int32)), (.int (0 : Int32))]))
          refine Goes.st (fun t k => XS.ifYes X106.here hx rfl (pc0 := 160) (pc' := 167) rfl (hb hby at_160) rfl ((if0 _ _).trans (feq (by decide : ¬ ((1 : Int32) = (0 : Int32)))).2) (by decide) (by decide) k) ?_
          show Goes _ _ _ _ (T106.setTop (mkF m 167 #[.val (.int p0), .val (.int p1), .val (.int p2), .val (.ref b1), .val (.ref b9), .val (.ref b15), .val (.ref b65), .val (.int (1 : Int32)), .val (.int (1 : Int32)), .val (.ref b100), .val (.int (1 : Int32)), .unset, .unset] [(.int (0 : Int32))]))
          refine Goes.st (fun t k => XS.iconst X106.here hx rfl (hb hby at_167) k) ?_
          show Goes _ _ _ _ (T106.setTop (mkF m 168 #[.val (.int p0), .val (.int p1), .val (.int p2), .val (.ref b1), .val (.ref b9), .val (.ref b15), .val (.ref b65), .val (.int (1 : Int32)), .val (.int (1 : Int32)), .val (.ref b100), .val (.int (1 : Int32)), .unset, .unset] [(.int (0 : Int32)), (.int (0 : Int32))]))
          refine Goes.st (fun t k => XS.icmpNo X106.here hx rfl (hb hby at_168) rfl (teq (by decide : (0 : Int32) = (0 : Int32))).2 k) ?_
          show Goes _ _ _ _ (T106.setTop (mkF m 171 #[.val (.int p0), .val (.int p1), .val (.int p2), .val (.ref b1), .val (.ref b9), .val (.ref b15), .val (.ref b65), .val (.int (1 : Int32)), .val (.int (1 : Int32)), .val (.ref b100), .val (.int (1 : Int32)), .unset, .unset] []))
          refine Goes.st (fun t k => XS.iconst X106.here hx rfl (hb hby at_171) k) ?_
          show Goes _ _ _ _ (T106.setTop (mkF m 172 #[.val (.int p0), .val (.int p1), .val (.int p2), .val (.ref b1), .val (.ref b9), .val (.ref b15), .val (.ref b65), .val (.int (1 : Int32)), .val (.int (1 : Int32)), .val (.ref b100), .val (.int (1 : Int32)), .unset, .unset] [(.int (1 : Int32))]))
          refine Goes.st (fun t k => XS.goto X106.here hx rfl (pc0 := 172) (pc' := 176) rfl (hb hby at_172) (by decide) (by decide) k) ?_
          show Goes _ _ _ _ (T106.setTop (mkF m 176 #[.val (.int p0), .val (.int p1), .val (.int p2), .val (.ref b1), .val (.ref b9), .val (.ref b15), .val (.ref b65), .val (.int (1 : Int32)), .val (.int (1 : Int32)), .val (.ref b100), .val (.int (1 : Int32)), .unset, .unset] [(.int (1 : Int32))]))
          refine Goes.st (fun t k => XS.istore X106.here hx rfl (hb hby at_176) rfl (l' := #[.val (.int p0), .val (.int p1), .val (.int p2), .val (.ref b1), .val (.ref b9), .val (.ref b15), .val (.ref b65), .val (.int (1 : Int32)), .val (.int (1 : Int32)), .val (.ref b100), .val (.int (1 : Int32)), .val (.int (1 : Int32)), .unset]) rfl k) ?_
          show Goes _ _ _ _ (T106.setTop (mkF m 178 #[.val (.int p0), .val (.int p1), .val (.int p2), .val (.ref b1), .val (.ref b9), .val (.ref b15), .val (.ref b65), .val (.int (1 : Int32)), .val (.int (1 : Int32)), .val (.ref b100), .val (.int (1 : Int32)), .val (.int (1 : Int32)), .unset] []))
          refine Goes.st (fun t k => XS.iload X106.here hx rfl (hb hby at_178) rfl k) ?_
          show Goes _ _ _ _ (T106.setTop (mkF m 180 #[.val (.int p0), .val (.int p1), .val (.int p2), .val (.ref b1), .val (.ref b9), .val (.ref b15), .val (.ref b65), .val (.int (1 : Int32)), .val (.int (1 : Int32)), .val (.ref b100), .val (.int (1 : Int32)), .val (.int (1 : Int32)), .unset] [(.int (1 : Int32))]))
          refine Goes.st (fun t k => XS.ifNo X106.here hx rfl (hb hby at_180) rfl ((if0 _ _).trans (feq (by decide : ¬ ((1 : Int32) = (0 : Int32)))).1) k) ?_
          show Goes _ _ _ _ (T106.setTop (mkF m 183 #[.val (.int p0), .val (.int p1), .val (.int p2), .val (.ref b1), .val (.ref b9), .val (.ref b15), .val (.ref b65), .val (.int (1 : Int32)), .val (.int (1 : Int32)), .val (.ref b100), .val (.int (1 : Int32)), .val (.int (1 : Int32)), .unset] []))
          refine Goes.st (fun t k => XS.aload X106.here hx rfl (hb hby at_183) rfl rfl k) ?_
          show Goes _ _ _ _ (T106.setTop (mkF m 185 #[.val (.int p0), .val (.int p1), .val (.int p2), .val (.ref b1), .val (.ref b9), .val (.ref b15), .val (.ref b65), .val (.int (1 : Int32)), .val (.int (1 : Int32)), .val (.ref b100), .val (.int (1 : Int32)), .val (.int (1 : Int32)), .unset] [(.ref b100)]))
          refine Goes.st (fun t k => XS.aload X106.here hx rfl (hb hby at_185) rfl rfl k) ?_
          show Goes _ _ _ _ (T106.setTop (mkF m 187 #[.val (.int p0), .val (.int p1), .val (.int p2), .val (.ref b1), .val (.ref b9), .val (.ref b15), .val (.ref b65), .val (.int (1 : Int32)), .val (.int (1 : Int32)), .val (.ref b100), .val (.int (1 : Int32)), .val (.int (1 : Int32)), .unset] [(.ref b65), (.ref b100)]))
          obtain ⟨cq107, kq107, q107a, q107b, q107c⟩ := isOf hZ69 K106 F104_0
          obtain ⟨_, _, ⟨T107, L107, k107, n107⟩, -, X107, ⟨Lc107, hQ107, l107, y107, z107⟩, st107⟩ := X106.virtualBack hx (y := (⟨"com/example/tenon/tenon/registry/Validity", "invalidate", "(Ljava/lang/String;)V"⟩ : MethodName)) (z := (⟨"com/example/tenon/tenon/registry/Validity", "invalidate", "(Ljava/lang/String;)V"⟩ : MethodName)) hown69 (mvT hZ69 (hw44 hw)) (mvT hZ69 (hw45 hw)) (notFace_of_selects (args := #[]) (mvT hZ69 (hw47 hw))) (mvT hZ69 (hw47 hw)) (mvT hZ69 (hw46 hw)) (by decide) (backOf (W := 0) (rm_inv l Z a0 hw [] b100 b65 (Value.ref b15) T104.heap n0 (Nat.le_trans Z0 (Nat.le_trans (Nat.le_trans (Nat.le_trans (Nat.le_trans (Nat.le_trans (Nat.le_trans (Nat.le_trans (Nat.le_trans (Nat.le_trans (Nat.le_trans (Nat.le_trans E1.1 (Nat.le_of_eq W4.size.symm)) (Nat.le_of_eq W7.size.symm)) E9.1) (Nat.le_of_eq W12.size.symm)) E15.1) K17.1) E65.1) E67.1) K69.1) E100.1) K104.1)) F104_0 F104_1 (Nat.le_trans Z0 (Nat.le_trans (Nat.le_trans (Nat.le_trans (Nat.le_trans (Nat.le_trans (Nat.le_trans (Nat.le_trans (Nat.le_trans (Nat.le_trans (Nat.le_trans E1.1 (Nat.le_of_eq W4.size.symm)) (Nat.le_of_eq W7.size.symm)) E9.1) (Nat.le_of_eq W12.size.symm)) E15.1) K17.1) E65.1) E67.1) K69.1) (Nat.le_of_eq g100.symm)))) hZ69 (hw48 hw) (hw32 hw) (by decide) (by decide)) q107a q107c (g := (mkF m 187 #[.val (.int p0), .val (.int p1), .val (.int p2), .val (.ref b1), .val (.ref b9), .val (.ref b15), .val (.ref b65), .val (.int (1 : Int32)), .val (.int (1 : Int32)), .val (.ref b100), .val (.int (1 : Int32)), .val (.int (1 : Int32)), .unset] [(.ref b65), (.ref b100)])) rfl (by rw [hml]; rfl) (Steps.refl _) (argsL := [(.ref b65)]) (rest := []) (lenOf pd_4 rfl) rfl (by show 2 * 0 + _ ≤ _; exact Nat.le_of_eq rfl) (hb hby at_187) (fun _ _ => ⟨rfl, K106, (by decide : 11 + 0 ≤ _), (by decide : 22 + 0 ≤ _)⟩)
          dsimp only [Pt.U, Pt.locs, Pt.cells, Pt.slots] at X107 l107 y107 z107 st107 hQ107
          subst l107 y107 z107
          obtain ⟨rfl, N107q, K107, F107_0, F107_1⟩ := hQ107
          have N107 := Fr.app N106 N107q
          have hs108 : ∀ x ∈ ([b100] : List Addr), Safe Z EL T69.vm T104.heap x := (allS (Safe.exa hZ69.alike F104_0 (by decide) (by decide)) all0)
          have CR108 : CHr Z EL s.vm h0 T69.vm T107.heap := CR105.trans (CHr.keep K107 hs108 CR105.1)
          have sf108_b65 : Safe Z EL T69.vm T107.heap b65 := Safe.keep K107 hs108 CR105.1 sf105_b65
          refine Goes.tr st107 ?_
          show Goes _ _ _ _ (T107.setTop (mkF m 190 #[.val (.int p0), .val (.int p1), .val (.int p2), .val (.ref b1), .val (.ref b9), .val (.ref b15), .val (.ref b65), .val (.int (1 : Int32)), .val (.int (1 : Int32)), .val (.ref b100), .val (.int (1 : Int32)), .val (.int (1 : Int32)), .unset] []))
          refine Goes.st (fun t k => XS.aload X107.here hx rfl (hb hby at_190) rfl rfl k) ?_
          show Goes _ _ _ _ (T107.setTop (mkF m 192 #[.val (.int p0), .val (.int p1), .val (.int p2), .val (.ref b1), .val (.ref b9), .val (.ref b15), .val (.ref b65), .val (.int (1 : Int32)), .val (.int (1 : Int32)), .val (.ref b100), .val (.int (1 : Int32)), .val (.int (1 : Int32)), .unset] [(.ref b100)]))
          obtain ⟨cq109, kq109, q109a, q109b, q109c⟩ := isOf hZ69 rfl F107_0
          obtain ⟨_, _, ⟨T109, L109, k109, n109⟩, -, X109, ⟨Lc109, hQ109, l109, y109, z109⟩, st109⟩ := X107.virtualBack hx (y := (⟨"com/example/tenon/tenon/registry/Validity", "isValid", "()Z"⟩ : MethodName)) (z := (⟨"com/example/tenon/tenon/registry/Validity", "isValid", "()Z"⟩ : MethodName)) hown69 (mvT hZ69 (hw37 hw)) (mvT hZ69 (hw38 hw)) (notFace_of_selects (args := #[]) (mvT hZ69 (hw40 hw))) (mvT hZ69 (hw40 hw)) (mvT hZ69 (hw39 hw)) (by decide) (backOf (W := 0) (rm_ivR l Z a0 hw [] b100 b65 T107.heap n0 (Nat.le_trans Z0 (Nat.le_trans (Nat.le_trans (Nat.le_trans (Nat.le_trans (Nat.le_trans (Nat.le_trans (Nat.le_trans (Nat.le_trans (Nat.le_trans (Nat.le_trans (Nat.le_trans (Nat.le_trans E1.1 (Nat.le_of_eq W4.size.symm)) (Nat.le_of_eq W7.size.symm)) E9.1) (Nat.le_of_eq W12.size.symm)) E15.1) K17.1) E65.1) E67.1) K69.1) E100.1) K104.1) K107.1)) F107_1) hZ69 (hw41 hw) (hw32 hw) (by decide) (by decide)) q109a q109c (g := (mkF m 192 #[.val (.int p0), .val (.int p1), .val (.int p2), .val (.ref b1), .val (.ref b9), .val (.ref b15), .val (.ref b65), .val (.int (1 : Int32)), .val (.int (1 : Int32)), .val (.ref b100), .val (.int (1 : Int32)), .val (.int (1 : Int32)), .unset] [(.ref b100)])) rfl (by rw [hml]; rfl) (Steps.refl _) (argsL := []) (rest := []) (lenOf pd_3 rfl) rfl (by show 2 * 0 + _ ≤ _; exact Nat.le_of_eq rfl) (hb hby at_192) (fun _ _ => ⟨rfl, rfl, (by decide : 11 + 0 ≤ _), (by decide : 22 + 0 ≤ _)⟩)
          dsimp only [Pt.U, Pt.locs, Pt.cells, Pt.slots] at X109 l109 y109 z109 st109 hQ109
          subst l109 y109 z109
          obtain ⟨rfl, N109q, K109⟩ := hQ109
          have N109 := Fr.app N107 N109q
          refine Goes.tr st109 ?_
          show Goes _ _ _ _ (T109.setTop (mkF m 195 #[.val (.int p0), .val (.int p1), .val (.int p2), .val (.ref b1), .val (.ref b9), .val (.ref b15), .val (.ref b65), .val (.int (1 : Int32)), .val (.int (1 : Int32)), .val (.ref b100), .val (.int (1 : Int32)), .val (.int (1 : Int32)), .unset] [(.int (0 : Int32))]))
          refine Goes.st (fun t k => XS.iload X109.here hx rfl (hb hby at_195) rfl k) ?_
          show Goes _ _ _ _ (T109.setTop (mkF m 197 #[.val (.int p0), .val (.int p1), .val (.int p2), .val (.ref b1), .val (.ref b9), .val (.ref b15), .val (.ref b65), .val (.int (1 : Int32)), .val (.int (1 : Int32)), .val (.ref b100), .val (.int (1 : Int32)), .val (.int (1 : Int32)), .unset] [(.int (1 : Int32)), (.int (0 : Int32))]))
          refine Goes.st (fun t k => XS.ifYes X109.here hx rfl (pc0 := 197) (pc' := 209) rfl (hb hby at_197) rfl ((if0 _ _).trans (feq (by decide : ¬ ((1 : Int32) = (0 : Int32)))).2) (by decide) (by decide) k) ?_
          show Goes _ _ _ _ (T109.setTop (mkF m 209 #[.val (.int p0), .val (.int p1), .val (.int p2), .val (.ref b1), .val (.ref b9), .val (.ref b15), .val (.ref b65), .val (.int (1 : Int32)), .val (.int (1 : Int32)), .val (.ref b100), .val (.int (1 : Int32)), .val (.int (1 : Int32)), .unset] [(.int (0 : Int32))]))
          refine Goes.st (fun t k => XS.iconst X109.here hx rfl (hb hby at_209) k) ?_
          show Goes _ _ _ _ (T109.setTop (mkF m 210 #[.val (.int p0), .val (.int p1), .val (.int p2), .val (.ref b1), .val (.ref b9), .val (.ref b15), .val (.ref b65), .val (.int (1 : Int32)), .val (.int (1 : Int32)), .val (.ref b100), .val (.int (1 : Int32)), .val (.int (1 : Int32)), .unset] [(.int (0 : Int32)), (.int (0 : Int32))]))
          refine Goes.st (fun t k => XS.icmpNo X109.here hx rfl (hb hby at_210) rfl (teq (by decide : (0 : Int32) = (0 : Int32))).2 k) ?_
          show Goes _ _ _ _ (T109.setTop (mkF m 213 #[.val (.int p0), .val (.int p1), .val (.int p2), .val (.ref b1), .val (.ref b9), .val (.ref b15), .val (.ref b65), .val (.int (1 : Int32)), .val (.int (1 : Int32)), .val (.ref b100), .val (.int (1 : Int32)), .val (.int (1 : Int32)), .unset] []))
          refine Goes.st (fun t k => XS.iconst X109.here hx rfl (hb hby at_213) k) ?_
          show Goes _ _ _ _ (T109.setTop (mkF m 214 #[.val (.int p0), .val (.int p1), .val (.int p2), .val (.ref b1), .val (.ref b9), .val (.ref b15), .val (.ref b65), .val (.int (1 : Int32)), .val (.int (1 : Int32)), .val (.ref b100), .val (.int (1 : Int32)), .val (.int (1 : Int32)), .unset] [(.int (1 : Int32))]))
          refine Goes.st (fun t k => XS.goto X109.here hx rfl (pc0 := 214) (pc' := 218) rfl (hb hby at_214) (by decide) (by decide) k) ?_
          show Goes _ _ _ _ (T109.setTop (mkF m 218 #[.val (.int p0), .val (.int p1), .val (.int p2), .val (.ref b1), .val (.ref b9), .val (.ref b15), .val (.ref b65), .val (.int (1 : Int32)), .val (.int (1 : Int32)), .val (.ref b100), .val (.int (1 : Int32)), .val (.int (1 : Int32)), .unset] [(.int (1 : Int32))]))
          refine Goes.st (fun t k => XS.istore X109.here hx rfl (hb hby at_218) rfl (l' := #[.val (.int p0), .val (.int p1), .val (.int p2), .val (.ref b1), .val (.ref b9), .val (.ref b15), .val (.ref b65), .val (.int (1 : Int32)), .val (.int (1 : Int32)), .val (.ref b100), .val (.int (1 : Int32)), .val (.int (1 : Int32)), .val (.int (1 : Int32))]) rfl k) ?_
          show Goes _ _ _ _ (T109.setTop (mkF m 220 #[.val (.int p0), .val (.int p1), .val (.int p2), .val (.ref b1), .val (.ref b9), .val (.ref b15), .val (.ref b65), .val (.int (1 : Int32)), .val (.int (1 : Int32)), .val (.ref b100), .val (.int (1 : Int32)), .val (.int (1 : Int32)), .val (.int (1 : Int32))] []))
          refine Goes.st (fun t k => XS.iload X109.here hx rfl (hb hby at_220) rfl k) ?_
          show Goes _ _ _ _ (T109.setTop (mkF m 222 #[.val (.int p0), .val (.int p1), .val (.int p2), .val (.ref b1), .val (.ref b9), .val (.ref b15), .val (.ref b65), .val (.int (1 : Int32)), .val (.int (1 : Int32)), .val (.ref b100), .val (.int (1 : Int32)), .val (.int (1 : Int32)), .val (.int (1 : Int32))] [(.int (1 : Int32))]))
          refine Goes.st (fun t k => XS.ifNo X109.here hx rfl (hb hby at_222) rfl ((if0 _ _).trans (feq (by decide : ¬ ((1 : Int32) = (0 : Int32)))).1) k) ?_
          show Goes _ _ _ _ (T109.setTop (mkF m 225 #[.val (.int p0), .val (.int p1), .val (.int p2), .val (.ref b1), .val (.ref b9), .val (.ref b15), .val (.ref b65), .val (.int (1 : Int32)), .val (.int (1 : Int32)), .val (.ref b100), .val (.int (1 : Int32)), .val (.int (1 : Int32)), .val (.int (1 : Int32))] []))
          refine Goes.st (fun t k => XS.iload X109.here hx rfl (hb hby at_225) rfl k) ?_
          show Goes _ _ _ _ (T109.setTop (mkF m 227 #[.val (.int p0), .val (.int p1), .val (.int p2), .val (.ref b1), .val (.ref b9), .val (.ref b15), .val (.ref b65), .val (.int (1 : Int32)), .val (.int (1 : Int32)), .val (.ref b100), .val (.int (1 : Int32)), .val (.int (1 : Int32)), .val (.int (1 : Int32))] [(.int (1 : Int32))]))
          refine Goes.st (fun t k => XS.ifNo X109.here hx rfl (hb hby at_227) rfl ((if0 _ _).trans (feq (by decide : ¬ ((1 : Int32) = (0 : Int32)))).1) k) ?_
          show Goes _ _ _ _ (T109.setTop (mkF m 230 #[.val (.int p0), .val (.int p1), .val (.int p2), .val (.ref b1), .val (.ref b9), .val (.ref b15), .val (.ref b65), .val (.int (1 : Int32)), .val (.int (1 : Int32)), .val (.ref b100), .val (.int (1 : Int32)), .val (.int (1 : Int32)), .val (.int (1 : Int32))] []))
          refine Goes.st (fun t k => XS.iload X109.here hx rfl (hb hby at_230) rfl k) ?_
          show Goes _ _ _ _ (T109.setTop (mkF m 232 #[.val (.int p0), .val (.int p1), .val (.int p2), .val (.ref b1), .val (.ref b9), .val (.ref b15), .val (.ref b65), .val (.int (1 : Int32)), .val (.int (1 : Int32)), .val (.ref b100), .val (.int (1 : Int32)), .val (.int (1 : Int32)), .val (.int (1 : Int32))] [(.int (1 : Int32))]))
          refine Goes.st (fun t k => XS.ifNo X109.here hx rfl (hb hby at_232) rfl ((if0 _ _).trans (feq (by decide : ¬ ((1 : Int32) = (0 : Int32)))).1) k) ?_
          show Goes _ _ _ _ (T109.setTop (mkF m 235 #[.val (.int p0), .val (.int p1), .val (.int p2), .val (.ref b1), .val (.ref b9), .val (.ref b15), .val (.ref b65), .val (.int (1 : Int32)), .val (.int (1 : Int32)), .val (.ref b100), .val (.int (1 : Int32)), .val (.int (1 : Int32)), .val (.int (1 : Int32))] []))
          refine Goes.st (fun t k => XS.iconst X109.here hx rfl (hb hby at_235) k) ?_
          show Goes _ _ _ _ (T109.setTop (mkF m 236 #[.val (.int p0), .val (.int p1), .val (.int p2), .val (.ref b1), .val (.ref b9), .val (.ref b15), .val (.ref b65), .val (.int (1 : Int32)), .val (.int (1 : Int32)), .val (.ref b100), .val (.int (1 : Int32)), .val (.int (1 : Int32)), .val (.int (1 : Int32))] [(.int (1 : Int32))]))
          refine Goes.st (fun t k => XS.goto X109.here hx rfl (pc0 := 236) (pc' := 240) rfl (hb hby at_236) (by decide) (by decide) k) ?_
          show Goes _ _ _ _ (T109.setTop (mkF m 240 #[.val (.int p0), .val (.int p1), .val (.int p2), .val (.ref b1), .val (.ref b9), .val (.ref b15), .val (.ref b65), .val (.int (1 : Int32)), .val (.int (1 : Int32)), .val (.ref b100), .val (.int (1 : Int32)), .val (.int (1 : Int32)), .val (.int (1 : Int32))] [(.int (1 : Int32))]))
          obtain ⟨fs, hr, hrun, hended, hRW⟩ := X109.leaveW hS69 (by rw [K109]; exact (Nat.le_trans (Nat.le_trans (Nat.le_trans (Nat.le_refl _) E100.1) K104.1) K107.1)) (v := some (.int (1 : Int32))) (fun h => by rw [Bd.returns] at h; cases h)
          subst hQQ
          have hCR : CHr Z EL s.vm s.heap T109.vm T109.heap := by rw [hh, K109]; exact CR108.trans (CHv.at X109 hZ69 (own_EW hw) CR108.1)
          refine ⟨_, _, retN X109 hx (t := .boolean) Bd.returns (by simp) (hb hby at_240) hr, hrun, hended, _, _, rfl, ?_, hCR, own_REmono hRW (by decide) (by decide)⟩
          show Q_law Z p0 p1 p2 G1 h0 n0 _ T109.heap _
          rw [K109]
          exact ⟨rfl, N109⟩
  case neg =>
    refine Goes.st (fun t k => XS.ifNo X12.here hx rfl (hb hby at_42) rfl ((if0 _ _).trans (feq c14).1) k) ?_
    show Goes _ _ _ _ (T12.setTop (mkF m 45 #[.val (.int p0), .val (.int p1), .val (.int p2), .val (.ref b1), .val (.ref b9), .unset, .unset, .unset, .unset, .unset, .unset, .unset, .unset] []))
    obtain ⟨T110, h110, X110, e110, E110, A110, D110, -, st110⟩ := newO X12 hx hZ hown (hw1 hw) (hw2 hw) (hw3 hw) e12 (g := (mkF m 45 #[.val (.int p0), .val (.int p1), .val (.int p2), .val (.ref b1), .val (.ref b9), .unset, .unset, .unset, .unset, .unset, .unset, .unset, .unset] [])) rfl (hb hby at_45) (by decide) (by decide)
    obtain ⟨b110, g110⟩ : ∃ z, z = h12.size := ⟨_, rfl⟩
    rw [← g110] at A110 D110 st110
    have CR111 : CHr Z EL s.vm h0 s.vm h110 := CR13.trans (CHr.ext E110 CR13.1)
    have sf110_b110 : Safe Z EL s.vm h110 b110 := Safe.ext E110 CR13.1 (Safe.new (Nat.le_of_eq g110.symm))
    have F110_coder : Fld Z h110 b110 "java/lang/String" "coder" "B" (.int (0 : Int32)) := D110 (Or.inr (hw27 hw)) (ty := .byte) (by decide)
    have F110_value : Fld Z h110 b110 "java/lang/String" "value" "[B" .null := D110 (Or.inr (hw29 hw)) (ty := (.array .byte)) (by decide)
    refine Goes.st st110 ?_
    show Goes _ _ _ _ (T110.setTop (mkF m 48 #[.val (.int p0), .val (.int p1), .val (.int p2), .val (.ref b1), .val (.ref b9), .unset, .unset, .unset, .unset, .unset, .unset, .unset, .unset] [(.ref b110)]))
    refine Goes.st (fun t k => XS.dup X110.here hx rfl (hb hby at_48) rfl rfl k) ?_
    show Goes _ _ _ _ (T110.setTop (mkF m 49 #[.val (.int p0), .val (.int p1), .val (.int p2), .val (.ref b1), .val (.ref b9), .unset, .unset, .unset, .unset, .unset, .unset, .unset, .unset] [(.ref b110), (.ref b110)]))
    refine Goes.st (fun t k => XS.iconst X110.here hx rfl (hb hby at_49) k) ?_
    show Goes _ _ _ _ (T110.setTop (mkF m 50 #[.val (.int p0), .val (.int p1), .val (.int p2), .val (.ref b1), .val (.ref b9), .unset, .unset, .unset, .unset, .unset, .unset, .unset, .unset] [(.int (0 : Int32)), (.ref b110), (.ref b110)]))
    obtain ⟨T112, h112, k112, X112, e112, E112, A112, st112⟩ := newP X110 hx hZ (aty := .char) (hw0 hw) e110 (g := (mkF m 50 #[.val (.int p0), .val (.int p1), .val (.int p2), .val (.ref b1), .val (.ref b9), .unset, .unset, .unset, .unset, .unset, .unset, .unset, .unset] [(.int (0 : Int32)), (.ref b110), (.ref b110)])) rfl (hb hby at_50) rfl (by decide) (cap := 0) (by decide) (by decide) (by decide) (by decide)
    obtain ⟨b112, g112⟩ : ∃ z, z = h110.size := ⟨_, rfl⟩
    rw [← g112] at A112 st112
    have CR113 : CHr Z EL s.vm h0 s.vm h112 := CR111.trans (CHr.ext E112 CR111.1)
    have sf113_b110 : Safe Z EL s.vm h112 b110 := Safe.ext E112 CR111.1 sf110_b110
    have V112 : Arv Z h112 b112 k112 .char (0 : Int32) [] (.int (0 : Int32)) := (Arv.new A112 (by decide)).pad (pad_rep [] (.int (0 : Int32)) 0)
    refine Goes.st st112 ?_
    show Goes _ _ _ _ (T112.setTop (mkF m 52 #[.val (.int p0), .val (.int p1), .val (.int p2), .val (.ref b1), .val (.ref b9), .unset, .unset, .unset, .unset, .unset, .unset, .unset, .unset] [(.ref b112), (.ref b110), (.ref b110)]))
    have f115 : Exa Z h112 b110 "java/lang/String" := (A110.ext E112)
    have f116 : Fld Z h112 b110 "java/lang/String" "value" "[B" .null := (F110_value.ext E112)
    have f117 : Fld Z h112 b110 "java/lang/String" "coder" "B" (.int (0 : Int32)) := (F110_coder.ext E112)
    have f118 : Old Z n0 h112 := (((((((P0.ext E1).wr W4 (Nat.le_trans Z0 (Nat.le_of_eq g1.symm))).wr W7 (Nat.le_trans Z0 (Nat.le_of_eq g1.symm))).ext E9).wr W12 (Nat.le_trans Z0 (Nat.le_trans (Nat.le_trans (Nat.le_trans E1.1 (Nat.le_of_eq W4.size.symm)) (Nat.le_of_eq W7.size.symm)) (Nat.le_of_eq g9.symm)))).ext E110).ext E112)
    obtain ⟨_, _, ⟨T114, L114, k114, n114⟩, -, X114, hSr114, hgr114, ⟨Lc114, hQ114, l114, y114, z114, C114⟩, st114⟩ := X112.specialBackS hx (y := (⟨"java/lang/String", "<init>", "([C)V"⟩ : MethodName)) rfl hown (mvT hZ (hw4 hw)) (mvT hZ (hw5 hw)) (mvT hZ (hw6 hw)) (by decide) (own_backW (W := 1) (xs := [b110]) (rm_s1e l Z a0 hw [] b110 b112 k112 h112 n0 (Nat.le_trans Z0 (Nat.le_trans (Nat.le_trans (Nat.le_trans (Nat.le_trans (Nat.le_trans (Nat.le_trans E1.1 (Nat.le_of_eq W4.size.symm)) (Nat.le_of_eq W7.size.symm)) E9.1) (Nat.le_of_eq W12.size.symm)) E110.1) E112.1)) f115 f116 f117 V112 (Nat.le_trans Z0 (Nat.le_trans (Nat.le_trans (Nat.le_trans (Nat.le_trans (Nat.le_trans E1.1 (Nat.le_of_eq W4.size.symm)) (Nat.le_of_eq W7.size.symm)) E9.1) (Nat.le_of_eq W12.size.symm)) (Nat.le_of_eq g110.symm)))) hZ (hw6 hw) (hw3 hw) (by decide) (by decide) (own_EW hw) CR113.1 (allS ⟨(Nat.lt_of_lt_of_le A110.lt E112.1), sf113_b110⟩ all0)) (g := (mkF m 52 #[.val (.int p0), .val (.int p1), .val (.int p2), .val (.ref b1), .val (.ref b9), .unset, .unset, .unset, .unset, .unset, .unset, .unset, .unset] [(.ref b112), (.ref b110), (.ref b110)])) rfl (by rw [hml]; rfl) (Steps.refl _) (a := b110) (argsL := [(.ref b112)]) (rest := [(.ref b110)]) (lenOf pd_1 rfl) rfl (by show 2 * 0 + _ ≤ _; exact Nat.le_of_eq rfl) (hb hby at_52) (fun _ _ => ⟨rfl, e112, (by decide : 4 + 4 ≤ _), (by decide : 7 + 8 ≤ _)⟩)
    dsimp only [Pt.U, Pt.locs, Pt.cells, Pt.slots] at X114 l114 y114 z114 st114 hQ114 hSr114 hgr114 C114
    subst l114 y114 z114
    obtain ⟨X114, hS114, hZ114, hown114⟩ := rebS hS0 (by rw [e112]; exact (Nat.le_trans (Nat.le_trans (Nat.le_trans (Nat.le_trans (Nat.le_trans (Nat.le_trans (Nat.le_trans hk0 E1.1) (Nat.le_of_eq W4.size.symm)) (Nat.le_of_eq W7.size.symm)) E9.1) (Nat.le_of_eq W12.size.symm)) E110.1) E112.1)) X114 hSr114 hgr114 hZ hown
    obtain ⟨t114, kb114, rfl, N114q, K114, F114_0, ne114_0⟩ := hQ114
    have N114 := Fr.app N12 N114q
    have F114_0E := F114_0.1
    have CR119 : CHr Z EL s.vm h0 T114.vm T114.heap := CR113.trans (C114)
    have sf119_b110 : Safe Z EL T114.vm T114.heap b110 := C114.safe (Nat.lt_of_lt_of_le A110.lt E112.1) sf113_b110
    refine Goes.tr st114 ?_
    show Goes _ _ _ _ (T114.setTop (mkF m 55 #[.val (.int p0), .val (.int p1), .val (.int p2), .val (.ref b1), .val (.ref b9), .unset, .unset, .unset, .unset, .unset, .unset, .unset, .unset] [(.ref b110)]))
    refine Goes.st (fun t k => XS.goto X114.here hx rfl (pc0 := 55) (pc' := 66) rfl (hb hby at_55) (by decide) (by decide) k) ?_
    show Goes _ _ _ _ (T114.setTop (mkF m 66 #[.val (.int p0), .val (.int p1), .val (.int p2), .val (.ref b1), .val (.ref b9), .unset, .unset, .unset, .unset, .unset, .unset, .unset, .unset] [(.ref b110)]))
    refine Goes.st (fun t k => XS.astore X114.here hx rfl (hb hby at_66) rfl rfl (l' := #[.val (.int p0), .val (.int p1), .val (.int p2), .val (.ref b1), .val (.ref b9), .val (.ref b110), .unset, .unset, .unset, .unset, .unset, .unset, .unset]) rfl k) ?_
    show Goes _ _ _ _ (T114.setTop (mkF m 68 #[.val (.int p0), .val (.int p1), .val (.int p2), .val (.ref b1), .val (.ref b9), .val (.ref b110), .unset, .unset, .unset, .unset, .unset, .unset, .unset] []))
    refine Goes.st (fun t k => XS.iloadN X114.here hx rfl (hb hby at_68) rfl k) ?_
    show Goes _ _ _ _ (T114.setTop (mkF m 69 #[.val (.int p0), .val (.int p1), .val (.int p2), .val (.ref b1), .val (.ref b9), .val (.ref b110), .unset, .unset, .unset, .unset, .unset, .unset, .unset] [(.int p2)]))
    refine Goes.st (fun t k => XS.bipush X114.here hx rfl (hb hby at_69) k) ?_
    show Goes _ _ _ _ (T114.setTop (mkF m 71 #[.val (.int p0), .val (.int p1), .val (.int p2), .val (.ref b1), .val (.ref b9), .val (.ref b110), .unset, .unset, .unset, .unset, .unset, .unset, .unset] [(.int (8 : Int32)), (.int p2)]))
    refine Goes.st (fun t k => XS.iand X114.here hx rfl (hb hby at_71) rfl k) ?_
    show Goes _ _ _ _ (T114.setTop (mkF m 72 #[.val (.int p0), .val (.int p1), .val (.int p2), .val (.ref b1), .val (.ref b9), .val (.ref b110), .unset, .unset, .unset, .unset, .unset, .unset, .unset] [(.int (p2 &&& (8 : Int32)))]))
    by_cases c120 : (p2 &&& (8 : Int32)) = (0 : Int32)
    case pos =>
      refine Goes.st (fun t k => XS.ifYes X114.here hx rfl (pc0 := 72) (pc' := 88) rfl (hb hby at_72) rfl ((if0 _ _).trans (teq c120).1) (by decide) (by decide) k) ?_
      show Goes _ _ _ _ (T114.setTop (mkF m 88 #[.val (.int p0), .val (.int p1), .val (.int p2), .val (.ref b1), .val (.ref b9), .val (.ref b110), .unset, .unset, .unset, .unset, .unset, .unset, .unset] []))
      obtain ⟨T121, h121, X121, e121, E121, A121, D121, -, st121⟩ := newO X114 hx hZ114 hown114 (hw1 hw) (hw2 hw) (hw3 hw) rfl (g := (mkF m 88 #[.val (.int p0), .val (.int p1), .val (.int p2), .val (.ref b1), .val (.ref b9), .val (.ref b110), .unset, .unset, .unset, .unset, .unset, .unset, .unset] [])) rfl (hb hby at_88) (by decide) (by decide)
      obtain ⟨b121, g121⟩ : ∃ z, z = T114.heap.size := ⟨_, rfl⟩
      rw [← g121] at A121 D121 st121
      have CR122 : CHr Z EL s.vm h0 T114.vm h121 := CR119.trans (CHr.ext E121 CR119.1)
      have sf122_b110 : Safe Z EL T114.vm h121 b110 := Safe.ext E121 CR119.1 sf119_b110
      have sf121_b121 : Safe Z EL T114.vm h121 b121 := Safe.ext E121 CR119.1 (Safe.new (Nat.le_of_eq g121.symm))
      have F121_coder : Fld Z h121 b121 "java/lang/String" "coder" "B" (.int (0 : Int32)) := D121 (Or.inr (hw27 hw)) (ty := .byte) (by decide)
      have F121_value : Fld Z h121 b121 "java/lang/String" "value" "[B" .null := D121 (Or.inr (hw29 hw)) (ty := (.array .byte)) (by decide)
      refine Goes.st st121 ?_
      show Goes _ _ _ _ (T121.setTop (mkF m 91 #[.val (.int p0), .val (.int p1), .val (.int p2), .val (.ref b1), .val (.ref b9), .val (.ref b110), .unset, .unset, .unset, .unset, .unset, .unset, .unset] [(.ref b121)]))
      refine Goes.st (fun t k => XS.dup X121.here hx rfl (hb hby at_91) rfl rfl k) ?_
      show Goes _ _ _ _ (T121.setTop (mkF m 92 #[.val (.int p0), .val (.int p1), .val (.int p2), .val (.ref b1), .val (.ref b9), .val (.ref b110), .unset, .unset, .unset, .unset, .unset, .unset, .unset] [(.ref b121), (.ref b121)]))
      refine Goes.st (fun t k => XS.aload X121.here hx rfl (hb hby at_92) rfl rfl k) ?_
      show Goes _ _ _ _ (T121.setTop (mkF m 94 #[.val (.int p0), .val (.int p1), .val (.int p2), .val (.ref b1), .val (.ref b9), .val (.ref b110), .unset, .unset, .unset, .unset, .unset, .unset, .unset] [(.ref b9), (.ref b121), (.ref b121)]))
      have f124 : Arv Z h121 b9 k9 .char (1 : Int32) [(.int ch12)] (.int (0 : Int32)) := ((((V12.ext E110).ext E112).keep K114 (ninS (Nat.ne_of_lt (Nat.lt_of_lt_of_le A9.lt (Nat.le_trans (Nat.le_of_eq W12.size.symm) (Nat.le_of_eq g110.symm)))) nin0)).ext E121)
      have f125 : Old Z n0 h121 := ((f118.keep K114 (allS (Nat.le_trans Z0 (Nat.le_trans (Nat.le_trans (Nat.le_trans (Nat.le_trans (Nat.le_trans E1.1 (Nat.le_of_eq W4.size.symm)) (Nat.le_of_eq W7.size.symm)) E9.1) (Nat.le_of_eq W12.size.symm)) (Nat.le_of_eq g110.symm))) all0)).ext E121)
      have hp126 : ∀ c ∈ ([ch12] : List Int32), ¬ c < 0 ∧ ¬ (255 : Int32) < c := (own_cS rg12 own_c0)
      obtain ⟨_, _, ⟨T123, L123, k123, n123⟩, -, X123, ⟨Lc123, hQ123, l123, y123, z123⟩, st123⟩ := X121.specialBack hx (y := (⟨"java/lang/String", "<init>", "([C)V"⟩ : MethodName)) rfl hown114 (mvT hZ114 (hw4 hw)) (mvT hZ114 (hw5 hw)) (mvT hZ114 (hw6 hw)) (by decide) (StrChars.Road.backV (W := 1) hZ114 (own_hws hw) (kI := 4) (hw2 hw) (cs := ([ch12] : List Int32)) (bs := ([ch12] : List Int32).map (fun c => c.toInt8.toInt32)) (n := 1) (Nat.le_trans Z0 (Nat.le_trans (Nat.le_trans (Nat.le_trans (Nat.le_trans (Nat.le_trans (Nat.le_trans (Nat.le_trans (Nat.le_trans E1.1 (Nat.le_of_eq W4.size.symm)) (Nat.le_of_eq W7.size.symm)) E9.1) (Nat.le_of_eq W12.size.symm)) E110.1) E112.1) K114.1) (Nat.le_of_eq g121.symm))) (Nat.le_trans Z0 (Nat.le_trans (Nat.le_trans (Nat.le_trans (Nat.le_trans (Nat.le_trans (Nat.le_trans (Nat.le_trans (Nat.le_trans E1.1 (Nat.le_of_eq W4.size.symm)) (Nat.le_of_eq W7.size.symm)) E9.1) (Nat.le_of_eq W12.size.symm)) E110.1) E112.1) K114.1) E121.1)) A121 F121_value F121_coder f124 (O2.ext f125.2) P5 rfl rfl (by decide) (by decide) hp126 rfl (by decide) (by decide)) (g := (mkF m 94 #[.val (.int p0), .val (.int p1), .val (.int p2), .val (.ref b1), .val (.ref b9), .val (.ref b110), .unset, .unset, .unset, .unset, .unset, .unset, .unset] [(.ref b9), (.ref b121), (.ref b121)])) rfl (by rw [hml]; rfl) (Steps.refl _) (a := b121) (argsL := [(.ref b9)]) (rest := [(.ref b121)]) (lenOf pd_1 rfl) rfl (by show 2 * 0 + _ ≤ _; exact Nat.le_of_eq rfl) (hb hby at_94) (fun _ _ => ⟨rfl, e121, (by decide : 9 + 1 ≤ _), (by decide : 19 + 1 ≤ _)⟩)
      dsimp only [Pt.U, Pt.locs, Pt.cells, Pt.slots] at X123 l123 y123 z123 st123 hQ123
      subst l123 y123 z123
      obtain ⟨rfl, N123q, K123, Ex123, Cd123, t123, kb123, lz123, lo123, tn123, Vf123, Av123⟩ := hQ123
      have N123 := Fr.app N114 N123q
      have S123 : Str Z T123.heap b121 t123 kb123 [ch12] := ⟨Ex123, Vf123, Cd123, Av123, hp126, Nat.le_of_ble_eq_true rfl⟩
      have hs127 : ∀ x ∈ ([b121] : List Addr), Safe Z EL T114.vm h121 x := (allS sf121_b121 all0)
      have CR127 : CHr Z EL s.vm h0 T114.vm T123.heap := CR122.trans (CHr.keep K123 hs127 CR122.1)
      have sf127_b110 : Safe Z EL T114.vm T123.heap b110 := Safe.keep K123 hs127 CR122.1 sf122_b110
      have sf127_b121 : Safe Z EL T114.vm T123.heap b121 := Safe.keep K123 hs127 CR122.1 sf121_b121
      refine Goes.tr st123 ?_
      show Goes _ _ _ _ (T123.setTop (mkF m 97 #[.val (.int p0), .val (.int p1), .val (.int p2), .val (.ref b1), .val (.ref b9), .val (.ref b110), .unset, .unset, .unset, .unset, .unset, .unset, .unset] [(.ref b121)]))
      refine Goes.st (fun t k => XS.astore X123.here hx rfl (hb hby at_97) rfl rfl (l' := #[.val (.int p0), .val (.int p1), .val (.int p2), .val (.ref b1), .val (.ref b9), .val (.ref b110), .val (.ref b121), .unset, .unset, .unset, .unset, .unset, .unset]) rfl k) ?_
      show Goes _ _ _ _ (T123.setTop (mkF m 99 #[.val (.int p0), .val (.int p1), .val (.int p2), .val (.ref b1), .val (.ref b9), .val (.ref b110), .val (.ref b121), .unset, .unset, .unset, .unset, .unset, .unset] []))
      refine Goes.st (fun t k => XS.iloadN X123.here hx rfl (hb hby at_99) rfl k) ?_
      show Goes _ _ _ _ (T123.setTop (mkF m 100 #[.val (.int p0), .val (.int p1), .val (.int p2), .val (.ref b1), .val (.ref b9), .val (.ref b110), .val (.ref b121), .unset, .unset, .unset, .unset, .unset, .unset] [(.int p2)]))
      refine Goes.st (fun t k => XS.iconst X123.here hx rfl (hb hby at_100) k) ?_
      show Goes _ _ _ _ (T123.setTop (mkF m 101 #[.val (.int p0), .val (.int p1), .val (.int p2), .val (.ref b1), .val (.ref b9), .val (.ref b110), .val (.ref b121), .unset, .unset, .unset, .unset, .unset, .unset] [(.int (1 : Int32)), (.int p2)]))
      refine Goes.st (fun t k => XS.iand X123.here hx rfl (hb hby at_101) rfl k) ?_
      show Goes _ _ _ _ (T123.setTop (mkF m 102 #[.val (.int p0), .val (.int p1), .val (.int p2), .val (.ref b1), .val (.ref b9), .val (.ref b110), .val (.ref b121), .unset, .unset, .unset, .unset, .unset, .unset] [(.int (p2 &&& (1 : Int32)))]))
      by_cases c128 : (p2 &&& (1 : Int32)) = (0 : Int32)
      case pos =>
        refine Goes.st (fun t k => XS.ifYes X123.here hx rfl (pc0 := 102) (pc' := 109) rfl (hb hby at_102) rfl ((if0 _ _).trans (teq c128).1) (by decide) (by decide) k) ?_
        show Goes _ _ _ _ (T123.setTop (mkF m 109 #[.val (.int p0), .val (.int p1), .val (.int p2), .val (.ref b1), .val (.ref b9), .val (.ref b110), .val (.ref b121), .unset, .unset, .unset, .unset, .unset, .unset] []))
        refine Goes.st (fun t k => XS.iconst X123.here hx rfl (hb hby at_109) k) ?_
        show Goes _ _ _ _ (T123.setTop (mkF m 110 #[.val (.int p0), .val (.int p1), .val (.int p2), .val (.ref b1), .val (.ref b9), .val (.ref b110), .val (.ref b121), .unset, .unset, .unset, .unset, .unset, .unset] [(.int (0 : Int32))]))
        refine Goes.st (fun t k => XS.istore X123.here hx rfl (hb hby at_110) rfl (l' := #[.val (.int p0), .val (.int p1), .val (.int p2), .val (.ref b1), .val (.ref b9), .val (.ref b110), .val (.ref b121), .val (.int (0 : Int32)), .unset, .unset, .unset, .unset, .unset]) rfl k) ?_
        show Goes _ _ _ _ (T123.setTop (mkF m 112 #[.val (.int p0), .val (.int p1), .val (.int p2), .val (.ref b1), .val (.ref b9), .val (.ref b110), .val (.ref b121), .val (.int (0 : Int32)), .unset, .unset, .unset, .unset, .unset] []))
        refine Goes.st (fun t k => XS.iloadN X123.here hx rfl (hb hby at_112) rfl k) ?_
        show Goes _ _ _ _ (T123.setTop (mkF m 113 #[.val (.int p0), .val (.int p1), .val (.int p2), .val (.ref b1), .val (.ref b9), .val (.ref b110), .val (.ref b121), .val (.int (0 : Int32)), .unset, .unset, .unset, .unset, .unset] [(.int p2)]))
        refine Goes.st (fun t k => XS.iconst X123.here hx rfl (hb hby at_113) k) ?_
        show Goes _ _ _ _ (T123.setTop (mkF m 114 #[.val (.int p0), .val (.int p1), .val (.int p2), .val (.ref b1), .val (.ref b9), .val (.ref b110), .val (.ref b121), .val (.int (0 : Int32)), .unset, .unset, .unset, .unset, .unset] [(.int (2 : Int32)), (.int p2)]))
        refine Goes.st (fun t k => XS.iand X123.here hx rfl (hb hby at_114) rfl k) ?_
        show Goes _ _ _ _ (T123.setTop (mkF m 115 #[.val (.int p0), .val (.int p1), .val (.int p2), .val (.ref b1), .val (.ref b9), .val (.ref b110), .val (.ref b121), .val (.int (0 : Int32)), .unset, .unset, .unset, .unset, .unset] [(.int (p2 &&& (2 : Int32)))]))
        by_cases c129 : (p2 &&& (2 : Int32)) = (0 : Int32)
        case pos =>
          refine Goes.st (fun t k => XS.ifYes X123.here hx rfl (pc0 := 115) (pc' := 122) rfl (hb hby at_115) rfl ((if0 _ _).trans (teq c129).1) (by decide) (by decide) k) ?_
          show Goes _ _ _ _ (T123.setTop (mkF m 122 #[.val (.int p0), .val (.int p1), .val (.int p2), .val (.ref b1), .val (.ref b9), .val (.ref b110), .val (.ref b121), .val (.int (0 : Int32)), .unset, .unset, .unset, .unset, .unset] []))
          refine Goes.st (fun t k => XS.iconst X123.here hx rfl (hb hby at_122) k) ?_
          show Goes _ _ _ _ (T123.setTop (mkF m 123 #[.val (.int p0), .val (.int p1), .val (.int p2), .val (.ref b1), .val (.ref b9), .val (.ref b110), .val (.ref b121), .val (.int (0 : Int32)), .unset, .unset, .unset, .unset, .unset] [(.int (0 : Int32))]))
          refine Goes.st (fun t k => XS.istore X123.here hx rfl (hb hby at_123) rfl (l' := #[.val (.int p0), .val (.int p1), .val (.int p2), .val (.ref b1), .val (.ref b9), .val (.ref b110), .val (.ref b121), .val (.int (0 : Int32)), .val (.int (0 : Int32)), .unset, .unset, .unset, .unset]) rfl k) ?_
          show Goes _ _ _ _ (T123.setTop (mkF m 125 #[.val (.int p0), .val (.int p1), .val (.int p2), .val (.ref b1), .val (.ref b9), .val (.ref b110), .val (.ref b121), .val (.int (0 : Int32)), .val (.int (0 : Int32)), .unset, .unset, .unset, .unset] []))
          obtain ⟨T130, h130, X130, e130, E130, A130, D130, -, st130⟩ := newO X123 hx hZ114 hown114 (hw30 hw) (hw31 hw) (hw32 hw) rfl (g := (mkF m 125 #[.val (.int p0), .val (.int p1), .val (.int p2), .val (.ref b1), .val (.ref b9), .val (.ref b110), .val (.ref b121), .val (.int (0 : Int32)), .val (.int (0 : Int32)), .unset, .unset, .unset, .unset] [])) rfl (hb hby at_125) (by decide) (by decide)
          obtain ⟨b130, g130⟩ : ∃ z, z = T123.heap.size := ⟨_, rfl⟩
          rw [← g130] at A130 D130 st130
          have CR131 : CHr Z EL s.vm h0 T114.vm h130 := CR127.trans (CHr.ext E130 CR127.1)
          have sf131_b110 : Safe Z EL T114.vm h130 b110 := Safe.ext E130 CR127.1 sf127_b110
          have F130_reason : Fld Z h130 b130 "com/example/tenon/tenon/registry/Validity" "reason" "Ljava/lang/String;" .null := D130 (Or.inl (hw43 hw)) (ty := (.object "java/lang/String")) (by decide)
          refine Goes.st st130 ?_
          show Goes _ _ _ _ (T130.setTop (mkF m 128 #[.val (.int p0), .val (.int p1), .val (.int p2), .val (.ref b1), .val (.ref b9), .val (.ref b110), .val (.ref b121), .val (.int (0 : Int32)), .val (.int (0 : Int32)), .unset, .unset, .unset, .unset] [(.ref b130)]))
          refine Goes.st (fun t k => XS.dup X130.here hx rfl (hb hby at_128) rfl rfl k) ?_
          show Goes _ _ _ _ (T130.setTop (mkF m 129 #[.val (.int p0), .val (.int p1), .val (.int p2), .val (.ref b1), .val (.ref b9), .val (.ref b110), .val (.ref b121), .val (.int (0 : Int32)), .val (.int (0 : Int32)), .unset, .unset, .unset, .unset] [(.ref b130), (.ref b130)]))
          obtain ⟨_, _, ⟨T132, L132, k132, n132⟩, -, X132, ⟨Lc132, hQ132, l132, y132, z132⟩, st132⟩ := X130.specialBack hx (y := (⟨"com/example/tenon/tenon/registry/Validity", "<init>", "()V"⟩ : MethodName)) rfl hown114 (mvT hZ114 (hw33 hw)) (mvT hZ114 (hw34 hw)) (mvT hZ114 (hw35 hw)) (by decide) (backOf (W := 1) (rm_vinit l Z a0 hw [] b130 h130 n0 (Nat.le_trans Z0 (Nat.le_trans (Nat.le_trans (Nat.le_trans (Nat.le_trans (Nat.le_trans (Nat.le_trans (Nat.le_trans (Nat.le_trans (Nat.le_trans (Nat.le_trans E1.1 (Nat.le_of_eq W4.size.symm)) (Nat.le_of_eq W7.size.symm)) E9.1) (Nat.le_of_eq W12.size.symm)) E110.1) E112.1) K114.1) E121.1) K123.1) E130.1)) ) hZ114 (hw35 hw) (hw32 hw) (by decide) (by decide)) (g := (mkF m 129 #[.val (.int p0), .val (.int p1), .val (.int p2), .val (.ref b1), .val (.ref b9), .val (.ref b110), .val (.ref b121), .val (.int (0 : Int32)), .val (.int (0 : Int32)), .unset, .unset, .unset, .unset] [(.ref b130), (.ref b130)])) rfl (by rw [hml]; rfl) (Steps.refl _) (a := b130) (argsL := []) (rest := [(.ref b130)]) (lenOf pd_2 rfl) rfl (by show 2 * 0 + _ ≤ _; exact Nat.le_of_eq rfl) (hb hby at_129) (fun _ _ => ⟨rfl, e130, (by decide : 11 + 0 ≤ _), (by decide : 21 + 0 ≤ _)⟩)
          dsimp only [Pt.U, Pt.locs, Pt.cells, Pt.slots] at X132 l132 y132 z132 st132 hQ132
          subst l132 y132 z132
          obtain ⟨rfl, N132q, K132⟩ := hQ132
          have N132 := Fr.app N123 N132q
          refine Goes.tr st132 ?_
          show Goes _ _ _ _ (T132.setTop (mkF m 132 #[.val (.int p0), .val (.int p1), .val (.int p2), .val (.ref b1), .val (.ref b9), .val (.ref b110), .val (.ref b121), .val (.int (0 : Int32)), .val (.int (0 : Int32)), .unset, .unset, .unset, .unset] [(.ref b130)]))
          refine Goes.st (fun t k => XS.astore X132.here hx rfl (hb hby at_132) rfl rfl (l' := #[.val (.int p0), .val (.int p1), .val (.int p2), .val (.ref b1), .val (.ref b9), .val (.ref b110), .val (.ref b121), .val (.int (0 : Int32)), .val (.int (0 : Int32)), .val (.ref b130), .unset, .unset, .unset]) rfl k) ?_
          show Goes _ _ _ _ (T132.setTop (mkF m 134 #[.val (.int p0), .val (.int p1), .val (.int p2), .val (.ref b1), .val (.ref b9), .val (.ref b110), .val (.ref b121), .val (.int (0 : Int32)), .val (.int (0 : Int32)), .val (.ref b130), .unset, .unset, .unset] []))
          refine Goes.st (fun t k => XS.aload X132.here hx rfl (hb hby at_134) rfl rfl k) ?_
          show Goes _ _ _ _ (T132.setTop (mkF m 136 #[.val (.int p0), .val (.int p1), .val (.int p2), .val (.ref b1), .val (.ref b9), .val (.ref b110), .val (.ref b121), .val (.int (0 : Int32)), .val (.int (0 : Int32)), .val (.ref b130), .unset, .unset, .unset] [(.ref b130)]))
          obtain ⟨cq133, kq133, q133a, q133b, q133c⟩ := isOf hZ114 K132 A130
          obtain ⟨_, _, ⟨T133, L133, k133, n133⟩, -, X133, ⟨Lc133, hQ133, l133, y133, z133⟩, st133⟩ := X132.virtualBack hx (y := (⟨"com/example/tenon/tenon/registry/Validity", "isValid", "()Z"⟩ : MethodName)) (z := (⟨"com/example/tenon/tenon/registry/Validity", "isValid", "()Z"⟩ : MethodName)) hown114 (mvT hZ114 (hw37 hw)) (mvT hZ114 (hw38 hw)) (notFace_of_selects (args := #[]) (mvT hZ114 (hw40 hw))) (mvT hZ114 (hw40 hw)) (mvT hZ114 (hw39 hw)) (by decide) (backOf (W := 0) (rm_ivN l Z a0 hw [] b130 h130 n0 (Nat.le_trans Z0 (Nat.le_trans (Nat.le_trans (Nat.le_trans (Nat.le_trans (Nat.le_trans (Nat.le_trans (Nat.le_trans (Nat.le_trans (Nat.le_trans (Nat.le_trans E1.1 (Nat.le_of_eq W4.size.symm)) (Nat.le_of_eq W7.size.symm)) E9.1) (Nat.le_of_eq W12.size.symm)) E110.1) E112.1) K114.1) E121.1) K123.1) E130.1)) F130_reason) hZ114 (hw41 hw) (hw32 hw) (by decide) (by decide)) q133a q133c (g := (mkF m 136 #[.val (.int p0), .val (.int p1), .val (.int p2), .val (.ref b1), .val (.ref b9), .val (.ref b110), .val (.ref b121), .val (.int (0 : Int32)), .val (.int (0 : Int32)), .val (.ref b130), .unset, .unset, .unset] [(.ref b130)])) rfl (by rw [hml]; rfl) (Steps.refl _) (argsL := []) (rest := []) (lenOf pd_3 rfl) rfl (by show 2 * 0 + _ ≤ _; exact Nat.le_of_eq rfl) (hb hby at_136) (fun _ _ => ⟨rfl, K132, (by decide : 11 + 0 ≤ _), (by decide : 21 + 0 ≤ _)⟩)
          dsimp only [Pt.U, Pt.locs, Pt.cells, Pt.slots] at X133 l133 y133 z133 st133 hQ133
          subst l133 y133 z133
          obtain ⟨rfl, N133q, K133⟩ := hQ133
          have N133 := Fr.app N132 N133q
          refine Goes.tr st133 ?_
          show Goes _ _ _ _ (T133.setTop (mkF m 139 #[.val (.int p0), .val (.int p1), .val (.int p2), .val (.ref b1), .val (.ref b9), .val (.ref b110), .val (.ref b121), .val (.int (0 : Int32)), .val (.int (0 : Int32)), .val (.ref b130), .unset, .unset, .unset] [(.int (1 : Int32))]))
          refine Goes.st (fun t k => XS.istore X133.here hx rfl (hb hby at_139) rfl (l' := #[.val (.int p0), .val (.int p1), .val (.int p2), .val (.ref b1), .val (.ref b9), .val (.ref b110), .val (.ref b121), .val (.int (0 : Int32)), .val (.int (0 : Int32)), .val (.ref b130), .val (.int (1 : Int32)), .unset, .unset]) rfl k) ?_
          show Goes _ _ _ _ (T133.setTop (mkF m 141 #[.val (.int p0), .val (.int p1), .val (.int p2), .val (.ref b1), .val (.ref b9), .val (.ref b110), .val (.ref b121), .val (.int (0 : Int32)), .val (.int (0 : Int32)), .val (.ref b130), .val (.int (1 : Int32)), .unset, .unset] []))
          refine Goes.st (fun t k => XS.iload X133.here hx rfl (hb hby at_141) rfl k) ?_
          show Goes _ _ _ _ (T133.setTop (mkF m 143 #[.val (.int p0), .val (.int p1), .val (.int p2), .val (.ref b1), .val (.ref b9), .val (.ref b110), .val (.ref b121), .val (.int (0 : Int32)), .val (.int (0 : Int32)), .val (.ref b130), .val (.int (1 : Int32)), .unset, .unset] [(.int (0 : Int32))]))
          refine Goes.st (fun t k => XS.ifYes X133.here hx rfl (pc0 := 143) (pc' := 153) rfl (hb hby at_143) rfl ((if0 _ _).trans (teq (by decide : (0 : Int32) = (0 : Int32))).1) (by decide) (by decide) k) ?_
          show Goes _ _ _ _ (T133.setTop (mkF m 153 #[.val (.int p0), .val (.int p1), .val (.int p2), .val (.ref b1), .val (.ref b9), .val (.ref b110), .val (.ref b121), .val (.int (0 : Int32)), .val (.int (0 : Int32)), .val (.ref b130), .val (.int (1 : Int32)), .unset, .unset] []))
          refine Goes.st (fun t k => XS.aload X133.here hx rfl (hb hby at_153) rfl rfl k) ?_
          show Goes _ _ _ _ (T133.setTop (mkF m 155 #[.val (.int p0), .val (.int p1), .val (.int p2), .val (.ref b1), .val (.ref b9), .val (.ref b110), .val (.ref b121), .val (.int (0 : Int32)), .val (.int (0 : Int32)), .val (.ref b130), .val (.int (1 : Int32)), .unset, .unset] [(.ref b130)]))
          obtain ⟨cq134, kq134, q134a, q134b, q134c⟩ := isOf hZ114 K133 A130
          obtain ⟨_, _, ⟨T134, L134, k134, n134⟩, -, X134, ⟨Lc134, hQ134, l134, y134, z134⟩, st134⟩ := X133.virtualBack hx (y := (⟨"com/example/tenon/tenon/registry/Validity", "isValid", "()Z"⟩ : MethodName)) (z := (⟨"com/example/tenon/tenon/registry/Validity", "isValid", "()Z"⟩ : MethodName)) hown114 (mvT hZ114 (hw37 hw)) (mvT hZ114 (hw38 hw)) (notFace_of_selects (args := #[]) (mvT hZ114 (hw40 hw))) (mvT hZ114 (hw40 hw)) (mvT hZ114 (hw39 hw)) (by decide) (backOf (W := 0) (rm_ivN l Z a0 hw [] b130 h130 n0 (Nat.le_trans Z0 (Nat.le_trans (Nat.le_trans (Nat.le_trans (Nat.le_trans (Nat.le_trans (Nat.le_trans (Nat.le_trans (Nat.le_trans (Nat.le_trans (Nat.le_trans E1.1 (Nat.le_of_eq W4.size.symm)) (Nat.le_of_eq W7.size.symm)) E9.1) (Nat.le_of_eq W12.size.symm)) E110.1) E112.1) K114.1) E121.1) K123.1) E130.1)) F130_reason) hZ114 (hw41 hw) (hw32 hw) (by decide) (by decide)) q134a q134c (g := (mkF m 155 #[.val (.int p0), .val (.int p1), .val (.int p2), .val (.ref b1), .val (.ref b9), .val (.ref b110), .val (.ref b121), .val (.int (0 : Int32)), .val (.int (0 : Int32)), .val (.ref b130), .val (.int (1 : Int32)), .unset, .unset] [(.ref b130)])) rfl (by rw [hml]; rfl) (Steps.refl _) (argsL := []) (rest := []) (lenOf pd_3 rfl) rfl (by show 2 * 0 + _ ≤ _; exact Nat.le_of_eq rfl) (hb hby at_155) (fun _ _ => ⟨rfl, K133, (by decide : 11 + 0 ≤ _), (by decide : 21 + 0 ≤ _)⟩)
          dsimp only [Pt.U, Pt.locs, Pt.cells, Pt.slots] at X134 l134 y134 z134 st134 hQ134
          subst l134 y134 z134
          obtain ⟨rfl, N134q, K134⟩ := hQ134
          have N134 := Fr.app N133 N134q
          refine Goes.tr st134 ?_
          show Goes _ _ _ _ (T134.setTop (mkF m 158 #[.val (.int p0), .val (.int p1), .val (.int p2), .val (.ref b1), .val (.ref b9), .val (.ref b110), .val (.ref b121), .val (.int (0 : Int32)), .val (.int (0 : Int32)), .val (.ref b130), .val (.int (1 : Int32)), .unset, .unset] [(.int (1 : Int32))]))
          refine Goes.st (fun t k => XS.iload X134.here hx rfl (hb hby at_158) rfl k) ?_
          show Goes _ _ _ _ (T134.setTop (mkF m 160 #[.val (.int p0), .val (.int p1), .val (.int p2), .val (.ref b1), .val (.ref b9), .val (.ref b110), .val (.ref b121), .val (.int (0 : Int32)), .val (.int (0 : Int32)), .val (.ref b130), .val (.int (1 : Int32)), .unset, .unset] [(.int (0 : Int32)), (.int (1 : Int32))]))
          refine Goes.st (fun t k => XS.ifNo X134.here hx rfl (hb hby at_160) rfl ((if0 _ _).trans (teq (by decide : (0 : Int32) = (0 : Int32))).2) k) ?_
          show Goes _ _ _ _ (T134.setTop (mkF m 163 #[.val (.int p0), .val (.int p1), .val (.int p2), .val (.ref b1), .val (.ref b9), .val (.ref b110), .val (.ref b121), .val (.int (0 : Int32)), .val (.int (0 : Int32)), .val (.ref b130), .val (.int (1 : Int32)), .unset, .unset] [(.int (1 : Int32))]))
          refine Goes.st (fun t k => XS.iconst X134.here hx rfl (hb hby at_163) k) ?_
          show Goes _ _ _ _ (T134.setTop (mkF m 164 #[.val (.int p0), .val (.int p1), .val (.int p2), .val (.ref b1), .val (.ref b9), .val (.ref b110), .val (.ref b121), .val (.int (0 : Int32)), .val (.int (0 : Int32)), .val (.ref b130), .val (.int (1 : Int32)), .unset, .unset] [(.int (1 : Int32)), (.int (1 : Int32))]))
          refine Goes.st (fun t k => XS.goto X134.here hx rfl (pc0 := 164) (pc' := 168) rfl (hb hby at_164) (by decide) (by decide) k) ?_
          show Goes _ _ _ _ (T134.setTop (mkF m 168 #[.val (.int p0), .val (.int p1), .val (.int p2), .val (.ref b1), .val (.ref b9), .val (.ref b110), .val (.ref b121), .val (.int (0 : Int32)), .val (.int (0 : Int32)), .val (.ref b130), .val (.int (1 : Int32)), .unset, .unset] [(.int (1 : Int32)), (.int (1 : Int32))]))
          refine Goes.st (fun t k => XS.icmpNo X134.here hx rfl (hb hby at_168) rfl (teq (by decide : (1 : Int32) = (1 : Int32))).2 k) ?_
          show Goes _ _ _ _ (T134.setTop (mkF m 171 #[.val (.int p0), .val (.int p1), .val (.int p2), .val (.ref b1), .val (.ref b9), .val (.ref b110), .val (.ref b121), .val (.int (0 : Int32)), .val (.int (0 : Int32)), .val (.ref b130), .val (.int (1 : Int32)), .unset, .unset] []))
          refine Goes.st (fun t k => XS.iconst X134.here hx rfl (hb hby at_171) k) ?_
          show Goes _ _ _ _ (T134.setTop (mkF m 172 #[.val (.int p0), .val (.int p1), .val (.int p2), .val (.ref b1), .val (.ref b9), .val (.ref b110), .val (.ref b121), .val (.int (0 : Int32)), .val (.int (0 : Int32)), .val (.ref b130), .val (.int (1 : Int32)), .unset, .unset] [(.int (1 : Int32))]))
          refine Goes.st (fun t k => XS.goto X134.here hx rfl (pc0 := 172) (pc' := 176) rfl (hb hby at_172) (by decide) (by decide) k) ?_
          show Goes _ _ _ _ (T134.setTop (mkF m 176 #[.val (.int p0), .val (.int p1), .val (.int p2), .val (.ref b1), .val (.ref b9), .val (.ref b110), .val (.ref b121), .val (.int (0 : Int32)), .val (.int (0 : Int32)), .val (.ref b130), .val (.int (1 : Int32)), .unset, .unset] [(.int (1 : Int32))]))
          refine Goes.st (fun t k => XS.istore X134.here hx rfl (hb hby at_176) rfl (l' := #[.val (.int p0), .val (.int p1), .val (.int p2), .val (.ref b1), .val (.ref b9), .val (.ref b110), .val (.ref b121), .val (.int (0 : Int32)), .val (.int (0 : Int32)), .val (.ref b130), .val (.int (1 : Int32)), .val (.int (1 : Int32)), .unset]) rfl k) ?_
          show Goes _ _ _ _ (T134.setTop (mkF m 178 #[.val (.int p0), .val (.int p1), .val (.int p2), .val (.ref b1), .val (.ref b9), .val (.ref b110), .val (.ref b121), .val (.int (0 : Int32)), .val (.int (0 : Int32)), .val (.ref b130), .val (.int (1 : Int32)), .val (.int (1 : Int32)), .unset] []))
          refine Goes.st (fun t k => XS.iload X134.here hx rfl (hb hby at_178) rfl k) ?_
          show Goes _ _ _ _ (T134.setTop (mkF m 180 #[.val (.int p0), .val (.int p1), .val (.int p2), .val (.ref b1), .val (.ref b9), .val (.ref b110), .val (.ref b121), .val (.int (0 : Int32)), .val (.int (0 : Int32)), .val (.ref b130), .val (.int (1 : Int32)), .val (.int (1 : Int32)), .unset] [(.int (0 : Int32))]))
          refine Goes.st (fun t k => XS.ifYes X134.here hx rfl (pc0 := 180) (pc' := 190) rfl (hb hby at_180) rfl ((if0 _ _).trans (teq (by decide : (0 : Int32) = (0 : Int32))).1) (by decide) (by decide) k) ?_
          show Goes _ _ _ _ (T134.setTop (mkF m 190 #[.val (.int p0), .val (.int p1), .val (.int p2), .val (.ref b1), .val (.ref b9), .val (.ref b110), .val (.ref b121), .val (.int (0 : Int32)), .val (.int (0 : Int32)), .val (.ref b130), .val (.int (1 : Int32)), .val (.int (1 : Int32)), .unset] []))
          refine Goes.st (fun t k => XS.aload X134.here hx rfl (hb hby at_190) rfl rfl k) ?_
          show Goes _ _ _ _ (T134.setTop (mkF m 192 #[.val (.int p0), .val (.int p1), .val (.int p2), .val (.ref b1), .val (.ref b9), .val (.ref b110), .val (.ref b121), .val (.int (0 : Int32)), .val (.int (0 : Int32)), .val (.ref b130), .val (.int (1 : Int32)), .val (.int (1 : Int32)), .unset] [(.ref b130)]))
          obtain ⟨cq135, kq135, q135a, q135b, q135c⟩ := isOf hZ114 K134 A130
          obtain ⟨_, _, ⟨T135, L135, k135, n135⟩, -, X135, ⟨Lc135, hQ135, l135, y135, z135⟩, st135⟩ := X134.virtualBack hx (y := (⟨"com/example/tenon/tenon/registry/Validity", "isValid", "()Z"⟩ : MethodName)) (z := (⟨"com/example/tenon/tenon/registry/Validity", "isValid", "()Z"⟩ : MethodName)) hown114 (mvT hZ114 (hw37 hw)) (mvT hZ114 (hw38 hw)) (notFace_of_selects (args := #[]) (mvT hZ114 (hw40 hw))) (mvT hZ114 (hw40 hw)) (mvT hZ114 (hw39 hw)) (by decide) (backOf (W := 0) (rm_ivN l Z a0 hw [] b130 h130 n0 (Nat.le_trans Z0 (Nat.le_trans (Nat.le_trans (Nat.le_trans (Nat.le_trans (Nat.le_trans (Nat.le_trans (Nat.le_trans (Nat.le_trans (Nat.le_trans (Nat.le_trans E1.1 (Nat.le_of_eq W4.size.symm)) (Nat.le_of_eq W7.size.symm)) E9.1) (Nat.le_of_eq W12.size.symm)) E110.1) E112.1) K114.1) E121.1) K123.1) E130.1)) F130_reason) hZ114 (hw41 hw) (hw32 hw) (by decide) (by decide)) q135a q135c (g := (mkF m 192 #[.val (.int p0), .val (.int p1), .val (.int p2), .val (.ref b1), .val (.ref b9), .val (.ref b110), .val (.ref b121), .val (.int (0 : Int32)), .val (.int (0 : Int32)), .val (.ref b130), .val (.int (1 : Int32)), .val (.int (1 : Int32)), .unset] [(.ref b130)])) rfl (by rw [hml]; rfl) (Steps.refl _) (argsL := []) (rest := []) (lenOf pd_3 rfl) rfl (by show 2 * 0 + _ ≤ _; exact Nat.le_of_eq rfl) (hb hby at_192) (fun _ _ => ⟨rfl, K134, (by decide : 11 + 0 ≤ _), (by decide : 21 + 0 ≤ _)⟩)
          dsimp only [Pt.U, Pt.locs, Pt.cells, Pt.slots] at X135 l135 y135 z135 st135 hQ135
          subst l135 y135 z135
          obtain ⟨rfl, N135q, K135⟩ := hQ135
          have N135 := Fr.app N134 N135q
          refine Goes.tr st135 ?_
          show Goes _ _ _ _ (T135.setTop (mkF m 195 #[.val (.int p0), .val (.int p1), .val (.int p2), .val (.ref b1), .val (.ref b9), .val (.ref b110), .val (.ref b121), .val (.int (0 : Int32)), .val (.int (0 : Int32)), .val (.ref b130), .val (.int (1 : Int32)), .val (.int (1 : Int32)), .unset] [(.int (1 : Int32))]))
          refine Goes.st (fun t k => XS.iload X135.here hx rfl (hb hby at_195) rfl k) ?_
          show Goes _ _ _ _ (T135.setTop (mkF m 197 #[.val (.int p0), .val (.int p1), .val (.int p2), .val (.ref b1), .val (.ref b9), .val (.ref b110), .val (.ref b121), .val (.int (0 : Int32)), .val (.int (0 : Int32)), .val (.ref b130), .val (.int (1 : Int32)), .val (.int (1 : Int32)), .unset] [(.int (0 : Int32)), (.int (1 : Int32))]))
          refine Goes.st (fun t k => XS.ifNo X135.here hx rfl (hb hby at_197) rfl ((if0 _ _).trans (teq (by decide : (0 : Int32) = (0 : Int32))).2) k) ?_
          show Goes _ _ _ _ (T135.setTop (mkF m 200 #[.val (.int p0), .val (.int p1), .val (.int p2), .val (.ref b1), .val (.ref b9), .val (.ref b110), .val (.ref b121), .val (.int (0 : Int32)), .val (.int (0 : Int32)), .val (.ref b130), .val (.int (1 : Int32)), .val (.int (1 : Int32)), .unset] [(.int (1 : Int32))]))
          refine Goes.st (fun t k => XS.iload X135.here hx rfl (hb hby at_200) rfl k) ?_
          show Goes _ _ _ _ (T135.setTop (mkF m 202 #[.val (.int p0), .val (.int p1), .val (.int p2), .val (.ref b1), .val (.ref b9), .val (.ref b110), .val (.ref b121), .val (.int (0 : Int32)), .val (.int (0 : Int32)), .val (.ref b130), .val (.int (1 : Int32)), .val (.int (1 : Int32)), .unset] [(.int (0 : Int32)), (.int (1 : Int32))]))
          refine Goes.st (fun t k => XS.ifNo X135.here hx rfl (hb hby at_202) rfl ((if0 _ _).trans (teq (by decide : (0 : Int32) = (0 : Int32))).2) k) ?_
          show Goes _ _ _ _ (T135.setTop (mkF m 205 #[.val (.int p0), .val (.int p1), .val (.int p2), .val (.ref b1), .val (.ref b9), .val (.ref b110), .val (.ref b121), .val (.int (0 : Int32)), .val (.int (0 : Int32)), .val (.ref b130), .val (.int (1 : Int32)), .val (.int (1 : Int32)), .unset] [(.int (1 : Int32))]))
          refine Goes.st (fun t k => XS.iconst X135.here hx rfl (hb hby at_205) k) ?_
          show Goes _ _ _ _ (T135.setTop (mkF m 206 #[.val (.int p0), .val (.int p1), .val (.int p2), .val (.ref b1), .val (.ref b9), .val (.ref b110), .val (.ref b121), .val (.int (0 : Int32)), .val (.int (0 : Int32)), .val (.ref b130), .val (.int (1 : Int32)), .val (.int (1 : Int32)), .unset] [(.int (1 : Int32)), (.int (1 : Int32))]))
          refine Goes.st (fun t k => XS.goto X135.here hx rfl (pc0 := 206) (pc' := 210) rfl (hb hby at_206) (by decide) (by decide) k) ?_
          show Goes _ _ _ _ (T135.setTop (mkF m 210 #[.val (.int p0), .val (.int p1), .val (.int p2), .val (.ref b1), .val (.ref b9), .val (.ref b110), .val (.ref b121), .val (.int (0 : Int32)), .val (.int (0 : Int32)), .val (.ref b130), .val (.int (1 : Int32)), .val (.int (1 : Int32)), .unset] [(.int (1 : Int32)), (.int (1 : Int32))]))
          refine Goes.st (fun t k => XS.icmpNo X135.here hx rfl (hb hby at_210) rfl (teq (by decide : (1 : Int32) = (1 : Int32))).2 k) ?_
          show Goes _ _ _ _ (T135.setTop (mkF m 213 #[.val (.int p0), .val (.int p1), .val (.int p2), .val (.ref b1), .val (.ref b9), .val (.ref b110), .val (.ref b121), .val (.int (0 : Int32)), .val (.int (0 : Int32)), .val (.ref b130), .val (.int (1 : Int32)), .val (.int (1 : Int32)), .unset] []))
          refine Goes.st (fun t k => XS.iconst X135.here hx rfl (hb hby at_213) k) ?_
          show Goes _ _ _ _ (T135.setTop (mkF m 214 #[.val (.int p0), .val (.int p1), .val (.int p2), .val (.ref b1), .val (.ref b9), .val (.ref b110), .val (.ref b121), .val (.int (0 : Int32)), .val (.int (0 : Int32)), .val (.ref b130), .val (.int (1 : Int32)), .val (.int (1 : Int32)), .unset] [(.int (1 : Int32))]))
          refine Goes.st (fun t k => XS.goto X135.here hx rfl (pc0 := 214) (pc' := 218) rfl (hb hby at_214) (by decide) (by decide) k) ?_
          show Goes _ _ _ _ (T135.setTop (mkF m 218 #[.val (.int p0), .val (.int p1), .val (.int p2), .val (.ref b1), .val (.ref b9), .val (.ref b110), .val (.ref b121), .val (.int (0 : Int32)), .val (.int (0 : Int32)), .val (.ref b130), .val (.int (1 : Int32)), .val (.int (1 : Int32)), .unset] [(.int (1 : Int32))]))
          refine Goes.st (fun t k => XS.istore X135.here hx rfl (hb hby at_218) rfl (l' := #[.val (.int p0), .val (.int p1), .val (.int p2), .val (.ref b1), .val (.ref b9), .val (.ref b110), .val (.ref b121), .val (.int (0 : Int32)), .val (.int (0 : Int32)), .val (.ref b130), .val (.int (1 : Int32)), .val (.int (1 : Int32)), .val (.int (1 : Int32))]) rfl k) ?_
          show Goes _ _ _ _ (T135.setTop (mkF m 220 #[.val (.int p0), .val (.int p1), .val (.int p2), .val (.ref b1), .val (.ref b9), .val (.ref b110), .val (.ref b121), .val (.int (0 : Int32)), .val (.int (0 : Int32)), .val (.ref b130), .val (.int (1 : Int32)), .val (.int (1 : Int32)), .val (.int (1 : Int32))] []))
          refine Goes.st (fun t k => XS.iload X135.here hx rfl (hb hby at_220) rfl k) ?_
          show Goes _ _ _ _ (T135.setTop (mkF m 222 #[.val (.int p0), .val (.int p1), .val (.int p2), .val (.ref b1), .val (.ref b9), .val (.ref b110), .val (.ref b121), .val (.int (0 : Int32)), .val (.int (0 : Int32)), .val (.ref b130), .val (.int (1 : Int32)), .val (.int (1 : Int32)), .val (.int (1 : Int32))] [(.int (1 : Int32))]))
          refine Goes.st (fun t k => XS.ifNo X135.here hx rfl (hb hby at_222) rfl ((if0 _ _).trans (feq (by decide : ¬ ((1 : Int32) = (0 : Int32)))).1) k) ?_
          show Goes _ _ _ _ (T135.setTop (mkF m 225 #[.val (.int p0), .val (.int p1), .val (.int p2), .val (.ref b1), .val (.ref b9), .val (.ref b110), .val (.ref b121), .val (.int (0 : Int32)), .val (.int (0 : Int32)), .val (.ref b130), .val (.int (1 : Int32)), .val (.int (1 : Int32)), .val (.int (1 : Int32))] []))
          refine Goes.st (fun t k => XS.iload X135.here hx rfl (hb hby at_225) rfl k) ?_
          show Goes _ _ _ _ (T135.setTop (mkF m 227 #[.val (.int p0), .val (.int p1), .val (.int p2), .val (.ref b1), .val (.ref b9), .val (.ref b110), .val (.ref b121), .val (.int (0 : Int32)), .val (.int (0 : Int32)), .val (.ref b130), .val (.int (1 : Int32)), .val (.int (1 : Int32)), .val (.int (1 : Int32))] [(.int (1 : Int32))]))
          refine Goes.st (fun t k => XS.ifNo X135.here hx rfl (hb hby at_227) rfl ((if0 _ _).trans (feq (by decide : ¬ ((1 : Int32) = (0 : Int32)))).1) k) ?_
          show Goes _ _ _ _ (T135.setTop (mkF m 230 #[.val (.int p0), .val (.int p1), .val (.int p2), .val (.ref b1), .val (.ref b9), .val (.ref b110), .val (.ref b121), .val (.int (0 : Int32)), .val (.int (0 : Int32)), .val (.ref b130), .val (.int (1 : Int32)), .val (.int (1 : Int32)), .val (.int (1 : Int32))] []))
          refine Goes.st (fun t k => XS.iload X135.here hx rfl (hb hby at_230) rfl k) ?_
          show Goes _ _ _ _ (T135.setTop (mkF m 232 #[.val (.int p0), .val (.int p1), .val (.int p2), .val (.ref b1), .val (.ref b9), .val (.ref b110), .val (.ref b121), .val (.int (0 : Int32)), .val (.int (0 : Int32)), .val (.ref b130), .val (.int (1 : Int32)), .val (.int (1 : Int32)), .val (.int (1 : Int32))] [(.int (1 : Int32))]))
          refine Goes.st (fun t k => XS.ifNo X135.here hx rfl (hb hby at_232) rfl ((if0 _ _).trans (feq (by decide : ¬ ((1 : Int32) = (0 : Int32)))).1) k) ?_
          show Goes _ _ _ _ (T135.setTop (mkF m 235 #[.val (.int p0), .val (.int p1), .val (.int p2), .val (.ref b1), .val (.ref b9), .val (.ref b110), .val (.ref b121), .val (.int (0 : Int32)), .val (.int (0 : Int32)), .val (.ref b130), .val (.int (1 : Int32)), .val (.int (1 : Int32)), .val (.int (1 : Int32))] []))
          refine Goes.st (fun t k => XS.iconst X135.here hx rfl (hb hby at_235) k) ?_
          show Goes _ _ _ _ (T135.setTop (mkF m 236 #[.val (.int p0), .val (.int p1), .val (.int p2), .val (.ref b1), .val (.ref b9), .val (.ref b110), .val (.ref b121), .val (.int (0 : Int32)), .val (.int (0 : Int32)), .val (.ref b130), .val (.int (1 : Int32)), .val (.int (1 : Int32)), .val (.int (1 : Int32))] [(.int (1 : Int32))]))
          refine Goes.st (fun t k => XS.goto X135.here hx rfl (pc0 := 236) (pc' := 240) rfl (hb hby at_236) (by decide) (by decide) k) ?_
          show Goes _ _ _ _ (T135.setTop (mkF m 240 #[.val (.int p0), .val (.int p1), .val (.int p2), .val (.ref b1), .val (.ref b9), .val (.ref b110), .val (.ref b121), .val (.int (0 : Int32)), .val (.int (0 : Int32)), .val (.ref b130), .val (.int (1 : Int32)), .val (.int (1 : Int32)), .val (.int (1 : Int32))] [(.int (1 : Int32))]))
          obtain ⟨fs, hr, hrun, hended, hRW⟩ := X135.leaveW hS114 (by rw [K135]; exact (Nat.le_trans (Nat.le_trans (Nat.le_trans (Nat.le_refl _) E121.1) K123.1) E130.1)) (v := some (.int (1 : Int32))) (fun h => by rw [Bd.returns] at h; cases h)
          subst hQQ
          have hCR : CHr Z EL s.vm s.heap T135.vm T135.heap := by rw [hh, K135]; exact CR131.trans (CHv.at X135 hZ114 (own_EW hw) CR131.1)
          refine ⟨_, _, retN X135 hx (t := .boolean) Bd.returns (by simp) (hb hby at_240) hr, hrun, hended, _, _, rfl, ?_, hCR, own_REmono hRW (by decide) (by decide)⟩
          show Q_law Z p0 p1 p2 G1 h0 n0 _ T135.heap _
          rw [K135]
          exact ⟨rfl, N135⟩
        case neg =>
          refine Goes.st (fun t k => XS.ifNo X123.here hx rfl (hb hby at_115) rfl ((if0 _ _).trans (feq c129).1) k) ?_
          show Goes _ _ _ _ (T123.setTop (mkF m 118 #[.val (.int p0), .val (.int p1), .val (.int p2), .val (.ref b1), .val (.ref b9), .val (.ref b110), .val (.ref b121), .val (.int (0 : Int32)), .unset, .unset, .unset, .unset, .unset] []))
          refine Goes.st (fun t k => XS.iconst X123.here hx rfl (hb hby at_118) k) ?_
          show Goes _ _ _ _ (T123.setTop (mkF m 119 #[.val (.int p0), .val (.int p1), .val (.int p2), .val (.ref b1), .val (.ref b9), .val (.ref b110), .val (.ref b121), .val (.int (0 : Int32)), .unset, .unset, .unset, .unset, .unset] [(.int (1 : Int32))]))
          refine Goes.st (fun t k => XS.goto X123.here hx rfl (pc0 := 119) (pc' := 123) rfl (hb hby at_119) (by decide) (by decide) k) ?_
          show Goes _ _ _ _ (T123.setTop (mkF m 123 #[.val (.int p0), .val (.int p1), .val (.int p2), .val (.ref b1), .val (.ref b9), .val (.ref b110), .val (.ref b121), .val (.int (0 : Int32)), .unset, .unset, .unset, .unset, .unset] [(.int (1 : Int32))]))
          refine Goes.st (fun t k => XS.istore X123.here hx rfl (hb hby at_123) rfl (l' := #[.val (.int p0), .val (.int p1), .val (.int p2), .val (.ref b1), .val (.ref b9), .val (.ref b110), .val (.ref b121), .val (.int (0 : Int32)), .val (.int (1 : Int32)), .unset, .unset, .unset, .unset]) rfl k) ?_
          show Goes _ _ _ _ (T123.setTop (mkF m 125 #[.val (.int p0), .val (.int p1), .val (.int p2), .val (.ref b1), .val (.ref b9), .val (.ref b110), .val (.ref b121), .val (.int (0 : Int32)), .val (.int (1 : Int32)), .unset, .unset, .unset, .unset] []))
          obtain ⟨T136, h136, X136, e136, E136, A136, D136, -, st136⟩ := newO X123 hx hZ114 hown114 (hw30 hw) (hw31 hw) (hw32 hw) rfl (g := (mkF m 125 #[.val (.int p0), .val (.int p1), .val (.int p2), .val (.ref b1), .val (.ref b9), .val (.ref b110), .val (.ref b121), .val (.int (0 : Int32)), .val (.int (1 : Int32)), .unset, .unset, .unset, .unset] [])) rfl (hb hby at_125) (by decide) (by decide)
          obtain ⟨b136, g136⟩ : ∃ z, z = T123.heap.size := ⟨_, rfl⟩
          rw [← g136] at A136 D136 st136
          have CR137 : CHr Z EL s.vm h0 T114.vm h136 := CR127.trans (CHr.ext E136 CR127.1)
          have sf137_b110 : Safe Z EL T114.vm h136 b110 := Safe.ext E136 CR127.1 sf127_b110
          have F136_reason : Fld Z h136 b136 "com/example/tenon/tenon/registry/Validity" "reason" "Ljava/lang/String;" .null := D136 (Or.inl (hw43 hw)) (ty := (.object "java/lang/String")) (by decide)
          refine Goes.st st136 ?_
          show Goes _ _ _ _ (T136.setTop (mkF m 128 #[.val (.int p0), .val (.int p1), .val (.int p2), .val (.ref b1), .val (.ref b9), .val (.ref b110), .val (.ref b121), .val (.int (0 : Int32)), .val (.int (1 : Int32)), .unset, .unset, .unset, .unset] [(.ref b136)]))
          refine Goes.st (fun t k => XS.dup X136.here hx rfl (hb hby at_128) rfl rfl k) ?_
          show Goes _ _ _ _ (T136.setTop (mkF m 129 #[.val (.int p0), .val (.int p1), .val (.int p2), .val (.ref b1), .val (.ref b9), .val (.ref b110), .val (.ref b121), .val (.int (0 : Int32)), .val (.int (1 : Int32)), .unset, .unset, .unset, .unset] [(.ref b136), (.ref b136)]))
          obtain ⟨_, _, ⟨T138, L138, k138, n138⟩, -, X138, ⟨Lc138, hQ138, l138, y138, z138⟩, st138⟩ := X136.specialBack hx (y := (⟨"com/example/tenon/tenon/registry/Validity", "<init>", "()V"⟩ : MethodName)) rfl hown114 (mvT hZ114 (hw33 hw)) (mvT hZ114 (hw34 hw)) (mvT hZ114 (hw35 hw)) (by decide) (backOf (W := 1) (rm_vinit l Z a0 hw [] b136 h136 n0 (Nat.le_trans Z0 (Nat.le_trans (Nat.le_trans (Nat.le_trans (Nat.le_trans (Nat.le_trans (Nat.le_trans (Nat.le_trans (Nat.le_trans (Nat.le_trans (Nat.le_trans E1.1 (Nat.le_of_eq W4.size.symm)) (Nat.le_of_eq W7.size.symm)) E9.1) (Nat.le_of_eq W12.size.symm)) E110.1) E112.1) K114.1) E121.1) K123.1) E136.1)) ) hZ114 (hw35 hw) (hw32 hw) (by decide) (by decide)) (g := (mkF m 129 #[.val (.int p0), .val (.int p1), .val (.int p2), .val (.ref b1), .val (.ref b9), .val (.ref b110), .val (.ref b121), .val (.int (0 : Int32)), .val (.int (1 : Int32)), .unset, .unset, .unset, .unset] [(.ref b136), (.ref b136)])) rfl (by rw [hml]; rfl) (Steps.refl _) (a := b136) (argsL := []) (rest := [(.ref b136)]) (lenOf pd_2 rfl) rfl (by show 2 * 0 + _ ≤ _; exact Nat.le_of_eq rfl) (hb hby at_129) (fun _ _ => ⟨rfl, e136, (by decide : 11 + 0 ≤ _), (by decide : 21 + 0 ≤ _)⟩)
          dsimp only [Pt.U, Pt.locs, Pt.cells, Pt.slots] at X138 l138 y138 z138 st138 hQ138
          subst l138 y138 z138
          obtain ⟨rfl, N138q, K138⟩ := hQ138
          have N138 := Fr.app N123 N138q
          refine Goes.tr st138 ?_
          show Goes _ _ _ _ (T138.setTop (mkF m 132 #[.val (.int p0), .val (.int p1), .val (.int p2), .val (.ref b1), .val (.ref b9), .val (.ref b110), .val (.ref b121), .val (.int (0 : Int32)), .val (.int (1 : Int32)), .unset, .unset, .unset, .unset] [(.ref b136)]))
          refine Goes.st (fun t k => XS.astore X138.here hx rfl (hb hby at_132) rfl rfl (l' := #[.val (.int p0), .val (.int p1), .val (.int p2), .val (.ref b1), .val (.ref b9), .val (.ref b110), .val (.ref b121), .val (.int (0 : Int32)), .val (.int (1 : Int32)), .val (.ref b136), .unset, .unset, .unset]) rfl k) ?_
          show Goes _ _ _ _ (T138.setTop (mkF m 134 #[.val (.int p0), .val (.int p1), .val (.int p2), .val (.ref b1), .val (.ref b9), .val (.ref b110), .val (.ref b121), .val (.int (0 : Int32)), .val (.int (1 : Int32)), .val (.ref b136), .unset, .unset, .unset] []))
          refine Goes.st (fun t k => XS.aload X138.here hx rfl (hb hby at_134) rfl rfl k) ?_
          show Goes _ _ _ _ (T138.setTop (mkF m 136 #[.val (.int p0), .val (.int p1), .val (.int p2), .val (.ref b1), .val (.ref b9), .val (.ref b110), .val (.ref b121), .val (.int (0 : Int32)), .val (.int (1 : Int32)), .val (.ref b136), .unset, .unset, .unset] [(.ref b136)]))
          obtain ⟨cq139, kq139, q139a, q139b, q139c⟩ := isOf hZ114 K138 A136
          obtain ⟨_, _, ⟨T139, L139, k139, n139⟩, -, X139, ⟨Lc139, hQ139, l139, y139, z139⟩, st139⟩ := X138.virtualBack hx (y := (⟨"com/example/tenon/tenon/registry/Validity", "isValid", "()Z"⟩ : MethodName)) (z := (⟨"com/example/tenon/tenon/registry/Validity", "isValid", "()Z"⟩ : MethodName)) hown114 (mvT hZ114 (hw37 hw)) (mvT hZ114 (hw38 hw)) (notFace_of_selects (args := #[]) (mvT hZ114 (hw40 hw))) (mvT hZ114 (hw40 hw)) (mvT hZ114 (hw39 hw)) (by decide) (backOf (W := 0) (rm_ivN l Z a0 hw [] b136 h136 n0 (Nat.le_trans Z0 (Nat.le_trans (Nat.le_trans (Nat.le_trans (Nat.le_trans (Nat.le_trans (Nat.le_trans (Nat.le_trans (Nat.le_trans (Nat.le_trans (Nat.le_trans E1.1 (Nat.le_of_eq W4.size.symm)) (Nat.le_of_eq W7.size.symm)) E9.1) (Nat.le_of_eq W12.size.symm)) E110.1) E112.1) K114.1) E121.1) K123.1) E136.1)) F136_reason) hZ114 (hw41 hw) (hw32 hw) (by decide) (by decide)) q139a q139c (g := (mkF m 136 #[.val (.int p0), .val (.int p1), .val (.int p2), .val (.ref b1), .val (.ref b9), .val (.ref b110), .val (.ref b121), .val (.int (0 : Int32)), .val (.int (1 : Int32)), .val (.ref b136), .unset, .unset, .unset] [(.ref b136)])) rfl (by rw [hml]; rfl) (Steps.refl _) (argsL := []) (rest := []) (lenOf pd_3 rfl) rfl (by show 2 * 0 + _ ≤ _; exact Nat.le_of_eq rfl) (hb hby at_136) (fun _ _ => ⟨rfl, K138, (by decide : 11 + 0 ≤ _), (by decide : 21 + 0 ≤ _)⟩)
          dsimp only [Pt.U, Pt.locs, Pt.cells, Pt.slots] at X139 l139 y139 z139 st139 hQ139
          subst l139 y139 z139
          obtain ⟨rfl, N139q, K139⟩ := hQ139
          have N139 := Fr.app N138 N139q
          refine Goes.tr st139 ?_
          show Goes _ _ _ _ (T139.setTop (mkF m 139 #[.val (.int p0), .val (.int p1), .val (.int p2), .val (.ref b1), .val (.ref b9), .val (.ref b110), .val (.ref b121), .val (.int (0 : Int32)), .val (.int (1 : Int32)), .val (.ref b136), .unset, .unset, .unset] [(.int (1 : Int32))]))
          refine Goes.st (fun t k => XS.istore X139.here hx rfl (hb hby at_139) rfl (l' := #[.val (.int p0), .val (.int p1), .val (.int p2), .val (.ref b1), .val (.ref b9), .val (.ref b110), .val (.ref b121), .val (.int (0 : Int32)), .val (.int (1 : Int32)), .val (.ref b136), .val (.int (1 : Int32)), .unset, .unset]) rfl k) ?_
          show Goes _ _ _ _ (T139.setTop (mkF m 141 #[.val (.int p0), .val (.int p1), .val (.int p2), .val (.ref b1), .val (.ref b9), .val (.ref b110), .val (.ref b121), .val (.int (0 : Int32)), .val (.int (1 : Int32)), .val (.ref b136), .val (.int (1 : Int32)), .unset, .unset] []))
          refine Goes.st (fun t k => XS.iload X139.here hx rfl (hb hby at_141) rfl k) ?_
          show Goes _ _ _ _ (T139.setTop (mkF m 143 #[.val (.int p0), .val (.int p1), .val (.int p2), .val (.ref b1), .val (.ref b9), .val (.ref b110), .val (.ref b121), .val (.int (0 : Int32)), .val (.int (1 : Int32)), .val (.ref b136), .val (.int (1 : Int32)), .unset, .unset] [(.int (0 : Int32))]))
          refine Goes.st (fun t k => XS.ifYes X139.here hx rfl (pc0 := 143) (pc' := 153) rfl (hb hby at_143) rfl ((if0 _ _).trans (teq (by decide : (0 : Int32) = (0 : Int32))).1) (by decide) (by decide) k) ?_
          show Goes _ _ _ _ (T139.setTop (mkF m 153 #[.val (.int p0), .val (.int p1), .val (.int p2), .val (.ref b1), .val (.ref b9), .val (.ref b110), .val (.ref b121), .val (.int (0 : Int32)), .val (.int (1 : Int32)), .val (.ref b136), .val (.int (1 : Int32)), .unset, .unset] []))
          refine Goes.st (fun t k => XS.aload X139.here hx rfl (hb hby at_153) rfl rfl k) ?_
          show Goes _ _ _ _ (T139.setTop (mkF m 155 #[.val (.int p0), .val (.int p1), .val (.int p2), .val (.ref b1), .val (.ref b9), .val (.ref b110), .val (.ref b121), .val (.int (0 : Int32)), .val (.int (1 : Int32)), .val (.ref b136), .val (.int (1 : Int32)), .unset, .unset] [(.ref b136)]))
          obtain ⟨cq140, kq140, q140a, q140b, q140c⟩ := isOf hZ114 K139 A136
          obtain ⟨_, _, ⟨T140, L140, k140, n140⟩, -, X140, ⟨Lc140, hQ140, l140, y140, z140⟩, st140⟩ := X139.virtualBack hx (y := (⟨"com/example/tenon/tenon/registry/Validity", "isValid", "()Z"⟩ : MethodName)) (z := (⟨"com/example/tenon/tenon/registry/Validity", "isValid", "()Z"⟩ : MethodName)) hown114 (mvT hZ114 (hw37 hw)) (mvT hZ114 (hw38 hw)) (notFace_of_selects (args := #[]) (mvT hZ114 (hw40 hw))) (mvT hZ114 (hw40 hw)) (mvT hZ114 (hw39 hw)) (by decide) (backOf (W := 0) (rm_ivN l Z a0 hw [] b136 h136 n0 (Nat.le_trans Z0 (Nat.le_trans (Nat.le_trans (Nat.le_trans (Nat.le_trans (Nat.le_trans (Nat.le_trans (Nat.le_trans (Nat.le_trans (Nat.le_trans (Nat.le_trans E1.1 (Nat.le_of_eq W4.size.symm)) (Nat.le_of_eq W7.size.symm)) E9.1) (Nat.le_of_eq W12.size.symm)) E110.1) E112.1) K114.1) E121.1) K123.1) E136.1)) F136_reason) hZ114 (hw41 hw) (hw32 hw) (by decide) (by decide)) q140a q140c (g := (mkF m 155 #[.val (.int p0), .val (.int p1), .val (.int p2), .val (.ref b1), .val (.ref b9), .val (.ref b110), .val (.ref b121), .val (.int (0 : Int32)), .val (.int (1 : Int32)), .val (.ref b136), .val (.int (1 : Int32)), .unset, .unset] [(.ref b136)])) rfl (by rw [hml]; rfl) (Steps.refl _) (argsL := []) (rest := []) (lenOf pd_3 rfl) rfl (by show 2 * 0 + _ ≤ _; exact Nat.le_of_eq rfl) (hb hby at_155) (fun _ _ => ⟨rfl, K139, (by decide : 11 + 0 ≤ _), (by decide : 21 + 0 ≤ _)⟩)
          dsimp only [Pt.U, Pt.locs, Pt.cells, Pt.slots] at X140 l140 y140 z140 st140 hQ140
          subst l140 y140 z140
          obtain ⟨rfl, N140q, K140⟩ := hQ140
          have N140 := Fr.app N139 N140q
          refine Goes.tr st140 ?_
          show Goes _ _ _ _ (T140.setTop (mkF m 158 #[.val (.int p0), .val (.int p1), .val (.int p2), .val (.ref b1), .val (.ref b9), .val (.ref b110), .val (.ref b121), .val (.int (0 : Int32)), .val (.int (1 : Int32)), .val (.ref b136), .val (.int (1 : Int32)), .unset, .unset] [(.int (1 : Int32))]))
          refine Goes.st (fun t k => XS.iload X140.here hx rfl (hb hby at_158) rfl k) ?_
          show Goes _ _ _ _ (T140.setTop (mkF m 160 #[.val (.int p0), .val (.int p1), .val (.int p2), .val (.ref b1), .val (.ref b9), .val (.ref b110), .val (.ref b121), .val (.int (0 : Int32)), .val (.int (1 : Int32)), .val (.ref b136), .val (.int (1 : Int32)), .unset, .unset] [(.int (0 : Int32)), (.int (1 : Int32))]))
          refine Goes.st (fun t k => XS.ifNo X140.here hx rfl (hb hby at_160) rfl ((if0 _ _).trans (teq (by decide : (0 : Int32) = (0 : Int32))).2) k) ?_
          show Goes _ _ _ _ (T140.setTop (mkF m 163 #[.val (.int p0), .val (.int p1), .val (.int p2), .val (.ref b1), .val (.ref b9), .val (.ref b110), .val (.ref b121), .val (.int (0 : Int32)), .val (.int (1 : Int32)), .val (.ref b136), .val (.int (1 : Int32)), .unset, .unset] [(.int (1 : Int32))]))
          refine Goes.st (fun t k => XS.iconst X140.here hx rfl (hb hby at_163) k) ?_
          show Goes _ _ _ _ (T140.setTop (mkF m 164 #[.val (.int p0), .val (.int p1), .val (.int p2), .val (.ref b1), .val (.ref b9), .val (.ref b110), .val (.ref b121), .val (.int (0 : Int32)), .val (.int (1 : Int32)), .val (.ref b136), .val (.int (1 : Int32)), .unset, .unset] [(.int (1 : Int32)), (.int (1 : Int32))]))
          refine Goes.st (fun t k => XS.goto X140.here hx rfl (pc0 := 164) (pc' := 168) rfl (hb hby at_164) (by decide) (by decide) k) ?_
          show Goes _ _ _ _ (T140.setTop (mkF m 168 #[.val (.int p0), .val (.int p1), .val (.int p2), .val (.ref b1), .val (.ref b9), .val (.ref b110), .val (.ref b121), .val (.int (0 : Int32)), .val (.int (1 : Int32)), .val (.ref b136), .val (.int (1 : Int32)), .unset, .unset] [(.int (1 : Int32)), (.int (1 : Int32))]))
          refine Goes.st (fun t k => XS.icmpNo X140.here hx rfl (hb hby at_168) rfl (teq (by decide : (1 : Int32) = (1 : Int32))).2 k) ?_
          show Goes _ _ _ _ (T140.setTop (mkF m 171 #[.val (.int p0), .val (.int p1), .val (.int p2), .val (.ref b1), .val (.ref b9), .val (.ref b110), .val (.ref b121), .val (.int (0 : Int32)), .val (.int (1 : Int32)), .val (.ref b136), .val (.int (1 : Int32)), .unset, .unset] []))
          refine Goes.st (fun t k => XS.iconst X140.here hx rfl (hb hby at_171) k) ?_
          show Goes _ _ _ _ (T140.setTop (mkF m 172 #[.val (.int p0), .val (.int p1), .val (.int p2), .val (.ref b1), .val (.ref b9), .val (.ref b110), .val (.ref b121), .val (.int (0 : Int32)), .val (.int (1 : Int32)), .val (.ref b136), .val (.int (1 : Int32)), .unset, .unset] [(.int (1 : Int32))]))
          refine Goes.st (fun t k => XS.goto X140.here hx rfl (pc0 := 172) (pc' := 176) rfl (hb hby at_172) (by decide) (by decide) k) ?_
          show Goes _ _ _ _ (T140.setTop (mkF m 176 #[.val (.int p0), .val (.int p1), .val (.int p2), .val (.ref b1), .val (.ref b9), .val (.ref b110), .val (.ref b121), .val (.int (0 : Int32)), .val (.int (1 : Int32)), .val (.ref b136), .val (.int (1 : Int32)), .unset, .unset] [(.int (1 : Int32))]))
          refine Goes.st (fun t k => XS.istore X140.here hx rfl (hb hby at_176) rfl (l' := #[.val (.int p0), .val (.int p1), .val (.int p2), .val (.ref b1), .val (.ref b9), .val (.ref b110), .val (.ref b121), .val (.int (0 : Int32)), .val (.int (1 : Int32)), .val (.ref b136), .val (.int (1 : Int32)), .val (.int (1 : Int32)), .unset]) rfl k) ?_
          show Goes _ _ _ _ (T140.setTop (mkF m 178 #[.val (.int p0), .val (.int p1), .val (.int p2), .val (.ref b1), .val (.ref b9), .val (.ref b110), .val (.ref b121), .val (.int (0 : Int32)), .val (.int (1 : Int32)), .val (.ref b136), .val (.int (1 : Int32)), .val (.int (1 : Int32)), .unset] []))
          refine Goes.st (fun t k => XS.iload X140.here hx rfl (hb hby at_178) rfl k) ?_
          show Goes _ _ _ _ (T140.setTop (mkF m 180 #[.val (.int p0), .val (.int p1), .val (.int p2), .val (.ref b1), .val (.ref b9), .val (.ref b110), .val (.ref b121), .val (.int (0 : Int32)), .val (.int (1 : Int32)), .val (.ref b136), .val (.int (1 : Int32)), .val (.int (1 : Int32)), .unset] [(.int (1 : Int32))]))
          refine Goes.st (fun t k => XS.ifNo X140.here hx rfl (hb hby at_180) rfl ((if0 _ _).trans (feq (by decide : ¬ ((1 : Int32) = (0 : Int32)))).1) k) ?_
          show Goes _ _ _ _ (T140.setTop (mkF m 183 #[.val (.int p0), .val (.int p1), .val (.int p2), .val (.ref b1), .val (.ref b9), .val (.ref b110), .val (.ref b121), .val (.int (0 : Int32)), .val (.int (1 : Int32)), .val (.ref b136), .val (.int (1 : Int32)), .val (.int (1 : Int32)), .unset] []))
          refine Goes.st (fun t k => XS.aload X140.here hx rfl (hb hby at_183) rfl rfl k) ?_
          show Goes _ _ _ _ (T140.setTop (mkF m 185 #[.val (.int p0), .val (.int p1), .val (.int p2), .val (.ref b1), .val (.ref b9), .val (.ref b110), .val (.ref b121), .val (.int (0 : Int32)), .val (.int (1 : Int32)), .val (.ref b136), .val (.int (1 : Int32)), .val (.int (1 : Int32)), .unset] [(.ref b136)]))
          refine Goes.st (fun t k => XS.aload X140.here hx rfl (hb hby at_185) rfl rfl k) ?_
          show Goes _ _ _ _ (T140.setTop (mkF m 187 #[.val (.int p0), .val (.int p1), .val (.int p2), .val (.ref b1), .val (.ref b9), .val (.ref b110), .val (.ref b121), .val (.int (0 : Int32)), .val (.int (1 : Int32)), .val (.ref b136), .val (.int (1 : Int32)), .val (.int (1 : Int32)), .unset] [(.ref b121), (.ref b136)]))
          obtain ⟨cq141, kq141, q141a, q141b, q141c⟩ := isOf hZ114 K140 A136
          obtain ⟨_, _, ⟨T141, L141, k141, n141⟩, -, X141, ⟨Lc141, hQ141, l141, y141, z141⟩, st141⟩ := X140.virtualBack hx (y := (⟨"com/example/tenon/tenon/registry/Validity", "invalidate", "(Ljava/lang/String;)V"⟩ : MethodName)) (z := (⟨"com/example/tenon/tenon/registry/Validity", "invalidate", "(Ljava/lang/String;)V"⟩ : MethodName)) hown114 (mvT hZ114 (hw44 hw)) (mvT hZ114 (hw45 hw)) (notFace_of_selects (args := #[]) (mvT hZ114 (hw47 hw))) (mvT hZ114 (hw47 hw)) (mvT hZ114 (hw46 hw)) (by decide) (backOf (W := 0) (rm_inv l Z a0 hw [] b136 b121 (Value.null) h136 n0 (Nat.le_trans Z0 (Nat.le_trans (Nat.le_trans (Nat.le_trans (Nat.le_trans (Nat.le_trans (Nat.le_trans (Nat.le_trans (Nat.le_trans (Nat.le_trans (Nat.le_trans E1.1 (Nat.le_of_eq W4.size.symm)) (Nat.le_of_eq W7.size.symm)) E9.1) (Nat.le_of_eq W12.size.symm)) E110.1) E112.1) K114.1) E121.1) K123.1) E136.1)) A136 F136_reason (Nat.le_trans Z0 (Nat.le_trans (Nat.le_trans (Nat.le_trans (Nat.le_trans (Nat.le_trans (Nat.le_trans (Nat.le_trans (Nat.le_trans (Nat.le_trans (Nat.le_trans E1.1 (Nat.le_of_eq W4.size.symm)) (Nat.le_of_eq W7.size.symm)) E9.1) (Nat.le_of_eq W12.size.symm)) E110.1) E112.1) K114.1) E121.1) K123.1) (Nat.le_of_eq g136.symm)))) hZ114 (hw48 hw) (hw32 hw) (by decide) (by decide)) q141a q141c (g := (mkF m 187 #[.val (.int p0), .val (.int p1), .val (.int p2), .val (.ref b1), .val (.ref b9), .val (.ref b110), .val (.ref b121), .val (.int (0 : Int32)), .val (.int (1 : Int32)), .val (.ref b136), .val (.int (1 : Int32)), .val (.int (1 : Int32)), .unset] [(.ref b121), (.ref b136)])) rfl (by rw [hml]; rfl) (Steps.refl _) (argsL := [(.ref b121)]) (rest := []) (lenOf pd_4 rfl) rfl (by show 2 * 0 + _ ≤ _; exact Nat.le_of_eq rfl) (hb hby at_187) (fun _ _ => ⟨rfl, K140, (by decide : 11 + 0 ≤ _), (by decide : 21 + 0 ≤ _)⟩)
          dsimp only [Pt.U, Pt.locs, Pt.cells, Pt.slots] at X141 l141 y141 z141 st141 hQ141
          subst l141 y141 z141
          obtain ⟨rfl, N141q, K141, F141_0, F141_1⟩ := hQ141
          have N141 := Fr.app N140 N141q
          have hs142 : ∀ x ∈ ([b136] : List Addr), Safe Z EL T114.vm h136 x := (allS (Safe.exa hZ114.alike A136 (by decide) (by decide)) all0)
          have CR142 : CHr Z EL s.vm h0 T114.vm T141.heap := CR137.trans (CHr.keep K141 hs142 CR137.1)
          have sf142_b110 : Safe Z EL T114.vm T141.heap b110 := Safe.keep K141 hs142 CR137.1 sf137_b110
          refine Goes.tr st141 ?_
          show Goes _ _ _ _ (T141.setTop (mkF m 190 #[.val (.int p0), .val (.int p1), .val (.int p2), .val (.ref b1), .val (.ref b9), .val (.ref b110), .val (.ref b121), .val (.int (0 : Int32)), .val (.int (1 : Int32)), .val (.ref b136), .val (.int (1 : Int32)), .val (.int (1 : Int32)), .unset] []))
          refine Goes.st (fun t k => XS.aload X141.here hx rfl (hb hby at_190) rfl rfl k) ?_
          show Goes _ _ _ _ (T141.setTop (mkF m 192 #[.val (.int p0), .val (.int p1), .val (.int p2), .val (.ref b1), .val (.ref b9), .val (.ref b110), .val (.ref b121), .val (.int (0 : Int32)), .val (.int (1 : Int32)), .val (.ref b136), .val (.int (1 : Int32)), .val (.int (1 : Int32)), .unset] [(.ref b136)]))
          obtain ⟨cq143, kq143, q143a, q143b, q143c⟩ := isOf hZ114 rfl F141_0
          obtain ⟨_, _, ⟨T143, L143, k143, n143⟩, -, X143, ⟨Lc143, hQ143, l143, y143, z143⟩, st143⟩ := X141.virtualBack hx (y := (⟨"com/example/tenon/tenon/registry/Validity", "isValid", "()Z"⟩ : MethodName)) (z := (⟨"com/example/tenon/tenon/registry/Validity", "isValid", "()Z"⟩ : MethodName)) hown114 (mvT hZ114 (hw37 hw)) (mvT hZ114 (hw38 hw)) (notFace_of_selects (args := #[]) (mvT hZ114 (hw40 hw))) (mvT hZ114 (hw40 hw)) (mvT hZ114 (hw39 hw)) (by decide) (backOf (W := 0) (rm_ivR l Z a0 hw [] b136 b121 T141.heap n0 (Nat.le_trans Z0 (Nat.le_trans (Nat.le_trans (Nat.le_trans (Nat.le_trans (Nat.le_trans (Nat.le_trans (Nat.le_trans (Nat.le_trans (Nat.le_trans (Nat.le_trans (Nat.le_trans E1.1 (Nat.le_of_eq W4.size.symm)) (Nat.le_of_eq W7.size.symm)) E9.1) (Nat.le_of_eq W12.size.symm)) E110.1) E112.1) K114.1) E121.1) K123.1) E136.1) K141.1)) F141_1) hZ114 (hw41 hw) (hw32 hw) (by decide) (by decide)) q143a q143c (g := (mkF m 192 #[.val (.int p0), .val (.int p1), .val (.int p2), .val (.ref b1), .val (.ref b9), .val (.ref b110), .val (.ref b121), .val (.int (0 : Int32)), .val (.int (1 : Int32)), .val (.ref b136), .val (.int (1 : Int32)), .val (.int (1 : Int32)), .unset] [(.ref b136)])) rfl (by rw [hml]; rfl) (Steps.refl _) (argsL := []) (rest := []) (lenOf pd_3 rfl) rfl (by show 2 * 0 + _ ≤ _; exact Nat.le_of_eq rfl) (hb hby at_192) (fun _ _ => ⟨rfl, rfl, (by decide : 11 + 0 ≤ _), (by decide : 21 + 0 ≤ _)⟩)
          dsimp only [Pt.U, Pt.locs, Pt.cells, Pt.slots] at X143 l143 y143 z143 st143 hQ143
          subst l143 y143 z143
          obtain ⟨rfl, N143q, K143⟩ := hQ143
          have N143 := Fr.app N141 N143q
          refine Goes.tr st143 ?_
          show Goes _ _ _ _ (T143.setTop (mkF m 195 #[.val (.int p0), .val (.int p1), .val (.int p2), .val (.ref b1), .val (.ref b9), .val (.ref b110), .val (.ref b121), .val (.int (0 : Int32)), .val (.int (1 : Int32)), .val (.ref b136), .val (.int (1 : Int32)), .val (.int (1 : Int32)), .unset] [(.int (0 : Int32))]))
          refine Goes.st (fun t k => XS.iload X143.here hx rfl (hb hby at_195) rfl k) ?_
          show Goes _ _ _ _ (T143.setTop (mkF m 197 #[.val (.int p0), .val (.int p1), .val (.int p2), .val (.ref b1), .val (.ref b9), .val (.ref b110), .val (.ref b121), .val (.int (0 : Int32)), .val (.int (1 : Int32)), .val (.ref b136), .val (.int (1 : Int32)), .val (.int (1 : Int32)), .unset] [(.int (0 : Int32)), (.int (0 : Int32))]))
          refine Goes.st (fun t k => XS.ifNo X143.here hx rfl (hb hby at_197) rfl ((if0 _ _).trans (teq (by decide : (0 : Int32) = (0 : Int32))).2) k) ?_
          show Goes _ _ _ _ (T143.setTop (mkF m 200 #[.val (.int p0), .val (.int p1), .val (.int p2), .val (.ref b1), .val (.ref b9), .val (.ref b110), .val (.ref b121), .val (.int (0 : Int32)), .val (.int (1 : Int32)), .val (.ref b136), .val (.int (1 : Int32)), .val (.int (1 : Int32)), .unset] [(.int (0 : Int32))]))
          refine Goes.st (fun t k => XS.iload X143.here hx rfl (hb hby at_200) rfl k) ?_
          show Goes _ _ _ _ (T143.setTop (mkF m 202 #[.val (.int p0), .val (.int p1), .val (.int p2), .val (.ref b1), .val (.ref b9), .val (.ref b110), .val (.ref b121), .val (.int (0 : Int32)), .val (.int (1 : Int32)), .val (.ref b136), .val (.int (1 : Int32)), .val (.int (1 : Int32)), .unset] [(.int (1 : Int32)), (.int (0 : Int32))]))
          refine Goes.st (fun t k => XS.ifYes X143.here hx rfl (pc0 := 202) (pc' := 209) rfl (hb hby at_202) rfl ((if0 _ _).trans (feq (by decide : ¬ ((1 : Int32) = (0 : Int32)))).2) (by decide) (by decide) k) ?_
          show Goes _ _ _ _ (T143.setTop (mkF m 209 #[.val (.int p0), .val (.int p1), .val (.int p2), .val (.ref b1), .val (.ref b9), .val (.ref b110), .val (.ref b121), .val (.int (0 : Int32)), .val (.int (1 : Int32)), .val (.ref b136), .val (.int (1 : Int32)), .val (.int (1 : Int32)), .unset] [(.int (0 : Int32))]))
          refine Goes.st (fun t k => XS.iconst X143.here hx rfl (hb hby at_209) k) ?_
          show Goes _ _ _ _ (T143.setTop (mkF m 210 #[.val (.int p0), .val (.int p1), .val (.int p2), .val (.ref b1), .val (.ref b9), .val (.ref b110), .val (.ref b121), .val (.int (0 : Int32)), .val (.int (1 : Int32)), .val (.ref b136), .val (.int (1 : Int32)), .val (.int (1 : Int32)), .unset] [(.int (0 : Int32)), (.int (0 : Int32))]))
          refine Goes.st (fun t k => XS.icmpNo X143.here hx rfl (hb hby at_210) rfl (teq (by decide : (0 : Int32) = (0 : Int32))).2 k) ?_
          show Goes _ _ _ _ (T143.setTop (mkF m 213 #[.val (.int p0), .val (.int p1), .val (.int p2), .val (.ref b1), .val (.ref b9), .val (.ref b110), .val (.ref b121), .val (.int (0 : Int32)), .val (.int (1 : Int32)), .val (.ref b136), .val (.int (1 : Int32)), .val (.int (1 : Int32)), .unset] []))
          refine Goes.st (fun t k => XS.iconst X143.here hx rfl (hb hby at_213) k) ?_
          show Goes _ _ _ _ (T143.setTop (mkF m 214 #[.val (.int p0), .val (.int p1), .val (.int p2), .val (.ref b1), .val (.ref b9), .val (.ref b110), .val (.ref b121), .val (.int (0 : Int32)), .val (.int (1 : Int32)), .val (.ref b136), .val (.int (1 : Int32)), .val (.int (1 : Int32)), .unset] [(.int (1 : Int32))]))
          refine Goes.st (fun t k => XS.goto X143.here hx rfl (pc0 := 214) (pc' := 218) rfl (hb hby at_214) (by decide) (by decide) k) ?_
          show Goes _ _ _ _ (T143.setTop (mkF m 218 #[.val (.int p0), .val (.int p1), .val (.int p2), .val (.ref b1), .val (.ref b9), .val (.ref b110), .val (.ref b121), .val (.int (0 : Int32)), .val (.int (1 : Int32)), .val (.ref b136), .val (.int (1 : Int32)), .val (.int (1 : Int32)), .unset] [(.int (1 : Int32))]))
          refine Goes.st (fun t k => XS.istore X143.here hx rfl (hb hby at_218) rfl (l' := #[.val (.int p0), .val (.int p1), .val (.int p2), .val (.ref b1), .val (.ref b9), .val (.ref b110), .val (.ref b121), .val (.int (0 : Int32)), .val (.int (1 : Int32)), .val (.ref b136), .val (.int (1 : Int32)), .val (.int (1 : Int32)), .val (.int (1 : Int32))]) rfl k) ?_
          show Goes _ _ _ _ (T143.setTop (mkF m 220 #[.val (.int p0), .val (.int p1), .val (.int p2), .val (.ref b1), .val (.ref b9), .val (.ref b110), .val (.ref b121), .val (.int (0 : Int32)), .val (.int (1 : Int32)), .val (.ref b136), .val (.int (1 : Int32)), .val (.int (1 : Int32)), .val (.int (1 : Int32))] []))
          refine Goes.st (fun t k => XS.iload X143.here hx rfl (hb hby at_220) rfl k) ?_
          show Goes _ _ _ _ (T143.setTop (mkF m 222 #[.val (.int p0), .val (.int p1), .val (.int p2), .val (.ref b1), .val (.ref b9), .val (.ref b110), .val (.ref b121), .val (.int (0 : Int32)), .val (.int (1 : Int32)), .val (.ref b136), .val (.int (1 : Int32)), .val (.int (1 : Int32)), .val (.int (1 : Int32))] [(.int (1 : Int32))]))
          refine Goes.st (fun t k => XS.ifNo X143.here hx rfl (hb hby at_222) rfl ((if0 _ _).trans (feq (by decide : ¬ ((1 : Int32) = (0 : Int32)))).1) k) ?_
          show Goes _ _ _ _ (T143.setTop (mkF m 225 #[.val (.int p0), .val (.int p1), .val (.int p2), .val (.ref b1), .val (.ref b9), .val (.ref b110), .val (.ref b121), .val (.int (0 : Int32)), .val (.int (1 : Int32)), .val (.ref b136), .val (.int (1 : Int32)), .val (.int (1 : Int32)), .val (.int (1 : Int32))] []))
          refine Goes.st (fun t k => XS.iload X143.here hx rfl (hb hby at_225) rfl k) ?_
          show Goes _ _ _ _ (T143.setTop (mkF m 227 #[.val (.int p0), .val (.int p1), .val (.int p2), .val (.ref b1), .val (.ref b9), .val (.ref b110), .val (.ref b121), .val (.int (0 : Int32)), .val (.int (1 : Int32)), .val (.ref b136), .val (.int (1 : Int32)), .val (.int (1 : Int32)), .val (.int (1 : Int32))] [(.int (1 : Int32))]))
          refine Goes.st (fun t k => XS.ifNo X143.here hx rfl (hb hby at_227) rfl ((if0 _ _).trans (feq (by decide : ¬ ((1 : Int32) = (0 : Int32)))).1) k) ?_
          show Goes _ _ _ _ (T143.setTop (mkF m 230 #[.val (.int p0), .val (.int p1), .val (.int p2), .val (.ref b1), .val (.ref b9), .val (.ref b110), .val (.ref b121), .val (.int (0 : Int32)), .val (.int (1 : Int32)), .val (.ref b136), .val (.int (1 : Int32)), .val (.int (1 : Int32)), .val (.int (1 : Int32))] []))
          refine Goes.st (fun t k => XS.iload X143.here hx rfl (hb hby at_230) rfl k) ?_
          show Goes _ _ _ _ (T143.setTop (mkF m 232 #[.val (.int p0), .val (.int p1), .val (.int p2), .val (.ref b1), .val (.ref b9), .val (.ref b110), .val (.ref b121), .val (.int (0 : Int32)), .val (.int (1 : Int32)), .val (.ref b136), .val (.int (1 : Int32)), .val (.int (1 : Int32)), .val (.int (1 : Int32))] [(.int (1 : Int32))]))
          refine Goes.st (fun t k => XS.ifNo X143.here hx rfl (hb hby at_232) rfl ((if0 _ _).trans (feq (by decide : ¬ ((1 : Int32) = (0 : Int32)))).1) k) ?_
          show Goes _ _ _ _ (T143.setTop (mkF m 235 #[.val (.int p0), .val (.int p1), .val (.int p2), .val (.ref b1), .val (.ref b9), .val (.ref b110), .val (.ref b121), .val (.int (0 : Int32)), .val (.int (1 : Int32)), .val (.ref b136), .val (.int (1 : Int32)), .val (.int (1 : Int32)), .val (.int (1 : Int32))] []))
          refine Goes.st (fun t k => XS.iconst X143.here hx rfl (hb hby at_235) k) ?_
          show Goes _ _ _ _ (T143.setTop (mkF m 236 #[.val (.int p0), .val (.int p1), .val (.int p2), .val (.ref b1), .val (.ref b9), .val (.ref b110), .val (.ref b121), .val (.int (0 : Int32)), .val (.int (1 : Int32)), .val (.ref b136), .val (.int (1 : Int32)), .val (.int (1 : Int32)), .val (.int (1 : Int32))] [(.int (1 : Int32))]))
          refine Goes.st (fun t k => XS.goto X143.here hx rfl (pc0 := 236) (pc' := 240) rfl (hb hby at_236) (by decide) (by decide) k) ?_
          show Goes _ _ _ _ (T143.setTop (mkF m 240 #[.val (.int p0), .val (.int p1), .val (.int p2), .val (.ref b1), .val (.ref b9), .val (.ref b110), .val (.ref b121), .val (.int (0 : Int32)), .val (.int (1 : Int32)), .val (.ref b136), .val (.int (1 : Int32)), .val (.int (1 : Int32)), .val (.int (1 : Int32))] [(.int (1 : Int32))]))
          obtain ⟨fs, hr, hrun, hended, hRW⟩ := X143.leaveW hS114 (by rw [K143]; exact (Nat.le_trans (Nat.le_trans (Nat.le_trans (Nat.le_trans (Nat.le_refl _) E121.1) K123.1) E136.1) K141.1)) (v := some (.int (1 : Int32))) (fun h => by rw [Bd.returns] at h; cases h)
          subst hQQ
          have hCR : CHr Z EL s.vm s.heap T143.vm T143.heap := by rw [hh, K143]; exact CR142.trans (CHv.at X143 hZ114 (own_EW hw) CR142.1)
          refine ⟨_, _, retN X143 hx (t := .boolean) Bd.returns (by simp) (hb hby at_240) hr, hrun, hended, _, _, rfl, ?_, hCR, own_REmono hRW (by decide) (by decide)⟩
          show Q_law Z p0 p1 p2 G1 h0 n0 _ T143.heap _
          rw [K143]
          exact ⟨rfl, N143⟩
      case neg =>
        refine Goes.st (fun t k => XS.ifNo X123.here hx rfl (hb hby at_102) rfl ((if0 _ _).trans (feq c128).1) k) ?_
        show Goes _ _ _ _ (T123.setTop (mkF m 105 #[.val (.int p0), .val (.int p1), .val (.int p2), .val (.ref b1), .val (.ref b9), .val (.ref b110), .val (.ref b121), .unset, .unset, .unset, .unset, .unset, .unset] []))
        refine Goes.st (fun t k => XS.iconst X123.here hx rfl (hb hby at_105) k) ?_
        show Goes _ _ _ _ (T123.setTop (mkF m 106 #[.val (.int p0), .val (.int p1), .val (.int p2), .val (.ref b1), .val (.ref b9), .val (.ref b110), .val (.ref b121), .unset, .unset, .unset, .unset, .unset, .unset] [(.int (1 : Int32))]))
        refine Goes.st (fun t k => XS.goto X123.here hx rfl (pc0 := 106) (pc' := 110) rfl (hb hby at_106) (by decide) (by decide) k) ?_
        show Goes _ _ _ _ (T123.setTop (mkF m 110 #[.val (.int p0), .val (.int p1), .val (.int p2), .val (.ref b1), .val (.ref b9), .val (.ref b110), .val (.ref b121), .unset, .unset, .unset, .unset, .unset, .unset] [(.int (1 : Int32))]))
        refine Goes.st (fun t k => XS.istore X123.here hx rfl (hb hby at_110) rfl (l' := #[.val (.int p0), .val (.int p1), .val (.int p2), .val (.ref b1), .val (.ref b9), .val (.ref b110), .val (.ref b121), .val (.int (1 : Int32)), .unset, .unset, .unset, .unset, .unset]) rfl k) ?_
        show Goes _ _ _ _ (T123.setTop (mkF m 112 #[.val (.int p0), .val (.int p1), .val (.int p2), .val (.ref b1), .val (.ref b9), .val (.ref b110), .val (.ref b121), .val (.int (1 : Int32)), .unset, .unset, .unset, .unset, .unset] []))
        refine Goes.st (fun t k => XS.iloadN X123.here hx rfl (hb hby at_112) rfl k) ?_
        show Goes _ _ _ _ (T123.setTop (mkF m 113 #[.val (.int p0), .val (.int p1), .val (.int p2), .val (.ref b1), .val (.ref b9), .val (.ref b110), .val (.ref b121), .val (.int (1 : Int32)), .unset, .unset, .unset, .unset, .unset] [(.int p2)]))
        refine Goes.st (fun t k => XS.iconst X123.here hx rfl (hb hby at_113) k) ?_
        show Goes _ _ _ _ (T123.setTop (mkF m 114 #[.val (.int p0), .val (.int p1), .val (.int p2), .val (.ref b1), .val (.ref b9), .val (.ref b110), .val (.ref b121), .val (.int (1 : Int32)), .unset, .unset, .unset, .unset, .unset] [(.int (2 : Int32)), (.int p2)]))
        refine Goes.st (fun t k => XS.iand X123.here hx rfl (hb hby at_114) rfl k) ?_
        show Goes _ _ _ _ (T123.setTop (mkF m 115 #[.val (.int p0), .val (.int p1), .val (.int p2), .val (.ref b1), .val (.ref b9), .val (.ref b110), .val (.ref b121), .val (.int (1 : Int32)), .unset, .unset, .unset, .unset, .unset] [(.int (p2 &&& (2 : Int32)))]))
        by_cases c144 : (p2 &&& (2 : Int32)) = (0 : Int32)
        case pos =>
          refine Goes.st (fun t k => XS.ifYes X123.here hx rfl (pc0 := 115) (pc' := 122) rfl (hb hby at_115) rfl ((if0 _ _).trans (teq c144).1) (by decide) (by decide) k) ?_
          show Goes _ _ _ _ (T123.setTop (mkF m 122 #[.val (.int p0), .val (.int p1), .val (.int p2), .val (.ref b1), .val (.ref b9), .val (.ref b110), .val (.ref b121), .val (.int (1 : Int32)), .unset, .unset, .unset, .unset, .unset] []))
          refine Goes.st (fun t k => XS.iconst X123.here hx rfl (hb hby at_122) k) ?_
          show Goes _ _ _ _ (T123.setTop (mkF m 123 #[.val (.int p0), .val (.int p1), .val (.int p2), .val (.ref b1), .val (.ref b9), .val (.ref b110), .val (.ref b121), .val (.int (1 : Int32)), .unset, .unset, .unset, .unset, .unset] [(.int (0 : Int32))]))
          refine Goes.st (fun t k => XS.istore X123.here hx rfl (hb hby at_123) rfl (l' := #[.val (.int p0), .val (.int p1), .val (.int p2), .val (.ref b1), .val (.ref b9), .val (.ref b110), .val (.ref b121), .val (.int (1 : Int32)), .val (.int (0 : Int32)), .unset, .unset, .unset, .unset]) rfl k) ?_
          show Goes _ _ _ _ (T123.setTop (mkF m 125 #[.val (.int p0), .val (.int p1), .val (.int p2), .val (.ref b1), .val (.ref b9), .val (.ref b110), .val (.ref b121), .val (.int (1 : Int32)), .val (.int (0 : Int32)), .unset, .unset, .unset, .unset] []))
          obtain ⟨T145, h145, X145, e145, E145, A145, D145, -, st145⟩ := newO X123 hx hZ114 hown114 (hw30 hw) (hw31 hw) (hw32 hw) rfl (g := (mkF m 125 #[.val (.int p0), .val (.int p1), .val (.int p2), .val (.ref b1), .val (.ref b9), .val (.ref b110), .val (.ref b121), .val (.int (1 : Int32)), .val (.int (0 : Int32)), .unset, .unset, .unset, .unset] [])) rfl (hb hby at_125) (by decide) (by decide)
          obtain ⟨b145, g145⟩ : ∃ z, z = T123.heap.size := ⟨_, rfl⟩
          rw [← g145] at A145 D145 st145
          have CR146 : CHr Z EL s.vm h0 T114.vm h145 := CR127.trans (CHr.ext E145 CR127.1)
          have sf146_b110 : Safe Z EL T114.vm h145 b110 := Safe.ext E145 CR127.1 sf127_b110
          have F145_reason : Fld Z h145 b145 "com/example/tenon/tenon/registry/Validity" "reason" "Ljava/lang/String;" .null := D145 (Or.inl (hw43 hw)) (ty := (.object "java/lang/String")) (by decide)
          refine Goes.st st145 ?_
          show Goes _ _ _ _ (T145.setTop (mkF m 128 #[.val (.int p0), .val (.int p1), .val (.int p2), .val (.ref b1), .val (.ref b9), .val (.ref b110), .val (.ref b121), .val (.int (1 : Int32)), .val (.int (0 : Int32)), .unset, .unset, .unset, .unset] [(.ref b145)]))
          refine Goes.st (fun t k => XS.dup X145.here hx rfl (hb hby at_128) rfl rfl k) ?_
          show Goes _ _ _ _ (T145.setTop (mkF m 129 #[.val (.int p0), .val (.int p1), .val (.int p2), .val (.ref b1), .val (.ref b9), .val (.ref b110), .val (.ref b121), .val (.int (1 : Int32)), .val (.int (0 : Int32)), .unset, .unset, .unset, .unset] [(.ref b145), (.ref b145)]))
          obtain ⟨_, _, ⟨T147, L147, k147, n147⟩, -, X147, ⟨Lc147, hQ147, l147, y147, z147⟩, st147⟩ := X145.specialBack hx (y := (⟨"com/example/tenon/tenon/registry/Validity", "<init>", "()V"⟩ : MethodName)) rfl hown114 (mvT hZ114 (hw33 hw)) (mvT hZ114 (hw34 hw)) (mvT hZ114 (hw35 hw)) (by decide) (backOf (W := 1) (rm_vinit l Z a0 hw [] b145 h145 n0 (Nat.le_trans Z0 (Nat.le_trans (Nat.le_trans (Nat.le_trans (Nat.le_trans (Nat.le_trans (Nat.le_trans (Nat.le_trans (Nat.le_trans (Nat.le_trans (Nat.le_trans E1.1 (Nat.le_of_eq W4.size.symm)) (Nat.le_of_eq W7.size.symm)) E9.1) (Nat.le_of_eq W12.size.symm)) E110.1) E112.1) K114.1) E121.1) K123.1) E145.1)) ) hZ114 (hw35 hw) (hw32 hw) (by decide) (by decide)) (g := (mkF m 129 #[.val (.int p0), .val (.int p1), .val (.int p2), .val (.ref b1), .val (.ref b9), .val (.ref b110), .val (.ref b121), .val (.int (1 : Int32)), .val (.int (0 : Int32)), .unset, .unset, .unset, .unset] [(.ref b145), (.ref b145)])) rfl (by rw [hml]; rfl) (Steps.refl _) (a := b145) (argsL := []) (rest := [(.ref b145)]) (lenOf pd_2 rfl) rfl (by show 2 * 0 + _ ≤ _; exact Nat.le_of_eq rfl) (hb hby at_129) (fun _ _ => ⟨rfl, e145, (by decide : 11 + 0 ≤ _), (by decide : 21 + 0 ≤ _)⟩)
          dsimp only [Pt.U, Pt.locs, Pt.cells, Pt.slots] at X147 l147 y147 z147 st147 hQ147
          subst l147 y147 z147
          obtain ⟨rfl, N147q, K147⟩ := hQ147
          have N147 := Fr.app N123 N147q
          refine Goes.tr st147 ?_
          show Goes _ _ _ _ (T147.setTop (mkF m 132 #[.val (.int p0), .val (.int p1), .val (.int p2), .val (.ref b1), .val (.ref b9), .val (.ref b110), .val (.ref b121), .val (.int (1 : Int32)), .val (.int (0 : Int32)), .unset, .unset, .unset, .unset] [(.ref b145)]))
          refine Goes.st (fun t k => XS.astore X147.here hx rfl (hb hby at_132) rfl rfl (l' := #[.val (.int p0), .val (.int p1), .val (.int p2), .val (.ref b1), .val (.ref b9), .val (.ref b110), .val (.ref b121), .val (.int (1 : Int32)), .val (.int (0 : Int32)), .val (.ref b145), .unset, .unset, .unset]) rfl k) ?_
          show Goes _ _ _ _ (T147.setTop (mkF m 134 #[.val (.int p0), .val (.int p1), .val (.int p2), .val (.ref b1), .val (.ref b9), .val (.ref b110), .val (.ref b121), .val (.int (1 : Int32)), .val (.int (0 : Int32)), .val (.ref b145), .unset, .unset, .unset] []))
          refine Goes.st (fun t k => XS.aload X147.here hx rfl (hb hby at_134) rfl rfl k) ?_
          show Goes _ _ _ _ (T147.setTop (mkF m 136 #[.val (.int p0), .val (.int p1), .val (.int p2), .val (.ref b1), .val (.ref b9), .val (.ref b110), .val (.ref b121), .val (.int (1 : Int32)), .val (.int (0 : Int32)), .val (.ref b145), .unset, .unset, .unset] [(.ref b145)]))
          obtain ⟨cq148, kq148, q148a, q148b, q148c⟩ := isOf hZ114 K147 A145
          obtain ⟨_, _, ⟨T148, L148, k148, n148⟩, -, X148, ⟨Lc148, hQ148, l148, y148, z148⟩, st148⟩ := X147.virtualBack hx (y := (⟨"com/example/tenon/tenon/registry/Validity", "isValid", "()Z"⟩ : MethodName)) (z := (⟨"com/example/tenon/tenon/registry/Validity", "isValid", "()Z"⟩ : MethodName)) hown114 (mvT hZ114 (hw37 hw)) (mvT hZ114 (hw38 hw)) (notFace_of_selects (args := #[]) (mvT hZ114 (hw40 hw))) (mvT hZ114 (hw40 hw)) (mvT hZ114 (hw39 hw)) (by decide) (backOf (W := 0) (rm_ivN l Z a0 hw [] b145 h145 n0 (Nat.le_trans Z0 (Nat.le_trans (Nat.le_trans (Nat.le_trans (Nat.le_trans (Nat.le_trans (Nat.le_trans (Nat.le_trans (Nat.le_trans (Nat.le_trans (Nat.le_trans E1.1 (Nat.le_of_eq W4.size.symm)) (Nat.le_of_eq W7.size.symm)) E9.1) (Nat.le_of_eq W12.size.symm)) E110.1) E112.1) K114.1) E121.1) K123.1) E145.1)) F145_reason) hZ114 (hw41 hw) (hw32 hw) (by decide) (by decide)) q148a q148c (g := (mkF m 136 #[.val (.int p0), .val (.int p1), .val (.int p2), .val (.ref b1), .val (.ref b9), .val (.ref b110), .val (.ref b121), .val (.int (1 : Int32)), .val (.int (0 : Int32)), .val (.ref b145), .unset, .unset, .unset] [(.ref b145)])) rfl (by rw [hml]; rfl) (Steps.refl _) (argsL := []) (rest := []) (lenOf pd_3 rfl) rfl (by show 2 * 0 + _ ≤ _; exact Nat.le_of_eq rfl) (hb hby at_136) (fun _ _ => ⟨rfl, K147, (by decide : 11 + 0 ≤ _), (by decide : 21 + 0 ≤ _)⟩)
          dsimp only [Pt.U, Pt.locs, Pt.cells, Pt.slots] at X148 l148 y148 z148 st148 hQ148
          subst l148 y148 z148
          obtain ⟨rfl, N148q, K148⟩ := hQ148
          have N148 := Fr.app N147 N148q
          refine Goes.tr st148 ?_
          show Goes _ _ _ _ (T148.setTop (mkF m 139 #[.val (.int p0), .val (.int p1), .val (.int p2), .val (.ref b1), .val (.ref b9), .val (.ref b110), .val (.ref b121), .val (.int (1 : Int32)), .val (.int (0 : Int32)), .val (.ref b145), .unset, .unset, .unset] [(.int (1 : Int32))]))
          refine Goes.st (fun t k => XS.istore X148.here hx rfl (hb hby at_139) rfl (l' := #[.val (.int p0), .val (.int p1), .val (.int p2), .val (.ref b1), .val (.ref b9), .val (.ref b110), .val (.ref b121), .val (.int (1 : Int32)), .val (.int (0 : Int32)), .val (.ref b145), .val (.int (1 : Int32)), .unset, .unset]) rfl k) ?_
          show Goes _ _ _ _ (T148.setTop (mkF m 141 #[.val (.int p0), .val (.int p1), .val (.int p2), .val (.ref b1), .val (.ref b9), .val (.ref b110), .val (.ref b121), .val (.int (1 : Int32)), .val (.int (0 : Int32)), .val (.ref b145), .val (.int (1 : Int32)), .unset, .unset] []))
          refine Goes.st (fun t k => XS.iload X148.here hx rfl (hb hby at_141) rfl k) ?_
          show Goes _ _ _ _ (T148.setTop (mkF m 143 #[.val (.int p0), .val (.int p1), .val (.int p2), .val (.ref b1), .val (.ref b9), .val (.ref b110), .val (.ref b121), .val (.int (1 : Int32)), .val (.int (0 : Int32)), .val (.ref b145), .val (.int (1 : Int32)), .unset, .unset] [(.int (1 : Int32))]))
          refine Goes.st (fun t k => XS.ifNo X148.here hx rfl (hb hby at_143) rfl ((if0 _ _).trans (feq (by decide : ¬ ((1 : Int32) = (0 : Int32)))).1) k) ?_
          show Goes _ _ _ _ (T148.setTop (mkF m 146 #[.val (.int p0), .val (.int p1), .val (.int p2), .val (.ref b1), .val (.ref b9), .val (.ref b110), .val (.ref b121), .val (.int (1 : Int32)), .val (.int (0 : Int32)), .val (.ref b145), .val (.int (1 : Int32)), .unset, .unset] []))
          refine Goes.st (fun t k => XS.aload X148.here hx rfl (hb hby at_146) rfl rfl k) ?_
          show Goes _ _ _ _ (T148.setTop (mkF m 148 #[.val (.int p0), .val (.int p1), .val (.int p2), .val (.ref b1), .val (.ref b9), .val (.ref b110), .val (.ref b121), .val (.int (1 : Int32)), .val (.int (0 : Int32)), .val (.ref b145), .val (.int (1 : Int32)), .unset, .unset] [(.ref b145)]))
          refine Goes.st (fun t k => XS.aload X148.here hx rfl (hb hby at_148) rfl rfl k) ?_
          show Goes _ _ _ _ (T148.setTop (mkF m 150 #[.val (.int p0), .val (.int p1), .val (.int p2), .val (.ref b1), .val (.ref b9), .val (.ref b110), .val (.ref b121), .val (.int (1 : Int32)), .val (.int (0 : Int32)), .val (.ref b145), .val (.int (1 : Int32)), .unset, .unset] [(.ref b110), (.ref b145)]))
          obtain ⟨cq149, kq149, q149a, q149b, q149c⟩ := isOf hZ114 K148 A145
          obtain ⟨_, _, ⟨T149, L149, k149, n149⟩, -, X149, ⟨Lc149, hQ149, l149, y149, z149⟩, st149⟩ := X148.virtualBack hx (y := (⟨"com/example/tenon/tenon/registry/Validity", "invalidate", "(Ljava/lang/String;)V"⟩ : MethodName)) (z := (⟨"com/example/tenon/tenon/registry/Validity", "invalidate", "(Ljava/lang/String;)V"⟩ : MethodName)) hown114 (mvT hZ114 (hw44 hw)) (mvT hZ114 (hw45 hw)) (notFace_of_selects (args := #[]) (mvT hZ114 (hw47 hw))) (mvT hZ114 (hw47 hw)) (mvT hZ114 (hw46 hw)) (by decide) (backOf (W := 0) (rm_inv l Z a0 hw [] b145 b110 (Value.null) h145 n0 (Nat.le_trans Z0 (Nat.le_trans (Nat.le_trans (Nat.le_trans (Nat.le_trans (Nat.le_trans (Nat.le_trans (Nat.le_trans (Nat.le_trans (Nat.le_trans (Nat.le_trans E1.1 (Nat.le_of_eq W4.size.symm)) (Nat.le_of_eq W7.size.symm)) E9.1) (Nat.le_of_eq W12.size.symm)) E110.1) E112.1) K114.1) E121.1) K123.1) E145.1)) A145 F145_reason (Nat.le_trans Z0 (Nat.le_trans (Nat.le_trans (Nat.le_trans (Nat.le_trans (Nat.le_trans (Nat.le_trans (Nat.le_trans (Nat.le_trans (Nat.le_trans (Nat.le_trans E1.1 (Nat.le_of_eq W4.size.symm)) (Nat.le_of_eq W7.size.symm)) E9.1) (Nat.le_of_eq W12.size.symm)) E110.1) E112.1) K114.1) E121.1) K123.1) (Nat.le_of_eq g145.symm)))) hZ114 (hw48 hw) (hw32 hw) (by decide) (by decide)) q149a q149c (g := (mkF m 150 #[.val (.int p0), .val (.int p1), .val (.int p2), .val (.ref b1), .val (.ref b9), .val (.ref b110), .val (.ref b121), .val (.int (1 : Int32)), .val (.int (0 : Int32)), .val (.ref b145), .val (.int (1 : Int32)), .unset, .unset] [(.ref b110), (.ref b145)])) rfl (by rw [hml]; rfl) (Steps.refl _) (argsL := [(.ref b110)]) (rest := []) (lenOf pd_4 rfl) rfl (by show 2 * 0 + _ ≤ _; exact Nat.le_of_eq rfl) (hb hby at_150) (fun _ _ => ⟨rfl, K148, (by decide : 11 + 0 ≤ _), (by decide : 21 + 0 ≤ _)⟩)
          dsimp only [Pt.U, Pt.locs, Pt.cells, Pt.slots] at X149 l149 y149 z149 st149 hQ149
          subst l149 y149 z149
          obtain ⟨rfl, N149q, K149, F149_0, F149_1⟩ := hQ149
          have N149 := Fr.app N148 N149q
          have hs150 : ∀ x ∈ ([b145] : List Addr), Safe Z EL T114.vm h145 x := (allS (Safe.exa hZ114.alike A145 (by decide) (by decide)) all0)
          have CR150 : CHr Z EL s.vm h0 T114.vm T149.heap := CR146.trans (CHr.keep K149 hs150 CR146.1)
          have sf150_b110 : Safe Z EL T114.vm T149.heap b110 := Safe.keep K149 hs150 CR146.1 sf146_b110
          refine Goes.tr st149 ?_
          show Goes _ _ _ _ (T149.setTop (mkF m 153 #[.val (.int p0), .val (.int p1), .val (.int p2), .val (.ref b1), .val (.ref b9), .val (.ref b110), .val (.ref b121), .val (.int (1 : Int32)), .val (.int (0 : Int32)), .val (.ref b145), .val (.int (1 : Int32)), .unset, .unset] []))
          refine Goes.st (fun t k => XS.aload X149.here hx rfl (hb hby at_153) rfl rfl k) ?_
          show Goes _ _ _ _ (T149.setTop (mkF m 155 #[.val (.int p0), .val (.int p1), .val (.int p2), .val (.ref b1), .val (.ref b9), .val (.ref b110), .val (.ref b121), .val (.int (1 : Int32)), .val (.int (0 : Int32)), .val (.ref b145), .val (.int (1 : Int32)), .unset, .unset] [(.ref b145)]))
          obtain ⟨cq151, kq151, q151a, q151b, q151c⟩ := isOf hZ114 rfl F149_0
          obtain ⟨_, _, ⟨T151, L151, k151, n151⟩, -, X151, ⟨Lc151, hQ151, l151, y151, z151⟩, st151⟩ := X149.virtualBack hx (y := (⟨"com/example/tenon/tenon/registry/Validity", "isValid", "()Z"⟩ : MethodName)) (z := (⟨"com/example/tenon/tenon/registry/Validity", "isValid", "()Z"⟩ : MethodName)) hown114 (mvT hZ114 (hw37 hw)) (mvT hZ114 (hw38 hw)) (notFace_of_selects (args := #[]) (mvT hZ114 (hw40 hw))) (mvT hZ114 (hw40 hw)) (mvT hZ114 (hw39 hw)) (by decide) (backOf (W := 0) (rm_ivR l Z a0 hw [] b145 b110 T149.heap n0 (Nat.le_trans Z0 (Nat.le_trans (Nat.le_trans (Nat.le_trans (Nat.le_trans (Nat.le_trans (Nat.le_trans (Nat.le_trans (Nat.le_trans (Nat.le_trans (Nat.le_trans (Nat.le_trans E1.1 (Nat.le_of_eq W4.size.symm)) (Nat.le_of_eq W7.size.symm)) E9.1) (Nat.le_of_eq W12.size.symm)) E110.1) E112.1) K114.1) E121.1) K123.1) E145.1) K149.1)) F149_1) hZ114 (hw41 hw) (hw32 hw) (by decide) (by decide)) q151a q151c (g := (mkF m 155 #[.val (.int p0), .val (.int p1), .val (.int p2), .val (.ref b1), .val (.ref b9), .val (.ref b110), .val (.ref b121), .val (.int (1 : Int32)), .val (.int (0 : Int32)), .val (.ref b145), .val (.int (1 : Int32)), .unset, .unset] [(.ref b145)])) rfl (by rw [hml]; rfl) (Steps.refl _) (argsL := []) (rest := []) (lenOf pd_3 rfl) rfl (by show 2 * 0 + _ ≤ _; exact Nat.le_of_eq rfl) (hb hby at_155) (fun _ _ => ⟨rfl, rfl, (by decide : 11 + 0 ≤ _), (by decide : 21 + 0 ≤ _)⟩)
          dsimp only [Pt.U, Pt.locs, Pt.cells, Pt.slots] at X151 l151 y151 z151 st151 hQ151
          subst l151 y151 z151
          obtain ⟨rfl, N151q, K151⟩ := hQ151
          have N151 := Fr.app N149 N151q
          refine Goes.tr st151 ?_
          show Goes _ _ _ _ (T151.setTop (mkF m 158 #[.val (.int p0), .val (.int p1), .val (.int p2), .val (.ref b1), .val (.ref b9), .val (.ref b110), .val (.ref b121), .val (.int (1 : Int32)), .val (.int (0 : Int32)), .val (.ref b145), .val (.int (1 : Int32)), .unset, .unset] [(.int (0 : Int32))]))
          refine Goes.st (fun t k => XS.iload X151.here hx rfl (hb hby at_158) rfl k) ?_
          show Goes _ _ _ _ (T151.setTop (mkF m 160 #[.val (.int p0), .val (.int p1), .val (.int p2), .val (.ref b1), .val (.ref b9), .val (.ref b110), .val (.ref b121), .val (.int (1 : Int32)), .val (.int (0 : Int32)), .val (.ref b145), .val (.int (1 : Int32)), .unset, .unset] [(.int (1 : Int32)), (.int (0 : Int32))]))
          refine Goes.st (fun t k => XS.ifYes X151.here hx rfl (pc0 := 160) (pc' := 167) rfl (hb hby at_160) rfl ((if0 _ _).trans (feq (by decide : ¬ ((1 : Int32) = (0 : Int32)))).2) (by decide) (by decide) k) ?_
          show Goes _ _ _ _ (T151.setTop (mkF m 167 #[.val (.int p0), .val (.int p1), .val (.int p2), .val (.ref b1), .val (.ref b9), .val (.ref b110), .val (.ref b121), .val (.int (1 : Int32)), .val (.int (0 : Int32)), .val (.ref b145), .val (.int (1 : Int32)), .unset, .unset] [(.int (0 : Int32))]))
          refine Goes.st (fun t k => XS.iconst X151.here hx rfl (hb hby at_167) k) ?_
          show Goes _ _ _ _ (T151.setTop (mkF m 168 #[.val (.int p0), .val (.int p1), .val (.int p2), .val (.ref b1), .val (.ref b9), .val (.ref b110), .val (.ref b121), .val (.int (1 : Int32)), .val (.int (0 : Int32)), .val (.ref b145), .val (.int (1 : Int32)), .unset, .unset] [(.int (0 : Int32)), (.int (0 : Int32))]))
          refine Goes.st (fun t k => XS.icmpNo X151.here hx rfl (hb hby at_168) rfl (teq (by decide : (0 : Int32) = (0 : Int32))).2 k) ?_
          show Goes _ _ _ _ (T151.setTop (mkF m 171 #[.val (.int p0), .val (.int p1), .val (.int p2), .val (.ref b1), .val (.ref b9), .val (.ref b110), .val (.ref b121), .val (.int (1 : Int32)), .val (.int (0 : Int32)), .val (.ref b145), .val (.int (1 : Int32)), .unset, .unset] []))
          refine Goes.st (fun t k => XS.iconst X151.here hx rfl (hb hby at_171) k) ?_
          show Goes _ _ _ _ (T151.setTop (mkF m 172 #[.val (.int p0), .val (.int p1), .val (.int p2), .val (.ref b1), .val (.ref b9), .val (.ref b110), .val (.ref b121), .val (.int (1 : Int32)), .val (.int (0 : Int32)), .val (.ref b145), .val (.int (1 : Int32)), .unset, .unset] [(.int (1 : Int32))]))
          refine Goes.st (fun t k => XS.goto X151.here hx rfl (pc0 := 172) (pc' := 176) rfl (hb hby at_172) (by decide) (by decide) k) ?_
          show Goes _ _ _ _ (T151.setTop (mkF m 176 #[.val (.int p0), .val (.int p1), .val (.int p2), .val (.ref b1), .val (.ref b9), .val (.ref b110), .val (.ref b121), .val (.int (1 : Int32)), .val (.int (0 : Int32)), .val (.ref b145), .val (.int (1 : Int32)), .unset, .unset] [(.int (1 : Int32))]))
          refine Goes.st (fun t k => XS.istore X151.here hx rfl (hb hby at_176) rfl (l' := #[.val (.int p0), .val (.int p1), .val (.int p2), .val (.ref b1), .val (.ref b9), .val (.ref b110), .val (.ref b121), .val (.int (1 : Int32)), .val (.int (0 : Int32)), .val (.ref b145), .val (.int (1 : Int32)), .val (.int (1 : Int32)), .unset]) rfl k) ?_
          show Goes _ _ _ _ (T151.setTop (mkF m 178 #[.val (.int p0), .val (.int p1), .val (.int p2), .val (.ref b1), .val (.ref b9), .val (.ref b110), .val (.ref b121), .val (.int (1 : Int32)), .val (.int (0 : Int32)), .val (.ref b145), .val (.int (1 : Int32)), .val (.int (1 : Int32)), .unset] []))
          refine Goes.st (fun t k => XS.iload X151.here hx rfl (hb hby at_178) rfl k) ?_
          show Goes _ _ _ _ (T151.setTop (mkF m 180 #[.val (.int p0), .val (.int p1), .val (.int p2), .val (.ref b1), .val (.ref b9), .val (.ref b110), .val (.ref b121), .val (.int (1 : Int32)), .val (.int (0 : Int32)), .val (.ref b145), .val (.int (1 : Int32)), .val (.int (1 : Int32)), .unset] [(.int (0 : Int32))]))
          refine Goes.st (fun t k => XS.ifYes X151.here hx rfl (pc0 := 180) (pc' := 190) rfl (hb hby at_180) rfl ((if0 _ _).trans (teq (by decide : (0 : Int32) = (0 : Int32))).1) (by decide) (by decide) k) ?_
          show Goes _ _ _ _ (T151.setTop (mkF m 190 #[.val (.int p0), .val (.int p1), .val (.int p2), .val (.ref b1), .val (.ref b9), .val (.ref b110), .val (.ref b121), .val (.int (1 : Int32)), .val (.int (0 : Int32)), .val (.ref b145), .val (.int (1 : Int32)), .val (.int (1 : Int32)), .unset] []))
          refine Goes.st (fun t k => XS.aload X151.here hx rfl (hb hby at_190) rfl rfl k) ?_
          show Goes _ _ _ _ (T151.setTop (mkF m 192 #[.val (.int p0), .val (.int p1), .val (.int p2), .val (.ref b1), .val (.ref b9), .val (.ref b110), .val (.ref b121), .val (.int (1 : Int32)), .val (.int (0 : Int32)), .val (.ref b145), .val (.int (1 : Int32)), .val (.int (1 : Int32)), .unset] [(.ref b145)]))
          obtain ⟨cq152, kq152, q152a, q152b, q152c⟩ := isOf hZ114 K151 F149_0
          obtain ⟨_, _, ⟨T152, L152, k152, n152⟩, -, X152, ⟨Lc152, hQ152, l152, y152, z152⟩, st152⟩ := X151.virtualBack hx (y := (⟨"com/example/tenon/tenon/registry/Validity", "isValid", "()Z"⟩ : MethodName)) (z := (⟨"com/example/tenon/tenon/registry/Validity", "isValid", "()Z"⟩ : MethodName)) hown114 (mvT hZ114 (hw37 hw)) (mvT hZ114 (hw38 hw)) (notFace_of_selects (args := #[]) (mvT hZ114 (hw40 hw))) (mvT hZ114 (hw40 hw)) (mvT hZ114 (hw39 hw)) (by decide) (backOf (W := 0) (rm_ivR l Z a0 hw [] b145 b110 T149.heap n0 (Nat.le_trans Z0 (Nat.le_trans (Nat.le_trans (Nat.le_trans (Nat.le_trans (Nat.le_trans (Nat.le_trans (Nat.le_trans (Nat.le_trans (Nat.le_trans (Nat.le_trans (Nat.le_trans E1.1 (Nat.le_of_eq W4.size.symm)) (Nat.le_of_eq W7.size.symm)) E9.1) (Nat.le_of_eq W12.size.symm)) E110.1) E112.1) K114.1) E121.1) K123.1) E145.1) K149.1)) F149_1) hZ114 (hw41 hw) (hw32 hw) (by decide) (by decide)) q152a q152c (g := (mkF m 192 #[.val (.int p0), .val (.int p1), .val (.int p2), .val (.ref b1), .val (.ref b9), .val (.ref b110), .val (.ref b121), .val (.int (1 : Int32)), .val (.int (0 : Int32)), .val (.ref b145), .val (.int (1 : Int32)), .val (.int (1 : Int32)), .unset] [(.ref b145)])) rfl (by rw [hml]; rfl) (Steps.refl _) (argsL := []) (rest := []) (lenOf pd_3 rfl) rfl (by show 2 * 0 + _ ≤ _; exact Nat.le_of_eq rfl) (hb hby at_192) (fun _ _ => ⟨rfl, K151, (by decide : 11 + 0 ≤ _), (by decide : 21 + 0 ≤ _)⟩)
          dsimp only [Pt.U, Pt.locs, Pt.cells, Pt.slots] at X152 l152 y152 z152 st152 hQ152
          subst l152 y152 z152
          obtain ⟨rfl, N152q, K152⟩ := hQ152
          have N152 := Fr.app N151 N152q
          refine Goes.tr st152 ?_
          show Goes _ _ _ _ (T152.setTop (mkF m 195 #[.val (.int p0), .val (.int p1), .val (.int p2), .val (.ref b1), .val (.ref b9), .val (.ref b110), .val (.ref b121), .val (.int (1 : Int32)), .val (.int (0 : Int32)), .val (.ref b145), .val (.int (1 : Int32)), .val (.int (1 : Int32)), .unset] [(.int (0 : Int32))]))
          refine Goes.st (fun t k => XS.iload X152.here hx rfl (hb hby at_195) rfl k) ?_
          show Goes _ _ _ _ (T152.setTop (mkF m 197 #[.val (.int p0), .val (.int p1), .val (.int p2), .val (.ref b1), .val (.ref b9), .val (.ref b110), .val (.ref b121), .val (.int (1 : Int32)), .val (.int (0 : Int32)), .val (.ref b145), .val (.int (1 : Int32)), .val (.int (1 : Int32)), .unset] [(.int (1 : Int32)), (.int (0 : Int32))]))
          refine Goes.st (fun t k => XS.ifYes X152.here hx rfl (pc0 := 197) (pc' := 209) rfl (hb hby at_197) rfl ((if0 _ _).trans (feq (by decide : ¬ ((1 : Int32) = (0 : Int32)))).2) (by decide) (by decide) k) ?_
          show Goes _ _ _ _ (T152.setTop (mkF m 209 #[.val (.int p0), .val (.int p1), .val (.int p2), .val (.ref b1), .val (.ref b9), .val (.ref b110), .val (.ref b121), .val (.int (1 : Int32)), .val (.int (0 : Int32)), .val (.ref b145), .val (.int (1 : Int32)), .val (.int (1 : Int32)), .unset] [(.int (0 : Int32))]))
          refine Goes.st (fun t k => XS.iconst X152.here hx rfl (hb hby at_209) k) ?_
          show Goes _ _ _ _ (T152.setTop (mkF m 210 #[.val (.int p0), .val (.int p1), .val (.int p2), .val (.ref b1), .val (.ref b9), .val (.ref b110), .val (.ref b121), .val (.int (1 : Int32)), .val (.int (0 : Int32)), .val (.ref b145), .val (.int (1 : Int32)), .val (.int (1 : Int32)), .unset] [(.int (0 : Int32)), (.int (0 : Int32))]))
          refine Goes.st (fun t k => XS.icmpNo X152.here hx rfl (hb hby at_210) rfl (teq (by decide : (0 : Int32) = (0 : Int32))).2 k) ?_
          show Goes _ _ _ _ (T152.setTop (mkF m 213 #[.val (.int p0), .val (.int p1), .val (.int p2), .val (.ref b1), .val (.ref b9), .val (.ref b110), .val (.ref b121), .val (.int (1 : Int32)), .val (.int (0 : Int32)), .val (.ref b145), .val (.int (1 : Int32)), .val (.int (1 : Int32)), .unset] []))
          refine Goes.st (fun t k => XS.iconst X152.here hx rfl (hb hby at_213) k) ?_
          show Goes _ _ _ _ (T152.setTop (mkF m 214 #[.val (.int p0), .val (.int p1), .val (.int p2), .val (.ref b1), .val (.ref b9), .val (.ref b110), .val (.ref b121), .val (.int (1 : Int32)), .val (.int (0 : Int32)), .val (.ref b145), .val (.int (1 : Int32)), .val (.int (1 : Int32)), .unset] [(.int (1 : Int32))]))
          refine Goes.st (fun t k => XS.goto X152.here hx rfl (pc0 := 214) (pc' := 218) rfl (hb hby at_214) (by decide) (by decide) k) ?_
          show Goes _ _ _ _ (T152.setTop (mkF m 218 #[.val (.int p0), .val (.int p1), .val (.int p2), .val (.ref b1), .val (.ref b9), .val (.ref b110), .val (.ref b121), .val (.int (1 : Int32)), .val (.int (0 : Int32)), .val (.ref b145), .val (.int (1 : Int32)), .val (.int (1 : Int32)), .unset] [(.int (1 : Int32))]))
          refine Goes.st (fun t k => XS.istore X152.here hx rfl (hb hby at_218) rfl (l' := #[.val (.int p0), .val (.int p1), .val (.int p2), .val (.ref b1), .val (.ref b9), .val (.ref b110), .val (.ref b121), .val (.int (1 : Int32)), .val (.int (0 : Int32)), .val (.ref b145), .val (.int (1 : Int32)), .val (.int (1 : Int32)), .val (.int (1 : Int32))]) rfl k) ?_
          show Goes _ _ _ _ (T152.setTop (mkF m 220 #[.val (.int p0), .val (.int p1), .val (.int p2), .val (.ref b1), .val (.ref b9), .val (.ref b110), .val (.ref b121), .val (.int (1 : Int32)), .val (.int (0 : Int32)), .val (.ref b145), .val (.int (1 : Int32)), .val (.int (1 : Int32)), .val (.int (1 : Int32))] []))
          refine Goes.st (fun t k => XS.iload X152.here hx rfl (hb hby at_220) rfl k) ?_
          show Goes _ _ _ _ (T152.setTop (mkF m 222 #[.val (.int p0), .val (.int p1), .val (.int p2), .val (.ref b1), .val (.ref b9), .val (.ref b110), .val (.ref b121), .val (.int (1 : Int32)), .val (.int (0 : Int32)), .val (.ref b145), .val (.int (1 : Int32)), .val (.int (1 : Int32)), .val (.int (1 : Int32))] [(.int (1 : Int32))]))
          refine Goes.st (fun t k => XS.ifNo X152.here hx rfl (hb hby at_222) rfl ((if0 _ _).trans (feq (by decide : ¬ ((1 : Int32) = (0 : Int32)))).1) k) ?_
          show Goes _ _ _ _ (T152.setTop (mkF m 225 #[.val (.int p0), .val (.int p1), .val (.int p2), .val (.ref b1), .val (.ref b9), .val (.ref b110), .val (.ref b121), .val (.int (1 : Int32)), .val (.int (0 : Int32)), .val (.ref b145), .val (.int (1 : Int32)), .val (.int (1 : Int32)), .val (.int (1 : Int32))] []))
          refine Goes.st (fun t k => XS.iload X152.here hx rfl (hb hby at_225) rfl k) ?_
          show Goes _ _ _ _ (T152.setTop (mkF m 227 #[.val (.int p0), .val (.int p1), .val (.int p2), .val (.ref b1), .val (.ref b9), .val (.ref b110), .val (.ref b121), .val (.int (1 : Int32)), .val (.int (0 : Int32)), .val (.ref b145), .val (.int (1 : Int32)), .val (.int (1 : Int32)), .val (.int (1 : Int32))] [(.int (1 : Int32))]))
          refine Goes.st (fun t k => XS.ifNo X152.here hx rfl (hb hby at_227) rfl ((if0 _ _).trans (feq (by decide : ¬ ((1 : Int32) = (0 : Int32)))).1) k) ?_
          show Goes _ _ _ _ (T152.setTop (mkF m 230 #[.val (.int p0), .val (.int p1), .val (.int p2), .val (.ref b1), .val (.ref b9), .val (.ref b110), .val (.ref b121), .val (.int (1 : Int32)), .val (.int (0 : Int32)), .val (.ref b145), .val (.int (1 : Int32)), .val (.int (1 : Int32)), .val (.int (1 : Int32))] []))
          refine Goes.st (fun t k => XS.iload X152.here hx rfl (hb hby at_230) rfl k) ?_
          show Goes _ _ _ _ (T152.setTop (mkF m 232 #[.val (.int p0), .val (.int p1), .val (.int p2), .val (.ref b1), .val (.ref b9), .val (.ref b110), .val (.ref b121), .val (.int (1 : Int32)), .val (.int (0 : Int32)), .val (.ref b145), .val (.int (1 : Int32)), .val (.int (1 : Int32)), .val (.int (1 : Int32))] [(.int (1 : Int32))]))
          refine Goes.st (fun t k => XS.ifNo X152.here hx rfl (hb hby at_232) rfl ((if0 _ _).trans (feq (by decide : ¬ ((1 : Int32) = (0 : Int32)))).1) k) ?_
          show Goes _ _ _ _ (T152.setTop (mkF m 235 #[.val (.int p0), .val (.int p1), .val (.int p2), .val (.ref b1), .val (.ref b9), .val (.ref b110), .val (.ref b121), .val (.int (1 : Int32)), .val (.int (0 : Int32)), .val (.ref b145), .val (.int (1 : Int32)), .val (.int (1 : Int32)), .val (.int (1 : Int32))] []))
          refine Goes.st (fun t k => XS.iconst X152.here hx rfl (hb hby at_235) k) ?_
          show Goes _ _ _ _ (T152.setTop (mkF m 236 #[.val (.int p0), .val (.int p1), .val (.int p2), .val (.ref b1), .val (.ref b9), .val (.ref b110), .val (.ref b121), .val (.int (1 : Int32)), .val (.int (0 : Int32)), .val (.ref b145), .val (.int (1 : Int32)), .val (.int (1 : Int32)), .val (.int (1 : Int32))] [(.int (1 : Int32))]))
          refine Goes.st (fun t k => XS.goto X152.here hx rfl (pc0 := 236) (pc' := 240) rfl (hb hby at_236) (by decide) (by decide) k) ?_
          show Goes _ _ _ _ (T152.setTop (mkF m 240 #[.val (.int p0), .val (.int p1), .val (.int p2), .val (.ref b1), .val (.ref b9), .val (.ref b110), .val (.ref b121), .val (.int (1 : Int32)), .val (.int (0 : Int32)), .val (.ref b145), .val (.int (1 : Int32)), .val (.int (1 : Int32)), .val (.int (1 : Int32))] [(.int (1 : Int32))]))
          obtain ⟨fs, hr, hrun, hended, hRW⟩ := X152.leaveW hS114 (by rw [K152]; exact (Nat.le_trans (Nat.le_trans (Nat.le_trans (Nat.le_trans (Nat.le_refl _) E121.1) K123.1) E145.1) K149.1)) (v := some (.int (1 : Int32))) (fun h => by rw [Bd.returns] at h; cases h)
          subst hQQ
          have hCR : CHr Z EL s.vm s.heap T152.vm T152.heap := by rw [hh, K152]; exact CR150.trans (CHv.at X152 hZ114 (own_EW hw) CR150.1)
          refine ⟨_, _, retN X152 hx (t := .boolean) Bd.returns (by simp) (hb hby at_240) hr, hrun, hended, _, _, rfl, ?_, hCR, own_REmono hRW (by decide) (by decide)⟩
          show Q_law Z p0 p1 p2 G1 h0 n0 _ T152.heap _
          rw [K152]
          exact ⟨rfl, N152⟩
        case neg =>
          refine Goes.st (fun t k => XS.ifNo X123.here hx rfl (hb hby at_115) rfl ((if0 _ _).trans (feq c144).1) k) ?_
          show Goes _ _ _ _ (T123.setTop (mkF m 118 #[.val (.int p0), .val (.int p1), .val (.int p2), .val (.ref b1), .val (.ref b9), .val (.ref b110), .val (.ref b121), .val (.int (1 : Int32)), .unset, .unset, .unset, .unset, .unset] []))
          refine Goes.st (fun t k => XS.iconst X123.here hx rfl (hb hby at_118) k) ?_
          show Goes _ _ _ _ (T123.setTop (mkF m 119 #[.val (.int p0), .val (.int p1), .val (.int p2), .val (.ref b1), .val (.ref b9), .val (.ref b110), .val (.ref b121), .val (.int (1 : Int32)), .unset, .unset, .unset, .unset, .unset] [(.int (1 : Int32))]))
          refine Goes.st (fun t k => XS.goto X123.here hx rfl (pc0 := 119) (pc' := 123) rfl (hb hby at_119) (by decide) (by decide) k) ?_
          show Goes _ _ _ _ (T123.setTop (mkF m 123 #[.val (.int p0), .val (.int p1), .val (.int p2), .val (.ref b1), .val (.ref b9), .val (.ref b110), .val (.ref b121), .val (.int (1 : Int32)), .unset, .unset, .unset, .unset, .unset] [(.int (1 : Int32))]))
          refine Goes.st (fun t k => XS.istore X123.here hx rfl (hb hby at_123) rfl (l' := #[.val (.int p0), .val (.int p1), .val (.int p2), .val (.ref b1), .val (.ref b9), .val (.ref b110), .val (.ref b121), .val (.int (1 : Int32)), .val (.int (1 : Int32)), .unset, .unset, .unset, .unset]) rfl k) ?_
          show Goes _ _ _ _ (T123.setTop (mkF m 125 #[.val (.int p0), .val (.int p1), .val (.int p2), .val (.ref b1), .val (.ref b9), .val (.ref b110), .val (.ref b121), .val (.int (1 : Int32)), .val (.int (1 : Int32)), .unset, .unset, .unset, .unset] []))
          obtain ⟨T153, h153, X153, e153, E153, A153, D153, -, st153⟩ := newO X123 hx hZ114 hown114 (hw30 hw) (hw31 hw) (hw32 hw) rfl (g := (mkF m 125 #[.val (.int p0), .val (.int p1), .val (.int p2), .val (.ref b1), .val (.ref b9), .val (.ref b110), .val (.ref b121), .val (.int (1 : Int32)), .val (.int (1 : Int32)), .unset, .unset, .unset, .unset] [])) rfl (hb hby at_125) (by decide) (by decide)
          obtain ⟨b153, g153⟩ : ∃ z, z = T123.heap.size := ⟨_, rfl⟩
          rw [← g153] at A153 D153 st153
          have CR154 : CHr Z EL s.vm h0 T114.vm h153 := CR127.trans (CHr.ext E153 CR127.1)
          have sf154_b110 : Safe Z EL T114.vm h153 b110 := Safe.ext E153 CR127.1 sf127_b110
          have F153_reason : Fld Z h153 b153 "com/example/tenon/tenon/registry/Validity" "reason" "Ljava/lang/String;" .null := D153 (Or.inl (hw43 hw)) (ty := (.object "java/lang/String")) (by decide)
          refine Goes.st st153 ?_
          show Goes _ _ _ _ (T153.setTop (mkF m 128 #[.val (.int p0), .val (.int p1), .val (.int p2), .val (.ref b1), .val (.ref b9), .val (.ref b110), .val (.ref b121), .val (.int (1 : Int32)), .val (.int (1 : Int32)), .unset, .unset, .unset, .unset] [(.ref b153)]))
          refine Goes.st (fun t k => XS.dup X153.here hx rfl (hb hby at_128) rfl rfl k) ?_
          show Goes _ _ _ _ (T153.setTop (mkF m 129 #[.val (.int p0), .val (.int p1), .val (.int p2), .val (.ref b1), .val (.ref b9), .val (.ref b110), .val (.ref b121), .val (.int (1 : Int32)), .val (.int (1 : Int32)), .unset, .unset, .unset, .unset] [(.ref b153), (.ref b153)]))
          obtain ⟨_, _, ⟨T155, L155, k155, n155⟩, -, X155, ⟨Lc155, hQ155, l155, y155, z155⟩, st155⟩ := X153.specialBack hx (y := (⟨"com/example/tenon/tenon/registry/Validity", "<init>", "()V"⟩ : MethodName)) rfl hown114 (mvT hZ114 (hw33 hw)) (mvT hZ114 (hw34 hw)) (mvT hZ114 (hw35 hw)) (by decide) (backOf (W := 1) (rm_vinit l Z a0 hw [] b153 h153 n0 (Nat.le_trans Z0 (Nat.le_trans (Nat.le_trans (Nat.le_trans (Nat.le_trans (Nat.le_trans (Nat.le_trans (Nat.le_trans (Nat.le_trans (Nat.le_trans (Nat.le_trans E1.1 (Nat.le_of_eq W4.size.symm)) (Nat.le_of_eq W7.size.symm)) E9.1) (Nat.le_of_eq W12.size.symm)) E110.1) E112.1) K114.1) E121.1) K123.1) E153.1)) ) hZ114 (hw35 hw) (hw32 hw) (by decide) (by decide)) (g := (mkF m 129 #[.val (.int p0), .val (.int p1), .val (.int p2), .val (.ref b1), .val (.ref b9), .val (.ref b110), .val (.ref b121), .val (.int (1 : Int32)), .val (.int (1 : Int32)), .unset, .unset, .unset, .unset] [(.ref b153), (.ref b153)])) rfl (by rw [hml]; rfl) (Steps.refl _) (a := b153) (argsL := []) (rest := [(.ref b153)]) (lenOf pd_2 rfl) rfl (by show 2 * 0 + _ ≤ _; exact Nat.le_of_eq rfl) (hb hby at_129) (fun _ _ => ⟨rfl, e153, (by decide : 11 + 0 ≤ _), (by decide : 21 + 0 ≤ _)⟩)
          dsimp only [Pt.U, Pt.locs, Pt.cells, Pt.slots] at X155 l155 y155 z155 st155 hQ155
          subst l155 y155 z155
          obtain ⟨rfl, N155q, K155⟩ := hQ155
          have N155 := Fr.app N123 N155q
          refine Goes.tr st155 ?_
          show Goes _ _ _ _ (T155.setTop (mkF m 132 #[.val (.int p0), .val (.int p1), .val (.int p2), .val (.ref b1), .val (.ref b9), .val (.ref b110), .val (.ref b121), .val (.int (1 : Int32)), .val (.int (1 : Int32)), .unset, .unset, .unset, .unset] [(.ref b153)]))
          refine Goes.st (fun t k => XS.astore X155.here hx rfl (hb hby at_132) rfl rfl (l' := #[.val (.int p0), .val (.int p1), .val (.int p2), .val (.ref b1), .val (.ref b9), .val (.ref b110), .val (.ref b121), .val (.int (1 : Int32)), .val (.int (1 : Int32)), .val (.ref b153), .unset, .unset, .unset]) rfl k) ?_
          show Goes _ _ _ _ (T155.setTop (mkF m 134 #[.val (.int p0), .val (.int p1), .val (.int p2), .val (.ref b1), .val (.ref b9), .val (.ref b110), .val (.ref b121), .val (.int (1 : Int32)), .val (.int (1 : Int32)), .val (.ref b153), .unset, .unset, .unset] []))
          refine Goes.st (fun t k => XS.aload X155.here hx rfl (hb hby at_134) rfl rfl k) ?_
          show Goes _ _ _ _ (T155.setTop (mkF m 136 #[.val (.int p0), .val (.int p1), .val (.int p2), .val (.ref b1), .val (.ref b9), .val (.ref b110), .val (.ref b121), .val (.int (1 : Int32)), .val (.int (1 : Int32)), .val (.ref b153), .unset, .unset, .unset] [(.ref b153)]))
          obtain ⟨cq156, kq156, q156a, q156b, q156c⟩ := isOf hZ114 K155 A153
          obtain ⟨_, _, ⟨T156, L156, k156, n156⟩, -, X156, ⟨Lc156, hQ156, l156, y156, z156⟩, st156⟩ := X155.virtualBack hx (y := (⟨"com/example/tenon/tenon/registry/Validity", "isValid", "()Z"⟩ : MethodName)) (z := (⟨"com/example/tenon/tenon/registry/Validity", "isValid", "()Z"⟩ : MethodName)) hown114 (mvT hZ114 (hw37 hw)) (mvT hZ114 (hw38 hw)) (notFace_of_selects (args := #[]) (mvT hZ114 (hw40 hw))) (mvT hZ114 (hw40 hw)) (mvT hZ114 (hw39 hw)) (by decide) (backOf (W := 0) (rm_ivN l Z a0 hw [] b153 h153 n0 (Nat.le_trans Z0 (Nat.le_trans (Nat.le_trans (Nat.le_trans (Nat.le_trans (Nat.le_trans (Nat.le_trans (Nat.le_trans (Nat.le_trans (Nat.le_trans (Nat.le_trans E1.1 (Nat.le_of_eq W4.size.symm)) (Nat.le_of_eq W7.size.symm)) E9.1) (Nat.le_of_eq W12.size.symm)) E110.1) E112.1) K114.1) E121.1) K123.1) E153.1)) F153_reason) hZ114 (hw41 hw) (hw32 hw) (by decide) (by decide)) q156a q156c (g := (mkF m 136 #[.val (.int p0), .val (.int p1), .val (.int p2), .val (.ref b1), .val (.ref b9), .val (.ref b110), .val (.ref b121), .val (.int (1 : Int32)), .val (.int (1 : Int32)), .val (.ref b153), .unset, .unset, .unset] [(.ref b153)])) rfl (by rw [hml]; rfl) (Steps.refl _) (argsL := []) (rest := []) (lenOf pd_3 rfl) rfl (by show 2 * 0 + _ ≤ _; exact Nat.le_of_eq rfl) (hb hby at_136) (fun _ _ => ⟨rfl, K155, (by decide : 11 + 0 ≤ _), (by decide : 21 + 0 ≤ _)⟩)
          dsimp only [Pt.U, Pt.locs, Pt.cells, Pt.slots] at X156 l156 y156 z156 st156 hQ156
          subst l156 y156 z156
          obtain ⟨rfl, N156q, K156⟩ := hQ156
          have N156 := Fr.app N155 N156q
          refine Goes.tr st156 ?_
          show Goes _ _ _ _ (T156.setTop (mkF m 139 #[.val (.int p0), .val (.int p1), .val (.int p2), .val (.ref b1), .val (.ref b9), .val (.ref b110), .val (.ref b121), .val (.int (1 : Int32)), .val (.int (1 : Int32)), .val (.ref b153), .unset, .unset, .unset] [(.int (1 : Int32))]))
          refine Goes.st (fun t k => XS.istore X156.here hx rfl (hb hby at_139) rfl (l' := #[.val (.int p0), .val (.int p1), .val (.int p2), .val (.ref b1), .val (.ref b9), .val (.ref b110), .val (.ref b121), .val (.int (1 : Int32)), .val (.int (1 : Int32)), .val (.ref b153), .val (.int (1 : Int32)), .unset, .unset]) rfl k) ?_
          show Goes _ _ _ _ (T156.setTop (mkF m 141 #[.val (.int p0), .val (.int p1), .val (.int p2), .val (.ref b1), .val (.ref b9), .val (.ref b110), .val (.ref b121), .val (.int (1 : Int32)), .val (.int (1 : Int32)), .val (.ref b153), .val (.int (1 : Int32)), .unset, .unset] []))
          refine Goes.st (fun t k => XS.iload X156.here hx rfl (hb hby at_141) rfl k) ?_
          show Goes _ _ _ _ (T156.setTop (mkF m 143 #[.val (.int p0), .val (.int p1), .val (.int p2), .val (.ref b1), .val (.ref b9), .val (.ref b110), .val (.ref b121), .val (.int (1 : Int32)), .val (.int (1 : Int32)), .val (.ref b153), .val (.int (1 : Int32)), .unset, .unset] [(.int (1 : Int32))]))
          refine Goes.st (fun t k => XS.ifNo X156.here hx rfl (hb hby at_143) rfl ((if0 _ _).trans (feq (by decide : ¬ ((1 : Int32) = (0 : Int32)))).1) k) ?_
          show Goes _ _ _ _ (T156.setTop (mkF m 146 #[.val (.int p0), .val (.int p1), .val (.int p2), .val (.ref b1), .val (.ref b9), .val (.ref b110), .val (.ref b121), .val (.int (1 : Int32)), .val (.int (1 : Int32)), .val (.ref b153), .val (.int (1 : Int32)), .unset, .unset] []))
          refine Goes.st (fun t k => XS.aload X156.here hx rfl (hb hby at_146) rfl rfl k) ?_
          show Goes _ _ _ _ (T156.setTop (mkF m 148 #[.val (.int p0), .val (.int p1), .val (.int p2), .val (.ref b1), .val (.ref b9), .val (.ref b110), .val (.ref b121), .val (.int (1 : Int32)), .val (.int (1 : Int32)), .val (.ref b153), .val (.int (1 : Int32)), .unset, .unset] [(.ref b153)]))
          refine Goes.st (fun t k => XS.aload X156.here hx rfl (hb hby at_148) rfl rfl k) ?_
          show Goes _ _ _ _ (T156.setTop (mkF m 150 #[.val (.int p0), .val (.int p1), .val (.int p2), .val (.ref b1), .val (.ref b9), .val (.ref b110), .val (.ref b121), .val (.int (1 : Int32)), .val (.int (1 : Int32)), .val (.ref b153), .val (.int (1 : Int32)), .unset, .unset] [(.ref b110), (.ref b153)]))
          obtain ⟨cq157, kq157, q157a, q157b, q157c⟩ := isOf hZ114 K156 A153
          obtain ⟨_, _, ⟨T157, L157, k157, n157⟩, -, X157, ⟨Lc157, hQ157, l157, y157, z157⟩, st157⟩ := X156.virtualBack hx (y := (⟨"com/example/tenon/tenon/registry/Validity", "invalidate", "(Ljava/lang/String;)V"⟩ : MethodName)) (z := (⟨"com/example/tenon/tenon/registry/Validity", "invalidate", "(Ljava/lang/String;)V"⟩ : MethodName)) hown114 (mvT hZ114 (hw44 hw)) (mvT hZ114 (hw45 hw)) (notFace_of_selects (args := #[]) (mvT hZ114 (hw47 hw))) (mvT hZ114 (hw47 hw)) (mvT hZ114 (hw46 hw)) (by decide) (backOf (W := 0) (rm_inv l Z a0 hw [] b153 b110 (Value.null) h153 n0 (Nat.le_trans Z0 (Nat.le_trans (Nat.le_trans (Nat.le_trans (Nat.le_trans (Nat.le_trans (Nat.le_trans (Nat.le_trans (Nat.le_trans (Nat.le_trans (Nat.le_trans E1.1 (Nat.le_of_eq W4.size.symm)) (Nat.le_of_eq W7.size.symm)) E9.1) (Nat.le_of_eq W12.size.symm)) E110.1) E112.1) K114.1) E121.1) K123.1) E153.1)) A153 F153_reason (Nat.le_trans Z0 (Nat.le_trans (Nat.le_trans (Nat.le_trans (Nat.le_trans (Nat.le_trans (Nat.le_trans (Nat.le_trans (Nat.le_trans (Nat.le_trans (Nat.le_trans E1.1 (Nat.le_of_eq W4.size.symm)) (Nat.le_of_eq W7.size.symm)) E9.1) (Nat.le_of_eq W12.size.symm)) E110.1) E112.1) K114.1) E121.1) K123.1) (Nat.le_of_eq g153.symm)))) hZ114 (hw48 hw) (hw32 hw) (by decide) (by decide)) q157a q157c (g := (mkF m 150 #[.val (.int p0), .val (.int p1), .val (.int p2), .val (.ref b1), .val (.ref b9), .val (.ref b110), .val (.ref b121), .val (.int (1 : Int32)), .val (.int (1 : Int32)), .val (.ref b153), .val (.int (1 : Int32)), .unset, .unset] [(.ref b110), (.ref b153)])) rfl (by rw [hml]; rfl) (Steps.refl _) (argsL := [(.ref b110)]) (rest := []) (lenOf pd_4 rfl) rfl (by show 2 * 0 + _ ≤ _; exact Nat.le_of_eq rfl) (hb hby at_150) (fun _ _ => ⟨rfl, K156, (by decide : 11 + 0 ≤ _), (by decide : 21 + 0 ≤ _)⟩)
          dsimp only [Pt.U, Pt.locs, Pt.cells, Pt.slots] at X157 l157 y157 z157 st157 hQ157
          subst l157 y157 z157
          obtain ⟨rfl, N157q, K157, F157_0, F157_1⟩ := hQ157
          have N157 := Fr.app N156 N157q
          have hs158 : ∀ x ∈ ([b153] : List Addr), Safe Z EL T114.vm h153 x := (allS (Safe.exa hZ114.alike A153 (by decide) (by decide)) all0)
          have CR158 : CHr Z EL s.vm h0 T114.vm T157.heap := CR154.trans (CHr.keep K157 hs158 CR154.1)
          have sf158_b110 : Safe Z EL T114.vm T157.heap b110 := Safe.keep K157 hs158 CR154.1 sf154_b110
          refine Goes.tr st157 ?_
          show Goes _ _ _ _ (T157.setTop (mkF m 153 #[.val (.int p0), .val (.int p1), .val (.int p2), .val (.ref b1), .val (.ref b9), .val (.ref b110), .val (.ref b121), .val (.int (1 : Int32)), .val (.int (1 : Int32)), .val (.ref b153), .val (.int (1 : Int32)), .unset, .unset] []))
          refine Goes.st (fun t k => XS.aload X157.here hx rfl (hb hby at_153) rfl rfl k) ?_
          show Goes _ _ _ _ (T157.setTop (mkF m 155 #[.val (.int p0), .val (.int p1), .val (.int p2), .val (.ref b1), .val (.ref b9), .val (.ref b110), .val (.ref b121), .val (.int (1 : Int32)), .val (.int (1 : Int32)), .val (.ref b153), .val (.int (1 : Int32)), .unset, .unset] [(.ref b153)]))
          obtain ⟨cq159, kq159, q159a, q159b, q159c⟩ := isOf hZ114 rfl F157_0
          obtain ⟨_, _, ⟨T159, L159, k159, n159⟩, -, X159, ⟨Lc159, hQ159, l159, y159, z159⟩, st159⟩ := X157.virtualBack hx (y := (⟨"com/example/tenon/tenon/registry/Validity", "isValid", "()Z"⟩ : MethodName)) (z := (⟨"com/example/tenon/tenon/registry/Validity", "isValid", "()Z"⟩ : MethodName)) hown114 (mvT hZ114 (hw37 hw)) (mvT hZ114 (hw38 hw)) (notFace_of_selects (args := #[]) (mvT hZ114 (hw40 hw))) (mvT hZ114 (hw40 hw)) (mvT hZ114 (hw39 hw)) (by decide) (backOf (W := 0) (rm_ivR l Z a0 hw [] b153 b110 T157.heap n0 (Nat.le_trans Z0 (Nat.le_trans (Nat.le_trans (Nat.le_trans (Nat.le_trans (Nat.le_trans (Nat.le_trans (Nat.le_trans (Nat.le_trans (Nat.le_trans (Nat.le_trans (Nat.le_trans E1.1 (Nat.le_of_eq W4.size.symm)) (Nat.le_of_eq W7.size.symm)) E9.1) (Nat.le_of_eq W12.size.symm)) E110.1) E112.1) K114.1) E121.1) K123.1) E153.1) K157.1)) F157_1) hZ114 (hw41 hw) (hw32 hw) (by decide) (by decide)) q159a q159c (g := (mkF m 155 #[.val (.int p0), .val (.int p1), .val (.int p2), .val (.ref b1), .val (.ref b9), .val (.ref b110), .val (.ref b121), .val (.int (1 : Int32)), .val (.int (1 : Int32)), .val (.ref b153), .val (.int (1 : Int32)), .unset, .unset] [(.ref b153)])) rfl (by rw [hml]; rfl) (Steps.refl _) (argsL := []) (rest := []) (lenOf pd_3 rfl) rfl (by show 2 * 0 + _ ≤ _; exact Nat.le_of_eq rfl) (hb hby at_155) (fun _ _ => ⟨rfl, rfl, (by decide : 11 + 0 ≤ _), (by decide : 21 + 0 ≤ _)⟩)
          dsimp only [Pt.U, Pt.locs, Pt.cells, Pt.slots] at X159 l159 y159 z159 st159 hQ159
          subst l159 y159 z159
          obtain ⟨rfl, N159q, K159⟩ := hQ159
          have N159 := Fr.app N157 N159q
          refine Goes.tr st159 ?_
          show Goes _ _ _ _ (T159.setTop (mkF m 158 #[.val (.int p0), .val (.int p1), .val (.int p2), .val (.ref b1), .val (.ref b9), .val (.ref b110), .val (.ref b121), .val (.int (1 : Int32)), .val (.int (1 : Int32)), .val (.ref b153), .val (.int (1 : Int32)), .unset, .unset] [(.int (0 : Int32))]))
          refine Goes.st (fun t k => XS.iload X159.here hx rfl (hb hby at_158) rfl k) ?_
          show Goes _ _ _ _ (T159.setTop (mkF m 160 #[.val (.int p0), .val (.int p1), .val (.int p2), .val (.ref b1), .val (.ref b9), .val (.ref b110), .val (.ref b121), .val (.int (1 : Int32)), .val (.int (1 : Int32)), .val (.ref b153), .val (.int (1 : Int32)), .unset, .unset] [(.int (1 : Int32)), (.int (0 : Int32))]))
          refine Goes.st (fun t k => XS.ifYes X159.here hx rfl (pc0 := 160) (pc' := 167) rfl (hb hby at_160) rfl ((if0 _ _).trans (feq (by decide : ¬ ((1 : Int32) = (0 : Int32)))).2) (by decide) (by decide) k) ?_
          show Goes _ _ _ _ (T159.setTop (mkF m 167 #[.val (.int p0), .val (.int p1), .val (.int p2), .val (.ref b1), .val (.ref b9), .val (.ref b110), .val (.ref b121), .val (.int (1 : Int32)), .val (.int (1 : Int32)), .val (.ref b153), .val (.int (1 : Int32)), .unset, .unset] [(.int (0 : Int32))]))
          refine Goes.st (fun t k => XS.iconst X159.here hx rfl (hb hby at_167) k) ?_
          show Goes _ _ _ _ (T159.setTop (mkF m 168 #[.val (.int p0), .val (.int p1), .val (.int p2), .val (.ref b1), .val (.ref b9), .val (.ref b110), .val (.ref b121), .val (.int (1 : Int32)), .val (.int (1 : Int32)), .val (.ref b153), .val (.int (1 : Int32)), .unset, .unset] [(.int (0 : Int32)), (.int (0 : Int32))]))
          refine Goes.st (fun t k => XS.icmpNo X159.here hx rfl (hb hby at_168) rfl (teq (by decide : (0 : Int32) = (0 : Int32))).2 k) ?_
          show Goes _ _ _ _ (T159.setTop (mkF m 171 #[.val (.int p0), .val (.int p1), .val (.int p2), .val (.ref b1), .val (.ref b9), .val (.ref b110), .val (.ref b121), .val (.int (1 : Int32)), .val (.int (1 : Int32)), .val (.ref b153), .val (.int (1 : Int32)), .unset, .unset] []))
          refine Goes.st (fun t k => XS.iconst X159.here hx rfl (hb hby at_171) k) ?_
          show Goes _ _ _ _ (T159.setTop (mkF m 172 #[.val (.int p0), .val (.int p1), .val (.int p2), .val (.ref b1), .val (.ref b9), .val (.ref b110), .val (.ref b121), .val (.int (1 : Int32)), .val (.int (1 : Int32)), .val (.ref b153), .val (.int (1 : Int32)), .unset, .unset] [(.int (1 : Int32))]))
          refine Goes.st (fun t k => XS.goto X159.here hx rfl (pc0 := 172) (pc' := 176) rfl (hb hby at_172) (by decide) (by decide) k) ?_
          show Goes _ _ _ _ (T159.setTop (mkF m 176 #[.val (.int p0), .val (.int p1), .val (.int p2), .val (.ref b1), .val (.ref b9), .val (.ref b110), .val (.ref b121), .val (.int (1 : Int32)), .val (.int (1 : Int32)), .val (.ref b153), .val (.int (1 : Int32)), .unset, .unset] [(.int (1 : Int32))]))
          refine Goes.st (fun t k => XS.istore X159.here hx rfl (hb hby at_176) rfl (l' := #[.val (.int p0), .val (.int p1), .val (.int p2), .val (.ref b1), .val (.ref b9), .val (.ref b110), .val (.ref b121), .val (.int (1 : Int32)), .val (.int (1 : Int32)), .val (.ref b153), .val (.int (1 : Int32)), .val (.int (1 : Int32)), .unset]) rfl k) ?_
          show Goes _ _ _ _ (T159.setTop (mkF m 178 #[.val (.int p0), .val (.int p1), .val (.int p2), .val (.ref b1), .val (.ref b9), .val (.ref b110), .val (.ref b121), .val (.int (1 : Int32)), .val (.int (1 : Int32)), .val (.ref b153), .val (.int (1 : Int32)), .val (.int (1 : Int32)), .unset] []))
          refine Goes.st (fun t k => XS.iload X159.here hx rfl (hb hby at_178) rfl k) ?_
          show Goes _ _ _ _ (T159.setTop (mkF m 180 #[.val (.int p0), .val (.int p1), .val (.int p2), .val (.ref b1), .val (.ref b9), .val (.ref b110), .val (.ref b121), .val (.int (1 : Int32)), .val (.int (1 : Int32)), .val (.ref b153), .val (.int (1 : Int32)), .val (.int (1 : Int32)), .unset] [(.int (1 : Int32))]))
          refine Goes.st (fun t k => XS.ifNo X159.here hx rfl (hb hby at_180) rfl ((if0 _ _).trans (feq (by decide : ¬ ((1 : Int32) = (0 : Int32)))).1) k) ?_
          show Goes _ _ _ _ (T159.setTop (mkF m 183 #[.val (.int p0), .val (.int p1), .val (.int p2), .val (.ref b1), .val (.ref b9), .val (.ref b110), .val (.ref b121), .val (.int (1 : Int32)), .val (.int (1 : Int32)), .val (.ref b153), .val (.int (1 : Int32)), .val (.int (1 : Int32)), .unset] []))
          refine Goes.st (fun t k => XS.aload X159.here hx rfl (hb hby at_183) rfl rfl k) ?_
          show Goes _ _ _ _ (T159.setTop (mkF m 185 #[.val (.int p0), .val (.int p1), .val (.int p2), .val (.ref b1), .val (.ref b9), .val (.ref b110), .val (.ref b121), .val (.int (1 : Int32)), .val (.int (1 : Int32)), .val (.ref b153), .val (.int (1 : Int32)), .val (.int (1 : Int32)), .unset] [(.ref b153)]))
          refine Goes.st (fun t k => XS.aload X159.here hx rfl (hb hby at_185) rfl rfl k) ?_
          show Goes _ _ _ _ (T159.setTop (mkF m 187 #[.val (.int p0), .val (.int p1), .val (.int p2), .val (.ref b1), .val (.ref b9), .val (.ref b110), .val (.ref b121), .val (.int (1 : Int32)), .val (.int (1 : Int32)), .val (.ref b153), .val (.int (1 : Int32)), .val (.int (1 : Int32)), .unset] [(.ref b121), (.ref b153)]))
          obtain ⟨cq160, kq160, q160a, q160b, q160c⟩ := isOf hZ114 K159 F157_0
          obtain ⟨_, _, ⟨T160, L160, k160, n160⟩, -, X160, ⟨Lc160, hQ160, l160, y160, z160⟩, st160⟩ := X159.virtualBack hx (y := (⟨"com/example/tenon/tenon/registry/Validity", "invalidate", "(Ljava/lang/String;)V"⟩ : MethodName)) (z := (⟨"com/example/tenon/tenon/registry/Validity", "invalidate", "(Ljava/lang/String;)V"⟩ : MethodName)) hown114 (mvT hZ114 (hw44 hw)) (mvT hZ114 (hw45 hw)) (notFace_of_selects (args := #[]) (mvT hZ114 (hw47 hw))) (mvT hZ114 (hw47 hw)) (mvT hZ114 (hw46 hw)) (by decide) (backOf (W := 0) (rm_inv l Z a0 hw [] b153 b121 (Value.ref b110) T157.heap n0 (Nat.le_trans Z0 (Nat.le_trans (Nat.le_trans (Nat.le_trans (Nat.le_trans (Nat.le_trans (Nat.le_trans (Nat.le_trans (Nat.le_trans (Nat.le_trans (Nat.le_trans (Nat.le_trans E1.1 (Nat.le_of_eq W4.size.symm)) (Nat.le_of_eq W7.size.symm)) E9.1) (Nat.le_of_eq W12.size.symm)) E110.1) E112.1) K114.1) E121.1) K123.1) E153.1) K157.1)) F157_0 F157_1 (Nat.le_trans Z0 (Nat.le_trans (Nat.le_trans (Nat.le_trans (Nat.le_trans (Nat.le_trans (Nat.le_trans (Nat.le_trans (Nat.le_trans (Nat.le_trans (Nat.le_trans E1.1 (Nat.le_of_eq W4.size.symm)) (Nat.le_of_eq W7.size.symm)) E9.1) (Nat.le_of_eq W12.size.symm)) E110.1) E112.1) K114.1) E121.1) K123.1) (Nat.le_of_eq g153.symm)))) hZ114 (hw48 hw) (hw32 hw) (by decide) (by decide)) q160a q160c (g := (mkF m 187 #[.val (.int p0), .val (.int p1), .val (.int p2), .val (.ref b1), .val (.ref b9), .val (.ref b110), .val (.ref b121), .val (.int (1 : Int32)), .val (.int (1 : Int32)), .val (.ref b153), .val (.int (1 : Int32)), .val (.int (1 : Int32)), .unset] [(.ref b121), (.ref b153)])) rfl (by rw [hml]; rfl) (Steps.refl _) (argsL := [(.ref b121)]) (rest := []) (lenOf pd_4 rfl) rfl (by show 2 * 0 + _ ≤ _; exact Nat.le_of_eq rfl) (hb hby at_187) (fun _ _ => ⟨rfl, K159, (by decide : 11 + 0 ≤ _), (by decide : 21 + 0 ≤ _)⟩)
          dsimp only [Pt.U, Pt.locs, Pt.cells, Pt.slots] at X160 l160 y160 z160 st160 hQ160
          subst l160 y160 z160
          obtain ⟨rfl, N160q, K160, F160_0, F160_1⟩ := hQ160
          have N160 := Fr.app N159 N160q
          have hs161 : ∀ x ∈ ([b153] : List Addr), Safe Z EL T114.vm T157.heap x := (allS (Safe.exa hZ114.alike F157_0 (by decide) (by decide)) all0)
          have CR161 : CHr Z EL s.vm h0 T114.vm T160.heap := CR158.trans (CHr.keep K160 hs161 CR158.1)
          have sf161_b110 : Safe Z EL T114.vm T160.heap b110 := Safe.keep K160 hs161 CR158.1 sf158_b110
          refine Goes.tr st160 ?_
          show Goes _ _ _ _ (T160.setTop (mkF m 190 #[.val (.int p0), .val (.int p1), .val (.int p2), .val (.ref b1), .val (.ref b9), .val (.ref b110), .val (.ref b121), .val (.int (1 : Int32)), .val (.int (1 : Int32)), .val (.ref b153), .val (.int (1 : Int32)), .val (.int (1 : Int32)), .unset] []))
          refine Goes.st (fun t k => XS.aload X160.here hx rfl (hb hby at_190) rfl rfl k) ?_
          show Goes _ _ _ _ (T160.setTop (mkF m 192 #[.val (.int p0), .val (.int p1), .val (.int p2), .val (.ref b1), .val (.ref b9), .val (.ref b110), .val (.ref b121), .val (.int (1 : Int32)), .val (.int (1 : Int32)), .val (.ref b153), .val (.int (1 : Int32)), .val (.int (1 : Int32)), .unset] [(.ref b153)]))
          obtain ⟨cq162, kq162, q162a, q162b, q162c⟩ := isOf hZ114 rfl F160_0
          obtain ⟨_, _, ⟨T162, L162, k162, n162⟩, -, X162, ⟨Lc162, hQ162, l162, y162, z162⟩, st162⟩ := X160.virtualBack hx (y := (⟨"com/example/tenon/tenon/registry/Validity", "isValid", "()Z"⟩ : MethodName)) (z := (⟨"com/example/tenon/tenon/registry/Validity", "isValid", "()Z"⟩ : MethodName)) hown114 (mvT hZ114 (hw37 hw)) (mvT hZ114 (hw38 hw)) (notFace_of_selects (args := #[]) (mvT hZ114 (hw40 hw))) (mvT hZ114 (hw40 hw)) (mvT hZ114 (hw39 hw)) (by decide) (backOf (W := 0) (rm_ivR l Z a0 hw [] b153 b121 T160.heap n0 (Nat.le_trans Z0 (Nat.le_trans (Nat.le_trans (Nat.le_trans (Nat.le_trans (Nat.le_trans (Nat.le_trans (Nat.le_trans (Nat.le_trans (Nat.le_trans (Nat.le_trans (Nat.le_trans (Nat.le_trans E1.1 (Nat.le_of_eq W4.size.symm)) (Nat.le_of_eq W7.size.symm)) E9.1) (Nat.le_of_eq W12.size.symm)) E110.1) E112.1) K114.1) E121.1) K123.1) E153.1) K157.1) K160.1)) F160_1) hZ114 (hw41 hw) (hw32 hw) (by decide) (by decide)) q162a q162c (g := (mkF m 192 #[.val (.int p0), .val (.int p1), .val (.int p2), .val (.ref b1), .val (.ref b9), .val (.ref b110), .val (.ref b121), .val (.int (1 : Int32)), .val (.int (1 : Int32)), .val (.ref b153), .val (.int (1 : Int32)), .val (.int (1 : Int32)), .unset] [(.ref b153)])) rfl (by rw [hml]; rfl) (Steps.refl _) (argsL := []) (rest := []) (lenOf pd_3 rfl) rfl (by show 2 * 0 + _ ≤ _; exact Nat.le_of_eq rfl) (hb hby at_192) (fun _ _ => ⟨rfl, rfl, (by decide : 11 + 0 ≤ _), (by decide : 21 + 0 ≤ _)⟩)
          dsimp only [Pt.U, Pt.locs, Pt.cells, Pt.slots] at X162 l162 y162 z162 st162 hQ162
          subst l162 y162 z162
          obtain ⟨rfl, N162q, K162⟩ := hQ162
          have N162 := Fr.app N160 N162q
          refine Goes.tr st162 ?_
          show Goes _ _ _ _ (T162.setTop (mkF m 195 #[.val (.int p0), .val (.int p1), .val (.int p2), .val (.ref b1), .val (.ref b9), .val (.ref b110), .val (.ref b121), .val (.int (1 : Int32)), .val (.int (1 : Int32)), .val (.ref b153), .val (.int (1 : Int32)), .val (.int (1 : Int32)), .unset] [(.int (0 : Int32))]))
          refine Goes.st (fun t k => XS.iload X162.here hx rfl (hb hby at_195) rfl k) ?_
          show Goes _ _ _ _ (T162.setTop (mkF m 197 #[.val (.int p0), .val (.int p1), .val (.int p2), .val (.ref b1), .val (.ref b9), .val (.ref b110), .val (.ref b121), .val (.int (1 : Int32)), .val (.int (1 : Int32)), .val (.ref b153), .val (.int (1 : Int32)), .val (.int (1 : Int32)), .unset] [(.int (1 : Int32)), (.int (0 : Int32))]))
          refine Goes.st (fun t k => XS.ifYes X162.here hx rfl (pc0 := 197) (pc' := 209) rfl (hb hby at_197) rfl ((if0 _ _).trans (feq (by decide : ¬ ((1 : Int32) = (0 : Int32)))).2) (by decide) (by decide) k) ?_
          show Goes _ _ _ _ (T162.setTop (mkF m 209 #[.val (.int p0), .val (.int p1), .val (.int p2), .val (.ref b1), .val (.ref b9), .val (.ref b110), .val (.ref b121), .val (.int (1 : Int32)), .val (.int (1 : Int32)), .val (.ref b153), .val (.int (1 : Int32)), .val (.int (1 : Int32)), .unset] [(.int (0 : Int32))]))
          refine Goes.st (fun t k => XS.iconst X162.here hx rfl (hb hby at_209) k) ?_
          show Goes _ _ _ _ (T162.setTop (mkF m 210 #[.val (.int p0), .val (.int p1), .val (.int p2), .val (.ref b1), .val (.ref b9), .val (.ref b110), .val (.ref b121), .val (.int (1 : Int32)), .val (.int (1 : Int32)), .val (.ref b153), .val (.int (1 : Int32)), .val (.int (1 : Int32)), .unset] [(.int (0 : Int32)), (.int (0 : Int32))]))
          refine Goes.st (fun t k => XS.icmpNo X162.here hx rfl (hb hby at_210) rfl (teq (by decide : (0 : Int32) = (0 : Int32))).2 k) ?_
          show Goes _ _ _ _ (T162.setTop (mkF m 213 #[.val (.int p0), .val (.int p1), .val (.int p2), .val (.ref b1), .val (.ref b9), .val (.ref b110), .val (.ref b121), .val (.int (1 : Int32)), .val (.int (1 : Int32)), .val (.ref b153), .val (.int (1 : Int32)), .val (.int (1 : Int32)), .unset] []))
          refine Goes.st (fun t k => XS.iconst X162.here hx rfl (hb hby at_213) k) ?_
          show Goes _ _ _ _ (T162.setTop (mkF m 214 #[.val (.int p0), .val (.int p1), .val (.int p2), .val (.ref b1), .val (.ref b9), .val (.ref b110), .val (.ref b121), .val (.int (1 : Int32)), .val (.int (1 : Int32)), .val (.ref b153), .val (.int (1 : Int32)), .val (.int (1 : Int32)), .unset] [(.int (1 : Int32))]))
          refine Goes.st (fun t k => XS.goto X162.here hx rfl (pc0 := 214) (pc' := 218) rfl (hb hby at_214) (by decide) (by decide) k) ?_
          show Goes _ _ _ _ (T162.setTop (mkF m 218 #[.val (.int p0), .val (.int p1), .val (.int p2), .val (.ref b1), .val (.ref b9), .val (.ref b110), .val (.ref b121), .val (.int (1 : Int32)), .val (.int (1 : Int32)), .val (.ref b153), .val (.int (1 : Int32)), .val (.int (1 : Int32)), .unset] [(.int (1 : Int32))]))
          refine Goes.st (fun t k => XS.istore X162.here hx rfl (hb hby at_218) rfl (l' := #[.val (.int p0), .val (.int p1), .val (.int p2), .val (.ref b1), .val (.ref b9), .val (.ref b110), .val (.ref b121), .val (.int (1 : Int32)), .val (.int (1 : Int32)), .val (.ref b153), .val (.int (1 : Int32)), .val (.int (1 : Int32)), .val (.int (1 : Int32))]) rfl k) ?_
          show Goes _ _ _ _ (T162.setTop (mkF m 220 #[.val (.int p0), .val (.int p1), .val (.int p2), .val (.ref b1), .val (.ref b9), .val (.ref b110), .val (.ref b121), .val (.int (1 : Int32)), .val (.int (1 : Int32)), .val (.ref b153), .val (.int (1 : Int32)), .val (.int (1 : Int32)), .val (.int (1 : Int32))] []))
          refine Goes.st (fun t k => XS.iload X162.here hx rfl (hb hby at_220) rfl k) ?_
          show Goes _ _ _ _ (T162.setTop (mkF m 222 #[.val (.int p0), .val (.int p1), .val (.int p2), .val (.ref b1), .val (.ref b9), .val (.ref b110), .val (.ref b121), .val (.int (1 : Int32)), .val (.int (1 : Int32)), .val (.ref b153), .val (.int (1 : Int32)), .val (.int (1 : Int32)), .val (.int (1 : Int32))] [(.int (1 : Int32))]))
          refine Goes.st (fun t k => XS.ifNo X162.here hx rfl (hb hby at_222) rfl ((if0 _ _).trans (feq (by decide : ¬ ((1 : Int32) = (0 : Int32)))).1) k) ?_
          show Goes _ _ _ _ (T162.setTop (mkF m 225 #[.val (.int p0), .val (.int p1), .val (.int p2), .val (.ref b1), .val (.ref b9), .val (.ref b110), .val (.ref b121), .val (.int (1 : Int32)), .val (.int (1 : Int32)), .val (.ref b153), .val (.int (1 : Int32)), .val (.int (1 : Int32)), .val (.int (1 : Int32))] []))
          refine Goes.st (fun t k => XS.iload X162.here hx rfl (hb hby at_225) rfl k) ?_
          show Goes _ _ _ _ (T162.setTop (mkF m 227 #[.val (.int p0), .val (.int p1), .val (.int p2), .val (.ref b1), .val (.ref b9), .val (.ref b110), .val (.ref b121), .val (.int (1 : Int32)), .val (.int (1 : Int32)), .val (.ref b153), .val (.int (1 : Int32)), .val (.int (1 : Int32)), .val (.int (1 : Int32))] [(.int (1 : Int32))]))
          refine Goes.st (fun t k => XS.ifNo X162.here hx rfl (hb hby at_227) rfl ((if0 _ _).trans (feq (by decide : ¬ ((1 : Int32) = (0 : Int32)))).1) k) ?_
          show Goes _ _ _ _ (T162.setTop (mkF m 230 #[.val (.int p0), .val (.int p1), .val (.int p2), .val (.ref b1), .val (.ref b9), .val (.ref b110), .val (.ref b121), .val (.int (1 : Int32)), .val (.int (1 : Int32)), .val (.ref b153), .val (.int (1 : Int32)), .val (.int (1 : Int32)), .val (.int (1 : Int32))] []))
          refine Goes.st (fun t k => XS.iload X162.here hx rfl (hb hby at_230) rfl k) ?_
          show Goes _ _ _ _ (T162.setTop (mkF m 232 #[.val (.int p0), .val (.int p1), .val (.int p2), .val (.ref b1), .val (.ref b9), .val (.ref b110), .val (.ref b121), .val (.int (1 : Int32)), .val (.int (1 : Int32)), .val (.ref b153), .val (.int (1 : Int32)), .val (.int (1 : Int32)), .val (.int (1 : Int32))] [(.int (1 : Int32))]))
          refine Goes.st (fun t k => XS.ifNo X162.here hx rfl (hb hby at_232) rfl ((if0 _ _).trans (feq (by decide : ¬ ((1 : Int32) = (0 : Int32)))).1) k) ?_
          show Goes _ _ _ _ (T162.setTop (mkF m 235 #[.val (.int p0), .val (.int p1), .val (.int p2), .val (.ref b1), .val (.ref b9), .val (.ref b110), .val (.ref b121), .val (.int (1 : Int32)), .val (.int (1 : Int32)), .val (.ref b153), .val (.int (1 : Int32)), .val (.int (1 : Int32)), .val (.int (1 : Int32))] []))
          refine Goes.st (fun t k => XS.iconst X162.here hx rfl (hb hby at_235) k) ?_
          show Goes _ _ _ _ (T162.setTop (mkF m 236 #[.val (.int p0), .val (.int p1), .val (.int p2), .val (.ref b1), .val (.ref b9), .val (.ref b110), .val (.ref b121), .val (.int (1 : Int32)), .val (.int (1 : Int32)), .val (.ref b153), .val (.int (1 : Int32)), .val (.int (1 : Int32)), .val (.int (1 : Int32))] [(.int (1 : Int32))]))
          refine Goes.st (fun t k => XS.goto X162.here hx rfl (pc0 := 236) (pc' := 240) rfl (hb hby at_236) (by decide) (by decide) k) ?_
          show Goes _ _ _ _ (T162.setTop (mkF m 240 #[.val (.int p0), .val (.int p1), .val (.int p2), .val (.ref b1), .val (.ref b9), .val (.ref b110), .val (.ref b121), .val (.int (1 : Int32)), .val (.int (1 : Int32)), .val (.ref b153), .val (.int (1 : Int32)), .val (.int (1 : Int32)), .val (.int (1 : Int32))] [(.int (1 : Int32))]))
          obtain ⟨fs, hr, hrun, hended, hRW⟩ := X162.leaveW hS114 (by rw [K162]; exact (Nat.le_trans (Nat.le_trans (Nat.le_trans (Nat.le_trans (Nat.le_trans (Nat.le_refl _) E121.1) K123.1) E153.1) K157.1) K160.1)) (v := some (.int (1 : Int32))) (fun h => by rw [Bd.returns] at h; cases h)
          subst hQQ
          have hCR : CHr Z EL s.vm s.heap T162.vm T162.heap := by rw [hh, K162]; exact CR161.trans (CHv.at X162 hZ114 (own_EW hw) CR161.1)
          refine ⟨_, _, retN X162 hx (t := .boolean) Bd.returns (by simp) (hb hby at_240) hr, hrun, hended, _, _, rfl, ?_, hCR, own_REmono hRW (by decide) (by decide)⟩
          show Q_law Z p0 p1 p2 G1 h0 n0 _ T162.heap _
          rw [K162]
          exact ⟨rfl, N162⟩
    case neg =>
      refine Goes.st (fun t k => XS.ifNo X114.here hx rfl (hb hby at_72) rfl ((if0 _ _).trans (feq c120).1) k) ?_
      show Goes _ _ _ _ (T114.setTop (mkF m 75 #[.val (.int p0), .val (.int p1), .val (.int p2), .val (.ref b1), .val (.ref b9), .val (.ref b110), .unset, .unset, .unset, .unset, .unset, .unset, .unset] []))
      obtain ⟨T163, h163, X163, e163, E163, A163, D163, -, st163⟩ := newO X114 hx hZ114 hown114 (hw1 hw) (hw2 hw) (hw3 hw) rfl (g := (mkF m 75 #[.val (.int p0), .val (.int p1), .val (.int p2), .val (.ref b1), .val (.ref b9), .val (.ref b110), .unset, .unset, .unset, .unset, .unset, .unset, .unset] [])) rfl (hb hby at_75) (by decide) (by decide)
      obtain ⟨b163, g163⟩ : ∃ z, z = T114.heap.size := ⟨_, rfl⟩
      rw [← g163] at A163 D163 st163
      have CR164 : CHr Z EL s.vm h0 T114.vm h163 := CR119.trans (CHr.ext E163 CR119.1)
      have sf164_b110 : Safe Z EL T114.vm h163 b110 := Safe.ext E163 CR119.1 sf119_b110
      have sf163_b163 : Safe Z EL T114.vm h163 b163 := Safe.ext E163 CR119.1 (Safe.new (Nat.le_of_eq g163.symm))
      have F163_coder : Fld Z h163 b163 "java/lang/String" "coder" "B" (.int (0 : Int32)) := D163 (Or.inr (hw27 hw)) (ty := .byte) (by decide)
      have F163_value : Fld Z h163 b163 "java/lang/String" "value" "[B" .null := D163 (Or.inr (hw29 hw)) (ty := (.array .byte)) (by decide)
      refine Goes.st st163 ?_
      show Goes _ _ _ _ (T163.setTop (mkF m 78 #[.val (.int p0), .val (.int p1), .val (.int p2), .val (.ref b1), .val (.ref b9), .val (.ref b110), .unset, .unset, .unset, .unset, .unset, .unset, .unset] [(.ref b163)]))
      refine Goes.st (fun t k => XS.dup X163.here hx rfl (hb hby at_78) rfl rfl k) ?_
      show Goes _ _ _ _ (T163.setTop (mkF m 79 #[.val (.int p0), .val (.int p1), .val (.int p2), .val (.ref b1), .val (.ref b9), .val (.ref b110), .unset, .unset, .unset, .unset, .unset, .unset, .unset] [(.ref b163), (.ref b163)]))
      refine Goes.st (fun t k => XS.iconst X163.here hx rfl (hb hby at_79) k) ?_
      show Goes _ _ _ _ (T163.setTop (mkF m 80 #[.val (.int p0), .val (.int p1), .val (.int p2), .val (.ref b1), .val (.ref b9), .val (.ref b110), .unset, .unset, .unset, .unset, .unset, .unset, .unset] [(.int (0 : Int32)), (.ref b163), (.ref b163)]))
      obtain ⟨T165, h165, k165, X165, e165, E165, A165, st165⟩ := newP X163 hx hZ114 (aty := .char) (hw0 hw) e163 (g := (mkF m 80 #[.val (.int p0), .val (.int p1), .val (.int p2), .val (.ref b1), .val (.ref b9), .val (.ref b110), .unset, .unset, .unset, .unset, .unset, .unset, .unset] [(.int (0 : Int32)), (.ref b163), (.ref b163)])) rfl (hb hby at_80) rfl (by decide) (cap := 0) (by decide) (by decide) (by decide) (by decide)
      obtain ⟨b165, g165⟩ : ∃ z, z = h163.size := ⟨_, rfl⟩
      rw [← g165] at A165 st165
      have CR166 : CHr Z EL s.vm h0 T114.vm h165 := CR164.trans (CHr.ext E165 CR164.1)
      have sf166_b110 : Safe Z EL T114.vm h165 b110 := Safe.ext E165 CR164.1 sf164_b110
      have sf166_b163 : Safe Z EL T114.vm h165 b163 := Safe.ext E165 CR164.1 sf163_b163
      have V165 : Arv Z h165 b165 k165 .char (0 : Int32) [] (.int (0 : Int32)) := (Arv.new A165 (by decide)).pad (pad_rep [] (.int (0 : Int32)) 0)
      refine Goes.st st165 ?_
      show Goes _ _ _ _ (T165.setTop (mkF m 82 #[.val (.int p0), .val (.int p1), .val (.int p2), .val (.ref b1), .val (.ref b9), .val (.ref b110), .unset, .unset, .unset, .unset, .unset, .unset, .unset] [(.ref b165), (.ref b163), (.ref b163)]))
      have f168 : Exa Z h165 b163 "java/lang/String" := (A163.ext E165)
      have f169 : Fld Z h165 b163 "java/lang/String" "value" "[B" .null := (F163_value.ext E165)
      have f170 : Fld Z h165 b163 "java/lang/String" "coder" "B" (.int (0 : Int32)) := (F163_coder.ext E165)
      have f171 : Old Z n0 h165 := (((f118.keep K114 (allS (Nat.le_trans Z0 (Nat.le_trans (Nat.le_trans (Nat.le_trans (Nat.le_trans (Nat.le_trans E1.1 (Nat.le_of_eq W4.size.symm)) (Nat.le_of_eq W7.size.symm)) E9.1) (Nat.le_of_eq W12.size.symm)) (Nat.le_of_eq g110.symm))) all0)).ext E163).ext E165)
      obtain ⟨_, _, ⟨T167, L167, k167, n167⟩, -, X167, hSr167, hgr167, ⟨Lc167, hQ167, l167, y167, z167, C167⟩, st167⟩ := X165.specialBackS hx (y := (⟨"java/lang/String", "<init>", "([C)V"⟩ : MethodName)) rfl hown114 (mvT hZ114 (hw4 hw)) (mvT hZ114 (hw5 hw)) (mvT hZ114 (hw6 hw)) (by decide) (own_backW (W := 1) (xs := [b163]) (rm_s1e l Z a0 hw [] b163 b165 k165 h165 n0 (Nat.le_trans Z0 (Nat.le_trans (Nat.le_trans (Nat.le_trans (Nat.le_trans (Nat.le_trans (Nat.le_trans (Nat.le_trans (Nat.le_trans (Nat.le_trans E1.1 (Nat.le_of_eq W4.size.symm)) (Nat.le_of_eq W7.size.symm)) E9.1) (Nat.le_of_eq W12.size.symm)) E110.1) E112.1) K114.1) E163.1) E165.1)) f168 f169 f170 V165 (Nat.le_trans Z0 (Nat.le_trans (Nat.le_trans (Nat.le_trans (Nat.le_trans (Nat.le_trans (Nat.le_trans (Nat.le_trans (Nat.le_trans E1.1 (Nat.le_of_eq W4.size.symm)) (Nat.le_of_eq W7.size.symm)) E9.1) (Nat.le_of_eq W12.size.symm)) E110.1) E112.1) K114.1) (Nat.le_of_eq g163.symm)))) hZ114 (hw6 hw) (hw3 hw) (by decide) (by decide) (own_EW hw) CR166.1 (allS ⟨(Nat.lt_of_lt_of_le A163.lt E165.1), sf166_b163⟩ all0)) (g := (mkF m 82 #[.val (.int p0), .val (.int p1), .val (.int p2), .val (.ref b1), .val (.ref b9), .val (.ref b110), .unset, .unset, .unset, .unset, .unset, .unset, .unset] [(.ref b165), (.ref b163), (.ref b163)])) rfl (by rw [hml]; rfl) (Steps.refl _) (a := b163) (argsL := [(.ref b165)]) (rest := [(.ref b163)]) (lenOf pd_1 rfl) rfl (by show 2 * 0 + _ ≤ _; exact Nat.le_of_eq rfl) (hb hby at_82) (fun _ _ => ⟨rfl, e165, (by decide : 10 + 4 ≤ _), (by decide : 19 + 8 ≤ _)⟩)
      dsimp only [Pt.U, Pt.locs, Pt.cells, Pt.slots] at X167 l167 y167 z167 st167 hQ167 hSr167 hgr167 C167
      subst l167 y167 z167
      obtain ⟨X167, hS167, hZ167, hown167⟩ := rebS hS114 (by rw [e165]; exact (Nat.le_trans (Nat.le_trans (Nat.le_refl _) E163.1) E165.1)) X167 hSr167 hgr167 hZ114 hown114
      obtain ⟨t167, kb167, rfl, N167q, K167, F167_0, ne167_0⟩ := hQ167
      have N167 := Fr.app N114 N167q
      have F167_0E := F167_0.1
      have CR172 : CHr Z EL s.vm h0 T167.vm T167.heap := CR166.trans (C167)
      have sf172_b110 : Safe Z EL T167.vm T167.heap b110 := C167.safe (Nat.lt_of_lt_of_le A110.lt (Nat.le_trans (Nat.le_trans (Nat.le_trans E112.1 K114.1) E163.1) E165.1)) sf166_b110
      have sf172_b163 : Safe Z EL T167.vm T167.heap b163 := C167.safe (Nat.lt_of_lt_of_le A163.lt E165.1) sf166_b163
      refine Goes.tr st167 ?_
      show Goes _ _ _ _ (T167.setTop (mkF m 85 #[.val (.int p0), .val (.int p1), .val (.int p2), .val (.ref b1), .val (.ref b9), .val (.ref b110), .unset, .unset, .unset, .unset, .unset, .unset, .unset] [(.ref b163)]))
      refine Goes.st (fun t k => XS.goto X167.here hx rfl (pc0 := 85) (pc' := 97) rfl (hb hby at_85) (by decide) (by decide) k) ?_
      show Goes _ _ _ _ (T167.setTop (mkF m 97 #[.val (.int p0), .val (.int p1), .val (.int p2), .val (.ref b1), .val (.ref b9), .val (.ref b110), .unset, .unset, .unset, .unset, .unset, .unset, .unset] [(.ref b163)]))
      refine Goes.st (fun t k => XS.astore X167.here hx rfl (hb hby at_97) rfl rfl (l' := #[.val (.int p0), .val (.int p1), .val (.int p2), .val (.ref b1), .val (.ref b9), .val (.ref b110), .val (.ref b163), .unset, .unset, .unset, .unset, .unset, .unset]) rfl k) ?_
      show Goes _ _ _ _ (T167.setTop (mkF m 99 #[.val (.int p0), .val (.int p1), .val (.int p2), .val (.ref b1), .val (.ref b9), .val (.ref b110), .val (.ref b163), .unset, .unset, .unset, .unset, .unset, .unset] []))
      refine Goes.st (fun t k => XS.iloadN X167.here hx rfl (hb hby at_99) rfl k) ?_
      show Goes _ _ _ _ (T167.setTop (mkF m 100 #[.val (.int p0), .val (.int p1), .val (.int p2), .val (.ref b1), .val (.ref b9), .val (.ref b110), .val (.ref b163), .unset, .unset, .unset, .unset, .unset, .unset] [(.int p2)]))
      refine Goes.st (fun t k => XS.iconst X167.here hx rfl (hb hby at_100) k) ?_
      show Goes _ _ _ _ (T167.setTop (mkF m 101 #[.val (.int p0), .val (.int p1), .val (.int p2), .val (.ref b1), .val (.ref b9), .val (.ref b110), .val (.ref b163), .unset, .unset, .unset, .unset, .unset, .unset] [(.int (1 : Int32)), (.int p2)]))
      refine Goes.st (fun t k => XS.iand X167.here hx rfl (hb hby at_101) rfl k) ?_
      show Goes _ _ _ _ (T167.setTop (mkF m 102 #[.val (.int p0), .val (.int p1), .val (.int p2), .val (.ref b1), .val (.ref b9), .val (.ref b110), .val (.ref b163), .unset, .unset, .unset, .unset, .unset, .unset] [(.int (p2 &&& (1 : Int32)))]))
      by_cases c173 : (p2 &&& (1 : Int32)) = (0 : Int32)
      case pos =>
        refine Goes.st (fun t k => XS.ifYes X167.here hx rfl (pc0 := 102) (pc' := 109) rfl (hb hby at_102) rfl ((if0 _ _).trans (teq c173).1) (by decide) (by decide) k) ?_
        show Goes _ _ _ _ (T167.setTop (mkF m 109 #[.val (.int p0), .val (.int p1), .val (.int p2), .val (.ref b1), .val (.ref b9), .val (.ref b110), .val (.ref b163), .unset, .unset, .unset, .unset, .unset, .unset] []))
        refine Goes.st (fun t k => XS.iconst X167.here hx rfl (hb hby at_109) k) ?_
        show Goes _ _ _ _ (T167.setTop (mkF m 110 #[.val (.int p0), .val (.int p1), .val (.int p2), .val (.ref b1), .val (.ref b9), .val (.ref b110), .val (.ref b163), .unset, .unset, .unset, .unset, .unset, .unset] [(.int (0 : Int32))]))
        refine Goes.st (fun t k => XS.istore X167.here hx rfl (hb hby at_110) rfl (l' := #[.val (.int p0), .val (.int p1), .val (.int p2), .val (.ref b1), .val (.ref b9), .val (.ref b110), .val (.ref b163), .val (.int (0 : Int32)), .unset, .unset, .unset, .unset, .unset]) rfl k) ?_
        show Goes _ _ _ _ (T167.setTop (mkF m 112 #[.val (.int p0), .val (.int p1), .val (.int p2), .val (.ref b1), .val (.ref b9), .val (.ref b110), .val (.ref b163), .val (.int (0 : Int32)), .unset, .unset, .unset, .unset, .unset] []))
        refine Goes.st (fun t k => XS.iloadN X167.here hx rfl (hb hby at_112) rfl k) ?_
        show Goes _ _ _ _ (T167.setTop (mkF m 113 #[.val (.int p0), .val (.int p1), .val (.int p2), .val (.ref b1), .val (.ref b9), .val (.ref b110), .val (.ref b163), .val (.int (0 : Int32)), .unset, .unset, .unset, .unset, .unset] [(.int p2)]))
        refine Goes.st (fun t k => XS.iconst X167.here hx rfl (hb hby at_113) k) ?_
        show Goes _ _ _ _ (T167.setTop (mkF m 114 #[.val (.int p0), .val (.int p1), .val (.int p2), .val (.ref b1), .val (.ref b9), .val (.ref b110), .val (.ref b163), .val (.int (0 : Int32)), .unset, .unset, .unset, .unset, .unset] [(.int (2 : Int32)), (.int p2)]))
        refine Goes.st (fun t k => XS.iand X167.here hx rfl (hb hby at_114) rfl k) ?_
        show Goes _ _ _ _ (T167.setTop (mkF m 115 #[.val (.int p0), .val (.int p1), .val (.int p2), .val (.ref b1), .val (.ref b9), .val (.ref b110), .val (.ref b163), .val (.int (0 : Int32)), .unset, .unset, .unset, .unset, .unset] [(.int (p2 &&& (2 : Int32)))]))
        by_cases c174 : (p2 &&& (2 : Int32)) = (0 : Int32)
        case pos =>
          refine Goes.st (fun t k => XS.ifYes X167.here hx rfl (pc0 := 115) (pc' := 122) rfl (hb hby at_115) rfl ((if0 _ _).trans (teq c174).1) (by decide) (by decide) k) ?_
          show Goes _ _ _ _ (T167.setTop (mkF m 122 #[.val (.int p0), .val (.int p1), .val (.int p2), .val (.ref b1), .val (.ref b9), .val (.ref b110), .val (.ref b163), .val (.int (0 : Int32)), .unset, .unset, .unset, .unset, .unset] []))
          refine Goes.st (fun t k => XS.iconst X167.here hx rfl (hb hby at_122) k) ?_
          show Goes _ _ _ _ (T167.setTop (mkF m 123 #[.val (.int p0), .val (.int p1), .val (.int p2), .val (.ref b1), .val (.ref b9), .val (.ref b110), .val (.ref b163), .val (.int (0 : Int32)), .unset, .unset, .unset, .unset, .unset] [(.int (0 : Int32))]))
          refine Goes.st (fun t k => XS.istore X167.here hx rfl (hb hby at_123) rfl (l' := #[.val (.int p0), .val (.int p1), .val (.int p2), .val (.ref b1), .val (.ref b9), .val (.ref b110), .val (.ref b163), .val (.int (0 : Int32)), .val (.int (0 : Int32)), .unset, .unset, .unset, .unset]) rfl k) ?_
          show Goes _ _ _ _ (T167.setTop (mkF m 125 #[.val (.int p0), .val (.int p1), .val (.int p2), .val (.ref b1), .val (.ref b9), .val (.ref b110), .val (.ref b163), .val (.int (0 : Int32)), .val (.int (0 : Int32)), .unset, .unset, .unset, .unset] []))
          obtain ⟨T175, h175, X175, e175, E175, A175, D175, -, st175⟩ := newO X167 hx hZ167 hown167 (hw30 hw) (hw31 hw) (hw32 hw) rfl (g := (mkF m 125 #[.val (.int p0), .val (.int p1), .val (.int p2), .val (.ref b1), .val (.ref b9), .val (.ref b110), .val (.ref b163), .val (.int (0 : Int32)), .val (.int (0 : Int32)), .unset, .unset, .unset, .unset] [])) rfl (hb hby at_125) (by decide) (by decide)
          obtain ⟨b175, g175⟩ : ∃ z, z = T167.heap.size := ⟨_, rfl⟩
          rw [← g175] at A175 D175 st175
          have CR176 : CHr Z EL s.vm h0 T167.vm h175 := CR172.trans (CHr.ext E175 CR172.1)
          have sf176_b110 : Safe Z EL T167.vm h175 b110 := Safe.ext E175 CR172.1 sf172_b110
          have sf176_b163 : Safe Z EL T167.vm h175 b163 := Safe.ext E175 CR172.1 sf172_b163
          have F175_reason : Fld Z h175 b175 "com/example/tenon/tenon/registry/Validity" "reason" "Ljava/lang/String;" .null := D175 (Or.inl (hw43 hw)) (ty := (.object "java/lang/String")) (by decide)
          refine Goes.st st175 ?_
          show Goes _ _ _ _ (T175.setTop (mkF m 128 #[.val (.int p0), .val (.int p1), .val (.int p2), .val (.ref b1), .val (.ref b9), .val (.ref b110), .val (.ref b163), .val (.int (0 : Int32)), .val (.int (0 : Int32)), .unset, .unset, .unset, .unset] [(.ref b175)]))
          refine Goes.st (fun t k => XS.dup X175.here hx rfl (hb hby at_128) rfl rfl k) ?_
          show Goes _ _ _ _ (T175.setTop (mkF m 129 #[.val (.int p0), .val (.int p1), .val (.int p2), .val (.ref b1), .val (.ref b9), .val (.ref b110), .val (.ref b163), .val (.int (0 : Int32)), .val (.int (0 : Int32)), .unset, .unset, .unset, .unset] [(.ref b175), (.ref b175)]))
          obtain ⟨_, _, ⟨T177, L177, k177, n177⟩, -, X177, ⟨Lc177, hQ177, l177, y177, z177⟩, st177⟩ := X175.specialBack hx (y := (⟨"com/example/tenon/tenon/registry/Validity", "<init>", "()V"⟩ : MethodName)) rfl hown167 (mvT hZ167 (hw33 hw)) (mvT hZ167 (hw34 hw)) (mvT hZ167 (hw35 hw)) (by decide) (backOf (W := 1) (rm_vinit l Z a0 hw [] b175 h175 n0 (Nat.le_trans Z0 (Nat.le_trans (Nat.le_trans (Nat.le_trans (Nat.le_trans (Nat.le_trans (Nat.le_trans (Nat.le_trans (Nat.le_trans (Nat.le_trans (Nat.le_trans (Nat.le_trans E1.1 (Nat.le_of_eq W4.size.symm)) (Nat.le_of_eq W7.size.symm)) E9.1) (Nat.le_of_eq W12.size.symm)) E110.1) E112.1) K114.1) E163.1) E165.1) K167.1) E175.1)) ) hZ167 (hw35 hw) (hw32 hw) (by decide) (by decide)) (g := (mkF m 129 #[.val (.int p0), .val (.int p1), .val (.int p2), .val (.ref b1), .val (.ref b9), .val (.ref b110), .val (.ref b163), .val (.int (0 : Int32)), .val (.int (0 : Int32)), .unset, .unset, .unset, .unset] [(.ref b175), (.ref b175)])) rfl (by rw [hml]; rfl) (Steps.refl _) (a := b175) (argsL := []) (rest := [(.ref b175)]) (lenOf pd_2 rfl) rfl (by show 2 * 0 + _ ≤ _; exact Nat.le_of_eq rfl) (hb hby at_129) (fun _ _ => ⟨rfl, e175, (by decide : 15 + 0 ≤ _), (by decide : 28 + 0 ≤ _)⟩)
          dsimp only [Pt.U, Pt.locs, Pt.cells, Pt.slots] at X177 l177 y177 z177 st177 hQ177
          subst l177 y177 z177
          obtain ⟨rfl, N177q, K177⟩ := hQ177
          have N177 := Fr.app N167 N177q
          refine Goes.tr st177 ?_
          show Goes _ _ _ _ (T177.setTop (mkF m 132 #[.val (.int p0), .val (.int p1), .val (.int p2), .val (.ref b1), .val (.ref b9), .val (.ref b110), .val (.ref b163), .val (.int (0 : Int32)), .val (.int (0 : Int32)), .unset, .unset, .unset, .unset] [(.ref b175)]))
          refine Goes.st (fun t k => XS.astore X177.here hx rfl (hb hby at_132) rfl rfl (l' := #[.val (.int p0), .val (.int p1), .val (.int p2), .val (.ref b1), .val (.ref b9), .val (.ref b110), .val (.ref b163), .val (.int (0 : Int32)), .val (.int (0 : Int32)), .val (.ref b175), .unset, .unset, .unset]) rfl k) ?_
          show Goes _ _ _ _ (T177.setTop (mkF m 134 #[.val (.int p0), .val (.int p1), .val (.int p2), .val (.ref b1), .val (.ref b9), .val (.ref b110), .val (.ref b163), .val (.int (0 : Int32)), .val (.int (0 : Int32)), .val (.ref b175), .unset, .unset, .unset] []))
          refine Goes.st (fun t k => XS.aload X177.here hx rfl (hb hby at_134) rfl rfl k) ?_
          show Goes _ _ _ _ (T177.setTop (mkF m 136 #[.val (.int p0), .val (.int p1), .val (.int p2), .val (.ref b1), .val (.ref b9), .val (.ref b110), .val (.ref b163), .val (.int (0 : Int32)), .val (.int (0 : Int32)), .val (.ref b175), .unset, .unset, .unset] [(.ref b175)]))
          obtain ⟨cq178, kq178, q178a, q178b, q178c⟩ := isOf hZ167 K177 A175
          obtain ⟨_, _, ⟨T178, L178, k178, n178⟩, -, X178, ⟨Lc178, hQ178, l178, y178, z178⟩, st178⟩ := X177.virtualBack hx (y := (⟨"com/example/tenon/tenon/registry/Validity", "isValid", "()Z"⟩ : MethodName)) (z := (⟨"com/example/tenon/tenon/registry/Validity", "isValid", "()Z"⟩ : MethodName)) hown167 (mvT hZ167 (hw37 hw)) (mvT hZ167 (hw38 hw)) (notFace_of_selects (args := #[]) (mvT hZ167 (hw40 hw))) (mvT hZ167 (hw40 hw)) (mvT hZ167 (hw39 hw)) (by decide) (backOf (W := 0) (rm_ivN l Z a0 hw [] b175 h175 n0 (Nat.le_trans Z0 (Nat.le_trans (Nat.le_trans (Nat.le_trans (Nat.le_trans (Nat.le_trans (Nat.le_trans (Nat.le_trans (Nat.le_trans (Nat.le_trans (Nat.le_trans (Nat.le_trans E1.1 (Nat.le_of_eq W4.size.symm)) (Nat.le_of_eq W7.size.symm)) E9.1) (Nat.le_of_eq W12.size.symm)) E110.1) E112.1) K114.1) E163.1) E165.1) K167.1) E175.1)) F175_reason) hZ167 (hw41 hw) (hw32 hw) (by decide) (by decide)) q178a q178c (g := (mkF m 136 #[.val (.int p0), .val (.int p1), .val (.int p2), .val (.ref b1), .val (.ref b9), .val (.ref b110), .val (.ref b163), .val (.int (0 : Int32)), .val (.int (0 : Int32)), .val (.ref b175), .unset, .unset, .unset] [(.ref b175)])) rfl (by rw [hml]; rfl) (Steps.refl _) (argsL := []) (rest := []) (lenOf pd_3 rfl) rfl (by show 2 * 0 + _ ≤ _; exact Nat.le_of_eq rfl) (hb hby at_136) (fun _ _ => ⟨rfl, K177, (by decide : 15 + 0 ≤ _), (by decide : 28 + 0 ≤ _)⟩)
          dsimp only [Pt.U, Pt.locs, Pt.cells, Pt.slots] at X178 l178 y178 z178 st178 hQ178
          subst l178 y178 z178
          obtain ⟨rfl, N178q, K178⟩ := hQ178
          have N178 := Fr.app N177 N178q
          refine Goes.tr st178 ?_
          show Goes _ _ _ _ (T178.setTop (mkF m 139 #[.val (.int p0), .val (.int p1), .val (.int p2), .val (.ref b1), .val (.ref b9), .val (.ref b110), .val (.ref b163), .val (.int (0 : Int32)), .val (.int (0 : Int32)), .val (.ref b175), .unset, .unset, .unset] [(.int (1 : Int32))]))
          refine Goes.st (fun t k => XS.istore X178.here hx rfl (hb hby at_139) rfl (l' := #[.val (.int p0), .val (.int p1), .val (.int p2), .val (.ref b1), .val (.ref b9), .val (.ref b110), .val (.ref b163), .val (.int (0 : Int32)), .val (.int (0 : Int32)), .val (.ref b175), .val (.int (1 : Int32)), .unset, .unset]) rfl k) ?_
          show Goes _ _ _ _ (T178.setTop (mkF m 141 #[.val (.int p0), .val (.int p1), .val (.int p2), .val (.ref b1), .val (.ref b9), .val (.ref b110), .val (.ref b163), .val (.int (0 : Int32)), .val (.int (0 : Int32)), .val (.ref b175), .val (.int (1 : Int32)), .unset, .unset] []))
          refine Goes.st (fun t k => XS.iload X178.here hx rfl (hb hby at_141) rfl k) ?_
          show Goes _ _ _ _ (T178.setTop (mkF m 143 #[.val (.int p0), .val (.int p1), .val (.int p2), .val (.ref b1), .val (.ref b9), .val (.ref b110), .val (.ref b163), .val (.int (0 : Int32)), .val (.int (0 : Int32)), .val (.ref b175), .val (.int (1 : Int32)), .unset, .unset] [(.int (0 : Int32))]))
          refine Goes.st (fun t k => XS.ifYes X178.here hx rfl (pc0 := 143) (pc' := 153) rfl (hb hby at_143) rfl ((if0 _ _).trans (teq (by decide : (0 : Int32) = (0 : Int32))).1) (by decide) (by decide) k) ?_
          show Goes _ _ _ _ (T178.setTop (mkF m 153 #[.val (.int p0), .val (.int p1), .val (.int p2), .val (.ref b1), .val (.ref b9), .val (.ref b110), .val (.ref b163), .val (.int (0 : Int32)), .val (.int (0 : Int32)), .val (.ref b175), .val (.int (1 : Int32)), .unset, .unset] []))
          refine Goes.st (fun t k => XS.aload X178.here hx rfl (hb hby at_153) rfl rfl k) ?_
          show Goes _ _ _ _ (T178.setTop (mkF m 155 #[.val (.int p0), .val (.int p1), .val (.int p2), .val (.ref b1), .val (.ref b9), .val (.ref b110), .val (.ref b163), .val (.int (0 : Int32)), .val (.int (0 : Int32)), .val (.ref b175), .val (.int (1 : Int32)), .unset, .unset] [(.ref b175)]))
          obtain ⟨cq179, kq179, q179a, q179b, q179c⟩ := isOf hZ167 K178 A175
          obtain ⟨_, _, ⟨T179, L179, k179, n179⟩, -, X179, ⟨Lc179, hQ179, l179, y179, z179⟩, st179⟩ := X178.virtualBack hx (y := (⟨"com/example/tenon/tenon/registry/Validity", "isValid", "()Z"⟩ : MethodName)) (z := (⟨"com/example/tenon/tenon/registry/Validity", "isValid", "()Z"⟩ : MethodName)) hown167 (mvT hZ167 (hw37 hw)) (mvT hZ167 (hw38 hw)) (notFace_of_selects (args := #[]) (mvT hZ167 (hw40 hw))) (mvT hZ167 (hw40 hw)) (mvT hZ167 (hw39 hw)) (by decide) (backOf (W := 0) (rm_ivN l Z a0 hw [] b175 h175 n0 (Nat.le_trans Z0 (Nat.le_trans (Nat.le_trans (Nat.le_trans (Nat.le_trans (Nat.le_trans (Nat.le_trans (Nat.le_trans (Nat.le_trans (Nat.le_trans (Nat.le_trans (Nat.le_trans E1.1 (Nat.le_of_eq W4.size.symm)) (Nat.le_of_eq W7.size.symm)) E9.1) (Nat.le_of_eq W12.size.symm)) E110.1) E112.1) K114.1) E163.1) E165.1) K167.1) E175.1)) F175_reason) hZ167 (hw41 hw) (hw32 hw) (by decide) (by decide)) q179a q179c (g := (mkF m 155 #[.val (.int p0), .val (.int p1), .val (.int p2), .val (.ref b1), .val (.ref b9), .val (.ref b110), .val (.ref b163), .val (.int (0 : Int32)), .val (.int (0 : Int32)), .val (.ref b175), .val (.int (1 : Int32)), .unset, .unset] [(.ref b175)])) rfl (by rw [hml]; rfl) (Steps.refl _) (argsL := []) (rest := []) (lenOf pd_3 rfl) rfl (by show 2 * 0 + _ ≤ _; exact Nat.le_of_eq rfl) (hb hby at_155) (fun _ _ => ⟨rfl, K178, (by decide : 15 + 0 ≤ _), (by decide : 28 + 0 ≤ _)⟩)
          dsimp only [Pt.U, Pt.locs, Pt.cells, Pt.slots] at X179 l179 y179 z179 st179 hQ179
          subst l179 y179 z179
          obtain ⟨rfl, N179q, K179⟩ := hQ179
          have N179 := Fr.app N178 N179q
          refine Goes.tr st179 ?_
          show Goes _ _ _ _ (T179.setTop (mkF m 158 #[.val (.int p0), .val (.int p1), .val (.int p2), .val (.ref b1), .val (.ref b9), .val (.ref b110), .val (.ref b163), .val (.int (0 : Int32)), .val (.int (0 : Int32)), .val (.ref b175), .val (.int (1 : Int32)), .unset, .unset] [(.int (1 : Int32))]))
          refine Goes.st (fun t k => XS.iload X179.here hx rfl (hb hby at_158) rfl k) ?_
          show Goes _ _ _ _ (T179.setTop (mkF m 160 #[.val (.int p0), .val (.int p1), .val (.int p2), .val (.ref b1), .val (.ref b9), .val (.ref b110), .val (.ref b163), .val (.int (0 : Int32)), .val (.int (0 : Int32)), .val (.ref b175), .val (.int (1 : Int32)), .unset, .unset] [(.int (0 : Int32)), (.int (1 : Int32))]))
          refine Goes.st (fun t k => XS.ifNo X179.here hx rfl (hb hby at_160) rfl ((if0 _ _).trans (teq (by decide : (0 : Int32) = (0 : Int32))).2) k) ?_
          show Goes _ _ _ _ (T179.setTop (mkF m 163 #[.val (.int p0), .val (.int p1), .val (.int p2), .val (.ref b1), .val (.ref b9), .val (.ref b110), .val (.ref b163), .val (.int (0 : Int32)), .val (.int (0 : Int32)), .val (.ref b175), .val (.int (1 : Int32)), .unset, .unset] [(.int (1 : Int32))]))
          refine Goes.st (fun t k => XS.iconst X179.here hx rfl (hb hby at_163) k) ?_
          show Goes _ _ _ _ (T179.setTop (mkF m 164 #[.val (.int p0), .val (.int p1), .val (.int p2), .val (.ref b1), .val (.ref b9), .val (.ref b110), .val (.ref b163), .val (.int (0 : Int32)), .val (.int (0 : Int32)), .val (.ref b175), .val (.int (1 : Int32)), .unset, .unset] [(.int (1 : Int32)), (.int (1 : Int32))]))
          refine Goes.st (fun t k => XS.goto X179.here hx rfl (pc0 := 164) (pc' := 168) rfl (hb hby at_164) (by decide) (by decide) k) ?_
          show Goes _ _ _ _ (T179.setTop (mkF m 168 #[.val (.int p0), .val (.int p1), .val (.int p2), .val (.ref b1), .val (.ref b9), .val (.ref b110), .val (.ref b163), .val (.int (0 : Int32)), .val (.int (0 : Int32)), .val (.ref b175), .val (.int (1 : Int32)), .unset, .unset] [(.int (1 : Int32)), (.int (1 : Int32))]))
          refine Goes.st (fun t k => XS.icmpNo X179.here hx rfl (hb hby at_168) rfl (teq (by decide : (1 : Int32) = (1 : Int32))).2 k) ?_
          show Goes _ _ _ _ (T179.setTop (mkF m 171 #[.val (.int p0), .val (.int p1), .val (.int p2), .val (.ref b1), .val (.ref b9), .val (.ref b110), .val (.ref b163), .val (.int (0 : Int32)), .val (.int (0 : Int32)), .val (.ref b175), .val (.int (1 : Int32)), .unset, .unset] []))
          refine Goes.st (fun t k => XS.iconst X179.here hx rfl (hb hby at_171) k) ?_
          show Goes _ _ _ _ (T179.setTop (mkF m 172 #[.val (.int p0), .val (.int p1), .val (.int p2), .val (.ref b1), .val (.ref b9), .val (.ref b110), .val (.ref b163), .val (.int (0 : Int32)), .val (.int (0 : Int32)), .val (.ref b175), .val (.int (1 : Int32)), .unset, .unset] [(.int (1 : Int32))]))
          refine Goes.st (fun t k => XS.goto X179.here hx rfl (pc0 := 172) (pc' := 176) rfl (hb hby at_172) (by decide) (by decide) k) ?_
          show Goes _ _ _ _ (T179.setTop (mkF m 176 #[.val (.int p0), .val (.int p1), .val (.int p2), .val (.ref b1), .val (.ref b9), .val (.ref b110), .val (.ref b163), .val (.int (0 : Int32)), .val (.int (0 : Int32)), .val (.ref b175), .val (.int (1 : Int32)), .unset, .unset] [(.int (1 : Int32))]))
          refine Goes.st (fun t k => XS.istore X179.here hx rfl (hb hby at_176) rfl (l' := #[.val (.int p0), .val (.int p1), .val (.int p2), .val (.ref b1), .val (.ref b9), .val (.ref b110), .val (.ref b163), .val (.int (0 : Int32)), .val (.int (0 : Int32)), .val (.ref b175), .val (.int (1 : Int32)), .val (.int (1 : Int32)), .unset]) rfl k) ?_
          show Goes _ _ _ _ (T179.setTop (mkF m 178 #[.val (.int p0), .val (.int p1), .val (.int p2), .val (.ref b1), .val (.ref b9), .val (.ref b110), .val (.ref b163), .val (.int (0 : Int32)), .val (.int (0 : Int32)), .val (.ref b175), .val (.int (1 : Int32)), .val (.int (1 : Int32)), .unset] []))
          refine Goes.st (fun t k => XS.iload X179.here hx rfl (hb hby at_178) rfl k) ?_
          show Goes _ _ _ _ (T179.setTop (mkF m 180 #[.val (.int p0), .val (.int p1), .val (.int p2), .val (.ref b1), .val (.ref b9), .val (.ref b110), .val (.ref b163), .val (.int (0 : Int32)), .val (.int (0 : Int32)), .val (.ref b175), .val (.int (1 : Int32)), .val (.int (1 : Int32)), .unset] [(.int (0 : Int32))]))
          refine Goes.st (fun t k => XS.ifYes X179.here hx rfl (pc0 := 180) (pc' := 190) rfl (hb hby at_180) rfl ((if0 _ _).trans (teq (by decide : (0 : Int32) = (0 : Int32))).1) (by decide) (by decide) k) ?_
          show Goes _ _ _ _ (T179.setTop (mkF m 190 #[.val (.int p0), .val (.int p1), .val (.int p2), .val (.ref b1), .val (.ref b9), .val (.ref b110), .val (.ref b163), .val (.int (0 : Int32)), .val (.int (0 : Int32)), .val (.ref b175), .val (.int (1 : Int32)), .val (.int (1 : Int32)), .unset] []))
          refine Goes.st (fun t k => XS.aload X179.here hx rfl (hb hby at_190) rfl rfl k) ?_
          show Goes _ _ _ _ (T179.setTop (mkF m 192 #[.val (.int p0), .val (.int p1), .val (.int p2), .val (.ref b1), .val (.ref b9), .val (.ref b110), .val (.ref b163), .val (.int (0 : Int32)), .val (.int (0 : Int32)), .val (.ref b175), .val (.int (1 : Int32)), .val (.int (1 : Int32)), .unset] [(.ref b175)]))
          obtain ⟨cq180, kq180, q180a, q180b, q180c⟩ := isOf hZ167 K179 A175
          obtain ⟨_, _, ⟨T180, L180, k180, n180⟩, -, X180, ⟨Lc180, hQ180, l180, y180, z180⟩, st180⟩ := X179.virtualBack hx (y := (⟨"com/example/tenon/tenon/registry/Validity", "isValid", "()Z"⟩ : MethodName)) (z := (⟨"com/example/tenon/tenon/registry/Validity", "isValid", "()Z"⟩ : MethodName)) hown167 (mvT hZ167 (hw37 hw)) (mvT hZ167 (hw38 hw)) (notFace_of_selects (args := #[]) (mvT hZ167 (hw40 hw))) (mvT hZ167 (hw40 hw)) (mvT hZ167 (hw39 hw)) (by decide) (backOf (W := 0) (rm_ivN l Z a0 hw [] b175 h175 n0 (Nat.le_trans Z0 (Nat.le_trans (Nat.le_trans (Nat.le_trans (Nat.le_trans (Nat.le_trans (Nat.le_trans (Nat.le_trans (Nat.le_trans (Nat.le_trans (Nat.le_trans (Nat.le_trans E1.1 (Nat.le_of_eq W4.size.symm)) (Nat.le_of_eq W7.size.symm)) E9.1) (Nat.le_of_eq W12.size.symm)) E110.1) E112.1) K114.1) E163.1) E165.1) K167.1) E175.1)) F175_reason) hZ167 (hw41 hw) (hw32 hw) (by decide) (by decide)) q180a q180c (g := (mkF m 192 #[.val (.int p0), .val (.int p1), .val (.int p2), .val (.ref b1), .val (.ref b9), .val (.ref b110), .val (.ref b163), .val (.int (0 : Int32)), .val (.int (0 : Int32)), .val (.ref b175), .val (.int (1 : Int32)), .val (.int (1 : Int32)), .unset] [(.ref b175)])) rfl (by rw [hml]; rfl) (Steps.refl _) (argsL := []) (rest := []) (lenOf pd_3 rfl) rfl (by show 2 * 0 + _ ≤ _; exact Nat.le_of_eq rfl) (hb hby at_192) (fun _ _ => ⟨rfl, K179, (by decide : 15 + 0 ≤ _), (by decide : 28 + 0 ≤ _)⟩)
          dsimp only [Pt.U, Pt.locs, Pt.cells, Pt.slots] at X180 l180 y180 z180 st180 hQ180
          subst l180 y180 z180
          obtain ⟨rfl, N180q, K180⟩ := hQ180
          have N180 := Fr.app N179 N180q
          refine Goes.tr st180 ?_
          show Goes _ _ _ _ (T180.setTop (mkF m 195 #[.val (.int p0), .val (.int p1), .val (.int p2), .val (.ref b1), .val (.ref b9), .val (.ref b110), .val (.ref b163), .val (.int (0 : Int32)), .val (.int (0 : Int32)), .val (.ref b175), .val (.int (1 : Int32)), .val (.int (1 : Int32)), .unset] [(.int (1 : Int32))]))
          refine Goes.st (fun t k => XS.iload X180.here hx rfl (hb hby at_195) rfl k) ?_
          show Goes _ _ _ _ (T180.setTop (mkF m 197 #[.val (.int p0), .val (.int p1), .val (.int p2), .val (.ref b1), .val (.ref b9), .val (.ref b110), .val (.ref b163), .val (.int (0 : Int32)), .val (.int (0 : Int32)), .val (.ref b175), .val (.int (1 : Int32)), .val (.int (1 : Int32)), .unset] [(.int (0 : Int32)), (.int (1 : Int32))]))
          refine Goes.st (fun t k => XS.ifNo X180.here hx rfl (hb hby at_197) rfl ((if0 _ _).trans (teq (by decide : (0 : Int32) = (0 : Int32))).2) k) ?_
          show Goes _ _ _ _ (T180.setTop (mkF m 200 #[.val (.int p0), .val (.int p1), .val (.int p2), .val (.ref b1), .val (.ref b9), .val (.ref b110), .val (.ref b163), .val (.int (0 : Int32)), .val (.int (0 : Int32)), .val (.ref b175), .val (.int (1 : Int32)), .val (.int (1 : Int32)), .unset] [(.int (1 : Int32))]))
          refine Goes.st (fun t k => XS.iload X180.here hx rfl (hb hby at_200) rfl k) ?_
          show Goes _ _ _ _ (T180.setTop (mkF m 202 #[.val (.int p0), .val (.int p1), .val (.int p2), .val (.ref b1), .val (.ref b9), .val (.ref b110), .val (.ref b163), .val (.int (0 : Int32)), .val (.int (0 : Int32)), .val (.ref b175), .val (.int (1 : Int32)), .val (.int (1 : Int32)), .unset] [(.int (0 : Int32)), (.int (1 : Int32))]))
          refine Goes.st (fun t k => XS.ifNo X180.here hx rfl (hb hby at_202) rfl ((if0 _ _).trans (teq (by decide : (0 : Int32) = (0 : Int32))).2) k) ?_
          show Goes _ _ _ _ (T180.setTop (mkF m 205 #[.val (.int p0), .val (.int p1), .val (.int p2), .val (.ref b1), .val (.ref b9), .val (.ref b110), .val (.ref b163), .val (.int (0 : Int32)), .val (.int (0 : Int32)), .val (.ref b175), .val (.int (1 : Int32)), .val (.int (1 : Int32)), .unset] [(.int (1 : Int32))]))
          refine Goes.st (fun t k => XS.iconst X180.here hx rfl (hb hby at_205) k) ?_
          show Goes _ _ _ _ (T180.setTop (mkF m 206 #[.val (.int p0), .val (.int p1), .val (.int p2), .val (.ref b1), .val (.ref b9), .val (.ref b110), .val (.ref b163), .val (.int (0 : Int32)), .val (.int (0 : Int32)), .val (.ref b175), .val (.int (1 : Int32)), .val (.int (1 : Int32)), .unset] [(.int (1 : Int32)), (.int (1 : Int32))]))
          refine Goes.st (fun t k => XS.goto X180.here hx rfl (pc0 := 206) (pc' := 210) rfl (hb hby at_206) (by decide) (by decide) k) ?_
          show Goes _ _ _ _ (T180.setTop (mkF m 210 #[.val (.int p0), .val (.int p1), .val (.int p2), .val (.ref b1), .val (.ref b9), .val (.ref b110), .val (.ref b163), .val (.int (0 : Int32)), .val (.int (0 : Int32)), .val (.ref b175), .val (.int (1 : Int32)), .val (.int (1 : Int32)), .unset] [(.int (1 : Int32)), (.int (1 : Int32))]))
          refine Goes.st (fun t k => XS.icmpNo X180.here hx rfl (hb hby at_210) rfl (teq (by decide : (1 : Int32) = (1 : Int32))).2 k) ?_
          show Goes _ _ _ _ (T180.setTop (mkF m 213 #[.val (.int p0), .val (.int p1), .val (.int p2), .val (.ref b1), .val (.ref b9), .val (.ref b110), .val (.ref b163), .val (.int (0 : Int32)), .val (.int (0 : Int32)), .val (.ref b175), .val (.int (1 : Int32)), .val (.int (1 : Int32)), .unset] []))
          refine Goes.st (fun t k => XS.iconst X180.here hx rfl (hb hby at_213) k) ?_
          show Goes _ _ _ _ (T180.setTop (mkF m 214 #[.val (.int p0), .val (.int p1), .val (.int p2), .val (.ref b1), .val (.ref b9), .val (.ref b110), .val (.ref b163), .val (.int (0 : Int32)), .val (.int (0 : Int32)), .val (.ref b175), .val (.int (1 : Int32)), .val (.int (1 : Int32)), .unset] [(.int (1 : Int32))]))
          refine Goes.st (fun t k => XS.goto X180.here hx rfl (pc0 := 214) (pc' := 218) rfl (hb hby at_214) (by decide) (by decide) k) ?_
          show Goes _ _ _ _ (T180.setTop (mkF m 218 #[.val (.int p0), .val (.int p1), .val (.int p2), .val (.ref b1), .val (.ref b9), .val (.ref b110), .val (.ref b163), .val (.int (0 : Int32)), .val (.int (0 : Int32)), .val (.ref b175), .val (.int (1 : Int32)), .val (.int (1 : Int32)), .unset] [(.int (1 : Int32))]))
          refine Goes.st (fun t k => XS.istore X180.here hx rfl (hb hby at_218) rfl (l' := #[.val (.int p0), .val (.int p1), .val (.int p2), .val (.ref b1), .val (.ref b9), .val (.ref b110), .val (.ref b163), .val (.int (0 : Int32)), .val (.int (0 : Int32)), .val (.ref b175), .val (.int (1 : Int32)), .val (.int (1 : Int32)), .val (.int (1 : Int32))]) rfl k) ?_
          show Goes _ _ _ _ (T180.setTop (mkF m 220 #[.val (.int p0), .val (.int p1), .val (.int p2), .val (.ref b1), .val (.ref b9), .val (.ref b110), .val (.ref b163), .val (.int (0 : Int32)), .val (.int (0 : Int32)), .val (.ref b175), .val (.int (1 : Int32)), .val (.int (1 : Int32)), .val (.int (1 : Int32))] []))
          refine Goes.st (fun t k => XS.iload X180.here hx rfl (hb hby at_220) rfl k) ?_
          show Goes _ _ _ _ (T180.setTop (mkF m 222 #[.val (.int p0), .val (.int p1), .val (.int p2), .val (.ref b1), .val (.ref b9), .val (.ref b110), .val (.ref b163), .val (.int (0 : Int32)), .val (.int (0 : Int32)), .val (.ref b175), .val (.int (1 : Int32)), .val (.int (1 : Int32)), .val (.int (1 : Int32))] [(.int (1 : Int32))]))
          refine Goes.st (fun t k => XS.ifNo X180.here hx rfl (hb hby at_222) rfl ((if0 _ _).trans (feq (by decide : ¬ ((1 : Int32) = (0 : Int32)))).1) k) ?_
          show Goes _ _ _ _ (T180.setTop (mkF m 225 #[.val (.int p0), .val (.int p1), .val (.int p2), .val (.ref b1), .val (.ref b9), .val (.ref b110), .val (.ref b163), .val (.int (0 : Int32)), .val (.int (0 : Int32)), .val (.ref b175), .val (.int (1 : Int32)), .val (.int (1 : Int32)), .val (.int (1 : Int32))] []))
          refine Goes.st (fun t k => XS.iload X180.here hx rfl (hb hby at_225) rfl k) ?_
          show Goes _ _ _ _ (T180.setTop (mkF m 227 #[.val (.int p0), .val (.int p1), .val (.int p2), .val (.ref b1), .val (.ref b9), .val (.ref b110), .val (.ref b163), .val (.int (0 : Int32)), .val (.int (0 : Int32)), .val (.ref b175), .val (.int (1 : Int32)), .val (.int (1 : Int32)), .val (.int (1 : Int32))] [(.int (1 : Int32))]))
          refine Goes.st (fun t k => XS.ifNo X180.here hx rfl (hb hby at_227) rfl ((if0 _ _).trans (feq (by decide : ¬ ((1 : Int32) = (0 : Int32)))).1) k) ?_
          show Goes _ _ _ _ (T180.setTop (mkF m 230 #[.val (.int p0), .val (.int p1), .val (.int p2), .val (.ref b1), .val (.ref b9), .val (.ref b110), .val (.ref b163), .val (.int (0 : Int32)), .val (.int (0 : Int32)), .val (.ref b175), .val (.int (1 : Int32)), .val (.int (1 : Int32)), .val (.int (1 : Int32))] []))
          refine Goes.st (fun t k => XS.iload X180.here hx rfl (hb hby at_230) rfl k) ?_
          show Goes _ _ _ _ (T180.setTop (mkF m 232 #[.val (.int p0), .val (.int p1), .val (.int p2), .val (.ref b1), .val (.ref b9), .val (.ref b110), .val (.ref b163), .val (.int (0 : Int32)), .val (.int (0 : Int32)), .val (.ref b175), .val (.int (1 : Int32)), .val (.int (1 : Int32)), .val (.int (1 : Int32))] [(.int (1 : Int32))]))
          refine Goes.st (fun t k => XS.ifNo X180.here hx rfl (hb hby at_232) rfl ((if0 _ _).trans (feq (by decide : ¬ ((1 : Int32) = (0 : Int32)))).1) k) ?_
          show Goes _ _ _ _ (T180.setTop (mkF m 235 #[.val (.int p0), .val (.int p1), .val (.int p2), .val (.ref b1), .val (.ref b9), .val (.ref b110), .val (.ref b163), .val (.int (0 : Int32)), .val (.int (0 : Int32)), .val (.ref b175), .val (.int (1 : Int32)), .val (.int (1 : Int32)), .val (.int (1 : Int32))] []))
          refine Goes.st (fun t k => XS.iconst X180.here hx rfl (hb hby at_235) k) ?_
          show Goes _ _ _ _ (T180.setTop (mkF m 236 #[.val (.int p0), .val (.int p1), .val (.int p2), .val (.ref b1), .val (.ref b9), .val (.ref b110), .val (.ref b163), .val (.int (0 : Int32)), .val (.int (0 : Int32)), .val (.ref b175), .val (.int (1 : Int32)), .val (.int (1 : Int32)), .val (.int (1 : Int32))] [(.int (1 : Int32))]))
          refine Goes.st (fun t k => XS.goto X180.here hx rfl (pc0 := 236) (pc' := 240) rfl (hb hby at_236) (by decide) (by decide) k) ?_
          show Goes _ _ _ _ (T180.setTop (mkF m 240 #[.val (.int p0), .val (.int p1), .val (.int p2), .val (.ref b1), .val (.ref b9), .val (.ref b110), .val (.ref b163), .val (.int (0 : Int32)), .val (.int (0 : Int32)), .val (.ref b175), .val (.int (1 : Int32)), .val (.int (1 : Int32)), .val (.int (1 : Int32))] [(.int (1 : Int32))]))
          obtain ⟨fs, hr, hrun, hended, hRW⟩ := X180.leaveW hS167 (by rw [K180]; exact (Nat.le_trans (Nat.le_refl _) E175.1)) (v := some (.int (1 : Int32))) (fun h => by rw [Bd.returns] at h; cases h)
          subst hQQ
          have hCR : CHr Z EL s.vm s.heap T180.vm T180.heap := by rw [hh, K180]; exact CR176.trans (CHv.at X180 hZ167 (own_EW hw) CR176.1)
          refine ⟨_, _, retN X180 hx (t := .boolean) Bd.returns (by simp) (hb hby at_240) hr, hrun, hended, _, _, rfl, ?_, hCR, own_REmono hRW (by decide) (by decide)⟩
          show Q_law Z p0 p1 p2 G1 h0 n0 _ T180.heap _
          rw [K180]
          exact ⟨rfl, N180⟩
        case neg =>
          refine Goes.st (fun t k => XS.ifNo X167.here hx rfl (hb hby at_115) rfl ((if0 _ _).trans (feq c174).1) k) ?_
          show Goes _ _ _ _ (T167.setTop (mkF m 118 #[.val (.int p0), .val (.int p1), .val (.int p2), .val (.ref b1), .val (.ref b9), .val (.ref b110), .val (.ref b163), .val (.int (0 : Int32)), .unset, .unset, .unset, .unset, .unset] []))
          refine Goes.st (fun t k => XS.iconst X167.here hx rfl (hb hby at_118) k) ?_
          show Goes _ _ _ _ (T167.setTop (mkF m 119 #[.val (.int p0), .val (.int p1), .val (.int p2), .val (.ref b1), .val (.ref b9), .val (.ref b110), .val (.ref b163), .val (.int (0 : Int32)), .unset, .unset, .unset, .unset, .unset] [(.int (1 : Int32))]))
          refine Goes.st (fun t k => XS.goto X167.here hx rfl (pc0 := 119) (pc' := 123) rfl (hb hby at_119) (by decide) (by decide) k) ?_
          show Goes _ _ _ _ (T167.setTop (mkF m 123 #[.val (.int p0), .val (.int p1), .val (.int p2), .val (.ref b1), .val (.ref b9), .val (.ref b110), .val (.ref b163), .val (.int (0 : Int32)), .unset, .unset, .unset, .unset, .unset] [(.int (1 : Int32))]))
          refine Goes.st (fun t k => XS.istore X167.here hx rfl (hb hby at_123) rfl (l' := #[.val (.int p0), .val (.int p1), .val (.int p2), .val (.ref b1), .val (.ref b9), .val (.ref b110), .val (.ref b163), .val (.int (0 : Int32)), .val (.int (1 : Int32)), .unset, .unset, .unset, .unset]) rfl k) ?_
          show Goes _ _ _ _ (T167.setTop (mkF m 125 #[.val (.int p0), .val (.int p1), .val (.int p2), .val (.ref b1), .val (.ref b9), .val (.ref b110), .val (.ref b163), .val (.int (0 : Int32)), .val (.int (1 : Int32)), .unset, .unset, .unset, .unset] []))
          obtain ⟨T181, h181, X181, e181, E181, A181, D181, -, st181⟩ := newO X167 hx hZ167 hown167 (hw30 hw) (hw31 hw) (hw32 hw) rfl (g := (mkF m 125 #[.val (.int p0), .val (.int p1), .val (.int p2), .val (.ref b1), .val (.ref b9), .val (.ref b110), .val (.ref b163), .val (.int (0 : Int32)), .val (.int (1 : Int32)), .unset, .unset, .unset, .unset] [])) rfl (hb hby at_125) (by decide) (by decide)
          obtain ⟨b181, g181⟩ : ∃ z, z = T167.heap.size := ⟨_, rfl⟩
          rw [← g181] at A181 D181 st181
          have CR182 : CHr Z EL s.vm h0 T167.vm h181 := CR172.trans (CHr.ext E181 CR172.1)
          have sf182_b110 : Safe Z EL T167.vm h181 b110 := Safe.ext E181 CR172.1 sf172_b110
          have sf182_b163 : Safe Z EL T167.vm h181 b163 := Safe.ext E181 CR172.1 sf172_b163
          have F181_reason : Fld Z h181 b181 "com/example/tenon/tenon/registry/Validity" "reason" "Ljava/lang/String;" .null := D181 (Or.inl (hw43 hw)) (ty := (.object "java/lang/String")) (by decide)
          refine Goes.st st181 ?_
          show Goes _ _ _ _ (T181.setTop (mkF m 128 #[.val (.int p0), .val (.int p1), .val (.int p2), .val (.ref b1), .val (.ref b9), .val (.ref b110), .val (.ref b163), .val (.int (0 : Int32)), .val (.int (1 : Int32)), .unset, .unset, .unset, .unset] [(.ref b181)]))
          refine Goes.st (fun t k => XS.dup X181.here hx rfl (hb hby at_128) rfl rfl k) ?_
          show Goes _ _ _ _ (T181.setTop (mkF m 129 #[.val (.int p0), .val (.int p1), .val (.int p2), .val (.ref b1), .val (.ref b9), .val (.ref b110), .val (.ref b163), .val (.int (0 : Int32)), .val (.int (1 : Int32)), .unset, .unset, .unset, .unset] [(.ref b181), (.ref b181)]))
          obtain ⟨_, _, ⟨T183, L183, k183, n183⟩, -, X183, ⟨Lc183, hQ183, l183, y183, z183⟩, st183⟩ := X181.specialBack hx (y := (⟨"com/example/tenon/tenon/registry/Validity", "<init>", "()V"⟩ : MethodName)) rfl hown167 (mvT hZ167 (hw33 hw)) (mvT hZ167 (hw34 hw)) (mvT hZ167 (hw35 hw)) (by decide) (backOf (W := 1) (rm_vinit l Z a0 hw [] b181 h181 n0 (Nat.le_trans Z0 (Nat.le_trans (Nat.le_trans (Nat.le_trans (Nat.le_trans (Nat.le_trans (Nat.le_trans (Nat.le_trans (Nat.le_trans (Nat.le_trans (Nat.le_trans (Nat.le_trans E1.1 (Nat.le_of_eq W4.size.symm)) (Nat.le_of_eq W7.size.symm)) E9.1) (Nat.le_of_eq W12.size.symm)) E110.1) E112.1) K114.1) E163.1) E165.1) K167.1) E181.1)) ) hZ167 (hw35 hw) (hw32 hw) (by decide) (by decide)) (g := (mkF m 129 #[.val (.int p0), .val (.int p1), .val (.int p2), .val (.ref b1), .val (.ref b9), .val (.ref b110), .val (.ref b163), .val (.int (0 : Int32)), .val (.int (1 : Int32)), .unset, .unset, .unset, .unset] [(.ref b181), (.ref b181)])) rfl (by rw [hml]; rfl) (Steps.refl _) (a := b181) (argsL := []) (rest := [(.ref b181)]) (lenOf pd_2 rfl) rfl (by show 2 * 0 + _ ≤ _; exact Nat.le_of_eq rfl) (hb hby at_129) (fun _ _ => ⟨rfl, e181, (by decide : 15 + 0 ≤ _), (by decide : 28 + 0 ≤ _)⟩)
          dsimp only [Pt.U, Pt.locs, Pt.cells, Pt.slots] at X183 l183 y183 z183 st183 hQ183
          subst l183 y183 z183
          obtain ⟨rfl, N183q, K183⟩ := hQ183
          have N183 := Fr.app N167 N183q
          refine Goes.tr st183 ?_
          show Goes _ _ _ _ (T183.setTop (mkF m 132 #[.val (.int p0), .val (.int p1), .val (.int p2), .val (.ref b1), .val (.ref b9), .val (.ref b110), .val (.ref b163), .val (.int (0 : Int32)), .val (.int (1 : Int32)), .unset, .unset, .unset, .unset] [(.ref b181)]))
          refine Goes.st (fun t k => XS.astore X183.here hx rfl (hb hby at_132) rfl rfl (l' := #[.val (.int p0), .val (.int p1), .val (.int p2), .val (.ref b1), .val (.ref b9), .val (.ref b110), .val (.ref b163), .val (.int (0 : Int32)), .val (.int (1 : Int32)), .val (.ref b181), .unset, .unset, .unset]) rfl k) ?_
          show Goes _ _ _ _ (T183.setTop (mkF m 134 #[.val (.int p0), .val (.int p1), .val (.int p2), .val (.ref b1), .val (.ref b9), .val (.ref b110), .val (.ref b163), .val (.int (0 : Int32)), .val (.int (1 : Int32)), .val (.ref b181), .unset, .unset, .unset] []))
          refine Goes.st (fun t k => XS.aload X183.here hx rfl (hb hby at_134) rfl rfl k) ?_
          show Goes _ _ _ _ (T183.setTop (mkF m 136 #[.val (.int p0), .val (.int p1), .val (.int p2), .val (.ref b1), .val (.ref b9), .val (.ref b110), .val (.ref b163), .val (.int (0 : Int32)), .val (.int (1 : Int32)), .val (.ref b181), .unset, .unset, .unset] [(.ref b181)]))
          obtain ⟨cq184, kq184, q184a, q184b, q184c⟩ := isOf hZ167 K183 A181
          obtain ⟨_, _, ⟨T184, L184, k184, n184⟩, -, X184, ⟨Lc184, hQ184, l184, y184, z184⟩, st184⟩ := X183.virtualBack hx (y := (⟨"com/example/tenon/tenon/registry/Validity", "isValid", "()Z"⟩ : MethodName)) (z := (⟨"com/example/tenon/tenon/registry/Validity", "isValid", "()Z"⟩ : MethodName)) hown167 (mvT hZ167 (hw37 hw)) (mvT hZ167 (hw38 hw)) (notFace_of_selects (args := #[]) (mvT hZ167 (hw40 hw))) (mvT hZ167 (hw40 hw)) (mvT hZ167 (hw39 hw)) (by decide) (backOf (W := 0) (rm_ivN l Z a0 hw [] b181 h181 n0 (Nat.le_trans Z0 (Nat.le_trans (Nat.le_trans (Nat.le_trans (Nat.le_trans (Nat.le_trans (Nat.le_trans (Nat.le_trans (Nat.le_trans (Nat.le_trans (Nat.le_trans (Nat.le_trans E1.1 (Nat.le_of_eq W4.size.symm)) (Nat.le_of_eq W7.size.symm)) E9.1) (Nat.le_of_eq W12.size.symm)) E110.1) E112.1) K114.1) E163.1) E165.1) K167.1) E181.1)) F181_reason) hZ167 (hw41 hw) (hw32 hw) (by decide) (by decide)) q184a q184c (g := (mkF m 136 #[.val (.int p0), .val (.int p1), .val (.int p2), .val (.ref b1), .val (.ref b9), .val (.ref b110), .val (.ref b163), .val (.int (0 : Int32)), .val (.int (1 : Int32)), .val (.ref b181), .unset, .unset, .unset] [(.ref b181)])) rfl (by rw [hml]; rfl) (Steps.refl _) (argsL := []) (rest := []) (lenOf pd_3 rfl) rfl (by show 2 * 0 + _ ≤ _; exact Nat.le_of_eq rfl) (hb hby at_136) (fun _ _ => ⟨rfl, K183, (by decide : 15 + 0 ≤ _), (by decide : 28 + 0 ≤ _)⟩)
          dsimp only [Pt.U, Pt.locs, Pt.cells, Pt.slots] at X184 l184 y184 z184 st184 hQ184
          subst l184 y184 z184
          obtain ⟨rfl, N184q, K184⟩ := hQ184
          have N184 := Fr.app N183 N184q
          refine Goes.tr st184 ?_
          show Goes _ _ _ _ (T184.setTop (mkF m 139 #[.val (.int p0), .val (.int p1), .val (.int p2), .val (.ref b1), .val (.ref b9), .val (.ref b110), .val (.ref b163), .val (.int (0 : Int32)), .val (.int (1 : Int32)), .val (.ref b181), .unset, .unset, .unset] [(.int (1 : Int32))]))
          refine Goes.st (fun t k => XS.istore X184.here hx rfl (hb hby at_139) rfl (l' := #[.val (.int p0), .val (.int p1), .val (.int p2), .val (.ref b1), .val (.ref b9), .val (.ref b110), .val (.ref b163), .val (.int (0 : Int32)), .val (.int (1 : Int32)), .val (.ref b181), .val (.int (1 : Int32)), .unset, .unset]) rfl k) ?_
          show Goes _ _ _ _ (T184.setTop (mkF m 141 #[.val (.int p0), .val (.int p1), .val (.int p2), .val (.ref b1), .val (.ref b9), .val (.ref b110), .val (.ref b163), .val (.int (0 : Int32)), .val (.int (1 : Int32)), .val (.ref b181), .val (.int (1 : Int32)), .unset, .unset] []))
          refine Goes.st (fun t k => XS.iload X184.here hx rfl (hb hby at_141) rfl k) ?_
          show Goes _ _ _ _ (T184.setTop (mkF m 143 #[.val (.int p0), .val (.int p1), .val (.int p2), .val (.ref b1), .val (.ref b9), .val (.ref b110), .val (.ref b163), .val (.int (0 : Int32)), .val (.int (1 : Int32)), .val (.ref b181), .val (.int (1 : Int32)), .unset, .unset] [(.int (0 : Int32))]))
          refine Goes.st (fun t k => XS.ifYes X184.here hx rfl (pc0 := 143) (pc' := 153) rfl (hb hby at_143) rfl ((if0 _ _).trans (teq (by decide : (0 : Int32) = (0 : Int32))).1) (by decide) (by decide) k) ?_
          show Goes _ _ _ _ (T184.setTop (mkF m 153 #[.val (.int p0), .val (.int p1), .val (.int p2), .val (.ref b1), .val (.ref b9), .val (.ref b110), .val (.ref b163), .val (.int (0 : Int32)), .val (.int (1 : Int32)), .val (.ref b181), .val (.int (1 : Int32)), .unset, .unset] []))
          refine Goes.st (fun t k => XS.aload X184.here hx rfl (hb hby at_153) rfl rfl k) ?_
          show Goes _ _ _ _ (T184.setTop (mkF m 155 #[.val (.int p0), .val (.int p1), .val (.int p2), .val (.ref b1), .val (.ref b9), .val (.ref b110), .val (.ref b163), .val (.int (0 : Int32)), .val (.int (1 : Int32)), .val (.ref b181), .val (.int (1 : Int32)), .unset, .unset] [(.ref b181)]))
          obtain ⟨cq185, kq185, q185a, q185b, q185c⟩ := isOf hZ167 K184 A181
          obtain ⟨_, _, ⟨T185, L185, k185, n185⟩, -, X185, ⟨Lc185, hQ185, l185, y185, z185⟩, st185⟩ := X184.virtualBack hx (y := (⟨"com/example/tenon/tenon/registry/Validity", "isValid", "()Z"⟩ : MethodName)) (z := (⟨"com/example/tenon/tenon/registry/Validity", "isValid", "()Z"⟩ : MethodName)) hown167 (mvT hZ167 (hw37 hw)) (mvT hZ167 (hw38 hw)) (notFace_of_selects (args := #[]) (mvT hZ167 (hw40 hw))) (mvT hZ167 (hw40 hw)) (mvT hZ167 (hw39 hw)) (by decide) (backOf (W := 0) (rm_ivN l Z a0 hw [] b181 h181 n0 (Nat.le_trans Z0 (Nat.le_trans (Nat.le_trans (Nat.le_trans (Nat.le_trans (Nat.le_trans (Nat.le_trans (Nat.le_trans (Nat.le_trans (Nat.le_trans (Nat.le_trans (Nat.le_trans E1.1 (Nat.le_of_eq W4.size.symm)) (Nat.le_of_eq W7.size.symm)) E9.1) (Nat.le_of_eq W12.size.symm)) E110.1) E112.1) K114.1) E163.1) E165.1) K167.1) E181.1)) F181_reason) hZ167 (hw41 hw) (hw32 hw) (by decide) (by decide)) q185a q185c (g := (mkF m 155 #[.val (.int p0), .val (.int p1), .val (.int p2), .val (.ref b1), .val (.ref b9), .val (.ref b110), .val (.ref b163), .val (.int (0 : Int32)), .val (.int (1 : Int32)), .val (.ref b181), .val (.int (1 : Int32)), .unset, .unset] [(.ref b181)])) rfl (by rw [hml]; rfl) (Steps.refl _) (argsL := []) (rest := []) (lenOf pd_3 rfl) rfl (by show 2 * 0 + _ ≤ _; exact Nat.le_of_eq rfl) (hb hby at_155) (fun _ _ => ⟨rfl, K184, (by decide : 15 + 0 ≤ _), (by decide : 28 + 0 ≤ _)⟩)
          dsimp only [Pt.U, Pt.locs, Pt.cells, Pt.slots] at X185 l185 y185 z185 st185 hQ185
          subst l185 y185 z185
          obtain ⟨rfl, N185q, K185⟩ := hQ185
          have N185 := Fr.app N184 N185q
          refine Goes.tr st185 ?_
          show Goes _ _ _ _ (T185.setTop (mkF m 158 #[.val (.int p0), .val (.int p1), .val (.int p2), .val (.ref b1), .val (.ref b9), .val (.ref b110), .val (.ref b163), .val (.int (0 : Int32)), .val (.int (1 : Int32)), .val (.ref b181), .val (.int (1 : Int32)), .unset, .unset] [(.int (1 : Int32))]))
          refine Goes.st (fun t k => XS.iload X185.here hx rfl (hb hby at_158) rfl k) ?_
          show Goes _ _ _ _ (T185.setTop (mkF m 160 #[.val (.int p0), .val (.int p1), .val (.int p2), .val (.ref b1), .val (.ref b9), .val (.ref b110), .val (.ref b163), .val (.int (0 : Int32)), .val (.int (1 : Int32)), .val (.ref b181), .val (.int (1 : Int32)), .unset, .unset] [(.int (0 : Int32)), (.int (1 : Int32))]))
          refine Goes.st (fun t k => XS.ifNo X185.here hx rfl (hb hby at_160) rfl ((if0 _ _).trans (teq (by decide : (0 : Int32) = (0 : Int32))).2) k) ?_
          show Goes _ _ _ _ (T185.setTop (mkF m 163 #[.val (.int p0), .val (.int p1), .val (.int p2), .val (.ref b1), .val (.ref b9), .val (.ref b110), .val (.ref b163), .val (.int (0 : Int32)), .val (.int (1 : Int32)), .val (.ref b181), .val (.int (1 : Int32)), .unset, .unset] [(.int (1 : Int32))]))
          refine Goes.st (fun t k => XS.iconst X185.here hx rfl (hb hby at_163) k) ?_
          show Goes _ _ _ _ (T185.setTop (mkF m 164 #[.val (.int p0), .val (.int p1), .val (.int p2), .val (.ref b1), .val (.ref b9), .val (.ref b110), .val (.ref b163), .val (.int (0 : Int32)), .val (.int (1 : Int32)), .val (.ref b181), .val (.int (1 : Int32)), .unset, .unset] [(.int (1 : Int32)), (.int (1 : Int32))]))
          refine Goes.st (fun t k => XS.goto X185.here hx rfl (pc0 := 164) (pc' := 168) rfl (hb hby at_164) (by decide) (by decide) k) ?_
          show Goes _ _ _ _ (T185.setTop (mkF m 168 #[.val (.int p0), .val (.int p1), .val (.int p2), .val (.ref b1), .val (.ref b9), .val (.ref b110), .val (.ref b163), .val (.int (0 : Int32)), .val (.int (1 : Int32)), .val (.ref b181), .val (.int (1 : Int32)), .unset, .unset] [(.int (1 : Int32)), (.int (1 : Int32))]))
          refine Goes.st (fun t k => XS.icmpNo X185.here hx rfl (hb hby at_168) rfl (teq (by decide : (1 : Int32) = (1 : Int32))).2 k) ?_
          show Goes _ _ _ _ (T185.setTop (mkF m 171 #[.val (.int p0), .val (.int p1), .val (.int p2), .val (.ref b1), .val (.ref b9), .val (.ref b110), .val (.ref b163), .val (.int (0 : Int32)), .val (.int (1 : Int32)), .val (.ref b181), .val (.int (1 : Int32)), .unset, .unset] []))
          refine Goes.st (fun t k => XS.iconst X185.here hx rfl (hb hby at_171) k) ?_
          show Goes _ _ _ _ (T185.setTop (mkF m 172 #[.val (.int p0), .val (.int p1), .val (.int p2), .val (.ref b1), .val (.ref b9), .val (.ref b110), .val (.ref b163), .val (.int (0 : Int32)), .val (.int (1 : Int32)), .val (.ref b181), .val (.int (1 : Int32)), .unset, .unset] [(.int (1 : Int32))]))
          refine Goes.st (fun t k => XS.goto X185.here hx rfl (pc0 := 172) (pc' := 176) rfl (hb hby at_172) (by decide) (by decide) k) ?_
          show Goes _ _ _ _ (T185.setTop (mkF m 176 #[.val (.int p0), .val (.int p1), .val (.int p2), .val (.ref b1), .val (.ref b9), .val (.ref b110), .val (.ref b163), .val (.int (0 : Int32)), .val (.int (1 : Int32)), .val (.ref b181), .val (.int (1 : Int32)), .unset, .unset] [(.int (1 : Int32))]))
          refine Goes.st (fun t k => XS.istore X185.here hx rfl (hb hby at_176) rfl (l' := #[.val (.int p0), .val (.int p1), .val (.int p2), .val (.ref b1), .val (.ref b9), .val (.ref b110), .val (.ref b163), .val (.int (0 : Int32)), .val (.int (1 : Int32)), .val (.ref b181), .val (.int (1 : Int32)), .val (.int (1 : Int32)), .unset]) rfl k) ?_
          show Goes _ _ _ _ (T185.setTop (mkF m 178 #[.val (.int p0), .val (.int p1), .val (.int p2), .val (.ref b1), .val (.ref b9), .val (.ref b110), .val (.ref b163), .val (.int (0 : Int32)), .val (.int (1 : Int32)), .val (.ref b181), .val (.int (1 : Int32)), .val (.int (1 : Int32)), .unset] []))
          refine Goes.st (fun t k => XS.iload X185.here hx rfl (hb hby at_178) rfl k) ?_
          show Goes _ _ _ _ (T185.setTop (mkF m 180 #[.val (.int p0), .val (.int p1), .val (.int p2), .val (.ref b1), .val (.ref b9), .val (.ref b110), .val (.ref b163), .val (.int (0 : Int32)), .val (.int (1 : Int32)), .val (.ref b181), .val (.int (1 : Int32)), .val (.int (1 : Int32)), .unset] [(.int (1 : Int32))]))
          refine Goes.st (fun t k => XS.ifNo X185.here hx rfl (hb hby at_180) rfl ((if0 _ _).trans (feq (by decide : ¬ ((1 : Int32) = (0 : Int32)))).1) k) ?_
          show Goes _ _ _ _ (T185.setTop (mkF m 183 #[.val (.int p0), .val (.int p1), .val (.int p2), .val (.ref b1), .val (.ref b9), .val (.ref b110), .val (.ref b163), .val (.int (0 : Int32)), .val (.int (1 : Int32)), .val (.ref b181), .val (.int (1 : Int32)), .val (.int (1 : Int32)), .unset] []))
          refine Goes.st (fun t k => XS.aload X185.here hx rfl (hb hby at_183) rfl rfl k) ?_
          show Goes _ _ _ _ (T185.setTop (mkF m 185 #[.val (.int p0), .val (.int p1), .val (.int p2), .val (.ref b1), .val (.ref b9), .val (.ref b110), .val (.ref b163), .val (.int (0 : Int32)), .val (.int (1 : Int32)), .val (.ref b181), .val (.int (1 : Int32)), .val (.int (1 : Int32)), .unset] [(.ref b181)]))
          refine Goes.st (fun t k => XS.aload X185.here hx rfl (hb hby at_185) rfl rfl k) ?_
          show Goes _ _ _ _ (T185.setTop (mkF m 187 #[.val (.int p0), .val (.int p1), .val (.int p2), .val (.ref b1), .val (.ref b9), .val (.ref b110), .val (.ref b163), .val (.int (0 : Int32)), .val (.int (1 : Int32)), .val (.ref b181), .val (.int (1 : Int32)), .val (.int (1 : Int32)), .unset] [(.ref b163), (.ref b181)]))
          obtain ⟨cq186, kq186, q186a, q186b, q186c⟩ := isOf hZ167 K185 A181
          obtain ⟨_, _, ⟨T186, L186, k186, n186⟩, -, X186, ⟨Lc186, hQ186, l186, y186, z186⟩, st186⟩ := X185.virtualBack hx (y := (⟨"com/example/tenon/tenon/registry/Validity", "invalidate", "(Ljava/lang/String;)V"⟩ : MethodName)) (z := (⟨"com/example/tenon/tenon/registry/Validity", "invalidate", "(Ljava/lang/String;)V"⟩ : MethodName)) hown167 (mvT hZ167 (hw44 hw)) (mvT hZ167 (hw45 hw)) (notFace_of_selects (args := #[]) (mvT hZ167 (hw47 hw))) (mvT hZ167 (hw47 hw)) (mvT hZ167 (hw46 hw)) (by decide) (backOf (W := 0) (rm_inv l Z a0 hw [] b181 b163 (Value.null) h181 n0 (Nat.le_trans Z0 (Nat.le_trans (Nat.le_trans (Nat.le_trans (Nat.le_trans (Nat.le_trans (Nat.le_trans (Nat.le_trans (Nat.le_trans (Nat.le_trans (Nat.le_trans (Nat.le_trans E1.1 (Nat.le_of_eq W4.size.symm)) (Nat.le_of_eq W7.size.symm)) E9.1) (Nat.le_of_eq W12.size.symm)) E110.1) E112.1) K114.1) E163.1) E165.1) K167.1) E181.1)) A181 F181_reason (Nat.le_trans Z0 (Nat.le_trans (Nat.le_trans (Nat.le_trans (Nat.le_trans (Nat.le_trans (Nat.le_trans (Nat.le_trans (Nat.le_trans (Nat.le_trans (Nat.le_trans (Nat.le_trans E1.1 (Nat.le_of_eq W4.size.symm)) (Nat.le_of_eq W7.size.symm)) E9.1) (Nat.le_of_eq W12.size.symm)) E110.1) E112.1) K114.1) E163.1) E165.1) K167.1) (Nat.le_of_eq g181.symm)))) hZ167 (hw48 hw) (hw32 hw) (by decide) (by decide)) q186a q186c (g := (mkF m 187 #[.val (.int p0), .val (.int p1), .val (.int p2), .val (.ref b1), .val (.ref b9), .val (.ref b110), .val (.ref b163), .val (.int (0 : Int32)), .val (.int (1 : Int32)), .val (.ref b181), .val (.int (1 : Int32)), .val (.int (1 : Int32)), .unset] [(.ref b163), (.ref b181)])) rfl (by rw [hml]; rfl) (Steps.refl _) (argsL := [(.ref b163)]) (rest := []) (lenOf pd_4 rfl) rfl (by show 2 * 0 + _ ≤ _; exact Nat.le_of_eq rfl) (hb hby at_187) (fun _ _ => ⟨rfl, K185, (by decide : 15 + 0 ≤ _), (by decide : 28 + 0 ≤ _)⟩)
          dsimp only [Pt.U, Pt.locs, Pt.cells, Pt.slots] at X186 l186 y186 z186 st186 hQ186
          subst l186 y186 z186
          obtain ⟨rfl, N186q, K186, F186_0, F186_1⟩ := hQ186
          have N186 := Fr.app N185 N186q
          have hs187 : ∀ x ∈ ([b181] : List Addr), Safe Z EL T167.vm h181 x := (allS (Safe.exa hZ167.alike A181 (by decide) (by decide)) all0)
          have CR187 : CHr Z EL s.vm h0 T167.vm T186.heap := CR182.trans (CHr.keep K186 hs187 CR182.1)
          have sf187_b110 : Safe Z EL T167.vm T186.heap b110 := Safe.keep K186 hs187 CR182.1 sf182_b110
          have sf187_b163 : Safe Z EL T167.vm T186.heap b163 := Safe.keep K186 hs187 CR182.1 sf182_b163
          refine Goes.tr st186 ?_
          show Goes _ _ _ _ (T186.setTop (mkF m 190 #[.val (.int p0), .val (.int p1), .val (.int p2), .val (.ref b1), .val (.ref b9), .val (.ref b110), .val (.ref b163), .val (.int (0 : Int32)), .val (.int (1 : Int32)), .val (.ref b181), .val (.int (1 : Int32)), .val (.int (1 : Int32)), .unset] []))
          refine Goes.st (fun t k => XS.aload X186.here hx rfl (hb hby at_190) rfl rfl k) ?_
          show Goes _ _ _ _ (T186.setTop (mkF m 192 #[.val (.int p0), .val (.int p1), .val (.int p2), .val (.ref b1), .val (.ref b9), .val (.ref b110), .val (.ref b163), .val (.int (0 : Int32)), .val (.int (1 : Int32)), .val (.ref b181), .val (.int (1 : Int32)), .val (.int (1 : Int32)), .unset] [(.ref b181)]))
          obtain ⟨cq188, kq188, q188a, q188b, q188c⟩ := isOf hZ167 rfl F186_0
          obtain ⟨_, _, ⟨T188, L188, k188, n188⟩, -, X188, ⟨Lc188, hQ188, l188, y188, z188⟩, st188⟩ := X186.virtualBack hx (y := (⟨"com/example/tenon/tenon/registry/Validity", "isValid", "()Z"⟩ : MethodName)) (z := (⟨"com/example/tenon/tenon/registry/Validity", "isValid", "()Z"⟩ : MethodName)) hown167 (mvT hZ167 (hw37 hw)) (mvT hZ167 (hw38 hw)) (notFace_of_selects (args := #[]) (mvT hZ167 (hw40 hw))) (mvT hZ167 (hw40 hw)) (mvT hZ167 (hw39 hw)) (by decide) (backOf (W := 0) (rm_ivR l Z a0 hw [] b181 b163 T186.heap n0 (Nat.le_trans Z0 (Nat.le_trans (Nat.le_trans (Nat.le_trans (Nat.le_trans (Nat.le_trans (Nat.le_trans (Nat.le_trans (Nat.le_trans (Nat.le_trans (Nat.le_trans (Nat.le_trans (Nat.le_trans E1.1 (Nat.le_of_eq W4.size.symm)) (Nat.le_of_eq W7.size.symm)) E9.1) (Nat.le_of_eq W12.size.symm)) E110.1) E112.1) K114.1) E163.1) E165.1) K167.1) E181.1) K186.1)) F186_1) hZ167 (hw41 hw) (hw32 hw) (by decide) (by decide)) q188a q188c (g := (mkF m 192 #[.val (.int p0), .val (.int p1), .val (.int p2), .val (.ref b1), .val (.ref b9), .val (.ref b110), .val (.ref b163), .val (.int (0 : Int32)), .val (.int (1 : Int32)), .val (.ref b181), .val (.int (1 : Int32)), .val (.int (1 : Int32)), .unset] [(.ref b181)])) rfl (by rw [hml]; rfl) (Steps.refl _) (argsL := []) (rest := []) (lenOf pd_3 rfl) rfl (by show 2 * 0 + _ ≤ _; exact Nat.le_of_eq rfl) (hb hby at_192) (fun _ _ => ⟨rfl, rfl, (by decide : 15 + 0 ≤ _), (by decide : 28 + 0 ≤ _)⟩)
          dsimp only [Pt.U, Pt.locs, Pt.cells, Pt.slots] at X188 l188 y188 z188 st188 hQ188
          subst l188 y188 z188
          obtain ⟨rfl, N188q, K188⟩ := hQ188
          have N188 := Fr.app N186 N188q
          refine Goes.tr st188 ?_
          show Goes _ _ _ _ (T188.setTop (mkF m 195 #[.val (.int p0), .val (.int p1), .val (.int p2), .val (.ref b1), .val (.ref b9), .val (.ref b110), .val (.ref b163), .val (.int (0 : Int32)), .val (.int (1 : Int32)), .val (.ref b181), .val (.int (1 : Int32)), .val (.int (1 : Int32)), .unset] [(.int (0 : Int32))]))
          refine Goes.st (fun t k => XS.iload X188.here hx rfl (hb hby at_195) rfl k) ?_
          show Goes _ _ _ _ (T188.setTop (mkF m 197 #[.val (.int p0), .val (.int p1), .val (.int p2), .val (.ref b1), .val (.ref b9), .val (.ref b110), .val (.ref b163), .val (.int (0 : Int32)), .val (.int (1 : Int32)), .val (.ref b181), .val (.int (1 : Int32)), .val (.int (1 : Int32)), .unset] [(.int (0 : Int32)), (.int (0 : Int32))]))
          refine Goes.st (fun t k => XS.ifNo X188.here hx rfl (hb hby at_197) rfl ((if0 _ _).trans (teq (by decide : (0 : Int32) = (0 : Int32))).2) k) ?_
          show Goes _ _ _ _ (T188.setTop (mkF m 200 #[.val (.int p0), .val (.int p1), .val (.int p2), .val (.ref b1), .val (.ref b9), .val (.ref b110), .val (.ref b163), .val (.int (0 : Int32)), .val (.int (1 : Int32)), .val (.ref b181), .val (.int (1 : Int32)), .val (.int (1 : Int32)), .unset] [(.int (0 : Int32))]))
          refine Goes.st (fun t k => XS.iload X188.here hx rfl (hb hby at_200) rfl k) ?_
          show Goes _ _ _ _ (T188.setTop (mkF m 202 #[.val (.int p0), .val (.int p1), .val (.int p2), .val (.ref b1), .val (.ref b9), .val (.ref b110), .val (.ref b163), .val (.int (0 : Int32)), .val (.int (1 : Int32)), .val (.ref b181), .val (.int (1 : Int32)), .val (.int (1 : Int32)), .unset] [(.int (1 : Int32)), (.int (0 : Int32))]))
          refine Goes.st (fun t k => XS.ifYes X188.here hx rfl (pc0 := 202) (pc' := 209) rfl (hb hby at_202) rfl ((if0 _ _).trans (feq (by decide : ¬ ((1 : Int32) = (0 : Int32)))).2) (by decide) (by decide) k) ?_
          show Goes _ _ _ _ (T188.setTop (mkF m 209 #[.val (.int p0), .val (.int p1), .val (.int p2), .val (.ref b1), .val (.ref b9), .val (.ref b110), .val (.ref b163), .val (.int (0 : Int32)), .val (.int (1 : Int32)), .val (.ref b181), .val (.int (1 : Int32)), .val (.int (1 : Int32)), .unset] [(.int (0 : Int32))]))
          refine Goes.st (fun t k => XS.iconst X188.here hx rfl (hb hby at_209) k) ?_
          show Goes _ _ _ _ (T188.setTop (mkF m 210 #[.val (.int p0), .val (.int p1), .val (.int p2), .val (.ref b1), .val (.ref b9), .val (.ref b110), .val (.ref b163), .val (.int (0 : Int32)), .val (.int (1 : Int32)), .val (.ref b181), .val (.int (1 : Int32)), .val (.int (1 : Int32)), .unset] [(.int (0 : Int32)), (.int (0 : Int32))]))
          refine Goes.st (fun t k => XS.icmpNo X188.here hx rfl (hb hby at_210) rfl (teq (by decide : (0 : Int32) = (0 : Int32))).2 k) ?_
          show Goes _ _ _ _ (T188.setTop (mkF m 213 #[.val (.int p0), .val (.int p1), .val (.int p2), .val (.ref b1), .val (.ref b9), .val (.ref b110), .val (.ref b163), .val (.int (0 : Int32)), .val (.int (1 : Int32)), .val (.ref b181), .val (.int (1 : Int32)), .val (.int (1 : Int32)), .unset] []))
          refine Goes.st (fun t k => XS.iconst X188.here hx rfl (hb hby at_213) k) ?_
          show Goes _ _ _ _ (T188.setTop (mkF m 214 #[.val (.int p0), .val (.int p1), .val (.int p2), .val (.ref b1), .val (.ref b9), .val (.ref b110), .val (.ref b163), .val (.int (0 : Int32)), .val (.int (1 : Int32)), .val (.ref b181), .val (.int (1 : Int32)), .val (.int (1 : Int32)), .unset] [(.int (1 : Int32))]))
          refine Goes.st (fun t k => XS.goto X188.here hx rfl (pc0 := 214) (pc' := 218) rfl (hb hby at_214) (by decide) (by decide) k) ?_
          show Goes _ _ _ _ (T188.setTop (mkF m 218 #[.val (.int p0), .val (.int p1), .val (.int p2), .val (.ref b1), .val (.ref b9), .val (.ref b110), .val (.ref b163), .val (.int (0 : Int32)), .val (.int (1 : Int32)), .val (.ref b181), .val (.int (1 : Int32)), .val (.int (1 : Int32)), .unset] [(.int (1 : Int32))]))
          refine Goes.st (fun t k => XS.istore X188.here hx rfl (hb hby at_218) rfl (l' := #[.val (.int p0), .val (.int p1), .val (.int p2), .val (.ref b1), .val (.ref b9), .val (.ref b110), .val (.ref b163), .val (.int (0 : Int32)), .val (.int (1 : Int32)), .val (.ref b181), .val (.int (1 : Int32)), .val (.int (1 : Int32)), .val (.int (1 : Int32))]) rfl k) ?_
          show Goes _ _ _ _ (T188.setTop (mkF m 220 #[.val (.int p0), .val (.int p1), .val (.int p2), .val (.ref b1), .val (.ref b9), .val (.ref b110), .val (.ref b163), .val (.int (0 : Int32)), .val (.int (1 : Int32)), .val (.ref b181), .val (.int (1 : Int32)), .val (.int (1 : Int32)), .val (.int (1 : Int32))] []))
          refine Goes.st (fun t k => XS.iload X188.here hx rfl (hb hby at_220) rfl k) ?_
          show Goes _ _ _ _ (T188.setTop (mkF m 222 #[.val (.int p0), .val (.int p1), .val (.int p2), .val (.ref b1), .val (.ref b9), .val (.ref b110), .val (.ref b163), .val (.int (0 : Int32)), .val (.int (1 : Int32)), .val (.ref b181), .val (.int (1 : Int32)), .val (.int (1 : Int32)), .val (.int (1 : Int32))] [(.int (1 : Int32))]))
          refine Goes.st (fun t k => XS.ifNo X188.here hx rfl (hb hby at_222) rfl ((if0 _ _).trans (feq (by decide : ¬ ((1 : Int32) = (0 : Int32)))).1) k) ?_
          show Goes _ _ _ _ (T188.setTop (mkF m 225 #[.val (.int p0), .val (.int p1), .val (.int p2), .val (.ref b1), .val (.ref b9), .val (.ref b110), .val (.ref b163), .val (.int (0 : Int32)), .val (.int (1 : Int32)), .val (.ref b181), .val (.int (1 : Int32)), .val (.int (1 : Int32)), .val (.int (1 : Int32))] []))
          refine Goes.st (fun t k => XS.iload X188.here hx rfl (hb hby at_225) rfl k) ?_
          show Goes _ _ _ _ (T188.setTop (mkF m 227 #[.val (.int p0), .val (.int p1), .val (.int p2), .val (.ref b1), .val (.ref b9), .val (.ref b110), .val (.ref b163), .val (.int (0 : Int32)), .val (.int (1 : Int32)), .val (.ref b181), .val (.int (1 : Int32)), .val (.int (1 : Int32)), .val (.int (1 : Int32))] [(.int (1 : Int32))]))
          refine Goes.st (fun t k => XS.ifNo X188.here hx rfl (hb hby at_227) rfl ((if0 _ _).trans (feq (by decide : ¬ ((1 : Int32) = (0 : Int32)))).1) k) ?_
          show Goes _ _ _ _ (T188.setTop (mkF m 230 #[.val (.int p0), .val (.int p1), .val (.int p2), .val (.ref b1), .val (.ref b9), .val (.ref b110), .val (.ref b163), .val (.int (0 : Int32)), .val (.int (1 : Int32)), .val (.ref b181), .val (.int (1 : Int32)), .val (.int (1 : Int32)), .val (.int (1 : Int32))] []))
          refine Goes.st (fun t k => XS.iload X188.here hx rfl (hb hby at_230) rfl k) ?_
          show Goes _ _ _ _ (T188.setTop (mkF m 232 #[.val (.int p0), .val (.int p1), .val (.int p2), .val (.ref b1), .val (.ref b9), .val (.ref b110), .val (.ref b163), .val (.int (0 : Int32)), .val (.int (1 : Int32)), .val (.ref b181), .val (.int (1 : Int32)), .val (.int (1 : Int32)), .val (.int (1 : Int32))] [(.int (1 : Int32))]))
          refine Goes.st (fun t k => XS.ifNo X188.here hx rfl (hb hby at_232) rfl ((if0 _ _).trans (feq (by decide : ¬ ((1 : Int32) = (0 : Int32)))).1) k) ?_
          show Goes _ _ _ _ (T188.setTop (mkF m 235 #[.val (.int p0), .val (.int p1), .val (.int p2), .val (.ref b1), .val (.ref b9), .val (.ref b110), .val (.ref b163), .val (.int (0 : Int32)), .val (.int (1 : Int32)), .val (.ref b181), .val (.int (1 : Int32)), .val (.int (1 : Int32)), .val (.int (1 : Int32))] []))
          refine Goes.st (fun t k => XS.iconst X188.here hx rfl (hb hby at_235) k) ?_
          show Goes _ _ _ _ (T188.setTop (mkF m 236 #[.val (.int p0), .val (.int p1), .val (.int p2), .val (.ref b1), .val (.ref b9), .val (.ref b110), .val (.ref b163), .val (.int (0 : Int32)), .val (.int (1 : Int32)), .val (.ref b181), .val (.int (1 : Int32)), .val (.int (1 : Int32)), .val (.int (1 : Int32))] [(.int (1 : Int32))]))
          refine Goes.st (fun t k => XS.goto X188.here hx rfl (pc0 := 236) (pc' := 240) rfl (hb hby at_236) (by decide) (by decide) k) ?_
          show Goes _ _ _ _ (T188.setTop (mkF m 240 #[.val (.int p0), .val (.int p1), .val (.int p2), .val (.ref b1), .val (.ref b9), .val (.ref b110), .val (.ref b163), .val (.int (0 : Int32)), .val (.int (1 : Int32)), .val (.ref b181), .val (.int (1 : Int32)), .val (.int (1 : Int32)), .val (.int (1 : Int32))] [(.int (1 : Int32))]))
          obtain ⟨fs, hr, hrun, hended, hRW⟩ := X188.leaveW hS167 (by rw [K188]; exact (Nat.le_trans (Nat.le_trans (Nat.le_refl _) E181.1) K186.1)) (v := some (.int (1 : Int32))) (fun h => by rw [Bd.returns] at h; cases h)
          subst hQQ
          have hCR : CHr Z EL s.vm s.heap T188.vm T188.heap := by rw [hh, K188]; exact CR187.trans (CHv.at X188 hZ167 (own_EW hw) CR187.1)
          refine ⟨_, _, retN X188 hx (t := .boolean) Bd.returns (by simp) (hb hby at_240) hr, hrun, hended, _, _, rfl, ?_, hCR, own_REmono hRW (by decide) (by decide)⟩
          show Q_law Z p0 p1 p2 G1 h0 n0 _ T188.heap _
          rw [K188]
          exact ⟨rfl, N188⟩
      case neg =>
        refine Goes.st (fun t k => XS.ifNo X167.here hx rfl (hb hby at_102) rfl ((if0 _ _).trans (feq c173).1) k) ?_
        show Goes _ _ _ _ (T167.setTop (mkF m 105 #[.val (.int p0), .val (.int p1), .val (.int p2), .val (.ref b1), .val (.ref b9), .val (.ref b110), .val (.ref b163), .unset, .unset, .unset, .unset, .unset, .unset] []))
        refine Goes.st (fun t k => XS.iconst X167.here hx rfl (hb hby at_105) k) ?_
        show Goes _ _ _ _ (T167.setTop (mkF m 106 #[.val (.int p0), .val (.int p1), .val (.int p2), .val (.ref b1), .val (.ref b9), .val (.ref b110), .val (.ref b163), .unset, .unset, .unset, .unset, .unset, .unset] [(.int (1 : Int32))]))
        refine Goes.st (fun t k => XS.goto X167.here hx rfl (pc0 := 106) (pc' := 110) rfl (hb hby at_106) (by decide) (by decide) k) ?_
        show Goes _ _ _ _ (T167.setTop (mkF m 110 #[.val (.int p0), .val (.int p1), .val (.int p2), .val (.ref b1), .val (.ref b9), .val (.ref b110), .val (.ref b163), .unset, .unset, .unset, .unset, .unset, .unset] [(.int (1 : Int32))]))
        refine Goes.st (fun t k => XS.istore X167.here hx rfl (hb hby at_110) rfl (l' := #[.val (.int p0), .val (.int p1), .val (.int p2), .val (.ref b1), .val (.ref b9), .val (.ref b110), .val (.ref b163), .val (.int (1 : Int32)), .unset, .unset, .unset, .unset, .unset]) rfl k) ?_
        show Goes _ _ _ _ (T167.setTop (mkF m 112 #[.val (.int p0), .val (.int p1), .val (.int p2), .val (.ref b1), .val (.ref b9), .val (.ref b110), .val (.ref b163), .val (.int (1 : Int32)), .unset, .unset, .unset, .unset, .unset] []))
        refine Goes.st (fun t k => XS.iloadN X167.here hx rfl (hb hby at_112) rfl k) ?_
        show Goes _ _ _ _ (T167.setTop (mkF m 113 #[.val (.int p0), .val (.int p1), .val (.int p2), .val (.ref b1), .val (.ref b9), .val (.ref b110), .val (.ref b163), .val (.int (1 : Int32)), .unset, .unset, .unset, .unset, .unset] [(.int p2)]))
        refine Goes.st (fun t k => XS.iconst X167.here hx rfl (hb hby at_113) k) ?_
        show Goes _ _ _ _ (T167.setTop (mkF m 114 #[.val (.int p0), .val (.int p1), .val (.int p2), .val (.ref b1), .val (.ref b9), .val (.ref b110), .val (.ref b163), .val (.int (1 : Int32)), .unset, .unset, .unset, .unset, .unset] [(.int (2 : Int32)), (.int p2)]))
        refine Goes.st (fun t k => XS.iand X167.here hx rfl (hb hby at_114) rfl k) ?_
        show Goes _ _ _ _ (T167.setTop (mkF m 115 #[.val (.int p0), .val (.int p1), .val (.int p2), .val (.ref b1), .val (.ref b9), .val (.ref b110), .val (.ref b163), .val (.int (1 : Int32)), .unset, .unset, .unset, .unset, .unset] [(.int (p2 &&& (2 : Int32)))]))
        by_cases c189 : (p2 &&& (2 : Int32)) = (0 : Int32)
        case pos =>
          refine Goes.st (fun t k => XS.ifYes X167.here hx rfl (pc0 := 115) (pc' := 122) rfl (hb hby at_115) rfl ((if0 _ _).trans (teq c189).1) (by decide) (by decide) k) ?_
          show Goes _ _ _ _ (T167.setTop (mkF m 122 #[.val (.int p0), .val (.int p1), .val (.int p2), .val (.ref b1), .val (.ref b9), .val (.ref b110), .val (.ref b163), .val (.int (1 : Int32)), .unset, .unset, .unset, .unset, .unset] []))
          refine Goes.st (fun t k => XS.iconst X167.here hx rfl (hb hby at_122) k) ?_
          show Goes _ _ _ _ (T167.setTop (mkF m 123 #[.val (.int p0), .val (.int p1), .val (.int p2), .val (.ref b1), .val (.ref b9), .val (.ref b110), .val (.ref b163), .val (.int (1 : Int32)), .unset, .unset, .unset, .unset, .unset] [(.int (0 : Int32))]))
          refine Goes.st (fun t k => XS.istore X167.here hx rfl (hb hby at_123) rfl (l' := #[.val (.int p0), .val (.int p1), .val (.int p2), .val (.ref b1), .val (.ref b9), .val (.ref b110), .val (.ref b163), .val (.int (1 : Int32)), .val (.int (0 : Int32)), .unset, .unset, .unset, .unset]) rfl k) ?_
          show Goes _ _ _ _ (T167.setTop (mkF m 125 #[.val (.int p0), .val (.int p1), .val (.int p2), .val (.ref b1), .val (.ref b9), .val (.ref b110), .val (.ref b163), .val (.int (1 : Int32)), .val (.int (0 : Int32)), .unset, .unset, .unset, .unset] []))
          obtain ⟨T190, h190, X190, e190, E190, A190, D190, -, st190⟩ := newO X167 hx hZ167 hown167 (hw30 hw) (hw31 hw) (hw32 hw) rfl (g := (mkF m 125 #[.val (.int p0), .val (.int p1), .val (.int p2), .val (.ref b1), .val (.ref b9), .val (.ref b110), .val (.ref b163), .val (.int (1 : Int32)), .val (.int (0 : Int32)), .unset, .unset, .unset, .unset] [])) rfl (hb hby at_125) (by decide) (by decide)
          obtain ⟨b190, g190⟩ : ∃ z, z = T167.heap.size := ⟨_, rfl⟩
          rw [← g190] at A190 D190 st190
          have CR191 : CHr Z EL s.vm h0 T167.vm h190 := CR172.trans (CHr.ext E190 CR172.1)
          have sf191_b110 : Safe Z EL T167.vm h190 b110 := Safe.ext E190 CR172.1 sf172_b110
          have sf191_b163 : Safe Z EL T167.vm h190 b163 := Safe.ext E190 CR172.1 sf172_b163
          have F190_reason : Fld Z h190 b190 "com/example/tenon/tenon/registry/Validity" "reason" "Ljava/lang/String;" .null := D190 (Or.inl (hw43 hw)) (ty := (.object "java/lang/String")) (by decide)
          refine Goes.st st190 ?_
          show Goes _ _ _ _ (T190.setTop (mkF m 128 #[.val (.int p0), .val (.int p1), .val (.int p2), .val (.ref b1), .val (.ref b9), .val (.ref b110), .val (.ref b163), .val (.int (1 : Int32)), .val (.int (0 : Int32)), .unset, .unset, .unset, .unset] [(.ref b190)]))
          refine Goes.st (fun t k => XS.dup X190.here hx rfl (hb hby at_128) rfl rfl k) ?_
          show Goes _ _ _ _ (T190.setTop (mkF m 129 #[.val (.int p0), .val (.int p1), .val (.int p2), .val (.ref b1), .val (.ref b9), .val (.ref b110), .val (.ref b163), .val (.int (1 : Int32)), .val (.int (0 : Int32)), .unset, .unset, .unset, .unset] [(.ref b190), (.ref b190)]))
          obtain ⟨_, _, ⟨T192, L192, k192, n192⟩, -, X192, ⟨Lc192, hQ192, l192, y192, z192⟩, st192⟩ := X190.specialBack hx (y := (⟨"com/example/tenon/tenon/registry/Validity", "<init>", "()V"⟩ : MethodName)) rfl hown167 (mvT hZ167 (hw33 hw)) (mvT hZ167 (hw34 hw)) (mvT hZ167 (hw35 hw)) (by decide) (backOf (W := 1) (rm_vinit l Z a0 hw [] b190 h190 n0 (Nat.le_trans Z0 (Nat.le_trans (Nat.le_trans (Nat.le_trans (Nat.le_trans (Nat.le_trans (Nat.le_trans (Nat.le_trans (Nat.le_trans (Nat.le_trans (Nat.le_trans (Nat.le_trans E1.1 (Nat.le_of_eq W4.size.symm)) (Nat.le_of_eq W7.size.symm)) E9.1) (Nat.le_of_eq W12.size.symm)) E110.1) E112.1) K114.1) E163.1) E165.1) K167.1) E190.1)) ) hZ167 (hw35 hw) (hw32 hw) (by decide) (by decide)) (g := (mkF m 129 #[.val (.int p0), .val (.int p1), .val (.int p2), .val (.ref b1), .val (.ref b9), .val (.ref b110), .val (.ref b163), .val (.int (1 : Int32)), .val (.int (0 : Int32)), .unset, .unset, .unset, .unset] [(.ref b190), (.ref b190)])) rfl (by rw [hml]; rfl) (Steps.refl _) (a := b190) (argsL := []) (rest := [(.ref b190)]) (lenOf pd_2 rfl) rfl (by show 2 * 0 + _ ≤ _; exact Nat.le_of_eq rfl) (hb hby at_129) (fun _ _ => ⟨rfl, e190, (by decide : 15 + 0 ≤ _), (by decide : 28 + 0 ≤ _)⟩)
          dsimp only [Pt.U, Pt.locs, Pt.cells, Pt.slots] at X192 l192 y192 z192 st192 hQ192
          subst l192 y192 z192
          obtain ⟨rfl, N192q, K192⟩ := hQ192
          have N192 := Fr.app N167 N192q
          refine Goes.tr st192 ?_
          show Goes _ _ _ _ (T192.setTop (mkF m 132 #[.val (.int p0), .val (.int p1), .val (.int p2), .val (.ref b1), .val (.ref b9), .val (.ref b110), .val (.ref b163), .val (.int (1 : Int32)), .val (.int (0 : Int32)), .unset, .unset, .unset, .unset] [(.ref b190)]))
          refine Goes.st (fun t k => XS.astore X192.here hx rfl (hb hby at_132) rfl rfl (l' := #[.val (.int p0), .val (.int p1), .val (.int p2), .val (.ref b1), .val (.ref b9), .val (.ref b110), .val (.ref b163), .val (.int (1 : Int32)), .val (.int (0 : Int32)), .val (.ref b190), .unset, .unset, .unset]) rfl k) ?_
          show Goes _ _ _ _ (T192.setTop (mkF m 134 #[.val (.int p0), .val (.int p1), .val (.int p2), .val (.ref b1), .val (.ref b9), .val (.ref b110), .val (.ref b163), .val (.int (1 : Int32)), .val (.int (0 : Int32)), .val (.ref b190), .unset, .unset, .unset] []))
          refine Goes.st (fun t k => XS.aload X192.here hx rfl (hb hby at_134) rfl rfl k) ?_
          show Goes _ _ _ _ (T192.setTop (mkF m 136 #[.val (.int p0), .val (.int p1), .val (.int p2), .val (.ref b1), .val (.ref b9), .val (.ref b110), .val (.ref b163), .val (.int (1 : Int32)), .val (.int (0 : Int32)), .val (.ref b190), .unset, .unset, .unset] [(.ref b190)]))
          obtain ⟨cq193, kq193, q193a, q193b, q193c⟩ := isOf hZ167 K192 A190
          obtain ⟨_, _, ⟨T193, L193, k193, n193⟩, -, X193, ⟨Lc193, hQ193, l193, y193, z193⟩, st193⟩ := X192.virtualBack hx (y := (⟨"com/example/tenon/tenon/registry/Validity", "isValid", "()Z"⟩ : MethodName)) (z := (⟨"com/example/tenon/tenon/registry/Validity", "isValid", "()Z"⟩ : MethodName)) hown167 (mvT hZ167 (hw37 hw)) (mvT hZ167 (hw38 hw)) (notFace_of_selects (args := #[]) (mvT hZ167 (hw40 hw))) (mvT hZ167 (hw40 hw)) (mvT hZ167 (hw39 hw)) (by decide) (backOf (W := 0) (rm_ivN l Z a0 hw [] b190 h190 n0 (Nat.le_trans Z0 (Nat.le_trans (Nat.le_trans (Nat.le_trans (Nat.le_trans (Nat.le_trans (Nat.le_trans (Nat.le_trans (Nat.le_trans (Nat.le_trans (Nat.le_trans (Nat.le_trans E1.1 (Nat.le_of_eq W4.size.symm)) (Nat.le_of_eq W7.size.symm)) E9.1) (Nat.le_of_eq W12.size.symm)) E110.1) E112.1) K114.1) E163.1) E165.1) K167.1) E190.1)) F190_reason) hZ167 (hw41 hw) (hw32 hw) (by decide) (by decide)) q193a q193c (g := (mkF m 136 #[.val (.int p0), .val (.int p1), .val (.int p2), .val (.ref b1), .val (.ref b9), .val (.ref b110), .val (.ref b163), .val (.int (1 : Int32)), .val (.int (0 : Int32)), .val (.ref b190), .unset, .unset, .unset] [(.ref b190)])) rfl (by rw [hml]; rfl) (Steps.refl _) (argsL := []) (rest := []) (lenOf pd_3 rfl) rfl (by show 2 * 0 + _ ≤ _; exact Nat.le_of_eq rfl) (hb hby at_136) (fun _ _ => ⟨rfl, K192, (by decide : 15 + 0 ≤ _), (by decide : 28 + 0 ≤ _)⟩)
          dsimp only [Pt.U, Pt.locs, Pt.cells, Pt.slots] at X193 l193 y193 z193 st193 hQ193
          subst l193 y193 z193
          obtain ⟨rfl, N193q, K193⟩ := hQ193
          have N193 := Fr.app N192 N193q
          refine Goes.tr st193 ?_
          show Goes _ _ _ _ (T193.setTop (mkF m 139 #[.val (.int p0), .val (.int p1), .val (.int p2), .val (.ref b1), .val (.ref b9), .val (.ref b110), .val (.ref b163), .val (.int (1 : Int32)), .val (.int (0 : Int32)), .val (.ref b190), .unset, .unset, .unset] [(.int (1 : Int32))]))
          refine Goes.st (fun t k => XS.istore X193.here hx rfl (hb hby at_139) rfl (l' := #[.val (.int p0), .val (.int p1), .val (.int p2), .val (.ref b1), .val (.ref b9), .val (.ref b110), .val (.ref b163), .val (.int (1 : Int32)), .val (.int (0 : Int32)), .val (.ref b190), .val (.int (1 : Int32)), .unset, .unset]) rfl k) ?_
          show Goes _ _ _ _ (T193.setTop (mkF m 141 #[.val (.int p0), .val (.int p1), .val (.int p2), .val (.ref b1), .val (.ref b9), .val (.ref b110), .val (.ref b163), .val (.int (1 : Int32)), .val (.int (0 : Int32)), .val (.ref b190), .val (.int (1 : Int32)), .unset, .unset] []))
          refine Goes.st (fun t k => XS.iload X193.here hx rfl (hb hby at_141) rfl k) ?_
          show Goes _ _ _ _ (T193.setTop (mkF m 143 #[.val (.int p0), .val (.int p1), .val (.int p2), .val (.ref b1), .val (.ref b9), .val (.ref b110), .val (.ref b163), .val (.int (1 : Int32)), .val (.int (0 : Int32)), .val (.ref b190), .val (.int (1 : Int32)), .unset, .unset] [(.int (1 : Int32))]))
          refine Goes.st (fun t k => XS.ifNo X193.here hx rfl (hb hby at_143) rfl ((if0 _ _).trans (feq (by decide : ¬ ((1 : Int32) = (0 : Int32)))).1) k) ?_
          show Goes _ _ _ _ (T193.setTop (mkF m 146 #[.val (.int p0), .val (.int p1), .val (.int p2), .val (.ref b1), .val (.ref b9), .val (.ref b110), .val (.ref b163), .val (.int (1 : Int32)), .val (.int (0 : Int32)), .val (.ref b190), .val (.int (1 : Int32)), .unset, .unset] []))
          refine Goes.st (fun t k => XS.aload X193.here hx rfl (hb hby at_146) rfl rfl k) ?_
          show Goes _ _ _ _ (T193.setTop (mkF m 148 #[.val (.int p0), .val (.int p1), .val (.int p2), .val (.ref b1), .val (.ref b9), .val (.ref b110), .val (.ref b163), .val (.int (1 : Int32)), .val (.int (0 : Int32)), .val (.ref b190), .val (.int (1 : Int32)), .unset, .unset] [(.ref b190)]))
          refine Goes.st (fun t k => XS.aload X193.here hx rfl (hb hby at_148) rfl rfl k) ?_
          show Goes _ _ _ _ (T193.setTop (mkF m 150 #[.val (.int p0), .val (.int p1), .val (.int p2), .val (.ref b1), .val (.ref b9), .val (.ref b110), .val (.ref b163), .val (.int (1 : Int32)), .val (.int (0 : Int32)), .val (.ref b190), .val (.int (1 : Int32)), .unset, .unset] [(.ref b110), (.ref b190)]))
          obtain ⟨cq194, kq194, q194a, q194b, q194c⟩ := isOf hZ167 K193 A190
          obtain ⟨_, _, ⟨T194, L194, k194, n194⟩, -, X194, ⟨Lc194, hQ194, l194, y194, z194⟩, st194⟩ := X193.virtualBack hx (y := (⟨"com/example/tenon/tenon/registry/Validity", "invalidate", "(Ljava/lang/String;)V"⟩ : MethodName)) (z := (⟨"com/example/tenon/tenon/registry/Validity", "invalidate", "(Ljava/lang/String;)V"⟩ : MethodName)) hown167 (mvT hZ167 (hw44 hw)) (mvT hZ167 (hw45 hw)) (notFace_of_selects (args := #[]) (mvT hZ167 (hw47 hw))) (mvT hZ167 (hw47 hw)) (mvT hZ167 (hw46 hw)) (by decide) (backOf (W := 0) (rm_inv l Z a0 hw [] b190 b110 (Value.null) h190 n0 (Nat.le_trans Z0 (Nat.le_trans (Nat.le_trans (Nat.le_trans (Nat.le_trans (Nat.le_trans (Nat.le_trans (Nat.le_trans (Nat.le_trans (Nat.le_trans (Nat.le_trans (Nat.le_trans E1.1 (Nat.le_of_eq W4.size.symm)) (Nat.le_of_eq W7.size.symm)) E9.1) (Nat.le_of_eq W12.size.symm)) E110.1) E112.1) K114.1) E163.1) E165.1) K167.1) E190.1)) A190 F190_reason (Nat.le_trans Z0 (Nat.le_trans (Nat.le_trans (Nat.le_trans (Nat.le_trans (Nat.le_trans (Nat.le_trans (Nat.le_trans (Nat.le_trans (Nat.le_trans (Nat.le_trans (Nat.le_trans E1.1 (Nat.le_of_eq W4.size.symm)) (Nat.le_of_eq W7.size.symm)) E9.1) (Nat.le_of_eq W12.size.symm)) E110.1) E112.1) K114.1) E163.1) E165.1) K167.1) (Nat.le_of_eq g190.symm)))) hZ167 (hw48 hw) (hw32 hw) (by decide) (by decide)) q194a q194c (g := (mkF m 150 #[.val (.int p0), .val (.int p1), .val (.int p2), .val (.ref b1), .val (.ref b9), .val (.ref b110), .val (.ref b163), .val (.int (1 : Int32)), .val (.int (0 : Int32)), .val (.ref b190), .val (.int (1 : Int32)), .unset, .unset] [(.ref b110), (.ref b190)])) rfl (by rw [hml]; rfl) (Steps.refl _) (argsL := [(.ref b110)]) (rest := []) (lenOf pd_4 rfl) rfl (by show 2 * 0 + _ ≤ _; exact Nat.le_of_eq rfl) (hb hby at_150) (fun _ _ => ⟨rfl, K193, (by decide : 15 + 0 ≤ _), (by decide : 28 + 0 ≤ _)⟩)
          dsimp only [Pt.U, Pt.locs, Pt.cells, Pt.slots] at X194 l194 y194 z194 st194 hQ194
          subst l194 y194 z194
          obtain ⟨rfl, N194q, K194, F194_0, F194_1⟩ := hQ194
          have N194 := Fr.app N193 N194q
          have hs195 : ∀ x ∈ ([b190] : List Addr), Safe Z EL T167.vm h190 x := (allS (Safe.exa hZ167.alike A190 (by decide) (by decide)) all0)
          have CR195 : CHr Z EL s.vm h0 T167.vm T194.heap := CR191.trans (CHr.keep K194 hs195 CR191.1)
          have sf195_b110 : Safe Z EL T167.vm T194.heap b110 := Safe.keep K194 hs195 CR191.1 sf191_b110
          have sf195_b163 : Safe Z EL T167.vm T194.heap b163 := Safe.keep K194 hs195 CR191.1 sf191_b163
          refine Goes.tr st194 ?_
          show Goes _ _ _ _ (T194.setTop (mkF m 153 #[.val (.int p0), .val (.int p1), .val (.int p2), .val (.ref b1), .val (.ref b9), .val (.ref b110), .val (.ref b163), .val (.int (1 : Int32)), .val (.int (0 : Int32)), .val (.ref b190), .val (.int (1 : Int32)), .unset, .unset] []))
          refine Goes.st (fun t k => XS.aload X194.here hx rfl (hb hby at_153) rfl rfl k) ?_
          show Goes _ _ _ _ (T194.setTop (mkF m 155 #[.val (.int p0), .val (.int p1), .val (.int p2), .val (.ref b1), .val (.ref b9), .val (.ref b110), .val (.ref b163), .val (.int (1 : Int32)), .val (.int (0 : Int32)), .val (.ref b190), .val (.int (1 : Int32)), .unset, .unset] [(.ref b190)]))
          obtain ⟨cq196, kq196, q196a, q196b, q196c⟩ := isOf hZ167 rfl F194_0
          obtain ⟨_, _, ⟨T196, L196, k196, n196⟩, -, X196, ⟨Lc196, hQ196, l196, y196, z196⟩, st196⟩ := X194.virtualBack hx (y := (⟨"com/example/tenon/tenon/registry/Validity", "isValid", "()Z"⟩ : MethodName)) (z := (⟨"com/example/tenon/tenon/registry/Validity", "isValid", "()Z"⟩ : MethodName)) hown167 (mvT hZ167 (hw37 hw)) (mvT hZ167 (hw38 hw)) (notFace_of_selects (args := #[]) (mvT hZ167 (hw40 hw))) (mvT hZ167 (hw40 hw)) (mvT hZ167 (hw39 hw)) (by decide) (backOf (W := 0) (rm_ivR l Z a0 hw [] b190 b110 T194.heap n0 (Nat.le_trans Z0 (Nat.le_trans (Nat.le_trans (Nat.le_trans (Nat.le_trans (Nat.le_trans (Nat.le_trans (Nat.le_trans (Nat.le_trans (Nat.le_trans (Nat.le_trans (Nat.le_trans (Nat.le_trans E1.1 (Nat.le_of_eq W4.size.symm)) (Nat.le_of_eq W7.size.symm)) E9.1) (Nat.le_of_eq W12.size.symm)) E110.1) E112.1) K114.1) E163.1) E165.1) K167.1) E190.1) K194.1)) F194_1) hZ167 (hw41 hw) (hw32 hw) (by decide) (by decide)) q196a q196c (g := (mkF m 155 #[.val (.int p0), .val (.int p1), .val (.int p2), .val (.ref b1), .val (.ref b9), .val (.ref b110), .val (.ref b163), .val (.int (1 : Int32)), .val (.int (0 : Int32)), .val (.ref b190), .val (.int (1 : Int32)), .unset, .unset] [(.ref b190)])) rfl (by rw [hml]; rfl) (Steps.refl _) (argsL := []) (rest := []) (lenOf pd_3 rfl) rfl (by show 2 * 0 + _ ≤ _; exact Nat.le_of_eq rfl) (hb hby at_155) (fun _ _ => ⟨rfl, rfl, (by decide : 15 + 0 ≤ _), (by decide : 28 + 0 ≤ _)⟩)
          dsimp only [Pt.U, Pt.locs, Pt.cells, Pt.slots] at X196 l196 y196 z196 st196 hQ196
          subst l196 y196 z196
          obtain ⟨rfl, N196q, K196⟩ := hQ196
          have N196 := Fr.app N194 N196q
          refine Goes.tr st196 ?_
          show Goes _ _ _ _ (T196.setTop (mkF m 158 #[.val (.int p0), .val (.int p1), .val (.int p2), .val (.ref b1), .val (.ref b9), .val (.ref b110), .val (.ref b163), .val (.int (1 : Int32)), .val (.int (0 : Int32)), .val (.ref b190), .val (.int (1 : Int32)), .unset, .unset] [(.int (0 : Int32))]))
          refine Goes.st (fun t k => XS.iload X196.here hx rfl (hb hby at_158) rfl k) ?_
          show Goes _ _ _ _ (T196.setTop (mkF m 160 #[.val (.int p0), .val (.int p1), .val (.int p2), .val (.ref b1), .val (.ref b9), .val (.ref b110), .val (.ref b163), .val (.int (1 : Int32)), .val (.int (0 : Int32)), .val (.ref b190), .val (.int (1 : Int32)), .unset, .unset] [(.int (1 : Int32)), (.int (0 : Int32))]))
          refine Goes.st (fun t k => XS.ifYes X196.here hx rfl (pc0 := 160) (pc' := 167) rfl (hb hby at_160) rfl ((if0 _ _).trans (feq (by decide : ¬ ((1 : Int32) = (0 : Int32)))).2) (by decide) (by decide) k) ?_
          show Goes _ _ _ _ (T196.setTop (mkF m 167 #[.val (.int p0), .val (.int p1), .val (.int p2), .val (.ref b1), .val (.ref b9), .val (.ref b110), .val (.ref b163), .val (.int (1 : Int32)), .val (.int (0 : Int32)), .val (.ref b190), .val (.int (1 : Int32)), .unset, .unset] [(.int (0 : Int32))]))
          refine Goes.st (fun t k => XS.iconst X196.here hx rfl (hb hby at_167) k) ?_
          show Goes _ _ _ _ (T196.setTop (mkF m 168 #[.val (.int p0), .val (.int p1), .val (.int p2), .val (.ref b1), .val (.ref b9), .val (.ref b110), .val (.ref b163), .val (.int (1 : Int32)), .val (.int (0 : Int32)), .val (.ref b190), .val (.int (1 : Int32)), .unset, .unset] [(.int (0 : Int32)), (.int (0 : Int32))]))
          refine Goes.st (fun t k => XS.icmpNo X196.here hx rfl (hb hby at_168) rfl (teq (by decide : (0 : Int32) = (0 : Int32))).2 k) ?_
          show Goes _ _ _ _ (T196.setTop (mkF m 171 #[.val (.int p0), .val (.int p1), .val (.int p2), .val (.ref b1), .val (.ref b9), .val (.ref b110), .val (.ref b163), .val (.int (1 : Int32)), .val (.int (0 : Int32)), .val (.ref b190), .val (.int (1 : Int32)), .unset, .unset] []))
          refine Goes.st (fun t k => XS.iconst X196.here hx rfl (hb hby at_171) k) ?_
          show Goes _ _ _ _ (T196.setTop (mkF m 172 #[.val (.int p0), .val (.int p1), .val (.int p2), .val (.ref b1), .val (.ref b9), .val (.ref b110), .val (.ref b163), .val (.int (1 : Int32)), .val (.int (0 : Int32)), .val (.ref b190), .val (.int (1 : Int32)), .unset, .unset] [(.int (1 : Int32))]))
          refine Goes.st (fun t k => XS.goto X196.here hx rfl (pc0 := 172) (pc' := 176) rfl (hb hby at_172) (by decide) (by decide) k) ?_
          show Goes _ _ _ _ (T196.setTop (mkF m 176 #[.val (.int p0), .val (.int p1), .val (.int p2), .val (.ref b1), .val (.ref b9), .val (.ref b110), .val (.ref b163), .val (.int (1 : Int32)), .val (.int (0 : Int32)), .val (.ref b190), .val (.int (1 : Int32)), .unset, .unset] [(.int (1 : Int32))]))
          refine Goes.st (fun t k => XS.istore X196.here hx rfl (hb hby at_176) rfl (l' := #[.val (.int p0), .val (.int p1), .val (.int p2), .val (.ref b1), .val (.ref b9), .val (.ref b110), .val (.ref b163), .val (.int (1 : Int32)), .val (.int (0 : Int32)), .val (.ref b190), .val (.int (1 : Int32)), .val (.int (1 : Int32)), .unset]) rfl k) ?_
          show Goes _ _ _ _ (T196.setTop (mkF m 178 #[.val (.int p0), .val (.int p1), .val (.int p2), .val (.ref b1), .val (.ref b9), .val (.ref b110), .val (.ref b163), .val (.int (1 : Int32)), .val (.int (0 : Int32)), .val (.ref b190), .val (.int (1 : Int32)), .val (.int (1 : Int32)), .unset] []))
          refine Goes.st (fun t k => XS.iload X196.here hx rfl (hb hby at_178) rfl k) ?_
          show Goes _ _ _ _ (T196.setTop (mkF m 180 #[.val (.int p0), .val (.int p1), .val (.int p2), .val (.ref b1), .val (.ref b9), .val (.ref b110), .val (.ref b163), .val (.int (1 : Int32)), .val (.int (0 : Int32)), .val (.ref b190), .val (.int (1 : Int32)), .val (.int (1 : Int32)), .unset] [(.int (0 : Int32))]))
          refine Goes.st (fun t k => XS.ifYes X196.here hx rfl (pc0 := 180) (pc' := 190) rfl (hb hby at_180) rfl ((if0 _ _).trans (teq (by decide : (0 : Int32) = (0 : Int32))).1) (by decide) (by decide) k) ?_
          show Goes _ _ _ _ (T196.setTop (mkF m 190 #[.val (.int p0), .val (.int p1), .val (.int p2), .val (.ref b1), .val (.ref b9), .val (.ref b110), .val (.ref b163), .val (.int (1 : Int32)), .val (.int (0 : Int32)), .val (.ref b190), .val (.int (1 : Int32)), .val (.int (1 : Int32)), .unset] []))
          refine Goes.st (fun t k => XS.aload X196.here hx rfl (hb hby at_190) rfl rfl k) ?_
          show Goes _ _ _ _ (T196.setTop (mkF m 192 #[.val (.int p0), .val (.int p1), .val (.int p2), .val (.ref b1), .val (.ref b9), .val (.ref b110), .val (.ref b163), .val (.int (1 : Int32)), .val (.int (0 : Int32)), .val (.ref b190), .val (.int (1 : Int32)), .val (.int (1 : Int32)), .unset] [(.ref b190)]))
          obtain ⟨cq197, kq197, q197a, q197b, q197c⟩ := isOf hZ167 K196 F194_0
          obtain ⟨_, _, ⟨T197, L197, k197, n197⟩, -, X197, ⟨Lc197, hQ197, l197, y197, z197⟩, st197⟩ := X196.virtualBack hx (y := (⟨"com/example/tenon/tenon/registry/Validity", "isValid", "()Z"⟩ : MethodName)) (z := (⟨"com/example/tenon/tenon/registry/Validity", "isValid", "()Z"⟩ : MethodName)) hown167 (mvT hZ167 (hw37 hw)) (mvT hZ167 (hw38 hw)) (notFace_of_selects (args := #[]) (mvT hZ167 (hw40 hw))) (mvT hZ167 (hw40 hw)) (mvT hZ167 (hw39 hw)) (by decide) (backOf (W := 0) (rm_ivR l Z a0 hw [] b190 b110 T194.heap n0 (Nat.le_trans Z0 (Nat.le_trans (Nat.le_trans (Nat.le_trans (Nat.le_trans (Nat.le_trans (Nat.le_trans (Nat.le_trans (Nat.le_trans (Nat.le_trans (Nat.le_trans (Nat.le_trans (Nat.le_trans E1.1 (Nat.le_of_eq W4.size.symm)) (Nat.le_of_eq W7.size.symm)) E9.1) (Nat.le_of_eq W12.size.symm)) E110.1) E112.1) K114.1) E163.1) E165.1) K167.1) E190.1) K194.1)) F194_1) hZ167 (hw41 hw) (hw32 hw) (by decide) (by decide)) q197a q197c (g := (mkF m 192 #[.val (.int p0), .val (.int p1), .val (.int p2), .val (.ref b1), .val (.ref b9), .val (.ref b110), .val (.ref b163), .val (.int (1 : Int32)), .val (.int (0 : Int32)), .val (.ref b190), .val (.int (1 : Int32)), .val (.int (1 : Int32)), .unset] [(.ref b190)])) rfl (by rw [hml]; rfl) (Steps.refl _) (argsL := []) (rest := []) (lenOf pd_3 rfl) rfl (by show 2 * 0 + _ ≤ _; exact Nat.le_of_eq rfl) (hb hby at_192) (fun _ _ => ⟨rfl, K196, (by decide : 15 + 0 ≤ _), (by decide : 28 + 0 ≤ _)⟩)
          dsimp only [Pt.U, Pt.locs, Pt.cells, Pt.slots] at X197 l197 y197 z197 st197 hQ197
          subst l197 y197 z197
          obtain ⟨rfl, N197q, K197⟩ := hQ197
          have N197 := Fr.app N196 N197q
          refine Goes.tr st197 ?_
          show Goes _ _ _ _ (T197.setTop (mkF m 195 #[.val (.int p0), .val (.int p1), .val (.int p2), .val (.ref b1), .val (.ref b9), .val (.ref b110), .val (.ref b163), .val (.int (1 : Int32)), .val (.int (0 : Int32)), .val (.ref b190), .val (.int (1 : Int32)), .val (.int (1 : Int32)), .unset] [(.int (0 : Int32))]))
          refine Goes.st (fun t k => XS.iload X197.here hx rfl (hb hby at_195) rfl k) ?_
          show Goes _ _ _ _ (T197.setTop (mkF m 197 #[.val (.int p0), .val (.int p1), .val (.int p2), .val (.ref b1), .val (.ref b9), .val (.ref b110), .val (.ref b163), .val (.int (1 : Int32)), .val (.int (0 : Int32)), .val (.ref b190), .val (.int (1 : Int32)), .val (.int (1 : Int32)), .unset] [(.int (1 : Int32)), (.int (0 : Int32))]))
          refine Goes.st (fun t k => XS.ifYes X197.here hx rfl (pc0 := 197) (pc' := 209) rfl (hb hby at_197) rfl ((if0 _ _).trans (feq (by decide : ¬ ((1 : Int32) = (0 : Int32)))).2) (by decide) (by decide) k) ?_
          show Goes _ _ _ _ (T197.setTop (mkF m 209 #[.val (.int p0), .val (.int p1), .val (.int p2), .val (.ref b1), .val (.ref b9), .val (.ref b110), .val (.ref b163), .val (.int (1 : Int32)), .val (.int (0 : Int32)), .val (.ref b190), .val (.int (1 : Int32)), .val (.int (1 : Int32)), .unset] [(.int (0 : Int32))]))
          refine Goes.st (fun t k => XS.iconst X197.here hx rfl (hb hby at_209) k) ?_
          show Goes _ _ _ _ (T197.setTop (mkF m 210 #[.val (.int p0), .val (.int p1), .val (.int p2), .val (.ref b1), .val (.ref b9), .val (.ref b110), .val (.ref b163), .val (.int (1 : Int32)), .val (.int (0 : Int32)), .val (.ref b190), .val (.int (1 : Int32)), .val (.int (1 : Int32)), .unset] [(.int (0 : Int32)), (.int (0 : Int32))]))
          refine Goes.st (fun t k => XS.icmpNo X197.here hx rfl (hb hby at_210) rfl (teq (by decide : (0 : Int32) = (0 : Int32))).2 k) ?_
          show Goes _ _ _ _ (T197.setTop (mkF m 213 #[.val (.int p0), .val (.int p1), .val (.int p2), .val (.ref b1), .val (.ref b9), .val (.ref b110), .val (.ref b163), .val (.int (1 : Int32)), .val (.int (0 : Int32)), .val (.ref b190), .val (.int (1 : Int32)), .val (.int (1 : Int32)), .unset] []))
          refine Goes.st (fun t k => XS.iconst X197.here hx rfl (hb hby at_213) k) ?_
          show Goes _ _ _ _ (T197.setTop (mkF m 214 #[.val (.int p0), .val (.int p1), .val (.int p2), .val (.ref b1), .val (.ref b9), .val (.ref b110), .val (.ref b163), .val (.int (1 : Int32)), .val (.int (0 : Int32)), .val (.ref b190), .val (.int (1 : Int32)), .val (.int (1 : Int32)), .unset] [(.int (1 : Int32))]))
          refine Goes.st (fun t k => XS.goto X197.here hx rfl (pc0 := 214) (pc' := 218) rfl (hb hby at_214) (by decide) (by decide) k) ?_
          show Goes _ _ _ _ (T197.setTop (mkF m 218 #[.val (.int p0), .val (.int p1), .val (.int p2), .val (.ref b1), .val (.ref b9), .val (.ref b110), .val (.ref b163), .val (.int (1 : Int32)), .val (.int (0 : Int32)), .val (.ref b190), .val (.int (1 : Int32)), .val (.int (1 : Int32)), .unset] [(.int (1 : Int32))]))
          refine Goes.st (fun t k => XS.istore X197.here hx rfl (hb hby at_218) rfl (l' := #[.val (.int p0), .val (.int p1), .val (.int p2), .val (.ref b1), .val (.ref b9), .val (.ref b110), .val (.ref b163), .val (.int (1 : Int32)), .val (.int (0 : Int32)), .val (.ref b190), .val (.int (1 : Int32)), .val (.int (1 : Int32)), .val (.int (1 : Int32))]) rfl k) ?_
          show Goes _ _ _ _ (T197.setTop (mkF m 220 #[.val (.int p0), .val (.int p1), .val (.int p2), .val (.ref b1), .val (.ref b9), .val (.ref b110), .val (.ref b163), .val (.int (1 : Int32)), .val (.int (0 : Int32)), .val (.ref b190), .val (.int (1 : Int32)), .val (.int (1 : Int32)), .val (.int (1 : Int32))] []))
          refine Goes.st (fun t k => XS.iload X197.here hx rfl (hb hby at_220) rfl k) ?_
          show Goes _ _ _ _ (T197.setTop (mkF m 222 #[.val (.int p0), .val (.int p1), .val (.int p2), .val (.ref b1), .val (.ref b9), .val (.ref b110), .val (.ref b163), .val (.int (1 : Int32)), .val (.int (0 : Int32)), .val (.ref b190), .val (.int (1 : Int32)), .val (.int (1 : Int32)), .val (.int (1 : Int32))] [(.int (1 : Int32))]))
          refine Goes.st (fun t k => XS.ifNo X197.here hx rfl (hb hby at_222) rfl ((if0 _ _).trans (feq (by decide : ¬ ((1 : Int32) = (0 : Int32)))).1) k) ?_
          show Goes _ _ _ _ (T197.setTop (mkF m 225 #[.val (.int p0), .val (.int p1), .val (.int p2), .val (.ref b1), .val (.ref b9), .val (.ref b110), .val (.ref b163), .val (.int (1 : Int32)), .val (.int (0 : Int32)), .val (.ref b190), .val (.int (1 : Int32)), .val (.int (1 : Int32)), .val (.int (1 : Int32))] []))
          refine Goes.st (fun t k => XS.iload X197.here hx rfl (hb hby at_225) rfl k) ?_
          show Goes _ _ _ _ (T197.setTop (mkF m 227 #[.val (.int p0), .val (.int p1), .val (.int p2), .val (.ref b1), .val (.ref b9), .val (.ref b110), .val (.ref b163), .val (.int (1 : Int32)), .val (.int (0 : Int32)), .val (.ref b190), .val (.int (1 : Int32)), .val (.int (1 : Int32)), .val (.int (1 : Int32))] [(.int (1 : Int32))]))
          refine Goes.st (fun t k => XS.ifNo X197.here hx rfl (hb hby at_227) rfl ((if0 _ _).trans (feq (by decide : ¬ ((1 : Int32) = (0 : Int32)))).1) k) ?_
          show Goes _ _ _ _ (T197.setTop (mkF m 230 #[.val (.int p0), .val (.int p1), .val (.int p2), .val (.ref b1), .val (.ref b9), .val (.ref b110), .val (.ref b163), .val (.int (1 : Int32)), .val (.int (0 : Int32)), .val (.ref b190), .val (.int (1 : Int32)), .val (.int (1 : Int32)), .val (.int (1 : Int32))] []))
          refine Goes.st (fun t k => XS.iload X197.here hx rfl (hb hby at_230) rfl k) ?_
          show Goes _ _ _ _ (T197.setTop (mkF m 232 #[.val (.int p0), .val (.int p1), .val (.int p2), .val (.ref b1), .val (.ref b9), .val (.ref b110), .val (.ref b163), .val (.int (1 : Int32)), .val (.int (0 : Int32)), .val (.ref b190), .val (.int (1 : Int32)), .val (.int (1 : Int32)), .val (.int (1 : Int32))] [(.int (1 : Int32))]))
          refine Goes.st (fun t k => XS.ifNo X197.here hx rfl (hb hby at_232) rfl ((if0 _ _).trans (feq (by decide : ¬ ((1 : Int32) = (0 : Int32)))).1) k) ?_
          show Goes _ _ _ _ (T197.setTop (mkF m 235 #[.val (.int p0), .val (.int p1), .val (.int p2), .val (.ref b1), .val (.ref b9), .val (.ref b110), .val (.ref b163), .val (.int (1 : Int32)), .val (.int (0 : Int32)), .val (.ref b190), .val (.int (1 : Int32)), .val (.int (1 : Int32)), .val (.int (1 : Int32))] []))
          refine Goes.st (fun t k => XS.iconst X197.here hx rfl (hb hby at_235) k) ?_
          show Goes _ _ _ _ (T197.setTop (mkF m 236 #[.val (.int p0), .val (.int p1), .val (.int p2), .val (.ref b1), .val (.ref b9), .val (.ref b110), .val (.ref b163), .val (.int (1 : Int32)), .val (.int (0 : Int32)), .val (.ref b190), .val (.int (1 : Int32)), .val (.int (1 : Int32)), .val (.int (1 : Int32))] [(.int (1 : Int32))]))
          refine Goes.st (fun t k => XS.goto X197.here hx rfl (pc0 := 236) (pc' := 240) rfl (hb hby at_236) (by decide) (by decide) k) ?_
          show Goes _ _ _ _ (T197.setTop (mkF m 240 #[.val (.int p0), .val (.int p1), .val (.int p2), .val (.ref b1), .val (.ref b9), .val (.ref b110), .val (.ref b163), .val (.int (1 : Int32)), .val (.int (0 : Int32)), .val (.ref b190), .val (.int (1 : Int32)), .val (.int (1 : Int32)), .val (.int (1 : Int32))] [(.int (1 : Int32))]))
          obtain ⟨fs, hr, hrun, hended, hRW⟩ := X197.leaveW hS167 (by rw [K197]; exact (Nat.le_trans (Nat.le_trans (Nat.le_refl _) E190.1) K194.1)) (v := some (.int (1 : Int32))) (fun h => by rw [Bd.returns] at h; cases h)
          subst hQQ
          have hCR : CHr Z EL s.vm s.heap T197.vm T197.heap := by rw [hh, K197]; exact CR195.trans (CHv.at X197 hZ167 (own_EW hw) CR195.1)
          refine ⟨_, _, retN X197 hx (t := .boolean) Bd.returns (by simp) (hb hby at_240) hr, hrun, hended, _, _, rfl, ?_, hCR, own_REmono hRW (by decide) (by decide)⟩
          show Q_law Z p0 p1 p2 G1 h0 n0 _ T197.heap _
          rw [K197]
          exact ⟨rfl, N197⟩
        case neg =>
          refine Goes.st (fun t k => XS.ifNo X167.here hx rfl (hb hby at_115) rfl ((if0 _ _).trans (feq c189).1) k) ?_
          show Goes _ _ _ _ (T167.setTop (mkF m 118 #[.val (.int p0), .val (.int p1), .val (.int p2), .val (.ref b1), .val (.ref b9), .val (.ref b110), .val (.ref b163), .val (.int (1 : Int32)), .unset, .unset, .unset, .unset, .unset] []))
          refine Goes.st (fun t k => XS.iconst X167.here hx rfl (hb hby at_118) k) ?_
          show Goes _ _ _ _ (T167.setTop (mkF m 119 #[.val (.int p0), .val (.int p1), .val (.int p2), .val (.ref b1), .val (.ref b9), .val (.ref b110), .val (.ref b163), .val (.int (1 : Int32)), .unset, .unset, .unset, .unset, .unset] [(.int (1 : Int32))]))
          refine Goes.st (fun t k => XS.goto X167.here hx rfl (pc0 := 119) (pc' := 123) rfl (hb hby at_119) (by decide) (by decide) k) ?_
          show Goes _ _ _ _ (T167.setTop (mkF m 123 #[.val (.int p0), .val (.int p1), .val (.int p2), .val (.ref b1), .val (.ref b9), .val (.ref b110), .val (.ref b163), .val (.int (1 : Int32)), .unset, .unset, .unset, .unset, .unset] [(.int (1 : Int32))]))
          refine Goes.st (fun t k => XS.istore X167.here hx rfl (hb hby at_123) rfl (l' := #[.val (.int p0), .val (.int p1), .val (.int p2), .val (.ref b1), .val (.ref b9), .val (.ref b110), .val (.ref b163), .val (.int (1 : Int32)), .val (.int (1 : Int32)), .unset, .unset, .unset, .unset]) rfl k) ?_
          show Goes _ _ _ _ (T167.setTop (mkF m 125 #[.val (.int p0), .val (.int p1), .val (.int p2), .val (.ref b1), .val (.ref b9), .val (.ref b110), .val (.ref b163), .val (.int (1 : Int32)), .val (.int (1 : Int32)), .unset, .unset, .unset, .unset] []))
          obtain ⟨T198, h198, X198, e198, E198, A198, D198, -, st198⟩ := newO X167 hx hZ167 hown167 (hw30 hw) (hw31 hw) (hw32 hw) rfl (g := (mkF m 125 #[.val (.int p0), .val (.int p1), .val (.int p2), .val (.ref b1), .val (.ref b9), .val (.ref b110), .val (.ref b163), .val (.int (1 : Int32)), .val (.int (1 : Int32)), .unset, .unset, .unset, .unset] [])) rfl (hb hby at_125) (by decide) (by decide)
          obtain ⟨b198, g198⟩ : ∃ z, z = T167.heap.size := ⟨_, rfl⟩
          rw [← g198] at A198 D198 st198
          have CR199 : CHr Z EL s.vm h0 T167.vm h198 := CR172.trans (CHr.ext E198 CR172.1)
          have sf199_b110 : Safe Z EL T167.vm h198 b110 := Safe.ext E198 CR172.1 sf172_b110
          have sf199_b163 : Safe Z EL T167.vm h198 b163 := Safe.ext E198 CR172.1 sf172_b163
          have F198_reason : Fld Z h198 b198 "com/example/tenon/tenon/registry/Validity" "reason" "Ljava/lang/String;" .null := D198 (Or.inl (hw43 hw)) (ty := (.object "java/lang/String")) (by decide)
          refine Goes.st st198 ?_
          show Goes _ _ _ _ (T198.setTop (mkF m 128 #[.val (.int p0), .val (.int p1), .val (.int p2), .val (.ref b1), .val (.ref b9), .val (.ref b110), .val (.ref b163), .val (.int (1 : Int32)), .val (.int (1 : Int32)), .unset, .unset, .unset, .unset] [(.ref b198)]))
          refine Goes.st (fun t k => XS.dup X198.here hx rfl (hb hby at_128) rfl rfl k) ?_
          show Goes _ _ _ _ (T198.setTop (mkF m 129 #[.val (.int p0), .val (.int p1), .val (.int p2), .val (.ref b1), .val (.ref b9), .val (.ref b110), .val (.ref b163), .val (.int (1 : Int32)), .val (.int (1 : Int32)), .unset, .unset, .unset, .unset] [(.ref b198), (.ref b198)]))
          obtain ⟨_, _, ⟨T200, L200, k200, n200⟩, -, X200, ⟨Lc200, hQ200, l200, y200, z200⟩, st200⟩ := X198.specialBack hx (y := (⟨"com/example/tenon/tenon/registry/Validity", "<init>", "()V"⟩ : MethodName)) rfl hown167 (mvT hZ167 (hw33 hw)) (mvT hZ167 (hw34 hw)) (mvT hZ167 (hw35 hw)) (by decide) (backOf (W := 1) (rm_vinit l Z a0 hw [] b198 h198 n0 (Nat.le_trans Z0 (Nat.le_trans (Nat.le_trans (Nat.le_trans (Nat.le_trans (Nat.le_trans (Nat.le_trans (Nat.le_trans (Nat.le_trans (Nat.le_trans (Nat.le_trans (Nat.le_trans E1.1 (Nat.le_of_eq W4.size.symm)) (Nat.le_of_eq W7.size.symm)) E9.1) (Nat.le_of_eq W12.size.symm)) E110.1) E112.1) K114.1) E163.1) E165.1) K167.1) E198.1)) ) hZ167 (hw35 hw) (hw32 hw) (by decide) (by decide)) (g := (mkF m 129 #[.val (.int p0), .val (.int p1), .val (.int p2), .val (.ref b1), .val (.ref b9), .val (.ref b110), .val (.ref b163), .val (.int (1 : Int32)), .val (.int (1 : Int32)), .unset, .unset, .unset, .unset] [(.ref b198), (.ref b198)])) rfl (by rw [hml]; rfl) (Steps.refl _) (a := b198) (argsL := []) (rest := [(.ref b198)]) (lenOf pd_2 rfl) rfl (by show 2 * 0 + _ ≤ _; exact Nat.le_of_eq rfl) (hb hby at_129) (fun _ _ => ⟨rfl, e198, (by decide : 15 + 0 ≤ _), (by decide : 28 + 0 ≤ _)⟩)
          dsimp only [Pt.U, Pt.locs, Pt.cells, Pt.slots] at X200 l200 y200 z200 st200 hQ200
          subst l200 y200 z200
          obtain ⟨rfl, N200q, K200⟩ := hQ200
          have N200 := Fr.app N167 N200q
          refine Goes.tr st200 ?_
          show Goes _ _ _ _ (T200.setTop (mkF m 132 #[.val (.int p0), .val (.int p1), .val (.int p2), .val (.ref b1), .val (.ref b9), .val (.ref b110), .val (.ref b163), .val (.int (1 : Int32)), .val (.int (1 : Int32)), .unset, .unset, .unset, .unset] [(.ref b198)]))
          refine Goes.st (fun t k => XS.astore X200.here hx rfl (hb hby at_132) rfl rfl (l' := #[.val (.int p0), .val (.int p1), .val (.int p2), .val (.ref b1), .val (.ref b9), .val (.ref b110), .val (.ref b163), .val (.int (1 : Int32)), .val (.int (1 : Int32)), .val (.ref b198), .unset, .unset, .unset]) rfl k) ?_
          show Goes _ _ _ _ (T200.setTop (mkF m 134 #[.val (.int p0), .val (.int p1), .val (.int p2), .val (.ref b1), .val (.ref b9), .val (.ref b110), .val (.ref b163), .val (.int (1 : Int32)), .val (.int (1 : Int32)), .val (.ref b198), .unset, .unset, .unset] []))
          refine Goes.st (fun t k => XS.aload X200.here hx rfl (hb hby at_134) rfl rfl k) ?_
          show Goes _ _ _ _ (T200.setTop (mkF m 136 #[.val (.int p0), .val (.int p1), .val (.int p2), .val (.ref b1), .val (.ref b9), .val (.ref b110), .val (.ref b163), .val (.int (1 : Int32)), .val (.int (1 : Int32)), .val (.ref b198), .unset, .unset, .unset] [(.ref b198)]))
          obtain ⟨cq201, kq201, q201a, q201b, q201c⟩ := isOf hZ167 K200 A198
          obtain ⟨_, _, ⟨T201, L201, k201, n201⟩, -, X201, ⟨Lc201, hQ201, l201, y201, z201⟩, st201⟩ := X200.virtualBack hx (y := (⟨"com/example/tenon/tenon/registry/Validity", "isValid", "()Z"⟩ : MethodName)) (z := (⟨"com/example/tenon/tenon/registry/Validity", "isValid", "()Z"⟩ : MethodName)) hown167 (mvT hZ167 (hw37 hw)) (mvT hZ167 (hw38 hw)) (notFace_of_selects (args := #[]) (mvT hZ167 (hw40 hw))) (mvT hZ167 (hw40 hw)) (mvT hZ167 (hw39 hw)) (by decide) (backOf (W := 0) (rm_ivN l Z a0 hw [] b198 h198 n0 (Nat.le_trans Z0 (Nat.le_trans (Nat.le_trans (Nat.le_trans (Nat.le_trans (Nat.le_trans (Nat.le_trans (Nat.le_trans (Nat.le_trans (Nat.le_trans (Nat.le_trans (Nat.le_trans E1.1 (Nat.le_of_eq W4.size.symm)) (Nat.le_of_eq W7.size.symm)) E9.1) (Nat.le_of_eq W12.size.symm)) E110.1) E112.1) K114.1) E163.1) E165.1) K167.1) E198.1)) F198_reason) hZ167 (hw41 hw) (hw32 hw) (by decide) (by decide)) q201a q201c (g := (mkF m 136 #[.val (.int p0), .val (.int p1), .val (.int p2), .val (.ref b1), .val (.ref b9), .val (.ref b110), .val (.ref b163), .val (.int (1 : Int32)), .val (.int (1 : Int32)), .val (.ref b198), .unset, .unset, .unset] [(.ref b198)])) rfl (by rw [hml]; rfl) (Steps.refl _) (argsL := []) (rest := []) (lenOf pd_3 rfl) rfl (by show 2 * 0 + _ ≤ _; exact Nat.le_of_eq rfl) (hb hby at_136) (fun _ _ => ⟨rfl, K200, (by decide : 15 + 0 ≤ _), (by decide : 28 + 0 ≤ _)⟩)
          dsimp only [Pt.U, Pt.locs, Pt.cells, Pt.slots] at X201 l201 y201 z201 st201 hQ201
          subst l201 y201 z201
          obtain ⟨rfl, N201q, K201⟩ := hQ201
          have N201 := Fr.app N200 N201q
          refine Goes.tr st201 ?_
          show Goes _ _ _ _ (T201.setTop (mkF m 139 #[.val (.int p0), .val (.int p1), .val (.int p2), .val (.ref b1), .val (.ref b9), .val (.ref b110), .val (.ref b163), .val (.int (1 : Int32)), .val (.int (1 : Int32)), .val (.ref b198), .unset, .unset, .unset] [(.int (1 : Int32))]))
          refine Goes.st (fun t k => XS.istore X201.here hx rfl (hb hby at_139) rfl (l' := #[.val (.int p0), .val (.int p1), .val (.int p2), .val (.ref b1), .val (.ref b9), .val (.ref b110), .val (.ref b163), .val (.int (1 : Int32)), .val (.int (1 : Int32)), .val (.ref b198), .val (.int (1 : Int32)), .unset, .unset]) rfl k) ?_
          show Goes _ _ _ _ (T201.setTop (mkF m 141 #[.val (.int p0), .val (.int p1), .val (.int p2), .val (.ref b1), .val (.ref b9), .val (.ref b110), .val (.ref b163), .val (.int (1 : Int32)), .val (.int (1 : Int32)), .val (.ref b198), .val (.int (1 : Int32)), .unset, .unset] []))
          refine Goes.st (fun t k => XS.iload X201.here hx rfl (hb hby at_141) rfl k) ?_
          show Goes _ _ _ _ (T201.setTop (mkF m 143 #[.val (.int p0), .val (.int p1), .val (.int p2), .val (.ref b1), .val (.ref b9), .val (.ref b110), .val (.ref b163), .val (.int (1 : Int32)), .val (.int (1 : Int32)), .val (.ref b198), .val (.int (1 : Int32)), .unset, .unset] [(.int (1 : Int32))]))
          refine Goes.st (fun t k => XS.ifNo X201.here hx rfl (hb hby at_143) rfl ((if0 _ _).trans (feq (by decide : ¬ ((1 : Int32) = (0 : Int32)))).1) k) ?_
          show Goes _ _ _ _ (T201.setTop (mkF m 146 #[.val (.int p0), .val (.int p1), .val (.int p2), .val (.ref b1), .val (.ref b9), .val (.ref b110), .val (.ref b163), .val (.int (1 : Int32)), .val (.int (1 : Int32)), .val (.ref b198), .val (.int (1 : Int32)), .unset, .unset] []))
          refine Goes.st (fun t k => XS.aload X201.here hx rfl (hb hby at_146) rfl rfl k) ?_
          show Goes _ _ _ _ (T201.setTop (mkF m 148 #[.val (.int p0), .val (.int p1), .val (.int p2), .val (.ref b1), .val (.ref b9), .val (.ref b110), .val (.ref b163), .val (.int (1 : Int32)), .val (.int (1 : Int32)), .val (.ref b198), .val (.int (1 : Int32)), .unset, .unset] [(.ref b198)]))
          refine Goes.st (fun t k => XS.aload X201.here hx rfl (hb hby at_148) rfl rfl k) ?_
          show Goes _ _ _ _ (T201.setTop (mkF m 150 #[.val (.int p0), .val (.int p1), .val (.int p2), .val (.ref b1), .val (.ref b9), .val (.ref b110), .val (.ref b163), .val (.int (1 : Int32)), .val (.int (1 : Int32)), .val (.ref b198), .val (.int (1 : Int32)), .unset, .unset] [(.ref b110), (.ref b198)]))
          obtain ⟨cq202, kq202, q202a, q202b, q202c⟩ := isOf hZ167 K201 A198
          obtain ⟨_, _, ⟨T202, L202, k202, n202⟩, -, X202, ⟨Lc202, hQ202, l202, y202, z202⟩, st202⟩ := X201.virtualBack hx (y := (⟨"com/example/tenon/tenon/registry/Validity", "invalidate", "(Ljava/lang/String;)V"⟩ : MethodName)) (z := (⟨"com/example/tenon/tenon/registry/Validity", "invalidate", "(Ljava/lang/String;)V"⟩ : MethodName)) hown167 (mvT hZ167 (hw44 hw)) (mvT hZ167 (hw45 hw)) (notFace_of_selects (args := #[]) (mvT hZ167 (hw47 hw))) (mvT hZ167 (hw47 hw)) (mvT hZ167 (hw46 hw)) (by decide) (backOf (W := 0) (rm_inv l Z a0 hw [] b198 b110 (Value.null) h198 n0 (Nat.le_trans Z0 (Nat.le_trans (Nat.le_trans (Nat.le_trans (Nat.le_trans (Nat.le_trans (Nat.le_trans (Nat.le_trans (Nat.le_trans (Nat.le_trans (Nat.le_trans (Nat.le_trans E1.1 (Nat.le_of_eq W4.size.symm)) (Nat.le_of_eq W7.size.symm)) E9.1) (Nat.le_of_eq W12.size.symm)) E110.1) E112.1) K114.1) E163.1) E165.1) K167.1) E198.1)) A198 F198_reason (Nat.le_trans Z0 (Nat.le_trans (Nat.le_trans (Nat.le_trans (Nat.le_trans (Nat.le_trans (Nat.le_trans (Nat.le_trans (Nat.le_trans (Nat.le_trans (Nat.le_trans (Nat.le_trans E1.1 (Nat.le_of_eq W4.size.symm)) (Nat.le_of_eq W7.size.symm)) E9.1) (Nat.le_of_eq W12.size.symm)) E110.1) E112.1) K114.1) E163.1) E165.1) K167.1) (Nat.le_of_eq g198.symm)))) hZ167 (hw48 hw) (hw32 hw) (by decide) (by decide)) q202a q202c (g := (mkF m 150 #[.val (.int p0), .val (.int p1), .val (.int p2), .val (.ref b1), .val (.ref b9), .val (.ref b110), .val (.ref b163), .val (.int (1 : Int32)), .val (.int (1 : Int32)), .val (.ref b198), .val (.int (1 : Int32)), .unset, .unset] [(.ref b110), (.ref b198)])) rfl (by rw [hml]; rfl) (Steps.refl _) (argsL := [(.ref b110)]) (rest := []) (lenOf pd_4 rfl) rfl (by show 2 * 0 + _ ≤ _; exact Nat.le_of_eq rfl) (hb hby at_150) (fun _ _ => ⟨rfl, K201, (by decide : 15 + 0 ≤ _), (by decide : 28 + 0 ≤ _)⟩)
          dsimp only [Pt.U, Pt.locs, Pt.cells, Pt.slots] at X202 l202 y202 z202 st202 hQ202
          subst l202 y202 z202
          obtain ⟨rfl, N202q, K202, F202_0, F202_1⟩ := hQ202
          have N202 := Fr.app N201 N202q
          have hs203 : ∀ x ∈ ([b198] : List Addr), Safe Z EL T167.vm h198 x := (allS (Safe.exa hZ167.alike A198 (by decide) (by decide)) all0)
          have CR203 : CHr Z EL s.vm h0 T167.vm T202.heap := CR199.trans (CHr.keep K202 hs203 CR199.1)
          have sf203_b110 : Safe Z EL T167.vm T202.heap b110 := Safe.keep K202 hs203 CR199.1 sf199_b110
          have sf203_b163 : Safe Z EL T167.vm T202.heap b163 := Safe.keep K202 hs203 CR199.1 sf199_b163
          refine Goes.tr st202 ?_
          show Goes _ _ _ _ (T202.setTop (mkF m 153 #[.val (.int p0), .val (.int p1), .val (.int p2), .val (.ref b1), .val (.ref b9), .val (.ref b110), .val (.ref b163), .val (.int (1 : Int32)), .val (.int (1 : Int32)), .val (.ref b198), .val (.int (1 : Int32)), .unset, .unset] []))
          refine Goes.st (fun t k => XS.aload X202.here hx rfl (hb hby at_153) rfl rfl k) ?_
          show Goes _ _ _ _ (T202.setTop (mkF m 155 #[.val (.int p0), .val (.int p1), .val (.int p2), .val (.ref b1), .val (.ref b9), .val (.ref b110), .val (.ref b163), .val (.int (1 : Int32)), .val (.int (1 : Int32)), .val (.ref b198), .val (.int (1 : Int32)), .unset, .unset] [(.ref b198)]))
          obtain ⟨cq204, kq204, q204a, q204b, q204c⟩ := isOf hZ167 rfl F202_0
          obtain ⟨_, _, ⟨T204, L204, k204, n204⟩, -, X204, ⟨Lc204, hQ204, l204, y204, z204⟩, st204⟩ := X202.virtualBack hx (y := (⟨"com/example/tenon/tenon/registry/Validity", "isValid", "()Z"⟩ : MethodName)) (z := (⟨"com/example/tenon/tenon/registry/Validity", "isValid", "()Z"⟩ : MethodName)) hown167 (mvT hZ167 (hw37 hw)) (mvT hZ167 (hw38 hw)) (notFace_of_selects (args := #[]) (mvT hZ167 (hw40 hw))) (mvT hZ167 (hw40 hw)) (mvT hZ167 (hw39 hw)) (by decide) (backOf (W := 0) (rm_ivR l Z a0 hw [] b198 b110 T202.heap n0 (Nat.le_trans Z0 (Nat.le_trans (Nat.le_trans (Nat.le_trans (Nat.le_trans (Nat.le_trans (Nat.le_trans (Nat.le_trans (Nat.le_trans (Nat.le_trans (Nat.le_trans (Nat.le_trans (Nat.le_trans E1.1 (Nat.le_of_eq W4.size.symm)) (Nat.le_of_eq W7.size.symm)) E9.1) (Nat.le_of_eq W12.size.symm)) E110.1) E112.1) K114.1) E163.1) E165.1) K167.1) E198.1) K202.1)) F202_1) hZ167 (hw41 hw) (hw32 hw) (by decide) (by decide)) q204a q204c (g := (mkF m 155 #[.val (.int p0), .val (.int p1), .val (.int p2), .val (.ref b1), .val (.ref b9), .val (.ref b110), .val (.ref b163), .val (.int (1 : Int32)), .val (.int (1 : Int32)), .val (.ref b198), .val (.int (1 : Int32)), .unset, .unset] [(.ref b198)])) rfl (by rw [hml]; rfl) (Steps.refl _) (argsL := []) (rest := []) (lenOf pd_3 rfl) rfl (by show 2 * 0 + _ ≤ _; exact Nat.le_of_eq rfl) (hb hby at_155) (fun _ _ => ⟨rfl, rfl, (by decide : 15 + 0 ≤ _), (by decide : 28 + 0 ≤ _)⟩)
          dsimp only [Pt.U, Pt.locs, Pt.cells, Pt.slots] at X204 l204 y204 z204 st204 hQ204
          subst l204 y204 z204
          obtain ⟨rfl, N204q, K204⟩ := hQ204
          have N204 := Fr.app N202 N204q
          refine Goes.tr st204 ?_
          show Goes _ _ _ _ (T204.setTop (mkF m 158 #[.val (.int p0), .val (.int p1), .val (.int p2), .val (.ref b1), .val (.ref b9), .val (.ref b110), .val (.ref b163), .val (.int (1 : Int32)), .val (.int (1 : Int32)), .val (.ref b198), .val (.int (1 : Int32)), .unset, .unset] [(.int (0 : Int32))]))
          refine Goes.st (fun t k => XS.iload X204.here hx rfl (hb hby at_158) rfl k) ?_
          show Goes _ _ _ _ (T204.setTop (mkF m 160 #[.val (.int p0), .val (.int p1), .val (.int p2), .val (.ref b1), .val (.ref b9), .val (.ref b110), .val (.ref b163), .val (.int (1 : Int32)), .val (.int (1 : Int32)), .val (.ref b198), .val (.int (1 : Int32)), .unset, .unset] [(.int (1 : Int32)), (.int (0 : Int32))]))
          refine Goes.st (fun t k => XS.ifYes X204.here hx rfl (pc0 := 160) (pc' := 167) rfl (hb hby at_160) rfl ((if0 _ _).trans (feq (by decide : ¬ ((1 : Int32) = (0 : Int32)))).2) (by decide) (by decide) k) ?_
          show Goes _ _ _ _ (T204.setTop (mkF m 167 #[.val (.int p0), .val (.int p1), .val (.int p2), .val (.ref b1), .val (.ref b9), .val (.ref b110), .val (.ref b163), .val (.int (1 : Int32)), .val (.int (1 : Int32)), .val (.ref b198), .val (.int (1 : Int32)), .unset, .unset] [(.int (0 : Int32))]))
          refine Goes.st (fun t k => XS.iconst X204.here hx rfl (hb hby at_167) k) ?_
          show Goes _ _ _ _ (T204.setTop (mkF m 168 #[.val (.int p0), .val (.int p1), .val (.int p2), .val (.ref b1), .val (.ref b9), .val (.ref b110), .val (.ref b163), .val (.int (1 : Int32)), .val (.int (1 : Int32)), .val (.ref b198), .val (.int (1 : Int32)), .unset, .unset] [(.int (0 : Int32)), (.int (0 : Int32))]))
          refine Goes.st (fun t k => XS.icmpNo X204.here hx rfl (hb hby at_168) rfl (teq (by decide : (0 : Int32) = (0 : Int32))).2 k) ?_
          show Goes _ _ _ _ (T204.setTop (mkF m 171 #[.val (.int p0), .val (.int p1), .val (.int p2), .val (.ref b1), .val (.ref b9), .val (.ref b110), .val (.ref b163), .val (.int (1 : Int32)), .val (.int (1 : Int32)), .val (.ref b198), .val (.int (1 : Int32)), .unset, .unset] []))
          refine Goes.st (fun t k => XS.iconst X204.here hx rfl (hb hby at_171) k) ?_
          show Goes _ _ _ _ (T204.setTop (mkF m 172 #[.val (.int p0), .val (.int p1), .val (.int p2), .val (.ref b1), .val (.ref b9), .val (.ref b110), .val (.ref b163), .val (.int (1 : Int32)), .val (.int (1 : Int32)), .val (.ref b198), .val (.int (1 : Int32)), .unset, .unset] [(.int (1 : Int32))]))
          refine Goes.st (fun t k => XS.goto X204.here hx rfl (pc0 := 172) (pc' := 176) rfl (hb hby at_172) (by decide) (by decide) k) ?_
          show Goes _ _ _ _ (T204.setTop (mkF m 176 #[.val (.int p0), .val (.int p1), .val (.int p2), .val (.ref b1), .val (.ref b9), .val (.ref b110), .val (.ref b163), .val (.int (1 : Int32)), .val (.int (1 : Int32)), .val (.ref b198), .val (.int (1 : Int32)), .unset, .unset] [(.int (1 : Int32))]))
          refine Goes.st (fun t k => XS.istore X204.here hx rfl (hb hby at_176) rfl (l' := #[.val (.int p0), .val (.int p1), .val (.int p2), .val (.ref b1), .val (.ref b9), .val (.ref b110), .val (.ref b163), .val (.int (1 : Int32)), .val (.int (1 : Int32)), .val (.ref b198), .val (.int (1 : Int32)), .val (.int (1 : Int32)), .unset]) rfl k) ?_
          show Goes _ _ _ _ (T204.setTop (mkF m 178 #[.val (.int p0), .val (.int p1), .val (.int p2), .val (.ref b1), .val (.ref b9), .val (.ref b110), .val (.ref b163), .val (.int (1 : Int32)), .val (.int (1 : Int32)), .val (.ref b198), .val (.int (1 : Int32)), .val (.int (1 : Int32)), .unset] []))
          refine Goes.st (fun t k => XS.iload X204.here hx rfl (hb hby at_178) rfl k) ?_
          show Goes _ _ _ _ (T204.setTop (mkF m 180 #[.val (.int p0), .val (.int p1), .val (.int p2), .val (.ref b1), .val (.ref b9), .val (.ref b110), .val (.ref b163), .val (.int (1 : Int32)), .val (.int (1 : Int32)), .val (.ref b198), .val (.int (1 : Int32)), .val (.int (1 : Int32)), .unset] [(.int (1 : Int32))]))
          refine Goes.st (fun t k => XS.ifNo X204.here hx rfl (hb hby at_180) rfl ((if0 _ _).trans (feq (by decide : ¬ ((1 : Int32) = (0 : Int32)))).1) k) ?_
          show Goes _ _ _ _ (T204.setTop (mkF m 183 #[.val (.int p0), .val (.int p1), .val (.int p2), .val (.ref b1), .val (.ref b9), .val (.ref b110), .val (.ref b163), .val (.int (1 : Int32)), .val (.int (1 : Int32)), .val (.ref b198), .val (.int (1 : Int32)), .val (.int (1 : Int32)), .unset] []))
          refine Goes.st (fun t k => XS.aload X204.here hx rfl (hb hby at_183) rfl rfl k) ?_
          show Goes _ _ _ _ (T204.setTop (mkF m 185 #[.val (.int p0), .val (.int p1), .val (.int p2), .val (.ref b1), .val (.ref b9), .val (.ref b110), .val (.ref b163), .val (.int (1 : Int32)), .val (.int (1 : Int32)), .val (.ref b198), .val (.int (1 : Int32)), .val (.int (1 : Int32)), .unset] [(.ref b198)]))
          refine Goes.st (fun t k => XS.aload X204.here hx rfl (hb hby at_185) rfl rfl k) ?_
          show Goes _ _ _ _ (T204.setTop (mkF m 187 #[.val (.int p0), .val (.int p1), .val (.int p2), .val (.ref b1), .val (.ref b9), .val (.ref b110), .val (.ref b163), .val (.int (1 : Int32)), .val (.int (1 : Int32)), .val (.ref b198), .val (.int (1 : Int32)), .val (.int (1 : Int32)), .unset] [(.ref b163), (.ref b198)]))
          obtain ⟨cq205, kq205, q205a, q205b, q205c⟩ := isOf hZ167 K204 F202_0
          obtain ⟨_, _, ⟨T205, L205, k205, n205⟩, -, X205, ⟨Lc205, hQ205, l205, y205, z205⟩, st205⟩ := X204.virtualBack hx (y := (⟨"com/example/tenon/tenon/registry/Validity", "invalidate", "(Ljava/lang/String;)V"⟩ : MethodName)) (z := (⟨"com/example/tenon/tenon/registry/Validity", "invalidate", "(Ljava/lang/String;)V"⟩ : MethodName)) hown167 (mvT hZ167 (hw44 hw)) (mvT hZ167 (hw45 hw)) (notFace_of_selects (args := #[]) (mvT hZ167 (hw47 hw))) (mvT hZ167 (hw47 hw)) (mvT hZ167 (hw46 hw)) (by decide) (backOf (W := 0) (rm_inv l Z a0 hw [] b198 b163 (Value.ref b110) T202.heap n0 (Nat.le_trans Z0 (Nat.le_trans (Nat.le_trans (Nat.le_trans (Nat.le_trans (Nat.le_trans (Nat.le_trans (Nat.le_trans (Nat.le_trans (Nat.le_trans (Nat.le_trans (Nat.le_trans (Nat.le_trans E1.1 (Nat.le_of_eq W4.size.symm)) (Nat.le_of_eq W7.size.symm)) E9.1) (Nat.le_of_eq W12.size.symm)) E110.1) E112.1) K114.1) E163.1) E165.1) K167.1) E198.1) K202.1)) F202_0 F202_1 (Nat.le_trans Z0 (Nat.le_trans (Nat.le_trans (Nat.le_trans (Nat.le_trans (Nat.le_trans (Nat.le_trans (Nat.le_trans (Nat.le_trans (Nat.le_trans (Nat.le_trans (Nat.le_trans E1.1 (Nat.le_of_eq W4.size.symm)) (Nat.le_of_eq W7.size.symm)) E9.1) (Nat.le_of_eq W12.size.symm)) E110.1) E112.1) K114.1) E163.1) E165.1) K167.1) (Nat.le_of_eq g198.symm)))) hZ167 (hw48 hw) (hw32 hw) (by decide) (by decide)) q205a q205c (g := (mkF m 187 #[.val (.int p0), .val (.int p1), .val (.int p2), .val (.ref b1), .val (.ref b9), .val (.ref b110), .val (.ref b163), .val (.int (1 : Int32)), .val (.int (1 : Int32)), .val (.ref b198), .val (.int (1 : Int32)), .val (.int (1 : Int32)), .unset] [(.ref b163), (.ref b198)])) rfl (by rw [hml]; rfl) (Steps.refl _) (argsL := [(.ref b163)]) (rest := []) (lenOf pd_4 rfl) rfl (by show 2 * 0 + _ ≤ _; exact Nat.le_of_eq rfl) (hb hby at_187) (fun _ _ => ⟨rfl, K204, (by decide : 15 + 0 ≤ _), (by decide : 28 + 0 ≤ _)⟩)
          dsimp only [Pt.U, Pt.locs, Pt.cells, Pt.slots] at X205 l205 y205 z205 st205 hQ205
          subst l205 y205 z205
          obtain ⟨rfl, N205q, K205, F205_0, F205_1⟩ := hQ205
          have N205 := Fr.app N204 N205q
          have hs206 : ∀ x ∈ ([b198] : List Addr), Safe Z EL T167.vm T202.heap x := (allS (Safe.exa hZ167.alike F202_0 (by decide) (by decide)) all0)
          have CR206 : CHr Z EL s.vm h0 T167.vm T205.heap := CR203.trans (CHr.keep K205 hs206 CR203.1)
          have sf206_b110 : Safe Z EL T167.vm T205.heap b110 := Safe.keep K205 hs206 CR203.1 sf203_b110
          have sf206_b163 : Safe Z EL T167.vm T205.heap b163 := Safe.keep K205 hs206 CR203.1 sf203_b163
          refine Goes.tr st205 ?_
          show Goes _ _ _ _ (T205.setTop (mkF m 190 #[.val (.int p0), .val (.int p1), .val (.int p2), .val (.ref b1), .val (.ref b9), .val (.ref b110), .val (.ref b163), .val (.int (1 : Int32)), .val (.int (1 : Int32)), .val (.ref b198), .val (.int (1 : Int32)), .val (.int (1 : Int32)), .unset] []))
          refine Goes.st (fun t k => XS.aload X205.here hx rfl (hb hby at_190) rfl rfl k) ?_
          show Goes _ _ _ _ (T205.setTop (mkF m 192 #[.val (.int p0), .val (.int p1), .val (.int p2), .val (.ref b1), .val (.ref b9), .val (.ref b110), .val (.ref b163), .val (.int (1 : Int32)), .val (.int (1 : Int32)), .val (.ref b198), .val (.int (1 : Int32)), .val (.int (1 : Int32)), .unset] [(.ref b198)]))
          obtain ⟨cq207, kq207, q207a, q207b, q207c⟩ := isOf hZ167 rfl F205_0
          obtain ⟨_, _, ⟨T207, L207, k207, n207⟩, -, X207, ⟨Lc207, hQ207, l207, y207, z207⟩, st207⟩ := X205.virtualBack hx (y := (⟨"com/example/tenon/tenon/registry/Validity", "isValid", "()Z"⟩ : MethodName)) (z := (⟨"com/example/tenon/tenon/registry/Validity", "isValid", "()Z"⟩ : MethodName)) hown167 (mvT hZ167 (hw37 hw)) (mvT hZ167 (hw38 hw)) (notFace_of_selects (args := #[]) (mvT hZ167 (hw40 hw))) (mvT hZ167 (hw40 hw)) (mvT hZ167 (hw39 hw)) (by decide) (backOf (W := 0) (rm_ivR l Z a0 hw [] b198 b163 T205.heap n0 (Nat.le_trans Z0 (Nat.le_trans (Nat.le_trans (Nat.le_trans (Nat.le_trans (Nat.le_trans (Nat.le_trans (Nat.le_trans (Nat.le_trans (Nat.le_trans (Nat.le_trans (Nat.le_trans (Nat.le_trans (Nat.le_trans E1.1 (Nat.le_of_eq W4.size.symm)) (Nat.le_of_eq W7.size.symm)) E9.1) (Nat.le_of_eq W12.size.symm)) E110.1) E112.1) K114.1) E163.1) E165.1) K167.1) E198.1) K202.1) K205.1)) F205_1) hZ167 (hw41 hw) (hw32 hw) (by decide) (by decide)) q207a q207c (g := (mkF m 192 #[.val (.int p0), .val (.int p1), .val (.int p2), .val (.ref b1), .val (.ref b9), .val (.ref b110), .val (.ref b163), .val (.int (1 : Int32)), .val (.int (1 : Int32)), .val (.ref b198), .val (.int (1 : Int32)), .val (.int (1 : Int32)), .unset] [(.ref b198)])) rfl (by rw [hml]; rfl) (Steps.refl _) (argsL := []) (rest := []) (lenOf pd_3 rfl) rfl (by show 2 * 0 + _ ≤ _; exact Nat.le_of_eq rfl) (hb hby at_192) (fun _ _ => ⟨rfl, rfl, (by decide : 15 + 0 ≤ _), (by decide : 28 + 0 ≤ _)⟩)
          dsimp only [Pt.U, Pt.locs, Pt.cells, Pt.slots] at X207 l207 y207 z207 st207 hQ207
          subst l207 y207 z207
          obtain ⟨rfl, N207q, K207⟩ := hQ207
          have N207 := Fr.app N205 N207q
          refine Goes.tr st207 ?_
          show Goes _ _ _ _ (T207.setTop (mkF m 195 #[.val (.int p0), .val (.int p1), .val (.int p2), .val (.ref b1), .val (.ref b9), .val (.ref b110), .val (.ref b163), .val (.int (1 : Int32)), .val (.int (1 : Int32)), .val (.ref b198), .val (.int (1 : Int32)), .val (.int (1 : Int32)), .unset] [(.int (0 : Int32))]))
          refine Goes.st (fun t k => XS.iload X207.here hx rfl (hb hby at_195) rfl k) ?_
          show Goes _ _ _ _ (T207.setTop (mkF m 197 #[.val (.int p0), .val (.int p1), .val (.int p2), .val (.ref b1), .val (.ref b9), .val (.ref b110), .val (.ref b163), .val (.int (1 : Int32)), .val (.int (1 : Int32)), .val (.ref b198), .val (.int (1 : Int32)), .val (.int (1 : Int32)), .unset] [(.int (1 : Int32)), (.int (0 : Int32))]))
          refine Goes.st (fun t k => XS.ifYes X207.here hx rfl (pc0 := 197) (pc' := 209) rfl (hb hby at_197) rfl ((if0 _ _).trans (feq (by decide : ¬ ((1 : Int32) = (0 : Int32)))).2) (by decide) (by decide) k) ?_
          show Goes _ _ _ _ (T207.setTop (mkF m 209 #[.val (.int p0), .val (.int p1), .val (.int p2), .val (.ref b1), .val (.ref b9), .val (.ref b110), .val (.ref b163), .val (.int (1 : Int32)), .val (.int (1 : Int32)), .val (.ref b198), .val (.int (1 : Int32)), .val (.int (1 : Int32)), .unset] [(.int (0 : Int32))]))
          refine Goes.st (fun t k => XS.iconst X207.here hx rfl (hb hby at_209) k) ?_
          show Goes _ _ _ _ (T207.setTop (mkF m 210 #[.val (.int p0), .val (.int p1), .val (.int p2), .val (.ref b1), .val (.ref b9), .val (.ref b110), .val (.ref b163), .val (.int (1 : Int32)), .val (.int (1 : Int32)), .val (.ref b198), .val (.int (1 : Int32)), .val (.int (1 : Int32)), .unset] [(.int (0 : Int32)), (.int (0 : Int32))]))
          refine Goes.st (fun t k => XS.icmpNo X207.here hx rfl (hb hby at_210) rfl (teq (by decide : (0 : Int32) = (0 : Int32))).2 k) ?_
          show Goes _ _ _ _ (T207.setTop (mkF m 213 #[.val (.int p0), .val (.int p1), .val (.int p2), .val (.ref b1), .val (.ref b9), .val (.ref b110), .val (.ref b163), .val (.int (1 : Int32)), .val (.int (1 : Int32)), .val (.ref b198), .val (.int (1 : Int32)), .val (.int (1 : Int32)), .unset] []))
          refine Goes.st (fun t k => XS.iconst X207.here hx rfl (hb hby at_213) k) ?_
          show Goes _ _ _ _ (T207.setTop (mkF m 214 #[.val (.int p0), .val (.int p1), .val (.int p2), .val (.ref b1), .val (.ref b9), .val (.ref b110), .val (.ref b163), .val (.int (1 : Int32)), .val (.int (1 : Int32)), .val (.ref b198), .val (.int (1 : Int32)), .val (.int (1 : Int32)), .unset] [(.int (1 : Int32))]))
          refine Goes.st (fun t k => XS.goto X207.here hx rfl (pc0 := 214) (pc' := 218) rfl (hb hby at_214) (by decide) (by decide) k) ?_
          show Goes _ _ _ _ (T207.setTop (mkF m 218 #[.val (.int p0), .val (.int p1), .val (.int p2), .val (.ref b1), .val (.ref b9), .val (.ref b110), .val (.ref b163), .val (.int (1 : Int32)), .val (.int (1 : Int32)), .val (.ref b198), .val (.int (1 : Int32)), .val (.int (1 : Int32)), .unset] [(.int (1 : Int32))]))
          refine Goes.st (fun t k => XS.istore X207.here hx rfl (hb hby at_218) rfl (l' := #[.val (.int p0), .val (.int p1), .val (.int p2), .val (.ref b1), .val (.ref b9), .val (.ref b110), .val (.ref b163), .val (.int (1 : Int32)), .val (.int (1 : Int32)), .val (.ref b198), .val (.int (1 : Int32)), .val (.int (1 : Int32)), .val (.int (1 : Int32))]) rfl k) ?_
          show Goes _ _ _ _ (T207.setTop (mkF m 220 #[.val (.int p0), .val (.int p1), .val (.int p2), .val (.ref b1), .val (.ref b9), .val (.ref b110), .val (.ref b163), .val (.int (1 : Int32)), .val (.int (1 : Int32)), .val (.ref b198), .val (.int (1 : Int32)), .val (.int (1 : Int32)), .val (.int (1 : Int32))] []))
          refine Goes.st (fun t k => XS.iload X207.here hx rfl (hb hby at_220) rfl k) ?_
          show Goes _ _ _ _ (T207.setTop (mkF m 222 #[.val (.int p0), .val (.int p1), .val (.int p2), .val (.ref b1), .val (.ref b9), .val (.ref b110), .val (.ref b163), .val (.int (1 : Int32)), .val (.int (1 : Int32)), .val (.ref b198), .val (.int (1 : Int32)), .val (.int (1 : Int32)), .val (.int (1 : Int32))] [(.int (1 : Int32))]))
          refine Goes.st (fun t k => XS.ifNo X207.here hx rfl (hb hby at_222) rfl ((if0 _ _).trans (feq (by decide : ¬ ((1 : Int32) = (0 : Int32)))).1) k) ?_
          show Goes _ _ _ _ (T207.setTop (mkF m 225 #[.val (.int p0), .val (.int p1), .val (.int p2), .val (.ref b1), .val (.ref b9), .val (.ref b110), .val (.ref b163), .val (.int (1 : Int32)), .val (.int (1 : Int32)), .val (.ref b198), .val (.int (1 : Int32)), .val (.int (1 : Int32)), .val (.int (1 : Int32))] []))
          refine Goes.st (fun t k => XS.iload X207.here hx rfl (hb hby at_225) rfl k) ?_
          show Goes _ _ _ _ (T207.setTop (mkF m 227 #[.val (.int p0), .val (.int p1), .val (.int p2), .val (.ref b1), .val (.ref b9), .val (.ref b110), .val (.ref b163), .val (.int (1 : Int32)), .val (.int (1 : Int32)), .val (.ref b198), .val (.int (1 : Int32)), .val (.int (1 : Int32)), .val (.int (1 : Int32))] [(.int (1 : Int32))]))
          refine Goes.st (fun t k => XS.ifNo X207.here hx rfl (hb hby at_227) rfl ((if0 _ _).trans (feq (by decide : ¬ ((1 : Int32) = (0 : Int32)))).1) k) ?_
          show Goes _ _ _ _ (T207.setTop (mkF m 230 #[.val (.int p0), .val (.int p1), .val (.int p2), .val (.ref b1), .val (.ref b9), .val (.ref b110), .val (.ref b163), .val (.int (1 : Int32)), .val (.int (1 : Int32)), .val (.ref b198), .val (.int (1 : Int32)), .val (.int (1 : Int32)), .val (.int (1 : Int32))] []))
          refine Goes.st (fun t k => XS.iload X207.here hx rfl (hb hby at_230) rfl k) ?_
          show Goes _ _ _ _ (T207.setTop (mkF m 232 #[.val (.int p0), .val (.int p1), .val (.int p2), .val (.ref b1), .val (.ref b9), .val (.ref b110), .val (.ref b163), .val (.int (1 : Int32)), .val (.int (1 : Int32)), .val (.ref b198), .val (.int (1 : Int32)), .val (.int (1 : Int32)), .val (.int (1 : Int32))] [(.int (1 : Int32))]))
          refine Goes.st (fun t k => XS.ifNo X207.here hx rfl (hb hby at_232) rfl ((if0 _ _).trans (feq (by decide : ¬ ((1 : Int32) = (0 : Int32)))).1) k) ?_
          show Goes _ _ _ _ (T207.setTop (mkF m 235 #[.val (.int p0), .val (.int p1), .val (.int p2), .val (.ref b1), .val (.ref b9), .val (.ref b110), .val (.ref b163), .val (.int (1 : Int32)), .val (.int (1 : Int32)), .val (.ref b198), .val (.int (1 : Int32)), .val (.int (1 : Int32)), .val (.int (1 : Int32))] []))
          refine Goes.st (fun t k => XS.iconst X207.here hx rfl (hb hby at_235) k) ?_
          show Goes _ _ _ _ (T207.setTop (mkF m 236 #[.val (.int p0), .val (.int p1), .val (.int p2), .val (.ref b1), .val (.ref b9), .val (.ref b110), .val (.ref b163), .val (.int (1 : Int32)), .val (.int (1 : Int32)), .val (.ref b198), .val (.int (1 : Int32)), .val (.int (1 : Int32)), .val (.int (1 : Int32))] [(.int (1 : Int32))]))
          refine Goes.st (fun t k => XS.goto X207.here hx rfl (pc0 := 236) (pc' := 240) rfl (hb hby at_236) (by decide) (by decide) k) ?_
          show Goes _ _ _ _ (T207.setTop (mkF m 240 #[.val (.int p0), .val (.int p1), .val (.int p2), .val (.ref b1), .val (.ref b9), .val (.ref b110), .val (.ref b163), .val (.int (1 : Int32)), .val (.int (1 : Int32)), .val (.ref b198), .val (.int (1 : Int32)), .val (.int (1 : Int32)), .val (.int (1 : Int32))] [(.int (1 : Int32))]))
          obtain ⟨fs, hr, hrun, hended, hRW⟩ := X207.leaveW hS167 (by rw [K207]; exact (Nat.le_trans (Nat.le_trans (Nat.le_trans (Nat.le_refl _) E198.1) K202.1) K205.1)) (v := some (.int (1 : Int32))) (fun h => by rw [Bd.returns] at h; cases h)
          subst hQQ
          have hCR : CHr Z EL s.vm s.heap T207.vm T207.heap := by rw [hh, K207]; exact CR206.trans (CHv.at X207 hZ167 (own_EW hw) CR206.1)
          refine ⟨_, _, retN X207 hx (t := .boolean) Bd.returns (by simp) (hb hby at_240) hr, hrun, hended, _, _, rfl, ?_, hCR, own_REmono hRW (by decide) (by decide)⟩
          show Q_law Z p0 p1 p2 G1 h0 n0 _ T207.heap _
          rw [K207]
          exact ⟨rfl, N207⟩
set_option maxRecDepth 65536 in
set_option maxHeartbeats 40000000 in
theorem comes_1 {Post : Tables → Env → Array Value → State → Outcome → State → Prop} (hpost : ∀ tb e args s v u, (limb_1_1.after args s (.returned v) u = true ∧ limb_1_2.after args s (.returned v) u = true ∧ True) → ReturnedEndW s (.returned v) u (Jvm.fieldLocs frame_1_writes args s ++ Jvm.arrayLocs frame_1_arrays args s ++ Jvm.staticLocs frame_1_statics s) 24 1152 → Post tb e args s (.returned v) u) :
    ArmFor flags0 classFile x code maxLocals ret World_1 tables_1 room_1 Calls_1 rest_1 Pre_1 Post := by
  intro l hfl _ _ p e ha hc hk s m args below hf hA hF happ hP
  obtain ⟨hcalls, hrest, hpre⟩ := hP
  obtain ⟨-, -, -, hnamed, -, -, -, hat⟩ := (Spec.applies_iff hf).mp happ
  obtain ⟨hg, hn⟩ := and_e (Cond.before_iff.mp (show (Jvm.Cond.and given_1 narrow_1).before args s = true from hpre))
  obtain ⟨gc, gr0⟩ := and_e hg
  obtain ⟨ga0, gr1⟩ := and_e gr0
  obtain ⟨ga1, gr2⟩ := and_e gr1
  obtain ⟨w0, w1, w2, rfl⟩ : ∃ w0 w1 w2 : Value, args = #[w0, w1, w2] := by
    have hs : args.size = 3 := by simpa [Cond.value, given_1] using gc
    obtain ⟨L⟩ := args
    match L, hs with
    | [w0, w1, w2], _ => exact ⟨w0, w1, w2, rfl⟩
  have hw := fun d (hd : d ∈ tables_1) => atoms_spec (ws := Jvm.Cond.code x code maxLocals ret :: tables_1) hat d (List.mem_cons_of_mem _ hd)
  obtain ⟨hsets, hown0⟩ := atoms_of _ (rest_1_c_eq ▸ (show rest_1_c.before _ s = true from hrest))
  have n5 := not_v (Cond.before_iff.mp (hsets _ (List.mem_of_getElem? (i := 2) rfl)))
  obtain ⟨i0, ei0⟩ := is_v ga0
  obtain rfl : w0 = (.int i0) := Option.some.inj ei0
  obtain ⟨i1, ei1⟩ := is_v ga1
  obtain rfl : w1 = (.int i1) := Option.some.inj ei1
  obtain ⟨i2, ei2⟩ := is_v gr2
  obtain rfl : w2 = (.int i2) := Option.some.inj ei2
  obtain ⟨iG, eG⟩ := is_v (Cond.before_iff.mp (hsets _ (List.mem_of_getElem? (i := 1) rfl)))
  have SG : Sta s s.heap "java/lang/String" "COMPACT_STRINGS" "Z" (.int iG) := Sta.start eG (Or.inl (hsets _ (List.mem_of_getElem? (i := 0) rfl)))
  have cG : ¬ (iG = (0 : Int32)) := gotF (Cond.eq_ints eG (Term.int_eval (0))) n5
  have hCH : CHv s EL s.vm s.heap := CHv.start (own_EW hw) (fun p hp => hcalls.1 p hp) (hsets _ (List.mem_of_getElem? (i := 2) rfl)) (hw19 hw) (hw2 hw)
  obtain ⟨n, o, h1, h2, h3, _, L, rfl, ⟨rfl, N⟩, -, hq⟩ := rm_law l s _ hw tables_1 i0 i1 i2 iG s.heap s.heap.size (Nat.le_refl _) (Old.start s) SG cG p e ha hc hk s m _ below hf ((Spec.applies_iff_loose hf).mp happ).1 ⟨rfl, State.Warmed39.refl s, rfl, hCH, all0⟩ trivial
  refine ⟨n, _, h1, h2, h3, hpost _ _ _ _ _ _ ⟨Cond.after_iff.mpr rfl, Cond.after_iff.mpr (eq_i res_at (Term.int_eval (1)) rfl), trivial⟩ ⟨hq.1, hq.2.1, hq.2.2.1, (hq.2.2.2.sift fun y hy => Or.inr (N y hy)).mono (by decide) (by decide)⟩⟩
theorem main_1_1 : Claimed_1_1 := comes_1 fun _ _ _ _ _ _ h hF => ⟨h.1, hF⟩
theorem main_1_2 : Claimed_1_2 := comes_1 fun _ _ _ _ _ _ h hF => ⟨h.2.1, hF⟩
end Jvm.Pilot.@@N@@
namespace Jvm.Pilot.@@N@@
open Jvm Jvm.ClassFile Sem Op Lib Jvm.Free Jvm.Stand Jvm.Pilot.@@N@@.Jvm.D
/-! MADE BY PROGRAM (witnessworld.py) out of the Statement's table words and the real class files: 20 classes; the members and pool entries that the words name. The judged class is class 1, her method 1. -/
namespace start1
open Jvm.ClassFile
def u (s : String) : CpInfo := .utf8 (stringToUtf16 s)
/-- a pool by its gaps: so many unusable entries, then the entry; so many at the end -/
def gap : Nat → List CpInfo → List CpInfo
  | 0, r => r
  | n + 1, r => .unusable :: gap n r
def poolList (es : List (Nat × CpInfo)) (last : Nat) : List CpInfo := es.foldr (fun e r => gap e.1 (e.2 :: r)) (gap last [])
def pool (es : List (Nat × CpInfo)) (last : Nat) : Array CpInfo := ⟨poolList es last⟩
def fileOf (pool : Array CpInfo) (this : Nat) (attrs : Array Attribute := #[]) (ms : Array MethodInfo := #[]) (fl : Nat := 33) (sup : Nat := 0) (ifs : Array Nat := #[]) (fds : Array FieldInfo := #[]) : ClassFile where
  minorVersion := 0
  majorVersion := 65
  constantPool := pool
  accessFlags := fl
  thisClass := this
  superClass := sup
  interfaces := ifs
  fields := fds
  methods := ms
  attributes := attrs
def plain (name : String) (sup : Option ClassId) : Class where
  name := name
  kind := .ordinary
  loader := none
  accessFlags := 33
  super := sup
  interfaces := #[]
  cf := none
  fields := #[]
  methods := #[]
  instanceTypes := #[]
  staticTypes := #[]
  resolved := #[]
  callSites := []
  init := .initialized
  statics := none
  mirror := none

def pool0 : Array CpInfo := pool [(5, u "<init>"), (0, u "()V"), (1, .class_ 10), (1, u "java/lang/Object")] 113

def k0c0 : Code := { maxStack := 0, maxLocals := 1, code := object_method_1_code, exceptionTable := #[], attributes := #[] }
def k0m0 : Method := { name := "<init>", desc := "()V", sig := { parameters := [], returnType := none }, accessFlags := 1, code := some k0c0 }
/-- java/lang/Object -/
def k0 : Class := { plain "java/lang/Object" none with
  accessFlags := 33
  interfaces := #[]
  cf := some (fileOf pool0 8 #[] #[{ accessFlags := 1, nameIndex := 5, descriptorIndex := 6, attributes := #[] }] 33 0 #[] #[])
  fields := #[]
  methods := #[k0m0]
  instanceTypes := #[]
  staticTypes := #[]
  resolved := Array.replicate 124 none
  statics := none }

def pool1 : Array CpInfo := pool [(2, .class_ 4), (0, .nameAndType 5 6), (0, u "java/lang/Object"), (0, u "<init>"), (0, u "()V"), (0, .class_ 8), (0, u "java/lang/String"), (0, .methodref 7 10), (0, .nameAndType 5 11), (0, u "([C)V"), (0, .class_ 13), (0, u "com/example/tenon/tenon/registry/Validity"), (0, .methodref 12 3), (0, .methodref 12 16), (0, .nameAndType 17 18), (0, u "isValid"), (0, u "()Z"), (0, .methodref 12 20), (0, .nameAndType 21 22), (0, u "invalidate"), (0, u "(Ljava/lang/String;)V"), (0, .class_ 24), (0, u "com/example/tenon/tenon/registry/ValidityIsValidPinLaw"), (2, u "law"), (0, u "(III)Z")] 5

def k1m0 : Method := { name := "<init>", desc := "()V", sig := { parameters := [], returnType := none }, accessFlags := 1, code := none }
def k1c1 : Code := { maxStack := 5, maxLocals := 13, code := code, exceptionTable := #[], attributes := #[] }
def k1m1 : Method := { name := "law", desc := "(III)Z", sig := { parameters := [.int, .int, .int], returnType := some .boolean }, accessFlags := 9, code := some k1c1 }
/-- com/example/tenon/tenon/registry/ValidityIsValidPinLaw -/
def k1 : Class := { plain "com/example/tenon/tenon/registry/ValidityIsValidPinLaw" (some 0) with
  accessFlags := 49
  interfaces := #[]
  cf := some (fileOf pool1 23 #[] #[{ accessFlags := 1, nameIndex := 5, descriptorIndex := 6, attributes := #[] }, { accessFlags := 9, nameIndex := 27, descriptorIndex := 28, attributes := #[] }] 49 2 #[] #[])
  fields := #[]
  methods := #[k1m0, k1m1]
  instanceTypes := #[]
  staticTypes := #[]
  resolved := Array.replicate 34 none
  statics := none }

def pool2 : Array CpInfo := pool [(1, .class_ 2), (0, u "java/io/Serializable"), (0, .class_ 4), (0, u "java/lang/Object")] 2

/-- java/io/Serializable -/
def k2 : Class := { plain "java/io/Serializable" (some 0) with
  accessFlags := 1537
  interfaces := #[]
  cf := some (fileOf pool2 1 #[] #[] 1537 3 #[] #[])
  fields := #[]
  methods := #[]
  instanceTypes := #[]
  staticTypes := #[]
  resolved := Array.replicate 7 none
  statics := none }

def pool3 : Array CpInfo := pool [(1, .class_ 2), (0, u "java/lang/Comparable"), (0, .class_ 4), (0, u "java/lang/Object")] 7

/-- java/lang/Comparable -/
def k3 : Class := { plain "java/lang/Comparable" (some 0) with
  accessFlags := 1537
  interfaces := #[]
  cf := some (fileOf pool3 1 #[] #[] 1537 3 #[] #[])
  fields := #[]
  methods := #[]
  instanceTypes := #[]
  staticTypes := #[]
  resolved := Array.replicate 12 none
  statics := none }

def pool4 : Array CpInfo := pool [(2, .class_ 4), (1, u "java/lang/CharSequence"), (42, .class_ 48), (0, u "java/lang/CharSequence$1CodePointIterator"), (10, .class_ 60), (0, u "java/lang/CharSequence$1CharIterator"), (5, .class_ 67), (0, u "java/lang/Object")] 63

/-- java/lang/CharSequence -/
def k4 : Class := { plain "java/lang/CharSequence" (some 0) with
  accessFlags := 1537
  interfaces := #[]
  cf := some (fileOf pool4 2 #[.nestMembers #[47, 59]] #[] 1537 66 #[] #[])
  fields := #[]
  methods := #[]
  instanceTypes := #[]
  staticTypes := #[]
  resolved := Array.replicate 131 none
  statics := none }

def pool5 : Array CpInfo := pool [(1, .class_ 2), (0, u "java/lang/constant/Constable"), (0, .class_ 4), (0, u "java/lang/Object")] 6

/-- java/lang/constant/Constable -/
def k5 : Class := { plain "java/lang/constant/Constable" (some 0) with
  accessFlags := 1537
  interfaces := #[]
  cf := some (fileOf pool5 1 #[] #[] 1537 3 #[] #[])
  fields := #[]
  methods := #[]
  instanceTypes := #[]
  staticTypes := #[]
  resolved := Array.replicate 11 none
  statics := none }

def pool6 : Array CpInfo := pool [(1, .class_ 2), (0, u "java/lang/constant/ConstantDesc"), (0, .class_ 4), (0, u "java/lang/Object")] 32

/-- java/lang/constant/ConstantDesc -/
def k6 : Class := { plain "java/lang/constant/ConstantDesc" (some 0) with
  accessFlags := 1537
  interfaces := #[]
  cf := some (fileOf pool6 1 #[] #[] 1537 3 #[] #[])
  fields := #[]
  methods := #[]
  instanceTypes := #[]
  staticTypes := #[]
  resolved := Array.replicate 37 none
  statics := none }

def pool7 : Array CpInfo := pool [(1, .methodref 2 3), (0, .class_ 4), (0, .nameAndType 5 6), (0, u "java/lang/Object"), (0, u "<init>"), (0, u "()V"), (0, .string 8), (0, u ""), (0, .fieldref 10 11), (0, .class_ 12), (0, .nameAndType 13 14), (0, u "java/lang/String"), (0, u "value"), (0, u "[B"), (0, .fieldref 10 16), (0, .nameAndType 17 18), (0, u "coder"), (0, u "B"), (2, u "hash"), (0, u "I"), (2, u "hashIsZero"), (0, u "Z"), (0, .methodref 10 28), (0, .nameAndType 5 29), (0, u "([CIILjava/lang/Void;)V"), (8, .fieldref 10 39), (0, .nameAndType 40 26), (0, u "COMPACT_STRINGS"), (1, .class_ 44), (1, u "java/lang/StringUTF16"), (0, u "compress"), (1, .methodref 42 48), (0, .nameAndType 49 50), (0, u "coderFromArrayLen"), (0, u "([BI)B"), (126, .methodref 42 178), (0, .nameAndType 45 179), (0, u "([CII)[B"), (395, .class_ 576), (0, u "java/lang/CharSequence"), (22, u "CASE_INSENSITIVE_ORDER"), (0, u "Ljava/util/Comparator;"), (409, u "([C)V"), (90, u "serialPersistentFields"), (0, u "[Ljava/io/ObjectStreamField;"), (0, .class_ 1104), (0, u "java/lang/String$CaseInsensitiveComparator"), (1, .class_ 1107), (0, u "java/io/Serializable"), (0, .class_ 1109), (0, u "java/lang/Comparable"), (0, .class_ 1111), (0, u "java/lang/constant/Constable"), (0, .class_ 1113), (0, u "java/lang/constant/ConstantDesc"), (2, u "serialVersionUID"), (0, u "J"), (3, u "REPL"), (0, u "C"), (2, u "LATIN1"), (1, u "UTF16")] 323

def k7m0 : Method := { name := "<init>", desc := "()V", sig := { parameters := [], returnType := none }, accessFlags := 1, code := none }
def k7c1 : Code := { maxStack := 5, maxLocals := 2, code := jdk_42_method_3_code, exceptionTable := #[], attributes := #[] }
def k7m1 : Method := { name := "<init>", desc := "([C)V", sig := { parameters := [(.array .char)], returnType := none }, accessFlags := 1, code := some k7c1 }
def k7c2 : Code := { maxStack := 4, maxLocals := 6, code := jdk_42_method_149_code, exceptionTable := #[], attributes := #[] }
def k7m2 : Method := { name := "<init>", desc := "([CIILjava/lang/Void;)V", sig := { parameters := [(.array .char), .int, .int, (.object "java/lang/Void")], returnType := none }, accessFlags := 2, code := some k7c2 }
/-- java/lang/String -/
def k7 : Class := { plain "java/lang/String" (some 0) with
  accessFlags := 49
  interfaces := #[2, 3, 4, 5, 6]
  cf := some (fileOf pool7 10 #[.nestMembers #[1103]] #[{ accessFlags := 1, nameIndex := 5, descriptorIndex := 6, attributes := #[] }, { accessFlags := 1, nameIndex := 5, descriptorIndex := 1010, attributes := #[] }, { accessFlags := 2, nameIndex := 5, descriptorIndex := 29, attributes := #[] }] 49 2 #[1106, 1108, 575, 1110, 1112] #[{ accessFlags := 18, nameIndex := 13, descriptorIndex := 14, attributes := #[] }, { accessFlags := 18, nameIndex := 17, descriptorIndex := 18, attributes := #[] }, { accessFlags := 2, nameIndex := 21, descriptorIndex := 22, attributes := #[] }, { accessFlags := 2, nameIndex := 25, descriptorIndex := 26, attributes := #[] }, { accessFlags := 26, nameIndex := 1116, descriptorIndex := 1117, attributes := #[] }, { accessFlags := 24, nameIndex := 40, descriptorIndex := 26, attributes := #[] }, { accessFlags := 26, nameIndex := 1101, descriptorIndex := 1102, attributes := #[] }, { accessFlags := 26, nameIndex := 1121, descriptorIndex := 1122, attributes := #[] }, { accessFlags := 25, nameIndex := 599, descriptorIndex := 600, attributes := #[] }, { accessFlags := 24, nameIndex := 1125, descriptorIndex := 18, attributes := #[] }, { accessFlags := 24, nameIndex := 1127, descriptorIndex := 18, attributes := #[] }])
  fields := #[{ name := "value", type := (.array .byte), accessFlags := 18, slot := 0, constantValue := 0 }, { name := "coder", type := .byte, accessFlags := 18, slot := 1, constantValue := 0 }, { name := "hash", type := .int, accessFlags := 2, slot := 2, constantValue := 0 }, { name := "hashIsZero", type := .boolean, accessFlags := 2, slot := 3, constantValue := 0 }, { name := "serialVersionUID", type := .long, accessFlags := 26, slot := 0, constantValue := 0 }, { name := "COMPACT_STRINGS", type := .boolean, accessFlags := 24, slot := 1, constantValue := 0 }, { name := "serialPersistentFields", type := (.array (.object "java/io/ObjectStreamField")), accessFlags := 26, slot := 2, constantValue := 0 }, { name := "REPL", type := .char, accessFlags := 26, slot := 3, constantValue := 0 }, { name := "CASE_INSENSITIVE_ORDER", type := (.object "java/util/Comparator"), accessFlags := 25, slot := 4, constantValue := 0 }, { name := "LATIN1", type := .byte, accessFlags := 24, slot := 5, constantValue := 0 }, { name := "UTF16", type := .byte, accessFlags := 24, slot := 6, constantValue := 0 }]
  methods := #[k7m0, k7m1, k7m2]
  instanceTypes := #[(.array .byte), .byte, .int, .boolean]
  staticTypes := #[.long, .boolean, (.array (.object "java/io/ObjectStreamField")), .char, (.object "java/util/Comparator"), .byte, .byte]
  resolved := Array.replicate 1451 none
  statics := some 0 }

def pool8 : Array CpInfo := pool [(6, .class_ 8), (1, u "java/lang/Object"), (0, u "<init>"), (0, u "()V"), (1, .class_ 14), (1, u "java/lang/StringUTF16"), (31, u "$assertionsDisabled"), (0, u "Z"), (13, u "HI_BYTE_SHIFT"), (0, u "I"), (2, u "LO_BYTE_SHIFT"), (49, .methodref 12 116), (0, .nameAndType 117 118), (0, u "compress"), (0, u "([CI[BII)I"), (3, u "([CII)[B"), (138, u "coderFromArrayLen"), (0, u "([BI)B"), (106, .class_ 371), (1, u "java/lang/StringUTF16$LinesSpliterator"), (58, u "MAX_LENGTH"), (196, .class_ 628), (0, u "java/lang/StringUTF16$CodePointsSpliterator"), (0, .class_ 630), (0, u "java/lang/StringUTF16$CharsSpliterator")] 4

def k8m0 : Method := { name := "<init>", desc := "()V", sig := { parameters := [], returnType := none }, accessFlags := 0, code := none }
def k8c1 : Code := { maxStack := 2, maxLocals := 2, code := jdk_52_method_15_code, exceptionTable := #[], attributes := #[] }
def k8m1 : Method := { name := "coderFromArrayLen", desc := "([BI)B", sig := { parameters := [(.array .byte), .int], returnType := some .byte }, accessFlags := 8, code := some k8c1 }
def k8c2 : Code := { maxStack := 5, maxLocals := 6, code := jdk_52_method_16_code, exceptionTable := #[], attributes := #[] }
def k8m2 : Method := { name := "compress", desc := "([CII)[B", sig := { parameters := [(.array .char), .int, .int], returnType := some (.array .byte) }, accessFlags := 9, code := some k8c2 }
def k8c3 : Code := { maxStack := 3, maxLocals := 7, code := jdk_52_method_21_code, exceptionTable := #[], attributes := #[] }
def k8m3 : Method := { name := "compress", desc := "([CI[BII)I", sig := { parameters := [(.array .char), .int, (.array .byte), .int, .int], returnType := some .int }, accessFlags := 9, code := some k8c3 }
/-- java/lang/StringUTF16 -/
def k8 : Class := { plain "java/lang/StringUTF16" (some 0) with
  accessFlags := 48
  interfaces := #[]
  cf := some (fileOf pool8 12 #[.nestMembers #[627, 629, 369]] #[{ accessFlags := 0, nameIndex := 9, descriptorIndex := 10, attributes := #[] }, { accessFlags := 8, nameIndex := 261, descriptorIndex := 262, attributes := #[] }, { accessFlags := 9, nameIndex := 117, descriptorIndex := 122, attributes := #[] }, { accessFlags := 9, nameIndex := 117, descriptorIndex := 118, attributes := #[] }] 48 6 #[] #[{ accessFlags := 26, nameIndex := 61, descriptorIndex := 62, attributes := #[] }, { accessFlags := 26, nameIndex := 65, descriptorIndex := 62, attributes := #[] }, { accessFlags := 24, nameIndex := 430, descriptorIndex := 62, attributes := #[] }, { accessFlags := 4120, nameIndex := 46, descriptorIndex := 47, attributes := #[] }])
  fields := #[{ name := "HI_BYTE_SHIFT", type := .int, accessFlags := 26, slot := 0, constantValue := 0 }, { name := "LO_BYTE_SHIFT", type := .int, accessFlags := 26, slot := 1, constantValue := 0 }, { name := "MAX_LENGTH", type := .int, accessFlags := 24, slot := 2, constantValue := 0 }, { name := "$assertionsDisabled", type := .boolean, accessFlags := 4120, slot := 3, constantValue := 0 }]
  methods := #[k8m0, k8m1, k8m2, k8m3]
  instanceTypes := #[]
  staticTypes := #[.int, .int, .int, .boolean]
  resolved := Array.replicate 635 none
  statics := none }

def pool9 : Array CpInfo := pool [(1, .methodref 2 3), (0, .class_ 4), (0, .nameAndType 5 6), (0, u "java/lang/Object"), (0, u "<init>"), (0, u "()V"), (0, .fieldref 8 9), (0, .class_ 10), (0, .nameAndType 11 12), (0, u "com/example/tenon/tenon/registry/Validity"), (0, u "reason"), (0, u "Ljava/lang/String;"), (8, u "(Ljava/lang/String;)V"), (3, u "PERMANENT"), (0, u "Lcom/example/tenon/tenon/registry/Validity;"), (2, u "isValid"), (0, u "()Z"), (1, u "invalidate")] 22

def k9c0 : Code := { maxStack := 1, maxLocals := 1, code := prog_77_method_1_code, exceptionTable := #[], attributes := #[] }
def k9m0 : Method := { name := "<init>", desc := "()V", sig := { parameters := [], returnType := none }, accessFlags := 0, code := some k9c0 }
def k9c1 : Code := { maxStack := 1, maxLocals := 1, code := prog_77_method_2_code, exceptionTable := #[], attributes := #[] }
def k9m1 : Method := { name := "isValid", desc := "()Z", sig := { parameters := [], returnType := some .boolean }, accessFlags := 0, code := some k9c1 }
def k9c2 : Code := { maxStack := 2, maxLocals := 2, code := prog_77_method_3_code, exceptionTable := #[], attributes := #[] }
def k9m2 : Method := { name := "invalidate", desc := "(Ljava/lang/String;)V", sig := { parameters := [(.object "java/lang/String")], returnType := none }, accessFlags := 0, code := some k9c2 }
/-- com/example/tenon/tenon/registry/Validity -/
def k9 : Class := { plain "com/example/tenon/tenon/registry/Validity" (some 0) with
  accessFlags := 48
  interfaces := #[]
  cf := some (fileOf pool9 8 #[] #[{ accessFlags := 0, nameIndex := 5, descriptorIndex := 6, attributes := #[] }, { accessFlags := 0, nameIndex := 29, descriptorIndex := 30, attributes := #[] }, { accessFlags := 0, nameIndex := 32, descriptorIndex := 21, attributes := #[] }] 48 2 #[] #[{ accessFlags := 24, nameIndex := 25, descriptorIndex := 26, attributes := #[] }, { accessFlags := 66, nameIndex := 11, descriptorIndex := 12, attributes := #[] }])
  fields := #[{ name := "PERMANENT", type := (.object "com/example/tenon/tenon/registry/Validity"), accessFlags := 24, slot := 0, constantValue := 0 }, { name := "reason", type := (.object "java/lang/String"), accessFlags := 66, slot := 0, constantValue := 0 }]
  methods := #[k9m0, k9m1, k9m2]
  instanceTypes := #[(.object "java/lang/String")]
  staticTypes := #[(.object "com/example/tenon/tenon/registry/Validity")]
  resolved := Array.replicate 55 none
  statics := none }

def pool10 : Array CpInfo := pool [(4, .class_ 6), (1, u "java/lang/Object"), (0, u "<init>"), (0, u "()V"), (5, .class_ 16), (1, u "java/lang/StringLatin1"), (104, u "$assertionsDisabled"), (0, u "Z"), (98, .class_ 223), (1, u "java/lang/StringLatin1$LinesSpliterator"), (166, .class_ 391), (0, u "java/lang/StringLatin1$CharsSpliterator")] 3

def k10m0 : Method := { name := "<init>", desc := "()V", sig := { parameters := [], returnType := none }, accessFlags := 0, code := none }
/-- java/lang/StringLatin1 -/
def k10 : Class := { plain "java/lang/StringLatin1" (some 0) with
  accessFlags := 48
  interfaces := #[]
  cf := some (fileOf pool10 14 #[.nestMembers #[390, 221]] #[{ accessFlags := 0, nameIndex := 7, descriptorIndex := 8, attributes := #[] }] 48 4 #[] #[{ accessFlags := 4120, nameIndex := 121, descriptorIndex := 122, attributes := #[] }])
  fields := #[{ name := "$assertionsDisabled", type := .boolean, accessFlags := 4120, slot := 0, constantValue := 0 }]
  methods := #[k10m0]
  instanceTypes := #[]
  staticTypes := #[.boolean]
  resolved := Array.replicate 395 none
  statics := none }

def pool11 : Array CpInfo := pool [(2, .class_ 4), (1, u "java/lang/Object"), (0, u "<init>"), (0, u "()V"), (17, .class_ 26), (1, u "jdk/internal/util/Preconditions"), (28, .class_ 56), (0, u "jdk/internal/util/Preconditions$4"), (57, .class_ 115), (0, u "jdk/internal/util/Preconditions$1"), (7, u "SIOOBE_FORMATTER"), (0, u "Ljava/util/function/BiFunction;"), (0, .class_ 126), (0, u "jdk/internal/util/Preconditions$2"), (3, u "AIOOBE_FORMATTER"), (0, .class_ 132), (0, u "jdk/internal/util/Preconditions$3"), (3, u "IOOBE_FORMATTER")] 57

def k11m0 : Method := { name := "<init>", desc := "()V", sig := { parameters := [], returnType := none }, accessFlags := 1, code := none }
/-- jdk/internal/util/Preconditions -/
def k11 : Class := { plain "jdk/internal/util/Preconditions" (some 0) with
  accessFlags := 33
  interfaces := #[]
  cf := some (fileOf pool11 24 #[.nestMembers #[55, 131, 125, 114]] #[{ accessFlags := 1, nameIndex := 5, descriptorIndex := 6, attributes := #[] }] 33 2 #[] #[{ accessFlags := 25, nameIndex := 123, descriptorIndex := 124, attributes := #[] }, { accessFlags := 25, nameIndex := 130, descriptorIndex := 124, attributes := #[] }, { accessFlags := 25, nameIndex := 136, descriptorIndex := 124, attributes := #[] }])
  fields := #[{ name := "SIOOBE_FORMATTER", type := (.object "java/util/function/BiFunction"), accessFlags := 25, slot := 0, constantValue := 0 }, { name := "AIOOBE_FORMATTER", type := (.object "java/util/function/BiFunction"), accessFlags := 25, slot := 1, constantValue := 0 }, { name := "IOOBE_FORMATTER", type := (.object "java/util/function/BiFunction"), accessFlags := 25, slot := 2, constantValue := 0 }]
  methods := #[k11m0]
  instanceTypes := #[]
  staticTypes := #[(.object "java/util/function/BiFunction"), (.object "java/util/function/BiFunction"), (.object "java/util/function/BiFunction")]
  resolved := Array.replicate 194 none
  statics := some 1 }

def pool12 : Array CpInfo := pool [(9, u "<init>"), (6, .class_ 18), (1, u "java/lang/Object"), (0, u "()V"), (1, .class_ 23), (1, u "jdk/internal/util/ArraysSupport"), (0, u "LOG2_ARRAY_LONG_INDEX_SCALE"), (0, u "I"), (2, u "U"), (0, u "Ljdk/internal/misc/Unsafe;"), (8, u "BIG_ENDIAN"), (0, u "Z"), (8, u "LOG2_BYTE_BIT_SIZE"), (4, u "LOG2_ARRAY_INT_INDEX_SCALE"), (54, u "JLA"), (0, u "Ljdk/internal/access/JavaLangAccess;"), (11, u "LOG2_ARRAY_BOOLEAN_INDEX_SCALE"), (9, u "LOG2_ARRAY_BYTE_INDEX_SCALE"), (5, u "LOG2_ARRAY_CHAR_INDEX_SCALE"), (5, u "LOG2_ARRAY_SHORT_INDEX_SCALE"), (18, u "LOG2_ARRAY_FLOAT_INDEX_SCALE"), (24, u "LOG2_ARRAY_DOUBLE_INDEX_SCALE"), (89, u "T_BOOLEAN"), (2, u "T_CHAR"), (1, u "T_FLOAT"), (1, u "T_DOUBLE"), (1, u "T_BYTE"), (1, u "T_SHORT"), (1, u "T_INT"), (1, u "T_LONG"), (1, u "SOFT_MAX_ARRAY_LENGTH")] 83

def k12m0 : Method := { name := "<init>", desc := "()V", sig := { parameters := [], returnType := none }, accessFlags := 2, code := none }
/-- jdk/internal/util/ArraysSupport -/
def k12 : Class := { plain "jdk/internal/util/ArraysSupport" (some 0) with
  accessFlags := 33
  interfaces := #[]
  cf := some (fileOf pool12 21 #[] #[{ accessFlags := 2, nameIndex := 9, descriptorIndex := 19, attributes := #[] }] 33 16 #[] #[{ accessFlags := 24, nameIndex := 28, descriptorIndex := 29, attributes := #[] }, { accessFlags := 26, nameIndex := 38, descriptorIndex := 39, attributes := #[] }, { accessFlags := 25, nameIndex := 121, descriptorIndex := 25, attributes := #[] }, { accessFlags := 25, nameIndex := 131, descriptorIndex := 25, attributes := #[] }, { accessFlags := 25, nameIndex := 137, descriptorIndex := 25, attributes := #[] }, { accessFlags := 25, nameIndex := 143, descriptorIndex := 25, attributes := #[] }, { accessFlags := 25, nameIndex := 53, descriptorIndex := 25, attributes := #[] }, { accessFlags := 25, nameIndex := 24, descriptorIndex := 25, attributes := #[] }, { accessFlags := 25, nameIndex := 162, descriptorIndex := 25, attributes := #[] }, { accessFlags := 25, nameIndex := 187, descriptorIndex := 25, attributes := #[] }, { accessFlags := 26, nameIndex := 48, descriptorIndex := 25, attributes := #[] }, { accessFlags := 25, nameIndex := 277, descriptorIndex := 25, attributes := #[] }, { accessFlags := 25, nameIndex := 280, descriptorIndex := 25, attributes := #[] }, { accessFlags := 25, nameIndex := 282, descriptorIndex := 25, attributes := #[] }, { accessFlags := 25, nameIndex := 284, descriptorIndex := 25, attributes := #[] }, { accessFlags := 25, nameIndex := 286, descriptorIndex := 25, attributes := #[] }, { accessFlags := 25, nameIndex := 288, descriptorIndex := 25, attributes := #[] }, { accessFlags := 25, nameIndex := 290, descriptorIndex := 25, attributes := #[] }, { accessFlags := 25, nameIndex := 292, descriptorIndex := 25, attributes := #[] }, { accessFlags := 26, nameIndex := 108, descriptorIndex := 109, attributes := #[] }, { accessFlags := 25, nameIndex := 294, descriptorIndex := 25, attributes := #[] }])
  fields := #[{ name := "U", type := (.object "jdk/internal/misc/Unsafe"), accessFlags := 24, slot := 0, constantValue := 0 }, { name := "BIG_ENDIAN", type := .boolean, accessFlags := 26, slot := 1, constantValue := 0 }, { name := "LOG2_ARRAY_BOOLEAN_INDEX_SCALE", type := .int, accessFlags := 25, slot := 2, constantValue := 0 }, { name := "LOG2_ARRAY_BYTE_INDEX_SCALE", type := .int, accessFlags := 25, slot := 3, constantValue := 0 }, { name := "LOG2_ARRAY_CHAR_INDEX_SCALE", type := .int, accessFlags := 25, slot := 4, constantValue := 0 }, { name := "LOG2_ARRAY_SHORT_INDEX_SCALE", type := .int, accessFlags := 25, slot := 5, constantValue := 0 }, { name := "LOG2_ARRAY_INT_INDEX_SCALE", type := .int, accessFlags := 25, slot := 6, constantValue := 0 }, { name := "LOG2_ARRAY_LONG_INDEX_SCALE", type := .int, accessFlags := 25, slot := 7, constantValue := 0 }, { name := "LOG2_ARRAY_FLOAT_INDEX_SCALE", type := .int, accessFlags := 25, slot := 8, constantValue := 0 }, { name := "LOG2_ARRAY_DOUBLE_INDEX_SCALE", type := .int, accessFlags := 25, slot := 9, constantValue := 0 }, { name := "LOG2_BYTE_BIT_SIZE", type := .int, accessFlags := 26, slot := 10, constantValue := 0 }, { name := "T_BOOLEAN", type := .int, accessFlags := 25, slot := 11, constantValue := 0 }, { name := "T_CHAR", type := .int, accessFlags := 25, slot := 12, constantValue := 0 }, { name := "T_FLOAT", type := .int, accessFlags := 25, slot := 13, constantValue := 0 }, { name := "T_DOUBLE", type := .int, accessFlags := 25, slot := 14, constantValue := 0 }, { name := "T_BYTE", type := .int, accessFlags := 25, slot := 15, constantValue := 0 }, { name := "T_SHORT", type := .int, accessFlags := 25, slot := 16, constantValue := 0 }, { name := "T_INT", type := .int, accessFlags := 25, slot := 17, constantValue := 0 }, { name := "T_LONG", type := .int, accessFlags := 25, slot := 18, constantValue := 0 }, { name := "JLA", type := (.object "jdk/internal/access/JavaLangAccess"), accessFlags := 26, slot := 19, constantValue := 0 }, { name := "SOFT_MAX_ARRAY_LENGTH", type := .int, accessFlags := 25, slot := 20, constantValue := 0 }]
  methods := #[k12m0]
  instanceTypes := #[]
  staticTypes := #[(.object "jdk/internal/misc/Unsafe"), .boolean, .int, .int, .int, .int, .int, .int, .int, .int, .int, .int, .int, .int, .int, .int, .int, .int, .int, (.object "jdk/internal/access/JavaLangAccess"), .int]
  resolved := Array.replicate 378 none
  statics := none }

def pool13 : Array CpInfo := pool [(1, u "java/lang/Cloneable"), (0, .class_ 1), (0, u "java/lang/Object"), (0, .class_ 3)] 3

/-- java/lang/Cloneable -/
def k13 : Class := { plain "java/lang/Cloneable" (some 0) with
  accessFlags := 1537
  interfaces := #[]
  cf := some (fileOf pool13 2 #[] #[] 1537 4 #[] #[])
  fields := #[]
  methods := #[]
  instanceTypes := #[]
  staticTypes := #[]
  resolved := Array.replicate 8 none
  statics := none }

/-- the primitive byte -/
def k14 : Class := { plain "byte" none with kind := .primitive 'B', accessFlags := 0x411 }
/-- [B -/
def k15 : Class := { plain "[B" (some 0) with kind := .array 14 .byte, interfaces := #[13, 2], accessFlags := 1041 }

/-- the primitive char -/
def k16 : Class := { plain "char" none with kind := .primitive 'C', accessFlags := 0x411 }
/-- [C -/
def k17 : Class := { plain "[C" (some 0) with kind := .array 16 .char, interfaces := #[13, 2], accessFlags := 1041 }

/-- the primitive int -/
def k18 : Class := { plain "int" none with kind := .primitive 'I', accessFlags := 0x411 }
/-- [I -/
def k19 : Class := { plain "[I" (some 0) with kind := .array 18 .int, interfaces := #[13, 2], accessFlags := 1041 }

def heap : Heap := #[{ cls := 7, slots := #[.long 0, .int 1, .null, .int 0, .null, .int 0, .int 0], vm := .statics 7 },
  { cls := 11, slots := #[.null, .null, .null], vm := .statics 11 }]
def classes : Array Class := #[k0, k1, k2, k3, k4, k5, k6, k7, k8, k9, k10, k11, k12, k13, k14, k15, k16, k17, k18, k19]
def interned : List (Array UInt16 × Addr) := []
def slotsUsed : Nat := 10
def theMethod : MethodId := ⟨1, 1⟩
def args0 : Array Value := #[.int 5, .int 7, .int 2]
def aboutOver (below : List Frame) : State where
  vm := { classes := classes, interned := interned.toArray }
  heap := heap
  slotsUsed := slotsUsed
  threads := #[{ frames := .invoking theMethod args0 :: below }]
def below0 : List Frame := [.native { method := ⟨0, 0⟩, args := #[] }]
def about1 : State := aboutOver below0
def p0 : Program := .bare "" "" ""
def e0 : Env := launch0.env 0 0 0
theorem w_frames : about1.frames = Frame.invoking theMethod args0 :: below0 := rfl
set_option maxRecDepth 65536 in
theorem w_args : argsFit about1.vm theMethod args0 = true := by decide +kernel
set_option maxRecDepth 65536 in
theorem w_heap : heapFits about1 = true := by decide +kernel
set_option maxRecDepth 65536 in
theorem w_runnable : about1.curStatus? = some .runnable := by decide +kernel
set_option maxRecDepth 65536 in
theorem w_alone : about1.alone = true := by decide +kernel
set_option maxRecDepth 65536 in
theorem w_named : about1.methodNamed? x = some theMethod := by decide +kernel
set_option maxRecDepth 65536 in
theorem w_hears : about1.hears theMethod below0 = true := by decide +kernel
set_option maxRecDepth 65536 in
theorem w_ripe : about1.ripe theMethod args0 below0 = true := by decide +kernel
theorem w_running : about1.status = .running := rfl
set_option maxRecDepth 65536 in
theorem w_room : about1.hasRoom e0.platform room_1 = true :=
  launch0.hasRoom_least _ room_1 (by decide +kernel) (by decide +kernel) (by decide +kernel) (by decide +kernel) (by decide +kernel) (by decide +kernel)
theorem allAtoms_all (ts : List Jvm.Cond) (a : Array Jvm.Value) (st : Jvm.State) : (allAtoms ts).before a st = ts.all (fun c => c.before a st) := by
  induction ts with
  | nil => rfl
  | cons c t ih =>
    show (Jvm.Cond.and c (allAtoms t)).before a st = _
    rw [Jvm.Cond.before_and, ih, List.all_cons]
def words1 : List Jvm.Cond := Jvm.Cond.code x code maxLocals ret :: tables_1
/-- a 'code' word, met by the world's own term for the bytes: nothing is compared byte by byte -/
theorem code_word {y : MethodName} {bytes : ByteArray} {mx : Nat} {rt : Option FieldType} {a : Array Value} {s : State} {m : MethodId} {meth : Method} {c : Code} (h1 : s.methodNamed? y = some m) (h2 : s.vm.method? m = some meth) (h3 : meth.code = some c) (h4 : c.code = bytes)
    (h5 : (c.maxLocals == mx && c.exceptionTable.isEmpty && decide (c.maxStack ≤ mostOperands) && decide (meth.sig.returnType = rt) && !meth.locks && decide (parseMethodDescriptor y.desc = some meth.sig)) = true) : (Jvm.Cond.code y bytes mx rt).before a s = true := by
  simp only [Bool.and_eq_true, beq_iff_eq, Bool.not_eq_true', decide_eq_true_eq] at h5
  obtain ⟨⟨⟨⟨⟨g1, g2⟩, g3⟩, g4⟩, g5⟩, g6⟩ := h5
  simp [Cond.before, Cond.holds, Cond.value, h1, h2, h3, h4, g1, g2, g3, g4, g5, g6]
def isCode : Jvm.Cond → Bool
  | .code _ _ _ _ => true
  | _ => false
theorem all_split {L : List Jvm.Cond} {P : Jvm.Cond → Bool} (h1 : L.all (fun c => isCode c || P c) = true) (h2 : ∀ c ∈ L.filter isCode, P c = true) : L.all P = true := by
  refine List.all_eq_true.mpr fun c hc => ?_
  have h := List.all_eq_true.mp h1 c hc
  rcases Bool.eq_false_or_eq_true (isCode c) with hi | hi
  · exact h2 c (List.mem_filter.mpr ⟨hc, hi⟩)
  · simpa [hi] using h
set_option maxRecDepth 65536 in
theorem w_c0 : (Jvm.Cond.code x code maxLocals ret).before args0 about1 = true := code_word (m := ⟨1, 1⟩) (meth := k1m1) (c := k1c1) (by decide +kernel) rfl rfl rfl (by decide +kernel)
set_option maxRecDepth 65536 in
theorem w_c1 : (Jvm.Cond.code ({ cls := "java/lang/String", name := "<init>", desc := "([C)V" } : Jvm.MethodName) jdk_42_method_3_code (2 : Nat) (Option.none : Option Jvm.ClassFile.FieldType)).before args0 about1 = true := code_word (m := ⟨7, 1⟩) (meth := k7m1) (c := k7c1) (by decide +kernel) rfl rfl rfl (by decide +kernel)
set_option maxRecDepth 65536 in
theorem w_c2 : (Jvm.Cond.code ({ cls := "java/lang/String", name := "<init>", desc := "([CIILjava/lang/Void;)V" } : Jvm.MethodName) jdk_42_method_149_code (6 : Nat) (Option.none : Option Jvm.ClassFile.FieldType)).before args0 about1 = true := code_word (m := ⟨7, 2⟩) (meth := k7m2) (c := k7c2) (by decide +kernel) rfl rfl rfl (by decide +kernel)
set_option maxRecDepth 65536 in
theorem w_c3 : (Jvm.Cond.code ({ cls := "java/lang/Object", name := "<init>", desc := "()V" } : Jvm.MethodName) object_method_1_code (1 : Nat) (Option.none : Option Jvm.ClassFile.FieldType)).before args0 about1 = true := code_word (m := ⟨0, 0⟩) (meth := k0m0) (c := k0c0) (by decide +kernel) rfl rfl rfl (by decide +kernel)
set_option maxRecDepth 65536 in
theorem w_c4 : (Jvm.Cond.code ({ cls := "java/lang/StringUTF16", name := "compress", desc := "([CII)[B" } : Jvm.MethodName) jdk_52_method_16_code (6 : Nat) (Option.some (Jvm.ClassFile.FieldType.array Jvm.ClassFile.FieldType.byte))).before args0 about1 = true := code_word (m := ⟨8, 2⟩) (meth := k8m2) (c := k8c2) (by decide +kernel) rfl rfl rfl (by decide +kernel)
set_option maxRecDepth 65536 in
theorem w_c5 : (Jvm.Cond.code ({ cls := "java/lang/StringUTF16", name := "compress", desc := "([CI[BII)I" } : Jvm.MethodName) jdk_52_method_21_code (7 : Nat) (Option.some Jvm.ClassFile.FieldType.int)).before args0 about1 = true := code_word (m := ⟨8, 3⟩) (meth := k8m3) (c := k8c3) (by decide +kernel) rfl rfl rfl (by decide +kernel)
set_option maxRecDepth 65536 in
theorem w_c6 : (Jvm.Cond.code ({ cls := "java/lang/StringUTF16", name := "coderFromArrayLen", desc := "([BI)B" } : Jvm.MethodName) jdk_52_method_15_code (2 : Nat) (Option.some Jvm.ClassFile.FieldType.byte)).before args0 about1 = true := code_word (m := ⟨8, 1⟩) (meth := k8m1) (c := k8c1) (by decide +kernel) rfl rfl rfl (by decide +kernel)
set_option maxRecDepth 65536 in
theorem w_c7 : (Jvm.Cond.code ({ cls := "com/example/tenon/tenon/registry/Validity", name := "<init>", desc := "()V" } : Jvm.MethodName) prog_77_method_1_code (1 : Nat) (Option.none : Option Jvm.ClassFile.FieldType)).before args0 about1 = true := code_word (m := ⟨9, 0⟩) (meth := k9m0) (c := k9c0) (by decide +kernel) rfl rfl rfl (by decide +kernel)
set_option maxRecDepth 65536 in
theorem w_c8 : (Jvm.Cond.code ({ cls := "com/example/tenon/tenon/registry/Validity", name := "isValid", desc := "()Z" } : Jvm.MethodName) prog_77_method_2_code (1 : Nat) (Option.some Jvm.ClassFile.FieldType.boolean)).before args0 about1 = true := code_word (m := ⟨9, 1⟩) (meth := k9m1) (c := k9c1) (by decide +kernel) rfl rfl rfl (by decide +kernel)
set_option maxRecDepth 65536 in
theorem w_c9 : (Jvm.Cond.code ({ cls := "com/example/tenon/tenon/registry/Validity", name := "invalidate", desc := "(Ljava/lang/String;)V" } : Jvm.MethodName) prog_77_method_3_code (2 : Nat) (Option.none : Option Jvm.ClassFile.FieldType)).before args0 about1 = true := code_word (m := ⟨9, 2⟩) (meth := k9m2) (c := k9c2) (by decide +kernel) rfl rfl rfl (by decide +kernel)
def codes1 : List Jvm.Cond := [Jvm.Cond.code x code maxLocals ret, Jvm.Cond.code ({ cls := "java/lang/String", name := "<init>", desc := "([C)V" } : Jvm.MethodName) jdk_42_method_3_code (2 : Nat) (Option.none : Option Jvm.ClassFile.FieldType), Jvm.Cond.code ({ cls := "java/lang/String", name := "<init>", desc := "([CIILjava/lang/Void;)V" } : Jvm.MethodName) jdk_42_method_149_code (6 : Nat) (Option.none : Option Jvm.ClassFile.FieldType), Jvm.Cond.code ({ cls := "java/lang/Object", name := "<init>", desc := "()V" } : Jvm.MethodName) object_method_1_code (1 : Nat) (Option.none : Option Jvm.ClassFile.FieldType), Jvm.Cond.code ({ cls := "java/lang/StringUTF16", name := "compress", desc := "([CII)[B" } : Jvm.MethodName) jdk_52_method_16_code (6 : Nat) (Option.some (Jvm.ClassFile.FieldType.array Jvm.ClassFile.FieldType.byte)), Jvm.Cond.code ({ cls := "java/lang/StringUTF16", name := "compress", desc := "([CI[BII)I" } : Jvm.MethodName) jdk_52_method_21_code (7 : Nat) (Option.some Jvm.ClassFile.FieldType.int), Jvm.Cond.code ({ cls := "java/lang/StringUTF16", name := "coderFromArrayLen", desc := "([BI)B" } : Jvm.MethodName) jdk_52_method_15_code (2 : Nat) (Option.some Jvm.ClassFile.FieldType.byte), Jvm.Cond.code ({ cls := "com/example/tenon/tenon/registry/Validity", name := "<init>", desc := "()V" } : Jvm.MethodName) prog_77_method_1_code (1 : Nat) (Option.none : Option Jvm.ClassFile.FieldType), Jvm.Cond.code ({ cls := "com/example/tenon/tenon/registry/Validity", name := "isValid", desc := "()Z" } : Jvm.MethodName) prog_77_method_2_code (1 : Nat) (Option.some Jvm.ClassFile.FieldType.boolean), Jvm.Cond.code ({ cls := "com/example/tenon/tenon/registry/Validity", name := "invalidate", desc := "(Ljava/lang/String;)V" } : Jvm.MethodName) prog_77_method_3_code (2 : Nat) (Option.none : Option Jvm.ClassFile.FieldType)]
set_option maxRecDepth 65536 in
theorem codes_eq : words1.filter isCode = codes1 := rfl
theorem w_codes : ∀ c ∈ words1.filter isCode, c.before args0 about1 = true := by
  rw [codes_eq]
  intro c hc
  simp only [codes1, List.mem_cons, List.not_mem_nil, or_false] at hc
  rcases hc with rfl | rfl | rfl | rfl | rfl | rfl | rfl | rfl | rfl | rfl
  · exact w_c0
  · exact w_c1
  · exact w_c2
  · exact w_c3
  · exact w_c4
  · exact w_c5
  · exact w_c6
  · exact w_c7
  · exact w_c8
  · exact w_c9
set_option maxRecDepth 65536 in
theorem w_t1 : (words1.take 24).all (fun c => isCode c || c.before args0 about1) = true := by decide +kernel
set_option maxRecDepth 65536 in
theorem w_t2 : ((words1.drop 24).take 24).all (fun c => isCode c || c.before args0 about1) = true := by decide +kernel
set_option maxRecDepth 65536 in
theorem w_t3 : ((words1.drop 24).drop 24).all (fun c => isCode c || c.before args0 about1) = true := by decide +kernel
theorem w_tables : (allAtoms (Jvm.Cond.code x code maxLocals ret :: tables_1)).before args0 about1 = true := by
  rw [allAtoms_all]
  show words1.all (fun c => c.before args0 about1) = true
  refine all_split ?_ w_codes
  rw [← List.take_append_drop 24 words1, List.all_append, w_t1, ← List.take_append_drop 24 (words1.drop 24), List.all_append, w_t2, w_t3]
  rfl
set_option maxRecDepth 65536 in
theorem w_rest : rest_1_c.before args0 about1 = true := by decide +kernel
set_option maxRecDepth 65536 in
theorem w_case : (Jvm.Cond.and given_1 narrow_1).before args0 about1 = true := by decide +kernel
set_option maxRecDepth 65536 in
theorem w_consts : constsHeld consts_1 about1 := Jvm.Lit.constsHeldB_iff.mp (by decide +kernel)
theorem w_applies : (headSpec (Jvm.Cond.code x code maxLocals ret :: tables_1) room_1).applies x e0.platform about1 = true :=
  (Spec.applies_iff w_frames).mpr ⟨w_running, w_runnable, w_alone, w_named, w_hears, w_ripe, w_room, w_tables⟩
theorem atStart : AtStart classFile x code maxLocals ret World_1 tables_1 room_1 Calls_1 rest_1 Pre_1 launch0 p0 e0 about1 theMethod args0 below0 :=
  ⟨lists_1, trivial, launch0.admits_env _ _ _, launch0.least_env, fairChoices_fair.cas, fairChoices_fair.clock, w_frames, w_args, w_heap, w_applies, ⟨w_consts, trivial⟩, w_rest, w_case⟩
end start1
theorem witness_1 : WitnessClaimed_1 := ⟨start1.p0, start1.e0, start1.about1, start1.theMethod, start1.args0, start1.below0, start1.atStart⟩
end Jvm.Pilot.@@N@@
