import JvmDerived
import JvmDerived.Pilot.@@N@@Statement
import JvmDerived.Pilot.@@N@@Code
set_option linter.unusedVariables false
set_option linter.unusedSimpArgs false
namespace Jvm.RoadKit
open Sem ClassFile Op Lib Jvm.Stand Jvm.Free Jvm.LawKit
section Own
variable {tb : Tables} {e : Env} {below : List Frame} {Q : Outcome → State → Prop} {A B : State}
def Goes (tb : Tables) (e : Env) (below : List Frame) (Q : Outcome → State → Prop) (A : State) : Prop := ∃ s₂ o, Steps tb e below A s₂ ∧ s₂.status = .running ∧ Ended s₂ below o ∧ Q o s₂
theorem Goes.st (st : ∀ t, Steps tb e below A t → Steps tb e below B t) (k : Goes tb e below Q A) : Goes tb e below Q B := by
  obtain ⟨s, o, h1, h2⟩ := k
  exact ⟨s, o, st s h1, h2⟩
theorem Goes.tr (st : Steps tb e below B A) (k : Goes tb e below Q A) : Goes tb e below Q B := by
  obtain ⟨s, o, h1, h2⟩ := k
  exact ⟨s, o, st.trans h1, h2⟩
abbrev uS : Slot := .unset
theorem Goes.named (k : ∀ Q', Q' = Q → Goes tb e below Q' A) : Goes tb e below Q A := k Q rfl
theorem own_narb (c : Int32) : nar .byte (c.toInt8.toInt32) = c.toInt8.toInt32 := by simp [nar]
theorem own_fitsb (c : Int32) : fits .byte (.int c.toInt8.toInt32) = true := own_narb c ▸ fits_nar_byte _
theorem own_narZ {z : Int32} (h : z = 0 ∨ z = 1) : nar .boolean z = z := by rcases h with rfl | rfl <;> rfl
theorem own_narwZ {z : Int32} (h : z = 0 ∨ z = 1) : narrow .boolean (.int z) = .int z := by rcases h with rfl | rfl <;> rfl
theorem own_fitsZ {z : Int32} (h : z = 0 ∨ z = 1) : fits .boolean (.int z) = true := by rcases h with rfl | rfl <;> rfl
theorem own_cat {v : Value} (h : v.isRef = true) : v.category = 1 := by cases v <;> first | rfl | (simp [Value.isRef] at h)
theorem own_fitsR {v : Value} {t : FieldType} (h : v.isRef = true) (ht : t.isReference = true) : fits t v = true := by cases v <;> cases t <;> simp_all [Value.isRef, fits, FieldType.isReference]
theorem own_narR {v : Value} {t : FieldType} (h : v.isRef = true) : narrow t v = v := by cases v <;> cases t <;> first | rfl | (simp [Value.isRef] at h)
end Own
section New
variable {p : Program} {l : Launch} {e : Env} {R : Room} {s : State} {m : MethodId} {args : Array Value} {below : List Frame} {meth : Method} {c : Code} {T : State} {locs : List Loc} {cells slots : Nat}
theorem retI (X : Stand p l e R s m args below meth c T locs cells slots) (hx : p.tables.exec = Jvm.exec) {pc : Nat} {Ls : Array Slot} {z : Int32} {rest : List Value} (hret : meth.sig.returnType = some .int) (hd : decode c.code pc = .ok (.ireturn, 1)) {fs : List Frame}
    (hl : ∀ (f : JFrame) (acts : List Action), f.method = m → f.locked = none → f.entered = [] → (doReturn e (T.setTop f) acts (some (.int z))).1 = T.setFrames fs) : Steps p.tables e below (T.setTop (mkF m pc Ls (.int z :: rest))) (T.setFrames fs) :=
  retOut X hx (w := .int z) hret rfl (Or.inl ⟨rfl, Or.inl rfl, _, rfl⟩) hd hl
theorem retJ (X : Stand p l e R s m args below meth c T locs cells slots) (hx : p.tables.exec = Jvm.exec) {pc : Nat} {Ls : Array Slot} {z : Int64} {rest : List Value} (hret : meth.sig.returnType = some .long) (hd : decode c.code pc = .ok (.lreturn, 1)) {fs : List Frame}
    (hl : ∀ (f : JFrame) (acts : List Action), f.method = m → f.locked = none → f.entered = [] → (doReturn e (T.setTop f) acts (some (.long z))).1 = T.setFrames fs) : Steps p.tables e below (T.setTop (mkF m pc Ls (.long z :: rest))) (T.setFrames fs) :=
  retOut X hx (w := .long z) hret rfl (Or.inr (Or.inl ⟨rfl, rfl, _, rfl⟩)) hd hl
theorem retR (X : Stand p l e R s m args below meth c T locs cells slots) (hx : p.tables.exec = Jvm.exec) {pc : Nat} {Ls : Array Slot} {w : Value} {t : FieldType} {rest : List Value} (hret : meth.sig.returnType = some t) (ht : t.isReference = true) (hw : w.isRef = true) (hd : decode c.code pc = .ok (.areturn, 1)) {fs : List Frame}
    (hl : ∀ (f : JFrame) (acts : List Action), f.method = m → f.locked = none → f.entered = [] → (doReturn e (T.setTop f) acts (some w)).1 = T.setFrames fs) : Steps p.tables e below (T.setTop (mkF m pc Ls (w :: rest))) (T.setFrames fs) :=
  retOut X hx (w := w) hret (own_narR hw) (Or.inr (Or.inr (Or.inr (Or.inr ⟨rfl, ht, hw⟩)))) hd hl
end New
end Jvm.RoadKit
@@BLOCK:LamKit.lean.txt@@
namespace Jvm.RoadKit
open Sem ClassFile Op Lib Jvm.Stand Jvm.Free Jvm.LawKit
section OwnW
variable {p : Program} {l : Launch} {e : Env} {R : Room} {s : State} {args : Array Value} {below : List Frame} {Z : State} {a0 : Array Value} {h : Heap} {vm0 : Vm} {EL : List (String × Nat)}
theorem own_REmono {s t : State} {o : Outcome} {L : List Loc} {k n k' n' : Nat} (h : ReturnedEndW s o t L k n) (hk : k ≤ k') (hn : n ≤ n') : ReturnedEndW s o t L k' n' := ⟨h.1, h.2.1, h.2.2.1, h.2.2.2.mono hk hn⟩
/-- a callee that may intern, and is told of some addresses that no constant's String lies there -/
theorem own_backW {y : MethodName} {bytes : ByteArray} {maxL : Nat} {ret : Option FieldType} {rm : Room} {len W : Nat} {as' : Array Value} {Q : Option Value → Heap → List Loc → Prop} {xs : List Addr}
    (hM : MetFree l y (head1 [Cond.code y bytes maxL ret] rm) (fun a U => a = as' ∧ Z.Warmed39 U.vm ∧ U.heap = h ∧ CHv Z EL U.vm h ∧ ∀ x ∈ xs, Safe Z EL U.vm h x) (fun _ _ _ _ _ => True) (fun _ U o U' => ∃ v L, o = .returned v ∧ Q v U'.heap L ∧ CHr Z EL U.vm U.heap U'.vm U'.heap ∧ ReturnedEndW U o U' L rm.cells rm.slots))
    (hZ : Z.Warmed39 vm0) (wc : (Cond.code y bytes maxL ret).before a0 Z = true) (wz : (Cond.initialized y.cls).before a0 Z = true) (hf : rm.frames + 1 ≤ R.frames) (hl : W + (maxL + 11) + rm.locals ≤ R.locals) (hEL : EW Z a0 EL) (H : CHv Z EL vm0 h) (hxs : ∀ x ∈ xs, x < h.size ∧ Safe Z EL vm0 h x) :
    BackS l R p e below (s.setVm vm0) args y len W (fun A a => a = as' ∧ A.U.heap = h ∧ A.cells + rm.cells ≤ R.cells ∧ A.slots + rm.slots ≤ R.slots)
      (fun A _ v B => ∃ L, Q v B.U.heap L ∧ B.locs = A.locs ++ L ∧ B.cells = A.cells + rm.cells ∧ B.slots = A.slots + rm.slots ∧ CHr Z EL vm0 h B.U.vm B.U.heap) := by
  refine BackS.of_freeW (bytes := bytes) (maxL := maxL) (ret := ret) (E := fun _ first o t L k n => k = rm.cells ∧ n = rm.slots ∧ (∃ v, o = .returned v ∧ Q v t.heap L) ∧ CHr Z EL first.vm first.heap t.vm t.heap) hM hf hl ?_ ?_ ?_ ?_ ?_
  · intro m meth c A a Y hp
    have hU : Z.Warmed39 A.U.vm := wtrans (s := s.setVm vm0) hZ Y.warmed
    refine ⟨?_, mv hU wc, mv hU wz, hp.2.2.1, hp.2.2.2⟩
    show (Cond.and _ .tt).before a A.U = true
    rw [Cond.before_and, mv hU wc]; rfl
  · intro m meth c A a g mk Y hp
    have C := CHv.at Y hZ hEL H
    exact ⟨hp.1, wtrans (s := s.setVm vm0) hZ Y.warmed, hp.2.1, C.1, fun x hx => C.safe (hxs x hx).1 (hxs x hx).2⟩
  · intros; trivial
  · rintro _ _ _ _ ⟨v, L, h1, h2, h3, h4⟩
    exact ⟨L, _, _, h4, rfl, rfl, ⟨v, h1, h2⟩, h3⟩
  · rintro m meth c A a g mk v t L k n Y hp _ _ ⟨e1, e2, ⟨v', e3, e4⟩, e5⟩
    cases e3
    subst e1 e2
    refine ⟨L, e4, rfl, rfl, rfl, (CHv.at Y hZ hEL H).trans ?_⟩
    rw [← hp.2.1]
    exact e5
end OwnW
end Jvm.RoadKit
namespace Jvm.Pilot.@@N@@
open Jvm Jvm.ClassFile Sem Op Lib Jvm.Free Jvm.Stand Jvm.LawKit Jvm.RoadKit Bundle Jvm.Pilot.@@N@@.Jvm.D
def EL : List (String × Nat) := consts_1
theorem own_wS {Z : State} {a0 : Array Value} (hw : ∀ d ∈ tables_1, d.before a0 Z = true) : ∀ d ∈ Bundle.stringAtoms, d.before a0 Z = true := fun d hd => hw d ((by decide +kernel : ∀ d ∈ Bundle.stringAtoms, d ∈ tables_1) d hd)
end Jvm.Pilot.@@N@@
/- laws to paste: Road.backV, Road.eqW, Road.codOf (cut by pick.py; bodies as the Statement names them) -/
namespace Jvm.Pilot.@@N@@
namespace StrChars
open Jvm Sem ClassFile Op Lib Jvm.Stand Jvm.Free.XT Jvm.Free.ALB Jvm.Free.JM Jvm.Free
open Jvm.Lib.Cold (StaticIs)
/-- a char array whose places are chars -/
def Ch (a : Addr) (A : Cell) (U : State) : Prop := Arr .char a A U ∧ Typed .char A
theorem Ch.mv {a : Addr} {A : Cell} {U U' : State} (h : Ch a A U) (hal : U.vm.Alike U'.vm) (hh : U'.heap = U.heap) : Ch a A U' := ⟨h.1.mv hal hh, h.2⟩
theorem Ch.keep {a : Addr} {A : Cell} {U U' : State} (h : Ch a A U) (hal : U.vm.Alike U'.vm) (hk : U'.heap[a]? = some A) : Ch a A U' := ⟨h.1.keep hal hk, h.2⟩
/-- what place i of a char[]'s cell holds -/
def cv (A : Cell) (i : Nat) : Int32 := match A.slots[i]? with | some (.int x) => x | _ => 0
theorem Ch.get {a : Addr} {A : Cell} {U : State} (h : Ch a A U) {i : Nat} (hi : i < A.slots.size) : A.slots[i]? = some (.int (cv A i)) := by
  have e := Array.getElem?_eq_getElem hi
  have f := h.2 i _ e
  unfold cv; rw [e]
  generalize A.slots[i] = v at f
  cases v <;> simp [fits] at f ⊢
/-- the byte that i2b leaves of a char -/
def lo8 (x : Int32) : Int32 := x.toInt8.toInt32
theorem fits_lo8 (y : Int32) : fits .byte (.int (lo8 y)) = true := by
  have h1 := y.toInt8.le_toInt
  have h2 := y.toInt8.toInt_lt
  simp only [lo8, fits, Bool.and_eq_true, decide_eq_true_eq, Int32.le_iff_toInt_le, Int8.toInt_toInt32, show (-128 : Int32).toInt = -128 from by decide, show (127 : Int32).toInt = 127 from by decide]
  omega
/-- A' is A but that each place j of lo .. hi - 1 holds f j -/
def Laid (A A' : Cell) (lo hi : Nat) (f : Nat → Value) : Prop := A'.cls = A.cls ∧ A'.vm = A.vm ∧ A'.slots.size = A.slots.size ∧ ∀ i, A'.slots[i]? = if lo ≤ i ∧ i < hi then some (f i) else A.slots[i]?
theorem Laid.zero (A : Cell) (lo : Nat) (f : Nat → Value) : Laid A A lo (lo + 0) f := ⟨rfl, rfl, rfl, fun i => by rw [if_neg (by omega)]⟩
theorem Laid.step {A Ak : Cell} {lo k : Nat} {f : Nat → Value} {v : Value} (h : Laid A Ak lo k f) (hlo : lo ≤ k) (hk : k < Ak.slots.size) (hv : v = f k) : Laid A (Ak.setSlot k v) lo (k + 1) f := by
  refine ⟨h.1, h.2.1, by simpa [Cell.setSlot] using h.2.2.1, fun i => ?_⟩
  by_cases e : k = i
  · subst e; rw [Cell.slots_setSlot_self v hk, if_pos (by omega), hv]
  · rw [Cell.slots_setSlot_ne v e, h.2.2.2 i]
    by_cases q : lo ≤ i ∧ i < k
    · rw [if_pos q, if_pos (by omega)]
    · rw [if_neg q, if_neg (by omega)]
def U16 : String := "java/lang/StringUTF16"
namespace Cmp5
def yN : MethodName := ⟨"java/lang/StringUTF16", "compress", "([CI[BII)I"⟩
abbrev yB : ByteArray := jdk_52_method_21_code
theorem d0 : decode yB 0 = .ok (.iconst 0, 1) := by decide +kernel
theorem d1 : decode yB 1 = .ok (.istore 5, 2) := by decide +kernel
theorem d3 : decode yB 3 = .ok (.iload 5, 2) := by decide +kernel
theorem d5 : decode yB 5 = .ok (.iload 4, 2) := by decide +kernel
theorem d7 : decode yB 7 = .ok (.if_icmp (.ge) 37, 3) := by decide +kernel
theorem d10 : decode yB 10 = .ok (.aload_n 0, 1) := by decide +kernel
theorem d11 : decode yB 11 = .ok (.iload_n 1, 1) := by decide +kernel
theorem d12 : decode yB 12 = .ok (.caload, 1) := by decide +kernel
theorem d13 : decode yB 13 = .ok (.istore 6, 2) := by decide +kernel
theorem d15 : decode yB 15 = .ok (.iload 6, 2) := by decide +kernel
theorem d17 : decode yB 17 = .ok (.sipush 255, 3) := by decide +kernel
theorem d20 : decode yB 20 = .ok (.if_icmp (.le) 6, 3) := by decide +kernel
theorem d26 : decode yB 26 = .ok (.aload_n 2, 1) := by decide +kernel
theorem d27 : decode yB 27 = .ok (.iload_n 3, 1) := by decide +kernel
theorem d28 : decode yB 28 = .ok (.iload 6, 2) := by decide +kernel
theorem d30 : decode yB 30 = .ok (.i2b, 1) := by decide +kernel
theorem d31 : decode yB 31 = .ok (.bastore, 1) := by decide +kernel
theorem d32 : decode yB 32 = .ok (.iinc 1 1, 3) := by decide +kernel
theorem d35 : decode yB 35 = .ok (.iinc 3 1, 3) := by decide +kernel
theorem d38 : decode yB 38 = .ok (.iinc 5 1, 3) := by decide +kernel
theorem d41 : decode yB 41 = .ok (.goto (-38), 3) := by decide +kernel
theorem d44 : decode yB 44 = .ok (.iload 4, 2) := by decide +kernel
theorem d46 : decode yB 46 = .ok (.ireturn, 1) := by decide +kernel
def site : List Cond := []
def tab : Cond := tabOf yN yB 7 (some .int) site
def P (b : Addr) (A : Cell) (d : Addr) (B : Cell) (o q len : Nat) (args : Array Value) (s : State) : Prop := args = #[.ref b, .int (Int32.ofNat o), .ref d, .int (Int32.ofNat q), .int (Int32.ofNat len)] ∧ Ch b A s ∧ Arr .byte d B s ∧ b ≠ d ∧ o + len ≤ A.slots.size ∧ q + len ≤ B.slots.size ∧ ∀ i, i < len → ¬ 255 < cv A (o + i)
def E (b : Addr) (A : Cell) (d : Addr) (B : Cell) (o q len : Nat) (r : Option Value) (s u : State) : Prop := r = some (.int (Int32.ofNat len)) ∧ ∃ B', Put d B' s u ∧ Laid B B' q (q + len) (fun j => Value.int (lo8 (cv A (o + (j - q)))))
/-- no char of the range above 255: len; the places written hold each char's low byte -/
theorem law (l : Launch) (b : Addr) (A : Cell) (d : Addr) (B : Cell) (o q len : Nat) : Law l yN 5 5 0 0 yB 7 (some .int) site (P b A d B o q len) (E b A d B o q len) (copyLocs d q len) 0 0 := by
  refine Law.of_walk (plainFor_of_name (by decide +kernel)) (by decide +kernel) (by decide +kernel) (by decide) (fun _ _ h => by rw [h.1]; rfl) (fun _ U U' hal hh h => ⟨h.1, h.2.1.mv hal hh, h.2.2.1.mv hal hh, h.2.2.2⟩) (fun r U U' V V' h1 hal h2 h => ⟨h.1, h.2.elim fun B' q => ⟨B', q.1.mv h1 h2, q.2⟩⟩) ?_
  intro p e s m args below meth c s₁ X0 hexec hbytes hml hret hlk hnm hown hh0 W hP
  obtain ⟨rfl, hA, hB, hne, l1, l2, hp⟩ := hP
  have c1 : Steps p.tables e below (s₁.setTop (entryFrame m #[.ref b, .int (Int32.ofNat o), .ref d, .int (Int32.ofNat q), .int (Int32.ofNat len)] 7)) (s₁.setTop (mkF m 0 #[.val (.ref b), .val (.int (Int32.ofNat o)), .val (.ref d), .val (.int (Int32.ofNat q)), .val (.int (Int32.ofNat len)), .unset, .unset] [])) := entry rfl
  have hA0 := hA.1.mv X0.warmed.alike hh0
  have hB0 := hB.mv X0.warmed.alike hh0
  have a31 := hA.1.2.2.2
  have c2 : Steps p.tables e below (s₁.setTop (entryFrame m #[.ref b, .int (Int32.ofNat o), .ref d, .int (Int32.ofNat q), .int (Int32.ofNat len)] 7)) (s₁.setTop (mkF m 3 #[.val (.ref b), .val (.int (Int32.ofNat o)), .val (.ref d), .val (.int (Int32.ofNat q)), .val (.int (Int32.ofNat len)), .val (.int 0), .unset] [])) := c1.trans (by
    refine iconstV X0.here hexec rfl 0 (hb hbytes d0) (by decide) ?_
    refine XS.istore X0.here hexec rfl (hb hbytes d1) rfl rfl ?_
    exact Steps.refl _)
  have loop : ∀ (r i : Nat), i + r = len → ∀ (z : Slot), (z = .unset ∨ ∃ w, z = .val w ∧ w.category = 1) → ∀ (Tl : State) (Bk : Cell), Stand p l e { frames := 0, locals := 0, cells := 0, slots := 0 } s m #[.ref b, .int (Int32.ofNat o), .ref d, .int (Int32.ofNat q), .int (Int32.ofNat len)] below meth c Tl ([] ++ copyLocs d q i) 0 0 → Put d Bk s₁ Tl → Laid B Bk q (q + i) (fun j => Value.int (lo8 (cv A (o + (j - q))))) →
      Steps p.tables e below (s₁.setTop (entryFrame m #[.ref b, .int (Int32.ofNat o), .ref d, .int (Int32.ofNat q), .int (Int32.ofNat len)] 7)) (Tl.setTop (mkF m 3 #[.val (.ref b), .val (.int (Int32.ofNat (o + i))), .val (.ref d), .val (.int (Int32.ofNat (q + i))), .val (.int (Int32.ofNat len)), .val (.int (Int32.ofNat i)), z] [])) → ∃ (T' : State) (B' : Cell) (z' : Slot), Stand p l e { frames := 0, locals := 0, cells := 0, slots := 0 } s m #[.ref b, .int (Int32.ofNat o), .ref d, .int (Int32.ofNat q), .int (Int32.ofNat len)] below meth c T' ([] ++ copyLocs d q len) 0 0 ∧ Put d B' s₁ T' ∧ Laid B B' q (q + len) (fun j => Value.int (lo8 (cv A (o + (j - q))))) ∧
      Steps p.tables e below (s₁.setTop (entryFrame m #[.ref b, .int (Int32.ofNat o), .ref d, .int (Int32.ofNat q), .int (Int32.ofNat len)] 7)) (T'.setTop (mkF m 3 #[.val (.ref b), .val (.int (Int32.ofNat (o + len))), .val (.ref d), .val (.int (Int32.ofNat (q + len))), .val (.int (Int32.ofNat len)), .val (.int (Int32.ofNat len)), z'] [])) := by
    intro r
    induction r with
    | zero =>
      intro i hi z hz Tl Bk Xl pl fl cl
      have hil : i = len := by omega
      rw [hil] at Xl fl cl
      exact ⟨Tl, Bk, z, Xl, pl, fl, cl⟩
    | succ r ih =>
      intro i hi z hz Tl Bk Xl pl fl cl
      have all := X0.warmed.alike.symm.trans Xl.warmed.alike
      have hAl := hA0.keep all (pl.other hne hA0.1)
      have hBk := hB0.like all pl.1 fl.1 fl.2.1 fl.2.2.1
      have hlt : q + i < Bk.slots.size := by rw [fl.2.2.1]; omega
      have c3 : Steps p.tables e below (s₁.setTop (entryFrame m #[.ref b, .int (Int32.ofNat o), .ref d, .int (Int32.ofNat q), .int (Int32.ofNat len)] 7)) (Tl.setTop (mkF m 12 #[.val (.ref b), .val (.int (Int32.ofNat (o + i))), .val (.ref d), .val (.int (Int32.ofNat (q + i))), .val (.int (Int32.ofNat len)), .val (.int (Int32.ofNat i)), z] [.int (Int32.ofNat (o + i)), .ref b])) := cl.trans (by
        refine XS.iload Xl.here hexec rfl (hb hbytes d3) rfl ?_
        refine XS.iload Xl.here hexec rfl (hb hbytes d5) rfl ?_
        refine XS.icmpNo Xl.here hexec rfl (hb hbytes d7) rfl (ii_ge_f (lt32 (by omega) (by omega))) ?_
        refine XS.aloadN Xl.here hexec rfl (hb hbytes d10) rfl rfl ?_
        refine XS.iloadN Xl.here hexec rfl (hb hbytes d11) rfl ?_
        exact Steps.refl _)
      have c4 : Steps p.tables e below (s₁.setTop (entryFrame m #[.ref b, .int (Int32.ofNat o), .ref d, .int (Int32.ofNat q), .int (Int32.ofNat len)] 7)) (Tl.setTop (mkF m 13 #[.val (.ref b), .val (.int (Int32.ofNat (o + i))), .val (.ref d), .val (.int (Int32.ofNat (q + i))), .val (.int (Int32.ofNat len)), .val (.int (Int32.ofNat i)), z] [.int (cv A (o + i))])) := c3.trans (by
        refine Xl.aget hexec hAl rfl (hA.get (i := o + i) (by omega)) rfl rfl (hb hbytes d12) ?_
        exact Steps.refl _)
      have c5 : Steps p.tables e below (s₁.setTop (entryFrame m #[.ref b, .int (Int32.ofNat o), .ref d, .int (Int32.ofNat q), .int (Int32.ofNat len)] 7)) (Tl.setTop (mkF m 15 #[.val (.ref b), .val (.int (Int32.ofNat (o + i))), .val (.ref d), .val (.int (Int32.ofNat (q + i))), .val (.int (Int32.ofNat len)), .val (.int (Int32.ofNat i)), .val (.int (cv A (o + i)))] [])) := c4.trans (by
        refine XS.istoreS Xl.here hexec rfl (hb hbytes d13) rfl rfl hz ?_
        exact Steps.refl _)
      have c6 : Steps p.tables e below (s₁.setTop (entryFrame m #[.ref b, .int (Int32.ofNat o), .ref d, .int (Int32.ofNat q), .int (Int32.ofNat len)] 7)) (Tl.setTop (mkF m 31 #[.val (.ref b), .val (.int (Int32.ofNat (o + i))), .val (.ref d), .val (.int (Int32.ofNat (q + i))), .val (.int (Int32.ofNat len)), .val (.int (Int32.ofNat i)), .val (.int (cv A (o + i)))] [.int (lo8 (cv A (o + i))), .int (Int32.ofNat (q + i)), .ref d])) := c5.trans (by
        refine XS.iload Xl.here hexec rfl (hb hbytes d15) rfl ?_
        refine sipushV Xl.here hexec rfl 255 (hb hbytes d17) (by decide) ?_
        refine XS.icmpYes Xl.here hexec rfl (pc0 := 20) rfl (hb hbytes d20) rfl (ii_le_t (hp i (by omega))) (by decide) rfl ?_
        refine XS.aloadN Xl.here hexec rfl (hb hbytes d26) rfl rfl ?_
        refine XS.iloadN Xl.here hexec rfl (hb hbytes d27) rfl ?_
        refine XS.iload Xl.here hexec rfl (hb hbytes d28) rfl ?_
        refine i2b Xl.here hexec rfl (hb hbytes d30) rfl ?_
        exact Steps.refl _)
      obtain ⟨T7, X7, p7, st7⟩ := Xl.aput hexec hBk rfl hlt rfl (fits_lo8 (cv A (o + i))) (g := (mkF m 31 #[.val (.ref b), .val (.int (Int32.ofNat (o + i))), .val (.ref d), .val (.int (Int32.ofNat (q + i))), .val (.int (Int32.ofNat len)), .val (.int (Int32.ofNat i)), .val (.int (cv A (o + i)))] [.int (lo8 (cv A (o + i))), .int (Int32.ofNat (q + i)), .ref d])) rfl (rest := []) rfl (hb hbytes d31)
      have c8 : Steps p.tables e below (s₁.setTop (entryFrame m #[.ref b, .int (Int32.ofNat o), .ref d, .int (Int32.ofNat q), .int (Int32.ofNat len)] 7)) (T7.setTop (mkF m 32 #[.val (.ref b), .val (.int (Int32.ofNat (o + i))), .val (.ref d), .val (.int (Int32.ofNat (q + i))), .val (.int (Int32.ofNat len)), .val (.int (Int32.ofNat i)), .val (.int (cv A (o + i)))] [])) := c6.trans (st7 _ (Steps.refl _))
      have c9 : Steps p.tables e below (s₁.setTop (entryFrame m #[.ref b, .int (Int32.ofNat o), .ref d, .int (Int32.ofNat q), .int (Int32.ofNat len)] 7)) (T7.setTop (mkF m 3 #[.val (.ref b), .val (.int (Int32.ofNat (o + i) + 1)), .val (.ref d), .val (.int (Int32.ofNat (q + i) + 1)), .val (.int (Int32.ofNat len)), .val (.int (Int32.ofNat i + 1)), .val (.int (cv A (o + i)))] [])) := c8.trans (by
        refine iincV X7.here hexec rfl 1 (hb hbytes d32) (by decide) rfl rfl ?_
        refine iincV X7.here hexec rfl 1 (hb hbytes d35) (by decide) rfl rfl ?_
        refine iincV X7.here hexec rfl 1 (hb hbytes d38) (by decide) rfl rfl ?_
        refine XS.goto X7.here hexec rfl (pc0 := 41) rfl (hb hbytes d41) (by decide) rfl ?_
        exact Steps.refl _)
      have c10 : Steps p.tables e below (s₁.setTop (entryFrame m #[.ref b, .int (Int32.ofNat o), .ref d, .int (Int32.ofNat q), .int (Int32.ofNat len)] 7)) (T7.setTop (mkF m 3 #[.val (.ref b), .val (.int (Int32.ofNat (o + (i + 1)))), .val (.ref d), .val (.int (Int32.ofNat (q + (i + 1)))), .val (.int (Int32.ofNat len)), .val (.int (Int32.ofNat (i + 1))), .val (.int (cv A (o + i)))] [])) := by
        have := c9
        rw [succ32, succ32, succ32] at this
        exact this
      exact ih (i + 1) (by omega) _ (Or.inr ⟨_, rfl, rfl⟩) T7 _ (by rw [copyLocs_step, ← List.append_assoc]; exact X7) (pl.trans p7) (fl.step (by omega) hlt (by simp)) c10
  obtain ⟨T9, B9, z9, X9, p9, f9, g9⟩ := loop len 0 (by omega) .unset (Or.inl rfl) s₁ B (by simpa [copyLocs] using X0) ⟨hB0.1, fun _ _ => rfl, rfl⟩ (Laid.zero _ _ _) c2
  have c11 : Steps p.tables e below (s₁.setTop (entryFrame m #[.ref b, .int (Int32.ofNat o), .ref d, .int (Int32.ofNat q), .int (Int32.ofNat len)] 7)) (T9.setTop (mkF m 46 #[.val (.ref b), .val (.int (Int32.ofNat (o + len))), .val (.ref d), .val (.int (Int32.ofNat (q + len))), .val (.int (Int32.ofNat len)), .val (.int (Int32.ofNat len)), z9] [.int (Int32.ofNat len)])) := g9.trans (by
    refine XS.iload X9.here hexec rfl (hb hbytes d3) rfl ?_
    refine XS.iload X9.here hexec rfl (hb hbytes d5) rfl ?_
    refine XS.icmpYes X9.here hexec rfl (pc0 := 7) rfl (hb hbytes d7) rfl (ii_ge_t (nlt32 (by omega) (Nat.le_refl _))) (by decide) rfl ?_
    refine XS.iload X9.here hexec rfl (hb hbytes d44) rfl ?_
    exact Steps.refl _)
  exact ⟨T9, some (.int (Int32.ofNat len)), _, _, _, X9, by simp, rfl, rfl, (fun h => by cases h), ⟨rfl, B9, p9.from hh0, f9⟩, fun fs hl => c11.trans (X9.ireturnOut hexec hret rfl (Or.inl rfl) (hb hbytes d46) hl)⟩
end Cmp5
namespace Cmp3
def yN : MethodName := ⟨"java/lang/StringUTF16", "compress", "([CII)[B"⟩
abbrev yB : ByteArray := jdk_52_method_16_code
theorem d0 : decode yB 0 = .ok (.iload_n 2, 1) := by decide +kernel
theorem d1 : decode yB 1 = .ok (.newarray .byte, 2) := by decide +kernel
theorem d3 : decode yB 3 = .ok (.astore_n 3, 1) := by decide +kernel
theorem d4 : decode yB 4 = .ok (.aload_n 0, 1) := by decide +kernel
theorem d5 : decode yB 5 = .ok (.iload_n 1, 1) := by decide +kernel
theorem d6 : decode yB 6 = .ok (.aload_n 3, 1) := by decide +kernel
theorem d7 : decode yB 7 = .ok (.iconst 0, 1) := by decide +kernel
theorem d8 : decode yB 8 = .ok (.iload_n 2, 1) := by decide +kernel
theorem d9 : decode yB 9 = .ok (.invokestatic 115, 3) := by decide +kernel
theorem d12 : decode yB 12 = .ok (.istore 4, 2) := by decide +kernel
theorem d14 : decode yB 14 = .ok (.iload 4, 2) := by decide +kernel
theorem d16 : decode yB 16 = .ok (.iload_n 2, 1) := by decide +kernel
theorem d17 : decode yB 17 = .ok (.if_icmp (.eq) 40, 3) := by decide +kernel
theorem d57 : decode yB 57 = .ok (.aload_n 3, 1) := by decide +kernel
theorem d58 : decode yB 58 = .ok (.areturn, 1) := by decide +kernel
def site : List Cond := [.arrayClass .byte, Cmp5.tab] ++ staticW U16 115 Cmp5.yN
def tab : Cond := tabOf yN yB 6 (some (.array .byte)) site
def P (b : Addr) (A : Cell) (o len : Nat) (args : Array Value) (s : State) : Prop := args = #[.ref b, .int (Int32.ofNat o), .int (Int32.ofNat len)] ∧ Ch b A s ∧ o + len ≤ A.slots.size ∧ len ≤ 536870912 ∧ ∀ i, i < len → ¬ 255 < cv A (o + i)
def E (b : Addr) (A : Cell) (o len : Nat) (r : Option Value) (s u : State) : Prop := NewArr .byte "[B" len (fun j => .int (lo8 (cv A (o + j)))) r s u ∧ u.heap.size = s.heap.size + 1
/-- no char of the range above 255: a new byte[] of their low bytes -/
theorem law (l : Launch) (b : Addr) (A : Cell) (o len : Nat) : Law l yN 3 3 1 18 yB 6 (some (.array .byte)) site (P b A o len) (E b A o len) [] 1 len := by
  refine Law.of_walk (plainFor_of_name (by decide +kernel)) (by decide +kernel) (by decide +kernel) (by decide) (fun _ _ h => by rw [h.1]; rfl) (fun _ U U' hal hh h => ⟨h.1, h.2.1.mv hal hh, h.2.2⟩) (fun r U U' V V' h1 hal h2 h => ⟨NewArr.mv r U U' V V' h1 hal h2 h.1, by rw [h1, h2]; exact h.2⟩) ?_
  intro p e s m args below meth c s₁ X0 hexec hbytes hml hret hlk hnm hown hh0 W hP
  obtain ⟨rfl, hA, l1, l2, hp⟩ := hP
  have a31 := hA.1.2.2.2
  have c1 : Steps p.tables e below (s₁.setTop (entryFrame m #[.ref b, .int (Int32.ofNat o), .int (Int32.ofNat len)] 6)) (s₁.setTop (mkF m 0 #[.val (.ref b), .val (.int (Int32.ofNat o)), .val (.int (Int32.ofNat len)), .unset, .unset, .unset] [])) := entry rfl
  have c2 : Steps p.tables e below (s₁.setTop (entryFrame m #[.ref b, .int (Int32.ofNat o), .int (Int32.ofNat len)] 6)) (s₁.setTop (mkF m 1 #[.val (.ref b), .val (.int (Int32.ofNat o)), .val (.int (Int32.ofNat len)), .unset, .unset, .unset] [.int (Int32.ofNat len)])) := c1.trans (by
    refine XS.iloadN X0.here hexec rfl (hb hbytes d0) rfl ?_
    exact Steps.refl _)
  obtain ⟨T3, B3, X3, ba3, bs3, bv3, bh3, bf3, st3⟩ := X0.anew hexec (atype := .byte) (wk W (.arrayClass .byte)) rfl (by show len * 1 ≤ _; omega) (by omega) (g := (mkF m 1 #[.val (.ref b), .val (.int (Int32.ofNat o)), .val (.int (Int32.ofNat len)), .unset, .unset, .unset] [.int (Int32.ofNat len)])) rfl (hb hbytes d1) (rest := []) rfl (Nat.le_refl _) (by show 0 + len ≤ len; omega)
  rw [hh0] at ba3 st3
  have kp3 : XT.Kept s T3 := (XT.Kept.of_eq hh0).push bh3
  have hA3 := hA.keep X3.warmed.alike (kp3 _ _ hA.1.1)
  have hne : b ≠ s.heap.size := hA.1.ne
  have c4 : Steps p.tables e below (s₁.setTop (entryFrame m #[.ref b, .int (Int32.ofNat o), .int (Int32.ofNat len)] 6)) (T3.setTop (mkF m 3 #[.val (.ref b), .val (.int (Int32.ofNat o)), .val (.int (Int32.ofNat len)), .unset, .unset, .unset] [.ref s.heap.size])) := c2.trans (st3 _ (Steps.refl _))
  have c5 : Steps p.tables e below (s₁.setTop (entryFrame m #[.ref b, .int (Int32.ofNat o), .int (Int32.ofNat len)] 6)) (T3.setTop (mkF m 9 #[.val (.ref b), .val (.int (Int32.ofNat o)), .val (.int (Int32.ofNat len)), .val (.ref s.heap.size), .unset, .unset] [.int (Int32.ofNat len), .int 0, .ref s.heap.size, .int (Int32.ofNat o), .ref b])) := c4.trans (by
    refine XS.astoreN X3.here hexec rfl (hb hbytes d3) rfl rfl rfl ?_
    refine XS.aloadN X3.here hexec rfl (hb hbytes d4) rfl rfl ?_
    refine XS.iloadN X3.here hexec rfl (hb hbytes d5) rfl ?_
    refine XS.aloadN X3.here hexec rfl (hb hbytes d6) rfl rfl ?_
    refine iconstV X3.here hexec rfl 0 (hb hbytes d7) (by decide) ?_
    refine XS.iloadN X3.here hexec rfl (hb hbytes d8) rfl ?_
    exact Steps.refl _)
  obtain ⟨v6, T6, X6, E6, g6⟩ := X3.callS hexec (Cmp5.law l b A s.heap.size B3 o 0 len) hown (wks W (staticW U16 115 Cmp5.yN)) (wk W Cmp5.tab) (W := 0) (Nat.le_of_ble_eq_true rfl) (Nat.le_of_ble_eq_true rfl) (Nat.le_refl _) (by show 0 + len + 0 ≤ len; omega) (g := (mkF m 9 #[.val (.ref b), .val (.int (Int32.ofNat o)), .val (.int (Int32.ofNat len)), .val (.ref s.heap.size), .unset, .unset] [.int (Int32.ofNat len), .int (Int32.ofNat 0), .ref s.heap.size, .int (Int32.ofNat o), .ref b])) rfl (by rw [hml]; rfl) c5 (argsL := [.ref b, .int (Int32.ofNat o), .ref s.heap.size, .int (Int32.ofNat 0), .int (Int32.ofNat len)]) (rest := []) rfl rfl (by show 2 * 0 + 0 ≤ _; decide) (hb hbytes d9) (⟨rfl, hA3, ba3, hne, l1, by rw [bs3]; simp, hp⟩)
  obtain ⟨rfl, B6, p6, f6⟩ := E6
  have c7 : Steps p.tables e below (s₁.setTop (entryFrame m #[.ref b, .int (Int32.ofNat o), .int (Int32.ofNat len)] 6)) (T6.setTop (mkF m 12 #[.val (.ref b), .val (.int (Int32.ofNat o)), .val (.int (Int32.ofNat len)), .val (.ref s.heap.size), .unset, .unset] [.int (Int32.ofNat len)])) := g6
  have c8 : Steps p.tables e below (s₁.setTop (entryFrame m #[.ref b, .int (Int32.ofNat o), .int (Int32.ofNat len)] 6)) (T6.setTop (mkF m 58 #[.val (.ref b), .val (.int (Int32.ofNat o)), .val (.int (Int32.ofNat len)), .val (.ref s.heap.size), .val (.int (Int32.ofNat len)), .unset] [.ref s.heap.size])) := c7.trans (by
    refine XS.istore X6.here hexec rfl (hb hbytes d12) rfl rfl ?_
    refine XS.iload X6.here hexec rfl (hb hbytes d14) rfl ?_
    refine XS.iloadN X6.here hexec rfl (hb hbytes d16) rfl ?_
    refine XS.icmpYes X6.here hexec rfl (pc0 := 17) rfl (hb hbytes d17) rfl (ii_eq_t rfl) (by decide) rfl ?_
    refine XS.aloadN X6.here hexec rfl (hb hbytes d57) rfl rfl ?_
    exact Steps.refl _)
  have X8 := X6.wide (L' := []) (cells' := 1) (slots' := len) (fun x hx hlt => by
    simp only [List.nil_append, copyLocs, List.mem_map, List.mem_range] at hx
    obtain ⟨i, -, rfl⟩ := hx
    exact absurd hlt (Nat.lt_irrefl _)) (Nat.le_refl _) (by omega)
  exact ⟨T6, some (.ref s.heap.size), _, _, _, X8, rfl, rfl, rfl, (fun h => by cases h), ⟨⟨rfl, B6, ba3.like (X3.warmed.alike.symm.trans X6.warmed.alike) p6.1 f6.1 f6.2.1 f6.2.2.1, f6.2.1.trans bv3, by rw [X6.warmed.alike.findClass, f6.1]; exact bf3, by rw [f6.2.2.1, bs3]; simp, fun j hj => by rw [f6.2.2.2 j, if_pos (by omega)]; rfl, kp3.put p6 (Nat.le_refl _)⟩, by rw [p6.2.2, bh3, hh0]; simp⟩, fun fs hl => c8.trans (X8.areturnOut hexec rfl hret rfl (hb hbytes d58) hl)⟩
end Cmp3
namespace CodL
def yN : MethodName := ⟨"java/lang/StringUTF16", "coderFromArrayLen", "([BI)B"⟩
abbrev yB : ByteArray := jdk_52_method_15_code
theorem d0 : decode yB 0 = .ok (.iload_n 1, 1) := by decide +kernel
theorem d1 : decode yB 1 = .ok (.aload_n 0, 1) := by decide +kernel
theorem d2 : decode yB 2 = .ok (.arraylength, 1) := by decide +kernel
theorem d3 : decode yB 3 = .ok (.isub, 1) := by decide +kernel
theorem d4 : decode yB 4 = .ok (.bipush 31, 2) := by decide +kernel
theorem d6 : decode yB 6 = .ok (.iushr, 1) := by decide +kernel
theorem d7 : decode yB 7 = .ok (.i2b, 1) := by decide +kernel
theorem d8 : decode yB 8 = .ok (.ireturn, 1) := by decide +kernel
def site : List Cond := []
def tab : Cond := tabOf yN yB 2 (some .byte) site
def P (d : Addr) (B : Cell) (args : Array Value) (s : State) : Prop := args = #[.ref d, .int (Int32.ofNat B.slots.size)] ∧ Arr .byte d B s
def E (r : Option Value) (s u : State) : Prop := XT.PureE (some (.int 0)) r s u
/-- an array as long as the number of chars: LATIN1 -/
theorem law (l : Launch) (d : Addr) (B : Cell) : Law l yN 2 2 0 0 yB 2 (some .byte) site (P d B) E [] 0 0 := by
  refine Law.of_walk (plainFor_of_name (by decide +kernel)) (by decide +kernel) (by decide +kernel) (by decide) (fun _ _ h => by rw [h.1]; rfl) (fun _ U U' hal hh h => ⟨h.1, h.2.mv hal hh⟩) (fun r U U' V V' h1 hal h2 h => XT.PureE.mv r U U' V V' h1 hal h2 h) ?_
  intro p e s m args below meth c s₁ X0 hexec hbytes hml hret hlk hnm hown hh0 W hP
  obtain ⟨rfl, hB⟩ := hP
  have hB0 := hB.mv X0.warmed.alike hh0
  have c1 : Steps p.tables e below (s₁.setTop (entryFrame m #[.ref d, .int (Int32.ofNat B.slots.size)] 2)) (s₁.setTop (mkF m 0 #[.val (.ref d), .val (.int (Int32.ofNat B.slots.size))] [])) := entry rfl
  have c2 : Steps p.tables e below (s₁.setTop (entryFrame m #[.ref d, .int (Int32.ofNat B.slots.size)] 2)) (s₁.setTop (mkF m 2 #[.val (.ref d), .val (.int (Int32.ofNat B.slots.size))] [.ref d, .int (Int32.ofNat B.slots.size)])) := c1.trans (by
    refine XS.iloadN X0.here hexec rfl (hb hbytes d0) rfl ?_
    refine XS.aloadN X0.here hexec rfl (hb hbytes d1) rfl rfl ?_
    exact Steps.refl _)
  have c3 : Steps p.tables e below (s₁.setTop (entryFrame m #[.ref d, .int (Int32.ofNat B.slots.size)] 2)) (s₁.setTop (mkF m 8 #[.val (.ref d), .val (.int (Int32.ofNat B.slots.size))] [.int (lo8 (ushr (Int32.ofNat B.slots.size - Int32.ofNat B.slots.size) 31))])) := c2.trans (by
    refine X0.alen hexec hB0 rfl rfl (hb hbytes d2) ?_
    refine XS.isub X0.here hexec rfl (hb hbytes d3) rfl ?_
    refine bipushV X0.here hexec rfl 31 (hb hbytes d4) (by decide) ?_
    refine iushr X0.here hexec rfl (hb hbytes d6) rfl ?_
    refine i2b X0.here hexec rfl (hb hbytes d7) rfl ?_
    exact Steps.refl _)
  have e0 : lo8 (ushr (Int32.ofNat B.slots.size - Int32.ofNat B.slots.size) 31) = 0 := by rw [Int32.sub_self]; decide
  rw [e0] at c3
  exact ⟨s₁, some (.int 0), _, _, _, X0, rfl, rfl, rfl, (fun h => by cases h), ⟨rfl, hh0⟩, fun fs hl => c3.trans (X0.ireturnOut hexec hret rfl (Or.inr (Or.inr (Or.inl rfl))) (hb hbytes d8) hl)⟩
end CodL
/-- the String at a is Latin-1 over a new byte[] (the heap's one new cell): the low bytes of the len chars of A from o on; every cell but a is kept -/
def Got (a : Addr) (D : Cell) (fV fC : Field) (A : Cell) (o len : Nat) (r : Option Value) (s u : State) : Prop := r = none ∧ ∃ D' V : Cell, Blank "java/lang/String" a D' u ∧ Same D D' [fV.slot, fC.slot] ∧ D'.slots[fV.slot]? = some (.ref s.heap.size) ∧ D'.slots[fC.slot]? = some (.int 0) ∧ Arr .byte s.heap.size V u ∧ V.vm = .none ∧ u.vm.findClass "[B" = some V.cls ∧ V.slots.size = len ∧ (∀ j, j < len → V.slots[j]? = some (.int (lo8 (cv A (o + j))))) ∧ (∀ (y : Addr) (c : Cell), y ≠ a → s.heap[y]? = some c → u.heap[y]? = some c) ∧ u.heap.size = s.heap.size + 1
theorem Got.mv {a : Addr} {D A : Cell} {fV fC : Field} {o len : Nat} : ∀ r (U U' V V' : State), U'.heap = U.heap → V.vm.Alike V'.vm → V'.heap = V.heap → Got a D fV fC A o len r U V → Got a D fV fC A o len r U' V' :=
  fun r U U' V V' h1 hal h2 ⟨e0, D', X, a1, a2, a3, a4, a5, a6, a7, a8, a9, a10, a11⟩ => ⟨e0, D', X, a1.mv hal h2, a2, by rw [h1]; exact a3, a4, by rw [h1]; exact a5.mv hal h2, a6, by rw [hal.findClass]; exact a7, a8, a9, by rw [h1, h2]; exact a10, by rw [h1, h2]; exact a11⟩
namespace New4
def yN : MethodName := ⟨"java/lang/String", "<init>", "([CIILjava/lang/Void;)V"⟩
abbrev yB : ByteArray := jdk_42_method_149_code
theorem d0 : decode yB 0 = .ok (.aload_n 0, 1) := by decide +kernel
theorem d1 : decode yB 1 = .ok (.invokespecial 1, 3) := by decide +kernel
theorem d4 : decode yB 4 = .ok (.iload_n 3, 1) := by decide +kernel
theorem d5 : decode yB 5 = .ok (.ifCond (.ne) 22, 3) := by decide +kernel
theorem d27 : decode yB 27 = .ok (.getstatic 38, 3) := by decide +kernel
theorem d30 : decode yB 30 = .ok (.ifCond (.eq) 28, 3) := by decide +kernel
theorem d33 : decode yB 33 = .ok (.aload_n 1, 1) := by decide +kernel
theorem d34 : decode yB 34 = .ok (.iload_n 2, 1) := by decide +kernel
theorem d35 : decode yB 35 = .ok (.iload_n 3, 1) := by decide +kernel
theorem d36 : decode yB 36 = .ok (.invokestatic 177, 3) := by decide +kernel
theorem d39 : decode yB 39 = .ok (.astore 5, 2) := by decide +kernel
theorem d41 : decode yB 41 = .ok (.aload_n 0, 1) := by decide +kernel
theorem d42 : decode yB 42 = .ok (.aload 5, 2) := by decide +kernel
theorem d44 : decode yB 44 = .ok (.iload_n 3, 1) := by decide +kernel
theorem d45 : decode yB 45 = .ok (.invokestatic 47, 3) := by decide +kernel
theorem d48 : decode yB 48 = .ok (.putfield 15, 3) := by decide +kernel
theorem d51 : decode yB 51 = .ok (.aload_n 0, 1) := by decide +kernel
theorem d52 : decode yB 52 = .ok (.aload 5, 2) := by decide +kernel
theorem d54 : decode yB 54 = .ok (.putfield 9, 3) := by decide +kernel
theorem d57 : decode yB 57 = .ok (.return_, 1) := by decide +kernel
def site : List Cond := [.fieldLink "java/lang/String" 38 "java/lang/String" "COMPACT_STRINGS" "Z", Cmp3.tab, CodL.tab, .laysFinal "java/lang/String" "java/lang/String" "value" "[B", .fieldLink "java/lang/String" 9 "java/lang/String" "value" "[B", .laysFinal "java/lang/String" "java/lang/String" "coder" "B", .fieldLink "java/lang/String" 15 "java/lang/String" "coder" "B"] ++ objW "java/lang/String" 1 ++ staticW "java/lang/String" 177 Cmp3.yN ++ staticW "java/lang/String" 47 CodL.yN
def tab : Cond := tabOf yN yB 6 none site
def P (a : Addr) (D : Cell) (fV fC : Field) (b : Addr) (A : Cell) (z : Int32) (o len : Nat) (args : Array Value) (s : State) : Prop := args = #[.ref a, .ref b, .int (Int32.ofNat o), .int (Int32.ofNat len), .null] ∧ Blank "java/lang/String" a D s ∧ Found "java/lang/String" "value" "[B" fV s ∧ Found "java/lang/String" "coder" "B" fC s ∧ Ch b A s ∧ StaticIs s "java/lang/String" "COMPACT_STRINGS" "Z" (.int z) ∧ ¬ z = 0 ∧ 0 < len ∧ o + len ≤ A.slots.size ∧ len ≤ 536870912 ∧ ∀ i, i < len → ¬ 255 < cv A (o + i)
def E (a : Addr) (D : Cell) (fV fC : Field) (A : Cell) (o len : Nat) (r : Option Value) (s u : State) : Prop := Got a D fV fC A o len r s u
/-- len > 0, no char of the range above 255: a Latin-1 String of their low bytes -/
theorem law (l : Launch) (a : Addr) (D : Cell) (fV fC : Field) (b : Addr) (A : Cell) (z : Int32) (o len : Nat) : Law l yN 5 4 2 35 yB 6 none site (P a D fV fC b A z o len) (E a D fV fC A o len) [⟨a, fC.slot⟩, ⟨a, fV.slot⟩] 1 len := by
  refine Law.of_walk (plainFor_of_name (by decide +kernel)) (by decide +kernel) (by decide +kernel) (by decide) (fun _ _ h => by rw [h.1]; rfl) (fun _ U U' hal hh h => ⟨h.1, h.2.1.mv hal hh, h.2.2.1.al hal, h.2.2.2.1.al hal, h.2.2.2.2.1.mv hal hh, h.2.2.2.2.2.1.there hal hh, h.2.2.2.2.2.2⟩) (fun r U U' V V' h1 hal h2 h => Got.mv r U U' V V' h1 hal h2 h) ?_
  intro p e s m args below meth c s₁ X0 hexec hbytes hml hret hlk hnm hown hh0 W hP
  obtain ⟨rfl, hB, f1, f2, hA, s1, hz, l0, l1, l2, hp⟩ := hP
  have a31 := hA.1.2.2.2
  have c1 : Steps p.tables e below (s₁.setTop (entryFrame m #[.ref a, .ref b, .int (Int32.ofNat o), .int (Int32.ofNat len), .null] 6)) (s₁.setTop (mkF m 0 #[.val (.ref a), .val (.ref b), .val (.int (Int32.ofNat o)), .val (.int (Int32.ofNat len)), .val .null, .unset] [])) := entry rfl
  have c2 : Steps p.tables e below (s₁.setTop (entryFrame m #[.ref a, .ref b, .int (Int32.ofNat o), .int (Int32.ofNat len), .null] 6)) (s₁.setTop (mkF m 1 #[.val (.ref a), .val (.ref b), .val (.int (Int32.ofNat o)), .val (.int (Int32.ofNat len)), .val .null, .unset] [.ref a])) := c1.trans (by
    refine XS.aloadN X0.here hexec rfl (hb hbytes d0) rfl rfl ?_
    exact Steps.refl _)
  obtain ⟨T3, X3, q3, st3⟩ := X0.oinit hexec hown (wks W (objW "java/lang/String" 1)) (g := (mkF m 1 #[.val (.ref a), .val (.ref b), .val (.int (Int32.ofNat o)), .val (.int (Int32.ofNat len)), .val .null, .unset] [.ref a])) rfl (by rw [hml]; rfl) (rest := []) rfl (hb hbytes d1) (W := 0) (by show 2 * 0 + 0 ≤ _; decide) (Nat.le_of_ble_eq_true rfl) (Nat.le_of_ble_eq_true rfl)
  have hh3 := q3.trans hh0
  have c4 : Steps p.tables e below (s₁.setTop (entryFrame m #[.ref a, .ref b, .int (Int32.ofNat o), .int (Int32.ofNat len), .null] 6)) (T3.setTop (mkF m 27 #[.val (.ref a), .val (.ref b), .val (.int (Int32.ofNat o)), .val (.int (Int32.ofNat len)), .val .null, .unset] [])) := (c2.trans (st3 _ (Steps.refl _))).trans (by
    refine XS.iloadN X3.here hexec rfl (hb hbytes d4) rfl ?_
    refine XS.ifYes X3.here hexec rfl (pc0 := 5) rfl (hb hbytes d5) rfl (i0_ne_t (nz32 (by omega) l0)) (by decide) rfl ?_
    exact Steps.refl _)
  obtain ⟨T5, X5, q5, st5⟩ := X3.sget hexec hown (wk W (.fieldLink "java/lang/String" 38 "java/lang/String" "COMPACT_STRINGS" "Z")) s1 (fun _ _ h => by rw [hh3]; exact h) (g := (mkF m 27 #[.val (.ref a), .val (.ref b), .val (.int (Int32.ofNat o)), .val (.int (Int32.ofNat len)), .val .null, .unset] [])) rfl (hb hbytes d27)
  have hh5 := q5.trans hh3
  have c6 : Steps p.tables e below (s₁.setTop (entryFrame m #[.ref a, .ref b, .int (Int32.ofNat o), .int (Int32.ofNat len), .null] 6)) (T5.setTop (mkF m 30 #[.val (.ref a), .val (.ref b), .val (.int (Int32.ofNat o)), .val (.int (Int32.ofNat len)), .val .null, .unset] [.int z])) := c4.trans (st5 _ (Steps.refl _))
  have c7 : Steps p.tables e below (s₁.setTop (entryFrame m #[.ref a, .ref b, .int (Int32.ofNat o), .int (Int32.ofNat len), .null] 6)) (T5.setTop (mkF m 36 #[.val (.ref a), .val (.ref b), .val (.int (Int32.ofNat o)), .val (.int (Int32.ofNat len)), .val .null, .unset] [.int (Int32.ofNat len), .int (Int32.ofNat o), .ref b])) := c6.trans (by
    refine XS.ifNo X5.here hexec rfl (hb hbytes d30) rfl (i0_eq_f hz) ?_
    refine XS.aloadN X5.here hexec rfl (hb hbytes d33) rfl rfl ?_
    refine XS.iloadN X5.here hexec rfl (hb hbytes d34) rfl ?_
    refine XS.iloadN X5.here hexec rfl (hb hbytes d35) rfl ?_
    exact Steps.refl _)
  obtain ⟨v8, T8, X8, E8, g8⟩ := X5.callS hexec (Cmp3.law l b A o len) hown (wks W (staticW "java/lang/String" 177 Cmp3.yN)) (wk W Cmp3.tab) (W := 0) (Nat.le_of_ble_eq_true rfl) (Nat.le_of_ble_eq_true rfl) (Nat.le_refl _) (by show 0 + len ≤ len; omega) (g := (mkF m 36 #[.val (.ref a), .val (.ref b), .val (.int (Int32.ofNat o)), .val (.int (Int32.ofNat len)), .val .null, .unset] [.int (Int32.ofNat len), .int (Int32.ofNat o), .ref b])) rfl (by rw [hml]; rfl) c7 (argsL := [.ref b, .int (Int32.ofNat o), .int (Int32.ofNat len)]) (rest := []) rfl rfl (by show 2 * 0 + 0 ≤ _; decide) (hb hbytes d36) (⟨rfl, hA.mv X5.warmed.alike hh5, l1, l2, hp⟩)
  obtain ⟨e8, z8⟩ := E8
  obtain ⟨rfl, N, n1, n2, n3, n4, n5, n6⟩ := NewArr.mv _ T5 s _ _ hh5.symm (Vm.Alike.refl _) rfl e8
  rw [hh5] at z8
  have hB1 := hB.keep X8.warmed.alike (n6 _ _ hB.1)
  have hne : s.heap.size ≠ a := (Nat.ne_of_lt (Array.getElem?_eq_some_iff.mp hB.1).1).symm
  have c9 : Steps p.tables e below (s₁.setTop (entryFrame m #[.ref a, .ref b, .int (Int32.ofNat o), .int (Int32.ofNat len), .null] 6)) (T8.setTop (mkF m 39 #[.val (.ref a), .val (.ref b), .val (.int (Int32.ofNat o)), .val (.int (Int32.ofNat len)), .val .null, .unset] [.ref s.heap.size])) := g8
  have c10 : Steps p.tables e below (s₁.setTop (entryFrame m #[.ref a, .ref b, .int (Int32.ofNat o), .int (Int32.ofNat len), .null] 6)) (T8.setTop (mkF m 45 #[.val (.ref a), .val (.ref b), .val (.int (Int32.ofNat o)), .val (.int (Int32.ofNat len)), .val .null, .val (.ref s.heap.size)] [.int (Int32.ofNat N.slots.size), .ref s.heap.size, .ref a])) := by
    have hc : Steps p.tables e below (s₁.setTop (entryFrame m #[.ref a, .ref b, .int (Int32.ofNat o), .int (Int32.ofNat len), .null] 6)) (T8.setTop (mkF m 45 #[.val (.ref a), .val (.ref b), .val (.int (Int32.ofNat o)), .val (.int (Int32.ofNat len)), .val .null, .val (.ref s.heap.size)] [.int (Int32.ofNat len), .ref s.heap.size, .ref a])) := c9.trans (by
      refine XS.astore X8.here hexec rfl (hb hbytes d39) rfl rfl rfl ?_
      refine XS.aloadN X8.here hexec rfl (hb hbytes d41) rfl rfl ?_
      refine XS.aload X8.here hexec rfl (hb hbytes d42) rfl rfl ?_
      refine XS.iloadN X8.here hexec rfl (hb hbytes d44) rfl ?_
      exact Steps.refl _)
    rw [n4]; exact hc
  obtain ⟨v11, T11, X11, E11, g11⟩ := X8.callS hexec (CodL.law l s.heap.size N) hown (wks W (staticW "java/lang/String" 47 CodL.yN)) (wk W CodL.tab) (W := 1) (Nat.le_of_ble_eq_true rfl) (Nat.le_of_ble_eq_true rfl) (Nat.le_refl _) (by show 0 + len + 0 ≤ len; omega) (g := (mkF m 45 #[.val (.ref a), .val (.ref b), .val (.int (Int32.ofNat o)), .val (.int (Int32.ofNat len)), .val .null, .val (.ref s.heap.size)] [.int (Int32.ofNat N.slots.size), .ref s.heap.size, .ref a])) rfl (by rw [hml]; rfl) c10 (argsL := [.ref s.heap.size, .int (Int32.ofNat N.slots.size)]) (rest := [.ref a]) rfl rfl (by show 2 * 0 + (1 + 0) ≤ _; decide) (hb hbytes d45) (⟨rfl, n1⟩)
  obtain ⟨rfl, q11⟩ := E11
  have hB11 := hB1.mv (X8.warmed.alike.symm.trans X11.warmed.alike) q11
  have c12 : Steps p.tables e below (s₁.setTop (entryFrame m #[.ref a, .ref b, .int (Int32.ofNat o), .int (Int32.ofNat len), .null] 6)) (T11.setTop (mkF m 48 #[.val (.ref a), .val (.ref b), .val (.int (Int32.ofNat o)), .val (.int (Int32.ofNat len)), .val .null, .val (.ref s.heap.size)] [.int 0, .ref a])) := g11
  obtain ⟨T13, X13, p13, bl13, sl13, st13⟩ := X11.finit hexec hown (wk W (.fieldLink "java/lang/String" 15 "java/lang/String" "coder" "B")) (Or.inr ⟨_, (wk W (.laysFinal "java/lang/String" "java/lang/String" "coder" "B"))⟩) (Or.inl ⟨rfl, hnm⟩) f2 (Or.inl rfl) hB11 (t := .byte) (by decide +kernel) rfl (g := (mkF m 48 #[.val (.ref a), .val (.ref b), .val (.int (Int32.ofNat o)), .val (.int (Int32.ofNat len)), .val .null, .val (.ref s.heap.size)] [.int 0, .ref a])) rfl (rest := []) rfl (hb hbytes d48)
  have c14 : Steps p.tables e below (s₁.setTop (entryFrame m #[.ref a, .ref b, .int (Int32.ofNat o), .int (Int32.ofNat len), .null] 6)) (T13.setTop (mkF m 54 #[.val (.ref a), .val (.ref b), .val (.int (Int32.ofNat o)), .val (.int (Int32.ofNat len)), .val .null, .val (.ref s.heap.size)] [.ref s.heap.size, .ref a])) := (c12.trans (st13 _ (Steps.refl _))).trans (by
    refine XS.aloadN X13.here hexec rfl (hb hbytes d51) rfl rfl ?_
    refine XS.aload X13.here hexec rfl (hb hbytes d52) rfl rfl ?_
    exact Steps.refl _)
  obtain ⟨T15, X15, p15, bl15, sl15, st15⟩ := X13.finit hexec hown (wk W (.fieldLink "java/lang/String" 9 "java/lang/String" "value" "[B")) (Or.inr ⟨_, (wk W (.laysFinal "java/lang/String" "java/lang/String" "value" "[B"))⟩) (Or.inl ⟨rfl, hnm⟩) f1 (Or.inl rfl) bl13 (t := (.array .byte)) (by decide +kernel) rfl (g := (mkF m 54 #[.val (.ref a), .val (.ref b), .val (.int (Int32.ofNat o)), .val (.int (Int32.ofNat len)), .val .null, .val (.ref s.heap.size)] [.ref s.heap.size, .ref a])) rfl (rest := []) rfl (hb hbytes d54)
  have c16 : Steps p.tables e below (s₁.setTop (entryFrame m #[.ref a, .ref b, .int (Int32.ofNat o), .int (Int32.ofNat len), .null] 6)) (T15.setTop (mkF m 57 #[.val (.ref a), .val (.ref b), .val (.int (Int32.ofNat o)), .val (.int (Int32.ofNat len)), .val .null, .val (.ref s.heap.size)] [])) := c14.trans (st15 _ (Steps.refl _))
  have ap := apart (Or.inr ⟨_, (wk W (.laysFinal "java/lang/String" "java/lang/String" "value" "[B"))⟩) (Or.inr ⟨_, (wk W (.laysFinal "java/lang/String" "java/lang/String" "coder" "B"))⟩) f1 f2 (t₁ := .array .byte) (t₂ := .byte) (by decide +kernel) (by decide +kernel) (by decide)
  have al := X8.warmed.alike.symm.trans X15.warmed.alike
  have n7 : T11.heap[s.heap.size]? = some N := by rw [q11]; exact n1.1
  exact ⟨T15, none, _, _, _, X15, by simp, rfl, by omega, (fun _ => rfl), ⟨rfl, _, N, bl15, ((Same.refl D _).set _ (by simp)).set _ (by simp), sl15, (Cell.slots_setSlot_ne _ ap).trans sl13, n1.keep al (p15.other hne (p13.other hne n7)), n2, by rw [al.findClass]; exact n3, n4, n5, fun y c h1 h2 => p15.other h1 (p13.other h1 (by rw [q11]; exact n6 y c h2)), by rw [p15.2.2, p13.2.2, q11]; exact z8⟩, fun fs hl => c16.trans (X15.returnOut hexec hret (hb hbytes d57) hl)⟩
end New4
namespace New1
def yN : MethodName := ⟨"java/lang/String", "<init>", "([C)V"⟩
abbrev yB : ByteArray := jdk_42_method_3_code
theorem d0 : decode yB 0 = .ok (.aload_n 0, 1) := by decide +kernel
theorem d1 : decode yB 1 = .ok (.aload_n 1, 1) := by decide +kernel
theorem d2 : decode yB 2 = .ok (.iconst 0, 1) := by decide +kernel
theorem d3 : decode yB 3 = .ok (.aload_n 1, 1) := by decide +kernel
theorem d4 : decode yB 4 = .ok (.arraylength, 1) := by decide +kernel
theorem d5 : decode yB 5 = .ok (.aconst_null, 1) := by decide +kernel
theorem d6 : decode yB 6 = .ok (.invokespecial 27, 3) := by decide +kernel
theorem d9 : decode yB 9 = .ok (.return_, 1) := by decide +kernel
def site : List Cond := [New4.tab] ++ initW "java/lang/String" 27 New4.yN
def tab : Cond := tabOf yN yB 2 none site
def P (a : Addr) (D : Cell) (fV fC : Field) (b : Addr) (A : Cell) (z : Int32) (args : Array Value) (s : State) : Prop := args = #[.ref a, .ref b] ∧ Blank "java/lang/String" a D s ∧ Found "java/lang/String" "value" "[B" fV s ∧ Found "java/lang/String" "coder" "B" fC s ∧ Ch b A s ∧ StaticIs s "java/lang/String" "COMPACT_STRINGS" "Z" (.int z) ∧ ¬ z = 0 ∧ 0 < A.slots.size ∧ A.slots.size ≤ 536870912 ∧ ∀ i, i < A.slots.size → ¬ 255 < cv A i
def E (a : Addr) (D : Cell) (fV fC : Field) (A : Cell) (r : Option Value) (s u : State) : Prop := Got a D fV fC A 0 A.slots.size r s u
/-- new String(chars), not empty, no char above 255: a Latin-1 String of their low bytes -/
theorem law (l : Launch) (a : Addr) (D : Cell) (fV fC : Field) (b : Addr) (A : Cell) (z : Int32) : Law l yN 2 1 3 52 yB 2 none site (P a D fV fC b A z) (E a D fV fC A) [⟨a, fC.slot⟩, ⟨a, fV.slot⟩] 1 A.slots.size := by
  refine Law.of_walk (plainFor_of_name (by decide +kernel)) (by decide +kernel) (by decide +kernel) (by decide) (fun _ _ h => by rw [h.1]; rfl) (fun _ U U' hal hh h => ⟨h.1, h.2.1.mv hal hh, h.2.2.1.al hal, h.2.2.2.1.al hal, h.2.2.2.2.1.mv hal hh, h.2.2.2.2.2.1.there hal hh, h.2.2.2.2.2.2⟩) (fun r U U' V V' h1 hal h2 h => Got.mv r U U' V V' h1 hal h2 h) ?_
  intro p e s m args below meth c s₁ X0 hexec hbytes hml hret hlk hnm hown hh0 W hP
  obtain ⟨rfl, hB, f1, f2, hA, s1, hz, l0, l2, hp⟩ := hP
  have c1 : Steps p.tables e below (s₁.setTop (entryFrame m #[.ref a, .ref b] 2)) (s₁.setTop (mkF m 0 #[.val (.ref a), .val (.ref b)] [])) := entry rfl
  have c2 : Steps p.tables e below (s₁.setTop (entryFrame m #[.ref a, .ref b] 2)) (s₁.setTop (mkF m 6 #[.val (.ref a), .val (.ref b)] [.null, .int (Int32.ofNat A.slots.size), .int 0, .ref b, .ref a])) := c1.trans (by
    refine XS.aloadN X0.here hexec rfl (hb hbytes d0) rfl rfl ?_
    refine XS.aloadN X0.here hexec rfl (hb hbytes d1) rfl rfl ?_
    refine iconstV X0.here hexec rfl 0 (hb hbytes d2) (by decide) ?_
    refine XS.aloadN X0.here hexec rfl (hb hbytes d3) rfl rfl ?_
    refine X0.alen hexec (hA.1.mv X0.warmed.alike hh0) rfl rfl (hb hbytes d4) ?_
    refine XS.aconstNull X0.here hexec rfl (hb hbytes d5) ?_
    exact Steps.refl _)
  obtain ⟨v3, T3, X3, E3, g3⟩ := X0.callN hexec (New4.law l a D fV fC b A z 0 A.slots.size) rfl hown (wks W (initW "java/lang/String" 27 New4.yN)) (W New4.tab (by simp only [site, List.mem_cons, List.mem_append, true_or, or_true])) (W := 0) (Nat.le_of_ble_eq_true rfl) (Nat.le_of_ble_eq_true rfl) (Nat.le_refl _) (by show 0 + A.slots.size ≤ A.slots.size; omega) (g := (mkF m 6 #[.val (.ref a), .val (.ref b)] [.null, .int (Int32.ofNat A.slots.size), .int (Int32.ofNat 0), .ref b, .ref a])) rfl (by rw [hml]; rfl) c2 (argsL := [.ref b, .int (Int32.ofNat 0), .int (Int32.ofNat A.slots.size), .null]) (rest := []) rfl rfl (by show 2 * 0 + 0 ≤ _; decide) (hb hbytes d6) (⟨rfl, hB.mv X0.warmed.alike hh0, f1.al X0.warmed.alike, f2.al X0.warmed.alike, hA.mv X0.warmed.alike hh0, s1.there X0.warmed.alike hh0, hz, l0, by omega, l2, fun i hi => by rw [Nat.zero_add]; exact hp i hi⟩)
  have e0 := Got.mv _ s₁ s _ _ hh0.symm (Vm.Alike.refl _) rfl E3
  obtain rfl := e0.1
  have c4 : Steps p.tables e below (s₁.setTop (entryFrame m #[.ref a, .ref b] 2)) (T3.setTop (mkF m 9 #[.val (.ref a), .val (.ref b)] [])) := g3
  exact ⟨T3, none, _, _, _, X3, by simp, rfl, by omega, (fun _ => rfl), e0, fun fs hl => c4.trans (X3.returnOut hexec hret (hb hbytes d9) hl)⟩
theorem pays {l : Launch} {R : Room} {p : Program} {e : Env} {below : List Frame} {s : State} {sargs : Array Value} {len W : Nat} (a : Addr) (D : Cell) (fV fC : Field) (b : Addr) (A : Cell) (z : Int32) (htab : tab.before sargs s = true) (hfr : 4 ≤ R.frames) (hlo : W + 65 ≤ R.locals) :
    Back l R p e below s sargs yN len W (fun A₁ a₁ => A₁.cells + 1 ≤ R.cells ∧ A₁.slots + A.slots.size ≤ R.slots ∧ P a D fV fC b A z a₁ A₁.U) (fun A₁ _ v₁ B₁ => E a D fV fC A v₁ A₁.U B₁.U ∧ B₁.locs = A₁.locs ++ [⟨a, fC.slot⟩, ⟨a, fV.slot⟩] ∧ B₁.cells = A₁.cells + 1 ∧ B₁.slots = A₁.slots + A.slots.size) :=
  (law l a D fV fC b A z).pays htab hfr (by omega)
end New1
/-- the byte, read back as charAt reads it, is the char -/
theorem lo8_mask {x : Int32} (h0 : ¬ x < 0) (h1 : ¬ 255 < x) : lo8 x &&& 255 = x := by
  have t : ∀ k : Fin 256, lo8 (Int32.ofNat k.val) &&& 255 = Int32.ofNat k.val := by decide +kernel
  rw [Int32.lt_iff_toInt_lt] at h0 h1
  have e0 : (0 : Int32).toInt = 0 := rfl
  have e1 : (255 : Int32).toInt = 255 := rfl
  obtain ⟨k, hk⟩ : ∃ k : Nat, x.toInt = k := ⟨x.toInt.toNat, by omega⟩
  have hx : x = Int32.ofNat k := Int32.toInt_inj.mp (by rw [hk, Int32.toInt_ofNat_small (by omega)])
  rw [hx]
  exact t ⟨k, by omega⟩
end StrChars
namespace StrChars.Road
open Jvm Sem ClassFile Op Lib Jvm.Stand Jvm.Free Jvm.Free.XT
open Jvm.Lib.Cold (StaticIs)
abbrev ST : String := "java/lang/String"
/-- every table word that New1's law asks, flat -/
abbrev words : List Jvm.Cond := [.code New1.yN New1.yB 2 none, .initialized ST, .methodLink ST 27 New4.yN, .instanceMethod New4.yN,
  .code New4.yN New4.yB 6 none, .fieldLink ST 38 ST "COMPACT_STRINGS" "Z", .laysFinal ST ST "value" "[B", .fieldLink ST 9 ST "value" "[B", .laysFinal ST ST "coder" "B", .fieldLink ST 15 ST "coder" "B",
  .methodLink ST 1 Lib.objectInit, .instanceMethod Lib.objectInit, .code Lib.objectInit ⟨#[0xb1]⟩ 1 none, .methodLink ST 177 Cmp3.yN, .static Cmp3.yN, .methodLink ST 47 CodL.yN, .static CodL.yN,
  .code Cmp3.yN Cmp3.yB 6 (some (.array .byte)), .initialized U16, .arrayClass .byte, .methodLink U16 115 Cmp5.yN, .static Cmp5.yN, .code Cmp5.yN Cmp5.yB 7 (some .int), .code CodL.yN CodL.yB 2 (some .byte)]
theorem tab_of {a : Array Value} {s : State} (h : ∀ w ∈ words, w.before a s = true) : New1.tab.before a s = true := by
  have h5 : Cmp5.tab.before a s = true := unparts (wk h (.code Cmp5.yN Cmp5.yB 7 (some .int))) (wks h (.initialized Cmp5.yN.cls :: Cmp5.site))
  have hc : CodL.tab.before a s = true := unparts (wk h (.code CodL.yN CodL.yB 2 (some .byte))) (wks h (.initialized CodL.yN.cls :: CodL.site))
  have q5 : ∀ w ∈ Cmp5.tab :: words, w.before a s = true := fun w hw => (List.mem_cons.mp hw).elim (fun e => e ▸ h5) (h w)
  have h3 : Cmp3.tab.before a s = true := unparts (wk q5 (.code Cmp3.yN Cmp3.yB 6 (some (.array .byte)))) (wks q5 (.initialized Cmp3.yN.cls :: Cmp3.site))
  have q3 : ∀ w ∈ Cmp3.tab :: CodL.tab :: words, w.before a s = true := fun w hw => (List.mem_cons.mp hw).elim (fun e => e ▸ h3) fun hw => (List.mem_cons.mp hw).elim (fun e => e ▸ hc) (h w)
  have h4 : New4.tab.before a s = true := unparts (wk q3 (.code New4.yN New4.yB 6 none)) (wks q3 (.initialized New4.yN.cls :: New4.site))
  have q4 : ∀ w ∈ New4.tab :: words, w.before a s = true := fun w hw => (List.mem_cons.mp hw).elim (fun e => e ▸ h4) (h w)
  exact unparts (wk q4 (.code New1.yN New1.yB 2 none)) (wks q4 (.initialized New1.yN.cls :: New1.site))
/-- the words ride from the start Z to the walk's own state -/
theorem moved {Z s : State} {a0 args : Array Value} (hZ : Z.Warmed39 s.vm) (hw : ∀ d ∈ words, d.before a0 Z = true) : ∀ d ∈ words, d.before args s = true := fun d hd => by
  have q := hw d hd
  have t : ∀ d ∈ words, d = .arrayClass .byte ∨ (d.onTables && d.keepsFace) = true := by decide +kernel
  rcases t d hd with rfl | t
  · exact RoadKit.mvA hZ q
  · exact RoadKit.mv hZ q t
/-- WHAT COMES BACK, over the tables of the start Z: h the heap at the call, h' behind it -/
def Q (Z : State) (x : Addr) (A : Cell) (h : Heap) (v : Option Value) (h' : Heap) (L : List Loc) : Prop := v = none ∧ (∀ y ∈ L, y.base = x) ∧ RoadKit.Keep h h' [x] ∧ h'.size = h.size + 1 ∧ RoadKit.Exa Z h' x ST ∧ RoadKit.Fld Z h' x ST "value" "[B" (.ref h.size) ∧ RoadKit.Fld Z h' x ST "coder" "B" (.int 0) ∧
  (∃ V : Cell, RoadKit.Arr Z h' h.size V .byte ∧ V.vm = .none ∧ Z.vm.findClass "[B" = some V.cls ∧ V.slots.size = A.slots.size ∧ ∀ j, j < A.slots.size → V.slots[j]? = some (.int (lo8 (cv A j)))) ∧
  ∀ (O n d : String) (w : Value), RoadKit.Fld Z h x O n d w → RoadKit.slotOf Z O n d ≠ RoadKit.slotOf Z ST "value" "[B" → RoadKit.slotOf Z O n d ≠ RoadKit.slotOf Z ST "coder" "B" → RoadKit.Fld Z h' x O n d w
/-- **new String(chars) AT A CALL, IN THE ROAD'S FORM**: for specialBack behind newO: x the fresh String, b the char[] with the cell A -/
theorem back {p : Program} {l : Launch} {e : Env} {R : Room} {s : State} {args : Array Value} {below : List Frame} {len W : Nat} {Z : State} {a0 : Array Value} {h : Heap} (hZ : Z.Warmed39 s.vm) (hw : ∀ d ∈ words, d.before a0 Z = true) {kI : Nat} (wi : (Jvm.Cond.instantiable ST kI).before a0 Z = true)
    {x b : Addr} {A : Cell} {z : Int32} {v0 c0 : Value} (E : RoadKit.Exa Z h x ST) (V : RoadKit.Fld Z h x ST "value" "[B" v0) (C : RoadKit.Fld Z h x ST "coder" "B" c0) (K : RoadKit.Arr Z h b A .char) (hty : Typed .char A) (S : RoadKit.Sta Z h ST "COMPACT_STRINGS" "Z" (.int z)) (hz : ¬ z = 0)
    (l0 : 0 < A.slots.size) (l2 : A.slots.size ≤ 536870912) (hp : ∀ i, i < A.slots.size → ¬ 255 < cv A i) (hfr : 4 ≤ R.frames) (hlo : W + 65 ≤ R.locals) :
    Back l R p e below s args New1.yN len W (fun P a => a = #[.ref x, .ref b] ∧ P.U.heap = h ∧ P.cells + 1 ≤ R.cells ∧ P.slots + A.slots.size ≤ R.slots)
      (fun P _ v B => ∃ L, Q Z x A h v B.U.heap L ∧ B.locs = P.locs ++ L ∧ B.cells = P.cells + 1 ∧ B.slots = P.slots + A.slots.size) := by
  intro m meth c P g ig mk a X hg hsize hdg hW hn hp'
  obtain ⟨rfl, rfl, r1, r2⟩ := hp'
  have al : Z.vm.Alike P.U.vm := hZ.alike.trans X.warmed.alike
  obtain ⟨D, cfV, kV, iV, fV, hD, gV, stV, knV, obV, asV, slV⟩ := id V
  obtain ⟨D', cfC, kC, iC, fC, hD', gC, stC, -, -, asC, slC⟩ := id C
  cases hD.symm.trans hD'
  obtain ⟨D2, kD, e1, e2, e3, e4, e5⟩ := id E
  cases hD.symm.trans e1
  obtain ⟨c2, k2, i1, i2, i3, -⟩ := Cond.instantiable_spec wi
  cases e2.symm.trans i1
  cases e3.symm.trans i2
  obtain ⟨kU, u1, u2⟩ := al.2.2 _ _ e3
  have hB : Blank ST x D P.U := ⟨hD, ⟨knV, fun q hq => by rw [hq] at obV; cases obV⟩, by rw [al.findClass]; exact e2, kU, u1, by rw [u2]; exact i3, by rw [u2]; exact e5 i3⟩
  have F1 : Found ST "value" "[B" fV P.U := ⟨SBG.found_only al ⟨cfV, kV, iV, gV⟩, stV⟩
  have F2 : Found ST "coder" "B" fC P.U := ⟨SBG.found_only al ⟨cfC, kC, iC, gC⟩, stC⟩
  have hA : Ch b A P.U := ⟨⟨K.1, State.isArrayOf_alike al K.2.1, K.2.2, by omega⟩, hty⟩
  have hS : StaticIs P.U ST "COMPACT_STRINGS" "Z" (.int z) := by
    obtain ⟨cfS, iS, kS, fS, st, cS, t1, t2, t3, t4, t5, t6, t7⟩ := S
    exact StaticIs.there (s := { Z with heap := P.U.heap }) ⟨cfS, iS, kS, fS, st, cS, t1, t2, t3, t4, t5, (fun q => by rw [q] at t6; cases t6), t7⟩ al rfl
  obtain ⟨v, B, X', ⟨⟨hv, E', V', q1, q2, q3, q4, q5, q6, q7, q8, q9, q10, q11⟩, hl, hc, hs⟩, st⟩ := New1.pays x D fV fC b A z (tab_of (moved hZ hw)) hfr hlo m meth c P g ig mk _ X hg hsize hdg hW hn ⟨r1, r2, rfl, hB, F1, F2, hA, hS, hz, l0, l2, hp⟩
  have al' : Z.vm.Alike B.U.vm := hZ.alike.trans X'.warmed.alike
  have hsz : E'.slots.size = D.slots.size := by
    obtain ⟨-, -, -, kB, w1, w2, w3⟩ := q1
    obtain ⟨kB', y1, y2⟩ := al'.2.2 _ _ e3
    rw [q2.2.1] at w1
    cases w1.symm.trans y1
    rw [w3, e5 i3, y2]
  refine ⟨v, B, X', ⟨_, ⟨hv, ?_, ⟨by omega, fun y cy hy hn' => q10 y cy (by simpa using hn') hy, fun y cy hy => ?_⟩, q11, ⟨E', _, q1.1, by rw [q2.2.1]; exact e2, by rw [q2.2.1]; exact e3, by rw [q2.1]; exact obV, fun _ => by rw [hsz]; exact e5 i3⟩,
    ⟨E', cfV, kV, iV, fV, q1.1, gV, stV, by rw [q2.1]; exact knV, by rw [q2.1]; exact obV, by rw [q2.2.1]; exact asV, q3⟩, ⟨E', cfC, kC, iC, fC, q1.1, gC, stC, by rw [q2.1]; exact knV, by rw [q2.1]; exact obV, by rw [q2.2.1]; exact asC, q4⟩,
    ⟨V', ⟨q5.1, State.isArrayOf_alike al'.symm q5.2.1, q5.2.2.1⟩, q6, by rw [← al'.findClass]; exact q7, q8, fun j hj => by have := q9 j hj; rwa [Nat.zero_add] at this⟩, fun O n d w F n1 n2 => ?_⟩, hl, hc, hs⟩, st⟩
  · intro y hy
    simp only [List.mem_cons, List.not_mem_nil, or_false] at hy
    rcases hy with rfl | rfl <;> rfl
  · by_cases q : y = x
    · subst q
      cases hD.symm.trans hy
      exact ⟨E', q1.1, q2.2.1, q2.1, hsz⟩
    · exact ⟨cy, q10 y cy q hy, rfl, rfl, rfl⟩
  · obtain ⟨D3, cf, k, i, f, g1, g2, g3, g4, g5, g6, g7⟩ := F
    cases hD.symm.trans g1
    simp only [RoadKit.slotOf, g2, gV, gC, Option.map_some, Option.getD_some] at n1 n2
    exact ⟨E', cf, k, i, f, q1.1, g2, g3, by rw [q2.1]; exact g4, by rw [q2.1]; exact g5, by rw [q2.2.1]; exact g6, by rw [q2.2.2 f.slot (by simp [n1, n2])]; exact g7⟩
end StrChars.Road
namespace StrChars.Road
open Jvm Sem ClassFile Op Lib Jvm.Stand Jvm.Free Jvm.Free.XT
/-- WHAT COMES BACK, the byte[] as a list of values -/
def QA (Z : State) (x : Addr) (zn : Int32) (cs : List Int32) (h : Heap) (v : Option Value) (h' : Heap) (L : List Loc) : Prop := v = none ∧ (∀ y ∈ L, y.base = x) ∧ RoadKit.Keep h h' [x] ∧ h'.size = h.size + 1 ∧ RoadKit.Exa Z h' x ST ∧ RoadKit.Fld Z h' x ST "value" "[B" (.ref h.size) ∧ RoadKit.Fld Z h' x ST "coder" "B" (.int 0) ∧
  (∃ kb, Z.vm.findClass "[B" = some kb ∧ RoadKit.Arv Z h' h.size kb .byte zn (cs.map fun c => .int (lo8 c)) (.int 0)) ∧
  ∀ (O n d : String) (w : Value), RoadKit.Fld Z h x O n d w → RoadKit.slotOf Z O n d ≠ RoadKit.slotOf Z ST "value" "[B" → RoadKit.slotOf Z O n d ≠ RoadKit.slotOf Z ST "coder" "B" → RoadKit.Fld Z h' x O n d w
/-- **new String(chars) AT A CALL, THE ARRAYS AS LISTS**: the char[] at b holds cs, not empty, no char above 255 -/
theorem backArv {p : Program} {l : Launch} {e : Env} {R : Room} {s : State} {args : Array Value} {below : List Frame} {len W : Nat} {Z : State} {a0 : Array Value} {h : Heap} (hZ : Z.Warmed39 s.vm) (hw : ∀ d ∈ words, d.before a0 Z = true) {kI : Nat} (wi : (Jvm.Cond.instantiable ST kI).before a0 Z = true)
    {x b : Addr} {k : ClassId} {zn z : Int32} {cs : List Int32} {dv v0 c0 : Value} (E : RoadKit.Exa Z h x ST) (V : RoadKit.Fld Z h x ST "value" "[B" v0) (C : RoadKit.Fld Z h x ST "coder" "B" c0) (K : RoadKit.Arv Z h b k .char zn (cs.map Value.int) dv) (S : RoadKit.Sta Z h ST "COMPACT_STRINGS" "Z" (.int z)) (hz : ¬ z = 0)
    (hlen : zn.toNatClampNeg = cs.length) (h0 : 0 < cs.length) (hbig : cs.length ≤ 536870912) (hall : ∀ c ∈ cs, ¬ 255 < c) (hfr : 4 ≤ R.frames) (hlo : W + 65 ≤ R.locals) :
    Back l R p e below s args New1.yN len W (fun P a => a = #[.ref x, .ref b] ∧ P.U.heap = h ∧ P.cells + 1 ≤ R.cells ∧ P.slots + cs.length ≤ R.slots)
      (fun P _ v B => ∃ L, QA Z x zn cs h v B.U.heap L ∧ B.locs = P.locs ++ L ∧ B.cells = P.cells + 1 ∧ B.slots = P.slots + cs.length) := by
  obtain ⟨A, K1, K2, K3, K4, K5, K6⟩ := K
  have e : A.slots.size = cs.length := K3.trans hlen
  have hat : ∀ (i : Nat) (hi : i < cs.length), A.slots[i]? = some (.int cs[i]) := fun i hi => by rw [K5 i (by omega)]; simp [List.getD_eq_getElem?_getD, hi]
  have hcv : ∀ (i : Nat) (hi : i < cs.length), cv A i = cs[i] := fun i hi => by unfold cv; rw [hat i hi]
  have hty : Typed .char A := fun i v hv => by
    have hi : i < A.slots.size := (Array.getElem?_eq_some_iff.mp hv).1
    have q := K5 i hi
    rw [hv] at q
    rw [Option.some.inj q]
    exact K6 i hi
  refine Back.mono (back hZ hw wi E V C K1 hty S hz (by omega) (by omega) (fun i hi => by rw [hcv i (by omega)]; exact hall _ (List.getElem_mem _)) hfr hlo) (fun P a hp => ⟨hp.1, hp.2.1, hp.2.2.1, by rw [e]; exact hp.2.2.2⟩) (fun P a v B hp hq => ?_)
  obtain ⟨L, ⟨q1, q2, q3, q4, q5, q6, q7, ⟨V', v1, v2, v3, v4, v5⟩, q9⟩, hl, hc, hs⟩ := hq
  refine ⟨L, ⟨q1, q2, q3, q4, q5, q6, q7, ⟨V'.cls, v3, V', v1, rfl, by rw [v4, e, hlen], K4, fun i hi => ?_, fun i hi => ?_⟩, q9⟩, hl, hc, by rw [hs, e]⟩
  · have hi' : i < cs.length := by omega
    rw [v5 i (by omega), hcv i hi']; simp [List.getD_eq_getElem?_getD, hi']
  · have hi' : i < cs.length := by omega
    simp only [List.getD_eq_getElem?_getD, List.getElem?_map, List.getElem?_eq_getElem hi', Option.map_some, Option.getD_some]
    exact fits_lo8 _
end StrChars.Road
namespace StrChars.Road
open Jvm Sem ClassFile Op Lib Jvm.Stand Jvm.Free Jvm.Free.XT
/-- WHAT COMES BACK, in the writer's own shape -/
def QV (Z : State) (x : Addr) (N : Int32) (bs : List Int32) (h : Heap) (n0 : Nat) (v : Option Value) (h' : Heap) (L : List Loc) : Prop := v = none ∧ RoadKit.Fr n0 L ∧ RoadKit.Keep h h' [x] ∧ RoadKit.Exa Z h' x ST ∧ RoadKit.Fld Z h' x ST "coder" "B" (.int 0) ∧
  ∃ (t : Addr) (kb : ClassId), n0 ≤ t ∧ h.size ≤ t ∧ ¬ t = x ∧ RoadKit.Fld Z h' x ST "value" "[B" (.ref t) ∧ RoadKit.Arv Z h' t kb .byte N (bs.map Value.int) (.int 0)
/-- **new String(chars) AT A CALL, FOR THE WRITER**: a char[] of n known ints, each 0 to 255 -/
theorem backV {p : Program} {l : Launch} {e : Env} {R : Room} {s : State} {args : Array Value} {below : List Frame} {len W : Nat} {Z : State} {a0 : Array Value} {h : Heap} (hZ : Z.Warmed39 s.vm) (hw : ∀ d ∈ words, d.before a0 Z = true) {kI : Nat} (wi : (Jvm.Cond.instantiable ST kI).before a0 Z = true)
    {x b : Addr} {kC : ClassId} {cs bs : List Int32} {d v0 c0 : Value} {z N : Int32} {n n0 : Nat} (hx0 : n0 ≤ x) (hh0 : n0 ≤ h.size) (E : RoadKit.Exa Z h x ST) (V : RoadKit.Fld Z h x ST "value" "[B" v0) (C : RoadKit.Fld Z h x ST "coder" "B" c0) (K : RoadKit.Arv Z h b kC .char N (cs.map Value.int) d) (S : RoadKit.Sta Z h ST "COMPACT_STRINGS" "Z" (.int z)) (hz : ¬ z = 0)
    (hn : cs.length = n) (hN : N = Int32.ofNat n) (l0 : 0 < n) (l2 : n ≤ 4000) (hp : ∀ c ∈ cs, ¬ c < 0 ∧ ¬ (255 : Int32) < c) (hb : bs = cs.map (fun c => c.toInt8.toInt32)) (hfr : 4 ≤ R.frames) (hlo : W + 65 ≤ R.locals) :
    Back l R p e below s args (⟨"java/lang/String", "<init>", "([C)V"⟩ : MethodName) len W (fun P a => a = #[.ref x, .ref b] ∧ P.U.heap = h ∧ P.cells + 1 ≤ R.cells ∧ P.slots + n ≤ R.slots)
      (fun P _ v B => ∃ L, QV Z x N bs h n0 v B.U.heap L ∧ B.locs = P.locs ++ L ∧ B.cells = P.cells + 1 ∧ B.slots = P.slots + n) := by
  subst hn hN hb
  refine Back.mono (backArv hZ hw wi E V C K S hz (n32 (by omega)) l0 (by omega) (fun c hc => (hp c hc).2) hfr hlo) (fun P a hp => hp) (fun P a v B hp hq => ?_)
  obtain ⟨L, ⟨q1, q2, q3, q4, q5, q6, q7, ⟨kb, v1, v2⟩, q9⟩, hl, hc, hs⟩ := hq
  exact ⟨L, ⟨q1, fun y hy => by rw [q2 y hy]; exact hx0, q3, q5, q7, h.size, kb, hh0, Nat.le_refl _, Nat.ne_of_gt E.lt, q6, by rw [List.map_map]; exact v2⟩, hl, hc, hs⟩
end StrChars.Road
namespace StrChars
open Jvm Sem ClassFile Op Lib Jvm.Stand Jvm.Free.XT Jvm.Free.ALB Jvm.Free.JM Jvm.Free
open Jvm.Lib.Cold (StaticIs)
def hi8 (x : Int32) : Int32 := lo8 (x >>> ((8 : Int32) &&& 31))
/-- what StringUTF16.getChar makes of two bytes -/
def pairCh (u v : Int32) : Int32 := (((u &&& 255) <<< ((0 : Int32) &&& 31)) ||| ((v &&& 255) <<< ((8 : Int32) &&& 31))).toUInt32.toUInt16.toUInt32.toInt32
theorem lo8_and (x : Int32) : (lo8 x &&& 255).toBitVec.toNat = x.toBitVec.toNat % 256 := by
  have h : (lo8 x).toBitVec = (x.toBitVec.signExtend 8).signExtend 32 := by rw [lo8, Int8.toBitVec_toInt32, Int32.toBitVec_toInt8]
  rw [Int32.toBitVec_and, BitVec.toNat_and, h]
  have e : ((x.toBitVec.signExtend 8).signExtend 32).toNat % 256 = x.toBitVec.toNat % 256 := by
    rw [BitVec.toNat_signExtend]
    have hlt := x.toBitVec.isLt
    simp only [BitVec.toNat_setWidth, BitVec.toNat_signExtend]
    split <;> split <;> omega
  rw [← e]
  exact Nat.and_two_pow_sub_one_eq_mod _ 8
theorem pair_says {c : Int32} (h0 : ¬ c < 0) (h1 : ¬ 65535 < c) : pairCh (lo8 c) (hi8 c) = c := by
  rw [Int32.lt_iff_toInt_lt] at h0 h1
  have e0 : (0 : Int32).toInt = 0 := rfl
  have e1 : (65535 : Int32).toInt = 65535 := rfl
  have hc : c.toInt = c.toBitVec.toNat := by
    have := c.toBitVec.isLt
    have e : c.toInt = c.toBitVec.toInt := rfl
    rw [e] at h0 h1
    rw [e]
    rw [BitVec.toInt_eq_toNat_cond] at h0 h1 ⊢
    split at h0 <;> split <;> omega
  have hn : c.toBitVec.toNat < 65536 := by omega
  have a1 := lo8_and c
  have a2 : (hi8 c &&& 255).toBitVec.toNat = c.toBitVec.toNat / 256 := by
    rw [hi8, lo8_and]
    have e : ((8 : Int32) &&& 31) = 8 := by decide
    rw [e, Int32.toBitVec_shiftRight]
    have e2 : ((8 : Int32).toBitVec.smod 32) = 8#32 := by decide
    rw [e2, BitVec.sshiftRight_eq', BitVec.toNat_sshiftRight_of_msb_false (by rw [BitVec.msb_eq_false_iff_two_mul_lt]; omega)]
    show c.toBitVec.toNat >>> 8 % 256 = _
    rw [Nat.shiftRight_eq_div_pow]
    omega
  unfold pairCh
  apply Int32.toBitVec_inj.mp
  apply BitVec.eq_of_toNat_eq
  have f0 : ((0 : Int32) &&& 31) = 0 := by decide
  have f8 : ((8 : Int32) &&& 31) = 8 := by decide
  rw [f0, f8]
  have g : (((lo8 c &&& 255) <<< (0 : Int32)) ||| ((hi8 c &&& 255) <<< (8 : Int32))).toBitVec.toNat = c.toBitVec.toNat := by
    rw [Int32.toBitVec_or, Int32.toBitVec_shiftLeft, Int32.toBitVec_shiftLeft]
    have s0 : ((0 : Int32).toBitVec.smod 32) = 0#32 := by decide
    have s8 : ((8 : Int32).toBitVec.smod 32) = 8#32 := by decide
    rw [s0, s8, BitVec.toNat_or]
    simp only [BitVec.shiftLeft_eq', BitVec.toNat_shiftLeft, a1, a2]
    show (c.toBitVec.toNat % 256) <<< 0 % 2 ^ 32 ||| (c.toBitVec.toNat / 256) <<< 8 % 2 ^ 32 = _
    rw [Nat.shiftLeft_zero, Nat.mod_eq_of_lt (show c.toBitVec.toNat % 256 < 2 ^ 32 by omega), Nat.mod_eq_of_lt (show (c.toBitVec.toNat / 256) <<< 8 < 2 ^ 32 by rw [Nat.shiftLeft_eq]; omega), Nat.or_comm, ← Nat.shiftLeft_add_eq_or_of_lt (by omega), Nat.shiftLeft_eq]
    omega
  show BitVec.toNat (((((lo8 c &&& 255) <<< (0 : Int32)) ||| ((hi8 c &&& 255) <<< (8 : Int32))).toBitVec.setWidth 16).setWidth 32) = _
  rw [BitVec.toNat_setWidth, BitVec.toNat_setWidth, g]
  omega
end StrChars
namespace StrChars
open Jvm Sem ClassFile Op Lib Jvm.Stand Jvm.Free.XT Jvm.Free.ALB Jvm.Free.JM Jvm.Free
open Jvm.Lib.Cold (StaticIs)
/-- the array's cell V codes the n chars f 0 .. f (n - 1) by the coder cd, as the JDK does: coder 1 just where some char is above 255 -/
def Cod (cd : Int32) (n : Nat) (f : Nat → Int32) (V : Cell) : Prop := (cd = 0 ∧ V.slots.size = n ∧ ∀ j, j < n → V.slots[j]? = some (.int (lo8 (f j))) ∧ ¬ 255 < f j) ∨ (cd = 1 ∧ V.slots.size = 2 * n ∧ (∀ j, j < n → V.slots[2 * j]? = some (.int (lo8 (f j))) ∧ V.slots[2 * j + 1]? = some (.int (hi8 (f j)))) ∧ ∃ j, j < n ∧ 255 < f j)
/-- **x is a String of the n chars f 0 .. f (n - 1)**, Latin-1 or UTF-16; its array at t has the cell V -/
def Txt (x t : Addr) (V : Cell) (cd : Int32) (n : Nat) (f : Nat → Int32) (U : State) : Prop := Exact "java/lang/String" x U ∧ Has x "java/lang/String" "value" "[B" (.ref t) U ∧ Has x "java/lang/String" "coder" "B" (.int cd) U ∧ XT.Arr .byte t V U ∧ Cod cd n f V ∧ ∀ j, j < n → ¬ f j < 0 ∧ ¬ 65535 < f j
theorem Txt.mv {x t : Addr} {V : Cell} {cd : Int32} {n : Nat} {f : Nat → Int32} {U U' : State} (h : Txt x t V cd n f U) (hal : U.vm.Alike U'.vm) (hh : U'.heap = U.heap) : Txt x t V cd n f U' := ⟨h.1.mv hal hh, h.2.1.mv hal hh, h.2.2.1.mv hal hh, h.2.2.2.1.mv hal hh, h.2.2.2.2⟩
end StrChars
namespace StrChars.Road
open Jvm Sem ClassFile Op Lib Jvm.Stand Jvm.Free Jvm.Free.XT
open Jvm.Lib.Cold (StaticIs)
theorem consq {a : Array Value} {s : State} {c : Jvm.Cond} {L : List Jvm.Cond} (h0 : c.before a s = true) (h : ∀ w ∈ L, w.before a s = true) : ∀ w ∈ c :: L, w.before a s = true := fun w hw => (List.mem_cons.mp hw).elim (fun e => e ▸ h0) (h w)
/-- the bytes of the chars cs, low before high -/
def wideBytes : List Int32 → List Value
  | [] => []
  | c :: cs => .int (lo8 c) :: .int (hi8 c) :: wideBytes cs
theorem wide_lo (d : Value) : ∀ (cs : List Int32) (j : Nat), j < cs.length → (wideBytes cs).getD (2 * j) d = .int (lo8 (cs.getD j 0))
  | [], j, h => absurd h (Nat.not_lt_zero j)
  | c :: cs, 0, _ => rfl
  | c :: cs, j + 1, h => by
    have q := wide_lo d cs j (by simpa using h)
    rw [show 2 * (j + 1) = 2 * j + 1 + 1 from by omega]
    simpa [wideBytes] using q
theorem wide_hi (d : Value) : ∀ (cs : List Int32) (j : Nat), j < cs.length → (wideBytes cs).getD (2 * j + 1) d = .int (hi8 (cs.getD j 0))
  | [], j, h => absurd h (Nat.not_lt_zero j)
  | c :: cs, 0, _ => rfl
  | c :: cs, j + 1, h => by
    have q := wide_hi d cs j (by simpa using h)
    rw [show 2 * (j + 1) + 1 = 2 * j + 1 + 1 + 1 from by omega]
    simpa [wideBytes] using q
theorem low_at (d : Value) (cs : List Int32) (j : Nat) (h : j < cs.length) : (cs.map fun c => Value.int (lo8 c)).getD j d = .int (lo8 (cs.getD j 0)) := by
  simp [List.getD_eq_getElem?_getD, h]
/-- an array of N2 bytes vs codes the chars cs by the coder cd -/
def CodA (cs : List Int32) (cd N2 : Int32) (vs : List Value) : Prop := (cd = 0 ∧ N2 = Int32.ofNat cs.length ∧ vs = (cs.map fun c => Value.int (lo8 c)) ∧ ∀ c ∈ cs, ¬ 255 < c) ∨ (cd = 1 ∧ N2 = Int32.ofNat (2 * cs.length) ∧ vs = wideBytes cs ∧ ∃ c ∈ cs, 255 < c)
theorem CodA.cod {cs : List Int32} {cd N2 : Int32} {vs : List Value} {V : Cell} (h : CodA cs cd N2 vs) (hn : 2 * cs.length < 2 ^ 31) (hs : V.slots.size = N2.toNatClampNeg) (hv : RoadKit.Has V vs (.int 0)) : Cod cd cs.length (fun j => cs.getD j 0) V := by
  rcases h with ⟨rfl, rfl, rfl, h⟩ | ⟨rfl, rfl, rfl, c, hc, hw⟩
  · rw [n32 (by omega)] at hs
    exact Or.inl ⟨rfl, hs, fun j hj => ⟨by rw [hv j (by omega), low_at _ _ _ hj], by
      have e : cs.getD j 0 = cs[j] := by simp [List.getD_eq_getElem?_getD, hj]
      show ¬ 255 < cs.getD j 0
      rw [e]; exact h _ (List.getElem_mem _)⟩⟩
  · rw [n32 (by omega)] at hs
    obtain ⟨j, hj, rfl⟩ := List.getElem_of_mem hc
    exact Or.inr ⟨rfl, hs, fun j hj => ⟨by rw [hv _ (by omega), wide_lo _ _ _ hj], by rw [hv _ (by omega), wide_hi _ _ _ hj]⟩, j, hj, by
      have e : cs.getD j 0 = cs[j] := by simp [List.getD_eq_getElem?_getD, hj]
      show 255 < cs.getD j 0
      rw [e]; exact hw⟩
/-- an object of exactly java/lang/String, its two fields found: as the laws ask it -/
theorem strObj {Z U : State} {a0 : Array Value} {kI : Nat} (wi : (Jvm.Cond.instantiable ST kI).before a0 Z = true) (al : Z.vm.Alike U.vm) {x : Addr} {v0 c0 : Value} (E : RoadKit.Exa Z U.heap x ST) (V : RoadKit.Fld Z U.heap x ST "value" "[B" v0) (C : RoadKit.Fld Z U.heap x ST "coder" "B" c0) :
    ∃ (D : Cell) (fV fC : Field), Blank ST x D U ∧ Found ST "value" "[B" fV U ∧ Found ST "coder" "B" fC U ∧ D.slots[fV.slot]? = some v0 ∧ D.slots[fC.slot]? = some c0 ∧ RoadKit.slotOf Z ST "value" "[B" = fV.slot ∧ RoadKit.slotOf Z ST "coder" "B" = fC.slot := by
  obtain ⟨D, cfV, kV, iV, fV, hD, gV, stV, knV, obV, asV, slV⟩ := V
  obtain ⟨D', cfC, kC, iC, fC, hD', gC, stC, -, -, asC, slC⟩ := C
  cases hD.symm.trans hD'
  obtain ⟨D2, kD, e1, e2, e3, e4, e5⟩ := E
  cases hD.symm.trans e1
  obtain ⟨c2, k2, i1, i2, i3, -⟩ := Cond.instantiable_spec wi
  cases e2.symm.trans i1
  cases e3.symm.trans i2
  obtain ⟨kU, u1, u2⟩ := al.2.2 _ _ e3
  exact ⟨D, fV, fC, ⟨hD, ⟨knV, fun q hq => by rw [hq] at obV; cases obV⟩, by rw [al.findClass]; exact e2, kU, u1, by rw [u2]; exact i3, by rw [u2]; exact e5 i3⟩, ⟨SBG.found_only al ⟨cfV, kV, iV, gV⟩, stV⟩, ⟨SBG.found_only al ⟨cfC, kC, iC, gC⟩, stC⟩, slV, slC, by simp [RoadKit.slotOf, gV], by simp [RoadKit.slotOf, gC]⟩
theorem sta_is {Z U : State} (al : Z.vm.Alike U.vm) {C n d : String} {v : Value} (S : RoadKit.Sta Z U.heap C n d v) : StaticIs U C n d v := by
  obtain ⟨cfS, iS, kS, fS, st, cS, t1, t2, t3, t4, t5, t6, t7⟩ := S
  exact StaticIs.there (s := { Z with heap := U.heap }) ⟨cfS, iS, kS, fS, st, cS, t1, t2, t3, t4, t5, (fun q => by rw [q] at t6; cases t6), t7⟩ al rfl
end StrChars.Road
namespace StrChars
open Jvm Sem ClassFile Op Lib Jvm.Stand Jvm.Free.XT Jvm.Free.ALB Jvm.Free.JM Jvm.Free
open Jvm.Lib.Cold (StaticIs)
/-- what place i of a byte[]'s cell holds -/
def yv (A : Cell) (i : Nat) : Int32 := match A.slots[i]? with | some (.int x) => x | _ => 0
theorem yv_get {a : Addr} {A : Cell} {U : State} (h : XT.Arr .byte a A U) (ht : Typed .byte A) {i : Nat} (hi : i < A.slots.size) : A.slots[i]? = some (.int (yv A i)) := by
  have e := Array.getElem?_eq_getElem hi
  have f := ht i _ e
  unfold yv; rw [e]
  generalize A.slots[i] = v at f
  cases v <;> simp [fits] at f ⊢
/-- the two arrays are equal, place for place -/
def EqC (A B : Cell) : Prop := A.slots.size = B.slots.size ∧ ∀ i, i < A.slots.size → yv A i = yv B i
/-- a boolean that says whether p -/
def Says01 (q : Prop) (r : Option Value) (s u : State) : Prop := ∃ v : Int32, r = some (.int v) ∧ u.heap = s.heap ∧ ((v = 1 ∧ q) ∨ (v = 0 ∧ ¬ q))
theorem Says01.mv {q : Prop} : ∀ r (U U' V V' : State), U'.heap = U.heap → V.vm.Alike V'.vm → V'.heap = V.heap → Says01 q r U V → Says01 q r U' V' :=
  fun r U U' V V' h1 _ h2 ⟨v, a, b, c⟩ => ⟨v, a, by rw [h1, h2]; exact b, c⟩
namespace LEq
def yN : MethodName := ⟨"java/lang/StringLatin1", "equals", "([B[B)Z"⟩
abbrev yB : ByteArray := jdk_43_method_13_code
theorem d0 : decode yB 0 = .ok (.aload_n 0, 1) := by decide +kernel
theorem d1 : decode yB 1 = .ok (.arraylength, 1) := by decide +kernel
theorem d2 : decode yB 2 = .ok (.aload_n 1, 1) := by decide +kernel
theorem d3 : decode yB 3 = .ok (.arraylength, 1) := by decide +kernel
theorem d4 : decode yB 4 = .ok (.if_icmp (.ne) 30, 3) := by decide +kernel
theorem d7 : decode yB 7 = .ok (.iconst 0, 1) := by decide +kernel
theorem d8 : decode yB 8 = .ok (.istore_n 2, 1) := by decide +kernel
theorem d9 : decode yB 9 = .ok (.iload_n 2, 1) := by decide +kernel
theorem d10 : decode yB 10 = .ok (.aload_n 0, 1) := by decide +kernel
theorem d11 : decode yB 11 = .ok (.arraylength, 1) := by decide +kernel
theorem d12 : decode yB 12 = .ok (.if_icmp (.ge) 20, 3) := by decide +kernel
theorem d15 : decode yB 15 = .ok (.aload_n 0, 1) := by decide +kernel
theorem d16 : decode yB 16 = .ok (.iload_n 2, 1) := by decide +kernel
theorem d17 : decode yB 17 = .ok (.baload, 1) := by decide +kernel
theorem d18 : decode yB 18 = .ok (.aload_n 1, 1) := by decide +kernel
theorem d19 : decode yB 19 = .ok (.iload_n 2, 1) := by decide +kernel
theorem d20 : decode yB 20 = .ok (.baload, 1) := by decide +kernel
theorem d21 : decode yB 21 = .ok (.if_icmp (.eq) 5, 3) := by decide +kernel
theorem d24 : decode yB 24 = .ok (.iconst 0, 1) := by decide +kernel
theorem d25 : decode yB 25 = .ok (.ireturn, 1) := by decide +kernel
theorem d26 : decode yB 26 = .ok (.iinc 2 1, 3) := by decide +kernel
theorem d29 : decode yB 29 = .ok (.goto (-20), 3) := by decide +kernel
theorem d32 : decode yB 32 = .ok (.iconst 1, 1) := by decide +kernel
theorem d33 : decode yB 33 = .ok (.ireturn, 1) := by decide +kernel
theorem d34 : decode yB 34 = .ok (.iconst 0, 1) := by decide +kernel
theorem d35 : decode yB 35 = .ok (.ireturn, 1) := by decide +kernel
def site : List Cond := []
def tab : Cond := tabOf yN yB 3 (some .boolean) site
def P (a : Addr) (A : Cell) (b : Addr) (B : Cell) (args : Array Value) (s : State) : Prop := args = #[.ref a, .ref b] ∧ XT.Arr .byte a A s ∧ Typed .byte A ∧ XT.Arr .byte b B s ∧ Typed .byte B
/-- whether two byte[] are equal, place for place -/
theorem law (l : Launch) (a : Addr) (A : Cell) (b : Addr) (B : Cell) : Law l yN 2 2 0 0 yB 3 (some .boolean) site (P a A b B) (Says01 (EqC A B)) [] 0 0 := by
  refine Law.of_walk (plainFor_of_name (by decide +kernel)) (by decide +kernel) (by decide +kernel) (by decide) (fun _ _ h => by rw [h.1]; rfl) (fun _ U U' hal hh h => ⟨h.1, h.2.1.mv hal hh, h.2.2.1, h.2.2.2.1.mv hal hh, h.2.2.2.2⟩) (fun r U U' V V' h1 hal h2 h => Says01.mv r U U' V V' h1 hal h2 h) ?_
  intro p e s m args below meth c s₁ X0 hexec hbytes hml hret hlk hnm hown hh0 W hP
  obtain ⟨rfl, hA, tA, hB, tB⟩ := hP
  have a31 := hA.2.2.2
  have b31 := hB.2.2.2
  have hA0 := hA.mv X0.warmed.alike hh0
  have hB0 := hB.mv X0.warmed.alike hh0
  have c1 : Steps p.tables e below (s₁.setTop (entryFrame m #[.ref a, .ref b] 3)) (s₁.setTop (mkF m 0 #[.val (.ref a), .val (.ref b), .unset] [])) := entry rfl
  have c2 : Steps p.tables e below (s₁.setTop (entryFrame m #[.ref a, .ref b] 3)) (s₁.setTop (mkF m 4 #[.val (.ref a), .val (.ref b), .unset] [.int (Int32.ofNat B.slots.size), .int (Int32.ofNat A.slots.size)])) := c1.trans (by
    refine XS.aloadN X0.here hexec rfl (hb hbytes d0) rfl rfl ?_
    refine X0.alen hexec hA0 rfl rfl (hb hbytes d1) ?_
    refine XS.aloadN X0.here hexec rfl (hb hbytes d2) rfl rfl ?_
    refine X0.alen hexec hB0 rfl rfl (hb hbytes d3) ?_
    exact Steps.refl _)
  by_cases hs : A.slots.size = B.slots.size
  · have c3 : Steps p.tables e below (s₁.setTop (entryFrame m #[.ref a, .ref b] 3)) (s₁.setTop (mkF m 9 #[.val (.ref a), .val (.ref b), .val (.int 0)] [])) := c2.trans (by
      refine XS.icmpNo X0.here hexec rfl (hb hbytes d4) rfl (ii_ne_f (by rw [hs])) ?_
      refine iconstV X0.here hexec rfl 0 (hb hbytes d7) (by decide) ?_
      refine XS.istoreN X0.here hexec rfl (hb hbytes d8) rfl rfl ?_
      exact Steps.refl _)
    have loop : ∀ (r i : Nat), i + r = A.slots.size → (∀ j, j < i → yv A j = yv B j) → Steps p.tables e below (s₁.setTop (entryFrame m #[.ref a, .ref b] 3)) (s₁.setTop (mkF m 9 #[.val (.ref a), .val (.ref b), .val (.int (Int32.ofNat i))] [])) → ∃ (pc : Nat) (Ls : Array Slot) (v : Int32), (pc = 25 ∨ pc = 33) ∧ ((v = 1 ∧ EqC A B) ∨ (v = 0 ∧ ¬ EqC A B)) ∧ Steps p.tables e below (s₁.setTop (entryFrame m #[.ref a, .ref b] 3)) (s₁.setTop (mkF m pc Ls [.int v])) := by
      intro r
      induction r with
      | zero =>
        intro i hi he cl
        exact ⟨33, _, 1, Or.inr rfl, Or.inl ⟨rfl, hs, fun j hj => he j (by omega)⟩, cl.trans (by
          refine XS.iloadN X0.here hexec rfl (hb hbytes d9) rfl ?_
          refine XS.aloadN X0.here hexec rfl (hb hbytes d10) rfl rfl ?_
          refine X0.alen hexec hA0 rfl rfl (hb hbytes d11) ?_
          refine XS.icmpYes X0.here hexec rfl (pc0 := 12) rfl (hb hbytes d12) rfl (ii_ge_t (nlt32 (by omega) (by omega))) (by decide) rfl ?_
          refine iconstV X0.here hexec rfl 1 (hb hbytes d32) (by decide) ?_
          exact Steps.refl _)⟩
      | succ r ih =>
        intro i hi he cl
        have c4 : Steps p.tables e below (s₁.setTop (entryFrame m #[.ref a, .ref b] 3)) (s₁.setTop (mkF m 21 #[.val (.ref a), .val (.ref b), .val (.int (Int32.ofNat i))] [.int (yv B i), .int (yv A i)])) := cl.trans (by
          refine XS.iloadN X0.here hexec rfl (hb hbytes d9) rfl ?_
          refine XS.aloadN X0.here hexec rfl (hb hbytes d10) rfl rfl ?_
          refine X0.alen hexec hA0 rfl rfl (hb hbytes d11) ?_
          refine XS.icmpNo X0.here hexec rfl (hb hbytes d12) rfl (ii_ge_f (lt32 (by omega) (by omega))) ?_
          refine XS.aloadN X0.here hexec rfl (hb hbytes d15) rfl rfl ?_
          refine XS.iloadN X0.here hexec rfl (hb hbytes d16) rfl ?_
          refine X0.aget hexec hA0 rfl (yv_get hA tA (i := i) (by omega)) rfl rfl (hb hbytes d17) ?_
          refine XS.aloadN X0.here hexec rfl (hb hbytes d18) rfl rfl ?_
          refine XS.iloadN X0.here hexec rfl (hb hbytes d19) rfl ?_
          refine X0.aget hexec hB0 rfl (yv_get hB tB (i := i) (by omega)) rfl rfl (hb hbytes d20) ?_
          exact Steps.refl _)
        by_cases hv : yv A i = yv B i
        · have c5 : Steps p.tables e below (s₁.setTop (entryFrame m #[.ref a, .ref b] 3)) (s₁.setTop (mkF m 9 #[.val (.ref a), .val (.ref b), .val (.int (Int32.ofNat i + 1))] [])) := c4.trans (by
            refine XS.icmpYes X0.here hexec rfl (pc0 := 21) rfl (hb hbytes d21) rfl (ii_eq_t hv) (by decide) rfl ?_
            refine iincV X0.here hexec rfl 1 (hb hbytes d26) (by decide) rfl rfl ?_
            refine XS.goto X0.here hexec rfl (pc0 := 29) rfl (hb hbytes d29) (by decide) rfl ?_
            exact Steps.refl _)
          rw [succ32] at c5
          exact ih (i + 1) (by omega) (fun j hj => by
            by_cases e : j = i
            · rw [e]; exact hv
            · exact he j (by omega)) c5
        · exact ⟨25, _, 0, Or.inl rfl, Or.inr ⟨rfl, fun q => hv (q.2 i (by omega))⟩, c4.trans (by
            refine XS.icmpNo X0.here hexec rfl (hb hbytes d21) rfl (ii_eq_f hv) ?_
            refine iconstV X0.here hexec rfl 0 (hb hbytes d24) (by decide) ?_
            exact Steps.refl _)⟩
    obtain ⟨pc, Ls, v, hpc, hv, cz⟩ := loop A.slots.size 0 (by omega) (fun j hj => absurd hj (Nat.not_lt_zero j)) c3
    have nv : narrow .boolean (.int v) = .int v := by rcases hv with ⟨rfl, -⟩ | ⟨rfl, -⟩ <;> rfl
    rcases hpc with rfl | rfl
    · exact ⟨s₁, some (.int v), _, _, _, X0, rfl, rfl, rfl, (fun h => by cases h), ⟨v, rfl, hh0, hv⟩, fun fs hl => cz.trans (X0.ireturnOut hexec hret nv (Or.inr (Or.inl rfl)) (hb hbytes d25) hl)⟩
    · exact ⟨s₁, some (.int v), _, _, _, X0, rfl, rfl, rfl, (fun h => by cases h), ⟨v, rfl, hh0, hv⟩, fun fs hl => cz.trans (X0.ireturnOut hexec hret nv (Or.inr (Or.inl rfl)) (hb hbytes d33) hl)⟩
  · have c3 : Steps p.tables e below (s₁.setTop (entryFrame m #[.ref a, .ref b] 3)) (s₁.setTop (mkF m 35 #[.val (.ref a), .val (.ref b), .unset] [.int 0])) := c2.trans (by
      refine XS.icmpYes X0.here hexec rfl (pc0 := 4) rfl (hb hbytes d4) rfl (ii_ne_t (ne32 a31 b31 hs)) (by decide) rfl ?_
      refine iconstV X0.here hexec rfl 0 (hb hbytes d34) (by decide) ?_
      exact Steps.refl _)
    exact ⟨s₁, some (.int 0), _, _, _, X0, rfl, rfl, rfl, (fun h => by cases h), ⟨0, rfl, hh0, Or.inr ⟨rfl, fun q => hs q.1⟩⟩, fun fs hl => c3.trans (X0.ireturnOut hexec hret rfl (Or.inr (Or.inl rfl)) (hb hbytes d35) hl)⟩
end LEq
theorem Cod.ty {cd : Int32} {n : Nat} {f : Nat → Int32} {V : Cell} (h : Cod cd n f V) : Typed .byte V := fun i v hv => by
  have hi : i < V.slots.size := (Array.getElem?_eq_some_iff.mp hv).1
  rcases h with ⟨-, k1, k2⟩ | ⟨-, k1, k2, -⟩
  · rw [(k2 i (by omega)).1] at hv; cases hv; exact fits_lo8 _
  · rcases Nat.mod_two_eq_zero_or_one i with e | e
    · obtain ⟨j, rfl⟩ : ∃ j, i = 2 * j := ⟨i / 2, by omega⟩
      rw [(k2 j (by omega)).1] at hv; cases hv; exact fits_lo8 _
    · obtain ⟨j, rfl⟩ : ∃ j, i = 2 * j + 1 := ⟨i / 2, by omega⟩
      rw [(k2 j (by omega)).2] at hv; cases hv; exact fits_lo8 _
/-- the same text -/
def SameT (n : Nat) (f : Nat → Int32) (k : Nat) (g : Nat → Int32) : Prop := n = k ∧ ∀ j, j < n → f j = g j
theorem lo8_inj {x y : Int32} (h0 : ¬ x < 0) (h1 : ¬ 255 < x) (k0 : ¬ y < 0) (k1 : ¬ 255 < y) (h : lo8 x = lo8 y) : x = y := by
  rw [← lo8_mask h0 h1, ← lo8_mask k0 k1, h]
/-- arrays coded by one coder are equal just where the texts are -/
theorem Cod.eqv {cd : Int32} {n k : Nat} {f g : Nat → Int32} {V V' : Cell} (h : Cod cd n f V) (h' : Cod cd k g V') (hf : ∀ j, j < n → ¬ f j < 0 ∧ ¬ 65535 < f j) (hg : ∀ j, j < k → ¬ g j < 0 ∧ ¬ 65535 < g j) : EqC V V' ↔ SameT n f k g := by
  have yvv : ∀ {W : Cell} {i : Nat} {x : Int32}, W.slots[i]? = some (.int x) → yv W i = x := fun q => by unfold yv; rw [q]
  rcases h with ⟨rfl, k1, k2⟩ | ⟨rfl, k1, k2, -⟩
  · rcases h' with ⟨-, m1, m2⟩ | ⟨e, -⟩
    · constructor
      · rintro ⟨e1, e2⟩
        refine ⟨by omega, fun j hj => ?_⟩
        have q := e2 j (by omega)
        rw [yvv (k2 j hj).1, yvv (m2 j (by omega)).1] at q
        exact lo8_inj (hf j hj).1 (k2 j hj).2 (hg j (by omega)).1 (m2 j (by omega)).2 q
      · rintro ⟨rfl, e2⟩
        refine ⟨by omega, fun j hj => ?_⟩
        rw [yvv (k2 j (by omega)).1, yvv (m2 j (by omega)).1, e2 j (by omega)]
    · exact absurd e (by decide)
  · rcases h' with ⟨e, -⟩ | ⟨-, m1, m2, -⟩
    · exact absurd e (by decide)
    · constructor
      · rintro ⟨e1, e2⟩
        refine ⟨by omega, fun j hj => ?_⟩
        have q1 := e2 (2 * j) (by omega)
        have q2 := e2 (2 * j + 1) (by omega)
        rw [yvv (k2 j hj).1, yvv (m2 j (by omega)).1] at q1
        rw [yvv (k2 j hj).2, yvv (m2 j (by omega)).2] at q2
        rw [← pair_says (hf j hj).1 (hf j hj).2, ← pair_says (hg j (by omega)).1 (hg j (by omega)).2, q1, q2]
      · rintro ⟨rfl, e2⟩
        refine ⟨by omega, fun i hi => ?_⟩
        rcases Nat.mod_two_eq_zero_or_one i with e | e
        · obtain ⟨j, rfl⟩ : ∃ j, i = 2 * j := ⟨i / 2, by omega⟩
          rw [yvv (k2 j (by omega)).1, yvv (m2 j (by omega)).1, e2 j (by omega)]
        · obtain ⟨j, rfl⟩ : ∃ j, i = 2 * j + 1 := ⟨i / 2, by omega⟩
          rw [yvv (k2 j (by omega)).2, yvv (m2 j (by omega)).2, e2 j (by omega)]
/-- two codings differ: so do the texts -/
theorem Cod.dif {cd cd' : Int32} {n k : Nat} {f g : Nat → Int32} {V V' : Cell} (h : Cod cd n f V) (h' : Cod cd' k g V') (hne : ¬ cd = cd') : ¬ SameT n f k g := by
  rintro ⟨rfl, e⟩
  rcases h with ⟨rfl, -, k2⟩ | ⟨rfl, -, -, j, hj, hw⟩
  · rcases h' with ⟨rfl, -⟩ | ⟨-, -, -, j, hj, hw⟩
    · exact hne rfl
    · exact (k2 j hj).2 (by rw [e j hj]; exact hw)
  · rcases h' with ⟨-, -, m2⟩ | ⟨rfl, -⟩
    · exact (m2 j hj).2 (by rw [← e j hj]; exact hw)
    · exact hne rfl
/-- an object of exactly C is an instance of C -/
theorem cinst {p : Program} {l : Launch} {e : Env} {R : Room} {s : State} {m : MethodId} {args : Array Value} {below : List Frame} {meth : Method} {c : Code} {T : State} {locs : List Loc} {cells slots : Nat} (X : Stand p l e R s m args below meth c T locs cells slots) (hexec : p.tables.exec = Jvm.exec) {own C : String} {index : Nat} (hown : s.vm.findClass own = some m.cls) (hlink : (Cond.classLink own index C).before args s = true) {a : Addr} (hE : Exact C a T)
    {g : JFrame} (hg : g.method = m) {rest : List Value} (hstack : g.stack = .ref a :: rest) (hdg : decode c.code g.pc = .ok (.instanceof index, 3)) :
    ∃ T', Stand p l e R s m args below meth c T' locs cells slots ∧ T'.heap = T.heap ∧ ∀ target, Steps p.tables e below (T'.setTop { g with pc := g.pc + 3, stack := .int 1 :: rest }) target → Steps p.tables e below (T.setTop g) target := by
  obtain ⟨cB, h1, D, h2, h3, h4⟩ := hE
  have h1' : s.vm.findClass C = some cB := by rw [← X.warmed.alike.findClass]; exact h1
  obtain ⟨vm', X', st⟩ := X.instanceofYes hexec hown hlink h2 h4 h1' (by rw [h3]; exact Jvm.Free.SB.assignable_self _ _) hg hstack hdg
  exact ⟨_, X', rfl, st⟩
theorem cself {p : Program} {l : Launch} {e : Env} {R : Room} {s : State} {m : MethodId} {args : Array Value} {below : List Frame} {meth : Method} {c : Code} {T : State} {locs : List Loc} {cells slots : Nat} (X : Stand p l e R s m args below meth c T locs cells slots) (hexec : p.tables.exec = Jvm.exec) {own C : String} {index : Nat} (hown : s.vm.findClass own = some m.cls) (hlink : (Cond.classLink own index C).before args s = true) {a : Addr} (hE : Exact C a T)
    {g : JFrame} (hg : g.method = m) {rest : List Value} (hstack : g.stack = .ref a :: rest) (hdg : decode c.code g.pc = .ok (.checkcast index, 3)) :
    ∃ T', Stand p l e R s m args below meth c T' locs cells slots ∧ T'.heap = T.heap ∧ ∀ target, Steps p.tables e below (T'.setTop { g with pc := g.pc + 3, stack := .ref a :: rest }) target → Steps p.tables e below (T.setTop g) target := by
  obtain ⟨cB, h1, D, h2, h3, h4⟩ := hE
  have h1' : s.vm.findClass C = some cB := by rw [← X.warmed.alike.findClass]; exact h1
  obtain ⟨vm', X', st⟩ := X.checkcastYes hexec hown hlink h2 h4 h1' (by rw [h3]; exact Jvm.Free.SB.assignable_self _ _) hg hstack hdg
  exact ⟨_, X', rfl, fun t h => st t (by rw [← hstack] at h; exact h)⟩
namespace SEq
def yN : MethodName := ⟨"java/lang/String", "equals", "(Ljava/lang/Object;)Z"⟩
abbrev yB : ByteArray := jdk_42_method_66_code
theorem d0 : decode yB 0 = .ok (.aload_n 0, 1) := by decide +kernel
theorem d1 : decode yB 1 = .ok (.aload_n 1, 1) := by decide +kernel
theorem d2 : decode yB 2 = .ok (.if_acmp (.ne) 5, 3) := by decide +kernel
theorem d5 : decode yB 5 = .ok (.iconst 1, 1) := by decide +kernel
theorem d6 : decode yB 6 = .ok (.ireturn, 1) := by decide +kernel
theorem d7 : decode yB 7 = .ok (.aload_n 1, 1) := by decide +kernel
theorem d8 : decode yB 8 = .ok (.instanceof 10, 3) := by decide +kernel
theorem d11 : decode yB 11 = .ok (.ifCond (.eq) 43, 3) := by decide +kernel
theorem d14 : decode yB 14 = .ok (.aload_n 1, 1) := by decide +kernel
theorem d15 : decode yB 15 = .ok (.checkcast 10, 3) := by decide +kernel
theorem d18 : decode yB 18 = .ok (.astore_n 2, 1) := by decide +kernel
theorem d19 : decode yB 19 = .ok (.getstatic 38, 3) := by decide +kernel
theorem d22 : decode yB 22 = .ok (.ifCond (.eq) 14, 3) := by decide +kernel
theorem d25 : decode yB 25 = .ok (.aload_n 0, 1) := by decide +kernel
theorem d26 : decode yB 26 = .ok (.getfield 15, 3) := by decide +kernel
theorem d29 : decode yB 29 = .ok (.aload_n 2, 1) := by decide +kernel
theorem d30 : decode yB 30 = .ok (.getfield 15, 3) := by decide +kernel
theorem d33 : decode yB 33 = .ok (.if_icmp (.ne) 21, 3) := by decide +kernel
theorem d36 : decode yB 36 = .ok (.aload_n 0, 1) := by decide +kernel
theorem d37 : decode yB 37 = .ok (.getfield 9, 3) := by decide +kernel
theorem d40 : decode yB 40 = .ok (.aload_n 2, 1) := by decide +kernel
theorem d41 : decode yB 41 = .ok (.getfield 9, 3) := by decide +kernel
theorem d44 : decode yB 44 = .ok (.invokestatic 541, 3) := by decide +kernel
theorem d47 : decode yB 47 = .ok (.ifCond (.eq) 7, 3) := by decide +kernel
theorem d50 : decode yB 50 = .ok (.iconst 1, 1) := by decide +kernel
theorem d51 : decode yB 51 = .ok (.goto 4, 3) := by decide +kernel
theorem d54 : decode yB 54 = .ok (.iconst 0, 1) := by decide +kernel
theorem d55 : decode yB 55 = .ok (.ireturn, 1) := by decide +kernel
def site : List Cond := [.classLink "java/lang/String" 10 "java/lang/String", .fieldLink "java/lang/String" 38 "java/lang/String" "COMPACT_STRINGS" "Z", .fieldLink "java/lang/String" 15 "java/lang/String" "coder" "B", .fieldLink "java/lang/String" 9 "java/lang/String" "value" "[B", LEq.tab] ++ staticW "java/lang/String" 541 LEq.yN
def tab : Cond := tabOf yN yB 3 (some .boolean) site
def P (x t : Addr) (V : Cell) (cd : Int32) (n : Nat) (f : Nat → Int32) (y t' : Addr) (V' : Cell) (cd' : Int32) (k : Nat) (g : Nat → Int32) (z : Int32) (args : Array Value) (s : State) : Prop := args = #[.ref x, .ref y] ∧ Txt x t V cd n f s ∧ Txt y t' V' cd' k g s ∧ StaticIs s "java/lang/String" "COMPACT_STRINGS" "Z" (.int z) ∧ ¬ z = 0
/-- equals(Object) of two Strings: whether the texts are the same -/
theorem law (l : Launch) (x t : Addr) (V : Cell) (cd : Int32) (n : Nat) (f : Nat → Int32) (y t' : Addr) (V' : Cell) (cd' : Int32) (k : Nat) (g : Nat → Int32) (z : Int32) : Law l yN 2 1 1 14 yB 3 (some .boolean) site (P x t V cd n f y t' V' cd' k g z) (Says01 (SameT n f k g)) [] 0 0 := by
  refine Law.of_walk (plainFor_of_name (by decide +kernel)) (by decide +kernel) (by decide +kernel) (by decide) (fun _ _ h => by rw [h.1]; rfl) (fun _ U U' hal hh h => ⟨h.1, h.2.1.mv hal hh, h.2.2.1.mv hal hh, h.2.2.2.1.there hal hh, h.2.2.2.2⟩) (fun r U U' V V' h1 hal h2 h => Says01.mv r U U' V V' h1 hal h2 h) ?_
  intro p e s m args below meth c s₁ X0 hexec hbytes hml hret hlk hnm hown hh0 W hP
  obtain ⟨rfl, hx, hy, s1, hz⟩ := hP
  have c1 : Steps p.tables e below (s₁.setTop (entryFrame m #[.ref x, .ref y] 3)) (s₁.setTop (mkF m 2 #[.val (.ref x), .val (.ref y), .unset] [.ref y, .ref x])) := Steps.trans (entry rfl) (by
    show Steps p.tables e below (s₁.setTop (mkF m 0 #[.val (.ref x), .val (.ref y), .unset] [])) _
    refine XS.aloadN X0.here hexec rfl (hb hbytes d0) rfl rfl ?_
    refine XS.aloadN X0.here hexec rfl (hb hbytes d1) rfl rfl ?_
    exact Steps.refl _)
  by_cases hxy : x = y
  · have c2 : Steps p.tables e below (s₁.setTop (entryFrame m #[.ref x, .ref y] 3)) (s₁.setTop (mkF m 6 #[.val (.ref x), .val (.ref y), .unset] [.int 1])) := c1.trans (by
      refine acmpNo X0.here hexec rfl (hb hbytes d2) rfl rfl rfl (by simp [acmp, hxy]) ?_
      refine iconstV X0.here hexec rfl 1 (hb hbytes d5) (by decide) ?_
      exact Steps.refl _)
    subst hxy
    have ec : cd = cd' := by
      obtain ⟨D, fd, a1, a2, a3⟩ := hx.2.2.1
      obtain ⟨D', fd', b1, b2, b3⟩ := hy.2.2.1
      cases a1.symm.trans b1
      obtain ⟨q1, q2, q3, q4⟩ := a2.1
      obtain ⟨r1, r2, r3, r4⟩ := b2.1
      cases q4.symm.trans r4
      cases a3.symm.trans b3; rfl
    have et : t = t' := by
      obtain ⟨D, fd, a1, a2, a3⟩ := hx.2.1
      obtain ⟨D', fd', b1, b2, b3⟩ := hy.2.1
      cases a1.symm.trans b1
      obtain ⟨q1, q2, q3, q4⟩ := a2.1
      obtain ⟨r1, r2, r3, r4⟩ := b2.1
      cases q4.symm.trans r4
      cases a3.symm.trans b3; rfl
    subst ec et
    have ev : V = V' := by cases hx.2.2.2.1.1.symm.trans hy.2.2.2.1.1; rfl
    subst ev
    have hs : SameT n f k g := (Cod.eqv hx.2.2.2.2.1 hy.2.2.2.2.1 hx.2.2.2.2.2 hy.2.2.2.2.2).mp ⟨rfl, fun _ _ => rfl⟩
    exact ⟨s₁, some (.int 1), _, _, _, X0, rfl, rfl, rfl, (fun h => by cases h), ⟨1, rfl, hh0, Or.inl ⟨rfl, hs⟩⟩, fun fs hl => c2.trans (X0.ireturnOut hexec hret rfl (Or.inr (Or.inl rfl)) (hb hbytes d6) hl)⟩
  · have c2 : Steps p.tables e below (s₁.setTop (entryFrame m #[.ref x, .ref y] 3)) (s₁.setTop (mkF m 8 #[.val (.ref x), .val (.ref y), .unset] [.ref y])) := c1.trans (by
      refine acmpYes X0.here hexec rfl (pc0 := 2) rfl (hb hbytes d2) rfl rfl rfl (by simp [acmp, hxy]) (by decide) rfl ?_
      refine XS.aloadN X0.here hexec rfl (hb hbytes d7) rfl rfl ?_
      exact Steps.refl _)
    obtain ⟨T3, X3, q3, st3⟩ := cinst X0 hexec hown (wk W (.classLink "java/lang/String" 10 "java/lang/String")) (hy.mv X0.warmed.alike hh0).1 (g := (mkF m 8 #[.val (.ref x), .val (.ref y), .unset] [.ref y])) rfl (rest := []) rfl (hb hbytes d8)
    have hh3 := q3.trans hh0
    have c4 : Steps p.tables e below (s₁.setTop (entryFrame m #[.ref x, .ref y] 3)) (T3.setTop (mkF m 15 #[.val (.ref x), .val (.ref y), .unset] [.ref y])) := (c2.trans (st3 _ (Steps.refl _))).trans (by
      refine XS.ifNo X3.here hexec rfl (hb hbytes d11) rfl (i0_eq_f (by decide)) ?_
      refine XS.aloadN X3.here hexec rfl (hb hbytes d14) rfl rfl ?_
      exact Steps.refl _)
    obtain ⟨T5, X5, q5, st5⟩ := cself X3 hexec hown (wk W (.classLink "java/lang/String" 10 "java/lang/String")) (hy.mv X3.warmed.alike hh3).1 (g := (mkF m 15 #[.val (.ref x), .val (.ref y), .unset] [.ref y])) rfl (rest := []) rfl (hb hbytes d15)
    have hh5 := q5.trans hh3
    have c6 : Steps p.tables e below (s₁.setTop (entryFrame m #[.ref x, .ref y] 3)) (T5.setTop (mkF m 19 #[.val (.ref x), .val (.ref y), .val (.ref y)] [])) := (c4.trans (st5 _ (Steps.refl _))).trans (by
      refine XS.astoreN X5.here hexec rfl (hb hbytes d18) rfl rfl rfl ?_
      exact Steps.refl _)
    obtain ⟨T7, X7, q7, st7⟩ := X5.sget hexec hown (wk W (.fieldLink "java/lang/String" 38 "java/lang/String" "COMPACT_STRINGS" "Z")) s1 (fun _ _ h => by rw [hh5]; exact h) (g := (mkF m 19 #[.val (.ref x), .val (.ref y), .val (.ref y)] [])) rfl (hb hbytes d19)
    have hh7 := q7.trans hh5
    have c8 : Steps p.tables e below (s₁.setTop (entryFrame m #[.ref x, .ref y] 3)) (T7.setTop (mkF m 26 #[.val (.ref x), .val (.ref y), .val (.ref y)] [.ref x])) := (c6.trans (st7 _ (Steps.refl _))).trans (by
      refine XS.ifNo X7.here hexec rfl (hb hbytes d22) rfl (i0_eq_f hz) ?_
      refine XS.aloadN X7.here hexec rfl (hb hbytes d25) rfl rfl ?_
      exact Steps.refl _)
    obtain ⟨T9, X9, q9, st9⟩ := X7.hget hexec hown (wk W (.fieldLink "java/lang/String" 15 "java/lang/String" "coder" "B")) (hx.mv X7.warmed.alike hh7).2.2.1 (g := (mkF m 26 #[.val (.ref x), .val (.ref y), .val (.ref y)] [.ref x])) rfl (rest := []) rfl (hb hbytes d26)
    have hh9 := q9.trans hh7
    have c10 : Steps p.tables e below (s₁.setTop (entryFrame m #[.ref x, .ref y] 3)) (T9.setTop (mkF m 30 #[.val (.ref x), .val (.ref y), .val (.ref y)] [.ref y, .int cd])) := (c8.trans (st9 _ (Steps.refl _))).trans (by
      refine XS.aloadN X9.here hexec rfl (hb hbytes d29) rfl rfl ?_
      exact Steps.refl _)
    obtain ⟨T11, X11, q11, st11⟩ := X9.hget hexec hown (wk W (.fieldLink "java/lang/String" 15 "java/lang/String" "coder" "B")) (hy.mv X9.warmed.alike hh9).2.2.1 (g := (mkF m 30 #[.val (.ref x), .val (.ref y), .val (.ref y)] [.ref y, .int cd])) rfl (rest := [.int cd]) rfl (hb hbytes d30)
    have hh11 := q11.trans hh9
    have c12 : Steps p.tables e below (s₁.setTop (entryFrame m #[.ref x, .ref y] 3)) (T11.setTop (mkF m 33 #[.val (.ref x), .val (.ref y), .val (.ref y)] [.int cd', .int cd])) := c10.trans (st11 _ (Steps.refl _))
    by_cases hcd : cd = cd'
    · subst hcd
      have c13 : Steps p.tables e below (s₁.setTop (entryFrame m #[.ref x, .ref y] 3)) (T11.setTop (mkF m 37 #[.val (.ref x), .val (.ref y), .val (.ref y)] [.ref x])) := c12.trans (by
        refine XS.icmpNo X11.here hexec rfl (hb hbytes d33) rfl (ii_ne_f rfl) ?_
        refine XS.aloadN X11.here hexec rfl (hb hbytes d36) rfl rfl ?_
        exact Steps.refl _)
      obtain ⟨T14, X14, q14, st14⟩ := X11.hget hexec hown (wk W (.fieldLink "java/lang/String" 9 "java/lang/String" "value" "[B")) (hx.mv X11.warmed.alike hh11).2.1 (g := (mkF m 37 #[.val (.ref x), .val (.ref y), .val (.ref y)] [.ref x])) rfl (rest := []) rfl (hb hbytes d37)
      have hh14 := q14.trans hh11
      have c15 : Steps p.tables e below (s₁.setTop (entryFrame m #[.ref x, .ref y] 3)) (T14.setTop (mkF m 41 #[.val (.ref x), .val (.ref y), .val (.ref y)] [.ref y, .ref t])) := (c13.trans (st14 _ (Steps.refl _))).trans (by
        refine XS.aloadN X14.here hexec rfl (hb hbytes d40) rfl rfl ?_
        exact Steps.refl _)
      obtain ⟨T16, X16, q16, st16⟩ := X14.hget hexec hown (wk W (.fieldLink "java/lang/String" 9 "java/lang/String" "value" "[B")) (hy.mv X14.warmed.alike hh14).2.1 (g := (mkF m 41 #[.val (.ref x), .val (.ref y), .val (.ref y)] [.ref y, .ref t])) rfl (rest := [.ref t]) rfl (hb hbytes d41)
      have hh16 := q16.trans hh14
      have c17 : Steps p.tables e below (s₁.setTop (entryFrame m #[.ref x, .ref y] 3)) (T16.setTop (mkF m 44 #[.val (.ref x), .val (.ref y), .val (.ref y)] [.ref t', .ref t])) := c15.trans (st16 _ (Steps.refl _))
      obtain ⟨v18, T18, X18, E18, g18⟩ := X16.callS hexec (LEq.law l t V t' V') hown (wks W (staticW "java/lang/String" 541 LEq.yN)) (wk W LEq.tab) (W := 0) (Nat.le_of_ble_eq_true rfl) (Nat.le_of_ble_eq_true rfl) (Nat.le_refl _) (Nat.le_refl _) (g := (mkF m 44 #[.val (.ref x), .val (.ref y), .val (.ref y)] [.ref t', .ref t])) rfl (by rw [hml]; rfl) c17 (argsL := [.ref t, .ref t']) (rest := []) rfl rfl (by show 2 * 0 + 0 ≤ _; decide) (hb hbytes d44) (⟨rfl, hx.2.2.2.1.mv X16.warmed.alike hh16, hx.2.2.2.2.1.ty, hy.2.2.2.1.mv X16.warmed.alike hh16, hy.2.2.2.2.1.ty⟩)
      obtain ⟨v, rfl, q18, hv⟩ := E18
      have iff := Cod.eqv hx.2.2.2.2.1 hy.2.2.2.2.1 hx.2.2.2.2.2 hy.2.2.2.2.2
      rcases hv with ⟨rfl, he⟩ | ⟨rfl, he⟩
      · have c19 : Steps p.tables e below (s₁.setTop (entryFrame m #[.ref x, .ref y] 3)) (T18.setTop (mkF m 55 #[.val (.ref x), .val (.ref y), .val (.ref y)] [.int 1])) := Steps.trans g18 (by
          refine XS.ifNo X18.here hexec rfl (hb hbytes d47) rfl (i0_eq_f (by decide)) ?_
          refine iconstV X18.here hexec rfl 1 (hb hbytes d50) (by decide) ?_
          refine XS.goto X18.here hexec rfl (pc0 := 51) rfl (hb hbytes d51) (by decide) rfl ?_
          exact Steps.refl _)
        exact ⟨T18, some (.int 1), _, _, _, X18, rfl, rfl, rfl, (fun h => by cases h), ⟨1, rfl, q18.trans hh16, Or.inl ⟨rfl, iff.mp he⟩⟩, fun fs hl => c19.trans (X18.ireturnOut hexec hret rfl (Or.inr (Or.inl rfl)) (hb hbytes d55) hl)⟩
      · have c19 : Steps p.tables e below (s₁.setTop (entryFrame m #[.ref x, .ref y] 3)) (T18.setTop (mkF m 55 #[.val (.ref x), .val (.ref y), .val (.ref y)] [.int 0])) := Steps.trans g18 (by
          refine XS.ifYes X18.here hexec rfl (pc0 := 47) rfl (hb hbytes d47) rfl (i0_eq_t rfl) (by decide) rfl ?_
          refine iconstV X18.here hexec rfl 0 (hb hbytes d54) (by decide) ?_
          exact Steps.refl _)
        exact ⟨T18, some (.int 0), _, _, _, X18, rfl, rfl, rfl, (fun h => by cases h), ⟨0, rfl, q18.trans hh16, Or.inr ⟨rfl, fun q => he (iff.mpr q)⟩⟩, fun fs hl => c19.trans (X18.ireturnOut hexec hret rfl (Or.inr (Or.inl rfl)) (hb hbytes d55) hl)⟩
    · have c13 : Steps p.tables e below (s₁.setTop (entryFrame m #[.ref x, .ref y] 3)) (T11.setTop (mkF m 55 #[.val (.ref x), .val (.ref y), .val (.ref y)] [.int 0])) := c12.trans (by
        refine XS.icmpYes X11.here hexec rfl (pc0 := 33) rfl (hb hbytes d33) rfl (ii_ne_t hcd) (by decide) rfl ?_
        refine iconstV X11.here hexec rfl 0 (hb hbytes d54) (by decide) ?_
        exact Steps.refl _)
      exact ⟨T11, some (.int 0), _, _, _, X11, rfl, rfl, rfl, (fun h => by cases h), ⟨0, rfl, hh11, Or.inr ⟨rfl, Cod.dif hx.2.2.2.2.1 hy.2.2.2.2.1 hcd⟩⟩, fun fs hl => c13.trans (X11.ireturnOut hexec hret rfl (Or.inr (Or.inl rfl)) (hb hbytes d55) hl)⟩
theorem pays {l : Launch} {R : Room} {p : Program} {e : Env} {below : List Frame} {s : State} {sargs : Array Value} {len W : Nat} (x t : Addr) (V : Cell) (cd : Int32) (n : Nat) (f : Nat → Int32) (y t' : Addr) (V' : Cell) (cd' : Int32) (k : Nat) (g : Nat → Int32) (z : Int32) (htab : tab.before sargs s = true) (hfr : 2 ≤ R.frames) (hlo : W + 28 ≤ R.locals) :
    Back l R p e below s sargs yN len W (fun A₁ a₁ => A₁.cells + 0 ≤ R.cells ∧ A₁.slots + 0 ≤ R.slots ∧ P x t V cd n f y t' V' cd' k g z a₁ A₁.U) (fun A₁ _ v₁ B₁ => Says01 (SameT n f k g) v₁ A₁.U B₁.U ∧ B₁.locs = A₁.locs ++ [] ∧ B₁.cells = A₁.cells + 0 ∧ B₁.slots = A₁.slots + 0) :=
  (law l x t V cd n f y t' V' cd' k g z).pays htab hfr (by omega)
end SEq
end StrChars
namespace StrChars.Road
open Jvm Sem ClassFile Op Lib Jvm.Stand Jvm.Free Jvm.Free.XT
open Jvm.Lib.Cold (StaticIs)
/-- the words of String.equals(Object) -/
abbrev wordsEq : List Jvm.Cond := [.code SEq.yN SEq.yB 3 (some .boolean), .initialized ST, .classLink ST 10 ST, .fieldLink ST 38 ST "COMPACT_STRINGS" "Z", .fieldLink ST 15 ST "coder" "B", .fieldLink ST 9 ST "value" "[B", .methodLink ST 541 LEq.yN, .static LEq.yN, .code LEq.yN LEq.yB 3 (some .boolean), .initialized "java/lang/StringLatin1"]
theorem tabEq_of {a : Array Value} {s : State} (h : ∀ w ∈ wordsEq, w.before a s = true) : SEq.tab.before a s = true := by
  have hl : LEq.tab.before a s = true := unparts (wk h (.code LEq.yN LEq.yB 3 (some .boolean))) (wks h (.initialized LEq.yN.cls :: LEq.site))
  have q := consq hl h
  exact unparts (wk q (.code SEq.yN SEq.yB 3 (some .boolean))) (wks q (.initialized SEq.yN.cls :: SEq.site))
theorem movedEq {Z s : State} {a0 args : Array Value} (hZ : Z.Warmed39 s.vm) (hw : ∀ d ∈ wordsEq, d.before a0 Z = true) : ∀ d ∈ wordsEq, d.before args s = true := fun d hd => by
  have t : ∀ d ∈ wordsEq, (d.onTables && d.keepsFace) = true := by decide +kernel
  exact RoadKit.mv hZ (hw d hd) (t d hd)
/-- the road's facts of a String, as the laws ask it -/
theorem txt_of {Z U : State} {a0 : Array Value} {kI : Nat} (wi : (Jvm.Cond.instantiable ST kI).before a0 Z = true) (al : Z.vm.Alike U.vm) {x t : Addr} {kb : ClassId} {cs : List Int32} {cd N2 : Int32} {vs : List Value} (E : RoadKit.Exa Z U.heap x ST) (V : RoadKit.Fld Z U.heap x ST "value" "[B" (.ref t)) (C : RoadKit.Fld Z U.heap x ST "coder" "B" (.int cd)) (K : RoadKit.Arv Z U.heap t kb .byte N2 vs (.int 0)) (hc : CodA cs cd N2 vs) (hb : ∀ c ∈ cs, ¬ c < 0 ∧ ¬ (65535 : Int32) < c) (l2 : cs.length ≤ 4000) :
    ∃ A, Txt x t A cd cs.length (fun j => cs.getD j 0) U := by
  obtain ⟨A, K1, K2, K3, K4, K5, K6⟩ := K
  have hcod := hc.cod (by omega) K3 K5
  obtain ⟨D, fV, fC, hB, F1, F2, g1, g2, -, -⟩ := strObj wi al E V C
  exact ⟨A, ⟨_, hB.2.2.1, D, hB.1, rfl, by cases q : D.vm <;> first | rfl | exact absurd q (hB.2.1.2 _)⟩, Has.of hB F1 g1, Has.of hB F2 g2, ⟨K1.1, State.isArrayOf_alike al K1.2.1, K1.2.2, by rcases hcod with ⟨-, q, -⟩ | ⟨-, q, -⟩ <;> omega⟩, hcod, fun j hj => by
    have e : cs.getD j 0 = cs[j] := by simp [List.getD_eq_getElem?_getD, hj]
    show ¬ cs.getD j 0 < 0 ∧ ¬ 65535 < cs.getD j 0
    rw [e]; exact hb _ (List.getElem_mem _)⟩
theorem same_list (cs ds : List Int32) : SameT cs.length (fun j => cs.getD j 0) ds.length (fun j => ds.getD j 0) ↔ cs = ds := by
  constructor
  · rintro ⟨e, q⟩
    refine List.ext_getElem e fun j h1 h2 => ?_
    have := q j h1
    simpa [List.getD_eq_getElem?_getD, h1, h2] using this
  · rintro rfl
    exact ⟨rfl, fun _ _ => rfl⟩
/-- **equals(Object) OF TWO SUCH STRINGS**: 1 just where the chars are the same -/
theorem eqW {p : Program} {l : Launch} {e : Env} {R : Room} {s : State} {args : Array Value} {below : List Frame} {len W : Nat} {Z : State} {a0 : Array Value} {h : Heap} (hZ : Z.Warmed39 s.vm) (hw : ∀ d ∈ wordsEq, d.before a0 Z = true) {kI : Nat} (wi : (Jvm.Cond.instantiable ST kI).before a0 Z = true)
    {x t : Addr} {kb : ClassId} {cs : List Int32} {cd N2 : Int32} {vs : List Value} (E : RoadKit.Exa Z h x ST) (V : RoadKit.Fld Z h x ST "value" "[B" (.ref t)) (C : RoadKit.Fld Z h x ST "coder" "B" (.int cd)) (K : RoadKit.Arv Z h t kb .byte N2 vs (.int 0)) (hc : CodA cs cd N2 vs) (hb : ∀ c ∈ cs, ¬ c < 0 ∧ ¬ (65535 : Int32) < c) (l2 : cs.length ≤ 4000)
    {y t' : Addr} {kb' : ClassId} {ds : List Int32} {cd' N2' : Int32} {vs' : List Value} (E' : RoadKit.Exa Z h y ST) (V' : RoadKit.Fld Z h y ST "value" "[B" (.ref t')) (C' : RoadKit.Fld Z h y ST "coder" "B" (.int cd')) (K' : RoadKit.Arv Z h t' kb' .byte N2' vs' (.int 0)) (hc' : CodA ds cd' N2' vs') (hb' : ∀ c ∈ ds, ¬ c < 0 ∧ ¬ (65535 : Int32) < c) (l2' : ds.length ≤ 4000)
    {z : Int32} (S : RoadKit.Sta Z h ST "COMPACT_STRINGS" "Z" (.int z)) (hz : ¬ z = 0) (hfr : 2 ≤ R.frames) (hlo : W + 28 ≤ R.locals) :
    Back l R p e below s args (⟨"java/lang/String", "equals", "(Ljava/lang/Object;)Z"⟩ : MethodName) len W (fun P a => a = #[.ref x, .ref y] ∧ P.U.heap = h ∧ P.cells + 0 ≤ R.cells ∧ P.slots + 0 ≤ R.slots)
      (fun P _ v B => ∃ L, (((v = some (.int 1) ∧ cs = ds) ∨ (v = some (.int 0) ∧ ¬ cs = ds)) ∧ L = [] ∧ B.U.heap = h) ∧ B.locs = P.locs ++ L ∧ B.cells = P.cells + 0 ∧ B.slots = P.slots + 0) := by
  intro m meth c P g ig mk a X hg hsize hdg hW hn hp'
  obtain ⟨rfl, rfl, r1, r2⟩ := hp'
  have al : Z.vm.Alike P.U.vm := hZ.alike.trans X.warmed.alike
  obtain ⟨A, hx⟩ := txt_of wi al E V C K hc hb l2
  obtain ⟨A', hy⟩ := txt_of wi al E' V' C' K' hc' hb' l2'
  obtain ⟨v, B, X', ⟨⟨w, hv, hh, hq⟩, hl, hk, hs⟩, st⟩ := SEq.pays x t A cd cs.length (fun j => cs.getD j 0) y t' A' cd' ds.length (fun j => ds.getD j 0) z (tabEq_of (movedEq hZ hw)) hfr hlo m meth c P g ig mk _ X hg hsize hdg hW hn ⟨r1, r2, rfl, hx, hy, sta_is al S, hz⟩
  refine ⟨v, B, X', ⟨[], ⟨?_, rfl, hh⟩, hl, hk, hs⟩, st⟩
  rcases hq with ⟨rfl, q⟩ | ⟨rfl, q⟩
  · exact Or.inl ⟨hv, (same_list cs ds).mp q⟩
  · exact Or.inr ⟨hv, fun e => q ((same_list cs ds).mpr e)⟩
end StrChars.Road
namespace StrChars.Road
open Jvm Sem ClassFile Op Lib Jvm.Stand Jvm.Free Jvm.Free.XT
open Jvm.Lib.Cold (StaticIs)
/-- what backV says of its String, as the contracts of this text ask it: cs's low bytes, coder 0 -/
theorem codOf {cs : List Int32} {n : Nat} (hn : cs.length = n) (hb : ∀ c ∈ cs, ¬ 255 < c) : CodA cs 0 (Int32.ofNat n) ((cs.map lo8).map Value.int) := Or.inl ⟨rfl, by rw [hn], by simp [List.map_map, Function.comp_def], hb⟩
end StrChars.Road
end Jvm.Pilot.@@N@@

namespace Jvm.Pilot.@@N@@
open Jvm Jvm.ClassFile Sem Op Lib Jvm.Free Jvm.Stand Jvm.LawKit Jvm.RoadKit Bundle Jvm.Pilot.@@N@@.Jvm.D
/-- x is a Latin-1 String of the chars cs, its bytes in the array t -/
def Str (Z : State) (h : Heap) (x t : Addr) (k : ClassId) (cs : List Int32) : Prop := Exa Z h x "java/lang/String" ∧ Fld Z h x "java/lang/String" "value" "[B" (.ref t) ∧ Fld Z h x "java/lang/String" "coder" "B" (.int 0) ∧ Arv Z h t k .byte (Int32.ofNat cs.length) ((cs.map fun c => c.toInt8.toInt32).map Value.int) (.int 0) ∧ (∀ c ∈ cs, ¬ c < 0 ∧ ¬ (255 : Int32) < c) ∧ cs.length ≤ 4000
theorem Str.ext {Z : State} {h h' : Heap} {x t : Addr} {k : ClassId} {cs : List Int32} (S : Str Z h x t k cs) (E : Ext h h') : Str Z h' x t k cs := ⟨S.1.ext E, S.2.1.ext E, S.2.2.1.ext E, S.2.2.2.1.ext E, S.2.2.2.2⟩
theorem Str.keep {Z : State} {h h' : Heap} {x t : Addr} {k : ClassId} {cs : List Int32} {ws : List Addr} (S : Str Z h x t k cs) (K : Keep h h' ws) (q : x ∉ ws) (r : t ∉ ws) : Str Z h' x t k cs := ⟨S.1.keep K, S.2.1.keep K q, S.2.2.1.keep K q, S.2.2.2.1.keep K r, S.2.2.2.2⟩
theorem Str.other {Z : State} {h h' : Heap} {x t a : Addr} {k : ClassId} {cs : List Int32} {sl : Nat} {v : Value} (S : Str Z h x t k cs) (W : Wr h h' a sl v) (q : x ≠ a) (r : t ≠ a) : Str Z h' x t k cs := ⟨S.1.wr W, S.2.1.other W (Or.inl q), S.2.2.1.other W (Or.inl q), S.2.2.2.1.other W r, S.2.2.2.2⟩
theorem Str.ltT {Z : State} {h : Heap} {x t : Addr} {k : ClassId} {cs : List Int32} (S : Str Z h x t k cs) : t < h.size := S.2.2.2.1.lt
theorem own_c0 {P : Int32 → Prop} : ∀ c ∈ ([] : List Int32), P c := fun _ q => nomatch q
theorem own_cS {P : Int32 → Prop} {y : Int32} {L : List Int32} (q : P y) (r : ∀ c ∈ L, P c) : ∀ c ∈ y :: L, P c := fun c z => (List.mem_cons.mp z).elim (fun u => u ▸ q) (r c)
theorem own_lit (x : Int32) (k : Nat) (hk : k < 2 ^ 31) : (x &&& (255 : Int32)) = Int32.ofNat (x &&& 255).toBitVec.toNat := by
  apply Int32.toBitVec_inj.mp
  show _ = BitVec.ofNat 32 _
  rw [BitVec.ofNat_toNat]; simp
theorem own_lt256 (x : Int32) : (x &&& 255).toBitVec.toNat < 256 := by
  simp only [Int32.toBitVec_and, BitVec.toNat_and]
  exact Nat.lt_succ_of_le Nat.and_le_right
theorem own_and255 (x : Int32) : ¬ nar .char ((x &&& (255 : Int32)).toUInt32.toUInt16.toUInt32.toInt32) < 0 ∧ ¬ (255 : Int32) < nar .char ((x &&& (255 : Int32)).toUInt32.toUInt16.toUInt32.toInt32) := by
  have t : ∀ k : Fin 256, ¬ nar .char ((Int32.ofNat k.val).toUInt32.toUInt16.toUInt32.toInt32) < 0 ∧ ¬ (255 : Int32) < nar .char ((Int32.ofNat k.val).toUInt32.toUInt16.toUInt32.toInt32) := by decide +kernel
  rw [own_lit x 0 (by decide)]
  exact t ⟨_, own_lt256 x⟩
theorem own_i2c255 (x : Int32) : nar .char ((x &&& (255 : Int32)).toUInt32.toUInt16.toUInt32.toInt32) = (x &&& (255 : Int32)) := by
  have t : ∀ k : Fin 256, nar .char ((Int32.ofNat k.val).toUInt32.toUInt16.toUInt32.toInt32) = Int32.ofNat k.val := by decide +kernel
  rw [own_lit x 0 (by decide)]
  exact t ⟨_, own_lt256 x⟩
theorem own_i2cr (x : Int32) : ¬ ((x &&& (255 : Int32)).toUInt32.toUInt16.toUInt32.toInt32) < 0 ∧ ¬ (255 : Int32) < ((x &&& (255 : Int32)).toUInt32.toUInt16.toUInt32.toInt32) := by
  have t : ∀ k : Fin 256, ¬ ((Int32.ofNat k.val).toUInt32.toUInt16.toUInt32.toInt32) < 0 ∧ ¬ (255 : Int32) < ((Int32.ofNat k.val).toUInt32.toUInt16.toUInt32.toInt32) := by decide +kernel
  rw [own_lit x 0 (by decide)]
  exact t ⟨_, own_lt256 x⟩
theorem own_rng {c : Int32} (h : ¬ c < 0 ∧ ¬ (255 : Int32) < c) : ∃ k : Fin 256, c = Int32.ofNat k.val := by
  obtain ⟨h0, h1⟩ := h
  rw [Int32.lt_iff_toInt_lt] at h0 h1
  have e1 : (255 : Int32).toInt = 255 := rfl
  have e2 : (0 : Int32).toInt = 0 := rfl
  refine ⟨⟨c.toInt.toNat, by omega⟩, ?_⟩
  apply Int32.toInt_inj.mp
  show c.toInt = (Int32.ofNat c.toInt.toNat).toInt
  rw [Int32.toInt_ofNat_of_lt (by omega)]
  omega
theorem own_narc {c : Int32} (h : ¬ c < 0 ∧ ¬ (255 : Int32) < c) : nar .char c = c := by
  have t : ∀ k : Fin 256, nar .char (Int32.ofNat k.val) = Int32.ofNat k.val := by decide +kernel
  obtain ⟨k, rfl⟩ := own_rng h
  exact t k
theorem own_fitsc {c : Int32} (h : ¬ c < 0 ∧ ¬ (255 : Int32) < c) : fits .char (.int c) = true := by
  have t : ∀ k : Fin 256, fits .char (.int (Int32.ofNat k.val)) = true := by decide +kernel
  obtain ⟨k, rfl⟩ := own_rng h
  exact t k
theorem own_up {cs : List Int32} (h : ∀ c ∈ cs, ¬ c < 0 ∧ ¬ (255 : Int32) < c) : ∀ c ∈ cs, ¬ c < 0 ∧ ¬ (65535 : Int32) < c := fun c hc => ⟨(h c hc).1, fun q => (h c hc).2 (by rw [Int32.lt_iff_toInt_lt] at q ⊢; have e1 : (65535 : Int32).toInt = 65535 := rfl; have e2 : (255 : Int32).toInt = 255 := rfl; omega)⟩
theorem own_hws {Z : State} {a0 : Array Value} (hw : ∀ d ∈ tables_1, d.before a0 Z = true) : ∀ d ∈ StrChars.Road.words, d.before a0 Z = true := fun d hd => hw d ((by decide +kernel : ∀ d ∈ StrChars.Road.words, d ∈ tables_1) d hd)
theorem own_cod {Z : State} {h : Heap} {x t : Addr} {k : ClassId} {cs : List Int32} (S : Str Z h x t k cs) : StrChars.Road.CodA cs 0 (Int32.ofNat cs.length) ((cs.map fun c => c.toInt8.toInt32).map Value.int) := StrChars.Road.codOf rfl fun c hc => (S.2.2.2.2.1 c hc).2
theorem own_ite {v : Option Value} {cs ds : List Int32} (h : (v = some (.int 1) ∧ cs = ds) ∨ (v = some (.int 0) ∧ ¬ cs = ds)) : v = some (.int (if cs = ds then (1 : Int32) else 0)) := by rcases h with ⟨rfl, h⟩ | ⟨rfl, h⟩ <;> simp [h]
theorem own_heq {Z : State} {a0 : Array Value} (hw : ∀ d ∈ tables_1, d.before a0 Z = true) : ∀ d ∈ StrChars.Road.wordsEq, d.before a0 Z = true := fun d hd => hw d ((by decide +kernel : ∀ d ∈ StrChars.Road.wordsEq, d ∈ tables_1) d hd)
end Jvm.Pilot.@@N@@
namespace Jvm.Pilot.@@N@@
open Jvm Jvm.ClassFile Sem Op Lib Jvm.Free Jvm.Stand Jvm.LawKit Jvm.RoadKit Bundle Jvm.LamKit Jvm.Pilot.@@N@@.Jvm.D
abbrev own_AS : Setting := { classPath := fun _ => none }
/-- what a class's record keeps of what 'isMade' reads, whatever of her pool is resolved meanwhile -/
theorem own_proj {k k' : Class} (h : k' = { k with resolved := k'.resolved, nestHost := k'.nestHost, nestHostError := k'.nestHostError }) : k'.name = k.name ∧ k'.kind = k.kind ∧ k'.accessFlags = k.accessFlags ∧ k'.super = k.super ∧ k'.interfaces = k.interfaces ∧ k'.init = k.init ∧ k'.loader = k.loader ∧ k'.hidden = k.hidden ∧ k'.linked = k.linked ∧ k'.callSites = k.callSites ∧ k'.invokers = k.invokers ∧ k'.methods = k.methods ∧ k'.fields = k.fields ∧ k'.instanceTypes = k.instanceTypes ∧ k'.staticTypes = k.staticTypes ∧ k'.cf = k.cf ∧ k'.isInterface = k.isInterface := by
  rw [h]; exact ⟨rfl, rfl, rfl, rfl, rfl, rfl, rfl, rfl, rfl, rfl, rfl, rfl, rfl, rfl, rfl, rfl, rfl⟩
theorem own_made39 {Z : State} {vm' : Vm} (hZ : Z.Warmed39 vm') {d c : ClassId} {σ : Lambda.Shape} (h : Lambda.isMade own_AS Z.vm d σ c = true) : Lambda.isMade own_AS vm' d σ c = true := by
  have hA := hZ.alike
  obtain ⟨dk, k, ok, tk, file, cf, ob, ifc, t, lay, ms, tg, fo, e1, e2, a1, a2, a3, a4, a6, a8, a9, a5, a7, g1, g2, -⟩ := Lambda.isMade_spec h
  obtain ⟨dk', e1', f1, -⟩ := hZ.2.2.2 d dk e1
  obtain ⟨k', e2', f2, -, hr, -⟩ := hZ.2.2.2 c k e2
  obtain ⟨ok', a6', f3, -⟩ := hZ.2.2.2 ob ok a6
  obtain ⟨tk', a7', f4, -⟩ := hZ.2.2.2 t tk a7
  obtain ⟨P1, -⟩ := own_proj f1
  have P2 := own_proj f2
  obtain ⟨-, -, -, -, -, -, -, -, -, -, -, -, -, P3, -⟩ := own_proj f3
  obtain ⟨-, -, -, -, -, -, -, -, -, -, -, -, -, -, -, -, P4⟩ := own_proj f4
  have hres : ∀ (l : List (Option Resolved × Nat)), l.all (fun (x, i) => x.isNone || decide (k.resolved[i]? = some x)) = true → l.all (fun (x, i) => x.isNone || decide (k'.resolved[i]? = some x)) = true := by
    intro l hl
    refine List.all_eq_true.mpr fun y hy => ?_
    have q := List.all_eq_true.mp hl y hy
    obtain ⟨x, i⟩ := y
    rcases x with _ | r
    · rfl
    · have q' : k.resolved[i]? = some (some r) := by simpa using q
      rcases hr i with z | ⟨z, -⟩
      · simp [z, q']
      · rw [q'] at z; cases z
  clear hr f1 f2 f3 f4
  unfold Lambda.isMade at h ⊢
  simp only [e1, e2, a1, a2, a3, a4, a5, a6, a7, a8, a9, g1, g2, Option.bind_eq_bind, Option.bind_some, Option.pure_def, Option.getD_some, Bool.and_eq_true] at h
  simp only [e1', e2', a1, a2, a3, a4, a5, a6', a7', a8, a9, P1, P2, P3, P4, hA.findClass, Lambda.methodIn_ask_alike hA, Lambda.resolvedOf_alike hA, hA.selectMethod, g1, g2, Option.bind_eq_bind, Option.bind_some, Option.pure_def, Option.getD_some, Bool.and_eq_true]
  exact ⟨⟨h.1.1, hres _ h.1.2⟩, h.2⟩
theorem own_made {Z s : State} (hZ : Z.Warmed39 s.vm) {host : String} {σ : Lambda.Shape} {cK : ClassId} (h : Jvm.LamKit.Made Z host σ cK) : Jvm.LamKit.Made s host σ cK := by
  obtain ⟨d, dk, h1, h2, h3, h4⟩ := h
  obtain ⟨dk', g1, g2, -⟩ := hZ.2.2.2 d dk h1
  have hA := hZ.alike
  refine ⟨d, dk', g1, by rw [(own_proj g2).1]; exact h2, own_made39 hZ h3, ?_⟩
  simp only [State.lambdaCallable, hA.findClass, hA.assignable, hA.superclasses, hA.declaredIn] at h4 ⊢
  exact h4
theorem own_fnext {h h' : Heap} {a : Addr} {cK : ClassId} (F : FnAt h a cK) (E : Ext h h') : FnAt h' a cK := by
  obtain ⟨cell, h1, h2⟩ := F
  exact ⟨cell, E.2 _ _ h1, h2⟩
/-- the site of the method x at pc holds the one object aL -/
def own_Site (Z : State) (x : MethodName) (pcn : Nat) (aL : Addr) : Prop := ∃ (m0 : MethodId) (kD : Class) (i0 p0 : Nat), Z.methodNamed? x = some m0 ∧ Z.vm.classes[m0.cls]? = some kD ∧ (kD.callSites.find? fun y => y.1 == m0.idx && y.2.1 == pcn) = some (i0, p0, .constant aL)
theorem own_siteS {s : State} {args : Array Value} {x : MethodName} {pcn index : Nat} {σ : Lambda.Shape} (h : (Cond.lambdaSite x pcn index σ).before args s = true) (hcap : σ.captured = []) : ∃ (aL : Addr) (cK : ClassId), own_Site s x pcn aL ∧ Jvm.LamKit.Made s x.cls σ cK ∧ FnAt s.heap aL cK := by
  obtain ⟨cK, one, hat⟩ := Cond.lambdaSite_spec h
  obtain ⟨mD, kD, cfD, i0, p0, lk, hmD, hkD, -, -, -, hfind, hmade, hcan, hl⟩ := State.lambdaAt?_spec hat
  obtain ⟨kD', hkD', hnameD⟩ := className_of_methodNamed hmD
  cases hkD.symm.trans hkD'
  rcases hl with ⟨a, cell, rfl, -, -, hcell, hcls, hvm, -⟩ | ⟨-, -, hne⟩
  · exact ⟨a, cK, ⟨mD, kD, i0, p0, hmD, hkD, hfind⟩, ⟨_, kD, hkD, hnameD, hmade, hcan⟩, ⟨cell, hcell, hcls, hvm⟩⟩
  · exact absurd hcap hne
section Own
variable {p : Program} {l : Launch} {e : Env} {R : Room} {Z s : State} {m : MethodId} {args : Array Value} {below : List Frame} {meth : Method} {c : Code} {T : State} {locs : List Loc} {cells slots : Nat}
theorem own_indy (X : Stand p l e R s m args below meth c T locs cells slots) (hx : p.tables.exec = Jvm.exec) (hZ : Z.Warmed39 s.vm) {x : MethodName} (hnm : s.methodNamed? x = some m) {pcn index : Nat} {aL : Addr} (LM : own_Site Z x pcn aL) {g : JFrame} (hg : g.method = m) (hpc : g.pc = pcn) (hsize : g.locals.size = c.maxLocals)
    (hd : decode c.code g.pc = .ok (.invokedynamic index, 5)) (hwords : 2 * g.monitorRoom + (g.stack.map fun v => v.category).sum + 3072 ≤ R.locals) {target : State} (k : Steps p.tables e below (T.setTop { g with pc := g.pc + 5, stack := .ref aL :: g.stack }) target) : Steps p.tables e below (T.setTop g) target := by
  obtain ⟨m0, kD, i0, p0, h1, h2, h3⟩ := LM
  have q : (Z.setVm s.vm).methodNamed? x = some m0 := by rw [State.methodNamed?_setVm hZ.alike]; exact h1
  have q' : s.methodNamed? x = some m0 := q
  cases hnm.symm.trans q'
  obtain ⟨k', g1, g2, -⟩ := hZ.2.2.2 _ _ h2
  have hw : e.platform.lambdaLinkWords = 3072 := by rw [X.admits.platform]
  exact X.lambdaConstant hx hg hsize hd g1 (by rw [hpc, (own_proj g2).2.2.2.2.2.2.2.2.2.1]; exact h3) (by rw [hw]; exact hwords) k
end Own
abbrev own_sh : Lambda.Shape := (Jvm.Lambda.Shape.mk "java/util/function/Function" "apply" (Jvm.ClassFile.MethodDescriptor.mk ([(Jvm.ClassFile.FieldType.object "java/lang/Object")] : List Jvm.ClassFile.FieldType) (Option.some (Jvm.ClassFile.FieldType.object "java/lang/Object"))) ([] : List Jvm.ClassFile.FieldType) (6 : Nat) "com/example/indexwerk/indexwerk/engine/TargetLimits$Origin" "lambda$of$0" (Jvm.ClassFile.MethodDescriptor.mk ([(Jvm.ClassFile.FieldType.object "java/util/List")] : List Jvm.ClassFile.FieldType) (Option.some (Jvm.ClassFile.FieldType.object "java/util/OptionalInt"))) false (Jvm.ClassFile.MethodDescriptor.mk ([(Jvm.ClassFile.FieldType.object "java/util/List")] : List Jvm.ClassFile.FieldType) (Option.some (Jvm.ClassFile.FieldType.object "java/util/OptionalInt"))))
abbrev own_HO : String := "com/example/indexwerk/indexwerk/engine/TargetLimits$Origin"
abbrev own_xi : MethodName := (⟨"java/util/function/Function", "apply", "(Ljava/lang/Object;)Ljava/lang/Object;"⟩ : MethodName)
abbrev own_y : MethodName := (⟨"com/example/indexwerk/indexwerk/engine/TargetLimits$Origin", "lambda$of$0", "(Ljava/util/List;)Ljava/util/OptionalInt;"⟩ : MethodName)
def own_fc : ByteArray := ⟨#[0x2b, 0xc0, 0x00, 0x0e, 0xb8, 0x00, 0x14, 0xb0]⟩
theorem own_fwd : fwdOK own_sh own_HO own_fc 2 (some (.object "java/lang/Object")) 20 16 = true := by decide +kernel
theorem own_f0 : decode own_fc 0 = .ok (.aload_n 1, 1) := by decide +kernel
theorem own_f1 : decode own_fc 1 = .ok (.checkcast 14, 3) := by decide +kernel
theorem own_f4 : decode own_fc 4 = .ok (.invokestatic 20, 3) := by decide +kernel
theorem own_f7 : decode own_fc 7 = .ok (.areturn, 1) := by decide +kernel
/-- the made class's entry 14 names java/util/List -/
def own_chk : Bool :=
  match own_sh.file own_HO with
  | none => false
  | some D =>
    match D.constantPool[(14 : Nat)]? with
    | some (.class_ n) => decide (14 ≠ D.thisClass) && decide (D.constantPool.string? n = some "java/util/List")
    | _ => false
theorem own_chkT : own_chk = true := by decide +kernel
theorem own_pool : ∀ cf, own_sh.file own_HO = some cf → ∃ n, cf.constantPool[(14 : Nat)]? = some (.class_ n) ∧ 14 ≠ cf.thisClass ∧ cf.constantPool.string? n = some "java/util/List" := by
  intro cf hcf
  have h := own_chkT
  unfold own_chk at h
  rw [hcf] at h
  dsimp only at h
  split at h
  · rename_i n hn
    simp only [Bool.and_eq_true, decide_eq_true_eq] at h
    exact ⟨n, hn, h.1, h.2⟩
  · cases h
theorem own_rdy {s : State} {cK cL : ClassId} (h : Jvm.LamKit.Made s own_HO own_sh cK) (hL : s.vm.findClass "java/util/List" = some cL) : s.vm.classReady cK 14 cL := by
  obtain ⟨d, dk, hd, hn, hm, -⟩ := h
  obtain ⟨dk', k, ok, tk, file, cf, ob, ifc, t, lay, ms, tg, fo, e1, e2, -, a2, -, -, -, -, -, -, -, -, -, -, -, -, -, -, -, -, -, -, hres, -⟩ := Lambda.isMade_spec hm
  cases hd.symm.trans e1
  rw [hn] at a2
  obtain ⟨n, p1, p2, p3⟩ := own_pool cf a2
  exact ⟨k, e2, hres 14 _ (Lambda.resolvedOf_class p1 p2 p3 hL)⟩
def own_Lam (Z : State) (aL : Addr) (cK : ClassId) : Prop := own_Site Z (⟨"com/example/indexwerk/indexwerk/engine/TargetLimits$Origin", "of", "(Ljava/lang/String;)Lcom/example/indexwerk/indexwerk/engine/TargetLimits$Origin;"⟩ : MethodName) 5 aL ∧ Jvm.LamKit.Made Z own_HO own_sh cK ∧ FnAt Z.heap aL cK
def own_Opt (Z : State) (eO : Addr) : Prop := Sta Z Z.heap "java/util/OptionalInt" "EMPTY" "Ljava/util/OptionalInt;" (.ref eO) ∧ Exa Z Z.heap eO "java/util/OptionalInt" ∧ Fld Z Z.heap eO "java/util/OptionalInt" "isPresent" "Z" (.int 0)
end Jvm.Pilot.@@N@@
namespace Jvm.Pilot.@@N@@
open Jvm Jvm.ClassFile Sem Op Lib Jvm.Free Jvm.Stand Jvm.LawKit Jvm.RoadKit Bundle Jvm.Pilot.@@N@@.Jvm.D
theorem d1_0 : decode method_3_code 0 = .ok (.iload_n 0, 1) := by decide +kernel
theorem d1_1 : decode method_3_code 1 = .ok (.ifCond .ne 14, 3) := by decide +kernel
theorem d1_4 : decode method_3_code 4 = .ok (.new 14, 3) := by decide +kernel
theorem d1_7 : decode method_3_code 7 = .ok (.dup, 1) := by decide +kernel
theorem d1_8 : decode method_3_code 8 = .ok (.iconst 0, 1) := by decide +kernel
theorem d1_9 : decode method_3_code 9 = .ok (.newarray .char, 2) := by decide +kernel
theorem d1_11 : decode method_3_code 11 = .ok (.invokespecial 57, 3) := by decide +kernel
theorem d1_14 : decode method_3_code 14 = .ok (.areturn, 1) := by decide +kernel
theorem d1_15 : decode method_3_code 15 = .ok (.iload_n 0, 1) := by decide +kernel
theorem d1_16 : decode method_3_code 16 = .ok (.iconst 1, 1) := by decide +kernel
theorem d1_17 : decode method_3_code 17 = .ok (.if_icmp .ne 18, 3) := by decide +kernel
theorem d1_20 : decode method_3_code 20 = .ok (.new 14, 3) := by decide +kernel
theorem d1_23 : decode method_3_code 23 = .ok (.dup, 1) := by decide +kernel
theorem d1_24 : decode method_3_code 24 = .ok (.iconst 1, 1) := by decide +kernel
theorem d1_25 : decode method_3_code 25 = .ok (.newarray .char, 2) := by decide +kernel
theorem d1_27 : decode method_3_code 27 = .ok (.dup, 1) := by decide +kernel
theorem d1_28 : decode method_3_code 28 = .ok (.iconst 0, 1) := by decide +kernel
theorem d1_29 : decode method_3_code 29 = .ok (.iload_n 1, 1) := by decide +kernel
theorem d1_30 : decode method_3_code 30 = .ok (.castore, 1) := by decide +kernel
theorem d1_31 : decode method_3_code 31 = .ok (.invokespecial 57, 3) := by decide +kernel
theorem d1_34 : decode method_3_code 34 = .ok (.areturn, 1) := by decide +kernel
theorem d1_35 : decode method_3_code 35 = .ok (.iload_n 0, 1) := by decide +kernel
theorem d1_36 : decode method_3_code 36 = .ok (.iconst 2, 1) := by decide +kernel
theorem d1_37 : decode method_3_code 37 = .ok (.if_icmp .ne 22, 3) := by decide +kernel
theorem d1_40 : decode method_3_code 40 = .ok (.new 14, 3) := by decide +kernel
theorem d1_43 : decode method_3_code 43 = .ok (.dup, 1) := by decide +kernel
theorem d1_44 : decode method_3_code 44 = .ok (.iconst 2, 1) := by decide +kernel
theorem d1_45 : decode method_3_code 45 = .ok (.newarray .char, 2) := by decide +kernel
theorem d1_47 : decode method_3_code 47 = .ok (.dup, 1) := by decide +kernel
theorem d1_48 : decode method_3_code 48 = .ok (.iconst 0, 1) := by decide +kernel
theorem d1_49 : decode method_3_code 49 = .ok (.iload_n 1, 1) := by decide +kernel
theorem d1_50 : decode method_3_code 50 = .ok (.castore, 1) := by decide +kernel
theorem d1_51 : decode method_3_code 51 = .ok (.dup, 1) := by decide +kernel
theorem d1_52 : decode method_3_code 52 = .ok (.iconst 1, 1) := by decide +kernel
theorem d1_53 : decode method_3_code 53 = .ok (.iload_n 2, 1) := by decide +kernel
theorem d1_54 : decode method_3_code 54 = .ok (.castore, 1) := by decide +kernel
theorem d1_55 : decode method_3_code 55 = .ok (.invokespecial 57, 3) := by decide +kernel
theorem d1_58 : decode method_3_code 58 = .ok (.areturn, 1) := by decide +kernel
theorem d1_59 : decode method_3_code 59 = .ok (.iload_n 0, 1) := by decide +kernel
theorem d1_60 : decode method_3_code 60 = .ok (.iconst 3, 1) := by decide +kernel
theorem d1_61 : decode method_3_code 61 = .ok (.if_icmp .ne 26, 3) := by decide +kernel
theorem d1_64 : decode method_3_code 64 = .ok (.new 14, 3) := by decide +kernel
theorem d1_67 : decode method_3_code 67 = .ok (.dup, 1) := by decide +kernel
theorem d1_68 : decode method_3_code 68 = .ok (.iconst 3, 1) := by decide +kernel
theorem d1_69 : decode method_3_code 69 = .ok (.newarray .char, 2) := by decide +kernel
theorem d1_71 : decode method_3_code 71 = .ok (.dup, 1) := by decide +kernel
theorem d1_72 : decode method_3_code 72 = .ok (.iconst 0, 1) := by decide +kernel
theorem d1_73 : decode method_3_code 73 = .ok (.iload_n 1, 1) := by decide +kernel
theorem d1_74 : decode method_3_code 74 = .ok (.castore, 1) := by decide +kernel
theorem d1_75 : decode method_3_code 75 = .ok (.dup, 1) := by decide +kernel
theorem d1_76 : decode method_3_code 76 = .ok (.iconst 1, 1) := by decide +kernel
theorem d1_77 : decode method_3_code 77 = .ok (.iload_n 2, 1) := by decide +kernel
theorem d1_78 : decode method_3_code 78 = .ok (.castore, 1) := by decide +kernel
theorem d1_79 : decode method_3_code 79 = .ok (.dup, 1) := by decide +kernel
theorem d1_80 : decode method_3_code 80 = .ok (.iconst 2, 1) := by decide +kernel
theorem d1_81 : decode method_3_code 81 = .ok (.iload_n 3, 1) := by decide +kernel
theorem d1_82 : decode method_3_code 82 = .ok (.castore, 1) := by decide +kernel
theorem d1_83 : decode method_3_code 83 = .ok (.invokespecial 57, 3) := by decide +kernel
theorem d1_86 : decode method_3_code 86 = .ok (.areturn, 1) := by decide +kernel
theorem d1_87 : decode method_3_code 87 = .ok (.new 14, 3) := by decide +kernel
theorem d1_90 : decode method_3_code 90 = .ok (.dup, 1) := by decide +kernel
theorem d1_91 : decode method_3_code 91 = .ok (.iconst 4, 1) := by decide +kernel
theorem d1_92 : decode method_3_code 92 = .ok (.newarray .char, 2) := by decide +kernel
theorem d1_94 : decode method_3_code 94 = .ok (.dup, 1) := by decide +kernel
theorem d1_95 : decode method_3_code 95 = .ok (.iconst 0, 1) := by decide +kernel
theorem d1_96 : decode method_3_code 96 = .ok (.iload_n 1, 1) := by decide +kernel
theorem d1_97 : decode method_3_code 97 = .ok (.castore, 1) := by decide +kernel
theorem d1_98 : decode method_3_code 98 = .ok (.dup, 1) := by decide +kernel
theorem d1_99 : decode method_3_code 99 = .ok (.iconst 1, 1) := by decide +kernel
theorem d1_100 : decode method_3_code 100 = .ok (.iload_n 2, 1) := by decide +kernel
theorem d1_101 : decode method_3_code 101 = .ok (.castore, 1) := by decide +kernel
theorem d1_102 : decode method_3_code 102 = .ok (.dup, 1) := by decide +kernel
theorem d1_103 : decode method_3_code 103 = .ok (.iconst 2, 1) := by decide +kernel
theorem d1_104 : decode method_3_code 104 = .ok (.iload_n 3, 1) := by decide +kernel
theorem d1_105 : decode method_3_code 105 = .ok (.castore, 1) := by decide +kernel
theorem d1_106 : decode method_3_code 106 = .ok (.dup, 1) := by decide +kernel
theorem d1_107 : decode method_3_code 107 = .ok (.iconst 3, 1) := by decide +kernel
theorem d1_108 : decode method_3_code 108 = .ok (.iload 4, 2) := by decide +kernel
theorem d1_110 : decode method_3_code 110 = .ok (.castore, 1) := by decide +kernel
theorem d1_111 : decode method_3_code 111 = .ok (.invokespecial 57, 3) := by decide +kernel
theorem d1_114 : decode method_3_code 114 = .ok (.areturn, 1) := by decide +kernel
theorem d2_0 : decode jdk_42_method_3_code 0 = .ok (.aload_n 0, 1) := by decide +kernel
theorem d2_1 : decode jdk_42_method_3_code 1 = .ok (.aload_n 1, 1) := by decide +kernel
theorem d2_2 : decode jdk_42_method_3_code 2 = .ok (.iconst 0, 1) := by decide +kernel
theorem d2_3 : decode jdk_42_method_3_code 3 = .ok (.aload_n 1, 1) := by decide +kernel
theorem d2_4 : decode jdk_42_method_3_code 4 = .ok (.arraylength, 1) := by decide +kernel
theorem d2_5 : decode jdk_42_method_3_code 5 = .ok (.aconst_null, 1) := by decide +kernel
theorem d2_6 : decode jdk_42_method_3_code 6 = .ok (.invokespecial 27, 3) := by decide +kernel
theorem d2_9 : decode jdk_42_method_3_code 9 = .ok (.return_, 1) := by decide +kernel
theorem d3_0 : decode jdk_42_method_149_code 0 = .ok (.aload_n 0, 1) := by decide +kernel
theorem d3_1 : decode jdk_42_method_149_code 1 = .ok (.invokespecial 1, 3) := by decide +kernel
theorem d3_4 : decode jdk_42_method_149_code 4 = .ok (.iload_n 3, 1) := by decide +kernel
theorem d3_5 : decode jdk_42_method_149_code 5 = .ok (.ifCond .ne 22, 3) := by decide +kernel
theorem d3_8 : decode jdk_42_method_149_code 8 = .ok (.aload_n 0, 1) := by decide +kernel
theorem d3_9 : decode jdk_42_method_149_code 9 = .ok (.ldc 7, 2) := by decide +kernel
theorem d3_11 : decode jdk_42_method_149_code 11 = .ok (.getfield 9, 3) := by decide +kernel
theorem d3_14 : decode jdk_42_method_149_code 14 = .ok (.putfield 9, 3) := by decide +kernel
theorem d3_17 : decode jdk_42_method_149_code 17 = .ok (.aload_n 0, 1) := by decide +kernel
theorem d3_18 : decode jdk_42_method_149_code 18 = .ok (.ldc 7, 2) := by decide +kernel
theorem d3_20 : decode jdk_42_method_149_code 20 = .ok (.getfield 15, 3) := by decide +kernel
theorem d3_23 : decode jdk_42_method_149_code 23 = .ok (.putfield 15, 3) := by decide +kernel
theorem d3_26 : decode jdk_42_method_149_code 26 = .ok (.return_, 1) := by decide +kernel
theorem d8_0 : decode jdk_42_method_139_code 0 = .ok (.getstatic 38, 3) := by decide +kernel
theorem d8_3 : decode jdk_42_method_139_code 3 = .ok (.ifCond .eq 23, 3) := by decide +kernel
theorem d8_6 : decode jdk_42_method_139_code 6 = .ok (.iload_n 0, 1) := by decide +kernel
theorem d8_7 : decode jdk_42_method_139_code 7 = .ok (.invokestatic 1015, 3) := by decide +kernel
theorem d8_10 : decode jdk_42_method_139_code 10 = .ok (.ifCond .eq 16, 3) := by decide +kernel
theorem d8_13 : decode jdk_42_method_139_code 13 = .ok (.new 10, 3) := by decide +kernel
theorem d8_16 : decode jdk_42_method_139_code 16 = .ok (.dup, 1) := by decide +kernel
theorem d8_17 : decode jdk_42_method_139_code 17 = .ok (.iload_n 0, 1) := by decide +kernel
theorem d8_18 : decode jdk_42_method_139_code 18 = .ok (.invokestatic 1018, 3) := by decide +kernel
theorem d8_21 : decode jdk_42_method_139_code 21 = .ok (.iconst 0, 1) := by decide +kernel
theorem d8_22 : decode jdk_42_method_139_code 22 = .ok (.invokespecial 209, 3) := by decide +kernel
theorem d8_25 : decode jdk_42_method_139_code 25 = .ok (.areturn, 1) := by decide +kernel
theorem d9_0 : decode jdk_43_method_3_code 0 = .ok (.iload_n 0, 1) := by decide +kernel
theorem d9_1 : decode jdk_43_method_3_code 1 = .ok (.sipush 255, 3) := by decide +kernel
theorem d9_4 : decode jdk_43_method_3_code 4 = .ok (.if_icmp .gt 7, 3) := by decide +kernel
theorem d9_7 : decode jdk_43_method_3_code 7 = .ok (.iconst 1, 1) := by decide +kernel
theorem d9_8 : decode jdk_43_method_3_code 8 = .ok (.goto 4, 3) := by decide +kernel
theorem d9_12 : decode jdk_43_method_3_code 12 = .ok (.ireturn, 1) := by decide +kernel
theorem d10_0 : decode jdk_43_method_46_code 0 = .ok (.iconst 1, 1) := by decide +kernel
theorem d10_1 : decode jdk_43_method_46_code 1 = .ok (.newarray .byte, 2) := by decide +kernel
theorem d10_3 : decode jdk_43_method_46_code 3 = .ok (.dup, 1) := by decide +kernel
theorem d10_4 : decode jdk_43_method_46_code 4 = .ok (.iconst 0, 1) := by decide +kernel
theorem d10_5 : decode jdk_43_method_46_code 5 = .ok (.iload_n 0, 1) := by decide +kernel
theorem d10_6 : decode jdk_43_method_46_code 6 = .ok (.i2b, 1) := by decide +kernel
theorem d10_7 : decode jdk_43_method_46_code 7 = .ok (.bastore, 1) := by decide +kernel
theorem d10_8 : decode jdk_43_method_46_code 8 = .ok (.areturn, 1) := by decide +kernel
theorem d11_0 : decode jdk_42_method_151_code 0 = .ok (.aload_n 0, 1) := by decide +kernel
theorem d11_1 : decode jdk_42_method_151_code 1 = .ok (.invokespecial 1, 3) := by decide +kernel
theorem d11_4 : decode jdk_42_method_151_code 4 = .ok (.aload_n 0, 1) := by decide +kernel
theorem d11_5 : decode jdk_42_method_151_code 5 = .ok (.aload_n 1, 1) := by decide +kernel
theorem d11_6 : decode jdk_42_method_151_code 6 = .ok (.putfield 9, 3) := by decide +kernel
theorem d11_9 : decode jdk_42_method_151_code 9 = .ok (.aload_n 0, 1) := by decide +kernel
theorem d11_10 : decode jdk_42_method_151_code 10 = .ok (.iload_n 2, 1) := by decide +kernel
theorem d11_11 : decode jdk_42_method_151_code 11 = .ok (.putfield 15, 3) := by decide +kernel
theorem d11_14 : decode jdk_42_method_151_code 14 = .ok (.return_, 1) := by decide +kernel
theorem d12_0 : decode jdk_38_method_2_code 0 = .ok (.aload_n 0, 1) := by decide +kernel
theorem d12_1 : decode jdk_38_method_2_code 1 = .ok (.invokespecial 1, 3) := by decide +kernel
theorem d12_4 : decode jdk_38_method_2_code 4 = .ok (.aload_n 0, 1) := by decide +kernel
theorem d12_5 : decode jdk_38_method_2_code 5 = .ok (.getstatic 39, 3) := by decide +kernel
theorem d12_8 : decode jdk_38_method_2_code 8 = .ok (.putfield 9, 3) := by decide +kernel
theorem d12_11 : decode jdk_38_method_2_code 11 = .ok (.return_, 1) := by decide +kernel
theorem d13_0 : decode jdk_39_method_1_code 0 = .ok (.aload_n 0, 1) := by decide +kernel
theorem d13_1 : decode jdk_39_method_1_code 1 = .ok (.invokespecial 1, 3) := by decide +kernel
theorem d13_4 : decode jdk_39_method_1_code 4 = .ok (.aload_n 0, 1) := by decide +kernel
theorem d13_5 : decode jdk_39_method_1_code 5 = .ok (.iconst 0, 1) := by decide +kernel
theorem d13_6 : decode jdk_39_method_1_code 6 = .ok (.putfield 7, 3) := by decide +kernel
theorem d13_9 : decode jdk_39_method_1_code 9 = .ok (.return_, 1) := by decide +kernel
theorem d14_0 : decode jdk_22_method_1_code 0 = .ok (.aload_n 0, 1) := by decide +kernel
theorem d14_1 : decode jdk_22_method_1_code 1 = .ok (.invokespecial 1, 3) := by decide +kernel
theorem d14_4 : decode jdk_22_method_1_code 4 = .ok (.return_, 1) := by decide +kernel
theorem d15_0 : decode prog_22_method_2_code 0 = .ok (.new 8, 3) := by decide +kernel
theorem d15_3 : decode prog_22_method_2_code 3 = .ok (.dup, 1) := by decide +kernel
theorem d15_4 : decode prog_22_method_2_code 4 = .ok (.aload_n 0, 1) := by decide +kernel
theorem d15_5 : decode prog_22_method_2_code 5 = .ok (.invokedynamic 17, 5) := by decide +kernel
theorem d15_10 : decode prog_22_method_2_code 10 = .ok (.invokespecial 21, 3) := by decide +kernel
theorem d15_13 : decode prog_22_method_2_code 13 = .ok (.areturn, 1) := by decide +kernel
theorem d16_0 : decode prog_22_method_1_code 0 = .ok (.aload_n 0, 1) := by decide +kernel
theorem d16_1 : decode prog_22_method_1_code 1 = .ok (.invokespecial 1, 3) := by decide +kernel
theorem d16_4 : decode prog_22_method_1_code 4 = .ok (.aload_n 0, 1) := by decide +kernel
theorem d16_5 : decode prog_22_method_1_code 5 = .ok (.aload_n 1, 1) := by decide +kernel
theorem d16_6 : decode prog_22_method_1_code 6 = .ok (.putfield 7, 3) := by decide +kernel
theorem d16_9 : decode prog_22_method_1_code 9 = .ok (.aload_n 0, 1) := by decide +kernel
theorem d16_10 : decode prog_22_method_1_code 10 = .ok (.aload_n 2, 1) := by decide +kernel
theorem d16_11 : decode prog_22_method_1_code 11 = .ok (.putfield 13, 3) := by decide +kernel
theorem d16_14 : decode prog_22_method_1_code 14 = .ok (.return_, 1) := by decide +kernel
theorem d17_0 : decode jdk_30_method_1_code 0 = .ok (.aload_n 0, 1) := by decide +kernel
theorem d17_1 : decode jdk_30_method_1_code 1 = .ok (.invokespecial 1, 3) := by decide +kernel
theorem d17_4 : decode jdk_30_method_1_code 4 = .ok (.return_, 1) := by decide +kernel
theorem d18_0 : decode prog_22_method_7_code 0 = .ok (.aload_n 0, 1) := by decide +kernel
theorem d18_1 : decode prog_22_method_7_code 1 = .ok (.getfield 13, 3) := by decide +kernel
theorem d18_4 : decode prog_22_method_7_code 4 = .ok (.areturn, 1) := by decide +kernel
theorem d19_0 : decode prog_22_method_8_code 0 = .ok (.invokestatic 24, 3) := by decide +kernel
theorem d19_3 : decode prog_22_method_8_code 3 = .ok (.areturn, 1) := by decide +kernel
theorem d20_0 : decode jdk_2649_method_2_code 0 = .ok (.getstatic 17, 3) := by decide +kernel
theorem d20_3 : decode jdk_2649_method_2_code 3 = .ok (.areturn, 1) := by decide +kernel
theorem d21_0 : decode prog_22_method_6_code 0 = .ok (.aload_n 0, 1) := by decide +kernel
theorem d21_1 : decode prog_22_method_6_code 1 = .ok (.getfield 7, 3) := by decide +kernel
theorem d21_4 : decode prog_22_method_6_code 4 = .ok (.areturn, 1) := by decide +kernel
theorem d24_0 : decode jdk_2649_method_6_code 0 = .ok (.aload_n 0, 1) := by decide +kernel
theorem d24_1 : decode jdk_2649_method_6_code 1 = .ok (.getfield 7, 3) := by decide +kernel
theorem d24_4 : decode jdk_2649_method_6_code 4 = .ok (.ireturn, 1) := by decide +kernel
theorem d25_0 : decode jdk_38_method_25_code 0 = .ok (.aload_n 0, 1) := by decide +kernel
theorem d25_1 : decode jdk_38_method_25_code 1 = .ok (.dup, 1) := by decide +kernel
theorem d25_2 : decode jdk_38_method_25_code 2 = .ok (.getfield 63, 3) := by decide +kernel
theorem d25_5 : decode jdk_38_method_25_code 5 = .ok (.iconst 1, 1) := by decide +kernel
theorem d25_6 : decode jdk_38_method_25_code 6 = .ok (.iadd, 1) := by decide +kernel
theorem d25_7 : decode jdk_38_method_25_code 7 = .ok (.putfield 63, 3) := by decide +kernel
theorem d25_10 : decode jdk_38_method_25_code 10 = .ok (.aload_n 0, 1) := by decide +kernel
theorem d25_11 : decode jdk_38_method_25_code 11 = .ok (.aload_n 1, 1) := by decide +kernel
theorem d25_12 : decode jdk_38_method_25_code 12 = .ok (.aload_n 0, 1) := by decide +kernel
theorem d25_13 : decode jdk_38_method_25_code 13 = .ok (.getfield 9, 3) := by decide +kernel
theorem d25_16 : decode jdk_38_method_25_code 16 = .ok (.aload_n 0, 1) := by decide +kernel
theorem d25_17 : decode jdk_38_method_25_code 17 = .ok (.getfield 48, 3) := by decide +kernel
theorem d25_20 : decode jdk_38_method_25_code 20 = .ok (.invokevirtual 131, 3) := by decide +kernel
theorem d25_23 : decode jdk_38_method_25_code 23 = .ok (.iconst 1, 1) := by decide +kernel
theorem d25_24 : decode jdk_38_method_25_code 24 = .ok (.ireturn, 1) := by decide +kernel
theorem d26_0 : decode jdk_38_method_24_code 0 = .ok (.iload_n 3, 1) := by decide +kernel
theorem d26_1 : decode jdk_38_method_24_code 1 = .ok (.aload_n 2, 1) := by decide +kernel
theorem d26_2 : decode jdk_38_method_24_code 2 = .ok (.arraylength, 1) := by decide +kernel
theorem d26_3 : decode jdk_38_method_24_code 3 = .ok (.if_icmp .ne 8, 3) := by decide +kernel
theorem d26_6 : decode jdk_38_method_24_code 6 = .ok (.aload_n 0, 1) := by decide +kernel
theorem d26_7 : decode jdk_38_method_24_code 7 = .ok (.invokevirtual 129, 3) := by decide +kernel
theorem d26_10 : decode jdk_38_method_24_code 10 = .ok (.astore_n 2, 1) := by decide +kernel
theorem d26_11 : decode jdk_38_method_24_code 11 = .ok (.aload_n 2, 1) := by decide +kernel
theorem d26_12 : decode jdk_38_method_24_code 12 = .ok (.iload_n 3, 1) := by decide +kernel
theorem d26_13 : decode jdk_38_method_24_code 13 = .ok (.aload_n 1, 1) := by decide +kernel
theorem d26_14 : decode jdk_38_method_24_code 14 = .ok (.aastore, 1) := by decide +kernel
theorem d26_15 : decode jdk_38_method_24_code 15 = .ok (.aload_n 0, 1) := by decide +kernel
theorem d26_16 : decode jdk_38_method_24_code 16 = .ok (.iload_n 3, 1) := by decide +kernel
theorem d26_17 : decode jdk_38_method_24_code 17 = .ok (.iconst 1, 1) := by decide +kernel
theorem d26_18 : decode jdk_38_method_24_code 18 = .ok (.iadd, 1) := by decide +kernel
theorem d26_19 : decode jdk_38_method_24_code 19 = .ok (.putfield 48, 3) := by decide +kernel
theorem d26_22 : decode jdk_38_method_24_code 22 = .ok (.return_, 1) := by decide +kernel
theorem d27_0 : decode jdk_38_method_7_code 0 = .ok (.aload_n 0, 1) := by decide +kernel
theorem d27_1 : decode jdk_38_method_7_code 1 = .ok (.aload_n 0, 1) := by decide +kernel
theorem d27_2 : decode jdk_38_method_7_code 2 = .ok (.getfield 48, 3) := by decide +kernel
theorem d27_5 : decode jdk_38_method_7_code 5 = .ok (.iconst 1, 1) := by decide +kernel
theorem d27_6 : decode jdk_38_method_7_code 6 = .ok (.iadd, 1) := by decide +kernel
theorem d27_7 : decode jdk_38_method_7_code 7 = .ok (.invokevirtual 69, 3) := by decide +kernel
theorem d27_10 : decode jdk_38_method_7_code 10 = .ok (.areturn, 1) := by decide +kernel
theorem d28_0 : decode jdk_38_method_6_code 0 = .ok (.aload_n 0, 1) := by decide +kernel
theorem d28_1 : decode jdk_38_method_6_code 1 = .ok (.getfield 9, 3) := by decide +kernel
theorem d28_4 : decode jdk_38_method_6_code 4 = .ok (.arraylength, 1) := by decide +kernel
theorem d28_5 : decode jdk_38_method_6_code 5 = .ok (.istore_n 2, 1) := by decide +kernel
theorem d28_6 : decode jdk_38_method_6_code 6 = .ok (.iload_n 2, 1) := by decide +kernel
theorem d28_7 : decode jdk_38_method_6_code 7 = .ok (.ifCond .gt 13, 3) := by decide +kernel
theorem d28_10 : decode jdk_38_method_6_code 10 = .ok (.aload_n 0, 1) := by decide +kernel
theorem d28_11 : decode jdk_38_method_6_code 11 = .ok (.getfield 9, 3) := by decide +kernel
theorem d28_14 : decode jdk_38_method_6_code 14 = .ok (.getstatic 39, 3) := by decide +kernel
theorem d28_17 : decode jdk_38_method_6_code 17 = .ok (.if_acmp .eq 28, 3) := by decide +kernel
theorem d28_45 : decode jdk_38_method_6_code 45 = .ok (.aload_n 0, 1) := by decide +kernel
theorem d28_46 : decode jdk_38_method_6_code 46 = .ok (.bipush 10, 2) := by decide +kernel
theorem d28_48 : decode jdk_38_method_6_code 48 = .ok (.iload_n 1, 1) := by decide +kernel
theorem d28_49 : decode jdk_38_method_6_code 49 = .ok (.invokestatic 79, 3) := by decide +kernel
theorem d28_52 : decode jdk_38_method_6_code 52 = .ok (.anewarray 7, 3) := by decide +kernel
theorem d28_55 : decode jdk_38_method_6_code 55 = .ok (.dup_x1, 1) := by decide +kernel
theorem d28_56 : decode jdk_38_method_6_code 56 = .ok (.putfield 9, 3) := by decide +kernel
theorem d28_59 : decode jdk_38_method_6_code 59 = .ok (.areturn, 1) := by decide +kernel
theorem d29_0 : decode jdk_29_method_65_code 0 = .ok (.iload_n 0, 1) := by decide +kernel
theorem d29_1 : decode jdk_29_method_65_code 1 = .ok (.iload_n 1, 1) := by decide +kernel
theorem d29_2 : decode jdk_29_method_65_code 2 = .ok (.if_icmp .lt 7, 3) := by decide +kernel
theorem d29_5 : decode jdk_29_method_65_code 5 = .ok (.iload_n 0, 1) := by decide +kernel
theorem d29_6 : decode jdk_29_method_65_code 6 = .ok (.goto 4, 3) := by decide +kernel
theorem d29_10 : decode jdk_29_method_65_code 10 = .ok (.ireturn, 1) := by decide +kernel
theorem pn_0 : plainName "java/lang/String" = true := by first | (simp [plainName, overriddenIn]; done) | decide +kernel
theorem pn_1 : plainName "java/lang/StringLatin1" = true := by first | (simp [plainName, overriddenIn]; done) | decide +kernel
theorem pn_2 : plainName "java/lang/Record" = true := by first | (simp [plainName, overriddenIn]; done) | decide +kernel
theorem pn_3 : plainName "java/util/AbstractCollection" = true := by first | (simp [plainName, overriddenIn]; done) | decide +kernel
theorem pn_4 : plainName "java/util/AbstractList" = true := by first | (simp [plainName, overriddenIn]; done) | decide +kernel
theorem pn_5 : plainName "java/util/ArrayList" = true := by first | (simp [plainName, overriddenIn]; done) | decide +kernel
theorem pn_6 : plainFor (⟨"java/lang/Math", "max", "(II)I"⟩ : MethodName) = true := by decide +kernel
theorem pn_7 : plainName "com/example/indexwerk/indexwerk/engine/OriginOfPinLaw" = true := by first | (simp [plainName, overriddenIn]; done) | decide +kernel
theorem pn_8 : plainName "com/example/indexwerk/indexwerk/engine/TargetLimits$Origin" = true := by first | (simp [plainName, overriddenIn]; done) | decide +kernel
theorem pn_9 : plainName "java/util/OptionalInt" = true := by first | (simp [plainName, overriddenIn]; done) | decide +kernel
theorem pd_0 : parseMethodDescriptor "([CIILjava/lang/Void;)V" = some ⟨[(.array .char), .int, .int, (.object "java/lang/Void")], none⟩ := by decide +kernel
theorem pd_1 : parseMethodDescriptor "(C)Z" = some ⟨[.char], some .boolean⟩ := by decide +kernel
theorem pd_2 : parseMethodDescriptor "(C)[B" = some ⟨[.char], some (.array .byte)⟩ := by decide +kernel
theorem pd_3 : parseMethodDescriptor "([BB)V" = some ⟨[(.array .byte), .byte], none⟩ := by decide +kernel
theorem pd_4 : parseMethodDescriptor "()V" = some ⟨[], none⟩ := by decide +kernel
theorem pd_5 : parseMethodDescriptor "(II)I" = some ⟨[.int, .int], some .int⟩ := by decide +kernel
theorem pd_6 : parseMethodDescriptor "(I)[Ljava/lang/Object;" = some ⟨[.int], some (.array (.object "java/lang/Object"))⟩ := by decide +kernel
theorem pd_7 : parseMethodDescriptor "()[Ljava/lang/Object;" = some ⟨[], some (.array (.object "java/lang/Object"))⟩ := by decide +kernel
theorem pd_8 : parseMethodDescriptor "(Ljava/lang/Object;[Ljava/lang/Object;I)V" = some ⟨[(.object "java/lang/Object"), (.array (.object "java/lang/Object")), .int], none⟩ := by decide +kernel
theorem pd_9 : parseMethodDescriptor "([C)V" = some ⟨[(.array .char)], none⟩ := by decide +kernel
theorem pd_10 : parseMethodDescriptor "(Ljava/lang/String;Ljava/util/function/Function;)V" = some ⟨[(.object "java/lang/String"), (.object "java/util/function/Function")], none⟩ := by decide +kernel
theorem pd_11 : parseMethodDescriptor "()Ljava/util/OptionalInt;" = some ⟨[], some (.object "java/util/OptionalInt")⟩ := by decide +kernel
theorem pd_12 : parseMethodDescriptor "(ICCCC)Ljava/lang/String;" = some ⟨[.int, .char, .char, .char, .char], some (.object "java/lang/String")⟩ := by decide +kernel
theorem pd_13 : parseMethodDescriptor "(C)Ljava/lang/String;" = some ⟨[.char], some (.object "java/lang/String")⟩ := by decide +kernel
theorem pd_14 : parseMethodDescriptor "(Ljava/lang/String;)Lcom/example/indexwerk/indexwerk/engine/TargetLimits$Origin;" = some ⟨[(.object "java/lang/String")], some (.object "com/example/indexwerk/indexwerk/engine/TargetLimits$Origin")⟩ := by decide +kernel
theorem pd_15 : parseMethodDescriptor "()Ljava/util/function/Function;" = some ⟨[], some (.object "java/util/function/Function")⟩ := by decide +kernel
theorem pd_16 : parseMethodDescriptor "()Ljava/lang/String;" = some ⟨[], some (.object "java/lang/String")⟩ := by decide +kernel
theorem pd_17 : parseMethodDescriptor "(Ljava/lang/Object;)Z" = some ⟨[(.object "java/lang/Object")], some .boolean⟩ := by decide +kernel
theorem pd_18 : parseMethodDescriptor "()Z" = some ⟨[], some .boolean⟩ := by decide +kernel
theorem hw0 {Z : State} {a0 : Array Value} (hw : ∀ d ∈ tables_1, d.before a0 Z = true) : (Jvm.Cond.methodLink "com/example/indexwerk/indexwerk/engine/OriginOfPinLaw" (7 : Nat) ({ cls := "com/example/indexwerk/indexwerk/engine/OriginOfPinLaw", name := "text", desc := "(ICCCC)Ljava/lang/String;" } : Jvm.MethodName)).before a0 Z = true := hw _ (List.mem_of_getElem? (i := 0) rfl)
theorem hw1 {Z : State} {a0 : Array Value} (hw : ∀ d ∈ tables_1, d.before a0 Z = true) : (Jvm.Cond.static ({ cls := "com/example/indexwerk/indexwerk/engine/OriginOfPinLaw", name := "text", desc := "(ICCCC)Ljava/lang/String;" } : Jvm.MethodName)).before a0 Z = true := hw _ (List.mem_of_getElem? (i := 1) rfl)
theorem hw2 {Z : State} {a0 : Array Value} (hw : ∀ d ∈ tables_1, d.before a0 Z = true) : (Jvm.Cond.initialized "com/example/indexwerk/indexwerk/engine/OriginOfPinLaw").before a0 Z = true := hw _ (List.mem_of_getElem? (i := 2) rfl)
theorem hw3 {Z : State} {a0 : Array Value} (hw : ∀ d ∈ tables_1, d.before a0 Z = true) : (Jvm.Cond.code ({ cls := "com/example/indexwerk/indexwerk/engine/OriginOfPinLaw", name := "text", desc := "(ICCCC)Ljava/lang/String;" } : Jvm.MethodName) method_3_code (5 : Nat) (Option.some (Jvm.ClassFile.FieldType.object "java/lang/String"))).before a0 Z = true := hw _ (List.mem_of_getElem? (i := 3) rfl)
theorem hw4 {Z : State} {a0 : Array Value} (hw : ∀ d ∈ tables_1, d.before a0 Z = true) : (Jvm.Cond.classLink "com/example/indexwerk/indexwerk/engine/OriginOfPinLaw" (14 : Nat) "java/lang/String").before a0 Z = true := hw _ (List.mem_of_getElem? (i := 4) rfl)
theorem hw5 {Z : State} {a0 : Array Value} (hw : ∀ d ∈ tables_1, d.before a0 Z = true) : (Jvm.Cond.instantiable "java/lang/String" (4 : Nat)).before a0 Z = true := hw _ (List.mem_of_getElem? (i := 5) rfl)
theorem hw6 {Z : State} {a0 : Array Value} (hw : ∀ d ∈ tables_1, d.before a0 Z = true) : (Jvm.Cond.initialized "java/lang/String").before a0 Z = true := hw _ (List.mem_of_getElem? (i := 6) rfl)
theorem hw7 {Z : State} {a0 : Array Value} (hw : ∀ d ∈ tables_1, d.before a0 Z = true) : (Jvm.Cond.arrayClass Jvm.ClassFile.FieldType.char).before a0 Z = true := hw _ (List.mem_of_getElem? (i := 7) rfl)
theorem hw8 {Z : State} {a0 : Array Value} (hw : ∀ d ∈ tables_1, d.before a0 Z = true) : (Jvm.Cond.methodLink "com/example/indexwerk/indexwerk/engine/OriginOfPinLaw" (57 : Nat) ({ cls := "java/lang/String", name := "<init>", desc := "([C)V" } : Jvm.MethodName)).before a0 Z = true := hw _ (List.mem_of_getElem? (i := 8) rfl)
theorem hw9 {Z : State} {a0 : Array Value} (hw : ∀ d ∈ tables_1, d.before a0 Z = true) : (Jvm.Cond.instanceMethod ({ cls := "java/lang/String", name := "<init>", desc := "([C)V" } : Jvm.MethodName)).before a0 Z = true := hw _ (List.mem_of_getElem? (i := 9) rfl)
theorem hw10 {Z : State} {a0 : Array Value} (hw : ∀ d ∈ tables_1, d.before a0 Z = true) : (Jvm.Cond.code ({ cls := "java/lang/String", name := "<init>", desc := "([C)V" } : Jvm.MethodName) jdk_42_method_3_code (2 : Nat) (Option.none : Option Jvm.ClassFile.FieldType)).before a0 Z = true := hw _ (List.mem_of_getElem? (i := 10) rfl)
theorem hw11 {Z : State} {a0 : Array Value} (hw : ∀ d ∈ tables_1, d.before a0 Z = true) : (Jvm.Cond.methodLink "java/lang/String" (27 : Nat) ({ cls := "java/lang/String", name := "<init>", desc := "([CIILjava/lang/Void;)V" } : Jvm.MethodName)).before a0 Z = true := hw _ (List.mem_of_getElem? (i := 11) rfl)
theorem hw12 {Z : State} {a0 : Array Value} (hw : ∀ d ∈ tables_1, d.before a0 Z = true) : (Jvm.Cond.instanceMethod ({ cls := "java/lang/String", name := "<init>", desc := "([CIILjava/lang/Void;)V" } : Jvm.MethodName)).before a0 Z = true := hw _ (List.mem_of_getElem? (i := 12) rfl)
theorem hw14 {Z : State} {a0 : Array Value} (hw : ∀ d ∈ tables_1, d.before a0 Z = true) : (Jvm.Cond.code ({ cls := "java/lang/String", name := "<init>", desc := "([CIILjava/lang/Void;)V" } : Jvm.MethodName) jdk_42_method_149_code (6 : Nat) (Option.none : Option Jvm.ClassFile.FieldType)).before a0 Z = true := hw _ (List.mem_of_getElem? (i := 14) rfl)
theorem hw15 {Z : State} {a0 : Array Value} (hw : ∀ d ∈ tables_1, d.before a0 Z = true) : (Jvm.Cond.methodLink "java/lang/String" (1 : Nat) ({ cls := "java/lang/Object", name := "<init>", desc := "()V" } : Jvm.MethodName)).before a0 Z = true := hw _ (List.mem_of_getElem? (i := 15) rfl)
theorem hw16 {Z : State} {a0 : Array Value} (hw : ∀ d ∈ tables_1, d.before a0 Z = true) : (Jvm.Cond.instanceMethod ({ cls := "java/lang/Object", name := "<init>", desc := "()V" } : Jvm.MethodName)).before a0 Z = true := hw _ (List.mem_of_getElem? (i := 16) rfl)
theorem hw17 {Z : State} {a0 : Array Value} (hw : ∀ d ∈ tables_1, d.before a0 Z = true) : (Jvm.Cond.code ({ cls := "java/lang/Object", name := "<init>", desc := "()V" } : Jvm.MethodName) object_method_1_code (1 : Nat) (Option.none : Option Jvm.ClassFile.FieldType)).before a0 Z = true := hw _ (List.mem_of_getElem? (i := 17) rfl)
theorem hw18 {Z : State} {a0 : Array Value} (hw : ∀ d ∈ tables_1, d.before a0 Z = true) : (Jvm.Cond.fieldLink "java/lang/String" (38 : Nat) "java/lang/String" "COMPACT_STRINGS" "Z").before a0 Z = true := hw _ (List.mem_of_getElem? (i := 18) rfl)
theorem hw23 {Z : State} {a0 : Array Value} (hw : ∀ d ∈ tables_1, d.before a0 Z = true) : (Jvm.Cond.arrayClass Jvm.ClassFile.FieldType.byte).before a0 Z = true := hw _ (List.mem_of_getElem? (i := 23) rfl)
theorem hw30 {Z : State} {a0 : Array Value} (hw : ∀ d ∈ tables_1, d.before a0 Z = true) : (Jvm.Cond.fieldLink "java/lang/String" (15 : Nat) "java/lang/String" "coder" "B").before a0 Z = true := hw _ (List.mem_of_getElem? (i := 30) rfl)
theorem hw31 {Z : State} {a0 : Array Value} (hw : ∀ d ∈ tables_1, d.before a0 Z = true) : (Jvm.Cond.laysFinal "java/lang/String" "java/lang/String" "coder" "B").before a0 Z = true := hw _ (List.mem_of_getElem? (i := 31) rfl)
theorem hw32 {Z : State} {a0 : Array Value} (hw : ∀ d ∈ tables_1, d.before a0 Z = true) : (Jvm.Cond.fieldLink "java/lang/String" (9 : Nat) "java/lang/String" "value" "[B").before a0 Z = true := hw _ (List.mem_of_getElem? (i := 32) rfl)
theorem hw33 {Z : State} {a0 : Array Value} (hw : ∀ d ∈ tables_1, d.before a0 Z = true) : (Jvm.Cond.laysFinal "java/lang/String" "java/lang/String" "value" "[B").before a0 Z = true := hw _ (List.mem_of_getElem? (i := 33) rfl)
theorem hw34 {Z : State} {a0 : Array Value} (hw : ∀ d ∈ tables_1, d.before a0 Z = true) : (Jvm.Cond.methodLink "com/example/indexwerk/indexwerk/engine/OriginOfPinLaw" (13 : Nat) ({ cls := "java/lang/String", name := "valueOf", desc := "(C)Ljava/lang/String;" } : Jvm.MethodName)).before a0 Z = true := hw _ (List.mem_of_getElem? (i := 34) rfl)
theorem hw35 {Z : State} {a0 : Array Value} (hw : ∀ d ∈ tables_1, d.before a0 Z = true) : (Jvm.Cond.static ({ cls := "java/lang/String", name := "valueOf", desc := "(C)Ljava/lang/String;" } : Jvm.MethodName)).before a0 Z = true := hw _ (List.mem_of_getElem? (i := 35) rfl)
theorem hw36 {Z : State} {a0 : Array Value} (hw : ∀ d ∈ tables_1, d.before a0 Z = true) : (Jvm.Cond.code ({ cls := "java/lang/String", name := "valueOf", desc := "(C)Ljava/lang/String;" } : Jvm.MethodName) jdk_42_method_139_code (1 : Nat) (Option.some (Jvm.ClassFile.FieldType.object "java/lang/String"))).before a0 Z = true := hw _ (List.mem_of_getElem? (i := 36) rfl)
theorem hw37 {Z : State} {a0 : Array Value} (hw : ∀ d ∈ tables_1, d.before a0 Z = true) : (Jvm.Cond.methodLink "java/lang/String" (1015 : Nat) ({ cls := "java/lang/StringLatin1", name := "canEncode", desc := "(C)Z" } : Jvm.MethodName)).before a0 Z = true := hw _ (List.mem_of_getElem? (i := 37) rfl)
theorem hw38 {Z : State} {a0 : Array Value} (hw : ∀ d ∈ tables_1, d.before a0 Z = true) : (Jvm.Cond.static ({ cls := "java/lang/StringLatin1", name := "canEncode", desc := "(C)Z" } : Jvm.MethodName)).before a0 Z = true := hw _ (List.mem_of_getElem? (i := 38) rfl)
theorem hw39 {Z : State} {a0 : Array Value} (hw : ∀ d ∈ tables_1, d.before a0 Z = true) : (Jvm.Cond.initialized "java/lang/StringLatin1").before a0 Z = true := hw _ (List.mem_of_getElem? (i := 39) rfl)
theorem hw40 {Z : State} {a0 : Array Value} (hw : ∀ d ∈ tables_1, d.before a0 Z = true) : (Jvm.Cond.code ({ cls := "java/lang/StringLatin1", name := "canEncode", desc := "(C)Z" } : Jvm.MethodName) jdk_43_method_3_code (1 : Nat) (Option.some Jvm.ClassFile.FieldType.boolean)).before a0 Z = true := hw _ (List.mem_of_getElem? (i := 40) rfl)
theorem hw41 {Z : State} {a0 : Array Value} (hw : ∀ d ∈ tables_1, d.before a0 Z = true) : (Jvm.Cond.classLink "java/lang/String" (10 : Nat) "java/lang/String").before a0 Z = true := hw _ (List.mem_of_getElem? (i := 41) rfl)
theorem hw42 {Z : State} {a0 : Array Value} (hw : ∀ d ∈ tables_1, d.before a0 Z = true) : (Jvm.Cond.methodLink "java/lang/String" (1018 : Nat) ({ cls := "java/lang/StringLatin1", name := "toBytes", desc := "(C)[B" } : Jvm.MethodName)).before a0 Z = true := hw _ (List.mem_of_getElem? (i := 42) rfl)
theorem hw43 {Z : State} {a0 : Array Value} (hw : ∀ d ∈ tables_1, d.before a0 Z = true) : (Jvm.Cond.static ({ cls := "java/lang/StringLatin1", name := "toBytes", desc := "(C)[B" } : Jvm.MethodName)).before a0 Z = true := hw _ (List.mem_of_getElem? (i := 43) rfl)
theorem hw44 {Z : State} {a0 : Array Value} (hw : ∀ d ∈ tables_1, d.before a0 Z = true) : (Jvm.Cond.code ({ cls := "java/lang/StringLatin1", name := "toBytes", desc := "(C)[B" } : Jvm.MethodName) jdk_43_method_46_code (1 : Nat) (Option.some (Jvm.ClassFile.FieldType.array Jvm.ClassFile.FieldType.byte))).before a0 Z = true := hw _ (List.mem_of_getElem? (i := 44) rfl)
theorem hw45 {Z : State} {a0 : Array Value} (hw : ∀ d ∈ tables_1, d.before a0 Z = true) : (Jvm.Cond.methodLink "java/lang/String" (209 : Nat) ({ cls := "java/lang/String", name := "<init>", desc := "([BB)V" } : Jvm.MethodName)).before a0 Z = true := hw _ (List.mem_of_getElem? (i := 45) rfl)
theorem hw46 {Z : State} {a0 : Array Value} (hw : ∀ d ∈ tables_1, d.before a0 Z = true) : (Jvm.Cond.instanceMethod ({ cls := "java/lang/String", name := "<init>", desc := "([BB)V" } : Jvm.MethodName)).before a0 Z = true := hw _ (List.mem_of_getElem? (i := 46) rfl)
theorem hw47 {Z : State} {a0 : Array Value} (hw : ∀ d ∈ tables_1, d.before a0 Z = true) : (Jvm.Cond.code ({ cls := "java/lang/String", name := "<init>", desc := "([BB)V" } : Jvm.MethodName) jdk_42_method_151_code (3 : Nat) (Option.none : Option Jvm.ClassFile.FieldType)).before a0 Z = true := hw _ (List.mem_of_getElem? (i := 47) rfl)
theorem hw48 {Z : State} {a0 : Array Value} (hw : ∀ d ∈ tables_1, d.before a0 Z = true) : (Jvm.Cond.classLink "com/example/indexwerk/indexwerk/engine/OriginOfPinLaw" (19 : Nat) "java/util/ArrayList").before a0 Z = true := hw _ (List.mem_of_getElem? (i := 48) rfl)
theorem hw49 {Z : State} {a0 : Array Value} (hw : ∀ d ∈ tables_1, d.before a0 Z = true) : (Jvm.Cond.instantiable "java/util/ArrayList" (3 : Nat)).before a0 Z = true := hw _ (List.mem_of_getElem? (i := 49) rfl)
theorem hw50 {Z : State} {a0 : Array Value} (hw : ∀ d ∈ tables_1, d.before a0 Z = true) : (Jvm.Cond.initialized "java/util/ArrayList").before a0 Z = true := hw _ (List.mem_of_getElem? (i := 50) rfl)
theorem hw51 {Z : State} {a0 : Array Value} (hw : ∀ d ∈ tables_1, d.before a0 Z = true) : (Jvm.Cond.methodLink "com/example/indexwerk/indexwerk/engine/OriginOfPinLaw" (21 : Nat) ({ cls := "java/util/ArrayList", name := "<init>", desc := "()V" } : Jvm.MethodName)).before a0 Z = true := hw _ (List.mem_of_getElem? (i := 51) rfl)
theorem hw52 {Z : State} {a0 : Array Value} (hw : ∀ d ∈ tables_1, d.before a0 Z = true) : (Jvm.Cond.instanceMethod ({ cls := "java/util/ArrayList", name := "<init>", desc := "()V" } : Jvm.MethodName)).before a0 Z = true := hw _ (List.mem_of_getElem? (i := 52) rfl)
theorem hw53 {Z : State} {a0 : Array Value} (hw : ∀ d ∈ tables_1, d.before a0 Z = true) : (Jvm.Cond.code ({ cls := "java/util/ArrayList", name := "<init>", desc := "()V" } : Jvm.MethodName) jdk_38_method_2_code (1 : Nat) (Option.none : Option Jvm.ClassFile.FieldType)).before a0 Z = true := hw _ (List.mem_of_getElem? (i := 53) rfl)
theorem hw54 {Z : State} {a0 : Array Value} (hw : ∀ d ∈ tables_1, d.before a0 Z = true) : (Jvm.Cond.methodLink "java/util/ArrayList" (1 : Nat) ({ cls := "java/util/AbstractList", name := "<init>", desc := "()V" } : Jvm.MethodName)).before a0 Z = true := hw _ (List.mem_of_getElem? (i := 54) rfl)
theorem hw55 {Z : State} {a0 : Array Value} (hw : ∀ d ∈ tables_1, d.before a0 Z = true) : (Jvm.Cond.instanceMethod ({ cls := "java/util/AbstractList", name := "<init>", desc := "()V" } : Jvm.MethodName)).before a0 Z = true := hw _ (List.mem_of_getElem? (i := 55) rfl)
theorem hw58 {Z : State} {a0 : Array Value} (hw : ∀ d ∈ tables_1, d.before a0 Z = true) : (Jvm.Cond.initialized "java/util/AbstractList").before a0 Z = true := hw _ (List.mem_of_getElem? (i := 58) rfl)
theorem hw59 {Z : State} {a0 : Array Value} (hw : ∀ d ∈ tables_1, d.before a0 Z = true) : (Jvm.Cond.code ({ cls := "java/util/AbstractList", name := "<init>", desc := "()V" } : Jvm.MethodName) jdk_39_method_1_code (1 : Nat) (Option.none : Option Jvm.ClassFile.FieldType)).before a0 Z = true := hw _ (List.mem_of_getElem? (i := 59) rfl)
theorem hw60 {Z : State} {a0 : Array Value} (hw : ∀ d ∈ tables_1, d.before a0 Z = true) : (Jvm.Cond.methodLink "java/util/AbstractList" (1 : Nat) ({ cls := "java/util/AbstractCollection", name := "<init>", desc := "()V" } : Jvm.MethodName)).before a0 Z = true := hw _ (List.mem_of_getElem? (i := 60) rfl)
theorem hw61 {Z : State} {a0 : Array Value} (hw : ∀ d ∈ tables_1, d.before a0 Z = true) : (Jvm.Cond.instanceMethod ({ cls := "java/util/AbstractCollection", name := "<init>", desc := "()V" } : Jvm.MethodName)).before a0 Z = true := hw _ (List.mem_of_getElem? (i := 61) rfl)
theorem hw64 {Z : State} {a0 : Array Value} (hw : ∀ d ∈ tables_1, d.before a0 Z = true) : (Jvm.Cond.initialized "java/util/AbstractCollection").before a0 Z = true := hw _ (List.mem_of_getElem? (i := 64) rfl)
theorem hw65 {Z : State} {a0 : Array Value} (hw : ∀ d ∈ tables_1, d.before a0 Z = true) : (Jvm.Cond.code ({ cls := "java/util/AbstractCollection", name := "<init>", desc := "()V" } : Jvm.MethodName) jdk_22_method_1_code (1 : Nat) (Option.none : Option Jvm.ClassFile.FieldType)).before a0 Z = true := hw _ (List.mem_of_getElem? (i := 65) rfl)
theorem hw66 {Z : State} {a0 : Array Value} (hw : ∀ d ∈ tables_1, d.before a0 Z = true) : (Jvm.Cond.methodLink "java/util/AbstractCollection" (1 : Nat) ({ cls := "java/lang/Object", name := "<init>", desc := "()V" } : Jvm.MethodName)).before a0 Z = true := hw _ (List.mem_of_getElem? (i := 66) rfl)
theorem hw67 {Z : State} {a0 : Array Value} (hw : ∀ d ∈ tables_1, d.before a0 Z = true) : (Jvm.Cond.fieldLink "java/util/AbstractList" (7 : Nat) "java/util/AbstractList" "modCount" "I").before a0 Z = true := hw _ (List.mem_of_getElem? (i := 67) rfl)
theorem hw68 {Z : State} {a0 : Array Value} (hw : ∀ d ∈ tables_1, d.before a0 Z = true) : (Jvm.Cond.lays "java/util/ArrayList" "java/util/AbstractList" "modCount" "I").before a0 Z = true := hw _ (List.mem_of_getElem? (i := 68) rfl)
theorem hw69 {Z : State} {a0 : Array Value} (hw : ∀ d ∈ tables_1, d.before a0 Z = true) : (Jvm.Cond.fieldLink "java/util/ArrayList" (39 : Nat) "java/util/ArrayList" "DEFAULTCAPACITY_EMPTY_ELEMENTDATA" "[Ljava/lang/Object;").before a0 Z = true := hw _ (List.mem_of_getElem? (i := 69) rfl)
theorem hw70 {Z : State} {a0 : Array Value} (hw : ∀ d ∈ tables_1, d.before a0 Z = true) : (Jvm.Cond.fieldLink "java/util/ArrayList" (9 : Nat) "java/util/ArrayList" "elementData" "[Ljava/lang/Object;").before a0 Z = true := hw _ (List.mem_of_getElem? (i := 70) rfl)
theorem hw71 {Z : State} {a0 : Array Value} (hw : ∀ d ∈ tables_1, d.before a0 Z = true) : (Jvm.Cond.lays "java/util/ArrayList" "java/util/ArrayList" "elementData" "[Ljava/lang/Object;").before a0 Z = true := hw _ (List.mem_of_getElem? (i := 71) rfl)
theorem hw72 {Z : State} {a0 : Array Value} (hw : ∀ d ∈ tables_1, d.before a0 Z = true) : (Jvm.Cond.methodLink "com/example/indexwerk/indexwerk/engine/OriginOfPinLaw" (28 : Nat) ({ cls := "com/example/indexwerk/indexwerk/engine/TargetLimits$Origin", name := "of", desc := "(Ljava/lang/String;)Lcom/example/indexwerk/indexwerk/engine/TargetLimits$Origin;" } : Jvm.MethodName)).before a0 Z = true := hw _ (List.mem_of_getElem? (i := 72) rfl)
theorem hw73 {Z : State} {a0 : Array Value} (hw : ∀ d ∈ tables_1, d.before a0 Z = true) : (Jvm.Cond.static ({ cls := "com/example/indexwerk/indexwerk/engine/TargetLimits$Origin", name := "of", desc := "(Ljava/lang/String;)Lcom/example/indexwerk/indexwerk/engine/TargetLimits$Origin;" } : Jvm.MethodName)).before a0 Z = true := hw _ (List.mem_of_getElem? (i := 73) rfl)
theorem hw74 {Z : State} {a0 : Array Value} (hw : ∀ d ∈ tables_1, d.before a0 Z = true) : (Jvm.Cond.initialized "com/example/indexwerk/indexwerk/engine/TargetLimits$Origin").before a0 Z = true := hw _ (List.mem_of_getElem? (i := 74) rfl)
theorem hw75 {Z : State} {a0 : Array Value} (hw : ∀ d ∈ tables_1, d.before a0 Z = true) : (Jvm.Cond.code ({ cls := "com/example/indexwerk/indexwerk/engine/TargetLimits$Origin", name := "of", desc := "(Ljava/lang/String;)Lcom/example/indexwerk/indexwerk/engine/TargetLimits$Origin;" } : Jvm.MethodName) prog_22_method_2_code (1 : Nat) (Option.some (Jvm.ClassFile.FieldType.object "com/example/indexwerk/indexwerk/engine/TargetLimits$Origin"))).before a0 Z = true := hw _ (List.mem_of_getElem? (i := 75) rfl)
theorem hw76 {Z : State} {a0 : Array Value} (hw : ∀ d ∈ tables_1, d.before a0 Z = true) : (Jvm.Cond.classLink "com/example/indexwerk/indexwerk/engine/TargetLimits$Origin" (8 : Nat) "com/example/indexwerk/indexwerk/engine/TargetLimits$Origin").before a0 Z = true := hw _ (List.mem_of_getElem? (i := 76) rfl)
theorem hw77 {Z : State} {a0 : Array Value} (hw : ∀ d ∈ tables_1, d.before a0 Z = true) : (Jvm.Cond.instantiable "com/example/indexwerk/indexwerk/engine/TargetLimits$Origin" (2 : Nat)).before a0 Z = true := hw _ (List.mem_of_getElem? (i := 77) rfl)
theorem hw78 {Z : State} {a0 : Array Value} (hw : ∀ d ∈ tables_1, d.before a0 Z = true) : (Jvm.Cond.lambdaSite ({ cls := "com/example/indexwerk/indexwerk/engine/TargetLimits$Origin", name := "of", desc := "(Ljava/lang/String;)Lcom/example/indexwerk/indexwerk/engine/TargetLimits$Origin;" } : Jvm.MethodName) (5 : Nat) (17 : Nat) (Jvm.Lambda.Shape.mk "java/util/function/Function" "apply" (Jvm.ClassFile.MethodDescriptor.mk ([(Jvm.ClassFile.FieldType.object "java/lang/Object")] : List Jvm.ClassFile.FieldType) (Option.some (Jvm.ClassFile.FieldType.object "java/lang/Object"))) ([] : List Jvm.ClassFile.FieldType) (6 : Nat) "com/example/indexwerk/indexwerk/engine/TargetLimits$Origin" "lambda$of$0" (Jvm.ClassFile.MethodDescriptor.mk ([(Jvm.ClassFile.FieldType.object "java/util/List")] : List Jvm.ClassFile.FieldType) (Option.some (Jvm.ClassFile.FieldType.object "java/util/OptionalInt"))) false (Jvm.ClassFile.MethodDescriptor.mk ([(Jvm.ClassFile.FieldType.object "java/util/List")] : List Jvm.ClassFile.FieldType) (Option.some (Jvm.ClassFile.FieldType.object "java/util/OptionalInt"))))).before a0 Z = true := hw _ (List.mem_of_getElem? (i := 78) rfl)
theorem hw81 {Z : State} {a0 : Array Value} (hw : ∀ d ∈ tables_1, d.before a0 Z = true) : (Jvm.Cond.methodLink "com/example/indexwerk/indexwerk/engine/TargetLimits$Origin" (21 : Nat) ({ cls := "com/example/indexwerk/indexwerk/engine/TargetLimits$Origin", name := "<init>", desc := "(Ljava/lang/String;Ljava/util/function/Function;)V" } : Jvm.MethodName)).before a0 Z = true := hw _ (List.mem_of_getElem? (i := 81) rfl)
theorem hw82 {Z : State} {a0 : Array Value} (hw : ∀ d ∈ tables_1, d.before a0 Z = true) : (Jvm.Cond.instanceMethod ({ cls := "com/example/indexwerk/indexwerk/engine/TargetLimits$Origin", name := "<init>", desc := "(Ljava/lang/String;Ljava/util/function/Function;)V" } : Jvm.MethodName)).before a0 Z = true := hw _ (List.mem_of_getElem? (i := 82) rfl)
theorem hw83 {Z : State} {a0 : Array Value} (hw : ∀ d ∈ tables_1, d.before a0 Z = true) : (Jvm.Cond.code ({ cls := "com/example/indexwerk/indexwerk/engine/TargetLimits$Origin", name := "<init>", desc := "(Ljava/lang/String;Ljava/util/function/Function;)V" } : Jvm.MethodName) prog_22_method_1_code (3 : Nat) (Option.none : Option Jvm.ClassFile.FieldType)).before a0 Z = true := hw _ (List.mem_of_getElem? (i := 83) rfl)
theorem hw84 {Z : State} {a0 : Array Value} (hw : ∀ d ∈ tables_1, d.before a0 Z = true) : (Jvm.Cond.methodLink "com/example/indexwerk/indexwerk/engine/TargetLimits$Origin" (1 : Nat) ({ cls := "java/lang/Record", name := "<init>", desc := "()V" } : Jvm.MethodName)).before a0 Z = true := hw _ (List.mem_of_getElem? (i := 84) rfl)
theorem hw85 {Z : State} {a0 : Array Value} (hw : ∀ d ∈ tables_1, d.before a0 Z = true) : (Jvm.Cond.instanceMethod ({ cls := "java/lang/Record", name := "<init>", desc := "()V" } : Jvm.MethodName)).before a0 Z = true := hw _ (List.mem_of_getElem? (i := 85) rfl)
theorem hw87 {Z : State} {a0 : Array Value} (hw : ∀ d ∈ tables_1, d.before a0 Z = true) : (Jvm.Cond.initialized "java/lang/Record").before a0 Z = true := hw _ (List.mem_of_getElem? (i := 87) rfl)
theorem hw88 {Z : State} {a0 : Array Value} (hw : ∀ d ∈ tables_1, d.before a0 Z = true) : (Jvm.Cond.code ({ cls := "java/lang/Record", name := "<init>", desc := "()V" } : Jvm.MethodName) jdk_30_method_1_code (1 : Nat) (Option.none : Option Jvm.ClassFile.FieldType)).before a0 Z = true := hw _ (List.mem_of_getElem? (i := 88) rfl)
theorem hw89 {Z : State} {a0 : Array Value} (hw : ∀ d ∈ tables_1, d.before a0 Z = true) : (Jvm.Cond.methodLink "java/lang/Record" (1 : Nat) ({ cls := "java/lang/Object", name := "<init>", desc := "()V" } : Jvm.MethodName)).before a0 Z = true := hw _ (List.mem_of_getElem? (i := 89) rfl)
theorem hw90 {Z : State} {a0 : Array Value} (hw : ∀ d ∈ tables_1, d.before a0 Z = true) : (Jvm.Cond.fieldLink "com/example/indexwerk/indexwerk/engine/TargetLimits$Origin" (7 : Nat) "com/example/indexwerk/indexwerk/engine/TargetLimits$Origin" "file" "Ljava/lang/String;").before a0 Z = true := hw _ (List.mem_of_getElem? (i := 90) rfl)
theorem hw91 {Z : State} {a0 : Array Value} (hw : ∀ d ∈ tables_1, d.before a0 Z = true) : (Jvm.Cond.laysFinal "com/example/indexwerk/indexwerk/engine/TargetLimits$Origin" "com/example/indexwerk/indexwerk/engine/TargetLimits$Origin" "file" "Ljava/lang/String;").before a0 Z = true := hw _ (List.mem_of_getElem? (i := 91) rfl)
theorem hw92 {Z : State} {a0 : Array Value} (hw : ∀ d ∈ tables_1, d.before a0 Z = true) : (Jvm.Cond.fieldLink "com/example/indexwerk/indexwerk/engine/TargetLimits$Origin" (13 : Nat) "com/example/indexwerk/indexwerk/engine/TargetLimits$Origin" "line" "Ljava/util/function/Function;").before a0 Z = true := hw _ (List.mem_of_getElem? (i := 92) rfl)
theorem hw93 {Z : State} {a0 : Array Value} (hw : ∀ d ∈ tables_1, d.before a0 Z = true) : (Jvm.Cond.laysFinal "com/example/indexwerk/indexwerk/engine/TargetLimits$Origin" "com/example/indexwerk/indexwerk/engine/TargetLimits$Origin" "line" "Ljava/util/function/Function;").before a0 Z = true := hw _ (List.mem_of_getElem? (i := 93) rfl)
theorem hw94 {Z : State} {a0 : Array Value} (hw : ∀ d ∈ tables_1, d.before a0 Z = true) : (Jvm.Cond.methodLink "com/example/indexwerk/indexwerk/engine/OriginOfPinLaw" (34 : Nat) ({ cls := "com/example/indexwerk/indexwerk/engine/TargetLimits$Origin", name := "line", desc := "()Ljava/util/function/Function;" } : Jvm.MethodName)).before a0 Z = true := hw _ (List.mem_of_getElem? (i := 94) rfl)
theorem hw95 {Z : State} {a0 : Array Value} (hw : ∀ d ∈ tables_1, d.before a0 Z = true) : (Jvm.Cond.declares ({ cls := "com/example/indexwerk/indexwerk/engine/TargetLimits$Origin", name := "line", desc := "()Ljava/util/function/Function;" } : Jvm.MethodName)).before a0 Z = true := hw _ (List.mem_of_getElem? (i := 95) rfl)
theorem hw96 {Z : State} {a0 : Array Value} (hw : ∀ d ∈ tables_1, d.before a0 Z = true) : (Jvm.Cond.instanceMethod ({ cls := "com/example/indexwerk/indexwerk/engine/TargetLimits$Origin", name := "line", desc := "()Ljava/util/function/Function;" } : Jvm.MethodName)).before a0 Z = true := hw _ (List.mem_of_getElem? (i := 96) rfl)
theorem hw97 {Z : State} {a0 : Array Value} (hw : ∀ d ∈ tables_1, d.before a0 Z = true) : (Jvm.Cond.selects "com/example/indexwerk/indexwerk/engine/TargetLimits$Origin" ({ cls := "com/example/indexwerk/indexwerk/engine/TargetLimits$Origin", name := "line", desc := "()Ljava/util/function/Function;" } : Jvm.MethodName) ({ cls := "com/example/indexwerk/indexwerk/engine/TargetLimits$Origin", name := "line", desc := "()Ljava/util/function/Function;" } : Jvm.MethodName)).before a0 Z = true := hw _ (List.mem_of_getElem? (i := 97) rfl)
theorem hw98 {Z : State} {a0 : Array Value} (hw : ∀ d ∈ tables_1, d.before a0 Z = true) : (Jvm.Cond.code ({ cls := "com/example/indexwerk/indexwerk/engine/TargetLimits$Origin", name := "line", desc := "()Ljava/util/function/Function;" } : Jvm.MethodName) prog_22_method_7_code (1 : Nat) (Option.some (Jvm.ClassFile.FieldType.object "java/util/function/Function"))).before a0 Z = true := hw _ (List.mem_of_getElem? (i := 98) rfl)
theorem hw99 {Z : State} {a0 : Array Value} (hw : ∀ d ∈ tables_1, d.before a0 Z = true) : (Jvm.Cond.methodLink "com/example/indexwerk/indexwerk/engine/OriginOfPinLaw" (38 : Nat) ({ cls := "java/util/function/Function", name := "apply", desc := "(Ljava/lang/Object;)Ljava/lang/Object;" } : Jvm.MethodName)).before a0 Z = true := hw _ (List.mem_of_getElem? (i := 99) rfl)
theorem hw100 {Z : State} {a0 : Array Value} (hw : ∀ d ∈ tables_1, d.before a0 Z = true) : (Jvm.Cond.declares ({ cls := "java/util/function/Function", name := "apply", desc := "(Ljava/lang/Object;)Ljava/lang/Object;" } : Jvm.MethodName)).before a0 Z = true := hw _ (List.mem_of_getElem? (i := 100) rfl)
theorem hw101 {Z : State} {a0 : Array Value} (hw : ∀ d ∈ tables_1, d.before a0 Z = true) : (Jvm.Cond.interfaceMethod "java/util/function/Function" "java/util/function/Function" "apply" "(Ljava/lang/Object;)Ljava/lang/Object;").before a0 Z = true := hw _ (List.mem_of_getElem? (i := 101) rfl)
theorem hw102 {Z : State} {a0 : Array Value} (hw : ∀ d ∈ tables_1, d.before a0 Z = true) : (Jvm.Cond.castable "java/util/ArrayList" "java/util/List").before a0 Z = true := hw _ (List.mem_of_getElem? (i := 102) rfl)
theorem hw103 {Z : State} {a0 : Array Value} (hw : ∀ d ∈ tables_1, d.before a0 Z = true) : (Jvm.Cond.static ({ cls := "com/example/indexwerk/indexwerk/engine/TargetLimits$Origin", name := "lambda$of$0", desc := "(Ljava/util/List;)Ljava/util/OptionalInt;" } : Jvm.MethodName)).before a0 Z = true := hw _ (List.mem_of_getElem? (i := 103) rfl)
theorem hw104 {Z : State} {a0 : Array Value} (hw : ∀ d ∈ tables_1, d.before a0 Z = true) : (Jvm.Cond.code ({ cls := "com/example/indexwerk/indexwerk/engine/TargetLimits$Origin", name := "lambda$of$0", desc := "(Ljava/util/List;)Ljava/util/OptionalInt;" } : Jvm.MethodName) prog_22_method_8_code (1 : Nat) (Option.some (Jvm.ClassFile.FieldType.object "java/util/OptionalInt"))).before a0 Z = true := hw _ (List.mem_of_getElem? (i := 104) rfl)
theorem hw105 {Z : State} {a0 : Array Value} (hw : ∀ d ∈ tables_1, d.before a0 Z = true) : (Jvm.Cond.methodLink "com/example/indexwerk/indexwerk/engine/TargetLimits$Origin" (24 : Nat) ({ cls := "java/util/OptionalInt", name := "empty", desc := "()Ljava/util/OptionalInt;" } : Jvm.MethodName)).before a0 Z = true := hw _ (List.mem_of_getElem? (i := 105) rfl)
theorem hw106 {Z : State} {a0 : Array Value} (hw : ∀ d ∈ tables_1, d.before a0 Z = true) : (Jvm.Cond.static ({ cls := "java/util/OptionalInt", name := "empty", desc := "()Ljava/util/OptionalInt;" } : Jvm.MethodName)).before a0 Z = true := hw _ (List.mem_of_getElem? (i := 106) rfl)
theorem hw107 {Z : State} {a0 : Array Value} (hw : ∀ d ∈ tables_1, d.before a0 Z = true) : (Jvm.Cond.initialized "java/util/OptionalInt").before a0 Z = true := hw _ (List.mem_of_getElem? (i := 107) rfl)
theorem hw108 {Z : State} {a0 : Array Value} (hw : ∀ d ∈ tables_1, d.before a0 Z = true) : (Jvm.Cond.code ({ cls := "java/util/OptionalInt", name := "empty", desc := "()Ljava/util/OptionalInt;" } : Jvm.MethodName) jdk_2649_method_2_code (0 : Nat) (Option.some (Jvm.ClassFile.FieldType.object "java/util/OptionalInt"))).before a0 Z = true := hw _ (List.mem_of_getElem? (i := 108) rfl)
theorem hw109 {Z : State} {a0 : Array Value} (hw : ∀ d ∈ tables_1, d.before a0 Z = true) : (Jvm.Cond.fieldLink "java/util/OptionalInt" (17 : Nat) "java/util/OptionalInt" "EMPTY" "Ljava/util/OptionalInt;").before a0 Z = true := hw _ (List.mem_of_getElem? (i := 109) rfl)
theorem hw110 {Z : State} {a0 : Array Value} (hw : ∀ d ∈ tables_1, d.before a0 Z = true) : (Jvm.Cond.classLink "com/example/indexwerk/indexwerk/engine/OriginOfPinLaw" (44 : Nat) "java/util/OptionalInt").before a0 Z = true := hw _ (List.mem_of_getElem? (i := 110) rfl)
theorem hw112 {Z : State} {a0 : Array Value} (hw : ∀ d ∈ tables_1, d.before a0 Z = true) : (Jvm.Cond.methodLink "com/example/indexwerk/indexwerk/engine/OriginOfPinLaw" (46 : Nat) ({ cls := "com/example/indexwerk/indexwerk/engine/TargetLimits$Origin", name := "file", desc := "()Ljava/lang/String;" } : Jvm.MethodName)).before a0 Z = true := hw _ (List.mem_of_getElem? (i := 112) rfl)
theorem hw113 {Z : State} {a0 : Array Value} (hw : ∀ d ∈ tables_1, d.before a0 Z = true) : (Jvm.Cond.declares ({ cls := "com/example/indexwerk/indexwerk/engine/TargetLimits$Origin", name := "file", desc := "()Ljava/lang/String;" } : Jvm.MethodName)).before a0 Z = true := hw _ (List.mem_of_getElem? (i := 113) rfl)
theorem hw114 {Z : State} {a0 : Array Value} (hw : ∀ d ∈ tables_1, d.before a0 Z = true) : (Jvm.Cond.instanceMethod ({ cls := "com/example/indexwerk/indexwerk/engine/TargetLimits$Origin", name := "file", desc := "()Ljava/lang/String;" } : Jvm.MethodName)).before a0 Z = true := hw _ (List.mem_of_getElem? (i := 114) rfl)
theorem hw115 {Z : State} {a0 : Array Value} (hw : ∀ d ∈ tables_1, d.before a0 Z = true) : (Jvm.Cond.selects "com/example/indexwerk/indexwerk/engine/TargetLimits$Origin" ({ cls := "com/example/indexwerk/indexwerk/engine/TargetLimits$Origin", name := "file", desc := "()Ljava/lang/String;" } : Jvm.MethodName) ({ cls := "com/example/indexwerk/indexwerk/engine/TargetLimits$Origin", name := "file", desc := "()Ljava/lang/String;" } : Jvm.MethodName)).before a0 Z = true := hw _ (List.mem_of_getElem? (i := 115) rfl)
theorem hw116 {Z : State} {a0 : Array Value} (hw : ∀ d ∈ tables_1, d.before a0 Z = true) : (Jvm.Cond.code ({ cls := "com/example/indexwerk/indexwerk/engine/TargetLimits$Origin", name := "file", desc := "()Ljava/lang/String;" } : Jvm.MethodName) prog_22_method_6_code (1 : Nat) (Option.some (Jvm.ClassFile.FieldType.object "java/lang/String"))).before a0 Z = true := hw _ (List.mem_of_getElem? (i := 116) rfl)
theorem hw117 {Z : State} {a0 : Array Value} (hw : ∀ d ∈ tables_1, d.before a0 Z = true) : (Jvm.Cond.methodLink "com/example/indexwerk/indexwerk/engine/OriginOfPinLaw" (50 : Nat) ({ cls := "java/lang/String", name := "equals", desc := "(Ljava/lang/Object;)Z" } : Jvm.MethodName)).before a0 Z = true := hw _ (List.mem_of_getElem? (i := 117) rfl)
theorem hw118 {Z : State} {a0 : Array Value} (hw : ∀ d ∈ tables_1, d.before a0 Z = true) : (Jvm.Cond.declares ({ cls := "java/lang/String", name := "equals", desc := "(Ljava/lang/Object;)Z" } : Jvm.MethodName)).before a0 Z = true := hw _ (List.mem_of_getElem? (i := 118) rfl)
theorem hw119 {Z : State} {a0 : Array Value} (hw : ∀ d ∈ tables_1, d.before a0 Z = true) : (Jvm.Cond.instanceMethod ({ cls := "java/lang/String", name := "equals", desc := "(Ljava/lang/Object;)Z" } : Jvm.MethodName)).before a0 Z = true := hw _ (List.mem_of_getElem? (i := 119) rfl)
theorem hw120 {Z : State} {a0 : Array Value} (hw : ∀ d ∈ tables_1, d.before a0 Z = true) : (Jvm.Cond.selects "java/lang/String" ({ cls := "java/lang/String", name := "equals", desc := "(Ljava/lang/Object;)Z" } : Jvm.MethodName) ({ cls := "java/lang/String", name := "equals", desc := "(Ljava/lang/Object;)Z" } : Jvm.MethodName)).before a0 Z = true := hw _ (List.mem_of_getElem? (i := 120) rfl)
theorem hw125 {Z : State} {a0 : Array Value} (hw : ∀ d ∈ tables_1, d.before a0 Z = true) : (Jvm.Cond.methodLink "com/example/indexwerk/indexwerk/engine/OriginOfPinLaw" (53 : Nat) ({ cls := "java/util/OptionalInt", name := "isPresent", desc := "()Z" } : Jvm.MethodName)).before a0 Z = true := hw _ (List.mem_of_getElem? (i := 125) rfl)
theorem hw126 {Z : State} {a0 : Array Value} (hw : ∀ d ∈ tables_1, d.before a0 Z = true) : (Jvm.Cond.declares ({ cls := "java/util/OptionalInt", name := "isPresent", desc := "()Z" } : Jvm.MethodName)).before a0 Z = true := hw _ (List.mem_of_getElem? (i := 126) rfl)
theorem hw127 {Z : State} {a0 : Array Value} (hw : ∀ d ∈ tables_1, d.before a0 Z = true) : (Jvm.Cond.instanceMethod ({ cls := "java/util/OptionalInt", name := "isPresent", desc := "()Z" } : Jvm.MethodName)).before a0 Z = true := hw _ (List.mem_of_getElem? (i := 127) rfl)
theorem hw128 {Z : State} {a0 : Array Value} (hw : ∀ d ∈ tables_1, d.before a0 Z = true) : (Jvm.Cond.selects "java/util/OptionalInt" ({ cls := "java/util/OptionalInt", name := "isPresent", desc := "()Z" } : Jvm.MethodName) ({ cls := "java/util/OptionalInt", name := "isPresent", desc := "()Z" } : Jvm.MethodName)).before a0 Z = true := hw _ (List.mem_of_getElem? (i := 128) rfl)
theorem hw129 {Z : State} {a0 : Array Value} (hw : ∀ d ∈ tables_1, d.before a0 Z = true) : (Jvm.Cond.code ({ cls := "java/util/OptionalInt", name := "isPresent", desc := "()Z" } : Jvm.MethodName) jdk_2649_method_6_code (1 : Nat) (Option.some Jvm.ClassFile.FieldType.boolean)).before a0 Z = true := hw _ (List.mem_of_getElem? (i := 129) rfl)
theorem hw130 {Z : State} {a0 : Array Value} (hw : ∀ d ∈ tables_1, d.before a0 Z = true) : (Jvm.Cond.fieldLink "java/util/OptionalInt" (7 : Nat) "java/util/OptionalInt" "isPresent" "Z").before a0 Z = true := hw _ (List.mem_of_getElem? (i := 130) rfl)
theorem hw132 {Z : State} {a0 : Array Value} (hw : ∀ d ∈ tables_1, d.before a0 Z = true) : (Jvm.Cond.stringLink "java/lang/String" (7 : Nat) "").before a0 Z = true := hw _ (List.mem_of_getElem? (i := 132) rfl)
theorem hw135 {Z : State} {a0 : Array Value} (hw : ∀ d ∈ tables_1, d.before a0 Z = true) : (Jvm.Cond.methodLink "com/example/indexwerk/indexwerk/engine/OriginOfPinLaw" (22 : Nat) ({ cls := "java/util/List", name := "add", desc := "(Ljava/lang/Object;)Z" } : Jvm.MethodName)).before a0 Z = true := hw _ (List.mem_of_getElem? (i := 135) rfl)
theorem hw136 {Z : State} {a0 : Array Value} (hw : ∀ d ∈ tables_1, d.before a0 Z = true) : (Jvm.Cond.declares ({ cls := "java/util/List", name := "add", desc := "(Ljava/lang/Object;)Z" } : Jvm.MethodName)).before a0 Z = true := hw _ (List.mem_of_getElem? (i := 136) rfl)
theorem hw137 {Z : State} {a0 : Array Value} (hw : ∀ d ∈ tables_1, d.before a0 Z = true) : (Jvm.Cond.interfaceMethod "java/util/List" "java/util/List" "add" "(Ljava/lang/Object;)Z").before a0 Z = true := hw _ (List.mem_of_getElem? (i := 137) rfl)
theorem hw138 {Z : State} {a0 : Array Value} (hw : ∀ d ∈ tables_1, d.before a0 Z = true) : (Jvm.Cond.selects "java/util/ArrayList" ({ cls := "java/util/List", name := "add", desc := "(Ljava/lang/Object;)Z" } : Jvm.MethodName) ({ cls := "java/util/ArrayList", name := "add", desc := "(Ljava/lang/Object;)Z" } : Jvm.MethodName)).before a0 Z = true := hw _ (List.mem_of_getElem? (i := 138) rfl)
theorem hw139 {Z : State} {a0 : Array Value} (hw : ∀ d ∈ tables_1, d.before a0 Z = true) : (Jvm.Cond.instanceMethod ({ cls := "java/util/ArrayList", name := "add", desc := "(Ljava/lang/Object;)Z" } : Jvm.MethodName)).before a0 Z = true := hw _ (List.mem_of_getElem? (i := 139) rfl)
theorem hw140 {Z : State} {a0 : Array Value} (hw : ∀ d ∈ tables_1, d.before a0 Z = true) : (Jvm.Cond.publicMethod ({ cls := "java/util/ArrayList", name := "add", desc := "(Ljava/lang/Object;)Z" } : Jvm.MethodName)).before a0 Z = true := hw _ (List.mem_of_getElem? (i := 140) rfl)
theorem hw141 {Z : State} {a0 : Array Value} (hw : ∀ d ∈ tables_1, d.before a0 Z = true) : (Jvm.Cond.unhidden "java/util/ArrayList" "add" "(Ljava/lang/Object;)Z").before a0 Z = true := hw _ (List.mem_of_getElem? (i := 141) rfl)
theorem hw142 {Z : State} {a0 : Array Value} (hw : ∀ d ∈ tables_1, d.before a0 Z = true) : (Jvm.Cond.code ({ cls := "java/util/ArrayList", name := "add", desc := "(Ljava/lang/Object;)Z" } : Jvm.MethodName) jdk_38_method_25_code (2 : Nat) (Option.some Jvm.ClassFile.FieldType.boolean)).before a0 Z = true := hw _ (List.mem_of_getElem? (i := 142) rfl)
theorem hw143 {Z : State} {a0 : Array Value} (hw : ∀ d ∈ tables_1, d.before a0 Z = true) : (Jvm.Cond.fieldLink "java/util/ArrayList" (63 : Nat) "java/util/ArrayList" "modCount" "I").before a0 Z = true := hw _ (List.mem_of_getElem? (i := 143) rfl)
theorem hw144 {Z : State} {a0 : Array Value} (hw : ∀ d ∈ tables_1, d.before a0 Z = true) : (Jvm.Cond.sameField "java/util/ArrayList" "java/util/AbstractList" "modCount" "I").before a0 Z = true := hw _ (List.mem_of_getElem? (i := 144) rfl)
theorem hw145 {Z : State} {a0 : Array Value} (hw : ∀ d ∈ tables_1, d.before a0 Z = true) : (Jvm.Cond.fieldLink "java/util/ArrayList" (48 : Nat) "java/util/ArrayList" "size" "I").before a0 Z = true := hw _ (List.mem_of_getElem? (i := 145) rfl)
theorem hw146 {Z : State} {a0 : Array Value} (hw : ∀ d ∈ tables_1, d.before a0 Z = true) : (Jvm.Cond.lays "java/util/ArrayList" "java/util/ArrayList" "size" "I").before a0 Z = true := hw _ (List.mem_of_getElem? (i := 146) rfl)
theorem hw147 {Z : State} {a0 : Array Value} (hw : ∀ d ∈ tables_1, d.before a0 Z = true) : (Jvm.Cond.methodLink "java/util/ArrayList" (131 : Nat) ({ cls := "java/util/ArrayList", name := "add", desc := "(Ljava/lang/Object;[Ljava/lang/Object;I)V" } : Jvm.MethodName)).before a0 Z = true := hw _ (List.mem_of_getElem? (i := 147) rfl)
theorem hw148 {Z : State} {a0 : Array Value} (hw : ∀ d ∈ tables_1, d.before a0 Z = true) : (Jvm.Cond.instanceMethod ({ cls := "java/util/ArrayList", name := "add", desc := "(Ljava/lang/Object;[Ljava/lang/Object;I)V" } : Jvm.MethodName)).before a0 Z = true := hw _ (List.mem_of_getElem? (i := 148) rfl)
theorem hw149 {Z : State} {a0 : Array Value} (hw : ∀ d ∈ tables_1, d.before a0 Z = true) : (Jvm.Cond.privateMethod ({ cls := "java/util/ArrayList", name := "add", desc := "(Ljava/lang/Object;[Ljava/lang/Object;I)V" } : Jvm.MethodName)).before a0 Z = true := hw _ (List.mem_of_getElem? (i := 149) rfl)
theorem hw150 {Z : State} {a0 : Array Value} (hw : ∀ d ∈ tables_1, d.before a0 Z = true) : (Jvm.Cond.selects "java/util/ArrayList" ({ cls := "java/util/ArrayList", name := "add", desc := "(Ljava/lang/Object;[Ljava/lang/Object;I)V" } : Jvm.MethodName) ({ cls := "java/util/ArrayList", name := "add", desc := "(Ljava/lang/Object;[Ljava/lang/Object;I)V" } : Jvm.MethodName)).before a0 Z = true := hw _ (List.mem_of_getElem? (i := 150) rfl)
theorem hw151 {Z : State} {a0 : Array Value} (hw : ∀ d ∈ tables_1, d.before a0 Z = true) : (Jvm.Cond.code ({ cls := "java/util/ArrayList", name := "add", desc := "(Ljava/lang/Object;[Ljava/lang/Object;I)V" } : Jvm.MethodName) jdk_38_method_24_code (4 : Nat) (Option.none : Option Jvm.ClassFile.FieldType)).before a0 Z = true := hw _ (List.mem_of_getElem? (i := 151) rfl)
theorem hw152 {Z : State} {a0 : Array Value} (hw : ∀ d ∈ tables_1, d.before a0 Z = true) : (Jvm.Cond.methodLink "java/util/ArrayList" (129 : Nat) ({ cls := "java/util/ArrayList", name := "grow", desc := "()[Ljava/lang/Object;" } : Jvm.MethodName)).before a0 Z = true := hw _ (List.mem_of_getElem? (i := 152) rfl)
theorem hw153 {Z : State} {a0 : Array Value} (hw : ∀ d ∈ tables_1, d.before a0 Z = true) : (Jvm.Cond.instanceMethod ({ cls := "java/util/ArrayList", name := "grow", desc := "()[Ljava/lang/Object;" } : Jvm.MethodName)).before a0 Z = true := hw _ (List.mem_of_getElem? (i := 153) rfl)
theorem hw154 {Z : State} {a0 : Array Value} (hw : ∀ d ∈ tables_1, d.before a0 Z = true) : (Jvm.Cond.privateMethod ({ cls := "java/util/ArrayList", name := "grow", desc := "()[Ljava/lang/Object;" } : Jvm.MethodName)).before a0 Z = true := hw _ (List.mem_of_getElem? (i := 154) rfl)
theorem hw155 {Z : State} {a0 : Array Value} (hw : ∀ d ∈ tables_1, d.before a0 Z = true) : (Jvm.Cond.selects "java/util/ArrayList" ({ cls := "java/util/ArrayList", name := "grow", desc := "()[Ljava/lang/Object;" } : Jvm.MethodName) ({ cls := "java/util/ArrayList", name := "grow", desc := "()[Ljava/lang/Object;" } : Jvm.MethodName)).before a0 Z = true := hw _ (List.mem_of_getElem? (i := 155) rfl)
theorem hw156 {Z : State} {a0 : Array Value} (hw : ∀ d ∈ tables_1, d.before a0 Z = true) : (Jvm.Cond.code ({ cls := "java/util/ArrayList", name := "grow", desc := "()[Ljava/lang/Object;" } : Jvm.MethodName) jdk_38_method_7_code (1 : Nat) (Option.some (Jvm.ClassFile.FieldType.array (Jvm.ClassFile.FieldType.object "java/lang/Object")))).before a0 Z = true := hw _ (List.mem_of_getElem? (i := 156) rfl)
theorem hw157 {Z : State} {a0 : Array Value} (hw : ∀ d ∈ tables_1, d.before a0 Z = true) : (Jvm.Cond.methodLink "java/util/ArrayList" (69 : Nat) ({ cls := "java/util/ArrayList", name := "grow", desc := "(I)[Ljava/lang/Object;" } : Jvm.MethodName)).before a0 Z = true := hw _ (List.mem_of_getElem? (i := 157) rfl)
theorem hw158 {Z : State} {a0 : Array Value} (hw : ∀ d ∈ tables_1, d.before a0 Z = true) : (Jvm.Cond.instanceMethod ({ cls := "java/util/ArrayList", name := "grow", desc := "(I)[Ljava/lang/Object;" } : Jvm.MethodName)).before a0 Z = true := hw _ (List.mem_of_getElem? (i := 158) rfl)
theorem hw159 {Z : State} {a0 : Array Value} (hw : ∀ d ∈ tables_1, d.before a0 Z = true) : (Jvm.Cond.privateMethod ({ cls := "java/util/ArrayList", name := "grow", desc := "(I)[Ljava/lang/Object;" } : Jvm.MethodName)).before a0 Z = true := hw _ (List.mem_of_getElem? (i := 159) rfl)
theorem hw160 {Z : State} {a0 : Array Value} (hw : ∀ d ∈ tables_1, d.before a0 Z = true) : (Jvm.Cond.selects "java/util/ArrayList" ({ cls := "java/util/ArrayList", name := "grow", desc := "(I)[Ljava/lang/Object;" } : Jvm.MethodName) ({ cls := "java/util/ArrayList", name := "grow", desc := "(I)[Ljava/lang/Object;" } : Jvm.MethodName)).before a0 Z = true := hw _ (List.mem_of_getElem? (i := 160) rfl)
theorem hw161 {Z : State} {a0 : Array Value} (hw : ∀ d ∈ tables_1, d.before a0 Z = true) : (Jvm.Cond.code ({ cls := "java/util/ArrayList", name := "grow", desc := "(I)[Ljava/lang/Object;" } : Jvm.MethodName) jdk_38_method_6_code (4 : Nat) (Option.some (Jvm.ClassFile.FieldType.array (Jvm.ClassFile.FieldType.object "java/lang/Object")))).before a0 Z = true := hw _ (List.mem_of_getElem? (i := 161) rfl)
theorem hw162 {Z : State} {a0 : Array Value} (hw : ∀ d ∈ tables_1, d.before a0 Z = true) : (Jvm.Cond.methodLink "java/util/ArrayList" (79 : Nat) ({ cls := "java/lang/Math", name := "max", desc := "(II)I" } : Jvm.MethodName)).before a0 Z = true := hw _ (List.mem_of_getElem? (i := 162) rfl)
theorem hw163 {Z : State} {a0 : Array Value} (hw : ∀ d ∈ tables_1, d.before a0 Z = true) : (Jvm.Cond.static ({ cls := "java/lang/Math", name := "max", desc := "(II)I" } : Jvm.MethodName)).before a0 Z = true := hw _ (List.mem_of_getElem? (i := 163) rfl)
theorem hw164 {Z : State} {a0 : Array Value} (hw : ∀ d ∈ tables_1, d.before a0 Z = true) : (Jvm.Cond.initialized "java/lang/Math").before a0 Z = true := hw _ (List.mem_of_getElem? (i := 164) rfl)
theorem hw165 {Z : State} {a0 : Array Value} (hw : ∀ d ∈ tables_1, d.before a0 Z = true) : (Jvm.Cond.code ({ cls := "java/lang/Math", name := "max", desc := "(II)I" } : Jvm.MethodName) jdk_29_method_65_code (2 : Nat) (Option.some Jvm.ClassFile.FieldType.int)).before a0 Z = true := hw _ (List.mem_of_getElem? (i := 165) rfl)
theorem hw166 {Z : State} {a0 : Array Value} (hw : ∀ d ∈ tables_1, d.before a0 Z = true) : (Jvm.Cond.classLink "java/util/ArrayList" (7 : Nat) "java/lang/Object").before a0 Z = true := hw _ (List.mem_of_getElem? (i := 166) rfl)
theorem hw167 {Z : State} {a0 : Array Value} (hw : ∀ d ∈ tables_1, d.before a0 Z = true) : (Jvm.Cond.arrayOver (Jvm.ClassFile.FieldType.object "java/lang/Object")).before a0 Z = true := hw _ (List.mem_of_getElem? (i := 167) rfl)
theorem hw168 {Z : State} {a0 : Array Value} (hw : ∀ d ∈ tables_1, d.before a0 Z = true) : (Jvm.Cond.castable "java/lang/String" "java/lang/Object").before a0 Z = true := hw _ (List.mem_of_getElem? (i := 168) rfl)
theorem own_EW {Z : State} {a0 : Array Value} (hw : ∀ d ∈ tables_1, d.before a0 Z = true) : EW Z a0 EL := (EW.cons (hw132 hw) (by decide) EW.nil)
theorem own_safeArv {Z : State} {vm : Vm} {h : Heap} {x : Addr} {k : ClassId} {ty : FieldType} {z : Int32} {vs : List Value} {d : Value} (hal : Z.vm.Alike vm) (F : Arv Z h x k ty z vs d) (ht : ty ≠ .byte) : Safe Z EL vm h x := by
  obtain ⟨c, A, -⟩ := F
  exact Safe.arr hal A ht
open Jvm.LamKit
theorem own_z01 (P : Prop) [Decidable P] : (if P then (1 : Int32) else 0) = 0 ∨ (if P then (1 : Int32) else 0) = 1 := by by_cases h : P <;> simp [h]
theorem own_or3 (x : Int32) : (x &&& (3 : Int32)) = 0 ∨ (x &&& (3 : Int32)) = 1 ∨ (x &&& (3 : Int32)) = 2 ∨ (x &&& (3 : Int32)) = 3 := by
  have h : (x &&& 3).toBitVec.toNat < 4 := by
    simp only [Int32.toBitVec_and, BitVec.toNat_and]
    exact Nat.lt_succ_of_le Nat.and_le_right
  have e : (x &&& (3 : Int32)) = Int32.ofNat (x &&& 3).toBitVec.toNat := by
    apply Int32.toBitVec_inj.mp
    show _ = BitVec.ofNat 32 _
    rw [BitVec.ofNat_toNat]; simp
  have t : ∀ k : Fin 4, Int32.ofNat k.val = 0 ∨ Int32.ofNat k.val = 1 ∨ Int32.ofNat k.val = 2 ∨ Int32.ofNat k.val = 3 := by decide
  rw [e]
  exact t ⟨_, h⟩
abbrev Three (x : Int32) : Prop := x = 0 ∨ x = 1 ∨ x = 2
theorem own_rem3 (x : Int32) : Three ((x &&& (3 : Int32)) % (3 : Int32)) := by rcases own_or3 x with h | h | h | h <;> rw [h] <;> decide
theorem own_deflt {s : State} {args : Array Value} (hf : Fit s) (w1 : (Cond.initialized "java/util/ArrayList").before args s = true) (w2 : (Cond.laysStatic "java/util/ArrayList" "DEFAULTCAPACITY_EMPTY_ELEMENTDATA" "[Ljava/lang/Object;").before args s = true) (w3 : (Cond.arrayOf (.static "java/util/ArrayList" "DEFAULTCAPACITY_EMPTY_ELEMENTDATA" "[Ljava/lang/Object;") (.object "java/lang/Object")).before args s = true)
    (w4 : (Cond.eq (.length (.static "java/util/ArrayList" "DEFAULTCAPACITY_EMPTY_ELEMENTDATA" "[Ljava/lang/Object;")) (.int (0 : Int32))).before args s = true) :
    ∃ (aD : Addr) (kD : ClassId), (Term.static "java/util/ArrayList" "DEFAULTCAPACITY_EMPTY_ELEMENTDATA" "[Ljava/lang/Object;").eval args s none [] s = some (.ref aD) ∧ Sta s s.heap "java/util/ArrayList" "DEFAULTCAPACITY_EMPTY_ELEMENTDATA" "[Ljava/lang/Object;" (.ref aD) ∧ Arv s s.heap aD kD (.object "java/lang/Object") (0 : Int32) [] .null := by
  have h4 := eqv_i (Term.int_eval (0)) (Cond.before_iff.mp w4)
  obtain ⟨aD, c0, eD, hc0, e0, hl⟩ := Jvm.Free.SB.Term.length_small h4
  obtain ⟨c, A⟩ := Arr.start eD (Cond.before_iff.mp w3)
  have hc : s.arrayAt? aD = some c := A.fin (Vm.Alike.refl _)
  obtain rfl : c0 = c := Option.some.inj (hc0.symm.trans hc)
  have e2 : c0.slots.size.toInt32 = 0 := (Value.int.inj e0).symm
  exact ⟨aD, c0.cls, eD, Sta.start eD (Or.inr ⟨w1, w2⟩), Arv.start hf A hl e2 (by decide) rfl trivial⟩
def own_tx (n a b c d : Int32) : List Int32 := if n = 0 then [] else if n = 1 then [a] else if n = 2 then [a, b] else if n = 3 then [a, b, c] else [a, b, c, d]
theorem own_lt2 {x : Int32} (h : x < 1) : x < 2 := by rw [Int32.lt_iff_toInt_lt] at h ⊢; have e1 : (1 : Int32).toInt = 1 := rfl; have e2 : (2 : Int32).toInt = 2 := rfl; omega
theorem own_lt3 {x : Int32} (h : x < 2) : x < 3 := by rw [Int32.lt_iff_toInt_lt] at h ⊢; have e1 : (2 : Int32).toInt = 2 := rfl; have e2 : (3 : Int32).toInt = 3 := rfl; omega

theorem ef_s4e (m : MethodId) (a : Addr) (b : Addr) : entryFrame m #[(.ref a), (.ref b), (.int (0 : Int32)), (.int (0 : Int32)), .null] 6 = (mkF m 0 #[.val (.ref a), .val (.ref b), .val (.int (0 : Int32)), .val (.int (0 : Int32)), .val .null, uS] []) := by first | (simp [entryFrame, mkF, argsToLocals, Value.category]; done) | rfl
def Q_s4e (Z : State) (a : Addr) (b : Addr) (h0 : Heap) (n0 : Nat) (v : Option Value) (h : Heap) (L : List Loc) : Prop := ∃ (t : Addr) (kb : ClassId), v = none ∧ Fr n0 L ∧ Keep h0 h [a] ∧ Str Z h a t kb [] ∧ a ≠ t
set_option maxRecDepth 65536 in
set_option maxHeartbeats 40000000 in
theorem rm_s4e (l : Launch) (Z : State) (a0 : Array Value) (hw : ∀ d ∈ tables_1, d.before a0 Z = true) (ws : List Jvm.Cond) (a : Addr) (b : Addr) (h0 : Heap) (n0 : Nat) (Z0 : n0 ≤ h0.size) (P0 : Exa Z h0 a "java/lang/String") (P1 : Fld Z h0 a "java/lang/String" "value" "[B" .null) (P2 : Fld Z h0 a "java/lang/String" "coder" "B" (.int (0 : Int32))) (g_a : n0 ≤ a) :
    MetFree l (⟨"java/lang/String", "<init>", "([CIILjava/lang/Void;)V"⟩ : MethodName) (head1 (Jvm.Cond.code (⟨"java/lang/String", "<init>", "([CIILjava/lang/Void;)V"⟩ : MethodName) jdk_42_method_149_code 6 none :: ws) ({ frames := 1, cells := 4, slots := 8, locals := 12 } : Room)) (fun aR U => aR = #[(.ref a), (.ref b), (.int (0 : Int32)), (.int (0 : Int32)), .null] ∧ Z.Warmed39 U.vm ∧ U.heap = h0 ∧ CHv Z EL U.vm h0 ∧ ∀ x ∈ ([a] : List Addr), Safe Z EL U.vm h0 x) (fun _ _ _ _ _ => True) (fun _ U o U' => ∃ v L, o = .returned v ∧ Q_s4e Z a b h0 n0 v U'.heap L ∧ CHr Z EL U.vm U.heap U'.vm U'.heap ∧ ReturnedEndW U o U' L ({ frames := 1, cells := 4, slots := 8, locals := 12 } : Room).cells ({ frames := 1, cells := 4, slots := 8, locals := 12 } : Room).slots) := by
 refine MetFree.of_bodySF (plainFor_of_name pn_0) hisR ?_
 intro p e s m args below meth c s₁ Bd hml0 hP hK
 obtain ⟨rfl, hZ, hh, hCH, hSF⟩ := hP
 have hx := Bd.exec
 have hby := Bd.bytes
 have hml : c.maxLocals = 6 := hml0
 have hown : s.vm.findClass "java/lang/String" = some m.cls := findClass_of_methodNamed Bd.named
 have hnm := (name_of_methodNamed Bd.named Bd.method).1
 have X0 : Stand p l e ({ frames := 1, cells := 4, slots := 8, locals := 12 } : Room) (s.setVm s.vm) m #[(.ref a), (.ref b), (.int (0 : Int32)), (.int (0 : Int32)), .null] below meth c s₁ [] 0 0 := Stand.of_body Bd
 have e0 : s₁.heap = h0 := by rw [← hh, Bd.state]; rfl
 have N0 := Fr.nil n0
 show Goes p.tables e below _ _
 rw [ef_s4e m a b]
 refine Goes.named ?_
 intro QQ hQQ
 have hS0 : s.Since s.vm 0 := (State.WarmedH.refl s).since 0
 have hk0 : 0 ≤ h0.size := Nat.zero_le _
 have CR0 : CHr Z EL s.vm h0 s.vm h0 := CHr.refl hCH
 have sf0_a : Safe Z EL s.vm h0 a := hSF _ (List.mem_of_getElem? (i := 0) rfl)
 refine Goes.st (fun sT kT => XS.aloadN X0.here hx rfl (hb hby d3_0) rfl rfl kT) ?_
 show Goes _ _ _ _ (s₁.setTop (mkF m 1 #[.val (.ref a), .val (.ref b), .val (.int (0 : Int32)), .val (.int (0 : Int32)), .val .null, uS] [(.ref a)]))
 obtain ⟨T1, X1, e1, st1⟩ := initO X0 hx hZ hown (hw15 hw) (hw16 hw) (hw17 hw) e0 (g := (mkF m 1 #[.val (.ref a), .val (.ref b), .val (.int (0 : Int32)), .val (.int (0 : Int32)), .val .null, uS] [(.ref a)])) rfl (by rw [hml]; rfl) rfl (hb hby d3_1) (by decide) (W := 0) (by show 2 * 0 + _ ≤ _; exact Nat.le_of_eq rfl) (by decide)
 refine Goes.st st1 ?_
 show Goes _ _ _ _ (T1.setTop (mkF m 4 #[.val (.ref a), .val (.ref b), .val (.int (0 : Int32)), .val (.int (0 : Int32)), .val .null, uS] []))
 refine Goes.st (fun sT kT => XS.iloadN X1.here hx rfl (hb hby d3_4) rfl kT) ?_
 show Goes _ _ _ _ (T1.setTop (mkF m 5 #[.val (.ref a), .val (.ref b), .val (.int (0 : Int32)), .val (.int (0 : Int32)), .val .null, uS] [(.int (0 : Int32))]))
 refine Goes.st (fun sT kT => XS.ifNo X1.here hx rfl (hb hby d3_5) rfl ((if0 _ _).trans (teq (by decide : (0 : Int32) = (0 : Int32))).2) kT) ?_
 show Goes _ _ _ _ (T1.setTop (mkF m 8 #[.val (.ref a), .val (.ref b), .val (.int (0 : Int32)), .val (.int (0 : Int32)), .val .null, uS] []))
 refine Goes.st (fun sT kT => XS.aloadN X1.here hx rfl (hb hby d3_8) rfl rfl kT) ?_
 show Goes _ _ _ _ (T1.setTop (mkF m 9 #[.val (.ref a), .val (.ref b), .val (.int (0 : Int32)), .val (.int (0 : Int32)), .val .null, uS] [(.ref a)]))
 obtain ⟨b2, T2, h2, kk2, t2, kb2, X2, e2, E2, hS2, hk2, hZ2, hown2, Ex2, Cd2, Vf2, Av2, lb2, lt2, C2, Lt2, hne2, st2⟩ := ldcCH X1 hx hZ hown (hw132 hw) (own_wS hw) e1 hS0 hk0 (own_EW hw) (by decide +kernel) CR0.1 (vs := []) (z := (0 : Int32)) ⟨by decide, by decide⟩ (by decide) (by decide) (g := (mkF m 9 #[.val (.ref a), .val (.ref b), .val (.int (0 : Int32)), .val (.int (0 : Int32)), .val .null, uS] [(.ref a)])) rfl (hb hby d3_9) (n := 0) (by decide) (by decide) (by decide) (by decide)
 have CR2 : CHr Z EL s.vm h0 T2.vm h2 := CR0.trans C2
 have sf2_a : Safe Z EL T2.vm h2 a := C2.safe P0.lt sf0_a
 refine Goes.st st2 ?_
 show Goes _ _ _ _ (T2.setTop (mkF m 11 #[.val (.ref a), .val (.ref b), .val (.int (0 : Int32)), .val (.int (0 : Int32)), .val .null, uS] [(.ref b2), (.ref a)]))
 obtain ⟨T3, X3, e3, st3⟩ := getF X2 hx hZ2 hown2 (host := "") (Or.inl (hw32 hw)) Via.refl e2 Vf2 (g := (mkF m 11 #[.val (.ref a), .val (.ref b), .val (.int (0 : Int32)), .val (.int (0 : Int32)), .val .null, uS] [(.ref b2), (.ref a)])) rfl rfl (hb hby d3_11)
 refine Goes.st st3 ?_
 show Goes _ _ _ _ (T3.setTop (mkF m 14 #[.val (.ref a), .val (.ref b), .val (.int (0 : Int32)), .val (.int (0 : Int32)), .val .null, uS] [(.ref t2), (.ref a)]))
 have f4 : Exa Z h2 a "java/lang/String" := (P0.ext E2)
 have f5 : Fld Z h2 a "java/lang/String" "value" "[B" .null := (P1.ext E2)
 obtain ⟨T6, h6, X6, e6, W6, st6⟩ := putF X3 hx hZ2 hown2 (host := "") (Or.inl (hw32 hw)) Via.refl e3 f5 f4 (Or.inr ⟨(hw33 hw), rfl, hnm⟩) (hw5 hw) (ty := (.array .byte)) (by decide) rfl rfl (g := (mkF m 14 #[.val (.ref a), .val (.ref b), .val (.int (0 : Int32)), .val (.int (0 : Int32)), .val .null, uS] [(.ref t2), (.ref a)])) rfl rfl (hb hby d3_14)
 have N6 := Fr.snoc X6 N0 g_a
 have CR7 : CHr Z EL s.vm h0 T2.vm h6 := CR2.trans (CHr.wr W6 sf2_a CR2.1)
 have sf7_a : Safe Z EL T2.vm h6 a := Safe.wr W6 sf2_a CR2.1 sf2_a
 have F6 := f5.same W6
 refine Goes.st st6 ?_
 show Goes _ _ _ _ (T6.setTop (mkF m 17 #[.val (.ref a), .val (.ref b), .val (.int (0 : Int32)), .val (.int (0 : Int32)), .val .null, uS] []))
 refine Goes.st (fun sT kT => XS.aloadN X6.here hx rfl (hb hby d3_17) rfl rfl kT) ?_
 show Goes _ _ _ _ (T6.setTop (mkF m 18 #[.val (.ref a), .val (.ref b), .val (.int (0 : Int32)), .val (.int (0 : Int32)), .val .null, uS] [(.ref a)]))
 obtain ⟨b8, T8, h8, kk8, t8, kb8, X8, e8, E8, hS8, hk8, hZ8, hown8, Ex8, Cd8, Vf8, Av8, lb8, lt8, C8, Lt8, hne8, st8⟩ := ldcCH X6 hx hZ2 hown2 (hw132 hw) (own_wS hw) e6 hS2 (Nat.le_trans hk2 (Nat.le_of_eq W6.size.symm)) (own_EW hw) (by decide +kernel) CR7.1 (vs := []) (z := (0 : Int32)) ⟨by decide, by decide⟩ (by decide) (by decide) (g := (mkF m 18 #[.val (.ref a), .val (.ref b), .val (.int (0 : Int32)), .val (.int (0 : Int32)), .val .null, uS] [(.ref a)])) rfl (hb hby d3_18) (n := 0) (by decide) (by decide) (by decide) (by decide)
 have CR8 : CHr Z EL s.vm h0 T8.vm h8 := CR7.trans C8
 have sf8_a : Safe Z EL T8.vm h8 a := C8.safe (Nat.lt_of_lt_of_le P0.lt (Nat.le_trans E2.1 (Nat.le_of_eq W6.size.symm))) sf7_a
 refine Goes.st st8 ?_
 show Goes _ _ _ _ (T8.setTop (mkF m 20 #[.val (.ref a), .val (.ref b), .val (.int (0 : Int32)), .val (.int (0 : Int32)), .val .null, uS] [(.ref b8), (.ref a)]))
 obtain ⟨T9, X9, e9, st9⟩ := getF X8 hx hZ8 hown8 (host := "") (Or.inl (hw30 hw)) Via.refl e8 Cd8 (g := (mkF m 20 #[.val (.ref a), .val (.ref b), .val (.int (0 : Int32)), .val (.int (0 : Int32)), .val .null, uS] [(.ref b8), (.ref a)])) rfl rfl (hb hby d3_20)
 refine Goes.st st9 ?_
 show Goes _ _ _ _ (T9.setTop (mkF m 23 #[.val (.ref a), .val (.ref b), .val (.int (0 : Int32)), .val (.int (0 : Int32)), .val .null, uS] [(.int (0 : Int32)), (.ref a)]))
 have f10 : Exa Z h8 a "java/lang/String" := ((f4.wr W6).ext E8)
 have f11 : Fld Z h8 a "java/lang/String" "coder" "B" (.int (0 : Int32)) := (((P2.ext E2).other W6 (Or.inr (slot_ne (Or.inr (hw31 hw)) (Or.inr (hw33 hw)) (by decide) (t := .byte) (t' := (.array .byte)) (by decide) (by decide)))).ext E8)
 obtain ⟨T12, h12, X12, e12, W12, st12⟩ := putFN X9 hx hZ8 hown8 (hw30 hw) Via.refl e9 f11 f10 (Or.inr ⟨(hw31 hw), rfl, hnm⟩) (hw5 hw) (ty := .byte) (v' := (.int (0 : Int32))) (by decide) rfl (by decide) (g := (mkF m 23 #[.val (.ref a), .val (.ref b), .val (.int (0 : Int32)), .val (.int (0 : Int32)), .val .null, uS] [(.int (0 : Int32)), (.ref a)])) rfl rfl (hb hby d3_23)
 have N12 := Fr.snoc X12 N6 g_a
 have CR13 : CHr Z EL s.vm h0 T8.vm h12 := CR8.trans (CHr.wr W12 sf8_a CR8.1)
 have sf13_a : Safe Z EL T8.vm h12 a := Safe.wr W12 sf8_a CR8.1 sf8_a
 have F12 := f11.same W12
 refine Goes.st st12 ?_
 show Goes _ _ _ _ (T12.setTop (mkF m 26 #[.val (.ref a), .val (.ref b), .val (.int (0 : Int32)), .val (.int (0 : Int32)), .val .null, uS] []))
 have f15 : Exa Z h12 a "java/lang/String" := (f10.wr W12)
 have f16 : Fld Z h12 a "java/lang/String" "value" "[B" (.ref t2) := ((F6.ext E8).other W12 (Or.inr (slot_ne (Or.inr (hw33 hw)) (Or.inr (hw31 hw)) (by decide) (t := (.array .byte)) (t' := .byte) (by decide) (by decide))))
 have f17 : Arv Z h12 t2 kb2 .byte (0 : Int32) [] (.int (0 : Int32)) := (((Av2.other W6 (Ne.symm (hne2 _ sf2_a).2)).ext E8).other W12 (Ne.symm (hne2 _ sf2_a).2))
 have S14 : Str Z h12 a t2 kb2 [] := ⟨f15, f16, F12, f17, own_c0, Nat.zero_le _⟩
 have kp18 : Keep h0 h2 [a] := (Keep.refl h0 [a]).ext E2
 have kp19 : Keep h0 h6 [a] := kp18.wr W6 (Or.inl (List.mem_of_getElem? (i := 0) rfl))
 have kp20 : Keep h0 h8 [a] := kp19.ext E8
 have kp21 : Keep h0 h12 [a] := kp20.wr W12 (Or.inl (List.mem_of_getElem? (i := 0) rfl))
 obtain ⟨fs, hr, hrun, hended, hRW⟩ := X12.leaveW hS8 (by rw [e12]; exact (Nat.le_trans hk8 (Nat.le_of_eq W12.size.symm))) (v := none) (fun _ => rfl)
 subst hQQ
 have hCR : CHr Z EL s.vm s.heap T12.vm T12.heap := by rw [hh, e12]; exact CR13.trans (CHv.at X12 hZ8 (own_EW hw) CR13.1)
 refine ⟨_, _, X12.returnOut hx Bd.returns (hb hby d3_26) hr, hrun, hended, _, _, rfl, ?_, hCR, own_REmono hRW (by decide) (by decide)⟩
 show Q_s4e Z a b h0 n0 _ T12.heap _
 rw [e12]
 exact ⟨t2, kb2, rfl, N12, kp21, S14, (hne2 _ sf2_a).2⟩
theorem ef_s1e (m : MethodId) (a : Addr) (b : Addr) (kc : ClassId) : entryFrame m #[(.ref a), (.ref b)] 2 = (mkF m 0 #[.val (.ref a), .val (.ref b)] []) := by first | (simp [entryFrame, mkF, argsToLocals, Value.category]; done) | rfl
def Q_s1e (Z : State) (a : Addr) (b : Addr) (kc : ClassId) (h0 : Heap) (n0 : Nat) (v : Option Value) (h : Heap) (L : List Loc) : Prop := ∃ (t : Addr) (kb : ClassId), v = none ∧ Fr n0 L ∧ Keep h0 h [a] ∧ Str Z h a t kb [] ∧ a ≠ t
set_option maxRecDepth 65536 in
set_option maxHeartbeats 40000000 in
theorem rm_s1e (l : Launch) (Z : State) (a0 : Array Value) (hw : ∀ d ∈ tables_1, d.before a0 Z = true) (ws : List Jvm.Cond) (a : Addr) (b : Addr) (kc : ClassId) (h0 : Heap) (n0 : Nat) (Z0 : n0 ≤ h0.size) (P0 : Exa Z h0 a "java/lang/String") (P1 : Fld Z h0 a "java/lang/String" "value" "[B" .null) (P2 : Fld Z h0 a "java/lang/String" "coder" "B" (.int (0 : Int32))) (P3 : Arv Z h0 b kc .char (0 : Int32) [] (.int (0 : Int32))) (g_a : n0 ≤ a) :
    MetFree l (⟨"java/lang/String", "<init>", "([C)V"⟩ : MethodName) (head1 (Jvm.Cond.code (⟨"java/lang/String", "<init>", "([C)V"⟩ : MethodName) jdk_42_method_3_code 2 none :: ws) ({ frames := 2, cells := 4, slots := 8, locals := 29 } : Room)) (fun aR U => aR = #[(.ref a), (.ref b)] ∧ Z.Warmed39 U.vm ∧ U.heap = h0 ∧ CHv Z EL U.vm h0 ∧ ∀ x ∈ ([a] : List Addr), Safe Z EL U.vm h0 x) (fun _ _ _ _ _ => True) (fun _ U o U' => ∃ v L, o = .returned v ∧ Q_s1e Z a b kc h0 n0 v U'.heap L ∧ CHr Z EL U.vm U.heap U'.vm U'.heap ∧ ReturnedEndW U o U' L ({ frames := 2, cells := 4, slots := 8, locals := 29 } : Room).cells ({ frames := 2, cells := 4, slots := 8, locals := 29 } : Room).slots) := by
 refine MetFree.of_bodySF (plainFor_of_name pn_0) hisR ?_
 intro p e s m args below meth c s₁ Bd hml0 hP hK
 obtain ⟨rfl, hZ, hh, hCH, hSF⟩ := hP
 have hx := Bd.exec
 have hby := Bd.bytes
 have hml : c.maxLocals = 2 := hml0
 have hown : s.vm.findClass "java/lang/String" = some m.cls := findClass_of_methodNamed Bd.named
 have hnm := (name_of_methodNamed Bd.named Bd.method).1
 have X0 : Stand p l e ({ frames := 2, cells := 4, slots := 8, locals := 29 } : Room) (s.setVm s.vm) m #[(.ref a), (.ref b)] below meth c s₁ [] 0 0 := Stand.of_body Bd
 have e0 : s₁.heap = h0 := by rw [← hh, Bd.state]; rfl
 have N0 := Fr.nil n0
 show Goes p.tables e below _ _
 rw [ef_s1e m a b kc]
 refine Goes.named ?_
 intro QQ hQQ
 have hS0 : s.Since s.vm 0 := (State.WarmedH.refl s).since 0
 have hk0 : 0 ≤ h0.size := Nat.zero_le _
 have CR0 : CHr Z EL s.vm h0 s.vm h0 := CHr.refl hCH
 have sf0_a : Safe Z EL s.vm h0 a := hSF _ (List.mem_of_getElem? (i := 0) rfl)
 refine Goes.st (fun sT kT => XS.aloadN X0.here hx rfl (hb hby d2_0) rfl rfl kT) ?_
 show Goes _ _ _ _ (s₁.setTop (mkF m 1 #[.val (.ref a), .val (.ref b)] [(.ref a)]))
 refine Goes.st (fun sT kT => XS.aloadN X0.here hx rfl (hb hby d2_1) rfl rfl kT) ?_
 show Goes _ _ _ _ (s₁.setTop (mkF m 2 #[.val (.ref a), .val (.ref b)] [(.ref b), (.ref a)]))
 refine Goes.st (fun sT kT => XS.iconst X0.here hx rfl (hb hby d2_2) kT) ?_
 show Goes _ _ _ _ (s₁.setTop (mkF m 3 #[.val (.ref a), .val (.ref b)] [(.int (0 : Int32)), (.ref b), (.ref a)]))
 refine Goes.st (fun sT kT => XS.aloadN X0.here hx rfl (hb hby d2_3) rfl rfl kT) ?_
 show Goes _ _ _ _ (s₁.setTop (mkF m 4 #[.val (.ref a), .val (.ref b)] [(.ref b), (.int (0 : Int32)), (.ref b), (.ref a)]))
 obtain ⟨oc1, oA1, oq1, oS1, oM1, oH1, oG1⟩ := id P3
 refine Goes.st (fun sT kT => X0.arraylength hx (by rw [e0]; exact oA1.1) (State.isArrayOf_alike hZ.alike oA1.2.1) (g := (mkF m 4 #[.val (.ref a), .val (.ref b)] [(.ref b), (.int (0 : Int32)), (.ref b), (.ref a)])) rfl rfl (hb hby d2_4) _ kT) ?_
 rw [len_of oS1 oM1]
 show Goes _ _ _ _ (s₁.setTop (mkF m 5 #[.val (.ref a), .val (.ref b)] [(.int (0 : Int32)), (.int (0 : Int32)), (.ref b), (.ref a)]))
 refine Goes.st (fun sT kT => XS.aconstNull X0.here hx rfl (hb hby d2_5) kT) ?_
 show Goes _ _ _ _ (s₁.setTop (mkF m 6 #[.val (.ref a), .val (.ref b)] [.null, (.int (0 : Int32)), (.int (0 : Int32)), (.ref b), (.ref a)]))
 obtain ⟨_, _, ⟨T2, L2, k2, n2⟩, -, X2, hSr2, hgr2, ⟨Lc2, hQ2, l2, y2, z2, C2⟩, st2⟩ := X0.specialBackS hx (y := (⟨"java/lang/String", "<init>", "([CIILjava/lang/Void;)V"⟩ : MethodName)) rfl hown (mvT hZ (hw11 hw)) (mvT hZ (hw12 hw)) (mvT hZ (hw14 hw)) (by decide) (own_backW (W := 0) (xs := [a]) (rm_s4e l Z a0 hw [] a b h0 n0 Z0 P0 P1 P2 g_a) hZ (hw14 hw) (hw6 hw) (by decide) (by decide) (own_EW hw) CR0.1 (allS ⟨P0.lt, sf0_a⟩ all0)) (g := (mkF m 6 #[.val (.ref a), .val (.ref b)] [.null, (.int (0 : Int32)), (.int (0 : Int32)), (.ref b), (.ref a)])) rfl (by rw [hml]; rfl) (Steps.refl _) (a := a) (argsL := [(.ref b), (.int (0 : Int32)), (.int (0 : Int32)), .null]) (rest := []) (lenOf pd_0 rfl) rfl (by show 2 * 0 + _ ≤ _; exact Nat.le_of_eq rfl) (hb hby d2_6) (fun _ _ => ⟨rfl, e0, (by decide : 0 + 4 ≤ _), (by decide : 0 + 8 ≤ _)⟩)
 dsimp only [Pt.U, Pt.locs, Pt.cells, Pt.slots] at X2 l2 y2 z2 st2 hQ2 hSr2 hgr2 C2
 subst l2 y2 z2
 obtain ⟨X2, hS2, hZ2, hown2⟩ := rebS hS0 (by rw [e0]; exact hk0) X2 hSr2 hgr2 hZ hown
 obtain ⟨t2, kb2, rfl, N2q, K2, F2_0, ne2_0⟩ := hQ2
 have N2 := Fr.app N0 N2q
 have F2_0E := F2_0.1
 have CR3 : CHr Z EL s.vm h0 T2.vm T2.heap := CR0.trans (C2)
 have sf3_a : Safe Z EL T2.vm T2.heap a := C2.safe P0.lt sf0_a
 refine Goes.tr st2 ?_
 show Goes _ _ _ _ (T2.setTop (mkF m 9 #[.val (.ref a), .val (.ref b)] []))
 have kp4 : Keep h0 T2.heap [a] := (Keep.refl h0 [a]).trans K2 (allS (Or.inl (List.mem_of_getElem? (i := 0) rfl)) all0)
 obtain ⟨fs, hr, hrun, hended, hRW⟩ := X2.leaveW hS2 (Nat.le_refl _) (v := none) (fun _ => rfl)
 subst hQQ
 have hCR : CHr Z EL s.vm s.heap T2.vm T2.heap := by rw [hh]; exact CR3.trans (CHv.at X2 hZ2 (own_EW hw) CR3.1)
 refine ⟨_, _, X2.returnOut hx Bd.returns (hb hby d2_9) hr, hrun, hended, _, _, rfl, ?_, hCR, own_REmono hRW (by decide) (by decide)⟩
 show Q_s1e Z a b kc h0 n0 _ T2.heap _
 exact ⟨t2, kb2, rfl, N2, kp4, F2_0, ne2_0⟩
theorem ef_canE (m : MethodId) (cc : Int32) : entryFrame m #[(.int cc)] 1 = (mkF m 0 #[.val (.int cc)] []) := by first | (simp [entryFrame, mkF, argsToLocals, Value.category]; done) | rfl
def Q_canE (Z : State) (cc : Int32) (h0 : Heap) (n0 : Nat) (v : Option Value) (h : Heap) (L : List Loc) : Prop := v = some (.int (1 : Int32)) ∧ Fr n0 L ∧ h = h0
set_option maxRecDepth 65536 in
set_option maxHeartbeats 40000000 in
theorem rm_canE (l : Launch) (Z : State) (a0 : Array Value) (hw : ∀ d ∈ tables_1, d.before a0 Z = true) (ws : List Jvm.Cond) (cc : Int32) (h0 : Heap) (n0 : Nat) (Z0 : n0 ≤ h0.size) (rg_cc : ¬ cc < 0 ∧ ¬ (255 : Int32) < cc) :
    MetFree l (⟨"java/lang/StringLatin1", "canEncode", "(C)Z"⟩ : MethodName) (head1 (Jvm.Cond.code (⟨"java/lang/StringLatin1", "canEncode", "(C)Z"⟩ : MethodName) jdk_43_method_3_code 1 (some .boolean) :: ws) ({ frames := 0, cells := 0, slots := 0, locals := 0 } : Room)) (fun aR U => aR = #[(.int cc)] ∧ Z.Warmed39 U.vm ∧ U.heap = h0) (fun _ _ _ _ _ => True) (fun _ U o U' => ∃ v L, o = .returned v ∧ Q_canE Z cc h0 n0 v U'.heap L ∧ FrameEnd U o U' L ({ frames := 0, cells := 0, slots := 0, locals := 0 } : Room).cells ({ frames := 0, cells := 0, slots := 0, locals := 0 } : Room).slots) := by
 refine MetFree.of_bodySF (plainFor_of_name pn_1) hisR ?_
 intro p e s m args below meth c s₁ Bd hml0 hP hK
 obtain ⟨rfl, hZ, hh⟩ := hP
 have hx := Bd.exec
 have hby := Bd.bytes
 have hml : c.maxLocals = 1 := hml0
 have hown : s.vm.findClass "java/lang/StringLatin1" = some m.cls := findClass_of_methodNamed Bd.named
 have hnm := (name_of_methodNamed Bd.named Bd.method).1
 have X0 : Stand p l e ({ frames := 0, cells := 0, slots := 0, locals := 0 } : Room) s m #[(.int cc)] below meth c s₁ [] 0 0 := Stand.of_body Bd
 have e0 : s₁.heap = h0 := by rw [← hh, Bd.state]; rfl
 have N0 := Fr.nil n0
 show Goes p.tables e below _ _
 rw [ef_canE m cc]
 refine Goes.named ?_
 intro QQ hQQ
 refine Goes.st (fun sT kT => XS.iloadN X0.here hx rfl (hb hby d9_0) rfl kT) ?_
 show Goes _ _ _ _ (s₁.setTop (mkF m 1 #[.val (.int cc)] [(.int cc)]))
 refine Goes.st (fun sT kT => XS.sipush X0.here hx rfl (hb hby d9_1) kT) ?_
 show Goes _ _ _ _ (s₁.setTop (mkF m 4 #[.val (.int cc)] [(.int (255 : Int32)), (.int cc)]))
 refine Goes.st (fun sT kT => XS.icmpNo X0.here hx rfl (hb hby d9_4) rfl (flt rg_cc.2).2.2.1 kT) ?_
 show Goes _ _ _ _ (s₁.setTop (mkF m 7 #[.val (.int cc)] []))
 refine Goes.st (fun sT kT => XS.iconst X0.here hx rfl (hb hby d9_7) kT) ?_
 show Goes _ _ _ _ (s₁.setTop (mkF m 8 #[.val (.int cc)] [(.int (1 : Int32))]))
 refine Goes.st (fun sT kT => XS.goto X0.here hx rfl (pc0 := 8) (pc' := 12) rfl (hb hby d9_8) (by decide) (by decide) kT) ?_
 show Goes _ _ _ _ (s₁.setTop (mkF m 12 #[.val (.int cc)] [(.int (1 : Int32))]))
 obtain ⟨fs, hr, hrun, hended, hW, hsame⟩ := X0.leave (v := some (.int (1 : Int32))) (fun h => by rw [Bd.returns] at h; cases h)
 subst hQQ
 refine ⟨_, _, retN X0 hx (t := .boolean) Bd.returns (by simp) (hb hby d9_12) hr, hrun, hended, _, _, rfl, ?_, ⟨_, rfl⟩, hW, hsame.mono (by decide) (by decide)⟩
 show Q_canE Z cc h0 n0 _ s₁.heap _
 rw [e0]
 exact ⟨rfl, N0, rfl⟩
theorem ef_toB (m : MethodId) (cc : Int32) : entryFrame m #[(.int cc)] 1 = (mkF m 0 #[.val (.int cc)] []) := by first | (simp [entryFrame, mkF, argsToLocals, Value.category]; done) | rfl
def Q_toB (Z : State) (cc : Int32) (h0 : Heap) (n0 : Nat) (v : Option Value) (h : Heap) (L : List Loc) : Prop := ∃ (t : Addr) (kb : ClassId), v = some (.ref t) ∧ Fr n0 L ∧ Keep h0 h [] ∧ Arv Z h t kb .byte (1 : Int32) [(.int (cc.toInt8.toInt32))] (.int (0 : Int32)) ∧ h0.size ≤ t
set_option maxRecDepth 65536 in
set_option maxHeartbeats 40000000 in
theorem rm_toB (l : Launch) (Z : State) (a0 : Array Value) (hw : ∀ d ∈ tables_1, d.before a0 Z = true) (ws : List Jvm.Cond) (cc : Int32) (h0 : Heap) (n0 : Nat) (Z0 : n0 ≤ h0.size) :
    MetFree l (⟨"java/lang/StringLatin1", "toBytes", "(C)[B"⟩ : MethodName) (head1 (Jvm.Cond.code (⟨"java/lang/StringLatin1", "toBytes", "(C)[B"⟩ : MethodName) jdk_43_method_46_code 1 (some (.array .byte)) :: ws) ({ frames := 0, cells := 1, slots := 1, locals := 0 } : Room)) (fun aR U => aR = #[(.int cc)] ∧ Z.Warmed39 U.vm ∧ U.heap = h0) (fun _ _ _ _ _ => True) (fun _ U o U' => ∃ v L, o = .returned v ∧ Q_toB Z cc h0 n0 v U'.heap L ∧ FrameEnd U o U' L ({ frames := 0, cells := 1, slots := 1, locals := 0 } : Room).cells ({ frames := 0, cells := 1, slots := 1, locals := 0 } : Room).slots) := by
 refine MetFree.of_bodySF (plainFor_of_name pn_1) hisR ?_
 intro p e s m args below meth c s₁ Bd hml0 hP hK
 obtain ⟨rfl, hZ, hh⟩ := hP
 have hx := Bd.exec
 have hby := Bd.bytes
 have hml : c.maxLocals = 1 := hml0
 have hown : s.vm.findClass "java/lang/StringLatin1" = some m.cls := findClass_of_methodNamed Bd.named
 have hnm := (name_of_methodNamed Bd.named Bd.method).1
 have X0 : Stand p l e ({ frames := 0, cells := 1, slots := 1, locals := 0 } : Room) s m #[(.int cc)] below meth c s₁ [] 0 0 := Stand.of_body Bd
 have e0 : s₁.heap = h0 := by rw [← hh, Bd.state]; rfl
 have N0 := Fr.nil n0
 show Goes p.tables e below _ _
 rw [ef_toB m cc]
 refine Goes.named ?_
 intro QQ hQQ
 refine Goes.st (fun sT kT => XS.iconst X0.here hx rfl (hb hby d10_0) kT) ?_
 show Goes _ _ _ _ (s₁.setTop (mkF m 1 #[.val (.int cc)] [(.int (1 : Int32))]))
 obtain ⟨T1, h1, k1, X1, e1, E1, A1, st1⟩ := newP X0 hx hZ (aty := .byte) (hw23 hw) e0 (g := (mkF m 1 #[.val (.int cc)] [(.int (1 : Int32))])) rfl (hb hby d10_1) rfl (by decide) (cap := 1) (by decide) (by decide) (by decide) (by decide)
 obtain ⟨b1, g1⟩ : ∃ z, z = h0.size := ⟨_, rfl⟩
 rw [← g1] at A1 st1
 have V1 : Arv Z h1 b1 k1 .byte (1 : Int32) [(.int (0 : Int32))] (.int (0 : Int32)) := (Arv.new A1 (by decide)).pad (pad_rep [] (.int (0 : Int32)) 1)
 refine Goes.st st1 ?_
 show Goes _ _ _ _ (T1.setTop (mkF m 3 #[.val (.int cc)] [(.ref b1)]))
 refine Goes.st (fun sT kT => XS.dup X1.here hx rfl (hb hby d10_3) rfl rfl kT) ?_
 show Goes _ _ _ _ (T1.setTop (mkF m 4 #[.val (.int cc)] [(.ref b1), (.ref b1)]))
 refine Goes.st (fun sT kT => XS.iconst X1.here hx rfl (hb hby d10_4) kT) ?_
 show Goes _ _ _ _ (T1.setTop (mkF m 5 #[.val (.int cc)] [(.int (0 : Int32)), (.ref b1), (.ref b1)]))
 refine Goes.st (fun sT kT => XS.iloadN X1.here hx rfl (hb hby d10_5) rfl kT) ?_
 show Goes _ _ _ _ (T1.setTop (mkF m 6 #[.val (.int cc)] [(.int cc), (.int (0 : Int32)), (.ref b1), (.ref b1)]))
 refine Goes.st (fun sT kT => XS.i2b X1.here hx rfl (hb hby d10_6) rfl kT) ?_
 show Goes _ _ _ _ (T1.setTop (mkF m 7 #[.val (.int cc)] [(.int (cc.toInt8.toInt32)), (.int (0 : Int32)), (.ref b1), (.ref b1)]))
 obtain ⟨oc2, oA2, oq2, oS2, oM2, oH2, oG2⟩ := id V1
 obtain ⟨T3, h3, X3, e3, W3, st3⟩ := stB X1 hx hZ e1 oA2 (j := (0 : Int32)) (inb_of oS2 ⟨by decide, by decide⟩) (g := (mkF m 7 #[.val (.int cc)] [(.int (cc.toInt8.toInt32)), (.int (0 : Int32)), (.ref b1), (.ref b1)])) rfl rfl (hb hby d10_7)
 rw [own_narb] at W3
 have V3 : Arv Z h3 b1 k1 .byte (1 : Int32) [(.int (cc.toInt8.toInt32))] (.int (0 : Int32)) := Arv.set oA2 oq2 oS2 oM2 oH2 oG2 (own_fitsb _) W3 0 rfl (Nat.le_of_ble_eq_true rfl)
 have N3 := Fr.snoc X3 N0 (Nat.le_trans Z0 (Nat.le_of_eq g1.symm))
 refine Goes.st st3 ?_
 show Goes _ _ _ _ (T3.setTop (mkF m 8 #[.val (.int cc)] [(.ref b1)]))
 have kp4 : Keep h0 h1 [] := (Keep.refl h0 []).ext E1
 have kp5 : Keep h0 h3 [] := kp4.wr W3 (Or.inr (Nat.le_of_eq g1.symm))
 obtain ⟨fs, hr, hrun, hended, hW, hsame⟩ := X3.leave (v := some (.ref b1)) (fun h => by rw [Bd.returns] at h; cases h)
 subst hQQ
 refine ⟨_, _, retR X3 hx Bd.returns rfl rfl (hb hby d10_8) hr, hrun, hended, _, _, rfl, ?_, ⟨_, rfl⟩, hW, hsame.mono (by decide) (by decide)⟩
 show Q_toB Z cc h0 n0 _ T3.heap _
 rw [e3]
 exact ⟨b1, k1, rfl, N3, kp5, V3, (Nat.le_of_eq g1.symm)⟩
theorem ef_sBB (m : MethodId) (a : Addr) (t : Addr) : entryFrame m #[(.ref a), (.ref t), (.int (0 : Int32))] 3 = (mkF m 0 #[.val (.ref a), .val (.ref t), .val (.int (0 : Int32))] []) := by first | (simp [entryFrame, mkF, argsToLocals, Value.category]; done) | rfl
def Q_sBB (Z : State) (a : Addr) (t : Addr) (h0 : Heap) (n0 : Nat) (v : Option Value) (h : Heap) (L : List Loc) : Prop := v = none ∧ Fr n0 L ∧ Keep h0 h [a] ∧ Exa Z h a "java/lang/String" ∧ Fld Z h a "java/lang/String" "value" "[B" (.ref t) ∧ Fld Z h a "java/lang/String" "coder" "B" (.int (0 : Int32))
set_option maxRecDepth 65536 in
set_option maxHeartbeats 40000000 in
theorem rm_sBB (l : Launch) (Z : State) (a0 : Array Value) (hw : ∀ d ∈ tables_1, d.before a0 Z = true) (ws : List Jvm.Cond) (a : Addr) (t : Addr) (h0 : Heap) (n0 : Nat) (Z0 : n0 ≤ h0.size) (P0 : Exa Z h0 a "java/lang/String") (P1 : Fld Z h0 a "java/lang/String" "value" "[B" .null) (P2 : Fld Z h0 a "java/lang/String" "coder" "B" (.int (0 : Int32))) (g_a : n0 ≤ a) :
    MetFree l (⟨"java/lang/String", "<init>", "([BB)V"⟩ : MethodName) (head1 (Jvm.Cond.code (⟨"java/lang/String", "<init>", "([BB)V"⟩ : MethodName) jdk_42_method_151_code 3 none :: ws) ({ frames := 1, cells := 0, slots := 0, locals := 12 } : Room)) (fun aR U => aR = #[(.ref a), (.ref t), (.int (0 : Int32))] ∧ Z.Warmed39 U.vm ∧ U.heap = h0) (fun _ _ _ _ _ => True) (fun _ U o U' => ∃ v L, o = .returned v ∧ Q_sBB Z a t h0 n0 v U'.heap L ∧ FrameEnd U o U' L ({ frames := 1, cells := 0, slots := 0, locals := 12 } : Room).cells ({ frames := 1, cells := 0, slots := 0, locals := 12 } : Room).slots) := by
 refine MetFree.of_bodySF (plainFor_of_name pn_0) hisR ?_
 intro p e s m args below meth c s₁ Bd hml0 hP hK
 obtain ⟨rfl, hZ, hh⟩ := hP
 have hx := Bd.exec
 have hby := Bd.bytes
 have hml : c.maxLocals = 3 := hml0
 have hown : s.vm.findClass "java/lang/String" = some m.cls := findClass_of_methodNamed Bd.named
 have hnm := (name_of_methodNamed Bd.named Bd.method).1
 have X0 : Stand p l e ({ frames := 1, cells := 0, slots := 0, locals := 12 } : Room) s m #[(.ref a), (.ref t), (.int (0 : Int32))] below meth c s₁ [] 0 0 := Stand.of_body Bd
 have e0 : s₁.heap = h0 := by rw [← hh, Bd.state]; rfl
 have N0 := Fr.nil n0
 show Goes p.tables e below _ _
 rw [ef_sBB m a t]
 refine Goes.named ?_
 intro QQ hQQ
 refine Goes.st (fun sT kT => XS.aloadN X0.here hx rfl (hb hby d11_0) rfl rfl kT) ?_
 show Goes _ _ _ _ (s₁.setTop (mkF m 1 #[.val (.ref a), .val (.ref t), .val (.int (0 : Int32))] [(.ref a)]))
 obtain ⟨T1, X1, e1, st1⟩ := initO X0 hx hZ hown (hw15 hw) (hw16 hw) (hw17 hw) e0 (g := (mkF m 1 #[.val (.ref a), .val (.ref t), .val (.int (0 : Int32))] [(.ref a)])) rfl (by rw [hml]; rfl) rfl (hb hby d11_1) (by decide) (W := 0) (by show 2 * 0 + _ ≤ _; exact Nat.le_of_eq rfl) (by decide)
 refine Goes.st st1 ?_
 show Goes _ _ _ _ (T1.setTop (mkF m 4 #[.val (.ref a), .val (.ref t), .val (.int (0 : Int32))] []))
 refine Goes.st (fun sT kT => XS.aloadN X1.here hx rfl (hb hby d11_4) rfl rfl kT) ?_
 show Goes _ _ _ _ (T1.setTop (mkF m 5 #[.val (.ref a), .val (.ref t), .val (.int (0 : Int32))] [(.ref a)]))
 refine Goes.st (fun sT kT => XS.aloadN X1.here hx rfl (hb hby d11_5) rfl rfl kT) ?_
 show Goes _ _ _ _ (T1.setTop (mkF m 6 #[.val (.ref a), .val (.ref t), .val (.int (0 : Int32))] [(.ref t), (.ref a)]))
 obtain ⟨T2, h2, X2, e2, W2, st2⟩ := putF X1 hx hZ hown (host := "") (Or.inl (hw32 hw)) Via.refl e1 P1 P0 (Or.inr ⟨(hw33 hw), rfl, hnm⟩) (hw5 hw) (ty := (.array .byte)) (by decide) rfl rfl (g := (mkF m 6 #[.val (.ref a), .val (.ref t), .val (.int (0 : Int32))] [(.ref t), (.ref a)])) rfl rfl (hb hby d11_6)
 have N2 := Fr.snoc X2 N0 g_a
 have F2 := P1.same W2
 refine Goes.st st2 ?_
 show Goes _ _ _ _ (T2.setTop (mkF m 9 #[.val (.ref a), .val (.ref t), .val (.int (0 : Int32))] []))
 refine Goes.st (fun sT kT => XS.aloadN X2.here hx rfl (hb hby d11_9) rfl rfl kT) ?_
 show Goes _ _ _ _ (T2.setTop (mkF m 10 #[.val (.ref a), .val (.ref t), .val (.int (0 : Int32))] [(.ref a)]))
 refine Goes.st (fun sT kT => XS.iloadN X2.here hx rfl (hb hby d11_10) rfl kT) ?_
 show Goes _ _ _ _ (T2.setTop (mkF m 11 #[.val (.ref a), .val (.ref t), .val (.int (0 : Int32))] [(.int (0 : Int32)), (.ref a)]))
 have f3 : Exa Z h2 a "java/lang/String" := (P0.wr W2)
 have f4 : Fld Z h2 a "java/lang/String" "coder" "B" (.int (0 : Int32)) := (P2.other W2 (Or.inr (slot_ne (Or.inr (hw31 hw)) (Or.inr (hw33 hw)) (by decide) (t := .byte) (t' := (.array .byte)) (by decide) (by decide))))
 obtain ⟨T5, h5, X5, e5, W5, st5⟩ := putFN X2 hx hZ hown (hw30 hw) Via.refl e2 f4 f3 (Or.inr ⟨(hw31 hw), rfl, hnm⟩) (hw5 hw) (ty := .byte) (v' := (.int (0 : Int32))) (by decide) rfl (by decide) (g := (mkF m 11 #[.val (.ref a), .val (.ref t), .val (.int (0 : Int32))] [(.int (0 : Int32)), (.ref a)])) rfl rfl (hb hby d11_11)
 have N5 := Fr.snoc X5 N2 g_a
 have F5 := f4.same W5
 refine Goes.st st5 ?_
 show Goes _ _ _ _ (T5.setTop (mkF m 14 #[.val (.ref a), .val (.ref t), .val (.int (0 : Int32))] []))
 have kp6 : Keep h0 h2 [a] := (Keep.refl h0 [a]).wr W2 (Or.inl (List.mem_of_getElem? (i := 0) rfl))
 have kp7 : Keep h0 h5 [a] := kp6.wr W5 (Or.inl (List.mem_of_getElem? (i := 0) rfl))
 have f8 : Exa Z h5 a "java/lang/String" := (f3.wr W5)
 have f9 : Fld Z h5 a "java/lang/String" "value" "[B" (.ref t) := (F2.other W5 (Or.inr (slot_ne (Or.inr (hw33 hw)) (Or.inr (hw31 hw)) (by decide) (t := (.array .byte)) (t' := .byte) (by decide) (by decide))))
 obtain ⟨fs, hr, hrun, hended, hW, hsame⟩ := X5.leave (v := none) (fun _ => rfl)
 subst hQQ
 refine ⟨_, _, X5.returnOut hx Bd.returns (hb hby d11_14) hr, hrun, hended, _, _, rfl, ?_, ⟨_, rfl⟩, hW, hsame.mono (by decide) (by decide)⟩
 show Q_sBB Z a t h0 n0 _ T5.heap _
 rw [e5]
 exact ⟨rfl, N5, kp7, f8, f9, F5⟩
theorem ef_valC (m : MethodId) (cc : Int32) (G1 : Int32) : entryFrame m #[(.int cc)] 1 = (mkF m 0 #[.val (.int cc)] []) := by first | (simp [entryFrame, mkF, argsToLocals, Value.category]; done) | rfl
def Q_valC (Z : State) (cc : Int32) (G1 : Int32) (h0 : Heap) (n0 : Nat) (v : Option Value) (h : Heap) (L : List Loc) : Prop := ∃ (r : Addr) (t : Addr) (kb : ClassId), v = some (.ref r) ∧ Fr n0 L ∧ Keep h0 h [] ∧ Str Z h r t kb [cc] ∧ h0.size ≤ r ∧ h0.size ≤ t ∧ r ≠ t
set_option maxRecDepth 65536 in
set_option maxHeartbeats 40000000 in
theorem rm_valC (l : Launch) (Z : State) (a0 : Array Value) (hw : ∀ d ∈ tables_1, d.before a0 Z = true) (ws : List Jvm.Cond) (cc : Int32) (G1 : Int32) (h0 : Heap) (n0 : Nat) (Z0 : n0 ≤ h0.size) (P0 : Old Z n0 h0) (rg_cc : ¬ cc < 0 ∧ ¬ (255 : Int32) < cc) (O2 : Sta Z Z.heap "java/lang/String" "COMPACT_STRINGS" "Z" (.int G1)) (P5 : ¬ (G1 = (0 : Int32))) :
    MetFree l (⟨"java/lang/String", "valueOf", "(C)Ljava/lang/String;"⟩ : MethodName) (head1 (Jvm.Cond.code (⟨"java/lang/String", "valueOf", "(C)Ljava/lang/String;"⟩ : MethodName) jdk_42_method_139_code 1 (some (.object "java/lang/String")) :: ws) ({ frames := 2, cells := 2, slots := 5, locals := 27 } : Room)) (fun aR U => aR = #[(.int cc)] ∧ Z.Warmed39 U.vm ∧ U.heap = h0) (fun _ _ _ _ _ => True) (fun _ U o U' => ∃ v L, o = .returned v ∧ Q_valC Z cc G1 h0 n0 v U'.heap L ∧ FrameEnd U o U' L ({ frames := 2, cells := 2, slots := 5, locals := 27 } : Room).cells ({ frames := 2, cells := 2, slots := 5, locals := 27 } : Room).slots) := by
 refine MetFree.of_bodySF (plainFor_of_name pn_0) hisR ?_
 intro p e s m args below meth c s₁ Bd hml0 hP hK
 obtain ⟨rfl, hZ, hh⟩ := hP
 have hx := Bd.exec
 have hby := Bd.bytes
 have hml : c.maxLocals = 1 := hml0
 have hown : s.vm.findClass "java/lang/String" = some m.cls := findClass_of_methodNamed Bd.named
 have hnm := (name_of_methodNamed Bd.named Bd.method).1
 have X0 : Stand p l e ({ frames := 2, cells := 2, slots := 5, locals := 27 } : Room) s m #[(.int cc)] below meth c s₁ [] 0 0 := Stand.of_body Bd
 have e0 : s₁.heap = h0 := by rw [← hh, Bd.state]; rfl
 have N0 := Fr.nil n0
 show Goes p.tables e below _ _
 rw [ef_valC m cc G1]
 refine Goes.named ?_
 intro QQ hQQ
 obtain ⟨T1, X1, e1, st1⟩ := getS2 X0 hx hZ hown (host := "") (Or.inl (hw18 hw)) Via.refl e0 (O2.ext P0.2) (g := (mkF m 0 #[.val (.int cc)] [])) rfl (hb hby d8_0)
 refine Goes.st st1 ?_
 show Goes _ _ _ _ (T1.setTop (mkF m 3 #[.val (.int cc)] [(.int G1)]))
 refine Goes.st (fun sT kT => XS.ifNo X1.here hx rfl (hb hby d8_3) rfl ((if0 _ _).trans (feq P5).1) kT) ?_
 show Goes _ _ _ _ (T1.setTop (mkF m 6 #[.val (.int cc)] []))
 refine Goes.st (fun sT kT => XS.iloadN X1.here hx rfl (hb hby d8_6) rfl kT) ?_
 show Goes _ _ _ _ (T1.setTop (mkF m 7 #[.val (.int cc)] [(.int cc)]))
 obtain ⟨_, _, ⟨T2, L2, k2, n2⟩, -, X2, ⟨Lc2, hQ2, l2, y2, z2⟩, st2⟩ := Jvm.LawKit.callS X1 hx (y := (⟨"java/lang/StringLatin1", "canEncode", "(C)Z"⟩ : MethodName)) hown (mvT hZ (hw37 hw)) (mvT hZ (hw38 hw)) (mvT hZ (hw39 hw)) (mvT hZ (hw40 hw)) (by decide) (backOf (W := 0) (rm_canE l Z a0 hw [] cc h0 n0 Z0 rg_cc) hZ (hw40 hw) (hw39 hw) (by decide) (by decide)) (g := (mkF m 7 #[.val (.int cc)] [(.int cc)])) rfl (by rw [hml]; rfl) (argsL := [(.int cc)]) (rest := []) (lenOf pd_1 rfl) rfl (by show 2 * 0 + _ ≤ _; exact Nat.le_of_eq rfl) (hb hby d8_7) (fun _ _ => ⟨rfl, e1, (by decide : 0 + 0 ≤ _), (by decide : 0 + 0 ≤ _)⟩)
 dsimp only [Pt.U, Pt.locs, Pt.cells, Pt.slots] at X2 l2 y2 z2 st2 hQ2
 subst l2 y2 z2
 obtain ⟨rfl, N2q, K2⟩ := hQ2
 have N2 := Fr.app N0 N2q
 refine Goes.st st2 ?_
 show Goes _ _ _ _ (T2.setTop (mkF m 10 #[.val (.int cc)] [(.int (1 : Int32))]))
 refine Goes.st (fun sT kT => XS.ifNo X2.here hx rfl (hb hby d8_10) rfl ((if0 _ _).trans (feq (by decide : ¬ ((1 : Int32) = (0 : Int32)))).1) kT) ?_
 show Goes _ _ _ _ (T2.setTop (mkF m 13 #[.val (.int cc)] []))
 obtain ⟨T3, h3, X3, e3, E3, A3, D3, -, st3⟩ := newO X2 hx hZ hown (hw41 hw) (hw5 hw) (hw6 hw) K2 (g := (mkF m 13 #[.val (.int cc)] [])) rfl (hb hby d8_13) (by decide) (by decide)
 obtain ⟨b3, g3⟩ : ∃ z, z = h0.size := ⟨_, rfl⟩
 rw [← g3] at A3 D3 st3
 have F3_coder : Fld Z h3 b3 "java/lang/String" "coder" "B" (.int (0 : Int32)) := D3 (Or.inr (hw31 hw)) (ty := .byte) (by decide)
 have F3_value : Fld Z h3 b3 "java/lang/String" "value" "[B" .null := D3 (Or.inr (hw33 hw)) (ty := (.array .byte)) (by decide)
 refine Goes.st st3 ?_
 show Goes _ _ _ _ (T3.setTop (mkF m 16 #[.val (.int cc)] [(.ref b3)]))
 refine Goes.st (fun sT kT => XS.dup X3.here hx rfl (hb hby d8_16) rfl rfl kT) ?_
 show Goes _ _ _ _ (T3.setTop (mkF m 17 #[.val (.int cc)] [(.ref b3), (.ref b3)]))
 refine Goes.st (fun sT kT => XS.iloadN X3.here hx rfl (hb hby d8_17) rfl kT) ?_
 show Goes _ _ _ _ (T3.setTop (mkF m 18 #[.val (.int cc)] [(.int cc), (.ref b3), (.ref b3)]))
 obtain ⟨_, _, ⟨T4, L4, k4, n4⟩, -, X4, ⟨Lc4, hQ4, l4, y4, z4⟩, st4⟩ := Jvm.LawKit.callS X3 hx (y := (⟨"java/lang/StringLatin1", "toBytes", "(C)[B"⟩ : MethodName)) hown (mvT hZ (hw42 hw)) (mvT hZ (hw43 hw)) (mvT hZ (hw39 hw)) (mvT hZ (hw44 hw)) (by decide) (backOf (W := 2) (rm_toB l Z a0 hw [] cc h3 n0 (Nat.le_trans Z0 E3.1) ) hZ (hw44 hw) (hw39 hw) (by decide) (by decide)) (g := (mkF m 18 #[.val (.int cc)] [(.int cc), (.ref b3), (.ref b3)])) rfl (by rw [hml]; rfl) (argsL := [(.int cc)]) (rest := [(.ref b3), (.ref b3)]) (lenOf pd_2 rfl) rfl (by show 2 * 0 + _ ≤ _; exact Nat.le_of_eq rfl) (hb hby d8_18) (fun _ _ => ⟨rfl, e3, (by decide : 1 + 1 ≤ _), (by decide : 4 + 1 ≤ _)⟩)
 dsimp only [Pt.U, Pt.locs, Pt.cells, Pt.slots] at X4 l4 y4 z4 st4 hQ4
 subst l4 y4 z4
 obtain ⟨t4, kb4, rfl, N4q, K4, F4_0, lo4_0⟩ := hQ4
 have N4 := Fr.app N2 N4q
 refine Goes.st st4 ?_
 show Goes _ _ _ _ (T4.setTop (mkF m 21 #[.val (.int cc)] [(.ref t4), (.ref b3), (.ref b3)]))
 refine Goes.st (fun sT kT => XS.iconst X4.here hx rfl (hb hby d8_21) kT) ?_
 show Goes _ _ _ _ (T4.setTop (mkF m 22 #[.val (.int cc)] [(.int (0 : Int32)), (.ref t4), (.ref b3), (.ref b3)]))
 have f6 : Exa Z T4.heap b3 "java/lang/String" := (A3.keep K4)
 have f7 : Fld Z T4.heap b3 "java/lang/String" "value" "[B" .null := (F3_value.keep K4 nin0)
 have f8 : Fld Z T4.heap b3 "java/lang/String" "coder" "B" (.int (0 : Int32)) := (F3_coder.keep K4 nin0)
 obtain ⟨_, _, ⟨T5, L5, k5, n5⟩, -, X5, ⟨Lc5, hQ5, l5, y5, z5⟩, st5⟩ := X4.specialBack hx (y := (⟨"java/lang/String", "<init>", "([BB)V"⟩ : MethodName)) rfl hown (mvT hZ (hw45 hw)) (mvT hZ (hw46 hw)) (mvT hZ (hw47 hw)) (by decide) (backOf (W := 1) (rm_sBB l Z a0 hw [] b3 t4 T4.heap n0 (Nat.le_trans Z0 (Nat.le_trans E3.1 K4.1)) f6 f7 f8 (Nat.le_trans Z0 (Nat.le_of_eq g3.symm))) hZ (hw47 hw) (hw6 hw) (by decide) (by decide)) (g := (mkF m 22 #[.val (.int cc)] [(.int (0 : Int32)), (.ref t4), (.ref b3), (.ref b3)])) rfl (by rw [hml]; rfl) (Steps.refl _) (a := b3) (argsL := [(.ref t4), (.int (0 : Int32))]) (rest := [(.ref b3)]) (lenOf pd_3 rfl) rfl (by show 2 * 0 + _ ≤ _; exact Nat.le_of_eq rfl) (hb hby d8_22) (fun _ _ => ⟨rfl, rfl, (by decide : 2 + 0 ≤ _), (by decide : 5 + 0 ≤ _)⟩)
 dsimp only [Pt.U, Pt.locs, Pt.cells, Pt.slots] at X5 l5 y5 z5 st5 hQ5
 subst l5 y5 z5
 obtain ⟨rfl, N5q, K5, F5_0, F5_1, F5_2⟩ := hQ5
 have N5 := Fr.app N4 N5q
 refine Goes.tr st5 ?_
 show Goes _ _ _ _ (T5.setTop (mkF m 25 #[.val (.int cc)] [(.ref b3)]))
 have f10 : Arv Z T5.heap t4 kb4 .byte (1 : Int32) [(.int (cc.toInt8.toInt32))] (.int (0 : Int32)) := (F4_0.keep K5 (ninS (Ne.symm (Nat.ne_of_lt (Nat.lt_of_lt_of_le A3.lt lo4_0))) nin0))
 have S9 : Str Z T5.heap b3 t4 kb4 [cc] := ⟨F5_0, F5_1, F5_2, f10, own_cS rg_cc own_c0, Nat.le_of_ble_eq_true rfl⟩
 have kp11 : Keep h0 h3 [] := (Keep.refl h0 []).ext E3
 have kp12 : Keep h0 T4.heap [] := kp11.trans K4 all0
 have kp13 : Keep h0 T5.heap [] := kp12.trans K5 (allS (Or.inr (Nat.le_of_eq g3.symm)) all0)
 obtain ⟨fs, hr, hrun, hended, hW, hsame⟩ := X5.leave (v := some (.ref b3)) (fun h => by rw [Bd.returns] at h; cases h)
 subst hQQ
 refine ⟨_, _, retR X5 hx Bd.returns rfl rfl (hb hby d8_25) hr, hrun, hended, _, _, rfl, ?_, ⟨_, rfl⟩, hW, hsame.mono (by decide) (by decide)⟩
 show Q_valC Z cc G1 h0 n0 _ T5.heap _
 exact ⟨b3, t4, kb4, rfl, N5, kp13, S9, (Nat.le_of_eq g3.symm), (Nat.le_trans E3.1 lo4_0), (Nat.ne_of_lt (Nat.lt_of_lt_of_le A3.lt lo4_0))⟩
theorem ef_rec (m : MethodId) (a : Addr) : entryFrame m #[(.ref a)] 1 = (mkF m 0 #[.val (.ref a)] []) := by first | (simp [entryFrame, mkF, argsToLocals, Value.category]; done) | rfl
def Q_rec (Z : State) (a : Addr) (h0 : Heap) (n0 : Nat) (v : Option Value) (h : Heap) (L : List Loc) : Prop := v = none ∧ Fr n0 L ∧ h = h0
set_option maxRecDepth 65536 in
set_option maxHeartbeats 40000000 in
theorem rm_rec (l : Launch) (Z : State) (a0 : Array Value) (hw : ∀ d ∈ tables_1, d.before a0 Z = true) (ws : List Jvm.Cond) (a : Addr) (h0 : Heap) (n0 : Nat) (Z0 : n0 ≤ h0.size) :
    MetFree l (⟨"java/lang/Record", "<init>", "()V"⟩ : MethodName) (head1 (Jvm.Cond.code (⟨"java/lang/Record", "<init>", "()V"⟩ : MethodName) jdk_30_method_1_code 1 none :: ws) ({ frames := 1, cells := 0, slots := 0, locals := 12 } : Room)) (fun aR U => aR = #[(.ref a)] ∧ Z.Warmed39 U.vm ∧ U.heap = h0) (fun _ _ _ _ _ => True) (fun _ U o U' => ∃ v L, o = .returned v ∧ Q_rec Z a h0 n0 v U'.heap L ∧ FrameEnd U o U' L ({ frames := 1, cells := 0, slots := 0, locals := 12 } : Room).cells ({ frames := 1, cells := 0, slots := 0, locals := 12 } : Room).slots) := by
 refine MetFree.of_bodySF (plainFor_of_name pn_2) hisR ?_
 intro p e s m args below meth c s₁ Bd hml0 hP hK
 obtain ⟨rfl, hZ, hh⟩ := hP
 have hx := Bd.exec
 have hby := Bd.bytes
 have hml : c.maxLocals = 1 := hml0
 have hown : s.vm.findClass "java/lang/Record" = some m.cls := findClass_of_methodNamed Bd.named
 have hnm := (name_of_methodNamed Bd.named Bd.method).1
 have X0 : Stand p l e ({ frames := 1, cells := 0, slots := 0, locals := 12 } : Room) s m #[(.ref a)] below meth c s₁ [] 0 0 := Stand.of_body Bd
 have e0 : s₁.heap = h0 := by rw [← hh, Bd.state]; rfl
 have N0 := Fr.nil n0
 show Goes p.tables e below _ _
 rw [ef_rec m a]
 refine Goes.named ?_
 intro QQ hQQ
 refine Goes.st (fun sT kT => XS.aloadN X0.here hx rfl (hb hby d17_0) rfl rfl kT) ?_
 show Goes _ _ _ _ (s₁.setTop (mkF m 1 #[.val (.ref a)] [(.ref a)]))
 obtain ⟨T1, X1, e1, st1⟩ := initO X0 hx hZ hown (hw89 hw) (hw16 hw) (hw17 hw) e0 (g := (mkF m 1 #[.val (.ref a)] [(.ref a)])) rfl (by rw [hml]; rfl) rfl (hb hby d17_1) (by decide) (W := 0) (by show 2 * 0 + _ ≤ _; exact Nat.le_of_eq rfl) (by decide)
 refine Goes.st st1 ?_
 show Goes _ _ _ _ (T1.setTop (mkF m 4 #[.val (.ref a)] []))
 obtain ⟨fs, hr, hrun, hended, hW, hsame⟩ := X1.leave (v := none) (fun _ => rfl)
 subst hQQ
 refine ⟨_, _, X1.returnOut hx Bd.returns (hb hby d17_4) hr, hrun, hended, _, _, rfl, ?_, ⟨_, rfl⟩, hW, hsame.mono (by decide) (by decide)⟩
 show Q_rec Z a h0 n0 _ T1.heap _
 rw [e1]
 exact ⟨rfl, N0, rfl⟩
theorem ef_ac (m : MethodId) (a : Addr) : entryFrame m #[(.ref a)] 1 = (mkF m 0 #[.val (.ref a)] []) := by first | (simp [entryFrame, mkF, argsToLocals, Value.category]; done) | rfl
def Q_ac (Z : State) (a : Addr) (h0 : Heap) (n0 : Nat) (v : Option Value) (h : Heap) (L : List Loc) : Prop := v = none ∧ Fr n0 L ∧ h = h0
set_option maxRecDepth 65536 in
set_option maxHeartbeats 40000000 in
theorem rm_ac (l : Launch) (Z : State) (a0 : Array Value) (hw : ∀ d ∈ tables_1, d.before a0 Z = true) (ws : List Jvm.Cond) (a : Addr) (h0 : Heap) (n0 : Nat) (Z0 : n0 ≤ h0.size) :
    MetFree l (⟨"java/util/AbstractCollection", "<init>", "()V"⟩ : MethodName) (head1 (Jvm.Cond.code (⟨"java/util/AbstractCollection", "<init>", "()V"⟩ : MethodName) jdk_22_method_1_code 1 none :: ws) ({ frames := 1, cells := 0, slots := 0, locals := 12 } : Room)) (fun aR U => aR = #[(.ref a)] ∧ Z.Warmed39 U.vm ∧ U.heap = h0) (fun _ _ _ _ _ => True) (fun _ U o U' => ∃ v L, o = .returned v ∧ Q_ac Z a h0 n0 v U'.heap L ∧ FrameEnd U o U' L ({ frames := 1, cells := 0, slots := 0, locals := 12 } : Room).cells ({ frames := 1, cells := 0, slots := 0, locals := 12 } : Room).slots) := by
 refine MetFree.of_bodySF (plainFor_of_name pn_3) hisR ?_
 intro p e s m args below meth c s₁ Bd hml0 hP hK
 obtain ⟨rfl, hZ, hh⟩ := hP
 have hx := Bd.exec
 have hby := Bd.bytes
 have hml : c.maxLocals = 1 := hml0
 have hown : s.vm.findClass "java/util/AbstractCollection" = some m.cls := findClass_of_methodNamed Bd.named
 have hnm := (name_of_methodNamed Bd.named Bd.method).1
 have X0 : Stand p l e ({ frames := 1, cells := 0, slots := 0, locals := 12 } : Room) s m #[(.ref a)] below meth c s₁ [] 0 0 := Stand.of_body Bd
 have e0 : s₁.heap = h0 := by rw [← hh, Bd.state]; rfl
 have N0 := Fr.nil n0
 show Goes p.tables e below _ _
 rw [ef_ac m a]
 refine Goes.named ?_
 intro QQ hQQ
 refine Goes.st (fun sT kT => XS.aloadN X0.here hx rfl (hb hby d14_0) rfl rfl kT) ?_
 show Goes _ _ _ _ (s₁.setTop (mkF m 1 #[.val (.ref a)] [(.ref a)]))
 obtain ⟨T1, X1, e1, st1⟩ := initO X0 hx hZ hown (hw66 hw) (hw16 hw) (hw17 hw) e0 (g := (mkF m 1 #[.val (.ref a)] [(.ref a)])) rfl (by rw [hml]; rfl) rfl (hb hby d14_1) (by decide) (W := 0) (by show 2 * 0 + _ ≤ _; exact Nat.le_of_eq rfl) (by decide)
 refine Goes.st st1 ?_
 show Goes _ _ _ _ (T1.setTop (mkF m 4 #[.val (.ref a)] []))
 obtain ⟨fs, hr, hrun, hended, hW, hsame⟩ := X1.leave (v := none) (fun _ => rfl)
 subst hQQ
 refine ⟨_, _, X1.returnOut hx Bd.returns (hb hby d14_4) hr, hrun, hended, _, _, rfl, ?_, ⟨_, rfl⟩, hW, hsame.mono (by decide) (by decide)⟩
 show Q_ac Z a h0 n0 _ T1.heap _
 rw [e1]
 exact ⟨rfl, N0, rfl⟩
theorem ef_alI (m : MethodId) (a : Addr) : entryFrame m #[(.ref a)] 1 = (mkF m 0 #[.val (.ref a)] []) := by first | (simp [entryFrame, mkF, argsToLocals, Value.category]; done) | rfl
def Q_alI (Z : State) (a : Addr) (h0 : Heap) (n0 : Nat) (v : Option Value) (h : Heap) (L : List Loc) : Prop := v = none ∧ Fr n0 L ∧ Keep h0 h [a] ∧ Exa Z h a "java/util/ArrayList" ∧ Fld Z h a "java/util/ArrayList" "elementData" "[Ljava/lang/Object;" .null ∧ Fld Z h a "java/util/ArrayList" "size" "I" (.int (0 : Int32)) ∧ Fld Z h a "java/util/AbstractList" "modCount" "I" (.int (0 : Int32))
set_option maxRecDepth 65536 in
set_option maxHeartbeats 40000000 in
theorem rm_alI (l : Launch) (Z : State) (a0 : Array Value) (hw : ∀ d ∈ tables_1, d.before a0 Z = true) (ws : List Jvm.Cond) (a : Addr) (h0 : Heap) (n0 : Nat) (Z0 : n0 ≤ h0.size) (P0 : Exa Z h0 a "java/util/ArrayList") (P1 : Fld Z h0 a "java/util/ArrayList" "elementData" "[Ljava/lang/Object;" .null) (P2 : Fld Z h0 a "java/util/ArrayList" "size" "I" (.int (0 : Int32))) (P3 : Fld Z h0 a "java/util/AbstractList" "modCount" "I" (.int (0 : Int32))) (g_a : n0 ≤ a) :
    MetFree l (⟨"java/util/AbstractList", "<init>", "()V"⟩ : MethodName) (head1 (Jvm.Cond.code (⟨"java/util/AbstractList", "<init>", "()V"⟩ : MethodName) jdk_39_method_1_code 1 none :: ws) ({ frames := 2, cells := 0, slots := 0, locals := 24 } : Room)) (fun aR U => aR = #[(.ref a)] ∧ Z.Warmed39 U.vm ∧ U.heap = h0) (fun _ _ _ _ _ => True) (fun _ U o U' => ∃ v L, o = .returned v ∧ Q_alI Z a h0 n0 v U'.heap L ∧ FrameEnd U o U' L ({ frames := 2, cells := 0, slots := 0, locals := 24 } : Room).cells ({ frames := 2, cells := 0, slots := 0, locals := 24 } : Room).slots) := by
 refine MetFree.of_bodySF (plainFor_of_name pn_4) hisR ?_
 intro p e s m args below meth c s₁ Bd hml0 hP hK
 obtain ⟨rfl, hZ, hh⟩ := hP
 have hx := Bd.exec
 have hby := Bd.bytes
 have hml : c.maxLocals = 1 := hml0
 have hown : s.vm.findClass "java/util/AbstractList" = some m.cls := findClass_of_methodNamed Bd.named
 have hnm := (name_of_methodNamed Bd.named Bd.method).1
 have X0 : Stand p l e ({ frames := 2, cells := 0, slots := 0, locals := 24 } : Room) s m #[(.ref a)] below meth c s₁ [] 0 0 := Stand.of_body Bd
 have e0 : s₁.heap = h0 := by rw [← hh, Bd.state]; rfl
 have N0 := Fr.nil n0
 show Goes p.tables e below _ _
 rw [ef_alI m a]
 refine Goes.named ?_
 intro QQ hQQ
 refine Goes.st (fun sT kT => XS.aloadN X0.here hx rfl (hb hby d13_0) rfl rfl kT) ?_
 show Goes _ _ _ _ (s₁.setTop (mkF m 1 #[.val (.ref a)] [(.ref a)]))
 obtain ⟨_, _, ⟨T1, L1, k1, n1⟩, -, X1, ⟨Lc1, hQ1, l1, y1, z1⟩, st1⟩ := X0.specialBack hx (y := (⟨"java/util/AbstractCollection", "<init>", "()V"⟩ : MethodName)) rfl hown (mvT hZ (hw60 hw)) (mvT hZ (hw61 hw)) (mvT hZ (hw65 hw)) (by decide) (backOf (W := 0) (rm_ac l Z a0 hw [] a h0 n0 Z0 ) hZ (hw65 hw) (hw64 hw) (by decide) (by decide)) (g := (mkF m 1 #[.val (.ref a)] [(.ref a)])) rfl (by rw [hml]; rfl) (Steps.refl _) (a := a) (argsL := []) (rest := []) (lenOf pd_4 rfl) rfl (by show 2 * 0 + _ ≤ _; exact Nat.le_of_eq rfl) (hb hby d13_1) (fun _ _ => ⟨rfl, e0, (by decide : 0 + 0 ≤ _), (by decide : 0 + 0 ≤ _)⟩)
 dsimp only [Pt.U, Pt.locs, Pt.cells, Pt.slots] at X1 l1 y1 z1 st1 hQ1
 subst l1 y1 z1
 obtain ⟨rfl, N1q, K1⟩ := hQ1
 have N1 := Fr.app N0 N1q
 refine Goes.tr st1 ?_
 show Goes _ _ _ _ (T1.setTop (mkF m 4 #[.val (.ref a)] []))
 refine Goes.st (fun sT kT => XS.aloadN X1.here hx rfl (hb hby d13_4) rfl rfl kT) ?_
 show Goes _ _ _ _ (T1.setTop (mkF m 5 #[.val (.ref a)] [(.ref a)]))
 refine Goes.st (fun sT kT => XS.iconst X1.here hx rfl (hb hby d13_5) kT) ?_
 show Goes _ _ _ _ (T1.setTop (mkF m 6 #[.val (.ref a)] [(.int (0 : Int32)), (.ref a)]))
 obtain ⟨T2, h2, X2, e2, W2, st2⟩ := putF X1 hx hZ hown (host := "") (Or.inl (hw67 hw)) Via.refl K1 P3 P0 (Or.inl (hw68 hw)) (hw49 hw) (ty := .int) (by decide) rfl rfl (g := (mkF m 6 #[.val (.ref a)] [(.int (0 : Int32)), (.ref a)])) rfl rfl (hb hby d13_6)
 have N2 := Fr.snoc X2 N1 g_a
 have F2 := P3.same W2
 refine Goes.st st2 ?_
 show Goes _ _ _ _ (T2.setTop (mkF m 9 #[.val (.ref a)] []))
 have kp3 : Keep h0 h2 [a] := (Keep.refl h0 [a]).wr W2 (Or.inl (List.mem_of_getElem? (i := 0) rfl))
 have f4 : Exa Z h2 a "java/util/ArrayList" := (P0.wr W2)
 have f5 : Fld Z h2 a "java/util/ArrayList" "elementData" "[Ljava/lang/Object;" .null := (P1.other W2 (Or.inr (slot_ne (Or.inl (hw71 hw)) (Or.inl (hw68 hw)) (by decide) (t := (.array (.object "java/lang/Object"))) (t' := .int) (by decide) (by decide))))
 have f6 : Fld Z h2 a "java/util/ArrayList" "size" "I" (.int (0 : Int32)) := (P2.other W2 (Or.inr (slot_ne (Or.inl (hw146 hw)) (Or.inl (hw68 hw)) (by decide) (t := .int) (t' := .int) (by decide) (by decide))))
 obtain ⟨fs, hr, hrun, hended, hW, hsame⟩ := X2.leave (v := none) (fun _ => rfl)
 subst hQQ
 refine ⟨_, _, X2.returnOut hx Bd.returns (hb hby d13_9) hr, hrun, hended, _, _, rfl, ?_, ⟨_, rfl⟩, hW, hsame.mono (by decide) (by decide)⟩
 show Q_alI Z a h0 n0 _ T2.heap _
 rw [e2]
 exact ⟨rfl, N2, kp3, f4, f5, f6, F2⟩
theorem ef_alN (m : MethodId) (a : Addr) (aD : Addr) : entryFrame m #[(.ref a)] 1 = (mkF m 0 #[.val (.ref a)] []) := by first | (simp [entryFrame, mkF, argsToLocals, Value.category]; done) | rfl
def Q_alN (Z : State) (a : Addr) (aD : Addr) (h0 : Heap) (n0 : Nat) (v : Option Value) (h : Heap) (L : List Loc) : Prop := v = none ∧ Fr n0 L ∧ Keep h0 h [a] ∧ Exa Z h a "java/util/ArrayList" ∧ Fld Z h a "java/util/ArrayList" "elementData" "[Ljava/lang/Object;" (.ref aD) ∧ Fld Z h a "java/util/ArrayList" "size" "I" (.int (0 : Int32)) ∧ Fld Z h a "java/util/AbstractList" "modCount" "I" (.int (0 : Int32))
set_option maxRecDepth 65536 in
set_option maxHeartbeats 40000000 in
theorem rm_alN (l : Launch) (Z : State) (a0 : Array Value) (hw : ∀ d ∈ tables_1, d.before a0 Z = true) (ws : List Jvm.Cond) (a : Addr) (aD : Addr) (h0 : Heap) (n0 : Nat) (Z0 : n0 ≤ h0.size) (P0 : Exa Z h0 a "java/util/ArrayList") (P1 : Fld Z h0 a "java/util/ArrayList" "elementData" "[Ljava/lang/Object;" .null) (P2 : Fld Z h0 a "java/util/ArrayList" "size" "I" (.int (0 : Int32))) (P3 : Fld Z h0 a "java/util/AbstractList" "modCount" "I" (.int (0 : Int32))) (P4 : Old Z n0 h0) (g_a : n0 ≤ a) (OD : Sta Z Z.heap "java/util/ArrayList" "DEFAULTCAPACITY_EMPTY_ELEMENTDATA" "[Ljava/lang/Object;" (.ref aD)) :
    MetFree l (⟨"java/util/ArrayList", "<init>", "()V"⟩ : MethodName) (head1 (Jvm.Cond.code (⟨"java/util/ArrayList", "<init>", "()V"⟩ : MethodName) jdk_38_method_2_code 1 none :: ws) ({ frames := 3, cells := 0, slots := 0, locals := 36 } : Room)) (fun aR U => aR = #[(.ref a)] ∧ Z.Warmed39 U.vm ∧ U.heap = h0) (fun _ _ _ _ _ => True) (fun _ U o U' => ∃ v L, o = .returned v ∧ Q_alN Z a aD h0 n0 v U'.heap L ∧ FrameEnd U o U' L ({ frames := 3, cells := 0, slots := 0, locals := 36 } : Room).cells ({ frames := 3, cells := 0, slots := 0, locals := 36 } : Room).slots) := by
 refine MetFree.of_bodySF (plainFor_of_name pn_5) hisR ?_
 intro p e s m args below meth c s₁ Bd hml0 hP hK
 obtain ⟨rfl, hZ, hh⟩ := hP
 have hx := Bd.exec
 have hby := Bd.bytes
 have hml : c.maxLocals = 1 := hml0
 have hown : s.vm.findClass "java/util/ArrayList" = some m.cls := findClass_of_methodNamed Bd.named
 have hnm := (name_of_methodNamed Bd.named Bd.method).1
 have X0 : Stand p l e ({ frames := 3, cells := 0, slots := 0, locals := 36 } : Room) s m #[(.ref a)] below meth c s₁ [] 0 0 := Stand.of_body Bd
 have e0 : s₁.heap = h0 := by rw [← hh, Bd.state]; rfl
 have N0 := Fr.nil n0
 show Goes p.tables e below _ _
 rw [ef_alN m a aD]
 refine Goes.named ?_
 intro QQ hQQ
 refine Goes.st (fun sT kT => XS.aloadN X0.here hx rfl (hb hby d12_0) rfl rfl kT) ?_
 show Goes _ _ _ _ (s₁.setTop (mkF m 1 #[.val (.ref a)] [(.ref a)]))
 obtain ⟨_, _, ⟨T1, L1, k1, n1⟩, -, X1, ⟨Lc1, hQ1, l1, y1, z1⟩, st1⟩ := X0.specialBack hx (y := (⟨"java/util/AbstractList", "<init>", "()V"⟩ : MethodName)) rfl hown (mvT hZ (hw54 hw)) (mvT hZ (hw55 hw)) (mvT hZ (hw59 hw)) (by decide) (backOf (W := 0) (rm_alI l Z a0 hw [] a h0 n0 Z0 P0 P1 P2 P3 g_a) hZ (hw59 hw) (hw58 hw) (by decide) (by decide)) (g := (mkF m 1 #[.val (.ref a)] [(.ref a)])) rfl (by rw [hml]; rfl) (Steps.refl _) (a := a) (argsL := []) (rest := []) (lenOf pd_4 rfl) rfl (by show 2 * 0 + _ ≤ _; exact Nat.le_of_eq rfl) (hb hby d12_1) (fun _ _ => ⟨rfl, e0, (by decide : 0 + 0 ≤ _), (by decide : 0 + 0 ≤ _)⟩)
 dsimp only [Pt.U, Pt.locs, Pt.cells, Pt.slots] at X1 l1 y1 z1 st1 hQ1
 subst l1 y1 z1
 obtain ⟨rfl, N1q, K1, F1_0, F1_1, F1_2, F1_3⟩ := hQ1
 have N1 := Fr.app N0 N1q
 refine Goes.tr st1 ?_
 show Goes _ _ _ _ (T1.setTop (mkF m 4 #[.val (.ref a)] []))
 refine Goes.st (fun sT kT => XS.aloadN X1.here hx rfl (hb hby d12_4) rfl rfl kT) ?_
 show Goes _ _ _ _ (T1.setTop (mkF m 5 #[.val (.ref a)] [(.ref a)]))
 have f2 : Old Z n0 T1.heap := (P4.keep K1 (allS g_a all0))
 obtain ⟨T3, X3, e3, st3⟩ := getS2 X1 hx hZ hown (host := "") (Or.inl (hw69 hw)) Via.refl rfl (OD.ext f2.2) (g := (mkF m 5 #[.val (.ref a)] [(.ref a)])) rfl (hb hby d12_5)
 refine Goes.st st3 ?_
 show Goes _ _ _ _ (T3.setTop (mkF m 8 #[.val (.ref a)] [(.ref aD), (.ref a)]))
 obtain ⟨T4, h4, X4, e4, W4, st4⟩ := putF X3 hx hZ hown (host := "") (Or.inl (hw70 hw)) Via.refl e3 F1_1 F1_0 (Or.inl (hw71 hw)) (hw49 hw) (ty := (.array (.object "java/lang/Object"))) (by decide) rfl rfl (g := (mkF m 8 #[.val (.ref a)] [(.ref aD), (.ref a)])) rfl rfl (hb hby d12_8)
 have N4 := Fr.snoc X4 N1 g_a
 have F4 := F1_1.same W4
 refine Goes.st st4 ?_
 show Goes _ _ _ _ (T4.setTop (mkF m 11 #[.val (.ref a)] []))
 have kp5 : Keep h0 T1.heap [a] := (Keep.refl h0 [a]).trans K1 (allS (Or.inl (List.mem_of_getElem? (i := 0) rfl)) all0)
 have kp6 : Keep h0 h4 [a] := kp5.wr W4 (Or.inl (List.mem_of_getElem? (i := 0) rfl))
 have f7 : Exa Z h4 a "java/util/ArrayList" := (F1_0.wr W4)
 have f8 : Fld Z h4 a "java/util/ArrayList" "size" "I" (.int (0 : Int32)) := (F1_2.other W4 (Or.inr (slot_ne (Or.inl (hw146 hw)) (Or.inl (hw71 hw)) (by decide) (t := .int) (t' := (.array (.object "java/lang/Object"))) (by decide) (by decide))))
 have f9 : Fld Z h4 a "java/util/AbstractList" "modCount" "I" (.int (0 : Int32)) := (F1_3.other W4 (Or.inr (slot_ne (Or.inl (hw68 hw)) (Or.inl (hw71 hw)) (by decide) (t := .int) (t' := (.array (.object "java/lang/Object"))) (by decide) (by decide))))
 obtain ⟨fs, hr, hrun, hended, hW, hsame⟩ := X4.leave (v := none) (fun _ => rfl)
 subst hQQ
 refine ⟨_, _, X4.returnOut hx Bd.returns (hb hby d12_11) hr, hrun, hended, _, _, rfl, ?_, ⟨_, rfl⟩, hW, hsame.mono (by decide) (by decide)⟩
 show Q_alN Z a aD h0 n0 _ T4.heap _
 rw [e4]
 exact ⟨rfl, N4, kp6, f7, F4, f8, f9⟩
theorem ef_max10 (m : MethodId)  : entryFrame m #[(.int (10 : Int32)), (.int (1 : Int32))] 2 = (mkF m 0 #[.val (.int (10 : Int32)), .val (.int (1 : Int32))] []) := by first | (simp [entryFrame, mkF, argsToLocals, Value.category]; done) | rfl
def Q_max10 (Z : State)  (h0 : Heap) (n0 : Nat) (v : Option Value) (h : Heap) (L : List Loc) : Prop := v = some (.int (10 : Int32)) ∧ Fr n0 L ∧ h = h0
set_option maxRecDepth 65536 in
set_option maxHeartbeats 40000000 in
theorem rm_max10 (l : Launch) (Z : State) (a0 : Array Value) (hw : ∀ d ∈ tables_1, d.before a0 Z = true) (ws : List Jvm.Cond)  (h0 : Heap) (n0 : Nat) (Z0 : n0 ≤ h0.size) :
    MetFree l (⟨"java/lang/Math", "max", "(II)I"⟩ : MethodName) (head1 (Jvm.Cond.code (⟨"java/lang/Math", "max", "(II)I"⟩ : MethodName) jdk_29_method_65_code 2 (some .int) :: ws) ({ frames := 0, cells := 0, slots := 0, locals := 0 } : Room)) (fun aR U => aR = #[(.int (10 : Int32)), (.int (1 : Int32))] ∧ Z.Warmed39 U.vm ∧ U.heap = h0) (fun _ _ _ _ _ => True) (fun _ U o U' => ∃ v L, o = .returned v ∧ Q_max10 Z  h0 n0 v U'.heap L ∧ FrameEnd U o U' L ({ frames := 0, cells := 0, slots := 0, locals := 0 } : Room).cells ({ frames := 0, cells := 0, slots := 0, locals := 0 } : Room).slots) := by
 refine MetFree.of_bodySF pn_6 hisR ?_
 intro p e s m args below meth c s₁ Bd hml0 hP hK
 obtain ⟨rfl, hZ, hh⟩ := hP
 have hx := Bd.exec
 have hby := Bd.bytes
 have hml : c.maxLocals = 2 := hml0
 have hown : s.vm.findClass "java/lang/Math" = some m.cls := findClass_of_methodNamed Bd.named
 have hnm := (name_of_methodNamed Bd.named Bd.method).1
 have X0 : Stand p l e ({ frames := 0, cells := 0, slots := 0, locals := 0 } : Room) s m #[(.int (10 : Int32)), (.int (1 : Int32))] below meth c s₁ [] 0 0 := Stand.of_body Bd
 have e0 : s₁.heap = h0 := by rw [← hh, Bd.state]; rfl
 have N0 := Fr.nil n0
 show Goes p.tables e below _ _
 rw [ef_max10 m ]
 refine Goes.named ?_
 intro QQ hQQ
 refine Goes.st (fun sT kT => XS.iloadN X0.here hx rfl (hb hby d29_0) rfl kT) ?_
 show Goes _ _ _ _ (s₁.setTop (mkF m 1 #[.val (.int (10 : Int32)), .val (.int (1 : Int32))] [(.int (10 : Int32))]))
 refine Goes.st (fun sT kT => XS.iloadN X0.here hx rfl (hb hby d29_1) rfl kT) ?_
 show Goes _ _ _ _ (s₁.setTop (mkF m 2 #[.val (.int (10 : Int32)), .val (.int (1 : Int32))] [(.int (1 : Int32)), (.int (10 : Int32))]))
 refine Goes.st (fun sT kT => XS.icmpNo X0.here hx rfl (hb hby d29_2) rfl (flt (by decide : ¬ ((10 : Int32) < (1 : Int32)))).1 kT) ?_
 show Goes _ _ _ _ (s₁.setTop (mkF m 5 #[.val (.int (10 : Int32)), .val (.int (1 : Int32))] []))
 refine Goes.st (fun sT kT => XS.iloadN X0.here hx rfl (hb hby d29_5) rfl kT) ?_
 show Goes _ _ _ _ (s₁.setTop (mkF m 6 #[.val (.int (10 : Int32)), .val (.int (1 : Int32))] [(.int (10 : Int32))]))
 refine Goes.st (fun sT kT => XS.goto X0.here hx rfl (pc0 := 6) (pc' := 10) rfl (hb hby d29_6) (by decide) (by decide) kT) ?_
 show Goes _ _ _ _ (s₁.setTop (mkF m 10 #[.val (.int (10 : Int32)), .val (.int (1 : Int32))] [(.int (10 : Int32))]))
 obtain ⟨fs, hr, hrun, hended, hW, hsame⟩ := X0.leave (v := some (.int (10 : Int32))) (fun h => by rw [Bd.returns] at h; cases h)
 subst hQQ
 refine ⟨_, _, retI X0 hx Bd.returns (hb hby d29_10) hr, hrun, hended, _, _, rfl, ?_, ⟨_, rfl⟩, hW, hsame.mono (by decide) (by decide)⟩
 show Q_max10 Z  h0 n0 _ s₁.heap _
 rw [e0]
 exact ⟨rfl, N0, rfl⟩
theorem ef_grI (m : MethodId) (a : Addr) (mc : Int32) (aD : Addr) (kD : ClassId) : entryFrame m #[(.ref a), (.int (1 : Int32))] 4 = (mkF m 0 #[.val (.ref a), .val (.int (1 : Int32)), uS, uS] []) := by first | (simp [entryFrame, mkF, argsToLocals, Value.category]; done) | rfl
def Q_grI (Z : State) (a : Addr) (mc : Int32) (aD : Addr) (kD : ClassId) (h0 : Heap) (n0 : Nat) (v : Option Value) (h : Heap) (L : List Loc) : Prop := ∃ (ar : Addr) (kA : ClassId), v = some (.ref ar) ∧ Fr n0 L ∧ Keep h0 h [a] ∧ Exa Z h a "java/util/ArrayList" ∧ Fld Z h a "java/util/ArrayList" "elementData" "[Ljava/lang/Object;" (.ref ar) ∧ Fld Z h a "java/util/ArrayList" "size" "I" (.int (0 : Int32)) ∧ Fld Z h a "java/util/AbstractList" "modCount" "I" (.int mc) ∧ Arv Z h ar kA (.object "java/lang/Object") (10 : Int32) [.null, .null, .null, .null, .null, .null, .null, .null, .null, .null] .null ∧ h0.size ≤ ar ∧ (Ovr Z kA "java/lang/Object")
set_option maxRecDepth 65536 in
set_option maxHeartbeats 40000000 in
theorem rm_grI (l : Launch) (Z : State) (a0 : Array Value) (hw : ∀ d ∈ tables_1, d.before a0 Z = true) (ws : List Jvm.Cond) (a : Addr) (mc : Int32) (aD : Addr) (kD : ClassId) (h0 : Heap) (n0 : Nat) (Z0 : n0 ≤ h0.size) (P0 : Exa Z h0 a "java/util/ArrayList") (P1 : Fld Z h0 a "java/util/ArrayList" "elementData" "[Ljava/lang/Object;" (.ref aD)) (P2 : Fld Z h0 a "java/util/ArrayList" "size" "I" (.int (0 : Int32))) (P3 : Fld Z h0 a "java/util/AbstractList" "modCount" "I" (.int mc)) (P4 : Arv Z h0 aD kD (.object "java/lang/Object") (0 : Int32) [] .null) (P5 : Old Z n0 h0) (g_a : n0 ≤ a) (OD : Sta Z Z.heap "java/util/ArrayList" "DEFAULTCAPACITY_EMPTY_ELEMENTDATA" "[Ljava/lang/Object;" (.ref aD)) :
    MetFree l (⟨"java/util/ArrayList", "grow", "(I)[Ljava/lang/Object;"⟩ : MethodName) (head1 (Jvm.Cond.code (⟨"java/util/ArrayList", "grow", "(I)[Ljava/lang/Object;"⟩ : MethodName) jdk_38_method_6_code 4 (some (.array (.object "java/lang/Object"))) :: ws) ({ frames := 1, cells := 1, slots := 10, locals := 16 } : Room)) (fun aR U => aR = #[(.ref a), (.int (1 : Int32))] ∧ Z.Warmed39 U.vm ∧ U.heap = h0) (fun _ _ _ _ _ => True) (fun _ U o U' => ∃ v L, o = .returned v ∧ Q_grI Z a mc aD kD h0 n0 v U'.heap L ∧ FrameEnd U o U' L ({ frames := 1, cells := 1, slots := 10, locals := 16 } : Room).cells ({ frames := 1, cells := 1, slots := 10, locals := 16 } : Room).slots) := by
 refine MetFree.of_bodySF (plainFor_of_name pn_5) hisR ?_
 intro p e s m args below meth c s₁ Bd hml0 hP hK
 obtain ⟨rfl, hZ, hh⟩ := hP
 have hx := Bd.exec
 have hby := Bd.bytes
 have hml : c.maxLocals = 4 := hml0
 have hown : s.vm.findClass "java/util/ArrayList" = some m.cls := findClass_of_methodNamed Bd.named
 have hnm := (name_of_methodNamed Bd.named Bd.method).1
 have X0 : Stand p l e ({ frames := 1, cells := 1, slots := 10, locals := 16 } : Room) s m #[(.ref a), (.int (1 : Int32))] below meth c s₁ [] 0 0 := Stand.of_body Bd
 have e0 : s₁.heap = h0 := by rw [← hh, Bd.state]; rfl
 have N0 := Fr.nil n0
 show Goes p.tables e below _ _
 rw [ef_grI m a mc aD kD]
 refine Goes.named ?_
 intro QQ hQQ
 refine Goes.st (fun sT kT => XS.aloadN X0.here hx rfl (hb hby d28_0) rfl rfl kT) ?_
 show Goes _ _ _ _ (s₁.setTop (mkF m 1 #[.val (.ref a), .val (.int (1 : Int32)), uS, uS] [(.ref a)]))
 obtain ⟨T1, X1, e1, st1⟩ := getF X0 hx hZ hown (host := "") (Or.inl (hw70 hw)) Via.refl e0 P1 (g := (mkF m 1 #[.val (.ref a), .val (.int (1 : Int32)), uS, uS] [(.ref a)])) rfl rfl (hb hby d28_1)
 refine Goes.st st1 ?_
 show Goes _ _ _ _ (T1.setTop (mkF m 4 #[.val (.ref a), .val (.int (1 : Int32)), uS, uS] [(.ref aD)]))
 obtain ⟨oc2, oA2, oq2, oS2, oM2, oH2, oG2⟩ := id P4
 refine Goes.st (fun sT kT => X1.arraylength hx (by rw [e1]; exact oA2.1) (State.isArrayOf_alike hZ.alike oA2.2.1) (g := (mkF m 4 #[.val (.ref a), .val (.int (1 : Int32)), uS, uS] [(.ref aD)])) rfl rfl (hb hby d28_4) _ kT) ?_
 rw [len_of oS2 oM2]
 show Goes _ _ _ _ (T1.setTop (mkF m 5 #[.val (.ref a), .val (.int (1 : Int32)), uS, uS] [(.int (0 : Int32))]))
 refine Goes.st (fun sT kT => XS.istoreN X1.here hx rfl (hb hby d28_5) rfl (l' := #[.val (.ref a), .val (.int (1 : Int32)), .val (.int (0 : Int32)), uS]) rfl kT) ?_
 show Goes _ _ _ _ (T1.setTop (mkF m 6 #[.val (.ref a), .val (.int (1 : Int32)), .val (.int (0 : Int32)), uS] []))
 refine Goes.st (fun sT kT => XS.iloadN X1.here hx rfl (hb hby d28_6) rfl kT) ?_
 show Goes _ _ _ _ (T1.setTop (mkF m 7 #[.val (.ref a), .val (.int (1 : Int32)), .val (.int (0 : Int32)), uS] [(.int (0 : Int32))]))
 refine Goes.st (fun sT kT => XS.ifNo X1.here hx rfl (hb hby d28_7) rfl ((if0 _ _).trans (flt (by decide : ¬ ((0 : Int32) < (0 : Int32)))).2.2.1) kT) ?_
 show Goes _ _ _ _ (T1.setTop (mkF m 10 #[.val (.ref a), .val (.int (1 : Int32)), .val (.int (0 : Int32)), uS] []))
 refine Goes.st (fun sT kT => XS.aloadN X1.here hx rfl (hb hby d28_10) rfl rfl kT) ?_
 show Goes _ _ _ _ (T1.setTop (mkF m 11 #[.val (.ref a), .val (.int (1 : Int32)), .val (.int (0 : Int32)), uS] [(.ref a)]))
 obtain ⟨T3, X3, e3, st3⟩ := getF X1 hx hZ hown (host := "") (Or.inl (hw70 hw)) Via.refl e1 P1 (g := (mkF m 11 #[.val (.ref a), .val (.int (1 : Int32)), .val (.int (0 : Int32)), uS] [(.ref a)])) rfl rfl (hb hby d28_11)
 refine Goes.st st3 ?_
 show Goes _ _ _ _ (T3.setTop (mkF m 14 #[.val (.ref a), .val (.int (1 : Int32)), .val (.int (0 : Int32)), uS] [(.ref aD)]))
 obtain ⟨T4, X4, e4, st4⟩ := getS2 X3 hx hZ hown (host := "") (Or.inl (hw69 hw)) Via.refl e3 (OD.ext P5.2) (g := (mkF m 14 #[.val (.ref a), .val (.int (1 : Int32)), .val (.int (0 : Int32)), uS] [(.ref aD)])) rfl (hb hby d28_14)
 refine Goes.st st4 ?_
 show Goes _ _ _ _ (T4.setTop (mkF m 17 #[.val (.ref a), .val (.int (1 : Int32)), .val (.int (0 : Int32)), uS] [(.ref aD), (.ref aD)]))
 refine Goes.st (fun sT kT => Jvm.RoadKit.acmp (g := (mkF m 17 #[.val (.ref a), .val (.int (1 : Int32)), .val (.int (0 : Int32)), uS] [(.ref aD), (.ref aD)])) X4 hx rfl rfl rfl (pc0 := 17) (pc' := 45) (same := true) rfl (hb hby d28_17) rfl (decide_eq_true rfl) (by decide) (by decide) kT) ?_
 show Goes _ _ _ _ (T4.setTop (mkF m 45 #[.val (.ref a), .val (.int (1 : Int32)), .val (.int (0 : Int32)), uS] []))
 refine Goes.st (fun sT kT => XS.aloadN X4.here hx rfl (hb hby d28_45) rfl rfl kT) ?_
 show Goes _ _ _ _ (T4.setTop (mkF m 46 #[.val (.ref a), .val (.int (1 : Int32)), .val (.int (0 : Int32)), uS] [(.ref a)]))
 refine Goes.st (fun sT kT => XS.bipush X4.here hx rfl (hb hby d28_46) kT) ?_
 show Goes _ _ _ _ (T4.setTop (mkF m 48 #[.val (.ref a), .val (.int (1 : Int32)), .val (.int (0 : Int32)), uS] [(.int (10 : Int32)), (.ref a)]))
 refine Goes.st (fun sT kT => XS.iloadN X4.here hx rfl (hb hby d28_48) rfl kT) ?_
 show Goes _ _ _ _ (T4.setTop (mkF m 49 #[.val (.ref a), .val (.int (1 : Int32)), .val (.int (0 : Int32)), uS] [(.int (1 : Int32)), (.int (10 : Int32)), (.ref a)]))
 obtain ⟨_, _, ⟨T5, L5, k5, n5⟩, -, X5, ⟨Lc5, hQ5, l5, y5, z5⟩, st5⟩ := Jvm.LawKit.callS X4 hx (y := (⟨"java/lang/Math", "max", "(II)I"⟩ : MethodName)) hown (mvT hZ (hw162 hw)) (mvT hZ (hw163 hw)) (mvT hZ (hw164 hw)) (mvT hZ (hw165 hw)) (by decide) (backOf (W := 1) (rm_max10 l Z a0 hw []  h0 n0 Z0 ) hZ (hw165 hw) (hw164 hw) (by decide) (by decide)) (g := (mkF m 49 #[.val (.ref a), .val (.int (1 : Int32)), .val (.int (0 : Int32)), uS] [(.int (1 : Int32)), (.int (10 : Int32)), (.ref a)])) rfl (by rw [hml]; rfl) (argsL := [(.int (10 : Int32)), (.int (1 : Int32))]) (rest := [(.ref a)]) (lenOf pd_5 rfl) rfl (by show 2 * 0 + _ ≤ _; exact Nat.le_of_eq rfl) (hb hby d28_49) (fun _ _ => ⟨rfl, e4, (by decide : 0 + 0 ≤ _), (by decide : 0 + 0 ≤ _)⟩)
 dsimp only [Pt.U, Pt.locs, Pt.cells, Pt.slots] at X5 l5 y5 z5 st5 hQ5
 subst l5 y5 z5
 obtain ⟨rfl, N5q, K5⟩ := hQ5
 have N5 := Fr.app N0 N5q
 refine Goes.st st5 ?_
 show Goes _ _ _ _ (T5.setTop (mkF m 52 #[.val (.ref a), .val (.int (1 : Int32)), .val (.int (0 : Int32)), uS] [(.int (10 : Int32)), (.ref a)]))
 obtain ⟨T6, h6, k6, X6, e6, E6, A6, O6, st6⟩ := newR X5 hx hZ hown (hw166 hw) (hw167 hw) K5 (g := (mkF m 52 #[.val (.ref a), .val (.int (1 : Int32)), .val (.int (0 : Int32)), uS] [(.int (10 : Int32)), (.ref a)])) rfl (hb hby d28_52) rfl (by decide) (cap := 10) (by decide) (by decide) (by decide) (by decide)
 obtain ⟨b6, g6⟩ : ∃ z, z = h0.size := ⟨_, rfl⟩
 rw [← g6] at A6 st6
 have V6 : Arv Z h6 b6 k6 (.object "java/lang/Object") (10 : Int32) [.null, .null, .null, .null, .null, .null, .null, .null, .null, .null] .null := (Arv.new A6 (by decide)).pad (pad_rep [] .null 10)
 refine Goes.st st6 ?_
 show Goes _ _ _ _ (T6.setTop (mkF m 55 #[.val (.ref a), .val (.int (1 : Int32)), .val (.int (0 : Int32)), uS] [(.ref b6), (.ref a)]))
 refine Goes.st (fun sT kT => XS.dupX1 X6.here hx rfl (hb hby d28_55) rfl rfl rfl kT) ?_
 show Goes _ _ _ _ (T6.setTop (mkF m 56 #[.val (.ref a), .val (.int (1 : Int32)), .val (.int (0 : Int32)), uS] [(.ref b6), (.ref a), (.ref b6)]))
 have f7 : Exa Z h6 a "java/util/ArrayList" := (P0.ext E6)
 have f8 : Fld Z h6 a "java/util/ArrayList" "elementData" "[Ljava/lang/Object;" (.ref aD) := (P1.ext E6)
 obtain ⟨T9, h9, X9, e9, W9, st9⟩ := putF X6 hx hZ hown (host := "") (Or.inl (hw70 hw)) Via.refl e6 f8 f7 (Or.inl (hw71 hw)) (hw49 hw) (ty := (.array (.object "java/lang/Object"))) (by decide) rfl rfl (g := (mkF m 56 #[.val (.ref a), .val (.int (1 : Int32)), .val (.int (0 : Int32)), uS] [(.ref b6), (.ref a), (.ref b6)])) rfl rfl (hb hby d28_56)
 have N9 := Fr.snoc X9 N5 g_a
 have F9 := f8.same W9
 refine Goes.st st9 ?_
 show Goes _ _ _ _ (T9.setTop (mkF m 59 #[.val (.ref a), .val (.int (1 : Int32)), .val (.int (0 : Int32)), uS] [(.ref b6)]))
 have kp10 : Keep h0 h6 [a] := (Keep.refl h0 [a]).ext E6
 have kp11 : Keep h0 h9 [a] := kp10.wr W9 (Or.inl (List.mem_of_getElem? (i := 0) rfl))
 have f12 : Exa Z h9 a "java/util/ArrayList" := (f7.wr W9)
 have f13 : Fld Z h9 a "java/util/ArrayList" "size" "I" (.int (0 : Int32)) := ((P2.ext E6).other W9 (Or.inr (slot_ne (Or.inl (hw146 hw)) (Or.inl (hw71 hw)) (by decide) (t := .int) (t' := (.array (.object "java/lang/Object"))) (by decide) (by decide))))
 have f14 : Fld Z h9 a "java/util/AbstractList" "modCount" "I" (.int mc) := ((P3.ext E6).other W9 (Or.inr (slot_ne (Or.inl (hw68 hw)) (Or.inl (hw71 hw)) (by decide) (t := .int) (t' := (.array (.object "java/lang/Object"))) (by decide) (by decide))))
 have f15 : Arv Z h9 b6 k6 (.object "java/lang/Object") (10 : Int32) [.null, .null, .null, .null, .null, .null, .null, .null, .null, .null] .null := (V6.other W9 (Ne.symm (Nat.ne_of_lt (Nat.lt_of_lt_of_le P0.lt (Nat.le_of_eq g6.symm)))))
 obtain ⟨fs, hr, hrun, hended, hW, hsame⟩ := X9.leave (v := some (.ref b6)) (fun h => by rw [Bd.returns] at h; cases h)
 subst hQQ
 refine ⟨_, _, retR X9 hx Bd.returns rfl rfl (hb hby d28_59) hr, hrun, hended, _, _, rfl, ?_, ⟨_, rfl⟩, hW, hsame.mono (by decide) (by decide)⟩
 show Q_grI Z a mc aD kD h0 n0 _ T9.heap _
 rw [e9]
 exact ⟨b6, k6, rfl, N9, kp11, f12, F9, f13, f14, f15, (Nat.le_of_eq g6.symm), O6⟩
theorem ef_gr0 (m : MethodId) (a : Addr) (mc : Int32) (aD : Addr) (kD : ClassId) : entryFrame m #[(.ref a)] 1 = (mkF m 0 #[.val (.ref a)] []) := by first | (simp [entryFrame, mkF, argsToLocals, Value.category]; done) | rfl
def Q_gr0 (Z : State) (a : Addr) (mc : Int32) (aD : Addr) (kD : ClassId) (h0 : Heap) (n0 : Nat) (v : Option Value) (h : Heap) (L : List Loc) : Prop := ∃ (ar : Addr) (kA : ClassId), v = some (.ref ar) ∧ Fr n0 L ∧ Keep h0 h [a] ∧ Exa Z h a "java/util/ArrayList" ∧ Fld Z h a "java/util/ArrayList" "elementData" "[Ljava/lang/Object;" (.ref ar) ∧ Fld Z h a "java/util/ArrayList" "size" "I" (.int (0 : Int32)) ∧ Fld Z h a "java/util/AbstractList" "modCount" "I" (.int mc) ∧ Arv Z h ar kA (.object "java/lang/Object") (10 : Int32) [.null, .null, .null, .null, .null, .null, .null, .null, .null, .null] .null ∧ h0.size ≤ ar ∧ (Ovr Z kA "java/lang/Object")
set_option maxRecDepth 65536 in
set_option maxHeartbeats 40000000 in
theorem rm_gr0 (l : Launch) (Z : State) (a0 : Array Value) (hw : ∀ d ∈ tables_1, d.before a0 Z = true) (ws : List Jvm.Cond) (a : Addr) (mc : Int32) (aD : Addr) (kD : ClassId) (h0 : Heap) (n0 : Nat) (Z0 : n0 ≤ h0.size) (P0 : Exa Z h0 a "java/util/ArrayList") (P1 : Fld Z h0 a "java/util/ArrayList" "elementData" "[Ljava/lang/Object;" (.ref aD)) (P2 : Fld Z h0 a "java/util/ArrayList" "size" "I" (.int (0 : Int32))) (P3 : Fld Z h0 a "java/util/AbstractList" "modCount" "I" (.int mc)) (P4 : Arv Z h0 aD kD (.object "java/lang/Object") (0 : Int32) [] .null) (P5 : Old Z n0 h0) (g_a : n0 ≤ a) (OD : Sta Z Z.heap "java/util/ArrayList" "DEFAULTCAPACITY_EMPTY_ELEMENTDATA" "[Ljava/lang/Object;" (.ref aD)) :
    MetFree l (⟨"java/util/ArrayList", "grow", "()[Ljava/lang/Object;"⟩ : MethodName) (head1 (Jvm.Cond.code (⟨"java/util/ArrayList", "grow", "()[Ljava/lang/Object;"⟩ : MethodName) jdk_38_method_7_code 1 (some (.array (.object "java/lang/Object"))) :: ws) ({ frames := 2, cells := 1, slots := 10, locals := 31 } : Room)) (fun aR U => aR = #[(.ref a)] ∧ Z.Warmed39 U.vm ∧ U.heap = h0) (fun _ _ _ _ _ => True) (fun _ U o U' => ∃ v L, o = .returned v ∧ Q_gr0 Z a mc aD kD h0 n0 v U'.heap L ∧ FrameEnd U o U' L ({ frames := 2, cells := 1, slots := 10, locals := 31 } : Room).cells ({ frames := 2, cells := 1, slots := 10, locals := 31 } : Room).slots) := by
 refine MetFree.of_bodySF (plainFor_of_name pn_5) hisR ?_
 intro p e s m args below meth c s₁ Bd hml0 hP hK
 obtain ⟨rfl, hZ, hh⟩ := hP
 have hx := Bd.exec
 have hby := Bd.bytes
 have hml : c.maxLocals = 1 := hml0
 have hown : s.vm.findClass "java/util/ArrayList" = some m.cls := findClass_of_methodNamed Bd.named
 have hnm := (name_of_methodNamed Bd.named Bd.method).1
 have X0 : Stand p l e ({ frames := 2, cells := 1, slots := 10, locals := 31 } : Room) s m #[(.ref a)] below meth c s₁ [] 0 0 := Stand.of_body Bd
 have e0 : s₁.heap = h0 := by rw [← hh, Bd.state]; rfl
 have N0 := Fr.nil n0
 show Goes p.tables e below _ _
 rw [ef_gr0 m a mc aD kD]
 refine Goes.named ?_
 intro QQ hQQ
 refine Goes.st (fun sT kT => XS.aloadN X0.here hx rfl (hb hby d27_0) rfl rfl kT) ?_
 show Goes _ _ _ _ (s₁.setTop (mkF m 1 #[.val (.ref a)] [(.ref a)]))
 refine Goes.st (fun sT kT => XS.aloadN X0.here hx rfl (hb hby d27_1) rfl rfl kT) ?_
 show Goes _ _ _ _ (s₁.setTop (mkF m 2 #[.val (.ref a)] [(.ref a), (.ref a)]))
 obtain ⟨T1, X1, e1, st1⟩ := getF X0 hx hZ hown (host := "") (Or.inl (hw145 hw)) Via.refl e0 P2 (g := (mkF m 2 #[.val (.ref a)] [(.ref a), (.ref a)])) rfl rfl (hb hby d27_2)
 refine Goes.st st1 ?_
 show Goes _ _ _ _ (T1.setTop (mkF m 5 #[.val (.ref a)] [(.int (0 : Int32)), (.ref a)]))
 refine Goes.st (fun sT kT => XS.iconst X1.here hx rfl (hb hby d27_5) kT) ?_
 show Goes _ _ _ _ (T1.setTop (mkF m 6 #[.val (.ref a)] [(.int (1 : Int32)), (.int (0 : Int32)), (.ref a)]))
 refine Goes.st (fun sT kT => XS.iadd X1.here hx rfl (hb hby d27_6) rfl kT) ?_
 show Goes _ _ _ _ (T1.setTop (mkF m 7 #[.val (.ref a)] [(.int (1 : Int32)), (.ref a)]))
 obtain ⟨cq2, q2, q2'⟩ := P0.cell
 obtain ⟨_, _, ⟨T2, L2, k2, n2⟩, -, X2, ⟨Lc2, hQ2, l2, y2, z2⟩, st2⟩ := X1.privateBack hx (y := (⟨"java/util/ArrayList", "grow", "(I)[Ljava/lang/Object;"⟩ : MethodName)) hown (mvT hZ (hw157 hw)) (mvT hZ (hw158 hw)) (mvT hZ (hw160 hw)) (Cond.privateMethod_at (mvP hZ (hw159 hw) (args := #[]))) (mvT hZ (hw161 hw)) (by decide) (backOf (W := 0) (rm_grI l Z a0 hw [] a mc aD kD h0 n0 Z0 P0 P1 P2 P3 P4 P5 g_a OD) hZ (hw161 hw) (hw50 hw) (by decide) (by decide)) (g := (mkF m 7 #[.val (.ref a)] [(.int (1 : Int32)), (.ref a)])) rfl (by rw [hml]; rfl) (Steps.refl _) (a := a) (by rw [e1]; exact q2) q2' (argsL := [(.int (1 : Int32))]) (rest := []) (lenOf pd_6 rfl) rfl (by show 2 * 0 + _ ≤ _; exact Nat.le_of_eq rfl) (hb hby d27_7) (fun _ _ => ⟨rfl, e1, (by decide : 0 + 1 ≤ _), (by decide : 0 + 10 ≤ _)⟩)
 dsimp only [Pt.U, Pt.locs, Pt.cells, Pt.slots] at X2 l2 y2 z2 st2 hQ2
 subst l2 y2 z2
 obtain ⟨ar2, kA2, rfl, N2q, K2, F2_0, F2_1, F2_2, F2_3, F2_4, lo2_0, ov_2⟩ := hQ2
 have N2 := Fr.app N0 N2q
 refine Goes.tr st2 ?_
 show Goes _ _ _ _ (T2.setTop (mkF m 10 #[.val (.ref a)] [(.ref ar2)]))
 have kp3 : Keep h0 T2.heap [a] := (Keep.refl h0 [a]).trans K2 (allS (Or.inl (List.mem_of_getElem? (i := 0) rfl)) all0)
 obtain ⟨fs, hr, hrun, hended, hW, hsame⟩ := X2.leave (v := some (.ref ar2)) (fun h => by rw [Bd.returns] at h; cases h)
 subst hQQ
 refine ⟨_, _, retR X2 hx Bd.returns rfl rfl (hb hby d27_10) hr, hrun, hended, _, _, rfl, ?_, ⟨_, rfl⟩, hW, hsame.mono (by decide) (by decide)⟩
 show Q_gr0 Z a mc aD kD h0 n0 _ T2.heap _
 exact ⟨ar2, kA2, rfl, N2, kp3, F2_0, F2_1, F2_2, F2_3, F2_4, lo2_0, ov_2⟩
theorem ef_adH1 (m : MethodId) (a : Addr) (b : Addr) (mc : Int32) (aD : Addr) (kD : ClassId) : entryFrame m #[(.ref a), (.ref b), (.ref aD), (.int (0 : Int32))] 4 = (mkF m 0 #[.val (.ref a), .val (.ref b), .val (.ref aD), .val (.int (0 : Int32))] []) := by first | (simp [entryFrame, mkF, argsToLocals, Value.category]; done) | rfl
def Q_adH1 (Z : State) (a : Addr) (b : Addr) (mc : Int32) (aD : Addr) (kD : ClassId) (h0 : Heap) (n0 : Nat) (v : Option Value) (h : Heap) (L : List Loc) : Prop := ∃ (ar : Addr) (kA : ClassId), v = none ∧ Fr n0 L ∧ Keep h0 h [a] ∧ Exa Z h a "java/util/ArrayList" ∧ Fld Z h a "java/util/ArrayList" "elementData" "[Ljava/lang/Object;" (.ref ar) ∧ Fld Z h a "java/util/ArrayList" "size" "I" (.int (1 : Int32)) ∧ Fld Z h a "java/util/AbstractList" "modCount" "I" (.int mc) ∧ Arv Z h ar kA (.object "java/lang/Object") (10 : Int32) [(.ref b), .null, .null, .null, .null, .null, .null, .null, .null, .null] .null ∧ h0.size ≤ ar ∧ (Ovr Z kA "java/lang/Object")
set_option maxRecDepth 65536 in
set_option maxHeartbeats 40000000 in
theorem rm_adH1 (l : Launch) (Z : State) (a0 : Array Value) (hw : ∀ d ∈ tables_1, d.before a0 Z = true) (ws : List Jvm.Cond) (a : Addr) (b : Addr) (mc : Int32) (aD : Addr) (kD : ClassId) (h0 : Heap) (n0 : Nat) (Z0 : n0 ≤ h0.size) (P0 : Exa Z h0 a "java/util/ArrayList") (P1 : Fld Z h0 a "java/util/ArrayList" "elementData" "[Ljava/lang/Object;" (.ref aD)) (P2 : Fld Z h0 a "java/util/ArrayList" "size" "I" (.int (0 : Int32))) (P3 : Fld Z h0 a "java/util/AbstractList" "modCount" "I" (.int mc)) (P4 : Arv Z h0 aD kD (.object "java/lang/Object") (0 : Int32) [] .null) (P5 : Exa Z h0 b "java/lang/String") (P6 : Old Z n0 h0) (g_a : n0 ≤ a) (OD : Sta Z Z.heap "java/util/ArrayList" "DEFAULTCAPACITY_EMPTY_ELEMENTDATA" "[Ljava/lang/Object;" (.ref aD)) :
    MetFree l (⟨"java/util/ArrayList", "add", "(Ljava/lang/Object;[Ljava/lang/Object;I)V"⟩ : MethodName) (head1 (Jvm.Cond.code (⟨"java/util/ArrayList", "add", "(Ljava/lang/Object;[Ljava/lang/Object;I)V"⟩ : MethodName) jdk_38_method_24_code 4 none :: ws) ({ frames := 3, cells := 1, slots := 10, locals := 43 } : Room)) (fun aR U => aR = #[(.ref a), (.ref b), (.ref aD), (.int (0 : Int32))] ∧ Z.Warmed39 U.vm ∧ U.heap = h0) (fun _ _ _ _ _ => True) (fun _ U o U' => ∃ v L, o = .returned v ∧ Q_adH1 Z a b mc aD kD h0 n0 v U'.heap L ∧ FrameEnd U o U' L ({ frames := 3, cells := 1, slots := 10, locals := 43 } : Room).cells ({ frames := 3, cells := 1, slots := 10, locals := 43 } : Room).slots) := by
 refine MetFree.of_bodySF (plainFor_of_name pn_5) hisR ?_
 intro p e s m args below meth c s₁ Bd hml0 hP hK
 obtain ⟨rfl, hZ, hh⟩ := hP
 have hx := Bd.exec
 have hby := Bd.bytes
 have hml : c.maxLocals = 4 := hml0
 have hown : s.vm.findClass "java/util/ArrayList" = some m.cls := findClass_of_methodNamed Bd.named
 have hnm := (name_of_methodNamed Bd.named Bd.method).1
 have X0 : Stand p l e ({ frames := 3, cells := 1, slots := 10, locals := 43 } : Room) s m #[(.ref a), (.ref b), (.ref aD), (.int (0 : Int32))] below meth c s₁ [] 0 0 := Stand.of_body Bd
 have e0 : s₁.heap = h0 := by rw [← hh, Bd.state]; rfl
 have N0 := Fr.nil n0
 show Goes p.tables e below _ _
 rw [ef_adH1 m a b mc aD kD]
 refine Goes.named ?_
 intro QQ hQQ
 refine Goes.st (fun sT kT => XS.iloadN X0.here hx rfl (hb hby d26_0) rfl kT) ?_
 show Goes _ _ _ _ (s₁.setTop (mkF m 1 #[.val (.ref a), .val (.ref b), .val (.ref aD), .val (.int (0 : Int32))] [(.int (0 : Int32))]))
 refine Goes.st (fun sT kT => XS.aloadN X0.here hx rfl (hb hby d26_1) rfl rfl kT) ?_
 show Goes _ _ _ _ (s₁.setTop (mkF m 2 #[.val (.ref a), .val (.ref b), .val (.ref aD), .val (.int (0 : Int32))] [(.ref aD), (.int (0 : Int32))]))
 obtain ⟨oc1, oA1, oq1, oS1, oM1, oH1, oG1⟩ := id P4
 refine Goes.st (fun sT kT => X0.arraylength hx (by rw [e0]; exact oA1.1) (State.isArrayOf_alike hZ.alike oA1.2.1) (g := (mkF m 2 #[.val (.ref a), .val (.ref b), .val (.ref aD), .val (.int (0 : Int32))] [(.ref aD), (.int (0 : Int32))])) rfl rfl (hb hby d26_2) _ kT) ?_
 rw [len_of oS1 oM1]
 show Goes _ _ _ _ (s₁.setTop (mkF m 3 #[.val (.ref a), .val (.ref b), .val (.ref aD), .val (.int (0 : Int32))] [(.int (0 : Int32)), (.int (0 : Int32))]))
 refine Goes.st (fun sT kT => XS.icmpNo X0.here hx rfl (hb hby d26_3) rfl (teq (by decide : (0 : Int32) = (0 : Int32))).2 kT) ?_
 show Goes _ _ _ _ (s₁.setTop (mkF m 6 #[.val (.ref a), .val (.ref b), .val (.ref aD), .val (.int (0 : Int32))] []))
 refine Goes.st (fun sT kT => XS.aloadN X0.here hx rfl (hb hby d26_6) rfl rfl kT) ?_
 show Goes _ _ _ _ (s₁.setTop (mkF m 7 #[.val (.ref a), .val (.ref b), .val (.ref aD), .val (.int (0 : Int32))] [(.ref a)]))
 obtain ⟨cq2, q2, q2'⟩ := P0.cell
 obtain ⟨_, _, ⟨T2, L2, k2, n2⟩, -, X2, ⟨Lc2, hQ2, l2, y2, z2⟩, st2⟩ := X0.privateBack hx (y := (⟨"java/util/ArrayList", "grow", "()[Ljava/lang/Object;"⟩ : MethodName)) hown (mvT hZ (hw152 hw)) (mvT hZ (hw153 hw)) (mvT hZ (hw155 hw)) (Cond.privateMethod_at (mvP hZ (hw154 hw) (args := #[]))) (mvT hZ (hw156 hw)) (by decide) (backOf (W := 0) (rm_gr0 l Z a0 hw [] a mc aD kD h0 n0 Z0 P0 P1 P2 P3 P4 P6 g_a OD) hZ (hw156 hw) (hw50 hw) (by decide) (by decide)) (g := (mkF m 7 #[.val (.ref a), .val (.ref b), .val (.ref aD), .val (.int (0 : Int32))] [(.ref a)])) rfl (by rw [hml]; rfl) (Steps.refl _) (a := a) (by rw [e0]; exact q2) q2' (argsL := []) (rest := []) (lenOf pd_7 rfl) rfl (by show 2 * 0 + _ ≤ _; exact Nat.le_of_eq rfl) (hb hby d26_7) (fun _ _ => ⟨rfl, e0, (by decide : 0 + 1 ≤ _), (by decide : 0 + 10 ≤ _)⟩)
 dsimp only [Pt.U, Pt.locs, Pt.cells, Pt.slots] at X2 l2 y2 z2 st2 hQ2
 subst l2 y2 z2
 obtain ⟨ar2, kA2, rfl, N2q, K2, F2_0, F2_1, F2_2, F2_3, F2_4, lo2_0, ov_2⟩ := hQ2
 have N2 := Fr.app N0 N2q
 refine Goes.tr st2 ?_
 show Goes _ _ _ _ (T2.setTop (mkF m 10 #[.val (.ref a), .val (.ref b), .val (.ref aD), .val (.int (0 : Int32))] [(.ref ar2)]))
 refine Goes.st (fun sT kT => XS.astoreN X2.here hx rfl (hb hby d26_10) rfl rfl (l' := #[.val (.ref a), .val (.ref b), .val (.ref ar2), .val (.int (0 : Int32))]) rfl kT) ?_
 show Goes _ _ _ _ (T2.setTop (mkF m 11 #[.val (.ref a), .val (.ref b), .val (.ref ar2), .val (.int (0 : Int32))] []))
 refine Goes.st (fun sT kT => XS.aloadN X2.here hx rfl (hb hby d26_11) rfl rfl kT) ?_
 show Goes _ _ _ _ (T2.setTop (mkF m 12 #[.val (.ref a), .val (.ref b), .val (.ref ar2), .val (.int (0 : Int32))] [(.ref ar2)]))
 refine Goes.st (fun sT kT => XS.iloadN X2.here hx rfl (hb hby d26_12) rfl kT) ?_
 show Goes _ _ _ _ (T2.setTop (mkF m 13 #[.val (.ref a), .val (.ref b), .val (.ref ar2), .val (.int (0 : Int32))] [(.int (0 : Int32)), (.ref ar2)]))
 refine Goes.st (fun sT kT => XS.aloadN X2.here hx rfl (hb hby d26_13) rfl rfl kT) ?_
 show Goes _ _ _ _ (T2.setTop (mkF m 14 #[.val (.ref a), .val (.ref b), .val (.ref ar2), .val (.int (0 : Int32))] [(.ref b), (.int (0 : Int32)), (.ref ar2)]))
 obtain ⟨oc3, oA3, oq3, oS3, oM3, oH3, oG3⟩ := id F2_4
 have f5 : Exa Z T2.heap b "java/lang/String" := (P5.keep K2)
 obtain ⟨T4, h4, X4, e4, W4, st4⟩ := stR X2 hx hZ rfl oA3 (j := (0 : Int32)) (inb_of oS3 ⟨by decide, by decide⟩) rfl (Sto.ofV oA3 oq3 ov_2 (Ins.of_exa f5 (hw168 hw))) (g := (mkF m 14 #[.val (.ref a), .val (.ref b), .val (.ref ar2), .val (.int (0 : Int32))] [(.ref b), (.int (0 : Int32)), (.ref ar2)])) rfl rfl (hb hby d26_14)
 have V4 : Arv Z h4 ar2 kA2 (.object "java/lang/Object") (10 : Int32) [(.ref b), .null, .null, .null, .null, .null, .null, .null, .null, .null] .null := Arv.set oA3 oq3 oS3 oM3 oH3 oG3 rfl W4 0 rfl (Nat.le_of_ble_eq_true rfl)
 have N4 := Fr.snoc X4 N2 (Nat.le_trans Z0 lo2_0)
 refine Goes.st st4 ?_
 show Goes _ _ _ _ (T4.setTop (mkF m 15 #[.val (.ref a), .val (.ref b), .val (.ref ar2), .val (.int (0 : Int32))] []))
 refine Goes.st (fun sT kT => XS.aloadN X4.here hx rfl (hb hby d26_15) rfl rfl kT) ?_
 show Goes _ _ _ _ (T4.setTop (mkF m 16 #[.val (.ref a), .val (.ref b), .val (.ref ar2), .val (.int (0 : Int32))] [(.ref a)]))
 refine Goes.st (fun sT kT => XS.iloadN X4.here hx rfl (hb hby d26_16) rfl kT) ?_
 show Goes _ _ _ _ (T4.setTop (mkF m 17 #[.val (.ref a), .val (.ref b), .val (.ref ar2), .val (.int (0 : Int32))] [(.int (0 : Int32)), (.ref a)]))
 refine Goes.st (fun sT kT => XS.iconst X4.here hx rfl (hb hby d26_17) kT) ?_
 show Goes _ _ _ _ (T4.setTop (mkF m 18 #[.val (.ref a), .val (.ref b), .val (.ref ar2), .val (.int (0 : Int32))] [(.int (1 : Int32)), (.int (0 : Int32)), (.ref a)]))
 refine Goes.st (fun sT kT => XS.iadd X4.here hx rfl (hb hby d26_18) rfl kT) ?_
 show Goes _ _ _ _ (T4.setTop (mkF m 19 #[.val (.ref a), .val (.ref b), .val (.ref ar2), .val (.int (0 : Int32))] [(.int (1 : Int32)), (.ref a)]))
 have f6 : Exa Z h4 a "java/util/ArrayList" := (F2_0.wr W4)
 have f7 : Fld Z h4 a "java/util/ArrayList" "size" "I" (.int (0 : Int32)) := (F2_2.other W4 (Or.inl (Nat.ne_of_lt (Nat.lt_of_lt_of_le P0.lt lo2_0))))
 obtain ⟨T8, h8, X8, e8, W8, st8⟩ := putF X4 hx hZ hown (host := "") (Or.inl (hw145 hw)) Via.refl e4 f7 f6 (Or.inl (hw146 hw)) (hw49 hw) (ty := .int) (by decide) rfl rfl (g := (mkF m 19 #[.val (.ref a), .val (.ref b), .val (.ref ar2), .val (.int (0 : Int32))] [(.int (1 : Int32)), (.ref a)])) rfl rfl (hb hby d26_19)
 have N8 := Fr.snoc X8 N4 g_a
 have F8 := f7.same W8
 refine Goes.st st8 ?_
 show Goes _ _ _ _ (T8.setTop (mkF m 22 #[.val (.ref a), .val (.ref b), .val (.ref ar2), .val (.int (0 : Int32))] []))
 have kp9 : Keep h0 T2.heap [a] := (Keep.refl h0 [a]).trans K2 (allS (Or.inl (List.mem_of_getElem? (i := 0) rfl)) all0)
 have kp10 : Keep h0 h4 [a] := kp9.wr W4 (Or.inr lo2_0)
 have kp11 : Keep h0 h8 [a] := kp10.wr W8 (Or.inl (List.mem_of_getElem? (i := 0) rfl))
 have f12 : Exa Z h8 a "java/util/ArrayList" := (f6.wr W8)
 have f13 : Fld Z h8 a "java/util/ArrayList" "elementData" "[Ljava/lang/Object;" (.ref ar2) := ((F2_1.other W4 (Or.inl (Nat.ne_of_lt (Nat.lt_of_lt_of_le P0.lt lo2_0)))).other W8 (Or.inr (slot_ne (Or.inl (hw71 hw)) (Or.inl (hw146 hw)) (by decide) (t := (.array (.object "java/lang/Object"))) (t' := .int) (by decide) (by decide))))
 have f14 : Fld Z h8 a "java/util/AbstractList" "modCount" "I" (.int mc) := ((F2_3.other W4 (Or.inl (Nat.ne_of_lt (Nat.lt_of_lt_of_le P0.lt lo2_0)))).other W8 (Or.inr (slot_ne (Or.inl (hw68 hw)) (Or.inl (hw146 hw)) (by decide) (t := .int) (t' := .int) (by decide) (by decide))))
 have f15 : Arv Z h8 ar2 kA2 (.object "java/lang/Object") (10 : Int32) [(.ref b), .null, .null, .null, .null, .null, .null, .null, .null, .null] .null := (V4.other W8 (Ne.symm (Nat.ne_of_lt (Nat.lt_of_lt_of_le P0.lt lo2_0))))
 obtain ⟨fs, hr, hrun, hended, hW, hsame⟩ := X8.leave (v := none) (fun _ => rfl)
 subst hQQ
 refine ⟨_, _, X8.returnOut hx Bd.returns (hb hby d26_22) hr, hrun, hended, _, _, rfl, ?_, ⟨_, rfl⟩, hW, hsame.mono (by decide) (by decide)⟩
 show Q_adH1 Z a b mc aD kD h0 n0 _ T8.heap _
 rw [e8]
 exact ⟨ar2, kA2, rfl, N8, kp11, f12, f13, F8, f14, f15, lo2_0, ov_2⟩
theorem ef_add1 (m : MethodId) (a : Addr) (b : Addr) (mc : Int32) (aD : Addr) (kD : ClassId) : entryFrame m #[(.ref a), (.ref b)] 2 = (mkF m 0 #[.val (.ref a), .val (.ref b)] []) := by first | (simp [entryFrame, mkF, argsToLocals, Value.category]; done) | rfl
def Q_add1 (Z : State) (a : Addr) (b : Addr) (mc : Int32) (aD : Addr) (kD : ClassId) (h0 : Heap) (n0 : Nat) (v : Option Value) (h : Heap) (L : List Loc) : Prop := ∃ (ar : Addr) (kA : ClassId), v = some (.int (1 : Int32)) ∧ Fr n0 L ∧ Keep h0 h [a] ∧ Exa Z h a "java/util/ArrayList" ∧ Fld Z h a "java/util/ArrayList" "elementData" "[Ljava/lang/Object;" (.ref ar) ∧ Fld Z h a "java/util/ArrayList" "size" "I" (.int (1 : Int32)) ∧ Fld Z h a "java/util/AbstractList" "modCount" "I" (.int (mc + (1 : Int32))) ∧ Arv Z h ar kA (.object "java/lang/Object") (10 : Int32) [(.ref b), .null, .null, .null, .null, .null, .null, .null, .null, .null] .null ∧ h0.size ≤ ar ∧ (Ovr Z kA "java/lang/Object")
set_option maxRecDepth 65536 in
set_option maxHeartbeats 40000000 in
theorem rm_add1 (l : Launch) (Z : State) (a0 : Array Value) (hw : ∀ d ∈ tables_1, d.before a0 Z = true) (ws : List Jvm.Cond) (a : Addr) (b : Addr) (mc : Int32) (aD : Addr) (kD : ClassId) (h0 : Heap) (n0 : Nat) (Z0 : n0 ≤ h0.size) (P0 : Exa Z h0 a "java/util/ArrayList") (P1 : Fld Z h0 a "java/util/ArrayList" "elementData" "[Ljava/lang/Object;" (.ref aD)) (P2 : Fld Z h0 a "java/util/ArrayList" "size" "I" (.int (0 : Int32))) (P3 : Fld Z h0 a "java/util/AbstractList" "modCount" "I" (.int mc)) (P4 : Arv Z h0 aD kD (.object "java/lang/Object") (0 : Int32) [] .null) (P5 : Exa Z h0 b "java/lang/String") (P6 : Old Z n0 h0) (g_a : n0 ≤ a) (OD : Sta Z Z.heap "java/util/ArrayList" "DEFAULTCAPACITY_EMPTY_ELEMENTDATA" "[Ljava/lang/Object;" (.ref aD)) :
    MetFree l (⟨"java/util/ArrayList", "add", "(Ljava/lang/Object;)Z"⟩ : MethodName) (head1 (Jvm.Cond.code (⟨"java/util/ArrayList", "add", "(Ljava/lang/Object;)Z"⟩ : MethodName) jdk_38_method_25_code 2 (some .boolean) :: ws) ({ frames := 4, cells := 1, slots := 10, locals := 58 } : Room)) (fun aR U => aR = #[(.ref a), (.ref b)] ∧ Z.Warmed39 U.vm ∧ U.heap = h0) (fun _ _ _ _ _ => True) (fun _ U o U' => ∃ v L, o = .returned v ∧ Q_add1 Z a b mc aD kD h0 n0 v U'.heap L ∧ FrameEnd U o U' L ({ frames := 4, cells := 1, slots := 10, locals := 58 } : Room).cells ({ frames := 4, cells := 1, slots := 10, locals := 58 } : Room).slots) := by
 refine MetFree.of_bodySF (plainFor_of_name pn_5) hisR ?_
 intro p e s m args below meth c s₁ Bd hml0 hP hK
 obtain ⟨rfl, hZ, hh⟩ := hP
 have hx := Bd.exec
 have hby := Bd.bytes
 have hml : c.maxLocals = 2 := hml0
 have hown : s.vm.findClass "java/util/ArrayList" = some m.cls := findClass_of_methodNamed Bd.named
 have hnm := (name_of_methodNamed Bd.named Bd.method).1
 have X0 : Stand p l e ({ frames := 4, cells := 1, slots := 10, locals := 58 } : Room) s m #[(.ref a), (.ref b)] below meth c s₁ [] 0 0 := Stand.of_body Bd
 have e0 : s₁.heap = h0 := by rw [← hh, Bd.state]; rfl
 have N0 := Fr.nil n0
 show Goes p.tables e below _ _
 rw [ef_add1 m a b mc aD kD]
 refine Goes.named ?_
 intro QQ hQQ
 refine Goes.st (fun sT kT => XS.aloadN X0.here hx rfl (hb hby d25_0) rfl rfl kT) ?_
 show Goes _ _ _ _ (s₁.setTop (mkF m 1 #[.val (.ref a), .val (.ref b)] [(.ref a)]))
 refine Goes.st (fun sT kT => XS.dup X0.here hx rfl (hb hby d25_1) rfl rfl kT) ?_
 show Goes _ _ _ _ (s₁.setTop (mkF m 2 #[.val (.ref a), .val (.ref b)] [(.ref a), (.ref a)]))
 obtain ⟨T1, X1, e1, st1⟩ := getF X0 hx hZ hown (host := "") (Or.inl (hw143 hw)) (Via.of (hw144 hw)) e0 P3 (g := (mkF m 2 #[.val (.ref a), .val (.ref b)] [(.ref a), (.ref a)])) rfl rfl (hb hby d25_2)
 refine Goes.st st1 ?_
 show Goes _ _ _ _ (T1.setTop (mkF m 5 #[.val (.ref a), .val (.ref b)] [(.int mc), (.ref a)]))
 refine Goes.st (fun sT kT => XS.iconst X1.here hx rfl (hb hby d25_5) kT) ?_
 show Goes _ _ _ _ (T1.setTop (mkF m 6 #[.val (.ref a), .val (.ref b)] [(.int (1 : Int32)), (.int mc), (.ref a)]))
 refine Goes.st (fun sT kT => XS.iadd X1.here hx rfl (hb hby d25_6) rfl kT) ?_
 show Goes _ _ _ _ (T1.setTop (mkF m 7 #[.val (.ref a), .val (.ref b)] [(.int (mc + (1 : Int32))), (.ref a)]))
 obtain ⟨T2, h2, X2, e2, W2, st2⟩ := putF X1 hx hZ hown (host := "") (Or.inl (hw143 hw)) (Via.of (hw144 hw)) e1 P3 P0 (Or.inl (hw68 hw)) (hw49 hw) (ty := .int) (by decide) rfl rfl (g := (mkF m 7 #[.val (.ref a), .val (.ref b)] [(.int (mc + (1 : Int32))), (.ref a)])) rfl rfl (hb hby d25_7)
 have N2 := Fr.snoc X2 N0 g_a
 have F2 := P3.same W2
 refine Goes.st st2 ?_
 show Goes _ _ _ _ (T2.setTop (mkF m 10 #[.val (.ref a), .val (.ref b)] []))
 refine Goes.st (fun sT kT => XS.aloadN X2.here hx rfl (hb hby d25_10) rfl rfl kT) ?_
 show Goes _ _ _ _ (T2.setTop (mkF m 11 #[.val (.ref a), .val (.ref b)] [(.ref a)]))
 refine Goes.st (fun sT kT => XS.aloadN X2.here hx rfl (hb hby d25_11) rfl rfl kT) ?_
 show Goes _ _ _ _ (T2.setTop (mkF m 12 #[.val (.ref a), .val (.ref b)] [(.ref b), (.ref a)]))
 refine Goes.st (fun sT kT => XS.aloadN X2.here hx rfl (hb hby d25_12) rfl rfl kT) ?_
 show Goes _ _ _ _ (T2.setTop (mkF m 13 #[.val (.ref a), .val (.ref b)] [(.ref a), (.ref b), (.ref a)]))
 have f3 : Fld Z h2 a "java/util/ArrayList" "elementData" "[Ljava/lang/Object;" (.ref aD) := (P1.other W2 (Or.inr (slot_ne (Or.inl (hw71 hw)) (Or.inl (hw68 hw)) (by decide) (t := (.array (.object "java/lang/Object"))) (t' := .int) (by decide) (by decide))))
 obtain ⟨T4, X4, e4, st4⟩ := getF X2 hx hZ hown (host := "") (Or.inl (hw70 hw)) Via.refl e2 f3 (g := (mkF m 13 #[.val (.ref a), .val (.ref b)] [(.ref a), (.ref b), (.ref a)])) rfl rfl (hb hby d25_13)
 refine Goes.st st4 ?_
 show Goes _ _ _ _ (T4.setTop (mkF m 16 #[.val (.ref a), .val (.ref b)] [(.ref aD), (.ref b), (.ref a)]))
 refine Goes.st (fun sT kT => XS.aloadN X4.here hx rfl (hb hby d25_16) rfl rfl kT) ?_
 show Goes _ _ _ _ (T4.setTop (mkF m 17 #[.val (.ref a), .val (.ref b)] [(.ref a), (.ref aD), (.ref b), (.ref a)]))
 have f5 : Fld Z h2 a "java/util/ArrayList" "size" "I" (.int (0 : Int32)) := (P2.other W2 (Or.inr (slot_ne (Or.inl (hw146 hw)) (Or.inl (hw68 hw)) (by decide) (t := .int) (t' := .int) (by decide) (by decide))))
 obtain ⟨T6, X6, e6, st6⟩ := getF X4 hx hZ hown (host := "") (Or.inl (hw145 hw)) Via.refl e4 f5 (g := (mkF m 17 #[.val (.ref a), .val (.ref b)] [(.ref a), (.ref aD), (.ref b), (.ref a)])) rfl rfl (hb hby d25_17)
 refine Goes.st st6 ?_
 show Goes _ _ _ _ (T6.setTop (mkF m 20 #[.val (.ref a), .val (.ref b)] [(.int (0 : Int32)), (.ref aD), (.ref b), (.ref a)]))
 have f8 : Exa Z h2 a "java/util/ArrayList" := (P0.wr W2)
 have f9 : Arv Z h2 aD kD (.object "java/lang/Object") (0 : Int32) [] .null := (P4.other W2 (Ne.symm (Exa.neArv P0 P4 (hw49 hw))))
 have f10 : Exa Z h2 b "java/lang/String" := (P5.wr W2)
 have f11 : Old Z n0 h2 := (P6.wr W2 g_a)
 obtain ⟨cq7, q7, q7'⟩ := f8.cell
 obtain ⟨_, _, ⟨T7, L7, k7, n7⟩, -, X7, ⟨Lc7, hQ7, l7, y7, z7⟩, st7⟩ := X6.privateBack hx (y := (⟨"java/util/ArrayList", "add", "(Ljava/lang/Object;[Ljava/lang/Object;I)V"⟩ : MethodName)) hown (mvT hZ (hw147 hw)) (mvT hZ (hw148 hw)) (mvT hZ (hw150 hw)) (Cond.privateMethod_at (mvP hZ (hw149 hw) (args := #[]))) (mvT hZ (hw151 hw)) (by decide) (backOf (W := 0) (rm_adH1 l Z a0 hw [] a b (mc + (1 : Int32)) aD kD h2 n0 (Nat.le_trans Z0 (Nat.le_of_eq W2.size.symm)) f8 f3 f5 F2 f9 f10 f11 g_a OD) hZ (hw151 hw) (hw50 hw) (by decide) (by decide)) (g := (mkF m 20 #[.val (.ref a), .val (.ref b)] [(.int (0 : Int32)), (.ref aD), (.ref b), (.ref a)])) rfl (by rw [hml]; rfl) (Steps.refl _) (a := a) (by rw [e6]; exact q7) q7' (argsL := [(.ref b), (.ref aD), (.int (0 : Int32))]) (rest := []) (lenOf pd_8 rfl) rfl (by show 2 * 0 + _ ≤ _; exact Nat.le_of_eq rfl) (hb hby d25_20) (fun _ _ => ⟨rfl, e6, (by decide : 0 + 1 ≤ _), (by decide : 0 + 10 ≤ _)⟩)
 dsimp only [Pt.U, Pt.locs, Pt.cells, Pt.slots] at X7 l7 y7 z7 st7 hQ7
 subst l7 y7 z7
 obtain ⟨ar7, kA7, rfl, N7q, K7, F7_0, F7_1, F7_2, F7_3, F7_4, lo7_0, ov_7⟩ := hQ7
 have N7 := Fr.app N2 N7q
 refine Goes.tr st7 ?_
 show Goes _ _ _ _ (T7.setTop (mkF m 23 #[.val (.ref a), .val (.ref b)] []))
 refine Goes.st (fun sT kT => XS.iconst X7.here hx rfl (hb hby d25_23) kT) ?_
 show Goes _ _ _ _ (T7.setTop (mkF m 24 #[.val (.ref a), .val (.ref b)] [(.int (1 : Int32))]))
 have kp12 : Keep h0 h2 [a] := (Keep.refl h0 [a]).wr W2 (Or.inl (List.mem_of_getElem? (i := 0) rfl))
 have kp13 : Keep h0 T7.heap [a] := kp12.trans K7 (allS (Or.inl (List.mem_of_getElem? (i := 0) rfl)) all0)
 obtain ⟨fs, hr, hrun, hended, hW, hsame⟩ := X7.leave (v := some (.int (1 : Int32))) (fun h => by rw [Bd.returns] at h; cases h)
 subst hQQ
 refine ⟨_, _, retN X7 hx (t := .boolean) Bd.returns (by simp) (hb hby d25_24) hr, hrun, hended, _, _, rfl, ?_, ⟨_, rfl⟩, hW, hsame.mono (by decide) (by decide)⟩
 show Q_add1 Z a b mc aD kD h0 n0 _ T7.heap _
 exact ⟨ar7, kA7, rfl, N7, kp13, F7_0, F7_1, F7_2, F7_3, F7_4, (Nat.le_trans (Nat.le_of_eq W2.size.symm) lo7_0), ov_7⟩
theorem ef_adH2 (m : MethodId) (a : Addr) (b : Addr) (ar : Addr) (kA : ClassId) (b1 : Addr) (mc : Int32) : entryFrame m #[(.ref a), (.ref b), (.ref ar), (.int (1 : Int32))] 4 = (mkF m 0 #[.val (.ref a), .val (.ref b), .val (.ref ar), .val (.int (1 : Int32))] []) := by first | (simp [entryFrame, mkF, argsToLocals, Value.category]; done) | rfl
def Q_adH2 (Z : State) (a : Addr) (b : Addr) (ar : Addr) (kA : ClassId) (b1 : Addr) (mc : Int32) (h0 : Heap) (n0 : Nat) (v : Option Value) (h : Heap) (L : List Loc) : Prop := v = none ∧ Fr n0 L ∧ Keep h0 h [a, ar] ∧ Exa Z h a "java/util/ArrayList" ∧ Fld Z h a "java/util/ArrayList" "elementData" "[Ljava/lang/Object;" (.ref ar) ∧ Fld Z h a "java/util/ArrayList" "size" "I" (.int (2 : Int32)) ∧ Fld Z h a "java/util/AbstractList" "modCount" "I" (.int mc) ∧ Arv Z h ar kA (.object "java/lang/Object") (10 : Int32) [(.ref b1), (.ref b), .null, .null, .null, .null, .null, .null, .null, .null] .null
set_option maxRecDepth 65536 in
set_option maxHeartbeats 40000000 in
theorem rm_adH2 (l : Launch) (Z : State) (a0 : Array Value) (hw : ∀ d ∈ tables_1, d.before a0 Z = true) (ws : List Jvm.Cond) (a : Addr) (b : Addr) (ar : Addr) (kA : ClassId) (b1 : Addr) (mc : Int32) (h0 : Heap) (n0 : Nat) (Z0 : n0 ≤ h0.size) (P0 : Exa Z h0 a "java/util/ArrayList") (P1 : Fld Z h0 a "java/util/ArrayList" "elementData" "[Ljava/lang/Object;" (.ref ar)) (P2 : Fld Z h0 a "java/util/ArrayList" "size" "I" (.int (1 : Int32))) (P3 : Fld Z h0 a "java/util/AbstractList" "modCount" "I" (.int mc)) (P4 : Arv Z h0 ar kA (.object "java/lang/Object") (10 : Int32) [(.ref b1), .null, .null, .null, .null, .null, .null, .null, .null, .null] .null) (P5 : Exa Z h0 b "java/lang/String") (g_a : n0 ≤ a) (g_ar : n0 ≤ ar) (ov : Ovr Z kA "java/lang/Object") :
    MetFree l (⟨"java/util/ArrayList", "add", "(Ljava/lang/Object;[Ljava/lang/Object;I)V"⟩ : MethodName) (head1 (Jvm.Cond.code (⟨"java/util/ArrayList", "add", "(Ljava/lang/Object;[Ljava/lang/Object;I)V"⟩ : MethodName) jdk_38_method_24_code 4 none :: ws) ({ frames := 0, cells := 0, slots := 0, locals := 0 } : Room)) (fun aR U => aR = #[(.ref a), (.ref b), (.ref ar), (.int (1 : Int32))] ∧ Z.Warmed39 U.vm ∧ U.heap = h0) (fun _ _ _ _ _ => True) (fun _ U o U' => ∃ v L, o = .returned v ∧ Q_adH2 Z a b ar kA b1 mc h0 n0 v U'.heap L ∧ FrameEnd U o U' L ({ frames := 0, cells := 0, slots := 0, locals := 0 } : Room).cells ({ frames := 0, cells := 0, slots := 0, locals := 0 } : Room).slots) := by
 refine MetFree.of_bodySF (plainFor_of_name pn_5) hisR ?_
 intro p e s m args below meth c s₁ Bd hml0 hP hK
 obtain ⟨rfl, hZ, hh⟩ := hP
 have hx := Bd.exec
 have hby := Bd.bytes
 have hml : c.maxLocals = 4 := hml0
 have hown : s.vm.findClass "java/util/ArrayList" = some m.cls := findClass_of_methodNamed Bd.named
 have hnm := (name_of_methodNamed Bd.named Bd.method).1
 have X0 : Stand p l e ({ frames := 0, cells := 0, slots := 0, locals := 0 } : Room) s m #[(.ref a), (.ref b), (.ref ar), (.int (1 : Int32))] below meth c s₁ [] 0 0 := Stand.of_body Bd
 have e0 : s₁.heap = h0 := by rw [← hh, Bd.state]; rfl
 have N0 := Fr.nil n0
 show Goes p.tables e below _ _
 rw [ef_adH2 m a b ar kA b1 mc]
 refine Goes.named ?_
 intro QQ hQQ
 refine Goes.st (fun sT kT => XS.iloadN X0.here hx rfl (hb hby d26_0) rfl kT) ?_
 show Goes _ _ _ _ (s₁.setTop (mkF m 1 #[.val (.ref a), .val (.ref b), .val (.ref ar), .val (.int (1 : Int32))] [(.int (1 : Int32))]))
 refine Goes.st (fun sT kT => XS.aloadN X0.here hx rfl (hb hby d26_1) rfl rfl kT) ?_
 show Goes _ _ _ _ (s₁.setTop (mkF m 2 #[.val (.ref a), .val (.ref b), .val (.ref ar), .val (.int (1 : Int32))] [(.ref ar), (.int (1 : Int32))]))
 obtain ⟨oc1, oA1, oq1, oS1, oM1, oH1, oG1⟩ := id P4
 refine Goes.st (fun sT kT => X0.arraylength hx (by rw [e0]; exact oA1.1) (State.isArrayOf_alike hZ.alike oA1.2.1) (g := (mkF m 2 #[.val (.ref a), .val (.ref b), .val (.ref ar), .val (.int (1 : Int32))] [(.ref ar), (.int (1 : Int32))])) rfl rfl (hb hby d26_2) _ kT) ?_
 rw [len_of oS1 oM1]
 show Goes _ _ _ _ (s₁.setTop (mkF m 3 #[.val (.ref a), .val (.ref b), .val (.ref ar), .val (.int (1 : Int32))] [(.int (10 : Int32)), (.int (1 : Int32))]))
 refine Goes.st (fun sT kT => XS.icmpYes X0.here hx rfl (pc0 := 3) (pc' := 11) rfl (hb hby d26_3) rfl (feq (by decide : ¬ ((1 : Int32) = (10 : Int32)))).2 (by decide) (by decide) kT) ?_
 show Goes _ _ _ _ (s₁.setTop (mkF m 11 #[.val (.ref a), .val (.ref b), .val (.ref ar), .val (.int (1 : Int32))] []))
 refine Goes.st (fun sT kT => XS.aloadN X0.here hx rfl (hb hby d26_11) rfl rfl kT) ?_
 show Goes _ _ _ _ (s₁.setTop (mkF m 12 #[.val (.ref a), .val (.ref b), .val (.ref ar), .val (.int (1 : Int32))] [(.ref ar)]))
 refine Goes.st (fun sT kT => XS.iloadN X0.here hx rfl (hb hby d26_12) rfl kT) ?_
 show Goes _ _ _ _ (s₁.setTop (mkF m 13 #[.val (.ref a), .val (.ref b), .val (.ref ar), .val (.int (1 : Int32))] [(.int (1 : Int32)), (.ref ar)]))
 refine Goes.st (fun sT kT => XS.aloadN X0.here hx rfl (hb hby d26_13) rfl rfl kT) ?_
 show Goes _ _ _ _ (s₁.setTop (mkF m 14 #[.val (.ref a), .val (.ref b), .val (.ref ar), .val (.int (1 : Int32))] [(.ref b), (.int (1 : Int32)), (.ref ar)]))
 obtain ⟨oc2, oA2, oq2, oS2, oM2, oH2, oG2⟩ := id P4
 obtain ⟨T3, h3, X3, e3, W3, st3⟩ := stR X0 hx hZ e0 oA2 (j := (1 : Int32)) (inb_of oS2 ⟨by decide, by decide⟩) rfl (Sto.ofV oA2 oq2 ov (Ins.of_exa P5 (hw168 hw))) (g := (mkF m 14 #[.val (.ref a), .val (.ref b), .val (.ref ar), .val (.int (1 : Int32))] [(.ref b), (.int (1 : Int32)), (.ref ar)])) rfl rfl (hb hby d26_14)
 have V3 : Arv Z h3 ar kA (.object "java/lang/Object") (10 : Int32) [(.ref b1), (.ref b), .null, .null, .null, .null, .null, .null, .null, .null] .null := Arv.set oA2 oq2 oS2 oM2 oH2 oG2 rfl W3 1 rfl (Nat.le_of_ble_eq_true rfl)
 have N3 := Fr.snoc X3 N0 g_ar
 refine Goes.st st3 ?_
 show Goes _ _ _ _ (T3.setTop (mkF m 15 #[.val (.ref a), .val (.ref b), .val (.ref ar), .val (.int (1 : Int32))] []))
 refine Goes.st (fun sT kT => XS.aloadN X3.here hx rfl (hb hby d26_15) rfl rfl kT) ?_
 show Goes _ _ _ _ (T3.setTop (mkF m 16 #[.val (.ref a), .val (.ref b), .val (.ref ar), .val (.int (1 : Int32))] [(.ref a)]))
 refine Goes.st (fun sT kT => XS.iloadN X3.here hx rfl (hb hby d26_16) rfl kT) ?_
 show Goes _ _ _ _ (T3.setTop (mkF m 17 #[.val (.ref a), .val (.ref b), .val (.ref ar), .val (.int (1 : Int32))] [(.int (1 : Int32)), (.ref a)]))
 refine Goes.st (fun sT kT => XS.iconst X3.here hx rfl (hb hby d26_17) kT) ?_
 show Goes _ _ _ _ (T3.setTop (mkF m 18 #[.val (.ref a), .val (.ref b), .val (.ref ar), .val (.int (1 : Int32))] [(.int (1 : Int32)), (.int (1 : Int32)), (.ref a)]))
 refine Goes.st (fun sT kT => XS.iadd X3.here hx rfl (hb hby d26_18) rfl kT) ?_
 show Goes _ _ _ _ (T3.setTop (mkF m 19 #[.val (.ref a), .val (.ref b), .val (.ref ar), .val (.int (1 : Int32))] [(.int (2 : Int32)), (.ref a)]))
 have f4 : Exa Z h3 a "java/util/ArrayList" := (P0.wr W3)
 have f5 : Fld Z h3 a "java/util/ArrayList" "size" "I" (.int (1 : Int32)) := (P2.other W3 (Or.inl (Exa.neArv P0 P4 (hw49 hw))))
 obtain ⟨T6, h6, X6, e6, W6, st6⟩ := putF X3 hx hZ hown (host := "") (Or.inl (hw145 hw)) Via.refl e3 f5 f4 (Or.inl (hw146 hw)) (hw49 hw) (ty := .int) (by decide) rfl rfl (g := (mkF m 19 #[.val (.ref a), .val (.ref b), .val (.ref ar), .val (.int (1 : Int32))] [(.int (2 : Int32)), (.ref a)])) rfl rfl (hb hby d26_19)
 have N6 := Fr.snoc X6 N3 g_a
 have F6 := f5.same W6
 refine Goes.st st6 ?_
 show Goes _ _ _ _ (T6.setTop (mkF m 22 #[.val (.ref a), .val (.ref b), .val (.ref ar), .val (.int (1 : Int32))] []))
 have kp7 : Keep h0 h3 [a, ar] := (Keep.refl h0 [a, ar]).wr W3 (Or.inl (List.mem_of_getElem? (i := 1) rfl))
 have kp8 : Keep h0 h6 [a, ar] := kp7.wr W6 (Or.inl (List.mem_of_getElem? (i := 0) rfl))
 have f9 : Exa Z h6 a "java/util/ArrayList" := (f4.wr W6)
 have f10 : Fld Z h6 a "java/util/ArrayList" "elementData" "[Ljava/lang/Object;" (.ref ar) := ((P1.other W3 (Or.inl (Exa.neArv P0 P4 (hw49 hw)))).other W6 (Or.inr (slot_ne (Or.inl (hw71 hw)) (Or.inl (hw146 hw)) (by decide) (t := (.array (.object "java/lang/Object"))) (t' := .int) (by decide) (by decide))))
 have f11 : Fld Z h6 a "java/util/AbstractList" "modCount" "I" (.int mc) := ((P3.other W3 (Or.inl (Exa.neArv P0 P4 (hw49 hw)))).other W6 (Or.inr (slot_ne (Or.inl (hw68 hw)) (Or.inl (hw146 hw)) (by decide) (t := .int) (t' := .int) (by decide) (by decide))))
 have f12 : Arv Z h6 ar kA (.object "java/lang/Object") (10 : Int32) [(.ref b1), (.ref b), .null, .null, .null, .null, .null, .null, .null, .null] .null := (V3.other W6 (Ne.symm (Exa.neArv P0 P4 (hw49 hw))))
 obtain ⟨fs, hr, hrun, hended, hW, hsame⟩ := X6.leave (v := none) (fun _ => rfl)
 subst hQQ
 refine ⟨_, _, X6.returnOut hx Bd.returns (hb hby d26_22) hr, hrun, hended, _, _, rfl, ?_, ⟨_, rfl⟩, hW, hsame.mono (by decide) (by decide)⟩
 show Q_adH2 Z a b ar kA b1 mc h0 n0 _ T6.heap _
 rw [e6]
 exact ⟨rfl, N6, kp8, f9, f10, F6, f11, f12⟩
theorem ef_add2 (m : MethodId) (a : Addr) (b : Addr) (ar : Addr) (kA : ClassId) (b1 : Addr) (mc : Int32) : entryFrame m #[(.ref a), (.ref b)] 2 = (mkF m 0 #[.val (.ref a), .val (.ref b)] []) := by first | (simp [entryFrame, mkF, argsToLocals, Value.category]; done) | rfl
def Q_add2 (Z : State) (a : Addr) (b : Addr) (ar : Addr) (kA : ClassId) (b1 : Addr) (mc : Int32) (h0 : Heap) (n0 : Nat) (v : Option Value) (h : Heap) (L : List Loc) : Prop := v = some (.int (1 : Int32)) ∧ Fr n0 L ∧ Keep h0 h [a, ar] ∧ Exa Z h a "java/util/ArrayList" ∧ Fld Z h a "java/util/ArrayList" "elementData" "[Ljava/lang/Object;" (.ref ar) ∧ Fld Z h a "java/util/ArrayList" "size" "I" (.int (2 : Int32)) ∧ Fld Z h a "java/util/AbstractList" "modCount" "I" (.int (mc + (1 : Int32))) ∧ Arv Z h ar kA (.object "java/lang/Object") (10 : Int32) [(.ref b1), (.ref b), .null, .null, .null, .null, .null, .null, .null, .null] .null
set_option maxRecDepth 65536 in
set_option maxHeartbeats 40000000 in
theorem rm_add2 (l : Launch) (Z : State) (a0 : Array Value) (hw : ∀ d ∈ tables_1, d.before a0 Z = true) (ws : List Jvm.Cond) (a : Addr) (b : Addr) (ar : Addr) (kA : ClassId) (b1 : Addr) (mc : Int32) (h0 : Heap) (n0 : Nat) (Z0 : n0 ≤ h0.size) (P0 : Exa Z h0 a "java/util/ArrayList") (P1 : Fld Z h0 a "java/util/ArrayList" "elementData" "[Ljava/lang/Object;" (.ref ar)) (P2 : Fld Z h0 a "java/util/ArrayList" "size" "I" (.int (1 : Int32))) (P3 : Fld Z h0 a "java/util/AbstractList" "modCount" "I" (.int mc)) (P4 : Arv Z h0 ar kA (.object "java/lang/Object") (10 : Int32) [(.ref b1), .null, .null, .null, .null, .null, .null, .null, .null, .null] .null) (P5 : Exa Z h0 b "java/lang/String") (g_a : n0 ≤ a) (g_ar : n0 ≤ ar) (ov : Ovr Z kA "java/lang/Object") :
    MetFree l (⟨"java/util/ArrayList", "add", "(Ljava/lang/Object;)Z"⟩ : MethodName) (head1 (Jvm.Cond.code (⟨"java/util/ArrayList", "add", "(Ljava/lang/Object;)Z"⟩ : MethodName) jdk_38_method_25_code 2 (some .boolean) :: ws) ({ frames := 1, cells := 0, slots := 0, locals := 19 } : Room)) (fun aR U => aR = #[(.ref a), (.ref b)] ∧ Z.Warmed39 U.vm ∧ U.heap = h0) (fun _ _ _ _ _ => True) (fun _ U o U' => ∃ v L, o = .returned v ∧ Q_add2 Z a b ar kA b1 mc h0 n0 v U'.heap L ∧ FrameEnd U o U' L ({ frames := 1, cells := 0, slots := 0, locals := 19 } : Room).cells ({ frames := 1, cells := 0, slots := 0, locals := 19 } : Room).slots) := by
 refine MetFree.of_bodySF (plainFor_of_name pn_5) hisR ?_
 intro p e s m args below meth c s₁ Bd hml0 hP hK
 obtain ⟨rfl, hZ, hh⟩ := hP
 have hx := Bd.exec
 have hby := Bd.bytes
 have hml : c.maxLocals = 2 := hml0
 have hown : s.vm.findClass "java/util/ArrayList" = some m.cls := findClass_of_methodNamed Bd.named
 have hnm := (name_of_methodNamed Bd.named Bd.method).1
 have X0 : Stand p l e ({ frames := 1, cells := 0, slots := 0, locals := 19 } : Room) s m #[(.ref a), (.ref b)] below meth c s₁ [] 0 0 := Stand.of_body Bd
 have e0 : s₁.heap = h0 := by rw [← hh, Bd.state]; rfl
 have N0 := Fr.nil n0
 show Goes p.tables e below _ _
 rw [ef_add2 m a b ar kA b1 mc]
 refine Goes.named ?_
 intro QQ hQQ
 refine Goes.st (fun sT kT => XS.aloadN X0.here hx rfl (hb hby d25_0) rfl rfl kT) ?_
 show Goes _ _ _ _ (s₁.setTop (mkF m 1 #[.val (.ref a), .val (.ref b)] [(.ref a)]))
 refine Goes.st (fun sT kT => XS.dup X0.here hx rfl (hb hby d25_1) rfl rfl kT) ?_
 show Goes _ _ _ _ (s₁.setTop (mkF m 2 #[.val (.ref a), .val (.ref b)] [(.ref a), (.ref a)]))
 obtain ⟨T1, X1, e1, st1⟩ := getF X0 hx hZ hown (host := "") (Or.inl (hw143 hw)) (Via.of (hw144 hw)) e0 P3 (g := (mkF m 2 #[.val (.ref a), .val (.ref b)] [(.ref a), (.ref a)])) rfl rfl (hb hby d25_2)
 refine Goes.st st1 ?_
 show Goes _ _ _ _ (T1.setTop (mkF m 5 #[.val (.ref a), .val (.ref b)] [(.int mc), (.ref a)]))
 refine Goes.st (fun sT kT => XS.iconst X1.here hx rfl (hb hby d25_5) kT) ?_
 show Goes _ _ _ _ (T1.setTop (mkF m 6 #[.val (.ref a), .val (.ref b)] [(.int (1 : Int32)), (.int mc), (.ref a)]))
 refine Goes.st (fun sT kT => XS.iadd X1.here hx rfl (hb hby d25_6) rfl kT) ?_
 show Goes _ _ _ _ (T1.setTop (mkF m 7 #[.val (.ref a), .val (.ref b)] [(.int (mc + (1 : Int32))), (.ref a)]))
 obtain ⟨T2, h2, X2, e2, W2, st2⟩ := putF X1 hx hZ hown (host := "") (Or.inl (hw143 hw)) (Via.of (hw144 hw)) e1 P3 P0 (Or.inl (hw68 hw)) (hw49 hw) (ty := .int) (by decide) rfl rfl (g := (mkF m 7 #[.val (.ref a), .val (.ref b)] [(.int (mc + (1 : Int32))), (.ref a)])) rfl rfl (hb hby d25_7)
 have N2 := Fr.snoc X2 N0 g_a
 have F2 := P3.same W2
 refine Goes.st st2 ?_
 show Goes _ _ _ _ (T2.setTop (mkF m 10 #[.val (.ref a), .val (.ref b)] []))
 refine Goes.st (fun sT kT => XS.aloadN X2.here hx rfl (hb hby d25_10) rfl rfl kT) ?_
 show Goes _ _ _ _ (T2.setTop (mkF m 11 #[.val (.ref a), .val (.ref b)] [(.ref a)]))
 refine Goes.st (fun sT kT => XS.aloadN X2.here hx rfl (hb hby d25_11) rfl rfl kT) ?_
 show Goes _ _ _ _ (T2.setTop (mkF m 12 #[.val (.ref a), .val (.ref b)] [(.ref b), (.ref a)]))
 refine Goes.st (fun sT kT => XS.aloadN X2.here hx rfl (hb hby d25_12) rfl rfl kT) ?_
 show Goes _ _ _ _ (T2.setTop (mkF m 13 #[.val (.ref a), .val (.ref b)] [(.ref a), (.ref b), (.ref a)]))
 have f3 : Fld Z h2 a "java/util/ArrayList" "elementData" "[Ljava/lang/Object;" (.ref ar) := (P1.other W2 (Or.inr (slot_ne (Or.inl (hw71 hw)) (Or.inl (hw68 hw)) (by decide) (t := (.array (.object "java/lang/Object"))) (t' := .int) (by decide) (by decide))))
 obtain ⟨T4, X4, e4, st4⟩ := getF X2 hx hZ hown (host := "") (Or.inl (hw70 hw)) Via.refl e2 f3 (g := (mkF m 13 #[.val (.ref a), .val (.ref b)] [(.ref a), (.ref b), (.ref a)])) rfl rfl (hb hby d25_13)
 refine Goes.st st4 ?_
 show Goes _ _ _ _ (T4.setTop (mkF m 16 #[.val (.ref a), .val (.ref b)] [(.ref ar), (.ref b), (.ref a)]))
 refine Goes.st (fun sT kT => XS.aloadN X4.here hx rfl (hb hby d25_16) rfl rfl kT) ?_
 show Goes _ _ _ _ (T4.setTop (mkF m 17 #[.val (.ref a), .val (.ref b)] [(.ref a), (.ref ar), (.ref b), (.ref a)]))
 have f5 : Fld Z h2 a "java/util/ArrayList" "size" "I" (.int (1 : Int32)) := (P2.other W2 (Or.inr (slot_ne (Or.inl (hw146 hw)) (Or.inl (hw68 hw)) (by decide) (t := .int) (t' := .int) (by decide) (by decide))))
 obtain ⟨T6, X6, e6, st6⟩ := getF X4 hx hZ hown (host := "") (Or.inl (hw145 hw)) Via.refl e4 f5 (g := (mkF m 17 #[.val (.ref a), .val (.ref b)] [(.ref a), (.ref ar), (.ref b), (.ref a)])) rfl rfl (hb hby d25_17)
 refine Goes.st st6 ?_
 show Goes _ _ _ _ (T6.setTop (mkF m 20 #[.val (.ref a), .val (.ref b)] [(.int (1 : Int32)), (.ref ar), (.ref b), (.ref a)]))
 have f8 : Exa Z h2 a "java/util/ArrayList" := (P0.wr W2)
 have f9 : Arv Z h2 ar kA (.object "java/lang/Object") (10 : Int32) [(.ref b1), .null, .null, .null, .null, .null, .null, .null, .null, .null] .null := (P4.other W2 (Ne.symm (Exa.neArv P0 P4 (hw49 hw))))
 have f10 : Exa Z h2 b "java/lang/String" := (P5.wr W2)
 obtain ⟨cq7, q7, q7'⟩ := f8.cell
 obtain ⟨_, _, ⟨T7, L7, k7, n7⟩, -, X7, ⟨Lc7, hQ7, l7, y7, z7⟩, st7⟩ := X6.privateBack hx (y := (⟨"java/util/ArrayList", "add", "(Ljava/lang/Object;[Ljava/lang/Object;I)V"⟩ : MethodName)) hown (mvT hZ (hw147 hw)) (mvT hZ (hw148 hw)) (mvT hZ (hw150 hw)) (Cond.privateMethod_at (mvP hZ (hw149 hw) (args := #[]))) (mvT hZ (hw151 hw)) (by decide) (backOf (W := 0) (rm_adH2 l Z a0 hw [] a b ar kA b1 (mc + (1 : Int32)) h2 n0 (Nat.le_trans Z0 (Nat.le_of_eq W2.size.symm)) f8 f3 f5 F2 f9 f10 g_a g_ar ov) hZ (hw151 hw) (hw50 hw) (by decide) (by decide)) (g := (mkF m 20 #[.val (.ref a), .val (.ref b)] [(.int (1 : Int32)), (.ref ar), (.ref b), (.ref a)])) rfl (by rw [hml]; rfl) (Steps.refl _) (a := a) (by rw [e6]; exact q7) q7' (argsL := [(.ref b), (.ref ar), (.int (1 : Int32))]) (rest := []) (lenOf pd_8 rfl) rfl (by show 2 * 0 + _ ≤ _; exact Nat.le_of_eq rfl) (hb hby d25_20) (fun _ _ => ⟨rfl, e6, (by decide : 0 + 0 ≤ _), (by decide : 0 + 0 ≤ _)⟩)
 dsimp only [Pt.U, Pt.locs, Pt.cells, Pt.slots] at X7 l7 y7 z7 st7 hQ7
 subst l7 y7 z7
 obtain ⟨rfl, N7q, K7, F7_0, F7_1, F7_2, F7_3, F7_4⟩ := hQ7
 have N7 := Fr.app N2 N7q
 refine Goes.tr st7 ?_
 show Goes _ _ _ _ (T7.setTop (mkF m 23 #[.val (.ref a), .val (.ref b)] []))
 refine Goes.st (fun sT kT => XS.iconst X7.here hx rfl (hb hby d25_23) kT) ?_
 show Goes _ _ _ _ (T7.setTop (mkF m 24 #[.val (.ref a), .val (.ref b)] [(.int (1 : Int32))]))
 have kp11 : Keep h0 h2 [a, ar] := (Keep.refl h0 [a, ar]).wr W2 (Or.inl (List.mem_of_getElem? (i := 0) rfl))
 have kp12 : Keep h0 T7.heap [a, ar] := kp11.trans K7 (allS (Or.inl (List.mem_of_getElem? (i := 0) rfl)) (allS (Or.inl (List.mem_of_getElem? (i := 1) rfl)) all0))
 obtain ⟨fs, hr, hrun, hended, hW, hsame⟩ := X7.leave (v := some (.int (1 : Int32))) (fun h => by rw [Bd.returns] at h; cases h)
 subst hQQ
 refine ⟨_, _, retN X7 hx (t := .boolean) Bd.returns (by simp) (hb hby d25_24) hr, hrun, hended, _, _, rfl, ?_, ⟨_, rfl⟩, hW, hsame.mono (by decide) (by decide)⟩
 show Q_add2 Z a b ar kA b1 mc h0 n0 _ T7.heap _
 exact ⟨rfl, N7, kp12, F7_0, F7_1, F7_2, F7_3, F7_4⟩
theorem ef_adH3 (m : MethodId) (a : Addr) (b : Addr) (ar : Addr) (kA : ClassId) (bA : Addr) (bB : Addr) (mc : Int32) : entryFrame m #[(.ref a), (.ref b), (.ref ar), (.int (2 : Int32))] 4 = (mkF m 0 #[.val (.ref a), .val (.ref b), .val (.ref ar), .val (.int (2 : Int32))] []) := by first | (simp [entryFrame, mkF, argsToLocals, Value.category]; done) | rfl
def Q_adH3 (Z : State) (a : Addr) (b : Addr) (ar : Addr) (kA : ClassId) (bA : Addr) (bB : Addr) (mc : Int32) (h0 : Heap) (n0 : Nat) (v : Option Value) (h : Heap) (L : List Loc) : Prop := v = none ∧ Fr n0 L ∧ Keep h0 h [a, ar] ∧ Exa Z h a "java/util/ArrayList" ∧ Fld Z h a "java/util/ArrayList" "elementData" "[Ljava/lang/Object;" (.ref ar) ∧ Fld Z h a "java/util/ArrayList" "size" "I" (.int (3 : Int32)) ∧ Fld Z h a "java/util/AbstractList" "modCount" "I" (.int mc) ∧ Arv Z h ar kA (.object "java/lang/Object") (10 : Int32) [(.ref bA), (.ref bB), (.ref b), .null, .null, .null, .null, .null, .null, .null] .null
set_option maxRecDepth 65536 in
set_option maxHeartbeats 40000000 in
theorem rm_adH3 (l : Launch) (Z : State) (a0 : Array Value) (hw : ∀ d ∈ tables_1, d.before a0 Z = true) (ws : List Jvm.Cond) (a : Addr) (b : Addr) (ar : Addr) (kA : ClassId) (bA : Addr) (bB : Addr) (mc : Int32) (h0 : Heap) (n0 : Nat) (Z0 : n0 ≤ h0.size) (P0 : Exa Z h0 a "java/util/ArrayList") (P1 : Fld Z h0 a "java/util/ArrayList" "elementData" "[Ljava/lang/Object;" (.ref ar)) (P2 : Fld Z h0 a "java/util/ArrayList" "size" "I" (.int (2 : Int32))) (P3 : Fld Z h0 a "java/util/AbstractList" "modCount" "I" (.int mc)) (P4 : Arv Z h0 ar kA (.object "java/lang/Object") (10 : Int32) [(.ref bA), (.ref bB), .null, .null, .null, .null, .null, .null, .null, .null] .null) (P5 : Exa Z h0 b "java/lang/String") (g_a : n0 ≤ a) (g_ar : n0 ≤ ar) (ov : Ovr Z kA "java/lang/Object") :
    MetFree l (⟨"java/util/ArrayList", "add", "(Ljava/lang/Object;[Ljava/lang/Object;I)V"⟩ : MethodName) (head1 (Jvm.Cond.code (⟨"java/util/ArrayList", "add", "(Ljava/lang/Object;[Ljava/lang/Object;I)V"⟩ : MethodName) jdk_38_method_24_code 4 none :: ws) ({ frames := 0, cells := 0, slots := 0, locals := 0 } : Room)) (fun aR U => aR = #[(.ref a), (.ref b), (.ref ar), (.int (2 : Int32))] ∧ Z.Warmed39 U.vm ∧ U.heap = h0) (fun _ _ _ _ _ => True) (fun _ U o U' => ∃ v L, o = .returned v ∧ Q_adH3 Z a b ar kA bA bB mc h0 n0 v U'.heap L ∧ FrameEnd U o U' L ({ frames := 0, cells := 0, slots := 0, locals := 0 } : Room).cells ({ frames := 0, cells := 0, slots := 0, locals := 0 } : Room).slots) := by
 refine MetFree.of_bodySF (plainFor_of_name pn_5) hisR ?_
 intro p e s m args below meth c s₁ Bd hml0 hP hK
 obtain ⟨rfl, hZ, hh⟩ := hP
 have hx := Bd.exec
 have hby := Bd.bytes
 have hml : c.maxLocals = 4 := hml0
 have hown : s.vm.findClass "java/util/ArrayList" = some m.cls := findClass_of_methodNamed Bd.named
 have hnm := (name_of_methodNamed Bd.named Bd.method).1
 have X0 : Stand p l e ({ frames := 0, cells := 0, slots := 0, locals := 0 } : Room) s m #[(.ref a), (.ref b), (.ref ar), (.int (2 : Int32))] below meth c s₁ [] 0 0 := Stand.of_body Bd
 have e0 : s₁.heap = h0 := by rw [← hh, Bd.state]; rfl
 have N0 := Fr.nil n0
 show Goes p.tables e below _ _
 rw [ef_adH3 m a b ar kA bA bB mc]
 refine Goes.named ?_
 intro QQ hQQ
 refine Goes.st (fun sT kT => XS.iloadN X0.here hx rfl (hb hby d26_0) rfl kT) ?_
 show Goes _ _ _ _ (s₁.setTop (mkF m 1 #[.val (.ref a), .val (.ref b), .val (.ref ar), .val (.int (2 : Int32))] [(.int (2 : Int32))]))
 refine Goes.st (fun sT kT => XS.aloadN X0.here hx rfl (hb hby d26_1) rfl rfl kT) ?_
 show Goes _ _ _ _ (s₁.setTop (mkF m 2 #[.val (.ref a), .val (.ref b), .val (.ref ar), .val (.int (2 : Int32))] [(.ref ar), (.int (2 : Int32))]))
 obtain ⟨oc1, oA1, oq1, oS1, oM1, oH1, oG1⟩ := id P4
 refine Goes.st (fun sT kT => X0.arraylength hx (by rw [e0]; exact oA1.1) (State.isArrayOf_alike hZ.alike oA1.2.1) (g := (mkF m 2 #[.val (.ref a), .val (.ref b), .val (.ref ar), .val (.int (2 : Int32))] [(.ref ar), (.int (2 : Int32))])) rfl rfl (hb hby d26_2) _ kT) ?_
 rw [len_of oS1 oM1]
 show Goes _ _ _ _ (s₁.setTop (mkF m 3 #[.val (.ref a), .val (.ref b), .val (.ref ar), .val (.int (2 : Int32))] [(.int (10 : Int32)), (.int (2 : Int32))]))
 refine Goes.st (fun sT kT => XS.icmpYes X0.here hx rfl (pc0 := 3) (pc' := 11) rfl (hb hby d26_3) rfl (feq (by decide : ¬ ((2 : Int32) = (10 : Int32)))).2 (by decide) (by decide) kT) ?_
 show Goes _ _ _ _ (s₁.setTop (mkF m 11 #[.val (.ref a), .val (.ref b), .val (.ref ar), .val (.int (2 : Int32))] []))
 refine Goes.st (fun sT kT => XS.aloadN X0.here hx rfl (hb hby d26_11) rfl rfl kT) ?_
 show Goes _ _ _ _ (s₁.setTop (mkF m 12 #[.val (.ref a), .val (.ref b), .val (.ref ar), .val (.int (2 : Int32))] [(.ref ar)]))
 refine Goes.st (fun sT kT => XS.iloadN X0.here hx rfl (hb hby d26_12) rfl kT) ?_
 show Goes _ _ _ _ (s₁.setTop (mkF m 13 #[.val (.ref a), .val (.ref b), .val (.ref ar), .val (.int (2 : Int32))] [(.int (2 : Int32)), (.ref ar)]))
 refine Goes.st (fun sT kT => XS.aloadN X0.here hx rfl (hb hby d26_13) rfl rfl kT) ?_
 show Goes _ _ _ _ (s₁.setTop (mkF m 14 #[.val (.ref a), .val (.ref b), .val (.ref ar), .val (.int (2 : Int32))] [(.ref b), (.int (2 : Int32)), (.ref ar)]))
 obtain ⟨oc2, oA2, oq2, oS2, oM2, oH2, oG2⟩ := id P4
 obtain ⟨T3, h3, X3, e3, W3, st3⟩ := stR X0 hx hZ e0 oA2 (j := (2 : Int32)) (inb_of oS2 ⟨by decide, by decide⟩) rfl (Sto.ofV oA2 oq2 ov (Ins.of_exa P5 (hw168 hw))) (g := (mkF m 14 #[.val (.ref a), .val (.ref b), .val (.ref ar), .val (.int (2 : Int32))] [(.ref b), (.int (2 : Int32)), (.ref ar)])) rfl rfl (hb hby d26_14)
 have V3 : Arv Z h3 ar kA (.object "java/lang/Object") (10 : Int32) [(.ref bA), (.ref bB), (.ref b), .null, .null, .null, .null, .null, .null, .null] .null := Arv.set oA2 oq2 oS2 oM2 oH2 oG2 rfl W3 2 rfl (Nat.le_of_ble_eq_true rfl)
 have N3 := Fr.snoc X3 N0 g_ar
 refine Goes.st st3 ?_
 show Goes _ _ _ _ (T3.setTop (mkF m 15 #[.val (.ref a), .val (.ref b), .val (.ref ar), .val (.int (2 : Int32))] []))
 refine Goes.st (fun sT kT => XS.aloadN X3.here hx rfl (hb hby d26_15) rfl rfl kT) ?_
 show Goes _ _ _ _ (T3.setTop (mkF m 16 #[.val (.ref a), .val (.ref b), .val (.ref ar), .val (.int (2 : Int32))] [(.ref a)]))
 refine Goes.st (fun sT kT => XS.iloadN X3.here hx rfl (hb hby d26_16) rfl kT) ?_
 show Goes _ _ _ _ (T3.setTop (mkF m 17 #[.val (.ref a), .val (.ref b), .val (.ref ar), .val (.int (2 : Int32))] [(.int (2 : Int32)), (.ref a)]))
 refine Goes.st (fun sT kT => XS.iconst X3.here hx rfl (hb hby d26_17) kT) ?_
 show Goes _ _ _ _ (T3.setTop (mkF m 18 #[.val (.ref a), .val (.ref b), .val (.ref ar), .val (.int (2 : Int32))] [(.int (1 : Int32)), (.int (2 : Int32)), (.ref a)]))
 refine Goes.st (fun sT kT => XS.iadd X3.here hx rfl (hb hby d26_18) rfl kT) ?_
 show Goes _ _ _ _ (T3.setTop (mkF m 19 #[.val (.ref a), .val (.ref b), .val (.ref ar), .val (.int (2 : Int32))] [(.int (3 : Int32)), (.ref a)]))
 have f4 : Exa Z h3 a "java/util/ArrayList" := (P0.wr W3)
 have f5 : Fld Z h3 a "java/util/ArrayList" "size" "I" (.int (2 : Int32)) := (P2.other W3 (Or.inl (Exa.neArv P0 P4 (hw49 hw))))
 obtain ⟨T6, h6, X6, e6, W6, st6⟩ := putF X3 hx hZ hown (host := "") (Or.inl (hw145 hw)) Via.refl e3 f5 f4 (Or.inl (hw146 hw)) (hw49 hw) (ty := .int) (by decide) rfl rfl (g := (mkF m 19 #[.val (.ref a), .val (.ref b), .val (.ref ar), .val (.int (2 : Int32))] [(.int (3 : Int32)), (.ref a)])) rfl rfl (hb hby d26_19)
 have N6 := Fr.snoc X6 N3 g_a
 have F6 := f5.same W6
 refine Goes.st st6 ?_
 show Goes _ _ _ _ (T6.setTop (mkF m 22 #[.val (.ref a), .val (.ref b), .val (.ref ar), .val (.int (2 : Int32))] []))
 have kp7 : Keep h0 h3 [a, ar] := (Keep.refl h0 [a, ar]).wr W3 (Or.inl (List.mem_of_getElem? (i := 1) rfl))
 have kp8 : Keep h0 h6 [a, ar] := kp7.wr W6 (Or.inl (List.mem_of_getElem? (i := 0) rfl))
 have f9 : Exa Z h6 a "java/util/ArrayList" := (f4.wr W6)
 have f10 : Fld Z h6 a "java/util/ArrayList" "elementData" "[Ljava/lang/Object;" (.ref ar) := ((P1.other W3 (Or.inl (Exa.neArv P0 P4 (hw49 hw)))).other W6 (Or.inr (slot_ne (Or.inl (hw71 hw)) (Or.inl (hw146 hw)) (by decide) (t := (.array (.object "java/lang/Object"))) (t' := .int) (by decide) (by decide))))
 have f11 : Fld Z h6 a "java/util/AbstractList" "modCount" "I" (.int mc) := ((P3.other W3 (Or.inl (Exa.neArv P0 P4 (hw49 hw)))).other W6 (Or.inr (slot_ne (Or.inl (hw68 hw)) (Or.inl (hw146 hw)) (by decide) (t := .int) (t' := .int) (by decide) (by decide))))
 have f12 : Arv Z h6 ar kA (.object "java/lang/Object") (10 : Int32) [(.ref bA), (.ref bB), (.ref b), .null, .null, .null, .null, .null, .null, .null] .null := (V3.other W6 (Ne.symm (Exa.neArv P0 P4 (hw49 hw))))
 obtain ⟨fs, hr, hrun, hended, hW, hsame⟩ := X6.leave (v := none) (fun _ => rfl)
 subst hQQ
 refine ⟨_, _, X6.returnOut hx Bd.returns (hb hby d26_22) hr, hrun, hended, _, _, rfl, ?_, ⟨_, rfl⟩, hW, hsame.mono (by decide) (by decide)⟩
 show Q_adH3 Z a b ar kA bA bB mc h0 n0 _ T6.heap _
 rw [e6]
 exact ⟨rfl, N6, kp8, f9, f10, F6, f11, f12⟩
theorem ef_add3 (m : MethodId) (a : Addr) (b : Addr) (ar : Addr) (kA : ClassId) (bA : Addr) (bB : Addr) (mc : Int32) : entryFrame m #[(.ref a), (.ref b)] 2 = (mkF m 0 #[.val (.ref a), .val (.ref b)] []) := by first | (simp [entryFrame, mkF, argsToLocals, Value.category]; done) | rfl
def Q_add3 (Z : State) (a : Addr) (b : Addr) (ar : Addr) (kA : ClassId) (bA : Addr) (bB : Addr) (mc : Int32) (h0 : Heap) (n0 : Nat) (v : Option Value) (h : Heap) (L : List Loc) : Prop := v = some (.int (1 : Int32)) ∧ Fr n0 L ∧ Keep h0 h [a, ar] ∧ Exa Z h a "java/util/ArrayList" ∧ Fld Z h a "java/util/ArrayList" "elementData" "[Ljava/lang/Object;" (.ref ar) ∧ Fld Z h a "java/util/ArrayList" "size" "I" (.int (3 : Int32)) ∧ Fld Z h a "java/util/AbstractList" "modCount" "I" (.int (mc + (1 : Int32))) ∧ Arv Z h ar kA (.object "java/lang/Object") (10 : Int32) [(.ref bA), (.ref bB), (.ref b), .null, .null, .null, .null, .null, .null, .null] .null
set_option maxRecDepth 65536 in
set_option maxHeartbeats 40000000 in
theorem rm_add3 (l : Launch) (Z : State) (a0 : Array Value) (hw : ∀ d ∈ tables_1, d.before a0 Z = true) (ws : List Jvm.Cond) (a : Addr) (b : Addr) (ar : Addr) (kA : ClassId) (bA : Addr) (bB : Addr) (mc : Int32) (h0 : Heap) (n0 : Nat) (Z0 : n0 ≤ h0.size) (P0 : Exa Z h0 a "java/util/ArrayList") (P1 : Fld Z h0 a "java/util/ArrayList" "elementData" "[Ljava/lang/Object;" (.ref ar)) (P2 : Fld Z h0 a "java/util/ArrayList" "size" "I" (.int (2 : Int32))) (P3 : Fld Z h0 a "java/util/AbstractList" "modCount" "I" (.int mc)) (P4 : Arv Z h0 ar kA (.object "java/lang/Object") (10 : Int32) [(.ref bA), (.ref bB), .null, .null, .null, .null, .null, .null, .null, .null] .null) (P5 : Exa Z h0 b "java/lang/String") (g_a : n0 ≤ a) (g_ar : n0 ≤ ar) (ov : Ovr Z kA "java/lang/Object") :
    MetFree l (⟨"java/util/ArrayList", "add", "(Ljava/lang/Object;)Z"⟩ : MethodName) (head1 (Jvm.Cond.code (⟨"java/util/ArrayList", "add", "(Ljava/lang/Object;)Z"⟩ : MethodName) jdk_38_method_25_code 2 (some .boolean) :: ws) ({ frames := 1, cells := 0, slots := 0, locals := 19 } : Room)) (fun aR U => aR = #[(.ref a), (.ref b)] ∧ Z.Warmed39 U.vm ∧ U.heap = h0) (fun _ _ _ _ _ => True) (fun _ U o U' => ∃ v L, o = .returned v ∧ Q_add3 Z a b ar kA bA bB mc h0 n0 v U'.heap L ∧ FrameEnd U o U' L ({ frames := 1, cells := 0, slots := 0, locals := 19 } : Room).cells ({ frames := 1, cells := 0, slots := 0, locals := 19 } : Room).slots) := by
 refine MetFree.of_bodySF (plainFor_of_name pn_5) hisR ?_
 intro p e s m args below meth c s₁ Bd hml0 hP hK
 obtain ⟨rfl, hZ, hh⟩ := hP
 have hx := Bd.exec
 have hby := Bd.bytes
 have hml : c.maxLocals = 2 := hml0
 have hown : s.vm.findClass "java/util/ArrayList" = some m.cls := findClass_of_methodNamed Bd.named
 have hnm := (name_of_methodNamed Bd.named Bd.method).1
 have X0 : Stand p l e ({ frames := 1, cells := 0, slots := 0, locals := 19 } : Room) s m #[(.ref a), (.ref b)] below meth c s₁ [] 0 0 := Stand.of_body Bd
 have e0 : s₁.heap = h0 := by rw [← hh, Bd.state]; rfl
 have N0 := Fr.nil n0
 show Goes p.tables e below _ _
 rw [ef_add3 m a b ar kA bA bB mc]
 refine Goes.named ?_
 intro QQ hQQ
 refine Goes.st (fun sT kT => XS.aloadN X0.here hx rfl (hb hby d25_0) rfl rfl kT) ?_
 show Goes _ _ _ _ (s₁.setTop (mkF m 1 #[.val (.ref a), .val (.ref b)] [(.ref a)]))
 refine Goes.st (fun sT kT => XS.dup X0.here hx rfl (hb hby d25_1) rfl rfl kT) ?_
 show Goes _ _ _ _ (s₁.setTop (mkF m 2 #[.val (.ref a), .val (.ref b)] [(.ref a), (.ref a)]))
 obtain ⟨T1, X1, e1, st1⟩ := getF X0 hx hZ hown (host := "") (Or.inl (hw143 hw)) (Via.of (hw144 hw)) e0 P3 (g := (mkF m 2 #[.val (.ref a), .val (.ref b)] [(.ref a), (.ref a)])) rfl rfl (hb hby d25_2)
 refine Goes.st st1 ?_
 show Goes _ _ _ _ (T1.setTop (mkF m 5 #[.val (.ref a), .val (.ref b)] [(.int mc), (.ref a)]))
 refine Goes.st (fun sT kT => XS.iconst X1.here hx rfl (hb hby d25_5) kT) ?_
 show Goes _ _ _ _ (T1.setTop (mkF m 6 #[.val (.ref a), .val (.ref b)] [(.int (1 : Int32)), (.int mc), (.ref a)]))
 refine Goes.st (fun sT kT => XS.iadd X1.here hx rfl (hb hby d25_6) rfl kT) ?_
 show Goes _ _ _ _ (T1.setTop (mkF m 7 #[.val (.ref a), .val (.ref b)] [(.int (mc + (1 : Int32))), (.ref a)]))
 obtain ⟨T2, h2, X2, e2, W2, st2⟩ := putF X1 hx hZ hown (host := "") (Or.inl (hw143 hw)) (Via.of (hw144 hw)) e1 P3 P0 (Or.inl (hw68 hw)) (hw49 hw) (ty := .int) (by decide) rfl rfl (g := (mkF m 7 #[.val (.ref a), .val (.ref b)] [(.int (mc + (1 : Int32))), (.ref a)])) rfl rfl (hb hby d25_7)
 have N2 := Fr.snoc X2 N0 g_a
 have F2 := P3.same W2
 refine Goes.st st2 ?_
 show Goes _ _ _ _ (T2.setTop (mkF m 10 #[.val (.ref a), .val (.ref b)] []))
 refine Goes.st (fun sT kT => XS.aloadN X2.here hx rfl (hb hby d25_10) rfl rfl kT) ?_
 show Goes _ _ _ _ (T2.setTop (mkF m 11 #[.val (.ref a), .val (.ref b)] [(.ref a)]))
 refine Goes.st (fun sT kT => XS.aloadN X2.here hx rfl (hb hby d25_11) rfl rfl kT) ?_
 show Goes _ _ _ _ (T2.setTop (mkF m 12 #[.val (.ref a), .val (.ref b)] [(.ref b), (.ref a)]))
 refine Goes.st (fun sT kT => XS.aloadN X2.here hx rfl (hb hby d25_12) rfl rfl kT) ?_
 show Goes _ _ _ _ (T2.setTop (mkF m 13 #[.val (.ref a), .val (.ref b)] [(.ref a), (.ref b), (.ref a)]))
 have f3 : Fld Z h2 a "java/util/ArrayList" "elementData" "[Ljava/lang/Object;" (.ref ar) := (P1.other W2 (Or.inr (slot_ne (Or.inl (hw71 hw)) (Or.inl (hw68 hw)) (by decide) (t := (.array (.object "java/lang/Object"))) (t' := .int) (by decide) (by decide))))
 obtain ⟨T4, X4, e4, st4⟩ := getF X2 hx hZ hown (host := "") (Or.inl (hw70 hw)) Via.refl e2 f3 (g := (mkF m 13 #[.val (.ref a), .val (.ref b)] [(.ref a), (.ref b), (.ref a)])) rfl rfl (hb hby d25_13)
 refine Goes.st st4 ?_
 show Goes _ _ _ _ (T4.setTop (mkF m 16 #[.val (.ref a), .val (.ref b)] [(.ref ar), (.ref b), (.ref a)]))
 refine Goes.st (fun sT kT => XS.aloadN X4.here hx rfl (hb hby d25_16) rfl rfl kT) ?_
 show Goes _ _ _ _ (T4.setTop (mkF m 17 #[.val (.ref a), .val (.ref b)] [(.ref a), (.ref ar), (.ref b), (.ref a)]))
 have f5 : Fld Z h2 a "java/util/ArrayList" "size" "I" (.int (2 : Int32)) := (P2.other W2 (Or.inr (slot_ne (Or.inl (hw146 hw)) (Or.inl (hw68 hw)) (by decide) (t := .int) (t' := .int) (by decide) (by decide))))
 obtain ⟨T6, X6, e6, st6⟩ := getF X4 hx hZ hown (host := "") (Or.inl (hw145 hw)) Via.refl e4 f5 (g := (mkF m 17 #[.val (.ref a), .val (.ref b)] [(.ref a), (.ref ar), (.ref b), (.ref a)])) rfl rfl (hb hby d25_17)
 refine Goes.st st6 ?_
 show Goes _ _ _ _ (T6.setTop (mkF m 20 #[.val (.ref a), .val (.ref b)] [(.int (2 : Int32)), (.ref ar), (.ref b), (.ref a)]))
 have f8 : Exa Z h2 a "java/util/ArrayList" := (P0.wr W2)
 have f9 : Arv Z h2 ar kA (.object "java/lang/Object") (10 : Int32) [(.ref bA), (.ref bB), .null, .null, .null, .null, .null, .null, .null, .null] .null := (P4.other W2 (Ne.symm (Exa.neArv P0 P4 (hw49 hw))))
 have f10 : Exa Z h2 b "java/lang/String" := (P5.wr W2)
 obtain ⟨cq7, q7, q7'⟩ := f8.cell
 obtain ⟨_, _, ⟨T7, L7, k7, n7⟩, -, X7, ⟨Lc7, hQ7, l7, y7, z7⟩, st7⟩ := X6.privateBack hx (y := (⟨"java/util/ArrayList", "add", "(Ljava/lang/Object;[Ljava/lang/Object;I)V"⟩ : MethodName)) hown (mvT hZ (hw147 hw)) (mvT hZ (hw148 hw)) (mvT hZ (hw150 hw)) (Cond.privateMethod_at (mvP hZ (hw149 hw) (args := #[]))) (mvT hZ (hw151 hw)) (by decide) (backOf (W := 0) (rm_adH3 l Z a0 hw [] a b ar kA bA bB (mc + (1 : Int32)) h2 n0 (Nat.le_trans Z0 (Nat.le_of_eq W2.size.symm)) f8 f3 f5 F2 f9 f10 g_a g_ar ov) hZ (hw151 hw) (hw50 hw) (by decide) (by decide)) (g := (mkF m 20 #[.val (.ref a), .val (.ref b)] [(.int (2 : Int32)), (.ref ar), (.ref b), (.ref a)])) rfl (by rw [hml]; rfl) (Steps.refl _) (a := a) (by rw [e6]; exact q7) q7' (argsL := [(.ref b), (.ref ar), (.int (2 : Int32))]) (rest := []) (lenOf pd_8 rfl) rfl (by show 2 * 0 + _ ≤ _; exact Nat.le_of_eq rfl) (hb hby d25_20) (fun _ _ => ⟨rfl, e6, (by decide : 0 + 0 ≤ _), (by decide : 0 + 0 ≤ _)⟩)
 dsimp only [Pt.U, Pt.locs, Pt.cells, Pt.slots] at X7 l7 y7 z7 st7 hQ7
 subst l7 y7 z7
 obtain ⟨rfl, N7q, K7, F7_0, F7_1, F7_2, F7_3, F7_4⟩ := hQ7
 have N7 := Fr.app N2 N7q
 refine Goes.tr st7 ?_
 show Goes _ _ _ _ (T7.setTop (mkF m 23 #[.val (.ref a), .val (.ref b)] []))
 refine Goes.st (fun sT kT => XS.iconst X7.here hx rfl (hb hby d25_23) kT) ?_
 show Goes _ _ _ _ (T7.setTop (mkF m 24 #[.val (.ref a), .val (.ref b)] [(.int (1 : Int32))]))
 have kp11 : Keep h0 h2 [a, ar] := (Keep.refl h0 [a, ar]).wr W2 (Or.inl (List.mem_of_getElem? (i := 0) rfl))
 have kp12 : Keep h0 T7.heap [a, ar] := kp11.trans K7 (allS (Or.inl (List.mem_of_getElem? (i := 0) rfl)) (allS (Or.inl (List.mem_of_getElem? (i := 1) rfl)) all0))
 obtain ⟨fs, hr, hrun, hended, hW, hsame⟩ := X7.leave (v := some (.int (1 : Int32))) (fun h => by rw [Bd.returns] at h; cases h)
 subst hQQ
 refine ⟨_, _, retN X7 hx (t := .boolean) Bd.returns (by simp) (hb hby d25_24) hr, hrun, hended, _, _, rfl, ?_, ⟨_, rfl⟩, hW, hsame.mono (by decide) (by decide)⟩
 show Q_add3 Z a b ar kA bA bB mc h0 n0 _ T7.heap _
 exact ⟨rfl, N7, kp12, F7_0, F7_1, F7_2, F7_3, F7_4⟩
theorem ef_txt (m : MethodId) (p0 : Int32) (c1 : Int32) (c2 : Int32) (c3 : Int32) (c4 : Int32) (G1 : Int32) : entryFrame m #[(.int p0), (.int c1), (.int c2), (.int c3), (.int c4)] 5 = (mkF m 0 #[.val (.int p0), .val (.int c1), .val (.int c2), .val (.int c3), .val (.int c4)] []) := by first | (simp [entryFrame, mkF, argsToLocals, Value.category]; done) | rfl
def Q_txt (Z : State) (p0 : Int32) (c1 : Int32) (c2 : Int32) (c3 : Int32) (c4 : Int32) (G1 : Int32) (h0 : Heap) (n0 : Nat) (v : Option Value) (h : Heap) (L : List Loc) : Prop := ∃ (r : Addr) (t : Addr) (kb : ClassId), v = some (.ref r) ∧ Fr n0 L ∧ Keep h0 h [] ∧ Str Z h r t kb (own_tx p0 c1 c2 c3 c4) ∧ h0.size ≤ r ∧ r ≠ t
set_option maxRecDepth 65536 in
set_option maxHeartbeats 40000000 in
theorem rm_txt (l : Launch) (Z : State) (a0 : Array Value) (hw : ∀ d ∈ tables_1, d.before a0 Z = true) (ws : List Jvm.Cond) (p0 : Int32) (c1 : Int32) (c2 : Int32) (c3 : Int32) (c4 : Int32) (G1 : Int32) (h0 : Heap) (n0 : Nat) (Z0 : n0 ≤ h0.size) (P0 : Old Z n0 h0) (rg_c1 : ¬ c1 < 0 ∧ ¬ (255 : Int32) < c1) (rg_c2 : ¬ c2 < 0 ∧ ¬ (255 : Int32) < c2) (rg_c3 : ¬ c3 < 0 ∧ ¬ (255 : Int32) < c3) (rg_c4 : ¬ c4 < 0 ∧ ¬ (255 : Int32) < c4) (O2 : Sta Z Z.heap "java/lang/String" "COMPACT_STRINGS" "Z" (.int G1)) (P5 : ¬ (G1 = (0 : Int32))) :
    MetFree l (⟨"com/example/indexwerk/indexwerk/engine/OriginOfPinLaw", "text", "(ICCCC)Ljava/lang/String;"⟩ : MethodName) (head1 (Jvm.Cond.code (⟨"com/example/indexwerk/indexwerk/engine/OriginOfPinLaw", "text", "(ICCCC)Ljava/lang/String;"⟩ : MethodName) method_3_code 5 (some (.object "java/lang/String")) :: ws) ({ frames := 4, cells := 6, slots := 12, locals := 68 } : Room)) (fun aR U => aR = #[(.int p0), (.int c1), (.int c2), (.int c3), (.int c4)] ∧ Z.Warmed39 U.vm ∧ U.heap = h0 ∧ CHv Z EL U.vm h0 ∧ ∀ x ∈ ([] : List Addr), Safe Z EL U.vm h0 x) (fun _ _ _ _ _ => True) (fun _ U o U' => ∃ v L, o = .returned v ∧ Q_txt Z p0 c1 c2 c3 c4 G1 h0 n0 v U'.heap L ∧ CHr Z EL U.vm U.heap U'.vm U'.heap ∧ ReturnedEndW U o U' L ({ frames := 4, cells := 6, slots := 12, locals := 68 } : Room).cells ({ frames := 4, cells := 6, slots := 12, locals := 68 } : Room).slots) := by
 refine MetFree.of_bodySF (plainFor_of_name pn_7) hisR ?_
 intro p e s m args below meth c s₁ Bd hml0 hP hK
 obtain ⟨rfl, hZ, hh, hCH, hSF⟩ := hP
 have hx := Bd.exec
 have hby := Bd.bytes
 have hml : c.maxLocals = 5 := hml0
 have hown : s.vm.findClass "com/example/indexwerk/indexwerk/engine/OriginOfPinLaw" = some m.cls := findClass_of_methodNamed Bd.named
 have hnm := (name_of_methodNamed Bd.named Bd.method).1
 have X0 : Stand p l e ({ frames := 4, cells := 6, slots := 12, locals := 68 } : Room) (s.setVm s.vm) m #[(.int p0), (.int c1), (.int c2), (.int c3), (.int c4)] below meth c s₁ [] 0 0 := Stand.of_body Bd
 have e0 : s₁.heap = h0 := by rw [← hh, Bd.state]; rfl
 have N0 := Fr.nil n0
 show Goes p.tables e below _ _
 rw [ef_txt m p0 c1 c2 c3 c4 G1]
 refine Goes.named ?_
 intro QQ hQQ
 have hS0 : s.Since s.vm 0 := (State.WarmedH.refl s).since 0
 have hk0 : 0 ≤ h0.size := Nat.zero_le _
 have CR0 : CHr Z EL s.vm h0 s.vm h0 := CHr.refl hCH
 refine Goes.st (fun sT kT => XS.iloadN X0.here hx rfl (hb hby d1_0) rfl kT) ?_
 show Goes _ _ _ _ (s₁.setTop (mkF m 1 #[.val (.int p0), .val (.int c1), .val (.int c2), .val (.int c3), .val (.int c4)] [(.int p0)]))
 by_cases cz1 : p0 = (0 : Int32)
 case pos =>
  refine Goes.st (fun sT kT => XS.ifNo X0.here hx rfl (hb hby d1_1) rfl ((if0 _ _).trans (teq cz1).2) kT) ?_
  show Goes _ _ _ _ (s₁.setTop (mkF m 4 #[.val (.int p0), .val (.int c1), .val (.int c2), .val (.int c3), .val (.int c4)] []))
  obtain ⟨T2, h2, X2, e2, E2, A2, D2, -, st2⟩ := newO X0 hx hZ hown (hw4 hw) (hw5 hw) (hw6 hw) e0 (g := (mkF m 4 #[.val (.int p0), .val (.int c1), .val (.int c2), .val (.int c3), .val (.int c4)] [])) rfl (hb hby d1_4) (by decide) (by decide)
  obtain ⟨b2, g2⟩ : ∃ z, z = h0.size := ⟨_, rfl⟩
  rw [← g2] at A2 D2 st2
  have CR3 : CHr Z EL s.vm h0 s.vm h2 := CR0.trans (CHr.ext E2 CR0.1)
  have sf2_b2 : Safe Z EL s.vm h2 b2 := Safe.ext E2 CR0.1 (Safe.new (Nat.le_of_eq g2.symm))
  have F2_coder : Fld Z h2 b2 "java/lang/String" "coder" "B" (.int (0 : Int32)) := D2 (Or.inr (hw31 hw)) (ty := .byte) (by decide)
  have F2_value : Fld Z h2 b2 "java/lang/String" "value" "[B" .null := D2 (Or.inr (hw33 hw)) (ty := (.array .byte)) (by decide)
  refine Goes.st st2 ?_
  show Goes _ _ _ _ (T2.setTop (mkF m 7 #[.val (.int p0), .val (.int c1), .val (.int c2), .val (.int c3), .val (.int c4)] [(.ref b2)]))
  refine Goes.st (fun sT kT => XS.dup X2.here hx rfl (hb hby d1_7) rfl rfl kT) ?_
  show Goes _ _ _ _ (T2.setTop (mkF m 8 #[.val (.int p0), .val (.int c1), .val (.int c2), .val (.int c3), .val (.int c4)] [(.ref b2), (.ref b2)]))
  refine Goes.st (fun sT kT => XS.iconst X2.here hx rfl (hb hby d1_8) kT) ?_
  show Goes _ _ _ _ (T2.setTop (mkF m 9 #[.val (.int p0), .val (.int c1), .val (.int c2), .val (.int c3), .val (.int c4)] [(.int (0 : Int32)), (.ref b2), (.ref b2)]))
  obtain ⟨T4, h4, k4, X4, e4, E4, A4, st4⟩ := newP X2 hx hZ (aty := .char) (hw7 hw) e2 (g := (mkF m 9 #[.val (.int p0), .val (.int c1), .val (.int c2), .val (.int c3), .val (.int c4)] [(.int (0 : Int32)), (.ref b2), (.ref b2)])) rfl (hb hby d1_9) rfl (by decide) (cap := 0) (by decide) (by decide) (by decide) (by decide)
  obtain ⟨b4, g4⟩ : ∃ z, z = h2.size := ⟨_, rfl⟩
  rw [← g4] at A4 st4
  have CR5 : CHr Z EL s.vm h0 s.vm h4 := CR3.trans (CHr.ext E4 CR3.1)
  have sf5_b2 : Safe Z EL s.vm h4 b2 := Safe.ext E4 CR3.1 sf2_b2
  have V4 : Arv Z h4 b4 k4 .char (0 : Int32) [] (.int (0 : Int32)) := (Arv.new A4 (by decide)).pad (pad_rep [] (.int (0 : Int32)) 0)
  refine Goes.st st4 ?_
  show Goes _ _ _ _ (T4.setTop (mkF m 11 #[.val (.int p0), .val (.int c1), .val (.int c2), .val (.int c3), .val (.int c4)] [(.ref b4), (.ref b2), (.ref b2)]))
  have f7 : Exa Z h4 b2 "java/lang/String" := (A2.ext E4)
  have f8 : Fld Z h4 b2 "java/lang/String" "value" "[B" .null := (F2_value.ext E4)
  have f9 : Fld Z h4 b2 "java/lang/String" "coder" "B" (.int (0 : Int32)) := (F2_coder.ext E4)
  have f10 : Old Z n0 h4 := ((P0.ext E2).ext E4)
  obtain ⟨_, _, ⟨T6, L6, k6, n6⟩, -, X6, hSr6, hgr6, ⟨Lc6, hQ6, l6, y6, z6, C6⟩, st6⟩ := X4.specialBackS hx (y := (⟨"java/lang/String", "<init>", "([C)V"⟩ : MethodName)) rfl hown (mvT hZ (hw8 hw)) (mvT hZ (hw9 hw)) (mvT hZ (hw10 hw)) (by decide) (own_backW (W := 1) (xs := [b2]) (rm_s1e l Z a0 hw [] b2 b4 k4 h4 n0 (Nat.le_trans Z0 (Nat.le_trans E2.1 E4.1)) f7 f8 f9 V4 (Nat.le_trans Z0 (Nat.le_of_eq g2.symm))) hZ (hw10 hw) (hw6 hw) (by decide) (by decide) (own_EW hw) CR5.1 (allS ⟨(Nat.lt_of_lt_of_le A2.lt E4.1), sf5_b2⟩ all0)) (g := (mkF m 11 #[.val (.int p0), .val (.int c1), .val (.int c2), .val (.int c3), .val (.int c4)] [(.ref b4), (.ref b2), (.ref b2)])) rfl (by rw [hml]; rfl) (Steps.refl _) (a := b2) (argsL := [(.ref b4)]) (rest := [(.ref b2)]) (lenOf pd_9 rfl) rfl (by show 2 * 0 + _ ≤ _; exact Nat.le_of_eq rfl) (hb hby d1_11) (fun _ _ => ⟨rfl, e4, (by decide : 2 + 4 ≤ _), (by decide : 4 + 8 ≤ _)⟩)
  dsimp only [Pt.U, Pt.locs, Pt.cells, Pt.slots] at X6 l6 y6 z6 st6 hQ6 hSr6 hgr6 C6
  subst l6 y6 z6
  obtain ⟨X6, hS6, hZ6, hown6⟩ := rebS hS0 (by rw [e4]; exact (Nat.le_trans (Nat.le_trans hk0 E2.1) E4.1)) X6 hSr6 hgr6 hZ hown
  obtain ⟨t6, kb6, rfl, N6q, K6, F6_0, ne6_0⟩ := hQ6
  have N6 := Fr.app N0 N6q
  have F6_0E := F6_0.1
  have CR11 : CHr Z EL s.vm h0 T6.vm T6.heap := CR5.trans (C6)
  have sf11_b2 : Safe Z EL T6.vm T6.heap b2 := C6.safe (Nat.lt_of_lt_of_le A2.lt E4.1) sf5_b2
  refine Goes.tr st6 ?_
  show Goes _ _ _ _ (T6.setTop (mkF m 14 #[.val (.int p0), .val (.int c1), .val (.int c2), .val (.int c3), .val (.int c4)] [(.ref b2)]))
  have S12 : Str Z T6.heap b2 t6 kb6 (own_tx p0 c1 c2 c3 c4) := by rw [own_tx, if_pos cz1]; exact F6_0
  have kp13 : Keep h0 h2 [] := (Keep.refl h0 []).ext E2
  have kp14 : Keep h0 h4 [] := kp13.ext E4
  have kp15 : Keep h0 T6.heap [] := kp14.trans K6 (allS (Or.inr (Nat.le_of_eq g2.symm)) all0)
  obtain ⟨fs, hr, hrun, hended, hRW⟩ := X6.leaveW hS6 (Nat.le_refl _) (v := some (.ref b2)) (fun h => by rw [Bd.returns] at h; cases h)
  subst hQQ
  have hCR : CHr Z EL s.vm s.heap T6.vm T6.heap := by rw [hh]; exact CR11.trans (CHv.at X6 hZ6 (own_EW hw) CR11.1)
  refine ⟨_, _, retR X6 hx Bd.returns rfl rfl (hb hby d1_14) hr, hrun, hended, _, _, rfl, ?_, hCR, own_REmono hRW (by decide) (by decide)⟩
  show Q_txt Z p0 c1 c2 c3 c4 G1 h0 n0 _ T6.heap _
  exact ⟨b2, t6, kb6, rfl, N6, kp15, S12, (Nat.le_of_eq g2.symm), ne6_0⟩
 case neg =>
  refine Goes.st (fun sT kT => XS.ifYes X0.here hx rfl (pc0 := 1) (pc' := 15) rfl (hb hby d1_1) rfl ((if0 _ _).trans (feq cz1).2) (by decide) (by decide) kT) ?_
  show Goes _ _ _ _ (s₁.setTop (mkF m 15 #[.val (.int p0), .val (.int c1), .val (.int c2), .val (.int c3), .val (.int c4)] []))
  refine Goes.st (fun sT kT => XS.iloadN X0.here hx rfl (hb hby d1_15) rfl kT) ?_
  show Goes _ _ _ _ (s₁.setTop (mkF m 16 #[.val (.int p0), .val (.int c1), .val (.int c2), .val (.int c3), .val (.int c4)] [(.int p0)]))
  refine Goes.st (fun sT kT => XS.iconst X0.here hx rfl (hb hby d1_16) kT) ?_
  show Goes _ _ _ _ (s₁.setTop (mkF m 17 #[.val (.int p0), .val (.int c1), .val (.int c2), .val (.int c3), .val (.int c4)] [(.int (1 : Int32)), (.int p0)]))
  by_cases cz16 : p0 = (1 : Int32)
  case pos =>
   refine Goes.st (fun sT kT => XS.icmpNo X0.here hx rfl (hb hby d1_17) rfl (teq cz16).2 kT) ?_
   show Goes _ _ _ _ (s₁.setTop (mkF m 20 #[.val (.int p0), .val (.int c1), .val (.int c2), .val (.int c3), .val (.int c4)] []))
   obtain ⟨T17, h17, X17, e17, E17, A17, D17, -, st17⟩ := newO X0 hx hZ hown (hw4 hw) (hw5 hw) (hw6 hw) e0 (g := (mkF m 20 #[.val (.int p0), .val (.int c1), .val (.int c2), .val (.int c3), .val (.int c4)] [])) rfl (hb hby d1_20) (by decide) (by decide)
   obtain ⟨b17, g17⟩ : ∃ z, z = h0.size := ⟨_, rfl⟩
   rw [← g17] at A17 D17 st17
   have CR18 : CHr Z EL s.vm h0 s.vm h17 := CR0.trans (CHr.ext E17 CR0.1)
   have sf17_b17 : Safe Z EL s.vm h17 b17 := Safe.ext E17 CR0.1 (Safe.new (Nat.le_of_eq g17.symm))
   have F17_coder : Fld Z h17 b17 "java/lang/String" "coder" "B" (.int (0 : Int32)) := D17 (Or.inr (hw31 hw)) (ty := .byte) (by decide)
   have F17_value : Fld Z h17 b17 "java/lang/String" "value" "[B" .null := D17 (Or.inr (hw33 hw)) (ty := (.array .byte)) (by decide)
   refine Goes.st st17 ?_
   show Goes _ _ _ _ (T17.setTop (mkF m 23 #[.val (.int p0), .val (.int c1), .val (.int c2), .val (.int c3), .val (.int c4)] [(.ref b17)]))
   refine Goes.st (fun sT kT => XS.dup X17.here hx rfl (hb hby d1_23) rfl rfl kT) ?_
   show Goes _ _ _ _ (T17.setTop (mkF m 24 #[.val (.int p0), .val (.int c1), .val (.int c2), .val (.int c3), .val (.int c4)] [(.ref b17), (.ref b17)]))
   refine Goes.st (fun sT kT => XS.iconst X17.here hx rfl (hb hby d1_24) kT) ?_
   show Goes _ _ _ _ (T17.setTop (mkF m 25 #[.val (.int p0), .val (.int c1), .val (.int c2), .val (.int c3), .val (.int c4)] [(.int (1 : Int32)), (.ref b17), (.ref b17)]))
   obtain ⟨T19, h19, k19, X19, e19, E19, A19, st19⟩ := newP X17 hx hZ (aty := .char) (hw7 hw) e17 (g := (mkF m 25 #[.val (.int p0), .val (.int c1), .val (.int c2), .val (.int c3), .val (.int c4)] [(.int (1 : Int32)), (.ref b17), (.ref b17)])) rfl (hb hby d1_25) rfl (by decide) (cap := 1) (by decide) (by decide) (by decide) (by decide)
   obtain ⟨b19, g19⟩ : ∃ z, z = h17.size := ⟨_, rfl⟩
   rw [← g19] at A19 st19
   have CR20 : CHr Z EL s.vm h0 s.vm h19 := CR18.trans (CHr.ext E19 CR18.1)
   have sf20_b17 : Safe Z EL s.vm h19 b17 := Safe.ext E19 CR18.1 sf17_b17
   have V19 : Arv Z h19 b19 k19 .char (1 : Int32) [(.int (0 : Int32))] (.int (0 : Int32)) := (Arv.new A19 (by decide)).pad (pad_rep [] (.int (0 : Int32)) 1)
   refine Goes.st st19 ?_
   show Goes _ _ _ _ (T19.setTop (mkF m 27 #[.val (.int p0), .val (.int c1), .val (.int c2), .val (.int c3), .val (.int c4)] [(.ref b19), (.ref b17), (.ref b17)]))
   refine Goes.st (fun sT kT => XS.dup X19.here hx rfl (hb hby d1_27) rfl rfl kT) ?_
   show Goes _ _ _ _ (T19.setTop (mkF m 28 #[.val (.int p0), .val (.int c1), .val (.int c2), .val (.int c3), .val (.int c4)] [(.ref b19), (.ref b19), (.ref b17), (.ref b17)]))
   refine Goes.st (fun sT kT => XS.iconst X19.here hx rfl (hb hby d1_28) kT) ?_
   show Goes _ _ _ _ (T19.setTop (mkF m 29 #[.val (.int p0), .val (.int c1), .val (.int c2), .val (.int c3), .val (.int c4)] [(.int (0 : Int32)), (.ref b19), (.ref b19), (.ref b17), (.ref b17)]))
   refine Goes.st (fun sT kT => XS.iloadN X19.here hx rfl (hb hby d1_29) rfl kT) ?_
   show Goes _ _ _ _ (T19.setTop (mkF m 30 #[.val (.int p0), .val (.int c1), .val (.int c2), .val (.int c3), .val (.int c4)] [(.int c1), (.int (0 : Int32)), (.ref b19), (.ref b19), (.ref b17), (.ref b17)]))
   obtain ⟨oc21, oA21, oq21, oS21, oM21, oH21, oG21⟩ := id V19
   obtain ⟨T22, h22, X22, e22, W22, st22⟩ := stC X19 hx hZ e19 oA21 (j := (0 : Int32)) (inb_of oS21 ⟨by decide, by decide⟩) (g := (mkF m 30 #[.val (.int p0), .val (.int c1), .val (.int c2), .val (.int c3), .val (.int c4)] [(.int c1), (.int (0 : Int32)), (.ref b19), (.ref b19), (.ref b17), (.ref b17)])) rfl rfl (hb hby d1_30)
   rw [own_narc rg_c1] at W22
   have V22 : Arv Z h22 b19 k19 .char (1 : Int32) [(.int c1)] (.int (0 : Int32)) := Arv.set oA21 oq21 oS21 oM21 oH21 oG21 (own_fitsc rg_c1) W22 0 rfl (Nat.le_of_ble_eq_true rfl)
   have N22 := Fr.snoc X22 N0 (Nat.le_trans Z0 (Nat.le_trans E17.1 (Nat.le_of_eq g19.symm)))
   have CR23 : CHr Z EL s.vm h0 s.vm h22 := CR20.trans (CHr.wr W22 (own_safeArv hZ.alike V19 (by simp)) CR20.1)
   have sf23_b17 : Safe Z EL s.vm h22 b17 := Safe.wr W22 (own_safeArv hZ.alike V19 (by simp)) CR20.1 sf20_b17
   refine Goes.st st22 ?_
   show Goes _ _ _ _ (T22.setTop (mkF m 31 #[.val (.int p0), .val (.int c1), .val (.int c2), .val (.int c3), .val (.int c4)] [(.ref b19), (.ref b17), (.ref b17)]))
   have f25 : Exa Z h22 b17 "java/lang/String" := ((A17.ext E19).wr W22)
   have f26 : Fld Z h22 b17 "java/lang/String" "value" "[B" .null := ((F17_value.ext E19).other W22 (Or.inl (Nat.ne_of_lt (Nat.lt_of_lt_of_le A17.lt (Nat.le_of_eq g19.symm)))))
   have f27 : Fld Z h22 b17 "java/lang/String" "coder" "B" (.int (0 : Int32)) := ((F17_coder.ext E19).other W22 (Or.inl (Nat.ne_of_lt (Nat.lt_of_lt_of_le A17.lt (Nat.le_of_eq g19.symm)))))
   have f28 : Old Z n0 h22 := (((P0.ext E17).ext E19).wr W22 (Nat.le_trans Z0 (Nat.le_trans E17.1 (Nat.le_of_eq g19.symm))))
   have hp29 : ∀ c ∈ ([c1] : List Int32), ¬ c < 0 ∧ ¬ (255 : Int32) < c := (own_cS rg_c1 own_c0)
   obtain ⟨_, _, ⟨T24, L24, k24, n24⟩, -, X24, ⟨Lc24, hQ24, l24, y24, z24⟩, st24⟩ := X22.specialBack hx (y := (⟨"java/lang/String", "<init>", "([C)V"⟩ : MethodName)) rfl hown (mvT hZ (hw8 hw)) (mvT hZ (hw9 hw)) (mvT hZ (hw10 hw)) (by decide) (StrChars.Road.backV (W := 1) hZ (own_hws hw) (kI := 4) (hw5 hw) (cs := ([c1] : List Int32)) (bs := ([c1] : List Int32).map (fun c => c.toInt8.toInt32)) (n := 1) (Nat.le_trans Z0 (Nat.le_of_eq g17.symm)) (Nat.le_trans Z0 (Nat.le_trans (Nat.le_trans E17.1 E19.1) (Nat.le_of_eq W22.size.symm))) f25 f26 f27 V22 (O2.ext f28.2) P5 rfl rfl (by decide) (by decide) hp29 rfl (by decide) (by decide)) (g := (mkF m 31 #[.val (.int p0), .val (.int c1), .val (.int c2), .val (.int c3), .val (.int c4)] [(.ref b19), (.ref b17), (.ref b17)])) rfl (by rw [hml]; rfl) (Steps.refl _) (a := b17) (argsL := [(.ref b19)]) (rest := [(.ref b17)]) (lenOf pd_9 rfl) rfl (by show 2 * 0 + _ ≤ _; exact Nat.le_of_eq rfl) (hb hby d1_31) (fun _ _ => ⟨rfl, e22, (by decide : 2 + 1 ≤ _), (by decide : 5 + 1 ≤ _)⟩)
   dsimp only [Pt.U, Pt.locs, Pt.cells, Pt.slots] at X24 l24 y24 z24 st24 hQ24
   subst l24 y24 z24
   obtain ⟨rfl, N24q, K24, Ex24, Cd24, t24, kb24, lz24, lo24, tn24, Vf24, Av24⟩ := hQ24
   have N24 := Fr.app N22 N24q
   have S24 : Str Z T24.heap b17 t24 kb24 [c1] := ⟨Ex24, Vf24, Cd24, Av24, hp29, Nat.le_of_ble_eq_true rfl⟩
   have hs30 : ∀ x ∈ ([b17] : List Addr), Safe Z EL s.vm h22 x := (allS sf23_b17 all0)
   have CR30 : CHr Z EL s.vm h0 s.vm T24.heap := CR23.trans (CHr.keep K24 hs30 CR23.1)
   have sf30_b17 : Safe Z EL s.vm T24.heap b17 := Safe.keep K24 hs30 CR23.1 sf23_b17
   refine Goes.tr st24 ?_
   show Goes _ _ _ _ (T24.setTop (mkF m 34 #[.val (.int p0), .val (.int c1), .val (.int c2), .val (.int c3), .val (.int c4)] [(.ref b17)]))
   have S31 : Str Z T24.heap b17 t24 kb24 (own_tx p0 c1 c2 c3 c4) := by rw [own_tx, if_neg cz1, if_pos cz16]; exact S24
   have kp32 : Keep h0 h17 [] := (Keep.refl h0 []).ext E17
   have kp33 : Keep h0 h19 [] := kp32.ext E19
   have kp34 : Keep h0 h22 [] := kp33.wr W22 (Or.inr (Nat.le_trans E17.1 (Nat.le_of_eq g19.symm)))
   have kp35 : Keep h0 T24.heap [] := kp34.trans K24 (allS (Or.inr (Nat.le_of_eq g17.symm)) all0)
   obtain ⟨fs, hr, hrun, hended, hRW⟩ := X24.leaveW hS0 (Nat.le_trans (Nat.le_trans (Nat.le_trans (Nat.le_trans hk0 E17.1) E19.1) (Nat.le_of_eq W22.size.symm)) K24.1) (v := some (.ref b17)) (fun h => by rw [Bd.returns] at h; cases h)
   subst hQQ
   have hCR : CHr Z EL s.vm s.heap T24.vm T24.heap := by rw [hh]; exact CR30.trans (CHv.at X24 hZ (own_EW hw) CR30.1)
   refine ⟨_, _, retR X24 hx Bd.returns rfl rfl (hb hby d1_34) hr, hrun, hended, _, _, rfl, ?_, hCR, own_REmono hRW (by decide) (by decide)⟩
   show Q_txt Z p0 c1 c2 c3 c4 G1 h0 n0 _ T24.heap _
   exact ⟨b17, t24, kb24, rfl, N24, kp35, S31, (Nat.le_of_eq g17.symm), (Ne.symm tn24)⟩
  case neg =>
   refine Goes.st (fun sT kT => XS.icmpYes X0.here hx rfl (pc0 := 17) (pc' := 35) rfl (hb hby d1_17) rfl (feq cz16).2 (by decide) (by decide) kT) ?_
   show Goes _ _ _ _ (s₁.setTop (mkF m 35 #[.val (.int p0), .val (.int c1), .val (.int c2), .val (.int c3), .val (.int c4)] []))
   refine Goes.st (fun sT kT => XS.iloadN X0.here hx rfl (hb hby d1_35) rfl kT) ?_
   show Goes _ _ _ _ (s₁.setTop (mkF m 36 #[.val (.int p0), .val (.int c1), .val (.int c2), .val (.int c3), .val (.int c4)] [(.int p0)]))
   refine Goes.st (fun sT kT => XS.iconst X0.here hx rfl (hb hby d1_36) kT) ?_
   show Goes _ _ _ _ (s₁.setTop (mkF m 37 #[.val (.int p0), .val (.int c1), .val (.int c2), .val (.int c3), .val (.int c4)] [(.int (2 : Int32)), (.int p0)]))
   by_cases cz36 : p0 = (2 : Int32)
   case pos =>
    refine Goes.st (fun sT kT => XS.icmpNo X0.here hx rfl (hb hby d1_37) rfl (teq cz36).2 kT) ?_
    show Goes _ _ _ _ (s₁.setTop (mkF m 40 #[.val (.int p0), .val (.int c1), .val (.int c2), .val (.int c3), .val (.int c4)] []))
    obtain ⟨T37, h37, X37, e37, E37, A37, D37, -, st37⟩ := newO X0 hx hZ hown (hw4 hw) (hw5 hw) (hw6 hw) e0 (g := (mkF m 40 #[.val (.int p0), .val (.int c1), .val (.int c2), .val (.int c3), .val (.int c4)] [])) rfl (hb hby d1_40) (by decide) (by decide)
    obtain ⟨b37, g37⟩ : ∃ z, z = h0.size := ⟨_, rfl⟩
    rw [← g37] at A37 D37 st37
    have CR38 : CHr Z EL s.vm h0 s.vm h37 := CR0.trans (CHr.ext E37 CR0.1)
    have sf37_b37 : Safe Z EL s.vm h37 b37 := Safe.ext E37 CR0.1 (Safe.new (Nat.le_of_eq g37.symm))
    have F37_coder : Fld Z h37 b37 "java/lang/String" "coder" "B" (.int (0 : Int32)) := D37 (Or.inr (hw31 hw)) (ty := .byte) (by decide)
    have F37_value : Fld Z h37 b37 "java/lang/String" "value" "[B" .null := D37 (Or.inr (hw33 hw)) (ty := (.array .byte)) (by decide)
    refine Goes.st st37 ?_
    show Goes _ _ _ _ (T37.setTop (mkF m 43 #[.val (.int p0), .val (.int c1), .val (.int c2), .val (.int c3), .val (.int c4)] [(.ref b37)]))
    refine Goes.st (fun sT kT => XS.dup X37.here hx rfl (hb hby d1_43) rfl rfl kT) ?_
    show Goes _ _ _ _ (T37.setTop (mkF m 44 #[.val (.int p0), .val (.int c1), .val (.int c2), .val (.int c3), .val (.int c4)] [(.ref b37), (.ref b37)]))
    refine Goes.st (fun sT kT => XS.iconst X37.here hx rfl (hb hby d1_44) kT) ?_
    show Goes _ _ _ _ (T37.setTop (mkF m 45 #[.val (.int p0), .val (.int c1), .val (.int c2), .val (.int c3), .val (.int c4)] [(.int (2 : Int32)), (.ref b37), (.ref b37)]))
    obtain ⟨T39, h39, k39, X39, e39, E39, A39, st39⟩ := newP X37 hx hZ (aty := .char) (hw7 hw) e37 (g := (mkF m 45 #[.val (.int p0), .val (.int c1), .val (.int c2), .val (.int c3), .val (.int c4)] [(.int (2 : Int32)), (.ref b37), (.ref b37)])) rfl (hb hby d1_45) rfl (by decide) (cap := 2) (by decide) (by decide) (by decide) (by decide)
    obtain ⟨b39, g39⟩ : ∃ z, z = h37.size := ⟨_, rfl⟩
    rw [← g39] at A39 st39
    have CR40 : CHr Z EL s.vm h0 s.vm h39 := CR38.trans (CHr.ext E39 CR38.1)
    have sf40_b37 : Safe Z EL s.vm h39 b37 := Safe.ext E39 CR38.1 sf37_b37
    have V39 : Arv Z h39 b39 k39 .char (2 : Int32) [(.int (0 : Int32)), (.int (0 : Int32))] (.int (0 : Int32)) := (Arv.new A39 (by decide)).pad (pad_rep [] (.int (0 : Int32)) 2)
    refine Goes.st st39 ?_
    show Goes _ _ _ _ (T39.setTop (mkF m 47 #[.val (.int p0), .val (.int c1), .val (.int c2), .val (.int c3), .val (.int c4)] [(.ref b39), (.ref b37), (.ref b37)]))
    refine Goes.st (fun sT kT => XS.dup X39.here hx rfl (hb hby d1_47) rfl rfl kT) ?_
    show Goes _ _ _ _ (T39.setTop (mkF m 48 #[.val (.int p0), .val (.int c1), .val (.int c2), .val (.int c3), .val (.int c4)] [(.ref b39), (.ref b39), (.ref b37), (.ref b37)]))
    refine Goes.st (fun sT kT => XS.iconst X39.here hx rfl (hb hby d1_48) kT) ?_
    show Goes _ _ _ _ (T39.setTop (mkF m 49 #[.val (.int p0), .val (.int c1), .val (.int c2), .val (.int c3), .val (.int c4)] [(.int (0 : Int32)), (.ref b39), (.ref b39), (.ref b37), (.ref b37)]))
    refine Goes.st (fun sT kT => XS.iloadN X39.here hx rfl (hb hby d1_49) rfl kT) ?_
    show Goes _ _ _ _ (T39.setTop (mkF m 50 #[.val (.int p0), .val (.int c1), .val (.int c2), .val (.int c3), .val (.int c4)] [(.int c1), (.int (0 : Int32)), (.ref b39), (.ref b39), (.ref b37), (.ref b37)]))
    obtain ⟨oc41, oA41, oq41, oS41, oM41, oH41, oG41⟩ := id V39
    obtain ⟨T42, h42, X42, e42, W42, st42⟩ := stC X39 hx hZ e39 oA41 (j := (0 : Int32)) (inb_of oS41 ⟨by decide, by decide⟩) (g := (mkF m 50 #[.val (.int p0), .val (.int c1), .val (.int c2), .val (.int c3), .val (.int c4)] [(.int c1), (.int (0 : Int32)), (.ref b39), (.ref b39), (.ref b37), (.ref b37)])) rfl rfl (hb hby d1_50)
    rw [own_narc rg_c1] at W42
    have V42 : Arv Z h42 b39 k39 .char (2 : Int32) [(.int c1), (.int (0 : Int32))] (.int (0 : Int32)) := Arv.set oA41 oq41 oS41 oM41 oH41 oG41 (own_fitsc rg_c1) W42 0 rfl (Nat.le_of_ble_eq_true rfl)
    have N42 := Fr.snoc X42 N0 (Nat.le_trans Z0 (Nat.le_trans E37.1 (Nat.le_of_eq g39.symm)))
    have CR43 : CHr Z EL s.vm h0 s.vm h42 := CR40.trans (CHr.wr W42 (own_safeArv hZ.alike V39 (by simp)) CR40.1)
    have sf43_b37 : Safe Z EL s.vm h42 b37 := Safe.wr W42 (own_safeArv hZ.alike V39 (by simp)) CR40.1 sf40_b37
    refine Goes.st st42 ?_
    show Goes _ _ _ _ (T42.setTop (mkF m 51 #[.val (.int p0), .val (.int c1), .val (.int c2), .val (.int c3), .val (.int c4)] [(.ref b39), (.ref b37), (.ref b37)]))
    refine Goes.st (fun sT kT => XS.dup X42.here hx rfl (hb hby d1_51) rfl rfl kT) ?_
    show Goes _ _ _ _ (T42.setTop (mkF m 52 #[.val (.int p0), .val (.int c1), .val (.int c2), .val (.int c3), .val (.int c4)] [(.ref b39), (.ref b39), (.ref b37), (.ref b37)]))
    refine Goes.st (fun sT kT => XS.iconst X42.here hx rfl (hb hby d1_52) kT) ?_
    show Goes _ _ _ _ (T42.setTop (mkF m 53 #[.val (.int p0), .val (.int c1), .val (.int c2), .val (.int c3), .val (.int c4)] [(.int (1 : Int32)), (.ref b39), (.ref b39), (.ref b37), (.ref b37)]))
    refine Goes.st (fun sT kT => XS.iloadN X42.here hx rfl (hb hby d1_53) rfl kT) ?_
    show Goes _ _ _ _ (T42.setTop (mkF m 54 #[.val (.int p0), .val (.int c1), .val (.int c2), .val (.int c3), .val (.int c4)] [(.int c2), (.int (1 : Int32)), (.ref b39), (.ref b39), (.ref b37), (.ref b37)]))
    obtain ⟨oc44, oA44, oq44, oS44, oM44, oH44, oG44⟩ := id V42
    obtain ⟨T45, h45, X45, e45, W45, st45⟩ := stC X42 hx hZ e42 oA44 (j := (1 : Int32)) (inb_of oS44 ⟨by decide, by decide⟩) (g := (mkF m 54 #[.val (.int p0), .val (.int c1), .val (.int c2), .val (.int c3), .val (.int c4)] [(.int c2), (.int (1 : Int32)), (.ref b39), (.ref b39), (.ref b37), (.ref b37)])) rfl rfl (hb hby d1_54)
    rw [own_narc rg_c2] at W45
    have V45 : Arv Z h45 b39 k39 .char (2 : Int32) [(.int c1), (.int c2)] (.int (0 : Int32)) := Arv.set oA44 oq44 oS44 oM44 oH44 oG44 (own_fitsc rg_c2) W45 1 rfl (Nat.le_of_ble_eq_true rfl)
    have N45 := Fr.snoc X45 N42 (Nat.le_trans Z0 (Nat.le_trans E37.1 (Nat.le_of_eq g39.symm)))
    have CR46 : CHr Z EL s.vm h0 s.vm h45 := CR43.trans (CHr.wr W45 (own_safeArv hZ.alike V42 (by simp)) CR43.1)
    have sf46_b37 : Safe Z EL s.vm h45 b37 := Safe.wr W45 (own_safeArv hZ.alike V42 (by simp)) CR43.1 sf43_b37
    refine Goes.st st45 ?_
    show Goes _ _ _ _ (T45.setTop (mkF m 55 #[.val (.int p0), .val (.int c1), .val (.int c2), .val (.int c3), .val (.int c4)] [(.ref b39), (.ref b37), (.ref b37)]))
    have f48 : Exa Z h45 b37 "java/lang/String" := (((A37.ext E39).wr W42).wr W45)
    have f49 : Fld Z h45 b37 "java/lang/String" "value" "[B" .null := (((F37_value.ext E39).other W42 (Or.inl (Nat.ne_of_lt (Nat.lt_of_lt_of_le A37.lt (Nat.le_of_eq g39.symm))))).other W45 (Or.inl (Nat.ne_of_lt (Nat.lt_of_lt_of_le A37.lt (Nat.le_of_eq g39.symm)))))
    have f50 : Fld Z h45 b37 "java/lang/String" "coder" "B" (.int (0 : Int32)) := (((F37_coder.ext E39).other W42 (Or.inl (Nat.ne_of_lt (Nat.lt_of_lt_of_le A37.lt (Nat.le_of_eq g39.symm))))).other W45 (Or.inl (Nat.ne_of_lt (Nat.lt_of_lt_of_le A37.lt (Nat.le_of_eq g39.symm)))))
    have f51 : Old Z n0 h45 := ((((P0.ext E37).ext E39).wr W42 (Nat.le_trans Z0 (Nat.le_trans E37.1 (Nat.le_of_eq g39.symm)))).wr W45 (Nat.le_trans Z0 (Nat.le_trans E37.1 (Nat.le_of_eq g39.symm))))
    have hp52 : ∀ c ∈ ([c1, c2] : List Int32), ¬ c < 0 ∧ ¬ (255 : Int32) < c := (own_cS rg_c1 (own_cS rg_c2 own_c0))
    obtain ⟨_, _, ⟨T47, L47, k47, n47⟩, -, X47, ⟨Lc47, hQ47, l47, y47, z47⟩, st47⟩ := X45.specialBack hx (y := (⟨"java/lang/String", "<init>", "([C)V"⟩ : MethodName)) rfl hown (mvT hZ (hw8 hw)) (mvT hZ (hw9 hw)) (mvT hZ (hw10 hw)) (by decide) (StrChars.Road.backV (W := 1) hZ (own_hws hw) (kI := 4) (hw5 hw) (cs := ([c1, c2] : List Int32)) (bs := ([c1, c2] : List Int32).map (fun c => c.toInt8.toInt32)) (n := 2) (Nat.le_trans Z0 (Nat.le_of_eq g37.symm)) (Nat.le_trans Z0 (Nat.le_trans (Nat.le_trans (Nat.le_trans E37.1 E39.1) (Nat.le_of_eq W42.size.symm)) (Nat.le_of_eq W45.size.symm))) f48 f49 f50 V45 (O2.ext f51.2) P5 rfl rfl (by decide) (by decide) hp52 rfl (by decide) (by decide)) (g := (mkF m 55 #[.val (.int p0), .val (.int c1), .val (.int c2), .val (.int c3), .val (.int c4)] [(.ref b39), (.ref b37), (.ref b37)])) rfl (by rw [hml]; rfl) (Steps.refl _) (a := b37) (argsL := [(.ref b39)]) (rest := [(.ref b37)]) (lenOf pd_9 rfl) rfl (by show 2 * 0 + _ ≤ _; exact Nat.le_of_eq rfl) (hb hby d1_55) (fun _ _ => ⟨rfl, e45, (by decide : 2 + 1 ≤ _), (by decide : 6 + 2 ≤ _)⟩)
    dsimp only [Pt.U, Pt.locs, Pt.cells, Pt.slots] at X47 l47 y47 z47 st47 hQ47
    subst l47 y47 z47
    obtain ⟨rfl, N47q, K47, Ex47, Cd47, t47, kb47, lz47, lo47, tn47, Vf47, Av47⟩ := hQ47
    have N47 := Fr.app N45 N47q
    have S47 : Str Z T47.heap b37 t47 kb47 [c1, c2] := ⟨Ex47, Vf47, Cd47, Av47, hp52, Nat.le_of_ble_eq_true rfl⟩
    have hs53 : ∀ x ∈ ([b37] : List Addr), Safe Z EL s.vm h45 x := (allS sf46_b37 all0)
    have CR53 : CHr Z EL s.vm h0 s.vm T47.heap := CR46.trans (CHr.keep K47 hs53 CR46.1)
    have sf53_b37 : Safe Z EL s.vm T47.heap b37 := Safe.keep K47 hs53 CR46.1 sf46_b37
    refine Goes.tr st47 ?_
    show Goes _ _ _ _ (T47.setTop (mkF m 58 #[.val (.int p0), .val (.int c1), .val (.int c2), .val (.int c3), .val (.int c4)] [(.ref b37)]))
    have S54 : Str Z T47.heap b37 t47 kb47 (own_tx p0 c1 c2 c3 c4) := by rw [own_tx, if_neg cz1, if_neg cz16, if_pos cz36]; exact S47
    have kp55 : Keep h0 h37 [] := (Keep.refl h0 []).ext E37
    have kp56 : Keep h0 h39 [] := kp55.ext E39
    have kp57 : Keep h0 h42 [] := kp56.wr W42 (Or.inr (Nat.le_trans E37.1 (Nat.le_of_eq g39.symm)))
    have kp58 : Keep h0 h45 [] := kp57.wr W45 (Or.inr (Nat.le_trans E37.1 (Nat.le_of_eq g39.symm)))
    have kp59 : Keep h0 T47.heap [] := kp58.trans K47 (allS (Or.inr (Nat.le_of_eq g37.symm)) all0)
    obtain ⟨fs, hr, hrun, hended, hRW⟩ := X47.leaveW hS0 (Nat.le_trans (Nat.le_trans (Nat.le_trans (Nat.le_trans (Nat.le_trans hk0 E37.1) E39.1) (Nat.le_of_eq W42.size.symm)) (Nat.le_of_eq W45.size.symm)) K47.1) (v := some (.ref b37)) (fun h => by rw [Bd.returns] at h; cases h)
    subst hQQ
    have hCR : CHr Z EL s.vm s.heap T47.vm T47.heap := by rw [hh]; exact CR53.trans (CHv.at X47 hZ (own_EW hw) CR53.1)
    refine ⟨_, _, retR X47 hx Bd.returns rfl rfl (hb hby d1_58) hr, hrun, hended, _, _, rfl, ?_, hCR, own_REmono hRW (by decide) (by decide)⟩
    show Q_txt Z p0 c1 c2 c3 c4 G1 h0 n0 _ T47.heap _
    exact ⟨b37, t47, kb47, rfl, N47, kp59, S54, (Nat.le_of_eq g37.symm), (Ne.symm tn47)⟩
   case neg =>
    refine Goes.st (fun sT kT => XS.icmpYes X0.here hx rfl (pc0 := 37) (pc' := 59) rfl (hb hby d1_37) rfl (feq cz36).2 (by decide) (by decide) kT) ?_
    show Goes _ _ _ _ (s₁.setTop (mkF m 59 #[.val (.int p0), .val (.int c1), .val (.int c2), .val (.int c3), .val (.int c4)] []))
    refine Goes.st (fun sT kT => XS.iloadN X0.here hx rfl (hb hby d1_59) rfl kT) ?_
    show Goes _ _ _ _ (s₁.setTop (mkF m 60 #[.val (.int p0), .val (.int c1), .val (.int c2), .val (.int c3), .val (.int c4)] [(.int p0)]))
    refine Goes.st (fun sT kT => XS.iconst X0.here hx rfl (hb hby d1_60) kT) ?_
    show Goes _ _ _ _ (s₁.setTop (mkF m 61 #[.val (.int p0), .val (.int c1), .val (.int c2), .val (.int c3), .val (.int c4)] [(.int (3 : Int32)), (.int p0)]))
    by_cases cz60 : p0 = (3 : Int32)
    case pos =>
     refine Goes.st (fun sT kT => XS.icmpNo X0.here hx rfl (hb hby d1_61) rfl (teq cz60).2 kT) ?_
     show Goes _ _ _ _ (s₁.setTop (mkF m 64 #[.val (.int p0), .val (.int c1), .val (.int c2), .val (.int c3), .val (.int c4)] []))
     obtain ⟨T61, h61, X61, e61, E61, A61, D61, -, st61⟩ := newO X0 hx hZ hown (hw4 hw) (hw5 hw) (hw6 hw) e0 (g := (mkF m 64 #[.val (.int p0), .val (.int c1), .val (.int c2), .val (.int c3), .val (.int c4)] [])) rfl (hb hby d1_64) (by decide) (by decide)
     obtain ⟨b61, g61⟩ : ∃ z, z = h0.size := ⟨_, rfl⟩
     rw [← g61] at A61 D61 st61
     have CR62 : CHr Z EL s.vm h0 s.vm h61 := CR0.trans (CHr.ext E61 CR0.1)
     have sf61_b61 : Safe Z EL s.vm h61 b61 := Safe.ext E61 CR0.1 (Safe.new (Nat.le_of_eq g61.symm))
     have F61_coder : Fld Z h61 b61 "java/lang/String" "coder" "B" (.int (0 : Int32)) := D61 (Or.inr (hw31 hw)) (ty := .byte) (by decide)
     have F61_value : Fld Z h61 b61 "java/lang/String" "value" "[B" .null := D61 (Or.inr (hw33 hw)) (ty := (.array .byte)) (by decide)
     refine Goes.st st61 ?_
     show Goes _ _ _ _ (T61.setTop (mkF m 67 #[.val (.int p0), .val (.int c1), .val (.int c2), .val (.int c3), .val (.int c4)] [(.ref b61)]))
     refine Goes.st (fun sT kT => XS.dup X61.here hx rfl (hb hby d1_67) rfl rfl kT) ?_
     show Goes _ _ _ _ (T61.setTop (mkF m 68 #[.val (.int p0), .val (.int c1), .val (.int c2), .val (.int c3), .val (.int c4)] [(.ref b61), (.ref b61)]))
     refine Goes.st (fun sT kT => XS.iconst X61.here hx rfl (hb hby d1_68) kT) ?_
     show Goes _ _ _ _ (T61.setTop (mkF m 69 #[.val (.int p0), .val (.int c1), .val (.int c2), .val (.int c3), .val (.int c4)] [(.int (3 : Int32)), (.ref b61), (.ref b61)]))
     obtain ⟨T63, h63, k63, X63, e63, E63, A63, st63⟩ := newP X61 hx hZ (aty := .char) (hw7 hw) e61 (g := (mkF m 69 #[.val (.int p0), .val (.int c1), .val (.int c2), .val (.int c3), .val (.int c4)] [(.int (3 : Int32)), (.ref b61), (.ref b61)])) rfl (hb hby d1_69) rfl (by decide) (cap := 3) (by decide) (by decide) (by decide) (by decide)
     obtain ⟨b63, g63⟩ : ∃ z, z = h61.size := ⟨_, rfl⟩
     rw [← g63] at A63 st63
     have CR64 : CHr Z EL s.vm h0 s.vm h63 := CR62.trans (CHr.ext E63 CR62.1)
     have sf64_b61 : Safe Z EL s.vm h63 b61 := Safe.ext E63 CR62.1 sf61_b61
     have V63 : Arv Z h63 b63 k63 .char (3 : Int32) [(.int (0 : Int32)), (.int (0 : Int32)), (.int (0 : Int32))] (.int (0 : Int32)) := (Arv.new A63 (by decide)).pad (pad_rep [] (.int (0 : Int32)) 3)
     refine Goes.st st63 ?_
     show Goes _ _ _ _ (T63.setTop (mkF m 71 #[.val (.int p0), .val (.int c1), .val (.int c2), .val (.int c3), .val (.int c4)] [(.ref b63), (.ref b61), (.ref b61)]))
     refine Goes.st (fun sT kT => XS.dup X63.here hx rfl (hb hby d1_71) rfl rfl kT) ?_
     show Goes _ _ _ _ (T63.setTop (mkF m 72 #[.val (.int p0), .val (.int c1), .val (.int c2), .val (.int c3), .val (.int c4)] [(.ref b63), (.ref b63), (.ref b61), (.ref b61)]))
     refine Goes.st (fun sT kT => XS.iconst X63.here hx rfl (hb hby d1_72) kT) ?_
     show Goes _ _ _ _ (T63.setTop (mkF m 73 #[.val (.int p0), .val (.int c1), .val (.int c2), .val (.int c3), .val (.int c4)] [(.int (0 : Int32)), (.ref b63), (.ref b63), (.ref b61), (.ref b61)]))
     refine Goes.st (fun sT kT => XS.iloadN X63.here hx rfl (hb hby d1_73) rfl kT) ?_
     show Goes _ _ _ _ (T63.setTop (mkF m 74 #[.val (.int p0), .val (.int c1), .val (.int c2), .val (.int c3), .val (.int c4)] [(.int c1), (.int (0 : Int32)), (.ref b63), (.ref b63), (.ref b61), (.ref b61)]))
     obtain ⟨oc65, oA65, oq65, oS65, oM65, oH65, oG65⟩ := id V63
     obtain ⟨T66, h66, X66, e66, W66, st66⟩ := stC X63 hx hZ e63 oA65 (j := (0 : Int32)) (inb_of oS65 ⟨by decide, by decide⟩) (g := (mkF m 74 #[.val (.int p0), .val (.int c1), .val (.int c2), .val (.int c3), .val (.int c4)] [(.int c1), (.int (0 : Int32)), (.ref b63), (.ref b63), (.ref b61), (.ref b61)])) rfl rfl (hb hby d1_74)
     rw [own_narc rg_c1] at W66
     have V66 : Arv Z h66 b63 k63 .char (3 : Int32) [(.int c1), (.int (0 : Int32)), (.int (0 : Int32))] (.int (0 : Int32)) := Arv.set oA65 oq65 oS65 oM65 oH65 oG65 (own_fitsc rg_c1) W66 0 rfl (Nat.le_of_ble_eq_true rfl)
     have N66 := Fr.snoc X66 N0 (Nat.le_trans Z0 (Nat.le_trans E61.1 (Nat.le_of_eq g63.symm)))
     have CR67 : CHr Z EL s.vm h0 s.vm h66 := CR64.trans (CHr.wr W66 (own_safeArv hZ.alike V63 (by simp)) CR64.1)
     have sf67_b61 : Safe Z EL s.vm h66 b61 := Safe.wr W66 (own_safeArv hZ.alike V63 (by simp)) CR64.1 sf64_b61
     refine Goes.st st66 ?_
     show Goes _ _ _ _ (T66.setTop (mkF m 75 #[.val (.int p0), .val (.int c1), .val (.int c2), .val (.int c3), .val (.int c4)] [(.ref b63), (.ref b61), (.ref b61)]))
     refine Goes.st (fun sT kT => XS.dup X66.here hx rfl (hb hby d1_75) rfl rfl kT) ?_
     show Goes _ _ _ _ (T66.setTop (mkF m 76 #[.val (.int p0), .val (.int c1), .val (.int c2), .val (.int c3), .val (.int c4)] [(.ref b63), (.ref b63), (.ref b61), (.ref b61)]))
     refine Goes.st (fun sT kT => XS.iconst X66.here hx rfl (hb hby d1_76) kT) ?_
     show Goes _ _ _ _ (T66.setTop (mkF m 77 #[.val (.int p0), .val (.int c1), .val (.int c2), .val (.int c3), .val (.int c4)] [(.int (1 : Int32)), (.ref b63), (.ref b63), (.ref b61), (.ref b61)]))
     refine Goes.st (fun sT kT => XS.iloadN X66.here hx rfl (hb hby d1_77) rfl kT) ?_
     show Goes _ _ _ _ (T66.setTop (mkF m 78 #[.val (.int p0), .val (.int c1), .val (.int c2), .val (.int c3), .val (.int c4)] [(.int c2), (.int (1 : Int32)), (.ref b63), (.ref b63), (.ref b61), (.ref b61)]))
     obtain ⟨oc68, oA68, oq68, oS68, oM68, oH68, oG68⟩ := id V66
     obtain ⟨T69, h69, X69, e69, W69, st69⟩ := stC X66 hx hZ e66 oA68 (j := (1 : Int32)) (inb_of oS68 ⟨by decide, by decide⟩) (g := (mkF m 78 #[.val (.int p0), .val (.int c1), .val (.int c2), .val (.int c3), .val (.int c4)] [(.int c2), (.int (1 : Int32)), (.ref b63), (.ref b63), (.ref b61), (.ref b61)])) rfl rfl (hb hby d1_78)
     rw [own_narc rg_c2] at W69
     have V69 : Arv Z h69 b63 k63 .char (3 : Int32) [(.int c1), (.int c2), (.int (0 : Int32))] (.int (0 : Int32)) := Arv.set oA68 oq68 oS68 oM68 oH68 oG68 (own_fitsc rg_c2) W69 1 rfl (Nat.le_of_ble_eq_true rfl)
     have N69 := Fr.snoc X69 N66 (Nat.le_trans Z0 (Nat.le_trans E61.1 (Nat.le_of_eq g63.symm)))
     have CR70 : CHr Z EL s.vm h0 s.vm h69 := CR67.trans (CHr.wr W69 (own_safeArv hZ.alike V66 (by simp)) CR67.1)
     have sf70_b61 : Safe Z EL s.vm h69 b61 := Safe.wr W69 (own_safeArv hZ.alike V66 (by simp)) CR67.1 sf67_b61
     refine Goes.st st69 ?_
     show Goes _ _ _ _ (T69.setTop (mkF m 79 #[.val (.int p0), .val (.int c1), .val (.int c2), .val (.int c3), .val (.int c4)] [(.ref b63), (.ref b61), (.ref b61)]))
     refine Goes.st (fun sT kT => XS.dup X69.here hx rfl (hb hby d1_79) rfl rfl kT) ?_
     show Goes _ _ _ _ (T69.setTop (mkF m 80 #[.val (.int p0), .val (.int c1), .val (.int c2), .val (.int c3), .val (.int c4)] [(.ref b63), (.ref b63), (.ref b61), (.ref b61)]))
     refine Goes.st (fun sT kT => XS.iconst X69.here hx rfl (hb hby d1_80) kT) ?_
     show Goes _ _ _ _ (T69.setTop (mkF m 81 #[.val (.int p0), .val (.int c1), .val (.int c2), .val (.int c3), .val (.int c4)] [(.int (2 : Int32)), (.ref b63), (.ref b63), (.ref b61), (.ref b61)]))
     refine Goes.st (fun sT kT => XS.iloadN X69.here hx rfl (hb hby d1_81) rfl kT) ?_
     show Goes _ _ _ _ (T69.setTop (mkF m 82 #[.val (.int p0), .val (.int c1), .val (.int c2), .val (.int c3), .val (.int c4)] [(.int c3), (.int (2 : Int32)), (.ref b63), (.ref b63), (.ref b61), (.ref b61)]))
     obtain ⟨oc71, oA71, oq71, oS71, oM71, oH71, oG71⟩ := id V69
     obtain ⟨T72, h72, X72, e72, W72, st72⟩ := stC X69 hx hZ e69 oA71 (j := (2 : Int32)) (inb_of oS71 ⟨by decide, by decide⟩) (g := (mkF m 82 #[.val (.int p0), .val (.int c1), .val (.int c2), .val (.int c3), .val (.int c4)] [(.int c3), (.int (2 : Int32)), (.ref b63), (.ref b63), (.ref b61), (.ref b61)])) rfl rfl (hb hby d1_82)
     rw [own_narc rg_c3] at W72
     have V72 : Arv Z h72 b63 k63 .char (3 : Int32) [(.int c1), (.int c2), (.int c3)] (.int (0 : Int32)) := Arv.set oA71 oq71 oS71 oM71 oH71 oG71 (own_fitsc rg_c3) W72 2 rfl (Nat.le_of_ble_eq_true rfl)
     have N72 := Fr.snoc X72 N69 (Nat.le_trans Z0 (Nat.le_trans E61.1 (Nat.le_of_eq g63.symm)))
     have CR73 : CHr Z EL s.vm h0 s.vm h72 := CR70.trans (CHr.wr W72 (own_safeArv hZ.alike V69 (by simp)) CR70.1)
     have sf73_b61 : Safe Z EL s.vm h72 b61 := Safe.wr W72 (own_safeArv hZ.alike V69 (by simp)) CR70.1 sf70_b61
     refine Goes.st st72 ?_
     show Goes _ _ _ _ (T72.setTop (mkF m 83 #[.val (.int p0), .val (.int c1), .val (.int c2), .val (.int c3), .val (.int c4)] [(.ref b63), (.ref b61), (.ref b61)]))
     have f75 : Exa Z h72 b61 "java/lang/String" := ((((A61.ext E63).wr W66).wr W69).wr W72)
     have f76 : Fld Z h72 b61 "java/lang/String" "value" "[B" .null := ((((F61_value.ext E63).other W66 (Or.inl (Nat.ne_of_lt (Nat.lt_of_lt_of_le A61.lt (Nat.le_of_eq g63.symm))))).other W69 (Or.inl (Nat.ne_of_lt (Nat.lt_of_lt_of_le A61.lt (Nat.le_of_eq g63.symm))))).other W72 (Or.inl (Nat.ne_of_lt (Nat.lt_of_lt_of_le A61.lt (Nat.le_of_eq g63.symm)))))
     have f77 : Fld Z h72 b61 "java/lang/String" "coder" "B" (.int (0 : Int32)) := ((((F61_coder.ext E63).other W66 (Or.inl (Nat.ne_of_lt (Nat.lt_of_lt_of_le A61.lt (Nat.le_of_eq g63.symm))))).other W69 (Or.inl (Nat.ne_of_lt (Nat.lt_of_lt_of_le A61.lt (Nat.le_of_eq g63.symm))))).other W72 (Or.inl (Nat.ne_of_lt (Nat.lt_of_lt_of_le A61.lt (Nat.le_of_eq g63.symm)))))
     have f78 : Old Z n0 h72 := (((((P0.ext E61).ext E63).wr W66 (Nat.le_trans Z0 (Nat.le_trans E61.1 (Nat.le_of_eq g63.symm)))).wr W69 (Nat.le_trans Z0 (Nat.le_trans E61.1 (Nat.le_of_eq g63.symm)))).wr W72 (Nat.le_trans Z0 (Nat.le_trans E61.1 (Nat.le_of_eq g63.symm))))
     have hp79 : ∀ c ∈ ([c1, c2, c3] : List Int32), ¬ c < 0 ∧ ¬ (255 : Int32) < c := (own_cS rg_c1 (own_cS rg_c2 (own_cS rg_c3 own_c0)))
     obtain ⟨_, _, ⟨T74, L74, k74, n74⟩, -, X74, ⟨Lc74, hQ74, l74, y74, z74⟩, st74⟩ := X72.specialBack hx (y := (⟨"java/lang/String", "<init>", "([C)V"⟩ : MethodName)) rfl hown (mvT hZ (hw8 hw)) (mvT hZ (hw9 hw)) (mvT hZ (hw10 hw)) (by decide) (StrChars.Road.backV (W := 1) hZ (own_hws hw) (kI := 4) (hw5 hw) (cs := ([c1, c2, c3] : List Int32)) (bs := ([c1, c2, c3] : List Int32).map (fun c => c.toInt8.toInt32)) (n := 3) (Nat.le_trans Z0 (Nat.le_of_eq g61.symm)) (Nat.le_trans Z0 (Nat.le_trans (Nat.le_trans (Nat.le_trans (Nat.le_trans E61.1 E63.1) (Nat.le_of_eq W66.size.symm)) (Nat.le_of_eq W69.size.symm)) (Nat.le_of_eq W72.size.symm))) f75 f76 f77 V72 (O2.ext f78.2) P5 rfl rfl (by decide) (by decide) hp79 rfl (by decide) (by decide)) (g := (mkF m 83 #[.val (.int p0), .val (.int c1), .val (.int c2), .val (.int c3), .val (.int c4)] [(.ref b63), (.ref b61), (.ref b61)])) rfl (by rw [hml]; rfl) (Steps.refl _) (a := b61) (argsL := [(.ref b63)]) (rest := [(.ref b61)]) (lenOf pd_9 rfl) rfl (by show 2 * 0 + _ ≤ _; exact Nat.le_of_eq rfl) (hb hby d1_83) (fun _ _ => ⟨rfl, e72, (by decide : 2 + 1 ≤ _), (by decide : 7 + 3 ≤ _)⟩)
     dsimp only [Pt.U, Pt.locs, Pt.cells, Pt.slots] at X74 l74 y74 z74 st74 hQ74
     subst l74 y74 z74
     obtain ⟨rfl, N74q, K74, Ex74, Cd74, t74, kb74, lz74, lo74, tn74, Vf74, Av74⟩ := hQ74
     have N74 := Fr.app N72 N74q
     have S74 : Str Z T74.heap b61 t74 kb74 [c1, c2, c3] := ⟨Ex74, Vf74, Cd74, Av74, hp79, Nat.le_of_ble_eq_true rfl⟩
     have hs80 : ∀ x ∈ ([b61] : List Addr), Safe Z EL s.vm h72 x := (allS sf73_b61 all0)
     have CR80 : CHr Z EL s.vm h0 s.vm T74.heap := CR73.trans (CHr.keep K74 hs80 CR73.1)
     have sf80_b61 : Safe Z EL s.vm T74.heap b61 := Safe.keep K74 hs80 CR73.1 sf73_b61
     refine Goes.tr st74 ?_
     show Goes _ _ _ _ (T74.setTop (mkF m 86 #[.val (.int p0), .val (.int c1), .val (.int c2), .val (.int c3), .val (.int c4)] [(.ref b61)]))
     have S81 : Str Z T74.heap b61 t74 kb74 (own_tx p0 c1 c2 c3 c4) := by rw [own_tx, if_neg cz1, if_neg cz16, if_neg cz36, if_pos cz60]; exact S74
     have kp82 : Keep h0 h61 [] := (Keep.refl h0 []).ext E61
     have kp83 : Keep h0 h63 [] := kp82.ext E63
     have kp84 : Keep h0 h66 [] := kp83.wr W66 (Or.inr (Nat.le_trans E61.1 (Nat.le_of_eq g63.symm)))
     have kp85 : Keep h0 h69 [] := kp84.wr W69 (Or.inr (Nat.le_trans E61.1 (Nat.le_of_eq g63.symm)))
     have kp86 : Keep h0 h72 [] := kp85.wr W72 (Or.inr (Nat.le_trans E61.1 (Nat.le_of_eq g63.symm)))
     have kp87 : Keep h0 T74.heap [] := kp86.trans K74 (allS (Or.inr (Nat.le_of_eq g61.symm)) all0)
     obtain ⟨fs, hr, hrun, hended, hRW⟩ := X74.leaveW hS0 (Nat.le_trans (Nat.le_trans (Nat.le_trans (Nat.le_trans (Nat.le_trans (Nat.le_trans hk0 E61.1) E63.1) (Nat.le_of_eq W66.size.symm)) (Nat.le_of_eq W69.size.symm)) (Nat.le_of_eq W72.size.symm)) K74.1) (v := some (.ref b61)) (fun h => by rw [Bd.returns] at h; cases h)
     subst hQQ
     have hCR : CHr Z EL s.vm s.heap T74.vm T74.heap := by rw [hh]; exact CR80.trans (CHv.at X74 hZ (own_EW hw) CR80.1)
     refine ⟨_, _, retR X74 hx Bd.returns rfl rfl (hb hby d1_86) hr, hrun, hended, _, _, rfl, ?_, hCR, own_REmono hRW (by decide) (by decide)⟩
     show Q_txt Z p0 c1 c2 c3 c4 G1 h0 n0 _ T74.heap _
     exact ⟨b61, t74, kb74, rfl, N74, kp87, S81, (Nat.le_of_eq g61.symm), (Ne.symm tn74)⟩
    case neg =>
     refine Goes.st (fun sT kT => XS.icmpYes X0.here hx rfl (pc0 := 61) (pc' := 87) rfl (hb hby d1_61) rfl (feq cz60).2 (by decide) (by decide) kT) ?_
     show Goes _ _ _ _ (s₁.setTop (mkF m 87 #[.val (.int p0), .val (.int c1), .val (.int c2), .val (.int c3), .val (.int c4)] []))
     obtain ⟨T88, h88, X88, e88, E88, A88, D88, -, st88⟩ := newO X0 hx hZ hown (hw4 hw) (hw5 hw) (hw6 hw) e0 (g := (mkF m 87 #[.val (.int p0), .val (.int c1), .val (.int c2), .val (.int c3), .val (.int c4)] [])) rfl (hb hby d1_87) (by decide) (by decide)
     obtain ⟨b88, g88⟩ : ∃ z, z = h0.size := ⟨_, rfl⟩
     rw [← g88] at A88 D88 st88
     have CR89 : CHr Z EL s.vm h0 s.vm h88 := CR0.trans (CHr.ext E88 CR0.1)
     have sf88_b88 : Safe Z EL s.vm h88 b88 := Safe.ext E88 CR0.1 (Safe.new (Nat.le_of_eq g88.symm))
     have F88_coder : Fld Z h88 b88 "java/lang/String" "coder" "B" (.int (0 : Int32)) := D88 (Or.inr (hw31 hw)) (ty := .byte) (by decide)
     have F88_value : Fld Z h88 b88 "java/lang/String" "value" "[B" .null := D88 (Or.inr (hw33 hw)) (ty := (.array .byte)) (by decide)
     refine Goes.st st88 ?_
     show Goes _ _ _ _ (T88.setTop (mkF m 90 #[.val (.int p0), .val (.int c1), .val (.int c2), .val (.int c3), .val (.int c4)] [(.ref b88)]))
     refine Goes.st (fun sT kT => XS.dup X88.here hx rfl (hb hby d1_90) rfl rfl kT) ?_
     show Goes _ _ _ _ (T88.setTop (mkF m 91 #[.val (.int p0), .val (.int c1), .val (.int c2), .val (.int c3), .val (.int c4)] [(.ref b88), (.ref b88)]))
     refine Goes.st (fun sT kT => XS.iconst X88.here hx rfl (hb hby d1_91) kT) ?_
     show Goes _ _ _ _ (T88.setTop (mkF m 92 #[.val (.int p0), .val (.int c1), .val (.int c2), .val (.int c3), .val (.int c4)] [(.int (4 : Int32)), (.ref b88), (.ref b88)]))
     obtain ⟨T90, h90, k90, X90, e90, E90, A90, st90⟩ := newP X88 hx hZ (aty := .char) (hw7 hw) e88 (g := (mkF m 92 #[.val (.int p0), .val (.int c1), .val (.int c2), .val (.int c3), .val (.int c4)] [(.int (4 : Int32)), (.ref b88), (.ref b88)])) rfl (hb hby d1_92) rfl (by decide) (cap := 4) (by decide) (by decide) (by decide) (by decide)
     obtain ⟨b90, g90⟩ : ∃ z, z = h88.size := ⟨_, rfl⟩
     rw [← g90] at A90 st90
     have CR91 : CHr Z EL s.vm h0 s.vm h90 := CR89.trans (CHr.ext E90 CR89.1)
     have sf91_b88 : Safe Z EL s.vm h90 b88 := Safe.ext E90 CR89.1 sf88_b88
     have V90 : Arv Z h90 b90 k90 .char (4 : Int32) [(.int (0 : Int32)), (.int (0 : Int32)), (.int (0 : Int32)), (.int (0 : Int32))] (.int (0 : Int32)) := (Arv.new A90 (by decide)).pad (pad_rep [] (.int (0 : Int32)) 4)
     refine Goes.st st90 ?_
     show Goes _ _ _ _ (T90.setTop (mkF m 94 #[.val (.int p0), .val (.int c1), .val (.int c2), .val (.int c3), .val (.int c4)] [(.ref b90), (.ref b88), (.ref b88)]))
     refine Goes.st (fun sT kT => XS.dup X90.here hx rfl (hb hby d1_94) rfl rfl kT) ?_
     show Goes _ _ _ _ (T90.setTop (mkF m 95 #[.val (.int p0), .val (.int c1), .val (.int c2), .val (.int c3), .val (.int c4)] [(.ref b90), (.ref b90), (.ref b88), (.ref b88)]))
     refine Goes.st (fun sT kT => XS.iconst X90.here hx rfl (hb hby d1_95) kT) ?_
     show Goes _ _ _ _ (T90.setTop (mkF m 96 #[.val (.int p0), .val (.int c1), .val (.int c2), .val (.int c3), .val (.int c4)] [(.int (0 : Int32)), (.ref b90), (.ref b90), (.ref b88), (.ref b88)]))
     refine Goes.st (fun sT kT => XS.iloadN X90.here hx rfl (hb hby d1_96) rfl kT) ?_
     show Goes _ _ _ _ (T90.setTop (mkF m 97 #[.val (.int p0), .val (.int c1), .val (.int c2), .val (.int c3), .val (.int c4)] [(.int c1), (.int (0 : Int32)), (.ref b90), (.ref b90), (.ref b88), (.ref b88)]))
     obtain ⟨oc92, oA92, oq92, oS92, oM92, oH92, oG92⟩ := id V90
     obtain ⟨T93, h93, X93, e93, W93, st93⟩ := stC X90 hx hZ e90 oA92 (j := (0 : Int32)) (inb_of oS92 ⟨by decide, by decide⟩) (g := (mkF m 97 #[.val (.int p0), .val (.int c1), .val (.int c2), .val (.int c3), .val (.int c4)] [(.int c1), (.int (0 : Int32)), (.ref b90), (.ref b90), (.ref b88), (.ref b88)])) rfl rfl (hb hby d1_97)
     rw [own_narc rg_c1] at W93
     have V93 : Arv Z h93 b90 k90 .char (4 : Int32) [(.int c1), (.int (0 : Int32)), (.int (0 : Int32)), (.int (0 : Int32))] (.int (0 : Int32)) := Arv.set oA92 oq92 oS92 oM92 oH92 oG92 (own_fitsc rg_c1) W93 0 rfl (Nat.le_of_ble_eq_true rfl)
     have N93 := Fr.snoc X93 N0 (Nat.le_trans Z0 (Nat.le_trans E88.1 (Nat.le_of_eq g90.symm)))
     have CR94 : CHr Z EL s.vm h0 s.vm h93 := CR91.trans (CHr.wr W93 (own_safeArv hZ.alike V90 (by simp)) CR91.1)
     have sf94_b88 : Safe Z EL s.vm h93 b88 := Safe.wr W93 (own_safeArv hZ.alike V90 (by simp)) CR91.1 sf91_b88
     refine Goes.st st93 ?_
     show Goes _ _ _ _ (T93.setTop (mkF m 98 #[.val (.int p0), .val (.int c1), .val (.int c2), .val (.int c3), .val (.int c4)] [(.ref b90), (.ref b88), (.ref b88)]))
     refine Goes.st (fun sT kT => XS.dup X93.here hx rfl (hb hby d1_98) rfl rfl kT) ?_
     show Goes _ _ _ _ (T93.setTop (mkF m 99 #[.val (.int p0), .val (.int c1), .val (.int c2), .val (.int c3), .val (.int c4)] [(.ref b90), (.ref b90), (.ref b88), (.ref b88)]))
     refine Goes.st (fun sT kT => XS.iconst X93.here hx rfl (hb hby d1_99) kT) ?_
     show Goes _ _ _ _ (T93.setTop (mkF m 100 #[.val (.int p0), .val (.int c1), .val (.int c2), .val (.int c3), .val (.int c4)] [(.int (1 : Int32)), (.ref b90), (.ref b90), (.ref b88), (.ref b88)]))
     refine Goes.st (fun sT kT => XS.iloadN X93.here hx rfl (hb hby d1_100) rfl kT) ?_
     show Goes _ _ _ _ (T93.setTop (mkF m 101 #[.val (.int p0), .val (.int c1), .val (.int c2), .val (.int c3), .val (.int c4)] [(.int c2), (.int (1 : Int32)), (.ref b90), (.ref b90), (.ref b88), (.ref b88)]))
     obtain ⟨oc95, oA95, oq95, oS95, oM95, oH95, oG95⟩ := id V93
     obtain ⟨T96, h96, X96, e96, W96, st96⟩ := stC X93 hx hZ e93 oA95 (j := (1 : Int32)) (inb_of oS95 ⟨by decide, by decide⟩) (g := (mkF m 101 #[.val (.int p0), .val (.int c1), .val (.int c2), .val (.int c3), .val (.int c4)] [(.int c2), (.int (1 : Int32)), (.ref b90), (.ref b90), (.ref b88), (.ref b88)])) rfl rfl (hb hby d1_101)
     rw [own_narc rg_c2] at W96
     have V96 : Arv Z h96 b90 k90 .char (4 : Int32) [(.int c1), (.int c2), (.int (0 : Int32)), (.int (0 : Int32))] (.int (0 : Int32)) := Arv.set oA95 oq95 oS95 oM95 oH95 oG95 (own_fitsc rg_c2) W96 1 rfl (Nat.le_of_ble_eq_true rfl)
     have N96 := Fr.snoc X96 N93 (Nat.le_trans Z0 (Nat.le_trans E88.1 (Nat.le_of_eq g90.symm)))
     have CR97 : CHr Z EL s.vm h0 s.vm h96 := CR94.trans (CHr.wr W96 (own_safeArv hZ.alike V93 (by simp)) CR94.1)
     have sf97_b88 : Safe Z EL s.vm h96 b88 := Safe.wr W96 (own_safeArv hZ.alike V93 (by simp)) CR94.1 sf94_b88
     refine Goes.st st96 ?_
     show Goes _ _ _ _ (T96.setTop (mkF m 102 #[.val (.int p0), .val (.int c1), .val (.int c2), .val (.int c3), .val (.int c4)] [(.ref b90), (.ref b88), (.ref b88)]))
     refine Goes.st (fun sT kT => XS.dup X96.here hx rfl (hb hby d1_102) rfl rfl kT) ?_
     show Goes _ _ _ _ (T96.setTop (mkF m 103 #[.val (.int p0), .val (.int c1), .val (.int c2), .val (.int c3), .val (.int c4)] [(.ref b90), (.ref b90), (.ref b88), (.ref b88)]))
     refine Goes.st (fun sT kT => XS.iconst X96.here hx rfl (hb hby d1_103) kT) ?_
     show Goes _ _ _ _ (T96.setTop (mkF m 104 #[.val (.int p0), .val (.int c1), .val (.int c2), .val (.int c3), .val (.int c4)] [(.int (2 : Int32)), (.ref b90), (.ref b90), (.ref b88), (.ref b88)]))
     refine Goes.st (fun sT kT => XS.iloadN X96.here hx rfl (hb hby d1_104) rfl kT) ?_
     show Goes _ _ _ _ (T96.setTop (mkF m 105 #[.val (.int p0), .val (.int c1), .val (.int c2), .val (.int c3), .val (.int c4)] [(.int c3), (.int (2 : Int32)), (.ref b90), (.ref b90), (.ref b88), (.ref b88)]))
     obtain ⟨oc98, oA98, oq98, oS98, oM98, oH98, oG98⟩ := id V96
     obtain ⟨T99, h99, X99, e99, W99, st99⟩ := stC X96 hx hZ e96 oA98 (j := (2 : Int32)) (inb_of oS98 ⟨by decide, by decide⟩) (g := (mkF m 105 #[.val (.int p0), .val (.int c1), .val (.int c2), .val (.int c3), .val (.int c4)] [(.int c3), (.int (2 : Int32)), (.ref b90), (.ref b90), (.ref b88), (.ref b88)])) rfl rfl (hb hby d1_105)
     rw [own_narc rg_c3] at W99
     have V99 : Arv Z h99 b90 k90 .char (4 : Int32) [(.int c1), (.int c2), (.int c3), (.int (0 : Int32))] (.int (0 : Int32)) := Arv.set oA98 oq98 oS98 oM98 oH98 oG98 (own_fitsc rg_c3) W99 2 rfl (Nat.le_of_ble_eq_true rfl)
     have N99 := Fr.snoc X99 N96 (Nat.le_trans Z0 (Nat.le_trans E88.1 (Nat.le_of_eq g90.symm)))
     have CR100 : CHr Z EL s.vm h0 s.vm h99 := CR97.trans (CHr.wr W99 (own_safeArv hZ.alike V96 (by simp)) CR97.1)
     have sf100_b88 : Safe Z EL s.vm h99 b88 := Safe.wr W99 (own_safeArv hZ.alike V96 (by simp)) CR97.1 sf97_b88
     refine Goes.st st99 ?_
     show Goes _ _ _ _ (T99.setTop (mkF m 106 #[.val (.int p0), .val (.int c1), .val (.int c2), .val (.int c3), .val (.int c4)] [(.ref b90), (.ref b88), (.ref b88)]))
     refine Goes.st (fun sT kT => XS.dup X99.here hx rfl (hb hby d1_106) rfl rfl kT) ?_
     show Goes _ _ _ _ (T99.setTop (mkF m 107 #[.val (.int p0), .val (.int c1), .val (.int c2), .val (.int c3), .val (.int c4)] [(.ref b90), (.ref b90), (.ref b88), (.ref b88)]))
     refine Goes.st (fun sT kT => XS.iconst X99.here hx rfl (hb hby d1_107) kT) ?_
     show Goes _ _ _ _ (T99.setTop (mkF m 108 #[.val (.int p0), .val (.int c1), .val (.int c2), .val (.int c3), .val (.int c4)] [(.int (3 : Int32)), (.ref b90), (.ref b90), (.ref b88), (.ref b88)]))
     refine Goes.st (fun sT kT => XS.iload X99.here hx rfl (hb hby d1_108) rfl kT) ?_
     show Goes _ _ _ _ (T99.setTop (mkF m 110 #[.val (.int p0), .val (.int c1), .val (.int c2), .val (.int c3), .val (.int c4)] [(.int c4), (.int (3 : Int32)), (.ref b90), (.ref b90), (.ref b88), (.ref b88)]))
     obtain ⟨oc101, oA101, oq101, oS101, oM101, oH101, oG101⟩ := id V99
     obtain ⟨T102, h102, X102, e102, W102, st102⟩ := stC X99 hx hZ e99 oA101 (j := (3 : Int32)) (inb_of oS101 ⟨by decide, by decide⟩) (g := (mkF m 110 #[.val (.int p0), .val (.int c1), .val (.int c2), .val (.int c3), .val (.int c4)] [(.int c4), (.int (3 : Int32)), (.ref b90), (.ref b90), (.ref b88), (.ref b88)])) rfl rfl (hb hby d1_110)
     rw [own_narc rg_c4] at W102
     have V102 : Arv Z h102 b90 k90 .char (4 : Int32) [(.int c1), (.int c2), (.int c3), (.int c4)] (.int (0 : Int32)) := Arv.set oA101 oq101 oS101 oM101 oH101 oG101 (own_fitsc rg_c4) W102 3 rfl (Nat.le_of_ble_eq_true rfl)
     have N102 := Fr.snoc X102 N99 (Nat.le_trans Z0 (Nat.le_trans E88.1 (Nat.le_of_eq g90.symm)))
     have CR103 : CHr Z EL s.vm h0 s.vm h102 := CR100.trans (CHr.wr W102 (own_safeArv hZ.alike V99 (by simp)) CR100.1)
     have sf103_b88 : Safe Z EL s.vm h102 b88 := Safe.wr W102 (own_safeArv hZ.alike V99 (by simp)) CR100.1 sf100_b88
     refine Goes.st st102 ?_
     show Goes _ _ _ _ (T102.setTop (mkF m 111 #[.val (.int p0), .val (.int c1), .val (.int c2), .val (.int c3), .val (.int c4)] [(.ref b90), (.ref b88), (.ref b88)]))
     have f105 : Exa Z h102 b88 "java/lang/String" := (((((A88.ext E90).wr W93).wr W96).wr W99).wr W102)
     have f106 : Fld Z h102 b88 "java/lang/String" "value" "[B" .null := (((((F88_value.ext E90).other W93 (Or.inl (Nat.ne_of_lt (Nat.lt_of_lt_of_le A88.lt (Nat.le_of_eq g90.symm))))).other W96 (Or.inl (Nat.ne_of_lt (Nat.lt_of_lt_of_le A88.lt (Nat.le_of_eq g90.symm))))).other W99 (Or.inl (Nat.ne_of_lt (Nat.lt_of_lt_of_le A88.lt (Nat.le_of_eq g90.symm))))).other W102 (Or.inl (Nat.ne_of_lt (Nat.lt_of_lt_of_le A88.lt (Nat.le_of_eq g90.symm)))))
     have f107 : Fld Z h102 b88 "java/lang/String" "coder" "B" (.int (0 : Int32)) := (((((F88_coder.ext E90).other W93 (Or.inl (Nat.ne_of_lt (Nat.lt_of_lt_of_le A88.lt (Nat.le_of_eq g90.symm))))).other W96 (Or.inl (Nat.ne_of_lt (Nat.lt_of_lt_of_le A88.lt (Nat.le_of_eq g90.symm))))).other W99 (Or.inl (Nat.ne_of_lt (Nat.lt_of_lt_of_le A88.lt (Nat.le_of_eq g90.symm))))).other W102 (Or.inl (Nat.ne_of_lt (Nat.lt_of_lt_of_le A88.lt (Nat.le_of_eq g90.symm)))))
     have f108 : Old Z n0 h102 := ((((((P0.ext E88).ext E90).wr W93 (Nat.le_trans Z0 (Nat.le_trans E88.1 (Nat.le_of_eq g90.symm)))).wr W96 (Nat.le_trans Z0 (Nat.le_trans E88.1 (Nat.le_of_eq g90.symm)))).wr W99 (Nat.le_trans Z0 (Nat.le_trans E88.1 (Nat.le_of_eq g90.symm)))).wr W102 (Nat.le_trans Z0 (Nat.le_trans E88.1 (Nat.le_of_eq g90.symm))))
     have hp109 : ∀ c ∈ ([c1, c2, c3, c4] : List Int32), ¬ c < 0 ∧ ¬ (255 : Int32) < c := (own_cS rg_c1 (own_cS rg_c2 (own_cS rg_c3 (own_cS rg_c4 own_c0))))
     obtain ⟨_, _, ⟨T104, L104, k104, n104⟩, -, X104, ⟨Lc104, hQ104, l104, y104, z104⟩, st104⟩ := X102.specialBack hx (y := (⟨"java/lang/String", "<init>", "([C)V"⟩ : MethodName)) rfl hown (mvT hZ (hw8 hw)) (mvT hZ (hw9 hw)) (mvT hZ (hw10 hw)) (by decide) (StrChars.Road.backV (W := 1) hZ (own_hws hw) (kI := 4) (hw5 hw) (cs := ([c1, c2, c3, c4] : List Int32)) (bs := ([c1, c2, c3, c4] : List Int32).map (fun c => c.toInt8.toInt32)) (n := 4) (Nat.le_trans Z0 (Nat.le_of_eq g88.symm)) (Nat.le_trans Z0 (Nat.le_trans (Nat.le_trans (Nat.le_trans (Nat.le_trans (Nat.le_trans E88.1 E90.1) (Nat.le_of_eq W93.size.symm)) (Nat.le_of_eq W96.size.symm)) (Nat.le_of_eq W99.size.symm)) (Nat.le_of_eq W102.size.symm))) f105 f106 f107 V102 (O2.ext f108.2) P5 rfl rfl (by decide) (by decide) hp109 rfl (by decide) (by decide)) (g := (mkF m 111 #[.val (.int p0), .val (.int c1), .val (.int c2), .val (.int c3), .val (.int c4)] [(.ref b90), (.ref b88), (.ref b88)])) rfl (by rw [hml]; rfl) (Steps.refl _) (a := b88) (argsL := [(.ref b90)]) (rest := [(.ref b88)]) (lenOf pd_9 rfl) rfl (by show 2 * 0 + _ ≤ _; exact Nat.le_of_eq rfl) (hb hby d1_111) (fun _ _ => ⟨rfl, e102, (by decide : 2 + 1 ≤ _), (by decide : 8 + 4 ≤ _)⟩)
     dsimp only [Pt.U, Pt.locs, Pt.cells, Pt.slots] at X104 l104 y104 z104 st104 hQ104
     subst l104 y104 z104
     obtain ⟨rfl, N104q, K104, Ex104, Cd104, t104, kb104, lz104, lo104, tn104, Vf104, Av104⟩ := hQ104
     have N104 := Fr.app N102 N104q
     have S104 : Str Z T104.heap b88 t104 kb104 [c1, c2, c3, c4] := ⟨Ex104, Vf104, Cd104, Av104, hp109, Nat.le_of_ble_eq_true rfl⟩
     have hs110 : ∀ x ∈ ([b88] : List Addr), Safe Z EL s.vm h102 x := (allS sf103_b88 all0)
     have CR110 : CHr Z EL s.vm h0 s.vm T104.heap := CR103.trans (CHr.keep K104 hs110 CR103.1)
     have sf110_b88 : Safe Z EL s.vm T104.heap b88 := Safe.keep K104 hs110 CR103.1 sf103_b88
     refine Goes.tr st104 ?_
     show Goes _ _ _ _ (T104.setTop (mkF m 114 #[.val (.int p0), .val (.int c1), .val (.int c2), .val (.int c3), .val (.int c4)] [(.ref b88)]))
     have S111 : Str Z T104.heap b88 t104 kb104 (own_tx p0 c1 c2 c3 c4) := by rw [own_tx, if_neg cz1, if_neg cz16, if_neg cz36, if_neg cz60]; exact S104
     have kp112 : Keep h0 h88 [] := (Keep.refl h0 []).ext E88
     have kp113 : Keep h0 h90 [] := kp112.ext E90
     have kp114 : Keep h0 h93 [] := kp113.wr W93 (Or.inr (Nat.le_trans E88.1 (Nat.le_of_eq g90.symm)))
     have kp115 : Keep h0 h96 [] := kp114.wr W96 (Or.inr (Nat.le_trans E88.1 (Nat.le_of_eq g90.symm)))
     have kp116 : Keep h0 h99 [] := kp115.wr W99 (Or.inr (Nat.le_trans E88.1 (Nat.le_of_eq g90.symm)))
     have kp117 : Keep h0 h102 [] := kp116.wr W102 (Or.inr (Nat.le_trans E88.1 (Nat.le_of_eq g90.symm)))
     have kp118 : Keep h0 T104.heap [] := kp117.trans K104 (allS (Or.inr (Nat.le_of_eq g88.symm)) all0)
     obtain ⟨fs, hr, hrun, hended, hRW⟩ := X104.leaveW hS0 (Nat.le_trans (Nat.le_trans (Nat.le_trans (Nat.le_trans (Nat.le_trans (Nat.le_trans (Nat.le_trans hk0 E88.1) E90.1) (Nat.le_of_eq W93.size.symm)) (Nat.le_of_eq W96.size.symm)) (Nat.le_of_eq W99.size.symm)) (Nat.le_of_eq W102.size.symm)) K104.1) (v := some (.ref b88)) (fun h => by rw [Bd.returns] at h; cases h)
     subst hQQ
     have hCR : CHr Z EL s.vm s.heap T104.vm T104.heap := by rw [hh]; exact CR110.trans (CHv.at X104 hZ (own_EW hw) CR110.1)
     refine ⟨_, _, retR X104 hx Bd.returns rfl rfl (hb hby d1_114) hr, hrun, hended, _, _, rfl, ?_, hCR, own_REmono hRW (by decide) (by decide)⟩
     show Q_txt Z p0 c1 c2 c3 c4 G1 h0 n0 _ T104.heap _
     exact ⟨b88, t104, kb104, rfl, N104, kp118, S111, (Nat.le_of_eq g88.symm), (Ne.symm tn104)⟩
theorem ef_oin (m : MethodId) (a : Addr) (b : Addr) (fa : Addr) : entryFrame m #[(.ref a), (.ref b), (.ref fa)] 3 = (mkF m 0 #[.val (.ref a), .val (.ref b), .val (.ref fa)] []) := by first | (simp [entryFrame, mkF, argsToLocals, Value.category]; done) | rfl
def Q_oin (Z : State) (a : Addr) (b : Addr) (fa : Addr) (h0 : Heap) (n0 : Nat) (v : Option Value) (h : Heap) (L : List Loc) : Prop := v = none ∧ Fr n0 L ∧ Keep h0 h [a] ∧ Exa Z h a "com/example/indexwerk/indexwerk/engine/TargetLimits$Origin" ∧ Fld Z h a "com/example/indexwerk/indexwerk/engine/TargetLimits$Origin" "file" "Ljava/lang/String;" (.ref b) ∧ Fld Z h a "com/example/indexwerk/indexwerk/engine/TargetLimits$Origin" "line" "Ljava/util/function/Function;" (.ref fa)
set_option maxRecDepth 65536 in
set_option maxHeartbeats 40000000 in
theorem rm_oin (l : Launch) (Z : State) (a0 : Array Value) (hw : ∀ d ∈ tables_1, d.before a0 Z = true) (ws : List Jvm.Cond) (a : Addr) (b : Addr) (fa : Addr) (h0 : Heap) (n0 : Nat) (Z0 : n0 ≤ h0.size) (P0 : Exa Z h0 a "com/example/indexwerk/indexwerk/engine/TargetLimits$Origin") (P1 : Fld Z h0 a "com/example/indexwerk/indexwerk/engine/TargetLimits$Origin" "file" "Ljava/lang/String;" .null) (P2 : Fld Z h0 a "com/example/indexwerk/indexwerk/engine/TargetLimits$Origin" "line" "Ljava/util/function/Function;" .null) (g_a : n0 ≤ a) :
    MetFree l (⟨"com/example/indexwerk/indexwerk/engine/TargetLimits$Origin", "<init>", "(Ljava/lang/String;Ljava/util/function/Function;)V"⟩ : MethodName) (head1 (Jvm.Cond.code (⟨"com/example/indexwerk/indexwerk/engine/TargetLimits$Origin", "<init>", "(Ljava/lang/String;Ljava/util/function/Function;)V"⟩ : MethodName) prog_22_method_1_code 3 none :: ws) ({ frames := 2, cells := 0, slots := 0, locals := 24 } : Room)) (fun aR U => aR = #[(.ref a), (.ref b), (.ref fa)] ∧ Z.Warmed39 U.vm ∧ U.heap = h0) (fun _ _ _ _ _ => True) (fun _ U o U' => ∃ v L, o = .returned v ∧ Q_oin Z a b fa h0 n0 v U'.heap L ∧ FrameEnd U o U' L ({ frames := 2, cells := 0, slots := 0, locals := 24 } : Room).cells ({ frames := 2, cells := 0, slots := 0, locals := 24 } : Room).slots) := by
 refine MetFree.of_bodySF (plainFor_of_name pn_8) hisR ?_
 intro p e s m args below meth c s₁ Bd hml0 hP hK
 obtain ⟨rfl, hZ, hh⟩ := hP
 have hx := Bd.exec
 have hby := Bd.bytes
 have hml : c.maxLocals = 3 := hml0
 have hown : s.vm.findClass "com/example/indexwerk/indexwerk/engine/TargetLimits$Origin" = some m.cls := findClass_of_methodNamed Bd.named
 have hnm := (name_of_methodNamed Bd.named Bd.method).1
 have X0 : Stand p l e ({ frames := 2, cells := 0, slots := 0, locals := 24 } : Room) s m #[(.ref a), (.ref b), (.ref fa)] below meth c s₁ [] 0 0 := Stand.of_body Bd
 have e0 : s₁.heap = h0 := by rw [← hh, Bd.state]; rfl
 have N0 := Fr.nil n0
 show Goes p.tables e below _ _
 rw [ef_oin m a b fa]
 refine Goes.named ?_
 intro QQ hQQ
 refine Goes.st (fun sT kT => XS.aloadN X0.here hx rfl (hb hby d16_0) rfl rfl kT) ?_
 show Goes _ _ _ _ (s₁.setTop (mkF m 1 #[.val (.ref a), .val (.ref b), .val (.ref fa)] [(.ref a)]))
 obtain ⟨_, _, ⟨T1, L1, k1, n1⟩, -, X1, ⟨Lc1, hQ1, l1, y1, z1⟩, st1⟩ := X0.specialBack hx (y := (⟨"java/lang/Record", "<init>", "()V"⟩ : MethodName)) rfl hown (mvT hZ (hw84 hw)) (mvT hZ (hw85 hw)) (mvT hZ (hw88 hw)) (by decide) (backOf (W := 0) (rm_rec l Z a0 hw [] a h0 n0 Z0 ) hZ (hw88 hw) (hw87 hw) (by decide) (by decide)) (g := (mkF m 1 #[.val (.ref a), .val (.ref b), .val (.ref fa)] [(.ref a)])) rfl (by rw [hml]; rfl) (Steps.refl _) (a := a) (argsL := []) (rest := []) (lenOf pd_4 rfl) rfl (by show 2 * 0 + _ ≤ _; exact Nat.le_of_eq rfl) (hb hby d16_1) (fun _ _ => ⟨rfl, e0, (by decide : 0 + 0 ≤ _), (by decide : 0 + 0 ≤ _)⟩)
 dsimp only [Pt.U, Pt.locs, Pt.cells, Pt.slots] at X1 l1 y1 z1 st1 hQ1
 subst l1 y1 z1
 obtain ⟨rfl, N1q, K1⟩ := hQ1
 have N1 := Fr.app N0 N1q
 refine Goes.tr st1 ?_
 show Goes _ _ _ _ (T1.setTop (mkF m 4 #[.val (.ref a), .val (.ref b), .val (.ref fa)] []))
 refine Goes.st (fun sT kT => XS.aloadN X1.here hx rfl (hb hby d16_4) rfl rfl kT) ?_
 show Goes _ _ _ _ (T1.setTop (mkF m 5 #[.val (.ref a), .val (.ref b), .val (.ref fa)] [(.ref a)]))
 refine Goes.st (fun sT kT => XS.aloadN X1.here hx rfl (hb hby d16_5) rfl rfl kT) ?_
 show Goes _ _ _ _ (T1.setTop (mkF m 6 #[.val (.ref a), .val (.ref b), .val (.ref fa)] [(.ref b), (.ref a)]))
 obtain ⟨T2, h2, X2, e2, W2, st2⟩ := putF X1 hx hZ hown (host := "") (Or.inl (hw90 hw)) Via.refl K1 P1 P0 (Or.inr ⟨(hw91 hw), rfl, hnm⟩) (hw77 hw) (ty := (.object "java/lang/String")) (by decide) rfl rfl (g := (mkF m 6 #[.val (.ref a), .val (.ref b), .val (.ref fa)] [(.ref b), (.ref a)])) rfl rfl (hb hby d16_6)
 have N2 := Fr.snoc X2 N1 g_a
 have F2 := P1.same W2
 refine Goes.st st2 ?_
 show Goes _ _ _ _ (T2.setTop (mkF m 9 #[.val (.ref a), .val (.ref b), .val (.ref fa)] []))
 refine Goes.st (fun sT kT => XS.aloadN X2.here hx rfl (hb hby d16_9) rfl rfl kT) ?_
 show Goes _ _ _ _ (T2.setTop (mkF m 10 #[.val (.ref a), .val (.ref b), .val (.ref fa)] [(.ref a)]))
 refine Goes.st (fun sT kT => XS.aloadN X2.here hx rfl (hb hby d16_10) rfl rfl kT) ?_
 show Goes _ _ _ _ (T2.setTop (mkF m 11 #[.val (.ref a), .val (.ref b), .val (.ref fa)] [(.ref fa), (.ref a)]))
 have f3 : Exa Z h2 a "com/example/indexwerk/indexwerk/engine/TargetLimits$Origin" := (P0.wr W2)
 have f4 : Fld Z h2 a "com/example/indexwerk/indexwerk/engine/TargetLimits$Origin" "line" "Ljava/util/function/Function;" .null := (P2.other W2 (Or.inr (slot_ne (Or.inr (hw93 hw)) (Or.inr (hw91 hw)) (by decide) (t := (.object "java/util/function/Function")) (t' := (.object "java/lang/String")) (by decide) (by decide))))
 obtain ⟨T5, h5, X5, e5, W5, st5⟩ := putF X2 hx hZ hown (host := "") (Or.inl (hw92 hw)) Via.refl e2 f4 f3 (Or.inr ⟨(hw93 hw), rfl, hnm⟩) (hw77 hw) (ty := (.object "java/util/function/Function")) (by decide) rfl rfl (g := (mkF m 11 #[.val (.ref a), .val (.ref b), .val (.ref fa)] [(.ref fa), (.ref a)])) rfl rfl (hb hby d16_11)
 have N5 := Fr.snoc X5 N2 g_a
 have F5 := f4.same W5
 refine Goes.st st5 ?_
 show Goes _ _ _ _ (T5.setTop (mkF m 14 #[.val (.ref a), .val (.ref b), .val (.ref fa)] []))
 have kp6 : Keep h0 h2 [a] := (Keep.refl h0 [a]).wr W2 (Or.inl (List.mem_of_getElem? (i := 0) rfl))
 have kp7 : Keep h0 h5 [a] := kp6.wr W5 (Or.inl (List.mem_of_getElem? (i := 0) rfl))
 have f8 : Exa Z h5 a "com/example/indexwerk/indexwerk/engine/TargetLimits$Origin" := (f3.wr W5)
 have f9 : Fld Z h5 a "com/example/indexwerk/indexwerk/engine/TargetLimits$Origin" "file" "Ljava/lang/String;" (.ref b) := (F2.other W5 (Or.inr (slot_ne (Or.inr (hw91 hw)) (Or.inr (hw93 hw)) (by decide) (t := (.object "java/lang/String")) (t' := (.object "java/util/function/Function")) (by decide) (by decide))))
 obtain ⟨fs, hr, hrun, hended, hW, hsame⟩ := X5.leave (v := none) (fun _ => rfl)
 subst hQQ
 refine ⟨_, _, X5.returnOut hx Bd.returns (hb hby d16_14) hr, hrun, hended, _, _, rfl, ?_, ⟨_, rfl⟩, hW, hsame.mono (by decide) (by decide)⟩
 show Q_oin Z a b fa h0 n0 _ T5.heap _
 rw [e5]
 exact ⟨rfl, N5, kp7, f8, f9, F5⟩
theorem ef_gline (m : MethodId) (a : Addr) (fr : Addr) : entryFrame m #[(.ref a)] 1 = (mkF m 0 #[.val (.ref a)] []) := by first | (simp [entryFrame, mkF, argsToLocals, Value.category]; done) | rfl
def Q_gline (Z : State) (a : Addr) (fr : Addr) (h0 : Heap) (n0 : Nat) (v : Option Value) (h : Heap) (L : List Loc) : Prop := v = some (.ref fr) ∧ Fr n0 L ∧ h = h0
set_option maxRecDepth 65536 in
set_option maxHeartbeats 40000000 in
theorem rm_gline (l : Launch) (Z : State) (a0 : Array Value) (hw : ∀ d ∈ tables_1, d.before a0 Z = true) (ws : List Jvm.Cond) (a : Addr) (fr : Addr) (h0 : Heap) (n0 : Nat) (Z0 : n0 ≤ h0.size) (P0 : Fld Z h0 a "com/example/indexwerk/indexwerk/engine/TargetLimits$Origin" "line" "Ljava/util/function/Function;" (.ref fr)) :
    MetFree l (⟨"com/example/indexwerk/indexwerk/engine/TargetLimits$Origin", "line", "()Ljava/util/function/Function;"⟩ : MethodName) (head1 (Jvm.Cond.code (⟨"com/example/indexwerk/indexwerk/engine/TargetLimits$Origin", "line", "()Ljava/util/function/Function;"⟩ : MethodName) prog_22_method_7_code 1 (some (.object "java/util/function/Function")) :: ws) ({ frames := 0, cells := 0, slots := 0, locals := 0 } : Room)) (fun aR U => aR = #[(.ref a)] ∧ Z.Warmed39 U.vm ∧ U.heap = h0) (fun _ _ _ _ _ => True) (fun _ U o U' => ∃ v L, o = .returned v ∧ Q_gline Z a fr h0 n0 v U'.heap L ∧ FrameEnd U o U' L ({ frames := 0, cells := 0, slots := 0, locals := 0 } : Room).cells ({ frames := 0, cells := 0, slots := 0, locals := 0 } : Room).slots) := by
 refine MetFree.of_bodySF (plainFor_of_name pn_8) hisR ?_
 intro p e s m args below meth c s₁ Bd hml0 hP hK
 obtain ⟨rfl, hZ, hh⟩ := hP
 have hx := Bd.exec
 have hby := Bd.bytes
 have hml : c.maxLocals = 1 := hml0
 have hown : s.vm.findClass "com/example/indexwerk/indexwerk/engine/TargetLimits$Origin" = some m.cls := findClass_of_methodNamed Bd.named
 have hnm := (name_of_methodNamed Bd.named Bd.method).1
 have X0 : Stand p l e ({ frames := 0, cells := 0, slots := 0, locals := 0 } : Room) s m #[(.ref a)] below meth c s₁ [] 0 0 := Stand.of_body Bd
 have e0 : s₁.heap = h0 := by rw [← hh, Bd.state]; rfl
 have N0 := Fr.nil n0
 show Goes p.tables e below _ _
 rw [ef_gline m a fr]
 refine Goes.named ?_
 intro QQ hQQ
 refine Goes.st (fun sT kT => XS.aloadN X0.here hx rfl (hb hby d18_0) rfl rfl kT) ?_
 show Goes _ _ _ _ (s₁.setTop (mkF m 1 #[.val (.ref a)] [(.ref a)]))
 obtain ⟨T1, X1, e1, st1⟩ := getF X0 hx hZ hown (host := "") (Or.inl (hw92 hw)) Via.refl e0 P0 (g := (mkF m 1 #[.val (.ref a)] [(.ref a)])) rfl rfl (hb hby d18_1)
 refine Goes.st st1 ?_
 show Goes _ _ _ _ (T1.setTop (mkF m 4 #[.val (.ref a)] [(.ref fr)]))
 obtain ⟨fs, hr, hrun, hended, hW, hsame⟩ := X1.leave (v := some (.ref fr)) (fun h => by rw [Bd.returns] at h; cases h)
 subst hQQ
 refine ⟨_, _, retR X1 hx Bd.returns rfl rfl (hb hby d18_4) hr, hrun, hended, _, _, rfl, ?_, ⟨_, rfl⟩, hW, hsame.mono (by decide) (by decide)⟩
 show Q_gline Z a fr h0 n0 _ T1.heap _
 rw [e1]
 exact ⟨rfl, N0, rfl⟩
theorem ef_gfile (m : MethodId) (a : Addr) (fr : Addr) : entryFrame m #[(.ref a)] 1 = (mkF m 0 #[.val (.ref a)] []) := by first | (simp [entryFrame, mkF, argsToLocals, Value.category]; done) | rfl
def Q_gfile (Z : State) (a : Addr) (fr : Addr) (h0 : Heap) (n0 : Nat) (v : Option Value) (h : Heap) (L : List Loc) : Prop := v = some (.ref fr) ∧ Fr n0 L ∧ h = h0
set_option maxRecDepth 65536 in
set_option maxHeartbeats 40000000 in
theorem rm_gfile (l : Launch) (Z : State) (a0 : Array Value) (hw : ∀ d ∈ tables_1, d.before a0 Z = true) (ws : List Jvm.Cond) (a : Addr) (fr : Addr) (h0 : Heap) (n0 : Nat) (Z0 : n0 ≤ h0.size) (P0 : Fld Z h0 a "com/example/indexwerk/indexwerk/engine/TargetLimits$Origin" "file" "Ljava/lang/String;" (.ref fr)) :
    MetFree l (⟨"com/example/indexwerk/indexwerk/engine/TargetLimits$Origin", "file", "()Ljava/lang/String;"⟩ : MethodName) (head1 (Jvm.Cond.code (⟨"com/example/indexwerk/indexwerk/engine/TargetLimits$Origin", "file", "()Ljava/lang/String;"⟩ : MethodName) prog_22_method_6_code 1 (some (.object "java/lang/String")) :: ws) ({ frames := 0, cells := 0, slots := 0, locals := 0 } : Room)) (fun aR U => aR = #[(.ref a)] ∧ Z.Warmed39 U.vm ∧ U.heap = h0) (fun _ _ _ _ _ => True) (fun _ U o U' => ∃ v L, o = .returned v ∧ Q_gfile Z a fr h0 n0 v U'.heap L ∧ FrameEnd U o U' L ({ frames := 0, cells := 0, slots := 0, locals := 0 } : Room).cells ({ frames := 0, cells := 0, slots := 0, locals := 0 } : Room).slots) := by
 refine MetFree.of_bodySF (plainFor_of_name pn_8) hisR ?_
 intro p e s m args below meth c s₁ Bd hml0 hP hK
 obtain ⟨rfl, hZ, hh⟩ := hP
 have hx := Bd.exec
 have hby := Bd.bytes
 have hml : c.maxLocals = 1 := hml0
 have hown : s.vm.findClass "com/example/indexwerk/indexwerk/engine/TargetLimits$Origin" = some m.cls := findClass_of_methodNamed Bd.named
 have hnm := (name_of_methodNamed Bd.named Bd.method).1
 have X0 : Stand p l e ({ frames := 0, cells := 0, slots := 0, locals := 0 } : Room) s m #[(.ref a)] below meth c s₁ [] 0 0 := Stand.of_body Bd
 have e0 : s₁.heap = h0 := by rw [← hh, Bd.state]; rfl
 have N0 := Fr.nil n0
 show Goes p.tables e below _ _
 rw [ef_gfile m a fr]
 refine Goes.named ?_
 intro QQ hQQ
 refine Goes.st (fun sT kT => XS.aloadN X0.here hx rfl (hb hby d21_0) rfl rfl kT) ?_
 show Goes _ _ _ _ (s₁.setTop (mkF m 1 #[.val (.ref a)] [(.ref a)]))
 obtain ⟨T1, X1, e1, st1⟩ := getF X0 hx hZ hown (host := "") (Or.inl (hw90 hw)) Via.refl e0 P0 (g := (mkF m 1 #[.val (.ref a)] [(.ref a)])) rfl rfl (hb hby d21_1)
 refine Goes.st st1 ?_
 show Goes _ _ _ _ (T1.setTop (mkF m 4 #[.val (.ref a)] [(.ref fr)]))
 obtain ⟨fs, hr, hrun, hended, hW, hsame⟩ := X1.leave (v := some (.ref fr)) (fun h => by rw [Bd.returns] at h; cases h)
 subst hQQ
 refine ⟨_, _, retR X1 hx Bd.returns rfl rfl (hb hby d21_4) hr, hrun, hended, _, _, rfl, ?_, ⟨_, rfl⟩, hW, hsame.mono (by decide) (by decide)⟩
 show Q_gfile Z a fr h0 n0 _ T1.heap _
 rw [e1]
 exact ⟨rfl, N0, rfl⟩
theorem ef_ispr (m : MethodId) (a : Addr) (fz : Int32) : entryFrame m #[(.ref a)] 1 = (mkF m 0 #[.val (.ref a)] []) := by first | (simp [entryFrame, mkF, argsToLocals, Value.category]; done) | rfl
def Q_ispr (Z : State) (a : Addr) (fz : Int32) (h0 : Heap) (n0 : Nat) (v : Option Value) (h : Heap) (L : List Loc) : Prop := v = some (.int fz) ∧ Fr n0 L ∧ h = h0
set_option maxRecDepth 65536 in
set_option maxHeartbeats 40000000 in
theorem rm_ispr (l : Launch) (Z : State) (a0 : Array Value) (hw : ∀ d ∈ tables_1, d.before a0 Z = true) (ws : List Jvm.Cond) (a : Addr) (fz : Int32) (h0 : Heap) (n0 : Nat) (Z0 : n0 ≤ h0.size) (P0 : Fld Z h0 a "java/util/OptionalInt" "isPresent" "Z" (.int fz)) (hz_fz : fz = 0 ∨ fz = 1) :
    MetFree l (⟨"java/util/OptionalInt", "isPresent", "()Z"⟩ : MethodName) (head1 (Jvm.Cond.code (⟨"java/util/OptionalInt", "isPresent", "()Z"⟩ : MethodName) jdk_2649_method_6_code 1 (some .boolean) :: ws) ({ frames := 0, cells := 0, slots := 0, locals := 0 } : Room)) (fun aR U => aR = #[(.ref a)] ∧ Z.Warmed39 U.vm ∧ U.heap = h0) (fun _ _ _ _ _ => True) (fun _ U o U' => ∃ v L, o = .returned v ∧ Q_ispr Z a fz h0 n0 v U'.heap L ∧ FrameEnd U o U' L ({ frames := 0, cells := 0, slots := 0, locals := 0 } : Room).cells ({ frames := 0, cells := 0, slots := 0, locals := 0 } : Room).slots) := by
 refine MetFree.of_bodySF (plainFor_of_name pn_9) hisR ?_
 intro p e s m args below meth c s₁ Bd hml0 hP hK
 obtain ⟨rfl, hZ, hh⟩ := hP
 have hx := Bd.exec
 have hby := Bd.bytes
 have hml : c.maxLocals = 1 := hml0
 have hown : s.vm.findClass "java/util/OptionalInt" = some m.cls := findClass_of_methodNamed Bd.named
 have hnm := (name_of_methodNamed Bd.named Bd.method).1
 have X0 : Stand p l e ({ frames := 0, cells := 0, slots := 0, locals := 0 } : Room) s m #[(.ref a)] below meth c s₁ [] 0 0 := Stand.of_body Bd
 have e0 : s₁.heap = h0 := by rw [← hh, Bd.state]; rfl
 have N0 := Fr.nil n0
 show Goes p.tables e below _ _
 rw [ef_ispr m a fz]
 refine Goes.named ?_
 intro QQ hQQ
 refine Goes.st (fun sT kT => XS.aloadN X0.here hx rfl (hb hby d24_0) rfl rfl kT) ?_
 show Goes _ _ _ _ (s₁.setTop (mkF m 1 #[.val (.ref a)] [(.ref a)]))
 obtain ⟨T1, X1, e1, st1⟩ := getF X0 hx hZ hown (host := "") (Or.inl (hw130 hw)) Via.refl e0 P0 (g := (mkF m 1 #[.val (.ref a)] [(.ref a)])) rfl rfl (hb hby d24_1)
 refine Goes.st st1 ?_
 show Goes _ _ _ _ (T1.setTop (mkF m 4 #[.val (.ref a)] [(.int fz)]))
 obtain ⟨fs, hr, hrun, hended, hW, hsame⟩ := X1.leave (v := some (.int (nar .boolean fz))) (fun h => by rw [Bd.returns] at h; cases h)
 subst hQQ
 refine ⟨_, _, retN X1 hx (t := .boolean) Bd.returns (by simp) (hb hby d24_4) hr, hrun, hended, _, _, rfl, ?_, ⟨_, rfl⟩, hW, hsame.mono (by decide) (by decide)⟩
 show Q_ispr Z a fz h0 n0 _ T1.heap _
 rw [e1]
 exact ⟨(by rw [own_narZ hz_fz]), N0, rfl⟩
theorem ef_orig (m : MethodId) (b : Addr) (aL : Addr) (cK : ClassId) : entryFrame m #[(.ref b)] 1 = (mkF m 0 #[.val (.ref b)] []) := by first | (simp [entryFrame, mkF, argsToLocals, Value.category]; done) | rfl
def Q_orig (Z : State) (b : Addr) (aL : Addr) (cK : ClassId) (h0 : Heap) (n0 : Nat) (v : Option Value) (h : Heap) (L : List Loc) : Prop := ∃ (r : Addr), v = some (.ref r) ∧ Fr n0 L ∧ Keep h0 h [] ∧ Exa Z h r "com/example/indexwerk/indexwerk/engine/TargetLimits$Origin" ∧ Fld Z h r "com/example/indexwerk/indexwerk/engine/TargetLimits$Origin" "file" "Ljava/lang/String;" (.ref b) ∧ Fld Z h r "com/example/indexwerk/indexwerk/engine/TargetLimits$Origin" "line" "Ljava/util/function/Function;" (.ref aL) ∧ h0.size ≤ r
set_option maxRecDepth 65536 in
set_option maxHeartbeats 40000000 in
theorem rm_orig (l : Launch) (Z : State) (a0 : Array Value) (hw : ∀ d ∈ tables_1, d.before a0 Z = true) (ws : List Jvm.Cond) (b : Addr) (aL : Addr) (cK : ClassId) (h0 : Heap) (n0 : Nat) (Z0 : n0 ≤ h0.size) (LM : own_Lam Z aL cK) :
    MetFree l (⟨"com/example/indexwerk/indexwerk/engine/TargetLimits$Origin", "of", "(Ljava/lang/String;)Lcom/example/indexwerk/indexwerk/engine/TargetLimits$Origin;"⟩ : MethodName) (head1 (Jvm.Cond.code (⟨"com/example/indexwerk/indexwerk/engine/TargetLimits$Origin", "of", "(Ljava/lang/String;)Lcom/example/indexwerk/indexwerk/engine/TargetLimits$Origin;"⟩ : MethodName) prog_22_method_2_code 1 (some (.object "com/example/indexwerk/indexwerk/engine/TargetLimits$Origin")) :: ws) ({ frames := 3, cells := 1, slots := 2, locals := 3075 } : Room)) (fun aR U => aR = #[(.ref b)] ∧ Z.Warmed39 U.vm ∧ U.heap = h0) (fun _ _ _ _ _ => True) (fun _ U o U' => ∃ v L, o = .returned v ∧ Q_orig Z b aL cK h0 n0 v U'.heap L ∧ FrameEnd U o U' L ({ frames := 3, cells := 1, slots := 2, locals := 3075 } : Room).cells ({ frames := 3, cells := 1, slots := 2, locals := 3075 } : Room).slots) := by
 refine MetFree.of_bodySF (plainFor_of_name pn_8) hisR ?_
 intro p e s m args below meth c s₁ Bd hml0 hP hK
 obtain ⟨rfl, hZ, hh⟩ := hP
 have hx := Bd.exec
 have hby := Bd.bytes
 have hml : c.maxLocals = 1 := hml0
 have hown : s.vm.findClass "com/example/indexwerk/indexwerk/engine/TargetLimits$Origin" = some m.cls := findClass_of_methodNamed Bd.named
 have hnm := (name_of_methodNamed Bd.named Bd.method).1
 have X0 : Stand p l e ({ frames := 3, cells := 1, slots := 2, locals := 3075 } : Room) s m #[(.ref b)] below meth c s₁ [] 0 0 := Stand.of_body Bd
 have e0 : s₁.heap = h0 := by rw [← hh, Bd.state]; rfl
 have N0 := Fr.nil n0
 show Goes p.tables e below _ _
 rw [ef_orig m b aL cK]
 refine Goes.named ?_
 intro QQ hQQ
 obtain ⟨T1, h1, X1, e1, E1, A1, D1, -, st1⟩ := newO X0 hx hZ hown (hw76 hw) (hw77 hw) (hw74 hw) e0 (g := (mkF m 0 #[.val (.ref b)] [])) rfl (hb hby d15_0) (by decide) (by decide)
 obtain ⟨b1, g1⟩ : ∃ z, z = h0.size := ⟨_, rfl⟩
 rw [← g1] at A1 D1 st1
 have F1_file : Fld Z h1 b1 "com/example/indexwerk/indexwerk/engine/TargetLimits$Origin" "file" "Ljava/lang/String;" .null := D1 (Or.inr (hw91 hw)) (ty := (.object "java/lang/String")) (by decide)
 have F1_line : Fld Z h1 b1 "com/example/indexwerk/indexwerk/engine/TargetLimits$Origin" "line" "Ljava/util/function/Function;" .null := D1 (Or.inr (hw93 hw)) (ty := (.object "java/util/function/Function")) (by decide)
 refine Goes.st st1 ?_
 show Goes _ _ _ _ (T1.setTop (mkF m 3 #[.val (.ref b)] [(.ref b1)]))
 refine Goes.st (fun sT kT => XS.dup X1.here hx rfl (hb hby d15_3) rfl rfl kT) ?_
 show Goes _ _ _ _ (T1.setTop (mkF m 4 #[.val (.ref b)] [(.ref b1), (.ref b1)]))
 refine Goes.st (fun sT kT => XS.aloadN X1.here hx rfl (hb hby d15_4) rfl rfl kT) ?_
 show Goes _ _ _ _ (T1.setTop (mkF m 5 #[.val (.ref b)] [(.ref b), (.ref b1), (.ref b1)]))
 refine Goes.st (fun sT kT => own_indy (g := (mkF m 5 #[.val (.ref b)] [(.ref b), (.ref b1), (.ref b1)])) X1 hx hZ Bd.named LM.1 rfl rfl (by rw [hml]; rfl) (hb hby d15_5) (by show 2 * 0 + 3 + 3072 ≤ 3075; decide) kT) ?_
 show Goes _ _ _ _ (T1.setTop (mkF m 10 #[.val (.ref b)] [(.ref aL), (.ref b), (.ref b1), (.ref b1)]))
 obtain ⟨_, _, ⟨T2, L2, k2, n2⟩, -, X2, ⟨Lc2, hQ2, l2, y2, z2⟩, st2⟩ := X1.specialBack hx (y := (⟨"com/example/indexwerk/indexwerk/engine/TargetLimits$Origin", "<init>", "(Ljava/lang/String;Ljava/util/function/Function;)V"⟩ : MethodName)) rfl hown (mvT hZ (hw81 hw)) (mvT hZ (hw82 hw)) (mvT hZ (hw83 hw)) (by decide) (backOf (W := 1) (rm_oin l Z a0 hw [] b1 b aL h1 n0 (Nat.le_trans Z0 E1.1) A1 F1_file F1_line (Nat.le_trans Z0 (Nat.le_of_eq g1.symm))) hZ (hw83 hw) (hw74 hw) (by decide) (by decide)) (g := (mkF m 10 #[.val (.ref b)] [(.ref aL), (.ref b), (.ref b1), (.ref b1)])) rfl (by rw [hml]; rfl) (Steps.refl _) (a := b1) (argsL := [(.ref b), (.ref aL)]) (rest := [(.ref b1)]) (lenOf pd_10 rfl) rfl (by show 2 * 0 + _ ≤ _; exact Nat.le_of_eq rfl) (hb hby d15_10) (fun _ _ => ⟨rfl, e1, (by decide : 1 + 0 ≤ _), (by decide : 2 + 0 ≤ _)⟩)
 dsimp only [Pt.U, Pt.locs, Pt.cells, Pt.slots] at X2 l2 y2 z2 st2 hQ2
 subst l2 y2 z2
 obtain ⟨rfl, N2q, K2, F2_0, F2_1, F2_2⟩ := hQ2
 have N2 := Fr.app N0 N2q
 refine Goes.tr st2 ?_
 show Goes _ _ _ _ (T2.setTop (mkF m 13 #[.val (.ref b)] [(.ref b1)]))
 have kp3 : Keep h0 h1 [] := (Keep.refl h0 []).ext E1
 have kp4 : Keep h0 T2.heap [] := kp3.trans K2 (allS (Or.inr (Nat.le_of_eq g1.symm)) all0)
 obtain ⟨fs, hr, hrun, hended, hW, hsame⟩ := X2.leave (v := some (.ref b1)) (fun h => by rw [Bd.returns] at h; cases h)
 subst hQQ
 refine ⟨_, _, retR X2 hx Bd.returns rfl rfl (hb hby d15_13) hr, hrun, hended, _, _, rfl, ?_, ⟨_, rfl⟩, hW, hsame.mono (by decide) (by decide)⟩
 show Q_orig Z b aL cK h0 n0 _ T2.heap _
 exact ⟨b1, rfl, N2, kp4, F2_0, F2_1, F2_2, (Nat.le_of_eq g1.symm)⟩
theorem ef_oemp (m : MethodId) (eO : Addr) : entryFrame m #[] 0 = (mkF m 0 #[] []) := by first | (simp [entryFrame, mkF, argsToLocals, Value.category]; done) | rfl
def Q_oemp (Z : State) (eO : Addr) (h0 : Heap) (n0 : Nat) (v : Option Value) (h : Heap) (L : List Loc) : Prop := v = some (.ref eO) ∧ Fr n0 L ∧ h = h0
set_option maxRecDepth 65536 in
set_option maxHeartbeats 40000000 in
theorem rm_oemp (l : Launch) (Z : State) (a0 : Array Value) (hw : ∀ d ∈ tables_1, d.before a0 Z = true) (ws : List Jvm.Cond) (eO : Addr) (h0 : Heap) (n0 : Nat) (Z0 : n0 ≤ h0.size) (P0 : Old Z n0 h0) (EO : own_Opt Z eO) :
    MetFree l (⟨"java/util/OptionalInt", "empty", "()Ljava/util/OptionalInt;"⟩ : MethodName) (head1 (Jvm.Cond.code (⟨"java/util/OptionalInt", "empty", "()Ljava/util/OptionalInt;"⟩ : MethodName) jdk_2649_method_2_code 0 (some (.object "java/util/OptionalInt")) :: ws) ({ frames := 0, cells := 0, slots := 0, locals := 0 } : Room)) (fun aR U => aR = #[] ∧ Z.Warmed39 U.vm ∧ U.heap = h0) (fun _ _ _ _ _ => True) (fun _ U o U' => ∃ v L, o = .returned v ∧ Q_oemp Z eO h0 n0 v U'.heap L ∧ FrameEnd U o U' L ({ frames := 0, cells := 0, slots := 0, locals := 0 } : Room).cells ({ frames := 0, cells := 0, slots := 0, locals := 0 } : Room).slots) := by
 refine MetFree.of_bodySF (plainFor_of_name pn_9) hisR ?_
 intro p e s m args below meth c s₁ Bd hml0 hP hK
 obtain ⟨rfl, hZ, hh⟩ := hP
 have hx := Bd.exec
 have hby := Bd.bytes
 have hml : c.maxLocals = 0 := hml0
 have hown : s.vm.findClass "java/util/OptionalInt" = some m.cls := findClass_of_methodNamed Bd.named
 have hnm := (name_of_methodNamed Bd.named Bd.method).1
 have X0 : Stand p l e ({ frames := 0, cells := 0, slots := 0, locals := 0 } : Room) s m #[] below meth c s₁ [] 0 0 := Stand.of_body Bd
 have e0 : s₁.heap = h0 := by rw [← hh, Bd.state]; rfl
 have N0 := Fr.nil n0
 show Goes p.tables e below _ _
 rw [ef_oemp m eO]
 refine Goes.named ?_
 intro QQ hQQ
 obtain ⟨T1, X1, e1, st1⟩ := getS2 X0 hx hZ hown (host := "") (Or.inl (hw109 hw)) Via.refl e0 (EO.1.ext P0.2) (g := (mkF m 0 #[] [])) rfl (hb hby d20_0)
 refine Goes.st st1 ?_
 show Goes _ _ _ _ (T1.setTop (mkF m 3 #[] [(.ref eO)]))
 obtain ⟨fs, hr, hrun, hended, hW, hsame⟩ := X1.leave (v := some (.ref eO)) (fun h => by rw [Bd.returns] at h; cases h)
 subst hQQ
 refine ⟨_, _, retR X1 hx Bd.returns rfl rfl (hb hby d20_3) hr, hrun, hended, _, _, rfl, ?_, ⟨_, rfl⟩, hW, hsame.mono (by decide) (by decide)⟩
 show Q_oemp Z eO h0 n0 _ T1.heap _
 rw [e1]
 exact ⟨rfl, N0, rfl⟩
theorem ef_lam (m : MethodId) (b : Addr) (eO : Addr) : entryFrame m #[(.ref b)] 1 = (mkF m 0 #[.val (.ref b)] []) := by first | (simp [entryFrame, mkF, argsToLocals, Value.category]; done) | rfl
def Q_lam (Z : State) (b : Addr) (eO : Addr) (h0 : Heap) (n0 : Nat) (v : Option Value) (h : Heap) (L : List Loc) : Prop := v = some (.ref eO) ∧ Fr n0 L ∧ h = h0
set_option maxRecDepth 65536 in
set_option maxHeartbeats 40000000 in
theorem rm_lam (l : Launch) (Z : State) (a0 : Array Value) (hw : ∀ d ∈ tables_1, d.before a0 Z = true) (ws : List Jvm.Cond) (b : Addr) (eO : Addr) (h0 : Heap) (n0 : Nat) (Z0 : n0 ≤ h0.size) (P0 : Old Z n0 h0) (EO : own_Opt Z eO) :
    MetFree l (⟨"com/example/indexwerk/indexwerk/engine/TargetLimits$Origin", "lambda$of$0", "(Ljava/util/List;)Ljava/util/OptionalInt;"⟩ : MethodName) (head1 (Jvm.Cond.code (⟨"com/example/indexwerk/indexwerk/engine/TargetLimits$Origin", "lambda$of$0", "(Ljava/util/List;)Ljava/util/OptionalInt;"⟩ : MethodName) prog_22_method_8_code 1 (some (.object "java/util/OptionalInt")) :: ws) ({ frames := 1, cells := 0, slots := 0, locals := 11 } : Room)) (fun aR U => aR = #[(.ref b)] ∧ Z.Warmed39 U.vm ∧ U.heap = h0) (fun _ _ _ _ _ => True) (fun _ U o U' => ∃ v L, o = .returned v ∧ Q_lam Z b eO h0 n0 v U'.heap L ∧ FrameEnd U o U' L ({ frames := 1, cells := 0, slots := 0, locals := 11 } : Room).cells ({ frames := 1, cells := 0, slots := 0, locals := 11 } : Room).slots) := by
 refine MetFree.of_bodySF (plainFor_of_name pn_8) hisR ?_
 intro p e s m args below meth c s₁ Bd hml0 hP hK
 obtain ⟨rfl, hZ, hh⟩ := hP
 have hx := Bd.exec
 have hby := Bd.bytes
 have hml : c.maxLocals = 1 := hml0
 have hown : s.vm.findClass "com/example/indexwerk/indexwerk/engine/TargetLimits$Origin" = some m.cls := findClass_of_methodNamed Bd.named
 have hnm := (name_of_methodNamed Bd.named Bd.method).1
 have X0 : Stand p l e ({ frames := 1, cells := 0, slots := 0, locals := 11 } : Room) s m #[(.ref b)] below meth c s₁ [] 0 0 := Stand.of_body Bd
 have e0 : s₁.heap = h0 := by rw [← hh, Bd.state]; rfl
 have N0 := Fr.nil n0
 show Goes p.tables e below _ _
 rw [ef_lam m b eO]
 refine Goes.named ?_
 intro QQ hQQ
 obtain ⟨_, _, ⟨T1, L1, k1, n1⟩, -, X1, ⟨Lc1, hQ1, l1, y1, z1⟩, st1⟩ := Jvm.LawKit.callS X0 hx (y := (⟨"java/util/OptionalInt", "empty", "()Ljava/util/OptionalInt;"⟩ : MethodName)) hown (mvT hZ (hw105 hw)) (mvT hZ (hw106 hw)) (mvT hZ (hw107 hw)) (mvT hZ (hw108 hw)) (by decide) (backOf (W := 0) (rm_oemp l Z a0 hw [] eO h0 n0 Z0 P0 EO) hZ (hw108 hw) (hw107 hw) (by decide) (by decide)) (g := (mkF m 0 #[.val (.ref b)] [])) rfl (by rw [hml]; rfl) (argsL := []) (rest := []) (lenOf pd_11 rfl) rfl (by show 2 * 0 + _ ≤ _; exact Nat.le_of_eq rfl) (hb hby d19_0) (fun _ _ => ⟨rfl, e0, (by decide : 0 + 0 ≤ _), (by decide : 0 + 0 ≤ _)⟩)
 dsimp only [Pt.U, Pt.locs, Pt.cells, Pt.slots] at X1 l1 y1 z1 st1 hQ1
 subst l1 y1 z1
 obtain ⟨rfl, N1q, K1⟩ := hQ1
 have N1 := Fr.app N0 N1q
 refine Goes.st st1 ?_
 show Goes _ _ _ _ (T1.setTop (mkF m 3 #[.val (.ref b)] [(.ref eO)]))
 obtain ⟨fs, hr, hrun, hended, hW, hsame⟩ := X1.leave (v := some (.ref eO)) (fun h => by rw [Bd.returns] at h; cases h)
 subst hQQ
 refine ⟨_, _, retR X1 hx Bd.returns rfl rfl (hb hby d19_3) hr, hrun, hended, _, _, rfl, ?_, ⟨_, rfl⟩, hW, hsame.mono (by decide) (by decide)⟩
 show Q_lam Z b eO h0 n0 _ T1.heap _
 rw [K1]
 exact ⟨rfl, N1, rfl⟩
theorem own_apply {p : Program} {l : Launch} {e : Env} {R : Room} {Z s : State} {m : MethodId} {args a0 : Array Value} {below : List Frame} {meth : Method} {c : Code} {T : State} {locs : List Loc} {cells slots : Nat} (X : Stand p l e R s m args below meth c T locs cells slots) (hx : p.tables.exec = Jvm.exec) (hZ : Z.Warmed39 s.vm) (hw : ∀ d ∈ tables_1, d.before a0 Z = true)
    (hown : s.vm.findClass "com/example/indexwerk/indexwerk/engine/OriginOfPinLaw" = some m.cls) {h : Heap} (eT : T.heap = h) {aL b eO : Addr} {cK : ClassId} {n0 : Nat} (hm : n0 ≤ h.size) (LM : own_Lam Z aL cK) (EO : own_Opt Z eO) (O : Old Z n0 h) (EB : Exa Z h b "java/util/ArrayList") {g : JFrame} (hg : g.method = m) (hsize : g.locals.size = c.maxLocals) {rest : List Value}
    (hs : g.stack = .ref b :: .ref aL :: rest) (hd : decode c.code g.pc = .ok (.invokeinterface 38 2, 5)) (hfr : 3 ≤ R.frames) (hlo : 2 * g.monitorRoom + (rest.map fun v => v.category).sum + (2 + 11) + ((1 + 11) + 11) ≤ R.locals) (hcl : cells ≤ R.cells) (hsl : slots ≤ R.slots) :
    ∃ T' L, Stand p l e R s m args below meth c T' (locs ++ L) cells slots ∧ Fr n0 L ∧ T'.heap = h ∧ ∀ target, Steps p.tables e below (T'.setTop { g with pc := g.pc + 5, stack := .ref eO :: rest }) target → Steps p.tables e below (T.setTop g) target := by
  have hM : Met l own_y [Cond.code own_y prog_22_method_8_code 1 (some (.object "java/util/OptionalInt"))] { frames := 1, cells := 0, slots := 0, locals := 11 } (fun aR U => aR = #[.ref b] ∧ Z.Warmed39 U.vm ∧ U.heap = h) (fun _ _ o t => o = .returned (some (.ref eO)) ∧ t.heap = h) 0 0 (fun q => n0 ≤ q) := by
    refine MetFree.mono (rm_lam l Z a0 hw [] b eO h n0 hm O EO) (fun _ _ q => q) (fun _ _ _ _ _ q => q) ?_
    rintro _ _ _ _ _ ⟨v, L, rfl, ⟨rfl, q2, q3⟩, q4⟩
    exact ⟨⟨rfl, q3⟩, L, q4, q2⟩
  have hmd := own_made hZ LM.2.1
  have hcT : ∀ {a' : Array Value} {U : State}, s.WarmedH U.vm → (Cond.code own_y prog_22_method_8_code 1 (some (.object "java/util/OptionalInt"))).before a' U = true := fun hU => mv (wtrans hZ hU) (hw104 hw)
  obtain ⟨v, su, t, T', L, X', hL, e1, e3, hq, st⟩ := callLamS X hx (own := "com/example/indexwerk/indexwerk/engine/OriginOfPinLaw") (host := own_HO) (index := 38) (count := 2) (xi := own_xi) (y := own_y) (σ := own_sh) hM (fun _ _ _ _ q => q) rfl rfl
    (fun w hw' a' U hU => by rw [List.mem_singleton.mp hw']; exact hcT hU) (List.mem_singleton.mpr rfl) hown (mv hZ (hw99 hw)) (mv hZ (hw100 hw)) (mv hZ (hw101 hw)) (mv hZ (hw104 hw)) (mv hZ (hw103 hw)) (mv hZ (hw74 hw)) (by decide +kernel) (by decide +kernel) (by decide) hmd (a := aL) (by rw [eT]; exact own_fnext LM.2.2 O.2) own_fwd own_f4 own_f7
    (g := g) hg hsize (argsL := [.ref b]) (argsT := [.ref b]) (rest := rest) (L0 := #[.val (.ref aL), .val (.ref b)])
    (fun sig q => by cases (by decide +kernel : parseMethodDescriptor own_xi.desc = some ⟨[.object "java/lang/Object"], some (.object "java/lang/Object")⟩).symm.trans q; rfl) (fun sig q => by cases (by decide +kernel : parseMethodDescriptor own_y.desc = some ⟨[.object "java/util/List"], some (.object "java/util/OptionalInt")⟩).symm.trans q; rfl)
    hs hd (fun _ => rfl) rfl
    (fun U ck bl target hU hck hh hW k => by
      refine XS.aloadN hU hx rfl (hb hck own_f0) rfl rfl ?_
      have hZU := wtrans hZ hW
      obtain ⟨cell, cT, i1, i2, i3⟩ := Ins.of_exa EB (hw102 hw)
      simp only [Bool.and_eq_true, Bool.not_eq_true'] at i3
      have hA := hZU.alike
      obtain ⟨kt, hkt⟩ := Vm.classAt_of_findClass i2
      obtain ⟨ks, hks⟩ := Vm.classAt_of_assignable i3.2 ⟨kt, hkt⟩
      obtain ⟨kt', hkt', -⟩ := hA.2.2 _ _ hkt
      obtain ⟨ks', hks', -⟩ := hA.2.2 _ _ hks
      have hr : U.vm.classReady cK 14 cT := own_rdy (own_made hZU LM.2.1) (by rw [hA.findClass]; exact i2)
      have hcell : U.heap[b]? = some cell := by rw [hh, eT]; exact i1
      jvm_step hU [hx, hb hck own_f1, checkcast.wp_ready (e := e) (s := U) (c := cT) (x := .ref b) (rest := []) (f := { method := ⟨cK, 1⟩, pc := 1, locals := #[.val (.ref aL), .val (.ref b)], stack := [.ref b], locked := none }) hU.top hr rfl]
      refine ⟨cell, hcell, VmData.noStatics_of i3.1, ks', hks', kt', hkt', ?_⟩
      have hasg : U.vm.assignable cell.cls cT = true := by rw [hA.assignable]; exact i3.2
      simp only [hasg, if_true]
      exact k)
    (fun su w t q => by obtain ⟨q, -⟩ := q; cases q; exact Or.inr (Or.inr (Or.inl ⟨_, _, rfl, rfl, rfl, rfl, rfl⟩))) hfr hlo (Nat.le_trans (Nat.le_refl _) hcl) (Nat.le_trans (Nat.le_refl _) hsl) (fun U hU hh => ⟨rfl, wtrans hZ hU, by rw [hh]; exact eT⟩)
  obtain ⟨q1, q2⟩ := hq
  cases q1
  exact ⟨T', L, X', hL, by rw [e1]; exact q2, st⟩
theorem ef_law (m : MethodId) (p0 : Int32) (p1 : Int32) (p2 : Int32) (p3 : Int32) (G1 : Int32) (aD : Addr) (kD : ClassId) (aL : Addr) (cK : ClassId) (eO : Addr) : entryFrame m #[(.int p0), (.int p1), (.int p2), (.int p3)] maxLocals = (mkF m 0 #[.val (.int p0), .val (.int p1), .val (.int p2), .val (.int p3), uS, uS, uS, uS, uS, uS, uS, uS, uS, uS, uS, uS, uS] []) := by first | (simp [entryFrame, mkF, argsToLocals, Value.category, maxLocals]; done) | rfl
def Q_law (Z : State) (p0 : Int32) (p1 : Int32) (p2 : Int32) (p3 : Int32) (G1 : Int32) (aD : Addr) (kD : ClassId) (aL : Addr) (cK : ClassId) (eO : Addr) (h0 : Heap) (n0 : Nat) (v : Option Value) (h : Heap) (L : List Loc) : Prop := v = some (.int (1 : Int32)) ∧ Fr n0 L
set_option maxRecDepth 65536 in
set_option maxHeartbeats 40000000 in
theorem rm_law (l : Launch) (Z : State) (a0 : Array Value) (hw : ∀ d ∈ tables_1, d.before a0 Z = true) (ws : List Jvm.Cond) (p0 : Int32) (p1 : Int32) (p2 : Int32) (p3 : Int32) (G1 : Int32) (aD : Addr) (kD : ClassId) (aL : Addr) (cK : ClassId) (eO : Addr) (h0 : Heap) (n0 : Nat) (Z0 : n0 ≤ h0.size) (P0 : Old Z n0 h0) (P1 : Arv Z h0 aD kD (.object "java/lang/Object") (0 : Int32) [] .null) (O2 : Sta Z Z.heap "java/lang/String" "COMPACT_STRINGS" "Z" (.int G1)) (P5 : ¬ (G1 = (0 : Int32))) (OD : Sta Z Z.heap "java/util/ArrayList" "DEFAULTCAPACITY_EMPTY_ELEMENTDATA" "[Ljava/lang/Object;" (.ref aD)) (LM : own_Lam Z aL cK) (EO : own_Opt Z eO) :
    MetFree l x (head1 (Jvm.Cond.code x code maxLocals ret :: ws) room_1) (fun aR U => aR = #[(.int p0), (.int p1), (.int p2), (.int p3)] ∧ Z.Warmed39 U.vm ∧ U.heap = h0 ∧ CHv Z EL U.vm h0 ∧ ∀ x ∈ ([] : List Addr), Safe Z EL U.vm h0 x) (fun _ _ _ _ _ => True) (fun _ U o U' => ∃ v L, o = .returned v ∧ Q_law Z p0 p1 p2 p3 G1 aD kD aL cK eO h0 n0 v U'.heap L ∧ CHr Z EL U.vm U.heap U'.vm U'.heap ∧ ReturnedEndW U o U' L room_1.cells room_1.slots) := by
 refine MetFree.of_bodySF (plainFor_of_name pn_7) hisR ?_
 intro p e s m args below meth c s₁ Bd hml0 hP hK
 obtain ⟨rfl, hZ, hh, hCH, hSF⟩ := hP
 have hx := Bd.exec
 have hby := Bd.bytes
 have hml : c.maxLocals = 17 := hml0
 have hown : s.vm.findClass "com/example/indexwerk/indexwerk/engine/OriginOfPinLaw" = some m.cls := findClass_of_methodNamed Bd.named
 have hnm := (name_of_methodNamed Bd.named Bd.method).1
 have X0 : Stand p l e room_1 (s.setVm s.vm) m #[(.int p0), (.int p1), (.int p2), (.int p3)] below meth c s₁ [] 0 0 := Stand.of_body Bd
 have e0 : s₁.heap = h0 := by rw [← hh, Bd.state]; rfl
 have N0 := Fr.nil n0
 show Goes p.tables e below _ _
 rw [ef_law m p0 p1 p2 p3 G1 aD kD aL cK eO]
 refine Goes.named ?_
 intro QQ hQQ
 have hS0 : s.Since s.vm 0 := (State.WarmedH.refl s).since 0
 have hk0 : 0 ≤ h0.size := Nat.zero_le _
 have CR0 : CHr Z EL s.vm h0 s.vm h0 := CHr.refl hCH
 refine Goes.st (fun sT kT => XS.iloadN X0.here hx rfl (hb hby at_0) rfl kT) ?_
 show Goes _ _ _ _ (s₁.setTop (mkF m 1 #[.val (.int p0), .val (.int p1), .val (.int p2), .val (.int p3), uS, uS, uS, uS, uS, uS, uS, uS, uS, uS, uS, uS, uS] [(.int p0)]))
 refine Goes.st (fun sT kT => XS.sipush X0.here hx rfl (hb hby at_1) kT) ?_
 show Goes _ _ _ _ (s₁.setTop (mkF m 4 #[.val (.int p0), .val (.int p1), .val (.int p2), .val (.int p3), uS, uS, uS, uS, uS, uS, uS, uS, uS, uS, uS, uS, uS] [(.int (255 : Int32)), (.int p0)]))
 refine Goes.st (fun sT kT => XS.iand X0.here hx rfl (hb hby at_4) rfl kT) ?_
 show Goes _ _ _ _ (s₁.setTop (mkF m 5 #[.val (.int p0), .val (.int p1), .val (.int p2), .val (.int p3), uS, uS, uS, uS, uS, uS, uS, uS, uS, uS, uS, uS, uS] [(.int (p0 &&& (255 : Int32)))]))
 refine Goes.st (fun sT kT => XS.i2c X0.here hx rfl (hb hby at_5) rfl kT) ?_
 show Goes _ _ _ _ (s₁.setTop (mkF m 6 #[.val (.int p0), .val (.int p1), .val (.int p2), .val (.int p3), uS, uS, uS, uS, uS, uS, uS, uS, uS, uS, uS, uS, uS] [(.int ((p0 &&& (255 : Int32)).toUInt32.toUInt16.toUInt32.toInt32))]))
 obtain ⟨xa, hxa⟩ : ∃ z, z = ((p0 &&& (255 : Int32)).toUInt32.toUInt16.toUInt32.toInt32) := ⟨_, rfl⟩
 have rg_xa : ¬ xa < 0 ∧ ¬ (255 : Int32) < xa := by rw [hxa]; exact own_i2cr p0
 rw [← hxa]
 show Goes _ _ _ _ (s₁.setTop (mkF m 6 #[.val (.int p0), .val (.int p1), .val (.int p2), .val (.int p3), uS, uS, uS, uS, uS, uS, uS, uS, uS, uS, uS, uS, uS] [(.int xa)]))
 refine Goes.st (fun sT kT => XS.istore X0.here hx rfl (hb hby at_6) rfl (l' := #[.val (.int p0), .val (.int p1), .val (.int p2), .val (.int p3), .val (.int xa), uS, uS, uS, uS, uS, uS, uS, uS, uS, uS, uS, uS]) rfl kT) ?_
 show Goes _ _ _ _ (s₁.setTop (mkF m 8 #[.val (.int p0), .val (.int p1), .val (.int p2), .val (.int p3), .val (.int xa), uS, uS, uS, uS, uS, uS, uS, uS, uS, uS, uS, uS] []))
 refine Goes.st (fun sT kT => XS.iloadN X0.here hx rfl (hb hby at_8) rfl kT) ?_
 show Goes _ _ _ _ (s₁.setTop (mkF m 9 #[.val (.int p0), .val (.int p1), .val (.int p2), .val (.int p3), .val (.int xa), uS, uS, uS, uS, uS, uS, uS, uS, uS, uS, uS, uS] [(.int p0)]))
 refine Goes.st (fun sT kT => XS.bipush X0.here hx rfl (hb hby at_9) kT) ?_
 show Goes _ _ _ _ (s₁.setTop (mkF m 11 #[.val (.int p0), .val (.int p1), .val (.int p2), .val (.int p3), .val (.int xa), uS, uS, uS, uS, uS, uS, uS, uS, uS, uS, uS, uS] [(.int (8 : Int32)), (.int p0)]))
 refine Goes.st (fun sT kT => XS.iushr X0.here hx rfl (hb hby at_11) rfl kT) ?_
 show Goes _ _ _ _ (s₁.setTop (mkF m 12 #[.val (.int p0), .val (.int p1), .val (.int p2), .val (.int p3), .val (.int xa), uS, uS, uS, uS, uS, uS, uS, uS, uS, uS, uS, uS] [(.int ((p0.toUInt32 >>> ((8 : Int32) &&& 31).toUInt32).toInt32))]))
 refine Goes.st (fun sT kT => XS.sipush X0.here hx rfl (hb hby at_12) kT) ?_
 show Goes _ _ _ _ (s₁.setTop (mkF m 15 #[.val (.int p0), .val (.int p1), .val (.int p2), .val (.int p3), .val (.int xa), uS, uS, uS, uS, uS, uS, uS, uS, uS, uS, uS, uS] [(.int (255 : Int32)), (.int ((p0.toUInt32 >>> ((8 : Int32) &&& 31).toUInt32).toInt32))]))
 refine Goes.st (fun sT kT => XS.iand X0.here hx rfl (hb hby at_15) rfl kT) ?_
 show Goes _ _ _ _ (s₁.setTop (mkF m 16 #[.val (.int p0), .val (.int p1), .val (.int p2), .val (.int p3), .val (.int xa), uS, uS, uS, uS, uS, uS, uS, uS, uS, uS, uS, uS] [(.int (((p0.toUInt32 >>> ((8 : Int32) &&& 31).toUInt32).toInt32) &&& (255 : Int32)))]))
 refine Goes.st (fun sT kT => XS.i2c X0.here hx rfl (hb hby at_16) rfl kT) ?_
 show Goes _ _ _ _ (s₁.setTop (mkF m 17 #[.val (.int p0), .val (.int p1), .val (.int p2), .val (.int p3), .val (.int xa), uS, uS, uS, uS, uS, uS, uS, uS, uS, uS, uS, uS] [(.int ((((p0.toUInt32 >>> ((8 : Int32) &&& 31).toUInt32).toInt32) &&& (255 : Int32)).toUInt32.toUInt16.toUInt32.toInt32))]))
 obtain ⟨xb, hxb⟩ : ∃ z, z = ((((p0.toUInt32 >>> ((8 : Int32) &&& 31).toUInt32).toInt32) &&& (255 : Int32)).toUInt32.toUInt16.toUInt32.toInt32) := ⟨_, rfl⟩
 have rg_xb : ¬ xb < 0 ∧ ¬ (255 : Int32) < xb := by rw [hxb]; exact own_i2cr ((p0.toUInt32 >>> ((8 : Int32) &&& 31).toUInt32).toInt32)
 rw [← hxb]
 show Goes _ _ _ _ (s₁.setTop (mkF m 17 #[.val (.int p0), .val (.int p1), .val (.int p2), .val (.int p3), .val (.int xa), uS, uS, uS, uS, uS, uS, uS, uS, uS, uS, uS, uS] [(.int xb)]))
 refine Goes.st (fun sT kT => XS.istore X0.here hx rfl (hb hby at_17) rfl (l' := #[.val (.int p0), .val (.int p1), .val (.int p2), .val (.int p3), .val (.int xa), .val (.int xb), uS, uS, uS, uS, uS, uS, uS, uS, uS, uS, uS]) rfl kT) ?_
 show Goes _ _ _ _ (s₁.setTop (mkF m 19 #[.val (.int p0), .val (.int p1), .val (.int p2), .val (.int p3), .val (.int xa), .val (.int xb), uS, uS, uS, uS, uS, uS, uS, uS, uS, uS, uS] []))
 refine Goes.st (fun sT kT => XS.iloadN X0.here hx rfl (hb hby at_19) rfl kT) ?_
 show Goes _ _ _ _ (s₁.setTop (mkF m 20 #[.val (.int p0), .val (.int p1), .val (.int p2), .val (.int p3), .val (.int xa), .val (.int xb), uS, uS, uS, uS, uS, uS, uS, uS, uS, uS, uS] [(.int p1)]))
 refine Goes.st (fun sT kT => XS.sipush X0.here hx rfl (hb hby at_20) kT) ?_
 show Goes _ _ _ _ (s₁.setTop (mkF m 23 #[.val (.int p0), .val (.int p1), .val (.int p2), .val (.int p3), .val (.int xa), .val (.int xb), uS, uS, uS, uS, uS, uS, uS, uS, uS, uS, uS] [(.int (255 : Int32)), (.int p1)]))
 refine Goes.st (fun sT kT => XS.iand X0.here hx rfl (hb hby at_23) rfl kT) ?_
 show Goes _ _ _ _ (s₁.setTop (mkF m 24 #[.val (.int p0), .val (.int p1), .val (.int p2), .val (.int p3), .val (.int xa), .val (.int xb), uS, uS, uS, uS, uS, uS, uS, uS, uS, uS, uS] [(.int (p1 &&& (255 : Int32)))]))
 refine Goes.st (fun sT kT => XS.i2c X0.here hx rfl (hb hby at_24) rfl kT) ?_
 show Goes _ _ _ _ (s₁.setTop (mkF m 25 #[.val (.int p0), .val (.int p1), .val (.int p2), .val (.int p3), .val (.int xa), .val (.int xb), uS, uS, uS, uS, uS, uS, uS, uS, uS, uS, uS] [(.int ((p1 &&& (255 : Int32)).toUInt32.toUInt16.toUInt32.toInt32))]))
 obtain ⟨xc, hxc⟩ : ∃ z, z = ((p1 &&& (255 : Int32)).toUInt32.toUInt16.toUInt32.toInt32) := ⟨_, rfl⟩
 have rg_xc : ¬ xc < 0 ∧ ¬ (255 : Int32) < xc := by rw [hxc]; exact own_i2cr p1
 rw [← hxc]
 show Goes _ _ _ _ (s₁.setTop (mkF m 25 #[.val (.int p0), .val (.int p1), .val (.int p2), .val (.int p3), .val (.int xa), .val (.int xb), uS, uS, uS, uS, uS, uS, uS, uS, uS, uS, uS] [(.int xc)]))
 refine Goes.st (fun sT kT => XS.istore X0.here hx rfl (hb hby at_25) rfl (l' := #[.val (.int p0), .val (.int p1), .val (.int p2), .val (.int p3), .val (.int xa), .val (.int xb), .val (.int xc), uS, uS, uS, uS, uS, uS, uS, uS, uS, uS]) rfl kT) ?_
 show Goes _ _ _ _ (s₁.setTop (mkF m 27 #[.val (.int p0), .val (.int p1), .val (.int p2), .val (.int p3), .val (.int xa), .val (.int xb), .val (.int xc), uS, uS, uS, uS, uS, uS, uS, uS, uS, uS] []))
 refine Goes.st (fun sT kT => XS.iloadN X0.here hx rfl (hb hby at_27) rfl kT) ?_
 show Goes _ _ _ _ (s₁.setTop (mkF m 28 #[.val (.int p0), .val (.int p1), .val (.int p2), .val (.int p3), .val (.int xa), .val (.int xb), .val (.int xc), uS, uS, uS, uS, uS, uS, uS, uS, uS, uS] [(.int p1)]))
 refine Goes.st (fun sT kT => XS.bipush X0.here hx rfl (hb hby at_28) kT) ?_
 show Goes _ _ _ _ (s₁.setTop (mkF m 30 #[.val (.int p0), .val (.int p1), .val (.int p2), .val (.int p3), .val (.int xa), .val (.int xb), .val (.int xc), uS, uS, uS, uS, uS, uS, uS, uS, uS, uS] [(.int (8 : Int32)), (.int p1)]))
 refine Goes.st (fun sT kT => XS.iushr X0.here hx rfl (hb hby at_30) rfl kT) ?_
 show Goes _ _ _ _ (s₁.setTop (mkF m 31 #[.val (.int p0), .val (.int p1), .val (.int p2), .val (.int p3), .val (.int xa), .val (.int xb), .val (.int xc), uS, uS, uS, uS, uS, uS, uS, uS, uS, uS] [(.int ((p1.toUInt32 >>> ((8 : Int32) &&& 31).toUInt32).toInt32))]))
 refine Goes.st (fun sT kT => XS.sipush X0.here hx rfl (hb hby at_31) kT) ?_
 show Goes _ _ _ _ (s₁.setTop (mkF m 34 #[.val (.int p0), .val (.int p1), .val (.int p2), .val (.int p3), .val (.int xa), .val (.int xb), .val (.int xc), uS, uS, uS, uS, uS, uS, uS, uS, uS, uS] [(.int (255 : Int32)), (.int ((p1.toUInt32 >>> ((8 : Int32) &&& 31).toUInt32).toInt32))]))
 refine Goes.st (fun sT kT => XS.iand X0.here hx rfl (hb hby at_34) rfl kT) ?_
 show Goes _ _ _ _ (s₁.setTop (mkF m 35 #[.val (.int p0), .val (.int p1), .val (.int p2), .val (.int p3), .val (.int xa), .val (.int xb), .val (.int xc), uS, uS, uS, uS, uS, uS, uS, uS, uS, uS] [(.int (((p1.toUInt32 >>> ((8 : Int32) &&& 31).toUInt32).toInt32) &&& (255 : Int32)))]))
 refine Goes.st (fun sT kT => XS.i2c X0.here hx rfl (hb hby at_35) rfl kT) ?_
 show Goes _ _ _ _ (s₁.setTop (mkF m 36 #[.val (.int p0), .val (.int p1), .val (.int p2), .val (.int p3), .val (.int xa), .val (.int xb), .val (.int xc), uS, uS, uS, uS, uS, uS, uS, uS, uS, uS] [(.int ((((p1.toUInt32 >>> ((8 : Int32) &&& 31).toUInt32).toInt32) &&& (255 : Int32)).toUInt32.toUInt16.toUInt32.toInt32))]))
 obtain ⟨xd, hxd⟩ : ∃ z, z = ((((p1.toUInt32 >>> ((8 : Int32) &&& 31).toUInt32).toInt32) &&& (255 : Int32)).toUInt32.toUInt16.toUInt32.toInt32) := ⟨_, rfl⟩
 have rg_xd : ¬ xd < 0 ∧ ¬ (255 : Int32) < xd := by rw [hxd]; exact own_i2cr ((p1.toUInt32 >>> ((8 : Int32) &&& 31).toUInt32).toInt32)
 rw [← hxd]
 show Goes _ _ _ _ (s₁.setTop (mkF m 36 #[.val (.int p0), .val (.int p1), .val (.int p2), .val (.int p3), .val (.int xa), .val (.int xb), .val (.int xc), uS, uS, uS, uS, uS, uS, uS, uS, uS, uS] [(.int xd)]))
 refine Goes.st (fun sT kT => XS.istore X0.here hx rfl (hb hby at_36) rfl (l' := #[.val (.int p0), .val (.int p1), .val (.int p2), .val (.int p3), .val (.int xa), .val (.int xb), .val (.int xc), .val (.int xd), uS, uS, uS, uS, uS, uS, uS, uS, uS]) rfl kT) ?_
 show Goes _ _ _ _ (s₁.setTop (mkF m 38 #[.val (.int p0), .val (.int p1), .val (.int p2), .val (.int p3), .val (.int xa), .val (.int xb), .val (.int xc), .val (.int xd), uS, uS, uS, uS, uS, uS, uS, uS, uS] []))
 refine Goes.st (fun sT kT => XS.iloadN X0.here hx rfl (hb hby at_38) rfl kT) ?_
 show Goes _ _ _ _ (s₁.setTop (mkF m 39 #[.val (.int p0), .val (.int p1), .val (.int p2), .val (.int p3), .val (.int xa), .val (.int xb), .val (.int xc), .val (.int xd), uS, uS, uS, uS, uS, uS, uS, uS, uS] [(.int p2)]))
 refine Goes.st (fun sT kT => XS.bipush X0.here hx rfl (hb hby at_39) kT) ?_
 show Goes _ _ _ _ (s₁.setTop (mkF m 41 #[.val (.int p0), .val (.int p1), .val (.int p2), .val (.int p3), .val (.int xa), .val (.int xb), .val (.int xc), .val (.int xd), uS, uS, uS, uS, uS, uS, uS, uS, uS] [(.int (7 : Int32)), (.int p2)]))
 refine Goes.st (fun sT kT => XS.iand X0.here hx rfl (hb hby at_41) rfl kT) ?_
 show Goes _ _ _ _ (s₁.setTop (mkF m 42 #[.val (.int p0), .val (.int p1), .val (.int p2), .val (.int p3), .val (.int xa), .val (.int xb), .val (.int xc), .val (.int xd), uS, uS, uS, uS, uS, uS, uS, uS, uS] [(.int (p2 &&& (7 : Int32)))]))
 refine Goes.st (fun sT kT => XS.istore X0.here hx rfl (hb hby at_42) rfl (l' := #[.val (.int p0), .val (.int p1), .val (.int p2), .val (.int p3), .val (.int xa), .val (.int xb), .val (.int xc), .val (.int xd), .val (.int (p2 &&& (7 : Int32))), uS, uS, uS, uS, uS, uS, uS, uS]) rfl kT) ?_
 show Goes _ _ _ _ (s₁.setTop (mkF m 44 #[.val (.int p0), .val (.int p1), .val (.int p2), .val (.int p3), .val (.int xa), .val (.int xb), .val (.int xc), .val (.int xd), .val (.int (p2 &&& (7 : Int32))), uS, uS, uS, uS, uS, uS, uS, uS] []))
 have J56 : ∀ (ln : Int32), Goes p.tables e below QQ (s₁.setTop (mkF m 56 #[.val (.int p0), .val (.int p1), .val (.int p2), .val (.int p3), .val (.int xa), .val (.int xb), .val (.int xc), .val (.int xd), .val (.int ln), uS, uS, uS, uS, uS, uS, uS, uS] [])) := by
  intro ln
  show Goes _ _ _ _ (s₁.setTop (mkF m 56 #[.val (.int p0), .val (.int p1), .val (.int p2), .val (.int p3), .val (.int xa), .val (.int xb), .val (.int xc), .val (.int xd), .val (.int ln), uS, uS, uS, uS, uS, uS, uS, uS] []))
  refine Goes.st (fun sT kT => XS.iload X0.here hx rfl (hb hby at_56) rfl kT) ?_
  show Goes _ _ _ _ (s₁.setTop (mkF m 58 #[.val (.int p0), .val (.int p1), .val (.int p2), .val (.int p3), .val (.int xa), .val (.int xb), .val (.int xc), .val (.int xd), .val (.int ln), uS, uS, uS, uS, uS, uS, uS, uS] [(.int ln)]))
  refine Goes.st (fun sT kT => XS.iload X0.here hx rfl (hb hby at_58) rfl kT) ?_
  show Goes _ _ _ _ (s₁.setTop (mkF m 60 #[.val (.int p0), .val (.int p1), .val (.int p2), .val (.int p3), .val (.int xa), .val (.int xb), .val (.int xc), .val (.int xd), .val (.int ln), uS, uS, uS, uS, uS, uS, uS, uS] [(.int xa), (.int ln)]))
  refine Goes.st (fun sT kT => XS.iload X0.here hx rfl (hb hby at_60) rfl kT) ?_
  show Goes _ _ _ _ (s₁.setTop (mkF m 62 #[.val (.int p0), .val (.int p1), .val (.int p2), .val (.int p3), .val (.int xa), .val (.int xb), .val (.int xc), .val (.int xd), .val (.int ln), uS, uS, uS, uS, uS, uS, uS, uS] [(.int xb), (.int xa), (.int ln)]))
  refine Goes.st (fun sT kT => XS.iload X0.here hx rfl (hb hby at_62) rfl kT) ?_
  show Goes _ _ _ _ (s₁.setTop (mkF m 64 #[.val (.int p0), .val (.int p1), .val (.int p2), .val (.int p3), .val (.int xa), .val (.int xb), .val (.int xc), .val (.int xd), .val (.int ln), uS, uS, uS, uS, uS, uS, uS, uS] [(.int xc), (.int xb), (.int xa), (.int ln)]))
  refine Goes.st (fun sT kT => XS.iload X0.here hx rfl (hb hby at_64) rfl kT) ?_
  show Goes _ _ _ _ (s₁.setTop (mkF m 66 #[.val (.int p0), .val (.int p1), .val (.int p2), .val (.int p3), .val (.int xa), .val (.int xb), .val (.int xc), .val (.int xd), .val (.int ln), uS, uS, uS, uS, uS, uS, uS, uS] [(.int xd), (.int xc), (.int xb), (.int xa), (.int ln)]))
  obtain ⟨_, _, ⟨T1, L1, k1, n1⟩, -, X1, hSr1, hgr1, ⟨Lc1, hQ1, l1, y1, z1, C1⟩, st1⟩ := callSS X0 hx (y := (⟨"com/example/indexwerk/indexwerk/engine/OriginOfPinLaw", "text", "(ICCCC)Ljava/lang/String;"⟩ : MethodName)) hown (mvT hZ (hw0 hw)) (mvT hZ (hw1 hw)) (mvT hZ (hw2 hw)) (mvT hZ (hw3 hw)) (by decide) (own_backW (W := 0) (xs := []) (rm_txt l Z a0 hw [] ln xa xb xc xd G1 h0 n0 Z0 P0 rg_xa rg_xb rg_xc rg_xd O2 P5) hZ (hw3 hw) (hw2 hw) (by decide) (by decide) (own_EW hw) CR0.1 all0) (g := (mkF m 66 #[.val (.int p0), .val (.int p1), .val (.int p2), .val (.int p3), .val (.int xa), .val (.int xb), .val (.int xc), .val (.int xd), .val (.int ln), uS, uS, uS, uS, uS, uS, uS, uS] [(.int xd), (.int xc), (.int xb), (.int xa), (.int ln)])) rfl (by rw [hml]; rfl) (argsL := [(.int ln), (.int xa), (.int xb), (.int xc), (.int xd)]) (rest := []) (lenOf pd_12 rfl) rfl (by show 2 * 0 + _ ≤ _; exact Nat.le_of_eq rfl) (hb hby at_66) (fun _ _ => ⟨rfl, e0, (by decide : 0 + 6 ≤ _), (by decide : 0 + 12 ≤ _)⟩)
  dsimp only [Pt.U, Pt.locs, Pt.cells, Pt.slots] at X1 l1 y1 z1 st1 hQ1 hSr1 hgr1 C1
  subst l1 y1 z1
  obtain ⟨X1, hS1, hZ1, hown1⟩ := rebS hS0 (by rw [e0]; exact hk0) X1 hSr1 hgr1 hZ hown
  obtain ⟨r1, t1, kb1, rfl, N1q, K1, F1_0, lo1_0, ne1_0⟩ := hQ1
  have N1 := Fr.app N0 N1q
  have F1_0E := F1_0.1
  have CR2 : CHr Z EL s.vm h0 T1.vm T1.heap := CR0.trans (C1)
  refine Goes.tr st1 ?_
  show Goes _ _ _ _ (T1.setTop (mkF m 69 #[.val (.int p0), .val (.int p1), .val (.int p2), .val (.int p3), .val (.int xa), .val (.int xb), .val (.int xc), .val (.int xd), .val (.int ln), uS, uS, uS, uS, uS, uS, uS, uS] [(.ref r1)]))
  refine Goes.st (fun sT kT => XS.astore X1.here hx rfl (hb hby at_69) rfl rfl (l' := #[.val (.int p0), .val (.int p1), .val (.int p2), .val (.int p3), .val (.int xa), .val (.int xb), .val (.int xc), .val (.int xd), .val (.int ln), .val (.ref r1), uS, uS, uS, uS, uS, uS, uS]) rfl kT) ?_
  show Goes _ _ _ _ (T1.setTop (mkF m 71 #[.val (.int p0), .val (.int p1), .val (.int p2), .val (.int p3), .val (.int xa), .val (.int xb), .val (.int xc), .val (.int xd), .val (.int ln), .val (.ref r1), uS, uS, uS, uS, uS, uS, uS] []))
  refine Goes.st (fun sT kT => XS.iload X1.here hx rfl (hb hby at_71) rfl kT) ?_
  show Goes _ _ _ _ (T1.setTop (mkF m 73 #[.val (.int p0), .val (.int p1), .val (.int p2), .val (.int p3), .val (.int xa), .val (.int xb), .val (.int xc), .val (.int xd), .val (.int ln), .val (.ref r1), uS, uS, uS, uS, uS, uS, uS] [(.int ln)]))
  refine Goes.st (fun sT kT => XS.iload X1.here hx rfl (hb hby at_73) rfl kT) ?_
  show Goes _ _ _ _ (T1.setTop (mkF m 75 #[.val (.int p0), .val (.int p1), .val (.int p2), .val (.int p3), .val (.int xa), .val (.int xb), .val (.int xc), .val (.int xd), .val (.int ln), .val (.ref r1), uS, uS, uS, uS, uS, uS, uS] [(.int xa), (.int ln)]))
  refine Goes.st (fun sT kT => XS.iload X1.here hx rfl (hb hby at_75) rfl kT) ?_
  show Goes _ _ _ _ (T1.setTop (mkF m 77 #[.val (.int p0), .val (.int p1), .val (.int p2), .val (.int p3), .val (.int xa), .val (.int xb), .val (.int xc), .val (.int xd), .val (.int ln), .val (.ref r1), uS, uS, uS, uS, uS, uS, uS] [(.int xb), (.int xa), (.int ln)]))
  refine Goes.st (fun sT kT => XS.iload X1.here hx rfl (hb hby at_77) rfl kT) ?_
  show Goes _ _ _ _ (T1.setTop (mkF m 79 #[.val (.int p0), .val (.int p1), .val (.int p2), .val (.int p3), .val (.int xa), .val (.int xb), .val (.int xc), .val (.int xd), .val (.int ln), .val (.ref r1), uS, uS, uS, uS, uS, uS, uS] [(.int xc), (.int xb), (.int xa), (.int ln)]))
  refine Goes.st (fun sT kT => XS.iload X1.here hx rfl (hb hby at_79) rfl kT) ?_
  show Goes _ _ _ _ (T1.setTop (mkF m 81 #[.val (.int p0), .val (.int p1), .val (.int p2), .val (.int p3), .val (.int xa), .val (.int xb), .val (.int xc), .val (.int xd), .val (.int ln), .val (.ref r1), uS, uS, uS, uS, uS, uS, uS] [(.int xd), (.int xc), (.int xb), (.int xa), (.int ln)]))
  have f4 : Old Z n0 T1.heap := (P0.keep K1 all0)
  obtain ⟨_, _, ⟨T3, L3, k3, n3⟩, -, X3, hSr3, hgr3, ⟨Lc3, hQ3, l3, y3, z3, C3⟩, st3⟩ := callSS X1 hx (y := (⟨"com/example/indexwerk/indexwerk/engine/OriginOfPinLaw", "text", "(ICCCC)Ljava/lang/String;"⟩ : MethodName)) hown1 (mvT hZ1 (hw0 hw)) (mvT hZ1 (hw1 hw)) (mvT hZ1 (hw2 hw)) (mvT hZ1 (hw3 hw)) (by decide) (own_backW (W := 0) (xs := []) (rm_txt l Z a0 hw [] ln xa xb xc xd G1 T1.heap n0 (Nat.le_trans Z0 K1.1) f4 rg_xa rg_xb rg_xc rg_xd O2 P5) hZ1 (hw3 hw) (hw2 hw) (by decide) (by decide) (own_EW hw) CR2.1 all0) (g := (mkF m 81 #[.val (.int p0), .val (.int p1), .val (.int p2), .val (.int p3), .val (.int xa), .val (.int xb), .val (.int xc), .val (.int xd), .val (.int ln), .val (.ref r1), uS, uS, uS, uS, uS, uS, uS] [(.int xd), (.int xc), (.int xb), (.int xa), (.int ln)])) rfl (by rw [hml]; rfl) (argsL := [(.int ln), (.int xa), (.int xb), (.int xc), (.int xd)]) (rest := []) (lenOf pd_12 rfl) rfl (by show 2 * 0 + _ ≤ _; exact Nat.le_of_eq rfl) (hb hby at_81) (fun _ _ => ⟨rfl, rfl, (by decide : 6 + 6 ≤ _), (by decide : 12 + 12 ≤ _)⟩)
  dsimp only [Pt.U, Pt.locs, Pt.cells, Pt.slots] at X3 l3 y3 z3 st3 hQ3 hSr3 hgr3 C3
  subst l3 y3 z3
  obtain ⟨X3, hS3, hZ3, hown3⟩ := rebS hS1 (Nat.le_refl _) X3 hSr3 hgr3 hZ1 hown1
  obtain ⟨r3, t3, kb3, rfl, N3q, K3, F3_0, lo3_0, ne3_0⟩ := hQ3
  have N3 := Fr.app N1 N3q
  have F3_0E := F3_0.1
  have CR5 : CHr Z EL s.vm h0 T3.vm T3.heap := CR2.trans (C3)
  refine Goes.tr st3 ?_
  show Goes _ _ _ _ (T3.setTop (mkF m 84 #[.val (.int p0), .val (.int p1), .val (.int p2), .val (.int p3), .val (.int xa), .val (.int xb), .val (.int xc), .val (.int xd), .val (.int ln), .val (.ref r1), uS, uS, uS, uS, uS, uS, uS] [(.ref r3)]))
  refine Goes.st (fun sT kT => XS.astore X3.here hx rfl (hb hby at_84) rfl rfl (l' := #[.val (.int p0), .val (.int p1), .val (.int p2), .val (.int p3), .val (.int xa), .val (.int xb), .val (.int xc), .val (.int xd), .val (.int ln), .val (.ref r1), .val (.ref r3), uS, uS, uS, uS, uS, uS]) rfl kT) ?_
  show Goes _ _ _ _ (T3.setTop (mkF m 86 #[.val (.int p0), .val (.int p1), .val (.int p2), .val (.int p3), .val (.int xa), .val (.int xb), .val (.int xc), .val (.int xd), .val (.int ln), .val (.ref r1), .val (.ref r3), uS, uS, uS, uS, uS, uS] []))
  refine Goes.st (fun sT kT => XS.iloadN X3.here hx rfl (hb hby at_86) rfl kT) ?_
  show Goes _ _ _ _ (T3.setTop (mkF m 87 #[.val (.int p0), .val (.int p1), .val (.int p2), .val (.int p3), .val (.int xa), .val (.int xb), .val (.int xc), .val (.int xd), .val (.int ln), .val (.ref r1), .val (.ref r3), uS, uS, uS, uS, uS, uS] [(.int p2)]))
  refine Goes.st (fun sT kT => XS.iconst X3.here hx rfl (hb hby at_87) kT) ?_
  show Goes _ _ _ _ (T3.setTop (mkF m 88 #[.val (.int p0), .val (.int p1), .val (.int p2), .val (.int p3), .val (.int xa), .val (.int xb), .val (.int xc), .val (.int xd), .val (.int ln), .val (.ref r1), .val (.ref r3), uS, uS, uS, uS, uS, uS] [(.int (3 : Int32)), (.int p2)]))
  refine Goes.st (fun sT kT => XS.iushr X3.here hx rfl (hb hby at_88) rfl kT) ?_
  show Goes _ _ _ _ (T3.setTop (mkF m 89 #[.val (.int p0), .val (.int p1), .val (.int p2), .val (.int p3), .val (.int xa), .val (.int xb), .val (.int xc), .val (.int xd), .val (.int ln), .val (.ref r1), .val (.ref r3), uS, uS, uS, uS, uS, uS] [(.int ((p2.toUInt32 >>> ((3 : Int32) &&& 31).toUInt32).toInt32))]))
  refine Goes.st (fun sT kT => XS.iconst X3.here hx rfl (hb hby at_89) kT) ?_
  show Goes _ _ _ _ (T3.setTop (mkF m 90 #[.val (.int p0), .val (.int p1), .val (.int p2), .val (.int p3), .val (.int xa), .val (.int xb), .val (.int xc), .val (.int xd), .val (.int ln), .val (.ref r1), .val (.ref r3), uS, uS, uS, uS, uS, uS] [(.int (3 : Int32)), (.int ((p2.toUInt32 >>> ((3 : Int32) &&& 31).toUInt32).toInt32))]))
  refine Goes.st (fun sT kT => XS.iand X3.here hx rfl (hb hby at_90) rfl kT) ?_
  show Goes _ _ _ _ (T3.setTop (mkF m 91 #[.val (.int p0), .val (.int p1), .val (.int p2), .val (.int p3), .val (.int xa), .val (.int xb), .val (.int xc), .val (.int xd), .val (.int ln), .val (.ref r1), .val (.ref r3), uS, uS, uS, uS, uS, uS] [(.int (((p2.toUInt32 >>> ((3 : Int32) &&& 31).toUInt32).toInt32) &&& (3 : Int32)))]))
  obtain ⟨cn, hcn⟩ : ∃ z, z = (((p2.toUInt32 >>> ((3 : Int32) &&& 31).toUInt32).toInt32) &&& (3 : Int32)) := ⟨_, rfl⟩
  rw [← hcn]
  show Goes _ _ _ _ (T3.setTop (mkF m 91 #[.val (.int p0), .val (.int p1), .val (.int p2), .val (.int p3), .val (.int xa), .val (.int xb), .val (.int xc), .val (.int xd), .val (.int ln), .val (.ref r1), .val (.ref r3), uS, uS, uS, uS, uS, uS] [(.int cn)]))
  refine Goes.st (fun sT kT => XS.istore X3.here hx rfl (hb hby at_91) rfl (l' := #[.val (.int p0), .val (.int p1), .val (.int p2), .val (.int p3), .val (.int xa), .val (.int xb), .val (.int xc), .val (.int xd), .val (.int ln), .val (.ref r1), .val (.ref r3), .val (.int cn), uS, uS, uS, uS, uS]) rfl kT) ?_
  show Goes _ _ _ _ (T3.setTop (mkF m 93 #[.val (.int p0), .val (.int p1), .val (.int p2), .val (.int p3), .val (.int xa), .val (.int xb), .val (.int xc), .val (.int xd), .val (.int ln), .val (.ref r1), .val (.ref r3), .val (.int cn), uS, uS, uS, uS, uS] []))
  refine Goes.st (fun sT kT => XS.iloadN X3.here hx rfl (hb hby at_93) rfl kT) ?_
  show Goes _ _ _ _ (T3.setTop (mkF m 94 #[.val (.int p0), .val (.int p1), .val (.int p2), .val (.int p3), .val (.int xa), .val (.int xb), .val (.int xc), .val (.int xd), .val (.int ln), .val (.ref r1), .val (.ref r3), .val (.int cn), uS, uS, uS, uS, uS] [(.int p3)]))
  refine Goes.st (fun sT kT => XS.sipush X3.here hx rfl (hb hby at_94) kT) ?_
  show Goes _ _ _ _ (T3.setTop (mkF m 97 #[.val (.int p0), .val (.int p1), .val (.int p2), .val (.int p3), .val (.int xa), .val (.int xb), .val (.int xc), .val (.int xd), .val (.int ln), .val (.ref r1), .val (.ref r3), .val (.int cn), uS, uS, uS, uS, uS] [(.int (255 : Int32)), (.int p3)]))
  refine Goes.st (fun sT kT => XS.iand X3.here hx rfl (hb hby at_97) rfl kT) ?_
  show Goes _ _ _ _ (T3.setTop (mkF m 98 #[.val (.int p0), .val (.int p1), .val (.int p2), .val (.int p3), .val (.int xa), .val (.int xb), .val (.int xc), .val (.int xd), .val (.int ln), .val (.ref r1), .val (.ref r3), .val (.int cn), uS, uS, uS, uS, uS] [(.int (p3 &&& (255 : Int32)))]))
  refine Goes.st (fun sT kT => XS.i2c X3.here hx rfl (hb hby at_98) rfl kT) ?_
  show Goes _ _ _ _ (T3.setTop (mkF m 99 #[.val (.int p0), .val (.int p1), .val (.int p2), .val (.int p3), .val (.int xa), .val (.int xb), .val (.int xc), .val (.int xd), .val (.int ln), .val (.ref r1), .val (.ref r3), .val (.int cn), uS, uS, uS, uS, uS] [(.int ((p3 &&& (255 : Int32)).toUInt32.toUInt16.toUInt32.toInt32))]))
  obtain ⟨ma, hma⟩ : ∃ z, z = ((p3 &&& (255 : Int32)).toUInt32.toUInt16.toUInt32.toInt32) := ⟨_, rfl⟩
  have rg_ma : ¬ ma < 0 ∧ ¬ (255 : Int32) < ma := by rw [hma]; exact own_i2cr p3
  rw [← hma]
  show Goes _ _ _ _ (T3.setTop (mkF m 99 #[.val (.int p0), .val (.int p1), .val (.int p2), .val (.int p3), .val (.int xa), .val (.int xb), .val (.int xc), .val (.int xd), .val (.int ln), .val (.ref r1), .val (.ref r3), .val (.int cn), uS, uS, uS, uS, uS] [(.int ma)]))
  have f7 : Old Z n0 T3.heap := (f4.keep K3 all0)
  obtain ⟨_, _, ⟨T6, L6, k6, n6⟩, -, X6, ⟨Lc6, hQ6, l6, y6, z6⟩, st6⟩ := Jvm.LawKit.callS X3 hx (y := (⟨"java/lang/String", "valueOf", "(C)Ljava/lang/String;"⟩ : MethodName)) hown3 (mvT hZ3 (hw34 hw)) (mvT hZ3 (hw35 hw)) (mvT hZ3 (hw6 hw)) (mvT hZ3 (hw36 hw)) (by decide) (backOf (W := 0) (rm_valC l Z a0 hw [] ma G1 T3.heap n0 (Nat.le_trans Z0 (Nat.le_trans K1.1 K3.1)) f7 rg_ma O2 P5) hZ3 (hw36 hw) (hw6 hw) (by decide) (by decide)) (g := (mkF m 99 #[.val (.int p0), .val (.int p1), .val (.int p2), .val (.int p3), .val (.int xa), .val (.int xb), .val (.int xc), .val (.int xd), .val (.int ln), .val (.ref r1), .val (.ref r3), .val (.int cn), uS, uS, uS, uS, uS] [(.int ma)])) rfl (by rw [hml]; rfl) (argsL := [(.int ma)]) (rest := []) (lenOf pd_13 rfl) rfl (by show 2 * 0 + _ ≤ _; exact Nat.le_of_eq rfl) (hb hby at_99) (fun _ _ => ⟨rfl, rfl, (by decide : 12 + 2 ≤ _), (by decide : 24 + 5 ≤ _)⟩)
  dsimp only [Pt.U, Pt.locs, Pt.cells, Pt.slots] at X6 l6 y6 z6 st6 hQ6
  subst l6 y6 z6
  obtain ⟨r6, t6, kb6, rfl, N6q, K6, F6_0, lo6_0, lo6_1, ne6_0⟩ := hQ6
  have N6 := Fr.app N3 N6q
  have F6_0E := F6_0.1
  have hs8 : ∀ x ∈ ([] : List Addr), Safe Z EL T3.vm T3.heap x := all0
  have CR8 : CHr Z EL s.vm h0 T3.vm T6.heap := CR5.trans (CHr.keep K6 hs8 CR5.1)
  refine Goes.st st6 ?_
  show Goes _ _ _ _ (T6.setTop (mkF m 102 #[.val (.int p0), .val (.int p1), .val (.int p2), .val (.int p3), .val (.int xa), .val (.int xb), .val (.int xc), .val (.int xd), .val (.int ln), .val (.ref r1), .val (.ref r3), .val (.int cn), uS, uS, uS, uS, uS] [(.ref r6)]))
  refine Goes.st (fun sT kT => XS.astore X6.here hx rfl (hb hby at_102) rfl rfl (l' := #[.val (.int p0), .val (.int p1), .val (.int p2), .val (.int p3), .val (.int xa), .val (.int xb), .val (.int xc), .val (.int xd), .val (.int ln), .val (.ref r1), .val (.ref r3), .val (.int cn), .val (.ref r6), uS, uS, uS, uS]) rfl kT) ?_
  show Goes _ _ _ _ (T6.setTop (mkF m 104 #[.val (.int p0), .val (.int p1), .val (.int p2), .val (.int p3), .val (.int xa), .val (.int xb), .val (.int xc), .val (.int xd), .val (.int ln), .val (.ref r1), .val (.ref r3), .val (.int cn), .val (.ref r6), uS, uS, uS, uS] []))
  refine Goes.st (fun sT kT => XS.iloadN X6.here hx rfl (hb hby at_104) rfl kT) ?_
  show Goes _ _ _ _ (T6.setTop (mkF m 105 #[.val (.int p0), .val (.int p1), .val (.int p2), .val (.int p3), .val (.int xa), .val (.int xb), .val (.int xc), .val (.int xd), .val (.int ln), .val (.ref r1), .val (.ref r3), .val (.int cn), .val (.ref r6), uS, uS, uS, uS] [(.int p3)]))
  refine Goes.st (fun sT kT => XS.bipush X6.here hx rfl (hb hby at_105) kT) ?_
  show Goes _ _ _ _ (T6.setTop (mkF m 107 #[.val (.int p0), .val (.int p1), .val (.int p2), .val (.int p3), .val (.int xa), .val (.int xb), .val (.int xc), .val (.int xd), .val (.int ln), .val (.ref r1), .val (.ref r3), .val (.int cn), .val (.ref r6), uS, uS, uS, uS] [(.int (8 : Int32)), (.int p3)]))
  refine Goes.st (fun sT kT => XS.iushr X6.here hx rfl (hb hby at_107) rfl kT) ?_
  show Goes _ _ _ _ (T6.setTop (mkF m 108 #[.val (.int p0), .val (.int p1), .val (.int p2), .val (.int p3), .val (.int xa), .val (.int xb), .val (.int xc), .val (.int xd), .val (.int ln), .val (.ref r1), .val (.ref r3), .val (.int cn), .val (.ref r6), uS, uS, uS, uS] [(.int ((p3.toUInt32 >>> ((8 : Int32) &&& 31).toUInt32).toInt32))]))
  refine Goes.st (fun sT kT => XS.sipush X6.here hx rfl (hb hby at_108) kT) ?_
  show Goes _ _ _ _ (T6.setTop (mkF m 111 #[.val (.int p0), .val (.int p1), .val (.int p2), .val (.int p3), .val (.int xa), .val (.int xb), .val (.int xc), .val (.int xd), .val (.int ln), .val (.ref r1), .val (.ref r3), .val (.int cn), .val (.ref r6), uS, uS, uS, uS] [(.int (255 : Int32)), (.int ((p3.toUInt32 >>> ((8 : Int32) &&& 31).toUInt32).toInt32))]))
  refine Goes.st (fun sT kT => XS.iand X6.here hx rfl (hb hby at_111) rfl kT) ?_
  show Goes _ _ _ _ (T6.setTop (mkF m 112 #[.val (.int p0), .val (.int p1), .val (.int p2), .val (.int p3), .val (.int xa), .val (.int xb), .val (.int xc), .val (.int xd), .val (.int ln), .val (.ref r1), .val (.ref r3), .val (.int cn), .val (.ref r6), uS, uS, uS, uS] [(.int (((p3.toUInt32 >>> ((8 : Int32) &&& 31).toUInt32).toInt32) &&& (255 : Int32)))]))
  refine Goes.st (fun sT kT => XS.i2c X6.here hx rfl (hb hby at_112) rfl kT) ?_
  show Goes _ _ _ _ (T6.setTop (mkF m 113 #[.val (.int p0), .val (.int p1), .val (.int p2), .val (.int p3), .val (.int xa), .val (.int xb), .val (.int xc), .val (.int xd), .val (.int ln), .val (.ref r1), .val (.ref r3), .val (.int cn), .val (.ref r6), uS, uS, uS, uS] [(.int ((((p3.toUInt32 >>> ((8 : Int32) &&& 31).toUInt32).toInt32) &&& (255 : Int32)).toUInt32.toUInt16.toUInt32.toInt32))]))
  obtain ⟨mb, hmb⟩ : ∃ z, z = ((((p3.toUInt32 >>> ((8 : Int32) &&& 31).toUInt32).toInt32) &&& (255 : Int32)).toUInt32.toUInt16.toUInt32.toInt32) := ⟨_, rfl⟩
  have rg_mb : ¬ mb < 0 ∧ ¬ (255 : Int32) < mb := by rw [hmb]; exact own_i2cr ((p3.toUInt32 >>> ((8 : Int32) &&& 31).toUInt32).toInt32)
  rw [← hmb]
  show Goes _ _ _ _ (T6.setTop (mkF m 113 #[.val (.int p0), .val (.int p1), .val (.int p2), .val (.int p3), .val (.int xa), .val (.int xb), .val (.int xc), .val (.int xd), .val (.int ln), .val (.ref r1), .val (.ref r3), .val (.int cn), .val (.ref r6), uS, uS, uS, uS] [(.int mb)]))
  have f10 : Old Z n0 T6.heap := (f7.keep K6 all0)
  obtain ⟨_, _, ⟨T9, L9, k9, n9⟩, -, X9, ⟨Lc9, hQ9, l9, y9, z9⟩, st9⟩ := Jvm.LawKit.callS X6 hx (y := (⟨"java/lang/String", "valueOf", "(C)Ljava/lang/String;"⟩ : MethodName)) hown3 (mvT hZ3 (hw34 hw)) (mvT hZ3 (hw35 hw)) (mvT hZ3 (hw6 hw)) (mvT hZ3 (hw36 hw)) (by decide) (backOf (W := 0) (rm_valC l Z a0 hw [] mb G1 T6.heap n0 (Nat.le_trans Z0 (Nat.le_trans (Nat.le_trans K1.1 K3.1) K6.1)) f10 rg_mb O2 P5) hZ3 (hw36 hw) (hw6 hw) (by decide) (by decide)) (g := (mkF m 113 #[.val (.int p0), .val (.int p1), .val (.int p2), .val (.int p3), .val (.int xa), .val (.int xb), .val (.int xc), .val (.int xd), .val (.int ln), .val (.ref r1), .val (.ref r3), .val (.int cn), .val (.ref r6), uS, uS, uS, uS] [(.int mb)])) rfl (by rw [hml]; rfl) (argsL := [(.int mb)]) (rest := []) (lenOf pd_13 rfl) rfl (by show 2 * 0 + _ ≤ _; exact Nat.le_of_eq rfl) (hb hby at_113) (fun _ _ => ⟨rfl, rfl, (by decide : 14 + 2 ≤ _), (by decide : 29 + 5 ≤ _)⟩)
  dsimp only [Pt.U, Pt.locs, Pt.cells, Pt.slots] at X9 l9 y9 z9 st9 hQ9
  subst l9 y9 z9
  obtain ⟨r9, t9, kb9, rfl, N9q, K9, F9_0, lo9_0, lo9_1, ne9_0⟩ := hQ9
  have N9 := Fr.app N6 N9q
  have F9_0E := F9_0.1
  have hs11 : ∀ x ∈ ([] : List Addr), Safe Z EL T3.vm T6.heap x := all0
  have CR11 : CHr Z EL s.vm h0 T3.vm T9.heap := CR8.trans (CHr.keep K9 hs11 CR8.1)
  refine Goes.st st9 ?_
  show Goes _ _ _ _ (T9.setTop (mkF m 116 #[.val (.int p0), .val (.int p1), .val (.int p2), .val (.int p3), .val (.int xa), .val (.int xb), .val (.int xc), .val (.int xd), .val (.int ln), .val (.ref r1), .val (.ref r3), .val (.int cn), .val (.ref r6), uS, uS, uS, uS] [(.ref r9)]))
  refine Goes.st (fun sT kT => XS.astore X9.here hx rfl (hb hby at_116) rfl rfl (l' := #[.val (.int p0), .val (.int p1), .val (.int p2), .val (.int p3), .val (.int xa), .val (.int xb), .val (.int xc), .val (.int xd), .val (.int ln), .val (.ref r1), .val (.ref r3), .val (.int cn), .val (.ref r6), .val (.ref r9), uS, uS, uS]) rfl kT) ?_
  show Goes _ _ _ _ (T9.setTop (mkF m 118 #[.val (.int p0), .val (.int p1), .val (.int p2), .val (.int p3), .val (.int xa), .val (.int xb), .val (.int xc), .val (.int xd), .val (.int ln), .val (.ref r1), .val (.ref r3), .val (.int cn), .val (.ref r6), .val (.ref r9), uS, uS, uS] []))
  obtain ⟨T12, h12, X12, e12, E12, A12, D12, -, st12⟩ := newO X9 hx hZ3 hown3 (hw48 hw) (hw49 hw) (hw50 hw) rfl (g := (mkF m 118 #[.val (.int p0), .val (.int p1), .val (.int p2), .val (.int p3), .val (.int xa), .val (.int xb), .val (.int xc), .val (.int xd), .val (.int ln), .val (.ref r1), .val (.ref r3), .val (.int cn), .val (.ref r6), .val (.ref r9), uS, uS, uS] [])) rfl (hb hby at_118) (by decide) (by decide)
  obtain ⟨b12, g12⟩ : ∃ z, z = T9.heap.size := ⟨_, rfl⟩
  rw [← g12] at A12 D12 st12
  have CR13 : CHr Z EL s.vm h0 T3.vm h12 := CR11.trans (CHr.ext E12 CR11.1)
  have F12_modCount : Fld Z h12 b12 "java/util/AbstractList" "modCount" "I" (.int (0 : Int32)) := D12 (Or.inl (hw68 hw)) (ty := .int) (by decide)
  have F12_elementData : Fld Z h12 b12 "java/util/ArrayList" "elementData" "[Ljava/lang/Object;" .null := D12 (Or.inl (hw71 hw)) (ty := (.array (.object "java/lang/Object"))) (by decide)
  have F12_size : Fld Z h12 b12 "java/util/ArrayList" "size" "I" (.int (0 : Int32)) := D12 (Or.inl (hw146 hw)) (ty := .int) (by decide)
  refine Goes.st st12 ?_
  show Goes _ _ _ _ (T12.setTop (mkF m 121 #[.val (.int p0), .val (.int p1), .val (.int p2), .val (.int p3), .val (.int xa), .val (.int xb), .val (.int xc), .val (.int xd), .val (.int ln), .val (.ref r1), .val (.ref r3), .val (.int cn), .val (.ref r6), .val (.ref r9), uS, uS, uS] [(.ref b12)]))
  refine Goes.st (fun sT kT => XS.dup X12.here hx rfl (hb hby at_121) rfl rfl kT) ?_
  show Goes _ _ _ _ (T12.setTop (mkF m 122 #[.val (.int p0), .val (.int p1), .val (.int p2), .val (.int p3), .val (.int xa), .val (.int xb), .val (.int xc), .val (.int xd), .val (.int ln), .val (.ref r1), .val (.ref r3), .val (.int cn), .val (.ref r6), .val (.ref r9), uS, uS, uS] [(.ref b12), (.ref b12)]))
  have f15 : Old Z n0 h12 := ((f10.keep K9 all0).ext E12)
  obtain ⟨_, _, ⟨T14, L14, k14, n14⟩, -, X14, ⟨Lc14, hQ14, l14, y14, z14⟩, st14⟩ := X12.specialBack hx (y := (⟨"java/util/ArrayList", "<init>", "()V"⟩ : MethodName)) rfl hown3 (mvT hZ3 (hw51 hw)) (mvT hZ3 (hw52 hw)) (mvT hZ3 (hw53 hw)) (by decide) (backOf (W := 1) (rm_alN l Z a0 hw [] b12 aD h12 n0 (Nat.le_trans Z0 (Nat.le_trans (Nat.le_trans (Nat.le_trans (Nat.le_trans K1.1 K3.1) K6.1) K9.1) E12.1)) A12 F12_elementData F12_size F12_modCount f15 (Nat.le_trans Z0 (Nat.le_trans (Nat.le_trans (Nat.le_trans (Nat.le_trans K1.1 K3.1) K6.1) K9.1) (Nat.le_of_eq g12.symm))) OD) hZ3 (hw53 hw) (hw50 hw) (by decide) (by decide)) (g := (mkF m 122 #[.val (.int p0), .val (.int p1), .val (.int p2), .val (.int p3), .val (.int xa), .val (.int xb), .val (.int xc), .val (.int xd), .val (.int ln), .val (.ref r1), .val (.ref r3), .val (.int cn), .val (.ref r6), .val (.ref r9), uS, uS, uS] [(.ref b12), (.ref b12)])) rfl (by rw [hml]; rfl) (Steps.refl _) (a := b12) (argsL := []) (rest := [(.ref b12)]) (lenOf pd_4 rfl) rfl (by show 2 * 0 + _ ≤ _; exact Nat.le_of_eq rfl) (hb hby at_122) (fun _ _ => ⟨rfl, e12, (by decide : 17 + 0 ≤ _), (by decide : 37 + 0 ≤ _)⟩)
  dsimp only [Pt.U, Pt.locs, Pt.cells, Pt.slots] at X14 l14 y14 z14 st14 hQ14
  subst l14 y14 z14
  obtain ⟨rfl, N14q, K14, F14_0, F14_1, F14_2, F14_3⟩ := hQ14
  have N14 := Fr.app N9 N14q
  have hs16 : ∀ x ∈ ([b12] : List Addr), Safe Z EL T3.vm h12 x := (allS (Safe.exa hZ3.alike A12 (by decide) (by decide)) all0)
  have CR16 : CHr Z EL s.vm h0 T3.vm T14.heap := CR13.trans (CHr.keep K14 hs16 CR13.1)
  refine Goes.tr st14 ?_
  show Goes _ _ _ _ (T14.setTop (mkF m 125 #[.val (.int p0), .val (.int p1), .val (.int p2), .val (.int p3), .val (.int xa), .val (.int xb), .val (.int xc), .val (.int xd), .val (.int ln), .val (.ref r1), .val (.ref r3), .val (.int cn), .val (.ref r6), .val (.ref r9), uS, uS, uS] [(.ref b12)]))
  refine Goes.st (fun sT kT => XS.astore X14.here hx rfl (hb hby at_125) rfl rfl (l' := #[.val (.int p0), .val (.int p1), .val (.int p2), .val (.int p3), .val (.int xa), .val (.int xb), .val (.int xc), .val (.int xd), .val (.int ln), .val (.ref r1), .val (.ref r3), .val (.int cn), .val (.ref r6), .val (.ref r9), .val (.ref b12), uS, uS]) rfl kT) ?_
  show Goes _ _ _ _ (T14.setTop (mkF m 127 #[.val (.int p0), .val (.int p1), .val (.int p2), .val (.int p3), .val (.int xa), .val (.int xb), .val (.int xc), .val (.int xd), .val (.int ln), .val (.ref r1), .val (.ref r3), .val (.int cn), .val (.ref r6), .val (.ref r9), .val (.ref b12), uS, uS] []))
  refine Goes.st (fun sT kT => XS.iload X14.here hx rfl (hb hby at_127) rfl kT) ?_
  show Goes _ _ _ _ (T14.setTop (mkF m 129 #[.val (.int p0), .val (.int p1), .val (.int p2), .val (.int p3), .val (.int xa), .val (.int xb), .val (.int xc), .val (.int xd), .val (.int ln), .val (.ref r1), .val (.ref r3), .val (.int cn), .val (.ref r6), .val (.ref r9), .val (.ref b12), uS, uS] [(.int cn)]))
  refine Goes.st (fun sT kT => XS.iconst X14.here hx rfl (hb hby at_129) kT) ?_
  show Goes _ _ _ _ (T14.setTop (mkF m 130 #[.val (.int p0), .val (.int p1), .val (.int p2), .val (.int p3), .val (.int xa), .val (.int xb), .val (.int xc), .val (.int xd), .val (.int ln), .val (.ref r1), .val (.ref r3), .val (.int cn), .val (.ref r6), .val (.ref r9), .val (.ref b12), uS, uS] [(.int (1 : Int32)), (.int cn)]))
  by_cases cz17 : cn < (1 : Int32)
  case pos =>
   refine Goes.st (fun sT kT => XS.icmpYes X14.here hx rfl (pc0 := 130) (pc' := 143) rfl (hb hby at_130) rfl (tlt cz17).1 (by decide) (by decide) kT) ?_
   show Goes _ _ _ _ (T14.setTop (mkF m 143 #[.val (.int p0), .val (.int p1), .val (.int p2), .val (.int p3), .val (.int xa), .val (.int xb), .val (.int xc), .val (.int xd), .val (.int ln), .val (.ref r1), .val (.ref r3), .val (.int cn), .val (.ref r6), .val (.ref r9), .val (.ref b12), uS, uS] []))
   refine Goes.st (fun sT kT => XS.iload X14.here hx rfl (hb hby at_143) rfl kT) ?_
   show Goes _ _ _ _ (T14.setTop (mkF m 145 #[.val (.int p0), .val (.int p1), .val (.int p2), .val (.int p3), .val (.int xa), .val (.int xb), .val (.int xc), .val (.int xd), .val (.int ln), .val (.ref r1), .val (.ref r3), .val (.int cn), .val (.ref r6), .val (.ref r9), .val (.ref b12), uS, uS] [(.int cn)]))
   refine Goes.st (fun sT kT => XS.iconst X14.here hx rfl (hb hby at_145) kT) ?_
   show Goes _ _ _ _ (T14.setTop (mkF m 146 #[.val (.int p0), .val (.int p1), .val (.int p2), .val (.int p3), .val (.int xa), .val (.int xb), .val (.int xc), .val (.int xd), .val (.int ln), .val (.ref r1), .val (.ref r3), .val (.int cn), .val (.ref r6), .val (.ref r9), .val (.ref b12), uS, uS] [(.int (2 : Int32)), (.int cn)]))
   refine Goes.st (fun sT kT => XS.icmpYes X14.here hx rfl (pc0 := 146) (pc' := 159) rfl (hb hby at_146) rfl (tlt (own_lt2 cz17)).1 (by decide) (by decide) kT) ?_
   show Goes _ _ _ _ (T14.setTop (mkF m 159 #[.val (.int p0), .val (.int p1), .val (.int p2), .val (.int p3), .val (.int xa), .val (.int xb), .val (.int xc), .val (.int xd), .val (.int ln), .val (.ref r1), .val (.ref r3), .val (.int cn), .val (.ref r6), .val (.ref r9), .val (.ref b12), uS, uS] []))
   refine Goes.st (fun sT kT => XS.iload X14.here hx rfl (hb hby at_159) rfl kT) ?_
   show Goes _ _ _ _ (T14.setTop (mkF m 161 #[.val (.int p0), .val (.int p1), .val (.int p2), .val (.int p3), .val (.int xa), .val (.int xb), .val (.int xc), .val (.int xd), .val (.int ln), .val (.ref r1), .val (.ref r3), .val (.int cn), .val (.ref r6), .val (.ref r9), .val (.ref b12), uS, uS] [(.int cn)]))
   refine Goes.st (fun sT kT => XS.iconst X14.here hx rfl (hb hby at_161) kT) ?_
   show Goes _ _ _ _ (T14.setTop (mkF m 162 #[.val (.int p0), .val (.int p1), .val (.int p2), .val (.int p3), .val (.int xa), .val (.int xb), .val (.int xc), .val (.int xd), .val (.int ln), .val (.ref r1), .val (.ref r3), .val (.int cn), .val (.ref r6), .val (.ref r9), .val (.ref b12), uS, uS] [(.int (3 : Int32)), (.int cn)]))
   refine Goes.st (fun sT kT => XS.icmpYes X14.here hx rfl (pc0 := 162) (pc' := 175) rfl (hb hby at_162) rfl (tlt (own_lt3 (own_lt2 cz17))).1 (by decide) (by decide) kT) ?_
   show Goes _ _ _ _ (T14.setTop (mkF m 175 #[.val (.int p0), .val (.int p1), .val (.int p2), .val (.int p3), .val (.int xa), .val (.int xb), .val (.int xc), .val (.int xd), .val (.int ln), .val (.ref r1), .val (.ref r3), .val (.int cn), .val (.ref r6), .val (.ref r9), .val (.ref b12), uS, uS] []))
   refine Goes.st (fun sT kT => XS.aload X14.here hx rfl (hb hby at_175) rfl rfl kT) ?_
   show Goes _ _ _ _ (T14.setTop (mkF m 177 #[.val (.int p0), .val (.int p1), .val (.int p2), .val (.int p3), .val (.int xa), .val (.int xb), .val (.int xc), .val (.int xd), .val (.int ln), .val (.ref r1), .val (.ref r3), .val (.int cn), .val (.ref r6), .val (.ref r9), .val (.ref b12), uS, uS] [(.ref r1)]))
   obtain ⟨_, _, ⟨T18, L18, k18, n18⟩, -, X18, ⟨Lc18, hQ18, l18, y18, z18⟩, st18⟩ := Jvm.LawKit.callS X14 hx (y := (⟨"com/example/indexwerk/indexwerk/engine/TargetLimits$Origin", "of", "(Ljava/lang/String;)Lcom/example/indexwerk/indexwerk/engine/TargetLimits$Origin;"⟩ : MethodName)) hown3 (mvT hZ3 (hw72 hw)) (mvT hZ3 (hw73 hw)) (mvT hZ3 (hw74 hw)) (mvT hZ3 (hw75 hw)) (by decide) (backOf (W := 0) (rm_orig l Z a0 hw [] r1 aL cK T14.heap n0 (Nat.le_trans Z0 (Nat.le_trans (Nat.le_trans (Nat.le_trans (Nat.le_trans (Nat.le_trans K1.1 K3.1) K6.1) K9.1) E12.1) K14.1)) LM) hZ3 (hw75 hw) (hw74 hw) (by decide) (by decide)) (g := (mkF m 177 #[.val (.int p0), .val (.int p1), .val (.int p2), .val (.int p3), .val (.int xa), .val (.int xb), .val (.int xc), .val (.int xd), .val (.int ln), .val (.ref r1), .val (.ref r3), .val (.int cn), .val (.ref r6), .val (.ref r9), .val (.ref b12), uS, uS] [(.ref r1)])) rfl (by rw [hml]; rfl) (argsL := [(.ref r1)]) (rest := []) (lenOf pd_14 rfl) rfl (by show 2 * 0 + _ ≤ _; exact Nat.le_of_eq rfl) (hb hby at_177) (fun _ _ => ⟨rfl, rfl, (by decide : 17 + 1 ≤ _), (by decide : 37 + 2 ≤ _)⟩)
   dsimp only [Pt.U, Pt.locs, Pt.cells, Pt.slots] at X18 l18 y18 z18 st18 hQ18
   subst l18 y18 z18
   obtain ⟨r18, rfl, N18q, K18, F18_0, F18_1, F18_2, lo18_0⟩ := hQ18
   have N18 := Fr.app N14 N18q
   have hs19 : ∀ x ∈ ([] : List Addr), Safe Z EL T3.vm T14.heap x := all0
   have CR19 : CHr Z EL s.vm h0 T3.vm T18.heap := CR16.trans (CHr.keep K18 hs19 CR16.1)
   refine Goes.st st18 ?_
   show Goes _ _ _ _ (T18.setTop (mkF m 180 #[.val (.int p0), .val (.int p1), .val (.int p2), .val (.int p3), .val (.int xa), .val (.int xb), .val (.int xc), .val (.int xd), .val (.int ln), .val (.ref r1), .val (.ref r3), .val (.int cn), .val (.ref r6), .val (.ref r9), .val (.ref b12), uS, uS] [(.ref r18)]))
   refine Goes.st (fun sT kT => XS.astore X18.here hx rfl (hb hby at_180) rfl rfl (l' := #[.val (.int p0), .val (.int p1), .val (.int p2), .val (.int p3), .val (.int xa), .val (.int xb), .val (.int xc), .val (.int xd), .val (.int ln), .val (.ref r1), .val (.ref r3), .val (.int cn), .val (.ref r6), .val (.ref r9), .val (.ref b12), .val (.ref r18), uS]) rfl kT) ?_
   show Goes _ _ _ _ (T18.setTop (mkF m 182 #[.val (.int p0), .val (.int p1), .val (.int p2), .val (.int p3), .val (.int xa), .val (.int xb), .val (.int xc), .val (.int xd), .val (.int ln), .val (.ref r1), .val (.ref r3), .val (.int cn), .val (.ref r6), .val (.ref r9), .val (.ref b12), .val (.ref r18), uS] []))
   refine Goes.st (fun sT kT => XS.aload X18.here hx rfl (hb hby at_182) rfl rfl kT) ?_
   show Goes _ _ _ _ (T18.setTop (mkF m 184 #[.val (.int p0), .val (.int p1), .val (.int p2), .val (.int p3), .val (.int xa), .val (.int xb), .val (.int xc), .val (.int xd), .val (.int ln), .val (.ref r1), .val (.ref r3), .val (.int cn), .val (.ref r6), .val (.ref r9), .val (.ref b12), .val (.ref r18), uS] [(.ref r18)]))
   obtain ⟨cq20, kq20, q20a, q20b, q20c⟩ := isOf hZ3 rfl F18_0
   obtain ⟨_, _, ⟨T20, L20, k20, n20⟩, -, X20, ⟨Lc20, hQ20, l20, y20, z20⟩, st20⟩ := X18.virtualBack hx (y := (⟨"com/example/indexwerk/indexwerk/engine/TargetLimits$Origin", "line", "()Ljava/util/function/Function;"⟩ : MethodName)) (z := (⟨"com/example/indexwerk/indexwerk/engine/TargetLimits$Origin", "line", "()Ljava/util/function/Function;"⟩ : MethodName)) hown3 (mvT hZ3 (hw94 hw)) (mvT hZ3 (hw95 hw)) (notFace_of_selects (args := #[]) (mvT hZ3 (hw97 hw))) (mvT hZ3 (hw97 hw)) (mvT hZ3 (hw96 hw)) (by decide) (backOf (W := 0) (rm_gline l Z a0 hw [] r18 aL T18.heap n0 (Nat.le_trans Z0 (Nat.le_trans (Nat.le_trans (Nat.le_trans (Nat.le_trans (Nat.le_trans (Nat.le_trans K1.1 K3.1) K6.1) K9.1) E12.1) K14.1) K18.1)) F18_2) hZ3 (hw98 hw) (hw74 hw) (by decide) (by decide)) q20a q20c (g := (mkF m 184 #[.val (.int p0), .val (.int p1), .val (.int p2), .val (.int p3), .val (.int xa), .val (.int xb), .val (.int xc), .val (.int xd), .val (.int ln), .val (.ref r1), .val (.ref r3), .val (.int cn), .val (.ref r6), .val (.ref r9), .val (.ref b12), .val (.ref r18), uS] [(.ref r18)])) rfl (by rw [hml]; rfl) (Steps.refl _) (argsL := []) (rest := []) (lenOf pd_15 rfl) rfl (by show 2 * 0 + _ ≤ _; exact Nat.le_of_eq rfl) (hb hby at_184) (fun _ _ => ⟨rfl, rfl, (by decide : 18 + 0 ≤ _), (by decide : 39 + 0 ≤ _)⟩)
   dsimp only [Pt.U, Pt.locs, Pt.cells, Pt.slots] at X20 l20 y20 z20 st20 hQ20
   subst l20 y20 z20
   obtain ⟨rfl, N20q, K20⟩ := hQ20
   have N20 := Fr.app N18 N20q
   refine Goes.tr st20 ?_
   show Goes _ _ _ _ (T20.setTop (mkF m 187 #[.val (.int p0), .val (.int p1), .val (.int p2), .val (.int p3), .val (.int xa), .val (.int xb), .val (.int xc), .val (.int xd), .val (.int ln), .val (.ref r1), .val (.ref r3), .val (.int cn), .val (.ref r6), .val (.ref r9), .val (.ref b12), .val (.ref r18), uS] [(.ref aL)]))
   refine Goes.st (fun sT kT => XS.ifnonnullYes X20.here hx rfl (pc0 := 187) (pc' := 192) rfl (hb hby at_187) rfl (by decide) (by decide) kT) ?_
   show Goes _ _ _ _ (T20.setTop (mkF m 192 #[.val (.int p0), .val (.int p1), .val (.int p2), .val (.int p3), .val (.int xa), .val (.int xb), .val (.int xc), .val (.int xd), .val (.int ln), .val (.ref r1), .val (.ref r3), .val (.int cn), .val (.ref r6), .val (.ref r9), .val (.ref b12), .val (.ref r18), uS] []))
   refine Goes.st (fun sT kT => XS.aload X20.here hx rfl (hb hby at_192) rfl rfl kT) ?_
   show Goes _ _ _ _ (T20.setTop (mkF m 194 #[.val (.int p0), .val (.int p1), .val (.int p2), .val (.int p3), .val (.int xa), .val (.int xb), .val (.int xc), .val (.int xd), .val (.int ln), .val (.ref r1), .val (.ref r3), .val (.int cn), .val (.ref r6), .val (.ref r9), .val (.ref b12), .val (.ref r18), uS] [(.ref r18)]))
   obtain ⟨cq21, kq21, q21a, q21b, q21c⟩ := isOf hZ3 K20 F18_0
   obtain ⟨_, _, ⟨T21, L21, k21, n21⟩, -, X21, ⟨Lc21, hQ21, l21, y21, z21⟩, st21⟩ := X20.virtualBack hx (y := (⟨"com/example/indexwerk/indexwerk/engine/TargetLimits$Origin", "line", "()Ljava/util/function/Function;"⟩ : MethodName)) (z := (⟨"com/example/indexwerk/indexwerk/engine/TargetLimits$Origin", "line", "()Ljava/util/function/Function;"⟩ : MethodName)) hown3 (mvT hZ3 (hw94 hw)) (mvT hZ3 (hw95 hw)) (notFace_of_selects (args := #[]) (mvT hZ3 (hw97 hw))) (mvT hZ3 (hw97 hw)) (mvT hZ3 (hw96 hw)) (by decide) (backOf (W := 0) (rm_gline l Z a0 hw [] r18 aL T18.heap n0 (Nat.le_trans Z0 (Nat.le_trans (Nat.le_trans (Nat.le_trans (Nat.le_trans (Nat.le_trans (Nat.le_trans K1.1 K3.1) K6.1) K9.1) E12.1) K14.1) K18.1)) F18_2) hZ3 (hw98 hw) (hw74 hw) (by decide) (by decide)) q21a q21c (g := (mkF m 194 #[.val (.int p0), .val (.int p1), .val (.int p2), .val (.int p3), .val (.int xa), .val (.int xb), .val (.int xc), .val (.int xd), .val (.int ln), .val (.ref r1), .val (.ref r3), .val (.int cn), .val (.ref r6), .val (.ref r9), .val (.ref b12), .val (.ref r18), uS] [(.ref r18)])) rfl (by rw [hml]; rfl) (Steps.refl _) (argsL := []) (rest := []) (lenOf pd_15 rfl) rfl (by show 2 * 0 + _ ≤ _; exact Nat.le_of_eq rfl) (hb hby at_194) (fun _ _ => ⟨rfl, K20, (by decide : 18 + 0 ≤ _), (by decide : 39 + 0 ≤ _)⟩)
   dsimp only [Pt.U, Pt.locs, Pt.cells, Pt.slots] at X21 l21 y21 z21 st21 hQ21
   subst l21 y21 z21
   obtain ⟨rfl, N21q, K21⟩ := hQ21
   have N21 := Fr.app N20 N21q
   refine Goes.tr st21 ?_
   show Goes _ _ _ _ (T21.setTop (mkF m 197 #[.val (.int p0), .val (.int p1), .val (.int p2), .val (.int p3), .val (.int xa), .val (.int xb), .val (.int xc), .val (.int xd), .val (.int ln), .val (.ref r1), .val (.ref r3), .val (.int cn), .val (.ref r6), .val (.ref r9), .val (.ref b12), .val (.ref r18), uS] [(.ref aL)]))
   refine Goes.st (fun sT kT => XS.aload X21.here hx rfl (hb hby at_197) rfl rfl kT) ?_
   show Goes _ _ _ _ (T21.setTop (mkF m 199 #[.val (.int p0), .val (.int p1), .val (.int p2), .val (.int p3), .val (.int xa), .val (.int xb), .val (.int xc), .val (.int xd), .val (.int ln), .val (.ref r1), .val (.ref r3), .val (.int cn), .val (.ref r6), .val (.ref r9), .val (.ref b12), .val (.ref r18), uS] [(.ref b12), (.ref aL)]))
   have f24 : Exa Z T18.heap b12 "java/util/ArrayList" := (F14_0.keep K18)
   have f25 : Old Z n0 T18.heap := ((f15.keep K14 (allS (Nat.le_trans Z0 (Nat.le_trans (Nat.le_trans (Nat.le_trans (Nat.le_trans K1.1 K3.1) K6.1) K9.1) (Nat.le_of_eq g12.symm))) all0)).keep K18 all0)
   obtain ⟨T23, L23, X23, N23q, e23, st23⟩ := own_apply X21 hx hZ3 hw hown3 K21 (Nat.le_trans Z0 (Nat.le_trans (Nat.le_trans (Nat.le_trans (Nat.le_trans (Nat.le_trans (Nat.le_trans K1.1 K3.1) K6.1) K9.1) E12.1) K14.1) K18.1)) LM EO f25 f24 (g := (mkF m 199 #[.val (.int p0), .val (.int p1), .val (.int p2), .val (.int p3), .val (.int xa), .val (.int xb), .val (.int xc), .val (.int xd), .val (.int ln), .val (.ref r1), .val (.ref r3), .val (.int cn), .val (.ref r6), .val (.ref r9), .val (.ref b12), .val (.ref r18), uS] [(.ref b12), (.ref aL)])) rfl (by rw [hml]; rfl) (rest := []) rfl (hb hby at_199) (by decide) (by show 2 * 0 + 0 + (2 + 11) + ((1 + 11) + 11) ≤ 3264; decide) (by decide) (by decide)
   have N23 := Fr.app N21 N23q
   refine Goes.st st23 ?_
   show Goes _ _ _ _ (T23.setTop (mkF m 204 #[.val (.int p0), .val (.int p1), .val (.int p2), .val (.int p3), .val (.int xa), .val (.int xb), .val (.int xc), .val (.int xd), .val (.int ln), .val (.ref r1), .val (.ref r3), .val (.int cn), .val (.ref r6), .val (.ref r9), .val (.ref b12), .val (.ref r18), uS] [(.ref eO)]))
   have G26 : Exa Z T18.heap eO "java/util/OptionalInt" := EO.2.1.ext f25.2
   have G27 : Fld Z T18.heap eO "java/util/OptionalInt" "isPresent" "Z" (.int (0 : Int32)) := EO.2.2.ext f25.2
   obtain ⟨T28, X28, e28, st28⟩ := castY X23 hx hZ3 hown3 (hw110 hw) e23 (Ins.self G26) (g := (mkF m 204 #[.val (.int p0), .val (.int p1), .val (.int p2), .val (.int p3), .val (.int xa), .val (.int xb), .val (.int xc), .val (.int xd), .val (.int ln), .val (.ref r1), .val (.ref r3), .val (.int cn), .val (.ref r6), .val (.ref r9), .val (.ref b12), .val (.ref r18), uS] [(.ref eO)])) rfl rfl (hb hby at_204)
   refine Goes.st st28 ?_
   show Goes _ _ _ _ (T28.setTop (mkF m 207 #[.val (.int p0), .val (.int p1), .val (.int p2), .val (.int p3), .val (.int xa), .val (.int xb), .val (.int xc), .val (.int xd), .val (.int ln), .val (.ref r1), .val (.ref r3), .val (.int cn), .val (.ref r6), .val (.ref r9), .val (.ref b12), .val (.ref r18), uS] [(.ref eO)]))
   refine Goes.st (fun sT kT => XS.astore X28.here hx rfl (hb hby at_207) rfl rfl (l' := #[.val (.int p0), .val (.int p1), .val (.int p2), .val (.int p3), .val (.int xa), .val (.int xb), .val (.int xc), .val (.int xd), .val (.int ln), .val (.ref r1), .val (.ref r3), .val (.int cn), .val (.ref r6), .val (.ref r9), .val (.ref b12), .val (.ref r18), .val (.ref eO)]) rfl kT) ?_
   show Goes _ _ _ _ (T28.setTop (mkF m 209 #[.val (.int p0), .val (.int p1), .val (.int p2), .val (.int p3), .val (.int xa), .val (.int xb), .val (.int xc), .val (.int xd), .val (.int ln), .val (.ref r1), .val (.ref r3), .val (.int cn), .val (.ref r6), .val (.ref r9), .val (.ref b12), .val (.ref r18), .val (.ref eO)] []))
   refine Goes.st (fun sT kT => XS.aload X28.here hx rfl (hb hby at_209) rfl rfl kT) ?_
   show Goes _ _ _ _ (T28.setTop (mkF m 211 #[.val (.int p0), .val (.int p1), .val (.int p2), .val (.int p3), .val (.int xa), .val (.int xb), .val (.int xc), .val (.int xd), .val (.int ln), .val (.ref r1), .val (.ref r3), .val (.int cn), .val (.ref r6), .val (.ref r9), .val (.ref b12), .val (.ref r18), .val (.ref eO)] [(.ref r18)]))
   obtain ⟨cq29, kq29, q29a, q29b, q29c⟩ := isOf hZ3 e28 F18_0
   obtain ⟨_, _, ⟨T29, L29, k29, n29⟩, -, X29, ⟨Lc29, hQ29, l29, y29, z29⟩, st29⟩ := X28.virtualBack hx (y := (⟨"com/example/indexwerk/indexwerk/engine/TargetLimits$Origin", "file", "()Ljava/lang/String;"⟩ : MethodName)) (z := (⟨"com/example/indexwerk/indexwerk/engine/TargetLimits$Origin", "file", "()Ljava/lang/String;"⟩ : MethodName)) hown3 (mvT hZ3 (hw112 hw)) (mvT hZ3 (hw113 hw)) (notFace_of_selects (args := #[]) (mvT hZ3 (hw115 hw))) (mvT hZ3 (hw115 hw)) (mvT hZ3 (hw114 hw)) (by decide) (backOf (W := 0) (rm_gfile l Z a0 hw [] r18 r1 T18.heap n0 (Nat.le_trans Z0 (Nat.le_trans (Nat.le_trans (Nat.le_trans (Nat.le_trans (Nat.le_trans (Nat.le_trans K1.1 K3.1) K6.1) K9.1) E12.1) K14.1) K18.1)) F18_1) hZ3 (hw116 hw) (hw74 hw) (by decide) (by decide)) q29a q29c (g := (mkF m 211 #[.val (.int p0), .val (.int p1), .val (.int p2), .val (.int p3), .val (.int xa), .val (.int xb), .val (.int xc), .val (.int xd), .val (.int ln), .val (.ref r1), .val (.ref r3), .val (.int cn), .val (.ref r6), .val (.ref r9), .val (.ref b12), .val (.ref r18), .val (.ref eO)] [(.ref r18)])) rfl (by rw [hml]; rfl) (Steps.refl _) (argsL := []) (rest := []) (lenOf pd_16 rfl) rfl (by show 2 * 0 + _ ≤ _; exact Nat.le_of_eq rfl) (hb hby at_211) (fun _ _ => ⟨rfl, e28, (by decide : 18 + 0 ≤ _), (by decide : 39 + 0 ≤ _)⟩)
   dsimp only [Pt.U, Pt.locs, Pt.cells, Pt.slots] at X29 l29 y29 z29 st29 hQ29
   subst l29 y29 z29
   obtain ⟨rfl, N29q, K29⟩ := hQ29
   have N29 := Fr.app N23 N29q
   refine Goes.tr st29 ?_
   show Goes _ _ _ _ (T29.setTop (mkF m 214 #[.val (.int p0), .val (.int p1), .val (.int p2), .val (.int p3), .val (.int xa), .val (.int xb), .val (.int xc), .val (.int xd), .val (.int ln), .val (.ref r1), .val (.ref r3), .val (.int cn), .val (.ref r6), .val (.ref r9), .val (.ref b12), .val (.ref r18), .val (.ref eO)] [(.ref r1)]))
   refine Goes.st (fun sT kT => XS.ifnullNo X29.here hx rfl (hb hby at_214) rfl kT) ?_
   show Goes _ _ _ _ (T29.setTop (mkF m 217 #[.val (.int p0), .val (.int p1), .val (.int p2), .val (.int p3), .val (.int xa), .val (.int xb), .val (.int xc), .val (.int xd), .val (.int ln), .val (.ref r1), .val (.ref r3), .val (.int cn), .val (.ref r6), .val (.ref r9), .val (.ref b12), .val (.ref r18), .val (.ref eO)] []))
   refine Goes.st (fun sT kT => XS.aload X29.here hx rfl (hb hby at_217) rfl rfl kT) ?_
   show Goes _ _ _ _ (T29.setTop (mkF m 219 #[.val (.int p0), .val (.int p1), .val (.int p2), .val (.int p3), .val (.int xa), .val (.int xb), .val (.int xc), .val (.int xd), .val (.int ln), .val (.ref r1), .val (.ref r3), .val (.int cn), .val (.ref r6), .val (.ref r9), .val (.ref b12), .val (.ref r18), .val (.ref eO)] [(.ref r18)]))
   obtain ⟨cq30, kq30, q30a, q30b, q30c⟩ := isOf hZ3 K29 F18_0
   obtain ⟨_, _, ⟨T30, L30, k30, n30⟩, -, X30, ⟨Lc30, hQ30, l30, y30, z30⟩, st30⟩ := X29.virtualBack hx (y := (⟨"com/example/indexwerk/indexwerk/engine/TargetLimits$Origin", "file", "()Ljava/lang/String;"⟩ : MethodName)) (z := (⟨"com/example/indexwerk/indexwerk/engine/TargetLimits$Origin", "file", "()Ljava/lang/String;"⟩ : MethodName)) hown3 (mvT hZ3 (hw112 hw)) (mvT hZ3 (hw113 hw)) (notFace_of_selects (args := #[]) (mvT hZ3 (hw115 hw))) (mvT hZ3 (hw115 hw)) (mvT hZ3 (hw114 hw)) (by decide) (backOf (W := 0) (rm_gfile l Z a0 hw [] r18 r1 T18.heap n0 (Nat.le_trans Z0 (Nat.le_trans (Nat.le_trans (Nat.le_trans (Nat.le_trans (Nat.le_trans (Nat.le_trans K1.1 K3.1) K6.1) K9.1) E12.1) K14.1) K18.1)) F18_1) hZ3 (hw116 hw) (hw74 hw) (by decide) (by decide)) q30a q30c (g := (mkF m 219 #[.val (.int p0), .val (.int p1), .val (.int p2), .val (.int p3), .val (.int xa), .val (.int xb), .val (.int xc), .val (.int xd), .val (.int ln), .val (.ref r1), .val (.ref r3), .val (.int cn), .val (.ref r6), .val (.ref r9), .val (.ref b12), .val (.ref r18), .val (.ref eO)] [(.ref r18)])) rfl (by rw [hml]; rfl) (Steps.refl _) (argsL := []) (rest := []) (lenOf pd_16 rfl) rfl (by show 2 * 0 + _ ≤ _; exact Nat.le_of_eq rfl) (hb hby at_219) (fun _ _ => ⟨rfl, K29, (by decide : 18 + 0 ≤ _), (by decide : 39 + 0 ≤ _)⟩)
   dsimp only [Pt.U, Pt.locs, Pt.cells, Pt.slots] at X30 l30 y30 z30 st30 hQ30
   subst l30 y30 z30
   obtain ⟨rfl, N30q, K30⟩ := hQ30
   have N30 := Fr.app N29 N30q
   refine Goes.tr st30 ?_
   show Goes _ _ _ _ (T30.setTop (mkF m 222 #[.val (.int p0), .val (.int p1), .val (.int p2), .val (.int p3), .val (.int xa), .val (.int xb), .val (.int xc), .val (.int xd), .val (.int ln), .val (.ref r1), .val (.ref r3), .val (.int cn), .val (.ref r6), .val (.ref r9), .val (.ref b12), .val (.ref r18), .val (.ref eO)] [(.ref r1)]))
   refine Goes.st (fun sT kT => XS.aload X30.here hx rfl (hb hby at_222) rfl rfl kT) ?_
   show Goes _ _ _ _ (T30.setTop (mkF m 224 #[.val (.int p0), .val (.int p1), .val (.int p2), .val (.int p3), .val (.int xa), .val (.int xb), .val (.int xc), .val (.int xd), .val (.int ln), .val (.ref r1), .val (.ref r3), .val (.int cn), .val (.ref r6), .val (.ref r9), .val (.ref b12), .val (.ref r18), .val (.ref eO)] [(.ref r3), (.ref r1)]))
   have f32 : Str Z T18.heap r1 t1 kb1 (own_tx ln xa xb xc xd) := ((((((F1_0.keep K3 nin0 nin0).keep K6 nin0 nin0).keep K9 nin0 nin0).ext E12).keep K14 (ninS (Nat.ne_of_lt (Nat.lt_of_lt_of_le F1_0.1.lt (Nat.le_trans (Nat.le_trans (Nat.le_trans K3.1 K6.1) K9.1) (Nat.le_of_eq g12.symm)))) nin0) (ninS (Nat.ne_of_lt (Nat.lt_of_lt_of_le F1_0.ltT (Nat.le_trans (Nat.le_trans (Nat.le_trans K3.1 K6.1) K9.1) (Nat.le_of_eq g12.symm)))) nin0)).keep K18 nin0 nin0)
   have f33 : Str Z T18.heap r3 t3 kb3 (own_tx ln xa xb xc xd) := (((((F3_0.keep K6 nin0 nin0).keep K9 nin0 nin0).ext E12).keep K14 (ninS (Nat.ne_of_lt (Nat.lt_of_lt_of_le F3_0.1.lt (Nat.le_trans (Nat.le_trans K6.1 K9.1) (Nat.le_of_eq g12.symm)))) nin0) (ninS (Nat.ne_of_lt (Nat.lt_of_lt_of_le F3_0.ltT (Nat.le_trans (Nat.le_trans K6.1 K9.1) (Nat.le_of_eq g12.symm)))) nin0)).keep K18 nin0 nin0)
   have f34 : Exa Z T18.heap r1 "java/lang/String" := ((((((F1_0E.keep K3).keep K6).keep K9).ext E12).keep K14).keep K18)
   obtain ⟨cq31, kq31, q31a, q31b, q31c⟩ := isOf hZ3 K30 f34
   obtain ⟨_, _, ⟨T31, L31, k31, n31⟩, -, X31, ⟨Lc31, hQ31, l31, y31, z31⟩, st31⟩ := X30.virtualBack hx (y := (⟨"java/lang/String", "equals", "(Ljava/lang/Object;)Z"⟩ : MethodName)) (z := (⟨"java/lang/String", "equals", "(Ljava/lang/Object;)Z"⟩ : MethodName)) hown3 (mvT hZ3 (hw117 hw)) (mvT hZ3 (hw118 hw)) (notFace_of_selects (args := #[]) (mvT hZ3 (hw120 hw))) (mvT hZ3 (hw120 hw)) (mvT hZ3 (hw119 hw)) (by decide) (StrChars.Road.eqW (W := 0) hZ3 (own_heq hw) (kI := 4) (hw5 hw) f32.1 f32.2.1 f32.2.2.1 f32.2.2.2.1 (own_cod f32) (own_up f32.2.2.2.2.1) f32.2.2.2.2.2 f33.1 f33.2.1 f33.2.2.1 f33.2.2.2.1 (own_cod f33) (own_up f33.2.2.2.2.1) f33.2.2.2.2.2 (O2.ext f25.2) P5 (by decide) (by decide)) q31a q31c (g := (mkF m 224 #[.val (.int p0), .val (.int p1), .val (.int p2), .val (.int p3), .val (.int xa), .val (.int xb), .val (.int xc), .val (.int xd), .val (.int ln), .val (.ref r1), .val (.ref r3), .val (.int cn), .val (.ref r6), .val (.ref r9), .val (.ref b12), .val (.ref r18), .val (.ref eO)] [(.ref r3), (.ref r1)])) rfl (by rw [hml]; rfl) (Steps.refl _) (argsL := [(.ref r3)]) (rest := []) (lenOf pd_17 rfl) rfl (by show 2 * 0 + _ ≤ _; exact Nat.le_of_eq rfl) (hb hby at_224) (fun _ _ => ⟨rfl, K30, (by decide : 18 + 0 ≤ _), (by decide : 39 + 0 ≤ _)⟩)
   dsimp only [Pt.U, Pt.locs, Pt.cells, Pt.slots] at X31 l31 y31 z31 st31 hQ31
   subst l31 y31 z31
   obtain ⟨hv31, rfl, K31⟩ := hQ31
   have hv31' := own_ite hv31
   rw [if_pos rfl] at hv31'
   subst hv31'
   have N31 := Fr.app N30 (Fr.nil n0)
   refine Goes.tr st31 ?_
   show Goes _ _ _ _ (T31.setTop (mkF m 227 #[.val (.int p0), .val (.int p1), .val (.int p2), .val (.int p3), .val (.int xa), .val (.int xb), .val (.int xc), .val (.int xd), .val (.int ln), .val (.ref r1), .val (.ref r3), .val (.int cn), .val (.ref r6), .val (.ref r9), .val (.ref b12), .val (.ref r18), .val (.ref eO)] [(.int (1 : Int32))]))
   refine Goes.st (fun sT kT => XS.ifNo X31.here hx rfl (hb hby at_227) rfl ((if0 _ _).trans (feq (by decide : ¬ ((1 : Int32) = (0 : Int32)))).1) kT) ?_
   show Goes _ _ _ _ (T31.setTop (mkF m 230 #[.val (.int p0), .val (.int p1), .val (.int p2), .val (.int p3), .val (.int xa), .val (.int xb), .val (.int xc), .val (.int xd), .val (.int ln), .val (.ref r1), .val (.ref r3), .val (.int cn), .val (.ref r6), .val (.ref r9), .val (.ref b12), .val (.ref r18), .val (.ref eO)] []))
   refine Goes.st (fun sT kT => XS.aload X31.here hx rfl (hb hby at_230) rfl rfl kT) ?_
   show Goes _ _ _ _ (T31.setTop (mkF m 232 #[.val (.int p0), .val (.int p1), .val (.int p2), .val (.int p3), .val (.int xa), .val (.int xb), .val (.int xc), .val (.int xd), .val (.int ln), .val (.ref r1), .val (.ref r3), .val (.int cn), .val (.ref r6), .val (.ref r9), .val (.ref b12), .val (.ref r18), .val (.ref eO)] [(.ref eO)]))
   refine Goes.st (fun sT kT => XS.ifnullNo X31.here hx rfl (hb hby at_232) rfl kT) ?_
   show Goes _ _ _ _ (T31.setTop (mkF m 235 #[.val (.int p0), .val (.int p1), .val (.int p2), .val (.int p3), .val (.int xa), .val (.int xb), .val (.int xc), .val (.int xd), .val (.int ln), .val (.ref r1), .val (.ref r3), .val (.int cn), .val (.ref r6), .val (.ref r9), .val (.ref b12), .val (.ref r18), .val (.ref eO)] []))
   refine Goes.st (fun sT kT => XS.aload X31.here hx rfl (hb hby at_235) rfl rfl kT) ?_
   show Goes _ _ _ _ (T31.setTop (mkF m 237 #[.val (.int p0), .val (.int p1), .val (.int p2), .val (.int p3), .val (.int xa), .val (.int xb), .val (.int xc), .val (.int xd), .val (.int ln), .val (.ref r1), .val (.ref r3), .val (.int cn), .val (.ref r6), .val (.ref r9), .val (.ref b12), .val (.ref r18), .val (.ref eO)] [(.ref eO)]))
   obtain ⟨cq35, kq35, q35a, q35b, q35c⟩ := isOf hZ3 K31 G26
   obtain ⟨_, _, ⟨T35, L35, k35, n35⟩, -, X35, ⟨Lc35, hQ35, l35, y35, z35⟩, st35⟩ := X31.virtualBack hx (y := (⟨"java/util/OptionalInt", "isPresent", "()Z"⟩ : MethodName)) (z := (⟨"java/util/OptionalInt", "isPresent", "()Z"⟩ : MethodName)) hown3 (mvT hZ3 (hw125 hw)) (mvT hZ3 (hw126 hw)) (notFace_of_selects (args := #[]) (mvT hZ3 (hw128 hw))) (mvT hZ3 (hw128 hw)) (mvT hZ3 (hw127 hw)) (by decide) (backOf (W := 0) (rm_ispr l Z a0 hw [] eO (0 : Int32) T18.heap n0 (Nat.le_trans Z0 (Nat.le_trans (Nat.le_trans (Nat.le_trans (Nat.le_trans (Nat.le_trans (Nat.le_trans K1.1 K3.1) K6.1) K9.1) E12.1) K14.1) K18.1)) G27 (Or.inl rfl)) hZ3 (hw129 hw) (hw107 hw) (by decide) (by decide)) q35a q35c (g := (mkF m 237 #[.val (.int p0), .val (.int p1), .val (.int p2), .val (.int p3), .val (.int xa), .val (.int xb), .val (.int xc), .val (.int xd), .val (.int ln), .val (.ref r1), .val (.ref r3), .val (.int cn), .val (.ref r6), .val (.ref r9), .val (.ref b12), .val (.ref r18), .val (.ref eO)] [(.ref eO)])) rfl (by rw [hml]; rfl) (Steps.refl _) (argsL := []) (rest := []) (lenOf pd_18 rfl) rfl (by show 2 * 0 + _ ≤ _; exact Nat.le_of_eq rfl) (hb hby at_237) (fun _ _ => ⟨rfl, K31, (by decide : 18 + 0 ≤ _), (by decide : 39 + 0 ≤ _)⟩)
   dsimp only [Pt.U, Pt.locs, Pt.cells, Pt.slots] at X35 l35 y35 z35 st35 hQ35
   subst l35 y35 z35
   obtain ⟨rfl, N35q, K35⟩ := hQ35
   have N35 := Fr.app N31 N35q
   refine Goes.tr st35 ?_
   show Goes _ _ _ _ (T35.setTop (mkF m 240 #[.val (.int p0), .val (.int p1), .val (.int p2), .val (.int p3), .val (.int xa), .val (.int xb), .val (.int xc), .val (.int xd), .val (.int ln), .val (.ref r1), .val (.ref r3), .val (.int cn), .val (.ref r6), .val (.ref r9), .val (.ref b12), .val (.ref r18), .val (.ref eO)] [(.int (0 : Int32))]))
   refine Goes.st (fun sT kT => XS.ifNo X35.here hx rfl (hb hby at_240) rfl ((if0 _ _).trans (teq (by decide : (0 : Int32) = (0 : Int32))).2) kT) ?_
   show Goes _ _ _ _ (T35.setTop (mkF m 243 #[.val (.int p0), .val (.int p1), .val (.int p2), .val (.int p3), .val (.int xa), .val (.int xb), .val (.int xc), .val (.int xd), .val (.int ln), .val (.ref r1), .val (.ref r3), .val (.int cn), .val (.ref r6), .val (.ref r9), .val (.ref b12), .val (.ref r18), .val (.ref eO)] []))
   refine Goes.st (fun sT kT => XS.iconst X35.here hx rfl (hb hby at_243) kT) ?_
   show Goes _ _ _ _ (T35.setTop (mkF m 244 #[.val (.int p0), .val (.int p1), .val (.int p2), .val (.int p3), .val (.int xa), .val (.int xb), .val (.int xc), .val (.int xd), .val (.int ln), .val (.ref r1), .val (.ref r3), .val (.int cn), .val (.ref r6), .val (.ref r9), .val (.ref b12), .val (.ref r18), .val (.ref eO)] [(.int (1 : Int32))]))
   refine Goes.st (fun sT kT => XS.goto X35.here hx rfl (pc0 := 244) (pc' := 248) rfl (hb hby at_244) (by decide) (by decide) kT) ?_
   show Goes _ _ _ _ (T35.setTop (mkF m 248 #[.val (.int p0), .val (.int p1), .val (.int p2), .val (.int p3), .val (.int xa), .val (.int xb), .val (.int xc), .val (.int xd), .val (.int ln), .val (.ref r1), .val (.ref r3), .val (.int cn), .val (.ref r6), .val (.ref r9), .val (.ref b12), .val (.ref r18), .val (.ref eO)] [(.int (1 : Int32))]))
   obtain ⟨fs, hr, hrun, hended, hRW⟩ := X35.leaveW hS3 (by rw [K35]; exact (Nat.le_trans (Nat.le_trans (Nat.le_trans (Nat.le_trans (Nat.le_trans (Nat.le_refl _) K6.1) K9.1) E12.1) K14.1) K18.1)) (v := some (.int (1 : Int32))) (fun h => by rw [Bd.returns] at h; cases h)
   subst hQQ
   have hCR : CHr Z EL s.vm s.heap T35.vm T35.heap := by rw [hh, K35]; exact CR19.trans (CHv.at X35 hZ3 (own_EW hw) CR19.1)
   refine ⟨_, _, retN X35 hx (t := .boolean) Bd.returns (by simp) (hb hby at_248) hr, hrun, hended, _, _, rfl, ?_, hCR, own_REmono hRW (by decide) (by decide)⟩
   show Q_law Z p0 p1 p2 p3 G1 aD kD aL cK eO h0 n0 _ T35.heap _
   rw [K35]
   exact ⟨rfl, N35⟩
  case neg =>
   refine Goes.st (fun sT kT => XS.icmpNo X14.here hx rfl (hb hby at_130) rfl (flt cz17).1 kT) ?_
   show Goes _ _ _ _ (T14.setTop (mkF m 133 #[.val (.int p0), .val (.int p1), .val (.int p2), .val (.int p3), .val (.int xa), .val (.int xb), .val (.int xc), .val (.int xd), .val (.int ln), .val (.ref r1), .val (.ref r3), .val (.int cn), .val (.ref r6), .val (.ref r9), .val (.ref b12), uS, uS] []))
   refine Goes.st (fun sT kT => XS.aload X14.here hx rfl (hb hby at_133) rfl rfl kT) ?_
   show Goes _ _ _ _ (T14.setTop (mkF m 135 #[.val (.int p0), .val (.int p1), .val (.int p2), .val (.int p3), .val (.int xa), .val (.int xb), .val (.int xc), .val (.int xd), .val (.int ln), .val (.ref r1), .val (.ref r3), .val (.int cn), .val (.ref r6), .val (.ref r9), .val (.ref b12), uS, uS] [(.ref b12)]))
   refine Goes.st (fun sT kT => XS.aload X14.here hx rfl (hb hby at_135) rfl rfl kT) ?_
   show Goes _ _ _ _ (T14.setTop (mkF m 137 #[.val (.int p0), .val (.int p1), .val (.int p2), .val (.int p3), .val (.int xa), .val (.int xb), .val (.int xc), .val (.int xd), .val (.int ln), .val (.ref r1), .val (.ref r3), .val (.int cn), .val (.ref r6), .val (.ref r9), .val (.ref b12), uS, uS] [(.ref r6), (.ref b12)]))
   have f37 : Arv Z T14.heap aD kD (.object "java/lang/Object") (0 : Int32) [] .null := ((((((P1.keep K1 nin0).keep K3 nin0).keep K6 nin0).keep K9 nin0).ext E12).keep K14 (ninS (Nat.ne_of_lt (Nat.lt_of_lt_of_le P1.lt (Nat.le_trans (Nat.le_trans (Nat.le_trans (Nat.le_trans K1.1 K3.1) K6.1) K9.1) (Nat.le_of_eq g12.symm)))) nin0))
   have f38 : Exa Z T14.heap r6 "java/lang/String" := (((F6_0E.keep K9).ext E12).keep K14)
   have f39 : Old Z n0 T14.heap := (f15.keep K14 (allS (Nat.le_trans Z0 (Nat.le_trans (Nat.le_trans (Nat.le_trans (Nat.le_trans K1.1 K3.1) K6.1) K9.1) (Nat.le_of_eq g12.symm))) all0))
   obtain ⟨cq36, kq36, q36a, q36b, q36c⟩ := isOf hZ3 rfl F14_0
   obtain ⟨_, _, ⟨T36, L36, k36, n36⟩, -, X36, ⟨Lc36, hQ36, l36, y36, z36⟩, st36⟩ := X14.interfaceBack hx (xi := (⟨"java/util/List", "add", "(Ljava/lang/Object;)Z"⟩ : MethodName)) (y := (⟨"java/util/ArrayList", "add", "(Ljava/lang/Object;)Z"⟩ : MethodName)) hown3 (mvT hZ3 (hw135 hw)) (mvT hZ3 (hw136 hw)) (mvT hZ3 (hw137 hw)) (mvT hZ3 (hw138 hw)) (mvT hZ3 (hw139 hw)) (mvT hZ3 (hw140 hw)) (mvT hZ3 (hw141 hw)) (mvT hZ3 (hw102 hw)) (by decide) (backOf (W := 0) (rm_add1 l Z a0 hw [] b12 r6 (0 : Int32) aD kD T14.heap n0 (Nat.le_trans Z0 (Nat.le_trans (Nat.le_trans (Nat.le_trans (Nat.le_trans (Nat.le_trans K1.1 K3.1) K6.1) K9.1) E12.1) K14.1)) F14_0 F14_1 F14_2 F14_3 f37 f38 f39 (Nat.le_trans Z0 (Nat.le_trans (Nat.le_trans (Nat.le_trans (Nat.le_trans K1.1 K3.1) K6.1) K9.1) (Nat.le_of_eq g12.symm))) OD) hZ3 (hw142 hw) (hw50 hw) (by decide) (by decide)) q36a q36b q36c (g := (mkF m 137 #[.val (.int p0), .val (.int p1), .val (.int p2), .val (.int p3), .val (.int xa), .val (.int xb), .val (.int xc), .val (.int xd), .val (.int ln), .val (.ref r1), .val (.ref r3), .val (.int cn), .val (.ref r6), .val (.ref r9), .val (.ref b12), uS, uS] [(.ref r6), (.ref b12)])) rfl (by rw [hml]; rfl) (Steps.refl _) (argsL := [(.ref r6)]) (rest := []) (lenOf pd_17 rfl) rfl (by show 2 * 0 + _ ≤ _; exact Nat.le_of_eq rfl) (hb hby at_137) (fun _ _ => ⟨rfl, rfl, (by decide : 17 + 1 ≤ _), (by decide : 37 + 10 ≤ _)⟩)
   dsimp only [Pt.U, Pt.locs, Pt.cells, Pt.slots] at X36 l36 y36 z36 st36 hQ36
   subst l36 y36 z36
   obtain ⟨ar36, kA36, rfl, N36q, K36, F36_0, F36_1, F36_2, F36_3, F36_4, lo36_0, ov_36⟩ := hQ36
   have N36 := Fr.app N14 N36q
   have hs40 : ∀ x ∈ ([b12] : List Addr), Safe Z EL T3.vm T14.heap x := (allS (Safe.exa hZ3.alike F14_0 (by decide) (by decide)) all0)
   have CR40 : CHr Z EL s.vm h0 T3.vm T36.heap := CR16.trans (CHr.keep K36 hs40 CR16.1)
   refine Goes.tr st36 ?_
   show Goes _ _ _ _ (T36.setTop (mkF m 142 #[.val (.int p0), .val (.int p1), .val (.int p2), .val (.int p3), .val (.int xa), .val (.int xb), .val (.int xc), .val (.int xd), .val (.int ln), .val (.ref r1), .val (.ref r3), .val (.int cn), .val (.ref r6), .val (.ref r9), .val (.ref b12), uS, uS] [(.int (1 : Int32))]))
   refine Goes.st (fun sT kT => XS.pop X36.here hx rfl (hb hby at_142) rfl rfl kT) ?_
   show Goes _ _ _ _ (T36.setTop (mkF m 143 #[.val (.int p0), .val (.int p1), .val (.int p2), .val (.int p3), .val (.int xa), .val (.int xb), .val (.int xc), .val (.int xd), .val (.int ln), .val (.ref r1), .val (.ref r3), .val (.int cn), .val (.ref r6), .val (.ref r9), .val (.ref b12), uS, uS] []))
   refine Goes.st (fun sT kT => XS.iload X36.here hx rfl (hb hby at_143) rfl kT) ?_
   show Goes _ _ _ _ (T36.setTop (mkF m 145 #[.val (.int p0), .val (.int p1), .val (.int p2), .val (.int p3), .val (.int xa), .val (.int xb), .val (.int xc), .val (.int xd), .val (.int ln), .val (.ref r1), .val (.ref r3), .val (.int cn), .val (.ref r6), .val (.ref r9), .val (.ref b12), uS, uS] [(.int cn)]))
   refine Goes.st (fun sT kT => XS.iconst X36.here hx rfl (hb hby at_145) kT) ?_
   show Goes _ _ _ _ (T36.setTop (mkF m 146 #[.val (.int p0), .val (.int p1), .val (.int p2), .val (.int p3), .val (.int xa), .val (.int xb), .val (.int xc), .val (.int xd), .val (.int ln), .val (.ref r1), .val (.ref r3), .val (.int cn), .val (.ref r6), .val (.ref r9), .val (.ref b12), uS, uS] [(.int (2 : Int32)), (.int cn)]))
   by_cases cz41 : cn < (2 : Int32)
   case pos =>
    refine Goes.st (fun sT kT => XS.icmpYes X36.here hx rfl (pc0 := 146) (pc' := 159) rfl (hb hby at_146) rfl (tlt cz41).1 (by decide) (by decide) kT) ?_
    show Goes _ _ _ _ (T36.setTop (mkF m 159 #[.val (.int p0), .val (.int p1), .val (.int p2), .val (.int p3), .val (.int xa), .val (.int xb), .val (.int xc), .val (.int xd), .val (.int ln), .val (.ref r1), .val (.ref r3), .val (.int cn), .val (.ref r6), .val (.ref r9), .val (.ref b12), uS, uS] []))
    refine Goes.st (fun sT kT => XS.iload X36.here hx rfl (hb hby at_159) rfl kT) ?_
    show Goes _ _ _ _ (T36.setTop (mkF m 161 #[.val (.int p0), .val (.int p1), .val (.int p2), .val (.int p3), .val (.int xa), .val (.int xb), .val (.int xc), .val (.int xd), .val (.int ln), .val (.ref r1), .val (.ref r3), .val (.int cn), .val (.ref r6), .val (.ref r9), .val (.ref b12), uS, uS] [(.int cn)]))
    refine Goes.st (fun sT kT => XS.iconst X36.here hx rfl (hb hby at_161) kT) ?_
    show Goes _ _ _ _ (T36.setTop (mkF m 162 #[.val (.int p0), .val (.int p1), .val (.int p2), .val (.int p3), .val (.int xa), .val (.int xb), .val (.int xc), .val (.int xd), .val (.int ln), .val (.ref r1), .val (.ref r3), .val (.int cn), .val (.ref r6), .val (.ref r9), .val (.ref b12), uS, uS] [(.int (3 : Int32)), (.int cn)]))
    refine Goes.st (fun sT kT => XS.icmpYes X36.here hx rfl (pc0 := 162) (pc' := 175) rfl (hb hby at_162) rfl (tlt (own_lt3 cz41)).1 (by decide) (by decide) kT) ?_
    show Goes _ _ _ _ (T36.setTop (mkF m 175 #[.val (.int p0), .val (.int p1), .val (.int p2), .val (.int p3), .val (.int xa), .val (.int xb), .val (.int xc), .val (.int xd), .val (.int ln), .val (.ref r1), .val (.ref r3), .val (.int cn), .val (.ref r6), .val (.ref r9), .val (.ref b12), uS, uS] []))
    refine Goes.st (fun sT kT => XS.aload X36.here hx rfl (hb hby at_175) rfl rfl kT) ?_
    show Goes _ _ _ _ (T36.setTop (mkF m 177 #[.val (.int p0), .val (.int p1), .val (.int p2), .val (.int p3), .val (.int xa), .val (.int xb), .val (.int xc), .val (.int xd), .val (.int ln), .val (.ref r1), .val (.ref r3), .val (.int cn), .val (.ref r6), .val (.ref r9), .val (.ref b12), uS, uS] [(.ref r1)]))
    obtain ⟨_, _, ⟨T42, L42, k42, n42⟩, -, X42, ⟨Lc42, hQ42, l42, y42, z42⟩, st42⟩ := Jvm.LawKit.callS X36 hx (y := (⟨"com/example/indexwerk/indexwerk/engine/TargetLimits$Origin", "of", "(Ljava/lang/String;)Lcom/example/indexwerk/indexwerk/engine/TargetLimits$Origin;"⟩ : MethodName)) hown3 (mvT hZ3 (hw72 hw)) (mvT hZ3 (hw73 hw)) (mvT hZ3 (hw74 hw)) (mvT hZ3 (hw75 hw)) (by decide) (backOf (W := 0) (rm_orig l Z a0 hw [] r1 aL cK T36.heap n0 (Nat.le_trans Z0 (Nat.le_trans (Nat.le_trans (Nat.le_trans (Nat.le_trans (Nat.le_trans (Nat.le_trans K1.1 K3.1) K6.1) K9.1) E12.1) K14.1) K36.1)) LM) hZ3 (hw75 hw) (hw74 hw) (by decide) (by decide)) (g := (mkF m 177 #[.val (.int p0), .val (.int p1), .val (.int p2), .val (.int p3), .val (.int xa), .val (.int xb), .val (.int xc), .val (.int xd), .val (.int ln), .val (.ref r1), .val (.ref r3), .val (.int cn), .val (.ref r6), .val (.ref r9), .val (.ref b12), uS, uS] [(.ref r1)])) rfl (by rw [hml]; rfl) (argsL := [(.ref r1)]) (rest := []) (lenOf pd_14 rfl) rfl (by show 2 * 0 + _ ≤ _; exact Nat.le_of_eq rfl) (hb hby at_177) (fun _ _ => ⟨rfl, rfl, (by decide : 18 + 1 ≤ _), (by decide : 47 + 2 ≤ _)⟩)
    dsimp only [Pt.U, Pt.locs, Pt.cells, Pt.slots] at X42 l42 y42 z42 st42 hQ42
    subst l42 y42 z42
    obtain ⟨r42, rfl, N42q, K42, F42_0, F42_1, F42_2, lo42_0⟩ := hQ42
    have N42 := Fr.app N36 N42q
    have hs43 : ∀ x ∈ ([] : List Addr), Safe Z EL T3.vm T36.heap x := all0
    have CR43 : CHr Z EL s.vm h0 T3.vm T42.heap := CR40.trans (CHr.keep K42 hs43 CR40.1)
    refine Goes.st st42 ?_
    show Goes _ _ _ _ (T42.setTop (mkF m 180 #[.val (.int p0), .val (.int p1), .val (.int p2), .val (.int p3), .val (.int xa), .val (.int xb), .val (.int xc), .val (.int xd), .val (.int ln), .val (.ref r1), .val (.ref r3), .val (.int cn), .val (.ref r6), .val (.ref r9), .val (.ref b12), uS, uS] [(.ref r42)]))
    refine Goes.st (fun sT kT => XS.astore X42.here hx rfl (hb hby at_180) rfl rfl (l' := #[.val (.int p0), .val (.int p1), .val (.int p2), .val (.int p3), .val (.int xa), .val (.int xb), .val (.int xc), .val (.int xd), .val (.int ln), .val (.ref r1), .val (.ref r3), .val (.int cn), .val (.ref r6), .val (.ref r9), .val (.ref b12), .val (.ref r42), uS]) rfl kT) ?_
    show Goes _ _ _ _ (T42.setTop (mkF m 182 #[.val (.int p0), .val (.int p1), .val (.int p2), .val (.int p3), .val (.int xa), .val (.int xb), .val (.int xc), .val (.int xd), .val (.int ln), .val (.ref r1), .val (.ref r3), .val (.int cn), .val (.ref r6), .val (.ref r9), .val (.ref b12), .val (.ref r42), uS] []))
    refine Goes.st (fun sT kT => XS.aload X42.here hx rfl (hb hby at_182) rfl rfl kT) ?_
    show Goes _ _ _ _ (T42.setTop (mkF m 184 #[.val (.int p0), .val (.int p1), .val (.int p2), .val (.int p3), .val (.int xa), .val (.int xb), .val (.int xc), .val (.int xd), .val (.int ln), .val (.ref r1), .val (.ref r3), .val (.int cn), .val (.ref r6), .val (.ref r9), .val (.ref b12), .val (.ref r42), uS] [(.ref r42)]))
    obtain ⟨cq44, kq44, q44a, q44b, q44c⟩ := isOf hZ3 rfl F42_0
    obtain ⟨_, _, ⟨T44, L44, k44, n44⟩, -, X44, ⟨Lc44, hQ44, l44, y44, z44⟩, st44⟩ := X42.virtualBack hx (y := (⟨"com/example/indexwerk/indexwerk/engine/TargetLimits$Origin", "line", "()Ljava/util/function/Function;"⟩ : MethodName)) (z := (⟨"com/example/indexwerk/indexwerk/engine/TargetLimits$Origin", "line", "()Ljava/util/function/Function;"⟩ : MethodName)) hown3 (mvT hZ3 (hw94 hw)) (mvT hZ3 (hw95 hw)) (notFace_of_selects (args := #[]) (mvT hZ3 (hw97 hw))) (mvT hZ3 (hw97 hw)) (mvT hZ3 (hw96 hw)) (by decide) (backOf (W := 0) (rm_gline l Z a0 hw [] r42 aL T42.heap n0 (Nat.le_trans Z0 (Nat.le_trans (Nat.le_trans (Nat.le_trans (Nat.le_trans (Nat.le_trans (Nat.le_trans (Nat.le_trans K1.1 K3.1) K6.1) K9.1) E12.1) K14.1) K36.1) K42.1)) F42_2) hZ3 (hw98 hw) (hw74 hw) (by decide) (by decide)) q44a q44c (g := (mkF m 184 #[.val (.int p0), .val (.int p1), .val (.int p2), .val (.int p3), .val (.int xa), .val (.int xb), .val (.int xc), .val (.int xd), .val (.int ln), .val (.ref r1), .val (.ref r3), .val (.int cn), .val (.ref r6), .val (.ref r9), .val (.ref b12), .val (.ref r42), uS] [(.ref r42)])) rfl (by rw [hml]; rfl) (Steps.refl _) (argsL := []) (rest := []) (lenOf pd_15 rfl) rfl (by show 2 * 0 + _ ≤ _; exact Nat.le_of_eq rfl) (hb hby at_184) (fun _ _ => ⟨rfl, rfl, (by decide : 19 + 0 ≤ _), (by decide : 49 + 0 ≤ _)⟩)
    dsimp only [Pt.U, Pt.locs, Pt.cells, Pt.slots] at X44 l44 y44 z44 st44 hQ44
    subst l44 y44 z44
    obtain ⟨rfl, N44q, K44⟩ := hQ44
    have N44 := Fr.app N42 N44q
    refine Goes.tr st44 ?_
    show Goes _ _ _ _ (T44.setTop (mkF m 187 #[.val (.int p0), .val (.int p1), .val (.int p2), .val (.int p3), .val (.int xa), .val (.int xb), .val (.int xc), .val (.int xd), .val (.int ln), .val (.ref r1), .val (.ref r3), .val (.int cn), .val (.ref r6), .val (.ref r9), .val (.ref b12), .val (.ref r42), uS] [(.ref aL)]))
    refine Goes.st (fun sT kT => XS.ifnonnullYes X44.here hx rfl (pc0 := 187) (pc' := 192) rfl (hb hby at_187) rfl (by decide) (by decide) kT) ?_
    show Goes _ _ _ _ (T44.setTop (mkF m 192 #[.val (.int p0), .val (.int p1), .val (.int p2), .val (.int p3), .val (.int xa), .val (.int xb), .val (.int xc), .val (.int xd), .val (.int ln), .val (.ref r1), .val (.ref r3), .val (.int cn), .val (.ref r6), .val (.ref r9), .val (.ref b12), .val (.ref r42), uS] []))
    refine Goes.st (fun sT kT => XS.aload X44.here hx rfl (hb hby at_192) rfl rfl kT) ?_
    show Goes _ _ _ _ (T44.setTop (mkF m 194 #[.val (.int p0), .val (.int p1), .val (.int p2), .val (.int p3), .val (.int xa), .val (.int xb), .val (.int xc), .val (.int xd), .val (.int ln), .val (.ref r1), .val (.ref r3), .val (.int cn), .val (.ref r6), .val (.ref r9), .val (.ref b12), .val (.ref r42), uS] [(.ref r42)]))
    obtain ⟨cq45, kq45, q45a, q45b, q45c⟩ := isOf hZ3 K44 F42_0
    obtain ⟨_, _, ⟨T45, L45, k45, n45⟩, -, X45, ⟨Lc45, hQ45, l45, y45, z45⟩, st45⟩ := X44.virtualBack hx (y := (⟨"com/example/indexwerk/indexwerk/engine/TargetLimits$Origin", "line", "()Ljava/util/function/Function;"⟩ : MethodName)) (z := (⟨"com/example/indexwerk/indexwerk/engine/TargetLimits$Origin", "line", "()Ljava/util/function/Function;"⟩ : MethodName)) hown3 (mvT hZ3 (hw94 hw)) (mvT hZ3 (hw95 hw)) (notFace_of_selects (args := #[]) (mvT hZ3 (hw97 hw))) (mvT hZ3 (hw97 hw)) (mvT hZ3 (hw96 hw)) (by decide) (backOf (W := 0) (rm_gline l Z a0 hw [] r42 aL T42.heap n0 (Nat.le_trans Z0 (Nat.le_trans (Nat.le_trans (Nat.le_trans (Nat.le_trans (Nat.le_trans (Nat.le_trans (Nat.le_trans K1.1 K3.1) K6.1) K9.1) E12.1) K14.1) K36.1) K42.1)) F42_2) hZ3 (hw98 hw) (hw74 hw) (by decide) (by decide)) q45a q45c (g := (mkF m 194 #[.val (.int p0), .val (.int p1), .val (.int p2), .val (.int p3), .val (.int xa), .val (.int xb), .val (.int xc), .val (.int xd), .val (.int ln), .val (.ref r1), .val (.ref r3), .val (.int cn), .val (.ref r6), .val (.ref r9), .val (.ref b12), .val (.ref r42), uS] [(.ref r42)])) rfl (by rw [hml]; rfl) (Steps.refl _) (argsL := []) (rest := []) (lenOf pd_15 rfl) rfl (by show 2 * 0 + _ ≤ _; exact Nat.le_of_eq rfl) (hb hby at_194) (fun _ _ => ⟨rfl, K44, (by decide : 19 + 0 ≤ _), (by decide : 49 + 0 ≤ _)⟩)
    dsimp only [Pt.U, Pt.locs, Pt.cells, Pt.slots] at X45 l45 y45 z45 st45 hQ45
    subst l45 y45 z45
    obtain ⟨rfl, N45q, K45⟩ := hQ45
    have N45 := Fr.app N44 N45q
    refine Goes.tr st45 ?_
    show Goes _ _ _ _ (T45.setTop (mkF m 197 #[.val (.int p0), .val (.int p1), .val (.int p2), .val (.int p3), .val (.int xa), .val (.int xb), .val (.int xc), .val (.int xd), .val (.int ln), .val (.ref r1), .val (.ref r3), .val (.int cn), .val (.ref r6), .val (.ref r9), .val (.ref b12), .val (.ref r42), uS] [(.ref aL)]))
    refine Goes.st (fun sT kT => XS.aload X45.here hx rfl (hb hby at_197) rfl rfl kT) ?_
    show Goes _ _ _ _ (T45.setTop (mkF m 199 #[.val (.int p0), .val (.int p1), .val (.int p2), .val (.int p3), .val (.int xa), .val (.int xb), .val (.int xc), .val (.int xd), .val (.int ln), .val (.ref r1), .val (.ref r3), .val (.int cn), .val (.ref r6), .val (.ref r9), .val (.ref b12), .val (.ref r42), uS] [(.ref b12), (.ref aL)]))
    have f48 : Exa Z T42.heap b12 "java/util/ArrayList" := (F36_0.keep K42)
    have f49 : Old Z n0 T42.heap := ((f39.keep K36 (allS (Nat.le_trans Z0 (Nat.le_trans (Nat.le_trans (Nat.le_trans (Nat.le_trans K1.1 K3.1) K6.1) K9.1) (Nat.le_of_eq g12.symm))) all0)).keep K42 all0)
    obtain ⟨T47, L47, X47, N47q, e47, st47⟩ := own_apply X45 hx hZ3 hw hown3 K45 (Nat.le_trans Z0 (Nat.le_trans (Nat.le_trans (Nat.le_trans (Nat.le_trans (Nat.le_trans (Nat.le_trans (Nat.le_trans K1.1 K3.1) K6.1) K9.1) E12.1) K14.1) K36.1) K42.1)) LM EO f49 f48 (g := (mkF m 199 #[.val (.int p0), .val (.int p1), .val (.int p2), .val (.int p3), .val (.int xa), .val (.int xb), .val (.int xc), .val (.int xd), .val (.int ln), .val (.ref r1), .val (.ref r3), .val (.int cn), .val (.ref r6), .val (.ref r9), .val (.ref b12), .val (.ref r42), uS] [(.ref b12), (.ref aL)])) rfl (by rw [hml]; rfl) (rest := []) rfl (hb hby at_199) (by decide) (by show 2 * 0 + 0 + (2 + 11) + ((1 + 11) + 11) ≤ 3264; decide) (by decide) (by decide)
    have N47 := Fr.app N45 N47q
    refine Goes.st st47 ?_
    show Goes _ _ _ _ (T47.setTop (mkF m 204 #[.val (.int p0), .val (.int p1), .val (.int p2), .val (.int p3), .val (.int xa), .val (.int xb), .val (.int xc), .val (.int xd), .val (.int ln), .val (.ref r1), .val (.ref r3), .val (.int cn), .val (.ref r6), .val (.ref r9), .val (.ref b12), .val (.ref r42), uS] [(.ref eO)]))
    have G50 : Exa Z T42.heap eO "java/util/OptionalInt" := EO.2.1.ext f49.2
    have G51 : Fld Z T42.heap eO "java/util/OptionalInt" "isPresent" "Z" (.int (0 : Int32)) := EO.2.2.ext f49.2
    obtain ⟨T52, X52, e52, st52⟩ := castY X47 hx hZ3 hown3 (hw110 hw) e47 (Ins.self G50) (g := (mkF m 204 #[.val (.int p0), .val (.int p1), .val (.int p2), .val (.int p3), .val (.int xa), .val (.int xb), .val (.int xc), .val (.int xd), .val (.int ln), .val (.ref r1), .val (.ref r3), .val (.int cn), .val (.ref r6), .val (.ref r9), .val (.ref b12), .val (.ref r42), uS] [(.ref eO)])) rfl rfl (hb hby at_204)
    refine Goes.st st52 ?_
    show Goes _ _ _ _ (T52.setTop (mkF m 207 #[.val (.int p0), .val (.int p1), .val (.int p2), .val (.int p3), .val (.int xa), .val (.int xb), .val (.int xc), .val (.int xd), .val (.int ln), .val (.ref r1), .val (.ref r3), .val (.int cn), .val (.ref r6), .val (.ref r9), .val (.ref b12), .val (.ref r42), uS] [(.ref eO)]))
    refine Goes.st (fun sT kT => XS.astore X52.here hx rfl (hb hby at_207) rfl rfl (l' := #[.val (.int p0), .val (.int p1), .val (.int p2), .val (.int p3), .val (.int xa), .val (.int xb), .val (.int xc), .val (.int xd), .val (.int ln), .val (.ref r1), .val (.ref r3), .val (.int cn), .val (.ref r6), .val (.ref r9), .val (.ref b12), .val (.ref r42), .val (.ref eO)]) rfl kT) ?_
    show Goes _ _ _ _ (T52.setTop (mkF m 209 #[.val (.int p0), .val (.int p1), .val (.int p2), .val (.int p3), .val (.int xa), .val (.int xb), .val (.int xc), .val (.int xd), .val (.int ln), .val (.ref r1), .val (.ref r3), .val (.int cn), .val (.ref r6), .val (.ref r9), .val (.ref b12), .val (.ref r42), .val (.ref eO)] []))
    refine Goes.st (fun sT kT => XS.aload X52.here hx rfl (hb hby at_209) rfl rfl kT) ?_
    show Goes _ _ _ _ (T52.setTop (mkF m 211 #[.val (.int p0), .val (.int p1), .val (.int p2), .val (.int p3), .val (.int xa), .val (.int xb), .val (.int xc), .val (.int xd), .val (.int ln), .val (.ref r1), .val (.ref r3), .val (.int cn), .val (.ref r6), .val (.ref r9), .val (.ref b12), .val (.ref r42), .val (.ref eO)] [(.ref r42)]))
    obtain ⟨cq53, kq53, q53a, q53b, q53c⟩ := isOf hZ3 e52 F42_0
    obtain ⟨_, _, ⟨T53, L53, k53, n53⟩, -, X53, ⟨Lc53, hQ53, l53, y53, z53⟩, st53⟩ := X52.virtualBack hx (y := (⟨"com/example/indexwerk/indexwerk/engine/TargetLimits$Origin", "file", "()Ljava/lang/String;"⟩ : MethodName)) (z := (⟨"com/example/indexwerk/indexwerk/engine/TargetLimits$Origin", "file", "()Ljava/lang/String;"⟩ : MethodName)) hown3 (mvT hZ3 (hw112 hw)) (mvT hZ3 (hw113 hw)) (notFace_of_selects (args := #[]) (mvT hZ3 (hw115 hw))) (mvT hZ3 (hw115 hw)) (mvT hZ3 (hw114 hw)) (by decide) (backOf (W := 0) (rm_gfile l Z a0 hw [] r42 r1 T42.heap n0 (Nat.le_trans Z0 (Nat.le_trans (Nat.le_trans (Nat.le_trans (Nat.le_trans (Nat.le_trans (Nat.le_trans (Nat.le_trans K1.1 K3.1) K6.1) K9.1) E12.1) K14.1) K36.1) K42.1)) F42_1) hZ3 (hw116 hw) (hw74 hw) (by decide) (by decide)) q53a q53c (g := (mkF m 211 #[.val (.int p0), .val (.int p1), .val (.int p2), .val (.int p3), .val (.int xa), .val (.int xb), .val (.int xc), .val (.int xd), .val (.int ln), .val (.ref r1), .val (.ref r3), .val (.int cn), .val (.ref r6), .val (.ref r9), .val (.ref b12), .val (.ref r42), .val (.ref eO)] [(.ref r42)])) rfl (by rw [hml]; rfl) (Steps.refl _) (argsL := []) (rest := []) (lenOf pd_16 rfl) rfl (by show 2 * 0 + _ ≤ _; exact Nat.le_of_eq rfl) (hb hby at_211) (fun _ _ => ⟨rfl, e52, (by decide : 19 + 0 ≤ _), (by decide : 49 + 0 ≤ _)⟩)
    dsimp only [Pt.U, Pt.locs, Pt.cells, Pt.slots] at X53 l53 y53 z53 st53 hQ53
    subst l53 y53 z53
    obtain ⟨rfl, N53q, K53⟩ := hQ53
    have N53 := Fr.app N47 N53q
    refine Goes.tr st53 ?_
    show Goes _ _ _ _ (T53.setTop (mkF m 214 #[.val (.int p0), .val (.int p1), .val (.int p2), .val (.int p3), .val (.int xa), .val (.int xb), .val (.int xc), .val (.int xd), .val (.int ln), .val (.ref r1), .val (.ref r3), .val (.int cn), .val (.ref r6), .val (.ref r9), .val (.ref b12), .val (.ref r42), .val (.ref eO)] [(.ref r1)]))
    refine Goes.st (fun sT kT => XS.ifnullNo X53.here hx rfl (hb hby at_214) rfl kT) ?_
    show Goes _ _ _ _ (T53.setTop (mkF m 217 #[.val (.int p0), .val (.int p1), .val (.int p2), .val (.int p3), .val (.int xa), .val (.int xb), .val (.int xc), .val (.int xd), .val (.int ln), .val (.ref r1), .val (.ref r3), .val (.int cn), .val (.ref r6), .val (.ref r9), .val (.ref b12), .val (.ref r42), .val (.ref eO)] []))
    refine Goes.st (fun sT kT => XS.aload X53.here hx rfl (hb hby at_217) rfl rfl kT) ?_
    show Goes _ _ _ _ (T53.setTop (mkF m 219 #[.val (.int p0), .val (.int p1), .val (.int p2), .val (.int p3), .val (.int xa), .val (.int xb), .val (.int xc), .val (.int xd), .val (.int ln), .val (.ref r1), .val (.ref r3), .val (.int cn), .val (.ref r6), .val (.ref r9), .val (.ref b12), .val (.ref r42), .val (.ref eO)] [(.ref r42)]))
    obtain ⟨cq54, kq54, q54a, q54b, q54c⟩ := isOf hZ3 K53 F42_0
    obtain ⟨_, _, ⟨T54, L54, k54, n54⟩, -, X54, ⟨Lc54, hQ54, l54, y54, z54⟩, st54⟩ := X53.virtualBack hx (y := (⟨"com/example/indexwerk/indexwerk/engine/TargetLimits$Origin", "file", "()Ljava/lang/String;"⟩ : MethodName)) (z := (⟨"com/example/indexwerk/indexwerk/engine/TargetLimits$Origin", "file", "()Ljava/lang/String;"⟩ : MethodName)) hown3 (mvT hZ3 (hw112 hw)) (mvT hZ3 (hw113 hw)) (notFace_of_selects (args := #[]) (mvT hZ3 (hw115 hw))) (mvT hZ3 (hw115 hw)) (mvT hZ3 (hw114 hw)) (by decide) (backOf (W := 0) (rm_gfile l Z a0 hw [] r42 r1 T42.heap n0 (Nat.le_trans Z0 (Nat.le_trans (Nat.le_trans (Nat.le_trans (Nat.le_trans (Nat.le_trans (Nat.le_trans (Nat.le_trans K1.1 K3.1) K6.1) K9.1) E12.1) K14.1) K36.1) K42.1)) F42_1) hZ3 (hw116 hw) (hw74 hw) (by decide) (by decide)) q54a q54c (g := (mkF m 219 #[.val (.int p0), .val (.int p1), .val (.int p2), .val (.int p3), .val (.int xa), .val (.int xb), .val (.int xc), .val (.int xd), .val (.int ln), .val (.ref r1), .val (.ref r3), .val (.int cn), .val (.ref r6), .val (.ref r9), .val (.ref b12), .val (.ref r42), .val (.ref eO)] [(.ref r42)])) rfl (by rw [hml]; rfl) (Steps.refl _) (argsL := []) (rest := []) (lenOf pd_16 rfl) rfl (by show 2 * 0 + _ ≤ _; exact Nat.le_of_eq rfl) (hb hby at_219) (fun _ _ => ⟨rfl, K53, (by decide : 19 + 0 ≤ _), (by decide : 49 + 0 ≤ _)⟩)
    dsimp only [Pt.U, Pt.locs, Pt.cells, Pt.slots] at X54 l54 y54 z54 st54 hQ54
    subst l54 y54 z54
    obtain ⟨rfl, N54q, K54⟩ := hQ54
    have N54 := Fr.app N53 N54q
    refine Goes.tr st54 ?_
    show Goes _ _ _ _ (T54.setTop (mkF m 222 #[.val (.int p0), .val (.int p1), .val (.int p2), .val (.int p3), .val (.int xa), .val (.int xb), .val (.int xc), .val (.int xd), .val (.int ln), .val (.ref r1), .val (.ref r3), .val (.int cn), .val (.ref r6), .val (.ref r9), .val (.ref b12), .val (.ref r42), .val (.ref eO)] [(.ref r1)]))
    refine Goes.st (fun sT kT => XS.aload X54.here hx rfl (hb hby at_222) rfl rfl kT) ?_
    show Goes _ _ _ _ (T54.setTop (mkF m 224 #[.val (.int p0), .val (.int p1), .val (.int p2), .val (.int p3), .val (.int xa), .val (.int xb), .val (.int xc), .val (.int xd), .val (.int ln), .val (.ref r1), .val (.ref r3), .val (.int cn), .val (.ref r6), .val (.ref r9), .val (.ref b12), .val (.ref r42), .val (.ref eO)] [(.ref r3), (.ref r1)]))
    have f56 : Str Z T42.heap r1 t1 kb1 (own_tx ln xa xb xc xd) := (((((((F1_0.keep K3 nin0 nin0).keep K6 nin0 nin0).keep K9 nin0 nin0).ext E12).keep K14 (ninS (Nat.ne_of_lt (Nat.lt_of_lt_of_le F1_0.1.lt (Nat.le_trans (Nat.le_trans (Nat.le_trans K3.1 K6.1) K9.1) (Nat.le_of_eq g12.symm)))) nin0) (ninS (Nat.ne_of_lt (Nat.lt_of_lt_of_le F1_0.ltT (Nat.le_trans (Nat.le_trans (Nat.le_trans K3.1 K6.1) K9.1) (Nat.le_of_eq g12.symm)))) nin0)).keep K36 (ninS (Nat.ne_of_lt (Nat.lt_of_lt_of_le F1_0.1.lt (Nat.le_trans (Nat.le_trans (Nat.le_trans K3.1 K6.1) K9.1) (Nat.le_of_eq g12.symm)))) nin0) (ninS (Nat.ne_of_lt (Nat.lt_of_lt_of_le F1_0.ltT (Nat.le_trans (Nat.le_trans (Nat.le_trans K3.1 K6.1) K9.1) (Nat.le_of_eq g12.symm)))) nin0)).keep K42 nin0 nin0)
    have f57 : Str Z T42.heap r3 t3 kb3 (own_tx ln xa xb xc xd) := ((((((F3_0.keep K6 nin0 nin0).keep K9 nin0 nin0).ext E12).keep K14 (ninS (Nat.ne_of_lt (Nat.lt_of_lt_of_le F3_0.1.lt (Nat.le_trans (Nat.le_trans K6.1 K9.1) (Nat.le_of_eq g12.symm)))) nin0) (ninS (Nat.ne_of_lt (Nat.lt_of_lt_of_le F3_0.ltT (Nat.le_trans (Nat.le_trans K6.1 K9.1) (Nat.le_of_eq g12.symm)))) nin0)).keep K36 (ninS (Nat.ne_of_lt (Nat.lt_of_lt_of_le F3_0.1.lt (Nat.le_trans (Nat.le_trans K6.1 K9.1) (Nat.le_of_eq g12.symm)))) nin0) (ninS (Nat.ne_of_lt (Nat.lt_of_lt_of_le F3_0.ltT (Nat.le_trans (Nat.le_trans K6.1 K9.1) (Nat.le_of_eq g12.symm)))) nin0)).keep K42 nin0 nin0)
    have f58 : Exa Z T42.heap r1 "java/lang/String" := (((((((F1_0E.keep K3).keep K6).keep K9).ext E12).keep K14).keep K36).keep K42)
    obtain ⟨cq55, kq55, q55a, q55b, q55c⟩ := isOf hZ3 K54 f58
    obtain ⟨_, _, ⟨T55, L55, k55, n55⟩, -, X55, ⟨Lc55, hQ55, l55, y55, z55⟩, st55⟩ := X54.virtualBack hx (y := (⟨"java/lang/String", "equals", "(Ljava/lang/Object;)Z"⟩ : MethodName)) (z := (⟨"java/lang/String", "equals", "(Ljava/lang/Object;)Z"⟩ : MethodName)) hown3 (mvT hZ3 (hw117 hw)) (mvT hZ3 (hw118 hw)) (notFace_of_selects (args := #[]) (mvT hZ3 (hw120 hw))) (mvT hZ3 (hw120 hw)) (mvT hZ3 (hw119 hw)) (by decide) (StrChars.Road.eqW (W := 0) hZ3 (own_heq hw) (kI := 4) (hw5 hw) f56.1 f56.2.1 f56.2.2.1 f56.2.2.2.1 (own_cod f56) (own_up f56.2.2.2.2.1) f56.2.2.2.2.2 f57.1 f57.2.1 f57.2.2.1 f57.2.2.2.1 (own_cod f57) (own_up f57.2.2.2.2.1) f57.2.2.2.2.2 (O2.ext f49.2) P5 (by decide) (by decide)) q55a q55c (g := (mkF m 224 #[.val (.int p0), .val (.int p1), .val (.int p2), .val (.int p3), .val (.int xa), .val (.int xb), .val (.int xc), .val (.int xd), .val (.int ln), .val (.ref r1), .val (.ref r3), .val (.int cn), .val (.ref r6), .val (.ref r9), .val (.ref b12), .val (.ref r42), .val (.ref eO)] [(.ref r3), (.ref r1)])) rfl (by rw [hml]; rfl) (Steps.refl _) (argsL := [(.ref r3)]) (rest := []) (lenOf pd_17 rfl) rfl (by show 2 * 0 + _ ≤ _; exact Nat.le_of_eq rfl) (hb hby at_224) (fun _ _ => ⟨rfl, K54, (by decide : 19 + 0 ≤ _), (by decide : 49 + 0 ≤ _)⟩)
    dsimp only [Pt.U, Pt.locs, Pt.cells, Pt.slots] at X55 l55 y55 z55 st55 hQ55
    subst l55 y55 z55
    obtain ⟨hv55, rfl, K55⟩ := hQ55
    have hv55' := own_ite hv55
    rw [if_pos rfl] at hv55'
    subst hv55'
    have N55 := Fr.app N54 (Fr.nil n0)
    refine Goes.tr st55 ?_
    show Goes _ _ _ _ (T55.setTop (mkF m 227 #[.val (.int p0), .val (.int p1), .val (.int p2), .val (.int p3), .val (.int xa), .val (.int xb), .val (.int xc), .val (.int xd), .val (.int ln), .val (.ref r1), .val (.ref r3), .val (.int cn), .val (.ref r6), .val (.ref r9), .val (.ref b12), .val (.ref r42), .val (.ref eO)] [(.int (1 : Int32))]))
    refine Goes.st (fun sT kT => XS.ifNo X55.here hx rfl (hb hby at_227) rfl ((if0 _ _).trans (feq (by decide : ¬ ((1 : Int32) = (0 : Int32)))).1) kT) ?_
    show Goes _ _ _ _ (T55.setTop (mkF m 230 #[.val (.int p0), .val (.int p1), .val (.int p2), .val (.int p3), .val (.int xa), .val (.int xb), .val (.int xc), .val (.int xd), .val (.int ln), .val (.ref r1), .val (.ref r3), .val (.int cn), .val (.ref r6), .val (.ref r9), .val (.ref b12), .val (.ref r42), .val (.ref eO)] []))
    refine Goes.st (fun sT kT => XS.aload X55.here hx rfl (hb hby at_230) rfl rfl kT) ?_
    show Goes _ _ _ _ (T55.setTop (mkF m 232 #[.val (.int p0), .val (.int p1), .val (.int p2), .val (.int p3), .val (.int xa), .val (.int xb), .val (.int xc), .val (.int xd), .val (.int ln), .val (.ref r1), .val (.ref r3), .val (.int cn), .val (.ref r6), .val (.ref r9), .val (.ref b12), .val (.ref r42), .val (.ref eO)] [(.ref eO)]))
    refine Goes.st (fun sT kT => XS.ifnullNo X55.here hx rfl (hb hby at_232) rfl kT) ?_
    show Goes _ _ _ _ (T55.setTop (mkF m 235 #[.val (.int p0), .val (.int p1), .val (.int p2), .val (.int p3), .val (.int xa), .val (.int xb), .val (.int xc), .val (.int xd), .val (.int ln), .val (.ref r1), .val (.ref r3), .val (.int cn), .val (.ref r6), .val (.ref r9), .val (.ref b12), .val (.ref r42), .val (.ref eO)] []))
    refine Goes.st (fun sT kT => XS.aload X55.here hx rfl (hb hby at_235) rfl rfl kT) ?_
    show Goes _ _ _ _ (T55.setTop (mkF m 237 #[.val (.int p0), .val (.int p1), .val (.int p2), .val (.int p3), .val (.int xa), .val (.int xb), .val (.int xc), .val (.int xd), .val (.int ln), .val (.ref r1), .val (.ref r3), .val (.int cn), .val (.ref r6), .val (.ref r9), .val (.ref b12), .val (.ref r42), .val (.ref eO)] [(.ref eO)]))
    obtain ⟨cq59, kq59, q59a, q59b, q59c⟩ := isOf hZ3 K55 G50
    obtain ⟨_, _, ⟨T59, L59, k59, n59⟩, -, X59, ⟨Lc59, hQ59, l59, y59, z59⟩, st59⟩ := X55.virtualBack hx (y := (⟨"java/util/OptionalInt", "isPresent", "()Z"⟩ : MethodName)) (z := (⟨"java/util/OptionalInt", "isPresent", "()Z"⟩ : MethodName)) hown3 (mvT hZ3 (hw125 hw)) (mvT hZ3 (hw126 hw)) (notFace_of_selects (args := #[]) (mvT hZ3 (hw128 hw))) (mvT hZ3 (hw128 hw)) (mvT hZ3 (hw127 hw)) (by decide) (backOf (W := 0) (rm_ispr l Z a0 hw [] eO (0 : Int32) T42.heap n0 (Nat.le_trans Z0 (Nat.le_trans (Nat.le_trans (Nat.le_trans (Nat.le_trans (Nat.le_trans (Nat.le_trans (Nat.le_trans K1.1 K3.1) K6.1) K9.1) E12.1) K14.1) K36.1) K42.1)) G51 (Or.inl rfl)) hZ3 (hw129 hw) (hw107 hw) (by decide) (by decide)) q59a q59c (g := (mkF m 237 #[.val (.int p0), .val (.int p1), .val (.int p2), .val (.int p3), .val (.int xa), .val (.int xb), .val (.int xc), .val (.int xd), .val (.int ln), .val (.ref r1), .val (.ref r3), .val (.int cn), .val (.ref r6), .val (.ref r9), .val (.ref b12), .val (.ref r42), .val (.ref eO)] [(.ref eO)])) rfl (by rw [hml]; rfl) (Steps.refl _) (argsL := []) (rest := []) (lenOf pd_18 rfl) rfl (by show 2 * 0 + _ ≤ _; exact Nat.le_of_eq rfl) (hb hby at_237) (fun _ _ => ⟨rfl, K55, (by decide : 19 + 0 ≤ _), (by decide : 49 + 0 ≤ _)⟩)
    dsimp only [Pt.U, Pt.locs, Pt.cells, Pt.slots] at X59 l59 y59 z59 st59 hQ59
    subst l59 y59 z59
    obtain ⟨rfl, N59q, K59⟩ := hQ59
    have N59 := Fr.app N55 N59q
    refine Goes.tr st59 ?_
    show Goes _ _ _ _ (T59.setTop (mkF m 240 #[.val (.int p0), .val (.int p1), .val (.int p2), .val (.int p3), .val (.int xa), .val (.int xb), .val (.int xc), .val (.int xd), .val (.int ln), .val (.ref r1), .val (.ref r3), .val (.int cn), .val (.ref r6), .val (.ref r9), .val (.ref b12), .val (.ref r42), .val (.ref eO)] [(.int (0 : Int32))]))
    refine Goes.st (fun sT kT => XS.ifNo X59.here hx rfl (hb hby at_240) rfl ((if0 _ _).trans (teq (by decide : (0 : Int32) = (0 : Int32))).2) kT) ?_
    show Goes _ _ _ _ (T59.setTop (mkF m 243 #[.val (.int p0), .val (.int p1), .val (.int p2), .val (.int p3), .val (.int xa), .val (.int xb), .val (.int xc), .val (.int xd), .val (.int ln), .val (.ref r1), .val (.ref r3), .val (.int cn), .val (.ref r6), .val (.ref r9), .val (.ref b12), .val (.ref r42), .val (.ref eO)] []))
    refine Goes.st (fun sT kT => XS.iconst X59.here hx rfl (hb hby at_243) kT) ?_
    show Goes _ _ _ _ (T59.setTop (mkF m 244 #[.val (.int p0), .val (.int p1), .val (.int p2), .val (.int p3), .val (.int xa), .val (.int xb), .val (.int xc), .val (.int xd), .val (.int ln), .val (.ref r1), .val (.ref r3), .val (.int cn), .val (.ref r6), .val (.ref r9), .val (.ref b12), .val (.ref r42), .val (.ref eO)] [(.int (1 : Int32))]))
    refine Goes.st (fun sT kT => XS.goto X59.here hx rfl (pc0 := 244) (pc' := 248) rfl (hb hby at_244) (by decide) (by decide) kT) ?_
    show Goes _ _ _ _ (T59.setTop (mkF m 248 #[.val (.int p0), .val (.int p1), .val (.int p2), .val (.int p3), .val (.int xa), .val (.int xb), .val (.int xc), .val (.int xd), .val (.int ln), .val (.ref r1), .val (.ref r3), .val (.int cn), .val (.ref r6), .val (.ref r9), .val (.ref b12), .val (.ref r42), .val (.ref eO)] [(.int (1 : Int32))]))
    obtain ⟨fs, hr, hrun, hended, hRW⟩ := X59.leaveW hS3 (by rw [K59]; exact (Nat.le_trans (Nat.le_trans (Nat.le_trans (Nat.le_trans (Nat.le_trans (Nat.le_trans (Nat.le_refl _) K6.1) K9.1) E12.1) K14.1) K36.1) K42.1)) (v := some (.int (1 : Int32))) (fun h => by rw [Bd.returns] at h; cases h)
    subst hQQ
    have hCR : CHr Z EL s.vm s.heap T59.vm T59.heap := by rw [hh, K59]; exact CR43.trans (CHv.at X59 hZ3 (own_EW hw) CR43.1)
    refine ⟨_, _, retN X59 hx (t := .boolean) Bd.returns (by simp) (hb hby at_248) hr, hrun, hended, _, _, rfl, ?_, hCR, own_REmono hRW (by decide) (by decide)⟩
    show Q_law Z p0 p1 p2 p3 G1 aD kD aL cK eO h0 n0 _ T59.heap _
    rw [K59]
    exact ⟨rfl, N59⟩
   case neg =>
    refine Goes.st (fun sT kT => XS.icmpNo X36.here hx rfl (hb hby at_146) rfl (flt cz41).1 kT) ?_
    show Goes _ _ _ _ (T36.setTop (mkF m 149 #[.val (.int p0), .val (.int p1), .val (.int p2), .val (.int p3), .val (.int xa), .val (.int xb), .val (.int xc), .val (.int xd), .val (.int ln), .val (.ref r1), .val (.ref r3), .val (.int cn), .val (.ref r6), .val (.ref r9), .val (.ref b12), uS, uS] []))
    refine Goes.st (fun sT kT => XS.aload X36.here hx rfl (hb hby at_149) rfl rfl kT) ?_
    show Goes _ _ _ _ (T36.setTop (mkF m 151 #[.val (.int p0), .val (.int p1), .val (.int p2), .val (.int p3), .val (.int xa), .val (.int xb), .val (.int xc), .val (.int xd), .val (.int ln), .val (.ref r1), .val (.ref r3), .val (.int cn), .val (.ref r6), .val (.ref r9), .val (.ref b12), uS, uS] [(.ref b12)]))
    refine Goes.st (fun sT kT => XS.aload X36.here hx rfl (hb hby at_151) rfl rfl kT) ?_
    show Goes _ _ _ _ (T36.setTop (mkF m 153 #[.val (.int p0), .val (.int p1), .val (.int p2), .val (.int p3), .val (.int xa), .val (.int xb), .val (.int xc), .val (.int xd), .val (.int ln), .val (.ref r1), .val (.ref r3), .val (.int cn), .val (.ref r6), .val (.ref r9), .val (.ref b12), uS, uS] [(.ref r9), (.ref b12)]))
    have f61 : Exa Z T36.heap r9 "java/lang/String" := (((F9_0E.ext E12).keep K14).keep K36)
    obtain ⟨cq60, kq60, q60a, q60b, q60c⟩ := isOf hZ3 rfl F36_0
    obtain ⟨_, _, ⟨T60, L60, k60, n60⟩, -, X60, ⟨Lc60, hQ60, l60, y60, z60⟩, st60⟩ := X36.interfaceBack hx (xi := (⟨"java/util/List", "add", "(Ljava/lang/Object;)Z"⟩ : MethodName)) (y := (⟨"java/util/ArrayList", "add", "(Ljava/lang/Object;)Z"⟩ : MethodName)) hown3 (mvT hZ3 (hw135 hw)) (mvT hZ3 (hw136 hw)) (mvT hZ3 (hw137 hw)) (mvT hZ3 (hw138 hw)) (mvT hZ3 (hw139 hw)) (mvT hZ3 (hw140 hw)) (mvT hZ3 (hw141 hw)) (mvT hZ3 (hw102 hw)) (by decide) (backOf (W := 0) (rm_add2 l Z a0 hw [] b12 r9 ar36 kA36 r6 ((0 : Int32) + (1 : Int32)) T36.heap n0 (Nat.le_trans Z0 (Nat.le_trans (Nat.le_trans (Nat.le_trans (Nat.le_trans (Nat.le_trans (Nat.le_trans K1.1 K3.1) K6.1) K9.1) E12.1) K14.1) K36.1)) F36_0 F36_1 F36_2 F36_3 F36_4 f61 (Nat.le_trans Z0 (Nat.le_trans (Nat.le_trans (Nat.le_trans (Nat.le_trans K1.1 K3.1) K6.1) K9.1) (Nat.le_of_eq g12.symm))) (Nat.le_trans Z0 (Nat.le_trans (Nat.le_trans (Nat.le_trans (Nat.le_trans (Nat.le_trans (Nat.le_trans K1.1 K3.1) K6.1) K9.1) E12.1) K14.1) lo36_0)) ov_36) hZ3 (hw142 hw) (hw50 hw) (by decide) (by decide)) q60a q60b q60c (g := (mkF m 153 #[.val (.int p0), .val (.int p1), .val (.int p2), .val (.int p3), .val (.int xa), .val (.int xb), .val (.int xc), .val (.int xd), .val (.int ln), .val (.ref r1), .val (.ref r3), .val (.int cn), .val (.ref r6), .val (.ref r9), .val (.ref b12), uS, uS] [(.ref r9), (.ref b12)])) rfl (by rw [hml]; rfl) (Steps.refl _) (argsL := [(.ref r9)]) (rest := []) (lenOf pd_17 rfl) rfl (by show 2 * 0 + _ ≤ _; exact Nat.le_of_eq rfl) (hb hby at_153) (fun _ _ => ⟨rfl, rfl, (by decide : 18 + 0 ≤ _), (by decide : 47 + 0 ≤ _)⟩)
    dsimp only [Pt.U, Pt.locs, Pt.cells, Pt.slots] at X60 l60 y60 z60 st60 hQ60
    subst l60 y60 z60
    obtain ⟨rfl, N60q, K60, F60_0, F60_1, F60_2, F60_3, F60_4⟩ := hQ60
    have N60 := Fr.app N36 N60q
    have hs62 : ∀ x ∈ ([b12, ar36] : List Addr), Safe Z EL T3.vm T36.heap x := (allS (Safe.exa hZ3.alike F36_0 (by decide) (by decide)) (allS (own_safeArv hZ3.alike F36_4 (by simp)) all0))
    have CR62 : CHr Z EL s.vm h0 T3.vm T60.heap := CR40.trans (CHr.keep K60 hs62 CR40.1)
    refine Goes.tr st60 ?_
    show Goes _ _ _ _ (T60.setTop (mkF m 158 #[.val (.int p0), .val (.int p1), .val (.int p2), .val (.int p3), .val (.int xa), .val (.int xb), .val (.int xc), .val (.int xd), .val (.int ln), .val (.ref r1), .val (.ref r3), .val (.int cn), .val (.ref r6), .val (.ref r9), .val (.ref b12), uS, uS] [(.int (1 : Int32))]))
    refine Goes.st (fun sT kT => XS.pop X60.here hx rfl (hb hby at_158) rfl rfl kT) ?_
    show Goes _ _ _ _ (T60.setTop (mkF m 159 #[.val (.int p0), .val (.int p1), .val (.int p2), .val (.int p3), .val (.int xa), .val (.int xb), .val (.int xc), .val (.int xd), .val (.int ln), .val (.ref r1), .val (.ref r3), .val (.int cn), .val (.ref r6), .val (.ref r9), .val (.ref b12), uS, uS] []))
    refine Goes.st (fun sT kT => XS.iload X60.here hx rfl (hb hby at_159) rfl kT) ?_
    show Goes _ _ _ _ (T60.setTop (mkF m 161 #[.val (.int p0), .val (.int p1), .val (.int p2), .val (.int p3), .val (.int xa), .val (.int xb), .val (.int xc), .val (.int xd), .val (.int ln), .val (.ref r1), .val (.ref r3), .val (.int cn), .val (.ref r6), .val (.ref r9), .val (.ref b12), uS, uS] [(.int cn)]))
    refine Goes.st (fun sT kT => XS.iconst X60.here hx rfl (hb hby at_161) kT) ?_
    show Goes _ _ _ _ (T60.setTop (mkF m 162 #[.val (.int p0), .val (.int p1), .val (.int p2), .val (.int p3), .val (.int xa), .val (.int xb), .val (.int xc), .val (.int xd), .val (.int ln), .val (.ref r1), .val (.ref r3), .val (.int cn), .val (.ref r6), .val (.ref r9), .val (.ref b12), uS, uS] [(.int (3 : Int32)), (.int cn)]))
    by_cases cz63 : cn < (3 : Int32)
    case pos =>
     refine Goes.st (fun sT kT => XS.icmpYes X60.here hx rfl (pc0 := 162) (pc' := 175) rfl (hb hby at_162) rfl (tlt cz63).1 (by decide) (by decide) kT) ?_
     show Goes _ _ _ _ (T60.setTop (mkF m 175 #[.val (.int p0), .val (.int p1), .val (.int p2), .val (.int p3), .val (.int xa), .val (.int xb), .val (.int xc), .val (.int xd), .val (.int ln), .val (.ref r1), .val (.ref r3), .val (.int cn), .val (.ref r6), .val (.ref r9), .val (.ref b12), uS, uS] []))
     refine Goes.st (fun sT kT => XS.aload X60.here hx rfl (hb hby at_175) rfl rfl kT) ?_
     show Goes _ _ _ _ (T60.setTop (mkF m 177 #[.val (.int p0), .val (.int p1), .val (.int p2), .val (.int p3), .val (.int xa), .val (.int xb), .val (.int xc), .val (.int xd), .val (.int ln), .val (.ref r1), .val (.ref r3), .val (.int cn), .val (.ref r6), .val (.ref r9), .val (.ref b12), uS, uS] [(.ref r1)]))
     obtain ⟨_, _, ⟨T64, L64, k64, n64⟩, -, X64, ⟨Lc64, hQ64, l64, y64, z64⟩, st64⟩ := Jvm.LawKit.callS X60 hx (y := (⟨"com/example/indexwerk/indexwerk/engine/TargetLimits$Origin", "of", "(Ljava/lang/String;)Lcom/example/indexwerk/indexwerk/engine/TargetLimits$Origin;"⟩ : MethodName)) hown3 (mvT hZ3 (hw72 hw)) (mvT hZ3 (hw73 hw)) (mvT hZ3 (hw74 hw)) (mvT hZ3 (hw75 hw)) (by decide) (backOf (W := 0) (rm_orig l Z a0 hw [] r1 aL cK T60.heap n0 (Nat.le_trans Z0 (Nat.le_trans (Nat.le_trans (Nat.le_trans (Nat.le_trans (Nat.le_trans (Nat.le_trans (Nat.le_trans K1.1 K3.1) K6.1) K9.1) E12.1) K14.1) K36.1) K60.1)) LM) hZ3 (hw75 hw) (hw74 hw) (by decide) (by decide)) (g := (mkF m 177 #[.val (.int p0), .val (.int p1), .val (.int p2), .val (.int p3), .val (.int xa), .val (.int xb), .val (.int xc), .val (.int xd), .val (.int ln), .val (.ref r1), .val (.ref r3), .val (.int cn), .val (.ref r6), .val (.ref r9), .val (.ref b12), uS, uS] [(.ref r1)])) rfl (by rw [hml]; rfl) (argsL := [(.ref r1)]) (rest := []) (lenOf pd_14 rfl) rfl (by show 2 * 0 + _ ≤ _; exact Nat.le_of_eq rfl) (hb hby at_177) (fun _ _ => ⟨rfl, rfl, (by decide : 18 + 1 ≤ _), (by decide : 47 + 2 ≤ _)⟩)
     dsimp only [Pt.U, Pt.locs, Pt.cells, Pt.slots] at X64 l64 y64 z64 st64 hQ64
     subst l64 y64 z64
     obtain ⟨r64, rfl, N64q, K64, F64_0, F64_1, F64_2, lo64_0⟩ := hQ64
     have N64 := Fr.app N60 N64q
     have hs65 : ∀ x ∈ ([] : List Addr), Safe Z EL T3.vm T60.heap x := all0
     have CR65 : CHr Z EL s.vm h0 T3.vm T64.heap := CR62.trans (CHr.keep K64 hs65 CR62.1)
     refine Goes.st st64 ?_
     show Goes _ _ _ _ (T64.setTop (mkF m 180 #[.val (.int p0), .val (.int p1), .val (.int p2), .val (.int p3), .val (.int xa), .val (.int xb), .val (.int xc), .val (.int xd), .val (.int ln), .val (.ref r1), .val (.ref r3), .val (.int cn), .val (.ref r6), .val (.ref r9), .val (.ref b12), uS, uS] [(.ref r64)]))
     refine Goes.st (fun sT kT => XS.astore X64.here hx rfl (hb hby at_180) rfl rfl (l' := #[.val (.int p0), .val (.int p1), .val (.int p2), .val (.int p3), .val (.int xa), .val (.int xb), .val (.int xc), .val (.int xd), .val (.int ln), .val (.ref r1), .val (.ref r3), .val (.int cn), .val (.ref r6), .val (.ref r9), .val (.ref b12), .val (.ref r64), uS]) rfl kT) ?_
     show Goes _ _ _ _ (T64.setTop (mkF m 182 #[.val (.int p0), .val (.int p1), .val (.int p2), .val (.int p3), .val (.int xa), .val (.int xb), .val (.int xc), .val (.int xd), .val (.int ln), .val (.ref r1), .val (.ref r3), .val (.int cn), .val (.ref r6), .val (.ref r9), .val (.ref b12), .val (.ref r64), uS] []))
     refine Goes.st (fun sT kT => XS.aload X64.here hx rfl (hb hby at_182) rfl rfl kT) ?_
     show Goes _ _ _ _ (T64.setTop (mkF m 184 #[.val (.int p0), .val (.int p1), .val (.int p2), .val (.int p3), .val (.int xa), .val (.int xb), .val (.int xc), .val (.int xd), .val (.int ln), .val (.ref r1), .val (.ref r3), .val (.int cn), .val (.ref r6), .val (.ref r9), .val (.ref b12), .val (.ref r64), uS] [(.ref r64)]))
     obtain ⟨cq66, kq66, q66a, q66b, q66c⟩ := isOf hZ3 rfl F64_0
     obtain ⟨_, _, ⟨T66, L66, k66, n66⟩, -, X66, ⟨Lc66, hQ66, l66, y66, z66⟩, st66⟩ := X64.virtualBack hx (y := (⟨"com/example/indexwerk/indexwerk/engine/TargetLimits$Origin", "line", "()Ljava/util/function/Function;"⟩ : MethodName)) (z := (⟨"com/example/indexwerk/indexwerk/engine/TargetLimits$Origin", "line", "()Ljava/util/function/Function;"⟩ : MethodName)) hown3 (mvT hZ3 (hw94 hw)) (mvT hZ3 (hw95 hw)) (notFace_of_selects (args := #[]) (mvT hZ3 (hw97 hw))) (mvT hZ3 (hw97 hw)) (mvT hZ3 (hw96 hw)) (by decide) (backOf (W := 0) (rm_gline l Z a0 hw [] r64 aL T64.heap n0 (Nat.le_trans Z0 (Nat.le_trans (Nat.le_trans (Nat.le_trans (Nat.le_trans (Nat.le_trans (Nat.le_trans (Nat.le_trans (Nat.le_trans K1.1 K3.1) K6.1) K9.1) E12.1) K14.1) K36.1) K60.1) K64.1)) F64_2) hZ3 (hw98 hw) (hw74 hw) (by decide) (by decide)) q66a q66c (g := (mkF m 184 #[.val (.int p0), .val (.int p1), .val (.int p2), .val (.int p3), .val (.int xa), .val (.int xb), .val (.int xc), .val (.int xd), .val (.int ln), .val (.ref r1), .val (.ref r3), .val (.int cn), .val (.ref r6), .val (.ref r9), .val (.ref b12), .val (.ref r64), uS] [(.ref r64)])) rfl (by rw [hml]; rfl) (Steps.refl _) (argsL := []) (rest := []) (lenOf pd_15 rfl) rfl (by show 2 * 0 + _ ≤ _; exact Nat.le_of_eq rfl) (hb hby at_184) (fun _ _ => ⟨rfl, rfl, (by decide : 19 + 0 ≤ _), (by decide : 49 + 0 ≤ _)⟩)
     dsimp only [Pt.U, Pt.locs, Pt.cells, Pt.slots] at X66 l66 y66 z66 st66 hQ66
     subst l66 y66 z66
     obtain ⟨rfl, N66q, K66⟩ := hQ66
     have N66 := Fr.app N64 N66q
     refine Goes.tr st66 ?_
     show Goes _ _ _ _ (T66.setTop (mkF m 187 #[.val (.int p0), .val (.int p1), .val (.int p2), .val (.int p3), .val (.int xa), .val (.int xb), .val (.int xc), .val (.int xd), .val (.int ln), .val (.ref r1), .val (.ref r3), .val (.int cn), .val (.ref r6), .val (.ref r9), .val (.ref b12), .val (.ref r64), uS] [(.ref aL)]))
     refine Goes.st (fun sT kT => XS.ifnonnullYes X66.here hx rfl (pc0 := 187) (pc' := 192) rfl (hb hby at_187) rfl (by decide) (by decide) kT) ?_
     show Goes _ _ _ _ (T66.setTop (mkF m 192 #[.val (.int p0), .val (.int p1), .val (.int p2), .val (.int p3), .val (.int xa), .val (.int xb), .val (.int xc), .val (.int xd), .val (.int ln), .val (.ref r1), .val (.ref r3), .val (.int cn), .val (.ref r6), .val (.ref r9), .val (.ref b12), .val (.ref r64), uS] []))
     refine Goes.st (fun sT kT => XS.aload X66.here hx rfl (hb hby at_192) rfl rfl kT) ?_
     show Goes _ _ _ _ (T66.setTop (mkF m 194 #[.val (.int p0), .val (.int p1), .val (.int p2), .val (.int p3), .val (.int xa), .val (.int xb), .val (.int xc), .val (.int xd), .val (.int ln), .val (.ref r1), .val (.ref r3), .val (.int cn), .val (.ref r6), .val (.ref r9), .val (.ref b12), .val (.ref r64), uS] [(.ref r64)]))
     obtain ⟨cq67, kq67, q67a, q67b, q67c⟩ := isOf hZ3 K66 F64_0
     obtain ⟨_, _, ⟨T67, L67, k67, n67⟩, -, X67, ⟨Lc67, hQ67, l67, y67, z67⟩, st67⟩ := X66.virtualBack hx (y := (⟨"com/example/indexwerk/indexwerk/engine/TargetLimits$Origin", "line", "()Ljava/util/function/Function;"⟩ : MethodName)) (z := (⟨"com/example/indexwerk/indexwerk/engine/TargetLimits$Origin", "line", "()Ljava/util/function/Function;"⟩ : MethodName)) hown3 (mvT hZ3 (hw94 hw)) (mvT hZ3 (hw95 hw)) (notFace_of_selects (args := #[]) (mvT hZ3 (hw97 hw))) (mvT hZ3 (hw97 hw)) (mvT hZ3 (hw96 hw)) (by decide) (backOf (W := 0) (rm_gline l Z a0 hw [] r64 aL T64.heap n0 (Nat.le_trans Z0 (Nat.le_trans (Nat.le_trans (Nat.le_trans (Nat.le_trans (Nat.le_trans (Nat.le_trans (Nat.le_trans (Nat.le_trans K1.1 K3.1) K6.1) K9.1) E12.1) K14.1) K36.1) K60.1) K64.1)) F64_2) hZ3 (hw98 hw) (hw74 hw) (by decide) (by decide)) q67a q67c (g := (mkF m 194 #[.val (.int p0), .val (.int p1), .val (.int p2), .val (.int p3), .val (.int xa), .val (.int xb), .val (.int xc), .val (.int xd), .val (.int ln), .val (.ref r1), .val (.ref r3), .val (.int cn), .val (.ref r6), .val (.ref r9), .val (.ref b12), .val (.ref r64), uS] [(.ref r64)])) rfl (by rw [hml]; rfl) (Steps.refl _) (argsL := []) (rest := []) (lenOf pd_15 rfl) rfl (by show 2 * 0 + _ ≤ _; exact Nat.le_of_eq rfl) (hb hby at_194) (fun _ _ => ⟨rfl, K66, (by decide : 19 + 0 ≤ _), (by decide : 49 + 0 ≤ _)⟩)
     dsimp only [Pt.U, Pt.locs, Pt.cells, Pt.slots] at X67 l67 y67 z67 st67 hQ67
     subst l67 y67 z67
     obtain ⟨rfl, N67q, K67⟩ := hQ67
     have N67 := Fr.app N66 N67q
     refine Goes.tr st67 ?_
     show Goes _ _ _ _ (T67.setTop (mkF m 197 #[.val (.int p0), .val (.int p1), .val (.int p2), .val (.int p3), .val (.int xa), .val (.int xb), .val (.int xc), .val (.int xd), .val (.int ln), .val (.ref r1), .val (.ref r3), .val (.int cn), .val (.ref r6), .val (.ref r9), .val (.ref b12), .val (.ref r64), uS] [(.ref aL)]))
     refine Goes.st (fun sT kT => XS.aload X67.here hx rfl (hb hby at_197) rfl rfl kT) ?_
     show Goes _ _ _ _ (T67.setTop (mkF m 199 #[.val (.int p0), .val (.int p1), .val (.int p2), .val (.int p3), .val (.int xa), .val (.int xb), .val (.int xc), .val (.int xd), .val (.int ln), .val (.ref r1), .val (.ref r3), .val (.int cn), .val (.ref r6), .val (.ref r9), .val (.ref b12), .val (.ref r64), uS] [(.ref b12), (.ref aL)]))
     have f70 : Exa Z T64.heap b12 "java/util/ArrayList" := (F60_0.keep K64)
     have f71 : Old Z n0 T64.heap := (((f39.keep K36 (allS (Nat.le_trans Z0 (Nat.le_trans (Nat.le_trans (Nat.le_trans (Nat.le_trans K1.1 K3.1) K6.1) K9.1) (Nat.le_of_eq g12.symm))) all0)).keep K60 (allS (Nat.le_trans Z0 (Nat.le_trans (Nat.le_trans (Nat.le_trans (Nat.le_trans K1.1 K3.1) K6.1) K9.1) (Nat.le_of_eq g12.symm))) (allS (Nat.le_trans Z0 (Nat.le_trans (Nat.le_trans (Nat.le_trans (Nat.le_trans (Nat.le_trans (Nat.le_trans K1.1 K3.1) K6.1) K9.1) E12.1) K14.1) lo36_0)) all0))).keep K64 all0)
     obtain ⟨T69, L69, X69, N69q, e69, st69⟩ := own_apply X67 hx hZ3 hw hown3 K67 (Nat.le_trans Z0 (Nat.le_trans (Nat.le_trans (Nat.le_trans (Nat.le_trans (Nat.le_trans (Nat.le_trans (Nat.le_trans (Nat.le_trans K1.1 K3.1) K6.1) K9.1) E12.1) K14.1) K36.1) K60.1) K64.1)) LM EO f71 f70 (g := (mkF m 199 #[.val (.int p0), .val (.int p1), .val (.int p2), .val (.int p3), .val (.int xa), .val (.int xb), .val (.int xc), .val (.int xd), .val (.int ln), .val (.ref r1), .val (.ref r3), .val (.int cn), .val (.ref r6), .val (.ref r9), .val (.ref b12), .val (.ref r64), uS] [(.ref b12), (.ref aL)])) rfl (by rw [hml]; rfl) (rest := []) rfl (hb hby at_199) (by decide) (by show 2 * 0 + 0 + (2 + 11) + ((1 + 11) + 11) ≤ 3264; decide) (by decide) (by decide)
     have N69 := Fr.app N67 N69q
     refine Goes.st st69 ?_
     show Goes _ _ _ _ (T69.setTop (mkF m 204 #[.val (.int p0), .val (.int p1), .val (.int p2), .val (.int p3), .val (.int xa), .val (.int xb), .val (.int xc), .val (.int xd), .val (.int ln), .val (.ref r1), .val (.ref r3), .val (.int cn), .val (.ref r6), .val (.ref r9), .val (.ref b12), .val (.ref r64), uS] [(.ref eO)]))
     have G72 : Exa Z T64.heap eO "java/util/OptionalInt" := EO.2.1.ext f71.2
     have G73 : Fld Z T64.heap eO "java/util/OptionalInt" "isPresent" "Z" (.int (0 : Int32)) := EO.2.2.ext f71.2
     obtain ⟨T74, X74, e74, st74⟩ := castY X69 hx hZ3 hown3 (hw110 hw) e69 (Ins.self G72) (g := (mkF m 204 #[.val (.int p0), .val (.int p1), .val (.int p2), .val (.int p3), .val (.int xa), .val (.int xb), .val (.int xc), .val (.int xd), .val (.int ln), .val (.ref r1), .val (.ref r3), .val (.int cn), .val (.ref r6), .val (.ref r9), .val (.ref b12), .val (.ref r64), uS] [(.ref eO)])) rfl rfl (hb hby at_204)
     refine Goes.st st74 ?_
     show Goes _ _ _ _ (T74.setTop (mkF m 207 #[.val (.int p0), .val (.int p1), .val (.int p2), .val (.int p3), .val (.int xa), .val (.int xb), .val (.int xc), .val (.int xd), .val (.int ln), .val (.ref r1), .val (.ref r3), .val (.int cn), .val (.ref r6), .val (.ref r9), .val (.ref b12), .val (.ref r64), uS] [(.ref eO)]))
     refine Goes.st (fun sT kT => XS.astore X74.here hx rfl (hb hby at_207) rfl rfl (l' := #[.val (.int p0), .val (.int p1), .val (.int p2), .val (.int p3), .val (.int xa), .val (.int xb), .val (.int xc), .val (.int xd), .val (.int ln), .val (.ref r1), .val (.ref r3), .val (.int cn), .val (.ref r6), .val (.ref r9), .val (.ref b12), .val (.ref r64), .val (.ref eO)]) rfl kT) ?_
     show Goes _ _ _ _ (T74.setTop (mkF m 209 #[.val (.int p0), .val (.int p1), .val (.int p2), .val (.int p3), .val (.int xa), .val (.int xb), .val (.int xc), .val (.int xd), .val (.int ln), .val (.ref r1), .val (.ref r3), .val (.int cn), .val (.ref r6), .val (.ref r9), .val (.ref b12), .val (.ref r64), .val (.ref eO)] []))
     refine Goes.st (fun sT kT => XS.aload X74.here hx rfl (hb hby at_209) rfl rfl kT) ?_
     show Goes _ _ _ _ (T74.setTop (mkF m 211 #[.val (.int p0), .val (.int p1), .val (.int p2), .val (.int p3), .val (.int xa), .val (.int xb), .val (.int xc), .val (.int xd), .val (.int ln), .val (.ref r1), .val (.ref r3), .val (.int cn), .val (.ref r6), .val (.ref r9), .val (.ref b12), .val (.ref r64), .val (.ref eO)] [(.ref r64)]))
     obtain ⟨cq75, kq75, q75a, q75b, q75c⟩ := isOf hZ3 e74 F64_0
     obtain ⟨_, _, ⟨T75, L75, k75, n75⟩, -, X75, ⟨Lc75, hQ75, l75, y75, z75⟩, st75⟩ := X74.virtualBack hx (y := (⟨"com/example/indexwerk/indexwerk/engine/TargetLimits$Origin", "file", "()Ljava/lang/String;"⟩ : MethodName)) (z := (⟨"com/example/indexwerk/indexwerk/engine/TargetLimits$Origin", "file", "()Ljava/lang/String;"⟩ : MethodName)) hown3 (mvT hZ3 (hw112 hw)) (mvT hZ3 (hw113 hw)) (notFace_of_selects (args := #[]) (mvT hZ3 (hw115 hw))) (mvT hZ3 (hw115 hw)) (mvT hZ3 (hw114 hw)) (by decide) (backOf (W := 0) (rm_gfile l Z a0 hw [] r64 r1 T64.heap n0 (Nat.le_trans Z0 (Nat.le_trans (Nat.le_trans (Nat.le_trans (Nat.le_trans (Nat.le_trans (Nat.le_trans (Nat.le_trans (Nat.le_trans K1.1 K3.1) K6.1) K9.1) E12.1) K14.1) K36.1) K60.1) K64.1)) F64_1) hZ3 (hw116 hw) (hw74 hw) (by decide) (by decide)) q75a q75c (g := (mkF m 211 #[.val (.int p0), .val (.int p1), .val (.int p2), .val (.int p3), .val (.int xa), .val (.int xb), .val (.int xc), .val (.int xd), .val (.int ln), .val (.ref r1), .val (.ref r3), .val (.int cn), .val (.ref r6), .val (.ref r9), .val (.ref b12), .val (.ref r64), .val (.ref eO)] [(.ref r64)])) rfl (by rw [hml]; rfl) (Steps.refl _) (argsL := []) (rest := []) (lenOf pd_16 rfl) rfl (by show 2 * 0 + _ ≤ _; exact Nat.le_of_eq rfl) (hb hby at_211) (fun _ _ => ⟨rfl, e74, (by decide : 19 + 0 ≤ _), (by decide : 49 + 0 ≤ _)⟩)
     dsimp only [Pt.U, Pt.locs, Pt.cells, Pt.slots] at X75 l75 y75 z75 st75 hQ75
     subst l75 y75 z75
     obtain ⟨rfl, N75q, K75⟩ := hQ75
     have N75 := Fr.app N69 N75q
     refine Goes.tr st75 ?_
     show Goes _ _ _ _ (T75.setTop (mkF m 214 #[.val (.int p0), .val (.int p1), .val (.int p2), .val (.int p3), .val (.int xa), .val (.int xb), .val (.int xc), .val (.int xd), .val (.int ln), .val (.ref r1), .val (.ref r3), .val (.int cn), .val (.ref r6), .val (.ref r9), .val (.ref b12), .val (.ref r64), .val (.ref eO)] [(.ref r1)]))
     refine Goes.st (fun sT kT => XS.ifnullNo X75.here hx rfl (hb hby at_214) rfl kT) ?_
     show Goes _ _ _ _ (T75.setTop (mkF m 217 #[.val (.int p0), .val (.int p1), .val (.int p2), .val (.int p3), .val (.int xa), .val (.int xb), .val (.int xc), .val (.int xd), .val (.int ln), .val (.ref r1), .val (.ref r3), .val (.int cn), .val (.ref r6), .val (.ref r9), .val (.ref b12), .val (.ref r64), .val (.ref eO)] []))
     refine Goes.st (fun sT kT => XS.aload X75.here hx rfl (hb hby at_217) rfl rfl kT) ?_
     show Goes _ _ _ _ (T75.setTop (mkF m 219 #[.val (.int p0), .val (.int p1), .val (.int p2), .val (.int p3), .val (.int xa), .val (.int xb), .val (.int xc), .val (.int xd), .val (.int ln), .val (.ref r1), .val (.ref r3), .val (.int cn), .val (.ref r6), .val (.ref r9), .val (.ref b12), .val (.ref r64), .val (.ref eO)] [(.ref r64)]))
     obtain ⟨cq76, kq76, q76a, q76b, q76c⟩ := isOf hZ3 K75 F64_0
     obtain ⟨_, _, ⟨T76, L76, k76, n76⟩, -, X76, ⟨Lc76, hQ76, l76, y76, z76⟩, st76⟩ := X75.virtualBack hx (y := (⟨"com/example/indexwerk/indexwerk/engine/TargetLimits$Origin", "file", "()Ljava/lang/String;"⟩ : MethodName)) (z := (⟨"com/example/indexwerk/indexwerk/engine/TargetLimits$Origin", "file", "()Ljava/lang/String;"⟩ : MethodName)) hown3 (mvT hZ3 (hw112 hw)) (mvT hZ3 (hw113 hw)) (notFace_of_selects (args := #[]) (mvT hZ3 (hw115 hw))) (mvT hZ3 (hw115 hw)) (mvT hZ3 (hw114 hw)) (by decide) (backOf (W := 0) (rm_gfile l Z a0 hw [] r64 r1 T64.heap n0 (Nat.le_trans Z0 (Nat.le_trans (Nat.le_trans (Nat.le_trans (Nat.le_trans (Nat.le_trans (Nat.le_trans (Nat.le_trans (Nat.le_trans K1.1 K3.1) K6.1) K9.1) E12.1) K14.1) K36.1) K60.1) K64.1)) F64_1) hZ3 (hw116 hw) (hw74 hw) (by decide) (by decide)) q76a q76c (g := (mkF m 219 #[.val (.int p0), .val (.int p1), .val (.int p2), .val (.int p3), .val (.int xa), .val (.int xb), .val (.int xc), .val (.int xd), .val (.int ln), .val (.ref r1), .val (.ref r3), .val (.int cn), .val (.ref r6), .val (.ref r9), .val (.ref b12), .val (.ref r64), .val (.ref eO)] [(.ref r64)])) rfl (by rw [hml]; rfl) (Steps.refl _) (argsL := []) (rest := []) (lenOf pd_16 rfl) rfl (by show 2 * 0 + _ ≤ _; exact Nat.le_of_eq rfl) (hb hby at_219) (fun _ _ => ⟨rfl, K75, (by decide : 19 + 0 ≤ _), (by decide : 49 + 0 ≤ _)⟩)
     dsimp only [Pt.U, Pt.locs, Pt.cells, Pt.slots] at X76 l76 y76 z76 st76 hQ76
     subst l76 y76 z76
     obtain ⟨rfl, N76q, K76⟩ := hQ76
     have N76 := Fr.app N75 N76q
     refine Goes.tr st76 ?_
     show Goes _ _ _ _ (T76.setTop (mkF m 222 #[.val (.int p0), .val (.int p1), .val (.int p2), .val (.int p3), .val (.int xa), .val (.int xb), .val (.int xc), .val (.int xd), .val (.int ln), .val (.ref r1), .val (.ref r3), .val (.int cn), .val (.ref r6), .val (.ref r9), .val (.ref b12), .val (.ref r64), .val (.ref eO)] [(.ref r1)]))
     refine Goes.st (fun sT kT => XS.aload X76.here hx rfl (hb hby at_222) rfl rfl kT) ?_
     show Goes _ _ _ _ (T76.setTop (mkF m 224 #[.val (.int p0), .val (.int p1), .val (.int p2), .val (.int p3), .val (.int xa), .val (.int xb), .val (.int xc), .val (.int xd), .val (.int ln), .val (.ref r1), .val (.ref r3), .val (.int cn), .val (.ref r6), .val (.ref r9), .val (.ref b12), .val (.ref r64), .val (.ref eO)] [(.ref r3), (.ref r1)]))
     have f78 : Str Z T64.heap r1 t1 kb1 (own_tx ln xa xb xc xd) := ((((((((F1_0.keep K3 nin0 nin0).keep K6 nin0 nin0).keep K9 nin0 nin0).ext E12).keep K14 (ninS (Nat.ne_of_lt (Nat.lt_of_lt_of_le F1_0.1.lt (Nat.le_trans (Nat.le_trans (Nat.le_trans K3.1 K6.1) K9.1) (Nat.le_of_eq g12.symm)))) nin0) (ninS (Nat.ne_of_lt (Nat.lt_of_lt_of_le F1_0.ltT (Nat.le_trans (Nat.le_trans (Nat.le_trans K3.1 K6.1) K9.1) (Nat.le_of_eq g12.symm)))) nin0)).keep K36 (ninS (Nat.ne_of_lt (Nat.lt_of_lt_of_le F1_0.1.lt (Nat.le_trans (Nat.le_trans (Nat.le_trans K3.1 K6.1) K9.1) (Nat.le_of_eq g12.symm)))) nin0) (ninS (Nat.ne_of_lt (Nat.lt_of_lt_of_le F1_0.ltT (Nat.le_trans (Nat.le_trans (Nat.le_trans K3.1 K6.1) K9.1) (Nat.le_of_eq g12.symm)))) nin0)).keep K60 (ninS (Nat.ne_of_lt (Nat.lt_of_lt_of_le F1_0.1.lt (Nat.le_trans (Nat.le_trans (Nat.le_trans K3.1 K6.1) K9.1) (Nat.le_of_eq g12.symm)))) (ninS (Nat.ne_of_lt (Nat.lt_of_lt_of_le F1_0.1.lt (Nat.le_trans (Nat.le_trans (Nat.le_trans (Nat.le_trans (Nat.le_trans K3.1 K6.1) K9.1) E12.1) K14.1) lo36_0))) nin0)) (ninS (Nat.ne_of_lt (Nat.lt_of_lt_of_le F1_0.ltT (Nat.le_trans (Nat.le_trans (Nat.le_trans K3.1 K6.1) K9.1) (Nat.le_of_eq g12.symm)))) (ninS (Nat.ne_of_lt (Nat.lt_of_lt_of_le F1_0.ltT (Nat.le_trans (Nat.le_trans (Nat.le_trans (Nat.le_trans (Nat.le_trans K3.1 K6.1) K9.1) E12.1) K14.1) lo36_0))) nin0))).keep K64 nin0 nin0)
     have f79 : Str Z T64.heap r3 t3 kb3 (own_tx ln xa xb xc xd) := (((((((F3_0.keep K6 nin0 nin0).keep K9 nin0 nin0).ext E12).keep K14 (ninS (Nat.ne_of_lt (Nat.lt_of_lt_of_le F3_0.1.lt (Nat.le_trans (Nat.le_trans K6.1 K9.1) (Nat.le_of_eq g12.symm)))) nin0) (ninS (Nat.ne_of_lt (Nat.lt_of_lt_of_le F3_0.ltT (Nat.le_trans (Nat.le_trans K6.1 K9.1) (Nat.le_of_eq g12.symm)))) nin0)).keep K36 (ninS (Nat.ne_of_lt (Nat.lt_of_lt_of_le F3_0.1.lt (Nat.le_trans (Nat.le_trans K6.1 K9.1) (Nat.le_of_eq g12.symm)))) nin0) (ninS (Nat.ne_of_lt (Nat.lt_of_lt_of_le F3_0.ltT (Nat.le_trans (Nat.le_trans K6.1 K9.1) (Nat.le_of_eq g12.symm)))) nin0)).keep K60 (ninS (Nat.ne_of_lt (Nat.lt_of_lt_of_le F3_0.1.lt (Nat.le_trans (Nat.le_trans K6.1 K9.1) (Nat.le_of_eq g12.symm)))) (ninS (Nat.ne_of_lt (Nat.lt_of_lt_of_le F3_0.1.lt (Nat.le_trans (Nat.le_trans (Nat.le_trans (Nat.le_trans K6.1 K9.1) E12.1) K14.1) lo36_0))) nin0)) (ninS (Nat.ne_of_lt (Nat.lt_of_lt_of_le F3_0.ltT (Nat.le_trans (Nat.le_trans K6.1 K9.1) (Nat.le_of_eq g12.symm)))) (ninS (Nat.ne_of_lt (Nat.lt_of_lt_of_le F3_0.ltT (Nat.le_trans (Nat.le_trans (Nat.le_trans (Nat.le_trans K6.1 K9.1) E12.1) K14.1) lo36_0))) nin0))).keep K64 nin0 nin0)
     have f80 : Exa Z T64.heap r1 "java/lang/String" := ((((((((F1_0E.keep K3).keep K6).keep K9).ext E12).keep K14).keep K36).keep K60).keep K64)
     obtain ⟨cq77, kq77, q77a, q77b, q77c⟩ := isOf hZ3 K76 f80
     obtain ⟨_, _, ⟨T77, L77, k77, n77⟩, -, X77, ⟨Lc77, hQ77, l77, y77, z77⟩, st77⟩ := X76.virtualBack hx (y := (⟨"java/lang/String", "equals", "(Ljava/lang/Object;)Z"⟩ : MethodName)) (z := (⟨"java/lang/String", "equals", "(Ljava/lang/Object;)Z"⟩ : MethodName)) hown3 (mvT hZ3 (hw117 hw)) (mvT hZ3 (hw118 hw)) (notFace_of_selects (args := #[]) (mvT hZ3 (hw120 hw))) (mvT hZ3 (hw120 hw)) (mvT hZ3 (hw119 hw)) (by decide) (StrChars.Road.eqW (W := 0) hZ3 (own_heq hw) (kI := 4) (hw5 hw) f78.1 f78.2.1 f78.2.2.1 f78.2.2.2.1 (own_cod f78) (own_up f78.2.2.2.2.1) f78.2.2.2.2.2 f79.1 f79.2.1 f79.2.2.1 f79.2.2.2.1 (own_cod f79) (own_up f79.2.2.2.2.1) f79.2.2.2.2.2 (O2.ext f71.2) P5 (by decide) (by decide)) q77a q77c (g := (mkF m 224 #[.val (.int p0), .val (.int p1), .val (.int p2), .val (.int p3), .val (.int xa), .val (.int xb), .val (.int xc), .val (.int xd), .val (.int ln), .val (.ref r1), .val (.ref r3), .val (.int cn), .val (.ref r6), .val (.ref r9), .val (.ref b12), .val (.ref r64), .val (.ref eO)] [(.ref r3), (.ref r1)])) rfl (by rw [hml]; rfl) (Steps.refl _) (argsL := [(.ref r3)]) (rest := []) (lenOf pd_17 rfl) rfl (by show 2 * 0 + _ ≤ _; exact Nat.le_of_eq rfl) (hb hby at_224) (fun _ _ => ⟨rfl, K76, (by decide : 19 + 0 ≤ _), (by decide : 49 + 0 ≤ _)⟩)
     dsimp only [Pt.U, Pt.locs, Pt.cells, Pt.slots] at X77 l77 y77 z77 st77 hQ77
     subst l77 y77 z77
     obtain ⟨hv77, rfl, K77⟩ := hQ77
     have hv77' := own_ite hv77
     rw [if_pos rfl] at hv77'
     subst hv77'
     have N77 := Fr.app N76 (Fr.nil n0)
     refine Goes.tr st77 ?_
     show Goes _ _ _ _ (T77.setTop (mkF m 227 #[.val (.int p0), .val (.int p1), .val (.int p2), .val (.int p3), .val (.int xa), .val (.int xb), .val (.int xc), .val (.int xd), .val (.int ln), .val (.ref r1), .val (.ref r3), .val (.int cn), .val (.ref r6), .val (.ref r9), .val (.ref b12), .val (.ref r64), .val (.ref eO)] [(.int (1 : Int32))]))
     refine Goes.st (fun sT kT => XS.ifNo X77.here hx rfl (hb hby at_227) rfl ((if0 _ _).trans (feq (by decide : ¬ ((1 : Int32) = (0 : Int32)))).1) kT) ?_
     show Goes _ _ _ _ (T77.setTop (mkF m 230 #[.val (.int p0), .val (.int p1), .val (.int p2), .val (.int p3), .val (.int xa), .val (.int xb), .val (.int xc), .val (.int xd), .val (.int ln), .val (.ref r1), .val (.ref r3), .val (.int cn), .val (.ref r6), .val (.ref r9), .val (.ref b12), .val (.ref r64), .val (.ref eO)] []))
     refine Goes.st (fun sT kT => XS.aload X77.here hx rfl (hb hby at_230) rfl rfl kT) ?_
     show Goes _ _ _ _ (T77.setTop (mkF m 232 #[.val (.int p0), .val (.int p1), .val (.int p2), .val (.int p3), .val (.int xa), .val (.int xb), .val (.int xc), .val (.int xd), .val (.int ln), .val (.ref r1), .val (.ref r3), .val (.int cn), .val (.ref r6), .val (.ref r9), .val (.ref b12), .val (.ref r64), .val (.ref eO)] [(.ref eO)]))
     refine Goes.st (fun sT kT => XS.ifnullNo X77.here hx rfl (hb hby at_232) rfl kT) ?_
     show Goes _ _ _ _ (T77.setTop (mkF m 235 #[.val (.int p0), .val (.int p1), .val (.int p2), .val (.int p3), .val (.int xa), .val (.int xb), .val (.int xc), .val (.int xd), .val (.int ln), .val (.ref r1), .val (.ref r3), .val (.int cn), .val (.ref r6), .val (.ref r9), .val (.ref b12), .val (.ref r64), .val (.ref eO)] []))
     refine Goes.st (fun sT kT => XS.aload X77.here hx rfl (hb hby at_235) rfl rfl kT) ?_
     show Goes _ _ _ _ (T77.setTop (mkF m 237 #[.val (.int p0), .val (.int p1), .val (.int p2), .val (.int p3), .val (.int xa), .val (.int xb), .val (.int xc), .val (.int xd), .val (.int ln), .val (.ref r1), .val (.ref r3), .val (.int cn), .val (.ref r6), .val (.ref r9), .val (.ref b12), .val (.ref r64), .val (.ref eO)] [(.ref eO)]))
     obtain ⟨cq81, kq81, q81a, q81b, q81c⟩ := isOf hZ3 K77 G72
     obtain ⟨_, _, ⟨T81, L81, k81, n81⟩, -, X81, ⟨Lc81, hQ81, l81, y81, z81⟩, st81⟩ := X77.virtualBack hx (y := (⟨"java/util/OptionalInt", "isPresent", "()Z"⟩ : MethodName)) (z := (⟨"java/util/OptionalInt", "isPresent", "()Z"⟩ : MethodName)) hown3 (mvT hZ3 (hw125 hw)) (mvT hZ3 (hw126 hw)) (notFace_of_selects (args := #[]) (mvT hZ3 (hw128 hw))) (mvT hZ3 (hw128 hw)) (mvT hZ3 (hw127 hw)) (by decide) (backOf (W := 0) (rm_ispr l Z a0 hw [] eO (0 : Int32) T64.heap n0 (Nat.le_trans Z0 (Nat.le_trans (Nat.le_trans (Nat.le_trans (Nat.le_trans (Nat.le_trans (Nat.le_trans (Nat.le_trans (Nat.le_trans K1.1 K3.1) K6.1) K9.1) E12.1) K14.1) K36.1) K60.1) K64.1)) G73 (Or.inl rfl)) hZ3 (hw129 hw) (hw107 hw) (by decide) (by decide)) q81a q81c (g := (mkF m 237 #[.val (.int p0), .val (.int p1), .val (.int p2), .val (.int p3), .val (.int xa), .val (.int xb), .val (.int xc), .val (.int xd), .val (.int ln), .val (.ref r1), .val (.ref r3), .val (.int cn), .val (.ref r6), .val (.ref r9), .val (.ref b12), .val (.ref r64), .val (.ref eO)] [(.ref eO)])) rfl (by rw [hml]; rfl) (Steps.refl _) (argsL := []) (rest := []) (lenOf pd_18 rfl) rfl (by show 2 * 0 + _ ≤ _; exact Nat.le_of_eq rfl) (hb hby at_237) (fun _ _ => ⟨rfl, K77, (by decide : 19 + 0 ≤ _), (by decide : 49 + 0 ≤ _)⟩)
     dsimp only [Pt.U, Pt.locs, Pt.cells, Pt.slots] at X81 l81 y81 z81 st81 hQ81
     subst l81 y81 z81
     obtain ⟨rfl, N81q, K81⟩ := hQ81
     have N81 := Fr.app N77 N81q
     refine Goes.tr st81 ?_
     show Goes _ _ _ _ (T81.setTop (mkF m 240 #[.val (.int p0), .val (.int p1), .val (.int p2), .val (.int p3), .val (.int xa), .val (.int xb), .val (.int xc), .val (.int xd), .val (.int ln), .val (.ref r1), .val (.ref r3), .val (.int cn), .val (.ref r6), .val (.ref r9), .val (.ref b12), .val (.ref r64), .val (.ref eO)] [(.int (0 : Int32))]))
     refine Goes.st (fun sT kT => XS.ifNo X81.here hx rfl (hb hby at_240) rfl ((if0 _ _).trans (teq (by decide : (0 : Int32) = (0 : Int32))).2) kT) ?_
     show Goes _ _ _ _ (T81.setTop (mkF m 243 #[.val (.int p0), .val (.int p1), .val (.int p2), .val (.int p3), .val (.int xa), .val (.int xb), .val (.int xc), .val (.int xd), .val (.int ln), .val (.ref r1), .val (.ref r3), .val (.int cn), .val (.ref r6), .val (.ref r9), .val (.ref b12), .val (.ref r64), .val (.ref eO)] []))
     refine Goes.st (fun sT kT => XS.iconst X81.here hx rfl (hb hby at_243) kT) ?_
     show Goes _ _ _ _ (T81.setTop (mkF m 244 #[.val (.int p0), .val (.int p1), .val (.int p2), .val (.int p3), .val (.int xa), .val (.int xb), .val (.int xc), .val (.int xd), .val (.int ln), .val (.ref r1), .val (.ref r3), .val (.int cn), .val (.ref r6), .val (.ref r9), .val (.ref b12), .val (.ref r64), .val (.ref eO)] [(.int (1 : Int32))]))
     refine Goes.st (fun sT kT => XS.goto X81.here hx rfl (pc0 := 244) (pc' := 248) rfl (hb hby at_244) (by decide) (by decide) kT) ?_
     show Goes _ _ _ _ (T81.setTop (mkF m 248 #[.val (.int p0), .val (.int p1), .val (.int p2), .val (.int p3), .val (.int xa), .val (.int xb), .val (.int xc), .val (.int xd), .val (.int ln), .val (.ref r1), .val (.ref r3), .val (.int cn), .val (.ref r6), .val (.ref r9), .val (.ref b12), .val (.ref r64), .val (.ref eO)] [(.int (1 : Int32))]))
     obtain ⟨fs, hr, hrun, hended, hRW⟩ := X81.leaveW hS3 (by rw [K81]; exact (Nat.le_trans (Nat.le_trans (Nat.le_trans (Nat.le_trans (Nat.le_trans (Nat.le_trans (Nat.le_trans (Nat.le_refl _) K6.1) K9.1) E12.1) K14.1) K36.1) K60.1) K64.1)) (v := some (.int (1 : Int32))) (fun h => by rw [Bd.returns] at h; cases h)
     subst hQQ
     have hCR : CHr Z EL s.vm s.heap T81.vm T81.heap := by rw [hh, K81]; exact CR65.trans (CHv.at X81 hZ3 (own_EW hw) CR65.1)
     refine ⟨_, _, retN X81 hx (t := .boolean) Bd.returns (by simp) (hb hby at_248) hr, hrun, hended, _, _, rfl, ?_, hCR, own_REmono hRW (by decide) (by decide)⟩
     show Q_law Z p0 p1 p2 p3 G1 aD kD aL cK eO h0 n0 _ T81.heap _
     rw [K81]
     exact ⟨rfl, N81⟩
    case neg =>
     refine Goes.st (fun sT kT => XS.icmpNo X60.here hx rfl (hb hby at_162) rfl (flt cz63).1 kT) ?_
     show Goes _ _ _ _ (T60.setTop (mkF m 165 #[.val (.int p0), .val (.int p1), .val (.int p2), .val (.int p3), .val (.int xa), .val (.int xb), .val (.int xc), .val (.int xd), .val (.int ln), .val (.ref r1), .val (.ref r3), .val (.int cn), .val (.ref r6), .val (.ref r9), .val (.ref b12), uS, uS] []))
     refine Goes.st (fun sT kT => XS.aload X60.here hx rfl (hb hby at_165) rfl rfl kT) ?_
     show Goes _ _ _ _ (T60.setTop (mkF m 167 #[.val (.int p0), .val (.int p1), .val (.int p2), .val (.int p3), .val (.int xa), .val (.int xb), .val (.int xc), .val (.int xd), .val (.int ln), .val (.ref r1), .val (.ref r3), .val (.int cn), .val (.ref r6), .val (.ref r9), .val (.ref b12), uS, uS] [(.ref b12)]))
     refine Goes.st (fun sT kT => XS.aload X60.here hx rfl (hb hby at_167) rfl rfl kT) ?_
     show Goes _ _ _ _ (T60.setTop (mkF m 169 #[.val (.int p0), .val (.int p1), .val (.int p2), .val (.int p3), .val (.int xa), .val (.int xb), .val (.int xc), .val (.int xd), .val (.int ln), .val (.ref r1), .val (.ref r3), .val (.int cn), .val (.ref r6), .val (.ref r9), .val (.ref b12), uS, uS] [(.ref r3), (.ref b12)]))
     have f83 : Exa Z T60.heap r3 "java/lang/String" := ((((((F3_0E.keep K6).keep K9).ext E12).keep K14).keep K36).keep K60)
     obtain ⟨cq82, kq82, q82a, q82b, q82c⟩ := isOf hZ3 rfl F60_0
     obtain ⟨_, _, ⟨T82, L82, k82, n82⟩, -, X82, ⟨Lc82, hQ82, l82, y82, z82⟩, st82⟩ := X60.interfaceBack hx (xi := (⟨"java/util/List", "add", "(Ljava/lang/Object;)Z"⟩ : MethodName)) (y := (⟨"java/util/ArrayList", "add", "(Ljava/lang/Object;)Z"⟩ : MethodName)) hown3 (mvT hZ3 (hw135 hw)) (mvT hZ3 (hw136 hw)) (mvT hZ3 (hw137 hw)) (mvT hZ3 (hw138 hw)) (mvT hZ3 (hw139 hw)) (mvT hZ3 (hw140 hw)) (mvT hZ3 (hw141 hw)) (mvT hZ3 (hw102 hw)) (by decide) (backOf (W := 0) (rm_add3 l Z a0 hw [] b12 r3 ar36 kA36 r6 r9 (((0 : Int32) + (1 : Int32)) + (1 : Int32)) T60.heap n0 (Nat.le_trans Z0 (Nat.le_trans (Nat.le_trans (Nat.le_trans (Nat.le_trans (Nat.le_trans (Nat.le_trans (Nat.le_trans K1.1 K3.1) K6.1) K9.1) E12.1) K14.1) K36.1) K60.1)) F60_0 F60_1 F60_2 F60_3 F60_4 f83 (Nat.le_trans Z0 (Nat.le_trans (Nat.le_trans (Nat.le_trans (Nat.le_trans K1.1 K3.1) K6.1) K9.1) (Nat.le_of_eq g12.symm))) (Nat.le_trans Z0 (Nat.le_trans (Nat.le_trans (Nat.le_trans (Nat.le_trans (Nat.le_trans (Nat.le_trans K1.1 K3.1) K6.1) K9.1) E12.1) K14.1) lo36_0)) ov_36) hZ3 (hw142 hw) (hw50 hw) (by decide) (by decide)) q82a q82b q82c (g := (mkF m 169 #[.val (.int p0), .val (.int p1), .val (.int p2), .val (.int p3), .val (.int xa), .val (.int xb), .val (.int xc), .val (.int xd), .val (.int ln), .val (.ref r1), .val (.ref r3), .val (.int cn), .val (.ref r6), .val (.ref r9), .val (.ref b12), uS, uS] [(.ref r3), (.ref b12)])) rfl (by rw [hml]; rfl) (Steps.refl _) (argsL := [(.ref r3)]) (rest := []) (lenOf pd_17 rfl) rfl (by show 2 * 0 + _ ≤ _; exact Nat.le_of_eq rfl) (hb hby at_169) (fun _ _ => ⟨rfl, rfl, (by decide : 18 + 0 ≤ _), (by decide : 47 + 0 ≤ _)⟩)
     dsimp only [Pt.U, Pt.locs, Pt.cells, Pt.slots] at X82 l82 y82 z82 st82 hQ82
     subst l82 y82 z82
     obtain ⟨rfl, N82q, K82, F82_0, F82_1, F82_2, F82_3, F82_4⟩ := hQ82
     have N82 := Fr.app N60 N82q
     have hs84 : ∀ x ∈ ([b12, ar36] : List Addr), Safe Z EL T3.vm T60.heap x := (allS (Safe.exa hZ3.alike F60_0 (by decide) (by decide)) (allS (own_safeArv hZ3.alike F60_4 (by simp)) all0))
     have CR84 : CHr Z EL s.vm h0 T3.vm T82.heap := CR62.trans (CHr.keep K82 hs84 CR62.1)
     refine Goes.tr st82 ?_
     show Goes _ _ _ _ (T82.setTop (mkF m 174 #[.val (.int p0), .val (.int p1), .val (.int p2), .val (.int p3), .val (.int xa), .val (.int xb), .val (.int xc), .val (.int xd), .val (.int ln), .val (.ref r1), .val (.ref r3), .val (.int cn), .val (.ref r6), .val (.ref r9), .val (.ref b12), uS, uS] [(.int (1 : Int32))]))
     refine Goes.st (fun sT kT => XS.pop X82.here hx rfl (hb hby at_174) rfl rfl kT) ?_
     show Goes _ _ _ _ (T82.setTop (mkF m 175 #[.val (.int p0), .val (.int p1), .val (.int p2), .val (.int p3), .val (.int xa), .val (.int xb), .val (.int xc), .val (.int xd), .val (.int ln), .val (.ref r1), .val (.ref r3), .val (.int cn), .val (.ref r6), .val (.ref r9), .val (.ref b12), uS, uS] []))
     refine Goes.st (fun sT kT => XS.aload X82.here hx rfl (hb hby at_175) rfl rfl kT) ?_
     show Goes _ _ _ _ (T82.setTop (mkF m 177 #[.val (.int p0), .val (.int p1), .val (.int p2), .val (.int p3), .val (.int xa), .val (.int xb), .val (.int xc), .val (.int xd), .val (.int ln), .val (.ref r1), .val (.ref r3), .val (.int cn), .val (.ref r6), .val (.ref r9), .val (.ref b12), uS, uS] [(.ref r1)]))
     obtain ⟨_, _, ⟨T85, L85, k85, n85⟩, -, X85, ⟨Lc85, hQ85, l85, y85, z85⟩, st85⟩ := Jvm.LawKit.callS X82 hx (y := (⟨"com/example/indexwerk/indexwerk/engine/TargetLimits$Origin", "of", "(Ljava/lang/String;)Lcom/example/indexwerk/indexwerk/engine/TargetLimits$Origin;"⟩ : MethodName)) hown3 (mvT hZ3 (hw72 hw)) (mvT hZ3 (hw73 hw)) (mvT hZ3 (hw74 hw)) (mvT hZ3 (hw75 hw)) (by decide) (backOf (W := 0) (rm_orig l Z a0 hw [] r1 aL cK T82.heap n0 (Nat.le_trans Z0 (Nat.le_trans (Nat.le_trans (Nat.le_trans (Nat.le_trans (Nat.le_trans (Nat.le_trans (Nat.le_trans (Nat.le_trans K1.1 K3.1) K6.1) K9.1) E12.1) K14.1) K36.1) K60.1) K82.1)) LM) hZ3 (hw75 hw) (hw74 hw) (by decide) (by decide)) (g := (mkF m 177 #[.val (.int p0), .val (.int p1), .val (.int p2), .val (.int p3), .val (.int xa), .val (.int xb), .val (.int xc), .val (.int xd), .val (.int ln), .val (.ref r1), .val (.ref r3), .val (.int cn), .val (.ref r6), .val (.ref r9), .val (.ref b12), uS, uS] [(.ref r1)])) rfl (by rw [hml]; rfl) (argsL := [(.ref r1)]) (rest := []) (lenOf pd_14 rfl) rfl (by show 2 * 0 + _ ≤ _; exact Nat.le_of_eq rfl) (hb hby at_177) (fun _ _ => ⟨rfl, rfl, (by decide : 18 + 1 ≤ _), (by decide : 47 + 2 ≤ _)⟩)
     dsimp only [Pt.U, Pt.locs, Pt.cells, Pt.slots] at X85 l85 y85 z85 st85 hQ85
     subst l85 y85 z85
     obtain ⟨r85, rfl, N85q, K85, F85_0, F85_1, F85_2, lo85_0⟩ := hQ85
     have N85 := Fr.app N82 N85q
     have hs86 : ∀ x ∈ ([] : List Addr), Safe Z EL T3.vm T82.heap x := all0
     have CR86 : CHr Z EL s.vm h0 T3.vm T85.heap := CR84.trans (CHr.keep K85 hs86 CR84.1)
     refine Goes.st st85 ?_
     show Goes _ _ _ _ (T85.setTop (mkF m 180 #[.val (.int p0), .val (.int p1), .val (.int p2), .val (.int p3), .val (.int xa), .val (.int xb), .val (.int xc), .val (.int xd), .val (.int ln), .val (.ref r1), .val (.ref r3), .val (.int cn), .val (.ref r6), .val (.ref r9), .val (.ref b12), uS, uS] [(.ref r85)]))
     refine Goes.st (fun sT kT => XS.astore X85.here hx rfl (hb hby at_180) rfl rfl (l' := #[.val (.int p0), .val (.int p1), .val (.int p2), .val (.int p3), .val (.int xa), .val (.int xb), .val (.int xc), .val (.int xd), .val (.int ln), .val (.ref r1), .val (.ref r3), .val (.int cn), .val (.ref r6), .val (.ref r9), .val (.ref b12), .val (.ref r85), uS]) rfl kT) ?_
     show Goes _ _ _ _ (T85.setTop (mkF m 182 #[.val (.int p0), .val (.int p1), .val (.int p2), .val (.int p3), .val (.int xa), .val (.int xb), .val (.int xc), .val (.int xd), .val (.int ln), .val (.ref r1), .val (.ref r3), .val (.int cn), .val (.ref r6), .val (.ref r9), .val (.ref b12), .val (.ref r85), uS] []))
     refine Goes.st (fun sT kT => XS.aload X85.here hx rfl (hb hby at_182) rfl rfl kT) ?_
     show Goes _ _ _ _ (T85.setTop (mkF m 184 #[.val (.int p0), .val (.int p1), .val (.int p2), .val (.int p3), .val (.int xa), .val (.int xb), .val (.int xc), .val (.int xd), .val (.int ln), .val (.ref r1), .val (.ref r3), .val (.int cn), .val (.ref r6), .val (.ref r9), .val (.ref b12), .val (.ref r85), uS] [(.ref r85)]))
     obtain ⟨cq87, kq87, q87a, q87b, q87c⟩ := isOf hZ3 rfl F85_0
     obtain ⟨_, _, ⟨T87, L87, k87, n87⟩, -, X87, ⟨Lc87, hQ87, l87, y87, z87⟩, st87⟩ := X85.virtualBack hx (y := (⟨"com/example/indexwerk/indexwerk/engine/TargetLimits$Origin", "line", "()Ljava/util/function/Function;"⟩ : MethodName)) (z := (⟨"com/example/indexwerk/indexwerk/engine/TargetLimits$Origin", "line", "()Ljava/util/function/Function;"⟩ : MethodName)) hown3 (mvT hZ3 (hw94 hw)) (mvT hZ3 (hw95 hw)) (notFace_of_selects (args := #[]) (mvT hZ3 (hw97 hw))) (mvT hZ3 (hw97 hw)) (mvT hZ3 (hw96 hw)) (by decide) (backOf (W := 0) (rm_gline l Z a0 hw [] r85 aL T85.heap n0 (Nat.le_trans Z0 (Nat.le_trans (Nat.le_trans (Nat.le_trans (Nat.le_trans (Nat.le_trans (Nat.le_trans (Nat.le_trans (Nat.le_trans (Nat.le_trans K1.1 K3.1) K6.1) K9.1) E12.1) K14.1) K36.1) K60.1) K82.1) K85.1)) F85_2) hZ3 (hw98 hw) (hw74 hw) (by decide) (by decide)) q87a q87c (g := (mkF m 184 #[.val (.int p0), .val (.int p1), .val (.int p2), .val (.int p3), .val (.int xa), .val (.int xb), .val (.int xc), .val (.int xd), .val (.int ln), .val (.ref r1), .val (.ref r3), .val (.int cn), .val (.ref r6), .val (.ref r9), .val (.ref b12), .val (.ref r85), uS] [(.ref r85)])) rfl (by rw [hml]; rfl) (Steps.refl _) (argsL := []) (rest := []) (lenOf pd_15 rfl) rfl (by show 2 * 0 + _ ≤ _; exact Nat.le_of_eq rfl) (hb hby at_184) (fun _ _ => ⟨rfl, rfl, (by decide : 19 + 0 ≤ _), (by decide : 49 + 0 ≤ _)⟩)
     dsimp only [Pt.U, Pt.locs, Pt.cells, Pt.slots] at X87 l87 y87 z87 st87 hQ87
     subst l87 y87 z87
     obtain ⟨rfl, N87q, K87⟩ := hQ87
     have N87 := Fr.app N85 N87q
     refine Goes.tr st87 ?_
     show Goes _ _ _ _ (T87.setTop (mkF m 187 #[.val (.int p0), .val (.int p1), .val (.int p2), .val (.int p3), .val (.int xa), .val (.int xb), .val (.int xc), .val (.int xd), .val (.int ln), .val (.ref r1), .val (.ref r3), .val (.int cn), .val (.ref r6), .val (.ref r9), .val (.ref b12), .val (.ref r85), uS] [(.ref aL)]))
     refine Goes.st (fun sT kT => XS.ifnonnullYes X87.here hx rfl (pc0 := 187) (pc' := 192) rfl (hb hby at_187) rfl (by decide) (by decide) kT) ?_
     show Goes _ _ _ _ (T87.setTop (mkF m 192 #[.val (.int p0), .val (.int p1), .val (.int p2), .val (.int p3), .val (.int xa), .val (.int xb), .val (.int xc), .val (.int xd), .val (.int ln), .val (.ref r1), .val (.ref r3), .val (.int cn), .val (.ref r6), .val (.ref r9), .val (.ref b12), .val (.ref r85), uS] []))
     refine Goes.st (fun sT kT => XS.aload X87.here hx rfl (hb hby at_192) rfl rfl kT) ?_
     show Goes _ _ _ _ (T87.setTop (mkF m 194 #[.val (.int p0), .val (.int p1), .val (.int p2), .val (.int p3), .val (.int xa), .val (.int xb), .val (.int xc), .val (.int xd), .val (.int ln), .val (.ref r1), .val (.ref r3), .val (.int cn), .val (.ref r6), .val (.ref r9), .val (.ref b12), .val (.ref r85), uS] [(.ref r85)]))
     obtain ⟨cq88, kq88, q88a, q88b, q88c⟩ := isOf hZ3 K87 F85_0
     obtain ⟨_, _, ⟨T88, L88, k88, n88⟩, -, X88, ⟨Lc88, hQ88, l88, y88, z88⟩, st88⟩ := X87.virtualBack hx (y := (⟨"com/example/indexwerk/indexwerk/engine/TargetLimits$Origin", "line", "()Ljava/util/function/Function;"⟩ : MethodName)) (z := (⟨"com/example/indexwerk/indexwerk/engine/TargetLimits$Origin", "line", "()Ljava/util/function/Function;"⟩ : MethodName)) hown3 (mvT hZ3 (hw94 hw)) (mvT hZ3 (hw95 hw)) (notFace_of_selects (args := #[]) (mvT hZ3 (hw97 hw))) (mvT hZ3 (hw97 hw)) (mvT hZ3 (hw96 hw)) (by decide) (backOf (W := 0) (rm_gline l Z a0 hw [] r85 aL T85.heap n0 (Nat.le_trans Z0 (Nat.le_trans (Nat.le_trans (Nat.le_trans (Nat.le_trans (Nat.le_trans (Nat.le_trans (Nat.le_trans (Nat.le_trans (Nat.le_trans K1.1 K3.1) K6.1) K9.1) E12.1) K14.1) K36.1) K60.1) K82.1) K85.1)) F85_2) hZ3 (hw98 hw) (hw74 hw) (by decide) (by decide)) q88a q88c (g := (mkF m 194 #[.val (.int p0), .val (.int p1), .val (.int p2), .val (.int p3), .val (.int xa), .val (.int xb), .val (.int xc), .val (.int xd), .val (.int ln), .val (.ref r1), .val (.ref r3), .val (.int cn), .val (.ref r6), .val (.ref r9), .val (.ref b12), .val (.ref r85), uS] [(.ref r85)])) rfl (by rw [hml]; rfl) (Steps.refl _) (argsL := []) (rest := []) (lenOf pd_15 rfl) rfl (by show 2 * 0 + _ ≤ _; exact Nat.le_of_eq rfl) (hb hby at_194) (fun _ _ => ⟨rfl, K87, (by decide : 19 + 0 ≤ _), (by decide : 49 + 0 ≤ _)⟩)
     dsimp only [Pt.U, Pt.locs, Pt.cells, Pt.slots] at X88 l88 y88 z88 st88 hQ88
     subst l88 y88 z88
     obtain ⟨rfl, N88q, K88⟩ := hQ88
     have N88 := Fr.app N87 N88q
     refine Goes.tr st88 ?_
     show Goes _ _ _ _ (T88.setTop (mkF m 197 #[.val (.int p0), .val (.int p1), .val (.int p2), .val (.int p3), .val (.int xa), .val (.int xb), .val (.int xc), .val (.int xd), .val (.int ln), .val (.ref r1), .val (.ref r3), .val (.int cn), .val (.ref r6), .val (.ref r9), .val (.ref b12), .val (.ref r85), uS] [(.ref aL)]))
     refine Goes.st (fun sT kT => XS.aload X88.here hx rfl (hb hby at_197) rfl rfl kT) ?_
     show Goes _ _ _ _ (T88.setTop (mkF m 199 #[.val (.int p0), .val (.int p1), .val (.int p2), .val (.int p3), .val (.int xa), .val (.int xb), .val (.int xc), .val (.int xd), .val (.int ln), .val (.ref r1), .val (.ref r3), .val (.int cn), .val (.ref r6), .val (.ref r9), .val (.ref b12), .val (.ref r85), uS] [(.ref b12), (.ref aL)]))
     have f91 : Exa Z T85.heap b12 "java/util/ArrayList" := (F82_0.keep K85)
     have f92 : Old Z n0 T85.heap := ((((f39.keep K36 (allS (Nat.le_trans Z0 (Nat.le_trans (Nat.le_trans (Nat.le_trans (Nat.le_trans K1.1 K3.1) K6.1) K9.1) (Nat.le_of_eq g12.symm))) all0)).keep K60 (allS (Nat.le_trans Z0 (Nat.le_trans (Nat.le_trans (Nat.le_trans (Nat.le_trans K1.1 K3.1) K6.1) K9.1) (Nat.le_of_eq g12.symm))) (allS (Nat.le_trans Z0 (Nat.le_trans (Nat.le_trans (Nat.le_trans (Nat.le_trans (Nat.le_trans (Nat.le_trans K1.1 K3.1) K6.1) K9.1) E12.1) K14.1) lo36_0)) all0))).keep K82 (allS (Nat.le_trans Z0 (Nat.le_trans (Nat.le_trans (Nat.le_trans (Nat.le_trans K1.1 K3.1) K6.1) K9.1) (Nat.le_of_eq g12.symm))) (allS (Nat.le_trans Z0 (Nat.le_trans (Nat.le_trans (Nat.le_trans (Nat.le_trans (Nat.le_trans (Nat.le_trans K1.1 K3.1) K6.1) K9.1) E12.1) K14.1) lo36_0)) all0))).keep K85 all0)
     obtain ⟨T90, L90, X90, N90q, e90, st90⟩ := own_apply X88 hx hZ3 hw hown3 K88 (Nat.le_trans Z0 (Nat.le_trans (Nat.le_trans (Nat.le_trans (Nat.le_trans (Nat.le_trans (Nat.le_trans (Nat.le_trans (Nat.le_trans (Nat.le_trans K1.1 K3.1) K6.1) K9.1) E12.1) K14.1) K36.1) K60.1) K82.1) K85.1)) LM EO f92 f91 (g := (mkF m 199 #[.val (.int p0), .val (.int p1), .val (.int p2), .val (.int p3), .val (.int xa), .val (.int xb), .val (.int xc), .val (.int xd), .val (.int ln), .val (.ref r1), .val (.ref r3), .val (.int cn), .val (.ref r6), .val (.ref r9), .val (.ref b12), .val (.ref r85), uS] [(.ref b12), (.ref aL)])) rfl (by rw [hml]; rfl) (rest := []) rfl (hb hby at_199) (by decide) (by show 2 * 0 + 0 + (2 + 11) + ((1 + 11) + 11) ≤ 3264; decide) (by decide) (by decide)
     have N90 := Fr.app N88 N90q
     refine Goes.st st90 ?_
     show Goes _ _ _ _ (T90.setTop (mkF m 204 #[.val (.int p0), .val (.int p1), .val (.int p2), .val (.int p3), .val (.int xa), .val (.int xb), .val (.int xc), .val (.int xd), .val (.int ln), .val (.ref r1), .val (.ref r3), .val (.int cn), .val (.ref r6), .val (.ref r9), .val (.ref b12), .val (.ref r85), uS] [(.ref eO)]))
     have G93 : Exa Z T85.heap eO "java/util/OptionalInt" := EO.2.1.ext f92.2
     have G94 : Fld Z T85.heap eO "java/util/OptionalInt" "isPresent" "Z" (.int (0 : Int32)) := EO.2.2.ext f92.2
     obtain ⟨T95, X95, e95, st95⟩ := castY X90 hx hZ3 hown3 (hw110 hw) e90 (Ins.self G93) (g := (mkF m 204 #[.val (.int p0), .val (.int p1), .val (.int p2), .val (.int p3), .val (.int xa), .val (.int xb), .val (.int xc), .val (.int xd), .val (.int ln), .val (.ref r1), .val (.ref r3), .val (.int cn), .val (.ref r6), .val (.ref r9), .val (.ref b12), .val (.ref r85), uS] [(.ref eO)])) rfl rfl (hb hby at_204)
     refine Goes.st st95 ?_
     show Goes _ _ _ _ (T95.setTop (mkF m 207 #[.val (.int p0), .val (.int p1), .val (.int p2), .val (.int p3), .val (.int xa), .val (.int xb), .val (.int xc), .val (.int xd), .val (.int ln), .val (.ref r1), .val (.ref r3), .val (.int cn), .val (.ref r6), .val (.ref r9), .val (.ref b12), .val (.ref r85), uS] [(.ref eO)]))
     refine Goes.st (fun sT kT => XS.astore X95.here hx rfl (hb hby at_207) rfl rfl (l' := #[.val (.int p0), .val (.int p1), .val (.int p2), .val (.int p3), .val (.int xa), .val (.int xb), .val (.int xc), .val (.int xd), .val (.int ln), .val (.ref r1), .val (.ref r3), .val (.int cn), .val (.ref r6), .val (.ref r9), .val (.ref b12), .val (.ref r85), .val (.ref eO)]) rfl kT) ?_
     show Goes _ _ _ _ (T95.setTop (mkF m 209 #[.val (.int p0), .val (.int p1), .val (.int p2), .val (.int p3), .val (.int xa), .val (.int xb), .val (.int xc), .val (.int xd), .val (.int ln), .val (.ref r1), .val (.ref r3), .val (.int cn), .val (.ref r6), .val (.ref r9), .val (.ref b12), .val (.ref r85), .val (.ref eO)] []))
     refine Goes.st (fun sT kT => XS.aload X95.here hx rfl (hb hby at_209) rfl rfl kT) ?_
     show Goes _ _ _ _ (T95.setTop (mkF m 211 #[.val (.int p0), .val (.int p1), .val (.int p2), .val (.int p3), .val (.int xa), .val (.int xb), .val (.int xc), .val (.int xd), .val (.int ln), .val (.ref r1), .val (.ref r3), .val (.int cn), .val (.ref r6), .val (.ref r9), .val (.ref b12), .val (.ref r85), .val (.ref eO)] [(.ref r85)]))
     obtain ⟨cq96, kq96, q96a, q96b, q96c⟩ := isOf hZ3 e95 F85_0
     obtain ⟨_, _, ⟨T96, L96, k96, n96⟩, -, X96, ⟨Lc96, hQ96, l96, y96, z96⟩, st96⟩ := X95.virtualBack hx (y := (⟨"com/example/indexwerk/indexwerk/engine/TargetLimits$Origin", "file", "()Ljava/lang/String;"⟩ : MethodName)) (z := (⟨"com/example/indexwerk/indexwerk/engine/TargetLimits$Origin", "file", "()Ljava/lang/String;"⟩ : MethodName)) hown3 (mvT hZ3 (hw112 hw)) (mvT hZ3 (hw113 hw)) (notFace_of_selects (args := #[]) (mvT hZ3 (hw115 hw))) (mvT hZ3 (hw115 hw)) (mvT hZ3 (hw114 hw)) (by decide) (backOf (W := 0) (rm_gfile l Z a0 hw [] r85 r1 T85.heap n0 (Nat.le_trans Z0 (Nat.le_trans (Nat.le_trans (Nat.le_trans (Nat.le_trans (Nat.le_trans (Nat.le_trans (Nat.le_trans (Nat.le_trans (Nat.le_trans K1.1 K3.1) K6.1) K9.1) E12.1) K14.1) K36.1) K60.1) K82.1) K85.1)) F85_1) hZ3 (hw116 hw) (hw74 hw) (by decide) (by decide)) q96a q96c (g := (mkF m 211 #[.val (.int p0), .val (.int p1), .val (.int p2), .val (.int p3), .val (.int xa), .val (.int xb), .val (.int xc), .val (.int xd), .val (.int ln), .val (.ref r1), .val (.ref r3), .val (.int cn), .val (.ref r6), .val (.ref r9), .val (.ref b12), .val (.ref r85), .val (.ref eO)] [(.ref r85)])) rfl (by rw [hml]; rfl) (Steps.refl _) (argsL := []) (rest := []) (lenOf pd_16 rfl) rfl (by show 2 * 0 + _ ≤ _; exact Nat.le_of_eq rfl) (hb hby at_211) (fun _ _ => ⟨rfl, e95, (by decide : 19 + 0 ≤ _), (by decide : 49 + 0 ≤ _)⟩)
     dsimp only [Pt.U, Pt.locs, Pt.cells, Pt.slots] at X96 l96 y96 z96 st96 hQ96
     subst l96 y96 z96
     obtain ⟨rfl, N96q, K96⟩ := hQ96
     have N96 := Fr.app N90 N96q
     refine Goes.tr st96 ?_
     show Goes _ _ _ _ (T96.setTop (mkF m 214 #[.val (.int p0), .val (.int p1), .val (.int p2), .val (.int p3), .val (.int xa), .val (.int xb), .val (.int xc), .val (.int xd), .val (.int ln), .val (.ref r1), .val (.ref r3), .val (.int cn), .val (.ref r6), .val (.ref r9), .val (.ref b12), .val (.ref r85), .val (.ref eO)] [(.ref r1)]))
     refine Goes.st (fun sT kT => XS.ifnullNo X96.here hx rfl (hb hby at_214) rfl kT) ?_
     show Goes _ _ _ _ (T96.setTop (mkF m 217 #[.val (.int p0), .val (.int p1), .val (.int p2), .val (.int p3), .val (.int xa), .val (.int xb), .val (.int xc), .val (.int xd), .val (.int ln), .val (.ref r1), .val (.ref r3), .val (.int cn), .val (.ref r6), .val (.ref r9), .val (.ref b12), .val (.ref r85), .val (.ref eO)] []))
     refine Goes.st (fun sT kT => XS.aload X96.here hx rfl (hb hby at_217) rfl rfl kT) ?_
     show Goes _ _ _ _ (T96.setTop (mkF m 219 #[.val (.int p0), .val (.int p1), .val (.int p2), .val (.int p3), .val (.int xa), .val (.int xb), .val (.int xc), .val (.int xd), .val (.int ln), .val (.ref r1), .val (.ref r3), .val (.int cn), .val (.ref r6), .val (.ref r9), .val (.ref b12), .val (.ref r85), .val (.ref eO)] [(.ref r85)]))
     obtain ⟨cq97, kq97, q97a, q97b, q97c⟩ := isOf hZ3 K96 F85_0
     obtain ⟨_, _, ⟨T97, L97, k97, n97⟩, -, X97, ⟨Lc97, hQ97, l97, y97, z97⟩, st97⟩ := X96.virtualBack hx (y := (⟨"com/example/indexwerk/indexwerk/engine/TargetLimits$Origin", "file", "()Ljava/lang/String;"⟩ : MethodName)) (z := (⟨"com/example/indexwerk/indexwerk/engine/TargetLimits$Origin", "file", "()Ljava/lang/String;"⟩ : MethodName)) hown3 (mvT hZ3 (hw112 hw)) (mvT hZ3 (hw113 hw)) (notFace_of_selects (args := #[]) (mvT hZ3 (hw115 hw))) (mvT hZ3 (hw115 hw)) (mvT hZ3 (hw114 hw)) (by decide) (backOf (W := 0) (rm_gfile l Z a0 hw [] r85 r1 T85.heap n0 (Nat.le_trans Z0 (Nat.le_trans (Nat.le_trans (Nat.le_trans (Nat.le_trans (Nat.le_trans (Nat.le_trans (Nat.le_trans (Nat.le_trans (Nat.le_trans K1.1 K3.1) K6.1) K9.1) E12.1) K14.1) K36.1) K60.1) K82.1) K85.1)) F85_1) hZ3 (hw116 hw) (hw74 hw) (by decide) (by decide)) q97a q97c (g := (mkF m 219 #[.val (.int p0), .val (.int p1), .val (.int p2), .val (.int p3), .val (.int xa), .val (.int xb), .val (.int xc), .val (.int xd), .val (.int ln), .val (.ref r1), .val (.ref r3), .val (.int cn), .val (.ref r6), .val (.ref r9), .val (.ref b12), .val (.ref r85), .val (.ref eO)] [(.ref r85)])) rfl (by rw [hml]; rfl) (Steps.refl _) (argsL := []) (rest := []) (lenOf pd_16 rfl) rfl (by show 2 * 0 + _ ≤ _; exact Nat.le_of_eq rfl) (hb hby at_219) (fun _ _ => ⟨rfl, K96, (by decide : 19 + 0 ≤ _), (by decide : 49 + 0 ≤ _)⟩)
     dsimp only [Pt.U, Pt.locs, Pt.cells, Pt.slots] at X97 l97 y97 z97 st97 hQ97
     subst l97 y97 z97
     obtain ⟨rfl, N97q, K97⟩ := hQ97
     have N97 := Fr.app N96 N97q
     refine Goes.tr st97 ?_
     show Goes _ _ _ _ (T97.setTop (mkF m 222 #[.val (.int p0), .val (.int p1), .val (.int p2), .val (.int p3), .val (.int xa), .val (.int xb), .val (.int xc), .val (.int xd), .val (.int ln), .val (.ref r1), .val (.ref r3), .val (.int cn), .val (.ref r6), .val (.ref r9), .val (.ref b12), .val (.ref r85), .val (.ref eO)] [(.ref r1)]))
     refine Goes.st (fun sT kT => XS.aload X97.here hx rfl (hb hby at_222) rfl rfl kT) ?_
     show Goes _ _ _ _ (T97.setTop (mkF m 224 #[.val (.int p0), .val (.int p1), .val (.int p2), .val (.int p3), .val (.int xa), .val (.int xb), .val (.int xc), .val (.int xd), .val (.int ln), .val (.ref r1), .val (.ref r3), .val (.int cn), .val (.ref r6), .val (.ref r9), .val (.ref b12), .val (.ref r85), .val (.ref eO)] [(.ref r3), (.ref r1)]))
     have f99 : Str Z T85.heap r1 t1 kb1 (own_tx ln xa xb xc xd) := (((((((((F1_0.keep K3 nin0 nin0).keep K6 nin0 nin0).keep K9 nin0 nin0).ext E12).keep K14 (ninS (Nat.ne_of_lt (Nat.lt_of_lt_of_le F1_0.1.lt (Nat.le_trans (Nat.le_trans (Nat.le_trans K3.1 K6.1) K9.1) (Nat.le_of_eq g12.symm)))) nin0) (ninS (Nat.ne_of_lt (Nat.lt_of_lt_of_le F1_0.ltT (Nat.le_trans (Nat.le_trans (Nat.le_trans K3.1 K6.1) K9.1) (Nat.le_of_eq g12.symm)))) nin0)).keep K36 (ninS (Nat.ne_of_lt (Nat.lt_of_lt_of_le F1_0.1.lt (Nat.le_trans (Nat.le_trans (Nat.le_trans K3.1 K6.1) K9.1) (Nat.le_of_eq g12.symm)))) nin0) (ninS (Nat.ne_of_lt (Nat.lt_of_lt_of_le F1_0.ltT (Nat.le_trans (Nat.le_trans (Nat.le_trans K3.1 K6.1) K9.1) (Nat.le_of_eq g12.symm)))) nin0)).keep K60 (ninS (Nat.ne_of_lt (Nat.lt_of_lt_of_le F1_0.1.lt (Nat.le_trans (Nat.le_trans (Nat.le_trans K3.1 K6.1) K9.1) (Nat.le_of_eq g12.symm)))) (ninS (Nat.ne_of_lt (Nat.lt_of_lt_of_le F1_0.1.lt (Nat.le_trans (Nat.le_trans (Nat.le_trans (Nat.le_trans (Nat.le_trans K3.1 K6.1) K9.1) E12.1) K14.1) lo36_0))) nin0)) (ninS (Nat.ne_of_lt (Nat.lt_of_lt_of_le F1_0.ltT (Nat.le_trans (Nat.le_trans (Nat.le_trans K3.1 K6.1) K9.1) (Nat.le_of_eq g12.symm)))) (ninS (Nat.ne_of_lt (Nat.lt_of_lt_of_le F1_0.ltT (Nat.le_trans (Nat.le_trans (Nat.le_trans (Nat.le_trans (Nat.le_trans K3.1 K6.1) K9.1) E12.1) K14.1) lo36_0))) nin0))).keep K82 (ninS (Nat.ne_of_lt (Nat.lt_of_lt_of_le F1_0.1.lt (Nat.le_trans (Nat.le_trans (Nat.le_trans K3.1 K6.1) K9.1) (Nat.le_of_eq g12.symm)))) (ninS (Nat.ne_of_lt (Nat.lt_of_lt_of_le F1_0.1.lt (Nat.le_trans (Nat.le_trans (Nat.le_trans (Nat.le_trans (Nat.le_trans K3.1 K6.1) K9.1) E12.1) K14.1) lo36_0))) nin0)) (ninS (Nat.ne_of_lt (Nat.lt_of_lt_of_le F1_0.ltT (Nat.le_trans (Nat.le_trans (Nat.le_trans K3.1 K6.1) K9.1) (Nat.le_of_eq g12.symm)))) (ninS (Nat.ne_of_lt (Nat.lt_of_lt_of_le F1_0.ltT (Nat.le_trans (Nat.le_trans (Nat.le_trans (Nat.le_trans (Nat.le_trans K3.1 K6.1) K9.1) E12.1) K14.1) lo36_0))) nin0))).keep K85 nin0 nin0)
     have f100 : Str Z T85.heap r3 t3 kb3 (own_tx ln xa xb xc xd) := ((((((((F3_0.keep K6 nin0 nin0).keep K9 nin0 nin0).ext E12).keep K14 (ninS (Nat.ne_of_lt (Nat.lt_of_lt_of_le F3_0.1.lt (Nat.le_trans (Nat.le_trans K6.1 K9.1) (Nat.le_of_eq g12.symm)))) nin0) (ninS (Nat.ne_of_lt (Nat.lt_of_lt_of_le F3_0.ltT (Nat.le_trans (Nat.le_trans K6.1 K9.1) (Nat.le_of_eq g12.symm)))) nin0)).keep K36 (ninS (Nat.ne_of_lt (Nat.lt_of_lt_of_le F3_0.1.lt (Nat.le_trans (Nat.le_trans K6.1 K9.1) (Nat.le_of_eq g12.symm)))) nin0) (ninS (Nat.ne_of_lt (Nat.lt_of_lt_of_le F3_0.ltT (Nat.le_trans (Nat.le_trans K6.1 K9.1) (Nat.le_of_eq g12.symm)))) nin0)).keep K60 (ninS (Nat.ne_of_lt (Nat.lt_of_lt_of_le F3_0.1.lt (Nat.le_trans (Nat.le_trans K6.1 K9.1) (Nat.le_of_eq g12.symm)))) (ninS (Nat.ne_of_lt (Nat.lt_of_lt_of_le F3_0.1.lt (Nat.le_trans (Nat.le_trans (Nat.le_trans (Nat.le_trans K6.1 K9.1) E12.1) K14.1) lo36_0))) nin0)) (ninS (Nat.ne_of_lt (Nat.lt_of_lt_of_le F3_0.ltT (Nat.le_trans (Nat.le_trans K6.1 K9.1) (Nat.le_of_eq g12.symm)))) (ninS (Nat.ne_of_lt (Nat.lt_of_lt_of_le F3_0.ltT (Nat.le_trans (Nat.le_trans (Nat.le_trans (Nat.le_trans K6.1 K9.1) E12.1) K14.1) lo36_0))) nin0))).keep K82 (ninS (Nat.ne_of_lt (Nat.lt_of_lt_of_le F3_0.1.lt (Nat.le_trans (Nat.le_trans K6.1 K9.1) (Nat.le_of_eq g12.symm)))) (ninS (Nat.ne_of_lt (Nat.lt_of_lt_of_le F3_0.1.lt (Nat.le_trans (Nat.le_trans (Nat.le_trans (Nat.le_trans K6.1 K9.1) E12.1) K14.1) lo36_0))) nin0)) (ninS (Nat.ne_of_lt (Nat.lt_of_lt_of_le F3_0.ltT (Nat.le_trans (Nat.le_trans K6.1 K9.1) (Nat.le_of_eq g12.symm)))) (ninS (Nat.ne_of_lt (Nat.lt_of_lt_of_le F3_0.ltT (Nat.le_trans (Nat.le_trans (Nat.le_trans (Nat.le_trans K6.1 K9.1) E12.1) K14.1) lo36_0))) nin0))).keep K85 nin0 nin0)
     have f101 : Exa Z T85.heap r1 "java/lang/String" := (((((((((F1_0E.keep K3).keep K6).keep K9).ext E12).keep K14).keep K36).keep K60).keep K82).keep K85)
     obtain ⟨cq98, kq98, q98a, q98b, q98c⟩ := isOf hZ3 K97 f101
     obtain ⟨_, _, ⟨T98, L98, k98, n98⟩, -, X98, ⟨Lc98, hQ98, l98, y98, z98⟩, st98⟩ := X97.virtualBack hx (y := (⟨"java/lang/String", "equals", "(Ljava/lang/Object;)Z"⟩ : MethodName)) (z := (⟨"java/lang/String", "equals", "(Ljava/lang/Object;)Z"⟩ : MethodName)) hown3 (mvT hZ3 (hw117 hw)) (mvT hZ3 (hw118 hw)) (notFace_of_selects (args := #[]) (mvT hZ3 (hw120 hw))) (mvT hZ3 (hw120 hw)) (mvT hZ3 (hw119 hw)) (by decide) (StrChars.Road.eqW (W := 0) hZ3 (own_heq hw) (kI := 4) (hw5 hw) f99.1 f99.2.1 f99.2.2.1 f99.2.2.2.1 (own_cod f99) (own_up f99.2.2.2.2.1) f99.2.2.2.2.2 f100.1 f100.2.1 f100.2.2.1 f100.2.2.2.1 (own_cod f100) (own_up f100.2.2.2.2.1) f100.2.2.2.2.2 (O2.ext f92.2) P5 (by decide) (by decide)) q98a q98c (g := (mkF m 224 #[.val (.int p0), .val (.int p1), .val (.int p2), .val (.int p3), .val (.int xa), .val (.int xb), .val (.int xc), .val (.int xd), .val (.int ln), .val (.ref r1), .val (.ref r3), .val (.int cn), .val (.ref r6), .val (.ref r9), .val (.ref b12), .val (.ref r85), .val (.ref eO)] [(.ref r3), (.ref r1)])) rfl (by rw [hml]; rfl) (Steps.refl _) (argsL := [(.ref r3)]) (rest := []) (lenOf pd_17 rfl) rfl (by show 2 * 0 + _ ≤ _; exact Nat.le_of_eq rfl) (hb hby at_224) (fun _ _ => ⟨rfl, K97, (by decide : 19 + 0 ≤ _), (by decide : 49 + 0 ≤ _)⟩)
     dsimp only [Pt.U, Pt.locs, Pt.cells, Pt.slots] at X98 l98 y98 z98 st98 hQ98
     subst l98 y98 z98
     obtain ⟨hv98, rfl, K98⟩ := hQ98
     have hv98' := own_ite hv98
     rw [if_pos rfl] at hv98'
     subst hv98'
     have N98 := Fr.app N97 (Fr.nil n0)
     refine Goes.tr st98 ?_
     show Goes _ _ _ _ (T98.setTop (mkF m 227 #[.val (.int p0), .val (.int p1), .val (.int p2), .val (.int p3), .val (.int xa), .val (.int xb), .val (.int xc), .val (.int xd), .val (.int ln), .val (.ref r1), .val (.ref r3), .val (.int cn), .val (.ref r6), .val (.ref r9), .val (.ref b12), .val (.ref r85), .val (.ref eO)] [(.int (1 : Int32))]))
     refine Goes.st (fun sT kT => XS.ifNo X98.here hx rfl (hb hby at_227) rfl ((if0 _ _).trans (feq (by decide : ¬ ((1 : Int32) = (0 : Int32)))).1) kT) ?_
     show Goes _ _ _ _ (T98.setTop (mkF m 230 #[.val (.int p0), .val (.int p1), .val (.int p2), .val (.int p3), .val (.int xa), .val (.int xb), .val (.int xc), .val (.int xd), .val (.int ln), .val (.ref r1), .val (.ref r3), .val (.int cn), .val (.ref r6), .val (.ref r9), .val (.ref b12), .val (.ref r85), .val (.ref eO)] []))
     refine Goes.st (fun sT kT => XS.aload X98.here hx rfl (hb hby at_230) rfl rfl kT) ?_
     show Goes _ _ _ _ (T98.setTop (mkF m 232 #[.val (.int p0), .val (.int p1), .val (.int p2), .val (.int p3), .val (.int xa), .val (.int xb), .val (.int xc), .val (.int xd), .val (.int ln), .val (.ref r1), .val (.ref r3), .val (.int cn), .val (.ref r6), .val (.ref r9), .val (.ref b12), .val (.ref r85), .val (.ref eO)] [(.ref eO)]))
     refine Goes.st (fun sT kT => XS.ifnullNo X98.here hx rfl (hb hby at_232) rfl kT) ?_
     show Goes _ _ _ _ (T98.setTop (mkF m 235 #[.val (.int p0), .val (.int p1), .val (.int p2), .val (.int p3), .val (.int xa), .val (.int xb), .val (.int xc), .val (.int xd), .val (.int ln), .val (.ref r1), .val (.ref r3), .val (.int cn), .val (.ref r6), .val (.ref r9), .val (.ref b12), .val (.ref r85), .val (.ref eO)] []))
     refine Goes.st (fun sT kT => XS.aload X98.here hx rfl (hb hby at_235) rfl rfl kT) ?_
     show Goes _ _ _ _ (T98.setTop (mkF m 237 #[.val (.int p0), .val (.int p1), .val (.int p2), .val (.int p3), .val (.int xa), .val (.int xb), .val (.int xc), .val (.int xd), .val (.int ln), .val (.ref r1), .val (.ref r3), .val (.int cn), .val (.ref r6), .val (.ref r9), .val (.ref b12), .val (.ref r85), .val (.ref eO)] [(.ref eO)]))
     obtain ⟨cq102, kq102, q102a, q102b, q102c⟩ := isOf hZ3 K98 G93
     obtain ⟨_, _, ⟨T102, L102, k102, n102⟩, -, X102, ⟨Lc102, hQ102, l102, y102, z102⟩, st102⟩ := X98.virtualBack hx (y := (⟨"java/util/OptionalInt", "isPresent", "()Z"⟩ : MethodName)) (z := (⟨"java/util/OptionalInt", "isPresent", "()Z"⟩ : MethodName)) hown3 (mvT hZ3 (hw125 hw)) (mvT hZ3 (hw126 hw)) (notFace_of_selects (args := #[]) (mvT hZ3 (hw128 hw))) (mvT hZ3 (hw128 hw)) (mvT hZ3 (hw127 hw)) (by decide) (backOf (W := 0) (rm_ispr l Z a0 hw [] eO (0 : Int32) T85.heap n0 (Nat.le_trans Z0 (Nat.le_trans (Nat.le_trans (Nat.le_trans (Nat.le_trans (Nat.le_trans (Nat.le_trans (Nat.le_trans (Nat.le_trans (Nat.le_trans K1.1 K3.1) K6.1) K9.1) E12.1) K14.1) K36.1) K60.1) K82.1) K85.1)) G94 (Or.inl rfl)) hZ3 (hw129 hw) (hw107 hw) (by decide) (by decide)) q102a q102c (g := (mkF m 237 #[.val (.int p0), .val (.int p1), .val (.int p2), .val (.int p3), .val (.int xa), .val (.int xb), .val (.int xc), .val (.int xd), .val (.int ln), .val (.ref r1), .val (.ref r3), .val (.int cn), .val (.ref r6), .val (.ref r9), .val (.ref b12), .val (.ref r85), .val (.ref eO)] [(.ref eO)])) rfl (by rw [hml]; rfl) (Steps.refl _) (argsL := []) (rest := []) (lenOf pd_18 rfl) rfl (by show 2 * 0 + _ ≤ _; exact Nat.le_of_eq rfl) (hb hby at_237) (fun _ _ => ⟨rfl, K98, (by decide : 19 + 0 ≤ _), (by decide : 49 + 0 ≤ _)⟩)
     dsimp only [Pt.U, Pt.locs, Pt.cells, Pt.slots] at X102 l102 y102 z102 st102 hQ102
     subst l102 y102 z102
     obtain ⟨rfl, N102q, K102⟩ := hQ102
     have N102 := Fr.app N98 N102q
     refine Goes.tr st102 ?_
     show Goes _ _ _ _ (T102.setTop (mkF m 240 #[.val (.int p0), .val (.int p1), .val (.int p2), .val (.int p3), .val (.int xa), .val (.int xb), .val (.int xc), .val (.int xd), .val (.int ln), .val (.ref r1), .val (.ref r3), .val (.int cn), .val (.ref r6), .val (.ref r9), .val (.ref b12), .val (.ref r85), .val (.ref eO)] [(.int (0 : Int32))]))
     refine Goes.st (fun sT kT => XS.ifNo X102.here hx rfl (hb hby at_240) rfl ((if0 _ _).trans (teq (by decide : (0 : Int32) = (0 : Int32))).2) kT) ?_
     show Goes _ _ _ _ (T102.setTop (mkF m 243 #[.val (.int p0), .val (.int p1), .val (.int p2), .val (.int p3), .val (.int xa), .val (.int xb), .val (.int xc), .val (.int xd), .val (.int ln), .val (.ref r1), .val (.ref r3), .val (.int cn), .val (.ref r6), .val (.ref r9), .val (.ref b12), .val (.ref r85), .val (.ref eO)] []))
     refine Goes.st (fun sT kT => XS.iconst X102.here hx rfl (hb hby at_243) kT) ?_
     show Goes _ _ _ _ (T102.setTop (mkF m 244 #[.val (.int p0), .val (.int p1), .val (.int p2), .val (.int p3), .val (.int xa), .val (.int xb), .val (.int xc), .val (.int xd), .val (.int ln), .val (.ref r1), .val (.ref r3), .val (.int cn), .val (.ref r6), .val (.ref r9), .val (.ref b12), .val (.ref r85), .val (.ref eO)] [(.int (1 : Int32))]))
     refine Goes.st (fun sT kT => XS.goto X102.here hx rfl (pc0 := 244) (pc' := 248) rfl (hb hby at_244) (by decide) (by decide) kT) ?_
     show Goes _ _ _ _ (T102.setTop (mkF m 248 #[.val (.int p0), .val (.int p1), .val (.int p2), .val (.int p3), .val (.int xa), .val (.int xb), .val (.int xc), .val (.int xd), .val (.int ln), .val (.ref r1), .val (.ref r3), .val (.int cn), .val (.ref r6), .val (.ref r9), .val (.ref b12), .val (.ref r85), .val (.ref eO)] [(.int (1 : Int32))]))
     obtain ⟨fs, hr, hrun, hended, hRW⟩ := X102.leaveW hS3 (by rw [K102]; exact (Nat.le_trans (Nat.le_trans (Nat.le_trans (Nat.le_trans (Nat.le_trans (Nat.le_trans (Nat.le_trans (Nat.le_trans (Nat.le_refl _) K6.1) K9.1) E12.1) K14.1) K36.1) K60.1) K82.1) K85.1)) (v := some (.int (1 : Int32))) (fun h => by rw [Bd.returns] at h; cases h)
     subst hQQ
     have hCR : CHr Z EL s.vm s.heap T102.vm T102.heap := by rw [hh, K102]; exact CR86.trans (CHv.at X102 hZ3 (own_EW hw) CR86.1)
     refine ⟨_, _, retN X102 hx (t := .boolean) Bd.returns (by simp) (hb hby at_248) hr, hrun, hended, _, _, rfl, ?_, hCR, own_REmono hRW (by decide) (by decide)⟩
     show Q_law Z p0 p1 p2 p3 G1 aD kD aL cK eO h0 n0 _ T102.heap _
     rw [K102]
     exact ⟨rfl, N102⟩
 show Goes _ _ _ _ (s₁.setTop (mkF m 44 #[.val (.int p0), .val (.int p1), .val (.int p2), .val (.int p3), .val (.int xa), .val (.int xb), .val (.int xc), .val (.int xd), .val (.int (p2 &&& (7 : Int32))), uS, uS, uS, uS, uS, uS, uS, uS] []))
 refine Goes.st (fun sT kT => XS.iload X0.here hx rfl (hb hby at_44) rfl kT) ?_
 show Goes _ _ _ _ (s₁.setTop (mkF m 46 #[.val (.int p0), .val (.int p1), .val (.int p2), .val (.int p3), .val (.int xa), .val (.int xb), .val (.int xc), .val (.int xd), .val (.int (p2 &&& (7 : Int32))), uS, uS, uS, uS, uS, uS, uS, uS] [(.int (p2 &&& (7 : Int32)))]))
 refine Goes.st (fun sT kT => XS.iconst X0.here hx rfl (hb hby at_46) kT) ?_
 show Goes _ _ _ _ (s₁.setTop (mkF m 47 #[.val (.int p0), .val (.int p1), .val (.int p2), .val (.int p3), .val (.int xa), .val (.int xb), .val (.int xc), .val (.int xd), .val (.int (p2 &&& (7 : Int32))), uS, uS, uS, uS, uS, uS, uS, uS] [(.int (4 : Int32)), (.int (p2 &&& (7 : Int32)))]))
 by_cases cz103 : (4 : Int32) < (p2 &&& (7 : Int32))
 case pos =>
  refine Goes.st (fun sT kT => XS.icmpNo X0.here hx rfl (hb hby at_47) rfl (tlt cz103).2.2.2 kT) ?_
  show Goes _ _ _ _ (s₁.setTop (mkF m 50 #[.val (.int p0), .val (.int p1), .val (.int p2), .val (.int p3), .val (.int xa), .val (.int xb), .val (.int xc), .val (.int xd), .val (.int (p2 &&& (7 : Int32))), uS, uS, uS, uS, uS, uS, uS, uS] []))
  refine Goes.st (fun sT kT => XS.iload X0.here hx rfl (hb hby at_50) rfl kT) ?_
  show Goes _ _ _ _ (s₁.setTop (mkF m 52 #[.val (.int p0), .val (.int p1), .val (.int p2), .val (.int p3), .val (.int xa), .val (.int xb), .val (.int xc), .val (.int xd), .val (.int (p2 &&& (7 : Int32))), uS, uS, uS, uS, uS, uS, uS, uS] [(.int (p2 &&& (7 : Int32)))]))
  refine Goes.st (fun sT kT => XS.iconst X0.here hx rfl (hb hby at_52) kT) ?_
  show Goes _ _ _ _ (s₁.setTop (mkF m 53 #[.val (.int p0), .val (.int p1), .val (.int p2), .val (.int p3), .val (.int xa), .val (.int xb), .val (.int xc), .val (.int xd), .val (.int (p2 &&& (7 : Int32))), uS, uS, uS, uS, uS, uS, uS, uS] [(.int (4 : Int32)), (.int (p2 &&& (7 : Int32)))]))
  refine Goes.st (fun sT kT => XS.isub X0.here hx rfl (hb hby at_53) rfl kT) ?_
  show Goes _ _ _ _ (s₁.setTop (mkF m 54 #[.val (.int p0), .val (.int p1), .val (.int p2), .val (.int p3), .val (.int xa), .val (.int xb), .val (.int xc), .val (.int xd), .val (.int (p2 &&& (7 : Int32))), uS, uS, uS, uS, uS, uS, uS, uS] [(.int ((p2 &&& (7 : Int32)) - (4 : Int32)))]))
  refine Goes.st (fun sT kT => XS.istore X0.here hx rfl (hb hby at_54) rfl (l' := #[.val (.int p0), .val (.int p1), .val (.int p2), .val (.int p3), .val (.int xa), .val (.int xb), .val (.int xc), .val (.int xd), .val (.int ((p2 &&& (7 : Int32)) - (4 : Int32))), uS, uS, uS, uS, uS, uS, uS, uS]) rfl kT) ?_
  show Goes _ _ _ _ (s₁.setTop (mkF m 56 #[.val (.int p0), .val (.int p1), .val (.int p2), .val (.int p3), .val (.int xa), .val (.int xb), .val (.int xc), .val (.int xd), .val (.int ((p2 &&& (7 : Int32)) - (4 : Int32))), uS, uS, uS, uS, uS, uS, uS, uS] []))
  exact J56 ((p2 &&& (7 : Int32)) - (4 : Int32))
 case neg =>
  refine Goes.st (fun sT kT => XS.icmpYes X0.here hx rfl (pc0 := 47) (pc' := 56) rfl (hb hby at_47) rfl (flt cz103).2.2.2 (by decide) (by decide) kT) ?_
  show Goes _ _ _ _ (s₁.setTop (mkF m 56 #[.val (.int p0), .val (.int p1), .val (.int p2), .val (.int p3), .val (.int xa), .val (.int xb), .val (.int xc), .val (.int xd), .val (.int (p2 &&& (7 : Int32))), uS, uS, uS, uS, uS, uS, uS, uS] []))
  exact J56 (p2 &&& (7 : Int32))
set_option maxRecDepth 65536 in
set_option maxHeartbeats 40000000 in
theorem comes_1 {Post : Tables → Env → Array Value → State → Outcome → State → Prop} (hpost : ∀ tb e args s v u, (limb_1_1.after args s (.returned v) u = true ∧ limb_1_2.after args s (.returned v) u = true ∧ True) → ReturnedEndW s (.returned v) u (Jvm.fieldLocs frame_1_writes args s ++ Jvm.arrayLocs frame_1_arrays args s ++ Jvm.staticLocs frame_1_statics s) 40 1216 → Post tb e args s (.returned v) u) :
    ArmFor flags0 classFile x code maxLocals ret World_1 tables_1 room_1 Calls_1 rest_1 Pre_1 Post := by
  intro l hfl _ _ p e ha hc hk s m args below hf hA hF happ hP
  obtain ⟨hcalls, hrest, hpre⟩ := hP
  obtain ⟨-, -, -, hnamed, -, -, -, hat⟩ := (Spec.applies_iff hf).mp happ
  obtain ⟨hg, hn⟩ := and_e (Cond.before_iff.mp (show (Jvm.Cond.and given_1 narrow_1).before args s = true from hpre))
  obtain ⟨gc, gr0⟩ := and_e hg
  obtain ⟨ga0, gr1⟩ := and_e gr0
  obtain ⟨ga1, gr2⟩ := and_e gr1
  obtain ⟨ga2, gr3⟩ := and_e gr2
  obtain ⟨w0, w1, w2, w3, rfl⟩ : ∃ w0 w1 w2 w3 : Value, args = #[w0, w1, w2, w3] := by
    have hs : args.size = 4 := by simpa [Cond.value, given_1] using gc
    obtain ⟨L⟩ := args
    match L, hs with
    | [w0, w1, w2, w3], _ => exact ⟨w0, w1, w2, w3, rfl⟩
  have hw := fun d (hd : d ∈ tables_1) => atoms_spec (ws := Jvm.Cond.code x code maxLocals ret :: tables_1) hat d (List.mem_cons_of_mem _ hd)
  obtain ⟨hsets, hown0⟩ := atoms_of _ (rest_1_c_eq ▸ (show rest_1_c.before _ s = true from hrest))
  have n5 := not_v (Cond.before_iff.mp (hsets _ (List.mem_of_getElem? (i := 2) rfl)))
  obtain ⟨i0, ei0⟩ := is_v ga0
  obtain rfl : w0 = (.int i0) := Option.some.inj ei0
  obtain ⟨i1, ei1⟩ := is_v ga1
  obtain rfl : w1 = (.int i1) := Option.some.inj ei1
  obtain ⟨i2, ei2⟩ := is_v ga2
  obtain rfl : w2 = (.int i2) := Option.some.inj ei2
  obtain ⟨i3, ei3⟩ := is_v gr3
  obtain rfl : w3 = (.int i3) := Option.some.inj ei3
  obtain ⟨iG, eG⟩ := is_v (Cond.before_iff.mp (hsets _ (List.mem_of_getElem? (i := 1) rfl)))
  have SG : Sta s s.heap "java/lang/String" "COMPACT_STRINGS" "Z" (.int iG) := Sta.start eG (Or.inl (hsets _ (List.mem_of_getElem? (i := 0) rfl)))
  have cG : ¬ (iG = (0 : Int32)) := gotF (Cond.eq_ints eG (Term.int_eval (0))) n5
  have hfit : Fit s := fun {y c} hc i hi => by
    obtain ⟨ha, rfl⟩ := Array.getElem?_eq_some_iff.mp hc
    have q := List.all_eq_true.mp ((Array.all_eq_true_iff_forall_mem.mp hF) _ (Array.getElem_mem ha)) i (List.mem_range.mpr hi)
    simpa [Array.getElem?_eq_getElem hi] using q
  obtain ⟨aD, kD, eD, SD, VD⟩ := own_deflt hfit (hw50 hw) (hsets _ (List.mem_of_getElem? (i := 11) rfl)) (hsets _ (List.mem_of_getElem? (i := 15) rfl)) (hsets _ (List.mem_of_getElem? (i := 17) rfl))
  obtain ⟨eO, _, _, _, eE, -⟩ := Cond.exactly_spec (hsets _ (List.mem_of_getElem? (i := 20) rfl))
  have EO : own_Opt s eO := ⟨Sta.start eE (Or.inl (hsets _ (List.mem_of_getElem? (i := 19) rfl))), Exa.start eE (Cond.before_iff.mp (hsets _ (List.mem_of_getElem? (i := 20) rfl))), Fld.start ((fld_at eE).symm.trans (eqv_i (Term.int_eval (0)) (Cond.before_iff.mp (hsets _ (List.mem_of_getElem? (i := 21) rfl)))))⟩
  obtain ⟨aL, cK, LM⟩ := own_siteS (hw78 hw) rfl
  have hCH : CHv s EL s.vm s.heap := CHv.start (own_EW hw) (fun p hp => hcalls.1 p hp) (hsets _ (List.mem_of_getElem? (i := 2) rfl)) (hw23 hw) (hw5 hw)
  obtain ⟨n, o, h1, h2, h3, _, L, rfl, ⟨rfl, N⟩, -, hq⟩ := rm_law l s _ hw tables_1 i0 i1 i2 i3 iG aD kD aL cK eO s.heap s.heap.size (Nat.le_refl _) (Old.start s) VD SG cG SD LM EO p e ha hc hk s m _ below hf ((Spec.applies_iff_loose hf).mp happ).1 ⟨rfl, State.Warmed39.refl s, rfl, hCH, all0⟩ trivial
  refine ⟨n, _, h1, h2, h3, hpost _ _ _ _ _ _ ⟨Cond.after_iff.mpr rfl, Cond.after_iff.mpr (eq_i res_at (Term.int_eval (1)) rfl), trivial⟩ ⟨hq.1, hq.2.1, hq.2.2.1, (hq.2.2.2.sift fun y hy => Or.inr (N y hy)).mono (by decide) (by decide)⟩⟩
theorem main_1_1 : Claimed_1_1 := comes_1 fun _ _ _ _ _ _ h hF => ⟨h.1, hF⟩
theorem main_1_2 : Claimed_1_2 := comes_1 fun _ _ _ _ _ _ h hF => ⟨h.2.1, hF⟩
end Jvm.Pilot.@@N@@
namespace Jvm.Pilot.@@N@@
open Jvm Jvm.ClassFile Sem Op Lib Jvm.Free Jvm.Stand Jvm.Pilot.@@N@@.Jvm.D
/-! MADE BY PROGRAM (witnessworld.py) out of the Statement's table words and the real class files: 34 classes; the members and pool entries that the words name. The judged class is class 1, her method 1. -/
namespace start1
open Jvm.ClassFile
def u (s : String) : CpInfo := .utf8 (stringToUtf16 s)
/-- a pool by its gaps: so many unusable entries, then the entry; so many at the end -/
def gap : Nat → List CpInfo → List CpInfo
  | 0, r => r
  | n + 1, r => .unusable :: gap n r
def poolList (es : List (Nat × CpInfo)) (last : Nat) : List CpInfo := es.foldr (fun e r => gap e.1 (e.2 :: r)) (gap last [])
def pool (es : List (Nat × CpInfo)) (last : Nat) : Array CpInfo := ⟨poolList es last⟩
def fileOf (pool : Array CpInfo) (this : Nat) (attrs : Array Attribute := #[]) (ms : Array MethodInfo := #[]) (fl : Nat := 33) (sup : Nat := 0) (ifs : Array Nat := #[]) (fds : Array FieldInfo := #[]) : ClassFile where
  minorVersion := 0
  majorVersion := 65
  constantPool := pool
  accessFlags := fl
  thisClass := this
  superClass := sup
  interfaces := ifs
  fields := fds
  methods := ms
  attributes := attrs
def plain (name : String) (sup : Option ClassId) : Class where
  name := name
  kind := .ordinary
  loader := none
  accessFlags := 33
  super := sup
  interfaces := #[]
  cf := none
  fields := #[]
  methods := #[]
  instanceTypes := #[]
  staticTypes := #[]
  resolved := #[]
  callSites := []
  init := .initialized
  statics := none
  mirror := none

def pool0 : Array CpInfo := pool [(5, u "<init>"), (0, u "()V"), (1, .class_ 10), (1, u "java/lang/Object")] 113

def k0c0 : Code := { maxStack := 0, maxLocals := 1, code := object_method_1_code, exceptionTable := #[], attributes := #[] }
def k0m0 : Method := { name := "<init>", desc := "()V", sig := { parameters := [], returnType := none }, accessFlags := 1, code := some k0c0 }
/-- java/lang/Object -/
def k0 : Class := { plain "java/lang/Object" none with
  accessFlags := 33
  interfaces := #[]
  cf := some (fileOf pool0 8 #[] #[{ accessFlags := 1, nameIndex := 5, descriptorIndex := 6, attributes := #[] }] 33 0 #[] #[])
  fields := #[]
  methods := #[k0m0]
  instanceTypes := #[]
  staticTypes := #[]
  resolved := Array.replicate 124 none
  statics := none }

def pool1 : Array CpInfo := pool [(2, .class_ 4), (0, .nameAndType 5 6), (0, u "java/lang/Object"), (0, u "<init>"), (0, u "()V"), (0, .methodref 8 9), (0, .class_ 10), (0, .nameAndType 11 12), (0, u "com/example/indexwerk/indexwerk/engine/OriginOfPinLaw"), (0, u "text"), (0, u "(ICCCC)Ljava/lang/String;"), (0, .methodref 14 15), (0, .class_ 16), (0, .nameAndType 17 18), (0, u "java/lang/String"), (0, u "valueOf"), (0, u "(C)Ljava/lang/String;"), (0, .class_ 20), (0, u "java/util/ArrayList"), (0, .methodref 19 3), (0, .interfaceMethodref 23 24), (0, .class_ 25), (0, .nameAndType 26 27), (0, u "java/util/List"), (0, u "add"), (0, u "(Ljava/lang/Object;)Z"), (0, .methodref 29 30), (0, .class_ 31), (0, .nameAndType 32 33), (0, u "com/example/indexwerk/indexwerk/engine/TargetLimits$Origin"), (0, u "of"), (0, u "(Ljava/lang/String;)Lcom/example/indexwerk/indexwerk/engine/TargetLimits$Origin;"), (0, .methodref 29 35), (0, .nameAndType 36 37), (0, u "line"), (0, u "()Ljava/util/function/Function;"), (0, .interfaceMethodref 39 40), (0, .class_ 41), (0, .nameAndType 42 43), (0, u "java/util/function/Function"), (0, u "apply"), (0, u "(Ljava/lang/Object;)Ljava/lang/Object;"), (0, .class_ 45), (0, u "java/util/OptionalInt"), (0, .methodref 29 47), (0, .nameAndType 48 49), (0, u "file"), (0, u "()Ljava/lang/String;"), (0, .methodref 14 51), (0, .nameAndType 52 27), (0, u "equals"), (0, .methodref 44 54), (0, .nameAndType 55 56), (0, u "isPresent"), (0, u "()Z"), (0, .methodref 14 58), (0, .nameAndType 5 59), (0, u "([C)V"), (2, u "law"), (0, u "(IIII)Z")] 7

def k1m0 : Method := { name := "<init>", desc := "()V", sig := { parameters := [], returnType := none }, accessFlags := 1, code := none }
def k1c1 : Code := { maxStack := 5, maxLocals := 17, code := code, exceptionTable := #[], attributes := #[] }
def k1m1 : Method := { name := "law", desc := "(IIII)Z", sig := { parameters := [.int, .int, .int, .int], returnType := some .boolean }, accessFlags := 9, code := some k1c1 }
def k1c2 : Code := { maxStack := 6, maxLocals := 5, code := method_3_code, exceptionTable := #[], attributes := #[] }
def k1m2 : Method := { name := "text", desc := "(ICCCC)Ljava/lang/String;", sig := { parameters := [.int, .char, .char, .char, .char], returnType := some (.object "java/lang/String") }, accessFlags := 10, code := some k1c2 }
/-- com/example/indexwerk/indexwerk/engine/OriginOfPinLaw -/
def k1 : Class := { plain "com/example/indexwerk/indexwerk/engine/OriginOfPinLaw" (some 0) with
  accessFlags := 49
  interfaces := #[]
  cf := some (fileOf pool1 8 #[] #[{ accessFlags := 1, nameIndex := 5, descriptorIndex := 6, attributes := #[] }, { accessFlags := 9, nameIndex := 62, descriptorIndex := 63, attributes := #[] }, { accessFlags := 10, nameIndex := 11, descriptorIndex := 12, attributes := #[] }] 49 2 #[] #[])
  fields := #[]
  methods := #[k1m0, k1m1, k1m2]
  instanceTypes := #[]
  staticTypes := #[]
  resolved := Array.replicate 71 none
  statics := none }

def pool2 : Array CpInfo := pool [(1, .class_ 2), (0, u "java/io/Serializable"), (0, .class_ 4), (0, u "java/lang/Object")] 2

/-- java/io/Serializable -/
def k2 : Class := { plain "java/io/Serializable" (some 0) with
  accessFlags := 1537
  interfaces := #[]
  cf := some (fileOf pool2 1 #[] #[] 1537 3 #[] #[])
  fields := #[]
  methods := #[]
  instanceTypes := #[]
  staticTypes := #[]
  resolved := Array.replicate 7 none
  statics := none }

def pool3 : Array CpInfo := pool [(1, .class_ 2), (0, u "java/lang/Comparable"), (0, .class_ 4), (0, u "java/lang/Object")] 7

/-- java/lang/Comparable -/
def k3 : Class := { plain "java/lang/Comparable" (some 0) with
  accessFlags := 1537
  interfaces := #[]
  cf := some (fileOf pool3 1 #[] #[] 1537 3 #[] #[])
  fields := #[]
  methods := #[]
  instanceTypes := #[]
  staticTypes := #[]
  resolved := Array.replicate 12 none
  statics := none }

def pool4 : Array CpInfo := pool [(2, .class_ 4), (1, u "java/lang/CharSequence"), (42, .class_ 48), (0, u "java/lang/CharSequence$1CodePointIterator"), (10, .class_ 60), (0, u "java/lang/CharSequence$1CharIterator"), (5, .class_ 67), (0, u "java/lang/Object")] 63

/-- java/lang/CharSequence -/
def k4 : Class := { plain "java/lang/CharSequence" (some 0) with
  accessFlags := 1537
  interfaces := #[]
  cf := some (fileOf pool4 2 #[.nestMembers #[47, 59]] #[] 1537 66 #[] #[])
  fields := #[]
  methods := #[]
  instanceTypes := #[]
  staticTypes := #[]
  resolved := Array.replicate 131 none
  statics := none }

def pool5 : Array CpInfo := pool [(1, .class_ 2), (0, u "java/lang/constant/Constable"), (0, .class_ 4), (0, u "java/lang/Object")] 6

/-- java/lang/constant/Constable -/
def k5 : Class := { plain "java/lang/constant/Constable" (some 0) with
  accessFlags := 1537
  interfaces := #[]
  cf := some (fileOf pool5 1 #[] #[] 1537 3 #[] #[])
  fields := #[]
  methods := #[]
  instanceTypes := #[]
  staticTypes := #[]
  resolved := Array.replicate 11 none
  statics := none }

def pool6 : Array CpInfo := pool [(1, .class_ 2), (0, u "java/lang/constant/ConstantDesc"), (0, .class_ 4), (0, u "java/lang/Object")] 32

/-- java/lang/constant/ConstantDesc -/
def k6 : Class := { plain "java/lang/constant/ConstantDesc" (some 0) with
  accessFlags := 1537
  interfaces := #[]
  cf := some (fileOf pool6 1 #[] #[] 1537 3 #[] #[])
  fields := #[]
  methods := #[]
  instanceTypes := #[]
  staticTypes := #[]
  resolved := Array.replicate 37 none
  statics := none }

def pool7 : Array CpInfo := pool [(1, .methodref 2 3), (0, .class_ 4), (0, .nameAndType 5 6), (0, u "java/lang/Object"), (0, u "<init>"), (0, u "()V"), (0, .string 8), (0, u ""), (0, .fieldref 10 11), (0, .class_ 12), (0, .nameAndType 13 14), (0, u "java/lang/String"), (0, u "value"), (0, u "[B"), (0, .fieldref 10 16), (0, .nameAndType 17 18), (0, u "coder"), (0, u "B"), (2, u "hash"), (0, u "I"), (2, u "hashIsZero"), (0, u "Z"), (0, .methodref 10 28), (0, .nameAndType 5 29), (0, u "([CIILjava/lang/Void;)V"), (8, .fieldref 10 39), (0, .nameAndType 40 26), (0, u "COMPACT_STRINGS"), (1, .class_ 44), (1, u "java/lang/StringUTF16"), (0, u "compress"), (1, .methodref 42 48), (0, .nameAndType 49 50), (0, u "coderFromArrayLen"), (0, u "([BI)B"), (2, u "toBytes"), (53, .class_ 109), (1, u "java/lang/StringLatin1"), (67, .methodref 42 178), (0, .nameAndType 45 179), (0, u "([CII)[B"), (29, .methodref 10 210), (0, .nameAndType 5 211), (0, u "([BB)V"), (157, u "(C)Z"), (171, .methodref 107 542), (0, .nameAndType 543 544), (0, u "equals"), (0, u "([B[B)Z"), (28, u "(Ljava/lang/Object;)Z"), (1, .class_ 576), (0, u "java/lang/CharSequence"), (22, u "CASE_INSENSITIVE_ORDER"), (0, u "Ljava/util/Comparator;"), (181, u "valueOf"), (0, u "(C)Ljava/lang/String;"), (226, u "([C)V"), (4, .methodref 107 1016), (0, .nameAndType 1017 369), (0, u "canEncode"), (0, .methodref 107 1019), (0, .nameAndType 53 1020), (0, u "(C)[B"), (80, u "serialPersistentFields"), (0, u "[Ljava/io/ObjectStreamField;"), (0, .class_ 1104), (0, u "java/lang/String$CaseInsensitiveComparator"), (1, .class_ 1107), (0, u "java/io/Serializable"), (0, .class_ 1109), (0, u "java/lang/Comparable"), (0, .class_ 1111), (0, u "java/lang/constant/Constable"), (0, .class_ 1113), (0, u "java/lang/constant/ConstantDesc"), (2, u "serialVersionUID"), (0, u "J"), (3, u "REPL"), (0, u "C"), (2, u "LATIN1"), (1, u "UTF16")] 323

def k7m0 : Method := { name := "<init>", desc := "()V", sig := { parameters := [], returnType := none }, accessFlags := 1, code := none }
def k7c1 : Code := { maxStack := 5, maxLocals := 2, code := jdk_42_method_3_code, exceptionTable := #[], attributes := #[] }
def k7m1 : Method := { name := "<init>", desc := "([C)V", sig := { parameters := [(.array .char)], returnType := none }, accessFlags := 1, code := some k7c1 }
def k7c2 : Code := { maxStack := 2, maxLocals := 3, code := jdk_42_method_66_code, exceptionTable := #[], attributes := #[] }
def k7m2 : Method := { name := "equals", desc := "(Ljava/lang/Object;)Z", sig := { parameters := [(.object "java/lang/Object")], returnType := some .boolean }, accessFlags := 1, code := some k7c2 }
def k7c3 : Code := { maxStack := 4, maxLocals := 1, code := jdk_42_method_139_code, exceptionTable := #[], attributes := #[] }
def k7m3 : Method := { name := "valueOf", desc := "(C)Ljava/lang/String;", sig := { parameters := [.char], returnType := some (.object "java/lang/String") }, accessFlags := 9, code := some k7c3 }
def k7c4 : Code := { maxStack := 4, maxLocals := 6, code := jdk_42_method_149_code, exceptionTable := #[], attributes := #[] }
def k7m4 : Method := { name := "<init>", desc := "([CIILjava/lang/Void;)V", sig := { parameters := [(.array .char), .int, .int, (.object "java/lang/Void")], returnType := none }, accessFlags := 2, code := some k7c4 }
def k7c5 : Code := { maxStack := 2, maxLocals := 3, code := jdk_42_method_151_code, exceptionTable := #[], attributes := #[] }
def k7m5 : Method := { name := "<init>", desc := "([BB)V", sig := { parameters := [(.array .byte), .byte], returnType := none }, accessFlags := 0, code := some k7c5 }
/-- java/lang/String -/
def k7 : Class := { plain "java/lang/String" (some 0) with
  accessFlags := 49
  interfaces := #[2, 3, 4, 5, 6]
  cf := some (fileOf pool7 10 #[.nestMembers #[1103]] #[{ accessFlags := 1, nameIndex := 5, descriptorIndex := 6, attributes := #[] }, { accessFlags := 1, nameIndex := 5, descriptorIndex := 1010, attributes := #[] }, { accessFlags := 1, nameIndex := 543, descriptorIndex := 573, attributes := #[] }, { accessFlags := 9, nameIndex := 782, descriptorIndex := 783, attributes := #[] }, { accessFlags := 2, nameIndex := 5, descriptorIndex := 29, attributes := #[] }, { accessFlags := 0, nameIndex := 5, descriptorIndex := 211, attributes := #[] }] 49 2 #[1106, 1108, 575, 1110, 1112] #[{ accessFlags := 18, nameIndex := 13, descriptorIndex := 14, attributes := #[] }, { accessFlags := 18, nameIndex := 17, descriptorIndex := 18, attributes := #[] }, { accessFlags := 2, nameIndex := 21, descriptorIndex := 22, attributes := #[] }, { accessFlags := 2, nameIndex := 25, descriptorIndex := 26, attributes := #[] }, { accessFlags := 26, nameIndex := 1116, descriptorIndex := 1117, attributes := #[] }, { accessFlags := 24, nameIndex := 40, descriptorIndex := 26, attributes := #[] }, { accessFlags := 26, nameIndex := 1101, descriptorIndex := 1102, attributes := #[] }, { accessFlags := 26, nameIndex := 1121, descriptorIndex := 1122, attributes := #[] }, { accessFlags := 25, nameIndex := 599, descriptorIndex := 600, attributes := #[] }, { accessFlags := 24, nameIndex := 1125, descriptorIndex := 18, attributes := #[] }, { accessFlags := 24, nameIndex := 1127, descriptorIndex := 18, attributes := #[] }])
  fields := #[{ name := "value", type := (.array .byte), accessFlags := 18, slot := 0, constantValue := 0 }, { name := "coder", type := .byte, accessFlags := 18, slot := 1, constantValue := 0 }, { name := "hash", type := .int, accessFlags := 2, slot := 2, constantValue := 0 }, { name := "hashIsZero", type := .boolean, accessFlags := 2, slot := 3, constantValue := 0 }, { name := "serialVersionUID", type := .long, accessFlags := 26, slot := 0, constantValue := 0 }, { name := "COMPACT_STRINGS", type := .boolean, accessFlags := 24, slot := 1, constantValue := 0 }, { name := "serialPersistentFields", type := (.array (.object "java/io/ObjectStreamField")), accessFlags := 26, slot := 2, constantValue := 0 }, { name := "REPL", type := .char, accessFlags := 26, slot := 3, constantValue := 0 }, { name := "CASE_INSENSITIVE_ORDER", type := (.object "java/util/Comparator"), accessFlags := 25, slot := 4, constantValue := 0 }, { name := "LATIN1", type := .byte, accessFlags := 24, slot := 5, constantValue := 0 }, { name := "UTF16", type := .byte, accessFlags := 24, slot := 6, constantValue := 0 }]
  methods := #[k7m0, k7m1, k7m2, k7m3, k7m4, k7m5]
  instanceTypes := #[(.array .byte), .byte, .int, .boolean]
  staticTypes := #[.long, .boolean, (.array (.object "java/io/ObjectStreamField")), .char, (.object "java/util/Comparator"), .byte, .byte]
  resolved := Array.replicate 1451 none
  statics := some 0 }

def pool8 : Array CpInfo := pool [(6, .class_ 8), (1, u "java/lang/Object"), (0, u "<init>"), (0, u "()V"), (1, .class_ 14), (1, u "java/lang/StringUTF16"), (31, u "$assertionsDisabled"), (0, u "Z"), (13, u "HI_BYTE_SHIFT"), (0, u "I"), (2, u "LO_BYTE_SHIFT"), (49, .methodref 12 116), (0, .nameAndType 117 118), (0, u "compress"), (0, u "([CI[BII)I"), (3, u "([CII)[B"), (138, u "coderFromArrayLen"), (0, u "([BI)B"), (106, .class_ 371), (1, u "java/lang/StringUTF16$LinesSpliterator"), (58, u "MAX_LENGTH"), (196, .class_ 628), (0, u "java/lang/StringUTF16$CodePointsSpliterator"), (0, .class_ 630), (0, u "java/lang/StringUTF16$CharsSpliterator")] 4

def k8m0 : Method := { name := "<init>", desc := "()V", sig := { parameters := [], returnType := none }, accessFlags := 0, code := none }
def k8c1 : Code := { maxStack := 2, maxLocals := 2, code := jdk_52_method_15_code, exceptionTable := #[], attributes := #[] }
def k8m1 : Method := { name := "coderFromArrayLen", desc := "([BI)B", sig := { parameters := [(.array .byte), .int], returnType := some .byte }, accessFlags := 8, code := some k8c1 }
def k8c2 : Code := { maxStack := 5, maxLocals := 6, code := jdk_52_method_16_code, exceptionTable := #[], attributes := #[] }
def k8m2 : Method := { name := "compress", desc := "([CII)[B", sig := { parameters := [(.array .char), .int, .int], returnType := some (.array .byte) }, accessFlags := 9, code := some k8c2 }
def k8c3 : Code := { maxStack := 3, maxLocals := 7, code := jdk_52_method_21_code, exceptionTable := #[], attributes := #[] }
def k8m3 : Method := { name := "compress", desc := "([CI[BII)I", sig := { parameters := [(.array .char), .int, (.array .byte), .int, .int], returnType := some .int }, accessFlags := 9, code := some k8c3 }
/-- java/lang/StringUTF16 -/
def k8 : Class := { plain "java/lang/StringUTF16" (some 0) with
  accessFlags := 48
  interfaces := #[]
  cf := some (fileOf pool8 12 #[.nestMembers #[627, 629, 369]] #[{ accessFlags := 0, nameIndex := 9, descriptorIndex := 10, attributes := #[] }, { accessFlags := 8, nameIndex := 261, descriptorIndex := 262, attributes := #[] }, { accessFlags := 9, nameIndex := 117, descriptorIndex := 122, attributes := #[] }, { accessFlags := 9, nameIndex := 117, descriptorIndex := 118, attributes := #[] }] 48 6 #[] #[{ accessFlags := 26, nameIndex := 61, descriptorIndex := 62, attributes := #[] }, { accessFlags := 26, nameIndex := 65, descriptorIndex := 62, attributes := #[] }, { accessFlags := 24, nameIndex := 430, descriptorIndex := 62, attributes := #[] }, { accessFlags := 4120, nameIndex := 46, descriptorIndex := 47, attributes := #[] }])
  fields := #[{ name := "HI_BYTE_SHIFT", type := .int, accessFlags := 26, slot := 0, constantValue := 0 }, { name := "LO_BYTE_SHIFT", type := .int, accessFlags := 26, slot := 1, constantValue := 0 }, { name := "MAX_LENGTH", type := .int, accessFlags := 24, slot := 2, constantValue := 0 }, { name := "$assertionsDisabled", type := .boolean, accessFlags := 4120, slot := 3, constantValue := 0 }]
  methods := #[k8m0, k8m1, k8m2, k8m3]
  instanceTypes := #[]
  staticTypes := #[.int, .int, .int, .boolean]
  resolved := Array.replicate 635 none
  statics := none }

def pool9 : Array CpInfo := pool [(4, .class_ 6), (1, u "java/lang/Object"), (0, u "<init>"), (0, u "()V"), (5, .class_ 16), (1, u "java/lang/StringLatin1"), (73, u "canEncode"), (14, u "(C)Z"), (15, u "$assertionsDisabled"), (0, u "Z"), (98, .class_ 223), (1, u "java/lang/StringLatin1$LinesSpliterator"), (57, u "equals"), (0, u "([B[B)Z"), (97, u "toBytes"), (1, u "(C)[B"), (7, .class_ 391), (0, u "java/lang/StringLatin1$CharsSpliterator")] 3

def k9m0 : Method := { name := "<init>", desc := "()V", sig := { parameters := [], returnType := none }, accessFlags := 0, code := none }
def k9c1 : Code := { maxStack := 2, maxLocals := 1, code := jdk_43_method_3_code, exceptionTable := #[], attributes := #[] }
def k9m1 : Method := { name := "canEncode", desc := "(C)Z", sig := { parameters := [.char], returnType := some .boolean }, accessFlags := 9, code := some k9c1 }
def k9c2 : Code := { maxStack := 3, maxLocals := 3, code := jdk_43_method_13_code, exceptionTable := #[], attributes := #[] }
def k9m2 : Method := { name := "equals", desc := "([B[B)Z", sig := { parameters := [(.array .byte), (.array .byte)], returnType := some .boolean }, accessFlags := 9, code := some k9c2 }
def k9c3 : Code := { maxStack := 4, maxLocals := 1, code := jdk_43_method_46_code, exceptionTable := #[], attributes := #[] }
def k9m3 : Method := { name := "toBytes", desc := "(C)[B", sig := { parameters := [.char], returnType := some (.array .byte) }, accessFlags := 9, code := some k9c3 }
/-- java/lang/StringLatin1 -/
def k9 : Class := { plain "java/lang/StringLatin1" (some 0) with
  accessFlags := 48
  interfaces := #[]
  cf := some (fileOf pool9 14 #[.nestMembers #[390, 221]] #[{ accessFlags := 0, nameIndex := 7, descriptorIndex := 8, attributes := #[] }, { accessFlags := 9, nameIndex := 90, descriptorIndex := 105, attributes := #[] }, { accessFlags := 9, nameIndex := 281, descriptorIndex := 282, attributes := #[] }, { accessFlags := 9, nameIndex := 380, descriptorIndex := 382, attributes := #[] }] 48 4 #[] #[{ accessFlags := 4120, nameIndex := 121, descriptorIndex := 122, attributes := #[] }])
  fields := #[{ name := "$assertionsDisabled", type := .boolean, accessFlags := 4120, slot := 0, constantValue := 0 }]
  methods := #[k9m0, k9m1, k9m2, k9m3]
  instanceTypes := #[]
  staticTypes := #[.boolean]
  resolved := Array.replicate 395 none
  statics := none }

def pool10 : Array CpInfo := pool [(8, .class_ 10), (1, u "java/lang/Iterable"), (24, .class_ 36), (0, u "java/lang/Object")] 25

/-- java/lang/Iterable -/
def k10 : Class := { plain "java/lang/Iterable" (some 0) with
  accessFlags := 1537
  interfaces := #[]
  cf := some (fileOf pool10 8 #[] #[] 1537 35 #[] #[])
  fields := #[]
  methods := #[]
  instanceTypes := #[]
  staticTypes := #[]
  resolved := Array.replicate 62 none
  statics := none }

def pool11 : Array CpInfo := pool [(10, .class_ 12), (1, u "java/util/Collection"), (47, .class_ 61), (0, u "java/lang/Object"), (0, .class_ 63), (0, u "java/lang/Iterable")] 51

/-- java/util/Collection -/
def k11 : Class := { plain "java/util/Collection" (some 0) with
  accessFlags := 1537
  interfaces := #[10]
  cf := some (fileOf pool11 10 #[] #[] 1537 60 #[62] #[])
  fields := #[]
  methods := #[]
  instanceTypes := #[]
  staticTypes := #[]
  resolved := Array.replicate 115 none
  statics := none }

def pool12 : Array CpInfo := pool [(1, .methodref 2 3), (0, .class_ 4), (0, .nameAndType 5 6), (0, u "java/lang/Object"), (0, u "<init>"), (0, u "()V"), (1, .class_ 10), (1, u "java/util/AbstractCollection"), (66, .class_ 78), (0, u "java/util/Collection")] 81

def k12c0 : Code := { maxStack := 1, maxLocals := 1, code := jdk_22_method_1_code, exceptionTable := #[], attributes := #[] }
def k12m0 : Method := { name := "<init>", desc := "()V", sig := { parameters := [], returnType := none }, accessFlags := 4, code := some k12c0 }
/-- java/util/AbstractCollection -/
def k12 : Class := { plain "java/util/AbstractCollection" (some 0) with
  accessFlags := 1057
  interfaces := #[11]
  cf := some (fileOf pool12 8 #[] #[{ accessFlags := 4, nameIndex := 5, descriptorIndex := 6, attributes := #[] }] 1057 2 #[77] #[])
  fields := #[]
  methods := #[k12m0]
  instanceTypes := #[]
  staticTypes := #[]
  resolved := Array.replicate 160 none
  statics := none }

def pool13 : Array CpInfo := pool [(8, .class_ 10), (1, u "java/util/SequencedCollection"), (15, .class_ 27), (0, u "java/lang/Object"), (0, .class_ 29), (0, u "java/util/Collection")] 27

/-- java/util/SequencedCollection -/
def k13 : Class := { plain "java/util/SequencedCollection" (some 0) with
  accessFlags := 1537
  interfaces := #[11]
  cf := some (fileOf pool13 8 #[] #[] 1537 26 #[28] #[])
  fields := #[]
  methods := #[]
  instanceTypes := #[]
  staticTypes := #[]
  resolved := Array.replicate 57 none
  statics := none }

def pool14 : Array CpInfo := pool [(8, .class_ 10), (1, u "java/util/List"), (49, u "add"), (3, u "(Ljava/lang/Object;)Z"), (38, .class_ 104), (0, u "java/lang/Object"), (15, .class_ 121), (0, u "java/util/SequencedCollection")] 129

def k14m0 : Method := { name := "add", desc := "(Ljava/lang/Object;)Z", sig := { parameters := [(.object "java/lang/Object")], returnType := some .boolean }, accessFlags := 1025, code := none }
/-- java/util/List -/
def k14 : Class := { plain "java/util/List" (some 0) with
  accessFlags := 1537
  interfaces := #[13]
  cf := some (fileOf pool14 8 #[] #[{ accessFlags := 1025, nameIndex := 60, descriptorIndex := 64, attributes := #[] }] 1537 103 #[120] #[])
  fields := #[]
  methods := #[k14m0]
  instanceTypes := #[]
  staticTypes := #[]
  resolved := Array.replicate 251 none
  statics := none }

def pool15 : Array CpInfo := pool [(1, .methodref 2 3), (0, .class_ 4), (0, .nameAndType 5 6), (0, u "java/util/AbstractCollection"), (0, u "<init>"), (0, u "()V"), (0, .fieldref 8 9), (0, .class_ 10), (0, .nameAndType 11 12), (0, u "java/util/AbstractList"), (0, u "modCount"), (0, u "I"), (64, .class_ 78), (0, u "java/util/AbstractList$Itr"), (3, .class_ 83), (0, u "java/util/AbstractList$ListItr"), (9, .class_ 94), (0, u "java/util/AbstractList$RandomAccessSubList"), (3, .class_ 99), (0, u "java/util/AbstractList$SubList"), (33, .class_ 134), (0, u "java/util/List"), (73, .class_ 209), (0, u "java/util/AbstractList$SubList$1"), (0, .class_ 211), (0, u "java/util/AbstractList$RandomAccessSpliterator")] 6

def k15c0 : Code := { maxStack := 2, maxLocals := 1, code := jdk_39_method_1_code, exceptionTable := #[], attributes := #[] }
def k15m0 : Method := { name := "<init>", desc := "()V", sig := { parameters := [], returnType := none }, accessFlags := 4, code := some k15c0 }
/-- java/util/AbstractList -/
def k15 : Class := { plain "java/util/AbstractList" (some 12) with
  accessFlags := 1057
  interfaces := #[14]
  cf := some (fileOf pool15 8 #[.nestMembers #[93, 98, 208, 210, 82, 77]] #[{ accessFlags := 4, nameIndex := 5, descriptorIndex := 6, attributes := #[] }] 1057 2 #[133] #[{ accessFlags := 132, nameIndex := 11, descriptorIndex := 12, attributes := #[] }])
  fields := #[{ name := "modCount", type := .int, accessFlags := 132, slot := 0, constantValue := 0 }]
  methods := #[k15m0]
  instanceTypes := #[.int]
  staticTypes := #[]
  resolved := Array.replicate 218 none
  statics := none }

def pool16 : Array CpInfo := pool [(1, .class_ 2), (0, u "java/util/RandomAccess"), (0, .class_ 4), (0, u "java/lang/Object")] 2

/-- java/util/RandomAccess -/
def k16 : Class := { plain "java/util/RandomAccess" (some 0) with
  accessFlags := 1537
  interfaces := #[]
  cf := some (fileOf pool16 1 #[] #[] 1537 3 #[] #[])
  fields := #[]
  methods := #[]
  instanceTypes := #[]
  staticTypes := #[]
  resolved := Array.replicate 7 none
  statics := none }

def pool17 : Array CpInfo := pool [(1, .class_ 2), (0, u "java/lang/Cloneable"), (0, .class_ 4), (0, u "java/lang/Object")] 2

/-- java/lang/Cloneable -/
def k17 : Class := { plain "java/lang/Cloneable" (some 0) with
  accessFlags := 1537
  interfaces := #[]
  cf := some (fileOf pool17 1 #[] #[] 1537 3 #[] #[])
  fields := #[]
  methods := #[]
  instanceTypes := #[]
  staticTypes := #[]
  resolved := Array.replicate 7 none
  statics := none }

def pool18 : Array CpInfo := pool [(1, .methodref 2 3), (0, .class_ 4), (0, .nameAndType 5 6), (0, u "java/util/AbstractList"), (0, u "<init>"), (0, u "()V"), (0, .class_ 8), (0, u "java/lang/Object"), (0, .fieldref 10 11), (0, .class_ 12), (0, .nameAndType 13 14), (0, u "java/util/ArrayList"), (0, u "elementData"), (0, u "[Ljava/lang/Object;"), (2, u "EMPTY_ELEMENTDATA"), (21, .fieldref 10 40), (0, .nameAndType 41 14), (0, u "DEFAULTCAPACITY_EMPTY_ELEMENTDATA"), (5, u "()[Ljava/lang/Object;"), (0, .fieldref 10 49), (0, .nameAndType 50 51), (0, u "size"), (0, u "I"), (11, .fieldref 10 64), (0, .nameAndType 65 51), (0, u "modCount"), (3, .methodref 10 70), (0, .nameAndType 71 72), (0, u "grow"), (0, u "(I)[Ljava/lang/Object;"), (6, .methodref 80 81), (0, .class_ 82), (0, .nameAndType 83 84), (0, u "java/lang/Math"), (0, u "max"), (0, u "(II)I"), (11, u "(Ljava/lang/Object;)Z"), (32, .methodref 10 130), (0, .nameAndType 71 47), (0, .methodref 10 132), (0, .nameAndType 133 134), (0, u "add"), (0, u "(Ljava/lang/Object;[Ljava/lang/Object;I)V"), (13, .class_ 149), (0, u "java/util/List"), (112, .class_ 263), (0, u "java/util/ArrayList$ListItr"), (3, .class_ 268), (0, u "java/util/ArrayList$Itr"), (7, .class_ 277), (0, u "java/util/ArrayList$SubList"), (12, .class_ 291), (0, u "java/util/ArrayList$ArrayListSpliterator"), (37, .class_ 330), (0, u "java/util/RandomAccess"), (0, .class_ 332), (0, u "java/lang/Cloneable"), (0, .class_ 334), (0, u "java/io/Serializable"), (0, u "serialVersionUID"), (0, u "J"), (3, u "DEFAULT_CAPACITY"), (159, .class_ 501), (0, u "java/util/ArrayList$SubList$2"), (0, .class_ 503), (0, u "java/util/ArrayList$SubList$1")] 5

def k18c0 : Code := { maxStack := 2, maxLocals := 1, code := jdk_38_method_2_code, exceptionTable := #[], attributes := #[] }
def k18m0 : Method := { name := "<init>", desc := "()V", sig := { parameters := [], returnType := none }, accessFlags := 1, code := some k18c0 }
def k18c1 : Code := { maxStack := 4, maxLocals := 4, code := jdk_38_method_6_code, exceptionTable := #[], attributes := #[] }
def k18m1 : Method := { name := "grow", desc := "(I)[Ljava/lang/Object;", sig := { parameters := [.int], returnType := some (.array (.object "java/lang/Object")) }, accessFlags := 2, code := some k18c1 }
def k18c2 : Code := { maxStack := 3, maxLocals := 1, code := jdk_38_method_7_code, exceptionTable := #[], attributes := #[] }
def k18m2 : Method := { name := "grow", desc := "()[Ljava/lang/Object;", sig := { parameters := [], returnType := some (.array (.object "java/lang/Object")) }, accessFlags := 2, code := some k18c2 }
def k18c3 : Code := { maxStack := 3, maxLocals := 4, code := jdk_38_method_24_code, exceptionTable := #[], attributes := #[] }
def k18m3 : Method := { name := "add", desc := "(Ljava/lang/Object;[Ljava/lang/Object;I)V", sig := { parameters := [(.object "java/lang/Object"), (.array (.object "java/lang/Object")), .int], returnType := none }, accessFlags := 2, code := some k18c3 }
def k18c4 : Code := { maxStack := 4, maxLocals := 2, code := jdk_38_method_25_code, exceptionTable := #[], attributes := #[] }
def k18m4 : Method := { name := "add", desc := "(Ljava/lang/Object;)Z", sig := { parameters := [(.object "java/lang/Object")], returnType := some .boolean }, accessFlags := 1, code := some k18c4 }
/-- java/util/ArrayList -/
def k18 : Class := { plain "java/util/ArrayList" (some 15) with
  accessFlags := 33
  interfaces := #[14, 16, 17, 2]
  cf := some (fileOf pool18 10 #[.nestMembers #[290, 276, 500, 502, 262, 267]] #[{ accessFlags := 1, nameIndex := 5, descriptorIndex := 6, attributes := #[] }, { accessFlags := 2, nameIndex := 71, descriptorIndex := 72, attributes := #[] }, { accessFlags := 2, nameIndex := 71, descriptorIndex := 47, attributes := #[] }, { accessFlags := 2, nameIndex := 133, descriptorIndex := 134, attributes := #[] }, { accessFlags := 1, nameIndex := 133, descriptorIndex := 96, attributes := #[] }] 33 2 #[148, 329, 331, 333] #[{ accessFlags := 26, nameIndex := 335, descriptorIndex := 336, attributes := #[] }, { accessFlags := 26, nameIndex := 340, descriptorIndex := 51, attributes := #[] }, { accessFlags := 26, nameIndex := 17, descriptorIndex := 14, attributes := #[] }, { accessFlags := 26, nameIndex := 41, descriptorIndex := 14, attributes := #[] }, { accessFlags := 128, nameIndex := 13, descriptorIndex := 14, attributes := #[] }, { accessFlags := 2, nameIndex := 50, descriptorIndex := 51, attributes := #[] }])
  fields := #[{ name := "serialVersionUID", type := .long, accessFlags := 26, slot := 0, constantValue := 0 }, { name := "DEFAULT_CAPACITY", type := .int, accessFlags := 26, slot := 1, constantValue := 0 }, { name := "EMPTY_ELEMENTDATA", type := (.array (.object "java/lang/Object")), accessFlags := 26, slot := 2, constantValue := 0 }, { name := "DEFAULTCAPACITY_EMPTY_ELEMENTDATA", type := (.array (.object "java/lang/Object")), accessFlags := 26, slot := 3, constantValue := 0 }, { name := "elementData", type := (.array (.object "java/lang/Object")), accessFlags := 128, slot := 1, constantValue := 0 }, { name := "size", type := .int, accessFlags := 2, slot := 2, constantValue := 0 }]
  methods := #[k18m0, k18m1, k18m2, k18m3, k18m4]
  instanceTypes := #[.int, (.array (.object "java/lang/Object")), .int]
  staticTypes := #[.long, .int, (.array (.object "java/lang/Object")), (.array (.object "java/lang/Object"))]
  resolved := Array.replicate 509 none
  statics := some 1 }

def pool19 : Array CpInfo := pool [(1, .methodref 2 3), (0, .class_ 4), (0, .nameAndType 5 6), (0, u "java/lang/Object"), (0, u "<init>"), (0, u "()V"), (0, .class_ 8), (0, u "java/lang/Record")] 13

def k19c0 : Code := { maxStack := 1, maxLocals := 1, code := jdk_30_method_1_code, exceptionTable := #[], attributes := #[] }
def k19m0 : Method := { name := "<init>", desc := "()V", sig := { parameters := [], returnType := none }, accessFlags := 4, code := some k19c0 }
/-- java/lang/Record -/
def k19 : Class := { plain "java/lang/Record" (some 0) with
  accessFlags := 1057
  interfaces := #[]
  cf := some (fileOf pool19 7 #[] #[{ accessFlags := 4, nameIndex := 5, descriptorIndex := 6, attributes := #[] }] 1057 2 #[] #[])
  fields := #[]
  methods := #[k19m0]
  instanceTypes := #[]
  staticTypes := #[]
  resolved := Array.replicate 22 none
  statics := none }

def pool20 : Array CpInfo := pool [(1, .methodref 2 3), (0, .class_ 4), (0, .nameAndType 5 6), (0, u "java/lang/Record"), (0, u "<init>"), (0, u "()V"), (0, .fieldref 8 9), (0, .class_ 10), (0, .nameAndType 11 12), (0, u "com/example/indexwerk/indexwerk/engine/TargetLimits$Origin"), (0, u "file"), (0, u "Ljava/lang/String;"), (0, .fieldref 8 14), (0, .nameAndType 15 16), (0, u "line"), (0, u "Ljava/util/function/Function;"), (0, .invokeDynamic 0 18), (0, .nameAndType 19 20), (0, u "apply"), (0, u "()Ljava/util/function/Function;"), (0, .methodref 8 22), (0, .nameAndType 5 23), (0, u "(Ljava/lang/String;Ljava/util/function/Function;)V"), (0, .methodref 25 26), (0, .class_ 27), (0, .nameAndType 28 29), (0, u "java/util/OptionalInt"), (0, u "empty"), (0, u "()Ljava/util/OptionalInt;"), (18, u "of"), (0, u "(Ljava/lang/String;)Lcom/example/indexwerk/indexwerk/engine/TargetLimits$Origin;"), (0, u "()Ljava/lang/String;"), (3, u "lambda$of$0"), (0, u "(Ljava/util/List;)Ljava/util/OptionalInt;"), (3, .class_ 60), (0, u "com/example/indexwerk/indexwerk/engine/TargetLimits"), (2, .methodType 64), (0, u "(Ljava/lang/Object;)Ljava/lang/Object;"), (0, .methodHandle 6 66), (0, .methodref 8 67), (0, .nameAndType 54 55), (0, .methodType 55), (4, .methodHandle 6 74), (0, .methodref 75 76), (0, .class_ 77), (0, .nameAndType 78 79), (0, u "java/lang/invoke/LambdaMetafactory"), (0, u "metafactory"), (0, u "(Ljava/lang/invoke/MethodHandles$Lookup;Ljava/lang/String;Ljava/lang/invoke/MethodType;Ljava/lang/invoke/MethodType;Ljava/lang/invoke/MethodHandle;Ljava/lang/invoke/MethodType;)Ljava/lang/invoke/CallSite;")] 14

def k20c0 : Code := { maxStack := 2, maxLocals := 3, code := prog_22_method_1_code, exceptionTable := #[], attributes := #[] }
def k20m0 : Method := { name := "<init>", desc := "(Ljava/lang/String;Ljava/util/function/Function;)V", sig := { parameters := [(.object "java/lang/String"), (.object "java/util/function/Function")], returnType := none }, accessFlags := 0, code := some k20c0 }
def k20c1 : Code := { maxStack := 4, maxLocals := 1, code := prog_22_method_2_code, exceptionTable := #[], attributes := #[] }
def k20m1 : Method := { name := "of", desc := "(Ljava/lang/String;)Lcom/example/indexwerk/indexwerk/engine/TargetLimits$Origin;", sig := { parameters := [(.object "java/lang/String")], returnType := some (.object "com/example/indexwerk/indexwerk/engine/TargetLimits$Origin") }, accessFlags := 8, code := some k20c1 }
def k20c2 : Code := { maxStack := 1, maxLocals := 1, code := prog_22_method_6_code, exceptionTable := #[], attributes := #[] }
def k20m2 : Method := { name := "file", desc := "()Ljava/lang/String;", sig := { parameters := [], returnType := some (.object "java/lang/String") }, accessFlags := 1, code := some k20c2 }
def k20c3 : Code := { maxStack := 1, maxLocals := 1, code := prog_22_method_7_code, exceptionTable := #[], attributes := #[] }
def k20m3 : Method := { name := "line", desc := "()Ljava/util/function/Function;", sig := { parameters := [], returnType := some (.object "java/util/function/Function") }, accessFlags := 1, code := some k20c3 }
def k20c4 : Code := { maxStack := 1, maxLocals := 1, code := prog_22_method_8_code, exceptionTable := #[], attributes := #[] }
def k20m4 : Method := { name := "lambda$of$0", desc := "(Ljava/util/List;)Ljava/util/OptionalInt;", sig := { parameters := [(.object "java/util/List")], returnType := some (.object "java/util/OptionalInt") }, accessFlags := 4106, code := some k20c4 }
/-- com/example/indexwerk/indexwerk/engine/TargetLimits$Origin -/
def k20 : Class := { plain "com/example/indexwerk/indexwerk/engine/TargetLimits$Origin" (some 19) with
  accessFlags := 48
  interfaces := #[]
  cf := some (fileOf pool20 8 #[.nestHost 59, .bootstrapMethods #[⟨73, #[63, 65, 68]⟩, ⟨0, #[]⟩]] #[{ accessFlags := 0, nameIndex := 5, descriptorIndex := 23, attributes := #[] }, { accessFlags := 8, nameIndex := 48, descriptorIndex := 49, attributes := #[] }, { accessFlags := 1, nameIndex := 11, descriptorIndex := 50, attributes := #[] }, { accessFlags := 1, nameIndex := 15, descriptorIndex := 20, attributes := #[] }, { accessFlags := 4106, nameIndex := 54, descriptorIndex := 55, attributes := #[] }] 48 2 #[] #[{ accessFlags := 18, nameIndex := 11, descriptorIndex := 12, attributes := #[] }, { accessFlags := 18, nameIndex := 15, descriptorIndex := 16, attributes := #[] }])
  fields := #[{ name := "file", type := (.object "java/lang/String"), accessFlags := 18, slot := 0, constantValue := 0 }, { name := "line", type := (.object "java/util/function/Function"), accessFlags := 18, slot := 1, constantValue := 0 }]
  methods := #[k20m0, k20m1, k20m2, k20m3, k20m4]
  instanceTypes := #[(.object "java/lang/String"), (.object "java/util/function/Function")]
  staticTypes := #[]
  resolved := Array.replicate 94 none
  callSites := [(1, 5, .constant 4)]
  statics := none }

def pool21 : Array CpInfo := pool [(6, u "(Ljava/lang/Object;)Ljava/lang/Object;"), (2, u "apply"), (6, .class_ 18), (1, u "java/util/function/Function"), (0, .class_ 20), (0, u "java/lang/Object")] 56

def k21m0 : Method := { name := "apply", desc := "(Ljava/lang/Object;)Ljava/lang/Object;", sig := { parameters := [(.object "java/lang/Object")], returnType := some (.object "java/lang/Object") }, accessFlags := 1025, code := none }
/-- java/util/function/Function -/
def k21 : Class := { plain "java/util/function/Function" (some 0) with
  accessFlags := 1537
  interfaces := #[]
  cf := some (fileOf pool21 16 #[] #[{ accessFlags := 1025, nameIndex := 9, descriptorIndex := 6, attributes := #[] }] 1537 19 #[] #[])
  fields := #[]
  methods := #[k21m0]
  instanceTypes := #[]
  staticTypes := #[]
  resolved := Array.replicate 77 none
  statics := none }

def pool22 : Array CpInfo := pool [(2, .class_ 4), (1, u "java/lang/Object"), (0, u "<init>"), (0, u "()V"), (0, .fieldref 8 9), (0, .class_ 10), (0, .nameAndType 11 12), (0, u "java/util/OptionalInt"), (0, u "isPresent"), (0, u "Z"), (2, u "value"), (0, u "I"), (0, .fieldref 8 18), (0, .nameAndType 19 20), (0, u "EMPTY"), (0, u "Ljava/util/OptionalInt;"), (28, u "empty"), (46, u "()Ljava/util/OptionalInt;"), (2, u "()Z")] 36

def k22m0 : Method := { name := "<init>", desc := "()V", sig := { parameters := [], returnType := none }, accessFlags := 2, code := none }
def k22c1 : Code := { maxStack := 1, maxLocals := 0, code := jdk_2649_method_2_code, exceptionTable := #[], attributes := #[] }
def k22m1 : Method := { name := "empty", desc := "()Ljava/util/OptionalInt;", sig := { parameters := [], returnType := some (.object "java/util/OptionalInt") }, accessFlags := 9, code := some k22c1 }
def k22c2 : Code := { maxStack := 1, maxLocals := 1, code := jdk_2649_method_6_code, exceptionTable := #[], attributes := #[] }
def k22m2 : Method := { name := "isPresent", desc := "()Z", sig := { parameters := [], returnType := some .boolean }, accessFlags := 1, code := some k22c2 }
/-- java/util/OptionalInt -/
def k22 : Class := { plain "java/util/OptionalInt" (some 0) with
  accessFlags := 49
  interfaces := #[]
  cf := some (fileOf pool22 8 #[] #[{ accessFlags := 2, nameIndex := 5, descriptorIndex := 6, attributes := #[] }, { accessFlags := 9, nameIndex := 49, descriptorIndex := 96, attributes := #[] }, { accessFlags := 1, nameIndex := 11, descriptorIndex := 99, attributes := #[] }] 49 2 #[] #[{ accessFlags := 26, nameIndex := 19, descriptorIndex := 20, attributes := #[] }, { accessFlags := 18, nameIndex := 11, descriptorIndex := 12, attributes := #[] }, { accessFlags := 18, nameIndex := 15, descriptorIndex := 16, attributes := #[] }])
  fields := #[{ name := "EMPTY", type := (.object "java/util/OptionalInt"), accessFlags := 26, slot := 0, constantValue := 0 }, { name := "isPresent", type := .boolean, accessFlags := 18, slot := 0, constantValue := 0 }, { name := "value", type := .int, accessFlags := 18, slot := 1, constantValue := 0 }]
  methods := #[k22m0, k22m1, k22m2]
  instanceTypes := #[.boolean, .int]
  staticTypes := #[(.object "java/util/OptionalInt")]
  resolved := Array.replicate 136 none
  statics := some 2 }

def pool23 : Array CpInfo := pool [(1, .class_ 2), (0, u "java/lang/Math"), (1, .class_ 6), (1, u "java/lang/Object"), (0, u "<init>"), (0, u "()V"), (89, .class_ 100), (1, u "java/lang/Math$RandomNumberGeneratorHolder"), (71, u "negativeZeroFloatBits"), (0, u "J"), (2, u "negativeZeroDoubleBits"), (21, u "max"), (46, u "$assertionsDisabled"), (0, u "Z"), (88, u "(II)I"), (2, u "twoToTheDoubleScaleDown"), (0, u "D"), (4, u "twoToTheDoubleScaleUp"), (9, u "E"), (3, u "PI"), (2, u "TAU"), (2, u "DEGREES_TO_RADIANS"), (0, u "RADIANS_TO_DEGREES")] 94

def k23m0 : Method := { name := "<init>", desc := "()V", sig := { parameters := [], returnType := none }, accessFlags := 2, code := none }
def k23c1 : Code := { maxStack := 2, maxLocals := 2, code := jdk_29_method_65_code, exceptionTable := #[], attributes := #[] }
def k23m1 : Method := { name := "max", desc := "(II)I", sig := { parameters := [.int, .int], returnType := some .int }, accessFlags := 9, code := some k23c1 }
/-- java/lang/Math -/
def k23 : Class := { plain "java/lang/Math" (some 0) with
  accessFlags := 49
  interfaces := #[]
  cf := some (fileOf pool23 1 #[.nestMembers #[98]] #[{ accessFlags := 2, nameIndex := 7, descriptorIndex := 8, attributes := #[] }, { accessFlags := 9, nameIndex := 198, descriptorIndex := 335, attributes := #[] }] 49 4 #[] #[{ accessFlags := 25, nameIndex := 354, descriptorIndex := 339, attributes := #[] }, { accessFlags := 25, nameIndex := 358, descriptorIndex := 339, attributes := #[] }, { accessFlags := 25, nameIndex := 361, descriptorIndex := 339, attributes := #[] }, { accessFlags := 26, nameIndex := 364, descriptorIndex := 339, attributes := #[] }, { accessFlags := 26, nameIndex := 365, descriptorIndex := 339, attributes := #[] }, { accessFlags := 26, nameIndex := 172, descriptorIndex := 173, attributes := #[] }, { accessFlags := 26, nameIndex := 176, descriptorIndex := 173, attributes := #[] }, { accessFlags := 8, nameIndex := 344, descriptorIndex := 339, attributes := #[] }, { accessFlags := 8, nameIndex := 338, descriptorIndex := 339, attributes := #[] }, { accessFlags := 4120, nameIndex := 245, descriptorIndex := 246, attributes := #[] }])
  fields := #[{ name := "E", type := .double, accessFlags := 25, slot := 0, constantValue := 0 }, { name := "PI", type := .double, accessFlags := 25, slot := 1, constantValue := 0 }, { name := "TAU", type := .double, accessFlags := 25, slot := 2, constantValue := 0 }, { name := "DEGREES_TO_RADIANS", type := .double, accessFlags := 26, slot := 3, constantValue := 0 }, { name := "RADIANS_TO_DEGREES", type := .double, accessFlags := 26, slot := 4, constantValue := 0 }, { name := "negativeZeroFloatBits", type := .long, accessFlags := 26, slot := 5, constantValue := 0 }, { name := "negativeZeroDoubleBits", type := .long, accessFlags := 26, slot := 6, constantValue := 0 }, { name := "twoToTheDoubleScaleUp", type := .double, accessFlags := 8, slot := 7, constantValue := 0 }, { name := "twoToTheDoubleScaleDown", type := .double, accessFlags := 8, slot := 8, constantValue := 0 }, { name := "$assertionsDisabled", type := .boolean, accessFlags := 4120, slot := 9, constantValue := 0 }]
  methods := #[k23m0, k23m1]
  instanceTypes := #[]
  staticTypes := #[.double, .double, .double, .double, .double, .long, .long, .double, .double, .boolean]
  resolved := Array.replicate 460 none
  statics := none }

def pool24 : Array CpInfo := pool [(2, .class_ 4), (1, u "java/lang/Object"), (0, u "<init>"), (0, u "()V"), (17, .class_ 26), (1, u "jdk/internal/util/Preconditions"), (28, .class_ 56), (0, u "jdk/internal/util/Preconditions$4"), (57, .class_ 115), (0, u "jdk/internal/util/Preconditions$1"), (7, u "SIOOBE_FORMATTER"), (0, u "Ljava/util/function/BiFunction;"), (0, .class_ 126), (0, u "jdk/internal/util/Preconditions$2"), (3, u "AIOOBE_FORMATTER"), (0, .class_ 132), (0, u "jdk/internal/util/Preconditions$3"), (3, u "IOOBE_FORMATTER")] 57

def k24m0 : Method := { name := "<init>", desc := "()V", sig := { parameters := [], returnType := none }, accessFlags := 1, code := none }
/-- jdk/internal/util/Preconditions -/
def k24 : Class := { plain "jdk/internal/util/Preconditions" (some 0) with
  accessFlags := 33
  interfaces := #[]
  cf := some (fileOf pool24 24 #[.nestMembers #[55, 131, 125, 114]] #[{ accessFlags := 1, nameIndex := 5, descriptorIndex := 6, attributes := #[] }] 33 2 #[] #[{ accessFlags := 25, nameIndex := 123, descriptorIndex := 124, attributes := #[] }, { accessFlags := 25, nameIndex := 130, descriptorIndex := 124, attributes := #[] }, { accessFlags := 25, nameIndex := 136, descriptorIndex := 124, attributes := #[] }])
  fields := #[{ name := "SIOOBE_FORMATTER", type := (.object "java/util/function/BiFunction"), accessFlags := 25, slot := 0, constantValue := 0 }, { name := "AIOOBE_FORMATTER", type := (.object "java/util/function/BiFunction"), accessFlags := 25, slot := 1, constantValue := 0 }, { name := "IOOBE_FORMATTER", type := (.object "java/util/function/BiFunction"), accessFlags := 25, slot := 2, constantValue := 0 }]
  methods := #[k24m0]
  instanceTypes := #[]
  staticTypes := #[(.object "java/util/function/BiFunction"), (.object "java/util/function/BiFunction"), (.object "java/util/function/BiFunction")]
  resolved := Array.replicate 194 none
  statics := some 3 }

def pool25 : Array CpInfo := pool [(9, u "<init>"), (6, .class_ 18), (1, u "java/lang/Object"), (0, u "()V"), (1, .class_ 23), (1, u "jdk/internal/util/ArraysSupport"), (0, u "LOG2_ARRAY_LONG_INDEX_SCALE"), (0, u "I"), (2, u "U"), (0, u "Ljdk/internal/misc/Unsafe;"), (8, u "BIG_ENDIAN"), (0, u "Z"), (8, u "LOG2_BYTE_BIT_SIZE"), (4, u "LOG2_ARRAY_INT_INDEX_SCALE"), (54, u "JLA"), (0, u "Ljdk/internal/access/JavaLangAccess;"), (11, u "LOG2_ARRAY_BOOLEAN_INDEX_SCALE"), (9, u "LOG2_ARRAY_BYTE_INDEX_SCALE"), (5, u "LOG2_ARRAY_CHAR_INDEX_SCALE"), (5, u "LOG2_ARRAY_SHORT_INDEX_SCALE"), (18, u "LOG2_ARRAY_FLOAT_INDEX_SCALE"), (24, u "LOG2_ARRAY_DOUBLE_INDEX_SCALE"), (89, u "T_BOOLEAN"), (2, u "T_CHAR"), (1, u "T_FLOAT"), (1, u "T_DOUBLE"), (1, u "T_BYTE"), (1, u "T_SHORT"), (1, u "T_INT"), (1, u "T_LONG"), (1, u "SOFT_MAX_ARRAY_LENGTH")] 83

def k25m0 : Method := { name := "<init>", desc := "()V", sig := { parameters := [], returnType := none }, accessFlags := 2, code := none }
/-- jdk/internal/util/ArraysSupport -/
def k25 : Class := { plain "jdk/internal/util/ArraysSupport" (some 0) with
  accessFlags := 33
  interfaces := #[]
  cf := some (fileOf pool25 21 #[] #[{ accessFlags := 2, nameIndex := 9, descriptorIndex := 19, attributes := #[] }] 33 16 #[] #[{ accessFlags := 24, nameIndex := 28, descriptorIndex := 29, attributes := #[] }, { accessFlags := 26, nameIndex := 38, descriptorIndex := 39, attributes := #[] }, { accessFlags := 25, nameIndex := 121, descriptorIndex := 25, attributes := #[] }, { accessFlags := 25, nameIndex := 131, descriptorIndex := 25, attributes := #[] }, { accessFlags := 25, nameIndex := 137, descriptorIndex := 25, attributes := #[] }, { accessFlags := 25, nameIndex := 143, descriptorIndex := 25, attributes := #[] }, { accessFlags := 25, nameIndex := 53, descriptorIndex := 25, attributes := #[] }, { accessFlags := 25, nameIndex := 24, descriptorIndex := 25, attributes := #[] }, { accessFlags := 25, nameIndex := 162, descriptorIndex := 25, attributes := #[] }, { accessFlags := 25, nameIndex := 187, descriptorIndex := 25, attributes := #[] }, { accessFlags := 26, nameIndex := 48, descriptorIndex := 25, attributes := #[] }, { accessFlags := 25, nameIndex := 277, descriptorIndex := 25, attributes := #[] }, { accessFlags := 25, nameIndex := 280, descriptorIndex := 25, attributes := #[] }, { accessFlags := 25, nameIndex := 282, descriptorIndex := 25, attributes := #[] }, { accessFlags := 25, nameIndex := 284, descriptorIndex := 25, attributes := #[] }, { accessFlags := 25, nameIndex := 286, descriptorIndex := 25, attributes := #[] }, { accessFlags := 25, nameIndex := 288, descriptorIndex := 25, attributes := #[] }, { accessFlags := 25, nameIndex := 290, descriptorIndex := 25, attributes := #[] }, { accessFlags := 25, nameIndex := 292, descriptorIndex := 25, attributes := #[] }, { accessFlags := 26, nameIndex := 108, descriptorIndex := 109, attributes := #[] }, { accessFlags := 25, nameIndex := 294, descriptorIndex := 25, attributes := #[] }])
  fields := #[{ name := "U", type := (.object "jdk/internal/misc/Unsafe"), accessFlags := 24, slot := 0, constantValue := 0 }, { name := "BIG_ENDIAN", type := .boolean, accessFlags := 26, slot := 1, constantValue := 0 }, { name := "LOG2_ARRAY_BOOLEAN_INDEX_SCALE", type := .int, accessFlags := 25, slot := 2, constantValue := 0 }, { name := "LOG2_ARRAY_BYTE_INDEX_SCALE", type := .int, accessFlags := 25, slot := 3, constantValue := 0 }, { name := "LOG2_ARRAY_CHAR_INDEX_SCALE", type := .int, accessFlags := 25, slot := 4, constantValue := 0 }, { name := "LOG2_ARRAY_SHORT_INDEX_SCALE", type := .int, accessFlags := 25, slot := 5, constantValue := 0 }, { name := "LOG2_ARRAY_INT_INDEX_SCALE", type := .int, accessFlags := 25, slot := 6, constantValue := 0 }, { name := "LOG2_ARRAY_LONG_INDEX_SCALE", type := .int, accessFlags := 25, slot := 7, constantValue := 0 }, { name := "LOG2_ARRAY_FLOAT_INDEX_SCALE", type := .int, accessFlags := 25, slot := 8, constantValue := 0 }, { name := "LOG2_ARRAY_DOUBLE_INDEX_SCALE", type := .int, accessFlags := 25, slot := 9, constantValue := 0 }, { name := "LOG2_BYTE_BIT_SIZE", type := .int, accessFlags := 26, slot := 10, constantValue := 0 }, { name := "T_BOOLEAN", type := .int, accessFlags := 25, slot := 11, constantValue := 0 }, { name := "T_CHAR", type := .int, accessFlags := 25, slot := 12, constantValue := 0 }, { name := "T_FLOAT", type := .int, accessFlags := 25, slot := 13, constantValue := 0 }, { name := "T_DOUBLE", type := .int, accessFlags := 25, slot := 14, constantValue := 0 }, { name := "T_BYTE", type := .int, accessFlags := 25, slot := 15, constantValue := 0 }, { name := "T_SHORT", type := .int, accessFlags := 25, slot := 16, constantValue := 0 }, { name := "T_INT", type := .int, accessFlags := 25, slot := 17, constantValue := 0 }, { name := "T_LONG", type := .int, accessFlags := 25, slot := 18, constantValue := 0 }, { name := "JLA", type := (.object "jdk/internal/access/JavaLangAccess"), accessFlags := 26, slot := 19, constantValue := 0 }, { name := "SOFT_MAX_ARRAY_LENGTH", type := .int, accessFlags := 25, slot := 20, constantValue := 0 }]
  methods := #[k25m0]
  instanceTypes := #[]
  staticTypes := #[(.object "jdk/internal/misc/Unsafe"), .boolean, .int, .int, .int, .int, .int, .int, .int, .int, .int, .int, .int, .int, .int, .int, .int, .int, .int, (.object "jdk/internal/access/JavaLangAccess"), .int]
  resolved := Array.replicate 378 none
  statics := none }

/-- the primitive byte -/
def k26 : Class := { plain "byte" none with kind := .primitive 'B', accessFlags := 0x411 }
/-- [B -/
def k27 : Class := { plain "[B" (some 0) with kind := .array 26 .byte, interfaces := #[17, 2], accessFlags := 1041 }

/-- the primitive char -/
def k28 : Class := { plain "char" none with kind := .primitive 'C', accessFlags := 0x411 }
/-- [C -/
def k29 : Class := { plain "[C" (some 0) with kind := .array 28 .char, interfaces := #[17, 2], accessFlags := 1041 }

/-- the primitive int -/
def k30 : Class := { plain "int" none with kind := .primitive 'I', accessFlags := 0x411 }
/-- [I -/
def k31 : Class := { plain "[I" (some 0) with kind := .array 30 .int, interfaces := #[17, 2], accessFlags := 1041 }

/-- [Ljava/lang/Object; -/
def k32 : Class := { plain "[Ljava/lang/Object;" (some 0) with kind := .array 0 (.object "java/lang/Object"), interfaces := #[17, 2], accessFlags := 1041 }

def classes0 : Array Class := #[k0, k1, k2, k3, k4, k5, k6, k7, k8, k9, k10, k11, k12, k13, k14, k15, k16, k17, k18, k19, k20, k21, k22, k23, k24, k25, k26, k27, k28, k29, k30, k31, k32]
/-- the class that the rule has made for the site at 5 of com/example/indexwerk/indexwerk/engine/TargetLimits$Origin.of -/
def k33 : Class := Jvm.LamKit.madeRec { classes := classes0 } "com/example/indexwerk/indexwerk/engine/TargetLimits$Origin" (Jvm.Lambda.Shape.mk "java/util/function/Function" "apply" (Jvm.ClassFile.MethodDescriptor.mk ([(Jvm.ClassFile.FieldType.object "java/lang/Object")] : List Jvm.ClassFile.FieldType) (Option.some (Jvm.ClassFile.FieldType.object "java/lang/Object"))) ([] : List Jvm.ClassFile.FieldType) (6 : Nat) "com/example/indexwerk/indexwerk/engine/TargetLimits$Origin" "lambda$of$0" (Jvm.ClassFile.MethodDescriptor.mk ([(Jvm.ClassFile.FieldType.object "java/util/List")] : List Jvm.ClassFile.FieldType) (Option.some (Jvm.ClassFile.FieldType.object "java/util/OptionalInt"))) false (Jvm.ClassFile.MethodDescriptor.mk ([(Jvm.ClassFile.FieldType.object "java/util/List")] : List Jvm.ClassFile.FieldType) (Option.some (Jvm.ClassFile.FieldType.object "java/util/OptionalInt")))) 33

def heap : Heap := #[{ cls := 7, slots := #[.long 0, .int 1, .null, .int 0, .null, .int 0, .int 0], vm := .statics 7 },
  { cls := 18, slots := #[.long 0, .int 0, .ref 5, .ref 6], vm := .statics 18 },
  { cls := 22, slots := #[.ref 7], vm := .statics 22 },
  { cls := 24, slots := #[.null, .null, .null], vm := .statics 24 },
  { cls := 33, slots := #[], vm := .none },
  { cls := 32, slots := #[], vm := .none },
  { cls := 32, slots := #[], vm := .none },
  { cls := 22, slots := #[.int 0, .int 0], vm := .none }]
def classes : Array Class := #[k0, k1, k2, k3, k4, k5, k6, k7, k8, k9, k10, k11, k12, k13, k14, k15, k16, k17, k18, k19, k20, k21, k22, k23, k24, k25, k26, k27, k28, k29, k30, k31, k32, k33]
def interned : List (Array UInt16 × Addr) := []
def slotsUsed : Nat := 17
def theMethod : MethodId := ⟨1, 1⟩
def args0 : Array Value := #[.int 5, .int 7, .int 3, .int 9]
def aboutOver (below : List Frame) : State where
  vm := { classes := classes, interned := interned.toArray }
  heap := heap
  slotsUsed := slotsUsed
  threads := #[{ frames := .invoking theMethod args0 :: below }]
def below0 : List Frame := [.native { method := ⟨0, 0⟩, args := #[] }]
def about1 : State := aboutOver below0
def p0 : Program := .bare "" "" ""
def e0 : Env := launch0.env 0 0 0
theorem w_frames : about1.frames = Frame.invoking theMethod args0 :: below0 := rfl
set_option maxRecDepth 65536 in
theorem w_args : argsFit about1.vm theMethod args0 = true := by decide +kernel
set_option maxRecDepth 65536 in
theorem w_heap : heapFits about1 = true := by decide +kernel
set_option maxRecDepth 65536 in
theorem w_runnable : about1.curStatus? = some .runnable := by decide +kernel
set_option maxRecDepth 65536 in
theorem w_alone : about1.alone = true := by decide +kernel
set_option maxRecDepth 65536 in
theorem w_named : about1.methodNamed? x = some theMethod := by decide +kernel
set_option maxRecDepth 65536 in
theorem w_hears : about1.hears theMethod below0 = true := by decide +kernel
set_option maxRecDepth 65536 in
theorem w_ripe : about1.ripe theMethod args0 below0 = true := by decide +kernel
theorem w_running : about1.status = .running := rfl
set_option maxRecDepth 65536 in
theorem w_room : about1.hasRoom e0.platform room_1 = true :=
  launch0.hasRoom_least _ room_1 (by decide +kernel) (by decide +kernel) (by decide +kernel) (by decide +kernel) (by decide +kernel) (by decide +kernel)
theorem allAtoms_all (ts : List Jvm.Cond) (a : Array Jvm.Value) (st : Jvm.State) : (allAtoms ts).before a st = ts.all (fun c => c.before a st) := by
  induction ts with
  | nil => rfl
  | cons c t ih =>
    show (Jvm.Cond.and c (allAtoms t)).before a st = _
    rw [Jvm.Cond.before_and, ih, List.all_cons]
def words1 : List Jvm.Cond := Jvm.Cond.code x code maxLocals ret :: tables_1
/-- a 'code' word, met by the world's own term for the bytes: nothing is compared byte by byte -/
theorem code_word {y : MethodName} {bytes : ByteArray} {mx : Nat} {rt : Option FieldType} {a : Array Value} {s : State} {m : MethodId} {meth : Method} {c : Code} (h1 : s.methodNamed? y = some m) (h2 : s.vm.method? m = some meth) (h3 : meth.code = some c) (h4 : c.code = bytes)
    (h5 : (c.maxLocals == mx && c.exceptionTable.isEmpty && decide (c.maxStack ≤ mostOperands) && decide (meth.sig.returnType = rt) && !meth.locks && decide (parseMethodDescriptor y.desc = some meth.sig)) = true) : (Jvm.Cond.code y bytes mx rt).before a s = true := by
  simp only [Bool.and_eq_true, beq_iff_eq, Bool.not_eq_true', decide_eq_true_eq] at h5
  obtain ⟨⟨⟨⟨⟨g1, g2⟩, g3⟩, g4⟩, g5⟩, g6⟩ := h5
  simp [Cond.before, Cond.holds, Cond.value, h1, h2, h3, h4, g1, g2, g3, g4, g5, g6]
def isCode : Jvm.Cond → Bool
  | .code _ _ _ _ => true
  | _ => false
theorem all_split {L : List Jvm.Cond} {P : Jvm.Cond → Bool} (h1 : L.all (fun c => isCode c || P c) = true) (h2 : ∀ c ∈ L.filter isCode, P c = true) : L.all P = true := by
  refine List.all_eq_true.mpr fun c hc => ?_
  have h := List.all_eq_true.mp h1 c hc
  rcases Bool.eq_false_or_eq_true (isCode c) with hi | hi
  · exact h2 c (List.mem_filter.mpr ⟨hc, hi⟩)
  · simpa [hi] using h
set_option maxRecDepth 65536 in
theorem w_c0 : (Jvm.Cond.code x code maxLocals ret).before args0 about1 = true := code_word (m := ⟨1, 1⟩) (meth := k1m1) (c := k1c1) (by decide +kernel) rfl rfl rfl (by decide +kernel)
set_option maxRecDepth 65536 in
theorem w_c1 : (Jvm.Cond.code ({ cls := "com/example/indexwerk/indexwerk/engine/OriginOfPinLaw", name := "text", desc := "(ICCCC)Ljava/lang/String;" } : Jvm.MethodName) method_3_code (5 : Nat) (Option.some (Jvm.ClassFile.FieldType.object "java/lang/String"))).before args0 about1 = true := code_word (m := ⟨1, 2⟩) (meth := k1m2) (c := k1c2) (by decide +kernel) rfl rfl rfl (by decide +kernel)
set_option maxRecDepth 65536 in
theorem w_c2 : (Jvm.Cond.code ({ cls := "java/lang/String", name := "<init>", desc := "([C)V" } : Jvm.MethodName) jdk_42_method_3_code (2 : Nat) (Option.none : Option Jvm.ClassFile.FieldType)).before args0 about1 = true := code_word (m := ⟨7, 1⟩) (meth := k7m1) (c := k7c1) (by decide +kernel) rfl rfl rfl (by decide +kernel)
set_option maxRecDepth 65536 in
theorem w_c3 : (Jvm.Cond.code ({ cls := "java/lang/String", name := "<init>", desc := "([CIILjava/lang/Void;)V" } : Jvm.MethodName) jdk_42_method_149_code (6 : Nat) (Option.none : Option Jvm.ClassFile.FieldType)).before args0 about1 = true := code_word (m := ⟨7, 4⟩) (meth := k7m4) (c := k7c4) (by decide +kernel) rfl rfl rfl (by decide +kernel)
set_option maxRecDepth 65536 in
theorem w_c4 : (Jvm.Cond.code ({ cls := "java/lang/Object", name := "<init>", desc := "()V" } : Jvm.MethodName) object_method_1_code (1 : Nat) (Option.none : Option Jvm.ClassFile.FieldType)).before args0 about1 = true := code_word (m := ⟨0, 0⟩) (meth := k0m0) (c := k0c0) (by decide +kernel) rfl rfl rfl (by decide +kernel)
set_option maxRecDepth 65536 in
theorem w_c5 : (Jvm.Cond.code ({ cls := "java/lang/StringUTF16", name := "compress", desc := "([CII)[B" } : Jvm.MethodName) jdk_52_method_16_code (6 : Nat) (Option.some (Jvm.ClassFile.FieldType.array Jvm.ClassFile.FieldType.byte))).before args0 about1 = true := code_word (m := ⟨8, 2⟩) (meth := k8m2) (c := k8c2) (by decide +kernel) rfl rfl rfl (by decide +kernel)
set_option maxRecDepth 65536 in
theorem w_c6 : (Jvm.Cond.code ({ cls := "java/lang/StringUTF16", name := "compress", desc := "([CI[BII)I" } : Jvm.MethodName) jdk_52_method_21_code (7 : Nat) (Option.some Jvm.ClassFile.FieldType.int)).before args0 about1 = true := code_word (m := ⟨8, 3⟩) (meth := k8m3) (c := k8c3) (by decide +kernel) rfl rfl rfl (by decide +kernel)
set_option maxRecDepth 65536 in
theorem w_c7 : (Jvm.Cond.code ({ cls := "java/lang/StringUTF16", name := "coderFromArrayLen", desc := "([BI)B" } : Jvm.MethodName) jdk_52_method_15_code (2 : Nat) (Option.some Jvm.ClassFile.FieldType.byte)).before args0 about1 = true := code_word (m := ⟨8, 1⟩) (meth := k8m1) (c := k8c1) (by decide +kernel) rfl rfl rfl (by decide +kernel)
set_option maxRecDepth 65536 in
theorem w_c8 : (Jvm.Cond.code ({ cls := "java/lang/String", name := "valueOf", desc := "(C)Ljava/lang/String;" } : Jvm.MethodName) jdk_42_method_139_code (1 : Nat) (Option.some (Jvm.ClassFile.FieldType.object "java/lang/String"))).before args0 about1 = true := code_word (m := ⟨7, 3⟩) (meth := k7m3) (c := k7c3) (by decide +kernel) rfl rfl rfl (by decide +kernel)
set_option maxRecDepth 65536 in
theorem w_c9 : (Jvm.Cond.code ({ cls := "java/lang/StringLatin1", name := "canEncode", desc := "(C)Z" } : Jvm.MethodName) jdk_43_method_3_code (1 : Nat) (Option.some Jvm.ClassFile.FieldType.boolean)).before args0 about1 = true := code_word (m := ⟨9, 1⟩) (meth := k9m1) (c := k9c1) (by decide +kernel) rfl rfl rfl (by decide +kernel)
set_option maxRecDepth 65536 in
theorem w_c10 : (Jvm.Cond.code ({ cls := "java/lang/StringLatin1", name := "toBytes", desc := "(C)[B" } : Jvm.MethodName) jdk_43_method_46_code (1 : Nat) (Option.some (Jvm.ClassFile.FieldType.array Jvm.ClassFile.FieldType.byte))).before args0 about1 = true := code_word (m := ⟨9, 3⟩) (meth := k9m3) (c := k9c3) (by decide +kernel) rfl rfl rfl (by decide +kernel)
set_option maxRecDepth 65536 in
theorem w_c11 : (Jvm.Cond.code ({ cls := "java/lang/String", name := "<init>", desc := "([BB)V" } : Jvm.MethodName) jdk_42_method_151_code (3 : Nat) (Option.none : Option Jvm.ClassFile.FieldType)).before args0 about1 = true := code_word (m := ⟨7, 5⟩) (meth := k7m5) (c := k7c5) (by decide +kernel) rfl rfl rfl (by decide +kernel)
set_option maxRecDepth 65536 in
theorem w_c12 : (Jvm.Cond.code ({ cls := "java/util/ArrayList", name := "<init>", desc := "()V" } : Jvm.MethodName) jdk_38_method_2_code (1 : Nat) (Option.none : Option Jvm.ClassFile.FieldType)).before args0 about1 = true := code_word (m := ⟨18, 0⟩) (meth := k18m0) (c := k18c0) (by decide +kernel) rfl rfl rfl (by decide +kernel)
set_option maxRecDepth 65536 in
theorem w_c13 : (Jvm.Cond.code ({ cls := "java/util/AbstractList", name := "<init>", desc := "()V" } : Jvm.MethodName) jdk_39_method_1_code (1 : Nat) (Option.none : Option Jvm.ClassFile.FieldType)).before args0 about1 = true := code_word (m := ⟨15, 0⟩) (meth := k15m0) (c := k15c0) (by decide +kernel) rfl rfl rfl (by decide +kernel)
set_option maxRecDepth 65536 in
theorem w_c14 : (Jvm.Cond.code ({ cls := "java/util/AbstractCollection", name := "<init>", desc := "()V" } : Jvm.MethodName) jdk_22_method_1_code (1 : Nat) (Option.none : Option Jvm.ClassFile.FieldType)).before args0 about1 = true := code_word (m := ⟨12, 0⟩) (meth := k12m0) (c := k12c0) (by decide +kernel) rfl rfl rfl (by decide +kernel)
set_option maxRecDepth 65536 in
theorem w_c15 : (Jvm.Cond.code ({ cls := "com/example/indexwerk/indexwerk/engine/TargetLimits$Origin", name := "of", desc := "(Ljava/lang/String;)Lcom/example/indexwerk/indexwerk/engine/TargetLimits$Origin;" } : Jvm.MethodName) prog_22_method_2_code (1 : Nat) (Option.some (Jvm.ClassFile.FieldType.object "com/example/indexwerk/indexwerk/engine/TargetLimits$Origin"))).before args0 about1 = true := code_word (m := ⟨20, 1⟩) (meth := k20m1) (c := k20c1) (by decide +kernel) rfl rfl rfl (by decide +kernel)
set_option maxRecDepth 65536 in
theorem w_c16 : (Jvm.Cond.code ({ cls := "com/example/indexwerk/indexwerk/engine/TargetLimits$Origin", name := "<init>", desc := "(Ljava/lang/String;Ljava/util/function/Function;)V" } : Jvm.MethodName) prog_22_method_1_code (3 : Nat) (Option.none : Option Jvm.ClassFile.FieldType)).before args0 about1 = true := code_word (m := ⟨20, 0⟩) (meth := k20m0) (c := k20c0) (by decide +kernel) rfl rfl rfl (by decide +kernel)
set_option maxRecDepth 65536 in
theorem w_c17 : (Jvm.Cond.code ({ cls := "java/lang/Record", name := "<init>", desc := "()V" } : Jvm.MethodName) jdk_30_method_1_code (1 : Nat) (Option.none : Option Jvm.ClassFile.FieldType)).before args0 about1 = true := code_word (m := ⟨19, 0⟩) (meth := k19m0) (c := k19c0) (by decide +kernel) rfl rfl rfl (by decide +kernel)
set_option maxRecDepth 65536 in
theorem w_c18 : (Jvm.Cond.code ({ cls := "com/example/indexwerk/indexwerk/engine/TargetLimits$Origin", name := "line", desc := "()Ljava/util/function/Function;" } : Jvm.MethodName) prog_22_method_7_code (1 : Nat) (Option.some (Jvm.ClassFile.FieldType.object "java/util/function/Function"))).before args0 about1 = true := code_word (m := ⟨20, 3⟩) (meth := k20m3) (c := k20c3) (by decide +kernel) rfl rfl rfl (by decide +kernel)
set_option maxRecDepth 65536 in
theorem w_c19 : (Jvm.Cond.code ({ cls := "com/example/indexwerk/indexwerk/engine/TargetLimits$Origin", name := "lambda$of$0", desc := "(Ljava/util/List;)Ljava/util/OptionalInt;" } : Jvm.MethodName) prog_22_method_8_code (1 : Nat) (Option.some (Jvm.ClassFile.FieldType.object "java/util/OptionalInt"))).before args0 about1 = true := code_word (m := ⟨20, 4⟩) (meth := k20m4) (c := k20c4) (by decide +kernel) rfl rfl rfl (by decide +kernel)
set_option maxRecDepth 65536 in
theorem w_c20 : (Jvm.Cond.code ({ cls := "java/util/OptionalInt", name := "empty", desc := "()Ljava/util/OptionalInt;" } : Jvm.MethodName) jdk_2649_method_2_code (0 : Nat) (Option.some (Jvm.ClassFile.FieldType.object "java/util/OptionalInt"))).before args0 about1 = true := code_word (m := ⟨22, 1⟩) (meth := k22m1) (c := k22c1) (by decide +kernel) rfl rfl rfl (by decide +kernel)
set_option maxRecDepth 65536 in
theorem w_c21 : (Jvm.Cond.code ({ cls := "com/example/indexwerk/indexwerk/engine/TargetLimits$Origin", name := "file", desc := "()Ljava/lang/String;" } : Jvm.MethodName) prog_22_method_6_code (1 : Nat) (Option.some (Jvm.ClassFile.FieldType.object "java/lang/String"))).before args0 about1 = true := code_word (m := ⟨20, 2⟩) (meth := k20m2) (c := k20c2) (by decide +kernel) rfl rfl rfl (by decide +kernel)
set_option maxRecDepth 65536 in
theorem w_c22 : (Jvm.Cond.code ({ cls := "java/lang/String", name := "equals", desc := "(Ljava/lang/Object;)Z" } : Jvm.MethodName) jdk_42_method_66_code (3 : Nat) (Option.some Jvm.ClassFile.FieldType.boolean)).before args0 about1 = true := code_word (m := ⟨7, 2⟩) (meth := k7m2) (c := k7c2) (by decide +kernel) rfl rfl rfl (by decide +kernel)
set_option maxRecDepth 65536 in
theorem w_c23 : (Jvm.Cond.code ({ cls := "java/lang/StringLatin1", name := "equals", desc := "([B[B)Z" } : Jvm.MethodName) jdk_43_method_13_code (3 : Nat) (Option.some Jvm.ClassFile.FieldType.boolean)).before args0 about1 = true := code_word (m := ⟨9, 2⟩) (meth := k9m2) (c := k9c2) (by decide +kernel) rfl rfl rfl (by decide +kernel)
set_option maxRecDepth 65536 in
theorem w_c24 : (Jvm.Cond.code ({ cls := "java/util/OptionalInt", name := "isPresent", desc := "()Z" } : Jvm.MethodName) jdk_2649_method_6_code (1 : Nat) (Option.some Jvm.ClassFile.FieldType.boolean)).before args0 about1 = true := code_word (m := ⟨22, 2⟩) (meth := k22m2) (c := k22c2) (by decide +kernel) rfl rfl rfl (by decide +kernel)
set_option maxRecDepth 65536 in
theorem w_c25 : (Jvm.Cond.code ({ cls := "java/util/ArrayList", name := "add", desc := "(Ljava/lang/Object;)Z" } : Jvm.MethodName) jdk_38_method_25_code (2 : Nat) (Option.some Jvm.ClassFile.FieldType.boolean)).before args0 about1 = true := code_word (m := ⟨18, 4⟩) (meth := k18m4) (c := k18c4) (by decide +kernel) rfl rfl rfl (by decide +kernel)
set_option maxRecDepth 65536 in
theorem w_c26 : (Jvm.Cond.code ({ cls := "java/util/ArrayList", name := "add", desc := "(Ljava/lang/Object;[Ljava/lang/Object;I)V" } : Jvm.MethodName) jdk_38_method_24_code (4 : Nat) (Option.none : Option Jvm.ClassFile.FieldType)).before args0 about1 = true := code_word (m := ⟨18, 3⟩) (meth := k18m3) (c := k18c3) (by decide +kernel) rfl rfl rfl (by decide +kernel)
set_option maxRecDepth 65536 in
theorem w_c27 : (Jvm.Cond.code ({ cls := "java/util/ArrayList", name := "grow", desc := "()[Ljava/lang/Object;" } : Jvm.MethodName) jdk_38_method_7_code (1 : Nat) (Option.some (Jvm.ClassFile.FieldType.array (Jvm.ClassFile.FieldType.object "java/lang/Object")))).before args0 about1 = true := code_word (m := ⟨18, 2⟩) (meth := k18m2) (c := k18c2) (by decide +kernel) rfl rfl rfl (by decide +kernel)
set_option maxRecDepth 65536 in
theorem w_c28 : (Jvm.Cond.code ({ cls := "java/util/ArrayList", name := "grow", desc := "(I)[Ljava/lang/Object;" } : Jvm.MethodName) jdk_38_method_6_code (4 : Nat) (Option.some (Jvm.ClassFile.FieldType.array (Jvm.ClassFile.FieldType.object "java/lang/Object")))).before args0 about1 = true := code_word (m := ⟨18, 1⟩) (meth := k18m1) (c := k18c1) (by decide +kernel) rfl rfl rfl (by decide +kernel)
set_option maxRecDepth 65536 in
theorem w_c29 : (Jvm.Cond.code ({ cls := "java/lang/Math", name := "max", desc := "(II)I" } : Jvm.MethodName) jdk_29_method_65_code (2 : Nat) (Option.some Jvm.ClassFile.FieldType.int)).before args0 about1 = true := code_word (m := ⟨23, 1⟩) (meth := k23m1) (c := k23c1) (by decide +kernel) rfl rfl rfl (by decide +kernel)
def codes1 : List Jvm.Cond := [Jvm.Cond.code x code maxLocals ret, Jvm.Cond.code ({ cls := "com/example/indexwerk/indexwerk/engine/OriginOfPinLaw", name := "text", desc := "(ICCCC)Ljava/lang/String;" } : Jvm.MethodName) method_3_code (5 : Nat) (Option.some (Jvm.ClassFile.FieldType.object "java/lang/String")), Jvm.Cond.code ({ cls := "java/lang/String", name := "<init>", desc := "([C)V" } : Jvm.MethodName) jdk_42_method_3_code (2 : Nat) (Option.none : Option Jvm.ClassFile.FieldType), Jvm.Cond.code ({ cls := "java/lang/String", name := "<init>", desc := "([CIILjava/lang/Void;)V" } : Jvm.MethodName) jdk_42_method_149_code (6 : Nat) (Option.none : Option Jvm.ClassFile.FieldType), Jvm.Cond.code ({ cls := "java/lang/Object", name := "<init>", desc := "()V" } : Jvm.MethodName) object_method_1_code (1 : Nat) (Option.none : Option Jvm.ClassFile.FieldType), Jvm.Cond.code ({ cls := "java/lang/StringUTF16", name := "compress", desc := "([CII)[B" } : Jvm.MethodName) jdk_52_method_16_code (6 : Nat) (Option.some (Jvm.ClassFile.FieldType.array Jvm.ClassFile.FieldType.byte)), Jvm.Cond.code ({ cls := "java/lang/StringUTF16", name := "compress", desc := "([CI[BII)I" } : Jvm.MethodName) jdk_52_method_21_code (7 : Nat) (Option.some Jvm.ClassFile.FieldType.int), Jvm.Cond.code ({ cls := "java/lang/StringUTF16", name := "coderFromArrayLen", desc := "([BI)B" } : Jvm.MethodName) jdk_52_method_15_code (2 : Nat) (Option.some Jvm.ClassFile.FieldType.byte), Jvm.Cond.code ({ cls := "java/lang/String", name := "valueOf", desc := "(C)Ljava/lang/String;" } : Jvm.MethodName) jdk_42_method_139_code (1 : Nat) (Option.some (Jvm.ClassFile.FieldType.object "java/lang/String")), Jvm.Cond.code ({ cls := "java/lang/StringLatin1", name := "canEncode", desc := "(C)Z" } : Jvm.MethodName) jdk_43_method_3_code (1 : Nat) (Option.some Jvm.ClassFile.FieldType.boolean), Jvm.Cond.code ({ cls := "java/lang/StringLatin1", name := "toBytes", desc := "(C)[B" } : Jvm.MethodName) jdk_43_method_46_code (1 : Nat) (Option.some (Jvm.ClassFile.FieldType.array Jvm.ClassFile.FieldType.byte)), Jvm.Cond.code ({ cls := "java/lang/String", name := "<init>", desc := "([BB)V" } : Jvm.MethodName) jdk_42_method_151_code (3 : Nat) (Option.none : Option Jvm.ClassFile.FieldType), Jvm.Cond.code ({ cls := "java/util/ArrayList", name := "<init>", desc := "()V" } : Jvm.MethodName) jdk_38_method_2_code (1 : Nat) (Option.none : Option Jvm.ClassFile.FieldType), Jvm.Cond.code ({ cls := "java/util/AbstractList", name := "<init>", desc := "()V" } : Jvm.MethodName) jdk_39_method_1_code (1 : Nat) (Option.none : Option Jvm.ClassFile.FieldType), Jvm.Cond.code ({ cls := "java/util/AbstractCollection", name := "<init>", desc := "()V" } : Jvm.MethodName) jdk_22_method_1_code (1 : Nat) (Option.none : Option Jvm.ClassFile.FieldType), Jvm.Cond.code ({ cls := "com/example/indexwerk/indexwerk/engine/TargetLimits$Origin", name := "of", desc := "(Ljava/lang/String;)Lcom/example/indexwerk/indexwerk/engine/TargetLimits$Origin;" } : Jvm.MethodName) prog_22_method_2_code (1 : Nat) (Option.some (Jvm.ClassFile.FieldType.object "com/example/indexwerk/indexwerk/engine/TargetLimits$Origin")), Jvm.Cond.code ({ cls := "com/example/indexwerk/indexwerk/engine/TargetLimits$Origin", name := "<init>", desc := "(Ljava/lang/String;Ljava/util/function/Function;)V" } : Jvm.MethodName) prog_22_method_1_code (3 : Nat) (Option.none : Option Jvm.ClassFile.FieldType), Jvm.Cond.code ({ cls := "java/lang/Record", name := "<init>", desc := "()V" } : Jvm.MethodName) jdk_30_method_1_code (1 : Nat) (Option.none : Option Jvm.ClassFile.FieldType), Jvm.Cond.code ({ cls := "com/example/indexwerk/indexwerk/engine/TargetLimits$Origin", name := "line", desc := "()Ljava/util/function/Function;" } : Jvm.MethodName) prog_22_method_7_code (1 : Nat) (Option.some (Jvm.ClassFile.FieldType.object "java/util/function/Function")), Jvm.Cond.code ({ cls := "com/example/indexwerk/indexwerk/engine/TargetLimits$Origin", name := "lambda$of$0", desc := "(Ljava/util/List;)Ljava/util/OptionalInt;" } : Jvm.MethodName) prog_22_method_8_code (1 : Nat) (Option.some (Jvm.ClassFile.FieldType.object "java/util/OptionalInt")), Jvm.Cond.code ({ cls := "java/util/OptionalInt", name := "empty", desc := "()Ljava/util/OptionalInt;" } : Jvm.MethodName) jdk_2649_method_2_code (0 : Nat) (Option.some (Jvm.ClassFile.FieldType.object "java/util/OptionalInt")), Jvm.Cond.code ({ cls := "com/example/indexwerk/indexwerk/engine/TargetLimits$Origin", name := "file", desc := "()Ljava/lang/String;" } : Jvm.MethodName) prog_22_method_6_code (1 : Nat) (Option.some (Jvm.ClassFile.FieldType.object "java/lang/String")), Jvm.Cond.code ({ cls := "java/lang/String", name := "equals", desc := "(Ljava/lang/Object;)Z" } : Jvm.MethodName) jdk_42_method_66_code (3 : Nat) (Option.some Jvm.ClassFile.FieldType.boolean), Jvm.Cond.code ({ cls := "java/lang/StringLatin1", name := "equals", desc := "([B[B)Z" } : Jvm.MethodName) jdk_43_method_13_code (3 : Nat) (Option.some Jvm.ClassFile.FieldType.boolean), Jvm.Cond.code ({ cls := "java/util/OptionalInt", name := "isPresent", desc := "()Z" } : Jvm.MethodName) jdk_2649_method_6_code (1 : Nat) (Option.some Jvm.ClassFile.FieldType.boolean), Jvm.Cond.code ({ cls := "java/util/ArrayList", name := "add", desc := "(Ljava/lang/Object;)Z" } : Jvm.MethodName) jdk_38_method_25_code (2 : Nat) (Option.some Jvm.ClassFile.FieldType.boolean), Jvm.Cond.code ({ cls := "java/util/ArrayList", name := "add", desc := "(Ljava/lang/Object;[Ljava/lang/Object;I)V" } : Jvm.MethodName) jdk_38_method_24_code (4 : Nat) (Option.none : Option Jvm.ClassFile.FieldType), Jvm.Cond.code ({ cls := "java/util/ArrayList", name := "grow", desc := "()[Ljava/lang/Object;" } : Jvm.MethodName) jdk_38_method_7_code (1 : Nat) (Option.some (Jvm.ClassFile.FieldType.array (Jvm.ClassFile.FieldType.object "java/lang/Object"))), Jvm.Cond.code ({ cls := "java/util/ArrayList", name := "grow", desc := "(I)[Ljava/lang/Object;" } : Jvm.MethodName) jdk_38_method_6_code (4 : Nat) (Option.some (Jvm.ClassFile.FieldType.array (Jvm.ClassFile.FieldType.object "java/lang/Object"))), Jvm.Cond.code ({ cls := "java/lang/Math", name := "max", desc := "(II)I" } : Jvm.MethodName) jdk_29_method_65_code (2 : Nat) (Option.some Jvm.ClassFile.FieldType.int)]
set_option maxRecDepth 65536 in
theorem codes_eq : words1.filter isCode = codes1 := rfl
theorem w_codes : ∀ c ∈ words1.filter isCode, c.before args0 about1 = true := by
  rw [codes_eq]
  intro c hc
  simp only [codes1, List.mem_cons, List.not_mem_nil, or_false] at hc
  rcases hc with rfl | rfl | rfl | rfl | rfl | rfl | rfl | rfl | rfl | rfl | rfl | rfl | rfl | rfl | rfl | rfl | rfl | rfl | rfl | rfl | rfl | rfl | rfl | rfl | rfl | rfl | rfl | rfl | rfl | rfl
  · exact w_c0
  · exact w_c1
  · exact w_c2
  · exact w_c3
  · exact w_c4
  · exact w_c5
  · exact w_c6
  · exact w_c7
  · exact w_c8
  · exact w_c9
  · exact w_c10
  · exact w_c11
  · exact w_c12
  · exact w_c13
  · exact w_c14
  · exact w_c15
  · exact w_c16
  · exact w_c17
  · exact w_c18
  · exact w_c19
  · exact w_c20
  · exact w_c21
  · exact w_c22
  · exact w_c23
  · exact w_c24
  · exact w_c25
  · exact w_c26
  · exact w_c27
  · exact w_c28
  · exact w_c29
set_option maxRecDepth 65536 in
theorem w_t1 : (words1.take 24).all (fun c => isCode c || c.before args0 about1) = true := by decide +kernel
set_option maxRecDepth 65536 in
theorem w_t2 : ((words1.drop 24).take 24).all (fun c => isCode c || c.before args0 about1) = true := by decide +kernel
set_option maxRecDepth 65536 in
theorem w_t3 : (((words1.drop 24).drop 24).take 24).all (fun c => isCode c || c.before args0 about1) = true := by decide +kernel
set_option maxRecDepth 65536 in
theorem w_t4 : ((((words1.drop 24).drop 24).drop 24).take 24).all (fun c => isCode c || c.before args0 about1) = true := by decide +kernel
set_option maxRecDepth 65536 in
theorem w_t5 : (((((words1.drop 24).drop 24).drop 24).drop 24).take 24).all (fun c => isCode c || c.before args0 about1) = true := by decide +kernel
set_option maxRecDepth 65536 in
theorem w_t6 : ((((((words1.drop 24).drop 24).drop 24).drop 24).drop 24).take 24).all (fun c => isCode c || c.before args0 about1) = true := by decide +kernel
set_option maxRecDepth 65536 in
theorem w_t7 : (((((((words1.drop 24).drop 24).drop 24).drop 24).drop 24).drop 24).take 24).all (fun c => isCode c || c.before args0 about1) = true := by decide +kernel
set_option maxRecDepth 65536 in
theorem w_t8 : (((((((words1.drop 24).drop 24).drop 24).drop 24).drop 24).drop 24).drop 24).all (fun c => isCode c || c.before args0 about1) = true := by decide +kernel
theorem w_tables : (allAtoms (Jvm.Cond.code x code maxLocals ret :: tables_1)).before args0 about1 = true := by
  rw [allAtoms_all]
  show words1.all (fun c => c.before args0 about1) = true
  refine all_split ?_ w_codes
  rw [← List.take_append_drop 24 words1, List.all_append, w_t1, ← List.take_append_drop 24 (words1.drop 24), List.all_append, w_t2, ← List.take_append_drop 24 ((words1.drop 24).drop 24), List.all_append, w_t3, ← List.take_append_drop 24 (((words1.drop 24).drop 24).drop 24), List.all_append, w_t4, ← List.take_append_drop 24 ((((words1.drop 24).drop 24).drop 24).drop 24), List.all_append, w_t5, ← List.take_append_drop 24 (((((words1.drop 24).drop 24).drop 24).drop 24).drop 24), List.all_append, w_t6, ← List.take_append_drop 24 ((((((words1.drop 24).drop 24).drop 24).drop 24).drop 24).drop 24), List.all_append, w_t7, w_t8]
  rfl
set_option maxRecDepth 65536 in
theorem w_rest : rest_1_c.before args0 about1 = true := by decide +kernel
set_option maxRecDepth 65536 in
theorem w_case : (Jvm.Cond.and given_1 narrow_1).before args0 about1 = true := by decide +kernel
set_option maxRecDepth 65536 in
theorem w_consts : constsHeld consts_1 about1 := Jvm.Lit.constsHeldB_iff.mp (by decide +kernel)
theorem w_applies : (headSpec (Jvm.Cond.code x code maxLocals ret :: tables_1) room_1).applies x e0.platform about1 = true :=
  (Spec.applies_iff w_frames).mpr ⟨w_running, w_runnable, w_alone, w_named, w_hears, w_ripe, w_room, w_tables⟩
theorem atStart : AtStart classFile x code maxLocals ret World_1 tables_1 room_1 Calls_1 rest_1 Pre_1 launch0 p0 e0 about1 theMethod args0 below0 :=
  ⟨lists_1, trivial, launch0.admits_env _ _ _, launch0.least_env, fairChoices_fair.cas, fairChoices_fair.clock, w_frames, w_args, w_heap, w_applies, ⟨w_consts, trivial⟩, w_rest, w_case⟩
end start1
theorem witness_1 : WitnessClaimed_1 := ⟨start1.p0, start1.e0, start1.about1, start1.theMethod, start1.args0, start1.below0, start1.atStart⟩
end Jvm.Pilot.@@N@@
