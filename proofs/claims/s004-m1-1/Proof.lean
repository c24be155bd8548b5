import JvmDerived
import JvmDerived.Pilot.@@N@@Statement
import JvmDerived.Pilot.@@N@@Code
set_option linter.unusedVariables false
set_option linter.unusedSimpArgs false
namespace Jvm.RoadKit
open Sem ClassFile Op Lib Jvm.Stand Jvm.Free Jvm.LawKit
section Own
variable {tb : Tables} {e : Env} {below : List Frame} {Q : Outcome → State → Prop} {A B : State}
def Goes (tb : Tables) (e : Env) (below : List Frame) (Q : Outcome → State → Prop) (A : State) : Prop := ∃ s₂ o, Steps tb e below A s₂ ∧ s₂.status = .running ∧ Ended s₂ below o ∧ Q o s₂
theorem Goes.st (st : ∀ t, Steps tb e below A t → Steps tb e below B t) (k : Goes tb e below Q A) : Goes tb e below Q B := by
  obtain ⟨s, o, h1, h2⟩ := k
  exact ⟨s, o, st s h1, h2⟩
theorem Goes.tr (st : Steps tb e below B A) (k : Goes tb e below Q A) : Goes tb e below Q B := by
  obtain ⟨s, o, h1, h2⟩ := k
  exact ⟨s, o, st.trans h1, h2⟩
theorem Goes.named (k : ∀ Q', Q' = Q → Goes tb e below Q' A) : Goes tb e below Q A := k Q rfl
theorem own_narb (c : Int32) : nar .byte (c.toInt8.toInt32) = c.toInt8.toInt32 := by simp [nar]
theorem own_fitsb (c : Int32) : fits .byte (.int c.toInt8.toInt32) = true := own_narb c ▸ fits_nar_byte _
theorem own_narZ {z : Int32} (h : z = 0 ∨ z = 1) : nar .boolean z = z := by rcases h with rfl | rfl <;> rfl
theorem own_narwZ {z : Int32} (h : z = 0 ∨ z = 1) : narrow .boolean (.int z) = .int z := by rcases h with rfl | rfl <;> rfl
theorem own_fitsZ {z : Int32} (h : z = 0 ∨ z = 1) : fits .boolean (.int z) = true := by rcases h with rfl | rfl <;> rfl
theorem own_cat {v : Value} (h : v.isRef = true) : v.category = 1 := by cases v <;> first | rfl | (simp [Value.isRef] at h)
theorem own_fitsR {v : Value} {t : FieldType} (h : v.isRef = true) (ht : t.isReference = true) : fits t v = true := by cases v <;> cases t <;> simp_all [Value.isRef, fits, FieldType.isReference]
theorem own_narR {v : Value} {t : FieldType} (h : v.isRef = true) : narrow t v = v := by cases v <;> cases t <;> first | rfl | (simp [Value.isRef] at h)
end Own
section New
variable {p : Program} {l : Launch} {e : Env} {R : Room} {s : State} {m : MethodId} {args : Array Value} {below : List Frame} {meth : Method} {c : Code} {T : State} {locs : List Loc} {cells slots : Nat}
theorem retI (X : Stand p l e R s m args below meth c T locs cells slots) (hx : p.tables.exec = Jvm.exec) {pc : Nat} {Ls : Array Slot} {z : Int32} {rest : List Value} (hret : meth.sig.returnType = some .int) (hd : decode c.code pc = .ok (.ireturn, 1)) {fs : List Frame}
    (hl : ∀ (f : JFrame) (acts : List Action), f.method = m → f.locked = none → f.entered = [] → (doReturn e (T.setTop f) acts (some (.int z))).1 = T.setFrames fs) : Steps p.tables e below (T.setTop (mkF m pc Ls (.int z :: rest))) (T.setFrames fs) :=
  retOut X hx (w := .int z) hret rfl (Or.inl ⟨rfl, Or.inl rfl, _, rfl⟩) hd hl
theorem retJ (X : Stand p l e R s m args below meth c T locs cells slots) (hx : p.tables.exec = Jvm.exec) {pc : Nat} {Ls : Array Slot} {z : Int64} {rest : List Value} (hret : meth.sig.returnType = some .long) (hd : decode c.code pc = .ok (.lreturn, 1)) {fs : List Frame}
    (hl : ∀ (f : JFrame) (acts : List Action), f.method = m → f.locked = none → f.entered = [] → (doReturn e (T.setTop f) acts (some (.long z))).1 = T.setFrames fs) : Steps p.tables e below (T.setTop (mkF m pc Ls (.long z :: rest))) (T.setFrames fs) :=
  retOut X hx (w := .long z) hret rfl (Or.inr (Or.inl ⟨rfl, rfl, _, rfl⟩)) hd hl
theorem retR (X : Stand p l e R s m args below meth c T locs cells slots) (hx : p.tables.exec = Jvm.exec) {pc : Nat} {Ls : Array Slot} {w : Value} {t : FieldType} {rest : List Value} (hret : meth.sig.returnType = some t) (ht : t.isReference = true) (hw : w.isRef = true) (hd : decode c.code pc = .ok (.areturn, 1)) {fs : List Frame}
    (hl : ∀ (f : JFrame) (acts : List Action), f.method = m → f.locked = none → f.entered = [] → (doReturn e (T.setTop f) acts (some w)).1 = T.setFrames fs) : Steps p.tables e below (T.setTop (mkF m pc Ls (w :: rest))) (T.setFrames fs) :=
  retOut X hx (w := w) hret (own_narR hw) (Or.inr (Or.inr (Or.inr (Or.inr ⟨rfl, ht, hw⟩)))) hd hl
end New
end Jvm.RoadKit
/- laws to paste: Road.backV (cut by pick.py; bodies as the Statement names them) -/
namespace Jvm.Pilot.@@N@@
namespace StrChars
open Jvm Sem ClassFile Op Lib Jvm.Stand Jvm.Free.XT Jvm.Free.ALB Jvm.Free.JM Jvm.Free
open Jvm.Lib.Cold (StaticIs)
/-- a char array whose places are chars -/
def Ch (a : Addr) (A : Cell) (U : State) : Prop := Arr .char a A U ∧ Typed .char A
theorem Ch.mv {a : Addr} {A : Cell} {U U' : State} (h : Ch a A U) (hal : U.vm.Alike U'.vm) (hh : U'.heap = U.heap) : Ch a A U' := ⟨h.1.mv hal hh, h.2⟩
theorem Ch.keep {a : Addr} {A : Cell} {U U' : State} (h : Ch a A U) (hal : U.vm.Alike U'.vm) (hk : U'.heap[a]? = some A) : Ch a A U' := ⟨h.1.keep hal hk, h.2⟩
/-- what place i of a char[]'s cell holds -/
def cv (A : Cell) (i : Nat) : Int32 := match A.slots[i]? with | some (.int x) => x | _ => 0
theorem Ch.get {a : Addr} {A : Cell} {U : State} (h : Ch a A U) {i : Nat} (hi : i < A.slots.size) : A.slots[i]? = some (.int (cv A i)) := by
  have e := Array.getElem?_eq_getElem hi
  have f := h.2 i _ e
  unfold cv; rw [e]
  generalize A.slots[i] = v at f
  cases v <;> simp [fits] at f ⊢
/-- the byte that i2b leaves of a char -/
def lo8 (x : Int32) : Int32 := x.toInt8.toInt32
theorem fits_lo8 (y : Int32) : fits .byte (.int (lo8 y)) = true := by
  have h1 := y.toInt8.le_toInt
  have h2 := y.toInt8.toInt_lt
  simp only [lo8, fits, Bool.and_eq_true, decide_eq_true_eq, Int32.le_iff_toInt_le, Int8.toInt_toInt32, show (-128 : Int32).toInt = -128 from by decide, show (127 : Int32).toInt = 127 from by decide]
  omega
/-- A' is A but that each place j of lo .. hi - 1 holds f j -/
def Laid (A A' : Cell) (lo hi : Nat) (f : Nat → Value) : Prop := A'.cls = A.cls ∧ A'.vm = A.vm ∧ A'.slots.size = A.slots.size ∧ ∀ i, A'.slots[i]? = if lo ≤ i ∧ i < hi then some (f i) else A.slots[i]?
theorem Laid.zero (A : Cell) (lo : Nat) (f : Nat → Value) : Laid A A lo (lo + 0) f := ⟨rfl, rfl, rfl, fun i => by rw [if_neg (by omega)]⟩
theorem Laid.step {A Ak : Cell} {lo k : Nat} {f : Nat → Value} {v : Value} (h : Laid A Ak lo k f) (hlo : lo ≤ k) (hk : k < Ak.slots.size) (hv : v = f k) : Laid A (Ak.setSlot k v) lo (k + 1) f := by
  refine ⟨h.1, h.2.1, by simpa [Cell.setSlot] using h.2.2.1, fun i => ?_⟩
  by_cases e : k = i
  · subst e; rw [Cell.slots_setSlot_self v hk, if_pos (by omega), hv]
  · rw [Cell.slots_setSlot_ne v e, h.2.2.2 i]
    by_cases q : lo ≤ i ∧ i < k
    · rw [if_pos q, if_pos (by omega)]
    · rw [if_neg q, if_neg (by omega)]
def U16 : String := "java/lang/StringUTF16"
namespace Cmp5
def yN : MethodName := ⟨"java/lang/StringUTF16", "compress", "([CI[BII)I"⟩
abbrev yB : ByteArray := jdk_52_method_21_code
theorem d0 : decode yB 0 = .ok (.iconst 0, 1) := by decide +kernel
theorem d1 : decode yB 1 = .ok (.istore 5, 2) := by decide +kernel
theorem d3 : decode yB 3 = .ok (.iload 5, 2) := by decide +kernel
theorem d5 : decode yB 5 = .ok (.iload 4, 2) := by decide +kernel
theorem d7 : decode yB 7 = .ok (.if_icmp (.ge) 37, 3) := by decide +kernel
theorem d10 : decode yB 10 = .ok (.aload_n 0, 1) := by decide +kernel
theorem d11 : decode yB 11 = .ok (.iload_n 1, 1) := by decide +kernel
theorem d12 : decode yB 12 = .ok (.caload, 1) := by decide +kernel
theorem d13 : decode yB 13 = .ok (.istore 6, 2) := by decide +kernel
theorem d15 : decode yB 15 = .ok (.iload 6, 2) := by decide +kernel
theorem d17 : decode yB 17 = .ok (.sipush 255, 3) := by decide +kernel
theorem d20 : decode yB 20 = .ok (.if_icmp (.le) 6, 3) := by decide +kernel
theorem d26 : decode yB 26 = .ok (.aload_n 2, 1) := by decide +kernel
theorem d27 : decode yB 27 = .ok (.iload_n 3, 1) := by decide +kernel
theorem d28 : decode yB 28 = .ok (.iload 6, 2) := by decide +kernel
theorem d30 : decode yB 30 = .ok (.i2b, 1) := by decide +kernel
theorem d31 : decode yB 31 = .ok (.bastore, 1) := by decide +kernel
theorem d32 : decode yB 32 = .ok (.iinc 1 1, 3) := by decide +kernel
theorem d35 : decode yB 35 = .ok (.iinc 3 1, 3) := by decide +kernel
theorem d38 : decode yB 38 = .ok (.iinc 5 1, 3) := by decide +kernel
theorem d41 : decode yB 41 = .ok (.goto (-38), 3) := by decide +kernel
theorem d44 : decode yB 44 = .ok (.iload 4, 2) := by decide +kernel
theorem d46 : decode yB 46 = .ok (.ireturn, 1) := by decide +kernel
def site : List Cond := []
def tab : Cond := tabOf yN yB 7 (some .int) site
def P (b : Addr) (A : Cell) (d : Addr) (B : Cell) (o q len : Nat) (args : Array Value) (s : State) : Prop := args = #[.ref b, .int (Int32.ofNat o), .ref d, .int (Int32.ofNat q), .int (Int32.ofNat len)] ∧ Ch b A s ∧ Arr .byte d B s ∧ b ≠ d ∧ o + len ≤ A.slots.size ∧ q + len ≤ B.slots.size ∧ ∀ i, i < len → ¬ 255 < cv A (o + i)
def E (b : Addr) (A : Cell) (d : Addr) (B : Cell) (o q len : Nat) (r : Option Value) (s u : State) : Prop := r = some (.int (Int32.ofNat len)) ∧ ∃ B', Put d B' s u ∧ Laid B B' q (q + len) (fun j => Value.int (lo8 (cv A (o + (j - q)))))
/-- no char of the range above 255: len; the places written hold each char's low byte -/
theorem law (l : Launch) (b : Addr) (A : Cell) (d : Addr) (B : Cell) (o q len : Nat) : Law l yN 5 5 0 0 yB 7 (some .int) site (P b A d B o q len) (E b A d B o q len) (copyLocs d q len) 0 0 := by
  refine Law.of_walk (plainFor_of_name (by decide +kernel)) (by decide +kernel) (by decide +kernel) (by decide) (fun _ _ h => by rw [h.1]; rfl) (fun _ U U' hal hh h => ⟨h.1, h.2.1.mv hal hh, h.2.2.1.mv hal hh, h.2.2.2⟩) (fun r U U' V V' h1 hal h2 h => ⟨h.1, h.2.elim fun B' q => ⟨B', q.1.mv h1 h2, q.2⟩⟩) ?_
  intro p e s m args below meth c s₁ X0 hexec hbytes hml hret hlk hnm hown hh0 W hP
  obtain ⟨rfl, hA, hB, hne, l1, l2, hp⟩ := hP
  have c1 : Steps p.tables e below (s₁.setTop (entryFrame m #[.ref b, .int (Int32.ofNat o), .ref d, .int (Int32.ofNat q), .int (Int32.ofNat len)] 7)) (s₁.setTop (mkF m 0 #[.val (.ref b), .val (.int (Int32.ofNat o)), .val (.ref d), .val (.int (Int32.ofNat q)), .val (.int (Int32.ofNat len)), .unset, .unset] [])) := entry rfl
  have hA0 := hA.1.mv X0.warmed.alike hh0
  have hB0 := hB.mv X0.warmed.alike hh0
  have a31 := hA.1.2.2.2
  have c2 : Steps p.tables e below (s₁.setTop (entryFrame m #[.ref b, .int (Int32.ofNat o), .ref d, .int (Int32.ofNat q), .int (Int32.ofNat len)] 7)) (s₁.setTop (mkF m 3 #[.val (.ref b), .val (.int (Int32.ofNat o)), .val (.ref d), .val (.int (Int32.ofNat q)), .val (.int (Int32.ofNat len)), .val (.int 0), .unset] [])) := c1.trans (by
    refine iconstV X0.here hexec rfl 0 (hb hbytes d0) (by decide) ?_
    refine XS.istore X0.here hexec rfl (hb hbytes d1) rfl rfl ?_
    exact Steps.refl _)
  have loop : ∀ (r i : Nat), i + r = len → ∀ (z : Slot), (z = .unset ∨ ∃ w, z = .val w ∧ w.category = 1) → ∀ (Tl : State) (Bk : Cell), Stand p l e { frames := 0, locals := 0, cells := 0, slots := 0 } s m #[.ref b, .int (Int32.ofNat o), .ref d, .int (Int32.ofNat q), .int (Int32.ofNat len)] below meth c Tl ([] ++ copyLocs d q i) 0 0 → Put d Bk s₁ Tl → Laid B Bk q (q + i) (fun j => Value.int (lo8 (cv A (o + (j - q))))) →
      Steps p.tables e below (s₁.setTop (entryFrame m #[.ref b, .int (Int32.ofNat o), .ref d, .int (Int32.ofNat q), .int (Int32.ofNat len)] 7)) (Tl.setTop (mkF m 3 #[.val (.ref b), .val (.int (Int32.ofNat (o + i))), .val (.ref d), .val (.int (Int32.ofNat (q + i))), .val (.int (Int32.ofNat len)), .val (.int (Int32.ofNat i)), z] [])) → ∃ (T' : State) (B' : Cell) (z' : Slot), Stand p l e { frames := 0, locals := 0, cells := 0, slots := 0 } s m #[.ref b, .int (Int32.ofNat o), .ref d, .int (Int32.ofNat q), .int (Int32.ofNat len)] below meth c T' ([] ++ copyLocs d q len) 0 0 ∧ Put d B' s₁ T' ∧ Laid B B' q (q + len) (fun j => Value.int (lo8 (cv A (o + (j - q))))) ∧
      Steps p.tables e below (s₁.setTop (entryFrame m #[.ref b, .int (Int32.ofNat o), .ref d, .int (Int32.ofNat q), .int (Int32.ofNat len)] 7)) (T'.setTop (mkF m 3 #[.val (.ref b), .val (.int (Int32.ofNat (o + len))), .val (.ref d), .val (.int (Int32.ofNat (q + len))), .val (.int (Int32.ofNat len)), .val (.int (Int32.ofNat len)), z'] [])) := by
    intro r
    induction r with
    | zero =>
      intro i hi z hz Tl Bk Xl pl fl cl
      have hil : i = len := by omega
      rw [hil] at Xl fl cl
      exact ⟨Tl, Bk, z, Xl, pl, fl, cl⟩
    | succ r ih =>
      intro i hi z hz Tl Bk Xl pl fl cl
      have all := X0.warmed.alike.symm.trans Xl.warmed.alike
      have hAl := hA0.keep all (pl.other hne hA0.1)
      have hBk := hB0.like all pl.1 fl.1 fl.2.1 fl.2.2.1
      have hlt : q + i < Bk.slots.size := by rw [fl.2.2.1]; omega
      have c3 : Steps p.tables e below (s₁.setTop (entryFrame m #[.ref b, .int (Int32.ofNat o), .ref d, .int (Int32.ofNat q), .int (Int32.ofNat len)] 7)) (Tl.setTop (mkF m 12 #[.val (.ref b), .val (.int (Int32.ofNat (o + i))), .val (.ref d), .val (.int (Int32.ofNat (q + i))), .val (.int (Int32.ofNat len)), .val (.int (Int32.ofNat i)), z] [.int (Int32.ofNat (o + i)), .ref b])) := cl.trans (by
        refine XS.iload Xl.here hexec rfl (hb hbytes d3) rfl ?_
        refine XS.iload Xl.here hexec rfl (hb hbytes d5) rfl ?_
        refine XS.icmpNo Xl.here hexec rfl (hb hbytes d7) rfl (ii_ge_f (lt32 (by omega) (by omega))) ?_
        refine XS.aloadN Xl.here hexec rfl (hb hbytes d10) rfl rfl ?_
        refine XS.iloadN Xl.here hexec rfl (hb hbytes d11) rfl ?_
        exact Steps.refl _)
      have c4 : Steps p.tables e below (s₁.setTop (entryFrame m #[.ref b, .int (Int32.ofNat o), .ref d, .int (Int32.ofNat q), .int (Int32.ofNat len)] 7)) (Tl.setTop (mkF m 13 #[.val (.ref b), .val (.int (Int32.ofNat (o + i))), .val (.ref d), .val (.int (Int32.ofNat (q + i))), .val (.int (Int32.ofNat len)), .val (.int (Int32.ofNat i)), z] [.int (cv A (o + i))])) := c3.trans (by
        refine Xl.aget hexec hAl rfl (hA.get (i := o + i) (by omega)) rfl rfl (hb hbytes d12) ?_
        exact Steps.refl _)
      have c5 : Steps p.tables e below (s₁.setTop (entryFrame m #[.ref b, .int (Int32.ofNat o), .ref d, .int (Int32.ofNat q), .int (Int32.ofNat len)] 7)) (Tl.setTop (mkF m 15 #[.val (.ref b), .val (.int (Int32.ofNat (o + i))), .val (.ref d), .val (.int (Int32.ofNat (q + i))), .val (.int (Int32.ofNat len)), .val (.int (Int32.ofNat i)), .val (.int (cv A (o + i)))] [])) := c4.trans (by
        refine XS.istoreS Xl.here hexec rfl (hb hbytes d13) rfl rfl hz ?_
        exact Steps.refl _)
      have c6 : Steps p.tables e below (s₁.setTop (entryFrame m #[.ref b, .int (Int32.ofNat o), .ref d, .int (Int32.ofNat q), .int (Int32.ofNat len)] 7)) (Tl.setTop (mkF m 31 #[.val (.ref b), .val (.int (Int32.ofNat (o + i))), .val (.ref d), .val (.int (Int32.ofNat (q + i))), .val (.int (Int32.ofNat len)), .val (.int (Int32.ofNat i)), .val (.int (cv A (o + i)))] [.int (lo8 (cv A (o + i))), .int (Int32.ofNat (q + i)), .ref d])) := c5.trans (by
        refine XS.iload Xl.here hexec rfl (hb hbytes d15) rfl ?_
        refine sipushV Xl.here hexec rfl 255 (hb hbytes d17) (by decide) ?_
        refine XS.icmpYes Xl.here hexec rfl (pc0 := 20) rfl (hb hbytes d20) rfl (ii_le_t (hp i (by omega))) (by decide) rfl ?_
        refine XS.aloadN Xl.here hexec rfl (hb hbytes d26) rfl rfl ?_
        refine XS.iloadN Xl.here hexec rfl (hb hbytes d27) rfl ?_
        refine XS.iload Xl.here hexec rfl (hb hbytes d28) rfl ?_
        refine i2b Xl.here hexec rfl (hb hbytes d30) rfl ?_
        exact Steps.refl _)
      obtain ⟨T7, X7, p7, st7⟩ := Xl.aput hexec hBk rfl hlt rfl (fits_lo8 (cv A (o + i))) (g := (mkF m 31 #[.val (.ref b), .val (.int (Int32.ofNat (o + i))), .val (.ref d), .val (.int (Int32.ofNat (q + i))), .val (.int (Int32.ofNat len)), .val (.int (Int32.ofNat i)), .val (.int (cv A (o + i)))] [.int (lo8 (cv A (o + i))), .int (Int32.ofNat (q + i)), .ref d])) rfl (rest := []) rfl (hb hbytes d31)
      have c8 : Steps p.tables e below (s₁.setTop (entryFrame m #[.ref b, .int (Int32.ofNat o), .ref d, .int (Int32.ofNat q), .int (Int32.ofNat len)] 7)) (T7.setTop (mkF m 32 #[.val (.ref b), .val (.int (Int32.ofNat (o + i))), .val (.ref d), .val (.int (Int32.ofNat (q + i))), .val (.int (Int32.ofNat len)), .val (.int (Int32.ofNat i)), .val (.int (cv A (o + i)))] [])) := c6.trans (st7 _ (Steps.refl _))
      have c9 : Steps p.tables e below (s₁.setTop (entryFrame m #[.ref b, .int (Int32.ofNat o), .ref d, .int (Int32.ofNat q), .int (Int32.ofNat len)] 7)) (T7.setTop (mkF m 3 #[.val (.ref b), .val (.int (Int32.ofNat (o + i) + 1)), .val (.ref d), .val (.int (Int32.ofNat (q + i) + 1)), .val (.int (Int32.ofNat len)), .val (.int (Int32.ofNat i + 1)), .val (.int (cv A (o + i)))] [])) := c8.trans (by
        refine iincV X7.here hexec rfl 1 (hb hbytes d32) (by decide) rfl rfl ?_
        refine iincV X7.here hexec rfl 1 (hb hbytes d35) (by decide) rfl rfl ?_
        refine iincV X7.here hexec rfl 1 (hb hbytes d38) (by decide) rfl rfl ?_
        refine XS.goto X7.here hexec rfl (pc0 := 41) rfl (hb hbytes d41) (by decide) rfl ?_
        exact Steps.refl _)
      have c10 : Steps p.tables e below (s₁.setTop (entryFrame m #[.ref b, .int (Int32.ofNat o), .ref d, .int (Int32.ofNat q), .int (Int32.ofNat len)] 7)) (T7.setTop (mkF m 3 #[.val (.ref b), .val (.int (Int32.ofNat (o + (i + 1)))), .val (.ref d), .val (.int (Int32.ofNat (q + (i + 1)))), .val (.int (Int32.ofNat len)), .val (.int (Int32.ofNat (i + 1))), .val (.int (cv A (o + i)))] [])) := by
        have := c9
        rw [succ32, succ32, succ32] at this
        exact this
      exact ih (i + 1) (by omega) _ (Or.inr ⟨_, rfl, rfl⟩) T7 _ (by rw [copyLocs_step, ← List.append_assoc]; exact X7) (pl.trans p7) (fl.step (by omega) hlt (by simp)) c10
  obtain ⟨T9, B9, z9, X9, p9, f9, g9⟩ := loop len 0 (by omega) .unset (Or.inl rfl) s₁ B (by simpa [copyLocs] using X0) ⟨hB0.1, fun _ _ => rfl, rfl⟩ (Laid.zero _ _ _) c2
  have c11 : Steps p.tables e below (s₁.setTop (entryFrame m #[.ref b, .int (Int32.ofNat o), .ref d, .int (Int32.ofNat q), .int (Int32.ofNat len)] 7)) (T9.setTop (mkF m 46 #[.val (.ref b), .val (.int (Int32.ofNat (o + len))), .val (.ref d), .val (.int (Int32.ofNat (q + len))), .val (.int (Int32.ofNat len)), .val (.int (Int32.ofNat len)), z9] [.int (Int32.ofNat len)])) := g9.trans (by
    refine XS.iload X9.here hexec rfl (hb hbytes d3) rfl ?_
    refine XS.iload X9.here hexec rfl (hb hbytes d5) rfl ?_
    refine XS.icmpYes X9.here hexec rfl (pc0 := 7) rfl (hb hbytes d7) rfl (ii_ge_t (nlt32 (by omega) (Nat.le_refl _))) (by decide) rfl ?_
    refine XS.iload X9.here hexec rfl (hb hbytes d44) rfl ?_
    exact Steps.refl _)
  exact ⟨T9, some (.int (Int32.ofNat len)), _, _, _, X9, by simp, rfl, rfl, (fun h => by cases h), ⟨rfl, B9, p9.from hh0, f9⟩, fun fs hl => c11.trans (X9.ireturnOut hexec hret rfl (Or.inl rfl) (hb hbytes d46) hl)⟩
end Cmp5
namespace Cmp3
def yN : MethodName := ⟨"java/lang/StringUTF16", "compress", "([CII)[B"⟩
abbrev yB : ByteArray := jdk_52_method_16_code
theorem d0 : decode yB 0 = .ok (.iload_n 2, 1) := by decide +kernel
theorem d1 : decode yB 1 = .ok (.newarray .byte, 2) := by decide +kernel
theorem d3 : decode yB 3 = .ok (.astore_n 3, 1) := by decide +kernel
theorem d4 : decode yB 4 = .ok (.aload_n 0, 1) := by decide +kernel
theorem d5 : decode yB 5 = .ok (.iload_n 1, 1) := by decide +kernel
theorem d6 : decode yB 6 = .ok (.aload_n 3, 1) := by decide +kernel
theorem d7 : decode yB 7 = .ok (.iconst 0, 1) := by decide +kernel
theorem d8 : decode yB 8 = .ok (.iload_n 2, 1) := by decide +kernel
theorem d9 : decode yB 9 = .ok (.invokestatic 115, 3) := by decide +kernel
theorem d12 : decode yB 12 = .ok (.istore 4, 2) := by decide +kernel
theorem d14 : decode yB 14 = .ok (.iload 4, 2) := by decide +kernel
theorem d16 : decode yB 16 = .ok (.iload_n 2, 1) := by decide +kernel
theorem d17 : decode yB 17 = .ok (.if_icmp (.eq) 40, 3) := by decide +kernel
theorem d57 : decode yB 57 = .ok (.aload_n 3, 1) := by decide +kernel
theorem d58 : decode yB 58 = .ok (.areturn, 1) := by decide +kernel
def site : List Cond := [.arrayClass .byte, Cmp5.tab] ++ staticW U16 115 Cmp5.yN
def tab : Cond := tabOf yN yB 6 (some (.array .byte)) site
def P (b : Addr) (A : Cell) (o len : Nat) (args : Array Value) (s : State) : Prop := args = #[.ref b, .int (Int32.ofNat o), .int (Int32.ofNat len)] ∧ Ch b A s ∧ o + len ≤ A.slots.size ∧ len ≤ 536870912 ∧ ∀ i, i < len → ¬ 255 < cv A (o + i)
def E (b : Addr) (A : Cell) (o len : Nat) (r : Option Value) (s u : State) : Prop := NewArr .byte "[B" len (fun j => .int (lo8 (cv A (o + j)))) r s u ∧ u.heap.size = s.heap.size + 1
/-- no char of the range above 255: a new byte[] of their low bytes -/
theorem law (l : Launch) (b : Addr) (A : Cell) (o len : Nat) : Law l yN 3 3 1 18 yB 6 (some (.array .byte)) site (P b A o len) (E b A o len) [] 1 len := by
  refine Law.of_walk (plainFor_of_name (by decide +kernel)) (by decide +kernel) (by decide +kernel) (by decide) (fun _ _ h => by rw [h.1]; rfl) (fun _ U U' hal hh h => ⟨h.1, h.2.1.mv hal hh, h.2.2⟩) (fun r U U' V V' h1 hal h2 h => ⟨NewArr.mv r U U' V V' h1 hal h2 h.1, by rw [h1, h2]; exact h.2⟩) ?_
  intro p e s m args below meth c s₁ X0 hexec hbytes hml hret hlk hnm hown hh0 W hP
  obtain ⟨rfl, hA, l1, l2, hp⟩ := hP
  have a31 := hA.1.2.2.2
  have c1 : Steps p.tables e below (s₁.setTop (entryFrame m #[.ref b, .int (Int32.ofNat o), .int (Int32.ofNat len)] 6)) (s₁.setTop (mkF m 0 #[.val (.ref b), .val (.int (Int32.ofNat o)), .val (.int (Int32.ofNat len)), .unset, .unset, .unset] [])) := entry rfl
  have c2 : Steps p.tables e below (s₁.setTop (entryFrame m #[.ref b, .int (Int32.ofNat o), .int (Int32.ofNat len)] 6)) (s₁.setTop (mkF m 1 #[.val (.ref b), .val (.int (Int32.ofNat o)), .val (.int (Int32.ofNat len)), .unset, .unset, .unset] [.int (Int32.ofNat len)])) := c1.trans (by
    refine XS.iloadN X0.here hexec rfl (hb hbytes d0) rfl ?_
    exact Steps.refl _)
  obtain ⟨T3, B3, X3, ba3, bs3, bv3, bh3, bf3, st3⟩ := X0.anew hexec (atype := .byte) (wk W (.arrayClass .byte)) rfl (by show len * 1 ≤ _; omega) (by omega) (g := (mkF m 1 #[.val (.ref b), .val (.int (Int32.ofNat o)), .val (.int (Int32.ofNat len)), .unset, .unset, .unset] [.int (Int32.ofNat len)])) rfl (hb hbytes d1) (rest := []) rfl (Nat.le_refl _) (by show 0 + len ≤ len; omega)
  rw [hh0] at ba3 st3
  have kp3 : XT.Kept s T3 := (XT.Kept.of_eq hh0).push bh3
  have hA3 := hA.keep X3.warmed.alike (kp3 _ _ hA.1.1)
  have hne : b ≠ s.heap.size := hA.1.ne
  have c4 : Steps p.tables e below (s₁.setTop (entryFrame m #[.ref b, .int (Int32.ofNat o), .int (Int32.ofNat len)] 6)) (T3.setTop (mkF m 3 #[.val (.ref b), .val (.int (Int32.ofNat o)), .val (.int (Int32.ofNat len)), .unset, .unset, .unset] [.ref s.heap.size])) := c2.trans (st3 _ (Steps.refl _))
  have c5 : Steps p.tables e below (s₁.setTop (entryFrame m #[.ref b, .int (Int32.ofNat o), .int (Int32.ofNat len)] 6)) (T3.setTop (mkF m 9 #[.val (.ref b), .val (.int (Int32.ofNat o)), .val (.int (Int32.ofNat len)), .val (.ref s.heap.size), .unset, .unset] [.int (Int32.ofNat len), .int 0, .ref s.heap.size, .int (Int32.ofNat o), .ref b])) := c4.trans (by
    refine XS.astoreN X3.here hexec rfl (hb hbytes d3) rfl rfl rfl ?_
    refine XS.aloadN X3.here hexec rfl (hb hbytes d4) rfl rfl ?_
    refine XS.iloadN X3.here hexec rfl (hb hbytes d5) rfl ?_
    refine XS.aloadN X3.here hexec rfl (hb hbytes d6) rfl rfl ?_
    refine iconstV X3.here hexec rfl 0 (hb hbytes d7) (by decide) ?_
    refine XS.iloadN X3.here hexec rfl (hb hbytes d8) rfl ?_
    exact Steps.refl _)
  obtain ⟨v6, T6, X6, E6, g6⟩ := X3.callS hexec (Cmp5.law l b A s.heap.size B3 o 0 len) hown (wks W (staticW U16 115 Cmp5.yN)) (wk W Cmp5.tab) (W := 0) (Nat.le_of_ble_eq_true rfl) (Nat.le_of_ble_eq_true rfl) (Nat.le_refl _) (by show 0 + len + 0 ≤ len; omega) (g := (mkF m 9 #[.val (.ref b), .val (.int (Int32.ofNat o)), .val (.int (Int32.ofNat len)), .val (.ref s.heap.size), .unset, .unset] [.int (Int32.ofNat len), .int (Int32.ofNat 0), .ref s.heap.size, .int (Int32.ofNat o), .ref b])) rfl (by rw [hml]; rfl) c5 (argsL := [.ref b, .int (Int32.ofNat o), .ref s.heap.size, .int (Int32.ofNat 0), .int (Int32.ofNat len)]) (rest := []) rfl rfl (by show 2 * 0 + 0 ≤ _; decide) (hb hbytes d9) (⟨rfl, hA3, ba3, hne, l1, by rw [bs3]; simp, hp⟩)
  obtain ⟨rfl, B6, p6, f6⟩ := E6
  have c7 : Steps p.tables e below (s₁.setTop (entryFrame m #[.ref b, .int (Int32.ofNat o), .int (Int32.ofNat len)] 6)) (T6.setTop (mkF m 12 #[.val (.ref b), .val (.int (Int32.ofNat o)), .val (.int (Int32.ofNat len)), .val (.ref s.heap.size), .unset, .unset] [.int (Int32.ofNat len)])) := g6
  have c8 : Steps p.tables e below (s₁.setTop (entryFrame m #[.ref b, .int (Int32.ofNat o), .int (Int32.ofNat len)] 6)) (T6.setTop (mkF m 58 #[.val (.ref b), .val (.int (Int32.ofNat o)), .val (.int (Int32.ofNat len)), .val (.ref s.heap.size), .val (.int (Int32.ofNat len)), .unset] [.ref s.heap.size])) := c7.trans (by
    refine XS.istore X6.here hexec rfl (hb hbytes d12) rfl rfl ?_
    refine XS.iload X6.here hexec rfl (hb hbytes d14) rfl ?_
    refine XS.iloadN X6.here hexec rfl (hb hbytes d16) rfl ?_
    refine XS.icmpYes X6.here hexec rfl (pc0 := 17) rfl (hb hbytes d17) rfl (ii_eq_t rfl) (by decide) rfl ?_
    refine XS.aloadN X6.here hexec rfl (hb hbytes d57) rfl rfl ?_
    exact Steps.refl _)
  have X8 := X6.wide (L' := []) (cells' := 1) (slots' := len) (fun x hx hlt => by
    simp only [List.nil_append, copyLocs, List.mem_map, List.mem_range] at hx
    obtain ⟨i, -, rfl⟩ := hx
    exact absurd hlt (Nat.lt_irrefl _)) (Nat.le_refl _) (by omega)
  exact ⟨T6, some (.ref s.heap.size), _, _, _, X8, rfl, rfl, rfl, (fun h => by cases h), ⟨⟨rfl, B6, ba3.like (X3.warmed.alike.symm.trans X6.warmed.alike) p6.1 f6.1 f6.2.1 f6.2.2.1, f6.2.1.trans bv3, by rw [X6.warmed.alike.findClass, f6.1]; exact bf3, by rw [f6.2.2.1, bs3]; simp, fun j hj => by rw [f6.2.2.2 j, if_pos (by omega)]; rfl, kp3.put p6 (Nat.le_refl _)⟩, by rw [p6.2.2, bh3, hh0]; simp⟩, fun fs hl => c8.trans (X8.areturnOut hexec rfl hret rfl (hb hbytes d58) hl)⟩
end Cmp3
namespace CodL
def yN : MethodName := ⟨"java/lang/StringUTF16", "coderFromArrayLen", "([BI)B"⟩
abbrev yB : ByteArray := jdk_52_method_15_code
theorem d0 : decode yB 0 = .ok (.iload_n 1, 1) := by decide +kernel
theorem d1 : decode yB 1 = .ok (.aload_n 0, 1) := by decide +kernel
theorem d2 : decode yB 2 = .ok (.arraylength, 1) := by decide +kernel
theorem d3 : decode yB 3 = .ok (.isub, 1) := by decide +kernel
theorem d4 : decode yB 4 = .ok (.bipush 31, 2) := by decide +kernel
theorem d6 : decode yB 6 = .ok (.iushr, 1) := by decide +kernel
theorem d7 : decode yB 7 = .ok (.i2b, 1) := by decide +kernel
theorem d8 : decode yB 8 = .ok (.ireturn, 1) := by decide +kernel
def site : List Cond := []
def tab : Cond := tabOf yN yB 2 (some .byte) site
def P (d : Addr) (B : Cell) (args : Array Value) (s : State) : Prop := args = #[.ref d, .int (Int32.ofNat B.slots.size)] ∧ Arr .byte d B s
def E (r : Option Value) (s u : State) : Prop := XT.PureE (some (.int 0)) r s u
/-- an array as long as the number of chars: LATIN1 -/
theorem law (l : Launch) (d : Addr) (B : Cell) : Law l yN 2 2 0 0 yB 2 (some .byte) site (P d B) E [] 0 0 := by
  refine Law.of_walk (plainFor_of_name (by decide +kernel)) (by decide +kernel) (by decide +kernel) (by decide) (fun _ _ h => by rw [h.1]; rfl) (fun _ U U' hal hh h => ⟨h.1, h.2.mv hal hh⟩) (fun r U U' V V' h1 hal h2 h => XT.PureE.mv r U U' V V' h1 hal h2 h) ?_
  intro p e s m args below meth c s₁ X0 hexec hbytes hml hret hlk hnm hown hh0 W hP
  obtain ⟨rfl, hB⟩ := hP
  have hB0 := hB.mv X0.warmed.alike hh0
  have c1 : Steps p.tables e below (s₁.setTop (entryFrame m #[.ref d, .int (Int32.ofNat B.slots.size)] 2)) (s₁.setTop (mkF m 0 #[.val (.ref d), .val (.int (Int32.ofNat B.slots.size))] [])) := entry rfl
  have c2 : Steps p.tables e below (s₁.setTop (entryFrame m #[.ref d, .int (Int32.ofNat B.slots.size)] 2)) (s₁.setTop (mkF m 2 #[.val (.ref d), .val (.int (Int32.ofNat B.slots.size))] [.ref d, .int (Int32.ofNat B.slots.size)])) := c1.trans (by
    refine XS.iloadN X0.here hexec rfl (hb hbytes d0) rfl ?_
    refine XS.aloadN X0.here hexec rfl (hb hbytes d1) rfl rfl ?_
    exact Steps.refl _)
  have c3 : Steps p.tables e below (s₁.setTop (entryFrame m #[.ref d, .int (Int32.ofNat B.slots.size)] 2)) (s₁.setTop (mkF m 8 #[.val (.ref d), .val (.int (Int32.ofNat B.slots.size))] [.int (lo8 (ushr (Int32.ofNat B.slots.size - Int32.ofNat B.slots.size) 31))])) := c2.trans (by
    refine X0.alen hexec hB0 rfl rfl (hb hbytes d2) ?_
    refine XS.isub X0.here hexec rfl (hb hbytes d3) rfl ?_
    refine bipushV X0.here hexec rfl 31 (hb hbytes d4) (by decide) ?_
    refine iushr X0.here hexec rfl (hb hbytes d6) rfl ?_
    refine i2b X0.here hexec rfl (hb hbytes d7) rfl ?_
    exact Steps.refl _)
  have e0 : lo8 (ushr (Int32.ofNat B.slots.size - Int32.ofNat B.slots.size) 31) = 0 := by rw [Int32.sub_self]; decide
  rw [e0] at c3
  exact ⟨s₁, some (.int 0), _, _, _, X0, rfl, rfl, rfl, (fun h => by cases h), ⟨rfl, hh0⟩, fun fs hl => c3.trans (X0.ireturnOut hexec hret rfl (Or.inr (Or.inr (Or.inl rfl))) (hb hbytes d8) hl)⟩
end CodL
/-- the String at a is Latin-1 over a new byte[] (the heap's one new cell): the low bytes of the len chars of A from o on; every cell but a is kept -/
def Got (a : Addr) (D : Cell) (fV fC : Field) (A : Cell) (o len : Nat) (r : Option Value) (s u : State) : Prop := r = none ∧ ∃ D' V : Cell, Blank "java/lang/String" a D' u ∧ Same D D' [fV.slot, fC.slot] ∧ D'.slots[fV.slot]? = some (.ref s.heap.size) ∧ D'.slots[fC.slot]? = some (.int 0) ∧ Arr .byte s.heap.size V u ∧ V.vm = .none ∧ u.vm.findClass "[B" = some V.cls ∧ V.slots.size = len ∧ (∀ j, j < len → V.slots[j]? = some (.int (lo8 (cv A (o + j))))) ∧ (∀ (y : Addr) (c : Cell), y ≠ a → s.heap[y]? = some c → u.heap[y]? = some c) ∧ u.heap.size = s.heap.size + 1
theorem Got.mv {a : Addr} {D A : Cell} {fV fC : Field} {o len : Nat} : ∀ r (U U' V V' : State), U'.heap = U.heap → V.vm.Alike V'.vm → V'.heap = V.heap → Got a D fV fC A o len r U V → Got a D fV fC A o len r U' V' :=
  fun r U U' V V' h1 hal h2 ⟨e0, D', X, a1, a2, a3, a4, a5, a6, a7, a8, a9, a10, a11⟩ => ⟨e0, D', X, a1.mv hal h2, a2, by rw [h1]; exact a3, a4, by rw [h1]; exact a5.mv hal h2, a6, by rw [hal.findClass]; exact a7, a8, a9, by rw [h1, h2]; exact a10, by rw [h1, h2]; exact a11⟩
namespace New4
def yN : MethodName := ⟨"java/lang/String", "<init>", "([CIILjava/lang/Void;)V"⟩
abbrev yB : ByteArray := jdk_42_method_149_code
theorem d0 : decode yB 0 = .ok (.aload_n 0, 1) := by decide +kernel
theorem d1 : decode yB 1 = .ok (.invokespecial 1, 3) := by decide +kernel
theorem d4 : decode yB 4 = .ok (.iload_n 3, 1) := by decide +kernel
theorem d5 : decode yB 5 = .ok (.ifCond (.ne) 22, 3) := by decide +kernel
theorem d27 : decode yB 27 = .ok (.getstatic 38, 3) := by decide +kernel
theorem d30 : decode yB 30 = .ok (.ifCond (.eq) 28, 3) := by decide +kernel
theorem d33 : decode yB 33 = .ok (.aload_n 1, 1) := by decide +kernel
theorem d34 : decode yB 34 = .ok (.iload_n 2, 1) := by decide +kernel
theorem d35 : decode yB 35 = .ok (.iload_n 3, 1) := by decide +kernel
theorem d36 : decode yB 36 = .ok (.invokestatic 177, 3) := by decide +kernel
theorem d39 : decode yB 39 = .ok (.astore 5, 2) := by decide +kernel
theorem d41 : decode yB 41 = .ok (.aload_n 0, 1) := by decide +kernel
theorem d42 : decode yB 42 = .ok (.aload 5, 2) := by decide +kernel
theorem d44 : decode yB 44 = .ok (.iload_n 3, 1) := by decide +kernel
theorem d45 : decode yB 45 = .ok (.invokestatic 47, 3) := by decide +kernel
theorem d48 : decode yB 48 = .ok (.putfield 15, 3) := by decide +kernel
theorem d51 : decode yB 51 = .ok (.aload_n 0, 1) := by decide +kernel
theorem d52 : decode yB 52 = .ok (.aload 5, 2) := by decide +kernel
theorem d54 : decode yB 54 = .ok (.putfield 9, 3) := by decide +kernel
theorem d57 : decode yB 57 = .ok (.return_, 1) := by decide +kernel
def site : List Cond := [.fieldLink "java/lang/String" 38 "java/lang/String" "COMPACT_STRINGS" "Z", Cmp3.tab, CodL.tab, .laysFinal "java/lang/String" "java/lang/String" "value" "[B", .fieldLink "java/lang/String" 9 "java/lang/String" "value" "[B", .laysFinal "java/lang/String" "java/lang/String" "coder" "B", .fieldLink "java/lang/String" 15 "java/lang/String" "coder" "B"] ++ objW "java/lang/String" 1 ++ staticW "java/lang/String" 177 Cmp3.yN ++ staticW "java/lang/String" 47 CodL.yN
def tab : Cond := tabOf yN yB 6 none site
def P (a : Addr) (D : Cell) (fV fC : Field) (b : Addr) (A : Cell) (z : Int32) (o len : Nat) (args : Array Value) (s : State) : Prop := args = #[.ref a, .ref b, .int (Int32.ofNat o), .int (Int32.ofNat len), .null] ∧ Blank "java/lang/String" a D s ∧ Found "java/lang/String" "value" "[B" fV s ∧ Found "java/lang/String" "coder" "B" fC s ∧ Ch b A s ∧ StaticIs s "java/lang/String" "COMPACT_STRINGS" "Z" (.int z) ∧ ¬ z = 0 ∧ 0 < len ∧ o + len ≤ A.slots.size ∧ len ≤ 536870912 ∧ ∀ i, i < len → ¬ 255 < cv A (o + i)
def E (a : Addr) (D : Cell) (fV fC : Field) (A : Cell) (o len : Nat) (r : Option Value) (s u : State) : Prop := Got a D fV fC A o len r s u
/-- len > 0, no char of the range above 255: a Latin-1 String of their low bytes -/
theorem law (l : Launch) (a : Addr) (D : Cell) (fV fC : Field) (b : Addr) (A : Cell) (z : Int32) (o len : Nat) : Law l yN 5 4 2 35 yB 6 none site (P a D fV fC b A z o len) (E a D fV fC A o len) [⟨a, fC.slot⟩, ⟨a, fV.slot⟩] 1 len := by
  refine Law.of_walk (plainFor_of_name (by decide +kernel)) (by decide +kernel) (by decide +kernel) (by decide) (fun _ _ h => by rw [h.1]; rfl) (fun _ U U' hal hh h => ⟨h.1, h.2.1.mv hal hh, h.2.2.1.al hal, h.2.2.2.1.al hal, h.2.2.2.2.1.mv hal hh, h.2.2.2.2.2.1.there hal hh, h.2.2.2.2.2.2⟩) (fun r U U' V V' h1 hal h2 h => Got.mv r U U' V V' h1 hal h2 h) ?_
  intro p e s m args below meth c s₁ X0 hexec hbytes hml hret hlk hnm hown hh0 W hP
  obtain ⟨rfl, hB, f1, f2, hA, s1, hz, l0, l1, l2, hp⟩ := hP
  have a31 := hA.1.2.2.2
  have c1 : Steps p.tables e below (s₁.setTop (entryFrame m #[.ref a, .ref b, .int (Int32.ofNat o), .int (Int32.ofNat len), .null] 6)) (s₁.setTop (mkF m 0 #[.val (.ref a), .val (.ref b), .val (.int (Int32.ofNat o)), .val (.int (Int32.ofNat len)), .val .null, .unset] [])) := entry rfl
  have c2 : Steps p.tables e below (s₁.setTop (entryFrame m #[.ref a, .ref b, .int (Int32.ofNat o), .int (Int32.ofNat len), .null] 6)) (s₁.setTop (mkF m 1 #[.val (.ref a), .val (.ref b), .val (.int (Int32.ofNat o)), .val (.int (Int32.ofNat len)), .val .null, .unset] [.ref a])) := c1.trans (by
    refine XS.aloadN X0.here hexec rfl (hb hbytes d0) rfl rfl ?_
    exact Steps.refl _)
  obtain ⟨T3, X3, q3, st3⟩ := X0.oinit hexec hown (wks W (objW "java/lang/String" 1)) (g := (mkF m 1 #[.val (.ref a), .val (.ref b), .val (.int (Int32.ofNat o)), .val (.int (Int32.ofNat len)), .val .null, .unset] [.ref a])) rfl (by rw [hml]; rfl) (rest := []) rfl (hb hbytes d1) (W := 0) (by show 2 * 0 + 0 ≤ _; decide) (Nat.le_of_ble_eq_true rfl) (Nat.le_of_ble_eq_true rfl)
  have hh3 := q3.trans hh0
  have c4 : Steps p.tables e below (s₁.setTop (entryFrame m #[.ref a, .ref b, .int (Int32.ofNat o), .int (Int32.ofNat len), .null] 6)) (T3.setTop (mkF m 27 #[.val (.ref a), .val (.ref b), .val (.int (Int32.ofNat o)), .val (.int (Int32.ofNat len)), .val .null, .unset] [])) := (c2.trans (st3 _ (Steps.refl _))).trans (by
    refine XS.iloadN X3.here hexec rfl (hb hbytes d4) rfl ?_
    refine XS.ifYes X3.here hexec rfl (pc0 := 5) rfl (hb hbytes d5) rfl (i0_ne_t (nz32 (by omega) l0)) (by decide) rfl ?_
    exact Steps.refl _)
  obtain ⟨T5, X5, q5, st5⟩ := X3.sget hexec hown (wk W (.fieldLink "java/lang/String" 38 "java/lang/String" "COMPACT_STRINGS" "Z")) s1 (fun _ _ h => by rw [hh3]; exact h) (g := (mkF m 27 #[.val (.ref a), .val (.ref b), .val (.int (Int32.ofNat o)), .val (.int (Int32.ofNat len)), .val .null, .unset] [])) rfl (hb hbytes d27)
  have hh5 := q5.trans hh3
  have c6 : Steps p.tables e below (s₁.setTop (entryFrame m #[.ref a, .ref b, .int (Int32.ofNat o), .int (Int32.ofNat len), .null] 6)) (T5.setTop (mkF m 30 #[.val (.ref a), .val (.ref b), .val (.int (Int32.ofNat o)), .val (.int (Int32.ofNat len)), .val .null, .unset] [.int z])) := c4.trans (st5 _ (Steps.refl _))
  have c7 : Steps p.tables e below (s₁.setTop (entryFrame m #[.ref a, .ref b, .int (Int32.ofNat o), .int (Int32.ofNat len), .null] 6)) (T5.setTop (mkF m 36 #[.val (.ref a), .val (.ref b), .val (.int (Int32.ofNat o)), .val (.int (Int32.ofNat len)), .val .null, .unset] [.int (Int32.ofNat len), .int (Int32.ofNat o), .ref b])) := c6.trans (by
    refine XS.ifNo X5.here hexec rfl (hb hbytes d30) rfl (i0_eq_f hz) ?_
    refine XS.aloadN X5.here hexec rfl (hb hbytes d33) rfl rfl ?_
    refine XS.iloadN X5.here hexec rfl (hb hbytes d34) rfl ?_
    refine XS.iloadN X5.here hexec rfl (hb hbytes d35) rfl ?_
    exact Steps.refl _)
  obtain ⟨v8, T8, X8, E8, g8⟩ := X5.callS hexec (Cmp3.law l b A o len) hown (wks W (staticW "java/lang/String" 177 Cmp3.yN)) (wk W Cmp3.tab) (W := 0) (Nat.le_of_ble_eq_true rfl) (Nat.le_of_ble_eq_true rfl) (Nat.le_refl _) (by show 0 + len ≤ len; omega) (g := (mkF m 36 #[.val (.ref a), .val (.ref b), .val (.int (Int32.ofNat o)), .val (.int (Int32.ofNat len)), .val .null, .unset] [.int (Int32.ofNat len), .int (Int32.ofNat o), .ref b])) rfl (by rw [hml]; rfl) c7 (argsL := [.ref b, .int (Int32.ofNat o), .int (Int32.ofNat len)]) (rest := []) rfl rfl (by show 2 * 0 + 0 ≤ _; decide) (hb hbytes d36) (⟨rfl, hA.mv X5.warmed.alike hh5, l1, l2, hp⟩)
  obtain ⟨e8, z8⟩ := E8
  obtain ⟨rfl, N, n1, n2, n3, n4, n5, n6⟩ := NewArr.mv _ T5 s _ _ hh5.symm (Vm.Alike.refl _) rfl e8
  rw [hh5] at z8
  have hB1 := hB.keep X8.warmed.alike (n6 _ _ hB.1)
  have hne : s.heap.size ≠ a := (Nat.ne_of_lt (Array.getElem?_eq_some_iff.mp hB.1).1).symm
  have c9 : Steps p.tables e below (s₁.setTop (entryFrame m #[.ref a, .ref b, .int (Int32.ofNat o), .int (Int32.ofNat len), .null] 6)) (T8.setTop (mkF m 39 #[.val (.ref a), .val (.ref b), .val (.int (Int32.ofNat o)), .val (.int (Int32.ofNat len)), .val .null, .unset] [.ref s.heap.size])) := g8
  have c10 : Steps p.tables e below (s₁.setTop (entryFrame m #[.ref a, .ref b, .int (Int32.ofNat o), .int (Int32.ofNat len), .null] 6)) (T8.setTop (mkF m 45 #[.val (.ref a), .val (.ref b), .val (.int (Int32.ofNat o)), .val (.int (Int32.ofNat len)), .val .null, .val (.ref s.heap.size)] [.int (Int32.ofNat N.slots.size), .ref s.heap.size, .ref a])) := by
    have hc : Steps p.tables e below (s₁.setTop (entryFrame m #[.ref a, .ref b, .int (Int32.ofNat o), .int (Int32.ofNat len), .null] 6)) (T8.setTop (mkF m 45 #[.val (.ref a), .val (.ref b), .val (.int (Int32.ofNat o)), .val (.int (Int32.ofNat len)), .val .null, .val (.ref s.heap.size)] [.int (Int32.ofNat len), .ref s.heap.size, .ref a])) := c9.trans (by
      refine XS.astore X8.here hexec rfl (hb hbytes d39) rfl rfl rfl ?_
      refine XS.aloadN X8.here hexec rfl (hb hbytes d41) rfl rfl ?_
      refine XS.aload X8.here hexec rfl (hb hbytes d42) rfl rfl ?_
      refine XS.iloadN X8.here hexec rfl (hb hbytes d44) rfl ?_
      exact Steps.refl _)
    rw [n4]; exact hc
  obtain ⟨v11, T11, X11, E11, g11⟩ := X8.callS hexec (CodL.law l s.heap.size N) hown (wks W (staticW "java/lang/String" 47 CodL.yN)) (wk W CodL.tab) (W := 1) (Nat.le_of_ble_eq_true rfl) (Nat.le_of_ble_eq_true rfl) (Nat.le_refl _) (by show 0 + len + 0 ≤ len; omega) (g := (mkF m 45 #[.val (.ref a), .val (.ref b), .val (.int (Int32.ofNat o)), .val (.int (Int32.ofNat len)), .val .null, .val (.ref s.heap.size)] [.int (Int32.ofNat N.slots.size), .ref s.heap.size, .ref a])) rfl (by rw [hml]; rfl) c10 (argsL := [.ref s.heap.size, .int (Int32.ofNat N.slots.size)]) (rest := [.ref a]) rfl rfl (by show 2 * 0 + (1 + 0) ≤ _; decide) (hb hbytes d45) (⟨rfl, n1⟩)
  obtain ⟨rfl, q11⟩ := E11
  have hB11 := hB1.mv (X8.warmed.alike.symm.trans X11.warmed.alike) q11
  have c12 : Steps p.tables e below (s₁.setTop (entryFrame m #[.ref a, .ref b, .int (Int32.ofNat o), .int (Int32.ofNat len), .null] 6)) (T11.setTop (mkF m 48 #[.val (.ref a), .val (.ref b), .val (.int (Int32.ofNat o)), .val (.int (Int32.ofNat len)), .val .null, .val (.ref s.heap.size)] [.int 0, .ref a])) := g11
  obtain ⟨T13, X13, p13, bl13, sl13, st13⟩ := X11.finit hexec hown (wk W (.fieldLink "java/lang/String" 15 "java/lang/String" "coder" "B")) (Or.inr ⟨_, (wk W (.laysFinal "java/lang/String" "java/lang/String" "coder" "B"))⟩) (Or.inl ⟨rfl, hnm⟩) f2 (Or.inl rfl) hB11 (t := .byte) (by decide +kernel) rfl (g := (mkF m 48 #[.val (.ref a), .val (.ref b), .val (.int (Int32.ofNat o)), .val (.int (Int32.ofNat len)), .val .null, .val (.ref s.heap.size)] [.int 0, .ref a])) rfl (rest := []) rfl (hb hbytes d48)
  have c14 : Steps p.tables e below (s₁.setTop (entryFrame m #[.ref a, .ref b, .int (Int32.ofNat o), .int (Int32.ofNat len), .null] 6)) (T13.setTop (mkF m 54 #[.val (.ref a), .val (.ref b), .val (.int (Int32.ofNat o)), .val (.int (Int32.ofNat len)), .val .null, .val (.ref s.heap.size)] [.ref s.heap.size, .ref a])) := (c12.trans (st13 _ (Steps.refl _))).trans (by
    refine XS.aloadN X13.here hexec rfl (hb hbytes d51) rfl rfl ?_
    refine XS.aload X13.here hexec rfl (hb hbytes d52) rfl rfl ?_
    exact Steps.refl _)
  obtain ⟨T15, X15, p15, bl15, sl15, st15⟩ := X13.finit hexec hown (wk W (.fieldLink "java/lang/String" 9 "java/lang/String" "value" "[B")) (Or.inr ⟨_, (wk W (.laysFinal "java/lang/String" "java/lang/String" "value" "[B"))⟩) (Or.inl ⟨rfl, hnm⟩) f1 (Or.inl rfl) bl13 (t := (.array .byte)) (by decide +kernel) rfl (g := (mkF m 54 #[.val (.ref a), .val (.ref b), .val (.int (Int32.ofNat o)), .val (.int (Int32.ofNat len)), .val .null, .val (.ref s.heap.size)] [.ref s.heap.size, .ref a])) rfl (rest := []) rfl (hb hbytes d54)
  have c16 : Steps p.tables e below (s₁.setTop (entryFrame m #[.ref a, .ref b, .int (Int32.ofNat o), .int (Int32.ofNat len), .null] 6)) (T15.setTop (mkF m 57 #[.val (.ref a), .val (.ref b), .val (.int (Int32.ofNat o)), .val (.int (Int32.ofNat len)), .val .null, .val (.ref s.heap.size)] [])) := c14.trans (st15 _ (Steps.refl _))
  have ap := apart (Or.inr ⟨_, (wk W (.laysFinal "java/lang/String" "java/lang/String" "value" "[B"))⟩) (Or.inr ⟨_, (wk W (.laysFinal "java/lang/String" "java/lang/String" "coder" "B"))⟩) f1 f2 (t₁ := .array .byte) (t₂ := .byte) (by decide +kernel) (by decide +kernel) (by decide)
  have al := X8.warmed.alike.symm.trans X15.warmed.alike
  have n7 : T11.heap[s.heap.size]? = some N := by rw [q11]; exact n1.1
  exact ⟨T15, none, _, _, _, X15, by simp, rfl, by omega, (fun _ => rfl), ⟨rfl, _, N, bl15, ((Same.refl D _).set _ (by simp)).set _ (by simp), sl15, (Cell.slots_setSlot_ne _ ap).trans sl13, n1.keep al (p15.other hne (p13.other hne n7)), n2, by rw [al.findClass]; exact n3, n4, n5, fun y c h1 h2 => p15.other h1 (p13.other h1 (by rw [q11]; exact n6 y c h2)), by rw [p15.2.2, p13.2.2, q11]; exact z8⟩, fun fs hl => c16.trans (X15.returnOut hexec hret (hb hbytes d57) hl)⟩
end New4
namespace New1
def yN : MethodName := ⟨"java/lang/String", "<init>", "([C)V"⟩
abbrev yB : ByteArray := jdk_42_method_3_code
theorem d0 : decode yB 0 = .ok (.aload_n 0, 1) := by decide +kernel
theorem d1 : decode yB 1 = .ok (.aload_n 1, 1) := by decide +kernel
theorem d2 : decode yB 2 = .ok (.iconst 0, 1) := by decide +kernel
theorem d3 : decode yB 3 = .ok (.aload_n 1, 1) := by decide +kernel
theorem d4 : decode yB 4 = .ok (.arraylength, 1) := by decide +kernel
theorem d5 : decode yB 5 = .ok (.aconst_null, 1) := by decide +kernel
theorem d6 : decode yB 6 = .ok (.invokespecial 27, 3) := by decide +kernel
theorem d9 : decode yB 9 = .ok (.return_, 1) := by decide +kernel
def site : List Cond := [New4.tab] ++ initW "java/lang/String" 27 New4.yN
def tab : Cond := tabOf yN yB 2 none site
def P (a : Addr) (D : Cell) (fV fC : Field) (b : Addr) (A : Cell) (z : Int32) (args : Array Value) (s : State) : Prop := args = #[.ref a, .ref b] ∧ Blank "java/lang/String" a D s ∧ Found "java/lang/String" "value" "[B" fV s ∧ Found "java/lang/String" "coder" "B" fC s ∧ Ch b A s ∧ StaticIs s "java/lang/String" "COMPACT_STRINGS" "Z" (.int z) ∧ ¬ z = 0 ∧ 0 < A.slots.size ∧ A.slots.size ≤ 536870912 ∧ ∀ i, i < A.slots.size → ¬ 255 < cv A i
def E (a : Addr) (D : Cell) (fV fC : Field) (A : Cell) (r : Option Value) (s u : State) : Prop := Got a D fV fC A 0 A.slots.size r s u
/-- new String(chars), not empty, no char above 255: a Latin-1 String of their low bytes -/
theorem law (l : Launch) (a : Addr) (D : Cell) (fV fC : Field) (b : Addr) (A : Cell) (z : Int32) : Law l yN 2 1 3 52 yB 2 none site (P a D fV fC b A z) (E a D fV fC A) [⟨a, fC.slot⟩, ⟨a, fV.slot⟩] 1 A.slots.size := by
  refine Law.of_walk (plainFor_of_name (by decide +kernel)) (by decide +kernel) (by decide +kernel) (by decide) (fun _ _ h => by rw [h.1]; rfl) (fun _ U U' hal hh h => ⟨h.1, h.2.1.mv hal hh, h.2.2.1.al hal, h.2.2.2.1.al hal, h.2.2.2.2.1.mv hal hh, h.2.2.2.2.2.1.there hal hh, h.2.2.2.2.2.2⟩) (fun r U U' V V' h1 hal h2 h => Got.mv r U U' V V' h1 hal h2 h) ?_
  intro p e s m args below meth c s₁ X0 hexec hbytes hml hret hlk hnm hown hh0 W hP
  obtain ⟨rfl, hB, f1, f2, hA, s1, hz, l0, l2, hp⟩ := hP
  have c1 : Steps p.tables e below (s₁.setTop (entryFrame m #[.ref a, .ref b] 2)) (s₁.setTop (mkF m 0 #[.val (.ref a), .val (.ref b)] [])) := entry rfl
  have c2 : Steps p.tables e below (s₁.setTop (entryFrame m #[.ref a, .ref b] 2)) (s₁.setTop (mkF m 6 #[.val (.ref a), .val (.ref b)] [.null, .int (Int32.ofNat A.slots.size), .int 0, .ref b, .ref a])) := c1.trans (by
    refine XS.aloadN X0.here hexec rfl (hb hbytes d0) rfl rfl ?_
    refine XS.aloadN X0.here hexec rfl (hb hbytes d1) rfl rfl ?_
    refine iconstV X0.here hexec rfl 0 (hb hbytes d2) (by decide) ?_
    refine XS.aloadN X0.here hexec rfl (hb hbytes d3) rfl rfl ?_
    refine X0.alen hexec (hA.1.mv X0.warmed.alike hh0) rfl rfl (hb hbytes d4) ?_
    refine XS.aconstNull X0.here hexec rfl (hb hbytes d5) ?_
    exact Steps.refl _)
  obtain ⟨v3, T3, X3, E3, g3⟩ := X0.callN hexec (New4.law l a D fV fC b A z 0 A.slots.size) rfl hown (wks W (initW "java/lang/String" 27 New4.yN)) (W New4.tab (by simp only [site, List.mem_cons, List.mem_append, true_or, or_true])) (W := 0) (Nat.le_of_ble_eq_true rfl) (Nat.le_of_ble_eq_true rfl) (Nat.le_refl _) (by show 0 + A.slots.size ≤ A.slots.size; omega) (g := (mkF m 6 #[.val (.ref a), .val (.ref b)] [.null, .int (Int32.ofNat A.slots.size), .int (Int32.ofNat 0), .ref b, .ref a])) rfl (by rw [hml]; rfl) c2 (argsL := [.ref b, .int (Int32.ofNat 0), .int (Int32.ofNat A.slots.size), .null]) (rest := []) rfl rfl (by show 2 * 0 + 0 ≤ _; decide) (hb hbytes d6) (⟨rfl, hB.mv X0.warmed.alike hh0, f1.al X0.warmed.alike, f2.al X0.warmed.alike, hA.mv X0.warmed.alike hh0, s1.there X0.warmed.alike hh0, hz, l0, by omega, l2, fun i hi => by rw [Nat.zero_add]; exact hp i hi⟩)
  have e0 := Got.mv _ s₁ s _ _ hh0.symm (Vm.Alike.refl _) rfl E3
  obtain rfl := e0.1
  have c4 : Steps p.tables e below (s₁.setTop (entryFrame m #[.ref a, .ref b] 2)) (T3.setTop (mkF m 9 #[.val (.ref a), .val (.ref b)] [])) := g3
  exact ⟨T3, none, _, _, _, X3, by simp, rfl, by omega, (fun _ => rfl), e0, fun fs hl => c4.trans (X3.returnOut hexec hret (hb hbytes d9) hl)⟩
theorem pays {l : Launch} {R : Room} {p : Program} {e : Env} {below : List Frame} {s : State} {sargs : Array Value} {len W : Nat} (a : Addr) (D : Cell) (fV fC : Field) (b : Addr) (A : Cell) (z : Int32) (htab : tab.before sargs s = true) (hfr : 4 ≤ R.frames) (hlo : W + 65 ≤ R.locals) :
    Back l R p e below s sargs yN len W (fun A₁ a₁ => A₁.cells + 1 ≤ R.cells ∧ A₁.slots + A.slots.size ≤ R.slots ∧ P a D fV fC b A z a₁ A₁.U) (fun A₁ _ v₁ B₁ => E a D fV fC A v₁ A₁.U B₁.U ∧ B₁.locs = A₁.locs ++ [⟨a, fC.slot⟩, ⟨a, fV.slot⟩] ∧ B₁.cells = A₁.cells + 1 ∧ B₁.slots = A₁.slots + A.slots.size) :=
  (law l a D fV fC b A z).pays htab hfr (by omega)
end New1
end StrChars
namespace StrChars.Road
open Jvm Sem ClassFile Op Lib Jvm.Stand Jvm.Free Jvm.Free.XT
open Jvm.Lib.Cold (StaticIs)
abbrev ST : String := "java/lang/String"
/-- every table word that New1's law asks, flat -/
abbrev words : List Jvm.Cond := [.code New1.yN New1.yB 2 none, .initialized ST, .methodLink ST 27 New4.yN, .instanceMethod New4.yN,
  .code New4.yN New4.yB 6 none, .fieldLink ST 38 ST "COMPACT_STRINGS" "Z", .laysFinal ST ST "value" "[B", .fieldLink ST 9 ST "value" "[B", .laysFinal ST ST "coder" "B", .fieldLink ST 15 ST "coder" "B",
  .methodLink ST 1 Lib.objectInit, .instanceMethod Lib.objectInit, .code Lib.objectInit ⟨#[0xb1]⟩ 1 none, .methodLink ST 177 Cmp3.yN, .static Cmp3.yN, .methodLink ST 47 CodL.yN, .static CodL.yN,
  .code Cmp3.yN Cmp3.yB 6 (some (.array .byte)), .initialized U16, .arrayClass .byte, .methodLink U16 115 Cmp5.yN, .static Cmp5.yN, .code Cmp5.yN Cmp5.yB 7 (some .int), .code CodL.yN CodL.yB 2 (some .byte)]
theorem tab_of {a : Array Value} {s : State} (h : ∀ w ∈ words, w.before a s = true) : New1.tab.before a s = true := by
  have h5 : Cmp5.tab.before a s = true := unparts (wk h (.code Cmp5.yN Cmp5.yB 7 (some .int))) (wks h (.initialized Cmp5.yN.cls :: Cmp5.site))
  have hc : CodL.tab.before a s = true := unparts (wk h (.code CodL.yN CodL.yB 2 (some .byte))) (wks h (.initialized CodL.yN.cls :: CodL.site))
  have q5 : ∀ w ∈ Cmp5.tab :: words, w.before a s = true := fun w hw => (List.mem_cons.mp hw).elim (fun e => e ▸ h5) (h w)
  have h3 : Cmp3.tab.before a s = true := unparts (wk q5 (.code Cmp3.yN Cmp3.yB 6 (some (.array .byte)))) (wks q5 (.initialized Cmp3.yN.cls :: Cmp3.site))
  have q3 : ∀ w ∈ Cmp3.tab :: CodL.tab :: words, w.before a s = true := fun w hw => (List.mem_cons.mp hw).elim (fun e => e ▸ h3) fun hw => (List.mem_cons.mp hw).elim (fun e => e ▸ hc) (h w)
  have h4 : New4.tab.before a s = true := unparts (wk q3 (.code New4.yN New4.yB 6 none)) (wks q3 (.initialized New4.yN.cls :: New4.site))
  have q4 : ∀ w ∈ New4.tab :: words, w.before a s = true := fun w hw => (List.mem_cons.mp hw).elim (fun e => e ▸ h4) (h w)
  exact unparts (wk q4 (.code New1.yN New1.yB 2 none)) (wks q4 (.initialized New1.yN.cls :: New1.site))
/-- the words ride from the start Z to the walk's own state -/
theorem moved {Z s : State} {a0 args : Array Value} (hZ : Z.Warmed39 s.vm) (hw : ∀ d ∈ words, d.before a0 Z = true) : ∀ d ∈ words, d.before args s = true := fun d hd => by
  have q := hw d hd
  have t : ∀ d ∈ words, d = .arrayClass .byte ∨ (d.onTables && d.keepsFace) = true := by decide +kernel
  rcases t d hd with rfl | t
  · exact RoadKit.mvA hZ q
  · exact RoadKit.mv hZ q t
/-- WHAT COMES BACK, over the tables of the start Z: h the heap at the call, h' behind it -/
def Q (Z : State) (x : Addr) (A : Cell) (h : Heap) (v : Option Value) (h' : Heap) (L : List Loc) : Prop := v = none ∧ (∀ y ∈ L, y.base = x) ∧ RoadKit.Keep h h' [x] ∧ h'.size = h.size + 1 ∧ RoadKit.Exa Z h' x ST ∧ RoadKit.Fld Z h' x ST "value" "[B" (.ref h.size) ∧ RoadKit.Fld Z h' x ST "coder" "B" (.int 0) ∧
  (∃ V : Cell, RoadKit.Arr Z h' h.size V .byte ∧ V.vm = .none ∧ Z.vm.findClass "[B" = some V.cls ∧ V.slots.size = A.slots.size ∧ ∀ j, j < A.slots.size → V.slots[j]? = some (.int (lo8 (cv A j)))) ∧
  ∀ (O n d : String) (w : Value), RoadKit.Fld Z h x O n d w → RoadKit.slotOf Z O n d ≠ RoadKit.slotOf Z ST "value" "[B" → RoadKit.slotOf Z O n d ≠ RoadKit.slotOf Z ST "coder" "B" → RoadKit.Fld Z h' x O n d w
/-- **new String(chars) AT A CALL, IN THE ROAD'S FORM**: for specialBack behind newO: x the fresh String, b the char[] with the cell A -/
theorem back {p : Program} {l : Launch} {e : Env} {R : Room} {s : State} {args : Array Value} {below : List Frame} {len W : Nat} {Z : State} {a0 : Array Value} {h : Heap} (hZ : Z.Warmed39 s.vm) (hw : ∀ d ∈ words, d.before a0 Z = true) {kI : Nat} (wi : (Jvm.Cond.instantiable ST kI).before a0 Z = true)
    {x b : Addr} {A : Cell} {z : Int32} {v0 c0 : Value} (E : RoadKit.Exa Z h x ST) (V : RoadKit.Fld Z h x ST "value" "[B" v0) (C : RoadKit.Fld Z h x ST "coder" "B" c0) (K : RoadKit.Arr Z h b A .char) (hty : Typed .char A) (S : RoadKit.Sta Z h ST "COMPACT_STRINGS" "Z" (.int z)) (hz : ¬ z = 0)
    (l0 : 0 < A.slots.size) (l2 : A.slots.size ≤ 536870912) (hp : ∀ i, i < A.slots.size → ¬ 255 < cv A i) (hfr : 4 ≤ R.frames) (hlo : W + 65 ≤ R.locals) :
    Back l R p e below s args New1.yN len W (fun P a => a = #[.ref x, .ref b] ∧ P.U.heap = h ∧ P.cells + 1 ≤ R.cells ∧ P.slots + A.slots.size ≤ R.slots)
      (fun P _ v B => ∃ L, Q Z x A h v B.U.heap L ∧ B.locs = P.locs ++ L ∧ B.cells = P.cells + 1 ∧ B.slots = P.slots + A.slots.size) := by
  intro m meth c P g ig mk a X hg hsize hdg hW hn hp'
  obtain ⟨rfl, rfl, r1, r2⟩ := hp'
  have al : Z.vm.Alike P.U.vm := hZ.alike.trans X.warmed.alike
  obtain ⟨D, cfV, kV, iV, fV, hD, gV, stV, knV, obV, asV, slV⟩ := id V
  obtain ⟨D', cfC, kC, iC, fC, hD', gC, stC, -, -, asC, slC⟩ := id C
  cases hD.symm.trans hD'
  obtain ⟨D2, kD, e1, e2, e3, e4, e5⟩ := id E
  cases hD.symm.trans e1
  obtain ⟨c2, k2, i1, i2, i3, -⟩ := Cond.instantiable_spec wi
  cases e2.symm.trans i1
  cases e3.symm.trans i2
  obtain ⟨kU, u1, u2⟩ := al.2.2 _ _ e3
  have hB : Blank ST x D P.U := ⟨hD, ⟨knV, fun q hq => by rw [hq] at obV; cases obV⟩, by rw [al.findClass]; exact e2, kU, u1, by rw [u2]; exact i3, by rw [u2]; exact e5 i3⟩
  have F1 : Found ST "value" "[B" fV P.U := ⟨SBG.found_only al ⟨cfV, kV, iV, gV⟩, stV⟩
  have F2 : Found ST "coder" "B" fC P.U := ⟨SBG.found_only al ⟨cfC, kC, iC, gC⟩, stC⟩
  have hA : Ch b A P.U := ⟨⟨K.1, State.isArrayOf_alike al K.2.1, K.2.2, by omega⟩, hty⟩
  have hS : StaticIs P.U ST "COMPACT_STRINGS" "Z" (.int z) := by
    obtain ⟨cfS, iS, kS, fS, st, cS, t1, t2, t3, t4, t5, t6, t7⟩ := S
    exact StaticIs.there (s := { Z with heap := P.U.heap }) ⟨cfS, iS, kS, fS, st, cS, t1, t2, t3, t4, t5, (fun q => by rw [q] at t6; cases t6), t7⟩ al rfl
  obtain ⟨v, B, X', ⟨⟨hv, E', V', q1, q2, q3, q4, q5, q6, q7, q8, q9, q10, q11⟩, hl, hc, hs⟩, st⟩ := New1.pays x D fV fC b A z (tab_of (moved hZ hw)) hfr hlo m meth c P g ig mk _ X hg hsize hdg hW hn ⟨r1, r2, rfl, hB, F1, F2, hA, hS, hz, l0, l2, hp⟩
  have al' : Z.vm.Alike B.U.vm := hZ.alike.trans X'.warmed.alike
  have hsz : E'.slots.size = D.slots.size := by
    obtain ⟨-, -, -, kB, w1, w2, w3⟩ := q1
    obtain ⟨kB', y1, y2⟩ := al'.2.2 _ _ e3
    rw [q2.2.1] at w1
    cases w1.symm.trans y1
    rw [w3, e5 i3, y2]
  refine ⟨v, B, X', ⟨_, ⟨hv, ?_, ⟨by omega, fun y cy hy hn' => q10 y cy (by simpa using hn') hy, fun y cy hy => ?_⟩, q11, ⟨E', _, q1.1, by rw [q2.2.1]; exact e2, by rw [q2.2.1]; exact e3, by rw [q2.1]; exact obV, fun _ => by rw [hsz]; exact e5 i3⟩,
    ⟨E', cfV, kV, iV, fV, q1.1, gV, stV, by rw [q2.1]; exact knV, by rw [q2.1]; exact obV, by rw [q2.2.1]; exact asV, q3⟩, ⟨E', cfC, kC, iC, fC, q1.1, gC, stC, by rw [q2.1]; exact knV, by rw [q2.1]; exact obV, by rw [q2.2.1]; exact asC, q4⟩,
    ⟨V', ⟨q5.1, State.isArrayOf_alike al'.symm q5.2.1, q5.2.2.1⟩, q6, by rw [← al'.findClass]; exact q7, q8, fun j hj => by have := q9 j hj; rwa [Nat.zero_add] at this⟩, fun O n d w F n1 n2 => ?_⟩, hl, hc, hs⟩, st⟩
  · intro y hy
    simp only [List.mem_cons, List.not_mem_nil, or_false] at hy
    rcases hy with rfl | rfl <;> rfl
  · by_cases q : y = x
    · subst q
      cases hD.symm.trans hy
      exact ⟨E', q1.1, q2.2.1, q2.1, hsz⟩
    · exact ⟨cy, q10 y cy q hy, rfl, rfl, rfl⟩
  · obtain ⟨D3, cf, k, i, f, g1, g2, g3, g4, g5, g6, g7⟩ := F
    cases hD.symm.trans g1
    simp only [RoadKit.slotOf, g2, gV, gC, Option.map_some, Option.getD_some] at n1 n2
    exact ⟨E', cf, k, i, f, q1.1, g2, g3, by rw [q2.1]; exact g4, by rw [q2.1]; exact g5, by rw [q2.2.1]; exact g6, by rw [q2.2.2 f.slot (by simp [n1, n2])]; exact g7⟩
end StrChars.Road
namespace StrChars.Road
open Jvm Sem ClassFile Op Lib Jvm.Stand Jvm.Free Jvm.Free.XT
/-- WHAT COMES BACK, the byte[] as a list of values -/
def QA (Z : State) (x : Addr) (zn : Int32) (cs : List Int32) (h : Heap) (v : Option Value) (h' : Heap) (L : List Loc) : Prop := v = none ∧ (∀ y ∈ L, y.base = x) ∧ RoadKit.Keep h h' [x] ∧ h'.size = h.size + 1 ∧ RoadKit.Exa Z h' x ST ∧ RoadKit.Fld Z h' x ST "value" "[B" (.ref h.size) ∧ RoadKit.Fld Z h' x ST "coder" "B" (.int 0) ∧
  (∃ kb, Z.vm.findClass "[B" = some kb ∧ RoadKit.Arv Z h' h.size kb .byte zn (cs.map fun c => .int (lo8 c)) (.int 0)) ∧
  ∀ (O n d : String) (w : Value), RoadKit.Fld Z h x O n d w → RoadKit.slotOf Z O n d ≠ RoadKit.slotOf Z ST "value" "[B" → RoadKit.slotOf Z O n d ≠ RoadKit.slotOf Z ST "coder" "B" → RoadKit.Fld Z h' x O n d w
/-- **new String(chars) AT A CALL, THE ARRAYS AS LISTS**: the char[] at b holds cs, not empty, no char above 255 -/
theorem backArv {p : Program} {l : Launch} {e : Env} {R : Room} {s : State} {args : Array Value} {below : List Frame} {len W : Nat} {Z : State} {a0 : Array Value} {h : Heap} (hZ : Z.Warmed39 s.vm) (hw : ∀ d ∈ words, d.before a0 Z = true) {kI : Nat} (wi : (Jvm.Cond.instantiable ST kI).before a0 Z = true)
    {x b : Addr} {k : ClassId} {zn z : Int32} {cs : List Int32} {dv v0 c0 : Value} (E : RoadKit.Exa Z h x ST) (V : RoadKit.Fld Z h x ST "value" "[B" v0) (C : RoadKit.Fld Z h x ST "coder" "B" c0) (K : RoadKit.Arv Z h b k .char zn (cs.map Value.int) dv) (S : RoadKit.Sta Z h ST "COMPACT_STRINGS" "Z" (.int z)) (hz : ¬ z = 0)
    (hlen : zn.toNatClampNeg = cs.length) (h0 : 0 < cs.length) (hbig : cs.length ≤ 536870912) (hall : ∀ c ∈ cs, ¬ 255 < c) (hfr : 4 ≤ R.frames) (hlo : W + 65 ≤ R.locals) :
    Back l R p e below s args New1.yN len W (fun P a => a = #[.ref x, .ref b] ∧ P.U.heap = h ∧ P.cells + 1 ≤ R.cells ∧ P.slots + cs.length ≤ R.slots)
      (fun P _ v B => ∃ L, QA Z x zn cs h v B.U.heap L ∧ B.locs = P.locs ++ L ∧ B.cells = P.cells + 1 ∧ B.slots = P.slots + cs.length) := by
  obtain ⟨A, K1, K2, K3, K4, K5, K6⟩ := K
  have e : A.slots.size = cs.length := K3.trans hlen
  have hat : ∀ (i : Nat) (hi : i < cs.length), A.slots[i]? = some (.int cs[i]) := fun i hi => by rw [K5 i (by omega)]; simp [List.getD_eq_getElem?_getD, hi]
  have hcv : ∀ (i : Nat) (hi : i < cs.length), cv A i = cs[i] := fun i hi => by unfold cv; rw [hat i hi]
  have hty : Typed .char A := fun i v hv => by
    have hi : i < A.slots.size := (Array.getElem?_eq_some_iff.mp hv).1
    have q := K5 i hi
    rw [hv] at q
    rw [Option.some.inj q]
    exact K6 i hi
  refine Back.mono (back hZ hw wi E V C K1 hty S hz (by omega) (by omega) (fun i hi => by rw [hcv i (by omega)]; exact hall _ (List.getElem_mem _)) hfr hlo) (fun P a hp => ⟨hp.1, hp.2.1, hp.2.2.1, by rw [e]; exact hp.2.2.2⟩) (fun P a v B hp hq => ?_)
  obtain ⟨L, ⟨q1, q2, q3, q4, q5, q6, q7, ⟨V', v1, v2, v3, v4, v5⟩, q9⟩, hl, hc, hs⟩ := hq
  refine ⟨L, ⟨q1, q2, q3, q4, q5, q6, q7, ⟨V'.cls, v3, V', v1, rfl, by rw [v4, e, hlen], K4, fun i hi => ?_, fun i hi => ?_⟩, q9⟩, hl, hc, by rw [hs, e]⟩
  · have hi' : i < cs.length := by omega
    rw [v5 i (by omega), hcv i hi']; simp [List.getD_eq_getElem?_getD, hi']
  · have hi' : i < cs.length := by omega
    simp only [List.getD_eq_getElem?_getD, List.getElem?_map, List.getElem?_eq_getElem hi', Option.map_some, Option.getD_some]
    exact fits_lo8 _
end StrChars.Road
namespace StrChars.Road
open Jvm Sem ClassFile Op Lib Jvm.Stand Jvm.Free Jvm.Free.XT
/-- WHAT COMES BACK, in the writer's own shape -/
def QV (Z : State) (x : Addr) (N : Int32) (bs : List Int32) (h : Heap) (n0 : Nat) (v : Option Value) (h' : Heap) (L : List Loc) : Prop := v = none ∧ RoadKit.Fr n0 L ∧ RoadKit.Keep h h' [x] ∧ RoadKit.Exa Z h' x ST ∧ RoadKit.Fld Z h' x ST "coder" "B" (.int 0) ∧
  ∃ (t : Addr) (kb : ClassId), n0 ≤ t ∧ h.size ≤ t ∧ ¬ t = x ∧ RoadKit.Fld Z h' x ST "value" "[B" (.ref t) ∧ RoadKit.Arv Z h' t kb .byte N (bs.map Value.int) (.int 0)
/-- **new String(chars) AT A CALL, FOR THE WRITER**: a char[] of n known ints, each 0 to 255 -/
theorem backV {p : Program} {l : Launch} {e : Env} {R : Room} {s : State} {args : Array Value} {below : List Frame} {len W : Nat} {Z : State} {a0 : Array Value} {h : Heap} (hZ : Z.Warmed39 s.vm) (hw : ∀ d ∈ words, d.before a0 Z = true) {kI : Nat} (wi : (Jvm.Cond.instantiable ST kI).before a0 Z = true)
    {x b : Addr} {kC : ClassId} {cs bs : List Int32} {d v0 c0 : Value} {z N : Int32} {n n0 : Nat} (hx0 : n0 ≤ x) (hh0 : n0 ≤ h.size) (E : RoadKit.Exa Z h x ST) (V : RoadKit.Fld Z h x ST "value" "[B" v0) (C : RoadKit.Fld Z h x ST "coder" "B" c0) (K : RoadKit.Arv Z h b kC .char N (cs.map Value.int) d) (S : RoadKit.Sta Z h ST "COMPACT_STRINGS" "Z" (.int z)) (hz : ¬ z = 0)
    (hn : cs.length = n) (hN : N = Int32.ofNat n) (l0 : 0 < n) (l2 : n ≤ 4000) (hp : ∀ c ∈ cs, ¬ c < 0 ∧ ¬ (255 : Int32) < c) (hb : bs = cs.map (fun c => c.toInt8.toInt32)) (hfr : 4 ≤ R.frames) (hlo : W + 65 ≤ R.locals) :
    Back l R p e below s args (⟨"java/lang/String", "<init>", "([C)V"⟩ : MethodName) len W (fun P a => a = #[.ref x, .ref b] ∧ P.U.heap = h ∧ P.cells + 1 ≤ R.cells ∧ P.slots + n ≤ R.slots)
      (fun P _ v B => ∃ L, QV Z x N bs h n0 v B.U.heap L ∧ B.locs = P.locs ++ L ∧ B.cells = P.cells + 1 ∧ B.slots = P.slots + n) := by
  subst hn hN hb
  refine Back.mono (backArv hZ hw wi E V C K S hz (n32 (by omega)) l0 (by omega) (fun c hc => (hp c hc).2) hfr hlo) (fun P a hp => hp) (fun P a v B hp hq => ?_)
  obtain ⟨L, ⟨q1, q2, q3, q4, q5, q6, q7, ⟨kb, v1, v2⟩, q9⟩, hl, hc, hs⟩ := hq
  exact ⟨L, ⟨q1, fun y hy => by rw [q2 y hy]; exact hx0, q3, q5, q7, h.size, kb, hh0, Nat.le_refl _, Nat.ne_of_gt E.lt, q6, by rw [List.map_map]; exact v2⟩, hl, hc, hs⟩
end StrChars.Road
end Jvm.Pilot.@@N@@

namespace Jvm.Pilot.@@N@@
open Jvm Jvm.ClassFile Sem Op Lib Jvm.Free Jvm.Stand Jvm.LawKit Jvm.RoadKit Bundle Jvm.Pilot.@@N@@.Jvm.D
/-- x is a Latin-1 String of the chars cs, its bytes in the array t -/
def Str (Z : State) (h : Heap) (x t : Addr) (k : ClassId) (cs : List Int32) : Prop := Exa Z h x "java/lang/String" ∧ Fld Z h x "java/lang/String" "value" "[B" (.ref t) ∧ Fld Z h x "java/lang/String" "coder" "B" (.int 0) ∧ Arv Z h t k .byte (Int32.ofNat cs.length) ((cs.map fun c => c.toInt8.toInt32).map Value.int) (.int 0) ∧ (∀ c ∈ cs, ¬ c < 0 ∧ ¬ (255 : Int32) < c) ∧ cs.length ≤ 4000
theorem Str.ext {Z : State} {h h' : Heap} {x t : Addr} {k : ClassId} {cs : List Int32} (S : Str Z h x t k cs) (E : Ext h h') : Str Z h' x t k cs := ⟨S.1.ext E, S.2.1.ext E, S.2.2.1.ext E, S.2.2.2.1.ext E, S.2.2.2.2⟩
theorem Str.keep {Z : State} {h h' : Heap} {x t : Addr} {k : ClassId} {cs : List Int32} {ws : List Addr} (S : Str Z h x t k cs) (K : Keep h h' ws) (q : x ∉ ws) (r : t ∉ ws) : Str Z h' x t k cs := ⟨S.1.keep K, S.2.1.keep K q, S.2.2.1.keep K q, S.2.2.2.1.keep K r, S.2.2.2.2⟩
theorem Str.other {Z : State} {h h' : Heap} {x t a : Addr} {k : ClassId} {cs : List Int32} {sl : Nat} {v : Value} (S : Str Z h x t k cs) (W : Wr h h' a sl v) (q : x ≠ a) (r : t ≠ a) : Str Z h' x t k cs := ⟨S.1.wr W, S.2.1.other W (Or.inl q), S.2.2.1.other W (Or.inl q), S.2.2.2.1.other W r, S.2.2.2.2⟩
theorem Str.ltT {Z : State} {h : Heap} {x t : Addr} {k : ClassId} {cs : List Int32} (S : Str Z h x t k cs) : t < h.size := S.2.2.2.1.lt
theorem own_c0 {P : Int32 → Prop} : ∀ c ∈ ([] : List Int32), P c := fun _ q => nomatch q
theorem own_cS {P : Int32 → Prop} {y : Int32} {L : List Int32} (q : P y) (r : ∀ c ∈ L, P c) : ∀ c ∈ y :: L, P c := fun c z => (List.mem_cons.mp z).elim (fun u => u ▸ q) (r c)
theorem own_lit (x : Int32) (k : Nat) (hk : k < 2 ^ 31) : (x &&& (255 : Int32)) = Int32.ofNat (x &&& 255).toBitVec.toNat := by
  apply Int32.toBitVec_inj.mp
  show _ = BitVec.ofNat 32 _
  rw [BitVec.ofNat_toNat]; simp
theorem own_lt256 (x : Int32) : (x &&& 255).toBitVec.toNat < 256 := by
  simp only [Int32.toBitVec_and, BitVec.toNat_and]
  exact Nat.lt_succ_of_le Nat.and_le_right
theorem own_and255 (x : Int32) : ¬ nar .char ((x &&& (255 : Int32)).toUInt32.toUInt16.toUInt32.toInt32) < 0 ∧ ¬ (255 : Int32) < nar .char ((x &&& (255 : Int32)).toUInt32.toUInt16.toUInt32.toInt32) := by
  have t : ∀ k : Fin 256, ¬ nar .char ((Int32.ofNat k.val).toUInt32.toUInt16.toUInt32.toInt32) < 0 ∧ ¬ (255 : Int32) < nar .char ((Int32.ofNat k.val).toUInt32.toUInt16.toUInt32.toInt32) := by decide +kernel
  rw [own_lit x 0 (by decide)]
  exact t ⟨_, own_lt256 x⟩
theorem own_i2c255 (x : Int32) : nar .char ((x &&& (255 : Int32)).toUInt32.toUInt16.toUInt32.toInt32) = (x &&& (255 : Int32)) := by
  have t : ∀ k : Fin 256, nar .char ((Int32.ofNat k.val).toUInt32.toUInt16.toUInt32.toInt32) = Int32.ofNat k.val := by decide +kernel
  rw [own_lit x 0 (by decide)]
  exact t ⟨_, own_lt256 x⟩
theorem own_i2cr (x : Int32) : ¬ ((x &&& (255 : Int32)).toUInt32.toUInt16.toUInt32.toInt32) < 0 ∧ ¬ (255 : Int32) < ((x &&& (255 : Int32)).toUInt32.toUInt16.toUInt32.toInt32) := by
  have t : ∀ k : Fin 256, ¬ ((Int32.ofNat k.val).toUInt32.toUInt16.toUInt32.toInt32) < 0 ∧ ¬ (255 : Int32) < ((Int32.ofNat k.val).toUInt32.toUInt16.toUInt32.toInt32) := by decide +kernel
  rw [own_lit x 0 (by decide)]
  exact t ⟨_, own_lt256 x⟩
theorem own_rng {c : Int32} (h : ¬ c < 0 ∧ ¬ (255 : Int32) < c) : ∃ k : Fin 256, c = Int32.ofNat k.val := by
  obtain ⟨h0, h1⟩ := h
  rw [Int32.lt_iff_toInt_lt] at h0 h1
  have e1 : (255 : Int32).toInt = 255 := rfl
  have e2 : (0 : Int32).toInt = 0 := rfl
  refine ⟨⟨c.toInt.toNat, by omega⟩, ?_⟩
  apply Int32.toInt_inj.mp
  show c.toInt = (Int32.ofNat c.toInt.toNat).toInt
  rw [Int32.toInt_ofNat_of_lt (by omega)]
  omega
theorem own_narc {c : Int32} (h : ¬ c < 0 ∧ ¬ (255 : Int32) < c) : nar .char c = c := by
  have t : ∀ k : Fin 256, nar .char (Int32.ofNat k.val) = Int32.ofNat k.val := by decide +kernel
  obtain ⟨k, rfl⟩ := own_rng h
  exact t k
theorem own_fitsc {c : Int32} (h : ¬ c < 0 ∧ ¬ (255 : Int32) < c) : fits .char (.int c) = true := by
  have t : ∀ k : Fin 256, fits .char (.int (Int32.ofNat k.val)) = true := by decide +kernel
  obtain ⟨k, rfl⟩ := own_rng h
  exact t k
theorem own_up {cs : List Int32} (h : ∀ c ∈ cs, ¬ c < 0 ∧ ¬ (255 : Int32) < c) : ∀ c ∈ cs, ¬ c < 0 ∧ ¬ (65535 : Int32) < c := fun c hc => ⟨(h c hc).1, fun q => (h c hc).2 (by rw [Int32.lt_iff_toInt_lt] at q ⊢; have e1 : (65535 : Int32).toInt = 65535 := rfl; have e2 : (255 : Int32).toInt = 255 := rfl; omega)⟩
theorem own_hws {Z : State} {a0 : Array Value} (hw : ∀ d ∈ tables_1, d.before a0 Z = true) : ∀ d ∈ StrChars.Road.words, d.before a0 Z = true := fun d hd => hw d ((by decide +kernel : ∀ d ∈ StrChars.Road.words, d ∈ tables_1) d hd)
end Jvm.Pilot.@@N@@
namespace Jvm.Pilot.@@N@@
open Jvm Jvm.ClassFile Sem Op Lib Jvm.Free Jvm.Stand Jvm.LawKit Jvm.RoadKit Bundle Jvm.Pilot.@@N@@.Jvm.D
theorem d7_0 : decode prog_43_method_1_code 0 = .ok (.aload_n 0, 1) := by decide +kernel
theorem d7_1 : decode prog_43_method_1_code 1 = .ok (.invokespecial 1, 3) := by decide +kernel
theorem d7_4 : decode prog_43_method_1_code 4 = .ok (.aload_n 0, 1) := by decide +kernel
theorem d7_5 : decode prog_43_method_1_code 5 = .ok (.aload_n 1, 1) := by decide +kernel
theorem d7_6 : decode prog_43_method_1_code 6 = .ok (.putfield 7, 3) := by decide +kernel
theorem d7_9 : decode prog_43_method_1_code 9 = .ok (.aload_n 0, 1) := by decide +kernel
theorem d7_10 : decode prog_43_method_1_code 10 = .ok (.aload_n 2, 1) := by decide +kernel
theorem d7_11 : decode prog_43_method_1_code 11 = .ok (.putfield 13, 3) := by decide +kernel
theorem d7_14 : decode prog_43_method_1_code 14 = .ok (.return_, 1) := by decide +kernel
theorem d8_0 : decode jdk_30_method_1_code 0 = .ok (.aload_n 0, 1) := by decide +kernel
theorem d8_1 : decode jdk_30_method_1_code 1 = .ok (.invokespecial 1, 3) := by decide +kernel
theorem d8_4 : decode jdk_30_method_1_code 4 = .ok (.return_, 1) := by decide +kernel
theorem d9_0 : decode prog_43_method_2_code 0 = .ok (.aload_n 1, 1) := by decide +kernel
theorem d9_1 : decode prog_43_method_2_code 1 = .ok (.instanceof 8, 3) := by decide +kernel
theorem d9_4 : decode prog_43_method_2_code 4 = .ok (.ifCond .eq 34, 3) := by decide +kernel
theorem d9_7 : decode prog_43_method_2_code 7 = .ok (.aload_n 1, 1) := by decide +kernel
theorem d9_8 : decode prog_43_method_2_code 8 = .ok (.checkcast 8, 3) := by decide +kernel
theorem d9_11 : decode prog_43_method_2_code 11 = .ok (.astore_n 2, 1) := by decide +kernel
theorem d9_12 : decode prog_43_method_2_code 12 = .ok (.aload_n 2, 1) := by decide +kernel
theorem d9_13 : decode prog_43_method_2_code 13 = .ok (.getfield 7, 3) := by decide +kernel
theorem d9_16 : decode prog_43_method_2_code 16 = .ok (.aload_n 0, 1) := by decide +kernel
theorem d9_17 : decode prog_43_method_2_code 17 = .ok (.getfield 7, 3) := by decide +kernel
theorem d9_20 : decode prog_43_method_2_code 20 = .ok (.if_acmp .ne 18, 3) := by decide +kernel
theorem d9_23 : decode prog_43_method_2_code 23 = .ok (.aload_n 2, 1) := by decide +kernel
theorem d9_24 : decode prog_43_method_2_code 24 = .ok (.getfield 13, 3) := by decide +kernel
theorem d9_27 : decode prog_43_method_2_code 27 = .ok (.aload_n 0, 1) := by decide +kernel
theorem d9_28 : decode prog_43_method_2_code 28 = .ok (.getfield 13, 3) := by decide +kernel
theorem d9_31 : decode prog_43_method_2_code 31 = .ok (.if_acmp .ne 7, 3) := by decide +kernel
theorem d9_34 : decode prog_43_method_2_code 34 = .ok (.iconst 1, 1) := by decide +kernel
theorem d9_35 : decode prog_43_method_2_code 35 = .ok (.goto 4, 3) := by decide +kernel
theorem d9_38 : decode prog_43_method_2_code 38 = .ok (.iconst 0, 1) := by decide +kernel
theorem d9_39 : decode prog_43_method_2_code 39 = .ok (.ireturn, 1) := by decide +kernel
theorem pn_0 : plainName "java/lang/Record" = true := by first | (simp [plainName, overriddenIn]; done) | decide +kernel
theorem pn_1 : plainName "com/example/warrant/warrant/util/IdentityPair" = true := by first | (simp [plainName, overriddenIn]; done) | decide +kernel
theorem pn_2 : plainName "com/example/warrant/warrant/util/IdentityPairEqualsPinLaw" = true := by first | (simp [plainName, overriddenIn]; done) | decide +kernel
theorem pd_0 : parseMethodDescriptor "()V" = some ⟨[], none⟩ := by decide +kernel
theorem pd_1 : parseMethodDescriptor "([C)V" = some ⟨[(.array .char)], none⟩ := by decide +kernel
theorem pd_2 : parseMethodDescriptor "(Ljava/lang/Object;Ljava/lang/Object;)V" = some ⟨[(.object "java/lang/Object"), (.object "java/lang/Object")], none⟩ := by decide +kernel
theorem pd_3 : parseMethodDescriptor "(Ljava/lang/Object;)Z" = some ⟨[(.object "java/lang/Object")], some .boolean⟩ := by decide +kernel
theorem hw0 {Z : State} {a0 : Array Value} (hw : ∀ d ∈ tables_1, d.before a0 Z = true) : (Jvm.Cond.arrayClass Jvm.ClassFile.FieldType.char).before a0 Z = true := hw _ (List.mem_of_getElem? (i := 0) rfl)
theorem hw1 {Z : State} {a0 : Array Value} (hw : ∀ d ∈ tables_1, d.before a0 Z = true) : (Jvm.Cond.classLink "com/example/warrant/warrant/util/IdentityPairEqualsPinLaw" (2 : Nat) "java/lang/Object").before a0 Z = true := hw _ (List.mem_of_getElem? (i := 1) rfl)
theorem hw2 {Z : State} {a0 : Array Value} (hw : ∀ d ∈ tables_1, d.before a0 Z = true) : (Jvm.Cond.arrayOver (Jvm.ClassFile.FieldType.object "java/lang/Object")).before a0 Z = true := hw _ (List.mem_of_getElem? (i := 2) rfl)
theorem hw3 {Z : State} {a0 : Array Value} (hw : ∀ d ∈ tables_1, d.before a0 Z = true) : (Jvm.Cond.classLink "com/example/warrant/warrant/util/IdentityPairEqualsPinLaw" (7 : Nat) "java/lang/String").before a0 Z = true := hw _ (List.mem_of_getElem? (i := 3) rfl)
theorem hw4 {Z : State} {a0 : Array Value} (hw : ∀ d ∈ tables_1, d.before a0 Z = true) : (Jvm.Cond.instantiable "java/lang/String" (4 : Nat)).before a0 Z = true := hw _ (List.mem_of_getElem? (i := 4) rfl)
theorem hw5 {Z : State} {a0 : Array Value} (hw : ∀ d ∈ tables_1, d.before a0 Z = true) : (Jvm.Cond.initialized "java/lang/String").before a0 Z = true := hw _ (List.mem_of_getElem? (i := 5) rfl)
theorem hw6 {Z : State} {a0 : Array Value} (hw : ∀ d ∈ tables_1, d.before a0 Z = true) : (Jvm.Cond.methodLink "com/example/warrant/warrant/util/IdentityPairEqualsPinLaw" (9 : Nat) ({ cls := "java/lang/String", name := "<init>", desc := "([C)V" } : Jvm.MethodName)).before a0 Z = true := hw _ (List.mem_of_getElem? (i := 6) rfl)
theorem hw7 {Z : State} {a0 : Array Value} (hw : ∀ d ∈ tables_1, d.before a0 Z = true) : (Jvm.Cond.instanceMethod ({ cls := "java/lang/String", name := "<init>", desc := "([C)V" } : Jvm.MethodName)).before a0 Z = true := hw _ (List.mem_of_getElem? (i := 7) rfl)
theorem hw8 {Z : State} {a0 : Array Value} (hw : ∀ d ∈ tables_1, d.before a0 Z = true) : (Jvm.Cond.code ({ cls := "java/lang/String", name := "<init>", desc := "([C)V" } : Jvm.MethodName) jdk_42_method_3_code (2 : Nat) (Option.none : Option Jvm.ClassFile.FieldType)).before a0 Z = true := hw _ (List.mem_of_getElem? (i := 8) rfl)
theorem hw14 {Z : State} {a0 : Array Value} (hw : ∀ d ∈ tables_1, d.before a0 Z = true) : (Jvm.Cond.instanceMethod ({ cls := "java/lang/Object", name := "<init>", desc := "()V" } : Jvm.MethodName)).before a0 Z = true := hw _ (List.mem_of_getElem? (i := 14) rfl)
theorem hw15 {Z : State} {a0 : Array Value} (hw : ∀ d ∈ tables_1, d.before a0 Z = true) : (Jvm.Cond.code ({ cls := "java/lang/Object", name := "<init>", desc := "()V" } : Jvm.MethodName) object_method_1_code (1 : Nat) (Option.none : Option Jvm.ClassFile.FieldType)).before a0 Z = true := hw _ (List.mem_of_getElem? (i := 15) rfl)
theorem hw29 {Z : State} {a0 : Array Value} (hw : ∀ d ∈ tables_1, d.before a0 Z = true) : (Jvm.Cond.laysFinal "java/lang/String" "java/lang/String" "coder" "B").before a0 Z = true := hw _ (List.mem_of_getElem? (i := 29) rfl)
theorem hw31 {Z : State} {a0 : Array Value} (hw : ∀ d ∈ tables_1, d.before a0 Z = true) : (Jvm.Cond.laysFinal "java/lang/String" "java/lang/String" "value" "[B").before a0 Z = true := hw _ (List.mem_of_getElem? (i := 31) rfl)
theorem hw32 {Z : State} {a0 : Array Value} (hw : ∀ d ∈ tables_1, d.before a0 Z = true) : (Jvm.Cond.castable "java/lang/String" "java/lang/Object").before a0 Z = true := hw _ (List.mem_of_getElem? (i := 32) rfl)
theorem hw33 {Z : State} {a0 : Array Value} (hw : ∀ d ∈ tables_1, d.before a0 Z = true) : (Jvm.Cond.classLink "com/example/warrant/warrant/util/IdentityPairEqualsPinLaw" (12 : Nat) "com/example/warrant/warrant/util/IdentityPair").before a0 Z = true := hw _ (List.mem_of_getElem? (i := 33) rfl)
theorem hw34 {Z : State} {a0 : Array Value} (hw : ∀ d ∈ tables_1, d.before a0 Z = true) : (Jvm.Cond.instantiable "com/example/warrant/warrant/util/IdentityPair" (2 : Nat)).before a0 Z = true := hw _ (List.mem_of_getElem? (i := 34) rfl)
theorem hw35 {Z : State} {a0 : Array Value} (hw : ∀ d ∈ tables_1, d.before a0 Z = true) : (Jvm.Cond.initialized "com/example/warrant/warrant/util/IdentityPair").before a0 Z = true := hw _ (List.mem_of_getElem? (i := 35) rfl)
theorem hw36 {Z : State} {a0 : Array Value} (hw : ∀ d ∈ tables_1, d.before a0 Z = true) : (Jvm.Cond.methodLink "com/example/warrant/warrant/util/IdentityPairEqualsPinLaw" (14 : Nat) ({ cls := "com/example/warrant/warrant/util/IdentityPair", name := "<init>", desc := "(Ljava/lang/Object;Ljava/lang/Object;)V" } : Jvm.MethodName)).before a0 Z = true := hw _ (List.mem_of_getElem? (i := 36) rfl)
theorem hw37 {Z : State} {a0 : Array Value} (hw : ∀ d ∈ tables_1, d.before a0 Z = true) : (Jvm.Cond.instanceMethod ({ cls := "com/example/warrant/warrant/util/IdentityPair", name := "<init>", desc := "(Ljava/lang/Object;Ljava/lang/Object;)V" } : Jvm.MethodName)).before a0 Z = true := hw _ (List.mem_of_getElem? (i := 37) rfl)
theorem hw38 {Z : State} {a0 : Array Value} (hw : ∀ d ∈ tables_1, d.before a0 Z = true) : (Jvm.Cond.code ({ cls := "com/example/warrant/warrant/util/IdentityPair", name := "<init>", desc := "(Ljava/lang/Object;Ljava/lang/Object;)V" } : Jvm.MethodName) prog_43_method_1_code (3 : Nat) (Option.none : Option Jvm.ClassFile.FieldType)).before a0 Z = true := hw _ (List.mem_of_getElem? (i := 38) rfl)
theorem hw39 {Z : State} {a0 : Array Value} (hw : ∀ d ∈ tables_1, d.before a0 Z = true) : (Jvm.Cond.methodLink "com/example/warrant/warrant/util/IdentityPair" (1 : Nat) ({ cls := "java/lang/Record", name := "<init>", desc := "()V" } : Jvm.MethodName)).before a0 Z = true := hw _ (List.mem_of_getElem? (i := 39) rfl)
theorem hw40 {Z : State} {a0 : Array Value} (hw : ∀ d ∈ tables_1, d.before a0 Z = true) : (Jvm.Cond.instanceMethod ({ cls := "java/lang/Record", name := "<init>", desc := "()V" } : Jvm.MethodName)).before a0 Z = true := hw _ (List.mem_of_getElem? (i := 40) rfl)
theorem hw42 {Z : State} {a0 : Array Value} (hw : ∀ d ∈ tables_1, d.before a0 Z = true) : (Jvm.Cond.initialized "java/lang/Record").before a0 Z = true := hw _ (List.mem_of_getElem? (i := 42) rfl)
theorem hw43 {Z : State} {a0 : Array Value} (hw : ∀ d ∈ tables_1, d.before a0 Z = true) : (Jvm.Cond.code ({ cls := "java/lang/Record", name := "<init>", desc := "()V" } : Jvm.MethodName) jdk_30_method_1_code (1 : Nat) (Option.none : Option Jvm.ClassFile.FieldType)).before a0 Z = true := hw _ (List.mem_of_getElem? (i := 43) rfl)
theorem hw44 {Z : State} {a0 : Array Value} (hw : ∀ d ∈ tables_1, d.before a0 Z = true) : (Jvm.Cond.methodLink "java/lang/Record" (1 : Nat) ({ cls := "java/lang/Object", name := "<init>", desc := "()V" } : Jvm.MethodName)).before a0 Z = true := hw _ (List.mem_of_getElem? (i := 44) rfl)
theorem hw45 {Z : State} {a0 : Array Value} (hw : ∀ d ∈ tables_1, d.before a0 Z = true) : (Jvm.Cond.fieldLink "com/example/warrant/warrant/util/IdentityPair" (7 : Nat) "com/example/warrant/warrant/util/IdentityPair" "first" "Ljava/lang/Object;").before a0 Z = true := hw _ (List.mem_of_getElem? (i := 45) rfl)
theorem hw46 {Z : State} {a0 : Array Value} (hw : ∀ d ∈ tables_1, d.before a0 Z = true) : (Jvm.Cond.laysFinal "com/example/warrant/warrant/util/IdentityPair" "com/example/warrant/warrant/util/IdentityPair" "first" "Ljava/lang/Object;").before a0 Z = true := hw _ (List.mem_of_getElem? (i := 46) rfl)
theorem hw47 {Z : State} {a0 : Array Value} (hw : ∀ d ∈ tables_1, d.before a0 Z = true) : (Jvm.Cond.fieldLink "com/example/warrant/warrant/util/IdentityPair" (13 : Nat) "com/example/warrant/warrant/util/IdentityPair" "second" "Ljava/lang/Object;").before a0 Z = true := hw _ (List.mem_of_getElem? (i := 47) rfl)
theorem hw48 {Z : State} {a0 : Array Value} (hw : ∀ d ∈ tables_1, d.before a0 Z = true) : (Jvm.Cond.laysFinal "com/example/warrant/warrant/util/IdentityPair" "com/example/warrant/warrant/util/IdentityPair" "second" "Ljava/lang/Object;").before a0 Z = true := hw _ (List.mem_of_getElem? (i := 48) rfl)
theorem hw49 {Z : State} {a0 : Array Value} (hw : ∀ d ∈ tables_1, d.before a0 Z = true) : (Jvm.Cond.methodLink "com/example/warrant/warrant/util/IdentityPairEqualsPinLaw" (17 : Nat) ({ cls := "com/example/warrant/warrant/util/IdentityPair", name := "equals", desc := "(Ljava/lang/Object;)Z" } : Jvm.MethodName)).before a0 Z = true := hw _ (List.mem_of_getElem? (i := 49) rfl)
theorem hw50 {Z : State} {a0 : Array Value} (hw : ∀ d ∈ tables_1, d.before a0 Z = true) : (Jvm.Cond.declares ({ cls := "com/example/warrant/warrant/util/IdentityPair", name := "equals", desc := "(Ljava/lang/Object;)Z" } : Jvm.MethodName)).before a0 Z = true := hw _ (List.mem_of_getElem? (i := 50) rfl)
theorem hw51 {Z : State} {a0 : Array Value} (hw : ∀ d ∈ tables_1, d.before a0 Z = true) : (Jvm.Cond.instanceMethod ({ cls := "com/example/warrant/warrant/util/IdentityPair", name := "equals", desc := "(Ljava/lang/Object;)Z" } : Jvm.MethodName)).before a0 Z = true := hw _ (List.mem_of_getElem? (i := 51) rfl)
theorem hw52 {Z : State} {a0 : Array Value} (hw : ∀ d ∈ tables_1, d.before a0 Z = true) : (Jvm.Cond.selects "com/example/warrant/warrant/util/IdentityPair" ({ cls := "com/example/warrant/warrant/util/IdentityPair", name := "equals", desc := "(Ljava/lang/Object;)Z" } : Jvm.MethodName) ({ cls := "com/example/warrant/warrant/util/IdentityPair", name := "equals", desc := "(Ljava/lang/Object;)Z" } : Jvm.MethodName)).before a0 Z = true := hw _ (List.mem_of_getElem? (i := 52) rfl)
theorem hw53 {Z : State} {a0 : Array Value} (hw : ∀ d ∈ tables_1, d.before a0 Z = true) : (Jvm.Cond.code ({ cls := "com/example/warrant/warrant/util/IdentityPair", name := "equals", desc := "(Ljava/lang/Object;)Z" } : Jvm.MethodName) prog_43_method_2_code (3 : Nat) (Option.some Jvm.ClassFile.FieldType.boolean)).before a0 Z = true := hw _ (List.mem_of_getElem? (i := 53) rfl)
theorem hw54 {Z : State} {a0 : Array Value} (hw : ∀ d ∈ tables_1, d.before a0 Z = true) : (Jvm.Cond.classLink "com/example/warrant/warrant/util/IdentityPair" (8 : Nat) "com/example/warrant/warrant/util/IdentityPair").before a0 Z = true := hw _ (List.mem_of_getElem? (i := 54) rfl)
theorem hw56 {Z : State} {a0 : Array Value} (hw : ∀ d ∈ tables_1, d.before a0 Z = true) : (Jvm.Cond.superclass "java/lang/String" "java/lang/Object").before a0 Z = true := hw _ (List.mem_of_getElem? (i := 56) rfl)
theorem hw57 {Z : State} {a0 : Array Value} (hw : ∀ d ∈ tables_1, d.before a0 Z = true) : (Jvm.Cond.noSuperclass "java/lang/Object").before a0 Z = true := hw _ (List.mem_of_getElem? (i := 57) rfl)
theorem own_notIP {Z : State} {a0 : Array Value} (hw : ∀ d ∈ tables_1, d.before a0 Z = true) : ∃ c t, Z.vm.findClass "java/lang/String" = some c ∧ Z.vm.findClass "com/example/warrant/warrant/util/IdentityPair" = some t ∧ Z.vm.assignable c t = false := by
  obtain ⟨c, k, h1, -⟩ := Cond.instantiable_spec (hw4 hw)
  obtain ⟨t, kt, g1, g2, g3, g4, -⟩ := Cond.instantiable_spec (hw34 hw)
  refine ⟨c, t, h1, g1, Vm.notAssignable_of_chain (args := a0) (t := ["java/lang/Object"]) h1 g1 g2 g3 (by simpa using (Bool.or_eq_false_iff.mp g4).1) ?_ (by decide)⟩
  intro w hm
  simp only [Cond.chainWords, List.mem_cons, List.not_mem_nil, or_false] at hm
  rcases hm with rfl | rfl
  · exact hw56 hw
  · exact hw57 hw
theorem own_three (x : Int32) : (x &&& (3 : Int32)) = 0 ∨ (x &&& (3 : Int32)) = 1 ∨ (x &&& (3 : Int32)) = 2 ∨ (x &&& (3 : Int32)) = 3 := by
  have h : (x &&& 3).toBitVec.toNat < 4 := by
    simp only [Int32.toBitVec_and, BitVec.toNat_and]
    exact Nat.lt_succ_of_le Nat.and_le_right
  have e : (x &&& (3 : Int32)) = Int32.ofNat (x &&& 3).toBitVec.toNat := by
    apply Int32.toBitVec_inj.mp
    show _ = BitVec.ofNat 32 _
    rw [BitVec.ofNat_toNat]; simp
  have t : ∀ k : Fin 4, Int32.ofNat k.val = 0 ∨ Int32.ofNat k.val = 1 ∨ Int32.ofNat k.val = 2 ∨ Int32.ofNat k.val = 3 := by decide
  rw [e]
  exact t ⟨_, h⟩
abbrev Four (x : Int32) : Prop := x = 0 ∨ x = 1 ∨ x = 2 ∨ x = 3
theorem own_in4 {x : Int32} (h : Four x) : ¬ x < 0 ∧ x < (4 : Int32) := by rcases h with rfl | rfl | rfl | rfl <;> decide
def own_pool (a b c : Addr) (x : Int32) : Value := [Value.null, .ref a, .ref b, .ref c].getD x.toNatClampNeg .null
theorem own_pref {a b c : Addr} {x : Int32} (h : Four x) : (own_pool a b c x).isRef = true := by rcases h with rfl | rfl | rfl | rfl <;> rfl
theorem own_pinj {a b c : Addr} {x y : Int32} (hx : Four x) (hy : Four y) (n1 : a ≠ b) (n2 : a ≠ c) (n3 : b ≠ c) (h : own_pool a b c x = own_pool a b c y) : x = y := by
  rcases hx with rfl | rfl | rfl | rfl <;> rcases hy with rfl | rfl | rfl | rfl <;> first | rfl | (exfalso; first | exact absurd (show Value.null = Value.ref _ from h) (by simp) | exact absurd (show Value.ref _ = Value.null from h) (by simp) | exact n1 (Value.ref.inj h) | exact n1 (Value.ref.inj h).symm | exact n2 (Value.ref.inj h) | exact n2 (Value.ref.inj h).symm | exact n3 (Value.ref.inj h) | exact n3 (Value.ref.inj h).symm)
theorem own_ne {P : Prop} [Decidable P] (h : ¬ P) : (if P then (1 : Int32) else 0) = 0 := if_neg h
theorem ef_rec (m : MethodId) (a : Addr) : entryFrame m #[(.ref a)] 1 = (mkF m 0 #[.val (.ref a)] []) := by first | (simp [entryFrame, mkF, argsToLocals, Value.category]; done) | rfl
def Q_rec (Z : State) (a : Addr) (h0 : Heap) (n0 : Nat) (v : Option Value) (h : Heap) (L : List Loc) : Prop := v = none ∧ Fr n0 L ∧ h = h0
set_option maxRecDepth 65536 in
set_option maxHeartbeats 40000000 in
theorem rm_rec (l : Launch) (Z : State) (a0 : Array Value) (hw : ∀ d ∈ tables_1, d.before a0 Z = true) (ws : List Jvm.Cond) (a : Addr) (h0 : Heap) (n0 : Nat) (Z0 : n0 ≤ h0.size) :
    MetFree l (⟨"java/lang/Record", "<init>", "()V"⟩ : MethodName) (head1 (Jvm.Cond.code (⟨"java/lang/Record", "<init>", "()V"⟩ : MethodName) jdk_30_method_1_code 1 none :: ws) ({ frames := 1, cells := 0, slots := 0, locals := 12 } : Room)) (fun aR U => aR = #[(.ref a)] ∧ Z.Warmed39 U.vm ∧ U.heap = h0) (fun _ _ _ _ _ => True) (fun _ U o U' => ∃ v L, o = .returned v ∧ Q_rec Z a h0 n0 v U'.heap L ∧ FrameEnd U o U' L ({ frames := 1, cells := 0, slots := 0, locals := 12 } : Room).cells ({ frames := 1, cells := 0, slots := 0, locals := 12 } : Room).slots) := by
  refine MetFree.of_bodySF (plainFor_of_name pn_0) hisR ?_
  intro p e s m args below meth c s₁ Bd hml0 hP hK
  obtain ⟨rfl, hZ, hh⟩ := hP
  have hx := Bd.exec
  have hby := Bd.bytes
  have hml : c.maxLocals = 1 := hml0
  have hown : s.vm.findClass "java/lang/Record" = some m.cls := findClass_of_methodNamed Bd.named
  have hnm := (name_of_methodNamed Bd.named Bd.method).1
  have X0 : Stand p l e ({ frames := 1, cells := 0, slots := 0, locals := 12 } : Room) s m #[(.ref a)] below meth c s₁ [] 0 0 := Stand.of_body Bd
  have e0 : s₁.heap = h0 := by rw [← hh, Bd.state]; rfl
  have N0 := Fr.nil n0
  show Goes p.tables e below _ _
  rw [ef_rec m a]
  refine Goes.named ?_
  intro QQ hQQ
  refine Goes.st (fun t k => XS.aloadN X0.here hx rfl (hb hby d8_0) rfl rfl k) ?_
  show Goes _ _ _ _ (s₁.setTop (mkF m 1 #[.val (.ref a)] [(.ref a)]))
  obtain ⟨T1, X1, e1, st1⟩ := initO X0 hx hZ hown (hw44 hw) (hw14 hw) (hw15 hw) e0 (g := (mkF m 1 #[.val (.ref a)] [(.ref a)])) rfl (by rw [hml]; rfl) rfl (hb hby d8_1) (by decide) (W := 0) (by show 2 * 0 + _ ≤ _; exact Nat.le_of_eq rfl) (by decide)
  refine Goes.st st1 ?_
  show Goes _ _ _ _ (T1.setTop (mkF m 4 #[.val (.ref a)] []))
  obtain ⟨fs, hr, hrun, hended, hW, hsame⟩ := X1.leave (v := none) (fun _ => rfl)
  subst hQQ
  refine ⟨_, _, X1.returnOut hx Bd.returns (hb hby d8_4) hr, hrun, hended, _, _, rfl, ?_, ⟨_, rfl⟩, hW, hsame.mono (by decide) (by decide)⟩
  show Q_rec Z a h0 n0 _ T1.heap _
  rw [e1]
  exact ⟨rfl, N0, rfl⟩
theorem ef_pair (m : MethodId) (a : Addr) (u1 : Value) (u2 : Value) (r1 : u1.isRef = true) (r2 : u2.isRef = true) : entryFrame m #[(.ref a), u1, u2] 3 = (mkF m 0 #[.val (.ref a), .val u1, .val u2] []) := by first | (simp [entryFrame, mkF, argsToLocals, Value.category]; done) | rfl | (rcases ref_cases r1 with rfl | ⟨_, rfl⟩ <;> rcases ref_cases r2 with rfl | ⟨_, rfl⟩ <;> first | rfl | (simp [entryFrame, mkF, argsToLocals, Value.category]; done))
def Q_pair (Z : State) (a : Addr) (u1 : Value) (u2 : Value) (h0 : Heap) (n0 : Nat) (v : Option Value) (h : Heap) (L : List Loc) : Prop := v = none ∧ Fr n0 L ∧ Keep h0 h [a] ∧ Exa Z h a "com/example/warrant/warrant/util/IdentityPair" ∧ Fld Z h a "com/example/warrant/warrant/util/IdentityPair" "first" "Ljava/lang/Object;" u1 ∧ Fld Z h a "com/example/warrant/warrant/util/IdentityPair" "second" "Ljava/lang/Object;" u2
set_option maxRecDepth 65536 in
set_option maxHeartbeats 40000000 in
theorem rm_pair (l : Launch) (Z : State) (a0 : Array Value) (hw : ∀ d ∈ tables_1, d.before a0 Z = true) (ws : List Jvm.Cond) (a : Addr) (u1 : Value) (u2 : Value) (h0 : Heap) (n0 : Nat) (Z0 : n0 ≤ h0.size) (P0 : Exa Z h0 a "com/example/warrant/warrant/util/IdentityPair") (P1 : Fld Z h0 a "com/example/warrant/warrant/util/IdentityPair" "first" "Ljava/lang/Object;" .null) (P2 : Fld Z h0 a "com/example/warrant/warrant/util/IdentityPair" "second" "Ljava/lang/Object;" .null) (g_a : n0 ≤ a) (r1 : u1.isRef = true) (r2 : u2.isRef = true) :
    MetFree l (⟨"com/example/warrant/warrant/util/IdentityPair", "<init>", "(Ljava/lang/Object;Ljava/lang/Object;)V"⟩ : MethodName) (head1 (Jvm.Cond.code (⟨"com/example/warrant/warrant/util/IdentityPair", "<init>", "(Ljava/lang/Object;Ljava/lang/Object;)V"⟩ : MethodName) prog_43_method_1_code 3 none :: ws) ({ frames := 2, cells := 0, slots := 0, locals := 24 } : Room)) (fun aR U => aR = #[(.ref a), u1, u2] ∧ Z.Warmed39 U.vm ∧ U.heap = h0) (fun _ _ _ _ _ => True) (fun _ U o U' => ∃ v L, o = .returned v ∧ Q_pair Z a u1 u2 h0 n0 v U'.heap L ∧ FrameEnd U o U' L ({ frames := 2, cells := 0, slots := 0, locals := 24 } : Room).cells ({ frames := 2, cells := 0, slots := 0, locals := 24 } : Room).slots) := by
  refine MetFree.of_bodySF (plainFor_of_name pn_1) hisR ?_
  intro p e s m args below meth c s₁ Bd hml0 hP hK
  obtain ⟨rfl, hZ, hh⟩ := hP
  have hx := Bd.exec
  have hby := Bd.bytes
  have hml : c.maxLocals = 3 := hml0
  have hown : s.vm.findClass "com/example/warrant/warrant/util/IdentityPair" = some m.cls := findClass_of_methodNamed Bd.named
  have hnm := (name_of_methodNamed Bd.named Bd.method).1
  have X0 : Stand p l e ({ frames := 2, cells := 0, slots := 0, locals := 24 } : Room) s m #[(.ref a), u1, u2] below meth c s₁ [] 0 0 := Stand.of_body Bd
  have e0 : s₁.heap = h0 := by rw [← hh, Bd.state]; rfl
  have N0 := Fr.nil n0
  show Goes p.tables e below _ _
  rw [ef_pair m a u1 u2 r1 r2]
  refine Goes.named ?_
  intro QQ hQQ
  refine Goes.st (fun t k => XS.aloadN X0.here hx rfl (hb hby d7_0) rfl rfl k) ?_
  show Goes _ _ _ _ (s₁.setTop (mkF m 1 #[.val (.ref a), .val u1, .val u2] [(.ref a)]))
  obtain ⟨_, _, ⟨T1, L1, k1, n1⟩, -, X1, ⟨Lc1, hQ1, l1, y1, z1⟩, st1⟩ := X0.specialBack hx (y := (⟨"java/lang/Record", "<init>", "()V"⟩ : MethodName)) rfl hown (mvT hZ (hw39 hw)) (mvT hZ (hw40 hw)) (mvT hZ (hw43 hw)) (by decide) (backOf (W := 0) (rm_rec l Z a0 hw [] a h0 n0 Z0 ) hZ (hw43 hw) (hw42 hw) (by decide) (by decide)) (g := (mkF m 1 #[.val (.ref a), .val u1, .val u2] [(.ref a)])) rfl (by rw [hml]; rfl) (Steps.refl _) (a := a) (argsL := []) (rest := []) (lenOf pd_0 rfl) rfl (by show 2 * 0 + _ ≤ _; exact Nat.le_of_eq rfl) (hb hby d7_1) (fun _ _ => ⟨rfl, e0, (by decide : 0 + 0 ≤ _), (by decide : 0 + 0 ≤ _)⟩)
  dsimp only [Pt.U, Pt.locs, Pt.cells, Pt.slots] at X1 l1 y1 z1 st1 hQ1
  subst l1 y1 z1
  obtain ⟨rfl, N1q, K1⟩ := hQ1
  have N1 := Fr.app N0 N1q
  refine Goes.tr st1 ?_
  show Goes _ _ _ _ (T1.setTop (mkF m 4 #[.val (.ref a), .val u1, .val u2] []))
  refine Goes.st (fun t k => XS.aloadN X1.here hx rfl (hb hby d7_4) rfl rfl k) ?_
  show Goes _ _ _ _ (T1.setTop (mkF m 5 #[.val (.ref a), .val u1, .val u2] [(.ref a)]))
  refine Goes.st (fun t k => XS.aloadN X1.here hx rfl (hb hby d7_5) rfl r1 k) ?_
  show Goes _ _ _ _ (T1.setTop (mkF m 6 #[.val (.ref a), .val u1, .val u2] [u1, (.ref a)]))
  obtain ⟨T2, h2, X2, e2, W2, st2⟩ := putF X1 hx hZ hown (host := "") (Or.inl (hw45 hw)) Via.refl K1 P1 P0 (Or.inr ⟨(hw46 hw), rfl, hnm⟩) (hw34 hw) (ty := (.object "java/lang/Object")) (by decide) (own_narR r1) (own_fitsR r1 rfl) (g := (mkF m 6 #[.val (.ref a), .val u1, .val u2] [u1, (.ref a)])) rfl rfl (hb hby d7_6)
  have N2 := Fr.snoc X2 N1 g_a
  have F2 := P1.same W2
  refine Goes.st st2 ?_
  show Goes _ _ _ _ (T2.setTop (mkF m 9 #[.val (.ref a), .val u1, .val u2] []))
  refine Goes.st (fun t k => XS.aloadN X2.here hx rfl (hb hby d7_9) rfl rfl k) ?_
  show Goes _ _ _ _ (T2.setTop (mkF m 10 #[.val (.ref a), .val u1, .val u2] [(.ref a)]))
  refine Goes.st (fun t k => XS.aloadN X2.here hx rfl (hb hby d7_10) rfl r2 k) ?_
  show Goes _ _ _ _ (T2.setTop (mkF m 11 #[.val (.ref a), .val u1, .val u2] [u2, (.ref a)]))
  have f3 : Exa Z h2 a "com/example/warrant/warrant/util/IdentityPair" := (P0.wr W2)
  have f4 : Fld Z h2 a "com/example/warrant/warrant/util/IdentityPair" "second" "Ljava/lang/Object;" .null := (P2.other W2 (Or.inr (slot_ne (Or.inr (hw48 hw)) (Or.inr (hw46 hw)) (by decide) (t := (.object "java/lang/Object")) (t' := (.object "java/lang/Object")) (by decide) (by decide))))
  obtain ⟨T5, h5, X5, e5, W5, st5⟩ := putF X2 hx hZ hown (host := "") (Or.inl (hw47 hw)) Via.refl e2 f4 f3 (Or.inr ⟨(hw48 hw), rfl, hnm⟩) (hw34 hw) (ty := (.object "java/lang/Object")) (by decide) (own_narR r2) (own_fitsR r2 rfl) (g := (mkF m 11 #[.val (.ref a), .val u1, .val u2] [u2, (.ref a)])) rfl rfl (hb hby d7_11)
  have N5 := Fr.snoc X5 N2 g_a
  have F5 := f4.same W5
  refine Goes.st st5 ?_
  show Goes _ _ _ _ (T5.setTop (mkF m 14 #[.val (.ref a), .val u1, .val u2] []))
  have kp6 : Keep h0 h2 [a] := (Keep.refl h0 [a]).wr W2 (Or.inl (List.mem_of_getElem? (i := 0) rfl))
  have kp7 : Keep h0 h5 [a] := kp6.wr W5 (Or.inl (List.mem_of_getElem? (i := 0) rfl))
  have f8 : Exa Z h5 a "com/example/warrant/warrant/util/IdentityPair" := (f3.wr W5)
  have f9 : Fld Z h5 a "com/example/warrant/warrant/util/IdentityPair" "first" "Ljava/lang/Object;" u1 := (F2.other W5 (Or.inr (slot_ne (Or.inr (hw46 hw)) (Or.inr (hw48 hw)) (by decide) (t := (.object "java/lang/Object")) (t' := (.object "java/lang/Object")) (by decide) (by decide))))
  obtain ⟨fs, hr, hrun, hended, hW, hsame⟩ := X5.leave (v := none) (fun _ => rfl)
  subst hQQ
  refine ⟨_, _, X5.returnOut hx Bd.returns (hb hby d7_14) hr, hrun, hended, _, _, rfl, ?_, ⟨_, rfl⟩, hW, hsame.mono (by decide) (by decide)⟩
  show Q_pair Z a u1 u2 h0 n0 _ T5.heap _
  rw [e5]
  exact ⟨rfl, N5, kp7, f8, f9, F5⟩
theorem ef_eqN (m : MethodId) (a : Addr) : entryFrame m #[(.ref a), .null] 3 = (mkF m 0 #[.val (.ref a), .val .null, .unset] []) := by first | (simp [entryFrame, mkF, argsToLocals, Value.category]; done) | rfl
def Q_eqN (Z : State) (a : Addr) (h0 : Heap) (n0 : Nat) (v : Option Value) (h : Heap) (L : List Loc) : Prop := v = some (.int (0 : Int32)) ∧ Fr n0 L ∧ h = h0
set_option maxRecDepth 65536 in
set_option maxHeartbeats 40000000 in
theorem rm_eqN (l : Launch) (Z : State) (a0 : Array Value) (hw : ∀ d ∈ tables_1, d.before a0 Z = true) (ws : List Jvm.Cond) (a : Addr) (h0 : Heap) (n0 : Nat) (Z0 : n0 ≤ h0.size) :
    MetFree l (⟨"com/example/warrant/warrant/util/IdentityPair", "equals", "(Ljava/lang/Object;)Z"⟩ : MethodName) (head1 (Jvm.Cond.code (⟨"com/example/warrant/warrant/util/IdentityPair", "equals", "(Ljava/lang/Object;)Z"⟩ : MethodName) prog_43_method_2_code 3 (some .boolean) :: ws) ({ frames := 0, cells := 0, slots := 0, locals := 0 } : Room)) (fun aR U => aR = #[(.ref a), .null] ∧ Z.Warmed39 U.vm ∧ U.heap = h0) (fun _ _ _ _ _ => True) (fun _ U o U' => ∃ v L, o = .returned v ∧ Q_eqN Z a h0 n0 v U'.heap L ∧ FrameEnd U o U' L ({ frames := 0, cells := 0, slots := 0, locals := 0 } : Room).cells ({ frames := 0, cells := 0, slots := 0, locals := 0 } : Room).slots) := by
  refine MetFree.of_bodySF (plainFor_of_name pn_1) hisR ?_
  intro p e s m args below meth c s₁ Bd hml0 hP hK
  obtain ⟨rfl, hZ, hh⟩ := hP
  have hx := Bd.exec
  have hby := Bd.bytes
  have hml : c.maxLocals = 3 := hml0
  have hown : s.vm.findClass "com/example/warrant/warrant/util/IdentityPair" = some m.cls := findClass_of_methodNamed Bd.named
  have hnm := (name_of_methodNamed Bd.named Bd.method).1
  have X0 : Stand p l e ({ frames := 0, cells := 0, slots := 0, locals := 0 } : Room) s m #[(.ref a), .null] below meth c s₁ [] 0 0 := Stand.of_body Bd
  have e0 : s₁.heap = h0 := by rw [← hh, Bd.state]; rfl
  have N0 := Fr.nil n0
  show Goes p.tables e below _ _
  rw [ef_eqN m a]
  refine Goes.named ?_
  intro QQ hQQ
  refine Goes.st (fun t k => XS.aloadN X0.here hx rfl (hb hby d9_0) rfl rfl k) ?_
  show Goes _ _ _ _ (s₁.setTop (mkF m 1 #[.val (.ref a), .val .null, .unset] [.null]))
  refine Goes.st (fun t k => X0.instanceofNull hx (g := (mkF m 1 #[.val (.ref a), .val .null, .unset] [.null])) rfl rfl (hb hby d9_1) _ k) ?_
  show Goes _ _ _ _ (s₁.setTop (mkF m 4 #[.val (.ref a), .val .null, .unset] [(.int (0 : Int32))]))
  refine Goes.st (fun t k => XS.ifYes X0.here hx rfl (pc0 := 4) (pc' := 38) rfl (hb hby d9_4) rfl ((if0 _ _).trans (teq (by decide : (0 : Int32) = (0 : Int32))).1) (by decide) (by decide) k) ?_
  show Goes _ _ _ _ (s₁.setTop (mkF m 38 #[.val (.ref a), .val .null, .unset] []))
  refine Goes.st (fun t k => XS.iconst X0.here hx rfl (hb hby d9_38) k) ?_
  show Goes _ _ _ _ (s₁.setTop (mkF m 39 #[.val (.ref a), .val .null, .unset] [(.int (0 : Int32))]))
  obtain ⟨fs, hr, hrun, hended, hW, hsame⟩ := X0.leave (v := some (.int (0 : Int32))) (fun h => by rw [Bd.returns] at h; cases h)
  subst hQQ
  refine ⟨_, _, retN X0 hx (t := .boolean) Bd.returns (by simp) (hb hby d9_39) hr, hrun, hended, _, _, rfl, ?_, ⟨_, rfl⟩, hW, hsame.mono (by decide) (by decide)⟩
  show Q_eqN Z a h0 n0 _ s₁.heap _
  rw [e0]
  exact ⟨rfl, N0, rfl⟩
theorem ef_eqS (m : MethodId) (a : Addr) (b : Addr) : entryFrame m #[(.ref a), (.ref b)] 3 = (mkF m 0 #[.val (.ref a), .val (.ref b), .unset] []) := by first | (simp [entryFrame, mkF, argsToLocals, Value.category]; done) | rfl
def Q_eqS (Z : State) (a : Addr) (b : Addr) (h0 : Heap) (n0 : Nat) (v : Option Value) (h : Heap) (L : List Loc) : Prop := v = some (.int (0 : Int32)) ∧ Fr n0 L ∧ h = h0
set_option maxRecDepth 65536 in
set_option maxHeartbeats 40000000 in
theorem rm_eqS (l : Launch) (Z : State) (a0 : Array Value) (hw : ∀ d ∈ tables_1, d.before a0 Z = true) (ws : List Jvm.Cond) (a : Addr) (b : Addr) (h0 : Heap) (n0 : Nat) (Z0 : n0 ≤ h0.size) (P0 : Exa Z h0 b "java/lang/String") :
    MetFree l (⟨"com/example/warrant/warrant/util/IdentityPair", "equals", "(Ljava/lang/Object;)Z"⟩ : MethodName) (head1 (Jvm.Cond.code (⟨"com/example/warrant/warrant/util/IdentityPair", "equals", "(Ljava/lang/Object;)Z"⟩ : MethodName) prog_43_method_2_code 3 (some .boolean) :: ws) ({ frames := 0, cells := 0, slots := 0, locals := 0 } : Room)) (fun aR U => aR = #[(.ref a), (.ref b)] ∧ Z.Warmed39 U.vm ∧ U.heap = h0) (fun _ _ _ _ _ => True) (fun _ U o U' => ∃ v L, o = .returned v ∧ Q_eqS Z a b h0 n0 v U'.heap L ∧ FrameEnd U o U' L ({ frames := 0, cells := 0, slots := 0, locals := 0 } : Room).cells ({ frames := 0, cells := 0, slots := 0, locals := 0 } : Room).slots) := by
  refine MetFree.of_bodySF (plainFor_of_name pn_1) hisR ?_
  intro p e s m args below meth c s₁ Bd hml0 hP hK
  obtain ⟨rfl, hZ, hh⟩ := hP
  have hx := Bd.exec
  have hby := Bd.bytes
  have hml : c.maxLocals = 3 := hml0
  have hown : s.vm.findClass "com/example/warrant/warrant/util/IdentityPair" = some m.cls := findClass_of_methodNamed Bd.named
  have hnm := (name_of_methodNamed Bd.named Bd.method).1
  have X0 : Stand p l e ({ frames := 0, cells := 0, slots := 0, locals := 0 } : Room) s m #[(.ref a), (.ref b)] below meth c s₁ [] 0 0 := Stand.of_body Bd
  have e0 : s₁.heap = h0 := by rw [← hh, Bd.state]; rfl
  have N0 := Fr.nil n0
  show Goes p.tables e below _ _
  rw [ef_eqS m a b]
  refine Goes.named ?_
  intro QQ hQQ
  refine Goes.st (fun t k => XS.aloadN X0.here hx rfl (hb hby d9_0) rfl rfl k) ?_
  show Goes _ _ _ _ (s₁.setTop (mkF m 1 #[.val (.ref a), .val (.ref b), .unset] [(.ref b)]))
  obtain ⟨T2, X2, e2, st2⟩ := instNo X0 hx hZ hown (hw54 hw) e0 P0 (own_notIP hw) (g := (mkF m 1 #[.val (.ref a), .val (.ref b), .unset] [(.ref b)])) rfl rfl (hb hby d9_1)
  refine Goes.st st2 ?_
  show Goes _ _ _ _ (T2.setTop (mkF m 4 #[.val (.ref a), .val (.ref b), .unset] [(.int (0 : Int32))]))
  refine Goes.st (fun t k => XS.ifYes X2.here hx rfl (pc0 := 4) (pc' := 38) rfl (hb hby d9_4) rfl ((if0 _ _).trans (teq (by decide : (0 : Int32) = (0 : Int32))).1) (by decide) (by decide) k) ?_
  show Goes _ _ _ _ (T2.setTop (mkF m 38 #[.val (.ref a), .val (.ref b), .unset] []))
  refine Goes.st (fun t k => XS.iconst X2.here hx rfl (hb hby d9_38) k) ?_
  show Goes _ _ _ _ (T2.setTop (mkF m 39 #[.val (.ref a), .val (.ref b), .unset] [(.int (0 : Int32))]))
  obtain ⟨fs, hr, hrun, hended, hW, hsame⟩ := X2.leave (v := some (.int (0 : Int32))) (fun h => by rw [Bd.returns] at h; cases h)
  subst hQQ
  refine ⟨_, _, retN X2 hx (t := .boolean) Bd.returns (by simp) (hb hby d9_39) hr, hrun, hended, _, _, rfl, ?_, ⟨_, rfl⟩, hW, hsame.mono (by decide) (by decide)⟩
  show Q_eqS Z a b h0 n0 _ T2.heap _
  rw [e2]
  exact ⟨rfl, N0, rfl⟩
theorem ef_eqP (m : MethodId) (a : Addr) (b : Addr) (u1 : Value) (u2 : Value) (w1 : Value) (w2 : Value) (r1 : u1.isRef = true) (r2 : u2.isRef = true) (s1 : w1.isRef = true) (s2 : w2.isRef = true) : entryFrame m #[(.ref a), (.ref b)] 3 = (mkF m 0 #[.val (.ref a), .val (.ref b), .unset] []) := by first | (simp [entryFrame, mkF, argsToLocals, Value.category]; done) | rfl | (rcases ref_cases r1 with rfl | ⟨_, rfl⟩ <;> rcases ref_cases r2 with rfl | ⟨_, rfl⟩ <;> rcases ref_cases s1 with rfl | ⟨_, rfl⟩ <;> rcases ref_cases s2 with rfl | ⟨_, rfl⟩ <;> first | rfl | (simp [entryFrame, mkF, argsToLocals, Value.category]; done))
def Q_eqP (Z : State) (a : Addr) (b : Addr) (u1 : Value) (u2 : Value) (w1 : Value) (w2 : Value) (h0 : Heap) (n0 : Nat) (v : Option Value) (h : Heap) (L : List Loc) : Prop := v = some (.int (if w1 = u1 ∧ w2 = u2 then (1 : Int32) else 0)) ∧ Fr n0 L ∧ h = h0
set_option maxRecDepth 65536 in
set_option maxHeartbeats 40000000 in
theorem rm_eqP (l : Launch) (Z : State) (a0 : Array Value) (hw : ∀ d ∈ tables_1, d.before a0 Z = true) (ws : List Jvm.Cond) (a : Addr) (b : Addr) (u1 : Value) (u2 : Value) (w1 : Value) (w2 : Value) (h0 : Heap) (n0 : Nat) (Z0 : n0 ≤ h0.size) (P0 : Exa Z h0 b "com/example/warrant/warrant/util/IdentityPair") (P1 : Fld Z h0 a "com/example/warrant/warrant/util/IdentityPair" "first" "Ljava/lang/Object;" u1) (P2 : Fld Z h0 a "com/example/warrant/warrant/util/IdentityPair" "second" "Ljava/lang/Object;" u2) (P3 : Fld Z h0 b "com/example/warrant/warrant/util/IdentityPair" "first" "Ljava/lang/Object;" w1) (P4 : Fld Z h0 b "com/example/warrant/warrant/util/IdentityPair" "second" "Ljava/lang/Object;" w2) (r1 : u1.isRef = true) (r2 : u2.isRef = true) (s1 : w1.isRef = true) (s2 : w2.isRef = true) :
    MetFree l (⟨"com/example/warrant/warrant/util/IdentityPair", "equals", "(Ljava/lang/Object;)Z"⟩ : MethodName) (head1 (Jvm.Cond.code (⟨"com/example/warrant/warrant/util/IdentityPair", "equals", "(Ljava/lang/Object;)Z"⟩ : MethodName) prog_43_method_2_code 3 (some .boolean) :: ws) ({ frames := 0, cells := 0, slots := 0, locals := 0 } : Room)) (fun aR U => aR = #[(.ref a), (.ref b)] ∧ Z.Warmed39 U.vm ∧ U.heap = h0) (fun _ _ _ _ _ => True) (fun _ U o U' => ∃ v L, o = .returned v ∧ Q_eqP Z a b u1 u2 w1 w2 h0 n0 v U'.heap L ∧ FrameEnd U o U' L ({ frames := 0, cells := 0, slots := 0, locals := 0 } : Room).cells ({ frames := 0, cells := 0, slots := 0, locals := 0 } : Room).slots) := by
  refine MetFree.of_bodySF (plainFor_of_name pn_1) hisR ?_
  intro p e s m args below meth c s₁ Bd hml0 hP hK
  obtain ⟨rfl, hZ, hh⟩ := hP
  have hx := Bd.exec
  have hby := Bd.bytes
  have hml : c.maxLocals = 3 := hml0
  have hown : s.vm.findClass "com/example/warrant/warrant/util/IdentityPair" = some m.cls := findClass_of_methodNamed Bd.named
  have hnm := (name_of_methodNamed Bd.named Bd.method).1
  have X0 : Stand p l e ({ frames := 0, cells := 0, slots := 0, locals := 0 } : Room) s m #[(.ref a), (.ref b)] below meth c s₁ [] 0 0 := Stand.of_body Bd
  have e0 : s₁.heap = h0 := by rw [← hh, Bd.state]; rfl
  have N0 := Fr.nil n0
  show Goes p.tables e below _ _
  rw [ef_eqP m a b u1 u2 w1 w2 r1 r2 s1 s2]
  refine Goes.named ?_
  intro QQ hQQ
  refine Goes.st (fun t k => XS.aloadN X0.here hx rfl (hb hby d9_0) rfl rfl k) ?_
  show Goes _ _ _ _ (s₁.setTop (mkF m 1 #[.val (.ref a), .val (.ref b), .unset] [(.ref b)]))
  obtain ⟨T1, X1, e1, st1⟩ := instY X0 hx hZ hown (hw54 hw) e0 (Ins.self P0) (g := (mkF m 1 #[.val (.ref a), .val (.ref b), .unset] [(.ref b)])) rfl rfl (hb hby d9_1)
  refine Goes.st st1 ?_
  show Goes _ _ _ _ (T1.setTop (mkF m 4 #[.val (.ref a), .val (.ref b), .unset] [(.int (1 : Int32))]))
  refine Goes.st (fun t k => XS.ifNo X1.here hx rfl (hb hby d9_4) rfl ((if0 _ _).trans (feq (by decide : ¬ ((1 : Int32) = (0 : Int32)))).1) k) ?_
  show Goes _ _ _ _ (T1.setTop (mkF m 7 #[.val (.ref a), .val (.ref b), .unset] []))
  refine Goes.st (fun t k => XS.aloadN X1.here hx rfl (hb hby d9_7) rfl rfl k) ?_
  show Goes _ _ _ _ (T1.setTop (mkF m 8 #[.val (.ref a), .val (.ref b), .unset] [(.ref b)]))
  obtain ⟨T2, X2, e2, st2⟩ := castY X1 hx hZ hown (hw54 hw) e1 (Ins.self P0) (g := (mkF m 8 #[.val (.ref a), .val (.ref b), .unset] [(.ref b)])) rfl rfl (hb hby d9_8)
  refine Goes.st st2 ?_
  show Goes _ _ _ _ (T2.setTop (mkF m 11 #[.val (.ref a), .val (.ref b), .unset] [(.ref b)]))
  refine Goes.st (fun t k => XS.astoreN X2.here hx rfl (hb hby d9_11) rfl rfl (l' := #[.val (.ref a), .val (.ref b), .val (.ref b)]) rfl k) ?_
  show Goes _ _ _ _ (T2.setTop (mkF m 12 #[.val (.ref a), .val (.ref b), .val (.ref b)] []))
  refine Goes.st (fun t k => XS.aloadN X2.here hx rfl (hb hby d9_12) rfl rfl k) ?_
  show Goes _ _ _ _ (T2.setTop (mkF m 13 #[.val (.ref a), .val (.ref b), .val (.ref b)] [(.ref b)]))
  obtain ⟨T3, X3, e3, st3⟩ := getF X2 hx hZ hown (host := "") (Or.inl (hw45 hw)) Via.refl e2 P3 (g := (mkF m 13 #[.val (.ref a), .val (.ref b), .val (.ref b)] [(.ref b)])) rfl rfl (hb hby d9_13)
  refine Goes.st st3 ?_
  show Goes _ _ _ _ (T3.setTop (mkF m 16 #[.val (.ref a), .val (.ref b), .val (.ref b)] [w1]))
  refine Goes.st (fun t k => XS.aloadN X3.here hx rfl (hb hby d9_16) rfl rfl k) ?_
  show Goes _ _ _ _ (T3.setTop (mkF m 17 #[.val (.ref a), .val (.ref b), .val (.ref b)] [(.ref a), w1]))
  obtain ⟨T4, X4, e4, st4⟩ := getF X3 hx hZ hown (host := "") (Or.inl (hw45 hw)) Via.refl e3 P1 (g := (mkF m 17 #[.val (.ref a), .val (.ref b), .val (.ref b)] [(.ref a), w1])) rfl rfl (hb hby d9_17)
  refine Goes.st st4 ?_
  show Goes _ _ _ _ (T4.setTop (mkF m 20 #[.val (.ref a), .val (.ref b), .val (.ref b)] [u1, w1]))
  by_cases c5 : w1 = u1
  case pos =>
    refine Goes.st (fun t k => Jvm.RoadKit.acmp (g := (mkF m 20 #[.val (.ref a), .val (.ref b), .val (.ref b)] [u1, w1])) X4 hx rfl s1 r1 (pc0 := 20) (pc' := 23) (same := true) rfl (hb hby d9_20) rfl (decide_eq_true c5) (by decide) (by decide) k) ?_
    show Goes _ _ _ _ (T4.setTop (mkF m 23 #[.val (.ref a), .val (.ref b), .val (.ref b)] []))
    refine Goes.st (fun t k => XS.aloadN X4.here hx rfl (hb hby d9_23) rfl rfl k) ?_
    show Goes _ _ _ _ (T4.setTop (mkF m 24 #[.val (.ref a), .val (.ref b), .val (.ref b)] [(.ref b)]))
    obtain ⟨T6, X6, e6, st6⟩ := getF X4 hx hZ hown (host := "") (Or.inl (hw47 hw)) Via.refl e4 P4 (g := (mkF m 24 #[.val (.ref a), .val (.ref b), .val (.ref b)] [(.ref b)])) rfl rfl (hb hby d9_24)
    refine Goes.st st6 ?_
    show Goes _ _ _ _ (T6.setTop (mkF m 27 #[.val (.ref a), .val (.ref b), .val (.ref b)] [w2]))
    refine Goes.st (fun t k => XS.aloadN X6.here hx rfl (hb hby d9_27) rfl rfl k) ?_
    show Goes _ _ _ _ (T6.setTop (mkF m 28 #[.val (.ref a), .val (.ref b), .val (.ref b)] [(.ref a), w2]))
    obtain ⟨T7, X7, e7, st7⟩ := getF X6 hx hZ hown (host := "") (Or.inl (hw47 hw)) Via.refl e6 P2 (g := (mkF m 28 #[.val (.ref a), .val (.ref b), .val (.ref b)] [(.ref a), w2])) rfl rfl (hb hby d9_28)
    refine Goes.st st7 ?_
    show Goes _ _ _ _ (T7.setTop (mkF m 31 #[.val (.ref a), .val (.ref b), .val (.ref b)] [u2, w2]))
    by_cases c8 : w2 = u2
    case pos =>
      refine Goes.st (fun t k => Jvm.RoadKit.acmp (g := (mkF m 31 #[.val (.ref a), .val (.ref b), .val (.ref b)] [u2, w2])) X7 hx rfl s2 r2 (pc0 := 31) (pc' := 34) (same := true) rfl (hb hby d9_31) rfl (decide_eq_true c8) (by decide) (by decide) k) ?_
      show Goes _ _ _ _ (T7.setTop (mkF m 34 #[.val (.ref a), .val (.ref b), .val (.ref b)] []))
      refine Goes.st (fun t k => XS.iconst X7.here hx rfl (hb hby d9_34) k) ?_
      show Goes _ _ _ _ (T7.setTop (mkF m 35 #[.val (.ref a), .val (.ref b), .val (.ref b)] [(.int (1 : Int32))]))
      refine Goes.st (fun t k => XS.goto X7.here hx rfl (pc0 := 35) (pc' := 39) rfl (hb hby d9_35) (by decide) (by decide) k) ?_
      show Goes _ _ _ _ (T7.setTop (mkF m 39 #[.val (.ref a), .val (.ref b), .val (.ref b)] [(.int (1 : Int32))]))
      obtain ⟨fs, hr, hrun, hended, hW, hsame⟩ := X7.leave (v := some (.int (1 : Int32))) (fun h => by rw [Bd.returns] at h; cases h)
      subst hQQ
      refine ⟨_, _, retN X7 hx (t := .boolean) Bd.returns (by simp) (hb hby d9_39) hr, hrun, hended, _, _, rfl, ?_, ⟨_, rfl⟩, hW, hsame.mono (by decide) (by decide)⟩
      show Q_eqP Z a b u1 u2 w1 w2 h0 n0 _ T7.heap _
      rw [e7]
      exact ⟨(by rw [if_pos ⟨c5, c8⟩]), N0, rfl⟩
    case neg =>
      refine Goes.st (fun t k => Jvm.RoadKit.acmp (g := (mkF m 31 #[.val (.ref a), .val (.ref b), .val (.ref b)] [u2, w2])) X7 hx rfl s2 r2 (pc0 := 31) (pc' := 38) (same := false) rfl (hb hby d9_31) rfl (decide_eq_false c8) (by decide) (by decide) k) ?_
      show Goes _ _ _ _ (T7.setTop (mkF m 38 #[.val (.ref a), .val (.ref b), .val (.ref b)] []))
      refine Goes.st (fun t k => XS.iconst X7.here hx rfl (hb hby d9_38) k) ?_
      show Goes _ _ _ _ (T7.setTop (mkF m 39 #[.val (.ref a), .val (.ref b), .val (.ref b)] [(.int (0 : Int32))]))
      obtain ⟨fs, hr, hrun, hended, hW, hsame⟩ := X7.leave (v := some (.int (0 : Int32))) (fun h => by rw [Bd.returns] at h; cases h)
      subst hQQ
      refine ⟨_, _, retN X7 hx (t := .boolean) Bd.returns (by simp) (hb hby d9_39) hr, hrun, hended, _, _, rfl, ?_, ⟨_, rfl⟩, hW, hsame.mono (by decide) (by decide)⟩
      show Q_eqP Z a b u1 u2 w1 w2 h0 n0 _ T7.heap _
      rw [e7]
      exact ⟨(by rw [if_neg (fun q => c8 q.2)]), N0, rfl⟩
  case neg =>
    refine Goes.st (fun t k => Jvm.RoadKit.acmp (g := (mkF m 20 #[.val (.ref a), .val (.ref b), .val (.ref b)] [u1, w1])) X4 hx rfl s1 r1 (pc0 := 20) (pc' := 38) (same := false) rfl (hb hby d9_20) rfl (decide_eq_false c5) (by decide) (by decide) k) ?_
    show Goes _ _ _ _ (T4.setTop (mkF m 38 #[.val (.ref a), .val (.ref b), .val (.ref b)] []))
    refine Goes.st (fun t k => XS.iconst X4.here hx rfl (hb hby d9_38) k) ?_
    show Goes _ _ _ _ (T4.setTop (mkF m 39 #[.val (.ref a), .val (.ref b), .val (.ref b)] [(.int (0 : Int32))]))
    obtain ⟨fs, hr, hrun, hended, hW, hsame⟩ := X4.leave (v := some (.int (0 : Int32))) (fun h => by rw [Bd.returns] at h; cases h)
    subst hQQ
    refine ⟨_, _, retN X4 hx (t := .boolean) Bd.returns (by simp) (hb hby d9_39) hr, hrun, hended, _, _, rfl, ?_, ⟨_, rfl⟩, hW, hsame.mono (by decide) (by decide)⟩
    show Q_eqP Z a b u1 u2 w1 w2 h0 n0 _ T4.heap _
    rw [e4]
    exact ⟨(by rw [if_neg (fun q => c5 q.1)]), N0, rfl⟩
theorem ef_law (m : MethodId) (p0 : Int32) (p1 : Int32) (p2 : Int32) (p3 : Int32) (G1 : Int32) : entryFrame m #[(.int p0), (.int p1), (.int p2), (.int p3)] maxLocals = (mkF m 0 #[.val (.int p0), .val (.int p1), .val (.int p2), .val (.int p3), .unset, .unset, .unset, .unset, .unset, .unset, .unset, .unset, .unset, .unset, .unset] []) := by first | (simp [entryFrame, mkF, argsToLocals, Value.category, maxLocals]; done) | rfl
def Q_law (Z : State) (p0 : Int32) (p1 : Int32) (p2 : Int32) (p3 : Int32) (G1 : Int32) (h0 : Heap) (n0 : Nat) (v : Option Value) (h : Heap) (L : List Loc) : Prop := v = some (.int (1 : Int32)) ∧ Fr n0 L
set_option maxRecDepth 65536 in
set_option maxHeartbeats 40000000 in
theorem rm_law (l : Launch) (Z : State) (a0 : Array Value) (hw : ∀ d ∈ tables_1, d.before a0 Z = true) (ws : List Jvm.Cond) (p0 : Int32) (p1 : Int32) (p2 : Int32) (p3 : Int32) (G1 : Int32) (h0 : Heap) (n0 : Nat) (Z0 : n0 ≤ h0.size) (P0 : Old Z n0 h0) (O2 : Sta Z Z.heap "java/lang/String" "COMPACT_STRINGS" "Z" (.int G1)) (P5 : ¬ (G1 = (0 : Int32))) :
    MetFree l x (head1 (Jvm.Cond.code x code maxLocals ret :: ws) room_1) (fun aR U => aR = #[(.int p0), (.int p1), (.int p2), (.int p3)] ∧ Z.Warmed39 U.vm ∧ U.heap = h0) (fun _ _ _ _ _ => True) (fun _ U o U' => ∃ v L, o = .returned v ∧ Q_law Z p0 p1 p2 p3 G1 h0 n0 v U'.heap L ∧ FrameEnd U o U' L room_1.cells room_1.slots) := by
  refine MetFree.of_bodySF (plainFor_of_name pn_2) hisR ?_
  intro p e s m args below meth c s₁ Bd hml0 hP hK
  obtain ⟨rfl, hZ, hh⟩ := hP
  have hx := Bd.exec
  have hby := Bd.bytes
  have hml : c.maxLocals = 15 := hml0
  have hown : s.vm.findClass "com/example/warrant/warrant/util/IdentityPairEqualsPinLaw" = some m.cls := findClass_of_methodNamed Bd.named
  have hnm := (name_of_methodNamed Bd.named Bd.method).1
  have X0 : Stand p l e room_1 s m #[(.int p0), (.int p1), (.int p2), (.int p3)] below meth c s₁ [] 0 0 := Stand.of_body Bd
  have e0 : s₁.heap = h0 := by rw [← hh, Bd.state]; rfl
  have N0 := Fr.nil n0
  show Goes p.tables e below _ _
  rw [ef_law m p0 p1 p2 p3 G1]
  refine Goes.named ?_
  intro QQ hQQ
  refine Goes.st (fun t k => XS.iconst X0.here hx rfl (hb hby at_0) k) ?_
  show Goes _ _ _ _ (s₁.setTop (mkF m 1 #[.val (.int p0), .val (.int p1), .val (.int p2), .val (.int p3), .unset, .unset, .unset, .unset, .unset, .unset, .unset, .unset, .unset, .unset, .unset] [(.int (2 : Int32))]))
  obtain ⟨T1, h1, k1, X1, e1, E1, A1, st1⟩ := newP X0 hx hZ (aty := .char) (hw0 hw) e0 (g := (mkF m 1 #[.val (.int p0), .val (.int p1), .val (.int p2), .val (.int p3), .unset, .unset, .unset, .unset, .unset, .unset, .unset, .unset, .unset, .unset, .unset] [(.int (2 : Int32))])) rfl (hb hby at_1) rfl (by decide) (cap := 2) (by decide) (by decide) (by decide) (by decide)
  obtain ⟨b1, g1⟩ : ∃ z, z = h0.size := ⟨_, rfl⟩
  rw [← g1] at A1 st1
  have V1 : Arv Z h1 b1 k1 .char (2 : Int32) [(.int (0 : Int32)), (.int (0 : Int32))] (.int (0 : Int32)) := (Arv.new A1 (by decide)).pad (pad_rep [] (.int (0 : Int32)) 2)
  refine Goes.st st1 ?_
  show Goes _ _ _ _ (T1.setTop (mkF m 3 #[.val (.int p0), .val (.int p1), .val (.int p2), .val (.int p3), .unset, .unset, .unset, .unset, .unset, .unset, .unset, .unset, .unset, .unset, .unset] [(.ref b1)]))
  refine Goes.st (fun t k => XS.astore X1.here hx rfl (hb hby at_3) rfl rfl (l' := #[.val (.int p0), .val (.int p1), .val (.int p2), .val (.int p3), .val (.ref b1), .unset, .unset, .unset, .unset, .unset, .unset, .unset, .unset, .unset, .unset]) rfl k) ?_
  show Goes _ _ _ _ (T1.setTop (mkF m 5 #[.val (.int p0), .val (.int p1), .val (.int p2), .val (.int p3), .val (.ref b1), .unset, .unset, .unset, .unset, .unset, .unset, .unset, .unset, .unset, .unset] []))
  refine Goes.st (fun t k => XS.aload X1.here hx rfl (hb hby at_5) rfl rfl k) ?_
  show Goes _ _ _ _ (T1.setTop (mkF m 7 #[.val (.int p0), .val (.int p1), .val (.int p2), .val (.int p3), .val (.ref b1), .unset, .unset, .unset, .unset, .unset, .unset, .unset, .unset, .unset, .unset] [(.ref b1)]))
  refine Goes.st (fun t k => XS.iconst X1.here hx rfl (hb hby at_7) k) ?_
  show Goes _ _ _ _ (T1.setTop (mkF m 8 #[.val (.int p0), .val (.int p1), .val (.int p2), .val (.int p3), .val (.ref b1), .unset, .unset, .unset, .unset, .unset, .unset, .unset, .unset, .unset, .unset] [(.int (0 : Int32)), (.ref b1)]))
  refine Goes.st (fun t k => XS.iloadN X1.here hx rfl (hb hby at_8) rfl k) ?_
  show Goes _ _ _ _ (T1.setTop (mkF m 9 #[.val (.int p0), .val (.int p1), .val (.int p2), .val (.int p3), .val (.ref b1), .unset, .unset, .unset, .unset, .unset, .unset, .unset, .unset, .unset, .unset] [(.int p2), (.int (0 : Int32)), (.ref b1)]))
  refine Goes.st (fun t k => XS.sipush X1.here hx rfl (hb hby at_9) k) ?_
  show Goes _ _ _ _ (T1.setTop (mkF m 12 #[.val (.int p0), .val (.int p1), .val (.int p2), .val (.int p3), .val (.ref b1), .unset, .unset, .unset, .unset, .unset, .unset, .unset, .unset, .unset, .unset] [(.int (255 : Int32)), (.int p2), (.int (0 : Int32)), (.ref b1)]))
  refine Goes.st (fun t k => XS.iand X1.here hx rfl (hb hby at_12) rfl k) ?_
  show Goes _ _ _ _ (T1.setTop (mkF m 13 #[.val (.int p0), .val (.int p1), .val (.int p2), .val (.int p3), .val (.ref b1), .unset, .unset, .unset, .unset, .unset, .unset, .unset, .unset, .unset, .unset] [(.int (p2 &&& (255 : Int32))), (.int (0 : Int32)), (.ref b1)]))
  refine Goes.st (fun t k => XS.i2c X1.here hx rfl (hb hby at_13) rfl k) ?_
  show Goes _ _ _ _ (T1.setTop (mkF m 14 #[.val (.int p0), .val (.int p1), .val (.int p2), .val (.int p3), .val (.ref b1), .unset, .unset, .unset, .unset, .unset, .unset, .unset, .unset, .unset, .unset] [(.int ((p2 &&& (255 : Int32)).toUInt32.toUInt16.toUInt32.toInt32)), (.int (0 : Int32)), (.ref b1)]))
  obtain ⟨oc2, oA2, oq2, oS2, oM2, oH2, oG2⟩ := id V1
  obtain ⟨T3, h3, X3, e3, W3, st3⟩ := stC X1 hx hZ e1 oA2 (j := (0 : Int32)) (inb_of oS2 ⟨by decide, by decide⟩) (g := (mkF m 14 #[.val (.int p0), .val (.int p1), .val (.int p2), .val (.int p3), .val (.ref b1), .unset, .unset, .unset, .unset, .unset, .unset, .unset, .unset, .unset, .unset] [(.int ((p2 &&& (255 : Int32)).toUInt32.toUInt16.toUInt32.toInt32)), (.int (0 : Int32)), (.ref b1)])) rfl rfl (hb hby at_14)
  obtain ⟨ch3, hch3⟩ : ∃ z, z = nar .char ((p2 &&& (255 : Int32)).toUInt32.toUInt16.toUInt32.toInt32) := ⟨_, rfl⟩
  rw [← hch3] at W3
  have rg3 : ¬ ch3 < 0 ∧ ¬ (255 : Int32) < ch3 := by rw [hch3]; exact own_and255 p2
  have V3 : Arv Z h3 b1 k1 .char (2 : Int32) [(.int ch3), (.int (0 : Int32))] (.int (0 : Int32)) := Arv.set oA2 oq2 oS2 oM2 oH2 oG2 (by rw [hch3]; exact fits_nar_char _) W3 0 rfl (Nat.le_of_ble_eq_true rfl)
  have N3 := Fr.snoc X3 N0 (Nat.le_trans Z0 (Nat.le_of_eq g1.symm))
  refine Goes.st st3 ?_
  show Goes _ _ _ _ (T3.setTop (mkF m 15 #[.val (.int p0), .val (.int p1), .val (.int p2), .val (.int p3), .val (.ref b1), .unset, .unset, .unset, .unset, .unset, .unset, .unset, .unset, .unset, .unset] []))
  refine Goes.st (fun t k => XS.aload X3.here hx rfl (hb hby at_15) rfl rfl k) ?_
  show Goes _ _ _ _ (T3.setTop (mkF m 17 #[.val (.int p0), .val (.int p1), .val (.int p2), .val (.int p3), .val (.ref b1), .unset, .unset, .unset, .unset, .unset, .unset, .unset, .unset, .unset, .unset] [(.ref b1)]))
  refine Goes.st (fun t k => XS.iconst X3.here hx rfl (hb hby at_17) k) ?_
  show Goes _ _ _ _ (T3.setTop (mkF m 18 #[.val (.int p0), .val (.int p1), .val (.int p2), .val (.int p3), .val (.ref b1), .unset, .unset, .unset, .unset, .unset, .unset, .unset, .unset, .unset, .unset] [(.int (1 : Int32)), (.ref b1)]))
  refine Goes.st (fun t k => XS.iloadN X3.here hx rfl (hb hby at_18) rfl k) ?_
  show Goes _ _ _ _ (T3.setTop (mkF m 19 #[.val (.int p0), .val (.int p1), .val (.int p2), .val (.int p3), .val (.ref b1), .unset, .unset, .unset, .unset, .unset, .unset, .unset, .unset, .unset, .unset] [(.int p2), (.int (1 : Int32)), (.ref b1)]))
  refine Goes.st (fun t k => XS.bipush X3.here hx rfl (hb hby at_19) k) ?_
  show Goes _ _ _ _ (T3.setTop (mkF m 21 #[.val (.int p0), .val (.int p1), .val (.int p2), .val (.int p3), .val (.ref b1), .unset, .unset, .unset, .unset, .unset, .unset, .unset, .unset, .unset, .unset] [(.int (8 : Int32)), (.int p2), (.int (1 : Int32)), (.ref b1)]))
  refine Goes.st (fun t k => XS.iushr X3.here hx rfl (hb hby at_21) rfl k) ?_
  show Goes _ _ _ _ (T3.setTop (mkF m 22 #[.val (.int p0), .val (.int p1), .val (.int p2), .val (.int p3), .val (.ref b1), .unset, .unset, .unset, .unset, .unset, .unset, .unset, .unset, .unset, .unset] [(.int ((p2.toUInt32 >>> ((8 : Int32) &&& 31).toUInt32).toInt32)), (.int (1 : Int32)), (.ref b1)]))
  refine Goes.st (fun t k => XS.sipush X3.here hx rfl (hb hby at_22) k) ?_
  show Goes _ _ _ _ (T3.setTop (mkF m 25 #[.val (.int p0), .val (.int p1), .val (.int p2), .val (.int p3), .val (.ref b1), .unset, .unset, .unset, .unset, .unset, .unset, .unset, .unset, .unset, .unset] [(.int (255 : Int32)), (.int ((p2.toUInt32 >>> ((8 : Int32) &&& 31).toUInt32).toInt32)), (.int (1 : Int32)), (.ref b1)]))
  refine Goes.st (fun t k => XS.iand X3.here hx rfl (hb hby at_25) rfl k) ?_
  show Goes _ _ _ _ (T3.setTop (mkF m 26 #[.val (.int p0), .val (.int p1), .val (.int p2), .val (.int p3), .val (.ref b1), .unset, .unset, .unset, .unset, .unset, .unset, .unset, .unset, .unset, .unset] [(.int (((p2.toUInt32 >>> ((8 : Int32) &&& 31).toUInt32).toInt32) &&& (255 : Int32))), (.int (1 : Int32)), (.ref b1)]))
  refine Goes.st (fun t k => XS.i2c X3.here hx rfl (hb hby at_26) rfl k) ?_
  show Goes _ _ _ _ (T3.setTop (mkF m 27 #[.val (.int p0), .val (.int p1), .val (.int p2), .val (.int p3), .val (.ref b1), .unset, .unset, .unset, .unset, .unset, .unset, .unset, .unset, .unset, .unset] [(.int ((((p2.toUInt32 >>> ((8 : Int32) &&& 31).toUInt32).toInt32) &&& (255 : Int32)).toUInt32.toUInt16.toUInt32.toInt32)), (.int (1 : Int32)), (.ref b1)]))
  obtain ⟨oc4, oA4, oq4, oS4, oM4, oH4, oG4⟩ := id V3
  obtain ⟨T5, h5, X5, e5, W5, st5⟩ := stC X3 hx hZ e3 oA4 (j := (1 : Int32)) (inb_of oS4 ⟨by decide, by decide⟩) (g := (mkF m 27 #[.val (.int p0), .val (.int p1), .val (.int p2), .val (.int p3), .val (.ref b1), .unset, .unset, .unset, .unset, .unset, .unset, .unset, .unset, .unset, .unset] [(.int ((((p2.toUInt32 >>> ((8 : Int32) &&& 31).toUInt32).toInt32) &&& (255 : Int32)).toUInt32.toUInt16.toUInt32.toInt32)), (.int (1 : Int32)), (.ref b1)])) rfl rfl (hb hby at_27)
  obtain ⟨ch5, hch5⟩ : ∃ z, z = nar .char ((((p2.toUInt32 >>> ((8 : Int32) &&& 31).toUInt32).toInt32) &&& (255 : Int32)).toUInt32.toUInt16.toUInt32.toInt32) := ⟨_, rfl⟩
  rw [← hch5] at W5
  have rg5 : ¬ ch5 < 0 ∧ ¬ (255 : Int32) < ch5 := by rw [hch5]; exact own_and255 ((p2.toUInt32 >>> ((8 : Int32) &&& 31).toUInt32).toInt32)
  have V5 : Arv Z h5 b1 k1 .char (2 : Int32) [(.int ch3), (.int ch5)] (.int (0 : Int32)) := Arv.set oA4 oq4 oS4 oM4 oH4 oG4 (by rw [hch5]; exact fits_nar_char _) W5 1 rfl (Nat.le_of_ble_eq_true rfl)
  have N5 := Fr.snoc X5 N3 (Nat.le_trans Z0 (Nat.le_of_eq g1.symm))
  refine Goes.st st5 ?_
  show Goes _ _ _ _ (T5.setTop (mkF m 28 #[.val (.int p0), .val (.int p1), .val (.int p2), .val (.int p3), .val (.ref b1), .unset, .unset, .unset, .unset, .unset, .unset, .unset, .unset, .unset, .unset] []))
  refine Goes.st (fun t k => XS.iconst X5.here hx rfl (hb hby at_28) k) ?_
  show Goes _ _ _ _ (T5.setTop (mkF m 29 #[.val (.int p0), .val (.int p1), .val (.int p2), .val (.int p3), .val (.ref b1), .unset, .unset, .unset, .unset, .unset, .unset, .unset, .unset, .unset, .unset] [(.int (1 : Int32))]))
  obtain ⟨T6, h6, k6, X6, e6, E6, A6, st6⟩ := newP X5 hx hZ (aty := .char) (hw0 hw) e5 (g := (mkF m 29 #[.val (.int p0), .val (.int p1), .val (.int p2), .val (.int p3), .val (.ref b1), .unset, .unset, .unset, .unset, .unset, .unset, .unset, .unset, .unset, .unset] [(.int (1 : Int32))])) rfl (hb hby at_29) rfl (by decide) (cap := 1) (by decide) (by decide) (by decide) (by decide)
  obtain ⟨b6, g6⟩ : ∃ z, z = h5.size := ⟨_, rfl⟩
  rw [← g6] at A6 st6
  have V6 : Arv Z h6 b6 k6 .char (1 : Int32) [(.int (0 : Int32))] (.int (0 : Int32)) := (Arv.new A6 (by decide)).pad (pad_rep [] (.int (0 : Int32)) 1)
  refine Goes.st st6 ?_
  show Goes _ _ _ _ (T6.setTop (mkF m 31 #[.val (.int p0), .val (.int p1), .val (.int p2), .val (.int p3), .val (.ref b1), .unset, .unset, .unset, .unset, .unset, .unset, .unset, .unset, .unset, .unset] [(.ref b6)]))
  refine Goes.st (fun t k => XS.astore X6.here hx rfl (hb hby at_31) rfl rfl (l' := #[.val (.int p0), .val (.int p1), .val (.int p2), .val (.int p3), .val (.ref b1), .val (.ref b6), .unset, .unset, .unset, .unset, .unset, .unset, .unset, .unset, .unset]) rfl k) ?_
  show Goes _ _ _ _ (T6.setTop (mkF m 33 #[.val (.int p0), .val (.int p1), .val (.int p2), .val (.int p3), .val (.ref b1), .val (.ref b6), .unset, .unset, .unset, .unset, .unset, .unset, .unset, .unset, .unset] []))
  refine Goes.st (fun t k => XS.aload X6.here hx rfl (hb hby at_33) rfl rfl k) ?_
  show Goes _ _ _ _ (T6.setTop (mkF m 35 #[.val (.int p0), .val (.int p1), .val (.int p2), .val (.int p3), .val (.ref b1), .val (.ref b6), .unset, .unset, .unset, .unset, .unset, .unset, .unset, .unset, .unset] [(.ref b6)]))
  refine Goes.st (fun t k => XS.iconst X6.here hx rfl (hb hby at_35) k) ?_
  show Goes _ _ _ _ (T6.setTop (mkF m 36 #[.val (.int p0), .val (.int p1), .val (.int p2), .val (.int p3), .val (.ref b1), .val (.ref b6), .unset, .unset, .unset, .unset, .unset, .unset, .unset, .unset, .unset] [(.int (0 : Int32)), (.ref b6)]))
  refine Goes.st (fun t k => XS.iloadN X6.here hx rfl (hb hby at_36) rfl k) ?_
  show Goes _ _ _ _ (T6.setTop (mkF m 37 #[.val (.int p0), .val (.int p1), .val (.int p2), .val (.int p3), .val (.ref b1), .val (.ref b6), .unset, .unset, .unset, .unset, .unset, .unset, .unset, .unset, .unset] [(.int p3), (.int (0 : Int32)), (.ref b6)]))
  refine Goes.st (fun t k => XS.sipush X6.here hx rfl (hb hby at_37) k) ?_
  show Goes _ _ _ _ (T6.setTop (mkF m 40 #[.val (.int p0), .val (.int p1), .val (.int p2), .val (.int p3), .val (.ref b1), .val (.ref b6), .unset, .unset, .unset, .unset, .unset, .unset, .unset, .unset, .unset] [(.int (255 : Int32)), (.int p3), (.int (0 : Int32)), (.ref b6)]))
  refine Goes.st (fun t k => XS.iand X6.here hx rfl (hb hby at_40) rfl k) ?_
  show Goes _ _ _ _ (T6.setTop (mkF m 41 #[.val (.int p0), .val (.int p1), .val (.int p2), .val (.int p3), .val (.ref b1), .val (.ref b6), .unset, .unset, .unset, .unset, .unset, .unset, .unset, .unset, .unset] [(.int (p3 &&& (255 : Int32))), (.int (0 : Int32)), (.ref b6)]))
  refine Goes.st (fun t k => XS.i2c X6.here hx rfl (hb hby at_41) rfl k) ?_
  show Goes _ _ _ _ (T6.setTop (mkF m 42 #[.val (.int p0), .val (.int p1), .val (.int p2), .val (.int p3), .val (.ref b1), .val (.ref b6), .unset, .unset, .unset, .unset, .unset, .unset, .unset, .unset, .unset] [(.int ((p3 &&& (255 : Int32)).toUInt32.toUInt16.toUInt32.toInt32)), (.int (0 : Int32)), (.ref b6)]))
  obtain ⟨oc7, oA7, oq7, oS7, oM7, oH7, oG7⟩ := id V6
  obtain ⟨T8, h8, X8, e8, W8, st8⟩ := stC X6 hx hZ e6 oA7 (j := (0 : Int32)) (inb_of oS7 ⟨by decide, by decide⟩) (g := (mkF m 42 #[.val (.int p0), .val (.int p1), .val (.int p2), .val (.int p3), .val (.ref b1), .val (.ref b6), .unset, .unset, .unset, .unset, .unset, .unset, .unset, .unset, .unset] [(.int ((p3 &&& (255 : Int32)).toUInt32.toUInt16.toUInt32.toInt32)), (.int (0 : Int32)), (.ref b6)])) rfl rfl (hb hby at_42)
  obtain ⟨ch8, hch8⟩ : ∃ z, z = nar .char ((p3 &&& (255 : Int32)).toUInt32.toUInt16.toUInt32.toInt32) := ⟨_, rfl⟩
  rw [← hch8] at W8
  have rg8 : ¬ ch8 < 0 ∧ ¬ (255 : Int32) < ch8 := by rw [hch8]; exact own_and255 p3
  have V8 : Arv Z h8 b6 k6 .char (1 : Int32) [(.int ch8)] (.int (0 : Int32)) := Arv.set oA7 oq7 oS7 oM7 oH7 oG7 (by rw [hch8]; exact fits_nar_char _) W8 0 rfl (Nat.le_of_ble_eq_true rfl)
  have N8 := Fr.snoc X8 N5 (Nat.le_trans Z0 (Nat.le_trans (Nat.le_trans (Nat.le_trans E1.1 (Nat.le_of_eq W3.size.symm)) (Nat.le_of_eq W5.size.symm)) (Nat.le_of_eq g6.symm)))
  refine Goes.st st8 ?_
  show Goes _ _ _ _ (T8.setTop (mkF m 43 #[.val (.int p0), .val (.int p1), .val (.int p2), .val (.int p3), .val (.ref b1), .val (.ref b6), .unset, .unset, .unset, .unset, .unset, .unset, .unset, .unset, .unset] []))
  refine Goes.st (fun t k => XS.iconst X8.here hx rfl (hb hby at_43) k) ?_
  show Goes _ _ _ _ (T8.setTop (mkF m 44 #[.val (.int p0), .val (.int p1), .val (.int p2), .val (.int p3), .val (.ref b1), .val (.ref b6), .unset, .unset, .unset, .unset, .unset, .unset, .unset, .unset, .unset] [(.int (4 : Int32))]))
  obtain ⟨T9, h9, k9, X9, e9, E9, A9, O9, st9⟩ := newR X8 hx hZ hown (hw1 hw) (hw2 hw) e8 (g := (mkF m 44 #[.val (.int p0), .val (.int p1), .val (.int p2), .val (.int p3), .val (.ref b1), .val (.ref b6), .unset, .unset, .unset, .unset, .unset, .unset, .unset, .unset, .unset] [(.int (4 : Int32))])) rfl (hb hby at_44) rfl (by decide) (cap := 4) (by decide) (by decide) (by decide) (by decide)
  obtain ⟨b9, g9⟩ : ∃ z, z = h8.size := ⟨_, rfl⟩
  rw [← g9] at A9 st9
  have V9 : Arv Z h9 b9 k9 (.object "java/lang/Object") (4 : Int32) [.null, .null, .null, .null] .null := (Arv.new A9 (by decide)).pad (pad_rep [] .null 4)
  refine Goes.st st9 ?_
  show Goes _ _ _ _ (T9.setTop (mkF m 47 #[.val (.int p0), .val (.int p1), .val (.int p2), .val (.int p3), .val (.ref b1), .val (.ref b6), .unset, .unset, .unset, .unset, .unset, .unset, .unset, .unset, .unset] [(.ref b9)]))
  refine Goes.st (fun t k => XS.astore X9.here hx rfl (hb hby at_47) rfl rfl (l' := #[.val (.int p0), .val (.int p1), .val (.int p2), .val (.int p3), .val (.ref b1), .val (.ref b6), .val (.ref b9), .unset, .unset, .unset, .unset, .unset, .unset, .unset, .unset]) rfl k) ?_
  show Goes _ _ _ _ (T9.setTop (mkF m 49 #[.val (.int p0), .val (.int p1), .val (.int p2), .val (.int p3), .val (.ref b1), .val (.ref b6), .val (.ref b9), .unset, .unset, .unset, .unset, .unset, .unset, .unset, .unset] []))
  refine Goes.st (fun t k => XS.aload X9.here hx rfl (hb hby at_49) rfl rfl k) ?_
  show Goes _ _ _ _ (T9.setTop (mkF m 51 #[.val (.int p0), .val (.int p1), .val (.int p2), .val (.int p3), .val (.ref b1), .val (.ref b6), .val (.ref b9), .unset, .unset, .unset, .unset, .unset, .unset, .unset, .unset] [(.ref b9)]))
  refine Goes.st (fun t k => XS.iconst X9.here hx rfl (hb hby at_51) k) ?_
  show Goes _ _ _ _ (T9.setTop (mkF m 52 #[.val (.int p0), .val (.int p1), .val (.int p2), .val (.int p3), .val (.ref b1), .val (.ref b6), .val (.ref b9), .unset, .unset, .unset, .unset, .unset, .unset, .unset, .unset] [(.int (0 : Int32)), (.ref b9)]))
  refine Goes.st (fun t k => XS.aconstNull X9.here hx rfl (hb hby at_52) k) ?_
  show Goes _ _ _ _ (T9.setTop (mkF m 53 #[.val (.int p0), .val (.int p1), .val (.int p2), .val (.int p3), .val (.ref b1), .val (.ref b6), .val (.ref b9), .unset, .unset, .unset, .unset, .unset, .unset, .unset, .unset] [.null, (.int (0 : Int32)), (.ref b9)]))
  obtain ⟨oc10, oA10, oq10, oS10, oM10, oH10, oG10⟩ := id V9
  obtain ⟨T11, h11, X11, e11, W11, st11⟩ := stR X9 hx hZ e9 oA10 (j := (0 : Int32)) (inb_of oS10 ⟨by decide, by decide⟩) rfl (Or.inl rfl) (g := (mkF m 53 #[.val (.int p0), .val (.int p1), .val (.int p2), .val (.int p3), .val (.ref b1), .val (.ref b6), .val (.ref b9), .unset, .unset, .unset, .unset, .unset, .unset, .unset, .unset] [.null, (.int (0 : Int32)), (.ref b9)])) rfl rfl (hb hby at_53)
  have V11 : Arv Z h11 b9 k9 (.object "java/lang/Object") (4 : Int32) [.null, .null, .null, .null] .null := Arv.set oA10 oq10 oS10 oM10 oH10 oG10 rfl W11 0 rfl (Nat.le_of_ble_eq_true rfl)
  have N11 := Fr.snoc X11 N8 (Nat.le_trans Z0 (Nat.le_trans (Nat.le_trans (Nat.le_trans (Nat.le_trans (Nat.le_trans E1.1 (Nat.le_of_eq W3.size.symm)) (Nat.le_of_eq W5.size.symm)) E6.1) (Nat.le_of_eq W8.size.symm)) (Nat.le_of_eq g9.symm)))
  refine Goes.st st11 ?_
  show Goes _ _ _ _ (T11.setTop (mkF m 54 #[.val (.int p0), .val (.int p1), .val (.int p2), .val (.int p3), .val (.ref b1), .val (.ref b6), .val (.ref b9), .unset, .unset, .unset, .unset, .unset, .unset, .unset, .unset] []))
  refine Goes.st (fun t k => XS.aload X11.here hx rfl (hb hby at_54) rfl rfl k) ?_
  show Goes _ _ _ _ (T11.setTop (mkF m 56 #[.val (.int p0), .val (.int p1), .val (.int p2), .val (.int p3), .val (.ref b1), .val (.ref b6), .val (.ref b9), .unset, .unset, .unset, .unset, .unset, .unset, .unset, .unset] [(.ref b9)]))
  refine Goes.st (fun t k => XS.iconst X11.here hx rfl (hb hby at_56) k) ?_
  show Goes _ _ _ _ (T11.setTop (mkF m 57 #[.val (.int p0), .val (.int p1), .val (.int p2), .val (.int p3), .val (.ref b1), .val (.ref b6), .val (.ref b9), .unset, .unset, .unset, .unset, .unset, .unset, .unset, .unset] [(.int (1 : Int32)), (.ref b9)]))
  obtain ⟨T12, h12, X12, e12, E12, A12, D12, -, st12⟩ := newO X11 hx hZ hown (hw3 hw) (hw4 hw) (hw5 hw) e11 (g := (mkF m 57 #[.val (.int p0), .val (.int p1), .val (.int p2), .val (.int p3), .val (.ref b1), .val (.ref b6), .val (.ref b9), .unset, .unset, .unset, .unset, .unset, .unset, .unset, .unset] [(.int (1 : Int32)), (.ref b9)])) rfl (hb hby at_57) (by decide) (by decide)
  obtain ⟨b12, g12⟩ : ∃ z, z = h11.size := ⟨_, rfl⟩
  rw [← g12] at A12 D12 st12
  have F12_coder : Fld Z h12 b12 "java/lang/String" "coder" "B" (.int (0 : Int32)) := D12 (Or.inr (hw29 hw)) (ty := .byte) (by decide)
  have F12_value : Fld Z h12 b12 "java/lang/String" "value" "[B" .null := D12 (Or.inr (hw31 hw)) (ty := (.array .byte)) (by decide)
  refine Goes.st st12 ?_
  show Goes _ _ _ _ (T12.setTop (mkF m 60 #[.val (.int p0), .val (.int p1), .val (.int p2), .val (.int p3), .val (.ref b1), .val (.ref b6), .val (.ref b9), .unset, .unset, .unset, .unset, .unset, .unset, .unset, .unset] [(.ref b12), (.int (1 : Int32)), (.ref b9)]))
  refine Goes.st (fun t k => XS.dup X12.here hx rfl (hb hby at_60) rfl rfl k) ?_
  show Goes _ _ _ _ (T12.setTop (mkF m 61 #[.val (.int p0), .val (.int p1), .val (.int p2), .val (.int p3), .val (.ref b1), .val (.ref b6), .val (.ref b9), .unset, .unset, .unset, .unset, .unset, .unset, .unset, .unset] [(.ref b12), (.ref b12), (.int (1 : Int32)), (.ref b9)]))
  refine Goes.st (fun t k => XS.aload X12.here hx rfl (hb hby at_61) rfl rfl k) ?_
  show Goes _ _ _ _ (T12.setTop (mkF m 63 #[.val (.int p0), .val (.int p1), .val (.int p2), .val (.int p3), .val (.ref b1), .val (.ref b6), .val (.ref b9), .unset, .unset, .unset, .unset, .unset, .unset, .unset, .unset] [(.ref b1), (.ref b12), (.ref b12), (.int (1 : Int32)), (.ref b9)]))
  have f14 : Arv Z h12 b1 k1 .char (2 : Int32) [(.int ch3), (.int ch5)] (.int (0 : Int32)) := (((((V5.ext E6).other W8 (Nat.ne_of_lt (Nat.lt_of_lt_of_le A1.lt (Nat.le_trans (Nat.le_trans (Nat.le_of_eq W3.size.symm) (Nat.le_of_eq W5.size.symm)) (Nat.le_of_eq g6.symm))))).ext E9).other W11 (Nat.ne_of_lt (Nat.lt_of_lt_of_le A1.lt (Nat.le_trans (Nat.le_trans (Nat.le_trans (Nat.le_trans (Nat.le_of_eq W3.size.symm) (Nat.le_of_eq W5.size.symm)) E6.1) (Nat.le_of_eq W8.size.symm)) (Nat.le_of_eq g9.symm))))).ext E12)
  have f15 : Old Z n0 h12 := ((((((((P0.ext E1).wr W3 (Nat.le_trans Z0 (Nat.le_of_eq g1.symm))).wr W5 (Nat.le_trans Z0 (Nat.le_of_eq g1.symm))).ext E6).wr W8 (Nat.le_trans Z0 (Nat.le_trans (Nat.le_trans (Nat.le_trans E1.1 (Nat.le_of_eq W3.size.symm)) (Nat.le_of_eq W5.size.symm)) (Nat.le_of_eq g6.symm)))).ext E9).wr W11 (Nat.le_trans Z0 (Nat.le_trans (Nat.le_trans (Nat.le_trans (Nat.le_trans (Nat.le_trans E1.1 (Nat.le_of_eq W3.size.symm)) (Nat.le_of_eq W5.size.symm)) E6.1) (Nat.le_of_eq W8.size.symm)) (Nat.le_of_eq g9.symm)))).ext E12)
  have hp16 : ∀ c ∈ ([ch3, ch5] : List Int32), ¬ c < 0 ∧ ¬ (255 : Int32) < c := (own_cS rg3 (own_cS rg5 own_c0))
  obtain ⟨_, _, ⟨T13, L13, k13, n13⟩, -, X13, ⟨Lc13, hQ13, l13, y13, z13⟩, st13⟩ := X12.specialBack hx (y := (⟨"java/lang/String", "<init>", "([C)V"⟩ : MethodName)) rfl hown (mvT hZ (hw6 hw)) (mvT hZ (hw7 hw)) (mvT hZ (hw8 hw)) (by decide) (StrChars.Road.backV (W := 3) hZ (own_hws hw) (kI := 4) (hw4 hw) (cs := ([ch3, ch5] : List Int32)) (bs := ([ch3, ch5] : List Int32).map (fun c => c.toInt8.toInt32)) (n := 2) (Nat.le_trans Z0 (Nat.le_trans (Nat.le_trans (Nat.le_trans (Nat.le_trans (Nat.le_trans (Nat.le_trans (Nat.le_trans E1.1 (Nat.le_of_eq W3.size.symm)) (Nat.le_of_eq W5.size.symm)) E6.1) (Nat.le_of_eq W8.size.symm)) E9.1) (Nat.le_of_eq W11.size.symm)) (Nat.le_of_eq g12.symm))) (Nat.le_trans Z0 (Nat.le_trans (Nat.le_trans (Nat.le_trans (Nat.le_trans (Nat.le_trans (Nat.le_trans (Nat.le_trans E1.1 (Nat.le_of_eq W3.size.symm)) (Nat.le_of_eq W5.size.symm)) E6.1) (Nat.le_of_eq W8.size.symm)) E9.1) (Nat.le_of_eq W11.size.symm)) E12.1)) A12 F12_value F12_coder f14 (O2.ext f15.2) P5 rfl rfl (by decide) (by decide) hp16 rfl (by decide) (by decide)) (g := (mkF m 63 #[.val (.int p0), .val (.int p1), .val (.int p2), .val (.int p3), .val (.ref b1), .val (.ref b6), .val (.ref b9), .unset, .unset, .unset, .unset, .unset, .unset, .unset, .unset] [(.ref b1), (.ref b12), (.ref b12), (.int (1 : Int32)), (.ref b9)])) rfl (by rw [hml]; rfl) (Steps.refl _) (a := b12) (argsL := [(.ref b1)]) (rest := [(.ref b12), (.int (1 : Int32)), (.ref b9)]) (lenOf pd_1 rfl) rfl (by show 2 * 0 + _ ≤ _; exact Nat.le_of_eq rfl) (hb hby at_63) (fun _ _ => ⟨rfl, e12, (by decide : 4 + 1 ≤ _), (by decide : 11 + 2 ≤ _)⟩)
  dsimp only [Pt.U, Pt.locs, Pt.cells, Pt.slots] at X13 l13 y13 z13 st13 hQ13
  subst l13 y13 z13
  obtain ⟨rfl, N13q, K13, Ex13, Cd13, t13, kb13, lz13, lo13, tn13, Vf13, Av13⟩ := hQ13
  have N13 := Fr.app N11 N13q
  have S13 : Str Z T13.heap b12 t13 kb13 [ch3, ch5] := ⟨Ex13, Vf13, Cd13, Av13, hp16, Nat.le_of_ble_eq_true rfl⟩
  refine Goes.tr st13 ?_
  show Goes _ _ _ _ (T13.setTop (mkF m 66 #[.val (.int p0), .val (.int p1), .val (.int p2), .val (.int p3), .val (.ref b1), .val (.ref b6), .val (.ref b9), .unset, .unset, .unset, .unset, .unset, .unset, .unset, .unset] [(.ref b12), (.int (1 : Int32)), (.ref b9)]))
  have f17 : Arv Z T13.heap b9 k9 (.object "java/lang/Object") (4 : Int32) [.null, .null, .null, .null] .null := ((V11.ext E12).keep K13 (ninS (Nat.ne_of_lt (Nat.lt_of_lt_of_le A9.lt (Nat.le_trans (Nat.le_of_eq W11.size.symm) (Nat.le_of_eq g12.symm)))) nin0))
  obtain ⟨oc18, oA18, oq18, oS18, oM18, oH18, oG18⟩ := id f17
  obtain ⟨T19, h19, X19, e19, W19, st19⟩ := stR X13 hx hZ rfl oA18 (j := (1 : Int32)) (inb_of oS18 ⟨by decide, by decide⟩) rfl (Sto.ofV oA18 oq18 O9 (Ins.of_exa Ex13 (hw32 hw))) (g := (mkF m 66 #[.val (.int p0), .val (.int p1), .val (.int p2), .val (.int p3), .val (.ref b1), .val (.ref b6), .val (.ref b9), .unset, .unset, .unset, .unset, .unset, .unset, .unset, .unset] [(.ref b12), (.int (1 : Int32)), (.ref b9)])) rfl rfl (hb hby at_66)
  have V19 : Arv Z h19 b9 k9 (.object "java/lang/Object") (4 : Int32) [.null, (.ref b12), .null, .null] .null := Arv.set oA18 oq18 oS18 oM18 oH18 oG18 rfl W19 1 rfl (Nat.le_of_ble_eq_true rfl)
  have N19 := Fr.snoc X19 N13 (Nat.le_trans Z0 (Nat.le_trans (Nat.le_trans (Nat.le_trans (Nat.le_trans (Nat.le_trans E1.1 (Nat.le_of_eq W3.size.symm)) (Nat.le_of_eq W5.size.symm)) E6.1) (Nat.le_of_eq W8.size.symm)) (Nat.le_of_eq g9.symm)))
  refine Goes.st st19 ?_
  show Goes _ _ _ _ (T19.setTop (mkF m 67 #[.val (.int p0), .val (.int p1), .val (.int p2), .val (.int p3), .val (.ref b1), .val (.ref b6), .val (.ref b9), .unset, .unset, .unset, .unset, .unset, .unset, .unset, .unset] []))
  refine Goes.st (fun t k => XS.aload X19.here hx rfl (hb hby at_67) rfl rfl k) ?_
  show Goes _ _ _ _ (T19.setTop (mkF m 69 #[.val (.int p0), .val (.int p1), .val (.int p2), .val (.int p3), .val (.ref b1), .val (.ref b6), .val (.ref b9), .unset, .unset, .unset, .unset, .unset, .unset, .unset, .unset] [(.ref b9)]))
  refine Goes.st (fun t k => XS.iconst X19.here hx rfl (hb hby at_69) k) ?_
  show Goes _ _ _ _ (T19.setTop (mkF m 70 #[.val (.int p0), .val (.int p1), .val (.int p2), .val (.int p3), .val (.ref b1), .val (.ref b6), .val (.ref b9), .unset, .unset, .unset, .unset, .unset, .unset, .unset, .unset] [(.int (2 : Int32)), (.ref b9)]))
  obtain ⟨T20, h20, X20, e20, E20, A20, D20, -, st20⟩ := newO X19 hx hZ hown (hw3 hw) (hw4 hw) (hw5 hw) e19 (g := (mkF m 70 #[.val (.int p0), .val (.int p1), .val (.int p2), .val (.int p3), .val (.ref b1), .val (.ref b6), .val (.ref b9), .unset, .unset, .unset, .unset, .unset, .unset, .unset, .unset] [(.int (2 : Int32)), (.ref b9)])) rfl (hb hby at_70) (by decide) (by decide)
  obtain ⟨b20, g20⟩ : ∃ z, z = h19.size := ⟨_, rfl⟩
  rw [← g20] at A20 D20 st20
  have F20_coder : Fld Z h20 b20 "java/lang/String" "coder" "B" (.int (0 : Int32)) := D20 (Or.inr (hw29 hw)) (ty := .byte) (by decide)
  have F20_value : Fld Z h20 b20 "java/lang/String" "value" "[B" .null := D20 (Or.inr (hw31 hw)) (ty := (.array .byte)) (by decide)
  refine Goes.st st20 ?_
  show Goes _ _ _ _ (T20.setTop (mkF m 73 #[.val (.int p0), .val (.int p1), .val (.int p2), .val (.int p3), .val (.ref b1), .val (.ref b6), .val (.ref b9), .unset, .unset, .unset, .unset, .unset, .unset, .unset, .unset] [(.ref b20), (.int (2 : Int32)), (.ref b9)]))
  refine Goes.st (fun t k => XS.dup X20.here hx rfl (hb hby at_73) rfl rfl k) ?_
  show Goes _ _ _ _ (T20.setTop (mkF m 74 #[.val (.int p0), .val (.int p1), .val (.int p2), .val (.int p3), .val (.ref b1), .val (.ref b6), .val (.ref b9), .unset, .unset, .unset, .unset, .unset, .unset, .unset, .unset] [(.ref b20), (.ref b20), (.int (2 : Int32)), (.ref b9)]))
  refine Goes.st (fun t k => XS.aload X20.here hx rfl (hb hby at_74) rfl rfl k) ?_
  show Goes _ _ _ _ (T20.setTop (mkF m 76 #[.val (.int p0), .val (.int p1), .val (.int p2), .val (.int p3), .val (.ref b1), .val (.ref b6), .val (.ref b9), .unset, .unset, .unset, .unset, .unset, .unset, .unset, .unset] [(.ref b1), (.ref b20), (.ref b20), (.int (2 : Int32)), (.ref b9)]))
  have f22 : Arv Z h20 b1 k1 .char (2 : Int32) [(.int ch3), (.int ch5)] (.int (0 : Int32)) := (((f14.keep K13 (ninS (Nat.ne_of_lt (Nat.lt_of_lt_of_le A1.lt (Nat.le_trans (Nat.le_trans (Nat.le_trans (Nat.le_trans (Nat.le_trans (Nat.le_trans (Nat.le_of_eq W3.size.symm) (Nat.le_of_eq W5.size.symm)) E6.1) (Nat.le_of_eq W8.size.symm)) E9.1) (Nat.le_of_eq W11.size.symm)) (Nat.le_of_eq g12.symm)))) nin0)).other W19 (Nat.ne_of_lt (Nat.lt_of_lt_of_le A1.lt (Nat.le_trans (Nat.le_trans (Nat.le_trans (Nat.le_trans (Nat.le_of_eq W3.size.symm) (Nat.le_of_eq W5.size.symm)) E6.1) (Nat.le_of_eq W8.size.symm)) (Nat.le_of_eq g9.symm))))).ext E20)
  have f23 : Old Z n0 h20 := (((f15.keep K13 (allS (Nat.le_trans Z0 (Nat.le_trans (Nat.le_trans (Nat.le_trans (Nat.le_trans (Nat.le_trans (Nat.le_trans (Nat.le_trans E1.1 (Nat.le_of_eq W3.size.symm)) (Nat.le_of_eq W5.size.symm)) E6.1) (Nat.le_of_eq W8.size.symm)) E9.1) (Nat.le_of_eq W11.size.symm)) (Nat.le_of_eq g12.symm))) all0)).wr W19 (Nat.le_trans Z0 (Nat.le_trans (Nat.le_trans (Nat.le_trans (Nat.le_trans (Nat.le_trans E1.1 (Nat.le_of_eq W3.size.symm)) (Nat.le_of_eq W5.size.symm)) E6.1) (Nat.le_of_eq W8.size.symm)) (Nat.le_of_eq g9.symm)))).ext E20)
  have hp24 : ∀ c ∈ ([ch3, ch5] : List Int32), ¬ c < 0 ∧ ¬ (255 : Int32) < c := (own_cS rg3 (own_cS rg5 own_c0))
  obtain ⟨_, _, ⟨T21, L21, k21, n21⟩, -, X21, ⟨Lc21, hQ21, l21, y21, z21⟩, st21⟩ := X20.specialBack hx (y := (⟨"java/lang/String", "<init>", "([C)V"⟩ : MethodName)) rfl hown (mvT hZ (hw6 hw)) (mvT hZ (hw7 hw)) (mvT hZ (hw8 hw)) (by decide) (StrChars.Road.backV (W := 3) hZ (own_hws hw) (kI := 4) (hw4 hw) (cs := ([ch3, ch5] : List Int32)) (bs := ([ch3, ch5] : List Int32).map (fun c => c.toInt8.toInt32)) (n := 2) (Nat.le_trans Z0 (Nat.le_trans (Nat.le_trans (Nat.le_trans (Nat.le_trans (Nat.le_trans (Nat.le_trans (Nat.le_trans (Nat.le_trans (Nat.le_trans (Nat.le_trans E1.1 (Nat.le_of_eq W3.size.symm)) (Nat.le_of_eq W5.size.symm)) E6.1) (Nat.le_of_eq W8.size.symm)) E9.1) (Nat.le_of_eq W11.size.symm)) E12.1) K13.1) (Nat.le_of_eq W19.size.symm)) (Nat.le_of_eq g20.symm))) (Nat.le_trans Z0 (Nat.le_trans (Nat.le_trans (Nat.le_trans (Nat.le_trans (Nat.le_trans (Nat.le_trans (Nat.le_trans (Nat.le_trans (Nat.le_trans (Nat.le_trans E1.1 (Nat.le_of_eq W3.size.symm)) (Nat.le_of_eq W5.size.symm)) E6.1) (Nat.le_of_eq W8.size.symm)) E9.1) (Nat.le_of_eq W11.size.symm)) E12.1) K13.1) (Nat.le_of_eq W19.size.symm)) E20.1)) A20 F20_value F20_coder f22 (O2.ext f23.2) P5 rfl rfl (by decide) (by decide) hp24 rfl (by decide) (by decide)) (g := (mkF m 76 #[.val (.int p0), .val (.int p1), .val (.int p2), .val (.int p3), .val (.ref b1), .val (.ref b6), .val (.ref b9), .unset, .unset, .unset, .unset, .unset, .unset, .unset, .unset] [(.ref b1), (.ref b20), (.ref b20), (.int (2 : Int32)), (.ref b9)])) rfl (by rw [hml]; rfl) (Steps.refl _) (a := b20) (argsL := [(.ref b1)]) (rest := [(.ref b20), (.int (2 : Int32)), (.ref b9)]) (lenOf pd_1 rfl) rfl (by show 2 * 0 + _ ≤ _; exact Nat.le_of_eq rfl) (hb hby at_76) (fun _ _ => ⟨rfl, e20, (by decide : 6 + 1 ≤ _), (by decide : 17 + 2 ≤ _)⟩)
  dsimp only [Pt.U, Pt.locs, Pt.cells, Pt.slots] at X21 l21 y21 z21 st21 hQ21
  subst l21 y21 z21
  obtain ⟨rfl, N21q, K21, Ex21, Cd21, t21, kb21, lz21, lo21, tn21, Vf21, Av21⟩ := hQ21
  have N21 := Fr.app N19 N21q
  have S21 : Str Z T21.heap b20 t21 kb21 [ch3, ch5] := ⟨Ex21, Vf21, Cd21, Av21, hp24, Nat.le_of_ble_eq_true rfl⟩
  refine Goes.tr st21 ?_
  show Goes _ _ _ _ (T21.setTop (mkF m 79 #[.val (.int p0), .val (.int p1), .val (.int p2), .val (.int p3), .val (.ref b1), .val (.ref b6), .val (.ref b9), .unset, .unset, .unset, .unset, .unset, .unset, .unset, .unset] [(.ref b20), (.int (2 : Int32)), (.ref b9)]))
  have f25 : Arv Z T21.heap b9 k9 (.object "java/lang/Object") (4 : Int32) [.null, (.ref b12), .null, .null] .null := ((V19.ext E20).keep K21 (ninS (Nat.ne_of_lt (Nat.lt_of_lt_of_le A9.lt (Nat.le_trans (Nat.le_trans (Nat.le_trans (Nat.le_trans (Nat.le_of_eq W11.size.symm) E12.1) K13.1) (Nat.le_of_eq W19.size.symm)) (Nat.le_of_eq g20.symm)))) nin0))
  obtain ⟨oc26, oA26, oq26, oS26, oM26, oH26, oG26⟩ := id f25
  obtain ⟨T27, h27, X27, e27, W27, st27⟩ := stR X21 hx hZ rfl oA26 (j := (2 : Int32)) (inb_of oS26 ⟨by decide, by decide⟩) rfl (Sto.ofV oA26 oq26 O9 (Ins.of_exa Ex21 (hw32 hw))) (g := (mkF m 79 #[.val (.int p0), .val (.int p1), .val (.int p2), .val (.int p3), .val (.ref b1), .val (.ref b6), .val (.ref b9), .unset, .unset, .unset, .unset, .unset, .unset, .unset, .unset] [(.ref b20), (.int (2 : Int32)), (.ref b9)])) rfl rfl (hb hby at_79)
  have V27 : Arv Z h27 b9 k9 (.object "java/lang/Object") (4 : Int32) [.null, (.ref b12), (.ref b20), .null] .null := Arv.set oA26 oq26 oS26 oM26 oH26 oG26 rfl W27 2 rfl (Nat.le_of_ble_eq_true rfl)
  have N27 := Fr.snoc X27 N21 (Nat.le_trans Z0 (Nat.le_trans (Nat.le_trans (Nat.le_trans (Nat.le_trans (Nat.le_trans E1.1 (Nat.le_of_eq W3.size.symm)) (Nat.le_of_eq W5.size.symm)) E6.1) (Nat.le_of_eq W8.size.symm)) (Nat.le_of_eq g9.symm)))
  refine Goes.st st27 ?_
  show Goes _ _ _ _ (T27.setTop (mkF m 80 #[.val (.int p0), .val (.int p1), .val (.int p2), .val (.int p3), .val (.ref b1), .val (.ref b6), .val (.ref b9), .unset, .unset, .unset, .unset, .unset, .unset, .unset, .unset] []))
  refine Goes.st (fun t k => XS.aload X27.here hx rfl (hb hby at_80) rfl rfl k) ?_
  show Goes _ _ _ _ (T27.setTop (mkF m 82 #[.val (.int p0), .val (.int p1), .val (.int p2), .val (.int p3), .val (.ref b1), .val (.ref b6), .val (.ref b9), .unset, .unset, .unset, .unset, .unset, .unset, .unset, .unset] [(.ref b9)]))
  refine Goes.st (fun t k => XS.iconst X27.here hx rfl (hb hby at_82) k) ?_
  show Goes _ _ _ _ (T27.setTop (mkF m 83 #[.val (.int p0), .val (.int p1), .val (.int p2), .val (.int p3), .val (.ref b1), .val (.ref b6), .val (.ref b9), .unset, .unset, .unset, .unset, .unset, .unset, .unset, .unset] [(.int (3 : Int32)), (.ref b9)]))
  obtain ⟨T28, h28, X28, e28, E28, A28, D28, -, st28⟩ := newO X27 hx hZ hown (hw3 hw) (hw4 hw) (hw5 hw) e27 (g := (mkF m 83 #[.val (.int p0), .val (.int p1), .val (.int p2), .val (.int p3), .val (.ref b1), .val (.ref b6), .val (.ref b9), .unset, .unset, .unset, .unset, .unset, .unset, .unset, .unset] [(.int (3 : Int32)), (.ref b9)])) rfl (hb hby at_83) (by decide) (by decide)
  obtain ⟨b28, g28⟩ : ∃ z, z = h27.size := ⟨_, rfl⟩
  rw [← g28] at A28 D28 st28
  have F28_coder : Fld Z h28 b28 "java/lang/String" "coder" "B" (.int (0 : Int32)) := D28 (Or.inr (hw29 hw)) (ty := .byte) (by decide)
  have F28_value : Fld Z h28 b28 "java/lang/String" "value" "[B" .null := D28 (Or.inr (hw31 hw)) (ty := (.array .byte)) (by decide)
  refine Goes.st st28 ?_
  show Goes _ _ _ _ (T28.setTop (mkF m 86 #[.val (.int p0), .val (.int p1), .val (.int p2), .val (.int p3), .val (.ref b1), .val (.ref b6), .val (.ref b9), .unset, .unset, .unset, .unset, .unset, .unset, .unset, .unset] [(.ref b28), (.int (3 : Int32)), (.ref b9)]))
  refine Goes.st (fun t k => XS.dup X28.here hx rfl (hb hby at_86) rfl rfl k) ?_
  show Goes _ _ _ _ (T28.setTop (mkF m 87 #[.val (.int p0), .val (.int p1), .val (.int p2), .val (.int p3), .val (.ref b1), .val (.ref b6), .val (.ref b9), .unset, .unset, .unset, .unset, .unset, .unset, .unset, .unset] [(.ref b28), (.ref b28), (.int (3 : Int32)), (.ref b9)]))
  refine Goes.st (fun t k => XS.aload X28.here hx rfl (hb hby at_87) rfl rfl k) ?_
  show Goes _ _ _ _ (T28.setTop (mkF m 89 #[.val (.int p0), .val (.int p1), .val (.int p2), .val (.int p3), .val (.ref b1), .val (.ref b6), .val (.ref b9), .unset, .unset, .unset, .unset, .unset, .unset, .unset, .unset] [(.ref b6), (.ref b28), (.ref b28), (.int (3 : Int32)), (.ref b9)]))
  have f30 : Arv Z h28 b6 k6 .char (1 : Int32) [(.int ch8)] (.int (0 : Int32)) := (((((((((V8.ext E9).other W11 (Nat.ne_of_lt (Nat.lt_of_lt_of_le A6.lt (Nat.le_trans (Nat.le_of_eq W8.size.symm) (Nat.le_of_eq g9.symm))))).ext E12).keep K13 (ninS (Nat.ne_of_lt (Nat.lt_of_lt_of_le A6.lt (Nat.le_trans (Nat.le_trans (Nat.le_trans (Nat.le_of_eq W8.size.symm) E9.1) (Nat.le_of_eq W11.size.symm)) (Nat.le_of_eq g12.symm)))) nin0)).other W19 (Nat.ne_of_lt (Nat.lt_of_lt_of_le A6.lt (Nat.le_trans (Nat.le_of_eq W8.size.symm) (Nat.le_of_eq g9.symm))))).ext E20).keep K21 (ninS (Nat.ne_of_lt (Nat.lt_of_lt_of_le A6.lt (Nat.le_trans (Nat.le_trans (Nat.le_trans (Nat.le_trans (Nat.le_trans (Nat.le_trans (Nat.le_of_eq W8.size.symm) E9.1) (Nat.le_of_eq W11.size.symm)) E12.1) K13.1) (Nat.le_of_eq W19.size.symm)) (Nat.le_of_eq g20.symm)))) nin0)).other W27 (Nat.ne_of_lt (Nat.lt_of_lt_of_le A6.lt (Nat.le_trans (Nat.le_of_eq W8.size.symm) (Nat.le_of_eq g9.symm))))).ext E28)
  have f31 : Old Z n0 h28 := (((f23.keep K21 (allS (Nat.le_trans Z0 (Nat.le_trans (Nat.le_trans (Nat.le_trans (Nat.le_trans (Nat.le_trans (Nat.le_trans (Nat.le_trans (Nat.le_trans (Nat.le_trans (Nat.le_trans E1.1 (Nat.le_of_eq W3.size.symm)) (Nat.le_of_eq W5.size.symm)) E6.1) (Nat.le_of_eq W8.size.symm)) E9.1) (Nat.le_of_eq W11.size.symm)) E12.1) K13.1) (Nat.le_of_eq W19.size.symm)) (Nat.le_of_eq g20.symm))) all0)).wr W27 (Nat.le_trans Z0 (Nat.le_trans (Nat.le_trans (Nat.le_trans (Nat.le_trans (Nat.le_trans E1.1 (Nat.le_of_eq W3.size.symm)) (Nat.le_of_eq W5.size.symm)) E6.1) (Nat.le_of_eq W8.size.symm)) (Nat.le_of_eq g9.symm)))).ext E28)
  have hp32 : ∀ c ∈ ([ch8] : List Int32), ¬ c < 0 ∧ ¬ (255 : Int32) < c := (own_cS rg8 own_c0)
  obtain ⟨_, _, ⟨T29, L29, k29, n29⟩, -, X29, ⟨Lc29, hQ29, l29, y29, z29⟩, st29⟩ := X28.specialBack hx (y := (⟨"java/lang/String", "<init>", "([C)V"⟩ : MethodName)) rfl hown (mvT hZ (hw6 hw)) (mvT hZ (hw7 hw)) (mvT hZ (hw8 hw)) (by decide) (StrChars.Road.backV (W := 3) hZ (own_hws hw) (kI := 4) (hw4 hw) (cs := ([ch8] : List Int32)) (bs := ([ch8] : List Int32).map (fun c => c.toInt8.toInt32)) (n := 1) (Nat.le_trans Z0 (Nat.le_trans (Nat.le_trans (Nat.le_trans (Nat.le_trans (Nat.le_trans (Nat.le_trans (Nat.le_trans (Nat.le_trans (Nat.le_trans (Nat.le_trans (Nat.le_trans (Nat.le_trans (Nat.le_trans E1.1 (Nat.le_of_eq W3.size.symm)) (Nat.le_of_eq W5.size.symm)) E6.1) (Nat.le_of_eq W8.size.symm)) E9.1) (Nat.le_of_eq W11.size.symm)) E12.1) K13.1) (Nat.le_of_eq W19.size.symm)) E20.1) K21.1) (Nat.le_of_eq W27.size.symm)) (Nat.le_of_eq g28.symm))) (Nat.le_trans Z0 (Nat.le_trans (Nat.le_trans (Nat.le_trans (Nat.le_trans (Nat.le_trans (Nat.le_trans (Nat.le_trans (Nat.le_trans (Nat.le_trans (Nat.le_trans (Nat.le_trans (Nat.le_trans (Nat.le_trans E1.1 (Nat.le_of_eq W3.size.symm)) (Nat.le_of_eq W5.size.symm)) E6.1) (Nat.le_of_eq W8.size.symm)) E9.1) (Nat.le_of_eq W11.size.symm)) E12.1) K13.1) (Nat.le_of_eq W19.size.symm)) E20.1) K21.1) (Nat.le_of_eq W27.size.symm)) E28.1)) A28 F28_value F28_coder f30 (O2.ext f31.2) P5 rfl rfl (by decide) (by decide) hp32 rfl (by decide) (by decide)) (g := (mkF m 89 #[.val (.int p0), .val (.int p1), .val (.int p2), .val (.int p3), .val (.ref b1), .val (.ref b6), .val (.ref b9), .unset, .unset, .unset, .unset, .unset, .unset, .unset, .unset] [(.ref b6), (.ref b28), (.ref b28), (.int (3 : Int32)), (.ref b9)])) rfl (by rw [hml]; rfl) (Steps.refl _) (a := b28) (argsL := [(.ref b6)]) (rest := [(.ref b28), (.int (3 : Int32)), (.ref b9)]) (lenOf pd_1 rfl) rfl (by show 2 * 0 + _ ≤ _; exact Nat.le_of_eq rfl) (hb hby at_89) (fun _ _ => ⟨rfl, e28, (by decide : 8 + 1 ≤ _), (by decide : 23 + 1 ≤ _)⟩)
  dsimp only [Pt.U, Pt.locs, Pt.cells, Pt.slots] at X29 l29 y29 z29 st29 hQ29
  subst l29 y29 z29
  obtain ⟨rfl, N29q, K29, Ex29, Cd29, t29, kb29, lz29, lo29, tn29, Vf29, Av29⟩ := hQ29
  have N29 := Fr.app N27 N29q
  have S29 : Str Z T29.heap b28 t29 kb29 [ch8] := ⟨Ex29, Vf29, Cd29, Av29, hp32, Nat.le_of_ble_eq_true rfl⟩
  refine Goes.tr st29 ?_
  show Goes _ _ _ _ (T29.setTop (mkF m 92 #[.val (.int p0), .val (.int p1), .val (.int p2), .val (.int p3), .val (.ref b1), .val (.ref b6), .val (.ref b9), .unset, .unset, .unset, .unset, .unset, .unset, .unset, .unset] [(.ref b28), (.int (3 : Int32)), (.ref b9)]))
  have f33 : Arv Z T29.heap b9 k9 (.object "java/lang/Object") (4 : Int32) [.null, (.ref b12), (.ref b20), .null] .null := ((V27.ext E28).keep K29 (ninS (Nat.ne_of_lt (Nat.lt_of_lt_of_le A9.lt (Nat.le_trans (Nat.le_trans (Nat.le_trans (Nat.le_trans (Nat.le_trans (Nat.le_trans (Nat.le_trans (Nat.le_of_eq W11.size.symm) E12.1) K13.1) (Nat.le_of_eq W19.size.symm)) E20.1) K21.1) (Nat.le_of_eq W27.size.symm)) (Nat.le_of_eq g28.symm)))) nin0))
  obtain ⟨oc34, oA34, oq34, oS34, oM34, oH34, oG34⟩ := id f33
  obtain ⟨T35, h35, X35, e35, W35, st35⟩ := stR X29 hx hZ rfl oA34 (j := (3 : Int32)) (inb_of oS34 ⟨by decide, by decide⟩) rfl (Sto.ofV oA34 oq34 O9 (Ins.of_exa Ex29 (hw32 hw))) (g := (mkF m 92 #[.val (.int p0), .val (.int p1), .val (.int p2), .val (.int p3), .val (.ref b1), .val (.ref b6), .val (.ref b9), .unset, .unset, .unset, .unset, .unset, .unset, .unset, .unset] [(.ref b28), (.int (3 : Int32)), (.ref b9)])) rfl rfl (hb hby at_92)
  have V35 : Arv Z h35 b9 k9 (.object "java/lang/Object") (4 : Int32) [.null, (.ref b12), (.ref b20), (.ref b28)] .null := Arv.set oA34 oq34 oS34 oM34 oH34 oG34 rfl W35 3 rfl (Nat.le_of_ble_eq_true rfl)
  have N35 := Fr.snoc X35 N29 (Nat.le_trans Z0 (Nat.le_trans (Nat.le_trans (Nat.le_trans (Nat.le_trans (Nat.le_trans E1.1 (Nat.le_of_eq W3.size.symm)) (Nat.le_of_eq W5.size.symm)) E6.1) (Nat.le_of_eq W8.size.symm)) (Nat.le_of_eq g9.symm)))
  refine Goes.st st35 ?_
  show Goes _ _ _ _ (T35.setTop (mkF m 93 #[.val (.int p0), .val (.int p1), .val (.int p2), .val (.int p3), .val (.ref b1), .val (.ref b6), .val (.ref b9), .unset, .unset, .unset, .unset, .unset, .unset, .unset, .unset] []))
  refine Goes.st (fun t k => XS.iloadN X35.here hx rfl (hb hby at_93) rfl k) ?_
  show Goes _ _ _ _ (T35.setTop (mkF m 94 #[.val (.int p0), .val (.int p1), .val (.int p2), .val (.int p3), .val (.ref b1), .val (.ref b6), .val (.ref b9), .unset, .unset, .unset, .unset, .unset, .unset, .unset, .unset] [(.int p0)]))
  refine Goes.st (fun t k => XS.iconst X35.here hx rfl (hb hby at_94) k) ?_
  show Goes _ _ _ _ (T35.setTop (mkF m 95 #[.val (.int p0), .val (.int p1), .val (.int p2), .val (.int p3), .val (.ref b1), .val (.ref b6), .val (.ref b9), .unset, .unset, .unset, .unset, .unset, .unset, .unset, .unset] [(.int (3 : Int32)), (.int p0)]))
  refine Goes.st (fun t k => XS.iand X35.here hx rfl (hb hby at_95) rfl k) ?_
  show Goes _ _ _ _ (T35.setTop (mkF m 96 #[.val (.int p0), .val (.int p1), .val (.int p2), .val (.int p3), .val (.ref b1), .val (.ref b6), .val (.ref b9), .unset, .unset, .unset, .unset, .unset, .unset, .unset, .unset] [(.int (p0 &&& (3 : Int32)))]))
  obtain ⟨ji, hji⟩ : ∃ z, z = (p0 &&& (3 : Int32)) := ⟨_, rfl⟩
  have Fji : Four ji := by rw [hji]; exact own_three p0
  rw [← hji]
  show Goes _ _ _ _ (T35.setTop (mkF m 96 #[.val (.int p0), .val (.int p1), .val (.int p2), .val (.int p3), .val (.ref b1), .val (.ref b6), .val (.ref b9), .unset, .unset, .unset, .unset, .unset, .unset, .unset, .unset] [(.int ji)]))
  refine Goes.st (fun t k => XS.istore X35.here hx rfl (hb hby at_96) rfl (l' := #[.val (.int p0), .val (.int p1), .val (.int p2), .val (.int p3), .val (.ref b1), .val (.ref b6), .val (.ref b9), .val (.int ji), .unset, .unset, .unset, .unset, .unset, .unset, .unset]) rfl k) ?_
  show Goes _ _ _ _ (T35.setTop (mkF m 98 #[.val (.int p0), .val (.int p1), .val (.int p2), .val (.int p3), .val (.ref b1), .val (.ref b6), .val (.ref b9), .val (.int ji), .unset, .unset, .unset, .unset, .unset, .unset, .unset] []))
  refine Goes.st (fun t k => XS.iloadN X35.here hx rfl (hb hby at_98) rfl k) ?_
  show Goes _ _ _ _ (T35.setTop (mkF m 99 #[.val (.int p0), .val (.int p1), .val (.int p2), .val (.int p3), .val (.ref b1), .val (.ref b6), .val (.ref b9), .val (.int ji), .unset, .unset, .unset, .unset, .unset, .unset, .unset] [(.int p0)]))
  refine Goes.st (fun t k => XS.iconst X35.here hx rfl (hb hby at_99) k) ?_
  show Goes _ _ _ _ (T35.setTop (mkF m 100 #[.val (.int p0), .val (.int p1), .val (.int p2), .val (.int p3), .val (.ref b1), .val (.ref b6), .val (.ref b9), .val (.int ji), .unset, .unset, .unset, .unset, .unset, .unset, .unset] [(.int (2 : Int32)), (.int p0)]))
  refine Goes.st (fun t k => XS.iushr X35.here hx rfl (hb hby at_100) rfl k) ?_
  show Goes _ _ _ _ (T35.setTop (mkF m 101 #[.val (.int p0), .val (.int p1), .val (.int p2), .val (.int p3), .val (.ref b1), .val (.ref b6), .val (.ref b9), .val (.int ji), .unset, .unset, .unset, .unset, .unset, .unset, .unset] [(.int ((p0.toUInt32 >>> ((2 : Int32) &&& 31).toUInt32).toInt32))]))
  refine Goes.st (fun t k => XS.iconst X35.here hx rfl (hb hby at_101) k) ?_
  show Goes _ _ _ _ (T35.setTop (mkF m 102 #[.val (.int p0), .val (.int p1), .val (.int p2), .val (.int p3), .val (.ref b1), .val (.ref b6), .val (.ref b9), .val (.int ji), .unset, .unset, .unset, .unset, .unset, .unset, .unset] [(.int (3 : Int32)), (.int ((p0.toUInt32 >>> ((2 : Int32) &&& 31).toUInt32).toInt32))]))
  refine Goes.st (fun t k => XS.iand X35.here hx rfl (hb hby at_102) rfl k) ?_
  show Goes _ _ _ _ (T35.setTop (mkF m 103 #[.val (.int p0), .val (.int p1), .val (.int p2), .val (.int p3), .val (.ref b1), .val (.ref b6), .val (.ref b9), .val (.int ji), .unset, .unset, .unset, .unset, .unset, .unset, .unset] [(.int (((p0.toUInt32 >>> ((2 : Int32) &&& 31).toUInt32).toInt32) &&& (3 : Int32)))]))
  obtain ⟨jj, hjj⟩ : ∃ z, z = (((p0.toUInt32 >>> ((2 : Int32) &&& 31).toUInt32).toInt32) &&& (3 : Int32)) := ⟨_, rfl⟩
  have Fjj : Four jj := by rw [hjj]; exact own_three ((p0.toUInt32 >>> ((2 : Int32) &&& 31).toUInt32).toInt32)
  rw [← hjj]
  show Goes _ _ _ _ (T35.setTop (mkF m 103 #[.val (.int p0), .val (.int p1), .val (.int p2), .val (.int p3), .val (.ref b1), .val (.ref b6), .val (.ref b9), .val (.int ji), .unset, .unset, .unset, .unset, .unset, .unset, .unset] [(.int jj)]))
  refine Goes.st (fun t k => XS.istore X35.here hx rfl (hb hby at_103) rfl (l' := #[.val (.int p0), .val (.int p1), .val (.int p2), .val (.int p3), .val (.ref b1), .val (.ref b6), .val (.ref b9), .val (.int ji), .val (.int jj), .unset, .unset, .unset, .unset, .unset, .unset]) rfl k) ?_
  show Goes _ _ _ _ (T35.setTop (mkF m 105 #[.val (.int p0), .val (.int p1), .val (.int p2), .val (.int p3), .val (.ref b1), .val (.ref b6), .val (.ref b9), .val (.int ji), .val (.int jj), .unset, .unset, .unset, .unset, .unset, .unset] []))
  refine Goes.st (fun t k => XS.iloadN X35.here hx rfl (hb hby at_105) rfl k) ?_
  show Goes _ _ _ _ (T35.setTop (mkF m 106 #[.val (.int p0), .val (.int p1), .val (.int p2), .val (.int p3), .val (.ref b1), .val (.ref b6), .val (.ref b9), .val (.int ji), .val (.int jj), .unset, .unset, .unset, .unset, .unset, .unset] [(.int p0)]))
  refine Goes.st (fun t k => XS.iconst X35.here hx rfl (hb hby at_106) k) ?_
  show Goes _ _ _ _ (T35.setTop (mkF m 107 #[.val (.int p0), .val (.int p1), .val (.int p2), .val (.int p3), .val (.ref b1), .val (.ref b6), .val (.ref b9), .val (.int ji), .val (.int jj), .unset, .unset, .unset, .unset, .unset, .unset] [(.int (4 : Int32)), (.int p0)]))
  refine Goes.st (fun t k => XS.iushr X35.here hx rfl (hb hby at_107) rfl k) ?_
  show Goes _ _ _ _ (T35.setTop (mkF m 108 #[.val (.int p0), .val (.int p1), .val (.int p2), .val (.int p3), .val (.ref b1), .val (.ref b6), .val (.ref b9), .val (.int ji), .val (.int jj), .unset, .unset, .unset, .unset, .unset, .unset] [(.int ((p0.toUInt32 >>> ((4 : Int32) &&& 31).toUInt32).toInt32))]))
  refine Goes.st (fun t k => XS.iconst X35.here hx rfl (hb hby at_108) k) ?_
  show Goes _ _ _ _ (T35.setTop (mkF m 109 #[.val (.int p0), .val (.int p1), .val (.int p2), .val (.int p3), .val (.ref b1), .val (.ref b6), .val (.ref b9), .val (.int ji), .val (.int jj), .unset, .unset, .unset, .unset, .unset, .unset] [(.int (3 : Int32)), (.int ((p0.toUInt32 >>> ((4 : Int32) &&& 31).toUInt32).toInt32))]))
  refine Goes.st (fun t k => XS.iand X35.here hx rfl (hb hby at_109) rfl k) ?_
  show Goes _ _ _ _ (T35.setTop (mkF m 110 #[.val (.int p0), .val (.int p1), .val (.int p2), .val (.int p3), .val (.ref b1), .val (.ref b6), .val (.ref b9), .val (.int ji), .val (.int jj), .unset, .unset, .unset, .unset, .unset, .unset] [(.int (((p0.toUInt32 >>> ((4 : Int32) &&& 31).toUInt32).toInt32) &&& (3 : Int32)))]))
  obtain ⟨jk, hjk⟩ : ∃ z, z = (((p0.toUInt32 >>> ((4 : Int32) &&& 31).toUInt32).toInt32) &&& (3 : Int32)) := ⟨_, rfl⟩
  have Fjk : Four jk := by rw [hjk]; exact own_three ((p0.toUInt32 >>> ((4 : Int32) &&& 31).toUInt32).toInt32)
  rw [← hjk]
  show Goes _ _ _ _ (T35.setTop (mkF m 110 #[.val (.int p0), .val (.int p1), .val (.int p2), .val (.int p3), .val (.ref b1), .val (.ref b6), .val (.ref b9), .val (.int ji), .val (.int jj), .unset, .unset, .unset, .unset, .unset, .unset] [(.int jk)]))
  refine Goes.st (fun t k => XS.istore X35.here hx rfl (hb hby at_110) rfl (l' := #[.val (.int p0), .val (.int p1), .val (.int p2), .val (.int p3), .val (.ref b1), .val (.ref b6), .val (.ref b9), .val (.int ji), .val (.int jj), .val (.int jk), .unset, .unset, .unset, .unset, .unset]) rfl k) ?_
  show Goes _ _ _ _ (T35.setTop (mkF m 112 #[.val (.int p0), .val (.int p1), .val (.int p2), .val (.int p3), .val (.ref b1), .val (.ref b6), .val (.ref b9), .val (.int ji), .val (.int jj), .val (.int jk), .unset, .unset, .unset, .unset, .unset] []))
  refine Goes.st (fun t k => XS.iloadN X35.here hx rfl (hb hby at_112) rfl k) ?_
  show Goes _ _ _ _ (T35.setTop (mkF m 113 #[.val (.int p0), .val (.int p1), .val (.int p2), .val (.int p3), .val (.ref b1), .val (.ref b6), .val (.ref b9), .val (.int ji), .val (.int jj), .val (.int jk), .unset, .unset, .unset, .unset, .unset] [(.int p0)]))
  refine Goes.st (fun t k => XS.bipush X35.here hx rfl (hb hby at_113) k) ?_
  show Goes _ _ _ _ (T35.setTop (mkF m 115 #[.val (.int p0), .val (.int p1), .val (.int p2), .val (.int p3), .val (.ref b1), .val (.ref b6), .val (.ref b9), .val (.int ji), .val (.int jj), .val (.int jk), .unset, .unset, .unset, .unset, .unset] [(.int (6 : Int32)), (.int p0)]))
  refine Goes.st (fun t k => XS.iushr X35.here hx rfl (hb hby at_115) rfl k) ?_
  show Goes _ _ _ _ (T35.setTop (mkF m 116 #[.val (.int p0), .val (.int p1), .val (.int p2), .val (.int p3), .val (.ref b1), .val (.ref b6), .val (.ref b9), .val (.int ji), .val (.int jj), .val (.int jk), .unset, .unset, .unset, .unset, .unset] [(.int ((p0.toUInt32 >>> ((6 : Int32) &&& 31).toUInt32).toInt32))]))
  refine Goes.st (fun t k => XS.iconst X35.here hx rfl (hb hby at_116) k) ?_
  show Goes _ _ _ _ (T35.setTop (mkF m 117 #[.val (.int p0), .val (.int p1), .val (.int p2), .val (.int p3), .val (.ref b1), .val (.ref b6), .val (.ref b9), .val (.int ji), .val (.int jj), .val (.int jk), .unset, .unset, .unset, .unset, .unset] [(.int (3 : Int32)), (.int ((p0.toUInt32 >>> ((6 : Int32) &&& 31).toUInt32).toInt32))]))
  refine Goes.st (fun t k => XS.iand X35.here hx rfl (hb hby at_117) rfl k) ?_
  show Goes _ _ _ _ (T35.setTop (mkF m 118 #[.val (.int p0), .val (.int p1), .val (.int p2), .val (.int p3), .val (.ref b1), .val (.ref b6), .val (.ref b9), .val (.int ji), .val (.int jj), .val (.int jk), .unset, .unset, .unset, .unset, .unset] [(.int (((p0.toUInt32 >>> ((6 : Int32) &&& 31).toUInt32).toInt32) &&& (3 : Int32)))]))
  obtain ⟨jl, hjl⟩ : ∃ z, z = (((p0.toUInt32 >>> ((6 : Int32) &&& 31).toUInt32).toInt32) &&& (3 : Int32)) := ⟨_, rfl⟩
  have Fjl : Four jl := by rw [hjl]; exact own_three ((p0.toUInt32 >>> ((6 : Int32) &&& 31).toUInt32).toInt32)
  rw [← hjl]
  show Goes _ _ _ _ (T35.setTop (mkF m 118 #[.val (.int p0), .val (.int p1), .val (.int p2), .val (.int p3), .val (.ref b1), .val (.ref b6), .val (.ref b9), .val (.int ji), .val (.int jj), .val (.int jk), .unset, .unset, .unset, .unset, .unset] [(.int jl)]))
  refine Goes.st (fun t k => XS.istore X35.here hx rfl (hb hby at_118) rfl (l' := #[.val (.int p0), .val (.int p1), .val (.int p2), .val (.int p3), .val (.ref b1), .val (.ref b6), .val (.ref b9), .val (.int ji), .val (.int jj), .val (.int jk), .val (.int jl), .unset, .unset, .unset, .unset]) rfl k) ?_
  show Goes _ _ _ _ (T35.setTop (mkF m 120 #[.val (.int p0), .val (.int p1), .val (.int p2), .val (.int p3), .val (.ref b1), .val (.ref b6), .val (.ref b9), .val (.int ji), .val (.int jj), .val (.int jk), .val (.int jl), .unset, .unset, .unset, .unset] []))
  obtain ⟨T36, h36, X36, e36, E36, A36, D36, -, st36⟩ := newO X35 hx hZ hown (hw33 hw) (hw34 hw) (hw35 hw) e35 (g := (mkF m 120 #[.val (.int p0), .val (.int p1), .val (.int p2), .val (.int p3), .val (.ref b1), .val (.ref b6), .val (.ref b9), .val (.int ji), .val (.int jj), .val (.int jk), .val (.int jl), .unset, .unset, .unset, .unset] [])) rfl (hb hby at_120) (by decide) (by decide)
  obtain ⟨b36, g36⟩ : ∃ z, z = h35.size := ⟨_, rfl⟩
  rw [← g36] at A36 D36 st36
  have F36_first : Fld Z h36 b36 "com/example/warrant/warrant/util/IdentityPair" "first" "Ljava/lang/Object;" .null := D36 (Or.inr (hw46 hw)) (ty := (.object "java/lang/Object")) (by decide)
  have F36_second : Fld Z h36 b36 "com/example/warrant/warrant/util/IdentityPair" "second" "Ljava/lang/Object;" .null := D36 (Or.inr (hw48 hw)) (ty := (.object "java/lang/Object")) (by decide)
  refine Goes.st st36 ?_
  show Goes _ _ _ _ (T36.setTop (mkF m 123 #[.val (.int p0), .val (.int p1), .val (.int p2), .val (.int p3), .val (.ref b1), .val (.ref b6), .val (.ref b9), .val (.int ji), .val (.int jj), .val (.int jk), .val (.int jl), .unset, .unset, .unset, .unset] [(.ref b36)]))
  refine Goes.st (fun t k => XS.dup X36.here hx rfl (hb hby at_123) rfl rfl k) ?_
  show Goes _ _ _ _ (T36.setTop (mkF m 124 #[.val (.int p0), .val (.int p1), .val (.int p2), .val (.int p3), .val (.ref b1), .val (.ref b6), .val (.ref b9), .val (.int ji), .val (.int jj), .val (.int jk), .val (.int jl), .unset, .unset, .unset, .unset] [(.ref b36), (.ref b36)]))
  refine Goes.st (fun t k => XS.aload X36.here hx rfl (hb hby at_124) rfl rfl k) ?_
  show Goes _ _ _ _ (T36.setTop (mkF m 126 #[.val (.int p0), .val (.int p1), .val (.int p2), .val (.int p3), .val (.ref b1), .val (.ref b6), .val (.ref b9), .val (.int ji), .val (.int jj), .val (.int jk), .val (.int jl), .unset, .unset, .unset, .unset] [(.ref b9), (.ref b36), (.ref b36)]))
  refine Goes.st (fun t k => XS.iload X36.here hx rfl (hb hby at_126) rfl k) ?_
  show Goes _ _ _ _ (T36.setTop (mkF m 128 #[.val (.int p0), .val (.int p1), .val (.int p2), .val (.int p3), .val (.ref b1), .val (.ref b6), .val (.ref b9), .val (.int ji), .val (.int jj), .val (.int jk), .val (.int jl), .unset, .unset, .unset, .unset] [(.int ji), (.ref b9), (.ref b36), (.ref b36)]))
  have f37 : Arv Z h36 b9 k9 (.object "java/lang/Object") (4 : Int32) [.null, (.ref b12), (.ref b20), (.ref b28)] .null := (V35.ext E36)
  obtain ⟨oc38, oA38, oq38, oS38, oM38, oH38, oG38⟩ := id f37
  obtain ⟨v39, hv39⟩ : ∃ z, z = own_pool b12 b20 b28 ji := ⟨_, rfl⟩
  have rv39 : v39.isRef = true := by rw [hv39]; exact own_pref Fji
  refine Goes.st (fun t k => X36.aaload hx (j := ji) (v := v39) (by rw [e36]; exact oA38.1) (State.isArrayOf_alike hZ.alike oA38.2.1) rfl oA38.2.2 (inb_of oS38 (own_in4 Fji)) (oH38.at (inb_of oS38 (own_in4 Fji)) hv39.symm) (g := (mkF m 128 #[.val (.int p0), .val (.int p1), .val (.int p2), .val (.int p3), .val (.ref b1), .val (.ref b6), .val (.ref b9), .val (.int ji), .val (.int jj), .val (.int jk), .val (.int jl), .unset, .unset, .unset, .unset] [(.int ji), (.ref b9), (.ref b36), (.ref b36)])) rfl rfl (hb hby at_128) _ k) ?_
  show Goes _ _ _ _ (T36.setTop (mkF m 129 #[.val (.int p0), .val (.int p1), .val (.int p2), .val (.int p3), .val (.ref b1), .val (.ref b6), .val (.ref b9), .val (.int ji), .val (.int jj), .val (.int jk), .val (.int jl), .unset, .unset, .unset, .unset] [v39, (.ref b36), (.ref b36)]))
  refine Goes.st (fun t k => XS.aload X36.here hx rfl (hb hby at_129) rfl rfl k) ?_
  show Goes _ _ _ _ (T36.setTop (mkF m 131 #[.val (.int p0), .val (.int p1), .val (.int p2), .val (.int p3), .val (.ref b1), .val (.ref b6), .val (.ref b9), .val (.int ji), .val (.int jj), .val (.int jk), .val (.int jl), .unset, .unset, .unset, .unset] [(.ref b9), v39, (.ref b36), (.ref b36)]))
  refine Goes.st (fun t k => XS.iload X36.here hx rfl (hb hby at_131) rfl k) ?_
  show Goes _ _ _ _ (T36.setTop (mkF m 133 #[.val (.int p0), .val (.int p1), .val (.int p2), .val (.int p3), .val (.ref b1), .val (.ref b6), .val (.ref b9), .val (.int ji), .val (.int jj), .val (.int jk), .val (.int jl), .unset, .unset, .unset, .unset] [(.int jj), (.ref b9), v39, (.ref b36), (.ref b36)]))
  obtain ⟨oc40, oA40, oq40, oS40, oM40, oH40, oG40⟩ := id f37
  obtain ⟨v41, hv41⟩ : ∃ z, z = own_pool b12 b20 b28 jj := ⟨_, rfl⟩
  have rv41 : v41.isRef = true := by rw [hv41]; exact own_pref Fjj
  refine Goes.st (fun t k => X36.aaload hx (j := jj) (v := v41) (by rw [e36]; exact oA40.1) (State.isArrayOf_alike hZ.alike oA40.2.1) rfl oA40.2.2 (inb_of oS40 (own_in4 Fjj)) (oH40.at (inb_of oS40 (own_in4 Fjj)) hv41.symm) (g := (mkF m 133 #[.val (.int p0), .val (.int p1), .val (.int p2), .val (.int p3), .val (.ref b1), .val (.ref b6), .val (.ref b9), .val (.int ji), .val (.int jj), .val (.int jk), .val (.int jl), .unset, .unset, .unset, .unset] [(.int jj), (.ref b9), v39, (.ref b36), (.ref b36)])) rfl rfl (hb hby at_133) _ k) ?_
  show Goes _ _ _ _ (T36.setTop (mkF m 134 #[.val (.int p0), .val (.int p1), .val (.int p2), .val (.int p3), .val (.ref b1), .val (.ref b6), .val (.ref b9), .val (.int ji), .val (.int jj), .val (.int jk), .val (.int jl), .unset, .unset, .unset, .unset] [v41, v39, (.ref b36), (.ref b36)]))
  obtain ⟨_, _, ⟨T42, L42, k42, n42⟩, -, X42, ⟨Lc42, hQ42, l42, y42, z42⟩, st42⟩ := X36.specialBack hx (y := (⟨"com/example/warrant/warrant/util/IdentityPair", "<init>", "(Ljava/lang/Object;Ljava/lang/Object;)V"⟩ : MethodName)) rfl hown (mvT hZ (hw36 hw)) (mvT hZ (hw37 hw)) (mvT hZ (hw38 hw)) (by decide) (backOf (W := 1) (rm_pair l Z a0 hw [] b36 v39 v41 h36 n0 (Nat.le_trans Z0 (Nat.le_trans (Nat.le_trans (Nat.le_trans (Nat.le_trans (Nat.le_trans (Nat.le_trans (Nat.le_trans (Nat.le_trans (Nat.le_trans (Nat.le_trans (Nat.le_trans (Nat.le_trans (Nat.le_trans (Nat.le_trans (Nat.le_trans (Nat.le_trans E1.1 (Nat.le_of_eq W3.size.symm)) (Nat.le_of_eq W5.size.symm)) E6.1) (Nat.le_of_eq W8.size.symm)) E9.1) (Nat.le_of_eq W11.size.symm)) E12.1) K13.1) (Nat.le_of_eq W19.size.symm)) E20.1) K21.1) (Nat.le_of_eq W27.size.symm)) E28.1) K29.1) (Nat.le_of_eq W35.size.symm)) E36.1)) A36 F36_first F36_second (Nat.le_trans Z0 (Nat.le_trans (Nat.le_trans (Nat.le_trans (Nat.le_trans (Nat.le_trans (Nat.le_trans (Nat.le_trans (Nat.le_trans (Nat.le_trans (Nat.le_trans (Nat.le_trans (Nat.le_trans (Nat.le_trans (Nat.le_trans (Nat.le_trans (Nat.le_trans E1.1 (Nat.le_of_eq W3.size.symm)) (Nat.le_of_eq W5.size.symm)) E6.1) (Nat.le_of_eq W8.size.symm)) E9.1) (Nat.le_of_eq W11.size.symm)) E12.1) K13.1) (Nat.le_of_eq W19.size.symm)) E20.1) K21.1) (Nat.le_of_eq W27.size.symm)) E28.1) K29.1) (Nat.le_of_eq W35.size.symm)) (Nat.le_of_eq g36.symm))) rv39 rv41) hZ (hw38 hw) (hw35 hw) (by decide) (by decide)) (g := (mkF m 134 #[.val (.int p0), .val (.int p1), .val (.int p2), .val (.int p3), .val (.ref b1), .val (.ref b6), .val (.ref b9), .val (.int ji), .val (.int jj), .val (.int jk), .val (.int jl), .unset, .unset, .unset, .unset] [v41, v39, (.ref b36), (.ref b36)])) rfl (by rw [hml]; rfl) (Steps.refl _) (a := b36) (argsL := [v39, v41]) (rest := [(.ref b36)]) (lenOf pd_2 rfl) rfl (by show 2 * 0 + _ ≤ _; exact Nat.le_of_eq rfl) (hb hby at_134) (fun _ _ => ⟨rfl, e36, (by decide : 10 + 0 ≤ _), (by decide : 26 + 0 ≤ _)⟩)
  dsimp only [Pt.U, Pt.locs, Pt.cells, Pt.slots] at X42 l42 y42 z42 st42 hQ42
  subst l42 y42 z42
  obtain ⟨rfl, N42q, K42, F42_0, F42_1, F42_2⟩ := hQ42
  have N42 := Fr.app N35 N42q
  refine Goes.tr st42 ?_
  show Goes _ _ _ _ (T42.setTop (mkF m 137 #[.val (.int p0), .val (.int p1), .val (.int p2), .val (.int p3), .val (.ref b1), .val (.ref b6), .val (.ref b9), .val (.int ji), .val (.int jj), .val (.int jk), .val (.int jl), .unset, .unset, .unset, .unset] [(.ref b36)]))
  refine Goes.st (fun t k => XS.astore X42.here hx rfl (hb hby at_137) rfl rfl (l' := #[.val (.int p0), .val (.int p1), .val (.int p2), .val (.int p3), .val (.ref b1), .val (.ref b6), .val (.ref b9), .val (.int ji), .val (.int jj), .val (.int jk), .val (.int jl), .val (.ref b36), .unset, .unset, .unset]) rfl k) ?_
  show Goes _ _ _ _ (T42.setTop (mkF m 139 #[.val (.int p0), .val (.int p1), .val (.int p2), .val (.int p3), .val (.ref b1), .val (.ref b6), .val (.ref b9), .val (.int ji), .val (.int jj), .val (.int jk), .val (.int jl), .val (.ref b36), .unset, .unset, .unset] []))
  refine Goes.st (fun t k => XS.iloadN X42.here hx rfl (hb hby at_139) rfl k) ?_
  show Goes _ _ _ _ (T42.setTop (mkF m 140 #[.val (.int p0), .val (.int p1), .val (.int p2), .val (.int p3), .val (.ref b1), .val (.ref b6), .val (.ref b9), .val (.int ji), .val (.int jj), .val (.int jk), .val (.int jl), .val (.ref b36), .unset, .unset, .unset] [(.int p1)]))
  refine Goes.st (fun t k => XS.iconst X42.here hx rfl (hb hby at_140) k) ?_
  show Goes _ _ _ _ (T42.setTop (mkF m 141 #[.val (.int p0), .val (.int p1), .val (.int p2), .val (.int p3), .val (.ref b1), .val (.ref b6), .val (.ref b9), .val (.int ji), .val (.int jj), .val (.int jk), .val (.int jl), .val (.ref b36), .unset, .unset, .unset] [(.int (3 : Int32)), (.int p1)]))
  refine Goes.st (fun t k => XS.iand X42.here hx rfl (hb hby at_141) rfl k) ?_
  show Goes _ _ _ _ (T42.setTop (mkF m 142 #[.val (.int p0), .val (.int p1), .val (.int p2), .val (.int p3), .val (.ref b1), .val (.ref b6), .val (.ref b9), .val (.int ji), .val (.int jj), .val (.int jk), .val (.int jl), .val (.ref b36), .unset, .unset, .unset] [(.int (p1 &&& (3 : Int32)))]))
  refine Goes.st (fun t k => XS.istore X42.here hx rfl (hb hby at_142) rfl (l' := #[.val (.int p0), .val (.int p1), .val (.int p2), .val (.int p3), .val (.ref b1), .val (.ref b6), .val (.ref b9), .val (.int ji), .val (.int jj), .val (.int jk), .val (.int jl), .val (.ref b36), .val (.int (p1 &&& (3 : Int32))), .unset, .unset]) rfl k) ?_
  show Goes _ _ _ _ (T42.setTop (mkF m 144 #[.val (.int p0), .val (.int p1), .val (.int p2), .val (.int p3), .val (.ref b1), .val (.ref b6), .val (.ref b9), .val (.int ji), .val (.int jj), .val (.int jk), .val (.int jl), .val (.ref b36), .val (.int (p1 &&& (3 : Int32))), .unset, .unset] []))
  refine Goes.st (fun t k => XS.iload X42.here hx rfl (hb hby at_144) rfl k) ?_
  show Goes _ _ _ _ (T42.setTop (mkF m 146 #[.val (.int p0), .val (.int p1), .val (.int p2), .val (.int p3), .val (.ref b1), .val (.ref b6), .val (.ref b9), .val (.int ji), .val (.int jj), .val (.int jk), .val (.int jl), .val (.ref b36), .val (.int (p1 &&& (3 : Int32))), .unset, .unset] [(.int (p1 &&& (3 : Int32)))]))
  by_cases c43 : (p1 &&& (3 : Int32)) = (0 : Int32)
  case pos =>
    refine Goes.st (fun t k => XS.ifNo X42.here hx rfl (hb hby at_146) rfl ((if0 _ _).trans (teq c43).2) k) ?_
    show Goes _ _ _ _ (T42.setTop (mkF m 149 #[.val (.int p0), .val (.int p1), .val (.int p2), .val (.int p3), .val (.ref b1), .val (.ref b6), .val (.ref b9), .val (.int ji), .val (.int jj), .val (.int jk), .val (.int jl), .val (.ref b36), .val (.int (p1 &&& (3 : Int32))), .unset, .unset] []))
    obtain ⟨T44, h44, X44, e44, E44, A44, D44, -, st44⟩ := newO X42 hx hZ hown (hw33 hw) (hw34 hw) (hw35 hw) rfl (g := (mkF m 149 #[.val (.int p0), .val (.int p1), .val (.int p2), .val (.int p3), .val (.ref b1), .val (.ref b6), .val (.ref b9), .val (.int ji), .val (.int jj), .val (.int jk), .val (.int jl), .val (.ref b36), .val (.int (p1 &&& (3 : Int32))), .unset, .unset] [])) rfl (hb hby at_149) (by decide) (by decide)
    obtain ⟨b44, g44⟩ : ∃ z, z = T42.heap.size := ⟨_, rfl⟩
    rw [← g44] at A44 D44 st44
    have F44_first : Fld Z h44 b44 "com/example/warrant/warrant/util/IdentityPair" "first" "Ljava/lang/Object;" .null := D44 (Or.inr (hw46 hw)) (ty := (.object "java/lang/Object")) (by decide)
    have F44_second : Fld Z h44 b44 "com/example/warrant/warrant/util/IdentityPair" "second" "Ljava/lang/Object;" .null := D44 (Or.inr (hw48 hw)) (ty := (.object "java/lang/Object")) (by decide)
    refine Goes.st st44 ?_
    show Goes _ _ _ _ (T44.setTop (mkF m 152 #[.val (.int p0), .val (.int p1), .val (.int p2), .val (.int p3), .val (.ref b1), .val (.ref b6), .val (.ref b9), .val (.int ji), .val (.int jj), .val (.int jk), .val (.int jl), .val (.ref b36), .val (.int (p1 &&& (3 : Int32))), .unset, .unset] [(.ref b44)]))
    refine Goes.st (fun t k => XS.dup X44.here hx rfl (hb hby at_152) rfl rfl k) ?_
    show Goes _ _ _ _ (T44.setTop (mkF m 153 #[.val (.int p0), .val (.int p1), .val (.int p2), .val (.int p3), .val (.ref b1), .val (.ref b6), .val (.ref b9), .val (.int ji), .val (.int jj), .val (.int jk), .val (.int jl), .val (.ref b36), .val (.int (p1 &&& (3 : Int32))), .unset, .unset] [(.ref b44), (.ref b44)]))
    refine Goes.st (fun t k => XS.aload X44.here hx rfl (hb hby at_153) rfl rfl k) ?_
    show Goes _ _ _ _ (T44.setTop (mkF m 155 #[.val (.int p0), .val (.int p1), .val (.int p2), .val (.int p3), .val (.ref b1), .val (.ref b6), .val (.ref b9), .val (.int ji), .val (.int jj), .val (.int jk), .val (.int jl), .val (.ref b36), .val (.int (p1 &&& (3 : Int32))), .unset, .unset] [(.ref b9), (.ref b44), (.ref b44)]))
    refine Goes.st (fun t k => XS.iload X44.here hx rfl (hb hby at_155) rfl k) ?_
    show Goes _ _ _ _ (T44.setTop (mkF m 157 #[.val (.int p0), .val (.int p1), .val (.int p2), .val (.int p3), .val (.ref b1), .val (.ref b6), .val (.ref b9), .val (.int ji), .val (.int jj), .val (.int jk), .val (.int jl), .val (.ref b36), .val (.int (p1 &&& (3 : Int32))), .unset, .unset] [(.int jk), (.ref b9), (.ref b44), (.ref b44)]))
    have f45 : Arv Z h44 b9 k9 (.object "java/lang/Object") (4 : Int32) [.null, (.ref b12), (.ref b20), (.ref b28)] .null := ((f37.keep K42 (ninS (Nat.ne_of_lt (Nat.lt_of_lt_of_le A9.lt (Nat.le_trans (Nat.le_trans (Nat.le_trans (Nat.le_trans (Nat.le_trans (Nat.le_trans (Nat.le_trans (Nat.le_trans (Nat.le_trans (Nat.le_trans (Nat.le_of_eq W11.size.symm) E12.1) K13.1) (Nat.le_of_eq W19.size.symm)) E20.1) K21.1) (Nat.le_of_eq W27.size.symm)) E28.1) K29.1) (Nat.le_of_eq W35.size.symm)) (Nat.le_of_eq g36.symm)))) nin0)).ext E44)
    obtain ⟨oc46, oA46, oq46, oS46, oM46, oH46, oG46⟩ := id f45
    obtain ⟨v47, hv47⟩ : ∃ z, z = own_pool b12 b20 b28 jk := ⟨_, rfl⟩
    have rv47 : v47.isRef = true := by rw [hv47]; exact own_pref Fjk
    refine Goes.st (fun t k => X44.aaload hx (j := jk) (v := v47) (by rw [e44]; exact oA46.1) (State.isArrayOf_alike hZ.alike oA46.2.1) rfl oA46.2.2 (inb_of oS46 (own_in4 Fjk)) (oH46.at (inb_of oS46 (own_in4 Fjk)) hv47.symm) (g := (mkF m 157 #[.val (.int p0), .val (.int p1), .val (.int p2), .val (.int p3), .val (.ref b1), .val (.ref b6), .val (.ref b9), .val (.int ji), .val (.int jj), .val (.int jk), .val (.int jl), .val (.ref b36), .val (.int (p1 &&& (3 : Int32))), .unset, .unset] [(.int jk), (.ref b9), (.ref b44), (.ref b44)])) rfl rfl (hb hby at_157) _ k) ?_
    show Goes _ _ _ _ (T44.setTop (mkF m 158 #[.val (.int p0), .val (.int p1), .val (.int p2), .val (.int p3), .val (.ref b1), .val (.ref b6), .val (.ref b9), .val (.int ji), .val (.int jj), .val (.int jk), .val (.int jl), .val (.ref b36), .val (.int (p1 &&& (3 : Int32))), .unset, .unset] [v47, (.ref b44), (.ref b44)]))
    refine Goes.st (fun t k => XS.aload X44.here hx rfl (hb hby at_158) rfl rfl k) ?_
    show Goes _ _ _ _ (T44.setTop (mkF m 160 #[.val (.int p0), .val (.int p1), .val (.int p2), .val (.int p3), .val (.ref b1), .val (.ref b6), .val (.ref b9), .val (.int ji), .val (.int jj), .val (.int jk), .val (.int jl), .val (.ref b36), .val (.int (p1 &&& (3 : Int32))), .unset, .unset] [(.ref b9), v47, (.ref b44), (.ref b44)]))
    refine Goes.st (fun t k => XS.iload X44.here hx rfl (hb hby at_160) rfl k) ?_
    show Goes _ _ _ _ (T44.setTop (mkF m 162 #[.val (.int p0), .val (.int p1), .val (.int p2), .val (.int p3), .val (.ref b1), .val (.ref b6), .val (.ref b9), .val (.int ji), .val (.int jj), .val (.int jk), .val (.int jl), .val (.ref b36), .val (.int (p1 &&& (3 : Int32))), .unset, .unset] [(.int jl), (.ref b9), v47, (.ref b44), (.ref b44)]))
    obtain ⟨oc48, oA48, oq48, oS48, oM48, oH48, oG48⟩ := id f45
    obtain ⟨v49, hv49⟩ : ∃ z, z = own_pool b12 b20 b28 jl := ⟨_, rfl⟩
    have rv49 : v49.isRef = true := by rw [hv49]; exact own_pref Fjl
    refine Goes.st (fun t k => X44.aaload hx (j := jl) (v := v49) (by rw [e44]; exact oA48.1) (State.isArrayOf_alike hZ.alike oA48.2.1) rfl oA48.2.2 (inb_of oS48 (own_in4 Fjl)) (oH48.at (inb_of oS48 (own_in4 Fjl)) hv49.symm) (g := (mkF m 162 #[.val (.int p0), .val (.int p1), .val (.int p2), .val (.int p3), .val (.ref b1), .val (.ref b6), .val (.ref b9), .val (.int ji), .val (.int jj), .val (.int jk), .val (.int jl), .val (.ref b36), .val (.int (p1 &&& (3 : Int32))), .unset, .unset] [(.int jl), (.ref b9), v47, (.ref b44), (.ref b44)])) rfl rfl (hb hby at_162) _ k) ?_
    show Goes _ _ _ _ (T44.setTop (mkF m 163 #[.val (.int p0), .val (.int p1), .val (.int p2), .val (.int p3), .val (.ref b1), .val (.ref b6), .val (.ref b9), .val (.int ji), .val (.int jj), .val (.int jk), .val (.int jl), .val (.ref b36), .val (.int (p1 &&& (3 : Int32))), .unset, .unset] [v49, v47, (.ref b44), (.ref b44)]))
    obtain ⟨_, _, ⟨T50, L50, k50, n50⟩, -, X50, ⟨Lc50, hQ50, l50, y50, z50⟩, st50⟩ := X44.specialBack hx (y := (⟨"com/example/warrant/warrant/util/IdentityPair", "<init>", "(Ljava/lang/Object;Ljava/lang/Object;)V"⟩ : MethodName)) rfl hown (mvT hZ (hw36 hw)) (mvT hZ (hw37 hw)) (mvT hZ (hw38 hw)) (by decide) (backOf (W := 1) (rm_pair l Z a0 hw [] b44 v47 v49 h44 n0 (Nat.le_trans Z0 (Nat.le_trans (Nat.le_trans (Nat.le_trans (Nat.le_trans (Nat.le_trans (Nat.le_trans (Nat.le_trans (Nat.le_trans (Nat.le_trans (Nat.le_trans (Nat.le_trans (Nat.le_trans (Nat.le_trans (Nat.le_trans (Nat.le_trans (Nat.le_trans (Nat.le_trans (Nat.le_trans E1.1 (Nat.le_of_eq W3.size.symm)) (Nat.le_of_eq W5.size.symm)) E6.1) (Nat.le_of_eq W8.size.symm)) E9.1) (Nat.le_of_eq W11.size.symm)) E12.1) K13.1) (Nat.le_of_eq W19.size.symm)) E20.1) K21.1) (Nat.le_of_eq W27.size.symm)) E28.1) K29.1) (Nat.le_of_eq W35.size.symm)) E36.1) K42.1) E44.1)) A44 F44_first F44_second (Nat.le_trans Z0 (Nat.le_trans (Nat.le_trans (Nat.le_trans (Nat.le_trans (Nat.le_trans (Nat.le_trans (Nat.le_trans (Nat.le_trans (Nat.le_trans (Nat.le_trans (Nat.le_trans (Nat.le_trans (Nat.le_trans (Nat.le_trans (Nat.le_trans (Nat.le_trans (Nat.le_trans (Nat.le_trans E1.1 (Nat.le_of_eq W3.size.symm)) (Nat.le_of_eq W5.size.symm)) E6.1) (Nat.le_of_eq W8.size.symm)) E9.1) (Nat.le_of_eq W11.size.symm)) E12.1) K13.1) (Nat.le_of_eq W19.size.symm)) E20.1) K21.1) (Nat.le_of_eq W27.size.symm)) E28.1) K29.1) (Nat.le_of_eq W35.size.symm)) E36.1) K42.1) (Nat.le_of_eq g44.symm))) rv47 rv49) hZ (hw38 hw) (hw35 hw) (by decide) (by decide)) (g := (mkF m 163 #[.val (.int p0), .val (.int p1), .val (.int p2), .val (.int p3), .val (.ref b1), .val (.ref b6), .val (.ref b9), .val (.int ji), .val (.int jj), .val (.int jk), .val (.int jl), .val (.ref b36), .val (.int (p1 &&& (3 : Int32))), .unset, .unset] [v49, v47, (.ref b44), (.ref b44)])) rfl (by rw [hml]; rfl) (Steps.refl _) (a := b44) (argsL := [v47, v49]) (rest := [(.ref b44)]) (lenOf pd_2 rfl) rfl (by show 2 * 0 + _ ≤ _; exact Nat.le_of_eq rfl) (hb hby at_163) (fun _ _ => ⟨rfl, e44, (by decide : 11 + 0 ≤ _), (by decide : 28 + 0 ≤ _)⟩)
    dsimp only [Pt.U, Pt.locs, Pt.cells, Pt.slots] at X50 l50 y50 z50 st50 hQ50
    subst l50 y50 z50
    obtain ⟨rfl, N50q, K50, F50_0, F50_1, F50_2⟩ := hQ50
    have N50 := Fr.app N42 N50q
    refine Goes.tr st50 ?_
    show Goes _ _ _ _ (T50.setTop (mkF m 166 #[.val (.int p0), .val (.int p1), .val (.int p2), .val (.int p3), .val (.ref b1), .val (.ref b6), .val (.ref b9), .val (.int ji), .val (.int jj), .val (.int jk), .val (.int jl), .val (.ref b36), .val (.int (p1 &&& (3 : Int32))), .unset, .unset] [(.ref b44)]))
    refine Goes.st (fun t k => XS.astore X50.here hx rfl (hb hby at_166) rfl rfl (l' := #[.val (.int p0), .val (.int p1), .val (.int p2), .val (.int p3), .val (.ref b1), .val (.ref b6), .val (.ref b9), .val (.int ji), .val (.int jj), .val (.int jk), .val (.int jl), .val (.ref b36), .val (.int (p1 &&& (3 : Int32))), .val (.ref b44), .unset]) rfl k) ?_
    show Goes _ _ _ _ (T50.setTop (mkF m 168 #[.val (.int p0), .val (.int p1), .val (.int p2), .val (.int p3), .val (.ref b1), .val (.ref b6), .val (.ref b9), .val (.int ji), .val (.int jj), .val (.int jk), .val (.int jl), .val (.ref b36), .val (.int (p1 &&& (3 : Int32))), .val (.ref b44), .unset] []))
    refine Goes.st (fun t k => XS.iload X50.here hx rfl (hb hby at_168) rfl k) ?_
    show Goes _ _ _ _ (T50.setTop (mkF m 170 #[.val (.int p0), .val (.int p1), .val (.int p2), .val (.int p3), .val (.ref b1), .val (.ref b6), .val (.ref b9), .val (.int ji), .val (.int jj), .val (.int jk), .val (.int jl), .val (.ref b36), .val (.int (p1 &&& (3 : Int32))), .val (.ref b44), .unset] [(.int ji)]))
    refine Goes.st (fun t k => XS.iload X50.here hx rfl (hb hby at_170) rfl k) ?_
    show Goes _ _ _ _ (T50.setTop (mkF m 172 #[.val (.int p0), .val (.int p1), .val (.int p2), .val (.int p3), .val (.ref b1), .val (.ref b6), .val (.ref b9), .val (.int ji), .val (.int jj), .val (.int jk), .val (.int jl), .val (.ref b36), .val (.int (p1 &&& (3 : Int32))), .val (.ref b44), .unset] [(.int jk), (.int ji)]))
    by_cases c51 : ji = jk
    case pos =>
      refine Goes.st (fun t k => XS.icmpNo X50.here hx rfl (hb hby at_172) rfl (teq c51).2 k) ?_
      show Goes _ _ _ _ (T50.setTop (mkF m 175 #[.val (.int p0), .val (.int p1), .val (.int p2), .val (.int p3), .val (.ref b1), .val (.ref b6), .val (.ref b9), .val (.int ji), .val (.int jj), .val (.int jk), .val (.int jl), .val (.ref b36), .val (.int (p1 &&& (3 : Int32))), .val (.ref b44), .unset] []))
      refine Goes.st (fun t k => XS.iload X50.here hx rfl (hb hby at_175) rfl k) ?_
      show Goes _ _ _ _ (T50.setTop (mkF m 177 #[.val (.int p0), .val (.int p1), .val (.int p2), .val (.int p3), .val (.ref b1), .val (.ref b6), .val (.ref b9), .val (.int ji), .val (.int jj), .val (.int jk), .val (.int jl), .val (.ref b36), .val (.int (p1 &&& (3 : Int32))), .val (.ref b44), .unset] [(.int jj)]))
      refine Goes.st (fun t k => XS.iload X50.here hx rfl (hb hby at_177) rfl k) ?_
      show Goes _ _ _ _ (T50.setTop (mkF m 179 #[.val (.int p0), .val (.int p1), .val (.int p2), .val (.int p3), .val (.ref b1), .val (.ref b6), .val (.ref b9), .val (.int ji), .val (.int jj), .val (.int jk), .val (.int jl), .val (.ref b36), .val (.int (p1 &&& (3 : Int32))), .val (.ref b44), .unset] [(.int jl), (.int jj)]))
      by_cases c52 : jj = jl
      case pos =>
        refine Goes.st (fun t k => XS.icmpNo X50.here hx rfl (hb hby at_179) rfl (teq c52).2 k) ?_
        show Goes _ _ _ _ (T50.setTop (mkF m 182 #[.val (.int p0), .val (.int p1), .val (.int p2), .val (.int p3), .val (.ref b1), .val (.ref b6), .val (.ref b9), .val (.int ji), .val (.int jj), .val (.int jk), .val (.int jl), .val (.ref b36), .val (.int (p1 &&& (3 : Int32))), .val (.ref b44), .unset] []))
        refine Goes.st (fun t k => XS.iconst X50.here hx rfl (hb hby at_182) k) ?_
        show Goes _ _ _ _ (T50.setTop (mkF m 183 #[.val (.int p0), .val (.int p1), .val (.int p2), .val (.int p3), .val (.ref b1), .val (.ref b6), .val (.ref b9), .val (.int ji), .val (.int jj), .val (.int jk), .val (.int jl), .val (.ref b36), .val (.int (p1 &&& (3 : Int32))), .val (.ref b44), .unset] [(.int (1 : Int32))]))
        refine Goes.st (fun t k => XS.goto X50.here hx rfl (pc0 := 183) (pc' := 187) rfl (hb hby at_183) (by decide) (by decide) k) ?_
        show Goes _ _ _ _ (T50.setTop (mkF m 187 #[.val (.int p0), .val (.int p1), .val (.int p2), .val (.int p3), .val (.ref b1), .val (.ref b6), .val (.ref b9), .val (.int ji), .val (.int jj), .val (.int jk), .val (.int jl), .val (.ref b36), .val (.int (p1 &&& (3 : Int32))), .val (.ref b44), .unset] [(.int (1 : Int32))]))
        refine Goes.st (fun t k => XS.istore X50.here hx rfl (hb hby at_187) rfl (l' := #[.val (.int p0), .val (.int p1), .val (.int p2), .val (.int p3), .val (.ref b1), .val (.ref b6), .val (.ref b9), .val (.int ji), .val (.int jj), .val (.int jk), .val (.int jl), .val (.ref b36), .val (.int (p1 &&& (3 : Int32))), .val (.ref b44), .val (.int (1 : Int32))]) rfl k) ?_
        show Goes _ _ _ _ (T50.setTop (mkF m 189 #[.val (.int p0), .val (.int p1), .val (.int p2), .val (.int p3), .val (.ref b1), .val (.ref b6), .val (.ref b9), .val (.int ji), .val (.int jj), .val (.int jk), .val (.int jl), .val (.ref b36), .val (.int (p1 &&& (3 : Int32))), .val (.ref b44), .val (.int (1 : Int32))] []))
        refine Goes.st (fun t k => XS.goto X50.here hx rfl (pc0 := 189) (pc' := 233) rfl (hb hby at_189) (by decide) (by decide) k) ?_
        show Goes _ _ _ _ (T50.setTop (mkF m 233 #[.val (.int p0), .val (.int p1), .val (.int p2), .val (.int p3), .val (.ref b1), .val (.ref b6), .val (.ref b9), .val (.int ji), .val (.int jj), .val (.int jk), .val (.int jl), .val (.ref b36), .val (.int (p1 &&& (3 : Int32))), .val (.ref b44), .val (.int (1 : Int32))] []))
        refine Goes.st (fun t k => XS.aload X50.here hx rfl (hb hby at_233) rfl rfl k) ?_
        show Goes _ _ _ _ (T50.setTop (mkF m 235 #[.val (.int p0), .val (.int p1), .val (.int p2), .val (.int p3), .val (.ref b1), .val (.ref b6), .val (.ref b9), .val (.int ji), .val (.int jj), .val (.int jk), .val (.int jl), .val (.ref b36), .val (.int (p1 &&& (3 : Int32))), .val (.ref b44), .val (.int (1 : Int32))] [(.ref b36)]))
        refine Goes.st (fun t k => XS.aload X50.here hx rfl (hb hby at_235) rfl rfl k) ?_
        show Goes _ _ _ _ (T50.setTop (mkF m 237 #[.val (.int p0), .val (.int p1), .val (.int p2), .val (.int p3), .val (.ref b1), .val (.ref b6), .val (.ref b9), .val (.int ji), .val (.int jj), .val (.int jk), .val (.int jl), .val (.ref b36), .val (.int (p1 &&& (3 : Int32))), .val (.ref b44), .val (.int (1 : Int32))] [(.ref b44), (.ref b36)]))
        have f54 : Fld Z T50.heap b36 "com/example/warrant/warrant/util/IdentityPair" "first" "Ljava/lang/Object;" v39 := ((F42_1.ext E44).keep K50 (ninS (Nat.ne_of_lt (Nat.lt_of_lt_of_le A36.lt (Nat.le_trans K42.1 (Nat.le_of_eq g44.symm)))) nin0))
        have f55 : Fld Z T50.heap b36 "com/example/warrant/warrant/util/IdentityPair" "second" "Ljava/lang/Object;" v41 := ((F42_2.ext E44).keep K50 (ninS (Nat.ne_of_lt (Nat.lt_of_lt_of_le A36.lt (Nat.le_trans K42.1 (Nat.le_of_eq g44.symm)))) nin0))
        have f56 : Exa Z T50.heap b36 "com/example/warrant/warrant/util/IdentityPair" := ((F42_0.ext E44).keep K50)
        obtain ⟨cq53, kq53, q53a, q53b, q53c⟩ := isOf hZ rfl f56
        obtain ⟨_, _, ⟨T53, L53, k53, n53⟩, -, X53, ⟨Lc53, hQ53, l53, y53, z53⟩, st53⟩ := X50.virtualBack hx (y := (⟨"com/example/warrant/warrant/util/IdentityPair", "equals", "(Ljava/lang/Object;)Z"⟩ : MethodName)) (z := (⟨"com/example/warrant/warrant/util/IdentityPair", "equals", "(Ljava/lang/Object;)Z"⟩ : MethodName)) hown (mvT hZ (hw49 hw)) (mvT hZ (hw50 hw)) (notFace_of_selects (args := #[]) (mvT hZ (hw52 hw))) (mvT hZ (hw52 hw)) (mvT hZ (hw51 hw)) (by decide) (backOf (W := 0) (rm_eqP l Z a0 hw [] b36 b44 v39 v41 v47 v49 T50.heap n0 (Nat.le_trans Z0 (Nat.le_trans (Nat.le_trans (Nat.le_trans (Nat.le_trans (Nat.le_trans (Nat.le_trans (Nat.le_trans (Nat.le_trans (Nat.le_trans (Nat.le_trans (Nat.le_trans (Nat.le_trans (Nat.le_trans (Nat.le_trans (Nat.le_trans (Nat.le_trans (Nat.le_trans (Nat.le_trans (Nat.le_trans E1.1 (Nat.le_of_eq W3.size.symm)) (Nat.le_of_eq W5.size.symm)) E6.1) (Nat.le_of_eq W8.size.symm)) E9.1) (Nat.le_of_eq W11.size.symm)) E12.1) K13.1) (Nat.le_of_eq W19.size.symm)) E20.1) K21.1) (Nat.le_of_eq W27.size.symm)) E28.1) K29.1) (Nat.le_of_eq W35.size.symm)) E36.1) K42.1) E44.1) K50.1)) F50_0 f54 f55 F50_1 F50_2 rv39 rv41 rv47 rv49) hZ (hw53 hw) (hw35 hw) (by decide) (by decide)) q53a q53c (g := (mkF m 237 #[.val (.int p0), .val (.int p1), .val (.int p2), .val (.int p3), .val (.ref b1), .val (.ref b6), .val (.ref b9), .val (.int ji), .val (.int jj), .val (.int jk), .val (.int jl), .val (.ref b36), .val (.int (p1 &&& (3 : Int32))), .val (.ref b44), .val (.int (1 : Int32))] [(.ref b44), (.ref b36)])) rfl (by rw [hml]; rfl) (Steps.refl _) (argsL := [(.ref b44)]) (rest := []) (lenOf pd_3 rfl) rfl (by show 2 * 0 + _ ≤ _; exact Nat.le_of_eq rfl) (hb hby at_237) (fun _ _ => ⟨rfl, rfl, (by decide : 11 + 0 ≤ _), (by decide : 28 + 0 ≤ _)⟩)
        dsimp only [Pt.U, Pt.locs, Pt.cells, Pt.slots] at X53 l53 y53 z53 st53 hQ53
        subst l53 y53 z53
        obtain ⟨rfl, N53q, K53⟩ := hQ53
        have N53 := Fr.app N50 N53q
        refine Goes.tr st53 ?_
        show Goes _ _ _ _ (T53.setTop (mkF m 240 #[.val (.int p0), .val (.int p1), .val (.int p2), .val (.int p3), .val (.ref b1), .val (.ref b6), .val (.ref b9), .val (.int ji), .val (.int jj), .val (.int jk), .val (.int jl), .val (.ref b36), .val (.int (p1 &&& (3 : Int32))), .val (.ref b44), .val (.int (1 : Int32))] [(.int (if v47 = v39 ∧ v49 = v41 then (1 : Int32) else 0))]))
        refine Goes.st (fun t k => XS.iload X53.here hx rfl (hb hby at_240) rfl k) ?_
        show Goes _ _ _ _ (T53.setTop (mkF m 242 #[.val (.int p0), .val (.int p1), .val (.int p2), .val (.int p3), .val (.ref b1), .val (.ref b6), .val (.ref b9), .val (.int ji), .val (.int jj), .val (.int jk), .val (.int jl), .val (.ref b36), .val (.int (p1 &&& (3 : Int32))), .val (.ref b44), .val (.int (1 : Int32))] [(.int (1 : Int32)), (.int (if v47 = v39 ∧ v49 = v41 then (1 : Int32) else 0))]))
        refine Goes.st (fun t k => XS.icmpNo X53.here hx rfl (hb hby at_242) rfl (teq (if_pos ⟨by rw [hv47, hv39, c51], by rw [hv49, hv41, c52]⟩)).2 k) ?_
        show Goes _ _ _ _ (T53.setTop (mkF m 245 #[.val (.int p0), .val (.int p1), .val (.int p2), .val (.int p3), .val (.ref b1), .val (.ref b6), .val (.ref b9), .val (.int ji), .val (.int jj), .val (.int jk), .val (.int jl), .val (.ref b36), .val (.int (p1 &&& (3 : Int32))), .val (.ref b44), .val (.int (1 : Int32))] []))
        refine Goes.st (fun t k => XS.iconst X53.here hx rfl (hb hby at_245) k) ?_
        show Goes _ _ _ _ (T53.setTop (mkF m 246 #[.val (.int p0), .val (.int p1), .val (.int p2), .val (.int p3), .val (.ref b1), .val (.ref b6), .val (.ref b9), .val (.int ji), .val (.int jj), .val (.int jk), .val (.int jl), .val (.ref b36), .val (.int (p1 &&& (3 : Int32))), .val (.ref b44), .val (.int (1 : Int32))] [(.int (1 : Int32))]))
        refine Goes.st (fun t k => XS.goto X53.here hx rfl (pc0 := 246) (pc' := 250) rfl (hb hby at_246) (by decide) (by decide) k) ?_
        show Goes _ _ _ _ (T53.setTop (mkF m 250 #[.val (.int p0), .val (.int p1), .val (.int p2), .val (.int p3), .val (.ref b1), .val (.ref b6), .val (.ref b9), .val (.int ji), .val (.int jj), .val (.int jk), .val (.int jl), .val (.ref b36), .val (.int (p1 &&& (3 : Int32))), .val (.ref b44), .val (.int (1 : Int32))] [(.int (1 : Int32))]))
        obtain ⟨fs, hr, hrun, hended, hW, hsame⟩ := X53.leave (v := some (.int (1 : Int32))) (fun h => by rw [Bd.returns] at h; cases h)
        subst hQQ
        refine ⟨_, _, retN X53 hx (t := .boolean) Bd.returns (by simp) (hb hby at_250) hr, hrun, hended, _, _, rfl, ?_, ⟨_, rfl⟩, hW, hsame.mono (by decide) (by decide)⟩
        show Q_law Z p0 p1 p2 p3 G1 h0 n0 _ T53.heap _
        rw [K53]
        exact ⟨rfl, N53⟩
      case neg =>
        refine Goes.st (fun t k => XS.icmpYes X50.here hx rfl (pc0 := 179) (pc' := 186) rfl (hb hby at_179) rfl (feq c52).2 (by decide) (by decide) k) ?_
        show Goes _ _ _ _ (T50.setTop (mkF m 186 #[.val (.int p0), .val (.int p1), .val (.int p2), .val (.int p3), .val (.ref b1), .val (.ref b6), .val (.ref b9), .val (.int ji), .val (.int jj), .val (.int jk), .val (.int jl), .val (.ref b36), .val (.int (p1 &&& (3 : Int32))), .val (.ref b44), .unset] []))
        refine Goes.st (fun t k => XS.iconst X50.here hx rfl (hb hby at_186) k) ?_
        show Goes _ _ _ _ (T50.setTop (mkF m 187 #[.val (.int p0), .val (.int p1), .val (.int p2), .val (.int p3), .val (.ref b1), .val (.ref b6), .val (.ref b9), .val (.int ji), .val (.int jj), .val (.int jk), .val (.int jl), .val (.ref b36), .val (.int (p1 &&& (3 : Int32))), .val (.ref b44), .unset] [(.int (0 : Int32))]))
        refine Goes.st (fun t k => XS.istore X50.here hx rfl (hb hby at_187) rfl (l' := #[.val (.int p0), .val (.int p1), .val (.int p2), .val (.int p3), .val (.ref b1), .val (.ref b6), .val (.ref b9), .val (.int ji), .val (.int jj), .val (.int jk), .val (.int jl), .val (.ref b36), .val (.int (p1 &&& (3 : Int32))), .val (.ref b44), .val (.int (0 : Int32))]) rfl k) ?_
        show Goes _ _ _ _ (T50.setTop (mkF m 189 #[.val (.int p0), .val (.int p1), .val (.int p2), .val (.int p3), .val (.ref b1), .val (.ref b6), .val (.ref b9), .val (.int ji), .val (.int jj), .val (.int jk), .val (.int jl), .val (.ref b36), .val (.int (p1 &&& (3 : Int32))), .val (.ref b44), .val (.int (0 : Int32))] []))
        refine Goes.st (fun t k => XS.goto X50.here hx rfl (pc0 := 189) (pc' := 233) rfl (hb hby at_189) (by decide) (by decide) k) ?_
        show Goes _ _ _ _ (T50.setTop (mkF m 233 #[.val (.int p0), .val (.int p1), .val (.int p2), .val (.int p3), .val (.ref b1), .val (.ref b6), .val (.ref b9), .val (.int ji), .val (.int jj), .val (.int jk), .val (.int jl), .val (.ref b36), .val (.int (p1 &&& (3 : Int32))), .val (.ref b44), .val (.int (0 : Int32))] []))
        refine Goes.st (fun t k => XS.aload X50.here hx rfl (hb hby at_233) rfl rfl k) ?_
        show Goes _ _ _ _ (T50.setTop (mkF m 235 #[.val (.int p0), .val (.int p1), .val (.int p2), .val (.int p3), .val (.ref b1), .val (.ref b6), .val (.ref b9), .val (.int ji), .val (.int jj), .val (.int jk), .val (.int jl), .val (.ref b36), .val (.int (p1 &&& (3 : Int32))), .val (.ref b44), .val (.int (0 : Int32))] [(.ref b36)]))
        refine Goes.st (fun t k => XS.aload X50.here hx rfl (hb hby at_235) rfl rfl k) ?_
        show Goes _ _ _ _ (T50.setTop (mkF m 237 #[.val (.int p0), .val (.int p1), .val (.int p2), .val (.int p3), .val (.ref b1), .val (.ref b6), .val (.ref b9), .val (.int ji), .val (.int jj), .val (.int jk), .val (.int jl), .val (.ref b36), .val (.int (p1 &&& (3 : Int32))), .val (.ref b44), .val (.int (0 : Int32))] [(.ref b44), (.ref b36)]))
        have f58 : Fld Z T50.heap b36 "com/example/warrant/warrant/util/IdentityPair" "first" "Ljava/lang/Object;" v39 := ((F42_1.ext E44).keep K50 (ninS (Nat.ne_of_lt (Nat.lt_of_lt_of_le A36.lt (Nat.le_trans K42.1 (Nat.le_of_eq g44.symm)))) nin0))
        have f59 : Fld Z T50.heap b36 "com/example/warrant/warrant/util/IdentityPair" "second" "Ljava/lang/Object;" v41 := ((F42_2.ext E44).keep K50 (ninS (Nat.ne_of_lt (Nat.lt_of_lt_of_le A36.lt (Nat.le_trans K42.1 (Nat.le_of_eq g44.symm)))) nin0))
        have f60 : Exa Z T50.heap b36 "com/example/warrant/warrant/util/IdentityPair" := ((F42_0.ext E44).keep K50)
        obtain ⟨cq57, kq57, q57a, q57b, q57c⟩ := isOf hZ rfl f60
        obtain ⟨_, _, ⟨T57, L57, k57, n57⟩, -, X57, ⟨Lc57, hQ57, l57, y57, z57⟩, st57⟩ := X50.virtualBack hx (y := (⟨"com/example/warrant/warrant/util/IdentityPair", "equals", "(Ljava/lang/Object;)Z"⟩ : MethodName)) (z := (⟨"com/example/warrant/warrant/util/IdentityPair", "equals", "(Ljava/lang/Object;)Z"⟩ : MethodName)) hown (mvT hZ (hw49 hw)) (mvT hZ (hw50 hw)) (notFace_of_selects (args := #[]) (mvT hZ (hw52 hw))) (mvT hZ (hw52 hw)) (mvT hZ (hw51 hw)) (by decide) (backOf (W := 0) (rm_eqP l Z a0 hw [] b36 b44 v39 v41 v47 v49 T50.heap n0 (Nat.le_trans Z0 (Nat.le_trans (Nat.le_trans (Nat.le_trans (Nat.le_trans (Nat.le_trans (Nat.le_trans (Nat.le_trans (Nat.le_trans (Nat.le_trans (Nat.le_trans (Nat.le_trans (Nat.le_trans (Nat.le_trans (Nat.le_trans (Nat.le_trans (Nat.le_trans (Nat.le_trans (Nat.le_trans (Nat.le_trans E1.1 (Nat.le_of_eq W3.size.symm)) (Nat.le_of_eq W5.size.symm)) E6.1) (Nat.le_of_eq W8.size.symm)) E9.1) (Nat.le_of_eq W11.size.symm)) E12.1) K13.1) (Nat.le_of_eq W19.size.symm)) E20.1) K21.1) (Nat.le_of_eq W27.size.symm)) E28.1) K29.1) (Nat.le_of_eq W35.size.symm)) E36.1) K42.1) E44.1) K50.1)) F50_0 f58 f59 F50_1 F50_2 rv39 rv41 rv47 rv49) hZ (hw53 hw) (hw35 hw) (by decide) (by decide)) q57a q57c (g := (mkF m 237 #[.val (.int p0), .val (.int p1), .val (.int p2), .val (.int p3), .val (.ref b1), .val (.ref b6), .val (.ref b9), .val (.int ji), .val (.int jj), .val (.int jk), .val (.int jl), .val (.ref b36), .val (.int (p1 &&& (3 : Int32))), .val (.ref b44), .val (.int (0 : Int32))] [(.ref b44), (.ref b36)])) rfl (by rw [hml]; rfl) (Steps.refl _) (argsL := [(.ref b44)]) (rest := []) (lenOf pd_3 rfl) rfl (by show 2 * 0 + _ ≤ _; exact Nat.le_of_eq rfl) (hb hby at_237) (fun _ _ => ⟨rfl, rfl, (by decide : 11 + 0 ≤ _), (by decide : 28 + 0 ≤ _)⟩)
        dsimp only [Pt.U, Pt.locs, Pt.cells, Pt.slots] at X57 l57 y57 z57 st57 hQ57
        subst l57 y57 z57
        obtain ⟨rfl, N57q, K57⟩ := hQ57
        have N57 := Fr.app N50 N57q
        refine Goes.tr st57 ?_
        show Goes _ _ _ _ (T57.setTop (mkF m 240 #[.val (.int p0), .val (.int p1), .val (.int p2), .val (.int p3), .val (.ref b1), .val (.ref b6), .val (.ref b9), .val (.int ji), .val (.int jj), .val (.int jk), .val (.int jl), .val (.ref b36), .val (.int (p1 &&& (3 : Int32))), .val (.ref b44), .val (.int (0 : Int32))] [(.int (if v47 = v39 ∧ v49 = v41 then (1 : Int32) else 0))]))
        refine Goes.st (fun t k => XS.iload X57.here hx rfl (hb hby at_240) rfl k) ?_
        show Goes _ _ _ _ (T57.setTop (mkF m 242 #[.val (.int p0), .val (.int p1), .val (.int p2), .val (.int p3), .val (.ref b1), .val (.ref b6), .val (.ref b9), .val (.int ji), .val (.int jj), .val (.int jk), .val (.int jl), .val (.ref b36), .val (.int (p1 &&& (3 : Int32))), .val (.ref b44), .val (.int (0 : Int32))] [(.int (0 : Int32)), (.int (if v47 = v39 ∧ v49 = v41 then (1 : Int32) else 0))]))
        refine Goes.st (fun t k => XS.icmpNo X57.here hx rfl (hb hby at_242) rfl (teq (own_ne fun q => c52 (own_pinj Fjl Fjj (Nat.ne_of_lt (Nat.lt_of_lt_of_le A12.lt (Nat.le_trans (Nat.le_trans K13.1 (Nat.le_of_eq W19.size.symm)) (Nat.le_of_eq g20.symm)))) (Nat.ne_of_lt (Nat.lt_of_lt_of_le A12.lt (Nat.le_trans (Nat.le_trans (Nat.le_trans (Nat.le_trans (Nat.le_trans K13.1 (Nat.le_of_eq W19.size.symm)) E20.1) K21.1) (Nat.le_of_eq W27.size.symm)) (Nat.le_of_eq g28.symm)))) (Nat.ne_of_lt (Nat.lt_of_lt_of_le A20.lt (Nat.le_trans (Nat.le_trans K21.1 (Nat.le_of_eq W27.size.symm)) (Nat.le_of_eq g28.symm)))) (hv49.symm.trans (q.2.trans hv41))).symm)).2 k) ?_
        show Goes _ _ _ _ (T57.setTop (mkF m 245 #[.val (.int p0), .val (.int p1), .val (.int p2), .val (.int p3), .val (.ref b1), .val (.ref b6), .val (.ref b9), .val (.int ji), .val (.int jj), .val (.int jk), .val (.int jl), .val (.ref b36), .val (.int (p1 &&& (3 : Int32))), .val (.ref b44), .val (.int (0 : Int32))] []))
        refine Goes.st (fun t k => XS.iconst X57.here hx rfl (hb hby at_245) k) ?_
        show Goes _ _ _ _ (T57.setTop (mkF m 246 #[.val (.int p0), .val (.int p1), .val (.int p2), .val (.int p3), .val (.ref b1), .val (.ref b6), .val (.ref b9), .val (.int ji), .val (.int jj), .val (.int jk), .val (.int jl), .val (.ref b36), .val (.int (p1 &&& (3 : Int32))), .val (.ref b44), .val (.int (0 : Int32))] [(.int (1 : Int32))]))
        refine Goes.st (fun t k => XS.goto X57.here hx rfl (pc0 := 246) (pc' := 250) rfl (hb hby at_246) (by decide) (by decide) k) ?_
        show Goes _ _ _ _ (T57.setTop (mkF m 250 #[.val (.int p0), .val (.int p1), .val (.int p2), .val (.int p3), .val (.ref b1), .val (.ref b6), .val (.ref b9), .val (.int ji), .val (.int jj), .val (.int jk), .val (.int jl), .val (.ref b36), .val (.int (p1 &&& (3 : Int32))), .val (.ref b44), .val (.int (0 : Int32))] [(.int (1 : Int32))]))
        obtain ⟨fs, hr, hrun, hended, hW, hsame⟩ := X57.leave (v := some (.int (1 : Int32))) (fun h => by rw [Bd.returns] at h; cases h)
        subst hQQ
        refine ⟨_, _, retN X57 hx (t := .boolean) Bd.returns (by simp) (hb hby at_250) hr, hrun, hended, _, _, rfl, ?_, ⟨_, rfl⟩, hW, hsame.mono (by decide) (by decide)⟩
        show Q_law Z p0 p1 p2 p3 G1 h0 n0 _ T57.heap _
        rw [K57]
        exact ⟨rfl, N57⟩
    case neg =>
      refine Goes.st (fun t k => XS.icmpYes X50.here hx rfl (pc0 := 172) (pc' := 186) rfl (hb hby at_172) rfl (feq c51).2 (by decide) (by decide) k) ?_
      show Goes _ _ _ _ (T50.setTop (mkF m 186 #[.val (.int p0), .val (.int p1), .val (.int p2), .val (.int p3), .val (.ref b1), .val (.ref b6), .val (.ref b9), .val (.int ji), .val (.int jj), .val (.int jk), .val (.int jl), .val (.ref b36), .val (.int (p1 &&& (3 : Int32))), .val (.ref b44), .unset] []))
      refine Goes.st (fun t k => XS.iconst X50.here hx rfl (hb hby at_186) k) ?_
      show Goes _ _ _ _ (T50.setTop (mkF m 187 #[.val (.int p0), .val (.int p1), .val (.int p2), .val (.int p3), .val (.ref b1), .val (.ref b6), .val (.ref b9), .val (.int ji), .val (.int jj), .val (.int jk), .val (.int jl), .val (.ref b36), .val (.int (p1 &&& (3 : Int32))), .val (.ref b44), .unset] [(.int (0 : Int32))]))
      refine Goes.st (fun t k => XS.istore X50.here hx rfl (hb hby at_187) rfl (l' := #[.val (.int p0), .val (.int p1), .val (.int p2), .val (.int p3), .val (.ref b1), .val (.ref b6), .val (.ref b9), .val (.int ji), .val (.int jj), .val (.int jk), .val (.int jl), .val (.ref b36), .val (.int (p1 &&& (3 : Int32))), .val (.ref b44), .val (.int (0 : Int32))]) rfl k) ?_
      show Goes _ _ _ _ (T50.setTop (mkF m 189 #[.val (.int p0), .val (.int p1), .val (.int p2), .val (.int p3), .val (.ref b1), .val (.ref b6), .val (.ref b9), .val (.int ji), .val (.int jj), .val (.int jk), .val (.int jl), .val (.ref b36), .val (.int (p1 &&& (3 : Int32))), .val (.ref b44), .val (.int (0 : Int32))] []))
      refine Goes.st (fun t k => XS.goto X50.here hx rfl (pc0 := 189) (pc' := 233) rfl (hb hby at_189) (by decide) (by decide) k) ?_
      show Goes _ _ _ _ (T50.setTop (mkF m 233 #[.val (.int p0), .val (.int p1), .val (.int p2), .val (.int p3), .val (.ref b1), .val (.ref b6), .val (.ref b9), .val (.int ji), .val (.int jj), .val (.int jk), .val (.int jl), .val (.ref b36), .val (.int (p1 &&& (3 : Int32))), .val (.ref b44), .val (.int (0 : Int32))] []))
      refine Goes.st (fun t k => XS.aload X50.here hx rfl (hb hby at_233) rfl rfl k) ?_
      show Goes _ _ _ _ (T50.setTop (mkF m 235 #[.val (.int p0), .val (.int p1), .val (.int p2), .val (.int p3), .val (.ref b1), .val (.ref b6), .val (.ref b9), .val (.int ji), .val (.int jj), .val (.int jk), .val (.int jl), .val (.ref b36), .val (.int (p1 &&& (3 : Int32))), .val (.ref b44), .val (.int (0 : Int32))] [(.ref b36)]))
      refine Goes.st (fun t k => XS.aload X50.here hx rfl (hb hby at_235) rfl rfl k) ?_
      show Goes _ _ _ _ (T50.setTop (mkF m 237 #[.val (.int p0), .val (.int p1), .val (.int p2), .val (.int p3), .val (.ref b1), .val (.ref b6), .val (.ref b9), .val (.int ji), .val (.int jj), .val (.int jk), .val (.int jl), .val (.ref b36), .val (.int (p1 &&& (3 : Int32))), .val (.ref b44), .val (.int (0 : Int32))] [(.ref b44), (.ref b36)]))
      have f62 : Fld Z T50.heap b36 "com/example/warrant/warrant/util/IdentityPair" "first" "Ljava/lang/Object;" v39 := ((F42_1.ext E44).keep K50 (ninS (Nat.ne_of_lt (Nat.lt_of_lt_of_le A36.lt (Nat.le_trans K42.1 (Nat.le_of_eq g44.symm)))) nin0))
      have f63 : Fld Z T50.heap b36 "com/example/warrant/warrant/util/IdentityPair" "second" "Ljava/lang/Object;" v41 := ((F42_2.ext E44).keep K50 (ninS (Nat.ne_of_lt (Nat.lt_of_lt_of_le A36.lt (Nat.le_trans K42.1 (Nat.le_of_eq g44.symm)))) nin0))
      have f64 : Exa Z T50.heap b36 "com/example/warrant/warrant/util/IdentityPair" := ((F42_0.ext E44).keep K50)
      obtain ⟨cq61, kq61, q61a, q61b, q61c⟩ := isOf hZ rfl f64
      obtain ⟨_, _, ⟨T61, L61, k61, n61⟩, -, X61, ⟨Lc61, hQ61, l61, y61, z61⟩, st61⟩ := X50.virtualBack hx (y := (⟨"com/example/warrant/warrant/util/IdentityPair", "equals", "(Ljava/lang/Object;)Z"⟩ : MethodName)) (z := (⟨"com/example/warrant/warrant/util/IdentityPair", "equals", "(Ljava/lang/Object;)Z"⟩ : MethodName)) hown (mvT hZ (hw49 hw)) (mvT hZ (hw50 hw)) (notFace_of_selects (args := #[]) (mvT hZ (hw52 hw))) (mvT hZ (hw52 hw)) (mvT hZ (hw51 hw)) (by decide) (backOf (W := 0) (rm_eqP l Z a0 hw [] b36 b44 v39 v41 v47 v49 T50.heap n0 (Nat.le_trans Z0 (Nat.le_trans (Nat.le_trans (Nat.le_trans (Nat.le_trans (Nat.le_trans (Nat.le_trans (Nat.le_trans (Nat.le_trans (Nat.le_trans (Nat.le_trans (Nat.le_trans (Nat.le_trans (Nat.le_trans (Nat.le_trans (Nat.le_trans (Nat.le_trans (Nat.le_trans (Nat.le_trans (Nat.le_trans E1.1 (Nat.le_of_eq W3.size.symm)) (Nat.le_of_eq W5.size.symm)) E6.1) (Nat.le_of_eq W8.size.symm)) E9.1) (Nat.le_of_eq W11.size.symm)) E12.1) K13.1) (Nat.le_of_eq W19.size.symm)) E20.1) K21.1) (Nat.le_of_eq W27.size.symm)) E28.1) K29.1) (Nat.le_of_eq W35.size.symm)) E36.1) K42.1) E44.1) K50.1)) F50_0 f62 f63 F50_1 F50_2 rv39 rv41 rv47 rv49) hZ (hw53 hw) (hw35 hw) (by decide) (by decide)) q61a q61c (g := (mkF m 237 #[.val (.int p0), .val (.int p1), .val (.int p2), .val (.int p3), .val (.ref b1), .val (.ref b6), .val (.ref b9), .val (.int ji), .val (.int jj), .val (.int jk), .val (.int jl), .val (.ref b36), .val (.int (p1 &&& (3 : Int32))), .val (.ref b44), .val (.int (0 : Int32))] [(.ref b44), (.ref b36)])) rfl (by rw [hml]; rfl) (Steps.refl _) (argsL := [(.ref b44)]) (rest := []) (lenOf pd_3 rfl) rfl (by show 2 * 0 + _ ≤ _; exact Nat.le_of_eq rfl) (hb hby at_237) (fun _ _ => ⟨rfl, rfl, (by decide : 11 + 0 ≤ _), (by decide : 28 + 0 ≤ _)⟩)
      dsimp only [Pt.U, Pt.locs, Pt.cells, Pt.slots] at X61 l61 y61 z61 st61 hQ61
      subst l61 y61 z61
      obtain ⟨rfl, N61q, K61⟩ := hQ61
      have N61 := Fr.app N50 N61q
      refine Goes.tr st61 ?_
      show Goes _ _ _ _ (T61.setTop (mkF m 240 #[.val (.int p0), .val (.int p1), .val (.int p2), .val (.int p3), .val (.ref b1), .val (.ref b6), .val (.ref b9), .val (.int ji), .val (.int jj), .val (.int jk), .val (.int jl), .val (.ref b36), .val (.int (p1 &&& (3 : Int32))), .val (.ref b44), .val (.int (0 : Int32))] [(.int (if v47 = v39 ∧ v49 = v41 then (1 : Int32) else 0))]))
      refine Goes.st (fun t k => XS.iload X61.here hx rfl (hb hby at_240) rfl k) ?_
      show Goes _ _ _ _ (T61.setTop (mkF m 242 #[.val (.int p0), .val (.int p1), .val (.int p2), .val (.int p3), .val (.ref b1), .val (.ref b6), .val (.ref b9), .val (.int ji), .val (.int jj), .val (.int jk), .val (.int jl), .val (.ref b36), .val (.int (p1 &&& (3 : Int32))), .val (.ref b44), .val (.int (0 : Int32))] [(.int (0 : Int32)), (.int (if v47 = v39 ∧ v49 = v41 then (1 : Int32) else 0))]))
      refine Goes.st (fun t k => XS.icmpNo X61.here hx rfl (hb hby at_242) rfl (teq (own_ne fun q => c51 (own_pinj Fjk Fji (Nat.ne_of_lt (Nat.lt_of_lt_of_le A12.lt (Nat.le_trans (Nat.le_trans K13.1 (Nat.le_of_eq W19.size.symm)) (Nat.le_of_eq g20.symm)))) (Nat.ne_of_lt (Nat.lt_of_lt_of_le A12.lt (Nat.le_trans (Nat.le_trans (Nat.le_trans (Nat.le_trans (Nat.le_trans K13.1 (Nat.le_of_eq W19.size.symm)) E20.1) K21.1) (Nat.le_of_eq W27.size.symm)) (Nat.le_of_eq g28.symm)))) (Nat.ne_of_lt (Nat.lt_of_lt_of_le A20.lt (Nat.le_trans (Nat.le_trans K21.1 (Nat.le_of_eq W27.size.symm)) (Nat.le_of_eq g28.symm)))) (hv47.symm.trans (q.1.trans hv39))).symm)).2 k) ?_
      show Goes _ _ _ _ (T61.setTop (mkF m 245 #[.val (.int p0), .val (.int p1), .val (.int p2), .val (.int p3), .val (.ref b1), .val (.ref b6), .val (.ref b9), .val (.int ji), .val (.int jj), .val (.int jk), .val (.int jl), .val (.ref b36), .val (.int (p1 &&& (3 : Int32))), .val (.ref b44), .val (.int (0 : Int32))] []))
      refine Goes.st (fun t k => XS.iconst X61.here hx rfl (hb hby at_245) k) ?_
      show Goes _ _ _ _ (T61.setTop (mkF m 246 #[.val (.int p0), .val (.int p1), .val (.int p2), .val (.int p3), .val (.ref b1), .val (.ref b6), .val (.ref b9), .val (.int ji), .val (.int jj), .val (.int jk), .val (.int jl), .val (.ref b36), .val (.int (p1 &&& (3 : Int32))), .val (.ref b44), .val (.int (0 : Int32))] [(.int (1 : Int32))]))
      refine Goes.st (fun t k => XS.goto X61.here hx rfl (pc0 := 246) (pc' := 250) rfl (hb hby at_246) (by decide) (by decide) k) ?_
      show Goes _ _ _ _ (T61.setTop (mkF m 250 #[.val (.int p0), .val (.int p1), .val (.int p2), .val (.int p3), .val (.ref b1), .val (.ref b6), .val (.ref b9), .val (.int ji), .val (.int jj), .val (.int jk), .val (.int jl), .val (.ref b36), .val (.int (p1 &&& (3 : Int32))), .val (.ref b44), .val (.int (0 : Int32))] [(.int (1 : Int32))]))
      obtain ⟨fs, hr, hrun, hended, hW, hsame⟩ := X61.leave (v := some (.int (1 : Int32))) (fun h => by rw [Bd.returns] at h; cases h)
      subst hQQ
      refine ⟨_, _, retN X61 hx (t := .boolean) Bd.returns (by simp) (hb hby at_250) hr, hrun, hended, _, _, rfl, ?_, ⟨_, rfl⟩, hW, hsame.mono (by decide) (by decide)⟩
      show Q_law Z p0 p1 p2 p3 G1 h0 n0 _ T61.heap _
      rw [K61]
      exact ⟨rfl, N61⟩
  case neg =>
    refine Goes.st (fun t k => XS.ifYes X42.here hx rfl (pc0 := 146) (pc' := 192) rfl (hb hby at_146) rfl ((if0 _ _).trans (feq c43).2) (by decide) (by decide) k) ?_
    show Goes _ _ _ _ (T42.setTop (mkF m 192 #[.val (.int p0), .val (.int p1), .val (.int p2), .val (.int p3), .val (.ref b1), .val (.ref b6), .val (.ref b9), .val (.int ji), .val (.int jj), .val (.int jk), .val (.int jl), .val (.ref b36), .val (.int (p1 &&& (3 : Int32))), .unset, .unset] []))
    refine Goes.st (fun t k => XS.iload X42.here hx rfl (hb hby at_192) rfl k) ?_
    show Goes _ _ _ _ (T42.setTop (mkF m 194 #[.val (.int p0), .val (.int p1), .val (.int p2), .val (.int p3), .val (.ref b1), .val (.ref b6), .val (.ref b9), .val (.int ji), .val (.int jj), .val (.int jk), .val (.int jl), .val (.ref b36), .val (.int (p1 &&& (3 : Int32))), .unset, .unset] [(.int (p1 &&& (3 : Int32)))]))
    refine Goes.st (fun t k => XS.iconst X42.here hx rfl (hb hby at_194) k) ?_
    show Goes _ _ _ _ (T42.setTop (mkF m 195 #[.val (.int p0), .val (.int p1), .val (.int p2), .val (.int p3), .val (.ref b1), .val (.ref b6), .val (.ref b9), .val (.int ji), .val (.int jj), .val (.int jk), .val (.int jl), .val (.ref b36), .val (.int (p1 &&& (3 : Int32))), .unset, .unset] [(.int (1 : Int32)), (.int (p1 &&& (3 : Int32)))]))
    by_cases c65 : (p1 &&& (3 : Int32)) = (1 : Int32)
    case pos =>
      refine Goes.st (fun t k => XS.icmpNo X42.here hx rfl (hb hby at_195) rfl (teq c65).2 k) ?_
      show Goes _ _ _ _ (T42.setTop (mkF m 198 #[.val (.int p0), .val (.int p1), .val (.int p2), .val (.int p3), .val (.ref b1), .val (.ref b6), .val (.ref b9), .val (.int ji), .val (.int jj), .val (.int jk), .val (.int jl), .val (.ref b36), .val (.int (p1 &&& (3 : Int32))), .unset, .unset] []))
      refine Goes.st (fun t k => XS.aconstNull X42.here hx rfl (hb hby at_198) k) ?_
      show Goes _ _ _ _ (T42.setTop (mkF m 199 #[.val (.int p0), .val (.int p1), .val (.int p2), .val (.int p3), .val (.ref b1), .val (.ref b6), .val (.ref b9), .val (.int ji), .val (.int jj), .val (.int jk), .val (.int jl), .val (.ref b36), .val (.int (p1 &&& (3 : Int32))), .unset, .unset] [.null]))
      refine Goes.st (fun t k => XS.astore X42.here hx rfl (hb hby at_199) rfl rfl (l' := #[.val (.int p0), .val (.int p1), .val (.int p2), .val (.int p3), .val (.ref b1), .val (.ref b6), .val (.ref b9), .val (.int ji), .val (.int jj), .val (.int jk), .val (.int jl), .val (.ref b36), .val (.int (p1 &&& (3 : Int32))), .val .null, .unset]) rfl k) ?_
      show Goes _ _ _ _ (T42.setTop (mkF m 201 #[.val (.int p0), .val (.int p1), .val (.int p2), .val (.int p3), .val (.ref b1), .val (.ref b6), .val (.ref b9), .val (.int ji), .val (.int jj), .val (.int jk), .val (.int jl), .val (.ref b36), .val (.int (p1 &&& (3 : Int32))), .val .null, .unset] []))
      refine Goes.st (fun t k => XS.iconst X42.here hx rfl (hb hby at_201) k) ?_
      show Goes _ _ _ _ (T42.setTop (mkF m 202 #[.val (.int p0), .val (.int p1), .val (.int p2), .val (.int p3), .val (.ref b1), .val (.ref b6), .val (.ref b9), .val (.int ji), .val (.int jj), .val (.int jk), .val (.int jl), .val (.ref b36), .val (.int (p1 &&& (3 : Int32))), .val .null, .unset] [(.int (0 : Int32))]))
      refine Goes.st (fun t k => XS.istore X42.here hx rfl (hb hby at_202) rfl (l' := #[.val (.int p0), .val (.int p1), .val (.int p2), .val (.int p3), .val (.ref b1), .val (.ref b6), .val (.ref b9), .val (.int ji), .val (.int jj), .val (.int jk), .val (.int jl), .val (.ref b36), .val (.int (p1 &&& (3 : Int32))), .val .null, .val (.int (0 : Int32))]) rfl k) ?_
      show Goes _ _ _ _ (T42.setTop (mkF m 204 #[.val (.int p0), .val (.int p1), .val (.int p2), .val (.int p3), .val (.ref b1), .val (.ref b6), .val (.ref b9), .val (.int ji), .val (.int jj), .val (.int jk), .val (.int jl), .val (.ref b36), .val (.int (p1 &&& (3 : Int32))), .val .null, .val (.int (0 : Int32))] []))
      refine Goes.st (fun t k => XS.goto X42.here hx rfl (pc0 := 204) (pc' := 233) rfl (hb hby at_204) (by decide) (by decide) k) ?_
      show Goes _ _ _ _ (T42.setTop (mkF m 233 #[.val (.int p0), .val (.int p1), .val (.int p2), .val (.int p3), .val (.ref b1), .val (.ref b6), .val (.ref b9), .val (.int ji), .val (.int jj), .val (.int jk), .val (.int jl), .val (.ref b36), .val (.int (p1 &&& (3 : Int32))), .val .null, .val (.int (0 : Int32))] []))
      refine Goes.st (fun t k => XS.aload X42.here hx rfl (hb hby at_233) rfl rfl k) ?_
      show Goes _ _ _ _ (T42.setTop (mkF m 235 #[.val (.int p0), .val (.int p1), .val (.int p2), .val (.int p3), .val (.ref b1), .val (.ref b6), .val (.ref b9), .val (.int ji), .val (.int jj), .val (.int jk), .val (.int jl), .val (.ref b36), .val (.int (p1 &&& (3 : Int32))), .val .null, .val (.int (0 : Int32))] [(.ref b36)]))
      refine Goes.st (fun t k => XS.aload X42.here hx rfl (hb hby at_235) rfl rfl k) ?_
      show Goes _ _ _ _ (T42.setTop (mkF m 237 #[.val (.int p0), .val (.int p1), .val (.int p2), .val (.int p3), .val (.ref b1), .val (.ref b6), .val (.ref b9), .val (.int ji), .val (.int jj), .val (.int jk), .val (.int jl), .val (.ref b36), .val (.int (p1 &&& (3 : Int32))), .val .null, .val (.int (0 : Int32))] [.null, (.ref b36)]))
      obtain ⟨cq66, kq66, q66a, q66b, q66c⟩ := isOf hZ rfl F42_0
      obtain ⟨_, _, ⟨T66, L66, k66, n66⟩, -, X66, ⟨Lc66, hQ66, l66, y66, z66⟩, st66⟩ := X42.virtualBack hx (y := (⟨"com/example/warrant/warrant/util/IdentityPair", "equals", "(Ljava/lang/Object;)Z"⟩ : MethodName)) (z := (⟨"com/example/warrant/warrant/util/IdentityPair", "equals", "(Ljava/lang/Object;)Z"⟩ : MethodName)) hown (mvT hZ (hw49 hw)) (mvT hZ (hw50 hw)) (notFace_of_selects (args := #[]) (mvT hZ (hw52 hw))) (mvT hZ (hw52 hw)) (mvT hZ (hw51 hw)) (by decide) (backOf (W := 0) (rm_eqN l Z a0 hw [] b36 T42.heap n0 (Nat.le_trans Z0 (Nat.le_trans (Nat.le_trans (Nat.le_trans (Nat.le_trans (Nat.le_trans (Nat.le_trans (Nat.le_trans (Nat.le_trans (Nat.le_trans (Nat.le_trans (Nat.le_trans (Nat.le_trans (Nat.le_trans (Nat.le_trans (Nat.le_trans (Nat.le_trans (Nat.le_trans E1.1 (Nat.le_of_eq W3.size.symm)) (Nat.le_of_eq W5.size.symm)) E6.1) (Nat.le_of_eq W8.size.symm)) E9.1) (Nat.le_of_eq W11.size.symm)) E12.1) K13.1) (Nat.le_of_eq W19.size.symm)) E20.1) K21.1) (Nat.le_of_eq W27.size.symm)) E28.1) K29.1) (Nat.le_of_eq W35.size.symm)) E36.1) K42.1)) ) hZ (hw53 hw) (hw35 hw) (by decide) (by decide)) q66a q66c (g := (mkF m 237 #[.val (.int p0), .val (.int p1), .val (.int p2), .val (.int p3), .val (.ref b1), .val (.ref b6), .val (.ref b9), .val (.int ji), .val (.int jj), .val (.int jk), .val (.int jl), .val (.ref b36), .val (.int (p1 &&& (3 : Int32))), .val .null, .val (.int (0 : Int32))] [.null, (.ref b36)])) rfl (by rw [hml]; rfl) (Steps.refl _) (argsL := [.null]) (rest := []) (lenOf pd_3 rfl) rfl (by show 2 * 0 + _ ≤ _; exact Nat.le_of_eq rfl) (hb hby at_237) (fun _ _ => ⟨rfl, rfl, (by decide : 10 + 0 ≤ _), (by decide : 26 + 0 ≤ _)⟩)
      dsimp only [Pt.U, Pt.locs, Pt.cells, Pt.slots] at X66 l66 y66 z66 st66 hQ66
      subst l66 y66 z66
      obtain ⟨rfl, N66q, K66⟩ := hQ66
      have N66 := Fr.app N42 N66q
      refine Goes.tr st66 ?_
      show Goes _ _ _ _ (T66.setTop (mkF m 240 #[.val (.int p0), .val (.int p1), .val (.int p2), .val (.int p3), .val (.ref b1), .val (.ref b6), .val (.ref b9), .val (.int ji), .val (.int jj), .val (.int jk), .val (.int jl), .val (.ref b36), .val (.int (p1 &&& (3 : Int32))), .val .null, .val (.int (0 : Int32))] [(.int (0 : Int32))]))
      refine Goes.st (fun t k => XS.iload X66.here hx rfl (hb hby at_240) rfl k) ?_
      show Goes _ _ _ _ (T66.setTop (mkF m 242 #[.val (.int p0), .val (.int p1), .val (.int p2), .val (.int p3), .val (.ref b1), .val (.ref b6), .val (.ref b9), .val (.int ji), .val (.int jj), .val (.int jk), .val (.int jl), .val (.ref b36), .val (.int (p1 &&& (3 : Int32))), .val .null, .val (.int (0 : Int32))] [(.int (0 : Int32)), (.int (0 : Int32))]))
      refine Goes.st (fun t k => XS.icmpNo X66.here hx rfl (hb hby at_242) rfl (teq (by decide)).2 k) ?_
      show Goes _ _ _ _ (T66.setTop (mkF m 245 #[.val (.int p0), .val (.int p1), .val (.int p2), .val (.int p3), .val (.ref b1), .val (.ref b6), .val (.ref b9), .val (.int ji), .val (.int jj), .val (.int jk), .val (.int jl), .val (.ref b36), .val (.int (p1 &&& (3 : Int32))), .val .null, .val (.int (0 : Int32))] []))
      refine Goes.st (fun t k => XS.iconst X66.here hx rfl (hb hby at_245) k) ?_
      show Goes _ _ _ _ (T66.setTop (mkF m 246 #[.val (.int p0), .val (.int p1), .val (.int p2), .val (.int p3), .val (.ref b1), .val (.ref b6), .val (.ref b9), .val (.int ji), .val (.int jj), .val (.int jk), .val (.int jl), .val (.ref b36), .val (.int (p1 &&& (3 : Int32))), .val .null, .val (.int (0 : Int32))] [(.int (1 : Int32))]))
      refine Goes.st (fun t k => XS.goto X66.here hx rfl (pc0 := 246) (pc' := 250) rfl (hb hby at_246) (by decide) (by decide) k) ?_
      show Goes _ _ _ _ (T66.setTop (mkF m 250 #[.val (.int p0), .val (.int p1), .val (.int p2), .val (.int p3), .val (.ref b1), .val (.ref b6), .val (.ref b9), .val (.int ji), .val (.int jj), .val (.int jk), .val (.int jl), .val (.ref b36), .val (.int (p1 &&& (3 : Int32))), .val .null, .val (.int (0 : Int32))] [(.int (1 : Int32))]))
      obtain ⟨fs, hr, hrun, hended, hW, hsame⟩ := X66.leave (v := some (.int (1 : Int32))) (fun h => by rw [Bd.returns] at h; cases h)
      subst hQQ
      refine ⟨_, _, retN X66 hx (t := .boolean) Bd.returns (by simp) (hb hby at_250) hr, hrun, hended, _, _, rfl, ?_, ⟨_, rfl⟩, hW, hsame.mono (by decide) (by decide)⟩
      show Q_law Z p0 p1 p2 p3 G1 h0 n0 _ T66.heap _
      rw [K66]
      exact ⟨rfl, N66⟩
    case neg =>
      refine Goes.st (fun t k => XS.icmpYes X42.here hx rfl (pc0 := 195) (pc' := 207) rfl (hb hby at_195) rfl (feq c65).2 (by decide) (by decide) k) ?_
      show Goes _ _ _ _ (T42.setTop (mkF m 207 #[.val (.int p0), .val (.int p1), .val (.int p2), .val (.int p3), .val (.ref b1), .val (.ref b6), .val (.ref b9), .val (.int ji), .val (.int jj), .val (.int jk), .val (.int jl), .val (.ref b36), .val (.int (p1 &&& (3 : Int32))), .unset, .unset] []))
      refine Goes.st (fun t k => XS.iload X42.here hx rfl (hb hby at_207) rfl k) ?_
      show Goes _ _ _ _ (T42.setTop (mkF m 209 #[.val (.int p0), .val (.int p1), .val (.int p2), .val (.int p3), .val (.ref b1), .val (.ref b6), .val (.ref b9), .val (.int ji), .val (.int jj), .val (.int jk), .val (.int jl), .val (.ref b36), .val (.int (p1 &&& (3 : Int32))), .unset, .unset] [(.int (p1 &&& (3 : Int32)))]))
      refine Goes.st (fun t k => XS.iconst X42.here hx rfl (hb hby at_209) k) ?_
      show Goes _ _ _ _ (T42.setTop (mkF m 210 #[.val (.int p0), .val (.int p1), .val (.int p2), .val (.int p3), .val (.ref b1), .val (.ref b6), .val (.ref b9), .val (.int ji), .val (.int jj), .val (.int jk), .val (.int jl), .val (.ref b36), .val (.int (p1 &&& (3 : Int32))), .unset, .unset] [(.int (2 : Int32)), (.int (p1 &&& (3 : Int32)))]))
      by_cases c67 : (p1 &&& (3 : Int32)) = (2 : Int32)
      case pos =>
        refine Goes.st (fun t k => XS.icmpNo X42.here hx rfl (hb hby at_210) rfl (teq c67).2 k) ?_
        show Goes _ _ _ _ (T42.setTop (mkF m 213 #[.val (.int p0), .val (.int p1), .val (.int p2), .val (.int p3), .val (.ref b1), .val (.ref b6), .val (.ref b9), .val (.int ji), .val (.int jj), .val (.int jk), .val (.int jl), .val (.ref b36), .val (.int (p1 &&& (3 : Int32))), .unset, .unset] []))
        rcases Fjk with ejk | ejk | ejk | ejk
        · skip
          rw [ejk]
          show Goes _ _ _ _ (T42.setTop (mkF m 213 #[.val (.int p0), .val (.int p1), .val (.int p2), .val (.int p3), .val (.ref b1), .val (.ref b6), .val (.ref b9), .val (.int ji), .val (.int jj), .val (.int (0 : Int32)), .val (.int jl), .val (.ref b36), .val (.int (p1 &&& (3 : Int32))), .unset, .unset] []))
          refine Goes.st (fun t k => XS.aload X42.here hx rfl (hb hby at_213) rfl rfl k) ?_
          show Goes _ _ _ _ (T42.setTop (mkF m 215 #[.val (.int p0), .val (.int p1), .val (.int p2), .val (.int p3), .val (.ref b1), .val (.ref b6), .val (.ref b9), .val (.int ji), .val (.int jj), .val (.int (0 : Int32)), .val (.int jl), .val (.ref b36), .val (.int (p1 &&& (3 : Int32))), .unset, .unset] [(.ref b9)]))
          refine Goes.st (fun t k => XS.iload X42.here hx rfl (hb hby at_215) rfl k) ?_
          show Goes _ _ _ _ (T42.setTop (mkF m 217 #[.val (.int p0), .val (.int p1), .val (.int p2), .val (.int p3), .val (.ref b1), .val (.ref b6), .val (.ref b9), .val (.int ji), .val (.int jj), .val (.int (0 : Int32)), .val (.int jl), .val (.ref b36), .val (.int (p1 &&& (3 : Int32))), .unset, .unset] [(.int (0 : Int32)), (.ref b9)]))
          have f68 : Arv Z T42.heap b9 k9 (.object "java/lang/Object") (4 : Int32) [.null, (.ref b12), (.ref b20), (.ref b28)] .null := (f37.keep K42 (ninS (Nat.ne_of_lt (Nat.lt_of_lt_of_le A9.lt (Nat.le_trans (Nat.le_trans (Nat.le_trans (Nat.le_trans (Nat.le_trans (Nat.le_trans (Nat.le_trans (Nat.le_trans (Nat.le_trans (Nat.le_trans (Nat.le_of_eq W11.size.symm) E12.1) K13.1) (Nat.le_of_eq W19.size.symm)) E20.1) K21.1) (Nat.le_of_eq W27.size.symm)) E28.1) K29.1) (Nat.le_of_eq W35.size.symm)) (Nat.le_of_eq g36.symm)))) nin0))
          obtain ⟨oc69, oA69, oq69, oS69, oM69, oH69, oG69⟩ := id f68
          refine Goes.st (fun t k => X42.aaload hx (j := (0 : Int32)) (v := .null) oA69.1 (State.isArrayOf_alike hZ.alike oA69.2.1) rfl oA69.2.2 (inb_of oS69 ⟨by decide, by decide⟩) (oH69.at (inb_of oS69 ⟨by decide, by decide⟩) rfl) (g := (mkF m 217 #[.val (.int p0), .val (.int p1), .val (.int p2), .val (.int p3), .val (.ref b1), .val (.ref b6), .val (.ref b9), .val (.int ji), .val (.int jj), .val (.int (0 : Int32)), .val (.int jl), .val (.ref b36), .val (.int (p1 &&& (3 : Int32))), .unset, .unset] [(.int (0 : Int32)), (.ref b9)])) rfl rfl (hb hby at_217) _ k) ?_
          show Goes _ _ _ _ (T42.setTop (mkF m 218 #[.val (.int p0), .val (.int p1), .val (.int p2), .val (.int p3), .val (.ref b1), .val (.ref b6), .val (.ref b9), .val (.int ji), .val (.int jj), .val (.int (0 : Int32)), .val (.int jl), .val (.ref b36), .val (.int (p1 &&& (3 : Int32))), .unset, .unset] [.null]))
          refine Goes.st (fun t k => XS.astore X42.here hx rfl (hb hby at_218) rfl rfl (l' := #[.val (.int p0), .val (.int p1), .val (.int p2), .val (.int p3), .val (.ref b1), .val (.ref b6), .val (.ref b9), .val (.int ji), .val (.int jj), .val (.int (0 : Int32)), .val (.int jl), .val (.ref b36), .val (.int (p1 &&& (3 : Int32))), .val .null, .unset]) rfl k) ?_
          show Goes _ _ _ _ (T42.setTop (mkF m 220 #[.val (.int p0), .val (.int p1), .val (.int p2), .val (.int p3), .val (.ref b1), .val (.ref b6), .val (.ref b9), .val (.int ji), .val (.int jj), .val (.int (0 : Int32)), .val (.int jl), .val (.ref b36), .val (.int (p1 &&& (3 : Int32))), .val .null, .unset] []))
          refine Goes.st (fun t k => XS.iconst X42.here hx rfl (hb hby at_220) k) ?_
          show Goes _ _ _ _ (T42.setTop (mkF m 221 #[.val (.int p0), .val (.int p1), .val (.int p2), .val (.int p3), .val (.ref b1), .val (.ref b6), .val (.ref b9), .val (.int ji), .val (.int jj), .val (.int (0 : Int32)), .val (.int jl), .val (.ref b36), .val (.int (p1 &&& (3 : Int32))), .val .null, .unset] [(.int (0 : Int32))]))
          refine Goes.st (fun t k => XS.istore X42.here hx rfl (hb hby at_221) rfl (l' := #[.val (.int p0), .val (.int p1), .val (.int p2), .val (.int p3), .val (.ref b1), .val (.ref b6), .val (.ref b9), .val (.int ji), .val (.int jj), .val (.int (0 : Int32)), .val (.int jl), .val (.ref b36), .val (.int (p1 &&& (3 : Int32))), .val .null, .val (.int (0 : Int32))]) rfl k) ?_
          show Goes _ _ _ _ (T42.setTop (mkF m 223 #[.val (.int p0), .val (.int p1), .val (.int p2), .val (.int p3), .val (.ref b1), .val (.ref b6), .val (.ref b9), .val (.int ji), .val (.int jj), .val (.int (0 : Int32)), .val (.int jl), .val (.ref b36), .val (.int (p1 &&& (3 : Int32))), .val .null, .val (.int (0 : Int32))] []))
          refine Goes.st (fun t k => XS.goto X42.here hx rfl (pc0 := 223) (pc' := 233) rfl (hb hby at_223) (by decide) (by decide) k) ?_
          show Goes _ _ _ _ (T42.setTop (mkF m 233 #[.val (.int p0), .val (.int p1), .val (.int p2), .val (.int p3), .val (.ref b1), .val (.ref b6), .val (.ref b9), .val (.int ji), .val (.int jj), .val (.int (0 : Int32)), .val (.int jl), .val (.ref b36), .val (.int (p1 &&& (3 : Int32))), .val .null, .val (.int (0 : Int32))] []))
          refine Goes.st (fun t k => XS.aload X42.here hx rfl (hb hby at_233) rfl rfl k) ?_
          show Goes _ _ _ _ (T42.setTop (mkF m 235 #[.val (.int p0), .val (.int p1), .val (.int p2), .val (.int p3), .val (.ref b1), .val (.ref b6), .val (.ref b9), .val (.int ji), .val (.int jj), .val (.int (0 : Int32)), .val (.int jl), .val (.ref b36), .val (.int (p1 &&& (3 : Int32))), .val .null, .val (.int (0 : Int32))] [(.ref b36)]))
          refine Goes.st (fun t k => XS.aload X42.here hx rfl (hb hby at_235) rfl rfl k) ?_
          show Goes _ _ _ _ (T42.setTop (mkF m 237 #[.val (.int p0), .val (.int p1), .val (.int p2), .val (.int p3), .val (.ref b1), .val (.ref b6), .val (.ref b9), .val (.int ji), .val (.int jj), .val (.int (0 : Int32)), .val (.int jl), .val (.ref b36), .val (.int (p1 &&& (3 : Int32))), .val .null, .val (.int (0 : Int32))] [.null, (.ref b36)]))
          obtain ⟨cq70, kq70, q70a, q70b, q70c⟩ := isOf hZ rfl F42_0
          obtain ⟨_, _, ⟨T70, L70, k70, n70⟩, -, X70, ⟨Lc70, hQ70, l70, y70, z70⟩, st70⟩ := X42.virtualBack hx (y := (⟨"com/example/warrant/warrant/util/IdentityPair", "equals", "(Ljava/lang/Object;)Z"⟩ : MethodName)) (z := (⟨"com/example/warrant/warrant/util/IdentityPair", "equals", "(Ljava/lang/Object;)Z"⟩ : MethodName)) hown (mvT hZ (hw49 hw)) (mvT hZ (hw50 hw)) (notFace_of_selects (args := #[]) (mvT hZ (hw52 hw))) (mvT hZ (hw52 hw)) (mvT hZ (hw51 hw)) (by decide) (backOf (W := 0) (rm_eqN l Z a0 hw [] b36 T42.heap n0 (Nat.le_trans Z0 (Nat.le_trans (Nat.le_trans (Nat.le_trans (Nat.le_trans (Nat.le_trans (Nat.le_trans (Nat.le_trans (Nat.le_trans (Nat.le_trans (Nat.le_trans (Nat.le_trans (Nat.le_trans (Nat.le_trans (Nat.le_trans (Nat.le_trans (Nat.le_trans (Nat.le_trans E1.1 (Nat.le_of_eq W3.size.symm)) (Nat.le_of_eq W5.size.symm)) E6.1) (Nat.le_of_eq W8.size.symm)) E9.1) (Nat.le_of_eq W11.size.symm)) E12.1) K13.1) (Nat.le_of_eq W19.size.symm)) E20.1) K21.1) (Nat.le_of_eq W27.size.symm)) E28.1) K29.1) (Nat.le_of_eq W35.size.symm)) E36.1) K42.1)) ) hZ (hw53 hw) (hw35 hw) (by decide) (by decide)) q70a q70c (g := (mkF m 237 #[.val (.int p0), .val (.int p1), .val (.int p2), .val (.int p3), .val (.ref b1), .val (.ref b6), .val (.ref b9), .val (.int ji), .val (.int jj), .val (.int (0 : Int32)), .val (.int jl), .val (.ref b36), .val (.int (p1 &&& (3 : Int32))), .val .null, .val (.int (0 : Int32))] [.null, (.ref b36)])) rfl (by rw [hml]; rfl) (Steps.refl _) (argsL := [.null]) (rest := []) (lenOf pd_3 rfl) rfl (by show 2 * 0 + _ ≤ _; exact Nat.le_of_eq rfl) (hb hby at_237) (fun _ _ => ⟨rfl, rfl, (by decide : 10 + 0 ≤ _), (by decide : 26 + 0 ≤ _)⟩)
          dsimp only [Pt.U, Pt.locs, Pt.cells, Pt.slots] at X70 l70 y70 z70 st70 hQ70
          subst l70 y70 z70
          obtain ⟨rfl, N70q, K70⟩ := hQ70
          have N70 := Fr.app N42 N70q
          refine Goes.tr st70 ?_
          show Goes _ _ _ _ (T70.setTop (mkF m 240 #[.val (.int p0), .val (.int p1), .val (.int p2), .val (.int p3), .val (.ref b1), .val (.ref b6), .val (.ref b9), .val (.int ji), .val (.int jj), .val (.int (0 : Int32)), .val (.int jl), .val (.ref b36), .val (.int (p1 &&& (3 : Int32))), .val .null, .val (.int (0 : Int32))] [(.int (0 : Int32))]))
          refine Goes.st (fun t k => XS.iload X70.here hx rfl (hb hby at_240) rfl k) ?_
          show Goes _ _ _ _ (T70.setTop (mkF m 242 #[.val (.int p0), .val (.int p1), .val (.int p2), .val (.int p3), .val (.ref b1), .val (.ref b6), .val (.ref b9), .val (.int ji), .val (.int jj), .val (.int (0 : Int32)), .val (.int jl), .val (.ref b36), .val (.int (p1 &&& (3 : Int32))), .val .null, .val (.int (0 : Int32))] [(.int (0 : Int32)), (.int (0 : Int32))]))
          refine Goes.st (fun t k => XS.icmpNo X70.here hx rfl (hb hby at_242) rfl (teq (by decide)).2 k) ?_
          show Goes _ _ _ _ (T70.setTop (mkF m 245 #[.val (.int p0), .val (.int p1), .val (.int p2), .val (.int p3), .val (.ref b1), .val (.ref b6), .val (.ref b9), .val (.int ji), .val (.int jj), .val (.int (0 : Int32)), .val (.int jl), .val (.ref b36), .val (.int (p1 &&& (3 : Int32))), .val .null, .val (.int (0 : Int32))] []))
          refine Goes.st (fun t k => XS.iconst X70.here hx rfl (hb hby at_245) k) ?_
          show Goes _ _ _ _ (T70.setTop (mkF m 246 #[.val (.int p0), .val (.int p1), .val (.int p2), .val (.int p3), .val (.ref b1), .val (.ref b6), .val (.ref b9), .val (.int ji), .val (.int jj), .val (.int (0 : Int32)), .val (.int jl), .val (.ref b36), .val (.int (p1 &&& (3 : Int32))), .val .null, .val (.int (0 : Int32))] [(.int (1 : Int32))]))
          refine Goes.st (fun t k => XS.goto X70.here hx rfl (pc0 := 246) (pc' := 250) rfl (hb hby at_246) (by decide) (by decide) k) ?_
          show Goes _ _ _ _ (T70.setTop (mkF m 250 #[.val (.int p0), .val (.int p1), .val (.int p2), .val (.int p3), .val (.ref b1), .val (.ref b6), .val (.ref b9), .val (.int ji), .val (.int jj), .val (.int (0 : Int32)), .val (.int jl), .val (.ref b36), .val (.int (p1 &&& (3 : Int32))), .val .null, .val (.int (0 : Int32))] [(.int (1 : Int32))]))
          obtain ⟨fs, hr, hrun, hended, hW, hsame⟩ := X70.leave (v := some (.int (1 : Int32))) (fun h => by rw [Bd.returns] at h; cases h)
          subst hQQ
          refine ⟨_, _, retN X70 hx (t := .boolean) Bd.returns (by simp) (hb hby at_250) hr, hrun, hended, _, _, rfl, ?_, ⟨_, rfl⟩, hW, hsame.mono (by decide) (by decide)⟩
          show Q_law Z p0 p1 p2 p3 G1 h0 n0 _ T70.heap _
          rw [K70]
          exact ⟨rfl, N70⟩
        · skip
          rw [ejk]
          show Goes _ _ _ _ (T42.setTop (mkF m 213 #[.val (.int p0), .val (.int p1), .val (.int p2), .val (.int p3), .val (.ref b1), .val (.ref b6), .val (.ref b9), .val (.int ji), .val (.int jj), .val (.int (1 : Int32)), .val (.int jl), .val (.ref b36), .val (.int (p1 &&& (3 : Int32))), .unset, .unset] []))
          refine Goes.st (fun t k => XS.aload X42.here hx rfl (hb hby at_213) rfl rfl k) ?_
          show Goes _ _ _ _ (T42.setTop (mkF m 215 #[.val (.int p0), .val (.int p1), .val (.int p2), .val (.int p3), .val (.ref b1), .val (.ref b6), .val (.ref b9), .val (.int ji), .val (.int jj), .val (.int (1 : Int32)), .val (.int jl), .val (.ref b36), .val (.int (p1 &&& (3 : Int32))), .unset, .unset] [(.ref b9)]))
          refine Goes.st (fun t k => XS.iload X42.here hx rfl (hb hby at_215) rfl k) ?_
          show Goes _ _ _ _ (T42.setTop (mkF m 217 #[.val (.int p0), .val (.int p1), .val (.int p2), .val (.int p3), .val (.ref b1), .val (.ref b6), .val (.ref b9), .val (.int ji), .val (.int jj), .val (.int (1 : Int32)), .val (.int jl), .val (.ref b36), .val (.int (p1 &&& (3 : Int32))), .unset, .unset] [(.int (1 : Int32)), (.ref b9)]))
          have f71 : Arv Z T42.heap b9 k9 (.object "java/lang/Object") (4 : Int32) [.null, (.ref b12), (.ref b20), (.ref b28)] .null := (f37.keep K42 (ninS (Nat.ne_of_lt (Nat.lt_of_lt_of_le A9.lt (Nat.le_trans (Nat.le_trans (Nat.le_trans (Nat.le_trans (Nat.le_trans (Nat.le_trans (Nat.le_trans (Nat.le_trans (Nat.le_trans (Nat.le_trans (Nat.le_of_eq W11.size.symm) E12.1) K13.1) (Nat.le_of_eq W19.size.symm)) E20.1) K21.1) (Nat.le_of_eq W27.size.symm)) E28.1) K29.1) (Nat.le_of_eq W35.size.symm)) (Nat.le_of_eq g36.symm)))) nin0))
          obtain ⟨oc72, oA72, oq72, oS72, oM72, oH72, oG72⟩ := id f71
          refine Goes.st (fun t k => X42.aaload hx (j := (1 : Int32)) (v := (.ref b12)) oA72.1 (State.isArrayOf_alike hZ.alike oA72.2.1) rfl oA72.2.2 (inb_of oS72 ⟨by decide, by decide⟩) (oH72.at (inb_of oS72 ⟨by decide, by decide⟩) rfl) (g := (mkF m 217 #[.val (.int p0), .val (.int p1), .val (.int p2), .val (.int p3), .val (.ref b1), .val (.ref b6), .val (.ref b9), .val (.int ji), .val (.int jj), .val (.int (1 : Int32)), .val (.int jl), .val (.ref b36), .val (.int (p1 &&& (3 : Int32))), .unset, .unset] [(.int (1 : Int32)), (.ref b9)])) rfl rfl (hb hby at_217) _ k) ?_
          show Goes _ _ _ _ (T42.setTop (mkF m 218 #[.val (.int p0), .val (.int p1), .val (.int p2), .val (.int p3), .val (.ref b1), .val (.ref b6), .val (.ref b9), .val (.int ji), .val (.int jj), .val (.int (1 : Int32)), .val (.int jl), .val (.ref b36), .val (.int (p1 &&& (3 : Int32))), .unset, .unset] [(.ref b12)]))
          refine Goes.st (fun t k => XS.astore X42.here hx rfl (hb hby at_218) rfl rfl (l' := #[.val (.int p0), .val (.int p1), .val (.int p2), .val (.int p3), .val (.ref b1), .val (.ref b6), .val (.ref b9), .val (.int ji), .val (.int jj), .val (.int (1 : Int32)), .val (.int jl), .val (.ref b36), .val (.int (p1 &&& (3 : Int32))), .val (.ref b12), .unset]) rfl k) ?_
          show Goes _ _ _ _ (T42.setTop (mkF m 220 #[.val (.int p0), .val (.int p1), .val (.int p2), .val (.int p3), .val (.ref b1), .val (.ref b6), .val (.ref b9), .val (.int ji), .val (.int jj), .val (.int (1 : Int32)), .val (.int jl), .val (.ref b36), .val (.int (p1 &&& (3 : Int32))), .val (.ref b12), .unset] []))
          refine Goes.st (fun t k => XS.iconst X42.here hx rfl (hb hby at_220) k) ?_
          show Goes _ _ _ _ (T42.setTop (mkF m 221 #[.val (.int p0), .val (.int p1), .val (.int p2), .val (.int p3), .val (.ref b1), .val (.ref b6), .val (.ref b9), .val (.int ji), .val (.int jj), .val (.int (1 : Int32)), .val (.int jl), .val (.ref b36), .val (.int (p1 &&& (3 : Int32))), .val (.ref b12), .unset] [(.int (0 : Int32))]))
          refine Goes.st (fun t k => XS.istore X42.here hx rfl (hb hby at_221) rfl (l' := #[.val (.int p0), .val (.int p1), .val (.int p2), .val (.int p3), .val (.ref b1), .val (.ref b6), .val (.ref b9), .val (.int ji), .val (.int jj), .val (.int (1 : Int32)), .val (.int jl), .val (.ref b36), .val (.int (p1 &&& (3 : Int32))), .val (.ref b12), .val (.int (0 : Int32))]) rfl k) ?_
          show Goes _ _ _ _ (T42.setTop (mkF m 223 #[.val (.int p0), .val (.int p1), .val (.int p2), .val (.int p3), .val (.ref b1), .val (.ref b6), .val (.ref b9), .val (.int ji), .val (.int jj), .val (.int (1 : Int32)), .val (.int jl), .val (.ref b36), .val (.int (p1 &&& (3 : Int32))), .val (.ref b12), .val (.int (0 : Int32))] []))
          refine Goes.st (fun t k => XS.goto X42.here hx rfl (pc0 := 223) (pc' := 233) rfl (hb hby at_223) (by decide) (by decide) k) ?_
          show Goes _ _ _ _ (T42.setTop (mkF m 233 #[.val (.int p0), .val (.int p1), .val (.int p2), .val (.int p3), .val (.ref b1), .val (.ref b6), .val (.ref b9), .val (.int ji), .val (.int jj), .val (.int (1 : Int32)), .val (.int jl), .val (.ref b36), .val (.int (p1 &&& (3 : Int32))), .val (.ref b12), .val (.int (0 : Int32))] []))
          refine Goes.st (fun t k => XS.aload X42.here hx rfl (hb hby at_233) rfl rfl k) ?_
          show Goes _ _ _ _ (T42.setTop (mkF m 235 #[.val (.int p0), .val (.int p1), .val (.int p2), .val (.int p3), .val (.ref b1), .val (.ref b6), .val (.ref b9), .val (.int ji), .val (.int jj), .val (.int (1 : Int32)), .val (.int jl), .val (.ref b36), .val (.int (p1 &&& (3 : Int32))), .val (.ref b12), .val (.int (0 : Int32))] [(.ref b36)]))
          refine Goes.st (fun t k => XS.aload X42.here hx rfl (hb hby at_235) rfl rfl k) ?_
          show Goes _ _ _ _ (T42.setTop (mkF m 237 #[.val (.int p0), .val (.int p1), .val (.int p2), .val (.int p3), .val (.ref b1), .val (.ref b6), .val (.ref b9), .val (.int ji), .val (.int jj), .val (.int (1 : Int32)), .val (.int jl), .val (.ref b36), .val (.int (p1 &&& (3 : Int32))), .val (.ref b12), .val (.int (0 : Int32))] [(.ref b12), (.ref b36)]))
          have f74 : Exa Z T42.heap b12 "java/lang/String" := (((((((((Ex13.wr W19).ext E20).keep K21).wr W27).ext E28).keep K29).wr W35).ext E36).keep K42)
          obtain ⟨cq73, kq73, q73a, q73b, q73c⟩ := isOf hZ rfl F42_0
          obtain ⟨_, _, ⟨T73, L73, k73, n73⟩, -, X73, ⟨Lc73, hQ73, l73, y73, z73⟩, st73⟩ := X42.virtualBack hx (y := (⟨"com/example/warrant/warrant/util/IdentityPair", "equals", "(Ljava/lang/Object;)Z"⟩ : MethodName)) (z := (⟨"com/example/warrant/warrant/util/IdentityPair", "equals", "(Ljava/lang/Object;)Z"⟩ : MethodName)) hown (mvT hZ (hw49 hw)) (mvT hZ (hw50 hw)) (notFace_of_selects (args := #[]) (mvT hZ (hw52 hw))) (mvT hZ (hw52 hw)) (mvT hZ (hw51 hw)) (by decide) (backOf (W := 0) (rm_eqS l Z a0 hw [] b36 b12 T42.heap n0 (Nat.le_trans Z0 (Nat.le_trans (Nat.le_trans (Nat.le_trans (Nat.le_trans (Nat.le_trans (Nat.le_trans (Nat.le_trans (Nat.le_trans (Nat.le_trans (Nat.le_trans (Nat.le_trans (Nat.le_trans (Nat.le_trans (Nat.le_trans (Nat.le_trans (Nat.le_trans (Nat.le_trans E1.1 (Nat.le_of_eq W3.size.symm)) (Nat.le_of_eq W5.size.symm)) E6.1) (Nat.le_of_eq W8.size.symm)) E9.1) (Nat.le_of_eq W11.size.symm)) E12.1) K13.1) (Nat.le_of_eq W19.size.symm)) E20.1) K21.1) (Nat.le_of_eq W27.size.symm)) E28.1) K29.1) (Nat.le_of_eq W35.size.symm)) E36.1) K42.1)) f74) hZ (hw53 hw) (hw35 hw) (by decide) (by decide)) q73a q73c (g := (mkF m 237 #[.val (.int p0), .val (.int p1), .val (.int p2), .val (.int p3), .val (.ref b1), .val (.ref b6), .val (.ref b9), .val (.int ji), .val (.int jj), .val (.int (1 : Int32)), .val (.int jl), .val (.ref b36), .val (.int (p1 &&& (3 : Int32))), .val (.ref b12), .val (.int (0 : Int32))] [(.ref b12), (.ref b36)])) rfl (by rw [hml]; rfl) (Steps.refl _) (argsL := [(.ref b12)]) (rest := []) (lenOf pd_3 rfl) rfl (by show 2 * 0 + _ ≤ _; exact Nat.le_of_eq rfl) (hb hby at_237) (fun _ _ => ⟨rfl, rfl, (by decide : 10 + 0 ≤ _), (by decide : 26 + 0 ≤ _)⟩)
          dsimp only [Pt.U, Pt.locs, Pt.cells, Pt.slots] at X73 l73 y73 z73 st73 hQ73
          subst l73 y73 z73
          obtain ⟨rfl, N73q, K73⟩ := hQ73
          have N73 := Fr.app N42 N73q
          refine Goes.tr st73 ?_
          show Goes _ _ _ _ (T73.setTop (mkF m 240 #[.val (.int p0), .val (.int p1), .val (.int p2), .val (.int p3), .val (.ref b1), .val (.ref b6), .val (.ref b9), .val (.int ji), .val (.int jj), .val (.int (1 : Int32)), .val (.int jl), .val (.ref b36), .val (.int (p1 &&& (3 : Int32))), .val (.ref b12), .val (.int (0 : Int32))] [(.int (0 : Int32))]))
          refine Goes.st (fun t k => XS.iload X73.here hx rfl (hb hby at_240) rfl k) ?_
          show Goes _ _ _ _ (T73.setTop (mkF m 242 #[.val (.int p0), .val (.int p1), .val (.int p2), .val (.int p3), .val (.ref b1), .val (.ref b6), .val (.ref b9), .val (.int ji), .val (.int jj), .val (.int (1 : Int32)), .val (.int jl), .val (.ref b36), .val (.int (p1 &&& (3 : Int32))), .val (.ref b12), .val (.int (0 : Int32))] [(.int (0 : Int32)), (.int (0 : Int32))]))
          refine Goes.st (fun t k => XS.icmpNo X73.here hx rfl (hb hby at_242) rfl (teq (by decide)).2 k) ?_
          show Goes _ _ _ _ (T73.setTop (mkF m 245 #[.val (.int p0), .val (.int p1), .val (.int p2), .val (.int p3), .val (.ref b1), .val (.ref b6), .val (.ref b9), .val (.int ji), .val (.int jj), .val (.int (1 : Int32)), .val (.int jl), .val (.ref b36), .val (.int (p1 &&& (3 : Int32))), .val (.ref b12), .val (.int (0 : Int32))] []))
          refine Goes.st (fun t k => XS.iconst X73.here hx rfl (hb hby at_245) k) ?_
          show Goes _ _ _ _ (T73.setTop (mkF m 246 #[.val (.int p0), .val (.int p1), .val (.int p2), .val (.int p3), .val (.ref b1), .val (.ref b6), .val (.ref b9), .val (.int ji), .val (.int jj), .val (.int (1 : Int32)), .val (.int jl), .val (.ref b36), .val (.int (p1 &&& (3 : Int32))), .val (.ref b12), .val (.int (0 : Int32))] [(.int (1 : Int32))]))
          refine Goes.st (fun t k => XS.goto X73.here hx rfl (pc0 := 246) (pc' := 250) rfl (hb hby at_246) (by decide) (by decide) k) ?_
          show Goes _ _ _ _ (T73.setTop (mkF m 250 #[.val (.int p0), .val (.int p1), .val (.int p2), .val (.int p3), .val (.ref b1), .val (.ref b6), .val (.ref b9), .val (.int ji), .val (.int jj), .val (.int (1 : Int32)), .val (.int jl), .val (.ref b36), .val (.int (p1 &&& (3 : Int32))), .val (.ref b12), .val (.int (0 : Int32))] [(.int (1 : Int32))]))
          obtain ⟨fs, hr, hrun, hended, hW, hsame⟩ := X73.leave (v := some (.int (1 : Int32))) (fun h => by rw [Bd.returns] at h; cases h)
          subst hQQ
          refine ⟨_, _, retN X73 hx (t := .boolean) Bd.returns (by simp) (hb hby at_250) hr, hrun, hended, _, _, rfl, ?_, ⟨_, rfl⟩, hW, hsame.mono (by decide) (by decide)⟩
          show Q_law Z p0 p1 p2 p3 G1 h0 n0 _ T73.heap _
          rw [K73]
          exact ⟨rfl, N73⟩
        · skip
          rw [ejk]
          show Goes _ _ _ _ (T42.setTop (mkF m 213 #[.val (.int p0), .val (.int p1), .val (.int p2), .val (.int p3), .val (.ref b1), .val (.ref b6), .val (.ref b9), .val (.int ji), .val (.int jj), .val (.int (2 : Int32)), .val (.int jl), .val (.ref b36), .val (.int (p1 &&& (3 : Int32))), .unset, .unset] []))
          refine Goes.st (fun t k => XS.aload X42.here hx rfl (hb hby at_213) rfl rfl k) ?_
          show Goes _ _ _ _ (T42.setTop (mkF m 215 #[.val (.int p0), .val (.int p1), .val (.int p2), .val (.int p3), .val (.ref b1), .val (.ref b6), .val (.ref b9), .val (.int ji), .val (.int jj), .val (.int (2 : Int32)), .val (.int jl), .val (.ref b36), .val (.int (p1 &&& (3 : Int32))), .unset, .unset] [(.ref b9)]))
          refine Goes.st (fun t k => XS.iload X42.here hx rfl (hb hby at_215) rfl k) ?_
          show Goes _ _ _ _ (T42.setTop (mkF m 217 #[.val (.int p0), .val (.int p1), .val (.int p2), .val (.int p3), .val (.ref b1), .val (.ref b6), .val (.ref b9), .val (.int ji), .val (.int jj), .val (.int (2 : Int32)), .val (.int jl), .val (.ref b36), .val (.int (p1 &&& (3 : Int32))), .unset, .unset] [(.int (2 : Int32)), (.ref b9)]))
          have f75 : Arv Z T42.heap b9 k9 (.object "java/lang/Object") (4 : Int32) [.null, (.ref b12), (.ref b20), (.ref b28)] .null := (f37.keep K42 (ninS (Nat.ne_of_lt (Nat.lt_of_lt_of_le A9.lt (Nat.le_trans (Nat.le_trans (Nat.le_trans (Nat.le_trans (Nat.le_trans (Nat.le_trans (Nat.le_trans (Nat.le_trans (Nat.le_trans (Nat.le_trans (Nat.le_of_eq W11.size.symm) E12.1) K13.1) (Nat.le_of_eq W19.size.symm)) E20.1) K21.1) (Nat.le_of_eq W27.size.symm)) E28.1) K29.1) (Nat.le_of_eq W35.size.symm)) (Nat.le_of_eq g36.symm)))) nin0))
          obtain ⟨oc76, oA76, oq76, oS76, oM76, oH76, oG76⟩ := id f75
          refine Goes.st (fun t k => X42.aaload hx (j := (2 : Int32)) (v := (.ref b20)) oA76.1 (State.isArrayOf_alike hZ.alike oA76.2.1) rfl oA76.2.2 (inb_of oS76 ⟨by decide, by decide⟩) (oH76.at (inb_of oS76 ⟨by decide, by decide⟩) rfl) (g := (mkF m 217 #[.val (.int p0), .val (.int p1), .val (.int p2), .val (.int p3), .val (.ref b1), .val (.ref b6), .val (.ref b9), .val (.int ji), .val (.int jj), .val (.int (2 : Int32)), .val (.int jl), .val (.ref b36), .val (.int (p1 &&& (3 : Int32))), .unset, .unset] [(.int (2 : Int32)), (.ref b9)])) rfl rfl (hb hby at_217) _ k) ?_
          show Goes _ _ _ _ (T42.setTop (mkF m 218 #[.val (.int p0), .val (.int p1), .val (.int p2), .val (.int p3), .val (.ref b1), .val (.ref b6), .val (.ref b9), .val (.int ji), .val (.int jj), .val (.int (2 : Int32)), .val (.int jl), .val (.ref b36), .val (.int (p1 &&& (3 : Int32))), .unset, .unset] [(.ref b20)]))
          refine Goes.st (fun t k => XS.astore X42.here hx rfl (hb hby at_218) rfl rfl (l' := #[.val (.int p0), .val (.int p1), .val (.int p2), .val (.int p3), .val (.ref b1), .val (.ref b6), .val (.ref b9), .val (.int ji), .val (.int jj), .val (.int (2 : Int32)), .val (.int jl), .val (.ref b36), .val (.int (p1 &&& (3 : Int32))), .val (.ref b20), .unset]) rfl k) ?_
          show Goes _ _ _ _ (T42.setTop (mkF m 220 #[.val (.int p0), .val (.int p1), .val (.int p2), .val (.int p3), .val (.ref b1), .val (.ref b6), .val (.ref b9), .val (.int ji), .val (.int jj), .val (.int (2 : Int32)), .val (.int jl), .val (.ref b36), .val (.int (p1 &&& (3 : Int32))), .val (.ref b20), .unset] []))
          refine Goes.st (fun t k => XS.iconst X42.here hx rfl (hb hby at_220) k) ?_
          show Goes _ _ _ _ (T42.setTop (mkF m 221 #[.val (.int p0), .val (.int p1), .val (.int p2), .val (.int p3), .val (.ref b1), .val (.ref b6), .val (.ref b9), .val (.int ji), .val (.int jj), .val (.int (2 : Int32)), .val (.int jl), .val (.ref b36), .val (.int (p1 &&& (3 : Int32))), .val (.ref b20), .unset] [(.int (0 : Int32))]))
          refine Goes.st (fun t k => XS.istore X42.here hx rfl (hb hby at_221) rfl (l' := #[.val (.int p0), .val (.int p1), .val (.int p2), .val (.int p3), .val (.ref b1), .val (.ref b6), .val (.ref b9), .val (.int ji), .val (.int jj), .val (.int (2 : Int32)), .val (.int jl), .val (.ref b36), .val (.int (p1 &&& (3 : Int32))), .val (.ref b20), .val (.int (0 : Int32))]) rfl k) ?_
          show Goes _ _ _ _ (T42.setTop (mkF m 223 #[.val (.int p0), .val (.int p1), .val (.int p2), .val (.int p3), .val (.ref b1), .val (.ref b6), .val (.ref b9), .val (.int ji), .val (.int jj), .val (.int (2 : Int32)), .val (.int jl), .val (.ref b36), .val (.int (p1 &&& (3 : Int32))), .val (.ref b20), .val (.int (0 : Int32))] []))
          refine Goes.st (fun t k => XS.goto X42.here hx rfl (pc0 := 223) (pc' := 233) rfl (hb hby at_223) (by decide) (by decide) k) ?_
          show Goes _ _ _ _ (T42.setTop (mkF m 233 #[.val (.int p0), .val (.int p1), .val (.int p2), .val (.int p3), .val (.ref b1), .val (.ref b6), .val (.ref b9), .val (.int ji), .val (.int jj), .val (.int (2 : Int32)), .val (.int jl), .val (.ref b36), .val (.int (p1 &&& (3 : Int32))), .val (.ref b20), .val (.int (0 : Int32))] []))
          refine Goes.st (fun t k => XS.aload X42.here hx rfl (hb hby at_233) rfl rfl k) ?_
          show Goes _ _ _ _ (T42.setTop (mkF m 235 #[.val (.int p0), .val (.int p1), .val (.int p2), .val (.int p3), .val (.ref b1), .val (.ref b6), .val (.ref b9), .val (.int ji), .val (.int jj), .val (.int (2 : Int32)), .val (.int jl), .val (.ref b36), .val (.int (p1 &&& (3 : Int32))), .val (.ref b20), .val (.int (0 : Int32))] [(.ref b36)]))
          refine Goes.st (fun t k => XS.aload X42.here hx rfl (hb hby at_235) rfl rfl k) ?_
          show Goes _ _ _ _ (T42.setTop (mkF m 237 #[.val (.int p0), .val (.int p1), .val (.int p2), .val (.int p3), .val (.ref b1), .val (.ref b6), .val (.ref b9), .val (.int ji), .val (.int jj), .val (.int (2 : Int32)), .val (.int jl), .val (.ref b36), .val (.int (p1 &&& (3 : Int32))), .val (.ref b20), .val (.int (0 : Int32))] [(.ref b20), (.ref b36)]))
          have f78 : Exa Z T42.heap b20 "java/lang/String" := ((((((Ex21.wr W27).ext E28).keep K29).wr W35).ext E36).keep K42)
          obtain ⟨cq77, kq77, q77a, q77b, q77c⟩ := isOf hZ rfl F42_0
          obtain ⟨_, _, ⟨T77, L77, k77, n77⟩, -, X77, ⟨Lc77, hQ77, l77, y77, z77⟩, st77⟩ := X42.virtualBack hx (y := (⟨"com/example/warrant/warrant/util/IdentityPair", "equals", "(Ljava/lang/Object;)Z"⟩ : MethodName)) (z := (⟨"com/example/warrant/warrant/util/IdentityPair", "equals", "(Ljava/lang/Object;)Z"⟩ : MethodName)) hown (mvT hZ (hw49 hw)) (mvT hZ (hw50 hw)) (notFace_of_selects (args := #[]) (mvT hZ (hw52 hw))) (mvT hZ (hw52 hw)) (mvT hZ (hw51 hw)) (by decide) (backOf (W := 0) (rm_eqS l Z a0 hw [] b36 b20 T42.heap n0 (Nat.le_trans Z0 (Nat.le_trans (Nat.le_trans (Nat.le_trans (Nat.le_trans (Nat.le_trans (Nat.le_trans (Nat.le_trans (Nat.le_trans (Nat.le_trans (Nat.le_trans (Nat.le_trans (Nat.le_trans (Nat.le_trans (Nat.le_trans (Nat.le_trans (Nat.le_trans (Nat.le_trans E1.1 (Nat.le_of_eq W3.size.symm)) (Nat.le_of_eq W5.size.symm)) E6.1) (Nat.le_of_eq W8.size.symm)) E9.1) (Nat.le_of_eq W11.size.symm)) E12.1) K13.1) (Nat.le_of_eq W19.size.symm)) E20.1) K21.1) (Nat.le_of_eq W27.size.symm)) E28.1) K29.1) (Nat.le_of_eq W35.size.symm)) E36.1) K42.1)) f78) hZ (hw53 hw) (hw35 hw) (by decide) (by decide)) q77a q77c (g := (mkF m 237 #[.val (.int p0), .val (.int p1), .val (.int p2), .val (.int p3), .val (.ref b1), .val (.ref b6), .val (.ref b9), .val (.int ji), .val (.int jj), .val (.int (2 : Int32)), .val (.int jl), .val (.ref b36), .val (.int (p1 &&& (3 : Int32))), .val (.ref b20), .val (.int (0 : Int32))] [(.ref b20), (.ref b36)])) rfl (by rw [hml]; rfl) (Steps.refl _) (argsL := [(.ref b20)]) (rest := []) (lenOf pd_3 rfl) rfl (by show 2 * 0 + _ ≤ _; exact Nat.le_of_eq rfl) (hb hby at_237) (fun _ _ => ⟨rfl, rfl, (by decide : 10 + 0 ≤ _), (by decide : 26 + 0 ≤ _)⟩)
          dsimp only [Pt.U, Pt.locs, Pt.cells, Pt.slots] at X77 l77 y77 z77 st77 hQ77
          subst l77 y77 z77
          obtain ⟨rfl, N77q, K77⟩ := hQ77
          have N77 := Fr.app N42 N77q
          refine Goes.tr st77 ?_
          show Goes _ _ _ _ (T77.setTop (mkF m 240 #[.val (.int p0), .val (.int p1), .val (.int p2), .val (.int p3), .val (.ref b1), .val (.ref b6), .val (.ref b9), .val (.int ji), .val (.int jj), .val (.int (2 : Int32)), .val (.int jl), .val (.ref b36), .val (.int (p1 &&& (3 : Int32))), .val (.ref b20), .val (.int (0 : Int32))] [(.int (0 : Int32))]))
          refine Goes.st (fun t k => XS.iload X77.here hx rfl (hb hby at_240) rfl k) ?_
          show Goes _ _ _ _ (T77.setTop (mkF m 242 #[.val (.int p0), .val (.int p1), .val (.int p2), .val (.int p3), .val (.ref b1), .val (.ref b6), .val (.ref b9), .val (.int ji), .val (.int jj), .val (.int (2 : Int32)), .val (.int jl), .val (.ref b36), .val (.int (p1 &&& (3 : Int32))), .val (.ref b20), .val (.int (0 : Int32))] [(.int (0 : Int32)), (.int (0 : Int32))]))
          refine Goes.st (fun t k => XS.icmpNo X77.here hx rfl (hb hby at_242) rfl (teq (by decide)).2 k) ?_
          show Goes _ _ _ _ (T77.setTop (mkF m 245 #[.val (.int p0), .val (.int p1), .val (.int p2), .val (.int p3), .val (.ref b1), .val (.ref b6), .val (.ref b9), .val (.int ji), .val (.int jj), .val (.int (2 : Int32)), .val (.int jl), .val (.ref b36), .val (.int (p1 &&& (3 : Int32))), .val (.ref b20), .val (.int (0 : Int32))] []))
          refine Goes.st (fun t k => XS.iconst X77.here hx rfl (hb hby at_245) k) ?_
          show Goes _ _ _ _ (T77.setTop (mkF m 246 #[.val (.int p0), .val (.int p1), .val (.int p2), .val (.int p3), .val (.ref b1), .val (.ref b6), .val (.ref b9), .val (.int ji), .val (.int jj), .val (.int (2 : Int32)), .val (.int jl), .val (.ref b36), .val (.int (p1 &&& (3 : Int32))), .val (.ref b20), .val (.int (0 : Int32))] [(.int (1 : Int32))]))
          refine Goes.st (fun t k => XS.goto X77.here hx rfl (pc0 := 246) (pc' := 250) rfl (hb hby at_246) (by decide) (by decide) k) ?_
          show Goes _ _ _ _ (T77.setTop (mkF m 250 #[.val (.int p0), .val (.int p1), .val (.int p2), .val (.int p3), .val (.ref b1), .val (.ref b6), .val (.ref b9), .val (.int ji), .val (.int jj), .val (.int (2 : Int32)), .val (.int jl), .val (.ref b36), .val (.int (p1 &&& (3 : Int32))), .val (.ref b20), .val (.int (0 : Int32))] [(.int (1 : Int32))]))
          obtain ⟨fs, hr, hrun, hended, hW, hsame⟩ := X77.leave (v := some (.int (1 : Int32))) (fun h => by rw [Bd.returns] at h; cases h)
          subst hQQ
          refine ⟨_, _, retN X77 hx (t := .boolean) Bd.returns (by simp) (hb hby at_250) hr, hrun, hended, _, _, rfl, ?_, ⟨_, rfl⟩, hW, hsame.mono (by decide) (by decide)⟩
          show Q_law Z p0 p1 p2 p3 G1 h0 n0 _ T77.heap _
          rw [K77]
          exact ⟨rfl, N77⟩
        · skip
          rw [ejk]
          show Goes _ _ _ _ (T42.setTop (mkF m 213 #[.val (.int p0), .val (.int p1), .val (.int p2), .val (.int p3), .val (.ref b1), .val (.ref b6), .val (.ref b9), .val (.int ji), .val (.int jj), .val (.int (3 : Int32)), .val (.int jl), .val (.ref b36), .val (.int (p1 &&& (3 : Int32))), .unset, .unset] []))
          refine Goes.st (fun t k => XS.aload X42.here hx rfl (hb hby at_213) rfl rfl k) ?_
          show Goes _ _ _ _ (T42.setTop (mkF m 215 #[.val (.int p0), .val (.int p1), .val (.int p2), .val (.int p3), .val (.ref b1), .val (.ref b6), .val (.ref b9), .val (.int ji), .val (.int jj), .val (.int (3 : Int32)), .val (.int jl), .val (.ref b36), .val (.int (p1 &&& (3 : Int32))), .unset, .unset] [(.ref b9)]))
          refine Goes.st (fun t k => XS.iload X42.here hx rfl (hb hby at_215) rfl k) ?_
          show Goes _ _ _ _ (T42.setTop (mkF m 217 #[.val (.int p0), .val (.int p1), .val (.int p2), .val (.int p3), .val (.ref b1), .val (.ref b6), .val (.ref b9), .val (.int ji), .val (.int jj), .val (.int (3 : Int32)), .val (.int jl), .val (.ref b36), .val (.int (p1 &&& (3 : Int32))), .unset, .unset] [(.int (3 : Int32)), (.ref b9)]))
          have f79 : Arv Z T42.heap b9 k9 (.object "java/lang/Object") (4 : Int32) [.null, (.ref b12), (.ref b20), (.ref b28)] .null := (f37.keep K42 (ninS (Nat.ne_of_lt (Nat.lt_of_lt_of_le A9.lt (Nat.le_trans (Nat.le_trans (Nat.le_trans (Nat.le_trans (Nat.le_trans (Nat.le_trans (Nat.le_trans (Nat.le_trans (Nat.le_trans (Nat.le_trans (Nat.le_of_eq W11.size.symm) E12.1) K13.1) (Nat.le_of_eq W19.size.symm)) E20.1) K21.1) (Nat.le_of_eq W27.size.symm)) E28.1) K29.1) (Nat.le_of_eq W35.size.symm)) (Nat.le_of_eq g36.symm)))) nin0))
          obtain ⟨oc80, oA80, oq80, oS80, oM80, oH80, oG80⟩ := id f79
          refine Goes.st (fun t k => X42.aaload hx (j := (3 : Int32)) (v := (.ref b28)) oA80.1 (State.isArrayOf_alike hZ.alike oA80.2.1) rfl oA80.2.2 (inb_of oS80 ⟨by decide, by decide⟩) (oH80.at (inb_of oS80 ⟨by decide, by decide⟩) rfl) (g := (mkF m 217 #[.val (.int p0), .val (.int p1), .val (.int p2), .val (.int p3), .val (.ref b1), .val (.ref b6), .val (.ref b9), .val (.int ji), .val (.int jj), .val (.int (3 : Int32)), .val (.int jl), .val (.ref b36), .val (.int (p1 &&& (3 : Int32))), .unset, .unset] [(.int (3 : Int32)), (.ref b9)])) rfl rfl (hb hby at_217) _ k) ?_
          show Goes _ _ _ _ (T42.setTop (mkF m 218 #[.val (.int p0), .val (.int p1), .val (.int p2), .val (.int p3), .val (.ref b1), .val (.ref b6), .val (.ref b9), .val (.int ji), .val (.int jj), .val (.int (3 : Int32)), .val (.int jl), .val (.ref b36), .val (.int (p1 &&& (3 : Int32))), .unset, .unset] [(.ref b28)]))
          refine Goes.st (fun t k => XS.astore X42.here hx rfl (hb hby at_218) rfl rfl (l' := #[.val (.int p0), .val (.int p1), .val (.int p2), .val (.int p3), .val (.ref b1), .val (.ref b6), .val (.ref b9), .val (.int ji), .val (.int jj), .val (.int (3 : Int32)), .val (.int jl), .val (.ref b36), .val (.int (p1 &&& (3 : Int32))), .val (.ref b28), .unset]) rfl k) ?_
          show Goes _ _ _ _ (T42.setTop (mkF m 220 #[.val (.int p0), .val (.int p1), .val (.int p2), .val (.int p3), .val (.ref b1), .val (.ref b6), .val (.ref b9), .val (.int ji), .val (.int jj), .val (.int (3 : Int32)), .val (.int jl), .val (.ref b36), .val (.int (p1 &&& (3 : Int32))), .val (.ref b28), .unset] []))
          refine Goes.st (fun t k => XS.iconst X42.here hx rfl (hb hby at_220) k) ?_
          show Goes _ _ _ _ (T42.setTop (mkF m 221 #[.val (.int p0), .val (.int p1), .val (.int p2), .val (.int p3), .val (.ref b1), .val (.ref b6), .val (.ref b9), .val (.int ji), .val (.int jj), .val (.int (3 : Int32)), .val (.int jl), .val (.ref b36), .val (.int (p1 &&& (3 : Int32))), .val (.ref b28), .unset] [(.int (0 : Int32))]))
          refine Goes.st (fun t k => XS.istore X42.here hx rfl (hb hby at_221) rfl (l' := #[.val (.int p0), .val (.int p1), .val (.int p2), .val (.int p3), .val (.ref b1), .val (.ref b6), .val (.ref b9), .val (.int ji), .val (.int jj), .val (.int (3 : Int32)), .val (.int jl), .val (.ref b36), .val (.int (p1 &&& (3 : Int32))), .val (.ref b28), .val (.int (0 : Int32))]) rfl k) ?_
          show Goes _ _ _ _ (T42.setTop (mkF m 223 #[.val (.int p0), .val (.int p1), .val (.int p2), .val (.int p3), .val (.ref b1), .val (.ref b6), .val (.ref b9), .val (.int ji), .val (.int jj), .val (.int (3 : Int32)), .val (.int jl), .val (.ref b36), .val (.int (p1 &&& (3 : Int32))), .val (.ref b28), .val (.int (0 : Int32))] []))
          refine Goes.st (fun t k => XS.goto X42.here hx rfl (pc0 := 223) (pc' := 233) rfl (hb hby at_223) (by decide) (by decide) k) ?_
          show Goes _ _ _ _ (T42.setTop (mkF m 233 #[.val (.int p0), .val (.int p1), .val (.int p2), .val (.int p3), .val (.ref b1), .val (.ref b6), .val (.ref b9), .val (.int ji), .val (.int jj), .val (.int (3 : Int32)), .val (.int jl), .val (.ref b36), .val (.int (p1 &&& (3 : Int32))), .val (.ref b28), .val (.int (0 : Int32))] []))
          refine Goes.st (fun t k => XS.aload X42.here hx rfl (hb hby at_233) rfl rfl k) ?_
          show Goes _ _ _ _ (T42.setTop (mkF m 235 #[.val (.int p0), .val (.int p1), .val (.int p2), .val (.int p3), .val (.ref b1), .val (.ref b6), .val (.ref b9), .val (.int ji), .val (.int jj), .val (.int (3 : Int32)), .val (.int jl), .val (.ref b36), .val (.int (p1 &&& (3 : Int32))), .val (.ref b28), .val (.int (0 : Int32))] [(.ref b36)]))
          refine Goes.st (fun t k => XS.aload X42.here hx rfl (hb hby at_235) rfl rfl k) ?_
          show Goes _ _ _ _ (T42.setTop (mkF m 237 #[.val (.int p0), .val (.int p1), .val (.int p2), .val (.int p3), .val (.ref b1), .val (.ref b6), .val (.ref b9), .val (.int ji), .val (.int jj), .val (.int (3 : Int32)), .val (.int jl), .val (.ref b36), .val (.int (p1 &&& (3 : Int32))), .val (.ref b28), .val (.int (0 : Int32))] [(.ref b28), (.ref b36)]))
          have f82 : Exa Z T42.heap b28 "java/lang/String" := (((Ex29.wr W35).ext E36).keep K42)
          obtain ⟨cq81, kq81, q81a, q81b, q81c⟩ := isOf hZ rfl F42_0
          obtain ⟨_, _, ⟨T81, L81, k81, n81⟩, -, X81, ⟨Lc81, hQ81, l81, y81, z81⟩, st81⟩ := X42.virtualBack hx (y := (⟨"com/example/warrant/warrant/util/IdentityPair", "equals", "(Ljava/lang/Object;)Z"⟩ : MethodName)) (z := (⟨"com/example/warrant/warrant/util/IdentityPair", "equals", "(Ljava/lang/Object;)Z"⟩ : MethodName)) hown (mvT hZ (hw49 hw)) (mvT hZ (hw50 hw)) (notFace_of_selects (args := #[]) (mvT hZ (hw52 hw))) (mvT hZ (hw52 hw)) (mvT hZ (hw51 hw)) (by decide) (backOf (W := 0) (rm_eqS l Z a0 hw [] b36 b28 T42.heap n0 (Nat.le_trans Z0 (Nat.le_trans (Nat.le_trans (Nat.le_trans (Nat.le_trans (Nat.le_trans (Nat.le_trans (Nat.le_trans (Nat.le_trans (Nat.le_trans (Nat.le_trans (Nat.le_trans (Nat.le_trans (Nat.le_trans (Nat.le_trans (Nat.le_trans (Nat.le_trans (Nat.le_trans E1.1 (Nat.le_of_eq W3.size.symm)) (Nat.le_of_eq W5.size.symm)) E6.1) (Nat.le_of_eq W8.size.symm)) E9.1) (Nat.le_of_eq W11.size.symm)) E12.1) K13.1) (Nat.le_of_eq W19.size.symm)) E20.1) K21.1) (Nat.le_of_eq W27.size.symm)) E28.1) K29.1) (Nat.le_of_eq W35.size.symm)) E36.1) K42.1)) f82) hZ (hw53 hw) (hw35 hw) (by decide) (by decide)) q81a q81c (g := (mkF m 237 #[.val (.int p0), .val (.int p1), .val (.int p2), .val (.int p3), .val (.ref b1), .val (.ref b6), .val (.ref b9), .val (.int ji), .val (.int jj), .val (.int (3 : Int32)), .val (.int jl), .val (.ref b36), .val (.int (p1 &&& (3 : Int32))), .val (.ref b28), .val (.int (0 : Int32))] [(.ref b28), (.ref b36)])) rfl (by rw [hml]; rfl) (Steps.refl _) (argsL := [(.ref b28)]) (rest := []) (lenOf pd_3 rfl) rfl (by show 2 * 0 + _ ≤ _; exact Nat.le_of_eq rfl) (hb hby at_237) (fun _ _ => ⟨rfl, rfl, (by decide : 10 + 0 ≤ _), (by decide : 26 + 0 ≤ _)⟩)
          dsimp only [Pt.U, Pt.locs, Pt.cells, Pt.slots] at X81 l81 y81 z81 st81 hQ81
          subst l81 y81 z81
          obtain ⟨rfl, N81q, K81⟩ := hQ81
          have N81 := Fr.app N42 N81q
          refine Goes.tr st81 ?_
          show Goes _ _ _ _ (T81.setTop (mkF m 240 #[.val (.int p0), .val (.int p1), .val (.int p2), .val (.int p3), .val (.ref b1), .val (.ref b6), .val (.ref b9), .val (.int ji), .val (.int jj), .val (.int (3 : Int32)), .val (.int jl), .val (.ref b36), .val (.int (p1 &&& (3 : Int32))), .val (.ref b28), .val (.int (0 : Int32))] [(.int (0 : Int32))]))
          refine Goes.st (fun t k => XS.iload X81.here hx rfl (hb hby at_240) rfl k) ?_
          show Goes _ _ _ _ (T81.setTop (mkF m 242 #[.val (.int p0), .val (.int p1), .val (.int p2), .val (.int p3), .val (.ref b1), .val (.ref b6), .val (.ref b9), .val (.int ji), .val (.int jj), .val (.int (3 : Int32)), .val (.int jl), .val (.ref b36), .val (.int (p1 &&& (3 : Int32))), .val (.ref b28), .val (.int (0 : Int32))] [(.int (0 : Int32)), (.int (0 : Int32))]))
          refine Goes.st (fun t k => XS.icmpNo X81.here hx rfl (hb hby at_242) rfl (teq (by decide)).2 k) ?_
          show Goes _ _ _ _ (T81.setTop (mkF m 245 #[.val (.int p0), .val (.int p1), .val (.int p2), .val (.int p3), .val (.ref b1), .val (.ref b6), .val (.ref b9), .val (.int ji), .val (.int jj), .val (.int (3 : Int32)), .val (.int jl), .val (.ref b36), .val (.int (p1 &&& (3 : Int32))), .val (.ref b28), .val (.int (0 : Int32))] []))
          refine Goes.st (fun t k => XS.iconst X81.here hx rfl (hb hby at_245) k) ?_
          show Goes _ _ _ _ (T81.setTop (mkF m 246 #[.val (.int p0), .val (.int p1), .val (.int p2), .val (.int p3), .val (.ref b1), .val (.ref b6), .val (.ref b9), .val (.int ji), .val (.int jj), .val (.int (3 : Int32)), .val (.int jl), .val (.ref b36), .val (.int (p1 &&& (3 : Int32))), .val (.ref b28), .val (.int (0 : Int32))] [(.int (1 : Int32))]))
          refine Goes.st (fun t k => XS.goto X81.here hx rfl (pc0 := 246) (pc' := 250) rfl (hb hby at_246) (by decide) (by decide) k) ?_
          show Goes _ _ _ _ (T81.setTop (mkF m 250 #[.val (.int p0), .val (.int p1), .val (.int p2), .val (.int p3), .val (.ref b1), .val (.ref b6), .val (.ref b9), .val (.int ji), .val (.int jj), .val (.int (3 : Int32)), .val (.int jl), .val (.ref b36), .val (.int (p1 &&& (3 : Int32))), .val (.ref b28), .val (.int (0 : Int32))] [(.int (1 : Int32))]))
          obtain ⟨fs, hr, hrun, hended, hW, hsame⟩ := X81.leave (v := some (.int (1 : Int32))) (fun h => by rw [Bd.returns] at h; cases h)
          subst hQQ
          refine ⟨_, _, retN X81 hx (t := .boolean) Bd.returns (by simp) (hb hby at_250) hr, hrun, hended, _, _, rfl, ?_, ⟨_, rfl⟩, hW, hsame.mono (by decide) (by decide)⟩
          show Q_law Z p0 p1 p2 p3 G1 h0 n0 _ T81.heap _
          rw [K81]
          exact ⟨rfl, N81⟩
      case neg =>
        refine Goes.st (fun t k => XS.icmpYes X42.here hx rfl (pc0 := 210) (pc' := 226) rfl (hb hby at_210) rfl (feq c67).2 (by decide) (by decide) k) ?_
        show Goes _ _ _ _ (T42.setTop (mkF m 226 #[.val (.int p0), .val (.int p1), .val (.int p2), .val (.int p3), .val (.ref b1), .val (.ref b6), .val (.ref b9), .val (.int ji), .val (.int jj), .val (.int jk), .val (.int jl), .val (.ref b36), .val (.int (p1 &&& (3 : Int32))), .unset, .unset] []))
        refine Goes.st (fun t k => XS.aload X42.here hx rfl (hb hby at_226) rfl rfl k) ?_
        show Goes _ _ _ _ (T42.setTop (mkF m 228 #[.val (.int p0), .val (.int p1), .val (.int p2), .val (.int p3), .val (.ref b1), .val (.ref b6), .val (.ref b9), .val (.int ji), .val (.int jj), .val (.int jk), .val (.int jl), .val (.ref b36), .val (.int (p1 &&& (3 : Int32))), .unset, .unset] [(.ref b36)]))
        refine Goes.st (fun t k => XS.astore X42.here hx rfl (hb hby at_228) rfl rfl (l' := #[.val (.int p0), .val (.int p1), .val (.int p2), .val (.int p3), .val (.ref b1), .val (.ref b6), .val (.ref b9), .val (.int ji), .val (.int jj), .val (.int jk), .val (.int jl), .val (.ref b36), .val (.int (p1 &&& (3 : Int32))), .val (.ref b36), .unset]) rfl k) ?_
        show Goes _ _ _ _ (T42.setTop (mkF m 230 #[.val (.int p0), .val (.int p1), .val (.int p2), .val (.int p3), .val (.ref b1), .val (.ref b6), .val (.ref b9), .val (.int ji), .val (.int jj), .val (.int jk), .val (.int jl), .val (.ref b36), .val (.int (p1 &&& (3 : Int32))), .val (.ref b36), .unset] []))
        refine Goes.st (fun t k => XS.iconst X42.here hx rfl (hb hby at_230) k) ?_
        show Goes _ _ _ _ (T42.setTop (mkF m 231 #[.val (.int p0), .val (.int p1), .val (.int p2), .val (.int p3), .val (.ref b1), .val (.ref b6), .val (.ref b9), .val (.int ji), .val (.int jj), .val (.int jk), .val (.int jl), .val (.ref b36), .val (.int (p1 &&& (3 : Int32))), .val (.ref b36), .unset] [(.int (1 : Int32))]))
        refine Goes.st (fun t k => XS.istore X42.here hx rfl (hb hby at_231) rfl (l' := #[.val (.int p0), .val (.int p1), .val (.int p2), .val (.int p3), .val (.ref b1), .val (.ref b6), .val (.ref b9), .val (.int ji), .val (.int jj), .val (.int jk), .val (.int jl), .val (.ref b36), .val (.int (p1 &&& (3 : Int32))), .val (.ref b36), .val (.int (1 : Int32))]) rfl k) ?_
        show Goes _ _ _ _ (T42.setTop (mkF m 233 #[.val (.int p0), .val (.int p1), .val (.int p2), .val (.int p3), .val (.ref b1), .val (.ref b6), .val (.ref b9), .val (.int ji), .val (.int jj), .val (.int jk), .val (.int jl), .val (.ref b36), .val (.int (p1 &&& (3 : Int32))), .val (.ref b36), .val (.int (1 : Int32))] []))
        refine Goes.st (fun t k => XS.aload X42.here hx rfl (hb hby at_233) rfl rfl k) ?_
        show Goes _ _ _ _ (T42.setTop (mkF m 235 #[.val (.int p0), .val (.int p1), .val (.int p2), .val (.int p3), .val (.ref b1), .val (.ref b6), .val (.ref b9), .val (.int ji), .val (.int jj), .val (.int jk), .val (.int jl), .val (.ref b36), .val (.int (p1 &&& (3 : Int32))), .val (.ref b36), .val (.int (1 : Int32))] [(.ref b36)]))
        refine Goes.st (fun t k => XS.aload X42.here hx rfl (hb hby at_235) rfl rfl k) ?_
        show Goes _ _ _ _ (T42.setTop (mkF m 237 #[.val (.int p0), .val (.int p1), .val (.int p2), .val (.int p3), .val (.ref b1), .val (.ref b6), .val (.ref b9), .val (.int ji), .val (.int jj), .val (.int jk), .val (.int jl), .val (.ref b36), .val (.int (p1 &&& (3 : Int32))), .val (.ref b36), .val (.int (1 : Int32))] [(.ref b36), (.ref b36)]))
        obtain ⟨cq83, kq83, q83a, q83b, q83c⟩ := isOf hZ rfl F42_0
        obtain ⟨_, _, ⟨T83, L83, k83, n83⟩, -, X83, ⟨Lc83, hQ83, l83, y83, z83⟩, st83⟩ := X42.virtualBack hx (y := (⟨"com/example/warrant/warrant/util/IdentityPair", "equals", "(Ljava/lang/Object;)Z"⟩ : MethodName)) (z := (⟨"com/example/warrant/warrant/util/IdentityPair", "equals", "(Ljava/lang/Object;)Z"⟩ : MethodName)) hown (mvT hZ (hw49 hw)) (mvT hZ (hw50 hw)) (notFace_of_selects (args := #[]) (mvT hZ (hw52 hw))) (mvT hZ (hw52 hw)) (mvT hZ (hw51 hw)) (by decide) (backOf (W := 0) (rm_eqP l Z a0 hw [] b36 b36 v39 v41 v39 v41 T42.heap n0 (Nat.le_trans Z0 (Nat.le_trans (Nat.le_trans (Nat.le_trans (Nat.le_trans (Nat.le_trans (Nat.le_trans (Nat.le_trans (Nat.le_trans (Nat.le_trans (Nat.le_trans (Nat.le_trans (Nat.le_trans (Nat.le_trans (Nat.le_trans (Nat.le_trans (Nat.le_trans (Nat.le_trans E1.1 (Nat.le_of_eq W3.size.symm)) (Nat.le_of_eq W5.size.symm)) E6.1) (Nat.le_of_eq W8.size.symm)) E9.1) (Nat.le_of_eq W11.size.symm)) E12.1) K13.1) (Nat.le_of_eq W19.size.symm)) E20.1) K21.1) (Nat.le_of_eq W27.size.symm)) E28.1) K29.1) (Nat.le_of_eq W35.size.symm)) E36.1) K42.1)) F42_0 F42_1 F42_2 F42_1 F42_2 rv39 rv41 rv39 rv41) hZ (hw53 hw) (hw35 hw) (by decide) (by decide)) q83a q83c (g := (mkF m 237 #[.val (.int p0), .val (.int p1), .val (.int p2), .val (.int p3), .val (.ref b1), .val (.ref b6), .val (.ref b9), .val (.int ji), .val (.int jj), .val (.int jk), .val (.int jl), .val (.ref b36), .val (.int (p1 &&& (3 : Int32))), .val (.ref b36), .val (.int (1 : Int32))] [(.ref b36), (.ref b36)])) rfl (by rw [hml]; rfl) (Steps.refl _) (argsL := [(.ref b36)]) (rest := []) (lenOf pd_3 rfl) rfl (by show 2 * 0 + _ ≤ _; exact Nat.le_of_eq rfl) (hb hby at_237) (fun _ _ => ⟨rfl, rfl, (by decide : 10 + 0 ≤ _), (by decide : 26 + 0 ≤ _)⟩)
        dsimp only [Pt.U, Pt.locs, Pt.cells, Pt.slots] at X83 l83 y83 z83 st83 hQ83
        subst l83 y83 z83
        obtain ⟨rfl, N83q, K83⟩ := hQ83
        have N83 := Fr.app N42 N83q
        refine Goes.tr st83 ?_
        show Goes _ _ _ _ (T83.setTop (mkF m 240 #[.val (.int p0), .val (.int p1), .val (.int p2), .val (.int p3), .val (.ref b1), .val (.ref b6), .val (.ref b9), .val (.int ji), .val (.int jj), .val (.int jk), .val (.int jl), .val (.ref b36), .val (.int (p1 &&& (3 : Int32))), .val (.ref b36), .val (.int (1 : Int32))] [(.int (if v39 = v39 ∧ v41 = v41 then (1 : Int32) else 0))]))
        refine Goes.st (fun t k => XS.iload X83.here hx rfl (hb hby at_240) rfl k) ?_
        show Goes _ _ _ _ (T83.setTop (mkF m 242 #[.val (.int p0), .val (.int p1), .val (.int p2), .val (.int p3), .val (.ref b1), .val (.ref b6), .val (.ref b9), .val (.int ji), .val (.int jj), .val (.int jk), .val (.int jl), .val (.ref b36), .val (.int (p1 &&& (3 : Int32))), .val (.ref b36), .val (.int (1 : Int32))] [(.int (1 : Int32)), (.int (if v39 = v39 ∧ v41 = v41 then (1 : Int32) else 0))]))
        refine Goes.st (fun t k => XS.icmpNo X83.here hx rfl (hb hby at_242) rfl (teq (if_pos ⟨rfl, rfl⟩)).2 k) ?_
        show Goes _ _ _ _ (T83.setTop (mkF m 245 #[.val (.int p0), .val (.int p1), .val (.int p2), .val (.int p3), .val (.ref b1), .val (.ref b6), .val (.ref b9), .val (.int ji), .val (.int jj), .val (.int jk), .val (.int jl), .val (.ref b36), .val (.int (p1 &&& (3 : Int32))), .val (.ref b36), .val (.int (1 : Int32))] []))
        refine Goes.st (fun t k => XS.iconst X83.here hx rfl (hb hby at_245) k) ?_
        show Goes _ _ _ _ (T83.setTop (mkF m 246 #[.val (.int p0), .val (.int p1), .val (.int p2), .val (.int p3), .val (.ref b1), .val (.ref b6), .val (.ref b9), .val (.int ji), .val (.int jj), .val (.int jk), .val (.int jl), .val (.ref b36), .val (.int (p1 &&& (3 : Int32))), .val (.ref b36), .val (.int (1 : Int32))] [(.int (1 : Int32))]))
        refine Goes.st (fun t k => XS.goto X83.here hx rfl (pc0 := 246) (pc' := 250) rfl (hb hby at_246) (by decide) (by decide) k) ?_
        show Goes _ _ _ _ (T83.setTop (mkF m 250 #[.val (.int p0), .val (.int p1), .val (.int p2), .val (.int p3), .val (.ref b1), .val (.ref b6), .val (.ref b9), .val (.int ji), .val (.int jj), .val (.int jk), .val (.int jl), .val (.ref b36), .val (.int (p1 &&& (3 : Int32))), .val (.ref b36), .val (.int (1 : Int32))] [(.int (1 : Int32))]))
        obtain ⟨fs, hr, hrun, hended, hW, hsame⟩ := X83.leave (v := some (.int (1 : Int32))) (fun h => by rw [Bd.returns] at h; cases h)
        subst hQQ
        refine ⟨_, _, retN X83 hx (t := .boolean) Bd.returns (by simp) (hb hby at_250) hr, hrun, hended, _, _, rfl, ?_, ⟨_, rfl⟩, hW, hsame.mono (by decide) (by decide)⟩
        show Q_law Z p0 p1 p2 p3 G1 h0 n0 _ T83.heap _
        rw [K83]
        exact ⟨rfl, N83⟩
set_option maxRecDepth 65536 in
set_option maxHeartbeats 40000000 in
theorem comes_1 {Post : Tables → Env → Array Value → State → Outcome → State → Prop} (hpost : ∀ tb e args s v u, (limb_1_1.after args s (.returned v) u = true ∧ limb_1_2.after args s (.returned v) u = true ∧ True) → FrameEnd s (.returned v) u (Jvm.fieldLocs frame_1_writes args s ++ Jvm.arrayLocs frame_1_arrays args s ++ Jvm.staticLocs frame_1_statics s) 32 128 → Post tb e args s (.returned v) u) :
    ArmFor flags0 classFile x code maxLocals ret World_1 tables_1 room_1 Calls_1 rest_1 Pre_1 Post := by
  intro l hfl _ _ p e ha hc hk s m args below hf hA hF happ hP
  obtain ⟨hcalls, hrest, hpre⟩ := hP
  obtain ⟨-, -, -, hnamed, -, -, -, hat⟩ := (Spec.applies_iff hf).mp happ
  obtain ⟨hg, hn⟩ := and_e (Cond.before_iff.mp (show (Jvm.Cond.and given_1 narrow_1).before args s = true from hpre))
  obtain ⟨gc, gr0⟩ := and_e hg
  obtain ⟨ga0, gr1⟩ := and_e gr0
  obtain ⟨ga1, gr2⟩ := and_e gr1
  obtain ⟨ga2, gr3⟩ := and_e gr2
  obtain ⟨w0, w1, w2, w3, rfl⟩ : ∃ w0 w1 w2 w3 : Value, args = #[w0, w1, w2, w3] := by
    have hs : args.size = 4 := by simpa [Cond.value, given_1] using gc
    obtain ⟨L⟩ := args
    match L, hs with
    | [w0, w1, w2, w3], _ => exact ⟨w0, w1, w2, w3, rfl⟩
  have hw := fun d (hd : d ∈ tables_1) => atoms_spec (ws := Jvm.Cond.code x code maxLocals ret :: tables_1) hat d (List.mem_cons_of_mem _ hd)
  obtain ⟨hsets, hown0⟩ := atoms_of _ (rest_1_c_eq ▸ (show rest_1_c.before _ s = true from hrest))
  have n5 := not_v (Cond.before_iff.mp (hsets _ (List.mem_of_getElem? (i := 2) rfl)))
  obtain ⟨i0, ei0⟩ := is_v ga0
  obtain rfl : w0 = (.int i0) := Option.some.inj ei0
  obtain ⟨i1, ei1⟩ := is_v ga1
  obtain rfl : w1 = (.int i1) := Option.some.inj ei1
  obtain ⟨i2, ei2⟩ := is_v ga2
  obtain rfl : w2 = (.int i2) := Option.some.inj ei2
  obtain ⟨i3, ei3⟩ := is_v gr3
  obtain rfl : w3 = (.int i3) := Option.some.inj ei3
  obtain ⟨iG, eG⟩ := is_v (Cond.before_iff.mp (hsets _ (List.mem_of_getElem? (i := 1) rfl)))
  have SG : Sta s s.heap "java/lang/String" "COMPACT_STRINGS" "Z" (.int iG) := Sta.start eG (Or.inl (hsets _ (List.mem_of_getElem? (i := 0) rfl)))
  have cG : ¬ (iG = (0 : Int32)) := gotF (Cond.eq_ints eG (Term.int_eval (0))) n5
  obtain ⟨n, o, h1, h2, h3, _, L, rfl, ⟨rfl, N⟩, hq⟩ := rm_law l s _ hw tables_1 i0 i1 i2 i3 iG s.heap s.heap.size (Nat.le_refl _) (Old.start s) SG cG p e ha hc hk s m _ below hf ((Spec.applies_iff_loose hf).mp happ).1 ⟨rfl, State.Warmed39.refl s, rfl⟩ trivial
  refine ⟨n, _, h1, h2, h3, hpost _ _ _ _ _ _ ⟨Cond.after_iff.mpr rfl, Cond.after_iff.mpr (eq_i res_at (Term.int_eval (1)) rfl), trivial⟩ ⟨hq.1, hq.2.1, (hq.2.2.sift fun y hy => Or.inr (N y hy)).mono (by decide) (by decide)⟩⟩
theorem main_1_1 : Claimed_1_1 := comes_1 fun _ _ _ _ _ _ h hF => ⟨h.1, hF⟩
theorem main_1_2 : Claimed_1_2 := comes_1 fun _ _ _ _ _ _ h hF => ⟨h.2.1, hF⟩
end Jvm.Pilot.@@N@@
namespace Jvm.Pilot.@@N@@
open Jvm Jvm.ClassFile Sem Op Lib Jvm.Free Jvm.Stand Jvm.Pilot.@@N@@.Jvm.D
/-! MADE BY PROGRAM (witnessworld.py) out of the Statement's table words and the real class files: 22 classes; the members and pool entries that the words name. The judged class is class 1, her method 1. -/
namespace start1
open Jvm.ClassFile
def u (s : String) : CpInfo := .utf8 (stringToUtf16 s)
/-- a pool by its gaps: so many unusable entries, then the entry; so many at the end -/
def gap : Nat → List CpInfo → List CpInfo
  | 0, r => r
  | n + 1, r => .unusable :: gap n r
def poolList (es : List (Nat × CpInfo)) (last : Nat) : List CpInfo := es.foldr (fun e r => gap e.1 (e.2 :: r)) (gap last [])
def pool (es : List (Nat × CpInfo)) (last : Nat) : Array CpInfo := ⟨poolList es last⟩
def fileOf (pool : Array CpInfo) (this : Nat) (attrs : Array Attribute := #[]) (ms : Array MethodInfo := #[]) (fl : Nat := 33) (sup : Nat := 0) (ifs : Array Nat := #[]) (fds : Array FieldInfo := #[]) : ClassFile where
  minorVersion := 0
  majorVersion := 65
  constantPool := pool
  accessFlags := fl
  thisClass := this
  superClass := sup
  interfaces := ifs
  fields := fds
  methods := ms
  attributes := attrs
def plain (name : String) (sup : Option ClassId) : Class where
  name := name
  kind := .ordinary
  loader := none
  accessFlags := 33
  super := sup
  interfaces := #[]
  cf := none
  fields := #[]
  methods := #[]
  instanceTypes := #[]
  staticTypes := #[]
  resolved := #[]
  callSites := []
  init := .initialized
  statics := none
  mirror := none

def pool0 : Array CpInfo := pool [(5, u "<init>"), (0, u "()V"), (1, .class_ 10), (1, u "java/lang/Object")] 113

def k0c0 : Code := { maxStack := 0, maxLocals := 1, code := object_method_1_code, exceptionTable := #[], attributes := #[] }
def k0m0 : Method := { name := "<init>", desc := "()V", sig := { parameters := [], returnType := none }, accessFlags := 1, code := some k0c0 }
/-- java/lang/Object -/
def k0 : Class := { plain "java/lang/Object" none with
  accessFlags := 33
  interfaces := #[]
  cf := some (fileOf pool0 8 #[] #[{ accessFlags := 1, nameIndex := 5, descriptorIndex := 6, attributes := #[] }] 33 0 #[] #[])
  fields := #[]
  methods := #[k0m0]
  instanceTypes := #[]
  staticTypes := #[]
  resolved := Array.replicate 124 none
  statics := none }

def pool1 : Array CpInfo := pool [(2, .class_ 4), (1, u "java/lang/Object"), (0, u "<init>"), (0, u "()V"), (0, .class_ 8), (0, u "java/lang/String"), (0, .methodref 7 10), (0, .nameAndType 5 11), (0, u "([C)V"), (0, .class_ 13), (0, u "com/example/warrant/warrant/util/IdentityPair"), (0, .methodref 12 15), (0, .nameAndType 5 16), (0, u "(Ljava/lang/Object;Ljava/lang/Object;)V"), (0, .methodref 12 18), (0, .nameAndType 19 20), (0, u "equals"), (0, u "(Ljava/lang/Object;)Z"), (0, .class_ 22), (0, u "com/example/warrant/warrant/util/IdentityPairEqualsPinLaw"), (2, u "law"), (0, u "(IIII)Z")] 7

def k1m0 : Method := { name := "<init>", desc := "()V", sig := { parameters := [], returnType := none }, accessFlags := 1, code := none }
def k1c1 : Code := { maxStack := 5, maxLocals := 15, code := code, exceptionTable := #[], attributes := #[] }
def k1m1 : Method := { name := "law", desc := "(IIII)Z", sig := { parameters := [.int, .int, .int, .int], returnType := some .boolean }, accessFlags := 9, code := some k1c1 }
/-- com/example/warrant/warrant/util/IdentityPairEqualsPinLaw -/
def k1 : Class := { plain "com/example/warrant/warrant/util/IdentityPairEqualsPinLaw" (some 0) with
  accessFlags := 49
  interfaces := #[]
  cf := some (fileOf pool1 21 #[] #[{ accessFlags := 1, nameIndex := 5, descriptorIndex := 6, attributes := #[] }, { accessFlags := 9, nameIndex := 25, descriptorIndex := 26, attributes := #[] }] 49 2 #[] #[])
  fields := #[]
  methods := #[k1m0, k1m1]
  instanceTypes := #[]
  staticTypes := #[]
  resolved := Array.replicate 34 none
  statics := none }

def pool2 : Array CpInfo := pool [(1, .class_ 2), (0, u "java/io/Serializable"), (0, .class_ 4), (0, u "java/lang/Object")] 2

/-- java/io/Serializable -/
def k2 : Class := { plain "java/io/Serializable" (some 0) with
  accessFlags := 1537
  interfaces := #[]
  cf := some (fileOf pool2 1 #[] #[] 1537 3 #[] #[])
  fields := #[]
  methods := #[]
  instanceTypes := #[]
  staticTypes := #[]
  resolved := Array.replicate 7 none
  statics := none }

def pool3 : Array CpInfo := pool [(1, .class_ 2), (0, u "java/lang/Comparable"), (0, .class_ 4), (0, u "java/lang/Object")] 7

/-- java/lang/Comparable -/
def k3 : Class := { plain "java/lang/Comparable" (some 0) with
  accessFlags := 1537
  interfaces := #[]
  cf := some (fileOf pool3 1 #[] #[] 1537 3 #[] #[])
  fields := #[]
  methods := #[]
  instanceTypes := #[]
  staticTypes := #[]
  resolved := Array.replicate 12 none
  statics := none }

def pool4 : Array CpInfo := pool [(2, .class_ 4), (1, u "java/lang/CharSequence"), (42, .class_ 48), (0, u "java/lang/CharSequence$1CodePointIterator"), (10, .class_ 60), (0, u "java/lang/CharSequence$1CharIterator"), (5, .class_ 67), (0, u "java/lang/Object")] 63

/-- java/lang/CharSequence -/
def k4 : Class := { plain "java/lang/CharSequence" (some 0) with
  accessFlags := 1537
  interfaces := #[]
  cf := some (fileOf pool4 2 #[.nestMembers #[47, 59]] #[] 1537 66 #[] #[])
  fields := #[]
  methods := #[]
  instanceTypes := #[]
  staticTypes := #[]
  resolved := Array.replicate 131 none
  statics := none }

def pool5 : Array CpInfo := pool [(1, .class_ 2), (0, u "java/lang/constant/Constable"), (0, .class_ 4), (0, u "java/lang/Object")] 6

/-- java/lang/constant/Constable -/
def k5 : Class := { plain "java/lang/constant/Constable" (some 0) with
  accessFlags := 1537
  interfaces := #[]
  cf := some (fileOf pool5 1 #[] #[] 1537 3 #[] #[])
  fields := #[]
  methods := #[]
  instanceTypes := #[]
  staticTypes := #[]
  resolved := Array.replicate 11 none
  statics := none }

def pool6 : Array CpInfo := pool [(1, .class_ 2), (0, u "java/lang/constant/ConstantDesc"), (0, .class_ 4), (0, u "java/lang/Object")] 32

/-- java/lang/constant/ConstantDesc -/
def k6 : Class := { plain "java/lang/constant/ConstantDesc" (some 0) with
  accessFlags := 1537
  interfaces := #[]
  cf := some (fileOf pool6 1 #[] #[] 1537 3 #[] #[])
  fields := #[]
  methods := #[]
  instanceTypes := #[]
  staticTypes := #[]
  resolved := Array.replicate 37 none
  statics := none }

def pool7 : Array CpInfo := pool [(1, .methodref 2 3), (0, .class_ 4), (0, .nameAndType 5 6), (0, u "java/lang/Object"), (0, u "<init>"), (0, u "()V"), (2, .fieldref 10 11), (0, .class_ 12), (0, .nameAndType 13 14), (0, u "java/lang/String"), (0, u "value"), (0, u "[B"), (0, .fieldref 10 16), (0, .nameAndType 17 18), (0, u "coder"), (0, u "B"), (2, u "hash"), (0, u "I"), (2, u "hashIsZero"), (0, u "Z"), (0, .methodref 10 28), (0, .nameAndType 5 29), (0, u "([CIILjava/lang/Void;)V"), (8, .fieldref 10 39), (0, .nameAndType 40 26), (0, u "COMPACT_STRINGS"), (1, .class_ 44), (1, u "java/lang/StringUTF16"), (0, u "compress"), (1, .methodref 42 48), (0, .nameAndType 49 50), (0, u "coderFromArrayLen"), (0, u "([BI)B"), (126, .methodref 42 178), (0, .nameAndType 45 179), (0, u "([CII)[B"), (395, .class_ 576), (0, u "java/lang/CharSequence"), (22, u "CASE_INSENSITIVE_ORDER"), (0, u "Ljava/util/Comparator;"), (409, u "([C)V"), (90, u "serialPersistentFields"), (0, u "[Ljava/io/ObjectStreamField;"), (0, .class_ 1104), (0, u "java/lang/String$CaseInsensitiveComparator"), (1, .class_ 1107), (0, u "java/io/Serializable"), (0, .class_ 1109), (0, u "java/lang/Comparable"), (0, .class_ 1111), (0, u "java/lang/constant/Constable"), (0, .class_ 1113), (0, u "java/lang/constant/ConstantDesc"), (2, u "serialVersionUID"), (0, u "J"), (3, u "REPL"), (0, u "C"), (2, u "LATIN1"), (1, u "UTF16")] 323

def k7m0 : Method := { name := "<init>", desc := "()V", sig := { parameters := [], returnType := none }, accessFlags := 1, code := none }
def k7c1 : Code := { maxStack := 5, maxLocals := 2, code := jdk_42_method_3_code, exceptionTable := #[], attributes := #[] }
def k7m1 : Method := { name := "<init>", desc := "([C)V", sig := { parameters := [(.array .char)], returnType := none }, accessFlags := 1, code := some k7c1 }
def k7c2 : Code := { maxStack := 4, maxLocals := 6, code := jdk_42_method_149_code, exceptionTable := #[], attributes := #[] }
def k7m2 : Method := { name := "<init>", desc := "([CIILjava/lang/Void;)V", sig := { parameters := [(.array .char), .int, .int, (.object "java/lang/Void")], returnType := none }, accessFlags := 2, code := some k7c2 }
/-- java/lang/String -/
def k7 : Class := { plain "java/lang/String" (some 0) with
  accessFlags := 49
  interfaces := #[2, 3, 4, 5, 6]
  cf := some (fileOf pool7 10 #[.nestMembers #[1103]] #[{ accessFlags := 1, nameIndex := 5, descriptorIndex := 6, attributes := #[] }, { accessFlags := 1, nameIndex := 5, descriptorIndex := 1010, attributes := #[] }, { accessFlags := 2, nameIndex := 5, descriptorIndex := 29, attributes := #[] }] 49 2 #[1106, 1108, 575, 1110, 1112] #[{ accessFlags := 18, nameIndex := 13, descriptorIndex := 14, attributes := #[] }, { accessFlags := 18, nameIndex := 17, descriptorIndex := 18, attributes := #[] }, { accessFlags := 2, nameIndex := 21, descriptorIndex := 22, attributes := #[] }, { accessFlags := 2, nameIndex := 25, descriptorIndex := 26, attributes := #[] }, { accessFlags := 26, nameIndex := 1116, descriptorIndex := 1117, attributes := #[] }, { accessFlags := 24, nameIndex := 40, descriptorIndex := 26, attributes := #[] }, { accessFlags := 26, nameIndex := 1101, descriptorIndex := 1102, attributes := #[] }, { accessFlags := 26, nameIndex := 1121, descriptorIndex := 1122, attributes := #[] }, { accessFlags := 25, nameIndex := 599, descriptorIndex := 600, attributes := #[] }, { accessFlags := 24, nameIndex := 1125, descriptorIndex := 18, attributes := #[] }, { accessFlags := 24, nameIndex := 1127, descriptorIndex := 18, attributes := #[] }])
  fields := #[{ name := "value", type := (.array .byte), accessFlags := 18, slot := 0, constantValue := 0 }, { name := "coder", type := .byte, accessFlags := 18, slot := 1, constantValue := 0 }, { name := "hash", type := .int, accessFlags := 2, slot := 2, constantValue := 0 }, { name := "hashIsZero", type := .boolean, accessFlags := 2, slot := 3, constantValue := 0 }, { name := "serialVersionUID", type := .long, accessFlags := 26, slot := 0, constantValue := 0 }, { name := "COMPACT_STRINGS", type := .boolean, accessFlags := 24, slot := 1, constantValue := 0 }, { name := "serialPersistentFields", type := (.array (.object "java/io/ObjectStreamField")), accessFlags := 26, slot := 2, constantValue := 0 }, { name := "REPL", type := .char, accessFlags := 26, slot := 3, constantValue := 0 }, { name := "CASE_INSENSITIVE_ORDER", type := (.object "java/util/Comparator"), accessFlags := 25, slot := 4, constantValue := 0 }, { name := "LATIN1", type := .byte, accessFlags := 24, slot := 5, constantValue := 0 }, { name := "UTF16", type := .byte, accessFlags := 24, slot := 6, constantValue := 0 }]
  methods := #[k7m0, k7m1, k7m2]
  instanceTypes := #[(.array .byte), .byte, .int, .boolean]
  staticTypes := #[.long, .boolean, (.array (.object "java/io/ObjectStreamField")), .char, (.object "java/util/Comparator"), .byte, .byte]
  resolved := Array.replicate 1451 none
  statics := some 0 }

def pool8 : Array CpInfo := pool [(6, .class_ 8), (1, u "java/lang/Object"), (0, u "<init>"), (0, u "()V"), (1, .class_ 14), (1, u "java/lang/StringUTF16"), (31, u "$assertionsDisabled"), (0, u "Z"), (13, u "HI_BYTE_SHIFT"), (0, u "I"), (2, u "LO_BYTE_SHIFT"), (49, .methodref 12 116), (0, .nameAndType 117 118), (0, u "compress"), (0, u "([CI[BII)I"), (3, u "([CII)[B"), (138, u "coderFromArrayLen"), (0, u "([BI)B"), (106, .class_ 371), (1, u "java/lang/StringUTF16$LinesSpliterator"), (58, u "MAX_LENGTH"), (196, .class_ 628), (0, u "java/lang/StringUTF16$CodePointsSpliterator"), (0, .class_ 630), (0, u "java/lang/StringUTF16$CharsSpliterator")] 4

def k8m0 : Method := { name := "<init>", desc := "()V", sig := { parameters := [], returnType := none }, accessFlags := 0, code := none }
def k8c1 : Code := { maxStack := 2, maxLocals := 2, code := jdk_52_method_15_code, exceptionTable := #[], attributes := #[] }
def k8m1 : Method := { name := "coderFromArrayLen", desc := "([BI)B", sig := { parameters := [(.array .byte), .int], returnType := some .byte }, accessFlags := 8, code := some k8c1 }
def k8c2 : Code := { maxStack := 5, maxLocals := 6, code := jdk_52_method_16_code, exceptionTable := #[], attributes := #[] }
def k8m2 : Method := { name := "compress", desc := "([CII)[B", sig := { parameters := [(.array .char), .int, .int], returnType := some (.array .byte) }, accessFlags := 9, code := some k8c2 }
def k8c3 : Code := { maxStack := 3, maxLocals := 7, code := jdk_52_method_21_code, exceptionTable := #[], attributes := #[] }
def k8m3 : Method := { name := "compress", desc := "([CI[BII)I", sig := { parameters := [(.array .char), .int, (.array .byte), .int, .int], returnType := some .int }, accessFlags := 9, code := some k8c3 }
/-- java/lang/StringUTF16 -/
def k8 : Class := { plain "java/lang/StringUTF16" (some 0) with
  accessFlags := 48
  interfaces := #[]
  cf := some (fileOf pool8 12 #[.nestMembers #[627, 629, 369]] #[{ accessFlags := 0, nameIndex := 9, descriptorIndex := 10, attributes := #[] }, { accessFlags := 8, nameIndex := 261, descriptorIndex := 262, attributes := #[] }, { accessFlags := 9, nameIndex := 117, descriptorIndex := 122, attributes := #[] }, { accessFlags := 9, nameIndex := 117, descriptorIndex := 118, attributes := #[] }] 48 6 #[] #[{ accessFlags := 26, nameIndex := 61, descriptorIndex := 62, attributes := #[] }, { accessFlags := 26, nameIndex := 65, descriptorIndex := 62, attributes := #[] }, { accessFlags := 24, nameIndex := 430, descriptorIndex := 62, attributes := #[] }, { accessFlags := 4120, nameIndex := 46, descriptorIndex := 47, attributes := #[] }])
  fields := #[{ name := "HI_BYTE_SHIFT", type := .int, accessFlags := 26, slot := 0, constantValue := 0 }, { name := "LO_BYTE_SHIFT", type := .int, accessFlags := 26, slot := 1, constantValue := 0 }, { name := "MAX_LENGTH", type := .int, accessFlags := 24, slot := 2, constantValue := 0 }, { name := "$assertionsDisabled", type := .boolean, accessFlags := 4120, slot := 3, constantValue := 0 }]
  methods := #[k8m0, k8m1, k8m2, k8m3]
  instanceTypes := #[]
  staticTypes := #[.int, .int, .int, .boolean]
  resolved := Array.replicate 635 none
  statics := none }

def pool9 : Array CpInfo := pool [(1, .methodref 2 3), (0, .class_ 4), (0, .nameAndType 5 6), (0, u "java/lang/Object"), (0, u "<init>"), (0, u "()V"), (0, .class_ 8), (0, u "java/lang/Record")] 13

def k9c0 : Code := { maxStack := 1, maxLocals := 1, code := jdk_30_method_1_code, exceptionTable := #[], attributes := #[] }
def k9m0 : Method := { name := "<init>", desc := "()V", sig := { parameters := [], returnType := none }, accessFlags := 4, code := some k9c0 }
/-- java/lang/Record -/
def k9 : Class := { plain "java/lang/Record" (some 0) with
  accessFlags := 1057
  interfaces := #[]
  cf := some (fileOf pool9 7 #[] #[{ accessFlags := 4, nameIndex := 5, descriptorIndex := 6, attributes := #[] }] 1057 2 #[] #[])
  fields := #[]
  methods := #[k9m0]
  instanceTypes := #[]
  staticTypes := #[]
  resolved := Array.replicate 22 none
  statics := none }

def pool10 : Array CpInfo := pool [(1, .methodref 2 3), (0, .class_ 4), (0, .nameAndType 5 6), (0, u "java/lang/Record"), (0, u "<init>"), (0, u "()V"), (0, .fieldref 8 9), (0, .class_ 10), (0, .nameAndType 11 12), (0, u "com/example/warrant/warrant/util/IdentityPair"), (0, u "first"), (0, u "Ljava/lang/Object;"), (0, .fieldref 8 14), (0, .nameAndType 15 12), (0, u "second"), (10, u "(Ljava/lang/Object;Ljava/lang/Object;)V"), (3, u "equals"), (0, u "(Ljava/lang/Object;)Z")] 26

def k10c0 : Code := { maxStack := 2, maxLocals := 3, code := prog_43_method_1_code, exceptionTable := #[], attributes := #[] }
def k10m0 : Method := { name := "<init>", desc := "(Ljava/lang/Object;Ljava/lang/Object;)V", sig := { parameters := [(.object "java/lang/Object"), (.object "java/lang/Object")], returnType := none }, accessFlags := 1, code := some k10c0 }
def k10c1 : Code := { maxStack := 2, maxLocals := 3, code := prog_43_method_2_code, exceptionTable := #[], attributes := #[] }
def k10m1 : Method := { name := "equals", desc := "(Ljava/lang/Object;)Z", sig := { parameters := [(.object "java/lang/Object")], returnType := some .boolean }, accessFlags := 1, code := some k10c1 }
/-- com/example/warrant/warrant/util/IdentityPair -/
def k10 : Class := { plain "com/example/warrant/warrant/util/IdentityPair" (some 9) with
  accessFlags := 49
  interfaces := #[]
  cf := some (fileOf pool10 8 #[] #[{ accessFlags := 1, nameIndex := 5, descriptorIndex := 26, attributes := #[] }, { accessFlags := 1, nameIndex := 30, descriptorIndex := 31, attributes := #[] }] 49 2 #[] #[{ accessFlags := 18, nameIndex := 11, descriptorIndex := 12, attributes := #[] }, { accessFlags := 18, nameIndex := 15, descriptorIndex := 12, attributes := #[] }])
  fields := #[{ name := "first", type := (.object "java/lang/Object"), accessFlags := 18, slot := 0, constantValue := 0 }, { name := "second", type := (.object "java/lang/Object"), accessFlags := 18, slot := 1, constantValue := 0 }]
  methods := #[k10m0, k10m1]
  instanceTypes := #[(.object "java/lang/Object"), (.object "java/lang/Object")]
  staticTypes := #[]
  resolved := Array.replicate 58 none
  statics := none }

def pool11 : Array CpInfo := pool [(4, .class_ 6), (1, u "java/lang/Object"), (0, u "<init>"), (0, u "()V"), (5, .class_ 16), (1, u "java/lang/StringLatin1"), (104, u "$assertionsDisabled"), (0, u "Z"), (98, .class_ 223), (1, u "java/lang/StringLatin1$LinesSpliterator"), (166, .class_ 391), (0, u "java/lang/StringLatin1$CharsSpliterator")] 3

def k11m0 : Method := { name := "<init>", desc := "()V", sig := { parameters := [], returnType := none }, accessFlags := 0, code := none }
/-- java/lang/StringLatin1 -/
def k11 : Class := { plain "java/lang/StringLatin1" (some 0) with
  accessFlags := 48
  interfaces := #[]
  cf := some (fileOf pool11 14 #[.nestMembers #[390, 221]] #[{ accessFlags := 0, nameIndex := 7, descriptorIndex := 8, attributes := #[] }] 48 4 #[] #[{ accessFlags := 4120, nameIndex := 121, descriptorIndex := 122, attributes := #[] }])
  fields := #[{ name := "$assertionsDisabled", type := .boolean, accessFlags := 4120, slot := 0, constantValue := 0 }]
  methods := #[k11m0]
  instanceTypes := #[]
  staticTypes := #[.boolean]
  resolved := Array.replicate 395 none
  statics := none }

def pool12 : Array CpInfo := pool [(2, .class_ 4), (1, u "java/lang/Object"), (0, u "<init>"), (0, u "()V"), (17, .class_ 26), (1, u "jdk/internal/util/Preconditions"), (28, .class_ 56), (0, u "jdk/internal/util/Preconditions$4"), (57, .class_ 115), (0, u "jdk/internal/util/Preconditions$1"), (7, u "SIOOBE_FORMATTER"), (0, u "Ljava/util/function/BiFunction;"), (0, .class_ 126), (0, u "jdk/internal/util/Preconditions$2"), (3, u "AIOOBE_FORMATTER"), (0, .class_ 132), (0, u "jdk/internal/util/Preconditions$3"), (3, u "IOOBE_FORMATTER")] 57

def k12m0 : Method := { name := "<init>", desc := "()V", sig := { parameters := [], returnType := none }, accessFlags := 1, code := none }
/-- jdk/internal/util/Preconditions -/
def k12 : Class := { plain "jdk/internal/util/Preconditions" (some 0) with
  accessFlags := 33
  interfaces := #[]
  cf := some (fileOf pool12 24 #[.nestMembers #[55, 131, 125, 114]] #[{ accessFlags := 1, nameIndex := 5, descriptorIndex := 6, attributes := #[] }] 33 2 #[] #[{ accessFlags := 25, nameIndex := 123, descriptorIndex := 124, attributes := #[] }, { accessFlags := 25, nameIndex := 130, descriptorIndex := 124, attributes := #[] }, { accessFlags := 25, nameIndex := 136, descriptorIndex := 124, attributes := #[] }])
  fields := #[{ name := "SIOOBE_FORMATTER", type := (.object "java/util/function/BiFunction"), accessFlags := 25, slot := 0, constantValue := 0 }, { name := "AIOOBE_FORMATTER", type := (.object "java/util/function/BiFunction"), accessFlags := 25, slot := 1, constantValue := 0 }, { name := "IOOBE_FORMATTER", type := (.object "java/util/function/BiFunction"), accessFlags := 25, slot := 2, constantValue := 0 }]
  methods := #[k12m0]
  instanceTypes := #[]
  staticTypes := #[(.object "java/util/function/BiFunction"), (.object "java/util/function/BiFunction"), (.object "java/util/function/BiFunction")]
  resolved := Array.replicate 194 none
  statics := some 1 }

def pool13 : Array CpInfo := pool [(9, u "<init>"), (6, .class_ 18), (1, u "java/lang/Object"), (0, u "()V"), (1, .class_ 23), (1, u "jdk/internal/util/ArraysSupport"), (0, u "LOG2_ARRAY_LONG_INDEX_SCALE"), (0, u "I"), (2, u "U"), (0, u "Ljdk/internal/misc/Unsafe;"), (8, u "BIG_ENDIAN"), (0, u "Z"), (8, u "LOG2_BYTE_BIT_SIZE"), (4, u "LOG2_ARRAY_INT_INDEX_SCALE"), (54, u "JLA"), (0, u "Ljdk/internal/access/JavaLangAccess;"), (11, u "LOG2_ARRAY_BOOLEAN_INDEX_SCALE"), (9, u "LOG2_ARRAY_BYTE_INDEX_SCALE"), (5, u "LOG2_ARRAY_CHAR_INDEX_SCALE"), (5, u "LOG2_ARRAY_SHORT_INDEX_SCALE"), (18, u "LOG2_ARRAY_FLOAT_INDEX_SCALE"), (24, u "LOG2_ARRAY_DOUBLE_INDEX_SCALE"), (89, u "T_BOOLEAN"), (2, u "T_CHAR"), (1, u "T_FLOAT"), (1, u "T_DOUBLE"), (1, u "T_BYTE"), (1, u "T_SHORT"), (1, u "T_INT"), (1, u "T_LONG"), (1, u "SOFT_MAX_ARRAY_LENGTH")] 83

def k13m0 : Method := { name := "<init>", desc := "()V", sig := { parameters := [], returnType := none }, accessFlags := 2, code := none }
/-- jdk/internal/util/ArraysSupport -/
def k13 : Class := { plain "jdk/internal/util/ArraysSupport" (some 0) with
  accessFlags := 33
  interfaces := #[]
  cf := some (fileOf pool13 21 #[] #[{ accessFlags := 2, nameIndex := 9, descriptorIndex := 19, attributes := #[] }] 33 16 #[] #[{ accessFlags := 24, nameIndex := 28, descriptorIndex := 29, attributes := #[] }, { accessFlags := 26, nameIndex := 38, descriptorIndex := 39, attributes := #[] }, { accessFlags := 25, nameIndex := 121, descriptorIndex := 25, attributes := #[] }, { accessFlags := 25, nameIndex := 131, descriptorIndex := 25, attributes := #[] }, { accessFlags := 25, nameIndex := 137, descriptorIndex := 25, attributes := #[] }, { accessFlags := 25, nameIndex := 143, descriptorIndex := 25, attributes := #[] }, { accessFlags := 25, nameIndex := 53, descriptorIndex := 25, attributes := #[] }, { accessFlags := 25, nameIndex := 24, descriptorIndex := 25, attributes := #[] }, { accessFlags := 25, nameIndex := 162, descriptorIndex := 25, attributes := #[] }, { accessFlags := 25, nameIndex := 187, descriptorIndex := 25, attributes := #[] }, { accessFlags := 26, nameIndex := 48, descriptorIndex := 25, attributes := #[] }, { accessFlags := 25, nameIndex := 277, descriptorIndex := 25, attributes := #[] }, { accessFlags := 25, nameIndex := 280, descriptorIndex := 25, attributes := #[] }, { accessFlags := 25, nameIndex := 282, descriptorIndex := 25, attributes := #[] }, { accessFlags := 25, nameIndex := 284, descriptorIndex := 25, attributes := #[] }, { accessFlags := 25, nameIndex := 286, descriptorIndex := 25, attributes := #[] }, { accessFlags := 25, nameIndex := 288, descriptorIndex := 25, attributes := #[] }, { accessFlags := 25, nameIndex := 290, descriptorIndex := 25, attributes := #[] }, { accessFlags := 25, nameIndex := 292, descriptorIndex := 25, attributes := #[] }, { accessFlags := 26, nameIndex := 108, descriptorIndex := 109, attributes := #[] }, { accessFlags := 25, nameIndex := 294, descriptorIndex := 25, attributes := #[] }])
  fields := #[{ name := "U", type := (.object "jdk/internal/misc/Unsafe"), accessFlags := 24, slot := 0, constantValue := 0 }, { name := "BIG_ENDIAN", type := .boolean, accessFlags := 26, slot := 1, constantValue := 0 }, { name := "LOG2_ARRAY_BOOLEAN_INDEX_SCALE", type := .int, accessFlags := 25, slot := 2, constantValue := 0 }, { name := "LOG2_ARRAY_BYTE_INDEX_SCALE", type := .int, accessFlags := 25, slot := 3, constantValue := 0 }, { name := "LOG2_ARRAY_CHAR_INDEX_SCALE", type := .int, accessFlags := 25, slot := 4, constantValue := 0 }, { name := "LOG2_ARRAY_SHORT_INDEX_SCALE", type := .int, accessFlags := 25, slot := 5, constantValue := 0 }, { name := "LOG2_ARRAY_INT_INDEX_SCALE", type := .int, accessFlags := 25, slot := 6, constantValue := 0 }, { name := "LOG2_ARRAY_LONG_INDEX_SCALE", type := .int, accessFlags := 25, slot := 7, constantValue := 0 }, { name := "LOG2_ARRAY_FLOAT_INDEX_SCALE", type := .int, accessFlags := 25, slot := 8, constantValue := 0 }, { name := "LOG2_ARRAY_DOUBLE_INDEX_SCALE", type := .int, accessFlags := 25, slot := 9, constantValue := 0 }, { name := "LOG2_BYTE_BIT_SIZE", type := .int, accessFlags := 26, slot := 10, constantValue := 0 }, { name := "T_BOOLEAN", type := .int, accessFlags := 25, slot := 11, constantValue := 0 }, { name := "T_CHAR", type := .int, accessFlags := 25, slot := 12, constantValue := 0 }, { name := "T_FLOAT", type := .int, accessFlags := 25, slot := 13, constantValue := 0 }, { name := "T_DOUBLE", type := .int, accessFlags := 25, slot := 14, constantValue := 0 }, { name := "T_BYTE", type := .int, accessFlags := 25, slot := 15, constantValue := 0 }, { name := "T_SHORT", type := .int, accessFlags := 25, slot := 16, constantValue := 0 }, { name := "T_INT", type := .int, accessFlags := 25, slot := 17, constantValue := 0 }, { name := "T_LONG", type := .int, accessFlags := 25, slot := 18, constantValue := 0 }, { name := "JLA", type := (.object "jdk/internal/access/JavaLangAccess"), accessFlags := 26, slot := 19, constantValue := 0 }, { name := "SOFT_MAX_ARRAY_LENGTH", type := .int, accessFlags := 25, slot := 20, constantValue := 0 }]
  methods := #[k13m0]
  instanceTypes := #[]
  staticTypes := #[(.object "jdk/internal/misc/Unsafe"), .boolean, .int, .int, .int, .int, .int, .int, .int, .int, .int, .int, .int, .int, .int, .int, .int, .int, .int, (.object "jdk/internal/access/JavaLangAccess"), .int]
  resolved := Array.replicate 378 none
  statics := none }

def pool14 : Array CpInfo := pool [(1, u "java/lang/Cloneable"), (0, .class_ 1), (0, u "java/lang/Object"), (0, .class_ 3)] 3

/-- java/lang/Cloneable -/
def k14 : Class := { plain "java/lang/Cloneable" (some 0) with
  accessFlags := 1537
  interfaces := #[]
  cf := some (fileOf pool14 2 #[] #[] 1537 4 #[] #[])
  fields := #[]
  methods := #[]
  instanceTypes := #[]
  staticTypes := #[]
  resolved := Array.replicate 8 none
  statics := none }

/-- the primitive byte -/
def k15 : Class := { plain "byte" none with kind := .primitive 'B', accessFlags := 0x411 }
/-- [B -/
def k16 : Class := { plain "[B" (some 0) with kind := .array 15 .byte, interfaces := #[14, 2], accessFlags := 1041 }

/-- the primitive char -/
def k17 : Class := { plain "char" none with kind := .primitive 'C', accessFlags := 0x411 }
/-- [C -/
def k18 : Class := { plain "[C" (some 0) with kind := .array 17 .char, interfaces := #[14, 2], accessFlags := 1041 }

/-- the primitive int -/
def k19 : Class := { plain "int" none with kind := .primitive 'I', accessFlags := 0x411 }
/-- [I -/
def k20 : Class := { plain "[I" (some 0) with kind := .array 19 .int, interfaces := #[14, 2], accessFlags := 1041 }

/-- [Ljava/lang/Object; -/
def k21 : Class := { plain "[Ljava/lang/Object;" (some 0) with kind := .array 0 (.object "java/lang/Object"), interfaces := #[14, 2], accessFlags := 1041 }

def heap : Heap := #[{ cls := 7, slots := #[.long 0, .int 1, .null, .int 0, .null, .int 0, .int 0], vm := .statics 7 },
  { cls := 12, slots := #[.null, .null, .null], vm := .statics 12 }]
def classes : Array Class := #[k0, k1, k2, k3, k4, k5, k6, k7, k8, k9, k10, k11, k12, k13, k14, k15, k16, k17, k18, k19, k20, k21]
def interned : List (Array UInt16 × Addr) := []
def slotsUsed : Nat := 10
def theMethod : MethodId := ⟨1, 1⟩
def args0 : Array Value := #[.int 5, .int 7, .int 2, .int 65]
def aboutOver (below : List Frame) : State where
  vm := { classes := classes, interned := interned.toArray }
  heap := heap
  slotsUsed := slotsUsed
  threads := #[{ frames := .invoking theMethod args0 :: below }]
def below0 : List Frame := [.native { method := ⟨0, 0⟩, args := #[] }]
def about1 : State := aboutOver below0
def p0 : Program := .bare "" "" ""
def e0 : Env := launch0.env 0 0 0
theorem w_frames : about1.frames = Frame.invoking theMethod args0 :: below0 := rfl
set_option maxRecDepth 65536 in
theorem w_args : argsFit about1.vm theMethod args0 = true := by decide +kernel
set_option maxRecDepth 65536 in
theorem w_heap : heapFits about1 = true := by decide +kernel
set_option maxRecDepth 65536 in
theorem w_runnable : about1.curStatus? = some .runnable := by decide +kernel
set_option maxRecDepth 65536 in
theorem w_alone : about1.alone = true := by decide +kernel
set_option maxRecDepth 65536 in
theorem w_named : about1.methodNamed? x = some theMethod := by decide +kernel
set_option maxRecDepth 65536 in
theorem w_hears : about1.hears theMethod below0 = true := by decide +kernel
set_option maxRecDepth 65536 in
theorem w_ripe : about1.ripe theMethod args0 below0 = true := by decide +kernel
theorem w_running : about1.status = .running := rfl
set_option maxRecDepth 65536 in
theorem w_room : about1.hasRoom e0.platform room_1 = true :=
  launch0.hasRoom_least _ room_1 (by decide +kernel) (by decide +kernel) (by decide +kernel) (by decide +kernel) (by decide +kernel) (by decide +kernel)
theorem allAtoms_all (ts : List Jvm.Cond) (a : Array Jvm.Value) (st : Jvm.State) : (allAtoms ts).before a st = ts.all (fun c => c.before a st) := by
  induction ts with
  | nil => rfl
  | cons c t ih =>
    show (Jvm.Cond.and c (allAtoms t)).before a st = _
    rw [Jvm.Cond.before_and, ih, List.all_cons]
def words1 : List Jvm.Cond := Jvm.Cond.code x code maxLocals ret :: tables_1
/-- a 'code' word, met by the world's own term for the bytes: nothing is compared byte by byte -/
theorem code_word {y : MethodName} {bytes : ByteArray} {mx : Nat} {rt : Option FieldType} {a : Array Value} {s : State} {m : MethodId} {meth : Method} {c : Code} (h1 : s.methodNamed? y = some m) (h2 : s.vm.method? m = some meth) (h3 : meth.code = some c) (h4 : c.code = bytes)
    (h5 : (c.maxLocals == mx && c.exceptionTable.isEmpty && decide (c.maxStack ≤ mostOperands) && decide (meth.sig.returnType = rt) && !meth.locks && decide (parseMethodDescriptor y.desc = some meth.sig)) = true) : (Jvm.Cond.code y bytes mx rt).before a s = true := by
  simp only [Bool.and_eq_true, beq_iff_eq, Bool.not_eq_true', decide_eq_true_eq] at h5
  obtain ⟨⟨⟨⟨⟨g1, g2⟩, g3⟩, g4⟩, g5⟩, g6⟩ := h5
  simp [Cond.before, Cond.holds, Cond.value, h1, h2, h3, h4, g1, g2, g3, g4, g5, g6]
def isCode : Jvm.Cond → Bool
  | .code _ _ _ _ => true
  | _ => false
theorem all_split {L : List Jvm.Cond} {P : Jvm.Cond → Bool} (h1 : L.all (fun c => isCode c || P c) = true) (h2 : ∀ c ∈ L.filter isCode, P c = true) : L.all P = true := by
  refine List.all_eq_true.mpr fun c hc => ?_
  have h := List.all_eq_true.mp h1 c hc
  rcases Bool.eq_false_or_eq_true (isCode c) with hi | hi
  · exact h2 c (List.mem_filter.mpr ⟨hc, hi⟩)
  · simpa [hi] using h
set_option maxRecDepth 65536 in
theorem w_c0 : (Jvm.Cond.code x code maxLocals ret).before args0 about1 = true := code_word (m := ⟨1, 1⟩) (meth := k1m1) (c := k1c1) (by decide +kernel) rfl rfl rfl (by decide +kernel)
set_option maxRecDepth 65536 in
theorem w_c1 : (Jvm.Cond.code ({ cls := "java/lang/String", name := "<init>", desc := "([C)V" } : Jvm.MethodName) jdk_42_method_3_code (2 : Nat) (Option.none : Option Jvm.ClassFile.FieldType)).before args0 about1 = true := code_word (m := ⟨7, 1⟩) (meth := k7m1) (c := k7c1) (by decide +kernel) rfl rfl rfl (by decide +kernel)
set_option maxRecDepth 65536 in
theorem w_c2 : (Jvm.Cond.code ({ cls := "java/lang/String", name := "<init>", desc := "([CIILjava/lang/Void;)V" } : Jvm.MethodName) jdk_42_method_149_code (6 : Nat) (Option.none : Option Jvm.ClassFile.FieldType)).before args0 about1 = true := code_word (m := ⟨7, 2⟩) (meth := k7m2) (c := k7c2) (by decide +kernel) rfl rfl rfl (by decide +kernel)
set_option maxRecDepth 65536 in
theorem w_c3 : (Jvm.Cond.code ({ cls := "java/lang/Object", name := "<init>", desc := "()V" } : Jvm.MethodName) object_method_1_code (1 : Nat) (Option.none : Option Jvm.ClassFile.FieldType)).before args0 about1 = true := code_word (m := ⟨0, 0⟩) (meth := k0m0) (c := k0c0) (by decide +kernel) rfl rfl rfl (by decide +kernel)
set_option maxRecDepth 65536 in
theorem w_c4 : (Jvm.Cond.code ({ cls := "java/lang/StringUTF16", name := "compress", desc := "([CII)[B" } : Jvm.MethodName) jdk_52_method_16_code (6 : Nat) (Option.some (Jvm.ClassFile.FieldType.array Jvm.ClassFile.FieldType.byte))).before args0 about1 = true := code_word (m := ⟨8, 2⟩) (meth := k8m2) (c := k8c2) (by decide +kernel) rfl rfl rfl (by decide +kernel)
set_option maxRecDepth 65536 in
theorem w_c5 : (Jvm.Cond.code ({ cls := "java/lang/StringUTF16", name := "compress", desc := "([CI[BII)I" } : Jvm.MethodName) jdk_52_method_21_code (7 : Nat) (Option.some Jvm.ClassFile.FieldType.int)).before args0 about1 = true := code_word (m := ⟨8, 3⟩) (meth := k8m3) (c := k8c3) (by decide +kernel) rfl rfl rfl (by decide +kernel)
set_option maxRecDepth 65536 in
theorem w_c6 : (Jvm.Cond.code ({ cls := "java/lang/StringUTF16", name := "coderFromArrayLen", desc := "([BI)B" } : Jvm.MethodName) jdk_52_method_15_code (2 : Nat) (Option.some Jvm.ClassFile.FieldType.byte)).before args0 about1 = true := code_word (m := ⟨8, 1⟩) (meth := k8m1) (c := k8c1) (by decide +kernel) rfl rfl rfl (by decide +kernel)
set_option maxRecDepth 65536 in
theorem w_c7 : (Jvm.Cond.code ({ cls := "com/example/warrant/warrant/util/IdentityPair", name := "<init>", desc := "(Ljava/lang/Object;Ljava/lang/Object;)V" } : Jvm.MethodName) prog_43_method_1_code (3 : Nat) (Option.none : Option Jvm.ClassFile.FieldType)).before args0 about1 = true := code_word (m := ⟨10, 0⟩) (meth := k10m0) (c := k10c0) (by decide +kernel) rfl rfl rfl (by decide +kernel)
set_option maxRecDepth 65536 in
theorem w_c8 : (Jvm.Cond.code ({ cls := "java/lang/Record", name := "<init>", desc := "()V" } : Jvm.MethodName) jdk_30_method_1_code (1 : Nat) (Option.none : Option Jvm.ClassFile.FieldType)).before args0 about1 = true := code_word (m := ⟨9, 0⟩) (meth := k9m0) (c := k9c0) (by decide +kernel) rfl rfl rfl (by decide +kernel)
set_option maxRecDepth 65536 in
theorem w_c9 : (Jvm.Cond.code ({ cls := "com/example/warrant/warrant/util/IdentityPair", name := "equals", desc := "(Ljava/lang/Object;)Z" } : Jvm.MethodName) prog_43_method_2_code (3 : Nat) (Option.some Jvm.ClassFile.FieldType.boolean)).before args0 about1 = true := code_word (m := ⟨10, 1⟩) (meth := k10m1) (c := k10c1) (by decide +kernel) rfl rfl rfl (by decide +kernel)
def codes1 : List Jvm.Cond := [Jvm.Cond.code x code maxLocals ret, Jvm.Cond.code ({ cls := "java/lang/String", name := "<init>", desc := "([C)V" } : Jvm.MethodName) jdk_42_method_3_code (2 : Nat) (Option.none : Option Jvm.ClassFile.FieldType), Jvm.Cond.code ({ cls := "java/lang/String", name := "<init>", desc := "([CIILjava/lang/Void;)V" } : Jvm.MethodName) jdk_42_method_149_code (6 : Nat) (Option.none : Option Jvm.ClassFile.FieldType), Jvm.Cond.code ({ cls := "java/lang/Object", name := "<init>", desc := "()V" } : Jvm.MethodName) object_method_1_code (1 : Nat) (Option.none : Option Jvm.ClassFile.FieldType), Jvm.Cond.code ({ cls := "java/lang/StringUTF16", name := "compress", desc := "([CII)[B" } : Jvm.MethodName) jdk_52_method_16_code (6 : Nat) (Option.some (Jvm.ClassFile.FieldType.array Jvm.ClassFile.FieldType.byte)), Jvm.Cond.code ({ cls := "java/lang/StringUTF16", name := "compress", desc := "([CI[BII)I" } : Jvm.MethodName) jdk_52_method_21_code (7 : Nat) (Option.some Jvm.ClassFile.FieldType.int), Jvm.Cond.code ({ cls := "java/lang/StringUTF16", name := "coderFromArrayLen", desc := "([BI)B" } : Jvm.MethodName) jdk_52_method_15_code (2 : Nat) (Option.some Jvm.ClassFile.FieldType.byte), Jvm.Cond.code ({ cls := "com/example/warrant/warrant/util/IdentityPair", name := "<init>", desc := "(Ljava/lang/Object;Ljava/lang/Object;)V" } : Jvm.MethodName) prog_43_method_1_code (3 : Nat) (Option.none : Option Jvm.ClassFile.FieldType), Jvm.Cond.code ({ cls := "java/lang/Record", name := "<init>", desc := "()V" } : Jvm.MethodName) jdk_30_method_1_code (1 : Nat) (Option.none : Option Jvm.ClassFile.FieldType), Jvm.Cond.code ({ cls := "com/example/warrant/warrant/util/IdentityPair", name := "equals", desc := "(Ljava/lang/Object;)Z" } : Jvm.MethodName) prog_43_method_2_code (3 : Nat) (Option.some Jvm.ClassFile.FieldType.boolean)]
set_option maxRecDepth 65536 in
theorem codes_eq : words1.filter isCode = codes1 := rfl
theorem w_codes : ∀ c ∈ words1.filter isCode, c.before args0 about1 = true := by
  rw [codes_eq]
  intro c hc
  simp only [codes1, List.mem_cons, List.not_mem_nil, or_false] at hc
  rcases hc with rfl | rfl | rfl | rfl | rfl | rfl | rfl | rfl | rfl | rfl
  · exact w_c0
  · exact w_c1
  · exact w_c2
  · exact w_c3
  · exact w_c4
  · exact w_c5
  · exact w_c6
  · exact w_c7
  · exact w_c8
  · exact w_c9
set_option maxRecDepth 65536 in
theorem w_t1 : (words1.take 24).all (fun c => isCode c || c.before args0 about1) = true := by decide +kernel
set_option maxRecDepth 65536 in
theorem w_t2 : ((words1.drop 24).take 24).all (fun c => isCode c || c.before args0 about1) = true := by decide +kernel
set_option maxRecDepth 65536 in
theorem w_t3 : ((words1.drop 24).drop 24).all (fun c => isCode c || c.before args0 about1) = true := by decide +kernel
theorem w_tables : (allAtoms (Jvm.Cond.code x code maxLocals ret :: tables_1)).before args0 about1 = true := by
  rw [allAtoms_all]
  show words1.all (fun c => c.before args0 about1) = true
  refine all_split ?_ w_codes
  rw [← List.take_append_drop 24 words1, List.all_append, w_t1, ← List.take_append_drop 24 (words1.drop 24), List.all_append, w_t2, w_t3]
  rfl
set_option maxRecDepth 65536 in
theorem w_rest : rest_1_c.before args0 about1 = true := by decide +kernel
set_option maxRecDepth 65536 in
theorem w_case : (Jvm.Cond.and given_1 narrow_1).before args0 about1 = true := by decide +kernel
theorem w_applies : (headSpec (Jvm.Cond.code x code maxLocals ret :: tables_1) room_1).applies x e0.platform about1 = true :=
  (Spec.applies_iff w_frames).mpr ⟨w_running, w_runnable, w_alone, w_named, w_hears, w_ripe, w_room, w_tables⟩
theorem atStart : AtStart classFile x code maxLocals ret World_1 tables_1 room_1 Calls_1 rest_1 Pre_1 launch0 p0 e0 about1 theMethod args0 below0 :=
  ⟨lists_1, trivial, launch0.admits_env _ _ _, launch0.least_env, fairChoices_fair.cas, fairChoices_fair.clock, w_frames, w_args, w_heap, w_applies, trivial, w_rest, w_case⟩
end start1
theorem witness_1 : WitnessClaimed_1 := ⟨start1.p0, start1.e0, start1.about1, start1.theMethod, start1.args0, start1.below0, start1.atStart⟩
end Jvm.Pilot.@@N@@
