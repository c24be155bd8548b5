import JvmDerived
import JvmDerived.Pilot.@@N@@Statement
import JvmDerived.Pilot.@@N@@Code
set_option linter.unusedVariables false
set_option linter.unusedSimpArgs false
namespace Jvm.RoadKit
open Sem ClassFile Op Lib Jvm.Stand Jvm.Free Jvm.LawKit
section Own
variable {tb : Tables} {e : Env} {below : List Frame} {Q : Outcome → State → Prop} {A B : State}
def Goes (tb : Tables) (e : Env) (below : List Frame) (Q : Outcome → State → Prop) (A : State) : Prop := ∃ s₂ o, Steps tb e below A s₂ ∧ s₂.status = .running ∧ Ended s₂ below o ∧ Q o s₂
theorem Goes.st (st : ∀ t, Steps tb e below A t → Steps tb e below B t) (k : Goes tb e below Q A) : Goes tb e below Q B := by
  obtain ⟨s, o, h1, h2⟩ := k
  exact ⟨s, o, st s h1, h2⟩
theorem Goes.tr (st : Steps tb e below B A) (k : Goes tb e below Q A) : Goes tb e below Q B := by
  obtain ⟨s, o, h1, h2⟩ := k
  exact ⟨s, o, st.trans h1, h2⟩
theorem Goes.named (k : ∀ Q', Q' = Q → Goes tb e below Q' A) : Goes tb e below Q A := k Q rfl
theorem own_narb (c : Int32) : nar .byte (c.toInt8.toInt32) = c.toInt8.toInt32 := by simp [nar]
theorem own_fitsb (c : Int32) : fits .byte (.int c.toInt8.toInt32) = true := own_narb c ▸ fits_nar_byte _
theorem own_narZ {z : Int32} (h : z = 0 ∨ z = 1) : nar .boolean z = z := by rcases h with rfl | rfl <;> rfl
theorem own_narwZ {z : Int32} (h : z = 0 ∨ z = 1) : narrow .boolean (.int z) = .int z := by rcases h with rfl | rfl <;> rfl
theorem own_fitsZ {z : Int32} (h : z = 0 ∨ z = 1) : fits .boolean (.int z) = true := by rcases h with rfl | rfl <;> rfl
theorem own_cat {v : Value} (h : v.isRef = true) : v.category = 1 := by cases v <;> first | rfl | (simp [Value.isRef] at h)
theorem own_fitsR {v : Value} {t : FieldType} (h : v.isRef = true) (ht : t.isReference = true) : fits t v = true := by cases v <;> cases t <;> simp_all [Value.isRef, fits, FieldType.isReference]
theorem own_narR {v : Value} {t : FieldType} (h : v.isRef = true) : narrow t v = v := by cases v <;> cases t <;> first | rfl | (simp [Value.isRef] at h)
end Own
section New
variable {p : Program} {l : Launch} {e : Env} {R : Room} {s : State} {m : MethodId} {args : Array Value} {below : List Frame} {meth : Method} {c : Code} {T : State} {locs : List Loc} {cells slots : Nat}
theorem retI (X : Stand p l e R s m args below meth c T locs cells slots) (hx : p.tables.exec = Jvm.exec) {pc : Nat} {Ls : Array Slot} {z : Int32} {rest : List Value} (hret : meth.sig.returnType = some .int) (hd : decode c.code pc = .ok (.ireturn, 1)) {fs : List Frame}
    (hl : ∀ (f : JFrame) (acts : List Action), f.method = m → f.locked = none → f.entered = [] → (doReturn e (T.setTop f) acts (some (.int z))).1 = T.setFrames fs) : Steps p.tables e below (T.setTop (mkF m pc Ls (.int z :: rest))) (T.setFrames fs) :=
  retOut X hx (w := .int z) hret rfl (Or.inl ⟨rfl, Or.inl rfl, _, rfl⟩) hd hl
theorem retJ (X : Stand p l e R s m args below meth c T locs cells slots) (hx : p.tables.exec = Jvm.exec) {pc : Nat} {Ls : Array Slot} {z : Int64} {rest : List Value} (hret : meth.sig.returnType = some .long) (hd : decode c.code pc = .ok (.lreturn, 1)) {fs : List Frame}
    (hl : ∀ (f : JFrame) (acts : List Action), f.method = m → f.locked = none → f.entered = [] → (doReturn e (T.setTop f) acts (some (.long z))).1 = T.setFrames fs) : Steps p.tables e below (T.setTop (mkF m pc Ls (.long z :: rest))) (T.setFrames fs) :=
  retOut X hx (w := .long z) hret rfl (Or.inr (Or.inl ⟨rfl, rfl, _, rfl⟩)) hd hl
theorem retR (X : Stand p l e R s m args below meth c T locs cells slots) (hx : p.tables.exec = Jvm.exec) {pc : Nat} {Ls : Array Slot} {w : Value} {t : FieldType} {rest : List Value} (hret : meth.sig.returnType = some t) (ht : t.isReference = true) (hw : w.isRef = true) (hd : decode c.code pc = .ok (.areturn, 1)) {fs : List Frame}
    (hl : ∀ (f : JFrame) (acts : List Action), f.method = m → f.locked = none → f.entered = [] → (doReturn e (T.setTop f) acts (some w)).1 = T.setFrames fs) : Steps p.tables e below (T.setTop (mkF m pc Ls (w :: rest))) (T.setFrames fs) :=
  retOut X hx (w := w) hret (own_narR hw) (Or.inr (Or.inr (Or.inr (Or.inr ⟨rfl, ht, hw⟩)))) hd hl
end New
end Jvm.RoadKit
/- laws to paste: Road.backV (cut by pick.py; bodies as the Statement names them) -/
namespace Jvm.Pilot.@@N@@
namespace StrChars
open Jvm Sem ClassFile Op Lib Jvm.Stand Jvm.Free.XT Jvm.Free.ALB Jvm.Free.JM Jvm.Free
open Jvm.Lib.Cold (StaticIs)
/-- a char array whose places are chars -/
def Ch (a : Addr) (A : Cell) (U : State) : Prop := Arr .char a A U ∧ Typed .char A
theorem Ch.mv {a : Addr} {A : Cell} {U U' : State} (h : Ch a A U) (hal : U.vm.Alike U'.vm) (hh : U'.heap = U.heap) : Ch a A U' := ⟨h.1.mv hal hh, h.2⟩
theorem Ch.keep {a : Addr} {A : Cell} {U U' : State} (h : Ch a A U) (hal : U.vm.Alike U'.vm) (hk : U'.heap[a]? = some A) : Ch a A U' := ⟨h.1.keep hal hk, h.2⟩
/-- what place i of a char[]'s cell holds -/
def cv (A : Cell) (i : Nat) : Int32 := match A.slots[i]? with | some (.int x) => x | _ => 0
theorem Ch.get {a : Addr} {A : Cell} {U : State} (h : Ch a A U) {i : Nat} (hi : i < A.slots.size) : A.slots[i]? = some (.int (cv A i)) := by
  have e := Array.getElem?_eq_getElem hi
  have f := h.2 i _ e
  unfold cv; rw [e]
  generalize A.slots[i] = v at f
  cases v <;> simp [fits] at f ⊢
/-- the byte that i2b leaves of a char -/
def lo8 (x : Int32) : Int32 := x.toInt8.toInt32
theorem fits_lo8 (y : Int32) : fits .byte (.int (lo8 y)) = true := by
  have h1 := y.toInt8.le_toInt
  have h2 := y.toInt8.toInt_lt
  simp only [lo8, fits, Bool.and_eq_true, decide_eq_true_eq, Int32.le_iff_toInt_le, Int8.toInt_toInt32, show (-128 : Int32).toInt = -128 from by decide, show (127 : Int32).toInt = 127 from by decide]
  omega
/-- A' is A but that each place j of lo .. hi - 1 holds f j -/
def Laid (A A' : Cell) (lo hi : Nat) (f : Nat → Value) : Prop := A'.cls = A.cls ∧ A'.vm = A.vm ∧ A'.slots.size = A.slots.size ∧ ∀ i, A'.slots[i]? = if lo ≤ i ∧ i < hi then some (f i) else A.slots[i]?
theorem Laid.zero (A : Cell) (lo : Nat) (f : Nat → Value) : Laid A A lo (lo + 0) f := ⟨rfl, rfl, rfl, fun i => by rw [if_neg (by omega)]⟩
theorem Laid.step {A Ak : Cell} {lo k : Nat} {f : Nat → Value} {v : Value} (h : Laid A Ak lo k f) (hlo : lo ≤ k) (hk : k < Ak.slots.size) (hv : v = f k) : Laid A (Ak.setSlot k v) lo (k + 1) f := by
  refine ⟨h.1, h.2.1, by simpa [Cell.setSlot] using h.2.2.1, fun i => ?_⟩
  by_cases e : k = i
  · subst e; rw [Cell.slots_setSlot_self v hk, if_pos (by omega), hv]
  · rw [Cell.slots_setSlot_ne v e, h.2.2.2 i]
    by_cases q : lo ≤ i ∧ i < k
    · rw [if_pos q, if_pos (by omega)]
    · rw [if_neg q, if_neg (by omega)]
def U16 : String := "java/lang/StringUTF16"
namespace Cmp5
def yN : MethodName := ⟨"java/lang/StringUTF16", "compress", "([CI[BII)I"⟩
abbrev yB : ByteArray := jdk_52_method_21_code
theorem d0 : decode yB 0 = .ok (.iconst 0, 1) := by decide +kernel
theorem d1 : decode yB 1 = .ok (.istore 5, 2) := by decide +kernel
theorem d3 : decode yB 3 = .ok (.iload 5, 2) := by decide +kernel
theorem d5 : decode yB 5 = .ok (.iload 4, 2) := by decide +kernel
theorem d7 : decode yB 7 = .ok (.if_icmp (.ge) 37, 3) := by decide +kernel
theorem d10 : decode yB 10 = .ok (.aload_n 0, 1) := by decide +kernel
theorem d11 : decode yB 11 = .ok (.iload_n 1, 1) := by decide +kernel
theorem d12 : decode yB 12 = .ok (.caload, 1) := by decide +kernel
theorem d13 : decode yB 13 = .ok (.istore 6, 2) := by decide +kernel
theorem d15 : decode yB 15 = .ok (.iload 6, 2) := by decide +kernel
theorem d17 : decode yB 17 = .ok (.sipush 255, 3) := by decide +kernel
theorem d20 : decode yB 20 = .ok (.if_icmp (.le) 6, 3) := by decide +kernel
theorem d26 : decode yB 26 = .ok (.aload_n 2, 1) := by decide +kernel
theorem d27 : decode yB 27 = .ok (.iload_n 3, 1) := by decide +kernel
theorem d28 : decode yB 28 = .ok (.iload 6, 2) := by decide +kernel
theorem d30 : decode yB 30 = .ok (.i2b, 1) := by decide +kernel
theorem d31 : decode yB 31 = .ok (.bastore, 1) := by decide +kernel
theorem d32 : decode yB 32 = .ok (.iinc 1 1, 3) := by decide +kernel
theorem d35 : decode yB 35 = .ok (.iinc 3 1, 3) := by decide +kernel
theorem d38 : decode yB 38 = .ok (.iinc 5 1, 3) := by decide +kernel
theorem d41 : decode yB 41 = .ok (.goto (-38), 3) := by decide +kernel
theorem d44 : decode yB 44 = .ok (.iload 4, 2) := by decide +kernel
theorem d46 : decode yB 46 = .ok (.ireturn, 1) := by decide +kernel
def site : List Cond := []
def tab : Cond := tabOf yN yB 7 (some .int) site
def P (b : Addr) (A : Cell) (d : Addr) (B : Cell) (o q len : Nat) (args : Array Value) (s : State) : Prop := args = #[.ref b, .int (Int32.ofNat o), .ref d, .int (Int32.ofNat q), .int (Int32.ofNat len)] ∧ Ch b A s ∧ Arr .byte d B s ∧ b ≠ d ∧ o + len ≤ A.slots.size ∧ q + len ≤ B.slots.size ∧ ∀ i, i < len → ¬ 255 < cv A (o + i)
def E (b : Addr) (A : Cell) (d : Addr) (B : Cell) (o q len : Nat) (r : Option Value) (s u : State) : Prop := r = some (.int (Int32.ofNat len)) ∧ ∃ B', Put d B' s u ∧ Laid B B' q (q + len) (fun j => Value.int (lo8 (cv A (o + (j - q)))))
/-- no char of the range above 255: len; the places written hold each char's low byte -/
theorem law (l : Launch) (b : Addr) (A : Cell) (d : Addr) (B : Cell) (o q len : Nat) : Law l yN 5 5 0 0 yB 7 (some .int) site (P b A d B o q len) (E b A d B o q len) (copyLocs d q len) 0 0 := by
  refine Law.of_walk (plainFor_of_name (by decide +kernel)) (by decide +kernel) (by decide +kernel) (by decide) (fun _ _ h => by rw [h.1]; rfl) (fun _ U U' hal hh h => ⟨h.1, h.2.1.mv hal hh, h.2.2.1.mv hal hh, h.2.2.2⟩) (fun r U U' V V' h1 hal h2 h => ⟨h.1, h.2.elim fun B' q => ⟨B', q.1.mv h1 h2, q.2⟩⟩) ?_
  intro p e s m args below meth c s₁ X0 hexec hbytes hml hret hlk hnm hown hh0 W hP
  obtain ⟨rfl, hA, hB, hne, l1, l2, hp⟩ := hP
  have c1 : Steps p.tables e below (s₁.setTop (entryFrame m #[.ref b, .int (Int32.ofNat o), .ref d, .int (Int32.ofNat q), .int (Int32.ofNat len)] 7)) (s₁.setTop (mkF m 0 #[.val (.ref b), .val (.int (Int32.ofNat o)), .val (.ref d), .val (.int (Int32.ofNat q)), .val (.int (Int32.ofNat len)), .unset, .unset] [])) := entry rfl
  have hA0 := hA.1.mv X0.warmed.alike hh0
  have hB0 := hB.mv X0.warmed.alike hh0
  have a31 := hA.1.2.2.2
  have c2 : Steps p.tables e below (s₁.setTop (entryFrame m #[.ref b, .int (Int32.ofNat o), .ref d, .int (Int32.ofNat q), .int (Int32.ofNat len)] 7)) (s₁.setTop (mkF m 3 #[.val (.ref b), .val (.int (Int32.ofNat o)), .val (.ref d), .val (.int (Int32.ofNat q)), .val (.int (Int32.ofNat len)), .val (.int 0), .unset] [])) := c1.trans (by
    refine iconstV X0.here hexec rfl 0 (hb hbytes d0) (by decide) ?_
    refine XS.istore X0.here hexec rfl (hb hbytes d1) rfl rfl ?_
    exact Steps.refl _)
  have loop : ∀ (r i : Nat), i + r = len → ∀ (z : Slot), (z = .unset ∨ ∃ w, z = .val w ∧ w.category = 1) → ∀ (Tl : State) (Bk : Cell), Stand p l e { frames := 0, locals := 0, cells := 0, slots := 0 } s m #[.ref b, .int (Int32.ofNat o), .ref d, .int (Int32.ofNat q), .int (Int32.ofNat len)] below meth c Tl ([] ++ copyLocs d q i) 0 0 → Put d Bk s₁ Tl → Laid B Bk q (q + i) (fun j => Value.int (lo8 (cv A (o + (j - q))))) →
      Steps p.tables e below (s₁.setTop (entryFrame m #[.ref b, .int (Int32.ofNat o), .ref d, .int (Int32.ofNat q), .int (Int32.ofNat len)] 7)) (Tl.setTop (mkF m 3 #[.val (.ref b), .val (.int (Int32.ofNat (o + i))), .val (.ref d), .val (.int (Int32.ofNat (q + i))), .val (.int (Int32.ofNat len)), .val (.int (Int32.ofNat i)), z] [])) → ∃ (T' : State) (B' : Cell) (z' : Slot), Stand p l e { frames := 0, locals := 0, cells := 0, slots := 0 } s m #[.ref b, .int (Int32.ofNat o), .ref d, .int (Int32.ofNat q), .int (Int32.ofNat len)] below meth c T' ([] ++ copyLocs d q len) 0 0 ∧ Put d B' s₁ T' ∧ Laid B B' q (q + len) (fun j => Value.int (lo8 (cv A (o + (j - q))))) ∧
      Steps p.tables e below (s₁.setTop (entryFrame m #[.ref b, .int (Int32.ofNat o), .ref d, .int (Int32.ofNat q), .int (Int32.ofNat len)] 7)) (T'.setTop (mkF m 3 #[.val (.ref b), .val (.int (Int32.ofNat (o + len))), .val (.ref d), .val (.int (Int32.ofNat (q + len))), .val (.int (Int32.ofNat len)), .val (.int (Int32.ofNat len)), z'] [])) := by
    intro r
    induction r with
    | zero =>
      intro i hi z hz Tl Bk Xl pl fl cl
      have hil : i = len := by omega
      rw [hil] at Xl fl cl
      exact ⟨Tl, Bk, z, Xl, pl, fl, cl⟩
    | succ r ih =>
      intro i hi z hz Tl Bk Xl pl fl cl
      have all := X0.warmed.alike.symm.trans Xl.warmed.alike
      have hAl := hA0.keep all (pl.other hne hA0.1)
      have hBk := hB0.like all pl.1 fl.1 fl.2.1 fl.2.2.1
      have hlt : q + i < Bk.slots.size := by rw [fl.2.2.1]; omega
      have c3 : Steps p.tables e below (s₁.setTop (entryFrame m #[.ref b, .int (Int32.ofNat o), .ref d, .int (Int32.ofNat q), .int (Int32.ofNat len)] 7)) (Tl.setTop (mkF m 12 #[.val (.ref b), .val (.int (Int32.ofNat (o + i))), .val (.ref d), .val (.int (Int32.ofNat (q + i))), .val (.int (Int32.ofNat len)), .val (.int (Int32.ofNat i)), z] [.int (Int32.ofNat (o + i)), .ref b])) := cl.trans (by
        refine XS.iload Xl.here hexec rfl (hb hbytes d3) rfl ?_
        refine XS.iload Xl.here hexec rfl (hb hbytes d5) rfl ?_
        refine XS.icmpNo Xl.here hexec rfl (hb hbytes d7) rfl (ii_ge_f (lt32 (by omega) (by omega))) ?_
        refine XS.aloadN Xl.here hexec rfl (hb hbytes d10) rfl rfl ?_
        refine XS.iloadN Xl.here hexec rfl (hb hbytes d11) rfl ?_
        exact Steps.refl _)
      have c4 : Steps p.tables e below (s₁.setTop (entryFrame m #[.ref b, .int (Int32.ofNat o), .ref d, .int (Int32.ofNat q), .int (Int32.ofNat len)] 7)) (Tl.setTop (mkF m 13 #[.val (.ref b), .val (.int (Int32.ofNat (o + i))), .val (.ref d), .val (.int (Int32.ofNat (q + i))), .val (.int (Int32.ofNat len)), .val (.int (Int32.ofNat i)), z] [.int (cv A (o + i))])) := c3.trans (by
        refine Xl.aget hexec hAl rfl (hA.get (i := o + i) (by omega)) rfl rfl (hb hbytes d12) ?_
        exact Steps.refl _)
      have c5 : Steps p.tables e below (s₁.setTop (entryFrame m #[.ref b, .int (Int32.ofNat o), .ref d, .int (Int32.ofNat q), .int (Int32.ofNat len)] 7)) (Tl.setTop (mkF m 15 #[.val (.ref b), .val (.int (Int32.ofNat (o + i))), .val (.ref d), .val (.int (Int32.ofNat (q + i))), .val (.int (Int32.ofNat len)), .val (.int (Int32.ofNat i)), .val (.int (cv A (o + i)))] [])) := c4.trans (by
        refine XS.istoreS Xl.here hexec rfl (hb hbytes d13) rfl rfl hz ?_
        exact Steps.refl _)
      have c6 : Steps p.tables e below (s₁.setTop (entryFrame m #[.ref b, .int (Int32.ofNat o), .ref d, .int (Int32.ofNat q), .int (Int32.ofNat len)] 7)) (Tl.setTop (mkF m 31 #[.val (.ref b), .val (.int (Int32.ofNat (o + i))), .val (.ref d), .val (.int (Int32.ofNat (q + i))), .val (.int (Int32.ofNat len)), .val (.int (Int32.ofNat i)), .val (.int (cv A (o + i)))] [.int (lo8 (cv A (o + i))), .int (Int32.ofNat (q + i)), .ref d])) := c5.trans (by
        refine XS.iload Xl.here hexec rfl (hb hbytes d15) rfl ?_
        refine sipushV Xl.here hexec rfl 255 (hb hbytes d17) (by decide) ?_
        refine XS.icmpYes Xl.here hexec rfl (pc0 := 20) rfl (hb hbytes d20) rfl (ii_le_t (hp i (by omega))) (by decide) rfl ?_
        refine XS.aloadN Xl.here hexec rfl (hb hbytes d26) rfl rfl ?_
        refine XS.iloadN Xl.here hexec rfl (hb hbytes d27) rfl ?_
        refine XS.iload Xl.here hexec rfl (hb hbytes d28) rfl ?_
        refine i2b Xl.here hexec rfl (hb hbytes d30) rfl ?_
        exact Steps.refl _)
      obtain ⟨T7, X7, p7, st7⟩ := Xl.aput hexec hBk rfl hlt rfl (fits_lo8 (cv A (o + i))) (g := (mkF m 31 #[.val (.ref b), .val (.int (Int32.ofNat (o + i))), .val (.ref d), .val (.int (Int32.ofNat (q + i))), .val (.int (Int32.ofNat len)), .val (.int (Int32.ofNat i)), .val (.int (cv A (o + i)))] [.int (lo8 (cv A (o + i))), .int (Int32.ofNat (q + i)), .ref d])) rfl (rest := []) rfl (hb hbytes d31)
      have c8 : Steps p.tables e below (s₁.setTop (entryFrame m #[.ref b, .int (Int32.ofNat o), .ref d, .int (Int32.ofNat q), .int (Int32.ofNat len)] 7)) (T7.setTop (mkF m 32 #[.val (.ref b), .val (.int (Int32.ofNat (o + i))), .val (.ref d), .val (.int (Int32.ofNat (q + i))), .val (.int (Int32.ofNat len)), .val (.int (Int32.ofNat i)), .val (.int (cv A (o + i)))] [])) := c6.trans (st7 _ (Steps.refl _))
      have c9 : Steps p.tables e below (s₁.setTop (entryFrame m #[.ref b, .int (Int32.ofNat o), .ref d, .int (Int32.ofNat q), .int (Int32.ofNat len)] 7)) (T7.setTop (mkF m 3 #[.val (.ref b), .val (.int (Int32.ofNat (o + i) + 1)), .val (.ref d), .val (.int (Int32.ofNat (q + i) + 1)), .val (.int (Int32.ofNat len)), .val (.int (Int32.ofNat i + 1)), .val (.int (cv A (o + i)))] [])) := c8.trans (by
        refine iincV X7.here hexec rfl 1 (hb hbytes d32) (by decide) rfl rfl ?_
        refine iincV X7.here hexec rfl 1 (hb hbytes d35) (by decide) rfl rfl ?_
        refine iincV X7.here hexec rfl 1 (hb hbytes d38) (by decide) rfl rfl ?_
        refine XS.goto X7.here hexec rfl (pc0 := 41) rfl (hb hbytes d41) (by decide) rfl ?_
        exact Steps.refl _)
      have c10 : Steps p.tables e below (s₁.setTop (entryFrame m #[.ref b, .int (Int32.ofNat o), .ref d, .int (Int32.ofNat q), .int (Int32.ofNat len)] 7)) (T7.setTop (mkF m 3 #[.val (.ref b), .val (.int (Int32.ofNat (o + (i + 1)))), .val (.ref d), .val (.int (Int32.ofNat (q + (i + 1)))), .val (.int (Int32.ofNat len)), .val (.int (Int32.ofNat (i + 1))), .val (.int (cv A (o + i)))] [])) := by
        have := c9
        rw [succ32, succ32, succ32] at this
        exact this
      exact ih (i + 1) (by omega) _ (Or.inr ⟨_, rfl, rfl⟩) T7 _ (by rw [copyLocs_step, ← List.append_assoc]; exact X7) (pl.trans p7) (fl.step (by omega) hlt (by simp)) c10
  obtain ⟨T9, B9, z9, X9, p9, f9, g9⟩ := loop len 0 (by omega) .unset (Or.inl rfl) s₁ B (by simpa [copyLocs] using X0) ⟨hB0.1, fun _ _ => rfl, rfl⟩ (Laid.zero _ _ _) c2
  have c11 : Steps p.tables e below (s₁.setTop (entryFrame m #[.ref b, .int (Int32.ofNat o), .ref d, .int (Int32.ofNat q), .int (Int32.ofNat len)] 7)) (T9.setTop (mkF m 46 #[.val (.ref b), .val (.int (Int32.ofNat (o + len))), .val (.ref d), .val (.int (Int32.ofNat (q + len))), .val (.int (Int32.ofNat len)), .val (.int (Int32.ofNat len)), z9] [.int (Int32.ofNat len)])) := g9.trans (by
    refine XS.iload X9.here hexec rfl (hb hbytes d3) rfl ?_
    refine XS.iload X9.here hexec rfl (hb hbytes d5) rfl ?_
    refine XS.icmpYes X9.here hexec rfl (pc0 := 7) rfl (hb hbytes d7) rfl (ii_ge_t (nlt32 (by omega) (Nat.le_refl _))) (by decide) rfl ?_
    refine XS.iload X9.here hexec rfl (hb hbytes d44) rfl ?_
    exact Steps.refl _)
  exact ⟨T9, some (.int (Int32.ofNat len)), _, _, _, X9, by simp, rfl, rfl, (fun h => by cases h), ⟨rfl, B9, p9.from hh0, f9⟩, fun fs hl => c11.trans (X9.ireturnOut hexec hret rfl (Or.inl rfl) (hb hbytes d46) hl)⟩
end Cmp5
namespace Cmp3
def yN : MethodName := ⟨"java/lang/StringUTF16", "compress", "([CII)[B"⟩
abbrev yB : ByteArray := jdk_52_method_16_code
theorem d0 : decode yB 0 = .ok (.iload_n 2, 1) := by decide +kernel
theorem d1 : decode yB 1 = .ok (.newarray .byte, 2) := by decide +kernel
theorem d3 : decode yB 3 = .ok (.astore_n 3, 1) := by decide +kernel
theorem d4 : decode yB 4 = .ok (.aload_n 0, 1) := by decide +kernel
theorem d5 : decode yB 5 = .ok (.iload_n 1, 1) := by decide +kernel
theorem d6 : decode yB 6 = .ok (.aload_n 3, 1) := by decide +kernel
theorem d7 : decode yB 7 = .ok (.iconst 0, 1) := by decide +kernel
theorem d8 : decode yB 8 = .ok (.iload_n 2, 1) := by decide +kernel
theorem d9 : decode yB 9 = .ok (.invokestatic 115, 3) := by decide +kernel
theorem d12 : decode yB 12 = .ok (.istore 4, 2) := by decide +kernel
theorem d14 : decode yB 14 = .ok (.iload 4, 2) := by decide +kernel
theorem d16 : decode yB 16 = .ok (.iload_n 2, 1) := by decide +kernel
theorem d17 : decode yB 17 = .ok (.if_icmp (.eq) 40, 3) := by decide +kernel
theorem d57 : decode yB 57 = .ok (.aload_n 3, 1) := by decide +kernel
theorem d58 : decode yB 58 = .ok (.areturn, 1) := by decide +kernel
def site : List Cond := [.arrayClass .byte, Cmp5.tab] ++ staticW U16 115 Cmp5.yN
def tab : Cond := tabOf yN yB 6 (some (.array .byte)) site
def P (b : Addr) (A : Cell) (o len : Nat) (args : Array Value) (s : State) : Prop := args = #[.ref b, .int (Int32.ofNat o), .int (Int32.ofNat len)] ∧ Ch b A s ∧ o + len ≤ A.slots.size ∧ len ≤ 536870912 ∧ ∀ i, i < len → ¬ 255 < cv A (o + i)
def E (b : Addr) (A : Cell) (o len : Nat) (r : Option Value) (s u : State) : Prop := NewArr .byte "[B" len (fun j => .int (lo8 (cv A (o + j)))) r s u ∧ u.heap.size = s.heap.size + 1
/-- no char of the range above 255: a new byte[] of their low bytes -/
theorem law (l : Launch) (b : Addr) (A : Cell) (o len : Nat) : Law l yN 3 3 1 18 yB 6 (some (.array .byte)) site (P b A o len) (E b A o len) [] 1 len := by
  refine Law.of_walk (plainFor_of_name (by decide +kernel)) (by decide +kernel) (by decide +kernel) (by decide) (fun _ _ h => by rw [h.1]; rfl) (fun _ U U' hal hh h => ⟨h.1, h.2.1.mv hal hh, h.2.2⟩) (fun r U U' V V' h1 hal h2 h => ⟨NewArr.mv r U U' V V' h1 hal h2 h.1, by rw [h1, h2]; exact h.2⟩) ?_
  intro p e s m args below meth c s₁ X0 hexec hbytes hml hret hlk hnm hown hh0 W hP
  obtain ⟨rfl, hA, l1, l2, hp⟩ := hP
  have a31 := hA.1.2.2.2
  have c1 : Steps p.tables e below (s₁.setTop (entryFrame m #[.ref b, .int (Int32.ofNat o), .int (Int32.ofNat len)] 6)) (s₁.setTop (mkF m 0 #[.val (.ref b), .val (.int (Int32.ofNat o)), .val (.int (Int32.ofNat len)), .unset, .unset, .unset] [])) := entry rfl
  have c2 : Steps p.tables e below (s₁.setTop (entryFrame m #[.ref b, .int (Int32.ofNat o), .int (Int32.ofNat len)] 6)) (s₁.setTop (mkF m 1 #[.val (.ref b), .val (.int (Int32.ofNat o)), .val (.int (Int32.ofNat len)), .unset, .unset, .unset] [.int (Int32.ofNat len)])) := c1.trans (by
    refine XS.iloadN X0.here hexec rfl (hb hbytes d0) rfl ?_
    exact Steps.refl _)
  obtain ⟨T3, B3, X3, ba3, bs3, bv3, bh3, bf3, st3⟩ := X0.anew hexec (atype := .byte) (wk W (.arrayClass .byte)) rfl (by show len * 1 ≤ _; omega) (by omega) (g := (mkF m 1 #[.val (.ref b), .val (.int (Int32.ofNat o)), .val (.int (Int32.ofNat len)), .unset, .unset, .unset] [.int (Int32.ofNat len)])) rfl (hb hbytes d1) (rest := []) rfl (Nat.le_refl _) (by show 0 + len ≤ len; omega)
  rw [hh0] at ba3 st3
  have kp3 : XT.Kept s T3 := (XT.Kept.of_eq hh0).push bh3
  have hA3 := hA.keep X3.warmed.alike (kp3 _ _ hA.1.1)
  have hne : b ≠ s.heap.size := hA.1.ne
  have c4 : Steps p.tables e below (s₁.setTop (entryFrame m #[.ref b, .int (Int32.ofNat o), .int (Int32.ofNat len)] 6)) (T3.setTop (mkF m 3 #[.val (.ref b), .val (.int (Int32.ofNat o)), .val (.int (Int32.ofNat len)), .unset, .unset, .unset] [.ref s.heap.size])) := c2.trans (st3 _ (Steps.refl _))
  have c5 : Steps p.tables e below (s₁.setTop (entryFrame m #[.ref b, .int (Int32.ofNat o), .int (Int32.ofNat len)] 6)) (T3.setTop (mkF m 9 #[.val (.ref b), .val (.int (Int32.ofNat o)), .val (.int (Int32.ofNat len)), .val (.ref s.heap.size), .unset, .unset] [.int (Int32.ofNat len), .int 0, .ref s.heap.size, .int (Int32.ofNat o), .ref b])) := c4.trans (by
    refine XS.astoreN X3.here hexec rfl (hb hbytes d3) rfl rfl rfl ?_
    refine XS.aloadN X3.here hexec rfl (hb hbytes d4) rfl rfl ?_
    refine XS.iloadN X3.here hexec rfl (hb hbytes d5) rfl ?_
    refine XS.aloadN X3.here hexec rfl (hb hbytes d6) rfl rfl ?_
    refine iconstV X3.here hexec rfl 0 (hb hbytes d7) (by decide) ?_
    refine XS.iloadN X3.here hexec rfl (hb hbytes d8) rfl ?_
    exact Steps.refl _)
  obtain ⟨v6, T6, X6, E6, g6⟩ := X3.callS hexec (Cmp5.law l b A s.heap.size B3 o 0 len) hown (wks W (staticW U16 115 Cmp5.yN)) (wk W Cmp5.tab) (W := 0) (Nat.le_of_ble_eq_true rfl) (Nat.le_of_ble_eq_true rfl) (Nat.le_refl _) (by show 0 + len + 0 ≤ len; omega) (g := (mkF m 9 #[.val (.ref b), .val (.int (Int32.ofNat o)), .val (.int (Int32.ofNat len)), .val (.ref s.heap.size), .unset, .unset] [.int (Int32.ofNat len), .int (Int32.ofNat 0), .ref s.heap.size, .int (Int32.ofNat o), .ref b])) rfl (by rw [hml]; rfl) c5 (argsL := [.ref b, .int (Int32.ofNat o), .ref s.heap.size, .int (Int32.ofNat 0), .int (Int32.ofNat len)]) (rest := []) rfl rfl (by show 2 * 0 + 0 ≤ _; decide) (hb hbytes d9) (⟨rfl, hA3, ba3, hne, l1, by rw [bs3]; simp, hp⟩)
  obtain ⟨rfl, B6, p6, f6⟩ := E6
  have c7 : Steps p.tables e below (s₁.setTop (entryFrame m #[.ref b, .int (Int32.ofNat o), .int (Int32.ofNat len)] 6)) (T6.setTop (mkF m 12 #[.val (.ref b), .val (.int (Int32.ofNat o)), .val (.int (Int32.ofNat len)), .val (.ref s.heap.size), .unset, .unset] [.int (Int32.ofNat len)])) := g6
  have c8 : Steps p.tables e below (s₁.setTop (entryFrame m #[.ref b, .int (Int32.ofNat o), .int (Int32.ofNat len)] 6)) (T6.setTop (mkF m 58 #[.val (.ref b), .val (.int (Int32.ofNat o)), .val (.int (Int32.ofNat len)), .val (.ref s.heap.size), .val (.int (Int32.ofNat len)), .unset] [.ref s.heap.size])) := c7.trans (by
    refine XS.istore X6.here hexec rfl (hb hbytes d12) rfl rfl ?_
    refine XS.iload X6.here hexec rfl (hb hbytes d14) rfl ?_
    refine XS.iloadN X6.here hexec rfl (hb hbytes d16) rfl ?_
    refine XS.icmpYes X6.here hexec rfl (pc0 := 17) rfl (hb hbytes d17) rfl (ii_eq_t rfl) (by decide) rfl ?_
    refine XS.aloadN X6.here hexec rfl (hb hbytes d57) rfl rfl ?_
    exact Steps.refl _)
  have X8 := X6.wide (L' := []) (cells' := 1) (slots' := len) (fun x hx hlt => by
    simp only [List.nil_append, copyLocs, List.mem_map, List.mem_range] at hx
    obtain ⟨i, -, rfl⟩ := hx
    exact absurd hlt (Nat.lt_irrefl _)) (Nat.le_refl _) (by omega)
  exact ⟨T6, some (.ref s.heap.size), _, _, _, X8, rfl, rfl, rfl, (fun h => by cases h), ⟨⟨rfl, B6, ba3.like (X3.warmed.alike.symm.trans X6.warmed.alike) p6.1 f6.1 f6.2.1 f6.2.2.1, f6.2.1.trans bv3, by rw [X6.warmed.alike.findClass, f6.1]; exact bf3, by rw [f6.2.2.1, bs3]; simp, fun j hj => by rw [f6.2.2.2 j, if_pos (by omega)]; rfl, kp3.put p6 (Nat.le_refl _)⟩, by rw [p6.2.2, bh3, hh0]; simp⟩, fun fs hl => c8.trans (X8.areturnOut hexec rfl hret rfl (hb hbytes d58) hl)⟩
end Cmp3
namespace CodL
def yN : MethodName := ⟨"java/lang/StringUTF16", "coderFromArrayLen", "([BI)B"⟩
abbrev yB : ByteArray := jdk_52_method_15_code
theorem d0 : decode yB 0 = .ok (.iload_n 1, 1) := by decide +kernel
theorem d1 : decode yB 1 = .ok (.aload_n 0, 1) := by decide +kernel
theorem d2 : decode yB 2 = .ok (.arraylength, 1) := by decide +kernel
theorem d3 : decode yB 3 = .ok (.isub, 1) := by decide +kernel
theorem d4 : decode yB 4 = .ok (.bipush 31, 2) := by decide +kernel
theorem d6 : decode yB 6 = .ok (.iushr, 1) := by decide +kernel
theorem d7 : decode yB 7 = .ok (.i2b, 1) := by decide +kernel
theorem d8 : decode yB 8 = .ok (.ireturn, 1) := by decide +kernel
def site : List Cond := []
def tab : Cond := tabOf yN yB 2 (some .byte) site
def P (d : Addr) (B : Cell) (args : Array Value) (s : State) : Prop := args = #[.ref d, .int (Int32.ofNat B.slots.size)] ∧ Arr .byte d B s
def E (r : Option Value) (s u : State) : Prop := XT.PureE (some (.int 0)) r s u
/-- an array as long as the number of chars: LATIN1 -/
theorem law (l : Launch) (d : Addr) (B : Cell) : Law l yN 2 2 0 0 yB 2 (some .byte) site (P d B) E [] 0 0 := by
  refine Law.of_walk (plainFor_of_name (by decide +kernel)) (by decide +kernel) (by decide +kernel) (by decide) (fun _ _ h => by rw [h.1]; rfl) (fun _ U U' hal hh h => ⟨h.1, h.2.mv hal hh⟩) (fun r U U' V V' h1 hal h2 h => XT.PureE.mv r U U' V V' h1 hal h2 h) ?_
  intro p e s m args below meth c s₁ X0 hexec hbytes hml hret hlk hnm hown hh0 W hP
  obtain ⟨rfl, hB⟩ := hP
  have hB0 := hB.mv X0.warmed.alike hh0
  have c1 : Steps p.tables e below (s₁.setTop (entryFrame m #[.ref d, .int (Int32.ofNat B.slots.size)] 2)) (s₁.setTop (mkF m 0 #[.val (.ref d), .val (.int (Int32.ofNat B.slots.size))] [])) := entry rfl
  have c2 : Steps p.tables e below (s₁.setTop (entryFrame m #[.ref d, .int (Int32.ofNat B.slots.size)] 2)) (s₁.setTop (mkF m 2 #[.val (.ref d), .val (.int (Int32.ofNat B.slots.size))] [.ref d, .int (Int32.ofNat B.slots.size)])) := c1.trans (by
    refine XS.iloadN X0.here hexec rfl (hb hbytes d0) rfl ?_
    refine XS.aloadN X0.here hexec rfl (hb hbytes d1) rfl rfl ?_
    exact Steps.refl _)
  have c3 : Steps p.tables e below (s₁.setTop (entryFrame m #[.ref d, .int (Int32.ofNat B.slots.size)] 2)) (s₁.setTop (mkF m 8 #[.val (.ref d), .val (.int (Int32.ofNat B.slots.size))] [.int (lo8 (ushr (Int32.ofNat B.slots.size - Int32.ofNat B.slots.size) 31))])) := c2.trans (by
    refine X0.alen hexec hB0 rfl rfl (hb hbytes d2) ?_
    refine XS.isub X0.here hexec rfl (hb hbytes d3) rfl ?_
    refine bipushV X0.here hexec rfl 31 (hb hbytes d4) (by decide) ?_
    refine iushr X0.here hexec rfl (hb hbytes d6) rfl ?_
    refine i2b X0.here hexec rfl (hb hbytes d7) rfl ?_
    exact Steps.refl _)
  have e0 : lo8 (ushr (Int32.ofNat B.slots.size - Int32.ofNat B.slots.size) 31) = 0 := by rw [Int32.sub_self]; decide
  rw [e0] at c3
  exact ⟨s₁, some (.int 0), _, _, _, X0, rfl, rfl, rfl, (fun h => by cases h), ⟨rfl, hh0⟩, fun fs hl => c3.trans (X0.ireturnOut hexec hret rfl (Or.inr (Or.inr (Or.inl rfl))) (hb hbytes d8) hl)⟩
end CodL
/-- the String at a is Latin-1 over a new byte[] (the heap's one new cell): the low bytes of the len chars of A from o on; every cell but a is kept -/
def Got (a : Addr) (D : Cell) (fV fC : Field) (A : Cell) (o len : Nat) (r : Option Value) (s u : State) : Prop := r = none ∧ ∃ D' V : Cell, Blank "java/lang/String" a D' u ∧ Same D D' [fV.slot, fC.slot] ∧ D'.slots[fV.slot]? = some (.ref s.heap.size) ∧ D'.slots[fC.slot]? = some (.int 0) ∧ Arr .byte s.heap.size V u ∧ V.vm = .none ∧ u.vm.findClass "[B" = some V.cls ∧ V.slots.size = len ∧ (∀ j, j < len → V.slots[j]? = some (.int (lo8 (cv A (o + j))))) ∧ (∀ (y : Addr) (c : Cell), y ≠ a → s.heap[y]? = some c → u.heap[y]? = some c) ∧ u.heap.size = s.heap.size + 1
theorem Got.mv {a : Addr} {D A : Cell} {fV fC : Field} {o len : Nat} : ∀ r (U U' V V' : State), U'.heap = U.heap → V.vm.Alike V'.vm → V'.heap = V.heap → Got a D fV fC A o len r U V → Got a D fV fC A o len r U' V' :=
  fun r U U' V V' h1 hal h2 ⟨e0, D', X, a1, a2, a3, a4, a5, a6, a7, a8, a9, a10, a11⟩ => ⟨e0, D', X, a1.mv hal h2, a2, by rw [h1]; exact a3, a4, by rw [h1]; exact a5.mv hal h2, a6, by rw [hal.findClass]; exact a7, a8, a9, by rw [h1, h2]; exact a10, by rw [h1, h2]; exact a11⟩
namespace New4
def yN : MethodName := ⟨"java/lang/String", "<init>", "([CIILjava/lang/Void;)V"⟩
abbrev yB : ByteArray := jdk_42_method_149_code
theorem d0 : decode yB 0 = .ok (.aload_n 0, 1) := by decide +kernel
theorem d1 : decode yB 1 = .ok (.invokespecial 1, 3) := by decide +kernel
theorem d4 : decode yB 4 = .ok (.iload_n 3, 1) := by decide +kernel
theorem d5 : decode yB 5 = .ok (.ifCond (.ne) 22, 3) := by decide +kernel
theorem d27 : decode yB 27 = .ok (.getstatic 38, 3) := by decide +kernel
theorem d30 : decode yB 30 = .ok (.ifCond (.eq) 28, 3) := by decide +kernel
theorem d33 : decode yB 33 = .ok (.aload_n 1, 1) := by decide +kernel
theorem d34 : decode yB 34 = .ok (.iload_n 2, 1) := by decide +kernel
theorem d35 : decode yB 35 = .ok (.iload_n 3, 1) := by decide +kernel
theorem d36 : decode yB 36 = .ok (.invokestatic 177, 3) := by decide +kernel
theorem d39 : decode yB 39 = .ok (.astore 5, 2) := by decide +kernel
theorem d41 : decode yB 41 = .ok (.aload_n 0, 1) := by decide +kernel
theorem d42 : decode yB 42 = .ok (.aload 5, 2) := by decide +kernel
theorem d44 : decode yB 44 = .ok (.iload_n 3, 1) := by decide +kernel
theorem d45 : decode yB 45 = .ok (.invokestatic 47, 3) := by decide +kernel
theorem d48 : decode yB 48 = .ok (.putfield 15, 3) := by decide +kernel
theorem d51 : decode yB 51 = .ok (.aload_n 0, 1) := by decide +kernel
theorem d52 : decode yB 52 = .ok (.aload 5, 2) := by decide +kernel
theorem d54 : decode yB 54 = .ok (.putfield 9, 3) := by decide +kernel
theorem d57 : decode yB 57 = .ok (.return_, 1) := by decide +kernel
def site : List Cond := [.fieldLink "java/lang/String" 38 "java/lang/String" "COMPACT_STRINGS" "Z", Cmp3.tab, CodL.tab, .laysFinal "java/lang/String" "java/lang/String" "value" "[B", .fieldLink "java/lang/String" 9 "java/lang/String" "value" "[B", .laysFinal "java/lang/String" "java/lang/String" "coder" "B", .fieldLink "java/lang/String" 15 "java/lang/String" "coder" "B"] ++ objW "java/lang/String" 1 ++ staticW "java/lang/String" 177 Cmp3.yN ++ staticW "java/lang/String" 47 CodL.yN
def tab : Cond := tabOf yN yB 6 none site
def P (a : Addr) (D : Cell) (fV fC : Field) (b : Addr) (A : Cell) (z : Int32) (o len : Nat) (args : Array Value) (s : State) : Prop := args = #[.ref a, .ref b, .int (Int32.ofNat o), .int (Int32.ofNat len), .null] ∧ Blank "java/lang/String" a D s ∧ Found "java/lang/String" "value" "[B" fV s ∧ Found "java/lang/String" "coder" "B" fC s ∧ Ch b A s ∧ StaticIs s "java/lang/String" "COMPACT_STRINGS" "Z" (.int z) ∧ ¬ z = 0 ∧ 0 < len ∧ o + len ≤ A.slots.size ∧ len ≤ 536870912 ∧ ∀ i, i < len → ¬ 255 < cv A (o + i)
def E (a : Addr) (D : Cell) (fV fC : Field) (A : Cell) (o len : Nat) (r : Option Value) (s u : State) : Prop := Got a D fV fC A o len r s u
/-- len > 0, no char of the range above 255: a Latin-1 String of their low bytes -/
theorem law (l : Launch) (a : Addr) (D : Cell) (fV fC : Field) (b : Addr) (A : Cell) (z : Int32) (o len : Nat) : Law l yN 5 4 2 35 yB 6 none site (P a D fV fC b A z o len) (E a D fV fC A o len) [⟨a, fC.slot⟩, ⟨a, fV.slot⟩] 1 len := by
  refine Law.of_walk (plainFor_of_name (by decide +kernel)) (by decide +kernel) (by decide +kernel) (by decide) (fun _ _ h => by rw [h.1]; rfl) (fun _ U U' hal hh h => ⟨h.1, h.2.1.mv hal hh, h.2.2.1.al hal, h.2.2.2.1.al hal, h.2.2.2.2.1.mv hal hh, h.2.2.2.2.2.1.there hal hh, h.2.2.2.2.2.2⟩) (fun r U U' V V' h1 hal h2 h => Got.mv r U U' V V' h1 hal h2 h) ?_
  intro p e s m args below meth c s₁ X0 hexec hbytes hml hret hlk hnm hown hh0 W hP
  obtain ⟨rfl, hB, f1, f2, hA, s1, hz, l0, l1, l2, hp⟩ := hP
  have a31 := hA.1.2.2.2
  have c1 : Steps p.tables e below (s₁.setTop (entryFrame m #[.ref a, .ref b, .int (Int32.ofNat o), .int (Int32.ofNat len), .null] 6)) (s₁.setTop (mkF m 0 #[.val (.ref a), .val (.ref b), .val (.int (Int32.ofNat o)), .val (.int (Int32.ofNat len)), .val .null, .unset] [])) := entry rfl
  have c2 : Steps p.tables e below (s₁.setTop (entryFrame m #[.ref a, .ref b, .int (Int32.ofNat o), .int (Int32.ofNat len), .null] 6)) (s₁.setTop (mkF m 1 #[.val (.ref a), .val (.ref b), .val (.int (Int32.ofNat o)), .val (.int (Int32.ofNat len)), .val .null, .unset] [.ref a])) := c1.trans (by
    refine XS.aloadN X0.here hexec rfl (hb hbytes d0) rfl rfl ?_
    exact Steps.refl _)
  obtain ⟨T3, X3, q3, st3⟩ := X0.oinit hexec hown (wks W (objW "java/lang/String" 1)) (g := (mkF m 1 #[.val (.ref a), .val (.ref b), .val (.int (Int32.ofNat o)), .val (.int (Int32.ofNat len)), .val .null, .unset] [.ref a])) rfl (by rw [hml]; rfl) (rest := []) rfl (hb hbytes d1) (W := 0) (by show 2 * 0 + 0 ≤ _; decide) (Nat.le_of_ble_eq_true rfl) (Nat.le_of_ble_eq_true rfl)
  have hh3 := q3.trans hh0
  have c4 : Steps p.tables e below (s₁.setTop (entryFrame m #[.ref a, .ref b, .int (Int32.ofNat o), .int (Int32.ofNat len), .null] 6)) (T3.setTop (mkF m 27 #[.val (.ref a), .val (.ref b), .val (.int (Int32.ofNat o)), .val (.int (Int32.ofNat len)), .val .null, .unset] [])) := (c2.trans (st3 _ (Steps.refl _))).trans (by
    refine XS.iloadN X3.here hexec rfl (hb hbytes d4) rfl ?_
    refine XS.ifYes X3.here hexec rfl (pc0 := 5) rfl (hb hbytes d5) rfl (i0_ne_t (nz32 (by omega) l0)) (by decide) rfl ?_
    exact Steps.refl _)
  obtain ⟨T5, X5, q5, st5⟩ := X3.sget hexec hown (wk W (.fieldLink "java/lang/String" 38 "java/lang/String" "COMPACT_STRINGS" "Z")) s1 (fun _ _ h => by rw [hh3]; exact h) (g := (mkF m 27 #[.val (.ref a), .val (.ref b), .val (.int (Int32.ofNat o)), .val (.int (Int32.ofNat len)), .val .null, .unset] [])) rfl (hb hbytes d27)
  have hh5 := q5.trans hh3
  have c6 : Steps p.tables e below (s₁.setTop (entryFrame m #[.ref a, .ref b, .int (Int32.ofNat o), .int (Int32.ofNat len), .null] 6)) (T5.setTop (mkF m 30 #[.val (.ref a), .val (.ref b), .val (.int (Int32.ofNat o)), .val (.int (Int32.ofNat len)), .val .null, .unset] [.int z])) := c4.trans (st5 _ (Steps.refl _))
  have c7 : Steps p.tables e below (s₁.setTop (entryFrame m #[.ref a, .ref b, .int (Int32.ofNat o), .int (Int32.ofNat len), .null] 6)) (T5.setTop (mkF m 36 #[.val (.ref a), .val (.ref b), .val (.int (Int32.ofNat o)), .val (.int (Int32.ofNat len)), .val .null, .unset] [.int (Int32.ofNat len), .int (Int32.ofNat o), .ref b])) := c6.trans (by
    refine XS.ifNo X5.here hexec rfl (hb hbytes d30) rfl (i0_eq_f hz) ?_
    refine XS.aloadN X5.here hexec rfl (hb hbytes d33) rfl rfl ?_
    refine XS.iloadN X5.here hexec rfl (hb hbytes d34) rfl ?_
    refine XS.iloadN X5.here hexec rfl (hb hbytes d35) rfl ?_
    exact Steps.refl _)
  obtain ⟨v8, T8, X8, E8, g8⟩ := X5.callS hexec (Cmp3.law l b A o len) hown (wks W (staticW "java/lang/String" 177 Cmp3.yN)) (wk W Cmp3.tab) (W := 0) (Nat.le_of_ble_eq_true rfl) (Nat.le_of_ble_eq_true rfl) (Nat.le_refl _) (by show 0 + len ≤ len; omega) (g := (mkF m 36 #[.val (.ref a), .val (.ref b), .val (.int (Int32.ofNat o)), .val (.int (Int32.ofNat len)), .val .null, .unset] [.int (Int32.ofNat len), .int (Int32.ofNat o), .ref b])) rfl (by rw [hml]; rfl) c7 (argsL := [.ref b, .int (Int32.ofNat o), .int (Int32.ofNat len)]) (rest := []) rfl rfl (by show 2 * 0 + 0 ≤ _; decide) (hb hbytes d36) (⟨rfl, hA.mv X5.warmed.alike hh5, l1, l2, hp⟩)
  obtain ⟨e8, z8⟩ := E8
  obtain ⟨rfl, N, n1, n2, n3, n4, n5, n6⟩ := NewArr.mv _ T5 s _ _ hh5.symm (Vm.Alike.refl _) rfl e8
  rw [hh5] at z8
  have hB1 := hB.keep X8.warmed.alike (n6 _ _ hB.1)
  have hne : s.heap.size ≠ a := (Nat.ne_of_lt (Array.getElem?_eq_some_iff.mp hB.1).1).symm
  have c9 : Steps p.tables e below (s₁.setTop (entryFrame m #[.ref a, .ref b, .int (Int32.ofNat o), .int (Int32.ofNat len), .null] 6)) (T8.setTop (mkF m 39 #[.val (.ref a), .val (.ref b), .val (.int (Int32.ofNat o)), .val (.int (Int32.ofNat len)), .val .null, .unset] [.ref s.heap.size])) := g8
  have c10 : Steps p.tables e below (s₁.setTop (entryFrame m #[.ref a, .ref b, .int (Int32.ofNat o), .int (Int32.ofNat len), .null] 6)) (T8.setTop (mkF m 45 #[.val (.ref a), .val (.ref b), .val (.int (Int32.ofNat o)), .val (.int (Int32.ofNat len)), .val .null, .val (.ref s.heap.size)] [.int (Int32.ofNat N.slots.size), .ref s.heap.size, .ref a])) := by
    have hc : Steps p.tables e below (s₁.setTop (entryFrame m #[.ref a, .ref b, .int (Int32.ofNat o), .int (Int32.ofNat len), .null] 6)) (T8.setTop (mkF m 45 #[.val (.ref a), .val (.ref b), .val (.int (Int32.ofNat o)), .val (.int (Int32.ofNat len)), .val .null, .val (.ref s.heap.size)] [.int (Int32.ofNat len), .ref s.heap.size, .ref a])) := c9.trans (by
      refine XS.astore X8.here hexec rfl (hb hbytes d39) rfl rfl rfl ?_
      refine XS.aloadN X8.here hexec rfl (hb hbytes d41) rfl rfl ?_
      refine XS.aload X8.here hexec rfl (hb hbytes d42) rfl rfl ?_
      refine XS.iloadN X8.here hexec rfl (hb hbytes d44) rfl ?_
      exact Steps.refl _)
    rw [n4]; exact hc
  obtain ⟨v11, T11, X11, E11, g11⟩ := X8.callS hexec (CodL.law l s.heap.size N) hown (wks W (staticW "java/lang/String" 47 CodL.yN)) (wk W CodL.tab) (W := 1) (Nat.le_of_ble_eq_true rfl) (Nat.le_of_ble_eq_true rfl) (Nat.le_refl _) (by show 0 + len + 0 ≤ len; omega) (g := (mkF m 45 #[.val (.ref a), .val (.ref b), .val (.int (Int32.ofNat o)), .val (.int (Int32.ofNat len)), .val .null, .val (.ref s.heap.size)] [.int (Int32.ofNat N.slots.size), .ref s.heap.size, .ref a])) rfl (by rw [hml]; rfl) c10 (argsL := [.ref s.heap.size, .int (Int32.ofNat N.slots.size)]) (rest := [.ref a]) rfl rfl (by show 2 * 0 + (1 + 0) ≤ _; decide) (hb hbytes d45) (⟨rfl, n1⟩)
  obtain ⟨rfl, q11⟩ := E11
  have hB11 := hB1.mv (X8.warmed.alike.symm.trans X11.warmed.alike) q11
  have c12 : Steps p.tables e below (s₁.setTop (entryFrame m #[.ref a, .ref b, .int (Int32.ofNat o), .int (Int32.ofNat len), .null] 6)) (T11.setTop (mkF m 48 #[.val (.ref a), .val (.ref b), .val (.int (Int32.ofNat o)), .val (.int (Int32.ofNat len)), .val .null, .val (.ref s.heap.size)] [.int 0, .ref a])) := g11
  obtain ⟨T13, X13, p13, bl13, sl13, st13⟩ := X11.finit hexec hown (wk W (.fieldLink "java/lang/String" 15 "java/lang/String" "coder" "B")) (Or.inr ⟨_, (wk W (.laysFinal "java/lang/String" "java/lang/String" "coder" "B"))⟩) (Or.inl ⟨rfl, hnm⟩) f2 (Or.inl rfl) hB11 (t := .byte) (by decide +kernel) rfl (g := (mkF m 48 #[.val (.ref a), .val (.ref b), .val (.int (Int32.ofNat o)), .val (.int (Int32.ofNat len)), .val .null, .val (.ref s.heap.size)] [.int 0, .ref a])) rfl (rest := []) rfl (hb hbytes d48)
  have c14 : Steps p.tables e below (s₁.setTop (entryFrame m #[.ref a, .ref b, .int (Int32.ofNat o), .int (Int32.ofNat len), .null] 6)) (T13.setTop (mkF m 54 #[.val (.ref a), .val (.ref b), .val (.int (Int32.ofNat o)), .val (.int (Int32.ofNat len)), .val .null, .val (.ref s.heap.size)] [.ref s.heap.size, .ref a])) := (c12.trans (st13 _ (Steps.refl _))).trans (by
    refine XS.aloadN X13.here hexec rfl (hb hbytes d51) rfl rfl ?_
    refine XS.aload X13.here hexec rfl (hb hbytes d52) rfl rfl ?_
    exact Steps.refl _)
  obtain ⟨T15, X15, p15, bl15, sl15, st15⟩ := X13.finit hexec hown (wk W (.fieldLink "java/lang/String" 9 "java/lang/String" "value" "[B")) (Or.inr ⟨_, (wk W (.laysFinal "java/lang/String" "java/lang/String" "value" "[B"))⟩) (Or.inl ⟨rfl, hnm⟩) f1 (Or.inl rfl) bl13 (t := (.array .byte)) (by decide +kernel) rfl (g := (mkF m 54 #[.val (.ref a), .val (.ref b), .val (.int (Int32.ofNat o)), .val (.int (Int32.ofNat len)), .val .null, .val (.ref s.heap.size)] [.ref s.heap.size, .ref a])) rfl (rest := []) rfl (hb hbytes d54)
  have c16 : Steps p.tables e below (s₁.setTop (entryFrame m #[.ref a, .ref b, .int (Int32.ofNat o), .int (Int32.ofNat len), .null] 6)) (T15.setTop (mkF m 57 #[.val (.ref a), .val (.ref b), .val (.int (Int32.ofNat o)), .val (.int (Int32.ofNat len)), .val .null, .val (.ref s.heap.size)] [])) := c14.trans (st15 _ (Steps.refl _))
  have ap := apart (Or.inr ⟨_, (wk W (.laysFinal "java/lang/String" "java/lang/String" "value" "[B"))⟩) (Or.inr ⟨_, (wk W (.laysFinal "java/lang/String" "java/lang/String" "coder" "B"))⟩) f1 f2 (t₁ := .array .byte) (t₂ := .byte) (by decide +kernel) (by decide +kernel) (by decide)
  have al := X8.warmed.alike.symm.trans X15.warmed.alike
  have n7 : T11.heap[s.heap.size]? = some N := by rw [q11]; exact n1.1
  exact ⟨T15, none, _, _, _, X15, by simp, rfl, by omega, (fun _ => rfl), ⟨rfl, _, N, bl15, ((Same.refl D _).set _ (by simp)).set _ (by simp), sl15, (Cell.slots_setSlot_ne _ ap).trans sl13, n1.keep al (p15.other hne (p13.other hne n7)), n2, by rw [al.findClass]; exact n3, n4, n5, fun y c h1 h2 => p15.other h1 (p13.other h1 (by rw [q11]; exact n6 y c h2)), by rw [p15.2.2, p13.2.2, q11]; exact z8⟩, fun fs hl => c16.trans (X15.returnOut hexec hret (hb hbytes d57) hl)⟩
end New4
namespace New1
def yN : MethodName := ⟨"java/lang/String", "<init>", "([C)V"⟩
abbrev yB : ByteArray := jdk_42_method_3_code
theorem d0 : decode yB 0 = .ok (.aload_n 0, 1) := by decide +kernel
theorem d1 : decode yB 1 = .ok (.aload_n 1, 1) := by decide +kernel
theorem d2 : decode yB 2 = .ok (.iconst 0, 1) := by decide +kernel
theorem d3 : decode yB 3 = .ok (.aload_n 1, 1) := by decide +kernel
theorem d4 : decode yB 4 = .ok (.arraylength, 1) := by decide +kernel
theorem d5 : decode yB 5 = .ok (.aconst_null, 1) := by decide +kernel
theorem d6 : decode yB 6 = .ok (.invokespecial 27, 3) := by decide +kernel
theorem d9 : decode yB 9 = .ok (.return_, 1) := by decide +kernel
def site : List Cond := [New4.tab] ++ initW "java/lang/String" 27 New4.yN
def tab : Cond := tabOf yN yB 2 none site
def P (a : Addr) (D : Cell) (fV fC : Field) (b : Addr) (A : Cell) (z : Int32) (args : Array Value) (s : State) : Prop := args = #[.ref a, .ref b] ∧ Blank "java/lang/String" a D s ∧ Found "java/lang/String" "value" "[B" fV s ∧ Found "java/lang/String" "coder" "B" fC s ∧ Ch b A s ∧ StaticIs s "java/lang/String" "COMPACT_STRINGS" "Z" (.int z) ∧ ¬ z = 0 ∧ 0 < A.slots.size ∧ A.slots.size ≤ 536870912 ∧ ∀ i, i < A.slots.size → ¬ 255 < cv A i
def E (a : Addr) (D : Cell) (fV fC : Field) (A : Cell) (r : Option Value) (s u : State) : Prop := Got a D fV fC A 0 A.slots.size r s u
/-- new String(chars), not empty, no char above 255: a Latin-1 String of their low bytes -/
theorem law (l : Launch) (a : Addr) (D : Cell) (fV fC : Field) (b : Addr) (A : Cell) (z : Int32) : Law l yN 2 1 3 52 yB 2 none site (P a D fV fC b A z) (E a D fV fC A) [⟨a, fC.slot⟩, ⟨a, fV.slot⟩] 1 A.slots.size := by
  refine Law.of_walk (plainFor_of_name (by decide +kernel)) (by decide +kernel) (by decide +kernel) (by decide) (fun _ _ h => by rw [h.1]; rfl) (fun _ U U' hal hh h => ⟨h.1, h.2.1.mv hal hh, h.2.2.1.al hal, h.2.2.2.1.al hal, h.2.2.2.2.1.mv hal hh, h.2.2.2.2.2.1.there hal hh, h.2.2.2.2.2.2⟩) (fun r U U' V V' h1 hal h2 h => Got.mv r U U' V V' h1 hal h2 h) ?_
  intro p e s m args below meth c s₁ X0 hexec hbytes hml hret hlk hnm hown hh0 W hP
  obtain ⟨rfl, hB, f1, f2, hA, s1, hz, l0, l2, hp⟩ := hP
  have c1 : Steps p.tables e below (s₁.setTop (entryFrame m #[.ref a, .ref b] 2)) (s₁.setTop (mkF m 0 #[.val (.ref a), .val (.ref b)] [])) := entry rfl
  have c2 : Steps p.tables e below (s₁.setTop (entryFrame m #[.ref a, .ref b] 2)) (s₁.setTop (mkF m 6 #[.val (.ref a), .val (.ref b)] [.null, .int (Int32.ofNat A.slots.size), .int 0, .ref b, .ref a])) := c1.trans (by
    refine XS.aloadN X0.here hexec rfl (hb hbytes d0) rfl rfl ?_
    refine XS.aloadN X0.here hexec rfl (hb hbytes d1) rfl rfl ?_
    refine iconstV X0.here hexec rfl 0 (hb hbytes d2) (by decide) ?_
    refine XS.aloadN X0.here hexec rfl (hb hbytes d3) rfl rfl ?_
    refine X0.alen hexec (hA.1.mv X0.warmed.alike hh0) rfl rfl (hb hbytes d4) ?_
    refine XS.aconstNull X0.here hexec rfl (hb hbytes d5) ?_
    exact Steps.refl _)
  obtain ⟨v3, T3, X3, E3, g3⟩ := X0.callN hexec (New4.law l a D fV fC b A z 0 A.slots.size) rfl hown (wks W (initW "java/lang/String" 27 New4.yN)) (W New4.tab (by simp only [site, List.mem_cons, List.mem_append, true_or, or_true])) (W := 0) (Nat.le_of_ble_eq_true rfl) (Nat.le_of_ble_eq_true rfl) (Nat.le_refl _) (by show 0 + A.slots.size ≤ A.slots.size; omega) (g := (mkF m 6 #[.val (.ref a), .val (.ref b)] [.null, .int (Int32.ofNat A.slots.size), .int (Int32.ofNat 0), .ref b, .ref a])) rfl (by rw [hml]; rfl) c2 (argsL := [.ref b, .int (Int32.ofNat 0), .int (Int32.ofNat A.slots.size), .null]) (rest := []) rfl rfl (by show 2 * 0 + 0 ≤ _; decide) (hb hbytes d6) (⟨rfl, hB.mv X0.warmed.alike hh0, f1.al X0.warmed.alike, f2.al X0.warmed.alike, hA.mv X0.warmed.alike hh0, s1.there X0.warmed.alike hh0, hz, l0, by omega, l2, fun i hi => by rw [Nat.zero_add]; exact hp i hi⟩)
  have e0 := Got.mv _ s₁ s _ _ hh0.symm (Vm.Alike.refl _) rfl E3
  obtain rfl := e0.1
  have c4 : Steps p.tables e below (s₁.setTop (entryFrame m #[.ref a, .ref b] 2)) (T3.setTop (mkF m 9 #[.val (.ref a), .val (.ref b)] [])) := g3
  exact ⟨T3, none, _, _, _, X3, by simp, rfl, by omega, (fun _ => rfl), e0, fun fs hl => c4.trans (X3.returnOut hexec hret (hb hbytes d9) hl)⟩
theorem pays {l : Launch} {R : Room} {p : Program} {e : Env} {below : List Frame} {s : State} {sargs : Array Value} {len W : Nat} (a : Addr) (D : Cell) (fV fC : Field) (b : Addr) (A : Cell) (z : Int32) (htab : tab.before sargs s = true) (hfr : 4 ≤ R.frames) (hlo : W + 65 ≤ R.locals) :
    Back l R p e below s sargs yN len W (fun A₁ a₁ => A₁.cells + 1 ≤ R.cells ∧ A₁.slots + A.slots.size ≤ R.slots ∧ P a D fV fC b A z a₁ A₁.U) (fun A₁ _ v₁ B₁ => E a D fV fC A v₁ A₁.U B₁.U ∧ B₁.locs = A₁.locs ++ [⟨a, fC.slot⟩, ⟨a, fV.slot⟩] ∧ B₁.cells = A₁.cells + 1 ∧ B₁.slots = A₁.slots + A.slots.size) :=
  (law l a D fV fC b A z).pays htab hfr (by omega)
end New1
end StrChars
namespace StrChars.Road
open Jvm Sem ClassFile Op Lib Jvm.Stand Jvm.Free Jvm.Free.XT
open Jvm.Lib.Cold (StaticIs)
abbrev ST : String := "java/lang/String"
/-- every table word that New1's law asks, flat -/
abbrev words : List Jvm.Cond := [.code New1.yN New1.yB 2 none, .initialized ST, .methodLink ST 27 New4.yN, .instanceMethod New4.yN,
  .code New4.yN New4.yB 6 none, .fieldLink ST 38 ST "COMPACT_STRINGS" "Z", .laysFinal ST ST "value" "[B", .fieldLink ST 9 ST "value" "[B", .laysFinal ST ST "coder" "B", .fieldLink ST 15 ST "coder" "B",
  .methodLink ST 1 Lib.objectInit, .instanceMethod Lib.objectInit, .code Lib.objectInit ⟨#[0xb1]⟩ 1 none, .methodLink ST 177 Cmp3.yN, .static Cmp3.yN, .methodLink ST 47 CodL.yN, .static CodL.yN,
  .code Cmp3.yN Cmp3.yB 6 (some (.array .byte)), .initialized U16, .arrayClass .byte, .methodLink U16 115 Cmp5.yN, .static Cmp5.yN, .code Cmp5.yN Cmp5.yB 7 (some .int), .code CodL.yN CodL.yB 2 (some .byte)]
theorem tab_of {a : Array Value} {s : State} (h : ∀ w ∈ words, w.before a s = true) : New1.tab.before a s = true := by
  have h5 : Cmp5.tab.before a s = true := unparts (wk h (.code Cmp5.yN Cmp5.yB 7 (some .int))) (wks h (.initialized Cmp5.yN.cls :: Cmp5.site))
  have hc : CodL.tab.before a s = true := unparts (wk h (.code CodL.yN CodL.yB 2 (some .byte))) (wks h (.initialized CodL.yN.cls :: CodL.site))
  have q5 : ∀ w ∈ Cmp5.tab :: words, w.before a s = true := fun w hw => (List.mem_cons.mp hw).elim (fun e => e ▸ h5) (h w)
  have h3 : Cmp3.tab.before a s = true := unparts (wk q5 (.code Cmp3.yN Cmp3.yB 6 (some (.array .byte)))) (wks q5 (.initialized Cmp3.yN.cls :: Cmp3.site))
  have q3 : ∀ w ∈ Cmp3.tab :: CodL.tab :: words, w.before a s = true := fun w hw => (List.mem_cons.mp hw).elim (fun e => e ▸ h3) fun hw => (List.mem_cons.mp hw).elim (fun e => e ▸ hc) (h w)
  have h4 : New4.tab.before a s = true := unparts (wk q3 (.code New4.yN New4.yB 6 none)) (wks q3 (.initialized New4.yN.cls :: New4.site))
  have q4 : ∀ w ∈ New4.tab :: words, w.before a s = true := fun w hw => (List.mem_cons.mp hw).elim (fun e => e ▸ h4) (h w)
  exact unparts (wk q4 (.code New1.yN New1.yB 2 none)) (wks q4 (.initialized New1.yN.cls :: New1.site))
/-- the words ride from the start Z to the walk's own state -/
theorem moved {Z s : State} {a0 args : Array Value} (hZ : Z.Warmed39 s.vm) (hw : ∀ d ∈ words, d.before a0 Z = true) : ∀ d ∈ words, d.before args s = true := fun d hd => by
  have q := hw d hd
  have t : ∀ d ∈ words, d = .arrayClass .byte ∨ (d.onTables && d.keepsFace) = true := by decide +kernel
  rcases t d hd with rfl | t
  · exact RoadKit.mvA hZ q
  · exact RoadKit.mv hZ q t
/-- WHAT COMES BACK, over the tables of the start Z: h the heap at the call, h' behind it -/
def Q (Z : State) (x : Addr) (A : Cell) (h : Heap) (v : Option Value) (h' : Heap) (L : List Loc) : Prop := v = none ∧ (∀ y ∈ L, y.base = x) ∧ RoadKit.Keep h h' [x] ∧ h'.size = h.size + 1 ∧ RoadKit.Exa Z h' x ST ∧ RoadKit.Fld Z h' x ST "value" "[B" (.ref h.size) ∧ RoadKit.Fld Z h' x ST "coder" "B" (.int 0) ∧
  (∃ V : Cell, RoadKit.Arr Z h' h.size V .byte ∧ V.vm = .none ∧ Z.vm.findClass "[B" = some V.cls ∧ V.slots.size = A.slots.size ∧ ∀ j, j < A.slots.size → V.slots[j]? = some (.int (lo8 (cv A j)))) ∧
  ∀ (O n d : String) (w : Value), RoadKit.Fld Z h x O n d w → RoadKit.slotOf Z O n d ≠ RoadKit.slotOf Z ST "value" "[B" → RoadKit.slotOf Z O n d ≠ RoadKit.slotOf Z ST "coder" "B" → RoadKit.Fld Z h' x O n d w
/-- **new String(chars) AT A CALL, IN THE ROAD'S FORM**: for specialBack behind newO: x the fresh String, b the char[] with the cell A -/
theorem back {p : Program} {l : Launch} {e : Env} {R : Room} {s : State} {args : Array Value} {below : List Frame} {len W : Nat} {Z : State} {a0 : Array Value} {h : Heap} (hZ : Z.Warmed39 s.vm) (hw : ∀ d ∈ words, d.before a0 Z = true) {kI : Nat} (wi : (Jvm.Cond.instantiable ST kI).before a0 Z = true)
    {x b : Addr} {A : Cell} {z : Int32} {v0 c0 : Value} (E : RoadKit.Exa Z h x ST) (V : RoadKit.Fld Z h x ST "value" "[B" v0) (C : RoadKit.Fld Z h x ST "coder" "B" c0) (K : RoadKit.Arr Z h b A .char) (hty : Typed .char A) (S : RoadKit.Sta Z h ST "COMPACT_STRINGS" "Z" (.int z)) (hz : ¬ z = 0)
    (l0 : 0 < A.slots.size) (l2 : A.slots.size ≤ 536870912) (hp : ∀ i, i < A.slots.size → ¬ 255 < cv A i) (hfr : 4 ≤ R.frames) (hlo : W + 65 ≤ R.locals) :
    Back l R p e below s args New1.yN len W (fun P a => a = #[.ref x, .ref b] ∧ P.U.heap = h ∧ P.cells + 1 ≤ R.cells ∧ P.slots + A.slots.size ≤ R.slots)
      (fun P _ v B => ∃ L, Q Z x A h v B.U.heap L ∧ B.locs = P.locs ++ L ∧ B.cells = P.cells + 1 ∧ B.slots = P.slots + A.slots.size) := by
  intro m meth c P g ig mk a X hg hsize hdg hW hn hp'
  obtain ⟨rfl, rfl, r1, r2⟩ := hp'
  have al : Z.vm.Alike P.U.vm := hZ.alike.trans X.warmed.alike
  obtain ⟨D, cfV, kV, iV, fV, hD, gV, stV, knV, obV, asV, slV⟩ := id V
  obtain ⟨D', cfC, kC, iC, fC, hD', gC, stC, -, -, asC, slC⟩ := id C
  cases hD.symm.trans hD'
  obtain ⟨D2, kD, e1, e2, e3, e4, e5⟩ := id E
  cases hD.symm.trans e1
  obtain ⟨c2, k2, i1, i2, i3, -⟩ := Cond.instantiable_spec wi
  cases e2.symm.trans i1
  cases e3.symm.trans i2
  obtain ⟨kU, u1, u2⟩ := al.2.2 _ _ e3
  have hB : Blank ST x D P.U := ⟨hD, ⟨knV, fun q hq => by rw [hq] at obV; cases obV⟩, by rw [al.findClass]; exact e2, kU, u1, by rw [u2]; exact i3, by rw [u2]; exact e5 i3⟩
  have F1 : Found ST "value" "[B" fV P.U := ⟨SBG.found_only al ⟨cfV, kV, iV, gV⟩, stV⟩
  have F2 : Found ST "coder" "B" fC P.U := ⟨SBG.found_only al ⟨cfC, kC, iC, gC⟩, stC⟩
  have hA : Ch b A P.U := ⟨⟨K.1, State.isArrayOf_alike al K.2.1, K.2.2, by omega⟩, hty⟩
  have hS : StaticIs P.U ST "COMPACT_STRINGS" "Z" (.int z) := by
    obtain ⟨cfS, iS, kS, fS, st, cS, t1, t2, t3, t4, t5, t6, t7⟩ := S
    exact StaticIs.there (s := { Z with heap := P.U.heap }) ⟨cfS, iS, kS, fS, st, cS, t1, t2, t3, t4, t5, (fun q => by rw [q] at t6; cases t6), t7⟩ al rfl
  obtain ⟨v, B, X', ⟨⟨hv, E', V', q1, q2, q3, q4, q5, q6, q7, q8, q9, q10, q11⟩, hl, hc, hs⟩, st⟩ := New1.pays x D fV fC b A z (tab_of (moved hZ hw)) hfr hlo m meth c P g ig mk _ X hg hsize hdg hW hn ⟨r1, r2, rfl, hB, F1, F2, hA, hS, hz, l0, l2, hp⟩
  have al' : Z.vm.Alike B.U.vm := hZ.alike.trans X'.warmed.alike
  have hsz : E'.slots.size = D.slots.size := by
    obtain ⟨-, -, -, kB, w1, w2, w3⟩ := q1
    obtain ⟨kB', y1, y2⟩ := al'.2.2 _ _ e3
    rw [q2.2.1] at w1
    cases w1.symm.trans y1
    rw [w3, e5 i3, y2]
  refine ⟨v, B, X', ⟨_, ⟨hv, ?_, ⟨by omega, fun y cy hy hn' => q10 y cy (by simpa using hn') hy, fun y cy hy => ?_⟩, q11, ⟨E', _, q1.1, by rw [q2.2.1]; exact e2, by rw [q2.2.1]; exact e3, by rw [q2.1]; exact obV, fun _ => by rw [hsz]; exact e5 i3⟩,
    ⟨E', cfV, kV, iV, fV, q1.1, gV, stV, by rw [q2.1]; exact knV, by rw [q2.1]; exact obV, by rw [q2.2.1]; exact asV, q3⟩, ⟨E', cfC, kC, iC, fC, q1.1, gC, stC, by rw [q2.1]; exact knV, by rw [q2.1]; exact obV, by rw [q2.2.1]; exact asC, q4⟩,
    ⟨V', ⟨q5.1, State.isArrayOf_alike al'.symm q5.2.1, q5.2.2.1⟩, q6, by rw [← al'.findClass]; exact q7, q8, fun j hj => by have := q9 j hj; rwa [Nat.zero_add] at this⟩, fun O n d w F n1 n2 => ?_⟩, hl, hc, hs⟩, st⟩
  · intro y hy
    simp only [List.mem_cons, List.not_mem_nil, or_false] at hy
    rcases hy with rfl | rfl <;> rfl
  · by_cases q : y = x
    · subst q
      cases hD.symm.trans hy
      exact ⟨E', q1.1, q2.2.1, q2.1, hsz⟩
    · exact ⟨cy, q10 y cy q hy, rfl, rfl, rfl⟩
  · obtain ⟨D3, cf, k, i, f, g1, g2, g3, g4, g5, g6, g7⟩ := F
    cases hD.symm.trans g1
    simp only [RoadKit.slotOf, g2, gV, gC, Option.map_some, Option.getD_some] at n1 n2
    exact ⟨E', cf, k, i, f, q1.1, g2, g3, by rw [q2.1]; exact g4, by rw [q2.1]; exact g5, by rw [q2.2.1]; exact g6, by rw [q2.2.2 f.slot (by simp [n1, n2])]; exact g7⟩
end StrChars.Road
namespace StrChars.Road
open Jvm Sem ClassFile Op Lib Jvm.Stand Jvm.Free Jvm.Free.XT
/-- WHAT COMES BACK, the byte[] as a list of values -/
def QA (Z : State) (x : Addr) (zn : Int32) (cs : List Int32) (h : Heap) (v : Option Value) (h' : Heap) (L : List Loc) : Prop := v = none ∧ (∀ y ∈ L, y.base = x) ∧ RoadKit.Keep h h' [x] ∧ h'.size = h.size + 1 ∧ RoadKit.Exa Z h' x ST ∧ RoadKit.Fld Z h' x ST "value" "[B" (.ref h.size) ∧ RoadKit.Fld Z h' x ST "coder" "B" (.int 0) ∧
  (∃ kb, Z.vm.findClass "[B" = some kb ∧ RoadKit.Arv Z h' h.size kb .byte zn (cs.map fun c => .int (lo8 c)) (.int 0)) ∧
  ∀ (O n d : String) (w : Value), RoadKit.Fld Z h x O n d w → RoadKit.slotOf Z O n d ≠ RoadKit.slotOf Z ST "value" "[B" → RoadKit.slotOf Z O n d ≠ RoadKit.slotOf Z ST "coder" "B" → RoadKit.Fld Z h' x O n d w
/-- **new String(chars) AT A CALL, THE ARRAYS AS LISTS**: the char[] at b holds cs, not empty, no char above 255 -/
theorem backArv {p : Program} {l : Launch} {e : Env} {R : Room} {s : State} {args : Array Value} {below : List Frame} {len W : Nat} {Z : State} {a0 : Array Value} {h : Heap} (hZ : Z.Warmed39 s.vm) (hw : ∀ d ∈ words, d.before a0 Z = true) {kI : Nat} (wi : (Jvm.Cond.instantiable ST kI).before a0 Z = true)
    {x b : Addr} {k : ClassId} {zn z : Int32} {cs : List Int32} {dv v0 c0 : Value} (E : RoadKit.Exa Z h x ST) (V : RoadKit.Fld Z h x ST "value" "[B" v0) (C : RoadKit.Fld Z h x ST "coder" "B" c0) (K : RoadKit.Arv Z h b k .char zn (cs.map Value.int) dv) (S : RoadKit.Sta Z h ST "COMPACT_STRINGS" "Z" (.int z)) (hz : ¬ z = 0)
    (hlen : zn.toNatClampNeg = cs.length) (h0 : 0 < cs.length) (hbig : cs.length ≤ 536870912) (hall : ∀ c ∈ cs, ¬ 255 < c) (hfr : 4 ≤ R.frames) (hlo : W + 65 ≤ R.locals) :
    Back l R p e below s args New1.yN len W (fun P a => a = #[.ref x, .ref b] ∧ P.U.heap = h ∧ P.cells + 1 ≤ R.cells ∧ P.slots + cs.length ≤ R.slots)
      (fun P _ v B => ∃ L, QA Z x zn cs h v B.U.heap L ∧ B.locs = P.locs ++ L ∧ B.cells = P.cells + 1 ∧ B.slots = P.slots + cs.length) := by
  obtain ⟨A, K1, K2, K3, K4, K5, K6⟩ := K
  have e : A.slots.size = cs.length := K3.trans hlen
  have hat : ∀ (i : Nat) (hi : i < cs.length), A.slots[i]? = some (.int cs[i]) := fun i hi => by rw [K5 i (by omega)]; simp [List.getD_eq_getElem?_getD, hi]
  have hcv : ∀ (i : Nat) (hi : i < cs.length), cv A i = cs[i] := fun i hi => by unfold cv; rw [hat i hi]
  have hty : Typed .char A := fun i v hv => by
    have hi : i < A.slots.size := (Array.getElem?_eq_some_iff.mp hv).1
    have q := K5 i hi
    rw [hv] at q
    rw [Option.some.inj q]
    exact K6 i hi
  refine Back.mono (back hZ hw wi E V C K1 hty S hz (by omega) (by omega) (fun i hi => by rw [hcv i (by omega)]; exact hall _ (List.getElem_mem _)) hfr hlo) (fun P a hp => ⟨hp.1, hp.2.1, hp.2.2.1, by rw [e]; exact hp.2.2.2⟩) (fun P a v B hp hq => ?_)
  obtain ⟨L, ⟨q1, q2, q3, q4, q5, q6, q7, ⟨V', v1, v2, v3, v4, v5⟩, q9⟩, hl, hc, hs⟩ := hq
  refine ⟨L, ⟨q1, q2, q3, q4, q5, q6, q7, ⟨V'.cls, v3, V', v1, rfl, by rw [v4, e, hlen], K4, fun i hi => ?_, fun i hi => ?_⟩, q9⟩, hl, hc, by rw [hs, e]⟩
  · have hi' : i < cs.length := by omega
    rw [v5 i (by omega), hcv i hi']; simp [List.getD_eq_getElem?_getD, hi']
  · have hi' : i < cs.length := by omega
    simp only [List.getD_eq_getElem?_getD, List.getElem?_map, List.getElem?_eq_getElem hi', Option.map_some, Option.getD_some]
    exact fits_lo8 _
end StrChars.Road
namespace StrChars.Road
open Jvm Sem ClassFile Op Lib Jvm.Stand Jvm.Free Jvm.Free.XT
/-- WHAT COMES BACK, in the writer's own shape -/
def QV (Z : State) (x : Addr) (N : Int32) (bs : List Int32) (h : Heap) (n0 : Nat) (v : Option Value) (h' : Heap) (L : List Loc) : Prop := v = none ∧ RoadKit.Fr n0 L ∧ RoadKit.Keep h h' [x] ∧ RoadKit.Exa Z h' x ST ∧ RoadKit.Fld Z h' x ST "coder" "B" (.int 0) ∧
  ∃ (t : Addr) (kb : ClassId), n0 ≤ t ∧ h.size ≤ t ∧ ¬ t = x ∧ RoadKit.Fld Z h' x ST "value" "[B" (.ref t) ∧ RoadKit.Arv Z h' t kb .byte N (bs.map Value.int) (.int 0)
/-- **new String(chars) AT A CALL, FOR THE WRITER**: a char[] of n known ints, each 0 to 255 -/
theorem backV {p : Program} {l : Launch} {e : Env} {R : Room} {s : State} {args : Array Value} {below : List Frame} {len W : Nat} {Z : State} {a0 : Array Value} {h : Heap} (hZ : Z.Warmed39 s.vm) (hw : ∀ d ∈ words, d.before a0 Z = true) {kI : Nat} (wi : (Jvm.Cond.instantiable ST kI).before a0 Z = true)
    {x b : Addr} {kC : ClassId} {cs bs : List Int32} {d v0 c0 : Value} {z N : Int32} {n n0 : Nat} (hx0 : n0 ≤ x) (hh0 : n0 ≤ h.size) (E : RoadKit.Exa Z h x ST) (V : RoadKit.Fld Z h x ST "value" "[B" v0) (C : RoadKit.Fld Z h x ST "coder" "B" c0) (K : RoadKit.Arv Z h b kC .char N (cs.map Value.int) d) (S : RoadKit.Sta Z h ST "COMPACT_STRINGS" "Z" (.int z)) (hz : ¬ z = 0)
    (hn : cs.length = n) (hN : N = Int32.ofNat n) (l0 : 0 < n) (l2 : n ≤ 4000) (hp : ∀ c ∈ cs, ¬ c < 0 ∧ ¬ (255 : Int32) < c) (hb : bs = cs.map (fun c => c.toInt8.toInt32)) (hfr : 4 ≤ R.frames) (hlo : W + 65 ≤ R.locals) :
    Back l R p e below s args (⟨"java/lang/String", "<init>", "([C)V"⟩ : MethodName) len W (fun P a => a = #[.ref x, .ref b] ∧ P.U.heap = h ∧ P.cells + 1 ≤ R.cells ∧ P.slots + n ≤ R.slots)
      (fun P _ v B => ∃ L, QV Z x N bs h n0 v B.U.heap L ∧ B.locs = P.locs ++ L ∧ B.cells = P.cells + 1 ∧ B.slots = P.slots + n) := by
  subst hn hN hb
  refine Back.mono (backArv hZ hw wi E V C K S hz (n32 (by omega)) l0 (by omega) (fun c hc => (hp c hc).2) hfr hlo) (fun P a hp => hp) (fun P a v B hp hq => ?_)
  obtain ⟨L, ⟨q1, q2, q3, q4, q5, q6, q7, ⟨kb, v1, v2⟩, q9⟩, hl, hc, hs⟩ := hq
  exact ⟨L, ⟨q1, fun y hy => by rw [q2 y hy]; exact hx0, q3, q5, q7, h.size, kb, hh0, Nat.le_refl _, Nat.ne_of_gt E.lt, q6, by rw [List.map_map]; exact v2⟩, hl, hc, hs⟩
end StrChars.Road
end Jvm.Pilot.@@N@@

namespace Jvm.Pilot.@@N@@
open Jvm Jvm.ClassFile Sem Op Lib Jvm.Free Jvm.Stand Jvm.LawKit Jvm.RoadKit Bundle Jvm.Pilot.@@N@@.Jvm.D
/-- x is a Latin-1 String of the chars cs, its bytes in the array t -/
def Str (Z : State) (h : Heap) (x t : Addr) (k : ClassId) (cs : List Int32) : Prop := Exa Z h x "java/lang/String" ∧ Fld Z h x "java/lang/String" "value" "[B" (.ref t) ∧ Fld Z h x "java/lang/String" "coder" "B" (.int 0) ∧ Arv Z h t k .byte (Int32.ofNat cs.length) ((cs.map fun c => c.toInt8.toInt32).map Value.int) (.int 0) ∧ (∀ c ∈ cs, ¬ c < 0 ∧ ¬ (255 : Int32) < c) ∧ cs.length ≤ 4000
theorem Str.ext {Z : State} {h h' : Heap} {x t : Addr} {k : ClassId} {cs : List Int32} (S : Str Z h x t k cs) (E : Ext h h') : Str Z h' x t k cs := ⟨S.1.ext E, S.2.1.ext E, S.2.2.1.ext E, S.2.2.2.1.ext E, S.2.2.2.2⟩
theorem Str.keep {Z : State} {h h' : Heap} {x t : Addr} {k : ClassId} {cs : List Int32} {ws : List Addr} (S : Str Z h x t k cs) (K : Keep h h' ws) (q : x ∉ ws) (r : t ∉ ws) : Str Z h' x t k cs := ⟨S.1.keep K, S.2.1.keep K q, S.2.2.1.keep K q, S.2.2.2.1.keep K r, S.2.2.2.2⟩
theorem Str.other {Z : State} {h h' : Heap} {x t a : Addr} {k : ClassId} {cs : List Int32} {sl : Nat} {v : Value} (S : Str Z h x t k cs) (W : Wr h h' a sl v) (q : x ≠ a) (r : t ≠ a) : Str Z h' x t k cs := ⟨S.1.wr W, S.2.1.other W (Or.inl q), S.2.2.1.other W (Or.inl q), S.2.2.2.1.other W r, S.2.2.2.2⟩
theorem Str.ltT {Z : State} {h : Heap} {x t : Addr} {k : ClassId} {cs : List Int32} (S : Str Z h x t k cs) : t < h.size := S.2.2.2.1.lt
theorem own_c0 {P : Int32 → Prop} : ∀ c ∈ ([] : List Int32), P c := fun _ q => nomatch q
theorem own_cS {P : Int32 → Prop} {y : Int32} {L : List Int32} (q : P y) (r : ∀ c ∈ L, P c) : ∀ c ∈ y :: L, P c := fun c z => (List.mem_cons.mp z).elim (fun u => u ▸ q) (r c)
theorem own_lit (x : Int32) (k : Nat) (hk : k < 2 ^ 31) : (x &&& (255 : Int32)) = Int32.ofNat (x &&& 255).toBitVec.toNat := by
  apply Int32.toBitVec_inj.mp
  show _ = BitVec.ofNat 32 _
  rw [BitVec.ofNat_toNat]; simp
theorem own_lt256 (x : Int32) : (x &&& 255).toBitVec.toNat < 256 := by
  simp only [Int32.toBitVec_and, BitVec.toNat_and]
  exact Nat.lt_succ_of_le Nat.and_le_right
theorem own_and255 (x : Int32) : ¬ nar .char ((x &&& (255 : Int32)).toUInt32.toUInt16.toUInt32.toInt32) < 0 ∧ ¬ (255 : Int32) < nar .char ((x &&& (255 : Int32)).toUInt32.toUInt16.toUInt32.toInt32) := by
  have t : ∀ k : Fin 256, ¬ nar .char ((Int32.ofNat k.val).toUInt32.toUInt16.toUInt32.toInt32) < 0 ∧ ¬ (255 : Int32) < nar .char ((Int32.ofNat k.val).toUInt32.toUInt16.toUInt32.toInt32) := by decide +kernel
  rw [own_lit x 0 (by decide)]
  exact t ⟨_, own_lt256 x⟩
theorem own_i2c255 (x : Int32) : nar .char ((x &&& (255 : Int32)).toUInt32.toUInt16.toUInt32.toInt32) = (x &&& (255 : Int32)) := by
  have t : ∀ k : Fin 256, nar .char ((Int32.ofNat k.val).toUInt32.toUInt16.toUInt32.toInt32) = Int32.ofNat k.val := by decide +kernel
  rw [own_lit x 0 (by decide)]
  exact t ⟨_, own_lt256 x⟩
theorem own_i2cr (x : Int32) : ¬ ((x &&& (255 : Int32)).toUInt32.toUInt16.toUInt32.toInt32) < 0 ∧ ¬ (255 : Int32) < ((x &&& (255 : Int32)).toUInt32.toUInt16.toUInt32.toInt32) := by
  have t : ∀ k : Fin 256, ¬ ((Int32.ofNat k.val).toUInt32.toUInt16.toUInt32.toInt32) < 0 ∧ ¬ (255 : Int32) < ((Int32.ofNat k.val).toUInt32.toUInt16.toUInt32.toInt32) := by decide +kernel
  rw [own_lit x 0 (by decide)]
  exact t ⟨_, own_lt256 x⟩
theorem own_rng {c : Int32} (h : ¬ c < 0 ∧ ¬ (255 : Int32) < c) : ∃ k : Fin 256, c = Int32.ofNat k.val := by
  obtain ⟨h0, h1⟩ := h
  rw [Int32.lt_iff_toInt_lt] at h0 h1
  have e1 : (255 : Int32).toInt = 255 := rfl
  have e2 : (0 : Int32).toInt = 0 := rfl
  refine ⟨⟨c.toInt.toNat, by omega⟩, ?_⟩
  apply Int32.toInt_inj.mp
  show c.toInt = (Int32.ofNat c.toInt.toNat).toInt
  rw [Int32.toInt_ofNat_of_lt (by omega)]
  omega
theorem own_narc {c : Int32} (h : ¬ c < 0 ∧ ¬ (255 : Int32) < c) : nar .char c = c := by
  have t : ∀ k : Fin 256, nar .char (Int32.ofNat k.val) = Int32.ofNat k.val := by decide +kernel
  obtain ⟨k, rfl⟩ := own_rng h
  exact t k
theorem own_fitsc {c : Int32} (h : ¬ c < 0 ∧ ¬ (255 : Int32) < c) : fits .char (.int c) = true := by
  have t : ∀ k : Fin 256, fits .char (.int (Int32.ofNat k.val)) = true := by decide +kernel
  obtain ⟨k, rfl⟩ := own_rng h
  exact t k
theorem own_up {cs : List Int32} (h : ∀ c ∈ cs, ¬ c < 0 ∧ ¬ (255 : Int32) < c) : ∀ c ∈ cs, ¬ c < 0 ∧ ¬ (65535 : Int32) < c := fun c hc => ⟨(h c hc).1, fun q => (h c hc).2 (by rw [Int32.lt_iff_toInt_lt] at q ⊢; have e1 : (65535 : Int32).toInt = 65535 := rfl; have e2 : (255 : Int32).toInt = 255 := rfl; omega)⟩
theorem own_hws {Z : State} {a0 : Array Value} (hw : ∀ d ∈ tables_1, d.before a0 Z = true) : ∀ d ∈ StrChars.Road.words, d.before a0 Z = true := fun d hd => hw d ((by decide +kernel : ∀ d ∈ StrChars.Road.words, d ∈ tables_1) d hd)
end Jvm.Pilot.@@N@@
namespace Jvm.Pilot.@@N@@
open Jvm Jvm.ClassFile Sem Op Lib Jvm.Free Jvm.Stand Jvm.LawKit Jvm.RoadKit Bundle Jvm.Pilot.@@N@@.Jvm.D
theorem d1_0 : decode method_3_code 0 = .ok (.iconst 2, 1) := by decide +kernel
theorem d1_1 : decode method_3_code 1 = .ok (.newarray .char, 2) := by decide +kernel
theorem d1_3 : decode method_3_code 3 = .ok (.astore_n 1, 1) := by decide +kernel
theorem d1_4 : decode method_3_code 4 = .ok (.aload_n 1, 1) := by decide +kernel
theorem d1_5 : decode method_3_code 5 = .ok (.iconst 0, 1) := by decide +kernel
theorem d1_6 : decode method_3_code 6 = .ok (.iload_n 0, 1) := by decide +kernel
theorem d1_7 : decode method_3_code 7 = .ok (.sipush 255, 3) := by decide +kernel
theorem d1_10 : decode method_3_code 10 = .ok (.iand, 1) := by decide +kernel
theorem d1_11 : decode method_3_code 11 = .ok (.i2c, 1) := by decide +kernel
theorem d1_12 : decode method_3_code 12 = .ok (.castore, 1) := by decide +kernel
theorem d1_13 : decode method_3_code 13 = .ok (.aload_n 1, 1) := by decide +kernel
theorem d1_14 : decode method_3_code 14 = .ok (.iconst 1, 1) := by decide +kernel
theorem d1_15 : decode method_3_code 15 = .ok (.iload_n 0, 1) := by decide +kernel
theorem d1_16 : decode method_3_code 16 = .ok (.bipush 8, 2) := by decide +kernel
theorem d1_18 : decode method_3_code 18 = .ok (.iushr, 1) := by decide +kernel
theorem d1_19 : decode method_3_code 19 = .ok (.sipush 255, 3) := by decide +kernel
theorem d1_22 : decode method_3_code 22 = .ok (.iand, 1) := by decide +kernel
theorem d1_23 : decode method_3_code 23 = .ok (.i2c, 1) := by decide +kernel
theorem d1_24 : decode method_3_code 24 = .ok (.castore, 1) := by decide +kernel
theorem d1_25 : decode method_3_code 25 = .ok (.new 14, 3) := by decide +kernel
theorem d1_28 : decode method_3_code 28 = .ok (.dup, 1) := by decide +kernel
theorem d1_29 : decode method_3_code 29 = .ok (.aload_n 1, 1) := by decide +kernel
theorem d1_30 : decode method_3_code 30 = .ok (.invokespecial 69, 3) := by decide +kernel
theorem d1_33 : decode method_3_code 33 = .ok (.areturn, 1) := by decide +kernel
theorem d8_0 : decode jdk_38_method_2_code 0 = .ok (.aload_n 0, 1) := by decide +kernel
theorem d8_1 : decode jdk_38_method_2_code 1 = .ok (.invokespecial 1, 3) := by decide +kernel
theorem d8_4 : decode jdk_38_method_2_code 4 = .ok (.aload_n 0, 1) := by decide +kernel
theorem d8_5 : decode jdk_38_method_2_code 5 = .ok (.getstatic 39, 3) := by decide +kernel
theorem d8_8 : decode jdk_38_method_2_code 8 = .ok (.putfield 9, 3) := by decide +kernel
theorem d8_11 : decode jdk_38_method_2_code 11 = .ok (.return_, 1) := by decide +kernel
theorem d9_0 : decode jdk_39_method_1_code 0 = .ok (.aload_n 0, 1) := by decide +kernel
theorem d9_1 : decode jdk_39_method_1_code 1 = .ok (.invokespecial 1, 3) := by decide +kernel
theorem d9_4 : decode jdk_39_method_1_code 4 = .ok (.aload_n 0, 1) := by decide +kernel
theorem d9_5 : decode jdk_39_method_1_code 5 = .ok (.iconst 0, 1) := by decide +kernel
theorem d9_6 : decode jdk_39_method_1_code 6 = .ok (.putfield 7, 3) := by decide +kernel
theorem d9_9 : decode jdk_39_method_1_code 9 = .ok (.return_, 1) := by decide +kernel
theorem d10_0 : decode jdk_22_method_1_code 0 = .ok (.aload_n 0, 1) := by decide +kernel
theorem d10_1 : decode jdk_22_method_1_code 1 = .ok (.invokespecial 1, 3) := by decide +kernel
theorem d10_4 : decode jdk_22_method_1_code 4 = .ok (.return_, 1) := by decide +kernel
theorem d11_0 : decode prog_11_method_1_code 0 = .ok (.aload_n 0, 1) := by decide +kernel
theorem d11_1 : decode prog_11_method_1_code 1 = .ok (.invokespecial 3, 3) := by decide +kernel
theorem d11_4 : decode prog_11_method_1_code 4 = .ok (.aload_n 0, 1) := by decide +kernel
theorem d11_5 : decode prog_11_method_1_code 5 = .ok (.aload_n 1, 1) := by decide +kernel
theorem d11_6 : decode prog_11_method_1_code 6 = .ok (.putfield 9, 3) := by decide +kernel
theorem d11_9 : decode prog_11_method_1_code 9 = .ok (.aload_n 0, 1) := by decide +kernel
theorem d11_10 : decode prog_11_method_1_code 10 = .ok (.aload_n 2, 1) := by decide +kernel
theorem d11_11 : decode prog_11_method_1_code 11 = .ok (.putfield 15, 3) := by decide +kernel
theorem d11_14 : decode prog_11_method_1_code 14 = .ok (.aload_n 0, 1) := by decide +kernel
theorem d11_15 : decode prog_11_method_1_code 15 = .ok (.aload_n 3, 1) := by decide +kernel
theorem d11_16 : decode prog_11_method_1_code 16 = .ok (.putfield 19, 3) := by decide +kernel
theorem d11_19 : decode prog_11_method_1_code 19 = .ok (.aload_n 0, 1) := by decide +kernel
theorem d11_20 : decode prog_11_method_1_code 20 = .ok (.iload 4, 2) := by decide +kernel
theorem d11_22 : decode prog_11_method_1_code 22 = .ok (.putfield 22, 3) := by decide +kernel
theorem d11_25 : decode prog_11_method_1_code 25 = .ok (.aload_n 0, 1) := by decide +kernel
theorem d11_26 : decode prog_11_method_1_code 26 = .ok (.iload 5, 2) := by decide +kernel
theorem d11_28 : decode prog_11_method_1_code 28 = .ok (.putfield 26, 3) := by decide +kernel
theorem d11_31 : decode prog_11_method_1_code 31 = .ok (.return_, 1) := by decide +kernel
theorem d12_0 : decode jdk_30_method_1_code 0 = .ok (.aload_n 0, 1) := by decide +kernel
theorem d12_1 : decode jdk_30_method_1_code 1 = .ok (.invokespecial 1, 3) := by decide +kernel
theorem d12_4 : decode jdk_30_method_1_code 4 = .ok (.return_, 1) := by decide +kernel
theorem d13_0 : decode prog_11_method_4_code 0 = .ok (.new 10, 3) := by decide +kernel
theorem d13_3 : decode prog_11_method_4_code 3 = .ok (.dup, 1) := by decide +kernel
theorem d13_4 : decode prog_11_method_4_code 4 = .ok (.aload_n 0, 1) := by decide +kernel
theorem d13_5 : decode prog_11_method_4_code 5 = .ok (.getfield 9, 3) := by decide +kernel
theorem d13_8 : decode prog_11_method_4_code 8 = .ok (.aload_n 1, 1) := by decide +kernel
theorem d13_9 : decode prog_11_method_4_code 9 = .ok (.invokestatic 48, 3) := by decide +kernel
theorem d13_12 : decode prog_11_method_4_code 12 = .ok (.aload_n 0, 1) := by decide +kernel
theorem d13_13 : decode prog_11_method_4_code 13 = .ok (.getfield 19, 3) := by decide +kernel
theorem d13_16 : decode prog_11_method_4_code 16 = .ok (.aload_n 0, 1) := by decide +kernel
theorem d13_17 : decode prog_11_method_4_code 17 = .ok (.getfield 22, 3) := by decide +kernel
theorem d13_20 : decode prog_11_method_4_code 20 = .ok (.aload_n 0, 1) := by decide +kernel
theorem d13_21 : decode prog_11_method_4_code 21 = .ok (.getfield 26, 3) := by decide +kernel
theorem d13_24 : decode prog_11_method_4_code 24 = .ok (.invokespecial 52, 3) := by decide +kernel
theorem d13_27 : decode prog_11_method_4_code 27 = .ok (.areturn, 1) := by decide +kernel
theorem d14_0 : decode jdk_40_method_37_code 0 = .ok (.new 96, 3) := by decide +kernel
theorem d14_3 : decode jdk_40_method_37_code 3 = .ok (.dup, 1) := by decide +kernel
theorem d14_4 : decode jdk_40_method_37_code 4 = .ok (.aload_n 0, 1) := by decide +kernel
theorem d14_5 : decode jdk_40_method_37_code 5 = .ok (.invokespecial 98, 3) := by decide +kernel
theorem d14_8 : decode jdk_40_method_37_code 8 = .ok (.areturn, 1) := by decide +kernel
theorem d15_0 : decode jdk_44_method_1_code 0 = .ok (.aload_n 0, 1) := by decide +kernel
theorem d15_1 : decode jdk_44_method_1_code 1 = .ok (.invokespecial 1, 3) := by decide +kernel
theorem d15_4 : decode jdk_44_method_1_code 4 = .ok (.aload_n 0, 1) := by decide +kernel
theorem d15_5 : decode jdk_44_method_1_code 5 = .ok (.aload_n 1, 1) := by decide +kernel
theorem d15_6 : decode jdk_44_method_1_code 6 = .ok (.invokestatic 7, 3) := by decide +kernel
theorem d15_9 : decode jdk_44_method_1_code 9 = .ok (.putfield 13, 3) := by decide +kernel
theorem d15_12 : decode jdk_44_method_1_code 12 = .ok (.aload_n 0, 1) := by decide +kernel
theorem d15_13 : decode jdk_44_method_1_code 13 = .ok (.getstatic 19, 3) := by decide +kernel
theorem d15_16 : decode jdk_44_method_1_code 16 = .ok (.putfield 24, 3) := by decide +kernel
theorem d15_19 : decode jdk_44_method_1_code 19 = .ok (.return_, 1) := by decide +kernel
theorem d16_0 : decode jdk_46_method_1_code 0 = .ok (.aload_n 0, 1) := by decide +kernel
theorem d16_1 : decode jdk_46_method_1_code 1 = .ok (.invokespecial 1, 3) := by decide +kernel
theorem d16_4 : decode jdk_46_method_1_code 4 = .ok (.return_, 1) := by decide +kernel
theorem d17_0 : decode jdk_47_method_1_code 0 = .ok (.aload_n 0, 1) := by decide +kernel
theorem d17_1 : decode jdk_47_method_1_code 1 = .ok (.invokespecial 1, 3) := by decide +kernel
theorem d17_4 : decode jdk_47_method_1_code 4 = .ok (.return_, 1) := by decide +kernel
theorem d18_0 : decode jdk_31_method_10_code 0 = .ok (.aload_n 0, 1) := by decide +kernel
theorem d18_1 : decode jdk_31_method_10_code 1 = .ok (.ifnonnull 11, 3) := by decide +kernel
theorem d18_12 : decode jdk_31_method_10_code 12 = .ok (.aload_n 0, 1) := by decide +kernel
theorem d18_13 : decode jdk_31_method_10_code 13 = .ok (.areturn, 1) := by decide +kernel
theorem d19_0 : decode prog_11_method_10_code 0 = .ok (.aload_n 0, 1) := by decide +kernel
theorem d19_1 : decode prog_11_method_10_code 1 = .ok (.getfield 15, 3) := by decide +kernel
theorem d19_4 : decode prog_11_method_10_code 4 = .ok (.areturn, 1) := by decide +kernel
theorem d20_0 : decode prog_11_method_11_code 0 = .ok (.aload_n 0, 1) := by decide +kernel
theorem d20_1 : decode prog_11_method_11_code 1 = .ok (.getfield 19, 3) := by decide +kernel
theorem d20_4 : decode prog_11_method_11_code 4 = .ok (.areturn, 1) := by decide +kernel
theorem d21_0 : decode jdk_42_method_66_code 0 = .ok (.aload_n 0, 1) := by decide +kernel
theorem d21_1 : decode jdk_42_method_66_code 1 = .ok (.aload_n 1, 1) := by decide +kernel
theorem d21_2 : decode jdk_42_method_66_code 2 = .ok (.if_acmp .ne 5, 3) := by decide +kernel
theorem d21_5 : decode jdk_42_method_66_code 5 = .ok (.iconst 1, 1) := by decide +kernel
theorem d21_6 : decode jdk_42_method_66_code 6 = .ok (.ireturn, 1) := by decide +kernel
theorem d22_0 : decode prog_11_method_9_code 0 = .ok (.aload_n 0, 1) := by decide +kernel
theorem d22_1 : decode prog_11_method_9_code 1 = .ok (.getfield 9, 3) := by decide +kernel
theorem d22_4 : decode prog_11_method_9_code 4 = .ok (.areturn, 1) := by decide +kernel
theorem d23_0 : decode jdk_44_method_3_code 0 = .ok (.aload_n 0, 1) := by decide +kernel
theorem d23_1 : decode jdk_44_method_3_code 1 = .ok (.getfield 24, 3) := by decide +kernel
theorem d23_4 : decode jdk_44_method_3_code 4 = .ok (.getstatic 19, 3) := by decide +kernel
theorem d23_7 : decode jdk_44_method_3_code 7 = .ok (.if_acmp .eq 7, 3) := by decide +kernel
theorem d23_14 : decode jdk_44_method_3_code 14 = .ok (.iconst 1, 1) := by decide +kernel
theorem d23_15 : decode jdk_44_method_3_code 15 = .ok (.ireturn, 1) := by decide +kernel
theorem d24_0 : decode jdk_44_method_5_code 0 = .ok (.iload_n 1, 1) := by decide +kernel
theorem d24_1 : decode jdk_44_method_5_code 1 = .ok (.ifCond .ne 8, 3) := by decide +kernel
theorem d24_4 : decode jdk_44_method_5_code 4 = .ok (.aload_n 0, 1) := by decide +kernel
theorem d24_5 : decode jdk_44_method_5_code 5 = .ok (.getfield 13, 3) := by decide +kernel
theorem d24_8 : decode jdk_44_method_5_code 8 = .ok (.areturn, 1) := by decide +kernel
theorem d25_0 : decode prog_11_method_3_code 0 = .ok (.aload_n 0, 1) := by decide +kernel
theorem d25_1 : decode prog_11_method_3_code 1 = .ok (.getfield 15, 3) := by decide +kernel
theorem d25_4 : decode prog_11_method_3_code 4 = .ok (.invokeinterface 38 1, 5) := by decide +kernel
theorem d25_9 : decode prog_11_method_3_code 9 = .ok (.iconst 1, 1) := by decide +kernel
theorem d25_10 : decode prog_11_method_3_code 10 = .ok (.if_icmp .ne 19, 3) := by decide +kernel
theorem d25_13 : decode prog_11_method_3_code 13 = .ok (.aload_n 0, 1) := by decide +kernel
theorem d25_14 : decode prog_11_method_3_code 14 = .ok (.getfield 15, 3) := by decide +kernel
theorem d25_17 : decode prog_11_method_3_code 17 = .ok (.iconst 0, 1) := by decide +kernel
theorem d25_18 : decode prog_11_method_3_code 18 = .ok (.invokeinterface 44 2, 5) := by decide +kernel
theorem d25_23 : decode prog_11_method_3_code 23 = .ok (.checkcast 33, 3) := by decide +kernel
theorem d25_26 : decode prog_11_method_3_code 26 = .ok (.goto 4, 3) := by decide +kernel
theorem d25_30 : decode prog_11_method_3_code 30 = .ok (.areturn, 1) := by decide +kernel
theorem d26_0 : decode prog_11_method_12_code 0 = .ok (.aload_n 0, 1) := by decide +kernel
theorem d26_1 : decode prog_11_method_12_code 1 = .ok (.getfield 22, 3) := by decide +kernel
theorem d26_4 : decode prog_11_method_12_code 4 = .ok (.ireturn, 1) := by decide +kernel
theorem d27_0 : decode prog_11_method_13_code 0 = .ok (.aload_n 0, 1) := by decide +kernel
theorem d27_1 : decode prog_11_method_13_code 1 = .ok (.getfield 26, 3) := by decide +kernel
theorem d27_4 : decode prog_11_method_13_code 4 = .ok (.ireturn, 1) := by decide +kernel
theorem d28_0 : decode jdk_38_method_8_code 0 = .ok (.aload_n 0, 1) := by decide +kernel
theorem d28_1 : decode jdk_38_method_8_code 1 = .ok (.getfield 48, 3) := by decide +kernel
theorem d28_4 : decode jdk_38_method_8_code 4 = .ok (.ireturn, 1) := by decide +kernel
theorem d29_0 : decode jdk_38_method_25_code 0 = .ok (.aload_n 0, 1) := by decide +kernel
theorem d29_1 : decode jdk_38_method_25_code 1 = .ok (.dup, 1) := by decide +kernel
theorem d29_2 : decode jdk_38_method_25_code 2 = .ok (.getfield 63, 3) := by decide +kernel
theorem d29_5 : decode jdk_38_method_25_code 5 = .ok (.iconst 1, 1) := by decide +kernel
theorem d29_6 : decode jdk_38_method_25_code 6 = .ok (.iadd, 1) := by decide +kernel
theorem d29_7 : decode jdk_38_method_25_code 7 = .ok (.putfield 63, 3) := by decide +kernel
theorem d29_10 : decode jdk_38_method_25_code 10 = .ok (.aload_n 0, 1) := by decide +kernel
theorem d29_11 : decode jdk_38_method_25_code 11 = .ok (.aload_n 1, 1) := by decide +kernel
theorem d29_12 : decode jdk_38_method_25_code 12 = .ok (.aload_n 0, 1) := by decide +kernel
theorem d29_13 : decode jdk_38_method_25_code 13 = .ok (.getfield 9, 3) := by decide +kernel
theorem d29_16 : decode jdk_38_method_25_code 16 = .ok (.aload_n 0, 1) := by decide +kernel
theorem d29_17 : decode jdk_38_method_25_code 17 = .ok (.getfield 48, 3) := by decide +kernel
theorem d29_20 : decode jdk_38_method_25_code 20 = .ok (.invokevirtual 131, 3) := by decide +kernel
theorem d29_23 : decode jdk_38_method_25_code 23 = .ok (.iconst 1, 1) := by decide +kernel
theorem d29_24 : decode jdk_38_method_25_code 24 = .ok (.ireturn, 1) := by decide +kernel
theorem d30_0 : decode jdk_38_method_24_code 0 = .ok (.iload_n 3, 1) := by decide +kernel
theorem d30_1 : decode jdk_38_method_24_code 1 = .ok (.aload_n 2, 1) := by decide +kernel
theorem d30_2 : decode jdk_38_method_24_code 2 = .ok (.arraylength, 1) := by decide +kernel
theorem d30_3 : decode jdk_38_method_24_code 3 = .ok (.if_icmp .ne 8, 3) := by decide +kernel
theorem d30_6 : decode jdk_38_method_24_code 6 = .ok (.aload_n 0, 1) := by decide +kernel
theorem d30_7 : decode jdk_38_method_24_code 7 = .ok (.invokevirtual 129, 3) := by decide +kernel
theorem d30_10 : decode jdk_38_method_24_code 10 = .ok (.astore_n 2, 1) := by decide +kernel
theorem d30_11 : decode jdk_38_method_24_code 11 = .ok (.aload_n 2, 1) := by decide +kernel
theorem d30_12 : decode jdk_38_method_24_code 12 = .ok (.iload_n 3, 1) := by decide +kernel
theorem d30_13 : decode jdk_38_method_24_code 13 = .ok (.aload_n 1, 1) := by decide +kernel
theorem d30_14 : decode jdk_38_method_24_code 14 = .ok (.aastore, 1) := by decide +kernel
theorem d30_15 : decode jdk_38_method_24_code 15 = .ok (.aload_n 0, 1) := by decide +kernel
theorem d30_16 : decode jdk_38_method_24_code 16 = .ok (.iload_n 3, 1) := by decide +kernel
theorem d30_17 : decode jdk_38_method_24_code 17 = .ok (.iconst 1, 1) := by decide +kernel
theorem d30_18 : decode jdk_38_method_24_code 18 = .ok (.iadd, 1) := by decide +kernel
theorem d30_19 : decode jdk_38_method_24_code 19 = .ok (.putfield 48, 3) := by decide +kernel
theorem d30_22 : decode jdk_38_method_24_code 22 = .ok (.return_, 1) := by decide +kernel
theorem d31_0 : decode jdk_38_method_7_code 0 = .ok (.aload_n 0, 1) := by decide +kernel
theorem d31_1 : decode jdk_38_method_7_code 1 = .ok (.aload_n 0, 1) := by decide +kernel
theorem d31_2 : decode jdk_38_method_7_code 2 = .ok (.getfield 48, 3) := by decide +kernel
theorem d31_5 : decode jdk_38_method_7_code 5 = .ok (.iconst 1, 1) := by decide +kernel
theorem d31_6 : decode jdk_38_method_7_code 6 = .ok (.iadd, 1) := by decide +kernel
theorem d31_7 : decode jdk_38_method_7_code 7 = .ok (.invokevirtual 69, 3) := by decide +kernel
theorem d31_10 : decode jdk_38_method_7_code 10 = .ok (.areturn, 1) := by decide +kernel
theorem d32_0 : decode jdk_38_method_6_code 0 = .ok (.aload_n 0, 1) := by decide +kernel
theorem d32_1 : decode jdk_38_method_6_code 1 = .ok (.getfield 9, 3) := by decide +kernel
theorem d32_4 : decode jdk_38_method_6_code 4 = .ok (.arraylength, 1) := by decide +kernel
theorem d32_5 : decode jdk_38_method_6_code 5 = .ok (.istore_n 2, 1) := by decide +kernel
theorem d32_6 : decode jdk_38_method_6_code 6 = .ok (.iload_n 2, 1) := by decide +kernel
theorem d32_7 : decode jdk_38_method_6_code 7 = .ok (.ifCond .gt 13, 3) := by decide +kernel
theorem d32_10 : decode jdk_38_method_6_code 10 = .ok (.aload_n 0, 1) := by decide +kernel
theorem d32_11 : decode jdk_38_method_6_code 11 = .ok (.getfield 9, 3) := by decide +kernel
theorem d32_14 : decode jdk_38_method_6_code 14 = .ok (.getstatic 39, 3) := by decide +kernel
theorem d32_17 : decode jdk_38_method_6_code 17 = .ok (.if_acmp .eq 28, 3) := by decide +kernel
theorem d32_45 : decode jdk_38_method_6_code 45 = .ok (.aload_n 0, 1) := by decide +kernel
theorem d32_46 : decode jdk_38_method_6_code 46 = .ok (.bipush 10, 2) := by decide +kernel
theorem d32_48 : decode jdk_38_method_6_code 48 = .ok (.iload_n 1, 1) := by decide +kernel
theorem d32_49 : decode jdk_38_method_6_code 49 = .ok (.invokestatic 79, 3) := by decide +kernel
theorem d32_52 : decode jdk_38_method_6_code 52 = .ok (.anewarray 7, 3) := by decide +kernel
theorem d32_55 : decode jdk_38_method_6_code 55 = .ok (.dup_x1, 1) := by decide +kernel
theorem d32_56 : decode jdk_38_method_6_code 56 = .ok (.putfield 9, 3) := by decide +kernel
theorem d32_59 : decode jdk_38_method_6_code 59 = .ok (.areturn, 1) := by decide +kernel
theorem d33_0 : decode jdk_29_method_65_code 0 = .ok (.iload_n 0, 1) := by decide +kernel
theorem d33_1 : decode jdk_29_method_65_code 1 = .ok (.iload_n 1, 1) := by decide +kernel
theorem d33_2 : decode jdk_29_method_65_code 2 = .ok (.if_icmp .lt 7, 3) := by decide +kernel
theorem d33_5 : decode jdk_29_method_65_code 5 = .ok (.iload_n 0, 1) := by decide +kernel
theorem d33_6 : decode jdk_29_method_65_code 6 = .ok (.goto 4, 3) := by decide +kernel
theorem d33_10 : decode jdk_29_method_65_code 10 = .ok (.ireturn, 1) := by decide +kernel
theorem d34_0 : decode jdk_42_method_139_code 0 = .ok (.getstatic 38, 3) := by decide +kernel
theorem d34_3 : decode jdk_42_method_139_code 3 = .ok (.ifCond .eq 23, 3) := by decide +kernel
theorem d34_6 : decode jdk_42_method_139_code 6 = .ok (.iload_n 0, 1) := by decide +kernel
theorem d34_7 : decode jdk_42_method_139_code 7 = .ok (.invokestatic 1015, 3) := by decide +kernel
theorem d34_10 : decode jdk_42_method_139_code 10 = .ok (.ifCond .eq 16, 3) := by decide +kernel
theorem d34_13 : decode jdk_42_method_139_code 13 = .ok (.new 10, 3) := by decide +kernel
theorem d34_16 : decode jdk_42_method_139_code 16 = .ok (.dup, 1) := by decide +kernel
theorem d34_17 : decode jdk_42_method_139_code 17 = .ok (.iload_n 0, 1) := by decide +kernel
theorem d34_18 : decode jdk_42_method_139_code 18 = .ok (.invokestatic 1018, 3) := by decide +kernel
theorem d34_21 : decode jdk_42_method_139_code 21 = .ok (.iconst 0, 1) := by decide +kernel
theorem d34_22 : decode jdk_42_method_139_code 22 = .ok (.invokespecial 209, 3) := by decide +kernel
theorem d34_25 : decode jdk_42_method_139_code 25 = .ok (.areturn, 1) := by decide +kernel
theorem d35_0 : decode jdk_43_method_3_code 0 = .ok (.iload_n 0, 1) := by decide +kernel
theorem d35_1 : decode jdk_43_method_3_code 1 = .ok (.sipush 255, 3) := by decide +kernel
theorem d35_4 : decode jdk_43_method_3_code 4 = .ok (.if_icmp .gt 7, 3) := by decide +kernel
theorem d35_7 : decode jdk_43_method_3_code 7 = .ok (.iconst 1, 1) := by decide +kernel
theorem d35_8 : decode jdk_43_method_3_code 8 = .ok (.goto 4, 3) := by decide +kernel
theorem d35_12 : decode jdk_43_method_3_code 12 = .ok (.ireturn, 1) := by decide +kernel
theorem d36_0 : decode jdk_43_method_46_code 0 = .ok (.iconst 1, 1) := by decide +kernel
theorem d36_1 : decode jdk_43_method_46_code 1 = .ok (.newarray .byte, 2) := by decide +kernel
theorem d36_3 : decode jdk_43_method_46_code 3 = .ok (.dup, 1) := by decide +kernel
theorem d36_4 : decode jdk_43_method_46_code 4 = .ok (.iconst 0, 1) := by decide +kernel
theorem d36_5 : decode jdk_43_method_46_code 5 = .ok (.iload_n 0, 1) := by decide +kernel
theorem d36_6 : decode jdk_43_method_46_code 6 = .ok (.i2b, 1) := by decide +kernel
theorem d36_7 : decode jdk_43_method_46_code 7 = .ok (.bastore, 1) := by decide +kernel
theorem d36_8 : decode jdk_43_method_46_code 8 = .ok (.areturn, 1) := by decide +kernel
theorem d37_0 : decode jdk_42_method_151_code 0 = .ok (.aload_n 0, 1) := by decide +kernel
theorem d37_1 : decode jdk_42_method_151_code 1 = .ok (.invokespecial 1, 3) := by decide +kernel
theorem d37_4 : decode jdk_42_method_151_code 4 = .ok (.aload_n 0, 1) := by decide +kernel
theorem d37_5 : decode jdk_42_method_151_code 5 = .ok (.aload_n 1, 1) := by decide +kernel
theorem d37_6 : decode jdk_42_method_151_code 6 = .ok (.putfield 9, 3) := by decide +kernel
theorem d37_9 : decode jdk_42_method_151_code 9 = .ok (.aload_n 0, 1) := by decide +kernel
theorem d37_10 : decode jdk_42_method_151_code 10 = .ok (.iload_n 2, 1) := by decide +kernel
theorem d37_11 : decode jdk_42_method_151_code 11 = .ok (.putfield 15, 3) := by decide +kernel
theorem d37_14 : decode jdk_42_method_151_code 14 = .ok (.return_, 1) := by decide +kernel
theorem pn_0 : plainName "java/lang/Record" = true := by first | (simp [plainName, overriddenIn]; done) | decide +kernel
theorem pn_1 : plainName "java/util/AbstractCollection" = true := by first | (simp [plainName, overriddenIn]; done) | decide +kernel
theorem pn_2 : plainName "java/util/ImmutableCollections$AbstractImmutableCollection" = true := by first | (simp [plainName, overriddenIn]; done) | decide +kernel
theorem pn_3 : plainName "java/util/ImmutableCollections$AbstractImmutableList" = true := by first | (simp [plainName, overriddenIn]; done) | decide +kernel
theorem pn_4 : plainName "java/util/Objects" = true := by first | (simp [plainName, overriddenIn]; done) | decide +kernel
theorem pn_5 : plainName "java/util/ImmutableCollections$List12" = true := by first | (simp [plainName, overriddenIn]; done) | decide +kernel
theorem pn_6 : plainName "java/util/List" = true := by first | (simp [plainName, overriddenIn]; done) | decide +kernel
theorem pn_7 : plainName "java/lang/String" = true := by first | (simp [plainName, overriddenIn]; done) | decide +kernel
theorem pn_8 : plainName "java/lang/StringLatin1" = true := by first | (simp [plainName, overriddenIn]; done) | decide +kernel
theorem pn_9 : plainName "java/util/AbstractList" = true := by first | (simp [plainName, overriddenIn]; done) | decide +kernel
theorem pn_10 : plainName "java/util/ArrayList" = true := by first | (simp [plainName, overriddenIn]; done) | decide +kernel
theorem pn_11 : plainFor (⟨"java/lang/Math", "max", "(II)I"⟩ : MethodName) = true := by decide +kernel
theorem pn_12 : plainName "com/example/bolter/bolter/model/ElementDefinitions$Definition" = true := by first | (simp [plainName, overriddenIn]; done) | decide +kernel
theorem pn_13 : plainName "com/example/bolter/bolter/model/DefinitionAsPinLaw" = true := by first | (simp [plainName, overriddenIn]; done) | decide +kernel
theorem pd_0 : parseMethodDescriptor "()V" = some ⟨[], none⟩ := by decide +kernel
theorem pd_1 : parseMethodDescriptor "(Ljava/lang/Object;)Ljava/lang/Object;" = some ⟨[(.object "java/lang/Object")], some (.object "java/lang/Object")⟩ := by decide +kernel
theorem pd_2 : parseMethodDescriptor "(Ljava/lang/Object;)V" = some ⟨[(.object "java/lang/Object")], none⟩ := by decide +kernel
theorem pd_3 : parseMethodDescriptor "(C)Z" = some ⟨[.char], some .boolean⟩ := by decide +kernel
theorem pd_4 : parseMethodDescriptor "(C)[B" = some ⟨[.char], some (.array .byte)⟩ := by decide +kernel
theorem pd_5 : parseMethodDescriptor "([BB)V" = some ⟨[(.array .byte), .byte], none⟩ := by decide +kernel
theorem pd_6 : parseMethodDescriptor "(II)I" = some ⟨[.int, .int], some .int⟩ := by decide +kernel
theorem pd_7 : parseMethodDescriptor "(I)[Ljava/lang/Object;" = some ⟨[.int], some (.array (.object "java/lang/Object"))⟩ := by decide +kernel
theorem pd_8 : parseMethodDescriptor "()[Ljava/lang/Object;" = some ⟨[], some (.array (.object "java/lang/Object"))⟩ := by decide +kernel
theorem pd_9 : parseMethodDescriptor "(Ljava/lang/Object;[Ljava/lang/Object;I)V" = some ⟨[(.object "java/lang/Object"), (.array (.object "java/lang/Object")), .int], none⟩ := by decide +kernel
theorem pd_10 : parseMethodDescriptor "()I" = some ⟨[], some .int⟩ := by decide +kernel
theorem pd_11 : parseMethodDescriptor "(I)Ljava/lang/Object;" = some ⟨[.int], some (.object "java/lang/Object")⟩ := by decide +kernel
theorem pd_12 : parseMethodDescriptor "(Ljava/lang/Object;)Ljava/util/List;" = some ⟨[(.object "java/lang/Object")], some (.object "java/util/List")⟩ := by decide +kernel
theorem pd_13 : parseMethodDescriptor "(Ljava/lang/String;Ljava/util/List;Ljava/lang/String;ZI)V" = some ⟨[(.object "java/lang/String"), (.object "java/util/List"), (.object "java/lang/String"), .boolean, .int], none⟩ := by decide +kernel
theorem pd_14 : parseMethodDescriptor "([C)V" = some ⟨[(.array .char)], none⟩ := by decide +kernel
theorem pd_15 : parseMethodDescriptor "(I)Ljava/lang/String;" = some ⟨[.int], some (.object "java/lang/String")⟩ := by decide +kernel
theorem pd_16 : parseMethodDescriptor "(Ljava/lang/String;)Lcom/example/bolter/bolter/model/ElementDefinitions$Definition;" = some ⟨[(.object "java/lang/String")], some (.object "com/example/bolter/bolter/model/ElementDefinitions$Definition")⟩ := by decide +kernel
theorem pd_17 : parseMethodDescriptor "()Ljava/util/List;" = some ⟨[], some (.object "java/util/List")⟩ := by decide +kernel
theorem pd_18 : parseMethodDescriptor "()Ljava/lang/String;" = some ⟨[], some (.object "java/lang/String")⟩ := by decide +kernel
theorem pd_19 : parseMethodDescriptor "(Ljava/lang/Object;)Z" = some ⟨[(.object "java/lang/Object")], some .boolean⟩ := by decide +kernel
theorem pd_20 : parseMethodDescriptor "()Z" = some ⟨[], some .boolean⟩ := by decide +kernel
theorem pd_21 : parseMethodDescriptor "(C)Ljava/lang/String;" = some ⟨[.char], some (.object "java/lang/String")⟩ := by decide +kernel
theorem hw0 {Z : State} {a0 : Array Value} (hw : ∀ d ∈ tables_1, d.before a0 Z = true) : (Jvm.Cond.methodLink "com/example/bolter/bolter/model/DefinitionAsPinLaw" (7 : Nat) ({ cls := "com/example/bolter/bolter/model/DefinitionAsPinLaw", name := "draw", desc := "(I)Ljava/lang/String;" } : Jvm.MethodName)).before a0 Z = true := hw _ (List.mem_of_getElem? (i := 0) rfl)
theorem hw1 {Z : State} {a0 : Array Value} (hw : ∀ d ∈ tables_1, d.before a0 Z = true) : (Jvm.Cond.static ({ cls := "com/example/bolter/bolter/model/DefinitionAsPinLaw", name := "draw", desc := "(I)Ljava/lang/String;" } : Jvm.MethodName)).before a0 Z = true := hw _ (List.mem_of_getElem? (i := 1) rfl)
theorem hw2 {Z : State} {a0 : Array Value} (hw : ∀ d ∈ tables_1, d.before a0 Z = true) : (Jvm.Cond.initialized "com/example/bolter/bolter/model/DefinitionAsPinLaw").before a0 Z = true := hw _ (List.mem_of_getElem? (i := 2) rfl)
theorem hw3 {Z : State} {a0 : Array Value} (hw : ∀ d ∈ tables_1, d.before a0 Z = true) : (Jvm.Cond.code ({ cls := "com/example/bolter/bolter/model/DefinitionAsPinLaw", name := "draw", desc := "(I)Ljava/lang/String;" } : Jvm.MethodName) method_3_code (2 : Nat) (Option.some (Jvm.ClassFile.FieldType.object "java/lang/String"))).before a0 Z = true := hw _ (List.mem_of_getElem? (i := 3) rfl)
theorem hw4 {Z : State} {a0 : Array Value} (hw : ∀ d ∈ tables_1, d.before a0 Z = true) : (Jvm.Cond.arrayClass Jvm.ClassFile.FieldType.char).before a0 Z = true := hw _ (List.mem_of_getElem? (i := 4) rfl)
theorem hw5 {Z : State} {a0 : Array Value} (hw : ∀ d ∈ tables_1, d.before a0 Z = true) : (Jvm.Cond.classLink "com/example/bolter/bolter/model/DefinitionAsPinLaw" (14 : Nat) "java/lang/String").before a0 Z = true := hw _ (List.mem_of_getElem? (i := 5) rfl)
theorem hw6 {Z : State} {a0 : Array Value} (hw : ∀ d ∈ tables_1, d.before a0 Z = true) : (Jvm.Cond.instantiable "java/lang/String" (4 : Nat)).before a0 Z = true := hw _ (List.mem_of_getElem? (i := 6) rfl)
theorem hw7 {Z : State} {a0 : Array Value} (hw : ∀ d ∈ tables_1, d.before a0 Z = true) : (Jvm.Cond.initialized "java/lang/String").before a0 Z = true := hw _ (List.mem_of_getElem? (i := 7) rfl)
theorem hw8 {Z : State} {a0 : Array Value} (hw : ∀ d ∈ tables_1, d.before a0 Z = true) : (Jvm.Cond.methodLink "com/example/bolter/bolter/model/DefinitionAsPinLaw" (69 : Nat) ({ cls := "java/lang/String", name := "<init>", desc := "([C)V" } : Jvm.MethodName)).before a0 Z = true := hw _ (List.mem_of_getElem? (i := 8) rfl)
theorem hw9 {Z : State} {a0 : Array Value} (hw : ∀ d ∈ tables_1, d.before a0 Z = true) : (Jvm.Cond.instanceMethod ({ cls := "java/lang/String", name := "<init>", desc := "([C)V" } : Jvm.MethodName)).before a0 Z = true := hw _ (List.mem_of_getElem? (i := 9) rfl)
theorem hw10 {Z : State} {a0 : Array Value} (hw : ∀ d ∈ tables_1, d.before a0 Z = true) : (Jvm.Cond.code ({ cls := "java/lang/String", name := "<init>", desc := "([C)V" } : Jvm.MethodName) jdk_42_method_3_code (2 : Nat) (Option.none : Option Jvm.ClassFile.FieldType)).before a0 Z = true := hw _ (List.mem_of_getElem? (i := 10) rfl)
theorem hw15 {Z : State} {a0 : Array Value} (hw : ∀ d ∈ tables_1, d.before a0 Z = true) : (Jvm.Cond.methodLink "java/lang/String" (1 : Nat) ({ cls := "java/lang/Object", name := "<init>", desc := "()V" } : Jvm.MethodName)).before a0 Z = true := hw _ (List.mem_of_getElem? (i := 15) rfl)
theorem hw16 {Z : State} {a0 : Array Value} (hw : ∀ d ∈ tables_1, d.before a0 Z = true) : (Jvm.Cond.instanceMethod ({ cls := "java/lang/Object", name := "<init>", desc := "()V" } : Jvm.MethodName)).before a0 Z = true := hw _ (List.mem_of_getElem? (i := 16) rfl)
theorem hw17 {Z : State} {a0 : Array Value} (hw : ∀ d ∈ tables_1, d.before a0 Z = true) : (Jvm.Cond.code ({ cls := "java/lang/Object", name := "<init>", desc := "()V" } : Jvm.MethodName) object_method_1_code (1 : Nat) (Option.none : Option Jvm.ClassFile.FieldType)).before a0 Z = true := hw _ (List.mem_of_getElem? (i := 17) rfl)
theorem hw18 {Z : State} {a0 : Array Value} (hw : ∀ d ∈ tables_1, d.before a0 Z = true) : (Jvm.Cond.fieldLink "java/lang/String" (38 : Nat) "java/lang/String" "COMPACT_STRINGS" "Z").before a0 Z = true := hw _ (List.mem_of_getElem? (i := 18) rfl)
theorem hw23 {Z : State} {a0 : Array Value} (hw : ∀ d ∈ tables_1, d.before a0 Z = true) : (Jvm.Cond.arrayClass Jvm.ClassFile.FieldType.byte).before a0 Z = true := hw _ (List.mem_of_getElem? (i := 23) rfl)
theorem hw30 {Z : State} {a0 : Array Value} (hw : ∀ d ∈ tables_1, d.before a0 Z = true) : (Jvm.Cond.fieldLink "java/lang/String" (15 : Nat) "java/lang/String" "coder" "B").before a0 Z = true := hw _ (List.mem_of_getElem? (i := 30) rfl)
theorem hw31 {Z : State} {a0 : Array Value} (hw : ∀ d ∈ tables_1, d.before a0 Z = true) : (Jvm.Cond.laysFinal "java/lang/String" "java/lang/String" "coder" "B").before a0 Z = true := hw _ (List.mem_of_getElem? (i := 31) rfl)
theorem hw32 {Z : State} {a0 : Array Value} (hw : ∀ d ∈ tables_1, d.before a0 Z = true) : (Jvm.Cond.fieldLink "java/lang/String" (9 : Nat) "java/lang/String" "value" "[B").before a0 Z = true := hw _ (List.mem_of_getElem? (i := 32) rfl)
theorem hw33 {Z : State} {a0 : Array Value} (hw : ∀ d ∈ tables_1, d.before a0 Z = true) : (Jvm.Cond.laysFinal "java/lang/String" "java/lang/String" "value" "[B").before a0 Z = true := hw _ (List.mem_of_getElem? (i := 33) rfl)
theorem hw34 {Z : State} {a0 : Array Value} (hw : ∀ d ∈ tables_1, d.before a0 Z = true) : (Jvm.Cond.classLink "com/example/bolter/bolter/model/DefinitionAsPinLaw" (19 : Nat) "java/util/ArrayList").before a0 Z = true := hw _ (List.mem_of_getElem? (i := 34) rfl)
theorem hw35 {Z : State} {a0 : Array Value} (hw : ∀ d ∈ tables_1, d.before a0 Z = true) : (Jvm.Cond.instantiable "java/util/ArrayList" (3 : Nat)).before a0 Z = true := hw _ (List.mem_of_getElem? (i := 35) rfl)
theorem hw36 {Z : State} {a0 : Array Value} (hw : ∀ d ∈ tables_1, d.before a0 Z = true) : (Jvm.Cond.initialized "java/util/ArrayList").before a0 Z = true := hw _ (List.mem_of_getElem? (i := 36) rfl)
theorem hw37 {Z : State} {a0 : Array Value} (hw : ∀ d ∈ tables_1, d.before a0 Z = true) : (Jvm.Cond.methodLink "com/example/bolter/bolter/model/DefinitionAsPinLaw" (21 : Nat) ({ cls := "java/util/ArrayList", name := "<init>", desc := "()V" } : Jvm.MethodName)).before a0 Z = true := hw _ (List.mem_of_getElem? (i := 37) rfl)
theorem hw38 {Z : State} {a0 : Array Value} (hw : ∀ d ∈ tables_1, d.before a0 Z = true) : (Jvm.Cond.instanceMethod ({ cls := "java/util/ArrayList", name := "<init>", desc := "()V" } : Jvm.MethodName)).before a0 Z = true := hw _ (List.mem_of_getElem? (i := 38) rfl)
theorem hw39 {Z : State} {a0 : Array Value} (hw : ∀ d ∈ tables_1, d.before a0 Z = true) : (Jvm.Cond.code ({ cls := "java/util/ArrayList", name := "<init>", desc := "()V" } : Jvm.MethodName) jdk_38_method_2_code (1 : Nat) (Option.none : Option Jvm.ClassFile.FieldType)).before a0 Z = true := hw _ (List.mem_of_getElem? (i := 39) rfl)
theorem hw40 {Z : State} {a0 : Array Value} (hw : ∀ d ∈ tables_1, d.before a0 Z = true) : (Jvm.Cond.methodLink "java/util/ArrayList" (1 : Nat) ({ cls := "java/util/AbstractList", name := "<init>", desc := "()V" } : Jvm.MethodName)).before a0 Z = true := hw _ (List.mem_of_getElem? (i := 40) rfl)
theorem hw41 {Z : State} {a0 : Array Value} (hw : ∀ d ∈ tables_1, d.before a0 Z = true) : (Jvm.Cond.instanceMethod ({ cls := "java/util/AbstractList", name := "<init>", desc := "()V" } : Jvm.MethodName)).before a0 Z = true := hw _ (List.mem_of_getElem? (i := 41) rfl)
theorem hw44 {Z : State} {a0 : Array Value} (hw : ∀ d ∈ tables_1, d.before a0 Z = true) : (Jvm.Cond.initialized "java/util/AbstractList").before a0 Z = true := hw _ (List.mem_of_getElem? (i := 44) rfl)
theorem hw45 {Z : State} {a0 : Array Value} (hw : ∀ d ∈ tables_1, d.before a0 Z = true) : (Jvm.Cond.code ({ cls := "java/util/AbstractList", name := "<init>", desc := "()V" } : Jvm.MethodName) jdk_39_method_1_code (1 : Nat) (Option.none : Option Jvm.ClassFile.FieldType)).before a0 Z = true := hw _ (List.mem_of_getElem? (i := 45) rfl)
theorem hw46 {Z : State} {a0 : Array Value} (hw : ∀ d ∈ tables_1, d.before a0 Z = true) : (Jvm.Cond.methodLink "java/util/AbstractList" (1 : Nat) ({ cls := "java/util/AbstractCollection", name := "<init>", desc := "()V" } : Jvm.MethodName)).before a0 Z = true := hw _ (List.mem_of_getElem? (i := 46) rfl)
theorem hw47 {Z : State} {a0 : Array Value} (hw : ∀ d ∈ tables_1, d.before a0 Z = true) : (Jvm.Cond.instanceMethod ({ cls := "java/util/AbstractCollection", name := "<init>", desc := "()V" } : Jvm.MethodName)).before a0 Z = true := hw _ (List.mem_of_getElem? (i := 47) rfl)
theorem hw50 {Z : State} {a0 : Array Value} (hw : ∀ d ∈ tables_1, d.before a0 Z = true) : (Jvm.Cond.initialized "java/util/AbstractCollection").before a0 Z = true := hw _ (List.mem_of_getElem? (i := 50) rfl)
theorem hw51 {Z : State} {a0 : Array Value} (hw : ∀ d ∈ tables_1, d.before a0 Z = true) : (Jvm.Cond.code ({ cls := "java/util/AbstractCollection", name := "<init>", desc := "()V" } : Jvm.MethodName) jdk_22_method_1_code (1 : Nat) (Option.none : Option Jvm.ClassFile.FieldType)).before a0 Z = true := hw _ (List.mem_of_getElem? (i := 51) rfl)
theorem hw52 {Z : State} {a0 : Array Value} (hw : ∀ d ∈ tables_1, d.before a0 Z = true) : (Jvm.Cond.methodLink "java/util/AbstractCollection" (1 : Nat) ({ cls := "java/lang/Object", name := "<init>", desc := "()V" } : Jvm.MethodName)).before a0 Z = true := hw _ (List.mem_of_getElem? (i := 52) rfl)
theorem hw53 {Z : State} {a0 : Array Value} (hw : ∀ d ∈ tables_1, d.before a0 Z = true) : (Jvm.Cond.fieldLink "java/util/AbstractList" (7 : Nat) "java/util/AbstractList" "modCount" "I").before a0 Z = true := hw _ (List.mem_of_getElem? (i := 53) rfl)
theorem hw54 {Z : State} {a0 : Array Value} (hw : ∀ d ∈ tables_1, d.before a0 Z = true) : (Jvm.Cond.lays "java/util/ArrayList" "java/util/AbstractList" "modCount" "I").before a0 Z = true := hw _ (List.mem_of_getElem? (i := 54) rfl)
theorem hw55 {Z : State} {a0 : Array Value} (hw : ∀ d ∈ tables_1, d.before a0 Z = true) : (Jvm.Cond.fieldLink "java/util/ArrayList" (39 : Nat) "java/util/ArrayList" "DEFAULTCAPACITY_EMPTY_ELEMENTDATA" "[Ljava/lang/Object;").before a0 Z = true := hw _ (List.mem_of_getElem? (i := 55) rfl)
theorem hw56 {Z : State} {a0 : Array Value} (hw : ∀ d ∈ tables_1, d.before a0 Z = true) : (Jvm.Cond.fieldLink "java/util/ArrayList" (9 : Nat) "java/util/ArrayList" "elementData" "[Ljava/lang/Object;").before a0 Z = true := hw _ (List.mem_of_getElem? (i := 56) rfl)
theorem hw57 {Z : State} {a0 : Array Value} (hw : ∀ d ∈ tables_1, d.before a0 Z = true) : (Jvm.Cond.lays "java/util/ArrayList" "java/util/ArrayList" "elementData" "[Ljava/lang/Object;").before a0 Z = true := hw _ (List.mem_of_getElem? (i := 57) rfl)
theorem hw58 {Z : State} {a0 : Array Value} (hw : ∀ d ∈ tables_1, d.before a0 Z = true) : (Jvm.Cond.classLink "com/example/bolter/bolter/model/DefinitionAsPinLaw" (26 : Nat) "com/example/bolter/bolter/model/ElementDefinitions$Definition").before a0 Z = true := hw _ (List.mem_of_getElem? (i := 58) rfl)
theorem hw59 {Z : State} {a0 : Array Value} (hw : ∀ d ∈ tables_1, d.before a0 Z = true) : (Jvm.Cond.instantiable "com/example/bolter/bolter/model/ElementDefinitions$Definition" (5 : Nat)).before a0 Z = true := hw _ (List.mem_of_getElem? (i := 59) rfl)
theorem hw60 {Z : State} {a0 : Array Value} (hw : ∀ d ∈ tables_1, d.before a0 Z = true) : (Jvm.Cond.initialized "com/example/bolter/bolter/model/ElementDefinitions$Definition").before a0 Z = true := hw _ (List.mem_of_getElem? (i := 60) rfl)
theorem hw61 {Z : State} {a0 : Array Value} (hw : ∀ d ∈ tables_1, d.before a0 Z = true) : (Jvm.Cond.methodLink "com/example/bolter/bolter/model/DefinitionAsPinLaw" (28 : Nat) ({ cls := "com/example/bolter/bolter/model/ElementDefinitions$Definition", name := "<init>", desc := "(Ljava/lang/String;Ljava/util/List;Ljava/lang/String;ZI)V" } : Jvm.MethodName)).before a0 Z = true := hw _ (List.mem_of_getElem? (i := 61) rfl)
theorem hw62 {Z : State} {a0 : Array Value} (hw : ∀ d ∈ tables_1, d.before a0 Z = true) : (Jvm.Cond.instanceMethod ({ cls := "com/example/bolter/bolter/model/ElementDefinitions$Definition", name := "<init>", desc := "(Ljava/lang/String;Ljava/util/List;Ljava/lang/String;ZI)V" } : Jvm.MethodName)).before a0 Z = true := hw _ (List.mem_of_getElem? (i := 62) rfl)
theorem hw63 {Z : State} {a0 : Array Value} (hw : ∀ d ∈ tables_1, d.before a0 Z = true) : (Jvm.Cond.code ({ cls := "com/example/bolter/bolter/model/ElementDefinitions$Definition", name := "<init>", desc := "(Ljava/lang/String;Ljava/util/List;Ljava/lang/String;ZI)V" } : Jvm.MethodName) prog_11_method_1_code (6 : Nat) (Option.none : Option Jvm.ClassFile.FieldType)).before a0 Z = true := hw _ (List.mem_of_getElem? (i := 63) rfl)
theorem hw64 {Z : State} {a0 : Array Value} (hw : ∀ d ∈ tables_1, d.before a0 Z = true) : (Jvm.Cond.methodLink "com/example/bolter/bolter/model/ElementDefinitions$Definition" (3 : Nat) ({ cls := "java/lang/Record", name := "<init>", desc := "()V" } : Jvm.MethodName)).before a0 Z = true := hw _ (List.mem_of_getElem? (i := 64) rfl)
theorem hw65 {Z : State} {a0 : Array Value} (hw : ∀ d ∈ tables_1, d.before a0 Z = true) : (Jvm.Cond.instanceMethod ({ cls := "java/lang/Record", name := "<init>", desc := "()V" } : Jvm.MethodName)).before a0 Z = true := hw _ (List.mem_of_getElem? (i := 65) rfl)
theorem hw67 {Z : State} {a0 : Array Value} (hw : ∀ d ∈ tables_1, d.before a0 Z = true) : (Jvm.Cond.initialized "java/lang/Record").before a0 Z = true := hw _ (List.mem_of_getElem? (i := 67) rfl)
theorem hw68 {Z : State} {a0 : Array Value} (hw : ∀ d ∈ tables_1, d.before a0 Z = true) : (Jvm.Cond.code ({ cls := "java/lang/Record", name := "<init>", desc := "()V" } : Jvm.MethodName) jdk_30_method_1_code (1 : Nat) (Option.none : Option Jvm.ClassFile.FieldType)).before a0 Z = true := hw _ (List.mem_of_getElem? (i := 68) rfl)
theorem hw69 {Z : State} {a0 : Array Value} (hw : ∀ d ∈ tables_1, d.before a0 Z = true) : (Jvm.Cond.methodLink "java/lang/Record" (1 : Nat) ({ cls := "java/lang/Object", name := "<init>", desc := "()V" } : Jvm.MethodName)).before a0 Z = true := hw _ (List.mem_of_getElem? (i := 69) rfl)
theorem hw70 {Z : State} {a0 : Array Value} (hw : ∀ d ∈ tables_1, d.before a0 Z = true) : (Jvm.Cond.fieldLink "com/example/bolter/bolter/model/ElementDefinitions$Definition" (9 : Nat) "com/example/bolter/bolter/model/ElementDefinitions$Definition" "path" "Ljava/lang/String;").before a0 Z = true := hw _ (List.mem_of_getElem? (i := 70) rfl)
theorem hw71 {Z : State} {a0 : Array Value} (hw : ∀ d ∈ tables_1, d.before a0 Z = true) : (Jvm.Cond.laysFinal "com/example/bolter/bolter/model/ElementDefinitions$Definition" "com/example/bolter/bolter/model/ElementDefinitions$Definition" "path" "Ljava/lang/String;").before a0 Z = true := hw _ (List.mem_of_getElem? (i := 71) rfl)
theorem hw72 {Z : State} {a0 : Array Value} (hw : ∀ d ∈ tables_1, d.before a0 Z = true) : (Jvm.Cond.fieldLink "com/example/bolter/bolter/model/ElementDefinitions$Definition" (15 : Nat) "com/example/bolter/bolter/model/ElementDefinitions$Definition" "types" "Ljava/util/List;").before a0 Z = true := hw _ (List.mem_of_getElem? (i := 72) rfl)
theorem hw73 {Z : State} {a0 : Array Value} (hw : ∀ d ∈ tables_1, d.before a0 Z = true) : (Jvm.Cond.laysFinal "com/example/bolter/bolter/model/ElementDefinitions$Definition" "com/example/bolter/bolter/model/ElementDefinitions$Definition" "types" "Ljava/util/List;").before a0 Z = true := hw _ (List.mem_of_getElem? (i := 73) rfl)
theorem hw74 {Z : State} {a0 : Array Value} (hw : ∀ d ∈ tables_1, d.before a0 Z = true) : (Jvm.Cond.fieldLink "com/example/bolter/bolter/model/ElementDefinitions$Definition" (19 : Nat) "com/example/bolter/bolter/model/ElementDefinitions$Definition" "valueSet" "Ljava/lang/String;").before a0 Z = true := hw _ (List.mem_of_getElem? (i := 74) rfl)
theorem hw75 {Z : State} {a0 : Array Value} (hw : ∀ d ∈ tables_1, d.before a0 Z = true) : (Jvm.Cond.laysFinal "com/example/bolter/bolter/model/ElementDefinitions$Definition" "com/example/bolter/bolter/model/ElementDefinitions$Definition" "valueSet" "Ljava/lang/String;").before a0 Z = true := hw _ (List.mem_of_getElem? (i := 75) rfl)
theorem hw76 {Z : State} {a0 : Array Value} (hw : ∀ d ∈ tables_1, d.before a0 Z = true) : (Jvm.Cond.fieldLink "com/example/bolter/bolter/model/ElementDefinitions$Definition" (22 : Nat) "com/example/bolter/bolter/model/ElementDefinitions$Definition" "summary" "Z").before a0 Z = true := hw _ (List.mem_of_getElem? (i := 76) rfl)
theorem hw77 {Z : State} {a0 : Array Value} (hw : ∀ d ∈ tables_1, d.before a0 Z = true) : (Jvm.Cond.laysFinal "com/example/bolter/bolter/model/ElementDefinitions$Definition" "com/example/bolter/bolter/model/ElementDefinitions$Definition" "summary" "Z").before a0 Z = true := hw _ (List.mem_of_getElem? (i := 77) rfl)
theorem hw78 {Z : State} {a0 : Array Value} (hw : ∀ d ∈ tables_1, d.before a0 Z = true) : (Jvm.Cond.fieldLink "com/example/bolter/bolter/model/ElementDefinitions$Definition" (26 : Nat) "com/example/bolter/bolter/model/ElementDefinitions$Definition" "min" "I").before a0 Z = true := hw _ (List.mem_of_getElem? (i := 78) rfl)
theorem hw79 {Z : State} {a0 : Array Value} (hw : ∀ d ∈ tables_1, d.before a0 Z = true) : (Jvm.Cond.laysFinal "com/example/bolter/bolter/model/ElementDefinitions$Definition" "com/example/bolter/bolter/model/ElementDefinitions$Definition" "min" "I").before a0 Z = true := hw _ (List.mem_of_getElem? (i := 79) rfl)
theorem hw80 {Z : State} {a0 : Array Value} (hw : ∀ d ∈ tables_1, d.before a0 Z = true) : (Jvm.Cond.methodLink "com/example/bolter/bolter/model/DefinitionAsPinLaw" (31 : Nat) ({ cls := "com/example/bolter/bolter/model/ElementDefinitions$Definition", name := "as", desc := "(Ljava/lang/String;)Lcom/example/bolter/bolter/model/ElementDefinitions$Definition;" } : Jvm.MethodName)).before a0 Z = true := hw _ (List.mem_of_getElem? (i := 80) rfl)
theorem hw81 {Z : State} {a0 : Array Value} (hw : ∀ d ∈ tables_1, d.before a0 Z = true) : (Jvm.Cond.declares ({ cls := "com/example/bolter/bolter/model/ElementDefinitions$Definition", name := "as", desc := "(Ljava/lang/String;)Lcom/example/bolter/bolter/model/ElementDefinitions$Definition;" } : Jvm.MethodName)).before a0 Z = true := hw _ (List.mem_of_getElem? (i := 81) rfl)
theorem hw82 {Z : State} {a0 : Array Value} (hw : ∀ d ∈ tables_1, d.before a0 Z = true) : (Jvm.Cond.instanceMethod ({ cls := "com/example/bolter/bolter/model/ElementDefinitions$Definition", name := "as", desc := "(Ljava/lang/String;)Lcom/example/bolter/bolter/model/ElementDefinitions$Definition;" } : Jvm.MethodName)).before a0 Z = true := hw _ (List.mem_of_getElem? (i := 82) rfl)
theorem hw83 {Z : State} {a0 : Array Value} (hw : ∀ d ∈ tables_1, d.before a0 Z = true) : (Jvm.Cond.selects "com/example/bolter/bolter/model/ElementDefinitions$Definition" ({ cls := "com/example/bolter/bolter/model/ElementDefinitions$Definition", name := "as", desc := "(Ljava/lang/String;)Lcom/example/bolter/bolter/model/ElementDefinitions$Definition;" } : Jvm.MethodName) ({ cls := "com/example/bolter/bolter/model/ElementDefinitions$Definition", name := "as", desc := "(Ljava/lang/String;)Lcom/example/bolter/bolter/model/ElementDefinitions$Definition;" } : Jvm.MethodName)).before a0 Z = true := hw _ (List.mem_of_getElem? (i := 83) rfl)
theorem hw84 {Z : State} {a0 : Array Value} (hw : ∀ d ∈ tables_1, d.before a0 Z = true) : (Jvm.Cond.code ({ cls := "com/example/bolter/bolter/model/ElementDefinitions$Definition", name := "as", desc := "(Ljava/lang/String;)Lcom/example/bolter/bolter/model/ElementDefinitions$Definition;" } : Jvm.MethodName) prog_11_method_4_code (2 : Nat) (Option.some (Jvm.ClassFile.FieldType.object "com/example/bolter/bolter/model/ElementDefinitions$Definition"))).before a0 Z = true := hw _ (List.mem_of_getElem? (i := 84) rfl)
theorem hw85 {Z : State} {a0 : Array Value} (hw : ∀ d ∈ tables_1, d.before a0 Z = true) : (Jvm.Cond.classLink "com/example/bolter/bolter/model/ElementDefinitions$Definition" (10 : Nat) "com/example/bolter/bolter/model/ElementDefinitions$Definition").before a0 Z = true := hw _ (List.mem_of_getElem? (i := 85) rfl)
theorem hw86 {Z : State} {a0 : Array Value} (hw : ∀ d ∈ tables_1, d.before a0 Z = true) : (Jvm.Cond.methodLink "com/example/bolter/bolter/model/ElementDefinitions$Definition" (48 : Nat) ({ cls := "java/util/List", name := "of", desc := "(Ljava/lang/Object;)Ljava/util/List;" } : Jvm.MethodName)).before a0 Z = true := hw _ (List.mem_of_getElem? (i := 86) rfl)
theorem hw87 {Z : State} {a0 : Array Value} (hw : ∀ d ∈ tables_1, d.before a0 Z = true) : (Jvm.Cond.static ({ cls := "java/util/List", name := "of", desc := "(Ljava/lang/Object;)Ljava/util/List;" } : Jvm.MethodName)).before a0 Z = true := hw _ (List.mem_of_getElem? (i := 87) rfl)
theorem hw88 {Z : State} {a0 : Array Value} (hw : ∀ d ∈ tables_1, d.before a0 Z = true) : (Jvm.Cond.initialized "java/util/List").before a0 Z = true := hw _ (List.mem_of_getElem? (i := 88) rfl)
theorem hw89 {Z : State} {a0 : Array Value} (hw : ∀ d ∈ tables_1, d.before a0 Z = true) : (Jvm.Cond.code ({ cls := "java/util/List", name := "of", desc := "(Ljava/lang/Object;)Ljava/util/List;" } : Jvm.MethodName) jdk_40_method_37_code (1 : Nat) (Option.some (Jvm.ClassFile.FieldType.object "java/util/List"))).before a0 Z = true := hw _ (List.mem_of_getElem? (i := 89) rfl)
theorem hw90 {Z : State} {a0 : Array Value} (hw : ∀ d ∈ tables_1, d.before a0 Z = true) : (Jvm.Cond.classLink "java/util/List" (96 : Nat) "java/util/ImmutableCollections$List12").before a0 Z = true := hw _ (List.mem_of_getElem? (i := 90) rfl)
theorem hw91 {Z : State} {a0 : Array Value} (hw : ∀ d ∈ tables_1, d.before a0 Z = true) : (Jvm.Cond.instantiable "java/util/ImmutableCollections$List12" (2 : Nat)).before a0 Z = true := hw _ (List.mem_of_getElem? (i := 91) rfl)
theorem hw92 {Z : State} {a0 : Array Value} (hw : ∀ d ∈ tables_1, d.before a0 Z = true) : (Jvm.Cond.initialized "java/util/ImmutableCollections$List12").before a0 Z = true := hw _ (List.mem_of_getElem? (i := 92) rfl)
theorem hw93 {Z : State} {a0 : Array Value} (hw : ∀ d ∈ tables_1, d.before a0 Z = true) : (Jvm.Cond.methodLink "java/util/List" (98 : Nat) ({ cls := "java/util/ImmutableCollections$List12", name := "<init>", desc := "(Ljava/lang/Object;)V" } : Jvm.MethodName)).before a0 Z = true := hw _ (List.mem_of_getElem? (i := 93) rfl)
theorem hw94 {Z : State} {a0 : Array Value} (hw : ∀ d ∈ tables_1, d.before a0 Z = true) : (Jvm.Cond.instanceMethod ({ cls := "java/util/ImmutableCollections$List12", name := "<init>", desc := "(Ljava/lang/Object;)V" } : Jvm.MethodName)).before a0 Z = true := hw _ (List.mem_of_getElem? (i := 94) rfl)
theorem hw96 {Z : State} {a0 : Array Value} (hw : ∀ d ∈ tables_1, d.before a0 Z = true) : (Jvm.Cond.code ({ cls := "java/util/ImmutableCollections$List12", name := "<init>", desc := "(Ljava/lang/Object;)V" } : Jvm.MethodName) jdk_44_method_1_code (2 : Nat) (Option.none : Option Jvm.ClassFile.FieldType)).before a0 Z = true := hw _ (List.mem_of_getElem? (i := 96) rfl)
theorem hw97 {Z : State} {a0 : Array Value} (hw : ∀ d ∈ tables_1, d.before a0 Z = true) : (Jvm.Cond.methodLink "java/util/ImmutableCollections$List12" (1 : Nat) ({ cls := "java/util/ImmutableCollections$AbstractImmutableList", name := "<init>", desc := "()V" } : Jvm.MethodName)).before a0 Z = true := hw _ (List.mem_of_getElem? (i := 97) rfl)
theorem hw98 {Z : State} {a0 : Array Value} (hw : ∀ d ∈ tables_1, d.before a0 Z = true) : (Jvm.Cond.instanceMethod ({ cls := "java/util/ImmutableCollections$AbstractImmutableList", name := "<init>", desc := "()V" } : Jvm.MethodName)).before a0 Z = true := hw _ (List.mem_of_getElem? (i := 98) rfl)
theorem hw101 {Z : State} {a0 : Array Value} (hw : ∀ d ∈ tables_1, d.before a0 Z = true) : (Jvm.Cond.initialized "java/util/ImmutableCollections$AbstractImmutableList").before a0 Z = true := hw _ (List.mem_of_getElem? (i := 101) rfl)
theorem hw102 {Z : State} {a0 : Array Value} (hw : ∀ d ∈ tables_1, d.before a0 Z = true) : (Jvm.Cond.code ({ cls := "java/util/ImmutableCollections$AbstractImmutableList", name := "<init>", desc := "()V" } : Jvm.MethodName) jdk_46_method_1_code (1 : Nat) (Option.none : Option Jvm.ClassFile.FieldType)).before a0 Z = true := hw _ (List.mem_of_getElem? (i := 102) rfl)
theorem hw103 {Z : State} {a0 : Array Value} (hw : ∀ d ∈ tables_1, d.before a0 Z = true) : (Jvm.Cond.methodLink "java/util/ImmutableCollections$AbstractImmutableList" (1 : Nat) ({ cls := "java/util/ImmutableCollections$AbstractImmutableCollection", name := "<init>", desc := "()V" } : Jvm.MethodName)).before a0 Z = true := hw _ (List.mem_of_getElem? (i := 103) rfl)
theorem hw104 {Z : State} {a0 : Array Value} (hw : ∀ d ∈ tables_1, d.before a0 Z = true) : (Jvm.Cond.instanceMethod ({ cls := "java/util/ImmutableCollections$AbstractImmutableCollection", name := "<init>", desc := "()V" } : Jvm.MethodName)).before a0 Z = true := hw _ (List.mem_of_getElem? (i := 104) rfl)
theorem hw107 {Z : State} {a0 : Array Value} (hw : ∀ d ∈ tables_1, d.before a0 Z = true) : (Jvm.Cond.initialized "java/util/ImmutableCollections$AbstractImmutableCollection").before a0 Z = true := hw _ (List.mem_of_getElem? (i := 107) rfl)
theorem hw108 {Z : State} {a0 : Array Value} (hw : ∀ d ∈ tables_1, d.before a0 Z = true) : (Jvm.Cond.code ({ cls := "java/util/ImmutableCollections$AbstractImmutableCollection", name := "<init>", desc := "()V" } : Jvm.MethodName) jdk_47_method_1_code (1 : Nat) (Option.none : Option Jvm.ClassFile.FieldType)).before a0 Z = true := hw _ (List.mem_of_getElem? (i := 108) rfl)
theorem hw109 {Z : State} {a0 : Array Value} (hw : ∀ d ∈ tables_1, d.before a0 Z = true) : (Jvm.Cond.methodLink "java/util/ImmutableCollections$AbstractImmutableCollection" (1 : Nat) ({ cls := "java/util/AbstractCollection", name := "<init>", desc := "()V" } : Jvm.MethodName)).before a0 Z = true := hw _ (List.mem_of_getElem? (i := 109) rfl)
theorem hw111 {Z : State} {a0 : Array Value} (hw : ∀ d ∈ tables_1, d.before a0 Z = true) : (Jvm.Cond.methodLink "java/util/ImmutableCollections$List12" (7 : Nat) ({ cls := "java/util/Objects", name := "requireNonNull", desc := "(Ljava/lang/Object;)Ljava/lang/Object;" } : Jvm.MethodName)).before a0 Z = true := hw _ (List.mem_of_getElem? (i := 111) rfl)
theorem hw112 {Z : State} {a0 : Array Value} (hw : ∀ d ∈ tables_1, d.before a0 Z = true) : (Jvm.Cond.static ({ cls := "java/util/Objects", name := "requireNonNull", desc := "(Ljava/lang/Object;)Ljava/lang/Object;" } : Jvm.MethodName)).before a0 Z = true := hw _ (List.mem_of_getElem? (i := 112) rfl)
theorem hw113 {Z : State} {a0 : Array Value} (hw : ∀ d ∈ tables_1, d.before a0 Z = true) : (Jvm.Cond.initialized "java/util/Objects").before a0 Z = true := hw _ (List.mem_of_getElem? (i := 113) rfl)
theorem hw114 {Z : State} {a0 : Array Value} (hw : ∀ d ∈ tables_1, d.before a0 Z = true) : (Jvm.Cond.code ({ cls := "java/util/Objects", name := "requireNonNull", desc := "(Ljava/lang/Object;)Ljava/lang/Object;" } : Jvm.MethodName) jdk_31_method_10_code (1 : Nat) (Option.some (Jvm.ClassFile.FieldType.object "java/lang/Object"))).before a0 Z = true := hw _ (List.mem_of_getElem? (i := 114) rfl)
theorem hw115 {Z : State} {a0 : Array Value} (hw : ∀ d ∈ tables_1, d.before a0 Z = true) : (Jvm.Cond.fieldLink "java/util/ImmutableCollections$List12" (13 : Nat) "java/util/ImmutableCollections$List12" "e0" "Ljava/lang/Object;").before a0 Z = true := hw _ (List.mem_of_getElem? (i := 115) rfl)
theorem hw116 {Z : State} {a0 : Array Value} (hw : ∀ d ∈ tables_1, d.before a0 Z = true) : (Jvm.Cond.laysFinal "java/util/ImmutableCollections$List12" "java/util/ImmutableCollections$List12" "e0" "Ljava/lang/Object;").before a0 Z = true := hw _ (List.mem_of_getElem? (i := 116) rfl)
theorem hw117 {Z : State} {a0 : Array Value} (hw : ∀ d ∈ tables_1, d.before a0 Z = true) : (Jvm.Cond.fieldLinkNest "java/util/ImmutableCollections$List12" (19 : Nat) "java/util/ImmutableCollections" "EMPTY" "Ljava/lang/Object;" "java/util/ImmutableCollections").before a0 Z = true := hw _ (List.mem_of_getElem? (i := 117) rfl)
theorem hw119 {Z : State} {a0 : Array Value} (hw : ∀ d ∈ tables_1, d.before a0 Z = true) : (Jvm.Cond.fieldLink "java/util/ImmutableCollections$List12" (24 : Nat) "java/util/ImmutableCollections$List12" "e1" "Ljava/lang/Object;").before a0 Z = true := hw _ (List.mem_of_getElem? (i := 119) rfl)
theorem hw120 {Z : State} {a0 : Array Value} (hw : ∀ d ∈ tables_1, d.before a0 Z = true) : (Jvm.Cond.laysFinal "java/util/ImmutableCollections$List12" "java/util/ImmutableCollections$List12" "e1" "Ljava/lang/Object;").before a0 Z = true := hw _ (List.mem_of_getElem? (i := 120) rfl)
theorem hw121 {Z : State} {a0 : Array Value} (hw : ∀ d ∈ tables_1, d.before a0 Z = true) : (Jvm.Cond.methodLink "com/example/bolter/bolter/model/ElementDefinitions$Definition" (52 : Nat) ({ cls := "com/example/bolter/bolter/model/ElementDefinitions$Definition", name := "<init>", desc := "(Ljava/lang/String;Ljava/util/List;Ljava/lang/String;ZI)V" } : Jvm.MethodName)).before a0 Z = true := hw _ (List.mem_of_getElem? (i := 121) rfl)
theorem hw122 {Z : State} {a0 : Array Value} (hw : ∀ d ∈ tables_1, d.before a0 Z = true) : (Jvm.Cond.methodLink "com/example/bolter/bolter/model/DefinitionAsPinLaw" (35 : Nat) ({ cls := "com/example/bolter/bolter/model/ElementDefinitions$Definition", name := "types", desc := "()Ljava/util/List;" } : Jvm.MethodName)).before a0 Z = true := hw _ (List.mem_of_getElem? (i := 122) rfl)
theorem hw123 {Z : State} {a0 : Array Value} (hw : ∀ d ∈ tables_1, d.before a0 Z = true) : (Jvm.Cond.declares ({ cls := "com/example/bolter/bolter/model/ElementDefinitions$Definition", name := "types", desc := "()Ljava/util/List;" } : Jvm.MethodName)).before a0 Z = true := hw _ (List.mem_of_getElem? (i := 123) rfl)
theorem hw124 {Z : State} {a0 : Array Value} (hw : ∀ d ∈ tables_1, d.before a0 Z = true) : (Jvm.Cond.instanceMethod ({ cls := "com/example/bolter/bolter/model/ElementDefinitions$Definition", name := "types", desc := "()Ljava/util/List;" } : Jvm.MethodName)).before a0 Z = true := hw _ (List.mem_of_getElem? (i := 124) rfl)
theorem hw125 {Z : State} {a0 : Array Value} (hw : ∀ d ∈ tables_1, d.before a0 Z = true) : (Jvm.Cond.selects "com/example/bolter/bolter/model/ElementDefinitions$Definition" ({ cls := "com/example/bolter/bolter/model/ElementDefinitions$Definition", name := "types", desc := "()Ljava/util/List;" } : Jvm.MethodName) ({ cls := "com/example/bolter/bolter/model/ElementDefinitions$Definition", name := "types", desc := "()Ljava/util/List;" } : Jvm.MethodName)).before a0 Z = true := hw _ (List.mem_of_getElem? (i := 125) rfl)
theorem hw126 {Z : State} {a0 : Array Value} (hw : ∀ d ∈ tables_1, d.before a0 Z = true) : (Jvm.Cond.code ({ cls := "com/example/bolter/bolter/model/ElementDefinitions$Definition", name := "types", desc := "()Ljava/util/List;" } : Jvm.MethodName) prog_11_method_10_code (1 : Nat) (Option.some (Jvm.ClassFile.FieldType.object "java/util/List"))).before a0 Z = true := hw _ (List.mem_of_getElem? (i := 126) rfl)
theorem hw127 {Z : State} {a0 : Array Value} (hw : ∀ d ∈ tables_1, d.before a0 Z = true) : (Jvm.Cond.methodLink "com/example/bolter/bolter/model/DefinitionAsPinLaw" (39 : Nat) ({ cls := "com/example/bolter/bolter/model/ElementDefinitions$Definition", name := "valueSet", desc := "()Ljava/lang/String;" } : Jvm.MethodName)).before a0 Z = true := hw _ (List.mem_of_getElem? (i := 127) rfl)
theorem hw128 {Z : State} {a0 : Array Value} (hw : ∀ d ∈ tables_1, d.before a0 Z = true) : (Jvm.Cond.declares ({ cls := "com/example/bolter/bolter/model/ElementDefinitions$Definition", name := "valueSet", desc := "()Ljava/lang/String;" } : Jvm.MethodName)).before a0 Z = true := hw _ (List.mem_of_getElem? (i := 128) rfl)
theorem hw129 {Z : State} {a0 : Array Value} (hw : ∀ d ∈ tables_1, d.before a0 Z = true) : (Jvm.Cond.instanceMethod ({ cls := "com/example/bolter/bolter/model/ElementDefinitions$Definition", name := "valueSet", desc := "()Ljava/lang/String;" } : Jvm.MethodName)).before a0 Z = true := hw _ (List.mem_of_getElem? (i := 129) rfl)
theorem hw130 {Z : State} {a0 : Array Value} (hw : ∀ d ∈ tables_1, d.before a0 Z = true) : (Jvm.Cond.selects "com/example/bolter/bolter/model/ElementDefinitions$Definition" ({ cls := "com/example/bolter/bolter/model/ElementDefinitions$Definition", name := "valueSet", desc := "()Ljava/lang/String;" } : Jvm.MethodName) ({ cls := "com/example/bolter/bolter/model/ElementDefinitions$Definition", name := "valueSet", desc := "()Ljava/lang/String;" } : Jvm.MethodName)).before a0 Z = true := hw _ (List.mem_of_getElem? (i := 130) rfl)
theorem hw131 {Z : State} {a0 : Array Value} (hw : ∀ d ∈ tables_1, d.before a0 Z = true) : (Jvm.Cond.code ({ cls := "com/example/bolter/bolter/model/ElementDefinitions$Definition", name := "valueSet", desc := "()Ljava/lang/String;" } : Jvm.MethodName) prog_11_method_11_code (1 : Nat) (Option.some (Jvm.ClassFile.FieldType.object "java/lang/String"))).before a0 Z = true := hw _ (List.mem_of_getElem? (i := 131) rfl)
theorem hw132 {Z : State} {a0 : Array Value} (hw : ∀ d ∈ tables_1, d.before a0 Z = true) : (Jvm.Cond.methodLink "com/example/bolter/bolter/model/DefinitionAsPinLaw" (43 : Nat) ({ cls := "java/lang/String", name := "equals", desc := "(Ljava/lang/Object;)Z" } : Jvm.MethodName)).before a0 Z = true := hw _ (List.mem_of_getElem? (i := 132) rfl)
theorem hw133 {Z : State} {a0 : Array Value} (hw : ∀ d ∈ tables_1, d.before a0 Z = true) : (Jvm.Cond.declares ({ cls := "java/lang/String", name := "equals", desc := "(Ljava/lang/Object;)Z" } : Jvm.MethodName)).before a0 Z = true := hw _ (List.mem_of_getElem? (i := 133) rfl)
theorem hw134 {Z : State} {a0 : Array Value} (hw : ∀ d ∈ tables_1, d.before a0 Z = true) : (Jvm.Cond.instanceMethod ({ cls := "java/lang/String", name := "equals", desc := "(Ljava/lang/Object;)Z" } : Jvm.MethodName)).before a0 Z = true := hw _ (List.mem_of_getElem? (i := 134) rfl)
theorem hw135 {Z : State} {a0 : Array Value} (hw : ∀ d ∈ tables_1, d.before a0 Z = true) : (Jvm.Cond.selects "java/lang/String" ({ cls := "java/lang/String", name := "equals", desc := "(Ljava/lang/Object;)Z" } : Jvm.MethodName) ({ cls := "java/lang/String", name := "equals", desc := "(Ljava/lang/Object;)Z" } : Jvm.MethodName)).before a0 Z = true := hw _ (List.mem_of_getElem? (i := 135) rfl)
theorem hw136 {Z : State} {a0 : Array Value} (hw : ∀ d ∈ tables_1, d.before a0 Z = true) : (Jvm.Cond.code ({ cls := "java/lang/String", name := "equals", desc := "(Ljava/lang/Object;)Z" } : Jvm.MethodName) jdk_42_method_66_code (3 : Nat) (Option.some Jvm.ClassFile.FieldType.boolean)).before a0 Z = true := hw _ (List.mem_of_getElem? (i := 136) rfl)
theorem hw137 {Z : State} {a0 : Array Value} (hw : ∀ d ∈ tables_1, d.before a0 Z = true) : (Jvm.Cond.methodLink "com/example/bolter/bolter/model/DefinitionAsPinLaw" (46 : Nat) ({ cls := "com/example/bolter/bolter/model/ElementDefinitions$Definition", name := "path", desc := "()Ljava/lang/String;" } : Jvm.MethodName)).before a0 Z = true := hw _ (List.mem_of_getElem? (i := 137) rfl)
theorem hw138 {Z : State} {a0 : Array Value} (hw : ∀ d ∈ tables_1, d.before a0 Z = true) : (Jvm.Cond.declares ({ cls := "com/example/bolter/bolter/model/ElementDefinitions$Definition", name := "path", desc := "()Ljava/lang/String;" } : Jvm.MethodName)).before a0 Z = true := hw _ (List.mem_of_getElem? (i := 138) rfl)
theorem hw139 {Z : State} {a0 : Array Value} (hw : ∀ d ∈ tables_1, d.before a0 Z = true) : (Jvm.Cond.instanceMethod ({ cls := "com/example/bolter/bolter/model/ElementDefinitions$Definition", name := "path", desc := "()Ljava/lang/String;" } : Jvm.MethodName)).before a0 Z = true := hw _ (List.mem_of_getElem? (i := 139) rfl)
theorem hw140 {Z : State} {a0 : Array Value} (hw : ∀ d ∈ tables_1, d.before a0 Z = true) : (Jvm.Cond.selects "com/example/bolter/bolter/model/ElementDefinitions$Definition" ({ cls := "com/example/bolter/bolter/model/ElementDefinitions$Definition", name := "path", desc := "()Ljava/lang/String;" } : Jvm.MethodName) ({ cls := "com/example/bolter/bolter/model/ElementDefinitions$Definition", name := "path", desc := "()Ljava/lang/String;" } : Jvm.MethodName)).before a0 Z = true := hw _ (List.mem_of_getElem? (i := 140) rfl)
theorem hw141 {Z : State} {a0 : Array Value} (hw : ∀ d ∈ tables_1, d.before a0 Z = true) : (Jvm.Cond.code ({ cls := "com/example/bolter/bolter/model/ElementDefinitions$Definition", name := "path", desc := "()Ljava/lang/String;" } : Jvm.MethodName) prog_11_method_9_code (1 : Nat) (Option.some (Jvm.ClassFile.FieldType.object "java/lang/String"))).before a0 Z = true := hw _ (List.mem_of_getElem? (i := 141) rfl)
theorem hw142 {Z : State} {a0 : Array Value} (hw : ∀ d ∈ tables_1, d.before a0 Z = true) : (Jvm.Cond.methodLink "com/example/bolter/bolter/model/DefinitionAsPinLaw" (49 : Nat) ({ cls := "java/util/List", name := "size", desc := "()I" } : Jvm.MethodName)).before a0 Z = true := hw _ (List.mem_of_getElem? (i := 142) rfl)
theorem hw143 {Z : State} {a0 : Array Value} (hw : ∀ d ∈ tables_1, d.before a0 Z = true) : (Jvm.Cond.declares ({ cls := "java/util/List", name := "size", desc := "()I" } : Jvm.MethodName)).before a0 Z = true := hw _ (List.mem_of_getElem? (i := 143) rfl)
theorem hw144 {Z : State} {a0 : Array Value} (hw : ∀ d ∈ tables_1, d.before a0 Z = true) : (Jvm.Cond.interfaceMethod "java/util/List" "java/util/List" "size" "()I").before a0 Z = true := hw _ (List.mem_of_getElem? (i := 144) rfl)
theorem hw145 {Z : State} {a0 : Array Value} (hw : ∀ d ∈ tables_1, d.before a0 Z = true) : (Jvm.Cond.selects "java/util/ImmutableCollections$List12" ({ cls := "java/util/List", name := "size", desc := "()I" } : Jvm.MethodName) ({ cls := "java/util/ImmutableCollections$List12", name := "size", desc := "()I" } : Jvm.MethodName)).before a0 Z = true := hw _ (List.mem_of_getElem? (i := 145) rfl)
theorem hw146 {Z : State} {a0 : Array Value} (hw : ∀ d ∈ tables_1, d.before a0 Z = true) : (Jvm.Cond.instanceMethod ({ cls := "java/util/ImmutableCollections$List12", name := "size", desc := "()I" } : Jvm.MethodName)).before a0 Z = true := hw _ (List.mem_of_getElem? (i := 146) rfl)
theorem hw147 {Z : State} {a0 : Array Value} (hw : ∀ d ∈ tables_1, d.before a0 Z = true) : (Jvm.Cond.publicMethod ({ cls := "java/util/ImmutableCollections$List12", name := "size", desc := "()I" } : Jvm.MethodName)).before a0 Z = true := hw _ (List.mem_of_getElem? (i := 147) rfl)
theorem hw148 {Z : State} {a0 : Array Value} (hw : ∀ d ∈ tables_1, d.before a0 Z = true) : (Jvm.Cond.unhidden "java/util/ImmutableCollections$List12" "size" "()I").before a0 Z = true := hw _ (List.mem_of_getElem? (i := 148) rfl)
theorem hw149 {Z : State} {a0 : Array Value} (hw : ∀ d ∈ tables_1, d.before a0 Z = true) : (Jvm.Cond.castable "java/util/ImmutableCollections$List12" "java/util/List").before a0 Z = true := hw _ (List.mem_of_getElem? (i := 149) rfl)
theorem hw150 {Z : State} {a0 : Array Value} (hw : ∀ d ∈ tables_1, d.before a0 Z = true) : (Jvm.Cond.code ({ cls := "java/util/ImmutableCollections$List12", name := "size", desc := "()I" } : Jvm.MethodName) jdk_44_method_3_code (1 : Nat) (Option.some Jvm.ClassFile.FieldType.int)).before a0 Z = true := hw _ (List.mem_of_getElem? (i := 150) rfl)
theorem hw151 {Z : State} {a0 : Array Value} (hw : ∀ d ∈ tables_1, d.before a0 Z = true) : (Jvm.Cond.methodLink "com/example/bolter/bolter/model/DefinitionAsPinLaw" (55 : Nat) ({ cls := "java/util/List", name := "get", desc := "(I)Ljava/lang/Object;" } : Jvm.MethodName)).before a0 Z = true := hw _ (List.mem_of_getElem? (i := 151) rfl)
theorem hw152 {Z : State} {a0 : Array Value} (hw : ∀ d ∈ tables_1, d.before a0 Z = true) : (Jvm.Cond.declares ({ cls := "java/util/List", name := "get", desc := "(I)Ljava/lang/Object;" } : Jvm.MethodName)).before a0 Z = true := hw _ (List.mem_of_getElem? (i := 152) rfl)
theorem hw153 {Z : State} {a0 : Array Value} (hw : ∀ d ∈ tables_1, d.before a0 Z = true) : (Jvm.Cond.interfaceMethod "java/util/List" "java/util/List" "get" "(I)Ljava/lang/Object;").before a0 Z = true := hw _ (List.mem_of_getElem? (i := 153) rfl)
theorem hw154 {Z : State} {a0 : Array Value} (hw : ∀ d ∈ tables_1, d.before a0 Z = true) : (Jvm.Cond.selects "java/util/ImmutableCollections$List12" ({ cls := "java/util/List", name := "get", desc := "(I)Ljava/lang/Object;" } : Jvm.MethodName) ({ cls := "java/util/ImmutableCollections$List12", name := "get", desc := "(I)Ljava/lang/Object;" } : Jvm.MethodName)).before a0 Z = true := hw _ (List.mem_of_getElem? (i := 154) rfl)
theorem hw155 {Z : State} {a0 : Array Value} (hw : ∀ d ∈ tables_1, d.before a0 Z = true) : (Jvm.Cond.instanceMethod ({ cls := "java/util/ImmutableCollections$List12", name := "get", desc := "(I)Ljava/lang/Object;" } : Jvm.MethodName)).before a0 Z = true := hw _ (List.mem_of_getElem? (i := 155) rfl)
theorem hw156 {Z : State} {a0 : Array Value} (hw : ∀ d ∈ tables_1, d.before a0 Z = true) : (Jvm.Cond.publicMethod ({ cls := "java/util/ImmutableCollections$List12", name := "get", desc := "(I)Ljava/lang/Object;" } : Jvm.MethodName)).before a0 Z = true := hw _ (List.mem_of_getElem? (i := 156) rfl)
theorem hw157 {Z : State} {a0 : Array Value} (hw : ∀ d ∈ tables_1, d.before a0 Z = true) : (Jvm.Cond.unhidden "java/util/ImmutableCollections$List12" "get" "(I)Ljava/lang/Object;").before a0 Z = true := hw _ (List.mem_of_getElem? (i := 157) rfl)
theorem hw158 {Z : State} {a0 : Array Value} (hw : ∀ d ∈ tables_1, d.before a0 Z = true) : (Jvm.Cond.code ({ cls := "java/util/ImmutableCollections$List12", name := "get", desc := "(I)Ljava/lang/Object;" } : Jvm.MethodName) jdk_44_method_5_code (2 : Nat) (Option.some (Jvm.ClassFile.FieldType.object "java/lang/Object"))).before a0 Z = true := hw _ (List.mem_of_getElem? (i := 158) rfl)
theorem hw159 {Z : State} {a0 : Array Value} (hw : ∀ d ∈ tables_1, d.before a0 Z = true) : (Jvm.Cond.methodLink "com/example/bolter/bolter/model/DefinitionAsPinLaw" (59 : Nat) ({ cls := "com/example/bolter/bolter/model/ElementDefinitions$Definition", name := "type", desc := "()Ljava/lang/String;" } : Jvm.MethodName)).before a0 Z = true := hw _ (List.mem_of_getElem? (i := 159) rfl)
theorem hw160 {Z : State} {a0 : Array Value} (hw : ∀ d ∈ tables_1, d.before a0 Z = true) : (Jvm.Cond.declares ({ cls := "com/example/bolter/bolter/model/ElementDefinitions$Definition", name := "type", desc := "()Ljava/lang/String;" } : Jvm.MethodName)).before a0 Z = true := hw _ (List.mem_of_getElem? (i := 160) rfl)
theorem hw161 {Z : State} {a0 : Array Value} (hw : ∀ d ∈ tables_1, d.before a0 Z = true) : (Jvm.Cond.instanceMethod ({ cls := "com/example/bolter/bolter/model/ElementDefinitions$Definition", name := "type", desc := "()Ljava/lang/String;" } : Jvm.MethodName)).before a0 Z = true := hw _ (List.mem_of_getElem? (i := 161) rfl)
theorem hw162 {Z : State} {a0 : Array Value} (hw : ∀ d ∈ tables_1, d.before a0 Z = true) : (Jvm.Cond.selects "com/example/bolter/bolter/model/ElementDefinitions$Definition" ({ cls := "com/example/bolter/bolter/model/ElementDefinitions$Definition", name := "type", desc := "()Ljava/lang/String;" } : Jvm.MethodName) ({ cls := "com/example/bolter/bolter/model/ElementDefinitions$Definition", name := "type", desc := "()Ljava/lang/String;" } : Jvm.MethodName)).before a0 Z = true := hw _ (List.mem_of_getElem? (i := 162) rfl)
theorem hw163 {Z : State} {a0 : Array Value} (hw : ∀ d ∈ tables_1, d.before a0 Z = true) : (Jvm.Cond.code ({ cls := "com/example/bolter/bolter/model/ElementDefinitions$Definition", name := "type", desc := "()Ljava/lang/String;" } : Jvm.MethodName) prog_11_method_3_code (1 : Nat) (Option.some (Jvm.ClassFile.FieldType.object "java/lang/String"))).before a0 Z = true := hw _ (List.mem_of_getElem? (i := 163) rfl)
theorem hw164 {Z : State} {a0 : Array Value} (hw : ∀ d ∈ tables_1, d.before a0 Z = true) : (Jvm.Cond.methodLink "com/example/bolter/bolter/model/ElementDefinitions$Definition" (38 : Nat) ({ cls := "java/util/List", name := "size", desc := "()I" } : Jvm.MethodName)).before a0 Z = true := hw _ (List.mem_of_getElem? (i := 164) rfl)
theorem hw165 {Z : State} {a0 : Array Value} (hw : ∀ d ∈ tables_1, d.before a0 Z = true) : (Jvm.Cond.methodLink "com/example/bolter/bolter/model/ElementDefinitions$Definition" (44 : Nat) ({ cls := "java/util/List", name := "get", desc := "(I)Ljava/lang/Object;" } : Jvm.MethodName)).before a0 Z = true := hw _ (List.mem_of_getElem? (i := 165) rfl)
theorem hw166 {Z : State} {a0 : Array Value} (hw : ∀ d ∈ tables_1, d.before a0 Z = true) : (Jvm.Cond.classLink "com/example/bolter/bolter/model/ElementDefinitions$Definition" (33 : Nat) "java/lang/String").before a0 Z = true := hw _ (List.mem_of_getElem? (i := 166) rfl)
theorem hw167 {Z : State} {a0 : Array Value} (hw : ∀ d ∈ tables_1, d.before a0 Z = true) : (Jvm.Cond.methodLink "com/example/bolter/bolter/model/DefinitionAsPinLaw" (62 : Nat) ({ cls := "com/example/bolter/bolter/model/ElementDefinitions$Definition", name := "summary", desc := "()Z" } : Jvm.MethodName)).before a0 Z = true := hw _ (List.mem_of_getElem? (i := 167) rfl)
theorem hw168 {Z : State} {a0 : Array Value} (hw : ∀ d ∈ tables_1, d.before a0 Z = true) : (Jvm.Cond.declares ({ cls := "com/example/bolter/bolter/model/ElementDefinitions$Definition", name := "summary", desc := "()Z" } : Jvm.MethodName)).before a0 Z = true := hw _ (List.mem_of_getElem? (i := 168) rfl)
theorem hw169 {Z : State} {a0 : Array Value} (hw : ∀ d ∈ tables_1, d.before a0 Z = true) : (Jvm.Cond.instanceMethod ({ cls := "com/example/bolter/bolter/model/ElementDefinitions$Definition", name := "summary", desc := "()Z" } : Jvm.MethodName)).before a0 Z = true := hw _ (List.mem_of_getElem? (i := 169) rfl)
theorem hw170 {Z : State} {a0 : Array Value} (hw : ∀ d ∈ tables_1, d.before a0 Z = true) : (Jvm.Cond.selects "com/example/bolter/bolter/model/ElementDefinitions$Definition" ({ cls := "com/example/bolter/bolter/model/ElementDefinitions$Definition", name := "summary", desc := "()Z" } : Jvm.MethodName) ({ cls := "com/example/bolter/bolter/model/ElementDefinitions$Definition", name := "summary", desc := "()Z" } : Jvm.MethodName)).before a0 Z = true := hw _ (List.mem_of_getElem? (i := 170) rfl)
theorem hw171 {Z : State} {a0 : Array Value} (hw : ∀ d ∈ tables_1, d.before a0 Z = true) : (Jvm.Cond.code ({ cls := "com/example/bolter/bolter/model/ElementDefinitions$Definition", name := "summary", desc := "()Z" } : Jvm.MethodName) prog_11_method_12_code (1 : Nat) (Option.some Jvm.ClassFile.FieldType.boolean)).before a0 Z = true := hw _ (List.mem_of_getElem? (i := 171) rfl)
theorem hw172 {Z : State} {a0 : Array Value} (hw : ∀ d ∈ tables_1, d.before a0 Z = true) : (Jvm.Cond.methodLink "com/example/bolter/bolter/model/DefinitionAsPinLaw" (66 : Nat) ({ cls := "com/example/bolter/bolter/model/ElementDefinitions$Definition", name := "min", desc := "()I" } : Jvm.MethodName)).before a0 Z = true := hw _ (List.mem_of_getElem? (i := 172) rfl)
theorem hw173 {Z : State} {a0 : Array Value} (hw : ∀ d ∈ tables_1, d.before a0 Z = true) : (Jvm.Cond.declares ({ cls := "com/example/bolter/bolter/model/ElementDefinitions$Definition", name := "min", desc := "()I" } : Jvm.MethodName)).before a0 Z = true := hw _ (List.mem_of_getElem? (i := 173) rfl)
theorem hw174 {Z : State} {a0 : Array Value} (hw : ∀ d ∈ tables_1, d.before a0 Z = true) : (Jvm.Cond.instanceMethod ({ cls := "com/example/bolter/bolter/model/ElementDefinitions$Definition", name := "min", desc := "()I" } : Jvm.MethodName)).before a0 Z = true := hw _ (List.mem_of_getElem? (i := 174) rfl)
theorem hw175 {Z : State} {a0 : Array Value} (hw : ∀ d ∈ tables_1, d.before a0 Z = true) : (Jvm.Cond.selects "com/example/bolter/bolter/model/ElementDefinitions$Definition" ({ cls := "com/example/bolter/bolter/model/ElementDefinitions$Definition", name := "min", desc := "()I" } : Jvm.MethodName) ({ cls := "com/example/bolter/bolter/model/ElementDefinitions$Definition", name := "min", desc := "()I" } : Jvm.MethodName)).before a0 Z = true := hw _ (List.mem_of_getElem? (i := 175) rfl)
theorem hw176 {Z : State} {a0 : Array Value} (hw : ∀ d ∈ tables_1, d.before a0 Z = true) : (Jvm.Cond.code ({ cls := "com/example/bolter/bolter/model/ElementDefinitions$Definition", name := "min", desc := "()I" } : Jvm.MethodName) prog_11_method_13_code (1 : Nat) (Option.some Jvm.ClassFile.FieldType.int)).before a0 Z = true := hw _ (List.mem_of_getElem? (i := 176) rfl)
theorem hw177 {Z : State} {a0 : Array Value} (hw : ∀ d ∈ tables_1, d.before a0 Z = true) : (Jvm.Cond.selects "java/util/ArrayList" ({ cls := "java/util/List", name := "size", desc := "()I" } : Jvm.MethodName) ({ cls := "java/util/ArrayList", name := "size", desc := "()I" } : Jvm.MethodName)).before a0 Z = true := hw _ (List.mem_of_getElem? (i := 177) rfl)
theorem hw178 {Z : State} {a0 : Array Value} (hw : ∀ d ∈ tables_1, d.before a0 Z = true) : (Jvm.Cond.instanceMethod ({ cls := "java/util/ArrayList", name := "size", desc := "()I" } : Jvm.MethodName)).before a0 Z = true := hw _ (List.mem_of_getElem? (i := 178) rfl)
theorem hw179 {Z : State} {a0 : Array Value} (hw : ∀ d ∈ tables_1, d.before a0 Z = true) : (Jvm.Cond.publicMethod ({ cls := "java/util/ArrayList", name := "size", desc := "()I" } : Jvm.MethodName)).before a0 Z = true := hw _ (List.mem_of_getElem? (i := 179) rfl)
theorem hw180 {Z : State} {a0 : Array Value} (hw : ∀ d ∈ tables_1, d.before a0 Z = true) : (Jvm.Cond.unhidden "java/util/ArrayList" "size" "()I").before a0 Z = true := hw _ (List.mem_of_getElem? (i := 180) rfl)
theorem hw181 {Z : State} {a0 : Array Value} (hw : ∀ d ∈ tables_1, d.before a0 Z = true) : (Jvm.Cond.castable "java/util/ArrayList" "java/util/List").before a0 Z = true := hw _ (List.mem_of_getElem? (i := 181) rfl)
theorem hw182 {Z : State} {a0 : Array Value} (hw : ∀ d ∈ tables_1, d.before a0 Z = true) : (Jvm.Cond.code ({ cls := "java/util/ArrayList", name := "size", desc := "()I" } : Jvm.MethodName) jdk_38_method_8_code (1 : Nat) (Option.some Jvm.ClassFile.FieldType.int)).before a0 Z = true := hw _ (List.mem_of_getElem? (i := 182) rfl)
theorem hw183 {Z : State} {a0 : Array Value} (hw : ∀ d ∈ tables_1, d.before a0 Z = true) : (Jvm.Cond.fieldLink "java/util/ArrayList" (48 : Nat) "java/util/ArrayList" "size" "I").before a0 Z = true := hw _ (List.mem_of_getElem? (i := 183) rfl)
theorem hw184 {Z : State} {a0 : Array Value} (hw : ∀ d ∈ tables_1, d.before a0 Z = true) : (Jvm.Cond.lays "java/util/ArrayList" "java/util/ArrayList" "size" "I").before a0 Z = true := hw _ (List.mem_of_getElem? (i := 184) rfl)
theorem hw185 {Z : State} {a0 : Array Value} (hw : ∀ d ∈ tables_1, d.before a0 Z = true) : (Jvm.Cond.methodLink "com/example/bolter/bolter/model/DefinitionAsPinLaw" (22 : Nat) ({ cls := "java/util/ArrayList", name := "add", desc := "(Ljava/lang/Object;)Z" } : Jvm.MethodName)).before a0 Z = true := hw _ (List.mem_of_getElem? (i := 185) rfl)
theorem hw186 {Z : State} {a0 : Array Value} (hw : ∀ d ∈ tables_1, d.before a0 Z = true) : (Jvm.Cond.declares ({ cls := "java/util/ArrayList", name := "add", desc := "(Ljava/lang/Object;)Z" } : Jvm.MethodName)).before a0 Z = true := hw _ (List.mem_of_getElem? (i := 186) rfl)
theorem hw187 {Z : State} {a0 : Array Value} (hw : ∀ d ∈ tables_1, d.before a0 Z = true) : (Jvm.Cond.instanceMethod ({ cls := "java/util/ArrayList", name := "add", desc := "(Ljava/lang/Object;)Z" } : Jvm.MethodName)).before a0 Z = true := hw _ (List.mem_of_getElem? (i := 187) rfl)
theorem hw188 {Z : State} {a0 : Array Value} (hw : ∀ d ∈ tables_1, d.before a0 Z = true) : (Jvm.Cond.selects "java/util/ArrayList" ({ cls := "java/util/ArrayList", name := "add", desc := "(Ljava/lang/Object;)Z" } : Jvm.MethodName) ({ cls := "java/util/ArrayList", name := "add", desc := "(Ljava/lang/Object;)Z" } : Jvm.MethodName)).before a0 Z = true := hw _ (List.mem_of_getElem? (i := 188) rfl)
theorem hw189 {Z : State} {a0 : Array Value} (hw : ∀ d ∈ tables_1, d.before a0 Z = true) : (Jvm.Cond.code ({ cls := "java/util/ArrayList", name := "add", desc := "(Ljava/lang/Object;)Z" } : Jvm.MethodName) jdk_38_method_25_code (2 : Nat) (Option.some Jvm.ClassFile.FieldType.boolean)).before a0 Z = true := hw _ (List.mem_of_getElem? (i := 189) rfl)
theorem hw190 {Z : State} {a0 : Array Value} (hw : ∀ d ∈ tables_1, d.before a0 Z = true) : (Jvm.Cond.fieldLink "java/util/ArrayList" (63 : Nat) "java/util/ArrayList" "modCount" "I").before a0 Z = true := hw _ (List.mem_of_getElem? (i := 190) rfl)
theorem hw191 {Z : State} {a0 : Array Value} (hw : ∀ d ∈ tables_1, d.before a0 Z = true) : (Jvm.Cond.sameField "java/util/ArrayList" "java/util/AbstractList" "modCount" "I").before a0 Z = true := hw _ (List.mem_of_getElem? (i := 191) rfl)
theorem hw192 {Z : State} {a0 : Array Value} (hw : ∀ d ∈ tables_1, d.before a0 Z = true) : (Jvm.Cond.methodLink "java/util/ArrayList" (131 : Nat) ({ cls := "java/util/ArrayList", name := "add", desc := "(Ljava/lang/Object;[Ljava/lang/Object;I)V" } : Jvm.MethodName)).before a0 Z = true := hw _ (List.mem_of_getElem? (i := 192) rfl)
theorem hw193 {Z : State} {a0 : Array Value} (hw : ∀ d ∈ tables_1, d.before a0 Z = true) : (Jvm.Cond.instanceMethod ({ cls := "java/util/ArrayList", name := "add", desc := "(Ljava/lang/Object;[Ljava/lang/Object;I)V" } : Jvm.MethodName)).before a0 Z = true := hw _ (List.mem_of_getElem? (i := 193) rfl)
theorem hw194 {Z : State} {a0 : Array Value} (hw : ∀ d ∈ tables_1, d.before a0 Z = true) : (Jvm.Cond.privateMethod ({ cls := "java/util/ArrayList", name := "add", desc := "(Ljava/lang/Object;[Ljava/lang/Object;I)V" } : Jvm.MethodName)).before a0 Z = true := hw _ (List.mem_of_getElem? (i := 194) rfl)
theorem hw195 {Z : State} {a0 : Array Value} (hw : ∀ d ∈ tables_1, d.before a0 Z = true) : (Jvm.Cond.selects "java/util/ArrayList" ({ cls := "java/util/ArrayList", name := "add", desc := "(Ljava/lang/Object;[Ljava/lang/Object;I)V" } : Jvm.MethodName) ({ cls := "java/util/ArrayList", name := "add", desc := "(Ljava/lang/Object;[Ljava/lang/Object;I)V" } : Jvm.MethodName)).before a0 Z = true := hw _ (List.mem_of_getElem? (i := 195) rfl)
theorem hw196 {Z : State} {a0 : Array Value} (hw : ∀ d ∈ tables_1, d.before a0 Z = true) : (Jvm.Cond.code ({ cls := "java/util/ArrayList", name := "add", desc := "(Ljava/lang/Object;[Ljava/lang/Object;I)V" } : Jvm.MethodName) jdk_38_method_24_code (4 : Nat) (Option.none : Option Jvm.ClassFile.FieldType)).before a0 Z = true := hw _ (List.mem_of_getElem? (i := 196) rfl)
theorem hw197 {Z : State} {a0 : Array Value} (hw : ∀ d ∈ tables_1, d.before a0 Z = true) : (Jvm.Cond.methodLink "java/util/ArrayList" (129 : Nat) ({ cls := "java/util/ArrayList", name := "grow", desc := "()[Ljava/lang/Object;" } : Jvm.MethodName)).before a0 Z = true := hw _ (List.mem_of_getElem? (i := 197) rfl)
theorem hw198 {Z : State} {a0 : Array Value} (hw : ∀ d ∈ tables_1, d.before a0 Z = true) : (Jvm.Cond.instanceMethod ({ cls := "java/util/ArrayList", name := "grow", desc := "()[Ljava/lang/Object;" } : Jvm.MethodName)).before a0 Z = true := hw _ (List.mem_of_getElem? (i := 198) rfl)
theorem hw199 {Z : State} {a0 : Array Value} (hw : ∀ d ∈ tables_1, d.before a0 Z = true) : (Jvm.Cond.privateMethod ({ cls := "java/util/ArrayList", name := "grow", desc := "()[Ljava/lang/Object;" } : Jvm.MethodName)).before a0 Z = true := hw _ (List.mem_of_getElem? (i := 199) rfl)
theorem hw200 {Z : State} {a0 : Array Value} (hw : ∀ d ∈ tables_1, d.before a0 Z = true) : (Jvm.Cond.selects "java/util/ArrayList" ({ cls := "java/util/ArrayList", name := "grow", desc := "()[Ljava/lang/Object;" } : Jvm.MethodName) ({ cls := "java/util/ArrayList", name := "grow", desc := "()[Ljava/lang/Object;" } : Jvm.MethodName)).before a0 Z = true := hw _ (List.mem_of_getElem? (i := 200) rfl)
theorem hw201 {Z : State} {a0 : Array Value} (hw : ∀ d ∈ tables_1, d.before a0 Z = true) : (Jvm.Cond.code ({ cls := "java/util/ArrayList", name := "grow", desc := "()[Ljava/lang/Object;" } : Jvm.MethodName) jdk_38_method_7_code (1 : Nat) (Option.some (Jvm.ClassFile.FieldType.array (Jvm.ClassFile.FieldType.object "java/lang/Object")))).before a0 Z = true := hw _ (List.mem_of_getElem? (i := 201) rfl)
theorem hw202 {Z : State} {a0 : Array Value} (hw : ∀ d ∈ tables_1, d.before a0 Z = true) : (Jvm.Cond.methodLink "java/util/ArrayList" (69 : Nat) ({ cls := "java/util/ArrayList", name := "grow", desc := "(I)[Ljava/lang/Object;" } : Jvm.MethodName)).before a0 Z = true := hw _ (List.mem_of_getElem? (i := 202) rfl)
theorem hw203 {Z : State} {a0 : Array Value} (hw : ∀ d ∈ tables_1, d.before a0 Z = true) : (Jvm.Cond.instanceMethod ({ cls := "java/util/ArrayList", name := "grow", desc := "(I)[Ljava/lang/Object;" } : Jvm.MethodName)).before a0 Z = true := hw _ (List.mem_of_getElem? (i := 203) rfl)
theorem hw204 {Z : State} {a0 : Array Value} (hw : ∀ d ∈ tables_1, d.before a0 Z = true) : (Jvm.Cond.privateMethod ({ cls := "java/util/ArrayList", name := "grow", desc := "(I)[Ljava/lang/Object;" } : Jvm.MethodName)).before a0 Z = true := hw _ (List.mem_of_getElem? (i := 204) rfl)
theorem hw205 {Z : State} {a0 : Array Value} (hw : ∀ d ∈ tables_1, d.before a0 Z = true) : (Jvm.Cond.selects "java/util/ArrayList" ({ cls := "java/util/ArrayList", name := "grow", desc := "(I)[Ljava/lang/Object;" } : Jvm.MethodName) ({ cls := "java/util/ArrayList", name := "grow", desc := "(I)[Ljava/lang/Object;" } : Jvm.MethodName)).before a0 Z = true := hw _ (List.mem_of_getElem? (i := 205) rfl)
theorem hw206 {Z : State} {a0 : Array Value} (hw : ∀ d ∈ tables_1, d.before a0 Z = true) : (Jvm.Cond.code ({ cls := "java/util/ArrayList", name := "grow", desc := "(I)[Ljava/lang/Object;" } : Jvm.MethodName) jdk_38_method_6_code (4 : Nat) (Option.some (Jvm.ClassFile.FieldType.array (Jvm.ClassFile.FieldType.object "java/lang/Object")))).before a0 Z = true := hw _ (List.mem_of_getElem? (i := 206) rfl)
theorem hw207 {Z : State} {a0 : Array Value} (hw : ∀ d ∈ tables_1, d.before a0 Z = true) : (Jvm.Cond.methodLink "java/util/ArrayList" (79 : Nat) ({ cls := "java/lang/Math", name := "max", desc := "(II)I" } : Jvm.MethodName)).before a0 Z = true := hw _ (List.mem_of_getElem? (i := 207) rfl)
theorem hw208 {Z : State} {a0 : Array Value} (hw : ∀ d ∈ tables_1, d.before a0 Z = true) : (Jvm.Cond.static ({ cls := "java/lang/Math", name := "max", desc := "(II)I" } : Jvm.MethodName)).before a0 Z = true := hw _ (List.mem_of_getElem? (i := 208) rfl)
theorem hw209 {Z : State} {a0 : Array Value} (hw : ∀ d ∈ tables_1, d.before a0 Z = true) : (Jvm.Cond.initialized "java/lang/Math").before a0 Z = true := hw _ (List.mem_of_getElem? (i := 209) rfl)
theorem hw210 {Z : State} {a0 : Array Value} (hw : ∀ d ∈ tables_1, d.before a0 Z = true) : (Jvm.Cond.code ({ cls := "java/lang/Math", name := "max", desc := "(II)I" } : Jvm.MethodName) jdk_29_method_65_code (2 : Nat) (Option.some Jvm.ClassFile.FieldType.int)).before a0 Z = true := hw _ (List.mem_of_getElem? (i := 210) rfl)
theorem hw211 {Z : State} {a0 : Array Value} (hw : ∀ d ∈ tables_1, d.before a0 Z = true) : (Jvm.Cond.classLink "java/util/ArrayList" (7 : Nat) "java/lang/Object").before a0 Z = true := hw _ (List.mem_of_getElem? (i := 211) rfl)
theorem hw212 {Z : State} {a0 : Array Value} (hw : ∀ d ∈ tables_1, d.before a0 Z = true) : (Jvm.Cond.arrayOver (Jvm.ClassFile.FieldType.object "java/lang/Object")).before a0 Z = true := hw _ (List.mem_of_getElem? (i := 212) rfl)
theorem hw213 {Z : State} {a0 : Array Value} (hw : ∀ d ∈ tables_1, d.before a0 Z = true) : (Jvm.Cond.castable "java/lang/String" "java/lang/Object").before a0 Z = true := hw _ (List.mem_of_getElem? (i := 213) rfl)
theorem hw214 {Z : State} {a0 : Array Value} (hw : ∀ d ∈ tables_1, d.before a0 Z = true) : (Jvm.Cond.methodLink "com/example/bolter/bolter/model/DefinitionAsPinLaw" (13 : Nat) ({ cls := "java/lang/String", name := "valueOf", desc := "(C)Ljava/lang/String;" } : Jvm.MethodName)).before a0 Z = true := hw _ (List.mem_of_getElem? (i := 214) rfl)
theorem hw215 {Z : State} {a0 : Array Value} (hw : ∀ d ∈ tables_1, d.before a0 Z = true) : (Jvm.Cond.static ({ cls := "java/lang/String", name := "valueOf", desc := "(C)Ljava/lang/String;" } : Jvm.MethodName)).before a0 Z = true := hw _ (List.mem_of_getElem? (i := 215) rfl)
theorem hw216 {Z : State} {a0 : Array Value} (hw : ∀ d ∈ tables_1, d.before a0 Z = true) : (Jvm.Cond.code ({ cls := "java/lang/String", name := "valueOf", desc := "(C)Ljava/lang/String;" } : Jvm.MethodName) jdk_42_method_139_code (1 : Nat) (Option.some (Jvm.ClassFile.FieldType.object "java/lang/String"))).before a0 Z = true := hw _ (List.mem_of_getElem? (i := 216) rfl)
theorem hw217 {Z : State} {a0 : Array Value} (hw : ∀ d ∈ tables_1, d.before a0 Z = true) : (Jvm.Cond.methodLink "java/lang/String" (1015 : Nat) ({ cls := "java/lang/StringLatin1", name := "canEncode", desc := "(C)Z" } : Jvm.MethodName)).before a0 Z = true := hw _ (List.mem_of_getElem? (i := 217) rfl)
theorem hw218 {Z : State} {a0 : Array Value} (hw : ∀ d ∈ tables_1, d.before a0 Z = true) : (Jvm.Cond.static ({ cls := "java/lang/StringLatin1", name := "canEncode", desc := "(C)Z" } : Jvm.MethodName)).before a0 Z = true := hw _ (List.mem_of_getElem? (i := 218) rfl)
theorem hw219 {Z : State} {a0 : Array Value} (hw : ∀ d ∈ tables_1, d.before a0 Z = true) : (Jvm.Cond.initialized "java/lang/StringLatin1").before a0 Z = true := hw _ (List.mem_of_getElem? (i := 219) rfl)
theorem hw220 {Z : State} {a0 : Array Value} (hw : ∀ d ∈ tables_1, d.before a0 Z = true) : (Jvm.Cond.code ({ cls := "java/lang/StringLatin1", name := "canEncode", desc := "(C)Z" } : Jvm.MethodName) jdk_43_method_3_code (1 : Nat) (Option.some Jvm.ClassFile.FieldType.boolean)).before a0 Z = true := hw _ (List.mem_of_getElem? (i := 220) rfl)
theorem hw221 {Z : State} {a0 : Array Value} (hw : ∀ d ∈ tables_1, d.before a0 Z = true) : (Jvm.Cond.classLink "java/lang/String" (10 : Nat) "java/lang/String").before a0 Z = true := hw _ (List.mem_of_getElem? (i := 221) rfl)
theorem hw222 {Z : State} {a0 : Array Value} (hw : ∀ d ∈ tables_1, d.before a0 Z = true) : (Jvm.Cond.methodLink "java/lang/String" (1018 : Nat) ({ cls := "java/lang/StringLatin1", name := "toBytes", desc := "(C)[B" } : Jvm.MethodName)).before a0 Z = true := hw _ (List.mem_of_getElem? (i := 222) rfl)
theorem hw223 {Z : State} {a0 : Array Value} (hw : ∀ d ∈ tables_1, d.before a0 Z = true) : (Jvm.Cond.static ({ cls := "java/lang/StringLatin1", name := "toBytes", desc := "(C)[B" } : Jvm.MethodName)).before a0 Z = true := hw _ (List.mem_of_getElem? (i := 223) rfl)
theorem hw224 {Z : State} {a0 : Array Value} (hw : ∀ d ∈ tables_1, d.before a0 Z = true) : (Jvm.Cond.code ({ cls := "java/lang/StringLatin1", name := "toBytes", desc := "(C)[B" } : Jvm.MethodName) jdk_43_method_46_code (1 : Nat) (Option.some (Jvm.ClassFile.FieldType.array Jvm.ClassFile.FieldType.byte))).before a0 Z = true := hw _ (List.mem_of_getElem? (i := 224) rfl)
theorem hw225 {Z : State} {a0 : Array Value} (hw : ∀ d ∈ tables_1, d.before a0 Z = true) : (Jvm.Cond.methodLink "java/lang/String" (209 : Nat) ({ cls := "java/lang/String", name := "<init>", desc := "([BB)V" } : Jvm.MethodName)).before a0 Z = true := hw _ (List.mem_of_getElem? (i := 225) rfl)
theorem hw226 {Z : State} {a0 : Array Value} (hw : ∀ d ∈ tables_1, d.before a0 Z = true) : (Jvm.Cond.instanceMethod ({ cls := "java/lang/String", name := "<init>", desc := "([BB)V" } : Jvm.MethodName)).before a0 Z = true := hw _ (List.mem_of_getElem? (i := 226) rfl)
theorem hw227 {Z : State} {a0 : Array Value} (hw : ∀ d ∈ tables_1, d.before a0 Z = true) : (Jvm.Cond.code ({ cls := "java/lang/String", name := "<init>", desc := "([BB)V" } : Jvm.MethodName) jdk_42_method_151_code (3 : Nat) (Option.none : Option Jvm.ClassFile.FieldType)).before a0 Z = true := hw _ (List.mem_of_getElem? (i := 227) rfl)
theorem own_deflt {s : State} {args : Array Value} (hf : Fit s) (w1 : (Cond.initialized "java/util/ArrayList").before args s = true) (w2 : (Cond.laysStatic "java/util/ArrayList" "DEFAULTCAPACITY_EMPTY_ELEMENTDATA" "[Ljava/lang/Object;").before args s = true) (w3 : (Cond.arrayOf (.static "java/util/ArrayList" "DEFAULTCAPACITY_EMPTY_ELEMENTDATA" "[Ljava/lang/Object;") (.object "java/lang/Object")).before args s = true)
    (w4 : (Cond.eq (.length (.static "java/util/ArrayList" "DEFAULTCAPACITY_EMPTY_ELEMENTDATA" "[Ljava/lang/Object;")) (.int (0 : Int32))).before args s = true) :
    ∃ (aD : Addr) (kD : ClassId), (Term.static "java/util/ArrayList" "DEFAULTCAPACITY_EMPTY_ELEMENTDATA" "[Ljava/lang/Object;").eval args s none [] s = some (.ref aD) ∧ Sta s s.heap "java/util/ArrayList" "DEFAULTCAPACITY_EMPTY_ELEMENTDATA" "[Ljava/lang/Object;" (.ref aD) ∧ Arv s s.heap aD kD (.object "java/lang/Object") (0 : Int32) [] .null := by
  have h4 := eqv_i (Term.int_eval (0)) (Cond.before_iff.mp w4)
  obtain ⟨aD, c0, eD, hc0, e0, hl⟩ := Jvm.Free.SB.Term.length_small h4
  obtain ⟨c, A⟩ := Arr.start eD (Cond.before_iff.mp w3)
  have hc : s.arrayAt? aD = some c := A.fin (Vm.Alike.refl _)
  obtain rfl : c0 = c := Option.some.inj (hc0.symm.trans hc)
  have e2 : c0.slots.size.toInt32 = 0 := (Value.int.inj e0).symm
  exact ⟨aD, c0.cls, eD, Sta.start eD (Or.inr ⟨w1, w2⟩), Arv.start hf A hl e2 (by decide) rfl trivial⟩
theorem own_z01 (P : Prop) [Decidable P] : (if P then (1 : Int32) else 0) = 0 ∨ (if P then (1 : Int32) else 0) = 1 := by by_cases h : P <;> simp [h]
theorem own_or3 (x : Int32) : (x &&& (3 : Int32)) = 0 ∨ (x &&& (3 : Int32)) = 1 ∨ (x &&& (3 : Int32)) = 2 ∨ (x &&& (3 : Int32)) = 3 := by
  have h : (x &&& 3).toBitVec.toNat < 4 := by
    simp only [Int32.toBitVec_and, BitVec.toNat_and]
    exact Nat.lt_succ_of_le Nat.and_le_right
  have e : (x &&& (3 : Int32)) = Int32.ofNat (x &&& 3).toBitVec.toNat := by
    apply Int32.toBitVec_inj.mp
    show _ = BitVec.ofNat 32 _
    rw [BitVec.ofNat_toNat]; simp
  have t : ∀ k : Fin 4, Int32.ofNat k.val = 0 ∨ Int32.ofNat k.val = 1 ∨ Int32.ofNat k.val = 2 ∨ Int32.ofNat k.val = 3 := by decide
  rw [e]
  exact t ⟨_, h⟩
abbrev Three (x : Int32) : Prop := x = 0 ∨ x = 1 ∨ x = 2
theorem own_rem3 (x : Int32) : Three ((x &&& (3 : Int32)) % (3 : Int32)) := by rcases own_or3 x with h | h | h | h <;> rw [h] <;> decide
theorem own_ushr2 (x : Int32) : Three (((x.toUInt32 >>> ((2 : Int32) &&& 31).toUInt32).toInt32) % (3 : Int32)) := by
  obtain ⟨k, hk⟩ : ∃ k : Nat, k = (x.toUInt32 >>> ((2 : Int32) &&& 31).toUInt32).toNat := ⟨_, rfl⟩
  have e2 : ((2 : Int32) &&& 31).toUInt32 = 2 := by decide
  have hlt : k < 2 ^ 30 := by
    rw [hk, e2, UInt32.toNat_shiftRight]
    have := x.toUInt32.toNat_lt
    have e3 : (2 : UInt32).toNat % 32 = 2 := by decide
    rw [e3, Nat.shiftRight_eq_div_pow]
    omega
  have e : (x.toUInt32 >>> ((2 : Int32) &&& 31).toUInt32).toInt32 = Int32.ofNat k := by
    apply Int32.toBitVec_inj.mp
    apply BitVec.eq_of_toNat_eq
    show (x.toUInt32 >>> ((2 : Int32) &&& 31).toUInt32).toNat = (BitVec.ofNat 32 k).toNat
    rw [← hk, BitVec.toNat_ofNat]
    rw [Nat.mod_eq_of_lt (by omega)]
  rw [e]
  have h1 : (Int32.ofNat k % 3).toInt = ((k % 3 : Nat) : Int) := by
    rw [Int32.toInt_mod, Int32.toInt_ofNat_of_lt (by omega)]
    have e3 : (3 : Int32).toInt = 3 := rfl
    rw [e3, Int.tmod_eq_emod_of_nonneg (by omega)]
    omega
  have h3 : k % 3 < 3 := Nat.mod_lt _ (by decide)
  have fin : ∀ z : Int32, z.toInt = 0 ∨ z.toInt = 1 ∨ z.toInt = 2 → Three z := by
    intro z hz
    rcases hz with h | h | h
    · exact Or.inl (Int32.toInt_inj.mp h)
    · exact Or.inr (Or.inl (Int32.toInt_inj.mp h))
    · exact Or.inr (Or.inr (Int32.toInt_inj.mp h))
  apply fin
  omega
theorem own_lt1 {z : Int32} (h : Three z) (h1 : z < 1) : (0 : Int32) = z := by rcases h with rfl | rfl | rfl <;> first | rfl | (exfalso; revert h1; decide)
theorem own_lt2 {z : Int32} (h : Three z) (h1 : ¬ z < 1) (h2 : z < 2) : (1 : Int32) = z := by rcases h with rfl | rfl | rfl <;> first | rfl | (exfalso; revert h1 h2; decide)
theorem own_ge2 {z : Int32} (h : Three z) (h2 : ¬ z < 2) : (2 : Int32) = z := by rcases h with rfl | rfl | rfl <;> first | rfl | (exfalso; revert h2; decide)
theorem own_lt12 {z : Int32} (h : Three z) (h1 : z < 1) : z < 2 := by rcases h with rfl | rfl | rfl <;> first | decide | (exfalso; revert h1; decide)
theorem ef_rec (m : MethodId) (a : Addr) : entryFrame m #[(.ref a)] 1 = (mkF m 0 #[.val (.ref a)] []) := by first | (simp [entryFrame, mkF, argsToLocals, Value.category]; done) | rfl
def Q_rec (Z : State) (a : Addr) (h0 : Heap) (n0 : Nat) (v : Option Value) (h : Heap) (L : List Loc) : Prop := v = none ∧ Fr n0 L ∧ h = h0
set_option maxRecDepth 65536 in
set_option maxHeartbeats 40000000 in
theorem rm_rec (l : Launch) (Z : State) (a0 : Array Value) (hw : ∀ d ∈ tables_1, d.before a0 Z = true) (ws : List Jvm.Cond) (a : Addr) (h0 : Heap) (n0 : Nat) (Z0 : n0 ≤ h0.size) :
    MetFree l (⟨"java/lang/Record", "<init>", "()V"⟩ : MethodName) (head1 (Jvm.Cond.code (⟨"java/lang/Record", "<init>", "()V"⟩ : MethodName) jdk_30_method_1_code 1 none :: ws) ({ frames := 1, cells := 0, slots := 0, locals := 12 } : Room)) (fun aR U => aR = #[(.ref a)] ∧ Z.Warmed39 U.vm ∧ U.heap = h0) (fun _ _ _ _ _ => True) (fun _ U o U' => ∃ v L, o = .returned v ∧ Q_rec Z a h0 n0 v U'.heap L ∧ FrameEnd U o U' L ({ frames := 1, cells := 0, slots := 0, locals := 12 } : Room).cells ({ frames := 1, cells := 0, slots := 0, locals := 12 } : Room).slots) := by
  refine MetFree.of_bodySF (plainFor_of_name pn_0) hisR ?_
  intro p e s m args below meth c s₁ Bd hml0 hP hK
  obtain ⟨rfl, hZ, hh⟩ := hP
  have hx := Bd.exec
  have hby := Bd.bytes
  have hml : c.maxLocals = 1 := hml0
  have hown : s.vm.findClass "java/lang/Record" = some m.cls := findClass_of_methodNamed Bd.named
  have hnm := (name_of_methodNamed Bd.named Bd.method).1
  have X0 : Stand p l e ({ frames := 1, cells := 0, slots := 0, locals := 12 } : Room) s m #[(.ref a)] below meth c s₁ [] 0 0 := Stand.of_body Bd
  have e0 : s₁.heap = h0 := by rw [← hh, Bd.state]; rfl
  have N0 := Fr.nil n0
  show Goes p.tables e below _ _
  rw [ef_rec m a]
  refine Goes.named ?_
  intro QQ hQQ
  refine Goes.st (fun t k => XS.aloadN X0.here hx rfl (hb hby d12_0) rfl rfl k) ?_
  show Goes _ _ _ _ (s₁.setTop (mkF m 1 #[.val (.ref a)] [(.ref a)]))
  obtain ⟨T1, X1, e1, st1⟩ := initO X0 hx hZ hown (hw69 hw) (hw16 hw) (hw17 hw) e0 (g := (mkF m 1 #[.val (.ref a)] [(.ref a)])) rfl (by rw [hml]; rfl) rfl (hb hby d12_1) (by decide) (W := 0) (by show 2 * 0 + _ ≤ _; exact Nat.le_of_eq rfl) (by decide)
  refine Goes.st st1 ?_
  show Goes _ _ _ _ (T1.setTop (mkF m 4 #[.val (.ref a)] []))
  obtain ⟨fs, hr, hrun, hended, hW, hsame⟩ := X1.leave (v := none) (fun _ => rfl)
  subst hQQ
  refine ⟨_, _, X1.returnOut hx Bd.returns (hb hby d12_4) hr, hrun, hended, _, _, rfl, ?_, ⟨_, rfl⟩, hW, hsame.mono (by decide) (by decide)⟩
  show Q_rec Z a h0 n0 _ T1.heap _
  rw [e1]
  exact ⟨rfl, N0, rfl⟩
theorem ef_ac (m : MethodId) (a : Addr) : entryFrame m #[(.ref a)] 1 = (mkF m 0 #[.val (.ref a)] []) := by first | (simp [entryFrame, mkF, argsToLocals, Value.category]; done) | rfl
def Q_ac (Z : State) (a : Addr) (h0 : Heap) (n0 : Nat) (v : Option Value) (h : Heap) (L : List Loc) : Prop := v = none ∧ Fr n0 L ∧ h = h0
set_option maxRecDepth 65536 in
set_option maxHeartbeats 40000000 in
theorem rm_ac (l : Launch) (Z : State) (a0 : Array Value) (hw : ∀ d ∈ tables_1, d.before a0 Z = true) (ws : List Jvm.Cond) (a : Addr) (h0 : Heap) (n0 : Nat) (Z0 : n0 ≤ h0.size) :
    MetFree l (⟨"java/util/AbstractCollection", "<init>", "()V"⟩ : MethodName) (head1 (Jvm.Cond.code (⟨"java/util/AbstractCollection", "<init>", "()V"⟩ : MethodName) jdk_22_method_1_code 1 none :: ws) ({ frames := 1, cells := 0, slots := 0, locals := 12 } : Room)) (fun aR U => aR = #[(.ref a)] ∧ Z.Warmed39 U.vm ∧ U.heap = h0) (fun _ _ _ _ _ => True) (fun _ U o U' => ∃ v L, o = .returned v ∧ Q_ac Z a h0 n0 v U'.heap L ∧ FrameEnd U o U' L ({ frames := 1, cells := 0, slots := 0, locals := 12 } : Room).cells ({ frames := 1, cells := 0, slots := 0, locals := 12 } : Room).slots) := by
  refine MetFree.of_bodySF (plainFor_of_name pn_1) hisR ?_
  intro p e s m args below meth c s₁ Bd hml0 hP hK
  obtain ⟨rfl, hZ, hh⟩ := hP
  have hx := Bd.exec
  have hby := Bd.bytes
  have hml : c.maxLocals = 1 := hml0
  have hown : s.vm.findClass "java/util/AbstractCollection" = some m.cls := findClass_of_methodNamed Bd.named
  have hnm := (name_of_methodNamed Bd.named Bd.method).1
  have X0 : Stand p l e ({ frames := 1, cells := 0, slots := 0, locals := 12 } : Room) s m #[(.ref a)] below meth c s₁ [] 0 0 := Stand.of_body Bd
  have e0 : s₁.heap = h0 := by rw [← hh, Bd.state]; rfl
  have N0 := Fr.nil n0
  show Goes p.tables e below _ _
  rw [ef_ac m a]
  refine Goes.named ?_
  intro QQ hQQ
  refine Goes.st (fun t k => XS.aloadN X0.here hx rfl (hb hby d10_0) rfl rfl k) ?_
  show Goes _ _ _ _ (s₁.setTop (mkF m 1 #[.val (.ref a)] [(.ref a)]))
  obtain ⟨T1, X1, e1, st1⟩ := initO X0 hx hZ hown (hw52 hw) (hw16 hw) (hw17 hw) e0 (g := (mkF m 1 #[.val (.ref a)] [(.ref a)])) rfl (by rw [hml]; rfl) rfl (hb hby d10_1) (by decide) (W := 0) (by show 2 * 0 + _ ≤ _; exact Nat.le_of_eq rfl) (by decide)
  refine Goes.st st1 ?_
  show Goes _ _ _ _ (T1.setTop (mkF m 4 #[.val (.ref a)] []))
  obtain ⟨fs, hr, hrun, hended, hW, hsame⟩ := X1.leave (v := none) (fun _ => rfl)
  subst hQQ
  refine ⟨_, _, X1.returnOut hx Bd.returns (hb hby d10_4) hr, hrun, hended, _, _, rfl, ?_, ⟨_, rfl⟩, hW, hsame.mono (by decide) (by decide)⟩
  show Q_ac Z a h0 n0 _ T1.heap _
  rw [e1]
  exact ⟨rfl, N0, rfl⟩
theorem ef_aic (m : MethodId) (a : Addr) : entryFrame m #[(.ref a)] 1 = (mkF m 0 #[.val (.ref a)] []) := by first | (simp [entryFrame, mkF, argsToLocals, Value.category]; done) | rfl
def Q_aic (Z : State) (a : Addr) (h0 : Heap) (n0 : Nat) (v : Option Value) (h : Heap) (L : List Loc) : Prop := v = none ∧ Fr n0 L ∧ h = h0
set_option maxRecDepth 65536 in
set_option maxHeartbeats 40000000 in
theorem rm_aic (l : Launch) (Z : State) (a0 : Array Value) (hw : ∀ d ∈ tables_1, d.before a0 Z = true) (ws : List Jvm.Cond) (a : Addr) (h0 : Heap) (n0 : Nat) (Z0 : n0 ≤ h0.size) :
    MetFree l (⟨"java/util/ImmutableCollections$AbstractImmutableCollection", "<init>", "()V"⟩ : MethodName) (head1 (Jvm.Cond.code (⟨"java/util/ImmutableCollections$AbstractImmutableCollection", "<init>", "()V"⟩ : MethodName) jdk_47_method_1_code 1 none :: ws) ({ frames := 2, cells := 0, slots := 0, locals := 24 } : Room)) (fun aR U => aR = #[(.ref a)] ∧ Z.Warmed39 U.vm ∧ U.heap = h0) (fun _ _ _ _ _ => True) (fun _ U o U' => ∃ v L, o = .returned v ∧ Q_aic Z a h0 n0 v U'.heap L ∧ FrameEnd U o U' L ({ frames := 2, cells := 0, slots := 0, locals := 24 } : Room).cells ({ frames := 2, cells := 0, slots := 0, locals := 24 } : Room).slots) := by
  refine MetFree.of_bodySF (plainFor_of_name pn_2) hisR ?_
  intro p e s m args below meth c s₁ Bd hml0 hP hK
  obtain ⟨rfl, hZ, hh⟩ := hP
  have hx := Bd.exec
  have hby := Bd.bytes
  have hml : c.maxLocals = 1 := hml0
  have hown : s.vm.findClass "java/util/ImmutableCollections$AbstractImmutableCollection" = some m.cls := findClass_of_methodNamed Bd.named
  have hnm := (name_of_methodNamed Bd.named Bd.method).1
  have X0 : Stand p l e ({ frames := 2, cells := 0, slots := 0, locals := 24 } : Room) s m #[(.ref a)] below meth c s₁ [] 0 0 := Stand.of_body Bd
  have e0 : s₁.heap = h0 := by rw [← hh, Bd.state]; rfl
  have N0 := Fr.nil n0
  show Goes p.tables e below _ _
  rw [ef_aic m a]
  refine Goes.named ?_
  intro QQ hQQ
  refine Goes.st (fun t k => XS.aloadN X0.here hx rfl (hb hby d17_0) rfl rfl k) ?_
  show Goes _ _ _ _ (s₁.setTop (mkF m 1 #[.val (.ref a)] [(.ref a)]))
  obtain ⟨_, _, ⟨T1, L1, k1, n1⟩, -, X1, ⟨Lc1, hQ1, l1, y1, z1⟩, st1⟩ := X0.specialBack hx (y := (⟨"java/util/AbstractCollection", "<init>", "()V"⟩ : MethodName)) rfl hown (mvT hZ (hw109 hw)) (mvT hZ (hw47 hw)) (mvT hZ (hw51 hw)) (by decide) (backOf (W := 0) (rm_ac l Z a0 hw [] a h0 n0 Z0 ) hZ (hw51 hw) (hw50 hw) (by decide) (by decide)) (g := (mkF m 1 #[.val (.ref a)] [(.ref a)])) rfl (by rw [hml]; rfl) (Steps.refl _) (a := a) (argsL := []) (rest := []) (lenOf pd_0 rfl) rfl (by show 2 * 0 + _ ≤ _; exact Nat.le_of_eq rfl) (hb hby d17_1) (fun _ _ => ⟨rfl, e0, (by decide : 0 + 0 ≤ _), (by decide : 0 + 0 ≤ _)⟩)
  dsimp only [Pt.U, Pt.locs, Pt.cells, Pt.slots] at X1 l1 y1 z1 st1 hQ1
  subst l1 y1 z1
  obtain ⟨rfl, N1q, K1⟩ := hQ1
  have N1 := Fr.app N0 N1q
  refine Goes.tr st1 ?_
  show Goes _ _ _ _ (T1.setTop (mkF m 4 #[.val (.ref a)] []))
  obtain ⟨fs, hr, hrun, hended, hW, hsame⟩ := X1.leave (v := none) (fun _ => rfl)
  subst hQQ
  refine ⟨_, _, X1.returnOut hx Bd.returns (hb hby d17_4) hr, hrun, hended, _, _, rfl, ?_, ⟨_, rfl⟩, hW, hsame.mono (by decide) (by decide)⟩
  show Q_aic Z a h0 n0 _ T1.heap _
  rw [K1]
  exact ⟨rfl, N1, rfl⟩
theorem ef_ail (m : MethodId) (a : Addr) : entryFrame m #[(.ref a)] 1 = (mkF m 0 #[.val (.ref a)] []) := by first | (simp [entryFrame, mkF, argsToLocals, Value.category]; done) | rfl
def Q_ail (Z : State) (a : Addr) (h0 : Heap) (n0 : Nat) (v : Option Value) (h : Heap) (L : List Loc) : Prop := v = none ∧ Fr n0 L ∧ h = h0
set_option maxRecDepth 65536 in
set_option maxHeartbeats 40000000 in
theorem rm_ail (l : Launch) (Z : State) (a0 : Array Value) (hw : ∀ d ∈ tables_1, d.before a0 Z = true) (ws : List Jvm.Cond) (a : Addr) (h0 : Heap) (n0 : Nat) (Z0 : n0 ≤ h0.size) :
    MetFree l (⟨"java/util/ImmutableCollections$AbstractImmutableList", "<init>", "()V"⟩ : MethodName) (head1 (Jvm.Cond.code (⟨"java/util/ImmutableCollections$AbstractImmutableList", "<init>", "()V"⟩ : MethodName) jdk_46_method_1_code 1 none :: ws) ({ frames := 3, cells := 0, slots := 0, locals := 36 } : Room)) (fun aR U => aR = #[(.ref a)] ∧ Z.Warmed39 U.vm ∧ U.heap = h0) (fun _ _ _ _ _ => True) (fun _ U o U' => ∃ v L, o = .returned v ∧ Q_ail Z a h0 n0 v U'.heap L ∧ FrameEnd U o U' L ({ frames := 3, cells := 0, slots := 0, locals := 36 } : Room).cells ({ frames := 3, cells := 0, slots := 0, locals := 36 } : Room).slots) := by
  refine MetFree.of_bodySF (plainFor_of_name pn_3) hisR ?_
  intro p e s m args below meth c s₁ Bd hml0 hP hK
  obtain ⟨rfl, hZ, hh⟩ := hP
  have hx := Bd.exec
  have hby := Bd.bytes
  have hml : c.maxLocals = 1 := hml0
  have hown : s.vm.findClass "java/util/ImmutableCollections$AbstractImmutableList" = some m.cls := findClass_of_methodNamed Bd.named
  have hnm := (name_of_methodNamed Bd.named Bd.method).1
  have X0 : Stand p l e ({ frames := 3, cells := 0, slots := 0, locals := 36 } : Room) s m #[(.ref a)] below meth c s₁ [] 0 0 := Stand.of_body Bd
  have e0 : s₁.heap = h0 := by rw [← hh, Bd.state]; rfl
  have N0 := Fr.nil n0
  show Goes p.tables e below _ _
  rw [ef_ail m a]
  refine Goes.named ?_
  intro QQ hQQ
  refine Goes.st (fun t k => XS.aloadN X0.here hx rfl (hb hby d16_0) rfl rfl k) ?_
  show Goes _ _ _ _ (s₁.setTop (mkF m 1 #[.val (.ref a)] [(.ref a)]))
  obtain ⟨_, _, ⟨T1, L1, k1, n1⟩, -, X1, ⟨Lc1, hQ1, l1, y1, z1⟩, st1⟩ := X0.specialBack hx (y := (⟨"java/util/ImmutableCollections$AbstractImmutableCollection", "<init>", "()V"⟩ : MethodName)) rfl hown (mvT hZ (hw103 hw)) (mvT hZ (hw104 hw)) (mvT hZ (hw108 hw)) (by decide) (backOf (W := 0) (rm_aic l Z a0 hw [] a h0 n0 Z0 ) hZ (hw108 hw) (hw107 hw) (by decide) (by decide)) (g := (mkF m 1 #[.val (.ref a)] [(.ref a)])) rfl (by rw [hml]; rfl) (Steps.refl _) (a := a) (argsL := []) (rest := []) (lenOf pd_0 rfl) rfl (by show 2 * 0 + _ ≤ _; exact Nat.le_of_eq rfl) (hb hby d16_1) (fun _ _ => ⟨rfl, e0, (by decide : 0 + 0 ≤ _), (by decide : 0 + 0 ≤ _)⟩)
  dsimp only [Pt.U, Pt.locs, Pt.cells, Pt.slots] at X1 l1 y1 z1 st1 hQ1
  subst l1 y1 z1
  obtain ⟨rfl, N1q, K1⟩ := hQ1
  have N1 := Fr.app N0 N1q
  refine Goes.tr st1 ?_
  show Goes _ _ _ _ (T1.setTop (mkF m 4 #[.val (.ref a)] []))
  obtain ⟨fs, hr, hrun, hended, hW, hsame⟩ := X1.leave (v := none) (fun _ => rfl)
  subst hQQ
  refine ⟨_, _, X1.returnOut hx Bd.returns (hb hby d16_4) hr, hrun, hended, _, _, rfl, ?_, ⟨_, rfl⟩, hW, hsame.mono (by decide) (by decide)⟩
  show Q_ail Z a h0 n0 _ T1.heap _
  rw [K1]
  exact ⟨rfl, N1, rfl⟩
theorem ef_rnn (m : MethodId) (b : Addr) : entryFrame m #[(.ref b)] 1 = (mkF m 0 #[.val (.ref b)] []) := by first | (simp [entryFrame, mkF, argsToLocals, Value.category]; done) | rfl
def Q_rnn (Z : State) (b : Addr) (h0 : Heap) (n0 : Nat) (v : Option Value) (h : Heap) (L : List Loc) : Prop := v = some (.ref b) ∧ Fr n0 L ∧ h = h0
set_option maxRecDepth 65536 in
set_option maxHeartbeats 40000000 in
theorem rm_rnn (l : Launch) (Z : State) (a0 : Array Value) (hw : ∀ d ∈ tables_1, d.before a0 Z = true) (ws : List Jvm.Cond) (b : Addr) (h0 : Heap) (n0 : Nat) (Z0 : n0 ≤ h0.size) :
    MetFree l (⟨"java/util/Objects", "requireNonNull", "(Ljava/lang/Object;)Ljava/lang/Object;"⟩ : MethodName) (head1 (Jvm.Cond.code (⟨"java/util/Objects", "requireNonNull", "(Ljava/lang/Object;)Ljava/lang/Object;"⟩ : MethodName) jdk_31_method_10_code 1 (some (.object "java/lang/Object")) :: ws) ({ frames := 0, cells := 0, slots := 0, locals := 0 } : Room)) (fun aR U => aR = #[(.ref b)] ∧ Z.Warmed39 U.vm ∧ U.heap = h0) (fun _ _ _ _ _ => True) (fun _ U o U' => ∃ v L, o = .returned v ∧ Q_rnn Z b h0 n0 v U'.heap L ∧ FrameEnd U o U' L ({ frames := 0, cells := 0, slots := 0, locals := 0 } : Room).cells ({ frames := 0, cells := 0, slots := 0, locals := 0 } : Room).slots) := by
  refine MetFree.of_bodySF (plainFor_of_name pn_4) hisR ?_
  intro p e s m args below meth c s₁ Bd hml0 hP hK
  obtain ⟨rfl, hZ, hh⟩ := hP
  have hx := Bd.exec
  have hby := Bd.bytes
  have hml : c.maxLocals = 1 := hml0
  have hown : s.vm.findClass "java/util/Objects" = some m.cls := findClass_of_methodNamed Bd.named
  have hnm := (name_of_methodNamed Bd.named Bd.method).1
  have X0 : Stand p l e ({ frames := 0, cells := 0, slots := 0, locals := 0 } : Room) s m #[(.ref b)] below meth c s₁ [] 0 0 := Stand.of_body Bd
  have e0 : s₁.heap = h0 := by rw [← hh, Bd.state]; rfl
  have N0 := Fr.nil n0
  show Goes p.tables e below _ _
  rw [ef_rnn m b]
  refine Goes.named ?_
  intro QQ hQQ
  refine Goes.st (fun t k => XS.aloadN X0.here hx rfl (hb hby d18_0) rfl rfl k) ?_
  show Goes _ _ _ _ (s₁.setTop (mkF m 1 #[.val (.ref b)] [(.ref b)]))
  refine Goes.st (fun t k => XS.ifnonnullYes X0.here hx rfl (pc0 := 1) (pc' := 12) rfl (hb hby d18_1) rfl (by decide) (by decide) k) ?_
  show Goes _ _ _ _ (s₁.setTop (mkF m 12 #[.val (.ref b)] []))
  refine Goes.st (fun t k => XS.aloadN X0.here hx rfl (hb hby d18_12) rfl rfl k) ?_
  show Goes _ _ _ _ (s₁.setTop (mkF m 13 #[.val (.ref b)] [(.ref b)]))
  obtain ⟨fs, hr, hrun, hended, hW, hsame⟩ := X0.leave (v := some (.ref b)) (fun h => by rw [Bd.returns] at h; cases h)
  subst hQQ
  refine ⟨_, _, retR X0 hx Bd.returns rfl rfl (hb hby d18_13) hr, hrun, hended, _, _, rfl, ?_, ⟨_, rfl⟩, hW, hsame.mono (by decide) (by decide)⟩
  show Q_rnn Z b h0 n0 _ s₁.heap _
  rw [e0]
  exact ⟨rfl, N0, rfl⟩
theorem ef_l12 (m : MethodId) (a : Addr) (b : Addr) (aE : Addr) : entryFrame m #[(.ref a), (.ref b)] 2 = (mkF m 0 #[.val (.ref a), .val (.ref b)] []) := by first | (simp [entryFrame, mkF, argsToLocals, Value.category]; done) | rfl
def Q_l12 (Z : State) (a : Addr) (b : Addr) (aE : Addr) (h0 : Heap) (n0 : Nat) (v : Option Value) (h : Heap) (L : List Loc) : Prop := v = none ∧ Fr n0 L ∧ Keep h0 h [a] ∧ Exa Z h a "java/util/ImmutableCollections$List12" ∧ Fld Z h a "java/util/ImmutableCollections$List12" "e0" "Ljava/lang/Object;" (.ref b) ∧ Fld Z h a "java/util/ImmutableCollections$List12" "e1" "Ljava/lang/Object;" (.ref aE)
set_option maxRecDepth 65536 in
set_option maxHeartbeats 40000000 in
theorem rm_l12 (l : Launch) (Z : State) (a0 : Array Value) (hw : ∀ d ∈ tables_1, d.before a0 Z = true) (ws : List Jvm.Cond) (a : Addr) (b : Addr) (aE : Addr) (h0 : Heap) (n0 : Nat) (Z0 : n0 ≤ h0.size) (P0 : Exa Z h0 a "java/util/ImmutableCollections$List12") (P1 : Fld Z h0 a "java/util/ImmutableCollections$List12" "e0" "Ljava/lang/Object;" .null) (P2 : Fld Z h0 a "java/util/ImmutableCollections$List12" "e1" "Ljava/lang/Object;" .null) (P3 : Old Z n0 h0) (g_a : n0 ≤ a) (OE : Sta Z Z.heap "java/util/ImmutableCollections" "EMPTY" "Ljava/lang/Object;" (.ref aE)) :
    MetFree l (⟨"java/util/ImmutableCollections$List12", "<init>", "(Ljava/lang/Object;)V"⟩ : MethodName) (head1 (Jvm.Cond.code (⟨"java/util/ImmutableCollections$List12", "<init>", "(Ljava/lang/Object;)V"⟩ : MethodName) jdk_44_method_1_code 2 none :: ws) ({ frames := 4, cells := 0, slots := 0, locals := 48 } : Room)) (fun aR U => aR = #[(.ref a), (.ref b)] ∧ Z.Warmed39 U.vm ∧ U.heap = h0) (fun _ _ _ _ _ => True) (fun _ U o U' => ∃ v L, o = .returned v ∧ Q_l12 Z a b aE h0 n0 v U'.heap L ∧ FrameEnd U o U' L ({ frames := 4, cells := 0, slots := 0, locals := 48 } : Room).cells ({ frames := 4, cells := 0, slots := 0, locals := 48 } : Room).slots) := by
  refine MetFree.of_bodySF (plainFor_of_name pn_5) hisR ?_
  intro p e s m args below meth c s₁ Bd hml0 hP hK
  obtain ⟨rfl, hZ, hh⟩ := hP
  have hx := Bd.exec
  have hby := Bd.bytes
  have hml : c.maxLocals = 2 := hml0
  have hown : s.vm.findClass "java/util/ImmutableCollections$List12" = some m.cls := findClass_of_methodNamed Bd.named
  have hnm := (name_of_methodNamed Bd.named Bd.method).1
  have X0 : Stand p l e ({ frames := 4, cells := 0, slots := 0, locals := 48 } : Room) s m #[(.ref a), (.ref b)] below meth c s₁ [] 0 0 := Stand.of_body Bd
  have e0 : s₁.heap = h0 := by rw [← hh, Bd.state]; rfl
  have N0 := Fr.nil n0
  show Goes p.tables e below _ _
  rw [ef_l12 m a b aE]
  refine Goes.named ?_
  intro QQ hQQ
  refine Goes.st (fun t k => XS.aloadN X0.here hx rfl (hb hby d15_0) rfl rfl k) ?_
  show Goes _ _ _ _ (s₁.setTop (mkF m 1 #[.val (.ref a), .val (.ref b)] [(.ref a)]))
  obtain ⟨_, _, ⟨T1, L1, k1, n1⟩, -, X1, ⟨Lc1, hQ1, l1, y1, z1⟩, st1⟩ := X0.specialBack hx (y := (⟨"java/util/ImmutableCollections$AbstractImmutableList", "<init>", "()V"⟩ : MethodName)) rfl hown (mvT hZ (hw97 hw)) (mvT hZ (hw98 hw)) (mvT hZ (hw102 hw)) (by decide) (backOf (W := 0) (rm_ail l Z a0 hw [] a h0 n0 Z0 ) hZ (hw102 hw) (hw101 hw) (by decide) (by decide)) (g := (mkF m 1 #[.val (.ref a), .val (.ref b)] [(.ref a)])) rfl (by rw [hml]; rfl) (Steps.refl _) (a := a) (argsL := []) (rest := []) (lenOf pd_0 rfl) rfl (by show 2 * 0 + _ ≤ _; exact Nat.le_of_eq rfl) (hb hby d15_1) (fun _ _ => ⟨rfl, e0, (by decide : 0 + 0 ≤ _), (by decide : 0 + 0 ≤ _)⟩)
  dsimp only [Pt.U, Pt.locs, Pt.cells, Pt.slots] at X1 l1 y1 z1 st1 hQ1
  subst l1 y1 z1
  obtain ⟨rfl, N1q, K1⟩ := hQ1
  have N1 := Fr.app N0 N1q
  refine Goes.tr st1 ?_
  show Goes _ _ _ _ (T1.setTop (mkF m 4 #[.val (.ref a), .val (.ref b)] []))
  refine Goes.st (fun t k => XS.aloadN X1.here hx rfl (hb hby d15_4) rfl rfl k) ?_
  show Goes _ _ _ _ (T1.setTop (mkF m 5 #[.val (.ref a), .val (.ref b)] [(.ref a)]))
  refine Goes.st (fun t k => XS.aloadN X1.here hx rfl (hb hby d15_5) rfl rfl k) ?_
  show Goes _ _ _ _ (T1.setTop (mkF m 6 #[.val (.ref a), .val (.ref b)] [(.ref b), (.ref a)]))
  obtain ⟨_, _, ⟨T2, L2, k2, n2⟩, -, X2, ⟨Lc2, hQ2, l2, y2, z2⟩, st2⟩ := Jvm.LawKit.callS X1 hx (y := (⟨"java/util/Objects", "requireNonNull", "(Ljava/lang/Object;)Ljava/lang/Object;"⟩ : MethodName)) hown (mvT hZ (hw111 hw)) (mvT hZ (hw112 hw)) (mvT hZ (hw113 hw)) (mvT hZ (hw114 hw)) (by decide) (backOf (W := 1) (rm_rnn l Z a0 hw [] b h0 n0 Z0 ) hZ (hw114 hw) (hw113 hw) (by decide) (by decide)) (g := (mkF m 6 #[.val (.ref a), .val (.ref b)] [(.ref b), (.ref a)])) rfl (by rw [hml]; rfl) (argsL := [(.ref b)]) (rest := [(.ref a)]) (lenOf pd_1 rfl) rfl (by show 2 * 0 + _ ≤ _; exact Nat.le_of_eq rfl) (hb hby d15_6) (fun _ _ => ⟨rfl, K1, (by decide : 0 + 0 ≤ _), (by decide : 0 + 0 ≤ _)⟩)
  dsimp only [Pt.U, Pt.locs, Pt.cells, Pt.slots] at X2 l2 y2 z2 st2 hQ2
  subst l2 y2 z2
  obtain ⟨rfl, N2q, K2⟩ := hQ2
  have N2 := Fr.app N1 N2q
  refine Goes.st st2 ?_
  show Goes _ _ _ _ (T2.setTop (mkF m 9 #[.val (.ref a), .val (.ref b)] [(.ref b), (.ref a)]))
  obtain ⟨T3, h3, X3, e3, W3, st3⟩ := putF X2 hx hZ hown (host := "") (Or.inl (hw115 hw)) Via.refl K2 P1 P0 (Or.inr ⟨(hw116 hw), rfl, hnm⟩) (hw91 hw) (ty := (.object "java/lang/Object")) (by decide) rfl rfl (g := (mkF m 9 #[.val (.ref a), .val (.ref b)] [(.ref b), (.ref a)])) rfl rfl (hb hby d15_9)
  have N3 := Fr.snoc X3 N2 g_a
  have F3 := P1.same W3
  refine Goes.st st3 ?_
  show Goes _ _ _ _ (T3.setTop (mkF m 12 #[.val (.ref a), .val (.ref b)] []))
  refine Goes.st (fun t k => XS.aloadN X3.here hx rfl (hb hby d15_12) rfl rfl k) ?_
  show Goes _ _ _ _ (T3.setTop (mkF m 13 #[.val (.ref a), .val (.ref b)] [(.ref a)]))
  have f4 : Old Z n0 h3 := (P3.wr W3 g_a)
  obtain ⟨T5, X5, e5, st5⟩ := getS2 X3 hx hZ hown (Or.inr (hw117 hw)) Via.refl e3 (OE.ext f4.2) (g := (mkF m 13 #[.val (.ref a), .val (.ref b)] [(.ref a)])) rfl (hb hby d15_13)
  refine Goes.st st5 ?_
  show Goes _ _ _ _ (T5.setTop (mkF m 16 #[.val (.ref a), .val (.ref b)] [(.ref aE), (.ref a)]))
  have f6 : Exa Z h3 a "java/util/ImmutableCollections$List12" := (P0.wr W3)
  have f7 : Fld Z h3 a "java/util/ImmutableCollections$List12" "e1" "Ljava/lang/Object;" .null := (P2.other W3 (Or.inr (slot_ne (Or.inr (hw120 hw)) (Or.inr (hw116 hw)) (by decide) (t := (.object "java/lang/Object")) (t' := (.object "java/lang/Object")) (by decide) (by decide))))
  obtain ⟨T8, h8, X8, e8, W8, st8⟩ := putF X5 hx hZ hown (host := "") (Or.inl (hw119 hw)) Via.refl e5 f7 f6 (Or.inr ⟨(hw120 hw), rfl, hnm⟩) (hw91 hw) (ty := (.object "java/lang/Object")) (by decide) rfl rfl (g := (mkF m 16 #[.val (.ref a), .val (.ref b)] [(.ref aE), (.ref a)])) rfl rfl (hb hby d15_16)
  have N8 := Fr.snoc X8 N3 g_a
  have F8 := f7.same W8
  refine Goes.st st8 ?_
  show Goes _ _ _ _ (T8.setTop (mkF m 19 #[.val (.ref a), .val (.ref b)] []))
  have kp9 : Keep h0 h3 [a] := (Keep.refl h0 [a]).wr W3 (Or.inl (List.mem_of_getElem? (i := 0) rfl))
  have kp10 : Keep h0 h8 [a] := kp9.wr W8 (Or.inl (List.mem_of_getElem? (i := 0) rfl))
  have f11 : Exa Z h8 a "java/util/ImmutableCollections$List12" := (f6.wr W8)
  have f12 : Fld Z h8 a "java/util/ImmutableCollections$List12" "e0" "Ljava/lang/Object;" (.ref b) := (F3.other W8 (Or.inr (slot_ne (Or.inr (hw116 hw)) (Or.inr (hw120 hw)) (by decide) (t := (.object "java/lang/Object")) (t' := (.object "java/lang/Object")) (by decide) (by decide))))
  obtain ⟨fs, hr, hrun, hended, hW, hsame⟩ := X8.leave (v := none) (fun _ => rfl)
  subst hQQ
  refine ⟨_, _, X8.returnOut hx Bd.returns (hb hby d15_19) hr, hrun, hended, _, _, rfl, ?_, ⟨_, rfl⟩, hW, hsame.mono (by decide) (by decide)⟩
  show Q_l12 Z a b aE h0 n0 _ T8.heap _
  rw [e8]
  exact ⟨rfl, N8, kp10, f11, f12, F8⟩
theorem ef_lof (m : MethodId) (b : Addr) (aE : Addr) : entryFrame m #[(.ref b)] 1 = (mkF m 0 #[.val (.ref b)] []) := by first | (simp [entryFrame, mkF, argsToLocals, Value.category]; done) | rfl
def Q_lof (Z : State) (b : Addr) (aE : Addr) (h0 : Heap) (n0 : Nat) (v : Option Value) (h : Heap) (L : List Loc) : Prop := ∃ (li : Addr), v = some (.ref li) ∧ Fr n0 L ∧ Keep h0 h [] ∧ Exa Z h li "java/util/ImmutableCollections$List12" ∧ Fld Z h li "java/util/ImmutableCollections$List12" "e0" "Ljava/lang/Object;" (.ref b) ∧ Fld Z h li "java/util/ImmutableCollections$List12" "e1" "Ljava/lang/Object;" (.ref aE) ∧ h0.size ≤ li
set_option maxRecDepth 65536 in
set_option maxHeartbeats 40000000 in
theorem rm_lof (l : Launch) (Z : State) (a0 : Array Value) (hw : ∀ d ∈ tables_1, d.before a0 Z = true) (ws : List Jvm.Cond) (b : Addr) (aE : Addr) (h0 : Heap) (n0 : Nat) (Z0 : n0 ≤ h0.size) (P0 : Old Z n0 h0) (OE : Sta Z Z.heap "java/util/ImmutableCollections" "EMPTY" "Ljava/lang/Object;" (.ref aE)) :
    MetFree l (⟨"java/util/List", "of", "(Ljava/lang/Object;)Ljava/util/List;"⟩ : MethodName) (head1 (Jvm.Cond.code (⟨"java/util/List", "of", "(Ljava/lang/Object;)Ljava/util/List;"⟩ : MethodName) jdk_40_method_37_code 1 (some (.object "java/util/List")) :: ws) ({ frames := 5, cells := 1, slots := 2, locals := 62 } : Room)) (fun aR U => aR = #[(.ref b)] ∧ Z.Warmed39 U.vm ∧ U.heap = h0) (fun _ _ _ _ _ => True) (fun _ U o U' => ∃ v L, o = .returned v ∧ Q_lof Z b aE h0 n0 v U'.heap L ∧ FrameEnd U o U' L ({ frames := 5, cells := 1, slots := 2, locals := 62 } : Room).cells ({ frames := 5, cells := 1, slots := 2, locals := 62 } : Room).slots) := by
  refine MetFree.of_bodySF (plainFor_of_name pn_6) hisR ?_
  intro p e s m args below meth c s₁ Bd hml0 hP hK
  obtain ⟨rfl, hZ, hh⟩ := hP
  have hx := Bd.exec
  have hby := Bd.bytes
  have hml : c.maxLocals = 1 := hml0
  have hown : s.vm.findClass "java/util/List" = some m.cls := findClass_of_methodNamed Bd.named
  have hnm := (name_of_methodNamed Bd.named Bd.method).1
  have X0 : Stand p l e ({ frames := 5, cells := 1, slots := 2, locals := 62 } : Room) s m #[(.ref b)] below meth c s₁ [] 0 0 := Stand.of_body Bd
  have e0 : s₁.heap = h0 := by rw [← hh, Bd.state]; rfl
  have N0 := Fr.nil n0
  show Goes p.tables e below _ _
  rw [ef_lof m b aE]
  refine Goes.named ?_
  intro QQ hQQ
  obtain ⟨T1, h1, X1, e1, E1, A1, D1, -, st1⟩ := newO X0 hx hZ hown (hw90 hw) (hw91 hw) (hw92 hw) e0 (g := (mkF m 0 #[.val (.ref b)] [])) rfl (hb hby d14_0) (by decide) (by decide)
  obtain ⟨b1, g1⟩ : ∃ z, z = h0.size := ⟨_, rfl⟩
  rw [← g1] at A1 D1 st1
  have F1_e0 : Fld Z h1 b1 "java/util/ImmutableCollections$List12" "e0" "Ljava/lang/Object;" .null := D1 (Or.inr (hw116 hw)) (ty := (.object "java/lang/Object")) (by decide)
  have F1_e1 : Fld Z h1 b1 "java/util/ImmutableCollections$List12" "e1" "Ljava/lang/Object;" .null := D1 (Or.inr (hw120 hw)) (ty := (.object "java/lang/Object")) (by decide)
  refine Goes.st st1 ?_
  show Goes _ _ _ _ (T1.setTop (mkF m 3 #[.val (.ref b)] [(.ref b1)]))
  refine Goes.st (fun t k => XS.dup X1.here hx rfl (hb hby d14_3) rfl rfl k) ?_
  show Goes _ _ _ _ (T1.setTop (mkF m 4 #[.val (.ref b)] [(.ref b1), (.ref b1)]))
  refine Goes.st (fun t k => XS.aloadN X1.here hx rfl (hb hby d14_4) rfl rfl k) ?_
  show Goes _ _ _ _ (T1.setTop (mkF m 5 #[.val (.ref b)] [(.ref b), (.ref b1), (.ref b1)]))
  have f3 : Old Z n0 h1 := (P0.ext E1)
  obtain ⟨_, _, ⟨T2, L2, k2, n2⟩, -, X2, ⟨Lc2, hQ2, l2, y2, z2⟩, st2⟩ := X1.specialBack hx (y := (⟨"java/util/ImmutableCollections$List12", "<init>", "(Ljava/lang/Object;)V"⟩ : MethodName)) rfl hown (mvT hZ (hw93 hw)) (mvT hZ (hw94 hw)) (mvT hZ (hw96 hw)) (by decide) (backOf (W := 1) (rm_l12 l Z a0 hw [] b1 b aE h1 n0 (Nat.le_trans Z0 E1.1) A1 F1_e0 F1_e1 f3 (Nat.le_trans Z0 (Nat.le_of_eq g1.symm)) OE) hZ (hw96 hw) (hw92 hw) (by decide) (by decide)) (g := (mkF m 5 #[.val (.ref b)] [(.ref b), (.ref b1), (.ref b1)])) rfl (by rw [hml]; rfl) (Steps.refl _) (a := b1) (argsL := [(.ref b)]) (rest := [(.ref b1)]) (lenOf pd_2 rfl) rfl (by show 2 * 0 + _ ≤ _; exact Nat.le_of_eq rfl) (hb hby d14_5) (fun _ _ => ⟨rfl, e1, (by decide : 1 + 0 ≤ _), (by decide : 2 + 0 ≤ _)⟩)
  dsimp only [Pt.U, Pt.locs, Pt.cells, Pt.slots] at X2 l2 y2 z2 st2 hQ2
  subst l2 y2 z2
  obtain ⟨rfl, N2q, K2, F2_0, F2_1, F2_2⟩ := hQ2
  have N2 := Fr.app N0 N2q
  refine Goes.tr st2 ?_
  show Goes _ _ _ _ (T2.setTop (mkF m 8 #[.val (.ref b)] [(.ref b1)]))
  have kp4 : Keep h0 h1 [] := (Keep.refl h0 []).ext E1
  have kp5 : Keep h0 T2.heap [] := kp4.trans K2 (allS (Or.inr (Nat.le_of_eq g1.symm)) all0)
  obtain ⟨fs, hr, hrun, hended, hW, hsame⟩ := X2.leave (v := some (.ref b1)) (fun h => by rw [Bd.returns] at h; cases h)
  subst hQQ
  refine ⟨_, _, retR X2 hx Bd.returns rfl rfl (hb hby d14_8) hr, hrun, hended, _, _, rfl, ?_, ⟨_, rfl⟩, hW, hsame.mono (by decide) (by decide)⟩
  show Q_lof Z b aE h0 n0 _ T2.heap _
  exact ⟨b1, rfl, N2, kp5, F2_0, F2_1, F2_2, (Nat.le_of_eq g1.symm)⟩
theorem ef_sz12 (m : MethodId) (a : Addr) (aE : Addr) : entryFrame m #[(.ref a)] 1 = (mkF m 0 #[.val (.ref a)] []) := by first | (simp [entryFrame, mkF, argsToLocals, Value.category]; done) | rfl
def Q_sz12 (Z : State) (a : Addr) (aE : Addr) (h0 : Heap) (n0 : Nat) (v : Option Value) (h : Heap) (L : List Loc) : Prop := v = some (.int (1 : Int32)) ∧ Fr n0 L ∧ h = h0
set_option maxRecDepth 65536 in
set_option maxHeartbeats 40000000 in
theorem rm_sz12 (l : Launch) (Z : State) (a0 : Array Value) (hw : ∀ d ∈ tables_1, d.before a0 Z = true) (ws : List Jvm.Cond) (a : Addr) (aE : Addr) (h0 : Heap) (n0 : Nat) (Z0 : n0 ≤ h0.size) (P0 : Fld Z h0 a "java/util/ImmutableCollections$List12" "e1" "Ljava/lang/Object;" (.ref aE)) (P1 : Old Z n0 h0) (OE : Sta Z Z.heap "java/util/ImmutableCollections" "EMPTY" "Ljava/lang/Object;" (.ref aE)) :
    MetFree l (⟨"java/util/ImmutableCollections$List12", "size", "()I"⟩ : MethodName) (head1 (Jvm.Cond.code (⟨"java/util/ImmutableCollections$List12", "size", "()I"⟩ : MethodName) jdk_44_method_3_code 1 (some .int) :: ws) ({ frames := 0, cells := 0, slots := 0, locals := 0 } : Room)) (fun aR U => aR = #[(.ref a)] ∧ Z.Warmed39 U.vm ∧ U.heap = h0) (fun _ _ _ _ _ => True) (fun _ U o U' => ∃ v L, o = .returned v ∧ Q_sz12 Z a aE h0 n0 v U'.heap L ∧ FrameEnd U o U' L ({ frames := 0, cells := 0, slots := 0, locals := 0 } : Room).cells ({ frames := 0, cells := 0, slots := 0, locals := 0 } : Room).slots) := by
  refine MetFree.of_bodySF (plainFor_of_name pn_5) hisR ?_
  intro p e s m args below meth c s₁ Bd hml0 hP hK
  obtain ⟨rfl, hZ, hh⟩ := hP
  have hx := Bd.exec
  have hby := Bd.bytes
  have hml : c.maxLocals = 1 := hml0
  have hown : s.vm.findClass "java/util/ImmutableCollections$List12" = some m.cls := findClass_of_methodNamed Bd.named
  have hnm := (name_of_methodNamed Bd.named Bd.method).1
  have X0 : Stand p l e ({ frames := 0, cells := 0, slots := 0, locals := 0 } : Room) s m #[(.ref a)] below meth c s₁ [] 0 0 := Stand.of_body Bd
  have e0 : s₁.heap = h0 := by rw [← hh, Bd.state]; rfl
  have N0 := Fr.nil n0
  show Goes p.tables e below _ _
  rw [ef_sz12 m a aE]
  refine Goes.named ?_
  intro QQ hQQ
  refine Goes.st (fun t k => XS.aloadN X0.here hx rfl (hb hby d23_0) rfl rfl k) ?_
  show Goes _ _ _ _ (s₁.setTop (mkF m 1 #[.val (.ref a)] [(.ref a)]))
  obtain ⟨T1, X1, e1, st1⟩ := getF X0 hx hZ hown (host := "") (Or.inl (hw119 hw)) Via.refl e0 P0 (g := (mkF m 1 #[.val (.ref a)] [(.ref a)])) rfl rfl (hb hby d23_1)
  refine Goes.st st1 ?_
  show Goes _ _ _ _ (T1.setTop (mkF m 4 #[.val (.ref a)] [(.ref aE)]))
  obtain ⟨T2, X2, e2, st2⟩ := getS2 X1 hx hZ hown (Or.inr (hw117 hw)) Via.refl e1 (OE.ext P1.2) (g := (mkF m 4 #[.val (.ref a)] [(.ref aE)])) rfl (hb hby d23_4)
  refine Goes.st st2 ?_
  show Goes _ _ _ _ (T2.setTop (mkF m 7 #[.val (.ref a)] [(.ref aE), (.ref aE)]))
  refine Goes.st (fun t k => Jvm.RoadKit.acmp (g := (mkF m 7 #[.val (.ref a)] [(.ref aE), (.ref aE)])) X2 hx rfl rfl rfl (pc0 := 7) (pc' := 14) (same := true) rfl (hb hby d23_7) rfl (decide_eq_true rfl) (by decide) (by decide) k) ?_
  show Goes _ _ _ _ (T2.setTop (mkF m 14 #[.val (.ref a)] []))
  refine Goes.st (fun t k => XS.iconst X2.here hx rfl (hb hby d23_14) k) ?_
  show Goes _ _ _ _ (T2.setTop (mkF m 15 #[.val (.ref a)] [(.int (1 : Int32))]))
  obtain ⟨fs, hr, hrun, hended, hW, hsame⟩ := X2.leave (v := some (.int (1 : Int32))) (fun h => by rw [Bd.returns] at h; cases h)
  subst hQQ
  refine ⟨_, _, retI X2 hx Bd.returns (hb hby d23_15) hr, hrun, hended, _, _, rfl, ?_, ⟨_, rfl⟩, hW, hsame.mono (by decide) (by decide)⟩
  show Q_sz12 Z a aE h0 n0 _ T2.heap _
  rw [e2]
  exact ⟨rfl, N0, rfl⟩
theorem ef_get12 (m : MethodId) (a : Addr) (b : Addr) : entryFrame m #[(.ref a), (.int (0 : Int32))] 2 = (mkF m 0 #[.val (.ref a), .val (.int (0 : Int32))] []) := by first | (simp [entryFrame, mkF, argsToLocals, Value.category]; done) | rfl
def Q_get12 (Z : State) (a : Addr) (b : Addr) (h0 : Heap) (n0 : Nat) (v : Option Value) (h : Heap) (L : List Loc) : Prop := v = some (.ref b) ∧ Fr n0 L ∧ h = h0
set_option maxRecDepth 65536 in
set_option maxHeartbeats 40000000 in
theorem rm_get12 (l : Launch) (Z : State) (a0 : Array Value) (hw : ∀ d ∈ tables_1, d.before a0 Z = true) (ws : List Jvm.Cond) (a : Addr) (b : Addr) (h0 : Heap) (n0 : Nat) (Z0 : n0 ≤ h0.size) (P0 : Fld Z h0 a "java/util/ImmutableCollections$List12" "e0" "Ljava/lang/Object;" (.ref b)) :
    MetFree l (⟨"java/util/ImmutableCollections$List12", "get", "(I)Ljava/lang/Object;"⟩ : MethodName) (head1 (Jvm.Cond.code (⟨"java/util/ImmutableCollections$List12", "get", "(I)Ljava/lang/Object;"⟩ : MethodName) jdk_44_method_5_code 2 (some (.object "java/lang/Object")) :: ws) ({ frames := 0, cells := 0, slots := 0, locals := 0 } : Room)) (fun aR U => aR = #[(.ref a), (.int (0 : Int32))] ∧ Z.Warmed39 U.vm ∧ U.heap = h0) (fun _ _ _ _ _ => True) (fun _ U o U' => ∃ v L, o = .returned v ∧ Q_get12 Z a b h0 n0 v U'.heap L ∧ FrameEnd U o U' L ({ frames := 0, cells := 0, slots := 0, locals := 0 } : Room).cells ({ frames := 0, cells := 0, slots := 0, locals := 0 } : Room).slots) := by
  refine MetFree.of_bodySF (plainFor_of_name pn_5) hisR ?_
  intro p e s m args below meth c s₁ Bd hml0 hP hK
  obtain ⟨rfl, hZ, hh⟩ := hP
  have hx := Bd.exec
  have hby := Bd.bytes
  have hml : c.maxLocals = 2 := hml0
  have hown : s.vm.findClass "java/util/ImmutableCollections$List12" = some m.cls := findClass_of_methodNamed Bd.named
  have hnm := (name_of_methodNamed Bd.named Bd.method).1
  have X0 : Stand p l e ({ frames := 0, cells := 0, slots := 0, locals := 0 } : Room) s m #[(.ref a), (.int (0 : Int32))] below meth c s₁ [] 0 0 := Stand.of_body Bd
  have e0 : s₁.heap = h0 := by rw [← hh, Bd.state]; rfl
  have N0 := Fr.nil n0
  show Goes p.tables e below _ _
  rw [ef_get12 m a b]
  refine Goes.named ?_
  intro QQ hQQ
  refine Goes.st (fun t k => XS.iloadN X0.here hx rfl (hb hby d24_0) rfl k) ?_
  show Goes _ _ _ _ (s₁.setTop (mkF m 1 #[.val (.ref a), .val (.int (0 : Int32))] [(.int (0 : Int32))]))
  refine Goes.st (fun t k => XS.ifNo X0.here hx rfl (hb hby d24_1) rfl ((if0 _ _).trans (teq (by decide : (0 : Int32) = (0 : Int32))).2) k) ?_
  show Goes _ _ _ _ (s₁.setTop (mkF m 4 #[.val (.ref a), .val (.int (0 : Int32))] []))
  refine Goes.st (fun t k => XS.aloadN X0.here hx rfl (hb hby d24_4) rfl rfl k) ?_
  show Goes _ _ _ _ (s₁.setTop (mkF m 5 #[.val (.ref a), .val (.int (0 : Int32))] [(.ref a)]))
  obtain ⟨T1, X1, e1, st1⟩ := getF X0 hx hZ hown (host := "") (Or.inl (hw115 hw)) Via.refl e0 P0 (g := (mkF m 5 #[.val (.ref a), .val (.int (0 : Int32))] [(.ref a)])) rfl rfl (hb hby d24_5)
  refine Goes.st st1 ?_
  show Goes _ _ _ _ (T1.setTop (mkF m 8 #[.val (.ref a), .val (.int (0 : Int32))] [(.ref b)]))
  obtain ⟨fs, hr, hrun, hended, hW, hsame⟩ := X1.leave (v := some (.ref b)) (fun h => by rw [Bd.returns] at h; cases h)
  subst hQQ
  refine ⟨_, _, retR X1 hx Bd.returns rfl rfl (hb hby d24_8) hr, hrun, hended, _, _, rfl, ?_, ⟨_, rfl⟩, hW, hsame.mono (by decide) (by decide)⟩
  show Q_get12 Z a b h0 n0 _ T1.heap _
  rw [e1]
  exact ⟨rfl, N0, rfl⟩
theorem ef_eqsame (m : MethodId) (a : Addr) : entryFrame m #[(.ref a), (.ref a)] 3 = (mkF m 0 #[.val (.ref a), .val (.ref a), .unset] []) := by first | (simp [entryFrame, mkF, argsToLocals, Value.category]; done) | rfl
def Q_eqsame (Z : State) (a : Addr) (h0 : Heap) (n0 : Nat) (v : Option Value) (h : Heap) (L : List Loc) : Prop := v = some (.int (1 : Int32)) ∧ Fr n0 L ∧ h = h0
set_option maxRecDepth 65536 in
set_option maxHeartbeats 40000000 in
theorem rm_eqsame (l : Launch) (Z : State) (a0 : Array Value) (hw : ∀ d ∈ tables_1, d.before a0 Z = true) (ws : List Jvm.Cond) (a : Addr) (h0 : Heap) (n0 : Nat) (Z0 : n0 ≤ h0.size) :
    MetFree l (⟨"java/lang/String", "equals", "(Ljava/lang/Object;)Z"⟩ : MethodName) (head1 (Jvm.Cond.code (⟨"java/lang/String", "equals", "(Ljava/lang/Object;)Z"⟩ : MethodName) jdk_42_method_66_code 3 (some .boolean) :: ws) ({ frames := 0, cells := 0, slots := 0, locals := 0 } : Room)) (fun aR U => aR = #[(.ref a), (.ref a)] ∧ Z.Warmed39 U.vm ∧ U.heap = h0) (fun _ _ _ _ _ => True) (fun _ U o U' => ∃ v L, o = .returned v ∧ Q_eqsame Z a h0 n0 v U'.heap L ∧ FrameEnd U o U' L ({ frames := 0, cells := 0, slots := 0, locals := 0 } : Room).cells ({ frames := 0, cells := 0, slots := 0, locals := 0 } : Room).slots) := by
  refine MetFree.of_bodySF (plainFor_of_name pn_7) hisR ?_
  intro p e s m args below meth c s₁ Bd hml0 hP hK
  obtain ⟨rfl, hZ, hh⟩ := hP
  have hx := Bd.exec
  have hby := Bd.bytes
  have hml : c.maxLocals = 3 := hml0
  have hown : s.vm.findClass "java/lang/String" = some m.cls := findClass_of_methodNamed Bd.named
  have hnm := (name_of_methodNamed Bd.named Bd.method).1
  have X0 : Stand p l e ({ frames := 0, cells := 0, slots := 0, locals := 0 } : Room) s m #[(.ref a), (.ref a)] below meth c s₁ [] 0 0 := Stand.of_body Bd
  have e0 : s₁.heap = h0 := by rw [← hh, Bd.state]; rfl
  have N0 := Fr.nil n0
  show Goes p.tables e below _ _
  rw [ef_eqsame m a]
  refine Goes.named ?_
  intro QQ hQQ
  refine Goes.st (fun t k => XS.aloadN X0.here hx rfl (hb hby d21_0) rfl rfl k) ?_
  show Goes _ _ _ _ (s₁.setTop (mkF m 1 #[.val (.ref a), .val (.ref a), .unset] [(.ref a)]))
  refine Goes.st (fun t k => XS.aloadN X0.here hx rfl (hb hby d21_1) rfl rfl k) ?_
  show Goes _ _ _ _ (s₁.setTop (mkF m 2 #[.val (.ref a), .val (.ref a), .unset] [(.ref a), (.ref a)]))
  refine Goes.st (fun t k => Jvm.RoadKit.acmp (g := (mkF m 2 #[.val (.ref a), .val (.ref a), .unset] [(.ref a), (.ref a)])) X0 hx rfl rfl rfl (pc0 := 2) (pc' := 5) (same := true) rfl (hb hby d21_2) rfl (decide_eq_true rfl) (by decide) (by decide) k) ?_
  show Goes _ _ _ _ (s₁.setTop (mkF m 5 #[.val (.ref a), .val (.ref a), .unset] []))
  refine Goes.st (fun t k => XS.iconst X0.here hx rfl (hb hby d21_5) k) ?_
  show Goes _ _ _ _ (s₁.setTop (mkF m 6 #[.val (.ref a), .val (.ref a), .unset] [(.int (1 : Int32))]))
  obtain ⟨fs, hr, hrun, hended, hW, hsame⟩ := X0.leave (v := some (.int (1 : Int32))) (fun h => by rw [Bd.returns] at h; cases h)
  subst hQQ
  refine ⟨_, _, retN X0 hx (t := .boolean) Bd.returns (by simp) (hb hby d21_6) hr, hrun, hended, _, _, rfl, ?_, ⟨_, rfl⟩, hW, hsame.mono (by decide) (by decide)⟩
  show Q_eqsame Z a h0 n0 _ s₁.heap _
  rw [e0]
  exact ⟨rfl, N0, rfl⟩
theorem ef_canE (m : MethodId) (cc : Int32) : entryFrame m #[(.int cc)] 1 = (mkF m 0 #[.val (.int cc)] []) := by first | (simp [entryFrame, mkF, argsToLocals, Value.category]; done) | rfl
def Q_canE (Z : State) (cc : Int32) (h0 : Heap) (n0 : Nat) (v : Option Value) (h : Heap) (L : List Loc) : Prop := v = some (.int (1 : Int32)) ∧ Fr n0 L ∧ h = h0
set_option maxRecDepth 65536 in
set_option maxHeartbeats 40000000 in
theorem rm_canE (l : Launch) (Z : State) (a0 : Array Value) (hw : ∀ d ∈ tables_1, d.before a0 Z = true) (ws : List Jvm.Cond) (cc : Int32) (h0 : Heap) (n0 : Nat) (Z0 : n0 ≤ h0.size) (rg_cc : ¬ cc < 0 ∧ ¬ (255 : Int32) < cc) :
    MetFree l (⟨"java/lang/StringLatin1", "canEncode", "(C)Z"⟩ : MethodName) (head1 (Jvm.Cond.code (⟨"java/lang/StringLatin1", "canEncode", "(C)Z"⟩ : MethodName) jdk_43_method_3_code 1 (some .boolean) :: ws) ({ frames := 0, cells := 0, slots := 0, locals := 0 } : Room)) (fun aR U => aR = #[(.int cc)] ∧ Z.Warmed39 U.vm ∧ U.heap = h0) (fun _ _ _ _ _ => True) (fun _ U o U' => ∃ v L, o = .returned v ∧ Q_canE Z cc h0 n0 v U'.heap L ∧ FrameEnd U o U' L ({ frames := 0, cells := 0, slots := 0, locals := 0 } : Room).cells ({ frames := 0, cells := 0, slots := 0, locals := 0 } : Room).slots) := by
  refine MetFree.of_bodySF (plainFor_of_name pn_8) hisR ?_
  intro p e s m args below meth c s₁ Bd hml0 hP hK
  obtain ⟨rfl, hZ, hh⟩ := hP
  have hx := Bd.exec
  have hby := Bd.bytes
  have hml : c.maxLocals = 1 := hml0
  have hown : s.vm.findClass "java/lang/StringLatin1" = some m.cls := findClass_of_methodNamed Bd.named
  have hnm := (name_of_methodNamed Bd.named Bd.method).1
  have X0 : Stand p l e ({ frames := 0, cells := 0, slots := 0, locals := 0 } : Room) s m #[(.int cc)] below meth c s₁ [] 0 0 := Stand.of_body Bd
  have e0 : s₁.heap = h0 := by rw [← hh, Bd.state]; rfl
  have N0 := Fr.nil n0
  show Goes p.tables e below _ _
  rw [ef_canE m cc]
  refine Goes.named ?_
  intro QQ hQQ
  refine Goes.st (fun t k => XS.iloadN X0.here hx rfl (hb hby d35_0) rfl k) ?_
  show Goes _ _ _ _ (s₁.setTop (mkF m 1 #[.val (.int cc)] [(.int cc)]))
  refine Goes.st (fun t k => XS.sipush X0.here hx rfl (hb hby d35_1) k) ?_
  show Goes _ _ _ _ (s₁.setTop (mkF m 4 #[.val (.int cc)] [(.int (255 : Int32)), (.int cc)]))
  refine Goes.st (fun t k => XS.icmpNo X0.here hx rfl (hb hby d35_4) rfl (flt rg_cc.2).2.2.1 k) ?_
  show Goes _ _ _ _ (s₁.setTop (mkF m 7 #[.val (.int cc)] []))
  refine Goes.st (fun t k => XS.iconst X0.here hx rfl (hb hby d35_7) k) ?_
  show Goes _ _ _ _ (s₁.setTop (mkF m 8 #[.val (.int cc)] [(.int (1 : Int32))]))
  refine Goes.st (fun t k => XS.goto X0.here hx rfl (pc0 := 8) (pc' := 12) rfl (hb hby d35_8) (by decide) (by decide) k) ?_
  show Goes _ _ _ _ (s₁.setTop (mkF m 12 #[.val (.int cc)] [(.int (1 : Int32))]))
  obtain ⟨fs, hr, hrun, hended, hW, hsame⟩ := X0.leave (v := some (.int (1 : Int32))) (fun h => by rw [Bd.returns] at h; cases h)
  subst hQQ
  refine ⟨_, _, retN X0 hx (t := .boolean) Bd.returns (by simp) (hb hby d35_12) hr, hrun, hended, _, _, rfl, ?_, ⟨_, rfl⟩, hW, hsame.mono (by decide) (by decide)⟩
  show Q_canE Z cc h0 n0 _ s₁.heap _
  rw [e0]
  exact ⟨rfl, N0, rfl⟩
theorem ef_toB (m : MethodId) (cc : Int32) : entryFrame m #[(.int cc)] 1 = (mkF m 0 #[.val (.int cc)] []) := by first | (simp [entryFrame, mkF, argsToLocals, Value.category]; done) | rfl
def Q_toB (Z : State) (cc : Int32) (h0 : Heap) (n0 : Nat) (v : Option Value) (h : Heap) (L : List Loc) : Prop := ∃ (t : Addr) (kb : ClassId), v = some (.ref t) ∧ Fr n0 L ∧ Keep h0 h [] ∧ Arv Z h t kb .byte (1 : Int32) [(.int (cc.toInt8.toInt32))] (.int (0 : Int32)) ∧ h0.size ≤ t
set_option maxRecDepth 65536 in
set_option maxHeartbeats 40000000 in
theorem rm_toB (l : Launch) (Z : State) (a0 : Array Value) (hw : ∀ d ∈ tables_1, d.before a0 Z = true) (ws : List Jvm.Cond) (cc : Int32) (h0 : Heap) (n0 : Nat) (Z0 : n0 ≤ h0.size) :
    MetFree l (⟨"java/lang/StringLatin1", "toBytes", "(C)[B"⟩ : MethodName) (head1 (Jvm.Cond.code (⟨"java/lang/StringLatin1", "toBytes", "(C)[B"⟩ : MethodName) jdk_43_method_46_code 1 (some (.array .byte)) :: ws) ({ frames := 0, cells := 1, slots := 1, locals := 0 } : Room)) (fun aR U => aR = #[(.int cc)] ∧ Z.Warmed39 U.vm ∧ U.heap = h0) (fun _ _ _ _ _ => True) (fun _ U o U' => ∃ v L, o = .returned v ∧ Q_toB Z cc h0 n0 v U'.heap L ∧ FrameEnd U o U' L ({ frames := 0, cells := 1, slots := 1, locals := 0 } : Room).cells ({ frames := 0, cells := 1, slots := 1, locals := 0 } : Room).slots) := by
  refine MetFree.of_bodySF (plainFor_of_name pn_8) hisR ?_
  intro p e s m args below meth c s₁ Bd hml0 hP hK
  obtain ⟨rfl, hZ, hh⟩ := hP
  have hx := Bd.exec
  have hby := Bd.bytes
  have hml : c.maxLocals = 1 := hml0
  have hown : s.vm.findClass "java/lang/StringLatin1" = some m.cls := findClass_of_methodNamed Bd.named
  have hnm := (name_of_methodNamed Bd.named Bd.method).1
  have X0 : Stand p l e ({ frames := 0, cells := 1, slots := 1, locals := 0 } : Room) s m #[(.int cc)] below meth c s₁ [] 0 0 := Stand.of_body Bd
  have e0 : s₁.heap = h0 := by rw [← hh, Bd.state]; rfl
  have N0 := Fr.nil n0
  show Goes p.tables e below _ _
  rw [ef_toB m cc]
  refine Goes.named ?_
  intro QQ hQQ
  refine Goes.st (fun t k => XS.iconst X0.here hx rfl (hb hby d36_0) k) ?_
  show Goes _ _ _ _ (s₁.setTop (mkF m 1 #[.val (.int cc)] [(.int (1 : Int32))]))
  obtain ⟨T1, h1, k1, X1, e1, E1, A1, st1⟩ := newP X0 hx hZ (aty := .byte) (hw23 hw) e0 (g := (mkF m 1 #[.val (.int cc)] [(.int (1 : Int32))])) rfl (hb hby d36_1) rfl (by decide) (cap := 1) (by decide) (by decide) (by decide) (by decide)
  obtain ⟨b1, g1⟩ : ∃ z, z = h0.size := ⟨_, rfl⟩
  rw [← g1] at A1 st1
  have V1 : Arv Z h1 b1 k1 .byte (1 : Int32) [(.int (0 : Int32))] (.int (0 : Int32)) := (Arv.new A1 (by decide)).pad (pad_rep [] (.int (0 : Int32)) 1)
  refine Goes.st st1 ?_
  show Goes _ _ _ _ (T1.setTop (mkF m 3 #[.val (.int cc)] [(.ref b1)]))
  refine Goes.st (fun t k => XS.dup X1.here hx rfl (hb hby d36_3) rfl rfl k) ?_
  show Goes _ _ _ _ (T1.setTop (mkF m 4 #[.val (.int cc)] [(.ref b1), (.ref b1)]))
  refine Goes.st (fun t k => XS.iconst X1.here hx rfl (hb hby d36_4) k) ?_
  show Goes _ _ _ _ (T1.setTop (mkF m 5 #[.val (.int cc)] [(.int (0 : Int32)), (.ref b1), (.ref b1)]))
  refine Goes.st (fun t k => XS.iloadN X1.here hx rfl (hb hby d36_5) rfl k) ?_
  show Goes _ _ _ _ (T1.setTop (mkF m 6 #[.val (.int cc)] [(.int cc), (.int (0 : Int32)), (.ref b1), (.ref b1)]))
  refine Goes.st (fun t k => XS.i2b X1.here hx rfl (hb hby d36_6) rfl k) ?_
  show Goes _ _ _ _ (T1.setTop (mkF m 7 #[.val (.int cc)] [(.int (cc.toInt8.toInt32)), (.int (0 : Int32)), (.ref b1), (.ref b1)]))
  obtain ⟨oc2, oA2, oq2, oS2, oM2, oH2, oG2⟩ := id V1
  obtain ⟨T3, h3, X3, e3, W3, st3⟩ := stB X1 hx hZ e1 oA2 (j := (0 : Int32)) (inb_of oS2 ⟨by decide, by decide⟩) (g := (mkF m 7 #[.val (.int cc)] [(.int (cc.toInt8.toInt32)), (.int (0 : Int32)), (.ref b1), (.ref b1)])) rfl rfl (hb hby d36_7)
  rw [own_narb] at W3
  have V3 : Arv Z h3 b1 k1 .byte (1 : Int32) [(.int (cc.toInt8.toInt32))] (.int (0 : Int32)) := Arv.set oA2 oq2 oS2 oM2 oH2 oG2 (own_fitsb _) W3 0 rfl (Nat.le_of_ble_eq_true rfl)
  have N3 := Fr.snoc X3 N0 (Nat.le_trans Z0 (Nat.le_of_eq g1.symm))
  refine Goes.st st3 ?_
  show Goes _ _ _ _ (T3.setTop (mkF m 8 #[.val (.int cc)] [(.ref b1)]))
  have kp4 : Keep h0 h1 [] := (Keep.refl h0 []).ext E1
  have kp5 : Keep h0 h3 [] := kp4.wr W3 (Or.inr (Nat.le_of_eq g1.symm))
  obtain ⟨fs, hr, hrun, hended, hW, hsame⟩ := X3.leave (v := some (.ref b1)) (fun h => by rw [Bd.returns] at h; cases h)
  subst hQQ
  refine ⟨_, _, retR X3 hx Bd.returns rfl rfl (hb hby d36_8) hr, hrun, hended, _, _, rfl, ?_, ⟨_, rfl⟩, hW, hsame.mono (by decide) (by decide)⟩
  show Q_toB Z cc h0 n0 _ T3.heap _
  rw [e3]
  exact ⟨b1, k1, rfl, N3, kp5, V3, (Nat.le_of_eq g1.symm)⟩
theorem ef_sBB (m : MethodId) (a : Addr) (t : Addr) : entryFrame m #[(.ref a), (.ref t), (.int (0 : Int32))] 3 = (mkF m 0 #[.val (.ref a), .val (.ref t), .val (.int (0 : Int32))] []) := by first | (simp [entryFrame, mkF, argsToLocals, Value.category]; done) | rfl
def Q_sBB (Z : State) (a : Addr) (t : Addr) (h0 : Heap) (n0 : Nat) (v : Option Value) (h : Heap) (L : List Loc) : Prop := v = none ∧ Fr n0 L ∧ Keep h0 h [a] ∧ Exa Z h a "java/lang/String" ∧ Fld Z h a "java/lang/String" "value" "[B" (.ref t) ∧ Fld Z h a "java/lang/String" "coder" "B" (.int (0 : Int32))
set_option maxRecDepth 65536 in
set_option maxHeartbeats 40000000 in
theorem rm_sBB (l : Launch) (Z : State) (a0 : Array Value) (hw : ∀ d ∈ tables_1, d.before a0 Z = true) (ws : List Jvm.Cond) (a : Addr) (t : Addr) (h0 : Heap) (n0 : Nat) (Z0 : n0 ≤ h0.size) (P0 : Exa Z h0 a "java/lang/String") (P1 : Fld Z h0 a "java/lang/String" "value" "[B" .null) (P2 : Fld Z h0 a "java/lang/String" "coder" "B" (.int (0 : Int32))) (g_a : n0 ≤ a) :
    MetFree l (⟨"java/lang/String", "<init>", "([BB)V"⟩ : MethodName) (head1 (Jvm.Cond.code (⟨"java/lang/String", "<init>", "([BB)V"⟩ : MethodName) jdk_42_method_151_code 3 none :: ws) ({ frames := 1, cells := 0, slots := 0, locals := 12 } : Room)) (fun aR U => aR = #[(.ref a), (.ref t), (.int (0 : Int32))] ∧ Z.Warmed39 U.vm ∧ U.heap = h0) (fun _ _ _ _ _ => True) (fun _ U o U' => ∃ v L, o = .returned v ∧ Q_sBB Z a t h0 n0 v U'.heap L ∧ FrameEnd U o U' L ({ frames := 1, cells := 0, slots := 0, locals := 12 } : Room).cells ({ frames := 1, cells := 0, slots := 0, locals := 12 } : Room).slots) := by
  refine MetFree.of_bodySF (plainFor_of_name pn_7) hisR ?_
  intro p e s m args below meth c s₁ Bd hml0 hP hK
  obtain ⟨rfl, hZ, hh⟩ := hP
  have hx := Bd.exec
  have hby := Bd.bytes
  have hml : c.maxLocals = 3 := hml0
  have hown : s.vm.findClass "java/lang/String" = some m.cls := findClass_of_methodNamed Bd.named
  have hnm := (name_of_methodNamed Bd.named Bd.method).1
  have X0 : Stand p l e ({ frames := 1, cells := 0, slots := 0, locals := 12 } : Room) s m #[(.ref a), (.ref t), (.int (0 : Int32))] below meth c s₁ [] 0 0 := Stand.of_body Bd
  have e0 : s₁.heap = h0 := by rw [← hh, Bd.state]; rfl
  have N0 := Fr.nil n0
  show Goes p.tables e below _ _
  rw [ef_sBB m a t]
  refine Goes.named ?_
  intro QQ hQQ
  refine Goes.st (fun t k => XS.aloadN X0.here hx rfl (hb hby d37_0) rfl rfl k) ?_
  show Goes _ _ _ _ (s₁.setTop (mkF m 1 #[.val (.ref a), .val (.ref t), .val (.int (0 : Int32))] [(.ref a)]))
  obtain ⟨T1, X1, e1, st1⟩ := initO X0 hx hZ hown (hw15 hw) (hw16 hw) (hw17 hw) e0 (g := (mkF m 1 #[.val (.ref a), .val (.ref t), .val (.int (0 : Int32))] [(.ref a)])) rfl (by rw [hml]; rfl) rfl (hb hby d37_1) (by decide) (W := 0) (by show 2 * 0 + _ ≤ _; exact Nat.le_of_eq rfl) (by decide)
  refine Goes.st st1 ?_
  show Goes _ _ _ _ (T1.setTop (mkF m 4 #[.val (.ref a), .val (.ref t), .val (.int (0 : Int32))] []))
  refine Goes.st (fun t k => XS.aloadN X1.here hx rfl (hb hby d37_4) rfl rfl k) ?_
  show Goes _ _ _ _ (T1.setTop (mkF m 5 #[.val (.ref a), .val (.ref t), .val (.int (0 : Int32))] [(.ref a)]))
  refine Goes.st (fun t k => XS.aloadN X1.here hx rfl (hb hby d37_5) rfl rfl k) ?_
  show Goes _ _ _ _ (T1.setTop (mkF m 6 #[.val (.ref a), .val (.ref t), .val (.int (0 : Int32))] [(.ref t), (.ref a)]))
  obtain ⟨T2, h2, X2, e2, W2, st2⟩ := putF X1 hx hZ hown (host := "") (Or.inl (hw32 hw)) Via.refl e1 P1 P0 (Or.inr ⟨(hw33 hw), rfl, hnm⟩) (hw6 hw) (ty := (.array .byte)) (by decide) rfl rfl (g := (mkF m 6 #[.val (.ref a), .val (.ref t), .val (.int (0 : Int32))] [(.ref t), (.ref a)])) rfl rfl (hb hby d37_6)
  have N2 := Fr.snoc X2 N0 g_a
  have F2 := P1.same W2
  refine Goes.st st2 ?_
  show Goes _ _ _ _ (T2.setTop (mkF m 9 #[.val (.ref a), .val (.ref t), .val (.int (0 : Int32))] []))
  refine Goes.st (fun t k => XS.aloadN X2.here hx rfl (hb hby d37_9) rfl rfl k) ?_
  show Goes _ _ _ _ (T2.setTop (mkF m 10 #[.val (.ref a), .val (.ref t), .val (.int (0 : Int32))] [(.ref a)]))
  refine Goes.st (fun t k => XS.iloadN X2.here hx rfl (hb hby d37_10) rfl k) ?_
  show Goes _ _ _ _ (T2.setTop (mkF m 11 #[.val (.ref a), .val (.ref t), .val (.int (0 : Int32))] [(.int (0 : Int32)), (.ref a)]))
  have f3 : Exa Z h2 a "java/lang/String" := (P0.wr W2)
  have f4 : Fld Z h2 a "java/lang/String" "coder" "B" (.int (0 : Int32)) := (P2.other W2 (Or.inr (slot_ne (Or.inr (hw31 hw)) (Or.inr (hw33 hw)) (by decide) (t := .byte) (t' := (.array .byte)) (by decide) (by decide))))
  obtain ⟨T5, h5, X5, e5, W5, st5⟩ := putFN X2 hx hZ hown (hw30 hw) Via.refl e2 f4 f3 (Or.inr ⟨(hw31 hw), rfl, hnm⟩) (hw6 hw) (ty := .byte) (v' := (.int (0 : Int32))) (by decide) rfl (by decide) (g := (mkF m 11 #[.val (.ref a), .val (.ref t), .val (.int (0 : Int32))] [(.int (0 : Int32)), (.ref a)])) rfl rfl (hb hby d37_11)
  have N5 := Fr.snoc X5 N2 g_a
  have F5 := f4.same W5
  refine Goes.st st5 ?_
  show Goes _ _ _ _ (T5.setTop (mkF m 14 #[.val (.ref a), .val (.ref t), .val (.int (0 : Int32))] []))
  have kp6 : Keep h0 h2 [a] := (Keep.refl h0 [a]).wr W2 (Or.inl (List.mem_of_getElem? (i := 0) rfl))
  have kp7 : Keep h0 h5 [a] := kp6.wr W5 (Or.inl (List.mem_of_getElem? (i := 0) rfl))
  have f8 : Exa Z h5 a "java/lang/String" := (f3.wr W5)
  have f9 : Fld Z h5 a "java/lang/String" "value" "[B" (.ref t) := (F2.other W5 (Or.inr (slot_ne (Or.inr (hw33 hw)) (Or.inr (hw31 hw)) (by decide) (t := (.array .byte)) (t' := .byte) (by decide) (by decide))))
  obtain ⟨fs, hr, hrun, hended, hW, hsame⟩ := X5.leave (v := none) (fun _ => rfl)
  subst hQQ
  refine ⟨_, _, X5.returnOut hx Bd.returns (hb hby d37_14) hr, hrun, hended, _, _, rfl, ?_, ⟨_, rfl⟩, hW, hsame.mono (by decide) (by decide)⟩
  show Q_sBB Z a t h0 n0 _ T5.heap _
  rw [e5]
  exact ⟨rfl, N5, kp7, f8, f9, F5⟩
theorem ef_valC (m : MethodId) (cc : Int32) (G1 : Int32) : entryFrame m #[(.int cc)] 1 = (mkF m 0 #[.val (.int cc)] []) := by first | (simp [entryFrame, mkF, argsToLocals, Value.category]; done) | rfl
def Q_valC (Z : State) (cc : Int32) (G1 : Int32) (h0 : Heap) (n0 : Nat) (v : Option Value) (h : Heap) (L : List Loc) : Prop := ∃ (r : Addr) (t : Addr) (kb : ClassId), v = some (.ref r) ∧ Fr n0 L ∧ Keep h0 h [] ∧ Str Z h r t kb [cc] ∧ h0.size ≤ r ∧ h0.size ≤ t ∧ r ≠ t
set_option maxRecDepth 65536 in
set_option maxHeartbeats 40000000 in
theorem rm_valC (l : Launch) (Z : State) (a0 : Array Value) (hw : ∀ d ∈ tables_1, d.before a0 Z = true) (ws : List Jvm.Cond) (cc : Int32) (G1 : Int32) (h0 : Heap) (n0 : Nat) (Z0 : n0 ≤ h0.size) (P0 : Old Z n0 h0) (rg_cc : ¬ cc < 0 ∧ ¬ (255 : Int32) < cc) (O2 : Sta Z Z.heap "java/lang/String" "COMPACT_STRINGS" "Z" (.int G1)) (P5 : ¬ (G1 = (0 : Int32))) :
    MetFree l (⟨"java/lang/String", "valueOf", "(C)Ljava/lang/String;"⟩ : MethodName) (head1 (Jvm.Cond.code (⟨"java/lang/String", "valueOf", "(C)Ljava/lang/String;"⟩ : MethodName) jdk_42_method_139_code 1 (some (.object "java/lang/String")) :: ws) ({ frames := 2, cells := 2, slots := 5, locals := 27 } : Room)) (fun aR U => aR = #[(.int cc)] ∧ Z.Warmed39 U.vm ∧ U.heap = h0) (fun _ _ _ _ _ => True) (fun _ U o U' => ∃ v L, o = .returned v ∧ Q_valC Z cc G1 h0 n0 v U'.heap L ∧ FrameEnd U o U' L ({ frames := 2, cells := 2, slots := 5, locals := 27 } : Room).cells ({ frames := 2, cells := 2, slots := 5, locals := 27 } : Room).slots) := by
  refine MetFree.of_bodySF (plainFor_of_name pn_7) hisR ?_
  intro p e s m args below meth c s₁ Bd hml0 hP hK
  obtain ⟨rfl, hZ, hh⟩ := hP
  have hx := Bd.exec
  have hby := Bd.bytes
  have hml : c.maxLocals = 1 := hml0
  have hown : s.vm.findClass "java/lang/String" = some m.cls := findClass_of_methodNamed Bd.named
  have hnm := (name_of_methodNamed Bd.named Bd.method).1
  have X0 : Stand p l e ({ frames := 2, cells := 2, slots := 5, locals := 27 } : Room) s m #[(.int cc)] below meth c s₁ [] 0 0 := Stand.of_body Bd
  have e0 : s₁.heap = h0 := by rw [← hh, Bd.state]; rfl
  have N0 := Fr.nil n0
  show Goes p.tables e below _ _
  rw [ef_valC m cc G1]
  refine Goes.named ?_
  intro QQ hQQ
  obtain ⟨T1, X1, e1, st1⟩ := getS2 X0 hx hZ hown (host := "") (Or.inl (hw18 hw)) Via.refl e0 (O2.ext P0.2) (g := (mkF m 0 #[.val (.int cc)] [])) rfl (hb hby d34_0)
  refine Goes.st st1 ?_
  show Goes _ _ _ _ (T1.setTop (mkF m 3 #[.val (.int cc)] [(.int G1)]))
  refine Goes.st (fun t k => XS.ifNo X1.here hx rfl (hb hby d34_3) rfl ((if0 _ _).trans (feq P5).1) k) ?_
  show Goes _ _ _ _ (T1.setTop (mkF m 6 #[.val (.int cc)] []))
  refine Goes.st (fun t k => XS.iloadN X1.here hx rfl (hb hby d34_6) rfl k) ?_
  show Goes _ _ _ _ (T1.setTop (mkF m 7 #[.val (.int cc)] [(.int cc)]))
  obtain ⟨_, _, ⟨T2, L2, k2, n2⟩, -, X2, ⟨Lc2, hQ2, l2, y2, z2⟩, st2⟩ := Jvm.LawKit.callS X1 hx (y := (⟨"java/lang/StringLatin1", "canEncode", "(C)Z"⟩ : MethodName)) hown (mvT hZ (hw217 hw)) (mvT hZ (hw218 hw)) (mvT hZ (hw219 hw)) (mvT hZ (hw220 hw)) (by decide) (backOf (W := 0) (rm_canE l Z a0 hw [] cc h0 n0 Z0 rg_cc) hZ (hw220 hw) (hw219 hw) (by decide) (by decide)) (g := (mkF m 7 #[.val (.int cc)] [(.int cc)])) rfl (by rw [hml]; rfl) (argsL := [(.int cc)]) (rest := []) (lenOf pd_3 rfl) rfl (by show 2 * 0 + _ ≤ _; exact Nat.le_of_eq rfl) (hb hby d34_7) (fun _ _ => ⟨rfl, e1, (by decide : 0 + 0 ≤ _), (by decide : 0 + 0 ≤ _)⟩)
  dsimp only [Pt.U, Pt.locs, Pt.cells, Pt.slots] at X2 l2 y2 z2 st2 hQ2
  subst l2 y2 z2
  obtain ⟨rfl, N2q, K2⟩ := hQ2
  have N2 := Fr.app N0 N2q
  refine Goes.st st2 ?_
  show Goes _ _ _ _ (T2.setTop (mkF m 10 #[.val (.int cc)] [(.int (1 : Int32))]))
  refine Goes.st (fun t k => XS.ifNo X2.here hx rfl (hb hby d34_10) rfl ((if0 _ _).trans (feq (by decide : ¬ ((1 : Int32) = (0 : Int32)))).1) k) ?_
  show Goes _ _ _ _ (T2.setTop (mkF m 13 #[.val (.int cc)] []))
  obtain ⟨T3, h3, X3, e3, E3, A3, D3, -, st3⟩ := newO X2 hx hZ hown (hw221 hw) (hw6 hw) (hw7 hw) K2 (g := (mkF m 13 #[.val (.int cc)] [])) rfl (hb hby d34_13) (by decide) (by decide)
  obtain ⟨b3, g3⟩ : ∃ z, z = h0.size := ⟨_, rfl⟩
  rw [← g3] at A3 D3 st3
  have F3_coder : Fld Z h3 b3 "java/lang/String" "coder" "B" (.int (0 : Int32)) := D3 (Or.inr (hw31 hw)) (ty := .byte) (by decide)
  have F3_value : Fld Z h3 b3 "java/lang/String" "value" "[B" .null := D3 (Or.inr (hw33 hw)) (ty := (.array .byte)) (by decide)
  refine Goes.st st3 ?_
  show Goes _ _ _ _ (T3.setTop (mkF m 16 #[.val (.int cc)] [(.ref b3)]))
  refine Goes.st (fun t k => XS.dup X3.here hx rfl (hb hby d34_16) rfl rfl k) ?_
  show Goes _ _ _ _ (T3.setTop (mkF m 17 #[.val (.int cc)] [(.ref b3), (.ref b3)]))
  refine Goes.st (fun t k => XS.iloadN X3.here hx rfl (hb hby d34_17) rfl k) ?_
  show Goes _ _ _ _ (T3.setTop (mkF m 18 #[.val (.int cc)] [(.int cc), (.ref b3), (.ref b3)]))
  obtain ⟨_, _, ⟨T4, L4, k4, n4⟩, -, X4, ⟨Lc4, hQ4, l4, y4, z4⟩, st4⟩ := Jvm.LawKit.callS X3 hx (y := (⟨"java/lang/StringLatin1", "toBytes", "(C)[B"⟩ : MethodName)) hown (mvT hZ (hw222 hw)) (mvT hZ (hw223 hw)) (mvT hZ (hw219 hw)) (mvT hZ (hw224 hw)) (by decide) (backOf (W := 2) (rm_toB l Z a0 hw [] cc h3 n0 (Nat.le_trans Z0 E3.1) ) hZ (hw224 hw) (hw219 hw) (by decide) (by decide)) (g := (mkF m 18 #[.val (.int cc)] [(.int cc), (.ref b3), (.ref b3)])) rfl (by rw [hml]; rfl) (argsL := [(.int cc)]) (rest := [(.ref b3), (.ref b3)]) (lenOf pd_4 rfl) rfl (by show 2 * 0 + _ ≤ _; exact Nat.le_of_eq rfl) (hb hby d34_18) (fun _ _ => ⟨rfl, e3, (by decide : 1 + 1 ≤ _), (by decide : 4 + 1 ≤ _)⟩)
  dsimp only [Pt.U, Pt.locs, Pt.cells, Pt.slots] at X4 l4 y4 z4 st4 hQ4
  subst l4 y4 z4
  obtain ⟨t4, kb4, rfl, N4q, K4, F4_0, lo4_0⟩ := hQ4
  have N4 := Fr.app N2 N4q
  refine Goes.st st4 ?_
  show Goes _ _ _ _ (T4.setTop (mkF m 21 #[.val (.int cc)] [(.ref t4), (.ref b3), (.ref b3)]))
  refine Goes.st (fun t k => XS.iconst X4.here hx rfl (hb hby d34_21) k) ?_
  show Goes _ _ _ _ (T4.setTop (mkF m 22 #[.val (.int cc)] [(.int (0 : Int32)), (.ref t4), (.ref b3), (.ref b3)]))
  have f6 : Exa Z T4.heap b3 "java/lang/String" := (A3.keep K4)
  have f7 : Fld Z T4.heap b3 "java/lang/String" "value" "[B" .null := (F3_value.keep K4 nin0)
  have f8 : Fld Z T4.heap b3 "java/lang/String" "coder" "B" (.int (0 : Int32)) := (F3_coder.keep K4 nin0)
  obtain ⟨_, _, ⟨T5, L5, k5, n5⟩, -, X5, ⟨Lc5, hQ5, l5, y5, z5⟩, st5⟩ := X4.specialBack hx (y := (⟨"java/lang/String", "<init>", "([BB)V"⟩ : MethodName)) rfl hown (mvT hZ (hw225 hw)) (mvT hZ (hw226 hw)) (mvT hZ (hw227 hw)) (by decide) (backOf (W := 1) (rm_sBB l Z a0 hw [] b3 t4 T4.heap n0 (Nat.le_trans Z0 (Nat.le_trans E3.1 K4.1)) f6 f7 f8 (Nat.le_trans Z0 (Nat.le_of_eq g3.symm))) hZ (hw227 hw) (hw7 hw) (by decide) (by decide)) (g := (mkF m 22 #[.val (.int cc)] [(.int (0 : Int32)), (.ref t4), (.ref b3), (.ref b3)])) rfl (by rw [hml]; rfl) (Steps.refl _) (a := b3) (argsL := [(.ref t4), (.int (0 : Int32))]) (rest := [(.ref b3)]) (lenOf pd_5 rfl) rfl (by show 2 * 0 + _ ≤ _; exact Nat.le_of_eq rfl) (hb hby d34_22) (fun _ _ => ⟨rfl, rfl, (by decide : 2 + 0 ≤ _), (by decide : 5 + 0 ≤ _)⟩)
  dsimp only [Pt.U, Pt.locs, Pt.cells, Pt.slots] at X5 l5 y5 z5 st5 hQ5
  subst l5 y5 z5
  obtain ⟨rfl, N5q, K5, F5_0, F5_1, F5_2⟩ := hQ5
  have N5 := Fr.app N4 N5q
  refine Goes.tr st5 ?_
  show Goes _ _ _ _ (T5.setTop (mkF m 25 #[.val (.int cc)] [(.ref b3)]))
  have f10 : Arv Z T5.heap t4 kb4 .byte (1 : Int32) [(.int (cc.toInt8.toInt32))] (.int (0 : Int32)) := (F4_0.keep K5 (ninS (Ne.symm (Nat.ne_of_lt (Nat.lt_of_lt_of_le A3.lt lo4_0))) nin0))
  have S9 : Str Z T5.heap b3 t4 kb4 [cc] := ⟨F5_0, F5_1, F5_2, f10, own_cS rg_cc own_c0, Nat.le_of_ble_eq_true rfl⟩
  have kp11 : Keep h0 h3 [] := (Keep.refl h0 []).ext E3
  have kp12 : Keep h0 T4.heap [] := kp11.trans K4 all0
  have kp13 : Keep h0 T5.heap [] := kp12.trans K5 (allS (Or.inr (Nat.le_of_eq g3.symm)) all0)
  obtain ⟨fs, hr, hrun, hended, hW, hsame⟩ := X5.leave (v := some (.ref b3)) (fun h => by rw [Bd.returns] at h; cases h)
  subst hQQ
  refine ⟨_, _, retR X5 hx Bd.returns rfl rfl (hb hby d34_25) hr, hrun, hended, _, _, rfl, ?_, ⟨_, rfl⟩, hW, hsame.mono (by decide) (by decide)⟩
  show Q_valC Z cc G1 h0 n0 _ T5.heap _
  exact ⟨b3, t4, kb4, rfl, N5, kp13, S9, (Nat.le_of_eq g3.symm), (Nat.le_trans E3.1 lo4_0), (Nat.ne_of_lt (Nat.lt_of_lt_of_le A3.lt lo4_0))⟩
theorem ef_alI (m : MethodId) (a : Addr) : entryFrame m #[(.ref a)] 1 = (mkF m 0 #[.val (.ref a)] []) := by first | (simp [entryFrame, mkF, argsToLocals, Value.category]; done) | rfl
def Q_alI (Z : State) (a : Addr) (h0 : Heap) (n0 : Nat) (v : Option Value) (h : Heap) (L : List Loc) : Prop := v = none ∧ Fr n0 L ∧ Keep h0 h [a] ∧ Exa Z h a "java/util/ArrayList" ∧ Fld Z h a "java/util/ArrayList" "elementData" "[Ljava/lang/Object;" .null ∧ Fld Z h a "java/util/ArrayList" "size" "I" (.int (0 : Int32)) ∧ Fld Z h a "java/util/AbstractList" "modCount" "I" (.int (0 : Int32))
set_option maxRecDepth 65536 in
set_option maxHeartbeats 40000000 in
theorem rm_alI (l : Launch) (Z : State) (a0 : Array Value) (hw : ∀ d ∈ tables_1, d.before a0 Z = true) (ws : List Jvm.Cond) (a : Addr) (h0 : Heap) (n0 : Nat) (Z0 : n0 ≤ h0.size) (P0 : Exa Z h0 a "java/util/ArrayList") (P1 : Fld Z h0 a "java/util/ArrayList" "elementData" "[Ljava/lang/Object;" .null) (P2 : Fld Z h0 a "java/util/ArrayList" "size" "I" (.int (0 : Int32))) (P3 : Fld Z h0 a "java/util/AbstractList" "modCount" "I" (.int (0 : Int32))) (g_a : n0 ≤ a) :
    MetFree l (⟨"java/util/AbstractList", "<init>", "()V"⟩ : MethodName) (head1 (Jvm.Cond.code (⟨"java/util/AbstractList", "<init>", "()V"⟩ : MethodName) jdk_39_method_1_code 1 none :: ws) ({ frames := 2, cells := 0, slots := 0, locals := 24 } : Room)) (fun aR U => aR = #[(.ref a)] ∧ Z.Warmed39 U.vm ∧ U.heap = h0) (fun _ _ _ _ _ => True) (fun _ U o U' => ∃ v L, o = .returned v ∧ Q_alI Z a h0 n0 v U'.heap L ∧ FrameEnd U o U' L ({ frames := 2, cells := 0, slots := 0, locals := 24 } : Room).cells ({ frames := 2, cells := 0, slots := 0, locals := 24 } : Room).slots) := by
  refine MetFree.of_bodySF (plainFor_of_name pn_9) hisR ?_
  intro p e s m args below meth c s₁ Bd hml0 hP hK
  obtain ⟨rfl, hZ, hh⟩ := hP
  have hx := Bd.exec
  have hby := Bd.bytes
  have hml : c.maxLocals = 1 := hml0
  have hown : s.vm.findClass "java/util/AbstractList" = some m.cls := findClass_of_methodNamed Bd.named
  have hnm := (name_of_methodNamed Bd.named Bd.method).1
  have X0 : Stand p l e ({ frames := 2, cells := 0, slots := 0, locals := 24 } : Room) s m #[(.ref a)] below meth c s₁ [] 0 0 := Stand.of_body Bd
  have e0 : s₁.heap = h0 := by rw [← hh, Bd.state]; rfl
  have N0 := Fr.nil n0
  show Goes p.tables e below _ _
  rw [ef_alI m a]
  refine Goes.named ?_
  intro QQ hQQ
  refine Goes.st (fun t k => XS.aloadN X0.here hx rfl (hb hby d9_0) rfl rfl k) ?_
  show Goes _ _ _ _ (s₁.setTop (mkF m 1 #[.val (.ref a)] [(.ref a)]))
  obtain ⟨_, _, ⟨T1, L1, k1, n1⟩, -, X1, ⟨Lc1, hQ1, l1, y1, z1⟩, st1⟩ := X0.specialBack hx (y := (⟨"java/util/AbstractCollection", "<init>", "()V"⟩ : MethodName)) rfl hown (mvT hZ (hw46 hw)) (mvT hZ (hw47 hw)) (mvT hZ (hw51 hw)) (by decide) (backOf (W := 0) (rm_ac l Z a0 hw [] a h0 n0 Z0 ) hZ (hw51 hw) (hw50 hw) (by decide) (by decide)) (g := (mkF m 1 #[.val (.ref a)] [(.ref a)])) rfl (by rw [hml]; rfl) (Steps.refl _) (a := a) (argsL := []) (rest := []) (lenOf pd_0 rfl) rfl (by show 2 * 0 + _ ≤ _; exact Nat.le_of_eq rfl) (hb hby d9_1) (fun _ _ => ⟨rfl, e0, (by decide : 0 + 0 ≤ _), (by decide : 0 + 0 ≤ _)⟩)
  dsimp only [Pt.U, Pt.locs, Pt.cells, Pt.slots] at X1 l1 y1 z1 st1 hQ1
  subst l1 y1 z1
  obtain ⟨rfl, N1q, K1⟩ := hQ1
  have N1 := Fr.app N0 N1q
  refine Goes.tr st1 ?_
  show Goes _ _ _ _ (T1.setTop (mkF m 4 #[.val (.ref a)] []))
  refine Goes.st (fun t k => XS.aloadN X1.here hx rfl (hb hby d9_4) rfl rfl k) ?_
  show Goes _ _ _ _ (T1.setTop (mkF m 5 #[.val (.ref a)] [(.ref a)]))
  refine Goes.st (fun t k => XS.iconst X1.here hx rfl (hb hby d9_5) k) ?_
  show Goes _ _ _ _ (T1.setTop (mkF m 6 #[.val (.ref a)] [(.int (0 : Int32)), (.ref a)]))
  obtain ⟨T2, h2, X2, e2, W2, st2⟩ := putF X1 hx hZ hown (host := "") (Or.inl (hw53 hw)) Via.refl K1 P3 P0 (Or.inl (hw54 hw)) (hw35 hw) (ty := .int) (by decide) rfl rfl (g := (mkF m 6 #[.val (.ref a)] [(.int (0 : Int32)), (.ref a)])) rfl rfl (hb hby d9_6)
  have N2 := Fr.snoc X2 N1 g_a
  have F2 := P3.same W2
  refine Goes.st st2 ?_
  show Goes _ _ _ _ (T2.setTop (mkF m 9 #[.val (.ref a)] []))
  have kp3 : Keep h0 h2 [a] := (Keep.refl h0 [a]).wr W2 (Or.inl (List.mem_of_getElem? (i := 0) rfl))
  have f4 : Exa Z h2 a "java/util/ArrayList" := (P0.wr W2)
  have f5 : Fld Z h2 a "java/util/ArrayList" "elementData" "[Ljava/lang/Object;" .null := (P1.other W2 (Or.inr (slot_ne (Or.inl (hw57 hw)) (Or.inl (hw54 hw)) (by decide) (t := (.array (.object "java/lang/Object"))) (t' := .int) (by decide) (by decide))))
  have f6 : Fld Z h2 a "java/util/ArrayList" "size" "I" (.int (0 : Int32)) := (P2.other W2 (Or.inr (slot_ne (Or.inl (hw184 hw)) (Or.inl (hw54 hw)) (by decide) (t := .int) (t' := .int) (by decide) (by decide))))
  obtain ⟨fs, hr, hrun, hended, hW, hsame⟩ := X2.leave (v := none) (fun _ => rfl)
  subst hQQ
  refine ⟨_, _, X2.returnOut hx Bd.returns (hb hby d9_9) hr, hrun, hended, _, _, rfl, ?_, ⟨_, rfl⟩, hW, hsame.mono (by decide) (by decide)⟩
  show Q_alI Z a h0 n0 _ T2.heap _
  rw [e2]
  exact ⟨rfl, N2, kp3, f4, f5, f6, F2⟩
theorem ef_alN (m : MethodId) (a : Addr) (aD : Addr) : entryFrame m #[(.ref a)] 1 = (mkF m 0 #[.val (.ref a)] []) := by first | (simp [entryFrame, mkF, argsToLocals, Value.category]; done) | rfl
def Q_alN (Z : State) (a : Addr) (aD : Addr) (h0 : Heap) (n0 : Nat) (v : Option Value) (h : Heap) (L : List Loc) : Prop := v = none ∧ Fr n0 L ∧ Keep h0 h [a] ∧ Exa Z h a "java/util/ArrayList" ∧ Fld Z h a "java/util/ArrayList" "elementData" "[Ljava/lang/Object;" (.ref aD) ∧ Fld Z h a "java/util/ArrayList" "size" "I" (.int (0 : Int32)) ∧ Fld Z h a "java/util/AbstractList" "modCount" "I" (.int (0 : Int32))
set_option maxRecDepth 65536 in
set_option maxHeartbeats 40000000 in
theorem rm_alN (l : Launch) (Z : State) (a0 : Array Value) (hw : ∀ d ∈ tables_1, d.before a0 Z = true) (ws : List Jvm.Cond) (a : Addr) (aD : Addr) (h0 : Heap) (n0 : Nat) (Z0 : n0 ≤ h0.size) (P0 : Exa Z h0 a "java/util/ArrayList") (P1 : Fld Z h0 a "java/util/ArrayList" "elementData" "[Ljava/lang/Object;" .null) (P2 : Fld Z h0 a "java/util/ArrayList" "size" "I" (.int (0 : Int32))) (P3 : Fld Z h0 a "java/util/AbstractList" "modCount" "I" (.int (0 : Int32))) (P4 : Old Z n0 h0) (g_a : n0 ≤ a) (OD : Sta Z Z.heap "java/util/ArrayList" "DEFAULTCAPACITY_EMPTY_ELEMENTDATA" "[Ljava/lang/Object;" (.ref aD)) :
    MetFree l (⟨"java/util/ArrayList", "<init>", "()V"⟩ : MethodName) (head1 (Jvm.Cond.code (⟨"java/util/ArrayList", "<init>", "()V"⟩ : MethodName) jdk_38_method_2_code 1 none :: ws) ({ frames := 3, cells := 0, slots := 0, locals := 36 } : Room)) (fun aR U => aR = #[(.ref a)] ∧ Z.Warmed39 U.vm ∧ U.heap = h0) (fun _ _ _ _ _ => True) (fun _ U o U' => ∃ v L, o = .returned v ∧ Q_alN Z a aD h0 n0 v U'.heap L ∧ FrameEnd U o U' L ({ frames := 3, cells := 0, slots := 0, locals := 36 } : Room).cells ({ frames := 3, cells := 0, slots := 0, locals := 36 } : Room).slots) := by
  refine MetFree.of_bodySF (plainFor_of_name pn_10) hisR ?_
  intro p e s m args below meth c s₁ Bd hml0 hP hK
  obtain ⟨rfl, hZ, hh⟩ := hP
  have hx := Bd.exec
  have hby := Bd.bytes
  have hml : c.maxLocals = 1 := hml0
  have hown : s.vm.findClass "java/util/ArrayList" = some m.cls := findClass_of_methodNamed Bd.named
  have hnm := (name_of_methodNamed Bd.named Bd.method).1
  have X0 : Stand p l e ({ frames := 3, cells := 0, slots := 0, locals := 36 } : Room) s m #[(.ref a)] below meth c s₁ [] 0 0 := Stand.of_body Bd
  have e0 : s₁.heap = h0 := by rw [← hh, Bd.state]; rfl
  have N0 := Fr.nil n0
  show Goes p.tables e below _ _
  rw [ef_alN m a aD]
  refine Goes.named ?_
  intro QQ hQQ
  refine Goes.st (fun t k => XS.aloadN X0.here hx rfl (hb hby d8_0) rfl rfl k) ?_
  show Goes _ _ _ _ (s₁.setTop (mkF m 1 #[.val (.ref a)] [(.ref a)]))
  obtain ⟨_, _, ⟨T1, L1, k1, n1⟩, -, X1, ⟨Lc1, hQ1, l1, y1, z1⟩, st1⟩ := X0.specialBack hx (y := (⟨"java/util/AbstractList", "<init>", "()V"⟩ : MethodName)) rfl hown (mvT hZ (hw40 hw)) (mvT hZ (hw41 hw)) (mvT hZ (hw45 hw)) (by decide) (backOf (W := 0) (rm_alI l Z a0 hw [] a h0 n0 Z0 P0 P1 P2 P3 g_a) hZ (hw45 hw) (hw44 hw) (by decide) (by decide)) (g := (mkF m 1 #[.val (.ref a)] [(.ref a)])) rfl (by rw [hml]; rfl) (Steps.refl _) (a := a) (argsL := []) (rest := []) (lenOf pd_0 rfl) rfl (by show 2 * 0 + _ ≤ _; exact Nat.le_of_eq rfl) (hb hby d8_1) (fun _ _ => ⟨rfl, e0, (by decide : 0 + 0 ≤ _), (by decide : 0 + 0 ≤ _)⟩)
  dsimp only [Pt.U, Pt.locs, Pt.cells, Pt.slots] at X1 l1 y1 z1 st1 hQ1
  subst l1 y1 z1
  obtain ⟨rfl, N1q, K1, F1_0, F1_1, F1_2, F1_3⟩ := hQ1
  have N1 := Fr.app N0 N1q
  refine Goes.tr st1 ?_
  show Goes _ _ _ _ (T1.setTop (mkF m 4 #[.val (.ref a)] []))
  refine Goes.st (fun t k => XS.aloadN X1.here hx rfl (hb hby d8_4) rfl rfl k) ?_
  show Goes _ _ _ _ (T1.setTop (mkF m 5 #[.val (.ref a)] [(.ref a)]))
  have f2 : Old Z n0 T1.heap := (P4.keep K1 (allS g_a all0))
  obtain ⟨T3, X3, e3, st3⟩ := getS2 X1 hx hZ hown (host := "") (Or.inl (hw55 hw)) Via.refl rfl (OD.ext f2.2) (g := (mkF m 5 #[.val (.ref a)] [(.ref a)])) rfl (hb hby d8_5)
  refine Goes.st st3 ?_
  show Goes _ _ _ _ (T3.setTop (mkF m 8 #[.val (.ref a)] [(.ref aD), (.ref a)]))
  obtain ⟨T4, h4, X4, e4, W4, st4⟩ := putF X3 hx hZ hown (host := "") (Or.inl (hw56 hw)) Via.refl e3 F1_1 F1_0 (Or.inl (hw57 hw)) (hw35 hw) (ty := (.array (.object "java/lang/Object"))) (by decide) rfl rfl (g := (mkF m 8 #[.val (.ref a)] [(.ref aD), (.ref a)])) rfl rfl (hb hby d8_8)
  have N4 := Fr.snoc X4 N1 g_a
  have F4 := F1_1.same W4
  refine Goes.st st4 ?_
  show Goes _ _ _ _ (T4.setTop (mkF m 11 #[.val (.ref a)] []))
  have kp5 : Keep h0 T1.heap [a] := (Keep.refl h0 [a]).trans K1 (allS (Or.inl (List.mem_of_getElem? (i := 0) rfl)) all0)
  have kp6 : Keep h0 h4 [a] := kp5.wr W4 (Or.inl (List.mem_of_getElem? (i := 0) rfl))
  have f7 : Exa Z h4 a "java/util/ArrayList" := (F1_0.wr W4)
  have f8 : Fld Z h4 a "java/util/ArrayList" "size" "I" (.int (0 : Int32)) := (F1_2.other W4 (Or.inr (slot_ne (Or.inl (hw184 hw)) (Or.inl (hw57 hw)) (by decide) (t := .int) (t' := (.array (.object "java/lang/Object"))) (by decide) (by decide))))
  have f9 : Fld Z h4 a "java/util/AbstractList" "modCount" "I" (.int (0 : Int32)) := (F1_3.other W4 (Or.inr (slot_ne (Or.inl (hw54 hw)) (Or.inl (hw57 hw)) (by decide) (t := .int) (t' := (.array (.object "java/lang/Object"))) (by decide) (by decide))))
  obtain ⟨fs, hr, hrun, hended, hW, hsame⟩ := X4.leave (v := none) (fun _ => rfl)
  subst hQQ
  refine ⟨_, _, X4.returnOut hx Bd.returns (hb hby d8_11) hr, hrun, hended, _, _, rfl, ?_, ⟨_, rfl⟩, hW, hsame.mono (by decide) (by decide)⟩
  show Q_alN Z a aD h0 n0 _ T4.heap _
  rw [e4]
  exact ⟨rfl, N4, kp6, f7, F4, f8, f9⟩
theorem ef_alsz (m : MethodId) (a : Addr) (fi : Int32) : entryFrame m #[(.ref a)] 1 = (mkF m 0 #[.val (.ref a)] []) := by first | (simp [entryFrame, mkF, argsToLocals, Value.category]; done) | rfl
def Q_alsz (Z : State) (a : Addr) (fi : Int32) (h0 : Heap) (n0 : Nat) (v : Option Value) (h : Heap) (L : List Loc) : Prop := v = some (.int fi) ∧ Fr n0 L ∧ h = h0
set_option maxRecDepth 65536 in
set_option maxHeartbeats 40000000 in
theorem rm_alsz (l : Launch) (Z : State) (a0 : Array Value) (hw : ∀ d ∈ tables_1, d.before a0 Z = true) (ws : List Jvm.Cond) (a : Addr) (fi : Int32) (h0 : Heap) (n0 : Nat) (Z0 : n0 ≤ h0.size) (P0 : Fld Z h0 a "java/util/ArrayList" "size" "I" (.int fi)) :
    MetFree l (⟨"java/util/ArrayList", "size", "()I"⟩ : MethodName) (head1 (Jvm.Cond.code (⟨"java/util/ArrayList", "size", "()I"⟩ : MethodName) jdk_38_method_8_code 1 (some .int) :: ws) ({ frames := 0, cells := 0, slots := 0, locals := 0 } : Room)) (fun aR U => aR = #[(.ref a)] ∧ Z.Warmed39 U.vm ∧ U.heap = h0) (fun _ _ _ _ _ => True) (fun _ U o U' => ∃ v L, o = .returned v ∧ Q_alsz Z a fi h0 n0 v U'.heap L ∧ FrameEnd U o U' L ({ frames := 0, cells := 0, slots := 0, locals := 0 } : Room).cells ({ frames := 0, cells := 0, slots := 0, locals := 0 } : Room).slots) := by
  refine MetFree.of_bodySF (plainFor_of_name pn_10) hisR ?_
  intro p e s m args below meth c s₁ Bd hml0 hP hK
  obtain ⟨rfl, hZ, hh⟩ := hP
  have hx := Bd.exec
  have hby := Bd.bytes
  have hml : c.maxLocals = 1 := hml0
  have hown : s.vm.findClass "java/util/ArrayList" = some m.cls := findClass_of_methodNamed Bd.named
  have hnm := (name_of_methodNamed Bd.named Bd.method).1
  have X0 : Stand p l e ({ frames := 0, cells := 0, slots := 0, locals := 0 } : Room) s m #[(.ref a)] below meth c s₁ [] 0 0 := Stand.of_body Bd
  have e0 : s₁.heap = h0 := by rw [← hh, Bd.state]; rfl
  have N0 := Fr.nil n0
  show Goes p.tables e below _ _
  rw [ef_alsz m a fi]
  refine Goes.named ?_
  intro QQ hQQ
  refine Goes.st (fun t k => XS.aloadN X0.here hx rfl (hb hby d28_0) rfl rfl k) ?_
  show Goes _ _ _ _ (s₁.setTop (mkF m 1 #[.val (.ref a)] [(.ref a)]))
  obtain ⟨T1, X1, e1, st1⟩ := getF X0 hx hZ hown (host := "") (Or.inl (hw183 hw)) Via.refl e0 P0 (g := (mkF m 1 #[.val (.ref a)] [(.ref a)])) rfl rfl (hb hby d28_1)
  refine Goes.st st1 ?_
  show Goes _ _ _ _ (T1.setTop (mkF m 4 #[.val (.ref a)] [(.int fi)]))
  obtain ⟨fs, hr, hrun, hended, hW, hsame⟩ := X1.leave (v := some (.int fi)) (fun h => by rw [Bd.returns] at h; cases h)
  subst hQQ
  refine ⟨_, _, retI X1 hx Bd.returns (hb hby d28_4) hr, hrun, hended, _, _, rfl, ?_, ⟨_, rfl⟩, hW, hsame.mono (by decide) (by decide)⟩
  show Q_alsz Z a fi h0 n0 _ T1.heap _
  rw [e1]
  exact ⟨rfl, N0, rfl⟩
theorem ef_max10 (m : MethodId)  : entryFrame m #[(.int (10 : Int32)), (.int (1 : Int32))] 2 = (mkF m 0 #[.val (.int (10 : Int32)), .val (.int (1 : Int32))] []) := by first | (simp [entryFrame, mkF, argsToLocals, Value.category]; done) | rfl
def Q_max10 (Z : State)  (h0 : Heap) (n0 : Nat) (v : Option Value) (h : Heap) (L : List Loc) : Prop := v = some (.int (10 : Int32)) ∧ Fr n0 L ∧ h = h0
set_option maxRecDepth 65536 in
set_option maxHeartbeats 40000000 in
theorem rm_max10 (l : Launch) (Z : State) (a0 : Array Value) (hw : ∀ d ∈ tables_1, d.before a0 Z = true) (ws : List Jvm.Cond)  (h0 : Heap) (n0 : Nat) (Z0 : n0 ≤ h0.size) :
    MetFree l (⟨"java/lang/Math", "max", "(II)I"⟩ : MethodName) (head1 (Jvm.Cond.code (⟨"java/lang/Math", "max", "(II)I"⟩ : MethodName) jdk_29_method_65_code 2 (some .int) :: ws) ({ frames := 0, cells := 0, slots := 0, locals := 0 } : Room)) (fun aR U => aR = #[(.int (10 : Int32)), (.int (1 : Int32))] ∧ Z.Warmed39 U.vm ∧ U.heap = h0) (fun _ _ _ _ _ => True) (fun _ U o U' => ∃ v L, o = .returned v ∧ Q_max10 Z  h0 n0 v U'.heap L ∧ FrameEnd U o U' L ({ frames := 0, cells := 0, slots := 0, locals := 0 } : Room).cells ({ frames := 0, cells := 0, slots := 0, locals := 0 } : Room).slots) := by
  refine MetFree.of_bodySF pn_11 hisR ?_
  intro p e s m args below meth c s₁ Bd hml0 hP hK
  obtain ⟨rfl, hZ, hh⟩ := hP
  have hx := Bd.exec
  have hby := Bd.bytes
  have hml : c.maxLocals = 2 := hml0
  have hown : s.vm.findClass "java/lang/Math" = some m.cls := findClass_of_methodNamed Bd.named
  have hnm := (name_of_methodNamed Bd.named Bd.method).1
  have X0 : Stand p l e ({ frames := 0, cells := 0, slots := 0, locals := 0 } : Room) s m #[(.int (10 : Int32)), (.int (1 : Int32))] below meth c s₁ [] 0 0 := Stand.of_body Bd
  have e0 : s₁.heap = h0 := by rw [← hh, Bd.state]; rfl
  have N0 := Fr.nil n0
  show Goes p.tables e below _ _
  rw [ef_max10 m ]
  refine Goes.named ?_
  intro QQ hQQ
  refine Goes.st (fun t k => XS.iloadN X0.here hx rfl (hb hby d33_0) rfl k) ?_
  show Goes _ _ _ _ (s₁.setTop (mkF m 1 #[.val (.int (10 : Int32)), .val (.int (1 : Int32))] [(.int (10 : Int32))]))
  refine Goes.st (fun t k => XS.iloadN X0.here hx rfl (hb hby d33_1) rfl k) ?_
  show Goes _ _ _ _ (s₁.setTop (mkF m 2 #[.val (.int (10 : Int32)), .val (.int (1 : Int32))] [(.int (1 : Int32)), (.int (10 : Int32))]))
  refine Goes.st (fun t k => XS.icmpNo X0.here hx rfl (hb hby d33_2) rfl (flt (by decide : ¬ ((10 : Int32) < (1 : Int32)))).1 k) ?_
  show Goes _ _ _ _ (s₁.setTop (mkF m 5 #[.val (.int (10 : Int32)), .val (.int (1 : Int32))] []))
  refine Goes.st (fun t k => XS.iloadN X0.here hx rfl (hb hby d33_5) rfl k) ?_
  show Goes _ _ _ _ (s₁.setTop (mkF m 6 #[.val (.int (10 : Int32)), .val (.int (1 : Int32))] [(.int (10 : Int32))]))
  refine Goes.st (fun t k => XS.goto X0.here hx rfl (pc0 := 6) (pc' := 10) rfl (hb hby d33_6) (by decide) (by decide) k) ?_
  show Goes _ _ _ _ (s₁.setTop (mkF m 10 #[.val (.int (10 : Int32)), .val (.int (1 : Int32))] [(.int (10 : Int32))]))
  obtain ⟨fs, hr, hrun, hended, hW, hsame⟩ := X0.leave (v := some (.int (10 : Int32))) (fun h => by rw [Bd.returns] at h; cases h)
  subst hQQ
  refine ⟨_, _, retI X0 hx Bd.returns (hb hby d33_10) hr, hrun, hended, _, _, rfl, ?_, ⟨_, rfl⟩, hW, hsame.mono (by decide) (by decide)⟩
  show Q_max10 Z  h0 n0 _ s₁.heap _
  rw [e0]
  exact ⟨rfl, N0, rfl⟩
theorem ef_grI (m : MethodId) (a : Addr) (mc : Int32) (aD : Addr) (kD : ClassId) : entryFrame m #[(.ref a), (.int (1 : Int32))] 4 = (mkF m 0 #[.val (.ref a), .val (.int (1 : Int32)), .unset, .unset] []) := by first | (simp [entryFrame, mkF, argsToLocals, Value.category]; done) | rfl
def Q_grI (Z : State) (a : Addr) (mc : Int32) (aD : Addr) (kD : ClassId) (h0 : Heap) (n0 : Nat) (v : Option Value) (h : Heap) (L : List Loc) : Prop := ∃ (ar : Addr) (kA : ClassId), v = some (.ref ar) ∧ Fr n0 L ∧ Keep h0 h [a] ∧ Exa Z h a "java/util/ArrayList" ∧ Fld Z h a "java/util/ArrayList" "elementData" "[Ljava/lang/Object;" (.ref ar) ∧ Fld Z h a "java/util/ArrayList" "size" "I" (.int (0 : Int32)) ∧ Fld Z h a "java/util/AbstractList" "modCount" "I" (.int mc) ∧ Arv Z h ar kA (.object "java/lang/Object") (10 : Int32) [.null, .null, .null, .null, .null, .null, .null, .null, .null, .null] .null ∧ h0.size ≤ ar ∧ (Ovr Z kA "java/lang/Object")
set_option maxRecDepth 65536 in
set_option maxHeartbeats 40000000 in
theorem rm_grI (l : Launch) (Z : State) (a0 : Array Value) (hw : ∀ d ∈ tables_1, d.before a0 Z = true) (ws : List Jvm.Cond) (a : Addr) (mc : Int32) (aD : Addr) (kD : ClassId) (h0 : Heap) (n0 : Nat) (Z0 : n0 ≤ h0.size) (P0 : Exa Z h0 a "java/util/ArrayList") (P1 : Fld Z h0 a "java/util/ArrayList" "elementData" "[Ljava/lang/Object;" (.ref aD)) (P2 : Fld Z h0 a "java/util/ArrayList" "size" "I" (.int (0 : Int32))) (P3 : Fld Z h0 a "java/util/AbstractList" "modCount" "I" (.int mc)) (P4 : Arv Z h0 aD kD (.object "java/lang/Object") (0 : Int32) [] .null) (P5 : Old Z n0 h0) (g_a : n0 ≤ a) (OD : Sta Z Z.heap "java/util/ArrayList" "DEFAULTCAPACITY_EMPTY_ELEMENTDATA" "[Ljava/lang/Object;" (.ref aD)) :
    MetFree l (⟨"java/util/ArrayList", "grow", "(I)[Ljava/lang/Object;"⟩ : MethodName) (head1 (Jvm.Cond.code (⟨"java/util/ArrayList", "grow", "(I)[Ljava/lang/Object;"⟩ : MethodName) jdk_38_method_6_code 4 (some (.array (.object "java/lang/Object"))) :: ws) ({ frames := 1, cells := 1, slots := 10, locals := 16 } : Room)) (fun aR U => aR = #[(.ref a), (.int (1 : Int32))] ∧ Z.Warmed39 U.vm ∧ U.heap = h0) (fun _ _ _ _ _ => True) (fun _ U o U' => ∃ v L, o = .returned v ∧ Q_grI Z a mc aD kD h0 n0 v U'.heap L ∧ FrameEnd U o U' L ({ frames := 1, cells := 1, slots := 10, locals := 16 } : Room).cells ({ frames := 1, cells := 1, slots := 10, locals := 16 } : Room).slots) := by
  refine MetFree.of_bodySF (plainFor_of_name pn_10) hisR ?_
  intro p e s m args below meth c s₁ Bd hml0 hP hK
  obtain ⟨rfl, hZ, hh⟩ := hP
  have hx := Bd.exec
  have hby := Bd.bytes
  have hml : c.maxLocals = 4 := hml0
  have hown : s.vm.findClass "java/util/ArrayList" = some m.cls := findClass_of_methodNamed Bd.named
  have hnm := (name_of_methodNamed Bd.named Bd.method).1
  have X0 : Stand p l e ({ frames := 1, cells := 1, slots := 10, locals := 16 } : Room) s m #[(.ref a), (.int (1 : Int32))] below meth c s₁ [] 0 0 := Stand.of_body Bd
  have e0 : s₁.heap = h0 := by rw [← hh, Bd.state]; rfl
  have N0 := Fr.nil n0
  show Goes p.tables e below _ _
  rw [ef_grI m a mc aD kD]
  refine Goes.named ?_
  intro QQ hQQ
  refine Goes.st (fun t k => XS.aloadN X0.here hx rfl (hb hby d32_0) rfl rfl k) ?_
  show Goes _ _ _ _ (s₁.setTop (mkF m 1 #[.val (.ref a), .val (.int (1 : Int32)), .unset, .unset] [(.ref a)]))
  obtain ⟨T1, X1, e1, st1⟩ := getF X0 hx hZ hown (host := "") (Or.inl (hw56 hw)) Via.refl e0 P1 (g := (mkF m 1 #[.val (.ref a), .val (.int (1 : Int32)), .unset, .unset] [(.ref a)])) rfl rfl (hb hby d32_1)
  refine Goes.st st1 ?_
  show Goes _ _ _ _ (T1.setTop (mkF m 4 #[.val (.ref a), .val (.int (1 : Int32)), .unset, .unset] [(.ref aD)]))
  obtain ⟨oc2, oA2, oq2, oS2, oM2, oH2, oG2⟩ := id P4
  refine Goes.st (fun t k => X1.arraylength hx (by rw [e1]; exact oA2.1) (State.isArrayOf_alike hZ.alike oA2.2.1) (g := (mkF m 4 #[.val (.ref a), .val (.int (1 : Int32)), .unset, .unset] [(.ref aD)])) rfl rfl (hb hby d32_4) _ k) ?_
  rw [len_of oS2 oM2]
  show Goes _ _ _ _ (T1.setTop (mkF m 5 #[.val (.ref a), .val (.int (1 : Int32)), .unset, .unset] [(.int (0 : Int32))]))
  refine Goes.st (fun t k => XS.istoreN X1.here hx rfl (hb hby d32_5) rfl (l' := #[.val (.ref a), .val (.int (1 : Int32)), .val (.int (0 : Int32)), .unset]) rfl k) ?_
  show Goes _ _ _ _ (T1.setTop (mkF m 6 #[.val (.ref a), .val (.int (1 : Int32)), .val (.int (0 : Int32)), .unset] []))
  refine Goes.st (fun t k => XS.iloadN X1.here hx rfl (hb hby d32_6) rfl k) ?_
  show Goes _ _ _ _ (T1.setTop (mkF m 7 #[.val (.ref a), .val (.int (1 : Int32)), .val (.int (0 : Int32)), .unset] [(.int (0 : Int32))]))
  refine Goes.st (fun t k => XS.ifNo X1.here hx rfl (hb hby d32_7) rfl ((if0 _ _).trans (flt (by decide : ¬ ((0 : Int32) < (0 : Int32)))).2.2.1) k) ?_
  show Goes _ _ _ _ (T1.setTop (mkF m 10 #[.val (.ref a), .val (.int (1 : Int32)), .val (.int (0 : Int32)), .unset] []))
  refine Goes.st (fun t k => XS.aloadN X1.here hx rfl (hb hby d32_10) rfl rfl k) ?_
  show Goes _ _ _ _ (T1.setTop (mkF m 11 #[.val (.ref a), .val (.int (1 : Int32)), .val (.int (0 : Int32)), .unset] [(.ref a)]))
  obtain ⟨T3, X3, e3, st3⟩ := getF X1 hx hZ hown (host := "") (Or.inl (hw56 hw)) Via.refl e1 P1 (g := (mkF m 11 #[.val (.ref a), .val (.int (1 : Int32)), .val (.int (0 : Int32)), .unset] [(.ref a)])) rfl rfl (hb hby d32_11)
  refine Goes.st st3 ?_
  show Goes _ _ _ _ (T3.setTop (mkF m 14 #[.val (.ref a), .val (.int (1 : Int32)), .val (.int (0 : Int32)), .unset] [(.ref aD)]))
  obtain ⟨T4, X4, e4, st4⟩ := getS2 X3 hx hZ hown (host := "") (Or.inl (hw55 hw)) Via.refl e3 (OD.ext P5.2) (g := (mkF m 14 #[.val (.ref a), .val (.int (1 : Int32)), .val (.int (0 : Int32)), .unset] [(.ref aD)])) rfl (hb hby d32_14)
  refine Goes.st st4 ?_
  show Goes _ _ _ _ (T4.setTop (mkF m 17 #[.val (.ref a), .val (.int (1 : Int32)), .val (.int (0 : Int32)), .unset] [(.ref aD), (.ref aD)]))
  refine Goes.st (fun t k => Jvm.RoadKit.acmp (g := (mkF m 17 #[.val (.ref a), .val (.int (1 : Int32)), .val (.int (0 : Int32)), .unset] [(.ref aD), (.ref aD)])) X4 hx rfl rfl rfl (pc0 := 17) (pc' := 45) (same := true) rfl (hb hby d32_17) rfl (decide_eq_true rfl) (by decide) (by decide) k) ?_
  show Goes _ _ _ _ (T4.setTop (mkF m 45 #[.val (.ref a), .val (.int (1 : Int32)), .val (.int (0 : Int32)), .unset] []))
  refine Goes.st (fun t k => XS.aloadN X4.here hx rfl (hb hby d32_45) rfl rfl k) ?_
  show Goes _ _ _ _ (T4.setTop (mkF m 46 #[.val (.ref a), .val (.int (1 : Int32)), .val (.int (0 : Int32)), .unset] [(.ref a)]))
  refine Goes.st (fun t k => XS.bipush X4.here hx rfl (hb hby d32_46) k) ?_
  show Goes _ _ _ _ (T4.setTop (mkF m 48 #[.val (.ref a), .val (.int (1 : Int32)), .val (.int (0 : Int32)), .unset] [(.int (10 : Int32)), (.ref a)]))
  refine Goes.st (fun t k => XS.iloadN X4.here hx rfl (hb hby d32_48) rfl k) ?_
  show Goes _ _ _ _ (T4.setTop (mkF m 49 #[.val (.ref a), .val (.int (1 : Int32)), .val (.int (0 : Int32)), .unset] [(.int (1 : Int32)), (.int (10 : Int32)), (.ref a)]))
  obtain ⟨_, _, ⟨T5, L5, k5, n5⟩, -, X5, ⟨Lc5, hQ5, l5, y5, z5⟩, st5⟩ := Jvm.LawKit.callS X4 hx (y := (⟨"java/lang/Math", "max", "(II)I"⟩ : MethodName)) hown (mvT hZ (hw207 hw)) (mvT hZ (hw208 hw)) (mvT hZ (hw209 hw)) (mvT hZ (hw210 hw)) (by decide) (backOf (W := 1) (rm_max10 l Z a0 hw []  h0 n0 Z0 ) hZ (hw210 hw) (hw209 hw) (by decide) (by decide)) (g := (mkF m 49 #[.val (.ref a), .val (.int (1 : Int32)), .val (.int (0 : Int32)), .unset] [(.int (1 : Int32)), (.int (10 : Int32)), (.ref a)])) rfl (by rw [hml]; rfl) (argsL := [(.int (10 : Int32)), (.int (1 : Int32))]) (rest := [(.ref a)]) (lenOf pd_6 rfl) rfl (by show 2 * 0 + _ ≤ _; exact Nat.le_of_eq rfl) (hb hby d32_49) (fun _ _ => ⟨rfl, e4, (by decide : 0 + 0 ≤ _), (by decide : 0 + 0 ≤ _)⟩)
  dsimp only [Pt.U, Pt.locs, Pt.cells, Pt.slots] at X5 l5 y5 z5 st5 hQ5
  subst l5 y5 z5
  obtain ⟨rfl, N5q, K5⟩ := hQ5
  have N5 := Fr.app N0 N5q
  refine Goes.st st5 ?_
  show Goes _ _ _ _ (T5.setTop (mkF m 52 #[.val (.ref a), .val (.int (1 : Int32)), .val (.int (0 : Int32)), .unset] [(.int (10 : Int32)), (.ref a)]))
  obtain ⟨T6, h6, k6, X6, e6, E6, A6, O6, st6⟩ := newR X5 hx hZ hown (hw211 hw) (hw212 hw) K5 (g := (mkF m 52 #[.val (.ref a), .val (.int (1 : Int32)), .val (.int (0 : Int32)), .unset] [(.int (10 : Int32)), (.ref a)])) rfl (hb hby d32_52) rfl (by decide) (cap := 10) (by decide) (by decide) (by decide) (by decide)
  obtain ⟨b6, g6⟩ : ∃ z, z = h0.size := ⟨_, rfl⟩
  rw [← g6] at A6 st6
  have V6 : Arv Z h6 b6 k6 (.object "java/lang/Object") (10 : Int32) [.null, .null, .null, .null, .null, .null, .null, .null, .null, .null] .null := (Arv.new A6 (by decide)).pad (pad_rep [] .null 10)
  refine Goes.st st6 ?_
  show Goes _ _ _ _ (T6.setTop (mkF m 55 #[.val (.ref a), .val (.int (1 : Int32)), .val (.int (0 : Int32)), .unset] [(.ref b6), (.ref a)]))
  refine Goes.st (fun t k => XS.dupX1 X6.here hx rfl (hb hby d32_55) rfl rfl rfl k) ?_
  show Goes _ _ _ _ (T6.setTop (mkF m 56 #[.val (.ref a), .val (.int (1 : Int32)), .val (.int (0 : Int32)), .unset] [(.ref b6), (.ref a), (.ref b6)]))
  have f7 : Exa Z h6 a "java/util/ArrayList" := (P0.ext E6)
  have f8 : Fld Z h6 a "java/util/ArrayList" "elementData" "[Ljava/lang/Object;" (.ref aD) := (P1.ext E6)
  obtain ⟨T9, h9, X9, e9, W9, st9⟩ := putF X6 hx hZ hown (host := "") (Or.inl (hw56 hw)) Via.refl e6 f8 f7 (Or.inl (hw57 hw)) (hw35 hw) (ty := (.array (.object "java/lang/Object"))) (by decide) rfl rfl (g := (mkF m 56 #[.val (.ref a), .val (.int (1 : Int32)), .val (.int (0 : Int32)), .unset] [(.ref b6), (.ref a), (.ref b6)])) rfl rfl (hb hby d32_56)
  have N9 := Fr.snoc X9 N5 g_a
  have F9 := f8.same W9
  refine Goes.st st9 ?_
  show Goes _ _ _ _ (T9.setTop (mkF m 59 #[.val (.ref a), .val (.int (1 : Int32)), .val (.int (0 : Int32)), .unset] [(.ref b6)]))
  have kp10 : Keep h0 h6 [a] := (Keep.refl h0 [a]).ext E6
  have kp11 : Keep h0 h9 [a] := kp10.wr W9 (Or.inl (List.mem_of_getElem? (i := 0) rfl))
  have f12 : Exa Z h9 a "java/util/ArrayList" := (f7.wr W9)
  have f13 : Fld Z h9 a "java/util/ArrayList" "size" "I" (.int (0 : Int32)) := ((P2.ext E6).other W9 (Or.inr (slot_ne (Or.inl (hw184 hw)) (Or.inl (hw57 hw)) (by decide) (t := .int) (t' := (.array (.object "java/lang/Object"))) (by decide) (by decide))))
  have f14 : Fld Z h9 a "java/util/AbstractList" "modCount" "I" (.int mc) := ((P3.ext E6).other W9 (Or.inr (slot_ne (Or.inl (hw54 hw)) (Or.inl (hw57 hw)) (by decide) (t := .int) (t' := (.array (.object "java/lang/Object"))) (by decide) (by decide))))
  have f15 : Arv Z h9 b6 k6 (.object "java/lang/Object") (10 : Int32) [.null, .null, .null, .null, .null, .null, .null, .null, .null, .null] .null := (V6.other W9 (Ne.symm (Nat.ne_of_lt (Nat.lt_of_lt_of_le P0.lt (Nat.le_of_eq g6.symm)))))
  obtain ⟨fs, hr, hrun, hended, hW, hsame⟩ := X9.leave (v := some (.ref b6)) (fun h => by rw [Bd.returns] at h; cases h)
  subst hQQ
  refine ⟨_, _, retR X9 hx Bd.returns rfl rfl (hb hby d32_59) hr, hrun, hended, _, _, rfl, ?_, ⟨_, rfl⟩, hW, hsame.mono (by decide) (by decide)⟩
  show Q_grI Z a mc aD kD h0 n0 _ T9.heap _
  rw [e9]
  exact ⟨b6, k6, rfl, N9, kp11, f12, F9, f13, f14, f15, (Nat.le_of_eq g6.symm), O6⟩
theorem ef_gr0 (m : MethodId) (a : Addr) (mc : Int32) (aD : Addr) (kD : ClassId) : entryFrame m #[(.ref a)] 1 = (mkF m 0 #[.val (.ref a)] []) := by first | (simp [entryFrame, mkF, argsToLocals, Value.category]; done) | rfl
def Q_gr0 (Z : State) (a : Addr) (mc : Int32) (aD : Addr) (kD : ClassId) (h0 : Heap) (n0 : Nat) (v : Option Value) (h : Heap) (L : List Loc) : Prop := ∃ (ar : Addr) (kA : ClassId), v = some (.ref ar) ∧ Fr n0 L ∧ Keep h0 h [a] ∧ Exa Z h a "java/util/ArrayList" ∧ Fld Z h a "java/util/ArrayList" "elementData" "[Ljava/lang/Object;" (.ref ar) ∧ Fld Z h a "java/util/ArrayList" "size" "I" (.int (0 : Int32)) ∧ Fld Z h a "java/util/AbstractList" "modCount" "I" (.int mc) ∧ Arv Z h ar kA (.object "java/lang/Object") (10 : Int32) [.null, .null, .null, .null, .null, .null, .null, .null, .null, .null] .null ∧ h0.size ≤ ar ∧ (Ovr Z kA "java/lang/Object")
set_option maxRecDepth 65536 in
set_option maxHeartbeats 40000000 in
theorem rm_gr0 (l : Launch) (Z : State) (a0 : Array Value) (hw : ∀ d ∈ tables_1, d.before a0 Z = true) (ws : List Jvm.Cond) (a : Addr) (mc : Int32) (aD : Addr) (kD : ClassId) (h0 : Heap) (n0 : Nat) (Z0 : n0 ≤ h0.size) (P0 : Exa Z h0 a "java/util/ArrayList") (P1 : Fld Z h0 a "java/util/ArrayList" "elementData" "[Ljava/lang/Object;" (.ref aD)) (P2 : Fld Z h0 a "java/util/ArrayList" "size" "I" (.int (0 : Int32))) (P3 : Fld Z h0 a "java/util/AbstractList" "modCount" "I" (.int mc)) (P4 : Arv Z h0 aD kD (.object "java/lang/Object") (0 : Int32) [] .null) (P5 : Old Z n0 h0) (g_a : n0 ≤ a) (OD : Sta Z Z.heap "java/util/ArrayList" "DEFAULTCAPACITY_EMPTY_ELEMENTDATA" "[Ljava/lang/Object;" (.ref aD)) :
    MetFree l (⟨"java/util/ArrayList", "grow", "()[Ljava/lang/Object;"⟩ : MethodName) (head1 (Jvm.Cond.code (⟨"java/util/ArrayList", "grow", "()[Ljava/lang/Object;"⟩ : MethodName) jdk_38_method_7_code 1 (some (.array (.object "java/lang/Object"))) :: ws) ({ frames := 2, cells := 1, slots := 10, locals := 31 } : Room)) (fun aR U => aR = #[(.ref a)] ∧ Z.Warmed39 U.vm ∧ U.heap = h0) (fun _ _ _ _ _ => True) (fun _ U o U' => ∃ v L, o = .returned v ∧ Q_gr0 Z a mc aD kD h0 n0 v U'.heap L ∧ FrameEnd U o U' L ({ frames := 2, cells := 1, slots := 10, locals := 31 } : Room).cells ({ frames := 2, cells := 1, slots := 10, locals := 31 } : Room).slots) := by
  refine MetFree.of_bodySF (plainFor_of_name pn_10) hisR ?_
  intro p e s m args below meth c s₁ Bd hml0 hP hK
  obtain ⟨rfl, hZ, hh⟩ := hP
  have hx := Bd.exec
  have hby := Bd.bytes
  have hml : c.maxLocals = 1 := hml0
  have hown : s.vm.findClass "java/util/ArrayList" = some m.cls := findClass_of_methodNamed Bd.named
  have hnm := (name_of_methodNamed Bd.named Bd.method).1
  have X0 : Stand p l e ({ frames := 2, cells := 1, slots := 10, locals := 31 } : Room) s m #[(.ref a)] below meth c s₁ [] 0 0 := Stand.of_body Bd
  have e0 : s₁.heap = h0 := by rw [← hh, Bd.state]; rfl
  have N0 := Fr.nil n0
  show Goes p.tables e below _ _
  rw [ef_gr0 m a mc aD kD]
  refine Goes.named ?_
  intro QQ hQQ
  refine Goes.st (fun t k => XS.aloadN X0.here hx rfl (hb hby d31_0) rfl rfl k) ?_
  show Goes _ _ _ _ (s₁.setTop (mkF m 1 #[.val (.ref a)] [(.ref a)]))
  refine Goes.st (fun t k => XS.aloadN X0.here hx rfl (hb hby d31_1) rfl rfl k) ?_
  show Goes _ _ _ _ (s₁.setTop (mkF m 2 #[.val (.ref a)] [(.ref a), (.ref a)]))
  obtain ⟨T1, X1, e1, st1⟩ := getF X0 hx hZ hown (host := "") (Or.inl (hw183 hw)) Via.refl e0 P2 (g := (mkF m 2 #[.val (.ref a)] [(.ref a), (.ref a)])) rfl rfl (hb hby d31_2)
  refine Goes.st st1 ?_
  show Goes _ _ _ _ (T1.setTop (mkF m 5 #[.val (.ref a)] [(.int (0 : Int32)), (.ref a)]))
  refine Goes.st (fun t k => XS.iconst X1.here hx rfl (hb hby d31_5) k) ?_
  show Goes _ _ _ _ (T1.setTop (mkF m 6 #[.val (.ref a)] [(.int (1 : Int32)), (.int (0 : Int32)), (.ref a)]))
  refine Goes.st (fun t k => XS.iadd X1.here hx rfl (hb hby d31_6) rfl k) ?_
  show Goes _ _ _ _ (T1.setTop (mkF m 7 #[.val (.ref a)] [(.int (1 : Int32)), (.ref a)]))
  obtain ⟨cq2, q2, q2'⟩ := P0.cell
  obtain ⟨_, _, ⟨T2, L2, k2, n2⟩, -, X2, ⟨Lc2, hQ2, l2, y2, z2⟩, st2⟩ := X1.privateBack hx (y := (⟨"java/util/ArrayList", "grow", "(I)[Ljava/lang/Object;"⟩ : MethodName)) hown (mvT hZ (hw202 hw)) (mvT hZ (hw203 hw)) (mvT hZ (hw205 hw)) (Cond.privateMethod_at (mvP hZ (hw204 hw) (args := #[]))) (mvT hZ (hw206 hw)) (by decide) (backOf (W := 0) (rm_grI l Z a0 hw [] a mc aD kD h0 n0 Z0 P0 P1 P2 P3 P4 P5 g_a OD) hZ (hw206 hw) (hw36 hw) (by decide) (by decide)) (g := (mkF m 7 #[.val (.ref a)] [(.int (1 : Int32)), (.ref a)])) rfl (by rw [hml]; rfl) (Steps.refl _) (a := a) (by rw [e1]; exact q2) q2' (argsL := [(.int (1 : Int32))]) (rest := []) (lenOf pd_7 rfl) rfl (by show 2 * 0 + _ ≤ _; exact Nat.le_of_eq rfl) (hb hby d31_7) (fun _ _ => ⟨rfl, e1, (by decide : 0 + 1 ≤ _), (by decide : 0 + 10 ≤ _)⟩)
  dsimp only [Pt.U, Pt.locs, Pt.cells, Pt.slots] at X2 l2 y2 z2 st2 hQ2
  subst l2 y2 z2
  obtain ⟨ar2, kA2, rfl, N2q, K2, F2_0, F2_1, F2_2, F2_3, F2_4, lo2_0, ov_2⟩ := hQ2
  have N2 := Fr.app N0 N2q
  refine Goes.tr st2 ?_
  show Goes _ _ _ _ (T2.setTop (mkF m 10 #[.val (.ref a)] [(.ref ar2)]))
  have kp3 : Keep h0 T2.heap [a] := (Keep.refl h0 [a]).trans K2 (allS (Or.inl (List.mem_of_getElem? (i := 0) rfl)) all0)
  obtain ⟨fs, hr, hrun, hended, hW, hsame⟩ := X2.leave (v := some (.ref ar2)) (fun h => by rw [Bd.returns] at h; cases h)
  subst hQQ
  refine ⟨_, _, retR X2 hx Bd.returns rfl rfl (hb hby d31_10) hr, hrun, hended, _, _, rfl, ?_, ⟨_, rfl⟩, hW, hsame.mono (by decide) (by decide)⟩
  show Q_gr0 Z a mc aD kD h0 n0 _ T2.heap _
  exact ⟨ar2, kA2, rfl, N2, kp3, F2_0, F2_1, F2_2, F2_3, F2_4, lo2_0, ov_2⟩
theorem ef_adH1 (m : MethodId) (a : Addr) (b : Addr) (mc : Int32) (aD : Addr) (kD : ClassId) : entryFrame m #[(.ref a), (.ref b), (.ref aD), (.int (0 : Int32))] 4 = (mkF m 0 #[.val (.ref a), .val (.ref b), .val (.ref aD), .val (.int (0 : Int32))] []) := by first | (simp [entryFrame, mkF, argsToLocals, Value.category]; done) | rfl
def Q_adH1 (Z : State) (a : Addr) (b : Addr) (mc : Int32) (aD : Addr) (kD : ClassId) (h0 : Heap) (n0 : Nat) (v : Option Value) (h : Heap) (L : List Loc) : Prop := ∃ (ar : Addr) (kA : ClassId), v = none ∧ Fr n0 L ∧ Keep h0 h [a] ∧ Exa Z h a "java/util/ArrayList" ∧ Fld Z h a "java/util/ArrayList" "elementData" "[Ljava/lang/Object;" (.ref ar) ∧ Fld Z h a "java/util/ArrayList" "size" "I" (.int (1 : Int32)) ∧ Fld Z h a "java/util/AbstractList" "modCount" "I" (.int mc) ∧ Arv Z h ar kA (.object "java/lang/Object") (10 : Int32) [(.ref b), .null, .null, .null, .null, .null, .null, .null, .null, .null] .null ∧ h0.size ≤ ar ∧ (Ovr Z kA "java/lang/Object")
set_option maxRecDepth 65536 in
set_option maxHeartbeats 40000000 in
theorem rm_adH1 (l : Launch) (Z : State) (a0 : Array Value) (hw : ∀ d ∈ tables_1, d.before a0 Z = true) (ws : List Jvm.Cond) (a : Addr) (b : Addr) (mc : Int32) (aD : Addr) (kD : ClassId) (h0 : Heap) (n0 : Nat) (Z0 : n0 ≤ h0.size) (P0 : Exa Z h0 a "java/util/ArrayList") (P1 : Fld Z h0 a "java/util/ArrayList" "elementData" "[Ljava/lang/Object;" (.ref aD)) (P2 : Fld Z h0 a "java/util/ArrayList" "size" "I" (.int (0 : Int32))) (P3 : Fld Z h0 a "java/util/AbstractList" "modCount" "I" (.int mc)) (P4 : Arv Z h0 aD kD (.object "java/lang/Object") (0 : Int32) [] .null) (P5 : Exa Z h0 b "java/lang/String") (P6 : Old Z n0 h0) (g_a : n0 ≤ a) (OD : Sta Z Z.heap "java/util/ArrayList" "DEFAULTCAPACITY_EMPTY_ELEMENTDATA" "[Ljava/lang/Object;" (.ref aD)) :
    MetFree l (⟨"java/util/ArrayList", "add", "(Ljava/lang/Object;[Ljava/lang/Object;I)V"⟩ : MethodName) (head1 (Jvm.Cond.code (⟨"java/util/ArrayList", "add", "(Ljava/lang/Object;[Ljava/lang/Object;I)V"⟩ : MethodName) jdk_38_method_24_code 4 none :: ws) ({ frames := 3, cells := 1, slots := 10, locals := 43 } : Room)) (fun aR U => aR = #[(.ref a), (.ref b), (.ref aD), (.int (0 : Int32))] ∧ Z.Warmed39 U.vm ∧ U.heap = h0) (fun _ _ _ _ _ => True) (fun _ U o U' => ∃ v L, o = .returned v ∧ Q_adH1 Z a b mc aD kD h0 n0 v U'.heap L ∧ FrameEnd U o U' L ({ frames := 3, cells := 1, slots := 10, locals := 43 } : Room).cells ({ frames := 3, cells := 1, slots := 10, locals := 43 } : Room).slots) := by
  refine MetFree.of_bodySF (plainFor_of_name pn_10) hisR ?_
  intro p e s m args below meth c s₁ Bd hml0 hP hK
  obtain ⟨rfl, hZ, hh⟩ := hP
  have hx := Bd.exec
  have hby := Bd.bytes
  have hml : c.maxLocals = 4 := hml0
  have hown : s.vm.findClass "java/util/ArrayList" = some m.cls := findClass_of_methodNamed Bd.named
  have hnm := (name_of_methodNamed Bd.named Bd.method).1
  have X0 : Stand p l e ({ frames := 3, cells := 1, slots := 10, locals := 43 } : Room) s m #[(.ref a), (.ref b), (.ref aD), (.int (0 : Int32))] below meth c s₁ [] 0 0 := Stand.of_body Bd
  have e0 : s₁.heap = h0 := by rw [← hh, Bd.state]; rfl
  have N0 := Fr.nil n0
  show Goes p.tables e below _ _
  rw [ef_adH1 m a b mc aD kD]
  refine Goes.named ?_
  intro QQ hQQ
  refine Goes.st (fun t k => XS.iloadN X0.here hx rfl (hb hby d30_0) rfl k) ?_
  show Goes _ _ _ _ (s₁.setTop (mkF m 1 #[.val (.ref a), .val (.ref b), .val (.ref aD), .val (.int (0 : Int32))] [(.int (0 : Int32))]))
  refine Goes.st (fun t k => XS.aloadN X0.here hx rfl (hb hby d30_1) rfl rfl k) ?_
  show Goes _ _ _ _ (s₁.setTop (mkF m 2 #[.val (.ref a), .val (.ref b), .val (.ref aD), .val (.int (0 : Int32))] [(.ref aD), (.int (0 : Int32))]))
  obtain ⟨oc1, oA1, oq1, oS1, oM1, oH1, oG1⟩ := id P4
  refine Goes.st (fun t k => X0.arraylength hx (by rw [e0]; exact oA1.1) (State.isArrayOf_alike hZ.alike oA1.2.1) (g := (mkF m 2 #[.val (.ref a), .val (.ref b), .val (.ref aD), .val (.int (0 : Int32))] [(.ref aD), (.int (0 : Int32))])) rfl rfl (hb hby d30_2) _ k) ?_
  rw [len_of oS1 oM1]
  show Goes _ _ _ _ (s₁.setTop (mkF m 3 #[.val (.ref a), .val (.ref b), .val (.ref aD), .val (.int (0 : Int32))] [(.int (0 : Int32)), (.int (0 : Int32))]))
  refine Goes.st (fun t k => XS.icmpNo X0.here hx rfl (hb hby d30_3) rfl (teq (by decide : (0 : Int32) = (0 : Int32))).2 k) ?_
  show Goes _ _ _ _ (s₁.setTop (mkF m 6 #[.val (.ref a), .val (.ref b), .val (.ref aD), .val (.int (0 : Int32))] []))
  refine Goes.st (fun t k => XS.aloadN X0.here hx rfl (hb hby d30_6) rfl rfl k) ?_
  show Goes _ _ _ _ (s₁.setTop (mkF m 7 #[.val (.ref a), .val (.ref b), .val (.ref aD), .val (.int (0 : Int32))] [(.ref a)]))
  obtain ⟨cq2, q2, q2'⟩ := P0.cell
  obtain ⟨_, _, ⟨T2, L2, k2, n2⟩, -, X2, ⟨Lc2, hQ2, l2, y2, z2⟩, st2⟩ := X0.privateBack hx (y := (⟨"java/util/ArrayList", "grow", "()[Ljava/lang/Object;"⟩ : MethodName)) hown (mvT hZ (hw197 hw)) (mvT hZ (hw198 hw)) (mvT hZ (hw200 hw)) (Cond.privateMethod_at (mvP hZ (hw199 hw) (args := #[]))) (mvT hZ (hw201 hw)) (by decide) (backOf (W := 0) (rm_gr0 l Z a0 hw [] a mc aD kD h0 n0 Z0 P0 P1 P2 P3 P4 P6 g_a OD) hZ (hw201 hw) (hw36 hw) (by decide) (by decide)) (g := (mkF m 7 #[.val (.ref a), .val (.ref b), .val (.ref aD), .val (.int (0 : Int32))] [(.ref a)])) rfl (by rw [hml]; rfl) (Steps.refl _) (a := a) (by rw [e0]; exact q2) q2' (argsL := []) (rest := []) (lenOf pd_8 rfl) rfl (by show 2 * 0 + _ ≤ _; exact Nat.le_of_eq rfl) (hb hby d30_7) (fun _ _ => ⟨rfl, e0, (by decide : 0 + 1 ≤ _), (by decide : 0 + 10 ≤ _)⟩)
  dsimp only [Pt.U, Pt.locs, Pt.cells, Pt.slots] at X2 l2 y2 z2 st2 hQ2
  subst l2 y2 z2
  obtain ⟨ar2, kA2, rfl, N2q, K2, F2_0, F2_1, F2_2, F2_3, F2_4, lo2_0, ov_2⟩ := hQ2
  have N2 := Fr.app N0 N2q
  refine Goes.tr st2 ?_
  show Goes _ _ _ _ (T2.setTop (mkF m 10 #[.val (.ref a), .val (.ref b), .val (.ref aD), .val (.int (0 : Int32))] [(.ref ar2)]))
  refine Goes.st (fun t k => XS.astoreN X2.here hx rfl (hb hby d30_10) rfl rfl (l' := #[.val (.ref a), .val (.ref b), .val (.ref ar2), .val (.int (0 : Int32))]) rfl k) ?_
  show Goes _ _ _ _ (T2.setTop (mkF m 11 #[.val (.ref a), .val (.ref b), .val (.ref ar2), .val (.int (0 : Int32))] []))
  refine Goes.st (fun t k => XS.aloadN X2.here hx rfl (hb hby d30_11) rfl rfl k) ?_
  show Goes _ _ _ _ (T2.setTop (mkF m 12 #[.val (.ref a), .val (.ref b), .val (.ref ar2), .val (.int (0 : Int32))] [(.ref ar2)]))
  refine Goes.st (fun t k => XS.iloadN X2.here hx rfl (hb hby d30_12) rfl k) ?_
  show Goes _ _ _ _ (T2.setTop (mkF m 13 #[.val (.ref a), .val (.ref b), .val (.ref ar2), .val (.int (0 : Int32))] [(.int (0 : Int32)), (.ref ar2)]))
  refine Goes.st (fun t k => XS.aloadN X2.here hx rfl (hb hby d30_13) rfl rfl k) ?_
  show Goes _ _ _ _ (T2.setTop (mkF m 14 #[.val (.ref a), .val (.ref b), .val (.ref ar2), .val (.int (0 : Int32))] [(.ref b), (.int (0 : Int32)), (.ref ar2)]))
  obtain ⟨oc3, oA3, oq3, oS3, oM3, oH3, oG3⟩ := id F2_4
  have f5 : Exa Z T2.heap b "java/lang/String" := (P5.keep K2)
  obtain ⟨T4, h4, X4, e4, W4, st4⟩ := stR X2 hx hZ rfl oA3 (j := (0 : Int32)) (inb_of oS3 ⟨by decide, by decide⟩) rfl (Sto.ofV oA3 oq3 ov_2 (Ins.of_exa f5 (hw213 hw))) (g := (mkF m 14 #[.val (.ref a), .val (.ref b), .val (.ref ar2), .val (.int (0 : Int32))] [(.ref b), (.int (0 : Int32)), (.ref ar2)])) rfl rfl (hb hby d30_14)
  have V4 : Arv Z h4 ar2 kA2 (.object "java/lang/Object") (10 : Int32) [(.ref b), .null, .null, .null, .null, .null, .null, .null, .null, .null] .null := Arv.set oA3 oq3 oS3 oM3 oH3 oG3 rfl W4 0 rfl (Nat.le_of_ble_eq_true rfl)
  have N4 := Fr.snoc X4 N2 (Nat.le_trans Z0 lo2_0)
  refine Goes.st st4 ?_
  show Goes _ _ _ _ (T4.setTop (mkF m 15 #[.val (.ref a), .val (.ref b), .val (.ref ar2), .val (.int (0 : Int32))] []))
  refine Goes.st (fun t k => XS.aloadN X4.here hx rfl (hb hby d30_15) rfl rfl k) ?_
  show Goes _ _ _ _ (T4.setTop (mkF m 16 #[.val (.ref a), .val (.ref b), .val (.ref ar2), .val (.int (0 : Int32))] [(.ref a)]))
  refine Goes.st (fun t k => XS.iloadN X4.here hx rfl (hb hby d30_16) rfl k) ?_
  show Goes _ _ _ _ (T4.setTop (mkF m 17 #[.val (.ref a), .val (.ref b), .val (.ref ar2), .val (.int (0 : Int32))] [(.int (0 : Int32)), (.ref a)]))
  refine Goes.st (fun t k => XS.iconst X4.here hx rfl (hb hby d30_17) k) ?_
  show Goes _ _ _ _ (T4.setTop (mkF m 18 #[.val (.ref a), .val (.ref b), .val (.ref ar2), .val (.int (0 : Int32))] [(.int (1 : Int32)), (.int (0 : Int32)), (.ref a)]))
  refine Goes.st (fun t k => XS.iadd X4.here hx rfl (hb hby d30_18) rfl k) ?_
  show Goes _ _ _ _ (T4.setTop (mkF m 19 #[.val (.ref a), .val (.ref b), .val (.ref ar2), .val (.int (0 : Int32))] [(.int (1 : Int32)), (.ref a)]))
  have f6 : Exa Z h4 a "java/util/ArrayList" := (F2_0.wr W4)
  have f7 : Fld Z h4 a "java/util/ArrayList" "size" "I" (.int (0 : Int32)) := (F2_2.other W4 (Or.inl (Nat.ne_of_lt (Nat.lt_of_lt_of_le P0.lt lo2_0))))
  obtain ⟨T8, h8, X8, e8, W8, st8⟩ := putF X4 hx hZ hown (host := "") (Or.inl (hw183 hw)) Via.refl e4 f7 f6 (Or.inl (hw184 hw)) (hw35 hw) (ty := .int) (by decide) rfl rfl (g := (mkF m 19 #[.val (.ref a), .val (.ref b), .val (.ref ar2), .val (.int (0 : Int32))] [(.int (1 : Int32)), (.ref a)])) rfl rfl (hb hby d30_19)
  have N8 := Fr.snoc X8 N4 g_a
  have F8 := f7.same W8
  refine Goes.st st8 ?_
  show Goes _ _ _ _ (T8.setTop (mkF m 22 #[.val (.ref a), .val (.ref b), .val (.ref ar2), .val (.int (0 : Int32))] []))
  have kp9 : Keep h0 T2.heap [a] := (Keep.refl h0 [a]).trans K2 (allS (Or.inl (List.mem_of_getElem? (i := 0) rfl)) all0)
  have kp10 : Keep h0 h4 [a] := kp9.wr W4 (Or.inr lo2_0)
  have kp11 : Keep h0 h8 [a] := kp10.wr W8 (Or.inl (List.mem_of_getElem? (i := 0) rfl))
  have f12 : Exa Z h8 a "java/util/ArrayList" := (f6.wr W8)
  have f13 : Fld Z h8 a "java/util/ArrayList" "elementData" "[Ljava/lang/Object;" (.ref ar2) := ((F2_1.other W4 (Or.inl (Nat.ne_of_lt (Nat.lt_of_lt_of_le P0.lt lo2_0)))).other W8 (Or.inr (slot_ne (Or.inl (hw57 hw)) (Or.inl (hw184 hw)) (by decide) (t := (.array (.object "java/lang/Object"))) (t' := .int) (by decide) (by decide))))
  have f14 : Fld Z h8 a "java/util/AbstractList" "modCount" "I" (.int mc) := ((F2_3.other W4 (Or.inl (Nat.ne_of_lt (Nat.lt_of_lt_of_le P0.lt lo2_0)))).other W8 (Or.inr (slot_ne (Or.inl (hw54 hw)) (Or.inl (hw184 hw)) (by decide) (t := .int) (t' := .int) (by decide) (by decide))))
  have f15 : Arv Z h8 ar2 kA2 (.object "java/lang/Object") (10 : Int32) [(.ref b), .null, .null, .null, .null, .null, .null, .null, .null, .null] .null := (V4.other W8 (Ne.symm (Nat.ne_of_lt (Nat.lt_of_lt_of_le P0.lt lo2_0))))
  obtain ⟨fs, hr, hrun, hended, hW, hsame⟩ := X8.leave (v := none) (fun _ => rfl)
  subst hQQ
  refine ⟨_, _, X8.returnOut hx Bd.returns (hb hby d30_22) hr, hrun, hended, _, _, rfl, ?_, ⟨_, rfl⟩, hW, hsame.mono (by decide) (by decide)⟩
  show Q_adH1 Z a b mc aD kD h0 n0 _ T8.heap _
  rw [e8]
  exact ⟨ar2, kA2, rfl, N8, kp11, f12, f13, F8, f14, f15, lo2_0, ov_2⟩
theorem ef_add1 (m : MethodId) (a : Addr) (b : Addr) (mc : Int32) (aD : Addr) (kD : ClassId) : entryFrame m #[(.ref a), (.ref b)] 2 = (mkF m 0 #[.val (.ref a), .val (.ref b)] []) := by first | (simp [entryFrame, mkF, argsToLocals, Value.category]; done) | rfl
def Q_add1 (Z : State) (a : Addr) (b : Addr) (mc : Int32) (aD : Addr) (kD : ClassId) (h0 : Heap) (n0 : Nat) (v : Option Value) (h : Heap) (L : List Loc) : Prop := ∃ (ar : Addr) (kA : ClassId), v = some (.int (1 : Int32)) ∧ Fr n0 L ∧ Keep h0 h [a] ∧ Exa Z h a "java/util/ArrayList" ∧ Fld Z h a "java/util/ArrayList" "elementData" "[Ljava/lang/Object;" (.ref ar) ∧ Fld Z h a "java/util/ArrayList" "size" "I" (.int (1 : Int32)) ∧ Fld Z h a "java/util/AbstractList" "modCount" "I" (.int (mc + (1 : Int32))) ∧ Arv Z h ar kA (.object "java/lang/Object") (10 : Int32) [(.ref b), .null, .null, .null, .null, .null, .null, .null, .null, .null] .null ∧ h0.size ≤ ar ∧ (Ovr Z kA "java/lang/Object")
set_option maxRecDepth 65536 in
set_option maxHeartbeats 40000000 in
theorem rm_add1 (l : Launch) (Z : State) (a0 : Array Value) (hw : ∀ d ∈ tables_1, d.before a0 Z = true) (ws : List Jvm.Cond) (a : Addr) (b : Addr) (mc : Int32) (aD : Addr) (kD : ClassId) (h0 : Heap) (n0 : Nat) (Z0 : n0 ≤ h0.size) (P0 : Exa Z h0 a "java/util/ArrayList") (P1 : Fld Z h0 a "java/util/ArrayList" "elementData" "[Ljava/lang/Object;" (.ref aD)) (P2 : Fld Z h0 a "java/util/ArrayList" "size" "I" (.int (0 : Int32))) (P3 : Fld Z h0 a "java/util/AbstractList" "modCount" "I" (.int mc)) (P4 : Arv Z h0 aD kD (.object "java/lang/Object") (0 : Int32) [] .null) (P5 : Exa Z h0 b "java/lang/String") (P6 : Old Z n0 h0) (g_a : n0 ≤ a) (OD : Sta Z Z.heap "java/util/ArrayList" "DEFAULTCAPACITY_EMPTY_ELEMENTDATA" "[Ljava/lang/Object;" (.ref aD)) :
    MetFree l (⟨"java/util/ArrayList", "add", "(Ljava/lang/Object;)Z"⟩ : MethodName) (head1 (Jvm.Cond.code (⟨"java/util/ArrayList", "add", "(Ljava/lang/Object;)Z"⟩ : MethodName) jdk_38_method_25_code 2 (some .boolean) :: ws) ({ frames := 4, cells := 1, slots := 10, locals := 58 } : Room)) (fun aR U => aR = #[(.ref a), (.ref b)] ∧ Z.Warmed39 U.vm ∧ U.heap = h0) (fun _ _ _ _ _ => True) (fun _ U o U' => ∃ v L, o = .returned v ∧ Q_add1 Z a b mc aD kD h0 n0 v U'.heap L ∧ FrameEnd U o U' L ({ frames := 4, cells := 1, slots := 10, locals := 58 } : Room).cells ({ frames := 4, cells := 1, slots := 10, locals := 58 } : Room).slots) := by
  refine MetFree.of_bodySF (plainFor_of_name pn_10) hisR ?_
  intro p e s m args below meth c s₁ Bd hml0 hP hK
  obtain ⟨rfl, hZ, hh⟩ := hP
  have hx := Bd.exec
  have hby := Bd.bytes
  have hml : c.maxLocals = 2 := hml0
  have hown : s.vm.findClass "java/util/ArrayList" = some m.cls := findClass_of_methodNamed Bd.named
  have hnm := (name_of_methodNamed Bd.named Bd.method).1
  have X0 : Stand p l e ({ frames := 4, cells := 1, slots := 10, locals := 58 } : Room) s m #[(.ref a), (.ref b)] below meth c s₁ [] 0 0 := Stand.of_body Bd
  have e0 : s₁.heap = h0 := by rw [← hh, Bd.state]; rfl
  have N0 := Fr.nil n0
  show Goes p.tables e below _ _
  rw [ef_add1 m a b mc aD kD]
  refine Goes.named ?_
  intro QQ hQQ
  refine Goes.st (fun t k => XS.aloadN X0.here hx rfl (hb hby d29_0) rfl rfl k) ?_
  show Goes _ _ _ _ (s₁.setTop (mkF m 1 #[.val (.ref a), .val (.ref b)] [(.ref a)]))
  refine Goes.st (fun t k => XS.dup X0.here hx rfl (hb hby d29_1) rfl rfl k) ?_
  show Goes _ _ _ _ (s₁.setTop (mkF m 2 #[.val (.ref a), .val (.ref b)] [(.ref a), (.ref a)]))
  obtain ⟨T1, X1, e1, st1⟩ := getF X0 hx hZ hown (host := "") (Or.inl (hw190 hw)) (Via.of (hw191 hw)) e0 P3 (g := (mkF m 2 #[.val (.ref a), .val (.ref b)] [(.ref a), (.ref a)])) rfl rfl (hb hby d29_2)
  refine Goes.st st1 ?_
  show Goes _ _ _ _ (T1.setTop (mkF m 5 #[.val (.ref a), .val (.ref b)] [(.int mc), (.ref a)]))
  refine Goes.st (fun t k => XS.iconst X1.here hx rfl (hb hby d29_5) k) ?_
  show Goes _ _ _ _ (T1.setTop (mkF m 6 #[.val (.ref a), .val (.ref b)] [(.int (1 : Int32)), (.int mc), (.ref a)]))
  refine Goes.st (fun t k => XS.iadd X1.here hx rfl (hb hby d29_6) rfl k) ?_
  show Goes _ _ _ _ (T1.setTop (mkF m 7 #[.val (.ref a), .val (.ref b)] [(.int (mc + (1 : Int32))), (.ref a)]))
  obtain ⟨T2, h2, X2, e2, W2, st2⟩ := putF X1 hx hZ hown (host := "") (Or.inl (hw190 hw)) (Via.of (hw191 hw)) e1 P3 P0 (Or.inl (hw54 hw)) (hw35 hw) (ty := .int) (by decide) rfl rfl (g := (mkF m 7 #[.val (.ref a), .val (.ref b)] [(.int (mc + (1 : Int32))), (.ref a)])) rfl rfl (hb hby d29_7)
  have N2 := Fr.snoc X2 N0 g_a
  have F2 := P3.same W2
  refine Goes.st st2 ?_
  show Goes _ _ _ _ (T2.setTop (mkF m 10 #[.val (.ref a), .val (.ref b)] []))
  refine Goes.st (fun t k => XS.aloadN X2.here hx rfl (hb hby d29_10) rfl rfl k) ?_
  show Goes _ _ _ _ (T2.setTop (mkF m 11 #[.val (.ref a), .val (.ref b)] [(.ref a)]))
  refine Goes.st (fun t k => XS.aloadN X2.here hx rfl (hb hby d29_11) rfl rfl k) ?_
  show Goes _ _ _ _ (T2.setTop (mkF m 12 #[.val (.ref a), .val (.ref b)] [(.ref b), (.ref a)]))
  refine Goes.st (fun t k => XS.aloadN X2.here hx rfl (hb hby d29_12) rfl rfl k) ?_
  show Goes _ _ _ _ (T2.setTop (mkF m 13 #[.val (.ref a), .val (.ref b)] [(.ref a), (.ref b), (.ref a)]))
  have f3 : Fld Z h2 a "java/util/ArrayList" "elementData" "[Ljava/lang/Object;" (.ref aD) := (P1.other W2 (Or.inr (slot_ne (Or.inl (hw57 hw)) (Or.inl (hw54 hw)) (by decide) (t := (.array (.object "java/lang/Object"))) (t' := .int) (by decide) (by decide))))
  obtain ⟨T4, X4, e4, st4⟩ := getF X2 hx hZ hown (host := "") (Or.inl (hw56 hw)) Via.refl e2 f3 (g := (mkF m 13 #[.val (.ref a), .val (.ref b)] [(.ref a), (.ref b), (.ref a)])) rfl rfl (hb hby d29_13)
  refine Goes.st st4 ?_
  show Goes _ _ _ _ (T4.setTop (mkF m 16 #[.val (.ref a), .val (.ref b)] [(.ref aD), (.ref b), (.ref a)]))
  refine Goes.st (fun t k => XS.aloadN X4.here hx rfl (hb hby d29_16) rfl rfl k) ?_
  show Goes _ _ _ _ (T4.setTop (mkF m 17 #[.val (.ref a), .val (.ref b)] [(.ref a), (.ref aD), (.ref b), (.ref a)]))
  have f5 : Fld Z h2 a "java/util/ArrayList" "size" "I" (.int (0 : Int32)) := (P2.other W2 (Or.inr (slot_ne (Or.inl (hw184 hw)) (Or.inl (hw54 hw)) (by decide) (t := .int) (t' := .int) (by decide) (by decide))))
  obtain ⟨T6, X6, e6, st6⟩ := getF X4 hx hZ hown (host := "") (Or.inl (hw183 hw)) Via.refl e4 f5 (g := (mkF m 17 #[.val (.ref a), .val (.ref b)] [(.ref a), (.ref aD), (.ref b), (.ref a)])) rfl rfl (hb hby d29_17)
  refine Goes.st st6 ?_
  show Goes _ _ _ _ (T6.setTop (mkF m 20 #[.val (.ref a), .val (.ref b)] [(.int (0 : Int32)), (.ref aD), (.ref b), (.ref a)]))
  have f8 : Exa Z h2 a "java/util/ArrayList" := (P0.wr W2)
  have f9 : Arv Z h2 aD kD (.object "java/lang/Object") (0 : Int32) [] .null := (P4.other W2 (Ne.symm (Exa.neArv P0 P4 (hw35 hw))))
  have f10 : Exa Z h2 b "java/lang/String" := (P5.wr W2)
  have f11 : Old Z n0 h2 := (P6.wr W2 g_a)
  obtain ⟨cq7, q7, q7'⟩ := f8.cell
  obtain ⟨_, _, ⟨T7, L7, k7, n7⟩, -, X7, ⟨Lc7, hQ7, l7, y7, z7⟩, st7⟩ := X6.privateBack hx (y := (⟨"java/util/ArrayList", "add", "(Ljava/lang/Object;[Ljava/lang/Object;I)V"⟩ : MethodName)) hown (mvT hZ (hw192 hw)) (mvT hZ (hw193 hw)) (mvT hZ (hw195 hw)) (Cond.privateMethod_at (mvP hZ (hw194 hw) (args := #[]))) (mvT hZ (hw196 hw)) (by decide) (backOf (W := 0) (rm_adH1 l Z a0 hw [] a b (mc + (1 : Int32)) aD kD h2 n0 (Nat.le_trans Z0 (Nat.le_of_eq W2.size.symm)) f8 f3 f5 F2 f9 f10 f11 g_a OD) hZ (hw196 hw) (hw36 hw) (by decide) (by decide)) (g := (mkF m 20 #[.val (.ref a), .val (.ref b)] [(.int (0 : Int32)), (.ref aD), (.ref b), (.ref a)])) rfl (by rw [hml]; rfl) (Steps.refl _) (a := a) (by rw [e6]; exact q7) q7' (argsL := [(.ref b), (.ref aD), (.int (0 : Int32))]) (rest := []) (lenOf pd_9 rfl) rfl (by show 2 * 0 + _ ≤ _; exact Nat.le_of_eq rfl) (hb hby d29_20) (fun _ _ => ⟨rfl, e6, (by decide : 0 + 1 ≤ _), (by decide : 0 + 10 ≤ _)⟩)
  dsimp only [Pt.U, Pt.locs, Pt.cells, Pt.slots] at X7 l7 y7 z7 st7 hQ7
  subst l7 y7 z7
  obtain ⟨ar7, kA7, rfl, N7q, K7, F7_0, F7_1, F7_2, F7_3, F7_4, lo7_0, ov_7⟩ := hQ7
  have N7 := Fr.app N2 N7q
  refine Goes.tr st7 ?_
  show Goes _ _ _ _ (T7.setTop (mkF m 23 #[.val (.ref a), .val (.ref b)] []))
  refine Goes.st (fun t k => XS.iconst X7.here hx rfl (hb hby d29_23) k) ?_
  show Goes _ _ _ _ (T7.setTop (mkF m 24 #[.val (.ref a), .val (.ref b)] [(.int (1 : Int32))]))
  have kp12 : Keep h0 h2 [a] := (Keep.refl h0 [a]).wr W2 (Or.inl (List.mem_of_getElem? (i := 0) rfl))
  have kp13 : Keep h0 T7.heap [a] := kp12.trans K7 (allS (Or.inl (List.mem_of_getElem? (i := 0) rfl)) all0)
  obtain ⟨fs, hr, hrun, hended, hW, hsame⟩ := X7.leave (v := some (.int (1 : Int32))) (fun h => by rw [Bd.returns] at h; cases h)
  subst hQQ
  refine ⟨_, _, retN X7 hx (t := .boolean) Bd.returns (by simp) (hb hby d29_24) hr, hrun, hended, _, _, rfl, ?_, ⟨_, rfl⟩, hW, hsame.mono (by decide) (by decide)⟩
  show Q_add1 Z a b mc aD kD h0 n0 _ T7.heap _
  exact ⟨ar7, kA7, rfl, N7, kp13, F7_0, F7_1, F7_2, F7_3, F7_4, (Nat.le_trans (Nat.le_of_eq W2.size.symm) lo7_0), ov_7⟩
theorem ef_adH2 (m : MethodId) (a : Addr) (b : Addr) (ar : Addr) (kA : ClassId) (b1 : Addr) (mc : Int32) : entryFrame m #[(.ref a), (.ref b), (.ref ar), (.int (1 : Int32))] 4 = (mkF m 0 #[.val (.ref a), .val (.ref b), .val (.ref ar), .val (.int (1 : Int32))] []) := by first | (simp [entryFrame, mkF, argsToLocals, Value.category]; done) | rfl
def Q_adH2 (Z : State) (a : Addr) (b : Addr) (ar : Addr) (kA : ClassId) (b1 : Addr) (mc : Int32) (h0 : Heap) (n0 : Nat) (v : Option Value) (h : Heap) (L : List Loc) : Prop := v = none ∧ Fr n0 L ∧ Keep h0 h [a, ar] ∧ Exa Z h a "java/util/ArrayList" ∧ Fld Z h a "java/util/ArrayList" "elementData" "[Ljava/lang/Object;" (.ref ar) ∧ Fld Z h a "java/util/ArrayList" "size" "I" (.int (2 : Int32)) ∧ Fld Z h a "java/util/AbstractList" "modCount" "I" (.int mc) ∧ Arv Z h ar kA (.object "java/lang/Object") (10 : Int32) [(.ref b1), (.ref b), .null, .null, .null, .null, .null, .null, .null, .null] .null
set_option maxRecDepth 65536 in
set_option maxHeartbeats 40000000 in
theorem rm_adH2 (l : Launch) (Z : State) (a0 : Array Value) (hw : ∀ d ∈ tables_1, d.before a0 Z = true) (ws : List Jvm.Cond) (a : Addr) (b : Addr) (ar : Addr) (kA : ClassId) (b1 : Addr) (mc : Int32) (h0 : Heap) (n0 : Nat) (Z0 : n0 ≤ h0.size) (P0 : Exa Z h0 a "java/util/ArrayList") (P1 : Fld Z h0 a "java/util/ArrayList" "elementData" "[Ljava/lang/Object;" (.ref ar)) (P2 : Fld Z h0 a "java/util/ArrayList" "size" "I" (.int (1 : Int32))) (P3 : Fld Z h0 a "java/util/AbstractList" "modCount" "I" (.int mc)) (P4 : Arv Z h0 ar kA (.object "java/lang/Object") (10 : Int32) [(.ref b1), .null, .null, .null, .null, .null, .null, .null, .null, .null] .null) (P5 : Exa Z h0 b "java/lang/String") (g_a : n0 ≤ a) (g_ar : n0 ≤ ar) (ov : Ovr Z kA "java/lang/Object") :
    MetFree l (⟨"java/util/ArrayList", "add", "(Ljava/lang/Object;[Ljava/lang/Object;I)V"⟩ : MethodName) (head1 (Jvm.Cond.code (⟨"java/util/ArrayList", "add", "(Ljava/lang/Object;[Ljava/lang/Object;I)V"⟩ : MethodName) jdk_38_method_24_code 4 none :: ws) ({ frames := 0, cells := 0, slots := 0, locals := 0 } : Room)) (fun aR U => aR = #[(.ref a), (.ref b), (.ref ar), (.int (1 : Int32))] ∧ Z.Warmed39 U.vm ∧ U.heap = h0) (fun _ _ _ _ _ => True) (fun _ U o U' => ∃ v L, o = .returned v ∧ Q_adH2 Z a b ar kA b1 mc h0 n0 v U'.heap L ∧ FrameEnd U o U' L ({ frames := 0, cells := 0, slots := 0, locals := 0 } : Room).cells ({ frames := 0, cells := 0, slots := 0, locals := 0 } : Room).slots) := by
  refine MetFree.of_bodySF (plainFor_of_name pn_10) hisR ?_
  intro p e s m args below meth c s₁ Bd hml0 hP hK
  obtain ⟨rfl, hZ, hh⟩ := hP
  have hx := Bd.exec
  have hby := Bd.bytes
  have hml : c.maxLocals = 4 := hml0
  have hown : s.vm.findClass "java/util/ArrayList" = some m.cls := findClass_of_methodNamed Bd.named
  have hnm := (name_of_methodNamed Bd.named Bd.method).1
  have X0 : Stand p l e ({ frames := 0, cells := 0, slots := 0, locals := 0 } : Room) s m #[(.ref a), (.ref b), (.ref ar), (.int (1 : Int32))] below meth c s₁ [] 0 0 := Stand.of_body Bd
  have e0 : s₁.heap = h0 := by rw [← hh, Bd.state]; rfl
  have N0 := Fr.nil n0
  show Goes p.tables e below _ _
  rw [ef_adH2 m a b ar kA b1 mc]
  refine Goes.named ?_
  intro QQ hQQ
  refine Goes.st (fun t k => XS.iloadN X0.here hx rfl (hb hby d30_0) rfl k) ?_
  show Goes _ _ _ _ (s₁.setTop (mkF m 1 #[.val (.ref a), .val (.ref b), .val (.ref ar), .val (.int (1 : Int32))] [(.int (1 : Int32))]))
  refine Goes.st (fun t k => XS.aloadN X0.here hx rfl (hb hby d30_1) rfl rfl k) ?_
  show Goes _ _ _ _ (s₁.setTop (mkF m 2 #[.val (.ref a), .val (.ref b), .val (.ref ar), .val (.int (1 : Int32))] [(.ref ar), (.int (1 : Int32))]))
  obtain ⟨oc1, oA1, oq1, oS1, oM1, oH1, oG1⟩ := id P4
  refine Goes.st (fun t k => X0.arraylength hx (by rw [e0]; exact oA1.1) (State.isArrayOf_alike hZ.alike oA1.2.1) (g := (mkF m 2 #[.val (.ref a), .val (.ref b), .val (.ref ar), .val (.int (1 : Int32))] [(.ref ar), (.int (1 : Int32))])) rfl rfl (hb hby d30_2) _ k) ?_
  rw [len_of oS1 oM1]
  show Goes _ _ _ _ (s₁.setTop (mkF m 3 #[.val (.ref a), .val (.ref b), .val (.ref ar), .val (.int (1 : Int32))] [(.int (10 : Int32)), (.int (1 : Int32))]))
  refine Goes.st (fun t k => XS.icmpYes X0.here hx rfl (pc0 := 3) (pc' := 11) rfl (hb hby d30_3) rfl (feq (by decide : ¬ ((1 : Int32) = (10 : Int32)))).2 (by decide) (by decide) k) ?_
  show Goes _ _ _ _ (s₁.setTop (mkF m 11 #[.val (.ref a), .val (.ref b), .val (.ref ar), .val (.int (1 : Int32))] []))
  refine Goes.st (fun t k => XS.aloadN X0.here hx rfl (hb hby d30_11) rfl rfl k) ?_
  show Goes _ _ _ _ (s₁.setTop (mkF m 12 #[.val (.ref a), .val (.ref b), .val (.ref ar), .val (.int (1 : Int32))] [(.ref ar)]))
  refine Goes.st (fun t k => XS.iloadN X0.here hx rfl (hb hby d30_12) rfl k) ?_
  show Goes _ _ _ _ (s₁.setTop (mkF m 13 #[.val (.ref a), .val (.ref b), .val (.ref ar), .val (.int (1 : Int32))] [(.int (1 : Int32)), (.ref ar)]))
  refine Goes.st (fun t k => XS.aloadN X0.here hx rfl (hb hby d30_13) rfl rfl k) ?_
  show Goes _ _ _ _ (s₁.setTop (mkF m 14 #[.val (.ref a), .val (.ref b), .val (.ref ar), .val (.int (1 : Int32))] [(.ref b), (.int (1 : Int32)), (.ref ar)]))
  obtain ⟨oc2, oA2, oq2, oS2, oM2, oH2, oG2⟩ := id P4
  obtain ⟨T3, h3, X3, e3, W3, st3⟩ := stR X0 hx hZ e0 oA2 (j := (1 : Int32)) (inb_of oS2 ⟨by decide, by decide⟩) rfl (Sto.ofV oA2 oq2 ov (Ins.of_exa P5 (hw213 hw))) (g := (mkF m 14 #[.val (.ref a), .val (.ref b), .val (.ref ar), .val (.int (1 : Int32))] [(.ref b), (.int (1 : Int32)), (.ref ar)])) rfl rfl (hb hby d30_14)
  have V3 : Arv Z h3 ar kA (.object "java/lang/Object") (10 : Int32) [(.ref b1), (.ref b), .null, .null, .null, .null, .null, .null, .null, .null] .null := Arv.set oA2 oq2 oS2 oM2 oH2 oG2 rfl W3 1 rfl (Nat.le_of_ble_eq_true rfl)
  have N3 := Fr.snoc X3 N0 g_ar
  refine Goes.st st3 ?_
  show Goes _ _ _ _ (T3.setTop (mkF m 15 #[.val (.ref a), .val (.ref b), .val (.ref ar), .val (.int (1 : Int32))] []))
  refine Goes.st (fun t k => XS.aloadN X3.here hx rfl (hb hby d30_15) rfl rfl k) ?_
  show Goes _ _ _ _ (T3.setTop (mkF m 16 #[.val (.ref a), .val (.ref b), .val (.ref ar), .val (.int (1 : Int32))] [(.ref a)]))
  refine Goes.st (fun t k => XS.iloadN X3.here hx rfl (hb hby d30_16) rfl k) ?_
  show Goes _ _ _ _ (T3.setTop (mkF m 17 #[.val (.ref a), .val (.ref b), .val (.ref ar), .val (.int (1 : Int32))] [(.int (1 : Int32)), (.ref a)]))
  refine Goes.st (fun t k => XS.iconst X3.here hx rfl (hb hby d30_17) k) ?_
  show Goes _ _ _ _ (T3.setTop (mkF m 18 #[.val (.ref a), .val (.ref b), .val (.ref ar), .val (.int (1 : Int32))] [(.int (1 : Int32)), (.int (1 : Int32)), (.ref a)]))
  refine Goes.st (fun t k => XS.iadd X3.here hx rfl (hb hby d30_18) rfl k) ?_
  show Goes _ _ _ _ (T3.setTop (mkF m 19 #[.val (.ref a), .val (.ref b), .val (.ref ar), .val (.int (1 : Int32))] [(.int (2 : Int32)), (.ref a)]))
  have f4 : Exa Z h3 a "java/util/ArrayList" := (P0.wr W3)
  have f5 : Fld Z h3 a "java/util/ArrayList" "size" "I" (.int (1 : Int32)) := (P2.other W3 (Or.inl (Exa.neArv P0 P4 (hw35 hw))))
  obtain ⟨T6, h6, X6, e6, W6, st6⟩ := putF X3 hx hZ hown (host := "") (Or.inl (hw183 hw)) Via.refl e3 f5 f4 (Or.inl (hw184 hw)) (hw35 hw) (ty := .int) (by decide) rfl rfl (g := (mkF m 19 #[.val (.ref a), .val (.ref b), .val (.ref ar), .val (.int (1 : Int32))] [(.int (2 : Int32)), (.ref a)])) rfl rfl (hb hby d30_19)
  have N6 := Fr.snoc X6 N3 g_a
  have F6 := f5.same W6
  refine Goes.st st6 ?_
  show Goes _ _ _ _ (T6.setTop (mkF m 22 #[.val (.ref a), .val (.ref b), .val (.ref ar), .val (.int (1 : Int32))] []))
  have kp7 : Keep h0 h3 [a, ar] := (Keep.refl h0 [a, ar]).wr W3 (Or.inl (List.mem_of_getElem? (i := 1) rfl))
  have kp8 : Keep h0 h6 [a, ar] := kp7.wr W6 (Or.inl (List.mem_of_getElem? (i := 0) rfl))
  have f9 : Exa Z h6 a "java/util/ArrayList" := (f4.wr W6)
  have f10 : Fld Z h6 a "java/util/ArrayList" "elementData" "[Ljava/lang/Object;" (.ref ar) := ((P1.other W3 (Or.inl (Exa.neArv P0 P4 (hw35 hw)))).other W6 (Or.inr (slot_ne (Or.inl (hw57 hw)) (Or.inl (hw184 hw)) (by decide) (t := (.array (.object "java/lang/Object"))) (t' := .int) (by decide) (by decide))))
  have f11 : Fld Z h6 a "java/util/AbstractList" "modCount" "I" (.int mc) := ((P3.other W3 (Or.inl (Exa.neArv P0 P4 (hw35 hw)))).other W6 (Or.inr (slot_ne (Or.inl (hw54 hw)) (Or.inl (hw184 hw)) (by decide) (t := .int) (t' := .int) (by decide) (by decide))))
  have f12 : Arv Z h6 ar kA (.object "java/lang/Object") (10 : Int32) [(.ref b1), (.ref b), .null, .null, .null, .null, .null, .null, .null, .null] .null := (V3.other W6 (Ne.symm (Exa.neArv P0 P4 (hw35 hw))))
  obtain ⟨fs, hr, hrun, hended, hW, hsame⟩ := X6.leave (v := none) (fun _ => rfl)
  subst hQQ
  refine ⟨_, _, X6.returnOut hx Bd.returns (hb hby d30_22) hr, hrun, hended, _, _, rfl, ?_, ⟨_, rfl⟩, hW, hsame.mono (by decide) (by decide)⟩
  show Q_adH2 Z a b ar kA b1 mc h0 n0 _ T6.heap _
  rw [e6]
  exact ⟨rfl, N6, kp8, f9, f10, F6, f11, f12⟩
theorem ef_add2 (m : MethodId) (a : Addr) (b : Addr) (ar : Addr) (kA : ClassId) (b1 : Addr) (mc : Int32) : entryFrame m #[(.ref a), (.ref b)] 2 = (mkF m 0 #[.val (.ref a), .val (.ref b)] []) := by first | (simp [entryFrame, mkF, argsToLocals, Value.category]; done) | rfl
def Q_add2 (Z : State) (a : Addr) (b : Addr) (ar : Addr) (kA : ClassId) (b1 : Addr) (mc : Int32) (h0 : Heap) (n0 : Nat) (v : Option Value) (h : Heap) (L : List Loc) : Prop := v = some (.int (1 : Int32)) ∧ Fr n0 L ∧ Keep h0 h [a, ar] ∧ Exa Z h a "java/util/ArrayList" ∧ Fld Z h a "java/util/ArrayList" "elementData" "[Ljava/lang/Object;" (.ref ar) ∧ Fld Z h a "java/util/ArrayList" "size" "I" (.int (2 : Int32)) ∧ Fld Z h a "java/util/AbstractList" "modCount" "I" (.int (mc + (1 : Int32))) ∧ Arv Z h ar kA (.object "java/lang/Object") (10 : Int32) [(.ref b1), (.ref b), .null, .null, .null, .null, .null, .null, .null, .null] .null
set_option maxRecDepth 65536 in
set_option maxHeartbeats 40000000 in
theorem rm_add2 (l : Launch) (Z : State) (a0 : Array Value) (hw : ∀ d ∈ tables_1, d.before a0 Z = true) (ws : List Jvm.Cond) (a : Addr) (b : Addr) (ar : Addr) (kA : ClassId) (b1 : Addr) (mc : Int32) (h0 : Heap) (n0 : Nat) (Z0 : n0 ≤ h0.size) (P0 : Exa Z h0 a "java/util/ArrayList") (P1 : Fld Z h0 a "java/util/ArrayList" "elementData" "[Ljava/lang/Object;" (.ref ar)) (P2 : Fld Z h0 a "java/util/ArrayList" "size" "I" (.int (1 : Int32))) (P3 : Fld Z h0 a "java/util/AbstractList" "modCount" "I" (.int mc)) (P4 : Arv Z h0 ar kA (.object "java/lang/Object") (10 : Int32) [(.ref b1), .null, .null, .null, .null, .null, .null, .null, .null, .null] .null) (P5 : Exa Z h0 b "java/lang/String") (g_a : n0 ≤ a) (g_ar : n0 ≤ ar) (ov : Ovr Z kA "java/lang/Object") :
    MetFree l (⟨"java/util/ArrayList", "add", "(Ljava/lang/Object;)Z"⟩ : MethodName) (head1 (Jvm.Cond.code (⟨"java/util/ArrayList", "add", "(Ljava/lang/Object;)Z"⟩ : MethodName) jdk_38_method_25_code 2 (some .boolean) :: ws) ({ frames := 1, cells := 0, slots := 0, locals := 19 } : Room)) (fun aR U => aR = #[(.ref a), (.ref b)] ∧ Z.Warmed39 U.vm ∧ U.heap = h0) (fun _ _ _ _ _ => True) (fun _ U o U' => ∃ v L, o = .returned v ∧ Q_add2 Z a b ar kA b1 mc h0 n0 v U'.heap L ∧ FrameEnd U o U' L ({ frames := 1, cells := 0, slots := 0, locals := 19 } : Room).cells ({ frames := 1, cells := 0, slots := 0, locals := 19 } : Room).slots) := by
  refine MetFree.of_bodySF (plainFor_of_name pn_10) hisR ?_
  intro p e s m args below meth c s₁ Bd hml0 hP hK
  obtain ⟨rfl, hZ, hh⟩ := hP
  have hx := Bd.exec
  have hby := Bd.bytes
  have hml : c.maxLocals = 2 := hml0
  have hown : s.vm.findClass "java/util/ArrayList" = some m.cls := findClass_of_methodNamed Bd.named
  have hnm := (name_of_methodNamed Bd.named Bd.method).1
  have X0 : Stand p l e ({ frames := 1, cells := 0, slots := 0, locals := 19 } : Room) s m #[(.ref a), (.ref b)] below meth c s₁ [] 0 0 := Stand.of_body Bd
  have e0 : s₁.heap = h0 := by rw [← hh, Bd.state]; rfl
  have N0 := Fr.nil n0
  show Goes p.tables e below _ _
  rw [ef_add2 m a b ar kA b1 mc]
  refine Goes.named ?_
  intro QQ hQQ
  refine Goes.st (fun t k => XS.aloadN X0.here hx rfl (hb hby d29_0) rfl rfl k) ?_
  show Goes _ _ _ _ (s₁.setTop (mkF m 1 #[.val (.ref a), .val (.ref b)] [(.ref a)]))
  refine Goes.st (fun t k => XS.dup X0.here hx rfl (hb hby d29_1) rfl rfl k) ?_
  show Goes _ _ _ _ (s₁.setTop (mkF m 2 #[.val (.ref a), .val (.ref b)] [(.ref a), (.ref a)]))
  obtain ⟨T1, X1, e1, st1⟩ := getF X0 hx hZ hown (host := "") (Or.inl (hw190 hw)) (Via.of (hw191 hw)) e0 P3 (g := (mkF m 2 #[.val (.ref a), .val (.ref b)] [(.ref a), (.ref a)])) rfl rfl (hb hby d29_2)
  refine Goes.st st1 ?_
  show Goes _ _ _ _ (T1.setTop (mkF m 5 #[.val (.ref a), .val (.ref b)] [(.int mc), (.ref a)]))
  refine Goes.st (fun t k => XS.iconst X1.here hx rfl (hb hby d29_5) k) ?_
  show Goes _ _ _ _ (T1.setTop (mkF m 6 #[.val (.ref a), .val (.ref b)] [(.int (1 : Int32)), (.int mc), (.ref a)]))
  refine Goes.st (fun t k => XS.iadd X1.here hx rfl (hb hby d29_6) rfl k) ?_
  show Goes _ _ _ _ (T1.setTop (mkF m 7 #[.val (.ref a), .val (.ref b)] [(.int (mc + (1 : Int32))), (.ref a)]))
  obtain ⟨T2, h2, X2, e2, W2, st2⟩ := putF X1 hx hZ hown (host := "") (Or.inl (hw190 hw)) (Via.of (hw191 hw)) e1 P3 P0 (Or.inl (hw54 hw)) (hw35 hw) (ty := .int) (by decide) rfl rfl (g := (mkF m 7 #[.val (.ref a), .val (.ref b)] [(.int (mc + (1 : Int32))), (.ref a)])) rfl rfl (hb hby d29_7)
  have N2 := Fr.snoc X2 N0 g_a
  have F2 := P3.same W2
  refine Goes.st st2 ?_
  show Goes _ _ _ _ (T2.setTop (mkF m 10 #[.val (.ref a), .val (.ref b)] []))
  refine Goes.st (fun t k => XS.aloadN X2.here hx rfl (hb hby d29_10) rfl rfl k) ?_
  show Goes _ _ _ _ (T2.setTop (mkF m 11 #[.val (.ref a), .val (.ref b)] [(.ref a)]))
  refine Goes.st (fun t k => XS.aloadN X2.here hx rfl (hb hby d29_11) rfl rfl k) ?_
  show Goes _ _ _ _ (T2.setTop (mkF m 12 #[.val (.ref a), .val (.ref b)] [(.ref b), (.ref a)]))
  refine Goes.st (fun t k => XS.aloadN X2.here hx rfl (hb hby d29_12) rfl rfl k) ?_
  show Goes _ _ _ _ (T2.setTop (mkF m 13 #[.val (.ref a), .val (.ref b)] [(.ref a), (.ref b), (.ref a)]))
  have f3 : Fld Z h2 a "java/util/ArrayList" "elementData" "[Ljava/lang/Object;" (.ref ar) := (P1.other W2 (Or.inr (slot_ne (Or.inl (hw57 hw)) (Or.inl (hw54 hw)) (by decide) (t := (.array (.object "java/lang/Object"))) (t' := .int) (by decide) (by decide))))
  obtain ⟨T4, X4, e4, st4⟩ := getF X2 hx hZ hown (host := "") (Or.inl (hw56 hw)) Via.refl e2 f3 (g := (mkF m 13 #[.val (.ref a), .val (.ref b)] [(.ref a), (.ref b), (.ref a)])) rfl rfl (hb hby d29_13)
  refine Goes.st st4 ?_
  show Goes _ _ _ _ (T4.setTop (mkF m 16 #[.val (.ref a), .val (.ref b)] [(.ref ar), (.ref b), (.ref a)]))
  refine Goes.st (fun t k => XS.aloadN X4.here hx rfl (hb hby d29_16) rfl rfl k) ?_
  show Goes _ _ _ _ (T4.setTop (mkF m 17 #[.val (.ref a), .val (.ref b)] [(.ref a), (.ref ar), (.ref b), (.ref a)]))
  have f5 : Fld Z h2 a "java/util/ArrayList" "size" "I" (.int (1 : Int32)) := (P2.other W2 (Or.inr (slot_ne (Or.inl (hw184 hw)) (Or.inl (hw54 hw)) (by decide) (t := .int) (t' := .int) (by decide) (by decide))))
  obtain ⟨T6, X6, e6, st6⟩ := getF X4 hx hZ hown (host := "") (Or.inl (hw183 hw)) Via.refl e4 f5 (g := (mkF m 17 #[.val (.ref a), .val (.ref b)] [(.ref a), (.ref ar), (.ref b), (.ref a)])) rfl rfl (hb hby d29_17)
  refine Goes.st st6 ?_
  show Goes _ _ _ _ (T6.setTop (mkF m 20 #[.val (.ref a), .val (.ref b)] [(.int (1 : Int32)), (.ref ar), (.ref b), (.ref a)]))
  have f8 : Exa Z h2 a "java/util/ArrayList" := (P0.wr W2)
  have f9 : Arv Z h2 ar kA (.object "java/lang/Object") (10 : Int32) [(.ref b1), .null, .null, .null, .null, .null, .null, .null, .null, .null] .null := (P4.other W2 (Ne.symm (Exa.neArv P0 P4 (hw35 hw))))
  have f10 : Exa Z h2 b "java/lang/String" := (P5.wr W2)
  obtain ⟨cq7, q7, q7'⟩ := f8.cell
  obtain ⟨_, _, ⟨T7, L7, k7, n7⟩, -, X7, ⟨Lc7, hQ7, l7, y7, z7⟩, st7⟩ := X6.privateBack hx (y := (⟨"java/util/ArrayList", "add", "(Ljava/lang/Object;[Ljava/lang/Object;I)V"⟩ : MethodName)) hown (mvT hZ (hw192 hw)) (mvT hZ (hw193 hw)) (mvT hZ (hw195 hw)) (Cond.privateMethod_at (mvP hZ (hw194 hw) (args := #[]))) (mvT hZ (hw196 hw)) (by decide) (backOf (W := 0) (rm_adH2 l Z a0 hw [] a b ar kA b1 (mc + (1 : Int32)) h2 n0 (Nat.le_trans Z0 (Nat.le_of_eq W2.size.symm)) f8 f3 f5 F2 f9 f10 g_a g_ar ov) hZ (hw196 hw) (hw36 hw) (by decide) (by decide)) (g := (mkF m 20 #[.val (.ref a), .val (.ref b)] [(.int (1 : Int32)), (.ref ar), (.ref b), (.ref a)])) rfl (by rw [hml]; rfl) (Steps.refl _) (a := a) (by rw [e6]; exact q7) q7' (argsL := [(.ref b), (.ref ar), (.int (1 : Int32))]) (rest := []) (lenOf pd_9 rfl) rfl (by show 2 * 0 + _ ≤ _; exact Nat.le_of_eq rfl) (hb hby d29_20) (fun _ _ => ⟨rfl, e6, (by decide : 0 + 0 ≤ _), (by decide : 0 + 0 ≤ _)⟩)
  dsimp only [Pt.U, Pt.locs, Pt.cells, Pt.slots] at X7 l7 y7 z7 st7 hQ7
  subst l7 y7 z7
  obtain ⟨rfl, N7q, K7, F7_0, F7_1, F7_2, F7_3, F7_4⟩ := hQ7
  have N7 := Fr.app N2 N7q
  refine Goes.tr st7 ?_
  show Goes _ _ _ _ (T7.setTop (mkF m 23 #[.val (.ref a), .val (.ref b)] []))
  refine Goes.st (fun t k => XS.iconst X7.here hx rfl (hb hby d29_23) k) ?_
  show Goes _ _ _ _ (T7.setTop (mkF m 24 #[.val (.ref a), .val (.ref b)] [(.int (1 : Int32))]))
  have kp11 : Keep h0 h2 [a, ar] := (Keep.refl h0 [a, ar]).wr W2 (Or.inl (List.mem_of_getElem? (i := 0) rfl))
  have kp12 : Keep h0 T7.heap [a, ar] := kp11.trans K7 (allS (Or.inl (List.mem_of_getElem? (i := 0) rfl)) (allS (Or.inl (List.mem_of_getElem? (i := 1) rfl)) all0))
  obtain ⟨fs, hr, hrun, hended, hW, hsame⟩ := X7.leave (v := some (.int (1 : Int32))) (fun h => by rw [Bd.returns] at h; cases h)
  subst hQQ
  refine ⟨_, _, retN X7 hx (t := .boolean) Bd.returns (by simp) (hb hby d29_24) hr, hrun, hended, _, _, rfl, ?_, ⟨_, rfl⟩, hW, hsame.mono (by decide) (by decide)⟩
  show Q_add2 Z a b ar kA b1 mc h0 n0 _ T7.heap _
  exact ⟨rfl, N7, kp12, F7_0, F7_1, F7_2, F7_3, F7_4⟩
theorem ef_dinit (m : MethodId) (a : Addr) (b : Addr) (li : Addr) (u1 : Value) (sm : Int32) (mn : Int32) (r1 : u1.isRef = true) : entryFrame m #[(.ref a), (.ref b), (.ref li), u1, (.int sm), (.int mn)] 6 = (mkF m 0 #[.val (.ref a), .val (.ref b), .val (.ref li), .val u1, .val (.int sm), .val (.int mn)] []) := by rcases ref_cases r1 with rfl | ⟨_, rfl⟩ <;> (simp [entryFrame, mkF, argsToLocals, Value.category]; done)
def Q_dinit (Z : State) (a : Addr) (b : Addr) (li : Addr) (u1 : Value) (sm : Int32) (mn : Int32) (h0 : Heap) (n0 : Nat) (v : Option Value) (h : Heap) (L : List Loc) : Prop := v = none ∧ Fr n0 L ∧ Keep h0 h [a] ∧ Exa Z h a "com/example/bolter/bolter/model/ElementDefinitions$Definition" ∧ Fld Z h a "com/example/bolter/bolter/model/ElementDefinitions$Definition" "path" "Ljava/lang/String;" (.ref b) ∧ Fld Z h a "com/example/bolter/bolter/model/ElementDefinitions$Definition" "types" "Ljava/util/List;" (.ref li) ∧ Fld Z h a "com/example/bolter/bolter/model/ElementDefinitions$Definition" "valueSet" "Ljava/lang/String;" u1 ∧ Fld Z h a "com/example/bolter/bolter/model/ElementDefinitions$Definition" "summary" "Z" (.int sm) ∧ Fld Z h a "com/example/bolter/bolter/model/ElementDefinitions$Definition" "min" "I" (.int mn)
set_option maxRecDepth 65536 in
set_option maxHeartbeats 40000000 in
theorem rm_dinit (l : Launch) (Z : State) (a0 : Array Value) (hw : ∀ d ∈ tables_1, d.before a0 Z = true) (ws : List Jvm.Cond) (a : Addr) (b : Addr) (li : Addr) (u1 : Value) (sm : Int32) (mn : Int32) (h0 : Heap) (n0 : Nat) (Z0 : n0 ≤ h0.size) (P0 : Exa Z h0 a "com/example/bolter/bolter/model/ElementDefinitions$Definition") (P1 : Fld Z h0 a "com/example/bolter/bolter/model/ElementDefinitions$Definition" "path" "Ljava/lang/String;" .null) (P2 : Fld Z h0 a "com/example/bolter/bolter/model/ElementDefinitions$Definition" "types" "Ljava/util/List;" .null) (P3 : Fld Z h0 a "com/example/bolter/bolter/model/ElementDefinitions$Definition" "valueSet" "Ljava/lang/String;" .null) (P4 : Fld Z h0 a "com/example/bolter/bolter/model/ElementDefinitions$Definition" "summary" "Z" (.int (0 : Int32))) (P5 : Fld Z h0 a "com/example/bolter/bolter/model/ElementDefinitions$Definition" "min" "I" (.int (0 : Int32))) (g_a : n0 ≤ a) (r1 : u1.isRef = true) (hz_sm : sm = 0 ∨ sm = 1) :
    MetFree l (⟨"com/example/bolter/bolter/model/ElementDefinitions$Definition", "<init>", "(Ljava/lang/String;Ljava/util/List;Ljava/lang/String;ZI)V"⟩ : MethodName) (head1 (Jvm.Cond.code (⟨"com/example/bolter/bolter/model/ElementDefinitions$Definition", "<init>", "(Ljava/lang/String;Ljava/util/List;Ljava/lang/String;ZI)V"⟩ : MethodName) prog_11_method_1_code 6 none :: ws) ({ frames := 2, cells := 0, slots := 0, locals := 24 } : Room)) (fun aR U => aR = #[(.ref a), (.ref b), (.ref li), u1, (.int sm), (.int mn)] ∧ Z.Warmed39 U.vm ∧ U.heap = h0) (fun _ _ _ _ _ => True) (fun _ U o U' => ∃ v L, o = .returned v ∧ Q_dinit Z a b li u1 sm mn h0 n0 v U'.heap L ∧ FrameEnd U o U' L ({ frames := 2, cells := 0, slots := 0, locals := 24 } : Room).cells ({ frames := 2, cells := 0, slots := 0, locals := 24 } : Room).slots) := by
  refine MetFree.of_bodySF (plainFor_of_name pn_12) hisR ?_
  intro p e s m args below meth c s₁ Bd hml0 hP hK
  obtain ⟨rfl, hZ, hh⟩ := hP
  have hx := Bd.exec
  have hby := Bd.bytes
  have hml : c.maxLocals = 6 := hml0
  have hown : s.vm.findClass "com/example/bolter/bolter/model/ElementDefinitions$Definition" = some m.cls := findClass_of_methodNamed Bd.named
  have hnm := (name_of_methodNamed Bd.named Bd.method).1
  have X0 : Stand p l e ({ frames := 2, cells := 0, slots := 0, locals := 24 } : Room) s m #[(.ref a), (.ref b), (.ref li), u1, (.int sm), (.int mn)] below meth c s₁ [] 0 0 := Stand.of_body Bd
  have e0 : s₁.heap = h0 := by rw [← hh, Bd.state]; rfl
  have N0 := Fr.nil n0
  show Goes p.tables e below _ _
  rw [ef_dinit m a b li u1 sm mn r1]
  refine Goes.named ?_
  intro QQ hQQ
  refine Goes.st (fun t k => XS.aloadN X0.here hx rfl (hb hby d11_0) rfl rfl k) ?_
  show Goes _ _ _ _ (s₁.setTop (mkF m 1 #[.val (.ref a), .val (.ref b), .val (.ref li), .val u1, .val (.int sm), .val (.int mn)] [(.ref a)]))
  obtain ⟨_, _, ⟨T1, L1, k1, n1⟩, -, X1, ⟨Lc1, hQ1, l1, y1, z1⟩, st1⟩ := X0.specialBack hx (y := (⟨"java/lang/Record", "<init>", "()V"⟩ : MethodName)) rfl hown (mvT hZ (hw64 hw)) (mvT hZ (hw65 hw)) (mvT hZ (hw68 hw)) (by decide) (backOf (W := 0) (rm_rec l Z a0 hw [] a h0 n0 Z0 ) hZ (hw68 hw) (hw67 hw) (by decide) (by decide)) (g := (mkF m 1 #[.val (.ref a), .val (.ref b), .val (.ref li), .val u1, .val (.int sm), .val (.int mn)] [(.ref a)])) rfl (by rw [hml]; rfl) (Steps.refl _) (a := a) (argsL := []) (rest := []) (lenOf pd_0 rfl) rfl (by show 2 * 0 + _ ≤ _; exact Nat.le_of_eq rfl) (hb hby d11_1) (fun _ _ => ⟨rfl, e0, (by decide : 0 + 0 ≤ _), (by decide : 0 + 0 ≤ _)⟩)
  dsimp only [Pt.U, Pt.locs, Pt.cells, Pt.slots] at X1 l1 y1 z1 st1 hQ1
  subst l1 y1 z1
  obtain ⟨rfl, N1q, K1⟩ := hQ1
  have N1 := Fr.app N0 N1q
  refine Goes.tr st1 ?_
  show Goes _ _ _ _ (T1.setTop (mkF m 4 #[.val (.ref a), .val (.ref b), .val (.ref li), .val u1, .val (.int sm), .val (.int mn)] []))
  refine Goes.st (fun t k => XS.aloadN X1.here hx rfl (hb hby d11_4) rfl rfl k) ?_
  show Goes _ _ _ _ (T1.setTop (mkF m 5 #[.val (.ref a), .val (.ref b), .val (.ref li), .val u1, .val (.int sm), .val (.int mn)] [(.ref a)]))
  refine Goes.st (fun t k => XS.aloadN X1.here hx rfl (hb hby d11_5) rfl rfl k) ?_
  show Goes _ _ _ _ (T1.setTop (mkF m 6 #[.val (.ref a), .val (.ref b), .val (.ref li), .val u1, .val (.int sm), .val (.int mn)] [(.ref b), (.ref a)]))
  obtain ⟨T2, h2, X2, e2, W2, st2⟩ := putF X1 hx hZ hown (host := "") (Or.inl (hw70 hw)) Via.refl K1 P1 P0 (Or.inr ⟨(hw71 hw), rfl, hnm⟩) (hw59 hw) (ty := (.object "java/lang/String")) (by decide) rfl rfl (g := (mkF m 6 #[.val (.ref a), .val (.ref b), .val (.ref li), .val u1, .val (.int sm), .val (.int mn)] [(.ref b), (.ref a)])) rfl rfl (hb hby d11_6)
  have N2 := Fr.snoc X2 N1 g_a
  have F2 := P1.same W2
  refine Goes.st st2 ?_
  show Goes _ _ _ _ (T2.setTop (mkF m 9 #[.val (.ref a), .val (.ref b), .val (.ref li), .val u1, .val (.int sm), .val (.int mn)] []))
  refine Goes.st (fun t k => XS.aloadN X2.here hx rfl (hb hby d11_9) rfl rfl k) ?_
  show Goes _ _ _ _ (T2.setTop (mkF m 10 #[.val (.ref a), .val (.ref b), .val (.ref li), .val u1, .val (.int sm), .val (.int mn)] [(.ref a)]))
  refine Goes.st (fun t k => XS.aloadN X2.here hx rfl (hb hby d11_10) rfl rfl k) ?_
  show Goes _ _ _ _ (T2.setTop (mkF m 11 #[.val (.ref a), .val (.ref b), .val (.ref li), .val u1, .val (.int sm), .val (.int mn)] [(.ref li), (.ref a)]))
  have f3 : Exa Z h2 a "com/example/bolter/bolter/model/ElementDefinitions$Definition" := (P0.wr W2)
  have f4 : Fld Z h2 a "com/example/bolter/bolter/model/ElementDefinitions$Definition" "types" "Ljava/util/List;" .null := (P2.other W2 (Or.inr (slot_ne (Or.inr (hw73 hw)) (Or.inr (hw71 hw)) (by decide) (t := (.object "java/util/List")) (t' := (.object "java/lang/String")) (by decide) (by decide))))
  obtain ⟨T5, h5, X5, e5, W5, st5⟩ := putF X2 hx hZ hown (host := "") (Or.inl (hw72 hw)) Via.refl e2 f4 f3 (Or.inr ⟨(hw73 hw), rfl, hnm⟩) (hw59 hw) (ty := (.object "java/util/List")) (by decide) rfl rfl (g := (mkF m 11 #[.val (.ref a), .val (.ref b), .val (.ref li), .val u1, .val (.int sm), .val (.int mn)] [(.ref li), (.ref a)])) rfl rfl (hb hby d11_11)
  have N5 := Fr.snoc X5 N2 g_a
  have F5 := f4.same W5
  refine Goes.st st5 ?_
  show Goes _ _ _ _ (T5.setTop (mkF m 14 #[.val (.ref a), .val (.ref b), .val (.ref li), .val u1, .val (.int sm), .val (.int mn)] []))
  refine Goes.st (fun t k => XS.aloadN X5.here hx rfl (hb hby d11_14) rfl rfl k) ?_
  show Goes _ _ _ _ (T5.setTop (mkF m 15 #[.val (.ref a), .val (.ref b), .val (.ref li), .val u1, .val (.int sm), .val (.int mn)] [(.ref a)]))
  refine Goes.st (fun t k => XS.aloadN X5.here hx rfl (hb hby d11_15) rfl r1 k) ?_
  show Goes _ _ _ _ (T5.setTop (mkF m 16 #[.val (.ref a), .val (.ref b), .val (.ref li), .val u1, .val (.int sm), .val (.int mn)] [u1, (.ref a)]))
  have f6 : Exa Z h5 a "com/example/bolter/bolter/model/ElementDefinitions$Definition" := (f3.wr W5)
  have f7 : Fld Z h5 a "com/example/bolter/bolter/model/ElementDefinitions$Definition" "valueSet" "Ljava/lang/String;" .null := ((P3.other W2 (Or.inr (slot_ne (Or.inr (hw75 hw)) (Or.inr (hw71 hw)) (by decide) (t := (.object "java/lang/String")) (t' := (.object "java/lang/String")) (by decide) (by decide)))).other W5 (Or.inr (slot_ne (Or.inr (hw75 hw)) (Or.inr (hw73 hw)) (by decide) (t := (.object "java/lang/String")) (t' := (.object "java/util/List")) (by decide) (by decide))))
  obtain ⟨T8, h8, X8, e8, W8, st8⟩ := putF X5 hx hZ hown (host := "") (Or.inl (hw74 hw)) Via.refl e5 f7 f6 (Or.inr ⟨(hw75 hw), rfl, hnm⟩) (hw59 hw) (ty := (.object "java/lang/String")) (by decide) (own_narR r1) (own_fitsR r1 rfl) (g := (mkF m 16 #[.val (.ref a), .val (.ref b), .val (.ref li), .val u1, .val (.int sm), .val (.int mn)] [u1, (.ref a)])) rfl rfl (hb hby d11_16)
  have N8 := Fr.snoc X8 N5 g_a
  have F8 := f7.same W8
  refine Goes.st st8 ?_
  show Goes _ _ _ _ (T8.setTop (mkF m 19 #[.val (.ref a), .val (.ref b), .val (.ref li), .val u1, .val (.int sm), .val (.int mn)] []))
  refine Goes.st (fun t k => XS.aloadN X8.here hx rfl (hb hby d11_19) rfl rfl k) ?_
  show Goes _ _ _ _ (T8.setTop (mkF m 20 #[.val (.ref a), .val (.ref b), .val (.ref li), .val u1, .val (.int sm), .val (.int mn)] [(.ref a)]))
  refine Goes.st (fun t k => XS.iload X8.here hx rfl (hb hby d11_20) rfl k) ?_
  show Goes _ _ _ _ (T8.setTop (mkF m 22 #[.val (.ref a), .val (.ref b), .val (.ref li), .val u1, .val (.int sm), .val (.int mn)] [(.int sm), (.ref a)]))
  have f9 : Exa Z h8 a "com/example/bolter/bolter/model/ElementDefinitions$Definition" := (f6.wr W8)
  have f10 : Fld Z h8 a "com/example/bolter/bolter/model/ElementDefinitions$Definition" "summary" "Z" (.int (0 : Int32)) := (((P4.other W2 (Or.inr (slot_ne (Or.inr (hw77 hw)) (Or.inr (hw71 hw)) (by decide) (t := .boolean) (t' := (.object "java/lang/String")) (by decide) (by decide)))).other W5 (Or.inr (slot_ne (Or.inr (hw77 hw)) (Or.inr (hw73 hw)) (by decide) (t := .boolean) (t' := (.object "java/util/List")) (by decide) (by decide)))).other W8 (Or.inr (slot_ne (Or.inr (hw77 hw)) (Or.inr (hw75 hw)) (by decide) (t := .boolean) (t' := (.object "java/lang/String")) (by decide) (by decide))))
  obtain ⟨T11, h11, X11, e11, W11, st11⟩ := putFN X8 hx hZ hown (hw76 hw) Via.refl e8 f10 f9 (Or.inr ⟨(hw77 hw), rfl, hnm⟩) (hw59 hw) (ty := .boolean) (v' := (.int sm)) (by decide) (own_narwZ hz_sm) (own_fitsZ hz_sm) (g := (mkF m 22 #[.val (.ref a), .val (.ref b), .val (.ref li), .val u1, .val (.int sm), .val (.int mn)] [(.int sm), (.ref a)])) rfl rfl (hb hby d11_22)
  have N11 := Fr.snoc X11 N8 g_a
  have F11 := f10.same W11
  refine Goes.st st11 ?_
  show Goes _ _ _ _ (T11.setTop (mkF m 25 #[.val (.ref a), .val (.ref b), .val (.ref li), .val u1, .val (.int sm), .val (.int mn)] []))
  refine Goes.st (fun t k => XS.aloadN X11.here hx rfl (hb hby d11_25) rfl rfl k) ?_
  show Goes _ _ _ _ (T11.setTop (mkF m 26 #[.val (.ref a), .val (.ref b), .val (.ref li), .val u1, .val (.int sm), .val (.int mn)] [(.ref a)]))
  refine Goes.st (fun t k => XS.iload X11.here hx rfl (hb hby d11_26) rfl k) ?_
  show Goes _ _ _ _ (T11.setTop (mkF m 28 #[.val (.ref a), .val (.ref b), .val (.ref li), .val u1, .val (.int sm), .val (.int mn)] [(.int mn), (.ref a)]))
  have f12 : Exa Z h11 a "com/example/bolter/bolter/model/ElementDefinitions$Definition" := (f9.wr W11)
  have f13 : Fld Z h11 a "com/example/bolter/bolter/model/ElementDefinitions$Definition" "min" "I" (.int (0 : Int32)) := ((((P5.other W2 (Or.inr (slot_ne (Or.inr (hw79 hw)) (Or.inr (hw71 hw)) (by decide) (t := .int) (t' := (.object "java/lang/String")) (by decide) (by decide)))).other W5 (Or.inr (slot_ne (Or.inr (hw79 hw)) (Or.inr (hw73 hw)) (by decide) (t := .int) (t' := (.object "java/util/List")) (by decide) (by decide)))).other W8 (Or.inr (slot_ne (Or.inr (hw79 hw)) (Or.inr (hw75 hw)) (by decide) (t := .int) (t' := (.object "java/lang/String")) (by decide) (by decide)))).other W11 (Or.inr (slot_ne (Or.inr (hw79 hw)) (Or.inr (hw77 hw)) (by decide) (t := .int) (t' := .boolean) (by decide) (by decide))))
  obtain ⟨T14, h14, X14, e14, W14, st14⟩ := putF X11 hx hZ hown (host := "") (Or.inl (hw78 hw)) Via.refl e11 f13 f12 (Or.inr ⟨(hw79 hw), rfl, hnm⟩) (hw59 hw) (ty := .int) (by decide) rfl rfl (g := (mkF m 28 #[.val (.ref a), .val (.ref b), .val (.ref li), .val u1, .val (.int sm), .val (.int mn)] [(.int mn), (.ref a)])) rfl rfl (hb hby d11_28)
  have N14 := Fr.snoc X14 N11 g_a
  have F14 := f13.same W14
  refine Goes.st st14 ?_
  show Goes _ _ _ _ (T14.setTop (mkF m 31 #[.val (.ref a), .val (.ref b), .val (.ref li), .val u1, .val (.int sm), .val (.int mn)] []))
  have kp15 : Keep h0 h2 [a] := (Keep.refl h0 [a]).wr W2 (Or.inl (List.mem_of_getElem? (i := 0) rfl))
  have kp16 : Keep h0 h5 [a] := kp15.wr W5 (Or.inl (List.mem_of_getElem? (i := 0) rfl))
  have kp17 : Keep h0 h8 [a] := kp16.wr W8 (Or.inl (List.mem_of_getElem? (i := 0) rfl))
  have kp18 : Keep h0 h11 [a] := kp17.wr W11 (Or.inl (List.mem_of_getElem? (i := 0) rfl))
  have kp19 : Keep h0 h14 [a] := kp18.wr W14 (Or.inl (List.mem_of_getElem? (i := 0) rfl))
  have f20 : Exa Z h14 a "com/example/bolter/bolter/model/ElementDefinitions$Definition" := (f12.wr W14)
  have f21 : Fld Z h14 a "com/example/bolter/bolter/model/ElementDefinitions$Definition" "path" "Ljava/lang/String;" (.ref b) := ((((F2.other W5 (Or.inr (slot_ne (Or.inr (hw71 hw)) (Or.inr (hw73 hw)) (by decide) (t := (.object "java/lang/String")) (t' := (.object "java/util/List")) (by decide) (by decide)))).other W8 (Or.inr (slot_ne (Or.inr (hw71 hw)) (Or.inr (hw75 hw)) (by decide) (t := (.object "java/lang/String")) (t' := (.object "java/lang/String")) (by decide) (by decide)))).other W11 (Or.inr (slot_ne (Or.inr (hw71 hw)) (Or.inr (hw77 hw)) (by decide) (t := (.object "java/lang/String")) (t' := .boolean) (by decide) (by decide)))).other W14 (Or.inr (slot_ne (Or.inr (hw71 hw)) (Or.inr (hw79 hw)) (by decide) (t := (.object "java/lang/String")) (t' := .int) (by decide) (by decide))))
  have f22 : Fld Z h14 a "com/example/bolter/bolter/model/ElementDefinitions$Definition" "types" "Ljava/util/List;" (.ref li) := (((F5.other W8 (Or.inr (slot_ne (Or.inr (hw73 hw)) (Or.inr (hw75 hw)) (by decide) (t := (.object "java/util/List")) (t' := (.object "java/lang/String")) (by decide) (by decide)))).other W11 (Or.inr (slot_ne (Or.inr (hw73 hw)) (Or.inr (hw77 hw)) (by decide) (t := (.object "java/util/List")) (t' := .boolean) (by decide) (by decide)))).other W14 (Or.inr (slot_ne (Or.inr (hw73 hw)) (Or.inr (hw79 hw)) (by decide) (t := (.object "java/util/List")) (t' := .int) (by decide) (by decide))))
  have f23 : Fld Z h14 a "com/example/bolter/bolter/model/ElementDefinitions$Definition" "valueSet" "Ljava/lang/String;" u1 := ((F8.other W11 (Or.inr (slot_ne (Or.inr (hw75 hw)) (Or.inr (hw77 hw)) (by decide) (t := (.object "java/lang/String")) (t' := .boolean) (by decide) (by decide)))).other W14 (Or.inr (slot_ne (Or.inr (hw75 hw)) (Or.inr (hw79 hw)) (by decide) (t := (.object "java/lang/String")) (t' := .int) (by decide) (by decide))))
  have f24 : Fld Z h14 a "com/example/bolter/bolter/model/ElementDefinitions$Definition" "summary" "Z" (.int sm) := (F11.other W14 (Or.inr (slot_ne (Or.inr (hw77 hw)) (Or.inr (hw79 hw)) (by decide) (t := .boolean) (t' := .int) (by decide) (by decide))))
  obtain ⟨fs, hr, hrun, hended, hW, hsame⟩ := X14.leave (v := none) (fun _ => rfl)
  subst hQQ
  refine ⟨_, _, X14.returnOut hx Bd.returns (hb hby d11_31) hr, hrun, hended, _, _, rfl, ?_, ⟨_, rfl⟩, hW, hsame.mono (by decide) (by decide)⟩
  show Q_dinit Z a b li u1 sm mn h0 n0 _ T14.heap _
  rw [e14]
  exact ⟨rfl, N14, kp19, f20, f21, f22, f23, f24, F14⟩
theorem ef_gpath (m : MethodId) (a : Addr) (fr : Addr) : entryFrame m #[(.ref a)] 1 = (mkF m 0 #[.val (.ref a)] []) := by first | (simp [entryFrame, mkF, argsToLocals, Value.category]; done) | rfl
def Q_gpath (Z : State) (a : Addr) (fr : Addr) (h0 : Heap) (n0 : Nat) (v : Option Value) (h : Heap) (L : List Loc) : Prop := v = some (.ref fr) ∧ Fr n0 L ∧ h = h0
set_option maxRecDepth 65536 in
set_option maxHeartbeats 40000000 in
theorem rm_gpath (l : Launch) (Z : State) (a0 : Array Value) (hw : ∀ d ∈ tables_1, d.before a0 Z = true) (ws : List Jvm.Cond) (a : Addr) (fr : Addr) (h0 : Heap) (n0 : Nat) (Z0 : n0 ≤ h0.size) (P0 : Fld Z h0 a "com/example/bolter/bolter/model/ElementDefinitions$Definition" "path" "Ljava/lang/String;" (.ref fr)) :
    MetFree l (⟨"com/example/bolter/bolter/model/ElementDefinitions$Definition", "path", "()Ljava/lang/String;"⟩ : MethodName) (head1 (Jvm.Cond.code (⟨"com/example/bolter/bolter/model/ElementDefinitions$Definition", "path", "()Ljava/lang/String;"⟩ : MethodName) prog_11_method_9_code 1 (some (.object "java/lang/String")) :: ws) ({ frames := 0, cells := 0, slots := 0, locals := 0 } : Room)) (fun aR U => aR = #[(.ref a)] ∧ Z.Warmed39 U.vm ∧ U.heap = h0) (fun _ _ _ _ _ => True) (fun _ U o U' => ∃ v L, o = .returned v ∧ Q_gpath Z a fr h0 n0 v U'.heap L ∧ FrameEnd U o U' L ({ frames := 0, cells := 0, slots := 0, locals := 0 } : Room).cells ({ frames := 0, cells := 0, slots := 0, locals := 0 } : Room).slots) := by
  refine MetFree.of_bodySF (plainFor_of_name pn_12) hisR ?_
  intro p e s m args below meth c s₁ Bd hml0 hP hK
  obtain ⟨rfl, hZ, hh⟩ := hP
  have hx := Bd.exec
  have hby := Bd.bytes
  have hml : c.maxLocals = 1 := hml0
  have hown : s.vm.findClass "com/example/bolter/bolter/model/ElementDefinitions$Definition" = some m.cls := findClass_of_methodNamed Bd.named
  have hnm := (name_of_methodNamed Bd.named Bd.method).1
  have X0 : Stand p l e ({ frames := 0, cells := 0, slots := 0, locals := 0 } : Room) s m #[(.ref a)] below meth c s₁ [] 0 0 := Stand.of_body Bd
  have e0 : s₁.heap = h0 := by rw [← hh, Bd.state]; rfl
  have N0 := Fr.nil n0
  show Goes p.tables e below _ _
  rw [ef_gpath m a fr]
  refine Goes.named ?_
  intro QQ hQQ
  refine Goes.st (fun t k => XS.aloadN X0.here hx rfl (hb hby d22_0) rfl rfl k) ?_
  show Goes _ _ _ _ (s₁.setTop (mkF m 1 #[.val (.ref a)] [(.ref a)]))
  obtain ⟨T1, X1, e1, st1⟩ := getF X0 hx hZ hown (host := "") (Or.inl (hw70 hw)) Via.refl e0 P0 (g := (mkF m 1 #[.val (.ref a)] [(.ref a)])) rfl rfl (hb hby d22_1)
  refine Goes.st st1 ?_
  show Goes _ _ _ _ (T1.setTop (mkF m 4 #[.val (.ref a)] [(.ref fr)]))
  obtain ⟨fs, hr, hrun, hended, hW, hsame⟩ := X1.leave (v := some (.ref fr)) (fun h => by rw [Bd.returns] at h; cases h)
  subst hQQ
  refine ⟨_, _, retR X1 hx Bd.returns rfl rfl (hb hby d22_4) hr, hrun, hended, _, _, rfl, ?_, ⟨_, rfl⟩, hW, hsame.mono (by decide) (by decide)⟩
  show Q_gpath Z a fr h0 n0 _ T1.heap _
  rw [e1]
  exact ⟨rfl, N0, rfl⟩
theorem ef_gvs (m : MethodId) (a : Addr) : entryFrame m #[(.ref a)] 1 = (mkF m 0 #[.val (.ref a)] []) := by first | (simp [entryFrame, mkF, argsToLocals, Value.category]; done) | rfl
def Q_gvs (Z : State) (a : Addr) (h0 : Heap) (n0 : Nat) (v : Option Value) (h : Heap) (L : List Loc) : Prop := v = some .null ∧ Fr n0 L ∧ h = h0
set_option maxRecDepth 65536 in
set_option maxHeartbeats 40000000 in
theorem rm_gvs (l : Launch) (Z : State) (a0 : Array Value) (hw : ∀ d ∈ tables_1, d.before a0 Z = true) (ws : List Jvm.Cond) (a : Addr) (h0 : Heap) (n0 : Nat) (Z0 : n0 ≤ h0.size) (P0 : Fld Z h0 a "com/example/bolter/bolter/model/ElementDefinitions$Definition" "valueSet" "Ljava/lang/String;" .null) :
    MetFree l (⟨"com/example/bolter/bolter/model/ElementDefinitions$Definition", "valueSet", "()Ljava/lang/String;"⟩ : MethodName) (head1 (Jvm.Cond.code (⟨"com/example/bolter/bolter/model/ElementDefinitions$Definition", "valueSet", "()Ljava/lang/String;"⟩ : MethodName) prog_11_method_11_code 1 (some (.object "java/lang/String")) :: ws) ({ frames := 0, cells := 0, slots := 0, locals := 0 } : Room)) (fun aR U => aR = #[(.ref a)] ∧ Z.Warmed39 U.vm ∧ U.heap = h0) (fun _ _ _ _ _ => True) (fun _ U o U' => ∃ v L, o = .returned v ∧ Q_gvs Z a h0 n0 v U'.heap L ∧ FrameEnd U o U' L ({ frames := 0, cells := 0, slots := 0, locals := 0 } : Room).cells ({ frames := 0, cells := 0, slots := 0, locals := 0 } : Room).slots) := by
  refine MetFree.of_bodySF (plainFor_of_name pn_12) hisR ?_
  intro p e s m args below meth c s₁ Bd hml0 hP hK
  obtain ⟨rfl, hZ, hh⟩ := hP
  have hx := Bd.exec
  have hby := Bd.bytes
  have hml : c.maxLocals = 1 := hml0
  have hown : s.vm.findClass "com/example/bolter/bolter/model/ElementDefinitions$Definition" = some m.cls := findClass_of_methodNamed Bd.named
  have hnm := (name_of_methodNamed Bd.named Bd.method).1
  have X0 : Stand p l e ({ frames := 0, cells := 0, slots := 0, locals := 0 } : Room) s m #[(.ref a)] below meth c s₁ [] 0 0 := Stand.of_body Bd
  have e0 : s₁.heap = h0 := by rw [← hh, Bd.state]; rfl
  have N0 := Fr.nil n0
  show Goes p.tables e below _ _
  rw [ef_gvs m a]
  refine Goes.named ?_
  intro QQ hQQ
  refine Goes.st (fun t k => XS.aloadN X0.here hx rfl (hb hby d20_0) rfl rfl k) ?_
  show Goes _ _ _ _ (s₁.setTop (mkF m 1 #[.val (.ref a)] [(.ref a)]))
  obtain ⟨T1, X1, e1, st1⟩ := getF X0 hx hZ hown (host := "") (Or.inl (hw74 hw)) Via.refl e0 P0 (g := (mkF m 1 #[.val (.ref a)] [(.ref a)])) rfl rfl (hb hby d20_1)
  refine Goes.st st1 ?_
  show Goes _ _ _ _ (T1.setTop (mkF m 4 #[.val (.ref a)] [.null]))
  obtain ⟨fs, hr, hrun, hended, hW, hsame⟩ := X1.leave (v := some .null) (fun h => by rw [Bd.returns] at h; cases h)
  subst hQQ
  refine ⟨_, _, retR X1 hx Bd.returns rfl rfl (hb hby d20_4) hr, hrun, hended, _, _, rfl, ?_, ⟨_, rfl⟩, hW, hsame.mono (by decide) (by decide)⟩
  show Q_gvs Z a h0 n0 _ T1.heap _
  rw [e1]
  exact ⟨rfl, N0, rfl⟩
theorem ef_gvsR (m : MethodId) (a : Addr) (fr : Addr) : entryFrame m #[(.ref a)] 1 = (mkF m 0 #[.val (.ref a)] []) := by first | (simp [entryFrame, mkF, argsToLocals, Value.category]; done) | rfl
def Q_gvsR (Z : State) (a : Addr) (fr : Addr) (h0 : Heap) (n0 : Nat) (v : Option Value) (h : Heap) (L : List Loc) : Prop := v = some (.ref fr) ∧ Fr n0 L ∧ h = h0
set_option maxRecDepth 65536 in
set_option maxHeartbeats 40000000 in
theorem rm_gvsR (l : Launch) (Z : State) (a0 : Array Value) (hw : ∀ d ∈ tables_1, d.before a0 Z = true) (ws : List Jvm.Cond) (a : Addr) (fr : Addr) (h0 : Heap) (n0 : Nat) (Z0 : n0 ≤ h0.size) (P0 : Fld Z h0 a "com/example/bolter/bolter/model/ElementDefinitions$Definition" "valueSet" "Ljava/lang/String;" (.ref fr)) :
    MetFree l (⟨"com/example/bolter/bolter/model/ElementDefinitions$Definition", "valueSet", "()Ljava/lang/String;"⟩ : MethodName) (head1 (Jvm.Cond.code (⟨"com/example/bolter/bolter/model/ElementDefinitions$Definition", "valueSet", "()Ljava/lang/String;"⟩ : MethodName) prog_11_method_11_code 1 (some (.object "java/lang/String")) :: ws) ({ frames := 0, cells := 0, slots := 0, locals := 0 } : Room)) (fun aR U => aR = #[(.ref a)] ∧ Z.Warmed39 U.vm ∧ U.heap = h0) (fun _ _ _ _ _ => True) (fun _ U o U' => ∃ v L, o = .returned v ∧ Q_gvsR Z a fr h0 n0 v U'.heap L ∧ FrameEnd U o U' L ({ frames := 0, cells := 0, slots := 0, locals := 0 } : Room).cells ({ frames := 0, cells := 0, slots := 0, locals := 0 } : Room).slots) := by
  refine MetFree.of_bodySF (plainFor_of_name pn_12) hisR ?_
  intro p e s m args below meth c s₁ Bd hml0 hP hK
  obtain ⟨rfl, hZ, hh⟩ := hP
  have hx := Bd.exec
  have hby := Bd.bytes
  have hml : c.maxLocals = 1 := hml0
  have hown : s.vm.findClass "com/example/bolter/bolter/model/ElementDefinitions$Definition" = some m.cls := findClass_of_methodNamed Bd.named
  have hnm := (name_of_methodNamed Bd.named Bd.method).1
  have X0 : Stand p l e ({ frames := 0, cells := 0, slots := 0, locals := 0 } : Room) s m #[(.ref a)] below meth c s₁ [] 0 0 := Stand.of_body Bd
  have e0 : s₁.heap = h0 := by rw [← hh, Bd.state]; rfl
  have N0 := Fr.nil n0
  show Goes p.tables e below _ _
  rw [ef_gvsR m a fr]
  refine Goes.named ?_
  intro QQ hQQ
  refine Goes.st (fun t k => XS.aloadN X0.here hx rfl (hb hby d20_0) rfl rfl k) ?_
  show Goes _ _ _ _ (s₁.setTop (mkF m 1 #[.val (.ref a)] [(.ref a)]))
  obtain ⟨T1, X1, e1, st1⟩ := getF X0 hx hZ hown (host := "") (Or.inl (hw74 hw)) Via.refl e0 P0 (g := (mkF m 1 #[.val (.ref a)] [(.ref a)])) rfl rfl (hb hby d20_1)
  refine Goes.st st1 ?_
  show Goes _ _ _ _ (T1.setTop (mkF m 4 #[.val (.ref a)] [(.ref fr)]))
  obtain ⟨fs, hr, hrun, hended, hW, hsame⟩ := X1.leave (v := some (.ref fr)) (fun h => by rw [Bd.returns] at h; cases h)
  subst hQQ
  refine ⟨_, _, retR X1 hx Bd.returns rfl rfl (hb hby d20_4) hr, hrun, hended, _, _, rfl, ?_, ⟨_, rfl⟩, hW, hsame.mono (by decide) (by decide)⟩
  show Q_gvsR Z a fr h0 n0 _ T1.heap _
  rw [e1]
  exact ⟨rfl, N0, rfl⟩
theorem ef_gsum (m : MethodId) (a : Addr) (fz : Int32) : entryFrame m #[(.ref a)] 1 = (mkF m 0 #[.val (.ref a)] []) := by first | (simp [entryFrame, mkF, argsToLocals, Value.category]; done) | rfl
def Q_gsum (Z : State) (a : Addr) (fz : Int32) (h0 : Heap) (n0 : Nat) (v : Option Value) (h : Heap) (L : List Loc) : Prop := v = some (.int fz) ∧ Fr n0 L ∧ h = h0
set_option maxRecDepth 65536 in
set_option maxHeartbeats 40000000 in
theorem rm_gsum (l : Launch) (Z : State) (a0 : Array Value) (hw : ∀ d ∈ tables_1, d.before a0 Z = true) (ws : List Jvm.Cond) (a : Addr) (fz : Int32) (h0 : Heap) (n0 : Nat) (Z0 : n0 ≤ h0.size) (P0 : Fld Z h0 a "com/example/bolter/bolter/model/ElementDefinitions$Definition" "summary" "Z" (.int fz)) (hz_fz : fz = 0 ∨ fz = 1) :
    MetFree l (⟨"com/example/bolter/bolter/model/ElementDefinitions$Definition", "summary", "()Z"⟩ : MethodName) (head1 (Jvm.Cond.code (⟨"com/example/bolter/bolter/model/ElementDefinitions$Definition", "summary", "()Z"⟩ : MethodName) prog_11_method_12_code 1 (some .boolean) :: ws) ({ frames := 0, cells := 0, slots := 0, locals := 0 } : Room)) (fun aR U => aR = #[(.ref a)] ∧ Z.Warmed39 U.vm ∧ U.heap = h0) (fun _ _ _ _ _ => True) (fun _ U o U' => ∃ v L, o = .returned v ∧ Q_gsum Z a fz h0 n0 v U'.heap L ∧ FrameEnd U o U' L ({ frames := 0, cells := 0, slots := 0, locals := 0 } : Room).cells ({ frames := 0, cells := 0, slots := 0, locals := 0 } : Room).slots) := by
  refine MetFree.of_bodySF (plainFor_of_name pn_12) hisR ?_
  intro p e s m args below meth c s₁ Bd hml0 hP hK
  obtain ⟨rfl, hZ, hh⟩ := hP
  have hx := Bd.exec
  have hby := Bd.bytes
  have hml : c.maxLocals = 1 := hml0
  have hown : s.vm.findClass "com/example/bolter/bolter/model/ElementDefinitions$Definition" = some m.cls := findClass_of_methodNamed Bd.named
  have hnm := (name_of_methodNamed Bd.named Bd.method).1
  have X0 : Stand p l e ({ frames := 0, cells := 0, slots := 0, locals := 0 } : Room) s m #[(.ref a)] below meth c s₁ [] 0 0 := Stand.of_body Bd
  have e0 : s₁.heap = h0 := by rw [← hh, Bd.state]; rfl
  have N0 := Fr.nil n0
  show Goes p.tables e below _ _
  rw [ef_gsum m a fz]
  refine Goes.named ?_
  intro QQ hQQ
  refine Goes.st (fun t k => XS.aloadN X0.here hx rfl (hb hby d26_0) rfl rfl k) ?_
  show Goes _ _ _ _ (s₁.setTop (mkF m 1 #[.val (.ref a)] [(.ref a)]))
  obtain ⟨T1, X1, e1, st1⟩ := getF X0 hx hZ hown (host := "") (Or.inl (hw76 hw)) Via.refl e0 P0 (g := (mkF m 1 #[.val (.ref a)] [(.ref a)])) rfl rfl (hb hby d26_1)
  refine Goes.st st1 ?_
  show Goes _ _ _ _ (T1.setTop (mkF m 4 #[.val (.ref a)] [(.int fz)]))
  obtain ⟨fs, hr, hrun, hended, hW, hsame⟩ := X1.leave (v := some (.int (nar .boolean fz))) (fun h => by rw [Bd.returns] at h; cases h)
  subst hQQ
  refine ⟨_, _, retN X1 hx (t := .boolean) Bd.returns (by simp) (hb hby d26_4) hr, hrun, hended, _, _, rfl, ?_, ⟨_, rfl⟩, hW, hsame.mono (by decide) (by decide)⟩
  show Q_gsum Z a fz h0 n0 _ T1.heap _
  rw [e1]
  exact ⟨(by rw [own_narZ hz_fz]), N0, rfl⟩
theorem ef_gmin (m : MethodId) (a : Addr) (fi : Int32) : entryFrame m #[(.ref a)] 1 = (mkF m 0 #[.val (.ref a)] []) := by first | (simp [entryFrame, mkF, argsToLocals, Value.category]; done) | rfl
def Q_gmin (Z : State) (a : Addr) (fi : Int32) (h0 : Heap) (n0 : Nat) (v : Option Value) (h : Heap) (L : List Loc) : Prop := v = some (.int fi) ∧ Fr n0 L ∧ h = h0
set_option maxRecDepth 65536 in
set_option maxHeartbeats 40000000 in
theorem rm_gmin (l : Launch) (Z : State) (a0 : Array Value) (hw : ∀ d ∈ tables_1, d.before a0 Z = true) (ws : List Jvm.Cond) (a : Addr) (fi : Int32) (h0 : Heap) (n0 : Nat) (Z0 : n0 ≤ h0.size) (P0 : Fld Z h0 a "com/example/bolter/bolter/model/ElementDefinitions$Definition" "min" "I" (.int fi)) :
    MetFree l (⟨"com/example/bolter/bolter/model/ElementDefinitions$Definition", "min", "()I"⟩ : MethodName) (head1 (Jvm.Cond.code (⟨"com/example/bolter/bolter/model/ElementDefinitions$Definition", "min", "()I"⟩ : MethodName) prog_11_method_13_code 1 (some .int) :: ws) ({ frames := 0, cells := 0, slots := 0, locals := 0 } : Room)) (fun aR U => aR = #[(.ref a)] ∧ Z.Warmed39 U.vm ∧ U.heap = h0) (fun _ _ _ _ _ => True) (fun _ U o U' => ∃ v L, o = .returned v ∧ Q_gmin Z a fi h0 n0 v U'.heap L ∧ FrameEnd U o U' L ({ frames := 0, cells := 0, slots := 0, locals := 0 } : Room).cells ({ frames := 0, cells := 0, slots := 0, locals := 0 } : Room).slots) := by
  refine MetFree.of_bodySF (plainFor_of_name pn_12) hisR ?_
  intro p e s m args below meth c s₁ Bd hml0 hP hK
  obtain ⟨rfl, hZ, hh⟩ := hP
  have hx := Bd.exec
  have hby := Bd.bytes
  have hml : c.maxLocals = 1 := hml0
  have hown : s.vm.findClass "com/example/bolter/bolter/model/ElementDefinitions$Definition" = some m.cls := findClass_of_methodNamed Bd.named
  have hnm := (name_of_methodNamed Bd.named Bd.method).1
  have X0 : Stand p l e ({ frames := 0, cells := 0, slots := 0, locals := 0 } : Room) s m #[(.ref a)] below meth c s₁ [] 0 0 := Stand.of_body Bd
  have e0 : s₁.heap = h0 := by rw [← hh, Bd.state]; rfl
  have N0 := Fr.nil n0
  show Goes p.tables e below _ _
  rw [ef_gmin m a fi]
  refine Goes.named ?_
  intro QQ hQQ
  refine Goes.st (fun t k => XS.aloadN X0.here hx rfl (hb hby d27_0) rfl rfl k) ?_
  show Goes _ _ _ _ (s₁.setTop (mkF m 1 #[.val (.ref a)] [(.ref a)]))
  obtain ⟨T1, X1, e1, st1⟩ := getF X0 hx hZ hown (host := "") (Or.inl (hw78 hw)) Via.refl e0 P0 (g := (mkF m 1 #[.val (.ref a)] [(.ref a)])) rfl rfl (hb hby d27_1)
  refine Goes.st st1 ?_
  show Goes _ _ _ _ (T1.setTop (mkF m 4 #[.val (.ref a)] [(.int fi)]))
  obtain ⟨fs, hr, hrun, hended, hW, hsame⟩ := X1.leave (v := some (.int fi)) (fun h => by rw [Bd.returns] at h; cases h)
  subst hQQ
  refine ⟨_, _, retI X1 hx Bd.returns (hb hby d27_4) hr, hrun, hended, _, _, rfl, ?_, ⟨_, rfl⟩, hW, hsame.mono (by decide) (by decide)⟩
  show Q_gmin Z a fi h0 n0 _ T1.heap _
  rw [e1]
  exact ⟨rfl, N0, rfl⟩
theorem ef_gtypes (m : MethodId) (a : Addr) (fr : Addr) : entryFrame m #[(.ref a)] 1 = (mkF m 0 #[.val (.ref a)] []) := by first | (simp [entryFrame, mkF, argsToLocals, Value.category]; done) | rfl
def Q_gtypes (Z : State) (a : Addr) (fr : Addr) (h0 : Heap) (n0 : Nat) (v : Option Value) (h : Heap) (L : List Loc) : Prop := v = some (.ref fr) ∧ Fr n0 L ∧ h = h0
set_option maxRecDepth 65536 in
set_option maxHeartbeats 40000000 in
theorem rm_gtypes (l : Launch) (Z : State) (a0 : Array Value) (hw : ∀ d ∈ tables_1, d.before a0 Z = true) (ws : List Jvm.Cond) (a : Addr) (fr : Addr) (h0 : Heap) (n0 : Nat) (Z0 : n0 ≤ h0.size) (P0 : Fld Z h0 a "com/example/bolter/bolter/model/ElementDefinitions$Definition" "types" "Ljava/util/List;" (.ref fr)) :
    MetFree l (⟨"com/example/bolter/bolter/model/ElementDefinitions$Definition", "types", "()Ljava/util/List;"⟩ : MethodName) (head1 (Jvm.Cond.code (⟨"com/example/bolter/bolter/model/ElementDefinitions$Definition", "types", "()Ljava/util/List;"⟩ : MethodName) prog_11_method_10_code 1 (some (.object "java/util/List")) :: ws) ({ frames := 0, cells := 0, slots := 0, locals := 0 } : Room)) (fun aR U => aR = #[(.ref a)] ∧ Z.Warmed39 U.vm ∧ U.heap = h0) (fun _ _ _ _ _ => True) (fun _ U o U' => ∃ v L, o = .returned v ∧ Q_gtypes Z a fr h0 n0 v U'.heap L ∧ FrameEnd U o U' L ({ frames := 0, cells := 0, slots := 0, locals := 0 } : Room).cells ({ frames := 0, cells := 0, slots := 0, locals := 0 } : Room).slots) := by
  refine MetFree.of_bodySF (plainFor_of_name pn_12) hisR ?_
  intro p e s m args below meth c s₁ Bd hml0 hP hK
  obtain ⟨rfl, hZ, hh⟩ := hP
  have hx := Bd.exec
  have hby := Bd.bytes
  have hml : c.maxLocals = 1 := hml0
  have hown : s.vm.findClass "com/example/bolter/bolter/model/ElementDefinitions$Definition" = some m.cls := findClass_of_methodNamed Bd.named
  have hnm := (name_of_methodNamed Bd.named Bd.method).1
  have X0 : Stand p l e ({ frames := 0, cells := 0, slots := 0, locals := 0 } : Room) s m #[(.ref a)] below meth c s₁ [] 0 0 := Stand.of_body Bd
  have e0 : s₁.heap = h0 := by rw [← hh, Bd.state]; rfl
  have N0 := Fr.nil n0
  show Goes p.tables e below _ _
  rw [ef_gtypes m a fr]
  refine Goes.named ?_
  intro QQ hQQ
  refine Goes.st (fun t k => XS.aloadN X0.here hx rfl (hb hby d19_0) rfl rfl k) ?_
  show Goes _ _ _ _ (s₁.setTop (mkF m 1 #[.val (.ref a)] [(.ref a)]))
  obtain ⟨T1, X1, e1, st1⟩ := getF X0 hx hZ hown (host := "") (Or.inl (hw72 hw)) Via.refl e0 P0 (g := (mkF m 1 #[.val (.ref a)] [(.ref a)])) rfl rfl (hb hby d19_1)
  refine Goes.st st1 ?_
  show Goes _ _ _ _ (T1.setTop (mkF m 4 #[.val (.ref a)] [(.ref fr)]))
  obtain ⟨fs, hr, hrun, hended, hW, hsame⟩ := X1.leave (v := some (.ref fr)) (fun h => by rw [Bd.returns] at h; cases h)
  subst hQQ
  refine ⟨_, _, retR X1 hx Bd.returns rfl rfl (hb hby d19_4) hr, hrun, hended, _, _, rfl, ?_, ⟨_, rfl⟩, hW, hsame.mono (by decide) (by decide)⟩
  show Q_gtypes Z a fr h0 n0 _ T1.heap _
  rw [e1]
  exact ⟨rfl, N0, rfl⟩
theorem ef_gtype (m : MethodId) (a : Addr) (li : Addr) (b : Addr) (aE : Addr) : entryFrame m #[(.ref a)] 1 = (mkF m 0 #[.val (.ref a)] []) := by first | (simp [entryFrame, mkF, argsToLocals, Value.category]; done) | rfl
def Q_gtype (Z : State) (a : Addr) (li : Addr) (b : Addr) (aE : Addr) (h0 : Heap) (n0 : Nat) (v : Option Value) (h : Heap) (L : List Loc) : Prop := v = some (.ref b) ∧ Fr n0 L ∧ h = h0
set_option maxRecDepth 65536 in
set_option maxHeartbeats 40000000 in
theorem rm_gtype (l : Launch) (Z : State) (a0 : Array Value) (hw : ∀ d ∈ tables_1, d.before a0 Z = true) (ws : List Jvm.Cond) (a : Addr) (li : Addr) (b : Addr) (aE : Addr) (h0 : Heap) (n0 : Nat) (Z0 : n0 ≤ h0.size) (P0 : Fld Z h0 a "com/example/bolter/bolter/model/ElementDefinitions$Definition" "types" "Ljava/util/List;" (.ref li)) (P1 : Exa Z h0 li "java/util/ImmutableCollections$List12") (P2 : Fld Z h0 li "java/util/ImmutableCollections$List12" "e0" "Ljava/lang/Object;" (.ref b)) (P3 : Fld Z h0 li "java/util/ImmutableCollections$List12" "e1" "Ljava/lang/Object;" (.ref aE)) (P4 : Exa Z h0 b "java/lang/String") (P5 : Old Z n0 h0) (OE : Sta Z Z.heap "java/util/ImmutableCollections" "EMPTY" "Ljava/lang/Object;" (.ref aE)) :
    MetFree l (⟨"com/example/bolter/bolter/model/ElementDefinitions$Definition", "type", "()Ljava/lang/String;"⟩ : MethodName) (head1 (Jvm.Cond.code (⟨"com/example/bolter/bolter/model/ElementDefinitions$Definition", "type", "()Ljava/lang/String;"⟩ : MethodName) prog_11_method_3_code 1 (some (.object "java/lang/String")) :: ws) ({ frames := 1, cells := 0, slots := 0, locals := 13 } : Room)) (fun aR U => aR = #[(.ref a)] ∧ Z.Warmed39 U.vm ∧ U.heap = h0) (fun _ _ _ _ _ => True) (fun _ U o U' => ∃ v L, o = .returned v ∧ Q_gtype Z a li b aE h0 n0 v U'.heap L ∧ FrameEnd U o U' L ({ frames := 1, cells := 0, slots := 0, locals := 13 } : Room).cells ({ frames := 1, cells := 0, slots := 0, locals := 13 } : Room).slots) := by
  refine MetFree.of_bodySF (plainFor_of_name pn_12) hisR ?_
  intro p e s m args below meth c s₁ Bd hml0 hP hK
  obtain ⟨rfl, hZ, hh⟩ := hP
  have hx := Bd.exec
  have hby := Bd.bytes
  have hml : c.maxLocals = 1 := hml0
  have hown : s.vm.findClass "com/example/bolter/bolter/model/ElementDefinitions$Definition" = some m.cls := findClass_of_methodNamed Bd.named
  have hnm := (name_of_methodNamed Bd.named Bd.method).1
  have X0 : Stand p l e ({ frames := 1, cells := 0, slots := 0, locals := 13 } : Room) s m #[(.ref a)] below meth c s₁ [] 0 0 := Stand.of_body Bd
  have e0 : s₁.heap = h0 := by rw [← hh, Bd.state]; rfl
  have N0 := Fr.nil n0
  show Goes p.tables e below _ _
  rw [ef_gtype m a li b aE]
  refine Goes.named ?_
  intro QQ hQQ
  refine Goes.st (fun t k => XS.aloadN X0.here hx rfl (hb hby d25_0) rfl rfl k) ?_
  show Goes _ _ _ _ (s₁.setTop (mkF m 1 #[.val (.ref a)] [(.ref a)]))
  obtain ⟨T1, X1, e1, st1⟩ := getF X0 hx hZ hown (host := "") (Or.inl (hw72 hw)) Via.refl e0 P0 (g := (mkF m 1 #[.val (.ref a)] [(.ref a)])) rfl rfl (hb hby d25_1)
  refine Goes.st st1 ?_
  show Goes _ _ _ _ (T1.setTop (mkF m 4 #[.val (.ref a)] [(.ref li)]))
  obtain ⟨cq2, kq2, q2a, q2b, q2c⟩ := isOf hZ e1 P1
  obtain ⟨_, _, ⟨T2, L2, k2, n2⟩, -, X2, ⟨Lc2, hQ2, l2, y2, z2⟩, st2⟩ := X1.interfaceBack hx (xi := (⟨"java/util/List", "size", "()I"⟩ : MethodName)) (y := (⟨"java/util/ImmutableCollections$List12", "size", "()I"⟩ : MethodName)) hown (mvT hZ (hw164 hw)) (mvT hZ (hw143 hw)) (mvT hZ (hw144 hw)) (mvT hZ (hw145 hw)) (mvT hZ (hw146 hw)) (mvT hZ (hw147 hw)) (mvT hZ (hw148 hw)) (mvT hZ (hw149 hw)) (by decide) (backOf (W := 0) (rm_sz12 l Z a0 hw [] li aE h0 n0 Z0 P3 P5 OE) hZ (hw150 hw) (hw92 hw) (by decide) (by decide)) q2a q2b q2c (g := (mkF m 4 #[.val (.ref a)] [(.ref li)])) rfl (by rw [hml]; rfl) (Steps.refl _) (argsL := []) (rest := []) (lenOf pd_10 rfl) rfl (by show 2 * 0 + _ ≤ _; exact Nat.le_of_eq rfl) (hb hby d25_4) (fun _ _ => ⟨rfl, e1, (by decide : 0 + 0 ≤ _), (by decide : 0 + 0 ≤ _)⟩)
  dsimp only [Pt.U, Pt.locs, Pt.cells, Pt.slots] at X2 l2 y2 z2 st2 hQ2
  subst l2 y2 z2
  obtain ⟨rfl, N2q, K2⟩ := hQ2
  have N2 := Fr.app N0 N2q
  refine Goes.tr st2 ?_
  show Goes _ _ _ _ (T2.setTop (mkF m 9 #[.val (.ref a)] [(.int (1 : Int32))]))
  refine Goes.st (fun t k => XS.iconst X2.here hx rfl (hb hby d25_9) k) ?_
  show Goes _ _ _ _ (T2.setTop (mkF m 10 #[.val (.ref a)] [(.int (1 : Int32)), (.int (1 : Int32))]))
  refine Goes.st (fun t k => XS.icmpNo X2.here hx rfl (hb hby d25_10) rfl (teq (by decide : (1 : Int32) = (1 : Int32))).2 k) ?_
  show Goes _ _ _ _ (T2.setTop (mkF m 13 #[.val (.ref a)] []))
  refine Goes.st (fun t k => XS.aloadN X2.here hx rfl (hb hby d25_13) rfl rfl k) ?_
  show Goes _ _ _ _ (T2.setTop (mkF m 14 #[.val (.ref a)] [(.ref a)]))
  obtain ⟨T3, X3, e3, st3⟩ := getF X2 hx hZ hown (host := "") (Or.inl (hw72 hw)) Via.refl K2 P0 (g := (mkF m 14 #[.val (.ref a)] [(.ref a)])) rfl rfl (hb hby d25_14)
  refine Goes.st st3 ?_
  show Goes _ _ _ _ (T3.setTop (mkF m 17 #[.val (.ref a)] [(.ref li)]))
  refine Goes.st (fun t k => XS.iconst X3.here hx rfl (hb hby d25_17) k) ?_
  show Goes _ _ _ _ (T3.setTop (mkF m 18 #[.val (.ref a)] [(.int (0 : Int32)), (.ref li)]))
  obtain ⟨cq4, kq4, q4a, q4b, q4c⟩ := isOf hZ e3 P1
  obtain ⟨_, _, ⟨T4, L4, k4, n4⟩, -, X4, ⟨Lc4, hQ4, l4, y4, z4⟩, st4⟩ := X3.interfaceBack hx (xi := (⟨"java/util/List", "get", "(I)Ljava/lang/Object;"⟩ : MethodName)) (y := (⟨"java/util/ImmutableCollections$List12", "get", "(I)Ljava/lang/Object;"⟩ : MethodName)) hown (mvT hZ (hw165 hw)) (mvT hZ (hw152 hw)) (mvT hZ (hw153 hw)) (mvT hZ (hw154 hw)) (mvT hZ (hw155 hw)) (mvT hZ (hw156 hw)) (mvT hZ (hw157 hw)) (mvT hZ (hw149 hw)) (by decide) (backOf (W := 0) (rm_get12 l Z a0 hw [] li b h0 n0 Z0 P2) hZ (hw158 hw) (hw92 hw) (by decide) (by decide)) q4a q4b q4c (g := (mkF m 18 #[.val (.ref a)] [(.int (0 : Int32)), (.ref li)])) rfl (by rw [hml]; rfl) (Steps.refl _) (argsL := [(.int (0 : Int32))]) (rest := []) (lenOf pd_11 rfl) rfl (by show 2 * 0 + _ ≤ _; exact Nat.le_of_eq rfl) (hb hby d25_18) (fun _ _ => ⟨rfl, e3, (by decide : 0 + 0 ≤ _), (by decide : 0 + 0 ≤ _)⟩)
  dsimp only [Pt.U, Pt.locs, Pt.cells, Pt.slots] at X4 l4 y4 z4 st4 hQ4
  subst l4 y4 z4
  obtain ⟨rfl, N4q, K4⟩ := hQ4
  have N4 := Fr.app N2 N4q
  refine Goes.tr st4 ?_
  show Goes _ _ _ _ (T4.setTop (mkF m 23 #[.val (.ref a)] [(.ref b)]))
  obtain ⟨T5, X5, e5, st5⟩ := castY X4 hx hZ hown (hw166 hw) K4 (Ins.self P4) (g := (mkF m 23 #[.val (.ref a)] [(.ref b)])) rfl rfl (hb hby d25_23)
  refine Goes.st st5 ?_
  show Goes _ _ _ _ (T5.setTop (mkF m 26 #[.val (.ref a)] [(.ref b)]))
  refine Goes.st (fun t k => XS.goto X5.here hx rfl (pc0 := 26) (pc' := 30) rfl (hb hby d25_26) (by decide) (by decide) k) ?_
  show Goes _ _ _ _ (T5.setTop (mkF m 30 #[.val (.ref a)] [(.ref b)]))
  obtain ⟨fs, hr, hrun, hended, hW, hsame⟩ := X5.leave (v := some (.ref b)) (fun h => by rw [Bd.returns] at h; cases h)
  subst hQQ
  refine ⟨_, _, retR X5 hx Bd.returns rfl rfl (hb hby d25_30) hr, hrun, hended, _, _, rfl, ?_, ⟨_, rfl⟩, hW, hsame.mono (by decide) (by decide)⟩
  show Q_gtype Z a li b aE h0 n0 _ T5.heap _
  rw [e5]
  exact ⟨rfl, N4, rfl⟩
theorem ef_as (m : MethodId) (a : Addr) (b : Addr) (pa : Addr) (u1 : Value) (sm : Int32) (mn : Int32) (aE : Addr) (r1 : u1.isRef = true) : entryFrame m #[(.ref a), (.ref b)] 2 = (mkF m 0 #[.val (.ref a), .val (.ref b)] []) := by rcases ref_cases r1 with rfl | ⟨_, rfl⟩ <;> (simp [entryFrame, mkF, argsToLocals, Value.category]; done)
def Q_as (Z : State) (a : Addr) (b : Addr) (pa : Addr) (u1 : Value) (sm : Int32) (mn : Int32) (aE : Addr) (h0 : Heap) (n0 : Nat) (v : Option Value) (h : Heap) (L : List Loc) : Prop := ∃ (d : Addr) (li : Addr), v = some (.ref d) ∧ Fr n0 L ∧ Keep h0 h [] ∧ Exa Z h d "com/example/bolter/bolter/model/ElementDefinitions$Definition" ∧ Fld Z h d "com/example/bolter/bolter/model/ElementDefinitions$Definition" "path" "Ljava/lang/String;" (.ref pa) ∧ Fld Z h d "com/example/bolter/bolter/model/ElementDefinitions$Definition" "types" "Ljava/util/List;" (.ref li) ∧ Fld Z h d "com/example/bolter/bolter/model/ElementDefinitions$Definition" "valueSet" "Ljava/lang/String;" u1 ∧ Fld Z h d "com/example/bolter/bolter/model/ElementDefinitions$Definition" "summary" "Z" (.int sm) ∧ Fld Z h d "com/example/bolter/bolter/model/ElementDefinitions$Definition" "min" "I" (.int mn) ∧ Exa Z h li "java/util/ImmutableCollections$List12" ∧ Fld Z h li "java/util/ImmutableCollections$List12" "e0" "Ljava/lang/Object;" (.ref b) ∧ Fld Z h li "java/util/ImmutableCollections$List12" "e1" "Ljava/lang/Object;" (.ref aE) ∧ h0.size ≤ d ∧ h0.size ≤ li ∧ d ≠ li
set_option maxRecDepth 65536 in
set_option maxHeartbeats 40000000 in
theorem rm_as (l : Launch) (Z : State) (a0 : Array Value) (hw : ∀ d ∈ tables_1, d.before a0 Z = true) (ws : List Jvm.Cond) (a : Addr) (b : Addr) (pa : Addr) (u1 : Value) (sm : Int32) (mn : Int32) (aE : Addr) (h0 : Heap) (n0 : Nat) (Z0 : n0 ≤ h0.size) (P0 : Fld Z h0 a "com/example/bolter/bolter/model/ElementDefinitions$Definition" "path" "Ljava/lang/String;" (.ref pa)) (P1 : Fld Z h0 a "com/example/bolter/bolter/model/ElementDefinitions$Definition" "valueSet" "Ljava/lang/String;" u1) (P2 : Fld Z h0 a "com/example/bolter/bolter/model/ElementDefinitions$Definition" "summary" "Z" (.int sm)) (P3 : Fld Z h0 a "com/example/bolter/bolter/model/ElementDefinitions$Definition" "min" "I" (.int mn)) (P4 : Exa Z h0 b "java/lang/String") (P5 : Old Z n0 h0) (r1 : u1.isRef = true) (hz_sm : sm = 0 ∨ sm = 1) (OE : Sta Z Z.heap "java/util/ImmutableCollections" "EMPTY" "Ljava/lang/Object;" (.ref aE)) :
    MetFree l (⟨"com/example/bolter/bolter/model/ElementDefinitions$Definition", "as", "(Ljava/lang/String;)Lcom/example/bolter/bolter/model/ElementDefinitions$Definition;"⟩ : MethodName) (head1 (Jvm.Cond.code (⟨"com/example/bolter/bolter/model/ElementDefinitions$Definition", "as", "(Ljava/lang/String;)Lcom/example/bolter/bolter/model/ElementDefinitions$Definition;"⟩ : MethodName) prog_11_method_4_code 2 (some (.object "com/example/bolter/bolter/model/ElementDefinitions$Definition")) :: ws) ({ frames := 6, cells := 2, slots := 7, locals := 77 } : Room)) (fun aR U => aR = #[(.ref a), (.ref b)] ∧ Z.Warmed39 U.vm ∧ U.heap = h0) (fun _ _ _ _ _ => True) (fun _ U o U' => ∃ v L, o = .returned v ∧ Q_as Z a b pa u1 sm mn aE h0 n0 v U'.heap L ∧ FrameEnd U o U' L ({ frames := 6, cells := 2, slots := 7, locals := 77 } : Room).cells ({ frames := 6, cells := 2, slots := 7, locals := 77 } : Room).slots) := by
  refine MetFree.of_bodySF (plainFor_of_name pn_12) hisR ?_
  intro p e s m args below meth c s₁ Bd hml0 hP hK
  obtain ⟨rfl, hZ, hh⟩ := hP
  have hx := Bd.exec
  have hby := Bd.bytes
  have hml : c.maxLocals = 2 := hml0
  have hown : s.vm.findClass "com/example/bolter/bolter/model/ElementDefinitions$Definition" = some m.cls := findClass_of_methodNamed Bd.named
  have hnm := (name_of_methodNamed Bd.named Bd.method).1
  have X0 : Stand p l e ({ frames := 6, cells := 2, slots := 7, locals := 77 } : Room) s m #[(.ref a), (.ref b)] below meth c s₁ [] 0 0 := Stand.of_body Bd
  have e0 : s₁.heap = h0 := by rw [← hh, Bd.state]; rfl
  have N0 := Fr.nil n0
  show Goes p.tables e below _ _
  rw [ef_as m a b pa u1 sm mn aE r1]
  refine Goes.named ?_
  intro QQ hQQ
  obtain ⟨T1, h1, X1, e1, E1, A1, D1, -, st1⟩ := newO X0 hx hZ hown (hw85 hw) (hw59 hw) (hw60 hw) e0 (g := (mkF m 0 #[.val (.ref a), .val (.ref b)] [])) rfl (hb hby d13_0) (by decide) (by decide)
  obtain ⟨b1, g1⟩ : ∃ z, z = h0.size := ⟨_, rfl⟩
  rw [← g1] at A1 D1 st1
  have F1_path : Fld Z h1 b1 "com/example/bolter/bolter/model/ElementDefinitions$Definition" "path" "Ljava/lang/String;" .null := D1 (Or.inr (hw71 hw)) (ty := (.object "java/lang/String")) (by decide)
  have F1_types : Fld Z h1 b1 "com/example/bolter/bolter/model/ElementDefinitions$Definition" "types" "Ljava/util/List;" .null := D1 (Or.inr (hw73 hw)) (ty := (.object "java/util/List")) (by decide)
  have F1_valueSet : Fld Z h1 b1 "com/example/bolter/bolter/model/ElementDefinitions$Definition" "valueSet" "Ljava/lang/String;" .null := D1 (Or.inr (hw75 hw)) (ty := (.object "java/lang/String")) (by decide)
  have F1_summary : Fld Z h1 b1 "com/example/bolter/bolter/model/ElementDefinitions$Definition" "summary" "Z" (.int (0 : Int32)) := D1 (Or.inr (hw77 hw)) (ty := .boolean) (by decide)
  have F1_min : Fld Z h1 b1 "com/example/bolter/bolter/model/ElementDefinitions$Definition" "min" "I" (.int (0 : Int32)) := D1 (Or.inr (hw79 hw)) (ty := .int) (by decide)
  refine Goes.st st1 ?_
  show Goes _ _ _ _ (T1.setTop (mkF m 3 #[.val (.ref a), .val (.ref b)] [(.ref b1)]))
  refine Goes.st (fun t k => XS.dup X1.here hx rfl (hb hby d13_3) rfl rfl k) ?_
  show Goes _ _ _ _ (T1.setTop (mkF m 4 #[.val (.ref a), .val (.ref b)] [(.ref b1), (.ref b1)]))
  refine Goes.st (fun t k => XS.aloadN X1.here hx rfl (hb hby d13_4) rfl rfl k) ?_
  show Goes _ _ _ _ (T1.setTop (mkF m 5 #[.val (.ref a), .val (.ref b)] [(.ref a), (.ref b1), (.ref b1)]))
  have f2 : Fld Z h1 a "com/example/bolter/bolter/model/ElementDefinitions$Definition" "path" "Ljava/lang/String;" (.ref pa) := (P0.ext E1)
  obtain ⟨T3, X3, e3, st3⟩ := getF X1 hx hZ hown (host := "") (Or.inl (hw70 hw)) Via.refl e1 f2 (g := (mkF m 5 #[.val (.ref a), .val (.ref b)] [(.ref a), (.ref b1), (.ref b1)])) rfl rfl (hb hby d13_5)
  refine Goes.st st3 ?_
  show Goes _ _ _ _ (T3.setTop (mkF m 8 #[.val (.ref a), .val (.ref b)] [(.ref pa), (.ref b1), (.ref b1)]))
  refine Goes.st (fun t k => XS.aloadN X3.here hx rfl (hb hby d13_8) rfl rfl k) ?_
  show Goes _ _ _ _ (T3.setTop (mkF m 9 #[.val (.ref a), .val (.ref b)] [(.ref b), (.ref pa), (.ref b1), (.ref b1)]))
  have f5 : Old Z n0 h1 := (P5.ext E1)
  obtain ⟨_, _, ⟨T4, L4, k4, n4⟩, -, X4, ⟨Lc4, hQ4, l4, y4, z4⟩, st4⟩ := Jvm.LawKit.callS X3 hx (y := (⟨"java/util/List", "of", "(Ljava/lang/Object;)Ljava/util/List;"⟩ : MethodName)) hown (mvT hZ (hw86 hw)) (mvT hZ (hw87 hw)) (mvT hZ (hw88 hw)) (mvT hZ (hw89 hw)) (by decide) (backOf (W := 3) (rm_lof l Z a0 hw [] b aE h1 n0 (Nat.le_trans Z0 E1.1) f5 OE) hZ (hw89 hw) (hw88 hw) (by decide) (by decide)) (g := (mkF m 9 #[.val (.ref a), .val (.ref b)] [(.ref b), (.ref pa), (.ref b1), (.ref b1)])) rfl (by rw [hml]; rfl) (argsL := [(.ref b)]) (rest := [(.ref pa), (.ref b1), (.ref b1)]) (lenOf pd_12 rfl) rfl (by show 2 * 0 + _ ≤ _; exact Nat.le_of_eq rfl) (hb hby d13_9) (fun _ _ => ⟨rfl, e3, (by decide : 1 + 1 ≤ _), (by decide : 5 + 2 ≤ _)⟩)
  dsimp only [Pt.U, Pt.locs, Pt.cells, Pt.slots] at X4 l4 y4 z4 st4 hQ4
  subst l4 y4 z4
  obtain ⟨li4, rfl, N4q, K4, F4_0, F4_1, F4_2, lo4_0⟩ := hQ4
  have N4 := Fr.app N0 N4q
  refine Goes.st st4 ?_
  show Goes _ _ _ _ (T4.setTop (mkF m 12 #[.val (.ref a), .val (.ref b)] [(.ref li4), (.ref pa), (.ref b1), (.ref b1)]))
  refine Goes.st (fun t k => XS.aloadN X4.here hx rfl (hb hby d13_12) rfl rfl k) ?_
  show Goes _ _ _ _ (T4.setTop (mkF m 13 #[.val (.ref a), .val (.ref b)] [(.ref a), (.ref li4), (.ref pa), (.ref b1), (.ref b1)]))
  have f6 : Fld Z T4.heap a "com/example/bolter/bolter/model/ElementDefinitions$Definition" "valueSet" "Ljava/lang/String;" u1 := ((P1.ext E1).keep K4 nin0)
  obtain ⟨T7, X7, e7, st7⟩ := getF X4 hx hZ hown (host := "") (Or.inl (hw74 hw)) Via.refl rfl f6 (g := (mkF m 13 #[.val (.ref a), .val (.ref b)] [(.ref a), (.ref li4), (.ref pa), (.ref b1), (.ref b1)])) rfl rfl (hb hby d13_13)
  refine Goes.st st7 ?_
  show Goes _ _ _ _ (T7.setTop (mkF m 16 #[.val (.ref a), .val (.ref b)] [u1, (.ref li4), (.ref pa), (.ref b1), (.ref b1)]))
  refine Goes.st (fun t k => XS.aloadN X7.here hx rfl (hb hby d13_16) rfl rfl k) ?_
  show Goes _ _ _ _ (T7.setTop (mkF m 17 #[.val (.ref a), .val (.ref b)] [(.ref a), u1, (.ref li4), (.ref pa), (.ref b1), (.ref b1)]))
  have f8 : Fld Z T4.heap a "com/example/bolter/bolter/model/ElementDefinitions$Definition" "summary" "Z" (.int sm) := ((P2.ext E1).keep K4 nin0)
  obtain ⟨T9, X9, e9, st9⟩ := getF X7 hx hZ hown (host := "") (Or.inl (hw76 hw)) Via.refl e7 f8 (g := (mkF m 17 #[.val (.ref a), .val (.ref b)] [(.ref a), u1, (.ref li4), (.ref pa), (.ref b1), (.ref b1)])) rfl rfl (hb hby d13_17)
  refine Goes.st st9 ?_
  show Goes _ _ _ _ (T9.setTop (mkF m 20 #[.val (.ref a), .val (.ref b)] [(.int sm), u1, (.ref li4), (.ref pa), (.ref b1), (.ref b1)]))
  refine Goes.st (fun t k => XS.aloadN X9.here hx rfl (hb hby d13_20) rfl rfl k) ?_
  show Goes _ _ _ _ (T9.setTop (mkF m 21 #[.val (.ref a), .val (.ref b)] [(.ref a), (.int sm), u1, (.ref li4), (.ref pa), (.ref b1), (.ref b1)]))
  have f10 : Fld Z T4.heap a "com/example/bolter/bolter/model/ElementDefinitions$Definition" "min" "I" (.int mn) := ((P3.ext E1).keep K4 nin0)
  obtain ⟨T11, X11, e11, st11⟩ := getF X9 hx hZ hown (host := "") (Or.inl (hw78 hw)) Via.refl e9 f10 (g := (mkF m 21 #[.val (.ref a), .val (.ref b)] [(.ref a), (.int sm), u1, (.ref li4), (.ref pa), (.ref b1), (.ref b1)])) rfl rfl (hb hby d13_21)
  refine Goes.st st11 ?_
  show Goes _ _ _ _ (T11.setTop (mkF m 24 #[.val (.ref a), .val (.ref b)] [(.int mn), (.int sm), u1, (.ref li4), (.ref pa), (.ref b1), (.ref b1)]))
  have f13 : Exa Z T4.heap b1 "com/example/bolter/bolter/model/ElementDefinitions$Definition" := (A1.keep K4)
  have f14 : Fld Z T4.heap b1 "com/example/bolter/bolter/model/ElementDefinitions$Definition" "path" "Ljava/lang/String;" .null := (F1_path.keep K4 nin0)
  have f15 : Fld Z T4.heap b1 "com/example/bolter/bolter/model/ElementDefinitions$Definition" "types" "Ljava/util/List;" .null := (F1_types.keep K4 nin0)
  have f16 : Fld Z T4.heap b1 "com/example/bolter/bolter/model/ElementDefinitions$Definition" "valueSet" "Ljava/lang/String;" .null := (F1_valueSet.keep K4 nin0)
  have f17 : Fld Z T4.heap b1 "com/example/bolter/bolter/model/ElementDefinitions$Definition" "summary" "Z" (.int (0 : Int32)) := (F1_summary.keep K4 nin0)
  have f18 : Fld Z T4.heap b1 "com/example/bolter/bolter/model/ElementDefinitions$Definition" "min" "I" (.int (0 : Int32)) := (F1_min.keep K4 nin0)
  obtain ⟨_, _, ⟨T12, L12, k12, n12⟩, -, X12, ⟨Lc12, hQ12, l12, y12, z12⟩, st12⟩ := X11.specialBack hx (y := (⟨"com/example/bolter/bolter/model/ElementDefinitions$Definition", "<init>", "(Ljava/lang/String;Ljava/util/List;Ljava/lang/String;ZI)V"⟩ : MethodName)) rfl hown (mvT hZ (hw121 hw)) (mvT hZ (hw62 hw)) (mvT hZ (hw63 hw)) (by decide) (backOf (W := 1) (rm_dinit l Z a0 hw [] b1 pa li4 u1 sm mn T4.heap n0 (Nat.le_trans Z0 (Nat.le_trans E1.1 K4.1)) f13 f14 f15 f16 f17 f18 (Nat.le_trans Z0 (Nat.le_of_eq g1.symm)) r1 hz_sm) hZ (hw63 hw) (hw60 hw) (by decide) (by decide)) (g := (mkF m 24 #[.val (.ref a), .val (.ref b)] [(.int mn), (.int sm), u1, (.ref li4), (.ref pa), (.ref b1), (.ref b1)])) rfl (by rw [hml]; rfl) (Steps.refl _) (a := b1) (argsL := [(.ref pa), (.ref li4), u1, (.int sm), (.int mn)]) (rest := [(.ref b1)]) (lenOf pd_13 rfl) rfl (by show 2 * 0 + _ ≤ _; exact Nat.le_of_eq rfl) (hb hby d13_24) (fun _ _ => ⟨rfl, e11, (by decide : 2 + 0 ≤ _), (by decide : 7 + 0 ≤ _)⟩)
  dsimp only [Pt.U, Pt.locs, Pt.cells, Pt.slots] at X12 l12 y12 z12 st12 hQ12
  subst l12 y12 z12
  obtain ⟨rfl, N12q, K12, F12_0, F12_1, F12_2, F12_3, F12_4, F12_5⟩ := hQ12
  have N12 := Fr.app N4 N12q
  refine Goes.tr st12 ?_
  show Goes _ _ _ _ (T12.setTop (mkF m 27 #[.val (.ref a), .val (.ref b)] [(.ref b1)]))
  have kp19 : Keep h0 h1 [] := (Keep.refl h0 []).ext E1
  have kp20 : Keep h0 T4.heap [] := kp19.trans K4 all0
  have kp21 : Keep h0 T12.heap [] := kp20.trans K12 (allS (Or.inr (Nat.le_of_eq g1.symm)) all0)
  have f22 : Exa Z T12.heap li4 "java/util/ImmutableCollections$List12" := (F4_0.keep K12)
  have f23 : Fld Z T12.heap li4 "java/util/ImmutableCollections$List12" "e0" "Ljava/lang/Object;" (.ref b) := (F4_1.keep K12 (ninS (Ne.symm (Nat.ne_of_lt (Nat.lt_of_lt_of_le A1.lt lo4_0))) nin0))
  have f24 : Fld Z T12.heap li4 "java/util/ImmutableCollections$List12" "e1" "Ljava/lang/Object;" (.ref aE) := (F4_2.keep K12 (ninS (Ne.symm (Nat.ne_of_lt (Nat.lt_of_lt_of_le A1.lt lo4_0))) nin0))
  obtain ⟨fs, hr, hrun, hended, hW, hsame⟩ := X12.leave (v := some (.ref b1)) (fun h => by rw [Bd.returns] at h; cases h)
  subst hQQ
  refine ⟨_, _, retR X12 hx Bd.returns rfl rfl (hb hby d13_27) hr, hrun, hended, _, _, rfl, ?_, ⟨_, rfl⟩, hW, hsame.mono (by decide) (by decide)⟩
  show Q_as Z a b pa u1 sm mn aE h0 n0 _ T12.heap _
  exact ⟨b1, li4, rfl, N12, kp21, F12_0, F12_1, F12_2, F12_3, F12_4, F12_5, f22, f23, f24, (Nat.le_of_eq g1.symm), (Nat.le_trans E1.1 lo4_0), (Nat.ne_of_lt (Nat.lt_of_lt_of_le A1.lt lo4_0))⟩
theorem ef_draw (m : MethodId) (p0 : Int32) (G1 : Int32) : entryFrame m #[(.int p0)] 2 = (mkF m 0 #[.val (.int p0), .unset] []) := by first | (simp [entryFrame, mkF, argsToLocals, Value.category]; done) | rfl
def Q_draw (Z : State) (p0 : Int32) (G1 : Int32) (h0 : Heap) (n0 : Nat) (v : Option Value) (h : Heap) (L : List Loc) : Prop := ∃ (r : Addr) (t : Addr) (kb : ClassId) (cs : List Int32), v = some (.ref r) ∧ Fr n0 L ∧ Keep h0 h [] ∧ Str Z h r t kb cs ∧ h0.size ≤ r ∧ h0.size ≤ t ∧ r ≠ t
set_option maxRecDepth 65536 in
set_option maxHeartbeats 40000000 in
theorem rm_draw (l : Launch) (Z : State) (a0 : Array Value) (hw : ∀ d ∈ tables_1, d.before a0 Z = true) (ws : List Jvm.Cond) (p0 : Int32) (G1 : Int32) (h0 : Heap) (n0 : Nat) (Z0 : n0 ≤ h0.size) (P0 : Old Z n0 h0) (O2 : Sta Z Z.heap "java/lang/String" "COMPACT_STRINGS" "Z" (.int G1)) (P5 : ¬ (G1 = (0 : Int32))) :
    MetFree l (⟨"com/example/bolter/bolter/model/DefinitionAsPinLaw", "draw", "(I)Ljava/lang/String;"⟩ : MethodName) (head1 (Jvm.Cond.code (⟨"com/example/bolter/bolter/model/DefinitionAsPinLaw", "draw", "(I)Ljava/lang/String;"⟩ : MethodName) method_3_code 2 (some (.object "java/lang/String")) :: ws) ({ frames := 4, cells := 3, slots := 8, locals := 66 } : Room)) (fun aR U => aR = #[(.int p0)] ∧ Z.Warmed39 U.vm ∧ U.heap = h0) (fun _ _ _ _ _ => True) (fun _ U o U' => ∃ v L, o = .returned v ∧ Q_draw Z p0 G1 h0 n0 v U'.heap L ∧ FrameEnd U o U' L ({ frames := 4, cells := 3, slots := 8, locals := 66 } : Room).cells ({ frames := 4, cells := 3, slots := 8, locals := 66 } : Room).slots) := by
  refine MetFree.of_bodySF (plainFor_of_name pn_13) hisR ?_
  intro p e s m args below meth c s₁ Bd hml0 hP hK
  obtain ⟨rfl, hZ, hh⟩ := hP
  have hx := Bd.exec
  have hby := Bd.bytes
  have hml : c.maxLocals = 2 := hml0
  have hown : s.vm.findClass "com/example/bolter/bolter/model/DefinitionAsPinLaw" = some m.cls := findClass_of_methodNamed Bd.named
  have hnm := (name_of_methodNamed Bd.named Bd.method).1
  have X0 : Stand p l e ({ frames := 4, cells := 3, slots := 8, locals := 66 } : Room) s m #[(.int p0)] below meth c s₁ [] 0 0 := Stand.of_body Bd
  have e0 : s₁.heap = h0 := by rw [← hh, Bd.state]; rfl
  have N0 := Fr.nil n0
  show Goes p.tables e below _ _
  rw [ef_draw m p0 G1]
  refine Goes.named ?_
  intro QQ hQQ
  refine Goes.st (fun t k => XS.iconst X0.here hx rfl (hb hby d1_0) k) ?_
  show Goes _ _ _ _ (s₁.setTop (mkF m 1 #[.val (.int p0), .unset] [(.int (2 : Int32))]))
  obtain ⟨T1, h1, k1, X1, e1, E1, A1, st1⟩ := newP X0 hx hZ (aty := .char) (hw4 hw) e0 (g := (mkF m 1 #[.val (.int p0), .unset] [(.int (2 : Int32))])) rfl (hb hby d1_1) rfl (by decide) (cap := 2) (by decide) (by decide) (by decide) (by decide)
  obtain ⟨b1, g1⟩ : ∃ z, z = h0.size := ⟨_, rfl⟩
  rw [← g1] at A1 st1
  have V1 : Arv Z h1 b1 k1 .char (2 : Int32) [(.int (0 : Int32)), (.int (0 : Int32))] (.int (0 : Int32)) := (Arv.new A1 (by decide)).pad (pad_rep [] (.int (0 : Int32)) 2)
  refine Goes.st st1 ?_
  show Goes _ _ _ _ (T1.setTop (mkF m 3 #[.val (.int p0), .unset] [(.ref b1)]))
  refine Goes.st (fun t k => XS.astoreN X1.here hx rfl (hb hby d1_3) rfl rfl (l' := #[.val (.int p0), .val (.ref b1)]) rfl k) ?_
  show Goes _ _ _ _ (T1.setTop (mkF m 4 #[.val (.int p0), .val (.ref b1)] []))
  refine Goes.st (fun t k => XS.aloadN X1.here hx rfl (hb hby d1_4) rfl rfl k) ?_
  show Goes _ _ _ _ (T1.setTop (mkF m 5 #[.val (.int p0), .val (.ref b1)] [(.ref b1)]))
  refine Goes.st (fun t k => XS.iconst X1.here hx rfl (hb hby d1_5) k) ?_
  show Goes _ _ _ _ (T1.setTop (mkF m 6 #[.val (.int p0), .val (.ref b1)] [(.int (0 : Int32)), (.ref b1)]))
  refine Goes.st (fun t k => XS.iloadN X1.here hx rfl (hb hby d1_6) rfl k) ?_
  show Goes _ _ _ _ (T1.setTop (mkF m 7 #[.val (.int p0), .val (.ref b1)] [(.int p0), (.int (0 : Int32)), (.ref b1)]))
  refine Goes.st (fun t k => XS.sipush X1.here hx rfl (hb hby d1_7) k) ?_
  show Goes _ _ _ _ (T1.setTop (mkF m 10 #[.val (.int p0), .val (.ref b1)] [(.int (255 : Int32)), (.int p0), (.int (0 : Int32)), (.ref b1)]))
  refine Goes.st (fun t k => XS.iand X1.here hx rfl (hb hby d1_10) rfl k) ?_
  show Goes _ _ _ _ (T1.setTop (mkF m 11 #[.val (.int p0), .val (.ref b1)] [(.int (p0 &&& (255 : Int32))), (.int (0 : Int32)), (.ref b1)]))
  refine Goes.st (fun t k => XS.i2c X1.here hx rfl (hb hby d1_11) rfl k) ?_
  show Goes _ _ _ _ (T1.setTop (mkF m 12 #[.val (.int p0), .val (.ref b1)] [(.int ((p0 &&& (255 : Int32)).toUInt32.toUInt16.toUInt32.toInt32)), (.int (0 : Int32)), (.ref b1)]))
  obtain ⟨oc2, oA2, oq2, oS2, oM2, oH2, oG2⟩ := id V1
  obtain ⟨T3, h3, X3, e3, W3, st3⟩ := stC X1 hx hZ e1 oA2 (j := (0 : Int32)) (inb_of oS2 ⟨by decide, by decide⟩) (g := (mkF m 12 #[.val (.int p0), .val (.ref b1)] [(.int ((p0 &&& (255 : Int32)).toUInt32.toUInt16.toUInt32.toInt32)), (.int (0 : Int32)), (.ref b1)])) rfl rfl (hb hby d1_12)
  obtain ⟨ch3, hch3⟩ : ∃ z, z = nar .char ((p0 &&& (255 : Int32)).toUInt32.toUInt16.toUInt32.toInt32) := ⟨_, rfl⟩
  rw [← hch3] at W3
  have rg3 : ¬ ch3 < 0 ∧ ¬ (255 : Int32) < ch3 := by rw [hch3]; exact own_and255 p0
  have V3 : Arv Z h3 b1 k1 .char (2 : Int32) [(.int ch3), (.int (0 : Int32))] (.int (0 : Int32)) := Arv.set oA2 oq2 oS2 oM2 oH2 oG2 (by rw [hch3]; exact fits_nar_char _) W3 0 rfl (Nat.le_of_ble_eq_true rfl)
  have N3 := Fr.snoc X3 N0 (Nat.le_trans Z0 (Nat.le_of_eq g1.symm))
  refine Goes.st st3 ?_
  show Goes _ _ _ _ (T3.setTop (mkF m 13 #[.val (.int p0), .val (.ref b1)] []))
  refine Goes.st (fun t k => XS.aloadN X3.here hx rfl (hb hby d1_13) rfl rfl k) ?_
  show Goes _ _ _ _ (T3.setTop (mkF m 14 #[.val (.int p0), .val (.ref b1)] [(.ref b1)]))
  refine Goes.st (fun t k => XS.iconst X3.here hx rfl (hb hby d1_14) k) ?_
  show Goes _ _ _ _ (T3.setTop (mkF m 15 #[.val (.int p0), .val (.ref b1)] [(.int (1 : Int32)), (.ref b1)]))
  refine Goes.st (fun t k => XS.iloadN X3.here hx rfl (hb hby d1_15) rfl k) ?_
  show Goes _ _ _ _ (T3.setTop (mkF m 16 #[.val (.int p0), .val (.ref b1)] [(.int p0), (.int (1 : Int32)), (.ref b1)]))
  refine Goes.st (fun t k => XS.bipush X3.here hx rfl (hb hby d1_16) k) ?_
  show Goes _ _ _ _ (T3.setTop (mkF m 18 #[.val (.int p0), .val (.ref b1)] [(.int (8 : Int32)), (.int p0), (.int (1 : Int32)), (.ref b1)]))
  refine Goes.st (fun t k => XS.iushr X3.here hx rfl (hb hby d1_18) rfl k) ?_
  show Goes _ _ _ _ (T3.setTop (mkF m 19 #[.val (.int p0), .val (.ref b1)] [(.int ((p0.toUInt32 >>> ((8 : Int32) &&& 31).toUInt32).toInt32)), (.int (1 : Int32)), (.ref b1)]))
  refine Goes.st (fun t k => XS.sipush X3.here hx rfl (hb hby d1_19) k) ?_
  show Goes _ _ _ _ (T3.setTop (mkF m 22 #[.val (.int p0), .val (.ref b1)] [(.int (255 : Int32)), (.int ((p0.toUInt32 >>> ((8 : Int32) &&& 31).toUInt32).toInt32)), (.int (1 : Int32)), (.ref b1)]))
  refine Goes.st (fun t k => XS.iand X3.here hx rfl (hb hby d1_22) rfl k) ?_
  show Goes _ _ _ _ (T3.setTop (mkF m 23 #[.val (.int p0), .val (.ref b1)] [(.int (((p0.toUInt32 >>> ((8 : Int32) &&& 31).toUInt32).toInt32) &&& (255 : Int32))), (.int (1 : Int32)), (.ref b1)]))
  refine Goes.st (fun t k => XS.i2c X3.here hx rfl (hb hby d1_23) rfl k) ?_
  show Goes _ _ _ _ (T3.setTop (mkF m 24 #[.val (.int p0), .val (.ref b1)] [(.int ((((p0.toUInt32 >>> ((8 : Int32) &&& 31).toUInt32).toInt32) &&& (255 : Int32)).toUInt32.toUInt16.toUInt32.toInt32)), (.int (1 : Int32)), (.ref b1)]))
  obtain ⟨oc4, oA4, oq4, oS4, oM4, oH4, oG4⟩ := id V3
  obtain ⟨T5, h5, X5, e5, W5, st5⟩ := stC X3 hx hZ e3 oA4 (j := (1 : Int32)) (inb_of oS4 ⟨by decide, by decide⟩) (g := (mkF m 24 #[.val (.int p0), .val (.ref b1)] [(.int ((((p0.toUInt32 >>> ((8 : Int32) &&& 31).toUInt32).toInt32) &&& (255 : Int32)).toUInt32.toUInt16.toUInt32.toInt32)), (.int (1 : Int32)), (.ref b1)])) rfl rfl (hb hby d1_24)
  obtain ⟨ch5, hch5⟩ : ∃ z, z = nar .char ((((p0.toUInt32 >>> ((8 : Int32) &&& 31).toUInt32).toInt32) &&& (255 : Int32)).toUInt32.toUInt16.toUInt32.toInt32) := ⟨_, rfl⟩
  rw [← hch5] at W5
  have rg5 : ¬ ch5 < 0 ∧ ¬ (255 : Int32) < ch5 := by rw [hch5]; exact own_and255 ((p0.toUInt32 >>> ((8 : Int32) &&& 31).toUInt32).toInt32)
  have V5 : Arv Z h5 b1 k1 .char (2 : Int32) [(.int ch3), (.int ch5)] (.int (0 : Int32)) := Arv.set oA4 oq4 oS4 oM4 oH4 oG4 (by rw [hch5]; exact fits_nar_char _) W5 1 rfl (Nat.le_of_ble_eq_true rfl)
  have N5 := Fr.snoc X5 N3 (Nat.le_trans Z0 (Nat.le_of_eq g1.symm))
  refine Goes.st st5 ?_
  show Goes _ _ _ _ (T5.setTop (mkF m 25 #[.val (.int p0), .val (.ref b1)] []))
  obtain ⟨T6, h6, X6, e6, E6, A6, D6, -, st6⟩ := newO X5 hx hZ hown (hw5 hw) (hw6 hw) (hw7 hw) e5 (g := (mkF m 25 #[.val (.int p0), .val (.ref b1)] [])) rfl (hb hby d1_25) (by decide) (by decide)
  obtain ⟨b6, g6⟩ : ∃ z, z = h5.size := ⟨_, rfl⟩
  rw [← g6] at A6 D6 st6
  have F6_coder : Fld Z h6 b6 "java/lang/String" "coder" "B" (.int (0 : Int32)) := D6 (Or.inr (hw31 hw)) (ty := .byte) (by decide)
  have F6_value : Fld Z h6 b6 "java/lang/String" "value" "[B" .null := D6 (Or.inr (hw33 hw)) (ty := (.array .byte)) (by decide)
  refine Goes.st st6 ?_
  show Goes _ _ _ _ (T6.setTop (mkF m 28 #[.val (.int p0), .val (.ref b1)] [(.ref b6)]))
  refine Goes.st (fun t k => XS.dup X6.here hx rfl (hb hby d1_28) rfl rfl k) ?_
  show Goes _ _ _ _ (T6.setTop (mkF m 29 #[.val (.int p0), .val (.ref b1)] [(.ref b6), (.ref b6)]))
  refine Goes.st (fun t k => XS.aloadN X6.here hx rfl (hb hby d1_29) rfl rfl k) ?_
  show Goes _ _ _ _ (T6.setTop (mkF m 30 #[.val (.int p0), .val (.ref b1)] [(.ref b1), (.ref b6), (.ref b6)]))
  have f8 : Arv Z h6 b1 k1 .char (2 : Int32) [(.int ch3), (.int ch5)] (.int (0 : Int32)) := (V5.ext E6)
  have f9 : Old Z n0 h6 := ((((P0.ext E1).wr W3 (Nat.le_trans Z0 (Nat.le_of_eq g1.symm))).wr W5 (Nat.le_trans Z0 (Nat.le_of_eq g1.symm))).ext E6)
  have hp10 : ∀ c ∈ ([ch3, ch5] : List Int32), ¬ c < 0 ∧ ¬ (255 : Int32) < c := (own_cS rg3 (own_cS rg5 own_c0))
  obtain ⟨_, _, ⟨T7, L7, k7, n7⟩, -, X7, ⟨Lc7, hQ7, l7, y7, z7⟩, st7⟩ := X6.specialBack hx (y := (⟨"java/lang/String", "<init>", "([C)V"⟩ : MethodName)) rfl hown (mvT hZ (hw8 hw)) (mvT hZ (hw9 hw)) (mvT hZ (hw10 hw)) (by decide) (StrChars.Road.backV (W := 1) hZ (own_hws hw) (kI := 4) (hw6 hw) (cs := ([ch3, ch5] : List Int32)) (bs := ([ch3, ch5] : List Int32).map (fun c => c.toInt8.toInt32)) (n := 2) (Nat.le_trans Z0 (Nat.le_trans (Nat.le_trans (Nat.le_trans E1.1 (Nat.le_of_eq W3.size.symm)) (Nat.le_of_eq W5.size.symm)) (Nat.le_of_eq g6.symm))) (Nat.le_trans Z0 (Nat.le_trans (Nat.le_trans (Nat.le_trans E1.1 (Nat.le_of_eq W3.size.symm)) (Nat.le_of_eq W5.size.symm)) E6.1)) A6 F6_value F6_coder f8 (O2.ext f9.2) P5 rfl rfl (by decide) (by decide) hp10 rfl (by decide) (by decide)) (g := (mkF m 30 #[.val (.int p0), .val (.ref b1)] [(.ref b1), (.ref b6), (.ref b6)])) rfl (by rw [hml]; rfl) (Steps.refl _) (a := b6) (argsL := [(.ref b1)]) (rest := [(.ref b6)]) (lenOf pd_14 rfl) rfl (by show 2 * 0 + _ ≤ _; exact Nat.le_of_eq rfl) (hb hby d1_30) (fun _ _ => ⟨rfl, e6, (by decide : 2 + 1 ≤ _), (by decide : 6 + 2 ≤ _)⟩)
  dsimp only [Pt.U, Pt.locs, Pt.cells, Pt.slots] at X7 l7 y7 z7 st7 hQ7
  subst l7 y7 z7
  obtain ⟨rfl, N7q, K7, Ex7, Cd7, t7, kb7, lz7, lo7, tn7, Vf7, Av7⟩ := hQ7
  have N7 := Fr.app N5 N7q
  have S7 : Str Z T7.heap b6 t7 kb7 [ch3, ch5] := ⟨Ex7, Vf7, Cd7, Av7, hp10, Nat.le_of_ble_eq_true rfl⟩
  refine Goes.tr st7 ?_
  show Goes _ _ _ _ (T7.setTop (mkF m 33 #[.val (.int p0), .val (.ref b1)] [(.ref b6)]))
  have kp11 : Keep h0 h1 [] := (Keep.refl h0 []).ext E1
  have kp12 : Keep h0 h3 [] := kp11.wr W3 (Or.inr (Nat.le_of_eq g1.symm))
  have kp13 : Keep h0 h5 [] := kp12.wr W5 (Or.inr (Nat.le_of_eq g1.symm))
  have kp14 : Keep h0 h6 [] := kp13.ext E6
  have kp15 : Keep h0 T7.heap [] := kp14.trans K7 (allS (Or.inr (Nat.le_trans (Nat.le_trans (Nat.le_trans E1.1 (Nat.le_of_eq W3.size.symm)) (Nat.le_of_eq W5.size.symm)) (Nat.le_of_eq g6.symm))) all0)
  obtain ⟨fs, hr, hrun, hended, hW, hsame⟩ := X7.leave (v := some (.ref b6)) (fun h => by rw [Bd.returns] at h; cases h)
  subst hQQ
  refine ⟨_, _, retR X7 hx Bd.returns rfl rfl (hb hby d1_33) hr, hrun, hended, _, _, rfl, ?_, ⟨_, rfl⟩, hW, hsame.mono (by decide) (by decide)⟩
  show Q_draw Z p0 G1 h0 n0 _ T7.heap _
  exact ⟨b6, t7, kb7, [ch3, ch5], rfl, N7, kp15, S7, (Nat.le_trans (Nat.le_trans (Nat.le_trans E1.1 (Nat.le_of_eq W3.size.symm)) (Nat.le_of_eq W5.size.symm)) (Nat.le_of_eq g6.symm)), (Nat.le_trans (Nat.le_trans (Nat.le_trans (Nat.le_trans E1.1 (Nat.le_of_eq W3.size.symm)) (Nat.le_of_eq W5.size.symm)) E6.1) lo7), (Ne.symm tn7)⟩
theorem ef_law (m : MethodId) (p0 : Int32) (p1 : Int32) (p2 : Int32) (p3 : Int32) (p4 : Int32) (G1 : Int32) (aE : Addr) (aD : Addr) (kD : ClassId) : entryFrame m #[(.int p0), (.int p1), (.int p2), (.int p3), (.int p4)] maxLocals = (mkF m 0 #[.val (.int p0), .val (.int p1), .val (.int p2), .val (.int p3), .val (.int p4), .unset, .unset, .unset, .unset, .unset, .unset, .unset, .unset, .unset, .unset, .unset, .unset] []) := by first | (simp [entryFrame, mkF, argsToLocals, Value.category, maxLocals]; done) | rfl
def Q_law (Z : State) (p0 : Int32) (p1 : Int32) (p2 : Int32) (p3 : Int32) (p4 : Int32) (G1 : Int32) (aE : Addr) (aD : Addr) (kD : ClassId) (h0 : Heap) (n0 : Nat) (v : Option Value) (h : Heap) (L : List Loc) : Prop := v = some (.int (1 : Int32)) ∧ Fr n0 L
set_option maxRecDepth 65536 in
set_option maxHeartbeats 40000000 in
theorem rm_law (l : Launch) (Z : State) (a0 : Array Value) (hw : ∀ d ∈ tables_1, d.before a0 Z = true) (ws : List Jvm.Cond) (p0 : Int32) (p1 : Int32) (p2 : Int32) (p3 : Int32) (p4 : Int32) (G1 : Int32) (aE : Addr) (aD : Addr) (kD : ClassId) (h0 : Heap) (n0 : Nat) (Z0 : n0 ≤ h0.size) (P0 : Old Z n0 h0) (P1 : Arv Z h0 aD kD (.object "java/lang/Object") (0 : Int32) [] .null) (O2 : Sta Z Z.heap "java/lang/String" "COMPACT_STRINGS" "Z" (.int G1)) (P5 : ¬ (G1 = (0 : Int32))) (OE : Sta Z Z.heap "java/util/ImmutableCollections" "EMPTY" "Ljava/lang/Object;" (.ref aE)) (OD : Sta Z Z.heap "java/util/ArrayList" "DEFAULTCAPACITY_EMPTY_ELEMENTDATA" "[Ljava/lang/Object;" (.ref aD)) :
    MetFree l x (head1 (Jvm.Cond.code x code maxLocals ret :: ws) room_1) (fun aR U => aR = #[(.int p0), (.int p1), (.int p2), (.int p3), (.int p4)] ∧ Z.Warmed39 U.vm ∧ U.heap = h0) (fun _ _ _ _ _ => True) (fun _ U o U' => ∃ v L, o = .returned v ∧ Q_law Z p0 p1 p2 p3 p4 G1 aE aD kD h0 n0 v U'.heap L ∧ FrameEnd U o U' L room_1.cells room_1.slots) := by
  refine MetFree.of_bodySF (plainFor_of_name pn_13) hisR ?_
  intro p e s m args below meth c s₁ Bd hml0 hP hK
  obtain ⟨rfl, hZ, hh⟩ := hP
  have hx := Bd.exec
  have hby := Bd.bytes
  have hml : c.maxLocals = 17 := hml0
  have hown : s.vm.findClass "com/example/bolter/bolter/model/DefinitionAsPinLaw" = some m.cls := findClass_of_methodNamed Bd.named
  have hnm := (name_of_methodNamed Bd.named Bd.method).1
  have X0 : Stand p l e room_1 s m #[(.int p0), (.int p1), (.int p2), (.int p3), (.int p4)] below meth c s₁ [] 0 0 := Stand.of_body Bd
  have e0 : s₁.heap = h0 := by rw [← hh, Bd.state]; rfl
  have N0 := Fr.nil n0
  show Goes p.tables e below _ _
  rw [ef_law m p0 p1 p2 p3 p4 G1 aE aD kD]
  refine Goes.named ?_
  intro QQ hQQ
  have J12 : ∀ (i5 : Int32), i5 = 0 ∨ i5 = 1 → Goes p.tables e below QQ (s₁.setTop (mkF m 12 #[.val (.int p0), .val (.int p1), .val (.int p2), .val (.int p3), .val (.int p4), .unset, .unset, .unset, .unset, .unset, .unset, .unset, .unset, .unset, .unset, .unset, .unset] [(.int i5)])) := by
    intro i5 hz_i5
    show Goes _ _ _ _ (s₁.setTop (mkF m 12 #[.val (.int p0), .val (.int p1), .val (.int p2), .val (.int p3), .val (.int p4), .unset, .unset, .unset, .unset, .unset, .unset, .unset, .unset, .unset, .unset, .unset, .unset] [(.int i5)]))
    refine Goes.st (fun t k => XS.istore X0.here hx rfl (hb hby at_12) rfl (l' := #[.val (.int p0), .val (.int p1), .val (.int p2), .val (.int p3), .val (.int p4), .val (.int i5), .unset, .unset, .unset, .unset, .unset, .unset, .unset, .unset, .unset, .unset, .unset]) rfl k) ?_
    show Goes _ _ _ _ (s₁.setTop (mkF m 14 #[.val (.int p0), .val (.int p1), .val (.int p2), .val (.int p3), .val (.int p4), .val (.int i5), .unset, .unset, .unset, .unset, .unset, .unset, .unset, .unset, .unset, .unset, .unset] []))
    have J26 : ∀ (i6 : Int32), i6 = 0 ∨ i6 = 1 → Goes p.tables e below QQ (s₁.setTop (mkF m 26 #[.val (.int p0), .val (.int p1), .val (.int p2), .val (.int p3), .val (.int p4), .val (.int i5), .unset, .unset, .unset, .unset, .unset, .unset, .unset, .unset, .unset, .unset, .unset] [(.int i6)])) := by
      intro i6 hz_i6
      show Goes _ _ _ _ (s₁.setTop (mkF m 26 #[.val (.int p0), .val (.int p1), .val (.int p2), .val (.int p3), .val (.int p4), .val (.int i5), .unset, .unset, .unset, .unset, .unset, .unset, .unset, .unset, .unset, .unset, .unset] [(.int i6)]))
      refine Goes.st (fun t k => XS.istore X0.here hx rfl (hb hby at_26) rfl (l' := #[.val (.int p0), .val (.int p1), .val (.int p2), .val (.int p3), .val (.int p4), .val (.int i5), .val (.int i6), .unset, .unset, .unset, .unset, .unset, .unset, .unset, .unset, .unset, .unset]) rfl k) ?_
      show Goes _ _ _ _ (s₁.setTop (mkF m 28 #[.val (.int p0), .val (.int p1), .val (.int p2), .val (.int p3), .val (.int p4), .val (.int i5), .val (.int i6), .unset, .unset, .unset, .unset, .unset, .unset, .unset, .unset, .unset, .unset] []))
      refine Goes.st (fun t k => XS.iload X0.here hx rfl (hb hby at_28) rfl k) ?_
      show Goes _ _ _ _ (s₁.setTop (mkF m 30 #[.val (.int p0), .val (.int p1), .val (.int p2), .val (.int p3), .val (.int p4), .val (.int i5), .val (.int i6), .unset, .unset, .unset, .unset, .unset, .unset, .unset, .unset, .unset, .unset] [(.int p4)]))
      refine Goes.st (fun t k => XS.iconst X0.here hx rfl (hb hby at_30) k) ?_
      show Goes _ _ _ _ (s₁.setTop (mkF m 31 #[.val (.int p0), .val (.int p1), .val (.int p2), .val (.int p3), .val (.int p4), .val (.int i5), .val (.int i6), .unset, .unset, .unset, .unset, .unset, .unset, .unset, .unset, .unset, .unset] [(.int (2 : Int32)), (.int p4)]))
      refine Goes.st (fun t k => XS.iushr X0.here hx rfl (hb hby at_31) rfl k) ?_
      show Goes _ _ _ _ (s₁.setTop (mkF m 32 #[.val (.int p0), .val (.int p1), .val (.int p2), .val (.int p3), .val (.int p4), .val (.int i5), .val (.int i6), .unset, .unset, .unset, .unset, .unset, .unset, .unset, .unset, .unset, .unset] [(.int ((p4.toUInt32 >>> ((2 : Int32) &&& 31).toUInt32).toInt32))]))
      refine Goes.st (fun t k => XS.iconst X0.here hx rfl (hb hby at_32) k) ?_
      show Goes _ _ _ _ (s₁.setTop (mkF m 33 #[.val (.int p0), .val (.int p1), .val (.int p2), .val (.int p3), .val (.int p4), .val (.int i5), .val (.int i6), .unset, .unset, .unset, .unset, .unset, .unset, .unset, .unset, .unset, .unset] [(.int (3 : Int32)), (.int ((p4.toUInt32 >>> ((2 : Int32) &&& 31).toUInt32).toInt32))]))
      refine Goes.st (fun t k => iremM (g := (mkF m 33 #[.val (.int p0), .val (.int p1), .val (.int p2), .val (.int p3), .val (.int p4), .val (.int i5), .val (.int i6), .unset, .unset, .unset, .unset, .unset, .unset, .unset, .unset, .unset, .unset] [(.int (3 : Int32)), (.int ((p4.toUInt32 >>> ((2 : Int32) &&& 31).toUInt32).toInt32))])) X0 hx rfl (hb hby at_33) rfl (by decide) k) ?_
      show Goes _ _ _ _ (s₁.setTop (mkF m 34 #[.val (.int p0), .val (.int p1), .val (.int p2), .val (.int p3), .val (.int p4), .val (.int i5), .val (.int i6), .unset, .unset, .unset, .unset, .unset, .unset, .unset, .unset, .unset, .unset] [(.int (((p4.toUInt32 >>> ((2 : Int32) &&& 31).toUInt32).toInt32) % (3 : Int32)))]))
      obtain ⟨i7, hi7⟩ : ∃ z, z = (((p4.toUInt32 >>> ((2 : Int32) &&& 31).toUInt32).toInt32) % (3 : Int32)) := ⟨_, rfl⟩
      have h3 : Three i7 := by rw [hi7]; exact own_ushr2 p4
      rw [← hi7]
      show Goes _ _ _ _ (s₁.setTop (mkF m 34 #[.val (.int p0), .val (.int p1), .val (.int p2), .val (.int p3), .val (.int p4), .val (.int i5), .val (.int i6), .unset, .unset, .unset, .unset, .unset, .unset, .unset, .unset, .unset, .unset] [(.int i7)]))
      refine Goes.st (fun t k => XS.istore X0.here hx rfl (hb hby at_34) rfl (l' := #[.val (.int p0), .val (.int p1), .val (.int p2), .val (.int p3), .val (.int p4), .val (.int i5), .val (.int i6), .val (.int i7), .unset, .unset, .unset, .unset, .unset, .unset, .unset, .unset, .unset]) rfl k) ?_
      show Goes _ _ _ _ (s₁.setTop (mkF m 36 #[.val (.int p0), .val (.int p1), .val (.int p2), .val (.int p3), .val (.int p4), .val (.int i5), .val (.int i6), .val (.int i7), .unset, .unset, .unset, .unset, .unset, .unset, .unset, .unset, .unset] []))
      have J49 : ∀ (i8 : Int32), i8 = 0 ∨ i8 = 1 → Goes p.tables e below QQ (s₁.setTop (mkF m 49 #[.val (.int p0), .val (.int p1), .val (.int p2), .val (.int p3), .val (.int p4), .val (.int i5), .val (.int i6), .val (.int i7), .unset, .unset, .unset, .unset, .unset, .unset, .unset, .unset, .unset] [(.int i8)])) := by
        intro i8 hz_i8
        show Goes _ _ _ _ (s₁.setTop (mkF m 49 #[.val (.int p0), .val (.int p1), .val (.int p2), .val (.int p3), .val (.int p4), .val (.int i5), .val (.int i6), .val (.int i7), .unset, .unset, .unset, .unset, .unset, .unset, .unset, .unset, .unset] [(.int i8)]))
        refine Goes.st (fun t k => XS.istore X0.here hx rfl (hb hby at_49) rfl (l' := #[.val (.int p0), .val (.int p1), .val (.int p2), .val (.int p3), .val (.int p4), .val (.int i5), .val (.int i6), .val (.int i7), .val (.int i8), .unset, .unset, .unset, .unset, .unset, .unset, .unset, .unset]) rfl k) ?_
        show Goes _ _ _ _ (s₁.setTop (mkF m 51 #[.val (.int p0), .val (.int p1), .val (.int p2), .val (.int p3), .val (.int p4), .val (.int i5), .val (.int i6), .val (.int i7), .val (.int i8), .unset, .unset, .unset, .unset, .unset, .unset, .unset, .unset] []))
        refine Goes.st (fun t k => XS.iloadN X0.here hx rfl (hb hby at_51) rfl k) ?_
        show Goes _ _ _ _ (s₁.setTop (mkF m 52 #[.val (.int p0), .val (.int p1), .val (.int p2), .val (.int p3), .val (.int p4), .val (.int i5), .val (.int i6), .val (.int i7), .val (.int i8), .unset, .unset, .unset, .unset, .unset, .unset, .unset, .unset] [(.int p0)]))
        obtain ⟨_, _, ⟨T1, L1, k1, n1⟩, -, X1, ⟨Lc1, hQ1, l1, y1, z1⟩, st1⟩ := Jvm.LawKit.callS X0 hx (y := (⟨"com/example/bolter/bolter/model/DefinitionAsPinLaw", "draw", "(I)Ljava/lang/String;"⟩ : MethodName)) hown (mvT hZ (hw0 hw)) (mvT hZ (hw1 hw)) (mvT hZ (hw2 hw)) (mvT hZ (hw3 hw)) (by decide) (backOf (W := 0) (rm_draw l Z a0 hw [] p0 G1 h0 n0 Z0 P0 O2 P5) hZ (hw3 hw) (hw2 hw) (by decide) (by decide)) (g := (mkF m 52 #[.val (.int p0), .val (.int p1), .val (.int p2), .val (.int p3), .val (.int p4), .val (.int i5), .val (.int i6), .val (.int i7), .val (.int i8), .unset, .unset, .unset, .unset, .unset, .unset, .unset, .unset] [(.int p0)])) rfl (by rw [hml]; rfl) (argsL := [(.int p0)]) (rest := []) (lenOf pd_15 rfl) rfl (by show 2 * 0 + _ ≤ _; exact Nat.le_of_eq rfl) (hb hby at_52) (fun _ _ => ⟨rfl, e0, (by decide : 0 + 3 ≤ _), (by decide : 0 + 8 ≤ _)⟩)
        dsimp only [Pt.U, Pt.locs, Pt.cells, Pt.slots] at X1 l1 y1 z1 st1 hQ1
        subst l1 y1 z1
        obtain ⟨r1, t1, kb1, cs1, rfl, N1q, K1, F1_0, lo1_0, lo1_1, ne1_0⟩ := hQ1
        have N1 := Fr.app N0 N1q
        have F1_0E := F1_0.1
        refine Goes.st st1 ?_
        show Goes _ _ _ _ (T1.setTop (mkF m 55 #[.val (.int p0), .val (.int p1), .val (.int p2), .val (.int p3), .val (.int p4), .val (.int i5), .val (.int i6), .val (.int i7), .val (.int i8), .unset, .unset, .unset, .unset, .unset, .unset, .unset, .unset] [(.ref r1)]))
        refine Goes.st (fun t k => XS.astore X1.here hx rfl (hb hby at_55) rfl rfl (l' := #[.val (.int p0), .val (.int p1), .val (.int p2), .val (.int p3), .val (.int p4), .val (.int i5), .val (.int i6), .val (.int i7), .val (.int i8), .val (.ref r1), .unset, .unset, .unset, .unset, .unset, .unset, .unset]) rfl k) ?_
        show Goes _ _ _ _ (T1.setTop (mkF m 57 #[.val (.int p0), .val (.int p1), .val (.int p2), .val (.int p3), .val (.int p4), .val (.int i5), .val (.int i6), .val (.int i7), .val (.int i8), .val (.ref r1), .unset, .unset, .unset, .unset, .unset, .unset, .unset] []))
        have Jja : ∀ (Tja : State) (hja : Heap) (Lja : List Loc) (s9 : Addr) (s10 : Addr), Stand p l e room_1 s m #[(.int p0), (.int p1), (.int p2), (.int p3), (.int p4)] below meth c Tja Lja 6 17 → Tja.heap = hja → Fr n0 Lja → n0 ≤ hja.size → n0 ≤ s9 → n0 ≤ s10 → Old Z n0 hja → Exa Z hja s9 "java/lang/String" → Exa Z hja s10 "java/lang/String" → Arv Z hja aD kD (.object "java/lang/Object") (0 : Int32) [] .null → Goes p.tables e below QQ (Tja.setTop (mkF m 78 #[.val (.int p0), .val (.int p1), .val (.int p2), .val (.int p3), .val (.int p4), .val (.int i5), .val (.int i6), .val (.int i7), .val (.int i8), .val (.ref s9), .unset, .unset, .unset, .unset, .unset, .unset, .unset] [(.ref s10)])) := by
          intro Tja hja Lja s9 s10 Xja eja Nja Zja n0ja_s9 n0ja_s10 Pja_0 Pja_1 Pja_2 Pja_3
          show Goes _ _ _ _ (Tja.setTop (mkF m 78 #[.val (.int p0), .val (.int p1), .val (.int p2), .val (.int p3), .val (.int p4), .val (.int i5), .val (.int i6), .val (.int i7), .val (.int i8), .val (.ref s9), .unset, .unset, .unset, .unset, .unset, .unset, .unset] [(.ref s10)]))
          refine Goes.st (fun t k => XS.astore Xja.here hx rfl (hb hby at_78) rfl rfl (l' := #[.val (.int p0), .val (.int p1), .val (.int p2), .val (.int p3), .val (.int p4), .val (.int i5), .val (.int i6), .val (.int i7), .val (.int i8), .val (.ref s9), .val (.ref s10), .unset, .unset, .unset, .unset, .unset, .unset]) rfl k) ?_
          show Goes _ _ _ _ (Tja.setTop (mkF m 80 #[.val (.int p0), .val (.int p1), .val (.int p2), .val (.int p3), .val (.int p4), .val (.int i5), .val (.int i6), .val (.int i7), .val (.int i8), .val (.ref s9), .val (.ref s10), .unset, .unset, .unset, .unset, .unset, .unset] []))
          refine Goes.st (fun t k => XS.iload Xja.here hx rfl (hb hby at_80) rfl k) ?_
          show Goes _ _ _ _ (Tja.setTop (mkF m 82 #[.val (.int p0), .val (.int p1), .val (.int p2), .val (.int p3), .val (.int p4), .val (.int i5), .val (.int i6), .val (.int i7), .val (.int i8), .val (.ref s9), .val (.ref s10), .unset, .unset, .unset, .unset, .unset, .unset] [(.int i6)]))
          by_cases cz2 : i6 = (0 : Int32)
          case pos =>
            refine Goes.st (fun t k => XS.ifYes Xja.here hx rfl (pc0 := 82) (pc' := 89) rfl (hb hby at_82) rfl ((if0 _ _).trans (teq cz2).1) (by decide) (by decide) k) ?_
            show Goes _ _ _ _ (Tja.setTop (mkF m 89 #[.val (.int p0), .val (.int p1), .val (.int p2), .val (.int p3), .val (.int p4), .val (.int i5), .val (.int i6), .val (.int i7), .val (.int i8), .val (.ref s9), .val (.ref s10), .unset, .unset, .unset, .unset, .unset, .unset] []))
            refine Goes.st (fun t k => XS.iloadN Xja.here hx rfl (hb hby at_89) rfl k) ?_
            show Goes _ _ _ _ (Tja.setTop (mkF m 90 #[.val (.int p0), .val (.int p1), .val (.int p2), .val (.int p3), .val (.int p4), .val (.int i5), .val (.int i6), .val (.int i7), .val (.int i8), .val (.ref s9), .val (.ref s10), .unset, .unset, .unset, .unset, .unset, .unset] [(.int p2)]))
            obtain ⟨_, _, ⟨T3, L3, k3, n3⟩, -, X3, ⟨Lc3, hQ3, l3, y3, z3⟩, st3⟩ := Jvm.LawKit.callS Xja hx (y := (⟨"com/example/bolter/bolter/model/DefinitionAsPinLaw", "draw", "(I)Ljava/lang/String;"⟩ : MethodName)) hown (mvT hZ (hw0 hw)) (mvT hZ (hw1 hw)) (mvT hZ (hw2 hw)) (mvT hZ (hw3 hw)) (by decide) (backOf (W := 0) (rm_draw l Z a0 hw [] p2 G1 hja n0 Zja Pja_0 O2 P5) hZ (hw3 hw) (hw2 hw) (by decide) (by decide)) (g := (mkF m 90 #[.val (.int p0), .val (.int p1), .val (.int p2), .val (.int p3), .val (.int p4), .val (.int i5), .val (.int i6), .val (.int i7), .val (.int i8), .val (.ref s9), .val (.ref s10), .unset, .unset, .unset, .unset, .unset, .unset] [(.int p2)])) rfl (by rw [hml]; rfl) (argsL := [(.int p2)]) (rest := []) (lenOf pd_15 rfl) rfl (by show 2 * 0 + _ ≤ _; exact Nat.le_of_eq rfl) (hb hby at_90) (fun _ _ => ⟨rfl, eja, (by decide : 6 + 3 ≤ _), (by decide : 17 + 8 ≤ _)⟩)
            dsimp only [Pt.U, Pt.locs, Pt.cells, Pt.slots] at X3 l3 y3 z3 st3 hQ3
            subst l3 y3 z3
            obtain ⟨r3, t3, kb3, cs3, rfl, N3q, K3, F3_0, lo3_0, lo3_1, ne3_0⟩ := hQ3
            have N3 := Fr.app Nja N3q
            have F3_0E := F3_0.1
            refine Goes.st st3 ?_
            show Goes _ _ _ _ (T3.setTop (mkF m 93 #[.val (.int p0), .val (.int p1), .val (.int p2), .val (.int p3), .val (.int p4), .val (.int i5), .val (.int i6), .val (.int i7), .val (.int i8), .val (.ref s9), .val (.ref s10), .unset, .unset, .unset, .unset, .unset, .unset] [(.ref r3)]))
            refine Goes.st (fun t k => XS.astore X3.here hx rfl (hb hby at_93) rfl rfl (l' := #[.val (.int p0), .val (.int p1), .val (.int p2), .val (.int p3), .val (.int p4), .val (.int i5), .val (.int i6), .val (.int i7), .val (.int i8), .val (.ref s9), .val (.ref s10), .val (.ref r3), .unset, .unset, .unset, .unset, .unset]) rfl k) ?_
            show Goes _ _ _ _ (T3.setTop (mkF m 95 #[.val (.int p0), .val (.int p1), .val (.int p2), .val (.int p3), .val (.int p4), .val (.int i5), .val (.int i6), .val (.int i7), .val (.int i8), .val (.ref s9), .val (.ref s10), .val (.ref r3), .unset, .unset, .unset, .unset, .unset] []))
            obtain ⟨T4, h4, X4, e4, E4, A4, D4, -, st4⟩ := newO X3 hx hZ hown (hw34 hw) (hw35 hw) (hw36 hw) rfl (g := (mkF m 95 #[.val (.int p0), .val (.int p1), .val (.int p2), .val (.int p3), .val (.int p4), .val (.int i5), .val (.int i6), .val (.int i7), .val (.int i8), .val (.ref s9), .val (.ref s10), .val (.ref r3), .unset, .unset, .unset, .unset, .unset] [])) rfl (hb hby at_95) (by decide) (by decide)
            obtain ⟨b4, g4⟩ : ∃ z, z = T3.heap.size := ⟨_, rfl⟩
            rw [← g4] at A4 D4 st4
            have F4_modCount : Fld Z h4 b4 "java/util/AbstractList" "modCount" "I" (.int (0 : Int32)) := D4 (Or.inl (hw54 hw)) (ty := .int) (by decide)
            have F4_elementData : Fld Z h4 b4 "java/util/ArrayList" "elementData" "[Ljava/lang/Object;" .null := D4 (Or.inl (hw57 hw)) (ty := (.array (.object "java/lang/Object"))) (by decide)
            have F4_size : Fld Z h4 b4 "java/util/ArrayList" "size" "I" (.int (0 : Int32)) := D4 (Or.inl (hw184 hw)) (ty := .int) (by decide)
            refine Goes.st st4 ?_
            show Goes _ _ _ _ (T4.setTop (mkF m 98 #[.val (.int p0), .val (.int p1), .val (.int p2), .val (.int p3), .val (.int p4), .val (.int i5), .val (.int i6), .val (.int i7), .val (.int i8), .val (.ref s9), .val (.ref s10), .val (.ref r3), .unset, .unset, .unset, .unset, .unset] [(.ref b4)]))
            refine Goes.st (fun t k => XS.dup X4.here hx rfl (hb hby at_98) rfl rfl k) ?_
            show Goes _ _ _ _ (T4.setTop (mkF m 99 #[.val (.int p0), .val (.int p1), .val (.int p2), .val (.int p3), .val (.int p4), .val (.int i5), .val (.int i6), .val (.int i7), .val (.int i8), .val (.ref s9), .val (.ref s10), .val (.ref r3), .unset, .unset, .unset, .unset, .unset] [(.ref b4), (.ref b4)]))
            have f6 : Old Z n0 h4 := ((Pja_0.keep K3 all0).ext E4)
            obtain ⟨_, _, ⟨T5, L5, k5, n5⟩, -, X5, ⟨Lc5, hQ5, l5, y5, z5⟩, st5⟩ := X4.specialBack hx (y := (⟨"java/util/ArrayList", "<init>", "()V"⟩ : MethodName)) rfl hown (mvT hZ (hw37 hw)) (mvT hZ (hw38 hw)) (mvT hZ (hw39 hw)) (by decide) (backOf (W := 1) (rm_alN l Z a0 hw [] b4 aD h4 n0 (Nat.le_trans Zja (Nat.le_trans K3.1 E4.1)) A4 F4_elementData F4_size F4_modCount f6 (Nat.le_trans Zja (Nat.le_trans K3.1 (Nat.le_of_eq g4.symm))) OD) hZ (hw39 hw) (hw36 hw) (by decide) (by decide)) (g := (mkF m 99 #[.val (.int p0), .val (.int p1), .val (.int p2), .val (.int p3), .val (.int p4), .val (.int i5), .val (.int i6), .val (.int i7), .val (.int i8), .val (.ref s9), .val (.ref s10), .val (.ref r3), .unset, .unset, .unset, .unset, .unset] [(.ref b4), (.ref b4)])) rfl (by rw [hml]; rfl) (Steps.refl _) (a := b4) (argsL := []) (rest := [(.ref b4)]) (lenOf pd_0 rfl) rfl (by show 2 * 0 + _ ≤ _; exact Nat.le_of_eq rfl) (hb hby at_99) (fun _ _ => ⟨rfl, e4, (by decide : 10 + 0 ≤ _), (by decide : 28 + 0 ≤ _)⟩)
            dsimp only [Pt.U, Pt.locs, Pt.cells, Pt.slots] at X5 l5 y5 z5 st5 hQ5
            subst l5 y5 z5
            obtain ⟨rfl, N5q, K5, F5_0, F5_1, F5_2, F5_3⟩ := hQ5
            have N5 := Fr.app N3 N5q
            refine Goes.tr st5 ?_
            show Goes _ _ _ _ (T5.setTop (mkF m 102 #[.val (.int p0), .val (.int p1), .val (.int p2), .val (.int p3), .val (.int p4), .val (.int i5), .val (.int i6), .val (.int i7), .val (.int i8), .val (.ref s9), .val (.ref s10), .val (.ref r3), .unset, .unset, .unset, .unset, .unset] [(.ref b4)]))
            refine Goes.st (fun t k => XS.astore X5.here hx rfl (hb hby at_102) rfl rfl (l' := #[.val (.int p0), .val (.int p1), .val (.int p2), .val (.int p3), .val (.int p4), .val (.int i5), .val (.int i6), .val (.int i7), .val (.int i8), .val (.ref s9), .val (.ref s10), .val (.ref r3), .val (.ref b4), .unset, .unset, .unset, .unset]) rfl k) ?_
            show Goes _ _ _ _ (T5.setTop (mkF m 104 #[.val (.int p0), .val (.int p1), .val (.int p2), .val (.int p3), .val (.int p4), .val (.int i5), .val (.int i6), .val (.int i7), .val (.int i8), .val (.ref s9), .val (.ref s10), .val (.ref r3), .val (.ref b4), .unset, .unset, .unset, .unset] []))
            have Jjb : ∀ (Tjb : State) (hjb : Heap) (Ljb : List Loc) (s9 : Addr) (s10 : Addr) (s11 : Addr) (al : Addr), Stand p l e room_1 s m #[(.int p0), (.int p1), (.int p2), (.int p3), (.int p4)] below meth c Tjb Ljb 18 60 → Tjb.heap = hjb → Fr n0 Ljb → n0 ≤ hjb.size → n0 ≤ s9 → n0 ≤ s10 → n0 ≤ s11 → n0 ≤ al → Old Z n0 hjb → Exa Z hjb s9 "java/lang/String" → Exa Z hjb s10 "java/lang/String" → Exa Z hjb s11 "java/lang/String" → Exa Z hjb al "java/util/ArrayList" → Fld Z hjb al "java/util/ArrayList" "size" "I" (.int i7) → Goes p.tables e below QQ (Tjb.setTop (mkF m 140 #[.val (.int p0), .val (.int p1), .val (.int p2), .val (.int p3), .val (.int p4), .val (.int i5), .val (.int i6), .val (.int i7), .val (.int i8), .val (.ref s9), .val (.ref s10), .val (.ref s11), .val (.ref al), .unset, .unset, .unset, .unset] [])) := by
              intro Tjb hjb Ljb s9 s10 s11 al Xjb ejb Njb Zjb n0jb_s9 n0jb_s10 n0jb_s11 n0jb_al Pjb_0 Pjb_1 Pjb_2 Pjb_3 Pjb_4 Pjb_5
              show Goes _ _ _ _ (Tjb.setTop (mkF m 140 #[.val (.int p0), .val (.int p1), .val (.int p2), .val (.int p3), .val (.int p4), .val (.int i5), .val (.int i6), .val (.int i7), .val (.int i8), .val (.ref s9), .val (.ref s10), .val (.ref s11), .val (.ref al), .unset, .unset, .unset, .unset] []))
              obtain ⟨T7, h7, X7, e7, E7, A7, D7, -, st7⟩ := newO Xjb hx hZ hown (hw58 hw) (hw59 hw) (hw60 hw) ejb (g := (mkF m 140 #[.val (.int p0), .val (.int p1), .val (.int p2), .val (.int p3), .val (.int p4), .val (.int i5), .val (.int i6), .val (.int i7), .val (.int i8), .val (.ref s9), .val (.ref s10), .val (.ref s11), .val (.ref al), .unset, .unset, .unset, .unset] [])) rfl (hb hby at_140) (by decide) (by decide)
              obtain ⟨b7, g7⟩ : ∃ z, z = hjb.size := ⟨_, rfl⟩
              rw [← g7] at A7 D7 st7
              have F7_path : Fld Z h7 b7 "com/example/bolter/bolter/model/ElementDefinitions$Definition" "path" "Ljava/lang/String;" .null := D7 (Or.inr (hw71 hw)) (ty := (.object "java/lang/String")) (by decide)
              have F7_types : Fld Z h7 b7 "com/example/bolter/bolter/model/ElementDefinitions$Definition" "types" "Ljava/util/List;" .null := D7 (Or.inr (hw73 hw)) (ty := (.object "java/util/List")) (by decide)
              have F7_valueSet : Fld Z h7 b7 "com/example/bolter/bolter/model/ElementDefinitions$Definition" "valueSet" "Ljava/lang/String;" .null := D7 (Or.inr (hw75 hw)) (ty := (.object "java/lang/String")) (by decide)
              have F7_summary : Fld Z h7 b7 "com/example/bolter/bolter/model/ElementDefinitions$Definition" "summary" "Z" (.int (0 : Int32)) := D7 (Or.inr (hw77 hw)) (ty := .boolean) (by decide)
              have F7_min : Fld Z h7 b7 "com/example/bolter/bolter/model/ElementDefinitions$Definition" "min" "I" (.int (0 : Int32)) := D7 (Or.inr (hw79 hw)) (ty := .int) (by decide)
              refine Goes.st st7 ?_
              show Goes _ _ _ _ (T7.setTop (mkF m 143 #[.val (.int p0), .val (.int p1), .val (.int p2), .val (.int p3), .val (.int p4), .val (.int i5), .val (.int i6), .val (.int i7), .val (.int i8), .val (.ref s9), .val (.ref s10), .val (.ref s11), .val (.ref al), .unset, .unset, .unset, .unset] [(.ref b7)]))
              refine Goes.st (fun t k => XS.dup X7.here hx rfl (hb hby at_143) rfl rfl k) ?_
              show Goes _ _ _ _ (T7.setTop (mkF m 144 #[.val (.int p0), .val (.int p1), .val (.int p2), .val (.int p3), .val (.int p4), .val (.int i5), .val (.int i6), .val (.int i7), .val (.int i8), .val (.ref s9), .val (.ref s10), .val (.ref s11), .val (.ref al), .unset, .unset, .unset, .unset] [(.ref b7), (.ref b7)]))
              refine Goes.st (fun t k => XS.aload X7.here hx rfl (hb hby at_144) rfl rfl k) ?_
              show Goes _ _ _ _ (T7.setTop (mkF m 146 #[.val (.int p0), .val (.int p1), .val (.int p2), .val (.int p3), .val (.int p4), .val (.int i5), .val (.int i6), .val (.int i7), .val (.int i8), .val (.ref s9), .val (.ref s10), .val (.ref s11), .val (.ref al), .unset, .unset, .unset, .unset] [(.ref s9), (.ref b7), (.ref b7)]))
              refine Goes.st (fun t k => XS.aload X7.here hx rfl (hb hby at_146) rfl rfl k) ?_
              show Goes _ _ _ _ (T7.setTop (mkF m 148 #[.val (.int p0), .val (.int p1), .val (.int p2), .val (.int p3), .val (.int p4), .val (.int i5), .val (.int i6), .val (.int i7), .val (.int i8), .val (.ref s9), .val (.ref s10), .val (.ref s11), .val (.ref al), .unset, .unset, .unset, .unset] [(.ref al), (.ref s9), (.ref b7), (.ref b7)]))
              refine Goes.st (fun t k => XS.aload X7.here hx rfl (hb hby at_148) rfl rfl k) ?_
              show Goes _ _ _ _ (T7.setTop (mkF m 150 #[.val (.int p0), .val (.int p1), .val (.int p2), .val (.int p3), .val (.int p4), .val (.int i5), .val (.int i6), .val (.int i7), .val (.int i8), .val (.ref s9), .val (.ref s10), .val (.ref s11), .val (.ref al), .unset, .unset, .unset, .unset] [(.ref s11), (.ref al), (.ref s9), (.ref b7), (.ref b7)]))
              refine Goes.st (fun t k => XS.iload X7.here hx rfl (hb hby at_150) rfl k) ?_
              show Goes _ _ _ _ (T7.setTop (mkF m 152 #[.val (.int p0), .val (.int p1), .val (.int p2), .val (.int p3), .val (.int p4), .val (.int i5), .val (.int i6), .val (.int i7), .val (.int i8), .val (.ref s9), .val (.ref s10), .val (.ref s11), .val (.ref al), .unset, .unset, .unset, .unset] [(.int i5), (.ref s11), (.ref al), (.ref s9), (.ref b7), (.ref b7)]))
              refine Goes.st (fun t k => XS.iloadN X7.here hx rfl (hb hby at_152) rfl k) ?_
              show Goes _ _ _ _ (T7.setTop (mkF m 153 #[.val (.int p0), .val (.int p1), .val (.int p2), .val (.int p3), .val (.int p4), .val (.int i5), .val (.int i6), .val (.int i7), .val (.int i8), .val (.ref s9), .val (.ref s10), .val (.ref s11), .val (.ref al), .unset, .unset, .unset, .unset] [(.int p3), (.int i5), (.ref s11), (.ref al), (.ref s9), (.ref b7), (.ref b7)]))
              obtain ⟨_, _, ⟨T8, L8, k8, n8⟩, -, X8, ⟨Lc8, hQ8, l8, y8, z8⟩, st8⟩ := X7.specialBack hx (y := (⟨"com/example/bolter/bolter/model/ElementDefinitions$Definition", "<init>", "(Ljava/lang/String;Ljava/util/List;Ljava/lang/String;ZI)V"⟩ : MethodName)) rfl hown (mvT hZ (hw61 hw)) (mvT hZ (hw62 hw)) (mvT hZ (hw63 hw)) (by decide) (backOf (W := 1) (rm_dinit l Z a0 hw [] b7 s9 al (Value.ref s11) i5 p3 h7 n0 (Nat.le_trans Zjb E7.1) A7 F7_path F7_types F7_valueSet F7_summary F7_min (Nat.le_trans Zjb (Nat.le_of_eq g7.symm)) rfl hz_i5) hZ (hw63 hw) (hw60 hw) (by decide) (by decide)) (g := (mkF m 153 #[.val (.int p0), .val (.int p1), .val (.int p2), .val (.int p3), .val (.int p4), .val (.int i5), .val (.int i6), .val (.int i7), .val (.int i8), .val (.ref s9), .val (.ref s10), .val (.ref s11), .val (.ref al), .unset, .unset, .unset, .unset] [(.int p3), (.int i5), (.ref s11), (.ref al), (.ref s9), (.ref b7), (.ref b7)])) rfl (by rw [hml]; rfl) (Steps.refl _) (a := b7) (argsL := [(.ref s9), (.ref al), (.ref s11), (.int i5), (.int p3)]) (rest := [(.ref b7)]) (lenOf pd_13 rfl) rfl (by show 2 * 0 + _ ≤ _; exact Nat.le_of_eq rfl) (hb hby at_153) (fun _ _ => ⟨rfl, e7, (by decide : 19 + 0 ≤ _), (by decide : 65 + 0 ≤ _)⟩)
              dsimp only [Pt.U, Pt.locs, Pt.cells, Pt.slots] at X8 l8 y8 z8 st8 hQ8
              subst l8 y8 z8
              obtain ⟨rfl, N8q, K8, F8_0, F8_1, F8_2, F8_3, F8_4, F8_5⟩ := hQ8
              have N8 := Fr.app Njb N8q
              refine Goes.tr st8 ?_
              show Goes _ _ _ _ (T8.setTop (mkF m 156 #[.val (.int p0), .val (.int p1), .val (.int p2), .val (.int p3), .val (.int p4), .val (.int i5), .val (.int i6), .val (.int i7), .val (.int i8), .val (.ref s9), .val (.ref s10), .val (.ref s11), .val (.ref al), .unset, .unset, .unset, .unset] [(.ref b7)]))
              refine Goes.st (fun t k => XS.astore X8.here hx rfl (hb hby at_156) rfl rfl (l' := #[.val (.int p0), .val (.int p1), .val (.int p2), .val (.int p3), .val (.int p4), .val (.int i5), .val (.int i6), .val (.int i7), .val (.int i8), .val (.ref s9), .val (.ref s10), .val (.ref s11), .val (.ref al), .val (.ref b7), .unset, .unset, .unset]) rfl k) ?_
              show Goes _ _ _ _ (T8.setTop (mkF m 158 #[.val (.int p0), .val (.int p1), .val (.int p2), .val (.int p3), .val (.int p4), .val (.int i5), .val (.int i6), .val (.int i7), .val (.int i8), .val (.ref s9), .val (.ref s10), .val (.ref s11), .val (.ref al), .val (.ref b7), .unset, .unset, .unset] []))
              refine Goes.st (fun t k => XS.aload X8.here hx rfl (hb hby at_158) rfl rfl k) ?_
              show Goes _ _ _ _ (T8.setTop (mkF m 160 #[.val (.int p0), .val (.int p1), .val (.int p2), .val (.int p3), .val (.int p4), .val (.int i5), .val (.int i6), .val (.int i7), .val (.int i8), .val (.ref s9), .val (.ref s10), .val (.ref s11), .val (.ref al), .val (.ref b7), .unset, .unset, .unset] [(.ref b7)]))
              refine Goes.st (fun t k => XS.aload X8.here hx rfl (hb hby at_160) rfl rfl k) ?_
              show Goes _ _ _ _ (T8.setTop (mkF m 162 #[.val (.int p0), .val (.int p1), .val (.int p2), .val (.int p3), .val (.int p4), .val (.int i5), .val (.int i6), .val (.int i7), .val (.int i8), .val (.ref s9), .val (.ref s10), .val (.ref s11), .val (.ref al), .val (.ref b7), .unset, .unset, .unset] [(.ref s10), (.ref b7)]))
              have f10 : Exa Z T8.heap s10 "java/lang/String" := ((Pjb_2.ext E7).keep K8)
              have f11 : Old Z n0 T8.heap := ((Pjb_0.ext E7).keep K8 (allS (Nat.le_trans Zjb (Nat.le_of_eq g7.symm)) all0))
              obtain ⟨cq9, kq9, q9a, q9b, q9c⟩ := isOf hZ rfl F8_0
              obtain ⟨_, _, ⟨T9, L9, k9, n9⟩, -, X9, ⟨Lc9, hQ9, l9, y9, z9⟩, st9⟩ := X8.virtualBack hx (y := (⟨"com/example/bolter/bolter/model/ElementDefinitions$Definition", "as", "(Ljava/lang/String;)Lcom/example/bolter/bolter/model/ElementDefinitions$Definition;"⟩ : MethodName)) (z := (⟨"com/example/bolter/bolter/model/ElementDefinitions$Definition", "as", "(Ljava/lang/String;)Lcom/example/bolter/bolter/model/ElementDefinitions$Definition;"⟩ : MethodName)) hown (mvT hZ (hw80 hw)) (mvT hZ (hw81 hw)) (notFace_of_selects (args := #[]) (mvT hZ (hw83 hw))) (mvT hZ (hw83 hw)) (mvT hZ (hw82 hw)) (by decide) (backOf (W := 0) (rm_as l Z a0 hw [] b7 s10 s9 (Value.ref s11) i5 p3 aE T8.heap n0 (Nat.le_trans Zjb (Nat.le_trans E7.1 K8.1)) F8_1 F8_3 F8_4 F8_5 f10 f11 rfl hz_i5 OE) hZ (hw84 hw) (hw60 hw) (by decide) (by decide)) q9a q9c (g := (mkF m 162 #[.val (.int p0), .val (.int p1), .val (.int p2), .val (.int p3), .val (.int p4), .val (.int i5), .val (.int i6), .val (.int i7), .val (.int i8), .val (.ref s9), .val (.ref s10), .val (.ref s11), .val (.ref al), .val (.ref b7), .unset, .unset, .unset] [(.ref s10), (.ref b7)])) rfl (by rw [hml]; rfl) (Steps.refl _) (argsL := [(.ref s10)]) (rest := []) (lenOf pd_16 rfl) rfl (by show 2 * 0 + _ ≤ _; exact Nat.le_of_eq rfl) (hb hby at_162) (fun _ _ => ⟨rfl, rfl, (by decide : 19 + 2 ≤ _), (by decide : 65 + 7 ≤ _)⟩)
              dsimp only [Pt.U, Pt.locs, Pt.cells, Pt.slots] at X9 l9 y9 z9 st9 hQ9
              subst l9 y9 z9
              obtain ⟨d9, li9, rfl, N9q, K9, F9_0, F9_1, F9_2, F9_3, F9_4, F9_5, F9_6, F9_7, F9_8, lo9_0, lo9_1, ne9_0⟩ := hQ9
              have N9 := Fr.app N8 N9q
              refine Goes.tr st9 ?_
              show Goes _ _ _ _ (T9.setTop (mkF m 165 #[.val (.int p0), .val (.int p1), .val (.int p2), .val (.int p3), .val (.int p4), .val (.int i5), .val (.int i6), .val (.int i7), .val (.int i8), .val (.ref s9), .val (.ref s10), .val (.ref s11), .val (.ref al), .val (.ref b7), .unset, .unset, .unset] [(.ref d9)]))
              refine Goes.st (fun t k => XS.astore X9.here hx rfl (hb hby at_165) rfl rfl (l' := #[.val (.int p0), .val (.int p1), .val (.int p2), .val (.int p3), .val (.int p4), .val (.int i5), .val (.int i6), .val (.int i7), .val (.int i8), .val (.ref s9), .val (.ref s10), .val (.ref s11), .val (.ref al), .val (.ref b7), .val (.ref d9), .unset, .unset]) rfl k) ?_
              show Goes _ _ _ _ (T9.setTop (mkF m 167 #[.val (.int p0), .val (.int p1), .val (.int p2), .val (.int p3), .val (.int p4), .val (.int i5), .val (.int i6), .val (.int i7), .val (.int i8), .val (.ref s9), .val (.ref s10), .val (.ref s11), .val (.ref al), .val (.ref b7), .val (.ref d9), .unset, .unset] []))
              refine Goes.st (fun t k => XS.aload X9.here hx rfl (hb hby at_167) rfl rfl k) ?_
              show Goes _ _ _ _ (T9.setTop (mkF m 169 #[.val (.int p0), .val (.int p1), .val (.int p2), .val (.int p3), .val (.int p4), .val (.int i5), .val (.int i6), .val (.int i7), .val (.int i8), .val (.ref s9), .val (.ref s10), .val (.ref s11), .val (.ref al), .val (.ref b7), .val (.ref d9), .unset, .unset] [(.ref d9)]))
              obtain ⟨cq12, kq12, q12a, q12b, q12c⟩ := isOf hZ rfl F9_0
              obtain ⟨_, _, ⟨T12, L12, k12, n12⟩, -, X12, ⟨Lc12, hQ12, l12, y12, z12⟩, st12⟩ := X9.virtualBack hx (y := (⟨"com/example/bolter/bolter/model/ElementDefinitions$Definition", "types", "()Ljava/util/List;"⟩ : MethodName)) (z := (⟨"com/example/bolter/bolter/model/ElementDefinitions$Definition", "types", "()Ljava/util/List;"⟩ : MethodName)) hown (mvT hZ (hw122 hw)) (mvT hZ (hw123 hw)) (notFace_of_selects (args := #[]) (mvT hZ (hw125 hw))) (mvT hZ (hw125 hw)) (mvT hZ (hw124 hw)) (by decide) (backOf (W := 0) (rm_gtypes l Z a0 hw [] d9 li9 T9.heap n0 (Nat.le_trans Zjb (Nat.le_trans (Nat.le_trans E7.1 K8.1) K9.1)) F9_2) hZ (hw126 hw) (hw60 hw) (by decide) (by decide)) q12a q12c (g := (mkF m 169 #[.val (.int p0), .val (.int p1), .val (.int p2), .val (.int p3), .val (.int p4), .val (.int i5), .val (.int i6), .val (.int i7), .val (.int i8), .val (.ref s9), .val (.ref s10), .val (.ref s11), .val (.ref al), .val (.ref b7), .val (.ref d9), .unset, .unset] [(.ref d9)])) rfl (by rw [hml]; rfl) (Steps.refl _) (argsL := []) (rest := []) (lenOf pd_17 rfl) rfl (by show 2 * 0 + _ ≤ _; exact Nat.le_of_eq rfl) (hb hby at_169) (fun _ _ => ⟨rfl, rfl, (by decide : 21 + 0 ≤ _), (by decide : 72 + 0 ≤ _)⟩)
              dsimp only [Pt.U, Pt.locs, Pt.cells, Pt.slots] at X12 l12 y12 z12 st12 hQ12
              subst l12 y12 z12
              obtain ⟨rfl, N12q, K12⟩ := hQ12
              have N12 := Fr.app N9 N12q
              refine Goes.tr st12 ?_
              show Goes _ _ _ _ (T12.setTop (mkF m 172 #[.val (.int p0), .val (.int p1), .val (.int p2), .val (.int p3), .val (.int p4), .val (.int i5), .val (.int i6), .val (.int i7), .val (.int i8), .val (.ref s9), .val (.ref s10), .val (.ref s11), .val (.ref al), .val (.ref b7), .val (.ref d9), .unset, .unset] [(.ref li9)]))
              refine Goes.st (fun t k => XS.astore X12.here hx rfl (hb hby at_172) rfl rfl (l' := #[.val (.int p0), .val (.int p1), .val (.int p2), .val (.int p3), .val (.int p4), .val (.int i5), .val (.int i6), .val (.int i7), .val (.int i8), .val (.ref s9), .val (.ref s10), .val (.ref s11), .val (.ref al), .val (.ref b7), .val (.ref d9), .val (.ref li9), .unset]) rfl k) ?_
              show Goes _ _ _ _ (T12.setTop (mkF m 174 #[.val (.int p0), .val (.int p1), .val (.int p2), .val (.int p3), .val (.int p4), .val (.int i5), .val (.int i6), .val (.int i7), .val (.int i8), .val (.ref s9), .val (.ref s10), .val (.ref s11), .val (.ref al), .val (.ref b7), .val (.ref d9), .val (.ref li9), .unset] []))
              refine Goes.st (fun t k => XS.iload X12.here hx rfl (hb hby at_174) rfl k) ?_
              show Goes _ _ _ _ (T12.setTop (mkF m 176 #[.val (.int p0), .val (.int p1), .val (.int p2), .val (.int p3), .val (.int p4), .val (.int i5), .val (.int i6), .val (.int i7), .val (.int i8), .val (.ref s9), .val (.ref s10), .val (.ref s11), .val (.ref al), .val (.ref b7), .val (.ref d9), .val (.ref li9), .unset] [(.int i6)]))
              refine Goes.st (fun t k => XS.ifYes X12.here hx rfl (pc0 := 176) (pc' := 195) rfl (hb hby at_176) rfl ((if0 _ _).trans (teq cz2).1) (by decide) (by decide) k) ?_
              show Goes _ _ _ _ (T12.setTop (mkF m 195 #[.val (.int p0), .val (.int p1), .val (.int p2), .val (.int p3), .val (.int p4), .val (.int i5), .val (.int i6), .val (.int i7), .val (.int i8), .val (.ref s9), .val (.ref s10), .val (.ref s11), .val (.ref al), .val (.ref b7), .val (.ref d9), .val (.ref li9), .unset] []))
              refine Goes.st (fun t k => XS.aload X12.here hx rfl (hb hby at_195) rfl rfl k) ?_
              show Goes _ _ _ _ (T12.setTop (mkF m 197 #[.val (.int p0), .val (.int p1), .val (.int p2), .val (.int p3), .val (.int p4), .val (.int i5), .val (.int i6), .val (.int i7), .val (.int i8), .val (.ref s9), .val (.ref s10), .val (.ref s11), .val (.ref al), .val (.ref b7), .val (.ref d9), .val (.ref li9), .unset] [(.ref s11)]))
              refine Goes.st (fun t k => XS.aload X12.here hx rfl (hb hby at_197) rfl rfl k) ?_
              show Goes _ _ _ _ (T12.setTop (mkF m 199 #[.val (.int p0), .val (.int p1), .val (.int p2), .val (.int p3), .val (.int p4), .val (.int i5), .val (.int i6), .val (.int i7), .val (.int i8), .val (.ref s9), .val (.ref s10), .val (.ref s11), .val (.ref al), .val (.ref b7), .val (.ref d9), .val (.ref li9), .unset] [(.ref d9), (.ref s11)]))
              obtain ⟨cq13, kq13, q13a, q13b, q13c⟩ := isOf hZ K12 F9_0
              obtain ⟨_, _, ⟨T13, L13, k13, n13⟩, -, X13, ⟨Lc13, hQ13, l13, y13, z13⟩, st13⟩ := X12.virtualBack hx (y := (⟨"com/example/bolter/bolter/model/ElementDefinitions$Definition", "valueSet", "()Ljava/lang/String;"⟩ : MethodName)) (z := (⟨"com/example/bolter/bolter/model/ElementDefinitions$Definition", "valueSet", "()Ljava/lang/String;"⟩ : MethodName)) hown (mvT hZ (hw127 hw)) (mvT hZ (hw128 hw)) (notFace_of_selects (args := #[]) (mvT hZ (hw130 hw))) (mvT hZ (hw130 hw)) (mvT hZ (hw129 hw)) (by decide) (backOf (W := 1) (rm_gvsR l Z a0 hw [] d9 s11 T9.heap n0 (Nat.le_trans Zjb (Nat.le_trans (Nat.le_trans E7.1 K8.1) K9.1)) F9_3) hZ (hw131 hw) (hw60 hw) (by decide) (by decide)) q13a q13c (g := (mkF m 199 #[.val (.int p0), .val (.int p1), .val (.int p2), .val (.int p3), .val (.int p4), .val (.int i5), .val (.int i6), .val (.int i7), .val (.int i8), .val (.ref s9), .val (.ref s10), .val (.ref s11), .val (.ref al), .val (.ref b7), .val (.ref d9), .val (.ref li9), .unset] [(.ref d9), (.ref s11)])) rfl (by rw [hml]; rfl) (Steps.refl _) (argsL := []) (rest := [(.ref s11)]) (lenOf pd_18 rfl) rfl (by show 2 * 0 + _ ≤ _; exact Nat.le_of_eq rfl) (hb hby at_199) (fun _ _ => ⟨rfl, K12, (by decide : 21 + 0 ≤ _), (by decide : 72 + 0 ≤ _)⟩)
              dsimp only [Pt.U, Pt.locs, Pt.cells, Pt.slots] at X13 l13 y13 z13 st13 hQ13
              subst l13 y13 z13
              obtain ⟨rfl, N13q, K13⟩ := hQ13
              have N13 := Fr.app N12 N13q
              refine Goes.tr st13 ?_
              show Goes _ _ _ _ (T13.setTop (mkF m 202 #[.val (.int p0), .val (.int p1), .val (.int p2), .val (.int p3), .val (.int p4), .val (.int i5), .val (.int i6), .val (.int i7), .val (.int i8), .val (.ref s9), .val (.ref s10), .val (.ref s11), .val (.ref al), .val (.ref b7), .val (.ref d9), .val (.ref li9), .unset] [(.ref s11), (.ref s11)]))
              have f15 : Exa Z T9.heap s11 "java/lang/String" := (((Pjb_3.ext E7).keep K8).keep K9)
              obtain ⟨cq14, kq14, q14a, q14b, q14c⟩ := isOf hZ K13 f15
              obtain ⟨_, _, ⟨T14, L14, k14, n14⟩, -, X14, ⟨Lc14, hQ14, l14, y14, z14⟩, st14⟩ := X13.virtualBack hx (y := (⟨"java/lang/String", "equals", "(Ljava/lang/Object;)Z"⟩ : MethodName)) (z := (⟨"java/lang/String", "equals", "(Ljava/lang/Object;)Z"⟩ : MethodName)) hown (mvT hZ (hw132 hw)) (mvT hZ (hw133 hw)) (notFace_of_selects (args := #[]) (mvT hZ (hw135 hw))) (mvT hZ (hw135 hw)) (mvT hZ (hw134 hw)) (by decide) (backOf (W := 0) (rm_eqsame l Z a0 hw [] s11 T9.heap n0 (Nat.le_trans Zjb (Nat.le_trans (Nat.le_trans E7.1 K8.1) K9.1)) ) hZ (hw136 hw) (hw7 hw) (by decide) (by decide)) q14a q14c (g := (mkF m 202 #[.val (.int p0), .val (.int p1), .val (.int p2), .val (.int p3), .val (.int p4), .val (.int i5), .val (.int i6), .val (.int i7), .val (.int i8), .val (.ref s9), .val (.ref s10), .val (.ref s11), .val (.ref al), .val (.ref b7), .val (.ref d9), .val (.ref li9), .unset] [(.ref s11), (.ref s11)])) rfl (by rw [hml]; rfl) (Steps.refl _) (argsL := [(.ref s11)]) (rest := []) (lenOf pd_19 rfl) rfl (by show 2 * 0 + _ ≤ _; exact Nat.le_of_eq rfl) (hb hby at_202) (fun _ _ => ⟨rfl, K13, (by decide : 21 + 0 ≤ _), (by decide : 72 + 0 ≤ _)⟩)
              dsimp only [Pt.U, Pt.locs, Pt.cells, Pt.slots] at X14 l14 y14 z14 st14 hQ14
              subst l14 y14 z14
              obtain ⟨rfl, N14q, K14⟩ := hQ14
              have N14 := Fr.app N13 N14q
              refine Goes.tr st14 ?_
              show Goes _ _ _ _ (T14.setTop (mkF m 205 #[.val (.int p0), .val (.int p1), .val (.int p2), .val (.int p3), .val (.int p4), .val (.int i5), .val (.int i6), .val (.int i7), .val (.int i8), .val (.ref s9), .val (.ref s10), .val (.ref s11), .val (.ref al), .val (.ref b7), .val (.ref d9), .val (.ref li9), .unset] [(.int (1 : Int32))]))
              refine Goes.st (fun t k => XS.istore X14.here hx rfl (hb hby at_205) rfl (l' := #[.val (.int p0), .val (.int p1), .val (.int p2), .val (.int p3), .val (.int p4), .val (.int i5), .val (.int i6), .val (.int i7), .val (.int i8), .val (.ref s9), .val (.ref s10), .val (.ref s11), .val (.ref al), .val (.ref b7), .val (.ref d9), .val (.ref li9), .val (.int (1 : Int32))]) rfl k) ?_
              show Goes _ _ _ _ (T14.setTop (mkF m 207 #[.val (.int p0), .val (.int p1), .val (.int p2), .val (.int p3), .val (.int p4), .val (.int i5), .val (.int i6), .val (.int i7), .val (.int i8), .val (.ref s9), .val (.ref s10), .val (.ref s11), .val (.ref al), .val (.ref b7), .val (.ref d9), .val (.ref li9), .val (.int (1 : Int32))] []))
              refine Goes.st (fun t k => XS.aload X14.here hx rfl (hb hby at_207) rfl rfl k) ?_
              show Goes _ _ _ _ (T14.setTop (mkF m 209 #[.val (.int p0), .val (.int p1), .val (.int p2), .val (.int p3), .val (.int p4), .val (.int i5), .val (.int i6), .val (.int i7), .val (.int i8), .val (.ref s9), .val (.ref s10), .val (.ref s11), .val (.ref al), .val (.ref b7), .val (.ref d9), .val (.ref li9), .val (.int (1 : Int32))] [(.ref s9)]))
              refine Goes.st (fun t k => XS.aload X14.here hx rfl (hb hby at_209) rfl rfl k) ?_
              show Goes _ _ _ _ (T14.setTop (mkF m 211 #[.val (.int p0), .val (.int p1), .val (.int p2), .val (.int p3), .val (.int p4), .val (.int i5), .val (.int i6), .val (.int i7), .val (.int i8), .val (.ref s9), .val (.ref s10), .val (.ref s11), .val (.ref al), .val (.ref b7), .val (.ref d9), .val (.ref li9), .val (.int (1 : Int32))] [(.ref d9), (.ref s9)]))
              obtain ⟨cq16, kq16, q16a, q16b, q16c⟩ := isOf hZ K14 F9_0
              obtain ⟨_, _, ⟨T16, L16, k16, n16⟩, -, X16, ⟨Lc16, hQ16, l16, y16, z16⟩, st16⟩ := X14.virtualBack hx (y := (⟨"com/example/bolter/bolter/model/ElementDefinitions$Definition", "path", "()Ljava/lang/String;"⟩ : MethodName)) (z := (⟨"com/example/bolter/bolter/model/ElementDefinitions$Definition", "path", "()Ljava/lang/String;"⟩ : MethodName)) hown (mvT hZ (hw137 hw)) (mvT hZ (hw138 hw)) (notFace_of_selects (args := #[]) (mvT hZ (hw140 hw))) (mvT hZ (hw140 hw)) (mvT hZ (hw139 hw)) (by decide) (backOf (W := 1) (rm_gpath l Z a0 hw [] d9 s9 T9.heap n0 (Nat.le_trans Zjb (Nat.le_trans (Nat.le_trans E7.1 K8.1) K9.1)) F9_1) hZ (hw141 hw) (hw60 hw) (by decide) (by decide)) q16a q16c (g := (mkF m 211 #[.val (.int p0), .val (.int p1), .val (.int p2), .val (.int p3), .val (.int p4), .val (.int i5), .val (.int i6), .val (.int i7), .val (.int i8), .val (.ref s9), .val (.ref s10), .val (.ref s11), .val (.ref al), .val (.ref b7), .val (.ref d9), .val (.ref li9), .val (.int (1 : Int32))] [(.ref d9), (.ref s9)])) rfl (by rw [hml]; rfl) (Steps.refl _) (argsL := []) (rest := [(.ref s9)]) (lenOf pd_18 rfl) rfl (by show 2 * 0 + _ ≤ _; exact Nat.le_of_eq rfl) (hb hby at_211) (fun _ _ => ⟨rfl, K14, (by decide : 21 + 0 ≤ _), (by decide : 72 + 0 ≤ _)⟩)
              dsimp only [Pt.U, Pt.locs, Pt.cells, Pt.slots] at X16 l16 y16 z16 st16 hQ16
              subst l16 y16 z16
              obtain ⟨rfl, N16q, K16⟩ := hQ16
              have N16 := Fr.app N14 N16q
              refine Goes.tr st16 ?_
              show Goes _ _ _ _ (T16.setTop (mkF m 214 #[.val (.int p0), .val (.int p1), .val (.int p2), .val (.int p3), .val (.int p4), .val (.int i5), .val (.int i6), .val (.int i7), .val (.int i8), .val (.ref s9), .val (.ref s10), .val (.ref s11), .val (.ref al), .val (.ref b7), .val (.ref d9), .val (.ref li9), .val (.int (1 : Int32))] [(.ref s9), (.ref s9)]))
              have f18 : Exa Z T9.heap s9 "java/lang/String" := (((Pjb_1.ext E7).keep K8).keep K9)
              obtain ⟨cq17, kq17, q17a, q17b, q17c⟩ := isOf hZ K16 f18
              obtain ⟨_, _, ⟨T17, L17, k17, n17⟩, -, X17, ⟨Lc17, hQ17, l17, y17, z17⟩, st17⟩ := X16.virtualBack hx (y := (⟨"java/lang/String", "equals", "(Ljava/lang/Object;)Z"⟩ : MethodName)) (z := (⟨"java/lang/String", "equals", "(Ljava/lang/Object;)Z"⟩ : MethodName)) hown (mvT hZ (hw132 hw)) (mvT hZ (hw133 hw)) (notFace_of_selects (args := #[]) (mvT hZ (hw135 hw))) (mvT hZ (hw135 hw)) (mvT hZ (hw134 hw)) (by decide) (backOf (W := 0) (rm_eqsame l Z a0 hw [] s9 T9.heap n0 (Nat.le_trans Zjb (Nat.le_trans (Nat.le_trans E7.1 K8.1) K9.1)) ) hZ (hw136 hw) (hw7 hw) (by decide) (by decide)) q17a q17c (g := (mkF m 214 #[.val (.int p0), .val (.int p1), .val (.int p2), .val (.int p3), .val (.int p4), .val (.int i5), .val (.int i6), .val (.int i7), .val (.int i8), .val (.ref s9), .val (.ref s10), .val (.ref s11), .val (.ref al), .val (.ref b7), .val (.ref d9), .val (.ref li9), .val (.int (1 : Int32))] [(.ref s9), (.ref s9)])) rfl (by rw [hml]; rfl) (Steps.refl _) (argsL := [(.ref s9)]) (rest := []) (lenOf pd_19 rfl) rfl (by show 2 * 0 + _ ≤ _; exact Nat.le_of_eq rfl) (hb hby at_214) (fun _ _ => ⟨rfl, K16, (by decide : 21 + 0 ≤ _), (by decide : 72 + 0 ≤ _)⟩)
              dsimp only [Pt.U, Pt.locs, Pt.cells, Pt.slots] at X17 l17 y17 z17 st17 hQ17
              subst l17 y17 z17
              obtain ⟨rfl, N17q, K17⟩ := hQ17
              have N17 := Fr.app N16 N17q
              refine Goes.tr st17 ?_
              show Goes _ _ _ _ (T17.setTop (mkF m 217 #[.val (.int p0), .val (.int p1), .val (.int p2), .val (.int p3), .val (.int p4), .val (.int i5), .val (.int i6), .val (.int i7), .val (.int i8), .val (.ref s9), .val (.ref s10), .val (.ref s11), .val (.ref al), .val (.ref b7), .val (.ref d9), .val (.ref li9), .val (.int (1 : Int32))] [(.int (1 : Int32))]))
              refine Goes.st (fun t k => XS.ifNo X17.here hx rfl (hb hby at_217) rfl ((if0 _ _).trans (feq (by decide : ¬ ((1 : Int32) = (0 : Int32)))).1) k) ?_
              show Goes _ _ _ _ (T17.setTop (mkF m 220 #[.val (.int p0), .val (.int p1), .val (.int p2), .val (.int p3), .val (.int p4), .val (.int i5), .val (.int i6), .val (.int i7), .val (.int i8), .val (.ref s9), .val (.ref s10), .val (.ref s11), .val (.ref al), .val (.ref b7), .val (.ref d9), .val (.ref li9), .val (.int (1 : Int32))] []))
              refine Goes.st (fun t k => XS.aload X17.here hx rfl (hb hby at_220) rfl rfl k) ?_
              show Goes _ _ _ _ (T17.setTop (mkF m 222 #[.val (.int p0), .val (.int p1), .val (.int p2), .val (.int p3), .val (.int p4), .val (.int i5), .val (.int i6), .val (.int i7), .val (.int i8), .val (.ref s9), .val (.ref s10), .val (.ref s11), .val (.ref al), .val (.ref b7), .val (.ref d9), .val (.ref li9), .val (.int (1 : Int32))] [(.ref li9)]))
              have f20 : Old Z n0 T9.heap := (f11.keep K9 all0)
              obtain ⟨cq19, kq19, q19a, q19b, q19c⟩ := isOf hZ K17 F9_6
              obtain ⟨_, _, ⟨T19, L19, k19, n19⟩, -, X19, ⟨Lc19, hQ19, l19, y19, z19⟩, st19⟩ := X17.interfaceBack hx (xi := (⟨"java/util/List", "size", "()I"⟩ : MethodName)) (y := (⟨"java/util/ImmutableCollections$List12", "size", "()I"⟩ : MethodName)) hown (mvT hZ (hw142 hw)) (mvT hZ (hw143 hw)) (mvT hZ (hw144 hw)) (mvT hZ (hw145 hw)) (mvT hZ (hw146 hw)) (mvT hZ (hw147 hw)) (mvT hZ (hw148 hw)) (mvT hZ (hw149 hw)) (by decide) (backOf (W := 0) (rm_sz12 l Z a0 hw [] li9 aE T9.heap n0 (Nat.le_trans Zjb (Nat.le_trans (Nat.le_trans E7.1 K8.1) K9.1)) F9_8 f20 OE) hZ (hw150 hw) (hw92 hw) (by decide) (by decide)) q19a q19b q19c (g := (mkF m 222 #[.val (.int p0), .val (.int p1), .val (.int p2), .val (.int p3), .val (.int p4), .val (.int i5), .val (.int i6), .val (.int i7), .val (.int i8), .val (.ref s9), .val (.ref s10), .val (.ref s11), .val (.ref al), .val (.ref b7), .val (.ref d9), .val (.ref li9), .val (.int (1 : Int32))] [(.ref li9)])) rfl (by rw [hml]; rfl) (Steps.refl _) (argsL := []) (rest := []) (lenOf pd_10 rfl) rfl (by show 2 * 0 + _ ≤ _; exact Nat.le_of_eq rfl) (hb hby at_222) (fun _ _ => ⟨rfl, K17, (by decide : 21 + 0 ≤ _), (by decide : 72 + 0 ≤ _)⟩)
              dsimp only [Pt.U, Pt.locs, Pt.cells, Pt.slots] at X19 l19 y19 z19 st19 hQ19
              subst l19 y19 z19
              obtain ⟨rfl, N19q, K19⟩ := hQ19
              have N19 := Fr.app N17 N19q
              refine Goes.tr st19 ?_
              show Goes _ _ _ _ (T19.setTop (mkF m 227 #[.val (.int p0), .val (.int p1), .val (.int p2), .val (.int p3), .val (.int p4), .val (.int i5), .val (.int i6), .val (.int i7), .val (.int i8), .val (.ref s9), .val (.ref s10), .val (.ref s11), .val (.ref al), .val (.ref b7), .val (.ref d9), .val (.ref li9), .val (.int (1 : Int32))] [(.int (1 : Int32))]))
              refine Goes.st (fun t k => XS.iconst X19.here hx rfl (hb hby at_227) k) ?_
              show Goes _ _ _ _ (T19.setTop (mkF m 228 #[.val (.int p0), .val (.int p1), .val (.int p2), .val (.int p3), .val (.int p4), .val (.int i5), .val (.int i6), .val (.int i7), .val (.int i8), .val (.ref s9), .val (.ref s10), .val (.ref s11), .val (.ref al), .val (.ref b7), .val (.ref d9), .val (.ref li9), .val (.int (1 : Int32))] [(.int (1 : Int32)), (.int (1 : Int32))]))
              refine Goes.st (fun t k => XS.icmpNo X19.here hx rfl (hb hby at_228) rfl (teq (by decide : (1 : Int32) = (1 : Int32))).2 k) ?_
              show Goes _ _ _ _ (T19.setTop (mkF m 231 #[.val (.int p0), .val (.int p1), .val (.int p2), .val (.int p3), .val (.int p4), .val (.int i5), .val (.int i6), .val (.int i7), .val (.int i8), .val (.ref s9), .val (.ref s10), .val (.ref s11), .val (.ref al), .val (.ref b7), .val (.ref d9), .val (.ref li9), .val (.int (1 : Int32))] []))
              refine Goes.st (fun t k => XS.aload X19.here hx rfl (hb hby at_231) rfl rfl k) ?_
              show Goes _ _ _ _ (T19.setTop (mkF m 233 #[.val (.int p0), .val (.int p1), .val (.int p2), .val (.int p3), .val (.int p4), .val (.int i5), .val (.int i6), .val (.int i7), .val (.int i8), .val (.ref s9), .val (.ref s10), .val (.ref s11), .val (.ref al), .val (.ref b7), .val (.ref d9), .val (.ref li9), .val (.int (1 : Int32))] [(.ref s10)]))
              refine Goes.st (fun t k => XS.aload X19.here hx rfl (hb hby at_233) rfl rfl k) ?_
              show Goes _ _ _ _ (T19.setTop (mkF m 235 #[.val (.int p0), .val (.int p1), .val (.int p2), .val (.int p3), .val (.int p4), .val (.int i5), .val (.int i6), .val (.int i7), .val (.int i8), .val (.ref s9), .val (.ref s10), .val (.ref s11), .val (.ref al), .val (.ref b7), .val (.ref d9), .val (.ref li9), .val (.int (1 : Int32))] [(.ref li9), (.ref s10)]))
              refine Goes.st (fun t k => XS.iconst X19.here hx rfl (hb hby at_235) k) ?_
              show Goes _ _ _ _ (T19.setTop (mkF m 236 #[.val (.int p0), .val (.int p1), .val (.int p2), .val (.int p3), .val (.int p4), .val (.int i5), .val (.int i6), .val (.int i7), .val (.int i8), .val (.ref s9), .val (.ref s10), .val (.ref s11), .val (.ref al), .val (.ref b7), .val (.ref d9), .val (.ref li9), .val (.int (1 : Int32))] [(.int (0 : Int32)), (.ref li9), (.ref s10)]))
              obtain ⟨cq21, kq21, q21a, q21b, q21c⟩ := isOf hZ K19 F9_6
              obtain ⟨_, _, ⟨T21, L21, k21, n21⟩, -, X21, ⟨Lc21, hQ21, l21, y21, z21⟩, st21⟩ := X19.interfaceBack hx (xi := (⟨"java/util/List", "get", "(I)Ljava/lang/Object;"⟩ : MethodName)) (y := (⟨"java/util/ImmutableCollections$List12", "get", "(I)Ljava/lang/Object;"⟩ : MethodName)) hown (mvT hZ (hw151 hw)) (mvT hZ (hw152 hw)) (mvT hZ (hw153 hw)) (mvT hZ (hw154 hw)) (mvT hZ (hw155 hw)) (mvT hZ (hw156 hw)) (mvT hZ (hw157 hw)) (mvT hZ (hw149 hw)) (by decide) (backOf (W := 1) (rm_get12 l Z a0 hw [] li9 s10 T9.heap n0 (Nat.le_trans Zjb (Nat.le_trans (Nat.le_trans E7.1 K8.1) K9.1)) F9_7) hZ (hw158 hw) (hw92 hw) (by decide) (by decide)) q21a q21b q21c (g := (mkF m 236 #[.val (.int p0), .val (.int p1), .val (.int p2), .val (.int p3), .val (.int p4), .val (.int i5), .val (.int i6), .val (.int i7), .val (.int i8), .val (.ref s9), .val (.ref s10), .val (.ref s11), .val (.ref al), .val (.ref b7), .val (.ref d9), .val (.ref li9), .val (.int (1 : Int32))] [(.int (0 : Int32)), (.ref li9), (.ref s10)])) rfl (by rw [hml]; rfl) (Steps.refl _) (argsL := [(.int (0 : Int32))]) (rest := [(.ref s10)]) (lenOf pd_11 rfl) rfl (by show 2 * 0 + _ ≤ _; exact Nat.le_of_eq rfl) (hb hby at_236) (fun _ _ => ⟨rfl, K19, (by decide : 21 + 0 ≤ _), (by decide : 72 + 0 ≤ _)⟩)
              dsimp only [Pt.U, Pt.locs, Pt.cells, Pt.slots] at X21 l21 y21 z21 st21 hQ21
              subst l21 y21 z21
              obtain ⟨rfl, N21q, K21⟩ := hQ21
              have N21 := Fr.app N19 N21q
              refine Goes.tr st21 ?_
              show Goes _ _ _ _ (T21.setTop (mkF m 241 #[.val (.int p0), .val (.int p1), .val (.int p2), .val (.int p3), .val (.int p4), .val (.int i5), .val (.int i6), .val (.int i7), .val (.int i8), .val (.ref s9), .val (.ref s10), .val (.ref s11), .val (.ref al), .val (.ref b7), .val (.ref d9), .val (.ref li9), .val (.int (1 : Int32))] [(.ref s10), (.ref s10)]))
              have f23 : Exa Z T9.heap s10 "java/lang/String" := (f10.keep K9)
              obtain ⟨cq22, kq22, q22a, q22b, q22c⟩ := isOf hZ K21 f23
              obtain ⟨_, _, ⟨T22, L22, k22, n22⟩, -, X22, ⟨Lc22, hQ22, l22, y22, z22⟩, st22⟩ := X21.virtualBack hx (y := (⟨"java/lang/String", "equals", "(Ljava/lang/Object;)Z"⟩ : MethodName)) (z := (⟨"java/lang/String", "equals", "(Ljava/lang/Object;)Z"⟩ : MethodName)) hown (mvT hZ (hw132 hw)) (mvT hZ (hw133 hw)) (notFace_of_selects (args := #[]) (mvT hZ (hw135 hw))) (mvT hZ (hw135 hw)) (mvT hZ (hw134 hw)) (by decide) (backOf (W := 0) (rm_eqsame l Z a0 hw [] s10 T9.heap n0 (Nat.le_trans Zjb (Nat.le_trans (Nat.le_trans E7.1 K8.1) K9.1)) ) hZ (hw136 hw) (hw7 hw) (by decide) (by decide)) q22a q22c (g := (mkF m 241 #[.val (.int p0), .val (.int p1), .val (.int p2), .val (.int p3), .val (.int p4), .val (.int i5), .val (.int i6), .val (.int i7), .val (.int i8), .val (.ref s9), .val (.ref s10), .val (.ref s11), .val (.ref al), .val (.ref b7), .val (.ref d9), .val (.ref li9), .val (.int (1 : Int32))] [(.ref s10), (.ref s10)])) rfl (by rw [hml]; rfl) (Steps.refl _) (argsL := [(.ref s10)]) (rest := []) (lenOf pd_19 rfl) rfl (by show 2 * 0 + _ ≤ _; exact Nat.le_of_eq rfl) (hb hby at_241) (fun _ _ => ⟨rfl, K21, (by decide : 21 + 0 ≤ _), (by decide : 72 + 0 ≤ _)⟩)
              dsimp only [Pt.U, Pt.locs, Pt.cells, Pt.slots] at X22 l22 y22 z22 st22 hQ22
              subst l22 y22 z22
              obtain ⟨rfl, N22q, K22⟩ := hQ22
              have N22 := Fr.app N21 N22q
              refine Goes.tr st22 ?_
              show Goes _ _ _ _ (T22.setTop (mkF m 244 #[.val (.int p0), .val (.int p1), .val (.int p2), .val (.int p3), .val (.int p4), .val (.int i5), .val (.int i6), .val (.int i7), .val (.int i8), .val (.ref s9), .val (.ref s10), .val (.ref s11), .val (.ref al), .val (.ref b7), .val (.ref d9), .val (.ref li9), .val (.int (1 : Int32))] [(.int (1 : Int32))]))
              refine Goes.st (fun t k => XS.ifNo X22.here hx rfl (hb hby at_244) rfl ((if0 _ _).trans (feq (by decide : ¬ ((1 : Int32) = (0 : Int32)))).1) k) ?_
              show Goes _ _ _ _ (T22.setTop (mkF m 247 #[.val (.int p0), .val (.int p1), .val (.int p2), .val (.int p3), .val (.int p4), .val (.int i5), .val (.int i6), .val (.int i7), .val (.int i8), .val (.ref s9), .val (.ref s10), .val (.ref s11), .val (.ref al), .val (.ref b7), .val (.ref d9), .val (.ref li9), .val (.int (1 : Int32))] []))
              refine Goes.st (fun t k => XS.aload X22.here hx rfl (hb hby at_247) rfl rfl k) ?_
              show Goes _ _ _ _ (T22.setTop (mkF m 249 #[.val (.int p0), .val (.int p1), .val (.int p2), .val (.int p3), .val (.int p4), .val (.int i5), .val (.int i6), .val (.int i7), .val (.int i8), .val (.ref s9), .val (.ref s10), .val (.ref s11), .val (.ref al), .val (.ref b7), .val (.ref d9), .val (.ref li9), .val (.int (1 : Int32))] [(.ref s10)]))
              refine Goes.st (fun t k => XS.aload X22.here hx rfl (hb hby at_249) rfl rfl k) ?_
              show Goes _ _ _ _ (T22.setTop (mkF m 251 #[.val (.int p0), .val (.int p1), .val (.int p2), .val (.int p3), .val (.int p4), .val (.int i5), .val (.int i6), .val (.int i7), .val (.int i8), .val (.ref s9), .val (.ref s10), .val (.ref s11), .val (.ref al), .val (.ref b7), .val (.ref d9), .val (.ref li9), .val (.int (1 : Int32))] [(.ref d9), (.ref s10)]))
              obtain ⟨cq24, kq24, q24a, q24b, q24c⟩ := isOf hZ K22 F9_0
              obtain ⟨_, _, ⟨T24, L24, k24, n24⟩, -, X24, ⟨Lc24, hQ24, l24, y24, z24⟩, st24⟩ := X22.virtualBack hx (y := (⟨"com/example/bolter/bolter/model/ElementDefinitions$Definition", "type", "()Ljava/lang/String;"⟩ : MethodName)) (z := (⟨"com/example/bolter/bolter/model/ElementDefinitions$Definition", "type", "()Ljava/lang/String;"⟩ : MethodName)) hown (mvT hZ (hw159 hw)) (mvT hZ (hw160 hw)) (notFace_of_selects (args := #[]) (mvT hZ (hw162 hw))) (mvT hZ (hw162 hw)) (mvT hZ (hw161 hw)) (by decide) (backOf (W := 1) (rm_gtype l Z a0 hw [] d9 li9 s10 aE T9.heap n0 (Nat.le_trans Zjb (Nat.le_trans (Nat.le_trans E7.1 K8.1) K9.1)) F9_2 F9_6 F9_7 F9_8 f23 f20 OE) hZ (hw163 hw) (hw60 hw) (by decide) (by decide)) q24a q24c (g := (mkF m 251 #[.val (.int p0), .val (.int p1), .val (.int p2), .val (.int p3), .val (.int p4), .val (.int i5), .val (.int i6), .val (.int i7), .val (.int i8), .val (.ref s9), .val (.ref s10), .val (.ref s11), .val (.ref al), .val (.ref b7), .val (.ref d9), .val (.ref li9), .val (.int (1 : Int32))] [(.ref d9), (.ref s10)])) rfl (by rw [hml]; rfl) (Steps.refl _) (argsL := []) (rest := [(.ref s10)]) (lenOf pd_18 rfl) rfl (by show 2 * 0 + _ ≤ _; exact Nat.le_of_eq rfl) (hb hby at_251) (fun _ _ => ⟨rfl, K22, (by decide : 21 + 0 ≤ _), (by decide : 72 + 0 ≤ _)⟩)
              dsimp only [Pt.U, Pt.locs, Pt.cells, Pt.slots] at X24 l24 y24 z24 st24 hQ24
              subst l24 y24 z24
              obtain ⟨rfl, N24q, K24⟩ := hQ24
              have N24 := Fr.app N22 N24q
              refine Goes.tr st24 ?_
              show Goes _ _ _ _ (T24.setTop (mkF m 254 #[.val (.int p0), .val (.int p1), .val (.int p2), .val (.int p3), .val (.int p4), .val (.int i5), .val (.int i6), .val (.int i7), .val (.int i8), .val (.ref s9), .val (.ref s10), .val (.ref s11), .val (.ref al), .val (.ref b7), .val (.ref d9), .val (.ref li9), .val (.int (1 : Int32))] [(.ref s10), (.ref s10)]))
              obtain ⟨cq25, kq25, q25a, q25b, q25c⟩ := isOf hZ K24 f23
              obtain ⟨_, _, ⟨T25, L25, k25, n25⟩, -, X25, ⟨Lc25, hQ25, l25, y25, z25⟩, st25⟩ := X24.virtualBack hx (y := (⟨"java/lang/String", "equals", "(Ljava/lang/Object;)Z"⟩ : MethodName)) (z := (⟨"java/lang/String", "equals", "(Ljava/lang/Object;)Z"⟩ : MethodName)) hown (mvT hZ (hw132 hw)) (mvT hZ (hw133 hw)) (notFace_of_selects (args := #[]) (mvT hZ (hw135 hw))) (mvT hZ (hw135 hw)) (mvT hZ (hw134 hw)) (by decide) (backOf (W := 0) (rm_eqsame l Z a0 hw [] s10 T9.heap n0 (Nat.le_trans Zjb (Nat.le_trans (Nat.le_trans E7.1 K8.1) K9.1)) ) hZ (hw136 hw) (hw7 hw) (by decide) (by decide)) q25a q25c (g := (mkF m 254 #[.val (.int p0), .val (.int p1), .val (.int p2), .val (.int p3), .val (.int p4), .val (.int i5), .val (.int i6), .val (.int i7), .val (.int i8), .val (.ref s9), .val (.ref s10), .val (.ref s11), .val (.ref al), .val (.ref b7), .val (.ref d9), .val (.ref li9), .val (.int (1 : Int32))] [(.ref s10), (.ref s10)])) rfl (by rw [hml]; rfl) (Steps.refl _) (argsL := [(.ref s10)]) (rest := []) (lenOf pd_19 rfl) rfl (by show 2 * 0 + _ ≤ _; exact Nat.le_of_eq rfl) (hb hby at_254) (fun _ _ => ⟨rfl, K24, (by decide : 21 + 0 ≤ _), (by decide : 72 + 0 ≤ _)⟩)
              dsimp only [Pt.U, Pt.locs, Pt.cells, Pt.slots] at X25 l25 y25 z25 st25 hQ25
              subst l25 y25 z25
              obtain ⟨rfl, N25q, K25⟩ := hQ25
              have N25 := Fr.app N24 N25q
              refine Goes.tr st25 ?_
              show Goes _ _ _ _ (T25.setTop (mkF m 257 #[.val (.int p0), .val (.int p1), .val (.int p2), .val (.int p3), .val (.int p4), .val (.int i5), .val (.int i6), .val (.int i7), .val (.int i8), .val (.ref s9), .val (.ref s10), .val (.ref s11), .val (.ref al), .val (.ref b7), .val (.ref d9), .val (.ref li9), .val (.int (1 : Int32))] [(.int (1 : Int32))]))
              refine Goes.st (fun t k => XS.ifNo X25.here hx rfl (hb hby at_257) rfl ((if0 _ _).trans (feq (by decide : ¬ ((1 : Int32) = (0 : Int32)))).1) k) ?_
              show Goes _ _ _ _ (T25.setTop (mkF m 260 #[.val (.int p0), .val (.int p1), .val (.int p2), .val (.int p3), .val (.int p4), .val (.int i5), .val (.int i6), .val (.int i7), .val (.int i8), .val (.ref s9), .val (.ref s10), .val (.ref s11), .val (.ref al), .val (.ref b7), .val (.ref d9), .val (.ref li9), .val (.int (1 : Int32))] []))
              refine Goes.st (fun t k => XS.aload X25.here hx rfl (hb hby at_260) rfl rfl k) ?_
              show Goes _ _ _ _ (T25.setTop (mkF m 262 #[.val (.int p0), .val (.int p1), .val (.int p2), .val (.int p3), .val (.int p4), .val (.int i5), .val (.int i6), .val (.int i7), .val (.int i8), .val (.ref s9), .val (.ref s10), .val (.ref s11), .val (.ref al), .val (.ref b7), .val (.ref d9), .val (.ref li9), .val (.int (1 : Int32))] [(.ref d9)]))
              obtain ⟨cq26, kq26, q26a, q26b, q26c⟩ := isOf hZ K25 F9_0
              obtain ⟨_, _, ⟨T26, L26, k26, n26⟩, -, X26, ⟨Lc26, hQ26, l26, y26, z26⟩, st26⟩ := X25.virtualBack hx (y := (⟨"com/example/bolter/bolter/model/ElementDefinitions$Definition", "summary", "()Z"⟩ : MethodName)) (z := (⟨"com/example/bolter/bolter/model/ElementDefinitions$Definition", "summary", "()Z"⟩ : MethodName)) hown (mvT hZ (hw167 hw)) (mvT hZ (hw168 hw)) (notFace_of_selects (args := #[]) (mvT hZ (hw170 hw))) (mvT hZ (hw170 hw)) (mvT hZ (hw169 hw)) (by decide) (backOf (W := 0) (rm_gsum l Z a0 hw [] d9 i5 T9.heap n0 (Nat.le_trans Zjb (Nat.le_trans (Nat.le_trans E7.1 K8.1) K9.1)) F9_4 hz_i5) hZ (hw171 hw) (hw60 hw) (by decide) (by decide)) q26a q26c (g := (mkF m 262 #[.val (.int p0), .val (.int p1), .val (.int p2), .val (.int p3), .val (.int p4), .val (.int i5), .val (.int i6), .val (.int i7), .val (.int i8), .val (.ref s9), .val (.ref s10), .val (.ref s11), .val (.ref al), .val (.ref b7), .val (.ref d9), .val (.ref li9), .val (.int (1 : Int32))] [(.ref d9)])) rfl (by rw [hml]; rfl) (Steps.refl _) (argsL := []) (rest := []) (lenOf pd_20 rfl) rfl (by show 2 * 0 + _ ≤ _; exact Nat.le_of_eq rfl) (hb hby at_262) (fun _ _ => ⟨rfl, K25, (by decide : 21 + 0 ≤ _), (by decide : 72 + 0 ≤ _)⟩)
              dsimp only [Pt.U, Pt.locs, Pt.cells, Pt.slots] at X26 l26 y26 z26 st26 hQ26
              subst l26 y26 z26
              obtain ⟨rfl, N26q, K26⟩ := hQ26
              have N26 := Fr.app N25 N26q
              refine Goes.tr st26 ?_
              show Goes _ _ _ _ (T26.setTop (mkF m 265 #[.val (.int p0), .val (.int p1), .val (.int p2), .val (.int p3), .val (.int p4), .val (.int i5), .val (.int i6), .val (.int i7), .val (.int i8), .val (.ref s9), .val (.ref s10), .val (.ref s11), .val (.ref al), .val (.ref b7), .val (.ref d9), .val (.ref li9), .val (.int (1 : Int32))] [(.int i5)]))
              refine Goes.st (fun t k => XS.iload X26.here hx rfl (hb hby at_265) rfl k) ?_
              show Goes _ _ _ _ (T26.setTop (mkF m 267 #[.val (.int p0), .val (.int p1), .val (.int p2), .val (.int p3), .val (.int p4), .val (.int i5), .val (.int i6), .val (.int i7), .val (.int i8), .val (.ref s9), .val (.ref s10), .val (.ref s11), .val (.ref al), .val (.ref b7), .val (.ref d9), .val (.ref li9), .val (.int (1 : Int32))] [(.int i5), (.int i5)]))
              refine Goes.st (fun t k => XS.icmpNo X26.here hx rfl (hb hby at_267) rfl (teq rfl).2 k) ?_
              show Goes _ _ _ _ (T26.setTop (mkF m 270 #[.val (.int p0), .val (.int p1), .val (.int p2), .val (.int p3), .val (.int p4), .val (.int i5), .val (.int i6), .val (.int i7), .val (.int i8), .val (.ref s9), .val (.ref s10), .val (.ref s11), .val (.ref al), .val (.ref b7), .val (.ref d9), .val (.ref li9), .val (.int (1 : Int32))] []))
              refine Goes.st (fun t k => XS.aload X26.here hx rfl (hb hby at_270) rfl rfl k) ?_
              show Goes _ _ _ _ (T26.setTop (mkF m 272 #[.val (.int p0), .val (.int p1), .val (.int p2), .val (.int p3), .val (.int p4), .val (.int i5), .val (.int i6), .val (.int i7), .val (.int i8), .val (.ref s9), .val (.ref s10), .val (.ref s11), .val (.ref al), .val (.ref b7), .val (.ref d9), .val (.ref li9), .val (.int (1 : Int32))] [(.ref d9)]))
              obtain ⟨cq27, kq27, q27a, q27b, q27c⟩ := isOf hZ K26 F9_0
              obtain ⟨_, _, ⟨T27, L27, k27, n27⟩, -, X27, ⟨Lc27, hQ27, l27, y27, z27⟩, st27⟩ := X26.virtualBack hx (y := (⟨"com/example/bolter/bolter/model/ElementDefinitions$Definition", "min", "()I"⟩ : MethodName)) (z := (⟨"com/example/bolter/bolter/model/ElementDefinitions$Definition", "min", "()I"⟩ : MethodName)) hown (mvT hZ (hw172 hw)) (mvT hZ (hw173 hw)) (notFace_of_selects (args := #[]) (mvT hZ (hw175 hw))) (mvT hZ (hw175 hw)) (mvT hZ (hw174 hw)) (by decide) (backOf (W := 0) (rm_gmin l Z a0 hw [] d9 p3 T9.heap n0 (Nat.le_trans Zjb (Nat.le_trans (Nat.le_trans E7.1 K8.1) K9.1)) F9_5) hZ (hw176 hw) (hw60 hw) (by decide) (by decide)) q27a q27c (g := (mkF m 272 #[.val (.int p0), .val (.int p1), .val (.int p2), .val (.int p3), .val (.int p4), .val (.int i5), .val (.int i6), .val (.int i7), .val (.int i8), .val (.ref s9), .val (.ref s10), .val (.ref s11), .val (.ref al), .val (.ref b7), .val (.ref d9), .val (.ref li9), .val (.int (1 : Int32))] [(.ref d9)])) rfl (by rw [hml]; rfl) (Steps.refl _) (argsL := []) (rest := []) (lenOf pd_10 rfl) rfl (by show 2 * 0 + _ ≤ _; exact Nat.le_of_eq rfl) (hb hby at_272) (fun _ _ => ⟨rfl, K26, (by decide : 21 + 0 ≤ _), (by decide : 72 + 0 ≤ _)⟩)
              dsimp only [Pt.U, Pt.locs, Pt.cells, Pt.slots] at X27 l27 y27 z27 st27 hQ27
              subst l27 y27 z27
              obtain ⟨rfl, N27q, K27⟩ := hQ27
              have N27 := Fr.app N26 N27q
              refine Goes.tr st27 ?_
              show Goes _ _ _ _ (T27.setTop (mkF m 275 #[.val (.int p0), .val (.int p1), .val (.int p2), .val (.int p3), .val (.int p4), .val (.int i5), .val (.int i6), .val (.int i7), .val (.int i8), .val (.ref s9), .val (.ref s10), .val (.ref s11), .val (.ref al), .val (.ref b7), .val (.ref d9), .val (.ref li9), .val (.int (1 : Int32))] [(.int p3)]))
              refine Goes.st (fun t k => XS.iloadN X27.here hx rfl (hb hby at_275) rfl k) ?_
              show Goes _ _ _ _ (T27.setTop (mkF m 276 #[.val (.int p0), .val (.int p1), .val (.int p2), .val (.int p3), .val (.int p4), .val (.int i5), .val (.int i6), .val (.int i7), .val (.int i8), .val (.ref s9), .val (.ref s10), .val (.ref s11), .val (.ref al), .val (.ref b7), .val (.ref d9), .val (.ref li9), .val (.int (1 : Int32))] [(.int p3), (.int p3)]))
              refine Goes.st (fun t k => XS.icmpNo X27.here hx rfl (hb hby at_276) rfl (teq rfl).2 k) ?_
              show Goes _ _ _ _ (T27.setTop (mkF m 279 #[.val (.int p0), .val (.int p1), .val (.int p2), .val (.int p3), .val (.int p4), .val (.int i5), .val (.int i6), .val (.int i7), .val (.int i8), .val (.ref s9), .val (.ref s10), .val (.ref s11), .val (.ref al), .val (.ref b7), .val (.ref d9), .val (.ref li9), .val (.int (1 : Int32))] []))
              refine Goes.st (fun t k => XS.iload X27.here hx rfl (hb hby at_279) rfl k) ?_
              show Goes _ _ _ _ (T27.setTop (mkF m 281 #[.val (.int p0), .val (.int p1), .val (.int p2), .val (.int p3), .val (.int p4), .val (.int i5), .val (.int i6), .val (.int i7), .val (.int i8), .val (.ref s9), .val (.ref s10), .val (.ref s11), .val (.ref al), .val (.ref b7), .val (.ref d9), .val (.ref li9), .val (.int (1 : Int32))] [(.int (1 : Int32))]))
              refine Goes.st (fun t k => XS.ifNo X27.here hx rfl (hb hby at_281) rfl ((if0 _ _).trans (feq (by decide : ¬ ((1 : Int32) = (0 : Int32)))).1) k) ?_
              show Goes _ _ _ _ (T27.setTop (mkF m 284 #[.val (.int p0), .val (.int p1), .val (.int p2), .val (.int p3), .val (.int p4), .val (.int i5), .val (.int i6), .val (.int i7), .val (.int i8), .val (.ref s9), .val (.ref s10), .val (.ref s11), .val (.ref al), .val (.ref b7), .val (.ref d9), .val (.ref li9), .val (.int (1 : Int32))] []))
              refine Goes.st (fun t k => XS.aload X27.here hx rfl (hb hby at_284) rfl rfl k) ?_
              show Goes _ _ _ _ (T27.setTop (mkF m 286 #[.val (.int p0), .val (.int p1), .val (.int p2), .val (.int p3), .val (.int p4), .val (.int i5), .val (.int i6), .val (.int i7), .val (.int i8), .val (.ref s9), .val (.ref s10), .val (.ref s11), .val (.ref al), .val (.ref b7), .val (.ref d9), .val (.ref li9), .val (.int (1 : Int32))] [(.ref b7)]))
              have f29 : Fld Z T9.heap b7 "com/example/bolter/bolter/model/ElementDefinitions$Definition" "types" "Ljava/util/List;" (.ref al) := (F8_2.keep K9 nin0)
              have f30 : Exa Z T9.heap b7 "com/example/bolter/bolter/model/ElementDefinitions$Definition" := (F8_0.keep K9)
              obtain ⟨cq28, kq28, q28a, q28b, q28c⟩ := isOf hZ K27 f30
              obtain ⟨_, _, ⟨T28, L28, k28, n28⟩, -, X28, ⟨Lc28, hQ28, l28, y28, z28⟩, st28⟩ := X27.virtualBack hx (y := (⟨"com/example/bolter/bolter/model/ElementDefinitions$Definition", "types", "()Ljava/util/List;"⟩ : MethodName)) (z := (⟨"com/example/bolter/bolter/model/ElementDefinitions$Definition", "types", "()Ljava/util/List;"⟩ : MethodName)) hown (mvT hZ (hw122 hw)) (mvT hZ (hw123 hw)) (notFace_of_selects (args := #[]) (mvT hZ (hw125 hw))) (mvT hZ (hw125 hw)) (mvT hZ (hw124 hw)) (by decide) (backOf (W := 0) (rm_gtypes l Z a0 hw [] b7 al T9.heap n0 (Nat.le_trans Zjb (Nat.le_trans (Nat.le_trans E7.1 K8.1) K9.1)) f29) hZ (hw126 hw) (hw60 hw) (by decide) (by decide)) q28a q28c (g := (mkF m 286 #[.val (.int p0), .val (.int p1), .val (.int p2), .val (.int p3), .val (.int p4), .val (.int i5), .val (.int i6), .val (.int i7), .val (.int i8), .val (.ref s9), .val (.ref s10), .val (.ref s11), .val (.ref al), .val (.ref b7), .val (.ref d9), .val (.ref li9), .val (.int (1 : Int32))] [(.ref b7)])) rfl (by rw [hml]; rfl) (Steps.refl _) (argsL := []) (rest := []) (lenOf pd_17 rfl) rfl (by show 2 * 0 + _ ≤ _; exact Nat.le_of_eq rfl) (hb hby at_286) (fun _ _ => ⟨rfl, K27, (by decide : 21 + 0 ≤ _), (by decide : 72 + 0 ≤ _)⟩)
              dsimp only [Pt.U, Pt.locs, Pt.cells, Pt.slots] at X28 l28 y28 z28 st28 hQ28
              subst l28 y28 z28
              obtain ⟨rfl, N28q, K28⟩ := hQ28
              have N28 := Fr.app N27 N28q
              refine Goes.tr st28 ?_
              show Goes _ _ _ _ (T28.setTop (mkF m 289 #[.val (.int p0), .val (.int p1), .val (.int p2), .val (.int p3), .val (.int p4), .val (.int i5), .val (.int i6), .val (.int i7), .val (.int i8), .val (.ref s9), .val (.ref s10), .val (.ref s11), .val (.ref al), .val (.ref b7), .val (.ref d9), .val (.ref li9), .val (.int (1 : Int32))] [(.ref al)]))
              have f32 : Fld Z T9.heap al "java/util/ArrayList" "size" "I" (.int i7) := (((Pjb_5.ext E7).keep K8 (ninS (Nat.ne_of_lt (Nat.lt_of_lt_of_le Pjb_4.lt (Nat.le_of_eq g7.symm))) nin0)).keep K9 nin0)
              have f33 : Exa Z T9.heap al "java/util/ArrayList" := (((Pjb_4.ext E7).keep K8).keep K9)
              obtain ⟨cq31, kq31, q31a, q31b, q31c⟩ := isOf hZ K28 f33
              obtain ⟨_, _, ⟨T31, L31, k31, n31⟩, -, X31, ⟨Lc31, hQ31, l31, y31, z31⟩, st31⟩ := X28.interfaceBack hx (xi := (⟨"java/util/List", "size", "()I"⟩ : MethodName)) (y := (⟨"java/util/ArrayList", "size", "()I"⟩ : MethodName)) hown (mvT hZ (hw142 hw)) (mvT hZ (hw143 hw)) (mvT hZ (hw144 hw)) (mvT hZ (hw177 hw)) (mvT hZ (hw178 hw)) (mvT hZ (hw179 hw)) (mvT hZ (hw180 hw)) (mvT hZ (hw181 hw)) (by decide) (backOf (W := 0) (rm_alsz l Z a0 hw [] al i7 T9.heap n0 (Nat.le_trans Zjb (Nat.le_trans (Nat.le_trans E7.1 K8.1) K9.1)) f32) hZ (hw182 hw) (hw36 hw) (by decide) (by decide)) q31a q31b q31c (g := (mkF m 289 #[.val (.int p0), .val (.int p1), .val (.int p2), .val (.int p3), .val (.int p4), .val (.int i5), .val (.int i6), .val (.int i7), .val (.int i8), .val (.ref s9), .val (.ref s10), .val (.ref s11), .val (.ref al), .val (.ref b7), .val (.ref d9), .val (.ref li9), .val (.int (1 : Int32))] [(.ref al)])) rfl (by rw [hml]; rfl) (Steps.refl _) (argsL := []) (rest := []) (lenOf pd_10 rfl) rfl (by show 2 * 0 + _ ≤ _; exact Nat.le_of_eq rfl) (hb hby at_289) (fun _ _ => ⟨rfl, K28, (by decide : 21 + 0 ≤ _), (by decide : 72 + 0 ≤ _)⟩)
              dsimp only [Pt.U, Pt.locs, Pt.cells, Pt.slots] at X31 l31 y31 z31 st31 hQ31
              subst l31 y31 z31
              obtain ⟨rfl, N31q, K31⟩ := hQ31
              have N31 := Fr.app N28 N31q
              refine Goes.tr st31 ?_
              show Goes _ _ _ _ (T31.setTop (mkF m 294 #[.val (.int p0), .val (.int p1), .val (.int p2), .val (.int p3), .val (.int p4), .val (.int i5), .val (.int i6), .val (.int i7), .val (.int i8), .val (.ref s9), .val (.ref s10), .val (.ref s11), .val (.ref al), .val (.ref b7), .val (.ref d9), .val (.ref li9), .val (.int (1 : Int32))] [(.int i7)]))
              refine Goes.st (fun t k => XS.iload X31.here hx rfl (hb hby at_294) rfl k) ?_
              show Goes _ _ _ _ (T31.setTop (mkF m 296 #[.val (.int p0), .val (.int p1), .val (.int p2), .val (.int p3), .val (.int p4), .val (.int i5), .val (.int i6), .val (.int i7), .val (.int i8), .val (.ref s9), .val (.ref s10), .val (.ref s11), .val (.ref al), .val (.ref b7), .val (.ref d9), .val (.ref li9), .val (.int (1 : Int32))] [(.int i7), (.int i7)]))
              refine Goes.st (fun t k => XS.icmpNo X31.here hx rfl (hb hby at_296) rfl (teq rfl).2 k) ?_
              show Goes _ _ _ _ (T31.setTop (mkF m 299 #[.val (.int p0), .val (.int p1), .val (.int p2), .val (.int p3), .val (.int p4), .val (.int i5), .val (.int i6), .val (.int i7), .val (.int i8), .val (.ref s9), .val (.ref s10), .val (.ref s11), .val (.ref al), .val (.ref b7), .val (.ref d9), .val (.ref li9), .val (.int (1 : Int32))] []))
              refine Goes.st (fun t k => XS.iconst X31.here hx rfl (hb hby at_299) k) ?_
              show Goes _ _ _ _ (T31.setTop (mkF m 300 #[.val (.int p0), .val (.int p1), .val (.int p2), .val (.int p3), .val (.int p4), .val (.int i5), .val (.int i6), .val (.int i7), .val (.int i8), .val (.ref s9), .val (.ref s10), .val (.ref s11), .val (.ref al), .val (.ref b7), .val (.ref d9), .val (.ref li9), .val (.int (1 : Int32))] [(.int (1 : Int32))]))
              refine Goes.st (fun t k => XS.goto X31.here hx rfl (pc0 := 300) (pc' := 304) rfl (hb hby at_300) (by decide) (by decide) k) ?_
              show Goes _ _ _ _ (T31.setTop (mkF m 304 #[.val (.int p0), .val (.int p1), .val (.int p2), .val (.int p3), .val (.int p4), .val (.int i5), .val (.int i6), .val (.int i7), .val (.int i8), .val (.ref s9), .val (.ref s10), .val (.ref s11), .val (.ref al), .val (.ref b7), .val (.ref d9), .val (.ref li9), .val (.int (1 : Int32))] [(.int (1 : Int32))]))
              obtain ⟨fs, hr, hrun, hended, hW, hsame⟩ := X31.leave (v := some (.int (1 : Int32))) (fun h => by rw [Bd.returns] at h; cases h)
              subst hQQ
              refine ⟨_, _, retN X31 hx (t := .boolean) Bd.returns (by simp) (hb hby at_304) hr, hrun, hended, _, _, rfl, ?_, ⟨_, rfl⟩, hW, hsame.mono (by decide) (by decide)⟩
              show Q_law Z p0 p1 p2 p3 p4 G1 aE aD kD h0 n0 _ T31.heap _
              rw [K31]
              exact ⟨rfl, N31⟩
            show Goes _ _ _ _ (T5.setTop (mkF m 104 #[.val (.int p0), .val (.int p1), .val (.int p2), .val (.int p3), .val (.int p4), .val (.int i5), .val (.int i6), .val (.int i7), .val (.int i8), .val (.ref s9), .val (.ref s10), .val (.ref r3), .val (.ref b4), .unset, .unset, .unset, .unset] []))
            refine Goes.st (fun t k => XS.iload X5.here hx rfl (hb hby at_104) rfl k) ?_
            show Goes _ _ _ _ (T5.setTop (mkF m 106 #[.val (.int p0), .val (.int p1), .val (.int p2), .val (.int p3), .val (.int p4), .val (.int i5), .val (.int i6), .val (.int i7), .val (.int i8), .val (.ref s9), .val (.ref s10), .val (.ref r3), .val (.ref b4), .unset, .unset, .unset, .unset] [(.int i7)]))
            refine Goes.st (fun t k => XS.iconst X5.here hx rfl (hb hby at_106) k) ?_
            show Goes _ _ _ _ (T5.setTop (mkF m 107 #[.val (.int p0), .val (.int p1), .val (.int p2), .val (.int p3), .val (.int p4), .val (.int i5), .val (.int i6), .val (.int i7), .val (.int i8), .val (.ref s9), .val (.ref s10), .val (.ref r3), .val (.ref b4), .unset, .unset, .unset, .unset] [(.int (1 : Int32)), (.int i7)]))
            by_cases cz34 : i7 < (1 : Int32)
            case pos =>
              refine Goes.st (fun t k => XS.icmpYes X5.here hx rfl (pc0 := 107) (pc' := 122) rfl (hb hby at_107) rfl (tlt cz34).1 (by decide) (by decide) k) ?_
              show Goes _ _ _ _ (T5.setTop (mkF m 122 #[.val (.int p0), .val (.int p1), .val (.int p2), .val (.int p3), .val (.int p4), .val (.int i5), .val (.int i6), .val (.int i7), .val (.int i8), .val (.ref s9), .val (.ref s10), .val (.ref r3), .val (.ref b4), .unset, .unset, .unset, .unset] []))
              refine Goes.st (fun t k => XS.iload X5.here hx rfl (hb hby at_122) rfl k) ?_
              show Goes _ _ _ _ (T5.setTop (mkF m 124 #[.val (.int p0), .val (.int p1), .val (.int p2), .val (.int p3), .val (.int p4), .val (.int i5), .val (.int i6), .val (.int i7), .val (.int i8), .val (.ref s9), .val (.ref s10), .val (.ref r3), .val (.ref b4), .unset, .unset, .unset, .unset] [(.int i7)]))
              refine Goes.st (fun t k => XS.iconst X5.here hx rfl (hb hby at_124) k) ?_
              show Goes _ _ _ _ (T5.setTop (mkF m 125 #[.val (.int p0), .val (.int p1), .val (.int p2), .val (.int p3), .val (.int p4), .val (.int i5), .val (.int i6), .val (.int i7), .val (.int i8), .val (.ref s9), .val (.ref s10), .val (.ref r3), .val (.ref b4), .unset, .unset, .unset, .unset] [(.int (2 : Int32)), (.int i7)]))
              refine Goes.st (fun t k => XS.icmpYes X5.here hx rfl (pc0 := 125) (pc' := 140) rfl (hb hby at_125) rfl (tlt (own_lt12 h3 cz34)).1 (by decide) (by decide) k) ?_
              show Goes _ _ _ _ (T5.setTop (mkF m 140 #[.val (.int p0), .val (.int p1), .val (.int p2), .val (.int p3), .val (.int p4), .val (.int i5), .val (.int i6), .val (.int i7), .val (.int i8), .val (.ref s9), .val (.ref s10), .val (.ref r3), .val (.ref b4), .unset, .unset, .unset, .unset] []))
              have fz35 : Fld Z T5.heap b4 "java/util/ArrayList" "size" "I" (.int i7) := by rw [← (own_lt1 h3 cz34)]; exact F5_2
              have f36 : Old Z n0 T5.heap := (f6.keep K5 (allS (Nat.le_trans Zja (Nat.le_trans K3.1 (Nat.le_of_eq g4.symm))) all0))
              have f37 : Exa Z T5.heap s9 "java/lang/String" := (((Pja_1.keep K3).ext E4).keep K5)
              have f38 : Exa Z T5.heap s10 "java/lang/String" := (((Pja_2.keep K3).ext E4).keep K5)
              have f39 : Exa Z T5.heap r3 "java/lang/String" := ((F3_0E.ext E4).keep K5)
              exact Jjb T5 T5.heap _ s9 s10 r3 b4 (X5.more (by decide) (by decide)) rfl N5 (Nat.le_trans Zja (Nat.le_trans (Nat.le_trans K3.1 E4.1) K5.1)) n0ja_s9 n0ja_s10 (Nat.le_trans Zja lo3_0) (Nat.le_trans Zja (Nat.le_trans K3.1 (Nat.le_of_eq g4.symm))) f36 f37 f38 f39 F5_0 fz35
            case neg =>
              refine Goes.st (fun t k => XS.icmpNo X5.here hx rfl (hb hby at_107) rfl (flt cz34).1 k) ?_
              show Goes _ _ _ _ (T5.setTop (mkF m 110 #[.val (.int p0), .val (.int p1), .val (.int p2), .val (.int p3), .val (.int p4), .val (.int i5), .val (.int i6), .val (.int i7), .val (.int i8), .val (.ref s9), .val (.ref s10), .val (.ref r3), .val (.ref b4), .unset, .unset, .unset, .unset] []))
              refine Goes.st (fun t k => XS.aload X5.here hx rfl (hb hby at_110) rfl rfl k) ?_
              show Goes _ _ _ _ (T5.setTop (mkF m 112 #[.val (.int p0), .val (.int p1), .val (.int p2), .val (.int p3), .val (.int p4), .val (.int i5), .val (.int i6), .val (.int i7), .val (.int i8), .val (.ref s9), .val (.ref s10), .val (.ref r3), .val (.ref b4), .unset, .unset, .unset, .unset] [(.ref b4)]))
              refine Goes.st (fun t k => XS.iloadN X5.here hx rfl (hb hby at_112) rfl k) ?_
              show Goes _ _ _ _ (T5.setTop (mkF m 113 #[.val (.int p0), .val (.int p1), .val (.int p2), .val (.int p3), .val (.int p4), .val (.int i5), .val (.int i6), .val (.int i7), .val (.int i8), .val (.ref s9), .val (.ref s10), .val (.ref r3), .val (.ref b4), .unset, .unset, .unset, .unset] [(.int p1), (.ref b4)]))
              refine Goes.st (fun t k => XS.iconst X5.here hx rfl (hb hby at_113) k) ?_
              show Goes _ _ _ _ (T5.setTop (mkF m 114 #[.val (.int p0), .val (.int p1), .val (.int p2), .val (.int p3), .val (.int p4), .val (.int i5), .val (.int i6), .val (.int i7), .val (.int i8), .val (.ref s9), .val (.ref s10), .val (.ref r3), .val (.ref b4), .unset, .unset, .unset, .unset] [(.int (-1 : Int32)), (.int p1), (.ref b4)]))
              refine Goes.st (fun t k => XS.ixor X5.here hx rfl (hb hby at_114) rfl k) ?_
              show Goes _ _ _ _ (T5.setTop (mkF m 115 #[.val (.int p0), .val (.int p1), .val (.int p2), .val (.int p3), .val (.int p4), .val (.int i5), .val (.int i6), .val (.int i7), .val (.int i8), .val (.ref s9), .val (.ref s10), .val (.ref r3), .val (.ref b4), .unset, .unset, .unset, .unset] [(.int (p1 ^^^ (-1 : Int32))), (.ref b4)]))
              have f41 : Old Z n0 T5.heap := (f6.keep K5 (allS (Nat.le_trans Zja (Nat.le_trans K3.1 (Nat.le_of_eq g4.symm))) all0))
              obtain ⟨_, _, ⟨T40, L40, k40, n40⟩, -, X40, ⟨Lc40, hQ40, l40, y40, z40⟩, st40⟩ := Jvm.LawKit.callS X5 hx (y := (⟨"com/example/bolter/bolter/model/DefinitionAsPinLaw", "draw", "(I)Ljava/lang/String;"⟩ : MethodName)) hown (mvT hZ (hw0 hw)) (mvT hZ (hw1 hw)) (mvT hZ (hw2 hw)) (mvT hZ (hw3 hw)) (by decide) (backOf (W := 1) (rm_draw l Z a0 hw [] (p1 ^^^ (-1 : Int32)) G1 T5.heap n0 (Nat.le_trans Zja (Nat.le_trans (Nat.le_trans K3.1 E4.1) K5.1)) f41 O2 P5) hZ (hw3 hw) (hw2 hw) (by decide) (by decide)) (g := (mkF m 115 #[.val (.int p0), .val (.int p1), .val (.int p2), .val (.int p3), .val (.int p4), .val (.int i5), .val (.int i6), .val (.int i7), .val (.int i8), .val (.ref s9), .val (.ref s10), .val (.ref r3), .val (.ref b4), .unset, .unset, .unset, .unset] [(.int (p1 ^^^ (-1 : Int32))), (.ref b4)])) rfl (by rw [hml]; rfl) (argsL := [(.int (p1 ^^^ (-1 : Int32)))]) (rest := [(.ref b4)]) (lenOf pd_15 rfl) rfl (by show 2 * 0 + _ ≤ _; exact Nat.le_of_eq rfl) (hb hby at_115) (fun _ _ => ⟨rfl, rfl, (by decide : 10 + 3 ≤ _), (by decide : 28 + 8 ≤ _)⟩)
              dsimp only [Pt.U, Pt.locs, Pt.cells, Pt.slots] at X40 l40 y40 z40 st40 hQ40
              subst l40 y40 z40
              obtain ⟨r40, t40, kb40, cs40, rfl, N40q, K40, F40_0, lo40_0, lo40_1, ne40_0⟩ := hQ40
              have N40 := Fr.app N5 N40q
              have F40_0E := F40_0.1
              refine Goes.st st40 ?_
              show Goes _ _ _ _ (T40.setTop (mkF m 118 #[.val (.int p0), .val (.int p1), .val (.int p2), .val (.int p3), .val (.int p4), .val (.int i5), .val (.int i6), .val (.int i7), .val (.int i8), .val (.ref s9), .val (.ref s10), .val (.ref r3), .val (.ref b4), .unset, .unset, .unset, .unset] [(.ref r40), (.ref b4)]))
              have f43 : Exa Z T40.heap b4 "java/util/ArrayList" := (F5_0.keep K40)
              have f44 : Fld Z T40.heap b4 "java/util/ArrayList" "elementData" "[Ljava/lang/Object;" (.ref aD) := (F5_1.keep K40 nin0)
              have f45 : Fld Z T40.heap b4 "java/util/ArrayList" "size" "I" (.int (0 : Int32)) := (F5_2.keep K40 nin0)
              have f46 : Fld Z T40.heap b4 "java/util/AbstractList" "modCount" "I" (.int (0 : Int32)) := (F5_3.keep K40 nin0)
              have f47 : Arv Z T40.heap aD kD (.object "java/lang/Object") (0 : Int32) [] .null := ((((Pja_3.keep K3 nin0).ext E4).keep K5 (ninS (Nat.ne_of_lt (Nat.lt_of_lt_of_le Pja_3.lt (Nat.le_trans K3.1 (Nat.le_of_eq g4.symm)))) nin0)).keep K40 nin0)
              have f48 : Old Z n0 T40.heap := (f41.keep K40 all0)
              obtain ⟨cq42, kq42, q42a, q42b, q42c⟩ := isOf hZ rfl f43
              obtain ⟨_, _, ⟨T42, L42, k42, n42⟩, -, X42, ⟨Lc42, hQ42, l42, y42, z42⟩, st42⟩ := X40.virtualBack hx (y := (⟨"java/util/ArrayList", "add", "(Ljava/lang/Object;)Z"⟩ : MethodName)) (z := (⟨"java/util/ArrayList", "add", "(Ljava/lang/Object;)Z"⟩ : MethodName)) hown (mvT hZ (hw185 hw)) (mvT hZ (hw186 hw)) (notFace_of_selects (args := #[]) (mvT hZ (hw188 hw))) (mvT hZ (hw188 hw)) (mvT hZ (hw187 hw)) (by decide) (backOf (W := 0) (rm_add1 l Z a0 hw [] b4 r40 (0 : Int32) aD kD T40.heap n0 (Nat.le_trans Zja (Nat.le_trans (Nat.le_trans (Nat.le_trans K3.1 E4.1) K5.1) K40.1)) f43 f44 f45 f46 f47 F40_0E f48 (Nat.le_trans Zja (Nat.le_trans K3.1 (Nat.le_of_eq g4.symm))) OD) hZ (hw189 hw) (hw36 hw) (by decide) (by decide)) q42a q42c (g := (mkF m 118 #[.val (.int p0), .val (.int p1), .val (.int p2), .val (.int p3), .val (.int p4), .val (.int i5), .val (.int i6), .val (.int i7), .val (.int i8), .val (.ref s9), .val (.ref s10), .val (.ref r3), .val (.ref b4), .unset, .unset, .unset, .unset] [(.ref r40), (.ref b4)])) rfl (by rw [hml]; rfl) (Steps.refl _) (argsL := [(.ref r40)]) (rest := []) (lenOf pd_19 rfl) rfl (by show 2 * 0 + _ ≤ _; exact Nat.le_of_eq rfl) (hb hby at_118) (fun _ _ => ⟨rfl, rfl, (by decide : 13 + 1 ≤ _), (by decide : 36 + 10 ≤ _)⟩)
              dsimp only [Pt.U, Pt.locs, Pt.cells, Pt.slots] at X42 l42 y42 z42 st42 hQ42
              subst l42 y42 z42
              obtain ⟨ar42, kA42, rfl, N42q, K42, F42_0, F42_1, F42_2, F42_3, F42_4, lo42_0, ov_42⟩ := hQ42
              have N42 := Fr.app N40 N42q
              refine Goes.tr st42 ?_
              show Goes _ _ _ _ (T42.setTop (mkF m 121 #[.val (.int p0), .val (.int p1), .val (.int p2), .val (.int p3), .val (.int p4), .val (.int i5), .val (.int i6), .val (.int i7), .val (.int i8), .val (.ref s9), .val (.ref s10), .val (.ref r3), .val (.ref b4), .unset, .unset, .unset, .unset] [(.int (1 : Int32))]))
              refine Goes.st (fun t k => XS.pop X42.here hx rfl (hb hby at_121) rfl rfl k) ?_
              show Goes _ _ _ _ (T42.setTop (mkF m 122 #[.val (.int p0), .val (.int p1), .val (.int p2), .val (.int p3), .val (.int p4), .val (.int i5), .val (.int i6), .val (.int i7), .val (.int i8), .val (.ref s9), .val (.ref s10), .val (.ref r3), .val (.ref b4), .unset, .unset, .unset, .unset] []))
              refine Goes.st (fun t k => XS.iload X42.here hx rfl (hb hby at_122) rfl k) ?_
              show Goes _ _ _ _ (T42.setTop (mkF m 124 #[.val (.int p0), .val (.int p1), .val (.int p2), .val (.int p3), .val (.int p4), .val (.int i5), .val (.int i6), .val (.int i7), .val (.int i8), .val (.ref s9), .val (.ref s10), .val (.ref r3), .val (.ref b4), .unset, .unset, .unset, .unset] [(.int i7)]))
              refine Goes.st (fun t k => XS.iconst X42.here hx rfl (hb hby at_124) k) ?_
              show Goes _ _ _ _ (T42.setTop (mkF m 125 #[.val (.int p0), .val (.int p1), .val (.int p2), .val (.int p3), .val (.int p4), .val (.int i5), .val (.int i6), .val (.int i7), .val (.int i8), .val (.ref s9), .val (.ref s10), .val (.ref r3), .val (.ref b4), .unset, .unset, .unset, .unset] [(.int (2 : Int32)), (.int i7)]))
              by_cases cz49 : i7 < (2 : Int32)
              case pos =>
                refine Goes.st (fun t k => XS.icmpYes X42.here hx rfl (pc0 := 125) (pc' := 140) rfl (hb hby at_125) rfl (tlt cz49).1 (by decide) (by decide) k) ?_
                show Goes _ _ _ _ (T42.setTop (mkF m 140 #[.val (.int p0), .val (.int p1), .val (.int p2), .val (.int p3), .val (.int p4), .val (.int i5), .val (.int i6), .val (.int i7), .val (.int i8), .val (.ref s9), .val (.ref s10), .val (.ref r3), .val (.ref b4), .unset, .unset, .unset, .unset] []))
                have fz50 : Fld Z T42.heap b4 "java/util/ArrayList" "size" "I" (.int i7) := by rw [← (own_lt2 h3 cz34 cz49)]; exact F42_2
                have f51 : Old Z n0 T42.heap := (f48.keep K42 (allS (Nat.le_trans Zja (Nat.le_trans K3.1 (Nat.le_of_eq g4.symm))) all0))
                have f52 : Exa Z T42.heap s9 "java/lang/String" := (((((Pja_1.keep K3).ext E4).keep K5).keep K40).keep K42)
                have f53 : Exa Z T42.heap s10 "java/lang/String" := (((((Pja_2.keep K3).ext E4).keep K5).keep K40).keep K42)
                have f54 : Exa Z T42.heap r3 "java/lang/String" := ((((F3_0E.ext E4).keep K5).keep K40).keep K42)
                exact Jjb T42 T42.heap _ s9 s10 r3 b4 (X42.more (by decide) (by decide)) rfl N42 (Nat.le_trans Zja (Nat.le_trans (Nat.le_trans (Nat.le_trans (Nat.le_trans K3.1 E4.1) K5.1) K40.1) K42.1)) n0ja_s9 n0ja_s10 (Nat.le_trans Zja lo3_0) (Nat.le_trans Zja (Nat.le_trans K3.1 (Nat.le_of_eq g4.symm))) f51 f52 f53 f54 F42_0 fz50
              case neg =>
                refine Goes.st (fun t k => XS.icmpNo X42.here hx rfl (hb hby at_125) rfl (flt cz49).1 k) ?_
                show Goes _ _ _ _ (T42.setTop (mkF m 128 #[.val (.int p0), .val (.int p1), .val (.int p2), .val (.int p3), .val (.int p4), .val (.int i5), .val (.int i6), .val (.int i7), .val (.int i8), .val (.ref s9), .val (.ref s10), .val (.ref r3), .val (.ref b4), .unset, .unset, .unset, .unset] []))
                refine Goes.st (fun t k => XS.aload X42.here hx rfl (hb hby at_128) rfl rfl k) ?_
                show Goes _ _ _ _ (T42.setTop (mkF m 130 #[.val (.int p0), .val (.int p1), .val (.int p2), .val (.int p3), .val (.int p4), .val (.int i5), .val (.int i6), .val (.int i7), .val (.int i8), .val (.ref s9), .val (.ref s10), .val (.ref r3), .val (.ref b4), .unset, .unset, .unset, .unset] [(.ref b4)]))
                refine Goes.st (fun t k => XS.iloadN X42.here hx rfl (hb hby at_130) rfl k) ?_
                show Goes _ _ _ _ (T42.setTop (mkF m 131 #[.val (.int p0), .val (.int p1), .val (.int p2), .val (.int p3), .val (.int p4), .val (.int i5), .val (.int i6), .val (.int i7), .val (.int i8), .val (.ref s9), .val (.ref s10), .val (.ref r3), .val (.ref b4), .unset, .unset, .unset, .unset] [(.int p0), (.ref b4)]))
                refine Goes.st (fun t k => XS.iloadN X42.here hx rfl (hb hby at_131) rfl k) ?_
                show Goes _ _ _ _ (T42.setTop (mkF m 132 #[.val (.int p0), .val (.int p1), .val (.int p2), .val (.int p3), .val (.int p4), .val (.int i5), .val (.int i6), .val (.int i7), .val (.int i8), .val (.ref s9), .val (.ref s10), .val (.ref r3), .val (.ref b4), .unset, .unset, .unset, .unset] [(.int p1), (.int p0), (.ref b4)]))
                refine Goes.st (fun t k => XS.ixor X42.here hx rfl (hb hby at_132) rfl k) ?_
                show Goes _ _ _ _ (T42.setTop (mkF m 133 #[.val (.int p0), .val (.int p1), .val (.int p2), .val (.int p3), .val (.int p4), .val (.int i5), .val (.int i6), .val (.int i7), .val (.int i8), .val (.ref s9), .val (.ref s10), .val (.ref r3), .val (.ref b4), .unset, .unset, .unset, .unset] [(.int (p0 ^^^ p1)), (.ref b4)]))
                have f56 : Old Z n0 T42.heap := (f48.keep K42 (allS (Nat.le_trans Zja (Nat.le_trans K3.1 (Nat.le_of_eq g4.symm))) all0))
                obtain ⟨_, _, ⟨T55, L55, k55, n55⟩, -, X55, ⟨Lc55, hQ55, l55, y55, z55⟩, st55⟩ := Jvm.LawKit.callS X42 hx (y := (⟨"com/example/bolter/bolter/model/DefinitionAsPinLaw", "draw", "(I)Ljava/lang/String;"⟩ : MethodName)) hown (mvT hZ (hw0 hw)) (mvT hZ (hw1 hw)) (mvT hZ (hw2 hw)) (mvT hZ (hw3 hw)) (by decide) (backOf (W := 1) (rm_draw l Z a0 hw [] (p0 ^^^ p1) G1 T42.heap n0 (Nat.le_trans Zja (Nat.le_trans (Nat.le_trans (Nat.le_trans (Nat.le_trans K3.1 E4.1) K5.1) K40.1) K42.1)) f56 O2 P5) hZ (hw3 hw) (hw2 hw) (by decide) (by decide)) (g := (mkF m 133 #[.val (.int p0), .val (.int p1), .val (.int p2), .val (.int p3), .val (.int p4), .val (.int i5), .val (.int i6), .val (.int i7), .val (.int i8), .val (.ref s9), .val (.ref s10), .val (.ref r3), .val (.ref b4), .unset, .unset, .unset, .unset] [(.int (p0 ^^^ p1)), (.ref b4)])) rfl (by rw [hml]; rfl) (argsL := [(.int (p0 ^^^ p1))]) (rest := [(.ref b4)]) (lenOf pd_15 rfl) rfl (by show 2 * 0 + _ ≤ _; exact Nat.le_of_eq rfl) (hb hby at_133) (fun _ _ => ⟨rfl, rfl, (by decide : 14 + 3 ≤ _), (by decide : 46 + 8 ≤ _)⟩)
                dsimp only [Pt.U, Pt.locs, Pt.cells, Pt.slots] at X55 l55 y55 z55 st55 hQ55
                subst l55 y55 z55
                obtain ⟨r55, t55, kb55, cs55, rfl, N55q, K55, F55_0, lo55_0, lo55_1, ne55_0⟩ := hQ55
                have N55 := Fr.app N42 N55q
                have F55_0E := F55_0.1
                refine Goes.st st55 ?_
                show Goes _ _ _ _ (T55.setTop (mkF m 136 #[.val (.int p0), .val (.int p1), .val (.int p2), .val (.int p3), .val (.int p4), .val (.int i5), .val (.int i6), .val (.int i7), .val (.int i8), .val (.ref s9), .val (.ref s10), .val (.ref r3), .val (.ref b4), .unset, .unset, .unset, .unset] [(.ref r55), (.ref b4)]))
                have f58 : Exa Z T55.heap b4 "java/util/ArrayList" := (F42_0.keep K55)
                have f59 : Fld Z T55.heap b4 "java/util/ArrayList" "elementData" "[Ljava/lang/Object;" (.ref ar42) := (F42_1.keep K55 nin0)
                have f60 : Fld Z T55.heap b4 "java/util/ArrayList" "size" "I" (.int (1 : Int32)) := (F42_2.keep K55 nin0)
                have f61 : Fld Z T55.heap b4 "java/util/AbstractList" "modCount" "I" (.int ((0 : Int32) + (1 : Int32))) := (F42_3.keep K55 nin0)
                have f62 : Arv Z T55.heap ar42 kA42 (.object "java/lang/Object") (10 : Int32) [(.ref r40), .null, .null, .null, .null, .null, .null, .null, .null, .null] .null := (F42_4.keep K55 nin0)
                obtain ⟨cq57, kq57, q57a, q57b, q57c⟩ := isOf hZ rfl f58
                obtain ⟨_, _, ⟨T57, L57, k57, n57⟩, -, X57, ⟨Lc57, hQ57, l57, y57, z57⟩, st57⟩ := X55.virtualBack hx (y := (⟨"java/util/ArrayList", "add", "(Ljava/lang/Object;)Z"⟩ : MethodName)) (z := (⟨"java/util/ArrayList", "add", "(Ljava/lang/Object;)Z"⟩ : MethodName)) hown (mvT hZ (hw185 hw)) (mvT hZ (hw186 hw)) (notFace_of_selects (args := #[]) (mvT hZ (hw188 hw))) (mvT hZ (hw188 hw)) (mvT hZ (hw187 hw)) (by decide) (backOf (W := 0) (rm_add2 l Z a0 hw [] b4 r55 ar42 kA42 r40 ((0 : Int32) + (1 : Int32)) T55.heap n0 (Nat.le_trans Zja (Nat.le_trans (Nat.le_trans (Nat.le_trans (Nat.le_trans (Nat.le_trans K3.1 E4.1) K5.1) K40.1) K42.1) K55.1)) f58 f59 f60 f61 f62 F55_0E (Nat.le_trans Zja (Nat.le_trans K3.1 (Nat.le_of_eq g4.symm))) (Nat.le_trans Zja (Nat.le_trans (Nat.le_trans (Nat.le_trans (Nat.le_trans K3.1 E4.1) K5.1) K40.1) lo42_0)) ov_42) hZ (hw189 hw) (hw36 hw) (by decide) (by decide)) q57a q57c (g := (mkF m 136 #[.val (.int p0), .val (.int p1), .val (.int p2), .val (.int p3), .val (.int p4), .val (.int i5), .val (.int i6), .val (.int i7), .val (.int i8), .val (.ref s9), .val (.ref s10), .val (.ref r3), .val (.ref b4), .unset, .unset, .unset, .unset] [(.ref r55), (.ref b4)])) rfl (by rw [hml]; rfl) (Steps.refl _) (argsL := [(.ref r55)]) (rest := []) (lenOf pd_19 rfl) rfl (by show 2 * 0 + _ ≤ _; exact Nat.le_of_eq rfl) (hb hby at_136) (fun _ _ => ⟨rfl, rfl, (by decide : 17 + 0 ≤ _), (by decide : 54 + 0 ≤ _)⟩)
                dsimp only [Pt.U, Pt.locs, Pt.cells, Pt.slots] at X57 l57 y57 z57 st57 hQ57
                subst l57 y57 z57
                obtain ⟨rfl, N57q, K57, F57_0, F57_1, F57_2, F57_3, F57_4⟩ := hQ57
                have N57 := Fr.app N55 N57q
                refine Goes.tr st57 ?_
                show Goes _ _ _ _ (T57.setTop (mkF m 139 #[.val (.int p0), .val (.int p1), .val (.int p2), .val (.int p3), .val (.int p4), .val (.int i5), .val (.int i6), .val (.int i7), .val (.int i8), .val (.ref s9), .val (.ref s10), .val (.ref r3), .val (.ref b4), .unset, .unset, .unset, .unset] [(.int (1 : Int32))]))
                refine Goes.st (fun t k => XS.pop X57.here hx rfl (hb hby at_139) rfl rfl k) ?_
                show Goes _ _ _ _ (T57.setTop (mkF m 140 #[.val (.int p0), .val (.int p1), .val (.int p2), .val (.int p3), .val (.int p4), .val (.int i5), .val (.int i6), .val (.int i7), .val (.int i8), .val (.ref s9), .val (.ref s10), .val (.ref r3), .val (.ref b4), .unset, .unset, .unset, .unset] []))
                have fz63 : Fld Z T57.heap b4 "java/util/ArrayList" "size" "I" (.int i7) := by rw [← (own_ge2 h3 cz49)]; exact F57_2
                have f64 : Old Z n0 T57.heap := ((f56.keep K55 all0).keep K57 (allS (Nat.le_trans Zja (Nat.le_trans K3.1 (Nat.le_of_eq g4.symm))) (allS (Nat.le_trans Zja (Nat.le_trans (Nat.le_trans (Nat.le_trans (Nat.le_trans K3.1 E4.1) K5.1) K40.1) lo42_0)) all0)))
                have f65 : Exa Z T57.heap s9 "java/lang/String" := (((((((Pja_1.keep K3).ext E4).keep K5).keep K40).keep K42).keep K55).keep K57)
                have f66 : Exa Z T57.heap s10 "java/lang/String" := (((((((Pja_2.keep K3).ext E4).keep K5).keep K40).keep K42).keep K55).keep K57)
                have f67 : Exa Z T57.heap r3 "java/lang/String" := ((((((F3_0E.ext E4).keep K5).keep K40).keep K42).keep K55).keep K57)
                exact Jjb T57 T57.heap _ s9 s10 r3 b4 (X57.more (by decide) (by decide)) rfl N57 (Nat.le_trans Zja (Nat.le_trans (Nat.le_trans (Nat.le_trans (Nat.le_trans (Nat.le_trans (Nat.le_trans K3.1 E4.1) K5.1) K40.1) K42.1) K55.1) K57.1)) n0ja_s9 n0ja_s10 (Nat.le_trans Zja lo3_0) (Nat.le_trans Zja (Nat.le_trans K3.1 (Nat.le_of_eq g4.symm))) f64 f65 f66 f67 F57_0 fz63
          case neg =>
            refine Goes.st (fun t k => XS.ifNo Xja.here hx rfl (hb hby at_82) rfl ((if0 _ _).trans (feq cz2).1) k) ?_
            show Goes _ _ _ _ (Tja.setTop (mkF m 85 #[.val (.int p0), .val (.int p1), .val (.int p2), .val (.int p3), .val (.int p4), .val (.int i5), .val (.int i6), .val (.int i7), .val (.int i8), .val (.ref s9), .val (.ref s10), .unset, .unset, .unset, .unset, .unset, .unset] []))
            refine Goes.st (fun t k => XS.aconstNull Xja.here hx rfl (hb hby at_85) k) ?_
            show Goes _ _ _ _ (Tja.setTop (mkF m 86 #[.val (.int p0), .val (.int p1), .val (.int p2), .val (.int p3), .val (.int p4), .val (.int i5), .val (.int i6), .val (.int i7), .val (.int i8), .val (.ref s9), .val (.ref s10), .unset, .unset, .unset, .unset, .unset, .unset] [.null]))
            refine Goes.st (fun t k => XS.goto Xja.here hx rfl (pc0 := 86) (pc' := 93) rfl (hb hby at_86) (by decide) (by decide) k) ?_
            show Goes _ _ _ _ (Tja.setTop (mkF m 93 #[.val (.int p0), .val (.int p1), .val (.int p2), .val (.int p3), .val (.int p4), .val (.int i5), .val (.int i6), .val (.int i7), .val (.int i8), .val (.ref s9), .val (.ref s10), .unset, .unset, .unset, .unset, .unset, .unset] [.null]))
            refine Goes.st (fun t k => XS.astore Xja.here hx rfl (hb hby at_93) rfl rfl (l' := #[.val (.int p0), .val (.int p1), .val (.int p2), .val (.int p3), .val (.int p4), .val (.int i5), .val (.int i6), .val (.int i7), .val (.int i8), .val (.ref s9), .val (.ref s10), .val .null, .unset, .unset, .unset, .unset, .unset]) rfl k) ?_
            show Goes _ _ _ _ (Tja.setTop (mkF m 95 #[.val (.int p0), .val (.int p1), .val (.int p2), .val (.int p3), .val (.int p4), .val (.int i5), .val (.int i6), .val (.int i7), .val (.int i8), .val (.ref s9), .val (.ref s10), .val .null, .unset, .unset, .unset, .unset, .unset] []))
            obtain ⟨T68, h68, X68, e68, E68, A68, D68, -, st68⟩ := newO Xja hx hZ hown (hw34 hw) (hw35 hw) (hw36 hw) eja (g := (mkF m 95 #[.val (.int p0), .val (.int p1), .val (.int p2), .val (.int p3), .val (.int p4), .val (.int i5), .val (.int i6), .val (.int i7), .val (.int i8), .val (.ref s9), .val (.ref s10), .val .null, .unset, .unset, .unset, .unset, .unset] [])) rfl (hb hby at_95) (by decide) (by decide)
            obtain ⟨b68, g68⟩ : ∃ z, z = hja.size := ⟨_, rfl⟩
            rw [← g68] at A68 D68 st68
            have F68_modCount : Fld Z h68 b68 "java/util/AbstractList" "modCount" "I" (.int (0 : Int32)) := D68 (Or.inl (hw54 hw)) (ty := .int) (by decide)
            have F68_elementData : Fld Z h68 b68 "java/util/ArrayList" "elementData" "[Ljava/lang/Object;" .null := D68 (Or.inl (hw57 hw)) (ty := (.array (.object "java/lang/Object"))) (by decide)
            have F68_size : Fld Z h68 b68 "java/util/ArrayList" "size" "I" (.int (0 : Int32)) := D68 (Or.inl (hw184 hw)) (ty := .int) (by decide)
            refine Goes.st st68 ?_
            show Goes _ _ _ _ (T68.setTop (mkF m 98 #[.val (.int p0), .val (.int p1), .val (.int p2), .val (.int p3), .val (.int p4), .val (.int i5), .val (.int i6), .val (.int i7), .val (.int i8), .val (.ref s9), .val (.ref s10), .val .null, .unset, .unset, .unset, .unset, .unset] [(.ref b68)]))
            refine Goes.st (fun t k => XS.dup X68.here hx rfl (hb hby at_98) rfl rfl k) ?_
            show Goes _ _ _ _ (T68.setTop (mkF m 99 #[.val (.int p0), .val (.int p1), .val (.int p2), .val (.int p3), .val (.int p4), .val (.int i5), .val (.int i6), .val (.int i7), .val (.int i8), .val (.ref s9), .val (.ref s10), .val .null, .unset, .unset, .unset, .unset, .unset] [(.ref b68), (.ref b68)]))
            have f70 : Old Z n0 h68 := (Pja_0.ext E68)
            obtain ⟨_, _, ⟨T69, L69, k69, n69⟩, -, X69, ⟨Lc69, hQ69, l69, y69, z69⟩, st69⟩ := X68.specialBack hx (y := (⟨"java/util/ArrayList", "<init>", "()V"⟩ : MethodName)) rfl hown (mvT hZ (hw37 hw)) (mvT hZ (hw38 hw)) (mvT hZ (hw39 hw)) (by decide) (backOf (W := 1) (rm_alN l Z a0 hw [] b68 aD h68 n0 (Nat.le_trans Zja E68.1) A68 F68_elementData F68_size F68_modCount f70 (Nat.le_trans Zja (Nat.le_of_eq g68.symm)) OD) hZ (hw39 hw) (hw36 hw) (by decide) (by decide)) (g := (mkF m 99 #[.val (.int p0), .val (.int p1), .val (.int p2), .val (.int p3), .val (.int p4), .val (.int i5), .val (.int i6), .val (.int i7), .val (.int i8), .val (.ref s9), .val (.ref s10), .val .null, .unset, .unset, .unset, .unset, .unset] [(.ref b68), (.ref b68)])) rfl (by rw [hml]; rfl) (Steps.refl _) (a := b68) (argsL := []) (rest := [(.ref b68)]) (lenOf pd_0 rfl) rfl (by show 2 * 0 + _ ≤ _; exact Nat.le_of_eq rfl) (hb hby at_99) (fun _ _ => ⟨rfl, e68, (by decide : 7 + 0 ≤ _), (by decide : 20 + 0 ≤ _)⟩)
            dsimp only [Pt.U, Pt.locs, Pt.cells, Pt.slots] at X69 l69 y69 z69 st69 hQ69
            subst l69 y69 z69
            obtain ⟨rfl, N69q, K69, F69_0, F69_1, F69_2, F69_3⟩ := hQ69
            have N69 := Fr.app Nja N69q
            refine Goes.tr st69 ?_
            show Goes _ _ _ _ (T69.setTop (mkF m 102 #[.val (.int p0), .val (.int p1), .val (.int p2), .val (.int p3), .val (.int p4), .val (.int i5), .val (.int i6), .val (.int i7), .val (.int i8), .val (.ref s9), .val (.ref s10), .val .null, .unset, .unset, .unset, .unset, .unset] [(.ref b68)]))
            refine Goes.st (fun t k => XS.astore X69.here hx rfl (hb hby at_102) rfl rfl (l' := #[.val (.int p0), .val (.int p1), .val (.int p2), .val (.int p3), .val (.int p4), .val (.int i5), .val (.int i6), .val (.int i7), .val (.int i8), .val (.ref s9), .val (.ref s10), .val .null, .val (.ref b68), .unset, .unset, .unset, .unset]) rfl k) ?_
            show Goes _ _ _ _ (T69.setTop (mkF m 104 #[.val (.int p0), .val (.int p1), .val (.int p2), .val (.int p3), .val (.int p4), .val (.int i5), .val (.int i6), .val (.int i7), .val (.int i8), .val (.ref s9), .val (.ref s10), .val .null, .val (.ref b68), .unset, .unset, .unset, .unset] []))
            have Jjc : ∀ (Tjc : State) (hjc : Heap) (Ljc : List Loc) (s9 : Addr) (s10 : Addr) (al : Addr), Stand p l e room_1 s m #[(.int p0), (.int p1), (.int p2), (.int p3), (.int p4)] below meth c Tjc Ljc 18 60 → Tjc.heap = hjc → Fr n0 Ljc → n0 ≤ hjc.size → n0 ≤ s9 → n0 ≤ s10 → n0 ≤ al → Old Z n0 hjc → Exa Z hjc s9 "java/lang/String" → Exa Z hjc s10 "java/lang/String" → Exa Z hjc al "java/util/ArrayList" → Fld Z hjc al "java/util/ArrayList" "size" "I" (.int i7) → Goes p.tables e below QQ (Tjc.setTop (mkF m 140 #[.val (.int p0), .val (.int p1), .val (.int p2), .val (.int p3), .val (.int p4), .val (.int i5), .val (.int i6), .val (.int i7), .val (.int i8), .val (.ref s9), .val (.ref s10), .val .null, .val (.ref al), .unset, .unset, .unset, .unset] [])) := by
              intro Tjc hjc Ljc s9 s10 al Xjc ejc Njc Zjc n0jc_s9 n0jc_s10 n0jc_al Pjc_0 Pjc_1 Pjc_2 Pjc_3 Pjc_4
              show Goes _ _ _ _ (Tjc.setTop (mkF m 140 #[.val (.int p0), .val (.int p1), .val (.int p2), .val (.int p3), .val (.int p4), .val (.int i5), .val (.int i6), .val (.int i7), .val (.int i8), .val (.ref s9), .val (.ref s10), .val .null, .val (.ref al), .unset, .unset, .unset, .unset] []))
              obtain ⟨T71, h71, X71, e71, E71, A71, D71, -, st71⟩ := newO Xjc hx hZ hown (hw58 hw) (hw59 hw) (hw60 hw) ejc (g := (mkF m 140 #[.val (.int p0), .val (.int p1), .val (.int p2), .val (.int p3), .val (.int p4), .val (.int i5), .val (.int i6), .val (.int i7), .val (.int i8), .val (.ref s9), .val (.ref s10), .val .null, .val (.ref al), .unset, .unset, .unset, .unset] [])) rfl (hb hby at_140) (by decide) (by decide)
              obtain ⟨b71, g71⟩ : ∃ z, z = hjc.size := ⟨_, rfl⟩
              rw [← g71] at A71 D71 st71
              have F71_path : Fld Z h71 b71 "com/example/bolter/bolter/model/ElementDefinitions$Definition" "path" "Ljava/lang/String;" .null := D71 (Or.inr (hw71 hw)) (ty := (.object "java/lang/String")) (by decide)
              have F71_types : Fld Z h71 b71 "com/example/bolter/bolter/model/ElementDefinitions$Definition" "types" "Ljava/util/List;" .null := D71 (Or.inr (hw73 hw)) (ty := (.object "java/util/List")) (by decide)
              have F71_valueSet : Fld Z h71 b71 "com/example/bolter/bolter/model/ElementDefinitions$Definition" "valueSet" "Ljava/lang/String;" .null := D71 (Or.inr (hw75 hw)) (ty := (.object "java/lang/String")) (by decide)
              have F71_summary : Fld Z h71 b71 "com/example/bolter/bolter/model/ElementDefinitions$Definition" "summary" "Z" (.int (0 : Int32)) := D71 (Or.inr (hw77 hw)) (ty := .boolean) (by decide)
              have F71_min : Fld Z h71 b71 "com/example/bolter/bolter/model/ElementDefinitions$Definition" "min" "I" (.int (0 : Int32)) := D71 (Or.inr (hw79 hw)) (ty := .int) (by decide)
              refine Goes.st st71 ?_
              show Goes _ _ _ _ (T71.setTop (mkF m 143 #[.val (.int p0), .val (.int p1), .val (.int p2), .val (.int p3), .val (.int p4), .val (.int i5), .val (.int i6), .val (.int i7), .val (.int i8), .val (.ref s9), .val (.ref s10), .val .null, .val (.ref al), .unset, .unset, .unset, .unset] [(.ref b71)]))
              refine Goes.st (fun t k => XS.dup X71.here hx rfl (hb hby at_143) rfl rfl k) ?_
              show Goes _ _ _ _ (T71.setTop (mkF m 144 #[.val (.int p0), .val (.int p1), .val (.int p2), .val (.int p3), .val (.int p4), .val (.int i5), .val (.int i6), .val (.int i7), .val (.int i8), .val (.ref s9), .val (.ref s10), .val .null, .val (.ref al), .unset, .unset, .unset, .unset] [(.ref b71), (.ref b71)]))
              refine Goes.st (fun t k => XS.aload X71.here hx rfl (hb hby at_144) rfl rfl k) ?_
              show Goes _ _ _ _ (T71.setTop (mkF m 146 #[.val (.int p0), .val (.int p1), .val (.int p2), .val (.int p3), .val (.int p4), .val (.int i5), .val (.int i6), .val (.int i7), .val (.int i8), .val (.ref s9), .val (.ref s10), .val .null, .val (.ref al), .unset, .unset, .unset, .unset] [(.ref s9), (.ref b71), (.ref b71)]))
              refine Goes.st (fun t k => XS.aload X71.here hx rfl (hb hby at_146) rfl rfl k) ?_
              show Goes _ _ _ _ (T71.setTop (mkF m 148 #[.val (.int p0), .val (.int p1), .val (.int p2), .val (.int p3), .val (.int p4), .val (.int i5), .val (.int i6), .val (.int i7), .val (.int i8), .val (.ref s9), .val (.ref s10), .val .null, .val (.ref al), .unset, .unset, .unset, .unset] [(.ref al), (.ref s9), (.ref b71), (.ref b71)]))
              refine Goes.st (fun t k => XS.aload X71.here hx rfl (hb hby at_148) rfl rfl k) ?_
              show Goes _ _ _ _ (T71.setTop (mkF m 150 #[.val (.int p0), .val (.int p1), .val (.int p2), .val (.int p3), .val (.int p4), .val (.int i5), .val (.int i6), .val (.int i7), .val (.int i8), .val (.ref s9), .val (.ref s10), .val .null, .val (.ref al), .unset, .unset, .unset, .unset] [.null, (.ref al), (.ref s9), (.ref b71), (.ref b71)]))
              refine Goes.st (fun t k => XS.iload X71.here hx rfl (hb hby at_150) rfl k) ?_
              show Goes _ _ _ _ (T71.setTop (mkF m 152 #[.val (.int p0), .val (.int p1), .val (.int p2), .val (.int p3), .val (.int p4), .val (.int i5), .val (.int i6), .val (.int i7), .val (.int i8), .val (.ref s9), .val (.ref s10), .val .null, .val (.ref al), .unset, .unset, .unset, .unset] [(.int i5), .null, (.ref al), (.ref s9), (.ref b71), (.ref b71)]))
              refine Goes.st (fun t k => XS.iloadN X71.here hx rfl (hb hby at_152) rfl k) ?_
              show Goes _ _ _ _ (T71.setTop (mkF m 153 #[.val (.int p0), .val (.int p1), .val (.int p2), .val (.int p3), .val (.int p4), .val (.int i5), .val (.int i6), .val (.int i7), .val (.int i8), .val (.ref s9), .val (.ref s10), .val .null, .val (.ref al), .unset, .unset, .unset, .unset] [(.int p3), (.int i5), .null, (.ref al), (.ref s9), (.ref b71), (.ref b71)]))
              obtain ⟨_, _, ⟨T72, L72, k72, n72⟩, -, X72, ⟨Lc72, hQ72, l72, y72, z72⟩, st72⟩ := X71.specialBack hx (y := (⟨"com/example/bolter/bolter/model/ElementDefinitions$Definition", "<init>", "(Ljava/lang/String;Ljava/util/List;Ljava/lang/String;ZI)V"⟩ : MethodName)) rfl hown (mvT hZ (hw61 hw)) (mvT hZ (hw62 hw)) (mvT hZ (hw63 hw)) (by decide) (backOf (W := 1) (rm_dinit l Z a0 hw [] b71 s9 al (Value.null) i5 p3 h71 n0 (Nat.le_trans Zjc E71.1) A71 F71_path F71_types F71_valueSet F71_summary F71_min (Nat.le_trans Zjc (Nat.le_of_eq g71.symm)) rfl hz_i5) hZ (hw63 hw) (hw60 hw) (by decide) (by decide)) (g := (mkF m 153 #[.val (.int p0), .val (.int p1), .val (.int p2), .val (.int p3), .val (.int p4), .val (.int i5), .val (.int i6), .val (.int i7), .val (.int i8), .val (.ref s9), .val (.ref s10), .val .null, .val (.ref al), .unset, .unset, .unset, .unset] [(.int p3), (.int i5), .null, (.ref al), (.ref s9), (.ref b71), (.ref b71)])) rfl (by rw [hml]; rfl) (Steps.refl _) (a := b71) (argsL := [(.ref s9), (.ref al), .null, (.int i5), (.int p3)]) (rest := [(.ref b71)]) (lenOf pd_13 rfl) rfl (by show 2 * 0 + _ ≤ _; exact Nat.le_of_eq rfl) (hb hby at_153) (fun _ _ => ⟨rfl, e71, (by decide : 19 + 0 ≤ _), (by decide : 65 + 0 ≤ _)⟩)
              dsimp only [Pt.U, Pt.locs, Pt.cells, Pt.slots] at X72 l72 y72 z72 st72 hQ72
              subst l72 y72 z72
              obtain ⟨rfl, N72q, K72, F72_0, F72_1, F72_2, F72_3, F72_4, F72_5⟩ := hQ72
              have N72 := Fr.app Njc N72q
              refine Goes.tr st72 ?_
              show Goes _ _ _ _ (T72.setTop (mkF m 156 #[.val (.int p0), .val (.int p1), .val (.int p2), .val (.int p3), .val (.int p4), .val (.int i5), .val (.int i6), .val (.int i7), .val (.int i8), .val (.ref s9), .val (.ref s10), .val .null, .val (.ref al), .unset, .unset, .unset, .unset] [(.ref b71)]))
              refine Goes.st (fun t k => XS.astore X72.here hx rfl (hb hby at_156) rfl rfl (l' := #[.val (.int p0), .val (.int p1), .val (.int p2), .val (.int p3), .val (.int p4), .val (.int i5), .val (.int i6), .val (.int i7), .val (.int i8), .val (.ref s9), .val (.ref s10), .val .null, .val (.ref al), .val (.ref b71), .unset, .unset, .unset]) rfl k) ?_
              show Goes _ _ _ _ (T72.setTop (mkF m 158 #[.val (.int p0), .val (.int p1), .val (.int p2), .val (.int p3), .val (.int p4), .val (.int i5), .val (.int i6), .val (.int i7), .val (.int i8), .val (.ref s9), .val (.ref s10), .val .null, .val (.ref al), .val (.ref b71), .unset, .unset, .unset] []))
              refine Goes.st (fun t k => XS.aload X72.here hx rfl (hb hby at_158) rfl rfl k) ?_
              show Goes _ _ _ _ (T72.setTop (mkF m 160 #[.val (.int p0), .val (.int p1), .val (.int p2), .val (.int p3), .val (.int p4), .val (.int i5), .val (.int i6), .val (.int i7), .val (.int i8), .val (.ref s9), .val (.ref s10), .val .null, .val (.ref al), .val (.ref b71), .unset, .unset, .unset] [(.ref b71)]))
              refine Goes.st (fun t k => XS.aload X72.here hx rfl (hb hby at_160) rfl rfl k) ?_
              show Goes _ _ _ _ (T72.setTop (mkF m 162 #[.val (.int p0), .val (.int p1), .val (.int p2), .val (.int p3), .val (.int p4), .val (.int i5), .val (.int i6), .val (.int i7), .val (.int i8), .val (.ref s9), .val (.ref s10), .val .null, .val (.ref al), .val (.ref b71), .unset, .unset, .unset] [(.ref s10), (.ref b71)]))
              have f74 : Exa Z T72.heap s10 "java/lang/String" := ((Pjc_2.ext E71).keep K72)
              have f75 : Old Z n0 T72.heap := ((Pjc_0.ext E71).keep K72 (allS (Nat.le_trans Zjc (Nat.le_of_eq g71.symm)) all0))
              obtain ⟨cq73, kq73, q73a, q73b, q73c⟩ := isOf hZ rfl F72_0
              obtain ⟨_, _, ⟨T73, L73, k73, n73⟩, -, X73, ⟨Lc73, hQ73, l73, y73, z73⟩, st73⟩ := X72.virtualBack hx (y := (⟨"com/example/bolter/bolter/model/ElementDefinitions$Definition", "as", "(Ljava/lang/String;)Lcom/example/bolter/bolter/model/ElementDefinitions$Definition;"⟩ : MethodName)) (z := (⟨"com/example/bolter/bolter/model/ElementDefinitions$Definition", "as", "(Ljava/lang/String;)Lcom/example/bolter/bolter/model/ElementDefinitions$Definition;"⟩ : MethodName)) hown (mvT hZ (hw80 hw)) (mvT hZ (hw81 hw)) (notFace_of_selects (args := #[]) (mvT hZ (hw83 hw))) (mvT hZ (hw83 hw)) (mvT hZ (hw82 hw)) (by decide) (backOf (W := 0) (rm_as l Z a0 hw [] b71 s10 s9 (Value.null) i5 p3 aE T72.heap n0 (Nat.le_trans Zjc (Nat.le_trans E71.1 K72.1)) F72_1 F72_3 F72_4 F72_5 f74 f75 rfl hz_i5 OE) hZ (hw84 hw) (hw60 hw) (by decide) (by decide)) q73a q73c (g := (mkF m 162 #[.val (.int p0), .val (.int p1), .val (.int p2), .val (.int p3), .val (.int p4), .val (.int i5), .val (.int i6), .val (.int i7), .val (.int i8), .val (.ref s9), .val (.ref s10), .val .null, .val (.ref al), .val (.ref b71), .unset, .unset, .unset] [(.ref s10), (.ref b71)])) rfl (by rw [hml]; rfl) (Steps.refl _) (argsL := [(.ref s10)]) (rest := []) (lenOf pd_16 rfl) rfl (by show 2 * 0 + _ ≤ _; exact Nat.le_of_eq rfl) (hb hby at_162) (fun _ _ => ⟨rfl, rfl, (by decide : 19 + 2 ≤ _), (by decide : 65 + 7 ≤ _)⟩)
              dsimp only [Pt.U, Pt.locs, Pt.cells, Pt.slots] at X73 l73 y73 z73 st73 hQ73
              subst l73 y73 z73
              obtain ⟨d73, li73, rfl, N73q, K73, F73_0, F73_1, F73_2, F73_3, F73_4, F73_5, F73_6, F73_7, F73_8, lo73_0, lo73_1, ne73_0⟩ := hQ73
              have N73 := Fr.app N72 N73q
              refine Goes.tr st73 ?_
              show Goes _ _ _ _ (T73.setTop (mkF m 165 #[.val (.int p0), .val (.int p1), .val (.int p2), .val (.int p3), .val (.int p4), .val (.int i5), .val (.int i6), .val (.int i7), .val (.int i8), .val (.ref s9), .val (.ref s10), .val .null, .val (.ref al), .val (.ref b71), .unset, .unset, .unset] [(.ref d73)]))
              refine Goes.st (fun t k => XS.astore X73.here hx rfl (hb hby at_165) rfl rfl (l' := #[.val (.int p0), .val (.int p1), .val (.int p2), .val (.int p3), .val (.int p4), .val (.int i5), .val (.int i6), .val (.int i7), .val (.int i8), .val (.ref s9), .val (.ref s10), .val .null, .val (.ref al), .val (.ref b71), .val (.ref d73), .unset, .unset]) rfl k) ?_
              show Goes _ _ _ _ (T73.setTop (mkF m 167 #[.val (.int p0), .val (.int p1), .val (.int p2), .val (.int p3), .val (.int p4), .val (.int i5), .val (.int i6), .val (.int i7), .val (.int i8), .val (.ref s9), .val (.ref s10), .val .null, .val (.ref al), .val (.ref b71), .val (.ref d73), .unset, .unset] []))
              refine Goes.st (fun t k => XS.aload X73.here hx rfl (hb hby at_167) rfl rfl k) ?_
              show Goes _ _ _ _ (T73.setTop (mkF m 169 #[.val (.int p0), .val (.int p1), .val (.int p2), .val (.int p3), .val (.int p4), .val (.int i5), .val (.int i6), .val (.int i7), .val (.int i8), .val (.ref s9), .val (.ref s10), .val .null, .val (.ref al), .val (.ref b71), .val (.ref d73), .unset, .unset] [(.ref d73)]))
              obtain ⟨cq76, kq76, q76a, q76b, q76c⟩ := isOf hZ rfl F73_0
              obtain ⟨_, _, ⟨T76, L76, k76, n76⟩, -, X76, ⟨Lc76, hQ76, l76, y76, z76⟩, st76⟩ := X73.virtualBack hx (y := (⟨"com/example/bolter/bolter/model/ElementDefinitions$Definition", "types", "()Ljava/util/List;"⟩ : MethodName)) (z := (⟨"com/example/bolter/bolter/model/ElementDefinitions$Definition", "types", "()Ljava/util/List;"⟩ : MethodName)) hown (mvT hZ (hw122 hw)) (mvT hZ (hw123 hw)) (notFace_of_selects (args := #[]) (mvT hZ (hw125 hw))) (mvT hZ (hw125 hw)) (mvT hZ (hw124 hw)) (by decide) (backOf (W := 0) (rm_gtypes l Z a0 hw [] d73 li73 T73.heap n0 (Nat.le_trans Zjc (Nat.le_trans (Nat.le_trans E71.1 K72.1) K73.1)) F73_2) hZ (hw126 hw) (hw60 hw) (by decide) (by decide)) q76a q76c (g := (mkF m 169 #[.val (.int p0), .val (.int p1), .val (.int p2), .val (.int p3), .val (.int p4), .val (.int i5), .val (.int i6), .val (.int i7), .val (.int i8), .val (.ref s9), .val (.ref s10), .val .null, .val (.ref al), .val (.ref b71), .val (.ref d73), .unset, .unset] [(.ref d73)])) rfl (by rw [hml]; rfl) (Steps.refl _) (argsL := []) (rest := []) (lenOf pd_17 rfl) rfl (by show 2 * 0 + _ ≤ _; exact Nat.le_of_eq rfl) (hb hby at_169) (fun _ _ => ⟨rfl, rfl, (by decide : 21 + 0 ≤ _), (by decide : 72 + 0 ≤ _)⟩)
              dsimp only [Pt.U, Pt.locs, Pt.cells, Pt.slots] at X76 l76 y76 z76 st76 hQ76
              subst l76 y76 z76
              obtain ⟨rfl, N76q, K76⟩ := hQ76
              have N76 := Fr.app N73 N76q
              refine Goes.tr st76 ?_
              show Goes _ _ _ _ (T76.setTop (mkF m 172 #[.val (.int p0), .val (.int p1), .val (.int p2), .val (.int p3), .val (.int p4), .val (.int i5), .val (.int i6), .val (.int i7), .val (.int i8), .val (.ref s9), .val (.ref s10), .val .null, .val (.ref al), .val (.ref b71), .val (.ref d73), .unset, .unset] [(.ref li73)]))
              refine Goes.st (fun t k => XS.astore X76.here hx rfl (hb hby at_172) rfl rfl (l' := #[.val (.int p0), .val (.int p1), .val (.int p2), .val (.int p3), .val (.int p4), .val (.int i5), .val (.int i6), .val (.int i7), .val (.int i8), .val (.ref s9), .val (.ref s10), .val .null, .val (.ref al), .val (.ref b71), .val (.ref d73), .val (.ref li73), .unset]) rfl k) ?_
              show Goes _ _ _ _ (T76.setTop (mkF m 174 #[.val (.int p0), .val (.int p1), .val (.int p2), .val (.int p3), .val (.int p4), .val (.int i5), .val (.int i6), .val (.int i7), .val (.int i8), .val (.ref s9), .val (.ref s10), .val .null, .val (.ref al), .val (.ref b71), .val (.ref d73), .val (.ref li73), .unset] []))
              refine Goes.st (fun t k => XS.iload X76.here hx rfl (hb hby at_174) rfl k) ?_
              show Goes _ _ _ _ (T76.setTop (mkF m 176 #[.val (.int p0), .val (.int p1), .val (.int p2), .val (.int p3), .val (.int p4), .val (.int i5), .val (.int i6), .val (.int i7), .val (.int i8), .val (.ref s9), .val (.ref s10), .val .null, .val (.ref al), .val (.ref b71), .val (.ref d73), .val (.ref li73), .unset] [(.int i6)]))
              refine Goes.st (fun t k => XS.ifNo X76.here hx rfl (hb hby at_176) rfl ((if0 _ _).trans (feq cz2).1) k) ?_
              show Goes _ _ _ _ (T76.setTop (mkF m 179 #[.val (.int p0), .val (.int p1), .val (.int p2), .val (.int p3), .val (.int p4), .val (.int i5), .val (.int i6), .val (.int i7), .val (.int i8), .val (.ref s9), .val (.ref s10), .val .null, .val (.ref al), .val (.ref b71), .val (.ref d73), .val (.ref li73), .unset] []))
              refine Goes.st (fun t k => XS.aload X76.here hx rfl (hb hby at_179) rfl rfl k) ?_
              show Goes _ _ _ _ (T76.setTop (mkF m 181 #[.val (.int p0), .val (.int p1), .val (.int p2), .val (.int p3), .val (.int p4), .val (.int i5), .val (.int i6), .val (.int i7), .val (.int i8), .val (.ref s9), .val (.ref s10), .val .null, .val (.ref al), .val (.ref b71), .val (.ref d73), .val (.ref li73), .unset] [(.ref d73)]))
              obtain ⟨cq77, kq77, q77a, q77b, q77c⟩ := isOf hZ K76 F73_0
              obtain ⟨_, _, ⟨T77, L77, k77, n77⟩, -, X77, ⟨Lc77, hQ77, l77, y77, z77⟩, st77⟩ := X76.virtualBack hx (y := (⟨"com/example/bolter/bolter/model/ElementDefinitions$Definition", "valueSet", "()Ljava/lang/String;"⟩ : MethodName)) (z := (⟨"com/example/bolter/bolter/model/ElementDefinitions$Definition", "valueSet", "()Ljava/lang/String;"⟩ : MethodName)) hown (mvT hZ (hw127 hw)) (mvT hZ (hw128 hw)) (notFace_of_selects (args := #[]) (mvT hZ (hw130 hw))) (mvT hZ (hw130 hw)) (mvT hZ (hw129 hw)) (by decide) (backOf (W := 0) (rm_gvs l Z a0 hw [] d73 T73.heap n0 (Nat.le_trans Zjc (Nat.le_trans (Nat.le_trans E71.1 K72.1) K73.1)) F73_3) hZ (hw131 hw) (hw60 hw) (by decide) (by decide)) q77a q77c (g := (mkF m 181 #[.val (.int p0), .val (.int p1), .val (.int p2), .val (.int p3), .val (.int p4), .val (.int i5), .val (.int i6), .val (.int i7), .val (.int i8), .val (.ref s9), .val (.ref s10), .val .null, .val (.ref al), .val (.ref b71), .val (.ref d73), .val (.ref li73), .unset] [(.ref d73)])) rfl (by rw [hml]; rfl) (Steps.refl _) (argsL := []) (rest := []) (lenOf pd_18 rfl) rfl (by show 2 * 0 + _ ≤ _; exact Nat.le_of_eq rfl) (hb hby at_181) (fun _ _ => ⟨rfl, K76, (by decide : 21 + 0 ≤ _), (by decide : 72 + 0 ≤ _)⟩)
              dsimp only [Pt.U, Pt.locs, Pt.cells, Pt.slots] at X77 l77 y77 z77 st77 hQ77
              subst l77 y77 z77
              obtain ⟨rfl, N77q, K77⟩ := hQ77
              have N77 := Fr.app N76 N77q
              refine Goes.tr st77 ?_
              show Goes _ _ _ _ (T77.setTop (mkF m 184 #[.val (.int p0), .val (.int p1), .val (.int p2), .val (.int p3), .val (.int p4), .val (.int i5), .val (.int i6), .val (.int i7), .val (.int i8), .val (.ref s9), .val (.ref s10), .val .null, .val (.ref al), .val (.ref b71), .val (.ref d73), .val (.ref li73), .unset] [.null]))
              refine Goes.st (fun t k => XS.ifnonnullNo X77.here hx rfl (hb hby at_184) rfl k) ?_
              show Goes _ _ _ _ (T77.setTop (mkF m 187 #[.val (.int p0), .val (.int p1), .val (.int p2), .val (.int p3), .val (.int p4), .val (.int i5), .val (.int i6), .val (.int i7), .val (.int i8), .val (.ref s9), .val (.ref s10), .val .null, .val (.ref al), .val (.ref b71), .val (.ref d73), .val (.ref li73), .unset] []))
              refine Goes.st (fun t k => XS.iconst X77.here hx rfl (hb hby at_187) k) ?_
              show Goes _ _ _ _ (T77.setTop (mkF m 188 #[.val (.int p0), .val (.int p1), .val (.int p2), .val (.int p3), .val (.int p4), .val (.int i5), .val (.int i6), .val (.int i7), .val (.int i8), .val (.ref s9), .val (.ref s10), .val .null, .val (.ref al), .val (.ref b71), .val (.ref d73), .val (.ref li73), .unset] [(.int (1 : Int32))]))
              refine Goes.st (fun t k => XS.goto X77.here hx rfl (pc0 := 188) (pc' := 205) rfl (hb hby at_188) (by decide) (by decide) k) ?_
              show Goes _ _ _ _ (T77.setTop (mkF m 205 #[.val (.int p0), .val (.int p1), .val (.int p2), .val (.int p3), .val (.int p4), .val (.int i5), .val (.int i6), .val (.int i7), .val (.int i8), .val (.ref s9), .val (.ref s10), .val .null, .val (.ref al), .val (.ref b71), .val (.ref d73), .val (.ref li73), .unset] [(.int (1 : Int32))]))
              refine Goes.st (fun t k => XS.istore X77.here hx rfl (hb hby at_205) rfl (l' := #[.val (.int p0), .val (.int p1), .val (.int p2), .val (.int p3), .val (.int p4), .val (.int i5), .val (.int i6), .val (.int i7), .val (.int i8), .val (.ref s9), .val (.ref s10), .val .null, .val (.ref al), .val (.ref b71), .val (.ref d73), .val (.ref li73), .val (.int (1 : Int32))]) rfl k) ?_
              show Goes _ _ _ _ (T77.setTop (mkF m 207 #[.val (.int p0), .val (.int p1), .val (.int p2), .val (.int p3), .val (.int p4), .val (.int i5), .val (.int i6), .val (.int i7), .val (.int i8), .val (.ref s9), .val (.ref s10), .val .null, .val (.ref al), .val (.ref b71), .val (.ref d73), .val (.ref li73), .val (.int (1 : Int32))] []))
              refine Goes.st (fun t k => XS.aload X77.here hx rfl (hb hby at_207) rfl rfl k) ?_
              show Goes _ _ _ _ (T77.setTop (mkF m 209 #[.val (.int p0), .val (.int p1), .val (.int p2), .val (.int p3), .val (.int p4), .val (.int i5), .val (.int i6), .val (.int i7), .val (.int i8), .val (.ref s9), .val (.ref s10), .val .null, .val (.ref al), .val (.ref b71), .val (.ref d73), .val (.ref li73), .val (.int (1 : Int32))] [(.ref s9)]))
              refine Goes.st (fun t k => XS.aload X77.here hx rfl (hb hby at_209) rfl rfl k) ?_
              show Goes _ _ _ _ (T77.setTop (mkF m 211 #[.val (.int p0), .val (.int p1), .val (.int p2), .val (.int p3), .val (.int p4), .val (.int i5), .val (.int i6), .val (.int i7), .val (.int i8), .val (.ref s9), .val (.ref s10), .val .null, .val (.ref al), .val (.ref b71), .val (.ref d73), .val (.ref li73), .val (.int (1 : Int32))] [(.ref d73), (.ref s9)]))
              obtain ⟨cq78, kq78, q78a, q78b, q78c⟩ := isOf hZ K77 F73_0
              obtain ⟨_, _, ⟨T78, L78, k78, n78⟩, -, X78, ⟨Lc78, hQ78, l78, y78, z78⟩, st78⟩ := X77.virtualBack hx (y := (⟨"com/example/bolter/bolter/model/ElementDefinitions$Definition", "path", "()Ljava/lang/String;"⟩ : MethodName)) (z := (⟨"com/example/bolter/bolter/model/ElementDefinitions$Definition", "path", "()Ljava/lang/String;"⟩ : MethodName)) hown (mvT hZ (hw137 hw)) (mvT hZ (hw138 hw)) (notFace_of_selects (args := #[]) (mvT hZ (hw140 hw))) (mvT hZ (hw140 hw)) (mvT hZ (hw139 hw)) (by decide) (backOf (W := 1) (rm_gpath l Z a0 hw [] d73 s9 T73.heap n0 (Nat.le_trans Zjc (Nat.le_trans (Nat.le_trans E71.1 K72.1) K73.1)) F73_1) hZ (hw141 hw) (hw60 hw) (by decide) (by decide)) q78a q78c (g := (mkF m 211 #[.val (.int p0), .val (.int p1), .val (.int p2), .val (.int p3), .val (.int p4), .val (.int i5), .val (.int i6), .val (.int i7), .val (.int i8), .val (.ref s9), .val (.ref s10), .val .null, .val (.ref al), .val (.ref b71), .val (.ref d73), .val (.ref li73), .val (.int (1 : Int32))] [(.ref d73), (.ref s9)])) rfl (by rw [hml]; rfl) (Steps.refl _) (argsL := []) (rest := [(.ref s9)]) (lenOf pd_18 rfl) rfl (by show 2 * 0 + _ ≤ _; exact Nat.le_of_eq rfl) (hb hby at_211) (fun _ _ => ⟨rfl, K77, (by decide : 21 + 0 ≤ _), (by decide : 72 + 0 ≤ _)⟩)
              dsimp only [Pt.U, Pt.locs, Pt.cells, Pt.slots] at X78 l78 y78 z78 st78 hQ78
              subst l78 y78 z78
              obtain ⟨rfl, N78q, K78⟩ := hQ78
              have N78 := Fr.app N77 N78q
              refine Goes.tr st78 ?_
              show Goes _ _ _ _ (T78.setTop (mkF m 214 #[.val (.int p0), .val (.int p1), .val (.int p2), .val (.int p3), .val (.int p4), .val (.int i5), .val (.int i6), .val (.int i7), .val (.int i8), .val (.ref s9), .val (.ref s10), .val .null, .val (.ref al), .val (.ref b71), .val (.ref d73), .val (.ref li73), .val (.int (1 : Int32))] [(.ref s9), (.ref s9)]))
              have f80 : Exa Z T73.heap s9 "java/lang/String" := (((Pjc_1.ext E71).keep K72).keep K73)
              obtain ⟨cq79, kq79, q79a, q79b, q79c⟩ := isOf hZ K78 f80
              obtain ⟨_, _, ⟨T79, L79, k79, n79⟩, -, X79, ⟨Lc79, hQ79, l79, y79, z79⟩, st79⟩ := X78.virtualBack hx (y := (⟨"java/lang/String", "equals", "(Ljava/lang/Object;)Z"⟩ : MethodName)) (z := (⟨"java/lang/String", "equals", "(Ljava/lang/Object;)Z"⟩ : MethodName)) hown (mvT hZ (hw132 hw)) (mvT hZ (hw133 hw)) (notFace_of_selects (args := #[]) (mvT hZ (hw135 hw))) (mvT hZ (hw135 hw)) (mvT hZ (hw134 hw)) (by decide) (backOf (W := 0) (rm_eqsame l Z a0 hw [] s9 T73.heap n0 (Nat.le_trans Zjc (Nat.le_trans (Nat.le_trans E71.1 K72.1) K73.1)) ) hZ (hw136 hw) (hw7 hw) (by decide) (by decide)) q79a q79c (g := (mkF m 214 #[.val (.int p0), .val (.int p1), .val (.int p2), .val (.int p3), .val (.int p4), .val (.int i5), .val (.int i6), .val (.int i7), .val (.int i8), .val (.ref s9), .val (.ref s10), .val .null, .val (.ref al), .val (.ref b71), .val (.ref d73), .val (.ref li73), .val (.int (1 : Int32))] [(.ref s9), (.ref s9)])) rfl (by rw [hml]; rfl) (Steps.refl _) (argsL := [(.ref s9)]) (rest := []) (lenOf pd_19 rfl) rfl (by show 2 * 0 + _ ≤ _; exact Nat.le_of_eq rfl) (hb hby at_214) (fun _ _ => ⟨rfl, K78, (by decide : 21 + 0 ≤ _), (by decide : 72 + 0 ≤ _)⟩)
              dsimp only [Pt.U, Pt.locs, Pt.cells, Pt.slots] at X79 l79 y79 z79 st79 hQ79
              subst l79 y79 z79
              obtain ⟨rfl, N79q, K79⟩ := hQ79
              have N79 := Fr.app N78 N79q
              refine Goes.tr st79 ?_
              show Goes _ _ _ _ (T79.setTop (mkF m 217 #[.val (.int p0), .val (.int p1), .val (.int p2), .val (.int p3), .val (.int p4), .val (.int i5), .val (.int i6), .val (.int i7), .val (.int i8), .val (.ref s9), .val (.ref s10), .val .null, .val (.ref al), .val (.ref b71), .val (.ref d73), .val (.ref li73), .val (.int (1 : Int32))] [(.int (1 : Int32))]))
              refine Goes.st (fun t k => XS.ifNo X79.here hx rfl (hb hby at_217) rfl ((if0 _ _).trans (feq (by decide : ¬ ((1 : Int32) = (0 : Int32)))).1) k) ?_
              show Goes _ _ _ _ (T79.setTop (mkF m 220 #[.val (.int p0), .val (.int p1), .val (.int p2), .val (.int p3), .val (.int p4), .val (.int i5), .val (.int i6), .val (.int i7), .val (.int i8), .val (.ref s9), .val (.ref s10), .val .null, .val (.ref al), .val (.ref b71), .val (.ref d73), .val (.ref li73), .val (.int (1 : Int32))] []))
              refine Goes.st (fun t k => XS.aload X79.here hx rfl (hb hby at_220) rfl rfl k) ?_
              show Goes _ _ _ _ (T79.setTop (mkF m 222 #[.val (.int p0), .val (.int p1), .val (.int p2), .val (.int p3), .val (.int p4), .val (.int i5), .val (.int i6), .val (.int i7), .val (.int i8), .val (.ref s9), .val (.ref s10), .val .null, .val (.ref al), .val (.ref b71), .val (.ref d73), .val (.ref li73), .val (.int (1 : Int32))] [(.ref li73)]))
              have f82 : Old Z n0 T73.heap := (f75.keep K73 all0)
              obtain ⟨cq81, kq81, q81a, q81b, q81c⟩ := isOf hZ K79 F73_6
              obtain ⟨_, _, ⟨T81, L81, k81, n81⟩, -, X81, ⟨Lc81, hQ81, l81, y81, z81⟩, st81⟩ := X79.interfaceBack hx (xi := (⟨"java/util/List", "size", "()I"⟩ : MethodName)) (y := (⟨"java/util/ImmutableCollections$List12", "size", "()I"⟩ : MethodName)) hown (mvT hZ (hw142 hw)) (mvT hZ (hw143 hw)) (mvT hZ (hw144 hw)) (mvT hZ (hw145 hw)) (mvT hZ (hw146 hw)) (mvT hZ (hw147 hw)) (mvT hZ (hw148 hw)) (mvT hZ (hw149 hw)) (by decide) (backOf (W := 0) (rm_sz12 l Z a0 hw [] li73 aE T73.heap n0 (Nat.le_trans Zjc (Nat.le_trans (Nat.le_trans E71.1 K72.1) K73.1)) F73_8 f82 OE) hZ (hw150 hw) (hw92 hw) (by decide) (by decide)) q81a q81b q81c (g := (mkF m 222 #[.val (.int p0), .val (.int p1), .val (.int p2), .val (.int p3), .val (.int p4), .val (.int i5), .val (.int i6), .val (.int i7), .val (.int i8), .val (.ref s9), .val (.ref s10), .val .null, .val (.ref al), .val (.ref b71), .val (.ref d73), .val (.ref li73), .val (.int (1 : Int32))] [(.ref li73)])) rfl (by rw [hml]; rfl) (Steps.refl _) (argsL := []) (rest := []) (lenOf pd_10 rfl) rfl (by show 2 * 0 + _ ≤ _; exact Nat.le_of_eq rfl) (hb hby at_222) (fun _ _ => ⟨rfl, K79, (by decide : 21 + 0 ≤ _), (by decide : 72 + 0 ≤ _)⟩)
              dsimp only [Pt.U, Pt.locs, Pt.cells, Pt.slots] at X81 l81 y81 z81 st81 hQ81
              subst l81 y81 z81
              obtain ⟨rfl, N81q, K81⟩ := hQ81
              have N81 := Fr.app N79 N81q
              refine Goes.tr st81 ?_
              show Goes _ _ _ _ (T81.setTop (mkF m 227 #[.val (.int p0), .val (.int p1), .val (.int p2), .val (.int p3), .val (.int p4), .val (.int i5), .val (.int i6), .val (.int i7), .val (.int i8), .val (.ref s9), .val (.ref s10), .val .null, .val (.ref al), .val (.ref b71), .val (.ref d73), .val (.ref li73), .val (.int (1 : Int32))] [(.int (1 : Int32))]))
              refine Goes.st (fun t k => XS.iconst X81.here hx rfl (hb hby at_227) k) ?_
              show Goes _ _ _ _ (T81.setTop (mkF m 228 #[.val (.int p0), .val (.int p1), .val (.int p2), .val (.int p3), .val (.int p4), .val (.int i5), .val (.int i6), .val (.int i7), .val (.int i8), .val (.ref s9), .val (.ref s10), .val .null, .val (.ref al), .val (.ref b71), .val (.ref d73), .val (.ref li73), .val (.int (1 : Int32))] [(.int (1 : Int32)), (.int (1 : Int32))]))
              refine Goes.st (fun t k => XS.icmpNo X81.here hx rfl (hb hby at_228) rfl (teq (by decide : (1 : Int32) = (1 : Int32))).2 k) ?_
              show Goes _ _ _ _ (T81.setTop (mkF m 231 #[.val (.int p0), .val (.int p1), .val (.int p2), .val (.int p3), .val (.int p4), .val (.int i5), .val (.int i6), .val (.int i7), .val (.int i8), .val (.ref s9), .val (.ref s10), .val .null, .val (.ref al), .val (.ref b71), .val (.ref d73), .val (.ref li73), .val (.int (1 : Int32))] []))
              refine Goes.st (fun t k => XS.aload X81.here hx rfl (hb hby at_231) rfl rfl k) ?_
              show Goes _ _ _ _ (T81.setTop (mkF m 233 #[.val (.int p0), .val (.int p1), .val (.int p2), .val (.int p3), .val (.int p4), .val (.int i5), .val (.int i6), .val (.int i7), .val (.int i8), .val (.ref s9), .val (.ref s10), .val .null, .val (.ref al), .val (.ref b71), .val (.ref d73), .val (.ref li73), .val (.int (1 : Int32))] [(.ref s10)]))
              refine Goes.st (fun t k => XS.aload X81.here hx rfl (hb hby at_233) rfl rfl k) ?_
              show Goes _ _ _ _ (T81.setTop (mkF m 235 #[.val (.int p0), .val (.int p1), .val (.int p2), .val (.int p3), .val (.int p4), .val (.int i5), .val (.int i6), .val (.int i7), .val (.int i8), .val (.ref s9), .val (.ref s10), .val .null, .val (.ref al), .val (.ref b71), .val (.ref d73), .val (.ref li73), .val (.int (1 : Int32))] [(.ref li73), (.ref s10)]))
              refine Goes.st (fun t k => XS.iconst X81.here hx rfl (hb hby at_235) k) ?_
              show Goes _ _ _ _ (T81.setTop (mkF m 236 #[.val (.int p0), .val (.int p1), .val (.int p2), .val (.int p3), .val (.int p4), .val (.int i5), .val (.int i6), .val (.int i7), .val (.int i8), .val (.ref s9), .val (.ref s10), .val .null, .val (.ref al), .val (.ref b71), .val (.ref d73), .val (.ref li73), .val (.int (1 : Int32))] [(.int (0 : Int32)), (.ref li73), (.ref s10)]))
              obtain ⟨cq83, kq83, q83a, q83b, q83c⟩ := isOf hZ K81 F73_6
              obtain ⟨_, _, ⟨T83, L83, k83, n83⟩, -, X83, ⟨Lc83, hQ83, l83, y83, z83⟩, st83⟩ := X81.interfaceBack hx (xi := (⟨"java/util/List", "get", "(I)Ljava/lang/Object;"⟩ : MethodName)) (y := (⟨"java/util/ImmutableCollections$List12", "get", "(I)Ljava/lang/Object;"⟩ : MethodName)) hown (mvT hZ (hw151 hw)) (mvT hZ (hw152 hw)) (mvT hZ (hw153 hw)) (mvT hZ (hw154 hw)) (mvT hZ (hw155 hw)) (mvT hZ (hw156 hw)) (mvT hZ (hw157 hw)) (mvT hZ (hw149 hw)) (by decide) (backOf (W := 1) (rm_get12 l Z a0 hw [] li73 s10 T73.heap n0 (Nat.le_trans Zjc (Nat.le_trans (Nat.le_trans E71.1 K72.1) K73.1)) F73_7) hZ (hw158 hw) (hw92 hw) (by decide) (by decide)) q83a q83b q83c (g := (mkF m 236 #[.val (.int p0), .val (.int p1), .val (.int p2), .val (.int p3), .val (.int p4), .val (.int i5), .val (.int i6), .val (.int i7), .val (.int i8), .val (.ref s9), .val (.ref s10), .val .null, .val (.ref al), .val (.ref b71), .val (.ref d73), .val (.ref li73), .val (.int (1 : Int32))] [(.int (0 : Int32)), (.ref li73), (.ref s10)])) rfl (by rw [hml]; rfl) (Steps.refl _) (argsL := [(.int (0 : Int32))]) (rest := [(.ref s10)]) (lenOf pd_11 rfl) rfl (by show 2 * 0 + _ ≤ _; exact Nat.le_of_eq rfl) (hb hby at_236) (fun _ _ => ⟨rfl, K81, (by decide : 21 + 0 ≤ _), (by decide : 72 + 0 ≤ _)⟩)
              dsimp only [Pt.U, Pt.locs, Pt.cells, Pt.slots] at X83 l83 y83 z83 st83 hQ83
              subst l83 y83 z83
              obtain ⟨rfl, N83q, K83⟩ := hQ83
              have N83 := Fr.app N81 N83q
              refine Goes.tr st83 ?_
              show Goes _ _ _ _ (T83.setTop (mkF m 241 #[.val (.int p0), .val (.int p1), .val (.int p2), .val (.int p3), .val (.int p4), .val (.int i5), .val (.int i6), .val (.int i7), .val (.int i8), .val (.ref s9), .val (.ref s10), .val .null, .val (.ref al), .val (.ref b71), .val (.ref d73), .val (.ref li73), .val (.int (1 : Int32))] [(.ref s10), (.ref s10)]))
              have f85 : Exa Z T73.heap s10 "java/lang/String" := (f74.keep K73)
              obtain ⟨cq84, kq84, q84a, q84b, q84c⟩ := isOf hZ K83 f85
              obtain ⟨_, _, ⟨T84, L84, k84, n84⟩, -, X84, ⟨Lc84, hQ84, l84, y84, z84⟩, st84⟩ := X83.virtualBack hx (y := (⟨"java/lang/String", "equals", "(Ljava/lang/Object;)Z"⟩ : MethodName)) (z := (⟨"java/lang/String", "equals", "(Ljava/lang/Object;)Z"⟩ : MethodName)) hown (mvT hZ (hw132 hw)) (mvT hZ (hw133 hw)) (notFace_of_selects (args := #[]) (mvT hZ (hw135 hw))) (mvT hZ (hw135 hw)) (mvT hZ (hw134 hw)) (by decide) (backOf (W := 0) (rm_eqsame l Z a0 hw [] s10 T73.heap n0 (Nat.le_trans Zjc (Nat.le_trans (Nat.le_trans E71.1 K72.1) K73.1)) ) hZ (hw136 hw) (hw7 hw) (by decide) (by decide)) q84a q84c (g := (mkF m 241 #[.val (.int p0), .val (.int p1), .val (.int p2), .val (.int p3), .val (.int p4), .val (.int i5), .val (.int i6), .val (.int i7), .val (.int i8), .val (.ref s9), .val (.ref s10), .val .null, .val (.ref al), .val (.ref b71), .val (.ref d73), .val (.ref li73), .val (.int (1 : Int32))] [(.ref s10), (.ref s10)])) rfl (by rw [hml]; rfl) (Steps.refl _) (argsL := [(.ref s10)]) (rest := []) (lenOf pd_19 rfl) rfl (by show 2 * 0 + _ ≤ _; exact Nat.le_of_eq rfl) (hb hby at_241) (fun _ _ => ⟨rfl, K83, (by decide : 21 + 0 ≤ _), (by decide : 72 + 0 ≤ _)⟩)
              dsimp only [Pt.U, Pt.locs, Pt.cells, Pt.slots] at X84 l84 y84 z84 st84 hQ84
              subst l84 y84 z84
              obtain ⟨rfl, N84q, K84⟩ := hQ84
              have N84 := Fr.app N83 N84q
              refine Goes.tr st84 ?_
              show Goes _ _ _ _ (T84.setTop (mkF m 244 #[.val (.int p0), .val (.int p1), .val (.int p2), .val (.int p3), .val (.int p4), .val (.int i5), .val (.int i6), .val (.int i7), .val (.int i8), .val (.ref s9), .val (.ref s10), .val .null, .val (.ref al), .val (.ref b71), .val (.ref d73), .val (.ref li73), .val (.int (1 : Int32))] [(.int (1 : Int32))]))
              refine Goes.st (fun t k => XS.ifNo X84.here hx rfl (hb hby at_244) rfl ((if0 _ _).trans (feq (by decide : ¬ ((1 : Int32) = (0 : Int32)))).1) k) ?_
              show Goes _ _ _ _ (T84.setTop (mkF m 247 #[.val (.int p0), .val (.int p1), .val (.int p2), .val (.int p3), .val (.int p4), .val (.int i5), .val (.int i6), .val (.int i7), .val (.int i8), .val (.ref s9), .val (.ref s10), .val .null, .val (.ref al), .val (.ref b71), .val (.ref d73), .val (.ref li73), .val (.int (1 : Int32))] []))
              refine Goes.st (fun t k => XS.aload X84.here hx rfl (hb hby at_247) rfl rfl k) ?_
              show Goes _ _ _ _ (T84.setTop (mkF m 249 #[.val (.int p0), .val (.int p1), .val (.int p2), .val (.int p3), .val (.int p4), .val (.int i5), .val (.int i6), .val (.int i7), .val (.int i8), .val (.ref s9), .val (.ref s10), .val .null, .val (.ref al), .val (.ref b71), .val (.ref d73), .val (.ref li73), .val (.int (1 : Int32))] [(.ref s10)]))
              refine Goes.st (fun t k => XS.aload X84.here hx rfl (hb hby at_249) rfl rfl k) ?_
              show Goes _ _ _ _ (T84.setTop (mkF m 251 #[.val (.int p0), .val (.int p1), .val (.int p2), .val (.int p3), .val (.int p4), .val (.int i5), .val (.int i6), .val (.int i7), .val (.int i8), .val (.ref s9), .val (.ref s10), .val .null, .val (.ref al), .val (.ref b71), .val (.ref d73), .val (.ref li73), .val (.int (1 : Int32))] [(.ref d73), (.ref s10)]))
              obtain ⟨cq86, kq86, q86a, q86b, q86c⟩ := isOf hZ K84 F73_0
              obtain ⟨_, _, ⟨T86, L86, k86, n86⟩, -, X86, ⟨Lc86, hQ86, l86, y86, z86⟩, st86⟩ := X84.virtualBack hx (y := (⟨"com/example/bolter/bolter/model/ElementDefinitions$Definition", "type", "()Ljava/lang/String;"⟩ : MethodName)) (z := (⟨"com/example/bolter/bolter/model/ElementDefinitions$Definition", "type", "()Ljava/lang/String;"⟩ : MethodName)) hown (mvT hZ (hw159 hw)) (mvT hZ (hw160 hw)) (notFace_of_selects (args := #[]) (mvT hZ (hw162 hw))) (mvT hZ (hw162 hw)) (mvT hZ (hw161 hw)) (by decide) (backOf (W := 1) (rm_gtype l Z a0 hw [] d73 li73 s10 aE T73.heap n0 (Nat.le_trans Zjc (Nat.le_trans (Nat.le_trans E71.1 K72.1) K73.1)) F73_2 F73_6 F73_7 F73_8 f85 f82 OE) hZ (hw163 hw) (hw60 hw) (by decide) (by decide)) q86a q86c (g := (mkF m 251 #[.val (.int p0), .val (.int p1), .val (.int p2), .val (.int p3), .val (.int p4), .val (.int i5), .val (.int i6), .val (.int i7), .val (.int i8), .val (.ref s9), .val (.ref s10), .val .null, .val (.ref al), .val (.ref b71), .val (.ref d73), .val (.ref li73), .val (.int (1 : Int32))] [(.ref d73), (.ref s10)])) rfl (by rw [hml]; rfl) (Steps.refl _) (argsL := []) (rest := [(.ref s10)]) (lenOf pd_18 rfl) rfl (by show 2 * 0 + _ ≤ _; exact Nat.le_of_eq rfl) (hb hby at_251) (fun _ _ => ⟨rfl, K84, (by decide : 21 + 0 ≤ _), (by decide : 72 + 0 ≤ _)⟩)
              dsimp only [Pt.U, Pt.locs, Pt.cells, Pt.slots] at X86 l86 y86 z86 st86 hQ86
              subst l86 y86 z86
              obtain ⟨rfl, N86q, K86⟩ := hQ86
              have N86 := Fr.app N84 N86q
              refine Goes.tr st86 ?_
              show Goes _ _ _ _ (T86.setTop (mkF m 254 #[.val (.int p0), .val (.int p1), .val (.int p2), .val (.int p3), .val (.int p4), .val (.int i5), .val (.int i6), .val (.int i7), .val (.int i8), .val (.ref s9), .val (.ref s10), .val .null, .val (.ref al), .val (.ref b71), .val (.ref d73), .val (.ref li73), .val (.int (1 : Int32))] [(.ref s10), (.ref s10)]))
              obtain ⟨cq87, kq87, q87a, q87b, q87c⟩ := isOf hZ K86 f85
              obtain ⟨_, _, ⟨T87, L87, k87, n87⟩, -, X87, ⟨Lc87, hQ87, l87, y87, z87⟩, st87⟩ := X86.virtualBack hx (y := (⟨"java/lang/String", "equals", "(Ljava/lang/Object;)Z"⟩ : MethodName)) (z := (⟨"java/lang/String", "equals", "(Ljava/lang/Object;)Z"⟩ : MethodName)) hown (mvT hZ (hw132 hw)) (mvT hZ (hw133 hw)) (notFace_of_selects (args := #[]) (mvT hZ (hw135 hw))) (mvT hZ (hw135 hw)) (mvT hZ (hw134 hw)) (by decide) (backOf (W := 0) (rm_eqsame l Z a0 hw [] s10 T73.heap n0 (Nat.le_trans Zjc (Nat.le_trans (Nat.le_trans E71.1 K72.1) K73.1)) ) hZ (hw136 hw) (hw7 hw) (by decide) (by decide)) q87a q87c (g := (mkF m 254 #[.val (.int p0), .val (.int p1), .val (.int p2), .val (.int p3), .val (.int p4), .val (.int i5), .val (.int i6), .val (.int i7), .val (.int i8), .val (.ref s9), .val (.ref s10), .val .null, .val (.ref al), .val (.ref b71), .val (.ref d73), .val (.ref li73), .val (.int (1 : Int32))] [(.ref s10), (.ref s10)])) rfl (by rw [hml]; rfl) (Steps.refl _) (argsL := [(.ref s10)]) (rest := []) (lenOf pd_19 rfl) rfl (by show 2 * 0 + _ ≤ _; exact Nat.le_of_eq rfl) (hb hby at_254) (fun _ _ => ⟨rfl, K86, (by decide : 21 + 0 ≤ _), (by decide : 72 + 0 ≤ _)⟩)
              dsimp only [Pt.U, Pt.locs, Pt.cells, Pt.slots] at X87 l87 y87 z87 st87 hQ87
              subst l87 y87 z87
              obtain ⟨rfl, N87q, K87⟩ := hQ87
              have N87 := Fr.app N86 N87q
              refine Goes.tr st87 ?_
              show Goes _ _ _ _ (T87.setTop (mkF m 257 #[.val (.int p0), .val (.int p1), .val (.int p2), .val (.int p3), .val (.int p4), .val (.int i5), .val (.int i6), .val (.int i7), .val (.int i8), .val (.ref s9), .val (.ref s10), .val .null, .val (.ref al), .val (.ref b71), .val (.ref d73), .val (.ref li73), .val (.int (1 : Int32))] [(.int (1 : Int32))]))
              refine Goes.st (fun t k => XS.ifNo X87.here hx rfl (hb hby at_257) rfl ((if0 _ _).trans (feq (by decide : ¬ ((1 : Int32) = (0 : Int32)))).1) k) ?_
              show Goes _ _ _ _ (T87.setTop (mkF m 260 #[.val (.int p0), .val (.int p1), .val (.int p2), .val (.int p3), .val (.int p4), .val (.int i5), .val (.int i6), .val (.int i7), .val (.int i8), .val (.ref s9), .val (.ref s10), .val .null, .val (.ref al), .val (.ref b71), .val (.ref d73), .val (.ref li73), .val (.int (1 : Int32))] []))
              refine Goes.st (fun t k => XS.aload X87.here hx rfl (hb hby at_260) rfl rfl k) ?_
              show Goes _ _ _ _ (T87.setTop (mkF m 262 #[.val (.int p0), .val (.int p1), .val (.int p2), .val (.int p3), .val (.int p4), .val (.int i5), .val (.int i6), .val (.int i7), .val (.int i8), .val (.ref s9), .val (.ref s10), .val .null, .val (.ref al), .val (.ref b71), .val (.ref d73), .val (.ref li73), .val (.int (1 : Int32))] [(.ref d73)]))
              obtain ⟨cq88, kq88, q88a, q88b, q88c⟩ := isOf hZ K87 F73_0
              obtain ⟨_, _, ⟨T88, L88, k88, n88⟩, -, X88, ⟨Lc88, hQ88, l88, y88, z88⟩, st88⟩ := X87.virtualBack hx (y := (⟨"com/example/bolter/bolter/model/ElementDefinitions$Definition", "summary", "()Z"⟩ : MethodName)) (z := (⟨"com/example/bolter/bolter/model/ElementDefinitions$Definition", "summary", "()Z"⟩ : MethodName)) hown (mvT hZ (hw167 hw)) (mvT hZ (hw168 hw)) (notFace_of_selects (args := #[]) (mvT hZ (hw170 hw))) (mvT hZ (hw170 hw)) (mvT hZ (hw169 hw)) (by decide) (backOf (W := 0) (rm_gsum l Z a0 hw [] d73 i5 T73.heap n0 (Nat.le_trans Zjc (Nat.le_trans (Nat.le_trans E71.1 K72.1) K73.1)) F73_4 hz_i5) hZ (hw171 hw) (hw60 hw) (by decide) (by decide)) q88a q88c (g := (mkF m 262 #[.val (.int p0), .val (.int p1), .val (.int p2), .val (.int p3), .val (.int p4), .val (.int i5), .val (.int i6), .val (.int i7), .val (.int i8), .val (.ref s9), .val (.ref s10), .val .null, .val (.ref al), .val (.ref b71), .val (.ref d73), .val (.ref li73), .val (.int (1 : Int32))] [(.ref d73)])) rfl (by rw [hml]; rfl) (Steps.refl _) (argsL := []) (rest := []) (lenOf pd_20 rfl) rfl (by show 2 * 0 + _ ≤ _; exact Nat.le_of_eq rfl) (hb hby at_262) (fun _ _ => ⟨rfl, K87, (by decide : 21 + 0 ≤ _), (by decide : 72 + 0 ≤ _)⟩)
              dsimp only [Pt.U, Pt.locs, Pt.cells, Pt.slots] at X88 l88 y88 z88 st88 hQ88
              subst l88 y88 z88
              obtain ⟨rfl, N88q, K88⟩ := hQ88
              have N88 := Fr.app N87 N88q
              refine Goes.tr st88 ?_
              show Goes _ _ _ _ (T88.setTop (mkF m 265 #[.val (.int p0), .val (.int p1), .val (.int p2), .val (.int p3), .val (.int p4), .val (.int i5), .val (.int i6), .val (.int i7), .val (.int i8), .val (.ref s9), .val (.ref s10), .val .null, .val (.ref al), .val (.ref b71), .val (.ref d73), .val (.ref li73), .val (.int (1 : Int32))] [(.int i5)]))
              refine Goes.st (fun t k => XS.iload X88.here hx rfl (hb hby at_265) rfl k) ?_
              show Goes _ _ _ _ (T88.setTop (mkF m 267 #[.val (.int p0), .val (.int p1), .val (.int p2), .val (.int p3), .val (.int p4), .val (.int i5), .val (.int i6), .val (.int i7), .val (.int i8), .val (.ref s9), .val (.ref s10), .val .null, .val (.ref al), .val (.ref b71), .val (.ref d73), .val (.ref li73), .val (.int (1 : Int32))] [(.int i5), (.int i5)]))
              refine Goes.st (fun t k => XS.icmpNo X88.here hx rfl (hb hby at_267) rfl (teq rfl).2 k) ?_
              show Goes _ _ _ _ (T88.setTop (mkF m 270 #[.val (.int p0), .val (.int p1), .val (.int p2), .val (.int p3), .val (.int p4), .val (.int i5), .val (.int i6), .val (.int i7), .val (.int i8), .val (.ref s9), .val (.ref s10), .val .null, .val (.ref al), .val (.ref b71), .val (.ref d73), .val (.ref li73), .val (.int (1 : Int32))] []))
              refine Goes.st (fun t k => XS.aload X88.here hx rfl (hb hby at_270) rfl rfl k) ?_
              show Goes _ _ _ _ (T88.setTop (mkF m 272 #[.val (.int p0), .val (.int p1), .val (.int p2), .val (.int p3), .val (.int p4), .val (.int i5), .val (.int i6), .val (.int i7), .val (.int i8), .val (.ref s9), .val (.ref s10), .val .null, .val (.ref al), .val (.ref b71), .val (.ref d73), .val (.ref li73), .val (.int (1 : Int32))] [(.ref d73)]))
              obtain ⟨cq89, kq89, q89a, q89b, q89c⟩ := isOf hZ K88 F73_0
              obtain ⟨_, _, ⟨T89, L89, k89, n89⟩, -, X89, ⟨Lc89, hQ89, l89, y89, z89⟩, st89⟩ := X88.virtualBack hx (y := (⟨"com/example/bolter/bolter/model/ElementDefinitions$Definition", "min", "()I"⟩ : MethodName)) (z := (⟨"com/example/bolter/bolter/model/ElementDefinitions$Definition", "min", "()I"⟩ : MethodName)) hown (mvT hZ (hw172 hw)) (mvT hZ (hw173 hw)) (notFace_of_selects (args := #[]) (mvT hZ (hw175 hw))) (mvT hZ (hw175 hw)) (mvT hZ (hw174 hw)) (by decide) (backOf (W := 0) (rm_gmin l Z a0 hw [] d73 p3 T73.heap n0 (Nat.le_trans Zjc (Nat.le_trans (Nat.le_trans E71.1 K72.1) K73.1)) F73_5) hZ (hw176 hw) (hw60 hw) (by decide) (by decide)) q89a q89c (g := (mkF m 272 #[.val (.int p0), .val (.int p1), .val (.int p2), .val (.int p3), .val (.int p4), .val (.int i5), .val (.int i6), .val (.int i7), .val (.int i8), .val (.ref s9), .val (.ref s10), .val .null, .val (.ref al), .val (.ref b71), .val (.ref d73), .val (.ref li73), .val (.int (1 : Int32))] [(.ref d73)])) rfl (by rw [hml]; rfl) (Steps.refl _) (argsL := []) (rest := []) (lenOf pd_10 rfl) rfl (by show 2 * 0 + _ ≤ _; exact Nat.le_of_eq rfl) (hb hby at_272) (fun _ _ => ⟨rfl, K88, (by decide : 21 + 0 ≤ _), (by decide : 72 + 0 ≤ _)⟩)
              dsimp only [Pt.U, Pt.locs, Pt.cells, Pt.slots] at X89 l89 y89 z89 st89 hQ89
              subst l89 y89 z89
              obtain ⟨rfl, N89q, K89⟩ := hQ89
              have N89 := Fr.app N88 N89q
              refine Goes.tr st89 ?_
              show Goes _ _ _ _ (T89.setTop (mkF m 275 #[.val (.int p0), .val (.int p1), .val (.int p2), .val (.int p3), .val (.int p4), .val (.int i5), .val (.int i6), .val (.int i7), .val (.int i8), .val (.ref s9), .val (.ref s10), .val .null, .val (.ref al), .val (.ref b71), .val (.ref d73), .val (.ref li73), .val (.int (1 : Int32))] [(.int p3)]))
              refine Goes.st (fun t k => XS.iloadN X89.here hx rfl (hb hby at_275) rfl k) ?_
              show Goes _ _ _ _ (T89.setTop (mkF m 276 #[.val (.int p0), .val (.int p1), .val (.int p2), .val (.int p3), .val (.int p4), .val (.int i5), .val (.int i6), .val (.int i7), .val (.int i8), .val (.ref s9), .val (.ref s10), .val .null, .val (.ref al), .val (.ref b71), .val (.ref d73), .val (.ref li73), .val (.int (1 : Int32))] [(.int p3), (.int p3)]))
              refine Goes.st (fun t k => XS.icmpNo X89.here hx rfl (hb hby at_276) rfl (teq rfl).2 k) ?_
              show Goes _ _ _ _ (T89.setTop (mkF m 279 #[.val (.int p0), .val (.int p1), .val (.int p2), .val (.int p3), .val (.int p4), .val (.int i5), .val (.int i6), .val (.int i7), .val (.int i8), .val (.ref s9), .val (.ref s10), .val .null, .val (.ref al), .val (.ref b71), .val (.ref d73), .val (.ref li73), .val (.int (1 : Int32))] []))
              refine Goes.st (fun t k => XS.iload X89.here hx rfl (hb hby at_279) rfl k) ?_
              show Goes _ _ _ _ (T89.setTop (mkF m 281 #[.val (.int p0), .val (.int p1), .val (.int p2), .val (.int p3), .val (.int p4), .val (.int i5), .val (.int i6), .val (.int i7), .val (.int i8), .val (.ref s9), .val (.ref s10), .val .null, .val (.ref al), .val (.ref b71), .val (.ref d73), .val (.ref li73), .val (.int (1 : Int32))] [(.int (1 : Int32))]))
              refine Goes.st (fun t k => XS.ifNo X89.here hx rfl (hb hby at_281) rfl ((if0 _ _).trans (feq (by decide : ¬ ((1 : Int32) = (0 : Int32)))).1) k) ?_
              show Goes _ _ _ _ (T89.setTop (mkF m 284 #[.val (.int p0), .val (.int p1), .val (.int p2), .val (.int p3), .val (.int p4), .val (.int i5), .val (.int i6), .val (.int i7), .val (.int i8), .val (.ref s9), .val (.ref s10), .val .null, .val (.ref al), .val (.ref b71), .val (.ref d73), .val (.ref li73), .val (.int (1 : Int32))] []))
              refine Goes.st (fun t k => XS.aload X89.here hx rfl (hb hby at_284) rfl rfl k) ?_
              show Goes _ _ _ _ (T89.setTop (mkF m 286 #[.val (.int p0), .val (.int p1), .val (.int p2), .val (.int p3), .val (.int p4), .val (.int i5), .val (.int i6), .val (.int i7), .val (.int i8), .val (.ref s9), .val (.ref s10), .val .null, .val (.ref al), .val (.ref b71), .val (.ref d73), .val (.ref li73), .val (.int (1 : Int32))] [(.ref b71)]))
              have f91 : Fld Z T73.heap b71 "com/example/bolter/bolter/model/ElementDefinitions$Definition" "types" "Ljava/util/List;" (.ref al) := (F72_2.keep K73 nin0)
              have f92 : Exa Z T73.heap b71 "com/example/bolter/bolter/model/ElementDefinitions$Definition" := (F72_0.keep K73)
              obtain ⟨cq90, kq90, q90a, q90b, q90c⟩ := isOf hZ K89 f92
              obtain ⟨_, _, ⟨T90, L90, k90, n90⟩, -, X90, ⟨Lc90, hQ90, l90, y90, z90⟩, st90⟩ := X89.virtualBack hx (y := (⟨"com/example/bolter/bolter/model/ElementDefinitions$Definition", "types", "()Ljava/util/List;"⟩ : MethodName)) (z := (⟨"com/example/bolter/bolter/model/ElementDefinitions$Definition", "types", "()Ljava/util/List;"⟩ : MethodName)) hown (mvT hZ (hw122 hw)) (mvT hZ (hw123 hw)) (notFace_of_selects (args := #[]) (mvT hZ (hw125 hw))) (mvT hZ (hw125 hw)) (mvT hZ (hw124 hw)) (by decide) (backOf (W := 0) (rm_gtypes l Z a0 hw [] b71 al T73.heap n0 (Nat.le_trans Zjc (Nat.le_trans (Nat.le_trans E71.1 K72.1) K73.1)) f91) hZ (hw126 hw) (hw60 hw) (by decide) (by decide)) q90a q90c (g := (mkF m 286 #[.val (.int p0), .val (.int p1), .val (.int p2), .val (.int p3), .val (.int p4), .val (.int i5), .val (.int i6), .val (.int i7), .val (.int i8), .val (.ref s9), .val (.ref s10), .val .null, .val (.ref al), .val (.ref b71), .val (.ref d73), .val (.ref li73), .val (.int (1 : Int32))] [(.ref b71)])) rfl (by rw [hml]; rfl) (Steps.refl _) (argsL := []) (rest := []) (lenOf pd_17 rfl) rfl (by show 2 * 0 + _ ≤ _; exact Nat.le_of_eq rfl) (hb hby at_286) (fun _ _ => ⟨rfl, K89, (by decide : 21 + 0 ≤ _), (by decide : 72 + 0 ≤ _)⟩)
              dsimp only [Pt.U, Pt.locs, Pt.cells, Pt.slots] at X90 l90 y90 z90 st90 hQ90
              subst l90 y90 z90
              obtain ⟨rfl, N90q, K90⟩ := hQ90
              have N90 := Fr.app N89 N90q
              refine Goes.tr st90 ?_
              show Goes _ _ _ _ (T90.setTop (mkF m 289 #[.val (.int p0), .val (.int p1), .val (.int p2), .val (.int p3), .val (.int p4), .val (.int i5), .val (.int i6), .val (.int i7), .val (.int i8), .val (.ref s9), .val (.ref s10), .val .null, .val (.ref al), .val (.ref b71), .val (.ref d73), .val (.ref li73), .val (.int (1 : Int32))] [(.ref al)]))
              have f94 : Fld Z T73.heap al "java/util/ArrayList" "size" "I" (.int i7) := (((Pjc_4.ext E71).keep K72 (ninS (Nat.ne_of_lt (Nat.lt_of_lt_of_le Pjc_3.lt (Nat.le_of_eq g71.symm))) nin0)).keep K73 nin0)
              have f95 : Exa Z T73.heap al "java/util/ArrayList" := (((Pjc_3.ext E71).keep K72).keep K73)
              obtain ⟨cq93, kq93, q93a, q93b, q93c⟩ := isOf hZ K90 f95
              obtain ⟨_, _, ⟨T93, L93, k93, n93⟩, -, X93, ⟨Lc93, hQ93, l93, y93, z93⟩, st93⟩ := X90.interfaceBack hx (xi := (⟨"java/util/List", "size", "()I"⟩ : MethodName)) (y := (⟨"java/util/ArrayList", "size", "()I"⟩ : MethodName)) hown (mvT hZ (hw142 hw)) (mvT hZ (hw143 hw)) (mvT hZ (hw144 hw)) (mvT hZ (hw177 hw)) (mvT hZ (hw178 hw)) (mvT hZ (hw179 hw)) (mvT hZ (hw180 hw)) (mvT hZ (hw181 hw)) (by decide) (backOf (W := 0) (rm_alsz l Z a0 hw [] al i7 T73.heap n0 (Nat.le_trans Zjc (Nat.le_trans (Nat.le_trans E71.1 K72.1) K73.1)) f94) hZ (hw182 hw) (hw36 hw) (by decide) (by decide)) q93a q93b q93c (g := (mkF m 289 #[.val (.int p0), .val (.int p1), .val (.int p2), .val (.int p3), .val (.int p4), .val (.int i5), .val (.int i6), .val (.int i7), .val (.int i8), .val (.ref s9), .val (.ref s10), .val .null, .val (.ref al), .val (.ref b71), .val (.ref d73), .val (.ref li73), .val (.int (1 : Int32))] [(.ref al)])) rfl (by rw [hml]; rfl) (Steps.refl _) (argsL := []) (rest := []) (lenOf pd_10 rfl) rfl (by show 2 * 0 + _ ≤ _; exact Nat.le_of_eq rfl) (hb hby at_289) (fun _ _ => ⟨rfl, K90, (by decide : 21 + 0 ≤ _), (by decide : 72 + 0 ≤ _)⟩)
              dsimp only [Pt.U, Pt.locs, Pt.cells, Pt.slots] at X93 l93 y93 z93 st93 hQ93
              subst l93 y93 z93
              obtain ⟨rfl, N93q, K93⟩ := hQ93
              have N93 := Fr.app N90 N93q
              refine Goes.tr st93 ?_
              show Goes _ _ _ _ (T93.setTop (mkF m 294 #[.val (.int p0), .val (.int p1), .val (.int p2), .val (.int p3), .val (.int p4), .val (.int i5), .val (.int i6), .val (.int i7), .val (.int i8), .val (.ref s9), .val (.ref s10), .val .null, .val (.ref al), .val (.ref b71), .val (.ref d73), .val (.ref li73), .val (.int (1 : Int32))] [(.int i7)]))
              refine Goes.st (fun t k => XS.iload X93.here hx rfl (hb hby at_294) rfl k) ?_
              show Goes _ _ _ _ (T93.setTop (mkF m 296 #[.val (.int p0), .val (.int p1), .val (.int p2), .val (.int p3), .val (.int p4), .val (.int i5), .val (.int i6), .val (.int i7), .val (.int i8), .val (.ref s9), .val (.ref s10), .val .null, .val (.ref al), .val (.ref b71), .val (.ref d73), .val (.ref li73), .val (.int (1 : Int32))] [(.int i7), (.int i7)]))
              refine Goes.st (fun t k => XS.icmpNo X93.here hx rfl (hb hby at_296) rfl (teq rfl).2 k) ?_
              show Goes _ _ _ _ (T93.setTop (mkF m 299 #[.val (.int p0), .val (.int p1), .val (.int p2), .val (.int p3), .val (.int p4), .val (.int i5), .val (.int i6), .val (.int i7), .val (.int i8), .val (.ref s9), .val (.ref s10), .val .null, .val (.ref al), .val (.ref b71), .val (.ref d73), .val (.ref li73), .val (.int (1 : Int32))] []))
              refine Goes.st (fun t k => XS.iconst X93.here hx rfl (hb hby at_299) k) ?_
              show Goes _ _ _ _ (T93.setTop (mkF m 300 #[.val (.int p0), .val (.int p1), .val (.int p2), .val (.int p3), .val (.int p4), .val (.int i5), .val (.int i6), .val (.int i7), .val (.int i8), .val (.ref s9), .val (.ref s10), .val .null, .val (.ref al), .val (.ref b71), .val (.ref d73), .val (.ref li73), .val (.int (1 : Int32))] [(.int (1 : Int32))]))
              refine Goes.st (fun t k => XS.goto X93.here hx rfl (pc0 := 300) (pc' := 304) rfl (hb hby at_300) (by decide) (by decide) k) ?_
              show Goes _ _ _ _ (T93.setTop (mkF m 304 #[.val (.int p0), .val (.int p1), .val (.int p2), .val (.int p3), .val (.int p4), .val (.int i5), .val (.int i6), .val (.int i7), .val (.int i8), .val (.ref s9), .val (.ref s10), .val .null, .val (.ref al), .val (.ref b71), .val (.ref d73), .val (.ref li73), .val (.int (1 : Int32))] [(.int (1 : Int32))]))
              obtain ⟨fs, hr, hrun, hended, hW, hsame⟩ := X93.leave (v := some (.int (1 : Int32))) (fun h => by rw [Bd.returns] at h; cases h)
              subst hQQ
              refine ⟨_, _, retN X93 hx (t := .boolean) Bd.returns (by simp) (hb hby at_304) hr, hrun, hended, _, _, rfl, ?_, ⟨_, rfl⟩, hW, hsame.mono (by decide) (by decide)⟩
              show Q_law Z p0 p1 p2 p3 p4 G1 aE aD kD h0 n0 _ T93.heap _
              rw [K93]
              exact ⟨rfl, N93⟩
            show Goes _ _ _ _ (T69.setTop (mkF m 104 #[.val (.int p0), .val (.int p1), .val (.int p2), .val (.int p3), .val (.int p4), .val (.int i5), .val (.int i6), .val (.int i7), .val (.int i8), .val (.ref s9), .val (.ref s10), .val .null, .val (.ref b68), .unset, .unset, .unset, .unset] []))
            refine Goes.st (fun t k => XS.iload X69.here hx rfl (hb hby at_104) rfl k) ?_
            show Goes _ _ _ _ (T69.setTop (mkF m 106 #[.val (.int p0), .val (.int p1), .val (.int p2), .val (.int p3), .val (.int p4), .val (.int i5), .val (.int i6), .val (.int i7), .val (.int i8), .val (.ref s9), .val (.ref s10), .val .null, .val (.ref b68), .unset, .unset, .unset, .unset] [(.int i7)]))
            refine Goes.st (fun t k => XS.iconst X69.here hx rfl (hb hby at_106) k) ?_
            show Goes _ _ _ _ (T69.setTop (mkF m 107 #[.val (.int p0), .val (.int p1), .val (.int p2), .val (.int p3), .val (.int p4), .val (.int i5), .val (.int i6), .val (.int i7), .val (.int i8), .val (.ref s9), .val (.ref s10), .val .null, .val (.ref b68), .unset, .unset, .unset, .unset] [(.int (1 : Int32)), (.int i7)]))
            by_cases cz96 : i7 < (1 : Int32)
            case pos =>
              refine Goes.st (fun t k => XS.icmpYes X69.here hx rfl (pc0 := 107) (pc' := 122) rfl (hb hby at_107) rfl (tlt cz96).1 (by decide) (by decide) k) ?_
              show Goes _ _ _ _ (T69.setTop (mkF m 122 #[.val (.int p0), .val (.int p1), .val (.int p2), .val (.int p3), .val (.int p4), .val (.int i5), .val (.int i6), .val (.int i7), .val (.int i8), .val (.ref s9), .val (.ref s10), .val .null, .val (.ref b68), .unset, .unset, .unset, .unset] []))
              refine Goes.st (fun t k => XS.iload X69.here hx rfl (hb hby at_122) rfl k) ?_
              show Goes _ _ _ _ (T69.setTop (mkF m 124 #[.val (.int p0), .val (.int p1), .val (.int p2), .val (.int p3), .val (.int p4), .val (.int i5), .val (.int i6), .val (.int i7), .val (.int i8), .val (.ref s9), .val (.ref s10), .val .null, .val (.ref b68), .unset, .unset, .unset, .unset] [(.int i7)]))
              refine Goes.st (fun t k => XS.iconst X69.here hx rfl (hb hby at_124) k) ?_
              show Goes _ _ _ _ (T69.setTop (mkF m 125 #[.val (.int p0), .val (.int p1), .val (.int p2), .val (.int p3), .val (.int p4), .val (.int i5), .val (.int i6), .val (.int i7), .val (.int i8), .val (.ref s9), .val (.ref s10), .val .null, .val (.ref b68), .unset, .unset, .unset, .unset] [(.int (2 : Int32)), (.int i7)]))
              refine Goes.st (fun t k => XS.icmpYes X69.here hx rfl (pc0 := 125) (pc' := 140) rfl (hb hby at_125) rfl (tlt (own_lt12 h3 cz96)).1 (by decide) (by decide) k) ?_
              show Goes _ _ _ _ (T69.setTop (mkF m 140 #[.val (.int p0), .val (.int p1), .val (.int p2), .val (.int p3), .val (.int p4), .val (.int i5), .val (.int i6), .val (.int i7), .val (.int i8), .val (.ref s9), .val (.ref s10), .val .null, .val (.ref b68), .unset, .unset, .unset, .unset] []))
              have fz97 : Fld Z T69.heap b68 "java/util/ArrayList" "size" "I" (.int i7) := by rw [← (own_lt1 h3 cz96)]; exact F69_2
              have f98 : Old Z n0 T69.heap := (f70.keep K69 (allS (Nat.le_trans Zja (Nat.le_of_eq g68.symm)) all0))
              have f99 : Exa Z T69.heap s9 "java/lang/String" := ((Pja_1.ext E68).keep K69)
              have f100 : Exa Z T69.heap s10 "java/lang/String" := ((Pja_2.ext E68).keep K69)
              exact Jjc T69 T69.heap _ s9 s10 b68 (X69.more (by decide) (by decide)) rfl N69 (Nat.le_trans Zja (Nat.le_trans E68.1 K69.1)) n0ja_s9 n0ja_s10 (Nat.le_trans Zja (Nat.le_of_eq g68.symm)) f98 f99 f100 F69_0 fz97
            case neg =>
              refine Goes.st (fun t k => XS.icmpNo X69.here hx rfl (hb hby at_107) rfl (flt cz96).1 k) ?_
              show Goes _ _ _ _ (T69.setTop (mkF m 110 #[.val (.int p0), .val (.int p1), .val (.int p2), .val (.int p3), .val (.int p4), .val (.int i5), .val (.int i6), .val (.int i7), .val (.int i8), .val (.ref s9), .val (.ref s10), .val .null, .val (.ref b68), .unset, .unset, .unset, .unset] []))
              refine Goes.st (fun t k => XS.aload X69.here hx rfl (hb hby at_110) rfl rfl k) ?_
              show Goes _ _ _ _ (T69.setTop (mkF m 112 #[.val (.int p0), .val (.int p1), .val (.int p2), .val (.int p3), .val (.int p4), .val (.int i5), .val (.int i6), .val (.int i7), .val (.int i8), .val (.ref s9), .val (.ref s10), .val .null, .val (.ref b68), .unset, .unset, .unset, .unset] [(.ref b68)]))
              refine Goes.st (fun t k => XS.iloadN X69.here hx rfl (hb hby at_112) rfl k) ?_
              show Goes _ _ _ _ (T69.setTop (mkF m 113 #[.val (.int p0), .val (.int p1), .val (.int p2), .val (.int p3), .val (.int p4), .val (.int i5), .val (.int i6), .val (.int i7), .val (.int i8), .val (.ref s9), .val (.ref s10), .val .null, .val (.ref b68), .unset, .unset, .unset, .unset] [(.int p1), (.ref b68)]))
              refine Goes.st (fun t k => XS.iconst X69.here hx rfl (hb hby at_113) k) ?_
              show Goes _ _ _ _ (T69.setTop (mkF m 114 #[.val (.int p0), .val (.int p1), .val (.int p2), .val (.int p3), .val (.int p4), .val (.int i5), .val (.int i6), .val (.int i7), .val (.int i8), .val (.ref s9), .val (.ref s10), .val .null, .val (.ref b68), .unset, .unset, .unset, .unset] [(.int (-1 : Int32)), (.int p1), (.ref b68)]))
              refine Goes.st (fun t k => XS.ixor X69.here hx rfl (hb hby at_114) rfl k) ?_
              show Goes _ _ _ _ (T69.setTop (mkF m 115 #[.val (.int p0), .val (.int p1), .val (.int p2), .val (.int p3), .val (.int p4), .val (.int i5), .val (.int i6), .val (.int i7), .val (.int i8), .val (.ref s9), .val (.ref s10), .val .null, .val (.ref b68), .unset, .unset, .unset, .unset] [(.int (p1 ^^^ (-1 : Int32))), (.ref b68)]))
              have f102 : Old Z n0 T69.heap := (f70.keep K69 (allS (Nat.le_trans Zja (Nat.le_of_eq g68.symm)) all0))
              obtain ⟨_, _, ⟨T101, L101, k101, n101⟩, -, X101, ⟨Lc101, hQ101, l101, y101, z101⟩, st101⟩ := Jvm.LawKit.callS X69 hx (y := (⟨"com/example/bolter/bolter/model/DefinitionAsPinLaw", "draw", "(I)Ljava/lang/String;"⟩ : MethodName)) hown (mvT hZ (hw0 hw)) (mvT hZ (hw1 hw)) (mvT hZ (hw2 hw)) (mvT hZ (hw3 hw)) (by decide) (backOf (W := 1) (rm_draw l Z a0 hw [] (p1 ^^^ (-1 : Int32)) G1 T69.heap n0 (Nat.le_trans Zja (Nat.le_trans E68.1 K69.1)) f102 O2 P5) hZ (hw3 hw) (hw2 hw) (by decide) (by decide)) (g := (mkF m 115 #[.val (.int p0), .val (.int p1), .val (.int p2), .val (.int p3), .val (.int p4), .val (.int i5), .val (.int i6), .val (.int i7), .val (.int i8), .val (.ref s9), .val (.ref s10), .val .null, .val (.ref b68), .unset, .unset, .unset, .unset] [(.int (p1 ^^^ (-1 : Int32))), (.ref b68)])) rfl (by rw [hml]; rfl) (argsL := [(.int (p1 ^^^ (-1 : Int32)))]) (rest := [(.ref b68)]) (lenOf pd_15 rfl) rfl (by show 2 * 0 + _ ≤ _; exact Nat.le_of_eq rfl) (hb hby at_115) (fun _ _ => ⟨rfl, rfl, (by decide : 7 + 3 ≤ _), (by decide : 20 + 8 ≤ _)⟩)
              dsimp only [Pt.U, Pt.locs, Pt.cells, Pt.slots] at X101 l101 y101 z101 st101 hQ101
              subst l101 y101 z101
              obtain ⟨r101, t101, kb101, cs101, rfl, N101q, K101, F101_0, lo101_0, lo101_1, ne101_0⟩ := hQ101
              have N101 := Fr.app N69 N101q
              have F101_0E := F101_0.1
              refine Goes.st st101 ?_
              show Goes _ _ _ _ (T101.setTop (mkF m 118 #[.val (.int p0), .val (.int p1), .val (.int p2), .val (.int p3), .val (.int p4), .val (.int i5), .val (.int i6), .val (.int i7), .val (.int i8), .val (.ref s9), .val (.ref s10), .val .null, .val (.ref b68), .unset, .unset, .unset, .unset] [(.ref r101), (.ref b68)]))
              have f104 : Exa Z T101.heap b68 "java/util/ArrayList" := (F69_0.keep K101)
              have f105 : Fld Z T101.heap b68 "java/util/ArrayList" "elementData" "[Ljava/lang/Object;" (.ref aD) := (F69_1.keep K101 nin0)
              have f106 : Fld Z T101.heap b68 "java/util/ArrayList" "size" "I" (.int (0 : Int32)) := (F69_2.keep K101 nin0)
              have f107 : Fld Z T101.heap b68 "java/util/AbstractList" "modCount" "I" (.int (0 : Int32)) := (F69_3.keep K101 nin0)
              have f108 : Arv Z T101.heap aD kD (.object "java/lang/Object") (0 : Int32) [] .null := (((Pja_3.ext E68).keep K69 (ninS (Nat.ne_of_lt (Nat.lt_of_lt_of_le Pja_3.lt (Nat.le_of_eq g68.symm))) nin0)).keep K101 nin0)
              have f109 : Old Z n0 T101.heap := (f102.keep K101 all0)
              obtain ⟨cq103, kq103, q103a, q103b, q103c⟩ := isOf hZ rfl f104
              obtain ⟨_, _, ⟨T103, L103, k103, n103⟩, -, X103, ⟨Lc103, hQ103, l103, y103, z103⟩, st103⟩ := X101.virtualBack hx (y := (⟨"java/util/ArrayList", "add", "(Ljava/lang/Object;)Z"⟩ : MethodName)) (z := (⟨"java/util/ArrayList", "add", "(Ljava/lang/Object;)Z"⟩ : MethodName)) hown (mvT hZ (hw185 hw)) (mvT hZ (hw186 hw)) (notFace_of_selects (args := #[]) (mvT hZ (hw188 hw))) (mvT hZ (hw188 hw)) (mvT hZ (hw187 hw)) (by decide) (backOf (W := 0) (rm_add1 l Z a0 hw [] b68 r101 (0 : Int32) aD kD T101.heap n0 (Nat.le_trans Zja (Nat.le_trans (Nat.le_trans E68.1 K69.1) K101.1)) f104 f105 f106 f107 f108 F101_0E f109 (Nat.le_trans Zja (Nat.le_of_eq g68.symm)) OD) hZ (hw189 hw) (hw36 hw) (by decide) (by decide)) q103a q103c (g := (mkF m 118 #[.val (.int p0), .val (.int p1), .val (.int p2), .val (.int p3), .val (.int p4), .val (.int i5), .val (.int i6), .val (.int i7), .val (.int i8), .val (.ref s9), .val (.ref s10), .val .null, .val (.ref b68), .unset, .unset, .unset, .unset] [(.ref r101), (.ref b68)])) rfl (by rw [hml]; rfl) (Steps.refl _) (argsL := [(.ref r101)]) (rest := []) (lenOf pd_19 rfl) rfl (by show 2 * 0 + _ ≤ _; exact Nat.le_of_eq rfl) (hb hby at_118) (fun _ _ => ⟨rfl, rfl, (by decide : 10 + 1 ≤ _), (by decide : 28 + 10 ≤ _)⟩)
              dsimp only [Pt.U, Pt.locs, Pt.cells, Pt.slots] at X103 l103 y103 z103 st103 hQ103
              subst l103 y103 z103
              obtain ⟨ar103, kA103, rfl, N103q, K103, F103_0, F103_1, F103_2, F103_3, F103_4, lo103_0, ov_103⟩ := hQ103
              have N103 := Fr.app N101 N103q
              refine Goes.tr st103 ?_
              show Goes _ _ _ _ (T103.setTop (mkF m 121 #[.val (.int p0), .val (.int p1), .val (.int p2), .val (.int p3), .val (.int p4), .val (.int i5), .val (.int i6), .val (.int i7), .val (.int i8), .val (.ref s9), .val (.ref s10), .val .null, .val (.ref b68), .unset, .unset, .unset, .unset] [(.int (1 : Int32))]))
              refine Goes.st (fun t k => XS.pop X103.here hx rfl (hb hby at_121) rfl rfl k) ?_
              show Goes _ _ _ _ (T103.setTop (mkF m 122 #[.val (.int p0), .val (.int p1), .val (.int p2), .val (.int p3), .val (.int p4), .val (.int i5), .val (.int i6), .val (.int i7), .val (.int i8), .val (.ref s9), .val (.ref s10), .val .null, .val (.ref b68), .unset, .unset, .unset, .unset] []))
              refine Goes.st (fun t k => XS.iload X103.here hx rfl (hb hby at_122) rfl k) ?_
              show Goes _ _ _ _ (T103.setTop (mkF m 124 #[.val (.int p0), .val (.int p1), .val (.int p2), .val (.int p3), .val (.int p4), .val (.int i5), .val (.int i6), .val (.int i7), .val (.int i8), .val (.ref s9), .val (.ref s10), .val .null, .val (.ref b68), .unset, .unset, .unset, .unset] [(.int i7)]))
              refine Goes.st (fun t k => XS.iconst X103.here hx rfl (hb hby at_124) k) ?_
              show Goes _ _ _ _ (T103.setTop (mkF m 125 #[.val (.int p0), .val (.int p1), .val (.int p2), .val (.int p3), .val (.int p4), .val (.int i5), .val (.int i6), .val (.int i7), .val (.int i8), .val (.ref s9), .val (.ref s10), .val .null, .val (.ref b68), .unset, .unset, .unset, .unset] [(.int (2 : Int32)), (.int i7)]))
              by_cases cz110 : i7 < (2 : Int32)
              case pos =>
                refine Goes.st (fun t k => XS.icmpYes X103.here hx rfl (pc0 := 125) (pc' := 140) rfl (hb hby at_125) rfl (tlt cz110).1 (by decide) (by decide) k) ?_
                show Goes _ _ _ _ (T103.setTop (mkF m 140 #[.val (.int p0), .val (.int p1), .val (.int p2), .val (.int p3), .val (.int p4), .val (.int i5), .val (.int i6), .val (.int i7), .val (.int i8), .val (.ref s9), .val (.ref s10), .val .null, .val (.ref b68), .unset, .unset, .unset, .unset] []))
                have fz111 : Fld Z T103.heap b68 "java/util/ArrayList" "size" "I" (.int i7) := by rw [← (own_lt2 h3 cz96 cz110)]; exact F103_2
                have f112 : Old Z n0 T103.heap := (f109.keep K103 (allS (Nat.le_trans Zja (Nat.le_of_eq g68.symm)) all0))
                have f113 : Exa Z T103.heap s9 "java/lang/String" := ((((Pja_1.ext E68).keep K69).keep K101).keep K103)
                have f114 : Exa Z T103.heap s10 "java/lang/String" := ((((Pja_2.ext E68).keep K69).keep K101).keep K103)
                exact Jjc T103 T103.heap _ s9 s10 b68 (X103.more (by decide) (by decide)) rfl N103 (Nat.le_trans Zja (Nat.le_trans (Nat.le_trans (Nat.le_trans E68.1 K69.1) K101.1) K103.1)) n0ja_s9 n0ja_s10 (Nat.le_trans Zja (Nat.le_of_eq g68.symm)) f112 f113 f114 F103_0 fz111
              case neg =>
                refine Goes.st (fun t k => XS.icmpNo X103.here hx rfl (hb hby at_125) rfl (flt cz110).1 k) ?_
                show Goes _ _ _ _ (T103.setTop (mkF m 128 #[.val (.int p0), .val (.int p1), .val (.int p2), .val (.int p3), .val (.int p4), .val (.int i5), .val (.int i6), .val (.int i7), .val (.int i8), .val (.ref s9), .val (.ref s10), .val .null, .val (.ref b68), .unset, .unset, .unset, .unset] []))
                refine Goes.st (fun t k => XS.aload X103.here hx rfl (hb hby at_128) rfl rfl k) ?_
                show Goes _ _ _ _ (T103.setTop (mkF m 130 #[.val (.int p0), .val (.int p1), .val (.int p2), .val (.int p3), .val (.int p4), .val (.int i5), .val (.int i6), .val (.int i7), .val (.int i8), .val (.ref s9), .val (.ref s10), .val .null, .val (.ref b68), .unset, .unset, .unset, .unset] [(.ref b68)]))
                refine Goes.st (fun t k => XS.iloadN X103.here hx rfl (hb hby at_130) rfl k) ?_
                show Goes _ _ _ _ (T103.setTop (mkF m 131 #[.val (.int p0), .val (.int p1), .val (.int p2), .val (.int p3), .val (.int p4), .val (.int i5), .val (.int i6), .val (.int i7), .val (.int i8), .val (.ref s9), .val (.ref s10), .val .null, .val (.ref b68), .unset, .unset, .unset, .unset] [(.int p0), (.ref b68)]))
                refine Goes.st (fun t k => XS.iloadN X103.here hx rfl (hb hby at_131) rfl k) ?_
                show Goes _ _ _ _ (T103.setTop (mkF m 132 #[.val (.int p0), .val (.int p1), .val (.int p2), .val (.int p3), .val (.int p4), .val (.int i5), .val (.int i6), .val (.int i7), .val (.int i8), .val (.ref s9), .val (.ref s10), .val .null, .val (.ref b68), .unset, .unset, .unset, .unset] [(.int p1), (.int p0), (.ref b68)]))
                refine Goes.st (fun t k => XS.ixor X103.here hx rfl (hb hby at_132) rfl k) ?_
                show Goes _ _ _ _ (T103.setTop (mkF m 133 #[.val (.int p0), .val (.int p1), .val (.int p2), .val (.int p3), .val (.int p4), .val (.int i5), .val (.int i6), .val (.int i7), .val (.int i8), .val (.ref s9), .val (.ref s10), .val .null, .val (.ref b68), .unset, .unset, .unset, .unset] [(.int (p0 ^^^ p1)), (.ref b68)]))
                have f116 : Old Z n0 T103.heap := (f109.keep K103 (allS (Nat.le_trans Zja (Nat.le_of_eq g68.symm)) all0))
                obtain ⟨_, _, ⟨T115, L115, k115, n115⟩, -, X115, ⟨Lc115, hQ115, l115, y115, z115⟩, st115⟩ := Jvm.LawKit.callS X103 hx (y := (⟨"com/example/bolter/bolter/model/DefinitionAsPinLaw", "draw", "(I)Ljava/lang/String;"⟩ : MethodName)) hown (mvT hZ (hw0 hw)) (mvT hZ (hw1 hw)) (mvT hZ (hw2 hw)) (mvT hZ (hw3 hw)) (by decide) (backOf (W := 1) (rm_draw l Z a0 hw [] (p0 ^^^ p1) G1 T103.heap n0 (Nat.le_trans Zja (Nat.le_trans (Nat.le_trans (Nat.le_trans E68.1 K69.1) K101.1) K103.1)) f116 O2 P5) hZ (hw3 hw) (hw2 hw) (by decide) (by decide)) (g := (mkF m 133 #[.val (.int p0), .val (.int p1), .val (.int p2), .val (.int p3), .val (.int p4), .val (.int i5), .val (.int i6), .val (.int i7), .val (.int i8), .val (.ref s9), .val (.ref s10), .val .null, .val (.ref b68), .unset, .unset, .unset, .unset] [(.int (p0 ^^^ p1)), (.ref b68)])) rfl (by rw [hml]; rfl) (argsL := [(.int (p0 ^^^ p1))]) (rest := [(.ref b68)]) (lenOf pd_15 rfl) rfl (by show 2 * 0 + _ ≤ _; exact Nat.le_of_eq rfl) (hb hby at_133) (fun _ _ => ⟨rfl, rfl, (by decide : 11 + 3 ≤ _), (by decide : 38 + 8 ≤ _)⟩)
                dsimp only [Pt.U, Pt.locs, Pt.cells, Pt.slots] at X115 l115 y115 z115 st115 hQ115
                subst l115 y115 z115
                obtain ⟨r115, t115, kb115, cs115, rfl, N115q, K115, F115_0, lo115_0, lo115_1, ne115_0⟩ := hQ115
                have N115 := Fr.app N103 N115q
                have F115_0E := F115_0.1
                refine Goes.st st115 ?_
                show Goes _ _ _ _ (T115.setTop (mkF m 136 #[.val (.int p0), .val (.int p1), .val (.int p2), .val (.int p3), .val (.int p4), .val (.int i5), .val (.int i6), .val (.int i7), .val (.int i8), .val (.ref s9), .val (.ref s10), .val .null, .val (.ref b68), .unset, .unset, .unset, .unset] [(.ref r115), (.ref b68)]))
                have f118 : Exa Z T115.heap b68 "java/util/ArrayList" := (F103_0.keep K115)
                have f119 : Fld Z T115.heap b68 "java/util/ArrayList" "elementData" "[Ljava/lang/Object;" (.ref ar103) := (F103_1.keep K115 nin0)
                have f120 : Fld Z T115.heap b68 "java/util/ArrayList" "size" "I" (.int (1 : Int32)) := (F103_2.keep K115 nin0)
                have f121 : Fld Z T115.heap b68 "java/util/AbstractList" "modCount" "I" (.int ((0 : Int32) + (1 : Int32))) := (F103_3.keep K115 nin0)
                have f122 : Arv Z T115.heap ar103 kA103 (.object "java/lang/Object") (10 : Int32) [(.ref r101), .null, .null, .null, .null, .null, .null, .null, .null, .null] .null := (F103_4.keep K115 nin0)
                obtain ⟨cq117, kq117, q117a, q117b, q117c⟩ := isOf hZ rfl f118
                obtain ⟨_, _, ⟨T117, L117, k117, n117⟩, -, X117, ⟨Lc117, hQ117, l117, y117, z117⟩, st117⟩ := X115.virtualBack hx (y := (⟨"java/util/ArrayList", "add", "(Ljava/lang/Object;)Z"⟩ : MethodName)) (z := (⟨"java/util/ArrayList", "add", "(Ljava/lang/Object;)Z"⟩ : MethodName)) hown (mvT hZ (hw185 hw)) (mvT hZ (hw186 hw)) (notFace_of_selects (args := #[]) (mvT hZ (hw188 hw))) (mvT hZ (hw188 hw)) (mvT hZ (hw187 hw)) (by decide) (backOf (W := 0) (rm_add2 l Z a0 hw [] b68 r115 ar103 kA103 r101 ((0 : Int32) + (1 : Int32)) T115.heap n0 (Nat.le_trans Zja (Nat.le_trans (Nat.le_trans (Nat.le_trans (Nat.le_trans E68.1 K69.1) K101.1) K103.1) K115.1)) f118 f119 f120 f121 f122 F115_0E (Nat.le_trans Zja (Nat.le_of_eq g68.symm)) (Nat.le_trans Zja (Nat.le_trans (Nat.le_trans (Nat.le_trans E68.1 K69.1) K101.1) lo103_0)) ov_103) hZ (hw189 hw) (hw36 hw) (by decide) (by decide)) q117a q117c (g := (mkF m 136 #[.val (.int p0), .val (.int p1), .val (.int p2), .val (.int p3), .val (.int p4), .val (.int i5), .val (.int i6), .val (.int i7), .val (.int i8), .val (.ref s9), .val (.ref s10), .val .null, .val (.ref b68), .unset, .unset, .unset, .unset] [(.ref r115), (.ref b68)])) rfl (by rw [hml]; rfl) (Steps.refl _) (argsL := [(.ref r115)]) (rest := []) (lenOf pd_19 rfl) rfl (by show 2 * 0 + _ ≤ _; exact Nat.le_of_eq rfl) (hb hby at_136) (fun _ _ => ⟨rfl, rfl, (by decide : 14 + 0 ≤ _), (by decide : 46 + 0 ≤ _)⟩)
                dsimp only [Pt.U, Pt.locs, Pt.cells, Pt.slots] at X117 l117 y117 z117 st117 hQ117
                subst l117 y117 z117
                obtain ⟨rfl, N117q, K117, F117_0, F117_1, F117_2, F117_3, F117_4⟩ := hQ117
                have N117 := Fr.app N115 N117q
                refine Goes.tr st117 ?_
                show Goes _ _ _ _ (T117.setTop (mkF m 139 #[.val (.int p0), .val (.int p1), .val (.int p2), .val (.int p3), .val (.int p4), .val (.int i5), .val (.int i6), .val (.int i7), .val (.int i8), .val (.ref s9), .val (.ref s10), .val .null, .val (.ref b68), .unset, .unset, .unset, .unset] [(.int (1 : Int32))]))
                refine Goes.st (fun t k => XS.pop X117.here hx rfl (hb hby at_139) rfl rfl k) ?_
                show Goes _ _ _ _ (T117.setTop (mkF m 140 #[.val (.int p0), .val (.int p1), .val (.int p2), .val (.int p3), .val (.int p4), .val (.int i5), .val (.int i6), .val (.int i7), .val (.int i8), .val (.ref s9), .val (.ref s10), .val .null, .val (.ref b68), .unset, .unset, .unset, .unset] []))
                have fz123 : Fld Z T117.heap b68 "java/util/ArrayList" "size" "I" (.int i7) := by rw [← (own_ge2 h3 cz110)]; exact F117_2
                have f124 : Old Z n0 T117.heap := ((f116.keep K115 all0).keep K117 (allS (Nat.le_trans Zja (Nat.le_of_eq g68.symm)) (allS (Nat.le_trans Zja (Nat.le_trans (Nat.le_trans (Nat.le_trans E68.1 K69.1) K101.1) lo103_0)) all0)))
                have f125 : Exa Z T117.heap s9 "java/lang/String" := ((((((Pja_1.ext E68).keep K69).keep K101).keep K103).keep K115).keep K117)
                have f126 : Exa Z T117.heap s10 "java/lang/String" := ((((((Pja_2.ext E68).keep K69).keep K101).keep K103).keep K115).keep K117)
                exact Jjc T117 T117.heap _ s9 s10 b68 (X117.more (by decide) (by decide)) rfl N117 (Nat.le_trans Zja (Nat.le_trans (Nat.le_trans (Nat.le_trans (Nat.le_trans (Nat.le_trans E68.1 K69.1) K101.1) K103.1) K115.1) K117.1)) n0ja_s9 n0ja_s10 (Nat.le_trans Zja (Nat.le_of_eq g68.symm)) f124 f125 f126 F117_0 fz123
        show Goes _ _ _ _ (T1.setTop (mkF m 57 #[.val (.int p0), .val (.int p1), .val (.int p2), .val (.int p3), .val (.int p4), .val (.int i5), .val (.int i6), .val (.int i7), .val (.int i8), .val (.ref r1), .unset, .unset, .unset, .unset, .unset, .unset, .unset] []))
        refine Goes.st (fun t k => XS.iload X1.here hx rfl (hb hby at_57) rfl k) ?_
        show Goes _ _ _ _ (T1.setTop (mkF m 59 #[.val (.int p0), .val (.int p1), .val (.int p2), .val (.int p3), .val (.int p4), .val (.int i5), .val (.int i6), .val (.int i7), .val (.int i8), .val (.ref r1), .unset, .unset, .unset, .unset, .unset, .unset, .unset] [(.int i8)]))
        by_cases cz127 : i8 = (0 : Int32)
        case pos =>
          refine Goes.st (fun t k => XS.ifYes X1.here hx rfl (pc0 := 59) (pc' := 74) rfl (hb hby at_59) rfl ((if0 _ _).trans (teq cz127).1) (by decide) (by decide) k) ?_
          show Goes _ _ _ _ (T1.setTop (mkF m 74 #[.val (.int p0), .val (.int p1), .val (.int p2), .val (.int p3), .val (.int p4), .val (.int i5), .val (.int i6), .val (.int i7), .val (.int i8), .val (.ref r1), .unset, .unset, .unset, .unset, .unset, .unset, .unset] []))
          refine Goes.st (fun t k => XS.iloadN X1.here hx rfl (hb hby at_74) rfl k) ?_
          show Goes _ _ _ _ (T1.setTop (mkF m 75 #[.val (.int p0), .val (.int p1), .val (.int p2), .val (.int p3), .val (.int p4), .val (.int i5), .val (.int i6), .val (.int i7), .val (.int i8), .val (.ref r1), .unset, .unset, .unset, .unset, .unset, .unset, .unset] [(.int p1)]))
          have f129 : Old Z n0 T1.heap := (P0.keep K1 all0)
          obtain ⟨_, _, ⟨T128, L128, k128, n128⟩, -, X128, ⟨Lc128, hQ128, l128, y128, z128⟩, st128⟩ := Jvm.LawKit.callS X1 hx (y := (⟨"com/example/bolter/bolter/model/DefinitionAsPinLaw", "draw", "(I)Ljava/lang/String;"⟩ : MethodName)) hown (mvT hZ (hw0 hw)) (mvT hZ (hw1 hw)) (mvT hZ (hw2 hw)) (mvT hZ (hw3 hw)) (by decide) (backOf (W := 0) (rm_draw l Z a0 hw [] p1 G1 T1.heap n0 (Nat.le_trans Z0 K1.1) f129 O2 P5) hZ (hw3 hw) (hw2 hw) (by decide) (by decide)) (g := (mkF m 75 #[.val (.int p0), .val (.int p1), .val (.int p2), .val (.int p3), .val (.int p4), .val (.int i5), .val (.int i6), .val (.int i7), .val (.int i8), .val (.ref r1), .unset, .unset, .unset, .unset, .unset, .unset, .unset] [(.int p1)])) rfl (by rw [hml]; rfl) (argsL := [(.int p1)]) (rest := []) (lenOf pd_15 rfl) rfl (by show 2 * 0 + _ ≤ _; exact Nat.le_of_eq rfl) (hb hby at_75) (fun _ _ => ⟨rfl, rfl, (by decide : 3 + 3 ≤ _), (by decide : 8 + 8 ≤ _)⟩)
          dsimp only [Pt.U, Pt.locs, Pt.cells, Pt.slots] at X128 l128 y128 z128 st128 hQ128
          subst l128 y128 z128
          obtain ⟨r128, t128, kb128, cs128, rfl, N128q, K128, F128_0, lo128_0, lo128_1, ne128_0⟩ := hQ128
          have N128 := Fr.app N1 N128q
          have F128_0E := F128_0.1
          refine Goes.st st128 ?_
          show Goes _ _ _ _ (T128.setTop (mkF m 78 #[.val (.int p0), .val (.int p1), .val (.int p2), .val (.int p3), .val (.int p4), .val (.int i5), .val (.int i6), .val (.int i7), .val (.int i8), .val (.ref r1), .unset, .unset, .unset, .unset, .unset, .unset, .unset] [(.ref r128)]))
          have f130 : Old Z n0 T128.heap := (f129.keep K128 all0)
          have f131 : Exa Z T128.heap r1 "java/lang/String" := (F1_0E.keep K128)
          have f132 : Arv Z T128.heap aD kD (.object "java/lang/Object") (0 : Int32) [] .null := ((P1.keep K1 nin0).keep K128 nin0)
          exact Jja T128 T128.heap _ r1 r128 (X128.more (by decide) (by decide)) rfl N128 (Nat.le_trans Z0 (Nat.le_trans K1.1 K128.1)) (Nat.le_trans Z0 lo1_0) (Nat.le_trans Z0 (Nat.le_trans K1.1 lo128_0)) f130 f131 F128_0E f132
        case neg =>
          refine Goes.st (fun t k => XS.ifNo X1.here hx rfl (hb hby at_59) rfl ((if0 _ _).trans (feq cz127).1) k) ?_
          show Goes _ _ _ _ (T1.setTop (mkF m 62 #[.val (.int p0), .val (.int p1), .val (.int p2), .val (.int p3), .val (.int p4), .val (.int i5), .val (.int i6), .val (.int i7), .val (.int i8), .val (.ref r1), .unset, .unset, .unset, .unset, .unset, .unset, .unset] []))
          refine Goes.st (fun t k => XS.iloadN X1.here hx rfl (hb hby at_62) rfl k) ?_
          show Goes _ _ _ _ (T1.setTop (mkF m 63 #[.val (.int p0), .val (.int p1), .val (.int p2), .val (.int p3), .val (.int p4), .val (.int i5), .val (.int i6), .val (.int i7), .val (.int i8), .val (.ref r1), .unset, .unset, .unset, .unset, .unset, .unset, .unset] [(.int p1)]))
          refine Goes.st (fun t k => XS.sipush X1.here hx rfl (hb hby at_63) k) ?_
          show Goes _ _ _ _ (T1.setTop (mkF m 66 #[.val (.int p0), .val (.int p1), .val (.int p2), .val (.int p3), .val (.int p4), .val (.int i5), .val (.int i6), .val (.int i7), .val (.int i8), .val (.ref r1), .unset, .unset, .unset, .unset, .unset, .unset, .unset] [(.int (255 : Int32)), (.int p1)]))
          refine Goes.st (fun t k => XS.iand X1.here hx rfl (hb hby at_66) rfl k) ?_
          show Goes _ _ _ _ (T1.setTop (mkF m 67 #[.val (.int p0), .val (.int p1), .val (.int p2), .val (.int p3), .val (.int p4), .val (.int i5), .val (.int i6), .val (.int i7), .val (.int i8), .val (.ref r1), .unset, .unset, .unset, .unset, .unset, .unset, .unset] [(.int (p1 &&& (255 : Int32)))]))
          refine Goes.st (fun t k => XS.i2c X1.here hx rfl (hb hby at_67) rfl k) ?_
          show Goes _ _ _ _ (T1.setTop (mkF m 68 #[.val (.int p0), .val (.int p1), .val (.int p2), .val (.int p3), .val (.int p4), .val (.int i5), .val (.int i6), .val (.int i7), .val (.int i8), .val (.ref r1), .unset, .unset, .unset, .unset, .unset, .unset, .unset] [(.int ((p1 &&& (255 : Int32)).toUInt32.toUInt16.toUInt32.toInt32))]))
          obtain ⟨cc1, hcc1⟩ : ∃ z, z = ((p1 &&& (255 : Int32)).toUInt32.toUInt16.toUInt32.toInt32) := ⟨_, rfl⟩
          have rg_cc1 : ¬ cc1 < 0 ∧ ¬ (255 : Int32) < cc1 := by rw [hcc1]; exact own_i2cr p1
          rw [← hcc1]
          show Goes _ _ _ _ (T1.setTop (mkF m 68 #[.val (.int p0), .val (.int p1), .val (.int p2), .val (.int p3), .val (.int p4), .val (.int i5), .val (.int i6), .val (.int i7), .val (.int i8), .val (.ref r1), .unset, .unset, .unset, .unset, .unset, .unset, .unset] [(.int cc1)]))
          have f134 : Old Z n0 T1.heap := (P0.keep K1 all0)
          obtain ⟨_, _, ⟨T133, L133, k133, n133⟩, -, X133, ⟨Lc133, hQ133, l133, y133, z133⟩, st133⟩ := Jvm.LawKit.callS X1 hx (y := (⟨"java/lang/String", "valueOf", "(C)Ljava/lang/String;"⟩ : MethodName)) hown (mvT hZ (hw214 hw)) (mvT hZ (hw215 hw)) (mvT hZ (hw7 hw)) (mvT hZ (hw216 hw)) (by decide) (backOf (W := 0) (rm_valC l Z a0 hw [] cc1 G1 T1.heap n0 (Nat.le_trans Z0 K1.1) f134 rg_cc1 O2 P5) hZ (hw216 hw) (hw7 hw) (by decide) (by decide)) (g := (mkF m 68 #[.val (.int p0), .val (.int p1), .val (.int p2), .val (.int p3), .val (.int p4), .val (.int i5), .val (.int i6), .val (.int i7), .val (.int i8), .val (.ref r1), .unset, .unset, .unset, .unset, .unset, .unset, .unset] [(.int cc1)])) rfl (by rw [hml]; rfl) (argsL := [(.int cc1)]) (rest := []) (lenOf pd_21 rfl) rfl (by show 2 * 0 + _ ≤ _; exact Nat.le_of_eq rfl) (hb hby at_68) (fun _ _ => ⟨rfl, rfl, (by decide : 3 + 2 ≤ _), (by decide : 8 + 5 ≤ _)⟩)
          dsimp only [Pt.U, Pt.locs, Pt.cells, Pt.slots] at X133 l133 y133 z133 st133 hQ133
          subst l133 y133 z133
          obtain ⟨r133, t133, kb133, rfl, N133q, K133, F133_0, lo133_0, lo133_1, ne133_0⟩ := hQ133
          have N133 := Fr.app N1 N133q
          have F133_0E := F133_0.1
          refine Goes.st st133 ?_
          show Goes _ _ _ _ (T133.setTop (mkF m 71 #[.val (.int p0), .val (.int p1), .val (.int p2), .val (.int p3), .val (.int p4), .val (.int i5), .val (.int i6), .val (.int i7), .val (.int i8), .val (.ref r1), .unset, .unset, .unset, .unset, .unset, .unset, .unset] [(.ref r133)]))
          refine Goes.st (fun t k => XS.goto X133.here hx rfl (pc0 := 71) (pc' := 78) rfl (hb hby at_71) (by decide) (by decide) k) ?_
          show Goes _ _ _ _ (T133.setTop (mkF m 78 #[.val (.int p0), .val (.int p1), .val (.int p2), .val (.int p3), .val (.int p4), .val (.int i5), .val (.int i6), .val (.int i7), .val (.int i8), .val (.ref r1), .unset, .unset, .unset, .unset, .unset, .unset, .unset] [(.ref r133)]))
          have f135 : Old Z n0 T133.heap := (f134.keep K133 all0)
          have f136 : Exa Z T133.heap r1 "java/lang/String" := (F1_0E.keep K133)
          have f137 : Arv Z T133.heap aD kD (.object "java/lang/Object") (0 : Int32) [] .null := ((P1.keep K1 nin0).keep K133 nin0)
          exact Jja T133 T133.heap _ r1 r133 (X133.more (by decide) (by decide)) rfl N133 (Nat.le_trans Z0 (Nat.le_trans K1.1 K133.1)) (Nat.le_trans Z0 lo1_0) (Nat.le_trans Z0 (Nat.le_trans K1.1 lo133_0)) f135 f136 F133_0E f137
      show Goes _ _ _ _ (s₁.setTop (mkF m 36 #[.val (.int p0), .val (.int p1), .val (.int p2), .val (.int p3), .val (.int p4), .val (.int i5), .val (.int i6), .val (.int i7), .unset, .unset, .unset, .unset, .unset, .unset, .unset, .unset, .unset] []))
      refine Goes.st (fun t k => XS.iload X0.here hx rfl (hb hby at_36) rfl k) ?_
      show Goes _ _ _ _ (s₁.setTop (mkF m 38 #[.val (.int p0), .val (.int p1), .val (.int p2), .val (.int p3), .val (.int p4), .val (.int i5), .val (.int i6), .val (.int i7), .unset, .unset, .unset, .unset, .unset, .unset, .unset, .unset, .unset] [(.int p4)]))
      refine Goes.st (fun t k => XS.bipush X0.here hx rfl (hb hby at_38) k) ?_
      show Goes _ _ _ _ (s₁.setTop (mkF m 40 #[.val (.int p0), .val (.int p1), .val (.int p2), .val (.int p3), .val (.int p4), .val (.int i5), .val (.int i6), .val (.int i7), .unset, .unset, .unset, .unset, .unset, .unset, .unset, .unset, .unset] [(.int (32 : Int32)), (.int p4)]))
      refine Goes.st (fun t k => XS.iand X0.here hx rfl (hb hby at_40) rfl k) ?_
      show Goes _ _ _ _ (s₁.setTop (mkF m 41 #[.val (.int p0), .val (.int p1), .val (.int p2), .val (.int p3), .val (.int p4), .val (.int i5), .val (.int i6), .val (.int i7), .unset, .unset, .unset, .unset, .unset, .unset, .unset, .unset, .unset] [(.int (p4 &&& (32 : Int32)))]))
      by_cases cz138 : (p4 &&& (32 : Int32)) = (0 : Int32)
      case pos =>
        refine Goes.st (fun t k => XS.ifYes X0.here hx rfl (pc0 := 41) (pc' := 48) rfl (hb hby at_41) rfl ((if0 _ _).trans (teq cz138).1) (by decide) (by decide) k) ?_
        show Goes _ _ _ _ (s₁.setTop (mkF m 48 #[.val (.int p0), .val (.int p1), .val (.int p2), .val (.int p3), .val (.int p4), .val (.int i5), .val (.int i6), .val (.int i7), .unset, .unset, .unset, .unset, .unset, .unset, .unset, .unset, .unset] []))
        refine Goes.st (fun t k => XS.iconst X0.here hx rfl (hb hby at_48) k) ?_
        show Goes _ _ _ _ (s₁.setTop (mkF m 49 #[.val (.int p0), .val (.int p1), .val (.int p2), .val (.int p3), .val (.int p4), .val (.int i5), .val (.int i6), .val (.int i7), .unset, .unset, .unset, .unset, .unset, .unset, .unset, .unset, .unset] [(.int (0 : Int32))]))
        exact J49 (0 : Int32) (Or.inl rfl)
      case neg =>
        refine Goes.st (fun t k => XS.ifNo X0.here hx rfl (hb hby at_41) rfl ((if0 _ _).trans (feq cz138).1) k) ?_
        show Goes _ _ _ _ (s₁.setTop (mkF m 44 #[.val (.int p0), .val (.int p1), .val (.int p2), .val (.int p3), .val (.int p4), .val (.int i5), .val (.int i6), .val (.int i7), .unset, .unset, .unset, .unset, .unset, .unset, .unset, .unset, .unset] []))
        refine Goes.st (fun t k => XS.iconst X0.here hx rfl (hb hby at_44) k) ?_
        show Goes _ _ _ _ (s₁.setTop (mkF m 45 #[.val (.int p0), .val (.int p1), .val (.int p2), .val (.int p3), .val (.int p4), .val (.int i5), .val (.int i6), .val (.int i7), .unset, .unset, .unset, .unset, .unset, .unset, .unset, .unset, .unset] [(.int (1 : Int32))]))
        refine Goes.st (fun t k => XS.goto X0.here hx rfl (pc0 := 45) (pc' := 49) rfl (hb hby at_45) (by decide) (by decide) k) ?_
        show Goes _ _ _ _ (s₁.setTop (mkF m 49 #[.val (.int p0), .val (.int p1), .val (.int p2), .val (.int p3), .val (.int p4), .val (.int i5), .val (.int i6), .val (.int i7), .unset, .unset, .unset, .unset, .unset, .unset, .unset, .unset, .unset] [(.int (1 : Int32))]))
        exact J49 (1 : Int32) (Or.inr rfl)
    show Goes _ _ _ _ (s₁.setTop (mkF m 14 #[.val (.int p0), .val (.int p1), .val (.int p2), .val (.int p3), .val (.int p4), .val (.int i5), .unset, .unset, .unset, .unset, .unset, .unset, .unset, .unset, .unset, .unset, .unset] []))
    refine Goes.st (fun t k => XS.iload X0.here hx rfl (hb hby at_14) rfl k) ?_
    show Goes _ _ _ _ (s₁.setTop (mkF m 16 #[.val (.int p0), .val (.int p1), .val (.int p2), .val (.int p3), .val (.int p4), .val (.int i5), .unset, .unset, .unset, .unset, .unset, .unset, .unset, .unset, .unset, .unset, .unset] [(.int p4)]))
    refine Goes.st (fun t k => XS.iconst X0.here hx rfl (hb hby at_16) k) ?_
    show Goes _ _ _ _ (s₁.setTop (mkF m 17 #[.val (.int p0), .val (.int p1), .val (.int p2), .val (.int p3), .val (.int p4), .val (.int i5), .unset, .unset, .unset, .unset, .unset, .unset, .unset, .unset, .unset, .unset, .unset] [(.int (2 : Int32)), (.int p4)]))
    refine Goes.st (fun t k => XS.iand X0.here hx rfl (hb hby at_17) rfl k) ?_
    show Goes _ _ _ _ (s₁.setTop (mkF m 18 #[.val (.int p0), .val (.int p1), .val (.int p2), .val (.int p3), .val (.int p4), .val (.int i5), .unset, .unset, .unset, .unset, .unset, .unset, .unset, .unset, .unset, .unset, .unset] [(.int (p4 &&& (2 : Int32)))]))
    by_cases cz139 : (p4 &&& (2 : Int32)) = (0 : Int32)
    case pos =>
      refine Goes.st (fun t k => XS.ifYes X0.here hx rfl (pc0 := 18) (pc' := 25) rfl (hb hby at_18) rfl ((if0 _ _).trans (teq cz139).1) (by decide) (by decide) k) ?_
      show Goes _ _ _ _ (s₁.setTop (mkF m 25 #[.val (.int p0), .val (.int p1), .val (.int p2), .val (.int p3), .val (.int p4), .val (.int i5), .unset, .unset, .unset, .unset, .unset, .unset, .unset, .unset, .unset, .unset, .unset] []))
      refine Goes.st (fun t k => XS.iconst X0.here hx rfl (hb hby at_25) k) ?_
      show Goes _ _ _ _ (s₁.setTop (mkF m 26 #[.val (.int p0), .val (.int p1), .val (.int p2), .val (.int p3), .val (.int p4), .val (.int i5), .unset, .unset, .unset, .unset, .unset, .unset, .unset, .unset, .unset, .unset, .unset] [(.int (0 : Int32))]))
      exact J26 (0 : Int32) (Or.inl rfl)
    case neg =>
      refine Goes.st (fun t k => XS.ifNo X0.here hx rfl (hb hby at_18) rfl ((if0 _ _).trans (feq cz139).1) k) ?_
      show Goes _ _ _ _ (s₁.setTop (mkF m 21 #[.val (.int p0), .val (.int p1), .val (.int p2), .val (.int p3), .val (.int p4), .val (.int i5), .unset, .unset, .unset, .unset, .unset, .unset, .unset, .unset, .unset, .unset, .unset] []))
      refine Goes.st (fun t k => XS.iconst X0.here hx rfl (hb hby at_21) k) ?_
      show Goes _ _ _ _ (s₁.setTop (mkF m 22 #[.val (.int p0), .val (.int p1), .val (.int p2), .val (.int p3), .val (.int p4), .val (.int i5), .unset, .unset, .unset, .unset, .unset, .unset, .unset, .unset, .unset, .unset, .unset] [(.int (1 : Int32))]))
      refine Goes.st (fun t k => XS.goto X0.here hx rfl (pc0 := 22) (pc' := 26) rfl (hb hby at_22) (by decide) (by decide) k) ?_
      show Goes _ _ _ _ (s₁.setTop (mkF m 26 #[.val (.int p0), .val (.int p1), .val (.int p2), .val (.int p3), .val (.int p4), .val (.int i5), .unset, .unset, .unset, .unset, .unset, .unset, .unset, .unset, .unset, .unset, .unset] [(.int (1 : Int32))]))
      exact J26 (1 : Int32) (Or.inr rfl)
  show Goes _ _ _ _ (s₁.setTop (mkF m 0 #[.val (.int p0), .val (.int p1), .val (.int p2), .val (.int p3), .val (.int p4), .unset, .unset, .unset, .unset, .unset, .unset, .unset, .unset, .unset, .unset, .unset, .unset] []))
  refine Goes.st (fun t k => XS.iload X0.here hx rfl (hb hby at_0) rfl k) ?_
  show Goes _ _ _ _ (s₁.setTop (mkF m 2 #[.val (.int p0), .val (.int p1), .val (.int p2), .val (.int p3), .val (.int p4), .unset, .unset, .unset, .unset, .unset, .unset, .unset, .unset, .unset, .unset, .unset, .unset] [(.int p4)]))
  refine Goes.st (fun t k => XS.iconst X0.here hx rfl (hb hby at_2) k) ?_
  show Goes _ _ _ _ (s₁.setTop (mkF m 3 #[.val (.int p0), .val (.int p1), .val (.int p2), .val (.int p3), .val (.int p4), .unset, .unset, .unset, .unset, .unset, .unset, .unset, .unset, .unset, .unset, .unset, .unset] [(.int (1 : Int32)), (.int p4)]))
  refine Goes.st (fun t k => XS.iand X0.here hx rfl (hb hby at_3) rfl k) ?_
  show Goes _ _ _ _ (s₁.setTop (mkF m 4 #[.val (.int p0), .val (.int p1), .val (.int p2), .val (.int p3), .val (.int p4), .unset, .unset, .unset, .unset, .unset, .unset, .unset, .unset, .unset, .unset, .unset, .unset] [(.int (p4 &&& (1 : Int32)))]))
  by_cases cz140 : (p4 &&& (1 : Int32)) = (0 : Int32)
  case pos =>
    refine Goes.st (fun t k => XS.ifYes X0.here hx rfl (pc0 := 4) (pc' := 11) rfl (hb hby at_4) rfl ((if0 _ _).trans (teq cz140).1) (by decide) (by decide) k) ?_
    show Goes _ _ _ _ (s₁.setTop (mkF m 11 #[.val (.int p0), .val (.int p1), .val (.int p2), .val (.int p3), .val (.int p4), .unset, .unset, .unset, .unset, .unset, .unset, .unset, .unset, .unset, .unset, .unset, .unset] []))
    refine Goes.st (fun t k => XS.iconst X0.here hx rfl (hb hby at_11) k) ?_
    show Goes _ _ _ _ (s₁.setTop (mkF m 12 #[.val (.int p0), .val (.int p1), .val (.int p2), .val (.int p3), .val (.int p4), .unset, .unset, .unset, .unset, .unset, .unset, .unset, .unset, .unset, .unset, .unset, .unset] [(.int (0 : Int32))]))
    exact J12 (0 : Int32) (Or.inl rfl)
  case neg =>
    refine Goes.st (fun t k => XS.ifNo X0.here hx rfl (hb hby at_4) rfl ((if0 _ _).trans (feq cz140).1) k) ?_
    show Goes _ _ _ _ (s₁.setTop (mkF m 7 #[.val (.int p0), .val (.int p1), .val (.int p2), .val (.int p3), .val (.int p4), .unset, .unset, .unset, .unset, .unset, .unset, .unset, .unset, .unset, .unset, .unset, .unset] []))
    refine Goes.st (fun t k => XS.iconst X0.here hx rfl (hb hby at_7) k) ?_
    show Goes _ _ _ _ (s₁.setTop (mkF m 8 #[.val (.int p0), .val (.int p1), .val (.int p2), .val (.int p3), .val (.int p4), .unset, .unset, .unset, .unset, .unset, .unset, .unset, .unset, .unset, .unset, .unset, .unset] [(.int (1 : Int32))]))
    refine Goes.st (fun t k => XS.goto X0.here hx rfl (pc0 := 8) (pc' := 12) rfl (hb hby at_8) (by decide) (by decide) k) ?_
    show Goes _ _ _ _ (s₁.setTop (mkF m 12 #[.val (.int p0), .val (.int p1), .val (.int p2), .val (.int p3), .val (.int p4), .unset, .unset, .unset, .unset, .unset, .unset, .unset, .unset, .unset, .unset, .unset, .unset] [(.int (1 : Int32))]))
    exact J12 (1 : Int32) (Or.inr rfl)
set_option maxRecDepth 65536 in
set_option maxHeartbeats 40000000 in
theorem comes_1 {Post : Tables → Env → Array Value → State → Outcome → State → Prop} (hpost : ∀ tb e args s v u, (limb_1_1.after args s (.returned v) u = true ∧ limb_1_2.after args s (.returned v) u = true ∧ True) → FrameEnd s (.returned v) u (Jvm.fieldLocs frame_1_writes args s ++ Jvm.arrayLocs frame_1_arrays args s ++ Jvm.staticLocs frame_1_statics s) 48 256 → Post tb e args s (.returned v) u) :
    ArmFor flags0 classFile x code maxLocals ret World_1 tables_1 room_1 Calls_1 rest_1 Pre_1 Post := by
  intro l hfl _ _ p e ha hc hk s m args below hf hA hF happ hP
  obtain ⟨hcalls, hrest, hpre⟩ := hP
  obtain ⟨-, -, -, hnamed, -, -, -, hat⟩ := (Spec.applies_iff hf).mp happ
  obtain ⟨hg, hn⟩ := and_e (Cond.before_iff.mp (show (Jvm.Cond.and given_1 narrow_1).before args s = true from hpre))
  obtain ⟨gc, gr0⟩ := and_e hg
  obtain ⟨ga0, gr1⟩ := and_e gr0
  obtain ⟨ga1, gr2⟩ := and_e gr1
  obtain ⟨ga2, gr3⟩ := and_e gr2
  obtain ⟨ga3, gr4⟩ := and_e gr3
  obtain ⟨w0, w1, w2, w3, w4, rfl⟩ : ∃ w0 w1 w2 w3 w4 : Value, args = #[w0, w1, w2, w3, w4] := by
    have hs : args.size = 5 := by simpa [Cond.value, given_1] using gc
    obtain ⟨L⟩ := args
    match L, hs with
    | [w0, w1, w2, w3, w4], _ => exact ⟨w0, w1, w2, w3, w4, rfl⟩
  have hw := fun d (hd : d ∈ tables_1) => atoms_spec (ws := Jvm.Cond.code x code maxLocals ret :: tables_1) hat d (List.mem_cons_of_mem _ hd)
  obtain ⟨hsets, hown0⟩ := atoms_of _ (rest_1_c_eq ▸ (show rest_1_c.before _ s = true from hrest))
  have n5 := not_v (Cond.before_iff.mp (hsets _ (List.mem_of_getElem? (i := 2) rfl)))
  obtain ⟨i0, ei0⟩ := is_v ga0
  obtain rfl : w0 = (.int i0) := Option.some.inj ei0
  obtain ⟨i1, ei1⟩ := is_v ga1
  obtain rfl : w1 = (.int i1) := Option.some.inj ei1
  obtain ⟨i2, ei2⟩ := is_v ga2
  obtain rfl : w2 = (.int i2) := Option.some.inj ei2
  obtain ⟨i3, ei3⟩ := is_v ga3
  obtain rfl : w3 = (.int i3) := Option.some.inj ei3
  obtain ⟨i4, ei4⟩ := is_v gr4
  obtain rfl : w4 = (.int i4) := Option.some.inj ei4
  obtain ⟨iG, eG⟩ := is_v (Cond.before_iff.mp (hsets _ (List.mem_of_getElem? (i := 1) rfl)))
  have SG : Sta s s.heap "java/lang/String" "COMPACT_STRINGS" "Z" (.int iG) := Sta.start eG (Or.inl (hsets _ (List.mem_of_getElem? (i := 0) rfl)))
  have cG : ¬ (iG = (0 : Int32)) := gotF (Cond.eq_ints eG (Term.int_eval (0))) n5
  obtain ⟨aE, _, _, _, eE, -⟩ := Cond.exactly_spec (hsets _ (List.mem_of_getElem? (i := 20) rfl))
  have SE : Sta s s.heap "java/util/ImmutableCollections" "EMPTY" "Ljava/lang/Object;" (.ref aE) := Sta.start eE (Or.inl (hsets _ (List.mem_of_getElem? (i := 19) rfl)))
  have hfit : Fit s := fun {y c} hc i hi => by
    obtain ⟨ha, rfl⟩ := Array.getElem?_eq_some_iff.mp hc
    have q := List.all_eq_true.mp ((Array.all_eq_true_iff_forall_mem.mp hF) _ (Array.getElem_mem ha)) i (List.mem_range.mpr hi)
    simpa [Array.getElem?_eq_getElem hi] using q
  obtain ⟨aD, kD, eD, SD, VD⟩ := own_deflt hfit (hw36 hw) (hsets _ (List.mem_of_getElem? (i := 11) rfl)) (hsets _ (List.mem_of_getElem? (i := 15) rfl)) (hsets _ (List.mem_of_getElem? (i := 17) rfl))
  obtain ⟨n, o, h1, h2, h3, _, L, rfl, ⟨rfl, N⟩, hq⟩ := rm_law l s _ hw tables_1 i0 i1 i2 i3 i4 iG aE aD kD s.heap s.heap.size (Nat.le_refl _) (Old.start s) VD SG cG SE SD p e ha hc hk s m _ below hf ((Spec.applies_iff_loose hf).mp happ).1 ⟨rfl, State.Warmed39.refl s, rfl⟩ trivial
  refine ⟨n, _, h1, h2, h3, hpost _ _ _ _ _ _ ⟨Cond.after_iff.mpr rfl, Cond.after_iff.mpr (eq_i res_at (Term.int_eval (1)) rfl), trivial⟩ ⟨hq.1, hq.2.1, (hq.2.2.sift fun y hy => Or.inr (N y hy)).mono (by decide) (by decide)⟩⟩
theorem main_1_1 : Claimed_1_1 := comes_1 fun _ _ _ _ _ _ h hF => ⟨h.1, hF⟩
theorem main_1_2 : Claimed_1_2 := comes_1 fun _ _ _ _ _ _ h hF => ⟨h.2.1, hF⟩
end Jvm.Pilot.@@N@@
namespace Jvm.Pilot.@@N@@
open Jvm Jvm.ClassFile Sem Op Lib Jvm.Free Jvm.Stand Jvm.Pilot.@@N@@.Jvm.D
/-! MADE BY PROGRAM (witnessworld.py) out of the Statement's table words and the real class files: 37 classes; the members and pool entries that the words name. The judged class is class 1, her method 1. -/
namespace start1
open Jvm.ClassFile
def u (s : String) : CpInfo := .utf8 (stringToUtf16 s)
/-- a pool by its gaps: so many unusable entries, then the entry; so many at the end -/
def gap : Nat → List CpInfo → List CpInfo
  | 0, r => r
  | n + 1, r => .unusable :: gap n r
def poolList (es : List (Nat × CpInfo)) (last : Nat) : List CpInfo := es.foldr (fun e r => gap e.1 (e.2 :: r)) (gap last [])
def pool (es : List (Nat × CpInfo)) (last : Nat) : Array CpInfo := ⟨poolList es last⟩
def fileOf (pool : Array CpInfo) (this : Nat) (attrs : Array Attribute := #[]) (ms : Array MethodInfo := #[]) (fl : Nat := 33) (sup : Nat := 0) (ifs : Array Nat := #[]) (fds : Array FieldInfo := #[]) : ClassFile where
  minorVersion := 0
  majorVersion := 65
  constantPool := pool
  accessFlags := fl
  thisClass := this
  superClass := sup
  interfaces := ifs
  fields := fds
  methods := ms
  attributes := attrs
def plain (name : String) (sup : Option ClassId) : Class where
  name := name
  kind := .ordinary
  loader := none
  accessFlags := 33
  super := sup
  interfaces := #[]
  cf := none
  fields := #[]
  methods := #[]
  instanceTypes := #[]
  staticTypes := #[]
  resolved := #[]
  callSites := []
  init := .initialized
  statics := none
  mirror := none

def pool0 : Array CpInfo := pool [(5, u "<init>"), (0, u "()V"), (1, .class_ 10), (1, u "java/lang/Object")] 113

def k0c0 : Code := { maxStack := 0, maxLocals := 1, code := object_method_1_code, exceptionTable := #[], attributes := #[] }
def k0m0 : Method := { name := "<init>", desc := "()V", sig := { parameters := [], returnType := none }, accessFlags := 1, code := some k0c0 }
/-- java/lang/Object -/
def k0 : Class := { plain "java/lang/Object" none with
  accessFlags := 33
  interfaces := #[]
  cf := some (fileOf pool0 8 #[] #[{ accessFlags := 1, nameIndex := 5, descriptorIndex := 6, attributes := #[] }] 33 0 #[] #[])
  fields := #[]
  methods := #[k0m0]
  instanceTypes := #[]
  staticTypes := #[]
  resolved := Array.replicate 124 none
  statics := none }

def pool1 : Array CpInfo := pool [(2, .class_ 4), (0, .nameAndType 5 6), (0, u "java/lang/Object"), (0, u "<init>"), (0, u "()V"), (0, .methodref 8 9), (0, .class_ 10), (0, .nameAndType 11 12), (0, u "com/example/bolter/bolter/model/DefinitionAsPinLaw"), (0, u "draw"), (0, u "(I)Ljava/lang/String;"), (0, .methodref 14 15), (0, .class_ 16), (0, .nameAndType 17 18), (0, u "java/lang/String"), (0, u "valueOf"), (0, u "(C)Ljava/lang/String;"), (0, .class_ 20), (0, u "java/util/ArrayList"), (0, .methodref 19 3), (0, .methodref 19 23), (0, .nameAndType 24 25), (0, u "add"), (0, u "(Ljava/lang/Object;)Z"), (0, .class_ 27), (0, u "com/example/bolter/bolter/model/ElementDefinitions$Definition"), (0, .methodref 26 29), (0, .nameAndType 5 30), (0, u "(Ljava/lang/String;Ljava/util/List;Ljava/lang/String;ZI)V"), (0, .methodref 26 32), (0, .nameAndType 33 34), (0, u "as"), (0, u "(Ljava/lang/String;)Lcom/example/bolter/bolter/model/ElementDefinitions$Definition;"), (0, .methodref 26 36), (0, .nameAndType 37 38), (0, u "types"), (0, u "()Ljava/util/List;"), (0, .methodref 26 40), (0, .nameAndType 41 42), (0, u "valueSet"), (0, u "()Ljava/lang/String;"), (0, .methodref 14 44), (0, .nameAndType 45 25), (0, u "equals"), (0, .methodref 26 47), (0, .nameAndType 48 42), (0, u "path"), (0, .interfaceMethodref 50 51), (0, .class_ 52), (0, .nameAndType 53 54), (0, u "java/util/List"), (0, u "size"), (0, u "()I"), (0, .interfaceMethodref 50 56), (0, .nameAndType 57 58), (0, u "get"), (0, u "(I)Ljava/lang/Object;"), (0, .methodref 26 60), (0, .nameAndType 61 42), (0, u "type"), (0, .methodref 26 63), (0, .nameAndType 64 65), (0, u "summary"), (0, u "()Z"), (0, .methodref 26 67), (0, .nameAndType 68 54), (0, u "min"), (0, .methodref 14 70), (0, .nameAndType 5 71), (0, u "([C)V"), (2, u "law"), (0, u "(IIIII)Z")] 7

def k1m0 : Method := { name := "<init>", desc := "()V", sig := { parameters := [], returnType := none }, accessFlags := 1, code := none }
def k1c1 : Code := { maxStack := 7, maxLocals := 17, code := code, exceptionTable := #[], attributes := #[] }
def k1m1 : Method := { name := "law", desc := "(IIIII)Z", sig := { parameters := [.int, .int, .int, .int, .int], returnType := some .boolean }, accessFlags := 9, code := some k1c1 }
def k1c2 : Code := { maxStack := 4, maxLocals := 2, code := method_3_code, exceptionTable := #[], attributes := #[] }
def k1m2 : Method := { name := "draw", desc := "(I)Ljava/lang/String;", sig := { parameters := [.int], returnType := some (.object "java/lang/String") }, accessFlags := 10, code := some k1c2 }
/-- com/example/bolter/bolter/model/DefinitionAsPinLaw -/
def k1 : Class := { plain "com/example/bolter/bolter/model/DefinitionAsPinLaw" (some 0) with
  accessFlags := 49
  interfaces := #[]
  cf := some (fileOf pool1 8 #[] #[{ accessFlags := 1, nameIndex := 5, descriptorIndex := 6, attributes := #[] }, { accessFlags := 9, nameIndex := 74, descriptorIndex := 75, attributes := #[] }, { accessFlags := 10, nameIndex := 11, descriptorIndex := 12, attributes := #[] }] 49 2 #[] #[])
  fields := #[]
  methods := #[k1m0, k1m1, k1m2]
  instanceTypes := #[]
  staticTypes := #[]
  resolved := Array.replicate 83 none
  statics := none }

def pool2 : Array CpInfo := pool [(1, .class_ 2), (0, u "java/io/Serializable"), (0, .class_ 4), (0, u "java/lang/Object")] 2

/-- java/io/Serializable -/
def k2 : Class := { plain "java/io/Serializable" (some 0) with
  accessFlags := 1537
  interfaces := #[]
  cf := some (fileOf pool2 1 #[] #[] 1537 3 #[] #[])
  fields := #[]
  methods := #[]
  instanceTypes := #[]
  staticTypes := #[]
  resolved := Array.replicate 7 none
  statics := none }

def pool3 : Array CpInfo := pool [(1, .class_ 2), (0, u "java/lang/Comparable"), (0, .class_ 4), (0, u "java/lang/Object")] 7

/-- java/lang/Comparable -/
def k3 : Class := { plain "java/lang/Comparable" (some 0) with
  accessFlags := 1537
  interfaces := #[]
  cf := some (fileOf pool3 1 #[] #[] 1537 3 #[] #[])
  fields := #[]
  methods := #[]
  instanceTypes := #[]
  staticTypes := #[]
  resolved := Array.replicate 12 none
  statics := none }

def pool4 : Array CpInfo := pool [(2, .class_ 4), (1, u "java/lang/CharSequence"), (42, .class_ 48), (0, u "java/lang/CharSequence$1CodePointIterator"), (10, .class_ 60), (0, u "java/lang/CharSequence$1CharIterator"), (5, .class_ 67), (0, u "java/lang/Object")] 63

/-- java/lang/CharSequence -/
def k4 : Class := { plain "java/lang/CharSequence" (some 0) with
  accessFlags := 1537
  interfaces := #[]
  cf := some (fileOf pool4 2 #[.nestMembers #[47, 59]] #[] 1537 66 #[] #[])
  fields := #[]
  methods := #[]
  instanceTypes := #[]
  staticTypes := #[]
  resolved := Array.replicate 131 none
  statics := none }

def pool5 : Array CpInfo := pool [(1, .class_ 2), (0, u "java/lang/constant/Constable"), (0, .class_ 4), (0, u "java/lang/Object")] 6

/-- java/lang/constant/Constable -/
def k5 : Class := { plain "java/lang/constant/Constable" (some 0) with
  accessFlags := 1537
  interfaces := #[]
  cf := some (fileOf pool5 1 #[] #[] 1537 3 #[] #[])
  fields := #[]
  methods := #[]
  instanceTypes := #[]
  staticTypes := #[]
  resolved := Array.replicate 11 none
  statics := none }

def pool6 : Array CpInfo := pool [(1, .class_ 2), (0, u "java/lang/constant/ConstantDesc"), (0, .class_ 4), (0, u "java/lang/Object")] 32

/-- java/lang/constant/ConstantDesc -/
def k6 : Class := { plain "java/lang/constant/ConstantDesc" (some 0) with
  accessFlags := 1537
  interfaces := #[]
  cf := some (fileOf pool6 1 #[] #[] 1537 3 #[] #[])
  fields := #[]
  methods := #[]
  instanceTypes := #[]
  staticTypes := #[]
  resolved := Array.replicate 37 none
  statics := none }

def pool7 : Array CpInfo := pool [(1, .methodref 2 3), (0, .class_ 4), (0, .nameAndType 5 6), (0, u "java/lang/Object"), (0, u "<init>"), (0, u "()V"), (2, .fieldref 10 11), (0, .class_ 12), (0, .nameAndType 13 14), (0, u "java/lang/String"), (0, u "value"), (0, u "[B"), (0, .fieldref 10 16), (0, .nameAndType 17 18), (0, u "coder"), (0, u "B"), (2, u "hash"), (0, u "I"), (2, u "hashIsZero"), (0, u "Z"), (0, .methodref 10 28), (0, .nameAndType 5 29), (0, u "([CIILjava/lang/Void;)V"), (8, .fieldref 10 39), (0, .nameAndType 40 26), (0, u "COMPACT_STRINGS"), (1, .class_ 44), (1, u "java/lang/StringUTF16"), (0, u "compress"), (1, .methodref 42 48), (0, .nameAndType 49 50), (0, u "coderFromArrayLen"), (0, u "([BI)B"), (2, u "toBytes"), (53, .class_ 109), (1, u "java/lang/StringLatin1"), (67, .methodref 42 178), (0, .nameAndType 45 179), (0, u "([CII)[B"), (29, .methodref 10 210), (0, .nameAndType 5 211), (0, u "([BB)V"), (157, u "(C)Z"), (173, u "equals"), (29, u "(Ljava/lang/Object;)Z"), (1, .class_ 576), (0, u "java/lang/CharSequence"), (22, u "CASE_INSENSITIVE_ORDER"), (0, u "Ljava/util/Comparator;"), (181, u "valueOf"), (0, u "(C)Ljava/lang/String;"), (226, u "([C)V"), (4, .methodref 107 1016), (0, .nameAndType 1017 369), (0, u "canEncode"), (0, .methodref 107 1019), (0, .nameAndType 53 1020), (0, u "(C)[B"), (80, u "serialPersistentFields"), (0, u "[Ljava/io/ObjectStreamField;"), (0, .class_ 1104), (0, u "java/lang/String$CaseInsensitiveComparator"), (1, .class_ 1107), (0, u "java/io/Serializable"), (0, .class_ 1109), (0, u "java/lang/Comparable"), (0, .class_ 1111), (0, u "java/lang/constant/Constable"), (0, .class_ 1113), (0, u "java/lang/constant/ConstantDesc"), (2, u "serialVersionUID"), (0, u "J"), (3, u "REPL"), (0, u "C"), (2, u "LATIN1"), (1, u "UTF16")] 323

def k7m0 : Method := { name := "<init>", desc := "()V", sig := { parameters := [], returnType := none }, accessFlags := 1, code := none }
def k7c1 : Code := { maxStack := 5, maxLocals := 2, code := jdk_42_method_3_code, exceptionTable := #[], attributes := #[] }
def k7m1 : Method := { name := "<init>", desc := "([C)V", sig := { parameters := [(.array .char)], returnType := none }, accessFlags := 1, code := some k7c1 }
def k7c2 : Code := { maxStack := 2, maxLocals := 3, code := jdk_42_method_66_code, exceptionTable := #[], attributes := #[] }
def k7m2 : Method := { name := "equals", desc := "(Ljava/lang/Object;)Z", sig := { parameters := [(.object "java/lang/Object")], returnType := some .boolean }, accessFlags := 1, code := some k7c2 }
def k7c3 : Code := { maxStack := 4, maxLocals := 1, code := jdk_42_method_139_code, exceptionTable := #[], attributes := #[] }
def k7m3 : Method := { name := "valueOf", desc := "(C)Ljava/lang/String;", sig := { parameters := [.char], returnType := some (.object "java/lang/String") }, accessFlags := 9, code := some k7c3 }
def k7c4 : Code := { maxStack := 4, maxLocals := 6, code := jdk_42_method_149_code, exceptionTable := #[], attributes := #[] }
def k7m4 : Method := { name := "<init>", desc := "([CIILjava/lang/Void;)V", sig := { parameters := [(.array .char), .int, .int, (.object "java/lang/Void")], returnType := none }, accessFlags := 2, code := some k7c4 }
def k7c5 : Code := { maxStack := 2, maxLocals := 3, code := jdk_42_method_151_code, exceptionTable := #[], attributes := #[] }
def k7m5 : Method := { name := "<init>", desc := "([BB)V", sig := { parameters := [(.array .byte), .byte], returnType := none }, accessFlags := 0, code := some k7c5 }
/-- java/lang/String -/
def k7 : Class := { plain "java/lang/String" (some 0) with
  accessFlags := 49
  interfaces := #[2, 3, 4, 5, 6]
  cf := some (fileOf pool7 10 #[.nestMembers #[1103]] #[{ accessFlags := 1, nameIndex := 5, descriptorIndex := 6, attributes := #[] }, { accessFlags := 1, nameIndex := 5, descriptorIndex := 1010, attributes := #[] }, { accessFlags := 1, nameIndex := 543, descriptorIndex := 573, attributes := #[] }, { accessFlags := 9, nameIndex := 782, descriptorIndex := 783, attributes := #[] }, { accessFlags := 2, nameIndex := 5, descriptorIndex := 29, attributes := #[] }, { accessFlags := 0, nameIndex := 5, descriptorIndex := 211, attributes := #[] }] 49 2 #[1106, 1108, 575, 1110, 1112] #[{ accessFlags := 18, nameIndex := 13, descriptorIndex := 14, attributes := #[] }, { accessFlags := 18, nameIndex := 17, descriptorIndex := 18, attributes := #[] }, { accessFlags := 2, nameIndex := 21, descriptorIndex := 22, attributes := #[] }, { accessFlags := 2, nameIndex := 25, descriptorIndex := 26, attributes := #[] }, { accessFlags := 26, nameIndex := 1116, descriptorIndex := 1117, attributes := #[] }, { accessFlags := 24, nameIndex := 40, descriptorIndex := 26, attributes := #[] }, { accessFlags := 26, nameIndex := 1101, descriptorIndex := 1102, attributes := #[] }, { accessFlags := 26, nameIndex := 1121, descriptorIndex := 1122, attributes := #[] }, { accessFlags := 25, nameIndex := 599, descriptorIndex := 600, attributes := #[] }, { accessFlags := 24, nameIndex := 1125, descriptorIndex := 18, attributes := #[] }, { accessFlags := 24, nameIndex := 1127, descriptorIndex := 18, attributes := #[] }])
  fields := #[{ name := "value", type := (.array .byte), accessFlags := 18, slot := 0, constantValue := 0 }, { name := "coder", type := .byte, accessFlags := 18, slot := 1, constantValue := 0 }, { name := "hash", type := .int, accessFlags := 2, slot := 2, constantValue := 0 }, { name := "hashIsZero", type := .boolean, accessFlags := 2, slot := 3, constantValue := 0 }, { name := "serialVersionUID", type := .long, accessFlags := 26, slot := 0, constantValue := 0 }, { name := "COMPACT_STRINGS", type := .boolean, accessFlags := 24, slot := 1, constantValue := 0 }, { name := "serialPersistentFields", type := (.array (.object "java/io/ObjectStreamField")), accessFlags := 26, slot := 2, constantValue := 0 }, { name := "REPL", type := .char, accessFlags := 26, slot := 3, constantValue := 0 }, { name := "CASE_INSENSITIVE_ORDER", type := (.object "java/util/Comparator"), accessFlags := 25, slot := 4, constantValue := 0 }, { name := "LATIN1", type := .byte, accessFlags := 24, slot := 5, constantValue := 0 }, { name := "UTF16", type := .byte, accessFlags := 24, slot := 6, constantValue := 0 }]
  methods := #[k7m0, k7m1, k7m2, k7m3, k7m4, k7m5]
  instanceTypes := #[(.array .byte), .byte, .int, .boolean]
  staticTypes := #[.long, .boolean, (.array (.object "java/io/ObjectStreamField")), .char, (.object "java/util/Comparator"), .byte, .byte]
  resolved := Array.replicate 1451 none
  statics := some 0 }

def pool8 : Array CpInfo := pool [(6, .class_ 8), (1, u "java/lang/Object"), (0, u "<init>"), (0, u "()V"), (1, .class_ 14), (1, u "java/lang/StringUTF16"), (31, u "$assertionsDisabled"), (0, u "Z"), (13, u "HI_BYTE_SHIFT"), (0, u "I"), (2, u "LO_BYTE_SHIFT"), (49, .methodref 12 116), (0, .nameAndType 117 118), (0, u "compress"), (0, u "([CI[BII)I"), (3, u "([CII)[B"), (138, u "coderFromArrayLen"), (0, u "([BI)B"), (106, .class_ 371), (1, u "java/lang/StringUTF16$LinesSpliterator"), (58, u "MAX_LENGTH"), (196, .class_ 628), (0, u "java/lang/StringUTF16$CodePointsSpliterator"), (0, .class_ 630), (0, u "java/lang/StringUTF16$CharsSpliterator")] 4

def k8m0 : Method := { name := "<init>", desc := "()V", sig := { parameters := [], returnType := none }, accessFlags := 0, code := none }
def k8c1 : Code := { maxStack := 2, maxLocals := 2, code := jdk_52_method_15_code, exceptionTable := #[], attributes := #[] }
def k8m1 : Method := { name := "coderFromArrayLen", desc := "([BI)B", sig := { parameters := [(.array .byte), .int], returnType := some .byte }, accessFlags := 8, code := some k8c1 }
def k8c2 : Code := { maxStack := 5, maxLocals := 6, code := jdk_52_method_16_code, exceptionTable := #[], attributes := #[] }
def k8m2 : Method := { name := "compress", desc := "([CII)[B", sig := { parameters := [(.array .char), .int, .int], returnType := some (.array .byte) }, accessFlags := 9, code := some k8c2 }
def k8c3 : Code := { maxStack := 3, maxLocals := 7, code := jdk_52_method_21_code, exceptionTable := #[], attributes := #[] }
def k8m3 : Method := { name := "compress", desc := "([CI[BII)I", sig := { parameters := [(.array .char), .int, (.array .byte), .int, .int], returnType := some .int }, accessFlags := 9, code := some k8c3 }
/-- java/lang/StringUTF16 -/
def k8 : Class := { plain "java/lang/StringUTF16" (some 0) with
  accessFlags := 48
  interfaces := #[]
  cf := some (fileOf pool8 12 #[.nestMembers #[627, 629, 369]] #[{ accessFlags := 0, nameIndex := 9, descriptorIndex := 10, attributes := #[] }, { accessFlags := 8, nameIndex := 261, descriptorIndex := 262, attributes := #[] }, { accessFlags := 9, nameIndex := 117, descriptorIndex := 122, attributes := #[] }, { accessFlags := 9, nameIndex := 117, descriptorIndex := 118, attributes := #[] }] 48 6 #[] #[{ accessFlags := 26, nameIndex := 61, descriptorIndex := 62, attributes := #[] }, { accessFlags := 26, nameIndex := 65, descriptorIndex := 62, attributes := #[] }, { accessFlags := 24, nameIndex := 430, descriptorIndex := 62, attributes := #[] }, { accessFlags := 4120, nameIndex := 46, descriptorIndex := 47, attributes := #[] }])
  fields := #[{ name := "HI_BYTE_SHIFT", type := .int, accessFlags := 26, slot := 0, constantValue := 0 }, { name := "LO_BYTE_SHIFT", type := .int, accessFlags := 26, slot := 1, constantValue := 0 }, { name := "MAX_LENGTH", type := .int, accessFlags := 24, slot := 2, constantValue := 0 }, { name := "$assertionsDisabled", type := .boolean, accessFlags := 4120, slot := 3, constantValue := 0 }]
  methods := #[k8m0, k8m1, k8m2, k8m3]
  instanceTypes := #[]
  staticTypes := #[.int, .int, .int, .boolean]
  resolved := Array.replicate 635 none
  statics := none }

def pool9 : Array CpInfo := pool [(8, .class_ 10), (1, u "java/lang/Iterable"), (24, .class_ 36), (0, u "java/lang/Object")] 25

/-- java/lang/Iterable -/
def k9 : Class := { plain "java/lang/Iterable" (some 0) with
  accessFlags := 1537
  interfaces := #[]
  cf := some (fileOf pool9 8 #[] #[] 1537 35 #[] #[])
  fields := #[]
  methods := #[]
  instanceTypes := #[]
  staticTypes := #[]
  resolved := Array.replicate 62 none
  statics := none }

def pool10 : Array CpInfo := pool [(10, .class_ 12), (1, u "java/util/Collection"), (47, .class_ 61), (0, u "java/lang/Object"), (0, .class_ 63), (0, u "java/lang/Iterable")] 51

/-- java/util/Collection -/
def k10 : Class := { plain "java/util/Collection" (some 0) with
  accessFlags := 1537
  interfaces := #[9]
  cf := some (fileOf pool10 10 #[] #[] 1537 60 #[62] #[])
  fields := #[]
  methods := #[]
  instanceTypes := #[]
  staticTypes := #[]
  resolved := Array.replicate 115 none
  statics := none }

def pool11 : Array CpInfo := pool [(1, .methodref 2 3), (0, .class_ 4), (0, .nameAndType 5 6), (0, u "java/lang/Object"), (0, u "<init>"), (0, u "()V"), (1, .class_ 10), (1, u "java/util/AbstractCollection"), (66, .class_ 78), (0, u "java/util/Collection")] 81

def k11c0 : Code := { maxStack := 1, maxLocals := 1, code := jdk_22_method_1_code, exceptionTable := #[], attributes := #[] }
def k11m0 : Method := { name := "<init>", desc := "()V", sig := { parameters := [], returnType := none }, accessFlags := 4, code := some k11c0 }
/-- java/util/AbstractCollection -/
def k11 : Class := { plain "java/util/AbstractCollection" (some 0) with
  accessFlags := 1057
  interfaces := #[10]
  cf := some (fileOf pool11 8 #[] #[{ accessFlags := 4, nameIndex := 5, descriptorIndex := 6, attributes := #[] }] 1057 2 #[77] #[])
  fields := #[]
  methods := #[k11m0]
  instanceTypes := #[]
  staticTypes := #[]
  resolved := Array.replicate 160 none
  statics := none }

def pool12 : Array CpInfo := pool [(8, .class_ 10), (1, u "java/util/SequencedCollection"), (15, .class_ 27), (0, u "java/lang/Object"), (0, .class_ 29), (0, u "java/util/Collection")] 27

/-- java/util/SequencedCollection -/
def k12 : Class := { plain "java/util/SequencedCollection" (some 0) with
  accessFlags := 1537
  interfaces := #[10]
  cf := some (fileOf pool12 8 #[] #[] 1537 26 #[28] #[])
  fields := #[]
  methods := #[]
  instanceTypes := #[]
  staticTypes := #[]
  resolved := Array.replicate 57 none
  statics := none }

def pool13 : Array CpInfo := pool [(8, .class_ 10), (1, u "java/util/List"), (20, u "(Ljava/lang/Object;)V"), (16, u "<init>"), (26, u "get"), (0, u "(I)Ljava/lang/Object;"), (2, u "size"), (0, u "()I"), (7, u "of"), (7, .class_ 97), (0, u "java/util/ImmutableCollections$List12"), (0, .methodref 96 99), (0, .nameAndType 48 31), (3, .class_ 104), (0, u "java/lang/Object"), (15, .class_ 121), (0, u "java/util/SequencedCollection"), (76, u "(Ljava/lang/Object;)Ljava/util/List;")] 52

def k13m0 : Method := { name := "size", desc := "()I", sig := { parameters := [], returnType := some .int }, accessFlags := 1025, code := none }
def k13m1 : Method := { name := "get", desc := "(I)Ljava/lang/Object;", sig := { parameters := [.int], returnType := some (.object "java/lang/Object") }, accessFlags := 1025, code := none }
def k13c2 : Code := { maxStack := 3, maxLocals := 1, code := jdk_40_method_37_code, exceptionTable := #[], attributes := #[] }
def k13m2 : Method := { name := "of", desc := "(Ljava/lang/Object;)Ljava/util/List;", sig := { parameters := [(.object "java/lang/Object")], returnType := some (.object "java/util/List") }, accessFlags := 9, code := some k13c2 }
/-- java/util/List -/
def k13 : Class := { plain "java/util/List" (some 0) with
  accessFlags := 1537
  interfaces := #[12]
  cf := some (fileOf pool13 8 #[] #[{ accessFlags := 1025, nameIndex := 79, descriptorIndex := 80, attributes := #[] }, { accessFlags := 1025, nameIndex := 75, descriptorIndex := 76, attributes := #[] }, { accessFlags := 9, nameIndex := 88, descriptorIndex := 198, attributes := #[] }] 1537 103 #[120] #[])
  fields := #[]
  methods := #[k13m0, k13m1, k13m2]
  instanceTypes := #[]
  staticTypes := #[]
  resolved := Array.replicate 251 none
  statics := none }

def pool14 : Array CpInfo := pool [(1, .methodref 2 3), (0, .class_ 4), (0, .nameAndType 5 6), (0, u "java/util/AbstractCollection"), (0, u "<init>"), (0, u "()V"), (0, .fieldref 8 9), (0, .class_ 10), (0, .nameAndType 11 12), (0, u "java/util/AbstractList"), (0, u "modCount"), (0, u "I"), (64, .class_ 78), (0, u "java/util/AbstractList$Itr"), (3, .class_ 83), (0, u "java/util/AbstractList$ListItr"), (9, .class_ 94), (0, u "java/util/AbstractList$RandomAccessSubList"), (3, .class_ 99), (0, u "java/util/AbstractList$SubList"), (33, .class_ 134), (0, u "java/util/List"), (73, .class_ 209), (0, u "java/util/AbstractList$SubList$1"), (0, .class_ 211), (0, u "java/util/AbstractList$RandomAccessSpliterator")] 6

def k14c0 : Code := { maxStack := 2, maxLocals := 1, code := jdk_39_method_1_code, exceptionTable := #[], attributes := #[] }
def k14m0 : Method := { name := "<init>", desc := "()V", sig := { parameters := [], returnType := none }, accessFlags := 4, code := some k14c0 }
/-- java/util/AbstractList -/
def k14 : Class := { plain "java/util/AbstractList" (some 11) with
  accessFlags := 1057
  interfaces := #[13]
  cf := some (fileOf pool14 8 #[.nestMembers #[93, 98, 208, 210, 82, 77]] #[{ accessFlags := 4, nameIndex := 5, descriptorIndex := 6, attributes := #[] }] 1057 2 #[133] #[{ accessFlags := 132, nameIndex := 11, descriptorIndex := 12, attributes := #[] }])
  fields := #[{ name := "modCount", type := .int, accessFlags := 132, slot := 0, constantValue := 0 }]
  methods := #[k14m0]
  instanceTypes := #[.int]
  staticTypes := #[]
  resolved := Array.replicate 218 none
  statics := none }

def pool15 : Array CpInfo := pool [(1, .class_ 2), (0, u "java/util/RandomAccess"), (0, .class_ 4), (0, u "java/lang/Object")] 2

/-- java/util/RandomAccess -/
def k15 : Class := { plain "java/util/RandomAccess" (some 0) with
  accessFlags := 1537
  interfaces := #[]
  cf := some (fileOf pool15 1 #[] #[] 1537 3 #[] #[])
  fields := #[]
  methods := #[]
  instanceTypes := #[]
  staticTypes := #[]
  resolved := Array.replicate 7 none
  statics := none }

def pool16 : Array CpInfo := pool [(1, .class_ 2), (0, u "java/lang/Cloneable"), (0, .class_ 4), (0, u "java/lang/Object")] 2

/-- java/lang/Cloneable -/
def k16 : Class := { plain "java/lang/Cloneable" (some 0) with
  accessFlags := 1537
  interfaces := #[]
  cf := some (fileOf pool16 1 #[] #[] 1537 3 #[] #[])
  fields := #[]
  methods := #[]
  instanceTypes := #[]
  staticTypes := #[]
  resolved := Array.replicate 7 none
  statics := none }

def pool17 : Array CpInfo := pool [(1, .methodref 2 3), (0, .class_ 4), (0, .nameAndType 5 6), (0, u "java/util/AbstractList"), (0, u "<init>"), (0, u "()V"), (0, .class_ 8), (0, u "java/lang/Object"), (0, .fieldref 10 11), (0, .class_ 12), (0, .nameAndType 13 14), (0, u "java/util/ArrayList"), (0, u "elementData"), (0, u "[Ljava/lang/Object;"), (2, u "EMPTY_ELEMENTDATA"), (21, .fieldref 10 40), (0, .nameAndType 41 14), (0, u "DEFAULTCAPACITY_EMPTY_ELEMENTDATA"), (5, u "()[Ljava/lang/Object;"), (0, .fieldref 10 49), (0, .nameAndType 50 51), (0, u "size"), (0, u "I"), (11, .fieldref 10 64), (0, .nameAndType 65 51), (0, u "modCount"), (3, .methodref 10 70), (0, .nameAndType 71 72), (0, u "grow"), (0, u "(I)[Ljava/lang/Object;"), (6, .methodref 80 81), (0, .class_ 82), (0, .nameAndType 83 84), (0, u "java/lang/Math"), (0, u "max"), (0, u "(II)I"), (11, u "(Ljava/lang/Object;)Z"), (32, .methodref 10 130), (0, .nameAndType 71 47), (0, .methodref 10 132), (0, .nameAndType 133 134), (0, u "add"), (0, u "(Ljava/lang/Object;[Ljava/lang/Object;I)V"), (13, .class_ 149), (0, u "java/util/List"), (36, u "()I"), (75, .class_ 263), (0, u "java/util/ArrayList$ListItr"), (3, .class_ 268), (0, u "java/util/ArrayList$Itr"), (7, .class_ 277), (0, u "java/util/ArrayList$SubList"), (12, .class_ 291), (0, u "java/util/ArrayList$ArrayListSpliterator"), (37, .class_ 330), (0, u "java/util/RandomAccess"), (0, .class_ 332), (0, u "java/lang/Cloneable"), (0, .class_ 334), (0, u "java/io/Serializable"), (0, u "serialVersionUID"), (0, u "J"), (3, u "DEFAULT_CAPACITY"), (159, .class_ 501), (0, u "java/util/ArrayList$SubList$2"), (0, .class_ 503), (0, u "java/util/ArrayList$SubList$1")] 5

def k17c0 : Code := { maxStack := 2, maxLocals := 1, code := jdk_38_method_2_code, exceptionTable := #[], attributes := #[] }
def k17m0 : Method := { name := "<init>", desc := "()V", sig := { parameters := [], returnType := none }, accessFlags := 1, code := some k17c0 }
def k17c1 : Code := { maxStack := 4, maxLocals := 4, code := jdk_38_method_6_code, exceptionTable := #[], attributes := #[] }
def k17m1 : Method := { name := "grow", desc := "(I)[Ljava/lang/Object;", sig := { parameters := [.int], returnType := some (.array (.object "java/lang/Object")) }, accessFlags := 2, code := some k17c1 }
def k17c2 : Code := { maxStack := 3, maxLocals := 1, code := jdk_38_method_7_code, exceptionTable := #[], attributes := #[] }
def k17m2 : Method := { name := "grow", desc := "()[Ljava/lang/Object;", sig := { parameters := [], returnType := some (.array (.object "java/lang/Object")) }, accessFlags := 2, code := some k17c2 }
def k17c3 : Code := { maxStack := 1, maxLocals := 1, code := jdk_38_method_8_code, exceptionTable := #[], attributes := #[] }
def k17m3 : Method := { name := "size", desc := "()I", sig := { parameters := [], returnType := some .int }, accessFlags := 1, code := some k17c3 }
def k17c4 : Code := { maxStack := 3, maxLocals := 4, code := jdk_38_method_24_code, exceptionTable := #[], attributes := #[] }
def k17m4 : Method := { name := "add", desc := "(Ljava/lang/Object;[Ljava/lang/Object;I)V", sig := { parameters := [(.object "java/lang/Object"), (.array (.object "java/lang/Object")), .int], returnType := none }, accessFlags := 2, code := some k17c4 }
def k17c5 : Code := { maxStack := 4, maxLocals := 2, code := jdk_38_method_25_code, exceptionTable := #[], attributes := #[] }
def k17m5 : Method := { name := "add", desc := "(Ljava/lang/Object;)Z", sig := { parameters := [(.object "java/lang/Object")], returnType := some .boolean }, accessFlags := 1, code := some k17c5 }
/-- java/util/ArrayList -/
def k17 : Class := { plain "java/util/ArrayList" (some 14) with
  accessFlags := 33
  interfaces := #[13, 15, 16, 2]
  cf := some (fileOf pool17 10 #[.nestMembers #[290, 276, 500, 502, 262, 267]] #[{ accessFlags := 1, nameIndex := 5, descriptorIndex := 6, attributes := #[] }, { accessFlags := 2, nameIndex := 71, descriptorIndex := 72, attributes := #[] }, { accessFlags := 2, nameIndex := 71, descriptorIndex := 47, attributes := #[] }, { accessFlags := 1, nameIndex := 50, descriptorIndex := 186, attributes := #[] }, { accessFlags := 2, nameIndex := 133, descriptorIndex := 134, attributes := #[] }, { accessFlags := 1, nameIndex := 133, descriptorIndex := 96, attributes := #[] }] 33 2 #[148, 329, 331, 333] #[{ accessFlags := 26, nameIndex := 335, descriptorIndex := 336, attributes := #[] }, { accessFlags := 26, nameIndex := 340, descriptorIndex := 51, attributes := #[] }, { accessFlags := 26, nameIndex := 17, descriptorIndex := 14, attributes := #[] }, { accessFlags := 26, nameIndex := 41, descriptorIndex := 14, attributes := #[] }, { accessFlags := 128, nameIndex := 13, descriptorIndex := 14, attributes := #[] }, { accessFlags := 2, nameIndex := 50, descriptorIndex := 51, attributes := #[] }])
  fields := #[{ name := "serialVersionUID", type := .long, accessFlags := 26, slot := 0, constantValue := 0 }, { name := "DEFAULT_CAPACITY", type := .int, accessFlags := 26, slot := 1, constantValue := 0 }, { name := "EMPTY_ELEMENTDATA", type := (.array (.object "java/lang/Object")), accessFlags := 26, slot := 2, constantValue := 0 }, { name := "DEFAULTCAPACITY_EMPTY_ELEMENTDATA", type := (.array (.object "java/lang/Object")), accessFlags := 26, slot := 3, constantValue := 0 }, { name := "elementData", type := (.array (.object "java/lang/Object")), accessFlags := 128, slot := 1, constantValue := 0 }, { name := "size", type := .int, accessFlags := 2, slot := 2, constantValue := 0 }]
  methods := #[k17m0, k17m1, k17m2, k17m3, k17m4, k17m5]
  instanceTypes := #[.int, (.array (.object "java/lang/Object")), .int]
  staticTypes := #[.long, .int, (.array (.object "java/lang/Object")), (.array (.object "java/lang/Object"))]
  resolved := Array.replicate 509 none
  statics := some 1 }

def pool18 : Array CpInfo := pool [(1, .methodref 2 3), (0, .class_ 4), (0, .nameAndType 5 6), (0, u "java/lang/Object"), (0, u "<init>"), (0, u "()V"), (0, .class_ 8), (0, u "java/lang/Record")] 13

def k18c0 : Code := { maxStack := 1, maxLocals := 1, code := jdk_30_method_1_code, exceptionTable := #[], attributes := #[] }
def k18m0 : Method := { name := "<init>", desc := "()V", sig := { parameters := [], returnType := none }, accessFlags := 4, code := some k18c0 }
/-- java/lang/Record -/
def k18 : Class := { plain "java/lang/Record" (some 0) with
  accessFlags := 1057
  interfaces := #[]
  cf := some (fileOf pool18 7 #[] #[{ accessFlags := 4, nameIndex := 5, descriptorIndex := 6, attributes := #[] }] 1057 2 #[] #[])
  fields := #[]
  methods := #[k18m0]
  instanceTypes := #[]
  staticTypes := #[]
  resolved := Array.replicate 22 none
  statics := none }

def pool19 : Array CpInfo := pool [(1, .class_ 2), (0, u "com/example/bolter/bolter/model/ElementDefinitions"), (0, .methodref 4 5), (0, .class_ 6), (0, .nameAndType 7 8), (0, u "java/lang/Record"), (0, u "<init>"), (0, u "()V"), (0, .fieldref 10 11), (0, .class_ 12), (0, .nameAndType 13 14), (0, u "com/example/bolter/bolter/model/ElementDefinitions$Definition"), (0, u "path"), (0, u "Ljava/lang/String;"), (0, .fieldref 10 16), (0, .nameAndType 17 18), (0, u "types"), (0, u "Ljava/util/List;"), (0, .fieldref 10 20), (0, .nameAndType 21 14), (0, u "valueSet"), (0, .fieldref 10 23), (0, .nameAndType 24 25), (0, u "summary"), (0, u "Z"), (0, .fieldref 10 27), (0, .nameAndType 28 29), (0, u "min"), (0, u "I"), (3, .class_ 35), (1, u "java/lang/String"), (2, .interfaceMethodref 39 40), (0, .class_ 41), (0, .nameAndType 42 43), (0, u "java/util/List"), (0, u "size"), (0, u "()I"), (0, .interfaceMethodref 39 45), (0, .nameAndType 46 47), (0, u "get"), (0, u "(I)Ljava/lang/Object;"), (0, .interfaceMethodref 39 49), (0, .nameAndType 50 51), (0, u "of"), (0, u "(Ljava/lang/Object;)Ljava/util/List;"), (0, .methodref 10 53), (0, .nameAndType 7 54), (0, u "(Ljava/lang/String;Ljava/util/List;Ljava/lang/String;ZI)V"), (11, u "()Z"), (24, u "type"), (0, u "()Ljava/lang/String;"), (1, u "as"), (0, u "(Ljava/lang/String;)Lcom/example/bolter/bolter/model/ElementDefinitions$Definition;"), (2, u "()Ljava/util/List;")] 27

def k19c0 : Code := { maxStack := 2, maxLocals := 6, code := prog_11_method_1_code, exceptionTable := #[], attributes := #[] }
def k19m0 : Method := { name := "<init>", desc := "(Ljava/lang/String;Ljava/util/List;Ljava/lang/String;ZI)V", sig := { parameters := [(.object "java/lang/String"), (.object "java/util/List"), (.object "java/lang/String"), .boolean, .int], returnType := none }, accessFlags := 0, code := some k19c0 }
def k19c1 : Code := { maxStack := 2, maxLocals := 1, code := prog_11_method_3_code, exceptionTable := #[], attributes := #[] }
def k19m1 : Method := { name := "type", desc := "()Ljava/lang/String;", sig := { parameters := [], returnType := some (.object "java/lang/String") }, accessFlags := 0, code := some k19c1 }
def k19c2 : Code := { maxStack := 7, maxLocals := 2, code := prog_11_method_4_code, exceptionTable := #[], attributes := #[] }
def k19m2 : Method := { name := "as", desc := "(Ljava/lang/String;)Lcom/example/bolter/bolter/model/ElementDefinitions$Definition;", sig := { parameters := [(.object "java/lang/String")], returnType := some (.object "com/example/bolter/bolter/model/ElementDefinitions$Definition") }, accessFlags := 0, code := some k19c2 }
def k19c3 : Code := { maxStack := 1, maxLocals := 1, code := prog_11_method_9_code, exceptionTable := #[], attributes := #[] }
def k19m3 : Method := { name := "path", desc := "()Ljava/lang/String;", sig := { parameters := [], returnType := some (.object "java/lang/String") }, accessFlags := 1, code := some k19c3 }
def k19c4 : Code := { maxStack := 1, maxLocals := 1, code := prog_11_method_10_code, exceptionTable := #[], attributes := #[] }
def k19m4 : Method := { name := "types", desc := "()Ljava/util/List;", sig := { parameters := [], returnType := some (.object "java/util/List") }, accessFlags := 1, code := some k19c4 }
def k19c5 : Code := { maxStack := 1, maxLocals := 1, code := prog_11_method_11_code, exceptionTable := #[], attributes := #[] }
def k19m5 : Method := { name := "valueSet", desc := "()Ljava/lang/String;", sig := { parameters := [], returnType := some (.object "java/lang/String") }, accessFlags := 1, code := some k19c5 }
def k19c6 : Code := { maxStack := 1, maxLocals := 1, code := prog_11_method_12_code, exceptionTable := #[], attributes := #[] }
def k19m6 : Method := { name := "summary", desc := "()Z", sig := { parameters := [], returnType := some .boolean }, accessFlags := 1, code := some k19c6 }
def k19c7 : Code := { maxStack := 1, maxLocals := 1, code := prog_11_method_13_code, exceptionTable := #[], attributes := #[] }
def k19m7 : Method := { name := "min", desc := "()I", sig := { parameters := [], returnType := some .int }, accessFlags := 1, code := some k19c7 }
/-- com/example/bolter/bolter/model/ElementDefinitions$Definition -/
def k19 : Class := { plain "com/example/bolter/bolter/model/ElementDefinitions$Definition" (some 18) with
  accessFlags := 48
  interfaces := #[]
  cf := some (fileOf pool19 10 #[.nestHost 1] #[{ accessFlags := 0, nameIndex := 7, descriptorIndex := 54, attributes := #[] }, { accessFlags := 0, nameIndex := 91, descriptorIndex := 92, attributes := #[] }, { accessFlags := 0, nameIndex := 94, descriptorIndex := 95, attributes := #[] }, { accessFlags := 1, nameIndex := 13, descriptorIndex := 92, attributes := #[] }, { accessFlags := 1, nameIndex := 17, descriptorIndex := 98, attributes := #[] }, { accessFlags := 1, nameIndex := 21, descriptorIndex := 92, attributes := #[] }, { accessFlags := 1, nameIndex := 24, descriptorIndex := 66, attributes := #[] }, { accessFlags := 1, nameIndex := 28, descriptorIndex := 43, attributes := #[] }] 48 4 #[] #[{ accessFlags := 18, nameIndex := 13, descriptorIndex := 14, attributes := #[] }, { accessFlags := 18, nameIndex := 17, descriptorIndex := 18, attributes := #[] }, { accessFlags := 18, nameIndex := 21, descriptorIndex := 14, attributes := #[] }, { accessFlags := 18, nameIndex := 24, descriptorIndex := 25, attributes := #[] }, { accessFlags := 18, nameIndex := 28, descriptorIndex := 29, attributes := #[] }])
  fields := #[{ name := "path", type := (.object "java/lang/String"), accessFlags := 18, slot := 0, constantValue := 0 }, { name := "types", type := (.object "java/util/List"), accessFlags := 18, slot := 1, constantValue := 0 }, { name := "valueSet", type := (.object "java/lang/String"), accessFlags := 18, slot := 2, constantValue := 0 }, { name := "summary", type := .boolean, accessFlags := 18, slot := 3, constantValue := 0 }, { name := "min", type := .int, accessFlags := 18, slot := 4, constantValue := 0 }]
  methods := #[k19m0, k19m1, k19m2, k19m3, k19m4, k19m5, k19m6, k19m7]
  instanceTypes := #[(.object "java/lang/String"), (.object "java/util/List"), (.object "java/lang/String"), .boolean, .int]
  staticTypes := #[]
  resolved := Array.replicate 126 none
  statics := none }

def pool20 : Array CpInfo := pool [(1, .methodref 2 3), (0, .class_ 4), (0, .nameAndType 5 6), (0, u "java/util/AbstractCollection"), (0, u "<init>"), (0, u "()V"), (1, .class_ 10), (1, u "java/util/ImmutableCollections"), (2, .class_ 14), (0, u "java/util/ImmutableCollections$AbstractImmutableCollection")] 41

def k20c0 : Code := { maxStack := 1, maxLocals := 1, code := jdk_47_method_1_code, exceptionTable := #[], attributes := #[] }
def k20m0 : Method := { name := "<init>", desc := "()V", sig := { parameters := [], returnType := none }, accessFlags := 0, code := some k20c0 }
/-- java/util/ImmutableCollections$AbstractImmutableCollection -/
def k20 : Class := { plain "java/util/ImmutableCollections$AbstractImmutableCollection" (some 11) with
  accessFlags := 1056
  interfaces := #[]
  cf := some (fileOf pool20 13 #[.nestHost 8] #[{ accessFlags := 0, nameIndex := 5, descriptorIndex := 6, attributes := #[] }] 1056 2 #[] #[])
  fields := #[]
  methods := #[k20m0]
  instanceTypes := #[]
  staticTypes := #[]
  resolved := Array.replicate 56 none
  statics := none }

def pool21 : Array CpInfo := pool [(1, .methodref 2 3), (0, .class_ 4), (0, .nameAndType 5 6), (0, u "java/util/ImmutableCollections$AbstractImmutableCollection"), (0, u "<init>"), (0, u "()V"), (1, .class_ 10), (1, u "java/util/ImmutableCollections"), (3, .class_ 16), (1, u "java/util/ImmutableCollections$AbstractImmutableList"), (60, .class_ 78), (0, u "java/util/List"), (45, .class_ 125), (0, u "java/util/RandomAccess")] 70

def k21c0 : Code := { maxStack := 1, maxLocals := 1, code := jdk_46_method_1_code, exceptionTable := #[], attributes := #[] }
def k21m0 : Method := { name := "<init>", desc := "()V", sig := { parameters := [], returnType := none }, accessFlags := 0, code := some k21c0 }
/-- java/util/ImmutableCollections$AbstractImmutableList -/
def k21 : Class := { plain "java/util/ImmutableCollections$AbstractImmutableList" (some 20) with
  accessFlags := 1056
  interfaces := #[13, 15]
  cf := some (fileOf pool21 14 #[.nestHost 8] #[{ accessFlags := 0, nameIndex := 5, descriptorIndex := 6, attributes := #[] }] 1056 2 #[77, 124] #[])
  fields := #[]
  methods := #[k21m0]
  instanceTypes := #[]
  staticTypes := #[]
  resolved := Array.replicate 196 none
  statics := none }

def pool22 : Array CpInfo := pool [(1, .methodref 2 3), (0, .class_ 4), (0, .nameAndType 5 6), (0, u "java/util/ImmutableCollections$AbstractImmutableList"), (0, u "<init>"), (0, u "()V"), (0, .methodref 8 9), (0, .class_ 10), (0, .nameAndType 11 12), (0, u "java/util/Objects"), (0, u "requireNonNull"), (0, u "(Ljava/lang/Object;)Ljava/lang/Object;"), (0, .fieldref 14 15), (0, .class_ 16), (0, .nameAndType 17 18), (0, u "java/util/ImmutableCollections$List12"), (0, u "e0"), (0, u "Ljava/lang/Object;"), (0, .fieldref 20 21), (0, .class_ 22), (0, .nameAndType 23 18), (0, u "java/util/ImmutableCollections"), (0, u "EMPTY"), (0, .fieldref 14 25), (0, .nameAndType 26 18), (0, u "e1"), (24, u "size"), (0, u "()I"), (17, .class_ 71), (0, u "java/io/Serializable"), (4, u "(Ljava/lang/Object;)V"), (13, u "get"), (0, u "(I)Ljava/lang/Object;")] 33

def k22c0 : Code := { maxStack := 2, maxLocals := 2, code := jdk_44_method_1_code, exceptionTable := #[], attributes := #[] }
def k22m0 : Method := { name := "<init>", desc := "(Ljava/lang/Object;)V", sig := { parameters := [(.object "java/lang/Object")], returnType := none }, accessFlags := 0, code := some k22c0 }
def k22c1 : Code := { maxStack := 2, maxLocals := 1, code := jdk_44_method_3_code, exceptionTable := #[], attributes := #[] }
def k22m1 : Method := { name := "size", desc := "()I", sig := { parameters := [], returnType := some .int }, accessFlags := 1, code := some k22c1 }
def k22c2 : Code := { maxStack := 2, maxLocals := 2, code := jdk_44_method_5_code, exceptionTable := #[], attributes := #[] }
def k22m2 : Method := { name := "get", desc := "(I)Ljava/lang/Object;", sig := { parameters := [.int], returnType := some (.object "java/lang/Object") }, accessFlags := 1, code := some k22c2 }
/-- java/util/ImmutableCollections$List12 -/
def k22 : Class := { plain "java/util/ImmutableCollections$List12" (some 21) with
  accessFlags := 48
  interfaces := #[2]
  cf := some (fileOf pool22 14 #[.nestHost 20] #[{ accessFlags := 0, nameIndex := 5, descriptorIndex := 76, attributes := #[] }, { accessFlags := 1, nameIndex := 51, descriptorIndex := 52, attributes := #[] }, { accessFlags := 1, nameIndex := 90, descriptorIndex := 91, attributes := #[] }] 48 2 #[70] #[{ accessFlags := 18, nameIndex := 17, descriptorIndex := 18, attributes := #[] }, { accessFlags := 18, nameIndex := 26, descriptorIndex := 18, attributes := #[] }])
  fields := #[{ name := "e0", type := (.object "java/lang/Object"), accessFlags := 18, slot := 0, constantValue := 0 }, { name := "e1", type := (.object "java/lang/Object"), accessFlags := 18, slot := 1, constantValue := 0 }]
  methods := #[k22m0, k22m1, k22m2]
  instanceTypes := #[(.object "java/lang/Object"), (.object "java/lang/Object")]
  staticTypes := #[]
  resolved := Array.replicate 125 none
  statics := none }

def pool23 : Array CpInfo := pool [(2, .class_ 4), (1, u "java/lang/Object"), (0, u "<init>"), (0, u "()V"), (35, .class_ 44), (1, u "java/util/Objects"), (0, u "requireNonNull"), (0, u "(Ljava/lang/Object;)Ljava/lang/Object;")] 137

def k23m0 : Method := { name := "<init>", desc := "()V", sig := { parameters := [], returnType := none }, accessFlags := 2, code := none }
def k23c1 : Code := { maxStack := 2, maxLocals := 1, code := jdk_31_method_10_code, exceptionTable := #[], attributes := #[] }
def k23m1 : Method := { name := "requireNonNull", desc := "(Ljava/lang/Object;)Ljava/lang/Object;", sig := { parameters := [(.object "java/lang/Object")], returnType := some (.object "java/lang/Object") }, accessFlags := 9, code := some k23c1 }
/-- java/util/Objects -/
def k23 : Class := { plain "java/util/Objects" (some 0) with
  accessFlags := 49
  interfaces := #[]
  cf := some (fileOf pool23 42 #[] #[{ accessFlags := 2, nameIndex := 5, descriptorIndex := 6, attributes := #[] }, { accessFlags := 9, nameIndex := 45, descriptorIndex := 46, attributes := #[] }] 49 2 #[] #[])
  fields := #[]
  methods := #[k23m0, k23m1]
  instanceTypes := #[]
  staticTypes := #[]
  resolved := Array.replicate 184 none
  statics := none }

def pool24 : Array CpInfo := pool [(2, .class_ 4), (1, u "java/lang/Object"), (0, u "<init>"), (0, u "()V"), (3, .class_ 11), (0, u "java/util/ImmutableCollections$List12"), (0, .class_ 13), (0, u "java/util/ImmutableCollections$ListN"), (3, u "Z"), (29, .class_ 49), (1, u "java/util/ImmutableCollections"), (0, u "$assertionsDisabled"), (5, u "[Ljava/lang/Object;"), (5, u "EMPTY_LIST"), (0, u "Ljava/util/ImmutableCollections$ListN;"), (8, u "EMPTY_LIST_NULLS"), (22, u "SALT32L"), (0, u "J"), (2, u "REVERSE"), (6, u "archivedObjects"), (2, u "EMPTY"), (0, u "Ljava/lang/Object;"), (0, .class_ 112), (0, u "java/util/ImmutableCollections$SetN"), (5, u "EMPTY_SET"), (0, u "Ljava/util/ImmutableCollections$SetN;"), (0, .class_ 121), (0, u "java/util/ImmutableCollections$MapN"), (3, u "EMPTY_MAP"), (0, u "Ljava/util/ImmutableCollections$MapN;"), (4, u "EXPAND_FACTOR"), (0, u "I"), (36, .class_ 170), (0, u "java/util/ImmutableCollections$MapN$MapNIterator"), (0, .class_ 172), (0, u "java/util/ImmutableCollections$MapN$1"), (0, .class_ 174), (0, u "java/util/ImmutableCollections$Map1"), (0, .class_ 176), (0, u "java/util/ImmutableCollections$AbstractImmutableMap"), (0, .class_ 178), (0, u "java/util/ImmutableCollections$SetN$SetNIterator"), (0, .class_ 180), (0, u "java/util/ImmutableCollections$Set12"), (0, .class_ 182), (0, u "java/util/ImmutableCollections$Set12$1"), (0, .class_ 184), (0, u "java/util/ImmutableCollections$AbstractImmutableSet"), (0, .class_ 186), (0, u "java/util/ImmutableCollections$SubList"), (0, .class_ 188), (0, u "java/util/ImmutableCollections$ListItr"), (0, .class_ 190), (0, u "java/util/ImmutableCollections$AbstractImmutableList"), (0, .class_ 192), (0, u "java/util/ImmutableCollections$AbstractImmutableCollection"), (0, .class_ 194), (0, u "java/util/ImmutableCollections$Access"), (0, .class_ 196), (0, u "java/util/ImmutableCollections$Access$1")] 16

def k24m0 : Method := { name := "<init>", desc := "()V", sig := { parameters := [], returnType := none }, accessFlags := 2, code := none }
/-- java/util/ImmutableCollections -/
def k24 : Class := { plain "java/util/ImmutableCollections" (some 0) with
  accessFlags := 32
  interfaces := #[]
  cf := some (fileOf pool24 47 #[.nestMembers #[120, 169, 171, 173, 175, 111, 177, 179, 181, 183, 12, 10, 185, 187, 189, 191, 193, 195]] #[{ accessFlags := 2, nameIndex := 5, descriptorIndex := 6, attributes := #[] }] 32 2 #[] #[{ accessFlags := 26, nameIndex := 95, descriptorIndex := 96, attributes := #[] }, { accessFlags := 26, nameIndex := 99, descriptorIndex := 17, attributes := #[] }, { accessFlags := 10, nameIndex := 106, descriptorIndex := 56, attributes := #[] }, { accessFlags := 26, nameIndex := 109, descriptorIndex := 110, attributes := #[] }, { accessFlags := 24, nameIndex := 62, descriptorIndex := 63, attributes := #[] }, { accessFlags := 24, nameIndex := 72, descriptorIndex := 63, attributes := #[] }, { accessFlags := 24, nameIndex := 118, descriptorIndex := 119, attributes := #[] }, { accessFlags := 24, nameIndex := 125, descriptorIndex := 126, attributes := #[] }, { accessFlags := 24, nameIndex := 131, descriptorIndex := 132, attributes := #[] }, { accessFlags := 4120, nameIndex := 50, descriptorIndex := 17, attributes := #[] }])
  fields := #[{ name := "SALT32L", type := .long, accessFlags := 26, slot := 0, constantValue := 0 }, { name := "REVERSE", type := .boolean, accessFlags := 26, slot := 1, constantValue := 0 }, { name := "archivedObjects", type := (.array (.object "java/lang/Object")), accessFlags := 10, slot := 2, constantValue := 0 }, { name := "EMPTY", type := (.object "java/lang/Object"), accessFlags := 26, slot := 3, constantValue := 0 }, { name := "EMPTY_LIST", type := (.object "java/util/ImmutableCollections$ListN"), accessFlags := 24, slot := 4, constantValue := 0 }, { name := "EMPTY_LIST_NULLS", type := (.object "java/util/ImmutableCollections$ListN"), accessFlags := 24, slot := 5, constantValue := 0 }, { name := "EMPTY_SET", type := (.object "java/util/ImmutableCollections$SetN"), accessFlags := 24, slot := 6, constantValue := 0 }, { name := "EMPTY_MAP", type := (.object "java/util/ImmutableCollections$MapN"), accessFlags := 24, slot := 7, constantValue := 0 }, { name := "EXPAND_FACTOR", type := .int, accessFlags := 24, slot := 8, constantValue := 0 }, { name := "$assertionsDisabled", type := .boolean, accessFlags := 4120, slot := 9, constantValue := 0 }]
  methods := #[k24m0]
  instanceTypes := #[]
  staticTypes := #[.long, .boolean, (.array (.object "java/lang/Object")), (.object "java/lang/Object"), (.object "java/util/ImmutableCollections$ListN"), (.object "java/util/ImmutableCollections$ListN"), (.object "java/util/ImmutableCollections$SetN"), (.object "java/util/ImmutableCollections$MapN"), .int, .boolean]
  resolved := Array.replicate 213 none
  statics := some 2 }

def pool25 : Array CpInfo := pool [(1, .class_ 2), (0, u "java/lang/Math"), (1, .class_ 6), (1, u "java/lang/Object"), (0, u "<init>"), (0, u "()V"), (89, .class_ 100), (1, u "java/lang/Math$RandomNumberGeneratorHolder"), (71, u "negativeZeroFloatBits"), (0, u "J"), (2, u "negativeZeroDoubleBits"), (21, u "max"), (46, u "$assertionsDisabled"), (0, u "Z"), (88, u "(II)I"), (2, u "twoToTheDoubleScaleDown"), (0, u "D"), (4, u "twoToTheDoubleScaleUp"), (9, u "E"), (3, u "PI"), (2, u "TAU"), (2, u "DEGREES_TO_RADIANS"), (0, u "RADIANS_TO_DEGREES")] 94

def k25m0 : Method := { name := "<init>", desc := "()V", sig := { parameters := [], returnType := none }, accessFlags := 2, code := none }
def k25c1 : Code := { maxStack := 2, maxLocals := 2, code := jdk_29_method_65_code, exceptionTable := #[], attributes := #[] }
def k25m1 : Method := { name := "max", desc := "(II)I", sig := { parameters := [.int, .int], returnType := some .int }, accessFlags := 9, code := some k25c1 }
/-- java/lang/Math -/
def k25 : Class := { plain "java/lang/Math" (some 0) with
  accessFlags := 49
  interfaces := #[]
  cf := some (fileOf pool25 1 #[.nestMembers #[98]] #[{ accessFlags := 2, nameIndex := 7, descriptorIndex := 8, attributes := #[] }, { accessFlags := 9, nameIndex := 198, descriptorIndex := 335, attributes := #[] }] 49 4 #[] #[{ accessFlags := 25, nameIndex := 354, descriptorIndex := 339, attributes := #[] }, { accessFlags := 25, nameIndex := 358, descriptorIndex := 339, attributes := #[] }, { accessFlags := 25, nameIndex := 361, descriptorIndex := 339, attributes := #[] }, { accessFlags := 26, nameIndex := 364, descriptorIndex := 339, attributes := #[] }, { accessFlags := 26, nameIndex := 365, descriptorIndex := 339, attributes := #[] }, { accessFlags := 26, nameIndex := 172, descriptorIndex := 173, attributes := #[] }, { accessFlags := 26, nameIndex := 176, descriptorIndex := 173, attributes := #[] }, { accessFlags := 8, nameIndex := 344, descriptorIndex := 339, attributes := #[] }, { accessFlags := 8, nameIndex := 338, descriptorIndex := 339, attributes := #[] }, { accessFlags := 4120, nameIndex := 245, descriptorIndex := 246, attributes := #[] }])
  fields := #[{ name := "E", type := .double, accessFlags := 25, slot := 0, constantValue := 0 }, { name := "PI", type := .double, accessFlags := 25, slot := 1, constantValue := 0 }, { name := "TAU", type := .double, accessFlags := 25, slot := 2, constantValue := 0 }, { name := "DEGREES_TO_RADIANS", type := .double, accessFlags := 26, slot := 3, constantValue := 0 }, { name := "RADIANS_TO_DEGREES", type := .double, accessFlags := 26, slot := 4, constantValue := 0 }, { name := "negativeZeroFloatBits", type := .long, accessFlags := 26, slot := 5, constantValue := 0 }, { name := "negativeZeroDoubleBits", type := .long, accessFlags := 26, slot := 6, constantValue := 0 }, { name := "twoToTheDoubleScaleUp", type := .double, accessFlags := 8, slot := 7, constantValue := 0 }, { name := "twoToTheDoubleScaleDown", type := .double, accessFlags := 8, slot := 8, constantValue := 0 }, { name := "$assertionsDisabled", type := .boolean, accessFlags := 4120, slot := 9, constantValue := 0 }]
  methods := #[k25m0, k25m1]
  instanceTypes := #[]
  staticTypes := #[.double, .double, .double, .double, .double, .long, .long, .double, .double, .boolean]
  resolved := Array.replicate 460 none
  statics := none }

def pool26 : Array CpInfo := pool [(4, .class_ 6), (1, u "java/lang/Object"), (0, u "<init>"), (0, u "()V"), (5, .class_ 16), (1, u "java/lang/StringLatin1"), (73, u "canEncode"), (14, u "(C)Z"), (15, u "$assertionsDisabled"), (0, u "Z"), (98, .class_ 223), (1, u "java/lang/StringLatin1$LinesSpliterator"), (156, u "toBytes"), (1, u "(C)[B"), (7, .class_ 391), (0, u "java/lang/StringLatin1$CharsSpliterator")] 3

def k26m0 : Method := { name := "<init>", desc := "()V", sig := { parameters := [], returnType := none }, accessFlags := 0, code := none }
def k26c1 : Code := { maxStack := 2, maxLocals := 1, code := jdk_43_method_3_code, exceptionTable := #[], attributes := #[] }
def k26m1 : Method := { name := "canEncode", desc := "(C)Z", sig := { parameters := [.char], returnType := some .boolean }, accessFlags := 9, code := some k26c1 }
def k26c2 : Code := { maxStack := 4, maxLocals := 1, code := jdk_43_method_46_code, exceptionTable := #[], attributes := #[] }
def k26m2 : Method := { name := "toBytes", desc := "(C)[B", sig := { parameters := [.char], returnType := some (.array .byte) }, accessFlags := 9, code := some k26c2 }
/-- java/lang/StringLatin1 -/
def k26 : Class := { plain "java/lang/StringLatin1" (some 0) with
  accessFlags := 48
  interfaces := #[]
  cf := some (fileOf pool26 14 #[.nestMembers #[390, 221]] #[{ accessFlags := 0, nameIndex := 7, descriptorIndex := 8, attributes := #[] }, { accessFlags := 9, nameIndex := 90, descriptorIndex := 105, attributes := #[] }, { accessFlags := 9, nameIndex := 380, descriptorIndex := 382, attributes := #[] }] 48 4 #[] #[{ accessFlags := 4120, nameIndex := 121, descriptorIndex := 122, attributes := #[] }])
  fields := #[{ name := "$assertionsDisabled", type := .boolean, accessFlags := 4120, slot := 0, constantValue := 0 }]
  methods := #[k26m0, k26m1, k26m2]
  instanceTypes := #[]
  staticTypes := #[.boolean]
  resolved := Array.replicate 395 none
  statics := none }

def pool27 : Array CpInfo := pool [(2, .class_ 4), (1, u "java/lang/Object"), (0, u "<init>"), (0, u "()V"), (17, .class_ 26), (1, u "jdk/internal/util/Preconditions"), (28, .class_ 56), (0, u "jdk/internal/util/Preconditions$4"), (57, .class_ 115), (0, u "jdk/internal/util/Preconditions$1"), (7, u "SIOOBE_FORMATTER"), (0, u "Ljava/util/function/BiFunction;"), (0, .class_ 126), (0, u "jdk/internal/util/Preconditions$2"), (3, u "AIOOBE_FORMATTER"), (0, .class_ 132), (0, u "jdk/internal/util/Preconditions$3"), (3, u "IOOBE_FORMATTER")] 57

def k27m0 : Method := { name := "<init>", desc := "()V", sig := { parameters := [], returnType := none }, accessFlags := 1, code := none }
/-- jdk/internal/util/Preconditions -/
def k27 : Class := { plain "jdk/internal/util/Preconditions" (some 0) with
  accessFlags := 33
  interfaces := #[]
  cf := some (fileOf pool27 24 #[.nestMembers #[55, 131, 125, 114]] #[{ accessFlags := 1, nameIndex := 5, descriptorIndex := 6, attributes := #[] }] 33 2 #[] #[{ accessFlags := 25, nameIndex := 123, descriptorIndex := 124, attributes := #[] }, { accessFlags := 25, nameIndex := 130, descriptorIndex := 124, attributes := #[] }, { accessFlags := 25, nameIndex := 136, descriptorIndex := 124, attributes := #[] }])
  fields := #[{ name := "SIOOBE_FORMATTER", type := (.object "java/util/function/BiFunction"), accessFlags := 25, slot := 0, constantValue := 0 }, { name := "AIOOBE_FORMATTER", type := (.object "java/util/function/BiFunction"), accessFlags := 25, slot := 1, constantValue := 0 }, { name := "IOOBE_FORMATTER", type := (.object "java/util/function/BiFunction"), accessFlags := 25, slot := 2, constantValue := 0 }]
  methods := #[k27m0]
  instanceTypes := #[]
  staticTypes := #[(.object "java/util/function/BiFunction"), (.object "java/util/function/BiFunction"), (.object "java/util/function/BiFunction")]
  resolved := Array.replicate 194 none
  statics := some 3 }

def pool28 : Array CpInfo := pool [(9, u "<init>"), (6, .class_ 18), (1, u "java/lang/Object"), (0, u "()V"), (1, .class_ 23), (1, u "jdk/internal/util/ArraysSupport"), (0, u "LOG2_ARRAY_LONG_INDEX_SCALE"), (0, u "I"), (2, u "U"), (0, u "Ljdk/internal/misc/Unsafe;"), (8, u "BIG_ENDIAN"), (0, u "Z"), (8, u "LOG2_BYTE_BIT_SIZE"), (4, u "LOG2_ARRAY_INT_INDEX_SCALE"), (54, u "JLA"), (0, u "Ljdk/internal/access/JavaLangAccess;"), (11, u "LOG2_ARRAY_BOOLEAN_INDEX_SCALE"), (9, u "LOG2_ARRAY_BYTE_INDEX_SCALE"), (5, u "LOG2_ARRAY_CHAR_INDEX_SCALE"), (5, u "LOG2_ARRAY_SHORT_INDEX_SCALE"), (18, u "LOG2_ARRAY_FLOAT_INDEX_SCALE"), (24, u "LOG2_ARRAY_DOUBLE_INDEX_SCALE"), (89, u "T_BOOLEAN"), (2, u "T_CHAR"), (1, u "T_FLOAT"), (1, u "T_DOUBLE"), (1, u "T_BYTE"), (1, u "T_SHORT"), (1, u "T_INT"), (1, u "T_LONG"), (1, u "SOFT_MAX_ARRAY_LENGTH")] 83

def k28m0 : Method := { name := "<init>", desc := "()V", sig := { parameters := [], returnType := none }, accessFlags := 2, code := none }
/-- jdk/internal/util/ArraysSupport -/
def k28 : Class := { plain "jdk/internal/util/ArraysSupport" (some 0) with
  accessFlags := 33
  interfaces := #[]
  cf := some (fileOf pool28 21 #[] #[{ accessFlags := 2, nameIndex := 9, descriptorIndex := 19, attributes := #[] }] 33 16 #[] #[{ accessFlags := 24, nameIndex := 28, descriptorIndex := 29, attributes := #[] }, { accessFlags := 26, nameIndex := 38, descriptorIndex := 39, attributes := #[] }, { accessFlags := 25, nameIndex := 121, descriptorIndex := 25, attributes := #[] }, { accessFlags := 25, nameIndex := 131, descriptorIndex := 25, attributes := #[] }, { accessFlags := 25, nameIndex := 137, descriptorIndex := 25, attributes := #[] }, { accessFlags := 25, nameIndex := 143, descriptorIndex := 25, attributes := #[] }, { accessFlags := 25, nameIndex := 53, descriptorIndex := 25, attributes := #[] }, { accessFlags := 25, nameIndex := 24, descriptorIndex := 25, attributes := #[] }, { accessFlags := 25, nameIndex := 162, descriptorIndex := 25, attributes := #[] }, { accessFlags := 25, nameIndex := 187, descriptorIndex := 25, attributes := #[] }, { accessFlags := 26, nameIndex := 48, descriptorIndex := 25, attributes := #[] }, { accessFlags := 25, nameIndex := 277, descriptorIndex := 25, attributes := #[] }, { accessFlags := 25, nameIndex := 280, descriptorIndex := 25, attributes := #[] }, { accessFlags := 25, nameIndex := 282, descriptorIndex := 25, attributes := #[] }, { accessFlags := 25, nameIndex := 284, descriptorIndex := 25, attributes := #[] }, { accessFlags := 25, nameIndex := 286, descriptorIndex := 25, attributes := #[] }, { accessFlags := 25, nameIndex := 288, descriptorIndex := 25, attributes := #[] }, { accessFlags := 25, nameIndex := 290, descriptorIndex := 25, attributes := #[] }, { accessFlags := 25, nameIndex := 292, descriptorIndex := 25, attributes := #[] }, { accessFlags := 26, nameIndex := 108, descriptorIndex := 109, attributes := #[] }, { accessFlags := 25, nameIndex := 294, descriptorIndex := 25, attributes := #[] }])
  fields := #[{ name := "U", type := (.object "jdk/internal/misc/Unsafe"), accessFlags := 24, slot := 0, constantValue := 0 }, { name := "BIG_ENDIAN", type := .boolean, accessFlags := 26, slot := 1, constantValue := 0 }, { name := "LOG2_ARRAY_BOOLEAN_INDEX_SCALE", type := .int, accessFlags := 25, slot := 2, constantValue := 0 }, { name := "LOG2_ARRAY_BYTE_INDEX_SCALE", type := .int, accessFlags := 25, slot := 3, constantValue := 0 }, { name := "LOG2_ARRAY_CHAR_INDEX_SCALE", type := .int, accessFlags := 25, slot := 4, constantValue := 0 }, { name := "LOG2_ARRAY_SHORT_INDEX_SCALE", type := .int, accessFlags := 25, slot := 5, constantValue := 0 }, { name := "LOG2_ARRAY_INT_INDEX_SCALE", type := .int, accessFlags := 25, slot := 6, constantValue := 0 }, { name := "LOG2_ARRAY_LONG_INDEX_SCALE", type := .int, accessFlags := 25, slot := 7, constantValue := 0 }, { name := "LOG2_ARRAY_FLOAT_INDEX_SCALE", type := .int, accessFlags := 25, slot := 8, constantValue := 0 }, { name := "LOG2_ARRAY_DOUBLE_INDEX_SCALE", type := .int, accessFlags := 25, slot := 9, constantValue := 0 }, { name := "LOG2_BYTE_BIT_SIZE", type := .int, accessFlags := 26, slot := 10, constantValue := 0 }, { name := "T_BOOLEAN", type := .int, accessFlags := 25, slot := 11, constantValue := 0 }, { name := "T_CHAR", type := .int, accessFlags := 25, slot := 12, constantValue := 0 }, { name := "T_FLOAT", type := .int, accessFlags := 25, slot := 13, constantValue := 0 }, { name := "T_DOUBLE", type := .int, accessFlags := 25, slot := 14, constantValue := 0 }, { name := "T_BYTE", type := .int, accessFlags := 25, slot := 15, constantValue := 0 }, { name := "T_SHORT", type := .int, accessFlags := 25, slot := 16, constantValue := 0 }, { name := "T_INT", type := .int, accessFlags := 25, slot := 17, constantValue := 0 }, { name := "T_LONG", type := .int, accessFlags := 25, slot := 18, constantValue := 0 }, { name := "JLA", type := (.object "jdk/internal/access/JavaLangAccess"), accessFlags := 26, slot := 19, constantValue := 0 }, { name := "SOFT_MAX_ARRAY_LENGTH", type := .int, accessFlags := 25, slot := 20, constantValue := 0 }]
  methods := #[k28m0]
  instanceTypes := #[]
  staticTypes := #[(.object "jdk/internal/misc/Unsafe"), .boolean, .int, .int, .int, .int, .int, .int, .int, .int, .int, .int, .int, .int, .int, .int, .int, .int, .int, (.object "jdk/internal/access/JavaLangAccess"), .int]
  resolved := Array.replicate 378 none
  statics := none }

def pool29 : Array CpInfo := pool [(2, .class_ 4), (1, u "java/util/ImmutableCollections$AbstractImmutableList"), (3, .class_ 10), (1, u "java/util/ImmutableCollections$ListN"), (0, u "elements"), (0, u "[Ljava/lang/Object;"), (2, u "allowNulls"), (0, u "Z"), (42, .class_ 60), (0, u "java/io/Serializable"), (53, .class_ 115), (0, u "java/util/ImmutableCollections")] 3

/-- java/util/ImmutableCollections$ListN -/
def k29 : Class := { plain "java/util/ImmutableCollections$ListN" (some 21) with
  accessFlags := 48
  interfaces := #[2]
  cf := some (fileOf pool29 8 #[.nestHost 114] #[] 48 2 #[59] #[{ accessFlags := 18, nameIndex := 11, descriptorIndex := 12, attributes := #[] }, { accessFlags := 18, nameIndex := 15, descriptorIndex := 16, attributes := #[] }])
  fields := #[{ name := "elements", type := (.array (.object "java/lang/Object")), accessFlags := 18, slot := 0, constantValue := 0 }, { name := "allowNulls", type := .boolean, accessFlags := 18, slot := 1, constantValue := 0 }]
  methods := #[]
  instanceTypes := #[(.array (.object "java/lang/Object")), .boolean]
  staticTypes := #[]
  resolved := Array.replicate 119 none
  statics := none }

/-- the primitive byte -/
def k30 : Class := { plain "byte" none with kind := .primitive 'B', accessFlags := 0x411 }
/-- [B -/
def k31 : Class := { plain "[B" (some 0) with kind := .array 30 .byte, interfaces := #[16, 2], accessFlags := 1041 }

/-- the primitive char -/
def k32 : Class := { plain "char" none with kind := .primitive 'C', accessFlags := 0x411 }
/-- [C -/
def k33 : Class := { plain "[C" (some 0) with kind := .array 32 .char, interfaces := #[16, 2], accessFlags := 1041 }

/-- the primitive int -/
def k34 : Class := { plain "int" none with kind := .primitive 'I', accessFlags := 0x411 }
/-- [I -/
def k35 : Class := { plain "[I" (some 0) with kind := .array 34 .int, interfaces := #[16, 2], accessFlags := 1041 }

/-- [Ljava/lang/Object; -/
def k36 : Class := { plain "[Ljava/lang/Object;" (some 0) with kind := .array 0 (.object "java/lang/Object"), interfaces := #[16, 2], accessFlags := 1041 }

def heap : Heap := #[{ cls := 7, slots := #[.long 0, .int 1, .null, .int 0, .null, .int 0, .int 0], vm := .statics 7 },
  { cls := 17, slots := #[.long 0, .int 0, .ref 4, .ref 5], vm := .statics 17 },
  { cls := 24, slots := #[.long 0, .int 0, .null, .ref 6, .ref 7, .null, .null, .null, .int 0, .int 1], vm := .statics 24 },
  { cls := 27, slots := #[.null, .null, .null], vm := .statics 27 },
  { cls := 36, slots := #[], vm := .none },
  { cls := 36, slots := #[], vm := .none },
  { cls := 0, slots := #[], vm := .none },
  { cls := 29, slots := #[.null, .int 0], vm := .none }]
def classes : Array Class := #[k0, k1, k2, k3, k4, k5, k6, k7, k8, k9, k10, k11, k12, k13, k14, k15, k16, k17, k18, k19, k20, k21, k22, k23, k24, k25, k26, k27, k28, k29, k30, k31, k32, k33, k34, k35, k36]
def interned : List (Array UInt16 × Addr) := []
def slotsUsed : Nat := 26
def theMethod : MethodId := ⟨1, 1⟩
def args0 : Array Value := #[.int 5, .int 7, .int 2, .int 66, .int 3]
def aboutOver (below : List Frame) : State where
  vm := { classes := classes, interned := interned.toArray }
  heap := heap
  slotsUsed := slotsUsed
  threads := #[{ frames := .invoking theMethod args0 :: below }]
def below0 : List Frame := [.native { method := ⟨0, 0⟩, args := #[] }]
def about1 : State := aboutOver below0
def p0 : Program := .bare "" "" ""
def e0 : Env := launch0.env 0 0 0
theorem w_frames : about1.frames = Frame.invoking theMethod args0 :: below0 := rfl
set_option maxRecDepth 65536 in
theorem w_args : argsFit about1.vm theMethod args0 = true := by decide +kernel
set_option maxRecDepth 65536 in
theorem w_heap : heapFits about1 = true := by decide +kernel
set_option maxRecDepth 65536 in
theorem w_runnable : about1.curStatus? = some .runnable := by decide +kernel
set_option maxRecDepth 65536 in
theorem w_alone : about1.alone = true := by decide +kernel
set_option maxRecDepth 65536 in
theorem w_named : about1.methodNamed? x = some theMethod := by decide +kernel
set_option maxRecDepth 65536 in
theorem w_hears : about1.hears theMethod below0 = true := by decide +kernel
set_option maxRecDepth 65536 in
theorem w_ripe : about1.ripe theMethod args0 below0 = true := by decide +kernel
theorem w_running : about1.status = .running := rfl
set_option maxRecDepth 65536 in
theorem w_room : about1.hasRoom e0.platform room_1 = true :=
  launch0.hasRoom_least _ room_1 (by decide +kernel) (by decide +kernel) (by decide +kernel) (by decide +kernel) (by decide +kernel) (by decide +kernel)
theorem allAtoms_all (ts : List Jvm.Cond) (a : Array Jvm.Value) (st : Jvm.State) : (allAtoms ts).before a st = ts.all (fun c => c.before a st) := by
  induction ts with
  | nil => rfl
  | cons c t ih =>
    show (Jvm.Cond.and c (allAtoms t)).before a st = _
    rw [Jvm.Cond.before_and, ih, List.all_cons]
def words1 : List Jvm.Cond := Jvm.Cond.code x code maxLocals ret :: tables_1
/-- a 'code' word, met by the world's own term for the bytes: nothing is compared byte by byte -/
theorem code_word {y : MethodName} {bytes : ByteArray} {mx : Nat} {rt : Option FieldType} {a : Array Value} {s : State} {m : MethodId} {meth : Method} {c : Code} (h1 : s.methodNamed? y = some m) (h2 : s.vm.method? m = some meth) (h3 : meth.code = some c) (h4 : c.code = bytes)
    (h5 : (c.maxLocals == mx && c.exceptionTable.isEmpty && decide (c.maxStack ≤ mostOperands) && decide (meth.sig.returnType = rt) && !meth.locks && decide (parseMethodDescriptor y.desc = some meth.sig)) = true) : (Jvm.Cond.code y bytes mx rt).before a s = true := by
  simp only [Bool.and_eq_true, beq_iff_eq, Bool.not_eq_true', decide_eq_true_eq] at h5
  obtain ⟨⟨⟨⟨⟨g1, g2⟩, g3⟩, g4⟩, g5⟩, g6⟩ := h5
  simp [Cond.before, Cond.holds, Cond.value, h1, h2, h3, h4, g1, g2, g3, g4, g5, g6]
def isCode : Jvm.Cond → Bool
  | .code _ _ _ _ => true
  | _ => false
theorem all_split {L : List Jvm.Cond} {P : Jvm.Cond → Bool} (h1 : L.all (fun c => isCode c || P c) = true) (h2 : ∀ c ∈ L.filter isCode, P c = true) : L.all P = true := by
  refine List.all_eq_true.mpr fun c hc => ?_
  have h := List.all_eq_true.mp h1 c hc
  rcases Bool.eq_false_or_eq_true (isCode c) with hi | hi
  · exact h2 c (List.mem_filter.mpr ⟨hc, hi⟩)
  · simpa [hi] using h
set_option maxRecDepth 65536 in
theorem w_c0 : (Jvm.Cond.code x code maxLocals ret).before args0 about1 = true := code_word (m := ⟨1, 1⟩) (meth := k1m1) (c := k1c1) (by decide +kernel) rfl rfl rfl (by decide +kernel)
set_option maxRecDepth 65536 in
theorem w_c1 : (Jvm.Cond.code ({ cls := "com/example/bolter/bolter/model/DefinitionAsPinLaw", name := "draw", desc := "(I)Ljava/lang/String;" } : Jvm.MethodName) method_3_code (2 : Nat) (Option.some (Jvm.ClassFile.FieldType.object "java/lang/String"))).before args0 about1 = true := code_word (m := ⟨1, 2⟩) (meth := k1m2) (c := k1c2) (by decide +kernel) rfl rfl rfl (by decide +kernel)
set_option maxRecDepth 65536 in
theorem w_c2 : (Jvm.Cond.code ({ cls := "java/lang/String", name := "<init>", desc := "([C)V" } : Jvm.MethodName) jdk_42_method_3_code (2 : Nat) (Option.none : Option Jvm.ClassFile.FieldType)).before args0 about1 = true := code_word (m := ⟨7, 1⟩) (meth := k7m1) (c := k7c1) (by decide +kernel) rfl rfl rfl (by decide +kernel)
set_option maxRecDepth 65536 in
theorem w_c3 : (Jvm.Cond.code ({ cls := "java/lang/String", name := "<init>", desc := "([CIILjava/lang/Void;)V" } : Jvm.MethodName) jdk_42_method_149_code (6 : Nat) (Option.none : Option Jvm.ClassFile.FieldType)).before args0 about1 = true := code_word (m := ⟨7, 4⟩) (meth := k7m4) (c := k7c4) (by decide +kernel) rfl rfl rfl (by decide +kernel)
set_option maxRecDepth 65536 in
theorem w_c4 : (Jvm.Cond.code ({ cls := "java/lang/Object", name := "<init>", desc := "()V" } : Jvm.MethodName) object_method_1_code (1 : Nat) (Option.none : Option Jvm.ClassFile.FieldType)).before args0 about1 = true := code_word (m := ⟨0, 0⟩) (meth := k0m0) (c := k0c0) (by decide +kernel) rfl rfl rfl (by decide +kernel)
set_option maxRecDepth 65536 in
theorem w_c5 : (Jvm.Cond.code ({ cls := "java/lang/StringUTF16", name := "compress", desc := "([CII)[B" } : Jvm.MethodName) jdk_52_method_16_code (6 : Nat) (Option.some (Jvm.ClassFile.FieldType.array Jvm.ClassFile.FieldType.byte))).before args0 about1 = true := code_word (m := ⟨8, 2⟩) (meth := k8m2) (c := k8c2) (by decide +kernel) rfl rfl rfl (by decide +kernel)
set_option maxRecDepth 65536 in
theorem w_c6 : (Jvm.Cond.code ({ cls := "java/lang/StringUTF16", name := "compress", desc := "([CI[BII)I" } : Jvm.MethodName) jdk_52_method_21_code (7 : Nat) (Option.some Jvm.ClassFile.FieldType.int)).before args0 about1 = true := code_word (m := ⟨8, 3⟩) (meth := k8m3) (c := k8c3) (by decide +kernel) rfl rfl rfl (by decide +kernel)
set_option maxRecDepth 65536 in
theorem w_c7 : (Jvm.Cond.code ({ cls := "java/lang/StringUTF16", name := "coderFromArrayLen", desc := "([BI)B" } : Jvm.MethodName) jdk_52_method_15_code (2 : Nat) (Option.some Jvm.ClassFile.FieldType.byte)).before args0 about1 = true := code_word (m := ⟨8, 1⟩) (meth := k8m1) (c := k8c1) (by decide +kernel) rfl rfl rfl (by decide +kernel)
set_option maxRecDepth 65536 in
theorem w_c8 : (Jvm.Cond.code ({ cls := "java/util/ArrayList", name := "<init>", desc := "()V" } : Jvm.MethodName) jdk_38_method_2_code (1 : Nat) (Option.none : Option Jvm.ClassFile.FieldType)).before args0 about1 = true := code_word (m := ⟨17, 0⟩) (meth := k17m0) (c := k17c0) (by decide +kernel) rfl rfl rfl (by decide +kernel)
set_option maxRecDepth 65536 in
theorem w_c9 : (Jvm.Cond.code ({ cls := "java/util/AbstractList", name := "<init>", desc := "()V" } : Jvm.MethodName) jdk_39_method_1_code (1 : Nat) (Option.none : Option Jvm.ClassFile.FieldType)).before args0 about1 = true := code_word (m := ⟨14, 0⟩) (meth := k14m0) (c := k14c0) (by decide +kernel) rfl rfl rfl (by decide +kernel)
set_option maxRecDepth 65536 in
theorem w_c10 : (Jvm.Cond.code ({ cls := "java/util/AbstractCollection", name := "<init>", desc := "()V" } : Jvm.MethodName) jdk_22_method_1_code (1 : Nat) (Option.none : Option Jvm.ClassFile.FieldType)).before args0 about1 = true := code_word (m := ⟨11, 0⟩) (meth := k11m0) (c := k11c0) (by decide +kernel) rfl rfl rfl (by decide +kernel)
set_option maxRecDepth 65536 in
theorem w_c11 : (Jvm.Cond.code ({ cls := "com/example/bolter/bolter/model/ElementDefinitions$Definition", name := "<init>", desc := "(Ljava/lang/String;Ljava/util/List;Ljava/lang/String;ZI)V" } : Jvm.MethodName) prog_11_method_1_code (6 : Nat) (Option.none : Option Jvm.ClassFile.FieldType)).before args0 about1 = true := code_word (m := ⟨19, 0⟩) (meth := k19m0) (c := k19c0) (by decide +kernel) rfl rfl rfl (by decide +kernel)
set_option maxRecDepth 65536 in
theorem w_c12 : (Jvm.Cond.code ({ cls := "java/lang/Record", name := "<init>", desc := "()V" } : Jvm.MethodName) jdk_30_method_1_code (1 : Nat) (Option.none : Option Jvm.ClassFile.FieldType)).before args0 about1 = true := code_word (m := ⟨18, 0⟩) (meth := k18m0) (c := k18c0) (by decide +kernel) rfl rfl rfl (by decide +kernel)
set_option maxRecDepth 65536 in
theorem w_c13 : (Jvm.Cond.code ({ cls := "com/example/bolter/bolter/model/ElementDefinitions$Definition", name := "as", desc := "(Ljava/lang/String;)Lcom/example/bolter/bolter/model/ElementDefinitions$Definition;" } : Jvm.MethodName) prog_11_method_4_code (2 : Nat) (Option.some (Jvm.ClassFile.FieldType.object "com/example/bolter/bolter/model/ElementDefinitions$Definition"))).before args0 about1 = true := code_word (m := ⟨19, 2⟩) (meth := k19m2) (c := k19c2) (by decide +kernel) rfl rfl rfl (by decide +kernel)
set_option maxRecDepth 65536 in
theorem w_c14 : (Jvm.Cond.code ({ cls := "java/util/List", name := "of", desc := "(Ljava/lang/Object;)Ljava/util/List;" } : Jvm.MethodName) jdk_40_method_37_code (1 : Nat) (Option.some (Jvm.ClassFile.FieldType.object "java/util/List"))).before args0 about1 = true := code_word (m := ⟨13, 2⟩) (meth := k13m2) (c := k13c2) (by decide +kernel) rfl rfl rfl (by decide +kernel)
set_option maxRecDepth 65536 in
theorem w_c15 : (Jvm.Cond.code ({ cls := "java/util/ImmutableCollections$List12", name := "<init>", desc := "(Ljava/lang/Object;)V" } : Jvm.MethodName) jdk_44_method_1_code (2 : Nat) (Option.none : Option Jvm.ClassFile.FieldType)).before args0 about1 = true := code_word (m := ⟨22, 0⟩) (meth := k22m0) (c := k22c0) (by decide +kernel) rfl rfl rfl (by decide +kernel)
set_option maxRecDepth 65536 in
theorem w_c16 : (Jvm.Cond.code ({ cls := "java/util/ImmutableCollections$AbstractImmutableList", name := "<init>", desc := "()V" } : Jvm.MethodName) jdk_46_method_1_code (1 : Nat) (Option.none : Option Jvm.ClassFile.FieldType)).before args0 about1 = true := code_word (m := ⟨21, 0⟩) (meth := k21m0) (c := k21c0) (by decide +kernel) rfl rfl rfl (by decide +kernel)
set_option maxRecDepth 65536 in
theorem w_c17 : (Jvm.Cond.code ({ cls := "java/util/ImmutableCollections$AbstractImmutableCollection", name := "<init>", desc := "()V" } : Jvm.MethodName) jdk_47_method_1_code (1 : Nat) (Option.none : Option Jvm.ClassFile.FieldType)).before args0 about1 = true := code_word (m := ⟨20, 0⟩) (meth := k20m0) (c := k20c0) (by decide +kernel) rfl rfl rfl (by decide +kernel)
set_option maxRecDepth 65536 in
theorem w_c18 : (Jvm.Cond.code ({ cls := "java/util/Objects", name := "requireNonNull", desc := "(Ljava/lang/Object;)Ljava/lang/Object;" } : Jvm.MethodName) jdk_31_method_10_code (1 : Nat) (Option.some (Jvm.ClassFile.FieldType.object "java/lang/Object"))).before args0 about1 = true := code_word (m := ⟨23, 1⟩) (meth := k23m1) (c := k23c1) (by decide +kernel) rfl rfl rfl (by decide +kernel)
set_option maxRecDepth 65536 in
theorem w_c19 : (Jvm.Cond.code ({ cls := "com/example/bolter/bolter/model/ElementDefinitions$Definition", name := "types", desc := "()Ljava/util/List;" } : Jvm.MethodName) prog_11_method_10_code (1 : Nat) (Option.some (Jvm.ClassFile.FieldType.object "java/util/List"))).before args0 about1 = true := code_word (m := ⟨19, 4⟩) (meth := k19m4) (c := k19c4) (by decide +kernel) rfl rfl rfl (by decide +kernel)
set_option maxRecDepth 65536 in
theorem w_c20 : (Jvm.Cond.code ({ cls := "com/example/bolter/bolter/model/ElementDefinitions$Definition", name := "valueSet", desc := "()Ljava/lang/String;" } : Jvm.MethodName) prog_11_method_11_code (1 : Nat) (Option.some (Jvm.ClassFile.FieldType.object "java/lang/String"))).before args0 about1 = true := code_word (m := ⟨19, 5⟩) (meth := k19m5) (c := k19c5) (by decide +kernel) rfl rfl rfl (by decide +kernel)
set_option maxRecDepth 65536 in
theorem w_c21 : (Jvm.Cond.code ({ cls := "java/lang/String", name := "equals", desc := "(Ljava/lang/Object;)Z" } : Jvm.MethodName) jdk_42_method_66_code (3 : Nat) (Option.some Jvm.ClassFile.FieldType.boolean)).before args0 about1 = true := code_word (m := ⟨7, 2⟩) (meth := k7m2) (c := k7c2) (by decide +kernel) rfl rfl rfl (by decide +kernel)
set_option maxRecDepth 65536 in
theorem w_c22 : (Jvm.Cond.code ({ cls := "com/example/bolter/bolter/model/ElementDefinitions$Definition", name := "path", desc := "()Ljava/lang/String;" } : Jvm.MethodName) prog_11_method_9_code (1 : Nat) (Option.some (Jvm.ClassFile.FieldType.object "java/lang/String"))).before args0 about1 = true := code_word (m := ⟨19, 3⟩) (meth := k19m3) (c := k19c3) (by decide +kernel) rfl rfl rfl (by decide +kernel)
set_option maxRecDepth 65536 in
theorem w_c23 : (Jvm.Cond.code ({ cls := "java/util/ImmutableCollections$List12", name := "size", desc := "()I" } : Jvm.MethodName) jdk_44_method_3_code (1 : Nat) (Option.some Jvm.ClassFile.FieldType.int)).before args0 about1 = true := code_word (m := ⟨22, 1⟩) (meth := k22m1) (c := k22c1) (by decide +kernel) rfl rfl rfl (by decide +kernel)
set_option maxRecDepth 65536 in
theorem w_c24 : (Jvm.Cond.code ({ cls := "java/util/ImmutableCollections$List12", name := "get", desc := "(I)Ljava/lang/Object;" } : Jvm.MethodName) jdk_44_method_5_code (2 : Nat) (Option.some (Jvm.ClassFile.FieldType.object "java/lang/Object"))).before args0 about1 = true := code_word (m := ⟨22, 2⟩) (meth := k22m2) (c := k22c2) (by decide +kernel) rfl rfl rfl (by decide +kernel)
set_option maxRecDepth 65536 in
theorem w_c25 : (Jvm.Cond.code ({ cls := "com/example/bolter/bolter/model/ElementDefinitions$Definition", name := "type", desc := "()Ljava/lang/String;" } : Jvm.MethodName) prog_11_method_3_code (1 : Nat) (Option.some (Jvm.ClassFile.FieldType.object "java/lang/String"))).before args0 about1 = true := code_word (m := ⟨19, 1⟩) (meth := k19m1) (c := k19c1) (by decide +kernel) rfl rfl rfl (by decide +kernel)
set_option maxRecDepth 65536 in
theorem w_c26 : (Jvm.Cond.code ({ cls := "com/example/bolter/bolter/model/ElementDefinitions$Definition", name := "summary", desc := "()Z" } : Jvm.MethodName) prog_11_method_12_code (1 : Nat) (Option.some Jvm.ClassFile.FieldType.boolean)).before args0 about1 = true := code_word (m := ⟨19, 6⟩) (meth := k19m6) (c := k19c6) (by decide +kernel) rfl rfl rfl (by decide +kernel)
set_option maxRecDepth 65536 in
theorem w_c27 : (Jvm.Cond.code ({ cls := "com/example/bolter/bolter/model/ElementDefinitions$Definition", name := "min", desc := "()I" } : Jvm.MethodName) prog_11_method_13_code (1 : Nat) (Option.some Jvm.ClassFile.FieldType.int)).before args0 about1 = true := code_word (m := ⟨19, 7⟩) (meth := k19m7) (c := k19c7) (by decide +kernel) rfl rfl rfl (by decide +kernel)
set_option maxRecDepth 65536 in
theorem w_c28 : (Jvm.Cond.code ({ cls := "java/util/ArrayList", name := "size", desc := "()I" } : Jvm.MethodName) jdk_38_method_8_code (1 : Nat) (Option.some Jvm.ClassFile.FieldType.int)).before args0 about1 = true := code_word (m := ⟨17, 3⟩) (meth := k17m3) (c := k17c3) (by decide +kernel) rfl rfl rfl (by decide +kernel)
set_option maxRecDepth 65536 in
theorem w_c29 : (Jvm.Cond.code ({ cls := "java/util/ArrayList", name := "add", desc := "(Ljava/lang/Object;)Z" } : Jvm.MethodName) jdk_38_method_25_code (2 : Nat) (Option.some Jvm.ClassFile.FieldType.boolean)).before args0 about1 = true := code_word (m := ⟨17, 5⟩) (meth := k17m5) (c := k17c5) (by decide +kernel) rfl rfl rfl (by decide +kernel)
set_option maxRecDepth 65536 in
theorem w_c30 : (Jvm.Cond.code ({ cls := "java/util/ArrayList", name := "add", desc := "(Ljava/lang/Object;[Ljava/lang/Object;I)V" } : Jvm.MethodName) jdk_38_method_24_code (4 : Nat) (Option.none : Option Jvm.ClassFile.FieldType)).before args0 about1 = true := code_word (m := ⟨17, 4⟩) (meth := k17m4) (c := k17c4) (by decide +kernel) rfl rfl rfl (by decide +kernel)
set_option maxRecDepth 65536 in
theorem w_c31 : (Jvm.Cond.code ({ cls := "java/util/ArrayList", name := "grow", desc := "()[Ljava/lang/Object;" } : Jvm.MethodName) jdk_38_method_7_code (1 : Nat) (Option.some (Jvm.ClassFile.FieldType.array (Jvm.ClassFile.FieldType.object "java/lang/Object")))).before args0 about1 = true := code_word (m := ⟨17, 2⟩) (meth := k17m2) (c := k17c2) (by decide +kernel) rfl rfl rfl (by decide +kernel)
set_option maxRecDepth 65536 in
theorem w_c32 : (Jvm.Cond.code ({ cls := "java/util/ArrayList", name := "grow", desc := "(I)[Ljava/lang/Object;" } : Jvm.MethodName) jdk_38_method_6_code (4 : Nat) (Option.some (Jvm.ClassFile.FieldType.array (Jvm.ClassFile.FieldType.object "java/lang/Object")))).before args0 about1 = true := code_word (m := ⟨17, 1⟩) (meth := k17m1) (c := k17c1) (by decide +kernel) rfl rfl rfl (by decide +kernel)
set_option maxRecDepth 65536 in
theorem w_c33 : (Jvm.Cond.code ({ cls := "java/lang/Math", name := "max", desc := "(II)I" } : Jvm.MethodName) jdk_29_method_65_code (2 : Nat) (Option.some Jvm.ClassFile.FieldType.int)).before args0 about1 = true := code_word (m := ⟨25, 1⟩) (meth := k25m1) (c := k25c1) (by decide +kernel) rfl rfl rfl (by decide +kernel)
set_option maxRecDepth 65536 in
theorem w_c34 : (Jvm.Cond.code ({ cls := "java/lang/String", name := "valueOf", desc := "(C)Ljava/lang/String;" } : Jvm.MethodName) jdk_42_method_139_code (1 : Nat) (Option.some (Jvm.ClassFile.FieldType.object "java/lang/String"))).before args0 about1 = true := code_word (m := ⟨7, 3⟩) (meth := k7m3) (c := k7c3) (by decide +kernel) rfl rfl rfl (by decide +kernel)
set_option maxRecDepth 65536 in
theorem w_c35 : (Jvm.Cond.code ({ cls := "java/lang/StringLatin1", name := "canEncode", desc := "(C)Z" } : Jvm.MethodName) jdk_43_method_3_code (1 : Nat) (Option.some Jvm.ClassFile.FieldType.boolean)).before args0 about1 = true := code_word (m := ⟨26, 1⟩) (meth := k26m1) (c := k26c1) (by decide +kernel) rfl rfl rfl (by decide +kernel)
set_option maxRecDepth 65536 in
theorem w_c36 : (Jvm.Cond.code ({ cls := "java/lang/StringLatin1", name := "toBytes", desc := "(C)[B" } : Jvm.MethodName) jdk_43_method_46_code (1 : Nat) (Option.some (Jvm.ClassFile.FieldType.array Jvm.ClassFile.FieldType.byte))).before args0 about1 = true := code_word (m := ⟨26, 2⟩) (meth := k26m2) (c := k26c2) (by decide +kernel) rfl rfl rfl (by decide +kernel)
set_option maxRecDepth 65536 in
theorem w_c37 : (Jvm.Cond.code ({ cls := "java/lang/String", name := "<init>", desc := "([BB)V" } : Jvm.MethodName) jdk_42_method_151_code (3 : Nat) (Option.none : Option Jvm.ClassFile.FieldType)).before args0 about1 = true := code_word (m := ⟨7, 5⟩) (meth := k7m5) (c := k7c5) (by decide +kernel) rfl rfl rfl (by decide +kernel)
def codes1 : List Jvm.Cond := [Jvm.Cond.code x code maxLocals ret, Jvm.Cond.code ({ cls := "com/example/bolter/bolter/model/DefinitionAsPinLaw", name := "draw", desc := "(I)Ljava/lang/String;" } : Jvm.MethodName) method_3_code (2 : Nat) (Option.some (Jvm.ClassFile.FieldType.object "java/lang/String")), Jvm.Cond.code ({ cls := "java/lang/String", name := "<init>", desc := "([C)V" } : Jvm.MethodName) jdk_42_method_3_code (2 : Nat) (Option.none : Option Jvm.ClassFile.FieldType), Jvm.Cond.code ({ cls := "java/lang/String", name := "<init>", desc := "([CIILjava/lang/Void;)V" } : Jvm.MethodName) jdk_42_method_149_code (6 : Nat) (Option.none : Option Jvm.ClassFile.FieldType), Jvm.Cond.code ({ cls := "java/lang/Object", name := "<init>", desc := "()V" } : Jvm.MethodName) object_method_1_code (1 : Nat) (Option.none : Option Jvm.ClassFile.FieldType), Jvm.Cond.code ({ cls := "java/lang/StringUTF16", name := "compress", desc := "([CII)[B" } : Jvm.MethodName) jdk_52_method_16_code (6 : Nat) (Option.some (Jvm.ClassFile.FieldType.array Jvm.ClassFile.FieldType.byte)), Jvm.Cond.code ({ cls := "java/lang/StringUTF16", name := "compress", desc := "([CI[BII)I" } : Jvm.MethodName) jdk_52_method_21_code (7 : Nat) (Option.some Jvm.ClassFile.FieldType.int), Jvm.Cond.code ({ cls := "java/lang/StringUTF16", name := "coderFromArrayLen", desc := "([BI)B" } : Jvm.MethodName) jdk_52_method_15_code (2 : Nat) (Option.some Jvm.ClassFile.FieldType.byte), Jvm.Cond.code ({ cls := "java/util/ArrayList", name := "<init>", desc := "()V" } : Jvm.MethodName) jdk_38_method_2_code (1 : Nat) (Option.none : Option Jvm.ClassFile.FieldType), Jvm.Cond.code ({ cls := "java/util/AbstractList", name := "<init>", desc := "()V" } : Jvm.MethodName) jdk_39_method_1_code (1 : Nat) (Option.none : Option Jvm.ClassFile.FieldType), Jvm.Cond.code ({ cls := "java/util/AbstractCollection", name := "<init>", desc := "()V" } : Jvm.MethodName) jdk_22_method_1_code (1 : Nat) (Option.none : Option Jvm.ClassFile.FieldType), Jvm.Cond.code ({ cls := "com/example/bolter/bolter/model/ElementDefinitions$Definition", name := "<init>", desc := "(Ljava/lang/String;Ljava/util/List;Ljava/lang/String;ZI)V" } : Jvm.MethodName) prog_11_method_1_code (6 : Nat) (Option.none : Option Jvm.ClassFile.FieldType), Jvm.Cond.code ({ cls := "java/lang/Record", name := "<init>", desc := "()V" } : Jvm.MethodName) jdk_30_method_1_code (1 : Nat) (Option.none : Option Jvm.ClassFile.FieldType), Jvm.Cond.code ({ cls := "com/example/bolter/bolter/model/ElementDefinitions$Definition", name := "as", desc := "(Ljava/lang/String;)Lcom/example/bolter/bolter/model/ElementDefinitions$Definition;" } : Jvm.MethodName) prog_11_method_4_code (2 : Nat) (Option.some (Jvm.ClassFile.FieldType.object "com/example/bolter/bolter/model/ElementDefinitions$Definition")), Jvm.Cond.code ({ cls := "java/util/List", name := "of", desc := "(Ljava/lang/Object;)Ljava/util/List;" } : Jvm.MethodName) jdk_40_method_37_code (1 : Nat) (Option.some (Jvm.ClassFile.FieldType.object "java/util/List")), Jvm.Cond.code ({ cls := "java/util/ImmutableCollections$List12", name := "<init>", desc := "(Ljava/lang/Object;)V" } : Jvm.MethodName) jdk_44_method_1_code (2 : Nat) (Option.none : Option Jvm.ClassFile.FieldType), Jvm.Cond.code ({ cls := "java/util/ImmutableCollections$AbstractImmutableList", name := "<init>", desc := "()V" } : Jvm.MethodName) jdk_46_method_1_code (1 : Nat) (Option.none : Option Jvm.ClassFile.FieldType), Jvm.Cond.code ({ cls := "java/util/ImmutableCollections$AbstractImmutableCollection", name := "<init>", desc := "()V" } : Jvm.MethodName) jdk_47_method_1_code (1 : Nat) (Option.none : Option Jvm.ClassFile.FieldType), Jvm.Cond.code ({ cls := "java/util/Objects", name := "requireNonNull", desc := "(Ljava/lang/Object;)Ljava/lang/Object;" } : Jvm.MethodName) jdk_31_method_10_code (1 : Nat) (Option.some (Jvm.ClassFile.FieldType.object "java/lang/Object")), Jvm.Cond.code ({ cls := "com/example/bolter/bolter/model/ElementDefinitions$Definition", name := "types", desc := "()Ljava/util/List;" } : Jvm.MethodName) prog_11_method_10_code (1 : Nat) (Option.some (Jvm.ClassFile.FieldType.object "java/util/List")), Jvm.Cond.code ({ cls := "com/example/bolter/bolter/model/ElementDefinitions$Definition", name := "valueSet", desc := "()Ljava/lang/String;" } : Jvm.MethodName) prog_11_method_11_code (1 : Nat) (Option.some (Jvm.ClassFile.FieldType.object "java/lang/String")), Jvm.Cond.code ({ cls := "java/lang/String", name := "equals", desc := "(Ljava/lang/Object;)Z" } : Jvm.MethodName) jdk_42_method_66_code (3 : Nat) (Option.some Jvm.ClassFile.FieldType.boolean), Jvm.Cond.code ({ cls := "com/example/bolter/bolter/model/ElementDefinitions$Definition", name := "path", desc := "()Ljava/lang/String;" } : Jvm.MethodName) prog_11_method_9_code (1 : Nat) (Option.some (Jvm.ClassFile.FieldType.object "java/lang/String")), Jvm.Cond.code ({ cls := "java/util/ImmutableCollections$List12", name := "size", desc := "()I" } : Jvm.MethodName) jdk_44_method_3_code (1 : Nat) (Option.some Jvm.ClassFile.FieldType.int), Jvm.Cond.code ({ cls := "java/util/ImmutableCollections$List12", name := "get", desc := "(I)Ljava/lang/Object;" } : Jvm.MethodName) jdk_44_method_5_code (2 : Nat) (Option.some (Jvm.ClassFile.FieldType.object "java/lang/Object")), Jvm.Cond.code ({ cls := "com/example/bolter/bolter/model/ElementDefinitions$Definition", name := "type", desc := "()Ljava/lang/String;" } : Jvm.MethodName) prog_11_method_3_code (1 : Nat) (Option.some (Jvm.ClassFile.FieldType.object "java/lang/String")), Jvm.Cond.code ({ cls := "com/example/bolter/bolter/model/ElementDefinitions$Definition", name := "summary", desc := "()Z" } : Jvm.MethodName) prog_11_method_12_code (1 : Nat) (Option.some Jvm.ClassFile.FieldType.boolean), Jvm.Cond.code ({ cls := "com/example/bolter/bolter/model/ElementDefinitions$Definition", name := "min", desc := "()I" } : Jvm.MethodName) prog_11_method_13_code (1 : Nat) (Option.some Jvm.ClassFile.FieldType.int), Jvm.Cond.code ({ cls := "java/util/ArrayList", name := "size", desc := "()I" } : Jvm.MethodName) jdk_38_method_8_code (1 : Nat) (Option.some Jvm.ClassFile.FieldType.int), Jvm.Cond.code ({ cls := "java/util/ArrayList", name := "add", desc := "(Ljava/lang/Object;)Z" } : Jvm.MethodName) jdk_38_method_25_code (2 : Nat) (Option.some Jvm.ClassFile.FieldType.boolean), Jvm.Cond.code ({ cls := "java/util/ArrayList", name := "add", desc := "(Ljava/lang/Object;[Ljava/lang/Object;I)V" } : Jvm.MethodName) jdk_38_method_24_code (4 : Nat) (Option.none : Option Jvm.ClassFile.FieldType), Jvm.Cond.code ({ cls := "java/util/ArrayList", name := "grow", desc := "()[Ljava/lang/Object;" } : Jvm.MethodName) jdk_38_method_7_code (1 : Nat) (Option.some (Jvm.ClassFile.FieldType.array (Jvm.ClassFile.FieldType.object "java/lang/Object"))), Jvm.Cond.code ({ cls := "java/util/ArrayList", name := "grow", desc := "(I)[Ljava/lang/Object;" } : Jvm.MethodName) jdk_38_method_6_code (4 : Nat) (Option.some (Jvm.ClassFile.FieldType.array (Jvm.ClassFile.FieldType.object "java/lang/Object"))), Jvm.Cond.code ({ cls := "java/lang/Math", name := "max", desc := "(II)I" } : Jvm.MethodName) jdk_29_method_65_code (2 : Nat) (Option.some Jvm.ClassFile.FieldType.int), Jvm.Cond.code ({ cls := "java/lang/String", name := "valueOf", desc := "(C)Ljava/lang/String;" } : Jvm.MethodName) jdk_42_method_139_code (1 : Nat) (Option.some (Jvm.ClassFile.FieldType.object "java/lang/String")), Jvm.Cond.code ({ cls := "java/lang/StringLatin1", name := "canEncode", desc := "(C)Z" } : Jvm.MethodName) jdk_43_method_3_code (1 : Nat) (Option.some Jvm.ClassFile.FieldType.boolean), Jvm.Cond.code ({ cls := "java/lang/StringLatin1", name := "toBytes", desc := "(C)[B" } : Jvm.MethodName) jdk_43_method_46_code (1 : Nat) (Option.some (Jvm.ClassFile.FieldType.array Jvm.ClassFile.FieldType.byte)), Jvm.Cond.code ({ cls := "java/lang/String", name := "<init>", desc := "([BB)V" } : Jvm.MethodName) jdk_42_method_151_code (3 : Nat) (Option.none : Option Jvm.ClassFile.FieldType)]
set_option maxRecDepth 65536 in
theorem codes_eq : words1.filter isCode = codes1 := rfl
theorem w_codes : ∀ c ∈ words1.filter isCode, c.before args0 about1 = true := by
  rw [codes_eq]
  intro c hc
  simp only [codes1, List.mem_cons, List.not_mem_nil, or_false] at hc
  rcases hc with rfl | rfl | rfl | rfl | rfl | rfl | rfl | rfl | rfl | rfl | rfl | rfl | rfl | rfl | rfl | rfl | rfl | rfl | rfl | rfl | rfl | rfl | rfl | rfl | rfl | rfl | rfl | rfl | rfl | rfl | rfl | rfl | rfl | rfl | rfl | rfl | rfl | rfl
  · exact w_c0
  · exact w_c1
  · exact w_c2
  · exact w_c3
  · exact w_c4
  · exact w_c5
  · exact w_c6
  · exact w_c7
  · exact w_c8
  · exact w_c9
  · exact w_c10
  · exact w_c11
  · exact w_c12
  · exact w_c13
  · exact w_c14
  · exact w_c15
  · exact w_c16
  · exact w_c17
  · exact w_c18
  · exact w_c19
  · exact w_c20
  · exact w_c21
  · exact w_c22
  · exact w_c23
  · exact w_c24
  · exact w_c25
  · exact w_c26
  · exact w_c27
  · exact w_c28
  · exact w_c29
  · exact w_c30
  · exact w_c31
  · exact w_c32
  · exact w_c33
  · exact w_c34
  · exact w_c35
  · exact w_c36
  · exact w_c37
set_option maxRecDepth 65536 in
theorem w_t1 : (words1.take 24).all (fun c => isCode c || c.before args0 about1) = true := by decide +kernel
set_option maxRecDepth 65536 in
theorem w_t2 : ((words1.drop 24).take 24).all (fun c => isCode c || c.before args0 about1) = true := by decide +kernel
set_option maxRecDepth 65536 in
theorem w_t3 : (((words1.drop 24).drop 24).take 24).all (fun c => isCode c || c.before args0 about1) = true := by decide +kernel
set_option maxRecDepth 65536 in
theorem w_t4 : ((((words1.drop 24).drop 24).drop 24).take 24).all (fun c => isCode c || c.before args0 about1) = true := by decide +kernel
set_option maxRecDepth 65536 in
theorem w_t5 : (((((words1.drop 24).drop 24).drop 24).drop 24).take 24).all (fun c => isCode c || c.before args0 about1) = true := by decide +kernel
set_option maxRecDepth 65536 in
theorem w_t6 : ((((((words1.drop 24).drop 24).drop 24).drop 24).drop 24).take 24).all (fun c => isCode c || c.before args0 about1) = true := by decide +kernel
set_option maxRecDepth 65536 in
theorem w_t7 : (((((((words1.drop 24).drop 24).drop 24).drop 24).drop 24).drop 24).take 24).all (fun c => isCode c || c.before args0 about1) = true := by decide +kernel
set_option maxRecDepth 65536 in
theorem w_t8 : ((((((((words1.drop 24).drop 24).drop 24).drop 24).drop 24).drop 24).drop 24).take 24).all (fun c => isCode c || c.before args0 about1) = true := by decide +kernel
set_option maxRecDepth 65536 in
theorem w_t9 : (((((((((words1.drop 24).drop 24).drop 24).drop 24).drop 24).drop 24).drop 24).drop 24).take 24).all (fun c => isCode c || c.before args0 about1) = true := by decide +kernel
set_option maxRecDepth 65536 in
theorem w_t10 : (((((((((words1.drop 24).drop 24).drop 24).drop 24).drop 24).drop 24).drop 24).drop 24).drop 24).all (fun c => isCode c || c.before args0 about1) = true := by decide +kernel
theorem w_tables : (allAtoms (Jvm.Cond.code x code maxLocals ret :: tables_1)).before args0 about1 = true := by
  rw [allAtoms_all]
  show words1.all (fun c => c.before args0 about1) = true
  refine all_split ?_ w_codes
  rw [← List.take_append_drop 24 words1, List.all_append, w_t1, ← List.take_append_drop 24 (words1.drop 24), List.all_append, w_t2, ← List.take_append_drop 24 ((words1.drop 24).drop 24), List.all_append, w_t3, ← List.take_append_drop 24 (((words1.drop 24).drop 24).drop 24), List.all_append, w_t4, ← List.take_append_drop 24 ((((words1.drop 24).drop 24).drop 24).drop 24), List.all_append, w_t5, ← List.take_append_drop 24 (((((words1.drop 24).drop 24).drop 24).drop 24).drop 24), List.all_append, w_t6, ← List.take_append_drop 24 ((((((words1.drop 24).drop 24).drop 24).drop 24).drop 24).drop 24), List.all_append, w_t7, ← List.take_append_drop 24 (((((((words1.drop 24).drop 24).drop 24).drop 24).drop 24).drop 24).drop 24), List.all_append, w_t8, ← List.take_append_drop 24 ((((((((words1.drop 24).drop 24).drop 24).drop 24).drop 24).drop 24).drop 24).drop 24), List.all_append, w_t9, w_t10]
  rfl
set_option maxRecDepth 65536 in
theorem w_rest : rest_1_c.before args0 about1 = true := by decide +kernel
set_option maxRecDepth 65536 in
theorem w_case : (Jvm.Cond.and given_1 narrow_1).before args0 about1 = true := by decide +kernel
theorem w_applies : (headSpec (Jvm.Cond.code x code maxLocals ret :: tables_1) room_1).applies x e0.platform about1 = true :=
  (Spec.applies_iff w_frames).mpr ⟨w_running, w_runnable, w_alone, w_named, w_hears, w_ripe, w_room, w_tables⟩
theorem atStart : AtStart classFile x code maxLocals ret World_1 tables_1 room_1 Calls_1 rest_1 Pre_1 launch0 p0 e0 about1 theMethod args0 below0 :=
  ⟨lists_1, trivial, launch0.admits_env _ _ _, launch0.least_env, fairChoices_fair.cas, fairChoices_fair.clock, w_frames, w_args, w_heap, w_applies, trivial, w_rest, w_case⟩
end start1
theorem witness_1 : WitnessClaimed_1 := ⟨start1.p0, start1.e0, start1.about1, start1.theMethod, start1.args0, start1.below0, start1.atStart⟩
end Jvm.Pilot.@@N@@
